import JvmDerived
import JvmDerived.Pilot.@@N@@Statement
import JvmDerived.Pilot.@@N@@Code
set_option linter.unusedVariables false
set_option linter.unusedSimpArgs false
namespace Jvm.RoadKit
open Sem ClassFile Op Lib Jvm.Stand Jvm.Free Jvm.LawKit
section New
variable {p : Program} {l : Launch} {e : Env} {R : Room} {s : State} {m : MethodId} {args : Array Value} {below : List Frame} {meth : Method} {c : Code} {T : State} {locs : List Loc} {cells slots : Nat}
theorem retI (X : Stand p l e R s m args below meth c T locs cells slots) (hx : p.tables.exec = Jvm.exec) {pc : Nat} {Ls : Array Slot} {z : Int32} {rest : List Value} (hret : meth.sig.returnType = some .int) (hd : decode c.code pc = .ok (.ireturn, 1)) {fs : List Frame}
    (hl : ∀ (f : JFrame) (acts : List Action), f.method = m → f.locked = none → f.entered = [] → (doReturn e (T.setTop f) acts (some (.int z))).1 = T.setFrames fs) : Steps p.tables e below (T.setTop (mkF m pc Ls (.int z :: rest))) (T.setFrames fs) := by
  have hm' : T.vm.method? m = some meth := X.method'
  have hn : narrow .int (.int z) = .int z := rfl
  show Steps p.tables e below (T.setTop { method := m, pc := pc, locals := Ls, stack := _ :: rest, locked := none }) _
  jvm_step X.here [X.here.top, hx, hd, hm', hret, hn]
  first | (intro acts; rw [hl _ acts rfl rfl rfl]) | rw [hl _ _ rfl rfl rfl]
  exact Steps.refl _
end New
end Jvm.RoadKit
namespace Jvm.Pilot.@@N@@
open Jvm Jvm.ClassFile Sem Op Lib Jvm.Free Jvm.Stand Jvm.LawKit Jvm.RoadKit Bundle Jvm.Pilot.@@N@@.Jvm.D
theorem own_nm {a b : Addr} {l : List Addr} (h : a ≠ b) (r : a ∉ l) : a ∉ b :: l := fun q => (List.mem_cons.mp q).elim h r
theorem own_n0 {a : Addr} : a ∉ ([] : List Addr) := fun q => nomatch q
theorem own_nst {Z : State} {h : Heap} {a : Addr} {C : String} (F : Exa Z h a C) : ∃ c : Cell, h[a]? = some c ∧ c.vm.isStatics = false := by obtain ⟨c, k, h1, -, -, h4, -⟩ := F; exact ⟨c, h1, h4⟩
theorem own_nstV {Z : State} {h : Heap} {a : Addr} {k : ClassId} {ty : FieldType} {z : Int32} {vs : List Value} {dv : Value} (F : Arv Z h a k ty z vs dv) : ∃ c : Cell, h[a]? = some c ∧ c.vm.isStatics = false := by
  obtain ⟨c, A, -⟩ := F
  refine ⟨c, A.1, ?_⟩
  have q := A.2.1.1
  cases e : c.vm <;> first | rfl | exact absurd e (q _)
theorem own_q0 {h : Heap} : ∀ x ∈ ([] : List Addr), ∃ c : Cell, h[x]? = some c ∧ c.vm.isStatics = false := fun _ q => nomatch q
theorem own_qc {h : Heap} {a : Addr} {l : List Addr} (p : ∃ c : Cell, h[a]? = some c ∧ c.vm.isStatics = false) (r : ∀ x ∈ l, ∃ c : Cell, h[x]? = some c ∧ c.vm.isStatics = false) : ∀ x ∈ a :: l, ∃ c : Cell, h[x]? = some c ∧ c.vm.isStatics = false := fun x q => (List.mem_cons.mp q).elim (fun e => e ▸ p) (r x)
theorem own_sta_keep {Z : State} {h h' : Heap} {ws : List Addr} {C n d : String} {v : Value} (F : Sta Z h C n d v) (K : Keep h h' ws) (q : ∀ x ∈ ws, ∃ c : Cell, h[x]? = some c ∧ c.vm.isStatics = false) : Sta Z h' C n d v := by
  obtain ⟨cf, i, k, f, st, cell, h1, h2, h3, h4, h5, h6, h7⟩ := F
  refine ⟨cf, i, k, f, st, cell, h1, h2, h3, h4, K.2.1 _ _ h5 fun z => ?_, h6, h7⟩
  obtain ⟨c, g1, g2⟩ := q _ z
  cases h5.symm.trans g1; rw [h6] at g2; cases g2
theorem own_eqI {a b : Term} {args : Array Value} {first s : State} {o : Option Outcome} {idx : List Nat} {k : Int32} (h : (Jvm.Cond.eq a b).value args first o s idx = some true) (hb : b.eval args first o idx s = some (.int k)) : a.eval args first o idx s = some (.int k) := by
  obtain ⟨x, y, ha, hb', K, K'⟩ := cmp_v (Or.inl h)
  cases hb.symm.trans hb'
  obtain ⟨z, rfl⟩ := K'
  simp [Cond.value, ha, hb] at h
  rw [ha, h]
theorem own_eqR {a b : Term} {args : Array Value} {first s : State} {o : Option Outcome} {idx : List Nat} {k : Addr} (h : (Jvm.Cond.eq a b).value args first o s idx = some true) (hb : b.eval args first o idx s = some (.ref k)) : a.eval args first o idx s = some (.ref k) := by
  obtain ⟨x, y, ha, hb', K, K'⟩ := cmp_v (Or.inl h)
  cases hb.symm.trans hb'
  have q := gotT (eq_R ha hb K'.2 rfl) h
  rw [ha, q]
abbrev vI (x : Int32) : Slot := .val (.int x)
abbrev vL (x : Int64) : Slot := .val (.long x)
abbrev vA (x : Addr) : Slot := .val (.ref x)
abbrev vD (x : UInt64) : Slot := .val (.double x)
abbrev vU : Slot := .unset
abbrev vS : Slot := .second

theorem own_i32 (x : Int32) : x.toInt = if x.toUInt32.toNat < 2^31 then (x.toUInt32.toNat : Int) else (x.toUInt32.toNat : Int) - 2^32 := by
  have h : x.toInt = x.toBitVec.toInt := rfl
  have h2 : x.toUInt32.toNat = x.toBitVec.toNat := rfl
  rw [h, h2, BitVec.toInt_eq_toNat_cond]
  split <;> split <;> omega
theorem own_mask (x m : Int32) (k : Nat) (hk : k ≤ 31) (hm : m.toUInt32.toNat = 2 ^ k - 1) : (x &&& m).toInt = x.toInt % 2 ^ k := by
  have e : (x &&& m).toUInt32.toNat = x.toUInt32.toNat % 2 ^ k := by
    rw [Int32.toUInt32_and, UInt32.toNat_and, hm, Nat.and_two_pow_sub_one_eq_mod]
  have hp : (2 ^ k : Nat) ≤ 2 ^ 31 := Nat.pow_le_pow_right (by decide) hk
  have hd : (2 ^ k : Nat) ∣ 2 ^ 32 := Nat.pow_dvd_pow 2 (by omega)
  have hpos : 0 < (2 ^ k : Nat) := Nat.pow_pos (by decide)
  have hlt : x.toUInt32.toNat % 2 ^ k < 2 ^ k := Nat.mod_lt _ hpos
  rw [own_i32 (x &&& m), e, if_pos (by omega), own_i32 x]
  have hc : ((2 : Int) ^ k) = ((2 ^ k : Nat) : Int) := by simp
  rw [hc]
  split
  · exact (Int.natCast_emod _ _)
  · obtain ⟨c, hc2⟩ := hd
    have : ((x.toUInt32.toNat : Int) - 2 ^ 32) = (x.toUInt32.toNat : Int) + ((2 ^ k : Nat) : Int) * (-(c : Int)) := by
      have : ((2 : Int) ^ 32) = ((2 ^ k : Nat) : Int) * (c : Int) := by exact_mod_cast hc2
      rw [this, Int.mul_neg]; rfl
    rw [this, Int.add_mul_emod_self_left]
    exact (Int.natCast_emod _ _)
theorem own_mod (y n : Int32) (hy : 0 ≤ y.toInt) (hn : 0 < n.toInt) : (y - y / n * n).toInt = y.toInt % n.toInt := by
  have b1 := y.toInt_lt; have b2 := n.toInt_lt
  have hd : (y / n).toInt = y.toInt / n.toInt := by
    rw [Int32.toInt_div_of_ne_right y n (by intro h; rw [h] at hn; exact absurd hn (by decide)), Int.tdiv_eq_ediv_of_nonneg hy]
  have h1 : 0 ≤ y.toInt / n.toInt := Int.ediv_nonneg hy (by omega)
  have h2 : y.toInt / n.toInt * n.toInt ≤ y.toInt := Int.ediv_mul_le _ (by omega)
  have h3 : 0 ≤ y.toInt / n.toInt * n.toInt := Int.mul_nonneg h1 (by omega)
  have hmul : (y / n * n).toInt = y.toInt / n.toInt * n.toInt := by
    rw [Int32.toInt_mul, hd]; apply Int.bmod_eq_of_le <;> omega
  rw [Int32.toInt_sub, hmul]
  have h4 := Int.emod_def y.toInt n.toInt
  rw [Int.mul_comm] at h4
  rw [h4]; apply Int.bmod_eq_of_le <;> omega
theorem own_pos (x : Int32) : 0 ≤ (x &&& 2147483647).toInt := by
  rw [own_mask x 2147483647 31 (by decide) (by decide)]; exact Int.emod_nonneg _ (by decide)
theorem own_add (x y : Int32) (h1 : -2147483648 ≤ x.toInt + y.toInt) (h2 : x.toInt + y.toInt < 2147483648) : (x + y).toInt = x.toInt + y.toInt := by
  rw [Int32.toInt_add]; apply Int.bmod_eq_of_le <;> omega
theorem own_and3 (x : Int32) : x &&& 3 = 0 ∨ x &&& 3 = 1 ∨ x &&& 3 = 2 ∨ x &&& 3 = 3 := by
  have h := own_mask x 3 2 (by decide) (by decide)
  have h2 : x.toInt % 2 ^ 2 = 0 ∨ x.toInt % 2 ^ 2 = 1 ∨ x.toInt % 2 ^ 2 = 2 ∨ x.toInt % 2 ^ 2 = 3 := by omega
  rcases h2 with q | q | q | q
  · exact Or.inl (Int32.toInt_inj.mp (by rw [h, q]; rfl))
  · exact Or.inr (Or.inl (Int32.toInt_inj.mp (by rw [h, q]; rfl)))
  · exact Or.inr (Or.inr (Or.inl (Int32.toInt_inj.mp (by rw [h, q]; rfl))))
  · exact Or.inr (Or.inr (Or.inr (Int32.toInt_inj.mp (by rw [h, q]; rfl))))
theorem own_m255 (x : Int32) : (x &&& 255).toUInt32.toNat < 256 := by
  rw [Int32.toUInt32_and, UInt32.toNat_and, show (255 : Int32).toUInt32.toNat = 2 ^ 8 - 1 from by decide, Nat.and_two_pow_sub_one_eq_mod]
  exact Nat.mod_lt _ (by decide)
theorem own_cc (y : Int32) (h : y.toUInt32.toNat < 256) : (y.toUInt32.toUInt16.toUInt32.toInt32).toUInt32.toNat < 256 := by
  show (y.toUInt32.toUInt16.toUInt32).toNat < 256
  rw [UInt16.toNat_toUInt32, UInt32.toNat_toUInt16]
  omega
theorem own_le255 (y : Int32) (h : y.toUInt32.toNat < 256) : ¬ ((255 : Int32) < y) := by
  rw [Int32.lt_iff_toInt_lt, show (255 : Int32).toInt = 255 from by decide, own_i32 y, if_pos (by omega)]
  omega
theorem d14_0 : decode jdk_30_method_1_code 0 = .ok (.aload_n 0, 1) := by decide +kernel
theorem d14_1 : decode jdk_30_method_1_code 1 = .ok (.invokespecial 1, 3) := by decide +kernel
theorem d14_4 : decode jdk_30_method_1_code 4 = .ok (.return_, 1) := by decide +kernel
theorem pn_14 : plainName "java/lang/Record" = true := by first | (simp [plainName, overriddenIn]; done) | decide +kernel
theorem ef_14 (m : MethodId) (x0 : Addr) : entryFrame m #[(.ref x0)] 1 = mkF m 0 #[.val (.ref x0)] [] := by first | (simp [entryFrame, mkF, argsToLocals, Value.category]; done) | rfl
def Q_rm14 (Z : State) (a1 : Addr) (h0 : Heap) (n0 : Nat) (v : Option Value) (h : Heap) (L : List Loc) : Prop := v = none ∧ Fr n0 L ∧ h = h0
set_option maxRecDepth 65536 in
set_option maxHeartbeats 40000000 in
theorem rm14 (l : Launch) (Z : State) (a0 : Array Value) (hw : ∀ d ∈ tables_1, d.before a0 Z = true) (ws : List Jvm.Cond) (a1 : Addr) (h0 : Heap) (n0 : Nat) (Z0 : n0 ≤ h0.size) :
    MetFree l (⟨"java/lang/Record", "<init>", "()V"⟩ : MethodName) (head1 (Jvm.Cond.code (⟨"java/lang/Record", "<init>", "()V"⟩ : MethodName) jdk_30_method_1_code 1 none :: ws) ({ frames := 1, cells := 0, slots := 0, locals := 12 } : Room)) (fun a U => a = #[(.ref a1)] ∧ Z.Warmed39 U.vm ∧ U.heap = h0) (fun _ _ _ _ _ => True) (fun _ U o U' => ∃ v L, o = .returned v ∧ Q_rm14 Z a1 h0 n0 v U'.heap L ∧ FrameEnd U o U' L ({ frames := 1, cells := 0, slots := 0, locals := 12 } : Room).cells ({ frames := 1, cells := 0, slots := 0, locals := 12 } : Room).slots) := by
  have hi : ∀ (i : Nat) {d : Jvm.Cond}, tables_1[i]? = some d → d.before a0 Z = true := fun i d h => hw d (List.mem_of_getElem? h)
  refine MetFree.of_bodySF (plainFor_of_name pn_14) hisR ?_
  intro p e s m args below meth c s₁ Bd hml0 hP hK
  obtain ⟨rfl, hZ, hh⟩ := hP
  have hx := Bd.exec
  have hby := Bd.bytes
  have hml : c.maxLocals = 1 := hml0
  have hown : s.vm.findClass "java/lang/Record" = some m.cls := findClass_of_methodNamed Bd.named
  have hnm := (name_of_methodNamed Bd.named Bd.method).1
  have X0 : Stand p l e ({ frames := 1, cells := 0, slots := 0, locals := 12 } : Room) s m #[(.ref a1)] below meth c s₁ [] 0 0 := Stand.of_body Bd
  have e0 : s₁.heap = h0 := by rw [← hh, Bd.state]; rfl
  have N0 := Fr.nil n0
  have pre0 : ∀ t, Steps p.tables e below (s₁.setTop (mkF m 0 #[vA a1] [])) t → Steps p.tables e below (s₁.setTop (entryFrame m #[(.ref a1)] 1)) t := fun t k => castTop (ef_14 m a1) k
  obtain ⟨T2, X2, e2, st2⟩ := initO X0 hx hZ hown (hi 67 rfl) (hi 12 rfl) (hi 13 rfl) e0 (g := (mkF m 1 #[vA a1] [(.ref a1)])) rfl (by rw [hml]; rfl) rfl (hb hby d14_1) (by decide) (W := 0) (by show 2 * 0 + _ ≤ _; exact Nat.le_of_eq rfl) (by decide)
  obtain ⟨fs, hr, hrun, hended, hW, hsame⟩ := X2.leave (v := none) (fun _ => rfl)
  refine ⟨_, _, pre0 _ ?_, hrun, hended, _, _, rfl, ?_, ⟨_, rfl⟩, hW, hsame.mono (by decide) (by decide)⟩
  · show Steps p.tables e below (s₁.setTop (mkF m 0 #[vA a1] [])) _
    refine XS.aloadN X0.here hx rfl (hb hby d14_0) rfl rfl ?_
    show Steps p.tables e below (s₁.setTop (mkF m 1 #[vA a1] [(.ref a1)])) _
    refine st2 _ ?_
    show Steps p.tables e below (T2.setTop (mkF m 4 #[vA a1] [])) _
    exact X2.returnOut hx Bd.returns (hb hby d14_4) hr
  · show Q_rm14 Z a1 h0 n0 _ T2.heap _
    exact ⟨rfl, N0, e2⟩
def F8 (p1 : Int32) : Int32 := (if (255 : Int32) < p1 then (0 : Int32) else (1 : Int32))
theorem d8_0 : decode jdk_43_method_3_code 0 = .ok (.iload_n 0, 1) := by decide +kernel
theorem d8_1 : decode jdk_43_method_3_code 1 = .ok (.sipush 255, 3) := by decide +kernel
theorem d8_4 : decode jdk_43_method_3_code 4 = .ok (.if_icmp .gt 7, 3) := by decide +kernel
theorem d8_7 : decode jdk_43_method_3_code 7 = .ok (.iconst 1, 1) := by decide +kernel
theorem d8_8 : decode jdk_43_method_3_code 8 = .ok (.goto 4, 3) := by decide +kernel
theorem d8_12 : decode jdk_43_method_3_code 12 = .ok (.ireturn, 1) := by decide +kernel
theorem pn_8 : plainName "java/lang/StringLatin1" = true := by first | (simp [plainName, overriddenIn]; done) | decide +kernel
theorem ef_8 (m : MethodId) (x0 : Int32) : entryFrame m #[(.int x0)] 1 = mkF m 0 #[.val (.int x0)] [] := by first | (simp [entryFrame, mkF, argsToLocals, Value.category]; done) | rfl
theorem d8_11 : decode jdk_43_method_3_code 11 = .ok (.iconst 0, 1) := by decide +kernel
def Q_rm8 (Z : State) (p1 : Int32) (h0 : Heap) (n0 : Nat) (v : Option Value) (h : Heap) (L : List Loc) : Prop := v = some (.int (F8 p1)) ∧ Fr n0 L ∧ h = h0
set_option maxRecDepth 65536 in
set_option maxHeartbeats 40000000 in
theorem rm8_f (l : Launch) (Z : State) (a0 : Array Value) (hw : ∀ d ∈ tables_1, d.before a0 Z = true) (ws : List Jvm.Cond) (p1 : Int32) (h0 : Heap) (n0 : Nat) (Z0 : n0 ≤ h0.size) (hc4 : ¬ ((255 : Int32) < p1)) :
    MetFree l (⟨"java/lang/StringLatin1", "canEncode", "(C)Z"⟩ : MethodName) (head1 (Jvm.Cond.code (⟨"java/lang/StringLatin1", "canEncode", "(C)Z"⟩ : MethodName) jdk_43_method_3_code 1 (some .boolean) :: ws) ({ frames := 0, cells := 0, slots := 0, locals := 0 } : Room)) (fun a U => a = #[(.int p1)] ∧ Z.Warmed39 U.vm ∧ U.heap = h0) (fun _ _ _ _ _ => True) (fun _ U o U' => ∃ v L, o = .returned v ∧ Q_rm8 Z p1 h0 n0 v U'.heap L ∧ FrameEnd U o U' L ({ frames := 0, cells := 0, slots := 0, locals := 0 } : Room).cells ({ frames := 0, cells := 0, slots := 0, locals := 0 } : Room).slots) := by
  have hi : ∀ (i : Nat) {d : Jvm.Cond}, tables_1[i]? = some d → d.before a0 Z = true := fun i d h => hw d (List.mem_of_getElem? h)
  refine MetFree.of_bodySF (plainFor_of_name pn_8) hisR ?_
  intro p e s m args below meth c s₁ Bd hml0 hP hK
  obtain ⟨rfl, hZ, hh⟩ := hP
  have hx := Bd.exec
  have hby := Bd.bytes
  have hml : c.maxLocals = 1 := hml0
  have hown : s.vm.findClass "java/lang/StringLatin1" = some m.cls := findClass_of_methodNamed Bd.named
  have hnm := (name_of_methodNamed Bd.named Bd.method).1
  have X0 : Stand p l e ({ frames := 0, cells := 0, slots := 0, locals := 0 } : Room) s m #[(.int p1)] below meth c s₁ [] 0 0 := Stand.of_body Bd
  have e0 : s₁.heap = h0 := by rw [← hh, Bd.state]; rfl
  have N0 := Fr.nil n0
  have pre0 : ∀ t, Steps p.tables e below (s₁.setTop (mkF m 0 #[vI p1] [])) t → Steps p.tables e below (s₁.setTop (entryFrame m #[(.int p1)] 1)) t := fun t k => castTop (ef_8 m p1) k
  obtain ⟨fs, hr, hrun, hended, hW, hsame⟩ := X0.leave (v := some (.int (1 : Int32))) (fun h => by rw [Bd.returns] at h; cases h)
  refine ⟨_, _, pre0 _ ?_, hrun, hended, _, _, rfl, ?_, ⟨_, rfl⟩, hW, hsame.mono (by decide) (by decide)⟩
  · show Steps p.tables e below (s₁.setTop (mkF m 0 #[vI p1] [])) _
    refine XS.iloadN X0.here hx rfl (hb hby d8_0) rfl ?_
    refine XS.sipush X0.here hx rfl (hb hby d8_1) ?_
    show Steps p.tables e below (s₁.setTop (mkF m 4 #[vI p1] [(.int (255 : Int32)), (.int p1)])) _
    refine XS.icmpNo X0.here hx rfl (hb hby d8_4) rfl (flt hc4).2.2.1 ?_
    refine XS.iconst X0.here hx rfl (hb hby d8_7) ?_
    show Steps p.tables e below (s₁.setTop (mkF m 8 #[vI p1] [(.int (1 : Int32))])) _
    refine XS.goto X0.here hx rfl (pc0 := 8) (pc' := 12) rfl (hb hby d8_8) (by decide) (by decide) ?_
    show Steps p.tables e below (s₁.setTop (mkF m 12 #[vI p1] [(.int (1 : Int32))])) _
    exact retN X0 hx (t := .boolean) Bd.returns (by simp) (hb hby d8_12) hr
  · show Q_rm8 Z p1 h0 n0 _ s₁.heap _
    exact ⟨by rw [F8, if_neg hc4], N0, e0⟩
set_option maxRecDepth 65536 in
set_option maxHeartbeats 40000000 in
theorem rm8_t (l : Launch) (Z : State) (a0 : Array Value) (hw : ∀ d ∈ tables_1, d.before a0 Z = true) (ws : List Jvm.Cond) (p1 : Int32) (h0 : Heap) (n0 : Nat) (Z0 : n0 ≤ h0.size) (hc4 : (255 : Int32) < p1) :
    MetFree l (⟨"java/lang/StringLatin1", "canEncode", "(C)Z"⟩ : MethodName) (head1 (Jvm.Cond.code (⟨"java/lang/StringLatin1", "canEncode", "(C)Z"⟩ : MethodName) jdk_43_method_3_code 1 (some .boolean) :: ws) ({ frames := 0, cells := 0, slots := 0, locals := 0 } : Room)) (fun a U => a = #[(.int p1)] ∧ Z.Warmed39 U.vm ∧ U.heap = h0) (fun _ _ _ _ _ => True) (fun _ U o U' => ∃ v L, o = .returned v ∧ Q_rm8 Z p1 h0 n0 v U'.heap L ∧ FrameEnd U o U' L ({ frames := 0, cells := 0, slots := 0, locals := 0 } : Room).cells ({ frames := 0, cells := 0, slots := 0, locals := 0 } : Room).slots) := by
  have hi : ∀ (i : Nat) {d : Jvm.Cond}, tables_1[i]? = some d → d.before a0 Z = true := fun i d h => hw d (List.mem_of_getElem? h)
  refine MetFree.of_bodySF (plainFor_of_name pn_8) hisR ?_
  intro p e s m args below meth c s₁ Bd hml0 hP hK
  obtain ⟨rfl, hZ, hh⟩ := hP
  have hx := Bd.exec
  have hby := Bd.bytes
  have hml : c.maxLocals = 1 := hml0
  have hown : s.vm.findClass "java/lang/StringLatin1" = some m.cls := findClass_of_methodNamed Bd.named
  have hnm := (name_of_methodNamed Bd.named Bd.method).1
  have X0 : Stand p l e ({ frames := 0, cells := 0, slots := 0, locals := 0 } : Room) s m #[(.int p1)] below meth c s₁ [] 0 0 := Stand.of_body Bd
  have e0 : s₁.heap = h0 := by rw [← hh, Bd.state]; rfl
  have N0 := Fr.nil n0
  have pre0 : ∀ t, Steps p.tables e below (s₁.setTop (mkF m 0 #[vI p1] [])) t → Steps p.tables e below (s₁.setTop (entryFrame m #[(.int p1)] 1)) t := fun t k => castTop (ef_8 m p1) k
  obtain ⟨fs, hr, hrun, hended, hW, hsame⟩ := X0.leave (v := some (.int (0 : Int32))) (fun h => by rw [Bd.returns] at h; cases h)
  refine ⟨_, _, pre0 _ ?_, hrun, hended, _, _, rfl, ?_, ⟨_, rfl⟩, hW, hsame.mono (by decide) (by decide)⟩
  · show Steps p.tables e below (s₁.setTop (mkF m 0 #[vI p1] [])) _
    refine XS.iloadN X0.here hx rfl (hb hby d8_0) rfl ?_
    refine XS.sipush X0.here hx rfl (hb hby d8_1) ?_
    show Steps p.tables e below (s₁.setTop (mkF m 4 #[vI p1] [(.int (255 : Int32)), (.int p1)])) _
    refine XS.icmpYes X0.here hx rfl (pc0 := 4) (pc' := 11) rfl (hb hby d8_4) rfl (tlt hc4).2.2.1 (by decide) (by decide) ?_
    refine XS.iconst X0.here hx rfl (hb hby d8_11) ?_
    show Steps p.tables e below (s₁.setTop (mkF m 12 #[vI p1] [(.int (0 : Int32))])) _
    exact retN X0 hx (t := .boolean) Bd.returns (by simp) (hb hby d8_12) hr
  · show Q_rm8 Z p1 h0 n0 _ s₁.heap _
    exact ⟨by rw [F8, if_pos hc4], N0, e0⟩
set_option maxHeartbeats 4000000 in
theorem rm8 (l : Launch) (Z : State) (a0 : Array Value) (hw : ∀ d ∈ tables_1, d.before a0 Z = true) (ws : List Jvm.Cond) (p1 : Int32) (h0 : Heap) (n0 : Nat) (Z0 : n0 ≤ h0.size) :
    MetFree l (⟨"java/lang/StringLatin1", "canEncode", "(C)Z"⟩ : MethodName) (head1 (Jvm.Cond.code (⟨"java/lang/StringLatin1", "canEncode", "(C)Z"⟩ : MethodName) jdk_43_method_3_code 1 (some .boolean) :: ws) ({ frames := 0, cells := 0, slots := 0, locals := 0 } : Room)) (fun a U => a = #[(.int p1)] ∧ Z.Warmed39 U.vm ∧ U.heap = h0) (fun _ _ _ _ _ => True) (fun _ U o U' => ∃ v L, o = .returned v ∧ Q_rm8 Z p1 h0 n0 v U'.heap L ∧ FrameEnd U o U' L ({ frames := 0, cells := 0, slots := 0, locals := 0 } : Room).cells ({ frames := 0, cells := 0, slots := 0, locals := 0 } : Room).slots) := by
  by_cases hc4 : (255 : Int32) < p1
  · skip
    exact rm8_t l Z a0 hw ws p1 h0 n0 Z0 hc4
  · skip
    exact rm8_f l Z a0 hw ws p1 h0 n0 Z0 hc4
theorem d9_0 : decode jdk_43_method_46_code 0 = .ok (.iconst 1, 1) := by decide +kernel
theorem d9_1 : decode jdk_43_method_46_code 1 = .ok (.newarray .byte, 2) := by decide +kernel
theorem d9_3 : decode jdk_43_method_46_code 3 = .ok (.dup, 1) := by decide +kernel
theorem d9_4 : decode jdk_43_method_46_code 4 = .ok (.iconst 0, 1) := by decide +kernel
theorem d9_5 : decode jdk_43_method_46_code 5 = .ok (.iload_n 0, 1) := by decide +kernel
theorem d9_6 : decode jdk_43_method_46_code 6 = .ok (.i2b, 1) := by decide +kernel
theorem d9_7 : decode jdk_43_method_46_code 7 = .ok (.bastore, 1) := by decide +kernel
theorem d9_8 : decode jdk_43_method_46_code 8 = .ok (.areturn, 1) := by decide +kernel
theorem pn_9 : plainName "java/lang/StringLatin1" = true := by first | (simp [plainName, overriddenIn]; done) | decide +kernel
theorem ef_9 (m : MethodId) (x0 : Int32) : entryFrame m #[(.int x0)] 1 = mkF m 0 #[.val (.int x0)] [] := by first | (simp [entryFrame, mkF, argsToLocals, Value.category]; done) | rfl
def Q_rm9 (Z : State) (p1 : Int32) (h0 : Heap) (n0 : Nat) (v : Option Value) (h : Heap) (L : List Loc) : Prop := ∃ b2 : Addr, ∃ k2 : ClassId, v = some (.ref b2) ∧ Fr n0 L ∧ Keep h0 h [] ∧ h0.size ≤ b2 ∧ Arv Z h b2 k2 .byte (1 : Int32) [(.int (nar .byte (p1.toInt8.toInt32)))] (.int (0 : Int32))
set_option maxRecDepth 65536 in
set_option maxHeartbeats 40000000 in
theorem rm9 (l : Launch) (Z : State) (a0 : Array Value) (hw : ∀ d ∈ tables_1, d.before a0 Z = true) (ws : List Jvm.Cond) (p1 : Int32) (h0 : Heap) (n0 : Nat) (Z0 : n0 ≤ h0.size) :
    MetFree l (⟨"java/lang/StringLatin1", "toBytes", "(C)[B"⟩ : MethodName) (head1 (Jvm.Cond.code (⟨"java/lang/StringLatin1", "toBytes", "(C)[B"⟩ : MethodName) jdk_43_method_46_code 1 (some (.array .byte)) :: ws) ({ frames := 0, cells := 1, slots := 1, locals := 0 } : Room)) (fun a U => a = #[(.int p1)] ∧ Z.Warmed39 U.vm ∧ U.heap = h0) (fun _ _ _ _ _ => True) (fun _ U o U' => ∃ v L, o = .returned v ∧ Q_rm9 Z p1 h0 n0 v U'.heap L ∧ FrameEnd U o U' L ({ frames := 0, cells := 1, slots := 1, locals := 0 } : Room).cells ({ frames := 0, cells := 1, slots := 1, locals := 0 } : Room).slots) := by
  have hi : ∀ (i : Nat) {d : Jvm.Cond}, tables_1[i]? = some d → d.before a0 Z = true := fun i d h => hw d (List.mem_of_getElem? h)
  refine MetFree.of_bodySF (plainFor_of_name pn_9) hisR ?_
  intro p e s m args below meth c s₁ Bd hml0 hP hK
  obtain ⟨rfl, hZ, hh⟩ := hP
  have hx := Bd.exec
  have hby := Bd.bytes
  have hml : c.maxLocals = 1 := hml0
  have hown : s.vm.findClass "java/lang/StringLatin1" = some m.cls := findClass_of_methodNamed Bd.named
  have hnm := (name_of_methodNamed Bd.named Bd.method).1
  have X0 : Stand p l e ({ frames := 0, cells := 1, slots := 1, locals := 0 } : Room) s m #[(.int p1)] below meth c s₁ [] 0 0 := Stand.of_body Bd
  have e0 : s₁.heap = h0 := by rw [← hh, Bd.state]; rfl
  have N0 := Fr.nil n0
  have pre0 : ∀ t, Steps p.tables e below (s₁.setTop (mkF m 0 #[vI p1] [])) t → Steps p.tables e below (s₁.setTop (entryFrame m #[(.int p1)] 1)) t := fun t k => castTop (ef_9 m p1) k
  obtain ⟨T2, h2, k2, X2, e2, E2, A2, st2⟩ := newP X0 hx hZ (hi 19 rfl) e0 (g := (mkF m 1 #[vI p1] [(.int (1 : Int32))])) rfl (hb hby d9_1) rfl (by decide) (cap := 1) (by decide) (by decide) (by decide) (by decide)
  obtain ⟨b2, g2⟩ : ∃ z, z = h0.size := ⟨_, rfl⟩
  rw [← g2] at A2 st2
  have g_b2 : n0 ≤ b2 := Nat.le_trans Z0 (Nat.le_of_eq g2.symm)
  have sz_b2 : h0.size ≤ b2 := Nat.le_trans (Nat.le_refl h0.size) (Nat.le_of_eq g2.symm)
  have V_b2 : Arv Z h2 b2 k2 .byte (1 : Int32) [(.int (0 : Int32))] (.int (0 : Int32)) := (Arv.new A2 (by decide)).pad (pad_rep [] (.int (0 : Int32)) 1)
  obtain ⟨cl_b2_0, Ar_b2_0, q_b2_0, Sz_b2_0, Ng_b2_0, Ha_b2_0, Gt_b2_0⟩ := id V_b2
  have hin_b2_0 : ¬ ((0 : Int32) < 0 ∨ cl_b2_0.slots.size ≤ ((0 : Int32)).toNatClampNeg) := inb_of Sz_b2_0 ⟨by decide, by decide⟩
  obtain ⟨T3, h3, X3, e3, W3, st3⟩ := stB X2 hx hZ e2 Ar_b2_0 (j := (0 : Int32)) hin_b2_0 (g := (mkF m 7 #[vI p1] [(.int (p1.toInt8.toInt32)), (.int (0 : Int32)), (.ref b2), (.ref b2)])) rfl rfl (hb hby d9_7)
  have V3 : Arv Z h3 b2 k2 .byte (1 : Int32) [(.int (nar .byte (p1.toInt8.toInt32)))] (.int (0 : Int32)) := Arv.set Ar_b2_0 q_b2_0 Sz_b2_0 Ng_b2_0 Ha_b2_0 Gt_b2_0 (fits_nar_byte _) W3 0 rfl (Nat.le_of_ble_eq_true rfl)
  have N3 := Fr.snoc X3 N0 g_b2
  obtain ⟨fs, hr, hrun, hended, hW, hsame⟩ := X3.leave (v := some (.ref b2)) (fun h => by rw [Bd.returns] at h; cases h)
  refine ⟨_, _, pre0 _ ?_, hrun, hended, _, _, rfl, ?_, ⟨_, rfl⟩, hW, hsame.mono (by decide) (by decide)⟩
  · show Steps p.tables e below (s₁.setTop (mkF m 0 #[vI p1] [])) _
    refine XS.iconst X0.here hx rfl (hb hby d9_0) ?_
    show Steps p.tables e below (s₁.setTop (mkF m 1 #[vI p1] [(.int (1 : Int32))])) _
    refine st2 _ ?_
    refine XS.dup X2.here hx rfl (hb hby d9_3) rfl rfl ?_
    refine XS.iconst X2.here hx rfl (hb hby d9_4) ?_
    refine XS.iloadN X2.here hx rfl (hb hby d9_5) rfl ?_
    refine XS.i2b X2.here hx rfl (hb hby d9_6) rfl ?_
    show Steps p.tables e below (T2.setTop (mkF m 7 #[vI p1] [(.int (p1.toInt8.toInt32)), (.int (0 : Int32)), (.ref b2), (.ref b2)])) _
    refine st3 _ ?_
    show Steps p.tables e below (T3.setTop (mkF m 8 #[vI p1] [(.ref b2)])) _
    jvm_step X3.here [X3.here.top, hx, (hb hby d9_8), X3.method', Bd.returns, Value.isRef, FieldType.isReference]
    first | (intro acts; rw [hr _ acts rfl rfl rfl]) | rw [hr _ _ rfl rfl rfl]
    exact Steps.refl _
  · show Q_rm9 Z p1 h0 n0 _ T3.heap _
    rw [e3]
    exact ⟨b2, ⟨k2, ⟨rfl, N3, (((Keep.refl h0 []).ext E2).wr W3 (Or.inr sz_b2)), sz_b2, V3⟩⟩⟩
theorem d10_0 : decode jdk_42_method_151_code 0 = .ok (.aload_n 0, 1) := by decide +kernel
theorem d10_1 : decode jdk_42_method_151_code 1 = .ok (.invokespecial 1, 3) := by decide +kernel
theorem d10_4 : decode jdk_42_method_151_code 4 = .ok (.aload_n 0, 1) := by decide +kernel
theorem d10_5 : decode jdk_42_method_151_code 5 = .ok (.aload_n 1, 1) := by decide +kernel
theorem d10_6 : decode jdk_42_method_151_code 6 = .ok (.putfield 9, 3) := by decide +kernel
theorem d10_9 : decode jdk_42_method_151_code 9 = .ok (.aload_n 0, 1) := by decide +kernel
theorem d10_10 : decode jdk_42_method_151_code 10 = .ok (.iload_n 2, 1) := by decide +kernel
theorem d10_11 : decode jdk_42_method_151_code 11 = .ok (.putfield 15, 3) := by decide +kernel
theorem d10_14 : decode jdk_42_method_151_code 14 = .ok (.return_, 1) := by decide +kernel
theorem pn_10 : plainName "java/lang/String" = true := by first | (simp [plainName, overriddenIn]; done) | decide +kernel
theorem ef_10 (m : MethodId) (x0 : Addr) (x1 : Addr) (x2 : Int32) : entryFrame m #[(.ref x0), (.ref x1), (.int x2)] 3 = mkF m 0 #[.val (.ref x0), .val (.ref x1), .val (.int x2)] [] := by first | (simp [entryFrame, mkF, argsToLocals, Value.category]; done) | rfl
def Q_rm10 (Z : State) (a1 : Addr) (a2 : Addr) (p3 : Int32) (w_value_a1 : Value) (w_coder_a1 : Int32) (h0 : Heap) (n0 : Nat) (v : Option Value) (h : Heap) (L : List Loc) : Prop := v = none ∧ Fr n0 L ∧ Keep h0 h [a1] ∧ Exa Z h a1 "java/lang/String" ∧ Fld Z h a1 "java/lang/String" "value" "[B" (.ref a2) ∧ Fld Z h a1 "java/lang/String" "coder" "B" (.int (nar .byte p3))
set_option maxRecDepth 65536 in
set_option maxHeartbeats 40000000 in
theorem rm10 (l : Launch) (Z : State) (a0 : Array Value) (hw : ∀ d ∈ tables_1, d.before a0 Z = true) (ws : List Jvm.Cond) (a1 : Addr) (a2 : Addr) (p3 : Int32) (w_value_a1 : Value) (w_coder_a1 : Int32) (h0 : Heap) (n0 : Nat) (Z0 : n0 ≤ h0.size) (E_a1 : Exa Z h0 a1 "java/lang/String") (F_value_a1 : Fld Z h0 a1 "java/lang/String" "value" "[B" w_value_a1) (g_a1 : n0 ≤ a1) (F_coder_a1 : Fld Z h0 a1 "java/lang/String" "coder" "B" (.int w_coder_a1)) :
    MetFree l (⟨"java/lang/String", "<init>", "([BB)V"⟩ : MethodName) (head1 (Jvm.Cond.code (⟨"java/lang/String", "<init>", "([BB)V"⟩ : MethodName) jdk_42_method_151_code 3 none :: ws) ({ frames := 1, cells := 0, slots := 0, locals := 12 } : Room)) (fun a U => a = #[(.ref a1), (.ref a2), (.int p3)] ∧ Z.Warmed39 U.vm ∧ U.heap = h0) (fun _ _ _ _ _ => True) (fun _ U o U' => ∃ v L, o = .returned v ∧ Q_rm10 Z a1 a2 p3 w_value_a1 w_coder_a1 h0 n0 v U'.heap L ∧ FrameEnd U o U' L ({ frames := 1, cells := 0, slots := 0, locals := 12 } : Room).cells ({ frames := 1, cells := 0, slots := 0, locals := 12 } : Room).slots) := by
  have hi : ∀ (i : Nat) {d : Jvm.Cond}, tables_1[i]? = some d → d.before a0 Z = true := fun i d h => hw d (List.mem_of_getElem? h)
  refine MetFree.of_bodySF (plainFor_of_name pn_10) hisR ?_
  intro p e s m args below meth c s₁ Bd hml0 hP hK
  obtain ⟨rfl, hZ, hh⟩ := hP
  have hx := Bd.exec
  have hby := Bd.bytes
  have hml : c.maxLocals = 3 := hml0
  have hown : s.vm.findClass "java/lang/String" = some m.cls := findClass_of_methodNamed Bd.named
  have hnm := (name_of_methodNamed Bd.named Bd.method).1
  have X0 : Stand p l e ({ frames := 1, cells := 0, slots := 0, locals := 12 } : Room) s m #[(.ref a1), (.ref a2), (.int p3)] below meth c s₁ [] 0 0 := Stand.of_body Bd
  have e0 : s₁.heap = h0 := by rw [← hh, Bd.state]; rfl
  have N0 := Fr.nil n0
  have pre0 : ∀ t, Steps p.tables e below (s₁.setTop (mkF m 0 #[vA a1, vA a2, vI p3] [])) t → Steps p.tables e below (s₁.setTop (entryFrame m #[(.ref a1), (.ref a2), (.int p3)] 3)) t := fun t k => castTop (ef_10 m a1 a2 p3) k
  obtain ⟨T4, X4, e4, st4⟩ := initO X0 hx hZ hown (hi 11 rfl) (hi 12 rfl) (hi 13 rfl) e0 (g := (mkF m 1 #[vA a1, vA a2, vI p3] [(.ref a1)])) rfl (by rw [hml]; rfl) rfl (hb hby d10_1) (by decide) (W := 0) (by show 2 * 0 + _ ≤ _; exact Nat.le_of_eq rfl) (by decide)
  obtain ⟨T5, h5, X5, e5, W5, st5⟩ := putF X4 hx hZ hown (host := "") (Or.inl (hi 28 rfl)) Via.refl e4 F_value_a1 E_a1 (Or.inr ⟨(hi 29 rfl), rfl, hnm⟩) (hi 1 rfl) (ty := (.array .byte)) (by decide) rfl rfl (g := (mkF m 6 #[vA a1, vA a2, vI p3] [(.ref a2), (.ref a1)])) rfl rfl (hb hby d10_6)
  have Fw5 := F_value_a1.same W5
  have N5 := Fr.snoc X5 N0 g_a1
  have f0 := (E_a1.wr W5)
  have f1 := (F_coder_a1.other W5 (Or.inr (slot_ne (Or.inr (hi 27 rfl)) (Or.inr (hi 29 rfl)) (by decide) (t := .byte) (t' := (.array .byte)) (by decide) (by decide))))
  obtain ⟨T6, h6, X6, e6, W6, st6⟩ := putFN X5 hx hZ hown (hi 26 rfl) Via.refl e5 f1 f0 (Or.inr ⟨(hi 27 rfl), rfl, hnm⟩) (hi 1 rfl) (ty := .byte) (v' := (.int (nar .byte p3))) (by decide) rfl (fits_nar_byte _) (g := (mkF m 11 #[vA a1, vA a2, vI p3] [(.int p3), (.ref a1)])) rfl rfl (hb hby d10_11)
  have Fw6 := f1.same W6
  have N6 := Fr.snoc X6 N5 g_a1
  have f2 := (f0.wr W6)
  have f3 := (Fw5.other W6 (Or.inr (slot_ne (Or.inr (hi 29 rfl)) (Or.inr (hi 27 rfl)) (by decide) (t := (.array .byte)) (t' := .byte) (by decide) (by decide))))
  obtain ⟨fs, hr, hrun, hended, hW, hsame⟩ := X6.leave (v := none) (fun _ => rfl)
  refine ⟨_, _, pre0 _ ?_, hrun, hended, _, _, rfl, ?_, ⟨_, rfl⟩, hW, hsame.mono (by decide) (by decide)⟩
  · show Steps p.tables e below (s₁.setTop (mkF m 0 #[vA a1, vA a2, vI p3] [])) _
    refine XS.aloadN X0.here hx rfl (hb hby d10_0) rfl rfl ?_
    show Steps p.tables e below (s₁.setTop (mkF m 1 #[vA a1, vA a2, vI p3] [(.ref a1)])) _
    refine st4 _ ?_
    refine XS.aloadN X4.here hx rfl (hb hby d10_4) rfl rfl ?_
    refine XS.aloadN X4.here hx rfl (hb hby d10_5) rfl rfl ?_
    show Steps p.tables e below (T4.setTop (mkF m 6 #[vA a1, vA a2, vI p3] [(.ref a2), (.ref a1)])) _
    refine st5 _ ?_
    refine XS.aloadN X5.here hx rfl (hb hby d10_9) rfl rfl ?_
    refine XS.iloadN X5.here hx rfl (hb hby d10_10) rfl ?_
    show Steps p.tables e below (T5.setTop (mkF m 11 #[vA a1, vA a2, vI p3] [(.int p3), (.ref a1)])) _
    refine st6 _ ?_
    show Steps p.tables e below (T6.setTop (mkF m 14 #[vA a1, vA a2, vI p3] [])) _
    exact X6.returnOut hx Bd.returns (hb hby d10_14) hr
  · show Q_rm10 Z a1 a2 p3 w_value_a1 w_coder_a1 h0 n0 _ T6.heap _
    rw [e6]
    exact ⟨rfl, N6, (((Keep.refl h0 [a1]).wr W5 (Or.inl (List.mem_of_getElem? (i := 0) rfl))).wr W6 (Or.inl (List.mem_of_getElem? (i := 0) rfl))), f2, f3, Fw6⟩
theorem d15_0 : decode jdk_31_method_11_code 0 = .ok (.aload_n 0, 1) := by decide +kernel
theorem d15_1 : decode jdk_31_method_11_code 1 = .ok (.ifnonnull 12, 3) := by decide +kernel
theorem d15_13 : decode jdk_31_method_11_code 13 = .ok (.aload_n 0, 1) := by decide +kernel
theorem d15_14 : decode jdk_31_method_11_code 14 = .ok (.areturn, 1) := by decide +kernel
theorem pn_15 : plainName "java/util/Objects" = true := by first | (simp [plainName, overriddenIn]; done) | decide +kernel
theorem ef_15 (m : MethodId) (x0 : Addr) (x1 : Addr) : entryFrame m #[(.ref x0), (.ref x1)] 2 = mkF m 0 #[.val (.ref x0), .val (.ref x1)] [] := by first | (simp [entryFrame, mkF, argsToLocals, Value.category]; done) | rfl
def Q_rm15 (Z : State) (a1 : Addr) (a2 : Addr) (h0 : Heap) (n0 : Nat) (v : Option Value) (h : Heap) (L : List Loc) : Prop := v = some (.ref a1) ∧ Fr n0 L ∧ h = h0
set_option maxRecDepth 65536 in
set_option maxHeartbeats 40000000 in
theorem rm15 (l : Launch) (Z : State) (a0 : Array Value) (hw : ∀ d ∈ tables_1, d.before a0 Z = true) (ws : List Jvm.Cond) (a1 : Addr) (a2 : Addr) (h0 : Heap) (n0 : Nat) (Z0 : n0 ≤ h0.size) :
    MetFree l (⟨"java/util/Objects", "requireNonNull", "(Ljava/lang/Object;Ljava/lang/String;)Ljava/lang/Object;"⟩ : MethodName) (head1 (Jvm.Cond.code (⟨"java/util/Objects", "requireNonNull", "(Ljava/lang/Object;Ljava/lang/String;)Ljava/lang/Object;"⟩ : MethodName) jdk_31_method_11_code 2 (some (.object "java/lang/Object")) :: ws) ({ frames := 0, cells := 0, slots := 0, locals := 0 } : Room)) (fun a U => a = #[(.ref a1), (.ref a2)] ∧ Z.Warmed39 U.vm ∧ U.heap = h0) (fun _ _ _ _ _ => True) (fun _ U o U' => ∃ v L, o = .returned v ∧ Q_rm15 Z a1 a2 h0 n0 v U'.heap L ∧ FrameEnd U o U' L ({ frames := 0, cells := 0, slots := 0, locals := 0 } : Room).cells ({ frames := 0, cells := 0, slots := 0, locals := 0 } : Room).slots) := by
  have hi : ∀ (i : Nat) {d : Jvm.Cond}, tables_1[i]? = some d → d.before a0 Z = true := fun i d h => hw d (List.mem_of_getElem? h)
  refine MetFree.of_bodySF (plainFor_of_name pn_15) hisR ?_
  intro p e s m args below meth c s₁ Bd hml0 hP hK
  obtain ⟨rfl, hZ, hh⟩ := hP
  have hx := Bd.exec
  have hby := Bd.bytes
  have hml : c.maxLocals = 2 := hml0
  have hown : s.vm.findClass "java/util/Objects" = some m.cls := findClass_of_methodNamed Bd.named
  have hnm := (name_of_methodNamed Bd.named Bd.method).1
  have X0 : Stand p l e ({ frames := 0, cells := 0, slots := 0, locals := 0 } : Room) s m #[(.ref a1), (.ref a2)] below meth c s₁ [] 0 0 := Stand.of_body Bd
  have e0 : s₁.heap = h0 := by rw [← hh, Bd.state]; rfl
  have N0 := Fr.nil n0
  have pre0 : ∀ t, Steps p.tables e below (s₁.setTop (mkF m 0 #[vA a1, vA a2] [])) t → Steps p.tables e below (s₁.setTop (entryFrame m #[(.ref a1), (.ref a2)] 2)) t := fun t k => castTop (ef_15 m a1 a2) k
  obtain ⟨fs, hr, hrun, hended, hW, hsame⟩ := X0.leave (v := some (.ref a1)) (fun h => by rw [Bd.returns] at h; cases h)
  refine ⟨_, _, pre0 _ ?_, hrun, hended, _, _, rfl, ?_, ⟨_, rfl⟩, hW, hsame.mono (by decide) (by decide)⟩
  · show Steps p.tables e below (s₁.setTop (mkF m 0 #[vA a1, vA a2] [])) _
    refine XS.aloadN X0.here hx rfl (hb hby d15_0) rfl rfl ?_
    show Steps p.tables e below (s₁.setTop (mkF m 1 #[vA a1, vA a2] [(.ref a1)])) _
    refine XS.ifnonnullYes X0.here hx rfl (pc0 := 1) (pc' := 13) rfl (hb hby d15_1) rfl (by decide) (by decide) ?_
    refine XS.aloadN X0.here hx rfl (hb hby d15_13) rfl rfl ?_
    show Steps p.tables e below (s₁.setTop (mkF m 14 #[vA a1, vA a2] [(.ref a1)])) _
    jvm_step X0.here [X0.here.top, hx, (hb hby d15_14), X0.method', Bd.returns, Value.isRef, FieldType.isReference]
    first | (intro acts; rw [hr _ acts rfl rfl rfl]) | rw [hr _ _ rfl rfl rfl]
    exact Steps.refl _
  · show Q_rm15 Z a1 a2 h0 n0 _ s₁.heap _
    exact ⟨rfl, N0, e0⟩
theorem d19_0 : decode jdk_31_method_10_code 0 = .ok (.aload_n 0, 1) := by decide +kernel
theorem d19_1 : decode jdk_31_method_10_code 1 = .ok (.ifnonnull 11, 3) := by decide +kernel
theorem d19_12 : decode jdk_31_method_10_code 12 = .ok (.aload_n 0, 1) := by decide +kernel
theorem d19_13 : decode jdk_31_method_10_code 13 = .ok (.areturn, 1) := by decide +kernel
theorem pn_19 : plainName "java/util/Objects" = true := by first | (simp [plainName, overriddenIn]; done) | decide +kernel
theorem ef_19 (m : MethodId) (x0 : Addr) : entryFrame m #[(.ref x0)] 1 = mkF m 0 #[.val (.ref x0)] [] := by first | (simp [entryFrame, mkF, argsToLocals, Value.category]; done) | rfl
def Q_rm19 (Z : State) (a1 : Addr) (h0 : Heap) (n0 : Nat) (v : Option Value) (h : Heap) (L : List Loc) : Prop := v = some (.ref a1) ∧ Fr n0 L ∧ h = h0
set_option maxRecDepth 65536 in
set_option maxHeartbeats 40000000 in
theorem rm19 (l : Launch) (Z : State) (a0 : Array Value) (hw : ∀ d ∈ tables_1, d.before a0 Z = true) (ws : List Jvm.Cond) (a1 : Addr) (h0 : Heap) (n0 : Nat) (Z0 : n0 ≤ h0.size) :
    MetFree l (⟨"java/util/Objects", "requireNonNull", "(Ljava/lang/Object;)Ljava/lang/Object;"⟩ : MethodName) (head1 (Jvm.Cond.code (⟨"java/util/Objects", "requireNonNull", "(Ljava/lang/Object;)Ljava/lang/Object;"⟩ : MethodName) jdk_31_method_10_code 1 (some (.object "java/lang/Object")) :: ws) ({ frames := 0, cells := 0, slots := 0, locals := 0 } : Room)) (fun a U => a = #[(.ref a1)] ∧ Z.Warmed39 U.vm ∧ U.heap = h0) (fun _ _ _ _ _ => True) (fun _ U o U' => ∃ v L, o = .returned v ∧ Q_rm19 Z a1 h0 n0 v U'.heap L ∧ FrameEnd U o U' L ({ frames := 0, cells := 0, slots := 0, locals := 0 } : Room).cells ({ frames := 0, cells := 0, slots := 0, locals := 0 } : Room).slots) := by
  have hi : ∀ (i : Nat) {d : Jvm.Cond}, tables_1[i]? = some d → d.before a0 Z = true := fun i d h => hw d (List.mem_of_getElem? h)
  refine MetFree.of_bodySF (plainFor_of_name pn_19) hisR ?_
  intro p e s m args below meth c s₁ Bd hml0 hP hK
  obtain ⟨rfl, hZ, hh⟩ := hP
  have hx := Bd.exec
  have hby := Bd.bytes
  have hml : c.maxLocals = 1 := hml0
  have hown : s.vm.findClass "java/util/Objects" = some m.cls := findClass_of_methodNamed Bd.named
  have hnm := (name_of_methodNamed Bd.named Bd.method).1
  have X0 : Stand p l e ({ frames := 0, cells := 0, slots := 0, locals := 0 } : Room) s m #[(.ref a1)] below meth c s₁ [] 0 0 := Stand.of_body Bd
  have e0 : s₁.heap = h0 := by rw [← hh, Bd.state]; rfl
  have N0 := Fr.nil n0
  have pre0 : ∀ t, Steps p.tables e below (s₁.setTop (mkF m 0 #[vA a1] [])) t → Steps p.tables e below (s₁.setTop (entryFrame m #[(.ref a1)] 1)) t := fun t k => castTop (ef_19 m a1) k
  obtain ⟨fs, hr, hrun, hended, hW, hsame⟩ := X0.leave (v := some (.ref a1)) (fun h => by rw [Bd.returns] at h; cases h)
  refine ⟨_, _, pre0 _ ?_, hrun, hended, _, _, rfl, ?_, ⟨_, rfl⟩, hW, hsame.mono (by decide) (by decide)⟩
  · show Steps p.tables e below (s₁.setTop (mkF m 0 #[vA a1] [])) _
    refine XS.aloadN X0.here hx rfl (hb hby d19_0) rfl rfl ?_
    show Steps p.tables e below (s₁.setTop (mkF m 1 #[vA a1] [(.ref a1)])) _
    refine XS.ifnonnullYes X0.here hx rfl (pc0 := 1) (pc' := 12) rfl (hb hby d19_1) rfl (by decide) (by decide) ?_
    refine XS.aloadN X0.here hx rfl (hb hby d19_12) rfl rfl ?_
    show Steps p.tables e below (s₁.setTop (mkF m 13 #[vA a1] [(.ref a1)])) _
    jvm_step X0.here [X0.here.top, hx, (hb hby d19_13), X0.method', Bd.returns, Value.isRef, FieldType.isReference]
    first | (intro acts; rw [hr _ acts rfl rfl rfl]) | rw [hr _ _ rfl rfl rfl]
    exact Steps.refl _
  · show Q_rm19 Z a1 h0 n0 _ s₁.heap _
    exact ⟨rfl, N0, e0⟩
theorem d12_0 : decode jdk_32_method_1_code 0 = .ok (.getstatic 1, 3) := by decide +kernel
theorem d12_3 : decode jdk_32_method_1_code 3 = .ok (.astore_n 0, 1) := by decide +kernel
theorem d12_4 : decode jdk_32_method_1_code 4 = .ok (.aload_n 0, 1) := by decide +kernel
theorem d12_5 : decode jdk_32_method_1_code 5 = .ok (.areturn, 1) := by decide +kernel
theorem pn_12 : plainName "java/util/Optional" = true := by first | (simp [plainName, overriddenIn]; done) | decide +kernel
theorem ef_12 (m : MethodId)  : entryFrame m #[] 1 = mkF m 0 #[.unset] [] := by first | (simp [entryFrame, mkF, argsToLocals, Value.category]; done) | rfl
def Q_rm12 (Z : State) (s_EMPTY : Addr) (h0 : Heap) (n0 : Nat) (v : Option Value) (h : Heap) (L : List Loc) : Prop := v = some (.ref s_EMPTY) ∧ Fr n0 L ∧ h = h0
set_option maxRecDepth 65536 in
set_option maxHeartbeats 40000000 in
theorem rm12 (l : Launch) (Z : State) (a0 : Array Value) (hw : ∀ d ∈ tables_1, d.before a0 Z = true) (ws : List Jvm.Cond) (s_EMPTY : Addr) (h0 : Heap) (n0 : Nat) (Z0 : n0 ≤ h0.size) (S_EMPTY : Sta Z h0 "java/util/Optional" "EMPTY" "Ljava/util/Optional;" (.ref s_EMPTY)) :
    MetFree l (⟨"java/util/Optional", "empty", "()Ljava/util/Optional;"⟩ : MethodName) (head1 (Jvm.Cond.code (⟨"java/util/Optional", "empty", "()Ljava/util/Optional;"⟩ : MethodName) jdk_32_method_1_code 1 (some (.object "java/util/Optional")) :: ws) ({ frames := 0, cells := 0, slots := 0, locals := 0 } : Room)) (fun a U => a = #[] ∧ Z.Warmed39 U.vm ∧ U.heap = h0) (fun _ _ _ _ _ => True) (fun _ U o U' => ∃ v L, o = .returned v ∧ Q_rm12 Z s_EMPTY h0 n0 v U'.heap L ∧ FrameEnd U o U' L ({ frames := 0, cells := 0, slots := 0, locals := 0 } : Room).cells ({ frames := 0, cells := 0, slots := 0, locals := 0 } : Room).slots) := by
  have hi : ∀ (i : Nat) {d : Jvm.Cond}, tables_1[i]? = some d → d.before a0 Z = true := fun i d h => hw d (List.mem_of_getElem? h)
  refine MetFree.of_bodySF (plainFor_of_name pn_12) hisR ?_
  intro p e s m args below meth c s₁ Bd hml0 hP hK
  obtain ⟨rfl, hZ, hh⟩ := hP
  have hx := Bd.exec
  have hby := Bd.bytes
  have hml : c.maxLocals = 1 := hml0
  have hown : s.vm.findClass "java/util/Optional" = some m.cls := findClass_of_methodNamed Bd.named
  have hnm := (name_of_methodNamed Bd.named Bd.method).1
  have X0 : Stand p l e ({ frames := 0, cells := 0, slots := 0, locals := 0 } : Room) s m #[] below meth c s₁ [] 0 0 := Stand.of_body Bd
  have e0 : s₁.heap = h0 := by rw [← hh, Bd.state]; rfl
  have N0 := Fr.nil n0
  have pre0 : ∀ t, Steps p.tables e below (s₁.setTop (mkF m 0 #[vU] [])) t → Steps p.tables e below (s₁.setTop (entryFrame m #[] 1)) t := fun t k => castTop (ef_12 m ) k
  obtain ⟨T1, X1, e1, st1⟩ := getS2 X0 hx hZ hown (host := "") (Or.inl (hi 55 rfl)) Via.refl e0 S_EMPTY (g := (mkF m 0 #[vU] [])) rfl (hb hby d12_0)
  obtain ⟨fs, hr, hrun, hended, hW, hsame⟩ := X1.leave (v := some (.ref s_EMPTY)) (fun h => by rw [Bd.returns] at h; cases h)
  refine ⟨_, _, pre0 _ ?_, hrun, hended, _, _, rfl, ?_, ⟨_, rfl⟩, hW, hsame.mono (by decide) (by decide)⟩
  · show Steps p.tables e below (s₁.setTop (mkF m 0 #[vU] [])) _
    refine st1 _ ?_
    refine XS.astoreN X1.here hx rfl (hb hby d12_3) rfl rfl (l' := #[vA s_EMPTY]) rfl ?_
    refine XS.aloadN X1.here hx rfl (hb hby d12_4) rfl rfl ?_
    show Steps p.tables e below (T1.setTop (mkF m 5 #[vA s_EMPTY] [(.ref s_EMPTY)])) _
    jvm_step X1.here [X1.here.top, hx, (hb hby d12_5), X1.method', Bd.returns, Value.isRef, FieldType.isReference]
    first | (intro acts; rw [hr _ acts rfl rfl rfl]) | rw [hr _ _ rfl rfl rfl]
    exact Steps.refl _
  · show Q_rm12 Z s_EMPTY h0 n0 _ T1.heap _
    exact ⟨rfl, N0, e1⟩
theorem d20_0 : decode jdk_32_method_2_code 0 = .ok (.aload_n 0, 1) := by decide +kernel
theorem d20_1 : decode jdk_32_method_2_code 1 = .ok (.invokespecial 7, 3) := by decide +kernel
theorem d20_4 : decode jdk_32_method_2_code 4 = .ok (.aload_n 0, 1) := by decide +kernel
theorem d20_5 : decode jdk_32_method_2_code 5 = .ok (.aload_n 1, 1) := by decide +kernel
theorem d20_6 : decode jdk_32_method_2_code 6 = .ok (.putfield 13, 3) := by decide +kernel
theorem d20_9 : decode jdk_32_method_2_code 9 = .ok (.return_, 1) := by decide +kernel
theorem pn_20 : plainName "java/util/Optional" = true := by first | (simp [plainName, overriddenIn]; done) | decide +kernel
theorem ef_20 (m : MethodId) (x0 : Addr) (x1 : Addr) : entryFrame m #[(.ref x0), (.ref x1)] 2 = mkF m 0 #[.val (.ref x0), .val (.ref x1)] [] := by first | (simp [entryFrame, mkF, argsToLocals, Value.category]; done) | rfl
def Q_rm20 (Z : State) (a1 : Addr) (a2 : Addr) (w_value_a1 : Value) (h0 : Heap) (n0 : Nat) (v : Option Value) (h : Heap) (L : List Loc) : Prop := v = none ∧ Fr n0 L ∧ Keep h0 h [a1] ∧ Exa Z h a1 "java/util/Optional" ∧ Fld Z h a1 "java/util/Optional" "value" "Ljava/lang/Object;" (.ref a2)
set_option maxRecDepth 65536 in
set_option maxHeartbeats 40000000 in
theorem rm20 (l : Launch) (Z : State) (a0 : Array Value) (hw : ∀ d ∈ tables_1, d.before a0 Z = true) (ws : List Jvm.Cond) (a1 : Addr) (a2 : Addr) (w_value_a1 : Value) (h0 : Heap) (n0 : Nat) (Z0 : n0 ≤ h0.size) (E_a1 : Exa Z h0 a1 "java/util/Optional") (F_value_a1 : Fld Z h0 a1 "java/util/Optional" "value" "Ljava/lang/Object;" w_value_a1) (g_a1 : n0 ≤ a1) :
    MetFree l (⟨"java/util/Optional", "<init>", "(Ljava/lang/Object;)V"⟩ : MethodName) (head1 (Jvm.Cond.code (⟨"java/util/Optional", "<init>", "(Ljava/lang/Object;)V"⟩ : MethodName) jdk_32_method_2_code 2 none :: ws) ({ frames := 1, cells := 0, slots := 0, locals := 12 } : Room)) (fun a U => a = #[(.ref a1), (.ref a2)] ∧ Z.Warmed39 U.vm ∧ U.heap = h0) (fun _ _ _ _ _ => True) (fun _ U o U' => ∃ v L, o = .returned v ∧ Q_rm20 Z a1 a2 w_value_a1 h0 n0 v U'.heap L ∧ FrameEnd U o U' L ({ frames := 1, cells := 0, slots := 0, locals := 12 } : Room).cells ({ frames := 1, cells := 0, slots := 0, locals := 12 } : Room).slots) := by
  have hi : ∀ (i : Nat) {d : Jvm.Cond}, tables_1[i]? = some d → d.before a0 Z = true := fun i d h => hw d (List.mem_of_getElem? h)
  refine MetFree.of_bodySF (plainFor_of_name pn_20) hisR ?_
  intro p e s m args below meth c s₁ Bd hml0 hP hK
  obtain ⟨rfl, hZ, hh⟩ := hP
  have hx := Bd.exec
  have hby := Bd.bytes
  have hml : c.maxLocals = 2 := hml0
  have hown : s.vm.findClass "java/util/Optional" = some m.cls := findClass_of_methodNamed Bd.named
  have hnm := (name_of_methodNamed Bd.named Bd.method).1
  have X0 : Stand p l e ({ frames := 1, cells := 0, slots := 0, locals := 12 } : Room) s m #[(.ref a1), (.ref a2)] below meth c s₁ [] 0 0 := Stand.of_body Bd
  have e0 : s₁.heap = h0 := by rw [← hh, Bd.state]; rfl
  have N0 := Fr.nil n0
  have pre0 : ∀ t, Steps p.tables e below (s₁.setTop (mkF m 0 #[vA a1, vA a2] [])) t → Steps p.tables e below (s₁.setTop (entryFrame m #[(.ref a1), (.ref a2)] 2)) t := fun t k => castTop (ef_20 m a1 a2) k
  obtain ⟨T3, X3, e3, st3⟩ := initO X0 hx hZ hown (hi 116 rfl) (hi 12 rfl) (hi 13 rfl) e0 (g := (mkF m 1 #[vA a1, vA a2] [(.ref a1)])) rfl (by rw [hml]; rfl) rfl (hb hby d20_1) (by decide) (W := 0) (by show 2 * 0 + _ ≤ _; exact Nat.le_of_eq rfl) (by decide)
  obtain ⟨T4, h4, X4, e4, W4, st4⟩ := putF X3 hx hZ hown (host := "") (Or.inl (hi 99 rfl)) Via.refl e3 F_value_a1 E_a1 (Or.inr ⟨(hi 100 rfl), rfl, hnm⟩) (hi 108 rfl) (ty := (.object "java/lang/Object")) (by decide) rfl rfl (g := (mkF m 6 #[vA a1, vA a2] [(.ref a2), (.ref a1)])) rfl rfl (hb hby d20_6)
  have Fw4 := F_value_a1.same W4
  have N4 := Fr.snoc X4 N0 g_a1
  have f0 := (E_a1.wr W4)
  obtain ⟨fs, hr, hrun, hended, hW, hsame⟩ := X4.leave (v := none) (fun _ => rfl)
  refine ⟨_, _, pre0 _ ?_, hrun, hended, _, _, rfl, ?_, ⟨_, rfl⟩, hW, hsame.mono (by decide) (by decide)⟩
  · show Steps p.tables e below (s₁.setTop (mkF m 0 #[vA a1, vA a2] [])) _
    refine XS.aloadN X0.here hx rfl (hb hby d20_0) rfl rfl ?_
    show Steps p.tables e below (s₁.setTop (mkF m 1 #[vA a1, vA a2] [(.ref a1)])) _
    refine st3 _ ?_
    refine XS.aloadN X3.here hx rfl (hb hby d20_4) rfl rfl ?_
    refine XS.aloadN X3.here hx rfl (hb hby d20_5) rfl rfl ?_
    show Steps p.tables e below (T3.setTop (mkF m 6 #[vA a1, vA a2] [(.ref a2), (.ref a1)])) _
    refine st4 _ ?_
    show Steps p.tables e below (T4.setTop (mkF m 9 #[vA a1, vA a2] [])) _
    exact X4.returnOut hx Bd.returns (hb hby d20_9) hr
  · show Q_rm20 Z a1 a2 w_value_a1 h0 n0 _ T4.heap _
    rw [e4]
    exact ⟨rfl, N4, ((Keep.refl h0 [a1]).wr W4 (Or.inl (List.mem_of_getElem? (i := 0) rfl))), f0, Fw4⟩
theorem pd__28Ljava_2flang_2fObject_3b_29Ljava_2flang_2fObject_3b : parseMethodDescriptor "(Ljava/lang/Object;)Ljava/lang/Object;" = some ⟨[(.object "java/lang/Object")], some (.object "java/lang/Object")⟩ := by decide +kernel
theorem pd__28Ljava_2flang_2fObject_3b_29V : parseMethodDescriptor "(Ljava/lang/Object;)V" = some ⟨[(.object "java/lang/Object")], none⟩ := by decide +kernel
theorem d18_0 : decode jdk_32_method_3_code 0 = .ok (.new 2, 3) := by decide +kernel
theorem d18_3 : decode jdk_32_method_3_code 3 = .ok (.dup, 1) := by decide +kernel
theorem d18_4 : decode jdk_32_method_3_code 4 = .ok (.aload_n 0, 1) := by decide +kernel
theorem d18_5 : decode jdk_32_method_3_code 5 = .ok (.invokestatic 17, 3) := by decide +kernel
theorem d18_8 : decode jdk_32_method_3_code 8 = .ok (.invokespecial 23, 3) := by decide +kernel
theorem d18_11 : decode jdk_32_method_3_code 11 = .ok (.areturn, 1) := by decide +kernel
theorem pn_18 : plainName "java/util/Optional" = true := by first | (simp [plainName, overriddenIn]; done) | decide +kernel
theorem ef_18 (m : MethodId) (x0 : Addr) : entryFrame m #[(.ref x0)] 1 = mkF m 0 #[.val (.ref x0)] [] := by first | (simp [entryFrame, mkF, argsToLocals, Value.category]; done) | rfl
def Q_rm18 (Z : State) (a1 : Addr) (h0 : Heap) (n0 : Nat) (v : Option Value) (h : Heap) (L : List Loc) : Prop := ∃ b2 : Addr, v = some (.ref b2) ∧ Fr n0 L ∧ Keep h0 h [] ∧ h0.size ≤ b2 ∧ Exa Z h b2 "java/util/Optional" ∧ Fld Z h b2 "java/util/Optional" "value" "Ljava/lang/Object;" (.ref a1)
set_option maxRecDepth 65536 in
set_option maxHeartbeats 40000000 in
theorem rm18 (l : Launch) (Z : State) (a0 : Array Value) (hw : ∀ d ∈ tables_1, d.before a0 Z = true) (ws : List Jvm.Cond) (a1 : Addr) (h0 : Heap) (n0 : Nat) (Z0 : n0 ≤ h0.size) :
    MetFree l (⟨"java/util/Optional", "of", "(Ljava/lang/Object;)Ljava/util/Optional;"⟩ : MethodName) (head1 (Jvm.Cond.code (⟨"java/util/Optional", "of", "(Ljava/lang/Object;)Ljava/util/Optional;"⟩ : MethodName) jdk_32_method_3_code 1 (some (.object "java/util/Optional")) :: ws) ({ frames := 2, cells := 1, slots := 1, locals := 26 } : Room)) (fun a U => a = #[(.ref a1)] ∧ Z.Warmed39 U.vm ∧ U.heap = h0) (fun _ _ _ _ _ => True) (fun _ U o U' => ∃ v L, o = .returned v ∧ Q_rm18 Z a1 h0 n0 v U'.heap L ∧ FrameEnd U o U' L ({ frames := 2, cells := 1, slots := 1, locals := 26 } : Room).cells ({ frames := 2, cells := 1, slots := 1, locals := 26 } : Room).slots) := by
  have hi : ∀ (i : Nat) {d : Jvm.Cond}, tables_1[i]? = some d → d.before a0 Z = true := fun i d h => hw d (List.mem_of_getElem? h)
  refine MetFree.of_bodySF (plainFor_of_name pn_18) hisR ?_
  intro p e s m args below meth c s₁ Bd hml0 hP hK
  obtain ⟨rfl, hZ, hh⟩ := hP
  have hx := Bd.exec
  have hby := Bd.bytes
  have hml : c.maxLocals = 1 := hml0
  have hown : s.vm.findClass "java/util/Optional" = some m.cls := findClass_of_methodNamed Bd.named
  have hnm := (name_of_methodNamed Bd.named Bd.method).1
  have X0 : Stand p l e ({ frames := 2, cells := 1, slots := 1, locals := 26 } : Room) s m #[(.ref a1)] below meth c s₁ [] 0 0 := Stand.of_body Bd
  have e0 : s₁.heap = h0 := by rw [← hh, Bd.state]; rfl
  have N0 := Fr.nil n0
  have pre0 : ∀ t, Steps p.tables e below (s₁.setTop (mkF m 0 #[vA a1] [])) t → Steps p.tables e below (s₁.setTop (entryFrame m #[(.ref a1)] 1)) t := fun t k => castTop (ef_18 m a1) k
  obtain ⟨T2, h2, X2, e2, E2, A2, D2, -, st2⟩ := newO X0 hx hZ hown (hi 107 rfl) (hi 108 rfl) (hi 53 rfl) e0 (g := (mkF m 0 #[vA a1] [])) rfl (hb hby d18_0) (by decide) (by decide)
  obtain ⟨b2, g2⟩ : ∃ z, z = h0.size := ⟨_, rfl⟩
  rw [← g2] at A2 D2 st2
  have g_b2 : n0 ≤ b2 := Nat.le_trans Z0 (Nat.le_of_eq g2.symm)
  have sz_b2 : h0.size ≤ b2 := Nat.le_trans (Nat.le_refl h0.size) (Nat.le_of_eq g2.symm)
  have F_value_b2 : Fld Z h2 b2 "java/util/Optional" "value" "Ljava/lang/Object;" .null := D2 (Or.inr (hi 100 rfl)) (ty := (.object "java/lang/Object")) (by decide)
  obtain ⟨_, _, ⟨T3, L3, k3, n3⟩, -, X3, ⟨Lc3, hQ3, l3, y3, z3⟩, st3⟩ := Jvm.LawKit.callS X2 hx (y := (⟨"java/util/Objects", "requireNonNull", "(Ljava/lang/Object;)Ljava/lang/Object;"⟩ : MethodName)) hown (mvT hZ (hi 109 rfl)) (mvT hZ (hi 110 rfl)) (mvT hZ (hi 71 rfl)) (mvT hZ (hi 111 rfl)) (by decide) (backOf (W := 2) (rm19 l Z a0 hw [] a1 h2 n0 (Nat.le_trans Z0 E2.1) ) hZ (hi 111 rfl) (hi 71 rfl) (by decide) (by decide)) (g := (mkF m 5 #[vA a1] [(.ref a1), (.ref b2), (.ref b2)])) rfl (by rw [hml]; rfl) (argsL := [(.ref a1)]) (rest := [(.ref b2), (.ref b2)]) (lenOf pd__28Ljava_2flang_2fObject_3b_29Ljava_2flang_2fObject_3b rfl) rfl (by show 2 * 0 + _ ≤ _; exact Nat.le_of_eq rfl) (hb hby d18_5) (fun _ _ => ⟨rfl, e2, (by decide : 1 + 0 ≤ _), (by decide : 1 + 0 ≤ _)⟩)
  dsimp only [Pt.U, Pt.locs, Pt.cells, Pt.slots] at X3 l3 y3 z3 st3 hQ3
  subst l3 y3 z3
  obtain ⟨rfl, N3q, e3⟩ := hQ3
  have N3 := Fr.app N0 N3q
  obtain ⟨_, _, ⟨T4, L4, k4, n4⟩, -, X4, ⟨Lc4, hQ4, l4, y4, z4⟩, st4⟩ := X3.specialBack hx (y := (⟨"java/util/Optional", "<init>", "(Ljava/lang/Object;)V"⟩ : MethodName)) rfl hown (mvT hZ (hi 112 rfl)) (mvT hZ (hi 113 rfl)) (mvT hZ (hi 115 rfl)) (by decide) (backOf (W := 1) (rm20 l Z a0 hw [] b2 a1 .null h2 n0 (Nat.le_trans Z0 E2.1) A2 F_value_b2 g_b2) hZ (hi 115 rfl) (hi 53 rfl) (by decide) (by decide)) (g := (mkF m 8 #[vA a1] [(.ref a1), (.ref b2), (.ref b2)])) rfl (by rw [hml]; rfl) (Steps.refl _) (a := b2) (argsL := [(.ref a1)]) (rest := [(.ref b2)]) (lenOf pd__28Ljava_2flang_2fObject_3b_29V rfl) rfl (by show 2 * 0 + _ ≤ _; exact Nat.le_of_eq rfl) (hb hby d18_8) (fun _ _ => ⟨rfl, e3, (by decide : 1 + 0 ≤ _), (by decide : 1 + 0 ≤ _)⟩)
  dsimp only [Pt.U, Pt.locs, Pt.cells, Pt.slots] at X4 l4 y4 z4 st4 hQ4
  subst l4 y4 z4
  obtain ⟨rfl, N4q, K4, i4_0, i4_1⟩ := hQ4
  have N4 := Fr.app N3 N4q
  obtain ⟨fs, hr, hrun, hended, hW, hsame⟩ := X4.leave (v := some (.ref b2)) (fun h => by rw [Bd.returns] at h; cases h)
  refine ⟨_, _, pre0 _ ?_, hrun, hended, _, _, rfl, ?_, ⟨_, rfl⟩, hW, hsame.mono (by decide) (by decide)⟩
  · show Steps p.tables e below (s₁.setTop (mkF m 0 #[vA a1] [])) _
    refine st2 _ ?_
    refine XS.dup X2.here hx rfl (hb hby d18_3) rfl rfl ?_
    refine XS.aloadN X2.here hx rfl (hb hby d18_4) rfl rfl ?_
    show Steps p.tables e below (T2.setTop (mkF m 5 #[vA a1] [(.ref a1), (.ref b2), (.ref b2)])) _
    refine st3 _ ?_
    show Steps p.tables e below (T3.setTop (mkF m 8 #[vA a1] [(.ref a1), (.ref b2), (.ref b2)])) _
    refine st4.trans ?_
    show Steps p.tables e below (T4.setTop (mkF m 11 #[vA a1] [(.ref b2)])) _
    jvm_step X4.here [X4.here.top, hx, (hb hby d18_11), X4.method', Bd.returns, Value.isRef, FieldType.isReference]
    first | (intro acts; rw [hr _ acts rfl rfl rfl]) | rw [hr _ _ rfl rfl rfl]
    exact Steps.refl _
  · show Q_rm18 Z a1 h0 n0 _ T4.heap _
    exact ⟨b2, ⟨rfl, N4, (((Keep.refl h0 []).ext E2).trans K4 (fun x q => (List.mem_cons.mp q).elim (fun r => r ▸ (Or.inr sz_b2)) ((fun _ q => nomatch q) x))), sz_b2, i4_0, i4_1⟩⟩
def t6_0 (p2 : Int32) (z_a1 : Int32) : Int32 := (((p2 - z_a1).toUInt32 >>> ((31 : Int32) &&& 31).toUInt32).toInt32)
theorem d6_0 : decode jdk_52_method_15_code 0 = .ok (.iload_n 1, 1) := by decide +kernel
theorem d6_1 : decode jdk_52_method_15_code 1 = .ok (.aload_n 0, 1) := by decide +kernel
theorem d6_2 : decode jdk_52_method_15_code 2 = .ok (.arraylength, 1) := by decide +kernel
theorem d6_3 : decode jdk_52_method_15_code 3 = .ok (.isub, 1) := by decide +kernel
theorem d6_4 : decode jdk_52_method_15_code 4 = .ok (.bipush 31, 2) := by decide +kernel
theorem d6_6 : decode jdk_52_method_15_code 6 = .ok (.iushr, 1) := by decide +kernel
theorem d6_7 : decode jdk_52_method_15_code 7 = .ok (.i2b, 1) := by decide +kernel
theorem d6_8 : decode jdk_52_method_15_code 8 = .ok (.ireturn, 1) := by decide +kernel
theorem pn_6 : plainName "java/lang/StringUTF16" = true := by first | (simp [plainName, overriddenIn]; done) | decide +kernel
theorem ef_6 (m : MethodId) (x0 : Addr) (x1 : Int32) : entryFrame m #[(.ref x0), (.int x1)] 2 = mkF m 0 #[.val (.ref x0), .val (.int x1)] [] := by first | (simp [entryFrame, mkF, argsToLocals, Value.category]; done) | rfl
def Q_rm6 (Z : State) (a1 : Addr) (p2 : Int32) (k_a1 : ClassId) (z_a1 : Int32) (vs_a1 : List Value) (h0 : Heap) (n0 : Nat) (v : Option Value) (h : Heap) (L : List Loc) : Prop := v = some (.int (nar .byte ((t6_0 p2 z_a1).toInt8.toInt32))) ∧ Fr n0 L ∧ h = h0
set_option maxRecDepth 65536 in
set_option maxHeartbeats 40000000 in
theorem rm6 (l : Launch) (Z : State) (a0 : Array Value) (hw : ∀ d ∈ tables_1, d.before a0 Z = true) (ws : List Jvm.Cond) (a1 : Addr) (p2 : Int32) (k_a1 : ClassId) (z_a1 : Int32) (vs_a1 : List Value) (h0 : Heap) (n0 : Nat) (Z0 : n0 ≤ h0.size) (V_a1 : Arv Z h0 a1 k_a1 .byte z_a1 vs_a1 (.int (0 : Int32))) :
    MetFree l (⟨"java/lang/StringUTF16", "coderFromArrayLen", "([BI)B"⟩ : MethodName) (head1 (Jvm.Cond.code (⟨"java/lang/StringUTF16", "coderFromArrayLen", "([BI)B"⟩ : MethodName) jdk_52_method_15_code 2 (some .byte) :: ws) ({ frames := 0, cells := 0, slots := 0, locals := 0 } : Room)) (fun a U => a = #[(.ref a1), (.int p2)] ∧ Z.Warmed39 U.vm ∧ U.heap = h0) (fun _ _ _ _ _ => True) (fun _ U o U' => ∃ v L, o = .returned v ∧ Q_rm6 Z a1 p2 k_a1 z_a1 vs_a1 h0 n0 v U'.heap L ∧ FrameEnd U o U' L ({ frames := 0, cells := 0, slots := 0, locals := 0 } : Room).cells ({ frames := 0, cells := 0, slots := 0, locals := 0 } : Room).slots) := by
  have hi : ∀ (i : Nat) {d : Jvm.Cond}, tables_1[i]? = some d → d.before a0 Z = true := fun i d h => hw d (List.mem_of_getElem? h)
  refine MetFree.of_bodySF (plainFor_of_name pn_6) hisR ?_
  intro p e s m args below meth c s₁ Bd hml0 hP hK
  obtain ⟨rfl, hZ, hh⟩ := hP
  have hx := Bd.exec
  have hby := Bd.bytes
  have hml : c.maxLocals = 2 := hml0
  have hown : s.vm.findClass "java/lang/StringUTF16" = some m.cls := findClass_of_methodNamed Bd.named
  have hnm := (name_of_methodNamed Bd.named Bd.method).1
  have X0 : Stand p l e ({ frames := 0, cells := 0, slots := 0, locals := 0 } : Room) s m #[(.ref a1), (.int p2)] below meth c s₁ [] 0 0 := Stand.of_body Bd
  have e0 : s₁.heap = h0 := by rw [← hh, Bd.state]; rfl
  have N0 := Fr.nil n0
  have pre0 : ∀ t, Steps p.tables e below (s₁.setTop (mkF m 0 #[vA a1, vI p2] [])) t → Steps p.tables e below (s₁.setTop (entryFrame m #[(.ref a1), (.int p2)] 2)) t := fun t k => castTop (ef_6 m a1 p2) k
  obtain ⟨cl_a1_0, Ar_a1_0, q_a1_0, Sz_a1_0, Ng_a1_0, Ha_a1_0, Gt_a1_0⟩ := id V_a1
  obtain ⟨fs, hr, hrun, hended, hW, hsame⟩ := X0.leave (v := some (.int (nar .byte ((t6_0 p2 z_a1).toInt8.toInt32)))) (fun h => by rw [Bd.returns] at h; cases h)
  refine ⟨_, _, pre0 _ ?_, hrun, hended, _, _, rfl, ?_, ⟨_, rfl⟩, hW, hsame.mono (by decide) (by decide)⟩
  · show Steps p.tables e below (s₁.setTop (mkF m 0 #[vA a1, vI p2] [])) _
    refine XS.iloadN X0.here hx rfl (hb hby d6_0) rfl ?_
    refine XS.aloadN X0.here hx rfl (hb hby d6_1) rfl rfl ?_
    show Steps p.tables e below (s₁.setTop (mkF m 2 #[vA a1, vI p2] [(.ref a1), (.int p2)])) _
    refine X0.arraylength hx (by rw [e0]; exact Ar_a1_0.1) (State.isArrayOf_alike hZ.alike Ar_a1_0.2.1) (g := (mkF m 2 #[vA a1, vI p2] [(.ref a1), (.int p2)])) rfl rfl (hb hby d6_2) _ ?_
    rw [len_of Sz_a1_0 Ng_a1_0]
    refine XS.isub X0.here hx rfl (hb hby d6_3) rfl ?_
    refine XS.bipush X0.here hx rfl (hb hby d6_4) ?_
    refine XS.iushr X0.here hx rfl (hb hby d6_6) rfl ?_
    refine XS.i2b X0.here hx rfl (hb hby d6_7) rfl ?_
    show Steps p.tables e below (s₁.setTop (mkF m 8 #[vA a1, vI p2] [(.int ((t6_0 p2 z_a1).toInt8.toInt32))])) _
    exact retN X0 hx (t := .byte) Bd.returns (by simp) (hb hby d6_8) hr
  · show Q_rm6 Z a1 p2 k_a1 z_a1 vs_a1 h0 n0 _ s₁.heap _
    exact ⟨rfl, N0, e0⟩
theorem d5_0 : decode jdk_52_method_21_code 0 = .ok (.iconst 0, 1) := by decide +kernel
theorem d5_1 : decode jdk_52_method_21_code 1 = .ok (.istore 5, 2) := by decide +kernel
theorem d5_3 : decode jdk_52_method_21_code 3 = .ok (.iload 5, 2) := by decide +kernel
theorem d5_5 : decode jdk_52_method_21_code 5 = .ok (.iload 4, 2) := by decide +kernel
theorem d5_7 : decode jdk_52_method_21_code 7 = .ok (.if_icmp .ge 37, 3) := by decide +kernel
theorem d5_10 : decode jdk_52_method_21_code 10 = .ok (.aload_n 0, 1) := by decide +kernel
theorem d5_11 : decode jdk_52_method_21_code 11 = .ok (.iload_n 1, 1) := by decide +kernel
theorem d5_12 : decode jdk_52_method_21_code 12 = .ok (.caload, 1) := by decide +kernel
theorem d5_13 : decode jdk_52_method_21_code 13 = .ok (.istore 6, 2) := by decide +kernel
theorem d5_15 : decode jdk_52_method_21_code 15 = .ok (.iload 6, 2) := by decide +kernel
theorem d5_17 : decode jdk_52_method_21_code 17 = .ok (.sipush 255, 3) := by decide +kernel
theorem d5_20 : decode jdk_52_method_21_code 20 = .ok (.if_icmp .le 6, 3) := by decide +kernel
theorem d5_26 : decode jdk_52_method_21_code 26 = .ok (.aload_n 2, 1) := by decide +kernel
theorem d5_27 : decode jdk_52_method_21_code 27 = .ok (.iload_n 3, 1) := by decide +kernel
theorem d5_28 : decode jdk_52_method_21_code 28 = .ok (.iload 6, 2) := by decide +kernel
theorem d5_30 : decode jdk_52_method_21_code 30 = .ok (.i2b, 1) := by decide +kernel
theorem d5_31 : decode jdk_52_method_21_code 31 = .ok (.bastore, 1) := by decide +kernel
theorem d5_32 : decode jdk_52_method_21_code 32 = .ok (.iinc 1 1, 3) := by decide +kernel
theorem d5_35 : decode jdk_52_method_21_code 35 = .ok (.iinc 3 1, 3) := by decide +kernel
theorem d5_38 : decode jdk_52_method_21_code 38 = .ok (.iinc 5 1, 3) := by decide +kernel
theorem d5_41 : decode jdk_52_method_21_code 41 = .ok (.goto (-38), 3) := by decide +kernel
theorem d5_44 : decode jdk_52_method_21_code 44 = .ok (.iload 4, 2) := by decide +kernel
theorem d5_46 : decode jdk_52_method_21_code 46 = .ok (.ireturn, 1) := by decide +kernel
theorem pn_5 : plainName "java/lang/StringUTF16" = true := by first | (simp [plainName, overriddenIn]; done) | decide +kernel
theorem ef_5 (m : MethodId) (x0 : Addr) (x1 : Int32) (x2 : Addr) (x3 : Int32) (x4 : Int32) : entryFrame m #[(.ref x0), (.int x1), (.ref x2), (.int x3), (.int x4)] 7 = mkF m 0 #[.val (.ref x0), .val (.int x1), .val (.ref x2), .val (.int x3), .val (.int x4), .unset, .unset] [] := by first | (simp [entryFrame, mkF, argsToLocals, Value.category]; done) | rfl
def Q_rm5 (Z : State) (a1 : Addr) (a2 : Addr) (k_a1 : ClassId) (x_a1_0 : Int32) (x_a1_1 : Int32) (k_a2 : ClassId) (x_a2_0 : Int32) (x_a2_1 : Int32) (h0 : Heap) (n0 : Nat) (v : Option Value) (h : Heap) (L : List Loc) : Prop := v = some (.int (2 : Int32)) ∧ Fr n0 L ∧ Keep h0 h [a2] ∧ Arv Z h a2 k_a2 .byte (2 : Int32) [(.int (nar .byte (x_a1_0.toInt8.toInt32))), (.int (nar .byte (x_a1_1.toInt8.toInt32)))] (.int (0 : Int32))
set_option maxRecDepth 65536 in
set_option maxHeartbeats 40000000 in
theorem rm5 (l : Launch) (Z : State) (a0 : Array Value) (hw : ∀ d ∈ tables_1, d.before a0 Z = true) (ws : List Jvm.Cond) (a1 : Addr) (a2 : Addr) (k_a1 : ClassId) (x_a1_0 : Int32) (x_a1_1 : Int32) (k_a2 : ClassId) (x_a2_0 : Int32) (x_a2_1 : Int32) (h0 : Heap) (n0 : Nat) (Z0 : n0 ≤ h0.size) (g_a2 : n0 ≤ a2) (V_a1 : Arv Z h0 a1 k_a1 .char (2 : Int32) [(.int x_a1_0), (.int x_a1_1)] (.int (0 : Int32))) (V_a2 : Arv Z h0 a2 k_a2 .byte (2 : Int32) [(.int x_a2_0), (.int x_a2_1)] (.int (0 : Int32))) (hc20 : ¬ ((255 : Int32) < x_a1_0)) (ne_a1_a2 : a1 ≠ a2) (hc20' : ¬ ((255 : Int32) < x_a1_1)) :
    MetFree l (⟨"java/lang/StringUTF16", "compress", "([CI[BII)I"⟩ : MethodName) (head1 (Jvm.Cond.code (⟨"java/lang/StringUTF16", "compress", "([CI[BII)I"⟩ : MethodName) jdk_52_method_21_code 7 (some .int) :: ws) ({ frames := 0, cells := 0, slots := 0, locals := 0 } : Room)) (fun a U => a = #[(.ref a1), (.int (0 : Int32)), (.ref a2), (.int (0 : Int32)), (.int (2 : Int32))] ∧ Z.Warmed39 U.vm ∧ U.heap = h0) (fun _ _ _ _ _ => True) (fun _ U o U' => ∃ v L, o = .returned v ∧ Q_rm5 Z a1 a2 k_a1 x_a1_0 x_a1_1 k_a2 x_a2_0 x_a2_1 h0 n0 v U'.heap L ∧ FrameEnd U o U' L ({ frames := 0, cells := 0, slots := 0, locals := 0 } : Room).cells ({ frames := 0, cells := 0, slots := 0, locals := 0 } : Room).slots) := by
  have hi : ∀ (i : Nat) {d : Jvm.Cond}, tables_1[i]? = some d → d.before a0 Z = true := fun i d h => hw d (List.mem_of_getElem? h)
  refine MetFree.of_bodySF (plainFor_of_name pn_5) hisR ?_
  intro p e s m args below meth c s₁ Bd hml0 hP hK
  obtain ⟨rfl, hZ, hh⟩ := hP
  have hx := Bd.exec
  have hby := Bd.bytes
  have hml : c.maxLocals = 7 := hml0
  have hown : s.vm.findClass "java/lang/StringUTF16" = some m.cls := findClass_of_methodNamed Bd.named
  have hnm := (name_of_methodNamed Bd.named Bd.method).1
  have X0 : Stand p l e ({ frames := 0, cells := 0, slots := 0, locals := 0 } : Room) s m #[(.ref a1), (.int (0 : Int32)), (.ref a2), (.int (0 : Int32)), (.int (2 : Int32))] below meth c s₁ [] 0 0 := Stand.of_body Bd
  have e0 : s₁.heap = h0 := by rw [← hh, Bd.state]; rfl
  have N0 := Fr.nil n0
  have pre0 : ∀ t, Steps p.tables e below (s₁.setTop (mkF m 0 #[vA a1, vI (0 : Int32), vA a2, vI (0 : Int32), vI (2 : Int32), vU, vU] [])) t → Steps p.tables e below (s₁.setTop (entryFrame m #[(.ref a1), (.int (0 : Int32)), (.ref a2), (.int (0 : Int32)), (.int (2 : Int32))] 7)) t := fun t k => castTop (ef_5 m a1 (0 : Int32) a2 (0 : Int32) (2 : Int32)) k
  obtain ⟨cl_a1_0, Ar_a1_0, q_a1_0, Sz_a1_0, Ng_a1_0, Ha_a1_0, Gt_a1_0⟩ := id V_a1
  have hin_a1_0 : ¬ ((0 : Int32) < 0 ∨ cl_a1_0.slots.size ≤ ((0 : Int32)).toNatClampNeg) := inb_of Sz_a1_0 ⟨by decide, by decide⟩
  have hat_a1_0 : cl_a1_0.slots[((0 : Int32)).toNatClampNeg]? = some (.int x_a1_0) := (Ha_a1_0 _ (Nat.lt_of_not_le fun q => hin_a1_0 (Or.inr q))).trans (congrArg some (rfl : (([(.int x_a1_0), (.int x_a1_1)] : List Value)).getD ((0 : Int32)).toNatClampNeg (.int (0 : Int32)) = (.int x_a1_0)))
  obtain ⟨cl_a2_1, Ar_a2_1, q_a2_1, Sz_a2_1, Ng_a2_1, Ha_a2_1, Gt_a2_1⟩ := id V_a2
  have hin_a2_1 : ¬ ((0 : Int32) < 0 ∨ cl_a2_1.slots.size ≤ ((0 : Int32)).toNatClampNeg) := inb_of Sz_a2_1 ⟨by decide, by decide⟩
  obtain ⟨T3, h3, X3, e3, W3, st3⟩ := stB X0 hx hZ e0 Ar_a2_1 (j := (0 : Int32)) hin_a2_1 (g := (mkF m 31 #[vA a1, vI (0 : Int32), vA a2, vI (0 : Int32), vI (2 : Int32), vI (0 : Int32), vI x_a1_0] [(.int (x_a1_0.toInt8.toInt32)), (.int (0 : Int32)), (.ref a2)])) rfl rfl (hb hby d5_31)
  have V3 : Arv Z h3 a2 k_a2 .byte (2 : Int32) [(.int (nar .byte (x_a1_0.toInt8.toInt32))), (.int x_a2_1)] (.int (0 : Int32)) := Arv.set Ar_a2_1 q_a2_1 Sz_a2_1 Ng_a2_1 Ha_a2_1 Gt_a2_1 (fits_nar_byte _) W3 0 rfl (Nat.le_of_ble_eq_true rfl)
  have N3 := Fr.snoc X3 N0 g_a2
  have f2 := (V_a1.other W3 ne_a1_a2)
  obtain ⟨cl_a1_3, Ar_a1_3, q_a1_3, Sz_a1_3, Ng_a1_3, Ha_a1_3, Gt_a1_3⟩ := id f2
  have hin_a1_3 : ¬ ((1 : Int32) < 0 ∨ cl_a1_3.slots.size ≤ ((1 : Int32)).toNatClampNeg) := inb_of Sz_a1_3 ⟨by decide, by decide⟩
  have hat_a1_3 : cl_a1_3.slots[((1 : Int32)).toNatClampNeg]? = some (.int x_a1_1) := (Ha_a1_3 _ (Nat.lt_of_not_le fun q => hin_a1_3 (Or.inr q))).trans (congrArg some (rfl : (([(.int x_a1_0), (.int x_a1_1)] : List Value)).getD ((1 : Int32)).toNatClampNeg (.int (0 : Int32)) = (.int x_a1_1)))
  obtain ⟨cl_a2_4, Ar_a2_4, q_a2_4, Sz_a2_4, Ng_a2_4, Ha_a2_4, Gt_a2_4⟩ := id V3
  have hin_a2_4 : ¬ ((1 : Int32) < 0 ∨ cl_a2_4.slots.size ≤ ((1 : Int32)).toNatClampNeg) := inb_of Sz_a2_4 ⟨by decide, by decide⟩
  obtain ⟨T4, h4, X4, e4, W4, st4⟩ := stB X3 hx hZ e3 Ar_a2_4 (j := (1 : Int32)) hin_a2_4 (g := (mkF m 31 #[vA a1, vI (1 : Int32), vA a2, vI (1 : Int32), vI (2 : Int32), vI (1 : Int32), vI x_a1_1] [(.int (x_a1_1.toInt8.toInt32)), (.int (1 : Int32)), (.ref a2)])) rfl rfl (hb hby d5_31)
  have V4 : Arv Z h4 a2 k_a2 .byte (2 : Int32) [(.int (nar .byte (x_a1_0.toInt8.toInt32))), (.int (nar .byte (x_a1_1.toInt8.toInt32)))] (.int (0 : Int32)) := Arv.set Ar_a2_4 q_a2_4 Sz_a2_4 Ng_a2_4 Ha_a2_4 Gt_a2_4 (fits_nar_byte _) W4 1 rfl (Nat.le_of_ble_eq_true rfl)
  have N4 := Fr.snoc X4 N3 g_a2
  obtain ⟨fs, hr, hrun, hended, hW, hsame⟩ := X4.leave (v := some (.int (2 : Int32))) (fun h => by rw [Bd.returns] at h; cases h)
  refine ⟨_, _, pre0 _ ?_, hrun, hended, _, _, rfl, ?_, ⟨_, rfl⟩, hW, hsame.mono (by decide) (by decide)⟩
  · show Steps p.tables e below (s₁.setTop (mkF m 0 #[vA a1, vI (0 : Int32), vA a2, vI (0 : Int32), vI (2 : Int32), vU, vU] [])) _
    refine XS.iconst X0.here hx rfl (hb hby d5_0) ?_
    refine XS.istore X0.here hx rfl (hb hby d5_1) rfl (l' := #[vA a1, vI (0 : Int32), vA a2, vI (0 : Int32), vI (2 : Int32), vI (0 : Int32), vU]) rfl ?_
    refine XS.iload X0.here hx rfl (hb hby d5_3) rfl ?_
    refine XS.iload X0.here hx rfl (hb hby d5_5) rfl ?_
    show Steps p.tables e below (s₁.setTop (mkF m 7 #[vA a1, vI (0 : Int32), vA a2, vI (0 : Int32), vI (2 : Int32), vI (0 : Int32), vU] [(.int (2 : Int32)), (.int (0 : Int32))])) _
    refine XS.icmpNo X0.here hx rfl (hb hby d5_7) rfl (tlt (by decide : (0 : Int32) < (2 : Int32))).2.1 ?_
    refine XS.aloadN X0.here hx rfl (hb hby d5_10) rfl rfl ?_
    refine XS.iloadN X0.here hx rfl (hb hby d5_11) rfl ?_
    show Steps p.tables e below (s₁.setTop (mkF m 12 #[vA a1, vI (0 : Int32), vA a2, vI (0 : Int32), vI (2 : Int32), vI (0 : Int32), vU] [(.int (0 : Int32)), (.ref a1)])) _
    refine X0.caload hx (j := (0 : Int32)) (v := (.int x_a1_0)) (by rw [e0]; exact Ar_a1_0.1) (State.isArrayOf_alike hZ.alike Ar_a1_0.2.1) Ar_a1_0.2.2 hin_a1_0 hat_a1_0 (g := (mkF m 12 #[vA a1, vI (0 : Int32), vA a2, vI (0 : Int32), vI (2 : Int32), vI (0 : Int32), vU] [(.int (0 : Int32)), (.ref a1)])) rfl rfl (hb hby d5_12) _ ?_
    refine XS.istore X0.here hx rfl (hb hby d5_13) rfl (l' := #[vA a1, vI (0 : Int32), vA a2, vI (0 : Int32), vI (2 : Int32), vI (0 : Int32), vI x_a1_0]) rfl ?_
    refine XS.iload X0.here hx rfl (hb hby d5_15) rfl ?_
    refine XS.sipush X0.here hx rfl (hb hby d5_17) ?_
    show Steps p.tables e below (s₁.setTop (mkF m 20 #[vA a1, vI (0 : Int32), vA a2, vI (0 : Int32), vI (2 : Int32), vI (0 : Int32), vI x_a1_0] [(.int (255 : Int32)), (.int x_a1_0)])) _
    refine XS.icmpYes X0.here hx rfl (pc0 := 20) (pc' := 26) rfl (hb hby d5_20) rfl (flt hc20).2.2.2 (by decide) (by decide) ?_
    refine XS.aloadN X0.here hx rfl (hb hby d5_26) rfl rfl ?_
    refine XS.iloadN X0.here hx rfl (hb hby d5_27) rfl ?_
    refine XS.iload X0.here hx rfl (hb hby d5_28) rfl ?_
    refine XS.i2b X0.here hx rfl (hb hby d5_30) rfl ?_
    show Steps p.tables e below (s₁.setTop (mkF m 31 #[vA a1, vI (0 : Int32), vA a2, vI (0 : Int32), vI (2 : Int32), vI (0 : Int32), vI x_a1_0] [(.int (x_a1_0.toInt8.toInt32)), (.int (0 : Int32)), (.ref a2)])) _
    refine st3 _ ?_
    refine XS.iinc X3.here hx rfl (hb hby d5_32) rfl (l' := #[vA a1, vI (1 : Int32), vA a2, vI (0 : Int32), vI (2 : Int32), vI (0 : Int32), vI x_a1_0]) rfl ?_
    refine XS.iinc X3.here hx rfl (hb hby d5_35) rfl (l' := #[vA a1, vI (1 : Int32), vA a2, vI (1 : Int32), vI (2 : Int32), vI (0 : Int32), vI x_a1_0]) rfl ?_
    refine XS.iinc X3.here hx rfl (hb hby d5_38) rfl (l' := #[vA a1, vI (1 : Int32), vA a2, vI (1 : Int32), vI (2 : Int32), vI (1 : Int32), vI x_a1_0]) rfl ?_
    show Steps p.tables e below (T3.setTop (mkF m 41 #[vA a1, vI (1 : Int32), vA a2, vI (1 : Int32), vI (2 : Int32), vI (1 : Int32), vI x_a1_0] [])) _
    refine XS.goto X3.here hx rfl (pc0 := 41) (pc' := 3) rfl (hb hby d5_41) (by decide) (by decide) ?_
    refine XS.iload X3.here hx rfl (hb hby d5_3) rfl ?_
    refine XS.iload X3.here hx rfl (hb hby d5_5) rfl ?_
    show Steps p.tables e below (T3.setTop (mkF m 7 #[vA a1, vI (1 : Int32), vA a2, vI (1 : Int32), vI (2 : Int32), vI (1 : Int32), vI x_a1_0] [(.int (2 : Int32)), (.int (1 : Int32))])) _
    refine XS.icmpNo X3.here hx rfl (hb hby d5_7) rfl (tlt (by decide : (1 : Int32) < (2 : Int32))).2.1 ?_
    refine XS.aloadN X3.here hx rfl (hb hby d5_10) rfl rfl ?_
    refine XS.iloadN X3.here hx rfl (hb hby d5_11) rfl ?_
    show Steps p.tables e below (T3.setTop (mkF m 12 #[vA a1, vI (1 : Int32), vA a2, vI (1 : Int32), vI (2 : Int32), vI (1 : Int32), vI x_a1_0] [(.int (1 : Int32)), (.ref a1)])) _
    refine X3.caload hx (j := (1 : Int32)) (v := (.int x_a1_1)) (by rw [e3]; exact Ar_a1_3.1) (State.isArrayOf_alike hZ.alike Ar_a1_3.2.1) Ar_a1_3.2.2 hin_a1_3 hat_a1_3 (g := (mkF m 12 #[vA a1, vI (1 : Int32), vA a2, vI (1 : Int32), vI (2 : Int32), vI (1 : Int32), vI x_a1_0] [(.int (1 : Int32)), (.ref a1)])) rfl rfl (hb hby d5_12) _ ?_
    refine XS.istore X3.here hx rfl (hb hby d5_13) rfl (l' := #[vA a1, vI (1 : Int32), vA a2, vI (1 : Int32), vI (2 : Int32), vI (1 : Int32), vI x_a1_1]) rfl ?_
    refine XS.iload X3.here hx rfl (hb hby d5_15) rfl ?_
    refine XS.sipush X3.here hx rfl (hb hby d5_17) ?_
    show Steps p.tables e below (T3.setTop (mkF m 20 #[vA a1, vI (1 : Int32), vA a2, vI (1 : Int32), vI (2 : Int32), vI (1 : Int32), vI x_a1_1] [(.int (255 : Int32)), (.int x_a1_1)])) _
    refine XS.icmpYes X3.here hx rfl (pc0 := 20) (pc' := 26) rfl (hb hby d5_20) rfl (flt hc20').2.2.2 (by decide) (by decide) ?_
    refine XS.aloadN X3.here hx rfl (hb hby d5_26) rfl rfl ?_
    refine XS.iloadN X3.here hx rfl (hb hby d5_27) rfl ?_
    refine XS.iload X3.here hx rfl (hb hby d5_28) rfl ?_
    refine XS.i2b X3.here hx rfl (hb hby d5_30) rfl ?_
    show Steps p.tables e below (T3.setTop (mkF m 31 #[vA a1, vI (1 : Int32), vA a2, vI (1 : Int32), vI (2 : Int32), vI (1 : Int32), vI x_a1_1] [(.int (x_a1_1.toInt8.toInt32)), (.int (1 : Int32)), (.ref a2)])) _
    refine st4 _ ?_
    refine XS.iinc X4.here hx rfl (hb hby d5_32) rfl (l' := #[vA a1, vI (2 : Int32), vA a2, vI (1 : Int32), vI (2 : Int32), vI (1 : Int32), vI x_a1_1]) rfl ?_
    refine XS.iinc X4.here hx rfl (hb hby d5_35) rfl (l' := #[vA a1, vI (2 : Int32), vA a2, vI (2 : Int32), vI (2 : Int32), vI (1 : Int32), vI x_a1_1]) rfl ?_
    refine XS.iinc X4.here hx rfl (hb hby d5_38) rfl (l' := #[vA a1, vI (2 : Int32), vA a2, vI (2 : Int32), vI (2 : Int32), vI (2 : Int32), vI x_a1_1]) rfl ?_
    show Steps p.tables e below (T4.setTop (mkF m 41 #[vA a1, vI (2 : Int32), vA a2, vI (2 : Int32), vI (2 : Int32), vI (2 : Int32), vI x_a1_1] [])) _
    refine XS.goto X4.here hx rfl (pc0 := 41) (pc' := 3) rfl (hb hby d5_41) (by decide) (by decide) ?_
    refine XS.iload X4.here hx rfl (hb hby d5_3) rfl ?_
    refine XS.iload X4.here hx rfl (hb hby d5_5) rfl ?_
    show Steps p.tables e below (T4.setTop (mkF m 7 #[vA a1, vI (2 : Int32), vA a2, vI (2 : Int32), vI (2 : Int32), vI (2 : Int32), vI x_a1_1] [(.int (2 : Int32)), (.int (2 : Int32))])) _
    refine XS.icmpYes X4.here hx rfl (pc0 := 7) (pc' := 44) rfl (hb hby d5_7) rfl (flt (fun q => Int32.lt_irrefl q : ¬ ((2 : Int32) < (2 : Int32)))).2.1 (by decide) (by decide) ?_
    refine XS.iload X4.here hx rfl (hb hby d5_44) rfl ?_
    show Steps p.tables e below (T4.setTop (mkF m 46 #[vA a1, vI (2 : Int32), vA a2, vI (2 : Int32), vI (2 : Int32), vI (2 : Int32), vI x_a1_1] [(.int (2 : Int32))])) _
    exact retI X4 hx Bd.returns (hb hby d5_46) hr
  · show Q_rm5 Z a1 a2 k_a1 x_a1_0 x_a1_1 k_a2 x_a2_0 x_a2_1 h0 n0 _ T4.heap _
    rw [e4]
    exact ⟨rfl, N4, (((Keep.refl h0 [a2]).wr W3 (Or.inl (List.mem_of_getElem? (i := 0) rfl))).wr W4 (Or.inl (List.mem_of_getElem? (i := 0) rfl))), V4⟩
theorem pd__28_5bCI_5bBII_29I : parseMethodDescriptor "([CI[BII)I" = some ⟨[(.array .char), .int, (.array .byte), .int, .int], some .int⟩ := by decide +kernel
theorem d4_0 : decode jdk_52_method_16_code 0 = .ok (.iload_n 2, 1) := by decide +kernel
theorem d4_1 : decode jdk_52_method_16_code 1 = .ok (.newarray .byte, 2) := by decide +kernel
theorem d4_3 : decode jdk_52_method_16_code 3 = .ok (.astore_n 3, 1) := by decide +kernel
theorem d4_4 : decode jdk_52_method_16_code 4 = .ok (.aload_n 0, 1) := by decide +kernel
theorem d4_5 : decode jdk_52_method_16_code 5 = .ok (.iload_n 1, 1) := by decide +kernel
theorem d4_6 : decode jdk_52_method_16_code 6 = .ok (.aload_n 3, 1) := by decide +kernel
theorem d4_7 : decode jdk_52_method_16_code 7 = .ok (.iconst 0, 1) := by decide +kernel
theorem d4_8 : decode jdk_52_method_16_code 8 = .ok (.iload_n 2, 1) := by decide +kernel
theorem d4_9 : decode jdk_52_method_16_code 9 = .ok (.invokestatic 115, 3) := by decide +kernel
theorem d4_12 : decode jdk_52_method_16_code 12 = .ok (.istore 4, 2) := by decide +kernel
theorem d4_14 : decode jdk_52_method_16_code 14 = .ok (.iload 4, 2) := by decide +kernel
theorem d4_16 : decode jdk_52_method_16_code 16 = .ok (.iload_n 2, 1) := by decide +kernel
theorem d4_17 : decode jdk_52_method_16_code 17 = .ok (.if_icmp .eq 40, 3) := by decide +kernel
theorem d4_57 : decode jdk_52_method_16_code 57 = .ok (.aload_n 3, 1) := by decide +kernel
theorem d4_58 : decode jdk_52_method_16_code 58 = .ok (.areturn, 1) := by decide +kernel
theorem pn_4 : plainName "java/lang/StringUTF16" = true := by first | (simp [plainName, overriddenIn]; done) | decide +kernel
theorem ef_4 (m : MethodId) (x0 : Addr) (x1 : Int32) (x2 : Int32) : entryFrame m #[(.ref x0), (.int x1), (.int x2)] 6 = mkF m 0 #[.val (.ref x0), .val (.int x1), .val (.int x2), .unset, .unset, .unset] [] := by first | (simp [entryFrame, mkF, argsToLocals, Value.category]; done) | rfl
def Q_rm4 (Z : State) (a1 : Addr) (k_a1 : ClassId) (x_a1_0 : Int32) (x_a1_1 : Int32) (h0 : Heap) (n0 : Nat) (v : Option Value) (h : Heap) (L : List Loc) : Prop := ∃ b2 : Addr, ∃ k2 : ClassId, v = some (.ref b2) ∧ Fr n0 L ∧ Keep h0 h [] ∧ h0.size ≤ b2 ∧ Arv Z h b2 k2 .byte (2 : Int32) [(.int (nar .byte (x_a1_0.toInt8.toInt32))), (.int (nar .byte (x_a1_1.toInt8.toInt32)))] (.int (0 : Int32))
set_option maxRecDepth 65536 in
set_option maxHeartbeats 40000000 in
theorem rm4 (l : Launch) (Z : State) (a0 : Array Value) (hw : ∀ d ∈ tables_1, d.before a0 Z = true) (ws : List Jvm.Cond) (a1 : Addr) (k_a1 : ClassId) (x_a1_0 : Int32) (x_a1_1 : Int32) (h0 : Heap) (n0 : Nat) (Z0 : n0 ≤ h0.size) (V_a1 : Arv Z h0 a1 k_a1 .char (2 : Int32) [(.int x_a1_0), (.int x_a1_1)] (.int (0 : Int32))) (hhc20_9 : ¬ ((255 : Int32) < x_a1_0)) (hhc20'_9 : ¬ ((255 : Int32) < x_a1_1)) :
    MetFree l (⟨"java/lang/StringUTF16", "compress", "([CII)[B"⟩ : MethodName) (head1 (Jvm.Cond.code (⟨"java/lang/StringUTF16", "compress", "([CII)[B"⟩ : MethodName) jdk_52_method_16_code 6 (some (.array .byte)) :: ws) ({ frames := 1, cells := 1, slots := 2, locals := 18 } : Room)) (fun a U => a = #[(.ref a1), (.int (0 : Int32)), (.int (2 : Int32))] ∧ Z.Warmed39 U.vm ∧ U.heap = h0) (fun _ _ _ _ _ => True) (fun _ U o U' => ∃ v L, o = .returned v ∧ Q_rm4 Z a1 k_a1 x_a1_0 x_a1_1 h0 n0 v U'.heap L ∧ FrameEnd U o U' L ({ frames := 1, cells := 1, slots := 2, locals := 18 } : Room).cells ({ frames := 1, cells := 1, slots := 2, locals := 18 } : Room).slots) := by
  have hi : ∀ (i : Nat) {d : Jvm.Cond}, tables_1[i]? = some d → d.before a0 Z = true := fun i d h => hw d (List.mem_of_getElem? h)
  refine MetFree.of_bodySF (plainFor_of_name pn_4) hisR ?_
  intro p e s m args below meth c s₁ Bd hml0 hP hK
  obtain ⟨rfl, hZ, hh⟩ := hP
  have hx := Bd.exec
  have hby := Bd.bytes
  have hml : c.maxLocals = 6 := hml0
  have hown : s.vm.findClass "java/lang/StringUTF16" = some m.cls := findClass_of_methodNamed Bd.named
  have hnm := (name_of_methodNamed Bd.named Bd.method).1
  have X0 : Stand p l e ({ frames := 1, cells := 1, slots := 2, locals := 18 } : Room) s m #[(.ref a1), (.int (0 : Int32)), (.int (2 : Int32))] below meth c s₁ [] 0 0 := Stand.of_body Bd
  have e0 : s₁.heap = h0 := by rw [← hh, Bd.state]; rfl
  have N0 := Fr.nil n0
  have pre0 : ∀ t, Steps p.tables e below (s₁.setTop (mkF m 0 #[vA a1, vI (0 : Int32), vI (2 : Int32), vU, vU, vU] [])) t → Steps p.tables e below (s₁.setTop (entryFrame m #[(.ref a1), (.int (0 : Int32)), (.int (2 : Int32))] 6)) t := fun t k => castTop (ef_4 m a1 (0 : Int32) (2 : Int32)) k
  obtain ⟨T2, h2, k2, X2, e2, E2, A2, st2⟩ := newP X0 hx hZ (hi 19 rfl) e0 (g := (mkF m 1 #[vA a1, vI (0 : Int32), vI (2 : Int32), vU, vU, vU] [(.int (2 : Int32))])) rfl (hb hby d4_1) rfl (by decide) (cap := 2) (by decide) (by decide) (by decide) (by decide)
  obtain ⟨b2, g2⟩ : ∃ z, z = h0.size := ⟨_, rfl⟩
  rw [← g2] at A2 st2
  have g_b2 : n0 ≤ b2 := Nat.le_trans Z0 (Nat.le_of_eq g2.symm)
  have sz_b2 : h0.size ≤ b2 := Nat.le_trans (Nat.le_refl h0.size) (Nat.le_of_eq g2.symm)
  have V_b2 : Arv Z h2 b2 k2 .byte (2 : Int32) [(.int (0 : Int32)), (.int (0 : Int32))] (.int (0 : Int32)) := (Arv.new A2 (by decide)).pad (pad_rep [] (.int (0 : Int32)) 2)
  have f0 := (V_a1.ext E2)
  obtain ⟨_, _, ⟨T3, L3, k3, n3⟩, -, X3, ⟨Lc3, hQ3, l3, y3, z3⟩, st3⟩ := Jvm.LawKit.callS X2 hx (y := (⟨"java/lang/StringUTF16", "compress", "([CI[BII)I"⟩ : MethodName)) hown (mvT hZ (hi 20 rfl)) (mvT hZ (hi 21 rfl)) (mvT hZ (hi 17 rfl)) (mvT hZ (hi 22 rfl)) (by decide) (backOf (W := 0) (rm5 l Z a0 hw [] a1 b2 k_a1 x_a1_0 x_a1_1 k2 (0 : Int32) (0 : Int32) h2 n0 (Nat.le_trans Z0 E2.1) g_b2 f0 V_b2 hhc20_9 (Nat.ne_of_lt (Nat.lt_of_lt_of_le V_a1.lt (Nat.le_of_eq g2.symm))) hhc20'_9) hZ (hi 22 rfl) (hi 17 rfl) (by decide) (by decide)) (g := (mkF m 9 #[vA a1, vI (0 : Int32), vI (2 : Int32), vA b2, vU, vU] [(.int (2 : Int32)), (.int (0 : Int32)), (.ref b2), (.int (0 : Int32)), (.ref a1)])) rfl (by rw [hml]; rfl) (argsL := [(.ref a1), (.int (0 : Int32)), (.ref b2), (.int (0 : Int32)), (.int (2 : Int32))]) (rest := []) (lenOf pd__28_5bCI_5bBII_29I rfl) rfl (by show 2 * 0 + _ ≤ _; exact Nat.le_of_eq rfl) (hb hby d4_9) (fun _ _ => ⟨rfl, e2, (by decide : 1 + 0 ≤ _), (by decide : 2 + 0 ≤ _)⟩)
  dsimp only [Pt.U, Pt.locs, Pt.cells, Pt.slots] at X3 l3 y3 z3 st3 hQ3
  subst l3 y3 z3
  obtain ⟨rfl, N3q, K3, i3_0⟩ := hQ3
  have N3 := Fr.app N0 N3q
  obtain ⟨fs, hr, hrun, hended, hW, hsame⟩ := X3.leave (v := some (.ref b2)) (fun h => by rw [Bd.returns] at h; cases h)
  refine ⟨_, _, pre0 _ ?_, hrun, hended, _, _, rfl, ?_, ⟨_, rfl⟩, hW, hsame.mono (by decide) (by decide)⟩
  · show Steps p.tables e below (s₁.setTop (mkF m 0 #[vA a1, vI (0 : Int32), vI (2 : Int32), vU, vU, vU] [])) _
    refine XS.iloadN X0.here hx rfl (hb hby d4_0) rfl ?_
    show Steps p.tables e below (s₁.setTop (mkF m 1 #[vA a1, vI (0 : Int32), vI (2 : Int32), vU, vU, vU] [(.int (2 : Int32))])) _
    refine st2 _ ?_
    refine XS.astoreN X2.here hx rfl (hb hby d4_3) rfl rfl (l' := #[vA a1, vI (0 : Int32), vI (2 : Int32), vA b2, vU, vU]) rfl ?_
    refine XS.aloadN X2.here hx rfl (hb hby d4_4) rfl rfl ?_
    refine XS.iloadN X2.here hx rfl (hb hby d4_5) rfl ?_
    refine XS.aloadN X2.here hx rfl (hb hby d4_6) rfl rfl ?_
    refine XS.iconst X2.here hx rfl (hb hby d4_7) ?_
    refine XS.iloadN X2.here hx rfl (hb hby d4_8) rfl ?_
    show Steps p.tables e below (T2.setTop (mkF m 9 #[vA a1, vI (0 : Int32), vI (2 : Int32), vA b2, vU, vU] [(.int (2 : Int32)), (.int (0 : Int32)), (.ref b2), (.int (0 : Int32)), (.ref a1)])) _
    refine st3 _ ?_
    refine XS.istore X3.here hx rfl (hb hby d4_12) rfl (l' := #[vA a1, vI (0 : Int32), vI (2 : Int32), vA b2, vI (2 : Int32), vU]) rfl ?_
    refine XS.iload X3.here hx rfl (hb hby d4_14) rfl ?_
    refine XS.iloadN X3.here hx rfl (hb hby d4_16) rfl ?_
    show Steps p.tables e below (T3.setTop (mkF m 17 #[vA a1, vI (0 : Int32), vI (2 : Int32), vA b2, vI (2 : Int32), vU] [(.int (2 : Int32)), (.int (2 : Int32))])) _
    refine XS.icmpYes X3.here hx rfl (pc0 := 17) (pc' := 57) rfl (hb hby d4_17) rfl (teq (rfl : (2 : Int32) = (2 : Int32))).1 (by decide) (by decide) ?_
    refine XS.aloadN X3.here hx rfl (hb hby d4_57) rfl rfl ?_
    show Steps p.tables e below (T3.setTop (mkF m 58 #[vA a1, vI (0 : Int32), vI (2 : Int32), vA b2, vI (2 : Int32), vU] [(.ref b2)])) _
    jvm_step X3.here [X3.here.top, hx, (hb hby d4_58), X3.method', Bd.returns, Value.isRef, FieldType.isReference]
    first | (intro acts; rw [hr _ acts rfl rfl rfl]) | rw [hr _ _ rfl rfl rfl]
    exact Steps.refl _
  · show Q_rm4 Z a1 k_a1 x_a1_0 x_a1_1 h0 n0 _ T3.heap _
    exact ⟨b2, ⟨k2, ⟨rfl, N3, (((Keep.refl h0 []).ext E2).trans K3 (fun x q => (List.mem_cons.mp q).elim (fun r => r ▸ (Or.inr sz_b2)) ((fun _ q => nomatch q) x))), sz_b2, i3_0⟩⟩⟩
theorem pd__28_5bCII_29_5bB : parseMethodDescriptor "([CII)[B" = some ⟨[(.array .char), .int, .int], some (.array .byte)⟩ := by decide +kernel
theorem pd__28_5bBI_29B : parseMethodDescriptor "([BI)B" = some ⟨[(.array .byte), .int], some .byte⟩ := by decide +kernel
theorem d2_0 : decode jdk_42_method_149_code 0 = .ok (.aload_n 0, 1) := by decide +kernel
theorem d2_1 : decode jdk_42_method_149_code 1 = .ok (.invokespecial 1, 3) := by decide +kernel
theorem d2_4 : decode jdk_42_method_149_code 4 = .ok (.iload_n 3, 1) := by decide +kernel
theorem d2_5 : decode jdk_42_method_149_code 5 = .ok (.ifCond .ne 22, 3) := by decide +kernel
theorem d2_27 : decode jdk_42_method_149_code 27 = .ok (.getstatic 38, 3) := by decide +kernel
theorem d2_30 : decode jdk_42_method_149_code 30 = .ok (.ifCond .eq 28, 3) := by decide +kernel
theorem d2_33 : decode jdk_42_method_149_code 33 = .ok (.aload_n 1, 1) := by decide +kernel
theorem d2_34 : decode jdk_42_method_149_code 34 = .ok (.iload_n 2, 1) := by decide +kernel
theorem d2_35 : decode jdk_42_method_149_code 35 = .ok (.iload_n 3, 1) := by decide +kernel
theorem d2_36 : decode jdk_42_method_149_code 36 = .ok (.invokestatic 177, 3) := by decide +kernel
theorem d2_39 : decode jdk_42_method_149_code 39 = .ok (.astore 5, 2) := by decide +kernel
theorem d2_41 : decode jdk_42_method_149_code 41 = .ok (.aload_n 0, 1) := by decide +kernel
theorem d2_42 : decode jdk_42_method_149_code 42 = .ok (.aload 5, 2) := by decide +kernel
theorem d2_44 : decode jdk_42_method_149_code 44 = .ok (.iload_n 3, 1) := by decide +kernel
theorem d2_45 : decode jdk_42_method_149_code 45 = .ok (.invokestatic 47, 3) := by decide +kernel
theorem d2_48 : decode jdk_42_method_149_code 48 = .ok (.putfield 15, 3) := by decide +kernel
theorem d2_51 : decode jdk_42_method_149_code 51 = .ok (.aload_n 0, 1) := by decide +kernel
theorem d2_52 : decode jdk_42_method_149_code 52 = .ok (.aload 5, 2) := by decide +kernel
theorem d2_54 : decode jdk_42_method_149_code 54 = .ok (.putfield 9, 3) := by decide +kernel
theorem d2_57 : decode jdk_42_method_149_code 57 = .ok (.return_, 1) := by decide +kernel
theorem pn_2 : plainName "java/lang/String" = true := by first | (simp [plainName, overriddenIn]; done) | decide +kernel
theorem ef_2n4 (m : MethodId) (x0 : Addr) (x1 : Addr) (x2 : Int32) (x3 : Int32) : entryFrame m #[(.ref x0), (.ref x1), (.int x2), (.int x3), .null] 6 = mkF m 0 #[.val (.ref x0), .val (.ref x1), .val (.int x2), .val (.int x3), .val .null, .unset] [] := by first | (simp [entryFrame, mkF, argsToLocals, Value.category]; done) | rfl
def Q_rm2 (Z : State) (a1 : Addr) (a2 : Addr) (s_COMPACT_STRINGS : Int32) (w_coder_a1 : Int32) (w_value_a1 : Value) (k_a2 : ClassId) (x_a2_0 : Int32) (x_a2_1 : Int32) (h0 : Heap) (n0 : Nat) (v : Option Value) (h : Heap) (L : List Loc) : Prop := v = none ∧ Fr n0 L ∧ Keep h0 h [a1] ∧ Exa Z h a1 "java/lang/String" ∧ Fld Z h a1 "java/lang/String" "coder" "B" (.int (nar .byte (nar .byte ((t6_0 (2 : Int32) (2 : Int32)).toInt8.toInt32))))
set_option maxRecDepth 65536 in
set_option maxHeartbeats 40000000 in
theorem rm2 (l : Launch) (Z : State) (a0 : Array Value) (hw : ∀ d ∈ tables_1, d.before a0 Z = true) (ws : List Jvm.Cond) (a1 : Addr) (a2 : Addr) (s_COMPACT_STRINGS : Int32) (w_coder_a1 : Int32) (w_value_a1 : Value) (k_a2 : ClassId) (x_a2_0 : Int32) (x_a2_1 : Int32) (h0 : Heap) (n0 : Nat) (Z0 : n0 ≤ h0.size) (S_COMPACT_STRINGS : Sta Z h0 "java/lang/String" "COMPACT_STRINGS" "Z" (.int s_COMPACT_STRINGS)) (E_a1 : Exa Z h0 a1 "java/lang/String") (F_coder_a1 : Fld Z h0 a1 "java/lang/String" "coder" "B" (.int w_coder_a1)) (g_a1 : n0 ≤ a1) (F_value_a1 : Fld Z h0 a1 "java/lang/String" "value" "[B" w_value_a1) (V_a2 : Arv Z h0 a2 k_a2 .char (2 : Int32) [(.int x_a2_0), (.int x_a2_1)] (.int (0 : Int32))) (hc30 : ¬ (s_COMPACT_STRINGS = (0 : Int32))) (hhhc20_9_36 : ¬ ((255 : Int32) < x_a2_0)) (hhhc20'_9_36 : ¬ ((255 : Int32) < x_a2_1)) :
    MetFree l (⟨"java/lang/String", "<init>", "([CIILjava/lang/Void;)V"⟩ : MethodName) (head1 (Jvm.Cond.code (⟨"java/lang/String", "<init>", "([CIILjava/lang/Void;)V"⟩ : MethodName) jdk_42_method_149_code 6 none :: ws) ({ frames := 2, cells := 1, slots := 2, locals := 35 } : Room)) (fun a U => a = #[(.ref a1), (.ref a2), (.int (0 : Int32)), (.int (2 : Int32)), .null] ∧ Z.Warmed39 U.vm ∧ U.heap = h0) (fun _ _ _ _ _ => True) (fun _ U o U' => ∃ v L, o = .returned v ∧ Q_rm2 Z a1 a2 s_COMPACT_STRINGS w_coder_a1 w_value_a1 k_a2 x_a2_0 x_a2_1 h0 n0 v U'.heap L ∧ FrameEnd U o U' L ({ frames := 2, cells := 1, slots := 2, locals := 35 } : Room).cells ({ frames := 2, cells := 1, slots := 2, locals := 35 } : Room).slots) := by
  have hi : ∀ (i : Nat) {d : Jvm.Cond}, tables_1[i]? = some d → d.before a0 Z = true := fun i d h => hw d (List.mem_of_getElem? h)
  refine MetFree.of_bodySF (plainFor_of_name pn_2) hisR ?_
  intro p e s m args below meth c s₁ Bd hml0 hP hK
  obtain ⟨rfl, hZ, hh⟩ := hP
  have hx := Bd.exec
  have hby := Bd.bytes
  have hml : c.maxLocals = 6 := hml0
  have hown : s.vm.findClass "java/lang/String" = some m.cls := findClass_of_methodNamed Bd.named
  have hnm := (name_of_methodNamed Bd.named Bd.method).1
  have X0 : Stand p l e ({ frames := 2, cells := 1, slots := 2, locals := 35 } : Room) s m #[(.ref a1), (.ref a2), (.int (0 : Int32)), (.int (2 : Int32)), .null] below meth c s₁ [] 0 0 := Stand.of_body Bd
  have e0 : s₁.heap = h0 := by rw [← hh, Bd.state]; rfl
  have N0 := Fr.nil n0
  have pre0 : ∀ t, Steps p.tables e below (s₁.setTop (mkF m 0 #[vA a1, vA a2, vI (0 : Int32), vI (2 : Int32), .val .null, vU] [])) t → Steps p.tables e below (s₁.setTop (entryFrame m #[(.ref a1), (.ref a2), (.int (0 : Int32)), (.int (2 : Int32)), .null] 6)) t := fun t k => castTop (ef_2n4 m a1 a2 (0 : Int32) (2 : Int32)) k
  obtain ⟨T3, X3, e3, st3⟩ := initO X0 hx hZ hown (hi 11 rfl) (hi 12 rfl) (hi 13 rfl) e0 (g := (mkF m 1 #[vA a1, vA a2, vI (0 : Int32), vI (2 : Int32), .val .null, vU] [(.ref a1)])) rfl (by rw [hml]; rfl) rfl (hb hby d2_1) (by decide) (W := 0) (by show 2 * 0 + _ ≤ _; exact Nat.le_of_eq rfl) (by decide)
  obtain ⟨T4, X4, e4, st4⟩ := getS2 X3 hx hZ hown (host := "") (Or.inl (hi 14 rfl)) Via.refl e3 S_COMPACT_STRINGS (g := (mkF m 27 #[vA a1, vA a2, vI (0 : Int32), vI (2 : Int32), .val .null, vU] [])) rfl (hb hby d2_27)
  obtain ⟨_, _, ⟨T5, L5, k5, n5⟩, -, X5, ⟨Lc5, hQ5, l5, y5, z5⟩, st5⟩ := Jvm.LawKit.callS X4 hx (y := (⟨"java/lang/StringUTF16", "compress", "([CII)[B"⟩ : MethodName)) hown (mvT hZ (hi 15 rfl)) (mvT hZ (hi 16 rfl)) (mvT hZ (hi 17 rfl)) (mvT hZ (hi 18 rfl)) (by decide) (backOf (W := 0) (rm4 l Z a0 hw [] a2 k_a2 x_a2_0 x_a2_1 h0 n0 Z0 V_a2 hhhc20_9_36 hhhc20'_9_36) hZ (hi 18 rfl) (hi 17 rfl) (by decide) (by decide)) (g := (mkF m 36 #[vA a1, vA a2, vI (0 : Int32), vI (2 : Int32), .val .null, vU] [(.int (2 : Int32)), (.int (0 : Int32)), (.ref a2)])) rfl (by rw [hml]; rfl) (argsL := [(.ref a2), (.int (0 : Int32)), (.int (2 : Int32))]) (rest := []) (lenOf pd__28_5bCII_29_5bB rfl) rfl (by show 2 * 0 + _ ≤ _; exact Nat.le_of_eq rfl) (hb hby d2_36) (fun _ _ => ⟨rfl, e4, (by decide : 0 + 1 ≤ _), (by decide : 0 + 2 ≤ _)⟩)
  dsimp only [Pt.U, Pt.locs, Pt.cells, Pt.slots] at X5 l5 y5 z5 st5 hQ5
  subst l5 y5 z5
  obtain ⟨b2_5, ⟨k2_5, ⟨rfl, N5q, K5, i5_0, i5_1⟩⟩⟩ := hQ5
  have N5 := Fr.app N0 N5q
  have sz_b2_5 : h0.size ≤ b2_5 := Nat.le_trans (Nat.le_refl h0.size) i5_0
  have g_b2_5 : n0 ≤ b2_5 := Nat.le_trans Z0 sz_b2_5
  obtain ⟨_, _, ⟨T6, L6, k6, n6⟩, -, X6, ⟨Lc6, hQ6, l6, y6, z6⟩, st6⟩ := Jvm.LawKit.callS X5 hx (y := (⟨"java/lang/StringUTF16", "coderFromArrayLen", "([BI)B"⟩ : MethodName)) hown (mvT hZ (hi 23 rfl)) (mvT hZ (hi 24 rfl)) (mvT hZ (hi 17 rfl)) (mvT hZ (hi 25 rfl)) (by decide) (backOf (W := 1) (rm6 l Z a0 hw [] b2_5 (2 : Int32) k2_5 (2 : Int32) ([(.int (nar .byte (x_a2_0.toInt8.toInt32))), (.int (nar .byte (x_a2_1.toInt8.toInt32)))] : List Value) T5.heap n0 (Nat.le_trans Z0 K5.1) i5_1) hZ (hi 25 rfl) (hi 17 rfl) (by decide) (by decide)) (g := (mkF m 45 #[vA a1, vA a2, vI (0 : Int32), vI (2 : Int32), .val .null, vA b2_5] [(.int (2 : Int32)), (.ref b2_5), (.ref a1)])) rfl (by rw [hml]; rfl) (argsL := [(.ref b2_5), (.int (2 : Int32))]) (rest := [(.ref a1)]) (lenOf pd__28_5bBI_29B rfl) rfl (by show 2 * 0 + _ ≤ _; exact Nat.le_of_eq rfl) (hb hby d2_45) (fun _ _ => ⟨rfl, rfl, (by decide : 1 + 0 ≤ _), (by decide : 2 + 0 ≤ _)⟩)
  dsimp only [Pt.U, Pt.locs, Pt.cells, Pt.slots] at X6 l6 y6 z6 st6 hQ6
  subst l6 y6 z6
  obtain ⟨rfl, N6q, e6⟩ := hQ6
  have N6 := Fr.app N5 N6q
  have f0 := (E_a1.keep K5)
  have f1 := (F_coder_a1.keep K5 own_n0)
  obtain ⟨T7, h7, X7, e7, W7, st7⟩ := putFN X6 hx hZ hown (hi 26 rfl) Via.refl e6 f1 f0 (Or.inr ⟨(hi 27 rfl), rfl, hnm⟩) (hi 1 rfl) (ty := .byte) (v' := (.int (nar .byte (nar .byte ((t6_0 (2 : Int32) (2 : Int32)).toInt8.toInt32))))) (by decide) rfl (fits_nar_byte _) (g := (mkF m 48 #[vA a1, vA a2, vI (0 : Int32), vI (2 : Int32), .val .null, vA b2_5] [(.int (nar .byte ((t6_0 (2 : Int32) (2 : Int32)).toInt8.toInt32))), (.ref a1)])) rfl rfl (hb hby d2_48)
  have Fw7 := f1.same W7
  have N7 := Fr.snoc X7 N6 g_a1
  have f2 := (f0.wr W7)
  have f3 := ((F_value_a1.keep K5 own_n0).other W7 (Or.inr (slot_ne (Or.inr (hi 29 rfl)) (Or.inr (hi 27 rfl)) (by decide) (t := (.array .byte)) (t' := .byte) (by decide) (by decide))))
  obtain ⟨T8, h8, X8, e8, W8, st8⟩ := putF X7 hx hZ hown (host := "") (Or.inl (hi 28 rfl)) Via.refl e7 f3 f2 (Or.inr ⟨(hi 29 rfl), rfl, hnm⟩) (hi 1 rfl) (ty := (.array .byte)) (by decide) rfl rfl (g := (mkF m 54 #[vA a1, vA a2, vI (0 : Int32), vI (2 : Int32), .val .null, vA b2_5] [(.ref b2_5), (.ref a1)])) rfl rfl (hb hby d2_54)
  have Fw8 := f3.same W8
  have N8 := Fr.snoc X8 N7 g_a1
  have f4 := (f2.wr W8)
  have f5 := (Fw7.other W8 (Or.inr (slot_ne (Or.inr (hi 27 rfl)) (Or.inr (hi 29 rfl)) (by decide) (t := .byte) (t' := (.array .byte)) (by decide) (by decide))))
  obtain ⟨fs, hr, hrun, hended, hW, hsame⟩ := X8.leave (v := none) (fun _ => rfl)
  refine ⟨_, _, pre0 _ ?_, hrun, hended, _, _, rfl, ?_, ⟨_, rfl⟩, hW, hsame.mono (by decide) (by decide)⟩
  · show Steps p.tables e below (s₁.setTop (mkF m 0 #[vA a1, vA a2, vI (0 : Int32), vI (2 : Int32), .val .null, vU] [])) _
    refine XS.aloadN X0.here hx rfl (hb hby d2_0) rfl rfl ?_
    show Steps p.tables e below (s₁.setTop (mkF m 1 #[vA a1, vA a2, vI (0 : Int32), vI (2 : Int32), .val .null, vU] [(.ref a1)])) _
    refine st3 _ ?_
    refine XS.iloadN X3.here hx rfl (hb hby d2_4) rfl ?_
    show Steps p.tables e below (T3.setTop (mkF m 5 #[vA a1, vA a2, vI (0 : Int32), vI (2 : Int32), .val .null, vU] [(.int (2 : Int32))])) _
    refine XS.ifYes X3.here hx rfl (pc0 := 5) (pc' := 27) rfl (hb hby d2_5) rfl ((if0 _ _).trans (feq (by decide : ¬ ((2 : Int32) = (0 : Int32)))).2) (by decide) (by decide) ?_
    show Steps p.tables e below (T3.setTop (mkF m 27 #[vA a1, vA a2, vI (0 : Int32), vI (2 : Int32), .val .null, vU] [])) _
    refine st4 _ ?_
    show Steps p.tables e below (T4.setTop (mkF m 30 #[vA a1, vA a2, vI (0 : Int32), vI (2 : Int32), .val .null, vU] [(.int s_COMPACT_STRINGS)])) _
    refine XS.ifNo X4.here hx rfl (hb hby d2_30) rfl ((if0 _ _).trans (feq hc30).1) ?_
    refine XS.aloadN X4.here hx rfl (hb hby d2_33) rfl rfl ?_
    refine XS.iloadN X4.here hx rfl (hb hby d2_34) rfl ?_
    refine XS.iloadN X4.here hx rfl (hb hby d2_35) rfl ?_
    show Steps p.tables e below (T4.setTop (mkF m 36 #[vA a1, vA a2, vI (0 : Int32), vI (2 : Int32), .val .null, vU] [(.int (2 : Int32)), (.int (0 : Int32)), (.ref a2)])) _
    refine st5 _ ?_
    refine XS.astore X5.here hx rfl (hb hby d2_39) rfl rfl (l' := #[vA a1, vA a2, vI (0 : Int32), vI (2 : Int32), .val .null, vA b2_5]) rfl ?_
    refine XS.aloadN X5.here hx rfl (hb hby d2_41) rfl rfl ?_
    refine XS.aload X5.here hx rfl (hb hby d2_42) rfl rfl ?_
    refine XS.iloadN X5.here hx rfl (hb hby d2_44) rfl ?_
    show Steps p.tables e below (T5.setTop (mkF m 45 #[vA a1, vA a2, vI (0 : Int32), vI (2 : Int32), .val .null, vA b2_5] [(.int (2 : Int32)), (.ref b2_5), (.ref a1)])) _
    refine st6 _ ?_
    show Steps p.tables e below (T6.setTop (mkF m 48 #[vA a1, vA a2, vI (0 : Int32), vI (2 : Int32), .val .null, vA b2_5] [(.int (nar .byte ((t6_0 (2 : Int32) (2 : Int32)).toInt8.toInt32))), (.ref a1)])) _
    refine st7 _ ?_
    refine XS.aloadN X7.here hx rfl (hb hby d2_51) rfl rfl ?_
    refine XS.aload X7.here hx rfl (hb hby d2_52) rfl rfl ?_
    show Steps p.tables e below (T7.setTop (mkF m 54 #[vA a1, vA a2, vI (0 : Int32), vI (2 : Int32), .val .null, vA b2_5] [(.ref b2_5), (.ref a1)])) _
    refine st8 _ ?_
    show Steps p.tables e below (T8.setTop (mkF m 57 #[vA a1, vA a2, vI (0 : Int32), vI (2 : Int32), .val .null, vA b2_5] [])) _
    exact X8.returnOut hx Bd.returns (hb hby d2_57) hr
  · show Q_rm2 Z a1 a2 s_COMPACT_STRINGS w_coder_a1 w_value_a1 k_a2 x_a2_0 x_a2_1 h0 n0 _ T8.heap _
    rw [e8]
    exact ⟨rfl, N8, ((((Keep.refl h0 [a1]).trans K5 (fun _ q => nomatch q)).wr W7 (Or.inl (List.mem_of_getElem? (i := 0) rfl))).wr W8 (Or.inl (List.mem_of_getElem? (i := 0) rfl))), f4, f5⟩
theorem pd__28_5bCIILjava_2flang_2fVoid_3b_29V : parseMethodDescriptor "([CIILjava/lang/Void;)V" = some ⟨[(.array .char), .int, .int, (.object "java/lang/Void")], none⟩ := by decide +kernel
theorem d1_0 : decode jdk_42_method_3_code 0 = .ok (.aload_n 0, 1) := by decide +kernel
theorem d1_1 : decode jdk_42_method_3_code 1 = .ok (.aload_n 1, 1) := by decide +kernel
theorem d1_2 : decode jdk_42_method_3_code 2 = .ok (.iconst 0, 1) := by decide +kernel
theorem d1_3 : decode jdk_42_method_3_code 3 = .ok (.aload_n 1, 1) := by decide +kernel
theorem d1_4 : decode jdk_42_method_3_code 4 = .ok (.arraylength, 1) := by decide +kernel
theorem d1_5 : decode jdk_42_method_3_code 5 = .ok (.aconst_null, 1) := by decide +kernel
theorem d1_6 : decode jdk_42_method_3_code 6 = .ok (.invokespecial 27, 3) := by decide +kernel
theorem d1_9 : decode jdk_42_method_3_code 9 = .ok (.return_, 1) := by decide +kernel
theorem pn_1 : plainName "java/lang/String" = true := by first | (simp [plainName, overriddenIn]; done) | decide +kernel
theorem ef_1 (m : MethodId) (x0 : Addr) (x1 : Addr) : entryFrame m #[(.ref x0), (.ref x1)] 2 = mkF m 0 #[.val (.ref x0), .val (.ref x1)] [] := by first | (simp [entryFrame, mkF, argsToLocals, Value.category]; done) | rfl
def Q_rm1 (Z : State) (a1 : Addr) (a2 : Addr) (s_COMPACT_STRINGS : Int32) (w_coder_a1 : Int32) (w_value_a1 : Value) (k_a2 : ClassId) (x_a2_0 : Int32) (x_a2_1 : Int32) (h0 : Heap) (n0 : Nat) (v : Option Value) (h : Heap) (L : List Loc) : Prop := v = none ∧ Fr n0 L ∧ Keep h0 h [a1] ∧ Exa Z h a1 "java/lang/String" ∧ Fld Z h a1 "java/lang/String" "coder" "B" (.int (nar .byte (nar .byte ((t6_0 (2 : Int32) (2 : Int32)).toInt8.toInt32))))
set_option maxRecDepth 65536 in
set_option maxHeartbeats 40000000 in
theorem rm1 (l : Launch) (Z : State) (a0 : Array Value) (hw : ∀ d ∈ tables_1, d.before a0 Z = true) (ws : List Jvm.Cond) (a1 : Addr) (a2 : Addr) (s_COMPACT_STRINGS : Int32) (w_coder_a1 : Int32) (w_value_a1 : Value) (k_a2 : ClassId) (x_a2_0 : Int32) (x_a2_1 : Int32) (h0 : Heap) (n0 : Nat) (Z0 : n0 ≤ h0.size) (S_COMPACT_STRINGS : Sta Z h0 "java/lang/String" "COMPACT_STRINGS" "Z" (.int s_COMPACT_STRINGS)) (F_coder_a1 : Fld Z h0 a1 "java/lang/String" "coder" "B" (.int w_coder_a1)) (F_value_a1 : Fld Z h0 a1 "java/lang/String" "value" "[B" w_value_a1) (E_a1 : Exa Z h0 a1 "java/lang/String") (g_a1 : n0 ≤ a1) (V_a2 : Arv Z h0 a2 k_a2 .char (2 : Int32) [(.int x_a2_0), (.int x_a2_1)] (.int (0 : Int32))) (hhc30_6 : ¬ (s_COMPACT_STRINGS = (0 : Int32))) (hhhhc20_9_36_6 : ¬ ((255 : Int32) < x_a2_0)) (hhhhc20'_9_36_6 : ¬ ((255 : Int32) < x_a2_1)) :
    MetFree l (⟨"java/lang/String", "<init>", "([C)V"⟩ : MethodName) (head1 (Jvm.Cond.code (⟨"java/lang/String", "<init>", "([C)V"⟩ : MethodName) jdk_42_method_3_code 2 none :: ws) ({ frames := 3, cells := 1, slots := 2, locals := 52 } : Room)) (fun a U => a = #[(.ref a1), (.ref a2)] ∧ Z.Warmed39 U.vm ∧ U.heap = h0) (fun _ _ _ _ _ => True) (fun _ U o U' => ∃ v L, o = .returned v ∧ Q_rm1 Z a1 a2 s_COMPACT_STRINGS w_coder_a1 w_value_a1 k_a2 x_a2_0 x_a2_1 h0 n0 v U'.heap L ∧ FrameEnd U o U' L ({ frames := 3, cells := 1, slots := 2, locals := 52 } : Room).cells ({ frames := 3, cells := 1, slots := 2, locals := 52 } : Room).slots) := by
  have hi : ∀ (i : Nat) {d : Jvm.Cond}, tables_1[i]? = some d → d.before a0 Z = true := fun i d h => hw d (List.mem_of_getElem? h)
  refine MetFree.of_bodySF (plainFor_of_name pn_1) hisR ?_
  intro p e s m args below meth c s₁ Bd hml0 hP hK
  obtain ⟨rfl, hZ, hh⟩ := hP
  have hx := Bd.exec
  have hby := Bd.bytes
  have hml : c.maxLocals = 2 := hml0
  have hown : s.vm.findClass "java/lang/String" = some m.cls := findClass_of_methodNamed Bd.named
  have hnm := (name_of_methodNamed Bd.named Bd.method).1
  have X0 : Stand p l e ({ frames := 3, cells := 1, slots := 2, locals := 52 } : Room) s m #[(.ref a1), (.ref a2)] below meth c s₁ [] 0 0 := Stand.of_body Bd
  have e0 : s₁.heap = h0 := by rw [← hh, Bd.state]; rfl
  have N0 := Fr.nil n0
  have pre0 : ∀ t, Steps p.tables e below (s₁.setTop (mkF m 0 #[vA a1, vA a2] [])) t → Steps p.tables e below (s₁.setTop (entryFrame m #[(.ref a1), (.ref a2)] 2)) t := fun t k => castTop (ef_1 m a1 a2) k
  obtain ⟨cl_a2_0, Ar_a2_0, q_a2_0, Sz_a2_0, Ng_a2_0, Ha_a2_0, Gt_a2_0⟩ := id V_a2
  obtain ⟨_, _, ⟨T3, L3, k3, n3⟩, -, X3, ⟨Lc3, hQ3, l3, y3, z3⟩, st3⟩ := X0.specialBack hx (y := (⟨"java/lang/String", "<init>", "([CIILjava/lang/Void;)V"⟩ : MethodName)) rfl hown (mvT hZ (hi 7 rfl)) (mvT hZ (hi 8 rfl)) (mvT hZ (hi 10 rfl)) (by decide) (backOf (W := 0) (rm2 l Z a0 hw [] a1 a2 s_COMPACT_STRINGS w_coder_a1 w_value_a1 k_a2 x_a2_0 x_a2_1 h0 n0 Z0 S_COMPACT_STRINGS E_a1 F_coder_a1 g_a1 F_value_a1 V_a2 hhc30_6 hhhhc20_9_36_6 hhhhc20'_9_36_6) hZ (hi 10 rfl) (hi 2 rfl) (by decide) (by decide)) (g := (mkF m 6 #[vA a1, vA a2] [.null, (.int (2 : Int32)), (.int (0 : Int32)), (.ref a2), (.ref a1)])) rfl (by rw [hml]; rfl) (Steps.refl _) (a := a1) (argsL := [(.ref a2), (.int (0 : Int32)), (.int (2 : Int32)), .null]) (rest := []) (lenOf pd__28_5bCIILjava_2flang_2fVoid_3b_29V rfl) rfl (by show 2 * 0 + _ ≤ _; exact Nat.le_of_eq rfl) (hb hby d1_6) (fun _ _ => ⟨rfl, e0, (by decide : 0 + 1 ≤ _), (by decide : 0 + 2 ≤ _)⟩)
  dsimp only [Pt.U, Pt.locs, Pt.cells, Pt.slots] at X3 l3 y3 z3 st3 hQ3
  subst l3 y3 z3
  obtain ⟨rfl, N3q, K3, i3_0, i3_1⟩ := hQ3
  have N3 := Fr.app N0 N3q
  obtain ⟨fs, hr, hrun, hended, hW, hsame⟩ := X3.leave (v := none) (fun _ => rfl)
  refine ⟨_, _, pre0 _ ?_, hrun, hended, _, _, rfl, ?_, ⟨_, rfl⟩, hW, hsame.mono (by decide) (by decide)⟩
  · show Steps p.tables e below (s₁.setTop (mkF m 0 #[vA a1, vA a2] [])) _
    refine XS.aloadN X0.here hx rfl (hb hby d1_0) rfl rfl ?_
    refine XS.aloadN X0.here hx rfl (hb hby d1_1) rfl rfl ?_
    refine XS.iconst X0.here hx rfl (hb hby d1_2) ?_
    refine XS.aloadN X0.here hx rfl (hb hby d1_3) rfl rfl ?_
    show Steps p.tables e below (s₁.setTop (mkF m 4 #[vA a1, vA a2] [(.ref a2), (.int (0 : Int32)), (.ref a2), (.ref a1)])) _
    refine X0.arraylength hx (by rw [e0]; exact Ar_a2_0.1) (State.isArrayOf_alike hZ.alike Ar_a2_0.2.1) (g := (mkF m 4 #[vA a1, vA a2] [(.ref a2), (.int (0 : Int32)), (.ref a2), (.ref a1)])) rfl rfl (hb hby d1_4) _ ?_
    rw [len_of Sz_a2_0 Ng_a2_0]
    refine XS.aconstNull X0.here hx rfl (hb hby d1_5) ?_
    show Steps p.tables e below (s₁.setTop (mkF m 6 #[vA a1, vA a2] [.null, (.int (2 : Int32)), (.int (0 : Int32)), (.ref a2), (.ref a1)])) _
    refine st3.trans ?_
    show Steps p.tables e below (T3.setTop (mkF m 9 #[vA a1, vA a2] [])) _
    exact X3.returnOut hx Bd.returns (hb hby d1_9) hr
  · show Q_rm1 Z a1 a2 s_COMPACT_STRINGS w_coder_a1 w_value_a1 k_a2 x_a2_0 x_a2_1 h0 n0 _ T3.heap _
    exact ⟨rfl, N3, ((Keep.refl h0 [a1]).trans K3 (fun x q => (List.mem_cons.mp q).elim (fun r => r ▸ (Or.inl (List.mem_of_getElem? (i := 0) rfl))) ((fun _ q => nomatch q) x))), i3_0, i3_1⟩
theorem pd__28C_29Z : parseMethodDescriptor "(C)Z" = some ⟨[.char], some .boolean⟩ := by decide +kernel
theorem pd__28C_29_5bB : parseMethodDescriptor "(C)[B" = some ⟨[.char], some (.array .byte)⟩ := by decide +kernel
theorem pd__28_5bBB_29V : parseMethodDescriptor "([BB)V" = some ⟨[(.array .byte), .byte], none⟩ := by decide +kernel
theorem d7_0 : decode jdk_42_method_139_code 0 = .ok (.getstatic 38, 3) := by decide +kernel
theorem d7_3 : decode jdk_42_method_139_code 3 = .ok (.ifCond .eq 23, 3) := by decide +kernel
theorem d7_6 : decode jdk_42_method_139_code 6 = .ok (.iload_n 0, 1) := by decide +kernel
theorem d7_7 : decode jdk_42_method_139_code 7 = .ok (.invokestatic 1015, 3) := by decide +kernel
theorem d7_10 : decode jdk_42_method_139_code 10 = .ok (.ifCond .eq 16, 3) := by decide +kernel
theorem d7_13 : decode jdk_42_method_139_code 13 = .ok (.new 10, 3) := by decide +kernel
theorem d7_16 : decode jdk_42_method_139_code 16 = .ok (.dup, 1) := by decide +kernel
theorem d7_17 : decode jdk_42_method_139_code 17 = .ok (.iload_n 0, 1) := by decide +kernel
theorem d7_18 : decode jdk_42_method_139_code 18 = .ok (.invokestatic 1018, 3) := by decide +kernel
theorem d7_21 : decode jdk_42_method_139_code 21 = .ok (.iconst 0, 1) := by decide +kernel
theorem d7_22 : decode jdk_42_method_139_code 22 = .ok (.invokespecial 209, 3) := by decide +kernel
theorem d7_25 : decode jdk_42_method_139_code 25 = .ok (.areturn, 1) := by decide +kernel
theorem pn_7 : plainName "java/lang/String" = true := by first | (simp [plainName, overriddenIn]; done) | decide +kernel
theorem ef_7 (m : MethodId) (x0 : Int32) : entryFrame m #[(.int x0)] 1 = mkF m 0 #[.val (.int x0)] [] := by first | (simp [entryFrame, mkF, argsToLocals, Value.category]; done) | rfl
def Q_rm7 (Z : State) (p1 : Int32) (s_COMPACT_STRINGS : Int32) (h0 : Heap) (n0 : Nat) (v : Option Value) (h : Heap) (L : List Loc) : Prop := ∃ br : Addr, v = some (.ref br) ∧ Fr n0 L ∧ Keep h0 h []
set_option maxRecDepth 65536 in
set_option maxHeartbeats 40000000 in
theorem rm7 (l : Launch) (Z : State) (a0 : Array Value) (hw : ∀ d ∈ tables_1, d.before a0 Z = true) (ws : List Jvm.Cond) (p1 : Int32) (s_COMPACT_STRINGS : Int32) (h0 : Heap) (n0 : Nat) (Z0 : n0 ≤ h0.size) (S_COMPACT_STRINGS : Sta Z h0 "java/lang/String" "COMPACT_STRINGS" "Z" (.int s_COMPACT_STRINGS)) (hc3 : ¬ (s_COMPACT_STRINGS = (0 : Int32))) (hc10 : ¬ ((F8 p1) = (0 : Int32))) :
    MetFree l (⟨"java/lang/String", "valueOf", "(C)Ljava/lang/String;"⟩ : MethodName) (head1 (Jvm.Cond.code (⟨"java/lang/String", "valueOf", "(C)Ljava/lang/String;"⟩ : MethodName) jdk_42_method_139_code 1 (some (.object "java/lang/String")) :: ws) ({ frames := 2, cells := 2, slots := 5, locals := 27 } : Room)) (fun a U => a = #[(.int p1)] ∧ Z.Warmed39 U.vm ∧ U.heap = h0) (fun _ _ _ _ _ => True) (fun _ U o U' => ∃ v L, o = .returned v ∧ Q_rm7 Z p1 s_COMPACT_STRINGS h0 n0 v U'.heap L ∧ FrameEnd U o U' L ({ frames := 2, cells := 2, slots := 5, locals := 27 } : Room).cells ({ frames := 2, cells := 2, slots := 5, locals := 27 } : Room).slots) := by
  have hi : ∀ (i : Nat) {d : Jvm.Cond}, tables_1[i]? = some d → d.before a0 Z = true := fun i d h => hw d (List.mem_of_getElem? h)
  refine MetFree.of_bodySF (plainFor_of_name pn_7) hisR ?_
  intro p e s m args below meth c s₁ Bd hml0 hP hK
  obtain ⟨rfl, hZ, hh⟩ := hP
  have hx := Bd.exec
  have hby := Bd.bytes
  have hml : c.maxLocals = 1 := hml0
  have hown : s.vm.findClass "java/lang/String" = some m.cls := findClass_of_methodNamed Bd.named
  have hnm := (name_of_methodNamed Bd.named Bd.method).1
  have X0 : Stand p l e ({ frames := 2, cells := 2, slots := 5, locals := 27 } : Room) s m #[(.int p1)] below meth c s₁ [] 0 0 := Stand.of_body Bd
  have e0 : s₁.heap = h0 := by rw [← hh, Bd.state]; rfl
  have N0 := Fr.nil n0
  have pre0 : ∀ t, Steps p.tables e below (s₁.setTop (mkF m 0 #[vI p1] [])) t → Steps p.tables e below (s₁.setTop (entryFrame m #[(.int p1)] 1)) t := fun t k => castTop (ef_7 m p1) k
  obtain ⟨T2, X2, e2, st2⟩ := getS2 X0 hx hZ hown (host := "") (Or.inl (hi 14 rfl)) Via.refl e0 S_COMPACT_STRINGS (g := (mkF m 0 #[vI p1] [])) rfl (hb hby d7_0)
  obtain ⟨_, _, ⟨T3, L3, k3, n3⟩, -, X3, ⟨Lc3, hQ3, l3, y3, z3⟩, st3⟩ := Jvm.LawKit.callS X2 hx (y := (⟨"java/lang/StringLatin1", "canEncode", "(C)Z"⟩ : MethodName)) hown (mvT hZ (hi 33 rfl)) (mvT hZ (hi 34 rfl)) (mvT hZ (hi 35 rfl)) (mvT hZ (hi 36 rfl)) (by decide) (backOf (W := 0) (rm8 l Z a0 hw [] p1 h0 n0 Z0 ) hZ (hi 36 rfl) (hi 35 rfl) (by decide) (by decide)) (g := (mkF m 7 #[vI p1] [(.int p1)])) rfl (by rw [hml]; rfl) (argsL := [(.int p1)]) (rest := []) (lenOf pd__28C_29Z rfl) rfl (by show 2 * 0 + _ ≤ _; exact Nat.le_of_eq rfl) (hb hby d7_7) (fun _ _ => ⟨rfl, e2, (by decide : 0 + 0 ≤ _), (by decide : 0 + 0 ≤ _)⟩)
  dsimp only [Pt.U, Pt.locs, Pt.cells, Pt.slots] at X3 l3 y3 z3 st3 hQ3
  subst l3 y3 z3
  obtain ⟨rfl, N3q, e3⟩ := hQ3
  have N3 := Fr.app N0 N3q
  obtain ⟨T4, h4, X4, e4, E4, A4, D4, -, st4⟩ := newO X3 hx hZ hown (hi 37 rfl) (hi 1 rfl) (hi 2 rfl) e3 (g := (mkF m 13 #[vI p1] [])) rfl (hb hby d7_13) (by decide) (by decide)
  obtain ⟨b4, g4⟩ : ∃ z, z = h0.size := ⟨_, rfl⟩
  rw [← g4] at A4 D4 st4
  have g_b4 : n0 ≤ b4 := Nat.le_trans Z0 (Nat.le_of_eq g4.symm)
  have sz_b4 : h0.size ≤ b4 := Nat.le_trans (Nat.le_refl h0.size) (Nat.le_of_eq g4.symm)
  have F_coder_b4 : Fld Z h4 b4 "java/lang/String" "coder" "B" (.int (0 : Int32)) := D4 (Or.inr (hi 27 rfl)) (ty := .byte) (by decide)
  have F_value_b4 : Fld Z h4 b4 "java/lang/String" "value" "[B" .null := D4 (Or.inr (hi 29 rfl)) (ty := (.array .byte)) (by decide)
  obtain ⟨_, _, ⟨T5, L5, k5, n5⟩, -, X5, ⟨Lc5, hQ5, l5, y5, z5⟩, st5⟩ := Jvm.LawKit.callS X4 hx (y := (⟨"java/lang/StringLatin1", "toBytes", "(C)[B"⟩ : MethodName)) hown (mvT hZ (hi 38 rfl)) (mvT hZ (hi 39 rfl)) (mvT hZ (hi 35 rfl)) (mvT hZ (hi 40 rfl)) (by decide) (backOf (W := 2) (rm9 l Z a0 hw [] p1 h4 n0 (Nat.le_trans Z0 E4.1) ) hZ (hi 40 rfl) (hi 35 rfl) (by decide) (by decide)) (g := (mkF m 18 #[vI p1] [(.int p1), (.ref b4), (.ref b4)])) rfl (by rw [hml]; rfl) (argsL := [(.int p1)]) (rest := [(.ref b4), (.ref b4)]) (lenOf pd__28C_29_5bB rfl) rfl (by show 2 * 0 + _ ≤ _; exact Nat.le_of_eq rfl) (hb hby d7_18) (fun _ _ => ⟨rfl, e4, (by decide : 1 + 1 ≤ _), (by decide : 4 + 1 ≤ _)⟩)
  dsimp only [Pt.U, Pt.locs, Pt.cells, Pt.slots] at X5 l5 y5 z5 st5 hQ5
  subst l5 y5 z5
  obtain ⟨b2_5, ⟨k2_5, ⟨rfl, N5q, K5, i5_0, i5_1⟩⟩⟩ := hQ5
  have N5 := Fr.app N3 N5q
  have sz_b2_5 : h0.size ≤ b2_5 := Nat.le_trans (Nat.le_trans (Nat.le_refl h0.size) E4.1) i5_0
  have g_b2_5 : n0 ≤ b2_5 := Nat.le_trans Z0 sz_b2_5
  have f0 := (F_value_b4.keep K5 own_n0)
  have f1 := (F_coder_b4.keep K5 own_n0)
  have f2 := (A4.keep K5)
  obtain ⟨_, _, ⟨T6, L6, k6, n6⟩, -, X6, ⟨Lc6, hQ6, l6, y6, z6⟩, st6⟩ := X5.specialBack hx (y := (⟨"java/lang/String", "<init>", "([BB)V"⟩ : MethodName)) rfl hown (mvT hZ (hi 41 rfl)) (mvT hZ (hi 42 rfl)) (mvT hZ (hi 43 rfl)) (by decide) (backOf (W := 1) (rm10 l Z a0 hw [] b4 b2_5 (0 : Int32) .null (0 : Int32) T5.heap n0 (Nat.le_trans (Nat.le_trans Z0 E4.1) K5.1) f2 f0 g_b4 f1) hZ (hi 43 rfl) (hi 2 rfl) (by decide) (by decide)) (g := (mkF m 22 #[vI p1] [(.int (0 : Int32)), (.ref b2_5), (.ref b4), (.ref b4)])) rfl (by rw [hml]; rfl) (Steps.refl _) (a := b4) (argsL := [(.ref b2_5), (.int (0 : Int32))]) (rest := [(.ref b4)]) (lenOf pd__28_5bBB_29V rfl) rfl (by show 2 * 0 + _ ≤ _; exact Nat.le_of_eq rfl) (hb hby d7_22) (fun _ _ => ⟨rfl, rfl, (by decide : 2 + 0 ≤ _), (by decide : 5 + 0 ≤ _)⟩)
  dsimp only [Pt.U, Pt.locs, Pt.cells, Pt.slots] at X6 l6 y6 z6 st6 hQ6
  subst l6 y6 z6
  obtain ⟨rfl, N6q, K6, i6_0, i6_1, i6_2⟩ := hQ6
  have N6 := Fr.app N5 N6q
  obtain ⟨fs, hr, hrun, hended, hW, hsame⟩ := X6.leave (v := some (.ref b4)) (fun h => by rw [Bd.returns] at h; cases h)
  refine ⟨_, _, pre0 _ ?_, hrun, hended, _, _, rfl, ?_, ⟨_, rfl⟩, hW, hsame.mono (by decide) (by decide)⟩
  · show Steps p.tables e below (s₁.setTop (mkF m 0 #[vI p1] [])) _
    refine st2 _ ?_
    show Steps p.tables e below (T2.setTop (mkF m 3 #[vI p1] [(.int s_COMPACT_STRINGS)])) _
    refine XS.ifNo X2.here hx rfl (hb hby d7_3) rfl ((if0 _ _).trans (feq hc3).1) ?_
    refine XS.iloadN X2.here hx rfl (hb hby d7_6) rfl ?_
    show Steps p.tables e below (T2.setTop (mkF m 7 #[vI p1] [(.int p1)])) _
    refine st3 _ ?_
    show Steps p.tables e below (T3.setTop (mkF m 10 #[vI p1] [(.int (F8 p1))])) _
    refine XS.ifNo X3.here hx rfl (hb hby d7_10) rfl ((if0 _ _).trans (feq hc10).1) ?_
    show Steps p.tables e below (T3.setTop (mkF m 13 #[vI p1] [])) _
    refine st4 _ ?_
    refine XS.dup X4.here hx rfl (hb hby d7_16) rfl rfl ?_
    refine XS.iloadN X4.here hx rfl (hb hby d7_17) rfl ?_
    show Steps p.tables e below (T4.setTop (mkF m 18 #[vI p1] [(.int p1), (.ref b4), (.ref b4)])) _
    refine st5 _ ?_
    refine XS.iconst X5.here hx rfl (hb hby d7_21) ?_
    show Steps p.tables e below (T5.setTop (mkF m 22 #[vI p1] [(.int (0 : Int32)), (.ref b2_5), (.ref b4), (.ref b4)])) _
    refine st6.trans ?_
    show Steps p.tables e below (T6.setTop (mkF m 25 #[vI p1] [(.ref b4)])) _
    jvm_step X6.here [X6.here.top, hx, (hb hby d7_25), X6.method', Bd.returns, Value.isRef, FieldType.isReference]
    first | (intro acts; rw [hr _ acts rfl rfl rfl]) | rw [hr _ _ rfl rfl rfl]
    exact Steps.refl _
  · show Q_rm7 Z p1 s_COMPACT_STRINGS h0 n0 _ T6.heap _
    exact ⟨b4, ⟨rfl, N6, ((((Keep.refl h0 []).ext E4).trans K5 (fun _ q => nomatch q)).trans K6 (fun x q => (List.mem_cons.mp q).elim (fun r => r ▸ (Or.inr sz_b4)) ((fun _ q => nomatch q) x)))⟩⟩
theorem own_F8 (y : Int32) (h : y.toUInt32.toNat < 256) : ¬ ((F8 y) = (0 : Int32)) := by
  unfold F8
  rw [if_neg (own_le255 y h)]; decide
theorem own_strs {Z : State} {a0 : Array Value} (hw : ∀ d ∈ tables_1, d.before a0 Z = true) : ∀ a ∈ Bundle.stringAtoms, a.before a0 Z = true := fun d hd => by
  simp only [Bundle.stringAtoms, Bundle.sN, List.mem_cons, List.not_mem_nil, or_false] at hd
  rcases hd with rfl | rfl | rfl | rfl | rfl | rfl | rfl
  · exact (hw _ (List.mem_of_getElem? (i := 2) rfl))
  · exact (hw _ (List.mem_of_getElem? (i := 1) rfl))
  · exact (hw _ (List.mem_of_getElem? (i := 19) rfl))
  · exact (hw _ (List.mem_of_getElem? (i := 29) rfl))
  · exact (hw _ (List.mem_of_getElem? (i := 27) rfl))
  · exact (hw _ (List.mem_of_getElem? (i := 49) rfl))
  · exact (hw _ (List.mem_of_getElem? (i := 50) rfl))
theorem pd__28C_29Ljava_2flang_2fString_3b : parseMethodDescriptor "(C)Ljava/lang/String;" = some ⟨[.char], some (.object "java/lang/String")⟩ := by decide +kernel
theorem d11_0 : decode method_2_code 0 = .ok (.iload_n 0, 1) := by decide +kernel
theorem d11_1 : decode method_2_code 1 = .ok (.iconst 1, 1) := by decide +kernel
theorem d11_2 : decode method_2_code 2 = .ok (.iand, 1) := by decide +kernel
theorem d11_3 : decode method_2_code 3 = .ok (.ifCond .ne 6, 3) := by decide +kernel
theorem d11_6 : decode method_2_code 6 = .ok (.ldc 7, 2) := by decide +kernel
theorem d11_8 : decode method_2_code 8 = .ok (.areturn, 1) := by decide +kernel
theorem pn_11 : plainName "underdeck/deck/ColumnRequiredPinLaw" = true := by first | (simp [plainName, overriddenIn]; done) | decide +kernel
theorem ef_11 (m : MethodId) (x0 : Int32) : entryFrame m #[(.int x0)] 1 = mkF m 0 #[.val (.int x0)] [] := by first | (simp [entryFrame, mkF, argsToLocals, Value.category]; done) | rfl
def t11_0 (p1 : Int32) : Int32 := (((p1.toUInt32 >>> ((1 : Int32) &&& 31).toUInt32).toInt32) &&& (255 : Int32))
theorem d11_9 : decode method_2_code 9 = .ok (.iload_n 0, 1) := by decide +kernel
theorem d11_10 : decode method_2_code 10 = .ok (.iconst 1, 1) := by decide +kernel
theorem d11_11 : decode method_2_code 11 = .ok (.iushr, 1) := by decide +kernel
theorem d11_12 : decode method_2_code 12 = .ok (.sipush 255, 3) := by decide +kernel
theorem d11_15 : decode method_2_code 15 = .ok (.iand, 1) := by decide +kernel
theorem d11_16 : decode method_2_code 16 = .ok (.i2c, 1) := by decide +kernel
theorem d11_17 : decode method_2_code 17 = .ok (.invokestatic 9, 3) := by decide +kernel
theorem d11_20 : decode method_2_code 20 = .ok (.areturn, 1) := by decide +kernel
def Q_rm11 (Z : State) (p1 : Int32) (s_COMPACT_STRINGS : Int32) (h0 : Heap) (n0 : Nat) (v : Option Value) (h : Heap) (L : List Loc) : Prop := ∃ br : Addr, v = some (.ref br) ∧ Fr n0 L ∧ Keep h0 h []
set_option maxRecDepth 65536 in
set_option maxHeartbeats 40000000 in
theorem rm11_f (l : Launch) (Z : State) (a0 : Array Value) (hw : ∀ d ∈ tables_1, d.before a0 Z = true) (ws : List Jvm.Cond) (p1 : Int32) (s_COMPACT_STRINGS : Int32) (h0 : Heap) (n0 : Nat) (Z0 : n0 ≤ h0.size) (S_COMPACT_STRINGS : Sta Z h0 "java/lang/String" "COMPACT_STRINGS" "Z" (.int s_COMPACT_STRINGS)) (hhc3_17 : ¬ (s_COMPACT_STRINGS = (0 : Int32))) (hc3 : (p1 &&& (1 : Int32)) = (0 : Int32)) :
    MetFree l (⟨"underdeck/deck/ColumnRequiredPinLaw", "drawn", "(I)Ljava/lang/String;"⟩ : MethodName) (head1 (Jvm.Cond.code (⟨"underdeck/deck/ColumnRequiredPinLaw", "drawn", "(I)Ljava/lang/String;"⟩ : MethodName) method_2_code 1 (some (.object "java/lang/String")) :: ws) ({ frames := 3, cells := 2, slots := 5, locals := 39 } : Room)) (fun a U => a = #[(.int p1)] ∧ Z.Warmed39 U.vm ∧ U.heap = h0) (fun _ _ _ _ _ => True) (fun _ U o U' => ∃ v L, o = .returned v ∧ Q_rm11 Z p1 s_COMPACT_STRINGS h0 n0 v U'.heap L ∧ ReturnedEndW U o U' L ({ frames := 3, cells := 2, slots := 5, locals := 39 } : Room).cells ({ frames := 3, cells := 2, slots := 5, locals := 39 } : Room).slots) := by
  have hi : ∀ (i : Nat) {d : Jvm.Cond}, tables_1[i]? = some d → d.before a0 Z = true := fun i d h => hw d (List.mem_of_getElem? h)
  refine MetFree.of_bodySF (plainFor_of_name pn_11) hisR ?_
  intro p e s m args below meth c s₁ Bd hml0 hP hK
  obtain ⟨rfl, hZ, hh⟩ := hP
  have hx := Bd.exec
  have hby := Bd.bytes
  have hml : c.maxLocals = 1 := hml0
  have hown : s.vm.findClass "underdeck/deck/ColumnRequiredPinLaw" = some m.cls := findClass_of_methodNamed Bd.named
  have hnm := (name_of_methodNamed Bd.named Bd.method).1
  have X0 : Stand p l e ({ frames := 3, cells := 2, slots := 5, locals := 39 } : Room) (s.setVm s.vm) m #[(.int p1)] below meth c s₁ [] 0 0 := Stand.of_body Bd
  have e0 : s₁.heap = h0 := by rw [← hh, Bd.state]; rfl
  have N0 := Fr.nil n0
  have pre0 : ∀ t, Steps p.tables e below (s₁.setTop (mkF m 0 #[vI p1] [])) t → Steps p.tables e below (s₁.setTop (entryFrame m #[(.int p1)] 1)) t := fun t k => castTop (ef_11 m p1) k
  have hS0 : s.Since s.vm h0.size := (State.WarmedH.refl s).since _
  obtain ⟨c2, T2, h2, k2, X2, e2, E2, hS2, hk2, hZ2, hown2, st2⟩ := ldcS (s := s) X0 hx hZ hown (hi 48 rfl) (own_strs hw) e0 hS0 (Nat.le_refl h0.size) (g := (mkF m 6 #[vI p1] [])) rfl (hb hby d11_6) (n := 0) (by decide) (by decide) (by decide) (by decide)
  obtain ⟨fs, hr, hrun, hended, hw1, hw2, hw3, hw4⟩ := X2.leaveW hS2 (show _ ≤ T2.heap.size from by rw [e2]; exact hk2) (v := some (.ref c2)) (fun h => by rw [Bd.returns] at h; cases h)
  refine ⟨_, _, pre0 _ ?_, hrun, hended, _, _, rfl, ?_, hw1, hw2, hw3, hw4.mono (by decide) (by decide)⟩
  · show Steps p.tables e below (s₁.setTop (mkF m 0 #[vI p1] [])) _
    refine XS.iloadN X0.here hx rfl (hb hby d11_0) rfl ?_
    refine XS.iconst X0.here hx rfl (hb hby d11_1) ?_
    refine XS.iand X0.here hx rfl (hb hby d11_2) rfl ?_
    show Steps p.tables e below (s₁.setTop (mkF m 3 #[vI p1] [(.int (p1 &&& (1 : Int32)))])) _
    refine XS.ifNo X0.here hx rfl (hb hby d11_3) rfl ((if0 _ _).trans (teq hc3).2) ?_
    show Steps p.tables e below (s₁.setTop (mkF m 6 #[vI p1] [])) _
    refine st2 _ ?_
    show Steps p.tables e below (T2.setTop (mkF m 8 #[vI p1] [(.ref c2)])) _
    jvm_step X2.here [X2.here.top, hx, (hb hby d11_8), X2.method', Bd.returns, Value.isRef, FieldType.isReference]
    first | (intro acts; rw [hr _ acts rfl rfl rfl]) | rw [hr _ _ rfl rfl rfl]
    exact Steps.refl _
  · show Q_rm11 Z p1 s_COMPACT_STRINGS h0 n0 _ T2.heap _
    rw [e2]
    exact ⟨c2, ⟨rfl, N0, ((Keep.refl h0 []).ext E2)⟩⟩
set_option maxRecDepth 65536 in
set_option maxHeartbeats 40000000 in
theorem rm11_t (l : Launch) (Z : State) (a0 : Array Value) (hw : ∀ d ∈ tables_1, d.before a0 Z = true) (ws : List Jvm.Cond) (p1 : Int32) (s_COMPACT_STRINGS : Int32) (h0 : Heap) (n0 : Nat) (Z0 : n0 ≤ h0.size) (S_COMPACT_STRINGS : Sta Z h0 "java/lang/String" "COMPACT_STRINGS" "Z" (.int s_COMPACT_STRINGS)) (hhc3_17 : ¬ (s_COMPACT_STRINGS = (0 : Int32))) (hc3 : ¬ ((p1 &&& (1 : Int32)) = (0 : Int32))) :
    MetFree l (⟨"underdeck/deck/ColumnRequiredPinLaw", "drawn", "(I)Ljava/lang/String;"⟩ : MethodName) (head1 (Jvm.Cond.code (⟨"underdeck/deck/ColumnRequiredPinLaw", "drawn", "(I)Ljava/lang/String;"⟩ : MethodName) method_2_code 1 (some (.object "java/lang/String")) :: ws) ({ frames := 3, cells := 2, slots := 5, locals := 39 } : Room)) (fun a U => a = #[(.int p1)] ∧ Z.Warmed39 U.vm ∧ U.heap = h0) (fun _ _ _ _ _ => True) (fun _ U o U' => ∃ v L, o = .returned v ∧ Q_rm11 Z p1 s_COMPACT_STRINGS h0 n0 v U'.heap L ∧ ReturnedEndW U o U' L ({ frames := 3, cells := 2, slots := 5, locals := 39 } : Room).cells ({ frames := 3, cells := 2, slots := 5, locals := 39 } : Room).slots) := by
  have hi : ∀ (i : Nat) {d : Jvm.Cond}, tables_1[i]? = some d → d.before a0 Z = true := fun i d h => hw d (List.mem_of_getElem? h)
  refine MetFree.of_bodySF (plainFor_of_name pn_11) hisR ?_
  intro p e s m args below meth c s₁ Bd hml0 hP hK
  obtain ⟨rfl, hZ, hh⟩ := hP
  have hx := Bd.exec
  have hby := Bd.bytes
  have hml : c.maxLocals = 1 := hml0
  have hown : s.vm.findClass "underdeck/deck/ColumnRequiredPinLaw" = some m.cls := findClass_of_methodNamed Bd.named
  have hnm := (name_of_methodNamed Bd.named Bd.method).1
  have X0 : Stand p l e ({ frames := 3, cells := 2, slots := 5, locals := 39 } : Room) (s.setVm s.vm) m #[(.int p1)] below meth c s₁ [] 0 0 := Stand.of_body Bd
  have e0 : s₁.heap = h0 := by rw [← hh, Bd.state]; rfl
  have N0 := Fr.nil n0
  have pre0 : ∀ t, Steps p.tables e below (s₁.setTop (mkF m 0 #[vI p1] [])) t → Steps p.tables e below (s₁.setTop (entryFrame m #[(.int p1)] 1)) t := fun t k => castTop (ef_11 m p1) k
  have hS0 : s.Since s.vm h0.size := (State.WarmedH.refl s).since _
  obtain ⟨_, _, ⟨T2, L2, k2, n2⟩, -, X2, ⟨Lc2, hQ2, l2, y2, z2⟩, st2⟩ := Jvm.LawKit.callS X0 hx (y := (⟨"java/lang/String", "valueOf", "(C)Ljava/lang/String;"⟩ : MethodName)) hown (mvT hZ (hi 30 rfl)) (mvT hZ (hi 31 rfl)) (mvT hZ (hi 2 rfl)) (mvT hZ (hi 32 rfl)) (by decide) (backOf (W := 0) (rm7 l Z a0 hw [] ((t11_0 p1).toUInt32.toUInt16.toUInt32.toInt32) s_COMPACT_STRINGS h0 n0 Z0 S_COMPACT_STRINGS hhc3_17 (own_F8 _ (own_cc _ (own_m255 _)))) hZ (hi 32 rfl) (hi 2 rfl) (by decide) (by decide)) (g := (mkF m 17 #[vI p1] [(.int ((t11_0 p1).toUInt32.toUInt16.toUInt32.toInt32))])) rfl (by rw [hml]; rfl) (argsL := [(.int ((t11_0 p1).toUInt32.toUInt16.toUInt32.toInt32))]) (rest := []) (lenOf pd__28C_29Ljava_2flang_2fString_3b rfl) rfl (by show 2 * 0 + _ ≤ _; exact Nat.le_of_eq rfl) (hb hby d11_17) (fun _ _ => ⟨rfl, e0, (by decide : 0 + 2 ≤ _), (by decide : 0 + 5 ≤ _)⟩)
  dsimp only [Pt.U, Pt.locs, Pt.cells, Pt.slots] at X2 l2 y2 z2 st2 hQ2
  subst l2 y2 z2
  obtain ⟨br_2, ⟨rfl, N2q, K2⟩⟩ := hQ2
  have N2 := Fr.app N0 N2q
  obtain ⟨fs, hr, hrun, hended, hw1, hw2, hw3, hw4⟩ := X2.leaveW hS0 (show _ ≤ T2.heap.size from by exact (Nat.le_trans (Nat.le_refl h0.size) K2.1)) (v := some (.ref br_2)) (fun h => by rw [Bd.returns] at h; cases h)
  refine ⟨_, _, pre0 _ ?_, hrun, hended, _, _, rfl, ?_, hw1, hw2, hw3, hw4.mono (by decide) (by decide)⟩
  · show Steps p.tables e below (s₁.setTop (mkF m 0 #[vI p1] [])) _
    refine XS.iloadN X0.here hx rfl (hb hby d11_0) rfl ?_
    refine XS.iconst X0.here hx rfl (hb hby d11_1) ?_
    refine XS.iand X0.here hx rfl (hb hby d11_2) rfl ?_
    show Steps p.tables e below (s₁.setTop (mkF m 3 #[vI p1] [(.int (p1 &&& (1 : Int32)))])) _
    refine XS.ifYes X0.here hx rfl (pc0 := 3) (pc' := 9) rfl (hb hby d11_3) rfl ((if0 _ _).trans (feq hc3).2) (by decide) (by decide) ?_
    refine XS.iloadN X0.here hx rfl (hb hby d11_9) rfl ?_
    refine XS.iconst X0.here hx rfl (hb hby d11_10) ?_
    refine XS.iushr X0.here hx rfl (hb hby d11_11) rfl ?_
    refine XS.sipush X0.here hx rfl (hb hby d11_12) ?_
    refine XS.iand X0.here hx rfl (hb hby d11_15) rfl ?_
    refine XS.i2c X0.here hx rfl (hb hby d11_16) rfl ?_
    show Steps p.tables e below (s₁.setTop (mkF m 17 #[vI p1] [(.int ((t11_0 p1).toUInt32.toUInt16.toUInt32.toInt32))])) _
    refine st2 _ ?_
    show Steps p.tables e below (T2.setTop (mkF m 20 #[vI p1] [(.ref br_2)])) _
    jvm_step X2.here [X2.here.top, hx, (hb hby d11_20), X2.method', Bd.returns, Value.isRef, FieldType.isReference]
    first | (intro acts; rw [hr _ acts rfl rfl rfl]) | rw [hr _ _ rfl rfl rfl]
    exact Steps.refl _
  · show Q_rm11 Z p1 s_COMPACT_STRINGS h0 n0 _ T2.heap _
    exact ⟨br_2, ⟨rfl, N2, ((Keep.refl h0 []).trans K2 (fun _ q => nomatch q))⟩⟩
set_option maxHeartbeats 4000000 in
theorem rm11 (l : Launch) (Z : State) (a0 : Array Value) (hw : ∀ d ∈ tables_1, d.before a0 Z = true) (ws : List Jvm.Cond) (p1 : Int32) (s_COMPACT_STRINGS : Int32) (h0 : Heap) (n0 : Nat) (Z0 : n0 ≤ h0.size) (S_COMPACT_STRINGS : Sta Z h0 "java/lang/String" "COMPACT_STRINGS" "Z" (.int s_COMPACT_STRINGS)) (hhc3_17 : ¬ (s_COMPACT_STRINGS = (0 : Int32))) :
    MetFree l (⟨"underdeck/deck/ColumnRequiredPinLaw", "drawn", "(I)Ljava/lang/String;"⟩ : MethodName) (head1 (Jvm.Cond.code (⟨"underdeck/deck/ColumnRequiredPinLaw", "drawn", "(I)Ljava/lang/String;"⟩ : MethodName) method_2_code 1 (some (.object "java/lang/String")) :: ws) ({ frames := 3, cells := 2, slots := 5, locals := 39 } : Room)) (fun a U => a = #[(.int p1)] ∧ Z.Warmed39 U.vm ∧ U.heap = h0) (fun _ _ _ _ _ => True) (fun _ U o U' => ∃ v L, o = .returned v ∧ Q_rm11 Z p1 s_COMPACT_STRINGS h0 n0 v U'.heap L ∧ ReturnedEndW U o U' L ({ frames := 3, cells := 2, slots := 5, locals := 39 } : Room).cells ({ frames := 3, cells := 2, slots := 5, locals := 39 } : Room).slots) := by
  by_cases hc3 : (p1 &&& (1 : Int32)) = (0 : Int32)
  · skip
    exact rm11_f l Z a0 hw ws p1 s_COMPACT_STRINGS h0 n0 Z0 S_COMPACT_STRINGS hhc3_17 hc3
  · skip
    exact rm11_t l Z a0 hw ws p1 s_COMPACT_STRINGS h0 n0 Z0 S_COMPACT_STRINGS hhc3_17 hc3
theorem pd__28_29V : parseMethodDescriptor "()V" = some ⟨[], none⟩ := by decide +kernel
theorem pd__28Ljava_2flang_2fObject_3bLjava_2flang_2fString_3b_29Ljava_2flang_2fObject_3b : parseMethodDescriptor "(Ljava/lang/Object;Ljava/lang/String;)Ljava/lang/Object;" = some ⟨[(.object "java/lang/Object"), (.object "java/lang/String")], some (.object "java/lang/Object")⟩ := by decide +kernel
theorem d13_0 : decode prog_17_method_1_code 0 = .ok (.aload_n 0, 1) := by decide +kernel
theorem d13_1 : decode prog_17_method_1_code 1 = .ok (.invokespecial 1, 3) := by decide +kernel
theorem d13_4 : decode prog_17_method_1_code 4 = .ok (.aload_n 1, 1) := by decide +kernel
theorem d13_5 : decode prog_17_method_1_code 5 = .ok (.ldc 7, 2) := by decide +kernel
theorem d13_7 : decode prog_17_method_1_code 7 = .ok (.invokestatic 9, 3) := by decide +kernel
theorem d13_10 : decode prog_17_method_1_code 10 = .ok (.pop, 1) := by decide +kernel
theorem d13_11 : decode prog_17_method_1_code 11 = .ok (.aload_n 2, 1) := by decide +kernel
theorem d13_12 : decode prog_17_method_1_code 12 = .ok (.ldc 15, 2) := by decide +kernel
theorem d13_14 : decode prog_17_method_1_code 14 = .ok (.invokestatic 9, 3) := by decide +kernel
theorem d13_17 : decode prog_17_method_1_code 17 = .ok (.pop, 1) := by decide +kernel
theorem d13_18 : decode prog_17_method_1_code 18 = .ok (.aload 4, 2) := by decide +kernel
theorem d13_20 : decode prog_17_method_1_code 20 = .ok (.ldc 17, 2) := by decide +kernel
theorem d13_22 : decode prog_17_method_1_code 22 = .ok (.invokestatic 9, 3) := by decide +kernel
theorem d13_25 : decode prog_17_method_1_code 25 = .ok (.pop, 1) := by decide +kernel
theorem d13_26 : decode prog_17_method_1_code 26 = .ok (.aload 5, 2) := by decide +kernel
theorem d13_28 : decode prog_17_method_1_code 28 = .ok (.ldc 19, 2) := by decide +kernel
theorem d13_30 : decode prog_17_method_1_code 30 = .ok (.invokestatic 9, 3) := by decide +kernel
theorem d13_33 : decode prog_17_method_1_code 33 = .ok (.pop, 1) := by decide +kernel
theorem d13_34 : decode prog_17_method_1_code 34 = .ok (.aload 6, 2) := by decide +kernel
theorem d13_36 : decode prog_17_method_1_code 36 = .ok (.ldc 21, 2) := by decide +kernel
theorem d13_38 : decode prog_17_method_1_code 38 = .ok (.invokestatic 9, 3) := by decide +kernel
theorem d13_41 : decode prog_17_method_1_code 41 = .ok (.pop, 1) := by decide +kernel
theorem d13_42 : decode prog_17_method_1_code 42 = .ok (.aload_n 0, 1) := by decide +kernel
theorem d13_43 : decode prog_17_method_1_code 43 = .ok (.aload_n 1, 1) := by decide +kernel
theorem d13_44 : decode prog_17_method_1_code 44 = .ok (.putfield 23, 3) := by decide +kernel
theorem d13_47 : decode prog_17_method_1_code 47 = .ok (.aload_n 0, 1) := by decide +kernel
theorem d13_48 : decode prog_17_method_1_code 48 = .ok (.aload_n 2, 1) := by decide +kernel
theorem d13_49 : decode prog_17_method_1_code 49 = .ok (.putfield 28, 3) := by decide +kernel
theorem d13_52 : decode prog_17_method_1_code 52 = .ok (.aload_n 0, 1) := by decide +kernel
theorem d13_53 : decode prog_17_method_1_code 53 = .ok (.iload_n 3, 1) := by decide +kernel
theorem d13_54 : decode prog_17_method_1_code 54 = .ok (.putfield 30, 3) := by decide +kernel
theorem d13_57 : decode prog_17_method_1_code 57 = .ok (.aload_n 0, 1) := by decide +kernel
theorem d13_58 : decode prog_17_method_1_code 58 = .ok (.aload 4, 2) := by decide +kernel
theorem d13_60 : decode prog_17_method_1_code 60 = .ok (.putfield 34, 3) := by decide +kernel
theorem d13_63 : decode prog_17_method_1_code 63 = .ok (.aload_n 0, 1) := by decide +kernel
theorem d13_64 : decode prog_17_method_1_code 64 = .ok (.aload 5, 2) := by decide +kernel
theorem d13_66 : decode prog_17_method_1_code 66 = .ok (.putfield 37, 3) := by decide +kernel
theorem d13_69 : decode prog_17_method_1_code 69 = .ok (.aload_n 0, 1) := by decide +kernel
theorem d13_70 : decode prog_17_method_1_code 70 = .ok (.aload 6, 2) := by decide +kernel
theorem d13_72 : decode prog_17_method_1_code 72 = .ok (.putfield 39, 3) := by decide +kernel
theorem d13_75 : decode prog_17_method_1_code 75 = .ok (.return_, 1) := by decide +kernel
theorem pn_13 : plainName "underdeck/deck/Column" = true := by first | (simp [plainName, overriddenIn]; done) | decide +kernel
theorem ef_13 (m : MethodId) (x0 : Addr) (x1 : Addr) (x2 : Addr) (x3 : Int32) (x4 : Addr) (x5 : Addr) (x6 : Addr) : entryFrame m #[(.ref x0), (.ref x1), (.ref x2), (.int x3), (.ref x4), (.ref x5), (.ref x6)] 7 = mkF m 0 #[.val (.ref x0), .val (.ref x1), .val (.ref x2), .val (.int x3), .val (.ref x4), .val (.ref x5), .val (.ref x6)] [] := by first | (simp [entryFrame, mkF, argsToLocals, Value.category]; done) | rfl
def Q_rm13 (Z : State) (a1 : Addr) (a2 : Addr) (a3 : Addr) (p4 : Int32) (a5 : Addr) (a6 : Addr) (a7 : Addr) (w_name_a1 : Value) (w_type_a1 : Value) (w_nullable_a1 : Int32) (w_defaultValue_a1 : Value) (w_identity_a1 : Value) (w_generated_a1 : Value) (h0 : Heap) (n0 : Nat) (v : Option Value) (h : Heap) (L : List Loc) : Prop := v = none ∧ Fr n0 L ∧ Keep h0 h [a1] ∧ Exa Z h a1 "underdeck/deck/Column" ∧ Fld Z h a1 "underdeck/deck/Column" "name" "Ljava/lang/String;" (.ref a2) ∧ Fld Z h a1 "underdeck/deck/Column" "type" "Ljava/lang/String;" (.ref a3) ∧ Fld Z h a1 "underdeck/deck/Column" "nullable" "Z" (.int (nar .boolean p4)) ∧ Fld Z h a1 "underdeck/deck/Column" "defaultValue" "Ljava/util/Optional;" (.ref a5) ∧ Fld Z h a1 "underdeck/deck/Column" "identity" "Ljava/util/Optional;" (.ref a6) ∧ Fld Z h a1 "underdeck/deck/Column" "generated" "Ljava/util/Optional;" (.ref a7)
set_option maxRecDepth 65536 in
set_option maxHeartbeats 40000000 in
theorem rm13 (l : Launch) (Z : State) (a0 : Array Value) (hw : ∀ d ∈ tables_1, d.before a0 Z = true) (ws : List Jvm.Cond) (a1 : Addr) (a2 : Addr) (a3 : Addr) (p4 : Int32) (a5 : Addr) (a6 : Addr) (a7 : Addr) (w_name_a1 : Value) (w_type_a1 : Value) (w_nullable_a1 : Int32) (w_defaultValue_a1 : Value) (w_identity_a1 : Value) (w_generated_a1 : Value) (h0 : Heap) (n0 : Nat) (Z0 : n0 ≤ h0.size) (E_a1 : Exa Z h0 a1 "underdeck/deck/Column") (F_name_a1 : Fld Z h0 a1 "underdeck/deck/Column" "name" "Ljava/lang/String;" w_name_a1) (g_a1 : n0 ≤ a1) (F_type_a1 : Fld Z h0 a1 "underdeck/deck/Column" "type" "Ljava/lang/String;" w_type_a1) (F_nullable_a1 : Fld Z h0 a1 "underdeck/deck/Column" "nullable" "Z" (.int w_nullable_a1)) (F_defaultValue_a1 : Fld Z h0 a1 "underdeck/deck/Column" "defaultValue" "Ljava/util/Optional;" w_defaultValue_a1) (F_identity_a1 : Fld Z h0 a1 "underdeck/deck/Column" "identity" "Ljava/util/Optional;" w_identity_a1) (F_generated_a1 : Fld Z h0 a1 "underdeck/deck/Column" "generated" "Ljava/util/Optional;" w_generated_a1) :
    MetFree l (⟨"underdeck/deck/Column", "<init>", "(Ljava/lang/String;Ljava/lang/String;ZLjava/util/Optional;Ljava/util/Optional;Ljava/util/Optional;)V"⟩ : MethodName) (head1 (Jvm.Cond.code (⟨"underdeck/deck/Column", "<init>", "(Ljava/lang/String;Ljava/lang/String;ZLjava/util/Optional;Ljava/util/Optional;Ljava/util/Optional;)V"⟩ : MethodName) prog_17_method_1_code 7 none :: ws) ({ frames := 2, cells := 10, slots := 168, locals := 24 } : Room)) (fun a U => a = #[(.ref a1), (.ref a2), (.ref a3), (.int p4), (.ref a5), (.ref a6), (.ref a7)] ∧ Z.Warmed39 U.vm ∧ U.heap = h0) (fun _ _ _ _ _ => True) (fun _ U o U' => ∃ v L, o = .returned v ∧ Q_rm13 Z a1 a2 a3 p4 a5 a6 a7 w_name_a1 w_type_a1 w_nullable_a1 w_defaultValue_a1 w_identity_a1 w_generated_a1 h0 n0 v U'.heap L ∧ ReturnedEndW U o U' L ({ frames := 2, cells := 10, slots := 168, locals := 24 } : Room).cells ({ frames := 2, cells := 10, slots := 168, locals := 24 } : Room).slots) := by
  have hi : ∀ (i : Nat) {d : Jvm.Cond}, tables_1[i]? = some d → d.before a0 Z = true := fun i d h => hw d (List.mem_of_getElem? h)
  refine MetFree.of_bodySF (plainFor_of_name pn_13) hisR ?_
  intro p e s m args below meth c s₁ Bd hml0 hP hK
  obtain ⟨rfl, hZ, hh⟩ := hP
  have hx := Bd.exec
  have hby := Bd.bytes
  have hml : c.maxLocals = 7 := hml0
  have hown : s.vm.findClass "underdeck/deck/Column" = some m.cls := findClass_of_methodNamed Bd.named
  have hnm := (name_of_methodNamed Bd.named Bd.method).1
  have X0 : Stand p l e ({ frames := 2, cells := 10, slots := 168, locals := 24 } : Room) (s.setVm s.vm) m #[(.ref a1), (.ref a2), (.ref a3), (.int p4), (.ref a5), (.ref a6), (.ref a7)] below meth c s₁ [] 0 0 := Stand.of_body Bd
  have e0 : s₁.heap = h0 := by rw [← hh, Bd.state]; rfl
  have N0 := Fr.nil n0
  have pre0 : ∀ t, Steps p.tables e below (s₁.setTop (mkF m 0 #[vA a1, vA a2, vA a3, vI p4, vA a5, vA a6, vA a7] [])) t → Steps p.tables e below (s₁.setTop (entryFrame m #[(.ref a1), (.ref a2), (.ref a3), (.int p4), (.ref a5), (.ref a6), (.ref a7)] 7)) t := fun t k => castTop (ef_13 m a1 a2 a3 p4 a5 a6 a7) k
  have hS0 : s.Since s.vm h0.size := (State.WarmedH.refl s).since _
  obtain ⟨_, _, ⟨T8, L8, k8, n8⟩, -, X8, ⟨Lc8, hQ8, l8, y8, z8⟩, st8⟩ := X0.specialBack hx (y := (⟨"java/lang/Record", "<init>", "()V"⟩ : MethodName)) rfl hown (mvT hZ (hi 62 rfl)) (mvT hZ (hi 63 rfl)) (mvT hZ (hi 66 rfl)) (by decide) (backOf (W := 0) (rm14 l Z a0 hw [] a1 h0 n0 Z0 ) hZ (hi 66 rfl) (hi 65 rfl) (by decide) (by decide)) (g := (mkF m 1 #[vA a1, vA a2, vA a3, vI p4, vA a5, vA a6, vA a7] [(.ref a1)])) rfl (by rw [hml]; rfl) (Steps.refl _) (a := a1) (argsL := []) (rest := []) (lenOf pd__28_29V rfl) rfl (by show 2 * 0 + _ ≤ _; exact Nat.le_of_eq rfl) (hb hby d13_1) (fun _ _ => ⟨rfl, e0, (by decide : 0 + 0 ≤ _), (by decide : 0 + 0 ≤ _)⟩)
  dsimp only [Pt.U, Pt.locs, Pt.cells, Pt.slots] at X8 l8 y8 z8 st8 hQ8
  subst l8 y8 z8
  obtain ⟨rfl, N8q, e8⟩ := hQ8
  have N8 := Fr.app N0 N8q
  obtain ⟨c9, T9, h9, k9, X9, e9, E9, hS9, hk9, hZ9, hown9, st9⟩ := ldcS (s := s) X8 hx hZ hown (hi 68 rfl) (own_strs hw) e8 hS0 (Nat.le_refl h0.size) (g := (mkF m 5 #[vA a1, vA a2, vA a3, vI p4, vA a5, vA a6, vA a7] [(.ref a2)])) rfl (hb hby d13_5) (n := 16) (by decide) (by decide) (by decide) (by decide)
  obtain ⟨_, _, ⟨T10, L10, k10, n10⟩, -, X10, ⟨Lc10, hQ10, l10, y10, z10⟩, st10⟩ := Jvm.LawKit.callS X9 hx (y := (⟨"java/util/Objects", "requireNonNull", "(Ljava/lang/Object;Ljava/lang/String;)Ljava/lang/Object;"⟩ : MethodName)) hown9 (mvT hZ9 (hi 69 rfl)) (mvT hZ9 (hi 70 rfl)) (mvT hZ9 (hi 71 rfl)) (mvT hZ9 (hi 72 rfl)) (by decide) (backOf (W := 0) (rm15 l Z a0 hw [] a2 c9 h9 n0 (Nat.le_trans Z0 E9.1) ) hZ9 (hi 72 rfl) (hi 71 rfl) (by decide) (by decide)) (g := (mkF m 7 #[vA a1, vA a2, vA a3, vI p4, vA a5, vA a6, vA a7] [(.ref c9), (.ref a2)])) rfl (by rw [hml]; rfl) (argsL := [(.ref a2), (.ref c9)]) (rest := []) (lenOf pd__28Ljava_2flang_2fObject_3bLjava_2flang_2fString_3b_29Ljava_2flang_2fObject_3b rfl) rfl (by show 2 * 0 + _ ≤ _; exact Nat.le_of_eq rfl) (hb hby d13_7) (fun _ _ => ⟨rfl, e9, (by decide : 2 + 0 ≤ _), (by decide : 20 + 0 ≤ _)⟩)
  dsimp only [Pt.U, Pt.locs, Pt.cells, Pt.slots] at X10 l10 y10 z10 st10 hQ10
  subst l10 y10 z10
  obtain ⟨rfl, N10q, e10⟩ := hQ10
  have N10 := Fr.app N8 N10q
  obtain ⟨c11, T11, h11, k11, X11, e11, E11, hS11, hk11, hZ11, hown11, st11⟩ := ldcS (s := s) X10 hx hZ9 hown9 (hi 73 rfl) (own_strs hw) e10 hS9 hk9 (g := (mkF m 12 #[vA a1, vA a2, vA a3, vI p4, vA a5, vA a6, vA a7] [(.ref a3)])) rfl (hb hby d13_12) (n := 16) (by decide) (by decide) (by decide) (by decide)
  obtain ⟨_, _, ⟨T12, L12, k12, n12⟩, -, X12, ⟨Lc12, hQ12, l12, y12, z12⟩, st12⟩ := Jvm.LawKit.callS X11 hx (y := (⟨"java/util/Objects", "requireNonNull", "(Ljava/lang/Object;Ljava/lang/String;)Ljava/lang/Object;"⟩ : MethodName)) hown11 (mvT hZ11 (hi 69 rfl)) (mvT hZ11 (hi 70 rfl)) (mvT hZ11 (hi 71 rfl)) (mvT hZ11 (hi 72 rfl)) (by decide) (backOf (W := 0) (rm15 l Z a0 hw [] a3 c11 h11 n0 (Nat.le_trans (Nat.le_trans Z0 E9.1) E11.1) ) hZ11 (hi 72 rfl) (hi 71 rfl) (by decide) (by decide)) (g := (mkF m 14 #[vA a1, vA a2, vA a3, vI p4, vA a5, vA a6, vA a7] [(.ref c11), (.ref a3)])) rfl (by rw [hml]; rfl) (argsL := [(.ref a3), (.ref c11)]) (rest := []) (lenOf pd__28Ljava_2flang_2fObject_3bLjava_2flang_2fString_3b_29Ljava_2flang_2fObject_3b rfl) rfl (by show 2 * 0 + _ ≤ _; exact Nat.le_of_eq rfl) (hb hby d13_14) (fun _ _ => ⟨rfl, e11, (by decide : 4 + 0 ≤ _), (by decide : 40 + 0 ≤ _)⟩)
  dsimp only [Pt.U, Pt.locs, Pt.cells, Pt.slots] at X12 l12 y12 z12 st12 hQ12
  subst l12 y12 z12
  obtain ⟨rfl, N12q, e12⟩ := hQ12
  have N12 := Fr.app N10 N12q
  obtain ⟨c13, T13, h13, k13, X13, e13, E13, hS13, hk13, hZ13, hown13, st13⟩ := ldcS (s := s) X12 hx hZ11 hown11 (hi 74 rfl) (own_strs hw) e12 hS11 hk11 (g := (mkF m 20 #[vA a1, vA a2, vA a3, vI p4, vA a5, vA a6, vA a7] [(.ref a5)])) rfl (hb hby d13_20) (n := 48) (by decide) (by decide) (by decide) (by decide)
  obtain ⟨_, _, ⟨T14, L14, k14, n14⟩, -, X14, ⟨Lc14, hQ14, l14, y14, z14⟩, st14⟩ := Jvm.LawKit.callS X13 hx (y := (⟨"java/util/Objects", "requireNonNull", "(Ljava/lang/Object;Ljava/lang/String;)Ljava/lang/Object;"⟩ : MethodName)) hown13 (mvT hZ13 (hi 69 rfl)) (mvT hZ13 (hi 70 rfl)) (mvT hZ13 (hi 71 rfl)) (mvT hZ13 (hi 72 rfl)) (by decide) (backOf (W := 0) (rm15 l Z a0 hw [] a5 c13 h13 n0 (Nat.le_trans (Nat.le_trans (Nat.le_trans Z0 E9.1) E11.1) E13.1) ) hZ13 (hi 72 rfl) (hi 71 rfl) (by decide) (by decide)) (g := (mkF m 22 #[vA a1, vA a2, vA a3, vI p4, vA a5, vA a6, vA a7] [(.ref c13), (.ref a5)])) rfl (by rw [hml]; rfl) (argsL := [(.ref a5), (.ref c13)]) (rest := []) (lenOf pd__28Ljava_2flang_2fObject_3bLjava_2flang_2fString_3b_29Ljava_2flang_2fObject_3b rfl) rfl (by show 2 * 0 + _ ≤ _; exact Nat.le_of_eq rfl) (hb hby d13_22) (fun _ _ => ⟨rfl, e13, (by decide : 6 + 0 ≤ _), (by decide : 92 + 0 ≤ _)⟩)
  dsimp only [Pt.U, Pt.locs, Pt.cells, Pt.slots] at X14 l14 y14 z14 st14 hQ14
  subst l14 y14 z14
  obtain ⟨rfl, N14q, e14⟩ := hQ14
  have N14 := Fr.app N12 N14q
  obtain ⟨c15, T15, h15, k15, X15, e15, E15, hS15, hk15, hZ15, hown15, st15⟩ := ldcS (s := s) X14 hx hZ13 hown13 (hi 75 rfl) (own_strs hw) e14 hS13 hk13 (g := (mkF m 28 #[vA a1, vA a2, vA a3, vI p4, vA a5, vA a6, vA a7] [(.ref a6)])) rfl (hb hby d13_28) (n := 32) (by decide) (by decide) (by decide) (by decide)
  obtain ⟨_, _, ⟨T16, L16, k16, n16⟩, -, X16, ⟨Lc16, hQ16, l16, y16, z16⟩, st16⟩ := Jvm.LawKit.callS X15 hx (y := (⟨"java/util/Objects", "requireNonNull", "(Ljava/lang/Object;Ljava/lang/String;)Ljava/lang/Object;"⟩ : MethodName)) hown15 (mvT hZ15 (hi 69 rfl)) (mvT hZ15 (hi 70 rfl)) (mvT hZ15 (hi 71 rfl)) (mvT hZ15 (hi 72 rfl)) (by decide) (backOf (W := 0) (rm15 l Z a0 hw [] a6 c15 h15 n0 (Nat.le_trans (Nat.le_trans (Nat.le_trans (Nat.le_trans Z0 E9.1) E11.1) E13.1) E15.1) ) hZ15 (hi 72 rfl) (hi 71 rfl) (by decide) (by decide)) (g := (mkF m 30 #[vA a1, vA a2, vA a3, vI p4, vA a5, vA a6, vA a7] [(.ref c15), (.ref a6)])) rfl (by rw [hml]; rfl) (argsL := [(.ref a6), (.ref c15)]) (rest := []) (lenOf pd__28Ljava_2flang_2fObject_3bLjava_2flang_2fString_3b_29Ljava_2flang_2fObject_3b rfl) rfl (by show 2 * 0 + _ ≤ _; exact Nat.le_of_eq rfl) (hb hby d13_30) (fun _ _ => ⟨rfl, e15, (by decide : 8 + 0 ≤ _), (by decide : 128 + 0 ≤ _)⟩)
  dsimp only [Pt.U, Pt.locs, Pt.cells, Pt.slots] at X16 l16 y16 z16 st16 hQ16
  subst l16 y16 z16
  obtain ⟨rfl, N16q, e16⟩ := hQ16
  have N16 := Fr.app N14 N16q
  obtain ⟨c17, T17, h17, k17, X17, e17, E17, hS17, hk17, hZ17, hown17, st17⟩ := ldcS (s := s) X16 hx hZ15 hown15 (hi 76 rfl) (own_strs hw) e16 hS15 hk15 (g := (mkF m 36 #[vA a1, vA a2, vA a3, vI p4, vA a5, vA a6, vA a7] [(.ref a7)])) rfl (hb hby d13_36) (n := 36) (by decide) (by decide) (by decide) (by decide)
  obtain ⟨_, _, ⟨T18, L18, k18, n18⟩, -, X18, ⟨Lc18, hQ18, l18, y18, z18⟩, st18⟩ := Jvm.LawKit.callS X17 hx (y := (⟨"java/util/Objects", "requireNonNull", "(Ljava/lang/Object;Ljava/lang/String;)Ljava/lang/Object;"⟩ : MethodName)) hown17 (mvT hZ17 (hi 69 rfl)) (mvT hZ17 (hi 70 rfl)) (mvT hZ17 (hi 71 rfl)) (mvT hZ17 (hi 72 rfl)) (by decide) (backOf (W := 0) (rm15 l Z a0 hw [] a7 c17 h17 n0 (Nat.le_trans (Nat.le_trans (Nat.le_trans (Nat.le_trans (Nat.le_trans Z0 E9.1) E11.1) E13.1) E15.1) E17.1) ) hZ17 (hi 72 rfl) (hi 71 rfl) (by decide) (by decide)) (g := (mkF m 38 #[vA a1, vA a2, vA a3, vI p4, vA a5, vA a6, vA a7] [(.ref c17), (.ref a7)])) rfl (by rw [hml]; rfl) (argsL := [(.ref a7), (.ref c17)]) (rest := []) (lenOf pd__28Ljava_2flang_2fObject_3bLjava_2flang_2fString_3b_29Ljava_2flang_2fObject_3b rfl) rfl (by show 2 * 0 + _ ≤ _; exact Nat.le_of_eq rfl) (hb hby d13_38) (fun _ _ => ⟨rfl, e17, (by decide : 10 + 0 ≤ _), (by decide : 168 + 0 ≤ _)⟩)
  dsimp only [Pt.U, Pt.locs, Pt.cells, Pt.slots] at X18 l18 y18 z18 st18 hQ18
  subst l18 y18 z18
  obtain ⟨rfl, N18q, e18⟩ := hQ18
  have N18 := Fr.app N16 N18q
  have f0 := (((((E_a1.ext E9).ext E11).ext E13).ext E15).ext E17)
  have f1 := (((((F_name_a1.ext E9).ext E11).ext E13).ext E15).ext E17)
  obtain ⟨T19, h19, X19, e19, W19, st19⟩ := putF X18 hx hZ17 hown17 (host := "") (Or.inl (hi 77 rfl)) Via.refl e18 f1 f0 (Or.inr ⟨(hi 78 rfl), rfl, hnm⟩) (hi 57 rfl) (ty := (.object "java/lang/String")) (by decide) rfl rfl (g := (mkF m 44 #[vA a1, vA a2, vA a3, vI p4, vA a5, vA a6, vA a7] [(.ref a2), (.ref a1)])) rfl rfl (hb hby d13_44)
  have Fw19 := f1.same W19
  have N19 := Fr.snoc X19 N18 g_a1
  have f2 := (f0.wr W19)
  have f3 := ((((((F_type_a1.ext E9).ext E11).ext E13).ext E15).ext E17).other W19 (Or.inr (slot_ne (Or.inr (hi 80 rfl)) (Or.inr (hi 78 rfl)) (by decide) (t := (.object "java/lang/String")) (t' := (.object "java/lang/String")) (by decide) (by decide))))
  obtain ⟨T20, h20, X20, e20, W20, st20⟩ := putF X19 hx hZ17 hown17 (host := "") (Or.inl (hi 79 rfl)) Via.refl e19 f3 f2 (Or.inr ⟨(hi 80 rfl), rfl, hnm⟩) (hi 57 rfl) (ty := (.object "java/lang/String")) (by decide) rfl rfl (g := (mkF m 49 #[vA a1, vA a2, vA a3, vI p4, vA a5, vA a6, vA a7] [(.ref a3), (.ref a1)])) rfl rfl (hb hby d13_49)
  have Fw20 := f3.same W20
  have N20 := Fr.snoc X20 N19 g_a1
  have f4 := (f2.wr W20)
  have f5 := (((((((F_nullable_a1.ext E9).ext E11).ext E13).ext E15).ext E17).other W19 (Or.inr (slot_ne (Or.inr (hi 82 rfl)) (Or.inr (hi 78 rfl)) (by decide) (t := .boolean) (t' := (.object "java/lang/String")) (by decide) (by decide)))).other W20 (Or.inr (slot_ne (Or.inr (hi 82 rfl)) (Or.inr (hi 80 rfl)) (by decide) (t := .boolean) (t' := (.object "java/lang/String")) (by decide) (by decide))))
  obtain ⟨T21, h21, X21, e21, W21, st21⟩ := putFN X20 hx hZ17 hown17 (hi 81 rfl) Via.refl e20 f5 f4 (Or.inr ⟨(hi 82 rfl), rfl, hnm⟩) (hi 57 rfl) (ty := .boolean) (v' := (.int (nar .boolean p4))) (by decide) rfl (fits_nar_bool _) (g := (mkF m 54 #[vA a1, vA a2, vA a3, vI p4, vA a5, vA a6, vA a7] [(.int p4), (.ref a1)])) rfl rfl (hb hby d13_54)
  have Fw21 := f5.same W21
  have N21 := Fr.snoc X21 N20 g_a1
  have f6 := (f4.wr W21)
  have f7 := ((((((((F_defaultValue_a1.ext E9).ext E11).ext E13).ext E15).ext E17).other W19 (Or.inr (slot_ne (Or.inr (hi 84 rfl)) (Or.inr (hi 78 rfl)) (by decide) (t := (.object "java/util/Optional")) (t' := (.object "java/lang/String")) (by decide) (by decide)))).other W20 (Or.inr (slot_ne (Or.inr (hi 84 rfl)) (Or.inr (hi 80 rfl)) (by decide) (t := (.object "java/util/Optional")) (t' := (.object "java/lang/String")) (by decide) (by decide)))).other W21 (Or.inr (slot_ne (Or.inr (hi 84 rfl)) (Or.inr (hi 82 rfl)) (by decide) (t := (.object "java/util/Optional")) (t' := .boolean) (by decide) (by decide))))
  obtain ⟨T22, h22, X22, e22, W22, st22⟩ := putF X21 hx hZ17 hown17 (host := "") (Or.inl (hi 83 rfl)) Via.refl e21 f7 f6 (Or.inr ⟨(hi 84 rfl), rfl, hnm⟩) (hi 57 rfl) (ty := (.object "java/util/Optional")) (by decide) rfl rfl (g := (mkF m 60 #[vA a1, vA a2, vA a3, vI p4, vA a5, vA a6, vA a7] [(.ref a5), (.ref a1)])) rfl rfl (hb hby d13_60)
  have Fw22 := f7.same W22
  have N22 := Fr.snoc X22 N21 g_a1
  have f8 := (f6.wr W22)
  have f9 := (((((((((F_identity_a1.ext E9).ext E11).ext E13).ext E15).ext E17).other W19 (Or.inr (slot_ne (Or.inr (hi 86 rfl)) (Or.inr (hi 78 rfl)) (by decide) (t := (.object "java/util/Optional")) (t' := (.object "java/lang/String")) (by decide) (by decide)))).other W20 (Or.inr (slot_ne (Or.inr (hi 86 rfl)) (Or.inr (hi 80 rfl)) (by decide) (t := (.object "java/util/Optional")) (t' := (.object "java/lang/String")) (by decide) (by decide)))).other W21 (Or.inr (slot_ne (Or.inr (hi 86 rfl)) (Or.inr (hi 82 rfl)) (by decide) (t := (.object "java/util/Optional")) (t' := .boolean) (by decide) (by decide)))).other W22 (Or.inr (slot_ne (Or.inr (hi 86 rfl)) (Or.inr (hi 84 rfl)) (by decide) (t := (.object "java/util/Optional")) (t' := (.object "java/util/Optional")) (by decide) (by decide))))
  obtain ⟨T23, h23, X23, e23, W23, st23⟩ := putF X22 hx hZ17 hown17 (host := "") (Or.inl (hi 85 rfl)) Via.refl e22 f9 f8 (Or.inr ⟨(hi 86 rfl), rfl, hnm⟩) (hi 57 rfl) (ty := (.object "java/util/Optional")) (by decide) rfl rfl (g := (mkF m 66 #[vA a1, vA a2, vA a3, vI p4, vA a5, vA a6, vA a7] [(.ref a6), (.ref a1)])) rfl rfl (hb hby d13_66)
  have Fw23 := f9.same W23
  have N23 := Fr.snoc X23 N22 g_a1
  have f10 := (f8.wr W23)
  have f11 := ((((((((((F_generated_a1.ext E9).ext E11).ext E13).ext E15).ext E17).other W19 (Or.inr (slot_ne (Or.inr (hi 88 rfl)) (Or.inr (hi 78 rfl)) (by decide) (t := (.object "java/util/Optional")) (t' := (.object "java/lang/String")) (by decide) (by decide)))).other W20 (Or.inr (slot_ne (Or.inr (hi 88 rfl)) (Or.inr (hi 80 rfl)) (by decide) (t := (.object "java/util/Optional")) (t' := (.object "java/lang/String")) (by decide) (by decide)))).other W21 (Or.inr (slot_ne (Or.inr (hi 88 rfl)) (Or.inr (hi 82 rfl)) (by decide) (t := (.object "java/util/Optional")) (t' := .boolean) (by decide) (by decide)))).other W22 (Or.inr (slot_ne (Or.inr (hi 88 rfl)) (Or.inr (hi 84 rfl)) (by decide) (t := (.object "java/util/Optional")) (t' := (.object "java/util/Optional")) (by decide) (by decide)))).other W23 (Or.inr (slot_ne (Or.inr (hi 88 rfl)) (Or.inr (hi 86 rfl)) (by decide) (t := (.object "java/util/Optional")) (t' := (.object "java/util/Optional")) (by decide) (by decide))))
  obtain ⟨T24, h24, X24, e24, W24, st24⟩ := putF X23 hx hZ17 hown17 (host := "") (Or.inl (hi 87 rfl)) Via.refl e23 f11 f10 (Or.inr ⟨(hi 88 rfl), rfl, hnm⟩) (hi 57 rfl) (ty := (.object "java/util/Optional")) (by decide) rfl rfl (g := (mkF m 72 #[vA a1, vA a2, vA a3, vI p4, vA a5, vA a6, vA a7] [(.ref a7), (.ref a1)])) rfl rfl (hb hby d13_72)
  have Fw24 := f11.same W24
  have N24 := Fr.snoc X24 N23 g_a1
  have f12 := (f10.wr W24)
  have f13 := (((((Fw19.other W20 (Or.inr (slot_ne (Or.inr (hi 78 rfl)) (Or.inr (hi 80 rfl)) (by decide) (t := (.object "java/lang/String")) (t' := (.object "java/lang/String")) (by decide) (by decide)))).other W21 (Or.inr (slot_ne (Or.inr (hi 78 rfl)) (Or.inr (hi 82 rfl)) (by decide) (t := (.object "java/lang/String")) (t' := .boolean) (by decide) (by decide)))).other W22 (Or.inr (slot_ne (Or.inr (hi 78 rfl)) (Or.inr (hi 84 rfl)) (by decide) (t := (.object "java/lang/String")) (t' := (.object "java/util/Optional")) (by decide) (by decide)))).other W23 (Or.inr (slot_ne (Or.inr (hi 78 rfl)) (Or.inr (hi 86 rfl)) (by decide) (t := (.object "java/lang/String")) (t' := (.object "java/util/Optional")) (by decide) (by decide)))).other W24 (Or.inr (slot_ne (Or.inr (hi 78 rfl)) (Or.inr (hi 88 rfl)) (by decide) (t := (.object "java/lang/String")) (t' := (.object "java/util/Optional")) (by decide) (by decide))))
  have f14 := ((((Fw20.other W21 (Or.inr (slot_ne (Or.inr (hi 80 rfl)) (Or.inr (hi 82 rfl)) (by decide) (t := (.object "java/lang/String")) (t' := .boolean) (by decide) (by decide)))).other W22 (Or.inr (slot_ne (Or.inr (hi 80 rfl)) (Or.inr (hi 84 rfl)) (by decide) (t := (.object "java/lang/String")) (t' := (.object "java/util/Optional")) (by decide) (by decide)))).other W23 (Or.inr (slot_ne (Or.inr (hi 80 rfl)) (Or.inr (hi 86 rfl)) (by decide) (t := (.object "java/lang/String")) (t' := (.object "java/util/Optional")) (by decide) (by decide)))).other W24 (Or.inr (slot_ne (Or.inr (hi 80 rfl)) (Or.inr (hi 88 rfl)) (by decide) (t := (.object "java/lang/String")) (t' := (.object "java/util/Optional")) (by decide) (by decide))))
  have f15 := (((Fw21.other W22 (Or.inr (slot_ne (Or.inr (hi 82 rfl)) (Or.inr (hi 84 rfl)) (by decide) (t := .boolean) (t' := (.object "java/util/Optional")) (by decide) (by decide)))).other W23 (Or.inr (slot_ne (Or.inr (hi 82 rfl)) (Or.inr (hi 86 rfl)) (by decide) (t := .boolean) (t' := (.object "java/util/Optional")) (by decide) (by decide)))).other W24 (Or.inr (slot_ne (Or.inr (hi 82 rfl)) (Or.inr (hi 88 rfl)) (by decide) (t := .boolean) (t' := (.object "java/util/Optional")) (by decide) (by decide))))
  have f16 := ((Fw22.other W23 (Or.inr (slot_ne (Or.inr (hi 84 rfl)) (Or.inr (hi 86 rfl)) (by decide) (t := (.object "java/util/Optional")) (t' := (.object "java/util/Optional")) (by decide) (by decide)))).other W24 (Or.inr (slot_ne (Or.inr (hi 84 rfl)) (Or.inr (hi 88 rfl)) (by decide) (t := (.object "java/util/Optional")) (t' := (.object "java/util/Optional")) (by decide) (by decide))))
  have f17 := (Fw23.other W24 (Or.inr (slot_ne (Or.inr (hi 86 rfl)) (Or.inr (hi 88 rfl)) (by decide) (t := (.object "java/util/Optional")) (t' := (.object "java/util/Optional")) (by decide) (by decide))))
  obtain ⟨fs, hr, hrun, hended, hw1, hw2, hw3, hw4⟩ := X24.leaveW hS17 (show _ ≤ T24.heap.size from by rw [e24]; exact (Nat.le_trans (Nat.le_trans (Nat.le_trans (Nat.le_trans (Nat.le_trans (Nat.le_trans hk17 (Keep.of_wr W19).1) (Keep.of_wr W20).1) (Keep.of_wr W21).1) (Keep.of_wr W22).1) (Keep.of_wr W23).1) (Keep.of_wr W24).1)) (v := none) (fun _ => rfl)
  refine ⟨_, _, pre0 _ ?_, hrun, hended, _, _, rfl, ?_, hw1, hw2, hw3, hw4.mono (by decide) (by decide)⟩
  · show Steps p.tables e below (s₁.setTop (mkF m 0 #[vA a1, vA a2, vA a3, vI p4, vA a5, vA a6, vA a7] [])) _
    refine XS.aloadN X0.here hx rfl (hb hby d13_0) rfl rfl ?_
    show Steps p.tables e below (s₁.setTop (mkF m 1 #[vA a1, vA a2, vA a3, vI p4, vA a5, vA a6, vA a7] [(.ref a1)])) _
    refine st8.trans ?_
    refine XS.aloadN X8.here hx rfl (hb hby d13_4) rfl rfl ?_
    show Steps p.tables e below (T8.setTop (mkF m 5 #[vA a1, vA a2, vA a3, vI p4, vA a5, vA a6, vA a7] [(.ref a2)])) _
    refine st9 _ ?_
    show Steps p.tables e below (T9.setTop (mkF m 7 #[vA a1, vA a2, vA a3, vI p4, vA a5, vA a6, vA a7] [(.ref c9), (.ref a2)])) _
    refine st10 _ ?_
    refine XS.pop X10.here hx rfl (hb hby d13_10) rfl rfl ?_
    refine XS.aloadN X10.here hx rfl (hb hby d13_11) rfl rfl ?_
    show Steps p.tables e below (T10.setTop (mkF m 12 #[vA a1, vA a2, vA a3, vI p4, vA a5, vA a6, vA a7] [(.ref a3)])) _
    refine st11 _ ?_
    show Steps p.tables e below (T11.setTop (mkF m 14 #[vA a1, vA a2, vA a3, vI p4, vA a5, vA a6, vA a7] [(.ref c11), (.ref a3)])) _
    refine st12 _ ?_
    refine XS.pop X12.here hx rfl (hb hby d13_17) rfl rfl ?_
    refine XS.aload X12.here hx rfl (hb hby d13_18) rfl rfl ?_
    show Steps p.tables e below (T12.setTop (mkF m 20 #[vA a1, vA a2, vA a3, vI p4, vA a5, vA a6, vA a7] [(.ref a5)])) _
    refine st13 _ ?_
    show Steps p.tables e below (T13.setTop (mkF m 22 #[vA a1, vA a2, vA a3, vI p4, vA a5, vA a6, vA a7] [(.ref c13), (.ref a5)])) _
    refine st14 _ ?_
    refine XS.pop X14.here hx rfl (hb hby d13_25) rfl rfl ?_
    refine XS.aload X14.here hx rfl (hb hby d13_26) rfl rfl ?_
    show Steps p.tables e below (T14.setTop (mkF m 28 #[vA a1, vA a2, vA a3, vI p4, vA a5, vA a6, vA a7] [(.ref a6)])) _
    refine st15 _ ?_
    show Steps p.tables e below (T15.setTop (mkF m 30 #[vA a1, vA a2, vA a3, vI p4, vA a5, vA a6, vA a7] [(.ref c15), (.ref a6)])) _
    refine st16 _ ?_
    refine XS.pop X16.here hx rfl (hb hby d13_33) rfl rfl ?_
    refine XS.aload X16.here hx rfl (hb hby d13_34) rfl rfl ?_
    show Steps p.tables e below (T16.setTop (mkF m 36 #[vA a1, vA a2, vA a3, vI p4, vA a5, vA a6, vA a7] [(.ref a7)])) _
    refine st17 _ ?_
    show Steps p.tables e below (T17.setTop (mkF m 38 #[vA a1, vA a2, vA a3, vI p4, vA a5, vA a6, vA a7] [(.ref c17), (.ref a7)])) _
    refine st18 _ ?_
    refine XS.pop X18.here hx rfl (hb hby d13_41) rfl rfl ?_
    refine XS.aloadN X18.here hx rfl (hb hby d13_42) rfl rfl ?_
    refine XS.aloadN X18.here hx rfl (hb hby d13_43) rfl rfl ?_
    show Steps p.tables e below (T18.setTop (mkF m 44 #[vA a1, vA a2, vA a3, vI p4, vA a5, vA a6, vA a7] [(.ref a2), (.ref a1)])) _
    refine st19 _ ?_
    refine XS.aloadN X19.here hx rfl (hb hby d13_47) rfl rfl ?_
    refine XS.aloadN X19.here hx rfl (hb hby d13_48) rfl rfl ?_
    show Steps p.tables e below (T19.setTop (mkF m 49 #[vA a1, vA a2, vA a3, vI p4, vA a5, vA a6, vA a7] [(.ref a3), (.ref a1)])) _
    refine st20 _ ?_
    refine XS.aloadN X20.here hx rfl (hb hby d13_52) rfl rfl ?_
    refine XS.iloadN X20.here hx rfl (hb hby d13_53) rfl ?_
    show Steps p.tables e below (T20.setTop (mkF m 54 #[vA a1, vA a2, vA a3, vI p4, vA a5, vA a6, vA a7] [(.int p4), (.ref a1)])) _
    refine st21 _ ?_
    refine XS.aloadN X21.here hx rfl (hb hby d13_57) rfl rfl ?_
    refine XS.aload X21.here hx rfl (hb hby d13_58) rfl rfl ?_
    show Steps p.tables e below (T21.setTop (mkF m 60 #[vA a1, vA a2, vA a3, vI p4, vA a5, vA a6, vA a7] [(.ref a5), (.ref a1)])) _
    refine st22 _ ?_
    refine XS.aloadN X22.here hx rfl (hb hby d13_63) rfl rfl ?_
    refine XS.aload X22.here hx rfl (hb hby d13_64) rfl rfl ?_
    show Steps p.tables e below (T22.setTop (mkF m 66 #[vA a1, vA a2, vA a3, vI p4, vA a5, vA a6, vA a7] [(.ref a6), (.ref a1)])) _
    refine st23 _ ?_
    refine XS.aloadN X23.here hx rfl (hb hby d13_69) rfl rfl ?_
    refine XS.aload X23.here hx rfl (hb hby d13_70) rfl rfl ?_
    show Steps p.tables e below (T23.setTop (mkF m 72 #[vA a1, vA a2, vA a3, vI p4, vA a5, vA a6, vA a7] [(.ref a7), (.ref a1)])) _
    refine st24 _ ?_
    show Steps p.tables e below (T24.setTop (mkF m 75 #[vA a1, vA a2, vA a3, vI p4, vA a5, vA a6, vA a7] [])) _
    exact X24.returnOut hx Bd.returns (hb hby d13_75) hr
  · show Q_rm13 Z a1 a2 a3 p4 a5 a6 a7 w_name_a1 w_type_a1 w_nullable_a1 w_defaultValue_a1 w_identity_a1 w_generated_a1 h0 n0 _ T24.heap _
    rw [e24]
    exact ⟨rfl, N24, ((((((((((((Keep.refl h0 [a1]).ext E9).ext E11).ext E13).ext E15).ext E17).wr W19 (Or.inl (List.mem_of_getElem? (i := 0) rfl))).wr W20 (Or.inl (List.mem_of_getElem? (i := 0) rfl))).wr W21 (Or.inl (List.mem_of_getElem? (i := 0) rfl))).wr W22 (Or.inl (List.mem_of_getElem? (i := 0) rfl))).wr W23 (Or.inl (List.mem_of_getElem? (i := 0) rfl))).wr W24 (Or.inl (List.mem_of_getElem? (i := 0) rfl))), f12, f13, f14, f15, f16, f17, Fw24⟩
theorem d17_0 : decode jdk_32_method_7_code 0 = .ok (.aload_n 0, 1) := by decide +kernel
theorem d17_1 : decode jdk_32_method_7_code 1 = .ok (.getfield 13, 3) := by decide +kernel
theorem d17_4 : decode jdk_32_method_7_code 4 = .ok (.ifnonnull 7, 3) := by decide +kernel
theorem d17_7 : decode jdk_32_method_7_code 7 = .ok (.iconst 1, 1) := by decide +kernel
theorem d17_8 : decode jdk_32_method_7_code 8 = .ok (.goto 4, 3) := by decide +kernel
theorem d17_12 : decode jdk_32_method_7_code 12 = .ok (.ireturn, 1) := by decide +kernel
theorem pn_17 : plainName "java/util/Optional" = true := by first | (simp [plainName, overriddenIn]; done) | decide +kernel
theorem ef_17 (m : MethodId) (x0 : Addr) : entryFrame m #[(.ref x0)] 1 = mkF m 0 #[.val (.ref x0)] [] := by first | (simp [entryFrame, mkF, argsToLocals, Value.category]; done) | rfl
def Q_rm17n (Z : State) (a1 : Addr) (h0 : Heap) (n0 : Nat) (v : Option Value) (h : Heap) (L : List Loc) : Prop := v = some (.int (1 : Int32)) ∧ Fr n0 L ∧ h = h0
set_option maxRecDepth 65536 in
set_option maxHeartbeats 40000000 in
theorem rm17n (l : Launch) (Z : State) (a0 : Array Value) (hw : ∀ d ∈ tables_1, d.before a0 Z = true) (ws : List Jvm.Cond) (a1 : Addr) (h0 : Heap) (n0 : Nat) (Z0 : n0 ≤ h0.size) (F_value_a1 : Fld Z h0 a1 "java/util/Optional" "value" "Ljava/lang/Object;" .null) :
    MetFree l (⟨"java/util/Optional", "isEmpty", "()Z"⟩ : MethodName) (head1 (Jvm.Cond.code (⟨"java/util/Optional", "isEmpty", "()Z"⟩ : MethodName) jdk_32_method_7_code 1 (some .boolean) :: ws) ({ frames := 0, cells := 0, slots := 0, locals := 0 } : Room)) (fun a U => a = #[(.ref a1)] ∧ Z.Warmed39 U.vm ∧ U.heap = h0) (fun _ _ _ _ _ => True) (fun _ U o U' => ∃ v L, o = .returned v ∧ Q_rm17n Z a1 h0 n0 v U'.heap L ∧ FrameEnd U o U' L ({ frames := 0, cells := 0, slots := 0, locals := 0 } : Room).cells ({ frames := 0, cells := 0, slots := 0, locals := 0 } : Room).slots) := by
  have hi : ∀ (i : Nat) {d : Jvm.Cond}, tables_1[i]? = some d → d.before a0 Z = true := fun i d h => hw d (List.mem_of_getElem? h)
  refine MetFree.of_bodySF (plainFor_of_name pn_17) hisR ?_
  intro p e s m args below meth c s₁ Bd hml0 hP hK
  obtain ⟨rfl, hZ, hh⟩ := hP
  have hx := Bd.exec
  have hby := Bd.bytes
  have hml : c.maxLocals = 1 := hml0
  have hown : s.vm.findClass "java/util/Optional" = some m.cls := findClass_of_methodNamed Bd.named
  have hnm := (name_of_methodNamed Bd.named Bd.method).1
  have X0 : Stand p l e ({ frames := 0, cells := 0, slots := 0, locals := 0 } : Room) s m #[(.ref a1)] below meth c s₁ [] 0 0 := Stand.of_body Bd
  have e0 : s₁.heap = h0 := by rw [← hh, Bd.state]; rfl
  have N0 := Fr.nil n0
  have pre0 : ∀ t, Steps p.tables e below (s₁.setTop (mkF m 0 #[vA a1] [])) t → Steps p.tables e below (s₁.setTop (entryFrame m #[(.ref a1)] 1)) t := fun t k => castTop (ef_17 m a1) k
  obtain ⟨T2, X2, e2, st2⟩ := getF X0 hx hZ hown (host := "") (Or.inl (hi 99 rfl)) Via.refl e0 F_value_a1 (g := (mkF m 1 #[vA a1] [(.ref a1)])) rfl rfl (hb hby d17_1)
  obtain ⟨fs, hr, hrun, hended, hW, hsame⟩ := X2.leave (v := some (.int (1 : Int32))) (fun h => by rw [Bd.returns] at h; cases h)
  refine ⟨_, _, pre0 _ ?_, hrun, hended, _, _, rfl, ?_, ⟨_, rfl⟩, hW, hsame.mono (by decide) (by decide)⟩
  · show Steps p.tables e below (s₁.setTop (mkF m 0 #[vA a1] [])) _
    refine XS.aloadN X0.here hx rfl (hb hby d17_0) rfl rfl ?_
    show Steps p.tables e below (s₁.setTop (mkF m 1 #[vA a1] [(.ref a1)])) _
    refine st2 _ ?_
    show Steps p.tables e below (T2.setTop (mkF m 4 #[vA a1] [.null])) _
    refine XS.ifnonnullNo X2.here hx rfl (hb hby d17_4) rfl ?_
    refine XS.iconst X2.here hx rfl (hb hby d17_7) ?_
    show Steps p.tables e below (T2.setTop (mkF m 8 #[vA a1] [(.int (1 : Int32))])) _
    refine XS.goto X2.here hx rfl (pc0 := 8) (pc' := 12) rfl (hb hby d17_8) (by decide) (by decide) ?_
    show Steps p.tables e below (T2.setTop (mkF m 12 #[vA a1] [(.int (1 : Int32))])) _
    exact retN X2 hx (t := .boolean) Bd.returns (by simp) (hb hby d17_12) hr
  · show Q_rm17n Z a1 h0 n0 _ T2.heap _
    exact ⟨rfl, N0, e2⟩
theorem d17_11 : decode jdk_32_method_7_code 11 = .ok (.iconst 0, 1) := by decide +kernel
def Q_rm17v (Z : State) (a1 : Addr) (w_value_a1 : Addr) (h0 : Heap) (n0 : Nat) (v : Option Value) (h : Heap) (L : List Loc) : Prop := v = some (.int (0 : Int32)) ∧ Fr n0 L ∧ h = h0
set_option maxRecDepth 65536 in
set_option maxHeartbeats 40000000 in
theorem rm17v (l : Launch) (Z : State) (a0 : Array Value) (hw : ∀ d ∈ tables_1, d.before a0 Z = true) (ws : List Jvm.Cond) (a1 : Addr) (w_value_a1 : Addr) (h0 : Heap) (n0 : Nat) (Z0 : n0 ≤ h0.size) (F_value_a1 : Fld Z h0 a1 "java/util/Optional" "value" "Ljava/lang/Object;" (.ref w_value_a1)) :
    MetFree l (⟨"java/util/Optional", "isEmpty", "()Z"⟩ : MethodName) (head1 (Jvm.Cond.code (⟨"java/util/Optional", "isEmpty", "()Z"⟩ : MethodName) jdk_32_method_7_code 1 (some .boolean) :: ws) ({ frames := 0, cells := 0, slots := 0, locals := 0 } : Room)) (fun a U => a = #[(.ref a1)] ∧ Z.Warmed39 U.vm ∧ U.heap = h0) (fun _ _ _ _ _ => True) (fun _ U o U' => ∃ v L, o = .returned v ∧ Q_rm17v Z a1 w_value_a1 h0 n0 v U'.heap L ∧ FrameEnd U o U' L ({ frames := 0, cells := 0, slots := 0, locals := 0 } : Room).cells ({ frames := 0, cells := 0, slots := 0, locals := 0 } : Room).slots) := by
  have hi : ∀ (i : Nat) {d : Jvm.Cond}, tables_1[i]? = some d → d.before a0 Z = true := fun i d h => hw d (List.mem_of_getElem? h)
  refine MetFree.of_bodySF (plainFor_of_name pn_17) hisR ?_
  intro p e s m args below meth c s₁ Bd hml0 hP hK
  obtain ⟨rfl, hZ, hh⟩ := hP
  have hx := Bd.exec
  have hby := Bd.bytes
  have hml : c.maxLocals = 1 := hml0
  have hown : s.vm.findClass "java/util/Optional" = some m.cls := findClass_of_methodNamed Bd.named
  have hnm := (name_of_methodNamed Bd.named Bd.method).1
  have X0 : Stand p l e ({ frames := 0, cells := 0, slots := 0, locals := 0 } : Room) s m #[(.ref a1)] below meth c s₁ [] 0 0 := Stand.of_body Bd
  have e0 : s₁.heap = h0 := by rw [← hh, Bd.state]; rfl
  have N0 := Fr.nil n0
  have pre0 : ∀ t, Steps p.tables e below (s₁.setTop (mkF m 0 #[vA a1] [])) t → Steps p.tables e below (s₁.setTop (entryFrame m #[(.ref a1)] 1)) t := fun t k => castTop (ef_17 m a1) k
  obtain ⟨T2, X2, e2, st2⟩ := getF X0 hx hZ hown (host := "") (Or.inl (hi 99 rfl)) Via.refl e0 F_value_a1 (g := (mkF m 1 #[vA a1] [(.ref a1)])) rfl rfl (hb hby d17_1)
  obtain ⟨fs, hr, hrun, hended, hW, hsame⟩ := X2.leave (v := some (.int (0 : Int32))) (fun h => by rw [Bd.returns] at h; cases h)
  refine ⟨_, _, pre0 _ ?_, hrun, hended, _, _, rfl, ?_, ⟨_, rfl⟩, hW, hsame.mono (by decide) (by decide)⟩
  · show Steps p.tables e below (s₁.setTop (mkF m 0 #[vA a1] [])) _
    refine XS.aloadN X0.here hx rfl (hb hby d17_0) rfl rfl ?_
    show Steps p.tables e below (s₁.setTop (mkF m 1 #[vA a1] [(.ref a1)])) _
    refine st2 _ ?_
    show Steps p.tables e below (T2.setTop (mkF m 4 #[vA a1] [(.ref w_value_a1)])) _
    refine XS.ifnonnullYes X2.here hx rfl (pc0 := 4) (pc' := 11) rfl (hb hby d17_4) rfl (by decide) (by decide) ?_
    refine XS.iconst X2.here hx rfl (hb hby d17_11) ?_
    show Steps p.tables e below (T2.setTop (mkF m 12 #[vA a1] [(.int (0 : Int32))])) _
    exact retN X2 hx (t := .boolean) Bd.returns (by simp) (hb hby d17_12) hr
  · show Q_rm17v Z a1 w_value_a1 h0 n0 _ T2.heap _
    exact ⟨rfl, N0, e2⟩
theorem pd__28_29Z : parseMethodDescriptor "()Z" = some ⟨[], some .boolean⟩ := by decide +kernel
def F16nnn (w_nullable_a1 : Int32) : Int32 := (if w_nullable_a1 = (0 : Int32) then (1 : Int32) else (0 : Int32))
theorem d16_0 : decode prog_17_method_10_code 0 = .ok (.aload_n 0, 1) := by decide +kernel
theorem d16_1 : decode prog_17_method_10_code 1 = .ok (.getfield 30, 3) := by decide +kernel
theorem d16_4 : decode prog_17_method_10_code 4 = .ok (.ifCond .ne 37, 3) := by decide +kernel
theorem d16_7 : decode prog_17_method_10_code 7 = .ok (.aload_n 0, 1) := by decide +kernel
theorem d16_8 : decode prog_17_method_10_code 8 = .ok (.getfield 34, 3) := by decide +kernel
theorem d16_11 : decode prog_17_method_10_code 11 = .ok (.invokevirtual 127, 3) := by decide +kernel
theorem d16_14 : decode prog_17_method_10_code 14 = .ok (.ifCond .eq 27, 3) := by decide +kernel
theorem d16_17 : decode prog_17_method_10_code 17 = .ok (.aload_n 0, 1) := by decide +kernel
theorem d16_18 : decode prog_17_method_10_code 18 = .ok (.getfield 37, 3) := by decide +kernel
theorem d16_21 : decode prog_17_method_10_code 21 = .ok (.invokevirtual 127, 3) := by decide +kernel
theorem d16_24 : decode prog_17_method_10_code 24 = .ok (.ifCond .eq 17, 3) := by decide +kernel
theorem d16_27 : decode prog_17_method_10_code 27 = .ok (.aload_n 0, 1) := by decide +kernel
theorem d16_28 : decode prog_17_method_10_code 28 = .ok (.getfield 39, 3) := by decide +kernel
theorem d16_31 : decode prog_17_method_10_code 31 = .ok (.invokevirtual 127, 3) := by decide +kernel
theorem d16_34 : decode prog_17_method_10_code 34 = .ok (.ifCond .eq 7, 3) := by decide +kernel
theorem d16_37 : decode prog_17_method_10_code 37 = .ok (.iconst 1, 1) := by decide +kernel
theorem d16_38 : decode prog_17_method_10_code 38 = .ok (.goto 4, 3) := by decide +kernel
theorem d16_42 : decode prog_17_method_10_code 42 = .ok (.ireturn, 1) := by decide +kernel
theorem pn_16 : plainName "underdeck/deck/Column" = true := by first | (simp [plainName, overriddenIn]; done) | decide +kernel
theorem ef_16 (m : MethodId) (x0 : Addr) : entryFrame m #[(.ref x0)] 1 = mkF m 0 #[.val (.ref x0)] [] := by first | (simp [entryFrame, mkF, argsToLocals, Value.category]; done) | rfl
theorem d16_41 : decode prog_17_method_10_code 41 = .ok (.iconst 0, 1) := by decide +kernel
def Q_rm16nnn (Z : State) (a1 : Addr) (w_nullable_a1 : Int32) (w_defaultValue_a1 : Addr) (w_identity_a1 : Addr) (w_generated_a1 : Addr) (h0 : Heap) (n0 : Nat) (v : Option Value) (h : Heap) (L : List Loc) : Prop := v = some (.int (F16nnn w_nullable_a1)) ∧ Fr n0 L ∧ h = h0
set_option maxRecDepth 65536 in
set_option maxHeartbeats 40000000 in
theorem rm16nnn_f (l : Launch) (Z : State) (a0 : Array Value) (hw : ∀ d ∈ tables_1, d.before a0 Z = true) (ws : List Jvm.Cond) (a1 : Addr) (w_nullable_a1 : Int32) (w_defaultValue_a1 : Addr) (w_identity_a1 : Addr) (w_generated_a1 : Addr) (h0 : Heap) (n0 : Nat) (Z0 : n0 ≤ h0.size) (F_nullable_a1 : Fld Z h0 a1 "underdeck/deck/Column" "nullable" "Z" (.int w_nullable_a1)) (F_defaultValue_a1 : Fld Z h0 a1 "underdeck/deck/Column" "defaultValue" "Ljava/util/Optional;" (.ref w_defaultValue_a1)) (F_value_w_defaultValue_a1 : Fld Z h0 w_defaultValue_a1 "java/util/Optional" "value" "Ljava/lang/Object;" .null) (E_w_defaultValue_a1 : Exa Z h0 w_defaultValue_a1 "java/util/Optional") (F_identity_a1 : Fld Z h0 a1 "underdeck/deck/Column" "identity" "Ljava/util/Optional;" (.ref w_identity_a1)) (F_value_w_identity_a1 : Fld Z h0 w_identity_a1 "java/util/Optional" "value" "Ljava/lang/Object;" .null) (E_w_identity_a1 : Exa Z h0 w_identity_a1 "java/util/Optional") (F_generated_a1 : Fld Z h0 a1 "underdeck/deck/Column" "generated" "Ljava/util/Optional;" (.ref w_generated_a1)) (F_value_w_generated_a1 : Fld Z h0 w_generated_a1 "java/util/Optional" "value" "Ljava/lang/Object;" .null) (E_w_generated_a1 : Exa Z h0 w_generated_a1 "java/util/Optional") (hc4 : w_nullable_a1 = (0 : Int32)) :
    MetFree l (⟨"underdeck/deck/Column", "required", "()Z"⟩ : MethodName) (head1 (Jvm.Cond.code (⟨"underdeck/deck/Column", "required", "()Z"⟩ : MethodName) prog_17_method_10_code 1 (some .boolean) :: ws) ({ frames := 1, cells := 0, slots := 0, locals := 12 } : Room)) (fun a U => a = #[(.ref a1)] ∧ Z.Warmed39 U.vm ∧ U.heap = h0) (fun _ _ _ _ _ => True) (fun _ U o U' => ∃ v L, o = .returned v ∧ Q_rm16nnn Z a1 w_nullable_a1 w_defaultValue_a1 w_identity_a1 w_generated_a1 h0 n0 v U'.heap L ∧ FrameEnd U o U' L ({ frames := 1, cells := 0, slots := 0, locals := 12 } : Room).cells ({ frames := 1, cells := 0, slots := 0, locals := 12 } : Room).slots) := by
  have hi : ∀ (i : Nat) {d : Jvm.Cond}, tables_1[i]? = some d → d.before a0 Z = true := fun i d h => hw d (List.mem_of_getElem? h)
  refine MetFree.of_bodySF (plainFor_of_name pn_16) hisR ?_
  intro p e s m args below meth c s₁ Bd hml0 hP hK
  obtain ⟨rfl, hZ, hh⟩ := hP
  have hx := Bd.exec
  have hby := Bd.bytes
  have hml : c.maxLocals = 1 := hml0
  have hown : s.vm.findClass "underdeck/deck/Column" = some m.cls := findClass_of_methodNamed Bd.named
  have hnm := (name_of_methodNamed Bd.named Bd.method).1
  have X0 : Stand p l e ({ frames := 1, cells := 0, slots := 0, locals := 12 } : Room) s m #[(.ref a1)] below meth c s₁ [] 0 0 := Stand.of_body Bd
  have e0 : s₁.heap = h0 := by rw [← hh, Bd.state]; rfl
  have N0 := Fr.nil n0
  have pre0 : ∀ t, Steps p.tables e below (s₁.setTop (mkF m 0 #[vA a1] [])) t → Steps p.tables e below (s₁.setTop (entryFrame m #[(.ref a1)] 1)) t := fun t k => castTop (ef_16 m a1) k
  obtain ⟨T2, X2, e2, st2⟩ := getF X0 hx hZ hown (host := "") (Or.inl (hi 81 rfl)) Via.refl e0 F_nullable_a1 (g := (mkF m 1 #[vA a1] [(.ref a1)])) rfl rfl (hb hby d16_1)
  obtain ⟨T3, X3, e3, st3⟩ := getF X2 hx hZ hown (host := "") (Or.inl (hi 83 rfl)) Via.refl e2 F_defaultValue_a1 (g := (mkF m 8 #[vA a1] [(.ref a1)])) rfl rfl (hb hby d16_8)
  obtain ⟨cq4, kq4, q4a, q4b, q4c⟩ := isOf hZ e3 E_w_defaultValue_a1
  obtain ⟨_, _, ⟨T4, L4, k4, n4⟩, -, X4, ⟨Lc4, hQ4, l4, y4, z4⟩, st4⟩ := X3.virtualBack hx (y := (⟨"java/util/Optional", "isEmpty", "()Z"⟩ : MethodName)) (z := (⟨"java/util/Optional", "isEmpty", "()Z"⟩ : MethodName)) hown (mvT hZ (hi 94 rfl)) (mvT hZ (hi 95 rfl)) (notFace_of_selects (args := #[]) (mvT hZ (hi 97 rfl))) (mvT hZ (hi 97 rfl)) (mvT hZ (hi 96 rfl)) (by decide) (backOf (W := 0) (rm17n l Z a0 hw [] w_defaultValue_a1 h0 n0 Z0 F_value_w_defaultValue_a1) hZ (hi 98 rfl) (hi 53 rfl) (by decide) (by decide)) q4a q4c (g := (mkF m 11 #[vA a1] [(.ref w_defaultValue_a1)])) rfl (by rw [hml]; rfl) (Steps.refl _) (argsL := []) (rest := []) (lenOf pd__28_29Z rfl) rfl (by show 2 * 0 + _ ≤ _; exact Nat.le_of_eq rfl) (hb hby d16_11) (fun _ _ => ⟨rfl, e3, (by decide : 0 + 0 ≤ _), (by decide : 0 + 0 ≤ _)⟩)
  dsimp only [Pt.U, Pt.locs, Pt.cells, Pt.slots] at X4 l4 y4 z4 st4 hQ4
  subst l4 y4 z4
  obtain ⟨rfl, N4q, e4⟩ := hQ4
  have N4 := Fr.app N0 N4q
  obtain ⟨T5, X5, e5, st5⟩ := getF X4 hx hZ hown (host := "") (Or.inl (hi 85 rfl)) Via.refl e4 F_identity_a1 (g := (mkF m 18 #[vA a1] [(.ref a1)])) rfl rfl (hb hby d16_18)
  obtain ⟨cq6, kq6, q6a, q6b, q6c⟩ := isOf hZ e5 E_w_identity_a1
  obtain ⟨_, _, ⟨T6, L6, k6, n6⟩, -, X6, ⟨Lc6, hQ6, l6, y6, z6⟩, st6⟩ := X5.virtualBack hx (y := (⟨"java/util/Optional", "isEmpty", "()Z"⟩ : MethodName)) (z := (⟨"java/util/Optional", "isEmpty", "()Z"⟩ : MethodName)) hown (mvT hZ (hi 94 rfl)) (mvT hZ (hi 95 rfl)) (notFace_of_selects (args := #[]) (mvT hZ (hi 97 rfl))) (mvT hZ (hi 97 rfl)) (mvT hZ (hi 96 rfl)) (by decide) (backOf (W := 0) (rm17n l Z a0 hw [] w_identity_a1 h0 n0 Z0 F_value_w_identity_a1) hZ (hi 98 rfl) (hi 53 rfl) (by decide) (by decide)) q6a q6c (g := (mkF m 21 #[vA a1] [(.ref w_identity_a1)])) rfl (by rw [hml]; rfl) (Steps.refl _) (argsL := []) (rest := []) (lenOf pd__28_29Z rfl) rfl (by show 2 * 0 + _ ≤ _; exact Nat.le_of_eq rfl) (hb hby d16_21) (fun _ _ => ⟨rfl, e5, (by decide : 0 + 0 ≤ _), (by decide : 0 + 0 ≤ _)⟩)
  dsimp only [Pt.U, Pt.locs, Pt.cells, Pt.slots] at X6 l6 y6 z6 st6 hQ6
  subst l6 y6 z6
  obtain ⟨rfl, N6q, e6⟩ := hQ6
  have N6 := Fr.app N4 N6q
  obtain ⟨T7, X7, e7, st7⟩ := getF X6 hx hZ hown (host := "") (Or.inl (hi 87 rfl)) Via.refl e6 F_generated_a1 (g := (mkF m 28 #[vA a1] [(.ref a1)])) rfl rfl (hb hby d16_28)
  obtain ⟨cq8, kq8, q8a, q8b, q8c⟩ := isOf hZ e7 E_w_generated_a1
  obtain ⟨_, _, ⟨T8, L8, k8, n8⟩, -, X8, ⟨Lc8, hQ8, l8, y8, z8⟩, st8⟩ := X7.virtualBack hx (y := (⟨"java/util/Optional", "isEmpty", "()Z"⟩ : MethodName)) (z := (⟨"java/util/Optional", "isEmpty", "()Z"⟩ : MethodName)) hown (mvT hZ (hi 94 rfl)) (mvT hZ (hi 95 rfl)) (notFace_of_selects (args := #[]) (mvT hZ (hi 97 rfl))) (mvT hZ (hi 97 rfl)) (mvT hZ (hi 96 rfl)) (by decide) (backOf (W := 0) (rm17n l Z a0 hw [] w_generated_a1 h0 n0 Z0 F_value_w_generated_a1) hZ (hi 98 rfl) (hi 53 rfl) (by decide) (by decide)) q8a q8c (g := (mkF m 31 #[vA a1] [(.ref w_generated_a1)])) rfl (by rw [hml]; rfl) (Steps.refl _) (argsL := []) (rest := []) (lenOf pd__28_29Z rfl) rfl (by show 2 * 0 + _ ≤ _; exact Nat.le_of_eq rfl) (hb hby d16_31) (fun _ _ => ⟨rfl, e7, (by decide : 0 + 0 ≤ _), (by decide : 0 + 0 ≤ _)⟩)
  dsimp only [Pt.U, Pt.locs, Pt.cells, Pt.slots] at X8 l8 y8 z8 st8 hQ8
  subst l8 y8 z8
  obtain ⟨rfl, N8q, e8⟩ := hQ8
  have N8 := Fr.app N6 N8q
  obtain ⟨fs, hr, hrun, hended, hW, hsame⟩ := X8.leave (v := some (.int (1 : Int32))) (fun h => by rw [Bd.returns] at h; cases h)
  refine ⟨_, _, pre0 _ ?_, hrun, hended, _, _, rfl, ?_, ⟨_, rfl⟩, hW, hsame.mono (by decide) (by decide)⟩
  · show Steps p.tables e below (s₁.setTop (mkF m 0 #[vA a1] [])) _
    refine XS.aloadN X0.here hx rfl (hb hby d16_0) rfl rfl ?_
    show Steps p.tables e below (s₁.setTop (mkF m 1 #[vA a1] [(.ref a1)])) _
    refine st2 _ ?_
    show Steps p.tables e below (T2.setTop (mkF m 4 #[vA a1] [(.int w_nullable_a1)])) _
    refine XS.ifNo X2.here hx rfl (hb hby d16_4) rfl ((if0 _ _).trans (teq hc4).2) ?_
    refine XS.aloadN X2.here hx rfl (hb hby d16_7) rfl rfl ?_
    show Steps p.tables e below (T2.setTop (mkF m 8 #[vA a1] [(.ref a1)])) _
    refine st3 _ ?_
    show Steps p.tables e below (T3.setTop (mkF m 11 #[vA a1] [(.ref w_defaultValue_a1)])) _
    refine st4.trans ?_
    show Steps p.tables e below (T4.setTop (mkF m 14 #[vA a1] [(.int (1 : Int32))])) _
    refine XS.ifNo X4.here hx rfl (hb hby d16_14) rfl ((if0 _ _).trans (feq (by decide : ¬ ((1 : Int32) = (0 : Int32)))).1) ?_
    refine XS.aloadN X4.here hx rfl (hb hby d16_17) rfl rfl ?_
    show Steps p.tables e below (T4.setTop (mkF m 18 #[vA a1] [(.ref a1)])) _
    refine st5 _ ?_
    show Steps p.tables e below (T5.setTop (mkF m 21 #[vA a1] [(.ref w_identity_a1)])) _
    refine st6.trans ?_
    show Steps p.tables e below (T6.setTop (mkF m 24 #[vA a1] [(.int (1 : Int32))])) _
    refine XS.ifNo X6.here hx rfl (hb hby d16_24) rfl ((if0 _ _).trans (feq (by decide : ¬ ((1 : Int32) = (0 : Int32)))).1) ?_
    refine XS.aloadN X6.here hx rfl (hb hby d16_27) rfl rfl ?_
    show Steps p.tables e below (T6.setTop (mkF m 28 #[vA a1] [(.ref a1)])) _
    refine st7 _ ?_
    show Steps p.tables e below (T7.setTop (mkF m 31 #[vA a1] [(.ref w_generated_a1)])) _
    refine st8.trans ?_
    show Steps p.tables e below (T8.setTop (mkF m 34 #[vA a1] [(.int (1 : Int32))])) _
    refine XS.ifNo X8.here hx rfl (hb hby d16_34) rfl ((if0 _ _).trans (feq (by decide : ¬ ((1 : Int32) = (0 : Int32)))).1) ?_
    refine XS.iconst X8.here hx rfl (hb hby d16_37) ?_
    show Steps p.tables e below (T8.setTop (mkF m 38 #[vA a1] [(.int (1 : Int32))])) _
    refine XS.goto X8.here hx rfl (pc0 := 38) (pc' := 42) rfl (hb hby d16_38) (by decide) (by decide) ?_
    show Steps p.tables e below (T8.setTop (mkF m 42 #[vA a1] [(.int (1 : Int32))])) _
    exact retN X8 hx (t := .boolean) Bd.returns (by simp) (hb hby d16_42) hr
  · show Q_rm16nnn Z a1 w_nullable_a1 w_defaultValue_a1 w_identity_a1 w_generated_a1 h0 n0 _ T8.heap _
    exact ⟨by rw [F16nnn, if_pos hc4], N8, e8⟩
set_option maxRecDepth 65536 in
set_option maxHeartbeats 40000000 in
theorem rm16nnn_t (l : Launch) (Z : State) (a0 : Array Value) (hw : ∀ d ∈ tables_1, d.before a0 Z = true) (ws : List Jvm.Cond) (a1 : Addr) (w_nullable_a1 : Int32) (w_defaultValue_a1 : Addr) (w_identity_a1 : Addr) (w_generated_a1 : Addr) (h0 : Heap) (n0 : Nat) (Z0 : n0 ≤ h0.size) (F_nullable_a1 : Fld Z h0 a1 "underdeck/deck/Column" "nullable" "Z" (.int w_nullable_a1)) (F_defaultValue_a1 : Fld Z h0 a1 "underdeck/deck/Column" "defaultValue" "Ljava/util/Optional;" (.ref w_defaultValue_a1)) (F_value_w_defaultValue_a1 : Fld Z h0 w_defaultValue_a1 "java/util/Optional" "value" "Ljava/lang/Object;" .null) (E_w_defaultValue_a1 : Exa Z h0 w_defaultValue_a1 "java/util/Optional") (F_identity_a1 : Fld Z h0 a1 "underdeck/deck/Column" "identity" "Ljava/util/Optional;" (.ref w_identity_a1)) (F_value_w_identity_a1 : Fld Z h0 w_identity_a1 "java/util/Optional" "value" "Ljava/lang/Object;" .null) (E_w_identity_a1 : Exa Z h0 w_identity_a1 "java/util/Optional") (F_generated_a1 : Fld Z h0 a1 "underdeck/deck/Column" "generated" "Ljava/util/Optional;" (.ref w_generated_a1)) (F_value_w_generated_a1 : Fld Z h0 w_generated_a1 "java/util/Optional" "value" "Ljava/lang/Object;" .null) (E_w_generated_a1 : Exa Z h0 w_generated_a1 "java/util/Optional") (hc4 : ¬ (w_nullable_a1 = (0 : Int32))) :
    MetFree l (⟨"underdeck/deck/Column", "required", "()Z"⟩ : MethodName) (head1 (Jvm.Cond.code (⟨"underdeck/deck/Column", "required", "()Z"⟩ : MethodName) prog_17_method_10_code 1 (some .boolean) :: ws) ({ frames := 1, cells := 0, slots := 0, locals := 12 } : Room)) (fun a U => a = #[(.ref a1)] ∧ Z.Warmed39 U.vm ∧ U.heap = h0) (fun _ _ _ _ _ => True) (fun _ U o U' => ∃ v L, o = .returned v ∧ Q_rm16nnn Z a1 w_nullable_a1 w_defaultValue_a1 w_identity_a1 w_generated_a1 h0 n0 v U'.heap L ∧ FrameEnd U o U' L ({ frames := 1, cells := 0, slots := 0, locals := 12 } : Room).cells ({ frames := 1, cells := 0, slots := 0, locals := 12 } : Room).slots) := by
  have hi : ∀ (i : Nat) {d : Jvm.Cond}, tables_1[i]? = some d → d.before a0 Z = true := fun i d h => hw d (List.mem_of_getElem? h)
  refine MetFree.of_bodySF (plainFor_of_name pn_16) hisR ?_
  intro p e s m args below meth c s₁ Bd hml0 hP hK
  obtain ⟨rfl, hZ, hh⟩ := hP
  have hx := Bd.exec
  have hby := Bd.bytes
  have hml : c.maxLocals = 1 := hml0
  have hown : s.vm.findClass "underdeck/deck/Column" = some m.cls := findClass_of_methodNamed Bd.named
  have hnm := (name_of_methodNamed Bd.named Bd.method).1
  have X0 : Stand p l e ({ frames := 1, cells := 0, slots := 0, locals := 12 } : Room) s m #[(.ref a1)] below meth c s₁ [] 0 0 := Stand.of_body Bd
  have e0 : s₁.heap = h0 := by rw [← hh, Bd.state]; rfl
  have N0 := Fr.nil n0
  have pre0 : ∀ t, Steps p.tables e below (s₁.setTop (mkF m 0 #[vA a1] [])) t → Steps p.tables e below (s₁.setTop (entryFrame m #[(.ref a1)] 1)) t := fun t k => castTop (ef_16 m a1) k
  obtain ⟨T2, X2, e2, st2⟩ := getF X0 hx hZ hown (host := "") (Or.inl (hi 81 rfl)) Via.refl e0 F_nullable_a1 (g := (mkF m 1 #[vA a1] [(.ref a1)])) rfl rfl (hb hby d16_1)
  obtain ⟨fs, hr, hrun, hended, hW, hsame⟩ := X2.leave (v := some (.int (0 : Int32))) (fun h => by rw [Bd.returns] at h; cases h)
  refine ⟨_, _, pre0 _ ?_, hrun, hended, _, _, rfl, ?_, ⟨_, rfl⟩, hW, hsame.mono (by decide) (by decide)⟩
  · show Steps p.tables e below (s₁.setTop (mkF m 0 #[vA a1] [])) _
    refine XS.aloadN X0.here hx rfl (hb hby d16_0) rfl rfl ?_
    show Steps p.tables e below (s₁.setTop (mkF m 1 #[vA a1] [(.ref a1)])) _
    refine st2 _ ?_
    show Steps p.tables e below (T2.setTop (mkF m 4 #[vA a1] [(.int w_nullable_a1)])) _
    refine XS.ifYes X2.here hx rfl (pc0 := 4) (pc' := 41) rfl (hb hby d16_4) rfl ((if0 _ _).trans (feq hc4).2) (by decide) (by decide) ?_
    refine XS.iconst X2.here hx rfl (hb hby d16_41) ?_
    show Steps p.tables e below (T2.setTop (mkF m 42 #[vA a1] [(.int (0 : Int32))])) _
    exact retN X2 hx (t := .boolean) Bd.returns (by simp) (hb hby d16_42) hr
  · show Q_rm16nnn Z a1 w_nullable_a1 w_defaultValue_a1 w_identity_a1 w_generated_a1 h0 n0 _ T2.heap _
    exact ⟨by rw [F16nnn, if_neg hc4], N0, e2⟩
set_option maxHeartbeats 4000000 in
theorem rm16nnn (l : Launch) (Z : State) (a0 : Array Value) (hw : ∀ d ∈ tables_1, d.before a0 Z = true) (ws : List Jvm.Cond) (a1 : Addr) (w_nullable_a1 : Int32) (w_defaultValue_a1 : Addr) (w_identity_a1 : Addr) (w_generated_a1 : Addr) (h0 : Heap) (n0 : Nat) (Z0 : n0 ≤ h0.size) (F_nullable_a1 : Fld Z h0 a1 "underdeck/deck/Column" "nullable" "Z" (.int w_nullable_a1)) (F_defaultValue_a1 : Fld Z h0 a1 "underdeck/deck/Column" "defaultValue" "Ljava/util/Optional;" (.ref w_defaultValue_a1)) (F_value_w_defaultValue_a1 : Fld Z h0 w_defaultValue_a1 "java/util/Optional" "value" "Ljava/lang/Object;" .null) (E_w_defaultValue_a1 : Exa Z h0 w_defaultValue_a1 "java/util/Optional") (F_identity_a1 : Fld Z h0 a1 "underdeck/deck/Column" "identity" "Ljava/util/Optional;" (.ref w_identity_a1)) (F_value_w_identity_a1 : Fld Z h0 w_identity_a1 "java/util/Optional" "value" "Ljava/lang/Object;" .null) (E_w_identity_a1 : Exa Z h0 w_identity_a1 "java/util/Optional") (F_generated_a1 : Fld Z h0 a1 "underdeck/deck/Column" "generated" "Ljava/util/Optional;" (.ref w_generated_a1)) (F_value_w_generated_a1 : Fld Z h0 w_generated_a1 "java/util/Optional" "value" "Ljava/lang/Object;" .null) (E_w_generated_a1 : Exa Z h0 w_generated_a1 "java/util/Optional") :
    MetFree l (⟨"underdeck/deck/Column", "required", "()Z"⟩ : MethodName) (head1 (Jvm.Cond.code (⟨"underdeck/deck/Column", "required", "()Z"⟩ : MethodName) prog_17_method_10_code 1 (some .boolean) :: ws) ({ frames := 1, cells := 0, slots := 0, locals := 12 } : Room)) (fun a U => a = #[(.ref a1)] ∧ Z.Warmed39 U.vm ∧ U.heap = h0) (fun _ _ _ _ _ => True) (fun _ U o U' => ∃ v L, o = .returned v ∧ Q_rm16nnn Z a1 w_nullable_a1 w_defaultValue_a1 w_identity_a1 w_generated_a1 h0 n0 v U'.heap L ∧ FrameEnd U o U' L ({ frames := 1, cells := 0, slots := 0, locals := 12 } : Room).cells ({ frames := 1, cells := 0, slots := 0, locals := 12 } : Room).slots) := by
  by_cases hc4 : w_nullable_a1 = (0 : Int32)
  · skip
    exact rm16nnn_f l Z a0 hw ws a1 w_nullable_a1 w_defaultValue_a1 w_identity_a1 w_generated_a1 h0 n0 Z0 F_nullable_a1 F_defaultValue_a1 F_value_w_defaultValue_a1 E_w_defaultValue_a1 F_identity_a1 F_value_w_identity_a1 E_w_identity_a1 F_generated_a1 F_value_w_generated_a1 E_w_generated_a1 hc4
  · skip
    exact rm16nnn_t l Z a0 hw ws a1 w_nullable_a1 w_defaultValue_a1 w_identity_a1 w_generated_a1 h0 n0 Z0 F_nullable_a1 F_defaultValue_a1 F_value_w_defaultValue_a1 E_w_defaultValue_a1 F_identity_a1 F_value_w_identity_a1 E_w_identity_a1 F_generated_a1 F_value_w_generated_a1 E_w_generated_a1 hc4
def Q_rm16nnv (Z : State) (a1 : Addr) (w_nullable_a1 : Int32) (w_defaultValue_a1 : Addr) (w_identity_a1 : Addr) (w_generated_a1 : Addr) (w_value_w_generated_a1 : Addr) (h0 : Heap) (n0 : Nat) (v : Option Value) (h : Heap) (L : List Loc) : Prop := v = some (.int (0 : Int32)) ∧ Fr n0 L ∧ h = h0
set_option maxRecDepth 65536 in
set_option maxHeartbeats 40000000 in
theorem rm16nnv_f (l : Launch) (Z : State) (a0 : Array Value) (hw : ∀ d ∈ tables_1, d.before a0 Z = true) (ws : List Jvm.Cond) (a1 : Addr) (w_nullable_a1 : Int32) (w_defaultValue_a1 : Addr) (w_identity_a1 : Addr) (w_generated_a1 : Addr) (w_value_w_generated_a1 : Addr) (h0 : Heap) (n0 : Nat) (Z0 : n0 ≤ h0.size) (F_nullable_a1 : Fld Z h0 a1 "underdeck/deck/Column" "nullable" "Z" (.int w_nullable_a1)) (F_defaultValue_a1 : Fld Z h0 a1 "underdeck/deck/Column" "defaultValue" "Ljava/util/Optional;" (.ref w_defaultValue_a1)) (F_value_w_defaultValue_a1 : Fld Z h0 w_defaultValue_a1 "java/util/Optional" "value" "Ljava/lang/Object;" .null) (E_w_defaultValue_a1 : Exa Z h0 w_defaultValue_a1 "java/util/Optional") (F_identity_a1 : Fld Z h0 a1 "underdeck/deck/Column" "identity" "Ljava/util/Optional;" (.ref w_identity_a1)) (F_value_w_identity_a1 : Fld Z h0 w_identity_a1 "java/util/Optional" "value" "Ljava/lang/Object;" .null) (E_w_identity_a1 : Exa Z h0 w_identity_a1 "java/util/Optional") (F_generated_a1 : Fld Z h0 a1 "underdeck/deck/Column" "generated" "Ljava/util/Optional;" (.ref w_generated_a1)) (F_value_w_generated_a1 : Fld Z h0 w_generated_a1 "java/util/Optional" "value" "Ljava/lang/Object;" (.ref w_value_w_generated_a1)) (E_w_generated_a1 : Exa Z h0 w_generated_a1 "java/util/Optional") (hc4 : w_nullable_a1 = (0 : Int32)) :
    MetFree l (⟨"underdeck/deck/Column", "required", "()Z"⟩ : MethodName) (head1 (Jvm.Cond.code (⟨"underdeck/deck/Column", "required", "()Z"⟩ : MethodName) prog_17_method_10_code 1 (some .boolean) :: ws) ({ frames := 1, cells := 0, slots := 0, locals := 12 } : Room)) (fun a U => a = #[(.ref a1)] ∧ Z.Warmed39 U.vm ∧ U.heap = h0) (fun _ _ _ _ _ => True) (fun _ U o U' => ∃ v L, o = .returned v ∧ Q_rm16nnv Z a1 w_nullable_a1 w_defaultValue_a1 w_identity_a1 w_generated_a1 w_value_w_generated_a1 h0 n0 v U'.heap L ∧ FrameEnd U o U' L ({ frames := 1, cells := 0, slots := 0, locals := 12 } : Room).cells ({ frames := 1, cells := 0, slots := 0, locals := 12 } : Room).slots) := by
  have hi : ∀ (i : Nat) {d : Jvm.Cond}, tables_1[i]? = some d → d.before a0 Z = true := fun i d h => hw d (List.mem_of_getElem? h)
  refine MetFree.of_bodySF (plainFor_of_name pn_16) hisR ?_
  intro p e s m args below meth c s₁ Bd hml0 hP hK
  obtain ⟨rfl, hZ, hh⟩ := hP
  have hx := Bd.exec
  have hby := Bd.bytes
  have hml : c.maxLocals = 1 := hml0
  have hown : s.vm.findClass "underdeck/deck/Column" = some m.cls := findClass_of_methodNamed Bd.named
  have hnm := (name_of_methodNamed Bd.named Bd.method).1
  have X0 : Stand p l e ({ frames := 1, cells := 0, slots := 0, locals := 12 } : Room) s m #[(.ref a1)] below meth c s₁ [] 0 0 := Stand.of_body Bd
  have e0 : s₁.heap = h0 := by rw [← hh, Bd.state]; rfl
  have N0 := Fr.nil n0
  have pre0 : ∀ t, Steps p.tables e below (s₁.setTop (mkF m 0 #[vA a1] [])) t → Steps p.tables e below (s₁.setTop (entryFrame m #[(.ref a1)] 1)) t := fun t k => castTop (ef_16 m a1) k
  obtain ⟨T2, X2, e2, st2⟩ := getF X0 hx hZ hown (host := "") (Or.inl (hi 81 rfl)) Via.refl e0 F_nullable_a1 (g := (mkF m 1 #[vA a1] [(.ref a1)])) rfl rfl (hb hby d16_1)
  obtain ⟨T3, X3, e3, st3⟩ := getF X2 hx hZ hown (host := "") (Or.inl (hi 83 rfl)) Via.refl e2 F_defaultValue_a1 (g := (mkF m 8 #[vA a1] [(.ref a1)])) rfl rfl (hb hby d16_8)
  obtain ⟨cq4, kq4, q4a, q4b, q4c⟩ := isOf hZ e3 E_w_defaultValue_a1
  obtain ⟨_, _, ⟨T4, L4, k4, n4⟩, -, X4, ⟨Lc4, hQ4, l4, y4, z4⟩, st4⟩ := X3.virtualBack hx (y := (⟨"java/util/Optional", "isEmpty", "()Z"⟩ : MethodName)) (z := (⟨"java/util/Optional", "isEmpty", "()Z"⟩ : MethodName)) hown (mvT hZ (hi 94 rfl)) (mvT hZ (hi 95 rfl)) (notFace_of_selects (args := #[]) (mvT hZ (hi 97 rfl))) (mvT hZ (hi 97 rfl)) (mvT hZ (hi 96 rfl)) (by decide) (backOf (W := 0) (rm17n l Z a0 hw [] w_defaultValue_a1 h0 n0 Z0 F_value_w_defaultValue_a1) hZ (hi 98 rfl) (hi 53 rfl) (by decide) (by decide)) q4a q4c (g := (mkF m 11 #[vA a1] [(.ref w_defaultValue_a1)])) rfl (by rw [hml]; rfl) (Steps.refl _) (argsL := []) (rest := []) (lenOf pd__28_29Z rfl) rfl (by show 2 * 0 + _ ≤ _; exact Nat.le_of_eq rfl) (hb hby d16_11) (fun _ _ => ⟨rfl, e3, (by decide : 0 + 0 ≤ _), (by decide : 0 + 0 ≤ _)⟩)
  dsimp only [Pt.U, Pt.locs, Pt.cells, Pt.slots] at X4 l4 y4 z4 st4 hQ4
  subst l4 y4 z4
  obtain ⟨rfl, N4q, e4⟩ := hQ4
  have N4 := Fr.app N0 N4q
  obtain ⟨T5, X5, e5, st5⟩ := getF X4 hx hZ hown (host := "") (Or.inl (hi 85 rfl)) Via.refl e4 F_identity_a1 (g := (mkF m 18 #[vA a1] [(.ref a1)])) rfl rfl (hb hby d16_18)
  obtain ⟨cq6, kq6, q6a, q6b, q6c⟩ := isOf hZ e5 E_w_identity_a1
  obtain ⟨_, _, ⟨T6, L6, k6, n6⟩, -, X6, ⟨Lc6, hQ6, l6, y6, z6⟩, st6⟩ := X5.virtualBack hx (y := (⟨"java/util/Optional", "isEmpty", "()Z"⟩ : MethodName)) (z := (⟨"java/util/Optional", "isEmpty", "()Z"⟩ : MethodName)) hown (mvT hZ (hi 94 rfl)) (mvT hZ (hi 95 rfl)) (notFace_of_selects (args := #[]) (mvT hZ (hi 97 rfl))) (mvT hZ (hi 97 rfl)) (mvT hZ (hi 96 rfl)) (by decide) (backOf (W := 0) (rm17n l Z a0 hw [] w_identity_a1 h0 n0 Z0 F_value_w_identity_a1) hZ (hi 98 rfl) (hi 53 rfl) (by decide) (by decide)) q6a q6c (g := (mkF m 21 #[vA a1] [(.ref w_identity_a1)])) rfl (by rw [hml]; rfl) (Steps.refl _) (argsL := []) (rest := []) (lenOf pd__28_29Z rfl) rfl (by show 2 * 0 + _ ≤ _; exact Nat.le_of_eq rfl) (hb hby d16_21) (fun _ _ => ⟨rfl, e5, (by decide : 0 + 0 ≤ _), (by decide : 0 + 0 ≤ _)⟩)
  dsimp only [Pt.U, Pt.locs, Pt.cells, Pt.slots] at X6 l6 y6 z6 st6 hQ6
  subst l6 y6 z6
  obtain ⟨rfl, N6q, e6⟩ := hQ6
  have N6 := Fr.app N4 N6q
  obtain ⟨T7, X7, e7, st7⟩ := getF X6 hx hZ hown (host := "") (Or.inl (hi 87 rfl)) Via.refl e6 F_generated_a1 (g := (mkF m 28 #[vA a1] [(.ref a1)])) rfl rfl (hb hby d16_28)
  obtain ⟨cq8, kq8, q8a, q8b, q8c⟩ := isOf hZ e7 E_w_generated_a1
  obtain ⟨_, _, ⟨T8, L8, k8, n8⟩, -, X8, ⟨Lc8, hQ8, l8, y8, z8⟩, st8⟩ := X7.virtualBack hx (y := (⟨"java/util/Optional", "isEmpty", "()Z"⟩ : MethodName)) (z := (⟨"java/util/Optional", "isEmpty", "()Z"⟩ : MethodName)) hown (mvT hZ (hi 94 rfl)) (mvT hZ (hi 95 rfl)) (notFace_of_selects (args := #[]) (mvT hZ (hi 97 rfl))) (mvT hZ (hi 97 rfl)) (mvT hZ (hi 96 rfl)) (by decide) (backOf (W := 0) (rm17v l Z a0 hw [] w_generated_a1 w_value_w_generated_a1 h0 n0 Z0 F_value_w_generated_a1) hZ (hi 98 rfl) (hi 53 rfl) (by decide) (by decide)) q8a q8c (g := (mkF m 31 #[vA a1] [(.ref w_generated_a1)])) rfl (by rw [hml]; rfl) (Steps.refl _) (argsL := []) (rest := []) (lenOf pd__28_29Z rfl) rfl (by show 2 * 0 + _ ≤ _; exact Nat.le_of_eq rfl) (hb hby d16_31) (fun _ _ => ⟨rfl, e7, (by decide : 0 + 0 ≤ _), (by decide : 0 + 0 ≤ _)⟩)
  dsimp only [Pt.U, Pt.locs, Pt.cells, Pt.slots] at X8 l8 y8 z8 st8 hQ8
  subst l8 y8 z8
  obtain ⟨rfl, N8q, e8⟩ := hQ8
  have N8 := Fr.app N6 N8q
  obtain ⟨fs, hr, hrun, hended, hW, hsame⟩ := X8.leave (v := some (.int (0 : Int32))) (fun h => by rw [Bd.returns] at h; cases h)
  refine ⟨_, _, pre0 _ ?_, hrun, hended, _, _, rfl, ?_, ⟨_, rfl⟩, hW, hsame.mono (by decide) (by decide)⟩
  · show Steps p.tables e below (s₁.setTop (mkF m 0 #[vA a1] [])) _
    refine XS.aloadN X0.here hx rfl (hb hby d16_0) rfl rfl ?_
    show Steps p.tables e below (s₁.setTop (mkF m 1 #[vA a1] [(.ref a1)])) _
    refine st2 _ ?_
    show Steps p.tables e below (T2.setTop (mkF m 4 #[vA a1] [(.int w_nullable_a1)])) _
    refine XS.ifNo X2.here hx rfl (hb hby d16_4) rfl ((if0 _ _).trans (teq hc4).2) ?_
    refine XS.aloadN X2.here hx rfl (hb hby d16_7) rfl rfl ?_
    show Steps p.tables e below (T2.setTop (mkF m 8 #[vA a1] [(.ref a1)])) _
    refine st3 _ ?_
    show Steps p.tables e below (T3.setTop (mkF m 11 #[vA a1] [(.ref w_defaultValue_a1)])) _
    refine st4.trans ?_
    show Steps p.tables e below (T4.setTop (mkF m 14 #[vA a1] [(.int (1 : Int32))])) _
    refine XS.ifNo X4.here hx rfl (hb hby d16_14) rfl ((if0 _ _).trans (feq (by decide : ¬ ((1 : Int32) = (0 : Int32)))).1) ?_
    refine XS.aloadN X4.here hx rfl (hb hby d16_17) rfl rfl ?_
    show Steps p.tables e below (T4.setTop (mkF m 18 #[vA a1] [(.ref a1)])) _
    refine st5 _ ?_
    show Steps p.tables e below (T5.setTop (mkF m 21 #[vA a1] [(.ref w_identity_a1)])) _
    refine st6.trans ?_
    show Steps p.tables e below (T6.setTop (mkF m 24 #[vA a1] [(.int (1 : Int32))])) _
    refine XS.ifNo X6.here hx rfl (hb hby d16_24) rfl ((if0 _ _).trans (feq (by decide : ¬ ((1 : Int32) = (0 : Int32)))).1) ?_
    refine XS.aloadN X6.here hx rfl (hb hby d16_27) rfl rfl ?_
    show Steps p.tables e below (T6.setTop (mkF m 28 #[vA a1] [(.ref a1)])) _
    refine st7 _ ?_
    show Steps p.tables e below (T7.setTop (mkF m 31 #[vA a1] [(.ref w_generated_a1)])) _
    refine st8.trans ?_
    show Steps p.tables e below (T8.setTop (mkF m 34 #[vA a1] [(.int (0 : Int32))])) _
    refine XS.ifYes X8.here hx rfl (pc0 := 34) (pc' := 41) rfl (hb hby d16_34) rfl ((if0 _ _).trans (teq (rfl : (0 : Int32) = (0 : Int32))).1) (by decide) (by decide) ?_
    refine XS.iconst X8.here hx rfl (hb hby d16_41) ?_
    show Steps p.tables e below (T8.setTop (mkF m 42 #[vA a1] [(.int (0 : Int32))])) _
    exact retN X8 hx (t := .boolean) Bd.returns (by simp) (hb hby d16_42) hr
  · show Q_rm16nnv Z a1 w_nullable_a1 w_defaultValue_a1 w_identity_a1 w_generated_a1 w_value_w_generated_a1 h0 n0 _ T8.heap _
    exact ⟨rfl, N8, e8⟩
set_option maxRecDepth 65536 in
set_option maxHeartbeats 40000000 in
theorem rm16nnv_t (l : Launch) (Z : State) (a0 : Array Value) (hw : ∀ d ∈ tables_1, d.before a0 Z = true) (ws : List Jvm.Cond) (a1 : Addr) (w_nullable_a1 : Int32) (w_defaultValue_a1 : Addr) (w_identity_a1 : Addr) (w_generated_a1 : Addr) (w_value_w_generated_a1 : Addr) (h0 : Heap) (n0 : Nat) (Z0 : n0 ≤ h0.size) (F_nullable_a1 : Fld Z h0 a1 "underdeck/deck/Column" "nullable" "Z" (.int w_nullable_a1)) (F_defaultValue_a1 : Fld Z h0 a1 "underdeck/deck/Column" "defaultValue" "Ljava/util/Optional;" (.ref w_defaultValue_a1)) (F_value_w_defaultValue_a1 : Fld Z h0 w_defaultValue_a1 "java/util/Optional" "value" "Ljava/lang/Object;" .null) (E_w_defaultValue_a1 : Exa Z h0 w_defaultValue_a1 "java/util/Optional") (F_identity_a1 : Fld Z h0 a1 "underdeck/deck/Column" "identity" "Ljava/util/Optional;" (.ref w_identity_a1)) (F_value_w_identity_a1 : Fld Z h0 w_identity_a1 "java/util/Optional" "value" "Ljava/lang/Object;" .null) (E_w_identity_a1 : Exa Z h0 w_identity_a1 "java/util/Optional") (F_generated_a1 : Fld Z h0 a1 "underdeck/deck/Column" "generated" "Ljava/util/Optional;" (.ref w_generated_a1)) (F_value_w_generated_a1 : Fld Z h0 w_generated_a1 "java/util/Optional" "value" "Ljava/lang/Object;" (.ref w_value_w_generated_a1)) (E_w_generated_a1 : Exa Z h0 w_generated_a1 "java/util/Optional") (hc4 : ¬ (w_nullable_a1 = (0 : Int32))) :
    MetFree l (⟨"underdeck/deck/Column", "required", "()Z"⟩ : MethodName) (head1 (Jvm.Cond.code (⟨"underdeck/deck/Column", "required", "()Z"⟩ : MethodName) prog_17_method_10_code 1 (some .boolean) :: ws) ({ frames := 1, cells := 0, slots := 0, locals := 12 } : Room)) (fun a U => a = #[(.ref a1)] ∧ Z.Warmed39 U.vm ∧ U.heap = h0) (fun _ _ _ _ _ => True) (fun _ U o U' => ∃ v L, o = .returned v ∧ Q_rm16nnv Z a1 w_nullable_a1 w_defaultValue_a1 w_identity_a1 w_generated_a1 w_value_w_generated_a1 h0 n0 v U'.heap L ∧ FrameEnd U o U' L ({ frames := 1, cells := 0, slots := 0, locals := 12 } : Room).cells ({ frames := 1, cells := 0, slots := 0, locals := 12 } : Room).slots) := by
  have hi : ∀ (i : Nat) {d : Jvm.Cond}, tables_1[i]? = some d → d.before a0 Z = true := fun i d h => hw d (List.mem_of_getElem? h)
  refine MetFree.of_bodySF (plainFor_of_name pn_16) hisR ?_
  intro p e s m args below meth c s₁ Bd hml0 hP hK
  obtain ⟨rfl, hZ, hh⟩ := hP
  have hx := Bd.exec
  have hby := Bd.bytes
  have hml : c.maxLocals = 1 := hml0
  have hown : s.vm.findClass "underdeck/deck/Column" = some m.cls := findClass_of_methodNamed Bd.named
  have hnm := (name_of_methodNamed Bd.named Bd.method).1
  have X0 : Stand p l e ({ frames := 1, cells := 0, slots := 0, locals := 12 } : Room) s m #[(.ref a1)] below meth c s₁ [] 0 0 := Stand.of_body Bd
  have e0 : s₁.heap = h0 := by rw [← hh, Bd.state]; rfl
  have N0 := Fr.nil n0
  have pre0 : ∀ t, Steps p.tables e below (s₁.setTop (mkF m 0 #[vA a1] [])) t → Steps p.tables e below (s₁.setTop (entryFrame m #[(.ref a1)] 1)) t := fun t k => castTop (ef_16 m a1) k
  obtain ⟨T2, X2, e2, st2⟩ := getF X0 hx hZ hown (host := "") (Or.inl (hi 81 rfl)) Via.refl e0 F_nullable_a1 (g := (mkF m 1 #[vA a1] [(.ref a1)])) rfl rfl (hb hby d16_1)
  obtain ⟨fs, hr, hrun, hended, hW, hsame⟩ := X2.leave (v := some (.int (0 : Int32))) (fun h => by rw [Bd.returns] at h; cases h)
  refine ⟨_, _, pre0 _ ?_, hrun, hended, _, _, rfl, ?_, ⟨_, rfl⟩, hW, hsame.mono (by decide) (by decide)⟩
  · show Steps p.tables e below (s₁.setTop (mkF m 0 #[vA a1] [])) _
    refine XS.aloadN X0.here hx rfl (hb hby d16_0) rfl rfl ?_
    show Steps p.tables e below (s₁.setTop (mkF m 1 #[vA a1] [(.ref a1)])) _
    refine st2 _ ?_
    show Steps p.tables e below (T2.setTop (mkF m 4 #[vA a1] [(.int w_nullable_a1)])) _
    refine XS.ifYes X2.here hx rfl (pc0 := 4) (pc' := 41) rfl (hb hby d16_4) rfl ((if0 _ _).trans (feq hc4).2) (by decide) (by decide) ?_
    refine XS.iconst X2.here hx rfl (hb hby d16_41) ?_
    show Steps p.tables e below (T2.setTop (mkF m 42 #[vA a1] [(.int (0 : Int32))])) _
    exact retN X2 hx (t := .boolean) Bd.returns (by simp) (hb hby d16_42) hr
  · show Q_rm16nnv Z a1 w_nullable_a1 w_defaultValue_a1 w_identity_a1 w_generated_a1 w_value_w_generated_a1 h0 n0 _ T2.heap _
    exact ⟨rfl, N0, e2⟩
set_option maxHeartbeats 4000000 in
theorem rm16nnv (l : Launch) (Z : State) (a0 : Array Value) (hw : ∀ d ∈ tables_1, d.before a0 Z = true) (ws : List Jvm.Cond) (a1 : Addr) (w_nullable_a1 : Int32) (w_defaultValue_a1 : Addr) (w_identity_a1 : Addr) (w_generated_a1 : Addr) (w_value_w_generated_a1 : Addr) (h0 : Heap) (n0 : Nat) (Z0 : n0 ≤ h0.size) (F_nullable_a1 : Fld Z h0 a1 "underdeck/deck/Column" "nullable" "Z" (.int w_nullable_a1)) (F_defaultValue_a1 : Fld Z h0 a1 "underdeck/deck/Column" "defaultValue" "Ljava/util/Optional;" (.ref w_defaultValue_a1)) (F_value_w_defaultValue_a1 : Fld Z h0 w_defaultValue_a1 "java/util/Optional" "value" "Ljava/lang/Object;" .null) (E_w_defaultValue_a1 : Exa Z h0 w_defaultValue_a1 "java/util/Optional") (F_identity_a1 : Fld Z h0 a1 "underdeck/deck/Column" "identity" "Ljava/util/Optional;" (.ref w_identity_a1)) (F_value_w_identity_a1 : Fld Z h0 w_identity_a1 "java/util/Optional" "value" "Ljava/lang/Object;" .null) (E_w_identity_a1 : Exa Z h0 w_identity_a1 "java/util/Optional") (F_generated_a1 : Fld Z h0 a1 "underdeck/deck/Column" "generated" "Ljava/util/Optional;" (.ref w_generated_a1)) (F_value_w_generated_a1 : Fld Z h0 w_generated_a1 "java/util/Optional" "value" "Ljava/lang/Object;" (.ref w_value_w_generated_a1)) (E_w_generated_a1 : Exa Z h0 w_generated_a1 "java/util/Optional") :
    MetFree l (⟨"underdeck/deck/Column", "required", "()Z"⟩ : MethodName) (head1 (Jvm.Cond.code (⟨"underdeck/deck/Column", "required", "()Z"⟩ : MethodName) prog_17_method_10_code 1 (some .boolean) :: ws) ({ frames := 1, cells := 0, slots := 0, locals := 12 } : Room)) (fun a U => a = #[(.ref a1)] ∧ Z.Warmed39 U.vm ∧ U.heap = h0) (fun _ _ _ _ _ => True) (fun _ U o U' => ∃ v L, o = .returned v ∧ Q_rm16nnv Z a1 w_nullable_a1 w_defaultValue_a1 w_identity_a1 w_generated_a1 w_value_w_generated_a1 h0 n0 v U'.heap L ∧ FrameEnd U o U' L ({ frames := 1, cells := 0, slots := 0, locals := 12 } : Room).cells ({ frames := 1, cells := 0, slots := 0, locals := 12 } : Room).slots) := by
  by_cases hc4 : w_nullable_a1 = (0 : Int32)
  · skip
    exact rm16nnv_f l Z a0 hw ws a1 w_nullable_a1 w_defaultValue_a1 w_identity_a1 w_generated_a1 w_value_w_generated_a1 h0 n0 Z0 F_nullable_a1 F_defaultValue_a1 F_value_w_defaultValue_a1 E_w_defaultValue_a1 F_identity_a1 F_value_w_identity_a1 E_w_identity_a1 F_generated_a1 F_value_w_generated_a1 E_w_generated_a1 hc4
  · skip
    exact rm16nnv_t l Z a0 hw ws a1 w_nullable_a1 w_defaultValue_a1 w_identity_a1 w_generated_a1 w_value_w_generated_a1 h0 n0 Z0 F_nullable_a1 F_defaultValue_a1 F_value_w_defaultValue_a1 E_w_defaultValue_a1 F_identity_a1 F_value_w_identity_a1 E_w_identity_a1 F_generated_a1 F_value_w_generated_a1 E_w_generated_a1 hc4
def Q_rm16nv (Z : State) (a1 : Addr) (w_nullable_a1 : Int32) (w_defaultValue_a1 : Addr) (w_identity_a1 : Addr) (w_value_w_identity_a1 : Addr) (h0 : Heap) (n0 : Nat) (v : Option Value) (h : Heap) (L : List Loc) : Prop := v = some (.int (0 : Int32)) ∧ Fr n0 L ∧ h = h0
set_option maxRecDepth 65536 in
set_option maxHeartbeats 40000000 in
theorem rm16nv_f (l : Launch) (Z : State) (a0 : Array Value) (hw : ∀ d ∈ tables_1, d.before a0 Z = true) (ws : List Jvm.Cond) (a1 : Addr) (w_nullable_a1 : Int32) (w_defaultValue_a1 : Addr) (w_identity_a1 : Addr) (w_value_w_identity_a1 : Addr) (h0 : Heap) (n0 : Nat) (Z0 : n0 ≤ h0.size) (F_nullable_a1 : Fld Z h0 a1 "underdeck/deck/Column" "nullable" "Z" (.int w_nullable_a1)) (F_defaultValue_a1 : Fld Z h0 a1 "underdeck/deck/Column" "defaultValue" "Ljava/util/Optional;" (.ref w_defaultValue_a1)) (F_value_w_defaultValue_a1 : Fld Z h0 w_defaultValue_a1 "java/util/Optional" "value" "Ljava/lang/Object;" .null) (E_w_defaultValue_a1 : Exa Z h0 w_defaultValue_a1 "java/util/Optional") (F_identity_a1 : Fld Z h0 a1 "underdeck/deck/Column" "identity" "Ljava/util/Optional;" (.ref w_identity_a1)) (F_value_w_identity_a1 : Fld Z h0 w_identity_a1 "java/util/Optional" "value" "Ljava/lang/Object;" (.ref w_value_w_identity_a1)) (E_w_identity_a1 : Exa Z h0 w_identity_a1 "java/util/Optional") (hc4 : w_nullable_a1 = (0 : Int32)) :
    MetFree l (⟨"underdeck/deck/Column", "required", "()Z"⟩ : MethodName) (head1 (Jvm.Cond.code (⟨"underdeck/deck/Column", "required", "()Z"⟩ : MethodName) prog_17_method_10_code 1 (some .boolean) :: ws) ({ frames := 1, cells := 0, slots := 0, locals := 12 } : Room)) (fun a U => a = #[(.ref a1)] ∧ Z.Warmed39 U.vm ∧ U.heap = h0) (fun _ _ _ _ _ => True) (fun _ U o U' => ∃ v L, o = .returned v ∧ Q_rm16nv Z a1 w_nullable_a1 w_defaultValue_a1 w_identity_a1 w_value_w_identity_a1 h0 n0 v U'.heap L ∧ FrameEnd U o U' L ({ frames := 1, cells := 0, slots := 0, locals := 12 } : Room).cells ({ frames := 1, cells := 0, slots := 0, locals := 12 } : Room).slots) := by
  have hi : ∀ (i : Nat) {d : Jvm.Cond}, tables_1[i]? = some d → d.before a0 Z = true := fun i d h => hw d (List.mem_of_getElem? h)
  refine MetFree.of_bodySF (plainFor_of_name pn_16) hisR ?_
  intro p e s m args below meth c s₁ Bd hml0 hP hK
  obtain ⟨rfl, hZ, hh⟩ := hP
  have hx := Bd.exec
  have hby := Bd.bytes
  have hml : c.maxLocals = 1 := hml0
  have hown : s.vm.findClass "underdeck/deck/Column" = some m.cls := findClass_of_methodNamed Bd.named
  have hnm := (name_of_methodNamed Bd.named Bd.method).1
  have X0 : Stand p l e ({ frames := 1, cells := 0, slots := 0, locals := 12 } : Room) s m #[(.ref a1)] below meth c s₁ [] 0 0 := Stand.of_body Bd
  have e0 : s₁.heap = h0 := by rw [← hh, Bd.state]; rfl
  have N0 := Fr.nil n0
  have pre0 : ∀ t, Steps p.tables e below (s₁.setTop (mkF m 0 #[vA a1] [])) t → Steps p.tables e below (s₁.setTop (entryFrame m #[(.ref a1)] 1)) t := fun t k => castTop (ef_16 m a1) k
  obtain ⟨T2, X2, e2, st2⟩ := getF X0 hx hZ hown (host := "") (Or.inl (hi 81 rfl)) Via.refl e0 F_nullable_a1 (g := (mkF m 1 #[vA a1] [(.ref a1)])) rfl rfl (hb hby d16_1)
  obtain ⟨T3, X3, e3, st3⟩ := getF X2 hx hZ hown (host := "") (Or.inl (hi 83 rfl)) Via.refl e2 F_defaultValue_a1 (g := (mkF m 8 #[vA a1] [(.ref a1)])) rfl rfl (hb hby d16_8)
  obtain ⟨cq4, kq4, q4a, q4b, q4c⟩ := isOf hZ e3 E_w_defaultValue_a1
  obtain ⟨_, _, ⟨T4, L4, k4, n4⟩, -, X4, ⟨Lc4, hQ4, l4, y4, z4⟩, st4⟩ := X3.virtualBack hx (y := (⟨"java/util/Optional", "isEmpty", "()Z"⟩ : MethodName)) (z := (⟨"java/util/Optional", "isEmpty", "()Z"⟩ : MethodName)) hown (mvT hZ (hi 94 rfl)) (mvT hZ (hi 95 rfl)) (notFace_of_selects (args := #[]) (mvT hZ (hi 97 rfl))) (mvT hZ (hi 97 rfl)) (mvT hZ (hi 96 rfl)) (by decide) (backOf (W := 0) (rm17n l Z a0 hw [] w_defaultValue_a1 h0 n0 Z0 F_value_w_defaultValue_a1) hZ (hi 98 rfl) (hi 53 rfl) (by decide) (by decide)) q4a q4c (g := (mkF m 11 #[vA a1] [(.ref w_defaultValue_a1)])) rfl (by rw [hml]; rfl) (Steps.refl _) (argsL := []) (rest := []) (lenOf pd__28_29Z rfl) rfl (by show 2 * 0 + _ ≤ _; exact Nat.le_of_eq rfl) (hb hby d16_11) (fun _ _ => ⟨rfl, e3, (by decide : 0 + 0 ≤ _), (by decide : 0 + 0 ≤ _)⟩)
  dsimp only [Pt.U, Pt.locs, Pt.cells, Pt.slots] at X4 l4 y4 z4 st4 hQ4
  subst l4 y4 z4
  obtain ⟨rfl, N4q, e4⟩ := hQ4
  have N4 := Fr.app N0 N4q
  obtain ⟨T5, X5, e5, st5⟩ := getF X4 hx hZ hown (host := "") (Or.inl (hi 85 rfl)) Via.refl e4 F_identity_a1 (g := (mkF m 18 #[vA a1] [(.ref a1)])) rfl rfl (hb hby d16_18)
  obtain ⟨cq6, kq6, q6a, q6b, q6c⟩ := isOf hZ e5 E_w_identity_a1
  obtain ⟨_, _, ⟨T6, L6, k6, n6⟩, -, X6, ⟨Lc6, hQ6, l6, y6, z6⟩, st6⟩ := X5.virtualBack hx (y := (⟨"java/util/Optional", "isEmpty", "()Z"⟩ : MethodName)) (z := (⟨"java/util/Optional", "isEmpty", "()Z"⟩ : MethodName)) hown (mvT hZ (hi 94 rfl)) (mvT hZ (hi 95 rfl)) (notFace_of_selects (args := #[]) (mvT hZ (hi 97 rfl))) (mvT hZ (hi 97 rfl)) (mvT hZ (hi 96 rfl)) (by decide) (backOf (W := 0) (rm17v l Z a0 hw [] w_identity_a1 w_value_w_identity_a1 h0 n0 Z0 F_value_w_identity_a1) hZ (hi 98 rfl) (hi 53 rfl) (by decide) (by decide)) q6a q6c (g := (mkF m 21 #[vA a1] [(.ref w_identity_a1)])) rfl (by rw [hml]; rfl) (Steps.refl _) (argsL := []) (rest := []) (lenOf pd__28_29Z rfl) rfl (by show 2 * 0 + _ ≤ _; exact Nat.le_of_eq rfl) (hb hby d16_21) (fun _ _ => ⟨rfl, e5, (by decide : 0 + 0 ≤ _), (by decide : 0 + 0 ≤ _)⟩)
  dsimp only [Pt.U, Pt.locs, Pt.cells, Pt.slots] at X6 l6 y6 z6 st6 hQ6
  subst l6 y6 z6
  obtain ⟨rfl, N6q, e6⟩ := hQ6
  have N6 := Fr.app N4 N6q
  obtain ⟨fs, hr, hrun, hended, hW, hsame⟩ := X6.leave (v := some (.int (0 : Int32))) (fun h => by rw [Bd.returns] at h; cases h)
  refine ⟨_, _, pre0 _ ?_, hrun, hended, _, _, rfl, ?_, ⟨_, rfl⟩, hW, hsame.mono (by decide) (by decide)⟩
  · show Steps p.tables e below (s₁.setTop (mkF m 0 #[vA a1] [])) _
    refine XS.aloadN X0.here hx rfl (hb hby d16_0) rfl rfl ?_
    show Steps p.tables e below (s₁.setTop (mkF m 1 #[vA a1] [(.ref a1)])) _
    refine st2 _ ?_
    show Steps p.tables e below (T2.setTop (mkF m 4 #[vA a1] [(.int w_nullable_a1)])) _
    refine XS.ifNo X2.here hx rfl (hb hby d16_4) rfl ((if0 _ _).trans (teq hc4).2) ?_
    refine XS.aloadN X2.here hx rfl (hb hby d16_7) rfl rfl ?_
    show Steps p.tables e below (T2.setTop (mkF m 8 #[vA a1] [(.ref a1)])) _
    refine st3 _ ?_
    show Steps p.tables e below (T3.setTop (mkF m 11 #[vA a1] [(.ref w_defaultValue_a1)])) _
    refine st4.trans ?_
    show Steps p.tables e below (T4.setTop (mkF m 14 #[vA a1] [(.int (1 : Int32))])) _
    refine XS.ifNo X4.here hx rfl (hb hby d16_14) rfl ((if0 _ _).trans (feq (by decide : ¬ ((1 : Int32) = (0 : Int32)))).1) ?_
    refine XS.aloadN X4.here hx rfl (hb hby d16_17) rfl rfl ?_
    show Steps p.tables e below (T4.setTop (mkF m 18 #[vA a1] [(.ref a1)])) _
    refine st5 _ ?_
    show Steps p.tables e below (T5.setTop (mkF m 21 #[vA a1] [(.ref w_identity_a1)])) _
    refine st6.trans ?_
    show Steps p.tables e below (T6.setTop (mkF m 24 #[vA a1] [(.int (0 : Int32))])) _
    refine XS.ifYes X6.here hx rfl (pc0 := 24) (pc' := 41) rfl (hb hby d16_24) rfl ((if0 _ _).trans (teq (rfl : (0 : Int32) = (0 : Int32))).1) (by decide) (by decide) ?_
    refine XS.iconst X6.here hx rfl (hb hby d16_41) ?_
    show Steps p.tables e below (T6.setTop (mkF m 42 #[vA a1] [(.int (0 : Int32))])) _
    exact retN X6 hx (t := .boolean) Bd.returns (by simp) (hb hby d16_42) hr
  · show Q_rm16nv Z a1 w_nullable_a1 w_defaultValue_a1 w_identity_a1 w_value_w_identity_a1 h0 n0 _ T6.heap _
    exact ⟨rfl, N6, e6⟩
set_option maxRecDepth 65536 in
set_option maxHeartbeats 40000000 in
theorem rm16nv_t (l : Launch) (Z : State) (a0 : Array Value) (hw : ∀ d ∈ tables_1, d.before a0 Z = true) (ws : List Jvm.Cond) (a1 : Addr) (w_nullable_a1 : Int32) (w_defaultValue_a1 : Addr) (w_identity_a1 : Addr) (w_value_w_identity_a1 : Addr) (h0 : Heap) (n0 : Nat) (Z0 : n0 ≤ h0.size) (F_nullable_a1 : Fld Z h0 a1 "underdeck/deck/Column" "nullable" "Z" (.int w_nullable_a1)) (F_defaultValue_a1 : Fld Z h0 a1 "underdeck/deck/Column" "defaultValue" "Ljava/util/Optional;" (.ref w_defaultValue_a1)) (F_value_w_defaultValue_a1 : Fld Z h0 w_defaultValue_a1 "java/util/Optional" "value" "Ljava/lang/Object;" .null) (E_w_defaultValue_a1 : Exa Z h0 w_defaultValue_a1 "java/util/Optional") (F_identity_a1 : Fld Z h0 a1 "underdeck/deck/Column" "identity" "Ljava/util/Optional;" (.ref w_identity_a1)) (F_value_w_identity_a1 : Fld Z h0 w_identity_a1 "java/util/Optional" "value" "Ljava/lang/Object;" (.ref w_value_w_identity_a1)) (E_w_identity_a1 : Exa Z h0 w_identity_a1 "java/util/Optional") (hc4 : ¬ (w_nullable_a1 = (0 : Int32))) :
    MetFree l (⟨"underdeck/deck/Column", "required", "()Z"⟩ : MethodName) (head1 (Jvm.Cond.code (⟨"underdeck/deck/Column", "required", "()Z"⟩ : MethodName) prog_17_method_10_code 1 (some .boolean) :: ws) ({ frames := 1, cells := 0, slots := 0, locals := 12 } : Room)) (fun a U => a = #[(.ref a1)] ∧ Z.Warmed39 U.vm ∧ U.heap = h0) (fun _ _ _ _ _ => True) (fun _ U o U' => ∃ v L, o = .returned v ∧ Q_rm16nv Z a1 w_nullable_a1 w_defaultValue_a1 w_identity_a1 w_value_w_identity_a1 h0 n0 v U'.heap L ∧ FrameEnd U o U' L ({ frames := 1, cells := 0, slots := 0, locals := 12 } : Room).cells ({ frames := 1, cells := 0, slots := 0, locals := 12 } : Room).slots) := by
  have hi : ∀ (i : Nat) {d : Jvm.Cond}, tables_1[i]? = some d → d.before a0 Z = true := fun i d h => hw d (List.mem_of_getElem? h)
  refine MetFree.of_bodySF (plainFor_of_name pn_16) hisR ?_
  intro p e s m args below meth c s₁ Bd hml0 hP hK
  obtain ⟨rfl, hZ, hh⟩ := hP
  have hx := Bd.exec
  have hby := Bd.bytes
  have hml : c.maxLocals = 1 := hml0
  have hown : s.vm.findClass "underdeck/deck/Column" = some m.cls := findClass_of_methodNamed Bd.named
  have hnm := (name_of_methodNamed Bd.named Bd.method).1
  have X0 : Stand p l e ({ frames := 1, cells := 0, slots := 0, locals := 12 } : Room) s m #[(.ref a1)] below meth c s₁ [] 0 0 := Stand.of_body Bd
  have e0 : s₁.heap = h0 := by rw [← hh, Bd.state]; rfl
  have N0 := Fr.nil n0
  have pre0 : ∀ t, Steps p.tables e below (s₁.setTop (mkF m 0 #[vA a1] [])) t → Steps p.tables e below (s₁.setTop (entryFrame m #[(.ref a1)] 1)) t := fun t k => castTop (ef_16 m a1) k
  obtain ⟨T2, X2, e2, st2⟩ := getF X0 hx hZ hown (host := "") (Or.inl (hi 81 rfl)) Via.refl e0 F_nullable_a1 (g := (mkF m 1 #[vA a1] [(.ref a1)])) rfl rfl (hb hby d16_1)
  obtain ⟨fs, hr, hrun, hended, hW, hsame⟩ := X2.leave (v := some (.int (0 : Int32))) (fun h => by rw [Bd.returns] at h; cases h)
  refine ⟨_, _, pre0 _ ?_, hrun, hended, _, _, rfl, ?_, ⟨_, rfl⟩, hW, hsame.mono (by decide) (by decide)⟩
  · show Steps p.tables e below (s₁.setTop (mkF m 0 #[vA a1] [])) _
    refine XS.aloadN X0.here hx rfl (hb hby d16_0) rfl rfl ?_
    show Steps p.tables e below (s₁.setTop (mkF m 1 #[vA a1] [(.ref a1)])) _
    refine st2 _ ?_
    show Steps p.tables e below (T2.setTop (mkF m 4 #[vA a1] [(.int w_nullable_a1)])) _
    refine XS.ifYes X2.here hx rfl (pc0 := 4) (pc' := 41) rfl (hb hby d16_4) rfl ((if0 _ _).trans (feq hc4).2) (by decide) (by decide) ?_
    refine XS.iconst X2.here hx rfl (hb hby d16_41) ?_
    show Steps p.tables e below (T2.setTop (mkF m 42 #[vA a1] [(.int (0 : Int32))])) _
    exact retN X2 hx (t := .boolean) Bd.returns (by simp) (hb hby d16_42) hr
  · show Q_rm16nv Z a1 w_nullable_a1 w_defaultValue_a1 w_identity_a1 w_value_w_identity_a1 h0 n0 _ T2.heap _
    exact ⟨rfl, N0, e2⟩
set_option maxHeartbeats 4000000 in
theorem rm16nv (l : Launch) (Z : State) (a0 : Array Value) (hw : ∀ d ∈ tables_1, d.before a0 Z = true) (ws : List Jvm.Cond) (a1 : Addr) (w_nullable_a1 : Int32) (w_defaultValue_a1 : Addr) (w_identity_a1 : Addr) (w_value_w_identity_a1 : Addr) (h0 : Heap) (n0 : Nat) (Z0 : n0 ≤ h0.size) (F_nullable_a1 : Fld Z h0 a1 "underdeck/deck/Column" "nullable" "Z" (.int w_nullable_a1)) (F_defaultValue_a1 : Fld Z h0 a1 "underdeck/deck/Column" "defaultValue" "Ljava/util/Optional;" (.ref w_defaultValue_a1)) (F_value_w_defaultValue_a1 : Fld Z h0 w_defaultValue_a1 "java/util/Optional" "value" "Ljava/lang/Object;" .null) (E_w_defaultValue_a1 : Exa Z h0 w_defaultValue_a1 "java/util/Optional") (F_identity_a1 : Fld Z h0 a1 "underdeck/deck/Column" "identity" "Ljava/util/Optional;" (.ref w_identity_a1)) (F_value_w_identity_a1 : Fld Z h0 w_identity_a1 "java/util/Optional" "value" "Ljava/lang/Object;" (.ref w_value_w_identity_a1)) (E_w_identity_a1 : Exa Z h0 w_identity_a1 "java/util/Optional") :
    MetFree l (⟨"underdeck/deck/Column", "required", "()Z"⟩ : MethodName) (head1 (Jvm.Cond.code (⟨"underdeck/deck/Column", "required", "()Z"⟩ : MethodName) prog_17_method_10_code 1 (some .boolean) :: ws) ({ frames := 1, cells := 0, slots := 0, locals := 12 } : Room)) (fun a U => a = #[(.ref a1)] ∧ Z.Warmed39 U.vm ∧ U.heap = h0) (fun _ _ _ _ _ => True) (fun _ U o U' => ∃ v L, o = .returned v ∧ Q_rm16nv Z a1 w_nullable_a1 w_defaultValue_a1 w_identity_a1 w_value_w_identity_a1 h0 n0 v U'.heap L ∧ FrameEnd U o U' L ({ frames := 1, cells := 0, slots := 0, locals := 12 } : Room).cells ({ frames := 1, cells := 0, slots := 0, locals := 12 } : Room).slots) := by
  by_cases hc4 : w_nullable_a1 = (0 : Int32)
  · skip
    exact rm16nv_f l Z a0 hw ws a1 w_nullable_a1 w_defaultValue_a1 w_identity_a1 w_value_w_identity_a1 h0 n0 Z0 F_nullable_a1 F_defaultValue_a1 F_value_w_defaultValue_a1 E_w_defaultValue_a1 F_identity_a1 F_value_w_identity_a1 E_w_identity_a1 hc4
  · skip
    exact rm16nv_t l Z a0 hw ws a1 w_nullable_a1 w_defaultValue_a1 w_identity_a1 w_value_w_identity_a1 h0 n0 Z0 F_nullable_a1 F_defaultValue_a1 F_value_w_defaultValue_a1 E_w_defaultValue_a1 F_identity_a1 F_value_w_identity_a1 E_w_identity_a1 hc4
def Q_rm16v (Z : State) (a1 : Addr) (w_nullable_a1 : Int32) (w_defaultValue_a1 : Addr) (w_value_w_defaultValue_a1 : Addr) (h0 : Heap) (n0 : Nat) (v : Option Value) (h : Heap) (L : List Loc) : Prop := v = some (.int (0 : Int32)) ∧ Fr n0 L ∧ h = h0
set_option maxRecDepth 65536 in
set_option maxHeartbeats 40000000 in
theorem rm16v_f (l : Launch) (Z : State) (a0 : Array Value) (hw : ∀ d ∈ tables_1, d.before a0 Z = true) (ws : List Jvm.Cond) (a1 : Addr) (w_nullable_a1 : Int32) (w_defaultValue_a1 : Addr) (w_value_w_defaultValue_a1 : Addr) (h0 : Heap) (n0 : Nat) (Z0 : n0 ≤ h0.size) (F_nullable_a1 : Fld Z h0 a1 "underdeck/deck/Column" "nullable" "Z" (.int w_nullable_a1)) (F_defaultValue_a1 : Fld Z h0 a1 "underdeck/deck/Column" "defaultValue" "Ljava/util/Optional;" (.ref w_defaultValue_a1)) (F_value_w_defaultValue_a1 : Fld Z h0 w_defaultValue_a1 "java/util/Optional" "value" "Ljava/lang/Object;" (.ref w_value_w_defaultValue_a1)) (E_w_defaultValue_a1 : Exa Z h0 w_defaultValue_a1 "java/util/Optional") (hc4 : w_nullable_a1 = (0 : Int32)) :
    MetFree l (⟨"underdeck/deck/Column", "required", "()Z"⟩ : MethodName) (head1 (Jvm.Cond.code (⟨"underdeck/deck/Column", "required", "()Z"⟩ : MethodName) prog_17_method_10_code 1 (some .boolean) :: ws) ({ frames := 1, cells := 0, slots := 0, locals := 12 } : Room)) (fun a U => a = #[(.ref a1)] ∧ Z.Warmed39 U.vm ∧ U.heap = h0) (fun _ _ _ _ _ => True) (fun _ U o U' => ∃ v L, o = .returned v ∧ Q_rm16v Z a1 w_nullable_a1 w_defaultValue_a1 w_value_w_defaultValue_a1 h0 n0 v U'.heap L ∧ FrameEnd U o U' L ({ frames := 1, cells := 0, slots := 0, locals := 12 } : Room).cells ({ frames := 1, cells := 0, slots := 0, locals := 12 } : Room).slots) := by
  have hi : ∀ (i : Nat) {d : Jvm.Cond}, tables_1[i]? = some d → d.before a0 Z = true := fun i d h => hw d (List.mem_of_getElem? h)
  refine MetFree.of_bodySF (plainFor_of_name pn_16) hisR ?_
  intro p e s m args below meth c s₁ Bd hml0 hP hK
  obtain ⟨rfl, hZ, hh⟩ := hP
  have hx := Bd.exec
  have hby := Bd.bytes
  have hml : c.maxLocals = 1 := hml0
  have hown : s.vm.findClass "underdeck/deck/Column" = some m.cls := findClass_of_methodNamed Bd.named
  have hnm := (name_of_methodNamed Bd.named Bd.method).1
  have X0 : Stand p l e ({ frames := 1, cells := 0, slots := 0, locals := 12 } : Room) s m #[(.ref a1)] below meth c s₁ [] 0 0 := Stand.of_body Bd
  have e0 : s₁.heap = h0 := by rw [← hh, Bd.state]; rfl
  have N0 := Fr.nil n0
  have pre0 : ∀ t, Steps p.tables e below (s₁.setTop (mkF m 0 #[vA a1] [])) t → Steps p.tables e below (s₁.setTop (entryFrame m #[(.ref a1)] 1)) t := fun t k => castTop (ef_16 m a1) k
  obtain ⟨T2, X2, e2, st2⟩ := getF X0 hx hZ hown (host := "") (Or.inl (hi 81 rfl)) Via.refl e0 F_nullable_a1 (g := (mkF m 1 #[vA a1] [(.ref a1)])) rfl rfl (hb hby d16_1)
  obtain ⟨T3, X3, e3, st3⟩ := getF X2 hx hZ hown (host := "") (Or.inl (hi 83 rfl)) Via.refl e2 F_defaultValue_a1 (g := (mkF m 8 #[vA a1] [(.ref a1)])) rfl rfl (hb hby d16_8)
  obtain ⟨cq4, kq4, q4a, q4b, q4c⟩ := isOf hZ e3 E_w_defaultValue_a1
  obtain ⟨_, _, ⟨T4, L4, k4, n4⟩, -, X4, ⟨Lc4, hQ4, l4, y4, z4⟩, st4⟩ := X3.virtualBack hx (y := (⟨"java/util/Optional", "isEmpty", "()Z"⟩ : MethodName)) (z := (⟨"java/util/Optional", "isEmpty", "()Z"⟩ : MethodName)) hown (mvT hZ (hi 94 rfl)) (mvT hZ (hi 95 rfl)) (notFace_of_selects (args := #[]) (mvT hZ (hi 97 rfl))) (mvT hZ (hi 97 rfl)) (mvT hZ (hi 96 rfl)) (by decide) (backOf (W := 0) (rm17v l Z a0 hw [] w_defaultValue_a1 w_value_w_defaultValue_a1 h0 n0 Z0 F_value_w_defaultValue_a1) hZ (hi 98 rfl) (hi 53 rfl) (by decide) (by decide)) q4a q4c (g := (mkF m 11 #[vA a1] [(.ref w_defaultValue_a1)])) rfl (by rw [hml]; rfl) (Steps.refl _) (argsL := []) (rest := []) (lenOf pd__28_29Z rfl) rfl (by show 2 * 0 + _ ≤ _; exact Nat.le_of_eq rfl) (hb hby d16_11) (fun _ _ => ⟨rfl, e3, (by decide : 0 + 0 ≤ _), (by decide : 0 + 0 ≤ _)⟩)
  dsimp only [Pt.U, Pt.locs, Pt.cells, Pt.slots] at X4 l4 y4 z4 st4 hQ4
  subst l4 y4 z4
  obtain ⟨rfl, N4q, e4⟩ := hQ4
  have N4 := Fr.app N0 N4q
  obtain ⟨fs, hr, hrun, hended, hW, hsame⟩ := X4.leave (v := some (.int (0 : Int32))) (fun h => by rw [Bd.returns] at h; cases h)
  refine ⟨_, _, pre0 _ ?_, hrun, hended, _, _, rfl, ?_, ⟨_, rfl⟩, hW, hsame.mono (by decide) (by decide)⟩
  · show Steps p.tables e below (s₁.setTop (mkF m 0 #[vA a1] [])) _
    refine XS.aloadN X0.here hx rfl (hb hby d16_0) rfl rfl ?_
    show Steps p.tables e below (s₁.setTop (mkF m 1 #[vA a1] [(.ref a1)])) _
    refine st2 _ ?_
    show Steps p.tables e below (T2.setTop (mkF m 4 #[vA a1] [(.int w_nullable_a1)])) _
    refine XS.ifNo X2.here hx rfl (hb hby d16_4) rfl ((if0 _ _).trans (teq hc4).2) ?_
    refine XS.aloadN X2.here hx rfl (hb hby d16_7) rfl rfl ?_
    show Steps p.tables e below (T2.setTop (mkF m 8 #[vA a1] [(.ref a1)])) _
    refine st3 _ ?_
    show Steps p.tables e below (T3.setTop (mkF m 11 #[vA a1] [(.ref w_defaultValue_a1)])) _
    refine st4.trans ?_
    show Steps p.tables e below (T4.setTop (mkF m 14 #[vA a1] [(.int (0 : Int32))])) _
    refine XS.ifYes X4.here hx rfl (pc0 := 14) (pc' := 41) rfl (hb hby d16_14) rfl ((if0 _ _).trans (teq (rfl : (0 : Int32) = (0 : Int32))).1) (by decide) (by decide) ?_
    refine XS.iconst X4.here hx rfl (hb hby d16_41) ?_
    show Steps p.tables e below (T4.setTop (mkF m 42 #[vA a1] [(.int (0 : Int32))])) _
    exact retN X4 hx (t := .boolean) Bd.returns (by simp) (hb hby d16_42) hr
  · show Q_rm16v Z a1 w_nullable_a1 w_defaultValue_a1 w_value_w_defaultValue_a1 h0 n0 _ T4.heap _
    exact ⟨rfl, N4, e4⟩
set_option maxRecDepth 65536 in
set_option maxHeartbeats 40000000 in
theorem rm16v_t (l : Launch) (Z : State) (a0 : Array Value) (hw : ∀ d ∈ tables_1, d.before a0 Z = true) (ws : List Jvm.Cond) (a1 : Addr) (w_nullable_a1 : Int32) (w_defaultValue_a1 : Addr) (w_value_w_defaultValue_a1 : Addr) (h0 : Heap) (n0 : Nat) (Z0 : n0 ≤ h0.size) (F_nullable_a1 : Fld Z h0 a1 "underdeck/deck/Column" "nullable" "Z" (.int w_nullable_a1)) (F_defaultValue_a1 : Fld Z h0 a1 "underdeck/deck/Column" "defaultValue" "Ljava/util/Optional;" (.ref w_defaultValue_a1)) (F_value_w_defaultValue_a1 : Fld Z h0 w_defaultValue_a1 "java/util/Optional" "value" "Ljava/lang/Object;" (.ref w_value_w_defaultValue_a1)) (E_w_defaultValue_a1 : Exa Z h0 w_defaultValue_a1 "java/util/Optional") (hc4 : ¬ (w_nullable_a1 = (0 : Int32))) :
    MetFree l (⟨"underdeck/deck/Column", "required", "()Z"⟩ : MethodName) (head1 (Jvm.Cond.code (⟨"underdeck/deck/Column", "required", "()Z"⟩ : MethodName) prog_17_method_10_code 1 (some .boolean) :: ws) ({ frames := 1, cells := 0, slots := 0, locals := 12 } : Room)) (fun a U => a = #[(.ref a1)] ∧ Z.Warmed39 U.vm ∧ U.heap = h0) (fun _ _ _ _ _ => True) (fun _ U o U' => ∃ v L, o = .returned v ∧ Q_rm16v Z a1 w_nullable_a1 w_defaultValue_a1 w_value_w_defaultValue_a1 h0 n0 v U'.heap L ∧ FrameEnd U o U' L ({ frames := 1, cells := 0, slots := 0, locals := 12 } : Room).cells ({ frames := 1, cells := 0, slots := 0, locals := 12 } : Room).slots) := by
  have hi : ∀ (i : Nat) {d : Jvm.Cond}, tables_1[i]? = some d → d.before a0 Z = true := fun i d h => hw d (List.mem_of_getElem? h)
  refine MetFree.of_bodySF (plainFor_of_name pn_16) hisR ?_
  intro p e s m args below meth c s₁ Bd hml0 hP hK
  obtain ⟨rfl, hZ, hh⟩ := hP
  have hx := Bd.exec
  have hby := Bd.bytes
  have hml : c.maxLocals = 1 := hml0
  have hown : s.vm.findClass "underdeck/deck/Column" = some m.cls := findClass_of_methodNamed Bd.named
  have hnm := (name_of_methodNamed Bd.named Bd.method).1
  have X0 : Stand p l e ({ frames := 1, cells := 0, slots := 0, locals := 12 } : Room) s m #[(.ref a1)] below meth c s₁ [] 0 0 := Stand.of_body Bd
  have e0 : s₁.heap = h0 := by rw [← hh, Bd.state]; rfl
  have N0 := Fr.nil n0
  have pre0 : ∀ t, Steps p.tables e below (s₁.setTop (mkF m 0 #[vA a1] [])) t → Steps p.tables e below (s₁.setTop (entryFrame m #[(.ref a1)] 1)) t := fun t k => castTop (ef_16 m a1) k
  obtain ⟨T2, X2, e2, st2⟩ := getF X0 hx hZ hown (host := "") (Or.inl (hi 81 rfl)) Via.refl e0 F_nullable_a1 (g := (mkF m 1 #[vA a1] [(.ref a1)])) rfl rfl (hb hby d16_1)
  obtain ⟨fs, hr, hrun, hended, hW, hsame⟩ := X2.leave (v := some (.int (0 : Int32))) (fun h => by rw [Bd.returns] at h; cases h)
  refine ⟨_, _, pre0 _ ?_, hrun, hended, _, _, rfl, ?_, ⟨_, rfl⟩, hW, hsame.mono (by decide) (by decide)⟩
  · show Steps p.tables e below (s₁.setTop (mkF m 0 #[vA a1] [])) _
    refine XS.aloadN X0.here hx rfl (hb hby d16_0) rfl rfl ?_
    show Steps p.tables e below (s₁.setTop (mkF m 1 #[vA a1] [(.ref a1)])) _
    refine st2 _ ?_
    show Steps p.tables e below (T2.setTop (mkF m 4 #[vA a1] [(.int w_nullable_a1)])) _
    refine XS.ifYes X2.here hx rfl (pc0 := 4) (pc' := 41) rfl (hb hby d16_4) rfl ((if0 _ _).trans (feq hc4).2) (by decide) (by decide) ?_
    refine XS.iconst X2.here hx rfl (hb hby d16_41) ?_
    show Steps p.tables e below (T2.setTop (mkF m 42 #[vA a1] [(.int (0 : Int32))])) _
    exact retN X2 hx (t := .boolean) Bd.returns (by simp) (hb hby d16_42) hr
  · show Q_rm16v Z a1 w_nullable_a1 w_defaultValue_a1 w_value_w_defaultValue_a1 h0 n0 _ T2.heap _
    exact ⟨rfl, N0, e2⟩
set_option maxHeartbeats 4000000 in
theorem rm16v (l : Launch) (Z : State) (a0 : Array Value) (hw : ∀ d ∈ tables_1, d.before a0 Z = true) (ws : List Jvm.Cond) (a1 : Addr) (w_nullable_a1 : Int32) (w_defaultValue_a1 : Addr) (w_value_w_defaultValue_a1 : Addr) (h0 : Heap) (n0 : Nat) (Z0 : n0 ≤ h0.size) (F_nullable_a1 : Fld Z h0 a1 "underdeck/deck/Column" "nullable" "Z" (.int w_nullable_a1)) (F_defaultValue_a1 : Fld Z h0 a1 "underdeck/deck/Column" "defaultValue" "Ljava/util/Optional;" (.ref w_defaultValue_a1)) (F_value_w_defaultValue_a1 : Fld Z h0 w_defaultValue_a1 "java/util/Optional" "value" "Ljava/lang/Object;" (.ref w_value_w_defaultValue_a1)) (E_w_defaultValue_a1 : Exa Z h0 w_defaultValue_a1 "java/util/Optional") :
    MetFree l (⟨"underdeck/deck/Column", "required", "()Z"⟩ : MethodName) (head1 (Jvm.Cond.code (⟨"underdeck/deck/Column", "required", "()Z"⟩ : MethodName) prog_17_method_10_code 1 (some .boolean) :: ws) ({ frames := 1, cells := 0, slots := 0, locals := 12 } : Room)) (fun a U => a = #[(.ref a1)] ∧ Z.Warmed39 U.vm ∧ U.heap = h0) (fun _ _ _ _ _ => True) (fun _ U o U' => ∃ v L, o = .returned v ∧ Q_rm16v Z a1 w_nullable_a1 w_defaultValue_a1 w_value_w_defaultValue_a1 h0 n0 v U'.heap L ∧ FrameEnd U o U' L ({ frames := 1, cells := 0, slots := 0, locals := 12 } : Room).cells ({ frames := 1, cells := 0, slots := 0, locals := 12 } : Room).slots) := by
  by_cases hc4 : w_nullable_a1 = (0 : Int32)
  · skip
    exact rm16v_f l Z a0 hw ws a1 w_nullable_a1 w_defaultValue_a1 w_value_w_defaultValue_a1 h0 n0 Z0 F_nullable_a1 F_defaultValue_a1 F_value_w_defaultValue_a1 E_w_defaultValue_a1 hc4
  · skip
    exact rm16v_t l Z a0 hw ws a1 w_nullable_a1 w_defaultValue_a1 w_value_w_defaultValue_a1 h0 n0 Z0 F_nullable_a1 F_defaultValue_a1 F_value_w_defaultValue_a1 E_w_defaultValue_a1 hc4
theorem own_fin (p1 : Int32) : F16nnn (nar .boolean (if (p1 &&& (1 : Int32)) = (0 : Int32) then (0 : Int32) else (1 : Int32))) = (if (if (p1 &&& (1 : Int32)) = (0 : Int32) then (0 : Int32) else (1 : Int32)) = (0 : Int32) then (1 : Int32) else (0 : Int32)) := by
  by_cases h : (p1 &&& (1 : Int32)) = (0 : Int32)
  · rw [if_pos h]; rfl
  · rw [if_neg h]; rfl
theorem pd__28_5bC_29V : parseMethodDescriptor "([C)V" = some ⟨[(.array .char)], none⟩ := by decide +kernel
theorem pd__28I_29Ljava_2flang_2fString_3b : parseMethodDescriptor "(I)Ljava/lang/String;" = some ⟨[.int], some (.object "java/lang/String")⟩ := by decide +kernel
theorem pd__28Ljava_2flang_2fObject_3b_29Ljava_2futil_2fOptional_3b : parseMethodDescriptor "(Ljava/lang/Object;)Ljava/util/Optional;" = some ⟨[(.object "java/lang/Object")], some (.object "java/util/Optional")⟩ := by decide +kernel
theorem pd__28_29Ljava_2futil_2fOptional_3b : parseMethodDescriptor "()Ljava/util/Optional;" = some ⟨[], some (.object "java/util/Optional")⟩ := by decide +kernel
theorem pd__28Ljava_2flang_2fString_3bLjava_2flang_2fString_3bZLjava_2futil_2fOptional_3bLjava_2futil_2fOptional_3bLjava_2futil_2fOptional_3b_29V : parseMethodDescriptor "(Ljava/lang/String;Ljava/lang/String;ZLjava/util/Optional;Ljava/util/Optional;Ljava/util/Optional;)V" = some ⟨[(.object "java/lang/String"), (.object "java/lang/String"), .boolean, (.object "java/util/Optional"), (.object "java/util/Optional"), (.object "java/util/Optional")], none⟩ := by decide +kernel
def t0_0 (p1 : Int32) : Int32 := (if (p1 &&& (1 : Int32)) = (0 : Int32) then (0 : Int32) else (1 : Int32))
def t0_1 (p1 : Int32) : Int32 := (((p1.toUInt32 >>> ((2 : Int32) &&& 31).toUInt32).toInt32) &&& (3 : Int32))
def t0_2 (p1 : Int32) : Int32 := ((t0_1 p1) - ((t0_1 p1) / (3 : Int32)) * (3 : Int32))
def t0_3 (p2 : Int32) : Int32 := ((p2 &&& (255 : Int32)).toUInt32.toUInt16.toUInt32.toInt32)
def t0_4 (p2 : Int32) : Int32 := (((p2.toUInt32 >>> ((8 : Int32) &&& 31).toUInt32).toInt32) &&& (255 : Int32))
def t0_5 (p2 : Int32) : Int32 := ((t0_4 p2).toUInt32.toUInt16.toUInt32.toInt32)
def t0_6 (p2 : Int32) : Int32 := (((p2.toUInt32 >>> ((16 : Int32) &&& 31).toUInt32).toInt32) &&& (255 : Int32))
def t0_7 (p2 : Int32) : Int32 := ((t0_6 p2).toUInt32.toUInt16.toUInt32.toInt32)
def t0_8 (p3 : Int32) : Int32 := ((p3.toUInt32 >>> ((9 : Int32) &&& 31).toUInt32).toInt32)
def t0_9 (p1 : Int32) : Int32 := (if (t0_0 p1) = (0 : Int32) then (1 : Int32) else (0 : Int32))
def t0_10 (p1 : Int32) : Int32 := (F16nnn (nar .boolean (t0_0 p1)))
theorem pn_0 : plainName "underdeck/deck/ColumnRequiredPinLaw" = true := by first | (simp [plainName, overriddenIn]; done) | decide +kernel
theorem ef_0 (m : MethodId) (x0 : Int32) (x1 : Int32) (x2 : Int32) : entryFrame m #[(.int x0), (.int x1), (.int x2)] maxLocals = mkF m 0 #[.val (.int x0), .val (.int x1), .val (.int x2), .unset, .unset, .unset, .unset, .unset, .unset, .unset, .unset, .unset, .unset, .unset, .unset, .unset] [] := by first | (simp [entryFrame, mkF, argsToLocals, Value.category, maxLocals]; done) | rfl
def Q_rm0 (Z : State) (p1 : Int32) (p2 : Int32) (p3 : Int32) (s_COMPACT_STRINGS : Int32) (s_EMPTY : Addr) (s_ALWAYS : Addr) (s_BY_DEFAULT : Addr) (h0 : Heap) (n0 : Nat) (v : Option Value) (h : Heap) (L : List Loc) : Prop := v = some (.int (1 : Int32)) ∧ Fr n0 L
set_option maxRecDepth 65536 in
set_option maxHeartbeats 40000000 in
theorem rm0_fff (l : Launch) (Z : State) (a0 : Array Value) (hw : ∀ d ∈ tables_1, d.before a0 Z = true) (ws : List Jvm.Cond) (p1 : Int32) (p2 : Int32) (p3 : Int32) (s_COMPACT_STRINGS : Int32) (s_EMPTY : Addr) (s_ALWAYS : Addr) (s_BY_DEFAULT : Addr) (h0 : Heap) (n0 : Nat) (Z0 : n0 ≤ h0.size) (hcs : ¬ (s_COMPACT_STRINGS = (0 : Int32))) (S_COMPACT_STRINGS : Sta Z h0 "java/lang/String" "COMPACT_STRINGS" "Z" (.int s_COMPACT_STRINGS)) (S_EMPTY : Sta Z h0 "java/util/Optional" "EMPTY" "Ljava/util/Optional;" (.ref s_EMPTY)) (S_ALWAYS : Sta Z h0 "underdeck/deck/Column$Identity" "ALWAYS" "Lunderdeck/deck/Column$Identity;" (.ref s_ALWAYS)) (S_BY_DEFAULT : Sta Z h0 "underdeck/deck/Column$Identity" "BY_DEFAULT" "Lunderdeck/deck/Column$Identity;" (.ref s_BY_DEFAULT)) (F_value_s_EMPTY : Fld Z h0 s_EMPTY "java/util/Optional" "value" "Ljava/lang/Object;" .null) (E_s_EMPTY : Exa Z h0 s_EMPTY "java/util/Optional") (hc15 : ¬ ((p1 &&& (2 : Int32)) = (0 : Int32))) (hc38 : ¬ ((p1 &&& (16 : Int32)) = (0 : Int32))) (hc130 : (t0_2 p1) = (0 : Int32)) :
    MetFree l x (head1 (Jvm.Cond.code x code maxLocals ret :: ws) room_1) (fun a U => a = #[(.int p1), (.int p2), (.int p3)] ∧ Z.Warmed39 U.vm ∧ U.heap = h0) (fun _ _ _ _ _ => True) (fun _ U o U' => ∃ v L, o = .returned v ∧ Q_rm0 Z p1 p2 p3 s_COMPACT_STRINGS s_EMPTY s_ALWAYS s_BY_DEFAULT h0 n0 v U'.heap L ∧ ReturnedEndW U o U' L room_1.cells room_1.slots) := by
  have hi : ∀ (i : Nat) {d : Jvm.Cond}, tables_1[i]? = some d → d.before a0 Z = true := fun i d h => hw d (List.mem_of_getElem? h)
  refine MetFree.of_bodySF (plainFor_of_name pn_0) hisR ?_
  intro p e s m args below meth c s₁ Bd hml0 hP hK
  obtain ⟨rfl, hZ, hh⟩ := hP
  have hx := Bd.exec
  have hby := Bd.bytes
  have hml : c.maxLocals = 16 := hml0
  have hown : s.vm.findClass "underdeck/deck/ColumnRequiredPinLaw" = some m.cls := findClass_of_methodNamed Bd.named
  have hnm := (name_of_methodNamed Bd.named Bd.method).1
  have X0 : Stand p l e room_1 (s.setVm s.vm) m #[(.int p1), (.int p2), (.int p3)] below meth c s₁ [] 0 0 := Stand.of_body Bd
  have e0 : s₁.heap = h0 := by rw [← hh, Bd.state]; rfl
  have N0 := Fr.nil n0
  have pre0 : ∀ t, Steps p.tables e below (s₁.setTop (mkF m 0 #[vI p1, vI p2, vI p3, vU, vU, vU, vU, vU, vU, vU, vU, vU, vU, vU, vU, vU] [])) t → Steps p.tables e below (s₁.setTop (entryFrame m #[(.int p1), (.int p2), (.int p3)] maxLocals)) t := fun t k => castTop (ef_0 m p1 p2 p3) k
  have hS0 : s.Since s.vm h0.size := (State.WarmedH.refl s).since _
  obtain ⟨T4, h4, X4, e4, E4, A4, D4, -, st4⟩ := newO X0 hx hZ hown (hi 0 rfl) (hi 1 rfl) (hi 2 rfl) e0 (g := (mkF m 48 #[vI p1, vI p2, vI p3, vI (t0_0 p1), vI (1 : Int32), vI (t0_2 p1), vI (1 : Int32), vU, vU, vU, vU, vU, vU, vU, vU, vU] [])) rfl (hb hby at_48) (by decide) (by decide)
  obtain ⟨b4, g4⟩ : ∃ z, z = h0.size := ⟨_, rfl⟩
  rw [← g4] at A4 D4 st4
  have g_b4 : n0 ≤ b4 := Nat.le_trans Z0 (Nat.le_of_eq g4.symm)
  have sz_b4 : h0.size ≤ b4 := Nat.le_trans (Nat.le_refl h0.size) (Nat.le_of_eq g4.symm)
  have F_coder_b4 : Fld Z h4 b4 "java/lang/String" "coder" "B" (.int (0 : Int32)) := D4 (Or.inr (hi 27 rfl)) (ty := .byte) (by decide)
  have F_value_b4 : Fld Z h4 b4 "java/lang/String" "value" "[B" .null := D4 (Or.inr (hi 29 rfl)) (ty := (.array .byte)) (by decide)
  obtain ⟨T5, h5, k5, X5, e5, E5, A5, st5⟩ := newP X4 hx hZ (hi 3 rfl) e4 (g := (mkF m 53 #[vI p1, vI p2, vI p3, vI (t0_0 p1), vI (1 : Int32), vI (t0_2 p1), vI (1 : Int32), vU, vU, vU, vU, vU, vU, vU, vU, vU] [(.int (2 : Int32)), (.ref b4), (.ref b4)])) rfl (hb hby at_53) rfl (by decide) (cap := 2) (by decide) (by decide) (by decide) (by decide)
  obtain ⟨b5, g5⟩ : ∃ z, z = h4.size := ⟨_, rfl⟩
  rw [← g5] at A5 st5
  have g_b5 : n0 ≤ b5 := Nat.le_trans (Nat.le_trans Z0 E4.1) (Nat.le_of_eq g5.symm)
  have sz_b5 : h0.size ≤ b5 := Nat.le_trans (Nat.le_trans (Nat.le_refl h0.size) E4.1) (Nat.le_of_eq g5.symm)
  have V_b5 : Arv Z h5 b5 k5 .char (2 : Int32) [(.int (0 : Int32)), (.int (0 : Int32))] (.int (0 : Int32)) := (Arv.new A5 (by decide)).pad (pad_rep [] (.int (0 : Int32)) 2)
  obtain ⟨cl_b5_0, Ar_b5_0, q_b5_0, Sz_b5_0, Ng_b5_0, Ha_b5_0, Gt_b5_0⟩ := id V_b5
  have hin_b5_0 : ¬ ((0 : Int32) < 0 ∨ cl_b5_0.slots.size ≤ ((0 : Int32)).toNatClampNeg) := inb_of Sz_b5_0 ⟨by decide, by decide⟩
  obtain ⟨T6, h6, X6, e6, W6, st6⟩ := stC X5 hx hZ e5 Ar_b5_0 (j := (0 : Int32)) hin_b5_0 (g := (mkF m 63 #[vI p1, vI p2, vI p3, vI (t0_0 p1), vI (1 : Int32), vI (t0_2 p1), vI (1 : Int32), vU, vU, vU, vU, vU, vU, vU, vU, vU] [(.int (t0_3 p2)), (.int (0 : Int32)), (.ref b5), (.ref b5), (.ref b4), (.ref b4)])) rfl rfl (hb hby at_63)
  have V6 : Arv Z h6 b5 k5 .char (2 : Int32) [(.int (nar .char (t0_3 p2))), (.int (0 : Int32))] (.int (0 : Int32)) := Arv.set Ar_b5_0 q_b5_0 Sz_b5_0 Ng_b5_0 Ha_b5_0 Gt_b5_0 (fits_nar_char _) W6 0 rfl (Nat.le_of_ble_eq_true rfl)
  have N6 := Fr.snoc X6 N0 g_b5
  obtain ⟨cl_b5_1, Ar_b5_1, q_b5_1, Sz_b5_1, Ng_b5_1, Ha_b5_1, Gt_b5_1⟩ := id V6
  have hin_b5_1 : ¬ ((1 : Int32) < 0 ∨ cl_b5_1.slots.size ≤ ((1 : Int32)).toNatClampNeg) := inb_of Sz_b5_1 ⟨by decide, by decide⟩
  obtain ⟨T7, h7, X7, e7, W7, st7⟩ := stC X6 hx hZ e6 Ar_b5_1 (j := (1 : Int32)) hin_b5_1 (g := (mkF m 75 #[vI p1, vI p2, vI p3, vI (t0_0 p1), vI (1 : Int32), vI (t0_2 p1), vI (1 : Int32), vU, vU, vU, vU, vU, vU, vU, vU, vU] [(.int (t0_5 p2)), (.int (1 : Int32)), (.ref b5), (.ref b5), (.ref b4), (.ref b4)])) rfl rfl (hb hby at_75)
  have V7 : Arv Z h7 b5 k5 .char (2 : Int32) [(.int (nar .char (t0_3 p2))), (.int (nar .char (t0_5 p2)))] (.int (0 : Int32)) := Arv.set Ar_b5_1 q_b5_1 Sz_b5_1 Ng_b5_1 Ha_b5_1 Gt_b5_1 (fits_nar_char _) W7 1 rfl (Nat.le_of_ble_eq_true rfl)
  have N7 := Fr.snoc X7 N6 g_b5
  have f2 := ((((S_COMPACT_STRINGS.ext E4).ext E5).wr W6).wr W7)
  have f3 := (((F_coder_b4.ext E5).other W6 (Or.inl (Nat.ne_of_lt (Nat.lt_of_lt_of_le A4.lt (Nat.le_of_eq g5.symm))))).other W7 (Or.inl (Nat.ne_of_lt (Nat.lt_of_lt_of_le A4.lt (Nat.le_of_eq g5.symm)))))
  have f4 := (((F_value_b4.ext E5).other W6 (Or.inl (Nat.ne_of_lt (Nat.lt_of_lt_of_le A4.lt (Nat.le_of_eq g5.symm))))).other W7 (Or.inl (Nat.ne_of_lt (Nat.lt_of_lt_of_le A4.lt (Nat.le_of_eq g5.symm)))))
  have f5 := (((A4.ext E5).wr W6).wr W7)
  obtain ⟨_, _, ⟨T8, L8, k8, n8⟩, -, X8, ⟨Lc8, hQ8, l8, y8, z8⟩, st8⟩ := X7.specialBack hx (y := (⟨"java/lang/String", "<init>", "([C)V"⟩ : MethodName)) rfl hown (mvT hZ (hi 4 rfl)) (mvT hZ (hi 5 rfl)) (mvT hZ (hi 6 rfl)) (by decide) (backOf (W := 1) (rm1 l Z a0 hw [] b4 b5 s_COMPACT_STRINGS (0 : Int32) .null k5 (nar .char (t0_3 p2)) (nar .char (t0_5 p2)) h7 n0 (Nat.le_trans (Nat.le_trans (Nat.le_trans (Nat.le_trans Z0 E4.1) E5.1) (Keep.of_wr W6).1) (Keep.of_wr W7).1) f2 f3 f4 f5 g_b4 V7 hcs (own_le255 _ (own_cc _ (own_cc _ (own_m255 _)))) (own_le255 _ (own_cc _ (own_cc _ (own_m255 _))))) hZ (hi 6 rfl) (hi 2 rfl) (by decide) (by decide)) (g := (mkF m 76 #[vI p1, vI p2, vI p3, vI (t0_0 p1), vI (1 : Int32), vI (t0_2 p1), vI (1 : Int32), vU, vU, vU, vU, vU, vU, vU, vU, vU] [(.ref b5), (.ref b4), (.ref b4)])) rfl (by rw [hml]; rfl) (Steps.refl _) (a := b4) (argsL := [(.ref b5)]) (rest := [(.ref b4)]) (lenOf pd__28_5bC_29V rfl) rfl (by show 2 * 0 + _ ≤ _; exact Nat.le_of_eq rfl) (hb hby at_76) (fun _ _ => ⟨rfl, e7, (by decide : 2 + 1 ≤ _), (by decide : 6 + 2 ≤ _)⟩)
  dsimp only [Pt.U, Pt.locs, Pt.cells, Pt.slots] at X8 l8 y8 z8 st8 hQ8
  subst l8 y8 z8
  obtain ⟨rfl, N8q, K8, i8_0, i8_1⟩ := hQ8
  have N8 := Fr.app N7 N8q
  have f6 := (own_sta_keep f2 K8 (own_qc (own_nst f5) own_q0))
  obtain ⟨_, _, ⟨T9, L9, k9, n9⟩, -, X9, ⟨Lc9, hQ9, l9, y9, z9⟩, st9⟩ := Jvm.LawKit.callS X8 hx (y := (⟨"java/lang/String", "valueOf", "(C)Ljava/lang/String;"⟩ : MethodName)) hown (mvT hZ (hi 30 rfl)) (mvT hZ (hi 31 rfl)) (mvT hZ (hi 2 rfl)) (mvT hZ (hi 32 rfl)) (by decide) (backOf (W := 0) (rm7 l Z a0 hw [] (t0_7 p2) s_COMPACT_STRINGS T8.heap n0 (Nat.le_trans (Nat.le_trans (Nat.le_trans (Nat.le_trans (Nat.le_trans Z0 E4.1) E5.1) (Keep.of_wr W6).1) (Keep.of_wr W7).1) K8.1) f6 hcs (own_F8 _ (own_cc _ (own_m255 _)))) hZ (hi 32 rfl) (hi 2 rfl) (by decide) (by decide)) (g := (mkF m 90 #[vI p1, vI p2, vI p3, vI (t0_0 p1), vI (1 : Int32), vI (t0_2 p1), vI (1 : Int32), vA b4, vU, vU, vU, vU, vU, vU, vU, vU] [(.int (t0_7 p2))])) rfl (by rw [hml]; rfl) (argsL := [(.int (t0_7 p2))]) (rest := []) (lenOf pd__28C_29Ljava_2flang_2fString_3b rfl) rfl (by show 2 * 0 + _ ≤ _; exact Nat.le_of_eq rfl) (hb hby at_90) (fun _ _ => ⟨rfl, rfl, (by decide : 3 + 2 ≤ _), (by decide : 8 + 5 ≤ _)⟩)
  dsimp only [Pt.U, Pt.locs, Pt.cells, Pt.slots] at X9 l9 y9 z9 st9 hQ9
  subst l9 y9 z9
  obtain ⟨br_9, ⟨rfl, N9q, K9⟩⟩ := hQ9
  have N9 := Fr.app N8 N9q
  have f7 := (V7.keep K8 (own_nm (Ne.symm (Nat.ne_of_lt (Nat.lt_of_lt_of_le A4.lt (Nat.le_of_eq g5.symm)))) own_n0))
  have f8 := (own_sta_keep f6 K9 own_q0)
  obtain ⟨_, _, ⟨T10, L10, k10, n10⟩, -, X10w, hS10w, hg10, ⟨Lc10, hQ10, l10, y10, z10⟩, st10⟩ := Jvm.RoadKit.callSS X9 hx (y := (⟨"underdeck/deck/ColumnRequiredPinLaw", "drawn", "(I)Ljava/lang/String;"⟩ : MethodName)) hown (mvT hZ (hi 44 rfl)) (mvT hZ (hi 45 rfl)) (mvT hZ (hi 46 rfl)) (mvT hZ (hi 47 rfl)) (by decide) (backOfS (W := 0) (rm11 l Z a0 hw [] p3 s_COMPACT_STRINGS T9.heap n0 (Nat.le_trans (Nat.le_trans (Nat.le_trans (Nat.le_trans (Nat.le_trans (Nat.le_trans Z0 E4.1) E5.1) (Keep.of_wr W6).1) (Keep.of_wr W7).1) K8.1) K9.1) f8 hcs) hZ (hi 47 rfl) (hi 46 rfl) (by decide) (by decide)) (g := (mkF m 96 #[vI p1, vI p2, vI p3, vI (t0_0 p1), vI (1 : Int32), vI (t0_2 p1), vI (1 : Int32), vA b4, vA br_9, vU, vU, vU, vU, vU, vU, vU] [(.int p3)])) rfl (by rw [hml]; rfl) (argsL := [(.int p3)]) (rest := []) (lenOf pd__28I_29Ljava_2flang_2fString_3b rfl) rfl (by show 2 * 0 + _ ≤ _; exact Nat.le_of_eq rfl) (hb hby at_96) (fun _ _ => ⟨rfl, rfl, (by decide : 5 + 2 ≤ _), (by decide : 13 + 5 ≤ _)⟩)
  dsimp only [Pt.U, Pt.locs, Pt.cells, Pt.slots] at X10w hS10w hg10 l10 y10 z10 st10 hQ10
  subst l10 y10 z10
  obtain ⟨X10, hS10, hZ10, hown10⟩ := rebS hS0 (show _ ≤ T9.heap.size from by exact (Nat.le_trans (Nat.le_trans (Nat.le_trans (Nat.le_trans (Nat.le_trans (Nat.le_trans (Nat.le_refl h0.size) E4.1) E5.1) (Keep.of_wr W6).1) (Keep.of_wr W7).1) K8.1) K9.1)) X10w hS10w hg10 hZ hown
  obtain ⟨br_10, ⟨rfl, N10q, K10⟩⟩ := hQ10
  have N10 := Fr.app N9 N10q
  have f9 := (i8_0.keep K9)
  have f10 := (f7.keep K9 own_n0)
  have f11 := (own_sta_keep f8 K10 own_q0)
  obtain ⟨_, _, ⟨T11, L11, k11, n11⟩, -, X11w, hS11w, hg11, ⟨Lc11, hQ11, l11, y11, z11⟩, st11⟩ := Jvm.RoadKit.callSS X10 hx (y := (⟨"underdeck/deck/ColumnRequiredPinLaw", "drawn", "(I)Ljava/lang/String;"⟩ : MethodName)) hown10 (mvT hZ10 (hi 44 rfl)) (mvT hZ10 (hi 45 rfl)) (mvT hZ10 (hi 46 rfl)) (mvT hZ10 (hi 47 rfl)) (by decide) (backOfS (W := 0) (rm11 l Z a0 hw [] (t0_8 p3) s_COMPACT_STRINGS T10.heap n0 (Nat.le_trans (Nat.le_trans (Nat.le_trans (Nat.le_trans (Nat.le_trans (Nat.le_trans (Nat.le_trans Z0 E4.1) E5.1) (Keep.of_wr W6).1) (Keep.of_wr W7).1) K8.1) K9.1) K10.1) f11 hcs) hZ10 (hi 47 rfl) (hi 46 rfl) (by decide) (by decide)) (g := (mkF m 105 #[vI p1, vI p2, vI p3, vI (t0_0 p1), vI (1 : Int32), vI (t0_2 p1), vI (1 : Int32), vA b4, vA br_9, vA br_10, vU, vU, vU, vU, vU, vU] [(.int (t0_8 p3))])) rfl (by rw [hml]; rfl) (argsL := [(.int (t0_8 p3))]) (rest := []) (lenOf pd__28I_29Ljava_2flang_2fString_3b rfl) rfl (by show 2 * 0 + _ ≤ _; exact Nat.le_of_eq rfl) (hb hby at_105) (fun _ _ => ⟨rfl, rfl, (by decide : 7 + 2 ≤ _), (by decide : 18 + 5 ≤ _)⟩)
  dsimp only [Pt.U, Pt.locs, Pt.cells, Pt.slots] at X11w hS11w hg11 l11 y11 z11 st11 hQ11
  subst l11 y11 z11
  obtain ⟨X11, hS11, hZ11, hown11⟩ := rebS hS10 (show _ ≤ T10.heap.size from by exact (Nat.le_refl _)) X11w hS11w hg11 hZ10 hown10
  obtain ⟨br_11, ⟨rfl, N11q, K11⟩⟩ := hQ11
  have N11 := Fr.app N10 N11q
  have f12 := (f9.keep K10)
  have f13 := (f10.keep K10 own_n0)
  obtain ⟨_, _, ⟨T12, L12, k12, n12⟩, -, X12, ⟨Lc12, hQ12, l12, y12, z12⟩, st12⟩ := Jvm.LawKit.callS X11 hx (y := (⟨"java/util/Optional", "of", "(Ljava/lang/Object;)Ljava/util/Optional;"⟩ : MethodName)) hown11 (mvT hZ11 (hi 104 rfl)) (mvT hZ11 (hi 105 rfl)) (mvT hZ11 (hi 53 rfl)) (mvT hZ11 (hi 106 rfl)) (by decide) (backOf (W := 0) (rm18 l Z a0 hw [] br_10 T11.heap n0 (Nat.le_trans (Nat.le_trans (Nat.le_trans (Nat.le_trans (Nat.le_trans (Nat.le_trans (Nat.le_trans (Nat.le_trans Z0 E4.1) E5.1) (Keep.of_wr W6).1) (Keep.of_wr W7).1) K8.1) K9.1) K10.1) K11.1) ) hZ11 (hi 106 rfl) (hi 53 rfl) (by decide) (by decide)) (g := (mkF m 117 #[vI p1, vI p2, vI p3, vI (t0_0 p1), vI (1 : Int32), vI (t0_2 p1), vI (1 : Int32), vA b4, vA br_9, vA br_10, vA br_11, vU, vU, vU, vU, vU] [(.ref br_10)])) rfl (by rw [hml]; rfl) (argsL := [(.ref br_10)]) (rest := []) (lenOf pd__28Ljava_2flang_2fObject_3b_29Ljava_2futil_2fOptional_3b rfl) rfl (by show 2 * 0 + _ ≤ _; exact Nat.le_of_eq rfl) (hb hby at_117) (fun _ _ => ⟨rfl, rfl, (by decide : 9 + 1 ≤ _), (by decide : 23 + 1 ≤ _)⟩)
  dsimp only [Pt.U, Pt.locs, Pt.cells, Pt.slots] at X12 l12 y12 z12 st12 hQ12
  subst l12 y12 z12
  obtain ⟨b2_12, ⟨rfl, N12q, K12, i12_0, i12_1, i12_2⟩⟩ := hQ12
  have N12 := Fr.app N11 N12q
  have f14 := (f12.keep K11)
  have f15 := (f13.keep K11 own_n0)
  have sz_b2_12 : h0.size ≤ b2_12 := Nat.le_trans (Nat.le_trans (Nat.le_trans (Nat.le_trans (Nat.le_trans (Nat.le_trans (Nat.le_trans (Nat.le_trans (Nat.le_trans (Nat.le_refl h0.size) E4.1) E5.1) (Keep.of_wr W6).1) (Keep.of_wr W7).1) K8.1) K9.1) K10.1) K11.1) i12_0
  have g_b2_12 : n0 ≤ b2_12 := Nat.le_trans Z0 sz_b2_12
  have f16 := (own_sta_keep (own_sta_keep (own_sta_keep (own_sta_keep (own_sta_keep ((((S_EMPTY.ext E4).ext E5).wr W6).wr W7) K8 (own_qc (own_nst f5) own_q0)) K9 own_q0) K10 own_q0) K11 own_q0) K12 own_q0)
  obtain ⟨_, _, ⟨T13, L13, k13, n13⟩, -, X13, ⟨Lc13, hQ13, l13, y13, z13⟩, st13⟩ := Jvm.LawKit.callS X12 hx (y := (⟨"java/util/Optional", "empty", "()Ljava/util/Optional;"⟩ : MethodName)) hown11 (mvT hZ11 (hi 51 rfl)) (mvT hZ11 (hi 52 rfl)) (mvT hZ11 (hi 53 rfl)) (mvT hZ11 (hi 54 rfl)) (by decide) (backOf (W := 0) (rm12 l Z a0 hw [] s_EMPTY T12.heap n0 (Nat.le_trans (Nat.le_trans (Nat.le_trans (Nat.le_trans (Nat.le_trans (Nat.le_trans (Nat.le_trans (Nat.le_trans (Nat.le_trans Z0 E4.1) E5.1) (Keep.of_wr W6).1) (Keep.of_wr W7).1) K8.1) K9.1) K10.1) K11.1) K12.1) f16) hZ11 (hi 54 rfl) (hi 53 rfl) (by decide) (by decide)) (g := (mkF m 133 #[vI p1, vI p2, vI p3, vI (t0_0 p1), vI (1 : Int32), vI (t0_2 p1), vI (1 : Int32), vA b4, vA br_9, vA br_10, vA br_11, vA b2_12, vU, vU, vU, vU] [])) rfl (by rw [hml]; rfl) (argsL := []) (rest := []) (lenOf pd__28_29Ljava_2futil_2fOptional_3b rfl) rfl (by show 2 * 0 + _ ≤ _; exact Nat.le_of_eq rfl) (hb hby at_133) (fun _ _ => ⟨rfl, rfl, (by decide : 10 + 0 ≤ _), (by decide : 24 + 0 ≤ _)⟩)
  dsimp only [Pt.U, Pt.locs, Pt.cells, Pt.slots] at X13 l13 y13 z13 st13 hQ13
  subst l13 y13 z13
  obtain ⟨rfl, N13q, e13⟩ := hQ13
  have N13 := Fr.app N12 N13q
  obtain ⟨_, _, ⟨T14, L14, k14, n14⟩, -, X14, ⟨Lc14, hQ14, l14, y14, z14⟩, st14⟩ := Jvm.LawKit.callS X13 hx (y := (⟨"java/util/Optional", "of", "(Ljava/lang/Object;)Ljava/util/Optional;"⟩ : MethodName)) hown11 (mvT hZ11 (hi 104 rfl)) (mvT hZ11 (hi 105 rfl)) (mvT hZ11 (hi 53 rfl)) (mvT hZ11 (hi 106 rfl)) (by decide) (backOf (W := 0) (rm18 l Z a0 hw [] br_11 T12.heap n0 (Nat.le_trans (Nat.le_trans (Nat.le_trans (Nat.le_trans (Nat.le_trans (Nat.le_trans (Nat.le_trans (Nat.le_trans (Nat.le_trans Z0 E4.1) E5.1) (Keep.of_wr W6).1) (Keep.of_wr W7).1) K8.1) K9.1) K10.1) K11.1) K12.1) ) hZ11 (hi 106 rfl) (hi 53 rfl) (by decide) (by decide)) (g := (mkF m 173 #[vI p1, vI p2, vI p3, vI (t0_0 p1), vI (1 : Int32), vI (t0_2 p1), vI (1 : Int32), vA b4, vA br_9, vA br_10, vA br_11, vA b2_12, vA s_EMPTY, vU, vU, vU] [(.ref br_11)])) rfl (by rw [hml]; rfl) (argsL := [(.ref br_11)]) (rest := []) (lenOf pd__28Ljava_2flang_2fObject_3b_29Ljava_2futil_2fOptional_3b rfl) rfl (by show 2 * 0 + _ ≤ _; exact Nat.le_of_eq rfl) (hb hby at_173) (fun _ _ => ⟨rfl, e13, (by decide : 10 + 1 ≤ _), (by decide : 24 + 1 ≤ _)⟩)
  dsimp only [Pt.U, Pt.locs, Pt.cells, Pt.slots] at X14 l14 y14 z14 st14 hQ14
  subst l14 y14 z14
  obtain ⟨b2_14, ⟨rfl, N14q, K14, i14_0, i14_1, i14_2⟩⟩ := hQ14
  have N14 := Fr.app N13 N14q
  have f17 := (f14.keep K12)
  have f18 := (f15.keep K12 own_n0)
  have sz_b2_14 : h0.size ≤ b2_14 := Nat.le_trans (Nat.le_trans (Nat.le_trans (Nat.le_trans (Nat.le_trans (Nat.le_trans (Nat.le_trans (Nat.le_trans (Nat.le_trans (Nat.le_trans (Nat.le_refl h0.size) E4.1) E5.1) (Keep.of_wr W6).1) (Keep.of_wr W7).1) K8.1) K9.1) K10.1) K11.1) K12.1) i14_0
  have g_b2_14 : n0 ≤ b2_14 := Nat.le_trans Z0 sz_b2_14
  have f19 := (f17.keep K14)
  have f20 := (f18.keep K14 own_n0)
  have f21 := (i12_1.keep K14)
  obtain ⟨T15, h15, X15, e15, E15, A15, D15, -, st15⟩ := newO X14 hx hZ11 hown11 (hi 56 rfl) (hi 57 rfl) (hi 58 rfl) rfl (g := (mkF m 184 #[vI p1, vI p2, vI p3, vI (t0_0 p1), vI (1 : Int32), vI (t0_2 p1), vI (1 : Int32), vA b4, vA br_9, vA br_10, vA br_11, vA b2_12, vA s_EMPTY, vA b2_14, vU, vU] [])) rfl (hb hby at_184) (by decide) (by decide)
  obtain ⟨b15, g15⟩ : ∃ z, z = T14.heap.size := ⟨_, rfl⟩
  rw [← g15] at A15 D15 st15
  have g_b15 : n0 ≤ b15 := Nat.le_trans (Nat.le_trans (Nat.le_trans (Nat.le_trans (Nat.le_trans (Nat.le_trans (Nat.le_trans (Nat.le_trans (Nat.le_trans (Nat.le_trans (Nat.le_trans Z0 E4.1) E5.1) (Keep.of_wr W6).1) (Keep.of_wr W7).1) K8.1) K9.1) K10.1) K11.1) K12.1) K14.1) (Nat.le_of_eq g15.symm)
  have sz_b15 : h0.size ≤ b15 := Nat.le_trans (Nat.le_trans (Nat.le_trans (Nat.le_trans (Nat.le_trans (Nat.le_trans (Nat.le_trans (Nat.le_trans (Nat.le_trans (Nat.le_trans (Nat.le_trans (Nat.le_refl h0.size) E4.1) E5.1) (Keep.of_wr W6).1) (Keep.of_wr W7).1) K8.1) K9.1) K10.1) K11.1) K12.1) K14.1) (Nat.le_of_eq g15.symm)
  have F_name_b15 : Fld Z h15 b15 "underdeck/deck/Column" "name" "Ljava/lang/String;" .null := D15 (Or.inr (hi 78 rfl)) (ty := (.object "java/lang/String")) (by decide)
  have F_type_b15 : Fld Z h15 b15 "underdeck/deck/Column" "type" "Ljava/lang/String;" .null := D15 (Or.inr (hi 80 rfl)) (ty := (.object "java/lang/String")) (by decide)
  have F_nullable_b15 : Fld Z h15 b15 "underdeck/deck/Column" "nullable" "Z" (.int (0 : Int32)) := D15 (Or.inr (hi 82 rfl)) (ty := .boolean) (by decide)
  have F_defaultValue_b15 : Fld Z h15 b15 "underdeck/deck/Column" "defaultValue" "Ljava/util/Optional;" .null := D15 (Or.inr (hi 84 rfl)) (ty := (.object "java/util/Optional")) (by decide)
  have F_identity_b15 : Fld Z h15 b15 "underdeck/deck/Column" "identity" "Ljava/util/Optional;" .null := D15 (Or.inr (hi 86 rfl)) (ty := (.object "java/util/Optional")) (by decide)
  have F_generated_b15 : Fld Z h15 b15 "underdeck/deck/Column" "generated" "Ljava/util/Optional;" .null := D15 (Or.inr (hi 88 rfl)) (ty := (.object "java/util/Optional")) (by decide)
  obtain ⟨_, _, ⟨T16, L16, k16, n16⟩, -, X16w, hS16w, hg16, ⟨Lc16, hQ16, l16, y16, z16⟩, st16⟩ := X15.specialBackS hx (y := (⟨"underdeck/deck/Column", "<init>", "(Ljava/lang/String;Ljava/lang/String;ZLjava/util/Optional;Ljava/util/Optional;Ljava/util/Optional;)V"⟩ : MethodName)) rfl hown11 (mvT hZ11 (hi 59 rfl)) (mvT hZ11 (hi 60 rfl)) (mvT hZ11 (hi 61 rfl)) (by decide) (backOfS (W := 1) (rm13 l Z a0 hw [] b15 b4 br_9 (t0_0 p1) b2_12 s_EMPTY b2_14 .null .null (0 : Int32) .null .null .null h15 n0 (Nat.le_trans (Nat.le_trans (Nat.le_trans (Nat.le_trans (Nat.le_trans (Nat.le_trans (Nat.le_trans (Nat.le_trans (Nat.le_trans (Nat.le_trans (Nat.le_trans Z0 E4.1) E5.1) (Keep.of_wr W6).1) (Keep.of_wr W7).1) K8.1) K9.1) K10.1) K11.1) K12.1) K14.1) E15.1) A15 F_name_b15 g_b15 F_type_b15 F_nullable_b15 F_defaultValue_b15 F_identity_b15 F_generated_b15) hZ11 (hi 61 rfl) (hi 58 rfl) (by decide) (by decide)) (g := (mkF m 199 #[vI p1, vI p2, vI p3, vI (t0_0 p1), vI (1 : Int32), vI (t0_2 p1), vI (1 : Int32), vA b4, vA br_9, vA br_10, vA br_11, vA b2_12, vA s_EMPTY, vA b2_14, vU, vU] [(.ref b2_14), (.ref s_EMPTY), (.ref b2_12), (.int (t0_0 p1)), (.ref br_9), (.ref b4), (.ref b15), (.ref b15)])) rfl (by rw [hml]; rfl) (Steps.refl _) (a := b15) (argsL := [(.ref b4), (.ref br_9), (.int (t0_0 p1)), (.ref b2_12), (.ref s_EMPTY), (.ref b2_14)]) (rest := [(.ref b15)]) (lenOf pd__28Ljava_2flang_2fString_3bLjava_2flang_2fString_3bZLjava_2futil_2fOptional_3bLjava_2futil_2fOptional_3bLjava_2futil_2fOptional_3b_29V rfl) rfl (by show 2 * 0 + _ ≤ _; exact Nat.le_of_eq rfl) (hb hby at_199) (fun _ _ => ⟨rfl, e15, (by decide : 12 + 10 ≤ _), (by decide : 31 + 168 ≤ _)⟩)
  dsimp only [Pt.U, Pt.locs, Pt.cells, Pt.slots] at X16w hS16w hg16 l16 y16 z16 st16 hQ16
  subst l16 y16 z16
  obtain ⟨X16, hS16, hZ16, hown16⟩ := rebS hS11 (show _ ≤ T15.heap.size from by rw [e15]; exact (Nat.le_trans (Nat.le_trans (Nat.le_trans (Nat.le_refl _) K12.1) K14.1) E15.1)) X16w hS16w hg16 hZ11 hown11
  obtain ⟨rfl, N16q, K16, i16_0, i16_1, i16_2, i16_3, i16_4, i16_5, i16_6⟩ := hQ16
  have N16 := Fr.app N14 N16q
  have f22 := (((i12_2.keep K14 own_n0).ext E15).keep K16 (own_nm (Nat.ne_of_lt (Nat.lt_of_lt_of_le f21.lt (Nat.le_of_eq g15.symm))) own_n0))
  have f23 := ((f21.ext E15).keep K16)
  obtain ⟨cq17, kq17, q17a, q17b, q17c⟩ := isOf hZ16 rfl i16_0
  obtain ⟨_, _, ⟨T17, L17, k17, n17⟩, -, X17, ⟨Lc17, hQ17, l17, y17, z17⟩, st17⟩ := X16.virtualBack hx (y := (⟨"underdeck/deck/Column", "required", "()Z"⟩ : MethodName)) (z := (⟨"underdeck/deck/Column", "required", "()Z"⟩ : MethodName)) hown16 (mvT hZ16 (hi 89 rfl)) (mvT hZ16 (hi 90 rfl)) (notFace_of_selects (args := #[]) (mvT hZ16 (hi 92 rfl))) (mvT hZ16 (hi 92 rfl)) (mvT hZ16 (hi 91 rfl)) (by decide) (backOf (W := 0) (rm16v l Z a0 hw [] b15 (nar .boolean (t0_0 p1)) b2_12 br_10 T16.heap n0 (Nat.le_trans (Nat.le_trans (Nat.le_trans (Nat.le_trans (Nat.le_trans (Nat.le_trans (Nat.le_trans (Nat.le_trans (Nat.le_trans (Nat.le_trans (Nat.le_trans (Nat.le_trans Z0 E4.1) E5.1) (Keep.of_wr W6).1) (Keep.of_wr W7).1) K8.1) K9.1) K10.1) K11.1) K12.1) K14.1) E15.1) K16.1) i16_3 i16_4 f22 f23) hZ16 (hi 93 rfl) (hi 58 rfl) (by decide) (by decide)) q17a q17c (g := (mkF m 240 #[vI p1, vI p2, vI p3, vI (t0_0 p1), vI (1 : Int32), vI (t0_2 p1), vI (1 : Int32), vA b4, vA br_9, vA br_10, vA br_11, vA b2_12, vA s_EMPTY, vA b2_14, vA b15, vI (0 : Int32)] [(.ref b15)])) rfl (by rw [hml]; rfl) (Steps.refl _) (argsL := []) (rest := []) (lenOf pd__28_29Z rfl) rfl (by show 2 * 0 + _ ≤ _; exact Nat.le_of_eq rfl) (hb hby at_240) (fun _ _ => ⟨rfl, rfl, (by decide : 22 + 0 ≤ _), (by decide : 199 + 0 ≤ _)⟩)
  dsimp only [Pt.U, Pt.locs, Pt.cells, Pt.slots] at X17 l17 y17 z17 st17 hQ17
  subst l17 y17 z17
  obtain ⟨rfl, N17q, e17⟩ := hQ17
  have N17 := Fr.app N16 N17q
  obtain ⟨fs, hr, hrun, hended, hw1, hw2, hw3, hw4⟩ := X17.leaveW hS16 (show _ ≤ T17.heap.size from by rw [e17]; exact (Nat.le_refl _)) (v := some (.int (1 : Int32))) (fun h => by rw [Bd.returns] at h; cases h)
  refine ⟨_, _, pre0 _ ?_, hrun, hended, _, _, rfl, ?_, hw1, hw2, hw3, hw4.mono (by decide) (by decide)⟩
  · show Steps p.tables e below (s₁.setTop (mkF m 0 #[vI p1, vI p2, vI p3, vU, vU, vU, vU, vU, vU, vU, vU, vU, vU, vU, vU, vU] [])) _
    refine XS.iloadN X0.here hx rfl (hb hby at_0) rfl ?_
    refine XS.iconst X0.here hx rfl (hb hby at_1) ?_
    refine XS.iand X0.here hx rfl (hb hby at_2) rfl ?_
    show Steps p.tables e below (s₁.setTop (mkF m 3 #[vI p1, vI p2, vI p3, vU, vU, vU, vU, vU, vU, vU, vU, vU, vU, vU, vU, vU] [(.int (p1 &&& (1 : Int32)))])) _
    have J3 : ∀ target, Steps p.tables e below (s₁.setTop (mkF m 11 #[vI p1, vI p2, vI p3, vU, vU, vU, vU, vU, vU, vU, vU, vU, vU, vU, vU, vU] [(.int (t0_0 p1))])) target → Steps p.tables e below (s₁.setTop (mkF m 3 #[vI p1, vI p2, vI p3, vU, vU, vU, vU, vU, vU, vU, vU, vU, vU, vU, vU, vU] [(.int (p1 &&& (1 : Int32)))])) target := by
      intro target kt
      by_cases hm3 : (p1 &&& (1 : Int32)) = (0 : Int32)
      · skip
        show Steps p.tables e below (s₁.setTop (mkF m 3 #[vI p1, vI p2, vI p3, vU, vU, vU, vU, vU, vU, vU, vU, vU, vU, vU, vU, vU] [(.int (p1 &&& (1 : Int32)))])) _
        refine XS.ifYes X0.here hx rfl (pc0 := 3) (pc' := 10) rfl (hb hby at_3) rfl ((if0 _ _).trans (teq hm3).1) (by decide) (by decide) ?_
        refine XS.iconst X0.here hx rfl (hb hby at_10) ?_
        rw [show (t0_0 p1) = (0 : Int32) from if_pos hm3] at kt
        exact kt
      · skip
        show Steps p.tables e below (s₁.setTop (mkF m 3 #[vI p1, vI p2, vI p3, vU, vU, vU, vU, vU, vU, vU, vU, vU, vU, vU, vU, vU] [(.int (p1 &&& (1 : Int32)))])) _
        refine XS.ifNo X0.here hx rfl (hb hby at_3) rfl ((if0 _ _).trans (feq hm3).1) ?_
        refine XS.iconst X0.here hx rfl (hb hby at_6) ?_
        show Steps p.tables e below (s₁.setTop (mkF m 7 #[vI p1, vI p2, vI p3, vU, vU, vU, vU, vU, vU, vU, vU, vU, vU, vU, vU, vU] [(.int (1 : Int32))])) _
        refine XS.goto X0.here hx rfl (pc0 := 7) (pc' := 11) rfl (hb hby at_7) (by decide) (by decide) ?_
        rw [show (t0_0 p1) = (1 : Int32) from if_neg hm3] at kt
        exact kt
    refine J3 _ ?_
    refine XS.istoreN X0.here hx rfl (hb hby at_11) rfl (l' := #[vI p1, vI p2, vI p3, vI (t0_0 p1), vU, vU, vU, vU, vU, vU, vU, vU, vU, vU, vU, vU]) rfl ?_
    refine XS.iloadN X0.here hx rfl (hb hby at_12) rfl ?_
    refine XS.iconst X0.here hx rfl (hb hby at_13) ?_
    refine XS.iand X0.here hx rfl (hb hby at_14) rfl ?_
    show Steps p.tables e below (s₁.setTop (mkF m 15 #[vI p1, vI p2, vI p3, vI (t0_0 p1), vU, vU, vU, vU, vU, vU, vU, vU, vU, vU, vU, vU] [(.int (p1 &&& (2 : Int32)))])) _
    refine XS.ifNo X0.here hx rfl (hb hby at_15) rfl ((if0 _ _).trans (feq hc15).1) ?_
    refine XS.iconst X0.here hx rfl (hb hby at_18) ?_
    show Steps p.tables e below (s₁.setTop (mkF m 19 #[vI p1, vI p2, vI p3, vI (t0_0 p1), vU, vU, vU, vU, vU, vU, vU, vU, vU, vU, vU, vU] [(.int (1 : Int32))])) _
    refine XS.goto X0.here hx rfl (pc0 := 19) (pc' := 23) rfl (hb hby at_19) (by decide) (by decide) ?_
    refine XS.istore X0.here hx rfl (hb hby at_23) rfl (l' := #[vI p1, vI p2, vI p3, vI (t0_0 p1), vI (1 : Int32), vU, vU, vU, vU, vU, vU, vU, vU, vU, vU, vU]) rfl ?_
    refine XS.iloadN X0.here hx rfl (hb hby at_25) rfl ?_
    refine XS.iconst X0.here hx rfl (hb hby at_26) ?_
    refine XS.iushr X0.here hx rfl (hb hby at_27) rfl ?_
    refine XS.iconst X0.here hx rfl (hb hby at_28) ?_
    refine XS.iand X0.here hx rfl (hb hby at_29) rfl ?_
    refine XS.iconst X0.here hx rfl (hb hby at_30) ?_
    refine XS.irem X0.here hx rfl (hb hby at_31) rfl (by decide) ?_
    refine XS.istore X0.here hx rfl (hb hby at_32) rfl (l' := #[vI p1, vI p2, vI p3, vI (t0_0 p1), vI (1 : Int32), vI (t0_2 p1), vU, vU, vU, vU, vU, vU, vU, vU, vU, vU]) rfl ?_
    refine XS.iloadN X0.here hx rfl (hb hby at_34) rfl ?_
    refine XS.bipush X0.here hx rfl (hb hby at_35) ?_
    refine XS.iand X0.here hx rfl (hb hby at_37) rfl ?_
    show Steps p.tables e below (s₁.setTop (mkF m 38 #[vI p1, vI p2, vI p3, vI (t0_0 p1), vI (1 : Int32), vI (t0_2 p1), vU, vU, vU, vU, vU, vU, vU, vU, vU, vU] [(.int (p1 &&& (16 : Int32)))])) _
    refine XS.ifNo X0.here hx rfl (hb hby at_38) rfl ((if0 _ _).trans (feq hc38).1) ?_
    refine XS.iconst X0.here hx rfl (hb hby at_41) ?_
    show Steps p.tables e below (s₁.setTop (mkF m 42 #[vI p1, vI p2, vI p3, vI (t0_0 p1), vI (1 : Int32), vI (t0_2 p1), vU, vU, vU, vU, vU, vU, vU, vU, vU, vU] [(.int (1 : Int32))])) _
    refine XS.goto X0.here hx rfl (pc0 := 42) (pc' := 46) rfl (hb hby at_42) (by decide) (by decide) ?_
    refine XS.istore X0.here hx rfl (hb hby at_46) rfl (l' := #[vI p1, vI p2, vI p3, vI (t0_0 p1), vI (1 : Int32), vI (t0_2 p1), vI (1 : Int32), vU, vU, vU, vU, vU, vU, vU, vU, vU]) rfl ?_
    show Steps p.tables e below (s₁.setTop (mkF m 48 #[vI p1, vI p2, vI p3, vI (t0_0 p1), vI (1 : Int32), vI (t0_2 p1), vI (1 : Int32), vU, vU, vU, vU, vU, vU, vU, vU, vU] [])) _
    refine st4 _ ?_
    refine XS.dup X4.here hx rfl (hb hby at_51) rfl rfl ?_
    refine XS.iconst X4.here hx rfl (hb hby at_52) ?_
    show Steps p.tables e below (T4.setTop (mkF m 53 #[vI p1, vI p2, vI p3, vI (t0_0 p1), vI (1 : Int32), vI (t0_2 p1), vI (1 : Int32), vU, vU, vU, vU, vU, vU, vU, vU, vU] [(.int (2 : Int32)), (.ref b4), (.ref b4)])) _
    refine st5 _ ?_
    refine XS.dup X5.here hx rfl (hb hby at_55) rfl rfl ?_
    refine XS.iconst X5.here hx rfl (hb hby at_56) ?_
    refine XS.iloadN X5.here hx rfl (hb hby at_57) rfl ?_
    refine XS.sipush X5.here hx rfl (hb hby at_58) ?_
    refine XS.iand X5.here hx rfl (hb hby at_61) rfl ?_
    refine XS.i2c X5.here hx rfl (hb hby at_62) rfl ?_
    show Steps p.tables e below (T5.setTop (mkF m 63 #[vI p1, vI p2, vI p3, vI (t0_0 p1), vI (1 : Int32), vI (t0_2 p1), vI (1 : Int32), vU, vU, vU, vU, vU, vU, vU, vU, vU] [(.int (t0_3 p2)), (.int (0 : Int32)), (.ref b5), (.ref b5), (.ref b4), (.ref b4)])) _
    refine st6 _ ?_
    refine XS.dup X6.here hx rfl (hb hby at_64) rfl rfl ?_
    refine XS.iconst X6.here hx rfl (hb hby at_65) ?_
    refine XS.iloadN X6.here hx rfl (hb hby at_66) rfl ?_
    refine XS.bipush X6.here hx rfl (hb hby at_67) ?_
    refine XS.iushr X6.here hx rfl (hb hby at_69) rfl ?_
    refine XS.sipush X6.here hx rfl (hb hby at_70) ?_
    refine XS.iand X6.here hx rfl (hb hby at_73) rfl ?_
    refine XS.i2c X6.here hx rfl (hb hby at_74) rfl ?_
    show Steps p.tables e below (T6.setTop (mkF m 75 #[vI p1, vI p2, vI p3, vI (t0_0 p1), vI (1 : Int32), vI (t0_2 p1), vI (1 : Int32), vU, vU, vU, vU, vU, vU, vU, vU, vU] [(.int (t0_5 p2)), (.int (1 : Int32)), (.ref b5), (.ref b5), (.ref b4), (.ref b4)])) _
    refine st7 _ ?_
    show Steps p.tables e below (T7.setTop (mkF m 76 #[vI p1, vI p2, vI p3, vI (t0_0 p1), vI (1 : Int32), vI (t0_2 p1), vI (1 : Int32), vU, vU, vU, vU, vU, vU, vU, vU, vU] [(.ref b5), (.ref b4), (.ref b4)])) _
    refine st8.trans ?_
    refine XS.astore X8.here hx rfl (hb hby at_79) rfl rfl (l' := #[vI p1, vI p2, vI p3, vI (t0_0 p1), vI (1 : Int32), vI (t0_2 p1), vI (1 : Int32), vA b4, vU, vU, vU, vU, vU, vU, vU, vU]) rfl ?_
    refine XS.iloadN X8.here hx rfl (hb hby at_81) rfl ?_
    refine XS.bipush X8.here hx rfl (hb hby at_82) ?_
    refine XS.iushr X8.here hx rfl (hb hby at_84) rfl ?_
    refine XS.sipush X8.here hx rfl (hb hby at_85) ?_
    refine XS.iand X8.here hx rfl (hb hby at_88) rfl ?_
    refine XS.i2c X8.here hx rfl (hb hby at_89) rfl ?_
    show Steps p.tables e below (T8.setTop (mkF m 90 #[vI p1, vI p2, vI p3, vI (t0_0 p1), vI (1 : Int32), vI (t0_2 p1), vI (1 : Int32), vA b4, vU, vU, vU, vU, vU, vU, vU, vU] [(.int (t0_7 p2))])) _
    refine st9 _ ?_
    refine XS.astore X9.here hx rfl (hb hby at_93) rfl rfl (l' := #[vI p1, vI p2, vI p3, vI (t0_0 p1), vI (1 : Int32), vI (t0_2 p1), vI (1 : Int32), vA b4, vA br_9, vU, vU, vU, vU, vU, vU, vU]) rfl ?_
    refine XS.iloadN X9.here hx rfl (hb hby at_95) rfl ?_
    show Steps p.tables e below (T9.setTop (mkF m 96 #[vI p1, vI p2, vI p3, vI (t0_0 p1), vI (1 : Int32), vI (t0_2 p1), vI (1 : Int32), vA b4, vA br_9, vU, vU, vU, vU, vU, vU, vU] [(.int p3)])) _
    refine st10.trans ?_
    refine XS.astore X10.here hx rfl (hb hby at_99) rfl rfl (l' := #[vI p1, vI p2, vI p3, vI (t0_0 p1), vI (1 : Int32), vI (t0_2 p1), vI (1 : Int32), vA b4, vA br_9, vA br_10, vU, vU, vU, vU, vU, vU]) rfl ?_
    refine XS.iloadN X10.here hx rfl (hb hby at_101) rfl ?_
    refine XS.bipush X10.here hx rfl (hb hby at_102) ?_
    refine XS.iushr X10.here hx rfl (hb hby at_104) rfl ?_
    show Steps p.tables e below (T10.setTop (mkF m 105 #[vI p1, vI p2, vI p3, vI (t0_0 p1), vI (1 : Int32), vI (t0_2 p1), vI (1 : Int32), vA b4, vA br_9, vA br_10, vU, vU, vU, vU, vU, vU] [(.int (t0_8 p3))])) _
    refine st11.trans ?_
    refine XS.astore X11.here hx rfl (hb hby at_108) rfl rfl (l' := #[vI p1, vI p2, vI p3, vI (t0_0 p1), vI (1 : Int32), vI (t0_2 p1), vI (1 : Int32), vA b4, vA br_9, vA br_10, vA br_11, vU, vU, vU, vU, vU]) rfl ?_
    refine XS.iload X11.here hx rfl (hb hby at_110) rfl ?_
    show Steps p.tables e below (T11.setTop (mkF m 112 #[vI p1, vI p2, vI p3, vI (t0_0 p1), vI (1 : Int32), vI (t0_2 p1), vI (1 : Int32), vA b4, vA br_9, vA br_10, vA br_11, vU, vU, vU, vU, vU] [(.int (1 : Int32))])) _
    refine XS.ifNo X11.here hx rfl (hb hby at_112) rfl ((if0 _ _).trans (feq (by decide : ¬ ((1 : Int32) = (0 : Int32)))).1) ?_
    refine XS.aload X11.here hx rfl (hb hby at_115) rfl rfl ?_
    show Steps p.tables e below (T11.setTop (mkF m 117 #[vI p1, vI p2, vI p3, vI (t0_0 p1), vI (1 : Int32), vI (t0_2 p1), vI (1 : Int32), vA b4, vA br_9, vA br_10, vA br_11, vU, vU, vU, vU, vU] [(.ref br_10)])) _
    refine st12 _ ?_
    show Steps p.tables e below (T12.setTop (mkF m 120 #[vI p1, vI p2, vI p3, vI (t0_0 p1), vI (1 : Int32), vI (t0_2 p1), vI (1 : Int32), vA b4, vA br_9, vA br_10, vA br_11, vU, vU, vU, vU, vU] [(.ref b2_12)])) _
    refine XS.goto X12.here hx rfl (pc0 := 120) (pc' := 126) rfl (hb hby at_120) (by decide) (by decide) ?_
    refine XS.astore X12.here hx rfl (hb hby at_126) rfl rfl (l' := #[vI p1, vI p2, vI p3, vI (t0_0 p1), vI (1 : Int32), vI (t0_2 p1), vI (1 : Int32), vA b4, vA br_9, vA br_10, vA br_11, vA b2_12, vU, vU, vU, vU]) rfl ?_
    refine XS.iload X12.here hx rfl (hb hby at_128) rfl ?_
    show Steps p.tables e below (T12.setTop (mkF m 130 #[vI p1, vI p2, vI p3, vI (t0_0 p1), vI (1 : Int32), vI (t0_2 p1), vI (1 : Int32), vA b4, vA br_9, vA br_10, vA br_11, vA b2_12, vU, vU, vU, vU] [(.int (t0_2 p1))])) _
    refine XS.ifNo X12.here hx rfl (hb hby at_130) rfl ((if0 _ _).trans (teq hc130).2) ?_
    show Steps p.tables e below (T12.setTop (mkF m 133 #[vI p1, vI p2, vI p3, vI (t0_0 p1), vI (1 : Int32), vI (t0_2 p1), vI (1 : Int32), vA b4, vA br_9, vA br_10, vA br_11, vA b2_12, vU, vU, vU, vU] [])) _
    refine st13 _ ?_
    refine XS.astore X13.here hx rfl (hb hby at_136) rfl rfl (l' := #[vI p1, vI p2, vI p3, vI (t0_0 p1), vI (1 : Int32), vI (t0_2 p1), vI (1 : Int32), vA b4, vA br_9, vA br_10, vA br_11, vA b2_12, vA s_EMPTY, vU, vU, vU]) rfl ?_
    show Steps p.tables e below (T13.setTop (mkF m 138 #[vI p1, vI p2, vI p3, vI (t0_0 p1), vI (1 : Int32), vI (t0_2 p1), vI (1 : Int32), vA b4, vA br_9, vA br_10, vA br_11, vA b2_12, vA s_EMPTY, vU, vU, vU] [])) _
    refine XS.goto X13.here hx rfl (pc0 := 138) (pc' := 166) rfl (hb hby at_138) (by decide) (by decide) ?_
    refine XS.iload X13.here hx rfl (hb hby at_166) rfl ?_
    show Steps p.tables e below (T13.setTop (mkF m 168 #[vI p1, vI p2, vI p3, vI (t0_0 p1), vI (1 : Int32), vI (t0_2 p1), vI (1 : Int32), vA b4, vA br_9, vA br_10, vA br_11, vA b2_12, vA s_EMPTY, vU, vU, vU] [(.int (1 : Int32))])) _
    refine XS.ifNo X13.here hx rfl (hb hby at_168) rfl ((if0 _ _).trans (feq (by decide : ¬ ((1 : Int32) = (0 : Int32)))).1) ?_
    refine XS.aload X13.here hx rfl (hb hby at_171) rfl rfl ?_
    show Steps p.tables e below (T13.setTop (mkF m 173 #[vI p1, vI p2, vI p3, vI (t0_0 p1), vI (1 : Int32), vI (t0_2 p1), vI (1 : Int32), vA b4, vA br_9, vA br_10, vA br_11, vA b2_12, vA s_EMPTY, vU, vU, vU] [(.ref br_11)])) _
    refine st14 _ ?_
    show Steps p.tables e below (T14.setTop (mkF m 176 #[vI p1, vI p2, vI p3, vI (t0_0 p1), vI (1 : Int32), vI (t0_2 p1), vI (1 : Int32), vA b4, vA br_9, vA br_10, vA br_11, vA b2_12, vA s_EMPTY, vU, vU, vU] [(.ref b2_14)])) _
    refine XS.goto X14.here hx rfl (pc0 := 176) (pc' := 182) rfl (hb hby at_176) (by decide) (by decide) ?_
    refine XS.astore X14.here hx rfl (hb hby at_182) rfl rfl (l' := #[vI p1, vI p2, vI p3, vI (t0_0 p1), vI (1 : Int32), vI (t0_2 p1), vI (1 : Int32), vA b4, vA br_9, vA br_10, vA br_11, vA b2_12, vA s_EMPTY, vA b2_14, vU, vU]) rfl ?_
    show Steps p.tables e below (T14.setTop (mkF m 184 #[vI p1, vI p2, vI p3, vI (t0_0 p1), vI (1 : Int32), vI (t0_2 p1), vI (1 : Int32), vA b4, vA br_9, vA br_10, vA br_11, vA b2_12, vA s_EMPTY, vA b2_14, vU, vU] [])) _
    refine st15 _ ?_
    refine XS.dup X15.here hx rfl (hb hby at_187) rfl rfl ?_
    refine XS.aload X15.here hx rfl (hb hby at_188) rfl rfl ?_
    refine XS.aload X15.here hx rfl (hb hby at_190) rfl rfl ?_
    refine XS.iloadN X15.here hx rfl (hb hby at_192) rfl ?_
    refine XS.aload X15.here hx rfl (hb hby at_193) rfl rfl ?_
    refine XS.aload X15.here hx rfl (hb hby at_195) rfl rfl ?_
    refine XS.aload X15.here hx rfl (hb hby at_197) rfl rfl ?_
    show Steps p.tables e below (T15.setTop (mkF m 199 #[vI p1, vI p2, vI p3, vI (t0_0 p1), vI (1 : Int32), vI (t0_2 p1), vI (1 : Int32), vA b4, vA br_9, vA br_10, vA br_11, vA b2_12, vA s_EMPTY, vA b2_14, vU, vU] [(.ref b2_14), (.ref s_EMPTY), (.ref b2_12), (.int (t0_0 p1)), (.ref br_9), (.ref b4), (.ref b15), (.ref b15)])) _
    refine st16.trans ?_
    refine XS.astore X16.here hx rfl (hb hby at_202) rfl rfl (l' := #[vI p1, vI p2, vI p3, vI (t0_0 p1), vI (1 : Int32), vI (t0_2 p1), vI (1 : Int32), vA b4, vA br_9, vA br_10, vA br_11, vA b2_12, vA s_EMPTY, vA b2_14, vA b15, vU]) rfl ?_
    refine XS.iconst X16.here hx rfl (hb hby at_204) ?_
    refine XS.istore X16.here hx rfl (hb hby at_205) rfl (l' := #[vI p1, vI p2, vI p3, vI (t0_0 p1), vI (1 : Int32), vI (t0_2 p1), vI (1 : Int32), vA b4, vA br_9, vA br_10, vA br_11, vA b2_12, vA s_EMPTY, vA b2_14, vA b15, vI (1 : Int32)]) rfl ?_
    refine XS.iloadN X16.here hx rfl (hb hby at_207) rfl ?_
    show Steps p.tables e below (T16.setTop (mkF m 208 #[vI p1, vI p2, vI p3, vI (t0_0 p1), vI (1 : Int32), vI (t0_2 p1), vI (1 : Int32), vA b4, vA br_9, vA br_10, vA br_11, vA b2_12, vA s_EMPTY, vA b2_14, vA b15, vI (1 : Int32)] [(.int (t0_0 p1))])) _
    have J208 : ∀ target, Steps p.tables e below (T16.setTop (mkF m 214 #[vI p1, vI p2, vI p3, vI (t0_0 p1), vI (1 : Int32), vI (t0_2 p1), vI (1 : Int32), vA b4, vA br_9, vA br_10, vA br_11, vA b2_12, vA s_EMPTY, vA b2_14, vA b15, vI (t0_9 p1)] [])) target → Steps p.tables e below (T16.setTop (mkF m 208 #[vI p1, vI p2, vI p3, vI (t0_0 p1), vI (1 : Int32), vI (t0_2 p1), vI (1 : Int32), vA b4, vA br_9, vA br_10, vA br_11, vA b2_12, vA s_EMPTY, vA b2_14, vA b15, vI (1 : Int32)] [(.int (t0_0 p1))])) target := by
      intro target kt
      by_cases hm208 : (t0_0 p1) = (0 : Int32)
      · skip
        show Steps p.tables e below (T16.setTop (mkF m 208 #[vI p1, vI p2, vI p3, vI (t0_0 p1), vI (1 : Int32), vI (t0_2 p1), vI (1 : Int32), vA b4, vA br_9, vA br_10, vA br_11, vA b2_12, vA s_EMPTY, vA b2_14, vA b15, vI (1 : Int32)] [(.int (t0_0 p1))])) _
        refine XS.ifYes X16.here hx rfl (pc0 := 208) (pc' := 214) rfl (hb hby at_208) rfl ((if0 _ _).trans (teq hm208).1) (by decide) (by decide) ?_
        rw [show (t0_9 p1) = (1 : Int32) from if_pos hm208] at kt
        exact kt
      · skip
        show Steps p.tables e below (T16.setTop (mkF m 208 #[vI p1, vI p2, vI p3, vI (t0_0 p1), vI (1 : Int32), vI (t0_2 p1), vI (1 : Int32), vA b4, vA br_9, vA br_10, vA br_11, vA b2_12, vA s_EMPTY, vA b2_14, vA b15, vI (1 : Int32)] [(.int (t0_0 p1))])) _
        refine XS.ifNo X16.here hx rfl (hb hby at_208) rfl ((if0 _ _).trans (feq hm208).1) ?_
        refine XS.iconst X16.here hx rfl (hb hby at_211) ?_
        refine XS.istore X16.here hx rfl (hb hby at_212) rfl (l' := #[vI p1, vI p2, vI p3, vI (t0_0 p1), vI (1 : Int32), vI (t0_2 p1), vI (1 : Int32), vA b4, vA br_9, vA br_10, vA br_11, vA b2_12, vA s_EMPTY, vA b2_14, vA b15, vI (0 : Int32)]) rfl ?_
        rw [show (t0_9 p1) = (0 : Int32) from if_neg hm208] at kt
        exact kt
    refine J208 _ ?_
    refine XS.iload X16.here hx rfl (hb hby at_214) rfl ?_
    show Steps p.tables e below (T16.setTop (mkF m 216 #[vI p1, vI p2, vI p3, vI (t0_0 p1), vI (1 : Int32), vI (t0_2 p1), vI (1 : Int32), vA b4, vA br_9, vA br_10, vA br_11, vA b2_12, vA s_EMPTY, vA b2_14, vA b15, vI (t0_9 p1)] [(.int (1 : Int32))])) _
    refine XS.ifNo X16.here hx rfl (hb hby at_216) rfl ((if0 _ _).trans (feq (by decide : ¬ ((1 : Int32) = (0 : Int32)))).1) ?_
    refine XS.iconst X16.here hx rfl (hb hby at_219) ?_
    refine XS.istore X16.here hx rfl (hb hby at_220) rfl (l' := #[vI p1, vI p2, vI p3, vI (t0_0 p1), vI (1 : Int32), vI (t0_2 p1), vI (1 : Int32), vA b4, vA br_9, vA br_10, vA br_11, vA b2_12, vA s_EMPTY, vA b2_14, vA b15, vI (0 : Int32)]) rfl ?_
    refine XS.iload X16.here hx rfl (hb hby at_222) rfl ?_
    show Steps p.tables e below (T16.setTop (mkF m 224 #[vI p1, vI p2, vI p3, vI (t0_0 p1), vI (1 : Int32), vI (t0_2 p1), vI (1 : Int32), vA b4, vA br_9, vA br_10, vA br_11, vA b2_12, vA s_EMPTY, vA b2_14, vA b15, vI (0 : Int32)] [(.int (t0_2 p1))])) _
    refine XS.ifYes X16.here hx rfl (pc0 := 224) (pc' := 230) rfl (hb hby at_224) rfl ((if0 _ _).trans (teq hc130).1) (by decide) (by decide) ?_
    refine XS.iload X16.here hx rfl (hb hby at_230) rfl ?_
    show Steps p.tables e below (T16.setTop (mkF m 232 #[vI p1, vI p2, vI p3, vI (t0_0 p1), vI (1 : Int32), vI (t0_2 p1), vI (1 : Int32), vA b4, vA br_9, vA br_10, vA br_11, vA b2_12, vA s_EMPTY, vA b2_14, vA b15, vI (0 : Int32)] [(.int (1 : Int32))])) _
    refine XS.ifNo X16.here hx rfl (hb hby at_232) rfl ((if0 _ _).trans (feq (by decide : ¬ ((1 : Int32) = (0 : Int32)))).1) ?_
    refine XS.iconst X16.here hx rfl (hb hby at_235) ?_
    refine XS.istore X16.here hx rfl (hb hby at_236) rfl (l' := #[vI p1, vI p2, vI p3, vI (t0_0 p1), vI (1 : Int32), vI (t0_2 p1), vI (1 : Int32), vA b4, vA br_9, vA br_10, vA br_11, vA b2_12, vA s_EMPTY, vA b2_14, vA b15, vI (0 : Int32)]) rfl ?_
    refine XS.aload X16.here hx rfl (hb hby at_238) rfl rfl ?_
    show Steps p.tables e below (T16.setTop (mkF m 240 #[vI p1, vI p2, vI p3, vI (t0_0 p1), vI (1 : Int32), vI (t0_2 p1), vI (1 : Int32), vA b4, vA br_9, vA br_10, vA br_11, vA b2_12, vA s_EMPTY, vA b2_14, vA b15, vI (0 : Int32)] [(.ref b15)])) _
    refine st17.trans ?_
    refine XS.iload X17.here hx rfl (hb hby at_243) rfl ?_
    show Steps p.tables e below (T17.setTop (mkF m 245 #[vI p1, vI p2, vI p3, vI (t0_0 p1), vI (1 : Int32), vI (t0_2 p1), vI (1 : Int32), vA b4, vA br_9, vA br_10, vA br_11, vA b2_12, vA s_EMPTY, vA b2_14, vA b15, vI (0 : Int32)] [(.int (0 : Int32)), (.int (0 : Int32))])) _
    refine XS.icmpNo X17.here hx rfl (hb hby at_245) rfl (teq (rfl : (0 : Int32) = (0 : Int32))).2 ?_
    refine XS.iconst X17.here hx rfl (hb hby at_248) ?_
    show Steps p.tables e below (T17.setTop (mkF m 249 #[vI p1, vI p2, vI p3, vI (t0_0 p1), vI (1 : Int32), vI (t0_2 p1), vI (1 : Int32), vA b4, vA br_9, vA br_10, vA br_11, vA b2_12, vA s_EMPTY, vA b2_14, vA b15, vI (0 : Int32)] [(.int (1 : Int32))])) _
    refine XS.goto X17.here hx rfl (pc0 := 249) (pc' := 253) rfl (hb hby at_249) (by decide) (by decide) ?_
    show Steps p.tables e below (T17.setTop (mkF m 253 #[vI p1, vI p2, vI p3, vI (t0_0 p1), vI (1 : Int32), vI (t0_2 p1), vI (1 : Int32), vA b4, vA br_9, vA br_10, vA br_11, vA b2_12, vA s_EMPTY, vA b2_14, vA b15, vI (0 : Int32)] [(.int (1 : Int32))])) _
    exact retN X17 hx (t := .boolean) Bd.returns (by simp) (hb hby at_253) hr
  · show Q_rm0 Z p1 p2 p3 s_COMPACT_STRINGS s_EMPTY s_ALWAYS s_BY_DEFAULT h0 n0 _ T17.heap _
    exact ⟨rfl, N17⟩
set_option maxRecDepth 65536 in
set_option maxHeartbeats 40000000 in
theorem rm0_fftf (l : Launch) (Z : State) (a0 : Array Value) (hw : ∀ d ∈ tables_1, d.before a0 Z = true) (ws : List Jvm.Cond) (p1 : Int32) (p2 : Int32) (p3 : Int32) (s_COMPACT_STRINGS : Int32) (s_EMPTY : Addr) (s_ALWAYS : Addr) (s_BY_DEFAULT : Addr) (h0 : Heap) (n0 : Nat) (Z0 : n0 ≤ h0.size) (hcs : ¬ (s_COMPACT_STRINGS = (0 : Int32))) (S_COMPACT_STRINGS : Sta Z h0 "java/lang/String" "COMPACT_STRINGS" "Z" (.int s_COMPACT_STRINGS)) (S_EMPTY : Sta Z h0 "java/util/Optional" "EMPTY" "Ljava/util/Optional;" (.ref s_EMPTY)) (S_ALWAYS : Sta Z h0 "underdeck/deck/Column$Identity" "ALWAYS" "Lunderdeck/deck/Column$Identity;" (.ref s_ALWAYS)) (S_BY_DEFAULT : Sta Z h0 "underdeck/deck/Column$Identity" "BY_DEFAULT" "Lunderdeck/deck/Column$Identity;" (.ref s_BY_DEFAULT)) (F_value_s_EMPTY : Fld Z h0 s_EMPTY "java/util/Optional" "value" "Ljava/lang/Object;" .null) (E_s_EMPTY : Exa Z h0 s_EMPTY "java/util/Optional") (hc15 : ¬ ((p1 &&& (2 : Int32)) = (0 : Int32))) (hc38 : ¬ ((p1 &&& (16 : Int32)) = (0 : Int32))) (hc130 : ¬ ((t0_2 p1) = (0 : Int32))) (hc144 : (t0_2 p1) = (1 : Int32)) :
    MetFree l x (head1 (Jvm.Cond.code x code maxLocals ret :: ws) room_1) (fun a U => a = #[(.int p1), (.int p2), (.int p3)] ∧ Z.Warmed39 U.vm ∧ U.heap = h0) (fun _ _ _ _ _ => True) (fun _ U o U' => ∃ v L, o = .returned v ∧ Q_rm0 Z p1 p2 p3 s_COMPACT_STRINGS s_EMPTY s_ALWAYS s_BY_DEFAULT h0 n0 v U'.heap L ∧ ReturnedEndW U o U' L room_1.cells room_1.slots) := by
  have hi : ∀ (i : Nat) {d : Jvm.Cond}, tables_1[i]? = some d → d.before a0 Z = true := fun i d h => hw d (List.mem_of_getElem? h)
  refine MetFree.of_bodySF (plainFor_of_name pn_0) hisR ?_
  intro p e s m args below meth c s₁ Bd hml0 hP hK
  obtain ⟨rfl, hZ, hh⟩ := hP
  have hx := Bd.exec
  have hby := Bd.bytes
  have hml : c.maxLocals = 16 := hml0
  have hown : s.vm.findClass "underdeck/deck/ColumnRequiredPinLaw" = some m.cls := findClass_of_methodNamed Bd.named
  have hnm := (name_of_methodNamed Bd.named Bd.method).1
  have X0 : Stand p l e room_1 (s.setVm s.vm) m #[(.int p1), (.int p2), (.int p3)] below meth c s₁ [] 0 0 := Stand.of_body Bd
  have e0 : s₁.heap = h0 := by rw [← hh, Bd.state]; rfl
  have N0 := Fr.nil n0
  have pre0 : ∀ t, Steps p.tables e below (s₁.setTop (mkF m 0 #[vI p1, vI p2, vI p3, vU, vU, vU, vU, vU, vU, vU, vU, vU, vU, vU, vU, vU] [])) t → Steps p.tables e below (s₁.setTop (entryFrame m #[(.int p1), (.int p2), (.int p3)] maxLocals)) t := fun t k => castTop (ef_0 m p1 p2 p3) k
  have hS0 : s.Since s.vm h0.size := (State.WarmedH.refl s).since _
  obtain ⟨T4, h4, X4, e4, E4, A4, D4, -, st4⟩ := newO X0 hx hZ hown (hi 0 rfl) (hi 1 rfl) (hi 2 rfl) e0 (g := (mkF m 48 #[vI p1, vI p2, vI p3, vI (t0_0 p1), vI (1 : Int32), vI (t0_2 p1), vI (1 : Int32), vU, vU, vU, vU, vU, vU, vU, vU, vU] [])) rfl (hb hby at_48) (by decide) (by decide)
  obtain ⟨b4, g4⟩ : ∃ z, z = h0.size := ⟨_, rfl⟩
  rw [← g4] at A4 D4 st4
  have g_b4 : n0 ≤ b4 := Nat.le_trans Z0 (Nat.le_of_eq g4.symm)
  have sz_b4 : h0.size ≤ b4 := Nat.le_trans (Nat.le_refl h0.size) (Nat.le_of_eq g4.symm)
  have F_coder_b4 : Fld Z h4 b4 "java/lang/String" "coder" "B" (.int (0 : Int32)) := D4 (Or.inr (hi 27 rfl)) (ty := .byte) (by decide)
  have F_value_b4 : Fld Z h4 b4 "java/lang/String" "value" "[B" .null := D4 (Or.inr (hi 29 rfl)) (ty := (.array .byte)) (by decide)
  obtain ⟨T5, h5, k5, X5, e5, E5, A5, st5⟩ := newP X4 hx hZ (hi 3 rfl) e4 (g := (mkF m 53 #[vI p1, vI p2, vI p3, vI (t0_0 p1), vI (1 : Int32), vI (t0_2 p1), vI (1 : Int32), vU, vU, vU, vU, vU, vU, vU, vU, vU] [(.int (2 : Int32)), (.ref b4), (.ref b4)])) rfl (hb hby at_53) rfl (by decide) (cap := 2) (by decide) (by decide) (by decide) (by decide)
  obtain ⟨b5, g5⟩ : ∃ z, z = h4.size := ⟨_, rfl⟩
  rw [← g5] at A5 st5
  have g_b5 : n0 ≤ b5 := Nat.le_trans (Nat.le_trans Z0 E4.1) (Nat.le_of_eq g5.symm)
  have sz_b5 : h0.size ≤ b5 := Nat.le_trans (Nat.le_trans (Nat.le_refl h0.size) E4.1) (Nat.le_of_eq g5.symm)
  have V_b5 : Arv Z h5 b5 k5 .char (2 : Int32) [(.int (0 : Int32)), (.int (0 : Int32))] (.int (0 : Int32)) := (Arv.new A5 (by decide)).pad (pad_rep [] (.int (0 : Int32)) 2)
  obtain ⟨cl_b5_0, Ar_b5_0, q_b5_0, Sz_b5_0, Ng_b5_0, Ha_b5_0, Gt_b5_0⟩ := id V_b5
  have hin_b5_0 : ¬ ((0 : Int32) < 0 ∨ cl_b5_0.slots.size ≤ ((0 : Int32)).toNatClampNeg) := inb_of Sz_b5_0 ⟨by decide, by decide⟩
  obtain ⟨T6, h6, X6, e6, W6, st6⟩ := stC X5 hx hZ e5 Ar_b5_0 (j := (0 : Int32)) hin_b5_0 (g := (mkF m 63 #[vI p1, vI p2, vI p3, vI (t0_0 p1), vI (1 : Int32), vI (t0_2 p1), vI (1 : Int32), vU, vU, vU, vU, vU, vU, vU, vU, vU] [(.int (t0_3 p2)), (.int (0 : Int32)), (.ref b5), (.ref b5), (.ref b4), (.ref b4)])) rfl rfl (hb hby at_63)
  have V6 : Arv Z h6 b5 k5 .char (2 : Int32) [(.int (nar .char (t0_3 p2))), (.int (0 : Int32))] (.int (0 : Int32)) := Arv.set Ar_b5_0 q_b5_0 Sz_b5_0 Ng_b5_0 Ha_b5_0 Gt_b5_0 (fits_nar_char _) W6 0 rfl (Nat.le_of_ble_eq_true rfl)
  have N6 := Fr.snoc X6 N0 g_b5
  obtain ⟨cl_b5_1, Ar_b5_1, q_b5_1, Sz_b5_1, Ng_b5_1, Ha_b5_1, Gt_b5_1⟩ := id V6
  have hin_b5_1 : ¬ ((1 : Int32) < 0 ∨ cl_b5_1.slots.size ≤ ((1 : Int32)).toNatClampNeg) := inb_of Sz_b5_1 ⟨by decide, by decide⟩
  obtain ⟨T7, h7, X7, e7, W7, st7⟩ := stC X6 hx hZ e6 Ar_b5_1 (j := (1 : Int32)) hin_b5_1 (g := (mkF m 75 #[vI p1, vI p2, vI p3, vI (t0_0 p1), vI (1 : Int32), vI (t0_2 p1), vI (1 : Int32), vU, vU, vU, vU, vU, vU, vU, vU, vU] [(.int (t0_5 p2)), (.int (1 : Int32)), (.ref b5), (.ref b5), (.ref b4), (.ref b4)])) rfl rfl (hb hby at_75)
  have V7 : Arv Z h7 b5 k5 .char (2 : Int32) [(.int (nar .char (t0_3 p2))), (.int (nar .char (t0_5 p2)))] (.int (0 : Int32)) := Arv.set Ar_b5_1 q_b5_1 Sz_b5_1 Ng_b5_1 Ha_b5_1 Gt_b5_1 (fits_nar_char _) W7 1 rfl (Nat.le_of_ble_eq_true rfl)
  have N7 := Fr.snoc X7 N6 g_b5
  have f2 := ((((S_COMPACT_STRINGS.ext E4).ext E5).wr W6).wr W7)
  have f3 := (((F_coder_b4.ext E5).other W6 (Or.inl (Nat.ne_of_lt (Nat.lt_of_lt_of_le A4.lt (Nat.le_of_eq g5.symm))))).other W7 (Or.inl (Nat.ne_of_lt (Nat.lt_of_lt_of_le A4.lt (Nat.le_of_eq g5.symm)))))
  have f4 := (((F_value_b4.ext E5).other W6 (Or.inl (Nat.ne_of_lt (Nat.lt_of_lt_of_le A4.lt (Nat.le_of_eq g5.symm))))).other W7 (Or.inl (Nat.ne_of_lt (Nat.lt_of_lt_of_le A4.lt (Nat.le_of_eq g5.symm)))))
  have f5 := (((A4.ext E5).wr W6).wr W7)
  obtain ⟨_, _, ⟨T8, L8, k8, n8⟩, -, X8, ⟨Lc8, hQ8, l8, y8, z8⟩, st8⟩ := X7.specialBack hx (y := (⟨"java/lang/String", "<init>", "([C)V"⟩ : MethodName)) rfl hown (mvT hZ (hi 4 rfl)) (mvT hZ (hi 5 rfl)) (mvT hZ (hi 6 rfl)) (by decide) (backOf (W := 1) (rm1 l Z a0 hw [] b4 b5 s_COMPACT_STRINGS (0 : Int32) .null k5 (nar .char (t0_3 p2)) (nar .char (t0_5 p2)) h7 n0 (Nat.le_trans (Nat.le_trans (Nat.le_trans (Nat.le_trans Z0 E4.1) E5.1) (Keep.of_wr W6).1) (Keep.of_wr W7).1) f2 f3 f4 f5 g_b4 V7 hcs (own_le255 _ (own_cc _ (own_cc _ (own_m255 _)))) (own_le255 _ (own_cc _ (own_cc _ (own_m255 _))))) hZ (hi 6 rfl) (hi 2 rfl) (by decide) (by decide)) (g := (mkF m 76 #[vI p1, vI p2, vI p3, vI (t0_0 p1), vI (1 : Int32), vI (t0_2 p1), vI (1 : Int32), vU, vU, vU, vU, vU, vU, vU, vU, vU] [(.ref b5), (.ref b4), (.ref b4)])) rfl (by rw [hml]; rfl) (Steps.refl _) (a := b4) (argsL := [(.ref b5)]) (rest := [(.ref b4)]) (lenOf pd__28_5bC_29V rfl) rfl (by show 2 * 0 + _ ≤ _; exact Nat.le_of_eq rfl) (hb hby at_76) (fun _ _ => ⟨rfl, e7, (by decide : 2 + 1 ≤ _), (by decide : 6 + 2 ≤ _)⟩)
  dsimp only [Pt.U, Pt.locs, Pt.cells, Pt.slots] at X8 l8 y8 z8 st8 hQ8
  subst l8 y8 z8
  obtain ⟨rfl, N8q, K8, i8_0, i8_1⟩ := hQ8
  have N8 := Fr.app N7 N8q
  have f6 := (own_sta_keep f2 K8 (own_qc (own_nst f5) own_q0))
  obtain ⟨_, _, ⟨T9, L9, k9, n9⟩, -, X9, ⟨Lc9, hQ9, l9, y9, z9⟩, st9⟩ := Jvm.LawKit.callS X8 hx (y := (⟨"java/lang/String", "valueOf", "(C)Ljava/lang/String;"⟩ : MethodName)) hown (mvT hZ (hi 30 rfl)) (mvT hZ (hi 31 rfl)) (mvT hZ (hi 2 rfl)) (mvT hZ (hi 32 rfl)) (by decide) (backOf (W := 0) (rm7 l Z a0 hw [] (t0_7 p2) s_COMPACT_STRINGS T8.heap n0 (Nat.le_trans (Nat.le_trans (Nat.le_trans (Nat.le_trans (Nat.le_trans Z0 E4.1) E5.1) (Keep.of_wr W6).1) (Keep.of_wr W7).1) K8.1) f6 hcs (own_F8 _ (own_cc _ (own_m255 _)))) hZ (hi 32 rfl) (hi 2 rfl) (by decide) (by decide)) (g := (mkF m 90 #[vI p1, vI p2, vI p3, vI (t0_0 p1), vI (1 : Int32), vI (t0_2 p1), vI (1 : Int32), vA b4, vU, vU, vU, vU, vU, vU, vU, vU] [(.int (t0_7 p2))])) rfl (by rw [hml]; rfl) (argsL := [(.int (t0_7 p2))]) (rest := []) (lenOf pd__28C_29Ljava_2flang_2fString_3b rfl) rfl (by show 2 * 0 + _ ≤ _; exact Nat.le_of_eq rfl) (hb hby at_90) (fun _ _ => ⟨rfl, rfl, (by decide : 3 + 2 ≤ _), (by decide : 8 + 5 ≤ _)⟩)
  dsimp only [Pt.U, Pt.locs, Pt.cells, Pt.slots] at X9 l9 y9 z9 st9 hQ9
  subst l9 y9 z9
  obtain ⟨br_9, ⟨rfl, N9q, K9⟩⟩ := hQ9
  have N9 := Fr.app N8 N9q
  have f7 := (V7.keep K8 (own_nm (Ne.symm (Nat.ne_of_lt (Nat.lt_of_lt_of_le A4.lt (Nat.le_of_eq g5.symm)))) own_n0))
  have f8 := (own_sta_keep f6 K9 own_q0)
  obtain ⟨_, _, ⟨T10, L10, k10, n10⟩, -, X10w, hS10w, hg10, ⟨Lc10, hQ10, l10, y10, z10⟩, st10⟩ := Jvm.RoadKit.callSS X9 hx (y := (⟨"underdeck/deck/ColumnRequiredPinLaw", "drawn", "(I)Ljava/lang/String;"⟩ : MethodName)) hown (mvT hZ (hi 44 rfl)) (mvT hZ (hi 45 rfl)) (mvT hZ (hi 46 rfl)) (mvT hZ (hi 47 rfl)) (by decide) (backOfS (W := 0) (rm11 l Z a0 hw [] p3 s_COMPACT_STRINGS T9.heap n0 (Nat.le_trans (Nat.le_trans (Nat.le_trans (Nat.le_trans (Nat.le_trans (Nat.le_trans Z0 E4.1) E5.1) (Keep.of_wr W6).1) (Keep.of_wr W7).1) K8.1) K9.1) f8 hcs) hZ (hi 47 rfl) (hi 46 rfl) (by decide) (by decide)) (g := (mkF m 96 #[vI p1, vI p2, vI p3, vI (t0_0 p1), vI (1 : Int32), vI (t0_2 p1), vI (1 : Int32), vA b4, vA br_9, vU, vU, vU, vU, vU, vU, vU] [(.int p3)])) rfl (by rw [hml]; rfl) (argsL := [(.int p3)]) (rest := []) (lenOf pd__28I_29Ljava_2flang_2fString_3b rfl) rfl (by show 2 * 0 + _ ≤ _; exact Nat.le_of_eq rfl) (hb hby at_96) (fun _ _ => ⟨rfl, rfl, (by decide : 5 + 2 ≤ _), (by decide : 13 + 5 ≤ _)⟩)
  dsimp only [Pt.U, Pt.locs, Pt.cells, Pt.slots] at X10w hS10w hg10 l10 y10 z10 st10 hQ10
  subst l10 y10 z10
  obtain ⟨X10, hS10, hZ10, hown10⟩ := rebS hS0 (show _ ≤ T9.heap.size from by exact (Nat.le_trans (Nat.le_trans (Nat.le_trans (Nat.le_trans (Nat.le_trans (Nat.le_trans (Nat.le_refl h0.size) E4.1) E5.1) (Keep.of_wr W6).1) (Keep.of_wr W7).1) K8.1) K9.1)) X10w hS10w hg10 hZ hown
  obtain ⟨br_10, ⟨rfl, N10q, K10⟩⟩ := hQ10
  have N10 := Fr.app N9 N10q
  have f9 := (i8_0.keep K9)
  have f10 := (f7.keep K9 own_n0)
  have f11 := (own_sta_keep f8 K10 own_q0)
  obtain ⟨_, _, ⟨T11, L11, k11, n11⟩, -, X11w, hS11w, hg11, ⟨Lc11, hQ11, l11, y11, z11⟩, st11⟩ := Jvm.RoadKit.callSS X10 hx (y := (⟨"underdeck/deck/ColumnRequiredPinLaw", "drawn", "(I)Ljava/lang/String;"⟩ : MethodName)) hown10 (mvT hZ10 (hi 44 rfl)) (mvT hZ10 (hi 45 rfl)) (mvT hZ10 (hi 46 rfl)) (mvT hZ10 (hi 47 rfl)) (by decide) (backOfS (W := 0) (rm11 l Z a0 hw [] (t0_8 p3) s_COMPACT_STRINGS T10.heap n0 (Nat.le_trans (Nat.le_trans (Nat.le_trans (Nat.le_trans (Nat.le_trans (Nat.le_trans (Nat.le_trans Z0 E4.1) E5.1) (Keep.of_wr W6).1) (Keep.of_wr W7).1) K8.1) K9.1) K10.1) f11 hcs) hZ10 (hi 47 rfl) (hi 46 rfl) (by decide) (by decide)) (g := (mkF m 105 #[vI p1, vI p2, vI p3, vI (t0_0 p1), vI (1 : Int32), vI (t0_2 p1), vI (1 : Int32), vA b4, vA br_9, vA br_10, vU, vU, vU, vU, vU, vU] [(.int (t0_8 p3))])) rfl (by rw [hml]; rfl) (argsL := [(.int (t0_8 p3))]) (rest := []) (lenOf pd__28I_29Ljava_2flang_2fString_3b rfl) rfl (by show 2 * 0 + _ ≤ _; exact Nat.le_of_eq rfl) (hb hby at_105) (fun _ _ => ⟨rfl, rfl, (by decide : 7 + 2 ≤ _), (by decide : 18 + 5 ≤ _)⟩)
  dsimp only [Pt.U, Pt.locs, Pt.cells, Pt.slots] at X11w hS11w hg11 l11 y11 z11 st11 hQ11
  subst l11 y11 z11
  obtain ⟨X11, hS11, hZ11, hown11⟩ := rebS hS10 (show _ ≤ T10.heap.size from by exact (Nat.le_refl _)) X11w hS11w hg11 hZ10 hown10
  obtain ⟨br_11, ⟨rfl, N11q, K11⟩⟩ := hQ11
  have N11 := Fr.app N10 N11q
  have f12 := (f9.keep K10)
  have f13 := (f10.keep K10 own_n0)
  obtain ⟨_, _, ⟨T12, L12, k12, n12⟩, -, X12, ⟨Lc12, hQ12, l12, y12, z12⟩, st12⟩ := Jvm.LawKit.callS X11 hx (y := (⟨"java/util/Optional", "of", "(Ljava/lang/Object;)Ljava/util/Optional;"⟩ : MethodName)) hown11 (mvT hZ11 (hi 104 rfl)) (mvT hZ11 (hi 105 rfl)) (mvT hZ11 (hi 53 rfl)) (mvT hZ11 (hi 106 rfl)) (by decide) (backOf (W := 0) (rm18 l Z a0 hw [] br_10 T11.heap n0 (Nat.le_trans (Nat.le_trans (Nat.le_trans (Nat.le_trans (Nat.le_trans (Nat.le_trans (Nat.le_trans (Nat.le_trans Z0 E4.1) E5.1) (Keep.of_wr W6).1) (Keep.of_wr W7).1) K8.1) K9.1) K10.1) K11.1) ) hZ11 (hi 106 rfl) (hi 53 rfl) (by decide) (by decide)) (g := (mkF m 117 #[vI p1, vI p2, vI p3, vI (t0_0 p1), vI (1 : Int32), vI (t0_2 p1), vI (1 : Int32), vA b4, vA br_9, vA br_10, vA br_11, vU, vU, vU, vU, vU] [(.ref br_10)])) rfl (by rw [hml]; rfl) (argsL := [(.ref br_10)]) (rest := []) (lenOf pd__28Ljava_2flang_2fObject_3b_29Ljava_2futil_2fOptional_3b rfl) rfl (by show 2 * 0 + _ ≤ _; exact Nat.le_of_eq rfl) (hb hby at_117) (fun _ _ => ⟨rfl, rfl, (by decide : 9 + 1 ≤ _), (by decide : 23 + 1 ≤ _)⟩)
  dsimp only [Pt.U, Pt.locs, Pt.cells, Pt.slots] at X12 l12 y12 z12 st12 hQ12
  subst l12 y12 z12
  obtain ⟨b2_12, ⟨rfl, N12q, K12, i12_0, i12_1, i12_2⟩⟩ := hQ12
  have N12 := Fr.app N11 N12q
  have f14 := (f12.keep K11)
  have f15 := (f13.keep K11 own_n0)
  have sz_b2_12 : h0.size ≤ b2_12 := Nat.le_trans (Nat.le_trans (Nat.le_trans (Nat.le_trans (Nat.le_trans (Nat.le_trans (Nat.le_trans (Nat.le_trans (Nat.le_trans (Nat.le_refl h0.size) E4.1) E5.1) (Keep.of_wr W6).1) (Keep.of_wr W7).1) K8.1) K9.1) K10.1) K11.1) i12_0
  have g_b2_12 : n0 ≤ b2_12 := Nat.le_trans Z0 sz_b2_12
  have f16 := (own_sta_keep (own_sta_keep (own_sta_keep (own_sta_keep (own_sta_keep ((((S_ALWAYS.ext E4).ext E5).wr W6).wr W7) K8 (own_qc (own_nst f5) own_q0)) K9 own_q0) K10 own_q0) K11 own_q0) K12 own_q0)
  obtain ⟨T13, X13, e13, st13⟩ := getS2 X12 hx hZ11 hown11 (host := "") (Or.inl (hi 101 rfl)) Via.refl rfl f16 (g := (mkF m 147 #[vI p1, vI p2, vI p3, vI (t0_0 p1), vI (1 : Int32), vI (t0_2 p1), vI (1 : Int32), vA b4, vA br_9, vA br_10, vA br_11, vA b2_12, vU, vU, vU, vU] [])) rfl (hb hby at_147)
  obtain ⟨_, _, ⟨T14, L14, k14, n14⟩, -, X14, ⟨Lc14, hQ14, l14, y14, z14⟩, st14⟩ := Jvm.LawKit.callS X13 hx (y := (⟨"java/util/Optional", "of", "(Ljava/lang/Object;)Ljava/util/Optional;"⟩ : MethodName)) hown11 (mvT hZ11 (hi 104 rfl)) (mvT hZ11 (hi 105 rfl)) (mvT hZ11 (hi 53 rfl)) (mvT hZ11 (hi 106 rfl)) (by decide) (backOf (W := 0) (rm18 l Z a0 hw [] s_ALWAYS T12.heap n0 (Nat.le_trans (Nat.le_trans (Nat.le_trans (Nat.le_trans (Nat.le_trans (Nat.le_trans (Nat.le_trans (Nat.le_trans (Nat.le_trans Z0 E4.1) E5.1) (Keep.of_wr W6).1) (Keep.of_wr W7).1) K8.1) K9.1) K10.1) K11.1) K12.1) ) hZ11 (hi 106 rfl) (hi 53 rfl) (by decide) (by decide)) (g := (mkF m 150 #[vI p1, vI p2, vI p3, vI (t0_0 p1), vI (1 : Int32), vI (t0_2 p1), vI (1 : Int32), vA b4, vA br_9, vA br_10, vA br_11, vA b2_12, vU, vU, vU, vU] [(.ref s_ALWAYS)])) rfl (by rw [hml]; rfl) (argsL := [(.ref s_ALWAYS)]) (rest := []) (lenOf pd__28Ljava_2flang_2fObject_3b_29Ljava_2futil_2fOptional_3b rfl) rfl (by show 2 * 0 + _ ≤ _; exact Nat.le_of_eq rfl) (hb hby at_150) (fun _ _ => ⟨rfl, e13, (by decide : 10 + 1 ≤ _), (by decide : 24 + 1 ≤ _)⟩)
  dsimp only [Pt.U, Pt.locs, Pt.cells, Pt.slots] at X14 l14 y14 z14 st14 hQ14
  subst l14 y14 z14
  obtain ⟨b2_14, ⟨rfl, N14q, K14, i14_0, i14_1, i14_2⟩⟩ := hQ14
  have N14 := Fr.app N12 N14q
  have f17 := (f14.keep K12)
  have f18 := (f15.keep K12 own_n0)
  have sz_b2_14 : h0.size ≤ b2_14 := Nat.le_trans (Nat.le_trans (Nat.le_trans (Nat.le_trans (Nat.le_trans (Nat.le_trans (Nat.le_trans (Nat.le_trans (Nat.le_trans (Nat.le_trans (Nat.le_refl h0.size) E4.1) E5.1) (Keep.of_wr W6).1) (Keep.of_wr W7).1) K8.1) K9.1) K10.1) K11.1) K12.1) i14_0
  have g_b2_14 : n0 ≤ b2_14 := Nat.le_trans Z0 sz_b2_14
  obtain ⟨_, _, ⟨T15, L15, k15, n15⟩, -, X15, ⟨Lc15, hQ15, l15, y15, z15⟩, st15⟩ := Jvm.LawKit.callS X14 hx (y := (⟨"java/util/Optional", "of", "(Ljava/lang/Object;)Ljava/util/Optional;"⟩ : MethodName)) hown11 (mvT hZ11 (hi 104 rfl)) (mvT hZ11 (hi 105 rfl)) (mvT hZ11 (hi 53 rfl)) (mvT hZ11 (hi 106 rfl)) (by decide) (backOf (W := 0) (rm18 l Z a0 hw [] br_11 T14.heap n0 (Nat.le_trans (Nat.le_trans (Nat.le_trans (Nat.le_trans (Nat.le_trans (Nat.le_trans (Nat.le_trans (Nat.le_trans (Nat.le_trans (Nat.le_trans Z0 E4.1) E5.1) (Keep.of_wr W6).1) (Keep.of_wr W7).1) K8.1) K9.1) K10.1) K11.1) K12.1) K14.1) ) hZ11 (hi 106 rfl) (hi 53 rfl) (by decide) (by decide)) (g := (mkF m 173 #[vI p1, vI p2, vI p3, vI (t0_0 p1), vI (1 : Int32), vI (t0_2 p1), vI (1 : Int32), vA b4, vA br_9, vA br_10, vA br_11, vA b2_12, vA b2_14, vU, vU, vU] [(.ref br_11)])) rfl (by rw [hml]; rfl) (argsL := [(.ref br_11)]) (rest := []) (lenOf pd__28Ljava_2flang_2fObject_3b_29Ljava_2futil_2fOptional_3b rfl) rfl (by show 2 * 0 + _ ≤ _; exact Nat.le_of_eq rfl) (hb hby at_173) (fun _ _ => ⟨rfl, rfl, (by decide : 11 + 1 ≤ _), (by decide : 25 + 1 ≤ _)⟩)
  dsimp only [Pt.U, Pt.locs, Pt.cells, Pt.slots] at X15 l15 y15 z15 st15 hQ15
  subst l15 y15 z15
  obtain ⟨b2_15, ⟨rfl, N15q, K15, i15_0, i15_1, i15_2⟩⟩ := hQ15
  have N15 := Fr.app N14 N15q
  have f19 := (f17.keep K14)
  have f20 := (f18.keep K14 own_n0)
  have f21 := (i12_1.keep K14)
  have sz_b2_15 : h0.size ≤ b2_15 := Nat.le_trans (Nat.le_trans (Nat.le_trans (Nat.le_trans (Nat.le_trans (Nat.le_trans (Nat.le_trans (Nat.le_trans (Nat.le_trans (Nat.le_trans (Nat.le_trans (Nat.le_refl h0.size) E4.1) E5.1) (Keep.of_wr W6).1) (Keep.of_wr W7).1) K8.1) K9.1) K10.1) K11.1) K12.1) K14.1) i15_0
  have g_b2_15 : n0 ≤ b2_15 := Nat.le_trans Z0 sz_b2_15
  have f22 := (f19.keep K15)
  have f23 := (f20.keep K15 own_n0)
  have f24 := (f21.keep K15)
  have f25 := (i14_1.keep K15)
  obtain ⟨T16, h16, X16, e16, E16, A16, D16, -, st16⟩ := newO X15 hx hZ11 hown11 (hi 56 rfl) (hi 57 rfl) (hi 58 rfl) rfl (g := (mkF m 184 #[vI p1, vI p2, vI p3, vI (t0_0 p1), vI (1 : Int32), vI (t0_2 p1), vI (1 : Int32), vA b4, vA br_9, vA br_10, vA br_11, vA b2_12, vA b2_14, vA b2_15, vU, vU] [])) rfl (hb hby at_184) (by decide) (by decide)
  obtain ⟨b16, g16⟩ : ∃ z, z = T15.heap.size := ⟨_, rfl⟩
  rw [← g16] at A16 D16 st16
  have g_b16 : n0 ≤ b16 := Nat.le_trans (Nat.le_trans (Nat.le_trans (Nat.le_trans (Nat.le_trans (Nat.le_trans (Nat.le_trans (Nat.le_trans (Nat.le_trans (Nat.le_trans (Nat.le_trans (Nat.le_trans Z0 E4.1) E5.1) (Keep.of_wr W6).1) (Keep.of_wr W7).1) K8.1) K9.1) K10.1) K11.1) K12.1) K14.1) K15.1) (Nat.le_of_eq g16.symm)
  have sz_b16 : h0.size ≤ b16 := Nat.le_trans (Nat.le_trans (Nat.le_trans (Nat.le_trans (Nat.le_trans (Nat.le_trans (Nat.le_trans (Nat.le_trans (Nat.le_trans (Nat.le_trans (Nat.le_trans (Nat.le_trans (Nat.le_refl h0.size) E4.1) E5.1) (Keep.of_wr W6).1) (Keep.of_wr W7).1) K8.1) K9.1) K10.1) K11.1) K12.1) K14.1) K15.1) (Nat.le_of_eq g16.symm)
  have F_name_b16 : Fld Z h16 b16 "underdeck/deck/Column" "name" "Ljava/lang/String;" .null := D16 (Or.inr (hi 78 rfl)) (ty := (.object "java/lang/String")) (by decide)
  have F_type_b16 : Fld Z h16 b16 "underdeck/deck/Column" "type" "Ljava/lang/String;" .null := D16 (Or.inr (hi 80 rfl)) (ty := (.object "java/lang/String")) (by decide)
  have F_nullable_b16 : Fld Z h16 b16 "underdeck/deck/Column" "nullable" "Z" (.int (0 : Int32)) := D16 (Or.inr (hi 82 rfl)) (ty := .boolean) (by decide)
  have F_defaultValue_b16 : Fld Z h16 b16 "underdeck/deck/Column" "defaultValue" "Ljava/util/Optional;" .null := D16 (Or.inr (hi 84 rfl)) (ty := (.object "java/util/Optional")) (by decide)
  have F_identity_b16 : Fld Z h16 b16 "underdeck/deck/Column" "identity" "Ljava/util/Optional;" .null := D16 (Or.inr (hi 86 rfl)) (ty := (.object "java/util/Optional")) (by decide)
  have F_generated_b16 : Fld Z h16 b16 "underdeck/deck/Column" "generated" "Ljava/util/Optional;" .null := D16 (Or.inr (hi 88 rfl)) (ty := (.object "java/util/Optional")) (by decide)
  obtain ⟨_, _, ⟨T17, L17, k17, n17⟩, -, X17w, hS17w, hg17, ⟨Lc17, hQ17, l17, y17, z17⟩, st17⟩ := X16.specialBackS hx (y := (⟨"underdeck/deck/Column", "<init>", "(Ljava/lang/String;Ljava/lang/String;ZLjava/util/Optional;Ljava/util/Optional;Ljava/util/Optional;)V"⟩ : MethodName)) rfl hown11 (mvT hZ11 (hi 59 rfl)) (mvT hZ11 (hi 60 rfl)) (mvT hZ11 (hi 61 rfl)) (by decide) (backOfS (W := 1) (rm13 l Z a0 hw [] b16 b4 br_9 (t0_0 p1) b2_12 b2_14 b2_15 .null .null (0 : Int32) .null .null .null h16 n0 (Nat.le_trans (Nat.le_trans (Nat.le_trans (Nat.le_trans (Nat.le_trans (Nat.le_trans (Nat.le_trans (Nat.le_trans (Nat.le_trans (Nat.le_trans (Nat.le_trans (Nat.le_trans Z0 E4.1) E5.1) (Keep.of_wr W6).1) (Keep.of_wr W7).1) K8.1) K9.1) K10.1) K11.1) K12.1) K14.1) K15.1) E16.1) A16 F_name_b16 g_b16 F_type_b16 F_nullable_b16 F_defaultValue_b16 F_identity_b16 F_generated_b16) hZ11 (hi 61 rfl) (hi 58 rfl) (by decide) (by decide)) (g := (mkF m 199 #[vI p1, vI p2, vI p3, vI (t0_0 p1), vI (1 : Int32), vI (t0_2 p1), vI (1 : Int32), vA b4, vA br_9, vA br_10, vA br_11, vA b2_12, vA b2_14, vA b2_15, vU, vU] [(.ref b2_15), (.ref b2_14), (.ref b2_12), (.int (t0_0 p1)), (.ref br_9), (.ref b4), (.ref b16), (.ref b16)])) rfl (by rw [hml]; rfl) (Steps.refl _) (a := b16) (argsL := [(.ref b4), (.ref br_9), (.int (t0_0 p1)), (.ref b2_12), (.ref b2_14), (.ref b2_15)]) (rest := [(.ref b16)]) (lenOf pd__28Ljava_2flang_2fString_3bLjava_2flang_2fString_3bZLjava_2futil_2fOptional_3bLjava_2futil_2fOptional_3bLjava_2futil_2fOptional_3b_29V rfl) rfl (by show 2 * 0 + _ ≤ _; exact Nat.le_of_eq rfl) (hb hby at_199) (fun _ _ => ⟨rfl, e16, (by decide : 13 + 10 ≤ _), (by decide : 32 + 168 ≤ _)⟩)
  dsimp only [Pt.U, Pt.locs, Pt.cells, Pt.slots] at X17w hS17w hg17 l17 y17 z17 st17 hQ17
  subst l17 y17 z17
  obtain ⟨X17, hS17, hZ17, hown17⟩ := rebS hS11 (show _ ≤ T16.heap.size from by rw [e16]; exact (Nat.le_trans (Nat.le_trans (Nat.le_trans (Nat.le_trans (Nat.le_refl _) K12.1) K14.1) K15.1) E16.1)) X17w hS17w hg17 hZ11 hown11
  obtain ⟨rfl, N17q, K17, i17_0, i17_1, i17_2, i17_3, i17_4, i17_5, i17_6⟩ := hQ17
  have N17 := Fr.app N15 N17q
  have f26 := ((((i12_2.keep K14 own_n0).keep K15 own_n0).ext E16).keep K17 (own_nm (Nat.ne_of_lt (Nat.lt_of_lt_of_le f24.lt (Nat.le_of_eq g16.symm))) own_n0))
  have f27 := ((f24.ext E16).keep K17)
  obtain ⟨cq18, kq18, q18a, q18b, q18c⟩ := isOf hZ17 rfl i17_0
  obtain ⟨_, _, ⟨T18, L18, k18, n18⟩, -, X18, ⟨Lc18, hQ18, l18, y18, z18⟩, st18⟩ := X17.virtualBack hx (y := (⟨"underdeck/deck/Column", "required", "()Z"⟩ : MethodName)) (z := (⟨"underdeck/deck/Column", "required", "()Z"⟩ : MethodName)) hown17 (mvT hZ17 (hi 89 rfl)) (mvT hZ17 (hi 90 rfl)) (notFace_of_selects (args := #[]) (mvT hZ17 (hi 92 rfl))) (mvT hZ17 (hi 92 rfl)) (mvT hZ17 (hi 91 rfl)) (by decide) (backOf (W := 0) (rm16v l Z a0 hw [] b16 (nar .boolean (t0_0 p1)) b2_12 br_10 T17.heap n0 (Nat.le_trans (Nat.le_trans (Nat.le_trans (Nat.le_trans (Nat.le_trans (Nat.le_trans (Nat.le_trans (Nat.le_trans (Nat.le_trans (Nat.le_trans (Nat.le_trans (Nat.le_trans (Nat.le_trans Z0 E4.1) E5.1) (Keep.of_wr W6).1) (Keep.of_wr W7).1) K8.1) K9.1) K10.1) K11.1) K12.1) K14.1) K15.1) E16.1) K17.1) i17_3 i17_4 f26 f27) hZ17 (hi 93 rfl) (hi 58 rfl) (by decide) (by decide)) q18a q18c (g := (mkF m 240 #[vI p1, vI p2, vI p3, vI (t0_0 p1), vI (1 : Int32), vI (t0_2 p1), vI (1 : Int32), vA b4, vA br_9, vA br_10, vA br_11, vA b2_12, vA b2_14, vA b2_15, vA b16, vI (0 : Int32)] [(.ref b16)])) rfl (by rw [hml]; rfl) (Steps.refl _) (argsL := []) (rest := []) (lenOf pd__28_29Z rfl) rfl (by show 2 * 0 + _ ≤ _; exact Nat.le_of_eq rfl) (hb hby at_240) (fun _ _ => ⟨rfl, rfl, (by decide : 23 + 0 ≤ _), (by decide : 200 + 0 ≤ _)⟩)
  dsimp only [Pt.U, Pt.locs, Pt.cells, Pt.slots] at X18 l18 y18 z18 st18 hQ18
  subst l18 y18 z18
  obtain ⟨rfl, N18q, e18⟩ := hQ18
  have N18 := Fr.app N17 N18q
  obtain ⟨fs, hr, hrun, hended, hw1, hw2, hw3, hw4⟩ := X18.leaveW hS17 (show _ ≤ T18.heap.size from by rw [e18]; exact (Nat.le_refl _)) (v := some (.int (1 : Int32))) (fun h => by rw [Bd.returns] at h; cases h)
  refine ⟨_, _, pre0 _ ?_, hrun, hended, _, _, rfl, ?_, hw1, hw2, hw3, hw4.mono (by decide) (by decide)⟩
  · show Steps p.tables e below (s₁.setTop (mkF m 0 #[vI p1, vI p2, vI p3, vU, vU, vU, vU, vU, vU, vU, vU, vU, vU, vU, vU, vU] [])) _
    refine XS.iloadN X0.here hx rfl (hb hby at_0) rfl ?_
    refine XS.iconst X0.here hx rfl (hb hby at_1) ?_
    refine XS.iand X0.here hx rfl (hb hby at_2) rfl ?_
    show Steps p.tables e below (s₁.setTop (mkF m 3 #[vI p1, vI p2, vI p3, vU, vU, vU, vU, vU, vU, vU, vU, vU, vU, vU, vU, vU] [(.int (p1 &&& (1 : Int32)))])) _
    have J3 : ∀ target, Steps p.tables e below (s₁.setTop (mkF m 11 #[vI p1, vI p2, vI p3, vU, vU, vU, vU, vU, vU, vU, vU, vU, vU, vU, vU, vU] [(.int (t0_0 p1))])) target → Steps p.tables e below (s₁.setTop (mkF m 3 #[vI p1, vI p2, vI p3, vU, vU, vU, vU, vU, vU, vU, vU, vU, vU, vU, vU, vU] [(.int (p1 &&& (1 : Int32)))])) target := by
      intro target kt
      by_cases hm3 : (p1 &&& (1 : Int32)) = (0 : Int32)
      · skip
        show Steps p.tables e below (s₁.setTop (mkF m 3 #[vI p1, vI p2, vI p3, vU, vU, vU, vU, vU, vU, vU, vU, vU, vU, vU, vU, vU] [(.int (p1 &&& (1 : Int32)))])) _
        refine XS.ifYes X0.here hx rfl (pc0 := 3) (pc' := 10) rfl (hb hby at_3) rfl ((if0 _ _).trans (teq hm3).1) (by decide) (by decide) ?_
        refine XS.iconst X0.here hx rfl (hb hby at_10) ?_
        rw [show (t0_0 p1) = (0 : Int32) from if_pos hm3] at kt
        exact kt
      · skip
        show Steps p.tables e below (s₁.setTop (mkF m 3 #[vI p1, vI p2, vI p3, vU, vU, vU, vU, vU, vU, vU, vU, vU, vU, vU, vU, vU] [(.int (p1 &&& (1 : Int32)))])) _
        refine XS.ifNo X0.here hx rfl (hb hby at_3) rfl ((if0 _ _).trans (feq hm3).1) ?_
        refine XS.iconst X0.here hx rfl (hb hby at_6) ?_
        show Steps p.tables e below (s₁.setTop (mkF m 7 #[vI p1, vI p2, vI p3, vU, vU, vU, vU, vU, vU, vU, vU, vU, vU, vU, vU, vU] [(.int (1 : Int32))])) _
        refine XS.goto X0.here hx rfl (pc0 := 7) (pc' := 11) rfl (hb hby at_7) (by decide) (by decide) ?_
        rw [show (t0_0 p1) = (1 : Int32) from if_neg hm3] at kt
        exact kt
    refine J3 _ ?_
    refine XS.istoreN X0.here hx rfl (hb hby at_11) rfl (l' := #[vI p1, vI p2, vI p3, vI (t0_0 p1), vU, vU, vU, vU, vU, vU, vU, vU, vU, vU, vU, vU]) rfl ?_
    refine XS.iloadN X0.here hx rfl (hb hby at_12) rfl ?_
    refine XS.iconst X0.here hx rfl (hb hby at_13) ?_
    refine XS.iand X0.here hx rfl (hb hby at_14) rfl ?_
    show Steps p.tables e below (s₁.setTop (mkF m 15 #[vI p1, vI p2, vI p3, vI (t0_0 p1), vU, vU, vU, vU, vU, vU, vU, vU, vU, vU, vU, vU] [(.int (p1 &&& (2 : Int32)))])) _
    refine XS.ifNo X0.here hx rfl (hb hby at_15) rfl ((if0 _ _).trans (feq hc15).1) ?_
    refine XS.iconst X0.here hx rfl (hb hby at_18) ?_
    show Steps p.tables e below (s₁.setTop (mkF m 19 #[vI p1, vI p2, vI p3, vI (t0_0 p1), vU, vU, vU, vU, vU, vU, vU, vU, vU, vU, vU, vU] [(.int (1 : Int32))])) _
    refine XS.goto X0.here hx rfl (pc0 := 19) (pc' := 23) rfl (hb hby at_19) (by decide) (by decide) ?_
    refine XS.istore X0.here hx rfl (hb hby at_23) rfl (l' := #[vI p1, vI p2, vI p3, vI (t0_0 p1), vI (1 : Int32), vU, vU, vU, vU, vU, vU, vU, vU, vU, vU, vU]) rfl ?_
    refine XS.iloadN X0.here hx rfl (hb hby at_25) rfl ?_
    refine XS.iconst X0.here hx rfl (hb hby at_26) ?_
    refine XS.iushr X0.here hx rfl (hb hby at_27) rfl ?_
    refine XS.iconst X0.here hx rfl (hb hby at_28) ?_
    refine XS.iand X0.here hx rfl (hb hby at_29) rfl ?_
    refine XS.iconst X0.here hx rfl (hb hby at_30) ?_
    refine XS.irem X0.here hx rfl (hb hby at_31) rfl (by decide) ?_
    refine XS.istore X0.here hx rfl (hb hby at_32) rfl (l' := #[vI p1, vI p2, vI p3, vI (t0_0 p1), vI (1 : Int32), vI (t0_2 p1), vU, vU, vU, vU, vU, vU, vU, vU, vU, vU]) rfl ?_
    refine XS.iloadN X0.here hx rfl (hb hby at_34) rfl ?_
    refine XS.bipush X0.here hx rfl (hb hby at_35) ?_
    refine XS.iand X0.here hx rfl (hb hby at_37) rfl ?_
    show Steps p.tables e below (s₁.setTop (mkF m 38 #[vI p1, vI p2, vI p3, vI (t0_0 p1), vI (1 : Int32), vI (t0_2 p1), vU, vU, vU, vU, vU, vU, vU, vU, vU, vU] [(.int (p1 &&& (16 : Int32)))])) _
    refine XS.ifNo X0.here hx rfl (hb hby at_38) rfl ((if0 _ _).trans (feq hc38).1) ?_
    refine XS.iconst X0.here hx rfl (hb hby at_41) ?_
    show Steps p.tables e below (s₁.setTop (mkF m 42 #[vI p1, vI p2, vI p3, vI (t0_0 p1), vI (1 : Int32), vI (t0_2 p1), vU, vU, vU, vU, vU, vU, vU, vU, vU, vU] [(.int (1 : Int32))])) _
    refine XS.goto X0.here hx rfl (pc0 := 42) (pc' := 46) rfl (hb hby at_42) (by decide) (by decide) ?_
    refine XS.istore X0.here hx rfl (hb hby at_46) rfl (l' := #[vI p1, vI p2, vI p3, vI (t0_0 p1), vI (1 : Int32), vI (t0_2 p1), vI (1 : Int32), vU, vU, vU, vU, vU, vU, vU, vU, vU]) rfl ?_
    show Steps p.tables e below (s₁.setTop (mkF m 48 #[vI p1, vI p2, vI p3, vI (t0_0 p1), vI (1 : Int32), vI (t0_2 p1), vI (1 : Int32), vU, vU, vU, vU, vU, vU, vU, vU, vU] [])) _
    refine st4 _ ?_
    refine XS.dup X4.here hx rfl (hb hby at_51) rfl rfl ?_
    refine XS.iconst X4.here hx rfl (hb hby at_52) ?_
    show Steps p.tables e below (T4.setTop (mkF m 53 #[vI p1, vI p2, vI p3, vI (t0_0 p1), vI (1 : Int32), vI (t0_2 p1), vI (1 : Int32), vU, vU, vU, vU, vU, vU, vU, vU, vU] [(.int (2 : Int32)), (.ref b4), (.ref b4)])) _
    refine st5 _ ?_
    refine XS.dup X5.here hx rfl (hb hby at_55) rfl rfl ?_
    refine XS.iconst X5.here hx rfl (hb hby at_56) ?_
    refine XS.iloadN X5.here hx rfl (hb hby at_57) rfl ?_
    refine XS.sipush X5.here hx rfl (hb hby at_58) ?_
    refine XS.iand X5.here hx rfl (hb hby at_61) rfl ?_
    refine XS.i2c X5.here hx rfl (hb hby at_62) rfl ?_
    show Steps p.tables e below (T5.setTop (mkF m 63 #[vI p1, vI p2, vI p3, vI (t0_0 p1), vI (1 : Int32), vI (t0_2 p1), vI (1 : Int32), vU, vU, vU, vU, vU, vU, vU, vU, vU] [(.int (t0_3 p2)), (.int (0 : Int32)), (.ref b5), (.ref b5), (.ref b4), (.ref b4)])) _
    refine st6 _ ?_
    refine XS.dup X6.here hx rfl (hb hby at_64) rfl rfl ?_
    refine XS.iconst X6.here hx rfl (hb hby at_65) ?_
    refine XS.iloadN X6.here hx rfl (hb hby at_66) rfl ?_
    refine XS.bipush X6.here hx rfl (hb hby at_67) ?_
    refine XS.iushr X6.here hx rfl (hb hby at_69) rfl ?_
    refine XS.sipush X6.here hx rfl (hb hby at_70) ?_
    refine XS.iand X6.here hx rfl (hb hby at_73) rfl ?_
    refine XS.i2c X6.here hx rfl (hb hby at_74) rfl ?_
    show Steps p.tables e below (T6.setTop (mkF m 75 #[vI p1, vI p2, vI p3, vI (t0_0 p1), vI (1 : Int32), vI (t0_2 p1), vI (1 : Int32), vU, vU, vU, vU, vU, vU, vU, vU, vU] [(.int (t0_5 p2)), (.int (1 : Int32)), (.ref b5), (.ref b5), (.ref b4), (.ref b4)])) _
    refine st7 _ ?_
    show Steps p.tables e below (T7.setTop (mkF m 76 #[vI p1, vI p2, vI p3, vI (t0_0 p1), vI (1 : Int32), vI (t0_2 p1), vI (1 : Int32), vU, vU, vU, vU, vU, vU, vU, vU, vU] [(.ref b5), (.ref b4), (.ref b4)])) _
    refine st8.trans ?_
    refine XS.astore X8.here hx rfl (hb hby at_79) rfl rfl (l' := #[vI p1, vI p2, vI p3, vI (t0_0 p1), vI (1 : Int32), vI (t0_2 p1), vI (1 : Int32), vA b4, vU, vU, vU, vU, vU, vU, vU, vU]) rfl ?_
    refine XS.iloadN X8.here hx rfl (hb hby at_81) rfl ?_
    refine XS.bipush X8.here hx rfl (hb hby at_82) ?_
    refine XS.iushr X8.here hx rfl (hb hby at_84) rfl ?_
    refine XS.sipush X8.here hx rfl (hb hby at_85) ?_
    refine XS.iand X8.here hx rfl (hb hby at_88) rfl ?_
    refine XS.i2c X8.here hx rfl (hb hby at_89) rfl ?_
    show Steps p.tables e below (T8.setTop (mkF m 90 #[vI p1, vI p2, vI p3, vI (t0_0 p1), vI (1 : Int32), vI (t0_2 p1), vI (1 : Int32), vA b4, vU, vU, vU, vU, vU, vU, vU, vU] [(.int (t0_7 p2))])) _
    refine st9 _ ?_
    refine XS.astore X9.here hx rfl (hb hby at_93) rfl rfl (l' := #[vI p1, vI p2, vI p3, vI (t0_0 p1), vI (1 : Int32), vI (t0_2 p1), vI (1 : Int32), vA b4, vA br_9, vU, vU, vU, vU, vU, vU, vU]) rfl ?_
    refine XS.iloadN X9.here hx rfl (hb hby at_95) rfl ?_
    show Steps p.tables e below (T9.setTop (mkF m 96 #[vI p1, vI p2, vI p3, vI (t0_0 p1), vI (1 : Int32), vI (t0_2 p1), vI (1 : Int32), vA b4, vA br_9, vU, vU, vU, vU, vU, vU, vU] [(.int p3)])) _
    refine st10.trans ?_
    refine XS.astore X10.here hx rfl (hb hby at_99) rfl rfl (l' := #[vI p1, vI p2, vI p3, vI (t0_0 p1), vI (1 : Int32), vI (t0_2 p1), vI (1 : Int32), vA b4, vA br_9, vA br_10, vU, vU, vU, vU, vU, vU]) rfl ?_
    refine XS.iloadN X10.here hx rfl (hb hby at_101) rfl ?_
    refine XS.bipush X10.here hx rfl (hb hby at_102) ?_
    refine XS.iushr X10.here hx rfl (hb hby at_104) rfl ?_
    show Steps p.tables e below (T10.setTop (mkF m 105 #[vI p1, vI p2, vI p3, vI (t0_0 p1), vI (1 : Int32), vI (t0_2 p1), vI (1 : Int32), vA b4, vA br_9, vA br_10, vU, vU, vU, vU, vU, vU] [(.int (t0_8 p3))])) _
    refine st11.trans ?_
    refine XS.astore X11.here hx rfl (hb hby at_108) rfl rfl (l' := #[vI p1, vI p2, vI p3, vI (t0_0 p1), vI (1 : Int32), vI (t0_2 p1), vI (1 : Int32), vA b4, vA br_9, vA br_10, vA br_11, vU, vU, vU, vU, vU]) rfl ?_
    refine XS.iload X11.here hx rfl (hb hby at_110) rfl ?_
    show Steps p.tables e below (T11.setTop (mkF m 112 #[vI p1, vI p2, vI p3, vI (t0_0 p1), vI (1 : Int32), vI (t0_2 p1), vI (1 : Int32), vA b4, vA br_9, vA br_10, vA br_11, vU, vU, vU, vU, vU] [(.int (1 : Int32))])) _
    refine XS.ifNo X11.here hx rfl (hb hby at_112) rfl ((if0 _ _).trans (feq (by decide : ¬ ((1 : Int32) = (0 : Int32)))).1) ?_
    refine XS.aload X11.here hx rfl (hb hby at_115) rfl rfl ?_
    show Steps p.tables e below (T11.setTop (mkF m 117 #[vI p1, vI p2, vI p3, vI (t0_0 p1), vI (1 : Int32), vI (t0_2 p1), vI (1 : Int32), vA b4, vA br_9, vA br_10, vA br_11, vU, vU, vU, vU, vU] [(.ref br_10)])) _
    refine st12 _ ?_
    show Steps p.tables e below (T12.setTop (mkF m 120 #[vI p1, vI p2, vI p3, vI (t0_0 p1), vI (1 : Int32), vI (t0_2 p1), vI (1 : Int32), vA b4, vA br_9, vA br_10, vA br_11, vU, vU, vU, vU, vU] [(.ref b2_12)])) _
    refine XS.goto X12.here hx rfl (pc0 := 120) (pc' := 126) rfl (hb hby at_120) (by decide) (by decide) ?_
    refine XS.astore X12.here hx rfl (hb hby at_126) rfl rfl (l' := #[vI p1, vI p2, vI p3, vI (t0_0 p1), vI (1 : Int32), vI (t0_2 p1), vI (1 : Int32), vA b4, vA br_9, vA br_10, vA br_11, vA b2_12, vU, vU, vU, vU]) rfl ?_
    refine XS.iload X12.here hx rfl (hb hby at_128) rfl ?_
    show Steps p.tables e below (T12.setTop (mkF m 130 #[vI p1, vI p2, vI p3, vI (t0_0 p1), vI (1 : Int32), vI (t0_2 p1), vI (1 : Int32), vA b4, vA br_9, vA br_10, vA br_11, vA b2_12, vU, vU, vU, vU] [(.int (t0_2 p1))])) _
    refine XS.ifYes X12.here hx rfl (pc0 := 130) (pc' := 141) rfl (hb hby at_130) rfl ((if0 _ _).trans (feq hc130).2) (by decide) (by decide) ?_
    refine XS.iload X12.here hx rfl (hb hby at_141) rfl ?_
    refine XS.iconst X12.here hx rfl (hb hby at_143) ?_
    show Steps p.tables e below (T12.setTop (mkF m 144 #[vI p1, vI p2, vI p3, vI (t0_0 p1), vI (1 : Int32), vI (t0_2 p1), vI (1 : Int32), vA b4, vA br_9, vA br_10, vA br_11, vA b2_12, vU, vU, vU, vU] [(.int (1 : Int32)), (.int (t0_2 p1))])) _
    refine XS.icmpNo X12.here hx rfl (hb hby at_144) rfl (teq hc144).2 ?_
    show Steps p.tables e below (T12.setTop (mkF m 147 #[vI p1, vI p2, vI p3, vI (t0_0 p1), vI (1 : Int32), vI (t0_2 p1), vI (1 : Int32), vA b4, vA br_9, vA br_10, vA br_11, vA b2_12, vU, vU, vU, vU] [])) _
    refine st13 _ ?_
    show Steps p.tables e below (T13.setTop (mkF m 150 #[vI p1, vI p2, vI p3, vI (t0_0 p1), vI (1 : Int32), vI (t0_2 p1), vI (1 : Int32), vA b4, vA br_9, vA br_10, vA br_11, vA b2_12, vU, vU, vU, vU] [(.ref s_ALWAYS)])) _
    refine st14 _ ?_
    refine XS.astore X14.here hx rfl (hb hby at_153) rfl rfl (l' := #[vI p1, vI p2, vI p3, vI (t0_0 p1), vI (1 : Int32), vI (t0_2 p1), vI (1 : Int32), vA b4, vA br_9, vA br_10, vA br_11, vA b2_12, vA b2_14, vU, vU, vU]) rfl ?_
    show Steps p.tables e below (T14.setTop (mkF m 155 #[vI p1, vI p2, vI p3, vI (t0_0 p1), vI (1 : Int32), vI (t0_2 p1), vI (1 : Int32), vA b4, vA br_9, vA br_10, vA br_11, vA b2_12, vA b2_14, vU, vU, vU] [])) _
    refine XS.goto X14.here hx rfl (pc0 := 155) (pc' := 166) rfl (hb hby at_155) (by decide) (by decide) ?_
    refine XS.iload X14.here hx rfl (hb hby at_166) rfl ?_
    show Steps p.tables e below (T14.setTop (mkF m 168 #[vI p1, vI p2, vI p3, vI (t0_0 p1), vI (1 : Int32), vI (t0_2 p1), vI (1 : Int32), vA b4, vA br_9, vA br_10, vA br_11, vA b2_12, vA b2_14, vU, vU, vU] [(.int (1 : Int32))])) _
    refine XS.ifNo X14.here hx rfl (hb hby at_168) rfl ((if0 _ _).trans (feq (by decide : ¬ ((1 : Int32) = (0 : Int32)))).1) ?_
    refine XS.aload X14.here hx rfl (hb hby at_171) rfl rfl ?_
    show Steps p.tables e below (T14.setTop (mkF m 173 #[vI p1, vI p2, vI p3, vI (t0_0 p1), vI (1 : Int32), vI (t0_2 p1), vI (1 : Int32), vA b4, vA br_9, vA br_10, vA br_11, vA b2_12, vA b2_14, vU, vU, vU] [(.ref br_11)])) _
    refine st15 _ ?_
    show Steps p.tables e below (T15.setTop (mkF m 176 #[vI p1, vI p2, vI p3, vI (t0_0 p1), vI (1 : Int32), vI (t0_2 p1), vI (1 : Int32), vA b4, vA br_9, vA br_10, vA br_11, vA b2_12, vA b2_14, vU, vU, vU] [(.ref b2_15)])) _
    refine XS.goto X15.here hx rfl (pc0 := 176) (pc' := 182) rfl (hb hby at_176) (by decide) (by decide) ?_
    refine XS.astore X15.here hx rfl (hb hby at_182) rfl rfl (l' := #[vI p1, vI p2, vI p3, vI (t0_0 p1), vI (1 : Int32), vI (t0_2 p1), vI (1 : Int32), vA b4, vA br_9, vA br_10, vA br_11, vA b2_12, vA b2_14, vA b2_15, vU, vU]) rfl ?_
    show Steps p.tables e below (T15.setTop (mkF m 184 #[vI p1, vI p2, vI p3, vI (t0_0 p1), vI (1 : Int32), vI (t0_2 p1), vI (1 : Int32), vA b4, vA br_9, vA br_10, vA br_11, vA b2_12, vA b2_14, vA b2_15, vU, vU] [])) _
    refine st16 _ ?_
    refine XS.dup X16.here hx rfl (hb hby at_187) rfl rfl ?_
    refine XS.aload X16.here hx rfl (hb hby at_188) rfl rfl ?_
    refine XS.aload X16.here hx rfl (hb hby at_190) rfl rfl ?_
    refine XS.iloadN X16.here hx rfl (hb hby at_192) rfl ?_
    refine XS.aload X16.here hx rfl (hb hby at_193) rfl rfl ?_
    refine XS.aload X16.here hx rfl (hb hby at_195) rfl rfl ?_
    refine XS.aload X16.here hx rfl (hb hby at_197) rfl rfl ?_
    show Steps p.tables e below (T16.setTop (mkF m 199 #[vI p1, vI p2, vI p3, vI (t0_0 p1), vI (1 : Int32), vI (t0_2 p1), vI (1 : Int32), vA b4, vA br_9, vA br_10, vA br_11, vA b2_12, vA b2_14, vA b2_15, vU, vU] [(.ref b2_15), (.ref b2_14), (.ref b2_12), (.int (t0_0 p1)), (.ref br_9), (.ref b4), (.ref b16), (.ref b16)])) _
    refine st17.trans ?_
    refine XS.astore X17.here hx rfl (hb hby at_202) rfl rfl (l' := #[vI p1, vI p2, vI p3, vI (t0_0 p1), vI (1 : Int32), vI (t0_2 p1), vI (1 : Int32), vA b4, vA br_9, vA br_10, vA br_11, vA b2_12, vA b2_14, vA b2_15, vA b16, vU]) rfl ?_
    refine XS.iconst X17.here hx rfl (hb hby at_204) ?_
    refine XS.istore X17.here hx rfl (hb hby at_205) rfl (l' := #[vI p1, vI p2, vI p3, vI (t0_0 p1), vI (1 : Int32), vI (t0_2 p1), vI (1 : Int32), vA b4, vA br_9, vA br_10, vA br_11, vA b2_12, vA b2_14, vA b2_15, vA b16, vI (1 : Int32)]) rfl ?_
    refine XS.iloadN X17.here hx rfl (hb hby at_207) rfl ?_
    show Steps p.tables e below (T17.setTop (mkF m 208 #[vI p1, vI p2, vI p3, vI (t0_0 p1), vI (1 : Int32), vI (t0_2 p1), vI (1 : Int32), vA b4, vA br_9, vA br_10, vA br_11, vA b2_12, vA b2_14, vA b2_15, vA b16, vI (1 : Int32)] [(.int (t0_0 p1))])) _
    have J208 : ∀ target, Steps p.tables e below (T17.setTop (mkF m 214 #[vI p1, vI p2, vI p3, vI (t0_0 p1), vI (1 : Int32), vI (t0_2 p1), vI (1 : Int32), vA b4, vA br_9, vA br_10, vA br_11, vA b2_12, vA b2_14, vA b2_15, vA b16, vI (t0_9 p1)] [])) target → Steps p.tables e below (T17.setTop (mkF m 208 #[vI p1, vI p2, vI p3, vI (t0_0 p1), vI (1 : Int32), vI (t0_2 p1), vI (1 : Int32), vA b4, vA br_9, vA br_10, vA br_11, vA b2_12, vA b2_14, vA b2_15, vA b16, vI (1 : Int32)] [(.int (t0_0 p1))])) target := by
      intro target kt
      by_cases hm208 : (t0_0 p1) = (0 : Int32)
      · skip
        show Steps p.tables e below (T17.setTop (mkF m 208 #[vI p1, vI p2, vI p3, vI (t0_0 p1), vI (1 : Int32), vI (t0_2 p1), vI (1 : Int32), vA b4, vA br_9, vA br_10, vA br_11, vA b2_12, vA b2_14, vA b2_15, vA b16, vI (1 : Int32)] [(.int (t0_0 p1))])) _
        refine XS.ifYes X17.here hx rfl (pc0 := 208) (pc' := 214) rfl (hb hby at_208) rfl ((if0 _ _).trans (teq hm208).1) (by decide) (by decide) ?_
        rw [show (t0_9 p1) = (1 : Int32) from if_pos hm208] at kt
        exact kt
      · skip
        show Steps p.tables e below (T17.setTop (mkF m 208 #[vI p1, vI p2, vI p3, vI (t0_0 p1), vI (1 : Int32), vI (t0_2 p1), vI (1 : Int32), vA b4, vA br_9, vA br_10, vA br_11, vA b2_12, vA b2_14, vA b2_15, vA b16, vI (1 : Int32)] [(.int (t0_0 p1))])) _
        refine XS.ifNo X17.here hx rfl (hb hby at_208) rfl ((if0 _ _).trans (feq hm208).1) ?_
        refine XS.iconst X17.here hx rfl (hb hby at_211) ?_
        refine XS.istore X17.here hx rfl (hb hby at_212) rfl (l' := #[vI p1, vI p2, vI p3, vI (t0_0 p1), vI (1 : Int32), vI (t0_2 p1), vI (1 : Int32), vA b4, vA br_9, vA br_10, vA br_11, vA b2_12, vA b2_14, vA b2_15, vA b16, vI (0 : Int32)]) rfl ?_
        rw [show (t0_9 p1) = (0 : Int32) from if_neg hm208] at kt
        exact kt
    refine J208 _ ?_
    refine XS.iload X17.here hx rfl (hb hby at_214) rfl ?_
    show Steps p.tables e below (T17.setTop (mkF m 216 #[vI p1, vI p2, vI p3, vI (t0_0 p1), vI (1 : Int32), vI (t0_2 p1), vI (1 : Int32), vA b4, vA br_9, vA br_10, vA br_11, vA b2_12, vA b2_14, vA b2_15, vA b16, vI (t0_9 p1)] [(.int (1 : Int32))])) _
    refine XS.ifNo X17.here hx rfl (hb hby at_216) rfl ((if0 _ _).trans (feq (by decide : ¬ ((1 : Int32) = (0 : Int32)))).1) ?_
    refine XS.iconst X17.here hx rfl (hb hby at_219) ?_
    refine XS.istore X17.here hx rfl (hb hby at_220) rfl (l' := #[vI p1, vI p2, vI p3, vI (t0_0 p1), vI (1 : Int32), vI (t0_2 p1), vI (1 : Int32), vA b4, vA br_9, vA br_10, vA br_11, vA b2_12, vA b2_14, vA b2_15, vA b16, vI (0 : Int32)]) rfl ?_
    refine XS.iload X17.here hx rfl (hb hby at_222) rfl ?_
    show Steps p.tables e below (T17.setTop (mkF m 224 #[vI p1, vI p2, vI p3, vI (t0_0 p1), vI (1 : Int32), vI (t0_2 p1), vI (1 : Int32), vA b4, vA br_9, vA br_10, vA br_11, vA b2_12, vA b2_14, vA b2_15, vA b16, vI (0 : Int32)] [(.int (t0_2 p1))])) _
    refine XS.ifNo X17.here hx rfl (hb hby at_224) rfl ((if0 _ _).trans (feq hc130).1) ?_
    refine XS.iconst X17.here hx rfl (hb hby at_227) ?_
    refine XS.istore X17.here hx rfl (hb hby at_228) rfl (l' := #[vI p1, vI p2, vI p3, vI (t0_0 p1), vI (1 : Int32), vI (t0_2 p1), vI (1 : Int32), vA b4, vA br_9, vA br_10, vA br_11, vA b2_12, vA b2_14, vA b2_15, vA b16, vI (0 : Int32)]) rfl ?_
    refine XS.iload X17.here hx rfl (hb hby at_230) rfl ?_
    show Steps p.tables e below (T17.setTop (mkF m 232 #[vI p1, vI p2, vI p3, vI (t0_0 p1), vI (1 : Int32), vI (t0_2 p1), vI (1 : Int32), vA b4, vA br_9, vA br_10, vA br_11, vA b2_12, vA b2_14, vA b2_15, vA b16, vI (0 : Int32)] [(.int (1 : Int32))])) _
    refine XS.ifNo X17.here hx rfl (hb hby at_232) rfl ((if0 _ _).trans (feq (by decide : ¬ ((1 : Int32) = (0 : Int32)))).1) ?_
    refine XS.iconst X17.here hx rfl (hb hby at_235) ?_
    refine XS.istore X17.here hx rfl (hb hby at_236) rfl (l' := #[vI p1, vI p2, vI p3, vI (t0_0 p1), vI (1 : Int32), vI (t0_2 p1), vI (1 : Int32), vA b4, vA br_9, vA br_10, vA br_11, vA b2_12, vA b2_14, vA b2_15, vA b16, vI (0 : Int32)]) rfl ?_
    refine XS.aload X17.here hx rfl (hb hby at_238) rfl rfl ?_
    show Steps p.tables e below (T17.setTop (mkF m 240 #[vI p1, vI p2, vI p3, vI (t0_0 p1), vI (1 : Int32), vI (t0_2 p1), vI (1 : Int32), vA b4, vA br_9, vA br_10, vA br_11, vA b2_12, vA b2_14, vA b2_15, vA b16, vI (0 : Int32)] [(.ref b16)])) _
    refine st18.trans ?_
    refine XS.iload X18.here hx rfl (hb hby at_243) rfl ?_
    show Steps p.tables e below (T18.setTop (mkF m 245 #[vI p1, vI p2, vI p3, vI (t0_0 p1), vI (1 : Int32), vI (t0_2 p1), vI (1 : Int32), vA b4, vA br_9, vA br_10, vA br_11, vA b2_12, vA b2_14, vA b2_15, vA b16, vI (0 : Int32)] [(.int (0 : Int32)), (.int (0 : Int32))])) _
    refine XS.icmpNo X18.here hx rfl (hb hby at_245) rfl (teq (rfl : (0 : Int32) = (0 : Int32))).2 ?_
    refine XS.iconst X18.here hx rfl (hb hby at_248) ?_
    show Steps p.tables e below (T18.setTop (mkF m 249 #[vI p1, vI p2, vI p3, vI (t0_0 p1), vI (1 : Int32), vI (t0_2 p1), vI (1 : Int32), vA b4, vA br_9, vA br_10, vA br_11, vA b2_12, vA b2_14, vA b2_15, vA b16, vI (0 : Int32)] [(.int (1 : Int32))])) _
    refine XS.goto X18.here hx rfl (pc0 := 249) (pc' := 253) rfl (hb hby at_249) (by decide) (by decide) ?_
    show Steps p.tables e below (T18.setTop (mkF m 253 #[vI p1, vI p2, vI p3, vI (t0_0 p1), vI (1 : Int32), vI (t0_2 p1), vI (1 : Int32), vA b4, vA br_9, vA br_10, vA br_11, vA b2_12, vA b2_14, vA b2_15, vA b16, vI (0 : Int32)] [(.int (1 : Int32))])) _
    exact retN X18 hx (t := .boolean) Bd.returns (by simp) (hb hby at_253) hr
  · show Q_rm0 Z p1 p2 p3 s_COMPACT_STRINGS s_EMPTY s_ALWAYS s_BY_DEFAULT h0 n0 _ T18.heap _
    exact ⟨rfl, N18⟩
set_option maxRecDepth 65536 in
set_option maxHeartbeats 40000000 in
theorem rm0_fftt (l : Launch) (Z : State) (a0 : Array Value) (hw : ∀ d ∈ tables_1, d.before a0 Z = true) (ws : List Jvm.Cond) (p1 : Int32) (p2 : Int32) (p3 : Int32) (s_COMPACT_STRINGS : Int32) (s_EMPTY : Addr) (s_ALWAYS : Addr) (s_BY_DEFAULT : Addr) (h0 : Heap) (n0 : Nat) (Z0 : n0 ≤ h0.size) (hcs : ¬ (s_COMPACT_STRINGS = (0 : Int32))) (S_COMPACT_STRINGS : Sta Z h0 "java/lang/String" "COMPACT_STRINGS" "Z" (.int s_COMPACT_STRINGS)) (S_EMPTY : Sta Z h0 "java/util/Optional" "EMPTY" "Ljava/util/Optional;" (.ref s_EMPTY)) (S_ALWAYS : Sta Z h0 "underdeck/deck/Column$Identity" "ALWAYS" "Lunderdeck/deck/Column$Identity;" (.ref s_ALWAYS)) (S_BY_DEFAULT : Sta Z h0 "underdeck/deck/Column$Identity" "BY_DEFAULT" "Lunderdeck/deck/Column$Identity;" (.ref s_BY_DEFAULT)) (F_value_s_EMPTY : Fld Z h0 s_EMPTY "java/util/Optional" "value" "Ljava/lang/Object;" .null) (E_s_EMPTY : Exa Z h0 s_EMPTY "java/util/Optional") (hc15 : ¬ ((p1 &&& (2 : Int32)) = (0 : Int32))) (hc38 : ¬ ((p1 &&& (16 : Int32)) = (0 : Int32))) (hc130 : ¬ ((t0_2 p1) = (0 : Int32))) (hc144 : ¬ ((t0_2 p1) = (1 : Int32))) :
    MetFree l x (head1 (Jvm.Cond.code x code maxLocals ret :: ws) room_1) (fun a U => a = #[(.int p1), (.int p2), (.int p3)] ∧ Z.Warmed39 U.vm ∧ U.heap = h0) (fun _ _ _ _ _ => True) (fun _ U o U' => ∃ v L, o = .returned v ∧ Q_rm0 Z p1 p2 p3 s_COMPACT_STRINGS s_EMPTY s_ALWAYS s_BY_DEFAULT h0 n0 v U'.heap L ∧ ReturnedEndW U o U' L room_1.cells room_1.slots) := by
  have hi : ∀ (i : Nat) {d : Jvm.Cond}, tables_1[i]? = some d → d.before a0 Z = true := fun i d h => hw d (List.mem_of_getElem? h)
  refine MetFree.of_bodySF (plainFor_of_name pn_0) hisR ?_
  intro p e s m args below meth c s₁ Bd hml0 hP hK
  obtain ⟨rfl, hZ, hh⟩ := hP
  have hx := Bd.exec
  have hby := Bd.bytes
  have hml : c.maxLocals = 16 := hml0
  have hown : s.vm.findClass "underdeck/deck/ColumnRequiredPinLaw" = some m.cls := findClass_of_methodNamed Bd.named
  have hnm := (name_of_methodNamed Bd.named Bd.method).1
  have X0 : Stand p l e room_1 (s.setVm s.vm) m #[(.int p1), (.int p2), (.int p3)] below meth c s₁ [] 0 0 := Stand.of_body Bd
  have e0 : s₁.heap = h0 := by rw [← hh, Bd.state]; rfl
  have N0 := Fr.nil n0
  have pre0 : ∀ t, Steps p.tables e below (s₁.setTop (mkF m 0 #[vI p1, vI p2, vI p3, vU, vU, vU, vU, vU, vU, vU, vU, vU, vU, vU, vU, vU] [])) t → Steps p.tables e below (s₁.setTop (entryFrame m #[(.int p1), (.int p2), (.int p3)] maxLocals)) t := fun t k => castTop (ef_0 m p1 p2 p3) k
  have hS0 : s.Since s.vm h0.size := (State.WarmedH.refl s).since _
  obtain ⟨T4, h4, X4, e4, E4, A4, D4, -, st4⟩ := newO X0 hx hZ hown (hi 0 rfl) (hi 1 rfl) (hi 2 rfl) e0 (g := (mkF m 48 #[vI p1, vI p2, vI p3, vI (t0_0 p1), vI (1 : Int32), vI (t0_2 p1), vI (1 : Int32), vU, vU, vU, vU, vU, vU, vU, vU, vU] [])) rfl (hb hby at_48) (by decide) (by decide)
  obtain ⟨b4, g4⟩ : ∃ z, z = h0.size := ⟨_, rfl⟩
  rw [← g4] at A4 D4 st4
  have g_b4 : n0 ≤ b4 := Nat.le_trans Z0 (Nat.le_of_eq g4.symm)
  have sz_b4 : h0.size ≤ b4 := Nat.le_trans (Nat.le_refl h0.size) (Nat.le_of_eq g4.symm)
  have F_coder_b4 : Fld Z h4 b4 "java/lang/String" "coder" "B" (.int (0 : Int32)) := D4 (Or.inr (hi 27 rfl)) (ty := .byte) (by decide)
  have F_value_b4 : Fld Z h4 b4 "java/lang/String" "value" "[B" .null := D4 (Or.inr (hi 29 rfl)) (ty := (.array .byte)) (by decide)
  obtain ⟨T5, h5, k5, X5, e5, E5, A5, st5⟩ := newP X4 hx hZ (hi 3 rfl) e4 (g := (mkF m 53 #[vI p1, vI p2, vI p3, vI (t0_0 p1), vI (1 : Int32), vI (t0_2 p1), vI (1 : Int32), vU, vU, vU, vU, vU, vU, vU, vU, vU] [(.int (2 : Int32)), (.ref b4), (.ref b4)])) rfl (hb hby at_53) rfl (by decide) (cap := 2) (by decide) (by decide) (by decide) (by decide)
  obtain ⟨b5, g5⟩ : ∃ z, z = h4.size := ⟨_, rfl⟩
  rw [← g5] at A5 st5
  have g_b5 : n0 ≤ b5 := Nat.le_trans (Nat.le_trans Z0 E4.1) (Nat.le_of_eq g5.symm)
  have sz_b5 : h0.size ≤ b5 := Nat.le_trans (Nat.le_trans (Nat.le_refl h0.size) E4.1) (Nat.le_of_eq g5.symm)
  have V_b5 : Arv Z h5 b5 k5 .char (2 : Int32) [(.int (0 : Int32)), (.int (0 : Int32))] (.int (0 : Int32)) := (Arv.new A5 (by decide)).pad (pad_rep [] (.int (0 : Int32)) 2)
  obtain ⟨cl_b5_0, Ar_b5_0, q_b5_0, Sz_b5_0, Ng_b5_0, Ha_b5_0, Gt_b5_0⟩ := id V_b5
  have hin_b5_0 : ¬ ((0 : Int32) < 0 ∨ cl_b5_0.slots.size ≤ ((0 : Int32)).toNatClampNeg) := inb_of Sz_b5_0 ⟨by decide, by decide⟩
  obtain ⟨T6, h6, X6, e6, W6, st6⟩ := stC X5 hx hZ e5 Ar_b5_0 (j := (0 : Int32)) hin_b5_0 (g := (mkF m 63 #[vI p1, vI p2, vI p3, vI (t0_0 p1), vI (1 : Int32), vI (t0_2 p1), vI (1 : Int32), vU, vU, vU, vU, vU, vU, vU, vU, vU] [(.int (t0_3 p2)), (.int (0 : Int32)), (.ref b5), (.ref b5), (.ref b4), (.ref b4)])) rfl rfl (hb hby at_63)
  have V6 : Arv Z h6 b5 k5 .char (2 : Int32) [(.int (nar .char (t0_3 p2))), (.int (0 : Int32))] (.int (0 : Int32)) := Arv.set Ar_b5_0 q_b5_0 Sz_b5_0 Ng_b5_0 Ha_b5_0 Gt_b5_0 (fits_nar_char _) W6 0 rfl (Nat.le_of_ble_eq_true rfl)
  have N6 := Fr.snoc X6 N0 g_b5
  obtain ⟨cl_b5_1, Ar_b5_1, q_b5_1, Sz_b5_1, Ng_b5_1, Ha_b5_1, Gt_b5_1⟩ := id V6
  have hin_b5_1 : ¬ ((1 : Int32) < 0 ∨ cl_b5_1.slots.size ≤ ((1 : Int32)).toNatClampNeg) := inb_of Sz_b5_1 ⟨by decide, by decide⟩
  obtain ⟨T7, h7, X7, e7, W7, st7⟩ := stC X6 hx hZ e6 Ar_b5_1 (j := (1 : Int32)) hin_b5_1 (g := (mkF m 75 #[vI p1, vI p2, vI p3, vI (t0_0 p1), vI (1 : Int32), vI (t0_2 p1), vI (1 : Int32), vU, vU, vU, vU, vU, vU, vU, vU, vU] [(.int (t0_5 p2)), (.int (1 : Int32)), (.ref b5), (.ref b5), (.ref b4), (.ref b4)])) rfl rfl (hb hby at_75)
  have V7 : Arv Z h7 b5 k5 .char (2 : Int32) [(.int (nar .char (t0_3 p2))), (.int (nar .char (t0_5 p2)))] (.int (0 : Int32)) := Arv.set Ar_b5_1 q_b5_1 Sz_b5_1 Ng_b5_1 Ha_b5_1 Gt_b5_1 (fits_nar_char _) W7 1 rfl (Nat.le_of_ble_eq_true rfl)
  have N7 := Fr.snoc X7 N6 g_b5
  have f2 := ((((S_COMPACT_STRINGS.ext E4).ext E5).wr W6).wr W7)
  have f3 := (((F_coder_b4.ext E5).other W6 (Or.inl (Nat.ne_of_lt (Nat.lt_of_lt_of_le A4.lt (Nat.le_of_eq g5.symm))))).other W7 (Or.inl (Nat.ne_of_lt (Nat.lt_of_lt_of_le A4.lt (Nat.le_of_eq g5.symm)))))
  have f4 := (((F_value_b4.ext E5).other W6 (Or.inl (Nat.ne_of_lt (Nat.lt_of_lt_of_le A4.lt (Nat.le_of_eq g5.symm))))).other W7 (Or.inl (Nat.ne_of_lt (Nat.lt_of_lt_of_le A4.lt (Nat.le_of_eq g5.symm)))))
  have f5 := (((A4.ext E5).wr W6).wr W7)
  obtain ⟨_, _, ⟨T8, L8, k8, n8⟩, -, X8, ⟨Lc8, hQ8, l8, y8, z8⟩, st8⟩ := X7.specialBack hx (y := (⟨"java/lang/String", "<init>", "([C)V"⟩ : MethodName)) rfl hown (mvT hZ (hi 4 rfl)) (mvT hZ (hi 5 rfl)) (mvT hZ (hi 6 rfl)) (by decide) (backOf (W := 1) (rm1 l Z a0 hw [] b4 b5 s_COMPACT_STRINGS (0 : Int32) .null k5 (nar .char (t0_3 p2)) (nar .char (t0_5 p2)) h7 n0 (Nat.le_trans (Nat.le_trans (Nat.le_trans (Nat.le_trans Z0 E4.1) E5.1) (Keep.of_wr W6).1) (Keep.of_wr W7).1) f2 f3 f4 f5 g_b4 V7 hcs (own_le255 _ (own_cc _ (own_cc _ (own_m255 _)))) (own_le255 _ (own_cc _ (own_cc _ (own_m255 _))))) hZ (hi 6 rfl) (hi 2 rfl) (by decide) (by decide)) (g := (mkF m 76 #[vI p1, vI p2, vI p3, vI (t0_0 p1), vI (1 : Int32), vI (t0_2 p1), vI (1 : Int32), vU, vU, vU, vU, vU, vU, vU, vU, vU] [(.ref b5), (.ref b4), (.ref b4)])) rfl (by rw [hml]; rfl) (Steps.refl _) (a := b4) (argsL := [(.ref b5)]) (rest := [(.ref b4)]) (lenOf pd__28_5bC_29V rfl) rfl (by show 2 * 0 + _ ≤ _; exact Nat.le_of_eq rfl) (hb hby at_76) (fun _ _ => ⟨rfl, e7, (by decide : 2 + 1 ≤ _), (by decide : 6 + 2 ≤ _)⟩)
  dsimp only [Pt.U, Pt.locs, Pt.cells, Pt.slots] at X8 l8 y8 z8 st8 hQ8
  subst l8 y8 z8
  obtain ⟨rfl, N8q, K8, i8_0, i8_1⟩ := hQ8
  have N8 := Fr.app N7 N8q
  have f6 := (own_sta_keep f2 K8 (own_qc (own_nst f5) own_q0))
  obtain ⟨_, _, ⟨T9, L9, k9, n9⟩, -, X9, ⟨Lc9, hQ9, l9, y9, z9⟩, st9⟩ := Jvm.LawKit.callS X8 hx (y := (⟨"java/lang/String", "valueOf", "(C)Ljava/lang/String;"⟩ : MethodName)) hown (mvT hZ (hi 30 rfl)) (mvT hZ (hi 31 rfl)) (mvT hZ (hi 2 rfl)) (mvT hZ (hi 32 rfl)) (by decide) (backOf (W := 0) (rm7 l Z a0 hw [] (t0_7 p2) s_COMPACT_STRINGS T8.heap n0 (Nat.le_trans (Nat.le_trans (Nat.le_trans (Nat.le_trans (Nat.le_trans Z0 E4.1) E5.1) (Keep.of_wr W6).1) (Keep.of_wr W7).1) K8.1) f6 hcs (own_F8 _ (own_cc _ (own_m255 _)))) hZ (hi 32 rfl) (hi 2 rfl) (by decide) (by decide)) (g := (mkF m 90 #[vI p1, vI p2, vI p3, vI (t0_0 p1), vI (1 : Int32), vI (t0_2 p1), vI (1 : Int32), vA b4, vU, vU, vU, vU, vU, vU, vU, vU] [(.int (t0_7 p2))])) rfl (by rw [hml]; rfl) (argsL := [(.int (t0_7 p2))]) (rest := []) (lenOf pd__28C_29Ljava_2flang_2fString_3b rfl) rfl (by show 2 * 0 + _ ≤ _; exact Nat.le_of_eq rfl) (hb hby at_90) (fun _ _ => ⟨rfl, rfl, (by decide : 3 + 2 ≤ _), (by decide : 8 + 5 ≤ _)⟩)
  dsimp only [Pt.U, Pt.locs, Pt.cells, Pt.slots] at X9 l9 y9 z9 st9 hQ9
  subst l9 y9 z9
  obtain ⟨br_9, ⟨rfl, N9q, K9⟩⟩ := hQ9
  have N9 := Fr.app N8 N9q
  have f7 := (V7.keep K8 (own_nm (Ne.symm (Nat.ne_of_lt (Nat.lt_of_lt_of_le A4.lt (Nat.le_of_eq g5.symm)))) own_n0))
  have f8 := (own_sta_keep f6 K9 own_q0)
  obtain ⟨_, _, ⟨T10, L10, k10, n10⟩, -, X10w, hS10w, hg10, ⟨Lc10, hQ10, l10, y10, z10⟩, st10⟩ := Jvm.RoadKit.callSS X9 hx (y := (⟨"underdeck/deck/ColumnRequiredPinLaw", "drawn", "(I)Ljava/lang/String;"⟩ : MethodName)) hown (mvT hZ (hi 44 rfl)) (mvT hZ (hi 45 rfl)) (mvT hZ (hi 46 rfl)) (mvT hZ (hi 47 rfl)) (by decide) (backOfS (W := 0) (rm11 l Z a0 hw [] p3 s_COMPACT_STRINGS T9.heap n0 (Nat.le_trans (Nat.le_trans (Nat.le_trans (Nat.le_trans (Nat.le_trans (Nat.le_trans Z0 E4.1) E5.1) (Keep.of_wr W6).1) (Keep.of_wr W7).1) K8.1) K9.1) f8 hcs) hZ (hi 47 rfl) (hi 46 rfl) (by decide) (by decide)) (g := (mkF m 96 #[vI p1, vI p2, vI p3, vI (t0_0 p1), vI (1 : Int32), vI (t0_2 p1), vI (1 : Int32), vA b4, vA br_9, vU, vU, vU, vU, vU, vU, vU] [(.int p3)])) rfl (by rw [hml]; rfl) (argsL := [(.int p3)]) (rest := []) (lenOf pd__28I_29Ljava_2flang_2fString_3b rfl) rfl (by show 2 * 0 + _ ≤ _; exact Nat.le_of_eq rfl) (hb hby at_96) (fun _ _ => ⟨rfl, rfl, (by decide : 5 + 2 ≤ _), (by decide : 13 + 5 ≤ _)⟩)
  dsimp only [Pt.U, Pt.locs, Pt.cells, Pt.slots] at X10w hS10w hg10 l10 y10 z10 st10 hQ10
  subst l10 y10 z10
  obtain ⟨X10, hS10, hZ10, hown10⟩ := rebS hS0 (show _ ≤ T9.heap.size from by exact (Nat.le_trans (Nat.le_trans (Nat.le_trans (Nat.le_trans (Nat.le_trans (Nat.le_trans (Nat.le_refl h0.size) E4.1) E5.1) (Keep.of_wr W6).1) (Keep.of_wr W7).1) K8.1) K9.1)) X10w hS10w hg10 hZ hown
  obtain ⟨br_10, ⟨rfl, N10q, K10⟩⟩ := hQ10
  have N10 := Fr.app N9 N10q
  have f9 := (i8_0.keep K9)
  have f10 := (f7.keep K9 own_n0)
  have f11 := (own_sta_keep f8 K10 own_q0)
  obtain ⟨_, _, ⟨T11, L11, k11, n11⟩, -, X11w, hS11w, hg11, ⟨Lc11, hQ11, l11, y11, z11⟩, st11⟩ := Jvm.RoadKit.callSS X10 hx (y := (⟨"underdeck/deck/ColumnRequiredPinLaw", "drawn", "(I)Ljava/lang/String;"⟩ : MethodName)) hown10 (mvT hZ10 (hi 44 rfl)) (mvT hZ10 (hi 45 rfl)) (mvT hZ10 (hi 46 rfl)) (mvT hZ10 (hi 47 rfl)) (by decide) (backOfS (W := 0) (rm11 l Z a0 hw [] (t0_8 p3) s_COMPACT_STRINGS T10.heap n0 (Nat.le_trans (Nat.le_trans (Nat.le_trans (Nat.le_trans (Nat.le_trans (Nat.le_trans (Nat.le_trans Z0 E4.1) E5.1) (Keep.of_wr W6).1) (Keep.of_wr W7).1) K8.1) K9.1) K10.1) f11 hcs) hZ10 (hi 47 rfl) (hi 46 rfl) (by decide) (by decide)) (g := (mkF m 105 #[vI p1, vI p2, vI p3, vI (t0_0 p1), vI (1 : Int32), vI (t0_2 p1), vI (1 : Int32), vA b4, vA br_9, vA br_10, vU, vU, vU, vU, vU, vU] [(.int (t0_8 p3))])) rfl (by rw [hml]; rfl) (argsL := [(.int (t0_8 p3))]) (rest := []) (lenOf pd__28I_29Ljava_2flang_2fString_3b rfl) rfl (by show 2 * 0 + _ ≤ _; exact Nat.le_of_eq rfl) (hb hby at_105) (fun _ _ => ⟨rfl, rfl, (by decide : 7 + 2 ≤ _), (by decide : 18 + 5 ≤ _)⟩)
  dsimp only [Pt.U, Pt.locs, Pt.cells, Pt.slots] at X11w hS11w hg11 l11 y11 z11 st11 hQ11
  subst l11 y11 z11
  obtain ⟨X11, hS11, hZ11, hown11⟩ := rebS hS10 (show _ ≤ T10.heap.size from by exact (Nat.le_refl _)) X11w hS11w hg11 hZ10 hown10
  obtain ⟨br_11, ⟨rfl, N11q, K11⟩⟩ := hQ11
  have N11 := Fr.app N10 N11q
  have f12 := (f9.keep K10)
  have f13 := (f10.keep K10 own_n0)
  obtain ⟨_, _, ⟨T12, L12, k12, n12⟩, -, X12, ⟨Lc12, hQ12, l12, y12, z12⟩, st12⟩ := Jvm.LawKit.callS X11 hx (y := (⟨"java/util/Optional", "of", "(Ljava/lang/Object;)Ljava/util/Optional;"⟩ : MethodName)) hown11 (mvT hZ11 (hi 104 rfl)) (mvT hZ11 (hi 105 rfl)) (mvT hZ11 (hi 53 rfl)) (mvT hZ11 (hi 106 rfl)) (by decide) (backOf (W := 0) (rm18 l Z a0 hw [] br_10 T11.heap n0 (Nat.le_trans (Nat.le_trans (Nat.le_trans (Nat.le_trans (Nat.le_trans (Nat.le_trans (Nat.le_trans (Nat.le_trans Z0 E4.1) E5.1) (Keep.of_wr W6).1) (Keep.of_wr W7).1) K8.1) K9.1) K10.1) K11.1) ) hZ11 (hi 106 rfl) (hi 53 rfl) (by decide) (by decide)) (g := (mkF m 117 #[vI p1, vI p2, vI p3, vI (t0_0 p1), vI (1 : Int32), vI (t0_2 p1), vI (1 : Int32), vA b4, vA br_9, vA br_10, vA br_11, vU, vU, vU, vU, vU] [(.ref br_10)])) rfl (by rw [hml]; rfl) (argsL := [(.ref br_10)]) (rest := []) (lenOf pd__28Ljava_2flang_2fObject_3b_29Ljava_2futil_2fOptional_3b rfl) rfl (by show 2 * 0 + _ ≤ _; exact Nat.le_of_eq rfl) (hb hby at_117) (fun _ _ => ⟨rfl, rfl, (by decide : 9 + 1 ≤ _), (by decide : 23 + 1 ≤ _)⟩)
  dsimp only [Pt.U, Pt.locs, Pt.cells, Pt.slots] at X12 l12 y12 z12 st12 hQ12
  subst l12 y12 z12
  obtain ⟨b2_12, ⟨rfl, N12q, K12, i12_0, i12_1, i12_2⟩⟩ := hQ12
  have N12 := Fr.app N11 N12q
  have f14 := (f12.keep K11)
  have f15 := (f13.keep K11 own_n0)
  have sz_b2_12 : h0.size ≤ b2_12 := Nat.le_trans (Nat.le_trans (Nat.le_trans (Nat.le_trans (Nat.le_trans (Nat.le_trans (Nat.le_trans (Nat.le_trans (Nat.le_trans (Nat.le_refl h0.size) E4.1) E5.1) (Keep.of_wr W6).1) (Keep.of_wr W7).1) K8.1) K9.1) K10.1) K11.1) i12_0
  have g_b2_12 : n0 ≤ b2_12 := Nat.le_trans Z0 sz_b2_12
  have f16 := (own_sta_keep (own_sta_keep (own_sta_keep (own_sta_keep (own_sta_keep ((((S_BY_DEFAULT.ext E4).ext E5).wr W6).wr W7) K8 (own_qc (own_nst f5) own_q0)) K9 own_q0) K10 own_q0) K11 own_q0) K12 own_q0)
  obtain ⟨T13, X13, e13, st13⟩ := getS2 X12 hx hZ11 hown11 (host := "") (Or.inl (hi 117 rfl)) Via.refl rfl f16 (g := (mkF m 158 #[vI p1, vI p2, vI p3, vI (t0_0 p1), vI (1 : Int32), vI (t0_2 p1), vI (1 : Int32), vA b4, vA br_9, vA br_10, vA br_11, vA b2_12, vU, vU, vU, vU] [])) rfl (hb hby at_158)
  obtain ⟨_, _, ⟨T14, L14, k14, n14⟩, -, X14, ⟨Lc14, hQ14, l14, y14, z14⟩, st14⟩ := Jvm.LawKit.callS X13 hx (y := (⟨"java/util/Optional", "of", "(Ljava/lang/Object;)Ljava/util/Optional;"⟩ : MethodName)) hown11 (mvT hZ11 (hi 104 rfl)) (mvT hZ11 (hi 105 rfl)) (mvT hZ11 (hi 53 rfl)) (mvT hZ11 (hi 106 rfl)) (by decide) (backOf (W := 0) (rm18 l Z a0 hw [] s_BY_DEFAULT T12.heap n0 (Nat.le_trans (Nat.le_trans (Nat.le_trans (Nat.le_trans (Nat.le_trans (Nat.le_trans (Nat.le_trans (Nat.le_trans (Nat.le_trans Z0 E4.1) E5.1) (Keep.of_wr W6).1) (Keep.of_wr W7).1) K8.1) K9.1) K10.1) K11.1) K12.1) ) hZ11 (hi 106 rfl) (hi 53 rfl) (by decide) (by decide)) (g := (mkF m 161 #[vI p1, vI p2, vI p3, vI (t0_0 p1), vI (1 : Int32), vI (t0_2 p1), vI (1 : Int32), vA b4, vA br_9, vA br_10, vA br_11, vA b2_12, vU, vU, vU, vU] [(.ref s_BY_DEFAULT)])) rfl (by rw [hml]; rfl) (argsL := [(.ref s_BY_DEFAULT)]) (rest := []) (lenOf pd__28Ljava_2flang_2fObject_3b_29Ljava_2futil_2fOptional_3b rfl) rfl (by show 2 * 0 + _ ≤ _; exact Nat.le_of_eq rfl) (hb hby at_161) (fun _ _ => ⟨rfl, e13, (by decide : 10 + 1 ≤ _), (by decide : 24 + 1 ≤ _)⟩)
  dsimp only [Pt.U, Pt.locs, Pt.cells, Pt.slots] at X14 l14 y14 z14 st14 hQ14
  subst l14 y14 z14
  obtain ⟨b2_14, ⟨rfl, N14q, K14, i14_0, i14_1, i14_2⟩⟩ := hQ14
  have N14 := Fr.app N12 N14q
  have f17 := (f14.keep K12)
  have f18 := (f15.keep K12 own_n0)
  have sz_b2_14 : h0.size ≤ b2_14 := Nat.le_trans (Nat.le_trans (Nat.le_trans (Nat.le_trans (Nat.le_trans (Nat.le_trans (Nat.le_trans (Nat.le_trans (Nat.le_trans (Nat.le_trans (Nat.le_refl h0.size) E4.1) E5.1) (Keep.of_wr W6).1) (Keep.of_wr W7).1) K8.1) K9.1) K10.1) K11.1) K12.1) i14_0
  have g_b2_14 : n0 ≤ b2_14 := Nat.le_trans Z0 sz_b2_14
  obtain ⟨_, _, ⟨T15, L15, k15, n15⟩, -, X15, ⟨Lc15, hQ15, l15, y15, z15⟩, st15⟩ := Jvm.LawKit.callS X14 hx (y := (⟨"java/util/Optional", "of", "(Ljava/lang/Object;)Ljava/util/Optional;"⟩ : MethodName)) hown11 (mvT hZ11 (hi 104 rfl)) (mvT hZ11 (hi 105 rfl)) (mvT hZ11 (hi 53 rfl)) (mvT hZ11 (hi 106 rfl)) (by decide) (backOf (W := 0) (rm18 l Z a0 hw [] br_11 T14.heap n0 (Nat.le_trans (Nat.le_trans (Nat.le_trans (Nat.le_trans (Nat.le_trans (Nat.le_trans (Nat.le_trans (Nat.le_trans (Nat.le_trans (Nat.le_trans Z0 E4.1) E5.1) (Keep.of_wr W6).1) (Keep.of_wr W7).1) K8.1) K9.1) K10.1) K11.1) K12.1) K14.1) ) hZ11 (hi 106 rfl) (hi 53 rfl) (by decide) (by decide)) (g := (mkF m 173 #[vI p1, vI p2, vI p3, vI (t0_0 p1), vI (1 : Int32), vI (t0_2 p1), vI (1 : Int32), vA b4, vA br_9, vA br_10, vA br_11, vA b2_12, vA b2_14, vU, vU, vU] [(.ref br_11)])) rfl (by rw [hml]; rfl) (argsL := [(.ref br_11)]) (rest := []) (lenOf pd__28Ljava_2flang_2fObject_3b_29Ljava_2futil_2fOptional_3b rfl) rfl (by show 2 * 0 + _ ≤ _; exact Nat.le_of_eq rfl) (hb hby at_173) (fun _ _ => ⟨rfl, rfl, (by decide : 11 + 1 ≤ _), (by decide : 25 + 1 ≤ _)⟩)
  dsimp only [Pt.U, Pt.locs, Pt.cells, Pt.slots] at X15 l15 y15 z15 st15 hQ15
  subst l15 y15 z15
  obtain ⟨b2_15, ⟨rfl, N15q, K15, i15_0, i15_1, i15_2⟩⟩ := hQ15
  have N15 := Fr.app N14 N15q
  have f19 := (f17.keep K14)
  have f20 := (f18.keep K14 own_n0)
  have f21 := (i12_1.keep K14)
  have sz_b2_15 : h0.size ≤ b2_15 := Nat.le_trans (Nat.le_trans (Nat.le_trans (Nat.le_trans (Nat.le_trans (Nat.le_trans (Nat.le_trans (Nat.le_trans (Nat.le_trans (Nat.le_trans (Nat.le_trans (Nat.le_refl h0.size) E4.1) E5.1) (Keep.of_wr W6).1) (Keep.of_wr W7).1) K8.1) K9.1) K10.1) K11.1) K12.1) K14.1) i15_0
  have g_b2_15 : n0 ≤ b2_15 := Nat.le_trans Z0 sz_b2_15
  have f22 := (f19.keep K15)
  have f23 := (f20.keep K15 own_n0)
  have f24 := (f21.keep K15)
  have f25 := (i14_1.keep K15)
  obtain ⟨T16, h16, X16, e16, E16, A16, D16, -, st16⟩ := newO X15 hx hZ11 hown11 (hi 56 rfl) (hi 57 rfl) (hi 58 rfl) rfl (g := (mkF m 184 #[vI p1, vI p2, vI p3, vI (t0_0 p1), vI (1 : Int32), vI (t0_2 p1), vI (1 : Int32), vA b4, vA br_9, vA br_10, vA br_11, vA b2_12, vA b2_14, vA b2_15, vU, vU] [])) rfl (hb hby at_184) (by decide) (by decide)
  obtain ⟨b16, g16⟩ : ∃ z, z = T15.heap.size := ⟨_, rfl⟩
  rw [← g16] at A16 D16 st16
  have g_b16 : n0 ≤ b16 := Nat.le_trans (Nat.le_trans (Nat.le_trans (Nat.le_trans (Nat.le_trans (Nat.le_trans (Nat.le_trans (Nat.le_trans (Nat.le_trans (Nat.le_trans (Nat.le_trans (Nat.le_trans Z0 E4.1) E5.1) (Keep.of_wr W6).1) (Keep.of_wr W7).1) K8.1) K9.1) K10.1) K11.1) K12.1) K14.1) K15.1) (Nat.le_of_eq g16.symm)
  have sz_b16 : h0.size ≤ b16 := Nat.le_trans (Nat.le_trans (Nat.le_trans (Nat.le_trans (Nat.le_trans (Nat.le_trans (Nat.le_trans (Nat.le_trans (Nat.le_trans (Nat.le_trans (Nat.le_trans (Nat.le_trans (Nat.le_refl h0.size) E4.1) E5.1) (Keep.of_wr W6).1) (Keep.of_wr W7).1) K8.1) K9.1) K10.1) K11.1) K12.1) K14.1) K15.1) (Nat.le_of_eq g16.symm)
  have F_name_b16 : Fld Z h16 b16 "underdeck/deck/Column" "name" "Ljava/lang/String;" .null := D16 (Or.inr (hi 78 rfl)) (ty := (.object "java/lang/String")) (by decide)
  have F_type_b16 : Fld Z h16 b16 "underdeck/deck/Column" "type" "Ljava/lang/String;" .null := D16 (Or.inr (hi 80 rfl)) (ty := (.object "java/lang/String")) (by decide)
  have F_nullable_b16 : Fld Z h16 b16 "underdeck/deck/Column" "nullable" "Z" (.int (0 : Int32)) := D16 (Or.inr (hi 82 rfl)) (ty := .boolean) (by decide)
  have F_defaultValue_b16 : Fld Z h16 b16 "underdeck/deck/Column" "defaultValue" "Ljava/util/Optional;" .null := D16 (Or.inr (hi 84 rfl)) (ty := (.object "java/util/Optional")) (by decide)
  have F_identity_b16 : Fld Z h16 b16 "underdeck/deck/Column" "identity" "Ljava/util/Optional;" .null := D16 (Or.inr (hi 86 rfl)) (ty := (.object "java/util/Optional")) (by decide)
  have F_generated_b16 : Fld Z h16 b16 "underdeck/deck/Column" "generated" "Ljava/util/Optional;" .null := D16 (Or.inr (hi 88 rfl)) (ty := (.object "java/util/Optional")) (by decide)
  obtain ⟨_, _, ⟨T17, L17, k17, n17⟩, -, X17w, hS17w, hg17, ⟨Lc17, hQ17, l17, y17, z17⟩, st17⟩ := X16.specialBackS hx (y := (⟨"underdeck/deck/Column", "<init>", "(Ljava/lang/String;Ljava/lang/String;ZLjava/util/Optional;Ljava/util/Optional;Ljava/util/Optional;)V"⟩ : MethodName)) rfl hown11 (mvT hZ11 (hi 59 rfl)) (mvT hZ11 (hi 60 rfl)) (mvT hZ11 (hi 61 rfl)) (by decide) (backOfS (W := 1) (rm13 l Z a0 hw [] b16 b4 br_9 (t0_0 p1) b2_12 b2_14 b2_15 .null .null (0 : Int32) .null .null .null h16 n0 (Nat.le_trans (Nat.le_trans (Nat.le_trans (Nat.le_trans (Nat.le_trans (Nat.le_trans (Nat.le_trans (Nat.le_trans (Nat.le_trans (Nat.le_trans (Nat.le_trans (Nat.le_trans Z0 E4.1) E5.1) (Keep.of_wr W6).1) (Keep.of_wr W7).1) K8.1) K9.1) K10.1) K11.1) K12.1) K14.1) K15.1) E16.1) A16 F_name_b16 g_b16 F_type_b16 F_nullable_b16 F_defaultValue_b16 F_identity_b16 F_generated_b16) hZ11 (hi 61 rfl) (hi 58 rfl) (by decide) (by decide)) (g := (mkF m 199 #[vI p1, vI p2, vI p3, vI (t0_0 p1), vI (1 : Int32), vI (t0_2 p1), vI (1 : Int32), vA b4, vA br_9, vA br_10, vA br_11, vA b2_12, vA b2_14, vA b2_15, vU, vU] [(.ref b2_15), (.ref b2_14), (.ref b2_12), (.int (t0_0 p1)), (.ref br_9), (.ref b4), (.ref b16), (.ref b16)])) rfl (by rw [hml]; rfl) (Steps.refl _) (a := b16) (argsL := [(.ref b4), (.ref br_9), (.int (t0_0 p1)), (.ref b2_12), (.ref b2_14), (.ref b2_15)]) (rest := [(.ref b16)]) (lenOf pd__28Ljava_2flang_2fString_3bLjava_2flang_2fString_3bZLjava_2futil_2fOptional_3bLjava_2futil_2fOptional_3bLjava_2futil_2fOptional_3b_29V rfl) rfl (by show 2 * 0 + _ ≤ _; exact Nat.le_of_eq rfl) (hb hby at_199) (fun _ _ => ⟨rfl, e16, (by decide : 13 + 10 ≤ _), (by decide : 32 + 168 ≤ _)⟩)
  dsimp only [Pt.U, Pt.locs, Pt.cells, Pt.slots] at X17w hS17w hg17 l17 y17 z17 st17 hQ17
  subst l17 y17 z17
  obtain ⟨X17, hS17, hZ17, hown17⟩ := rebS hS11 (show _ ≤ T16.heap.size from by rw [e16]; exact (Nat.le_trans (Nat.le_trans (Nat.le_trans (Nat.le_trans (Nat.le_refl _) K12.1) K14.1) K15.1) E16.1)) X17w hS17w hg17 hZ11 hown11
  obtain ⟨rfl, N17q, K17, i17_0, i17_1, i17_2, i17_3, i17_4, i17_5, i17_6⟩ := hQ17
  have N17 := Fr.app N15 N17q
  have f26 := ((((i12_2.keep K14 own_n0).keep K15 own_n0).ext E16).keep K17 (own_nm (Nat.ne_of_lt (Nat.lt_of_lt_of_le f24.lt (Nat.le_of_eq g16.symm))) own_n0))
  have f27 := ((f24.ext E16).keep K17)
  obtain ⟨cq18, kq18, q18a, q18b, q18c⟩ := isOf hZ17 rfl i17_0
  obtain ⟨_, _, ⟨T18, L18, k18, n18⟩, -, X18, ⟨Lc18, hQ18, l18, y18, z18⟩, st18⟩ := X17.virtualBack hx (y := (⟨"underdeck/deck/Column", "required", "()Z"⟩ : MethodName)) (z := (⟨"underdeck/deck/Column", "required", "()Z"⟩ : MethodName)) hown17 (mvT hZ17 (hi 89 rfl)) (mvT hZ17 (hi 90 rfl)) (notFace_of_selects (args := #[]) (mvT hZ17 (hi 92 rfl))) (mvT hZ17 (hi 92 rfl)) (mvT hZ17 (hi 91 rfl)) (by decide) (backOf (W := 0) (rm16v l Z a0 hw [] b16 (nar .boolean (t0_0 p1)) b2_12 br_10 T17.heap n0 (Nat.le_trans (Nat.le_trans (Nat.le_trans (Nat.le_trans (Nat.le_trans (Nat.le_trans (Nat.le_trans (Nat.le_trans (Nat.le_trans (Nat.le_trans (Nat.le_trans (Nat.le_trans (Nat.le_trans Z0 E4.1) E5.1) (Keep.of_wr W6).1) (Keep.of_wr W7).1) K8.1) K9.1) K10.1) K11.1) K12.1) K14.1) K15.1) E16.1) K17.1) i17_3 i17_4 f26 f27) hZ17 (hi 93 rfl) (hi 58 rfl) (by decide) (by decide)) q18a q18c (g := (mkF m 240 #[vI p1, vI p2, vI p3, vI (t0_0 p1), vI (1 : Int32), vI (t0_2 p1), vI (1 : Int32), vA b4, vA br_9, vA br_10, vA br_11, vA b2_12, vA b2_14, vA b2_15, vA b16, vI (0 : Int32)] [(.ref b16)])) rfl (by rw [hml]; rfl) (Steps.refl _) (argsL := []) (rest := []) (lenOf pd__28_29Z rfl) rfl (by show 2 * 0 + _ ≤ _; exact Nat.le_of_eq rfl) (hb hby at_240) (fun _ _ => ⟨rfl, rfl, (by decide : 23 + 0 ≤ _), (by decide : 200 + 0 ≤ _)⟩)
  dsimp only [Pt.U, Pt.locs, Pt.cells, Pt.slots] at X18 l18 y18 z18 st18 hQ18
  subst l18 y18 z18
  obtain ⟨rfl, N18q, e18⟩ := hQ18
  have N18 := Fr.app N17 N18q
  obtain ⟨fs, hr, hrun, hended, hw1, hw2, hw3, hw4⟩ := X18.leaveW hS17 (show _ ≤ T18.heap.size from by rw [e18]; exact (Nat.le_refl _)) (v := some (.int (1 : Int32))) (fun h => by rw [Bd.returns] at h; cases h)
  refine ⟨_, _, pre0 _ ?_, hrun, hended, _, _, rfl, ?_, hw1, hw2, hw3, hw4.mono (by decide) (by decide)⟩
  · show Steps p.tables e below (s₁.setTop (mkF m 0 #[vI p1, vI p2, vI p3, vU, vU, vU, vU, vU, vU, vU, vU, vU, vU, vU, vU, vU] [])) _
    refine XS.iloadN X0.here hx rfl (hb hby at_0) rfl ?_
    refine XS.iconst X0.here hx rfl (hb hby at_1) ?_
    refine XS.iand X0.here hx rfl (hb hby at_2) rfl ?_
    show Steps p.tables e below (s₁.setTop (mkF m 3 #[vI p1, vI p2, vI p3, vU, vU, vU, vU, vU, vU, vU, vU, vU, vU, vU, vU, vU] [(.int (p1 &&& (1 : Int32)))])) _
    have J3 : ∀ target, Steps p.tables e below (s₁.setTop (mkF m 11 #[vI p1, vI p2, vI p3, vU, vU, vU, vU, vU, vU, vU, vU, vU, vU, vU, vU, vU] [(.int (t0_0 p1))])) target → Steps p.tables e below (s₁.setTop (mkF m 3 #[vI p1, vI p2, vI p3, vU, vU, vU, vU, vU, vU, vU, vU, vU, vU, vU, vU, vU] [(.int (p1 &&& (1 : Int32)))])) target := by
      intro target kt
      by_cases hm3 : (p1 &&& (1 : Int32)) = (0 : Int32)
      · skip
        show Steps p.tables e below (s₁.setTop (mkF m 3 #[vI p1, vI p2, vI p3, vU, vU, vU, vU, vU, vU, vU, vU, vU, vU, vU, vU, vU] [(.int (p1 &&& (1 : Int32)))])) _
        refine XS.ifYes X0.here hx rfl (pc0 := 3) (pc' := 10) rfl (hb hby at_3) rfl ((if0 _ _).trans (teq hm3).1) (by decide) (by decide) ?_
        refine XS.iconst X0.here hx rfl (hb hby at_10) ?_
        rw [show (t0_0 p1) = (0 : Int32) from if_pos hm3] at kt
        exact kt
      · skip
        show Steps p.tables e below (s₁.setTop (mkF m 3 #[vI p1, vI p2, vI p3, vU, vU, vU, vU, vU, vU, vU, vU, vU, vU, vU, vU, vU] [(.int (p1 &&& (1 : Int32)))])) _
        refine XS.ifNo X0.here hx rfl (hb hby at_3) rfl ((if0 _ _).trans (feq hm3).1) ?_
        refine XS.iconst X0.here hx rfl (hb hby at_6) ?_
        show Steps p.tables e below (s₁.setTop (mkF m 7 #[vI p1, vI p2, vI p3, vU, vU, vU, vU, vU, vU, vU, vU, vU, vU, vU, vU, vU] [(.int (1 : Int32))])) _
        refine XS.goto X0.here hx rfl (pc0 := 7) (pc' := 11) rfl (hb hby at_7) (by decide) (by decide) ?_
        rw [show (t0_0 p1) = (1 : Int32) from if_neg hm3] at kt
        exact kt
    refine J3 _ ?_
    refine XS.istoreN X0.here hx rfl (hb hby at_11) rfl (l' := #[vI p1, vI p2, vI p3, vI (t0_0 p1), vU, vU, vU, vU, vU, vU, vU, vU, vU, vU, vU, vU]) rfl ?_
    refine XS.iloadN X0.here hx rfl (hb hby at_12) rfl ?_
    refine XS.iconst X0.here hx rfl (hb hby at_13) ?_
    refine XS.iand X0.here hx rfl (hb hby at_14) rfl ?_
    show Steps p.tables e below (s₁.setTop (mkF m 15 #[vI p1, vI p2, vI p3, vI (t0_0 p1), vU, vU, vU, vU, vU, vU, vU, vU, vU, vU, vU, vU] [(.int (p1 &&& (2 : Int32)))])) _
    refine XS.ifNo X0.here hx rfl (hb hby at_15) rfl ((if0 _ _).trans (feq hc15).1) ?_
    refine XS.iconst X0.here hx rfl (hb hby at_18) ?_
    show Steps p.tables e below (s₁.setTop (mkF m 19 #[vI p1, vI p2, vI p3, vI (t0_0 p1), vU, vU, vU, vU, vU, vU, vU, vU, vU, vU, vU, vU] [(.int (1 : Int32))])) _
    refine XS.goto X0.here hx rfl (pc0 := 19) (pc' := 23) rfl (hb hby at_19) (by decide) (by decide) ?_
    refine XS.istore X0.here hx rfl (hb hby at_23) rfl (l' := #[vI p1, vI p2, vI p3, vI (t0_0 p1), vI (1 : Int32), vU, vU, vU, vU, vU, vU, vU, vU, vU, vU, vU]) rfl ?_
    refine XS.iloadN X0.here hx rfl (hb hby at_25) rfl ?_
    refine XS.iconst X0.here hx rfl (hb hby at_26) ?_
    refine XS.iushr X0.here hx rfl (hb hby at_27) rfl ?_
    refine XS.iconst X0.here hx rfl (hb hby at_28) ?_
    refine XS.iand X0.here hx rfl (hb hby at_29) rfl ?_
    refine XS.iconst X0.here hx rfl (hb hby at_30) ?_
    refine XS.irem X0.here hx rfl (hb hby at_31) rfl (by decide) ?_
    refine XS.istore X0.here hx rfl (hb hby at_32) rfl (l' := #[vI p1, vI p2, vI p3, vI (t0_0 p1), vI (1 : Int32), vI (t0_2 p1), vU, vU, vU, vU, vU, vU, vU, vU, vU, vU]) rfl ?_
    refine XS.iloadN X0.here hx rfl (hb hby at_34) rfl ?_
    refine XS.bipush X0.here hx rfl (hb hby at_35) ?_
    refine XS.iand X0.here hx rfl (hb hby at_37) rfl ?_
    show Steps p.tables e below (s₁.setTop (mkF m 38 #[vI p1, vI p2, vI p3, vI (t0_0 p1), vI (1 : Int32), vI (t0_2 p1), vU, vU, vU, vU, vU, vU, vU, vU, vU, vU] [(.int (p1 &&& (16 : Int32)))])) _
    refine XS.ifNo X0.here hx rfl (hb hby at_38) rfl ((if0 _ _).trans (feq hc38).1) ?_
    refine XS.iconst X0.here hx rfl (hb hby at_41) ?_
    show Steps p.tables e below (s₁.setTop (mkF m 42 #[vI p1, vI p2, vI p3, vI (t0_0 p1), vI (1 : Int32), vI (t0_2 p1), vU, vU, vU, vU, vU, vU, vU, vU, vU, vU] [(.int (1 : Int32))])) _
    refine XS.goto X0.here hx rfl (pc0 := 42) (pc' := 46) rfl (hb hby at_42) (by decide) (by decide) ?_
    refine XS.istore X0.here hx rfl (hb hby at_46) rfl (l' := #[vI p1, vI p2, vI p3, vI (t0_0 p1), vI (1 : Int32), vI (t0_2 p1), vI (1 : Int32), vU, vU, vU, vU, vU, vU, vU, vU, vU]) rfl ?_
    show Steps p.tables e below (s₁.setTop (mkF m 48 #[vI p1, vI p2, vI p3, vI (t0_0 p1), vI (1 : Int32), vI (t0_2 p1), vI (1 : Int32), vU, vU, vU, vU, vU, vU, vU, vU, vU] [])) _
    refine st4 _ ?_
    refine XS.dup X4.here hx rfl (hb hby at_51) rfl rfl ?_
    refine XS.iconst X4.here hx rfl (hb hby at_52) ?_
    show Steps p.tables e below (T4.setTop (mkF m 53 #[vI p1, vI p2, vI p3, vI (t0_0 p1), vI (1 : Int32), vI (t0_2 p1), vI (1 : Int32), vU, vU, vU, vU, vU, vU, vU, vU, vU] [(.int (2 : Int32)), (.ref b4), (.ref b4)])) _
    refine st5 _ ?_
    refine XS.dup X5.here hx rfl (hb hby at_55) rfl rfl ?_
    refine XS.iconst X5.here hx rfl (hb hby at_56) ?_
    refine XS.iloadN X5.here hx rfl (hb hby at_57) rfl ?_
    refine XS.sipush X5.here hx rfl (hb hby at_58) ?_
    refine XS.iand X5.here hx rfl (hb hby at_61) rfl ?_
    refine XS.i2c X5.here hx rfl (hb hby at_62) rfl ?_
    show Steps p.tables e below (T5.setTop (mkF m 63 #[vI p1, vI p2, vI p3, vI (t0_0 p1), vI (1 : Int32), vI (t0_2 p1), vI (1 : Int32), vU, vU, vU, vU, vU, vU, vU, vU, vU] [(.int (t0_3 p2)), (.int (0 : Int32)), (.ref b5), (.ref b5), (.ref b4), (.ref b4)])) _
    refine st6 _ ?_
    refine XS.dup X6.here hx rfl (hb hby at_64) rfl rfl ?_
    refine XS.iconst X6.here hx rfl (hb hby at_65) ?_
    refine XS.iloadN X6.here hx rfl (hb hby at_66) rfl ?_
    refine XS.bipush X6.here hx rfl (hb hby at_67) ?_
    refine XS.iushr X6.here hx rfl (hb hby at_69) rfl ?_
    refine XS.sipush X6.here hx rfl (hb hby at_70) ?_
    refine XS.iand X6.here hx rfl (hb hby at_73) rfl ?_
    refine XS.i2c X6.here hx rfl (hb hby at_74) rfl ?_
    show Steps p.tables e below (T6.setTop (mkF m 75 #[vI p1, vI p2, vI p3, vI (t0_0 p1), vI (1 : Int32), vI (t0_2 p1), vI (1 : Int32), vU, vU, vU, vU, vU, vU, vU, vU, vU] [(.int (t0_5 p2)), (.int (1 : Int32)), (.ref b5), (.ref b5), (.ref b4), (.ref b4)])) _
    refine st7 _ ?_
    show Steps p.tables e below (T7.setTop (mkF m 76 #[vI p1, vI p2, vI p3, vI (t0_0 p1), vI (1 : Int32), vI (t0_2 p1), vI (1 : Int32), vU, vU, vU, vU, vU, vU, vU, vU, vU] [(.ref b5), (.ref b4), (.ref b4)])) _
    refine st8.trans ?_
    refine XS.astore X8.here hx rfl (hb hby at_79) rfl rfl (l' := #[vI p1, vI p2, vI p3, vI (t0_0 p1), vI (1 : Int32), vI (t0_2 p1), vI (1 : Int32), vA b4, vU, vU, vU, vU, vU, vU, vU, vU]) rfl ?_
    refine XS.iloadN X8.here hx rfl (hb hby at_81) rfl ?_
    refine XS.bipush X8.here hx rfl (hb hby at_82) ?_
    refine XS.iushr X8.here hx rfl (hb hby at_84) rfl ?_
    refine XS.sipush X8.here hx rfl (hb hby at_85) ?_
    refine XS.iand X8.here hx rfl (hb hby at_88) rfl ?_
    refine XS.i2c X8.here hx rfl (hb hby at_89) rfl ?_
    show Steps p.tables e below (T8.setTop (mkF m 90 #[vI p1, vI p2, vI p3, vI (t0_0 p1), vI (1 : Int32), vI (t0_2 p1), vI (1 : Int32), vA b4, vU, vU, vU, vU, vU, vU, vU, vU] [(.int (t0_7 p2))])) _
    refine st9 _ ?_
    refine XS.astore X9.here hx rfl (hb hby at_93) rfl rfl (l' := #[vI p1, vI p2, vI p3, vI (t0_0 p1), vI (1 : Int32), vI (t0_2 p1), vI (1 : Int32), vA b4, vA br_9, vU, vU, vU, vU, vU, vU, vU]) rfl ?_
    refine XS.iloadN X9.here hx rfl (hb hby at_95) rfl ?_
    show Steps p.tables e below (T9.setTop (mkF m 96 #[vI p1, vI p2, vI p3, vI (t0_0 p1), vI (1 : Int32), vI (t0_2 p1), vI (1 : Int32), vA b4, vA br_9, vU, vU, vU, vU, vU, vU, vU] [(.int p3)])) _
    refine st10.trans ?_
    refine XS.astore X10.here hx rfl (hb hby at_99) rfl rfl (l' := #[vI p1, vI p2, vI p3, vI (t0_0 p1), vI (1 : Int32), vI (t0_2 p1), vI (1 : Int32), vA b4, vA br_9, vA br_10, vU, vU, vU, vU, vU, vU]) rfl ?_
    refine XS.iloadN X10.here hx rfl (hb hby at_101) rfl ?_
    refine XS.bipush X10.here hx rfl (hb hby at_102) ?_
    refine XS.iushr X10.here hx rfl (hb hby at_104) rfl ?_
    show Steps p.tables e below (T10.setTop (mkF m 105 #[vI p1, vI p2, vI p3, vI (t0_0 p1), vI (1 : Int32), vI (t0_2 p1), vI (1 : Int32), vA b4, vA br_9, vA br_10, vU, vU, vU, vU, vU, vU] [(.int (t0_8 p3))])) _
    refine st11.trans ?_
    refine XS.astore X11.here hx rfl (hb hby at_108) rfl rfl (l' := #[vI p1, vI p2, vI p3, vI (t0_0 p1), vI (1 : Int32), vI (t0_2 p1), vI (1 : Int32), vA b4, vA br_9, vA br_10, vA br_11, vU, vU, vU, vU, vU]) rfl ?_
    refine XS.iload X11.here hx rfl (hb hby at_110) rfl ?_
    show Steps p.tables e below (T11.setTop (mkF m 112 #[vI p1, vI p2, vI p3, vI (t0_0 p1), vI (1 : Int32), vI (t0_2 p1), vI (1 : Int32), vA b4, vA br_9, vA br_10, vA br_11, vU, vU, vU, vU, vU] [(.int (1 : Int32))])) _
    refine XS.ifNo X11.here hx rfl (hb hby at_112) rfl ((if0 _ _).trans (feq (by decide : ¬ ((1 : Int32) = (0 : Int32)))).1) ?_
    refine XS.aload X11.here hx rfl (hb hby at_115) rfl rfl ?_
    show Steps p.tables e below (T11.setTop (mkF m 117 #[vI p1, vI p2, vI p3, vI (t0_0 p1), vI (1 : Int32), vI (t0_2 p1), vI (1 : Int32), vA b4, vA br_9, vA br_10, vA br_11, vU, vU, vU, vU, vU] [(.ref br_10)])) _
    refine st12 _ ?_
    show Steps p.tables e below (T12.setTop (mkF m 120 #[vI p1, vI p2, vI p3, vI (t0_0 p1), vI (1 : Int32), vI (t0_2 p1), vI (1 : Int32), vA b4, vA br_9, vA br_10, vA br_11, vU, vU, vU, vU, vU] [(.ref b2_12)])) _
    refine XS.goto X12.here hx rfl (pc0 := 120) (pc' := 126) rfl (hb hby at_120) (by decide) (by decide) ?_
    refine XS.astore X12.here hx rfl (hb hby at_126) rfl rfl (l' := #[vI p1, vI p2, vI p3, vI (t0_0 p1), vI (1 : Int32), vI (t0_2 p1), vI (1 : Int32), vA b4, vA br_9, vA br_10, vA br_11, vA b2_12, vU, vU, vU, vU]) rfl ?_
    refine XS.iload X12.here hx rfl (hb hby at_128) rfl ?_
    show Steps p.tables e below (T12.setTop (mkF m 130 #[vI p1, vI p2, vI p3, vI (t0_0 p1), vI (1 : Int32), vI (t0_2 p1), vI (1 : Int32), vA b4, vA br_9, vA br_10, vA br_11, vA b2_12, vU, vU, vU, vU] [(.int (t0_2 p1))])) _
    refine XS.ifYes X12.here hx rfl (pc0 := 130) (pc' := 141) rfl (hb hby at_130) rfl ((if0 _ _).trans (feq hc130).2) (by decide) (by decide) ?_
    refine XS.iload X12.here hx rfl (hb hby at_141) rfl ?_
    refine XS.iconst X12.here hx rfl (hb hby at_143) ?_
    show Steps p.tables e below (T12.setTop (mkF m 144 #[vI p1, vI p2, vI p3, vI (t0_0 p1), vI (1 : Int32), vI (t0_2 p1), vI (1 : Int32), vA b4, vA br_9, vA br_10, vA br_11, vA b2_12, vU, vU, vU, vU] [(.int (1 : Int32)), (.int (t0_2 p1))])) _
    refine XS.icmpYes X12.here hx rfl (pc0 := 144) (pc' := 158) rfl (hb hby at_144) rfl (feq hc144).2 (by decide) (by decide) ?_
    show Steps p.tables e below (T12.setTop (mkF m 158 #[vI p1, vI p2, vI p3, vI (t0_0 p1), vI (1 : Int32), vI (t0_2 p1), vI (1 : Int32), vA b4, vA br_9, vA br_10, vA br_11, vA b2_12, vU, vU, vU, vU] [])) _
    refine st13 _ ?_
    show Steps p.tables e below (T13.setTop (mkF m 161 #[vI p1, vI p2, vI p3, vI (t0_0 p1), vI (1 : Int32), vI (t0_2 p1), vI (1 : Int32), vA b4, vA br_9, vA br_10, vA br_11, vA b2_12, vU, vU, vU, vU] [(.ref s_BY_DEFAULT)])) _
    refine st14 _ ?_
    refine XS.astore X14.here hx rfl (hb hby at_164) rfl rfl (l' := #[vI p1, vI p2, vI p3, vI (t0_0 p1), vI (1 : Int32), vI (t0_2 p1), vI (1 : Int32), vA b4, vA br_9, vA br_10, vA br_11, vA b2_12, vA b2_14, vU, vU, vU]) rfl ?_
    refine XS.iload X14.here hx rfl (hb hby at_166) rfl ?_
    show Steps p.tables e below (T14.setTop (mkF m 168 #[vI p1, vI p2, vI p3, vI (t0_0 p1), vI (1 : Int32), vI (t0_2 p1), vI (1 : Int32), vA b4, vA br_9, vA br_10, vA br_11, vA b2_12, vA b2_14, vU, vU, vU] [(.int (1 : Int32))])) _
    refine XS.ifNo X14.here hx rfl (hb hby at_168) rfl ((if0 _ _).trans (feq (by decide : ¬ ((1 : Int32) = (0 : Int32)))).1) ?_
    refine XS.aload X14.here hx rfl (hb hby at_171) rfl rfl ?_
    show Steps p.tables e below (T14.setTop (mkF m 173 #[vI p1, vI p2, vI p3, vI (t0_0 p1), vI (1 : Int32), vI (t0_2 p1), vI (1 : Int32), vA b4, vA br_9, vA br_10, vA br_11, vA b2_12, vA b2_14, vU, vU, vU] [(.ref br_11)])) _
    refine st15 _ ?_
    show Steps p.tables e below (T15.setTop (mkF m 176 #[vI p1, vI p2, vI p3, vI (t0_0 p1), vI (1 : Int32), vI (t0_2 p1), vI (1 : Int32), vA b4, vA br_9, vA br_10, vA br_11, vA b2_12, vA b2_14, vU, vU, vU] [(.ref b2_15)])) _
    refine XS.goto X15.here hx rfl (pc0 := 176) (pc' := 182) rfl (hb hby at_176) (by decide) (by decide) ?_
    refine XS.astore X15.here hx rfl (hb hby at_182) rfl rfl (l' := #[vI p1, vI p2, vI p3, vI (t0_0 p1), vI (1 : Int32), vI (t0_2 p1), vI (1 : Int32), vA b4, vA br_9, vA br_10, vA br_11, vA b2_12, vA b2_14, vA b2_15, vU, vU]) rfl ?_
    show Steps p.tables e below (T15.setTop (mkF m 184 #[vI p1, vI p2, vI p3, vI (t0_0 p1), vI (1 : Int32), vI (t0_2 p1), vI (1 : Int32), vA b4, vA br_9, vA br_10, vA br_11, vA b2_12, vA b2_14, vA b2_15, vU, vU] [])) _
    refine st16 _ ?_
    refine XS.dup X16.here hx rfl (hb hby at_187) rfl rfl ?_
    refine XS.aload X16.here hx rfl (hb hby at_188) rfl rfl ?_
    refine XS.aload X16.here hx rfl (hb hby at_190) rfl rfl ?_
    refine XS.iloadN X16.here hx rfl (hb hby at_192) rfl ?_
    refine XS.aload X16.here hx rfl (hb hby at_193) rfl rfl ?_
    refine XS.aload X16.here hx rfl (hb hby at_195) rfl rfl ?_
    refine XS.aload X16.here hx rfl (hb hby at_197) rfl rfl ?_
    show Steps p.tables e below (T16.setTop (mkF m 199 #[vI p1, vI p2, vI p3, vI (t0_0 p1), vI (1 : Int32), vI (t0_2 p1), vI (1 : Int32), vA b4, vA br_9, vA br_10, vA br_11, vA b2_12, vA b2_14, vA b2_15, vU, vU] [(.ref b2_15), (.ref b2_14), (.ref b2_12), (.int (t0_0 p1)), (.ref br_9), (.ref b4), (.ref b16), (.ref b16)])) _
    refine st17.trans ?_
    refine XS.astore X17.here hx rfl (hb hby at_202) rfl rfl (l' := #[vI p1, vI p2, vI p3, vI (t0_0 p1), vI (1 : Int32), vI (t0_2 p1), vI (1 : Int32), vA b4, vA br_9, vA br_10, vA br_11, vA b2_12, vA b2_14, vA b2_15, vA b16, vU]) rfl ?_
    refine XS.iconst X17.here hx rfl (hb hby at_204) ?_
    refine XS.istore X17.here hx rfl (hb hby at_205) rfl (l' := #[vI p1, vI p2, vI p3, vI (t0_0 p1), vI (1 : Int32), vI (t0_2 p1), vI (1 : Int32), vA b4, vA br_9, vA br_10, vA br_11, vA b2_12, vA b2_14, vA b2_15, vA b16, vI (1 : Int32)]) rfl ?_
    refine XS.iloadN X17.here hx rfl (hb hby at_207) rfl ?_
    show Steps p.tables e below (T17.setTop (mkF m 208 #[vI p1, vI p2, vI p3, vI (t0_0 p1), vI (1 : Int32), vI (t0_2 p1), vI (1 : Int32), vA b4, vA br_9, vA br_10, vA br_11, vA b2_12, vA b2_14, vA b2_15, vA b16, vI (1 : Int32)] [(.int (t0_0 p1))])) _
    have J208 : ∀ target, Steps p.tables e below (T17.setTop (mkF m 214 #[vI p1, vI p2, vI p3, vI (t0_0 p1), vI (1 : Int32), vI (t0_2 p1), vI (1 : Int32), vA b4, vA br_9, vA br_10, vA br_11, vA b2_12, vA b2_14, vA b2_15, vA b16, vI (t0_9 p1)] [])) target → Steps p.tables e below (T17.setTop (mkF m 208 #[vI p1, vI p2, vI p3, vI (t0_0 p1), vI (1 : Int32), vI (t0_2 p1), vI (1 : Int32), vA b4, vA br_9, vA br_10, vA br_11, vA b2_12, vA b2_14, vA b2_15, vA b16, vI (1 : Int32)] [(.int (t0_0 p1))])) target := by
      intro target kt
      by_cases hm208 : (t0_0 p1) = (0 : Int32)
      · skip
        show Steps p.tables e below (T17.setTop (mkF m 208 #[vI p1, vI p2, vI p3, vI (t0_0 p1), vI (1 : Int32), vI (t0_2 p1), vI (1 : Int32), vA b4, vA br_9, vA br_10, vA br_11, vA b2_12, vA b2_14, vA b2_15, vA b16, vI (1 : Int32)] [(.int (t0_0 p1))])) _
        refine XS.ifYes X17.here hx rfl (pc0 := 208) (pc' := 214) rfl (hb hby at_208) rfl ((if0 _ _).trans (teq hm208).1) (by decide) (by decide) ?_
        rw [show (t0_9 p1) = (1 : Int32) from if_pos hm208] at kt
        exact kt
      · skip
        show Steps p.tables e below (T17.setTop (mkF m 208 #[vI p1, vI p2, vI p3, vI (t0_0 p1), vI (1 : Int32), vI (t0_2 p1), vI (1 : Int32), vA b4, vA br_9, vA br_10, vA br_11, vA b2_12, vA b2_14, vA b2_15, vA b16, vI (1 : Int32)] [(.int (t0_0 p1))])) _
        refine XS.ifNo X17.here hx rfl (hb hby at_208) rfl ((if0 _ _).trans (feq hm208).1) ?_
        refine XS.iconst X17.here hx rfl (hb hby at_211) ?_
        refine XS.istore X17.here hx rfl (hb hby at_212) rfl (l' := #[vI p1, vI p2, vI p3, vI (t0_0 p1), vI (1 : Int32), vI (t0_2 p1), vI (1 : Int32), vA b4, vA br_9, vA br_10, vA br_11, vA b2_12, vA b2_14, vA b2_15, vA b16, vI (0 : Int32)]) rfl ?_
        rw [show (t0_9 p1) = (0 : Int32) from if_neg hm208] at kt
        exact kt
    refine J208 _ ?_
    refine XS.iload X17.here hx rfl (hb hby at_214) rfl ?_
    show Steps p.tables e below (T17.setTop (mkF m 216 #[vI p1, vI p2, vI p3, vI (t0_0 p1), vI (1 : Int32), vI (t0_2 p1), vI (1 : Int32), vA b4, vA br_9, vA br_10, vA br_11, vA b2_12, vA b2_14, vA b2_15, vA b16, vI (t0_9 p1)] [(.int (1 : Int32))])) _
    refine XS.ifNo X17.here hx rfl (hb hby at_216) rfl ((if0 _ _).trans (feq (by decide : ¬ ((1 : Int32) = (0 : Int32)))).1) ?_
    refine XS.iconst X17.here hx rfl (hb hby at_219) ?_
    refine XS.istore X17.here hx rfl (hb hby at_220) rfl (l' := #[vI p1, vI p2, vI p3, vI (t0_0 p1), vI (1 : Int32), vI (t0_2 p1), vI (1 : Int32), vA b4, vA br_9, vA br_10, vA br_11, vA b2_12, vA b2_14, vA b2_15, vA b16, vI (0 : Int32)]) rfl ?_
    refine XS.iload X17.here hx rfl (hb hby at_222) rfl ?_
    show Steps p.tables e below (T17.setTop (mkF m 224 #[vI p1, vI p2, vI p3, vI (t0_0 p1), vI (1 : Int32), vI (t0_2 p1), vI (1 : Int32), vA b4, vA br_9, vA br_10, vA br_11, vA b2_12, vA b2_14, vA b2_15, vA b16, vI (0 : Int32)] [(.int (t0_2 p1))])) _
    refine XS.ifNo X17.here hx rfl (hb hby at_224) rfl ((if0 _ _).trans (feq hc130).1) ?_
    refine XS.iconst X17.here hx rfl (hb hby at_227) ?_
    refine XS.istore X17.here hx rfl (hb hby at_228) rfl (l' := #[vI p1, vI p2, vI p3, vI (t0_0 p1), vI (1 : Int32), vI (t0_2 p1), vI (1 : Int32), vA b4, vA br_9, vA br_10, vA br_11, vA b2_12, vA b2_14, vA b2_15, vA b16, vI (0 : Int32)]) rfl ?_
    refine XS.iload X17.here hx rfl (hb hby at_230) rfl ?_
    show Steps p.tables e below (T17.setTop (mkF m 232 #[vI p1, vI p2, vI p3, vI (t0_0 p1), vI (1 : Int32), vI (t0_2 p1), vI (1 : Int32), vA b4, vA br_9, vA br_10, vA br_11, vA b2_12, vA b2_14, vA b2_15, vA b16, vI (0 : Int32)] [(.int (1 : Int32))])) _
    refine XS.ifNo X17.here hx rfl (hb hby at_232) rfl ((if0 _ _).trans (feq (by decide : ¬ ((1 : Int32) = (0 : Int32)))).1) ?_
    refine XS.iconst X17.here hx rfl (hb hby at_235) ?_
    refine XS.istore X17.here hx rfl (hb hby at_236) rfl (l' := #[vI p1, vI p2, vI p3, vI (t0_0 p1), vI (1 : Int32), vI (t0_2 p1), vI (1 : Int32), vA b4, vA br_9, vA br_10, vA br_11, vA b2_12, vA b2_14, vA b2_15, vA b16, vI (0 : Int32)]) rfl ?_
    refine XS.aload X17.here hx rfl (hb hby at_238) rfl rfl ?_
    show Steps p.tables e below (T17.setTop (mkF m 240 #[vI p1, vI p2, vI p3, vI (t0_0 p1), vI (1 : Int32), vI (t0_2 p1), vI (1 : Int32), vA b4, vA br_9, vA br_10, vA br_11, vA b2_12, vA b2_14, vA b2_15, vA b16, vI (0 : Int32)] [(.ref b16)])) _
    refine st18.trans ?_
    refine XS.iload X18.here hx rfl (hb hby at_243) rfl ?_
    show Steps p.tables e below (T18.setTop (mkF m 245 #[vI p1, vI p2, vI p3, vI (t0_0 p1), vI (1 : Int32), vI (t0_2 p1), vI (1 : Int32), vA b4, vA br_9, vA br_10, vA br_11, vA b2_12, vA b2_14, vA b2_15, vA b16, vI (0 : Int32)] [(.int (0 : Int32)), (.int (0 : Int32))])) _
    refine XS.icmpNo X18.here hx rfl (hb hby at_245) rfl (teq (rfl : (0 : Int32) = (0 : Int32))).2 ?_
    refine XS.iconst X18.here hx rfl (hb hby at_248) ?_
    show Steps p.tables e below (T18.setTop (mkF m 249 #[vI p1, vI p2, vI p3, vI (t0_0 p1), vI (1 : Int32), vI (t0_2 p1), vI (1 : Int32), vA b4, vA br_9, vA br_10, vA br_11, vA b2_12, vA b2_14, vA b2_15, vA b16, vI (0 : Int32)] [(.int (1 : Int32))])) _
    refine XS.goto X18.here hx rfl (pc0 := 249) (pc' := 253) rfl (hb hby at_249) (by decide) (by decide) ?_
    show Steps p.tables e below (T18.setTop (mkF m 253 #[vI p1, vI p2, vI p3, vI (t0_0 p1), vI (1 : Int32), vI (t0_2 p1), vI (1 : Int32), vA b4, vA br_9, vA br_10, vA br_11, vA b2_12, vA b2_14, vA b2_15, vA b16, vI (0 : Int32)] [(.int (1 : Int32))])) _
    exact retN X18 hx (t := .boolean) Bd.returns (by simp) (hb hby at_253) hr
  · show Q_rm0 Z p1 p2 p3 s_COMPACT_STRINGS s_EMPTY s_ALWAYS s_BY_DEFAULT h0 n0 _ T18.heap _
    exact ⟨rfl, N18⟩
set_option maxRecDepth 65536 in
set_option maxHeartbeats 40000000 in
theorem rm0_ftf (l : Launch) (Z : State) (a0 : Array Value) (hw : ∀ d ∈ tables_1, d.before a0 Z = true) (ws : List Jvm.Cond) (p1 : Int32) (p2 : Int32) (p3 : Int32) (s_COMPACT_STRINGS : Int32) (s_EMPTY : Addr) (s_ALWAYS : Addr) (s_BY_DEFAULT : Addr) (h0 : Heap) (n0 : Nat) (Z0 : n0 ≤ h0.size) (hcs : ¬ (s_COMPACT_STRINGS = (0 : Int32))) (S_COMPACT_STRINGS : Sta Z h0 "java/lang/String" "COMPACT_STRINGS" "Z" (.int s_COMPACT_STRINGS)) (S_EMPTY : Sta Z h0 "java/util/Optional" "EMPTY" "Ljava/util/Optional;" (.ref s_EMPTY)) (S_ALWAYS : Sta Z h0 "underdeck/deck/Column$Identity" "ALWAYS" "Lunderdeck/deck/Column$Identity;" (.ref s_ALWAYS)) (S_BY_DEFAULT : Sta Z h0 "underdeck/deck/Column$Identity" "BY_DEFAULT" "Lunderdeck/deck/Column$Identity;" (.ref s_BY_DEFAULT)) (F_value_s_EMPTY : Fld Z h0 s_EMPTY "java/util/Optional" "value" "Ljava/lang/Object;" .null) (E_s_EMPTY : Exa Z h0 s_EMPTY "java/util/Optional") (hc15 : ¬ ((p1 &&& (2 : Int32)) = (0 : Int32))) (hc38 : (p1 &&& (16 : Int32)) = (0 : Int32)) (hc130 : (t0_2 p1) = (0 : Int32)) :
    MetFree l x (head1 (Jvm.Cond.code x code maxLocals ret :: ws) room_1) (fun a U => a = #[(.int p1), (.int p2), (.int p3)] ∧ Z.Warmed39 U.vm ∧ U.heap = h0) (fun _ _ _ _ _ => True) (fun _ U o U' => ∃ v L, o = .returned v ∧ Q_rm0 Z p1 p2 p3 s_COMPACT_STRINGS s_EMPTY s_ALWAYS s_BY_DEFAULT h0 n0 v U'.heap L ∧ ReturnedEndW U o U' L room_1.cells room_1.slots) := by
  have hi : ∀ (i : Nat) {d : Jvm.Cond}, tables_1[i]? = some d → d.before a0 Z = true := fun i d h => hw d (List.mem_of_getElem? h)
  refine MetFree.of_bodySF (plainFor_of_name pn_0) hisR ?_
  intro p e s m args below meth c s₁ Bd hml0 hP hK
  obtain ⟨rfl, hZ, hh⟩ := hP
  have hx := Bd.exec
  have hby := Bd.bytes
  have hml : c.maxLocals = 16 := hml0
  have hown : s.vm.findClass "underdeck/deck/ColumnRequiredPinLaw" = some m.cls := findClass_of_methodNamed Bd.named
  have hnm := (name_of_methodNamed Bd.named Bd.method).1
  have X0 : Stand p l e room_1 (s.setVm s.vm) m #[(.int p1), (.int p2), (.int p3)] below meth c s₁ [] 0 0 := Stand.of_body Bd
  have e0 : s₁.heap = h0 := by rw [← hh, Bd.state]; rfl
  have N0 := Fr.nil n0
  have pre0 : ∀ t, Steps p.tables e below (s₁.setTop (mkF m 0 #[vI p1, vI p2, vI p3, vU, vU, vU, vU, vU, vU, vU, vU, vU, vU, vU, vU, vU] [])) t → Steps p.tables e below (s₁.setTop (entryFrame m #[(.int p1), (.int p2), (.int p3)] maxLocals)) t := fun t k => castTop (ef_0 m p1 p2 p3) k
  have hS0 : s.Since s.vm h0.size := (State.WarmedH.refl s).since _
  obtain ⟨T4, h4, X4, e4, E4, A4, D4, -, st4⟩ := newO X0 hx hZ hown (hi 0 rfl) (hi 1 rfl) (hi 2 rfl) e0 (g := (mkF m 48 #[vI p1, vI p2, vI p3, vI (t0_0 p1), vI (1 : Int32), vI (t0_2 p1), vI (0 : Int32), vU, vU, vU, vU, vU, vU, vU, vU, vU] [])) rfl (hb hby at_48) (by decide) (by decide)
  obtain ⟨b4, g4⟩ : ∃ z, z = h0.size := ⟨_, rfl⟩
  rw [← g4] at A4 D4 st4
  have g_b4 : n0 ≤ b4 := Nat.le_trans Z0 (Nat.le_of_eq g4.symm)
  have sz_b4 : h0.size ≤ b4 := Nat.le_trans (Nat.le_refl h0.size) (Nat.le_of_eq g4.symm)
  have F_coder_b4 : Fld Z h4 b4 "java/lang/String" "coder" "B" (.int (0 : Int32)) := D4 (Or.inr (hi 27 rfl)) (ty := .byte) (by decide)
  have F_value_b4 : Fld Z h4 b4 "java/lang/String" "value" "[B" .null := D4 (Or.inr (hi 29 rfl)) (ty := (.array .byte)) (by decide)
  obtain ⟨T5, h5, k5, X5, e5, E5, A5, st5⟩ := newP X4 hx hZ (hi 3 rfl) e4 (g := (mkF m 53 #[vI p1, vI p2, vI p3, vI (t0_0 p1), vI (1 : Int32), vI (t0_2 p1), vI (0 : Int32), vU, vU, vU, vU, vU, vU, vU, vU, vU] [(.int (2 : Int32)), (.ref b4), (.ref b4)])) rfl (hb hby at_53) rfl (by decide) (cap := 2) (by decide) (by decide) (by decide) (by decide)
  obtain ⟨b5, g5⟩ : ∃ z, z = h4.size := ⟨_, rfl⟩
  rw [← g5] at A5 st5
  have g_b5 : n0 ≤ b5 := Nat.le_trans (Nat.le_trans Z0 E4.1) (Nat.le_of_eq g5.symm)
  have sz_b5 : h0.size ≤ b5 := Nat.le_trans (Nat.le_trans (Nat.le_refl h0.size) E4.1) (Nat.le_of_eq g5.symm)
  have V_b5 : Arv Z h5 b5 k5 .char (2 : Int32) [(.int (0 : Int32)), (.int (0 : Int32))] (.int (0 : Int32)) := (Arv.new A5 (by decide)).pad (pad_rep [] (.int (0 : Int32)) 2)
  obtain ⟨cl_b5_0, Ar_b5_0, q_b5_0, Sz_b5_0, Ng_b5_0, Ha_b5_0, Gt_b5_0⟩ := id V_b5
  have hin_b5_0 : ¬ ((0 : Int32) < 0 ∨ cl_b5_0.slots.size ≤ ((0 : Int32)).toNatClampNeg) := inb_of Sz_b5_0 ⟨by decide, by decide⟩
  obtain ⟨T6, h6, X6, e6, W6, st6⟩ := stC X5 hx hZ e5 Ar_b5_0 (j := (0 : Int32)) hin_b5_0 (g := (mkF m 63 #[vI p1, vI p2, vI p3, vI (t0_0 p1), vI (1 : Int32), vI (t0_2 p1), vI (0 : Int32), vU, vU, vU, vU, vU, vU, vU, vU, vU] [(.int (t0_3 p2)), (.int (0 : Int32)), (.ref b5), (.ref b5), (.ref b4), (.ref b4)])) rfl rfl (hb hby at_63)
  have V6 : Arv Z h6 b5 k5 .char (2 : Int32) [(.int (nar .char (t0_3 p2))), (.int (0 : Int32))] (.int (0 : Int32)) := Arv.set Ar_b5_0 q_b5_0 Sz_b5_0 Ng_b5_0 Ha_b5_0 Gt_b5_0 (fits_nar_char _) W6 0 rfl (Nat.le_of_ble_eq_true rfl)
  have N6 := Fr.snoc X6 N0 g_b5
  obtain ⟨cl_b5_1, Ar_b5_1, q_b5_1, Sz_b5_1, Ng_b5_1, Ha_b5_1, Gt_b5_1⟩ := id V6
  have hin_b5_1 : ¬ ((1 : Int32) < 0 ∨ cl_b5_1.slots.size ≤ ((1 : Int32)).toNatClampNeg) := inb_of Sz_b5_1 ⟨by decide, by decide⟩
  obtain ⟨T7, h7, X7, e7, W7, st7⟩ := stC X6 hx hZ e6 Ar_b5_1 (j := (1 : Int32)) hin_b5_1 (g := (mkF m 75 #[vI p1, vI p2, vI p3, vI (t0_0 p1), vI (1 : Int32), vI (t0_2 p1), vI (0 : Int32), vU, vU, vU, vU, vU, vU, vU, vU, vU] [(.int (t0_5 p2)), (.int (1 : Int32)), (.ref b5), (.ref b5), (.ref b4), (.ref b4)])) rfl rfl (hb hby at_75)
  have V7 : Arv Z h7 b5 k5 .char (2 : Int32) [(.int (nar .char (t0_3 p2))), (.int (nar .char (t0_5 p2)))] (.int (0 : Int32)) := Arv.set Ar_b5_1 q_b5_1 Sz_b5_1 Ng_b5_1 Ha_b5_1 Gt_b5_1 (fits_nar_char _) W7 1 rfl (Nat.le_of_ble_eq_true rfl)
  have N7 := Fr.snoc X7 N6 g_b5
  have f2 := ((((S_COMPACT_STRINGS.ext E4).ext E5).wr W6).wr W7)
  have f3 := (((F_coder_b4.ext E5).other W6 (Or.inl (Nat.ne_of_lt (Nat.lt_of_lt_of_le A4.lt (Nat.le_of_eq g5.symm))))).other W7 (Or.inl (Nat.ne_of_lt (Nat.lt_of_lt_of_le A4.lt (Nat.le_of_eq g5.symm)))))
  have f4 := (((F_value_b4.ext E5).other W6 (Or.inl (Nat.ne_of_lt (Nat.lt_of_lt_of_le A4.lt (Nat.le_of_eq g5.symm))))).other W7 (Or.inl (Nat.ne_of_lt (Nat.lt_of_lt_of_le A4.lt (Nat.le_of_eq g5.symm)))))
  have f5 := (((A4.ext E5).wr W6).wr W7)
  obtain ⟨_, _, ⟨T8, L8, k8, n8⟩, -, X8, ⟨Lc8, hQ8, l8, y8, z8⟩, st8⟩ := X7.specialBack hx (y := (⟨"java/lang/String", "<init>", "([C)V"⟩ : MethodName)) rfl hown (mvT hZ (hi 4 rfl)) (mvT hZ (hi 5 rfl)) (mvT hZ (hi 6 rfl)) (by decide) (backOf (W := 1) (rm1 l Z a0 hw [] b4 b5 s_COMPACT_STRINGS (0 : Int32) .null k5 (nar .char (t0_3 p2)) (nar .char (t0_5 p2)) h7 n0 (Nat.le_trans (Nat.le_trans (Nat.le_trans (Nat.le_trans Z0 E4.1) E5.1) (Keep.of_wr W6).1) (Keep.of_wr W7).1) f2 f3 f4 f5 g_b4 V7 hcs (own_le255 _ (own_cc _ (own_cc _ (own_m255 _)))) (own_le255 _ (own_cc _ (own_cc _ (own_m255 _))))) hZ (hi 6 rfl) (hi 2 rfl) (by decide) (by decide)) (g := (mkF m 76 #[vI p1, vI p2, vI p3, vI (t0_0 p1), vI (1 : Int32), vI (t0_2 p1), vI (0 : Int32), vU, vU, vU, vU, vU, vU, vU, vU, vU] [(.ref b5), (.ref b4), (.ref b4)])) rfl (by rw [hml]; rfl) (Steps.refl _) (a := b4) (argsL := [(.ref b5)]) (rest := [(.ref b4)]) (lenOf pd__28_5bC_29V rfl) rfl (by show 2 * 0 + _ ≤ _; exact Nat.le_of_eq rfl) (hb hby at_76) (fun _ _ => ⟨rfl, e7, (by decide : 2 + 1 ≤ _), (by decide : 6 + 2 ≤ _)⟩)
  dsimp only [Pt.U, Pt.locs, Pt.cells, Pt.slots] at X8 l8 y8 z8 st8 hQ8
  subst l8 y8 z8
  obtain ⟨rfl, N8q, K8, i8_0, i8_1⟩ := hQ8
  have N8 := Fr.app N7 N8q
  have f6 := (own_sta_keep f2 K8 (own_qc (own_nst f5) own_q0))
  obtain ⟨_, _, ⟨T9, L9, k9, n9⟩, -, X9, ⟨Lc9, hQ9, l9, y9, z9⟩, st9⟩ := Jvm.LawKit.callS X8 hx (y := (⟨"java/lang/String", "valueOf", "(C)Ljava/lang/String;"⟩ : MethodName)) hown (mvT hZ (hi 30 rfl)) (mvT hZ (hi 31 rfl)) (mvT hZ (hi 2 rfl)) (mvT hZ (hi 32 rfl)) (by decide) (backOf (W := 0) (rm7 l Z a0 hw [] (t0_7 p2) s_COMPACT_STRINGS T8.heap n0 (Nat.le_trans (Nat.le_trans (Nat.le_trans (Nat.le_trans (Nat.le_trans Z0 E4.1) E5.1) (Keep.of_wr W6).1) (Keep.of_wr W7).1) K8.1) f6 hcs (own_F8 _ (own_cc _ (own_m255 _)))) hZ (hi 32 rfl) (hi 2 rfl) (by decide) (by decide)) (g := (mkF m 90 #[vI p1, vI p2, vI p3, vI (t0_0 p1), vI (1 : Int32), vI (t0_2 p1), vI (0 : Int32), vA b4, vU, vU, vU, vU, vU, vU, vU, vU] [(.int (t0_7 p2))])) rfl (by rw [hml]; rfl) (argsL := [(.int (t0_7 p2))]) (rest := []) (lenOf pd__28C_29Ljava_2flang_2fString_3b rfl) rfl (by show 2 * 0 + _ ≤ _; exact Nat.le_of_eq rfl) (hb hby at_90) (fun _ _ => ⟨rfl, rfl, (by decide : 3 + 2 ≤ _), (by decide : 8 + 5 ≤ _)⟩)
  dsimp only [Pt.U, Pt.locs, Pt.cells, Pt.slots] at X9 l9 y9 z9 st9 hQ9
  subst l9 y9 z9
  obtain ⟨br_9, ⟨rfl, N9q, K9⟩⟩ := hQ9
  have N9 := Fr.app N8 N9q
  have f7 := (V7.keep K8 (own_nm (Ne.symm (Nat.ne_of_lt (Nat.lt_of_lt_of_le A4.lt (Nat.le_of_eq g5.symm)))) own_n0))
  have f8 := (own_sta_keep f6 K9 own_q0)
  obtain ⟨_, _, ⟨T10, L10, k10, n10⟩, -, X10w, hS10w, hg10, ⟨Lc10, hQ10, l10, y10, z10⟩, st10⟩ := Jvm.RoadKit.callSS X9 hx (y := (⟨"underdeck/deck/ColumnRequiredPinLaw", "drawn", "(I)Ljava/lang/String;"⟩ : MethodName)) hown (mvT hZ (hi 44 rfl)) (mvT hZ (hi 45 rfl)) (mvT hZ (hi 46 rfl)) (mvT hZ (hi 47 rfl)) (by decide) (backOfS (W := 0) (rm11 l Z a0 hw [] p3 s_COMPACT_STRINGS T9.heap n0 (Nat.le_trans (Nat.le_trans (Nat.le_trans (Nat.le_trans (Nat.le_trans (Nat.le_trans Z0 E4.1) E5.1) (Keep.of_wr W6).1) (Keep.of_wr W7).1) K8.1) K9.1) f8 hcs) hZ (hi 47 rfl) (hi 46 rfl) (by decide) (by decide)) (g := (mkF m 96 #[vI p1, vI p2, vI p3, vI (t0_0 p1), vI (1 : Int32), vI (t0_2 p1), vI (0 : Int32), vA b4, vA br_9, vU, vU, vU, vU, vU, vU, vU] [(.int p3)])) rfl (by rw [hml]; rfl) (argsL := [(.int p3)]) (rest := []) (lenOf pd__28I_29Ljava_2flang_2fString_3b rfl) rfl (by show 2 * 0 + _ ≤ _; exact Nat.le_of_eq rfl) (hb hby at_96) (fun _ _ => ⟨rfl, rfl, (by decide : 5 + 2 ≤ _), (by decide : 13 + 5 ≤ _)⟩)
  dsimp only [Pt.U, Pt.locs, Pt.cells, Pt.slots] at X10w hS10w hg10 l10 y10 z10 st10 hQ10
  subst l10 y10 z10
  obtain ⟨X10, hS10, hZ10, hown10⟩ := rebS hS0 (show _ ≤ T9.heap.size from by exact (Nat.le_trans (Nat.le_trans (Nat.le_trans (Nat.le_trans (Nat.le_trans (Nat.le_trans (Nat.le_refl h0.size) E4.1) E5.1) (Keep.of_wr W6).1) (Keep.of_wr W7).1) K8.1) K9.1)) X10w hS10w hg10 hZ hown
  obtain ⟨br_10, ⟨rfl, N10q, K10⟩⟩ := hQ10
  have N10 := Fr.app N9 N10q
  have f9 := (i8_0.keep K9)
  have f10 := (f7.keep K9 own_n0)
  have f11 := (own_sta_keep f8 K10 own_q0)
  obtain ⟨_, _, ⟨T11, L11, k11, n11⟩, -, X11w, hS11w, hg11, ⟨Lc11, hQ11, l11, y11, z11⟩, st11⟩ := Jvm.RoadKit.callSS X10 hx (y := (⟨"underdeck/deck/ColumnRequiredPinLaw", "drawn", "(I)Ljava/lang/String;"⟩ : MethodName)) hown10 (mvT hZ10 (hi 44 rfl)) (mvT hZ10 (hi 45 rfl)) (mvT hZ10 (hi 46 rfl)) (mvT hZ10 (hi 47 rfl)) (by decide) (backOfS (W := 0) (rm11 l Z a0 hw [] (t0_8 p3) s_COMPACT_STRINGS T10.heap n0 (Nat.le_trans (Nat.le_trans (Nat.le_trans (Nat.le_trans (Nat.le_trans (Nat.le_trans (Nat.le_trans Z0 E4.1) E5.1) (Keep.of_wr W6).1) (Keep.of_wr W7).1) K8.1) K9.1) K10.1) f11 hcs) hZ10 (hi 47 rfl) (hi 46 rfl) (by decide) (by decide)) (g := (mkF m 105 #[vI p1, vI p2, vI p3, vI (t0_0 p1), vI (1 : Int32), vI (t0_2 p1), vI (0 : Int32), vA b4, vA br_9, vA br_10, vU, vU, vU, vU, vU, vU] [(.int (t0_8 p3))])) rfl (by rw [hml]; rfl) (argsL := [(.int (t0_8 p3))]) (rest := []) (lenOf pd__28I_29Ljava_2flang_2fString_3b rfl) rfl (by show 2 * 0 + _ ≤ _; exact Nat.le_of_eq rfl) (hb hby at_105) (fun _ _ => ⟨rfl, rfl, (by decide : 7 + 2 ≤ _), (by decide : 18 + 5 ≤ _)⟩)
  dsimp only [Pt.U, Pt.locs, Pt.cells, Pt.slots] at X11w hS11w hg11 l11 y11 z11 st11 hQ11
  subst l11 y11 z11
  obtain ⟨X11, hS11, hZ11, hown11⟩ := rebS hS10 (show _ ≤ T10.heap.size from by exact (Nat.le_refl _)) X11w hS11w hg11 hZ10 hown10
  obtain ⟨br_11, ⟨rfl, N11q, K11⟩⟩ := hQ11
  have N11 := Fr.app N10 N11q
  have f12 := (f9.keep K10)
  have f13 := (f10.keep K10 own_n0)
  obtain ⟨_, _, ⟨T12, L12, k12, n12⟩, -, X12, ⟨Lc12, hQ12, l12, y12, z12⟩, st12⟩ := Jvm.LawKit.callS X11 hx (y := (⟨"java/util/Optional", "of", "(Ljava/lang/Object;)Ljava/util/Optional;"⟩ : MethodName)) hown11 (mvT hZ11 (hi 104 rfl)) (mvT hZ11 (hi 105 rfl)) (mvT hZ11 (hi 53 rfl)) (mvT hZ11 (hi 106 rfl)) (by decide) (backOf (W := 0) (rm18 l Z a0 hw [] br_10 T11.heap n0 (Nat.le_trans (Nat.le_trans (Nat.le_trans (Nat.le_trans (Nat.le_trans (Nat.le_trans (Nat.le_trans (Nat.le_trans Z0 E4.1) E5.1) (Keep.of_wr W6).1) (Keep.of_wr W7).1) K8.1) K9.1) K10.1) K11.1) ) hZ11 (hi 106 rfl) (hi 53 rfl) (by decide) (by decide)) (g := (mkF m 117 #[vI p1, vI p2, vI p3, vI (t0_0 p1), vI (1 : Int32), vI (t0_2 p1), vI (0 : Int32), vA b4, vA br_9, vA br_10, vA br_11, vU, vU, vU, vU, vU] [(.ref br_10)])) rfl (by rw [hml]; rfl) (argsL := [(.ref br_10)]) (rest := []) (lenOf pd__28Ljava_2flang_2fObject_3b_29Ljava_2futil_2fOptional_3b rfl) rfl (by show 2 * 0 + _ ≤ _; exact Nat.le_of_eq rfl) (hb hby at_117) (fun _ _ => ⟨rfl, rfl, (by decide : 9 + 1 ≤ _), (by decide : 23 + 1 ≤ _)⟩)
  dsimp only [Pt.U, Pt.locs, Pt.cells, Pt.slots] at X12 l12 y12 z12 st12 hQ12
  subst l12 y12 z12
  obtain ⟨b2_12, ⟨rfl, N12q, K12, i12_0, i12_1, i12_2⟩⟩ := hQ12
  have N12 := Fr.app N11 N12q
  have f14 := (f12.keep K11)
  have f15 := (f13.keep K11 own_n0)
  have sz_b2_12 : h0.size ≤ b2_12 := Nat.le_trans (Nat.le_trans (Nat.le_trans (Nat.le_trans (Nat.le_trans (Nat.le_trans (Nat.le_trans (Nat.le_trans (Nat.le_trans (Nat.le_refl h0.size) E4.1) E5.1) (Keep.of_wr W6).1) (Keep.of_wr W7).1) K8.1) K9.1) K10.1) K11.1) i12_0
  have g_b2_12 : n0 ≤ b2_12 := Nat.le_trans Z0 sz_b2_12
  have f16 := (own_sta_keep (own_sta_keep (own_sta_keep (own_sta_keep (own_sta_keep ((((S_EMPTY.ext E4).ext E5).wr W6).wr W7) K8 (own_qc (own_nst f5) own_q0)) K9 own_q0) K10 own_q0) K11 own_q0) K12 own_q0)
  obtain ⟨_, _, ⟨T13, L13, k13, n13⟩, -, X13, ⟨Lc13, hQ13, l13, y13, z13⟩, st13⟩ := Jvm.LawKit.callS X12 hx (y := (⟨"java/util/Optional", "empty", "()Ljava/util/Optional;"⟩ : MethodName)) hown11 (mvT hZ11 (hi 51 rfl)) (mvT hZ11 (hi 52 rfl)) (mvT hZ11 (hi 53 rfl)) (mvT hZ11 (hi 54 rfl)) (by decide) (backOf (W := 0) (rm12 l Z a0 hw [] s_EMPTY T12.heap n0 (Nat.le_trans (Nat.le_trans (Nat.le_trans (Nat.le_trans (Nat.le_trans (Nat.le_trans (Nat.le_trans (Nat.le_trans (Nat.le_trans Z0 E4.1) E5.1) (Keep.of_wr W6).1) (Keep.of_wr W7).1) K8.1) K9.1) K10.1) K11.1) K12.1) f16) hZ11 (hi 54 rfl) (hi 53 rfl) (by decide) (by decide)) (g := (mkF m 133 #[vI p1, vI p2, vI p3, vI (t0_0 p1), vI (1 : Int32), vI (t0_2 p1), vI (0 : Int32), vA b4, vA br_9, vA br_10, vA br_11, vA b2_12, vU, vU, vU, vU] [])) rfl (by rw [hml]; rfl) (argsL := []) (rest := []) (lenOf pd__28_29Ljava_2futil_2fOptional_3b rfl) rfl (by show 2 * 0 + _ ≤ _; exact Nat.le_of_eq rfl) (hb hby at_133) (fun _ _ => ⟨rfl, rfl, (by decide : 10 + 0 ≤ _), (by decide : 24 + 0 ≤ _)⟩)
  dsimp only [Pt.U, Pt.locs, Pt.cells, Pt.slots] at X13 l13 y13 z13 st13 hQ13
  subst l13 y13 z13
  obtain ⟨rfl, N13q, e13⟩ := hQ13
  have N13 := Fr.app N12 N13q
  obtain ⟨_, _, ⟨T14, L14, k14, n14⟩, -, X14, ⟨Lc14, hQ14, l14, y14, z14⟩, st14⟩ := Jvm.LawKit.callS X13 hx (y := (⟨"java/util/Optional", "empty", "()Ljava/util/Optional;"⟩ : MethodName)) hown11 (mvT hZ11 (hi 51 rfl)) (mvT hZ11 (hi 52 rfl)) (mvT hZ11 (hi 53 rfl)) (mvT hZ11 (hi 54 rfl)) (by decide) (backOf (W := 0) (rm12 l Z a0 hw [] s_EMPTY T12.heap n0 (Nat.le_trans (Nat.le_trans (Nat.le_trans (Nat.le_trans (Nat.le_trans (Nat.le_trans (Nat.le_trans (Nat.le_trans (Nat.le_trans Z0 E4.1) E5.1) (Keep.of_wr W6).1) (Keep.of_wr W7).1) K8.1) K9.1) K10.1) K11.1) K12.1) f16) hZ11 (hi 54 rfl) (hi 53 rfl) (by decide) (by decide)) (g := (mkF m 179 #[vI p1, vI p2, vI p3, vI (t0_0 p1), vI (1 : Int32), vI (t0_2 p1), vI (0 : Int32), vA b4, vA br_9, vA br_10, vA br_11, vA b2_12, vA s_EMPTY, vU, vU, vU] [])) rfl (by rw [hml]; rfl) (argsL := []) (rest := []) (lenOf pd__28_29Ljava_2futil_2fOptional_3b rfl) rfl (by show 2 * 0 + _ ≤ _; exact Nat.le_of_eq rfl) (hb hby at_179) (fun _ _ => ⟨rfl, e13, (by decide : 10 + 0 ≤ _), (by decide : 24 + 0 ≤ _)⟩)
  dsimp only [Pt.U, Pt.locs, Pt.cells, Pt.slots] at X14 l14 y14 z14 st14 hQ14
  subst l14 y14 z14
  obtain ⟨rfl, N14q, e14⟩ := hQ14
  have N14 := Fr.app N13 N14q
  have f17 := (f14.keep K12)
  have f18 := (f15.keep K12 own_n0)
  obtain ⟨T15, h15, X15, e15, E15, A15, D15, -, st15⟩ := newO X14 hx hZ11 hown11 (hi 56 rfl) (hi 57 rfl) (hi 58 rfl) e14 (g := (mkF m 184 #[vI p1, vI p2, vI p3, vI (t0_0 p1), vI (1 : Int32), vI (t0_2 p1), vI (0 : Int32), vA b4, vA br_9, vA br_10, vA br_11, vA b2_12, vA s_EMPTY, vA s_EMPTY, vU, vU] [])) rfl (hb hby at_184) (by decide) (by decide)
  obtain ⟨b15, g15⟩ : ∃ z, z = T12.heap.size := ⟨_, rfl⟩
  rw [← g15] at A15 D15 st15
  have g_b15 : n0 ≤ b15 := Nat.le_trans (Nat.le_trans (Nat.le_trans (Nat.le_trans (Nat.le_trans (Nat.le_trans (Nat.le_trans (Nat.le_trans (Nat.le_trans (Nat.le_trans Z0 E4.1) E5.1) (Keep.of_wr W6).1) (Keep.of_wr W7).1) K8.1) K9.1) K10.1) K11.1) K12.1) (Nat.le_of_eq g15.symm)
  have sz_b15 : h0.size ≤ b15 := Nat.le_trans (Nat.le_trans (Nat.le_trans (Nat.le_trans (Nat.le_trans (Nat.le_trans (Nat.le_trans (Nat.le_trans (Nat.le_trans (Nat.le_trans (Nat.le_refl h0.size) E4.1) E5.1) (Keep.of_wr W6).1) (Keep.of_wr W7).1) K8.1) K9.1) K10.1) K11.1) K12.1) (Nat.le_of_eq g15.symm)
  have F_name_b15 : Fld Z h15 b15 "underdeck/deck/Column" "name" "Ljava/lang/String;" .null := D15 (Or.inr (hi 78 rfl)) (ty := (.object "java/lang/String")) (by decide)
  have F_type_b15 : Fld Z h15 b15 "underdeck/deck/Column" "type" "Ljava/lang/String;" .null := D15 (Or.inr (hi 80 rfl)) (ty := (.object "java/lang/String")) (by decide)
  have F_nullable_b15 : Fld Z h15 b15 "underdeck/deck/Column" "nullable" "Z" (.int (0 : Int32)) := D15 (Or.inr (hi 82 rfl)) (ty := .boolean) (by decide)
  have F_defaultValue_b15 : Fld Z h15 b15 "underdeck/deck/Column" "defaultValue" "Ljava/util/Optional;" .null := D15 (Or.inr (hi 84 rfl)) (ty := (.object "java/util/Optional")) (by decide)
  have F_identity_b15 : Fld Z h15 b15 "underdeck/deck/Column" "identity" "Ljava/util/Optional;" .null := D15 (Or.inr (hi 86 rfl)) (ty := (.object "java/util/Optional")) (by decide)
  have F_generated_b15 : Fld Z h15 b15 "underdeck/deck/Column" "generated" "Ljava/util/Optional;" .null := D15 (Or.inr (hi 88 rfl)) (ty := (.object "java/util/Optional")) (by decide)
  obtain ⟨_, _, ⟨T16, L16, k16, n16⟩, -, X16w, hS16w, hg16, ⟨Lc16, hQ16, l16, y16, z16⟩, st16⟩ := X15.specialBackS hx (y := (⟨"underdeck/deck/Column", "<init>", "(Ljava/lang/String;Ljava/lang/String;ZLjava/util/Optional;Ljava/util/Optional;Ljava/util/Optional;)V"⟩ : MethodName)) rfl hown11 (mvT hZ11 (hi 59 rfl)) (mvT hZ11 (hi 60 rfl)) (mvT hZ11 (hi 61 rfl)) (by decide) (backOfS (W := 1) (rm13 l Z a0 hw [] b15 b4 br_9 (t0_0 p1) b2_12 s_EMPTY s_EMPTY .null .null (0 : Int32) .null .null .null h15 n0 (Nat.le_trans (Nat.le_trans (Nat.le_trans (Nat.le_trans (Nat.le_trans (Nat.le_trans (Nat.le_trans (Nat.le_trans (Nat.le_trans (Nat.le_trans Z0 E4.1) E5.1) (Keep.of_wr W6).1) (Keep.of_wr W7).1) K8.1) K9.1) K10.1) K11.1) K12.1) E15.1) A15 F_name_b15 g_b15 F_type_b15 F_nullable_b15 F_defaultValue_b15 F_identity_b15 F_generated_b15) hZ11 (hi 61 rfl) (hi 58 rfl) (by decide) (by decide)) (g := (mkF m 199 #[vI p1, vI p2, vI p3, vI (t0_0 p1), vI (1 : Int32), vI (t0_2 p1), vI (0 : Int32), vA b4, vA br_9, vA br_10, vA br_11, vA b2_12, vA s_EMPTY, vA s_EMPTY, vU, vU] [(.ref s_EMPTY), (.ref s_EMPTY), (.ref b2_12), (.int (t0_0 p1)), (.ref br_9), (.ref b4), (.ref b15), (.ref b15)])) rfl (by rw [hml]; rfl) (Steps.refl _) (a := b15) (argsL := [(.ref b4), (.ref br_9), (.int (t0_0 p1)), (.ref b2_12), (.ref s_EMPTY), (.ref s_EMPTY)]) (rest := [(.ref b15)]) (lenOf pd__28Ljava_2flang_2fString_3bLjava_2flang_2fString_3bZLjava_2futil_2fOptional_3bLjava_2futil_2fOptional_3bLjava_2futil_2fOptional_3b_29V rfl) rfl (by show 2 * 0 + _ ≤ _; exact Nat.le_of_eq rfl) (hb hby at_199) (fun _ _ => ⟨rfl, e15, (by decide : 11 + 10 ≤ _), (by decide : 30 + 168 ≤ _)⟩)
  dsimp only [Pt.U, Pt.locs, Pt.cells, Pt.slots] at X16w hS16w hg16 l16 y16 z16 st16 hQ16
  subst l16 y16 z16
  obtain ⟨X16, hS16, hZ16, hown16⟩ := rebS hS11 (show _ ≤ T15.heap.size from by rw [e15]; exact (Nat.le_trans (Nat.le_trans (Nat.le_refl _) K12.1) E15.1)) X16w hS16w hg16 hZ11 hown11
  obtain ⟨rfl, N16q, K16, i16_0, i16_1, i16_2, i16_3, i16_4, i16_5, i16_6⟩ := hQ16
  have N16 := Fr.app N14 N16q
  have f19 := ((i12_2.ext E15).keep K16 (own_nm (Nat.ne_of_lt (Nat.lt_of_lt_of_le i12_1.lt (Nat.le_of_eq g15.symm))) own_n0))
  have f20 := ((i12_1.ext E15).keep K16)
  obtain ⟨cq17, kq17, q17a, q17b, q17c⟩ := isOf hZ16 rfl i16_0
  obtain ⟨_, _, ⟨T17, L17, k17, n17⟩, -, X17, ⟨Lc17, hQ17, l17, y17, z17⟩, st17⟩ := X16.virtualBack hx (y := (⟨"underdeck/deck/Column", "required", "()Z"⟩ : MethodName)) (z := (⟨"underdeck/deck/Column", "required", "()Z"⟩ : MethodName)) hown16 (mvT hZ16 (hi 89 rfl)) (mvT hZ16 (hi 90 rfl)) (notFace_of_selects (args := #[]) (mvT hZ16 (hi 92 rfl))) (mvT hZ16 (hi 92 rfl)) (mvT hZ16 (hi 91 rfl)) (by decide) (backOf (W := 0) (rm16v l Z a0 hw [] b15 (nar .boolean (t0_0 p1)) b2_12 br_10 T16.heap n0 (Nat.le_trans (Nat.le_trans (Nat.le_trans (Nat.le_trans (Nat.le_trans (Nat.le_trans (Nat.le_trans (Nat.le_trans (Nat.le_trans (Nat.le_trans (Nat.le_trans Z0 E4.1) E5.1) (Keep.of_wr W6).1) (Keep.of_wr W7).1) K8.1) K9.1) K10.1) K11.1) K12.1) E15.1) K16.1) i16_3 i16_4 f19 f20) hZ16 (hi 93 rfl) (hi 58 rfl) (by decide) (by decide)) q17a q17c (g := (mkF m 240 #[vI p1, vI p2, vI p3, vI (t0_0 p1), vI (1 : Int32), vI (t0_2 p1), vI (0 : Int32), vA b4, vA br_9, vA br_10, vA br_11, vA b2_12, vA s_EMPTY, vA s_EMPTY, vA b15, vI (0 : Int32)] [(.ref b15)])) rfl (by rw [hml]; rfl) (Steps.refl _) (argsL := []) (rest := []) (lenOf pd__28_29Z rfl) rfl (by show 2 * 0 + _ ≤ _; exact Nat.le_of_eq rfl) (hb hby at_240) (fun _ _ => ⟨rfl, rfl, (by decide : 21 + 0 ≤ _), (by decide : 198 + 0 ≤ _)⟩)
  dsimp only [Pt.U, Pt.locs, Pt.cells, Pt.slots] at X17 l17 y17 z17 st17 hQ17
  subst l17 y17 z17
  obtain ⟨rfl, N17q, e17⟩ := hQ17
  have N17 := Fr.app N16 N17q
  obtain ⟨fs, hr, hrun, hended, hw1, hw2, hw3, hw4⟩ := X17.leaveW hS16 (show _ ≤ T17.heap.size from by rw [e17]; exact (Nat.le_refl _)) (v := some (.int (1 : Int32))) (fun h => by rw [Bd.returns] at h; cases h)
  refine ⟨_, _, pre0 _ ?_, hrun, hended, _, _, rfl, ?_, hw1, hw2, hw3, hw4.mono (by decide) (by decide)⟩
  · show Steps p.tables e below (s₁.setTop (mkF m 0 #[vI p1, vI p2, vI p3, vU, vU, vU, vU, vU, vU, vU, vU, vU, vU, vU, vU, vU] [])) _
    refine XS.iloadN X0.here hx rfl (hb hby at_0) rfl ?_
    refine XS.iconst X0.here hx rfl (hb hby at_1) ?_
    refine XS.iand X0.here hx rfl (hb hby at_2) rfl ?_
    show Steps p.tables e below (s₁.setTop (mkF m 3 #[vI p1, vI p2, vI p3, vU, vU, vU, vU, vU, vU, vU, vU, vU, vU, vU, vU, vU] [(.int (p1 &&& (1 : Int32)))])) _
    have J3 : ∀ target, Steps p.tables e below (s₁.setTop (mkF m 11 #[vI p1, vI p2, vI p3, vU, vU, vU, vU, vU, vU, vU, vU, vU, vU, vU, vU, vU] [(.int (t0_0 p1))])) target → Steps p.tables e below (s₁.setTop (mkF m 3 #[vI p1, vI p2, vI p3, vU, vU, vU, vU, vU, vU, vU, vU, vU, vU, vU, vU, vU] [(.int (p1 &&& (1 : Int32)))])) target := by
      intro target kt
      by_cases hm3 : (p1 &&& (1 : Int32)) = (0 : Int32)
      · skip
        show Steps p.tables e below (s₁.setTop (mkF m 3 #[vI p1, vI p2, vI p3, vU, vU, vU, vU, vU, vU, vU, vU, vU, vU, vU, vU, vU] [(.int (p1 &&& (1 : Int32)))])) _
        refine XS.ifYes X0.here hx rfl (pc0 := 3) (pc' := 10) rfl (hb hby at_3) rfl ((if0 _ _).trans (teq hm3).1) (by decide) (by decide) ?_
        refine XS.iconst X0.here hx rfl (hb hby at_10) ?_
        rw [show (t0_0 p1) = (0 : Int32) from if_pos hm3] at kt
        exact kt
      · skip
        show Steps p.tables e below (s₁.setTop (mkF m 3 #[vI p1, vI p2, vI p3, vU, vU, vU, vU, vU, vU, vU, vU, vU, vU, vU, vU, vU] [(.int (p1 &&& (1 : Int32)))])) _
        refine XS.ifNo X0.here hx rfl (hb hby at_3) rfl ((if0 _ _).trans (feq hm3).1) ?_
        refine XS.iconst X0.here hx rfl (hb hby at_6) ?_
        show Steps p.tables e below (s₁.setTop (mkF m 7 #[vI p1, vI p2, vI p3, vU, vU, vU, vU, vU, vU, vU, vU, vU, vU, vU, vU, vU] [(.int (1 : Int32))])) _
        refine XS.goto X0.here hx rfl (pc0 := 7) (pc' := 11) rfl (hb hby at_7) (by decide) (by decide) ?_
        rw [show (t0_0 p1) = (1 : Int32) from if_neg hm3] at kt
        exact kt
    refine J3 _ ?_
    refine XS.istoreN X0.here hx rfl (hb hby at_11) rfl (l' := #[vI p1, vI p2, vI p3, vI (t0_0 p1), vU, vU, vU, vU, vU, vU, vU, vU, vU, vU, vU, vU]) rfl ?_
    refine XS.iloadN X0.here hx rfl (hb hby at_12) rfl ?_
    refine XS.iconst X0.here hx rfl (hb hby at_13) ?_
    refine XS.iand X0.here hx rfl (hb hby at_14) rfl ?_
    show Steps p.tables e below (s₁.setTop (mkF m 15 #[vI p1, vI p2, vI p3, vI (t0_0 p1), vU, vU, vU, vU, vU, vU, vU, vU, vU, vU, vU, vU] [(.int (p1 &&& (2 : Int32)))])) _
    refine XS.ifNo X0.here hx rfl (hb hby at_15) rfl ((if0 _ _).trans (feq hc15).1) ?_
    refine XS.iconst X0.here hx rfl (hb hby at_18) ?_
    show Steps p.tables e below (s₁.setTop (mkF m 19 #[vI p1, vI p2, vI p3, vI (t0_0 p1), vU, vU, vU, vU, vU, vU, vU, vU, vU, vU, vU, vU] [(.int (1 : Int32))])) _
    refine XS.goto X0.here hx rfl (pc0 := 19) (pc' := 23) rfl (hb hby at_19) (by decide) (by decide) ?_
    refine XS.istore X0.here hx rfl (hb hby at_23) rfl (l' := #[vI p1, vI p2, vI p3, vI (t0_0 p1), vI (1 : Int32), vU, vU, vU, vU, vU, vU, vU, vU, vU, vU, vU]) rfl ?_
    refine XS.iloadN X0.here hx rfl (hb hby at_25) rfl ?_
    refine XS.iconst X0.here hx rfl (hb hby at_26) ?_
    refine XS.iushr X0.here hx rfl (hb hby at_27) rfl ?_
    refine XS.iconst X0.here hx rfl (hb hby at_28) ?_
    refine XS.iand X0.here hx rfl (hb hby at_29) rfl ?_
    refine XS.iconst X0.here hx rfl (hb hby at_30) ?_
    refine XS.irem X0.here hx rfl (hb hby at_31) rfl (by decide) ?_
    refine XS.istore X0.here hx rfl (hb hby at_32) rfl (l' := #[vI p1, vI p2, vI p3, vI (t0_0 p1), vI (1 : Int32), vI (t0_2 p1), vU, vU, vU, vU, vU, vU, vU, vU, vU, vU]) rfl ?_
    refine XS.iloadN X0.here hx rfl (hb hby at_34) rfl ?_
    refine XS.bipush X0.here hx rfl (hb hby at_35) ?_
    refine XS.iand X0.here hx rfl (hb hby at_37) rfl ?_
    show Steps p.tables e below (s₁.setTop (mkF m 38 #[vI p1, vI p2, vI p3, vI (t0_0 p1), vI (1 : Int32), vI (t0_2 p1), vU, vU, vU, vU, vU, vU, vU, vU, vU, vU] [(.int (p1 &&& (16 : Int32)))])) _
    refine XS.ifYes X0.here hx rfl (pc0 := 38) (pc' := 45) rfl (hb hby at_38) rfl ((if0 _ _).trans (teq hc38).1) (by decide) (by decide) ?_
    refine XS.iconst X0.here hx rfl (hb hby at_45) ?_
    refine XS.istore X0.here hx rfl (hb hby at_46) rfl (l' := #[vI p1, vI p2, vI p3, vI (t0_0 p1), vI (1 : Int32), vI (t0_2 p1), vI (0 : Int32), vU, vU, vU, vU, vU, vU, vU, vU, vU]) rfl ?_
    show Steps p.tables e below (s₁.setTop (mkF m 48 #[vI p1, vI p2, vI p3, vI (t0_0 p1), vI (1 : Int32), vI (t0_2 p1), vI (0 : Int32), vU, vU, vU, vU, vU, vU, vU, vU, vU] [])) _
    refine st4 _ ?_
    refine XS.dup X4.here hx rfl (hb hby at_51) rfl rfl ?_
    refine XS.iconst X4.here hx rfl (hb hby at_52) ?_
    show Steps p.tables e below (T4.setTop (mkF m 53 #[vI p1, vI p2, vI p3, vI (t0_0 p1), vI (1 : Int32), vI (t0_2 p1), vI (0 : Int32), vU, vU, vU, vU, vU, vU, vU, vU, vU] [(.int (2 : Int32)), (.ref b4), (.ref b4)])) _
    refine st5 _ ?_
    refine XS.dup X5.here hx rfl (hb hby at_55) rfl rfl ?_
    refine XS.iconst X5.here hx rfl (hb hby at_56) ?_
    refine XS.iloadN X5.here hx rfl (hb hby at_57) rfl ?_
    refine XS.sipush X5.here hx rfl (hb hby at_58) ?_
    refine XS.iand X5.here hx rfl (hb hby at_61) rfl ?_
    refine XS.i2c X5.here hx rfl (hb hby at_62) rfl ?_
    show Steps p.tables e below (T5.setTop (mkF m 63 #[vI p1, vI p2, vI p3, vI (t0_0 p1), vI (1 : Int32), vI (t0_2 p1), vI (0 : Int32), vU, vU, vU, vU, vU, vU, vU, vU, vU] [(.int (t0_3 p2)), (.int (0 : Int32)), (.ref b5), (.ref b5), (.ref b4), (.ref b4)])) _
    refine st6 _ ?_
    refine XS.dup X6.here hx rfl (hb hby at_64) rfl rfl ?_
    refine XS.iconst X6.here hx rfl (hb hby at_65) ?_
    refine XS.iloadN X6.here hx rfl (hb hby at_66) rfl ?_
    refine XS.bipush X6.here hx rfl (hb hby at_67) ?_
    refine XS.iushr X6.here hx rfl (hb hby at_69) rfl ?_
    refine XS.sipush X6.here hx rfl (hb hby at_70) ?_
    refine XS.iand X6.here hx rfl (hb hby at_73) rfl ?_
    refine XS.i2c X6.here hx rfl (hb hby at_74) rfl ?_
    show Steps p.tables e below (T6.setTop (mkF m 75 #[vI p1, vI p2, vI p3, vI (t0_0 p1), vI (1 : Int32), vI (t0_2 p1), vI (0 : Int32), vU, vU, vU, vU, vU, vU, vU, vU, vU] [(.int (t0_5 p2)), (.int (1 : Int32)), (.ref b5), (.ref b5), (.ref b4), (.ref b4)])) _
    refine st7 _ ?_
    show Steps p.tables e below (T7.setTop (mkF m 76 #[vI p1, vI p2, vI p3, vI (t0_0 p1), vI (1 : Int32), vI (t0_2 p1), vI (0 : Int32), vU, vU, vU, vU, vU, vU, vU, vU, vU] [(.ref b5), (.ref b4), (.ref b4)])) _
    refine st8.trans ?_
    refine XS.astore X8.here hx rfl (hb hby at_79) rfl rfl (l' := #[vI p1, vI p2, vI p3, vI (t0_0 p1), vI (1 : Int32), vI (t0_2 p1), vI (0 : Int32), vA b4, vU, vU, vU, vU, vU, vU, vU, vU]) rfl ?_
    refine XS.iloadN X8.here hx rfl (hb hby at_81) rfl ?_
    refine XS.bipush X8.here hx rfl (hb hby at_82) ?_
    refine XS.iushr X8.here hx rfl (hb hby at_84) rfl ?_
    refine XS.sipush X8.here hx rfl (hb hby at_85) ?_
    refine XS.iand X8.here hx rfl (hb hby at_88) rfl ?_
    refine XS.i2c X8.here hx rfl (hb hby at_89) rfl ?_
    show Steps p.tables e below (T8.setTop (mkF m 90 #[vI p1, vI p2, vI p3, vI (t0_0 p1), vI (1 : Int32), vI (t0_2 p1), vI (0 : Int32), vA b4, vU, vU, vU, vU, vU, vU, vU, vU] [(.int (t0_7 p2))])) _
    refine st9 _ ?_
    refine XS.astore X9.here hx rfl (hb hby at_93) rfl rfl (l' := #[vI p1, vI p2, vI p3, vI (t0_0 p1), vI (1 : Int32), vI (t0_2 p1), vI (0 : Int32), vA b4, vA br_9, vU, vU, vU, vU, vU, vU, vU]) rfl ?_
    refine XS.iloadN X9.here hx rfl (hb hby at_95) rfl ?_
    show Steps p.tables e below (T9.setTop (mkF m 96 #[vI p1, vI p2, vI p3, vI (t0_0 p1), vI (1 : Int32), vI (t0_2 p1), vI (0 : Int32), vA b4, vA br_9, vU, vU, vU, vU, vU, vU, vU] [(.int p3)])) _
    refine st10.trans ?_
    refine XS.astore X10.here hx rfl (hb hby at_99) rfl rfl (l' := #[vI p1, vI p2, vI p3, vI (t0_0 p1), vI (1 : Int32), vI (t0_2 p1), vI (0 : Int32), vA b4, vA br_9, vA br_10, vU, vU, vU, vU, vU, vU]) rfl ?_
    refine XS.iloadN X10.here hx rfl (hb hby at_101) rfl ?_
    refine XS.bipush X10.here hx rfl (hb hby at_102) ?_
    refine XS.iushr X10.here hx rfl (hb hby at_104) rfl ?_
    show Steps p.tables e below (T10.setTop (mkF m 105 #[vI p1, vI p2, vI p3, vI (t0_0 p1), vI (1 : Int32), vI (t0_2 p1), vI (0 : Int32), vA b4, vA br_9, vA br_10, vU, vU, vU, vU, vU, vU] [(.int (t0_8 p3))])) _
    refine st11.trans ?_
    refine XS.astore X11.here hx rfl (hb hby at_108) rfl rfl (l' := #[vI p1, vI p2, vI p3, vI (t0_0 p1), vI (1 : Int32), vI (t0_2 p1), vI (0 : Int32), vA b4, vA br_9, vA br_10, vA br_11, vU, vU, vU, vU, vU]) rfl ?_
    refine XS.iload X11.here hx rfl (hb hby at_110) rfl ?_
    show Steps p.tables e below (T11.setTop (mkF m 112 #[vI p1, vI p2, vI p3, vI (t0_0 p1), vI (1 : Int32), vI (t0_2 p1), vI (0 : Int32), vA b4, vA br_9, vA br_10, vA br_11, vU, vU, vU, vU, vU] [(.int (1 : Int32))])) _
    refine XS.ifNo X11.here hx rfl (hb hby at_112) rfl ((if0 _ _).trans (feq (by decide : ¬ ((1 : Int32) = (0 : Int32)))).1) ?_
    refine XS.aload X11.here hx rfl (hb hby at_115) rfl rfl ?_
    show Steps p.tables e below (T11.setTop (mkF m 117 #[vI p1, vI p2, vI p3, vI (t0_0 p1), vI (1 : Int32), vI (t0_2 p1), vI (0 : Int32), vA b4, vA br_9, vA br_10, vA br_11, vU, vU, vU, vU, vU] [(.ref br_10)])) _
    refine st12 _ ?_
    show Steps p.tables e below (T12.setTop (mkF m 120 #[vI p1, vI p2, vI p3, vI (t0_0 p1), vI (1 : Int32), vI (t0_2 p1), vI (0 : Int32), vA b4, vA br_9, vA br_10, vA br_11, vU, vU, vU, vU, vU] [(.ref b2_12)])) _
    refine XS.goto X12.here hx rfl (pc0 := 120) (pc' := 126) rfl (hb hby at_120) (by decide) (by decide) ?_
    refine XS.astore X12.here hx rfl (hb hby at_126) rfl rfl (l' := #[vI p1, vI p2, vI p3, vI (t0_0 p1), vI (1 : Int32), vI (t0_2 p1), vI (0 : Int32), vA b4, vA br_9, vA br_10, vA br_11, vA b2_12, vU, vU, vU, vU]) rfl ?_
    refine XS.iload X12.here hx rfl (hb hby at_128) rfl ?_
    show Steps p.tables e below (T12.setTop (mkF m 130 #[vI p1, vI p2, vI p3, vI (t0_0 p1), vI (1 : Int32), vI (t0_2 p1), vI (0 : Int32), vA b4, vA br_9, vA br_10, vA br_11, vA b2_12, vU, vU, vU, vU] [(.int (t0_2 p1))])) _
    refine XS.ifNo X12.here hx rfl (hb hby at_130) rfl ((if0 _ _).trans (teq hc130).2) ?_
    show Steps p.tables e below (T12.setTop (mkF m 133 #[vI p1, vI p2, vI p3, vI (t0_0 p1), vI (1 : Int32), vI (t0_2 p1), vI (0 : Int32), vA b4, vA br_9, vA br_10, vA br_11, vA b2_12, vU, vU, vU, vU] [])) _
    refine st13 _ ?_
    refine XS.astore X13.here hx rfl (hb hby at_136) rfl rfl (l' := #[vI p1, vI p2, vI p3, vI (t0_0 p1), vI (1 : Int32), vI (t0_2 p1), vI (0 : Int32), vA b4, vA br_9, vA br_10, vA br_11, vA b2_12, vA s_EMPTY, vU, vU, vU]) rfl ?_
    show Steps p.tables e below (T13.setTop (mkF m 138 #[vI p1, vI p2, vI p3, vI (t0_0 p1), vI (1 : Int32), vI (t0_2 p1), vI (0 : Int32), vA b4, vA br_9, vA br_10, vA br_11, vA b2_12, vA s_EMPTY, vU, vU, vU] [])) _
    refine XS.goto X13.here hx rfl (pc0 := 138) (pc' := 166) rfl (hb hby at_138) (by decide) (by decide) ?_
    refine XS.iload X13.here hx rfl (hb hby at_166) rfl ?_
    show Steps p.tables e below (T13.setTop (mkF m 168 #[vI p1, vI p2, vI p3, vI (t0_0 p1), vI (1 : Int32), vI (t0_2 p1), vI (0 : Int32), vA b4, vA br_9, vA br_10, vA br_11, vA b2_12, vA s_EMPTY, vU, vU, vU] [(.int (0 : Int32))])) _
    refine XS.ifYes X13.here hx rfl (pc0 := 168) (pc' := 179) rfl (hb hby at_168) rfl ((if0 _ _).trans (teq (rfl : (0 : Int32) = (0 : Int32))).1) (by decide) (by decide) ?_
    show Steps p.tables e below (T13.setTop (mkF m 179 #[vI p1, vI p2, vI p3, vI (t0_0 p1), vI (1 : Int32), vI (t0_2 p1), vI (0 : Int32), vA b4, vA br_9, vA br_10, vA br_11, vA b2_12, vA s_EMPTY, vU, vU, vU] [])) _
    refine st14 _ ?_
    refine XS.astore X14.here hx rfl (hb hby at_182) rfl rfl (l' := #[vI p1, vI p2, vI p3, vI (t0_0 p1), vI (1 : Int32), vI (t0_2 p1), vI (0 : Int32), vA b4, vA br_9, vA br_10, vA br_11, vA b2_12, vA s_EMPTY, vA s_EMPTY, vU, vU]) rfl ?_
    show Steps p.tables e below (T14.setTop (mkF m 184 #[vI p1, vI p2, vI p3, vI (t0_0 p1), vI (1 : Int32), vI (t0_2 p1), vI (0 : Int32), vA b4, vA br_9, vA br_10, vA br_11, vA b2_12, vA s_EMPTY, vA s_EMPTY, vU, vU] [])) _
    refine st15 _ ?_
    refine XS.dup X15.here hx rfl (hb hby at_187) rfl rfl ?_
    refine XS.aload X15.here hx rfl (hb hby at_188) rfl rfl ?_
    refine XS.aload X15.here hx rfl (hb hby at_190) rfl rfl ?_
    refine XS.iloadN X15.here hx rfl (hb hby at_192) rfl ?_
    refine XS.aload X15.here hx rfl (hb hby at_193) rfl rfl ?_
    refine XS.aload X15.here hx rfl (hb hby at_195) rfl rfl ?_
    refine XS.aload X15.here hx rfl (hb hby at_197) rfl rfl ?_
    show Steps p.tables e below (T15.setTop (mkF m 199 #[vI p1, vI p2, vI p3, vI (t0_0 p1), vI (1 : Int32), vI (t0_2 p1), vI (0 : Int32), vA b4, vA br_9, vA br_10, vA br_11, vA b2_12, vA s_EMPTY, vA s_EMPTY, vU, vU] [(.ref s_EMPTY), (.ref s_EMPTY), (.ref b2_12), (.int (t0_0 p1)), (.ref br_9), (.ref b4), (.ref b15), (.ref b15)])) _
    refine st16.trans ?_
    refine XS.astore X16.here hx rfl (hb hby at_202) rfl rfl (l' := #[vI p1, vI p2, vI p3, vI (t0_0 p1), vI (1 : Int32), vI (t0_2 p1), vI (0 : Int32), vA b4, vA br_9, vA br_10, vA br_11, vA b2_12, vA s_EMPTY, vA s_EMPTY, vA b15, vU]) rfl ?_
    refine XS.iconst X16.here hx rfl (hb hby at_204) ?_
    refine XS.istore X16.here hx rfl (hb hby at_205) rfl (l' := #[vI p1, vI p2, vI p3, vI (t0_0 p1), vI (1 : Int32), vI (t0_2 p1), vI (0 : Int32), vA b4, vA br_9, vA br_10, vA br_11, vA b2_12, vA s_EMPTY, vA s_EMPTY, vA b15, vI (1 : Int32)]) rfl ?_
    refine XS.iloadN X16.here hx rfl (hb hby at_207) rfl ?_
    show Steps p.tables e below (T16.setTop (mkF m 208 #[vI p1, vI p2, vI p3, vI (t0_0 p1), vI (1 : Int32), vI (t0_2 p1), vI (0 : Int32), vA b4, vA br_9, vA br_10, vA br_11, vA b2_12, vA s_EMPTY, vA s_EMPTY, vA b15, vI (1 : Int32)] [(.int (t0_0 p1))])) _
    have J208 : ∀ target, Steps p.tables e below (T16.setTop (mkF m 214 #[vI p1, vI p2, vI p3, vI (t0_0 p1), vI (1 : Int32), vI (t0_2 p1), vI (0 : Int32), vA b4, vA br_9, vA br_10, vA br_11, vA b2_12, vA s_EMPTY, vA s_EMPTY, vA b15, vI (t0_9 p1)] [])) target → Steps p.tables e below (T16.setTop (mkF m 208 #[vI p1, vI p2, vI p3, vI (t0_0 p1), vI (1 : Int32), vI (t0_2 p1), vI (0 : Int32), vA b4, vA br_9, vA br_10, vA br_11, vA b2_12, vA s_EMPTY, vA s_EMPTY, vA b15, vI (1 : Int32)] [(.int (t0_0 p1))])) target := by
      intro target kt
      by_cases hm208 : (t0_0 p1) = (0 : Int32)
      · skip
        show Steps p.tables e below (T16.setTop (mkF m 208 #[vI p1, vI p2, vI p3, vI (t0_0 p1), vI (1 : Int32), vI (t0_2 p1), vI (0 : Int32), vA b4, vA br_9, vA br_10, vA br_11, vA b2_12, vA s_EMPTY, vA s_EMPTY, vA b15, vI (1 : Int32)] [(.int (t0_0 p1))])) _
        refine XS.ifYes X16.here hx rfl (pc0 := 208) (pc' := 214) rfl (hb hby at_208) rfl ((if0 _ _).trans (teq hm208).1) (by decide) (by decide) ?_
        rw [show (t0_9 p1) = (1 : Int32) from if_pos hm208] at kt
        exact kt
      · skip
        show Steps p.tables e below (T16.setTop (mkF m 208 #[vI p1, vI p2, vI p3, vI (t0_0 p1), vI (1 : Int32), vI (t0_2 p1), vI (0 : Int32), vA b4, vA br_9, vA br_10, vA br_11, vA b2_12, vA s_EMPTY, vA s_EMPTY, vA b15, vI (1 : Int32)] [(.int (t0_0 p1))])) _
        refine XS.ifNo X16.here hx rfl (hb hby at_208) rfl ((if0 _ _).trans (feq hm208).1) ?_
        refine XS.iconst X16.here hx rfl (hb hby at_211) ?_
        refine XS.istore X16.here hx rfl (hb hby at_212) rfl (l' := #[vI p1, vI p2, vI p3, vI (t0_0 p1), vI (1 : Int32), vI (t0_2 p1), vI (0 : Int32), vA b4, vA br_9, vA br_10, vA br_11, vA b2_12, vA s_EMPTY, vA s_EMPTY, vA b15, vI (0 : Int32)]) rfl ?_
        rw [show (t0_9 p1) = (0 : Int32) from if_neg hm208] at kt
        exact kt
    refine J208 _ ?_
    refine XS.iload X16.here hx rfl (hb hby at_214) rfl ?_
    show Steps p.tables e below (T16.setTop (mkF m 216 #[vI p1, vI p2, vI p3, vI (t0_0 p1), vI (1 : Int32), vI (t0_2 p1), vI (0 : Int32), vA b4, vA br_9, vA br_10, vA br_11, vA b2_12, vA s_EMPTY, vA s_EMPTY, vA b15, vI (t0_9 p1)] [(.int (1 : Int32))])) _
    refine XS.ifNo X16.here hx rfl (hb hby at_216) rfl ((if0 _ _).trans (feq (by decide : ¬ ((1 : Int32) = (0 : Int32)))).1) ?_
    refine XS.iconst X16.here hx rfl (hb hby at_219) ?_
    refine XS.istore X16.here hx rfl (hb hby at_220) rfl (l' := #[vI p1, vI p2, vI p3, vI (t0_0 p1), vI (1 : Int32), vI (t0_2 p1), vI (0 : Int32), vA b4, vA br_9, vA br_10, vA br_11, vA b2_12, vA s_EMPTY, vA s_EMPTY, vA b15, vI (0 : Int32)]) rfl ?_
    refine XS.iload X16.here hx rfl (hb hby at_222) rfl ?_
    show Steps p.tables e below (T16.setTop (mkF m 224 #[vI p1, vI p2, vI p3, vI (t0_0 p1), vI (1 : Int32), vI (t0_2 p1), vI (0 : Int32), vA b4, vA br_9, vA br_10, vA br_11, vA b2_12, vA s_EMPTY, vA s_EMPTY, vA b15, vI (0 : Int32)] [(.int (t0_2 p1))])) _
    refine XS.ifYes X16.here hx rfl (pc0 := 224) (pc' := 230) rfl (hb hby at_224) rfl ((if0 _ _).trans (teq hc130).1) (by decide) (by decide) ?_
    refine XS.iload X16.here hx rfl (hb hby at_230) rfl ?_
    show Steps p.tables e below (T16.setTop (mkF m 232 #[vI p1, vI p2, vI p3, vI (t0_0 p1), vI (1 : Int32), vI (t0_2 p1), vI (0 : Int32), vA b4, vA br_9, vA br_10, vA br_11, vA b2_12, vA s_EMPTY, vA s_EMPTY, vA b15, vI (0 : Int32)] [(.int (0 : Int32))])) _
    refine XS.ifYes X16.here hx rfl (pc0 := 232) (pc' := 238) rfl (hb hby at_232) rfl ((if0 _ _).trans (teq (rfl : (0 : Int32) = (0 : Int32))).1) (by decide) (by decide) ?_
    refine XS.aload X16.here hx rfl (hb hby at_238) rfl rfl ?_
    show Steps p.tables e below (T16.setTop (mkF m 240 #[vI p1, vI p2, vI p3, vI (t0_0 p1), vI (1 : Int32), vI (t0_2 p1), vI (0 : Int32), vA b4, vA br_9, vA br_10, vA br_11, vA b2_12, vA s_EMPTY, vA s_EMPTY, vA b15, vI (0 : Int32)] [(.ref b15)])) _
    refine st17.trans ?_
    refine XS.iload X17.here hx rfl (hb hby at_243) rfl ?_
    show Steps p.tables e below (T17.setTop (mkF m 245 #[vI p1, vI p2, vI p3, vI (t0_0 p1), vI (1 : Int32), vI (t0_2 p1), vI (0 : Int32), vA b4, vA br_9, vA br_10, vA br_11, vA b2_12, vA s_EMPTY, vA s_EMPTY, vA b15, vI (0 : Int32)] [(.int (0 : Int32)), (.int (0 : Int32))])) _
    refine XS.icmpNo X17.here hx rfl (hb hby at_245) rfl (teq (rfl : (0 : Int32) = (0 : Int32))).2 ?_
    refine XS.iconst X17.here hx rfl (hb hby at_248) ?_
    show Steps p.tables e below (T17.setTop (mkF m 249 #[vI p1, vI p2, vI p3, vI (t0_0 p1), vI (1 : Int32), vI (t0_2 p1), vI (0 : Int32), vA b4, vA br_9, vA br_10, vA br_11, vA b2_12, vA s_EMPTY, vA s_EMPTY, vA b15, vI (0 : Int32)] [(.int (1 : Int32))])) _
    refine XS.goto X17.here hx rfl (pc0 := 249) (pc' := 253) rfl (hb hby at_249) (by decide) (by decide) ?_
    show Steps p.tables e below (T17.setTop (mkF m 253 #[vI p1, vI p2, vI p3, vI (t0_0 p1), vI (1 : Int32), vI (t0_2 p1), vI (0 : Int32), vA b4, vA br_9, vA br_10, vA br_11, vA b2_12, vA s_EMPTY, vA s_EMPTY, vA b15, vI (0 : Int32)] [(.int (1 : Int32))])) _
    exact retN X17 hx (t := .boolean) Bd.returns (by simp) (hb hby at_253) hr
  · show Q_rm0 Z p1 p2 p3 s_COMPACT_STRINGS s_EMPTY s_ALWAYS s_BY_DEFAULT h0 n0 _ T17.heap _
    exact ⟨rfl, N17⟩
set_option maxRecDepth 65536 in
set_option maxHeartbeats 40000000 in
theorem rm0_fttf (l : Launch) (Z : State) (a0 : Array Value) (hw : ∀ d ∈ tables_1, d.before a0 Z = true) (ws : List Jvm.Cond) (p1 : Int32) (p2 : Int32) (p3 : Int32) (s_COMPACT_STRINGS : Int32) (s_EMPTY : Addr) (s_ALWAYS : Addr) (s_BY_DEFAULT : Addr) (h0 : Heap) (n0 : Nat) (Z0 : n0 ≤ h0.size) (hcs : ¬ (s_COMPACT_STRINGS = (0 : Int32))) (S_COMPACT_STRINGS : Sta Z h0 "java/lang/String" "COMPACT_STRINGS" "Z" (.int s_COMPACT_STRINGS)) (S_EMPTY : Sta Z h0 "java/util/Optional" "EMPTY" "Ljava/util/Optional;" (.ref s_EMPTY)) (S_ALWAYS : Sta Z h0 "underdeck/deck/Column$Identity" "ALWAYS" "Lunderdeck/deck/Column$Identity;" (.ref s_ALWAYS)) (S_BY_DEFAULT : Sta Z h0 "underdeck/deck/Column$Identity" "BY_DEFAULT" "Lunderdeck/deck/Column$Identity;" (.ref s_BY_DEFAULT)) (F_value_s_EMPTY : Fld Z h0 s_EMPTY "java/util/Optional" "value" "Ljava/lang/Object;" .null) (E_s_EMPTY : Exa Z h0 s_EMPTY "java/util/Optional") (hc15 : ¬ ((p1 &&& (2 : Int32)) = (0 : Int32))) (hc38 : (p1 &&& (16 : Int32)) = (0 : Int32)) (hc130 : ¬ ((t0_2 p1) = (0 : Int32))) (hc144 : (t0_2 p1) = (1 : Int32)) :
    MetFree l x (head1 (Jvm.Cond.code x code maxLocals ret :: ws) room_1) (fun a U => a = #[(.int p1), (.int p2), (.int p3)] ∧ Z.Warmed39 U.vm ∧ U.heap = h0) (fun _ _ _ _ _ => True) (fun _ U o U' => ∃ v L, o = .returned v ∧ Q_rm0 Z p1 p2 p3 s_COMPACT_STRINGS s_EMPTY s_ALWAYS s_BY_DEFAULT h0 n0 v U'.heap L ∧ ReturnedEndW U o U' L room_1.cells room_1.slots) := by
  have hi : ∀ (i : Nat) {d : Jvm.Cond}, tables_1[i]? = some d → d.before a0 Z = true := fun i d h => hw d (List.mem_of_getElem? h)
  refine MetFree.of_bodySF (plainFor_of_name pn_0) hisR ?_
  intro p e s m args below meth c s₁ Bd hml0 hP hK
  obtain ⟨rfl, hZ, hh⟩ := hP
  have hx := Bd.exec
  have hby := Bd.bytes
  have hml : c.maxLocals = 16 := hml0
  have hown : s.vm.findClass "underdeck/deck/ColumnRequiredPinLaw" = some m.cls := findClass_of_methodNamed Bd.named
  have hnm := (name_of_methodNamed Bd.named Bd.method).1
  have X0 : Stand p l e room_1 (s.setVm s.vm) m #[(.int p1), (.int p2), (.int p3)] below meth c s₁ [] 0 0 := Stand.of_body Bd
  have e0 : s₁.heap = h0 := by rw [← hh, Bd.state]; rfl
  have N0 := Fr.nil n0
  have pre0 : ∀ t, Steps p.tables e below (s₁.setTop (mkF m 0 #[vI p1, vI p2, vI p3, vU, vU, vU, vU, vU, vU, vU, vU, vU, vU, vU, vU, vU] [])) t → Steps p.tables e below (s₁.setTop (entryFrame m #[(.int p1), (.int p2), (.int p3)] maxLocals)) t := fun t k => castTop (ef_0 m p1 p2 p3) k
  have hS0 : s.Since s.vm h0.size := (State.WarmedH.refl s).since _
  obtain ⟨T4, h4, X4, e4, E4, A4, D4, -, st4⟩ := newO X0 hx hZ hown (hi 0 rfl) (hi 1 rfl) (hi 2 rfl) e0 (g := (mkF m 48 #[vI p1, vI p2, vI p3, vI (t0_0 p1), vI (1 : Int32), vI (t0_2 p1), vI (0 : Int32), vU, vU, vU, vU, vU, vU, vU, vU, vU] [])) rfl (hb hby at_48) (by decide) (by decide)
  obtain ⟨b4, g4⟩ : ∃ z, z = h0.size := ⟨_, rfl⟩
  rw [← g4] at A4 D4 st4
  have g_b4 : n0 ≤ b4 := Nat.le_trans Z0 (Nat.le_of_eq g4.symm)
  have sz_b4 : h0.size ≤ b4 := Nat.le_trans (Nat.le_refl h0.size) (Nat.le_of_eq g4.symm)
  have F_coder_b4 : Fld Z h4 b4 "java/lang/String" "coder" "B" (.int (0 : Int32)) := D4 (Or.inr (hi 27 rfl)) (ty := .byte) (by decide)
  have F_value_b4 : Fld Z h4 b4 "java/lang/String" "value" "[B" .null := D4 (Or.inr (hi 29 rfl)) (ty := (.array .byte)) (by decide)
  obtain ⟨T5, h5, k5, X5, e5, E5, A5, st5⟩ := newP X4 hx hZ (hi 3 rfl) e4 (g := (mkF m 53 #[vI p1, vI p2, vI p3, vI (t0_0 p1), vI (1 : Int32), vI (t0_2 p1), vI (0 : Int32), vU, vU, vU, vU, vU, vU, vU, vU, vU] [(.int (2 : Int32)), (.ref b4), (.ref b4)])) rfl (hb hby at_53) rfl (by decide) (cap := 2) (by decide) (by decide) (by decide) (by decide)
  obtain ⟨b5, g5⟩ : ∃ z, z = h4.size := ⟨_, rfl⟩
  rw [← g5] at A5 st5
  have g_b5 : n0 ≤ b5 := Nat.le_trans (Nat.le_trans Z0 E4.1) (Nat.le_of_eq g5.symm)
  have sz_b5 : h0.size ≤ b5 := Nat.le_trans (Nat.le_trans (Nat.le_refl h0.size) E4.1) (Nat.le_of_eq g5.symm)
  have V_b5 : Arv Z h5 b5 k5 .char (2 : Int32) [(.int (0 : Int32)), (.int (0 : Int32))] (.int (0 : Int32)) := (Arv.new A5 (by decide)).pad (pad_rep [] (.int (0 : Int32)) 2)
  obtain ⟨cl_b5_0, Ar_b5_0, q_b5_0, Sz_b5_0, Ng_b5_0, Ha_b5_0, Gt_b5_0⟩ := id V_b5
  have hin_b5_0 : ¬ ((0 : Int32) < 0 ∨ cl_b5_0.slots.size ≤ ((0 : Int32)).toNatClampNeg) := inb_of Sz_b5_0 ⟨by decide, by decide⟩
  obtain ⟨T6, h6, X6, e6, W6, st6⟩ := stC X5 hx hZ e5 Ar_b5_0 (j := (0 : Int32)) hin_b5_0 (g := (mkF m 63 #[vI p1, vI p2, vI p3, vI (t0_0 p1), vI (1 : Int32), vI (t0_2 p1), vI (0 : Int32), vU, vU, vU, vU, vU, vU, vU, vU, vU] [(.int (t0_3 p2)), (.int (0 : Int32)), (.ref b5), (.ref b5), (.ref b4), (.ref b4)])) rfl rfl (hb hby at_63)
  have V6 : Arv Z h6 b5 k5 .char (2 : Int32) [(.int (nar .char (t0_3 p2))), (.int (0 : Int32))] (.int (0 : Int32)) := Arv.set Ar_b5_0 q_b5_0 Sz_b5_0 Ng_b5_0 Ha_b5_0 Gt_b5_0 (fits_nar_char _) W6 0 rfl (Nat.le_of_ble_eq_true rfl)
  have N6 := Fr.snoc X6 N0 g_b5
  obtain ⟨cl_b5_1, Ar_b5_1, q_b5_1, Sz_b5_1, Ng_b5_1, Ha_b5_1, Gt_b5_1⟩ := id V6
  have hin_b5_1 : ¬ ((1 : Int32) < 0 ∨ cl_b5_1.slots.size ≤ ((1 : Int32)).toNatClampNeg) := inb_of Sz_b5_1 ⟨by decide, by decide⟩
  obtain ⟨T7, h7, X7, e7, W7, st7⟩ := stC X6 hx hZ e6 Ar_b5_1 (j := (1 : Int32)) hin_b5_1 (g := (mkF m 75 #[vI p1, vI p2, vI p3, vI (t0_0 p1), vI (1 : Int32), vI (t0_2 p1), vI (0 : Int32), vU, vU, vU, vU, vU, vU, vU, vU, vU] [(.int (t0_5 p2)), (.int (1 : Int32)), (.ref b5), (.ref b5), (.ref b4), (.ref b4)])) rfl rfl (hb hby at_75)
  have V7 : Arv Z h7 b5 k5 .char (2 : Int32) [(.int (nar .char (t0_3 p2))), (.int (nar .char (t0_5 p2)))] (.int (0 : Int32)) := Arv.set Ar_b5_1 q_b5_1 Sz_b5_1 Ng_b5_1 Ha_b5_1 Gt_b5_1 (fits_nar_char _) W7 1 rfl (Nat.le_of_ble_eq_true rfl)
  have N7 := Fr.snoc X7 N6 g_b5
  have f2 := ((((S_COMPACT_STRINGS.ext E4).ext E5).wr W6).wr W7)
  have f3 := (((F_coder_b4.ext E5).other W6 (Or.inl (Nat.ne_of_lt (Nat.lt_of_lt_of_le A4.lt (Nat.le_of_eq g5.symm))))).other W7 (Or.inl (Nat.ne_of_lt (Nat.lt_of_lt_of_le A4.lt (Nat.le_of_eq g5.symm)))))
  have f4 := (((F_value_b4.ext E5).other W6 (Or.inl (Nat.ne_of_lt (Nat.lt_of_lt_of_le A4.lt (Nat.le_of_eq g5.symm))))).other W7 (Or.inl (Nat.ne_of_lt (Nat.lt_of_lt_of_le A4.lt (Nat.le_of_eq g5.symm)))))
  have f5 := (((A4.ext E5).wr W6).wr W7)
  obtain ⟨_, _, ⟨T8, L8, k8, n8⟩, -, X8, ⟨Lc8, hQ8, l8, y8, z8⟩, st8⟩ := X7.specialBack hx (y := (⟨"java/lang/String", "<init>", "([C)V"⟩ : MethodName)) rfl hown (mvT hZ (hi 4 rfl)) (mvT hZ (hi 5 rfl)) (mvT hZ (hi 6 rfl)) (by decide) (backOf (W := 1) (rm1 l Z a0 hw [] b4 b5 s_COMPACT_STRINGS (0 : Int32) .null k5 (nar .char (t0_3 p2)) (nar .char (t0_5 p2)) h7 n0 (Nat.le_trans (Nat.le_trans (Nat.le_trans (Nat.le_trans Z0 E4.1) E5.1) (Keep.of_wr W6).1) (Keep.of_wr W7).1) f2 f3 f4 f5 g_b4 V7 hcs (own_le255 _ (own_cc _ (own_cc _ (own_m255 _)))) (own_le255 _ (own_cc _ (own_cc _ (own_m255 _))))) hZ (hi 6 rfl) (hi 2 rfl) (by decide) (by decide)) (g := (mkF m 76 #[vI p1, vI p2, vI p3, vI (t0_0 p1), vI (1 : Int32), vI (t0_2 p1), vI (0 : Int32), vU, vU, vU, vU, vU, vU, vU, vU, vU] [(.ref b5), (.ref b4), (.ref b4)])) rfl (by rw [hml]; rfl) (Steps.refl _) (a := b4) (argsL := [(.ref b5)]) (rest := [(.ref b4)]) (lenOf pd__28_5bC_29V rfl) rfl (by show 2 * 0 + _ ≤ _; exact Nat.le_of_eq rfl) (hb hby at_76) (fun _ _ => ⟨rfl, e7, (by decide : 2 + 1 ≤ _), (by decide : 6 + 2 ≤ _)⟩)
  dsimp only [Pt.U, Pt.locs, Pt.cells, Pt.slots] at X8 l8 y8 z8 st8 hQ8
  subst l8 y8 z8
  obtain ⟨rfl, N8q, K8, i8_0, i8_1⟩ := hQ8
  have N8 := Fr.app N7 N8q
  have f6 := (own_sta_keep f2 K8 (own_qc (own_nst f5) own_q0))
  obtain ⟨_, _, ⟨T9, L9, k9, n9⟩, -, X9, ⟨Lc9, hQ9, l9, y9, z9⟩, st9⟩ := Jvm.LawKit.callS X8 hx (y := (⟨"java/lang/String", "valueOf", "(C)Ljava/lang/String;"⟩ : MethodName)) hown (mvT hZ (hi 30 rfl)) (mvT hZ (hi 31 rfl)) (mvT hZ (hi 2 rfl)) (mvT hZ (hi 32 rfl)) (by decide) (backOf (W := 0) (rm7 l Z a0 hw [] (t0_7 p2) s_COMPACT_STRINGS T8.heap n0 (Nat.le_trans (Nat.le_trans (Nat.le_trans (Nat.le_trans (Nat.le_trans Z0 E4.1) E5.1) (Keep.of_wr W6).1) (Keep.of_wr W7).1) K8.1) f6 hcs (own_F8 _ (own_cc _ (own_m255 _)))) hZ (hi 32 rfl) (hi 2 rfl) (by decide) (by decide)) (g := (mkF m 90 #[vI p1, vI p2, vI p3, vI (t0_0 p1), vI (1 : Int32), vI (t0_2 p1), vI (0 : Int32), vA b4, vU, vU, vU, vU, vU, vU, vU, vU] [(.int (t0_7 p2))])) rfl (by rw [hml]; rfl) (argsL := [(.int (t0_7 p2))]) (rest := []) (lenOf pd__28C_29Ljava_2flang_2fString_3b rfl) rfl (by show 2 * 0 + _ ≤ _; exact Nat.le_of_eq rfl) (hb hby at_90) (fun _ _ => ⟨rfl, rfl, (by decide : 3 + 2 ≤ _), (by decide : 8 + 5 ≤ _)⟩)
  dsimp only [Pt.U, Pt.locs, Pt.cells, Pt.slots] at X9 l9 y9 z9 st9 hQ9
  subst l9 y9 z9
  obtain ⟨br_9, ⟨rfl, N9q, K9⟩⟩ := hQ9
  have N9 := Fr.app N8 N9q
  have f7 := (V7.keep K8 (own_nm (Ne.symm (Nat.ne_of_lt (Nat.lt_of_lt_of_le A4.lt (Nat.le_of_eq g5.symm)))) own_n0))
  have f8 := (own_sta_keep f6 K9 own_q0)
  obtain ⟨_, _, ⟨T10, L10, k10, n10⟩, -, X10w, hS10w, hg10, ⟨Lc10, hQ10, l10, y10, z10⟩, st10⟩ := Jvm.RoadKit.callSS X9 hx (y := (⟨"underdeck/deck/ColumnRequiredPinLaw", "drawn", "(I)Ljava/lang/String;"⟩ : MethodName)) hown (mvT hZ (hi 44 rfl)) (mvT hZ (hi 45 rfl)) (mvT hZ (hi 46 rfl)) (mvT hZ (hi 47 rfl)) (by decide) (backOfS (W := 0) (rm11 l Z a0 hw [] p3 s_COMPACT_STRINGS T9.heap n0 (Nat.le_trans (Nat.le_trans (Nat.le_trans (Nat.le_trans (Nat.le_trans (Nat.le_trans Z0 E4.1) E5.1) (Keep.of_wr W6).1) (Keep.of_wr W7).1) K8.1) K9.1) f8 hcs) hZ (hi 47 rfl) (hi 46 rfl) (by decide) (by decide)) (g := (mkF m 96 #[vI p1, vI p2, vI p3, vI (t0_0 p1), vI (1 : Int32), vI (t0_2 p1), vI (0 : Int32), vA b4, vA br_9, vU, vU, vU, vU, vU, vU, vU] [(.int p3)])) rfl (by rw [hml]; rfl) (argsL := [(.int p3)]) (rest := []) (lenOf pd__28I_29Ljava_2flang_2fString_3b rfl) rfl (by show 2 * 0 + _ ≤ _; exact Nat.le_of_eq rfl) (hb hby at_96) (fun _ _ => ⟨rfl, rfl, (by decide : 5 + 2 ≤ _), (by decide : 13 + 5 ≤ _)⟩)
  dsimp only [Pt.U, Pt.locs, Pt.cells, Pt.slots] at X10w hS10w hg10 l10 y10 z10 st10 hQ10
  subst l10 y10 z10
  obtain ⟨X10, hS10, hZ10, hown10⟩ := rebS hS0 (show _ ≤ T9.heap.size from by exact (Nat.le_trans (Nat.le_trans (Nat.le_trans (Nat.le_trans (Nat.le_trans (Nat.le_trans (Nat.le_refl h0.size) E4.1) E5.1) (Keep.of_wr W6).1) (Keep.of_wr W7).1) K8.1) K9.1)) X10w hS10w hg10 hZ hown
  obtain ⟨br_10, ⟨rfl, N10q, K10⟩⟩ := hQ10
  have N10 := Fr.app N9 N10q
  have f9 := (i8_0.keep K9)
  have f10 := (f7.keep K9 own_n0)
  have f11 := (own_sta_keep f8 K10 own_q0)
  obtain ⟨_, _, ⟨T11, L11, k11, n11⟩, -, X11w, hS11w, hg11, ⟨Lc11, hQ11, l11, y11, z11⟩, st11⟩ := Jvm.RoadKit.callSS X10 hx (y := (⟨"underdeck/deck/ColumnRequiredPinLaw", "drawn", "(I)Ljava/lang/String;"⟩ : MethodName)) hown10 (mvT hZ10 (hi 44 rfl)) (mvT hZ10 (hi 45 rfl)) (mvT hZ10 (hi 46 rfl)) (mvT hZ10 (hi 47 rfl)) (by decide) (backOfS (W := 0) (rm11 l Z a0 hw [] (t0_8 p3) s_COMPACT_STRINGS T10.heap n0 (Nat.le_trans (Nat.le_trans (Nat.le_trans (Nat.le_trans (Nat.le_trans (Nat.le_trans (Nat.le_trans Z0 E4.1) E5.1) (Keep.of_wr W6).1) (Keep.of_wr W7).1) K8.1) K9.1) K10.1) f11 hcs) hZ10 (hi 47 rfl) (hi 46 rfl) (by decide) (by decide)) (g := (mkF m 105 #[vI p1, vI p2, vI p3, vI (t0_0 p1), vI (1 : Int32), vI (t0_2 p1), vI (0 : Int32), vA b4, vA br_9, vA br_10, vU, vU, vU, vU, vU, vU] [(.int (t0_8 p3))])) rfl (by rw [hml]; rfl) (argsL := [(.int (t0_8 p3))]) (rest := []) (lenOf pd__28I_29Ljava_2flang_2fString_3b rfl) rfl (by show 2 * 0 + _ ≤ _; exact Nat.le_of_eq rfl) (hb hby at_105) (fun _ _ => ⟨rfl, rfl, (by decide : 7 + 2 ≤ _), (by decide : 18 + 5 ≤ _)⟩)
  dsimp only [Pt.U, Pt.locs, Pt.cells, Pt.slots] at X11w hS11w hg11 l11 y11 z11 st11 hQ11
  subst l11 y11 z11
  obtain ⟨X11, hS11, hZ11, hown11⟩ := rebS hS10 (show _ ≤ T10.heap.size from by exact (Nat.le_refl _)) X11w hS11w hg11 hZ10 hown10
  obtain ⟨br_11, ⟨rfl, N11q, K11⟩⟩ := hQ11
  have N11 := Fr.app N10 N11q
  have f12 := (f9.keep K10)
  have f13 := (f10.keep K10 own_n0)
  obtain ⟨_, _, ⟨T12, L12, k12, n12⟩, -, X12, ⟨Lc12, hQ12, l12, y12, z12⟩, st12⟩ := Jvm.LawKit.callS X11 hx (y := (⟨"java/util/Optional", "of", "(Ljava/lang/Object;)Ljava/util/Optional;"⟩ : MethodName)) hown11 (mvT hZ11 (hi 104 rfl)) (mvT hZ11 (hi 105 rfl)) (mvT hZ11 (hi 53 rfl)) (mvT hZ11 (hi 106 rfl)) (by decide) (backOf (W := 0) (rm18 l Z a0 hw [] br_10 T11.heap n0 (Nat.le_trans (Nat.le_trans (Nat.le_trans (Nat.le_trans (Nat.le_trans (Nat.le_trans (Nat.le_trans (Nat.le_trans Z0 E4.1) E5.1) (Keep.of_wr W6).1) (Keep.of_wr W7).1) K8.1) K9.1) K10.1) K11.1) ) hZ11 (hi 106 rfl) (hi 53 rfl) (by decide) (by decide)) (g := (mkF m 117 #[vI p1, vI p2, vI p3, vI (t0_0 p1), vI (1 : Int32), vI (t0_2 p1), vI (0 : Int32), vA b4, vA br_9, vA br_10, vA br_11, vU, vU, vU, vU, vU] [(.ref br_10)])) rfl (by rw [hml]; rfl) (argsL := [(.ref br_10)]) (rest := []) (lenOf pd__28Ljava_2flang_2fObject_3b_29Ljava_2futil_2fOptional_3b rfl) rfl (by show 2 * 0 + _ ≤ _; exact Nat.le_of_eq rfl) (hb hby at_117) (fun _ _ => ⟨rfl, rfl, (by decide : 9 + 1 ≤ _), (by decide : 23 + 1 ≤ _)⟩)
  dsimp only [Pt.U, Pt.locs, Pt.cells, Pt.slots] at X12 l12 y12 z12 st12 hQ12
  subst l12 y12 z12
  obtain ⟨b2_12, ⟨rfl, N12q, K12, i12_0, i12_1, i12_2⟩⟩ := hQ12
  have N12 := Fr.app N11 N12q
  have f14 := (f12.keep K11)
  have f15 := (f13.keep K11 own_n0)
  have sz_b2_12 : h0.size ≤ b2_12 := Nat.le_trans (Nat.le_trans (Nat.le_trans (Nat.le_trans (Nat.le_trans (Nat.le_trans (Nat.le_trans (Nat.le_trans (Nat.le_trans (Nat.le_refl h0.size) E4.1) E5.1) (Keep.of_wr W6).1) (Keep.of_wr W7).1) K8.1) K9.1) K10.1) K11.1) i12_0
  have g_b2_12 : n0 ≤ b2_12 := Nat.le_trans Z0 sz_b2_12
  have f16 := (own_sta_keep (own_sta_keep (own_sta_keep (own_sta_keep (own_sta_keep ((((S_ALWAYS.ext E4).ext E5).wr W6).wr W7) K8 (own_qc (own_nst f5) own_q0)) K9 own_q0) K10 own_q0) K11 own_q0) K12 own_q0)
  obtain ⟨T13, X13, e13, st13⟩ := getS2 X12 hx hZ11 hown11 (host := "") (Or.inl (hi 101 rfl)) Via.refl rfl f16 (g := (mkF m 147 #[vI p1, vI p2, vI p3, vI (t0_0 p1), vI (1 : Int32), vI (t0_2 p1), vI (0 : Int32), vA b4, vA br_9, vA br_10, vA br_11, vA b2_12, vU, vU, vU, vU] [])) rfl (hb hby at_147)
  obtain ⟨_, _, ⟨T14, L14, k14, n14⟩, -, X14, ⟨Lc14, hQ14, l14, y14, z14⟩, st14⟩ := Jvm.LawKit.callS X13 hx (y := (⟨"java/util/Optional", "of", "(Ljava/lang/Object;)Ljava/util/Optional;"⟩ : MethodName)) hown11 (mvT hZ11 (hi 104 rfl)) (mvT hZ11 (hi 105 rfl)) (mvT hZ11 (hi 53 rfl)) (mvT hZ11 (hi 106 rfl)) (by decide) (backOf (W := 0) (rm18 l Z a0 hw [] s_ALWAYS T12.heap n0 (Nat.le_trans (Nat.le_trans (Nat.le_trans (Nat.le_trans (Nat.le_trans (Nat.le_trans (Nat.le_trans (Nat.le_trans (Nat.le_trans Z0 E4.1) E5.1) (Keep.of_wr W6).1) (Keep.of_wr W7).1) K8.1) K9.1) K10.1) K11.1) K12.1) ) hZ11 (hi 106 rfl) (hi 53 rfl) (by decide) (by decide)) (g := (mkF m 150 #[vI p1, vI p2, vI p3, vI (t0_0 p1), vI (1 : Int32), vI (t0_2 p1), vI (0 : Int32), vA b4, vA br_9, vA br_10, vA br_11, vA b2_12, vU, vU, vU, vU] [(.ref s_ALWAYS)])) rfl (by rw [hml]; rfl) (argsL := [(.ref s_ALWAYS)]) (rest := []) (lenOf pd__28Ljava_2flang_2fObject_3b_29Ljava_2futil_2fOptional_3b rfl) rfl (by show 2 * 0 + _ ≤ _; exact Nat.le_of_eq rfl) (hb hby at_150) (fun _ _ => ⟨rfl, e13, (by decide : 10 + 1 ≤ _), (by decide : 24 + 1 ≤ _)⟩)
  dsimp only [Pt.U, Pt.locs, Pt.cells, Pt.slots] at X14 l14 y14 z14 st14 hQ14
  subst l14 y14 z14
  obtain ⟨b2_14, ⟨rfl, N14q, K14, i14_0, i14_1, i14_2⟩⟩ := hQ14
  have N14 := Fr.app N12 N14q
  have f17 := (f14.keep K12)
  have f18 := (f15.keep K12 own_n0)
  have sz_b2_14 : h0.size ≤ b2_14 := Nat.le_trans (Nat.le_trans (Nat.le_trans (Nat.le_trans (Nat.le_trans (Nat.le_trans (Nat.le_trans (Nat.le_trans (Nat.le_trans (Nat.le_trans (Nat.le_refl h0.size) E4.1) E5.1) (Keep.of_wr W6).1) (Keep.of_wr W7).1) K8.1) K9.1) K10.1) K11.1) K12.1) i14_0
  have g_b2_14 : n0 ≤ b2_14 := Nat.le_trans Z0 sz_b2_14
  have f19 := (own_sta_keep (own_sta_keep (own_sta_keep (own_sta_keep (own_sta_keep (own_sta_keep ((((S_EMPTY.ext E4).ext E5).wr W6).wr W7) K8 (own_qc (own_nst f5) own_q0)) K9 own_q0) K10 own_q0) K11 own_q0) K12 own_q0) K14 own_q0)
  obtain ⟨_, _, ⟨T15, L15, k15, n15⟩, -, X15, ⟨Lc15, hQ15, l15, y15, z15⟩, st15⟩ := Jvm.LawKit.callS X14 hx (y := (⟨"java/util/Optional", "empty", "()Ljava/util/Optional;"⟩ : MethodName)) hown11 (mvT hZ11 (hi 51 rfl)) (mvT hZ11 (hi 52 rfl)) (mvT hZ11 (hi 53 rfl)) (mvT hZ11 (hi 54 rfl)) (by decide) (backOf (W := 0) (rm12 l Z a0 hw [] s_EMPTY T14.heap n0 (Nat.le_trans (Nat.le_trans (Nat.le_trans (Nat.le_trans (Nat.le_trans (Nat.le_trans (Nat.le_trans (Nat.le_trans (Nat.le_trans (Nat.le_trans Z0 E4.1) E5.1) (Keep.of_wr W6).1) (Keep.of_wr W7).1) K8.1) K9.1) K10.1) K11.1) K12.1) K14.1) f19) hZ11 (hi 54 rfl) (hi 53 rfl) (by decide) (by decide)) (g := (mkF m 179 #[vI p1, vI p2, vI p3, vI (t0_0 p1), vI (1 : Int32), vI (t0_2 p1), vI (0 : Int32), vA b4, vA br_9, vA br_10, vA br_11, vA b2_12, vA b2_14, vU, vU, vU] [])) rfl (by rw [hml]; rfl) (argsL := []) (rest := []) (lenOf pd__28_29Ljava_2futil_2fOptional_3b rfl) rfl (by show 2 * 0 + _ ≤ _; exact Nat.le_of_eq rfl) (hb hby at_179) (fun _ _ => ⟨rfl, rfl, (by decide : 11 + 0 ≤ _), (by decide : 25 + 0 ≤ _)⟩)
  dsimp only [Pt.U, Pt.locs, Pt.cells, Pt.slots] at X15 l15 y15 z15 st15 hQ15
  subst l15 y15 z15
  obtain ⟨rfl, N15q, e15⟩ := hQ15
  have N15 := Fr.app N14 N15q
  have f20 := (f17.keep K14)
  have f21 := (f18.keep K14 own_n0)
  have f22 := (i12_1.keep K14)
  obtain ⟨T16, h16, X16, e16, E16, A16, D16, -, st16⟩ := newO X15 hx hZ11 hown11 (hi 56 rfl) (hi 57 rfl) (hi 58 rfl) e15 (g := (mkF m 184 #[vI p1, vI p2, vI p3, vI (t0_0 p1), vI (1 : Int32), vI (t0_2 p1), vI (0 : Int32), vA b4, vA br_9, vA br_10, vA br_11, vA b2_12, vA b2_14, vA s_EMPTY, vU, vU] [])) rfl (hb hby at_184) (by decide) (by decide)
  obtain ⟨b16, g16⟩ : ∃ z, z = T14.heap.size := ⟨_, rfl⟩
  rw [← g16] at A16 D16 st16
  have g_b16 : n0 ≤ b16 := Nat.le_trans (Nat.le_trans (Nat.le_trans (Nat.le_trans (Nat.le_trans (Nat.le_trans (Nat.le_trans (Nat.le_trans (Nat.le_trans (Nat.le_trans (Nat.le_trans Z0 E4.1) E5.1) (Keep.of_wr W6).1) (Keep.of_wr W7).1) K8.1) K9.1) K10.1) K11.1) K12.1) K14.1) (Nat.le_of_eq g16.symm)
  have sz_b16 : h0.size ≤ b16 := Nat.le_trans (Nat.le_trans (Nat.le_trans (Nat.le_trans (Nat.le_trans (Nat.le_trans (Nat.le_trans (Nat.le_trans (Nat.le_trans (Nat.le_trans (Nat.le_trans (Nat.le_refl h0.size) E4.1) E5.1) (Keep.of_wr W6).1) (Keep.of_wr W7).1) K8.1) K9.1) K10.1) K11.1) K12.1) K14.1) (Nat.le_of_eq g16.symm)
  have F_name_b16 : Fld Z h16 b16 "underdeck/deck/Column" "name" "Ljava/lang/String;" .null := D16 (Or.inr (hi 78 rfl)) (ty := (.object "java/lang/String")) (by decide)
  have F_type_b16 : Fld Z h16 b16 "underdeck/deck/Column" "type" "Ljava/lang/String;" .null := D16 (Or.inr (hi 80 rfl)) (ty := (.object "java/lang/String")) (by decide)
  have F_nullable_b16 : Fld Z h16 b16 "underdeck/deck/Column" "nullable" "Z" (.int (0 : Int32)) := D16 (Or.inr (hi 82 rfl)) (ty := .boolean) (by decide)
  have F_defaultValue_b16 : Fld Z h16 b16 "underdeck/deck/Column" "defaultValue" "Ljava/util/Optional;" .null := D16 (Or.inr (hi 84 rfl)) (ty := (.object "java/util/Optional")) (by decide)
  have F_identity_b16 : Fld Z h16 b16 "underdeck/deck/Column" "identity" "Ljava/util/Optional;" .null := D16 (Or.inr (hi 86 rfl)) (ty := (.object "java/util/Optional")) (by decide)
  have F_generated_b16 : Fld Z h16 b16 "underdeck/deck/Column" "generated" "Ljava/util/Optional;" .null := D16 (Or.inr (hi 88 rfl)) (ty := (.object "java/util/Optional")) (by decide)
  obtain ⟨_, _, ⟨T17, L17, k17, n17⟩, -, X17w, hS17w, hg17, ⟨Lc17, hQ17, l17, y17, z17⟩, st17⟩ := X16.specialBackS hx (y := (⟨"underdeck/deck/Column", "<init>", "(Ljava/lang/String;Ljava/lang/String;ZLjava/util/Optional;Ljava/util/Optional;Ljava/util/Optional;)V"⟩ : MethodName)) rfl hown11 (mvT hZ11 (hi 59 rfl)) (mvT hZ11 (hi 60 rfl)) (mvT hZ11 (hi 61 rfl)) (by decide) (backOfS (W := 1) (rm13 l Z a0 hw [] b16 b4 br_9 (t0_0 p1) b2_12 b2_14 s_EMPTY .null .null (0 : Int32) .null .null .null h16 n0 (Nat.le_trans (Nat.le_trans (Nat.le_trans (Nat.le_trans (Nat.le_trans (Nat.le_trans (Nat.le_trans (Nat.le_trans (Nat.le_trans (Nat.le_trans (Nat.le_trans Z0 E4.1) E5.1) (Keep.of_wr W6).1) (Keep.of_wr W7).1) K8.1) K9.1) K10.1) K11.1) K12.1) K14.1) E16.1) A16 F_name_b16 g_b16 F_type_b16 F_nullable_b16 F_defaultValue_b16 F_identity_b16 F_generated_b16) hZ11 (hi 61 rfl) (hi 58 rfl) (by decide) (by decide)) (g := (mkF m 199 #[vI p1, vI p2, vI p3, vI (t0_0 p1), vI (1 : Int32), vI (t0_2 p1), vI (0 : Int32), vA b4, vA br_9, vA br_10, vA br_11, vA b2_12, vA b2_14, vA s_EMPTY, vU, vU] [(.ref s_EMPTY), (.ref b2_14), (.ref b2_12), (.int (t0_0 p1)), (.ref br_9), (.ref b4), (.ref b16), (.ref b16)])) rfl (by rw [hml]; rfl) (Steps.refl _) (a := b16) (argsL := [(.ref b4), (.ref br_9), (.int (t0_0 p1)), (.ref b2_12), (.ref b2_14), (.ref s_EMPTY)]) (rest := [(.ref b16)]) (lenOf pd__28Ljava_2flang_2fString_3bLjava_2flang_2fString_3bZLjava_2futil_2fOptional_3bLjava_2futil_2fOptional_3bLjava_2futil_2fOptional_3b_29V rfl) rfl (by show 2 * 0 + _ ≤ _; exact Nat.le_of_eq rfl) (hb hby at_199) (fun _ _ => ⟨rfl, e16, (by decide : 12 + 10 ≤ _), (by decide : 31 + 168 ≤ _)⟩)
  dsimp only [Pt.U, Pt.locs, Pt.cells, Pt.slots] at X17w hS17w hg17 l17 y17 z17 st17 hQ17
  subst l17 y17 z17
  obtain ⟨X17, hS17, hZ17, hown17⟩ := rebS hS11 (show _ ≤ T16.heap.size from by rw [e16]; exact (Nat.le_trans (Nat.le_trans (Nat.le_trans (Nat.le_refl _) K12.1) K14.1) E16.1)) X17w hS17w hg17 hZ11 hown11
  obtain ⟨rfl, N17q, K17, i17_0, i17_1, i17_2, i17_3, i17_4, i17_5, i17_6⟩ := hQ17
  have N17 := Fr.app N15 N17q
  have f23 := (((i12_2.keep K14 own_n0).ext E16).keep K17 (own_nm (Nat.ne_of_lt (Nat.lt_of_lt_of_le f22.lt (Nat.le_of_eq g16.symm))) own_n0))
  have f24 := ((f22.ext E16).keep K17)
  obtain ⟨cq18, kq18, q18a, q18b, q18c⟩ := isOf hZ17 rfl i17_0
  obtain ⟨_, _, ⟨T18, L18, k18, n18⟩, -, X18, ⟨Lc18, hQ18, l18, y18, z18⟩, st18⟩ := X17.virtualBack hx (y := (⟨"underdeck/deck/Column", "required", "()Z"⟩ : MethodName)) (z := (⟨"underdeck/deck/Column", "required", "()Z"⟩ : MethodName)) hown17 (mvT hZ17 (hi 89 rfl)) (mvT hZ17 (hi 90 rfl)) (notFace_of_selects (args := #[]) (mvT hZ17 (hi 92 rfl))) (mvT hZ17 (hi 92 rfl)) (mvT hZ17 (hi 91 rfl)) (by decide) (backOf (W := 0) (rm16v l Z a0 hw [] b16 (nar .boolean (t0_0 p1)) b2_12 br_10 T17.heap n0 (Nat.le_trans (Nat.le_trans (Nat.le_trans (Nat.le_trans (Nat.le_trans (Nat.le_trans (Nat.le_trans (Nat.le_trans (Nat.le_trans (Nat.le_trans (Nat.le_trans (Nat.le_trans Z0 E4.1) E5.1) (Keep.of_wr W6).1) (Keep.of_wr W7).1) K8.1) K9.1) K10.1) K11.1) K12.1) K14.1) E16.1) K17.1) i17_3 i17_4 f23 f24) hZ17 (hi 93 rfl) (hi 58 rfl) (by decide) (by decide)) q18a q18c (g := (mkF m 240 #[vI p1, vI p2, vI p3, vI (t0_0 p1), vI (1 : Int32), vI (t0_2 p1), vI (0 : Int32), vA b4, vA br_9, vA br_10, vA br_11, vA b2_12, vA b2_14, vA s_EMPTY, vA b16, vI (0 : Int32)] [(.ref b16)])) rfl (by rw [hml]; rfl) (Steps.refl _) (argsL := []) (rest := []) (lenOf pd__28_29Z rfl) rfl (by show 2 * 0 + _ ≤ _; exact Nat.le_of_eq rfl) (hb hby at_240) (fun _ _ => ⟨rfl, rfl, (by decide : 22 + 0 ≤ _), (by decide : 199 + 0 ≤ _)⟩)
  dsimp only [Pt.U, Pt.locs, Pt.cells, Pt.slots] at X18 l18 y18 z18 st18 hQ18
  subst l18 y18 z18
  obtain ⟨rfl, N18q, e18⟩ := hQ18
  have N18 := Fr.app N17 N18q
  obtain ⟨fs, hr, hrun, hended, hw1, hw2, hw3, hw4⟩ := X18.leaveW hS17 (show _ ≤ T18.heap.size from by rw [e18]; exact (Nat.le_refl _)) (v := some (.int (1 : Int32))) (fun h => by rw [Bd.returns] at h; cases h)
  refine ⟨_, _, pre0 _ ?_, hrun, hended, _, _, rfl, ?_, hw1, hw2, hw3, hw4.mono (by decide) (by decide)⟩
  · show Steps p.tables e below (s₁.setTop (mkF m 0 #[vI p1, vI p2, vI p3, vU, vU, vU, vU, vU, vU, vU, vU, vU, vU, vU, vU, vU] [])) _
    refine XS.iloadN X0.here hx rfl (hb hby at_0) rfl ?_
    refine XS.iconst X0.here hx rfl (hb hby at_1) ?_
    refine XS.iand X0.here hx rfl (hb hby at_2) rfl ?_
    show Steps p.tables e below (s₁.setTop (mkF m 3 #[vI p1, vI p2, vI p3, vU, vU, vU, vU, vU, vU, vU, vU, vU, vU, vU, vU, vU] [(.int (p1 &&& (1 : Int32)))])) _
    have J3 : ∀ target, Steps p.tables e below (s₁.setTop (mkF m 11 #[vI p1, vI p2, vI p3, vU, vU, vU, vU, vU, vU, vU, vU, vU, vU, vU, vU, vU] [(.int (t0_0 p1))])) target → Steps p.tables e below (s₁.setTop (mkF m 3 #[vI p1, vI p2, vI p3, vU, vU, vU, vU, vU, vU, vU, vU, vU, vU, vU, vU, vU] [(.int (p1 &&& (1 : Int32)))])) target := by
      intro target kt
      by_cases hm3 : (p1 &&& (1 : Int32)) = (0 : Int32)
      · skip
        show Steps p.tables e below (s₁.setTop (mkF m 3 #[vI p1, vI p2, vI p3, vU, vU, vU, vU, vU, vU, vU, vU, vU, vU, vU, vU, vU] [(.int (p1 &&& (1 : Int32)))])) _
        refine XS.ifYes X0.here hx rfl (pc0 := 3) (pc' := 10) rfl (hb hby at_3) rfl ((if0 _ _).trans (teq hm3).1) (by decide) (by decide) ?_
        refine XS.iconst X0.here hx rfl (hb hby at_10) ?_
        rw [show (t0_0 p1) = (0 : Int32) from if_pos hm3] at kt
        exact kt
      · skip
        show Steps p.tables e below (s₁.setTop (mkF m 3 #[vI p1, vI p2, vI p3, vU, vU, vU, vU, vU, vU, vU, vU, vU, vU, vU, vU, vU] [(.int (p1 &&& (1 : Int32)))])) _
        refine XS.ifNo X0.here hx rfl (hb hby at_3) rfl ((if0 _ _).trans (feq hm3).1) ?_
        refine XS.iconst X0.here hx rfl (hb hby at_6) ?_
        show Steps p.tables e below (s₁.setTop (mkF m 7 #[vI p1, vI p2, vI p3, vU, vU, vU, vU, vU, vU, vU, vU, vU, vU, vU, vU, vU] [(.int (1 : Int32))])) _
        refine XS.goto X0.here hx rfl (pc0 := 7) (pc' := 11) rfl (hb hby at_7) (by decide) (by decide) ?_
        rw [show (t0_0 p1) = (1 : Int32) from if_neg hm3] at kt
        exact kt
    refine J3 _ ?_
    refine XS.istoreN X0.here hx rfl (hb hby at_11) rfl (l' := #[vI p1, vI p2, vI p3, vI (t0_0 p1), vU, vU, vU, vU, vU, vU, vU, vU, vU, vU, vU, vU]) rfl ?_
    refine XS.iloadN X0.here hx rfl (hb hby at_12) rfl ?_
    refine XS.iconst X0.here hx rfl (hb hby at_13) ?_
    refine XS.iand X0.here hx rfl (hb hby at_14) rfl ?_
    show Steps p.tables e below (s₁.setTop (mkF m 15 #[vI p1, vI p2, vI p3, vI (t0_0 p1), vU, vU, vU, vU, vU, vU, vU, vU, vU, vU, vU, vU] [(.int (p1 &&& (2 : Int32)))])) _
    refine XS.ifNo X0.here hx rfl (hb hby at_15) rfl ((if0 _ _).trans (feq hc15).1) ?_
    refine XS.iconst X0.here hx rfl (hb hby at_18) ?_
    show Steps p.tables e below (s₁.setTop (mkF m 19 #[vI p1, vI p2, vI p3, vI (t0_0 p1), vU, vU, vU, vU, vU, vU, vU, vU, vU, vU, vU, vU] [(.int (1 : Int32))])) _
    refine XS.goto X0.here hx rfl (pc0 := 19) (pc' := 23) rfl (hb hby at_19) (by decide) (by decide) ?_
    refine XS.istore X0.here hx rfl (hb hby at_23) rfl (l' := #[vI p1, vI p2, vI p3, vI (t0_0 p1), vI (1 : Int32), vU, vU, vU, vU, vU, vU, vU, vU, vU, vU, vU]) rfl ?_
    refine XS.iloadN X0.here hx rfl (hb hby at_25) rfl ?_
    refine XS.iconst X0.here hx rfl (hb hby at_26) ?_
    refine XS.iushr X0.here hx rfl (hb hby at_27) rfl ?_
    refine XS.iconst X0.here hx rfl (hb hby at_28) ?_
    refine XS.iand X0.here hx rfl (hb hby at_29) rfl ?_
    refine XS.iconst X0.here hx rfl (hb hby at_30) ?_
    refine XS.irem X0.here hx rfl (hb hby at_31) rfl (by decide) ?_
    refine XS.istore X0.here hx rfl (hb hby at_32) rfl (l' := #[vI p1, vI p2, vI p3, vI (t0_0 p1), vI (1 : Int32), vI (t0_2 p1), vU, vU, vU, vU, vU, vU, vU, vU, vU, vU]) rfl ?_
    refine XS.iloadN X0.here hx rfl (hb hby at_34) rfl ?_
    refine XS.bipush X0.here hx rfl (hb hby at_35) ?_
    refine XS.iand X0.here hx rfl (hb hby at_37) rfl ?_
    show Steps p.tables e below (s₁.setTop (mkF m 38 #[vI p1, vI p2, vI p3, vI (t0_0 p1), vI (1 : Int32), vI (t0_2 p1), vU, vU, vU, vU, vU, vU, vU, vU, vU, vU] [(.int (p1 &&& (16 : Int32)))])) _
    refine XS.ifYes X0.here hx rfl (pc0 := 38) (pc' := 45) rfl (hb hby at_38) rfl ((if0 _ _).trans (teq hc38).1) (by decide) (by decide) ?_
    refine XS.iconst X0.here hx rfl (hb hby at_45) ?_
    refine XS.istore X0.here hx rfl (hb hby at_46) rfl (l' := #[vI p1, vI p2, vI p3, vI (t0_0 p1), vI (1 : Int32), vI (t0_2 p1), vI (0 : Int32), vU, vU, vU, vU, vU, vU, vU, vU, vU]) rfl ?_
    show Steps p.tables e below (s₁.setTop (mkF m 48 #[vI p1, vI p2, vI p3, vI (t0_0 p1), vI (1 : Int32), vI (t0_2 p1), vI (0 : Int32), vU, vU, vU, vU, vU, vU, vU, vU, vU] [])) _
    refine st4 _ ?_
    refine XS.dup X4.here hx rfl (hb hby at_51) rfl rfl ?_
    refine XS.iconst X4.here hx rfl (hb hby at_52) ?_
    show Steps p.tables e below (T4.setTop (mkF m 53 #[vI p1, vI p2, vI p3, vI (t0_0 p1), vI (1 : Int32), vI (t0_2 p1), vI (0 : Int32), vU, vU, vU, vU, vU, vU, vU, vU, vU] [(.int (2 : Int32)), (.ref b4), (.ref b4)])) _
    refine st5 _ ?_
    refine XS.dup X5.here hx rfl (hb hby at_55) rfl rfl ?_
    refine XS.iconst X5.here hx rfl (hb hby at_56) ?_
    refine XS.iloadN X5.here hx rfl (hb hby at_57) rfl ?_
    refine XS.sipush X5.here hx rfl (hb hby at_58) ?_
    refine XS.iand X5.here hx rfl (hb hby at_61) rfl ?_
    refine XS.i2c X5.here hx rfl (hb hby at_62) rfl ?_
    show Steps p.tables e below (T5.setTop (mkF m 63 #[vI p1, vI p2, vI p3, vI (t0_0 p1), vI (1 : Int32), vI (t0_2 p1), vI (0 : Int32), vU, vU, vU, vU, vU, vU, vU, vU, vU] [(.int (t0_3 p2)), (.int (0 : Int32)), (.ref b5), (.ref b5), (.ref b4), (.ref b4)])) _
    refine st6 _ ?_
    refine XS.dup X6.here hx rfl (hb hby at_64) rfl rfl ?_
    refine XS.iconst X6.here hx rfl (hb hby at_65) ?_
    refine XS.iloadN X6.here hx rfl (hb hby at_66) rfl ?_
    refine XS.bipush X6.here hx rfl (hb hby at_67) ?_
    refine XS.iushr X6.here hx rfl (hb hby at_69) rfl ?_
    refine XS.sipush X6.here hx rfl (hb hby at_70) ?_
    refine XS.iand X6.here hx rfl (hb hby at_73) rfl ?_
    refine XS.i2c X6.here hx rfl (hb hby at_74) rfl ?_
    show Steps p.tables e below (T6.setTop (mkF m 75 #[vI p1, vI p2, vI p3, vI (t0_0 p1), vI (1 : Int32), vI (t0_2 p1), vI (0 : Int32), vU, vU, vU, vU, vU, vU, vU, vU, vU] [(.int (t0_5 p2)), (.int (1 : Int32)), (.ref b5), (.ref b5), (.ref b4), (.ref b4)])) _
    refine st7 _ ?_
    show Steps p.tables e below (T7.setTop (mkF m 76 #[vI p1, vI p2, vI p3, vI (t0_0 p1), vI (1 : Int32), vI (t0_2 p1), vI (0 : Int32), vU, vU, vU, vU, vU, vU, vU, vU, vU] [(.ref b5), (.ref b4), (.ref b4)])) _
    refine st8.trans ?_
    refine XS.astore X8.here hx rfl (hb hby at_79) rfl rfl (l' := #[vI p1, vI p2, vI p3, vI (t0_0 p1), vI (1 : Int32), vI (t0_2 p1), vI (0 : Int32), vA b4, vU, vU, vU, vU, vU, vU, vU, vU]) rfl ?_
    refine XS.iloadN X8.here hx rfl (hb hby at_81) rfl ?_
    refine XS.bipush X8.here hx rfl (hb hby at_82) ?_
    refine XS.iushr X8.here hx rfl (hb hby at_84) rfl ?_
    refine XS.sipush X8.here hx rfl (hb hby at_85) ?_
    refine XS.iand X8.here hx rfl (hb hby at_88) rfl ?_
    refine XS.i2c X8.here hx rfl (hb hby at_89) rfl ?_
    show Steps p.tables e below (T8.setTop (mkF m 90 #[vI p1, vI p2, vI p3, vI (t0_0 p1), vI (1 : Int32), vI (t0_2 p1), vI (0 : Int32), vA b4, vU, vU, vU, vU, vU, vU, vU, vU] [(.int (t0_7 p2))])) _
    refine st9 _ ?_
    refine XS.astore X9.here hx rfl (hb hby at_93) rfl rfl (l' := #[vI p1, vI p2, vI p3, vI (t0_0 p1), vI (1 : Int32), vI (t0_2 p1), vI (0 : Int32), vA b4, vA br_9, vU, vU, vU, vU, vU, vU, vU]) rfl ?_
    refine XS.iloadN X9.here hx rfl (hb hby at_95) rfl ?_
    show Steps p.tables e below (T9.setTop (mkF m 96 #[vI p1, vI p2, vI p3, vI (t0_0 p1), vI (1 : Int32), vI (t0_2 p1), vI (0 : Int32), vA b4, vA br_9, vU, vU, vU, vU, vU, vU, vU] [(.int p3)])) _
    refine st10.trans ?_
    refine XS.astore X10.here hx rfl (hb hby at_99) rfl rfl (l' := #[vI p1, vI p2, vI p3, vI (t0_0 p1), vI (1 : Int32), vI (t0_2 p1), vI (0 : Int32), vA b4, vA br_9, vA br_10, vU, vU, vU, vU, vU, vU]) rfl ?_
    refine XS.iloadN X10.here hx rfl (hb hby at_101) rfl ?_
    refine XS.bipush X10.here hx rfl (hb hby at_102) ?_
    refine XS.iushr X10.here hx rfl (hb hby at_104) rfl ?_
    show Steps p.tables e below (T10.setTop (mkF m 105 #[vI p1, vI p2, vI p3, vI (t0_0 p1), vI (1 : Int32), vI (t0_2 p1), vI (0 : Int32), vA b4, vA br_9, vA br_10, vU, vU, vU, vU, vU, vU] [(.int (t0_8 p3))])) _
    refine st11.trans ?_
    refine XS.astore X11.here hx rfl (hb hby at_108) rfl rfl (l' := #[vI p1, vI p2, vI p3, vI (t0_0 p1), vI (1 : Int32), vI (t0_2 p1), vI (0 : Int32), vA b4, vA br_9, vA br_10, vA br_11, vU, vU, vU, vU, vU]) rfl ?_
    refine XS.iload X11.here hx rfl (hb hby at_110) rfl ?_
    show Steps p.tables e below (T11.setTop (mkF m 112 #[vI p1, vI p2, vI p3, vI (t0_0 p1), vI (1 : Int32), vI (t0_2 p1), vI (0 : Int32), vA b4, vA br_9, vA br_10, vA br_11, vU, vU, vU, vU, vU] [(.int (1 : Int32))])) _
    refine XS.ifNo X11.here hx rfl (hb hby at_112) rfl ((if0 _ _).trans (feq (by decide : ¬ ((1 : Int32) = (0 : Int32)))).1) ?_
    refine XS.aload X11.here hx rfl (hb hby at_115) rfl rfl ?_
    show Steps p.tables e below (T11.setTop (mkF m 117 #[vI p1, vI p2, vI p3, vI (t0_0 p1), vI (1 : Int32), vI (t0_2 p1), vI (0 : Int32), vA b4, vA br_9, vA br_10, vA br_11, vU, vU, vU, vU, vU] [(.ref br_10)])) _
    refine st12 _ ?_
    show Steps p.tables e below (T12.setTop (mkF m 120 #[vI p1, vI p2, vI p3, vI (t0_0 p1), vI (1 : Int32), vI (t0_2 p1), vI (0 : Int32), vA b4, vA br_9, vA br_10, vA br_11, vU, vU, vU, vU, vU] [(.ref b2_12)])) _
    refine XS.goto X12.here hx rfl (pc0 := 120) (pc' := 126) rfl (hb hby at_120) (by decide) (by decide) ?_
    refine XS.astore X12.here hx rfl (hb hby at_126) rfl rfl (l' := #[vI p1, vI p2, vI p3, vI (t0_0 p1), vI (1 : Int32), vI (t0_2 p1), vI (0 : Int32), vA b4, vA br_9, vA br_10, vA br_11, vA b2_12, vU, vU, vU, vU]) rfl ?_
    refine XS.iload X12.here hx rfl (hb hby at_128) rfl ?_
    show Steps p.tables e below (T12.setTop (mkF m 130 #[vI p1, vI p2, vI p3, vI (t0_0 p1), vI (1 : Int32), vI (t0_2 p1), vI (0 : Int32), vA b4, vA br_9, vA br_10, vA br_11, vA b2_12, vU, vU, vU, vU] [(.int (t0_2 p1))])) _
    refine XS.ifYes X12.here hx rfl (pc0 := 130) (pc' := 141) rfl (hb hby at_130) rfl ((if0 _ _).trans (feq hc130).2) (by decide) (by decide) ?_
    refine XS.iload X12.here hx rfl (hb hby at_141) rfl ?_
    refine XS.iconst X12.here hx rfl (hb hby at_143) ?_
    show Steps p.tables e below (T12.setTop (mkF m 144 #[vI p1, vI p2, vI p3, vI (t0_0 p1), vI (1 : Int32), vI (t0_2 p1), vI (0 : Int32), vA b4, vA br_9, vA br_10, vA br_11, vA b2_12, vU, vU, vU, vU] [(.int (1 : Int32)), (.int (t0_2 p1))])) _
    refine XS.icmpNo X12.here hx rfl (hb hby at_144) rfl (teq hc144).2 ?_
    show Steps p.tables e below (T12.setTop (mkF m 147 #[vI p1, vI p2, vI p3, vI (t0_0 p1), vI (1 : Int32), vI (t0_2 p1), vI (0 : Int32), vA b4, vA br_9, vA br_10, vA br_11, vA b2_12, vU, vU, vU, vU] [])) _
    refine st13 _ ?_
    show Steps p.tables e below (T13.setTop (mkF m 150 #[vI p1, vI p2, vI p3, vI (t0_0 p1), vI (1 : Int32), vI (t0_2 p1), vI (0 : Int32), vA b4, vA br_9, vA br_10, vA br_11, vA b2_12, vU, vU, vU, vU] [(.ref s_ALWAYS)])) _
    refine st14 _ ?_
    refine XS.astore X14.here hx rfl (hb hby at_153) rfl rfl (l' := #[vI p1, vI p2, vI p3, vI (t0_0 p1), vI (1 : Int32), vI (t0_2 p1), vI (0 : Int32), vA b4, vA br_9, vA br_10, vA br_11, vA b2_12, vA b2_14, vU, vU, vU]) rfl ?_
    show Steps p.tables e below (T14.setTop (mkF m 155 #[vI p1, vI p2, vI p3, vI (t0_0 p1), vI (1 : Int32), vI (t0_2 p1), vI (0 : Int32), vA b4, vA br_9, vA br_10, vA br_11, vA b2_12, vA b2_14, vU, vU, vU] [])) _
    refine XS.goto X14.here hx rfl (pc0 := 155) (pc' := 166) rfl (hb hby at_155) (by decide) (by decide) ?_
    refine XS.iload X14.here hx rfl (hb hby at_166) rfl ?_
    show Steps p.tables e below (T14.setTop (mkF m 168 #[vI p1, vI p2, vI p3, vI (t0_0 p1), vI (1 : Int32), vI (t0_2 p1), vI (0 : Int32), vA b4, vA br_9, vA br_10, vA br_11, vA b2_12, vA b2_14, vU, vU, vU] [(.int (0 : Int32))])) _
    refine XS.ifYes X14.here hx rfl (pc0 := 168) (pc' := 179) rfl (hb hby at_168) rfl ((if0 _ _).trans (teq (rfl : (0 : Int32) = (0 : Int32))).1) (by decide) (by decide) ?_
    show Steps p.tables e below (T14.setTop (mkF m 179 #[vI p1, vI p2, vI p3, vI (t0_0 p1), vI (1 : Int32), vI (t0_2 p1), vI (0 : Int32), vA b4, vA br_9, vA br_10, vA br_11, vA b2_12, vA b2_14, vU, vU, vU] [])) _
    refine st15 _ ?_
    refine XS.astore X15.here hx rfl (hb hby at_182) rfl rfl (l' := #[vI p1, vI p2, vI p3, vI (t0_0 p1), vI (1 : Int32), vI (t0_2 p1), vI (0 : Int32), vA b4, vA br_9, vA br_10, vA br_11, vA b2_12, vA b2_14, vA s_EMPTY, vU, vU]) rfl ?_
    show Steps p.tables e below (T15.setTop (mkF m 184 #[vI p1, vI p2, vI p3, vI (t0_0 p1), vI (1 : Int32), vI (t0_2 p1), vI (0 : Int32), vA b4, vA br_9, vA br_10, vA br_11, vA b2_12, vA b2_14, vA s_EMPTY, vU, vU] [])) _
    refine st16 _ ?_
    refine XS.dup X16.here hx rfl (hb hby at_187) rfl rfl ?_
    refine XS.aload X16.here hx rfl (hb hby at_188) rfl rfl ?_
    refine XS.aload X16.here hx rfl (hb hby at_190) rfl rfl ?_
    refine XS.iloadN X16.here hx rfl (hb hby at_192) rfl ?_
    refine XS.aload X16.here hx rfl (hb hby at_193) rfl rfl ?_
    refine XS.aload X16.here hx rfl (hb hby at_195) rfl rfl ?_
    refine XS.aload X16.here hx rfl (hb hby at_197) rfl rfl ?_
    show Steps p.tables e below (T16.setTop (mkF m 199 #[vI p1, vI p2, vI p3, vI (t0_0 p1), vI (1 : Int32), vI (t0_2 p1), vI (0 : Int32), vA b4, vA br_9, vA br_10, vA br_11, vA b2_12, vA b2_14, vA s_EMPTY, vU, vU] [(.ref s_EMPTY), (.ref b2_14), (.ref b2_12), (.int (t0_0 p1)), (.ref br_9), (.ref b4), (.ref b16), (.ref b16)])) _
    refine st17.trans ?_
    refine XS.astore X17.here hx rfl (hb hby at_202) rfl rfl (l' := #[vI p1, vI p2, vI p3, vI (t0_0 p1), vI (1 : Int32), vI (t0_2 p1), vI (0 : Int32), vA b4, vA br_9, vA br_10, vA br_11, vA b2_12, vA b2_14, vA s_EMPTY, vA b16, vU]) rfl ?_
    refine XS.iconst X17.here hx rfl (hb hby at_204) ?_
    refine XS.istore X17.here hx rfl (hb hby at_205) rfl (l' := #[vI p1, vI p2, vI p3, vI (t0_0 p1), vI (1 : Int32), vI (t0_2 p1), vI (0 : Int32), vA b4, vA br_9, vA br_10, vA br_11, vA b2_12, vA b2_14, vA s_EMPTY, vA b16, vI (1 : Int32)]) rfl ?_
    refine XS.iloadN X17.here hx rfl (hb hby at_207) rfl ?_
    show Steps p.tables e below (T17.setTop (mkF m 208 #[vI p1, vI p2, vI p3, vI (t0_0 p1), vI (1 : Int32), vI (t0_2 p1), vI (0 : Int32), vA b4, vA br_9, vA br_10, vA br_11, vA b2_12, vA b2_14, vA s_EMPTY, vA b16, vI (1 : Int32)] [(.int (t0_0 p1))])) _
    have J208 : ∀ target, Steps p.tables e below (T17.setTop (mkF m 214 #[vI p1, vI p2, vI p3, vI (t0_0 p1), vI (1 : Int32), vI (t0_2 p1), vI (0 : Int32), vA b4, vA br_9, vA br_10, vA br_11, vA b2_12, vA b2_14, vA s_EMPTY, vA b16, vI (t0_9 p1)] [])) target → Steps p.tables e below (T17.setTop (mkF m 208 #[vI p1, vI p2, vI p3, vI (t0_0 p1), vI (1 : Int32), vI (t0_2 p1), vI (0 : Int32), vA b4, vA br_9, vA br_10, vA br_11, vA b2_12, vA b2_14, vA s_EMPTY, vA b16, vI (1 : Int32)] [(.int (t0_0 p1))])) target := by
      intro target kt
      by_cases hm208 : (t0_0 p1) = (0 : Int32)
      · skip
        show Steps p.tables e below (T17.setTop (mkF m 208 #[vI p1, vI p2, vI p3, vI (t0_0 p1), vI (1 : Int32), vI (t0_2 p1), vI (0 : Int32), vA b4, vA br_9, vA br_10, vA br_11, vA b2_12, vA b2_14, vA s_EMPTY, vA b16, vI (1 : Int32)] [(.int (t0_0 p1))])) _
        refine XS.ifYes X17.here hx rfl (pc0 := 208) (pc' := 214) rfl (hb hby at_208) rfl ((if0 _ _).trans (teq hm208).1) (by decide) (by decide) ?_
        rw [show (t0_9 p1) = (1 : Int32) from if_pos hm208] at kt
        exact kt
      · skip
        show Steps p.tables e below (T17.setTop (mkF m 208 #[vI p1, vI p2, vI p3, vI (t0_0 p1), vI (1 : Int32), vI (t0_2 p1), vI (0 : Int32), vA b4, vA br_9, vA br_10, vA br_11, vA b2_12, vA b2_14, vA s_EMPTY, vA b16, vI (1 : Int32)] [(.int (t0_0 p1))])) _
        refine XS.ifNo X17.here hx rfl (hb hby at_208) rfl ((if0 _ _).trans (feq hm208).1) ?_
        refine XS.iconst X17.here hx rfl (hb hby at_211) ?_
        refine XS.istore X17.here hx rfl (hb hby at_212) rfl (l' := #[vI p1, vI p2, vI p3, vI (t0_0 p1), vI (1 : Int32), vI (t0_2 p1), vI (0 : Int32), vA b4, vA br_9, vA br_10, vA br_11, vA b2_12, vA b2_14, vA s_EMPTY, vA b16, vI (0 : Int32)]) rfl ?_
        rw [show (t0_9 p1) = (0 : Int32) from if_neg hm208] at kt
        exact kt
    refine J208 _ ?_
    refine XS.iload X17.here hx rfl (hb hby at_214) rfl ?_
    show Steps p.tables e below (T17.setTop (mkF m 216 #[vI p1, vI p2, vI p3, vI (t0_0 p1), vI (1 : Int32), vI (t0_2 p1), vI (0 : Int32), vA b4, vA br_9, vA br_10, vA br_11, vA b2_12, vA b2_14, vA s_EMPTY, vA b16, vI (t0_9 p1)] [(.int (1 : Int32))])) _
    refine XS.ifNo X17.here hx rfl (hb hby at_216) rfl ((if0 _ _).trans (feq (by decide : ¬ ((1 : Int32) = (0 : Int32)))).1) ?_
    refine XS.iconst X17.here hx rfl (hb hby at_219) ?_
    refine XS.istore X17.here hx rfl (hb hby at_220) rfl (l' := #[vI p1, vI p2, vI p3, vI (t0_0 p1), vI (1 : Int32), vI (t0_2 p1), vI (0 : Int32), vA b4, vA br_9, vA br_10, vA br_11, vA b2_12, vA b2_14, vA s_EMPTY, vA b16, vI (0 : Int32)]) rfl ?_
    refine XS.iload X17.here hx rfl (hb hby at_222) rfl ?_
    show Steps p.tables e below (T17.setTop (mkF m 224 #[vI p1, vI p2, vI p3, vI (t0_0 p1), vI (1 : Int32), vI (t0_2 p1), vI (0 : Int32), vA b4, vA br_9, vA br_10, vA br_11, vA b2_12, vA b2_14, vA s_EMPTY, vA b16, vI (0 : Int32)] [(.int (t0_2 p1))])) _
    refine XS.ifNo X17.here hx rfl (hb hby at_224) rfl ((if0 _ _).trans (feq hc130).1) ?_
    refine XS.iconst X17.here hx rfl (hb hby at_227) ?_
    refine XS.istore X17.here hx rfl (hb hby at_228) rfl (l' := #[vI p1, vI p2, vI p3, vI (t0_0 p1), vI (1 : Int32), vI (t0_2 p1), vI (0 : Int32), vA b4, vA br_9, vA br_10, vA br_11, vA b2_12, vA b2_14, vA s_EMPTY, vA b16, vI (0 : Int32)]) rfl ?_
    refine XS.iload X17.here hx rfl (hb hby at_230) rfl ?_
    show Steps p.tables e below (T17.setTop (mkF m 232 #[vI p1, vI p2, vI p3, vI (t0_0 p1), vI (1 : Int32), vI (t0_2 p1), vI (0 : Int32), vA b4, vA br_9, vA br_10, vA br_11, vA b2_12, vA b2_14, vA s_EMPTY, vA b16, vI (0 : Int32)] [(.int (0 : Int32))])) _
    refine XS.ifYes X17.here hx rfl (pc0 := 232) (pc' := 238) rfl (hb hby at_232) rfl ((if0 _ _).trans (teq (rfl : (0 : Int32) = (0 : Int32))).1) (by decide) (by decide) ?_
    refine XS.aload X17.here hx rfl (hb hby at_238) rfl rfl ?_
    show Steps p.tables e below (T17.setTop (mkF m 240 #[vI p1, vI p2, vI p3, vI (t0_0 p1), vI (1 : Int32), vI (t0_2 p1), vI (0 : Int32), vA b4, vA br_9, vA br_10, vA br_11, vA b2_12, vA b2_14, vA s_EMPTY, vA b16, vI (0 : Int32)] [(.ref b16)])) _
    refine st18.trans ?_
    refine XS.iload X18.here hx rfl (hb hby at_243) rfl ?_
    show Steps p.tables e below (T18.setTop (mkF m 245 #[vI p1, vI p2, vI p3, vI (t0_0 p1), vI (1 : Int32), vI (t0_2 p1), vI (0 : Int32), vA b4, vA br_9, vA br_10, vA br_11, vA b2_12, vA b2_14, vA s_EMPTY, vA b16, vI (0 : Int32)] [(.int (0 : Int32)), (.int (0 : Int32))])) _
    refine XS.icmpNo X18.here hx rfl (hb hby at_245) rfl (teq (rfl : (0 : Int32) = (0 : Int32))).2 ?_
    refine XS.iconst X18.here hx rfl (hb hby at_248) ?_
    show Steps p.tables e below (T18.setTop (mkF m 249 #[vI p1, vI p2, vI p3, vI (t0_0 p1), vI (1 : Int32), vI (t0_2 p1), vI (0 : Int32), vA b4, vA br_9, vA br_10, vA br_11, vA b2_12, vA b2_14, vA s_EMPTY, vA b16, vI (0 : Int32)] [(.int (1 : Int32))])) _
    refine XS.goto X18.here hx rfl (pc0 := 249) (pc' := 253) rfl (hb hby at_249) (by decide) (by decide) ?_
    show Steps p.tables e below (T18.setTop (mkF m 253 #[vI p1, vI p2, vI p3, vI (t0_0 p1), vI (1 : Int32), vI (t0_2 p1), vI (0 : Int32), vA b4, vA br_9, vA br_10, vA br_11, vA b2_12, vA b2_14, vA s_EMPTY, vA b16, vI (0 : Int32)] [(.int (1 : Int32))])) _
    exact retN X18 hx (t := .boolean) Bd.returns (by simp) (hb hby at_253) hr
  · show Q_rm0 Z p1 p2 p3 s_COMPACT_STRINGS s_EMPTY s_ALWAYS s_BY_DEFAULT h0 n0 _ T18.heap _
    exact ⟨rfl, N18⟩
set_option maxRecDepth 65536 in
set_option maxHeartbeats 40000000 in
theorem rm0_fttt (l : Launch) (Z : State) (a0 : Array Value) (hw : ∀ d ∈ tables_1, d.before a0 Z = true) (ws : List Jvm.Cond) (p1 : Int32) (p2 : Int32) (p3 : Int32) (s_COMPACT_STRINGS : Int32) (s_EMPTY : Addr) (s_ALWAYS : Addr) (s_BY_DEFAULT : Addr) (h0 : Heap) (n0 : Nat) (Z0 : n0 ≤ h0.size) (hcs : ¬ (s_COMPACT_STRINGS = (0 : Int32))) (S_COMPACT_STRINGS : Sta Z h0 "java/lang/String" "COMPACT_STRINGS" "Z" (.int s_COMPACT_STRINGS)) (S_EMPTY : Sta Z h0 "java/util/Optional" "EMPTY" "Ljava/util/Optional;" (.ref s_EMPTY)) (S_ALWAYS : Sta Z h0 "underdeck/deck/Column$Identity" "ALWAYS" "Lunderdeck/deck/Column$Identity;" (.ref s_ALWAYS)) (S_BY_DEFAULT : Sta Z h0 "underdeck/deck/Column$Identity" "BY_DEFAULT" "Lunderdeck/deck/Column$Identity;" (.ref s_BY_DEFAULT)) (F_value_s_EMPTY : Fld Z h0 s_EMPTY "java/util/Optional" "value" "Ljava/lang/Object;" .null) (E_s_EMPTY : Exa Z h0 s_EMPTY "java/util/Optional") (hc15 : ¬ ((p1 &&& (2 : Int32)) = (0 : Int32))) (hc38 : (p1 &&& (16 : Int32)) = (0 : Int32)) (hc130 : ¬ ((t0_2 p1) = (0 : Int32))) (hc144 : ¬ ((t0_2 p1) = (1 : Int32))) :
    MetFree l x (head1 (Jvm.Cond.code x code maxLocals ret :: ws) room_1) (fun a U => a = #[(.int p1), (.int p2), (.int p3)] ∧ Z.Warmed39 U.vm ∧ U.heap = h0) (fun _ _ _ _ _ => True) (fun _ U o U' => ∃ v L, o = .returned v ∧ Q_rm0 Z p1 p2 p3 s_COMPACT_STRINGS s_EMPTY s_ALWAYS s_BY_DEFAULT h0 n0 v U'.heap L ∧ ReturnedEndW U o U' L room_1.cells room_1.slots) := by
  have hi : ∀ (i : Nat) {d : Jvm.Cond}, tables_1[i]? = some d → d.before a0 Z = true := fun i d h => hw d (List.mem_of_getElem? h)
  refine MetFree.of_bodySF (plainFor_of_name pn_0) hisR ?_
  intro p e s m args below meth c s₁ Bd hml0 hP hK
  obtain ⟨rfl, hZ, hh⟩ := hP
  have hx := Bd.exec
  have hby := Bd.bytes
  have hml : c.maxLocals = 16 := hml0
  have hown : s.vm.findClass "underdeck/deck/ColumnRequiredPinLaw" = some m.cls := findClass_of_methodNamed Bd.named
  have hnm := (name_of_methodNamed Bd.named Bd.method).1
  have X0 : Stand p l e room_1 (s.setVm s.vm) m #[(.int p1), (.int p2), (.int p3)] below meth c s₁ [] 0 0 := Stand.of_body Bd
  have e0 : s₁.heap = h0 := by rw [← hh, Bd.state]; rfl
  have N0 := Fr.nil n0
  have pre0 : ∀ t, Steps p.tables e below (s₁.setTop (mkF m 0 #[vI p1, vI p2, vI p3, vU, vU, vU, vU, vU, vU, vU, vU, vU, vU, vU, vU, vU] [])) t → Steps p.tables e below (s₁.setTop (entryFrame m #[(.int p1), (.int p2), (.int p3)] maxLocals)) t := fun t k => castTop (ef_0 m p1 p2 p3) k
  have hS0 : s.Since s.vm h0.size := (State.WarmedH.refl s).since _
  obtain ⟨T4, h4, X4, e4, E4, A4, D4, -, st4⟩ := newO X0 hx hZ hown (hi 0 rfl) (hi 1 rfl) (hi 2 rfl) e0 (g := (mkF m 48 #[vI p1, vI p2, vI p3, vI (t0_0 p1), vI (1 : Int32), vI (t0_2 p1), vI (0 : Int32), vU, vU, vU, vU, vU, vU, vU, vU, vU] [])) rfl (hb hby at_48) (by decide) (by decide)
  obtain ⟨b4, g4⟩ : ∃ z, z = h0.size := ⟨_, rfl⟩
  rw [← g4] at A4 D4 st4
  have g_b4 : n0 ≤ b4 := Nat.le_trans Z0 (Nat.le_of_eq g4.symm)
  have sz_b4 : h0.size ≤ b4 := Nat.le_trans (Nat.le_refl h0.size) (Nat.le_of_eq g4.symm)
  have F_coder_b4 : Fld Z h4 b4 "java/lang/String" "coder" "B" (.int (0 : Int32)) := D4 (Or.inr (hi 27 rfl)) (ty := .byte) (by decide)
  have F_value_b4 : Fld Z h4 b4 "java/lang/String" "value" "[B" .null := D4 (Or.inr (hi 29 rfl)) (ty := (.array .byte)) (by decide)
  obtain ⟨T5, h5, k5, X5, e5, E5, A5, st5⟩ := newP X4 hx hZ (hi 3 rfl) e4 (g := (mkF m 53 #[vI p1, vI p2, vI p3, vI (t0_0 p1), vI (1 : Int32), vI (t0_2 p1), vI (0 : Int32), vU, vU, vU, vU, vU, vU, vU, vU, vU] [(.int (2 : Int32)), (.ref b4), (.ref b4)])) rfl (hb hby at_53) rfl (by decide) (cap := 2) (by decide) (by decide) (by decide) (by decide)
  obtain ⟨b5, g5⟩ : ∃ z, z = h4.size := ⟨_, rfl⟩
  rw [← g5] at A5 st5
  have g_b5 : n0 ≤ b5 := Nat.le_trans (Nat.le_trans Z0 E4.1) (Nat.le_of_eq g5.symm)
  have sz_b5 : h0.size ≤ b5 := Nat.le_trans (Nat.le_trans (Nat.le_refl h0.size) E4.1) (Nat.le_of_eq g5.symm)
  have V_b5 : Arv Z h5 b5 k5 .char (2 : Int32) [(.int (0 : Int32)), (.int (0 : Int32))] (.int (0 : Int32)) := (Arv.new A5 (by decide)).pad (pad_rep [] (.int (0 : Int32)) 2)
  obtain ⟨cl_b5_0, Ar_b5_0, q_b5_0, Sz_b5_0, Ng_b5_0, Ha_b5_0, Gt_b5_0⟩ := id V_b5
  have hin_b5_0 : ¬ ((0 : Int32) < 0 ∨ cl_b5_0.slots.size ≤ ((0 : Int32)).toNatClampNeg) := inb_of Sz_b5_0 ⟨by decide, by decide⟩
  obtain ⟨T6, h6, X6, e6, W6, st6⟩ := stC X5 hx hZ e5 Ar_b5_0 (j := (0 : Int32)) hin_b5_0 (g := (mkF m 63 #[vI p1, vI p2, vI p3, vI (t0_0 p1), vI (1 : Int32), vI (t0_2 p1), vI (0 : Int32), vU, vU, vU, vU, vU, vU, vU, vU, vU] [(.int (t0_3 p2)), (.int (0 : Int32)), (.ref b5), (.ref b5), (.ref b4), (.ref b4)])) rfl rfl (hb hby at_63)
  have V6 : Arv Z h6 b5 k5 .char (2 : Int32) [(.int (nar .char (t0_3 p2))), (.int (0 : Int32))] (.int (0 : Int32)) := Arv.set Ar_b5_0 q_b5_0 Sz_b5_0 Ng_b5_0 Ha_b5_0 Gt_b5_0 (fits_nar_char _) W6 0 rfl (Nat.le_of_ble_eq_true rfl)
  have N6 := Fr.snoc X6 N0 g_b5
  obtain ⟨cl_b5_1, Ar_b5_1, q_b5_1, Sz_b5_1, Ng_b5_1, Ha_b5_1, Gt_b5_1⟩ := id V6
  have hin_b5_1 : ¬ ((1 : Int32) < 0 ∨ cl_b5_1.slots.size ≤ ((1 : Int32)).toNatClampNeg) := inb_of Sz_b5_1 ⟨by decide, by decide⟩
  obtain ⟨T7, h7, X7, e7, W7, st7⟩ := stC X6 hx hZ e6 Ar_b5_1 (j := (1 : Int32)) hin_b5_1 (g := (mkF m 75 #[vI p1, vI p2, vI p3, vI (t0_0 p1), vI (1 : Int32), vI (t0_2 p1), vI (0 : Int32), vU, vU, vU, vU, vU, vU, vU, vU, vU] [(.int (t0_5 p2)), (.int (1 : Int32)), (.ref b5), (.ref b5), (.ref b4), (.ref b4)])) rfl rfl (hb hby at_75)
  have V7 : Arv Z h7 b5 k5 .char (2 : Int32) [(.int (nar .char (t0_3 p2))), (.int (nar .char (t0_5 p2)))] (.int (0 : Int32)) := Arv.set Ar_b5_1 q_b5_1 Sz_b5_1 Ng_b5_1 Ha_b5_1 Gt_b5_1 (fits_nar_char _) W7 1 rfl (Nat.le_of_ble_eq_true rfl)
  have N7 := Fr.snoc X7 N6 g_b5
  have f2 := ((((S_COMPACT_STRINGS.ext E4).ext E5).wr W6).wr W7)
  have f3 := (((F_coder_b4.ext E5).other W6 (Or.inl (Nat.ne_of_lt (Nat.lt_of_lt_of_le A4.lt (Nat.le_of_eq g5.symm))))).other W7 (Or.inl (Nat.ne_of_lt (Nat.lt_of_lt_of_le A4.lt (Nat.le_of_eq g5.symm)))))
  have f4 := (((F_value_b4.ext E5).other W6 (Or.inl (Nat.ne_of_lt (Nat.lt_of_lt_of_le A4.lt (Nat.le_of_eq g5.symm))))).other W7 (Or.inl (Nat.ne_of_lt (Nat.lt_of_lt_of_le A4.lt (Nat.le_of_eq g5.symm)))))
  have f5 := (((A4.ext E5).wr W6).wr W7)
  obtain ⟨_, _, ⟨T8, L8, k8, n8⟩, -, X8, ⟨Lc8, hQ8, l8, y8, z8⟩, st8⟩ := X7.specialBack hx (y := (⟨"java/lang/String", "<init>", "([C)V"⟩ : MethodName)) rfl hown (mvT hZ (hi 4 rfl)) (mvT hZ (hi 5 rfl)) (mvT hZ (hi 6 rfl)) (by decide) (backOf (W := 1) (rm1 l Z a0 hw [] b4 b5 s_COMPACT_STRINGS (0 : Int32) .null k5 (nar .char (t0_3 p2)) (nar .char (t0_5 p2)) h7 n0 (Nat.le_trans (Nat.le_trans (Nat.le_trans (Nat.le_trans Z0 E4.1) E5.1) (Keep.of_wr W6).1) (Keep.of_wr W7).1) f2 f3 f4 f5 g_b4 V7 hcs (own_le255 _ (own_cc _ (own_cc _ (own_m255 _)))) (own_le255 _ (own_cc _ (own_cc _ (own_m255 _))))) hZ (hi 6 rfl) (hi 2 rfl) (by decide) (by decide)) (g := (mkF m 76 #[vI p1, vI p2, vI p3, vI (t0_0 p1), vI (1 : Int32), vI (t0_2 p1), vI (0 : Int32), vU, vU, vU, vU, vU, vU, vU, vU, vU] [(.ref b5), (.ref b4), (.ref b4)])) rfl (by rw [hml]; rfl) (Steps.refl _) (a := b4) (argsL := [(.ref b5)]) (rest := [(.ref b4)]) (lenOf pd__28_5bC_29V rfl) rfl (by show 2 * 0 + _ ≤ _; exact Nat.le_of_eq rfl) (hb hby at_76) (fun _ _ => ⟨rfl, e7, (by decide : 2 + 1 ≤ _), (by decide : 6 + 2 ≤ _)⟩)
  dsimp only [Pt.U, Pt.locs, Pt.cells, Pt.slots] at X8 l8 y8 z8 st8 hQ8
  subst l8 y8 z8
  obtain ⟨rfl, N8q, K8, i8_0, i8_1⟩ := hQ8
  have N8 := Fr.app N7 N8q
  have f6 := (own_sta_keep f2 K8 (own_qc (own_nst f5) own_q0))
  obtain ⟨_, _, ⟨T9, L9, k9, n9⟩, -, X9, ⟨Lc9, hQ9, l9, y9, z9⟩, st9⟩ := Jvm.LawKit.callS X8 hx (y := (⟨"java/lang/String", "valueOf", "(C)Ljava/lang/String;"⟩ : MethodName)) hown (mvT hZ (hi 30 rfl)) (mvT hZ (hi 31 rfl)) (mvT hZ (hi 2 rfl)) (mvT hZ (hi 32 rfl)) (by decide) (backOf (W := 0) (rm7 l Z a0 hw [] (t0_7 p2) s_COMPACT_STRINGS T8.heap n0 (Nat.le_trans (Nat.le_trans (Nat.le_trans (Nat.le_trans (Nat.le_trans Z0 E4.1) E5.1) (Keep.of_wr W6).1) (Keep.of_wr W7).1) K8.1) f6 hcs (own_F8 _ (own_cc _ (own_m255 _)))) hZ (hi 32 rfl) (hi 2 rfl) (by decide) (by decide)) (g := (mkF m 90 #[vI p1, vI p2, vI p3, vI (t0_0 p1), vI (1 : Int32), vI (t0_2 p1), vI (0 : Int32), vA b4, vU, vU, vU, vU, vU, vU, vU, vU] [(.int (t0_7 p2))])) rfl (by rw [hml]; rfl) (argsL := [(.int (t0_7 p2))]) (rest := []) (lenOf pd__28C_29Ljava_2flang_2fString_3b rfl) rfl (by show 2 * 0 + _ ≤ _; exact Nat.le_of_eq rfl) (hb hby at_90) (fun _ _ => ⟨rfl, rfl, (by decide : 3 + 2 ≤ _), (by decide : 8 + 5 ≤ _)⟩)
  dsimp only [Pt.U, Pt.locs, Pt.cells, Pt.slots] at X9 l9 y9 z9 st9 hQ9
  subst l9 y9 z9
  obtain ⟨br_9, ⟨rfl, N9q, K9⟩⟩ := hQ9
  have N9 := Fr.app N8 N9q
  have f7 := (V7.keep K8 (own_nm (Ne.symm (Nat.ne_of_lt (Nat.lt_of_lt_of_le A4.lt (Nat.le_of_eq g5.symm)))) own_n0))
  have f8 := (own_sta_keep f6 K9 own_q0)
  obtain ⟨_, _, ⟨T10, L10, k10, n10⟩, -, X10w, hS10w, hg10, ⟨Lc10, hQ10, l10, y10, z10⟩, st10⟩ := Jvm.RoadKit.callSS X9 hx (y := (⟨"underdeck/deck/ColumnRequiredPinLaw", "drawn", "(I)Ljava/lang/String;"⟩ : MethodName)) hown (mvT hZ (hi 44 rfl)) (mvT hZ (hi 45 rfl)) (mvT hZ (hi 46 rfl)) (mvT hZ (hi 47 rfl)) (by decide) (backOfS (W := 0) (rm11 l Z a0 hw [] p3 s_COMPACT_STRINGS T9.heap n0 (Nat.le_trans (Nat.le_trans (Nat.le_trans (Nat.le_trans (Nat.le_trans (Nat.le_trans Z0 E4.1) E5.1) (Keep.of_wr W6).1) (Keep.of_wr W7).1) K8.1) K9.1) f8 hcs) hZ (hi 47 rfl) (hi 46 rfl) (by decide) (by decide)) (g := (mkF m 96 #[vI p1, vI p2, vI p3, vI (t0_0 p1), vI (1 : Int32), vI (t0_2 p1), vI (0 : Int32), vA b4, vA br_9, vU, vU, vU, vU, vU, vU, vU] [(.int p3)])) rfl (by rw [hml]; rfl) (argsL := [(.int p3)]) (rest := []) (lenOf pd__28I_29Ljava_2flang_2fString_3b rfl) rfl (by show 2 * 0 + _ ≤ _; exact Nat.le_of_eq rfl) (hb hby at_96) (fun _ _ => ⟨rfl, rfl, (by decide : 5 + 2 ≤ _), (by decide : 13 + 5 ≤ _)⟩)
  dsimp only [Pt.U, Pt.locs, Pt.cells, Pt.slots] at X10w hS10w hg10 l10 y10 z10 st10 hQ10
  subst l10 y10 z10
  obtain ⟨X10, hS10, hZ10, hown10⟩ := rebS hS0 (show _ ≤ T9.heap.size from by exact (Nat.le_trans (Nat.le_trans (Nat.le_trans (Nat.le_trans (Nat.le_trans (Nat.le_trans (Nat.le_refl h0.size) E4.1) E5.1) (Keep.of_wr W6).1) (Keep.of_wr W7).1) K8.1) K9.1)) X10w hS10w hg10 hZ hown
  obtain ⟨br_10, ⟨rfl, N10q, K10⟩⟩ := hQ10
  have N10 := Fr.app N9 N10q
  have f9 := (i8_0.keep K9)
  have f10 := (f7.keep K9 own_n0)
  have f11 := (own_sta_keep f8 K10 own_q0)
  obtain ⟨_, _, ⟨T11, L11, k11, n11⟩, -, X11w, hS11w, hg11, ⟨Lc11, hQ11, l11, y11, z11⟩, st11⟩ := Jvm.RoadKit.callSS X10 hx (y := (⟨"underdeck/deck/ColumnRequiredPinLaw", "drawn", "(I)Ljava/lang/String;"⟩ : MethodName)) hown10 (mvT hZ10 (hi 44 rfl)) (mvT hZ10 (hi 45 rfl)) (mvT hZ10 (hi 46 rfl)) (mvT hZ10 (hi 47 rfl)) (by decide) (backOfS (W := 0) (rm11 l Z a0 hw [] (t0_8 p3) s_COMPACT_STRINGS T10.heap n0 (Nat.le_trans (Nat.le_trans (Nat.le_trans (Nat.le_trans (Nat.le_trans (Nat.le_trans (Nat.le_trans Z0 E4.1) E5.1) (Keep.of_wr W6).1) (Keep.of_wr W7).1) K8.1) K9.1) K10.1) f11 hcs) hZ10 (hi 47 rfl) (hi 46 rfl) (by decide) (by decide)) (g := (mkF m 105 #[vI p1, vI p2, vI p3, vI (t0_0 p1), vI (1 : Int32), vI (t0_2 p1), vI (0 : Int32), vA b4, vA br_9, vA br_10, vU, vU, vU, vU, vU, vU] [(.int (t0_8 p3))])) rfl (by rw [hml]; rfl) (argsL := [(.int (t0_8 p3))]) (rest := []) (lenOf pd__28I_29Ljava_2flang_2fString_3b rfl) rfl (by show 2 * 0 + _ ≤ _; exact Nat.le_of_eq rfl) (hb hby at_105) (fun _ _ => ⟨rfl, rfl, (by decide : 7 + 2 ≤ _), (by decide : 18 + 5 ≤ _)⟩)
  dsimp only [Pt.U, Pt.locs, Pt.cells, Pt.slots] at X11w hS11w hg11 l11 y11 z11 st11 hQ11
  subst l11 y11 z11
  obtain ⟨X11, hS11, hZ11, hown11⟩ := rebS hS10 (show _ ≤ T10.heap.size from by exact (Nat.le_refl _)) X11w hS11w hg11 hZ10 hown10
  obtain ⟨br_11, ⟨rfl, N11q, K11⟩⟩ := hQ11
  have N11 := Fr.app N10 N11q
  have f12 := (f9.keep K10)
  have f13 := (f10.keep K10 own_n0)
  obtain ⟨_, _, ⟨T12, L12, k12, n12⟩, -, X12, ⟨Lc12, hQ12, l12, y12, z12⟩, st12⟩ := Jvm.LawKit.callS X11 hx (y := (⟨"java/util/Optional", "of", "(Ljava/lang/Object;)Ljava/util/Optional;"⟩ : MethodName)) hown11 (mvT hZ11 (hi 104 rfl)) (mvT hZ11 (hi 105 rfl)) (mvT hZ11 (hi 53 rfl)) (mvT hZ11 (hi 106 rfl)) (by decide) (backOf (W := 0) (rm18 l Z a0 hw [] br_10 T11.heap n0 (Nat.le_trans (Nat.le_trans (Nat.le_trans (Nat.le_trans (Nat.le_trans (Nat.le_trans (Nat.le_trans (Nat.le_trans Z0 E4.1) E5.1) (Keep.of_wr W6).1) (Keep.of_wr W7).1) K8.1) K9.1) K10.1) K11.1) ) hZ11 (hi 106 rfl) (hi 53 rfl) (by decide) (by decide)) (g := (mkF m 117 #[vI p1, vI p2, vI p3, vI (t0_0 p1), vI (1 : Int32), vI (t0_2 p1), vI (0 : Int32), vA b4, vA br_9, vA br_10, vA br_11, vU, vU, vU, vU, vU] [(.ref br_10)])) rfl (by rw [hml]; rfl) (argsL := [(.ref br_10)]) (rest := []) (lenOf pd__28Ljava_2flang_2fObject_3b_29Ljava_2futil_2fOptional_3b rfl) rfl (by show 2 * 0 + _ ≤ _; exact Nat.le_of_eq rfl) (hb hby at_117) (fun _ _ => ⟨rfl, rfl, (by decide : 9 + 1 ≤ _), (by decide : 23 + 1 ≤ _)⟩)
  dsimp only [Pt.U, Pt.locs, Pt.cells, Pt.slots] at X12 l12 y12 z12 st12 hQ12
  subst l12 y12 z12
  obtain ⟨b2_12, ⟨rfl, N12q, K12, i12_0, i12_1, i12_2⟩⟩ := hQ12
  have N12 := Fr.app N11 N12q
  have f14 := (f12.keep K11)
  have f15 := (f13.keep K11 own_n0)
  have sz_b2_12 : h0.size ≤ b2_12 := Nat.le_trans (Nat.le_trans (Nat.le_trans (Nat.le_trans (Nat.le_trans (Nat.le_trans (Nat.le_trans (Nat.le_trans (Nat.le_trans (Nat.le_refl h0.size) E4.1) E5.1) (Keep.of_wr W6).1) (Keep.of_wr W7).1) K8.1) K9.1) K10.1) K11.1) i12_0
  have g_b2_12 : n0 ≤ b2_12 := Nat.le_trans Z0 sz_b2_12
  have f16 := (own_sta_keep (own_sta_keep (own_sta_keep (own_sta_keep (own_sta_keep ((((S_BY_DEFAULT.ext E4).ext E5).wr W6).wr W7) K8 (own_qc (own_nst f5) own_q0)) K9 own_q0) K10 own_q0) K11 own_q0) K12 own_q0)
  obtain ⟨T13, X13, e13, st13⟩ := getS2 X12 hx hZ11 hown11 (host := "") (Or.inl (hi 117 rfl)) Via.refl rfl f16 (g := (mkF m 158 #[vI p1, vI p2, vI p3, vI (t0_0 p1), vI (1 : Int32), vI (t0_2 p1), vI (0 : Int32), vA b4, vA br_9, vA br_10, vA br_11, vA b2_12, vU, vU, vU, vU] [])) rfl (hb hby at_158)
  obtain ⟨_, _, ⟨T14, L14, k14, n14⟩, -, X14, ⟨Lc14, hQ14, l14, y14, z14⟩, st14⟩ := Jvm.LawKit.callS X13 hx (y := (⟨"java/util/Optional", "of", "(Ljava/lang/Object;)Ljava/util/Optional;"⟩ : MethodName)) hown11 (mvT hZ11 (hi 104 rfl)) (mvT hZ11 (hi 105 rfl)) (mvT hZ11 (hi 53 rfl)) (mvT hZ11 (hi 106 rfl)) (by decide) (backOf (W := 0) (rm18 l Z a0 hw [] s_BY_DEFAULT T12.heap n0 (Nat.le_trans (Nat.le_trans (Nat.le_trans (Nat.le_trans (Nat.le_trans (Nat.le_trans (Nat.le_trans (Nat.le_trans (Nat.le_trans Z0 E4.1) E5.1) (Keep.of_wr W6).1) (Keep.of_wr W7).1) K8.1) K9.1) K10.1) K11.1) K12.1) ) hZ11 (hi 106 rfl) (hi 53 rfl) (by decide) (by decide)) (g := (mkF m 161 #[vI p1, vI p2, vI p3, vI (t0_0 p1), vI (1 : Int32), vI (t0_2 p1), vI (0 : Int32), vA b4, vA br_9, vA br_10, vA br_11, vA b2_12, vU, vU, vU, vU] [(.ref s_BY_DEFAULT)])) rfl (by rw [hml]; rfl) (argsL := [(.ref s_BY_DEFAULT)]) (rest := []) (lenOf pd__28Ljava_2flang_2fObject_3b_29Ljava_2futil_2fOptional_3b rfl) rfl (by show 2 * 0 + _ ≤ _; exact Nat.le_of_eq rfl) (hb hby at_161) (fun _ _ => ⟨rfl, e13, (by decide : 10 + 1 ≤ _), (by decide : 24 + 1 ≤ _)⟩)
  dsimp only [Pt.U, Pt.locs, Pt.cells, Pt.slots] at X14 l14 y14 z14 st14 hQ14
  subst l14 y14 z14
  obtain ⟨b2_14, ⟨rfl, N14q, K14, i14_0, i14_1, i14_2⟩⟩ := hQ14
  have N14 := Fr.app N12 N14q
  have f17 := (f14.keep K12)
  have f18 := (f15.keep K12 own_n0)
  have sz_b2_14 : h0.size ≤ b2_14 := Nat.le_trans (Nat.le_trans (Nat.le_trans (Nat.le_trans (Nat.le_trans (Nat.le_trans (Nat.le_trans (Nat.le_trans (Nat.le_trans (Nat.le_trans (Nat.le_refl h0.size) E4.1) E5.1) (Keep.of_wr W6).1) (Keep.of_wr W7).1) K8.1) K9.1) K10.1) K11.1) K12.1) i14_0
  have g_b2_14 : n0 ≤ b2_14 := Nat.le_trans Z0 sz_b2_14
  have f19 := (own_sta_keep (own_sta_keep (own_sta_keep (own_sta_keep (own_sta_keep (own_sta_keep ((((S_EMPTY.ext E4).ext E5).wr W6).wr W7) K8 (own_qc (own_nst f5) own_q0)) K9 own_q0) K10 own_q0) K11 own_q0) K12 own_q0) K14 own_q0)
  obtain ⟨_, _, ⟨T15, L15, k15, n15⟩, -, X15, ⟨Lc15, hQ15, l15, y15, z15⟩, st15⟩ := Jvm.LawKit.callS X14 hx (y := (⟨"java/util/Optional", "empty", "()Ljava/util/Optional;"⟩ : MethodName)) hown11 (mvT hZ11 (hi 51 rfl)) (mvT hZ11 (hi 52 rfl)) (mvT hZ11 (hi 53 rfl)) (mvT hZ11 (hi 54 rfl)) (by decide) (backOf (W := 0) (rm12 l Z a0 hw [] s_EMPTY T14.heap n0 (Nat.le_trans (Nat.le_trans (Nat.le_trans (Nat.le_trans (Nat.le_trans (Nat.le_trans (Nat.le_trans (Nat.le_trans (Nat.le_trans (Nat.le_trans Z0 E4.1) E5.1) (Keep.of_wr W6).1) (Keep.of_wr W7).1) K8.1) K9.1) K10.1) K11.1) K12.1) K14.1) f19) hZ11 (hi 54 rfl) (hi 53 rfl) (by decide) (by decide)) (g := (mkF m 179 #[vI p1, vI p2, vI p3, vI (t0_0 p1), vI (1 : Int32), vI (t0_2 p1), vI (0 : Int32), vA b4, vA br_9, vA br_10, vA br_11, vA b2_12, vA b2_14, vU, vU, vU] [])) rfl (by rw [hml]; rfl) (argsL := []) (rest := []) (lenOf pd__28_29Ljava_2futil_2fOptional_3b rfl) rfl (by show 2 * 0 + _ ≤ _; exact Nat.le_of_eq rfl) (hb hby at_179) (fun _ _ => ⟨rfl, rfl, (by decide : 11 + 0 ≤ _), (by decide : 25 + 0 ≤ _)⟩)
  dsimp only [Pt.U, Pt.locs, Pt.cells, Pt.slots] at X15 l15 y15 z15 st15 hQ15
  subst l15 y15 z15
  obtain ⟨rfl, N15q, e15⟩ := hQ15
  have N15 := Fr.app N14 N15q
  have f20 := (f17.keep K14)
  have f21 := (f18.keep K14 own_n0)
  have f22 := (i12_1.keep K14)
  obtain ⟨T16, h16, X16, e16, E16, A16, D16, -, st16⟩ := newO X15 hx hZ11 hown11 (hi 56 rfl) (hi 57 rfl) (hi 58 rfl) e15 (g := (mkF m 184 #[vI p1, vI p2, vI p3, vI (t0_0 p1), vI (1 : Int32), vI (t0_2 p1), vI (0 : Int32), vA b4, vA br_9, vA br_10, vA br_11, vA b2_12, vA b2_14, vA s_EMPTY, vU, vU] [])) rfl (hb hby at_184) (by decide) (by decide)
  obtain ⟨b16, g16⟩ : ∃ z, z = T14.heap.size := ⟨_, rfl⟩
  rw [← g16] at A16 D16 st16
  have g_b16 : n0 ≤ b16 := Nat.le_trans (Nat.le_trans (Nat.le_trans (Nat.le_trans (Nat.le_trans (Nat.le_trans (Nat.le_trans (Nat.le_trans (Nat.le_trans (Nat.le_trans (Nat.le_trans Z0 E4.1) E5.1) (Keep.of_wr W6).1) (Keep.of_wr W7).1) K8.1) K9.1) K10.1) K11.1) K12.1) K14.1) (Nat.le_of_eq g16.symm)
  have sz_b16 : h0.size ≤ b16 := Nat.le_trans (Nat.le_trans (Nat.le_trans (Nat.le_trans (Nat.le_trans (Nat.le_trans (Nat.le_trans (Nat.le_trans (Nat.le_trans (Nat.le_trans (Nat.le_trans (Nat.le_refl h0.size) E4.1) E5.1) (Keep.of_wr W6).1) (Keep.of_wr W7).1) K8.1) K9.1) K10.1) K11.1) K12.1) K14.1) (Nat.le_of_eq g16.symm)
  have F_name_b16 : Fld Z h16 b16 "underdeck/deck/Column" "name" "Ljava/lang/String;" .null := D16 (Or.inr (hi 78 rfl)) (ty := (.object "java/lang/String")) (by decide)
  have F_type_b16 : Fld Z h16 b16 "underdeck/deck/Column" "type" "Ljava/lang/String;" .null := D16 (Or.inr (hi 80 rfl)) (ty := (.object "java/lang/String")) (by decide)
  have F_nullable_b16 : Fld Z h16 b16 "underdeck/deck/Column" "nullable" "Z" (.int (0 : Int32)) := D16 (Or.inr (hi 82 rfl)) (ty := .boolean) (by decide)
  have F_defaultValue_b16 : Fld Z h16 b16 "underdeck/deck/Column" "defaultValue" "Ljava/util/Optional;" .null := D16 (Or.inr (hi 84 rfl)) (ty := (.object "java/util/Optional")) (by decide)
  have F_identity_b16 : Fld Z h16 b16 "underdeck/deck/Column" "identity" "Ljava/util/Optional;" .null := D16 (Or.inr (hi 86 rfl)) (ty := (.object "java/util/Optional")) (by decide)
  have F_generated_b16 : Fld Z h16 b16 "underdeck/deck/Column" "generated" "Ljava/util/Optional;" .null := D16 (Or.inr (hi 88 rfl)) (ty := (.object "java/util/Optional")) (by decide)
  obtain ⟨_, _, ⟨T17, L17, k17, n17⟩, -, X17w, hS17w, hg17, ⟨Lc17, hQ17, l17, y17, z17⟩, st17⟩ := X16.specialBackS hx (y := (⟨"underdeck/deck/Column", "<init>", "(Ljava/lang/String;Ljava/lang/String;ZLjava/util/Optional;Ljava/util/Optional;Ljava/util/Optional;)V"⟩ : MethodName)) rfl hown11 (mvT hZ11 (hi 59 rfl)) (mvT hZ11 (hi 60 rfl)) (mvT hZ11 (hi 61 rfl)) (by decide) (backOfS (W := 1) (rm13 l Z a0 hw [] b16 b4 br_9 (t0_0 p1) b2_12 b2_14 s_EMPTY .null .null (0 : Int32) .null .null .null h16 n0 (Nat.le_trans (Nat.le_trans (Nat.le_trans (Nat.le_trans (Nat.le_trans (Nat.le_trans (Nat.le_trans (Nat.le_trans (Nat.le_trans (Nat.le_trans (Nat.le_trans Z0 E4.1) E5.1) (Keep.of_wr W6).1) (Keep.of_wr W7).1) K8.1) K9.1) K10.1) K11.1) K12.1) K14.1) E16.1) A16 F_name_b16 g_b16 F_type_b16 F_nullable_b16 F_defaultValue_b16 F_identity_b16 F_generated_b16) hZ11 (hi 61 rfl) (hi 58 rfl) (by decide) (by decide)) (g := (mkF m 199 #[vI p1, vI p2, vI p3, vI (t0_0 p1), vI (1 : Int32), vI (t0_2 p1), vI (0 : Int32), vA b4, vA br_9, vA br_10, vA br_11, vA b2_12, vA b2_14, vA s_EMPTY, vU, vU] [(.ref s_EMPTY), (.ref b2_14), (.ref b2_12), (.int (t0_0 p1)), (.ref br_9), (.ref b4), (.ref b16), (.ref b16)])) rfl (by rw [hml]; rfl) (Steps.refl _) (a := b16) (argsL := [(.ref b4), (.ref br_9), (.int (t0_0 p1)), (.ref b2_12), (.ref b2_14), (.ref s_EMPTY)]) (rest := [(.ref b16)]) (lenOf pd__28Ljava_2flang_2fString_3bLjava_2flang_2fString_3bZLjava_2futil_2fOptional_3bLjava_2futil_2fOptional_3bLjava_2futil_2fOptional_3b_29V rfl) rfl (by show 2 * 0 + _ ≤ _; exact Nat.le_of_eq rfl) (hb hby at_199) (fun _ _ => ⟨rfl, e16, (by decide : 12 + 10 ≤ _), (by decide : 31 + 168 ≤ _)⟩)
  dsimp only [Pt.U, Pt.locs, Pt.cells, Pt.slots] at X17w hS17w hg17 l17 y17 z17 st17 hQ17
  subst l17 y17 z17
  obtain ⟨X17, hS17, hZ17, hown17⟩ := rebS hS11 (show _ ≤ T16.heap.size from by rw [e16]; exact (Nat.le_trans (Nat.le_trans (Nat.le_trans (Nat.le_refl _) K12.1) K14.1) E16.1)) X17w hS17w hg17 hZ11 hown11
  obtain ⟨rfl, N17q, K17, i17_0, i17_1, i17_2, i17_3, i17_4, i17_5, i17_6⟩ := hQ17
  have N17 := Fr.app N15 N17q
  have f23 := (((i12_2.keep K14 own_n0).ext E16).keep K17 (own_nm (Nat.ne_of_lt (Nat.lt_of_lt_of_le f22.lt (Nat.le_of_eq g16.symm))) own_n0))
  have f24 := ((f22.ext E16).keep K17)
  obtain ⟨cq18, kq18, q18a, q18b, q18c⟩ := isOf hZ17 rfl i17_0
  obtain ⟨_, _, ⟨T18, L18, k18, n18⟩, -, X18, ⟨Lc18, hQ18, l18, y18, z18⟩, st18⟩ := X17.virtualBack hx (y := (⟨"underdeck/deck/Column", "required", "()Z"⟩ : MethodName)) (z := (⟨"underdeck/deck/Column", "required", "()Z"⟩ : MethodName)) hown17 (mvT hZ17 (hi 89 rfl)) (mvT hZ17 (hi 90 rfl)) (notFace_of_selects (args := #[]) (mvT hZ17 (hi 92 rfl))) (mvT hZ17 (hi 92 rfl)) (mvT hZ17 (hi 91 rfl)) (by decide) (backOf (W := 0) (rm16v l Z a0 hw [] b16 (nar .boolean (t0_0 p1)) b2_12 br_10 T17.heap n0 (Nat.le_trans (Nat.le_trans (Nat.le_trans (Nat.le_trans (Nat.le_trans (Nat.le_trans (Nat.le_trans (Nat.le_trans (Nat.le_trans (Nat.le_trans (Nat.le_trans (Nat.le_trans Z0 E4.1) E5.1) (Keep.of_wr W6).1) (Keep.of_wr W7).1) K8.1) K9.1) K10.1) K11.1) K12.1) K14.1) E16.1) K17.1) i17_3 i17_4 f23 f24) hZ17 (hi 93 rfl) (hi 58 rfl) (by decide) (by decide)) q18a q18c (g := (mkF m 240 #[vI p1, vI p2, vI p3, vI (t0_0 p1), vI (1 : Int32), vI (t0_2 p1), vI (0 : Int32), vA b4, vA br_9, vA br_10, vA br_11, vA b2_12, vA b2_14, vA s_EMPTY, vA b16, vI (0 : Int32)] [(.ref b16)])) rfl (by rw [hml]; rfl) (Steps.refl _) (argsL := []) (rest := []) (lenOf pd__28_29Z rfl) rfl (by show 2 * 0 + _ ≤ _; exact Nat.le_of_eq rfl) (hb hby at_240) (fun _ _ => ⟨rfl, rfl, (by decide : 22 + 0 ≤ _), (by decide : 199 + 0 ≤ _)⟩)
  dsimp only [Pt.U, Pt.locs, Pt.cells, Pt.slots] at X18 l18 y18 z18 st18 hQ18
  subst l18 y18 z18
  obtain ⟨rfl, N18q, e18⟩ := hQ18
  have N18 := Fr.app N17 N18q
  obtain ⟨fs, hr, hrun, hended, hw1, hw2, hw3, hw4⟩ := X18.leaveW hS17 (show _ ≤ T18.heap.size from by rw [e18]; exact (Nat.le_refl _)) (v := some (.int (1 : Int32))) (fun h => by rw [Bd.returns] at h; cases h)
  refine ⟨_, _, pre0 _ ?_, hrun, hended, _, _, rfl, ?_, hw1, hw2, hw3, hw4.mono (by decide) (by decide)⟩
  · show Steps p.tables e below (s₁.setTop (mkF m 0 #[vI p1, vI p2, vI p3, vU, vU, vU, vU, vU, vU, vU, vU, vU, vU, vU, vU, vU] [])) _
    refine XS.iloadN X0.here hx rfl (hb hby at_0) rfl ?_
    refine XS.iconst X0.here hx rfl (hb hby at_1) ?_
    refine XS.iand X0.here hx rfl (hb hby at_2) rfl ?_
    show Steps p.tables e below (s₁.setTop (mkF m 3 #[vI p1, vI p2, vI p3, vU, vU, vU, vU, vU, vU, vU, vU, vU, vU, vU, vU, vU] [(.int (p1 &&& (1 : Int32)))])) _
    have J3 : ∀ target, Steps p.tables e below (s₁.setTop (mkF m 11 #[vI p1, vI p2, vI p3, vU, vU, vU, vU, vU, vU, vU, vU, vU, vU, vU, vU, vU] [(.int (t0_0 p1))])) target → Steps p.tables e below (s₁.setTop (mkF m 3 #[vI p1, vI p2, vI p3, vU, vU, vU, vU, vU, vU, vU, vU, vU, vU, vU, vU, vU] [(.int (p1 &&& (1 : Int32)))])) target := by
      intro target kt
      by_cases hm3 : (p1 &&& (1 : Int32)) = (0 : Int32)
      · skip
        show Steps p.tables e below (s₁.setTop (mkF m 3 #[vI p1, vI p2, vI p3, vU, vU, vU, vU, vU, vU, vU, vU, vU, vU, vU, vU, vU] [(.int (p1 &&& (1 : Int32)))])) _
        refine XS.ifYes X0.here hx rfl (pc0 := 3) (pc' := 10) rfl (hb hby at_3) rfl ((if0 _ _).trans (teq hm3).1) (by decide) (by decide) ?_
        refine XS.iconst X0.here hx rfl (hb hby at_10) ?_
        rw [show (t0_0 p1) = (0 : Int32) from if_pos hm3] at kt
        exact kt
      · skip
        show Steps p.tables e below (s₁.setTop (mkF m 3 #[vI p1, vI p2, vI p3, vU, vU, vU, vU, vU, vU, vU, vU, vU, vU, vU, vU, vU] [(.int (p1 &&& (1 : Int32)))])) _
        refine XS.ifNo X0.here hx rfl (hb hby at_3) rfl ((if0 _ _).trans (feq hm3).1) ?_
        refine XS.iconst X0.here hx rfl (hb hby at_6) ?_
        show Steps p.tables e below (s₁.setTop (mkF m 7 #[vI p1, vI p2, vI p3, vU, vU, vU, vU, vU, vU, vU, vU, vU, vU, vU, vU, vU] [(.int (1 : Int32))])) _
        refine XS.goto X0.here hx rfl (pc0 := 7) (pc' := 11) rfl (hb hby at_7) (by decide) (by decide) ?_
        rw [show (t0_0 p1) = (1 : Int32) from if_neg hm3] at kt
        exact kt
    refine J3 _ ?_
    refine XS.istoreN X0.here hx rfl (hb hby at_11) rfl (l' := #[vI p1, vI p2, vI p3, vI (t0_0 p1), vU, vU, vU, vU, vU, vU, vU, vU, vU, vU, vU, vU]) rfl ?_
    refine XS.iloadN X0.here hx rfl (hb hby at_12) rfl ?_
    refine XS.iconst X0.here hx rfl (hb hby at_13) ?_
    refine XS.iand X0.here hx rfl (hb hby at_14) rfl ?_
    show Steps p.tables e below (s₁.setTop (mkF m 15 #[vI p1, vI p2, vI p3, vI (t0_0 p1), vU, vU, vU, vU, vU, vU, vU, vU, vU, vU, vU, vU] [(.int (p1 &&& (2 : Int32)))])) _
    refine XS.ifNo X0.here hx rfl (hb hby at_15) rfl ((if0 _ _).trans (feq hc15).1) ?_
    refine XS.iconst X0.here hx rfl (hb hby at_18) ?_
    show Steps p.tables e below (s₁.setTop (mkF m 19 #[vI p1, vI p2, vI p3, vI (t0_0 p1), vU, vU, vU, vU, vU, vU, vU, vU, vU, vU, vU, vU] [(.int (1 : Int32))])) _
    refine XS.goto X0.here hx rfl (pc0 := 19) (pc' := 23) rfl (hb hby at_19) (by decide) (by decide) ?_
    refine XS.istore X0.here hx rfl (hb hby at_23) rfl (l' := #[vI p1, vI p2, vI p3, vI (t0_0 p1), vI (1 : Int32), vU, vU, vU, vU, vU, vU, vU, vU, vU, vU, vU]) rfl ?_
    refine XS.iloadN X0.here hx rfl (hb hby at_25) rfl ?_
    refine XS.iconst X0.here hx rfl (hb hby at_26) ?_
    refine XS.iushr X0.here hx rfl (hb hby at_27) rfl ?_
    refine XS.iconst X0.here hx rfl (hb hby at_28) ?_
    refine XS.iand X0.here hx rfl (hb hby at_29) rfl ?_
    refine XS.iconst X0.here hx rfl (hb hby at_30) ?_
    refine XS.irem X0.here hx rfl (hb hby at_31) rfl (by decide) ?_
    refine XS.istore X0.here hx rfl (hb hby at_32) rfl (l' := #[vI p1, vI p2, vI p3, vI (t0_0 p1), vI (1 : Int32), vI (t0_2 p1), vU, vU, vU, vU, vU, vU, vU, vU, vU, vU]) rfl ?_
    refine XS.iloadN X0.here hx rfl (hb hby at_34) rfl ?_
    refine XS.bipush X0.here hx rfl (hb hby at_35) ?_
    refine XS.iand X0.here hx rfl (hb hby at_37) rfl ?_
    show Steps p.tables e below (s₁.setTop (mkF m 38 #[vI p1, vI p2, vI p3, vI (t0_0 p1), vI (1 : Int32), vI (t0_2 p1), vU, vU, vU, vU, vU, vU, vU, vU, vU, vU] [(.int (p1 &&& (16 : Int32)))])) _
    refine XS.ifYes X0.here hx rfl (pc0 := 38) (pc' := 45) rfl (hb hby at_38) rfl ((if0 _ _).trans (teq hc38).1) (by decide) (by decide) ?_
    refine XS.iconst X0.here hx rfl (hb hby at_45) ?_
    refine XS.istore X0.here hx rfl (hb hby at_46) rfl (l' := #[vI p1, vI p2, vI p3, vI (t0_0 p1), vI (1 : Int32), vI (t0_2 p1), vI (0 : Int32), vU, vU, vU, vU, vU, vU, vU, vU, vU]) rfl ?_
    show Steps p.tables e below (s₁.setTop (mkF m 48 #[vI p1, vI p2, vI p3, vI (t0_0 p1), vI (1 : Int32), vI (t0_2 p1), vI (0 : Int32), vU, vU, vU, vU, vU, vU, vU, vU, vU] [])) _
    refine st4 _ ?_
    refine XS.dup X4.here hx rfl (hb hby at_51) rfl rfl ?_
    refine XS.iconst X4.here hx rfl (hb hby at_52) ?_
    show Steps p.tables e below (T4.setTop (mkF m 53 #[vI p1, vI p2, vI p3, vI (t0_0 p1), vI (1 : Int32), vI (t0_2 p1), vI (0 : Int32), vU, vU, vU, vU, vU, vU, vU, vU, vU] [(.int (2 : Int32)), (.ref b4), (.ref b4)])) _
    refine st5 _ ?_
    refine XS.dup X5.here hx rfl (hb hby at_55) rfl rfl ?_
    refine XS.iconst X5.here hx rfl (hb hby at_56) ?_
    refine XS.iloadN X5.here hx rfl (hb hby at_57) rfl ?_
    refine XS.sipush X5.here hx rfl (hb hby at_58) ?_
    refine XS.iand X5.here hx rfl (hb hby at_61) rfl ?_
    refine XS.i2c X5.here hx rfl (hb hby at_62) rfl ?_
    show Steps p.tables e below (T5.setTop (mkF m 63 #[vI p1, vI p2, vI p3, vI (t0_0 p1), vI (1 : Int32), vI (t0_2 p1), vI (0 : Int32), vU, vU, vU, vU, vU, vU, vU, vU, vU] [(.int (t0_3 p2)), (.int (0 : Int32)), (.ref b5), (.ref b5), (.ref b4), (.ref b4)])) _
    refine st6 _ ?_
    refine XS.dup X6.here hx rfl (hb hby at_64) rfl rfl ?_
    refine XS.iconst X6.here hx rfl (hb hby at_65) ?_
    refine XS.iloadN X6.here hx rfl (hb hby at_66) rfl ?_
    refine XS.bipush X6.here hx rfl (hb hby at_67) ?_
    refine XS.iushr X6.here hx rfl (hb hby at_69) rfl ?_
    refine XS.sipush X6.here hx rfl (hb hby at_70) ?_
    refine XS.iand X6.here hx rfl (hb hby at_73) rfl ?_
    refine XS.i2c X6.here hx rfl (hb hby at_74) rfl ?_
    show Steps p.tables e below (T6.setTop (mkF m 75 #[vI p1, vI p2, vI p3, vI (t0_0 p1), vI (1 : Int32), vI (t0_2 p1), vI (0 : Int32), vU, vU, vU, vU, vU, vU, vU, vU, vU] [(.int (t0_5 p2)), (.int (1 : Int32)), (.ref b5), (.ref b5), (.ref b4), (.ref b4)])) _
    refine st7 _ ?_
    show Steps p.tables e below (T7.setTop (mkF m 76 #[vI p1, vI p2, vI p3, vI (t0_0 p1), vI (1 : Int32), vI (t0_2 p1), vI (0 : Int32), vU, vU, vU, vU, vU, vU, vU, vU, vU] [(.ref b5), (.ref b4), (.ref b4)])) _
    refine st8.trans ?_
    refine XS.astore X8.here hx rfl (hb hby at_79) rfl rfl (l' := #[vI p1, vI p2, vI p3, vI (t0_0 p1), vI (1 : Int32), vI (t0_2 p1), vI (0 : Int32), vA b4, vU, vU, vU, vU, vU, vU, vU, vU]) rfl ?_
    refine XS.iloadN X8.here hx rfl (hb hby at_81) rfl ?_
    refine XS.bipush X8.here hx rfl (hb hby at_82) ?_
    refine XS.iushr X8.here hx rfl (hb hby at_84) rfl ?_
    refine XS.sipush X8.here hx rfl (hb hby at_85) ?_
    refine XS.iand X8.here hx rfl (hb hby at_88) rfl ?_
    refine XS.i2c X8.here hx rfl (hb hby at_89) rfl ?_
    show Steps p.tables e below (T8.setTop (mkF m 90 #[vI p1, vI p2, vI p3, vI (t0_0 p1), vI (1 : Int32), vI (t0_2 p1), vI (0 : Int32), vA b4, vU, vU, vU, vU, vU, vU, vU, vU] [(.int (t0_7 p2))])) _
    refine st9 _ ?_
    refine XS.astore X9.here hx rfl (hb hby at_93) rfl rfl (l' := #[vI p1, vI p2, vI p3, vI (t0_0 p1), vI (1 : Int32), vI (t0_2 p1), vI (0 : Int32), vA b4, vA br_9, vU, vU, vU, vU, vU, vU, vU]) rfl ?_
    refine XS.iloadN X9.here hx rfl (hb hby at_95) rfl ?_
    show Steps p.tables e below (T9.setTop (mkF m 96 #[vI p1, vI p2, vI p3, vI (t0_0 p1), vI (1 : Int32), vI (t0_2 p1), vI (0 : Int32), vA b4, vA br_9, vU, vU, vU, vU, vU, vU, vU] [(.int p3)])) _
    refine st10.trans ?_
    refine XS.astore X10.here hx rfl (hb hby at_99) rfl rfl (l' := #[vI p1, vI p2, vI p3, vI (t0_0 p1), vI (1 : Int32), vI (t0_2 p1), vI (0 : Int32), vA b4, vA br_9, vA br_10, vU, vU, vU, vU, vU, vU]) rfl ?_
    refine XS.iloadN X10.here hx rfl (hb hby at_101) rfl ?_
    refine XS.bipush X10.here hx rfl (hb hby at_102) ?_
    refine XS.iushr X10.here hx rfl (hb hby at_104) rfl ?_
    show Steps p.tables e below (T10.setTop (mkF m 105 #[vI p1, vI p2, vI p3, vI (t0_0 p1), vI (1 : Int32), vI (t0_2 p1), vI (0 : Int32), vA b4, vA br_9, vA br_10, vU, vU, vU, vU, vU, vU] [(.int (t0_8 p3))])) _
    refine st11.trans ?_
    refine XS.astore X11.here hx rfl (hb hby at_108) rfl rfl (l' := #[vI p1, vI p2, vI p3, vI (t0_0 p1), vI (1 : Int32), vI (t0_2 p1), vI (0 : Int32), vA b4, vA br_9, vA br_10, vA br_11, vU, vU, vU, vU, vU]) rfl ?_
    refine XS.iload X11.here hx rfl (hb hby at_110) rfl ?_
    show Steps p.tables e below (T11.setTop (mkF m 112 #[vI p1, vI p2, vI p3, vI (t0_0 p1), vI (1 : Int32), vI (t0_2 p1), vI (0 : Int32), vA b4, vA br_9, vA br_10, vA br_11, vU, vU, vU, vU, vU] [(.int (1 : Int32))])) _
    refine XS.ifNo X11.here hx rfl (hb hby at_112) rfl ((if0 _ _).trans (feq (by decide : ¬ ((1 : Int32) = (0 : Int32)))).1) ?_
    refine XS.aload X11.here hx rfl (hb hby at_115) rfl rfl ?_
    show Steps p.tables e below (T11.setTop (mkF m 117 #[vI p1, vI p2, vI p3, vI (t0_0 p1), vI (1 : Int32), vI (t0_2 p1), vI (0 : Int32), vA b4, vA br_9, vA br_10, vA br_11, vU, vU, vU, vU, vU] [(.ref br_10)])) _
    refine st12 _ ?_
    show Steps p.tables e below (T12.setTop (mkF m 120 #[vI p1, vI p2, vI p3, vI (t0_0 p1), vI (1 : Int32), vI (t0_2 p1), vI (0 : Int32), vA b4, vA br_9, vA br_10, vA br_11, vU, vU, vU, vU, vU] [(.ref b2_12)])) _
    refine XS.goto X12.here hx rfl (pc0 := 120) (pc' := 126) rfl (hb hby at_120) (by decide) (by decide) ?_
    refine XS.astore X12.here hx rfl (hb hby at_126) rfl rfl (l' := #[vI p1, vI p2, vI p3, vI (t0_0 p1), vI (1 : Int32), vI (t0_2 p1), vI (0 : Int32), vA b4, vA br_9, vA br_10, vA br_11, vA b2_12, vU, vU, vU, vU]) rfl ?_
    refine XS.iload X12.here hx rfl (hb hby at_128) rfl ?_
    show Steps p.tables e below (T12.setTop (mkF m 130 #[vI p1, vI p2, vI p3, vI (t0_0 p1), vI (1 : Int32), vI (t0_2 p1), vI (0 : Int32), vA b4, vA br_9, vA br_10, vA br_11, vA b2_12, vU, vU, vU, vU] [(.int (t0_2 p1))])) _
    refine XS.ifYes X12.here hx rfl (pc0 := 130) (pc' := 141) rfl (hb hby at_130) rfl ((if0 _ _).trans (feq hc130).2) (by decide) (by decide) ?_
    refine XS.iload X12.here hx rfl (hb hby at_141) rfl ?_
    refine XS.iconst X12.here hx rfl (hb hby at_143) ?_
    show Steps p.tables e below (T12.setTop (mkF m 144 #[vI p1, vI p2, vI p3, vI (t0_0 p1), vI (1 : Int32), vI (t0_2 p1), vI (0 : Int32), vA b4, vA br_9, vA br_10, vA br_11, vA b2_12, vU, vU, vU, vU] [(.int (1 : Int32)), (.int (t0_2 p1))])) _
    refine XS.icmpYes X12.here hx rfl (pc0 := 144) (pc' := 158) rfl (hb hby at_144) rfl (feq hc144).2 (by decide) (by decide) ?_
    show Steps p.tables e below (T12.setTop (mkF m 158 #[vI p1, vI p2, vI p3, vI (t0_0 p1), vI (1 : Int32), vI (t0_2 p1), vI (0 : Int32), vA b4, vA br_9, vA br_10, vA br_11, vA b2_12, vU, vU, vU, vU] [])) _
    refine st13 _ ?_
    show Steps p.tables e below (T13.setTop (mkF m 161 #[vI p1, vI p2, vI p3, vI (t0_0 p1), vI (1 : Int32), vI (t0_2 p1), vI (0 : Int32), vA b4, vA br_9, vA br_10, vA br_11, vA b2_12, vU, vU, vU, vU] [(.ref s_BY_DEFAULT)])) _
    refine st14 _ ?_
    refine XS.astore X14.here hx rfl (hb hby at_164) rfl rfl (l' := #[vI p1, vI p2, vI p3, vI (t0_0 p1), vI (1 : Int32), vI (t0_2 p1), vI (0 : Int32), vA b4, vA br_9, vA br_10, vA br_11, vA b2_12, vA b2_14, vU, vU, vU]) rfl ?_
    refine XS.iload X14.here hx rfl (hb hby at_166) rfl ?_
    show Steps p.tables e below (T14.setTop (mkF m 168 #[vI p1, vI p2, vI p3, vI (t0_0 p1), vI (1 : Int32), vI (t0_2 p1), vI (0 : Int32), vA b4, vA br_9, vA br_10, vA br_11, vA b2_12, vA b2_14, vU, vU, vU] [(.int (0 : Int32))])) _
    refine XS.ifYes X14.here hx rfl (pc0 := 168) (pc' := 179) rfl (hb hby at_168) rfl ((if0 _ _).trans (teq (rfl : (0 : Int32) = (0 : Int32))).1) (by decide) (by decide) ?_
    show Steps p.tables e below (T14.setTop (mkF m 179 #[vI p1, vI p2, vI p3, vI (t0_0 p1), vI (1 : Int32), vI (t0_2 p1), vI (0 : Int32), vA b4, vA br_9, vA br_10, vA br_11, vA b2_12, vA b2_14, vU, vU, vU] [])) _
    refine st15 _ ?_
    refine XS.astore X15.here hx rfl (hb hby at_182) rfl rfl (l' := #[vI p1, vI p2, vI p3, vI (t0_0 p1), vI (1 : Int32), vI (t0_2 p1), vI (0 : Int32), vA b4, vA br_9, vA br_10, vA br_11, vA b2_12, vA b2_14, vA s_EMPTY, vU, vU]) rfl ?_
    show Steps p.tables e below (T15.setTop (mkF m 184 #[vI p1, vI p2, vI p3, vI (t0_0 p1), vI (1 : Int32), vI (t0_2 p1), vI (0 : Int32), vA b4, vA br_9, vA br_10, vA br_11, vA b2_12, vA b2_14, vA s_EMPTY, vU, vU] [])) _
    refine st16 _ ?_
    refine XS.dup X16.here hx rfl (hb hby at_187) rfl rfl ?_
    refine XS.aload X16.here hx rfl (hb hby at_188) rfl rfl ?_
    refine XS.aload X16.here hx rfl (hb hby at_190) rfl rfl ?_
    refine XS.iloadN X16.here hx rfl (hb hby at_192) rfl ?_
    refine XS.aload X16.here hx rfl (hb hby at_193) rfl rfl ?_
    refine XS.aload X16.here hx rfl (hb hby at_195) rfl rfl ?_
    refine XS.aload X16.here hx rfl (hb hby at_197) rfl rfl ?_
    show Steps p.tables e below (T16.setTop (mkF m 199 #[vI p1, vI p2, vI p3, vI (t0_0 p1), vI (1 : Int32), vI (t0_2 p1), vI (0 : Int32), vA b4, vA br_9, vA br_10, vA br_11, vA b2_12, vA b2_14, vA s_EMPTY, vU, vU] [(.ref s_EMPTY), (.ref b2_14), (.ref b2_12), (.int (t0_0 p1)), (.ref br_9), (.ref b4), (.ref b16), (.ref b16)])) _
    refine st17.trans ?_
    refine XS.astore X17.here hx rfl (hb hby at_202) rfl rfl (l' := #[vI p1, vI p2, vI p3, vI (t0_0 p1), vI (1 : Int32), vI (t0_2 p1), vI (0 : Int32), vA b4, vA br_9, vA br_10, vA br_11, vA b2_12, vA b2_14, vA s_EMPTY, vA b16, vU]) rfl ?_
    refine XS.iconst X17.here hx rfl (hb hby at_204) ?_
    refine XS.istore X17.here hx rfl (hb hby at_205) rfl (l' := #[vI p1, vI p2, vI p3, vI (t0_0 p1), vI (1 : Int32), vI (t0_2 p1), vI (0 : Int32), vA b4, vA br_9, vA br_10, vA br_11, vA b2_12, vA b2_14, vA s_EMPTY, vA b16, vI (1 : Int32)]) rfl ?_
    refine XS.iloadN X17.here hx rfl (hb hby at_207) rfl ?_
    show Steps p.tables e below (T17.setTop (mkF m 208 #[vI p1, vI p2, vI p3, vI (t0_0 p1), vI (1 : Int32), vI (t0_2 p1), vI (0 : Int32), vA b4, vA br_9, vA br_10, vA br_11, vA b2_12, vA b2_14, vA s_EMPTY, vA b16, vI (1 : Int32)] [(.int (t0_0 p1))])) _
    have J208 : ∀ target, Steps p.tables e below (T17.setTop (mkF m 214 #[vI p1, vI p2, vI p3, vI (t0_0 p1), vI (1 : Int32), vI (t0_2 p1), vI (0 : Int32), vA b4, vA br_9, vA br_10, vA br_11, vA b2_12, vA b2_14, vA s_EMPTY, vA b16, vI (t0_9 p1)] [])) target → Steps p.tables e below (T17.setTop (mkF m 208 #[vI p1, vI p2, vI p3, vI (t0_0 p1), vI (1 : Int32), vI (t0_2 p1), vI (0 : Int32), vA b4, vA br_9, vA br_10, vA br_11, vA b2_12, vA b2_14, vA s_EMPTY, vA b16, vI (1 : Int32)] [(.int (t0_0 p1))])) target := by
      intro target kt
      by_cases hm208 : (t0_0 p1) = (0 : Int32)
      · skip
        show Steps p.tables e below (T17.setTop (mkF m 208 #[vI p1, vI p2, vI p3, vI (t0_0 p1), vI (1 : Int32), vI (t0_2 p1), vI (0 : Int32), vA b4, vA br_9, vA br_10, vA br_11, vA b2_12, vA b2_14, vA s_EMPTY, vA b16, vI (1 : Int32)] [(.int (t0_0 p1))])) _
        refine XS.ifYes X17.here hx rfl (pc0 := 208) (pc' := 214) rfl (hb hby at_208) rfl ((if0 _ _).trans (teq hm208).1) (by decide) (by decide) ?_
        rw [show (t0_9 p1) = (1 : Int32) from if_pos hm208] at kt
        exact kt
      · skip
        show Steps p.tables e below (T17.setTop (mkF m 208 #[vI p1, vI p2, vI p3, vI (t0_0 p1), vI (1 : Int32), vI (t0_2 p1), vI (0 : Int32), vA b4, vA br_9, vA br_10, vA br_11, vA b2_12, vA b2_14, vA s_EMPTY, vA b16, vI (1 : Int32)] [(.int (t0_0 p1))])) _
        refine XS.ifNo X17.here hx rfl (hb hby at_208) rfl ((if0 _ _).trans (feq hm208).1) ?_
        refine XS.iconst X17.here hx rfl (hb hby at_211) ?_
        refine XS.istore X17.here hx rfl (hb hby at_212) rfl (l' := #[vI p1, vI p2, vI p3, vI (t0_0 p1), vI (1 : Int32), vI (t0_2 p1), vI (0 : Int32), vA b4, vA br_9, vA br_10, vA br_11, vA b2_12, vA b2_14, vA s_EMPTY, vA b16, vI (0 : Int32)]) rfl ?_
        rw [show (t0_9 p1) = (0 : Int32) from if_neg hm208] at kt
        exact kt
    refine J208 _ ?_
    refine XS.iload X17.here hx rfl (hb hby at_214) rfl ?_
    show Steps p.tables e below (T17.setTop (mkF m 216 #[vI p1, vI p2, vI p3, vI (t0_0 p1), vI (1 : Int32), vI (t0_2 p1), vI (0 : Int32), vA b4, vA br_9, vA br_10, vA br_11, vA b2_12, vA b2_14, vA s_EMPTY, vA b16, vI (t0_9 p1)] [(.int (1 : Int32))])) _
    refine XS.ifNo X17.here hx rfl (hb hby at_216) rfl ((if0 _ _).trans (feq (by decide : ¬ ((1 : Int32) = (0 : Int32)))).1) ?_
    refine XS.iconst X17.here hx rfl (hb hby at_219) ?_
    refine XS.istore X17.here hx rfl (hb hby at_220) rfl (l' := #[vI p1, vI p2, vI p3, vI (t0_0 p1), vI (1 : Int32), vI (t0_2 p1), vI (0 : Int32), vA b4, vA br_9, vA br_10, vA br_11, vA b2_12, vA b2_14, vA s_EMPTY, vA b16, vI (0 : Int32)]) rfl ?_
    refine XS.iload X17.here hx rfl (hb hby at_222) rfl ?_
    show Steps p.tables e below (T17.setTop (mkF m 224 #[vI p1, vI p2, vI p3, vI (t0_0 p1), vI (1 : Int32), vI (t0_2 p1), vI (0 : Int32), vA b4, vA br_9, vA br_10, vA br_11, vA b2_12, vA b2_14, vA s_EMPTY, vA b16, vI (0 : Int32)] [(.int (t0_2 p1))])) _
    refine XS.ifNo X17.here hx rfl (hb hby at_224) rfl ((if0 _ _).trans (feq hc130).1) ?_
    refine XS.iconst X17.here hx rfl (hb hby at_227) ?_
    refine XS.istore X17.here hx rfl (hb hby at_228) rfl (l' := #[vI p1, vI p2, vI p3, vI (t0_0 p1), vI (1 : Int32), vI (t0_2 p1), vI (0 : Int32), vA b4, vA br_9, vA br_10, vA br_11, vA b2_12, vA b2_14, vA s_EMPTY, vA b16, vI (0 : Int32)]) rfl ?_
    refine XS.iload X17.here hx rfl (hb hby at_230) rfl ?_
    show Steps p.tables e below (T17.setTop (mkF m 232 #[vI p1, vI p2, vI p3, vI (t0_0 p1), vI (1 : Int32), vI (t0_2 p1), vI (0 : Int32), vA b4, vA br_9, vA br_10, vA br_11, vA b2_12, vA b2_14, vA s_EMPTY, vA b16, vI (0 : Int32)] [(.int (0 : Int32))])) _
    refine XS.ifYes X17.here hx rfl (pc0 := 232) (pc' := 238) rfl (hb hby at_232) rfl ((if0 _ _).trans (teq (rfl : (0 : Int32) = (0 : Int32))).1) (by decide) (by decide) ?_
    refine XS.aload X17.here hx rfl (hb hby at_238) rfl rfl ?_
    show Steps p.tables e below (T17.setTop (mkF m 240 #[vI p1, vI p2, vI p3, vI (t0_0 p1), vI (1 : Int32), vI (t0_2 p1), vI (0 : Int32), vA b4, vA br_9, vA br_10, vA br_11, vA b2_12, vA b2_14, vA s_EMPTY, vA b16, vI (0 : Int32)] [(.ref b16)])) _
    refine st18.trans ?_
    refine XS.iload X18.here hx rfl (hb hby at_243) rfl ?_
    show Steps p.tables e below (T18.setTop (mkF m 245 #[vI p1, vI p2, vI p3, vI (t0_0 p1), vI (1 : Int32), vI (t0_2 p1), vI (0 : Int32), vA b4, vA br_9, vA br_10, vA br_11, vA b2_12, vA b2_14, vA s_EMPTY, vA b16, vI (0 : Int32)] [(.int (0 : Int32)), (.int (0 : Int32))])) _
    refine XS.icmpNo X18.here hx rfl (hb hby at_245) rfl (teq (rfl : (0 : Int32) = (0 : Int32))).2 ?_
    refine XS.iconst X18.here hx rfl (hb hby at_248) ?_
    show Steps p.tables e below (T18.setTop (mkF m 249 #[vI p1, vI p2, vI p3, vI (t0_0 p1), vI (1 : Int32), vI (t0_2 p1), vI (0 : Int32), vA b4, vA br_9, vA br_10, vA br_11, vA b2_12, vA b2_14, vA s_EMPTY, vA b16, vI (0 : Int32)] [(.int (1 : Int32))])) _
    refine XS.goto X18.here hx rfl (pc0 := 249) (pc' := 253) rfl (hb hby at_249) (by decide) (by decide) ?_
    show Steps p.tables e below (T18.setTop (mkF m 253 #[vI p1, vI p2, vI p3, vI (t0_0 p1), vI (1 : Int32), vI (t0_2 p1), vI (0 : Int32), vA b4, vA br_9, vA br_10, vA br_11, vA b2_12, vA b2_14, vA s_EMPTY, vA b16, vI (0 : Int32)] [(.int (1 : Int32))])) _
    exact retN X18 hx (t := .boolean) Bd.returns (by simp) (hb hby at_253) hr
  · show Q_rm0 Z p1 p2 p3 s_COMPACT_STRINGS s_EMPTY s_ALWAYS s_BY_DEFAULT h0 n0 _ T18.heap _
    exact ⟨rfl, N18⟩
set_option maxRecDepth 65536 in
set_option maxHeartbeats 40000000 in
theorem rm0_tff (l : Launch) (Z : State) (a0 : Array Value) (hw : ∀ d ∈ tables_1, d.before a0 Z = true) (ws : List Jvm.Cond) (p1 : Int32) (p2 : Int32) (p3 : Int32) (s_COMPACT_STRINGS : Int32) (s_EMPTY : Addr) (s_ALWAYS : Addr) (s_BY_DEFAULT : Addr) (h0 : Heap) (n0 : Nat) (Z0 : n0 ≤ h0.size) (hcs : ¬ (s_COMPACT_STRINGS = (0 : Int32))) (S_COMPACT_STRINGS : Sta Z h0 "java/lang/String" "COMPACT_STRINGS" "Z" (.int s_COMPACT_STRINGS)) (S_EMPTY : Sta Z h0 "java/util/Optional" "EMPTY" "Ljava/util/Optional;" (.ref s_EMPTY)) (S_ALWAYS : Sta Z h0 "underdeck/deck/Column$Identity" "ALWAYS" "Lunderdeck/deck/Column$Identity;" (.ref s_ALWAYS)) (S_BY_DEFAULT : Sta Z h0 "underdeck/deck/Column$Identity" "BY_DEFAULT" "Lunderdeck/deck/Column$Identity;" (.ref s_BY_DEFAULT)) (F_value_s_EMPTY : Fld Z h0 s_EMPTY "java/util/Optional" "value" "Ljava/lang/Object;" .null) (E_s_EMPTY : Exa Z h0 s_EMPTY "java/util/Optional") (hc15 : (p1 &&& (2 : Int32)) = (0 : Int32)) (hc38 : ¬ ((p1 &&& (16 : Int32)) = (0 : Int32))) (hc130 : (t0_2 p1) = (0 : Int32)) :
    MetFree l x (head1 (Jvm.Cond.code x code maxLocals ret :: ws) room_1) (fun a U => a = #[(.int p1), (.int p2), (.int p3)] ∧ Z.Warmed39 U.vm ∧ U.heap = h0) (fun _ _ _ _ _ => True) (fun _ U o U' => ∃ v L, o = .returned v ∧ Q_rm0 Z p1 p2 p3 s_COMPACT_STRINGS s_EMPTY s_ALWAYS s_BY_DEFAULT h0 n0 v U'.heap L ∧ ReturnedEndW U o U' L room_1.cells room_1.slots) := by
  have hi : ∀ (i : Nat) {d : Jvm.Cond}, tables_1[i]? = some d → d.before a0 Z = true := fun i d h => hw d (List.mem_of_getElem? h)
  refine MetFree.of_bodySF (plainFor_of_name pn_0) hisR ?_
  intro p e s m args below meth c s₁ Bd hml0 hP hK
  obtain ⟨rfl, hZ, hh⟩ := hP
  have hx := Bd.exec
  have hby := Bd.bytes
  have hml : c.maxLocals = 16 := hml0
  have hown : s.vm.findClass "underdeck/deck/ColumnRequiredPinLaw" = some m.cls := findClass_of_methodNamed Bd.named
  have hnm := (name_of_methodNamed Bd.named Bd.method).1
  have X0 : Stand p l e room_1 (s.setVm s.vm) m #[(.int p1), (.int p2), (.int p3)] below meth c s₁ [] 0 0 := Stand.of_body Bd
  have e0 : s₁.heap = h0 := by rw [← hh, Bd.state]; rfl
  have N0 := Fr.nil n0
  have pre0 : ∀ t, Steps p.tables e below (s₁.setTop (mkF m 0 #[vI p1, vI p2, vI p3, vU, vU, vU, vU, vU, vU, vU, vU, vU, vU, vU, vU, vU] [])) t → Steps p.tables e below (s₁.setTop (entryFrame m #[(.int p1), (.int p2), (.int p3)] maxLocals)) t := fun t k => castTop (ef_0 m p1 p2 p3) k
  have hS0 : s.Since s.vm h0.size := (State.WarmedH.refl s).since _
  obtain ⟨T4, h4, X4, e4, E4, A4, D4, -, st4⟩ := newO X0 hx hZ hown (hi 0 rfl) (hi 1 rfl) (hi 2 rfl) e0 (g := (mkF m 48 #[vI p1, vI p2, vI p3, vI (t0_0 p1), vI (0 : Int32), vI (t0_2 p1), vI (1 : Int32), vU, vU, vU, vU, vU, vU, vU, vU, vU] [])) rfl (hb hby at_48) (by decide) (by decide)
  obtain ⟨b4, g4⟩ : ∃ z, z = h0.size := ⟨_, rfl⟩
  rw [← g4] at A4 D4 st4
  have g_b4 : n0 ≤ b4 := Nat.le_trans Z0 (Nat.le_of_eq g4.symm)
  have sz_b4 : h0.size ≤ b4 := Nat.le_trans (Nat.le_refl h0.size) (Nat.le_of_eq g4.symm)
  have F_coder_b4 : Fld Z h4 b4 "java/lang/String" "coder" "B" (.int (0 : Int32)) := D4 (Or.inr (hi 27 rfl)) (ty := .byte) (by decide)
  have F_value_b4 : Fld Z h4 b4 "java/lang/String" "value" "[B" .null := D4 (Or.inr (hi 29 rfl)) (ty := (.array .byte)) (by decide)
  have f0 := (F_value_s_EMPTY.ext E4)
  obtain ⟨T5, h5, k5, X5, e5, E5, A5, st5⟩ := newP X4 hx hZ (hi 3 rfl) e4 (g := (mkF m 53 #[vI p1, vI p2, vI p3, vI (t0_0 p1), vI (0 : Int32), vI (t0_2 p1), vI (1 : Int32), vU, vU, vU, vU, vU, vU, vU, vU, vU] [(.int (2 : Int32)), (.ref b4), (.ref b4)])) rfl (hb hby at_53) rfl (by decide) (cap := 2) (by decide) (by decide) (by decide) (by decide)
  obtain ⟨b5, g5⟩ : ∃ z, z = h4.size := ⟨_, rfl⟩
  rw [← g5] at A5 st5
  have g_b5 : n0 ≤ b5 := Nat.le_trans (Nat.le_trans Z0 E4.1) (Nat.le_of_eq g5.symm)
  have sz_b5 : h0.size ≤ b5 := Nat.le_trans (Nat.le_trans (Nat.le_refl h0.size) E4.1) (Nat.le_of_eq g5.symm)
  have V_b5 : Arv Z h5 b5 k5 .char (2 : Int32) [(.int (0 : Int32)), (.int (0 : Int32))] (.int (0 : Int32)) := (Arv.new A5 (by decide)).pad (pad_rep [] (.int (0 : Int32)) 2)
  obtain ⟨cl_b5_1, Ar_b5_1, q_b5_1, Sz_b5_1, Ng_b5_1, Ha_b5_1, Gt_b5_1⟩ := id V_b5
  have hin_b5_1 : ¬ ((0 : Int32) < 0 ∨ cl_b5_1.slots.size ≤ ((0 : Int32)).toNatClampNeg) := inb_of Sz_b5_1 ⟨by decide, by decide⟩
  obtain ⟨T6, h6, X6, e6, W6, st6⟩ := stC X5 hx hZ e5 Ar_b5_1 (j := (0 : Int32)) hin_b5_1 (g := (mkF m 63 #[vI p1, vI p2, vI p3, vI (t0_0 p1), vI (0 : Int32), vI (t0_2 p1), vI (1 : Int32), vU, vU, vU, vU, vU, vU, vU, vU, vU] [(.int (t0_3 p2)), (.int (0 : Int32)), (.ref b5), (.ref b5), (.ref b4), (.ref b4)])) rfl rfl (hb hby at_63)
  have V6 : Arv Z h6 b5 k5 .char (2 : Int32) [(.int (nar .char (t0_3 p2))), (.int (0 : Int32))] (.int (0 : Int32)) := Arv.set Ar_b5_1 q_b5_1 Sz_b5_1 Ng_b5_1 Ha_b5_1 Gt_b5_1 (fits_nar_char _) W6 0 rfl (Nat.le_of_ble_eq_true rfl)
  have N6 := Fr.snoc X6 N0 g_b5
  obtain ⟨cl_b5_2, Ar_b5_2, q_b5_2, Sz_b5_2, Ng_b5_2, Ha_b5_2, Gt_b5_2⟩ := id V6
  have hin_b5_2 : ¬ ((1 : Int32) < 0 ∨ cl_b5_2.slots.size ≤ ((1 : Int32)).toNatClampNeg) := inb_of Sz_b5_2 ⟨by decide, by decide⟩
  obtain ⟨T7, h7, X7, e7, W7, st7⟩ := stC X6 hx hZ e6 Ar_b5_2 (j := (1 : Int32)) hin_b5_2 (g := (mkF m 75 #[vI p1, vI p2, vI p3, vI (t0_0 p1), vI (0 : Int32), vI (t0_2 p1), vI (1 : Int32), vU, vU, vU, vU, vU, vU, vU, vU, vU] [(.int (t0_5 p2)), (.int (1 : Int32)), (.ref b5), (.ref b5), (.ref b4), (.ref b4)])) rfl rfl (hb hby at_75)
  have V7 : Arv Z h7 b5 k5 .char (2 : Int32) [(.int (nar .char (t0_3 p2))), (.int (nar .char (t0_5 p2)))] (.int (0 : Int32)) := Arv.set Ar_b5_2 q_b5_2 Sz_b5_2 Ng_b5_2 Ha_b5_2 Gt_b5_2 (fits_nar_char _) W7 1 rfl (Nat.le_of_ble_eq_true rfl)
  have N7 := Fr.snoc X7 N6 g_b5
  have f3 := ((((S_COMPACT_STRINGS.ext E4).ext E5).wr W6).wr W7)
  have f4 := (((F_coder_b4.ext E5).other W6 (Or.inl (Nat.ne_of_lt (Nat.lt_of_lt_of_le A4.lt (Nat.le_of_eq g5.symm))))).other W7 (Or.inl (Nat.ne_of_lt (Nat.lt_of_lt_of_le A4.lt (Nat.le_of_eq g5.symm)))))
  have f5 := (((F_value_b4.ext E5).other W6 (Or.inl (Nat.ne_of_lt (Nat.lt_of_lt_of_le A4.lt (Nat.le_of_eq g5.symm))))).other W7 (Or.inl (Nat.ne_of_lt (Nat.lt_of_lt_of_le A4.lt (Nat.le_of_eq g5.symm)))))
  have f6 := (((A4.ext E5).wr W6).wr W7)
  obtain ⟨_, _, ⟨T8, L8, k8, n8⟩, -, X8, ⟨Lc8, hQ8, l8, y8, z8⟩, st8⟩ := X7.specialBack hx (y := (⟨"java/lang/String", "<init>", "([C)V"⟩ : MethodName)) rfl hown (mvT hZ (hi 4 rfl)) (mvT hZ (hi 5 rfl)) (mvT hZ (hi 6 rfl)) (by decide) (backOf (W := 1) (rm1 l Z a0 hw [] b4 b5 s_COMPACT_STRINGS (0 : Int32) .null k5 (nar .char (t0_3 p2)) (nar .char (t0_5 p2)) h7 n0 (Nat.le_trans (Nat.le_trans (Nat.le_trans (Nat.le_trans Z0 E4.1) E5.1) (Keep.of_wr W6).1) (Keep.of_wr W7).1) f3 f4 f5 f6 g_b4 V7 hcs (own_le255 _ (own_cc _ (own_cc _ (own_m255 _)))) (own_le255 _ (own_cc _ (own_cc _ (own_m255 _))))) hZ (hi 6 rfl) (hi 2 rfl) (by decide) (by decide)) (g := (mkF m 76 #[vI p1, vI p2, vI p3, vI (t0_0 p1), vI (0 : Int32), vI (t0_2 p1), vI (1 : Int32), vU, vU, vU, vU, vU, vU, vU, vU, vU] [(.ref b5), (.ref b4), (.ref b4)])) rfl (by rw [hml]; rfl) (Steps.refl _) (a := b4) (argsL := [(.ref b5)]) (rest := [(.ref b4)]) (lenOf pd__28_5bC_29V rfl) rfl (by show 2 * 0 + _ ≤ _; exact Nat.le_of_eq rfl) (hb hby at_76) (fun _ _ => ⟨rfl, e7, (by decide : 2 + 1 ≤ _), (by decide : 6 + 2 ≤ _)⟩)
  dsimp only [Pt.U, Pt.locs, Pt.cells, Pt.slots] at X8 l8 y8 z8 st8 hQ8
  subst l8 y8 z8
  obtain ⟨rfl, N8q, K8, i8_0, i8_1⟩ := hQ8
  have N8 := Fr.app N7 N8q
  have f7 := (own_sta_keep f3 K8 (own_qc (own_nst f6) own_q0))
  obtain ⟨_, _, ⟨T9, L9, k9, n9⟩, -, X9, ⟨Lc9, hQ9, l9, y9, z9⟩, st9⟩ := Jvm.LawKit.callS X8 hx (y := (⟨"java/lang/String", "valueOf", "(C)Ljava/lang/String;"⟩ : MethodName)) hown (mvT hZ (hi 30 rfl)) (mvT hZ (hi 31 rfl)) (mvT hZ (hi 2 rfl)) (mvT hZ (hi 32 rfl)) (by decide) (backOf (W := 0) (rm7 l Z a0 hw [] (t0_7 p2) s_COMPACT_STRINGS T8.heap n0 (Nat.le_trans (Nat.le_trans (Nat.le_trans (Nat.le_trans (Nat.le_trans Z0 E4.1) E5.1) (Keep.of_wr W6).1) (Keep.of_wr W7).1) K8.1) f7 hcs (own_F8 _ (own_cc _ (own_m255 _)))) hZ (hi 32 rfl) (hi 2 rfl) (by decide) (by decide)) (g := (mkF m 90 #[vI p1, vI p2, vI p3, vI (t0_0 p1), vI (0 : Int32), vI (t0_2 p1), vI (1 : Int32), vA b4, vU, vU, vU, vU, vU, vU, vU, vU] [(.int (t0_7 p2))])) rfl (by rw [hml]; rfl) (argsL := [(.int (t0_7 p2))]) (rest := []) (lenOf pd__28C_29Ljava_2flang_2fString_3b rfl) rfl (by show 2 * 0 + _ ≤ _; exact Nat.le_of_eq rfl) (hb hby at_90) (fun _ _ => ⟨rfl, rfl, (by decide : 3 + 2 ≤ _), (by decide : 8 + 5 ≤ _)⟩)
  dsimp only [Pt.U, Pt.locs, Pt.cells, Pt.slots] at X9 l9 y9 z9 st9 hQ9
  subst l9 y9 z9
  obtain ⟨br_9, ⟨rfl, N9q, K9⟩⟩ := hQ9
  have N9 := Fr.app N8 N9q
  have f8 := ((((f0.ext E5).other W6 (Or.inl (Nat.ne_of_lt (Nat.lt_of_lt_of_le f0.lt (Nat.le_of_eq g5.symm))))).other W7 (Or.inl (Nat.ne_of_lt (Nat.lt_of_lt_of_le f0.lt (Nat.le_of_eq g5.symm))))).keep K8 (own_nm (Nat.ne_of_lt (Nat.lt_of_lt_of_le F_value_s_EMPTY.lt (Nat.le_of_eq g4.symm))) own_n0))
  have f9 := (V7.keep K8 (own_nm (Ne.symm (Nat.ne_of_lt (Nat.lt_of_lt_of_le A4.lt (Nat.le_of_eq g5.symm)))) own_n0))
  have f10 := (own_sta_keep f7 K9 own_q0)
  obtain ⟨_, _, ⟨T10, L10, k10, n10⟩, -, X10w, hS10w, hg10, ⟨Lc10, hQ10, l10, y10, z10⟩, st10⟩ := Jvm.RoadKit.callSS X9 hx (y := (⟨"underdeck/deck/ColumnRequiredPinLaw", "drawn", "(I)Ljava/lang/String;"⟩ : MethodName)) hown (mvT hZ (hi 44 rfl)) (mvT hZ (hi 45 rfl)) (mvT hZ (hi 46 rfl)) (mvT hZ (hi 47 rfl)) (by decide) (backOfS (W := 0) (rm11 l Z a0 hw [] p3 s_COMPACT_STRINGS T9.heap n0 (Nat.le_trans (Nat.le_trans (Nat.le_trans (Nat.le_trans (Nat.le_trans (Nat.le_trans Z0 E4.1) E5.1) (Keep.of_wr W6).1) (Keep.of_wr W7).1) K8.1) K9.1) f10 hcs) hZ (hi 47 rfl) (hi 46 rfl) (by decide) (by decide)) (g := (mkF m 96 #[vI p1, vI p2, vI p3, vI (t0_0 p1), vI (0 : Int32), vI (t0_2 p1), vI (1 : Int32), vA b4, vA br_9, vU, vU, vU, vU, vU, vU, vU] [(.int p3)])) rfl (by rw [hml]; rfl) (argsL := [(.int p3)]) (rest := []) (lenOf pd__28I_29Ljava_2flang_2fString_3b rfl) rfl (by show 2 * 0 + _ ≤ _; exact Nat.le_of_eq rfl) (hb hby at_96) (fun _ _ => ⟨rfl, rfl, (by decide : 5 + 2 ≤ _), (by decide : 13 + 5 ≤ _)⟩)
  dsimp only [Pt.U, Pt.locs, Pt.cells, Pt.slots] at X10w hS10w hg10 l10 y10 z10 st10 hQ10
  subst l10 y10 z10
  obtain ⟨X10, hS10, hZ10, hown10⟩ := rebS hS0 (show _ ≤ T9.heap.size from by exact (Nat.le_trans (Nat.le_trans (Nat.le_trans (Nat.le_trans (Nat.le_trans (Nat.le_trans (Nat.le_refl h0.size) E4.1) E5.1) (Keep.of_wr W6).1) (Keep.of_wr W7).1) K8.1) K9.1)) X10w hS10w hg10 hZ hown
  obtain ⟨br_10, ⟨rfl, N10q, K10⟩⟩ := hQ10
  have N10 := Fr.app N9 N10q
  have f11 := (f8.keep K9 own_n0)
  have f12 := (i8_0.keep K9)
  have f13 := (f9.keep K9 own_n0)
  have f14 := (own_sta_keep f10 K10 own_q0)
  obtain ⟨_, _, ⟨T11, L11, k11, n11⟩, -, X11w, hS11w, hg11, ⟨Lc11, hQ11, l11, y11, z11⟩, st11⟩ := Jvm.RoadKit.callSS X10 hx (y := (⟨"underdeck/deck/ColumnRequiredPinLaw", "drawn", "(I)Ljava/lang/String;"⟩ : MethodName)) hown10 (mvT hZ10 (hi 44 rfl)) (mvT hZ10 (hi 45 rfl)) (mvT hZ10 (hi 46 rfl)) (mvT hZ10 (hi 47 rfl)) (by decide) (backOfS (W := 0) (rm11 l Z a0 hw [] (t0_8 p3) s_COMPACT_STRINGS T10.heap n0 (Nat.le_trans (Nat.le_trans (Nat.le_trans (Nat.le_trans (Nat.le_trans (Nat.le_trans (Nat.le_trans Z0 E4.1) E5.1) (Keep.of_wr W6).1) (Keep.of_wr W7).1) K8.1) K9.1) K10.1) f14 hcs) hZ10 (hi 47 rfl) (hi 46 rfl) (by decide) (by decide)) (g := (mkF m 105 #[vI p1, vI p2, vI p3, vI (t0_0 p1), vI (0 : Int32), vI (t0_2 p1), vI (1 : Int32), vA b4, vA br_9, vA br_10, vU, vU, vU, vU, vU, vU] [(.int (t0_8 p3))])) rfl (by rw [hml]; rfl) (argsL := [(.int (t0_8 p3))]) (rest := []) (lenOf pd__28I_29Ljava_2flang_2fString_3b rfl) rfl (by show 2 * 0 + _ ≤ _; exact Nat.le_of_eq rfl) (hb hby at_105) (fun _ _ => ⟨rfl, rfl, (by decide : 7 + 2 ≤ _), (by decide : 18 + 5 ≤ _)⟩)
  dsimp only [Pt.U, Pt.locs, Pt.cells, Pt.slots] at X11w hS11w hg11 l11 y11 z11 st11 hQ11
  subst l11 y11 z11
  obtain ⟨X11, hS11, hZ11, hown11⟩ := rebS hS10 (show _ ≤ T10.heap.size from by exact (Nat.le_refl _)) X11w hS11w hg11 hZ10 hown10
  obtain ⟨br_11, ⟨rfl, N11q, K11⟩⟩ := hQ11
  have N11 := Fr.app N10 N11q
  have f15 := (f11.keep K10 own_n0)
  have f16 := (f12.keep K10)
  have f17 := (f13.keep K10 own_n0)
  have f18 := (own_sta_keep (own_sta_keep (own_sta_keep (own_sta_keep ((((S_EMPTY.ext E4).ext E5).wr W6).wr W7) K8 (own_qc (own_nst f6) own_q0)) K9 own_q0) K10 own_q0) K11 own_q0)
  obtain ⟨_, _, ⟨T12, L12, k12, n12⟩, -, X12, ⟨Lc12, hQ12, l12, y12, z12⟩, st12⟩ := Jvm.LawKit.callS X11 hx (y := (⟨"java/util/Optional", "empty", "()Ljava/util/Optional;"⟩ : MethodName)) hown11 (mvT hZ11 (hi 51 rfl)) (mvT hZ11 (hi 52 rfl)) (mvT hZ11 (hi 53 rfl)) (mvT hZ11 (hi 54 rfl)) (by decide) (backOf (W := 0) (rm12 l Z a0 hw [] s_EMPTY T11.heap n0 (Nat.le_trans (Nat.le_trans (Nat.le_trans (Nat.le_trans (Nat.le_trans (Nat.le_trans (Nat.le_trans (Nat.le_trans Z0 E4.1) E5.1) (Keep.of_wr W6).1) (Keep.of_wr W7).1) K8.1) K9.1) K10.1) K11.1) f18) hZ11 (hi 54 rfl) (hi 53 rfl) (by decide) (by decide)) (g := (mkF m 123 #[vI p1, vI p2, vI p3, vI (t0_0 p1), vI (0 : Int32), vI (t0_2 p1), vI (1 : Int32), vA b4, vA br_9, vA br_10, vA br_11, vU, vU, vU, vU, vU] [])) rfl (by rw [hml]; rfl) (argsL := []) (rest := []) (lenOf pd__28_29Ljava_2futil_2fOptional_3b rfl) rfl (by show 2 * 0 + _ ≤ _; exact Nat.le_of_eq rfl) (hb hby at_123) (fun _ _ => ⟨rfl, rfl, (by decide : 9 + 0 ≤ _), (by decide : 23 + 0 ≤ _)⟩)
  dsimp only [Pt.U, Pt.locs, Pt.cells, Pt.slots] at X12 l12 y12 z12 st12 hQ12
  subst l12 y12 z12
  obtain ⟨rfl, N12q, e12⟩ := hQ12
  have N12 := Fr.app N11 N12q
  obtain ⟨_, _, ⟨T13, L13, k13, n13⟩, -, X13, ⟨Lc13, hQ13, l13, y13, z13⟩, st13⟩ := Jvm.LawKit.callS X12 hx (y := (⟨"java/util/Optional", "empty", "()Ljava/util/Optional;"⟩ : MethodName)) hown11 (mvT hZ11 (hi 51 rfl)) (mvT hZ11 (hi 52 rfl)) (mvT hZ11 (hi 53 rfl)) (mvT hZ11 (hi 54 rfl)) (by decide) (backOf (W := 0) (rm12 l Z a0 hw [] s_EMPTY T11.heap n0 (Nat.le_trans (Nat.le_trans (Nat.le_trans (Nat.le_trans (Nat.le_trans (Nat.le_trans (Nat.le_trans (Nat.le_trans Z0 E4.1) E5.1) (Keep.of_wr W6).1) (Keep.of_wr W7).1) K8.1) K9.1) K10.1) K11.1) f18) hZ11 (hi 54 rfl) (hi 53 rfl) (by decide) (by decide)) (g := (mkF m 133 #[vI p1, vI p2, vI p3, vI (t0_0 p1), vI (0 : Int32), vI (t0_2 p1), vI (1 : Int32), vA b4, vA br_9, vA br_10, vA br_11, vA s_EMPTY, vU, vU, vU, vU] [])) rfl (by rw [hml]; rfl) (argsL := []) (rest := []) (lenOf pd__28_29Ljava_2futil_2fOptional_3b rfl) rfl (by show 2 * 0 + _ ≤ _; exact Nat.le_of_eq rfl) (hb hby at_133) (fun _ _ => ⟨rfl, e12, (by decide : 9 + 0 ≤ _), (by decide : 23 + 0 ≤ _)⟩)
  dsimp only [Pt.U, Pt.locs, Pt.cells, Pt.slots] at X13 l13 y13 z13 st13 hQ13
  subst l13 y13 z13
  obtain ⟨rfl, N13q, e13⟩ := hQ13
  have N13 := Fr.app N12 N13q
  obtain ⟨_, _, ⟨T14, L14, k14, n14⟩, -, X14, ⟨Lc14, hQ14, l14, y14, z14⟩, st14⟩ := Jvm.LawKit.callS X13 hx (y := (⟨"java/util/Optional", "of", "(Ljava/lang/Object;)Ljava/util/Optional;"⟩ : MethodName)) hown11 (mvT hZ11 (hi 104 rfl)) (mvT hZ11 (hi 105 rfl)) (mvT hZ11 (hi 53 rfl)) (mvT hZ11 (hi 106 rfl)) (by decide) (backOf (W := 0) (rm18 l Z a0 hw [] br_11 T11.heap n0 (Nat.le_trans (Nat.le_trans (Nat.le_trans (Nat.le_trans (Nat.le_trans (Nat.le_trans (Nat.le_trans (Nat.le_trans Z0 E4.1) E5.1) (Keep.of_wr W6).1) (Keep.of_wr W7).1) K8.1) K9.1) K10.1) K11.1) ) hZ11 (hi 106 rfl) (hi 53 rfl) (by decide) (by decide)) (g := (mkF m 173 #[vI p1, vI p2, vI p3, vI (t0_0 p1), vI (0 : Int32), vI (t0_2 p1), vI (1 : Int32), vA b4, vA br_9, vA br_10, vA br_11, vA s_EMPTY, vA s_EMPTY, vU, vU, vU] [(.ref br_11)])) rfl (by rw [hml]; rfl) (argsL := [(.ref br_11)]) (rest := []) (lenOf pd__28Ljava_2flang_2fObject_3b_29Ljava_2futil_2fOptional_3b rfl) rfl (by show 2 * 0 + _ ≤ _; exact Nat.le_of_eq rfl) (hb hby at_173) (fun _ _ => ⟨rfl, e13, (by decide : 9 + 1 ≤ _), (by decide : 23 + 1 ≤ _)⟩)
  dsimp only [Pt.U, Pt.locs, Pt.cells, Pt.slots] at X14 l14 y14 z14 st14 hQ14
  subst l14 y14 z14
  obtain ⟨b2_14, ⟨rfl, N14q, K14, i14_0, i14_1, i14_2⟩⟩ := hQ14
  have N14 := Fr.app N13 N14q
  have f19 := (f15.keep K11 own_n0)
  have f20 := (f16.keep K11)
  have f21 := (f17.keep K11 own_n0)
  have sz_b2_14 : h0.size ≤ b2_14 := Nat.le_trans (Nat.le_trans (Nat.le_trans (Nat.le_trans (Nat.le_trans (Nat.le_trans (Nat.le_trans (Nat.le_trans (Nat.le_trans (Nat.le_refl h0.size) E4.1) E5.1) (Keep.of_wr W6).1) (Keep.of_wr W7).1) K8.1) K9.1) K10.1) K11.1) i14_0
  have g_b2_14 : n0 ≤ b2_14 := Nat.le_trans Z0 sz_b2_14
  have f22 := (f19.keep K14 own_n0)
  have f23 := (f20.keep K14)
  have f24 := (f21.keep K14 own_n0)
  obtain ⟨T15, h15, X15, e15, E15, A15, D15, -, st15⟩ := newO X14 hx hZ11 hown11 (hi 56 rfl) (hi 57 rfl) (hi 58 rfl) rfl (g := (mkF m 184 #[vI p1, vI p2, vI p3, vI (t0_0 p1), vI (0 : Int32), vI (t0_2 p1), vI (1 : Int32), vA b4, vA br_9, vA br_10, vA br_11, vA s_EMPTY, vA s_EMPTY, vA b2_14, vU, vU] [])) rfl (hb hby at_184) (by decide) (by decide)
  obtain ⟨b15, g15⟩ : ∃ z, z = T14.heap.size := ⟨_, rfl⟩
  rw [← g15] at A15 D15 st15
  have g_b15 : n0 ≤ b15 := Nat.le_trans (Nat.le_trans (Nat.le_trans (Nat.le_trans (Nat.le_trans (Nat.le_trans (Nat.le_trans (Nat.le_trans (Nat.le_trans (Nat.le_trans Z0 E4.1) E5.1) (Keep.of_wr W6).1) (Keep.of_wr W7).1) K8.1) K9.1) K10.1) K11.1) K14.1) (Nat.le_of_eq g15.symm)
  have sz_b15 : h0.size ≤ b15 := Nat.le_trans (Nat.le_trans (Nat.le_trans (Nat.le_trans (Nat.le_trans (Nat.le_trans (Nat.le_trans (Nat.le_trans (Nat.le_trans (Nat.le_trans (Nat.le_refl h0.size) E4.1) E5.1) (Keep.of_wr W6).1) (Keep.of_wr W7).1) K8.1) K9.1) K10.1) K11.1) K14.1) (Nat.le_of_eq g15.symm)
  have F_name_b15 : Fld Z h15 b15 "underdeck/deck/Column" "name" "Ljava/lang/String;" .null := D15 (Or.inr (hi 78 rfl)) (ty := (.object "java/lang/String")) (by decide)
  have F_type_b15 : Fld Z h15 b15 "underdeck/deck/Column" "type" "Ljava/lang/String;" .null := D15 (Or.inr (hi 80 rfl)) (ty := (.object "java/lang/String")) (by decide)
  have F_nullable_b15 : Fld Z h15 b15 "underdeck/deck/Column" "nullable" "Z" (.int (0 : Int32)) := D15 (Or.inr (hi 82 rfl)) (ty := .boolean) (by decide)
  have F_defaultValue_b15 : Fld Z h15 b15 "underdeck/deck/Column" "defaultValue" "Ljava/util/Optional;" .null := D15 (Or.inr (hi 84 rfl)) (ty := (.object "java/util/Optional")) (by decide)
  have F_identity_b15 : Fld Z h15 b15 "underdeck/deck/Column" "identity" "Ljava/util/Optional;" .null := D15 (Or.inr (hi 86 rfl)) (ty := (.object "java/util/Optional")) (by decide)
  have F_generated_b15 : Fld Z h15 b15 "underdeck/deck/Column" "generated" "Ljava/util/Optional;" .null := D15 (Or.inr (hi 88 rfl)) (ty := (.object "java/util/Optional")) (by decide)
  obtain ⟨_, _, ⟨T16, L16, k16, n16⟩, -, X16w, hS16w, hg16, ⟨Lc16, hQ16, l16, y16, z16⟩, st16⟩ := X15.specialBackS hx (y := (⟨"underdeck/deck/Column", "<init>", "(Ljava/lang/String;Ljava/lang/String;ZLjava/util/Optional;Ljava/util/Optional;Ljava/util/Optional;)V"⟩ : MethodName)) rfl hown11 (mvT hZ11 (hi 59 rfl)) (mvT hZ11 (hi 60 rfl)) (mvT hZ11 (hi 61 rfl)) (by decide) (backOfS (W := 1) (rm13 l Z a0 hw [] b15 b4 br_9 (t0_0 p1) s_EMPTY s_EMPTY b2_14 .null .null (0 : Int32) .null .null .null h15 n0 (Nat.le_trans (Nat.le_trans (Nat.le_trans (Nat.le_trans (Nat.le_trans (Nat.le_trans (Nat.le_trans (Nat.le_trans (Nat.le_trans (Nat.le_trans Z0 E4.1) E5.1) (Keep.of_wr W6).1) (Keep.of_wr W7).1) K8.1) K9.1) K10.1) K11.1) K14.1) E15.1) A15 F_name_b15 g_b15 F_type_b15 F_nullable_b15 F_defaultValue_b15 F_identity_b15 F_generated_b15) hZ11 (hi 61 rfl) (hi 58 rfl) (by decide) (by decide)) (g := (mkF m 199 #[vI p1, vI p2, vI p3, vI (t0_0 p1), vI (0 : Int32), vI (t0_2 p1), vI (1 : Int32), vA b4, vA br_9, vA br_10, vA br_11, vA s_EMPTY, vA s_EMPTY, vA b2_14, vU, vU] [(.ref b2_14), (.ref s_EMPTY), (.ref s_EMPTY), (.int (t0_0 p1)), (.ref br_9), (.ref b4), (.ref b15), (.ref b15)])) rfl (by rw [hml]; rfl) (Steps.refl _) (a := b15) (argsL := [(.ref b4), (.ref br_9), (.int (t0_0 p1)), (.ref s_EMPTY), (.ref s_EMPTY), (.ref b2_14)]) (rest := [(.ref b15)]) (lenOf pd__28Ljava_2flang_2fString_3bLjava_2flang_2fString_3bZLjava_2futil_2fOptional_3bLjava_2futil_2fOptional_3bLjava_2futil_2fOptional_3b_29V rfl) rfl (by show 2 * 0 + _ ≤ _; exact Nat.le_of_eq rfl) (hb hby at_199) (fun _ _ => ⟨rfl, e15, (by decide : 11 + 10 ≤ _), (by decide : 30 + 168 ≤ _)⟩)
  dsimp only [Pt.U, Pt.locs, Pt.cells, Pt.slots] at X16w hS16w hg16 l16 y16 z16 st16 hQ16
  subst l16 y16 z16
  obtain ⟨X16, hS16, hZ16, hown16⟩ := rebS hS11 (show _ ≤ T15.heap.size from by rw [e15]; exact (Nat.le_trans (Nat.le_trans (Nat.le_refl _) K14.1) E15.1)) X16w hS16w hg16 hZ11 hown11
  obtain ⟨rfl, N16q, K16, i16_0, i16_1, i16_2, i16_3, i16_4, i16_5, i16_6⟩ := hQ16
  have N16 := Fr.app N14 N16q
  have f25 := ((i14_2.ext E15).keep K16 (own_nm (Nat.ne_of_lt (Nat.lt_of_lt_of_le i14_1.lt (Nat.le_of_eq g15.symm))) own_n0))
  have f26 := ((f22.ext E15).keep K16 (own_nm (Nat.ne_of_lt (Nat.lt_of_lt_of_le f22.lt (Nat.le_of_eq g15.symm))) own_n0))
  have f27 := (((((((((((E_s_EMPTY.ext E4).ext E5).wr W6).wr W7).keep K8).keep K9).keep K10).keep K11).keep K14).ext E15).keep K16)
  have f28 := ((i14_1.ext E15).keep K16)
  obtain ⟨cq17, kq17, q17a, q17b, q17c⟩ := isOf hZ16 rfl i16_0
  obtain ⟨_, _, ⟨T17, L17, k17, n17⟩, -, X17, ⟨Lc17, hQ17, l17, y17, z17⟩, st17⟩ := X16.virtualBack hx (y := (⟨"underdeck/deck/Column", "required", "()Z"⟩ : MethodName)) (z := (⟨"underdeck/deck/Column", "required", "()Z"⟩ : MethodName)) hown16 (mvT hZ16 (hi 89 rfl)) (mvT hZ16 (hi 90 rfl)) (notFace_of_selects (args := #[]) (mvT hZ16 (hi 92 rfl))) (mvT hZ16 (hi 92 rfl)) (mvT hZ16 (hi 91 rfl)) (by decide) (backOf (W := 0) (rm16nnv l Z a0 hw [] b15 (nar .boolean (t0_0 p1)) s_EMPTY s_EMPTY b2_14 br_11 T16.heap n0 (Nat.le_trans (Nat.le_trans (Nat.le_trans (Nat.le_trans (Nat.le_trans (Nat.le_trans (Nat.le_trans (Nat.le_trans (Nat.le_trans (Nat.le_trans (Nat.le_trans Z0 E4.1) E5.1) (Keep.of_wr W6).1) (Keep.of_wr W7).1) K8.1) K9.1) K10.1) K11.1) K14.1) E15.1) K16.1) i16_3 i16_4 f26 f27 i16_5 f26 f27 i16_6 f25 f28) hZ16 (hi 93 rfl) (hi 58 rfl) (by decide) (by decide)) q17a q17c (g := (mkF m 240 #[vI p1, vI p2, vI p3, vI (t0_0 p1), vI (0 : Int32), vI (t0_2 p1), vI (1 : Int32), vA b4, vA br_9, vA br_10, vA br_11, vA s_EMPTY, vA s_EMPTY, vA b2_14, vA b15, vI (0 : Int32)] [(.ref b15)])) rfl (by rw [hml]; rfl) (Steps.refl _) (argsL := []) (rest := []) (lenOf pd__28_29Z rfl) rfl (by show 2 * 0 + _ ≤ _; exact Nat.le_of_eq rfl) (hb hby at_240) (fun _ _ => ⟨rfl, rfl, (by decide : 21 + 0 ≤ _), (by decide : 198 + 0 ≤ _)⟩)
  dsimp only [Pt.U, Pt.locs, Pt.cells, Pt.slots] at X17 l17 y17 z17 st17 hQ17
  subst l17 y17 z17
  obtain ⟨rfl, N17q, e17⟩ := hQ17
  have N17 := Fr.app N16 N17q
  obtain ⟨fs, hr, hrun, hended, hw1, hw2, hw3, hw4⟩ := X17.leaveW hS16 (show _ ≤ T17.heap.size from by rw [e17]; exact (Nat.le_refl _)) (v := some (.int (1 : Int32))) (fun h => by rw [Bd.returns] at h; cases h)
  refine ⟨_, _, pre0 _ ?_, hrun, hended, _, _, rfl, ?_, hw1, hw2, hw3, hw4.mono (by decide) (by decide)⟩
  · show Steps p.tables e below (s₁.setTop (mkF m 0 #[vI p1, vI p2, vI p3, vU, vU, vU, vU, vU, vU, vU, vU, vU, vU, vU, vU, vU] [])) _
    refine XS.iloadN X0.here hx rfl (hb hby at_0) rfl ?_
    refine XS.iconst X0.here hx rfl (hb hby at_1) ?_
    refine XS.iand X0.here hx rfl (hb hby at_2) rfl ?_
    show Steps p.tables e below (s₁.setTop (mkF m 3 #[vI p1, vI p2, vI p3, vU, vU, vU, vU, vU, vU, vU, vU, vU, vU, vU, vU, vU] [(.int (p1 &&& (1 : Int32)))])) _
    have J3 : ∀ target, Steps p.tables e below (s₁.setTop (mkF m 11 #[vI p1, vI p2, vI p3, vU, vU, vU, vU, vU, vU, vU, vU, vU, vU, vU, vU, vU] [(.int (t0_0 p1))])) target → Steps p.tables e below (s₁.setTop (mkF m 3 #[vI p1, vI p2, vI p3, vU, vU, vU, vU, vU, vU, vU, vU, vU, vU, vU, vU, vU] [(.int (p1 &&& (1 : Int32)))])) target := by
      intro target kt
      by_cases hm3 : (p1 &&& (1 : Int32)) = (0 : Int32)
      · skip
        show Steps p.tables e below (s₁.setTop (mkF m 3 #[vI p1, vI p2, vI p3, vU, vU, vU, vU, vU, vU, vU, vU, vU, vU, vU, vU, vU] [(.int (p1 &&& (1 : Int32)))])) _
        refine XS.ifYes X0.here hx rfl (pc0 := 3) (pc' := 10) rfl (hb hby at_3) rfl ((if0 _ _).trans (teq hm3).1) (by decide) (by decide) ?_
        refine XS.iconst X0.here hx rfl (hb hby at_10) ?_
        rw [show (t0_0 p1) = (0 : Int32) from if_pos hm3] at kt
        exact kt
      · skip
        show Steps p.tables e below (s₁.setTop (mkF m 3 #[vI p1, vI p2, vI p3, vU, vU, vU, vU, vU, vU, vU, vU, vU, vU, vU, vU, vU] [(.int (p1 &&& (1 : Int32)))])) _
        refine XS.ifNo X0.here hx rfl (hb hby at_3) rfl ((if0 _ _).trans (feq hm3).1) ?_
        refine XS.iconst X0.here hx rfl (hb hby at_6) ?_
        show Steps p.tables e below (s₁.setTop (mkF m 7 #[vI p1, vI p2, vI p3, vU, vU, vU, vU, vU, vU, vU, vU, vU, vU, vU, vU, vU] [(.int (1 : Int32))])) _
        refine XS.goto X0.here hx rfl (pc0 := 7) (pc' := 11) rfl (hb hby at_7) (by decide) (by decide) ?_
        rw [show (t0_0 p1) = (1 : Int32) from if_neg hm3] at kt
        exact kt
    refine J3 _ ?_
    refine XS.istoreN X0.here hx rfl (hb hby at_11) rfl (l' := #[vI p1, vI p2, vI p3, vI (t0_0 p1), vU, vU, vU, vU, vU, vU, vU, vU, vU, vU, vU, vU]) rfl ?_
    refine XS.iloadN X0.here hx rfl (hb hby at_12) rfl ?_
    refine XS.iconst X0.here hx rfl (hb hby at_13) ?_
    refine XS.iand X0.here hx rfl (hb hby at_14) rfl ?_
    show Steps p.tables e below (s₁.setTop (mkF m 15 #[vI p1, vI p2, vI p3, vI (t0_0 p1), vU, vU, vU, vU, vU, vU, vU, vU, vU, vU, vU, vU] [(.int (p1 &&& (2 : Int32)))])) _
    refine XS.ifYes X0.here hx rfl (pc0 := 15) (pc' := 22) rfl (hb hby at_15) rfl ((if0 _ _).trans (teq hc15).1) (by decide) (by decide) ?_
    refine XS.iconst X0.here hx rfl (hb hby at_22) ?_
    refine XS.istore X0.here hx rfl (hb hby at_23) rfl (l' := #[vI p1, vI p2, vI p3, vI (t0_0 p1), vI (0 : Int32), vU, vU, vU, vU, vU, vU, vU, vU, vU, vU, vU]) rfl ?_
    refine XS.iloadN X0.here hx rfl (hb hby at_25) rfl ?_
    refine XS.iconst X0.here hx rfl (hb hby at_26) ?_
    refine XS.iushr X0.here hx rfl (hb hby at_27) rfl ?_
    refine XS.iconst X0.here hx rfl (hb hby at_28) ?_
    refine XS.iand X0.here hx rfl (hb hby at_29) rfl ?_
    refine XS.iconst X0.here hx rfl (hb hby at_30) ?_
    refine XS.irem X0.here hx rfl (hb hby at_31) rfl (by decide) ?_
    refine XS.istore X0.here hx rfl (hb hby at_32) rfl (l' := #[vI p1, vI p2, vI p3, vI (t0_0 p1), vI (0 : Int32), vI (t0_2 p1), vU, vU, vU, vU, vU, vU, vU, vU, vU, vU]) rfl ?_
    refine XS.iloadN X0.here hx rfl (hb hby at_34) rfl ?_
    refine XS.bipush X0.here hx rfl (hb hby at_35) ?_
    refine XS.iand X0.here hx rfl (hb hby at_37) rfl ?_
    show Steps p.tables e below (s₁.setTop (mkF m 38 #[vI p1, vI p2, vI p3, vI (t0_0 p1), vI (0 : Int32), vI (t0_2 p1), vU, vU, vU, vU, vU, vU, vU, vU, vU, vU] [(.int (p1 &&& (16 : Int32)))])) _
    refine XS.ifNo X0.here hx rfl (hb hby at_38) rfl ((if0 _ _).trans (feq hc38).1) ?_
    refine XS.iconst X0.here hx rfl (hb hby at_41) ?_
    show Steps p.tables e below (s₁.setTop (mkF m 42 #[vI p1, vI p2, vI p3, vI (t0_0 p1), vI (0 : Int32), vI (t0_2 p1), vU, vU, vU, vU, vU, vU, vU, vU, vU, vU] [(.int (1 : Int32))])) _
    refine XS.goto X0.here hx rfl (pc0 := 42) (pc' := 46) rfl (hb hby at_42) (by decide) (by decide) ?_
    refine XS.istore X0.here hx rfl (hb hby at_46) rfl (l' := #[vI p1, vI p2, vI p3, vI (t0_0 p1), vI (0 : Int32), vI (t0_2 p1), vI (1 : Int32), vU, vU, vU, vU, vU, vU, vU, vU, vU]) rfl ?_
    show Steps p.tables e below (s₁.setTop (mkF m 48 #[vI p1, vI p2, vI p3, vI (t0_0 p1), vI (0 : Int32), vI (t0_2 p1), vI (1 : Int32), vU, vU, vU, vU, vU, vU, vU, vU, vU] [])) _
    refine st4 _ ?_
    refine XS.dup X4.here hx rfl (hb hby at_51) rfl rfl ?_
    refine XS.iconst X4.here hx rfl (hb hby at_52) ?_
    show Steps p.tables e below (T4.setTop (mkF m 53 #[vI p1, vI p2, vI p3, vI (t0_0 p1), vI (0 : Int32), vI (t0_2 p1), vI (1 : Int32), vU, vU, vU, vU, vU, vU, vU, vU, vU] [(.int (2 : Int32)), (.ref b4), (.ref b4)])) _
    refine st5 _ ?_
    refine XS.dup X5.here hx rfl (hb hby at_55) rfl rfl ?_
    refine XS.iconst X5.here hx rfl (hb hby at_56) ?_
    refine XS.iloadN X5.here hx rfl (hb hby at_57) rfl ?_
    refine XS.sipush X5.here hx rfl (hb hby at_58) ?_
    refine XS.iand X5.here hx rfl (hb hby at_61) rfl ?_
    refine XS.i2c X5.here hx rfl (hb hby at_62) rfl ?_
    show Steps p.tables e below (T5.setTop (mkF m 63 #[vI p1, vI p2, vI p3, vI (t0_0 p1), vI (0 : Int32), vI (t0_2 p1), vI (1 : Int32), vU, vU, vU, vU, vU, vU, vU, vU, vU] [(.int (t0_3 p2)), (.int (0 : Int32)), (.ref b5), (.ref b5), (.ref b4), (.ref b4)])) _
    refine st6 _ ?_
    refine XS.dup X6.here hx rfl (hb hby at_64) rfl rfl ?_
    refine XS.iconst X6.here hx rfl (hb hby at_65) ?_
    refine XS.iloadN X6.here hx rfl (hb hby at_66) rfl ?_
    refine XS.bipush X6.here hx rfl (hb hby at_67) ?_
    refine XS.iushr X6.here hx rfl (hb hby at_69) rfl ?_
    refine XS.sipush X6.here hx rfl (hb hby at_70) ?_
    refine XS.iand X6.here hx rfl (hb hby at_73) rfl ?_
    refine XS.i2c X6.here hx rfl (hb hby at_74) rfl ?_
    show Steps p.tables e below (T6.setTop (mkF m 75 #[vI p1, vI p2, vI p3, vI (t0_0 p1), vI (0 : Int32), vI (t0_2 p1), vI (1 : Int32), vU, vU, vU, vU, vU, vU, vU, vU, vU] [(.int (t0_5 p2)), (.int (1 : Int32)), (.ref b5), (.ref b5), (.ref b4), (.ref b4)])) _
    refine st7 _ ?_
    show Steps p.tables e below (T7.setTop (mkF m 76 #[vI p1, vI p2, vI p3, vI (t0_0 p1), vI (0 : Int32), vI (t0_2 p1), vI (1 : Int32), vU, vU, vU, vU, vU, vU, vU, vU, vU] [(.ref b5), (.ref b4), (.ref b4)])) _
    refine st8.trans ?_
    refine XS.astore X8.here hx rfl (hb hby at_79) rfl rfl (l' := #[vI p1, vI p2, vI p3, vI (t0_0 p1), vI (0 : Int32), vI (t0_2 p1), vI (1 : Int32), vA b4, vU, vU, vU, vU, vU, vU, vU, vU]) rfl ?_
    refine XS.iloadN X8.here hx rfl (hb hby at_81) rfl ?_
    refine XS.bipush X8.here hx rfl (hb hby at_82) ?_
    refine XS.iushr X8.here hx rfl (hb hby at_84) rfl ?_
    refine XS.sipush X8.here hx rfl (hb hby at_85) ?_
    refine XS.iand X8.here hx rfl (hb hby at_88) rfl ?_
    refine XS.i2c X8.here hx rfl (hb hby at_89) rfl ?_
    show Steps p.tables e below (T8.setTop (mkF m 90 #[vI p1, vI p2, vI p3, vI (t0_0 p1), vI (0 : Int32), vI (t0_2 p1), vI (1 : Int32), vA b4, vU, vU, vU, vU, vU, vU, vU, vU] [(.int (t0_7 p2))])) _
    refine st9 _ ?_
    refine XS.astore X9.here hx rfl (hb hby at_93) rfl rfl (l' := #[vI p1, vI p2, vI p3, vI (t0_0 p1), vI (0 : Int32), vI (t0_2 p1), vI (1 : Int32), vA b4, vA br_9, vU, vU, vU, vU, vU, vU, vU]) rfl ?_
    refine XS.iloadN X9.here hx rfl (hb hby at_95) rfl ?_
    show Steps p.tables e below (T9.setTop (mkF m 96 #[vI p1, vI p2, vI p3, vI (t0_0 p1), vI (0 : Int32), vI (t0_2 p1), vI (1 : Int32), vA b4, vA br_9, vU, vU, vU, vU, vU, vU, vU] [(.int p3)])) _
    refine st10.trans ?_
    refine XS.astore X10.here hx rfl (hb hby at_99) rfl rfl (l' := #[vI p1, vI p2, vI p3, vI (t0_0 p1), vI (0 : Int32), vI (t0_2 p1), vI (1 : Int32), vA b4, vA br_9, vA br_10, vU, vU, vU, vU, vU, vU]) rfl ?_
    refine XS.iloadN X10.here hx rfl (hb hby at_101) rfl ?_
    refine XS.bipush X10.here hx rfl (hb hby at_102) ?_
    refine XS.iushr X10.here hx rfl (hb hby at_104) rfl ?_
    show Steps p.tables e below (T10.setTop (mkF m 105 #[vI p1, vI p2, vI p3, vI (t0_0 p1), vI (0 : Int32), vI (t0_2 p1), vI (1 : Int32), vA b4, vA br_9, vA br_10, vU, vU, vU, vU, vU, vU] [(.int (t0_8 p3))])) _
    refine st11.trans ?_
    refine XS.astore X11.here hx rfl (hb hby at_108) rfl rfl (l' := #[vI p1, vI p2, vI p3, vI (t0_0 p1), vI (0 : Int32), vI (t0_2 p1), vI (1 : Int32), vA b4, vA br_9, vA br_10, vA br_11, vU, vU, vU, vU, vU]) rfl ?_
    refine XS.iload X11.here hx rfl (hb hby at_110) rfl ?_
    show Steps p.tables e below (T11.setTop (mkF m 112 #[vI p1, vI p2, vI p3, vI (t0_0 p1), vI (0 : Int32), vI (t0_2 p1), vI (1 : Int32), vA b4, vA br_9, vA br_10, vA br_11, vU, vU, vU, vU, vU] [(.int (0 : Int32))])) _
    refine XS.ifYes X11.here hx rfl (pc0 := 112) (pc' := 123) rfl (hb hby at_112) rfl ((if0 _ _).trans (teq (rfl : (0 : Int32) = (0 : Int32))).1) (by decide) (by decide) ?_
    show Steps p.tables e below (T11.setTop (mkF m 123 #[vI p1, vI p2, vI p3, vI (t0_0 p1), vI (0 : Int32), vI (t0_2 p1), vI (1 : Int32), vA b4, vA br_9, vA br_10, vA br_11, vU, vU, vU, vU, vU] [])) _
    refine st12 _ ?_
    refine XS.astore X12.here hx rfl (hb hby at_126) rfl rfl (l' := #[vI p1, vI p2, vI p3, vI (t0_0 p1), vI (0 : Int32), vI (t0_2 p1), vI (1 : Int32), vA b4, vA br_9, vA br_10, vA br_11, vA s_EMPTY, vU, vU, vU, vU]) rfl ?_
    refine XS.iload X12.here hx rfl (hb hby at_128) rfl ?_
    show Steps p.tables e below (T12.setTop (mkF m 130 #[vI p1, vI p2, vI p3, vI (t0_0 p1), vI (0 : Int32), vI (t0_2 p1), vI (1 : Int32), vA b4, vA br_9, vA br_10, vA br_11, vA s_EMPTY, vU, vU, vU, vU] [(.int (t0_2 p1))])) _
    refine XS.ifNo X12.here hx rfl (hb hby at_130) rfl ((if0 _ _).trans (teq hc130).2) ?_
    show Steps p.tables e below (T12.setTop (mkF m 133 #[vI p1, vI p2, vI p3, vI (t0_0 p1), vI (0 : Int32), vI (t0_2 p1), vI (1 : Int32), vA b4, vA br_9, vA br_10, vA br_11, vA s_EMPTY, vU, vU, vU, vU] [])) _
    refine st13 _ ?_
    refine XS.astore X13.here hx rfl (hb hby at_136) rfl rfl (l' := #[vI p1, vI p2, vI p3, vI (t0_0 p1), vI (0 : Int32), vI (t0_2 p1), vI (1 : Int32), vA b4, vA br_9, vA br_10, vA br_11, vA s_EMPTY, vA s_EMPTY, vU, vU, vU]) rfl ?_
    show Steps p.tables e below (T13.setTop (mkF m 138 #[vI p1, vI p2, vI p3, vI (t0_0 p1), vI (0 : Int32), vI (t0_2 p1), vI (1 : Int32), vA b4, vA br_9, vA br_10, vA br_11, vA s_EMPTY, vA s_EMPTY, vU, vU, vU] [])) _
    refine XS.goto X13.here hx rfl (pc0 := 138) (pc' := 166) rfl (hb hby at_138) (by decide) (by decide) ?_
    refine XS.iload X13.here hx rfl (hb hby at_166) rfl ?_
    show Steps p.tables e below (T13.setTop (mkF m 168 #[vI p1, vI p2, vI p3, vI (t0_0 p1), vI (0 : Int32), vI (t0_2 p1), vI (1 : Int32), vA b4, vA br_9, vA br_10, vA br_11, vA s_EMPTY, vA s_EMPTY, vU, vU, vU] [(.int (1 : Int32))])) _
    refine XS.ifNo X13.here hx rfl (hb hby at_168) rfl ((if0 _ _).trans (feq (by decide : ¬ ((1 : Int32) = (0 : Int32)))).1) ?_
    refine XS.aload X13.here hx rfl (hb hby at_171) rfl rfl ?_
    show Steps p.tables e below (T13.setTop (mkF m 173 #[vI p1, vI p2, vI p3, vI (t0_0 p1), vI (0 : Int32), vI (t0_2 p1), vI (1 : Int32), vA b4, vA br_9, vA br_10, vA br_11, vA s_EMPTY, vA s_EMPTY, vU, vU, vU] [(.ref br_11)])) _
    refine st14 _ ?_
    show Steps p.tables e below (T14.setTop (mkF m 176 #[vI p1, vI p2, vI p3, vI (t0_0 p1), vI (0 : Int32), vI (t0_2 p1), vI (1 : Int32), vA b4, vA br_9, vA br_10, vA br_11, vA s_EMPTY, vA s_EMPTY, vU, vU, vU] [(.ref b2_14)])) _
    refine XS.goto X14.here hx rfl (pc0 := 176) (pc' := 182) rfl (hb hby at_176) (by decide) (by decide) ?_
    refine XS.astore X14.here hx rfl (hb hby at_182) rfl rfl (l' := #[vI p1, vI p2, vI p3, vI (t0_0 p1), vI (0 : Int32), vI (t0_2 p1), vI (1 : Int32), vA b4, vA br_9, vA br_10, vA br_11, vA s_EMPTY, vA s_EMPTY, vA b2_14, vU, vU]) rfl ?_
    show Steps p.tables e below (T14.setTop (mkF m 184 #[vI p1, vI p2, vI p3, vI (t0_0 p1), vI (0 : Int32), vI (t0_2 p1), vI (1 : Int32), vA b4, vA br_9, vA br_10, vA br_11, vA s_EMPTY, vA s_EMPTY, vA b2_14, vU, vU] [])) _
    refine st15 _ ?_
    refine XS.dup X15.here hx rfl (hb hby at_187) rfl rfl ?_
    refine XS.aload X15.here hx rfl (hb hby at_188) rfl rfl ?_
    refine XS.aload X15.here hx rfl (hb hby at_190) rfl rfl ?_
    refine XS.iloadN X15.here hx rfl (hb hby at_192) rfl ?_
    refine XS.aload X15.here hx rfl (hb hby at_193) rfl rfl ?_
    refine XS.aload X15.here hx rfl (hb hby at_195) rfl rfl ?_
    refine XS.aload X15.here hx rfl (hb hby at_197) rfl rfl ?_
    show Steps p.tables e below (T15.setTop (mkF m 199 #[vI p1, vI p2, vI p3, vI (t0_0 p1), vI (0 : Int32), vI (t0_2 p1), vI (1 : Int32), vA b4, vA br_9, vA br_10, vA br_11, vA s_EMPTY, vA s_EMPTY, vA b2_14, vU, vU] [(.ref b2_14), (.ref s_EMPTY), (.ref s_EMPTY), (.int (t0_0 p1)), (.ref br_9), (.ref b4), (.ref b15), (.ref b15)])) _
    refine st16.trans ?_
    refine XS.astore X16.here hx rfl (hb hby at_202) rfl rfl (l' := #[vI p1, vI p2, vI p3, vI (t0_0 p1), vI (0 : Int32), vI (t0_2 p1), vI (1 : Int32), vA b4, vA br_9, vA br_10, vA br_11, vA s_EMPTY, vA s_EMPTY, vA b2_14, vA b15, vU]) rfl ?_
    refine XS.iconst X16.here hx rfl (hb hby at_204) ?_
    refine XS.istore X16.here hx rfl (hb hby at_205) rfl (l' := #[vI p1, vI p2, vI p3, vI (t0_0 p1), vI (0 : Int32), vI (t0_2 p1), vI (1 : Int32), vA b4, vA br_9, vA br_10, vA br_11, vA s_EMPTY, vA s_EMPTY, vA b2_14, vA b15, vI (1 : Int32)]) rfl ?_
    refine XS.iloadN X16.here hx rfl (hb hby at_207) rfl ?_
    show Steps p.tables e below (T16.setTop (mkF m 208 #[vI p1, vI p2, vI p3, vI (t0_0 p1), vI (0 : Int32), vI (t0_2 p1), vI (1 : Int32), vA b4, vA br_9, vA br_10, vA br_11, vA s_EMPTY, vA s_EMPTY, vA b2_14, vA b15, vI (1 : Int32)] [(.int (t0_0 p1))])) _
    have J208 : ∀ target, Steps p.tables e below (T16.setTop (mkF m 214 #[vI p1, vI p2, vI p3, vI (t0_0 p1), vI (0 : Int32), vI (t0_2 p1), vI (1 : Int32), vA b4, vA br_9, vA br_10, vA br_11, vA s_EMPTY, vA s_EMPTY, vA b2_14, vA b15, vI (t0_9 p1)] [])) target → Steps p.tables e below (T16.setTop (mkF m 208 #[vI p1, vI p2, vI p3, vI (t0_0 p1), vI (0 : Int32), vI (t0_2 p1), vI (1 : Int32), vA b4, vA br_9, vA br_10, vA br_11, vA s_EMPTY, vA s_EMPTY, vA b2_14, vA b15, vI (1 : Int32)] [(.int (t0_0 p1))])) target := by
      intro target kt
      by_cases hm208 : (t0_0 p1) = (0 : Int32)
      · skip
        show Steps p.tables e below (T16.setTop (mkF m 208 #[vI p1, vI p2, vI p3, vI (t0_0 p1), vI (0 : Int32), vI (t0_2 p1), vI (1 : Int32), vA b4, vA br_9, vA br_10, vA br_11, vA s_EMPTY, vA s_EMPTY, vA b2_14, vA b15, vI (1 : Int32)] [(.int (t0_0 p1))])) _
        refine XS.ifYes X16.here hx rfl (pc0 := 208) (pc' := 214) rfl (hb hby at_208) rfl ((if0 _ _).trans (teq hm208).1) (by decide) (by decide) ?_
        rw [show (t0_9 p1) = (1 : Int32) from if_pos hm208] at kt
        exact kt
      · skip
        show Steps p.tables e below (T16.setTop (mkF m 208 #[vI p1, vI p2, vI p3, vI (t0_0 p1), vI (0 : Int32), vI (t0_2 p1), vI (1 : Int32), vA b4, vA br_9, vA br_10, vA br_11, vA s_EMPTY, vA s_EMPTY, vA b2_14, vA b15, vI (1 : Int32)] [(.int (t0_0 p1))])) _
        refine XS.ifNo X16.here hx rfl (hb hby at_208) rfl ((if0 _ _).trans (feq hm208).1) ?_
        refine XS.iconst X16.here hx rfl (hb hby at_211) ?_
        refine XS.istore X16.here hx rfl (hb hby at_212) rfl (l' := #[vI p1, vI p2, vI p3, vI (t0_0 p1), vI (0 : Int32), vI (t0_2 p1), vI (1 : Int32), vA b4, vA br_9, vA br_10, vA br_11, vA s_EMPTY, vA s_EMPTY, vA b2_14, vA b15, vI (0 : Int32)]) rfl ?_
        rw [show (t0_9 p1) = (0 : Int32) from if_neg hm208] at kt
        exact kt
    refine J208 _ ?_
    refine XS.iload X16.here hx rfl (hb hby at_214) rfl ?_
    show Steps p.tables e below (T16.setTop (mkF m 216 #[vI p1, vI p2, vI p3, vI (t0_0 p1), vI (0 : Int32), vI (t0_2 p1), vI (1 : Int32), vA b4, vA br_9, vA br_10, vA br_11, vA s_EMPTY, vA s_EMPTY, vA b2_14, vA b15, vI (t0_9 p1)] [(.int (0 : Int32))])) _
    refine XS.ifYes X16.here hx rfl (pc0 := 216) (pc' := 222) rfl (hb hby at_216) rfl ((if0 _ _).trans (teq (rfl : (0 : Int32) = (0 : Int32))).1) (by decide) (by decide) ?_
    refine XS.iload X16.here hx rfl (hb hby at_222) rfl ?_
    show Steps p.tables e below (T16.setTop (mkF m 224 #[vI p1, vI p2, vI p3, vI (t0_0 p1), vI (0 : Int32), vI (t0_2 p1), vI (1 : Int32), vA b4, vA br_9, vA br_10, vA br_11, vA s_EMPTY, vA s_EMPTY, vA b2_14, vA b15, vI (t0_9 p1)] [(.int (t0_2 p1))])) _
    refine XS.ifYes X16.here hx rfl (pc0 := 224) (pc' := 230) rfl (hb hby at_224) rfl ((if0 _ _).trans (teq hc130).1) (by decide) (by decide) ?_
    refine XS.iload X16.here hx rfl (hb hby at_230) rfl ?_
    show Steps p.tables e below (T16.setTop (mkF m 232 #[vI p1, vI p2, vI p3, vI (t0_0 p1), vI (0 : Int32), vI (t0_2 p1), vI (1 : Int32), vA b4, vA br_9, vA br_10, vA br_11, vA s_EMPTY, vA s_EMPTY, vA b2_14, vA b15, vI (t0_9 p1)] [(.int (1 : Int32))])) _
    refine XS.ifNo X16.here hx rfl (hb hby at_232) rfl ((if0 _ _).trans (feq (by decide : ¬ ((1 : Int32) = (0 : Int32)))).1) ?_
    refine XS.iconst X16.here hx rfl (hb hby at_235) ?_
    refine XS.istore X16.here hx rfl (hb hby at_236) rfl (l' := #[vI p1, vI p2, vI p3, vI (t0_0 p1), vI (0 : Int32), vI (t0_2 p1), vI (1 : Int32), vA b4, vA br_9, vA br_10, vA br_11, vA s_EMPTY, vA s_EMPTY, vA b2_14, vA b15, vI (0 : Int32)]) rfl ?_
    refine XS.aload X16.here hx rfl (hb hby at_238) rfl rfl ?_
    show Steps p.tables e below (T16.setTop (mkF m 240 #[vI p1, vI p2, vI p3, vI (t0_0 p1), vI (0 : Int32), vI (t0_2 p1), vI (1 : Int32), vA b4, vA br_9, vA br_10, vA br_11, vA s_EMPTY, vA s_EMPTY, vA b2_14, vA b15, vI (0 : Int32)] [(.ref b15)])) _
    refine st17.trans ?_
    refine XS.iload X17.here hx rfl (hb hby at_243) rfl ?_
    show Steps p.tables e below (T17.setTop (mkF m 245 #[vI p1, vI p2, vI p3, vI (t0_0 p1), vI (0 : Int32), vI (t0_2 p1), vI (1 : Int32), vA b4, vA br_9, vA br_10, vA br_11, vA s_EMPTY, vA s_EMPTY, vA b2_14, vA b15, vI (0 : Int32)] [(.int (0 : Int32)), (.int (0 : Int32))])) _
    refine XS.icmpNo X17.here hx rfl (hb hby at_245) rfl (teq (rfl : (0 : Int32) = (0 : Int32))).2 ?_
    refine XS.iconst X17.here hx rfl (hb hby at_248) ?_
    show Steps p.tables e below (T17.setTop (mkF m 249 #[vI p1, vI p2, vI p3, vI (t0_0 p1), vI (0 : Int32), vI (t0_2 p1), vI (1 : Int32), vA b4, vA br_9, vA br_10, vA br_11, vA s_EMPTY, vA s_EMPTY, vA b2_14, vA b15, vI (0 : Int32)] [(.int (1 : Int32))])) _
    refine XS.goto X17.here hx rfl (pc0 := 249) (pc' := 253) rfl (hb hby at_249) (by decide) (by decide) ?_
    show Steps p.tables e below (T17.setTop (mkF m 253 #[vI p1, vI p2, vI p3, vI (t0_0 p1), vI (0 : Int32), vI (t0_2 p1), vI (1 : Int32), vA b4, vA br_9, vA br_10, vA br_11, vA s_EMPTY, vA s_EMPTY, vA b2_14, vA b15, vI (0 : Int32)] [(.int (1 : Int32))])) _
    exact retN X17 hx (t := .boolean) Bd.returns (by simp) (hb hby at_253) hr
  · show Q_rm0 Z p1 p2 p3 s_COMPACT_STRINGS s_EMPTY s_ALWAYS s_BY_DEFAULT h0 n0 _ T17.heap _
    exact ⟨rfl, N17⟩
set_option maxRecDepth 65536 in
set_option maxHeartbeats 40000000 in
theorem rm0_tftf (l : Launch) (Z : State) (a0 : Array Value) (hw : ∀ d ∈ tables_1, d.before a0 Z = true) (ws : List Jvm.Cond) (p1 : Int32) (p2 : Int32) (p3 : Int32) (s_COMPACT_STRINGS : Int32) (s_EMPTY : Addr) (s_ALWAYS : Addr) (s_BY_DEFAULT : Addr) (h0 : Heap) (n0 : Nat) (Z0 : n0 ≤ h0.size) (hcs : ¬ (s_COMPACT_STRINGS = (0 : Int32))) (S_COMPACT_STRINGS : Sta Z h0 "java/lang/String" "COMPACT_STRINGS" "Z" (.int s_COMPACT_STRINGS)) (S_EMPTY : Sta Z h0 "java/util/Optional" "EMPTY" "Ljava/util/Optional;" (.ref s_EMPTY)) (S_ALWAYS : Sta Z h0 "underdeck/deck/Column$Identity" "ALWAYS" "Lunderdeck/deck/Column$Identity;" (.ref s_ALWAYS)) (S_BY_DEFAULT : Sta Z h0 "underdeck/deck/Column$Identity" "BY_DEFAULT" "Lunderdeck/deck/Column$Identity;" (.ref s_BY_DEFAULT)) (F_value_s_EMPTY : Fld Z h0 s_EMPTY "java/util/Optional" "value" "Ljava/lang/Object;" .null) (E_s_EMPTY : Exa Z h0 s_EMPTY "java/util/Optional") (hc15 : (p1 &&& (2 : Int32)) = (0 : Int32)) (hc38 : ¬ ((p1 &&& (16 : Int32)) = (0 : Int32))) (hc130 : ¬ ((t0_2 p1) = (0 : Int32))) (hc144 : (t0_2 p1) = (1 : Int32)) :
    MetFree l x (head1 (Jvm.Cond.code x code maxLocals ret :: ws) room_1) (fun a U => a = #[(.int p1), (.int p2), (.int p3)] ∧ Z.Warmed39 U.vm ∧ U.heap = h0) (fun _ _ _ _ _ => True) (fun _ U o U' => ∃ v L, o = .returned v ∧ Q_rm0 Z p1 p2 p3 s_COMPACT_STRINGS s_EMPTY s_ALWAYS s_BY_DEFAULT h0 n0 v U'.heap L ∧ ReturnedEndW U o U' L room_1.cells room_1.slots) := by
  have hi : ∀ (i : Nat) {d : Jvm.Cond}, tables_1[i]? = some d → d.before a0 Z = true := fun i d h => hw d (List.mem_of_getElem? h)
  refine MetFree.of_bodySF (plainFor_of_name pn_0) hisR ?_
  intro p e s m args below meth c s₁ Bd hml0 hP hK
  obtain ⟨rfl, hZ, hh⟩ := hP
  have hx := Bd.exec
  have hby := Bd.bytes
  have hml : c.maxLocals = 16 := hml0
  have hown : s.vm.findClass "underdeck/deck/ColumnRequiredPinLaw" = some m.cls := findClass_of_methodNamed Bd.named
  have hnm := (name_of_methodNamed Bd.named Bd.method).1
  have X0 : Stand p l e room_1 (s.setVm s.vm) m #[(.int p1), (.int p2), (.int p3)] below meth c s₁ [] 0 0 := Stand.of_body Bd
  have e0 : s₁.heap = h0 := by rw [← hh, Bd.state]; rfl
  have N0 := Fr.nil n0
  have pre0 : ∀ t, Steps p.tables e below (s₁.setTop (mkF m 0 #[vI p1, vI p2, vI p3, vU, vU, vU, vU, vU, vU, vU, vU, vU, vU, vU, vU, vU] [])) t → Steps p.tables e below (s₁.setTop (entryFrame m #[(.int p1), (.int p2), (.int p3)] maxLocals)) t := fun t k => castTop (ef_0 m p1 p2 p3) k
  have hS0 : s.Since s.vm h0.size := (State.WarmedH.refl s).since _
  obtain ⟨T4, h4, X4, e4, E4, A4, D4, -, st4⟩ := newO X0 hx hZ hown (hi 0 rfl) (hi 1 rfl) (hi 2 rfl) e0 (g := (mkF m 48 #[vI p1, vI p2, vI p3, vI (t0_0 p1), vI (0 : Int32), vI (t0_2 p1), vI (1 : Int32), vU, vU, vU, vU, vU, vU, vU, vU, vU] [])) rfl (hb hby at_48) (by decide) (by decide)
  obtain ⟨b4, g4⟩ : ∃ z, z = h0.size := ⟨_, rfl⟩
  rw [← g4] at A4 D4 st4
  have g_b4 : n0 ≤ b4 := Nat.le_trans Z0 (Nat.le_of_eq g4.symm)
  have sz_b4 : h0.size ≤ b4 := Nat.le_trans (Nat.le_refl h0.size) (Nat.le_of_eq g4.symm)
  have F_coder_b4 : Fld Z h4 b4 "java/lang/String" "coder" "B" (.int (0 : Int32)) := D4 (Or.inr (hi 27 rfl)) (ty := .byte) (by decide)
  have F_value_b4 : Fld Z h4 b4 "java/lang/String" "value" "[B" .null := D4 (Or.inr (hi 29 rfl)) (ty := (.array .byte)) (by decide)
  have f0 := (F_value_s_EMPTY.ext E4)
  obtain ⟨T5, h5, k5, X5, e5, E5, A5, st5⟩ := newP X4 hx hZ (hi 3 rfl) e4 (g := (mkF m 53 #[vI p1, vI p2, vI p3, vI (t0_0 p1), vI (0 : Int32), vI (t0_2 p1), vI (1 : Int32), vU, vU, vU, vU, vU, vU, vU, vU, vU] [(.int (2 : Int32)), (.ref b4), (.ref b4)])) rfl (hb hby at_53) rfl (by decide) (cap := 2) (by decide) (by decide) (by decide) (by decide)
  obtain ⟨b5, g5⟩ : ∃ z, z = h4.size := ⟨_, rfl⟩
  rw [← g5] at A5 st5
  have g_b5 : n0 ≤ b5 := Nat.le_trans (Nat.le_trans Z0 E4.1) (Nat.le_of_eq g5.symm)
  have sz_b5 : h0.size ≤ b5 := Nat.le_trans (Nat.le_trans (Nat.le_refl h0.size) E4.1) (Nat.le_of_eq g5.symm)
  have V_b5 : Arv Z h5 b5 k5 .char (2 : Int32) [(.int (0 : Int32)), (.int (0 : Int32))] (.int (0 : Int32)) := (Arv.new A5 (by decide)).pad (pad_rep [] (.int (0 : Int32)) 2)
  obtain ⟨cl_b5_1, Ar_b5_1, q_b5_1, Sz_b5_1, Ng_b5_1, Ha_b5_1, Gt_b5_1⟩ := id V_b5
  have hin_b5_1 : ¬ ((0 : Int32) < 0 ∨ cl_b5_1.slots.size ≤ ((0 : Int32)).toNatClampNeg) := inb_of Sz_b5_1 ⟨by decide, by decide⟩
  obtain ⟨T6, h6, X6, e6, W6, st6⟩ := stC X5 hx hZ e5 Ar_b5_1 (j := (0 : Int32)) hin_b5_1 (g := (mkF m 63 #[vI p1, vI p2, vI p3, vI (t0_0 p1), vI (0 : Int32), vI (t0_2 p1), vI (1 : Int32), vU, vU, vU, vU, vU, vU, vU, vU, vU] [(.int (t0_3 p2)), (.int (0 : Int32)), (.ref b5), (.ref b5), (.ref b4), (.ref b4)])) rfl rfl (hb hby at_63)
  have V6 : Arv Z h6 b5 k5 .char (2 : Int32) [(.int (nar .char (t0_3 p2))), (.int (0 : Int32))] (.int (0 : Int32)) := Arv.set Ar_b5_1 q_b5_1 Sz_b5_1 Ng_b5_1 Ha_b5_1 Gt_b5_1 (fits_nar_char _) W6 0 rfl (Nat.le_of_ble_eq_true rfl)
  have N6 := Fr.snoc X6 N0 g_b5
  obtain ⟨cl_b5_2, Ar_b5_2, q_b5_2, Sz_b5_2, Ng_b5_2, Ha_b5_2, Gt_b5_2⟩ := id V6
  have hin_b5_2 : ¬ ((1 : Int32) < 0 ∨ cl_b5_2.slots.size ≤ ((1 : Int32)).toNatClampNeg) := inb_of Sz_b5_2 ⟨by decide, by decide⟩
  obtain ⟨T7, h7, X7, e7, W7, st7⟩ := stC X6 hx hZ e6 Ar_b5_2 (j := (1 : Int32)) hin_b5_2 (g := (mkF m 75 #[vI p1, vI p2, vI p3, vI (t0_0 p1), vI (0 : Int32), vI (t0_2 p1), vI (1 : Int32), vU, vU, vU, vU, vU, vU, vU, vU, vU] [(.int (t0_5 p2)), (.int (1 : Int32)), (.ref b5), (.ref b5), (.ref b4), (.ref b4)])) rfl rfl (hb hby at_75)
  have V7 : Arv Z h7 b5 k5 .char (2 : Int32) [(.int (nar .char (t0_3 p2))), (.int (nar .char (t0_5 p2)))] (.int (0 : Int32)) := Arv.set Ar_b5_2 q_b5_2 Sz_b5_2 Ng_b5_2 Ha_b5_2 Gt_b5_2 (fits_nar_char _) W7 1 rfl (Nat.le_of_ble_eq_true rfl)
  have N7 := Fr.snoc X7 N6 g_b5
  have f3 := ((((S_COMPACT_STRINGS.ext E4).ext E5).wr W6).wr W7)
  have f4 := (((F_coder_b4.ext E5).other W6 (Or.inl (Nat.ne_of_lt (Nat.lt_of_lt_of_le A4.lt (Nat.le_of_eq g5.symm))))).other W7 (Or.inl (Nat.ne_of_lt (Nat.lt_of_lt_of_le A4.lt (Nat.le_of_eq g5.symm)))))
  have f5 := (((F_value_b4.ext E5).other W6 (Or.inl (Nat.ne_of_lt (Nat.lt_of_lt_of_le A4.lt (Nat.le_of_eq g5.symm))))).other W7 (Or.inl (Nat.ne_of_lt (Nat.lt_of_lt_of_le A4.lt (Nat.le_of_eq g5.symm)))))
  have f6 := (((A4.ext E5).wr W6).wr W7)
  obtain ⟨_, _, ⟨T8, L8, k8, n8⟩, -, X8, ⟨Lc8, hQ8, l8, y8, z8⟩, st8⟩ := X7.specialBack hx (y := (⟨"java/lang/String", "<init>", "([C)V"⟩ : MethodName)) rfl hown (mvT hZ (hi 4 rfl)) (mvT hZ (hi 5 rfl)) (mvT hZ (hi 6 rfl)) (by decide) (backOf (W := 1) (rm1 l Z a0 hw [] b4 b5 s_COMPACT_STRINGS (0 : Int32) .null k5 (nar .char (t0_3 p2)) (nar .char (t0_5 p2)) h7 n0 (Nat.le_trans (Nat.le_trans (Nat.le_trans (Nat.le_trans Z0 E4.1) E5.1) (Keep.of_wr W6).1) (Keep.of_wr W7).1) f3 f4 f5 f6 g_b4 V7 hcs (own_le255 _ (own_cc _ (own_cc _ (own_m255 _)))) (own_le255 _ (own_cc _ (own_cc _ (own_m255 _))))) hZ (hi 6 rfl) (hi 2 rfl) (by decide) (by decide)) (g := (mkF m 76 #[vI p1, vI p2, vI p3, vI (t0_0 p1), vI (0 : Int32), vI (t0_2 p1), vI (1 : Int32), vU, vU, vU, vU, vU, vU, vU, vU, vU] [(.ref b5), (.ref b4), (.ref b4)])) rfl (by rw [hml]; rfl) (Steps.refl _) (a := b4) (argsL := [(.ref b5)]) (rest := [(.ref b4)]) (lenOf pd__28_5bC_29V rfl) rfl (by show 2 * 0 + _ ≤ _; exact Nat.le_of_eq rfl) (hb hby at_76) (fun _ _ => ⟨rfl, e7, (by decide : 2 + 1 ≤ _), (by decide : 6 + 2 ≤ _)⟩)
  dsimp only [Pt.U, Pt.locs, Pt.cells, Pt.slots] at X8 l8 y8 z8 st8 hQ8
  subst l8 y8 z8
  obtain ⟨rfl, N8q, K8, i8_0, i8_1⟩ := hQ8
  have N8 := Fr.app N7 N8q
  have f7 := (own_sta_keep f3 K8 (own_qc (own_nst f6) own_q0))
  obtain ⟨_, _, ⟨T9, L9, k9, n9⟩, -, X9, ⟨Lc9, hQ9, l9, y9, z9⟩, st9⟩ := Jvm.LawKit.callS X8 hx (y := (⟨"java/lang/String", "valueOf", "(C)Ljava/lang/String;"⟩ : MethodName)) hown (mvT hZ (hi 30 rfl)) (mvT hZ (hi 31 rfl)) (mvT hZ (hi 2 rfl)) (mvT hZ (hi 32 rfl)) (by decide) (backOf (W := 0) (rm7 l Z a0 hw [] (t0_7 p2) s_COMPACT_STRINGS T8.heap n0 (Nat.le_trans (Nat.le_trans (Nat.le_trans (Nat.le_trans (Nat.le_trans Z0 E4.1) E5.1) (Keep.of_wr W6).1) (Keep.of_wr W7).1) K8.1) f7 hcs (own_F8 _ (own_cc _ (own_m255 _)))) hZ (hi 32 rfl) (hi 2 rfl) (by decide) (by decide)) (g := (mkF m 90 #[vI p1, vI p2, vI p3, vI (t0_0 p1), vI (0 : Int32), vI (t0_2 p1), vI (1 : Int32), vA b4, vU, vU, vU, vU, vU, vU, vU, vU] [(.int (t0_7 p2))])) rfl (by rw [hml]; rfl) (argsL := [(.int (t0_7 p2))]) (rest := []) (lenOf pd__28C_29Ljava_2flang_2fString_3b rfl) rfl (by show 2 * 0 + _ ≤ _; exact Nat.le_of_eq rfl) (hb hby at_90) (fun _ _ => ⟨rfl, rfl, (by decide : 3 + 2 ≤ _), (by decide : 8 + 5 ≤ _)⟩)
  dsimp only [Pt.U, Pt.locs, Pt.cells, Pt.slots] at X9 l9 y9 z9 st9 hQ9
  subst l9 y9 z9
  obtain ⟨br_9, ⟨rfl, N9q, K9⟩⟩ := hQ9
  have N9 := Fr.app N8 N9q
  have f8 := ((((f0.ext E5).other W6 (Or.inl (Nat.ne_of_lt (Nat.lt_of_lt_of_le f0.lt (Nat.le_of_eq g5.symm))))).other W7 (Or.inl (Nat.ne_of_lt (Nat.lt_of_lt_of_le f0.lt (Nat.le_of_eq g5.symm))))).keep K8 (own_nm (Nat.ne_of_lt (Nat.lt_of_lt_of_le F_value_s_EMPTY.lt (Nat.le_of_eq g4.symm))) own_n0))
  have f9 := (V7.keep K8 (own_nm (Ne.symm (Nat.ne_of_lt (Nat.lt_of_lt_of_le A4.lt (Nat.le_of_eq g5.symm)))) own_n0))
  have f10 := (own_sta_keep f7 K9 own_q0)
  obtain ⟨_, _, ⟨T10, L10, k10, n10⟩, -, X10w, hS10w, hg10, ⟨Lc10, hQ10, l10, y10, z10⟩, st10⟩ := Jvm.RoadKit.callSS X9 hx (y := (⟨"underdeck/deck/ColumnRequiredPinLaw", "drawn", "(I)Ljava/lang/String;"⟩ : MethodName)) hown (mvT hZ (hi 44 rfl)) (mvT hZ (hi 45 rfl)) (mvT hZ (hi 46 rfl)) (mvT hZ (hi 47 rfl)) (by decide) (backOfS (W := 0) (rm11 l Z a0 hw [] p3 s_COMPACT_STRINGS T9.heap n0 (Nat.le_trans (Nat.le_trans (Nat.le_trans (Nat.le_trans (Nat.le_trans (Nat.le_trans Z0 E4.1) E5.1) (Keep.of_wr W6).1) (Keep.of_wr W7).1) K8.1) K9.1) f10 hcs) hZ (hi 47 rfl) (hi 46 rfl) (by decide) (by decide)) (g := (mkF m 96 #[vI p1, vI p2, vI p3, vI (t0_0 p1), vI (0 : Int32), vI (t0_2 p1), vI (1 : Int32), vA b4, vA br_9, vU, vU, vU, vU, vU, vU, vU] [(.int p3)])) rfl (by rw [hml]; rfl) (argsL := [(.int p3)]) (rest := []) (lenOf pd__28I_29Ljava_2flang_2fString_3b rfl) rfl (by show 2 * 0 + _ ≤ _; exact Nat.le_of_eq rfl) (hb hby at_96) (fun _ _ => ⟨rfl, rfl, (by decide : 5 + 2 ≤ _), (by decide : 13 + 5 ≤ _)⟩)
  dsimp only [Pt.U, Pt.locs, Pt.cells, Pt.slots] at X10w hS10w hg10 l10 y10 z10 st10 hQ10
  subst l10 y10 z10
  obtain ⟨X10, hS10, hZ10, hown10⟩ := rebS hS0 (show _ ≤ T9.heap.size from by exact (Nat.le_trans (Nat.le_trans (Nat.le_trans (Nat.le_trans (Nat.le_trans (Nat.le_trans (Nat.le_refl h0.size) E4.1) E5.1) (Keep.of_wr W6).1) (Keep.of_wr W7).1) K8.1) K9.1)) X10w hS10w hg10 hZ hown
  obtain ⟨br_10, ⟨rfl, N10q, K10⟩⟩ := hQ10
  have N10 := Fr.app N9 N10q
  have f11 := (f8.keep K9 own_n0)
  have f12 := (i8_0.keep K9)
  have f13 := (f9.keep K9 own_n0)
  have f14 := (own_sta_keep f10 K10 own_q0)
  obtain ⟨_, _, ⟨T11, L11, k11, n11⟩, -, X11w, hS11w, hg11, ⟨Lc11, hQ11, l11, y11, z11⟩, st11⟩ := Jvm.RoadKit.callSS X10 hx (y := (⟨"underdeck/deck/ColumnRequiredPinLaw", "drawn", "(I)Ljava/lang/String;"⟩ : MethodName)) hown10 (mvT hZ10 (hi 44 rfl)) (mvT hZ10 (hi 45 rfl)) (mvT hZ10 (hi 46 rfl)) (mvT hZ10 (hi 47 rfl)) (by decide) (backOfS (W := 0) (rm11 l Z a0 hw [] (t0_8 p3) s_COMPACT_STRINGS T10.heap n0 (Nat.le_trans (Nat.le_trans (Nat.le_trans (Nat.le_trans (Nat.le_trans (Nat.le_trans (Nat.le_trans Z0 E4.1) E5.1) (Keep.of_wr W6).1) (Keep.of_wr W7).1) K8.1) K9.1) K10.1) f14 hcs) hZ10 (hi 47 rfl) (hi 46 rfl) (by decide) (by decide)) (g := (mkF m 105 #[vI p1, vI p2, vI p3, vI (t0_0 p1), vI (0 : Int32), vI (t0_2 p1), vI (1 : Int32), vA b4, vA br_9, vA br_10, vU, vU, vU, vU, vU, vU] [(.int (t0_8 p3))])) rfl (by rw [hml]; rfl) (argsL := [(.int (t0_8 p3))]) (rest := []) (lenOf pd__28I_29Ljava_2flang_2fString_3b rfl) rfl (by show 2 * 0 + _ ≤ _; exact Nat.le_of_eq rfl) (hb hby at_105) (fun _ _ => ⟨rfl, rfl, (by decide : 7 + 2 ≤ _), (by decide : 18 + 5 ≤ _)⟩)
  dsimp only [Pt.U, Pt.locs, Pt.cells, Pt.slots] at X11w hS11w hg11 l11 y11 z11 st11 hQ11
  subst l11 y11 z11
  obtain ⟨X11, hS11, hZ11, hown11⟩ := rebS hS10 (show _ ≤ T10.heap.size from by exact (Nat.le_refl _)) X11w hS11w hg11 hZ10 hown10
  obtain ⟨br_11, ⟨rfl, N11q, K11⟩⟩ := hQ11
  have N11 := Fr.app N10 N11q
  have f15 := (f11.keep K10 own_n0)
  have f16 := (f12.keep K10)
  have f17 := (f13.keep K10 own_n0)
  have f18 := (own_sta_keep (own_sta_keep (own_sta_keep (own_sta_keep ((((S_EMPTY.ext E4).ext E5).wr W6).wr W7) K8 (own_qc (own_nst f6) own_q0)) K9 own_q0) K10 own_q0) K11 own_q0)
  obtain ⟨_, _, ⟨T12, L12, k12, n12⟩, -, X12, ⟨Lc12, hQ12, l12, y12, z12⟩, st12⟩ := Jvm.LawKit.callS X11 hx (y := (⟨"java/util/Optional", "empty", "()Ljava/util/Optional;"⟩ : MethodName)) hown11 (mvT hZ11 (hi 51 rfl)) (mvT hZ11 (hi 52 rfl)) (mvT hZ11 (hi 53 rfl)) (mvT hZ11 (hi 54 rfl)) (by decide) (backOf (W := 0) (rm12 l Z a0 hw [] s_EMPTY T11.heap n0 (Nat.le_trans (Nat.le_trans (Nat.le_trans (Nat.le_trans (Nat.le_trans (Nat.le_trans (Nat.le_trans (Nat.le_trans Z0 E4.1) E5.1) (Keep.of_wr W6).1) (Keep.of_wr W7).1) K8.1) K9.1) K10.1) K11.1) f18) hZ11 (hi 54 rfl) (hi 53 rfl) (by decide) (by decide)) (g := (mkF m 123 #[vI p1, vI p2, vI p3, vI (t0_0 p1), vI (0 : Int32), vI (t0_2 p1), vI (1 : Int32), vA b4, vA br_9, vA br_10, vA br_11, vU, vU, vU, vU, vU] [])) rfl (by rw [hml]; rfl) (argsL := []) (rest := []) (lenOf pd__28_29Ljava_2futil_2fOptional_3b rfl) rfl (by show 2 * 0 + _ ≤ _; exact Nat.le_of_eq rfl) (hb hby at_123) (fun _ _ => ⟨rfl, rfl, (by decide : 9 + 0 ≤ _), (by decide : 23 + 0 ≤ _)⟩)
  dsimp only [Pt.U, Pt.locs, Pt.cells, Pt.slots] at X12 l12 y12 z12 st12 hQ12
  subst l12 y12 z12
  obtain ⟨rfl, N12q, e12⟩ := hQ12
  have N12 := Fr.app N11 N12q
  have f19 := (own_sta_keep (own_sta_keep (own_sta_keep (own_sta_keep ((((S_ALWAYS.ext E4).ext E5).wr W6).wr W7) K8 (own_qc (own_nst f6) own_q0)) K9 own_q0) K10 own_q0) K11 own_q0)
  obtain ⟨T13, X13, e13, st13⟩ := getS2 X12 hx hZ11 hown11 (host := "") (Or.inl (hi 101 rfl)) Via.refl e12 f19 (g := (mkF m 147 #[vI p1, vI p2, vI p3, vI (t0_0 p1), vI (0 : Int32), vI (t0_2 p1), vI (1 : Int32), vA b4, vA br_9, vA br_10, vA br_11, vA s_EMPTY, vU, vU, vU, vU] [])) rfl (hb hby at_147)
  obtain ⟨_, _, ⟨T14, L14, k14, n14⟩, -, X14, ⟨Lc14, hQ14, l14, y14, z14⟩, st14⟩ := Jvm.LawKit.callS X13 hx (y := (⟨"java/util/Optional", "of", "(Ljava/lang/Object;)Ljava/util/Optional;"⟩ : MethodName)) hown11 (mvT hZ11 (hi 104 rfl)) (mvT hZ11 (hi 105 rfl)) (mvT hZ11 (hi 53 rfl)) (mvT hZ11 (hi 106 rfl)) (by decide) (backOf (W := 0) (rm18 l Z a0 hw [] s_ALWAYS T11.heap n0 (Nat.le_trans (Nat.le_trans (Nat.le_trans (Nat.le_trans (Nat.le_trans (Nat.le_trans (Nat.le_trans (Nat.le_trans Z0 E4.1) E5.1) (Keep.of_wr W6).1) (Keep.of_wr W7).1) K8.1) K9.1) K10.1) K11.1) ) hZ11 (hi 106 rfl) (hi 53 rfl) (by decide) (by decide)) (g := (mkF m 150 #[vI p1, vI p2, vI p3, vI (t0_0 p1), vI (0 : Int32), vI (t0_2 p1), vI (1 : Int32), vA b4, vA br_9, vA br_10, vA br_11, vA s_EMPTY, vU, vU, vU, vU] [(.ref s_ALWAYS)])) rfl (by rw [hml]; rfl) (argsL := [(.ref s_ALWAYS)]) (rest := []) (lenOf pd__28Ljava_2flang_2fObject_3b_29Ljava_2futil_2fOptional_3b rfl) rfl (by show 2 * 0 + _ ≤ _; exact Nat.le_of_eq rfl) (hb hby at_150) (fun _ _ => ⟨rfl, e13, (by decide : 9 + 1 ≤ _), (by decide : 23 + 1 ≤ _)⟩)
  dsimp only [Pt.U, Pt.locs, Pt.cells, Pt.slots] at X14 l14 y14 z14 st14 hQ14
  subst l14 y14 z14
  obtain ⟨b2_14, ⟨rfl, N14q, K14, i14_0, i14_1, i14_2⟩⟩ := hQ14
  have N14 := Fr.app N12 N14q
  have f20 := (f15.keep K11 own_n0)
  have f21 := (f16.keep K11)
  have f22 := (f17.keep K11 own_n0)
  have sz_b2_14 : h0.size ≤ b2_14 := Nat.le_trans (Nat.le_trans (Nat.le_trans (Nat.le_trans (Nat.le_trans (Nat.le_trans (Nat.le_trans (Nat.le_trans (Nat.le_trans (Nat.le_refl h0.size) E4.1) E5.1) (Keep.of_wr W6).1) (Keep.of_wr W7).1) K8.1) K9.1) K10.1) K11.1) i14_0
  have g_b2_14 : n0 ≤ b2_14 := Nat.le_trans Z0 sz_b2_14
  obtain ⟨_, _, ⟨T15, L15, k15, n15⟩, -, X15, ⟨Lc15, hQ15, l15, y15, z15⟩, st15⟩ := Jvm.LawKit.callS X14 hx (y := (⟨"java/util/Optional", "of", "(Ljava/lang/Object;)Ljava/util/Optional;"⟩ : MethodName)) hown11 (mvT hZ11 (hi 104 rfl)) (mvT hZ11 (hi 105 rfl)) (mvT hZ11 (hi 53 rfl)) (mvT hZ11 (hi 106 rfl)) (by decide) (backOf (W := 0) (rm18 l Z a0 hw [] br_11 T14.heap n0 (Nat.le_trans (Nat.le_trans (Nat.le_trans (Nat.le_trans (Nat.le_trans (Nat.le_trans (Nat.le_trans (Nat.le_trans (Nat.le_trans Z0 E4.1) E5.1) (Keep.of_wr W6).1) (Keep.of_wr W7).1) K8.1) K9.1) K10.1) K11.1) K14.1) ) hZ11 (hi 106 rfl) (hi 53 rfl) (by decide) (by decide)) (g := (mkF m 173 #[vI p1, vI p2, vI p3, vI (t0_0 p1), vI (0 : Int32), vI (t0_2 p1), vI (1 : Int32), vA b4, vA br_9, vA br_10, vA br_11, vA s_EMPTY, vA b2_14, vU, vU, vU] [(.ref br_11)])) rfl (by rw [hml]; rfl) (argsL := [(.ref br_11)]) (rest := []) (lenOf pd__28Ljava_2flang_2fObject_3b_29Ljava_2futil_2fOptional_3b rfl) rfl (by show 2 * 0 + _ ≤ _; exact Nat.le_of_eq rfl) (hb hby at_173) (fun _ _ => ⟨rfl, rfl, (by decide : 10 + 1 ≤ _), (by decide : 24 + 1 ≤ _)⟩)
  dsimp only [Pt.U, Pt.locs, Pt.cells, Pt.slots] at X15 l15 y15 z15 st15 hQ15
  subst l15 y15 z15
  obtain ⟨b2_15, ⟨rfl, N15q, K15, i15_0, i15_1, i15_2⟩⟩ := hQ15
  have N15 := Fr.app N14 N15q
  have f23 := (f20.keep K14 own_n0)
  have f24 := (f21.keep K14)
  have f25 := (f22.keep K14 own_n0)
  have sz_b2_15 : h0.size ≤ b2_15 := Nat.le_trans (Nat.le_trans (Nat.le_trans (Nat.le_trans (Nat.le_trans (Nat.le_trans (Nat.le_trans (Nat.le_trans (Nat.le_trans (Nat.le_trans (Nat.le_refl h0.size) E4.1) E5.1) (Keep.of_wr W6).1) (Keep.of_wr W7).1) K8.1) K9.1) K10.1) K11.1) K14.1) i15_0
  have g_b2_15 : n0 ≤ b2_15 := Nat.le_trans Z0 sz_b2_15
  have f26 := (f23.keep K15 own_n0)
  have f27 := (f24.keep K15)
  have f28 := (f25.keep K15 own_n0)
  have f29 := (i14_1.keep K15)
  obtain ⟨T16, h16, X16, e16, E16, A16, D16, -, st16⟩ := newO X15 hx hZ11 hown11 (hi 56 rfl) (hi 57 rfl) (hi 58 rfl) rfl (g := (mkF m 184 #[vI p1, vI p2, vI p3, vI (t0_0 p1), vI (0 : Int32), vI (t0_2 p1), vI (1 : Int32), vA b4, vA br_9, vA br_10, vA br_11, vA s_EMPTY, vA b2_14, vA b2_15, vU, vU] [])) rfl (hb hby at_184) (by decide) (by decide)
  obtain ⟨b16, g16⟩ : ∃ z, z = T15.heap.size := ⟨_, rfl⟩
  rw [← g16] at A16 D16 st16
  have g_b16 : n0 ≤ b16 := Nat.le_trans (Nat.le_trans (Nat.le_trans (Nat.le_trans (Nat.le_trans (Nat.le_trans (Nat.le_trans (Nat.le_trans (Nat.le_trans (Nat.le_trans (Nat.le_trans Z0 E4.1) E5.1) (Keep.of_wr W6).1) (Keep.of_wr W7).1) K8.1) K9.1) K10.1) K11.1) K14.1) K15.1) (Nat.le_of_eq g16.symm)
  have sz_b16 : h0.size ≤ b16 := Nat.le_trans (Nat.le_trans (Nat.le_trans (Nat.le_trans (Nat.le_trans (Nat.le_trans (Nat.le_trans (Nat.le_trans (Nat.le_trans (Nat.le_trans (Nat.le_trans (Nat.le_refl h0.size) E4.1) E5.1) (Keep.of_wr W6).1) (Keep.of_wr W7).1) K8.1) K9.1) K10.1) K11.1) K14.1) K15.1) (Nat.le_of_eq g16.symm)
  have F_name_b16 : Fld Z h16 b16 "underdeck/deck/Column" "name" "Ljava/lang/String;" .null := D16 (Or.inr (hi 78 rfl)) (ty := (.object "java/lang/String")) (by decide)
  have F_type_b16 : Fld Z h16 b16 "underdeck/deck/Column" "type" "Ljava/lang/String;" .null := D16 (Or.inr (hi 80 rfl)) (ty := (.object "java/lang/String")) (by decide)
  have F_nullable_b16 : Fld Z h16 b16 "underdeck/deck/Column" "nullable" "Z" (.int (0 : Int32)) := D16 (Or.inr (hi 82 rfl)) (ty := .boolean) (by decide)
  have F_defaultValue_b16 : Fld Z h16 b16 "underdeck/deck/Column" "defaultValue" "Ljava/util/Optional;" .null := D16 (Or.inr (hi 84 rfl)) (ty := (.object "java/util/Optional")) (by decide)
  have F_identity_b16 : Fld Z h16 b16 "underdeck/deck/Column" "identity" "Ljava/util/Optional;" .null := D16 (Or.inr (hi 86 rfl)) (ty := (.object "java/util/Optional")) (by decide)
  have F_generated_b16 : Fld Z h16 b16 "underdeck/deck/Column" "generated" "Ljava/util/Optional;" .null := D16 (Or.inr (hi 88 rfl)) (ty := (.object "java/util/Optional")) (by decide)
  obtain ⟨_, _, ⟨T17, L17, k17, n17⟩, -, X17w, hS17w, hg17, ⟨Lc17, hQ17, l17, y17, z17⟩, st17⟩ := X16.specialBackS hx (y := (⟨"underdeck/deck/Column", "<init>", "(Ljava/lang/String;Ljava/lang/String;ZLjava/util/Optional;Ljava/util/Optional;Ljava/util/Optional;)V"⟩ : MethodName)) rfl hown11 (mvT hZ11 (hi 59 rfl)) (mvT hZ11 (hi 60 rfl)) (mvT hZ11 (hi 61 rfl)) (by decide) (backOfS (W := 1) (rm13 l Z a0 hw [] b16 b4 br_9 (t0_0 p1) s_EMPTY b2_14 b2_15 .null .null (0 : Int32) .null .null .null h16 n0 (Nat.le_trans (Nat.le_trans (Nat.le_trans (Nat.le_trans (Nat.le_trans (Nat.le_trans (Nat.le_trans (Nat.le_trans (Nat.le_trans (Nat.le_trans (Nat.le_trans Z0 E4.1) E5.1) (Keep.of_wr W6).1) (Keep.of_wr W7).1) K8.1) K9.1) K10.1) K11.1) K14.1) K15.1) E16.1) A16 F_name_b16 g_b16 F_type_b16 F_nullable_b16 F_defaultValue_b16 F_identity_b16 F_generated_b16) hZ11 (hi 61 rfl) (hi 58 rfl) (by decide) (by decide)) (g := (mkF m 199 #[vI p1, vI p2, vI p3, vI (t0_0 p1), vI (0 : Int32), vI (t0_2 p1), vI (1 : Int32), vA b4, vA br_9, vA br_10, vA br_11, vA s_EMPTY, vA b2_14, vA b2_15, vU, vU] [(.ref b2_15), (.ref b2_14), (.ref s_EMPTY), (.int (t0_0 p1)), (.ref br_9), (.ref b4), (.ref b16), (.ref b16)])) rfl (by rw [hml]; rfl) (Steps.refl _) (a := b16) (argsL := [(.ref b4), (.ref br_9), (.int (t0_0 p1)), (.ref s_EMPTY), (.ref b2_14), (.ref b2_15)]) (rest := [(.ref b16)]) (lenOf pd__28Ljava_2flang_2fString_3bLjava_2flang_2fString_3bZLjava_2futil_2fOptional_3bLjava_2futil_2fOptional_3bLjava_2futil_2fOptional_3b_29V rfl) rfl (by show 2 * 0 + _ ≤ _; exact Nat.le_of_eq rfl) (hb hby at_199) (fun _ _ => ⟨rfl, e16, (by decide : 12 + 10 ≤ _), (by decide : 31 + 168 ≤ _)⟩)
  dsimp only [Pt.U, Pt.locs, Pt.cells, Pt.slots] at X17w hS17w hg17 l17 y17 z17 st17 hQ17
  subst l17 y17 z17
  obtain ⟨X17, hS17, hZ17, hown17⟩ := rebS hS11 (show _ ≤ T16.heap.size from by rw [e16]; exact (Nat.le_trans (Nat.le_trans (Nat.le_trans (Nat.le_refl _) K14.1) K15.1) E16.1)) X17w hS17w hg17 hZ11 hown11
  obtain ⟨rfl, N17q, K17, i17_0, i17_1, i17_2, i17_3, i17_4, i17_5, i17_6⟩ := hQ17
  have N17 := Fr.app N15 N17q
  have f30 := (((i14_2.keep K15 own_n0).ext E16).keep K17 (own_nm (Nat.ne_of_lt (Nat.lt_of_lt_of_le f29.lt (Nat.le_of_eq g16.symm))) own_n0))
  have f31 := ((f26.ext E16).keep K17 (own_nm (Nat.ne_of_lt (Nat.lt_of_lt_of_le f26.lt (Nat.le_of_eq g16.symm))) own_n0))
  have f32 := ((((((((((((E_s_EMPTY.ext E4).ext E5).wr W6).wr W7).keep K8).keep K9).keep K10).keep K11).keep K14).keep K15).ext E16).keep K17)
  have f33 := ((f29.ext E16).keep K17)
  obtain ⟨cq18, kq18, q18a, q18b, q18c⟩ := isOf hZ17 rfl i17_0
  obtain ⟨_, _, ⟨T18, L18, k18, n18⟩, -, X18, ⟨Lc18, hQ18, l18, y18, z18⟩, st18⟩ := X17.virtualBack hx (y := (⟨"underdeck/deck/Column", "required", "()Z"⟩ : MethodName)) (z := (⟨"underdeck/deck/Column", "required", "()Z"⟩ : MethodName)) hown17 (mvT hZ17 (hi 89 rfl)) (mvT hZ17 (hi 90 rfl)) (notFace_of_selects (args := #[]) (mvT hZ17 (hi 92 rfl))) (mvT hZ17 (hi 92 rfl)) (mvT hZ17 (hi 91 rfl)) (by decide) (backOf (W := 0) (rm16nv l Z a0 hw [] b16 (nar .boolean (t0_0 p1)) s_EMPTY b2_14 s_ALWAYS T17.heap n0 (Nat.le_trans (Nat.le_trans (Nat.le_trans (Nat.le_trans (Nat.le_trans (Nat.le_trans (Nat.le_trans (Nat.le_trans (Nat.le_trans (Nat.le_trans (Nat.le_trans (Nat.le_trans Z0 E4.1) E5.1) (Keep.of_wr W6).1) (Keep.of_wr W7).1) K8.1) K9.1) K10.1) K11.1) K14.1) K15.1) E16.1) K17.1) i17_3 i17_4 f31 f32 i17_5 f30 f33) hZ17 (hi 93 rfl) (hi 58 rfl) (by decide) (by decide)) q18a q18c (g := (mkF m 240 #[vI p1, vI p2, vI p3, vI (t0_0 p1), vI (0 : Int32), vI (t0_2 p1), vI (1 : Int32), vA b4, vA br_9, vA br_10, vA br_11, vA s_EMPTY, vA b2_14, vA b2_15, vA b16, vI (0 : Int32)] [(.ref b16)])) rfl (by rw [hml]; rfl) (Steps.refl _) (argsL := []) (rest := []) (lenOf pd__28_29Z rfl) rfl (by show 2 * 0 + _ ≤ _; exact Nat.le_of_eq rfl) (hb hby at_240) (fun _ _ => ⟨rfl, rfl, (by decide : 22 + 0 ≤ _), (by decide : 199 + 0 ≤ _)⟩)
  dsimp only [Pt.U, Pt.locs, Pt.cells, Pt.slots] at X18 l18 y18 z18 st18 hQ18
  subst l18 y18 z18
  obtain ⟨rfl, N18q, e18⟩ := hQ18
  have N18 := Fr.app N17 N18q
  obtain ⟨fs, hr, hrun, hended, hw1, hw2, hw3, hw4⟩ := X18.leaveW hS17 (show _ ≤ T18.heap.size from by rw [e18]; exact (Nat.le_refl _)) (v := some (.int (1 : Int32))) (fun h => by rw [Bd.returns] at h; cases h)
  refine ⟨_, _, pre0 _ ?_, hrun, hended, _, _, rfl, ?_, hw1, hw2, hw3, hw4.mono (by decide) (by decide)⟩
  · show Steps p.tables e below (s₁.setTop (mkF m 0 #[vI p1, vI p2, vI p3, vU, vU, vU, vU, vU, vU, vU, vU, vU, vU, vU, vU, vU] [])) _
    refine XS.iloadN X0.here hx rfl (hb hby at_0) rfl ?_
    refine XS.iconst X0.here hx rfl (hb hby at_1) ?_
    refine XS.iand X0.here hx rfl (hb hby at_2) rfl ?_
    show Steps p.tables e below (s₁.setTop (mkF m 3 #[vI p1, vI p2, vI p3, vU, vU, vU, vU, vU, vU, vU, vU, vU, vU, vU, vU, vU] [(.int (p1 &&& (1 : Int32)))])) _
    have J3 : ∀ target, Steps p.tables e below (s₁.setTop (mkF m 11 #[vI p1, vI p2, vI p3, vU, vU, vU, vU, vU, vU, vU, vU, vU, vU, vU, vU, vU] [(.int (t0_0 p1))])) target → Steps p.tables e below (s₁.setTop (mkF m 3 #[vI p1, vI p2, vI p3, vU, vU, vU, vU, vU, vU, vU, vU, vU, vU, vU, vU, vU] [(.int (p1 &&& (1 : Int32)))])) target := by
      intro target kt
      by_cases hm3 : (p1 &&& (1 : Int32)) = (0 : Int32)
      · skip
        show Steps p.tables e below (s₁.setTop (mkF m 3 #[vI p1, vI p2, vI p3, vU, vU, vU, vU, vU, vU, vU, vU, vU, vU, vU, vU, vU] [(.int (p1 &&& (1 : Int32)))])) _
        refine XS.ifYes X0.here hx rfl (pc0 := 3) (pc' := 10) rfl (hb hby at_3) rfl ((if0 _ _).trans (teq hm3).1) (by decide) (by decide) ?_
        refine XS.iconst X0.here hx rfl (hb hby at_10) ?_
        rw [show (t0_0 p1) = (0 : Int32) from if_pos hm3] at kt
        exact kt
      · skip
        show Steps p.tables e below (s₁.setTop (mkF m 3 #[vI p1, vI p2, vI p3, vU, vU, vU, vU, vU, vU, vU, vU, vU, vU, vU, vU, vU] [(.int (p1 &&& (1 : Int32)))])) _
        refine XS.ifNo X0.here hx rfl (hb hby at_3) rfl ((if0 _ _).trans (feq hm3).1) ?_
        refine XS.iconst X0.here hx rfl (hb hby at_6) ?_
        show Steps p.tables e below (s₁.setTop (mkF m 7 #[vI p1, vI p2, vI p3, vU, vU, vU, vU, vU, vU, vU, vU, vU, vU, vU, vU, vU] [(.int (1 : Int32))])) _
        refine XS.goto X0.here hx rfl (pc0 := 7) (pc' := 11) rfl (hb hby at_7) (by decide) (by decide) ?_
        rw [show (t0_0 p1) = (1 : Int32) from if_neg hm3] at kt
        exact kt
    refine J3 _ ?_
    refine XS.istoreN X0.here hx rfl (hb hby at_11) rfl (l' := #[vI p1, vI p2, vI p3, vI (t0_0 p1), vU, vU, vU, vU, vU, vU, vU, vU, vU, vU, vU, vU]) rfl ?_
    refine XS.iloadN X0.here hx rfl (hb hby at_12) rfl ?_
    refine XS.iconst X0.here hx rfl (hb hby at_13) ?_
    refine XS.iand X0.here hx rfl (hb hby at_14) rfl ?_
    show Steps p.tables e below (s₁.setTop (mkF m 15 #[vI p1, vI p2, vI p3, vI (t0_0 p1), vU, vU, vU, vU, vU, vU, vU, vU, vU, vU, vU, vU] [(.int (p1 &&& (2 : Int32)))])) _
    refine XS.ifYes X0.here hx rfl (pc0 := 15) (pc' := 22) rfl (hb hby at_15) rfl ((if0 _ _).trans (teq hc15).1) (by decide) (by decide) ?_
    refine XS.iconst X0.here hx rfl (hb hby at_22) ?_
    refine XS.istore X0.here hx rfl (hb hby at_23) rfl (l' := #[vI p1, vI p2, vI p3, vI (t0_0 p1), vI (0 : Int32), vU, vU, vU, vU, vU, vU, vU, vU, vU, vU, vU]) rfl ?_
    refine XS.iloadN X0.here hx rfl (hb hby at_25) rfl ?_
    refine XS.iconst X0.here hx rfl (hb hby at_26) ?_
    refine XS.iushr X0.here hx rfl (hb hby at_27) rfl ?_
    refine XS.iconst X0.here hx rfl (hb hby at_28) ?_
    refine XS.iand X0.here hx rfl (hb hby at_29) rfl ?_
    refine XS.iconst X0.here hx rfl (hb hby at_30) ?_
    refine XS.irem X0.here hx rfl (hb hby at_31) rfl (by decide) ?_
    refine XS.istore X0.here hx rfl (hb hby at_32) rfl (l' := #[vI p1, vI p2, vI p3, vI (t0_0 p1), vI (0 : Int32), vI (t0_2 p1), vU, vU, vU, vU, vU, vU, vU, vU, vU, vU]) rfl ?_
    refine XS.iloadN X0.here hx rfl (hb hby at_34) rfl ?_
    refine XS.bipush X0.here hx rfl (hb hby at_35) ?_
    refine XS.iand X0.here hx rfl (hb hby at_37) rfl ?_
    show Steps p.tables e below (s₁.setTop (mkF m 38 #[vI p1, vI p2, vI p3, vI (t0_0 p1), vI (0 : Int32), vI (t0_2 p1), vU, vU, vU, vU, vU, vU, vU, vU, vU, vU] [(.int (p1 &&& (16 : Int32)))])) _
    refine XS.ifNo X0.here hx rfl (hb hby at_38) rfl ((if0 _ _).trans (feq hc38).1) ?_
    refine XS.iconst X0.here hx rfl (hb hby at_41) ?_
    show Steps p.tables e below (s₁.setTop (mkF m 42 #[vI p1, vI p2, vI p3, vI (t0_0 p1), vI (0 : Int32), vI (t0_2 p1), vU, vU, vU, vU, vU, vU, vU, vU, vU, vU] [(.int (1 : Int32))])) _
    refine XS.goto X0.here hx rfl (pc0 := 42) (pc' := 46) rfl (hb hby at_42) (by decide) (by decide) ?_
    refine XS.istore X0.here hx rfl (hb hby at_46) rfl (l' := #[vI p1, vI p2, vI p3, vI (t0_0 p1), vI (0 : Int32), vI (t0_2 p1), vI (1 : Int32), vU, vU, vU, vU, vU, vU, vU, vU, vU]) rfl ?_
    show Steps p.tables e below (s₁.setTop (mkF m 48 #[vI p1, vI p2, vI p3, vI (t0_0 p1), vI (0 : Int32), vI (t0_2 p1), vI (1 : Int32), vU, vU, vU, vU, vU, vU, vU, vU, vU] [])) _
    refine st4 _ ?_
    refine XS.dup X4.here hx rfl (hb hby at_51) rfl rfl ?_
    refine XS.iconst X4.here hx rfl (hb hby at_52) ?_
    show Steps p.tables e below (T4.setTop (mkF m 53 #[vI p1, vI p2, vI p3, vI (t0_0 p1), vI (0 : Int32), vI (t0_2 p1), vI (1 : Int32), vU, vU, vU, vU, vU, vU, vU, vU, vU] [(.int (2 : Int32)), (.ref b4), (.ref b4)])) _
    refine st5 _ ?_
    refine XS.dup X5.here hx rfl (hb hby at_55) rfl rfl ?_
    refine XS.iconst X5.here hx rfl (hb hby at_56) ?_
    refine XS.iloadN X5.here hx rfl (hb hby at_57) rfl ?_
    refine XS.sipush X5.here hx rfl (hb hby at_58) ?_
    refine XS.iand X5.here hx rfl (hb hby at_61) rfl ?_
    refine XS.i2c X5.here hx rfl (hb hby at_62) rfl ?_
    show Steps p.tables e below (T5.setTop (mkF m 63 #[vI p1, vI p2, vI p3, vI (t0_0 p1), vI (0 : Int32), vI (t0_2 p1), vI (1 : Int32), vU, vU, vU, vU, vU, vU, vU, vU, vU] [(.int (t0_3 p2)), (.int (0 : Int32)), (.ref b5), (.ref b5), (.ref b4), (.ref b4)])) _
    refine st6 _ ?_
    refine XS.dup X6.here hx rfl (hb hby at_64) rfl rfl ?_
    refine XS.iconst X6.here hx rfl (hb hby at_65) ?_
    refine XS.iloadN X6.here hx rfl (hb hby at_66) rfl ?_
    refine XS.bipush X6.here hx rfl (hb hby at_67) ?_
    refine XS.iushr X6.here hx rfl (hb hby at_69) rfl ?_
    refine XS.sipush X6.here hx rfl (hb hby at_70) ?_
    refine XS.iand X6.here hx rfl (hb hby at_73) rfl ?_
    refine XS.i2c X6.here hx rfl (hb hby at_74) rfl ?_
    show Steps p.tables e below (T6.setTop (mkF m 75 #[vI p1, vI p2, vI p3, vI (t0_0 p1), vI (0 : Int32), vI (t0_2 p1), vI (1 : Int32), vU, vU, vU, vU, vU, vU, vU, vU, vU] [(.int (t0_5 p2)), (.int (1 : Int32)), (.ref b5), (.ref b5), (.ref b4), (.ref b4)])) _
    refine st7 _ ?_
    show Steps p.tables e below (T7.setTop (mkF m 76 #[vI p1, vI p2, vI p3, vI (t0_0 p1), vI (0 : Int32), vI (t0_2 p1), vI (1 : Int32), vU, vU, vU, vU, vU, vU, vU, vU, vU] [(.ref b5), (.ref b4), (.ref b4)])) _
    refine st8.trans ?_
    refine XS.astore X8.here hx rfl (hb hby at_79) rfl rfl (l' := #[vI p1, vI p2, vI p3, vI (t0_0 p1), vI (0 : Int32), vI (t0_2 p1), vI (1 : Int32), vA b4, vU, vU, vU, vU, vU, vU, vU, vU]) rfl ?_
    refine XS.iloadN X8.here hx rfl (hb hby at_81) rfl ?_
    refine XS.bipush X8.here hx rfl (hb hby at_82) ?_
    refine XS.iushr X8.here hx rfl (hb hby at_84) rfl ?_
    refine XS.sipush X8.here hx rfl (hb hby at_85) ?_
    refine XS.iand X8.here hx rfl (hb hby at_88) rfl ?_
    refine XS.i2c X8.here hx rfl (hb hby at_89) rfl ?_
    show Steps p.tables e below (T8.setTop (mkF m 90 #[vI p1, vI p2, vI p3, vI (t0_0 p1), vI (0 : Int32), vI (t0_2 p1), vI (1 : Int32), vA b4, vU, vU, vU, vU, vU, vU, vU, vU] [(.int (t0_7 p2))])) _
    refine st9 _ ?_
    refine XS.astore X9.here hx rfl (hb hby at_93) rfl rfl (l' := #[vI p1, vI p2, vI p3, vI (t0_0 p1), vI (0 : Int32), vI (t0_2 p1), vI (1 : Int32), vA b4, vA br_9, vU, vU, vU, vU, vU, vU, vU]) rfl ?_
    refine XS.iloadN X9.here hx rfl (hb hby at_95) rfl ?_
    show Steps p.tables e below (T9.setTop (mkF m 96 #[vI p1, vI p2, vI p3, vI (t0_0 p1), vI (0 : Int32), vI (t0_2 p1), vI (1 : Int32), vA b4, vA br_9, vU, vU, vU, vU, vU, vU, vU] [(.int p3)])) _
    refine st10.trans ?_
    refine XS.astore X10.here hx rfl (hb hby at_99) rfl rfl (l' := #[vI p1, vI p2, vI p3, vI (t0_0 p1), vI (0 : Int32), vI (t0_2 p1), vI (1 : Int32), vA b4, vA br_9, vA br_10, vU, vU, vU, vU, vU, vU]) rfl ?_
    refine XS.iloadN X10.here hx rfl (hb hby at_101) rfl ?_
    refine XS.bipush X10.here hx rfl (hb hby at_102) ?_
    refine XS.iushr X10.here hx rfl (hb hby at_104) rfl ?_
    show Steps p.tables e below (T10.setTop (mkF m 105 #[vI p1, vI p2, vI p3, vI (t0_0 p1), vI (0 : Int32), vI (t0_2 p1), vI (1 : Int32), vA b4, vA br_9, vA br_10, vU, vU, vU, vU, vU, vU] [(.int (t0_8 p3))])) _
    refine st11.trans ?_
    refine XS.astore X11.here hx rfl (hb hby at_108) rfl rfl (l' := #[vI p1, vI p2, vI p3, vI (t0_0 p1), vI (0 : Int32), vI (t0_2 p1), vI (1 : Int32), vA b4, vA br_9, vA br_10, vA br_11, vU, vU, vU, vU, vU]) rfl ?_
    refine XS.iload X11.here hx rfl (hb hby at_110) rfl ?_
    show Steps p.tables e below (T11.setTop (mkF m 112 #[vI p1, vI p2, vI p3, vI (t0_0 p1), vI (0 : Int32), vI (t0_2 p1), vI (1 : Int32), vA b4, vA br_9, vA br_10, vA br_11, vU, vU, vU, vU, vU] [(.int (0 : Int32))])) _
    refine XS.ifYes X11.here hx rfl (pc0 := 112) (pc' := 123) rfl (hb hby at_112) rfl ((if0 _ _).trans (teq (rfl : (0 : Int32) = (0 : Int32))).1) (by decide) (by decide) ?_
    show Steps p.tables e below (T11.setTop (mkF m 123 #[vI p1, vI p2, vI p3, vI (t0_0 p1), vI (0 : Int32), vI (t0_2 p1), vI (1 : Int32), vA b4, vA br_9, vA br_10, vA br_11, vU, vU, vU, vU, vU] [])) _
    refine st12 _ ?_
    refine XS.astore X12.here hx rfl (hb hby at_126) rfl rfl (l' := #[vI p1, vI p2, vI p3, vI (t0_0 p1), vI (0 : Int32), vI (t0_2 p1), vI (1 : Int32), vA b4, vA br_9, vA br_10, vA br_11, vA s_EMPTY, vU, vU, vU, vU]) rfl ?_
    refine XS.iload X12.here hx rfl (hb hby at_128) rfl ?_
    show Steps p.tables e below (T12.setTop (mkF m 130 #[vI p1, vI p2, vI p3, vI (t0_0 p1), vI (0 : Int32), vI (t0_2 p1), vI (1 : Int32), vA b4, vA br_9, vA br_10, vA br_11, vA s_EMPTY, vU, vU, vU, vU] [(.int (t0_2 p1))])) _
    refine XS.ifYes X12.here hx rfl (pc0 := 130) (pc' := 141) rfl (hb hby at_130) rfl ((if0 _ _).trans (feq hc130).2) (by decide) (by decide) ?_
    refine XS.iload X12.here hx rfl (hb hby at_141) rfl ?_
    refine XS.iconst X12.here hx rfl (hb hby at_143) ?_
    show Steps p.tables e below (T12.setTop (mkF m 144 #[vI p1, vI p2, vI p3, vI (t0_0 p1), vI (0 : Int32), vI (t0_2 p1), vI (1 : Int32), vA b4, vA br_9, vA br_10, vA br_11, vA s_EMPTY, vU, vU, vU, vU] [(.int (1 : Int32)), (.int (t0_2 p1))])) _
    refine XS.icmpNo X12.here hx rfl (hb hby at_144) rfl (teq hc144).2 ?_
    show Steps p.tables e below (T12.setTop (mkF m 147 #[vI p1, vI p2, vI p3, vI (t0_0 p1), vI (0 : Int32), vI (t0_2 p1), vI (1 : Int32), vA b4, vA br_9, vA br_10, vA br_11, vA s_EMPTY, vU, vU, vU, vU] [])) _
    refine st13 _ ?_
    show Steps p.tables e below (T13.setTop (mkF m 150 #[vI p1, vI p2, vI p3, vI (t0_0 p1), vI (0 : Int32), vI (t0_2 p1), vI (1 : Int32), vA b4, vA br_9, vA br_10, vA br_11, vA s_EMPTY, vU, vU, vU, vU] [(.ref s_ALWAYS)])) _
    refine st14 _ ?_
    refine XS.astore X14.here hx rfl (hb hby at_153) rfl rfl (l' := #[vI p1, vI p2, vI p3, vI (t0_0 p1), vI (0 : Int32), vI (t0_2 p1), vI (1 : Int32), vA b4, vA br_9, vA br_10, vA br_11, vA s_EMPTY, vA b2_14, vU, vU, vU]) rfl ?_
    show Steps p.tables e below (T14.setTop (mkF m 155 #[vI p1, vI p2, vI p3, vI (t0_0 p1), vI (0 : Int32), vI (t0_2 p1), vI (1 : Int32), vA b4, vA br_9, vA br_10, vA br_11, vA s_EMPTY, vA b2_14, vU, vU, vU] [])) _
    refine XS.goto X14.here hx rfl (pc0 := 155) (pc' := 166) rfl (hb hby at_155) (by decide) (by decide) ?_
    refine XS.iload X14.here hx rfl (hb hby at_166) rfl ?_
    show Steps p.tables e below (T14.setTop (mkF m 168 #[vI p1, vI p2, vI p3, vI (t0_0 p1), vI (0 : Int32), vI (t0_2 p1), vI (1 : Int32), vA b4, vA br_9, vA br_10, vA br_11, vA s_EMPTY, vA b2_14, vU, vU, vU] [(.int (1 : Int32))])) _
    refine XS.ifNo X14.here hx rfl (hb hby at_168) rfl ((if0 _ _).trans (feq (by decide : ¬ ((1 : Int32) = (0 : Int32)))).1) ?_
    refine XS.aload X14.here hx rfl (hb hby at_171) rfl rfl ?_
    show Steps p.tables e below (T14.setTop (mkF m 173 #[vI p1, vI p2, vI p3, vI (t0_0 p1), vI (0 : Int32), vI (t0_2 p1), vI (1 : Int32), vA b4, vA br_9, vA br_10, vA br_11, vA s_EMPTY, vA b2_14, vU, vU, vU] [(.ref br_11)])) _
    refine st15 _ ?_
    show Steps p.tables e below (T15.setTop (mkF m 176 #[vI p1, vI p2, vI p3, vI (t0_0 p1), vI (0 : Int32), vI (t0_2 p1), vI (1 : Int32), vA b4, vA br_9, vA br_10, vA br_11, vA s_EMPTY, vA b2_14, vU, vU, vU] [(.ref b2_15)])) _
    refine XS.goto X15.here hx rfl (pc0 := 176) (pc' := 182) rfl (hb hby at_176) (by decide) (by decide) ?_
    refine XS.astore X15.here hx rfl (hb hby at_182) rfl rfl (l' := #[vI p1, vI p2, vI p3, vI (t0_0 p1), vI (0 : Int32), vI (t0_2 p1), vI (1 : Int32), vA b4, vA br_9, vA br_10, vA br_11, vA s_EMPTY, vA b2_14, vA b2_15, vU, vU]) rfl ?_
    show Steps p.tables e below (T15.setTop (mkF m 184 #[vI p1, vI p2, vI p3, vI (t0_0 p1), vI (0 : Int32), vI (t0_2 p1), vI (1 : Int32), vA b4, vA br_9, vA br_10, vA br_11, vA s_EMPTY, vA b2_14, vA b2_15, vU, vU] [])) _
    refine st16 _ ?_
    refine XS.dup X16.here hx rfl (hb hby at_187) rfl rfl ?_
    refine XS.aload X16.here hx rfl (hb hby at_188) rfl rfl ?_
    refine XS.aload X16.here hx rfl (hb hby at_190) rfl rfl ?_
    refine XS.iloadN X16.here hx rfl (hb hby at_192) rfl ?_
    refine XS.aload X16.here hx rfl (hb hby at_193) rfl rfl ?_
    refine XS.aload X16.here hx rfl (hb hby at_195) rfl rfl ?_
    refine XS.aload X16.here hx rfl (hb hby at_197) rfl rfl ?_
    show Steps p.tables e below (T16.setTop (mkF m 199 #[vI p1, vI p2, vI p3, vI (t0_0 p1), vI (0 : Int32), vI (t0_2 p1), vI (1 : Int32), vA b4, vA br_9, vA br_10, vA br_11, vA s_EMPTY, vA b2_14, vA b2_15, vU, vU] [(.ref b2_15), (.ref b2_14), (.ref s_EMPTY), (.int (t0_0 p1)), (.ref br_9), (.ref b4), (.ref b16), (.ref b16)])) _
    refine st17.trans ?_
    refine XS.astore X17.here hx rfl (hb hby at_202) rfl rfl (l' := #[vI p1, vI p2, vI p3, vI (t0_0 p1), vI (0 : Int32), vI (t0_2 p1), vI (1 : Int32), vA b4, vA br_9, vA br_10, vA br_11, vA s_EMPTY, vA b2_14, vA b2_15, vA b16, vU]) rfl ?_
    refine XS.iconst X17.here hx rfl (hb hby at_204) ?_
    refine XS.istore X17.here hx rfl (hb hby at_205) rfl (l' := #[vI p1, vI p2, vI p3, vI (t0_0 p1), vI (0 : Int32), vI (t0_2 p1), vI (1 : Int32), vA b4, vA br_9, vA br_10, vA br_11, vA s_EMPTY, vA b2_14, vA b2_15, vA b16, vI (1 : Int32)]) rfl ?_
    refine XS.iloadN X17.here hx rfl (hb hby at_207) rfl ?_
    show Steps p.tables e below (T17.setTop (mkF m 208 #[vI p1, vI p2, vI p3, vI (t0_0 p1), vI (0 : Int32), vI (t0_2 p1), vI (1 : Int32), vA b4, vA br_9, vA br_10, vA br_11, vA s_EMPTY, vA b2_14, vA b2_15, vA b16, vI (1 : Int32)] [(.int (t0_0 p1))])) _
    have J208 : ∀ target, Steps p.tables e below (T17.setTop (mkF m 214 #[vI p1, vI p2, vI p3, vI (t0_0 p1), vI (0 : Int32), vI (t0_2 p1), vI (1 : Int32), vA b4, vA br_9, vA br_10, vA br_11, vA s_EMPTY, vA b2_14, vA b2_15, vA b16, vI (t0_9 p1)] [])) target → Steps p.tables e below (T17.setTop (mkF m 208 #[vI p1, vI p2, vI p3, vI (t0_0 p1), vI (0 : Int32), vI (t0_2 p1), vI (1 : Int32), vA b4, vA br_9, vA br_10, vA br_11, vA s_EMPTY, vA b2_14, vA b2_15, vA b16, vI (1 : Int32)] [(.int (t0_0 p1))])) target := by
      intro target kt
      by_cases hm208 : (t0_0 p1) = (0 : Int32)
      · skip
        show Steps p.tables e below (T17.setTop (mkF m 208 #[vI p1, vI p2, vI p3, vI (t0_0 p1), vI (0 : Int32), vI (t0_2 p1), vI (1 : Int32), vA b4, vA br_9, vA br_10, vA br_11, vA s_EMPTY, vA b2_14, vA b2_15, vA b16, vI (1 : Int32)] [(.int (t0_0 p1))])) _
        refine XS.ifYes X17.here hx rfl (pc0 := 208) (pc' := 214) rfl (hb hby at_208) rfl ((if0 _ _).trans (teq hm208).1) (by decide) (by decide) ?_
        rw [show (t0_9 p1) = (1 : Int32) from if_pos hm208] at kt
        exact kt
      · skip
        show Steps p.tables e below (T17.setTop (mkF m 208 #[vI p1, vI p2, vI p3, vI (t0_0 p1), vI (0 : Int32), vI (t0_2 p1), vI (1 : Int32), vA b4, vA br_9, vA br_10, vA br_11, vA s_EMPTY, vA b2_14, vA b2_15, vA b16, vI (1 : Int32)] [(.int (t0_0 p1))])) _
        refine XS.ifNo X17.here hx rfl (hb hby at_208) rfl ((if0 _ _).trans (feq hm208).1) ?_
        refine XS.iconst X17.here hx rfl (hb hby at_211) ?_
        refine XS.istore X17.here hx rfl (hb hby at_212) rfl (l' := #[vI p1, vI p2, vI p3, vI (t0_0 p1), vI (0 : Int32), vI (t0_2 p1), vI (1 : Int32), vA b4, vA br_9, vA br_10, vA br_11, vA s_EMPTY, vA b2_14, vA b2_15, vA b16, vI (0 : Int32)]) rfl ?_
        rw [show (t0_9 p1) = (0 : Int32) from if_neg hm208] at kt
        exact kt
    refine J208 _ ?_
    refine XS.iload X17.here hx rfl (hb hby at_214) rfl ?_
    show Steps p.tables e below (T17.setTop (mkF m 216 #[vI p1, vI p2, vI p3, vI (t0_0 p1), vI (0 : Int32), vI (t0_2 p1), vI (1 : Int32), vA b4, vA br_9, vA br_10, vA br_11, vA s_EMPTY, vA b2_14, vA b2_15, vA b16, vI (t0_9 p1)] [(.int (0 : Int32))])) _
    refine XS.ifYes X17.here hx rfl (pc0 := 216) (pc' := 222) rfl (hb hby at_216) rfl ((if0 _ _).trans (teq (rfl : (0 : Int32) = (0 : Int32))).1) (by decide) (by decide) ?_
    refine XS.iload X17.here hx rfl (hb hby at_222) rfl ?_
    show Steps p.tables e below (T17.setTop (mkF m 224 #[vI p1, vI p2, vI p3, vI (t0_0 p1), vI (0 : Int32), vI (t0_2 p1), vI (1 : Int32), vA b4, vA br_9, vA br_10, vA br_11, vA s_EMPTY, vA b2_14, vA b2_15, vA b16, vI (t0_9 p1)] [(.int (t0_2 p1))])) _
    refine XS.ifNo X17.here hx rfl (hb hby at_224) rfl ((if0 _ _).trans (feq hc130).1) ?_
    refine XS.iconst X17.here hx rfl (hb hby at_227) ?_
    refine XS.istore X17.here hx rfl (hb hby at_228) rfl (l' := #[vI p1, vI p2, vI p3, vI (t0_0 p1), vI (0 : Int32), vI (t0_2 p1), vI (1 : Int32), vA b4, vA br_9, vA br_10, vA br_11, vA s_EMPTY, vA b2_14, vA b2_15, vA b16, vI (0 : Int32)]) rfl ?_
    refine XS.iload X17.here hx rfl (hb hby at_230) rfl ?_
    show Steps p.tables e below (T17.setTop (mkF m 232 #[vI p1, vI p2, vI p3, vI (t0_0 p1), vI (0 : Int32), vI (t0_2 p1), vI (1 : Int32), vA b4, vA br_9, vA br_10, vA br_11, vA s_EMPTY, vA b2_14, vA b2_15, vA b16, vI (0 : Int32)] [(.int (1 : Int32))])) _
    refine XS.ifNo X17.here hx rfl (hb hby at_232) rfl ((if0 _ _).trans (feq (by decide : ¬ ((1 : Int32) = (0 : Int32)))).1) ?_
    refine XS.iconst X17.here hx rfl (hb hby at_235) ?_
    refine XS.istore X17.here hx rfl (hb hby at_236) rfl (l' := #[vI p1, vI p2, vI p3, vI (t0_0 p1), vI (0 : Int32), vI (t0_2 p1), vI (1 : Int32), vA b4, vA br_9, vA br_10, vA br_11, vA s_EMPTY, vA b2_14, vA b2_15, vA b16, vI (0 : Int32)]) rfl ?_
    refine XS.aload X17.here hx rfl (hb hby at_238) rfl rfl ?_
    show Steps p.tables e below (T17.setTop (mkF m 240 #[vI p1, vI p2, vI p3, vI (t0_0 p1), vI (0 : Int32), vI (t0_2 p1), vI (1 : Int32), vA b4, vA br_9, vA br_10, vA br_11, vA s_EMPTY, vA b2_14, vA b2_15, vA b16, vI (0 : Int32)] [(.ref b16)])) _
    refine st18.trans ?_
    refine XS.iload X18.here hx rfl (hb hby at_243) rfl ?_
    show Steps p.tables e below (T18.setTop (mkF m 245 #[vI p1, vI p2, vI p3, vI (t0_0 p1), vI (0 : Int32), vI (t0_2 p1), vI (1 : Int32), vA b4, vA br_9, vA br_10, vA br_11, vA s_EMPTY, vA b2_14, vA b2_15, vA b16, vI (0 : Int32)] [(.int (0 : Int32)), (.int (0 : Int32))])) _
    refine XS.icmpNo X18.here hx rfl (hb hby at_245) rfl (teq (rfl : (0 : Int32) = (0 : Int32))).2 ?_
    refine XS.iconst X18.here hx rfl (hb hby at_248) ?_
    show Steps p.tables e below (T18.setTop (mkF m 249 #[vI p1, vI p2, vI p3, vI (t0_0 p1), vI (0 : Int32), vI (t0_2 p1), vI (1 : Int32), vA b4, vA br_9, vA br_10, vA br_11, vA s_EMPTY, vA b2_14, vA b2_15, vA b16, vI (0 : Int32)] [(.int (1 : Int32))])) _
    refine XS.goto X18.here hx rfl (pc0 := 249) (pc' := 253) rfl (hb hby at_249) (by decide) (by decide) ?_
    show Steps p.tables e below (T18.setTop (mkF m 253 #[vI p1, vI p2, vI p3, vI (t0_0 p1), vI (0 : Int32), vI (t0_2 p1), vI (1 : Int32), vA b4, vA br_9, vA br_10, vA br_11, vA s_EMPTY, vA b2_14, vA b2_15, vA b16, vI (0 : Int32)] [(.int (1 : Int32))])) _
    exact retN X18 hx (t := .boolean) Bd.returns (by simp) (hb hby at_253) hr
  · show Q_rm0 Z p1 p2 p3 s_COMPACT_STRINGS s_EMPTY s_ALWAYS s_BY_DEFAULT h0 n0 _ T18.heap _
    exact ⟨rfl, N18⟩
set_option maxRecDepth 65536 in
set_option maxHeartbeats 40000000 in
theorem rm0_tftt (l : Launch) (Z : State) (a0 : Array Value) (hw : ∀ d ∈ tables_1, d.before a0 Z = true) (ws : List Jvm.Cond) (p1 : Int32) (p2 : Int32) (p3 : Int32) (s_COMPACT_STRINGS : Int32) (s_EMPTY : Addr) (s_ALWAYS : Addr) (s_BY_DEFAULT : Addr) (h0 : Heap) (n0 : Nat) (Z0 : n0 ≤ h0.size) (hcs : ¬ (s_COMPACT_STRINGS = (0 : Int32))) (S_COMPACT_STRINGS : Sta Z h0 "java/lang/String" "COMPACT_STRINGS" "Z" (.int s_COMPACT_STRINGS)) (S_EMPTY : Sta Z h0 "java/util/Optional" "EMPTY" "Ljava/util/Optional;" (.ref s_EMPTY)) (S_ALWAYS : Sta Z h0 "underdeck/deck/Column$Identity" "ALWAYS" "Lunderdeck/deck/Column$Identity;" (.ref s_ALWAYS)) (S_BY_DEFAULT : Sta Z h0 "underdeck/deck/Column$Identity" "BY_DEFAULT" "Lunderdeck/deck/Column$Identity;" (.ref s_BY_DEFAULT)) (F_value_s_EMPTY : Fld Z h0 s_EMPTY "java/util/Optional" "value" "Ljava/lang/Object;" .null) (E_s_EMPTY : Exa Z h0 s_EMPTY "java/util/Optional") (hc15 : (p1 &&& (2 : Int32)) = (0 : Int32)) (hc38 : ¬ ((p1 &&& (16 : Int32)) = (0 : Int32))) (hc130 : ¬ ((t0_2 p1) = (0 : Int32))) (hc144 : ¬ ((t0_2 p1) = (1 : Int32))) :
    MetFree l x (head1 (Jvm.Cond.code x code maxLocals ret :: ws) room_1) (fun a U => a = #[(.int p1), (.int p2), (.int p3)] ∧ Z.Warmed39 U.vm ∧ U.heap = h0) (fun _ _ _ _ _ => True) (fun _ U o U' => ∃ v L, o = .returned v ∧ Q_rm0 Z p1 p2 p3 s_COMPACT_STRINGS s_EMPTY s_ALWAYS s_BY_DEFAULT h0 n0 v U'.heap L ∧ ReturnedEndW U o U' L room_1.cells room_1.slots) := by
  have hi : ∀ (i : Nat) {d : Jvm.Cond}, tables_1[i]? = some d → d.before a0 Z = true := fun i d h => hw d (List.mem_of_getElem? h)
  refine MetFree.of_bodySF (plainFor_of_name pn_0) hisR ?_
  intro p e s m args below meth c s₁ Bd hml0 hP hK
  obtain ⟨rfl, hZ, hh⟩ := hP
  have hx := Bd.exec
  have hby := Bd.bytes
  have hml : c.maxLocals = 16 := hml0
  have hown : s.vm.findClass "underdeck/deck/ColumnRequiredPinLaw" = some m.cls := findClass_of_methodNamed Bd.named
  have hnm := (name_of_methodNamed Bd.named Bd.method).1
  have X0 : Stand p l e room_1 (s.setVm s.vm) m #[(.int p1), (.int p2), (.int p3)] below meth c s₁ [] 0 0 := Stand.of_body Bd
  have e0 : s₁.heap = h0 := by rw [← hh, Bd.state]; rfl
  have N0 := Fr.nil n0
  have pre0 : ∀ t, Steps p.tables e below (s₁.setTop (mkF m 0 #[vI p1, vI p2, vI p3, vU, vU, vU, vU, vU, vU, vU, vU, vU, vU, vU, vU, vU] [])) t → Steps p.tables e below (s₁.setTop (entryFrame m #[(.int p1), (.int p2), (.int p3)] maxLocals)) t := fun t k => castTop (ef_0 m p1 p2 p3) k
  have hS0 : s.Since s.vm h0.size := (State.WarmedH.refl s).since _
  obtain ⟨T4, h4, X4, e4, E4, A4, D4, -, st4⟩ := newO X0 hx hZ hown (hi 0 rfl) (hi 1 rfl) (hi 2 rfl) e0 (g := (mkF m 48 #[vI p1, vI p2, vI p3, vI (t0_0 p1), vI (0 : Int32), vI (t0_2 p1), vI (1 : Int32), vU, vU, vU, vU, vU, vU, vU, vU, vU] [])) rfl (hb hby at_48) (by decide) (by decide)
  obtain ⟨b4, g4⟩ : ∃ z, z = h0.size := ⟨_, rfl⟩
  rw [← g4] at A4 D4 st4
  have g_b4 : n0 ≤ b4 := Nat.le_trans Z0 (Nat.le_of_eq g4.symm)
  have sz_b4 : h0.size ≤ b4 := Nat.le_trans (Nat.le_refl h0.size) (Nat.le_of_eq g4.symm)
  have F_coder_b4 : Fld Z h4 b4 "java/lang/String" "coder" "B" (.int (0 : Int32)) := D4 (Or.inr (hi 27 rfl)) (ty := .byte) (by decide)
  have F_value_b4 : Fld Z h4 b4 "java/lang/String" "value" "[B" .null := D4 (Or.inr (hi 29 rfl)) (ty := (.array .byte)) (by decide)
  have f0 := (F_value_s_EMPTY.ext E4)
  obtain ⟨T5, h5, k5, X5, e5, E5, A5, st5⟩ := newP X4 hx hZ (hi 3 rfl) e4 (g := (mkF m 53 #[vI p1, vI p2, vI p3, vI (t0_0 p1), vI (0 : Int32), vI (t0_2 p1), vI (1 : Int32), vU, vU, vU, vU, vU, vU, vU, vU, vU] [(.int (2 : Int32)), (.ref b4), (.ref b4)])) rfl (hb hby at_53) rfl (by decide) (cap := 2) (by decide) (by decide) (by decide) (by decide)
  obtain ⟨b5, g5⟩ : ∃ z, z = h4.size := ⟨_, rfl⟩
  rw [← g5] at A5 st5
  have g_b5 : n0 ≤ b5 := Nat.le_trans (Nat.le_trans Z0 E4.1) (Nat.le_of_eq g5.symm)
  have sz_b5 : h0.size ≤ b5 := Nat.le_trans (Nat.le_trans (Nat.le_refl h0.size) E4.1) (Nat.le_of_eq g5.symm)
  have V_b5 : Arv Z h5 b5 k5 .char (2 : Int32) [(.int (0 : Int32)), (.int (0 : Int32))] (.int (0 : Int32)) := (Arv.new A5 (by decide)).pad (pad_rep [] (.int (0 : Int32)) 2)
  obtain ⟨cl_b5_1, Ar_b5_1, q_b5_1, Sz_b5_1, Ng_b5_1, Ha_b5_1, Gt_b5_1⟩ := id V_b5
  have hin_b5_1 : ¬ ((0 : Int32) < 0 ∨ cl_b5_1.slots.size ≤ ((0 : Int32)).toNatClampNeg) := inb_of Sz_b5_1 ⟨by decide, by decide⟩
  obtain ⟨T6, h6, X6, e6, W6, st6⟩ := stC X5 hx hZ e5 Ar_b5_1 (j := (0 : Int32)) hin_b5_1 (g := (mkF m 63 #[vI p1, vI p2, vI p3, vI (t0_0 p1), vI (0 : Int32), vI (t0_2 p1), vI (1 : Int32), vU, vU, vU, vU, vU, vU, vU, vU, vU] [(.int (t0_3 p2)), (.int (0 : Int32)), (.ref b5), (.ref b5), (.ref b4), (.ref b4)])) rfl rfl (hb hby at_63)
  have V6 : Arv Z h6 b5 k5 .char (2 : Int32) [(.int (nar .char (t0_3 p2))), (.int (0 : Int32))] (.int (0 : Int32)) := Arv.set Ar_b5_1 q_b5_1 Sz_b5_1 Ng_b5_1 Ha_b5_1 Gt_b5_1 (fits_nar_char _) W6 0 rfl (Nat.le_of_ble_eq_true rfl)
  have N6 := Fr.snoc X6 N0 g_b5
  obtain ⟨cl_b5_2, Ar_b5_2, q_b5_2, Sz_b5_2, Ng_b5_2, Ha_b5_2, Gt_b5_2⟩ := id V6
  have hin_b5_2 : ¬ ((1 : Int32) < 0 ∨ cl_b5_2.slots.size ≤ ((1 : Int32)).toNatClampNeg) := inb_of Sz_b5_2 ⟨by decide, by decide⟩
  obtain ⟨T7, h7, X7, e7, W7, st7⟩ := stC X6 hx hZ e6 Ar_b5_2 (j := (1 : Int32)) hin_b5_2 (g := (mkF m 75 #[vI p1, vI p2, vI p3, vI (t0_0 p1), vI (0 : Int32), vI (t0_2 p1), vI (1 : Int32), vU, vU, vU, vU, vU, vU, vU, vU, vU] [(.int (t0_5 p2)), (.int (1 : Int32)), (.ref b5), (.ref b5), (.ref b4), (.ref b4)])) rfl rfl (hb hby at_75)
  have V7 : Arv Z h7 b5 k5 .char (2 : Int32) [(.int (nar .char (t0_3 p2))), (.int (nar .char (t0_5 p2)))] (.int (0 : Int32)) := Arv.set Ar_b5_2 q_b5_2 Sz_b5_2 Ng_b5_2 Ha_b5_2 Gt_b5_2 (fits_nar_char _) W7 1 rfl (Nat.le_of_ble_eq_true rfl)
  have N7 := Fr.snoc X7 N6 g_b5
  have f3 := ((((S_COMPACT_STRINGS.ext E4).ext E5).wr W6).wr W7)
  have f4 := (((F_coder_b4.ext E5).other W6 (Or.inl (Nat.ne_of_lt (Nat.lt_of_lt_of_le A4.lt (Nat.le_of_eq g5.symm))))).other W7 (Or.inl (Nat.ne_of_lt (Nat.lt_of_lt_of_le A4.lt (Nat.le_of_eq g5.symm)))))
  have f5 := (((F_value_b4.ext E5).other W6 (Or.inl (Nat.ne_of_lt (Nat.lt_of_lt_of_le A4.lt (Nat.le_of_eq g5.symm))))).other W7 (Or.inl (Nat.ne_of_lt (Nat.lt_of_lt_of_le A4.lt (Nat.le_of_eq g5.symm)))))
  have f6 := (((A4.ext E5).wr W6).wr W7)
  obtain ⟨_, _, ⟨T8, L8, k8, n8⟩, -, X8, ⟨Lc8, hQ8, l8, y8, z8⟩, st8⟩ := X7.specialBack hx (y := (⟨"java/lang/String", "<init>", "([C)V"⟩ : MethodName)) rfl hown (mvT hZ (hi 4 rfl)) (mvT hZ (hi 5 rfl)) (mvT hZ (hi 6 rfl)) (by decide) (backOf (W := 1) (rm1 l Z a0 hw [] b4 b5 s_COMPACT_STRINGS (0 : Int32) .null k5 (nar .char (t0_3 p2)) (nar .char (t0_5 p2)) h7 n0 (Nat.le_trans (Nat.le_trans (Nat.le_trans (Nat.le_trans Z0 E4.1) E5.1) (Keep.of_wr W6).1) (Keep.of_wr W7).1) f3 f4 f5 f6 g_b4 V7 hcs (own_le255 _ (own_cc _ (own_cc _ (own_m255 _)))) (own_le255 _ (own_cc _ (own_cc _ (own_m255 _))))) hZ (hi 6 rfl) (hi 2 rfl) (by decide) (by decide)) (g := (mkF m 76 #[vI p1, vI p2, vI p3, vI (t0_0 p1), vI (0 : Int32), vI (t0_2 p1), vI (1 : Int32), vU, vU, vU, vU, vU, vU, vU, vU, vU] [(.ref b5), (.ref b4), (.ref b4)])) rfl (by rw [hml]; rfl) (Steps.refl _) (a := b4) (argsL := [(.ref b5)]) (rest := [(.ref b4)]) (lenOf pd__28_5bC_29V rfl) rfl (by show 2 * 0 + _ ≤ _; exact Nat.le_of_eq rfl) (hb hby at_76) (fun _ _ => ⟨rfl, e7, (by decide : 2 + 1 ≤ _), (by decide : 6 + 2 ≤ _)⟩)
  dsimp only [Pt.U, Pt.locs, Pt.cells, Pt.slots] at X8 l8 y8 z8 st8 hQ8
  subst l8 y8 z8
  obtain ⟨rfl, N8q, K8, i8_0, i8_1⟩ := hQ8
  have N8 := Fr.app N7 N8q
  have f7 := (own_sta_keep f3 K8 (own_qc (own_nst f6) own_q0))
  obtain ⟨_, _, ⟨T9, L9, k9, n9⟩, -, X9, ⟨Lc9, hQ9, l9, y9, z9⟩, st9⟩ := Jvm.LawKit.callS X8 hx (y := (⟨"java/lang/String", "valueOf", "(C)Ljava/lang/String;"⟩ : MethodName)) hown (mvT hZ (hi 30 rfl)) (mvT hZ (hi 31 rfl)) (mvT hZ (hi 2 rfl)) (mvT hZ (hi 32 rfl)) (by decide) (backOf (W := 0) (rm7 l Z a0 hw [] (t0_7 p2) s_COMPACT_STRINGS T8.heap n0 (Nat.le_trans (Nat.le_trans (Nat.le_trans (Nat.le_trans (Nat.le_trans Z0 E4.1) E5.1) (Keep.of_wr W6).1) (Keep.of_wr W7).1) K8.1) f7 hcs (own_F8 _ (own_cc _ (own_m255 _)))) hZ (hi 32 rfl) (hi 2 rfl) (by decide) (by decide)) (g := (mkF m 90 #[vI p1, vI p2, vI p3, vI (t0_0 p1), vI (0 : Int32), vI (t0_2 p1), vI (1 : Int32), vA b4, vU, vU, vU, vU, vU, vU, vU, vU] [(.int (t0_7 p2))])) rfl (by rw [hml]; rfl) (argsL := [(.int (t0_7 p2))]) (rest := []) (lenOf pd__28C_29Ljava_2flang_2fString_3b rfl) rfl (by show 2 * 0 + _ ≤ _; exact Nat.le_of_eq rfl) (hb hby at_90) (fun _ _ => ⟨rfl, rfl, (by decide : 3 + 2 ≤ _), (by decide : 8 + 5 ≤ _)⟩)
  dsimp only [Pt.U, Pt.locs, Pt.cells, Pt.slots] at X9 l9 y9 z9 st9 hQ9
  subst l9 y9 z9
  obtain ⟨br_9, ⟨rfl, N9q, K9⟩⟩ := hQ9
  have N9 := Fr.app N8 N9q
  have f8 := ((((f0.ext E5).other W6 (Or.inl (Nat.ne_of_lt (Nat.lt_of_lt_of_le f0.lt (Nat.le_of_eq g5.symm))))).other W7 (Or.inl (Nat.ne_of_lt (Nat.lt_of_lt_of_le f0.lt (Nat.le_of_eq g5.symm))))).keep K8 (own_nm (Nat.ne_of_lt (Nat.lt_of_lt_of_le F_value_s_EMPTY.lt (Nat.le_of_eq g4.symm))) own_n0))
  have f9 := (V7.keep K8 (own_nm (Ne.symm (Nat.ne_of_lt (Nat.lt_of_lt_of_le A4.lt (Nat.le_of_eq g5.symm)))) own_n0))
  have f10 := (own_sta_keep f7 K9 own_q0)
  obtain ⟨_, _, ⟨T10, L10, k10, n10⟩, -, X10w, hS10w, hg10, ⟨Lc10, hQ10, l10, y10, z10⟩, st10⟩ := Jvm.RoadKit.callSS X9 hx (y := (⟨"underdeck/deck/ColumnRequiredPinLaw", "drawn", "(I)Ljava/lang/String;"⟩ : MethodName)) hown (mvT hZ (hi 44 rfl)) (mvT hZ (hi 45 rfl)) (mvT hZ (hi 46 rfl)) (mvT hZ (hi 47 rfl)) (by decide) (backOfS (W := 0) (rm11 l Z a0 hw [] p3 s_COMPACT_STRINGS T9.heap n0 (Nat.le_trans (Nat.le_trans (Nat.le_trans (Nat.le_trans (Nat.le_trans (Nat.le_trans Z0 E4.1) E5.1) (Keep.of_wr W6).1) (Keep.of_wr W7).1) K8.1) K9.1) f10 hcs) hZ (hi 47 rfl) (hi 46 rfl) (by decide) (by decide)) (g := (mkF m 96 #[vI p1, vI p2, vI p3, vI (t0_0 p1), vI (0 : Int32), vI (t0_2 p1), vI (1 : Int32), vA b4, vA br_9, vU, vU, vU, vU, vU, vU, vU] [(.int p3)])) rfl (by rw [hml]; rfl) (argsL := [(.int p3)]) (rest := []) (lenOf pd__28I_29Ljava_2flang_2fString_3b rfl) rfl (by show 2 * 0 + _ ≤ _; exact Nat.le_of_eq rfl) (hb hby at_96) (fun _ _ => ⟨rfl, rfl, (by decide : 5 + 2 ≤ _), (by decide : 13 + 5 ≤ _)⟩)
  dsimp only [Pt.U, Pt.locs, Pt.cells, Pt.slots] at X10w hS10w hg10 l10 y10 z10 st10 hQ10
  subst l10 y10 z10
  obtain ⟨X10, hS10, hZ10, hown10⟩ := rebS hS0 (show _ ≤ T9.heap.size from by exact (Nat.le_trans (Nat.le_trans (Nat.le_trans (Nat.le_trans (Nat.le_trans (Nat.le_trans (Nat.le_refl h0.size) E4.1) E5.1) (Keep.of_wr W6).1) (Keep.of_wr W7).1) K8.1) K9.1)) X10w hS10w hg10 hZ hown
  obtain ⟨br_10, ⟨rfl, N10q, K10⟩⟩ := hQ10
  have N10 := Fr.app N9 N10q
  have f11 := (f8.keep K9 own_n0)
  have f12 := (i8_0.keep K9)
  have f13 := (f9.keep K9 own_n0)
  have f14 := (own_sta_keep f10 K10 own_q0)
  obtain ⟨_, _, ⟨T11, L11, k11, n11⟩, -, X11w, hS11w, hg11, ⟨Lc11, hQ11, l11, y11, z11⟩, st11⟩ := Jvm.RoadKit.callSS X10 hx (y := (⟨"underdeck/deck/ColumnRequiredPinLaw", "drawn", "(I)Ljava/lang/String;"⟩ : MethodName)) hown10 (mvT hZ10 (hi 44 rfl)) (mvT hZ10 (hi 45 rfl)) (mvT hZ10 (hi 46 rfl)) (mvT hZ10 (hi 47 rfl)) (by decide) (backOfS (W := 0) (rm11 l Z a0 hw [] (t0_8 p3) s_COMPACT_STRINGS T10.heap n0 (Nat.le_trans (Nat.le_trans (Nat.le_trans (Nat.le_trans (Nat.le_trans (Nat.le_trans (Nat.le_trans Z0 E4.1) E5.1) (Keep.of_wr W6).1) (Keep.of_wr W7).1) K8.1) K9.1) K10.1) f14 hcs) hZ10 (hi 47 rfl) (hi 46 rfl) (by decide) (by decide)) (g := (mkF m 105 #[vI p1, vI p2, vI p3, vI (t0_0 p1), vI (0 : Int32), vI (t0_2 p1), vI (1 : Int32), vA b4, vA br_9, vA br_10, vU, vU, vU, vU, vU, vU] [(.int (t0_8 p3))])) rfl (by rw [hml]; rfl) (argsL := [(.int (t0_8 p3))]) (rest := []) (lenOf pd__28I_29Ljava_2flang_2fString_3b rfl) rfl (by show 2 * 0 + _ ≤ _; exact Nat.le_of_eq rfl) (hb hby at_105) (fun _ _ => ⟨rfl, rfl, (by decide : 7 + 2 ≤ _), (by decide : 18 + 5 ≤ _)⟩)
  dsimp only [Pt.U, Pt.locs, Pt.cells, Pt.slots] at X11w hS11w hg11 l11 y11 z11 st11 hQ11
  subst l11 y11 z11
  obtain ⟨X11, hS11, hZ11, hown11⟩ := rebS hS10 (show _ ≤ T10.heap.size from by exact (Nat.le_refl _)) X11w hS11w hg11 hZ10 hown10
  obtain ⟨br_11, ⟨rfl, N11q, K11⟩⟩ := hQ11
  have N11 := Fr.app N10 N11q
  have f15 := (f11.keep K10 own_n0)
  have f16 := (f12.keep K10)
  have f17 := (f13.keep K10 own_n0)
  have f18 := (own_sta_keep (own_sta_keep (own_sta_keep (own_sta_keep ((((S_EMPTY.ext E4).ext E5).wr W6).wr W7) K8 (own_qc (own_nst f6) own_q0)) K9 own_q0) K10 own_q0) K11 own_q0)
  obtain ⟨_, _, ⟨T12, L12, k12, n12⟩, -, X12, ⟨Lc12, hQ12, l12, y12, z12⟩, st12⟩ := Jvm.LawKit.callS X11 hx (y := (⟨"java/util/Optional", "empty", "()Ljava/util/Optional;"⟩ : MethodName)) hown11 (mvT hZ11 (hi 51 rfl)) (mvT hZ11 (hi 52 rfl)) (mvT hZ11 (hi 53 rfl)) (mvT hZ11 (hi 54 rfl)) (by decide) (backOf (W := 0) (rm12 l Z a0 hw [] s_EMPTY T11.heap n0 (Nat.le_trans (Nat.le_trans (Nat.le_trans (Nat.le_trans (Nat.le_trans (Nat.le_trans (Nat.le_trans (Nat.le_trans Z0 E4.1) E5.1) (Keep.of_wr W6).1) (Keep.of_wr W7).1) K8.1) K9.1) K10.1) K11.1) f18) hZ11 (hi 54 rfl) (hi 53 rfl) (by decide) (by decide)) (g := (mkF m 123 #[vI p1, vI p2, vI p3, vI (t0_0 p1), vI (0 : Int32), vI (t0_2 p1), vI (1 : Int32), vA b4, vA br_9, vA br_10, vA br_11, vU, vU, vU, vU, vU] [])) rfl (by rw [hml]; rfl) (argsL := []) (rest := []) (lenOf pd__28_29Ljava_2futil_2fOptional_3b rfl) rfl (by show 2 * 0 + _ ≤ _; exact Nat.le_of_eq rfl) (hb hby at_123) (fun _ _ => ⟨rfl, rfl, (by decide : 9 + 0 ≤ _), (by decide : 23 + 0 ≤ _)⟩)
  dsimp only [Pt.U, Pt.locs, Pt.cells, Pt.slots] at X12 l12 y12 z12 st12 hQ12
  subst l12 y12 z12
  obtain ⟨rfl, N12q, e12⟩ := hQ12
  have N12 := Fr.app N11 N12q
  have f19 := (own_sta_keep (own_sta_keep (own_sta_keep (own_sta_keep ((((S_BY_DEFAULT.ext E4).ext E5).wr W6).wr W7) K8 (own_qc (own_nst f6) own_q0)) K9 own_q0) K10 own_q0) K11 own_q0)
  obtain ⟨T13, X13, e13, st13⟩ := getS2 X12 hx hZ11 hown11 (host := "") (Or.inl (hi 117 rfl)) Via.refl e12 f19 (g := (mkF m 158 #[vI p1, vI p2, vI p3, vI (t0_0 p1), vI (0 : Int32), vI (t0_2 p1), vI (1 : Int32), vA b4, vA br_9, vA br_10, vA br_11, vA s_EMPTY, vU, vU, vU, vU] [])) rfl (hb hby at_158)
  obtain ⟨_, _, ⟨T14, L14, k14, n14⟩, -, X14, ⟨Lc14, hQ14, l14, y14, z14⟩, st14⟩ := Jvm.LawKit.callS X13 hx (y := (⟨"java/util/Optional", "of", "(Ljava/lang/Object;)Ljava/util/Optional;"⟩ : MethodName)) hown11 (mvT hZ11 (hi 104 rfl)) (mvT hZ11 (hi 105 rfl)) (mvT hZ11 (hi 53 rfl)) (mvT hZ11 (hi 106 rfl)) (by decide) (backOf (W := 0) (rm18 l Z a0 hw [] s_BY_DEFAULT T11.heap n0 (Nat.le_trans (Nat.le_trans (Nat.le_trans (Nat.le_trans (Nat.le_trans (Nat.le_trans (Nat.le_trans (Nat.le_trans Z0 E4.1) E5.1) (Keep.of_wr W6).1) (Keep.of_wr W7).1) K8.1) K9.1) K10.1) K11.1) ) hZ11 (hi 106 rfl) (hi 53 rfl) (by decide) (by decide)) (g := (mkF m 161 #[vI p1, vI p2, vI p3, vI (t0_0 p1), vI (0 : Int32), vI (t0_2 p1), vI (1 : Int32), vA b4, vA br_9, vA br_10, vA br_11, vA s_EMPTY, vU, vU, vU, vU] [(.ref s_BY_DEFAULT)])) rfl (by rw [hml]; rfl) (argsL := [(.ref s_BY_DEFAULT)]) (rest := []) (lenOf pd__28Ljava_2flang_2fObject_3b_29Ljava_2futil_2fOptional_3b rfl) rfl (by show 2 * 0 + _ ≤ _; exact Nat.le_of_eq rfl) (hb hby at_161) (fun _ _ => ⟨rfl, e13, (by decide : 9 + 1 ≤ _), (by decide : 23 + 1 ≤ _)⟩)
  dsimp only [Pt.U, Pt.locs, Pt.cells, Pt.slots] at X14 l14 y14 z14 st14 hQ14
  subst l14 y14 z14
  obtain ⟨b2_14, ⟨rfl, N14q, K14, i14_0, i14_1, i14_2⟩⟩ := hQ14
  have N14 := Fr.app N12 N14q
  have f20 := (f15.keep K11 own_n0)
  have f21 := (f16.keep K11)
  have f22 := (f17.keep K11 own_n0)
  have sz_b2_14 : h0.size ≤ b2_14 := Nat.le_trans (Nat.le_trans (Nat.le_trans (Nat.le_trans (Nat.le_trans (Nat.le_trans (Nat.le_trans (Nat.le_trans (Nat.le_trans (Nat.le_refl h0.size) E4.1) E5.1) (Keep.of_wr W6).1) (Keep.of_wr W7).1) K8.1) K9.1) K10.1) K11.1) i14_0
  have g_b2_14 : n0 ≤ b2_14 := Nat.le_trans Z0 sz_b2_14
  obtain ⟨_, _, ⟨T15, L15, k15, n15⟩, -, X15, ⟨Lc15, hQ15, l15, y15, z15⟩, st15⟩ := Jvm.LawKit.callS X14 hx (y := (⟨"java/util/Optional", "of", "(Ljava/lang/Object;)Ljava/util/Optional;"⟩ : MethodName)) hown11 (mvT hZ11 (hi 104 rfl)) (mvT hZ11 (hi 105 rfl)) (mvT hZ11 (hi 53 rfl)) (mvT hZ11 (hi 106 rfl)) (by decide) (backOf (W := 0) (rm18 l Z a0 hw [] br_11 T14.heap n0 (Nat.le_trans (Nat.le_trans (Nat.le_trans (Nat.le_trans (Nat.le_trans (Nat.le_trans (Nat.le_trans (Nat.le_trans (Nat.le_trans Z0 E4.1) E5.1) (Keep.of_wr W6).1) (Keep.of_wr W7).1) K8.1) K9.1) K10.1) K11.1) K14.1) ) hZ11 (hi 106 rfl) (hi 53 rfl) (by decide) (by decide)) (g := (mkF m 173 #[vI p1, vI p2, vI p3, vI (t0_0 p1), vI (0 : Int32), vI (t0_2 p1), vI (1 : Int32), vA b4, vA br_9, vA br_10, vA br_11, vA s_EMPTY, vA b2_14, vU, vU, vU] [(.ref br_11)])) rfl (by rw [hml]; rfl) (argsL := [(.ref br_11)]) (rest := []) (lenOf pd__28Ljava_2flang_2fObject_3b_29Ljava_2futil_2fOptional_3b rfl) rfl (by show 2 * 0 + _ ≤ _; exact Nat.le_of_eq rfl) (hb hby at_173) (fun _ _ => ⟨rfl, rfl, (by decide : 10 + 1 ≤ _), (by decide : 24 + 1 ≤ _)⟩)
  dsimp only [Pt.U, Pt.locs, Pt.cells, Pt.slots] at X15 l15 y15 z15 st15 hQ15
  subst l15 y15 z15
  obtain ⟨b2_15, ⟨rfl, N15q, K15, i15_0, i15_1, i15_2⟩⟩ := hQ15
  have N15 := Fr.app N14 N15q
  have f23 := (f20.keep K14 own_n0)
  have f24 := (f21.keep K14)
  have f25 := (f22.keep K14 own_n0)
  have sz_b2_15 : h0.size ≤ b2_15 := Nat.le_trans (Nat.le_trans (Nat.le_trans (Nat.le_trans (Nat.le_trans (Nat.le_trans (Nat.le_trans (Nat.le_trans (Nat.le_trans (Nat.le_trans (Nat.le_refl h0.size) E4.1) E5.1) (Keep.of_wr W6).1) (Keep.of_wr W7).1) K8.1) K9.1) K10.1) K11.1) K14.1) i15_0
  have g_b2_15 : n0 ≤ b2_15 := Nat.le_trans Z0 sz_b2_15
  have f26 := (f23.keep K15 own_n0)
  have f27 := (f24.keep K15)
  have f28 := (f25.keep K15 own_n0)
  have f29 := (i14_1.keep K15)
  obtain ⟨T16, h16, X16, e16, E16, A16, D16, -, st16⟩ := newO X15 hx hZ11 hown11 (hi 56 rfl) (hi 57 rfl) (hi 58 rfl) rfl (g := (mkF m 184 #[vI p1, vI p2, vI p3, vI (t0_0 p1), vI (0 : Int32), vI (t0_2 p1), vI (1 : Int32), vA b4, vA br_9, vA br_10, vA br_11, vA s_EMPTY, vA b2_14, vA b2_15, vU, vU] [])) rfl (hb hby at_184) (by decide) (by decide)
  obtain ⟨b16, g16⟩ : ∃ z, z = T15.heap.size := ⟨_, rfl⟩
  rw [← g16] at A16 D16 st16
  have g_b16 : n0 ≤ b16 := Nat.le_trans (Nat.le_trans (Nat.le_trans (Nat.le_trans (Nat.le_trans (Nat.le_trans (Nat.le_trans (Nat.le_trans (Nat.le_trans (Nat.le_trans (Nat.le_trans Z0 E4.1) E5.1) (Keep.of_wr W6).1) (Keep.of_wr W7).1) K8.1) K9.1) K10.1) K11.1) K14.1) K15.1) (Nat.le_of_eq g16.symm)
  have sz_b16 : h0.size ≤ b16 := Nat.le_trans (Nat.le_trans (Nat.le_trans (Nat.le_trans (Nat.le_trans (Nat.le_trans (Nat.le_trans (Nat.le_trans (Nat.le_trans (Nat.le_trans (Nat.le_trans (Nat.le_refl h0.size) E4.1) E5.1) (Keep.of_wr W6).1) (Keep.of_wr W7).1) K8.1) K9.1) K10.1) K11.1) K14.1) K15.1) (Nat.le_of_eq g16.symm)
  have F_name_b16 : Fld Z h16 b16 "underdeck/deck/Column" "name" "Ljava/lang/String;" .null := D16 (Or.inr (hi 78 rfl)) (ty := (.object "java/lang/String")) (by decide)
  have F_type_b16 : Fld Z h16 b16 "underdeck/deck/Column" "type" "Ljava/lang/String;" .null := D16 (Or.inr (hi 80 rfl)) (ty := (.object "java/lang/String")) (by decide)
  have F_nullable_b16 : Fld Z h16 b16 "underdeck/deck/Column" "nullable" "Z" (.int (0 : Int32)) := D16 (Or.inr (hi 82 rfl)) (ty := .boolean) (by decide)
  have F_defaultValue_b16 : Fld Z h16 b16 "underdeck/deck/Column" "defaultValue" "Ljava/util/Optional;" .null := D16 (Or.inr (hi 84 rfl)) (ty := (.object "java/util/Optional")) (by decide)
  have F_identity_b16 : Fld Z h16 b16 "underdeck/deck/Column" "identity" "Ljava/util/Optional;" .null := D16 (Or.inr (hi 86 rfl)) (ty := (.object "java/util/Optional")) (by decide)
  have F_generated_b16 : Fld Z h16 b16 "underdeck/deck/Column" "generated" "Ljava/util/Optional;" .null := D16 (Or.inr (hi 88 rfl)) (ty := (.object "java/util/Optional")) (by decide)
  obtain ⟨_, _, ⟨T17, L17, k17, n17⟩, -, X17w, hS17w, hg17, ⟨Lc17, hQ17, l17, y17, z17⟩, st17⟩ := X16.specialBackS hx (y := (⟨"underdeck/deck/Column", "<init>", "(Ljava/lang/String;Ljava/lang/String;ZLjava/util/Optional;Ljava/util/Optional;Ljava/util/Optional;)V"⟩ : MethodName)) rfl hown11 (mvT hZ11 (hi 59 rfl)) (mvT hZ11 (hi 60 rfl)) (mvT hZ11 (hi 61 rfl)) (by decide) (backOfS (W := 1) (rm13 l Z a0 hw [] b16 b4 br_9 (t0_0 p1) s_EMPTY b2_14 b2_15 .null .null (0 : Int32) .null .null .null h16 n0 (Nat.le_trans (Nat.le_trans (Nat.le_trans (Nat.le_trans (Nat.le_trans (Nat.le_trans (Nat.le_trans (Nat.le_trans (Nat.le_trans (Nat.le_trans (Nat.le_trans Z0 E4.1) E5.1) (Keep.of_wr W6).1) (Keep.of_wr W7).1) K8.1) K9.1) K10.1) K11.1) K14.1) K15.1) E16.1) A16 F_name_b16 g_b16 F_type_b16 F_nullable_b16 F_defaultValue_b16 F_identity_b16 F_generated_b16) hZ11 (hi 61 rfl) (hi 58 rfl) (by decide) (by decide)) (g := (mkF m 199 #[vI p1, vI p2, vI p3, vI (t0_0 p1), vI (0 : Int32), vI (t0_2 p1), vI (1 : Int32), vA b4, vA br_9, vA br_10, vA br_11, vA s_EMPTY, vA b2_14, vA b2_15, vU, vU] [(.ref b2_15), (.ref b2_14), (.ref s_EMPTY), (.int (t0_0 p1)), (.ref br_9), (.ref b4), (.ref b16), (.ref b16)])) rfl (by rw [hml]; rfl) (Steps.refl _) (a := b16) (argsL := [(.ref b4), (.ref br_9), (.int (t0_0 p1)), (.ref s_EMPTY), (.ref b2_14), (.ref b2_15)]) (rest := [(.ref b16)]) (lenOf pd__28Ljava_2flang_2fString_3bLjava_2flang_2fString_3bZLjava_2futil_2fOptional_3bLjava_2futil_2fOptional_3bLjava_2futil_2fOptional_3b_29V rfl) rfl (by show 2 * 0 + _ ≤ _; exact Nat.le_of_eq rfl) (hb hby at_199) (fun _ _ => ⟨rfl, e16, (by decide : 12 + 10 ≤ _), (by decide : 31 + 168 ≤ _)⟩)
  dsimp only [Pt.U, Pt.locs, Pt.cells, Pt.slots] at X17w hS17w hg17 l17 y17 z17 st17 hQ17
  subst l17 y17 z17
  obtain ⟨X17, hS17, hZ17, hown17⟩ := rebS hS11 (show _ ≤ T16.heap.size from by rw [e16]; exact (Nat.le_trans (Nat.le_trans (Nat.le_trans (Nat.le_refl _) K14.1) K15.1) E16.1)) X17w hS17w hg17 hZ11 hown11
  obtain ⟨rfl, N17q, K17, i17_0, i17_1, i17_2, i17_3, i17_4, i17_5, i17_6⟩ := hQ17
  have N17 := Fr.app N15 N17q
  have f30 := (((i14_2.keep K15 own_n0).ext E16).keep K17 (own_nm (Nat.ne_of_lt (Nat.lt_of_lt_of_le f29.lt (Nat.le_of_eq g16.symm))) own_n0))
  have f31 := ((f26.ext E16).keep K17 (own_nm (Nat.ne_of_lt (Nat.lt_of_lt_of_le f26.lt (Nat.le_of_eq g16.symm))) own_n0))
  have f32 := ((((((((((((E_s_EMPTY.ext E4).ext E5).wr W6).wr W7).keep K8).keep K9).keep K10).keep K11).keep K14).keep K15).ext E16).keep K17)
  have f33 := ((f29.ext E16).keep K17)
  obtain ⟨cq18, kq18, q18a, q18b, q18c⟩ := isOf hZ17 rfl i17_0
  obtain ⟨_, _, ⟨T18, L18, k18, n18⟩, -, X18, ⟨Lc18, hQ18, l18, y18, z18⟩, st18⟩ := X17.virtualBack hx (y := (⟨"underdeck/deck/Column", "required", "()Z"⟩ : MethodName)) (z := (⟨"underdeck/deck/Column", "required", "()Z"⟩ : MethodName)) hown17 (mvT hZ17 (hi 89 rfl)) (mvT hZ17 (hi 90 rfl)) (notFace_of_selects (args := #[]) (mvT hZ17 (hi 92 rfl))) (mvT hZ17 (hi 92 rfl)) (mvT hZ17 (hi 91 rfl)) (by decide) (backOf (W := 0) (rm16nv l Z a0 hw [] b16 (nar .boolean (t0_0 p1)) s_EMPTY b2_14 s_BY_DEFAULT T17.heap n0 (Nat.le_trans (Nat.le_trans (Nat.le_trans (Nat.le_trans (Nat.le_trans (Nat.le_trans (Nat.le_trans (Nat.le_trans (Nat.le_trans (Nat.le_trans (Nat.le_trans (Nat.le_trans Z0 E4.1) E5.1) (Keep.of_wr W6).1) (Keep.of_wr W7).1) K8.1) K9.1) K10.1) K11.1) K14.1) K15.1) E16.1) K17.1) i17_3 i17_4 f31 f32 i17_5 f30 f33) hZ17 (hi 93 rfl) (hi 58 rfl) (by decide) (by decide)) q18a q18c (g := (mkF m 240 #[vI p1, vI p2, vI p3, vI (t0_0 p1), vI (0 : Int32), vI (t0_2 p1), vI (1 : Int32), vA b4, vA br_9, vA br_10, vA br_11, vA s_EMPTY, vA b2_14, vA b2_15, vA b16, vI (0 : Int32)] [(.ref b16)])) rfl (by rw [hml]; rfl) (Steps.refl _) (argsL := []) (rest := []) (lenOf pd__28_29Z rfl) rfl (by show 2 * 0 + _ ≤ _; exact Nat.le_of_eq rfl) (hb hby at_240) (fun _ _ => ⟨rfl, rfl, (by decide : 22 + 0 ≤ _), (by decide : 199 + 0 ≤ _)⟩)
  dsimp only [Pt.U, Pt.locs, Pt.cells, Pt.slots] at X18 l18 y18 z18 st18 hQ18
  subst l18 y18 z18
  obtain ⟨rfl, N18q, e18⟩ := hQ18
  have N18 := Fr.app N17 N18q
  obtain ⟨fs, hr, hrun, hended, hw1, hw2, hw3, hw4⟩ := X18.leaveW hS17 (show _ ≤ T18.heap.size from by rw [e18]; exact (Nat.le_refl _)) (v := some (.int (1 : Int32))) (fun h => by rw [Bd.returns] at h; cases h)
  refine ⟨_, _, pre0 _ ?_, hrun, hended, _, _, rfl, ?_, hw1, hw2, hw3, hw4.mono (by decide) (by decide)⟩
  · show Steps p.tables e below (s₁.setTop (mkF m 0 #[vI p1, vI p2, vI p3, vU, vU, vU, vU, vU, vU, vU, vU, vU, vU, vU, vU, vU] [])) _
    refine XS.iloadN X0.here hx rfl (hb hby at_0) rfl ?_
    refine XS.iconst X0.here hx rfl (hb hby at_1) ?_
    refine XS.iand X0.here hx rfl (hb hby at_2) rfl ?_
    show Steps p.tables e below (s₁.setTop (mkF m 3 #[vI p1, vI p2, vI p3, vU, vU, vU, vU, vU, vU, vU, vU, vU, vU, vU, vU, vU] [(.int (p1 &&& (1 : Int32)))])) _
    have J3 : ∀ target, Steps p.tables e below (s₁.setTop (mkF m 11 #[vI p1, vI p2, vI p3, vU, vU, vU, vU, vU, vU, vU, vU, vU, vU, vU, vU, vU] [(.int (t0_0 p1))])) target → Steps p.tables e below (s₁.setTop (mkF m 3 #[vI p1, vI p2, vI p3, vU, vU, vU, vU, vU, vU, vU, vU, vU, vU, vU, vU, vU] [(.int (p1 &&& (1 : Int32)))])) target := by
      intro target kt
      by_cases hm3 : (p1 &&& (1 : Int32)) = (0 : Int32)
      · skip
        show Steps p.tables e below (s₁.setTop (mkF m 3 #[vI p1, vI p2, vI p3, vU, vU, vU, vU, vU, vU, vU, vU, vU, vU, vU, vU, vU] [(.int (p1 &&& (1 : Int32)))])) _
        refine XS.ifYes X0.here hx rfl (pc0 := 3) (pc' := 10) rfl (hb hby at_3) rfl ((if0 _ _).trans (teq hm3).1) (by decide) (by decide) ?_
        refine XS.iconst X0.here hx rfl (hb hby at_10) ?_
        rw [show (t0_0 p1) = (0 : Int32) from if_pos hm3] at kt
        exact kt
      · skip
        show Steps p.tables e below (s₁.setTop (mkF m 3 #[vI p1, vI p2, vI p3, vU, vU, vU, vU, vU, vU, vU, vU, vU, vU, vU, vU, vU] [(.int (p1 &&& (1 : Int32)))])) _
        refine XS.ifNo X0.here hx rfl (hb hby at_3) rfl ((if0 _ _).trans (feq hm3).1) ?_
        refine XS.iconst X0.here hx rfl (hb hby at_6) ?_
        show Steps p.tables e below (s₁.setTop (mkF m 7 #[vI p1, vI p2, vI p3, vU, vU, vU, vU, vU, vU, vU, vU, vU, vU, vU, vU, vU] [(.int (1 : Int32))])) _
        refine XS.goto X0.here hx rfl (pc0 := 7) (pc' := 11) rfl (hb hby at_7) (by decide) (by decide) ?_
        rw [show (t0_0 p1) = (1 : Int32) from if_neg hm3] at kt
        exact kt
    refine J3 _ ?_
    refine XS.istoreN X0.here hx rfl (hb hby at_11) rfl (l' := #[vI p1, vI p2, vI p3, vI (t0_0 p1), vU, vU, vU, vU, vU, vU, vU, vU, vU, vU, vU, vU]) rfl ?_
    refine XS.iloadN X0.here hx rfl (hb hby at_12) rfl ?_
    refine XS.iconst X0.here hx rfl (hb hby at_13) ?_
    refine XS.iand X0.here hx rfl (hb hby at_14) rfl ?_
    show Steps p.tables e below (s₁.setTop (mkF m 15 #[vI p1, vI p2, vI p3, vI (t0_0 p1), vU, vU, vU, vU, vU, vU, vU, vU, vU, vU, vU, vU] [(.int (p1 &&& (2 : Int32)))])) _
    refine XS.ifYes X0.here hx rfl (pc0 := 15) (pc' := 22) rfl (hb hby at_15) rfl ((if0 _ _).trans (teq hc15).1) (by decide) (by decide) ?_
    refine XS.iconst X0.here hx rfl (hb hby at_22) ?_
    refine XS.istore X0.here hx rfl (hb hby at_23) rfl (l' := #[vI p1, vI p2, vI p3, vI (t0_0 p1), vI (0 : Int32), vU, vU, vU, vU, vU, vU, vU, vU, vU, vU, vU]) rfl ?_
    refine XS.iloadN X0.here hx rfl (hb hby at_25) rfl ?_
    refine XS.iconst X0.here hx rfl (hb hby at_26) ?_
    refine XS.iushr X0.here hx rfl (hb hby at_27) rfl ?_
    refine XS.iconst X0.here hx rfl (hb hby at_28) ?_
    refine XS.iand X0.here hx rfl (hb hby at_29) rfl ?_
    refine XS.iconst X0.here hx rfl (hb hby at_30) ?_
    refine XS.irem X0.here hx rfl (hb hby at_31) rfl (by decide) ?_
    refine XS.istore X0.here hx rfl (hb hby at_32) rfl (l' := #[vI p1, vI p2, vI p3, vI (t0_0 p1), vI (0 : Int32), vI (t0_2 p1), vU, vU, vU, vU, vU, vU, vU, vU, vU, vU]) rfl ?_
    refine XS.iloadN X0.here hx rfl (hb hby at_34) rfl ?_
    refine XS.bipush X0.here hx rfl (hb hby at_35) ?_
    refine XS.iand X0.here hx rfl (hb hby at_37) rfl ?_
    show Steps p.tables e below (s₁.setTop (mkF m 38 #[vI p1, vI p2, vI p3, vI (t0_0 p1), vI (0 : Int32), vI (t0_2 p1), vU, vU, vU, vU, vU, vU, vU, vU, vU, vU] [(.int (p1 &&& (16 : Int32)))])) _
    refine XS.ifNo X0.here hx rfl (hb hby at_38) rfl ((if0 _ _).trans (feq hc38).1) ?_
    refine XS.iconst X0.here hx rfl (hb hby at_41) ?_
    show Steps p.tables e below (s₁.setTop (mkF m 42 #[vI p1, vI p2, vI p3, vI (t0_0 p1), vI (0 : Int32), vI (t0_2 p1), vU, vU, vU, vU, vU, vU, vU, vU, vU, vU] [(.int (1 : Int32))])) _
    refine XS.goto X0.here hx rfl (pc0 := 42) (pc' := 46) rfl (hb hby at_42) (by decide) (by decide) ?_
    refine XS.istore X0.here hx rfl (hb hby at_46) rfl (l' := #[vI p1, vI p2, vI p3, vI (t0_0 p1), vI (0 : Int32), vI (t0_2 p1), vI (1 : Int32), vU, vU, vU, vU, vU, vU, vU, vU, vU]) rfl ?_
    show Steps p.tables e below (s₁.setTop (mkF m 48 #[vI p1, vI p2, vI p3, vI (t0_0 p1), vI (0 : Int32), vI (t0_2 p1), vI (1 : Int32), vU, vU, vU, vU, vU, vU, vU, vU, vU] [])) _
    refine st4 _ ?_
    refine XS.dup X4.here hx rfl (hb hby at_51) rfl rfl ?_
    refine XS.iconst X4.here hx rfl (hb hby at_52) ?_
    show Steps p.tables e below (T4.setTop (mkF m 53 #[vI p1, vI p2, vI p3, vI (t0_0 p1), vI (0 : Int32), vI (t0_2 p1), vI (1 : Int32), vU, vU, vU, vU, vU, vU, vU, vU, vU] [(.int (2 : Int32)), (.ref b4), (.ref b4)])) _
    refine st5 _ ?_
    refine XS.dup X5.here hx rfl (hb hby at_55) rfl rfl ?_
    refine XS.iconst X5.here hx rfl (hb hby at_56) ?_
    refine XS.iloadN X5.here hx rfl (hb hby at_57) rfl ?_
    refine XS.sipush X5.here hx rfl (hb hby at_58) ?_
    refine XS.iand X5.here hx rfl (hb hby at_61) rfl ?_
    refine XS.i2c X5.here hx rfl (hb hby at_62) rfl ?_
    show Steps p.tables e below (T5.setTop (mkF m 63 #[vI p1, vI p2, vI p3, vI (t0_0 p1), vI (0 : Int32), vI (t0_2 p1), vI (1 : Int32), vU, vU, vU, vU, vU, vU, vU, vU, vU] [(.int (t0_3 p2)), (.int (0 : Int32)), (.ref b5), (.ref b5), (.ref b4), (.ref b4)])) _
    refine st6 _ ?_
    refine XS.dup X6.here hx rfl (hb hby at_64) rfl rfl ?_
    refine XS.iconst X6.here hx rfl (hb hby at_65) ?_
    refine XS.iloadN X6.here hx rfl (hb hby at_66) rfl ?_
    refine XS.bipush X6.here hx rfl (hb hby at_67) ?_
    refine XS.iushr X6.here hx rfl (hb hby at_69) rfl ?_
    refine XS.sipush X6.here hx rfl (hb hby at_70) ?_
    refine XS.iand X6.here hx rfl (hb hby at_73) rfl ?_
    refine XS.i2c X6.here hx rfl (hb hby at_74) rfl ?_
    show Steps p.tables e below (T6.setTop (mkF m 75 #[vI p1, vI p2, vI p3, vI (t0_0 p1), vI (0 : Int32), vI (t0_2 p1), vI (1 : Int32), vU, vU, vU, vU, vU, vU, vU, vU, vU] [(.int (t0_5 p2)), (.int (1 : Int32)), (.ref b5), (.ref b5), (.ref b4), (.ref b4)])) _
    refine st7 _ ?_
    show Steps p.tables e below (T7.setTop (mkF m 76 #[vI p1, vI p2, vI p3, vI (t0_0 p1), vI (0 : Int32), vI (t0_2 p1), vI (1 : Int32), vU, vU, vU, vU, vU, vU, vU, vU, vU] [(.ref b5), (.ref b4), (.ref b4)])) _
    refine st8.trans ?_
    refine XS.astore X8.here hx rfl (hb hby at_79) rfl rfl (l' := #[vI p1, vI p2, vI p3, vI (t0_0 p1), vI (0 : Int32), vI (t0_2 p1), vI (1 : Int32), vA b4, vU, vU, vU, vU, vU, vU, vU, vU]) rfl ?_
    refine XS.iloadN X8.here hx rfl (hb hby at_81) rfl ?_
    refine XS.bipush X8.here hx rfl (hb hby at_82) ?_
    refine XS.iushr X8.here hx rfl (hb hby at_84) rfl ?_
    refine XS.sipush X8.here hx rfl (hb hby at_85) ?_
    refine XS.iand X8.here hx rfl (hb hby at_88) rfl ?_
    refine XS.i2c X8.here hx rfl (hb hby at_89) rfl ?_
    show Steps p.tables e below (T8.setTop (mkF m 90 #[vI p1, vI p2, vI p3, vI (t0_0 p1), vI (0 : Int32), vI (t0_2 p1), vI (1 : Int32), vA b4, vU, vU, vU, vU, vU, vU, vU, vU] [(.int (t0_7 p2))])) _
    refine st9 _ ?_
    refine XS.astore X9.here hx rfl (hb hby at_93) rfl rfl (l' := #[vI p1, vI p2, vI p3, vI (t0_0 p1), vI (0 : Int32), vI (t0_2 p1), vI (1 : Int32), vA b4, vA br_9, vU, vU, vU, vU, vU, vU, vU]) rfl ?_
    refine XS.iloadN X9.here hx rfl (hb hby at_95) rfl ?_
    show Steps p.tables e below (T9.setTop (mkF m 96 #[vI p1, vI p2, vI p3, vI (t0_0 p1), vI (0 : Int32), vI (t0_2 p1), vI (1 : Int32), vA b4, vA br_9, vU, vU, vU, vU, vU, vU, vU] [(.int p3)])) _
    refine st10.trans ?_
    refine XS.astore X10.here hx rfl (hb hby at_99) rfl rfl (l' := #[vI p1, vI p2, vI p3, vI (t0_0 p1), vI (0 : Int32), vI (t0_2 p1), vI (1 : Int32), vA b4, vA br_9, vA br_10, vU, vU, vU, vU, vU, vU]) rfl ?_
    refine XS.iloadN X10.here hx rfl (hb hby at_101) rfl ?_
    refine XS.bipush X10.here hx rfl (hb hby at_102) ?_
    refine XS.iushr X10.here hx rfl (hb hby at_104) rfl ?_
    show Steps p.tables e below (T10.setTop (mkF m 105 #[vI p1, vI p2, vI p3, vI (t0_0 p1), vI (0 : Int32), vI (t0_2 p1), vI (1 : Int32), vA b4, vA br_9, vA br_10, vU, vU, vU, vU, vU, vU] [(.int (t0_8 p3))])) _
    refine st11.trans ?_
    refine XS.astore X11.here hx rfl (hb hby at_108) rfl rfl (l' := #[vI p1, vI p2, vI p3, vI (t0_0 p1), vI (0 : Int32), vI (t0_2 p1), vI (1 : Int32), vA b4, vA br_9, vA br_10, vA br_11, vU, vU, vU, vU, vU]) rfl ?_
    refine XS.iload X11.here hx rfl (hb hby at_110) rfl ?_
    show Steps p.tables e below (T11.setTop (mkF m 112 #[vI p1, vI p2, vI p3, vI (t0_0 p1), vI (0 : Int32), vI (t0_2 p1), vI (1 : Int32), vA b4, vA br_9, vA br_10, vA br_11, vU, vU, vU, vU, vU] [(.int (0 : Int32))])) _
    refine XS.ifYes X11.here hx rfl (pc0 := 112) (pc' := 123) rfl (hb hby at_112) rfl ((if0 _ _).trans (teq (rfl : (0 : Int32) = (0 : Int32))).1) (by decide) (by decide) ?_
    show Steps p.tables e below (T11.setTop (mkF m 123 #[vI p1, vI p2, vI p3, vI (t0_0 p1), vI (0 : Int32), vI (t0_2 p1), vI (1 : Int32), vA b4, vA br_9, vA br_10, vA br_11, vU, vU, vU, vU, vU] [])) _
    refine st12 _ ?_
    refine XS.astore X12.here hx rfl (hb hby at_126) rfl rfl (l' := #[vI p1, vI p2, vI p3, vI (t0_0 p1), vI (0 : Int32), vI (t0_2 p1), vI (1 : Int32), vA b4, vA br_9, vA br_10, vA br_11, vA s_EMPTY, vU, vU, vU, vU]) rfl ?_
    refine XS.iload X12.here hx rfl (hb hby at_128) rfl ?_
    show Steps p.tables e below (T12.setTop (mkF m 130 #[vI p1, vI p2, vI p3, vI (t0_0 p1), vI (0 : Int32), vI (t0_2 p1), vI (1 : Int32), vA b4, vA br_9, vA br_10, vA br_11, vA s_EMPTY, vU, vU, vU, vU] [(.int (t0_2 p1))])) _
    refine XS.ifYes X12.here hx rfl (pc0 := 130) (pc' := 141) rfl (hb hby at_130) rfl ((if0 _ _).trans (feq hc130).2) (by decide) (by decide) ?_
    refine XS.iload X12.here hx rfl (hb hby at_141) rfl ?_
    refine XS.iconst X12.here hx rfl (hb hby at_143) ?_
    show Steps p.tables e below (T12.setTop (mkF m 144 #[vI p1, vI p2, vI p3, vI (t0_0 p1), vI (0 : Int32), vI (t0_2 p1), vI (1 : Int32), vA b4, vA br_9, vA br_10, vA br_11, vA s_EMPTY, vU, vU, vU, vU] [(.int (1 : Int32)), (.int (t0_2 p1))])) _
    refine XS.icmpYes X12.here hx rfl (pc0 := 144) (pc' := 158) rfl (hb hby at_144) rfl (feq hc144).2 (by decide) (by decide) ?_
    show Steps p.tables e below (T12.setTop (mkF m 158 #[vI p1, vI p2, vI p3, vI (t0_0 p1), vI (0 : Int32), vI (t0_2 p1), vI (1 : Int32), vA b4, vA br_9, vA br_10, vA br_11, vA s_EMPTY, vU, vU, vU, vU] [])) _
    refine st13 _ ?_
    show Steps p.tables e below (T13.setTop (mkF m 161 #[vI p1, vI p2, vI p3, vI (t0_0 p1), vI (0 : Int32), vI (t0_2 p1), vI (1 : Int32), vA b4, vA br_9, vA br_10, vA br_11, vA s_EMPTY, vU, vU, vU, vU] [(.ref s_BY_DEFAULT)])) _
    refine st14 _ ?_
    refine XS.astore X14.here hx rfl (hb hby at_164) rfl rfl (l' := #[vI p1, vI p2, vI p3, vI (t0_0 p1), vI (0 : Int32), vI (t0_2 p1), vI (1 : Int32), vA b4, vA br_9, vA br_10, vA br_11, vA s_EMPTY, vA b2_14, vU, vU, vU]) rfl ?_
    refine XS.iload X14.here hx rfl (hb hby at_166) rfl ?_
    show Steps p.tables e below (T14.setTop (mkF m 168 #[vI p1, vI p2, vI p3, vI (t0_0 p1), vI (0 : Int32), vI (t0_2 p1), vI (1 : Int32), vA b4, vA br_9, vA br_10, vA br_11, vA s_EMPTY, vA b2_14, vU, vU, vU] [(.int (1 : Int32))])) _
    refine XS.ifNo X14.here hx rfl (hb hby at_168) rfl ((if0 _ _).trans (feq (by decide : ¬ ((1 : Int32) = (0 : Int32)))).1) ?_
    refine XS.aload X14.here hx rfl (hb hby at_171) rfl rfl ?_
    show Steps p.tables e below (T14.setTop (mkF m 173 #[vI p1, vI p2, vI p3, vI (t0_0 p1), vI (0 : Int32), vI (t0_2 p1), vI (1 : Int32), vA b4, vA br_9, vA br_10, vA br_11, vA s_EMPTY, vA b2_14, vU, vU, vU] [(.ref br_11)])) _
    refine st15 _ ?_
    show Steps p.tables e below (T15.setTop (mkF m 176 #[vI p1, vI p2, vI p3, vI (t0_0 p1), vI (0 : Int32), vI (t0_2 p1), vI (1 : Int32), vA b4, vA br_9, vA br_10, vA br_11, vA s_EMPTY, vA b2_14, vU, vU, vU] [(.ref b2_15)])) _
    refine XS.goto X15.here hx rfl (pc0 := 176) (pc' := 182) rfl (hb hby at_176) (by decide) (by decide) ?_
    refine XS.astore X15.here hx rfl (hb hby at_182) rfl rfl (l' := #[vI p1, vI p2, vI p3, vI (t0_0 p1), vI (0 : Int32), vI (t0_2 p1), vI (1 : Int32), vA b4, vA br_9, vA br_10, vA br_11, vA s_EMPTY, vA b2_14, vA b2_15, vU, vU]) rfl ?_
    show Steps p.tables e below (T15.setTop (mkF m 184 #[vI p1, vI p2, vI p3, vI (t0_0 p1), vI (0 : Int32), vI (t0_2 p1), vI (1 : Int32), vA b4, vA br_9, vA br_10, vA br_11, vA s_EMPTY, vA b2_14, vA b2_15, vU, vU] [])) _
    refine st16 _ ?_
    refine XS.dup X16.here hx rfl (hb hby at_187) rfl rfl ?_
    refine XS.aload X16.here hx rfl (hb hby at_188) rfl rfl ?_
    refine XS.aload X16.here hx rfl (hb hby at_190) rfl rfl ?_
    refine XS.iloadN X16.here hx rfl (hb hby at_192) rfl ?_
    refine XS.aload X16.here hx rfl (hb hby at_193) rfl rfl ?_
    refine XS.aload X16.here hx rfl (hb hby at_195) rfl rfl ?_
    refine XS.aload X16.here hx rfl (hb hby at_197) rfl rfl ?_
    show Steps p.tables e below (T16.setTop (mkF m 199 #[vI p1, vI p2, vI p3, vI (t0_0 p1), vI (0 : Int32), vI (t0_2 p1), vI (1 : Int32), vA b4, vA br_9, vA br_10, vA br_11, vA s_EMPTY, vA b2_14, vA b2_15, vU, vU] [(.ref b2_15), (.ref b2_14), (.ref s_EMPTY), (.int (t0_0 p1)), (.ref br_9), (.ref b4), (.ref b16), (.ref b16)])) _
    refine st17.trans ?_
    refine XS.astore X17.here hx rfl (hb hby at_202) rfl rfl (l' := #[vI p1, vI p2, vI p3, vI (t0_0 p1), vI (0 : Int32), vI (t0_2 p1), vI (1 : Int32), vA b4, vA br_9, vA br_10, vA br_11, vA s_EMPTY, vA b2_14, vA b2_15, vA b16, vU]) rfl ?_
    refine XS.iconst X17.here hx rfl (hb hby at_204) ?_
    refine XS.istore X17.here hx rfl (hb hby at_205) rfl (l' := #[vI p1, vI p2, vI p3, vI (t0_0 p1), vI (0 : Int32), vI (t0_2 p1), vI (1 : Int32), vA b4, vA br_9, vA br_10, vA br_11, vA s_EMPTY, vA b2_14, vA b2_15, vA b16, vI (1 : Int32)]) rfl ?_
    refine XS.iloadN X17.here hx rfl (hb hby at_207) rfl ?_
    show Steps p.tables e below (T17.setTop (mkF m 208 #[vI p1, vI p2, vI p3, vI (t0_0 p1), vI (0 : Int32), vI (t0_2 p1), vI (1 : Int32), vA b4, vA br_9, vA br_10, vA br_11, vA s_EMPTY, vA b2_14, vA b2_15, vA b16, vI (1 : Int32)] [(.int (t0_0 p1))])) _
    have J208 : ∀ target, Steps p.tables e below (T17.setTop (mkF m 214 #[vI p1, vI p2, vI p3, vI (t0_0 p1), vI (0 : Int32), vI (t0_2 p1), vI (1 : Int32), vA b4, vA br_9, vA br_10, vA br_11, vA s_EMPTY, vA b2_14, vA b2_15, vA b16, vI (t0_9 p1)] [])) target → Steps p.tables e below (T17.setTop (mkF m 208 #[vI p1, vI p2, vI p3, vI (t0_0 p1), vI (0 : Int32), vI (t0_2 p1), vI (1 : Int32), vA b4, vA br_9, vA br_10, vA br_11, vA s_EMPTY, vA b2_14, vA b2_15, vA b16, vI (1 : Int32)] [(.int (t0_0 p1))])) target := by
      intro target kt
      by_cases hm208 : (t0_0 p1) = (0 : Int32)
      · skip
        show Steps p.tables e below (T17.setTop (mkF m 208 #[vI p1, vI p2, vI p3, vI (t0_0 p1), vI (0 : Int32), vI (t0_2 p1), vI (1 : Int32), vA b4, vA br_9, vA br_10, vA br_11, vA s_EMPTY, vA b2_14, vA b2_15, vA b16, vI (1 : Int32)] [(.int (t0_0 p1))])) _
        refine XS.ifYes X17.here hx rfl (pc0 := 208) (pc' := 214) rfl (hb hby at_208) rfl ((if0 _ _).trans (teq hm208).1) (by decide) (by decide) ?_
        rw [show (t0_9 p1) = (1 : Int32) from if_pos hm208] at kt
        exact kt
      · skip
        show Steps p.tables e below (T17.setTop (mkF m 208 #[vI p1, vI p2, vI p3, vI (t0_0 p1), vI (0 : Int32), vI (t0_2 p1), vI (1 : Int32), vA b4, vA br_9, vA br_10, vA br_11, vA s_EMPTY, vA b2_14, vA b2_15, vA b16, vI (1 : Int32)] [(.int (t0_0 p1))])) _
        refine XS.ifNo X17.here hx rfl (hb hby at_208) rfl ((if0 _ _).trans (feq hm208).1) ?_
        refine XS.iconst X17.here hx rfl (hb hby at_211) ?_
        refine XS.istore X17.here hx rfl (hb hby at_212) rfl (l' := #[vI p1, vI p2, vI p3, vI (t0_0 p1), vI (0 : Int32), vI (t0_2 p1), vI (1 : Int32), vA b4, vA br_9, vA br_10, vA br_11, vA s_EMPTY, vA b2_14, vA b2_15, vA b16, vI (0 : Int32)]) rfl ?_
        rw [show (t0_9 p1) = (0 : Int32) from if_neg hm208] at kt
        exact kt
    refine J208 _ ?_
    refine XS.iload X17.here hx rfl (hb hby at_214) rfl ?_
    show Steps p.tables e below (T17.setTop (mkF m 216 #[vI p1, vI p2, vI p3, vI (t0_0 p1), vI (0 : Int32), vI (t0_2 p1), vI (1 : Int32), vA b4, vA br_9, vA br_10, vA br_11, vA s_EMPTY, vA b2_14, vA b2_15, vA b16, vI (t0_9 p1)] [(.int (0 : Int32))])) _
    refine XS.ifYes X17.here hx rfl (pc0 := 216) (pc' := 222) rfl (hb hby at_216) rfl ((if0 _ _).trans (teq (rfl : (0 : Int32) = (0 : Int32))).1) (by decide) (by decide) ?_
    refine XS.iload X17.here hx rfl (hb hby at_222) rfl ?_
    show Steps p.tables e below (T17.setTop (mkF m 224 #[vI p1, vI p2, vI p3, vI (t0_0 p1), vI (0 : Int32), vI (t0_2 p1), vI (1 : Int32), vA b4, vA br_9, vA br_10, vA br_11, vA s_EMPTY, vA b2_14, vA b2_15, vA b16, vI (t0_9 p1)] [(.int (t0_2 p1))])) _
    refine XS.ifNo X17.here hx rfl (hb hby at_224) rfl ((if0 _ _).trans (feq hc130).1) ?_
    refine XS.iconst X17.here hx rfl (hb hby at_227) ?_
    refine XS.istore X17.here hx rfl (hb hby at_228) rfl (l' := #[vI p1, vI p2, vI p3, vI (t0_0 p1), vI (0 : Int32), vI (t0_2 p1), vI (1 : Int32), vA b4, vA br_9, vA br_10, vA br_11, vA s_EMPTY, vA b2_14, vA b2_15, vA b16, vI (0 : Int32)]) rfl ?_
    refine XS.iload X17.here hx rfl (hb hby at_230) rfl ?_
    show Steps p.tables e below (T17.setTop (mkF m 232 #[vI p1, vI p2, vI p3, vI (t0_0 p1), vI (0 : Int32), vI (t0_2 p1), vI (1 : Int32), vA b4, vA br_9, vA br_10, vA br_11, vA s_EMPTY, vA b2_14, vA b2_15, vA b16, vI (0 : Int32)] [(.int (1 : Int32))])) _
    refine XS.ifNo X17.here hx rfl (hb hby at_232) rfl ((if0 _ _).trans (feq (by decide : ¬ ((1 : Int32) = (0 : Int32)))).1) ?_
    refine XS.iconst X17.here hx rfl (hb hby at_235) ?_
    refine XS.istore X17.here hx rfl (hb hby at_236) rfl (l' := #[vI p1, vI p2, vI p3, vI (t0_0 p1), vI (0 : Int32), vI (t0_2 p1), vI (1 : Int32), vA b4, vA br_9, vA br_10, vA br_11, vA s_EMPTY, vA b2_14, vA b2_15, vA b16, vI (0 : Int32)]) rfl ?_
    refine XS.aload X17.here hx rfl (hb hby at_238) rfl rfl ?_
    show Steps p.tables e below (T17.setTop (mkF m 240 #[vI p1, vI p2, vI p3, vI (t0_0 p1), vI (0 : Int32), vI (t0_2 p1), vI (1 : Int32), vA b4, vA br_9, vA br_10, vA br_11, vA s_EMPTY, vA b2_14, vA b2_15, vA b16, vI (0 : Int32)] [(.ref b16)])) _
    refine st18.trans ?_
    refine XS.iload X18.here hx rfl (hb hby at_243) rfl ?_
    show Steps p.tables e below (T18.setTop (mkF m 245 #[vI p1, vI p2, vI p3, vI (t0_0 p1), vI (0 : Int32), vI (t0_2 p1), vI (1 : Int32), vA b4, vA br_9, vA br_10, vA br_11, vA s_EMPTY, vA b2_14, vA b2_15, vA b16, vI (0 : Int32)] [(.int (0 : Int32)), (.int (0 : Int32))])) _
    refine XS.icmpNo X18.here hx rfl (hb hby at_245) rfl (teq (rfl : (0 : Int32) = (0 : Int32))).2 ?_
    refine XS.iconst X18.here hx rfl (hb hby at_248) ?_
    show Steps p.tables e below (T18.setTop (mkF m 249 #[vI p1, vI p2, vI p3, vI (t0_0 p1), vI (0 : Int32), vI (t0_2 p1), vI (1 : Int32), vA b4, vA br_9, vA br_10, vA br_11, vA s_EMPTY, vA b2_14, vA b2_15, vA b16, vI (0 : Int32)] [(.int (1 : Int32))])) _
    refine XS.goto X18.here hx rfl (pc0 := 249) (pc' := 253) rfl (hb hby at_249) (by decide) (by decide) ?_
    show Steps p.tables e below (T18.setTop (mkF m 253 #[vI p1, vI p2, vI p3, vI (t0_0 p1), vI (0 : Int32), vI (t0_2 p1), vI (1 : Int32), vA b4, vA br_9, vA br_10, vA br_11, vA s_EMPTY, vA b2_14, vA b2_15, vA b16, vI (0 : Int32)] [(.int (1 : Int32))])) _
    exact retN X18 hx (t := .boolean) Bd.returns (by simp) (hb hby at_253) hr
  · show Q_rm0 Z p1 p2 p3 s_COMPACT_STRINGS s_EMPTY s_ALWAYS s_BY_DEFAULT h0 n0 _ T18.heap _
    exact ⟨rfl, N18⟩
set_option maxRecDepth 65536 in
set_option maxHeartbeats 40000000 in
theorem rm0_ttf (l : Launch) (Z : State) (a0 : Array Value) (hw : ∀ d ∈ tables_1, d.before a0 Z = true) (ws : List Jvm.Cond) (p1 : Int32) (p2 : Int32) (p3 : Int32) (s_COMPACT_STRINGS : Int32) (s_EMPTY : Addr) (s_ALWAYS : Addr) (s_BY_DEFAULT : Addr) (h0 : Heap) (n0 : Nat) (Z0 : n0 ≤ h0.size) (hcs : ¬ (s_COMPACT_STRINGS = (0 : Int32))) (S_COMPACT_STRINGS : Sta Z h0 "java/lang/String" "COMPACT_STRINGS" "Z" (.int s_COMPACT_STRINGS)) (S_EMPTY : Sta Z h0 "java/util/Optional" "EMPTY" "Ljava/util/Optional;" (.ref s_EMPTY)) (S_ALWAYS : Sta Z h0 "underdeck/deck/Column$Identity" "ALWAYS" "Lunderdeck/deck/Column$Identity;" (.ref s_ALWAYS)) (S_BY_DEFAULT : Sta Z h0 "underdeck/deck/Column$Identity" "BY_DEFAULT" "Lunderdeck/deck/Column$Identity;" (.ref s_BY_DEFAULT)) (F_value_s_EMPTY : Fld Z h0 s_EMPTY "java/util/Optional" "value" "Ljava/lang/Object;" .null) (E_s_EMPTY : Exa Z h0 s_EMPTY "java/util/Optional") (hc15 : (p1 &&& (2 : Int32)) = (0 : Int32)) (hc38 : (p1 &&& (16 : Int32)) = (0 : Int32)) (hc130 : (t0_2 p1) = (0 : Int32)) :
    MetFree l x (head1 (Jvm.Cond.code x code maxLocals ret :: ws) room_1) (fun a U => a = #[(.int p1), (.int p2), (.int p3)] ∧ Z.Warmed39 U.vm ∧ U.heap = h0) (fun _ _ _ _ _ => True) (fun _ U o U' => ∃ v L, o = .returned v ∧ Q_rm0 Z p1 p2 p3 s_COMPACT_STRINGS s_EMPTY s_ALWAYS s_BY_DEFAULT h0 n0 v U'.heap L ∧ ReturnedEndW U o U' L room_1.cells room_1.slots) := by
  have hi : ∀ (i : Nat) {d : Jvm.Cond}, tables_1[i]? = some d → d.before a0 Z = true := fun i d h => hw d (List.mem_of_getElem? h)
  refine MetFree.of_bodySF (plainFor_of_name pn_0) hisR ?_
  intro p e s m args below meth c s₁ Bd hml0 hP hK
  obtain ⟨rfl, hZ, hh⟩ := hP
  have hx := Bd.exec
  have hby := Bd.bytes
  have hml : c.maxLocals = 16 := hml0
  have hown : s.vm.findClass "underdeck/deck/ColumnRequiredPinLaw" = some m.cls := findClass_of_methodNamed Bd.named
  have hnm := (name_of_methodNamed Bd.named Bd.method).1
  have X0 : Stand p l e room_1 (s.setVm s.vm) m #[(.int p1), (.int p2), (.int p3)] below meth c s₁ [] 0 0 := Stand.of_body Bd
  have e0 : s₁.heap = h0 := by rw [← hh, Bd.state]; rfl
  have N0 := Fr.nil n0
  have pre0 : ∀ t, Steps p.tables e below (s₁.setTop (mkF m 0 #[vI p1, vI p2, vI p3, vU, vU, vU, vU, vU, vU, vU, vU, vU, vU, vU, vU, vU] [])) t → Steps p.tables e below (s₁.setTop (entryFrame m #[(.int p1), (.int p2), (.int p3)] maxLocals)) t := fun t k => castTop (ef_0 m p1 p2 p3) k
  have hS0 : s.Since s.vm h0.size := (State.WarmedH.refl s).since _
  obtain ⟨T4, h4, X4, e4, E4, A4, D4, -, st4⟩ := newO X0 hx hZ hown (hi 0 rfl) (hi 1 rfl) (hi 2 rfl) e0 (g := (mkF m 48 #[vI p1, vI p2, vI p3, vI (t0_0 p1), vI (0 : Int32), vI (t0_2 p1), vI (0 : Int32), vU, vU, vU, vU, vU, vU, vU, vU, vU] [])) rfl (hb hby at_48) (by decide) (by decide)
  obtain ⟨b4, g4⟩ : ∃ z, z = h0.size := ⟨_, rfl⟩
  rw [← g4] at A4 D4 st4
  have g_b4 : n0 ≤ b4 := Nat.le_trans Z0 (Nat.le_of_eq g4.symm)
  have sz_b4 : h0.size ≤ b4 := Nat.le_trans (Nat.le_refl h0.size) (Nat.le_of_eq g4.symm)
  have F_coder_b4 : Fld Z h4 b4 "java/lang/String" "coder" "B" (.int (0 : Int32)) := D4 (Or.inr (hi 27 rfl)) (ty := .byte) (by decide)
  have F_value_b4 : Fld Z h4 b4 "java/lang/String" "value" "[B" .null := D4 (Or.inr (hi 29 rfl)) (ty := (.array .byte)) (by decide)
  have f0 := (F_value_s_EMPTY.ext E4)
  obtain ⟨T5, h5, k5, X5, e5, E5, A5, st5⟩ := newP X4 hx hZ (hi 3 rfl) e4 (g := (mkF m 53 #[vI p1, vI p2, vI p3, vI (t0_0 p1), vI (0 : Int32), vI (t0_2 p1), vI (0 : Int32), vU, vU, vU, vU, vU, vU, vU, vU, vU] [(.int (2 : Int32)), (.ref b4), (.ref b4)])) rfl (hb hby at_53) rfl (by decide) (cap := 2) (by decide) (by decide) (by decide) (by decide)
  obtain ⟨b5, g5⟩ : ∃ z, z = h4.size := ⟨_, rfl⟩
  rw [← g5] at A5 st5
  have g_b5 : n0 ≤ b5 := Nat.le_trans (Nat.le_trans Z0 E4.1) (Nat.le_of_eq g5.symm)
  have sz_b5 : h0.size ≤ b5 := Nat.le_trans (Nat.le_trans (Nat.le_refl h0.size) E4.1) (Nat.le_of_eq g5.symm)
  have V_b5 : Arv Z h5 b5 k5 .char (2 : Int32) [(.int (0 : Int32)), (.int (0 : Int32))] (.int (0 : Int32)) := (Arv.new A5 (by decide)).pad (pad_rep [] (.int (0 : Int32)) 2)
  obtain ⟨cl_b5_1, Ar_b5_1, q_b5_1, Sz_b5_1, Ng_b5_1, Ha_b5_1, Gt_b5_1⟩ := id V_b5
  have hin_b5_1 : ¬ ((0 : Int32) < 0 ∨ cl_b5_1.slots.size ≤ ((0 : Int32)).toNatClampNeg) := inb_of Sz_b5_1 ⟨by decide, by decide⟩
  obtain ⟨T6, h6, X6, e6, W6, st6⟩ := stC X5 hx hZ e5 Ar_b5_1 (j := (0 : Int32)) hin_b5_1 (g := (mkF m 63 #[vI p1, vI p2, vI p3, vI (t0_0 p1), vI (0 : Int32), vI (t0_2 p1), vI (0 : Int32), vU, vU, vU, vU, vU, vU, vU, vU, vU] [(.int (t0_3 p2)), (.int (0 : Int32)), (.ref b5), (.ref b5), (.ref b4), (.ref b4)])) rfl rfl (hb hby at_63)
  have V6 : Arv Z h6 b5 k5 .char (2 : Int32) [(.int (nar .char (t0_3 p2))), (.int (0 : Int32))] (.int (0 : Int32)) := Arv.set Ar_b5_1 q_b5_1 Sz_b5_1 Ng_b5_1 Ha_b5_1 Gt_b5_1 (fits_nar_char _) W6 0 rfl (Nat.le_of_ble_eq_true rfl)
  have N6 := Fr.snoc X6 N0 g_b5
  obtain ⟨cl_b5_2, Ar_b5_2, q_b5_2, Sz_b5_2, Ng_b5_2, Ha_b5_2, Gt_b5_2⟩ := id V6
  have hin_b5_2 : ¬ ((1 : Int32) < 0 ∨ cl_b5_2.slots.size ≤ ((1 : Int32)).toNatClampNeg) := inb_of Sz_b5_2 ⟨by decide, by decide⟩
  obtain ⟨T7, h7, X7, e7, W7, st7⟩ := stC X6 hx hZ e6 Ar_b5_2 (j := (1 : Int32)) hin_b5_2 (g := (mkF m 75 #[vI p1, vI p2, vI p3, vI (t0_0 p1), vI (0 : Int32), vI (t0_2 p1), vI (0 : Int32), vU, vU, vU, vU, vU, vU, vU, vU, vU] [(.int (t0_5 p2)), (.int (1 : Int32)), (.ref b5), (.ref b5), (.ref b4), (.ref b4)])) rfl rfl (hb hby at_75)
  have V7 : Arv Z h7 b5 k5 .char (2 : Int32) [(.int (nar .char (t0_3 p2))), (.int (nar .char (t0_5 p2)))] (.int (0 : Int32)) := Arv.set Ar_b5_2 q_b5_2 Sz_b5_2 Ng_b5_2 Ha_b5_2 Gt_b5_2 (fits_nar_char _) W7 1 rfl (Nat.le_of_ble_eq_true rfl)
  have N7 := Fr.snoc X7 N6 g_b5
  have f3 := ((((S_COMPACT_STRINGS.ext E4).ext E5).wr W6).wr W7)
  have f4 := (((F_coder_b4.ext E5).other W6 (Or.inl (Nat.ne_of_lt (Nat.lt_of_lt_of_le A4.lt (Nat.le_of_eq g5.symm))))).other W7 (Or.inl (Nat.ne_of_lt (Nat.lt_of_lt_of_le A4.lt (Nat.le_of_eq g5.symm)))))
  have f5 := (((F_value_b4.ext E5).other W6 (Or.inl (Nat.ne_of_lt (Nat.lt_of_lt_of_le A4.lt (Nat.le_of_eq g5.symm))))).other W7 (Or.inl (Nat.ne_of_lt (Nat.lt_of_lt_of_le A4.lt (Nat.le_of_eq g5.symm)))))
  have f6 := (((A4.ext E5).wr W6).wr W7)
  obtain ⟨_, _, ⟨T8, L8, k8, n8⟩, -, X8, ⟨Lc8, hQ8, l8, y8, z8⟩, st8⟩ := X7.specialBack hx (y := (⟨"java/lang/String", "<init>", "([C)V"⟩ : MethodName)) rfl hown (mvT hZ (hi 4 rfl)) (mvT hZ (hi 5 rfl)) (mvT hZ (hi 6 rfl)) (by decide) (backOf (W := 1) (rm1 l Z a0 hw [] b4 b5 s_COMPACT_STRINGS (0 : Int32) .null k5 (nar .char (t0_3 p2)) (nar .char (t0_5 p2)) h7 n0 (Nat.le_trans (Nat.le_trans (Nat.le_trans (Nat.le_trans Z0 E4.1) E5.1) (Keep.of_wr W6).1) (Keep.of_wr W7).1) f3 f4 f5 f6 g_b4 V7 hcs (own_le255 _ (own_cc _ (own_cc _ (own_m255 _)))) (own_le255 _ (own_cc _ (own_cc _ (own_m255 _))))) hZ (hi 6 rfl) (hi 2 rfl) (by decide) (by decide)) (g := (mkF m 76 #[vI p1, vI p2, vI p3, vI (t0_0 p1), vI (0 : Int32), vI (t0_2 p1), vI (0 : Int32), vU, vU, vU, vU, vU, vU, vU, vU, vU] [(.ref b5), (.ref b4), (.ref b4)])) rfl (by rw [hml]; rfl) (Steps.refl _) (a := b4) (argsL := [(.ref b5)]) (rest := [(.ref b4)]) (lenOf pd__28_5bC_29V rfl) rfl (by show 2 * 0 + _ ≤ _; exact Nat.le_of_eq rfl) (hb hby at_76) (fun _ _ => ⟨rfl, e7, (by decide : 2 + 1 ≤ _), (by decide : 6 + 2 ≤ _)⟩)
  dsimp only [Pt.U, Pt.locs, Pt.cells, Pt.slots] at X8 l8 y8 z8 st8 hQ8
  subst l8 y8 z8
  obtain ⟨rfl, N8q, K8, i8_0, i8_1⟩ := hQ8
  have N8 := Fr.app N7 N8q
  have f7 := (own_sta_keep f3 K8 (own_qc (own_nst f6) own_q0))
  obtain ⟨_, _, ⟨T9, L9, k9, n9⟩, -, X9, ⟨Lc9, hQ9, l9, y9, z9⟩, st9⟩ := Jvm.LawKit.callS X8 hx (y := (⟨"java/lang/String", "valueOf", "(C)Ljava/lang/String;"⟩ : MethodName)) hown (mvT hZ (hi 30 rfl)) (mvT hZ (hi 31 rfl)) (mvT hZ (hi 2 rfl)) (mvT hZ (hi 32 rfl)) (by decide) (backOf (W := 0) (rm7 l Z a0 hw [] (t0_7 p2) s_COMPACT_STRINGS T8.heap n0 (Nat.le_trans (Nat.le_trans (Nat.le_trans (Nat.le_trans (Nat.le_trans Z0 E4.1) E5.1) (Keep.of_wr W6).1) (Keep.of_wr W7).1) K8.1) f7 hcs (own_F8 _ (own_cc _ (own_m255 _)))) hZ (hi 32 rfl) (hi 2 rfl) (by decide) (by decide)) (g := (mkF m 90 #[vI p1, vI p2, vI p3, vI (t0_0 p1), vI (0 : Int32), vI (t0_2 p1), vI (0 : Int32), vA b4, vU, vU, vU, vU, vU, vU, vU, vU] [(.int (t0_7 p2))])) rfl (by rw [hml]; rfl) (argsL := [(.int (t0_7 p2))]) (rest := []) (lenOf pd__28C_29Ljava_2flang_2fString_3b rfl) rfl (by show 2 * 0 + _ ≤ _; exact Nat.le_of_eq rfl) (hb hby at_90) (fun _ _ => ⟨rfl, rfl, (by decide : 3 + 2 ≤ _), (by decide : 8 + 5 ≤ _)⟩)
  dsimp only [Pt.U, Pt.locs, Pt.cells, Pt.slots] at X9 l9 y9 z9 st9 hQ9
  subst l9 y9 z9
  obtain ⟨br_9, ⟨rfl, N9q, K9⟩⟩ := hQ9
  have N9 := Fr.app N8 N9q
  have f8 := ((((f0.ext E5).other W6 (Or.inl (Nat.ne_of_lt (Nat.lt_of_lt_of_le f0.lt (Nat.le_of_eq g5.symm))))).other W7 (Or.inl (Nat.ne_of_lt (Nat.lt_of_lt_of_le f0.lt (Nat.le_of_eq g5.symm))))).keep K8 (own_nm (Nat.ne_of_lt (Nat.lt_of_lt_of_le F_value_s_EMPTY.lt (Nat.le_of_eq g4.symm))) own_n0))
  have f9 := (V7.keep K8 (own_nm (Ne.symm (Nat.ne_of_lt (Nat.lt_of_lt_of_le A4.lt (Nat.le_of_eq g5.symm)))) own_n0))
  have f10 := (own_sta_keep f7 K9 own_q0)
  obtain ⟨_, _, ⟨T10, L10, k10, n10⟩, -, X10w, hS10w, hg10, ⟨Lc10, hQ10, l10, y10, z10⟩, st10⟩ := Jvm.RoadKit.callSS X9 hx (y := (⟨"underdeck/deck/ColumnRequiredPinLaw", "drawn", "(I)Ljava/lang/String;"⟩ : MethodName)) hown (mvT hZ (hi 44 rfl)) (mvT hZ (hi 45 rfl)) (mvT hZ (hi 46 rfl)) (mvT hZ (hi 47 rfl)) (by decide) (backOfS (W := 0) (rm11 l Z a0 hw [] p3 s_COMPACT_STRINGS T9.heap n0 (Nat.le_trans (Nat.le_trans (Nat.le_trans (Nat.le_trans (Nat.le_trans (Nat.le_trans Z0 E4.1) E5.1) (Keep.of_wr W6).1) (Keep.of_wr W7).1) K8.1) K9.1) f10 hcs) hZ (hi 47 rfl) (hi 46 rfl) (by decide) (by decide)) (g := (mkF m 96 #[vI p1, vI p2, vI p3, vI (t0_0 p1), vI (0 : Int32), vI (t0_2 p1), vI (0 : Int32), vA b4, vA br_9, vU, vU, vU, vU, vU, vU, vU] [(.int p3)])) rfl (by rw [hml]; rfl) (argsL := [(.int p3)]) (rest := []) (lenOf pd__28I_29Ljava_2flang_2fString_3b rfl) rfl (by show 2 * 0 + _ ≤ _; exact Nat.le_of_eq rfl) (hb hby at_96) (fun _ _ => ⟨rfl, rfl, (by decide : 5 + 2 ≤ _), (by decide : 13 + 5 ≤ _)⟩)
  dsimp only [Pt.U, Pt.locs, Pt.cells, Pt.slots] at X10w hS10w hg10 l10 y10 z10 st10 hQ10
  subst l10 y10 z10
  obtain ⟨X10, hS10, hZ10, hown10⟩ := rebS hS0 (show _ ≤ T9.heap.size from by exact (Nat.le_trans (Nat.le_trans (Nat.le_trans (Nat.le_trans (Nat.le_trans (Nat.le_trans (Nat.le_refl h0.size) E4.1) E5.1) (Keep.of_wr W6).1) (Keep.of_wr W7).1) K8.1) K9.1)) X10w hS10w hg10 hZ hown
  obtain ⟨br_10, ⟨rfl, N10q, K10⟩⟩ := hQ10
  have N10 := Fr.app N9 N10q
  have f11 := (f8.keep K9 own_n0)
  have f12 := (i8_0.keep K9)
  have f13 := (f9.keep K9 own_n0)
  have f14 := (own_sta_keep f10 K10 own_q0)
  obtain ⟨_, _, ⟨T11, L11, k11, n11⟩, -, X11w, hS11w, hg11, ⟨Lc11, hQ11, l11, y11, z11⟩, st11⟩ := Jvm.RoadKit.callSS X10 hx (y := (⟨"underdeck/deck/ColumnRequiredPinLaw", "drawn", "(I)Ljava/lang/String;"⟩ : MethodName)) hown10 (mvT hZ10 (hi 44 rfl)) (mvT hZ10 (hi 45 rfl)) (mvT hZ10 (hi 46 rfl)) (mvT hZ10 (hi 47 rfl)) (by decide) (backOfS (W := 0) (rm11 l Z a0 hw [] (t0_8 p3) s_COMPACT_STRINGS T10.heap n0 (Nat.le_trans (Nat.le_trans (Nat.le_trans (Nat.le_trans (Nat.le_trans (Nat.le_trans (Nat.le_trans Z0 E4.1) E5.1) (Keep.of_wr W6).1) (Keep.of_wr W7).1) K8.1) K9.1) K10.1) f14 hcs) hZ10 (hi 47 rfl) (hi 46 rfl) (by decide) (by decide)) (g := (mkF m 105 #[vI p1, vI p2, vI p3, vI (t0_0 p1), vI (0 : Int32), vI (t0_2 p1), vI (0 : Int32), vA b4, vA br_9, vA br_10, vU, vU, vU, vU, vU, vU] [(.int (t0_8 p3))])) rfl (by rw [hml]; rfl) (argsL := [(.int (t0_8 p3))]) (rest := []) (lenOf pd__28I_29Ljava_2flang_2fString_3b rfl) rfl (by show 2 * 0 + _ ≤ _; exact Nat.le_of_eq rfl) (hb hby at_105) (fun _ _ => ⟨rfl, rfl, (by decide : 7 + 2 ≤ _), (by decide : 18 + 5 ≤ _)⟩)
  dsimp only [Pt.U, Pt.locs, Pt.cells, Pt.slots] at X11w hS11w hg11 l11 y11 z11 st11 hQ11
  subst l11 y11 z11
  obtain ⟨X11, hS11, hZ11, hown11⟩ := rebS hS10 (show _ ≤ T10.heap.size from by exact (Nat.le_refl _)) X11w hS11w hg11 hZ10 hown10
  obtain ⟨br_11, ⟨rfl, N11q, K11⟩⟩ := hQ11
  have N11 := Fr.app N10 N11q
  have f15 := (f11.keep K10 own_n0)
  have f16 := (f12.keep K10)
  have f17 := (f13.keep K10 own_n0)
  have f18 := (own_sta_keep (own_sta_keep (own_sta_keep (own_sta_keep ((((S_EMPTY.ext E4).ext E5).wr W6).wr W7) K8 (own_qc (own_nst f6) own_q0)) K9 own_q0) K10 own_q0) K11 own_q0)
  obtain ⟨_, _, ⟨T12, L12, k12, n12⟩, -, X12, ⟨Lc12, hQ12, l12, y12, z12⟩, st12⟩ := Jvm.LawKit.callS X11 hx (y := (⟨"java/util/Optional", "empty", "()Ljava/util/Optional;"⟩ : MethodName)) hown11 (mvT hZ11 (hi 51 rfl)) (mvT hZ11 (hi 52 rfl)) (mvT hZ11 (hi 53 rfl)) (mvT hZ11 (hi 54 rfl)) (by decide) (backOf (W := 0) (rm12 l Z a0 hw [] s_EMPTY T11.heap n0 (Nat.le_trans (Nat.le_trans (Nat.le_trans (Nat.le_trans (Nat.le_trans (Nat.le_trans (Nat.le_trans (Nat.le_trans Z0 E4.1) E5.1) (Keep.of_wr W6).1) (Keep.of_wr W7).1) K8.1) K9.1) K10.1) K11.1) f18) hZ11 (hi 54 rfl) (hi 53 rfl) (by decide) (by decide)) (g := (mkF m 123 #[vI p1, vI p2, vI p3, vI (t0_0 p1), vI (0 : Int32), vI (t0_2 p1), vI (0 : Int32), vA b4, vA br_9, vA br_10, vA br_11, vU, vU, vU, vU, vU] [])) rfl (by rw [hml]; rfl) (argsL := []) (rest := []) (lenOf pd__28_29Ljava_2futil_2fOptional_3b rfl) rfl (by show 2 * 0 + _ ≤ _; exact Nat.le_of_eq rfl) (hb hby at_123) (fun _ _ => ⟨rfl, rfl, (by decide : 9 + 0 ≤ _), (by decide : 23 + 0 ≤ _)⟩)
  dsimp only [Pt.U, Pt.locs, Pt.cells, Pt.slots] at X12 l12 y12 z12 st12 hQ12
  subst l12 y12 z12
  obtain ⟨rfl, N12q, e12⟩ := hQ12
  have N12 := Fr.app N11 N12q
  obtain ⟨_, _, ⟨T13, L13, k13, n13⟩, -, X13, ⟨Lc13, hQ13, l13, y13, z13⟩, st13⟩ := Jvm.LawKit.callS X12 hx (y := (⟨"java/util/Optional", "empty", "()Ljava/util/Optional;"⟩ : MethodName)) hown11 (mvT hZ11 (hi 51 rfl)) (mvT hZ11 (hi 52 rfl)) (mvT hZ11 (hi 53 rfl)) (mvT hZ11 (hi 54 rfl)) (by decide) (backOf (W := 0) (rm12 l Z a0 hw [] s_EMPTY T11.heap n0 (Nat.le_trans (Nat.le_trans (Nat.le_trans (Nat.le_trans (Nat.le_trans (Nat.le_trans (Nat.le_trans (Nat.le_trans Z0 E4.1) E5.1) (Keep.of_wr W6).1) (Keep.of_wr W7).1) K8.1) K9.1) K10.1) K11.1) f18) hZ11 (hi 54 rfl) (hi 53 rfl) (by decide) (by decide)) (g := (mkF m 133 #[vI p1, vI p2, vI p3, vI (t0_0 p1), vI (0 : Int32), vI (t0_2 p1), vI (0 : Int32), vA b4, vA br_9, vA br_10, vA br_11, vA s_EMPTY, vU, vU, vU, vU] [])) rfl (by rw [hml]; rfl) (argsL := []) (rest := []) (lenOf pd__28_29Ljava_2futil_2fOptional_3b rfl) rfl (by show 2 * 0 + _ ≤ _; exact Nat.le_of_eq rfl) (hb hby at_133) (fun _ _ => ⟨rfl, e12, (by decide : 9 + 0 ≤ _), (by decide : 23 + 0 ≤ _)⟩)
  dsimp only [Pt.U, Pt.locs, Pt.cells, Pt.slots] at X13 l13 y13 z13 st13 hQ13
  subst l13 y13 z13
  obtain ⟨rfl, N13q, e13⟩ := hQ13
  have N13 := Fr.app N12 N13q
  obtain ⟨_, _, ⟨T14, L14, k14, n14⟩, -, X14, ⟨Lc14, hQ14, l14, y14, z14⟩, st14⟩ := Jvm.LawKit.callS X13 hx (y := (⟨"java/util/Optional", "empty", "()Ljava/util/Optional;"⟩ : MethodName)) hown11 (mvT hZ11 (hi 51 rfl)) (mvT hZ11 (hi 52 rfl)) (mvT hZ11 (hi 53 rfl)) (mvT hZ11 (hi 54 rfl)) (by decide) (backOf (W := 0) (rm12 l Z a0 hw [] s_EMPTY T11.heap n0 (Nat.le_trans (Nat.le_trans (Nat.le_trans (Nat.le_trans (Nat.le_trans (Nat.le_trans (Nat.le_trans (Nat.le_trans Z0 E4.1) E5.1) (Keep.of_wr W6).1) (Keep.of_wr W7).1) K8.1) K9.1) K10.1) K11.1) f18) hZ11 (hi 54 rfl) (hi 53 rfl) (by decide) (by decide)) (g := (mkF m 179 #[vI p1, vI p2, vI p3, vI (t0_0 p1), vI (0 : Int32), vI (t0_2 p1), vI (0 : Int32), vA b4, vA br_9, vA br_10, vA br_11, vA s_EMPTY, vA s_EMPTY, vU, vU, vU] [])) rfl (by rw [hml]; rfl) (argsL := []) (rest := []) (lenOf pd__28_29Ljava_2futil_2fOptional_3b rfl) rfl (by show 2 * 0 + _ ≤ _; exact Nat.le_of_eq rfl) (hb hby at_179) (fun _ _ => ⟨rfl, e13, (by decide : 9 + 0 ≤ _), (by decide : 23 + 0 ≤ _)⟩)
  dsimp only [Pt.U, Pt.locs, Pt.cells, Pt.slots] at X14 l14 y14 z14 st14 hQ14
  subst l14 y14 z14
  obtain ⟨rfl, N14q, e14⟩ := hQ14
  have N14 := Fr.app N13 N14q
  have f19 := (f15.keep K11 own_n0)
  have f20 := (f16.keep K11)
  have f21 := (f17.keep K11 own_n0)
  obtain ⟨T15, h15, X15, e15, E15, A15, D15, -, st15⟩ := newO X14 hx hZ11 hown11 (hi 56 rfl) (hi 57 rfl) (hi 58 rfl) e14 (g := (mkF m 184 #[vI p1, vI p2, vI p3, vI (t0_0 p1), vI (0 : Int32), vI (t0_2 p1), vI (0 : Int32), vA b4, vA br_9, vA br_10, vA br_11, vA s_EMPTY, vA s_EMPTY, vA s_EMPTY, vU, vU] [])) rfl (hb hby at_184) (by decide) (by decide)
  obtain ⟨b15, g15⟩ : ∃ z, z = T11.heap.size := ⟨_, rfl⟩
  rw [← g15] at A15 D15 st15
  have g_b15 : n0 ≤ b15 := Nat.le_trans (Nat.le_trans (Nat.le_trans (Nat.le_trans (Nat.le_trans (Nat.le_trans (Nat.le_trans (Nat.le_trans (Nat.le_trans Z0 E4.1) E5.1) (Keep.of_wr W6).1) (Keep.of_wr W7).1) K8.1) K9.1) K10.1) K11.1) (Nat.le_of_eq g15.symm)
  have sz_b15 : h0.size ≤ b15 := Nat.le_trans (Nat.le_trans (Nat.le_trans (Nat.le_trans (Nat.le_trans (Nat.le_trans (Nat.le_trans (Nat.le_trans (Nat.le_trans (Nat.le_refl h0.size) E4.1) E5.1) (Keep.of_wr W6).1) (Keep.of_wr W7).1) K8.1) K9.1) K10.1) K11.1) (Nat.le_of_eq g15.symm)
  have F_name_b15 : Fld Z h15 b15 "underdeck/deck/Column" "name" "Ljava/lang/String;" .null := D15 (Or.inr (hi 78 rfl)) (ty := (.object "java/lang/String")) (by decide)
  have F_type_b15 : Fld Z h15 b15 "underdeck/deck/Column" "type" "Ljava/lang/String;" .null := D15 (Or.inr (hi 80 rfl)) (ty := (.object "java/lang/String")) (by decide)
  have F_nullable_b15 : Fld Z h15 b15 "underdeck/deck/Column" "nullable" "Z" (.int (0 : Int32)) := D15 (Or.inr (hi 82 rfl)) (ty := .boolean) (by decide)
  have F_defaultValue_b15 : Fld Z h15 b15 "underdeck/deck/Column" "defaultValue" "Ljava/util/Optional;" .null := D15 (Or.inr (hi 84 rfl)) (ty := (.object "java/util/Optional")) (by decide)
  have F_identity_b15 : Fld Z h15 b15 "underdeck/deck/Column" "identity" "Ljava/util/Optional;" .null := D15 (Or.inr (hi 86 rfl)) (ty := (.object "java/util/Optional")) (by decide)
  have F_generated_b15 : Fld Z h15 b15 "underdeck/deck/Column" "generated" "Ljava/util/Optional;" .null := D15 (Or.inr (hi 88 rfl)) (ty := (.object "java/util/Optional")) (by decide)
  obtain ⟨_, _, ⟨T16, L16, k16, n16⟩, -, X16w, hS16w, hg16, ⟨Lc16, hQ16, l16, y16, z16⟩, st16⟩ := X15.specialBackS hx (y := (⟨"underdeck/deck/Column", "<init>", "(Ljava/lang/String;Ljava/lang/String;ZLjava/util/Optional;Ljava/util/Optional;Ljava/util/Optional;)V"⟩ : MethodName)) rfl hown11 (mvT hZ11 (hi 59 rfl)) (mvT hZ11 (hi 60 rfl)) (mvT hZ11 (hi 61 rfl)) (by decide) (backOfS (W := 1) (rm13 l Z a0 hw [] b15 b4 br_9 (t0_0 p1) s_EMPTY s_EMPTY s_EMPTY .null .null (0 : Int32) .null .null .null h15 n0 (Nat.le_trans (Nat.le_trans (Nat.le_trans (Nat.le_trans (Nat.le_trans (Nat.le_trans (Nat.le_trans (Nat.le_trans (Nat.le_trans Z0 E4.1) E5.1) (Keep.of_wr W6).1) (Keep.of_wr W7).1) K8.1) K9.1) K10.1) K11.1) E15.1) A15 F_name_b15 g_b15 F_type_b15 F_nullable_b15 F_defaultValue_b15 F_identity_b15 F_generated_b15) hZ11 (hi 61 rfl) (hi 58 rfl) (by decide) (by decide)) (g := (mkF m 199 #[vI p1, vI p2, vI p3, vI (t0_0 p1), vI (0 : Int32), vI (t0_2 p1), vI (0 : Int32), vA b4, vA br_9, vA br_10, vA br_11, vA s_EMPTY, vA s_EMPTY, vA s_EMPTY, vU, vU] [(.ref s_EMPTY), (.ref s_EMPTY), (.ref s_EMPTY), (.int (t0_0 p1)), (.ref br_9), (.ref b4), (.ref b15), (.ref b15)])) rfl (by rw [hml]; rfl) (Steps.refl _) (a := b15) (argsL := [(.ref b4), (.ref br_9), (.int (t0_0 p1)), (.ref s_EMPTY), (.ref s_EMPTY), (.ref s_EMPTY)]) (rest := [(.ref b15)]) (lenOf pd__28Ljava_2flang_2fString_3bLjava_2flang_2fString_3bZLjava_2futil_2fOptional_3bLjava_2futil_2fOptional_3bLjava_2futil_2fOptional_3b_29V rfl) rfl (by show 2 * 0 + _ ≤ _; exact Nat.le_of_eq rfl) (hb hby at_199) (fun _ _ => ⟨rfl, e15, (by decide : 10 + 10 ≤ _), (by decide : 29 + 168 ≤ _)⟩)
  dsimp only [Pt.U, Pt.locs, Pt.cells, Pt.slots] at X16w hS16w hg16 l16 y16 z16 st16 hQ16
  subst l16 y16 z16
  obtain ⟨X16, hS16, hZ16, hown16⟩ := rebS hS11 (show _ ≤ T15.heap.size from by rw [e15]; exact (Nat.le_trans (Nat.le_refl _) E15.1)) X16w hS16w hg16 hZ11 hown11
  obtain ⟨rfl, N16q, K16, i16_0, i16_1, i16_2, i16_3, i16_4, i16_5, i16_6⟩ := hQ16
  have N16 := Fr.app N14 N16q
  have f22 := ((f19.ext E15).keep K16 (own_nm (Nat.ne_of_lt (Nat.lt_of_lt_of_le f19.lt (Nat.le_of_eq g15.symm))) own_n0))
  have f23 := ((((((((((E_s_EMPTY.ext E4).ext E5).wr W6).wr W7).keep K8).keep K9).keep K10).keep K11).ext E15).keep K16)
  obtain ⟨cq17, kq17, q17a, q17b, q17c⟩ := isOf hZ16 rfl i16_0
  obtain ⟨_, _, ⟨T17, L17, k17, n17⟩, -, X17, ⟨Lc17, hQ17, l17, y17, z17⟩, st17⟩ := X16.virtualBack hx (y := (⟨"underdeck/deck/Column", "required", "()Z"⟩ : MethodName)) (z := (⟨"underdeck/deck/Column", "required", "()Z"⟩ : MethodName)) hown16 (mvT hZ16 (hi 89 rfl)) (mvT hZ16 (hi 90 rfl)) (notFace_of_selects (args := #[]) (mvT hZ16 (hi 92 rfl))) (mvT hZ16 (hi 92 rfl)) (mvT hZ16 (hi 91 rfl)) (by decide) (backOf (W := 0) (rm16nnn l Z a0 hw [] b15 (nar .boolean (t0_0 p1)) s_EMPTY s_EMPTY s_EMPTY T16.heap n0 (Nat.le_trans (Nat.le_trans (Nat.le_trans (Nat.le_trans (Nat.le_trans (Nat.le_trans (Nat.le_trans (Nat.le_trans (Nat.le_trans (Nat.le_trans Z0 E4.1) E5.1) (Keep.of_wr W6).1) (Keep.of_wr W7).1) K8.1) K9.1) K10.1) K11.1) E15.1) K16.1) i16_3 i16_4 f22 f23 i16_5 f22 f23 i16_6 f22 f23) hZ16 (hi 93 rfl) (hi 58 rfl) (by decide) (by decide)) q17a q17c (g := (mkF m 240 #[vI p1, vI p2, vI p3, vI (t0_0 p1), vI (0 : Int32), vI (t0_2 p1), vI (0 : Int32), vA b4, vA br_9, vA br_10, vA br_11, vA s_EMPTY, vA s_EMPTY, vA s_EMPTY, vA b15, vI (t0_9 p1)] [(.ref b15)])) rfl (by rw [hml]; rfl) (Steps.refl _) (argsL := []) (rest := []) (lenOf pd__28_29Z rfl) rfl (by show 2 * 0 + _ ≤ _; exact Nat.le_of_eq rfl) (hb hby at_240) (fun _ _ => ⟨rfl, rfl, (by decide : 20 + 0 ≤ _), (by decide : 197 + 0 ≤ _)⟩)
  dsimp only [Pt.U, Pt.locs, Pt.cells, Pt.slots] at X17 l17 y17 z17 st17 hQ17
  subst l17 y17 z17
  obtain ⟨rfl, N17q, e17⟩ := hQ17
  have N17 := Fr.app N16 N17q
  obtain ⟨fs, hr, hrun, hended, hw1, hw2, hw3, hw4⟩ := X17.leaveW hS16 (show _ ≤ T17.heap.size from by rw [e17]; exact (Nat.le_refl _)) (v := some (.int (1 : Int32))) (fun h => by rw [Bd.returns] at h; cases h)
  refine ⟨_, _, pre0 _ ?_, hrun, hended, _, _, rfl, ?_, hw1, hw2, hw3, hw4.mono (by decide) (by decide)⟩
  · show Steps p.tables e below (s₁.setTop (mkF m 0 #[vI p1, vI p2, vI p3, vU, vU, vU, vU, vU, vU, vU, vU, vU, vU, vU, vU, vU] [])) _
    refine XS.iloadN X0.here hx rfl (hb hby at_0) rfl ?_
    refine XS.iconst X0.here hx rfl (hb hby at_1) ?_
    refine XS.iand X0.here hx rfl (hb hby at_2) rfl ?_
    show Steps p.tables e below (s₁.setTop (mkF m 3 #[vI p1, vI p2, vI p3, vU, vU, vU, vU, vU, vU, vU, vU, vU, vU, vU, vU, vU] [(.int (p1 &&& (1 : Int32)))])) _
    have J3 : ∀ target, Steps p.tables e below (s₁.setTop (mkF m 11 #[vI p1, vI p2, vI p3, vU, vU, vU, vU, vU, vU, vU, vU, vU, vU, vU, vU, vU] [(.int (t0_0 p1))])) target → Steps p.tables e below (s₁.setTop (mkF m 3 #[vI p1, vI p2, vI p3, vU, vU, vU, vU, vU, vU, vU, vU, vU, vU, vU, vU, vU] [(.int (p1 &&& (1 : Int32)))])) target := by
      intro target kt
      by_cases hm3 : (p1 &&& (1 : Int32)) = (0 : Int32)
      · skip
        show Steps p.tables e below (s₁.setTop (mkF m 3 #[vI p1, vI p2, vI p3, vU, vU, vU, vU, vU, vU, vU, vU, vU, vU, vU, vU, vU] [(.int (p1 &&& (1 : Int32)))])) _
        refine XS.ifYes X0.here hx rfl (pc0 := 3) (pc' := 10) rfl (hb hby at_3) rfl ((if0 _ _).trans (teq hm3).1) (by decide) (by decide) ?_
        refine XS.iconst X0.here hx rfl (hb hby at_10) ?_
        rw [show (t0_0 p1) = (0 : Int32) from if_pos hm3] at kt
        exact kt
      · skip
        show Steps p.tables e below (s₁.setTop (mkF m 3 #[vI p1, vI p2, vI p3, vU, vU, vU, vU, vU, vU, vU, vU, vU, vU, vU, vU, vU] [(.int (p1 &&& (1 : Int32)))])) _
        refine XS.ifNo X0.here hx rfl (hb hby at_3) rfl ((if0 _ _).trans (feq hm3).1) ?_
        refine XS.iconst X0.here hx rfl (hb hby at_6) ?_
        show Steps p.tables e below (s₁.setTop (mkF m 7 #[vI p1, vI p2, vI p3, vU, vU, vU, vU, vU, vU, vU, vU, vU, vU, vU, vU, vU] [(.int (1 : Int32))])) _
        refine XS.goto X0.here hx rfl (pc0 := 7) (pc' := 11) rfl (hb hby at_7) (by decide) (by decide) ?_
        rw [show (t0_0 p1) = (1 : Int32) from if_neg hm3] at kt
        exact kt
    refine J3 _ ?_
    refine XS.istoreN X0.here hx rfl (hb hby at_11) rfl (l' := #[vI p1, vI p2, vI p3, vI (t0_0 p1), vU, vU, vU, vU, vU, vU, vU, vU, vU, vU, vU, vU]) rfl ?_
    refine XS.iloadN X0.here hx rfl (hb hby at_12) rfl ?_
    refine XS.iconst X0.here hx rfl (hb hby at_13) ?_
    refine XS.iand X0.here hx rfl (hb hby at_14) rfl ?_
    show Steps p.tables e below (s₁.setTop (mkF m 15 #[vI p1, vI p2, vI p3, vI (t0_0 p1), vU, vU, vU, vU, vU, vU, vU, vU, vU, vU, vU, vU] [(.int (p1 &&& (2 : Int32)))])) _
    refine XS.ifYes X0.here hx rfl (pc0 := 15) (pc' := 22) rfl (hb hby at_15) rfl ((if0 _ _).trans (teq hc15).1) (by decide) (by decide) ?_
    refine XS.iconst X0.here hx rfl (hb hby at_22) ?_
    refine XS.istore X0.here hx rfl (hb hby at_23) rfl (l' := #[vI p1, vI p2, vI p3, vI (t0_0 p1), vI (0 : Int32), vU, vU, vU, vU, vU, vU, vU, vU, vU, vU, vU]) rfl ?_
    refine XS.iloadN X0.here hx rfl (hb hby at_25) rfl ?_
    refine XS.iconst X0.here hx rfl (hb hby at_26) ?_
    refine XS.iushr X0.here hx rfl (hb hby at_27) rfl ?_
    refine XS.iconst X0.here hx rfl (hb hby at_28) ?_
    refine XS.iand X0.here hx rfl (hb hby at_29) rfl ?_
    refine XS.iconst X0.here hx rfl (hb hby at_30) ?_
    refine XS.irem X0.here hx rfl (hb hby at_31) rfl (by decide) ?_
    refine XS.istore X0.here hx rfl (hb hby at_32) rfl (l' := #[vI p1, vI p2, vI p3, vI (t0_0 p1), vI (0 : Int32), vI (t0_2 p1), vU, vU, vU, vU, vU, vU, vU, vU, vU, vU]) rfl ?_
    refine XS.iloadN X0.here hx rfl (hb hby at_34) rfl ?_
    refine XS.bipush X0.here hx rfl (hb hby at_35) ?_
    refine XS.iand X0.here hx rfl (hb hby at_37) rfl ?_
    show Steps p.tables e below (s₁.setTop (mkF m 38 #[vI p1, vI p2, vI p3, vI (t0_0 p1), vI (0 : Int32), vI (t0_2 p1), vU, vU, vU, vU, vU, vU, vU, vU, vU, vU] [(.int (p1 &&& (16 : Int32)))])) _
    refine XS.ifYes X0.here hx rfl (pc0 := 38) (pc' := 45) rfl (hb hby at_38) rfl ((if0 _ _).trans (teq hc38).1) (by decide) (by decide) ?_
    refine XS.iconst X0.here hx rfl (hb hby at_45) ?_
    refine XS.istore X0.here hx rfl (hb hby at_46) rfl (l' := #[vI p1, vI p2, vI p3, vI (t0_0 p1), vI (0 : Int32), vI (t0_2 p1), vI (0 : Int32), vU, vU, vU, vU, vU, vU, vU, vU, vU]) rfl ?_
    show Steps p.tables e below (s₁.setTop (mkF m 48 #[vI p1, vI p2, vI p3, vI (t0_0 p1), vI (0 : Int32), vI (t0_2 p1), vI (0 : Int32), vU, vU, vU, vU, vU, vU, vU, vU, vU] [])) _
    refine st4 _ ?_
    refine XS.dup X4.here hx rfl (hb hby at_51) rfl rfl ?_
    refine XS.iconst X4.here hx rfl (hb hby at_52) ?_
    show Steps p.tables e below (T4.setTop (mkF m 53 #[vI p1, vI p2, vI p3, vI (t0_0 p1), vI (0 : Int32), vI (t0_2 p1), vI (0 : Int32), vU, vU, vU, vU, vU, vU, vU, vU, vU] [(.int (2 : Int32)), (.ref b4), (.ref b4)])) _
    refine st5 _ ?_
    refine XS.dup X5.here hx rfl (hb hby at_55) rfl rfl ?_
    refine XS.iconst X5.here hx rfl (hb hby at_56) ?_
    refine XS.iloadN X5.here hx rfl (hb hby at_57) rfl ?_
    refine XS.sipush X5.here hx rfl (hb hby at_58) ?_
    refine XS.iand X5.here hx rfl (hb hby at_61) rfl ?_
    refine XS.i2c X5.here hx rfl (hb hby at_62) rfl ?_
    show Steps p.tables e below (T5.setTop (mkF m 63 #[vI p1, vI p2, vI p3, vI (t0_0 p1), vI (0 : Int32), vI (t0_2 p1), vI (0 : Int32), vU, vU, vU, vU, vU, vU, vU, vU, vU] [(.int (t0_3 p2)), (.int (0 : Int32)), (.ref b5), (.ref b5), (.ref b4), (.ref b4)])) _
    refine st6 _ ?_
    refine XS.dup X6.here hx rfl (hb hby at_64) rfl rfl ?_
    refine XS.iconst X6.here hx rfl (hb hby at_65) ?_
    refine XS.iloadN X6.here hx rfl (hb hby at_66) rfl ?_
    refine XS.bipush X6.here hx rfl (hb hby at_67) ?_
    refine XS.iushr X6.here hx rfl (hb hby at_69) rfl ?_
    refine XS.sipush X6.here hx rfl (hb hby at_70) ?_
    refine XS.iand X6.here hx rfl (hb hby at_73) rfl ?_
    refine XS.i2c X6.here hx rfl (hb hby at_74) rfl ?_
    show Steps p.tables e below (T6.setTop (mkF m 75 #[vI p1, vI p2, vI p3, vI (t0_0 p1), vI (0 : Int32), vI (t0_2 p1), vI (0 : Int32), vU, vU, vU, vU, vU, vU, vU, vU, vU] [(.int (t0_5 p2)), (.int (1 : Int32)), (.ref b5), (.ref b5), (.ref b4), (.ref b4)])) _
    refine st7 _ ?_
    show Steps p.tables e below (T7.setTop (mkF m 76 #[vI p1, vI p2, vI p3, vI (t0_0 p1), vI (0 : Int32), vI (t0_2 p1), vI (0 : Int32), vU, vU, vU, vU, vU, vU, vU, vU, vU] [(.ref b5), (.ref b4), (.ref b4)])) _
    refine st8.trans ?_
    refine XS.astore X8.here hx rfl (hb hby at_79) rfl rfl (l' := #[vI p1, vI p2, vI p3, vI (t0_0 p1), vI (0 : Int32), vI (t0_2 p1), vI (0 : Int32), vA b4, vU, vU, vU, vU, vU, vU, vU, vU]) rfl ?_
    refine XS.iloadN X8.here hx rfl (hb hby at_81) rfl ?_
    refine XS.bipush X8.here hx rfl (hb hby at_82) ?_
    refine XS.iushr X8.here hx rfl (hb hby at_84) rfl ?_
    refine XS.sipush X8.here hx rfl (hb hby at_85) ?_
    refine XS.iand X8.here hx rfl (hb hby at_88) rfl ?_
    refine XS.i2c X8.here hx rfl (hb hby at_89) rfl ?_
    show Steps p.tables e below (T8.setTop (mkF m 90 #[vI p1, vI p2, vI p3, vI (t0_0 p1), vI (0 : Int32), vI (t0_2 p1), vI (0 : Int32), vA b4, vU, vU, vU, vU, vU, vU, vU, vU] [(.int (t0_7 p2))])) _
    refine st9 _ ?_
    refine XS.astore X9.here hx rfl (hb hby at_93) rfl rfl (l' := #[vI p1, vI p2, vI p3, vI (t0_0 p1), vI (0 : Int32), vI (t0_2 p1), vI (0 : Int32), vA b4, vA br_9, vU, vU, vU, vU, vU, vU, vU]) rfl ?_
    refine XS.iloadN X9.here hx rfl (hb hby at_95) rfl ?_
    show Steps p.tables e below (T9.setTop (mkF m 96 #[vI p1, vI p2, vI p3, vI (t0_0 p1), vI (0 : Int32), vI (t0_2 p1), vI (0 : Int32), vA b4, vA br_9, vU, vU, vU, vU, vU, vU, vU] [(.int p3)])) _
    refine st10.trans ?_
    refine XS.astore X10.here hx rfl (hb hby at_99) rfl rfl (l' := #[vI p1, vI p2, vI p3, vI (t0_0 p1), vI (0 : Int32), vI (t0_2 p1), vI (0 : Int32), vA b4, vA br_9, vA br_10, vU, vU, vU, vU, vU, vU]) rfl ?_
    refine XS.iloadN X10.here hx rfl (hb hby at_101) rfl ?_
    refine XS.bipush X10.here hx rfl (hb hby at_102) ?_
    refine XS.iushr X10.here hx rfl (hb hby at_104) rfl ?_
    show Steps p.tables e below (T10.setTop (mkF m 105 #[vI p1, vI p2, vI p3, vI (t0_0 p1), vI (0 : Int32), vI (t0_2 p1), vI (0 : Int32), vA b4, vA br_9, vA br_10, vU, vU, vU, vU, vU, vU] [(.int (t0_8 p3))])) _
    refine st11.trans ?_
    refine XS.astore X11.here hx rfl (hb hby at_108) rfl rfl (l' := #[vI p1, vI p2, vI p3, vI (t0_0 p1), vI (0 : Int32), vI (t0_2 p1), vI (0 : Int32), vA b4, vA br_9, vA br_10, vA br_11, vU, vU, vU, vU, vU]) rfl ?_
    refine XS.iload X11.here hx rfl (hb hby at_110) rfl ?_
    show Steps p.tables e below (T11.setTop (mkF m 112 #[vI p1, vI p2, vI p3, vI (t0_0 p1), vI (0 : Int32), vI (t0_2 p1), vI (0 : Int32), vA b4, vA br_9, vA br_10, vA br_11, vU, vU, vU, vU, vU] [(.int (0 : Int32))])) _
    refine XS.ifYes X11.here hx rfl (pc0 := 112) (pc' := 123) rfl (hb hby at_112) rfl ((if0 _ _).trans (teq (rfl : (0 : Int32) = (0 : Int32))).1) (by decide) (by decide) ?_
    show Steps p.tables e below (T11.setTop (mkF m 123 #[vI p1, vI p2, vI p3, vI (t0_0 p1), vI (0 : Int32), vI (t0_2 p1), vI (0 : Int32), vA b4, vA br_9, vA br_10, vA br_11, vU, vU, vU, vU, vU] [])) _
    refine st12 _ ?_
    refine XS.astore X12.here hx rfl (hb hby at_126) rfl rfl (l' := #[vI p1, vI p2, vI p3, vI (t0_0 p1), vI (0 : Int32), vI (t0_2 p1), vI (0 : Int32), vA b4, vA br_9, vA br_10, vA br_11, vA s_EMPTY, vU, vU, vU, vU]) rfl ?_
    refine XS.iload X12.here hx rfl (hb hby at_128) rfl ?_
    show Steps p.tables e below (T12.setTop (mkF m 130 #[vI p1, vI p2, vI p3, vI (t0_0 p1), vI (0 : Int32), vI (t0_2 p1), vI (0 : Int32), vA b4, vA br_9, vA br_10, vA br_11, vA s_EMPTY, vU, vU, vU, vU] [(.int (t0_2 p1))])) _
    refine XS.ifNo X12.here hx rfl (hb hby at_130) rfl ((if0 _ _).trans (teq hc130).2) ?_
    show Steps p.tables e below (T12.setTop (mkF m 133 #[vI p1, vI p2, vI p3, vI (t0_0 p1), vI (0 : Int32), vI (t0_2 p1), vI (0 : Int32), vA b4, vA br_9, vA br_10, vA br_11, vA s_EMPTY, vU, vU, vU, vU] [])) _
    refine st13 _ ?_
    refine XS.astore X13.here hx rfl (hb hby at_136) rfl rfl (l' := #[vI p1, vI p2, vI p3, vI (t0_0 p1), vI (0 : Int32), vI (t0_2 p1), vI (0 : Int32), vA b4, vA br_9, vA br_10, vA br_11, vA s_EMPTY, vA s_EMPTY, vU, vU, vU]) rfl ?_
    show Steps p.tables e below (T13.setTop (mkF m 138 #[vI p1, vI p2, vI p3, vI (t0_0 p1), vI (0 : Int32), vI (t0_2 p1), vI (0 : Int32), vA b4, vA br_9, vA br_10, vA br_11, vA s_EMPTY, vA s_EMPTY, vU, vU, vU] [])) _
    refine XS.goto X13.here hx rfl (pc0 := 138) (pc' := 166) rfl (hb hby at_138) (by decide) (by decide) ?_
    refine XS.iload X13.here hx rfl (hb hby at_166) rfl ?_
    show Steps p.tables e below (T13.setTop (mkF m 168 #[vI p1, vI p2, vI p3, vI (t0_0 p1), vI (0 : Int32), vI (t0_2 p1), vI (0 : Int32), vA b4, vA br_9, vA br_10, vA br_11, vA s_EMPTY, vA s_EMPTY, vU, vU, vU] [(.int (0 : Int32))])) _
    refine XS.ifYes X13.here hx rfl (pc0 := 168) (pc' := 179) rfl (hb hby at_168) rfl ((if0 _ _).trans (teq (rfl : (0 : Int32) = (0 : Int32))).1) (by decide) (by decide) ?_
    show Steps p.tables e below (T13.setTop (mkF m 179 #[vI p1, vI p2, vI p3, vI (t0_0 p1), vI (0 : Int32), vI (t0_2 p1), vI (0 : Int32), vA b4, vA br_9, vA br_10, vA br_11, vA s_EMPTY, vA s_EMPTY, vU, vU, vU] [])) _
    refine st14 _ ?_
    refine XS.astore X14.here hx rfl (hb hby at_182) rfl rfl (l' := #[vI p1, vI p2, vI p3, vI (t0_0 p1), vI (0 : Int32), vI (t0_2 p1), vI (0 : Int32), vA b4, vA br_9, vA br_10, vA br_11, vA s_EMPTY, vA s_EMPTY, vA s_EMPTY, vU, vU]) rfl ?_
    show Steps p.tables e below (T14.setTop (mkF m 184 #[vI p1, vI p2, vI p3, vI (t0_0 p1), vI (0 : Int32), vI (t0_2 p1), vI (0 : Int32), vA b4, vA br_9, vA br_10, vA br_11, vA s_EMPTY, vA s_EMPTY, vA s_EMPTY, vU, vU] [])) _
    refine st15 _ ?_
    refine XS.dup X15.here hx rfl (hb hby at_187) rfl rfl ?_
    refine XS.aload X15.here hx rfl (hb hby at_188) rfl rfl ?_
    refine XS.aload X15.here hx rfl (hb hby at_190) rfl rfl ?_
    refine XS.iloadN X15.here hx rfl (hb hby at_192) rfl ?_
    refine XS.aload X15.here hx rfl (hb hby at_193) rfl rfl ?_
    refine XS.aload X15.here hx rfl (hb hby at_195) rfl rfl ?_
    refine XS.aload X15.here hx rfl (hb hby at_197) rfl rfl ?_
    show Steps p.tables e below (T15.setTop (mkF m 199 #[vI p1, vI p2, vI p3, vI (t0_0 p1), vI (0 : Int32), vI (t0_2 p1), vI (0 : Int32), vA b4, vA br_9, vA br_10, vA br_11, vA s_EMPTY, vA s_EMPTY, vA s_EMPTY, vU, vU] [(.ref s_EMPTY), (.ref s_EMPTY), (.ref s_EMPTY), (.int (t0_0 p1)), (.ref br_9), (.ref b4), (.ref b15), (.ref b15)])) _
    refine st16.trans ?_
    refine XS.astore X16.here hx rfl (hb hby at_202) rfl rfl (l' := #[vI p1, vI p2, vI p3, vI (t0_0 p1), vI (0 : Int32), vI (t0_2 p1), vI (0 : Int32), vA b4, vA br_9, vA br_10, vA br_11, vA s_EMPTY, vA s_EMPTY, vA s_EMPTY, vA b15, vU]) rfl ?_
    refine XS.iconst X16.here hx rfl (hb hby at_204) ?_
    refine XS.istore X16.here hx rfl (hb hby at_205) rfl (l' := #[vI p1, vI p2, vI p3, vI (t0_0 p1), vI (0 : Int32), vI (t0_2 p1), vI (0 : Int32), vA b4, vA br_9, vA br_10, vA br_11, vA s_EMPTY, vA s_EMPTY, vA s_EMPTY, vA b15, vI (1 : Int32)]) rfl ?_
    refine XS.iloadN X16.here hx rfl (hb hby at_207) rfl ?_
    show Steps p.tables e below (T16.setTop (mkF m 208 #[vI p1, vI p2, vI p3, vI (t0_0 p1), vI (0 : Int32), vI (t0_2 p1), vI (0 : Int32), vA b4, vA br_9, vA br_10, vA br_11, vA s_EMPTY, vA s_EMPTY, vA s_EMPTY, vA b15, vI (1 : Int32)] [(.int (t0_0 p1))])) _
    have J208 : ∀ target, Steps p.tables e below (T16.setTop (mkF m 214 #[vI p1, vI p2, vI p3, vI (t0_0 p1), vI (0 : Int32), vI (t0_2 p1), vI (0 : Int32), vA b4, vA br_9, vA br_10, vA br_11, vA s_EMPTY, vA s_EMPTY, vA s_EMPTY, vA b15, vI (t0_9 p1)] [])) target → Steps p.tables e below (T16.setTop (mkF m 208 #[vI p1, vI p2, vI p3, vI (t0_0 p1), vI (0 : Int32), vI (t0_2 p1), vI (0 : Int32), vA b4, vA br_9, vA br_10, vA br_11, vA s_EMPTY, vA s_EMPTY, vA s_EMPTY, vA b15, vI (1 : Int32)] [(.int (t0_0 p1))])) target := by
      intro target kt
      by_cases hm208 : (t0_0 p1) = (0 : Int32)
      · skip
        show Steps p.tables e below (T16.setTop (mkF m 208 #[vI p1, vI p2, vI p3, vI (t0_0 p1), vI (0 : Int32), vI (t0_2 p1), vI (0 : Int32), vA b4, vA br_9, vA br_10, vA br_11, vA s_EMPTY, vA s_EMPTY, vA s_EMPTY, vA b15, vI (1 : Int32)] [(.int (t0_0 p1))])) _
        refine XS.ifYes X16.here hx rfl (pc0 := 208) (pc' := 214) rfl (hb hby at_208) rfl ((if0 _ _).trans (teq hm208).1) (by decide) (by decide) ?_
        rw [show (t0_9 p1) = (1 : Int32) from if_pos hm208] at kt
        exact kt
      · skip
        show Steps p.tables e below (T16.setTop (mkF m 208 #[vI p1, vI p2, vI p3, vI (t0_0 p1), vI (0 : Int32), vI (t0_2 p1), vI (0 : Int32), vA b4, vA br_9, vA br_10, vA br_11, vA s_EMPTY, vA s_EMPTY, vA s_EMPTY, vA b15, vI (1 : Int32)] [(.int (t0_0 p1))])) _
        refine XS.ifNo X16.here hx rfl (hb hby at_208) rfl ((if0 _ _).trans (feq hm208).1) ?_
        refine XS.iconst X16.here hx rfl (hb hby at_211) ?_
        refine XS.istore X16.here hx rfl (hb hby at_212) rfl (l' := #[vI p1, vI p2, vI p3, vI (t0_0 p1), vI (0 : Int32), vI (t0_2 p1), vI (0 : Int32), vA b4, vA br_9, vA br_10, vA br_11, vA s_EMPTY, vA s_EMPTY, vA s_EMPTY, vA b15, vI (0 : Int32)]) rfl ?_
        rw [show (t0_9 p1) = (0 : Int32) from if_neg hm208] at kt
        exact kt
    refine J208 _ ?_
    refine XS.iload X16.here hx rfl (hb hby at_214) rfl ?_
    show Steps p.tables e below (T16.setTop (mkF m 216 #[vI p1, vI p2, vI p3, vI (t0_0 p1), vI (0 : Int32), vI (t0_2 p1), vI (0 : Int32), vA b4, vA br_9, vA br_10, vA br_11, vA s_EMPTY, vA s_EMPTY, vA s_EMPTY, vA b15, vI (t0_9 p1)] [(.int (0 : Int32))])) _
    refine XS.ifYes X16.here hx rfl (pc0 := 216) (pc' := 222) rfl (hb hby at_216) rfl ((if0 _ _).trans (teq (rfl : (0 : Int32) = (0 : Int32))).1) (by decide) (by decide) ?_
    refine XS.iload X16.here hx rfl (hb hby at_222) rfl ?_
    show Steps p.tables e below (T16.setTop (mkF m 224 #[vI p1, vI p2, vI p3, vI (t0_0 p1), vI (0 : Int32), vI (t0_2 p1), vI (0 : Int32), vA b4, vA br_9, vA br_10, vA br_11, vA s_EMPTY, vA s_EMPTY, vA s_EMPTY, vA b15, vI (t0_9 p1)] [(.int (t0_2 p1))])) _
    refine XS.ifYes X16.here hx rfl (pc0 := 224) (pc' := 230) rfl (hb hby at_224) rfl ((if0 _ _).trans (teq hc130).1) (by decide) (by decide) ?_
    refine XS.iload X16.here hx rfl (hb hby at_230) rfl ?_
    show Steps p.tables e below (T16.setTop (mkF m 232 #[vI p1, vI p2, vI p3, vI (t0_0 p1), vI (0 : Int32), vI (t0_2 p1), vI (0 : Int32), vA b4, vA br_9, vA br_10, vA br_11, vA s_EMPTY, vA s_EMPTY, vA s_EMPTY, vA b15, vI (t0_9 p1)] [(.int (0 : Int32))])) _
    refine XS.ifYes X16.here hx rfl (pc0 := 232) (pc' := 238) rfl (hb hby at_232) rfl ((if0 _ _).trans (teq (rfl : (0 : Int32) = (0 : Int32))).1) (by decide) (by decide) ?_
    refine XS.aload X16.here hx rfl (hb hby at_238) rfl rfl ?_
    show Steps p.tables e below (T16.setTop (mkF m 240 #[vI p1, vI p2, vI p3, vI (t0_0 p1), vI (0 : Int32), vI (t0_2 p1), vI (0 : Int32), vA b4, vA br_9, vA br_10, vA br_11, vA s_EMPTY, vA s_EMPTY, vA s_EMPTY, vA b15, vI (t0_9 p1)] [(.ref b15)])) _
    refine st17.trans ?_
    refine XS.iload X17.here hx rfl (hb hby at_243) rfl ?_
    show Steps p.tables e below (T17.setTop (mkF m 245 #[vI p1, vI p2, vI p3, vI (t0_0 p1), vI (0 : Int32), vI (t0_2 p1), vI (0 : Int32), vA b4, vA br_9, vA br_10, vA br_11, vA s_EMPTY, vA s_EMPTY, vA s_EMPTY, vA b15, vI (t0_9 p1)] [(.int (t0_9 p1)), (.int (F16nnn (nar .boolean (t0_0 p1))))])) _
    refine XS.icmpNo X17.here hx rfl (hb hby at_245) rfl (teq (show (t0_10 p1) = (t0_9 p1) from own_fin p1)).2 ?_
    refine XS.iconst X17.here hx rfl (hb hby at_248) ?_
    show Steps p.tables e below (T17.setTop (mkF m 249 #[vI p1, vI p2, vI p3, vI (t0_0 p1), vI (0 : Int32), vI (t0_2 p1), vI (0 : Int32), vA b4, vA br_9, vA br_10, vA br_11, vA s_EMPTY, vA s_EMPTY, vA s_EMPTY, vA b15, vI (t0_9 p1)] [(.int (1 : Int32))])) _
    refine XS.goto X17.here hx rfl (pc0 := 249) (pc' := 253) rfl (hb hby at_249) (by decide) (by decide) ?_
    show Steps p.tables e below (T17.setTop (mkF m 253 #[vI p1, vI p2, vI p3, vI (t0_0 p1), vI (0 : Int32), vI (t0_2 p1), vI (0 : Int32), vA b4, vA br_9, vA br_10, vA br_11, vA s_EMPTY, vA s_EMPTY, vA s_EMPTY, vA b15, vI (t0_9 p1)] [(.int (1 : Int32))])) _
    exact retN X17 hx (t := .boolean) Bd.returns (by simp) (hb hby at_253) hr
  · show Q_rm0 Z p1 p2 p3 s_COMPACT_STRINGS s_EMPTY s_ALWAYS s_BY_DEFAULT h0 n0 _ T17.heap _
    exact ⟨rfl, N17⟩
set_option maxRecDepth 65536 in
set_option maxHeartbeats 40000000 in
theorem rm0_tttf (l : Launch) (Z : State) (a0 : Array Value) (hw : ∀ d ∈ tables_1, d.before a0 Z = true) (ws : List Jvm.Cond) (p1 : Int32) (p2 : Int32) (p3 : Int32) (s_COMPACT_STRINGS : Int32) (s_EMPTY : Addr) (s_ALWAYS : Addr) (s_BY_DEFAULT : Addr) (h0 : Heap) (n0 : Nat) (Z0 : n0 ≤ h0.size) (hcs : ¬ (s_COMPACT_STRINGS = (0 : Int32))) (S_COMPACT_STRINGS : Sta Z h0 "java/lang/String" "COMPACT_STRINGS" "Z" (.int s_COMPACT_STRINGS)) (S_EMPTY : Sta Z h0 "java/util/Optional" "EMPTY" "Ljava/util/Optional;" (.ref s_EMPTY)) (S_ALWAYS : Sta Z h0 "underdeck/deck/Column$Identity" "ALWAYS" "Lunderdeck/deck/Column$Identity;" (.ref s_ALWAYS)) (S_BY_DEFAULT : Sta Z h0 "underdeck/deck/Column$Identity" "BY_DEFAULT" "Lunderdeck/deck/Column$Identity;" (.ref s_BY_DEFAULT)) (F_value_s_EMPTY : Fld Z h0 s_EMPTY "java/util/Optional" "value" "Ljava/lang/Object;" .null) (E_s_EMPTY : Exa Z h0 s_EMPTY "java/util/Optional") (hc15 : (p1 &&& (2 : Int32)) = (0 : Int32)) (hc38 : (p1 &&& (16 : Int32)) = (0 : Int32)) (hc130 : ¬ ((t0_2 p1) = (0 : Int32))) (hc144 : (t0_2 p1) = (1 : Int32)) :
    MetFree l x (head1 (Jvm.Cond.code x code maxLocals ret :: ws) room_1) (fun a U => a = #[(.int p1), (.int p2), (.int p3)] ∧ Z.Warmed39 U.vm ∧ U.heap = h0) (fun _ _ _ _ _ => True) (fun _ U o U' => ∃ v L, o = .returned v ∧ Q_rm0 Z p1 p2 p3 s_COMPACT_STRINGS s_EMPTY s_ALWAYS s_BY_DEFAULT h0 n0 v U'.heap L ∧ ReturnedEndW U o U' L room_1.cells room_1.slots) := by
  have hi : ∀ (i : Nat) {d : Jvm.Cond}, tables_1[i]? = some d → d.before a0 Z = true := fun i d h => hw d (List.mem_of_getElem? h)
  refine MetFree.of_bodySF (plainFor_of_name pn_0) hisR ?_
  intro p e s m args below meth c s₁ Bd hml0 hP hK
  obtain ⟨rfl, hZ, hh⟩ := hP
  have hx := Bd.exec
  have hby := Bd.bytes
  have hml : c.maxLocals = 16 := hml0
  have hown : s.vm.findClass "underdeck/deck/ColumnRequiredPinLaw" = some m.cls := findClass_of_methodNamed Bd.named
  have hnm := (name_of_methodNamed Bd.named Bd.method).1
  have X0 : Stand p l e room_1 (s.setVm s.vm) m #[(.int p1), (.int p2), (.int p3)] below meth c s₁ [] 0 0 := Stand.of_body Bd
  have e0 : s₁.heap = h0 := by rw [← hh, Bd.state]; rfl
  have N0 := Fr.nil n0
  have pre0 : ∀ t, Steps p.tables e below (s₁.setTop (mkF m 0 #[vI p1, vI p2, vI p3, vU, vU, vU, vU, vU, vU, vU, vU, vU, vU, vU, vU, vU] [])) t → Steps p.tables e below (s₁.setTop (entryFrame m #[(.int p1), (.int p2), (.int p3)] maxLocals)) t := fun t k => castTop (ef_0 m p1 p2 p3) k
  have hS0 : s.Since s.vm h0.size := (State.WarmedH.refl s).since _
  obtain ⟨T4, h4, X4, e4, E4, A4, D4, -, st4⟩ := newO X0 hx hZ hown (hi 0 rfl) (hi 1 rfl) (hi 2 rfl) e0 (g := (mkF m 48 #[vI p1, vI p2, vI p3, vI (t0_0 p1), vI (0 : Int32), vI (t0_2 p1), vI (0 : Int32), vU, vU, vU, vU, vU, vU, vU, vU, vU] [])) rfl (hb hby at_48) (by decide) (by decide)
  obtain ⟨b4, g4⟩ : ∃ z, z = h0.size := ⟨_, rfl⟩
  rw [← g4] at A4 D4 st4
  have g_b4 : n0 ≤ b4 := Nat.le_trans Z0 (Nat.le_of_eq g4.symm)
  have sz_b4 : h0.size ≤ b4 := Nat.le_trans (Nat.le_refl h0.size) (Nat.le_of_eq g4.symm)
  have F_coder_b4 : Fld Z h4 b4 "java/lang/String" "coder" "B" (.int (0 : Int32)) := D4 (Or.inr (hi 27 rfl)) (ty := .byte) (by decide)
  have F_value_b4 : Fld Z h4 b4 "java/lang/String" "value" "[B" .null := D4 (Or.inr (hi 29 rfl)) (ty := (.array .byte)) (by decide)
  have f0 := (F_value_s_EMPTY.ext E4)
  obtain ⟨T5, h5, k5, X5, e5, E5, A5, st5⟩ := newP X4 hx hZ (hi 3 rfl) e4 (g := (mkF m 53 #[vI p1, vI p2, vI p3, vI (t0_0 p1), vI (0 : Int32), vI (t0_2 p1), vI (0 : Int32), vU, vU, vU, vU, vU, vU, vU, vU, vU] [(.int (2 : Int32)), (.ref b4), (.ref b4)])) rfl (hb hby at_53) rfl (by decide) (cap := 2) (by decide) (by decide) (by decide) (by decide)
  obtain ⟨b5, g5⟩ : ∃ z, z = h4.size := ⟨_, rfl⟩
  rw [← g5] at A5 st5
  have g_b5 : n0 ≤ b5 := Nat.le_trans (Nat.le_trans Z0 E4.1) (Nat.le_of_eq g5.symm)
  have sz_b5 : h0.size ≤ b5 := Nat.le_trans (Nat.le_trans (Nat.le_refl h0.size) E4.1) (Nat.le_of_eq g5.symm)
  have V_b5 : Arv Z h5 b5 k5 .char (2 : Int32) [(.int (0 : Int32)), (.int (0 : Int32))] (.int (0 : Int32)) := (Arv.new A5 (by decide)).pad (pad_rep [] (.int (0 : Int32)) 2)
  obtain ⟨cl_b5_1, Ar_b5_1, q_b5_1, Sz_b5_1, Ng_b5_1, Ha_b5_1, Gt_b5_1⟩ := id V_b5
  have hin_b5_1 : ¬ ((0 : Int32) < 0 ∨ cl_b5_1.slots.size ≤ ((0 : Int32)).toNatClampNeg) := inb_of Sz_b5_1 ⟨by decide, by decide⟩
  obtain ⟨T6, h6, X6, e6, W6, st6⟩ := stC X5 hx hZ e5 Ar_b5_1 (j := (0 : Int32)) hin_b5_1 (g := (mkF m 63 #[vI p1, vI p2, vI p3, vI (t0_0 p1), vI (0 : Int32), vI (t0_2 p1), vI (0 : Int32), vU, vU, vU, vU, vU, vU, vU, vU, vU] [(.int (t0_3 p2)), (.int (0 : Int32)), (.ref b5), (.ref b5), (.ref b4), (.ref b4)])) rfl rfl (hb hby at_63)
  have V6 : Arv Z h6 b5 k5 .char (2 : Int32) [(.int (nar .char (t0_3 p2))), (.int (0 : Int32))] (.int (0 : Int32)) := Arv.set Ar_b5_1 q_b5_1 Sz_b5_1 Ng_b5_1 Ha_b5_1 Gt_b5_1 (fits_nar_char _) W6 0 rfl (Nat.le_of_ble_eq_true rfl)
  have N6 := Fr.snoc X6 N0 g_b5
  obtain ⟨cl_b5_2, Ar_b5_2, q_b5_2, Sz_b5_2, Ng_b5_2, Ha_b5_2, Gt_b5_2⟩ := id V6
  have hin_b5_2 : ¬ ((1 : Int32) < 0 ∨ cl_b5_2.slots.size ≤ ((1 : Int32)).toNatClampNeg) := inb_of Sz_b5_2 ⟨by decide, by decide⟩
  obtain ⟨T7, h7, X7, e7, W7, st7⟩ := stC X6 hx hZ e6 Ar_b5_2 (j := (1 : Int32)) hin_b5_2 (g := (mkF m 75 #[vI p1, vI p2, vI p3, vI (t0_0 p1), vI (0 : Int32), vI (t0_2 p1), vI (0 : Int32), vU, vU, vU, vU, vU, vU, vU, vU, vU] [(.int (t0_5 p2)), (.int (1 : Int32)), (.ref b5), (.ref b5), (.ref b4), (.ref b4)])) rfl rfl (hb hby at_75)
  have V7 : Arv Z h7 b5 k5 .char (2 : Int32) [(.int (nar .char (t0_3 p2))), (.int (nar .char (t0_5 p2)))] (.int (0 : Int32)) := Arv.set Ar_b5_2 q_b5_2 Sz_b5_2 Ng_b5_2 Ha_b5_2 Gt_b5_2 (fits_nar_char _) W7 1 rfl (Nat.le_of_ble_eq_true rfl)
  have N7 := Fr.snoc X7 N6 g_b5
  have f3 := ((((S_COMPACT_STRINGS.ext E4).ext E5).wr W6).wr W7)
  have f4 := (((F_coder_b4.ext E5).other W6 (Or.inl (Nat.ne_of_lt (Nat.lt_of_lt_of_le A4.lt (Nat.le_of_eq g5.symm))))).other W7 (Or.inl (Nat.ne_of_lt (Nat.lt_of_lt_of_le A4.lt (Nat.le_of_eq g5.symm)))))
  have f5 := (((F_value_b4.ext E5).other W6 (Or.inl (Nat.ne_of_lt (Nat.lt_of_lt_of_le A4.lt (Nat.le_of_eq g5.symm))))).other W7 (Or.inl (Nat.ne_of_lt (Nat.lt_of_lt_of_le A4.lt (Nat.le_of_eq g5.symm)))))
  have f6 := (((A4.ext E5).wr W6).wr W7)
  obtain ⟨_, _, ⟨T8, L8, k8, n8⟩, -, X8, ⟨Lc8, hQ8, l8, y8, z8⟩, st8⟩ := X7.specialBack hx (y := (⟨"java/lang/String", "<init>", "([C)V"⟩ : MethodName)) rfl hown (mvT hZ (hi 4 rfl)) (mvT hZ (hi 5 rfl)) (mvT hZ (hi 6 rfl)) (by decide) (backOf (W := 1) (rm1 l Z a0 hw [] b4 b5 s_COMPACT_STRINGS (0 : Int32) .null k5 (nar .char (t0_3 p2)) (nar .char (t0_5 p2)) h7 n0 (Nat.le_trans (Nat.le_trans (Nat.le_trans (Nat.le_trans Z0 E4.1) E5.1) (Keep.of_wr W6).1) (Keep.of_wr W7).1) f3 f4 f5 f6 g_b4 V7 hcs (own_le255 _ (own_cc _ (own_cc _ (own_m255 _)))) (own_le255 _ (own_cc _ (own_cc _ (own_m255 _))))) hZ (hi 6 rfl) (hi 2 rfl) (by decide) (by decide)) (g := (mkF m 76 #[vI p1, vI p2, vI p3, vI (t0_0 p1), vI (0 : Int32), vI (t0_2 p1), vI (0 : Int32), vU, vU, vU, vU, vU, vU, vU, vU, vU] [(.ref b5), (.ref b4), (.ref b4)])) rfl (by rw [hml]; rfl) (Steps.refl _) (a := b4) (argsL := [(.ref b5)]) (rest := [(.ref b4)]) (lenOf pd__28_5bC_29V rfl) rfl (by show 2 * 0 + _ ≤ _; exact Nat.le_of_eq rfl) (hb hby at_76) (fun _ _ => ⟨rfl, e7, (by decide : 2 + 1 ≤ _), (by decide : 6 + 2 ≤ _)⟩)
  dsimp only [Pt.U, Pt.locs, Pt.cells, Pt.slots] at X8 l8 y8 z8 st8 hQ8
  subst l8 y8 z8
  obtain ⟨rfl, N8q, K8, i8_0, i8_1⟩ := hQ8
  have N8 := Fr.app N7 N8q
  have f7 := (own_sta_keep f3 K8 (own_qc (own_nst f6) own_q0))
  obtain ⟨_, _, ⟨T9, L9, k9, n9⟩, -, X9, ⟨Lc9, hQ9, l9, y9, z9⟩, st9⟩ := Jvm.LawKit.callS X8 hx (y := (⟨"java/lang/String", "valueOf", "(C)Ljava/lang/String;"⟩ : MethodName)) hown (mvT hZ (hi 30 rfl)) (mvT hZ (hi 31 rfl)) (mvT hZ (hi 2 rfl)) (mvT hZ (hi 32 rfl)) (by decide) (backOf (W := 0) (rm7 l Z a0 hw [] (t0_7 p2) s_COMPACT_STRINGS T8.heap n0 (Nat.le_trans (Nat.le_trans (Nat.le_trans (Nat.le_trans (Nat.le_trans Z0 E4.1) E5.1) (Keep.of_wr W6).1) (Keep.of_wr W7).1) K8.1) f7 hcs (own_F8 _ (own_cc _ (own_m255 _)))) hZ (hi 32 rfl) (hi 2 rfl) (by decide) (by decide)) (g := (mkF m 90 #[vI p1, vI p2, vI p3, vI (t0_0 p1), vI (0 : Int32), vI (t0_2 p1), vI (0 : Int32), vA b4, vU, vU, vU, vU, vU, vU, vU, vU] [(.int (t0_7 p2))])) rfl (by rw [hml]; rfl) (argsL := [(.int (t0_7 p2))]) (rest := []) (lenOf pd__28C_29Ljava_2flang_2fString_3b rfl) rfl (by show 2 * 0 + _ ≤ _; exact Nat.le_of_eq rfl) (hb hby at_90) (fun _ _ => ⟨rfl, rfl, (by decide : 3 + 2 ≤ _), (by decide : 8 + 5 ≤ _)⟩)
  dsimp only [Pt.U, Pt.locs, Pt.cells, Pt.slots] at X9 l9 y9 z9 st9 hQ9
  subst l9 y9 z9
  obtain ⟨br_9, ⟨rfl, N9q, K9⟩⟩ := hQ9
  have N9 := Fr.app N8 N9q
  have f8 := ((((f0.ext E5).other W6 (Or.inl (Nat.ne_of_lt (Nat.lt_of_lt_of_le f0.lt (Nat.le_of_eq g5.symm))))).other W7 (Or.inl (Nat.ne_of_lt (Nat.lt_of_lt_of_le f0.lt (Nat.le_of_eq g5.symm))))).keep K8 (own_nm (Nat.ne_of_lt (Nat.lt_of_lt_of_le F_value_s_EMPTY.lt (Nat.le_of_eq g4.symm))) own_n0))
  have f9 := (V7.keep K8 (own_nm (Ne.symm (Nat.ne_of_lt (Nat.lt_of_lt_of_le A4.lt (Nat.le_of_eq g5.symm)))) own_n0))
  have f10 := (own_sta_keep f7 K9 own_q0)
  obtain ⟨_, _, ⟨T10, L10, k10, n10⟩, -, X10w, hS10w, hg10, ⟨Lc10, hQ10, l10, y10, z10⟩, st10⟩ := Jvm.RoadKit.callSS X9 hx (y := (⟨"underdeck/deck/ColumnRequiredPinLaw", "drawn", "(I)Ljava/lang/String;"⟩ : MethodName)) hown (mvT hZ (hi 44 rfl)) (mvT hZ (hi 45 rfl)) (mvT hZ (hi 46 rfl)) (mvT hZ (hi 47 rfl)) (by decide) (backOfS (W := 0) (rm11 l Z a0 hw [] p3 s_COMPACT_STRINGS T9.heap n0 (Nat.le_trans (Nat.le_trans (Nat.le_trans (Nat.le_trans (Nat.le_trans (Nat.le_trans Z0 E4.1) E5.1) (Keep.of_wr W6).1) (Keep.of_wr W7).1) K8.1) K9.1) f10 hcs) hZ (hi 47 rfl) (hi 46 rfl) (by decide) (by decide)) (g := (mkF m 96 #[vI p1, vI p2, vI p3, vI (t0_0 p1), vI (0 : Int32), vI (t0_2 p1), vI (0 : Int32), vA b4, vA br_9, vU, vU, vU, vU, vU, vU, vU] [(.int p3)])) rfl (by rw [hml]; rfl) (argsL := [(.int p3)]) (rest := []) (lenOf pd__28I_29Ljava_2flang_2fString_3b rfl) rfl (by show 2 * 0 + _ ≤ _; exact Nat.le_of_eq rfl) (hb hby at_96) (fun _ _ => ⟨rfl, rfl, (by decide : 5 + 2 ≤ _), (by decide : 13 + 5 ≤ _)⟩)
  dsimp only [Pt.U, Pt.locs, Pt.cells, Pt.slots] at X10w hS10w hg10 l10 y10 z10 st10 hQ10
  subst l10 y10 z10
  obtain ⟨X10, hS10, hZ10, hown10⟩ := rebS hS0 (show _ ≤ T9.heap.size from by exact (Nat.le_trans (Nat.le_trans (Nat.le_trans (Nat.le_trans (Nat.le_trans (Nat.le_trans (Nat.le_refl h0.size) E4.1) E5.1) (Keep.of_wr W6).1) (Keep.of_wr W7).1) K8.1) K9.1)) X10w hS10w hg10 hZ hown
  obtain ⟨br_10, ⟨rfl, N10q, K10⟩⟩ := hQ10
  have N10 := Fr.app N9 N10q
  have f11 := (f8.keep K9 own_n0)
  have f12 := (i8_0.keep K9)
  have f13 := (f9.keep K9 own_n0)
  have f14 := (own_sta_keep f10 K10 own_q0)
  obtain ⟨_, _, ⟨T11, L11, k11, n11⟩, -, X11w, hS11w, hg11, ⟨Lc11, hQ11, l11, y11, z11⟩, st11⟩ := Jvm.RoadKit.callSS X10 hx (y := (⟨"underdeck/deck/ColumnRequiredPinLaw", "drawn", "(I)Ljava/lang/String;"⟩ : MethodName)) hown10 (mvT hZ10 (hi 44 rfl)) (mvT hZ10 (hi 45 rfl)) (mvT hZ10 (hi 46 rfl)) (mvT hZ10 (hi 47 rfl)) (by decide) (backOfS (W := 0) (rm11 l Z a0 hw [] (t0_8 p3) s_COMPACT_STRINGS T10.heap n0 (Nat.le_trans (Nat.le_trans (Nat.le_trans (Nat.le_trans (Nat.le_trans (Nat.le_trans (Nat.le_trans Z0 E4.1) E5.1) (Keep.of_wr W6).1) (Keep.of_wr W7).1) K8.1) K9.1) K10.1) f14 hcs) hZ10 (hi 47 rfl) (hi 46 rfl) (by decide) (by decide)) (g := (mkF m 105 #[vI p1, vI p2, vI p3, vI (t0_0 p1), vI (0 : Int32), vI (t0_2 p1), vI (0 : Int32), vA b4, vA br_9, vA br_10, vU, vU, vU, vU, vU, vU] [(.int (t0_8 p3))])) rfl (by rw [hml]; rfl) (argsL := [(.int (t0_8 p3))]) (rest := []) (lenOf pd__28I_29Ljava_2flang_2fString_3b rfl) rfl (by show 2 * 0 + _ ≤ _; exact Nat.le_of_eq rfl) (hb hby at_105) (fun _ _ => ⟨rfl, rfl, (by decide : 7 + 2 ≤ _), (by decide : 18 + 5 ≤ _)⟩)
  dsimp only [Pt.U, Pt.locs, Pt.cells, Pt.slots] at X11w hS11w hg11 l11 y11 z11 st11 hQ11
  subst l11 y11 z11
  obtain ⟨X11, hS11, hZ11, hown11⟩ := rebS hS10 (show _ ≤ T10.heap.size from by exact (Nat.le_refl _)) X11w hS11w hg11 hZ10 hown10
  obtain ⟨br_11, ⟨rfl, N11q, K11⟩⟩ := hQ11
  have N11 := Fr.app N10 N11q
  have f15 := (f11.keep K10 own_n0)
  have f16 := (f12.keep K10)
  have f17 := (f13.keep K10 own_n0)
  have f18 := (own_sta_keep (own_sta_keep (own_sta_keep (own_sta_keep ((((S_EMPTY.ext E4).ext E5).wr W6).wr W7) K8 (own_qc (own_nst f6) own_q0)) K9 own_q0) K10 own_q0) K11 own_q0)
  obtain ⟨_, _, ⟨T12, L12, k12, n12⟩, -, X12, ⟨Lc12, hQ12, l12, y12, z12⟩, st12⟩ := Jvm.LawKit.callS X11 hx (y := (⟨"java/util/Optional", "empty", "()Ljava/util/Optional;"⟩ : MethodName)) hown11 (mvT hZ11 (hi 51 rfl)) (mvT hZ11 (hi 52 rfl)) (mvT hZ11 (hi 53 rfl)) (mvT hZ11 (hi 54 rfl)) (by decide) (backOf (W := 0) (rm12 l Z a0 hw [] s_EMPTY T11.heap n0 (Nat.le_trans (Nat.le_trans (Nat.le_trans (Nat.le_trans (Nat.le_trans (Nat.le_trans (Nat.le_trans (Nat.le_trans Z0 E4.1) E5.1) (Keep.of_wr W6).1) (Keep.of_wr W7).1) K8.1) K9.1) K10.1) K11.1) f18) hZ11 (hi 54 rfl) (hi 53 rfl) (by decide) (by decide)) (g := (mkF m 123 #[vI p1, vI p2, vI p3, vI (t0_0 p1), vI (0 : Int32), vI (t0_2 p1), vI (0 : Int32), vA b4, vA br_9, vA br_10, vA br_11, vU, vU, vU, vU, vU] [])) rfl (by rw [hml]; rfl) (argsL := []) (rest := []) (lenOf pd__28_29Ljava_2futil_2fOptional_3b rfl) rfl (by show 2 * 0 + _ ≤ _; exact Nat.le_of_eq rfl) (hb hby at_123) (fun _ _ => ⟨rfl, rfl, (by decide : 9 + 0 ≤ _), (by decide : 23 + 0 ≤ _)⟩)
  dsimp only [Pt.U, Pt.locs, Pt.cells, Pt.slots] at X12 l12 y12 z12 st12 hQ12
  subst l12 y12 z12
  obtain ⟨rfl, N12q, e12⟩ := hQ12
  have N12 := Fr.app N11 N12q
  have f19 := (own_sta_keep (own_sta_keep (own_sta_keep (own_sta_keep ((((S_ALWAYS.ext E4).ext E5).wr W6).wr W7) K8 (own_qc (own_nst f6) own_q0)) K9 own_q0) K10 own_q0) K11 own_q0)
  obtain ⟨T13, X13, e13, st13⟩ := getS2 X12 hx hZ11 hown11 (host := "") (Or.inl (hi 101 rfl)) Via.refl e12 f19 (g := (mkF m 147 #[vI p1, vI p2, vI p3, vI (t0_0 p1), vI (0 : Int32), vI (t0_2 p1), vI (0 : Int32), vA b4, vA br_9, vA br_10, vA br_11, vA s_EMPTY, vU, vU, vU, vU] [])) rfl (hb hby at_147)
  obtain ⟨_, _, ⟨T14, L14, k14, n14⟩, -, X14, ⟨Lc14, hQ14, l14, y14, z14⟩, st14⟩ := Jvm.LawKit.callS X13 hx (y := (⟨"java/util/Optional", "of", "(Ljava/lang/Object;)Ljava/util/Optional;"⟩ : MethodName)) hown11 (mvT hZ11 (hi 104 rfl)) (mvT hZ11 (hi 105 rfl)) (mvT hZ11 (hi 53 rfl)) (mvT hZ11 (hi 106 rfl)) (by decide) (backOf (W := 0) (rm18 l Z a0 hw [] s_ALWAYS T11.heap n0 (Nat.le_trans (Nat.le_trans (Nat.le_trans (Nat.le_trans (Nat.le_trans (Nat.le_trans (Nat.le_trans (Nat.le_trans Z0 E4.1) E5.1) (Keep.of_wr W6).1) (Keep.of_wr W7).1) K8.1) K9.1) K10.1) K11.1) ) hZ11 (hi 106 rfl) (hi 53 rfl) (by decide) (by decide)) (g := (mkF m 150 #[vI p1, vI p2, vI p3, vI (t0_0 p1), vI (0 : Int32), vI (t0_2 p1), vI (0 : Int32), vA b4, vA br_9, vA br_10, vA br_11, vA s_EMPTY, vU, vU, vU, vU] [(.ref s_ALWAYS)])) rfl (by rw [hml]; rfl) (argsL := [(.ref s_ALWAYS)]) (rest := []) (lenOf pd__28Ljava_2flang_2fObject_3b_29Ljava_2futil_2fOptional_3b rfl) rfl (by show 2 * 0 + _ ≤ _; exact Nat.le_of_eq rfl) (hb hby at_150) (fun _ _ => ⟨rfl, e13, (by decide : 9 + 1 ≤ _), (by decide : 23 + 1 ≤ _)⟩)
  dsimp only [Pt.U, Pt.locs, Pt.cells, Pt.slots] at X14 l14 y14 z14 st14 hQ14
  subst l14 y14 z14
  obtain ⟨b2_14, ⟨rfl, N14q, K14, i14_0, i14_1, i14_2⟩⟩ := hQ14
  have N14 := Fr.app N12 N14q
  have f20 := (f15.keep K11 own_n0)
  have f21 := (f16.keep K11)
  have f22 := (f17.keep K11 own_n0)
  have sz_b2_14 : h0.size ≤ b2_14 := Nat.le_trans (Nat.le_trans (Nat.le_trans (Nat.le_trans (Nat.le_trans (Nat.le_trans (Nat.le_trans (Nat.le_trans (Nat.le_trans (Nat.le_refl h0.size) E4.1) E5.1) (Keep.of_wr W6).1) (Keep.of_wr W7).1) K8.1) K9.1) K10.1) K11.1) i14_0
  have g_b2_14 : n0 ≤ b2_14 := Nat.le_trans Z0 sz_b2_14
  have f23 := (own_sta_keep f18 K14 own_q0)
  obtain ⟨_, _, ⟨T15, L15, k15, n15⟩, -, X15, ⟨Lc15, hQ15, l15, y15, z15⟩, st15⟩ := Jvm.LawKit.callS X14 hx (y := (⟨"java/util/Optional", "empty", "()Ljava/util/Optional;"⟩ : MethodName)) hown11 (mvT hZ11 (hi 51 rfl)) (mvT hZ11 (hi 52 rfl)) (mvT hZ11 (hi 53 rfl)) (mvT hZ11 (hi 54 rfl)) (by decide) (backOf (W := 0) (rm12 l Z a0 hw [] s_EMPTY T14.heap n0 (Nat.le_trans (Nat.le_trans (Nat.le_trans (Nat.le_trans (Nat.le_trans (Nat.le_trans (Nat.le_trans (Nat.le_trans (Nat.le_trans Z0 E4.1) E5.1) (Keep.of_wr W6).1) (Keep.of_wr W7).1) K8.1) K9.1) K10.1) K11.1) K14.1) f23) hZ11 (hi 54 rfl) (hi 53 rfl) (by decide) (by decide)) (g := (mkF m 179 #[vI p1, vI p2, vI p3, vI (t0_0 p1), vI (0 : Int32), vI (t0_2 p1), vI (0 : Int32), vA b4, vA br_9, vA br_10, vA br_11, vA s_EMPTY, vA b2_14, vU, vU, vU] [])) rfl (by rw [hml]; rfl) (argsL := []) (rest := []) (lenOf pd__28_29Ljava_2futil_2fOptional_3b rfl) rfl (by show 2 * 0 + _ ≤ _; exact Nat.le_of_eq rfl) (hb hby at_179) (fun _ _ => ⟨rfl, rfl, (by decide : 10 + 0 ≤ _), (by decide : 24 + 0 ≤ _)⟩)
  dsimp only [Pt.U, Pt.locs, Pt.cells, Pt.slots] at X15 l15 y15 z15 st15 hQ15
  subst l15 y15 z15
  obtain ⟨rfl, N15q, e15⟩ := hQ15
  have N15 := Fr.app N14 N15q
  have f24 := (f20.keep K14 own_n0)
  have f25 := (f21.keep K14)
  have f26 := (f22.keep K14 own_n0)
  obtain ⟨T16, h16, X16, e16, E16, A16, D16, -, st16⟩ := newO X15 hx hZ11 hown11 (hi 56 rfl) (hi 57 rfl) (hi 58 rfl) e15 (g := (mkF m 184 #[vI p1, vI p2, vI p3, vI (t0_0 p1), vI (0 : Int32), vI (t0_2 p1), vI (0 : Int32), vA b4, vA br_9, vA br_10, vA br_11, vA s_EMPTY, vA b2_14, vA s_EMPTY, vU, vU] [])) rfl (hb hby at_184) (by decide) (by decide)
  obtain ⟨b16, g16⟩ : ∃ z, z = T14.heap.size := ⟨_, rfl⟩
  rw [← g16] at A16 D16 st16
  have g_b16 : n0 ≤ b16 := Nat.le_trans (Nat.le_trans (Nat.le_trans (Nat.le_trans (Nat.le_trans (Nat.le_trans (Nat.le_trans (Nat.le_trans (Nat.le_trans (Nat.le_trans Z0 E4.1) E5.1) (Keep.of_wr W6).1) (Keep.of_wr W7).1) K8.1) K9.1) K10.1) K11.1) K14.1) (Nat.le_of_eq g16.symm)
  have sz_b16 : h0.size ≤ b16 := Nat.le_trans (Nat.le_trans (Nat.le_trans (Nat.le_trans (Nat.le_trans (Nat.le_trans (Nat.le_trans (Nat.le_trans (Nat.le_trans (Nat.le_trans (Nat.le_refl h0.size) E4.1) E5.1) (Keep.of_wr W6).1) (Keep.of_wr W7).1) K8.1) K9.1) K10.1) K11.1) K14.1) (Nat.le_of_eq g16.symm)
  have F_name_b16 : Fld Z h16 b16 "underdeck/deck/Column" "name" "Ljava/lang/String;" .null := D16 (Or.inr (hi 78 rfl)) (ty := (.object "java/lang/String")) (by decide)
  have F_type_b16 : Fld Z h16 b16 "underdeck/deck/Column" "type" "Ljava/lang/String;" .null := D16 (Or.inr (hi 80 rfl)) (ty := (.object "java/lang/String")) (by decide)
  have F_nullable_b16 : Fld Z h16 b16 "underdeck/deck/Column" "nullable" "Z" (.int (0 : Int32)) := D16 (Or.inr (hi 82 rfl)) (ty := .boolean) (by decide)
  have F_defaultValue_b16 : Fld Z h16 b16 "underdeck/deck/Column" "defaultValue" "Ljava/util/Optional;" .null := D16 (Or.inr (hi 84 rfl)) (ty := (.object "java/util/Optional")) (by decide)
  have F_identity_b16 : Fld Z h16 b16 "underdeck/deck/Column" "identity" "Ljava/util/Optional;" .null := D16 (Or.inr (hi 86 rfl)) (ty := (.object "java/util/Optional")) (by decide)
  have F_generated_b16 : Fld Z h16 b16 "underdeck/deck/Column" "generated" "Ljava/util/Optional;" .null := D16 (Or.inr (hi 88 rfl)) (ty := (.object "java/util/Optional")) (by decide)
  obtain ⟨_, _, ⟨T17, L17, k17, n17⟩, -, X17w, hS17w, hg17, ⟨Lc17, hQ17, l17, y17, z17⟩, st17⟩ := X16.specialBackS hx (y := (⟨"underdeck/deck/Column", "<init>", "(Ljava/lang/String;Ljava/lang/String;ZLjava/util/Optional;Ljava/util/Optional;Ljava/util/Optional;)V"⟩ : MethodName)) rfl hown11 (mvT hZ11 (hi 59 rfl)) (mvT hZ11 (hi 60 rfl)) (mvT hZ11 (hi 61 rfl)) (by decide) (backOfS (W := 1) (rm13 l Z a0 hw [] b16 b4 br_9 (t0_0 p1) s_EMPTY b2_14 s_EMPTY .null .null (0 : Int32) .null .null .null h16 n0 (Nat.le_trans (Nat.le_trans (Nat.le_trans (Nat.le_trans (Nat.le_trans (Nat.le_trans (Nat.le_trans (Nat.le_trans (Nat.le_trans (Nat.le_trans Z0 E4.1) E5.1) (Keep.of_wr W6).1) (Keep.of_wr W7).1) K8.1) K9.1) K10.1) K11.1) K14.1) E16.1) A16 F_name_b16 g_b16 F_type_b16 F_nullable_b16 F_defaultValue_b16 F_identity_b16 F_generated_b16) hZ11 (hi 61 rfl) (hi 58 rfl) (by decide) (by decide)) (g := (mkF m 199 #[vI p1, vI p2, vI p3, vI (t0_0 p1), vI (0 : Int32), vI (t0_2 p1), vI (0 : Int32), vA b4, vA br_9, vA br_10, vA br_11, vA s_EMPTY, vA b2_14, vA s_EMPTY, vU, vU] [(.ref s_EMPTY), (.ref b2_14), (.ref s_EMPTY), (.int (t0_0 p1)), (.ref br_9), (.ref b4), (.ref b16), (.ref b16)])) rfl (by rw [hml]; rfl) (Steps.refl _) (a := b16) (argsL := [(.ref b4), (.ref br_9), (.int (t0_0 p1)), (.ref s_EMPTY), (.ref b2_14), (.ref s_EMPTY)]) (rest := [(.ref b16)]) (lenOf pd__28Ljava_2flang_2fString_3bLjava_2flang_2fString_3bZLjava_2futil_2fOptional_3bLjava_2futil_2fOptional_3bLjava_2futil_2fOptional_3b_29V rfl) rfl (by show 2 * 0 + _ ≤ _; exact Nat.le_of_eq rfl) (hb hby at_199) (fun _ _ => ⟨rfl, e16, (by decide : 11 + 10 ≤ _), (by decide : 30 + 168 ≤ _)⟩)
  dsimp only [Pt.U, Pt.locs, Pt.cells, Pt.slots] at X17w hS17w hg17 l17 y17 z17 st17 hQ17
  subst l17 y17 z17
  obtain ⟨X17, hS17, hZ17, hown17⟩ := rebS hS11 (show _ ≤ T16.heap.size from by rw [e16]; exact (Nat.le_trans (Nat.le_trans (Nat.le_refl _) K14.1) E16.1)) X17w hS17w hg17 hZ11 hown11
  obtain ⟨rfl, N17q, K17, i17_0, i17_1, i17_2, i17_3, i17_4, i17_5, i17_6⟩ := hQ17
  have N17 := Fr.app N15 N17q
  have f27 := ((i14_2.ext E16).keep K17 (own_nm (Nat.ne_of_lt (Nat.lt_of_lt_of_le i14_1.lt (Nat.le_of_eq g16.symm))) own_n0))
  have f28 := ((f24.ext E16).keep K17 (own_nm (Nat.ne_of_lt (Nat.lt_of_lt_of_le f24.lt (Nat.le_of_eq g16.symm))) own_n0))
  have f29 := (((((((((((E_s_EMPTY.ext E4).ext E5).wr W6).wr W7).keep K8).keep K9).keep K10).keep K11).keep K14).ext E16).keep K17)
  have f30 := ((i14_1.ext E16).keep K17)
  obtain ⟨cq18, kq18, q18a, q18b, q18c⟩ := isOf hZ17 rfl i17_0
  obtain ⟨_, _, ⟨T18, L18, k18, n18⟩, -, X18, ⟨Lc18, hQ18, l18, y18, z18⟩, st18⟩ := X17.virtualBack hx (y := (⟨"underdeck/deck/Column", "required", "()Z"⟩ : MethodName)) (z := (⟨"underdeck/deck/Column", "required", "()Z"⟩ : MethodName)) hown17 (mvT hZ17 (hi 89 rfl)) (mvT hZ17 (hi 90 rfl)) (notFace_of_selects (args := #[]) (mvT hZ17 (hi 92 rfl))) (mvT hZ17 (hi 92 rfl)) (mvT hZ17 (hi 91 rfl)) (by decide) (backOf (W := 0) (rm16nv l Z a0 hw [] b16 (nar .boolean (t0_0 p1)) s_EMPTY b2_14 s_ALWAYS T17.heap n0 (Nat.le_trans (Nat.le_trans (Nat.le_trans (Nat.le_trans (Nat.le_trans (Nat.le_trans (Nat.le_trans (Nat.le_trans (Nat.le_trans (Nat.le_trans (Nat.le_trans Z0 E4.1) E5.1) (Keep.of_wr W6).1) (Keep.of_wr W7).1) K8.1) K9.1) K10.1) K11.1) K14.1) E16.1) K17.1) i17_3 i17_4 f28 f29 i17_5 f27 f30) hZ17 (hi 93 rfl) (hi 58 rfl) (by decide) (by decide)) q18a q18c (g := (mkF m 240 #[vI p1, vI p2, vI p3, vI (t0_0 p1), vI (0 : Int32), vI (t0_2 p1), vI (0 : Int32), vA b4, vA br_9, vA br_10, vA br_11, vA s_EMPTY, vA b2_14, vA s_EMPTY, vA b16, vI (0 : Int32)] [(.ref b16)])) rfl (by rw [hml]; rfl) (Steps.refl _) (argsL := []) (rest := []) (lenOf pd__28_29Z rfl) rfl (by show 2 * 0 + _ ≤ _; exact Nat.le_of_eq rfl) (hb hby at_240) (fun _ _ => ⟨rfl, rfl, (by decide : 21 + 0 ≤ _), (by decide : 198 + 0 ≤ _)⟩)
  dsimp only [Pt.U, Pt.locs, Pt.cells, Pt.slots] at X18 l18 y18 z18 st18 hQ18
  subst l18 y18 z18
  obtain ⟨rfl, N18q, e18⟩ := hQ18
  have N18 := Fr.app N17 N18q
  obtain ⟨fs, hr, hrun, hended, hw1, hw2, hw3, hw4⟩ := X18.leaveW hS17 (show _ ≤ T18.heap.size from by rw [e18]; exact (Nat.le_refl _)) (v := some (.int (1 : Int32))) (fun h => by rw [Bd.returns] at h; cases h)
  refine ⟨_, _, pre0 _ ?_, hrun, hended, _, _, rfl, ?_, hw1, hw2, hw3, hw4.mono (by decide) (by decide)⟩
  · show Steps p.tables e below (s₁.setTop (mkF m 0 #[vI p1, vI p2, vI p3, vU, vU, vU, vU, vU, vU, vU, vU, vU, vU, vU, vU, vU] [])) _
    refine XS.iloadN X0.here hx rfl (hb hby at_0) rfl ?_
    refine XS.iconst X0.here hx rfl (hb hby at_1) ?_
    refine XS.iand X0.here hx rfl (hb hby at_2) rfl ?_
    show Steps p.tables e below (s₁.setTop (mkF m 3 #[vI p1, vI p2, vI p3, vU, vU, vU, vU, vU, vU, vU, vU, vU, vU, vU, vU, vU] [(.int (p1 &&& (1 : Int32)))])) _
    have J3 : ∀ target, Steps p.tables e below (s₁.setTop (mkF m 11 #[vI p1, vI p2, vI p3, vU, vU, vU, vU, vU, vU, vU, vU, vU, vU, vU, vU, vU] [(.int (t0_0 p1))])) target → Steps p.tables e below (s₁.setTop (mkF m 3 #[vI p1, vI p2, vI p3, vU, vU, vU, vU, vU, vU, vU, vU, vU, vU, vU, vU, vU] [(.int (p1 &&& (1 : Int32)))])) target := by
      intro target kt
      by_cases hm3 : (p1 &&& (1 : Int32)) = (0 : Int32)
      · skip
        show Steps p.tables e below (s₁.setTop (mkF m 3 #[vI p1, vI p2, vI p3, vU, vU, vU, vU, vU, vU, vU, vU, vU, vU, vU, vU, vU] [(.int (p1 &&& (1 : Int32)))])) _
        refine XS.ifYes X0.here hx rfl (pc0 := 3) (pc' := 10) rfl (hb hby at_3) rfl ((if0 _ _).trans (teq hm3).1) (by decide) (by decide) ?_
        refine XS.iconst X0.here hx rfl (hb hby at_10) ?_
        rw [show (t0_0 p1) = (0 : Int32) from if_pos hm3] at kt
        exact kt
      · skip
        show Steps p.tables e below (s₁.setTop (mkF m 3 #[vI p1, vI p2, vI p3, vU, vU, vU, vU, vU, vU, vU, vU, vU, vU, vU, vU, vU] [(.int (p1 &&& (1 : Int32)))])) _
        refine XS.ifNo X0.here hx rfl (hb hby at_3) rfl ((if0 _ _).trans (feq hm3).1) ?_
        refine XS.iconst X0.here hx rfl (hb hby at_6) ?_
        show Steps p.tables e below (s₁.setTop (mkF m 7 #[vI p1, vI p2, vI p3, vU, vU, vU, vU, vU, vU, vU, vU, vU, vU, vU, vU, vU] [(.int (1 : Int32))])) _
        refine XS.goto X0.here hx rfl (pc0 := 7) (pc' := 11) rfl (hb hby at_7) (by decide) (by decide) ?_
        rw [show (t0_0 p1) = (1 : Int32) from if_neg hm3] at kt
        exact kt
    refine J3 _ ?_
    refine XS.istoreN X0.here hx rfl (hb hby at_11) rfl (l' := #[vI p1, vI p2, vI p3, vI (t0_0 p1), vU, vU, vU, vU, vU, vU, vU, vU, vU, vU, vU, vU]) rfl ?_
    refine XS.iloadN X0.here hx rfl (hb hby at_12) rfl ?_
    refine XS.iconst X0.here hx rfl (hb hby at_13) ?_
    refine XS.iand X0.here hx rfl (hb hby at_14) rfl ?_
    show Steps p.tables e below (s₁.setTop (mkF m 15 #[vI p1, vI p2, vI p3, vI (t0_0 p1), vU, vU, vU, vU, vU, vU, vU, vU, vU, vU, vU, vU] [(.int (p1 &&& (2 : Int32)))])) _
    refine XS.ifYes X0.here hx rfl (pc0 := 15) (pc' := 22) rfl (hb hby at_15) rfl ((if0 _ _).trans (teq hc15).1) (by decide) (by decide) ?_
    refine XS.iconst X0.here hx rfl (hb hby at_22) ?_
    refine XS.istore X0.here hx rfl (hb hby at_23) rfl (l' := #[vI p1, vI p2, vI p3, vI (t0_0 p1), vI (0 : Int32), vU, vU, vU, vU, vU, vU, vU, vU, vU, vU, vU]) rfl ?_
    refine XS.iloadN X0.here hx rfl (hb hby at_25) rfl ?_
    refine XS.iconst X0.here hx rfl (hb hby at_26) ?_
    refine XS.iushr X0.here hx rfl (hb hby at_27) rfl ?_
    refine XS.iconst X0.here hx rfl (hb hby at_28) ?_
    refine XS.iand X0.here hx rfl (hb hby at_29) rfl ?_
    refine XS.iconst X0.here hx rfl (hb hby at_30) ?_
    refine XS.irem X0.here hx rfl (hb hby at_31) rfl (by decide) ?_
    refine XS.istore X0.here hx rfl (hb hby at_32) rfl (l' := #[vI p1, vI p2, vI p3, vI (t0_0 p1), vI (0 : Int32), vI (t0_2 p1), vU, vU, vU, vU, vU, vU, vU, vU, vU, vU]) rfl ?_
    refine XS.iloadN X0.here hx rfl (hb hby at_34) rfl ?_
    refine XS.bipush X0.here hx rfl (hb hby at_35) ?_
    refine XS.iand X0.here hx rfl (hb hby at_37) rfl ?_
    show Steps p.tables e below (s₁.setTop (mkF m 38 #[vI p1, vI p2, vI p3, vI (t0_0 p1), vI (0 : Int32), vI (t0_2 p1), vU, vU, vU, vU, vU, vU, vU, vU, vU, vU] [(.int (p1 &&& (16 : Int32)))])) _
    refine XS.ifYes X0.here hx rfl (pc0 := 38) (pc' := 45) rfl (hb hby at_38) rfl ((if0 _ _).trans (teq hc38).1) (by decide) (by decide) ?_
    refine XS.iconst X0.here hx rfl (hb hby at_45) ?_
    refine XS.istore X0.here hx rfl (hb hby at_46) rfl (l' := #[vI p1, vI p2, vI p3, vI (t0_0 p1), vI (0 : Int32), vI (t0_2 p1), vI (0 : Int32), vU, vU, vU, vU, vU, vU, vU, vU, vU]) rfl ?_
    show Steps p.tables e below (s₁.setTop (mkF m 48 #[vI p1, vI p2, vI p3, vI (t0_0 p1), vI (0 : Int32), vI (t0_2 p1), vI (0 : Int32), vU, vU, vU, vU, vU, vU, vU, vU, vU] [])) _
    refine st4 _ ?_
    refine XS.dup X4.here hx rfl (hb hby at_51) rfl rfl ?_
    refine XS.iconst X4.here hx rfl (hb hby at_52) ?_
    show Steps p.tables e below (T4.setTop (mkF m 53 #[vI p1, vI p2, vI p3, vI (t0_0 p1), vI (0 : Int32), vI (t0_2 p1), vI (0 : Int32), vU, vU, vU, vU, vU, vU, vU, vU, vU] [(.int (2 : Int32)), (.ref b4), (.ref b4)])) _
    refine st5 _ ?_
    refine XS.dup X5.here hx rfl (hb hby at_55) rfl rfl ?_
    refine XS.iconst X5.here hx rfl (hb hby at_56) ?_
    refine XS.iloadN X5.here hx rfl (hb hby at_57) rfl ?_
    refine XS.sipush X5.here hx rfl (hb hby at_58) ?_
    refine XS.iand X5.here hx rfl (hb hby at_61) rfl ?_
    refine XS.i2c X5.here hx rfl (hb hby at_62) rfl ?_
    show Steps p.tables e below (T5.setTop (mkF m 63 #[vI p1, vI p2, vI p3, vI (t0_0 p1), vI (0 : Int32), vI (t0_2 p1), vI (0 : Int32), vU, vU, vU, vU, vU, vU, vU, vU, vU] [(.int (t0_3 p2)), (.int (0 : Int32)), (.ref b5), (.ref b5), (.ref b4), (.ref b4)])) _
    refine st6 _ ?_
    refine XS.dup X6.here hx rfl (hb hby at_64) rfl rfl ?_
    refine XS.iconst X6.here hx rfl (hb hby at_65) ?_
    refine XS.iloadN X6.here hx rfl (hb hby at_66) rfl ?_
    refine XS.bipush X6.here hx rfl (hb hby at_67) ?_
    refine XS.iushr X6.here hx rfl (hb hby at_69) rfl ?_
    refine XS.sipush X6.here hx rfl (hb hby at_70) ?_
    refine XS.iand X6.here hx rfl (hb hby at_73) rfl ?_
    refine XS.i2c X6.here hx rfl (hb hby at_74) rfl ?_
    show Steps p.tables e below (T6.setTop (mkF m 75 #[vI p1, vI p2, vI p3, vI (t0_0 p1), vI (0 : Int32), vI (t0_2 p1), vI (0 : Int32), vU, vU, vU, vU, vU, vU, vU, vU, vU] [(.int (t0_5 p2)), (.int (1 : Int32)), (.ref b5), (.ref b5), (.ref b4), (.ref b4)])) _
    refine st7 _ ?_
    show Steps p.tables e below (T7.setTop (mkF m 76 #[vI p1, vI p2, vI p3, vI (t0_0 p1), vI (0 : Int32), vI (t0_2 p1), vI (0 : Int32), vU, vU, vU, vU, vU, vU, vU, vU, vU] [(.ref b5), (.ref b4), (.ref b4)])) _
    refine st8.trans ?_
    refine XS.astore X8.here hx rfl (hb hby at_79) rfl rfl (l' := #[vI p1, vI p2, vI p3, vI (t0_0 p1), vI (0 : Int32), vI (t0_2 p1), vI (0 : Int32), vA b4, vU, vU, vU, vU, vU, vU, vU, vU]) rfl ?_
    refine XS.iloadN X8.here hx rfl (hb hby at_81) rfl ?_
    refine XS.bipush X8.here hx rfl (hb hby at_82) ?_
    refine XS.iushr X8.here hx rfl (hb hby at_84) rfl ?_
    refine XS.sipush X8.here hx rfl (hb hby at_85) ?_
    refine XS.iand X8.here hx rfl (hb hby at_88) rfl ?_
    refine XS.i2c X8.here hx rfl (hb hby at_89) rfl ?_
    show Steps p.tables e below (T8.setTop (mkF m 90 #[vI p1, vI p2, vI p3, vI (t0_0 p1), vI (0 : Int32), vI (t0_2 p1), vI (0 : Int32), vA b4, vU, vU, vU, vU, vU, vU, vU, vU] [(.int (t0_7 p2))])) _
    refine st9 _ ?_
    refine XS.astore X9.here hx rfl (hb hby at_93) rfl rfl (l' := #[vI p1, vI p2, vI p3, vI (t0_0 p1), vI (0 : Int32), vI (t0_2 p1), vI (0 : Int32), vA b4, vA br_9, vU, vU, vU, vU, vU, vU, vU]) rfl ?_
    refine XS.iloadN X9.here hx rfl (hb hby at_95) rfl ?_
    show Steps p.tables e below (T9.setTop (mkF m 96 #[vI p1, vI p2, vI p3, vI (t0_0 p1), vI (0 : Int32), vI (t0_2 p1), vI (0 : Int32), vA b4, vA br_9, vU, vU, vU, vU, vU, vU, vU] [(.int p3)])) _
    refine st10.trans ?_
    refine XS.astore X10.here hx rfl (hb hby at_99) rfl rfl (l' := #[vI p1, vI p2, vI p3, vI (t0_0 p1), vI (0 : Int32), vI (t0_2 p1), vI (0 : Int32), vA b4, vA br_9, vA br_10, vU, vU, vU, vU, vU, vU]) rfl ?_
    refine XS.iloadN X10.here hx rfl (hb hby at_101) rfl ?_
    refine XS.bipush X10.here hx rfl (hb hby at_102) ?_
    refine XS.iushr X10.here hx rfl (hb hby at_104) rfl ?_
    show Steps p.tables e below (T10.setTop (mkF m 105 #[vI p1, vI p2, vI p3, vI (t0_0 p1), vI (0 : Int32), vI (t0_2 p1), vI (0 : Int32), vA b4, vA br_9, vA br_10, vU, vU, vU, vU, vU, vU] [(.int (t0_8 p3))])) _
    refine st11.trans ?_
    refine XS.astore X11.here hx rfl (hb hby at_108) rfl rfl (l' := #[vI p1, vI p2, vI p3, vI (t0_0 p1), vI (0 : Int32), vI (t0_2 p1), vI (0 : Int32), vA b4, vA br_9, vA br_10, vA br_11, vU, vU, vU, vU, vU]) rfl ?_
    refine XS.iload X11.here hx rfl (hb hby at_110) rfl ?_
    show Steps p.tables e below (T11.setTop (mkF m 112 #[vI p1, vI p2, vI p3, vI (t0_0 p1), vI (0 : Int32), vI (t0_2 p1), vI (0 : Int32), vA b4, vA br_9, vA br_10, vA br_11, vU, vU, vU, vU, vU] [(.int (0 : Int32))])) _
    refine XS.ifYes X11.here hx rfl (pc0 := 112) (pc' := 123) rfl (hb hby at_112) rfl ((if0 _ _).trans (teq (rfl : (0 : Int32) = (0 : Int32))).1) (by decide) (by decide) ?_
    show Steps p.tables e below (T11.setTop (mkF m 123 #[vI p1, vI p2, vI p3, vI (t0_0 p1), vI (0 : Int32), vI (t0_2 p1), vI (0 : Int32), vA b4, vA br_9, vA br_10, vA br_11, vU, vU, vU, vU, vU] [])) _
    refine st12 _ ?_
    refine XS.astore X12.here hx rfl (hb hby at_126) rfl rfl (l' := #[vI p1, vI p2, vI p3, vI (t0_0 p1), vI (0 : Int32), vI (t0_2 p1), vI (0 : Int32), vA b4, vA br_9, vA br_10, vA br_11, vA s_EMPTY, vU, vU, vU, vU]) rfl ?_
    refine XS.iload X12.here hx rfl (hb hby at_128) rfl ?_
    show Steps p.tables e below (T12.setTop (mkF m 130 #[vI p1, vI p2, vI p3, vI (t0_0 p1), vI (0 : Int32), vI (t0_2 p1), vI (0 : Int32), vA b4, vA br_9, vA br_10, vA br_11, vA s_EMPTY, vU, vU, vU, vU] [(.int (t0_2 p1))])) _
    refine XS.ifYes X12.here hx rfl (pc0 := 130) (pc' := 141) rfl (hb hby at_130) rfl ((if0 _ _).trans (feq hc130).2) (by decide) (by decide) ?_
    refine XS.iload X12.here hx rfl (hb hby at_141) rfl ?_
    refine XS.iconst X12.here hx rfl (hb hby at_143) ?_
    show Steps p.tables e below (T12.setTop (mkF m 144 #[vI p1, vI p2, vI p3, vI (t0_0 p1), vI (0 : Int32), vI (t0_2 p1), vI (0 : Int32), vA b4, vA br_9, vA br_10, vA br_11, vA s_EMPTY, vU, vU, vU, vU] [(.int (1 : Int32)), (.int (t0_2 p1))])) _
    refine XS.icmpNo X12.here hx rfl (hb hby at_144) rfl (teq hc144).2 ?_
    show Steps p.tables e below (T12.setTop (mkF m 147 #[vI p1, vI p2, vI p3, vI (t0_0 p1), vI (0 : Int32), vI (t0_2 p1), vI (0 : Int32), vA b4, vA br_9, vA br_10, vA br_11, vA s_EMPTY, vU, vU, vU, vU] [])) _
    refine st13 _ ?_
    show Steps p.tables e below (T13.setTop (mkF m 150 #[vI p1, vI p2, vI p3, vI (t0_0 p1), vI (0 : Int32), vI (t0_2 p1), vI (0 : Int32), vA b4, vA br_9, vA br_10, vA br_11, vA s_EMPTY, vU, vU, vU, vU] [(.ref s_ALWAYS)])) _
    refine st14 _ ?_
    refine XS.astore X14.here hx rfl (hb hby at_153) rfl rfl (l' := #[vI p1, vI p2, vI p3, vI (t0_0 p1), vI (0 : Int32), vI (t0_2 p1), vI (0 : Int32), vA b4, vA br_9, vA br_10, vA br_11, vA s_EMPTY, vA b2_14, vU, vU, vU]) rfl ?_
    show Steps p.tables e below (T14.setTop (mkF m 155 #[vI p1, vI p2, vI p3, vI (t0_0 p1), vI (0 : Int32), vI (t0_2 p1), vI (0 : Int32), vA b4, vA br_9, vA br_10, vA br_11, vA s_EMPTY, vA b2_14, vU, vU, vU] [])) _
    refine XS.goto X14.here hx rfl (pc0 := 155) (pc' := 166) rfl (hb hby at_155) (by decide) (by decide) ?_
    refine XS.iload X14.here hx rfl (hb hby at_166) rfl ?_
    show Steps p.tables e below (T14.setTop (mkF m 168 #[vI p1, vI p2, vI p3, vI (t0_0 p1), vI (0 : Int32), vI (t0_2 p1), vI (0 : Int32), vA b4, vA br_9, vA br_10, vA br_11, vA s_EMPTY, vA b2_14, vU, vU, vU] [(.int (0 : Int32))])) _
    refine XS.ifYes X14.here hx rfl (pc0 := 168) (pc' := 179) rfl (hb hby at_168) rfl ((if0 _ _).trans (teq (rfl : (0 : Int32) = (0 : Int32))).1) (by decide) (by decide) ?_
    show Steps p.tables e below (T14.setTop (mkF m 179 #[vI p1, vI p2, vI p3, vI (t0_0 p1), vI (0 : Int32), vI (t0_2 p1), vI (0 : Int32), vA b4, vA br_9, vA br_10, vA br_11, vA s_EMPTY, vA b2_14, vU, vU, vU] [])) _
    refine st15 _ ?_
    refine XS.astore X15.here hx rfl (hb hby at_182) rfl rfl (l' := #[vI p1, vI p2, vI p3, vI (t0_0 p1), vI (0 : Int32), vI (t0_2 p1), vI (0 : Int32), vA b4, vA br_9, vA br_10, vA br_11, vA s_EMPTY, vA b2_14, vA s_EMPTY, vU, vU]) rfl ?_
    show Steps p.tables e below (T15.setTop (mkF m 184 #[vI p1, vI p2, vI p3, vI (t0_0 p1), vI (0 : Int32), vI (t0_2 p1), vI (0 : Int32), vA b4, vA br_9, vA br_10, vA br_11, vA s_EMPTY, vA b2_14, vA s_EMPTY, vU, vU] [])) _
    refine st16 _ ?_
    refine XS.dup X16.here hx rfl (hb hby at_187) rfl rfl ?_
    refine XS.aload X16.here hx rfl (hb hby at_188) rfl rfl ?_
    refine XS.aload X16.here hx rfl (hb hby at_190) rfl rfl ?_
    refine XS.iloadN X16.here hx rfl (hb hby at_192) rfl ?_
    refine XS.aload X16.here hx rfl (hb hby at_193) rfl rfl ?_
    refine XS.aload X16.here hx rfl (hb hby at_195) rfl rfl ?_
    refine XS.aload X16.here hx rfl (hb hby at_197) rfl rfl ?_
    show Steps p.tables e below (T16.setTop (mkF m 199 #[vI p1, vI p2, vI p3, vI (t0_0 p1), vI (0 : Int32), vI (t0_2 p1), vI (0 : Int32), vA b4, vA br_9, vA br_10, vA br_11, vA s_EMPTY, vA b2_14, vA s_EMPTY, vU, vU] [(.ref s_EMPTY), (.ref b2_14), (.ref s_EMPTY), (.int (t0_0 p1)), (.ref br_9), (.ref b4), (.ref b16), (.ref b16)])) _
    refine st17.trans ?_
    refine XS.astore X17.here hx rfl (hb hby at_202) rfl rfl (l' := #[vI p1, vI p2, vI p3, vI (t0_0 p1), vI (0 : Int32), vI (t0_2 p1), vI (0 : Int32), vA b4, vA br_9, vA br_10, vA br_11, vA s_EMPTY, vA b2_14, vA s_EMPTY, vA b16, vU]) rfl ?_
    refine XS.iconst X17.here hx rfl (hb hby at_204) ?_
    refine XS.istore X17.here hx rfl (hb hby at_205) rfl (l' := #[vI p1, vI p2, vI p3, vI (t0_0 p1), vI (0 : Int32), vI (t0_2 p1), vI (0 : Int32), vA b4, vA br_9, vA br_10, vA br_11, vA s_EMPTY, vA b2_14, vA s_EMPTY, vA b16, vI (1 : Int32)]) rfl ?_
    refine XS.iloadN X17.here hx rfl (hb hby at_207) rfl ?_
    show Steps p.tables e below (T17.setTop (mkF m 208 #[vI p1, vI p2, vI p3, vI (t0_0 p1), vI (0 : Int32), vI (t0_2 p1), vI (0 : Int32), vA b4, vA br_9, vA br_10, vA br_11, vA s_EMPTY, vA b2_14, vA s_EMPTY, vA b16, vI (1 : Int32)] [(.int (t0_0 p1))])) _
    have J208 : ∀ target, Steps p.tables e below (T17.setTop (mkF m 214 #[vI p1, vI p2, vI p3, vI (t0_0 p1), vI (0 : Int32), vI (t0_2 p1), vI (0 : Int32), vA b4, vA br_9, vA br_10, vA br_11, vA s_EMPTY, vA b2_14, vA s_EMPTY, vA b16, vI (t0_9 p1)] [])) target → Steps p.tables e below (T17.setTop (mkF m 208 #[vI p1, vI p2, vI p3, vI (t0_0 p1), vI (0 : Int32), vI (t0_2 p1), vI (0 : Int32), vA b4, vA br_9, vA br_10, vA br_11, vA s_EMPTY, vA b2_14, vA s_EMPTY, vA b16, vI (1 : Int32)] [(.int (t0_0 p1))])) target := by
      intro target kt
      by_cases hm208 : (t0_0 p1) = (0 : Int32)
      · skip
        show Steps p.tables e below (T17.setTop (mkF m 208 #[vI p1, vI p2, vI p3, vI (t0_0 p1), vI (0 : Int32), vI (t0_2 p1), vI (0 : Int32), vA b4, vA br_9, vA br_10, vA br_11, vA s_EMPTY, vA b2_14, vA s_EMPTY, vA b16, vI (1 : Int32)] [(.int (t0_0 p1))])) _
        refine XS.ifYes X17.here hx rfl (pc0 := 208) (pc' := 214) rfl (hb hby at_208) rfl ((if0 _ _).trans (teq hm208).1) (by decide) (by decide) ?_
        rw [show (t0_9 p1) = (1 : Int32) from if_pos hm208] at kt
        exact kt
      · skip
        show Steps p.tables e below (T17.setTop (mkF m 208 #[vI p1, vI p2, vI p3, vI (t0_0 p1), vI (0 : Int32), vI (t0_2 p1), vI (0 : Int32), vA b4, vA br_9, vA br_10, vA br_11, vA s_EMPTY, vA b2_14, vA s_EMPTY, vA b16, vI (1 : Int32)] [(.int (t0_0 p1))])) _
        refine XS.ifNo X17.here hx rfl (hb hby at_208) rfl ((if0 _ _).trans (feq hm208).1) ?_
        refine XS.iconst X17.here hx rfl (hb hby at_211) ?_
        refine XS.istore X17.here hx rfl (hb hby at_212) rfl (l' := #[vI p1, vI p2, vI p3, vI (t0_0 p1), vI (0 : Int32), vI (t0_2 p1), vI (0 : Int32), vA b4, vA br_9, vA br_10, vA br_11, vA s_EMPTY, vA b2_14, vA s_EMPTY, vA b16, vI (0 : Int32)]) rfl ?_
        rw [show (t0_9 p1) = (0 : Int32) from if_neg hm208] at kt
        exact kt
    refine J208 _ ?_
    refine XS.iload X17.here hx rfl (hb hby at_214) rfl ?_
    show Steps p.tables e below (T17.setTop (mkF m 216 #[vI p1, vI p2, vI p3, vI (t0_0 p1), vI (0 : Int32), vI (t0_2 p1), vI (0 : Int32), vA b4, vA br_9, vA br_10, vA br_11, vA s_EMPTY, vA b2_14, vA s_EMPTY, vA b16, vI (t0_9 p1)] [(.int (0 : Int32))])) _
    refine XS.ifYes X17.here hx rfl (pc0 := 216) (pc' := 222) rfl (hb hby at_216) rfl ((if0 _ _).trans (teq (rfl : (0 : Int32) = (0 : Int32))).1) (by decide) (by decide) ?_
    refine XS.iload X17.here hx rfl (hb hby at_222) rfl ?_
    show Steps p.tables e below (T17.setTop (mkF m 224 #[vI p1, vI p2, vI p3, vI (t0_0 p1), vI (0 : Int32), vI (t0_2 p1), vI (0 : Int32), vA b4, vA br_9, vA br_10, vA br_11, vA s_EMPTY, vA b2_14, vA s_EMPTY, vA b16, vI (t0_9 p1)] [(.int (t0_2 p1))])) _
    refine XS.ifNo X17.here hx rfl (hb hby at_224) rfl ((if0 _ _).trans (feq hc130).1) ?_
    refine XS.iconst X17.here hx rfl (hb hby at_227) ?_
    refine XS.istore X17.here hx rfl (hb hby at_228) rfl (l' := #[vI p1, vI p2, vI p3, vI (t0_0 p1), vI (0 : Int32), vI (t0_2 p1), vI (0 : Int32), vA b4, vA br_9, vA br_10, vA br_11, vA s_EMPTY, vA b2_14, vA s_EMPTY, vA b16, vI (0 : Int32)]) rfl ?_
    refine XS.iload X17.here hx rfl (hb hby at_230) rfl ?_
    show Steps p.tables e below (T17.setTop (mkF m 232 #[vI p1, vI p2, vI p3, vI (t0_0 p1), vI (0 : Int32), vI (t0_2 p1), vI (0 : Int32), vA b4, vA br_9, vA br_10, vA br_11, vA s_EMPTY, vA b2_14, vA s_EMPTY, vA b16, vI (0 : Int32)] [(.int (0 : Int32))])) _
    refine XS.ifYes X17.here hx rfl (pc0 := 232) (pc' := 238) rfl (hb hby at_232) rfl ((if0 _ _).trans (teq (rfl : (0 : Int32) = (0 : Int32))).1) (by decide) (by decide) ?_
    refine XS.aload X17.here hx rfl (hb hby at_238) rfl rfl ?_
    show Steps p.tables e below (T17.setTop (mkF m 240 #[vI p1, vI p2, vI p3, vI (t0_0 p1), vI (0 : Int32), vI (t0_2 p1), vI (0 : Int32), vA b4, vA br_9, vA br_10, vA br_11, vA s_EMPTY, vA b2_14, vA s_EMPTY, vA b16, vI (0 : Int32)] [(.ref b16)])) _
    refine st18.trans ?_
    refine XS.iload X18.here hx rfl (hb hby at_243) rfl ?_
    show Steps p.tables e below (T18.setTop (mkF m 245 #[vI p1, vI p2, vI p3, vI (t0_0 p1), vI (0 : Int32), vI (t0_2 p1), vI (0 : Int32), vA b4, vA br_9, vA br_10, vA br_11, vA s_EMPTY, vA b2_14, vA s_EMPTY, vA b16, vI (0 : Int32)] [(.int (0 : Int32)), (.int (0 : Int32))])) _
    refine XS.icmpNo X18.here hx rfl (hb hby at_245) rfl (teq (rfl : (0 : Int32) = (0 : Int32))).2 ?_
    refine XS.iconst X18.here hx rfl (hb hby at_248) ?_
    show Steps p.tables e below (T18.setTop (mkF m 249 #[vI p1, vI p2, vI p3, vI (t0_0 p1), vI (0 : Int32), vI (t0_2 p1), vI (0 : Int32), vA b4, vA br_9, vA br_10, vA br_11, vA s_EMPTY, vA b2_14, vA s_EMPTY, vA b16, vI (0 : Int32)] [(.int (1 : Int32))])) _
    refine XS.goto X18.here hx rfl (pc0 := 249) (pc' := 253) rfl (hb hby at_249) (by decide) (by decide) ?_
    show Steps p.tables e below (T18.setTop (mkF m 253 #[vI p1, vI p2, vI p3, vI (t0_0 p1), vI (0 : Int32), vI (t0_2 p1), vI (0 : Int32), vA b4, vA br_9, vA br_10, vA br_11, vA s_EMPTY, vA b2_14, vA s_EMPTY, vA b16, vI (0 : Int32)] [(.int (1 : Int32))])) _
    exact retN X18 hx (t := .boolean) Bd.returns (by simp) (hb hby at_253) hr
  · show Q_rm0 Z p1 p2 p3 s_COMPACT_STRINGS s_EMPTY s_ALWAYS s_BY_DEFAULT h0 n0 _ T18.heap _
    exact ⟨rfl, N18⟩
set_option maxRecDepth 65536 in
set_option maxHeartbeats 40000000 in
theorem rm0_tttt (l : Launch) (Z : State) (a0 : Array Value) (hw : ∀ d ∈ tables_1, d.before a0 Z = true) (ws : List Jvm.Cond) (p1 : Int32) (p2 : Int32) (p3 : Int32) (s_COMPACT_STRINGS : Int32) (s_EMPTY : Addr) (s_ALWAYS : Addr) (s_BY_DEFAULT : Addr) (h0 : Heap) (n0 : Nat) (Z0 : n0 ≤ h0.size) (hcs : ¬ (s_COMPACT_STRINGS = (0 : Int32))) (S_COMPACT_STRINGS : Sta Z h0 "java/lang/String" "COMPACT_STRINGS" "Z" (.int s_COMPACT_STRINGS)) (S_EMPTY : Sta Z h0 "java/util/Optional" "EMPTY" "Ljava/util/Optional;" (.ref s_EMPTY)) (S_ALWAYS : Sta Z h0 "underdeck/deck/Column$Identity" "ALWAYS" "Lunderdeck/deck/Column$Identity;" (.ref s_ALWAYS)) (S_BY_DEFAULT : Sta Z h0 "underdeck/deck/Column$Identity" "BY_DEFAULT" "Lunderdeck/deck/Column$Identity;" (.ref s_BY_DEFAULT)) (F_value_s_EMPTY : Fld Z h0 s_EMPTY "java/util/Optional" "value" "Ljava/lang/Object;" .null) (E_s_EMPTY : Exa Z h0 s_EMPTY "java/util/Optional") (hc15 : (p1 &&& (2 : Int32)) = (0 : Int32)) (hc38 : (p1 &&& (16 : Int32)) = (0 : Int32)) (hc130 : ¬ ((t0_2 p1) = (0 : Int32))) (hc144 : ¬ ((t0_2 p1) = (1 : Int32))) :
    MetFree l x (head1 (Jvm.Cond.code x code maxLocals ret :: ws) room_1) (fun a U => a = #[(.int p1), (.int p2), (.int p3)] ∧ Z.Warmed39 U.vm ∧ U.heap = h0) (fun _ _ _ _ _ => True) (fun _ U o U' => ∃ v L, o = .returned v ∧ Q_rm0 Z p1 p2 p3 s_COMPACT_STRINGS s_EMPTY s_ALWAYS s_BY_DEFAULT h0 n0 v U'.heap L ∧ ReturnedEndW U o U' L room_1.cells room_1.slots) := by
  have hi : ∀ (i : Nat) {d : Jvm.Cond}, tables_1[i]? = some d → d.before a0 Z = true := fun i d h => hw d (List.mem_of_getElem? h)
  refine MetFree.of_bodySF (plainFor_of_name pn_0) hisR ?_
  intro p e s m args below meth c s₁ Bd hml0 hP hK
  obtain ⟨rfl, hZ, hh⟩ := hP
  have hx := Bd.exec
  have hby := Bd.bytes
  have hml : c.maxLocals = 16 := hml0
  have hown : s.vm.findClass "underdeck/deck/ColumnRequiredPinLaw" = some m.cls := findClass_of_methodNamed Bd.named
  have hnm := (name_of_methodNamed Bd.named Bd.method).1
  have X0 : Stand p l e room_1 (s.setVm s.vm) m #[(.int p1), (.int p2), (.int p3)] below meth c s₁ [] 0 0 := Stand.of_body Bd
  have e0 : s₁.heap = h0 := by rw [← hh, Bd.state]; rfl
  have N0 := Fr.nil n0
  have pre0 : ∀ t, Steps p.tables e below (s₁.setTop (mkF m 0 #[vI p1, vI p2, vI p3, vU, vU, vU, vU, vU, vU, vU, vU, vU, vU, vU, vU, vU] [])) t → Steps p.tables e below (s₁.setTop (entryFrame m #[(.int p1), (.int p2), (.int p3)] maxLocals)) t := fun t k => castTop (ef_0 m p1 p2 p3) k
  have hS0 : s.Since s.vm h0.size := (State.WarmedH.refl s).since _
  obtain ⟨T4, h4, X4, e4, E4, A4, D4, -, st4⟩ := newO X0 hx hZ hown (hi 0 rfl) (hi 1 rfl) (hi 2 rfl) e0 (g := (mkF m 48 #[vI p1, vI p2, vI p3, vI (t0_0 p1), vI (0 : Int32), vI (t0_2 p1), vI (0 : Int32), vU, vU, vU, vU, vU, vU, vU, vU, vU] [])) rfl (hb hby at_48) (by decide) (by decide)
  obtain ⟨b4, g4⟩ : ∃ z, z = h0.size := ⟨_, rfl⟩
  rw [← g4] at A4 D4 st4
  have g_b4 : n0 ≤ b4 := Nat.le_trans Z0 (Nat.le_of_eq g4.symm)
  have sz_b4 : h0.size ≤ b4 := Nat.le_trans (Nat.le_refl h0.size) (Nat.le_of_eq g4.symm)
  have F_coder_b4 : Fld Z h4 b4 "java/lang/String" "coder" "B" (.int (0 : Int32)) := D4 (Or.inr (hi 27 rfl)) (ty := .byte) (by decide)
  have F_value_b4 : Fld Z h4 b4 "java/lang/String" "value" "[B" .null := D4 (Or.inr (hi 29 rfl)) (ty := (.array .byte)) (by decide)
  have f0 := (F_value_s_EMPTY.ext E4)
  obtain ⟨T5, h5, k5, X5, e5, E5, A5, st5⟩ := newP X4 hx hZ (hi 3 rfl) e4 (g := (mkF m 53 #[vI p1, vI p2, vI p3, vI (t0_0 p1), vI (0 : Int32), vI (t0_2 p1), vI (0 : Int32), vU, vU, vU, vU, vU, vU, vU, vU, vU] [(.int (2 : Int32)), (.ref b4), (.ref b4)])) rfl (hb hby at_53) rfl (by decide) (cap := 2) (by decide) (by decide) (by decide) (by decide)
  obtain ⟨b5, g5⟩ : ∃ z, z = h4.size := ⟨_, rfl⟩
  rw [← g5] at A5 st5
  have g_b5 : n0 ≤ b5 := Nat.le_trans (Nat.le_trans Z0 E4.1) (Nat.le_of_eq g5.symm)
  have sz_b5 : h0.size ≤ b5 := Nat.le_trans (Nat.le_trans (Nat.le_refl h0.size) E4.1) (Nat.le_of_eq g5.symm)
  have V_b5 : Arv Z h5 b5 k5 .char (2 : Int32) [(.int (0 : Int32)), (.int (0 : Int32))] (.int (0 : Int32)) := (Arv.new A5 (by decide)).pad (pad_rep [] (.int (0 : Int32)) 2)
  obtain ⟨cl_b5_1, Ar_b5_1, q_b5_1, Sz_b5_1, Ng_b5_1, Ha_b5_1, Gt_b5_1⟩ := id V_b5
  have hin_b5_1 : ¬ ((0 : Int32) < 0 ∨ cl_b5_1.slots.size ≤ ((0 : Int32)).toNatClampNeg) := inb_of Sz_b5_1 ⟨by decide, by decide⟩
  obtain ⟨T6, h6, X6, e6, W6, st6⟩ := stC X5 hx hZ e5 Ar_b5_1 (j := (0 : Int32)) hin_b5_1 (g := (mkF m 63 #[vI p1, vI p2, vI p3, vI (t0_0 p1), vI (0 : Int32), vI (t0_2 p1), vI (0 : Int32), vU, vU, vU, vU, vU, vU, vU, vU, vU] [(.int (t0_3 p2)), (.int (0 : Int32)), (.ref b5), (.ref b5), (.ref b4), (.ref b4)])) rfl rfl (hb hby at_63)
  have V6 : Arv Z h6 b5 k5 .char (2 : Int32) [(.int (nar .char (t0_3 p2))), (.int (0 : Int32))] (.int (0 : Int32)) := Arv.set Ar_b5_1 q_b5_1 Sz_b5_1 Ng_b5_1 Ha_b5_1 Gt_b5_1 (fits_nar_char _) W6 0 rfl (Nat.le_of_ble_eq_true rfl)
  have N6 := Fr.snoc X6 N0 g_b5
  obtain ⟨cl_b5_2, Ar_b5_2, q_b5_2, Sz_b5_2, Ng_b5_2, Ha_b5_2, Gt_b5_2⟩ := id V6
  have hin_b5_2 : ¬ ((1 : Int32) < 0 ∨ cl_b5_2.slots.size ≤ ((1 : Int32)).toNatClampNeg) := inb_of Sz_b5_2 ⟨by decide, by decide⟩
  obtain ⟨T7, h7, X7, e7, W7, st7⟩ := stC X6 hx hZ e6 Ar_b5_2 (j := (1 : Int32)) hin_b5_2 (g := (mkF m 75 #[vI p1, vI p2, vI p3, vI (t0_0 p1), vI (0 : Int32), vI (t0_2 p1), vI (0 : Int32), vU, vU, vU, vU, vU, vU, vU, vU, vU] [(.int (t0_5 p2)), (.int (1 : Int32)), (.ref b5), (.ref b5), (.ref b4), (.ref b4)])) rfl rfl (hb hby at_75)
  have V7 : Arv Z h7 b5 k5 .char (2 : Int32) [(.int (nar .char (t0_3 p2))), (.int (nar .char (t0_5 p2)))] (.int (0 : Int32)) := Arv.set Ar_b5_2 q_b5_2 Sz_b5_2 Ng_b5_2 Ha_b5_2 Gt_b5_2 (fits_nar_char _) W7 1 rfl (Nat.le_of_ble_eq_true rfl)
  have N7 := Fr.snoc X7 N6 g_b5
  have f3 := ((((S_COMPACT_STRINGS.ext E4).ext E5).wr W6).wr W7)
  have f4 := (((F_coder_b4.ext E5).other W6 (Or.inl (Nat.ne_of_lt (Nat.lt_of_lt_of_le A4.lt (Nat.le_of_eq g5.symm))))).other W7 (Or.inl (Nat.ne_of_lt (Nat.lt_of_lt_of_le A4.lt (Nat.le_of_eq g5.symm)))))
  have f5 := (((F_value_b4.ext E5).other W6 (Or.inl (Nat.ne_of_lt (Nat.lt_of_lt_of_le A4.lt (Nat.le_of_eq g5.symm))))).other W7 (Or.inl (Nat.ne_of_lt (Nat.lt_of_lt_of_le A4.lt (Nat.le_of_eq g5.symm)))))
  have f6 := (((A4.ext E5).wr W6).wr W7)
  obtain ⟨_, _, ⟨T8, L8, k8, n8⟩, -, X8, ⟨Lc8, hQ8, l8, y8, z8⟩, st8⟩ := X7.specialBack hx (y := (⟨"java/lang/String", "<init>", "([C)V"⟩ : MethodName)) rfl hown (mvT hZ (hi 4 rfl)) (mvT hZ (hi 5 rfl)) (mvT hZ (hi 6 rfl)) (by decide) (backOf (W := 1) (rm1 l Z a0 hw [] b4 b5 s_COMPACT_STRINGS (0 : Int32) .null k5 (nar .char (t0_3 p2)) (nar .char (t0_5 p2)) h7 n0 (Nat.le_trans (Nat.le_trans (Nat.le_trans (Nat.le_trans Z0 E4.1) E5.1) (Keep.of_wr W6).1) (Keep.of_wr W7).1) f3 f4 f5 f6 g_b4 V7 hcs (own_le255 _ (own_cc _ (own_cc _ (own_m255 _)))) (own_le255 _ (own_cc _ (own_cc _ (own_m255 _))))) hZ (hi 6 rfl) (hi 2 rfl) (by decide) (by decide)) (g := (mkF m 76 #[vI p1, vI p2, vI p3, vI (t0_0 p1), vI (0 : Int32), vI (t0_2 p1), vI (0 : Int32), vU, vU, vU, vU, vU, vU, vU, vU, vU] [(.ref b5), (.ref b4), (.ref b4)])) rfl (by rw [hml]; rfl) (Steps.refl _) (a := b4) (argsL := [(.ref b5)]) (rest := [(.ref b4)]) (lenOf pd__28_5bC_29V rfl) rfl (by show 2 * 0 + _ ≤ _; exact Nat.le_of_eq rfl) (hb hby at_76) (fun _ _ => ⟨rfl, e7, (by decide : 2 + 1 ≤ _), (by decide : 6 + 2 ≤ _)⟩)
  dsimp only [Pt.U, Pt.locs, Pt.cells, Pt.slots] at X8 l8 y8 z8 st8 hQ8
  subst l8 y8 z8
  obtain ⟨rfl, N8q, K8, i8_0, i8_1⟩ := hQ8
  have N8 := Fr.app N7 N8q
  have f7 := (own_sta_keep f3 K8 (own_qc (own_nst f6) own_q0))
  obtain ⟨_, _, ⟨T9, L9, k9, n9⟩, -, X9, ⟨Lc9, hQ9, l9, y9, z9⟩, st9⟩ := Jvm.LawKit.callS X8 hx (y := (⟨"java/lang/String", "valueOf", "(C)Ljava/lang/String;"⟩ : MethodName)) hown (mvT hZ (hi 30 rfl)) (mvT hZ (hi 31 rfl)) (mvT hZ (hi 2 rfl)) (mvT hZ (hi 32 rfl)) (by decide) (backOf (W := 0) (rm7 l Z a0 hw [] (t0_7 p2) s_COMPACT_STRINGS T8.heap n0 (Nat.le_trans (Nat.le_trans (Nat.le_trans (Nat.le_trans (Nat.le_trans Z0 E4.1) E5.1) (Keep.of_wr W6).1) (Keep.of_wr W7).1) K8.1) f7 hcs (own_F8 _ (own_cc _ (own_m255 _)))) hZ (hi 32 rfl) (hi 2 rfl) (by decide) (by decide)) (g := (mkF m 90 #[vI p1, vI p2, vI p3, vI (t0_0 p1), vI (0 : Int32), vI (t0_2 p1), vI (0 : Int32), vA b4, vU, vU, vU, vU, vU, vU, vU, vU] [(.int (t0_7 p2))])) rfl (by rw [hml]; rfl) (argsL := [(.int (t0_7 p2))]) (rest := []) (lenOf pd__28C_29Ljava_2flang_2fString_3b rfl) rfl (by show 2 * 0 + _ ≤ _; exact Nat.le_of_eq rfl) (hb hby at_90) (fun _ _ => ⟨rfl, rfl, (by decide : 3 + 2 ≤ _), (by decide : 8 + 5 ≤ _)⟩)
  dsimp only [Pt.U, Pt.locs, Pt.cells, Pt.slots] at X9 l9 y9 z9 st9 hQ9
  subst l9 y9 z9
  obtain ⟨br_9, ⟨rfl, N9q, K9⟩⟩ := hQ9
  have N9 := Fr.app N8 N9q
  have f8 := ((((f0.ext E5).other W6 (Or.inl (Nat.ne_of_lt (Nat.lt_of_lt_of_le f0.lt (Nat.le_of_eq g5.symm))))).other W7 (Or.inl (Nat.ne_of_lt (Nat.lt_of_lt_of_le f0.lt (Nat.le_of_eq g5.symm))))).keep K8 (own_nm (Nat.ne_of_lt (Nat.lt_of_lt_of_le F_value_s_EMPTY.lt (Nat.le_of_eq g4.symm))) own_n0))
  have f9 := (V7.keep K8 (own_nm (Ne.symm (Nat.ne_of_lt (Nat.lt_of_lt_of_le A4.lt (Nat.le_of_eq g5.symm)))) own_n0))
  have f10 := (own_sta_keep f7 K9 own_q0)
  obtain ⟨_, _, ⟨T10, L10, k10, n10⟩, -, X10w, hS10w, hg10, ⟨Lc10, hQ10, l10, y10, z10⟩, st10⟩ := Jvm.RoadKit.callSS X9 hx (y := (⟨"underdeck/deck/ColumnRequiredPinLaw", "drawn", "(I)Ljava/lang/String;"⟩ : MethodName)) hown (mvT hZ (hi 44 rfl)) (mvT hZ (hi 45 rfl)) (mvT hZ (hi 46 rfl)) (mvT hZ (hi 47 rfl)) (by decide) (backOfS (W := 0) (rm11 l Z a0 hw [] p3 s_COMPACT_STRINGS T9.heap n0 (Nat.le_trans (Nat.le_trans (Nat.le_trans (Nat.le_trans (Nat.le_trans (Nat.le_trans Z0 E4.1) E5.1) (Keep.of_wr W6).1) (Keep.of_wr W7).1) K8.1) K9.1) f10 hcs) hZ (hi 47 rfl) (hi 46 rfl) (by decide) (by decide)) (g := (mkF m 96 #[vI p1, vI p2, vI p3, vI (t0_0 p1), vI (0 : Int32), vI (t0_2 p1), vI (0 : Int32), vA b4, vA br_9, vU, vU, vU, vU, vU, vU, vU] [(.int p3)])) rfl (by rw [hml]; rfl) (argsL := [(.int p3)]) (rest := []) (lenOf pd__28I_29Ljava_2flang_2fString_3b rfl) rfl (by show 2 * 0 + _ ≤ _; exact Nat.le_of_eq rfl) (hb hby at_96) (fun _ _ => ⟨rfl, rfl, (by decide : 5 + 2 ≤ _), (by decide : 13 + 5 ≤ _)⟩)
  dsimp only [Pt.U, Pt.locs, Pt.cells, Pt.slots] at X10w hS10w hg10 l10 y10 z10 st10 hQ10
  subst l10 y10 z10
  obtain ⟨X10, hS10, hZ10, hown10⟩ := rebS hS0 (show _ ≤ T9.heap.size from by exact (Nat.le_trans (Nat.le_trans (Nat.le_trans (Nat.le_trans (Nat.le_trans (Nat.le_trans (Nat.le_refl h0.size) E4.1) E5.1) (Keep.of_wr W6).1) (Keep.of_wr W7).1) K8.1) K9.1)) X10w hS10w hg10 hZ hown
  obtain ⟨br_10, ⟨rfl, N10q, K10⟩⟩ := hQ10
  have N10 := Fr.app N9 N10q
  have f11 := (f8.keep K9 own_n0)
  have f12 := (i8_0.keep K9)
  have f13 := (f9.keep K9 own_n0)
  have f14 := (own_sta_keep f10 K10 own_q0)
  obtain ⟨_, _, ⟨T11, L11, k11, n11⟩, -, X11w, hS11w, hg11, ⟨Lc11, hQ11, l11, y11, z11⟩, st11⟩ := Jvm.RoadKit.callSS X10 hx (y := (⟨"underdeck/deck/ColumnRequiredPinLaw", "drawn", "(I)Ljava/lang/String;"⟩ : MethodName)) hown10 (mvT hZ10 (hi 44 rfl)) (mvT hZ10 (hi 45 rfl)) (mvT hZ10 (hi 46 rfl)) (mvT hZ10 (hi 47 rfl)) (by decide) (backOfS (W := 0) (rm11 l Z a0 hw [] (t0_8 p3) s_COMPACT_STRINGS T10.heap n0 (Nat.le_trans (Nat.le_trans (Nat.le_trans (Nat.le_trans (Nat.le_trans (Nat.le_trans (Nat.le_trans Z0 E4.1) E5.1) (Keep.of_wr W6).1) (Keep.of_wr W7).1) K8.1) K9.1) K10.1) f14 hcs) hZ10 (hi 47 rfl) (hi 46 rfl) (by decide) (by decide)) (g := (mkF m 105 #[vI p1, vI p2, vI p3, vI (t0_0 p1), vI (0 : Int32), vI (t0_2 p1), vI (0 : Int32), vA b4, vA br_9, vA br_10, vU, vU, vU, vU, vU, vU] [(.int (t0_8 p3))])) rfl (by rw [hml]; rfl) (argsL := [(.int (t0_8 p3))]) (rest := []) (lenOf pd__28I_29Ljava_2flang_2fString_3b rfl) rfl (by show 2 * 0 + _ ≤ _; exact Nat.le_of_eq rfl) (hb hby at_105) (fun _ _ => ⟨rfl, rfl, (by decide : 7 + 2 ≤ _), (by decide : 18 + 5 ≤ _)⟩)
  dsimp only [Pt.U, Pt.locs, Pt.cells, Pt.slots] at X11w hS11w hg11 l11 y11 z11 st11 hQ11
  subst l11 y11 z11
  obtain ⟨X11, hS11, hZ11, hown11⟩ := rebS hS10 (show _ ≤ T10.heap.size from by exact (Nat.le_refl _)) X11w hS11w hg11 hZ10 hown10
  obtain ⟨br_11, ⟨rfl, N11q, K11⟩⟩ := hQ11
  have N11 := Fr.app N10 N11q
  have f15 := (f11.keep K10 own_n0)
  have f16 := (f12.keep K10)
  have f17 := (f13.keep K10 own_n0)
  have f18 := (own_sta_keep (own_sta_keep (own_sta_keep (own_sta_keep ((((S_EMPTY.ext E4).ext E5).wr W6).wr W7) K8 (own_qc (own_nst f6) own_q0)) K9 own_q0) K10 own_q0) K11 own_q0)
  obtain ⟨_, _, ⟨T12, L12, k12, n12⟩, -, X12, ⟨Lc12, hQ12, l12, y12, z12⟩, st12⟩ := Jvm.LawKit.callS X11 hx (y := (⟨"java/util/Optional", "empty", "()Ljava/util/Optional;"⟩ : MethodName)) hown11 (mvT hZ11 (hi 51 rfl)) (mvT hZ11 (hi 52 rfl)) (mvT hZ11 (hi 53 rfl)) (mvT hZ11 (hi 54 rfl)) (by decide) (backOf (W := 0) (rm12 l Z a0 hw [] s_EMPTY T11.heap n0 (Nat.le_trans (Nat.le_trans (Nat.le_trans (Nat.le_trans (Nat.le_trans (Nat.le_trans (Nat.le_trans (Nat.le_trans Z0 E4.1) E5.1) (Keep.of_wr W6).1) (Keep.of_wr W7).1) K8.1) K9.1) K10.1) K11.1) f18) hZ11 (hi 54 rfl) (hi 53 rfl) (by decide) (by decide)) (g := (mkF m 123 #[vI p1, vI p2, vI p3, vI (t0_0 p1), vI (0 : Int32), vI (t0_2 p1), vI (0 : Int32), vA b4, vA br_9, vA br_10, vA br_11, vU, vU, vU, vU, vU] [])) rfl (by rw [hml]; rfl) (argsL := []) (rest := []) (lenOf pd__28_29Ljava_2futil_2fOptional_3b rfl) rfl (by show 2 * 0 + _ ≤ _; exact Nat.le_of_eq rfl) (hb hby at_123) (fun _ _ => ⟨rfl, rfl, (by decide : 9 + 0 ≤ _), (by decide : 23 + 0 ≤ _)⟩)
  dsimp only [Pt.U, Pt.locs, Pt.cells, Pt.slots] at X12 l12 y12 z12 st12 hQ12
  subst l12 y12 z12
  obtain ⟨rfl, N12q, e12⟩ := hQ12
  have N12 := Fr.app N11 N12q
  have f19 := (own_sta_keep (own_sta_keep (own_sta_keep (own_sta_keep ((((S_BY_DEFAULT.ext E4).ext E5).wr W6).wr W7) K8 (own_qc (own_nst f6) own_q0)) K9 own_q0) K10 own_q0) K11 own_q0)
  obtain ⟨T13, X13, e13, st13⟩ := getS2 X12 hx hZ11 hown11 (host := "") (Or.inl (hi 117 rfl)) Via.refl e12 f19 (g := (mkF m 158 #[vI p1, vI p2, vI p3, vI (t0_0 p1), vI (0 : Int32), vI (t0_2 p1), vI (0 : Int32), vA b4, vA br_9, vA br_10, vA br_11, vA s_EMPTY, vU, vU, vU, vU] [])) rfl (hb hby at_158)
  obtain ⟨_, _, ⟨T14, L14, k14, n14⟩, -, X14, ⟨Lc14, hQ14, l14, y14, z14⟩, st14⟩ := Jvm.LawKit.callS X13 hx (y := (⟨"java/util/Optional", "of", "(Ljava/lang/Object;)Ljava/util/Optional;"⟩ : MethodName)) hown11 (mvT hZ11 (hi 104 rfl)) (mvT hZ11 (hi 105 rfl)) (mvT hZ11 (hi 53 rfl)) (mvT hZ11 (hi 106 rfl)) (by decide) (backOf (W := 0) (rm18 l Z a0 hw [] s_BY_DEFAULT T11.heap n0 (Nat.le_trans (Nat.le_trans (Nat.le_trans (Nat.le_trans (Nat.le_trans (Nat.le_trans (Nat.le_trans (Nat.le_trans Z0 E4.1) E5.1) (Keep.of_wr W6).1) (Keep.of_wr W7).1) K8.1) K9.1) K10.1) K11.1) ) hZ11 (hi 106 rfl) (hi 53 rfl) (by decide) (by decide)) (g := (mkF m 161 #[vI p1, vI p2, vI p3, vI (t0_0 p1), vI (0 : Int32), vI (t0_2 p1), vI (0 : Int32), vA b4, vA br_9, vA br_10, vA br_11, vA s_EMPTY, vU, vU, vU, vU] [(.ref s_BY_DEFAULT)])) rfl (by rw [hml]; rfl) (argsL := [(.ref s_BY_DEFAULT)]) (rest := []) (lenOf pd__28Ljava_2flang_2fObject_3b_29Ljava_2futil_2fOptional_3b rfl) rfl (by show 2 * 0 + _ ≤ _; exact Nat.le_of_eq rfl) (hb hby at_161) (fun _ _ => ⟨rfl, e13, (by decide : 9 + 1 ≤ _), (by decide : 23 + 1 ≤ _)⟩)
  dsimp only [Pt.U, Pt.locs, Pt.cells, Pt.slots] at X14 l14 y14 z14 st14 hQ14
  subst l14 y14 z14
  obtain ⟨b2_14, ⟨rfl, N14q, K14, i14_0, i14_1, i14_2⟩⟩ := hQ14
  have N14 := Fr.app N12 N14q
  have f20 := (f15.keep K11 own_n0)
  have f21 := (f16.keep K11)
  have f22 := (f17.keep K11 own_n0)
  have sz_b2_14 : h0.size ≤ b2_14 := Nat.le_trans (Nat.le_trans (Nat.le_trans (Nat.le_trans (Nat.le_trans (Nat.le_trans (Nat.le_trans (Nat.le_trans (Nat.le_trans (Nat.le_refl h0.size) E4.1) E5.1) (Keep.of_wr W6).1) (Keep.of_wr W7).1) K8.1) K9.1) K10.1) K11.1) i14_0
  have g_b2_14 : n0 ≤ b2_14 := Nat.le_trans Z0 sz_b2_14
  have f23 := (own_sta_keep f18 K14 own_q0)
  obtain ⟨_, _, ⟨T15, L15, k15, n15⟩, -, X15, ⟨Lc15, hQ15, l15, y15, z15⟩, st15⟩ := Jvm.LawKit.callS X14 hx (y := (⟨"java/util/Optional", "empty", "()Ljava/util/Optional;"⟩ : MethodName)) hown11 (mvT hZ11 (hi 51 rfl)) (mvT hZ11 (hi 52 rfl)) (mvT hZ11 (hi 53 rfl)) (mvT hZ11 (hi 54 rfl)) (by decide) (backOf (W := 0) (rm12 l Z a0 hw [] s_EMPTY T14.heap n0 (Nat.le_trans (Nat.le_trans (Nat.le_trans (Nat.le_trans (Nat.le_trans (Nat.le_trans (Nat.le_trans (Nat.le_trans (Nat.le_trans Z0 E4.1) E5.1) (Keep.of_wr W6).1) (Keep.of_wr W7).1) K8.1) K9.1) K10.1) K11.1) K14.1) f23) hZ11 (hi 54 rfl) (hi 53 rfl) (by decide) (by decide)) (g := (mkF m 179 #[vI p1, vI p2, vI p3, vI (t0_0 p1), vI (0 : Int32), vI (t0_2 p1), vI (0 : Int32), vA b4, vA br_9, vA br_10, vA br_11, vA s_EMPTY, vA b2_14, vU, vU, vU] [])) rfl (by rw [hml]; rfl) (argsL := []) (rest := []) (lenOf pd__28_29Ljava_2futil_2fOptional_3b rfl) rfl (by show 2 * 0 + _ ≤ _; exact Nat.le_of_eq rfl) (hb hby at_179) (fun _ _ => ⟨rfl, rfl, (by decide : 10 + 0 ≤ _), (by decide : 24 + 0 ≤ _)⟩)
  dsimp only [Pt.U, Pt.locs, Pt.cells, Pt.slots] at X15 l15 y15 z15 st15 hQ15
  subst l15 y15 z15
  obtain ⟨rfl, N15q, e15⟩ := hQ15
  have N15 := Fr.app N14 N15q
  have f24 := (f20.keep K14 own_n0)
  have f25 := (f21.keep K14)
  have f26 := (f22.keep K14 own_n0)
  obtain ⟨T16, h16, X16, e16, E16, A16, D16, -, st16⟩ := newO X15 hx hZ11 hown11 (hi 56 rfl) (hi 57 rfl) (hi 58 rfl) e15 (g := (mkF m 184 #[vI p1, vI p2, vI p3, vI (t0_0 p1), vI (0 : Int32), vI (t0_2 p1), vI (0 : Int32), vA b4, vA br_9, vA br_10, vA br_11, vA s_EMPTY, vA b2_14, vA s_EMPTY, vU, vU] [])) rfl (hb hby at_184) (by decide) (by decide)
  obtain ⟨b16, g16⟩ : ∃ z, z = T14.heap.size := ⟨_, rfl⟩
  rw [← g16] at A16 D16 st16
  have g_b16 : n0 ≤ b16 := Nat.le_trans (Nat.le_trans (Nat.le_trans (Nat.le_trans (Nat.le_trans (Nat.le_trans (Nat.le_trans (Nat.le_trans (Nat.le_trans (Nat.le_trans Z0 E4.1) E5.1) (Keep.of_wr W6).1) (Keep.of_wr W7).1) K8.1) K9.1) K10.1) K11.1) K14.1) (Nat.le_of_eq g16.symm)
  have sz_b16 : h0.size ≤ b16 := Nat.le_trans (Nat.le_trans (Nat.le_trans (Nat.le_trans (Nat.le_trans (Nat.le_trans (Nat.le_trans (Nat.le_trans (Nat.le_trans (Nat.le_trans (Nat.le_refl h0.size) E4.1) E5.1) (Keep.of_wr W6).1) (Keep.of_wr W7).1) K8.1) K9.1) K10.1) K11.1) K14.1) (Nat.le_of_eq g16.symm)
  have F_name_b16 : Fld Z h16 b16 "underdeck/deck/Column" "name" "Ljava/lang/String;" .null := D16 (Or.inr (hi 78 rfl)) (ty := (.object "java/lang/String")) (by decide)
  have F_type_b16 : Fld Z h16 b16 "underdeck/deck/Column" "type" "Ljava/lang/String;" .null := D16 (Or.inr (hi 80 rfl)) (ty := (.object "java/lang/String")) (by decide)
  have F_nullable_b16 : Fld Z h16 b16 "underdeck/deck/Column" "nullable" "Z" (.int (0 : Int32)) := D16 (Or.inr (hi 82 rfl)) (ty := .boolean) (by decide)
  have F_defaultValue_b16 : Fld Z h16 b16 "underdeck/deck/Column" "defaultValue" "Ljava/util/Optional;" .null := D16 (Or.inr (hi 84 rfl)) (ty := (.object "java/util/Optional")) (by decide)
  have F_identity_b16 : Fld Z h16 b16 "underdeck/deck/Column" "identity" "Ljava/util/Optional;" .null := D16 (Or.inr (hi 86 rfl)) (ty := (.object "java/util/Optional")) (by decide)
  have F_generated_b16 : Fld Z h16 b16 "underdeck/deck/Column" "generated" "Ljava/util/Optional;" .null := D16 (Or.inr (hi 88 rfl)) (ty := (.object "java/util/Optional")) (by decide)
  obtain ⟨_, _, ⟨T17, L17, k17, n17⟩, -, X17w, hS17w, hg17, ⟨Lc17, hQ17, l17, y17, z17⟩, st17⟩ := X16.specialBackS hx (y := (⟨"underdeck/deck/Column", "<init>", "(Ljava/lang/String;Ljava/lang/String;ZLjava/util/Optional;Ljava/util/Optional;Ljava/util/Optional;)V"⟩ : MethodName)) rfl hown11 (mvT hZ11 (hi 59 rfl)) (mvT hZ11 (hi 60 rfl)) (mvT hZ11 (hi 61 rfl)) (by decide) (backOfS (W := 1) (rm13 l Z a0 hw [] b16 b4 br_9 (t0_0 p1) s_EMPTY b2_14 s_EMPTY .null .null (0 : Int32) .null .null .null h16 n0 (Nat.le_trans (Nat.le_trans (Nat.le_trans (Nat.le_trans (Nat.le_trans (Nat.le_trans (Nat.le_trans (Nat.le_trans (Nat.le_trans (Nat.le_trans Z0 E4.1) E5.1) (Keep.of_wr W6).1) (Keep.of_wr W7).1) K8.1) K9.1) K10.1) K11.1) K14.1) E16.1) A16 F_name_b16 g_b16 F_type_b16 F_nullable_b16 F_defaultValue_b16 F_identity_b16 F_generated_b16) hZ11 (hi 61 rfl) (hi 58 rfl) (by decide) (by decide)) (g := (mkF m 199 #[vI p1, vI p2, vI p3, vI (t0_0 p1), vI (0 : Int32), vI (t0_2 p1), vI (0 : Int32), vA b4, vA br_9, vA br_10, vA br_11, vA s_EMPTY, vA b2_14, vA s_EMPTY, vU, vU] [(.ref s_EMPTY), (.ref b2_14), (.ref s_EMPTY), (.int (t0_0 p1)), (.ref br_9), (.ref b4), (.ref b16), (.ref b16)])) rfl (by rw [hml]; rfl) (Steps.refl _) (a := b16) (argsL := [(.ref b4), (.ref br_9), (.int (t0_0 p1)), (.ref s_EMPTY), (.ref b2_14), (.ref s_EMPTY)]) (rest := [(.ref b16)]) (lenOf pd__28Ljava_2flang_2fString_3bLjava_2flang_2fString_3bZLjava_2futil_2fOptional_3bLjava_2futil_2fOptional_3bLjava_2futil_2fOptional_3b_29V rfl) rfl (by show 2 * 0 + _ ≤ _; exact Nat.le_of_eq rfl) (hb hby at_199) (fun _ _ => ⟨rfl, e16, (by decide : 11 + 10 ≤ _), (by decide : 30 + 168 ≤ _)⟩)
  dsimp only [Pt.U, Pt.locs, Pt.cells, Pt.slots] at X17w hS17w hg17 l17 y17 z17 st17 hQ17
  subst l17 y17 z17
  obtain ⟨X17, hS17, hZ17, hown17⟩ := rebS hS11 (show _ ≤ T16.heap.size from by rw [e16]; exact (Nat.le_trans (Nat.le_trans (Nat.le_refl _) K14.1) E16.1)) X17w hS17w hg17 hZ11 hown11
  obtain ⟨rfl, N17q, K17, i17_0, i17_1, i17_2, i17_3, i17_4, i17_5, i17_6⟩ := hQ17
  have N17 := Fr.app N15 N17q
  have f27 := ((i14_2.ext E16).keep K17 (own_nm (Nat.ne_of_lt (Nat.lt_of_lt_of_le i14_1.lt (Nat.le_of_eq g16.symm))) own_n0))
  have f28 := ((f24.ext E16).keep K17 (own_nm (Nat.ne_of_lt (Nat.lt_of_lt_of_le f24.lt (Nat.le_of_eq g16.symm))) own_n0))
  have f29 := (((((((((((E_s_EMPTY.ext E4).ext E5).wr W6).wr W7).keep K8).keep K9).keep K10).keep K11).keep K14).ext E16).keep K17)
  have f30 := ((i14_1.ext E16).keep K17)
  obtain ⟨cq18, kq18, q18a, q18b, q18c⟩ := isOf hZ17 rfl i17_0
  obtain ⟨_, _, ⟨T18, L18, k18, n18⟩, -, X18, ⟨Lc18, hQ18, l18, y18, z18⟩, st18⟩ := X17.virtualBack hx (y := (⟨"underdeck/deck/Column", "required", "()Z"⟩ : MethodName)) (z := (⟨"underdeck/deck/Column", "required", "()Z"⟩ : MethodName)) hown17 (mvT hZ17 (hi 89 rfl)) (mvT hZ17 (hi 90 rfl)) (notFace_of_selects (args := #[]) (mvT hZ17 (hi 92 rfl))) (mvT hZ17 (hi 92 rfl)) (mvT hZ17 (hi 91 rfl)) (by decide) (backOf (W := 0) (rm16nv l Z a0 hw [] b16 (nar .boolean (t0_0 p1)) s_EMPTY b2_14 s_BY_DEFAULT T17.heap n0 (Nat.le_trans (Nat.le_trans (Nat.le_trans (Nat.le_trans (Nat.le_trans (Nat.le_trans (Nat.le_trans (Nat.le_trans (Nat.le_trans (Nat.le_trans (Nat.le_trans Z0 E4.1) E5.1) (Keep.of_wr W6).1) (Keep.of_wr W7).1) K8.1) K9.1) K10.1) K11.1) K14.1) E16.1) K17.1) i17_3 i17_4 f28 f29 i17_5 f27 f30) hZ17 (hi 93 rfl) (hi 58 rfl) (by decide) (by decide)) q18a q18c (g := (mkF m 240 #[vI p1, vI p2, vI p3, vI (t0_0 p1), vI (0 : Int32), vI (t0_2 p1), vI (0 : Int32), vA b4, vA br_9, vA br_10, vA br_11, vA s_EMPTY, vA b2_14, vA s_EMPTY, vA b16, vI (0 : Int32)] [(.ref b16)])) rfl (by rw [hml]; rfl) (Steps.refl _) (argsL := []) (rest := []) (lenOf pd__28_29Z rfl) rfl (by show 2 * 0 + _ ≤ _; exact Nat.le_of_eq rfl) (hb hby at_240) (fun _ _ => ⟨rfl, rfl, (by decide : 21 + 0 ≤ _), (by decide : 198 + 0 ≤ _)⟩)
  dsimp only [Pt.U, Pt.locs, Pt.cells, Pt.slots] at X18 l18 y18 z18 st18 hQ18
  subst l18 y18 z18
  obtain ⟨rfl, N18q, e18⟩ := hQ18
  have N18 := Fr.app N17 N18q
  obtain ⟨fs, hr, hrun, hended, hw1, hw2, hw3, hw4⟩ := X18.leaveW hS17 (show _ ≤ T18.heap.size from by rw [e18]; exact (Nat.le_refl _)) (v := some (.int (1 : Int32))) (fun h => by rw [Bd.returns] at h; cases h)
  refine ⟨_, _, pre0 _ ?_, hrun, hended, _, _, rfl, ?_, hw1, hw2, hw3, hw4.mono (by decide) (by decide)⟩
  · show Steps p.tables e below (s₁.setTop (mkF m 0 #[vI p1, vI p2, vI p3, vU, vU, vU, vU, vU, vU, vU, vU, vU, vU, vU, vU, vU] [])) _
    refine XS.iloadN X0.here hx rfl (hb hby at_0) rfl ?_
    refine XS.iconst X0.here hx rfl (hb hby at_1) ?_
    refine XS.iand X0.here hx rfl (hb hby at_2) rfl ?_
    show Steps p.tables e below (s₁.setTop (mkF m 3 #[vI p1, vI p2, vI p3, vU, vU, vU, vU, vU, vU, vU, vU, vU, vU, vU, vU, vU] [(.int (p1 &&& (1 : Int32)))])) _
    have J3 : ∀ target, Steps p.tables e below (s₁.setTop (mkF m 11 #[vI p1, vI p2, vI p3, vU, vU, vU, vU, vU, vU, vU, vU, vU, vU, vU, vU, vU] [(.int (t0_0 p1))])) target → Steps p.tables e below (s₁.setTop (mkF m 3 #[vI p1, vI p2, vI p3, vU, vU, vU, vU, vU, vU, vU, vU, vU, vU, vU, vU, vU] [(.int (p1 &&& (1 : Int32)))])) target := by
      intro target kt
      by_cases hm3 : (p1 &&& (1 : Int32)) = (0 : Int32)
      · skip
        show Steps p.tables e below (s₁.setTop (mkF m 3 #[vI p1, vI p2, vI p3, vU, vU, vU, vU, vU, vU, vU, vU, vU, vU, vU, vU, vU] [(.int (p1 &&& (1 : Int32)))])) _
        refine XS.ifYes X0.here hx rfl (pc0 := 3) (pc' := 10) rfl (hb hby at_3) rfl ((if0 _ _).trans (teq hm3).1) (by decide) (by decide) ?_
        refine XS.iconst X0.here hx rfl (hb hby at_10) ?_
        rw [show (t0_0 p1) = (0 : Int32) from if_pos hm3] at kt
        exact kt
      · skip
        show Steps p.tables e below (s₁.setTop (mkF m 3 #[vI p1, vI p2, vI p3, vU, vU, vU, vU, vU, vU, vU, vU, vU, vU, vU, vU, vU] [(.int (p1 &&& (1 : Int32)))])) _
        refine XS.ifNo X0.here hx rfl (hb hby at_3) rfl ((if0 _ _).trans (feq hm3).1) ?_
        refine XS.iconst X0.here hx rfl (hb hby at_6) ?_
        show Steps p.tables e below (s₁.setTop (mkF m 7 #[vI p1, vI p2, vI p3, vU, vU, vU, vU, vU, vU, vU, vU, vU, vU, vU, vU, vU] [(.int (1 : Int32))])) _
        refine XS.goto X0.here hx rfl (pc0 := 7) (pc' := 11) rfl (hb hby at_7) (by decide) (by decide) ?_
        rw [show (t0_0 p1) = (1 : Int32) from if_neg hm3] at kt
        exact kt
    refine J3 _ ?_
    refine XS.istoreN X0.here hx rfl (hb hby at_11) rfl (l' := #[vI p1, vI p2, vI p3, vI (t0_0 p1), vU, vU, vU, vU, vU, vU, vU, vU, vU, vU, vU, vU]) rfl ?_
    refine XS.iloadN X0.here hx rfl (hb hby at_12) rfl ?_
    refine XS.iconst X0.here hx rfl (hb hby at_13) ?_
    refine XS.iand X0.here hx rfl (hb hby at_14) rfl ?_
    show Steps p.tables e below (s₁.setTop (mkF m 15 #[vI p1, vI p2, vI p3, vI (t0_0 p1), vU, vU, vU, vU, vU, vU, vU, vU, vU, vU, vU, vU] [(.int (p1 &&& (2 : Int32)))])) _
    refine XS.ifYes X0.here hx rfl (pc0 := 15) (pc' := 22) rfl (hb hby at_15) rfl ((if0 _ _).trans (teq hc15).1) (by decide) (by decide) ?_
    refine XS.iconst X0.here hx rfl (hb hby at_22) ?_
    refine XS.istore X0.here hx rfl (hb hby at_23) rfl (l' := #[vI p1, vI p2, vI p3, vI (t0_0 p1), vI (0 : Int32), vU, vU, vU, vU, vU, vU, vU, vU, vU, vU, vU]) rfl ?_
    refine XS.iloadN X0.here hx rfl (hb hby at_25) rfl ?_
    refine XS.iconst X0.here hx rfl (hb hby at_26) ?_
    refine XS.iushr X0.here hx rfl (hb hby at_27) rfl ?_
    refine XS.iconst X0.here hx rfl (hb hby at_28) ?_
    refine XS.iand X0.here hx rfl (hb hby at_29) rfl ?_
    refine XS.iconst X0.here hx rfl (hb hby at_30) ?_
    refine XS.irem X0.here hx rfl (hb hby at_31) rfl (by decide) ?_
    refine XS.istore X0.here hx rfl (hb hby at_32) rfl (l' := #[vI p1, vI p2, vI p3, vI (t0_0 p1), vI (0 : Int32), vI (t0_2 p1), vU, vU, vU, vU, vU, vU, vU, vU, vU, vU]) rfl ?_
    refine XS.iloadN X0.here hx rfl (hb hby at_34) rfl ?_
    refine XS.bipush X0.here hx rfl (hb hby at_35) ?_
    refine XS.iand X0.here hx rfl (hb hby at_37) rfl ?_
    show Steps p.tables e below (s₁.setTop (mkF m 38 #[vI p1, vI p2, vI p3, vI (t0_0 p1), vI (0 : Int32), vI (t0_2 p1), vU, vU, vU, vU, vU, vU, vU, vU, vU, vU] [(.int (p1 &&& (16 : Int32)))])) _
    refine XS.ifYes X0.here hx rfl (pc0 := 38) (pc' := 45) rfl (hb hby at_38) rfl ((if0 _ _).trans (teq hc38).1) (by decide) (by decide) ?_
    refine XS.iconst X0.here hx rfl (hb hby at_45) ?_
    refine XS.istore X0.here hx rfl (hb hby at_46) rfl (l' := #[vI p1, vI p2, vI p3, vI (t0_0 p1), vI (0 : Int32), vI (t0_2 p1), vI (0 : Int32), vU, vU, vU, vU, vU, vU, vU, vU, vU]) rfl ?_
    show Steps p.tables e below (s₁.setTop (mkF m 48 #[vI p1, vI p2, vI p3, vI (t0_0 p1), vI (0 : Int32), vI (t0_2 p1), vI (0 : Int32), vU, vU, vU, vU, vU, vU, vU, vU, vU] [])) _
    refine st4 _ ?_
    refine XS.dup X4.here hx rfl (hb hby at_51) rfl rfl ?_
    refine XS.iconst X4.here hx rfl (hb hby at_52) ?_
    show Steps p.tables e below (T4.setTop (mkF m 53 #[vI p1, vI p2, vI p3, vI (t0_0 p1), vI (0 : Int32), vI (t0_2 p1), vI (0 : Int32), vU, vU, vU, vU, vU, vU, vU, vU, vU] [(.int (2 : Int32)), (.ref b4), (.ref b4)])) _
    refine st5 _ ?_
    refine XS.dup X5.here hx rfl (hb hby at_55) rfl rfl ?_
    refine XS.iconst X5.here hx rfl (hb hby at_56) ?_
    refine XS.iloadN X5.here hx rfl (hb hby at_57) rfl ?_
    refine XS.sipush X5.here hx rfl (hb hby at_58) ?_
    refine XS.iand X5.here hx rfl (hb hby at_61) rfl ?_
    refine XS.i2c X5.here hx rfl (hb hby at_62) rfl ?_
    show Steps p.tables e below (T5.setTop (mkF m 63 #[vI p1, vI p2, vI p3, vI (t0_0 p1), vI (0 : Int32), vI (t0_2 p1), vI (0 : Int32), vU, vU, vU, vU, vU, vU, vU, vU, vU] [(.int (t0_3 p2)), (.int (0 : Int32)), (.ref b5), (.ref b5), (.ref b4), (.ref b4)])) _
    refine st6 _ ?_
    refine XS.dup X6.here hx rfl (hb hby at_64) rfl rfl ?_
    refine XS.iconst X6.here hx rfl (hb hby at_65) ?_
    refine XS.iloadN X6.here hx rfl (hb hby at_66) rfl ?_
    refine XS.bipush X6.here hx rfl (hb hby at_67) ?_
    refine XS.iushr X6.here hx rfl (hb hby at_69) rfl ?_
    refine XS.sipush X6.here hx rfl (hb hby at_70) ?_
    refine XS.iand X6.here hx rfl (hb hby at_73) rfl ?_
    refine XS.i2c X6.here hx rfl (hb hby at_74) rfl ?_
    show Steps p.tables e below (T6.setTop (mkF m 75 #[vI p1, vI p2, vI p3, vI (t0_0 p1), vI (0 : Int32), vI (t0_2 p1), vI (0 : Int32), vU, vU, vU, vU, vU, vU, vU, vU, vU] [(.int (t0_5 p2)), (.int (1 : Int32)), (.ref b5), (.ref b5), (.ref b4), (.ref b4)])) _
    refine st7 _ ?_
    show Steps p.tables e below (T7.setTop (mkF m 76 #[vI p1, vI p2, vI p3, vI (t0_0 p1), vI (0 : Int32), vI (t0_2 p1), vI (0 : Int32), vU, vU, vU, vU, vU, vU, vU, vU, vU] [(.ref b5), (.ref b4), (.ref b4)])) _
    refine st8.trans ?_
    refine XS.astore X8.here hx rfl (hb hby at_79) rfl rfl (l' := #[vI p1, vI p2, vI p3, vI (t0_0 p1), vI (0 : Int32), vI (t0_2 p1), vI (0 : Int32), vA b4, vU, vU, vU, vU, vU, vU, vU, vU]) rfl ?_
    refine XS.iloadN X8.here hx rfl (hb hby at_81) rfl ?_
    refine XS.bipush X8.here hx rfl (hb hby at_82) ?_
    refine XS.iushr X8.here hx rfl (hb hby at_84) rfl ?_
    refine XS.sipush X8.here hx rfl (hb hby at_85) ?_
    refine XS.iand X8.here hx rfl (hb hby at_88) rfl ?_
    refine XS.i2c X8.here hx rfl (hb hby at_89) rfl ?_
    show Steps p.tables e below (T8.setTop (mkF m 90 #[vI p1, vI p2, vI p3, vI (t0_0 p1), vI (0 : Int32), vI (t0_2 p1), vI (0 : Int32), vA b4, vU, vU, vU, vU, vU, vU, vU, vU] [(.int (t0_7 p2))])) _
    refine st9 _ ?_
    refine XS.astore X9.here hx rfl (hb hby at_93) rfl rfl (l' := #[vI p1, vI p2, vI p3, vI (t0_0 p1), vI (0 : Int32), vI (t0_2 p1), vI (0 : Int32), vA b4, vA br_9, vU, vU, vU, vU, vU, vU, vU]) rfl ?_
    refine XS.iloadN X9.here hx rfl (hb hby at_95) rfl ?_
    show Steps p.tables e below (T9.setTop (mkF m 96 #[vI p1, vI p2, vI p3, vI (t0_0 p1), vI (0 : Int32), vI (t0_2 p1), vI (0 : Int32), vA b4, vA br_9, vU, vU, vU, vU, vU, vU, vU] [(.int p3)])) _
    refine st10.trans ?_
    refine XS.astore X10.here hx rfl (hb hby at_99) rfl rfl (l' := #[vI p1, vI p2, vI p3, vI (t0_0 p1), vI (0 : Int32), vI (t0_2 p1), vI (0 : Int32), vA b4, vA br_9, vA br_10, vU, vU, vU, vU, vU, vU]) rfl ?_
    refine XS.iloadN X10.here hx rfl (hb hby at_101) rfl ?_
    refine XS.bipush X10.here hx rfl (hb hby at_102) ?_
    refine XS.iushr X10.here hx rfl (hb hby at_104) rfl ?_
    show Steps p.tables e below (T10.setTop (mkF m 105 #[vI p1, vI p2, vI p3, vI (t0_0 p1), vI (0 : Int32), vI (t0_2 p1), vI (0 : Int32), vA b4, vA br_9, vA br_10, vU, vU, vU, vU, vU, vU] [(.int (t0_8 p3))])) _
    refine st11.trans ?_
    refine XS.astore X11.here hx rfl (hb hby at_108) rfl rfl (l' := #[vI p1, vI p2, vI p3, vI (t0_0 p1), vI (0 : Int32), vI (t0_2 p1), vI (0 : Int32), vA b4, vA br_9, vA br_10, vA br_11, vU, vU, vU, vU, vU]) rfl ?_
    refine XS.iload X11.here hx rfl (hb hby at_110) rfl ?_
    show Steps p.tables e below (T11.setTop (mkF m 112 #[vI p1, vI p2, vI p3, vI (t0_0 p1), vI (0 : Int32), vI (t0_2 p1), vI (0 : Int32), vA b4, vA br_9, vA br_10, vA br_11, vU, vU, vU, vU, vU] [(.int (0 : Int32))])) _
    refine XS.ifYes X11.here hx rfl (pc0 := 112) (pc' := 123) rfl (hb hby at_112) rfl ((if0 _ _).trans (teq (rfl : (0 : Int32) = (0 : Int32))).1) (by decide) (by decide) ?_
    show Steps p.tables e below (T11.setTop (mkF m 123 #[vI p1, vI p2, vI p3, vI (t0_0 p1), vI (0 : Int32), vI (t0_2 p1), vI (0 : Int32), vA b4, vA br_9, vA br_10, vA br_11, vU, vU, vU, vU, vU] [])) _
    refine st12 _ ?_
    refine XS.astore X12.here hx rfl (hb hby at_126) rfl rfl (l' := #[vI p1, vI p2, vI p3, vI (t0_0 p1), vI (0 : Int32), vI (t0_2 p1), vI (0 : Int32), vA b4, vA br_9, vA br_10, vA br_11, vA s_EMPTY, vU, vU, vU, vU]) rfl ?_
    refine XS.iload X12.here hx rfl (hb hby at_128) rfl ?_
    show Steps p.tables e below (T12.setTop (mkF m 130 #[vI p1, vI p2, vI p3, vI (t0_0 p1), vI (0 : Int32), vI (t0_2 p1), vI (0 : Int32), vA b4, vA br_9, vA br_10, vA br_11, vA s_EMPTY, vU, vU, vU, vU] [(.int (t0_2 p1))])) _
    refine XS.ifYes X12.here hx rfl (pc0 := 130) (pc' := 141) rfl (hb hby at_130) rfl ((if0 _ _).trans (feq hc130).2) (by decide) (by decide) ?_
    refine XS.iload X12.here hx rfl (hb hby at_141) rfl ?_
    refine XS.iconst X12.here hx rfl (hb hby at_143) ?_
    show Steps p.tables e below (T12.setTop (mkF m 144 #[vI p1, vI p2, vI p3, vI (t0_0 p1), vI (0 : Int32), vI (t0_2 p1), vI (0 : Int32), vA b4, vA br_9, vA br_10, vA br_11, vA s_EMPTY, vU, vU, vU, vU] [(.int (1 : Int32)), (.int (t0_2 p1))])) _
    refine XS.icmpYes X12.here hx rfl (pc0 := 144) (pc' := 158) rfl (hb hby at_144) rfl (feq hc144).2 (by decide) (by decide) ?_
    show Steps p.tables e below (T12.setTop (mkF m 158 #[vI p1, vI p2, vI p3, vI (t0_0 p1), vI (0 : Int32), vI (t0_2 p1), vI (0 : Int32), vA b4, vA br_9, vA br_10, vA br_11, vA s_EMPTY, vU, vU, vU, vU] [])) _
    refine st13 _ ?_
    show Steps p.tables e below (T13.setTop (mkF m 161 #[vI p1, vI p2, vI p3, vI (t0_0 p1), vI (0 : Int32), vI (t0_2 p1), vI (0 : Int32), vA b4, vA br_9, vA br_10, vA br_11, vA s_EMPTY, vU, vU, vU, vU] [(.ref s_BY_DEFAULT)])) _
    refine st14 _ ?_
    refine XS.astore X14.here hx rfl (hb hby at_164) rfl rfl (l' := #[vI p1, vI p2, vI p3, vI (t0_0 p1), vI (0 : Int32), vI (t0_2 p1), vI (0 : Int32), vA b4, vA br_9, vA br_10, vA br_11, vA s_EMPTY, vA b2_14, vU, vU, vU]) rfl ?_
    refine XS.iload X14.here hx rfl (hb hby at_166) rfl ?_
    show Steps p.tables e below (T14.setTop (mkF m 168 #[vI p1, vI p2, vI p3, vI (t0_0 p1), vI (0 : Int32), vI (t0_2 p1), vI (0 : Int32), vA b4, vA br_9, vA br_10, vA br_11, vA s_EMPTY, vA b2_14, vU, vU, vU] [(.int (0 : Int32))])) _
    refine XS.ifYes X14.here hx rfl (pc0 := 168) (pc' := 179) rfl (hb hby at_168) rfl ((if0 _ _).trans (teq (rfl : (0 : Int32) = (0 : Int32))).1) (by decide) (by decide) ?_
    show Steps p.tables e below (T14.setTop (mkF m 179 #[vI p1, vI p2, vI p3, vI (t0_0 p1), vI (0 : Int32), vI (t0_2 p1), vI (0 : Int32), vA b4, vA br_9, vA br_10, vA br_11, vA s_EMPTY, vA b2_14, vU, vU, vU] [])) _
    refine st15 _ ?_
    refine XS.astore X15.here hx rfl (hb hby at_182) rfl rfl (l' := #[vI p1, vI p2, vI p3, vI (t0_0 p1), vI (0 : Int32), vI (t0_2 p1), vI (0 : Int32), vA b4, vA br_9, vA br_10, vA br_11, vA s_EMPTY, vA b2_14, vA s_EMPTY, vU, vU]) rfl ?_
    show Steps p.tables e below (T15.setTop (mkF m 184 #[vI p1, vI p2, vI p3, vI (t0_0 p1), vI (0 : Int32), vI (t0_2 p1), vI (0 : Int32), vA b4, vA br_9, vA br_10, vA br_11, vA s_EMPTY, vA b2_14, vA s_EMPTY, vU, vU] [])) _
    refine st16 _ ?_
    refine XS.dup X16.here hx rfl (hb hby at_187) rfl rfl ?_
    refine XS.aload X16.here hx rfl (hb hby at_188) rfl rfl ?_
    refine XS.aload X16.here hx rfl (hb hby at_190) rfl rfl ?_
    refine XS.iloadN X16.here hx rfl (hb hby at_192) rfl ?_
    refine XS.aload X16.here hx rfl (hb hby at_193) rfl rfl ?_
    refine XS.aload X16.here hx rfl (hb hby at_195) rfl rfl ?_
    refine XS.aload X16.here hx rfl (hb hby at_197) rfl rfl ?_
    show Steps p.tables e below (T16.setTop (mkF m 199 #[vI p1, vI p2, vI p3, vI (t0_0 p1), vI (0 : Int32), vI (t0_2 p1), vI (0 : Int32), vA b4, vA br_9, vA br_10, vA br_11, vA s_EMPTY, vA b2_14, vA s_EMPTY, vU, vU] [(.ref s_EMPTY), (.ref b2_14), (.ref s_EMPTY), (.int (t0_0 p1)), (.ref br_9), (.ref b4), (.ref b16), (.ref b16)])) _
    refine st17.trans ?_
    refine XS.astore X17.here hx rfl (hb hby at_202) rfl rfl (l' := #[vI p1, vI p2, vI p3, vI (t0_0 p1), vI (0 : Int32), vI (t0_2 p1), vI (0 : Int32), vA b4, vA br_9, vA br_10, vA br_11, vA s_EMPTY, vA b2_14, vA s_EMPTY, vA b16, vU]) rfl ?_
    refine XS.iconst X17.here hx rfl (hb hby at_204) ?_
    refine XS.istore X17.here hx rfl (hb hby at_205) rfl (l' := #[vI p1, vI p2, vI p3, vI (t0_0 p1), vI (0 : Int32), vI (t0_2 p1), vI (0 : Int32), vA b4, vA br_9, vA br_10, vA br_11, vA s_EMPTY, vA b2_14, vA s_EMPTY, vA b16, vI (1 : Int32)]) rfl ?_
    refine XS.iloadN X17.here hx rfl (hb hby at_207) rfl ?_
    show Steps p.tables e below (T17.setTop (mkF m 208 #[vI p1, vI p2, vI p3, vI (t0_0 p1), vI (0 : Int32), vI (t0_2 p1), vI (0 : Int32), vA b4, vA br_9, vA br_10, vA br_11, vA s_EMPTY, vA b2_14, vA s_EMPTY, vA b16, vI (1 : Int32)] [(.int (t0_0 p1))])) _
    have J208 : ∀ target, Steps p.tables e below (T17.setTop (mkF m 214 #[vI p1, vI p2, vI p3, vI (t0_0 p1), vI (0 : Int32), vI (t0_2 p1), vI (0 : Int32), vA b4, vA br_9, vA br_10, vA br_11, vA s_EMPTY, vA b2_14, vA s_EMPTY, vA b16, vI (t0_9 p1)] [])) target → Steps p.tables e below (T17.setTop (mkF m 208 #[vI p1, vI p2, vI p3, vI (t0_0 p1), vI (0 : Int32), vI (t0_2 p1), vI (0 : Int32), vA b4, vA br_9, vA br_10, vA br_11, vA s_EMPTY, vA b2_14, vA s_EMPTY, vA b16, vI (1 : Int32)] [(.int (t0_0 p1))])) target := by
      intro target kt
      by_cases hm208 : (t0_0 p1) = (0 : Int32)
      · skip
        show Steps p.tables e below (T17.setTop (mkF m 208 #[vI p1, vI p2, vI p3, vI (t0_0 p1), vI (0 : Int32), vI (t0_2 p1), vI (0 : Int32), vA b4, vA br_9, vA br_10, vA br_11, vA s_EMPTY, vA b2_14, vA s_EMPTY, vA b16, vI (1 : Int32)] [(.int (t0_0 p1))])) _
        refine XS.ifYes X17.here hx rfl (pc0 := 208) (pc' := 214) rfl (hb hby at_208) rfl ((if0 _ _).trans (teq hm208).1) (by decide) (by decide) ?_
        rw [show (t0_9 p1) = (1 : Int32) from if_pos hm208] at kt
        exact kt
      · skip
        show Steps p.tables e below (T17.setTop (mkF m 208 #[vI p1, vI p2, vI p3, vI (t0_0 p1), vI (0 : Int32), vI (t0_2 p1), vI (0 : Int32), vA b4, vA br_9, vA br_10, vA br_11, vA s_EMPTY, vA b2_14, vA s_EMPTY, vA b16, vI (1 : Int32)] [(.int (t0_0 p1))])) _
        refine XS.ifNo X17.here hx rfl (hb hby at_208) rfl ((if0 _ _).trans (feq hm208).1) ?_
        refine XS.iconst X17.here hx rfl (hb hby at_211) ?_
        refine XS.istore X17.here hx rfl (hb hby at_212) rfl (l' := #[vI p1, vI p2, vI p3, vI (t0_0 p1), vI (0 : Int32), vI (t0_2 p1), vI (0 : Int32), vA b4, vA br_9, vA br_10, vA br_11, vA s_EMPTY, vA b2_14, vA s_EMPTY, vA b16, vI (0 : Int32)]) rfl ?_
        rw [show (t0_9 p1) = (0 : Int32) from if_neg hm208] at kt
        exact kt
    refine J208 _ ?_
    refine XS.iload X17.here hx rfl (hb hby at_214) rfl ?_
    show Steps p.tables e below (T17.setTop (mkF m 216 #[vI p1, vI p2, vI p3, vI (t0_0 p1), vI (0 : Int32), vI (t0_2 p1), vI (0 : Int32), vA b4, vA br_9, vA br_10, vA br_11, vA s_EMPTY, vA b2_14, vA s_EMPTY, vA b16, vI (t0_9 p1)] [(.int (0 : Int32))])) _
    refine XS.ifYes X17.here hx rfl (pc0 := 216) (pc' := 222) rfl (hb hby at_216) rfl ((if0 _ _).trans (teq (rfl : (0 : Int32) = (0 : Int32))).1) (by decide) (by decide) ?_
    refine XS.iload X17.here hx rfl (hb hby at_222) rfl ?_
    show Steps p.tables e below (T17.setTop (mkF m 224 #[vI p1, vI p2, vI p3, vI (t0_0 p1), vI (0 : Int32), vI (t0_2 p1), vI (0 : Int32), vA b4, vA br_9, vA br_10, vA br_11, vA s_EMPTY, vA b2_14, vA s_EMPTY, vA b16, vI (t0_9 p1)] [(.int (t0_2 p1))])) _
    refine XS.ifNo X17.here hx rfl (hb hby at_224) rfl ((if0 _ _).trans (feq hc130).1) ?_
    refine XS.iconst X17.here hx rfl (hb hby at_227) ?_
    refine XS.istore X17.here hx rfl (hb hby at_228) rfl (l' := #[vI p1, vI p2, vI p3, vI (t0_0 p1), vI (0 : Int32), vI (t0_2 p1), vI (0 : Int32), vA b4, vA br_9, vA br_10, vA br_11, vA s_EMPTY, vA b2_14, vA s_EMPTY, vA b16, vI (0 : Int32)]) rfl ?_
    refine XS.iload X17.here hx rfl (hb hby at_230) rfl ?_
    show Steps p.tables e below (T17.setTop (mkF m 232 #[vI p1, vI p2, vI p3, vI (t0_0 p1), vI (0 : Int32), vI (t0_2 p1), vI (0 : Int32), vA b4, vA br_9, vA br_10, vA br_11, vA s_EMPTY, vA b2_14, vA s_EMPTY, vA b16, vI (0 : Int32)] [(.int (0 : Int32))])) _
    refine XS.ifYes X17.here hx rfl (pc0 := 232) (pc' := 238) rfl (hb hby at_232) rfl ((if0 _ _).trans (teq (rfl : (0 : Int32) = (0 : Int32))).1) (by decide) (by decide) ?_
    refine XS.aload X17.here hx rfl (hb hby at_238) rfl rfl ?_
    show Steps p.tables e below (T17.setTop (mkF m 240 #[vI p1, vI p2, vI p3, vI (t0_0 p1), vI (0 : Int32), vI (t0_2 p1), vI (0 : Int32), vA b4, vA br_9, vA br_10, vA br_11, vA s_EMPTY, vA b2_14, vA s_EMPTY, vA b16, vI (0 : Int32)] [(.ref b16)])) _
    refine st18.trans ?_
    refine XS.iload X18.here hx rfl (hb hby at_243) rfl ?_
    show Steps p.tables e below (T18.setTop (mkF m 245 #[vI p1, vI p2, vI p3, vI (t0_0 p1), vI (0 : Int32), vI (t0_2 p1), vI (0 : Int32), vA b4, vA br_9, vA br_10, vA br_11, vA s_EMPTY, vA b2_14, vA s_EMPTY, vA b16, vI (0 : Int32)] [(.int (0 : Int32)), (.int (0 : Int32))])) _
    refine XS.icmpNo X18.here hx rfl (hb hby at_245) rfl (teq (rfl : (0 : Int32) = (0 : Int32))).2 ?_
    refine XS.iconst X18.here hx rfl (hb hby at_248) ?_
    show Steps p.tables e below (T18.setTop (mkF m 249 #[vI p1, vI p2, vI p3, vI (t0_0 p1), vI (0 : Int32), vI (t0_2 p1), vI (0 : Int32), vA b4, vA br_9, vA br_10, vA br_11, vA s_EMPTY, vA b2_14, vA s_EMPTY, vA b16, vI (0 : Int32)] [(.int (1 : Int32))])) _
    refine XS.goto X18.here hx rfl (pc0 := 249) (pc' := 253) rfl (hb hby at_249) (by decide) (by decide) ?_
    show Steps p.tables e below (T18.setTop (mkF m 253 #[vI p1, vI p2, vI p3, vI (t0_0 p1), vI (0 : Int32), vI (t0_2 p1), vI (0 : Int32), vA b4, vA br_9, vA br_10, vA br_11, vA s_EMPTY, vA b2_14, vA s_EMPTY, vA b16, vI (0 : Int32)] [(.int (1 : Int32))])) _
    exact retN X18 hx (t := .boolean) Bd.returns (by simp) (hb hby at_253) hr
  · show Q_rm0 Z p1 p2 p3 s_COMPACT_STRINGS s_EMPTY s_ALWAYS s_BY_DEFAULT h0 n0 _ T18.heap _
    exact ⟨rfl, N18⟩
set_option maxHeartbeats 4000000 in
theorem rm0 (l : Launch) (Z : State) (a0 : Array Value) (hw : ∀ d ∈ tables_1, d.before a0 Z = true) (ws : List Jvm.Cond) (p1 : Int32) (p2 : Int32) (p3 : Int32) (s_COMPACT_STRINGS : Int32) (s_EMPTY : Addr) (s_ALWAYS : Addr) (s_BY_DEFAULT : Addr) (h0 : Heap) (n0 : Nat) (Z0 : n0 ≤ h0.size) (hcs : ¬ (s_COMPACT_STRINGS = (0 : Int32))) (S_COMPACT_STRINGS : Sta Z h0 "java/lang/String" "COMPACT_STRINGS" "Z" (.int s_COMPACT_STRINGS)) (S_EMPTY : Sta Z h0 "java/util/Optional" "EMPTY" "Ljava/util/Optional;" (.ref s_EMPTY)) (S_ALWAYS : Sta Z h0 "underdeck/deck/Column$Identity" "ALWAYS" "Lunderdeck/deck/Column$Identity;" (.ref s_ALWAYS)) (S_BY_DEFAULT : Sta Z h0 "underdeck/deck/Column$Identity" "BY_DEFAULT" "Lunderdeck/deck/Column$Identity;" (.ref s_BY_DEFAULT)) (F_value_s_EMPTY : Fld Z h0 s_EMPTY "java/util/Optional" "value" "Ljava/lang/Object;" .null) (E_s_EMPTY : Exa Z h0 s_EMPTY "java/util/Optional") :
    MetFree l x (head1 (Jvm.Cond.code x code maxLocals ret :: ws) room_1) (fun a U => a = #[(.int p1), (.int p2), (.int p3)] ∧ Z.Warmed39 U.vm ∧ U.heap = h0) (fun _ _ _ _ _ => True) (fun _ U o U' => ∃ v L, o = .returned v ∧ Q_rm0 Z p1 p2 p3 s_COMPACT_STRINGS s_EMPTY s_ALWAYS s_BY_DEFAULT h0 n0 v U'.heap L ∧ ReturnedEndW U o U' L room_1.cells room_1.slots) := by
  by_cases hc15 : (p1 &&& (2 : Int32)) = (0 : Int32)
  · skip
    by_cases hc38 : (p1 &&& (16 : Int32)) = (0 : Int32)
    · skip
      by_cases hc130 : (t0_2 p1) = (0 : Int32)
      · skip
        exact rm0_ttf l Z a0 hw ws p1 p2 p3 s_COMPACT_STRINGS s_EMPTY s_ALWAYS s_BY_DEFAULT h0 n0 Z0 hcs S_COMPACT_STRINGS S_EMPTY S_ALWAYS S_BY_DEFAULT F_value_s_EMPTY E_s_EMPTY hc15 hc38 hc130
      · skip
        by_cases hc144 : (t0_2 p1) = (1 : Int32)
        · skip
          exact rm0_tttf l Z a0 hw ws p1 p2 p3 s_COMPACT_STRINGS s_EMPTY s_ALWAYS s_BY_DEFAULT h0 n0 Z0 hcs S_COMPACT_STRINGS S_EMPTY S_ALWAYS S_BY_DEFAULT F_value_s_EMPTY E_s_EMPTY hc15 hc38 hc130 hc144
        · skip
          exact rm0_tttt l Z a0 hw ws p1 p2 p3 s_COMPACT_STRINGS s_EMPTY s_ALWAYS s_BY_DEFAULT h0 n0 Z0 hcs S_COMPACT_STRINGS S_EMPTY S_ALWAYS S_BY_DEFAULT F_value_s_EMPTY E_s_EMPTY hc15 hc38 hc130 hc144
    · skip
      by_cases hc130 : (t0_2 p1) = (0 : Int32)
      · skip
        exact rm0_tff l Z a0 hw ws p1 p2 p3 s_COMPACT_STRINGS s_EMPTY s_ALWAYS s_BY_DEFAULT h0 n0 Z0 hcs S_COMPACT_STRINGS S_EMPTY S_ALWAYS S_BY_DEFAULT F_value_s_EMPTY E_s_EMPTY hc15 hc38 hc130
      · skip
        by_cases hc144 : (t0_2 p1) = (1 : Int32)
        · skip
          exact rm0_tftf l Z a0 hw ws p1 p2 p3 s_COMPACT_STRINGS s_EMPTY s_ALWAYS s_BY_DEFAULT h0 n0 Z0 hcs S_COMPACT_STRINGS S_EMPTY S_ALWAYS S_BY_DEFAULT F_value_s_EMPTY E_s_EMPTY hc15 hc38 hc130 hc144
        · skip
          exact rm0_tftt l Z a0 hw ws p1 p2 p3 s_COMPACT_STRINGS s_EMPTY s_ALWAYS s_BY_DEFAULT h0 n0 Z0 hcs S_COMPACT_STRINGS S_EMPTY S_ALWAYS S_BY_DEFAULT F_value_s_EMPTY E_s_EMPTY hc15 hc38 hc130 hc144
  · skip
    by_cases hc38 : (p1 &&& (16 : Int32)) = (0 : Int32)
    · skip
      by_cases hc130 : (t0_2 p1) = (0 : Int32)
      · skip
        exact rm0_ftf l Z a0 hw ws p1 p2 p3 s_COMPACT_STRINGS s_EMPTY s_ALWAYS s_BY_DEFAULT h0 n0 Z0 hcs S_COMPACT_STRINGS S_EMPTY S_ALWAYS S_BY_DEFAULT F_value_s_EMPTY E_s_EMPTY hc15 hc38 hc130
      · skip
        by_cases hc144 : (t0_2 p1) = (1 : Int32)
        · skip
          exact rm0_fttf l Z a0 hw ws p1 p2 p3 s_COMPACT_STRINGS s_EMPTY s_ALWAYS s_BY_DEFAULT h0 n0 Z0 hcs S_COMPACT_STRINGS S_EMPTY S_ALWAYS S_BY_DEFAULT F_value_s_EMPTY E_s_EMPTY hc15 hc38 hc130 hc144
        · skip
          exact rm0_fttt l Z a0 hw ws p1 p2 p3 s_COMPACT_STRINGS s_EMPTY s_ALWAYS s_BY_DEFAULT h0 n0 Z0 hcs S_COMPACT_STRINGS S_EMPTY S_ALWAYS S_BY_DEFAULT F_value_s_EMPTY E_s_EMPTY hc15 hc38 hc130 hc144
    · skip
      by_cases hc130 : (t0_2 p1) = (0 : Int32)
      · skip
        exact rm0_fff l Z a0 hw ws p1 p2 p3 s_COMPACT_STRINGS s_EMPTY s_ALWAYS s_BY_DEFAULT h0 n0 Z0 hcs S_COMPACT_STRINGS S_EMPTY S_ALWAYS S_BY_DEFAULT F_value_s_EMPTY E_s_EMPTY hc15 hc38 hc130
      · skip
        by_cases hc144 : (t0_2 p1) = (1 : Int32)
        · skip
          exact rm0_fftf l Z a0 hw ws p1 p2 p3 s_COMPACT_STRINGS s_EMPTY s_ALWAYS s_BY_DEFAULT h0 n0 Z0 hcs S_COMPACT_STRINGS S_EMPTY S_ALWAYS S_BY_DEFAULT F_value_s_EMPTY E_s_EMPTY hc15 hc38 hc130 hc144
        · skip
          exact rm0_fftt l Z a0 hw ws p1 p2 p3 s_COMPACT_STRINGS s_EMPTY s_ALWAYS s_BY_DEFAULT h0 n0 Z0 hcs S_COMPACT_STRINGS S_EMPTY S_ALWAYS S_BY_DEFAULT F_value_s_EMPTY E_s_EMPTY hc15 hc38 hc130 hc144
set_option maxRecDepth 65536 in
set_option maxHeartbeats 40000000 in
theorem comes_1 {Post : Tables → Env → Array Value → State → Outcome → State → Prop} (hpost : ∀ tb e args s v u, (limb_1_1.after args s (.returned v) u = true ∧ limb_1_2.after args s (.returned v) u = true ∧ True) → ReturnedEndW s (.returned v) u (Jvm.fieldLocs frame_1_writes args s ++ Jvm.arrayLocs frame_1_arrays args s ++ Jvm.staticLocs frame_1_statics s) 48 6336 → Post tb e args s (.returned v) u) :
    ArmFor flags0 classFile x code maxLocals ret World_1 tables_1 room_1 Calls_1 rest_1 Pre_1 Post := by
  intro l hfl _ _ p e ha hc hk s m args below hf hA hF happ hP
  obtain ⟨hcalls, hrest, hpre⟩ := hP
  obtain ⟨-, -, -, hnamed, -, -, -, hat⟩ := (Spec.applies_iff hf).mp happ
  obtain ⟨hg, hn⟩ := and_e (Cond.before_iff.mp (show (Jvm.Cond.and given_1 narrow_1).before args s = true from hpre))
  obtain ⟨g1, g2⟩ := and_e hg
  obtain ⟨g3, g4⟩ := and_e g2
  obtain ⟨g5, g6⟩ := and_e g4
  obtain ⟨w0, w1, w2, rfl⟩ : ∃ w0 w1 w2 : Value, args = #[w0, w1, w2] := by
    have hs : args.size = 3 := by simpa [Cond.value, given_1] using g1
    obtain ⟨L⟩ := args
    match L, hs with
    | [w0, w1, w2], _ => exact ⟨w0, w1, w2, rfl⟩
  have hw := fun d (hd : d ∈ tables_1) => atoms_spec (ws := Jvm.Cond.code x code maxLocals ret :: tables_1) hat d (List.mem_cons_of_mem _ hd)
  have hfit : Fit s := fun {y c} hc i hi => by
    obtain ⟨ha, rfl⟩ := Array.getElem?_eq_some_iff.mp hc
    have q := List.all_eq_true.mp ((Array.all_eq_true_iff_forall_mem.mp hF) _ (Array.getElem_mem ha)) i (List.mem_range.mpr hi)
    simpa [Array.getElem?_eq_getElem hi] using q
  obtain ⟨hsets, hown0⟩ := atoms_of _ (rest_1_c_eq ▸ (show rest_1_c.before _ s = true from hrest))
  have hr0 := Cond.before_iff.mp hown0
  obtain ⟨i0, ei0⟩ := is_v g3
  obtain rfl : w0 = (.int i0) := Option.some.inj ei0
  obtain ⟨i1, ei1⟩ := is_v g5
  obtain rfl : w1 = (.int i1) := Option.some.inj ei1
  obtain ⟨i2, ei2⟩ := is_v g6
  obtain rfl : w2 = (.int i2) := Option.some.inj ei2
  obtain ⟨na1, na2⟩ := and_e hn
  obtain ⟨s_cs, e_cs⟩ := is_v (Cond.before_iff.mp (hsets _ (List.mem_of_getElem? (i := 1) rfl)))
  have S_cs : Sta s s.heap "java/lang/String" "COMPACT_STRINGS" "Z" (.int s_cs) := Sta.start e_cs (Or.inl (hsets _ (List.mem_of_getElem? (i := 0) rfl)))
  have hcs : ¬ (s_cs = (0 : Int32)) := gotF (Cond.eq_ints e_cs (Term.int_eval (0))) (not_v (Cond.before_iff.mp (hsets _ (List.mem_of_getElem? (i := 2) rfl))))
  obtain ⟨s_em, e_em⟩ := exa_v (Cond.before_iff.mp (hsets _ (List.mem_of_getElem? (i := 11) rfl)))
  have E_em : Exa s s.heap s_em "java/util/Optional" := Exa.start e_em (Cond.before_iff.mp (hsets _ (List.mem_of_getElem? (i := 11) rfl)))
  have S_em : Sta s s.heap "java/util/Optional" "EMPTY" "Ljava/util/Optional;" (.ref s_em) := Sta.start e_em (Or.inl (hsets _ (List.mem_of_getElem? (i := 10) rfl)))
  have F_em : Fld s s.heap s_em "java/util/Optional" "value" "Ljava/lang/Object;" .null := Fld.start ((fld_at e_em).symm.trans (null_v (Cond.before_iff.mp (hsets _ (List.mem_of_getElem? (i := 12) rfl)))))
  obtain ⟨a_ALWAYS, ev_ALWAYS⟩ := exa_v na1
  have E_ALWAYS : Exa s s.heap a_ALWAYS "underdeck/deck/Column$Identity" := Exa.start ev_ALWAYS na1
  have S_ALWAYS : Sta s s.heap "underdeck/deck/Column$Identity" "ALWAYS" "Lunderdeck/deck/Column$Identity;" (.ref a_ALWAYS) := Sta.start ev_ALWAYS (Or.inr ⟨(hw _ (List.mem_of_getElem? (i := 102) rfl)), (hw _ (List.mem_of_getElem? (i := 103) rfl))⟩)
  obtain ⟨a_BY_DEFAULT, ev_BY_DEFAULT⟩ := exa_v na2
  have E_BY_DEFAULT : Exa s s.heap a_BY_DEFAULT "underdeck/deck/Column$Identity" := Exa.start ev_BY_DEFAULT na2
  have S_BY_DEFAULT : Sta s s.heap "underdeck/deck/Column$Identity" "BY_DEFAULT" "Lunderdeck/deck/Column$Identity;" (.ref a_BY_DEFAULT) := Sta.start ev_BY_DEFAULT (Or.inr ⟨(hw _ (List.mem_of_getElem? (i := 102) rfl)), (hw _ (List.mem_of_getElem? (i := 118) rfl))⟩)
  obtain ⟨n, o, h1, h2, h3, _, L, rfl, ⟨rfl, N⟩, hq⟩ := rm0 l s _ hw tables_1 i0 i1 i2 s_cs s_em a_ALWAYS a_BY_DEFAULT s.heap s.heap.size (Nat.le_refl _) hcs S_cs S_em S_ALWAYS S_BY_DEFAULT F_em E_em p e ha hc hk s m _ below hf ((Spec.applies_iff_loose hf).mp happ).1 ⟨rfl, State.Warmed39.refl s, rfl⟩ trivial
  refine ⟨n, _, h1, h2, h3, hpost _ _ _ _ _ _ ⟨Cond.after_iff.mpr rfl, Cond.after_iff.mpr (eq_i res_at (Term.int_eval (1)) rfl), trivial⟩ ⟨hq.1, hq.2.1, hq.2.2.1, (hq.2.2.2.sift fun y hy => Or.inr (N y hy)).mono (by decide) (by decide)⟩⟩
theorem main_1_1 : Claimed_1_1 := comes_1 fun _ _ _ _ _ _ h hF => ⟨h.1, hF⟩
theorem main_1_2 : Claimed_1_2 := comes_1 fun _ _ _ _ _ _ h hF => ⟨h.2.1, hF⟩
end Jvm.Pilot.@@N@@
namespace Jvm.Pilot.@@N@@
open Jvm Jvm.ClassFile Sem Op Lib Jvm.Free Jvm.Stand Jvm.Pilot.@@N@@.Jvm.D
/-! MADE BY PROGRAM (witnessworld.py) out of the Statement's table words and the real class files: 25 classes; the members and pool entries that the words name. The judged class is class 1, her method 2. -/
namespace start1
open Jvm.ClassFile
def u (s : String) : CpInfo := .utf8 (stringToUtf16 s)
/-- a pool by its gaps: so many unusable entries, then the entry; so many at the end -/
def gap : Nat → List CpInfo → List CpInfo
  | 0, r => r
  | n + 1, r => .unusable :: gap n r
def poolList (es : List (Nat × CpInfo)) (last : Nat) : List CpInfo := es.foldr (fun e r => gap e.1 (e.2 :: r)) (gap last [])
def pool (es : List (Nat × CpInfo)) (last : Nat) : Array CpInfo := ⟨poolList es last⟩
def fileOf (pool : Array CpInfo) (this : Nat) (attrs : Array Attribute := #[]) (ms : Array MethodInfo := #[]) (fl : Nat := 33) (sup : Nat := 0) (ifs : Array Nat := #[]) (fds : Array FieldInfo := #[]) : ClassFile where
  minorVersion := 0
  majorVersion := 65
  constantPool := pool
  accessFlags := fl
  thisClass := this
  superClass := sup
  interfaces := ifs
  fields := fds
  methods := ms
  attributes := attrs
def plain (name : String) (sup : Option ClassId) : Class where
  name := name
  kind := .ordinary
  loader := none
  accessFlags := 33
  super := sup
  interfaces := #[]
  cf := none
  fields := #[]
  methods := #[]
  instanceTypes := #[]
  staticTypes := #[]
  resolved := #[]
  callSites := []
  init := .initialized
  statics := none
  mirror := none

def pool0 : Array CpInfo := pool [(5, u "<init>"), (0, u "()V"), (1, .class_ 10), (1, u "java/lang/Object")] 113

def k0c0 : Code := { maxStack := 0, maxLocals := 1, code := object_method_1_code, exceptionTable := #[], attributes := #[] }
def k0m0 : Method := { name := "<init>", desc := "()V", sig := { parameters := [], returnType := none }, accessFlags := 1, code := some k0c0 }
/-- java/lang/Object -/
def k0 : Class := { plain "java/lang/Object" none with
  accessFlags := 33
  interfaces := #[]
  cf := some (fileOf pool0 8 #[] #[{ accessFlags := 1, nameIndex := 5, descriptorIndex := 6, attributes := #[] }] 33 0 #[] #[])
  fields := #[]
  methods := #[k0m0]
  instanceTypes := #[]
  staticTypes := #[]
  resolved := Array.replicate 124 none
  statics := none }

def pool1 : Array CpInfo := pool [(2, .class_ 4), (1, u "java/lang/Object"), (0, u "<init>"), (0, u "()V"), (0, .string 8), (0, u ""), (0, .methodref 10 11), (0, .class_ 12), (0, .nameAndType 13 14), (0, u "java/lang/String"), (0, u "valueOf"), (0, u "(C)Ljava/lang/String;"), (0, .methodref 10 16), (0, .nameAndType 5 17), (0, u "([C)V"), (0, .methodref 19 20), (0, .class_ 21), (0, .nameAndType 22 23), (0, u "underdeck/deck/ColumnRequiredPinLaw"), (0, u "drawn"), (0, u "(I)Ljava/lang/String;"), (0, .methodref 25 26), (0, .class_ 27), (0, .nameAndType 28 29), (0, u "java/util/Optional"), (0, u "of"), (0, u "(Ljava/lang/Object;)Ljava/util/Optional;"), (0, .methodref 25 31), (0, .nameAndType 32 33), (0, u "empty"), (0, u "()Ljava/util/Optional;"), (0, .fieldref 35 36), (0, .class_ 37), (0, .nameAndType 38 39), (0, u "underdeck/deck/Column$Identity"), (0, u "ALWAYS"), (0, u "Lunderdeck/deck/Column$Identity;"), (0, .fieldref 35 41), (0, .nameAndType 42 39), (0, u "BY_DEFAULT"), (0, .class_ 44), (0, u "underdeck/deck/Column"), (0, .methodref 43 46), (0, .nameAndType 5 47), (0, u "(Ljava/lang/String;Ljava/lang/String;ZLjava/util/Optional;Ljava/util/Optional;Ljava/util/Optional;)V"), (0, .methodref 43 49), (0, .nameAndType 50 51), (0, u "required"), (0, u "()Z"), (3, u "law"), (0, u "(III)Z")] 4

def k1m0 : Method := { name := "<init>", desc := "()V", sig := { parameters := [], returnType := none }, accessFlags := 1, code := none }
def k1c1 : Code := { maxStack := 2, maxLocals := 1, code := method_2_code, exceptionTable := #[], attributes := #[] }
def k1m1 : Method := { name := "drawn", desc := "(I)Ljava/lang/String;", sig := { parameters := [.int], returnType := some (.object "java/lang/String") }, accessFlags := 10, code := some k1c1 }
def k1c2 : Code := { maxStack := 8, maxLocals := 16, code := code, exceptionTable := #[], attributes := #[] }
def k1m2 : Method := { name := "law", desc := "(III)Z", sig := { parameters := [.int, .int, .int], returnType := some .boolean }, accessFlags := 9, code := some k1c2 }
/-- underdeck/deck/ColumnRequiredPinLaw -/
def k1 : Class := { plain "underdeck/deck/ColumnRequiredPinLaw" (some 0) with
  accessFlags := 49
  interfaces := #[]
  cf := some (fileOf pool1 19 #[] #[{ accessFlags := 1, nameIndex := 5, descriptorIndex := 6, attributes := #[] }, { accessFlags := 10, nameIndex := 22, descriptorIndex := 23, attributes := #[] }, { accessFlags := 9, nameIndex := 55, descriptorIndex := 56, attributes := #[] }] 49 2 #[] #[])
  fields := #[]
  methods := #[k1m0, k1m1, k1m2]
  instanceTypes := #[]
  staticTypes := #[]
  resolved := Array.replicate 61 none
  statics := none }

def pool2 : Array CpInfo := pool [(1, .class_ 2), (0, u "java/io/Serializable"), (0, .class_ 4), (0, u "java/lang/Object")] 2

/-- java/io/Serializable -/
def k2 : Class := { plain "java/io/Serializable" (some 0) with
  accessFlags := 1537
  interfaces := #[]
  cf := some (fileOf pool2 1 #[] #[] 1537 3 #[] #[])
  fields := #[]
  methods := #[]
  instanceTypes := #[]
  staticTypes := #[]
  resolved := Array.replicate 7 none
  statics := none }

def pool3 : Array CpInfo := pool [(1, .class_ 2), (0, u "java/lang/Comparable"), (0, .class_ 4), (0, u "java/lang/Object")] 7

/-- java/lang/Comparable -/
def k3 : Class := { plain "java/lang/Comparable" (some 0) with
  accessFlags := 1537
  interfaces := #[]
  cf := some (fileOf pool3 1 #[] #[] 1537 3 #[] #[])
  fields := #[]
  methods := #[]
  instanceTypes := #[]
  staticTypes := #[]
  resolved := Array.replicate 12 none
  statics := none }

def pool4 : Array CpInfo := pool [(2, .class_ 4), (1, u "java/lang/CharSequence"), (42, .class_ 48), (0, u "java/lang/CharSequence$1CodePointIterator"), (10, .class_ 60), (0, u "java/lang/CharSequence$1CharIterator"), (5, .class_ 67), (0, u "java/lang/Object")] 63

/-- java/lang/CharSequence -/
def k4 : Class := { plain "java/lang/CharSequence" (some 0) with
  accessFlags := 1537
  interfaces := #[]
  cf := some (fileOf pool4 2 #[.nestMembers #[47, 59]] #[] 1537 66 #[] #[])
  fields := #[]
  methods := #[]
  instanceTypes := #[]
  staticTypes := #[]
  resolved := Array.replicate 131 none
  statics := none }

def pool5 : Array CpInfo := pool [(1, .class_ 2), (0, u "java/lang/constant/Constable"), (0, .class_ 4), (0, u "java/lang/Object")] 6

/-- java/lang/constant/Constable -/
def k5 : Class := { plain "java/lang/constant/Constable" (some 0) with
  accessFlags := 1537
  interfaces := #[]
  cf := some (fileOf pool5 1 #[] #[] 1537 3 #[] #[])
  fields := #[]
  methods := #[]
  instanceTypes := #[]
  staticTypes := #[]
  resolved := Array.replicate 11 none
  statics := none }

def pool6 : Array CpInfo := pool [(1, .class_ 2), (0, u "java/lang/constant/ConstantDesc"), (0, .class_ 4), (0, u "java/lang/Object")] 32

/-- java/lang/constant/ConstantDesc -/
def k6 : Class := { plain "java/lang/constant/ConstantDesc" (some 0) with
  accessFlags := 1537
  interfaces := #[]
  cf := some (fileOf pool6 1 #[] #[] 1537 3 #[] #[])
  fields := #[]
  methods := #[]
  instanceTypes := #[]
  staticTypes := #[]
  resolved := Array.replicate 37 none
  statics := none }

def pool7 : Array CpInfo := pool [(1, .methodref 2 3), (0, .class_ 4), (0, .nameAndType 5 6), (0, u "java/lang/Object"), (0, u "<init>"), (0, u "()V"), (2, .fieldref 10 11), (0, .class_ 12), (0, .nameAndType 13 14), (0, u "java/lang/String"), (0, u "value"), (0, u "[B"), (0, .fieldref 10 16), (0, .nameAndType 17 18), (0, u "coder"), (0, u "B"), (2, u "hash"), (0, u "I"), (2, u "hashIsZero"), (0, u "Z"), (0, .methodref 10 28), (0, .nameAndType 5 29), (0, u "([CIILjava/lang/Void;)V"), (8, .fieldref 10 39), (0, .nameAndType 40 26), (0, u "COMPACT_STRINGS"), (1, .class_ 44), (1, u "java/lang/StringUTF16"), (0, u "compress"), (1, .methodref 42 48), (0, .nameAndType 49 50), (0, u "coderFromArrayLen"), (0, u "([BI)B"), (2, u "toBytes"), (53, .class_ 109), (1, u "java/lang/StringLatin1"), (67, .methodref 42 178), (0, .nameAndType 45 179), (0, u "([CII)[B"), (29, .methodref 10 210), (0, .nameAndType 5 211), (0, u "([BB)V"), (157, u "(C)Z"), (205, .class_ 576), (0, u "java/lang/CharSequence"), (22, u "CASE_INSENSITIVE_ORDER"), (0, u "Ljava/util/Comparator;"), (181, u "valueOf"), (0, u "(C)Ljava/lang/String;"), (226, u "([C)V"), (4, .methodref 107 1016), (0, .nameAndType 1017 369), (0, u "canEncode"), (0, .methodref 107 1019), (0, .nameAndType 53 1020), (0, u "(C)[B"), (80, u "serialPersistentFields"), (0, u "[Ljava/io/ObjectStreamField;"), (0, .class_ 1104), (0, u "java/lang/String$CaseInsensitiveComparator"), (1, .class_ 1107), (0, u "java/io/Serializable"), (0, .class_ 1109), (0, u "java/lang/Comparable"), (0, .class_ 1111), (0, u "java/lang/constant/Constable"), (0, .class_ 1113), (0, u "java/lang/constant/ConstantDesc"), (2, u "serialVersionUID"), (0, u "J"), (3, u "REPL"), (0, u "C"), (2, u "LATIN1"), (1, u "UTF16")] 323

def k7m0 : Method := { name := "<init>", desc := "()V", sig := { parameters := [], returnType := none }, accessFlags := 1, code := none }
def k7c1 : Code := { maxStack := 5, maxLocals := 2, code := jdk_42_method_3_code, exceptionTable := #[], attributes := #[] }
def k7m1 : Method := { name := "<init>", desc := "([C)V", sig := { parameters := [(.array .char)], returnType := none }, accessFlags := 1, code := some k7c1 }
def k7c2 : Code := { maxStack := 4, maxLocals := 1, code := jdk_42_method_139_code, exceptionTable := #[], attributes := #[] }
def k7m2 : Method := { name := "valueOf", desc := "(C)Ljava/lang/String;", sig := { parameters := [.char], returnType := some (.object "java/lang/String") }, accessFlags := 9, code := some k7c2 }
def k7c3 : Code := { maxStack := 4, maxLocals := 6, code := jdk_42_method_149_code, exceptionTable := #[], attributes := #[] }
def k7m3 : Method := { name := "<init>", desc := "([CIILjava/lang/Void;)V", sig := { parameters := [(.array .char), .int, .int, (.object "java/lang/Void")], returnType := none }, accessFlags := 2, code := some k7c3 }
def k7c4 : Code := { maxStack := 2, maxLocals := 3, code := jdk_42_method_151_code, exceptionTable := #[], attributes := #[] }
def k7m4 : Method := { name := "<init>", desc := "([BB)V", sig := { parameters := [(.array .byte), .byte], returnType := none }, accessFlags := 0, code := some k7c4 }
/-- java/lang/String -/
def k7 : Class := { plain "java/lang/String" (some 0) with
  accessFlags := 49
  interfaces := #[2, 3, 4, 5, 6]
  cf := some (fileOf pool7 10 #[.nestMembers #[1103]] #[{ accessFlags := 1, nameIndex := 5, descriptorIndex := 6, attributes := #[] }, { accessFlags := 1, nameIndex := 5, descriptorIndex := 1010, attributes := #[] }, { accessFlags := 9, nameIndex := 782, descriptorIndex := 783, attributes := #[] }, { accessFlags := 2, nameIndex := 5, descriptorIndex := 29, attributes := #[] }, { accessFlags := 0, nameIndex := 5, descriptorIndex := 211, attributes := #[] }] 49 2 #[1106, 1108, 575, 1110, 1112] #[{ accessFlags := 18, nameIndex := 13, descriptorIndex := 14, attributes := #[] }, { accessFlags := 18, nameIndex := 17, descriptorIndex := 18, attributes := #[] }, { accessFlags := 2, nameIndex := 21, descriptorIndex := 22, attributes := #[] }, { accessFlags := 2, nameIndex := 25, descriptorIndex := 26, attributes := #[] }, { accessFlags := 26, nameIndex := 1116, descriptorIndex := 1117, attributes := #[] }, { accessFlags := 24, nameIndex := 40, descriptorIndex := 26, attributes := #[] }, { accessFlags := 26, nameIndex := 1101, descriptorIndex := 1102, attributes := #[] }, { accessFlags := 26, nameIndex := 1121, descriptorIndex := 1122, attributes := #[] }, { accessFlags := 25, nameIndex := 599, descriptorIndex := 600, attributes := #[] }, { accessFlags := 24, nameIndex := 1125, descriptorIndex := 18, attributes := #[] }, { accessFlags := 24, nameIndex := 1127, descriptorIndex := 18, attributes := #[] }])
  fields := #[{ name := "value", type := (.array .byte), accessFlags := 18, slot := 0, constantValue := 0 }, { name := "coder", type := .byte, accessFlags := 18, slot := 1, constantValue := 0 }, { name := "hash", type := .int, accessFlags := 2, slot := 2, constantValue := 0 }, { name := "hashIsZero", type := .boolean, accessFlags := 2, slot := 3, constantValue := 0 }, { name := "serialVersionUID", type := .long, accessFlags := 26, slot := 0, constantValue := 0 }, { name := "COMPACT_STRINGS", type := .boolean, accessFlags := 24, slot := 1, constantValue := 0 }, { name := "serialPersistentFields", type := (.array (.object "java/io/ObjectStreamField")), accessFlags := 26, slot := 2, constantValue := 0 }, { name := "REPL", type := .char, accessFlags := 26, slot := 3, constantValue := 0 }, { name := "CASE_INSENSITIVE_ORDER", type := (.object "java/util/Comparator"), accessFlags := 25, slot := 4, constantValue := 0 }, { name := "LATIN1", type := .byte, accessFlags := 24, slot := 5, constantValue := 0 }, { name := "UTF16", type := .byte, accessFlags := 24, slot := 6, constantValue := 0 }]
  methods := #[k7m0, k7m1, k7m2, k7m3, k7m4]
  instanceTypes := #[(.array .byte), .byte, .int, .boolean]
  staticTypes := #[.long, .boolean, (.array (.object "java/io/ObjectStreamField")), .char, (.object "java/util/Comparator"), .byte, .byte]
  resolved := Array.replicate 1451 none
  statics := some 0 }

def pool8 : Array CpInfo := pool [(6, .class_ 8), (1, u "java/lang/Object"), (0, u "<init>"), (0, u "()V"), (1, .class_ 14), (1, u "java/lang/StringUTF16"), (31, u "$assertionsDisabled"), (0, u "Z"), (13, u "HI_BYTE_SHIFT"), (0, u "I"), (2, u "LO_BYTE_SHIFT"), (49, .methodref 12 116), (0, .nameAndType 117 118), (0, u "compress"), (0, u "([CI[BII)I"), (3, u "([CII)[B"), (138, u "coderFromArrayLen"), (0, u "([BI)B"), (106, .class_ 371), (1, u "java/lang/StringUTF16$LinesSpliterator"), (58, u "MAX_LENGTH"), (196, .class_ 628), (0, u "java/lang/StringUTF16$CodePointsSpliterator"), (0, .class_ 630), (0, u "java/lang/StringUTF16$CharsSpliterator")] 4

def k8m0 : Method := { name := "<init>", desc := "()V", sig := { parameters := [], returnType := none }, accessFlags := 0, code := none }
def k8c1 : Code := { maxStack := 2, maxLocals := 2, code := jdk_52_method_15_code, exceptionTable := #[], attributes := #[] }
def k8m1 : Method := { name := "coderFromArrayLen", desc := "([BI)B", sig := { parameters := [(.array .byte), .int], returnType := some .byte }, accessFlags := 8, code := some k8c1 }
def k8c2 : Code := { maxStack := 5, maxLocals := 6, code := jdk_52_method_16_code, exceptionTable := #[], attributes := #[] }
def k8m2 : Method := { name := "compress", desc := "([CII)[B", sig := { parameters := [(.array .char), .int, .int], returnType := some (.array .byte) }, accessFlags := 9, code := some k8c2 }
def k8c3 : Code := { maxStack := 3, maxLocals := 7, code := jdk_52_method_21_code, exceptionTable := #[], attributes := #[] }
def k8m3 : Method := { name := "compress", desc := "([CI[BII)I", sig := { parameters := [(.array .char), .int, (.array .byte), .int, .int], returnType := some .int }, accessFlags := 9, code := some k8c3 }
/-- java/lang/StringUTF16 -/
def k8 : Class := { plain "java/lang/StringUTF16" (some 0) with
  accessFlags := 48
  interfaces := #[]
  cf := some (fileOf pool8 12 #[.nestMembers #[627, 629, 369]] #[{ accessFlags := 0, nameIndex := 9, descriptorIndex := 10, attributes := #[] }, { accessFlags := 8, nameIndex := 261, descriptorIndex := 262, attributes := #[] }, { accessFlags := 9, nameIndex := 117, descriptorIndex := 122, attributes := #[] }, { accessFlags := 9, nameIndex := 117, descriptorIndex := 118, attributes := #[] }] 48 6 #[] #[{ accessFlags := 26, nameIndex := 61, descriptorIndex := 62, attributes := #[] }, { accessFlags := 26, nameIndex := 65, descriptorIndex := 62, attributes := #[] }, { accessFlags := 24, nameIndex := 430, descriptorIndex := 62, attributes := #[] }, { accessFlags := 4120, nameIndex := 46, descriptorIndex := 47, attributes := #[] }])
  fields := #[{ name := "HI_BYTE_SHIFT", type := .int, accessFlags := 26, slot := 0, constantValue := 0 }, { name := "LO_BYTE_SHIFT", type := .int, accessFlags := 26, slot := 1, constantValue := 0 }, { name := "MAX_LENGTH", type := .int, accessFlags := 24, slot := 2, constantValue := 0 }, { name := "$assertionsDisabled", type := .boolean, accessFlags := 4120, slot := 3, constantValue := 0 }]
  methods := #[k8m0, k8m1, k8m2, k8m3]
  instanceTypes := #[]
  staticTypes := #[.int, .int, .int, .boolean]
  resolved := Array.replicate 635 none
  statics := none }

def pool9 : Array CpInfo := pool [(4, .class_ 6), (1, u "java/lang/Object"), (0, u "<init>"), (0, u "()V"), (5, .class_ 16), (1, u "java/lang/StringLatin1"), (73, u "canEncode"), (14, u "(C)Z"), (15, u "$assertionsDisabled"), (0, u "Z"), (98, .class_ 223), (1, u "java/lang/StringLatin1$LinesSpliterator"), (156, u "toBytes"), (1, u "(C)[B"), (7, .class_ 391), (0, u "java/lang/StringLatin1$CharsSpliterator")] 3

def k9m0 : Method := { name := "<init>", desc := "()V", sig := { parameters := [], returnType := none }, accessFlags := 0, code := none }
def k9c1 : Code := { maxStack := 2, maxLocals := 1, code := jdk_43_method_3_code, exceptionTable := #[], attributes := #[] }
def k9m1 : Method := { name := "canEncode", desc := "(C)Z", sig := { parameters := [.char], returnType := some .boolean }, accessFlags := 9, code := some k9c1 }
def k9c2 : Code := { maxStack := 4, maxLocals := 1, code := jdk_43_method_46_code, exceptionTable := #[], attributes := #[] }
def k9m2 : Method := { name := "toBytes", desc := "(C)[B", sig := { parameters := [.char], returnType := some (.array .byte) }, accessFlags := 9, code := some k9c2 }
/-- java/lang/StringLatin1 -/
def k9 : Class := { plain "java/lang/StringLatin1" (some 0) with
  accessFlags := 48
  interfaces := #[]
  cf := some (fileOf pool9 14 #[.nestMembers #[390, 221]] #[{ accessFlags := 0, nameIndex := 7, descriptorIndex := 8, attributes := #[] }, { accessFlags := 9, nameIndex := 90, descriptorIndex := 105, attributes := #[] }, { accessFlags := 9, nameIndex := 380, descriptorIndex := 382, attributes := #[] }] 48 4 #[] #[{ accessFlags := 4120, nameIndex := 121, descriptorIndex := 122, attributes := #[] }])
  fields := #[{ name := "$assertionsDisabled", type := .boolean, accessFlags := 4120, slot := 0, constantValue := 0 }]
  methods := #[k9m0, k9m1, k9m2]
  instanceTypes := #[]
  staticTypes := #[.boolean]
  resolved := Array.replicate 395 none
  statics := none }

def pool10 : Array CpInfo := pool [(1, .fieldref 2 3), (0, .class_ 4), (0, .nameAndType 5 6), (0, u "java/util/Optional"), (0, u "EMPTY"), (0, u "Ljava/util/Optional;"), (0, .methodref 8 9), (0, .class_ 10), (0, .nameAndType 11 12), (0, u "java/lang/Object"), (0, u "<init>"), (0, u "()V"), (0, .fieldref 2 14), (0, .nameAndType 15 16), (0, u "value"), (0, u "Ljava/lang/Object;"), (0, .methodref 18 19), (0, .class_ 20), (0, .nameAndType 21 22), (0, u "java/util/Objects"), (0, u "requireNonNull"), (0, u "(Ljava/lang/Object;)Ljava/lang/Object;"), (0, .methodref 2 24), (0, .nameAndType 11 25), (0, u "(Ljava/lang/Object;)V"), (19, u "isEmpty"), (0, u "()Z"), (8, u "empty"), (0, u "()Ljava/util/Optional;"), (8, u "(Ljava/lang/Object;)Ljava/util/Optional;"), (16, u "of")] 104

def k10c0 : Code := { maxStack := 1, maxLocals := 1, code := jdk_32_method_1_code, exceptionTable := #[], attributes := #[] }
def k10m0 : Method := { name := "empty", desc := "()Ljava/util/Optional;", sig := { parameters := [], returnType := some (.object "java/util/Optional") }, accessFlags := 9, code := some k10c0 }
def k10c1 : Code := { maxStack := 2, maxLocals := 2, code := jdk_32_method_2_code, exceptionTable := #[], attributes := #[] }
def k10m1 : Method := { name := "<init>", desc := "(Ljava/lang/Object;)V", sig := { parameters := [(.object "java/lang/Object")], returnType := none }, accessFlags := 2, code := some k10c1 }
def k10c2 : Code := { maxStack := 3, maxLocals := 1, code := jdk_32_method_3_code, exceptionTable := #[], attributes := #[] }
def k10m2 : Method := { name := "of", desc := "(Ljava/lang/Object;)Ljava/util/Optional;", sig := { parameters := [(.object "java/lang/Object")], returnType := some (.object "java/util/Optional") }, accessFlags := 9, code := some k10c2 }
def k10c3 : Code := { maxStack := 1, maxLocals := 1, code := jdk_32_method_7_code, exceptionTable := #[], attributes := #[] }
def k10m3 : Method := { name := "isEmpty", desc := "()Z", sig := { parameters := [], returnType := some .boolean }, accessFlags := 1, code := some k10c3 }
/-- java/util/Optional -/
def k10 : Class := { plain "java/util/Optional" (some 0) with
  accessFlags := 49
  interfaces := #[]
  cf := some (fileOf pool10 2 #[] #[{ accessFlags := 9, nameIndex := 55, descriptorIndex := 56, attributes := #[] }, { accessFlags := 2, nameIndex := 11, descriptorIndex := 25, attributes := #[] }, { accessFlags := 9, nameIndex := 82, descriptorIndex := 65, attributes := #[] }, { accessFlags := 1, nameIndex := 45, descriptorIndex := 46, attributes := #[] }] 49 8 #[] #[{ accessFlags := 26, nameIndex := 5, descriptorIndex := 6, attributes := #[] }, { accessFlags := 18, nameIndex := 15, descriptorIndex := 16, attributes := #[] }])
  fields := #[{ name := "EMPTY", type := (.object "java/util/Optional"), accessFlags := 26, slot := 0, constantValue := 0 }, { name := "value", type := (.object "java/lang/Object"), accessFlags := 18, slot := 0, constantValue := 0 }]
  methods := #[k10m0, k10m1, k10m2, k10m3]
  instanceTypes := #[(.object "java/lang/Object")]
  staticTypes := #[(.object "java/util/Optional")]
  resolved := Array.replicate 187 none
  statics := some 1 }

def pool11 : Array CpInfo := pool [(1, .methodref 2 3), (0, .class_ 4), (0, .nameAndType 5 6), (0, u "java/lang/Object"), (0, u "<init>"), (0, u "()V"), (0, .class_ 8), (0, u "java/lang/Record")] 13

def k11c0 : Code := { maxStack := 1, maxLocals := 1, code := jdk_30_method_1_code, exceptionTable := #[], attributes := #[] }
def k11m0 : Method := { name := "<init>", desc := "()V", sig := { parameters := [], returnType := none }, accessFlags := 4, code := some k11c0 }
/-- java/lang/Record -/
def k11 : Class := { plain "java/lang/Record" (some 0) with
  accessFlags := 1057
  interfaces := #[]
  cf := some (fileOf pool11 7 #[] #[{ accessFlags := 4, nameIndex := 5, descriptorIndex := 6, attributes := #[] }] 1057 2 #[] #[])
  fields := #[]
  methods := #[k11m0]
  instanceTypes := #[]
  staticTypes := #[]
  resolved := Array.replicate 22 none
  statics := none }

def pool12 : Array CpInfo := pool [(1, .methodref 2 3), (0, .class_ 4), (0, .nameAndType 5 6), (0, u "java/lang/Record"), (0, u "<init>"), (0, u "()V"), (0, .string 8), (0, u "name"), (0, .methodref 10 11), (0, .class_ 12), (0, .nameAndType 13 14), (0, u "java/util/Objects"), (0, u "requireNonNull"), (0, u "(Ljava/lang/Object;Ljava/lang/String;)Ljava/lang/Object;"), (0, .string 16), (0, u "type"), (0, .string 18), (0, u "defaultValue"), (0, .string 20), (0, u "identity"), (0, .string 22), (0, u "generated"), (0, .fieldref 24 25), (0, .class_ 26), (0, .nameAndType 8 27), (0, u "underdeck/deck/Column"), (0, u "Ljava/lang/String;"), (0, .fieldref 24 29), (0, .nameAndType 16 27), (0, .fieldref 24 31), (0, .nameAndType 32 33), (0, u "nullable"), (0, u "Z"), (0, .fieldref 24 35), (0, .nameAndType 18 36), (0, u "Ljava/util/Optional;"), (0, .fieldref 24 38), (0, .nameAndType 20 36), (0, .fieldref 24 40), (0, .nameAndType 22 36), (8, u "TYPE_MODIFIER"), (0, u "Ljava/util/regex/Pattern;"), (30, u "LENGTH"), (3, u "()Z"), (22, u "SINGLE_PRECISION"), (0, u "Ljava/util/List;"), (11, u "DOUBLE_PRECISION"), (5, .methodref 128 129), (0, .class_ 130), (0, .nameAndType 131 85), (0, u "java/util/Optional"), (0, u "isEmpty"), (4, .class_ 138), (1, u "underdeck/deck/Column$Identity"), (51, u "BIT_STRING"), (1, u "ZEROFILL"), (0, u "(Ljava/lang/String;Ljava/lang/String;ZLjava/util/Optional;Ljava/util/Optional;Ljava/util/Optional;)V"), (11, u "required")] 46

def k12c0 : Code := { maxStack := 2, maxLocals := 7, code := prog_17_method_1_code, exceptionTable := #[], attributes := #[] }
def k12m0 : Method := { name := "<init>", desc := "(Ljava/lang/String;Ljava/lang/String;ZLjava/util/Optional;Ljava/util/Optional;Ljava/util/Optional;)V", sig := { parameters := [(.object "java/lang/String"), (.object "java/lang/String"), .boolean, (.object "java/util/Optional"), (.object "java/util/Optional"), (.object "java/util/Optional")], returnType := none }, accessFlags := 1, code := some k12c0 }
def k12c1 : Code := { maxStack := 1, maxLocals := 1, code := prog_17_method_10_code, exceptionTable := #[], attributes := #[] }
def k12m1 : Method := { name := "required", desc := "()Z", sig := { parameters := [], returnType := some .boolean }, accessFlags := 1, code := some k12c1 }
/-- underdeck/deck/Column -/
def k12 : Class := { plain "underdeck/deck/Column" (some 11) with
  accessFlags := 49
  interfaces := #[]
  cf := some (fileOf pool12 24 #[.nestMembers #[136]] #[{ accessFlags := 1, nameIndex := 5, descriptorIndex := 193, attributes := #[] }, { accessFlags := 1, nameIndex := 205, descriptorIndex := 85, attributes := #[] }] 49 2 #[] #[{ accessFlags := 18, nameIndex := 8, descriptorIndex := 27, attributes := #[] }, { accessFlags := 18, nameIndex := 16, descriptorIndex := 27, attributes := #[] }, { accessFlags := 18, nameIndex := 32, descriptorIndex := 33, attributes := #[] }, { accessFlags := 18, nameIndex := 18, descriptorIndex := 36, attributes := #[] }, { accessFlags := 18, nameIndex := 20, descriptorIndex := 36, attributes := #[] }, { accessFlags := 18, nameIndex := 22, descriptorIndex := 36, attributes := #[] }, { accessFlags := 25, nameIndex := 108, descriptorIndex := 109, attributes := #[] }, { accessFlags := 25, nameIndex := 121, descriptorIndex := 109, attributes := #[] }, { accessFlags := 25, nameIndex := 190, descriptorIndex := 27, attributes := #[] }, { accessFlags := 26, nameIndex := 192, descriptorIndex := 27, attributes := #[] }, { accessFlags := 26, nameIndex := 49, descriptorIndex := 50, attributes := #[] }, { accessFlags := 26, nameIndex := 81, descriptorIndex := 50, attributes := #[] }])
  fields := #[{ name := "name", type := (.object "java/lang/String"), accessFlags := 18, slot := 0, constantValue := 0 }, { name := "type", type := (.object "java/lang/String"), accessFlags := 18, slot := 1, constantValue := 0 }, { name := "nullable", type := .boolean, accessFlags := 18, slot := 2, constantValue := 0 }, { name := "defaultValue", type := (.object "java/util/Optional"), accessFlags := 18, slot := 3, constantValue := 0 }, { name := "identity", type := (.object "java/util/Optional"), accessFlags := 18, slot := 4, constantValue := 0 }, { name := "generated", type := (.object "java/util/Optional"), accessFlags := 18, slot := 5, constantValue := 0 }, { name := "SINGLE_PRECISION", type := (.object "java/util/List"), accessFlags := 25, slot := 0, constantValue := 0 }, { name := "DOUBLE_PRECISION", type := (.object "java/util/List"), accessFlags := 25, slot := 1, constantValue := 0 }, { name := "BIT_STRING", type := (.object "java/lang/String"), accessFlags := 25, slot := 2, constantValue := 0 }, { name := "ZEROFILL", type := (.object "java/lang/String"), accessFlags := 26, slot := 3, constantValue := 0 }, { name := "TYPE_MODIFIER", type := (.object "java/util/regex/Pattern"), accessFlags := 26, slot := 4, constantValue := 0 }, { name := "LENGTH", type := (.object "java/util/regex/Pattern"), accessFlags := 26, slot := 5, constantValue := 0 }]
  methods := #[k12m0, k12m1]
  instanceTypes := #[(.object "java/lang/String"), (.object "java/lang/String"), .boolean, (.object "java/util/Optional"), (.object "java/util/Optional"), (.object "java/util/Optional")]
  staticTypes := #[(.object "java/util/List"), (.object "java/util/List"), (.object "java/lang/String"), (.object "java/lang/String"), (.object "java/util/regex/Pattern"), (.object "java/util/regex/Pattern")]
  resolved := Array.replicate 252 none
  statics := none }

def pool13 : Array CpInfo := pool [(2, .class_ 4), (1, u "java/lang/Object"), (0, u "<init>"), (0, u "()V"), (35, .class_ 44), (1, u "java/util/Objects"), (0, u "requireNonNull"), (0, u "(Ljava/lang/Object;)Ljava/lang/Object;"), (47, u "(Ljava/lang/Object;Ljava/lang/String;)Ljava/lang/Object;")] 89

def k13m0 : Method := { name := "<init>", desc := "()V", sig := { parameters := [], returnType := none }, accessFlags := 2, code := none }
def k13c1 : Code := { maxStack := 2, maxLocals := 1, code := jdk_31_method_10_code, exceptionTable := #[], attributes := #[] }
def k13m1 : Method := { name := "requireNonNull", desc := "(Ljava/lang/Object;)Ljava/lang/Object;", sig := { parameters := [(.object "java/lang/Object")], returnType := some (.object "java/lang/Object") }, accessFlags := 9, code := some k13c1 }
def k13c2 : Code := { maxStack := 3, maxLocals := 2, code := jdk_31_method_11_code, exceptionTable := #[], attributes := #[] }
def k13m2 : Method := { name := "requireNonNull", desc := "(Ljava/lang/Object;Ljava/lang/String;)Ljava/lang/Object;", sig := { parameters := [(.object "java/lang/Object"), (.object "java/lang/String")], returnType := some (.object "java/lang/Object") }, accessFlags := 9, code := some k13c2 }
/-- java/util/Objects -/
def k13 : Class := { plain "java/util/Objects" (some 0) with
  accessFlags := 49
  interfaces := #[]
  cf := some (fileOf pool13 42 #[] #[{ accessFlags := 2, nameIndex := 5, descriptorIndex := 6, attributes := #[] }, { accessFlags := 9, nameIndex := 45, descriptorIndex := 46, attributes := #[] }, { accessFlags := 9, nameIndex := 45, descriptorIndex := 94, attributes := #[] }] 49 2 #[] #[])
  fields := #[]
  methods := #[k13m0, k13m1, k13m2]
  instanceTypes := #[]
  staticTypes := #[]
  resolved := Array.replicate 184 none
  statics := none }

def pool14 : Array CpInfo := pool [(2, .class_ 4), (1, u "java/lang/Enum"), (0, u "name"), (0, u "Ljava/lang/String;"), (2, u "ordinal"), (0, u "I"), (1, .class_ 14), (1, u "java/lang/Object"), (4, u "hash"), (86, .class_ 108), (1, u "java/lang/Enum$EnumDesc"), (2, .class_ 112), (0, u "java/lang/constant/Constable"), (0, .class_ 114), (0, u "java/lang/Comparable"), (0, .class_ 116), (0, u "java/io/Serializable")] 87

/-- java/lang/Enum -/
def k14 : Class := { plain "java/lang/Enum" (some 0) with
  accessFlags := 1057
  interfaces := #[5, 3, 2]
  cf := some (fileOf pool14 2 #[.nestMembers #[106]] #[] 1057 12 #[111, 113, 115] #[{ accessFlags := 18, nameIndex := 5, descriptorIndex := 6, attributes := #[] }, { accessFlags := 18, nameIndex := 9, descriptorIndex := 10, attributes := #[] }, { accessFlags := 2, nameIndex := 19, descriptorIndex := 10, attributes := #[] }])
  fields := #[{ name := "name", type := (.object "java/lang/String"), accessFlags := 18, slot := 0, constantValue := 0 }, { name := "ordinal", type := .int, accessFlags := 18, slot := 1, constantValue := 0 }, { name := "hash", type := .int, accessFlags := 2, slot := 2, constantValue := 0 }]
  methods := #[]
  instanceTypes := #[(.object "java/lang/String"), .int, .int]
  staticTypes := #[]
  resolved := Array.replicate 204 none
  statics := none }

def pool15 : Array CpInfo := pool [(1, .class_ 2), (0, u "underdeck/deck/Column$Identity"), (2, u "ALWAYS"), (0, u "Lunderdeck/deck/Column$Identity;"), (2, u "BY_DEFAULT"), (2, u "$VALUES"), (0, u "[Lunderdeck/deck/Column$Identity;"), (6, .class_ 22), (1, u "java/lang/Enum"), (8, u "text"), (0, u "Ljava/lang/String;"), (48, .class_ 82), (0, u "underdeck/deck/Column")] 2

/-- underdeck/deck/Column$Identity -/
def k15 : Class := { plain "underdeck/deck/Column$Identity" (some 14) with
  accessFlags := 16433
  interfaces := #[]
  cf := some (fileOf pool15 1 #[.nestHost 81] #[] 16433 20 #[] #[{ accessFlags := 16409, nameIndex := 5, descriptorIndex := 6, attributes := #[] }, { accessFlags := 16409, nameIndex := 9, descriptorIndex := 6, attributes := #[] }, { accessFlags := 18, nameIndex := 31, descriptorIndex := 32, attributes := #[] }, { accessFlags := 4122, nameIndex := 12, descriptorIndex := 13, attributes := #[] }])
  fields := #[{ name := "ALWAYS", type := (.object "underdeck/deck/Column$Identity"), accessFlags := 16409, slot := 0, constantValue := 0 }, { name := "BY_DEFAULT", type := (.object "underdeck/deck/Column$Identity"), accessFlags := 16409, slot := 1, constantValue := 0 }, { name := "text", type := (.object "java/lang/String"), accessFlags := 18, slot := 3, constantValue := 0 }, { name := "$VALUES", type := (.array (.object "underdeck/deck/Column$Identity")), accessFlags := 4122, slot := 2, constantValue := 0 }]
  methods := #[]
  instanceTypes := #[(.object "java/lang/String"), .int, .int, (.object "java/lang/String")]
  staticTypes := #[(.object "underdeck/deck/Column$Identity"), (.object "underdeck/deck/Column$Identity"), (.array (.object "underdeck/deck/Column$Identity"))]
  resolved := Array.replicate 85 none
  statics := some 2 }

def pool16 : Array CpInfo := pool [(2, .class_ 4), (1, u "java/lang/Object"), (0, u "<init>"), (0, u "()V"), (17, .class_ 26), (1, u "jdk/internal/util/Preconditions"), (28, .class_ 56), (0, u "jdk/internal/util/Preconditions$4"), (57, .class_ 115), (0, u "jdk/internal/util/Preconditions$1"), (7, u "SIOOBE_FORMATTER"), (0, u "Ljava/util/function/BiFunction;"), (0, .class_ 126), (0, u "jdk/internal/util/Preconditions$2"), (3, u "AIOOBE_FORMATTER"), (0, .class_ 132), (0, u "jdk/internal/util/Preconditions$3"), (3, u "IOOBE_FORMATTER")] 57

def k16m0 : Method := { name := "<init>", desc := "()V", sig := { parameters := [], returnType := none }, accessFlags := 1, code := none }
/-- jdk/internal/util/Preconditions -/
def k16 : Class := { plain "jdk/internal/util/Preconditions" (some 0) with
  accessFlags := 33
  interfaces := #[]
  cf := some (fileOf pool16 24 #[.nestMembers #[55, 131, 125, 114]] #[{ accessFlags := 1, nameIndex := 5, descriptorIndex := 6, attributes := #[] }] 33 2 #[] #[{ accessFlags := 25, nameIndex := 123, descriptorIndex := 124, attributes := #[] }, { accessFlags := 25, nameIndex := 130, descriptorIndex := 124, attributes := #[] }, { accessFlags := 25, nameIndex := 136, descriptorIndex := 124, attributes := #[] }])
  fields := #[{ name := "SIOOBE_FORMATTER", type := (.object "java/util/function/BiFunction"), accessFlags := 25, slot := 0, constantValue := 0 }, { name := "AIOOBE_FORMATTER", type := (.object "java/util/function/BiFunction"), accessFlags := 25, slot := 1, constantValue := 0 }, { name := "IOOBE_FORMATTER", type := (.object "java/util/function/BiFunction"), accessFlags := 25, slot := 2, constantValue := 0 }]
  methods := #[k16m0]
  instanceTypes := #[]
  staticTypes := #[(.object "java/util/function/BiFunction"), (.object "java/util/function/BiFunction"), (.object "java/util/function/BiFunction")]
  resolved := Array.replicate 194 none
  statics := some 3 }

def pool17 : Array CpInfo := pool [(9, u "<init>"), (6, .class_ 18), (1, u "java/lang/Object"), (0, u "()V"), (1, .class_ 23), (1, u "jdk/internal/util/ArraysSupport"), (0, u "LOG2_ARRAY_LONG_INDEX_SCALE"), (0, u "I"), (2, u "U"), (0, u "Ljdk/internal/misc/Unsafe;"), (8, u "BIG_ENDIAN"), (0, u "Z"), (8, u "LOG2_BYTE_BIT_SIZE"), (4, u "LOG2_ARRAY_INT_INDEX_SCALE"), (54, u "JLA"), (0, u "Ljdk/internal/access/JavaLangAccess;"), (11, u "LOG2_ARRAY_BOOLEAN_INDEX_SCALE"), (9, u "LOG2_ARRAY_BYTE_INDEX_SCALE"), (5, u "LOG2_ARRAY_CHAR_INDEX_SCALE"), (5, u "LOG2_ARRAY_SHORT_INDEX_SCALE"), (18, u "LOG2_ARRAY_FLOAT_INDEX_SCALE"), (24, u "LOG2_ARRAY_DOUBLE_INDEX_SCALE"), (89, u "T_BOOLEAN"), (2, u "T_CHAR"), (1, u "T_FLOAT"), (1, u "T_DOUBLE"), (1, u "T_BYTE"), (1, u "T_SHORT"), (1, u "T_INT"), (1, u "T_LONG"), (1, u "SOFT_MAX_ARRAY_LENGTH")] 83

def k17m0 : Method := { name := "<init>", desc := "()V", sig := { parameters := [], returnType := none }, accessFlags := 2, code := none }
/-- jdk/internal/util/ArraysSupport -/
def k17 : Class := { plain "jdk/internal/util/ArraysSupport" (some 0) with
  accessFlags := 33
  interfaces := #[]
  cf := some (fileOf pool17 21 #[] #[{ accessFlags := 2, nameIndex := 9, descriptorIndex := 19, attributes := #[] }] 33 16 #[] #[{ accessFlags := 24, nameIndex := 28, descriptorIndex := 29, attributes := #[] }, { accessFlags := 26, nameIndex := 38, descriptorIndex := 39, attributes := #[] }, { accessFlags := 25, nameIndex := 121, descriptorIndex := 25, attributes := #[] }, { accessFlags := 25, nameIndex := 131, descriptorIndex := 25, attributes := #[] }, { accessFlags := 25, nameIndex := 137, descriptorIndex := 25, attributes := #[] }, { accessFlags := 25, nameIndex := 143, descriptorIndex := 25, attributes := #[] }, { accessFlags := 25, nameIndex := 53, descriptorIndex := 25, attributes := #[] }, { accessFlags := 25, nameIndex := 24, descriptorIndex := 25, attributes := #[] }, { accessFlags := 25, nameIndex := 162, descriptorIndex := 25, attributes := #[] }, { accessFlags := 25, nameIndex := 187, descriptorIndex := 25, attributes := #[] }, { accessFlags := 26, nameIndex := 48, descriptorIndex := 25, attributes := #[] }, { accessFlags := 25, nameIndex := 277, descriptorIndex := 25, attributes := #[] }, { accessFlags := 25, nameIndex := 280, descriptorIndex := 25, attributes := #[] }, { accessFlags := 25, nameIndex := 282, descriptorIndex := 25, attributes := #[] }, { accessFlags := 25, nameIndex := 284, descriptorIndex := 25, attributes := #[] }, { accessFlags := 25, nameIndex := 286, descriptorIndex := 25, attributes := #[] }, { accessFlags := 25, nameIndex := 288, descriptorIndex := 25, attributes := #[] }, { accessFlags := 25, nameIndex := 290, descriptorIndex := 25, attributes := #[] }, { accessFlags := 25, nameIndex := 292, descriptorIndex := 25, attributes := #[] }, { accessFlags := 26, nameIndex := 108, descriptorIndex := 109, attributes := #[] }, { accessFlags := 25, nameIndex := 294, descriptorIndex := 25, attributes := #[] }])
  fields := #[{ name := "U", type := (.object "jdk/internal/misc/Unsafe"), accessFlags := 24, slot := 0, constantValue := 0 }, { name := "BIG_ENDIAN", type := .boolean, accessFlags := 26, slot := 1, constantValue := 0 }, { name := "LOG2_ARRAY_BOOLEAN_INDEX_SCALE", type := .int, accessFlags := 25, slot := 2, constantValue := 0 }, { name := "LOG2_ARRAY_BYTE_INDEX_SCALE", type := .int, accessFlags := 25, slot := 3, constantValue := 0 }, { name := "LOG2_ARRAY_CHAR_INDEX_SCALE", type := .int, accessFlags := 25, slot := 4, constantValue := 0 }, { name := "LOG2_ARRAY_SHORT_INDEX_SCALE", type := .int, accessFlags := 25, slot := 5, constantValue := 0 }, { name := "LOG2_ARRAY_INT_INDEX_SCALE", type := .int, accessFlags := 25, slot := 6, constantValue := 0 }, { name := "LOG2_ARRAY_LONG_INDEX_SCALE", type := .int, accessFlags := 25, slot := 7, constantValue := 0 }, { name := "LOG2_ARRAY_FLOAT_INDEX_SCALE", type := .int, accessFlags := 25, slot := 8, constantValue := 0 }, { name := "LOG2_ARRAY_DOUBLE_INDEX_SCALE", type := .int, accessFlags := 25, slot := 9, constantValue := 0 }, { name := "LOG2_BYTE_BIT_SIZE", type := .int, accessFlags := 26, slot := 10, constantValue := 0 }, { name := "T_BOOLEAN", type := .int, accessFlags := 25, slot := 11, constantValue := 0 }, { name := "T_CHAR", type := .int, accessFlags := 25, slot := 12, constantValue := 0 }, { name := "T_FLOAT", type := .int, accessFlags := 25, slot := 13, constantValue := 0 }, { name := "T_DOUBLE", type := .int, accessFlags := 25, slot := 14, constantValue := 0 }, { name := "T_BYTE", type := .int, accessFlags := 25, slot := 15, constantValue := 0 }, { name := "T_SHORT", type := .int, accessFlags := 25, slot := 16, constantValue := 0 }, { name := "T_INT", type := .int, accessFlags := 25, slot := 17, constantValue := 0 }, { name := "T_LONG", type := .int, accessFlags := 25, slot := 18, constantValue := 0 }, { name := "JLA", type := (.object "jdk/internal/access/JavaLangAccess"), accessFlags := 26, slot := 19, constantValue := 0 }, { name := "SOFT_MAX_ARRAY_LENGTH", type := .int, accessFlags := 25, slot := 20, constantValue := 0 }]
  methods := #[k17m0]
  instanceTypes := #[]
  staticTypes := #[(.object "jdk/internal/misc/Unsafe"), .boolean, .int, .int, .int, .int, .int, .int, .int, .int, .int, .int, .int, .int, .int, .int, .int, .int, .int, (.object "jdk/internal/access/JavaLangAccess"), .int]
  resolved := Array.replicate 378 none
  statics := none }

def pool18 : Array CpInfo := pool [(1, u "java/lang/Cloneable"), (0, .class_ 1), (0, u "java/lang/Object"), (0, .class_ 3)] 3

/-- java/lang/Cloneable -/
def k18 : Class := { plain "java/lang/Cloneable" (some 0) with
  accessFlags := 1537
  interfaces := #[]
  cf := some (fileOf pool18 2 #[] #[] 1537 4 #[] #[])
  fields := #[]
  methods := #[]
  instanceTypes := #[]
  staticTypes := #[]
  resolved := Array.replicate 8 none
  statics := none }

/-- the primitive byte -/
def k19 : Class := { plain "byte" none with kind := .primitive 'B', accessFlags := 0x411 }
/-- [B -/
def k20 : Class := { plain "[B" (some 0) with kind := .array 19 .byte, interfaces := #[18, 2], accessFlags := 1041 }

/-- the primitive char -/
def k21 : Class := { plain "char" none with kind := .primitive 'C', accessFlags := 0x411 }
/-- [C -/
def k22 : Class := { plain "[C" (some 0) with kind := .array 21 .char, interfaces := #[18, 2], accessFlags := 1041 }

/-- the primitive int -/
def k23 : Class := { plain "int" none with kind := .primitive 'I', accessFlags := 0x411 }
/-- [I -/
def k24 : Class := { plain "[I" (some 0) with kind := .array 23 .int, interfaces := #[18, 2], accessFlags := 1041 }

def heap : Heap := #[{ cls := 7, slots := #[.long 0, .int 1, .null, .int 0, .null, .int 0, .int 0], vm := .statics 7 },
  { cls := 10, slots := #[.ref 6], vm := .statics 10 },
  { cls := 15, slots := #[.ref 4, .ref 5, .null], vm := .statics 15 },
  { cls := 16, slots := #[.null, .null, .null], vm := .statics 16 },
  { cls := 15, slots := #[.null, .int 0, .int 0, .null], vm := .none },
  { cls := 15, slots := #[.null, .int 0, .int 0, .null], vm := .none },
  { cls := 10, slots := #[.null], vm := .none }]
def classes : Array Class := #[k0, k1, k2, k3, k4, k5, k6, k7, k8, k9, k10, k11, k12, k13, k14, k15, k16, k17, k18, k19, k20, k21, k22, k23, k24]
def interned : List (Array UInt16 × Addr) := []
def slotsUsed : Nat := 23
def theMethod : MethodId := ⟨1, 2⟩
def args0 : Array Value := #[.int 1, .int 2, .int 3]
def aboutOver (below : List Frame) : State where
  vm := { classes := classes, interned := interned.toArray }
  heap := heap
  slotsUsed := slotsUsed
  threads := #[{ frames := .invoking theMethod args0 :: below }]
def below0 : List Frame := [.native { method := ⟨0, 0⟩, args := #[] }]
def about1 : State := aboutOver below0
def p0 : Program := .bare "" "" ""
def e0 : Env := launch0.env 0 0 0
theorem w_frames : about1.frames = Frame.invoking theMethod args0 :: below0 := rfl
set_option maxRecDepth 65536 in
theorem w_args : argsFit about1.vm theMethod args0 = true := by decide +kernel
set_option maxRecDepth 65536 in
theorem w_heap : heapFits about1 = true := by decide +kernel
set_option maxRecDepth 65536 in
theorem w_runnable : about1.curStatus? = some .runnable := by decide +kernel
set_option maxRecDepth 65536 in
theorem w_alone : about1.alone = true := by decide +kernel
set_option maxRecDepth 65536 in
theorem w_named : about1.methodNamed? x = some theMethod := by decide +kernel
set_option maxRecDepth 65536 in
theorem w_hears : about1.hears theMethod below0 = true := by decide +kernel
set_option maxRecDepth 65536 in
theorem w_ripe : about1.ripe theMethod args0 below0 = true := by decide +kernel
theorem w_running : about1.status = .running := rfl
set_option maxRecDepth 65536 in
theorem w_room : about1.hasRoom e0.platform room_1 = true :=
  launch0.hasRoom_least _ room_1 (by decide +kernel) (by decide +kernel) (by decide +kernel) (by decide +kernel) (by decide +kernel) (by decide +kernel)
theorem allAtoms_all (ts : List Jvm.Cond) (a : Array Jvm.Value) (st : Jvm.State) : (allAtoms ts).before a st = ts.all (fun c => c.before a st) := by
  induction ts with
  | nil => rfl
  | cons c t ih =>
    show (Jvm.Cond.and c (allAtoms t)).before a st = _
    rw [Jvm.Cond.before_and, ih, List.all_cons]
def words1 : List Jvm.Cond := Jvm.Cond.code x code maxLocals ret :: tables_1
/-- a 'code' word, met by the world's own term for the bytes: nothing is compared byte by byte -/
theorem code_word {y : MethodName} {bytes : ByteArray} {mx : Nat} {rt : Option FieldType} {a : Array Value} {s : State} {m : MethodId} {meth : Method} {c : Code} (h1 : s.methodNamed? y = some m) (h2 : s.vm.method? m = some meth) (h3 : meth.code = some c) (h4 : c.code = bytes)
    (h5 : (c.maxLocals == mx && c.exceptionTable.isEmpty && decide (c.maxStack ≤ mostOperands) && decide (meth.sig.returnType = rt) && !meth.locks && decide (parseMethodDescriptor y.desc = some meth.sig)) = true) : (Jvm.Cond.code y bytes mx rt).before a s = true := by
  simp only [Bool.and_eq_true, beq_iff_eq, Bool.not_eq_true', decide_eq_true_eq] at h5
  obtain ⟨⟨⟨⟨⟨g1, g2⟩, g3⟩, g4⟩, g5⟩, g6⟩ := h5
  simp [Cond.before, Cond.holds, Cond.value, h1, h2, h3, h4, g1, g2, g3, g4, g5, g6]
def isCode : Jvm.Cond → Bool
  | .code _ _ _ _ => true
  | _ => false
theorem all_split {L : List Jvm.Cond} {P : Jvm.Cond → Bool} (h1 : L.all (fun c => isCode c || P c) = true) (h2 : ∀ c ∈ L.filter isCode, P c = true) : L.all P = true := by
  refine List.all_eq_true.mpr fun c hc => ?_
  have h := List.all_eq_true.mp h1 c hc
  rcases Bool.eq_false_or_eq_true (isCode c) with hi | hi
  · exact h2 c (List.mem_filter.mpr ⟨hc, hi⟩)
  · simpa [hi] using h
set_option maxRecDepth 65536 in
theorem w_c0 : (Jvm.Cond.code x code maxLocals ret).before args0 about1 = true := code_word (m := ⟨1, 2⟩) (meth := k1m2) (c := k1c2) (by decide +kernel) rfl rfl rfl (by decide +kernel)
set_option maxRecDepth 65536 in
theorem w_c1 : (Jvm.Cond.code ({ cls := "java/lang/String", name := "<init>", desc := "([C)V" } : Jvm.MethodName) jdk_42_method_3_code (2 : Nat) (Option.none : Option Jvm.ClassFile.FieldType)).before args0 about1 = true := code_word (m := ⟨7, 1⟩) (meth := k7m1) (c := k7c1) (by decide +kernel) rfl rfl rfl (by decide +kernel)
set_option maxRecDepth 65536 in
theorem w_c2 : (Jvm.Cond.code ({ cls := "java/lang/String", name := "<init>", desc := "([CIILjava/lang/Void;)V" } : Jvm.MethodName) jdk_42_method_149_code (6 : Nat) (Option.none : Option Jvm.ClassFile.FieldType)).before args0 about1 = true := code_word (m := ⟨7, 3⟩) (meth := k7m3) (c := k7c3) (by decide +kernel) rfl rfl rfl (by decide +kernel)
set_option maxRecDepth 65536 in
theorem w_c3 : (Jvm.Cond.code ({ cls := "java/lang/Object", name := "<init>", desc := "()V" } : Jvm.MethodName) object_method_1_code (1 : Nat) (Option.none : Option Jvm.ClassFile.FieldType)).before args0 about1 = true := code_word (m := ⟨0, 0⟩) (meth := k0m0) (c := k0c0) (by decide +kernel) rfl rfl rfl (by decide +kernel)
set_option maxRecDepth 65536 in
theorem w_c4 : (Jvm.Cond.code ({ cls := "java/lang/StringUTF16", name := "compress", desc := "([CII)[B" } : Jvm.MethodName) jdk_52_method_16_code (6 : Nat) (Option.some (Jvm.ClassFile.FieldType.array Jvm.ClassFile.FieldType.byte))).before args0 about1 = true := code_word (m := ⟨8, 2⟩) (meth := k8m2) (c := k8c2) (by decide +kernel) rfl rfl rfl (by decide +kernel)
set_option maxRecDepth 65536 in
theorem w_c5 : (Jvm.Cond.code ({ cls := "java/lang/StringUTF16", name := "compress", desc := "([CI[BII)I" } : Jvm.MethodName) jdk_52_method_21_code (7 : Nat) (Option.some Jvm.ClassFile.FieldType.int)).before args0 about1 = true := code_word (m := ⟨8, 3⟩) (meth := k8m3) (c := k8c3) (by decide +kernel) rfl rfl rfl (by decide +kernel)
set_option maxRecDepth 65536 in
theorem w_c6 : (Jvm.Cond.code ({ cls := "java/lang/StringUTF16", name := "coderFromArrayLen", desc := "([BI)B" } : Jvm.MethodName) jdk_52_method_15_code (2 : Nat) (Option.some Jvm.ClassFile.FieldType.byte)).before args0 about1 = true := code_word (m := ⟨8, 1⟩) (meth := k8m1) (c := k8c1) (by decide +kernel) rfl rfl rfl (by decide +kernel)
set_option maxRecDepth 65536 in
theorem w_c7 : (Jvm.Cond.code ({ cls := "java/lang/String", name := "valueOf", desc := "(C)Ljava/lang/String;" } : Jvm.MethodName) jdk_42_method_139_code (1 : Nat) (Option.some (Jvm.ClassFile.FieldType.object "java/lang/String"))).before args0 about1 = true := code_word (m := ⟨7, 2⟩) (meth := k7m2) (c := k7c2) (by decide +kernel) rfl rfl rfl (by decide +kernel)
set_option maxRecDepth 65536 in
theorem w_c8 : (Jvm.Cond.code ({ cls := "java/lang/StringLatin1", name := "canEncode", desc := "(C)Z" } : Jvm.MethodName) jdk_43_method_3_code (1 : Nat) (Option.some Jvm.ClassFile.FieldType.boolean)).before args0 about1 = true := code_word (m := ⟨9, 1⟩) (meth := k9m1) (c := k9c1) (by decide +kernel) rfl rfl rfl (by decide +kernel)
set_option maxRecDepth 65536 in
theorem w_c9 : (Jvm.Cond.code ({ cls := "java/lang/StringLatin1", name := "toBytes", desc := "(C)[B" } : Jvm.MethodName) jdk_43_method_46_code (1 : Nat) (Option.some (Jvm.ClassFile.FieldType.array Jvm.ClassFile.FieldType.byte))).before args0 about1 = true := code_word (m := ⟨9, 2⟩) (meth := k9m2) (c := k9c2) (by decide +kernel) rfl rfl rfl (by decide +kernel)
set_option maxRecDepth 65536 in
theorem w_c10 : (Jvm.Cond.code ({ cls := "java/lang/String", name := "<init>", desc := "([BB)V" } : Jvm.MethodName) jdk_42_method_151_code (3 : Nat) (Option.none : Option Jvm.ClassFile.FieldType)).before args0 about1 = true := code_word (m := ⟨7, 4⟩) (meth := k7m4) (c := k7c4) (by decide +kernel) rfl rfl rfl (by decide +kernel)
set_option maxRecDepth 65536 in
theorem w_c11 : (Jvm.Cond.code ({ cls := "underdeck/deck/ColumnRequiredPinLaw", name := "drawn", desc := "(I)Ljava/lang/String;" } : Jvm.MethodName) method_2_code (1 : Nat) (Option.some (Jvm.ClassFile.FieldType.object "java/lang/String"))).before args0 about1 = true := code_word (m := ⟨1, 1⟩) (meth := k1m1) (c := k1c1) (by decide +kernel) rfl rfl rfl (by decide +kernel)
set_option maxRecDepth 65536 in
theorem w_c12 : (Jvm.Cond.code ({ cls := "java/util/Optional", name := "empty", desc := "()Ljava/util/Optional;" } : Jvm.MethodName) jdk_32_method_1_code (1 : Nat) (Option.some (Jvm.ClassFile.FieldType.object "java/util/Optional"))).before args0 about1 = true := code_word (m := ⟨10, 0⟩) (meth := k10m0) (c := k10c0) (by decide +kernel) rfl rfl rfl (by decide +kernel)
set_option maxRecDepth 65536 in
theorem w_c13 : (Jvm.Cond.code ({ cls := "underdeck/deck/Column", name := "<init>", desc := "(Ljava/lang/String;Ljava/lang/String;ZLjava/util/Optional;Ljava/util/Optional;Ljava/util/Optional;)V" } : Jvm.MethodName) prog_17_method_1_code (7 : Nat) (Option.none : Option Jvm.ClassFile.FieldType)).before args0 about1 = true := code_word (m := ⟨12, 0⟩) (meth := k12m0) (c := k12c0) (by decide +kernel) rfl rfl rfl (by decide +kernel)
set_option maxRecDepth 65536 in
theorem w_c14 : (Jvm.Cond.code ({ cls := "java/lang/Record", name := "<init>", desc := "()V" } : Jvm.MethodName) jdk_30_method_1_code (1 : Nat) (Option.none : Option Jvm.ClassFile.FieldType)).before args0 about1 = true := code_word (m := ⟨11, 0⟩) (meth := k11m0) (c := k11c0) (by decide +kernel) rfl rfl rfl (by decide +kernel)
set_option maxRecDepth 65536 in
theorem w_c15 : (Jvm.Cond.code ({ cls := "java/util/Objects", name := "requireNonNull", desc := "(Ljava/lang/Object;Ljava/lang/String;)Ljava/lang/Object;" } : Jvm.MethodName) jdk_31_method_11_code (2 : Nat) (Option.some (Jvm.ClassFile.FieldType.object "java/lang/Object"))).before args0 about1 = true := code_word (m := ⟨13, 2⟩) (meth := k13m2) (c := k13c2) (by decide +kernel) rfl rfl rfl (by decide +kernel)
set_option maxRecDepth 65536 in
theorem w_c16 : (Jvm.Cond.code ({ cls := "underdeck/deck/Column", name := "required", desc := "()Z" } : Jvm.MethodName) prog_17_method_10_code (1 : Nat) (Option.some Jvm.ClassFile.FieldType.boolean)).before args0 about1 = true := code_word (m := ⟨12, 1⟩) (meth := k12m1) (c := k12c1) (by decide +kernel) rfl rfl rfl (by decide +kernel)
set_option maxRecDepth 65536 in
theorem w_c17 : (Jvm.Cond.code ({ cls := "java/util/Optional", name := "isEmpty", desc := "()Z" } : Jvm.MethodName) jdk_32_method_7_code (1 : Nat) (Option.some Jvm.ClassFile.FieldType.boolean)).before args0 about1 = true := code_word (m := ⟨10, 3⟩) (meth := k10m3) (c := k10c3) (by decide +kernel) rfl rfl rfl (by decide +kernel)
set_option maxRecDepth 65536 in
theorem w_c18 : (Jvm.Cond.code ({ cls := "java/util/Optional", name := "of", desc := "(Ljava/lang/Object;)Ljava/util/Optional;" } : Jvm.MethodName) jdk_32_method_3_code (1 : Nat) (Option.some (Jvm.ClassFile.FieldType.object "java/util/Optional"))).before args0 about1 = true := code_word (m := ⟨10, 2⟩) (meth := k10m2) (c := k10c2) (by decide +kernel) rfl rfl rfl (by decide +kernel)
set_option maxRecDepth 65536 in
theorem w_c19 : (Jvm.Cond.code ({ cls := "java/util/Objects", name := "requireNonNull", desc := "(Ljava/lang/Object;)Ljava/lang/Object;" } : Jvm.MethodName) jdk_31_method_10_code (1 : Nat) (Option.some (Jvm.ClassFile.FieldType.object "java/lang/Object"))).before args0 about1 = true := code_word (m := ⟨13, 1⟩) (meth := k13m1) (c := k13c1) (by decide +kernel) rfl rfl rfl (by decide +kernel)
set_option maxRecDepth 65536 in
theorem w_c20 : (Jvm.Cond.code ({ cls := "java/util/Optional", name := "<init>", desc := "(Ljava/lang/Object;)V" } : Jvm.MethodName) jdk_32_method_2_code (2 : Nat) (Option.none : Option Jvm.ClassFile.FieldType)).before args0 about1 = true := code_word (m := ⟨10, 1⟩) (meth := k10m1) (c := k10c1) (by decide +kernel) rfl rfl rfl (by decide +kernel)
def codes1 : List Jvm.Cond := [Jvm.Cond.code x code maxLocals ret, Jvm.Cond.code ({ cls := "java/lang/String", name := "<init>", desc := "([C)V" } : Jvm.MethodName) jdk_42_method_3_code (2 : Nat) (Option.none : Option Jvm.ClassFile.FieldType), Jvm.Cond.code ({ cls := "java/lang/String", name := "<init>", desc := "([CIILjava/lang/Void;)V" } : Jvm.MethodName) jdk_42_method_149_code (6 : Nat) (Option.none : Option Jvm.ClassFile.FieldType), Jvm.Cond.code ({ cls := "java/lang/Object", name := "<init>", desc := "()V" } : Jvm.MethodName) object_method_1_code (1 : Nat) (Option.none : Option Jvm.ClassFile.FieldType), Jvm.Cond.code ({ cls := "java/lang/StringUTF16", name := "compress", desc := "([CII)[B" } : Jvm.MethodName) jdk_52_method_16_code (6 : Nat) (Option.some (Jvm.ClassFile.FieldType.array Jvm.ClassFile.FieldType.byte)), Jvm.Cond.code ({ cls := "java/lang/StringUTF16", name := "compress", desc := "([CI[BII)I" } : Jvm.MethodName) jdk_52_method_21_code (7 : Nat) (Option.some Jvm.ClassFile.FieldType.int), Jvm.Cond.code ({ cls := "java/lang/StringUTF16", name := "coderFromArrayLen", desc := "([BI)B" } : Jvm.MethodName) jdk_52_method_15_code (2 : Nat) (Option.some Jvm.ClassFile.FieldType.byte), Jvm.Cond.code ({ cls := "java/lang/String", name := "valueOf", desc := "(C)Ljava/lang/String;" } : Jvm.MethodName) jdk_42_method_139_code (1 : Nat) (Option.some (Jvm.ClassFile.FieldType.object "java/lang/String")), Jvm.Cond.code ({ cls := "java/lang/StringLatin1", name := "canEncode", desc := "(C)Z" } : Jvm.MethodName) jdk_43_method_3_code (1 : Nat) (Option.some Jvm.ClassFile.FieldType.boolean), Jvm.Cond.code ({ cls := "java/lang/StringLatin1", name := "toBytes", desc := "(C)[B" } : Jvm.MethodName) jdk_43_method_46_code (1 : Nat) (Option.some (Jvm.ClassFile.FieldType.array Jvm.ClassFile.FieldType.byte)), Jvm.Cond.code ({ cls := "java/lang/String", name := "<init>", desc := "([BB)V" } : Jvm.MethodName) jdk_42_method_151_code (3 : Nat) (Option.none : Option Jvm.ClassFile.FieldType), Jvm.Cond.code ({ cls := "underdeck/deck/ColumnRequiredPinLaw", name := "drawn", desc := "(I)Ljava/lang/String;" } : Jvm.MethodName) method_2_code (1 : Nat) (Option.some (Jvm.ClassFile.FieldType.object "java/lang/String")), Jvm.Cond.code ({ cls := "java/util/Optional", name := "empty", desc := "()Ljava/util/Optional;" } : Jvm.MethodName) jdk_32_method_1_code (1 : Nat) (Option.some (Jvm.ClassFile.FieldType.object "java/util/Optional")), Jvm.Cond.code ({ cls := "underdeck/deck/Column", name := "<init>", desc := "(Ljava/lang/String;Ljava/lang/String;ZLjava/util/Optional;Ljava/util/Optional;Ljava/util/Optional;)V" } : Jvm.MethodName) prog_17_method_1_code (7 : Nat) (Option.none : Option Jvm.ClassFile.FieldType), Jvm.Cond.code ({ cls := "java/lang/Record", name := "<init>", desc := "()V" } : Jvm.MethodName) jdk_30_method_1_code (1 : Nat) (Option.none : Option Jvm.ClassFile.FieldType), Jvm.Cond.code ({ cls := "java/util/Objects", name := "requireNonNull", desc := "(Ljava/lang/Object;Ljava/lang/String;)Ljava/lang/Object;" } : Jvm.MethodName) jdk_31_method_11_code (2 : Nat) (Option.some (Jvm.ClassFile.FieldType.object "java/lang/Object")), Jvm.Cond.code ({ cls := "underdeck/deck/Column", name := "required", desc := "()Z" } : Jvm.MethodName) prog_17_method_10_code (1 : Nat) (Option.some Jvm.ClassFile.FieldType.boolean), Jvm.Cond.code ({ cls := "java/util/Optional", name := "isEmpty", desc := "()Z" } : Jvm.MethodName) jdk_32_method_7_code (1 : Nat) (Option.some Jvm.ClassFile.FieldType.boolean), Jvm.Cond.code ({ cls := "java/util/Optional", name := "of", desc := "(Ljava/lang/Object;)Ljava/util/Optional;" } : Jvm.MethodName) jdk_32_method_3_code (1 : Nat) (Option.some (Jvm.ClassFile.FieldType.object "java/util/Optional")), Jvm.Cond.code ({ cls := "java/util/Objects", name := "requireNonNull", desc := "(Ljava/lang/Object;)Ljava/lang/Object;" } : Jvm.MethodName) jdk_31_method_10_code (1 : Nat) (Option.some (Jvm.ClassFile.FieldType.object "java/lang/Object")), Jvm.Cond.code ({ cls := "java/util/Optional", name := "<init>", desc := "(Ljava/lang/Object;)V" } : Jvm.MethodName) jdk_32_method_2_code (2 : Nat) (Option.none : Option Jvm.ClassFile.FieldType)]
set_option maxRecDepth 65536 in
theorem codes_eq : words1.filter isCode = codes1 := rfl
theorem w_codes : ∀ c ∈ words1.filter isCode, c.before args0 about1 = true := by
  rw [codes_eq]
  intro c hc
  simp only [codes1, List.mem_cons, List.not_mem_nil, or_false] at hc
  rcases hc with rfl | rfl | rfl | rfl | rfl | rfl | rfl | rfl | rfl | rfl | rfl | rfl | rfl | rfl | rfl | rfl | rfl | rfl | rfl | rfl | rfl
  · exact w_c0
  · exact w_c1
  · exact w_c2
  · exact w_c3
  · exact w_c4
  · exact w_c5
  · exact w_c6
  · exact w_c7
  · exact w_c8
  · exact w_c9
  · exact w_c10
  · exact w_c11
  · exact w_c12
  · exact w_c13
  · exact w_c14
  · exact w_c15
  · exact w_c16
  · exact w_c17
  · exact w_c18
  · exact w_c19
  · exact w_c20
set_option maxRecDepth 65536 in
theorem w_t1 : (words1.take 24).all (fun c => isCode c || c.before args0 about1) = true := by decide +kernel
set_option maxRecDepth 65536 in
theorem w_t2 : ((words1.drop 24).take 24).all (fun c => isCode c || c.before args0 about1) = true := by decide +kernel
set_option maxRecDepth 65536 in
theorem w_t3 : (((words1.drop 24).drop 24).take 24).all (fun c => isCode c || c.before args0 about1) = true := by decide +kernel
set_option maxRecDepth 65536 in
theorem w_t4 : ((((words1.drop 24).drop 24).drop 24).take 24).all (fun c => isCode c || c.before args0 about1) = true := by decide +kernel
set_option maxRecDepth 65536 in
theorem w_t5 : ((((words1.drop 24).drop 24).drop 24).drop 24).all (fun c => isCode c || c.before args0 about1) = true := by decide +kernel
theorem w_tables : (allAtoms (Jvm.Cond.code x code maxLocals ret :: tables_1)).before args0 about1 = true := by
  rw [allAtoms_all]
  show words1.all (fun c => c.before args0 about1) = true
  refine all_split ?_ w_codes
  rw [← List.take_append_drop 24 words1, List.all_append, w_t1, ← List.take_append_drop 24 (words1.drop 24), List.all_append, w_t2, ← List.take_append_drop 24 ((words1.drop 24).drop 24), List.all_append, w_t3, ← List.take_append_drop 24 (((words1.drop 24).drop 24).drop 24), List.all_append, w_t4, w_t5]
  rfl
set_option maxRecDepth 65536 in
theorem w_rest : rest_1_c.before args0 about1 = true := by decide +kernel
set_option maxRecDepth 65536 in
theorem w_case : (Jvm.Cond.and given_1 narrow_1).before args0 about1 = true := by decide +kernel
theorem w_applies : (headSpec (Jvm.Cond.code x code maxLocals ret :: tables_1) room_1).applies x e0.platform about1 = true :=
  (Spec.applies_iff w_frames).mpr ⟨w_running, w_runnable, w_alone, w_named, w_hears, w_ripe, w_room, w_tables⟩
theorem atStart : AtStart classFile x code maxLocals ret World_1 tables_1 room_1 Calls_1 rest_1 Pre_1 launch0 p0 e0 about1 theMethod args0 below0 :=
  ⟨lists_1, trivial, launch0.admits_env _ _ _, launch0.least_env, fairChoices_fair.cas, fairChoices_fair.clock, w_frames, w_args, w_heap, w_applies, trivial, w_rest, w_case⟩
end start1
theorem witness_1 : WitnessClaimed_1 := ⟨start1.p0, start1.e0, start1.about1, start1.theMethod, start1.args0, start1.below0, start1.atStart⟩
end Jvm.Pilot.@@N@@
