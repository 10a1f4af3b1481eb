import JvmDerived
import JvmDerived.Pilot.@@N@@Statement
import JvmDerived.Pilot.@@N@@Code
set_option linter.unusedVariables false
set_option linter.unusedSimpArgs false
namespace Jvm.RoadKit
open Sem ClassFile Op Lib Jvm.Stand Jvm.Free Jvm.LawKit
section New
variable {p : Program} {l : Launch} {e : Env} {R : Room} {s : State} {m : MethodId} {args : Array Value} {below : List Frame} {meth : Method} {c : Code} {T : State} {locs : List Loc} {cells slots : Nat}
theorem retI (X : Stand p l e R s m args below meth c T locs cells slots) (hx : p.tables.exec = Jvm.exec) {pc : Nat} {Ls : Array Slot} {z : Int32} {rest : List Value} (hret : meth.sig.returnType = some .int) (hd : decode c.code pc = .ok (.ireturn, 1)) {fs : List Frame}
    (hl : ∀ (f : JFrame) (acts : List Action), f.method = m → f.locked = none → f.entered = [] → (doReturn e (T.setTop f) acts (some (.int z))).1 = T.setFrames fs) : Steps p.tables e below (T.setTop (mkF m pc Ls (.int z :: rest))) (T.setFrames fs) := by
  have hm' : T.vm.method? m = some meth := X.method'
  have hn : narrow .int (.int z) = .int z := rfl
  show Steps p.tables e below (T.setTop { method := m, pc := pc, locals := Ls, stack := _ :: rest, locked := none }) _
  jvm_step X.here [X.here.top, hx, hd, hm', hret, hn]
  first | (intro acts; rw [hl _ acts rfl rfl rfl]) | rw [hl _ _ rfl rfl rfl]
  exact Steps.refl _
end New
end Jvm.RoadKit
namespace Jvm.Pilot.@@N@@
open Jvm Jvm.ClassFile Sem Op Lib Jvm.Free Jvm.Stand Jvm.LawKit Jvm.RoadKit Bundle Jvm.Pilot.@@N@@.Jvm.D
theorem own_nm {a b : Addr} {l : List Addr} (h : a ≠ b) (r : a ∉ l) : a ∉ b :: l := fun q => (List.mem_cons.mp q).elim h r
theorem own_n0 {a : Addr} : a ∉ ([] : List Addr) := fun q => nomatch q
theorem own_nst {Z : State} {h : Heap} {a : Addr} {C : String} (F : Exa Z h a C) : ∃ c : Cell, h[a]? = some c ∧ c.vm.isStatics = false := by obtain ⟨c, k, h1, -, -, h4, -⟩ := F; exact ⟨c, h1, h4⟩
theorem own_nstV {Z : State} {h : Heap} {a : Addr} {k : ClassId} {ty : FieldType} {z : Int32} {vs : List Value} {dv : Value} (F : Arv Z h a k ty z vs dv) : ∃ c : Cell, h[a]? = some c ∧ c.vm.isStatics = false := by
  obtain ⟨c, A, -⟩ := F
  refine ⟨c, A.1, ?_⟩
  have q := A.2.1.1
  cases e : c.vm <;> first | rfl | exact absurd e (q _)
theorem own_q0 {h : Heap} : ∀ x ∈ ([] : List Addr), ∃ c : Cell, h[x]? = some c ∧ c.vm.isStatics = false := fun _ q => nomatch q
theorem own_qc {h : Heap} {a : Addr} {l : List Addr} (p : ∃ c : Cell, h[a]? = some c ∧ c.vm.isStatics = false) (r : ∀ x ∈ l, ∃ c : Cell, h[x]? = some c ∧ c.vm.isStatics = false) : ∀ x ∈ a :: l, ∃ c : Cell, h[x]? = some c ∧ c.vm.isStatics = false := fun x q => (List.mem_cons.mp q).elim (fun e => e ▸ p) (r x)
theorem own_sta_keep {Z : State} {h h' : Heap} {ws : List Addr} {C n d : String} {v : Value} (F : Sta Z h C n d v) (K : Keep h h' ws) (q : ∀ x ∈ ws, ∃ c : Cell, h[x]? = some c ∧ c.vm.isStatics = false) : Sta Z h' C n d v := by
  obtain ⟨cf, i, k, f, st, cell, h1, h2, h3, h4, h5, h6, h7⟩ := F
  refine ⟨cf, i, k, f, st, cell, h1, h2, h3, h4, K.2.1 _ _ h5 fun z => ?_, h6, h7⟩
  obtain ⟨c, g1, g2⟩ := q _ z
  cases h5.symm.trans g1; rw [h6] at g2; cases g2
theorem own_eqI {a b : Term} {args : Array Value} {first s : State} {o : Option Outcome} {idx : List Nat} {k : Int32} (h : (Jvm.Cond.eq a b).value args first o s idx = some true) (hb : b.eval args first o idx s = some (.int k)) : a.eval args first o idx s = some (.int k) := by
  obtain ⟨x, y, ha, hb', K, K'⟩ := cmp_v (Or.inl h)
  cases hb.symm.trans hb'
  obtain ⟨z, rfl⟩ := K'
  simp [Cond.value, ha, hb] at h
  rw [ha, h]
theorem own_eqR {a b : Term} {args : Array Value} {first s : State} {o : Option Outcome} {idx : List Nat} {k : Addr} (h : (Jvm.Cond.eq a b).value args first o s idx = some true) (hb : b.eval args first o idx s = some (.ref k)) : a.eval args first o idx s = some (.ref k) := by
  obtain ⟨x, y, ha, hb', K, K'⟩ := cmp_v (Or.inl h)
  cases hb.symm.trans hb'
  have q := gotT (eq_R ha hb K'.2 rfl) h
  rw [ha, q]
theorem own_i32 (x : Int32) : x.toInt = if x.toUInt32.toNat < 2^31 then (x.toUInt32.toNat : Int) else (x.toUInt32.toNat : Int) - 2^32 := by
  have h : x.toInt = x.toBitVec.toInt := rfl
  have h2 : x.toUInt32.toNat = x.toBitVec.toNat := rfl
  rw [h, h2, BitVec.toInt_eq_toNat_cond]
  split <;> split <;> omega
theorem own_mask (x m : Int32) (k : Nat) (hk : k ≤ 31) (hm : m.toUInt32.toNat = 2 ^ k - 1) : (x &&& m).toInt = x.toInt % 2 ^ k := by
  have e : (x &&& m).toUInt32.toNat = x.toUInt32.toNat % 2 ^ k := by
    rw [Int32.toUInt32_and, UInt32.toNat_and, hm, Nat.and_two_pow_sub_one_eq_mod]
  have hp : (2 ^ k : Nat) ≤ 2 ^ 31 := Nat.pow_le_pow_right (by decide) hk
  have hd : (2 ^ k : Nat) ∣ 2 ^ 32 := Nat.pow_dvd_pow 2 (by omega)
  have hpos : 0 < (2 ^ k : Nat) := Nat.pow_pos (by decide)
  have hlt : x.toUInt32.toNat % 2 ^ k < 2 ^ k := Nat.mod_lt _ hpos
  rw [own_i32 (x &&& m), e, if_pos (by omega), own_i32 x]
  have hc : ((2 : Int) ^ k) = ((2 ^ k : Nat) : Int) := by simp
  rw [hc]
  split
  · exact (Int.natCast_emod _ _)
  · obtain ⟨c, hc2⟩ := hd
    have : ((x.toUInt32.toNat : Int) - 2 ^ 32) = (x.toUInt32.toNat : Int) + ((2 ^ k : Nat) : Int) * (-(c : Int)) := by
      have : ((2 : Int) ^ 32) = ((2 ^ k : Nat) : Int) * (c : Int) := by exact_mod_cast hc2
      rw [this, Int.mul_neg]; rfl
    rw [this, Int.add_mul_emod_self_left]
    exact (Int.natCast_emod _ _)
theorem own_mod (y n : Int32) (hy : 0 ≤ y.toInt) (hn : 0 < n.toInt) : (y - y / n * n).toInt = y.toInt % n.toInt := by
  have b1 := y.toInt_lt; have b2 := n.toInt_lt
  have hd : (y / n).toInt = y.toInt / n.toInt := by
    rw [Int32.toInt_div_of_ne_right y n (by intro h; rw [h] at hn; exact absurd hn (by decide)), Int.tdiv_eq_ediv_of_nonneg hy]
  have h1 : 0 ≤ y.toInt / n.toInt := Int.ediv_nonneg hy (by omega)
  have h2 : y.toInt / n.toInt * n.toInt ≤ y.toInt := Int.ediv_mul_le _ (by omega)
  have h3 : 0 ≤ y.toInt / n.toInt * n.toInt := Int.mul_nonneg h1 (by omega)
  have hmul : (y / n * n).toInt = y.toInt / n.toInt * n.toInt := by
    rw [Int32.toInt_mul, hd]; apply Int.bmod_eq_of_le <;> omega
  rw [Int32.toInt_sub, hmul]
  have h4 := Int.emod_def y.toInt n.toInt
  rw [Int.mul_comm] at h4
  rw [h4]; apply Int.bmod_eq_of_le <;> omega
theorem own_pos (x : Int32) : 0 ≤ (x &&& 2147483647).toInt := by
  rw [own_mask x 2147483647 31 (by decide) (by decide)]; exact Int.emod_nonneg _ (by decide)
theorem own_add (x y : Int32) (h1 : -2147483648 ≤ x.toInt + y.toInt) (h2 : x.toInt + y.toInt < 2147483648) : (x + y).toInt = x.toInt + y.toInt := by
  rw [Int32.toInt_add]; apply Int.bmod_eq_of_le <;> omega
theorem own_and3 (x : Int32) : x &&& 3 = 0 ∨ x &&& 3 = 1 ∨ x &&& 3 = 2 ∨ x &&& 3 = 3 := by
  have h := own_mask x 3 2 (by decide) (by decide)
  have h2 : x.toInt % 2 ^ 2 = 0 ∨ x.toInt % 2 ^ 2 = 1 ∨ x.toInt % 2 ^ 2 = 2 ∨ x.toInt % 2 ^ 2 = 3 := by omega
  rcases h2 with q | q | q | q
  · exact Or.inl (Int32.toInt_inj.mp (by rw [h, q]; rfl))
  · exact Or.inr (Or.inl (Int32.toInt_inj.mp (by rw [h, q]; rfl)))
  · exact Or.inr (Or.inr (Or.inl (Int32.toInt_inj.mp (by rw [h, q]; rfl))))
  · exact Or.inr (Or.inr (Or.inr (Int32.toInt_inj.mp (by rw [h, q]; rfl))))
def F2 (p2 : Int32) (p3 : Int32) (p4 : Int32) (p5 : Int32) (w22 : Int32) : Int32 := (if p5 < p3 then (0 : Int32) else (if p5 < p4 then (if p2 < (128 : Int32) then (if w22 = (p2.toInt8.toInt32) then (1 : Int32) else (0 : Int32)) else (0 : Int32)) else (0 : Int32)))
theorem d2_0 : decode method_3_code 0 = .ok (.iload_n 2, 1) := by decide +kernel
theorem d2_1 : decode method_3_code 1 = .ok (.iload 4, 2) := by decide +kernel
theorem d2_3 : decode method_3_code 3 = .ok (.if_icmp .gt 29, 3) := by decide +kernel
theorem d2_6 : decode method_3_code 6 = .ok (.iload 4, 2) := by decide +kernel
theorem d2_8 : decode method_3_code 8 = .ok (.iload_n 3, 1) := by decide +kernel
theorem d2_9 : decode method_3_code 9 = .ok (.if_icmp .ge 23, 3) := by decide +kernel
theorem d2_12 : decode method_3_code 12 = .ok (.iload_n 1, 1) := by decide +kernel
theorem d2_13 : decode method_3_code 13 = .ok (.sipush 128, 3) := by decide +kernel
theorem d2_16 : decode method_3_code 16 = .ok (.if_icmp .ge 16, 3) := by decide +kernel
theorem d2_19 : decode method_3_code 19 = .ok (.aload_n 0, 1) := by decide +kernel
theorem d2_20 : decode method_3_code 20 = .ok (.iload 4, 2) := by decide +kernel
theorem d2_22 : decode method_3_code 22 = .ok (.baload, 1) := by decide +kernel
theorem d2_23 : decode method_3_code 23 = .ok (.iload_n 1, 1) := by decide +kernel
theorem d2_24 : decode method_3_code 24 = .ok (.i2b, 1) := by decide +kernel
theorem d2_25 : decode method_3_code 25 = .ok (.if_icmp .ne 7, 3) := by decide +kernel
theorem d2_28 : decode method_3_code 28 = .ok (.iconst 1, 1) := by decide +kernel
theorem d2_29 : decode method_3_code 29 = .ok (.goto 4, 3) := by decide +kernel
theorem d2_33 : decode method_3_code 33 = .ok (.ireturn, 1) := by decide +kernel
theorem pn_2 : plainName "com/example/lob/lob/broker/TextLinesIndexOfPinLaw" = true := by first | (simp [plainName, overriddenIn]; done) | decide +kernel
theorem ef_2 (m : MethodId) (x0 : Addr) (x1 : Int32) (x2 : Int32) (x3 : Int32) (x4 : Int32) : entryFrame m #[(.ref x0), (.int x1), (.int x2), (.int x3), (.int x4)] 5 = mkF m 0 #[.val (.ref x0), .val (.int x1), .val (.int x2), .val (.int x3), .val (.int x4)] [] := by first | (simp [entryFrame, mkF, argsToLocals, Value.category]; done) | rfl
theorem d2_32 : decode method_3_code 32 = .ok (.iconst 0, 1) := by decide +kernel
def Q_rm2 (Z : State) (a1 : Addr) (p2 : Int32) (p3 : Int32) (p4 : Int32) (p5 : Int32) (k_a1 : ClassId) (z_a1 : Int32) (vs_a1 : List Value) (w22 : Int32) (h0 : Heap) (n0 : Nat) (v : Option Value) (h : Heap) (L : List Loc) : Prop := v = some (.int (F2 p2 p3 p4 p5 w22)) ∧ Fr n0 L ∧ h = h0
set_option maxRecDepth 65536 in
set_option maxHeartbeats 40000000 in
theorem rm2_ffff (l : Launch) (Z : State) (a0 : Array Value) (hw : ∀ d ∈ tables_1, d.before a0 Z = true) (ws : List Jvm.Cond) (a1 : Addr) (p2 : Int32) (p3 : Int32) (p4 : Int32) (p5 : Int32) (k_a1 : ClassId) (z_a1 : Int32) (vs_a1 : List Value) (w22 : Int32) (h0 : Heap) (n0 : Nat) (Z0 : n0 ≤ h0.size) (V_a1 : Arv Z h0 a1 k_a1 .byte z_a1 vs_a1 (.int (0 : Int32))) (hi22 : ¬ p5 < 0 ∧ p5 < z_a1) (hs22 : (vs_a1).getD (p5).toNatClampNeg (.int (0 : Int32)) = (.int w22)) (hc3 : ¬ (p5 < p3)) (hc9 : p5 < p4) (hc16 : p2 < (128 : Int32)) (hc25 : w22 = (p2.toInt8.toInt32)) :
    MetFree l (⟨"com/example/lob/lob/broker/TextLinesIndexOfPinLaw", "hit", "([BCIII)Z"⟩ : MethodName) (head1 (Jvm.Cond.code (⟨"com/example/lob/lob/broker/TextLinesIndexOfPinLaw", "hit", "([BCIII)Z"⟩ : MethodName) method_3_code 5 (some .boolean) :: ws) ({ frames := 0, cells := 0, slots := 0, locals := 0 } : Room)) (fun a U => a = #[(.ref a1), (.int p2), (.int p3), (.int p4), (.int p5)] ∧ Z.Warmed39 U.vm ∧ U.heap = h0) (fun _ _ _ _ _ => True) (fun _ U o U' => ∃ v L, o = .returned v ∧ Q_rm2 Z a1 p2 p3 p4 p5 k_a1 z_a1 vs_a1 w22 h0 n0 v U'.heap L ∧ FrameEnd U o U' L ({ frames := 0, cells := 0, slots := 0, locals := 0 } : Room).cells ({ frames := 0, cells := 0, slots := 0, locals := 0 } : Room).slots) := by
  refine MetFree.of_bodySF (plainFor_of_name pn_2) hisR ?_
  intro p e s m args below meth c s₁ Bd hml0 hP hK
  obtain ⟨rfl, hZ, hh⟩ := hP
  have hx := Bd.exec
  have hby := Bd.bytes
  have hml : c.maxLocals = 5 := hml0
  have hown : s.vm.findClass "com/example/lob/lob/broker/TextLinesIndexOfPinLaw" = some m.cls := findClass_of_methodNamed Bd.named
  have hnm := (name_of_methodNamed Bd.named Bd.method).1
  have X0 : Stand p l e ({ frames := 0, cells := 0, slots := 0, locals := 0 } : Room) s m #[(.ref a1), (.int p2), (.int p3), (.int p4), (.int p5)] below meth c s₁ [] 0 0 := Stand.of_body Bd
  have e0 : s₁.heap = h0 := by rw [← hh, Bd.state]; rfl
  have N0 := Fr.nil n0
  have pre0 : ∀ t, Steps p.tables e below (s₁.setTop (mkF m 0 #[.val (.ref a1), .val (.int p2), .val (.int p3), .val (.int p4), .val (.int p5)] [])) t → Steps p.tables e below (s₁.setTop (entryFrame m #[(.ref a1), (.int p2), (.int p3), (.int p4), (.int p5)] 5)) t := fun t k => castTop (ef_2 m a1 p2 p3 p4 p5) k
  obtain ⟨cl_a1_0, Ar_a1_0, q_a1_0, Sz_a1_0, Ng_a1_0, Ha_a1_0, Gt_a1_0⟩ := V_a1
  have hin_a1_0 : ¬ (p5 < 0 ∨ cl_a1_0.slots.size ≤ (p5).toNatClampNeg) := inb_of Sz_a1_0 hi22
  have hat_a1_0 : cl_a1_0.slots[(p5).toNatClampNeg]? = some (.int w22) := (Ha_a1_0 _ (Nat.lt_of_not_le fun q => hin_a1_0 (Or.inr q))).trans (congrArg some (hs22 : (vs_a1).getD (p5).toNatClampNeg (.int (0 : Int32)) = (.int w22)))
  obtain ⟨fs, hr, hrun, hended, hW, hsame⟩ := X0.leave (v := some (.int (1 : Int32))) (fun h => by rw [Bd.returns] at h; cases h)
  refine ⟨_, _, pre0 _ ?_, hrun, hended, _, _, rfl, ?_, ⟨_, rfl⟩, hW, hsame.mono (by decide) (by decide)⟩
  · show Steps p.tables e below (s₁.setTop (mkF m 0 #[.val (.ref a1), .val (.int p2), .val (.int p3), .val (.int p4), .val (.int p5)] [])) _
    refine XS.iloadN X0.here hx rfl (hb hby d2_0) rfl ?_
    show Steps p.tables e below (s₁.setTop (mkF m 1 #[.val (.ref a1), .val (.int p2), .val (.int p3), .val (.int p4), .val (.int p5)] [(.int p3)])) _
    refine XS.iload X0.here hx rfl (hb hby d2_1) rfl ?_
    show Steps p.tables e below (s₁.setTop (mkF m 3 #[.val (.ref a1), .val (.int p2), .val (.int p3), .val (.int p4), .val (.int p5)] [(.int p5), (.int p3)])) _
    refine XS.icmpNo X0.here hx rfl (hb hby d2_3) rfl (flt hc3).2.2.1 ?_
    show Steps p.tables e below (s₁.setTop (mkF m 6 #[.val (.ref a1), .val (.int p2), .val (.int p3), .val (.int p4), .val (.int p5)] [])) _
    refine XS.iload X0.here hx rfl (hb hby d2_6) rfl ?_
    show Steps p.tables e below (s₁.setTop (mkF m 8 #[.val (.ref a1), .val (.int p2), .val (.int p3), .val (.int p4), .val (.int p5)] [(.int p5)])) _
    refine XS.iloadN X0.here hx rfl (hb hby d2_8) rfl ?_
    show Steps p.tables e below (s₁.setTop (mkF m 9 #[.val (.ref a1), .val (.int p2), .val (.int p3), .val (.int p4), .val (.int p5)] [(.int p4), (.int p5)])) _
    refine XS.icmpNo X0.here hx rfl (hb hby d2_9) rfl (tlt hc9).2.1 ?_
    show Steps p.tables e below (s₁.setTop (mkF m 12 #[.val (.ref a1), .val (.int p2), .val (.int p3), .val (.int p4), .val (.int p5)] [])) _
    refine XS.iloadN X0.here hx rfl (hb hby d2_12) rfl ?_
    show Steps p.tables e below (s₁.setTop (mkF m 13 #[.val (.ref a1), .val (.int p2), .val (.int p3), .val (.int p4), .val (.int p5)] [(.int p2)])) _
    refine XS.sipush X0.here hx rfl (hb hby d2_13) ?_
    show Steps p.tables e below (s₁.setTop (mkF m 16 #[.val (.ref a1), .val (.int p2), .val (.int p3), .val (.int p4), .val (.int p5)] [(.int (128 : Int32)), (.int p2)])) _
    refine XS.icmpNo X0.here hx rfl (hb hby d2_16) rfl (tlt hc16).2.1 ?_
    show Steps p.tables e below (s₁.setTop (mkF m 19 #[.val (.ref a1), .val (.int p2), .val (.int p3), .val (.int p4), .val (.int p5)] [])) _
    refine XS.aloadN X0.here hx rfl (hb hby d2_19) rfl rfl ?_
    show Steps p.tables e below (s₁.setTop (mkF m 20 #[.val (.ref a1), .val (.int p2), .val (.int p3), .val (.int p4), .val (.int p5)] [(.ref a1)])) _
    refine XS.iload X0.here hx rfl (hb hby d2_20) rfl ?_
    show Steps p.tables e below (s₁.setTop (mkF m 22 #[.val (.ref a1), .val (.int p2), .val (.int p3), .val (.int p4), .val (.int p5)] [(.int p5), (.ref a1)])) _
    refine X0.baloadBytes hx (j := p5) (v := (.int w22)) (by rw [e0]; exact Ar_a1_0.1) (State.isArrayOf_alike hZ.alike Ar_a1_0.2.1) Ar_a1_0.2.2 hin_a1_0 hat_a1_0 (g := (mkF m 22 #[.val (.ref a1), .val (.int p2), .val (.int p3), .val (.int p4), .val (.int p5)] [(.int p5), (.ref a1)])) rfl rfl (hb hby d2_22) _ ?_
    show Steps p.tables e below (s₁.setTop (mkF m 23 #[.val (.ref a1), .val (.int p2), .val (.int p3), .val (.int p4), .val (.int p5)] [(.int w22)])) _
    refine XS.iloadN X0.here hx rfl (hb hby d2_23) rfl ?_
    show Steps p.tables e below (s₁.setTop (mkF m 24 #[.val (.ref a1), .val (.int p2), .val (.int p3), .val (.int p4), .val (.int p5)] [(.int p2), (.int w22)])) _
    refine XS.i2b X0.here hx rfl (hb hby d2_24) rfl ?_
    show Steps p.tables e below (s₁.setTop (mkF m 25 #[.val (.ref a1), .val (.int p2), .val (.int p3), .val (.int p4), .val (.int p5)] [(.int (p2.toInt8.toInt32)), (.int w22)])) _
    refine XS.icmpNo X0.here hx rfl (hb hby d2_25) rfl (teq hc25).2 ?_
    show Steps p.tables e below (s₁.setTop (mkF m 28 #[.val (.ref a1), .val (.int p2), .val (.int p3), .val (.int p4), .val (.int p5)] [])) _
    refine XS.iconst X0.here hx rfl (hb hby d2_28) ?_
    show Steps p.tables e below (s₁.setTop (mkF m 29 #[.val (.ref a1), .val (.int p2), .val (.int p3), .val (.int p4), .val (.int p5)] [(.int (1 : Int32))])) _
    refine XS.goto X0.here hx rfl (pc0 := 29) (pc' := 33) rfl (hb hby d2_29) (by decide) (by decide) ?_
    show Steps p.tables e below (s₁.setTop (mkF m 33 #[.val (.ref a1), .val (.int p2), .val (.int p3), .val (.int p4), .val (.int p5)] [(.int (1 : Int32))])) _
    exact retN X0 hx (t := .boolean) Bd.returns (by simp) (hb hby d2_33) hr
  · show Q_rm2 Z a1 p2 p3 p4 p5 k_a1 z_a1 vs_a1 w22 h0 n0 _ s₁.heap _
    exact ⟨by rw [F2, if_neg hc3, if_pos hc9, if_pos hc16, if_pos hc25], N0, e0⟩
set_option maxRecDepth 65536 in
set_option maxHeartbeats 40000000 in
theorem rm2_ffft (l : Launch) (Z : State) (a0 : Array Value) (hw : ∀ d ∈ tables_1, d.before a0 Z = true) (ws : List Jvm.Cond) (a1 : Addr) (p2 : Int32) (p3 : Int32) (p4 : Int32) (p5 : Int32) (k_a1 : ClassId) (z_a1 : Int32) (vs_a1 : List Value) (w22 : Int32) (h0 : Heap) (n0 : Nat) (Z0 : n0 ≤ h0.size) (V_a1 : Arv Z h0 a1 k_a1 .byte z_a1 vs_a1 (.int (0 : Int32))) (hi22 : ¬ p5 < 0 ∧ p5 < z_a1) (hs22 : (vs_a1).getD (p5).toNatClampNeg (.int (0 : Int32)) = (.int w22)) (hc3 : ¬ (p5 < p3)) (hc9 : p5 < p4) (hc16 : p2 < (128 : Int32)) (hc25 : ¬ (w22 = (p2.toInt8.toInt32))) :
    MetFree l (⟨"com/example/lob/lob/broker/TextLinesIndexOfPinLaw", "hit", "([BCIII)Z"⟩ : MethodName) (head1 (Jvm.Cond.code (⟨"com/example/lob/lob/broker/TextLinesIndexOfPinLaw", "hit", "([BCIII)Z"⟩ : MethodName) method_3_code 5 (some .boolean) :: ws) ({ frames := 0, cells := 0, slots := 0, locals := 0 } : Room)) (fun a U => a = #[(.ref a1), (.int p2), (.int p3), (.int p4), (.int p5)] ∧ Z.Warmed39 U.vm ∧ U.heap = h0) (fun _ _ _ _ _ => True) (fun _ U o U' => ∃ v L, o = .returned v ∧ Q_rm2 Z a1 p2 p3 p4 p5 k_a1 z_a1 vs_a1 w22 h0 n0 v U'.heap L ∧ FrameEnd U o U' L ({ frames := 0, cells := 0, slots := 0, locals := 0 } : Room).cells ({ frames := 0, cells := 0, slots := 0, locals := 0 } : Room).slots) := by
  refine MetFree.of_bodySF (plainFor_of_name pn_2) hisR ?_
  intro p e s m args below meth c s₁ Bd hml0 hP hK
  obtain ⟨rfl, hZ, hh⟩ := hP
  have hx := Bd.exec
  have hby := Bd.bytes
  have hml : c.maxLocals = 5 := hml0
  have hown : s.vm.findClass "com/example/lob/lob/broker/TextLinesIndexOfPinLaw" = some m.cls := findClass_of_methodNamed Bd.named
  have hnm := (name_of_methodNamed Bd.named Bd.method).1
  have X0 : Stand p l e ({ frames := 0, cells := 0, slots := 0, locals := 0 } : Room) s m #[(.ref a1), (.int p2), (.int p3), (.int p4), (.int p5)] below meth c s₁ [] 0 0 := Stand.of_body Bd
  have e0 : s₁.heap = h0 := by rw [← hh, Bd.state]; rfl
  have N0 := Fr.nil n0
  have pre0 : ∀ t, Steps p.tables e below (s₁.setTop (mkF m 0 #[.val (.ref a1), .val (.int p2), .val (.int p3), .val (.int p4), .val (.int p5)] [])) t → Steps p.tables e below (s₁.setTop (entryFrame m #[(.ref a1), (.int p2), (.int p3), (.int p4), (.int p5)] 5)) t := fun t k => castTop (ef_2 m a1 p2 p3 p4 p5) k
  obtain ⟨cl_a1_0, Ar_a1_0, q_a1_0, Sz_a1_0, Ng_a1_0, Ha_a1_0, Gt_a1_0⟩ := V_a1
  have hin_a1_0 : ¬ (p5 < 0 ∨ cl_a1_0.slots.size ≤ (p5).toNatClampNeg) := inb_of Sz_a1_0 hi22
  have hat_a1_0 : cl_a1_0.slots[(p5).toNatClampNeg]? = some (.int w22) := (Ha_a1_0 _ (Nat.lt_of_not_le fun q => hin_a1_0 (Or.inr q))).trans (congrArg some (hs22 : (vs_a1).getD (p5).toNatClampNeg (.int (0 : Int32)) = (.int w22)))
  obtain ⟨fs, hr, hrun, hended, hW, hsame⟩ := X0.leave (v := some (.int (0 : Int32))) (fun h => by rw [Bd.returns] at h; cases h)
  refine ⟨_, _, pre0 _ ?_, hrun, hended, _, _, rfl, ?_, ⟨_, rfl⟩, hW, hsame.mono (by decide) (by decide)⟩
  · show Steps p.tables e below (s₁.setTop (mkF m 0 #[.val (.ref a1), .val (.int p2), .val (.int p3), .val (.int p4), .val (.int p5)] [])) _
    refine XS.iloadN X0.here hx rfl (hb hby d2_0) rfl ?_
    show Steps p.tables e below (s₁.setTop (mkF m 1 #[.val (.ref a1), .val (.int p2), .val (.int p3), .val (.int p4), .val (.int p5)] [(.int p3)])) _
    refine XS.iload X0.here hx rfl (hb hby d2_1) rfl ?_
    show Steps p.tables e below (s₁.setTop (mkF m 3 #[.val (.ref a1), .val (.int p2), .val (.int p3), .val (.int p4), .val (.int p5)] [(.int p5), (.int p3)])) _
    refine XS.icmpNo X0.here hx rfl (hb hby d2_3) rfl (flt hc3).2.2.1 ?_
    show Steps p.tables e below (s₁.setTop (mkF m 6 #[.val (.ref a1), .val (.int p2), .val (.int p3), .val (.int p4), .val (.int p5)] [])) _
    refine XS.iload X0.here hx rfl (hb hby d2_6) rfl ?_
    show Steps p.tables e below (s₁.setTop (mkF m 8 #[.val (.ref a1), .val (.int p2), .val (.int p3), .val (.int p4), .val (.int p5)] [(.int p5)])) _
    refine XS.iloadN X0.here hx rfl (hb hby d2_8) rfl ?_
    show Steps p.tables e below (s₁.setTop (mkF m 9 #[.val (.ref a1), .val (.int p2), .val (.int p3), .val (.int p4), .val (.int p5)] [(.int p4), (.int p5)])) _
    refine XS.icmpNo X0.here hx rfl (hb hby d2_9) rfl (tlt hc9).2.1 ?_
    show Steps p.tables e below (s₁.setTop (mkF m 12 #[.val (.ref a1), .val (.int p2), .val (.int p3), .val (.int p4), .val (.int p5)] [])) _
    refine XS.iloadN X0.here hx rfl (hb hby d2_12) rfl ?_
    show Steps p.tables e below (s₁.setTop (mkF m 13 #[.val (.ref a1), .val (.int p2), .val (.int p3), .val (.int p4), .val (.int p5)] [(.int p2)])) _
    refine XS.sipush X0.here hx rfl (hb hby d2_13) ?_
    show Steps p.tables e below (s₁.setTop (mkF m 16 #[.val (.ref a1), .val (.int p2), .val (.int p3), .val (.int p4), .val (.int p5)] [(.int (128 : Int32)), (.int p2)])) _
    refine XS.icmpNo X0.here hx rfl (hb hby d2_16) rfl (tlt hc16).2.1 ?_
    show Steps p.tables e below (s₁.setTop (mkF m 19 #[.val (.ref a1), .val (.int p2), .val (.int p3), .val (.int p4), .val (.int p5)] [])) _
    refine XS.aloadN X0.here hx rfl (hb hby d2_19) rfl rfl ?_
    show Steps p.tables e below (s₁.setTop (mkF m 20 #[.val (.ref a1), .val (.int p2), .val (.int p3), .val (.int p4), .val (.int p5)] [(.ref a1)])) _
    refine XS.iload X0.here hx rfl (hb hby d2_20) rfl ?_
    show Steps p.tables e below (s₁.setTop (mkF m 22 #[.val (.ref a1), .val (.int p2), .val (.int p3), .val (.int p4), .val (.int p5)] [(.int p5), (.ref a1)])) _
    refine X0.baloadBytes hx (j := p5) (v := (.int w22)) (by rw [e0]; exact Ar_a1_0.1) (State.isArrayOf_alike hZ.alike Ar_a1_0.2.1) Ar_a1_0.2.2 hin_a1_0 hat_a1_0 (g := (mkF m 22 #[.val (.ref a1), .val (.int p2), .val (.int p3), .val (.int p4), .val (.int p5)] [(.int p5), (.ref a1)])) rfl rfl (hb hby d2_22) _ ?_
    show Steps p.tables e below (s₁.setTop (mkF m 23 #[.val (.ref a1), .val (.int p2), .val (.int p3), .val (.int p4), .val (.int p5)] [(.int w22)])) _
    refine XS.iloadN X0.here hx rfl (hb hby d2_23) rfl ?_
    show Steps p.tables e below (s₁.setTop (mkF m 24 #[.val (.ref a1), .val (.int p2), .val (.int p3), .val (.int p4), .val (.int p5)] [(.int p2), (.int w22)])) _
    refine XS.i2b X0.here hx rfl (hb hby d2_24) rfl ?_
    show Steps p.tables e below (s₁.setTop (mkF m 25 #[.val (.ref a1), .val (.int p2), .val (.int p3), .val (.int p4), .val (.int p5)] [(.int (p2.toInt8.toInt32)), (.int w22)])) _
    refine XS.icmpYes X0.here hx rfl (pc0 := 25) (pc' := 32) rfl (hb hby d2_25) rfl (feq hc25).2 (by decide) (by decide) ?_
    show Steps p.tables e below (s₁.setTop (mkF m 32 #[.val (.ref a1), .val (.int p2), .val (.int p3), .val (.int p4), .val (.int p5)] [])) _
    refine XS.iconst X0.here hx rfl (hb hby d2_32) ?_
    show Steps p.tables e below (s₁.setTop (mkF m 33 #[.val (.ref a1), .val (.int p2), .val (.int p3), .val (.int p4), .val (.int p5)] [(.int (0 : Int32))])) _
    exact retN X0 hx (t := .boolean) Bd.returns (by simp) (hb hby d2_33) hr
  · show Q_rm2 Z a1 p2 p3 p4 p5 k_a1 z_a1 vs_a1 w22 h0 n0 _ s₁.heap _
    exact ⟨by rw [F2, if_neg hc3, if_pos hc9, if_pos hc16, if_neg hc25], N0, e0⟩
set_option maxRecDepth 65536 in
set_option maxHeartbeats 40000000 in
theorem rm2_fft (l : Launch) (Z : State) (a0 : Array Value) (hw : ∀ d ∈ tables_1, d.before a0 Z = true) (ws : List Jvm.Cond) (a1 : Addr) (p2 : Int32) (p3 : Int32) (p4 : Int32) (p5 : Int32) (k_a1 : ClassId) (z_a1 : Int32) (vs_a1 : List Value) (w22 : Int32) (h0 : Heap) (n0 : Nat) (Z0 : n0 ≤ h0.size) (V_a1 : Arv Z h0 a1 k_a1 .byte z_a1 vs_a1 (.int (0 : Int32))) (hi22 : ¬ p5 < 0 ∧ p5 < z_a1) (hs22 : (vs_a1).getD (p5).toNatClampNeg (.int (0 : Int32)) = (.int w22)) (hc3 : ¬ (p5 < p3)) (hc9 : p5 < p4) (hc16 : ¬ (p2 < (128 : Int32))) :
    MetFree l (⟨"com/example/lob/lob/broker/TextLinesIndexOfPinLaw", "hit", "([BCIII)Z"⟩ : MethodName) (head1 (Jvm.Cond.code (⟨"com/example/lob/lob/broker/TextLinesIndexOfPinLaw", "hit", "([BCIII)Z"⟩ : MethodName) method_3_code 5 (some .boolean) :: ws) ({ frames := 0, cells := 0, slots := 0, locals := 0 } : Room)) (fun a U => a = #[(.ref a1), (.int p2), (.int p3), (.int p4), (.int p5)] ∧ Z.Warmed39 U.vm ∧ U.heap = h0) (fun _ _ _ _ _ => True) (fun _ U o U' => ∃ v L, o = .returned v ∧ Q_rm2 Z a1 p2 p3 p4 p5 k_a1 z_a1 vs_a1 w22 h0 n0 v U'.heap L ∧ FrameEnd U o U' L ({ frames := 0, cells := 0, slots := 0, locals := 0 } : Room).cells ({ frames := 0, cells := 0, slots := 0, locals := 0 } : Room).slots) := by
  refine MetFree.of_bodySF (plainFor_of_name pn_2) hisR ?_
  intro p e s m args below meth c s₁ Bd hml0 hP hK
  obtain ⟨rfl, hZ, hh⟩ := hP
  have hx := Bd.exec
  have hby := Bd.bytes
  have hml : c.maxLocals = 5 := hml0
  have hown : s.vm.findClass "com/example/lob/lob/broker/TextLinesIndexOfPinLaw" = some m.cls := findClass_of_methodNamed Bd.named
  have hnm := (name_of_methodNamed Bd.named Bd.method).1
  have X0 : Stand p l e ({ frames := 0, cells := 0, slots := 0, locals := 0 } : Room) s m #[(.ref a1), (.int p2), (.int p3), (.int p4), (.int p5)] below meth c s₁ [] 0 0 := Stand.of_body Bd
  have e0 : s₁.heap = h0 := by rw [← hh, Bd.state]; rfl
  have N0 := Fr.nil n0
  have pre0 : ∀ t, Steps p.tables e below (s₁.setTop (mkF m 0 #[.val (.ref a1), .val (.int p2), .val (.int p3), .val (.int p4), .val (.int p5)] [])) t → Steps p.tables e below (s₁.setTop (entryFrame m #[(.ref a1), (.int p2), (.int p3), (.int p4), (.int p5)] 5)) t := fun t k => castTop (ef_2 m a1 p2 p3 p4 p5) k
  obtain ⟨fs, hr, hrun, hended, hW, hsame⟩ := X0.leave (v := some (.int (0 : Int32))) (fun h => by rw [Bd.returns] at h; cases h)
  refine ⟨_, _, pre0 _ ?_, hrun, hended, _, _, rfl, ?_, ⟨_, rfl⟩, hW, hsame.mono (by decide) (by decide)⟩
  · show Steps p.tables e below (s₁.setTop (mkF m 0 #[.val (.ref a1), .val (.int p2), .val (.int p3), .val (.int p4), .val (.int p5)] [])) _
    refine XS.iloadN X0.here hx rfl (hb hby d2_0) rfl ?_
    show Steps p.tables e below (s₁.setTop (mkF m 1 #[.val (.ref a1), .val (.int p2), .val (.int p3), .val (.int p4), .val (.int p5)] [(.int p3)])) _
    refine XS.iload X0.here hx rfl (hb hby d2_1) rfl ?_
    show Steps p.tables e below (s₁.setTop (mkF m 3 #[.val (.ref a1), .val (.int p2), .val (.int p3), .val (.int p4), .val (.int p5)] [(.int p5), (.int p3)])) _
    refine XS.icmpNo X0.here hx rfl (hb hby d2_3) rfl (flt hc3).2.2.1 ?_
    show Steps p.tables e below (s₁.setTop (mkF m 6 #[.val (.ref a1), .val (.int p2), .val (.int p3), .val (.int p4), .val (.int p5)] [])) _
    refine XS.iload X0.here hx rfl (hb hby d2_6) rfl ?_
    show Steps p.tables e below (s₁.setTop (mkF m 8 #[.val (.ref a1), .val (.int p2), .val (.int p3), .val (.int p4), .val (.int p5)] [(.int p5)])) _
    refine XS.iloadN X0.here hx rfl (hb hby d2_8) rfl ?_
    show Steps p.tables e below (s₁.setTop (mkF m 9 #[.val (.ref a1), .val (.int p2), .val (.int p3), .val (.int p4), .val (.int p5)] [(.int p4), (.int p5)])) _
    refine XS.icmpNo X0.here hx rfl (hb hby d2_9) rfl (tlt hc9).2.1 ?_
    show Steps p.tables e below (s₁.setTop (mkF m 12 #[.val (.ref a1), .val (.int p2), .val (.int p3), .val (.int p4), .val (.int p5)] [])) _
    refine XS.iloadN X0.here hx rfl (hb hby d2_12) rfl ?_
    show Steps p.tables e below (s₁.setTop (mkF m 13 #[.val (.ref a1), .val (.int p2), .val (.int p3), .val (.int p4), .val (.int p5)] [(.int p2)])) _
    refine XS.sipush X0.here hx rfl (hb hby d2_13) ?_
    show Steps p.tables e below (s₁.setTop (mkF m 16 #[.val (.ref a1), .val (.int p2), .val (.int p3), .val (.int p4), .val (.int p5)] [(.int (128 : Int32)), (.int p2)])) _
    refine XS.icmpYes X0.here hx rfl (pc0 := 16) (pc' := 32) rfl (hb hby d2_16) rfl (flt hc16).2.1 (by decide) (by decide) ?_
    show Steps p.tables e below (s₁.setTop (mkF m 32 #[.val (.ref a1), .val (.int p2), .val (.int p3), .val (.int p4), .val (.int p5)] [])) _
    refine XS.iconst X0.here hx rfl (hb hby d2_32) ?_
    show Steps p.tables e below (s₁.setTop (mkF m 33 #[.val (.ref a1), .val (.int p2), .val (.int p3), .val (.int p4), .val (.int p5)] [(.int (0 : Int32))])) _
    exact retN X0 hx (t := .boolean) Bd.returns (by simp) (hb hby d2_33) hr
  · show Q_rm2 Z a1 p2 p3 p4 p5 k_a1 z_a1 vs_a1 w22 h0 n0 _ s₁.heap _
    exact ⟨by rw [F2, if_neg hc3, if_pos hc9, if_neg hc16], N0, e0⟩
set_option maxRecDepth 65536 in
set_option maxHeartbeats 40000000 in
theorem rm2_ft (l : Launch) (Z : State) (a0 : Array Value) (hw : ∀ d ∈ tables_1, d.before a0 Z = true) (ws : List Jvm.Cond) (a1 : Addr) (p2 : Int32) (p3 : Int32) (p4 : Int32) (p5 : Int32) (k_a1 : ClassId) (z_a1 : Int32) (vs_a1 : List Value) (w22 : Int32) (h0 : Heap) (n0 : Nat) (Z0 : n0 ≤ h0.size) (V_a1 : Arv Z h0 a1 k_a1 .byte z_a1 vs_a1 (.int (0 : Int32))) (hi22 : ¬ p5 < 0 ∧ p5 < z_a1) (hs22 : (vs_a1).getD (p5).toNatClampNeg (.int (0 : Int32)) = (.int w22)) (hc3 : ¬ (p5 < p3)) (hc9 : ¬ (p5 < p4)) :
    MetFree l (⟨"com/example/lob/lob/broker/TextLinesIndexOfPinLaw", "hit", "([BCIII)Z"⟩ : MethodName) (head1 (Jvm.Cond.code (⟨"com/example/lob/lob/broker/TextLinesIndexOfPinLaw", "hit", "([BCIII)Z"⟩ : MethodName) method_3_code 5 (some .boolean) :: ws) ({ frames := 0, cells := 0, slots := 0, locals := 0 } : Room)) (fun a U => a = #[(.ref a1), (.int p2), (.int p3), (.int p4), (.int p5)] ∧ Z.Warmed39 U.vm ∧ U.heap = h0) (fun _ _ _ _ _ => True) (fun _ U o U' => ∃ v L, o = .returned v ∧ Q_rm2 Z a1 p2 p3 p4 p5 k_a1 z_a1 vs_a1 w22 h0 n0 v U'.heap L ∧ FrameEnd U o U' L ({ frames := 0, cells := 0, slots := 0, locals := 0 } : Room).cells ({ frames := 0, cells := 0, slots := 0, locals := 0 } : Room).slots) := by
  refine MetFree.of_bodySF (plainFor_of_name pn_2) hisR ?_
  intro p e s m args below meth c s₁ Bd hml0 hP hK
  obtain ⟨rfl, hZ, hh⟩ := hP
  have hx := Bd.exec
  have hby := Bd.bytes
  have hml : c.maxLocals = 5 := hml0
  have hown : s.vm.findClass "com/example/lob/lob/broker/TextLinesIndexOfPinLaw" = some m.cls := findClass_of_methodNamed Bd.named
  have hnm := (name_of_methodNamed Bd.named Bd.method).1
  have X0 : Stand p l e ({ frames := 0, cells := 0, slots := 0, locals := 0 } : Room) s m #[(.ref a1), (.int p2), (.int p3), (.int p4), (.int p5)] below meth c s₁ [] 0 0 := Stand.of_body Bd
  have e0 : s₁.heap = h0 := by rw [← hh, Bd.state]; rfl
  have N0 := Fr.nil n0
  have pre0 : ∀ t, Steps p.tables e below (s₁.setTop (mkF m 0 #[.val (.ref a1), .val (.int p2), .val (.int p3), .val (.int p4), .val (.int p5)] [])) t → Steps p.tables e below (s₁.setTop (entryFrame m #[(.ref a1), (.int p2), (.int p3), (.int p4), (.int p5)] 5)) t := fun t k => castTop (ef_2 m a1 p2 p3 p4 p5) k
  obtain ⟨fs, hr, hrun, hended, hW, hsame⟩ := X0.leave (v := some (.int (0 : Int32))) (fun h => by rw [Bd.returns] at h; cases h)
  refine ⟨_, _, pre0 _ ?_, hrun, hended, _, _, rfl, ?_, ⟨_, rfl⟩, hW, hsame.mono (by decide) (by decide)⟩
  · show Steps p.tables e below (s₁.setTop (mkF m 0 #[.val (.ref a1), .val (.int p2), .val (.int p3), .val (.int p4), .val (.int p5)] [])) _
    refine XS.iloadN X0.here hx rfl (hb hby d2_0) rfl ?_
    show Steps p.tables e below (s₁.setTop (mkF m 1 #[.val (.ref a1), .val (.int p2), .val (.int p3), .val (.int p4), .val (.int p5)] [(.int p3)])) _
    refine XS.iload X0.here hx rfl (hb hby d2_1) rfl ?_
    show Steps p.tables e below (s₁.setTop (mkF m 3 #[.val (.ref a1), .val (.int p2), .val (.int p3), .val (.int p4), .val (.int p5)] [(.int p5), (.int p3)])) _
    refine XS.icmpNo X0.here hx rfl (hb hby d2_3) rfl (flt hc3).2.2.1 ?_
    show Steps p.tables e below (s₁.setTop (mkF m 6 #[.val (.ref a1), .val (.int p2), .val (.int p3), .val (.int p4), .val (.int p5)] [])) _
    refine XS.iload X0.here hx rfl (hb hby d2_6) rfl ?_
    show Steps p.tables e below (s₁.setTop (mkF m 8 #[.val (.ref a1), .val (.int p2), .val (.int p3), .val (.int p4), .val (.int p5)] [(.int p5)])) _
    refine XS.iloadN X0.here hx rfl (hb hby d2_8) rfl ?_
    show Steps p.tables e below (s₁.setTop (mkF m 9 #[.val (.ref a1), .val (.int p2), .val (.int p3), .val (.int p4), .val (.int p5)] [(.int p4), (.int p5)])) _
    refine XS.icmpYes X0.here hx rfl (pc0 := 9) (pc' := 32) rfl (hb hby d2_9) rfl (flt hc9).2.1 (by decide) (by decide) ?_
    show Steps p.tables e below (s₁.setTop (mkF m 32 #[.val (.ref a1), .val (.int p2), .val (.int p3), .val (.int p4), .val (.int p5)] [])) _
    refine XS.iconst X0.here hx rfl (hb hby d2_32) ?_
    show Steps p.tables e below (s₁.setTop (mkF m 33 #[.val (.ref a1), .val (.int p2), .val (.int p3), .val (.int p4), .val (.int p5)] [(.int (0 : Int32))])) _
    exact retN X0 hx (t := .boolean) Bd.returns (by simp) (hb hby d2_33) hr
  · show Q_rm2 Z a1 p2 p3 p4 p5 k_a1 z_a1 vs_a1 w22 h0 n0 _ s₁.heap _
    exact ⟨by rw [F2, if_neg hc3, if_neg hc9], N0, e0⟩
set_option maxRecDepth 65536 in
set_option maxHeartbeats 40000000 in
theorem rm2_t (l : Launch) (Z : State) (a0 : Array Value) (hw : ∀ d ∈ tables_1, d.before a0 Z = true) (ws : List Jvm.Cond) (a1 : Addr) (p2 : Int32) (p3 : Int32) (p4 : Int32) (p5 : Int32) (k_a1 : ClassId) (z_a1 : Int32) (vs_a1 : List Value) (w22 : Int32) (h0 : Heap) (n0 : Nat) (Z0 : n0 ≤ h0.size) (V_a1 : Arv Z h0 a1 k_a1 .byte z_a1 vs_a1 (.int (0 : Int32))) (hi22 : ¬ p5 < 0 ∧ p5 < z_a1) (hs22 : (vs_a1).getD (p5).toNatClampNeg (.int (0 : Int32)) = (.int w22)) (hc3 : p5 < p3) :
    MetFree l (⟨"com/example/lob/lob/broker/TextLinesIndexOfPinLaw", "hit", "([BCIII)Z"⟩ : MethodName) (head1 (Jvm.Cond.code (⟨"com/example/lob/lob/broker/TextLinesIndexOfPinLaw", "hit", "([BCIII)Z"⟩ : MethodName) method_3_code 5 (some .boolean) :: ws) ({ frames := 0, cells := 0, slots := 0, locals := 0 } : Room)) (fun a U => a = #[(.ref a1), (.int p2), (.int p3), (.int p4), (.int p5)] ∧ Z.Warmed39 U.vm ∧ U.heap = h0) (fun _ _ _ _ _ => True) (fun _ U o U' => ∃ v L, o = .returned v ∧ Q_rm2 Z a1 p2 p3 p4 p5 k_a1 z_a1 vs_a1 w22 h0 n0 v U'.heap L ∧ FrameEnd U o U' L ({ frames := 0, cells := 0, slots := 0, locals := 0 } : Room).cells ({ frames := 0, cells := 0, slots := 0, locals := 0 } : Room).slots) := by
  refine MetFree.of_bodySF (plainFor_of_name pn_2) hisR ?_
  intro p e s m args below meth c s₁ Bd hml0 hP hK
  obtain ⟨rfl, hZ, hh⟩ := hP
  have hx := Bd.exec
  have hby := Bd.bytes
  have hml : c.maxLocals = 5 := hml0
  have hown : s.vm.findClass "com/example/lob/lob/broker/TextLinesIndexOfPinLaw" = some m.cls := findClass_of_methodNamed Bd.named
  have hnm := (name_of_methodNamed Bd.named Bd.method).1
  have X0 : Stand p l e ({ frames := 0, cells := 0, slots := 0, locals := 0 } : Room) s m #[(.ref a1), (.int p2), (.int p3), (.int p4), (.int p5)] below meth c s₁ [] 0 0 := Stand.of_body Bd
  have e0 : s₁.heap = h0 := by rw [← hh, Bd.state]; rfl
  have N0 := Fr.nil n0
  have pre0 : ∀ t, Steps p.tables e below (s₁.setTop (mkF m 0 #[.val (.ref a1), .val (.int p2), .val (.int p3), .val (.int p4), .val (.int p5)] [])) t → Steps p.tables e below (s₁.setTop (entryFrame m #[(.ref a1), (.int p2), (.int p3), (.int p4), (.int p5)] 5)) t := fun t k => castTop (ef_2 m a1 p2 p3 p4 p5) k
  obtain ⟨fs, hr, hrun, hended, hW, hsame⟩ := X0.leave (v := some (.int (0 : Int32))) (fun h => by rw [Bd.returns] at h; cases h)
  refine ⟨_, _, pre0 _ ?_, hrun, hended, _, _, rfl, ?_, ⟨_, rfl⟩, hW, hsame.mono (by decide) (by decide)⟩
  · show Steps p.tables e below (s₁.setTop (mkF m 0 #[.val (.ref a1), .val (.int p2), .val (.int p3), .val (.int p4), .val (.int p5)] [])) _
    refine XS.iloadN X0.here hx rfl (hb hby d2_0) rfl ?_
    show Steps p.tables e below (s₁.setTop (mkF m 1 #[.val (.ref a1), .val (.int p2), .val (.int p3), .val (.int p4), .val (.int p5)] [(.int p3)])) _
    refine XS.iload X0.here hx rfl (hb hby d2_1) rfl ?_
    show Steps p.tables e below (s₁.setTop (mkF m 3 #[.val (.ref a1), .val (.int p2), .val (.int p3), .val (.int p4), .val (.int p5)] [(.int p5), (.int p3)])) _
    refine XS.icmpYes X0.here hx rfl (pc0 := 3) (pc' := 32) rfl (hb hby d2_3) rfl (tlt hc3).2.2.1 (by decide) (by decide) ?_
    show Steps p.tables e below (s₁.setTop (mkF m 32 #[.val (.ref a1), .val (.int p2), .val (.int p3), .val (.int p4), .val (.int p5)] [])) _
    refine XS.iconst X0.here hx rfl (hb hby d2_32) ?_
    show Steps p.tables e below (s₁.setTop (mkF m 33 #[.val (.ref a1), .val (.int p2), .val (.int p3), .val (.int p4), .val (.int p5)] [(.int (0 : Int32))])) _
    exact retN X0 hx (t := .boolean) Bd.returns (by simp) (hb hby d2_33) hr
  · show Q_rm2 Z a1 p2 p3 p4 p5 k_a1 z_a1 vs_a1 w22 h0 n0 _ s₁.heap _
    exact ⟨by rw [F2, if_pos hc3], N0, e0⟩
set_option maxHeartbeats 4000000 in
theorem rm2 (l : Launch) (Z : State) (a0 : Array Value) (hw : ∀ d ∈ tables_1, d.before a0 Z = true) (ws : List Jvm.Cond) (a1 : Addr) (p2 : Int32) (p3 : Int32) (p4 : Int32) (p5 : Int32) (k_a1 : ClassId) (z_a1 : Int32) (vs_a1 : List Value) (w22 : Int32) (h0 : Heap) (n0 : Nat) (Z0 : n0 ≤ h0.size) (V_a1 : Arv Z h0 a1 k_a1 .byte z_a1 vs_a1 (.int (0 : Int32))) (hi22 : ¬ p5 < 0 ∧ p5 < z_a1) (hs22 : (vs_a1).getD (p5).toNatClampNeg (.int (0 : Int32)) = (.int w22)) :
    MetFree l (⟨"com/example/lob/lob/broker/TextLinesIndexOfPinLaw", "hit", "([BCIII)Z"⟩ : MethodName) (head1 (Jvm.Cond.code (⟨"com/example/lob/lob/broker/TextLinesIndexOfPinLaw", "hit", "([BCIII)Z"⟩ : MethodName) method_3_code 5 (some .boolean) :: ws) ({ frames := 0, cells := 0, slots := 0, locals := 0 } : Room)) (fun a U => a = #[(.ref a1), (.int p2), (.int p3), (.int p4), (.int p5)] ∧ Z.Warmed39 U.vm ∧ U.heap = h0) (fun _ _ _ _ _ => True) (fun _ U o U' => ∃ v L, o = .returned v ∧ Q_rm2 Z a1 p2 p3 p4 p5 k_a1 z_a1 vs_a1 w22 h0 n0 v U'.heap L ∧ FrameEnd U o U' L ({ frames := 0, cells := 0, slots := 0, locals := 0 } : Room).cells ({ frames := 0, cells := 0, slots := 0, locals := 0 } : Room).slots) := by
  by_cases hc3 : p5 < p3
  · skip
    exact rm2_t l Z a0 hw ws a1 p2 p3 p4 p5 k_a1 z_a1 vs_a1 w22 h0 n0 Z0 V_a1 hi22 hs22 hc3
  · skip
    by_cases hc9 : p5 < p4
    · skip
      by_cases hc16 : p2 < (128 : Int32)
      · skip
        by_cases hc25 : w22 = (p2.toInt8.toInt32)
        · skip
          exact rm2_ffff l Z a0 hw ws a1 p2 p3 p4 p5 k_a1 z_a1 vs_a1 w22 h0 n0 Z0 V_a1 hi22 hs22 hc3 hc9 hc16 hc25
        · skip
          exact rm2_ffft l Z a0 hw ws a1 p2 p3 p4 p5 k_a1 z_a1 vs_a1 w22 h0 n0 Z0 V_a1 hi22 hs22 hc3 hc9 hc16 hc25
      · skip
        exact rm2_fft l Z a0 hw ws a1 p2 p3 p4 p5 k_a1 z_a1 vs_a1 w22 h0 n0 Z0 V_a1 hi22 hs22 hc3 hc9 hc16
    · skip
      exact rm2_ft l Z a0 hw ws a1 p2 p3 p4 p5 k_a1 z_a1 vs_a1 w22 h0 n0 Z0 V_a1 hi22 hs22 hc3 hc9
theorem own_c5 (x : Int32) (h1 : 0 ≤ x.toInt) (h2 : x.toInt ≤ 4) : x = (0 : Int32) ∨ x = (1 : Int32) ∨ x = (2 : Int32) ∨ x = (3 : Int32) ∨ x = (4 : Int32) := by
  have h : x.toInt = 0 ∨ x.toInt = 1 ∨ x.toInt = 2 ∨ x.toInt = 3 ∨ x.toInt = 4 := by omega
  rcases h with q | q | q | q | q
  · exact Or.inl (Int32.toInt_inj.mp (by rw [q]; rfl))
  · exact Or.inr (Or.inl (Int32.toInt_inj.mp (by rw [q]; rfl)))
  · exact Or.inr (Or.inr (Or.inl (Int32.toInt_inj.mp (by rw [q]; rfl))))
  · exact Or.inr (Or.inr (Or.inr (Or.inl (Int32.toInt_inj.mp (by rw [q]; rfl)))))
  · exact Or.inr (Or.inr (Or.inr (Or.inr (Int32.toInt_inj.mp (by rw [q]; rfl)))))
def own_scan (el : Int32 → Int32) (b to : Int32) : Nat → Int32 → Int32
  | 0, _ => to
  | n + 1, i => if i < to then (if el i = b then i else own_scan el b to n (i + 1)) else to
def own_el (b0 b1 b2 b3 j : Int32) : Int32 := if j = 0 then b0 else if j = 1 then b1 else if j = 2 then b2 else b3
theorem own_hit (b fr to i w : Int32) (h : w = b ↔ (b < 128 ∧ w = b.toInt8.toInt32)) : F2 b fr to i w = if i < fr then 0 else if i < to then (if w = b then 1 else 0) else 0 := by
  unfold F2
  by_cases h1 : i < fr
  · rw [if_pos h1, if_pos h1]
  · rw [if_neg h1, if_neg h1]
    by_cases h2 : i < to
    · rw [if_pos h2, if_pos h2]
      by_cases h3 : b < 128
      · rw [if_pos h3]
        by_cases h4 : w = b.toInt8.toInt32
        · rw [if_pos h4, if_pos (h.mpr ⟨h3, h4⟩)]
        · rw [if_neg h4, if_neg fun q => h4 (h.mp q).2]
      · rw [if_neg h3, if_neg fun q => h3 (h.mp q).1]
    · rw [if_neg h2, if_neg h2]
theorem own_ev (b : Int32) (b0 b1 b2 b3 : Int32) : own_el b0 b1 b2 b3 0 = b0 ∧ own_el b0 b1 b2 b3 1 = b1 ∧ own_el b0 b1 b2 b3 2 = b2 ∧ own_el b0 b1 b2 b3 3 = b3 := ⟨rfl, rfl, rfl, rfl⟩
theorem own_final (b0 b1 b2 b3 b fr to : Int32) (f1 : 0 ≤ fr.toInt) (f2 : fr.toInt ≤ 4) (t1 : 0 ≤ to.toInt) (t2 : to.toInt ≤ 4)
    (h0 : b0 = b ↔ (b < 128 ∧ b0 = b.toInt8.toInt32)) (h1 : b1 = b ↔ (b < 128 ∧ b1 = b.toInt8.toInt32)) (h2 : b2 = b ↔ (b < 128 ∧ b2 = b.toInt8.toInt32)) (h3 : b3 = b ↔ (b < 128 ∧ b3 = b.toInt8.toInt32)) :
    own_scan (own_el b0 b1 b2 b3) b to 5 fr = (if F2 b fr to 0 b0 = 0 then (if F2 b fr to 1 b1 = 0 then (if F2 b fr to 2 b2 = 0 then (if F2 b fr to 3 b3 = 0 then to else 3) else 2) else 1) else 0) := by
  rw [own_hit b fr to 0 b0 h0, own_hit b fr to 1 b1 h1, own_hit b fr to 2 b2 h2, own_hit b fr to 3 b3 h3]
  clear h0 h1 h2 h3
  have e01 : (0 : Int32) + 1 = 1 := by decide
  have e12 : (1 : Int32) + 1 = 2 := by decide
  have e23 : (2 : Int32) + 1 = 3 := by decide
  have e34 : (3 : Int32) + 1 = 4 := by decide
  obtain ⟨v0, v1, v2, v3⟩ := own_ev b b0 b1 b2 b3
  rcases own_c5 fr f1 f2 with rfl | rfl | rfl | rfl | rfl <;> rcases own_c5 to t1 t2 with rfl | rfl | rfl | rfl | rfl <;>
    simp +decide only [own_scan, e01, e12, e23, e34, v0, v1, v2, v3, if_true, if_false, ite_true, ite_false] <;>
    (by_cases g0 : b0 = b <;> by_cases g1 : b1 = b <;> by_cases g2 : b2 = b <;> by_cases g3 : b3 = b <;> simp +decide only [g0, g1, g2, g3, if_true, if_false, ite_true, ite_false])
theorem own_byte (w b : Int32) (hw1 : -128 ≤ w.toInt) (hw2 : w.toInt ≤ 127) (hb1 : 0 ≤ b.toInt) : w = b ↔ (b < 128 ∧ w = b.toInt8.toInt32) := by
  have e128 : (128 : Int32).toInt = 128 := by decide
  have key : b.toInt < 128 → b.toInt8.toInt32 = b := by
    intro h
    apply Int32.toInt_inj.mp
    rw [Int8.toInt_toInt32, Int32.toInt_toInt8]
    apply Int.bmod_eq_of_le <;> omega
  constructor
  · intro h
    subst h
    have hl : w.toInt < 128 := by omega
    exact ⟨by rw [Int32.lt_iff_toInt_lt, e128]; exact hl, (key hl).symm⟩
  · rintro ⟨h1, h2⟩
    rw [Int32.lt_iff_toInt_lt, e128] at h1
    rw [h2, key h1]
theorem own_nb (x : Int32) : -128 ≤ (x.toInt8.toInt32).toInt ∧ (x.toInt8.toInt32).toInt ≤ 127 := by
  rw [Int8.toInt_toInt32]
  have h1 := x.toInt8.le_toInt
  have h2 := x.toInt8.toInt_lt
  omega
theorem own_ch (x : Int32) : 0 ≤ (x.toUInt32.toUInt16.toUInt32.toInt32).toInt := by
  rw [own_i32]
  have : (x.toUInt32.toUInt16.toUInt32.toInt32).toUInt32.toNat < 2 ^ 31 := by
    have h : (x.toUInt32.toUInt16.toUInt32.toInt32).toUInt32 = x.toUInt32.toUInt16.toUInt32 := rfl
    rw [h, UInt16.toNat_toUInt32]
    have := x.toUInt32.toUInt16.toNat_lt
    omega
  rw [if_pos this]
  omega
theorem d1_0 : decode prog_22_method_6_code 0 = .ok (.iload_n 2, 1) := by decide +kernel
theorem d1_1 : decode prog_22_method_6_code 1 = .ok (.istore 4, 2) := by decide +kernel
theorem d1_3 : decode prog_22_method_6_code 3 = .ok (.iload 4, 2) := by decide +kernel
theorem d1_5 : decode prog_22_method_6_code 5 = .ok (.iload_n 3, 1) := by decide +kernel
theorem d1_6 : decode prog_22_method_6_code 6 = .ok (.if_icmp .ge 20, 3) := by decide +kernel
theorem d1_26 : decode prog_22_method_6_code 26 = .ok (.iload_n 3, 1) := by decide +kernel
theorem d1_27 : decode prog_22_method_6_code 27 = .ok (.ireturn, 1) := by decide +kernel
theorem pn_1 : plainName "com/example/lob/lob/broker/TextLines" = true := by first | (simp [plainName, overriddenIn]; done) | decide +kernel
theorem ef_1 (m : MethodId) (x0 : Addr) (x1 : Int32) (x2 : Int32) (x3 : Int32) : entryFrame m #[(.ref x0), (.int x1), (.int x2), (.int x3)] 5 = mkF m 0 #[.val (.ref x0), .val (.int x1), .val (.int x2), .val (.int x3), .unset] [] := by first | (simp [entryFrame, mkF, argsToLocals, Value.category]; done) | rfl
theorem d1_9 : decode prog_22_method_6_code 9 = .ok (.aload_n 0, 1) := by decide +kernel
theorem d1_10 : decode prog_22_method_6_code 10 = .ok (.iload 4, 2) := by decide +kernel
theorem d1_12 : decode prog_22_method_6_code 12 = .ok (.baload, 1) := by decide +kernel
theorem d1_13 : decode prog_22_method_6_code 13 = .ok (.iload_n 1, 1) := by decide +kernel
theorem d1_14 : decode prog_22_method_6_code 14 = .ok (.if_icmp .ne 6, 3) := by decide +kernel
theorem d1_17 : decode prog_22_method_6_code 17 = .ok (.iload 4, 2) := by decide +kernel
theorem d1_19 : decode prog_22_method_6_code 19 = .ok (.ireturn, 1) := by decide +kernel
theorem d1_20 : decode prog_22_method_6_code 20 = .ok (.iinc 4 1, 3) := by decide +kernel
theorem d1_23 : decode prog_22_method_6_code 23 = .ok (.goto (-20), 3) := by decide +kernel
def Q_rm1 (Z : State) (a1 : Addr) (p2 : Int32) (p3 : Int32) (p4 : Int32) (k_a1 : ClassId) (z_a1 : Int32) (vs_a1 : List Value) (el : Int32 → Int32) (h0 : Heap) (n0 : Nat) (v : Option Value) (h : Heap) (L : List Loc) : Prop := v = some (.int (own_scan el p2 p4 5 p3)) ∧ Fr n0 L ∧ h = h0
set_option maxRecDepth 65536 in
set_option maxHeartbeats 40000000 in
theorem rm1 (l : Launch) (Z : State) (a0 : Array Value) (hw : ∀ d ∈ tables_1, d.before a0 Z = true) (ws : List Jvm.Cond) (a1 : Addr) (p2 : Int32) (p3 : Int32) (p4 : Int32) (k_a1 : ClassId) (z_a1 : Int32) (vs_a1 : List Value) (el : Int32 → Int32) (h0 : Heap) (n0 : Nat) (Z0 : n0 ≤ h0.size) (V_a1 : Arv Z h0 a1 k_a1 .byte z_a1 vs_a1 (.int (0 : Int32))) (hel : ∀ j : Int32, ¬ j < 0 → j < z_a1 → vs_a1.getD j.toNatClampNeg (.int (0 : Int32)) = .int (el j)) (hfr : 0 ≤ p3.toInt) (hto : p4.toInt ≤ z_a1.toInt ∧ p4.toInt ≤ 5) :
    MetFree l (⟨"com/example/lob/lob/broker/TextLines", "indexOf", "([BCII)I"⟩ : MethodName) (head1 (Jvm.Cond.code (⟨"com/example/lob/lob/broker/TextLines", "indexOf", "([BCII)I"⟩ : MethodName) prog_22_method_6_code 5 (some .int) :: ws) ({ frames := 0, cells := 0, slots := 0, locals := 0 } : Room)) (fun a U => a = #[(.ref a1), (.int p2), (.int p3), (.int p4)] ∧ Z.Warmed39 U.vm ∧ U.heap = h0) (fun _ _ _ _ _ => True) (fun _ U o U' => ∃ v L, o = .returned v ∧ Q_rm1 Z a1 p2 p3 p4 k_a1 z_a1 vs_a1 el h0 n0 v U'.heap L ∧ FrameEnd U o U' L ({ frames := 0, cells := 0, slots := 0, locals := 0 } : Room).cells ({ frames := 0, cells := 0, slots := 0, locals := 0 } : Room).slots) := by
  refine MetFree.of_bodySF (plainFor_of_name pn_1) hisR ?_
  intro p e s m args below meth c s₁ Bd hml0 hP hK
  obtain ⟨rfl, hZ, hh⟩ := hP
  have hx := Bd.exec
  have hby := Bd.bytes
  have X0 : Stand p l e ({ frames := 0, cells := 0, slots := 0, locals := 0 } : Room) s m #[(.ref a1), (.int p2), (.int p3), (.int p4)] below meth c s₁ [] 0 0 := Stand.of_body Bd
  have e0 : s₁.heap = h0 := by rw [← hh, Bd.state]; rfl
  have N0 := Fr.nil n0
  have pre0 : ∀ t, Steps p.tables e below (s₁.setTop (mkF m 0 #[.val (.ref a1), .val (.int p2), .val (.int p3), .val (.int p4), .unset] [])) t → Steps p.tables e below (s₁.setTop (entryFrame m #[(.ref a1), (.int p2), (.int p3), (.int p4)] 5)) t := fun t k => castTop (ef_1 m a1 p2 p3 p4) k
  obtain ⟨cl, Ar, q, Sz, Ng, Ha, Gt⟩ := V_a1
  obtain ⟨fs, hr, hrun, hended, hW, hsame⟩ := X0.leave (v := some (.int (own_scan el p2 p4 5 p3))) (fun h => by rw [Bd.returns] at h; cases h)
  refine ⟨_, _, pre0 _ ?_, hrun, hended, _, _, rfl, ?_, ⟨_, rfl⟩, hW, hsame.mono (by decide) (by decide)⟩
  · show Steps p.tables e below (s₁.setTop (mkF m 0 #[.val (.ref a1), .val (.int p2), .val (.int p3), .val (.int p4), .unset] [])) _
    refine XS.iloadN X0.here hx rfl (hb hby d1_0) rfl ?_
    show Steps p.tables e below (s₁.setTop (mkF m 1 #[.val (.ref a1), .val (.int p2), .val (.int p3), .val (.int p4), .unset] [(.int p3)])) _
    refine XS.istore X0.here hx rfl (hb hby d1_1) rfl (l' := #[.val (.ref a1), .val (.int p2), .val (.int p3), .val (.int p4), .val (.int p3)]) rfl ?_
    show Steps p.tables e below (s₁.setTop (mkF m 3 #[.val (.ref a1), .val (.int p2), .val (.int p3), .val (.int p4), .val (.int p3)] [])) _
    have loop : ∀ (n : Nat) (i : Int32), 0 ≤ i.toInt → p4.toInt - i.toInt ≤ n → own_scan el p2 p4 n i = own_scan el p2 p4 5 p3 → Steps p.tables e below (s₁.setTop (mkF m 3 #[.val (.ref a1), .val (.int p2), .val (.int p3), .val (.int p4), .val (.int i)] [])) (s₁.setFrames fs) := by
      intro n
      induction n with
      | zero =>
        intro i hi hn he
        have hc : ¬ (i < p4) := by rw [Int32.lt_iff_toInt_lt]; omega
        rw [← he, show own_scan el p2 p4 0 i = p4 from rfl] at hr
        refine XS.iload X0.here hx rfl (hb hby d1_3) rfl ?_
        show Steps p.tables e below (s₁.setTop (mkF m 5 #[.val (.ref a1), .val (.int p2), .val (.int p3), .val (.int p4), .val (.int i)] [(.int i)])) _
        refine XS.iloadN X0.here hx rfl (hb hby d1_5) rfl ?_
        show Steps p.tables e below (s₁.setTop (mkF m 6 #[.val (.ref a1), .val (.int p2), .val (.int p3), .val (.int p4), .val (.int i)] [(.int p4), (.int i)])) _
        refine XS.icmpYes X0.here hx rfl (pc0 := 6) (pc' := 26) rfl (hb hby d1_6) rfl (flt hc).2.1 (by decide) (by decide) ?_
        show Steps p.tables e below (s₁.setTop (mkF m 26 #[.val (.ref a1), .val (.int p2), .val (.int p3), .val (.int p4), .val (.int i)] [])) _
        refine XS.iloadN X0.here hx rfl (hb hby d1_26) rfl ?_
        show Steps p.tables e below (s₁.setTop (mkF m 27 #[.val (.ref a1), .val (.int p2), .val (.int p3), .val (.int p4), .val (.int i)] [(.int p4)])) _
        exact retI X0 hx Bd.returns (hb hby d1_27) hr
      | succ n ih =>
        intro i hi hn he
        by_cases hc : i < p4
        · have hlt : i.toInt < p4.toInt := Int32.lt_iff_toInt_lt.mp hc
          have hi0 : ¬ i < 0 := by rw [Int32.lt_iff_toInt_lt, show (0 : Int32).toInt = 0 from by decide]; omega
          have hiz : i < z_a1 := by rw [Int32.lt_iff_toInt_lt]; omega
          have hin : ¬ (i < 0 ∨ cl.slots.size ≤ i.toNatClampNeg) := inb_of Sz ⟨hi0, hiz⟩
          have hat : cl.slots[i.toNatClampNeg]? = some (.int (el i)) := (Ha _ (Nat.lt_of_not_le fun q => hin (Or.inr q))).trans (congrArg some (hel i hi0 hiz))
          by_cases hh : el i = p2
          · have hv : own_scan el p2 p4 (n + 1) i = i := by rw [own_scan, if_pos hc, if_pos hh]
            rw [← he, hv] at hr
            refine XS.iload X0.here hx rfl (hb hby d1_3) rfl ?_
            show Steps p.tables e below (s₁.setTop (mkF m 5 #[.val (.ref a1), .val (.int p2), .val (.int p3), .val (.int p4), .val (.int i)] [(.int i)])) _
            refine XS.iloadN X0.here hx rfl (hb hby d1_5) rfl ?_
            show Steps p.tables e below (s₁.setTop (mkF m 6 #[.val (.ref a1), .val (.int p2), .val (.int p3), .val (.int p4), .val (.int i)] [(.int p4), (.int i)])) _
            refine XS.icmpNo X0.here hx rfl (hb hby d1_6) rfl (tlt hc).2.1 ?_
            show Steps p.tables e below (s₁.setTop (mkF m 9 #[.val (.ref a1), .val (.int p2), .val (.int p3), .val (.int p4), .val (.int i)] [])) _
            refine XS.aloadN X0.here hx rfl (hb hby d1_9) rfl rfl ?_
            show Steps p.tables e below (s₁.setTop (mkF m 10 #[.val (.ref a1), .val (.int p2), .val (.int p3), .val (.int p4), .val (.int i)] [(.ref a1)])) _
            refine XS.iload X0.here hx rfl (hb hby d1_10) rfl ?_
            show Steps p.tables e below (s₁.setTop (mkF m 12 #[.val (.ref a1), .val (.int p2), .val (.int p3), .val (.int p4), .val (.int i)] [(.int i), (.ref a1)])) _
            refine X0.baloadBytes hx (j := i) (v := (.int (el i))) (by rw [e0]; exact Ar.1) (State.isArrayOf_alike hZ.alike Ar.2.1) Ar.2.2 hin hat (g := (mkF m 12 #[.val (.ref a1), .val (.int p2), .val (.int p3), .val (.int p4), .val (.int i)] [(.int i), (.ref a1)])) rfl rfl (hb hby d1_12) _ ?_
            show Steps p.tables e below (s₁.setTop (mkF m 13 #[.val (.ref a1), .val (.int p2), .val (.int p3), .val (.int p4), .val (.int i)] [(.int (el i))])) _
            refine XS.iloadN X0.here hx rfl (hb hby d1_13) rfl ?_
            show Steps p.tables e below (s₁.setTop (mkF m 14 #[.val (.ref a1), .val (.int p2), .val (.int p3), .val (.int p4), .val (.int i)] [(.int p2), (.int (el i))])) _
            refine XS.icmpNo X0.here hx rfl (hb hby d1_14) rfl (teq hh).2 ?_
            show Steps p.tables e below (s₁.setTop (mkF m 17 #[.val (.ref a1), .val (.int p2), .val (.int p3), .val (.int p4), .val (.int i)] [])) _
            refine XS.iload X0.here hx rfl (hb hby d1_17) rfl ?_
            show Steps p.tables e below (s₁.setTop (mkF m 19 #[.val (.ref a1), .val (.int p2), .val (.int p3), .val (.int p4), .val (.int i)] [(.int i)])) _
            exact retI X0 hx Bd.returns (hb hby d1_19) hr
          · have hv : own_scan el p2 p4 (n + 1) i = own_scan el p2 p4 n (i + 1) := by rw [own_scan, if_pos hc, if_neg hh]
            have h1 : (i + (1 : Int32)).toInt = i.toInt + 1 := own_add i 1 (by rw [show (1 : Int32).toInt = 1 from by decide]; omega) (by rw [show (1 : Int32).toInt = 1 from by decide]; omega)
            refine XS.iload X0.here hx rfl (hb hby d1_3) rfl ?_
            show Steps p.tables e below (s₁.setTop (mkF m 5 #[.val (.ref a1), .val (.int p2), .val (.int p3), .val (.int p4), .val (.int i)] [(.int i)])) _
            refine XS.iloadN X0.here hx rfl (hb hby d1_5) rfl ?_
            show Steps p.tables e below (s₁.setTop (mkF m 6 #[.val (.ref a1), .val (.int p2), .val (.int p3), .val (.int p4), .val (.int i)] [(.int p4), (.int i)])) _
            refine XS.icmpNo X0.here hx rfl (hb hby d1_6) rfl (tlt hc).2.1 ?_
            show Steps p.tables e below (s₁.setTop (mkF m 9 #[.val (.ref a1), .val (.int p2), .val (.int p3), .val (.int p4), .val (.int i)] [])) _
            refine XS.aloadN X0.here hx rfl (hb hby d1_9) rfl rfl ?_
            show Steps p.tables e below (s₁.setTop (mkF m 10 #[.val (.ref a1), .val (.int p2), .val (.int p3), .val (.int p4), .val (.int i)] [(.ref a1)])) _
            refine XS.iload X0.here hx rfl (hb hby d1_10) rfl ?_
            show Steps p.tables e below (s₁.setTop (mkF m 12 #[.val (.ref a1), .val (.int p2), .val (.int p3), .val (.int p4), .val (.int i)] [(.int i), (.ref a1)])) _
            refine X0.baloadBytes hx (j := i) (v := (.int (el i))) (by rw [e0]; exact Ar.1) (State.isArrayOf_alike hZ.alike Ar.2.1) Ar.2.2 hin hat (g := (mkF m 12 #[.val (.ref a1), .val (.int p2), .val (.int p3), .val (.int p4), .val (.int i)] [(.int i), (.ref a1)])) rfl rfl (hb hby d1_12) _ ?_
            show Steps p.tables e below (s₁.setTop (mkF m 13 #[.val (.ref a1), .val (.int p2), .val (.int p3), .val (.int p4), .val (.int i)] [(.int (el i))])) _
            refine XS.iloadN X0.here hx rfl (hb hby d1_13) rfl ?_
            show Steps p.tables e below (s₁.setTop (mkF m 14 #[.val (.ref a1), .val (.int p2), .val (.int p3), .val (.int p4), .val (.int i)] [(.int p2), (.int (el i))])) _
            refine XS.icmpYes X0.here hx rfl (pc0 := 14) (pc' := 20) rfl (hb hby d1_14) rfl (feq hh).2 (by decide) (by decide) ?_
            show Steps p.tables e below (s₁.setTop (mkF m 20 #[.val (.ref a1), .val (.int p2), .val (.int p3), .val (.int p4), .val (.int i)] [])) _
            refine XS.iinc X0.here hx rfl (hb hby d1_20) rfl (l' := #[.val (.ref a1), .val (.int p2), .val (.int p3), .val (.int p4), .val (.int (i + (1 : Int32)))]) rfl ?_
            show Steps p.tables e below (s₁.setTop (mkF m 23 #[.val (.ref a1), .val (.int p2), .val (.int p3), .val (.int p4), .val (.int (i + (1 : Int32)))] [])) _
            refine XS.goto X0.here hx rfl (pc0 := 23) (pc' := 3) rfl (hb hby d1_23) (by decide) (by decide) ?_
            show Steps p.tables e below (s₁.setTop (mkF m 3 #[.val (.ref a1), .val (.int p2), .val (.int p3), .val (.int p4), .val (.int (i + (1 : Int32)))] [])) _
            exact ih (i + (1 : Int32)) (by rw [h1]; omega) (by rw [h1]; omega) (hv.symm.trans he)
        · have hv : own_scan el p2 p4 (n + 1) i = p4 := by rw [own_scan, if_neg hc]
          rw [← he, hv] at hr
          refine XS.iload X0.here hx rfl (hb hby d1_3) rfl ?_
          show Steps p.tables e below (s₁.setTop (mkF m 5 #[.val (.ref a1), .val (.int p2), .val (.int p3), .val (.int p4), .val (.int i)] [(.int i)])) _
          refine XS.iloadN X0.here hx rfl (hb hby d1_5) rfl ?_
          show Steps p.tables e below (s₁.setTop (mkF m 6 #[.val (.ref a1), .val (.int p2), .val (.int p3), .val (.int p4), .val (.int i)] [(.int p4), (.int i)])) _
          refine XS.icmpYes X0.here hx rfl (pc0 := 6) (pc' := 26) rfl (hb hby d1_6) rfl (flt hc).2.1 (by decide) (by decide) ?_
          show Steps p.tables e below (s₁.setTop (mkF m 26 #[.val (.ref a1), .val (.int p2), .val (.int p3), .val (.int p4), .val (.int i)] [])) _
          refine XS.iloadN X0.here hx rfl (hb hby d1_26) rfl ?_
          show Steps p.tables e below (s₁.setTop (mkF m 27 #[.val (.ref a1), .val (.int p2), .val (.int p3), .val (.int p4), .val (.int i)] [(.int p4)])) _
          exact retI X0 hx Bd.returns (hb hby d1_27) hr
    exact loop 5 p3 hfr (by omega) rfl
  · show Q_rm1 Z a1 p2 p3 p4 k_a1 z_a1 vs_a1 el h0 n0 _ s₁.heap _
    exact ⟨rfl, N0, e0⟩
theorem own_rng5 (x : Int32) : 0 ≤ ((x &&& (2147483647 : Int32)) - ((x &&& (2147483647 : Int32)) / (5 : Int32)) * (5 : Int32)).toInt ∧ ((x &&& (2147483647 : Int32)) - ((x &&& (2147483647 : Int32)) / (5 : Int32)) * (5 : Int32)).toInt ≤ 4 := by
  have h := own_mod (x &&& 2147483647) 5 (own_pos x) (by decide)
  rw [show (5 : Int32).toInt = 5 from by decide] at h
  rw [h]
  omega
theorem own_hel (b0 b1 b2 b3 : Int32) : ∀ j : Int32, ¬ j < 0 → j < (4 : Int32) → ([(.int b0), (.int b1), (.int b2), (.int b3)] : List Value).getD j.toNatClampNeg (.int (0 : Int32)) = .int (own_el b0 b1 b2 b3 j) := by
  intro j h1 h2
  rw [Int32.lt_iff_toInt_lt, show (0 : Int32).toInt = 0 from by decide] at h1
  rw [Int32.lt_iff_toInt_lt, show (4 : Int32).toInt = 4 from by decide] at h2
  rcases own_c5 j (by omega) (by omega) with rfl | rfl | rfl | rfl | rfl
  · rfl
  · rfl
  · rfl
  · rfl
  · exact absurd h2 (by decide)
theorem own_bq (x p1 : Int32) : nar .byte x = p1.toUInt32.toUInt16.toUInt32.toInt32 ↔ (p1.toUInt32.toUInt16.toUInt32.toInt32 < 128 ∧ nar .byte x = (p1.toUInt32.toUInt16.toUInt32.toInt32).toInt8.toInt32) := own_byte (x.toInt8.toInt32) _ (own_nb x).1 (own_nb x).2 (own_ch p1)
theorem pd__28_5bBCII_29I : parseMethodDescriptor "([BCII)I" = some ⟨[(.array .byte), .char, .int, .int], some .int⟩ := by decide +kernel
theorem pd__28_5bBCIII_29Z : parseMethodDescriptor "([BCIII)Z" = some ⟨[(.array .byte), .char, .int, .int, .int], some .boolean⟩ := by decide +kernel
def t0_0 (p1 : Int32) : Int32 := (p1.toUInt32.toUInt16.toUInt32.toInt32)
def t0_1 (p1 : Int32) (q2 : Int64) (p3 : Int32) : Int32 := (if (p3 &&& (1 : Int32)) = (0 : Int32) then ((q2.toInt32).toInt8.toInt32) else ((t0_0 p1).toInt8.toInt32))
def t0_2 (q2 : Int64) : Int64 := (q2 >>> ((8 : Int32) &&& 0x3f).toInt64)
def t0_3 (p1 : Int32) (q2 : Int64) (p3 : Int32) : Int32 := (if (p3 &&& (2 : Int32)) = (0 : Int32) then (((t0_2 q2).toInt32).toInt8.toInt32) else ((t0_0 p1).toInt8.toInt32))
def t0_4 (q2 : Int64) : Int64 := (q2 >>> ((16 : Int32) &&& 0x3f).toInt64)
def t0_5 (p1 : Int32) (q2 : Int64) (p3 : Int32) : Int32 := (if (p3 &&& (4 : Int32)) = (0 : Int32) then (((t0_4 q2).toInt32).toInt8.toInt32) else ((t0_0 p1).toInt8.toInt32))
def t0_6 (q2 : Int64) : Int64 := (q2 >>> ((24 : Int32) &&& 0x3f).toInt64)
def t0_7 (p1 : Int32) (q2 : Int64) (p3 : Int32) : Int32 := (if (p3 &&& (8 : Int32)) = (0 : Int32) then (((t0_6 q2).toInt32).toInt8.toInt32) else ((t0_0 p1).toInt8.toInt32))
def t0_8 (p4 : Int32) : Int32 := ((p4 &&& (2147483647 : Int32)) - ((p4 &&& (2147483647 : Int32)) / (5 : Int32)) * (5 : Int32))
def t0_9 (p5 : Int32) : Int32 := ((p5 &&& (2147483647 : Int32)) - ((p5 &&& (2147483647 : Int32)) / (5 : Int32)) * (5 : Int32))
def t0_10 (p1 : Int32) (q2 : Int64) (p3 : Int32) (p4 : Int32) (p5 : Int32) : Int32 := (own_scan (own_el (nar .byte (t0_1 p1 q2 p3)) (nar .byte (t0_3 p1 q2 p3)) (nar .byte (t0_5 p1 q2 p3)) (nar .byte (t0_7 p1 q2 p3))) (t0_0 p1) (t0_9 p5) 5 (t0_8 p4))
def t0_11 (p1 : Int32) (q2 : Int64) (p3 : Int32) (p4 : Int32) (p5 : Int32) : Int32 := (F2 (t0_0 p1) (t0_8 p4) (t0_9 p5) (3 : Int32) (nar .byte (t0_7 p1 q2 p3)))
def t0_12 (p1 : Int32) (q2 : Int64) (p3 : Int32) (p4 : Int32) (p5 : Int32) : Int32 := (if (t0_11 p1 q2 p3 p4 p5) = (0 : Int32) then (t0_9 p5) else (3 : Int32))
def t0_13 (p1 : Int32) (q2 : Int64) (p3 : Int32) (p4 : Int32) (p5 : Int32) : Int32 := (F2 (t0_0 p1) (t0_8 p4) (t0_9 p5) (2 : Int32) (nar .byte (t0_5 p1 q2 p3)))
def t0_14 (p1 : Int32) (q2 : Int64) (p3 : Int32) (p4 : Int32) (p5 : Int32) : Int32 := (if (t0_13 p1 q2 p3 p4 p5) = (0 : Int32) then (t0_12 p1 q2 p3 p4 p5) else (2 : Int32))
def t0_15 (p1 : Int32) (q2 : Int64) (p3 : Int32) (p4 : Int32) (p5 : Int32) : Int32 := (F2 (t0_0 p1) (t0_8 p4) (t0_9 p5) (1 : Int32) (nar .byte (t0_3 p1 q2 p3)))
def t0_16 (p1 : Int32) (q2 : Int64) (p3 : Int32) (p4 : Int32) (p5 : Int32) : Int32 := (if (t0_15 p1 q2 p3 p4 p5) = (0 : Int32) then (t0_14 p1 q2 p3 p4 p5) else (1 : Int32))
def t0_17 (p1 : Int32) (q2 : Int64) (p3 : Int32) (p4 : Int32) (p5 : Int32) : Int32 := (F2 (t0_0 p1) (t0_8 p4) (t0_9 p5) (0 : Int32) (nar .byte (t0_1 p1 q2 p3)))
def t0_18 (p1 : Int32) (q2 : Int64) (p3 : Int32) (p4 : Int32) (p5 : Int32) : Int32 := (if (t0_17 p1 q2 p3 p4 p5) = (0 : Int32) then (t0_16 p1 q2 p3 p4 p5) else (0 : Int32))
theorem pn_0 : plainName "com/example/lob/lob/broker/TextLinesIndexOfPinLaw" = true := by first | (simp [plainName, overriddenIn]; done) | decide +kernel
theorem ef_0 (m : MethodId) (x0 : Int32) (x1 : Int64) (x2 : Int32) (x3 : Int32) (x4 : Int32) : entryFrame m #[(.int x0), (.long x1), (.int x2), (.int x3), (.int x4)] maxLocals = mkF m 0 #[.val (.int x0), .val (.long x1), .second, .val (.int x2), .val (.int x3), .val (.int x4), .unset, .unset, .unset, .unset, .unset, .unset] [] := by first | (simp [entryFrame, mkF, argsToLocals, Value.category, maxLocals]; done) | rfl
def Q_rm0 (Z : State) (p1 : Int32) (q2 : Int64) (p3 : Int32) (p4 : Int32) (p5 : Int32) (h0 : Heap) (n0 : Nat) (v : Option Value) (h : Heap) (L : List Loc) : Prop := v = some (.int (1 : Int32)) ∧ Fr n0 L
set_option maxRecDepth 65536 in
set_option maxHeartbeats 40000000 in
theorem rm0 (l : Launch) (Z : State) (a0 : Array Value) (hw : ∀ d ∈ tables_1, d.before a0 Z = true) (ws : List Jvm.Cond) (p1 : Int32) (q2 : Int64) (p3 : Int32) (p4 : Int32) (p5 : Int32) (h0 : Heap) (n0 : Nat) (Z0 : n0 ≤ h0.size) :
    MetFree l x (head1 (Jvm.Cond.code x code maxLocals ret :: ws) room_1) (fun a U => a = #[(.int p1), (.long q2), (.int p3), (.int p4), (.int p5)] ∧ Z.Warmed39 U.vm ∧ U.heap = h0) (fun _ _ _ _ _ => True) (fun _ U o U' => ∃ v L, o = .returned v ∧ Q_rm0 Z p1 q2 p3 p4 p5 h0 n0 v U'.heap L ∧ FrameEnd U o U' L room_1.cells room_1.slots) := by
  refine MetFree.of_bodySF (plainFor_of_name pn_0) hisR ?_
  intro p e s m args below meth c s₁ Bd hml0 hP hK
  obtain ⟨rfl, hZ, hh⟩ := hP
  have hx := Bd.exec
  have hby := Bd.bytes
  have hml : c.maxLocals = 12 := hml0
  have hown : s.vm.findClass "com/example/lob/lob/broker/TextLinesIndexOfPinLaw" = some m.cls := findClass_of_methodNamed Bd.named
  have hnm := (name_of_methodNamed Bd.named Bd.method).1
  have X0 : Stand p l e room_1 s m #[(.int p1), (.long q2), (.int p3), (.int p4), (.int p5)] below meth c s₁ [] 0 0 := Stand.of_body Bd
  have e0 : s₁.heap = h0 := by rw [← hh, Bd.state]; rfl
  have N0 := Fr.nil n0
  have pre0 : ∀ t, Steps p.tables e below (s₁.setTop (mkF m 0 #[.val (.int p1), .val (.long q2), .second, .val (.int p3), .val (.int p4), .val (.int p5), .unset, .unset, .unset, .unset, .unset, .unset] [])) t → Steps p.tables e below (s₁.setTop (entryFrame m #[(.int p1), (.long q2), (.int p3), (.int p4), (.int p5)] maxLocals)) t := fun t k => castTop (ef_0 m p1 q2 p3 p4 p5) k
  obtain ⟨T6, h6, k6, X6, e6, E6, A6, st6⟩ := newP X0 hx hZ (hw _ (List.mem_of_getElem? (i := 0) rfl)) e0 (g := (mkF m 5 #[.val (.int p1), .val (.long q2), .second, .val (.int p3), .val (.int p4), .val (.int p5), .val (.int (t0_0 p1)), .unset, .unset, .unset, .unset, .unset] [(.int (4 : Int32))])) rfl (hb hby at_5) rfl (by decide) (cap := 4) (by decide) (by decide) (by decide) (by decide)
  obtain ⟨b6, g6⟩ : ∃ z, z = h0.size := ⟨_, rfl⟩
  rw [← g6] at A6 st6
  have g_b6 : n0 ≤ b6 := Nat.le_trans Z0 (Nat.le_of_eq g6.symm)
  have sz_b6 : h0.size ≤ b6 := Nat.le_trans (Nat.le_refl h0.size) (Nat.le_of_eq g6.symm)
  have V_b6 : Arv Z h6 b6 k6 .byte (4 : Int32) [(.int (0 : Int32)), (.int (0 : Int32)), (.int (0 : Int32)), (.int (0 : Int32))] (.int (0 : Int32)) := (Arv.new A6 (by decide)).pad (pad_rep [] (.int (0 : Int32)) 4)
  obtain ⟨cl_b6_0, Ar_b6_0, q_b6_0, Sz_b6_0, Ng_b6_0, Ha_b6_0, Gt_b6_0⟩ := V_b6
  have hin_b6_0 : ¬ ((0 : Int32) < 0 ∨ cl_b6_0.slots.size ≤ ((0 : Int32)).toNatClampNeg) := inb_of Sz_b6_0 ⟨by decide, by decide⟩
  obtain ⟨T7, h7, X7, e7, W7, st7⟩ := stB X6 hx hZ e6 Ar_b6_0 (j := (0 : Int32)) hin_b6_0 (g := (mkF m 27 #[.val (.int p1), .val (.long q2), .second, .val (.int p3), .val (.int p4), .val (.int p5), .val (.int (t0_0 p1)), .val (.ref b6), .unset, .unset, .unset, .unset] [(.int (t0_1 p1 q2 p3)), (.int (0 : Int32)), (.ref b6)])) rfl rfl (hb hby at_27)
  have V7 : Arv Z h7 b6 k6 .byte (4 : Int32) [(.int (nar .byte (t0_1 p1 q2 p3))), (.int (0 : Int32)), (.int (0 : Int32)), (.int (0 : Int32))] (.int (0 : Int32)) := Arv.set Ar_b6_0 q_b6_0 Sz_b6_0 Ng_b6_0 Ha_b6_0 Gt_b6_0 (fits_nar_byte _) W7 0 rfl (Nat.le_of_ble_eq_true rfl)
  have N7 := Fr.snoc X7 N0 g_b6
  obtain ⟨cl_b6_1, Ar_b6_1, q_b6_1, Sz_b6_1, Ng_b6_1, Ha_b6_1, Gt_b6_1⟩ := V7
  have hin_b6_1 : ¬ ((1 : Int32) < 0 ∨ cl_b6_1.slots.size ≤ ((1 : Int32)).toNatClampNeg) := inb_of Sz_b6_1 ⟨by decide, by decide⟩
  obtain ⟨T8, h8, X8, e8, W8, st8⟩ := stB X7 hx hZ e7 Ar_b6_1 (j := (1 : Int32)) hin_b6_1 (g := (mkF m 49 #[.val (.int p1), .val (.long q2), .second, .val (.int p3), .val (.int p4), .val (.int p5), .val (.int (t0_0 p1)), .val (.ref b6), .unset, .unset, .unset, .unset] [(.int (t0_3 p1 q2 p3)), (.int (1 : Int32)), (.ref b6)])) rfl rfl (hb hby at_49)
  have V8 : Arv Z h8 b6 k6 .byte (4 : Int32) [(.int (nar .byte (t0_1 p1 q2 p3))), (.int (nar .byte (t0_3 p1 q2 p3))), (.int (0 : Int32)), (.int (0 : Int32))] (.int (0 : Int32)) := Arv.set Ar_b6_1 q_b6_1 Sz_b6_1 Ng_b6_1 Ha_b6_1 Gt_b6_1 (fits_nar_byte _) W8 1 rfl (Nat.le_of_ble_eq_true rfl)
  have N8 := Fr.snoc X8 N7 g_b6
  obtain ⟨cl_b6_2, Ar_b6_2, q_b6_2, Sz_b6_2, Ng_b6_2, Ha_b6_2, Gt_b6_2⟩ := V8
  have hin_b6_2 : ¬ ((2 : Int32) < 0 ∨ cl_b6_2.slots.size ≤ ((2 : Int32)).toNatClampNeg) := inb_of Sz_b6_2 ⟨by decide, by decide⟩
  obtain ⟨T9, h9, X9, e9, W9, st9⟩ := stB X8 hx hZ e8 Ar_b6_2 (j := (2 : Int32)) hin_b6_2 (g := (mkF m 71 #[.val (.int p1), .val (.long q2), .second, .val (.int p3), .val (.int p4), .val (.int p5), .val (.int (t0_0 p1)), .val (.ref b6), .unset, .unset, .unset, .unset] [(.int (t0_5 p1 q2 p3)), (.int (2 : Int32)), (.ref b6)])) rfl rfl (hb hby at_71)
  have V9 : Arv Z h9 b6 k6 .byte (4 : Int32) [(.int (nar .byte (t0_1 p1 q2 p3))), (.int (nar .byte (t0_3 p1 q2 p3))), (.int (nar .byte (t0_5 p1 q2 p3))), (.int (0 : Int32))] (.int (0 : Int32)) := Arv.set Ar_b6_2 q_b6_2 Sz_b6_2 Ng_b6_2 Ha_b6_2 Gt_b6_2 (fits_nar_byte _) W9 2 rfl (Nat.le_of_ble_eq_true rfl)
  have N9 := Fr.snoc X9 N8 g_b6
  obtain ⟨cl_b6_3, Ar_b6_3, q_b6_3, Sz_b6_3, Ng_b6_3, Ha_b6_3, Gt_b6_3⟩ := V9
  have hin_b6_3 : ¬ ((3 : Int32) < 0 ∨ cl_b6_3.slots.size ≤ ((3 : Int32)).toNatClampNeg) := inb_of Sz_b6_3 ⟨by decide, by decide⟩
  obtain ⟨T10, h10, X10, e10, W10, st10⟩ := stB X9 hx hZ e9 Ar_b6_3 (j := (3 : Int32)) hin_b6_3 (g := (mkF m 94 #[.val (.int p1), .val (.long q2), .second, .val (.int p3), .val (.int p4), .val (.int p5), .val (.int (t0_0 p1)), .val (.ref b6), .unset, .unset, .unset, .unset] [(.int (t0_7 p1 q2 p3)), (.int (3 : Int32)), (.ref b6)])) rfl rfl (hb hby at_94)
  have V10 : Arv Z h10 b6 k6 .byte (4 : Int32) [(.int (nar .byte (t0_1 p1 q2 p3))), (.int (nar .byte (t0_3 p1 q2 p3))), (.int (nar .byte (t0_5 p1 q2 p3))), (.int (nar .byte (t0_7 p1 q2 p3)))] (.int (0 : Int32)) := Arv.set Ar_b6_3 q_b6_3 Sz_b6_3 Ng_b6_3 Ha_b6_3 Gt_b6_3 (fits_nar_byte _) W10 3 rfl (Nat.le_of_ble_eq_true rfl)
  have N10 := Fr.snoc X10 N9 g_b6
  obtain ⟨_, _, ⟨T11, L11, k11, n11⟩, -, X11, ⟨Lc11, hQ11, l11, y11, z11⟩, st11⟩ := Jvm.LawKit.callS X10 hx (y := (⟨"com/example/lob/lob/broker/TextLines", "indexOf", "([BCII)I"⟩ : MethodName)) hown (mvT hZ (hw _ (List.mem_of_getElem? (i := 2) rfl))) (mvT hZ (hw _ (List.mem_of_getElem? (i := 3) rfl))) (mvT hZ (hw _ (List.mem_of_getElem? (i := 4) rfl))) (mvT hZ (hw _ (List.mem_of_getElem? (i := 5) rfl))) (by decide) (backOf (W := 0) (rm1 l Z a0 hw [] b6 (t0_0 p1) (t0_8 p4) (t0_9 p5) k6 (4 : Int32) ([(.int (nar .byte (t0_1 p1 q2 p3))), (.int (nar .byte (t0_3 p1 q2 p3))), (.int (nar .byte (t0_5 p1 q2 p3))), (.int (nar .byte (t0_7 p1 q2 p3)))]) (own_el (nar .byte (t0_1 p1 q2 p3)) (nar .byte (t0_3 p1 q2 p3)) (nar .byte (t0_5 p1 q2 p3)) (nar .byte (t0_7 p1 q2 p3))) h10 n0 (Nat.le_trans (Nat.le_trans (Nat.le_trans (Nat.le_trans (Nat.le_trans Z0 E6.1) (Keep.of_wr W7).1) (Keep.of_wr W8).1) (Keep.of_wr W9).1) (Keep.of_wr W10).1) V10 (own_hel _ _ _ _) ((own_rng5 p4).1) (⟨(own_rng5 p5).2, Int.le_trans (own_rng5 p5).2 (by decide)⟩)) hZ (hw _ (List.mem_of_getElem? (i := 5) rfl)) (hw _ (List.mem_of_getElem? (i := 4) rfl)) (by decide) (by decide)) (g := (mkF m 121 #[.val (.int p1), .val (.long q2), .second, .val (.int p3), .val (.int p4), .val (.int p5), .val (.int (t0_0 p1)), .val (.ref b6), .val (.int (t0_8 p4)), .val (.int (t0_9 p5)), .unset, .unset] [(.int (t0_9 p5)), (.int (t0_8 p4)), (.int (t0_0 p1)), (.ref b6)])) rfl (by rw [hml]; rfl) (argsL := [(.ref b6), (.int (t0_0 p1)), (.int (t0_8 p4)), (.int (t0_9 p5))]) (rest := []) (lenOf pd__28_5bBCII_29I rfl) rfl (by show 2 * 0 + _ ≤ _; exact Nat.le_of_eq rfl) (hb hby at_121) (fun _ _ => ⟨rfl, e10, (by decide : 1 + 0 ≤ _), (by decide : 4 + 0 ≤ _)⟩)
  dsimp only [Pt.U, Pt.locs, Pt.cells, Pt.slots] at X11 l11 y11 z11 st11 hQ11
  subst l11 y11 z11
  obtain ⟨rfl, N11q, e11⟩ := hQ11
  have N11 := Fr.app N10 N11q
  obtain ⟨_, _, ⟨T12, L12, k12, n12⟩, -, X12, ⟨Lc12, hQ12, l12, y12, z12⟩, st12⟩ := Jvm.LawKit.callS X11 hx (y := (⟨"com/example/lob/lob/broker/TextLinesIndexOfPinLaw", "hit", "([BCIII)Z"⟩ : MethodName)) hown (mvT hZ (hw _ (List.mem_of_getElem? (i := 6) rfl))) (mvT hZ (hw _ (List.mem_of_getElem? (i := 7) rfl))) (mvT hZ (hw _ (List.mem_of_getElem? (i := 8) rfl))) (mvT hZ (hw _ (List.mem_of_getElem? (i := 9) rfl))) (by decide) (backOf (W := 0) (rm2 l Z a0 hw [] b6 (t0_0 p1) (t0_8 p4) (t0_9 p5) (3 : Int32) k6 (4 : Int32) ([(.int (nar .byte (t0_1 p1 q2 p3))), (.int (nar .byte (t0_3 p1 q2 p3))), (.int (nar .byte (t0_5 p1 q2 p3))), (.int (nar .byte (t0_7 p1 q2 p3)))]) (nar .byte (t0_7 p1 q2 p3)) h10 n0 (Nat.le_trans (Nat.le_trans (Nat.le_trans (Nat.le_trans (Nat.le_trans Z0 E6.1) (Keep.of_wr W7).1) (Keep.of_wr W8).1) (Keep.of_wr W9).1) (Keep.of_wr W10).1) V10 (⟨by decide, by decide⟩) rfl) hZ (hw _ (List.mem_of_getElem? (i := 9) rfl)) (hw _ (List.mem_of_getElem? (i := 8) rfl)) (by decide) (by decide)) (g := (mkF m 139 #[.val (.int p1), .val (.long q2), .second, .val (.int p3), .val (.int p4), .val (.int p5), .val (.int (t0_0 p1)), .val (.ref b6), .val (.int (t0_8 p4)), .val (.int (t0_9 p5)), .val (.int (t0_10 p1 q2 p3 p4 p5)), .val (.int (t0_9 p5))] [(.int (3 : Int32)), (.int (t0_9 p5)), (.int (t0_8 p4)), (.int (t0_0 p1)), (.ref b6)])) rfl (by rw [hml]; rfl) (argsL := [(.ref b6), (.int (t0_0 p1)), (.int (t0_8 p4)), (.int (t0_9 p5)), (.int (3 : Int32))]) (rest := []) (lenOf pd__28_5bBCIII_29Z rfl) rfl (by show 2 * 0 + _ ≤ _; exact Nat.le_of_eq rfl) (hb hby at_139) (fun _ _ => ⟨rfl, e11, (by decide : 1 + 0 ≤ _), (by decide : 4 + 0 ≤ _)⟩)
  dsimp only [Pt.U, Pt.locs, Pt.cells, Pt.slots] at X12 l12 y12 z12 st12 hQ12
  subst l12 y12 z12
  obtain ⟨rfl, N12q, e12⟩ := hQ12
  have N12 := Fr.app N11 N12q
  obtain ⟨_, _, ⟨T13, L13, k13, n13⟩, -, X13, ⟨Lc13, hQ13, l13, y13, z13⟩, st13⟩ := Jvm.LawKit.callS X12 hx (y := (⟨"com/example/lob/lob/broker/TextLinesIndexOfPinLaw", "hit", "([BCIII)Z"⟩ : MethodName)) hown (mvT hZ (hw _ (List.mem_of_getElem? (i := 6) rfl))) (mvT hZ (hw _ (List.mem_of_getElem? (i := 7) rfl))) (mvT hZ (hw _ (List.mem_of_getElem? (i := 8) rfl))) (mvT hZ (hw _ (List.mem_of_getElem? (i := 9) rfl))) (by decide) (backOf (W := 0) (rm2 l Z a0 hw [] b6 (t0_0 p1) (t0_8 p4) (t0_9 p5) (2 : Int32) k6 (4 : Int32) ([(.int (nar .byte (t0_1 p1 q2 p3))), (.int (nar .byte (t0_3 p1 q2 p3))), (.int (nar .byte (t0_5 p1 q2 p3))), (.int (nar .byte (t0_7 p1 q2 p3)))]) (nar .byte (t0_5 p1 q2 p3)) h10 n0 (Nat.le_trans (Nat.le_trans (Nat.le_trans (Nat.le_trans (Nat.le_trans Z0 E6.1) (Keep.of_wr W7).1) (Keep.of_wr W8).1) (Keep.of_wr W9).1) (Keep.of_wr W10).1) V10 (⟨by decide, by decide⟩) rfl) hZ (hw _ (List.mem_of_getElem? (i := 9) rfl)) (hw _ (List.mem_of_getElem? (i := 8) rfl)) (by decide) (by decide)) (g := (mkF m 157 #[.val (.int p1), .val (.long q2), .second, .val (.int p3), .val (.int p4), .val (.int p5), .val (.int (t0_0 p1)), .val (.ref b6), .val (.int (t0_8 p4)), .val (.int (t0_9 p5)), .val (.int (t0_10 p1 q2 p3 p4 p5)), .val (.int (t0_12 p1 q2 p3 p4 p5))] [(.int (2 : Int32)), (.int (t0_9 p5)), (.int (t0_8 p4)), (.int (t0_0 p1)), (.ref b6)])) rfl (by rw [hml]; rfl) (argsL := [(.ref b6), (.int (t0_0 p1)), (.int (t0_8 p4)), (.int (t0_9 p5)), (.int (2 : Int32))]) (rest := []) (lenOf pd__28_5bBCIII_29Z rfl) rfl (by show 2 * 0 + _ ≤ _; exact Nat.le_of_eq rfl) (hb hby at_157) (fun _ _ => ⟨rfl, e12, (by decide : 1 + 0 ≤ _), (by decide : 4 + 0 ≤ _)⟩)
  dsimp only [Pt.U, Pt.locs, Pt.cells, Pt.slots] at X13 l13 y13 z13 st13 hQ13
  subst l13 y13 z13
  obtain ⟨rfl, N13q, e13⟩ := hQ13
  have N13 := Fr.app N12 N13q
  obtain ⟨_, _, ⟨T14, L14, k14, n14⟩, -, X14, ⟨Lc14, hQ14, l14, y14, z14⟩, st14⟩ := Jvm.LawKit.callS X13 hx (y := (⟨"com/example/lob/lob/broker/TextLinesIndexOfPinLaw", "hit", "([BCIII)Z"⟩ : MethodName)) hown (mvT hZ (hw _ (List.mem_of_getElem? (i := 6) rfl))) (mvT hZ (hw _ (List.mem_of_getElem? (i := 7) rfl))) (mvT hZ (hw _ (List.mem_of_getElem? (i := 8) rfl))) (mvT hZ (hw _ (List.mem_of_getElem? (i := 9) rfl))) (by decide) (backOf (W := 0) (rm2 l Z a0 hw [] b6 (t0_0 p1) (t0_8 p4) (t0_9 p5) (1 : Int32) k6 (4 : Int32) ([(.int (nar .byte (t0_1 p1 q2 p3))), (.int (nar .byte (t0_3 p1 q2 p3))), (.int (nar .byte (t0_5 p1 q2 p3))), (.int (nar .byte (t0_7 p1 q2 p3)))]) (nar .byte (t0_3 p1 q2 p3)) h10 n0 (Nat.le_trans (Nat.le_trans (Nat.le_trans (Nat.le_trans (Nat.le_trans Z0 E6.1) (Keep.of_wr W7).1) (Keep.of_wr W8).1) (Keep.of_wr W9).1) (Keep.of_wr W10).1) V10 (⟨by decide, by decide⟩) rfl) hZ (hw _ (List.mem_of_getElem? (i := 9) rfl)) (hw _ (List.mem_of_getElem? (i := 8) rfl)) (by decide) (by decide)) (g := (mkF m 175 #[.val (.int p1), .val (.long q2), .second, .val (.int p3), .val (.int p4), .val (.int p5), .val (.int (t0_0 p1)), .val (.ref b6), .val (.int (t0_8 p4)), .val (.int (t0_9 p5)), .val (.int (t0_10 p1 q2 p3 p4 p5)), .val (.int (t0_14 p1 q2 p3 p4 p5))] [(.int (1 : Int32)), (.int (t0_9 p5)), (.int (t0_8 p4)), (.int (t0_0 p1)), (.ref b6)])) rfl (by rw [hml]; rfl) (argsL := [(.ref b6), (.int (t0_0 p1)), (.int (t0_8 p4)), (.int (t0_9 p5)), (.int (1 : Int32))]) (rest := []) (lenOf pd__28_5bBCIII_29Z rfl) rfl (by show 2 * 0 + _ ≤ _; exact Nat.le_of_eq rfl) (hb hby at_175) (fun _ _ => ⟨rfl, e13, (by decide : 1 + 0 ≤ _), (by decide : 4 + 0 ≤ _)⟩)
  dsimp only [Pt.U, Pt.locs, Pt.cells, Pt.slots] at X14 l14 y14 z14 st14 hQ14
  subst l14 y14 z14
  obtain ⟨rfl, N14q, e14⟩ := hQ14
  have N14 := Fr.app N13 N14q
  obtain ⟨_, _, ⟨T15, L15, k15, n15⟩, -, X15, ⟨Lc15, hQ15, l15, y15, z15⟩, st15⟩ := Jvm.LawKit.callS X14 hx (y := (⟨"com/example/lob/lob/broker/TextLinesIndexOfPinLaw", "hit", "([BCIII)Z"⟩ : MethodName)) hown (mvT hZ (hw _ (List.mem_of_getElem? (i := 6) rfl))) (mvT hZ (hw _ (List.mem_of_getElem? (i := 7) rfl))) (mvT hZ (hw _ (List.mem_of_getElem? (i := 8) rfl))) (mvT hZ (hw _ (List.mem_of_getElem? (i := 9) rfl))) (by decide) (backOf (W := 0) (rm2 l Z a0 hw [] b6 (t0_0 p1) (t0_8 p4) (t0_9 p5) (0 : Int32) k6 (4 : Int32) ([(.int (nar .byte (t0_1 p1 q2 p3))), (.int (nar .byte (t0_3 p1 q2 p3))), (.int (nar .byte (t0_5 p1 q2 p3))), (.int (nar .byte (t0_7 p1 q2 p3)))]) (nar .byte (t0_1 p1 q2 p3)) h10 n0 (Nat.le_trans (Nat.le_trans (Nat.le_trans (Nat.le_trans (Nat.le_trans Z0 E6.1) (Keep.of_wr W7).1) (Keep.of_wr W8).1) (Keep.of_wr W9).1) (Keep.of_wr W10).1) V10 (⟨by decide, by decide⟩) rfl) hZ (hw _ (List.mem_of_getElem? (i := 9) rfl)) (hw _ (List.mem_of_getElem? (i := 8) rfl)) (by decide) (by decide)) (g := (mkF m 193 #[.val (.int p1), .val (.long q2), .second, .val (.int p3), .val (.int p4), .val (.int p5), .val (.int (t0_0 p1)), .val (.ref b6), .val (.int (t0_8 p4)), .val (.int (t0_9 p5)), .val (.int (t0_10 p1 q2 p3 p4 p5)), .val (.int (t0_16 p1 q2 p3 p4 p5))] [(.int (0 : Int32)), (.int (t0_9 p5)), (.int (t0_8 p4)), (.int (t0_0 p1)), (.ref b6)])) rfl (by rw [hml]; rfl) (argsL := [(.ref b6), (.int (t0_0 p1)), (.int (t0_8 p4)), (.int (t0_9 p5)), (.int (0 : Int32))]) (rest := []) (lenOf pd__28_5bBCIII_29Z rfl) rfl (by show 2 * 0 + _ ≤ _; exact Nat.le_of_eq rfl) (hb hby at_193) (fun _ _ => ⟨rfl, e14, (by decide : 1 + 0 ≤ _), (by decide : 4 + 0 ≤ _)⟩)
  dsimp only [Pt.U, Pt.locs, Pt.cells, Pt.slots] at X15 l15 y15 z15 st15 hQ15
  subst l15 y15 z15
  obtain ⟨rfl, N15q, e15⟩ := hQ15
  have N15 := Fr.app N14 N15q
  obtain ⟨fs, hr, hrun, hended, hW, hsame⟩ := X15.leave (v := some (.int (1 : Int32))) (fun h => by rw [Bd.returns] at h; cases h)
  refine ⟨_, _, pre0 _ ?_, hrun, hended, _, _, rfl, ?_, ⟨_, rfl⟩, hW, hsame.mono (by decide) (by decide)⟩
  · show Steps p.tables e below (s₁.setTop (mkF m 0 #[.val (.int p1), .val (.long q2), .second, .val (.int p3), .val (.int p4), .val (.int p5), .unset, .unset, .unset, .unset, .unset, .unset] [])) _
    refine XS.iloadN X0.here hx rfl (hb hby at_0) rfl ?_
    show Steps p.tables e below (s₁.setTop (mkF m 1 #[.val (.int p1), .val (.long q2), .second, .val (.int p3), .val (.int p4), .val (.int p5), .unset, .unset, .unset, .unset, .unset, .unset] [(.int p1)])) _
    refine XS.i2c X0.here hx rfl (hb hby at_1) rfl ?_
    show Steps p.tables e below (s₁.setTop (mkF m 2 #[.val (.int p1), .val (.long q2), .second, .val (.int p3), .val (.int p4), .val (.int p5), .unset, .unset, .unset, .unset, .unset, .unset] [(.int (p1.toUInt32.toUInt16.toUInt32.toInt32))])) _
    refine XS.istore X0.here hx rfl (hb hby at_2) rfl (l' := #[.val (.int p1), .val (.long q2), .second, .val (.int p3), .val (.int p4), .val (.int p5), .val (.int (t0_0 p1)), .unset, .unset, .unset, .unset, .unset]) rfl ?_
    show Steps p.tables e below (s₁.setTop (mkF m 4 #[.val (.int p1), .val (.long q2), .second, .val (.int p3), .val (.int p4), .val (.int p5), .val (.int (t0_0 p1)), .unset, .unset, .unset, .unset, .unset] [])) _
    refine XS.iconst X0.here hx rfl (hb hby at_4) ?_
    show Steps p.tables e below (s₁.setTop (mkF m 5 #[.val (.int p1), .val (.long q2), .second, .val (.int p3), .val (.int p4), .val (.int p5), .val (.int (t0_0 p1)), .unset, .unset, .unset, .unset, .unset] [(.int (4 : Int32))])) _
    refine st6 _ ?_
    show Steps p.tables e below (T6.setTop (mkF m 7 #[.val (.int p1), .val (.long q2), .second, .val (.int p3), .val (.int p4), .val (.int p5), .val (.int (t0_0 p1)), .unset, .unset, .unset, .unset, .unset] [(.ref b6)])) _
    refine XS.astore X6.here hx rfl (hb hby at_7) rfl rfl (l' := #[.val (.int p1), .val (.long q2), .second, .val (.int p3), .val (.int p4), .val (.int p5), .val (.int (t0_0 p1)), .val (.ref b6), .unset, .unset, .unset, .unset]) rfl ?_
    show Steps p.tables e below (T6.setTop (mkF m 9 #[.val (.int p1), .val (.long q2), .second, .val (.int p3), .val (.int p4), .val (.int p5), .val (.int (t0_0 p1)), .val (.ref b6), .unset, .unset, .unset, .unset] [])) _
    refine XS.aload X6.here hx rfl (hb hby at_9) rfl rfl ?_
    show Steps p.tables e below (T6.setTop (mkF m 11 #[.val (.int p1), .val (.long q2), .second, .val (.int p3), .val (.int p4), .val (.int p5), .val (.int (t0_0 p1)), .val (.ref b6), .unset, .unset, .unset, .unset] [(.ref b6)])) _
    refine XS.iconst X6.here hx rfl (hb hby at_11) ?_
    show Steps p.tables e below (T6.setTop (mkF m 12 #[.val (.int p1), .val (.long q2), .second, .val (.int p3), .val (.int p4), .val (.int p5), .val (.int (t0_0 p1)), .val (.ref b6), .unset, .unset, .unset, .unset] [(.int (0 : Int32)), (.ref b6)])) _
    refine XS.iloadN X6.here hx rfl (hb hby at_12) rfl ?_
    show Steps p.tables e below (T6.setTop (mkF m 13 #[.val (.int p1), .val (.long q2), .second, .val (.int p3), .val (.int p4), .val (.int p5), .val (.int (t0_0 p1)), .val (.ref b6), .unset, .unset, .unset, .unset] [(.int p3), (.int (0 : Int32)), (.ref b6)])) _
    refine XS.iconst X6.here hx rfl (hb hby at_13) ?_
    show Steps p.tables e below (T6.setTop (mkF m 14 #[.val (.int p1), .val (.long q2), .second, .val (.int p3), .val (.int p4), .val (.int p5), .val (.int (t0_0 p1)), .val (.ref b6), .unset, .unset, .unset, .unset] [(.int (1 : Int32)), (.int p3), (.int (0 : Int32)), (.ref b6)])) _
    refine XS.iand X6.here hx rfl (hb hby at_14) rfl ?_
    show Steps p.tables e below (T6.setTop (mkF m 15 #[.val (.int p1), .val (.long q2), .second, .val (.int p3), .val (.int p4), .val (.int p5), .val (.int (t0_0 p1)), .val (.ref b6), .unset, .unset, .unset, .unset] [(.int (p3 &&& (1 : Int32))), (.int (0 : Int32)), (.ref b6)])) _
    have J15 : ∀ target, Steps p.tables e below (T6.setTop (mkF m 27 #[.val (.int p1), .val (.long q2), .second, .val (.int p3), .val (.int p4), .val (.int p5), .val (.int (t0_0 p1)), .val (.ref b6), .unset, .unset, .unset, .unset] [(.int (t0_1 p1 q2 p3)), (.int (0 : Int32)), (.ref b6)])) target → Steps p.tables e below (T6.setTop (mkF m 15 #[.val (.int p1), .val (.long q2), .second, .val (.int p3), .val (.int p4), .val (.int p5), .val (.int (t0_0 p1)), .val (.ref b6), .unset, .unset, .unset, .unset] [(.int (p3 &&& (1 : Int32))), (.int (0 : Int32)), (.ref b6)])) target := by
      intro target kt
      by_cases hm15 : (p3 &&& (1 : Int32)) = (0 : Int32)
      · skip
        show Steps p.tables e below (T6.setTop (mkF m 15 #[.val (.int p1), .val (.long q2), .second, .val (.int p3), .val (.int p4), .val (.int p5), .val (.int (t0_0 p1)), .val (.ref b6), .unset, .unset, .unset, .unset] [(.int (p3 &&& (1 : Int32))), (.int (0 : Int32)), (.ref b6)])) _
        refine XS.ifYes X6.here hx rfl (pc0 := 15) (pc' := 24) rfl (hb hby at_15) rfl ((if0 _ _).trans (teq hm15).1) (by decide) (by decide) ?_
        show Steps p.tables e below (T6.setTop (mkF m 24 #[.val (.int p1), .val (.long q2), .second, .val (.int p3), .val (.int p4), .val (.int p5), .val (.int (t0_0 p1)), .val (.ref b6), .unset, .unset, .unset, .unset] [(.int (0 : Int32)), (.ref b6)])) _
        refine XS.lloadN X6.here hx rfl (hb hby at_24) rfl ?_
        show Steps p.tables e below (T6.setTop (mkF m 25 #[.val (.int p1), .val (.long q2), .second, .val (.int p3), .val (.int p4), .val (.int p5), .val (.int (t0_0 p1)), .val (.ref b6), .unset, .unset, .unset, .unset] [(.long q2), (.int (0 : Int32)), (.ref b6)])) _
        refine XS.l2i X6.here hx rfl (hb hby at_25) rfl ?_
        show Steps p.tables e below (T6.setTop (mkF m 26 #[.val (.int p1), .val (.long q2), .second, .val (.int p3), .val (.int p4), .val (.int p5), .val (.int (t0_0 p1)), .val (.ref b6), .unset, .unset, .unset, .unset] [(.int (q2.toInt32)), (.int (0 : Int32)), (.ref b6)])) _
        refine XS.i2b X6.here hx rfl (hb hby at_26) rfl ?_
        rw [show (t0_1 p1 q2 p3) = ((q2.toInt32).toInt8.toInt32) from if_pos hm15] at kt
        exact kt
      · skip
        show Steps p.tables e below (T6.setTop (mkF m 15 #[.val (.int p1), .val (.long q2), .second, .val (.int p3), .val (.int p4), .val (.int p5), .val (.int (t0_0 p1)), .val (.ref b6), .unset, .unset, .unset, .unset] [(.int (p3 &&& (1 : Int32))), (.int (0 : Int32)), (.ref b6)])) _
        refine XS.ifNo X6.here hx rfl (hb hby at_15) rfl ((if0 _ _).trans (feq hm15).1) ?_
        show Steps p.tables e below (T6.setTop (mkF m 18 #[.val (.int p1), .val (.long q2), .second, .val (.int p3), .val (.int p4), .val (.int p5), .val (.int (t0_0 p1)), .val (.ref b6), .unset, .unset, .unset, .unset] [(.int (0 : Int32)), (.ref b6)])) _
        refine XS.iload X6.here hx rfl (hb hby at_18) rfl ?_
        show Steps p.tables e below (T6.setTop (mkF m 20 #[.val (.int p1), .val (.long q2), .second, .val (.int p3), .val (.int p4), .val (.int p5), .val (.int (t0_0 p1)), .val (.ref b6), .unset, .unset, .unset, .unset] [(.int (t0_0 p1)), (.int (0 : Int32)), (.ref b6)])) _
        refine XS.i2b X6.here hx rfl (hb hby at_20) rfl ?_
        show Steps p.tables e below (T6.setTop (mkF m 21 #[.val (.int p1), .val (.long q2), .second, .val (.int p3), .val (.int p4), .val (.int p5), .val (.int (t0_0 p1)), .val (.ref b6), .unset, .unset, .unset, .unset] [(.int ((t0_0 p1).toInt8.toInt32)), (.int (0 : Int32)), (.ref b6)])) _
        refine XS.goto X6.here hx rfl (pc0 := 21) (pc' := 27) rfl (hb hby at_21) (by decide) (by decide) ?_
        rw [show (t0_1 p1 q2 p3) = ((t0_0 p1).toInt8.toInt32) from if_neg hm15] at kt
        exact kt
    refine J15 _ ?_
    show Steps p.tables e below (T6.setTop (mkF m 27 #[.val (.int p1), .val (.long q2), .second, .val (.int p3), .val (.int p4), .val (.int p5), .val (.int (t0_0 p1)), .val (.ref b6), .unset, .unset, .unset, .unset] [(.int (t0_1 p1 q2 p3)), (.int (0 : Int32)), (.ref b6)])) _
    refine st7 _ ?_
    show Steps p.tables e below (T7.setTop (mkF m 28 #[.val (.int p1), .val (.long q2), .second, .val (.int p3), .val (.int p4), .val (.int p5), .val (.int (t0_0 p1)), .val (.ref b6), .unset, .unset, .unset, .unset] [])) _
    refine XS.aload X7.here hx rfl (hb hby at_28) rfl rfl ?_
    show Steps p.tables e below (T7.setTop (mkF m 30 #[.val (.int p1), .val (.long q2), .second, .val (.int p3), .val (.int p4), .val (.int p5), .val (.int (t0_0 p1)), .val (.ref b6), .unset, .unset, .unset, .unset] [(.ref b6)])) _
    refine XS.iconst X7.here hx rfl (hb hby at_30) ?_
    show Steps p.tables e below (T7.setTop (mkF m 31 #[.val (.int p1), .val (.long q2), .second, .val (.int p3), .val (.int p4), .val (.int p5), .val (.int (t0_0 p1)), .val (.ref b6), .unset, .unset, .unset, .unset] [(.int (1 : Int32)), (.ref b6)])) _
    refine XS.iloadN X7.here hx rfl (hb hby at_31) rfl ?_
    show Steps p.tables e below (T7.setTop (mkF m 32 #[.val (.int p1), .val (.long q2), .second, .val (.int p3), .val (.int p4), .val (.int p5), .val (.int (t0_0 p1)), .val (.ref b6), .unset, .unset, .unset, .unset] [(.int p3), (.int (1 : Int32)), (.ref b6)])) _
    refine XS.iconst X7.here hx rfl (hb hby at_32) ?_
    show Steps p.tables e below (T7.setTop (mkF m 33 #[.val (.int p1), .val (.long q2), .second, .val (.int p3), .val (.int p4), .val (.int p5), .val (.int (t0_0 p1)), .val (.ref b6), .unset, .unset, .unset, .unset] [(.int (2 : Int32)), (.int p3), (.int (1 : Int32)), (.ref b6)])) _
    refine XS.iand X7.here hx rfl (hb hby at_33) rfl ?_
    show Steps p.tables e below (T7.setTop (mkF m 34 #[.val (.int p1), .val (.long q2), .second, .val (.int p3), .val (.int p4), .val (.int p5), .val (.int (t0_0 p1)), .val (.ref b6), .unset, .unset, .unset, .unset] [(.int (p3 &&& (2 : Int32))), (.int (1 : Int32)), (.ref b6)])) _
    have J34 : ∀ target, Steps p.tables e below (T7.setTop (mkF m 49 #[.val (.int p1), .val (.long q2), .second, .val (.int p3), .val (.int p4), .val (.int p5), .val (.int (t0_0 p1)), .val (.ref b6), .unset, .unset, .unset, .unset] [(.int (t0_3 p1 q2 p3)), (.int (1 : Int32)), (.ref b6)])) target → Steps p.tables e below (T7.setTop (mkF m 34 #[.val (.int p1), .val (.long q2), .second, .val (.int p3), .val (.int p4), .val (.int p5), .val (.int (t0_0 p1)), .val (.ref b6), .unset, .unset, .unset, .unset] [(.int (p3 &&& (2 : Int32))), (.int (1 : Int32)), (.ref b6)])) target := by
      intro target kt
      by_cases hm34 : (p3 &&& (2 : Int32)) = (0 : Int32)
      · skip
        show Steps p.tables e below (T7.setTop (mkF m 34 #[.val (.int p1), .val (.long q2), .second, .val (.int p3), .val (.int p4), .val (.int p5), .val (.int (t0_0 p1)), .val (.ref b6), .unset, .unset, .unset, .unset] [(.int (p3 &&& (2 : Int32))), (.int (1 : Int32)), (.ref b6)])) _
        refine XS.ifYes X7.here hx rfl (pc0 := 34) (pc' := 43) rfl (hb hby at_34) rfl ((if0 _ _).trans (teq hm34).1) (by decide) (by decide) ?_
        show Steps p.tables e below (T7.setTop (mkF m 43 #[.val (.int p1), .val (.long q2), .second, .val (.int p3), .val (.int p4), .val (.int p5), .val (.int (t0_0 p1)), .val (.ref b6), .unset, .unset, .unset, .unset] [(.int (1 : Int32)), (.ref b6)])) _
        refine XS.lloadN X7.here hx rfl (hb hby at_43) rfl ?_
        show Steps p.tables e below (T7.setTop (mkF m 44 #[.val (.int p1), .val (.long q2), .second, .val (.int p3), .val (.int p4), .val (.int p5), .val (.int (t0_0 p1)), .val (.ref b6), .unset, .unset, .unset, .unset] [(.long q2), (.int (1 : Int32)), (.ref b6)])) _
        refine XS.bipush X7.here hx rfl (hb hby at_44) ?_
        show Steps p.tables e below (T7.setTop (mkF m 46 #[.val (.int p1), .val (.long q2), .second, .val (.int p3), .val (.int p4), .val (.int p5), .val (.int (t0_0 p1)), .val (.ref b6), .unset, .unset, .unset, .unset] [(.int (8 : Int32)), (.long q2), (.int (1 : Int32)), (.ref b6)])) _
        refine XS.lshr X7.here hx rfl (hb hby at_46) rfl ?_
        show Steps p.tables e below (T7.setTop (mkF m 47 #[.val (.int p1), .val (.long q2), .second, .val (.int p3), .val (.int p4), .val (.int p5), .val (.int (t0_0 p1)), .val (.ref b6), .unset, .unset, .unset, .unset] [(.long (q2 >>> ((8 : Int32) &&& 0x3f).toInt64)), (.int (1 : Int32)), (.ref b6)])) _
        refine XS.l2i X7.here hx rfl (hb hby at_47) rfl ?_
        show Steps p.tables e below (T7.setTop (mkF m 48 #[.val (.int p1), .val (.long q2), .second, .val (.int p3), .val (.int p4), .val (.int p5), .val (.int (t0_0 p1)), .val (.ref b6), .unset, .unset, .unset, .unset] [(.int ((t0_2 q2).toInt32)), (.int (1 : Int32)), (.ref b6)])) _
        refine XS.i2b X7.here hx rfl (hb hby at_48) rfl ?_
        rw [show (t0_3 p1 q2 p3) = (((t0_2 q2).toInt32).toInt8.toInt32) from if_pos hm34] at kt
        exact kt
      · skip
        show Steps p.tables e below (T7.setTop (mkF m 34 #[.val (.int p1), .val (.long q2), .second, .val (.int p3), .val (.int p4), .val (.int p5), .val (.int (t0_0 p1)), .val (.ref b6), .unset, .unset, .unset, .unset] [(.int (p3 &&& (2 : Int32))), (.int (1 : Int32)), (.ref b6)])) _
        refine XS.ifNo X7.here hx rfl (hb hby at_34) rfl ((if0 _ _).trans (feq hm34).1) ?_
        show Steps p.tables e below (T7.setTop (mkF m 37 #[.val (.int p1), .val (.long q2), .second, .val (.int p3), .val (.int p4), .val (.int p5), .val (.int (t0_0 p1)), .val (.ref b6), .unset, .unset, .unset, .unset] [(.int (1 : Int32)), (.ref b6)])) _
        refine XS.iload X7.here hx rfl (hb hby at_37) rfl ?_
        show Steps p.tables e below (T7.setTop (mkF m 39 #[.val (.int p1), .val (.long q2), .second, .val (.int p3), .val (.int p4), .val (.int p5), .val (.int (t0_0 p1)), .val (.ref b6), .unset, .unset, .unset, .unset] [(.int (t0_0 p1)), (.int (1 : Int32)), (.ref b6)])) _
        refine XS.i2b X7.here hx rfl (hb hby at_39) rfl ?_
        show Steps p.tables e below (T7.setTop (mkF m 40 #[.val (.int p1), .val (.long q2), .second, .val (.int p3), .val (.int p4), .val (.int p5), .val (.int (t0_0 p1)), .val (.ref b6), .unset, .unset, .unset, .unset] [(.int ((t0_0 p1).toInt8.toInt32)), (.int (1 : Int32)), (.ref b6)])) _
        refine XS.goto X7.here hx rfl (pc0 := 40) (pc' := 49) rfl (hb hby at_40) (by decide) (by decide) ?_
        rw [show (t0_3 p1 q2 p3) = ((t0_0 p1).toInt8.toInt32) from if_neg hm34] at kt
        exact kt
    refine J34 _ ?_
    show Steps p.tables e below (T7.setTop (mkF m 49 #[.val (.int p1), .val (.long q2), .second, .val (.int p3), .val (.int p4), .val (.int p5), .val (.int (t0_0 p1)), .val (.ref b6), .unset, .unset, .unset, .unset] [(.int (t0_3 p1 q2 p3)), (.int (1 : Int32)), (.ref b6)])) _
    refine st8 _ ?_
    show Steps p.tables e below (T8.setTop (mkF m 50 #[.val (.int p1), .val (.long q2), .second, .val (.int p3), .val (.int p4), .val (.int p5), .val (.int (t0_0 p1)), .val (.ref b6), .unset, .unset, .unset, .unset] [])) _
    refine XS.aload X8.here hx rfl (hb hby at_50) rfl rfl ?_
    show Steps p.tables e below (T8.setTop (mkF m 52 #[.val (.int p1), .val (.long q2), .second, .val (.int p3), .val (.int p4), .val (.int p5), .val (.int (t0_0 p1)), .val (.ref b6), .unset, .unset, .unset, .unset] [(.ref b6)])) _
    refine XS.iconst X8.here hx rfl (hb hby at_52) ?_
    show Steps p.tables e below (T8.setTop (mkF m 53 #[.val (.int p1), .val (.long q2), .second, .val (.int p3), .val (.int p4), .val (.int p5), .val (.int (t0_0 p1)), .val (.ref b6), .unset, .unset, .unset, .unset] [(.int (2 : Int32)), (.ref b6)])) _
    refine XS.iloadN X8.here hx rfl (hb hby at_53) rfl ?_
    show Steps p.tables e below (T8.setTop (mkF m 54 #[.val (.int p1), .val (.long q2), .second, .val (.int p3), .val (.int p4), .val (.int p5), .val (.int (t0_0 p1)), .val (.ref b6), .unset, .unset, .unset, .unset] [(.int p3), (.int (2 : Int32)), (.ref b6)])) _
    refine XS.iconst X8.here hx rfl (hb hby at_54) ?_
    show Steps p.tables e below (T8.setTop (mkF m 55 #[.val (.int p1), .val (.long q2), .second, .val (.int p3), .val (.int p4), .val (.int p5), .val (.int (t0_0 p1)), .val (.ref b6), .unset, .unset, .unset, .unset] [(.int (4 : Int32)), (.int p3), (.int (2 : Int32)), (.ref b6)])) _
    refine XS.iand X8.here hx rfl (hb hby at_55) rfl ?_
    show Steps p.tables e below (T8.setTop (mkF m 56 #[.val (.int p1), .val (.long q2), .second, .val (.int p3), .val (.int p4), .val (.int p5), .val (.int (t0_0 p1)), .val (.ref b6), .unset, .unset, .unset, .unset] [(.int (p3 &&& (4 : Int32))), (.int (2 : Int32)), (.ref b6)])) _
    have J56 : ∀ target, Steps p.tables e below (T8.setTop (mkF m 71 #[.val (.int p1), .val (.long q2), .second, .val (.int p3), .val (.int p4), .val (.int p5), .val (.int (t0_0 p1)), .val (.ref b6), .unset, .unset, .unset, .unset] [(.int (t0_5 p1 q2 p3)), (.int (2 : Int32)), (.ref b6)])) target → Steps p.tables e below (T8.setTop (mkF m 56 #[.val (.int p1), .val (.long q2), .second, .val (.int p3), .val (.int p4), .val (.int p5), .val (.int (t0_0 p1)), .val (.ref b6), .unset, .unset, .unset, .unset] [(.int (p3 &&& (4 : Int32))), (.int (2 : Int32)), (.ref b6)])) target := by
      intro target kt
      by_cases hm56 : (p3 &&& (4 : Int32)) = (0 : Int32)
      · skip
        show Steps p.tables e below (T8.setTop (mkF m 56 #[.val (.int p1), .val (.long q2), .second, .val (.int p3), .val (.int p4), .val (.int p5), .val (.int (t0_0 p1)), .val (.ref b6), .unset, .unset, .unset, .unset] [(.int (p3 &&& (4 : Int32))), (.int (2 : Int32)), (.ref b6)])) _
        refine XS.ifYes X8.here hx rfl (pc0 := 56) (pc' := 65) rfl (hb hby at_56) rfl ((if0 _ _).trans (teq hm56).1) (by decide) (by decide) ?_
        show Steps p.tables e below (T8.setTop (mkF m 65 #[.val (.int p1), .val (.long q2), .second, .val (.int p3), .val (.int p4), .val (.int p5), .val (.int (t0_0 p1)), .val (.ref b6), .unset, .unset, .unset, .unset] [(.int (2 : Int32)), (.ref b6)])) _
        refine XS.lloadN X8.here hx rfl (hb hby at_65) rfl ?_
        show Steps p.tables e below (T8.setTop (mkF m 66 #[.val (.int p1), .val (.long q2), .second, .val (.int p3), .val (.int p4), .val (.int p5), .val (.int (t0_0 p1)), .val (.ref b6), .unset, .unset, .unset, .unset] [(.long q2), (.int (2 : Int32)), (.ref b6)])) _
        refine XS.bipush X8.here hx rfl (hb hby at_66) ?_
        show Steps p.tables e below (T8.setTop (mkF m 68 #[.val (.int p1), .val (.long q2), .second, .val (.int p3), .val (.int p4), .val (.int p5), .val (.int (t0_0 p1)), .val (.ref b6), .unset, .unset, .unset, .unset] [(.int (16 : Int32)), (.long q2), (.int (2 : Int32)), (.ref b6)])) _
        refine XS.lshr X8.here hx rfl (hb hby at_68) rfl ?_
        show Steps p.tables e below (T8.setTop (mkF m 69 #[.val (.int p1), .val (.long q2), .second, .val (.int p3), .val (.int p4), .val (.int p5), .val (.int (t0_0 p1)), .val (.ref b6), .unset, .unset, .unset, .unset] [(.long (q2 >>> ((16 : Int32) &&& 0x3f).toInt64)), (.int (2 : Int32)), (.ref b6)])) _
        refine XS.l2i X8.here hx rfl (hb hby at_69) rfl ?_
        show Steps p.tables e below (T8.setTop (mkF m 70 #[.val (.int p1), .val (.long q2), .second, .val (.int p3), .val (.int p4), .val (.int p5), .val (.int (t0_0 p1)), .val (.ref b6), .unset, .unset, .unset, .unset] [(.int ((t0_4 q2).toInt32)), (.int (2 : Int32)), (.ref b6)])) _
        refine XS.i2b X8.here hx rfl (hb hby at_70) rfl ?_
        rw [show (t0_5 p1 q2 p3) = (((t0_4 q2).toInt32).toInt8.toInt32) from if_pos hm56] at kt
        exact kt
      · skip
        show Steps p.tables e below (T8.setTop (mkF m 56 #[.val (.int p1), .val (.long q2), .second, .val (.int p3), .val (.int p4), .val (.int p5), .val (.int (t0_0 p1)), .val (.ref b6), .unset, .unset, .unset, .unset] [(.int (p3 &&& (4 : Int32))), (.int (2 : Int32)), (.ref b6)])) _
        refine XS.ifNo X8.here hx rfl (hb hby at_56) rfl ((if0 _ _).trans (feq hm56).1) ?_
        show Steps p.tables e below (T8.setTop (mkF m 59 #[.val (.int p1), .val (.long q2), .second, .val (.int p3), .val (.int p4), .val (.int p5), .val (.int (t0_0 p1)), .val (.ref b6), .unset, .unset, .unset, .unset] [(.int (2 : Int32)), (.ref b6)])) _
        refine XS.iload X8.here hx rfl (hb hby at_59) rfl ?_
        show Steps p.tables e below (T8.setTop (mkF m 61 #[.val (.int p1), .val (.long q2), .second, .val (.int p3), .val (.int p4), .val (.int p5), .val (.int (t0_0 p1)), .val (.ref b6), .unset, .unset, .unset, .unset] [(.int (t0_0 p1)), (.int (2 : Int32)), (.ref b6)])) _
        refine XS.i2b X8.here hx rfl (hb hby at_61) rfl ?_
        show Steps p.tables e below (T8.setTop (mkF m 62 #[.val (.int p1), .val (.long q2), .second, .val (.int p3), .val (.int p4), .val (.int p5), .val (.int (t0_0 p1)), .val (.ref b6), .unset, .unset, .unset, .unset] [(.int ((t0_0 p1).toInt8.toInt32)), (.int (2 : Int32)), (.ref b6)])) _
        refine XS.goto X8.here hx rfl (pc0 := 62) (pc' := 71) rfl (hb hby at_62) (by decide) (by decide) ?_
        rw [show (t0_5 p1 q2 p3) = ((t0_0 p1).toInt8.toInt32) from if_neg hm56] at kt
        exact kt
    refine J56 _ ?_
    show Steps p.tables e below (T8.setTop (mkF m 71 #[.val (.int p1), .val (.long q2), .second, .val (.int p3), .val (.int p4), .val (.int p5), .val (.int (t0_0 p1)), .val (.ref b6), .unset, .unset, .unset, .unset] [(.int (t0_5 p1 q2 p3)), (.int (2 : Int32)), (.ref b6)])) _
    refine st9 _ ?_
    show Steps p.tables e below (T9.setTop (mkF m 72 #[.val (.int p1), .val (.long q2), .second, .val (.int p3), .val (.int p4), .val (.int p5), .val (.int (t0_0 p1)), .val (.ref b6), .unset, .unset, .unset, .unset] [])) _
    refine XS.aload X9.here hx rfl (hb hby at_72) rfl rfl ?_
    show Steps p.tables e below (T9.setTop (mkF m 74 #[.val (.int p1), .val (.long q2), .second, .val (.int p3), .val (.int p4), .val (.int p5), .val (.int (t0_0 p1)), .val (.ref b6), .unset, .unset, .unset, .unset] [(.ref b6)])) _
    refine XS.iconst X9.here hx rfl (hb hby at_74) ?_
    show Steps p.tables e below (T9.setTop (mkF m 75 #[.val (.int p1), .val (.long q2), .second, .val (.int p3), .val (.int p4), .val (.int p5), .val (.int (t0_0 p1)), .val (.ref b6), .unset, .unset, .unset, .unset] [(.int (3 : Int32)), (.ref b6)])) _
    refine XS.iloadN X9.here hx rfl (hb hby at_75) rfl ?_
    show Steps p.tables e below (T9.setTop (mkF m 76 #[.val (.int p1), .val (.long q2), .second, .val (.int p3), .val (.int p4), .val (.int p5), .val (.int (t0_0 p1)), .val (.ref b6), .unset, .unset, .unset, .unset] [(.int p3), (.int (3 : Int32)), (.ref b6)])) _
    refine XS.bipush X9.here hx rfl (hb hby at_76) ?_
    show Steps p.tables e below (T9.setTop (mkF m 78 #[.val (.int p1), .val (.long q2), .second, .val (.int p3), .val (.int p4), .val (.int p5), .val (.int (t0_0 p1)), .val (.ref b6), .unset, .unset, .unset, .unset] [(.int (8 : Int32)), (.int p3), (.int (3 : Int32)), (.ref b6)])) _
    refine XS.iand X9.here hx rfl (hb hby at_78) rfl ?_
    show Steps p.tables e below (T9.setTop (mkF m 79 #[.val (.int p1), .val (.long q2), .second, .val (.int p3), .val (.int p4), .val (.int p5), .val (.int (t0_0 p1)), .val (.ref b6), .unset, .unset, .unset, .unset] [(.int (p3 &&& (8 : Int32))), (.int (3 : Int32)), (.ref b6)])) _
    have J79 : ∀ target, Steps p.tables e below (T9.setTop (mkF m 94 #[.val (.int p1), .val (.long q2), .second, .val (.int p3), .val (.int p4), .val (.int p5), .val (.int (t0_0 p1)), .val (.ref b6), .unset, .unset, .unset, .unset] [(.int (t0_7 p1 q2 p3)), (.int (3 : Int32)), (.ref b6)])) target → Steps p.tables e below (T9.setTop (mkF m 79 #[.val (.int p1), .val (.long q2), .second, .val (.int p3), .val (.int p4), .val (.int p5), .val (.int (t0_0 p1)), .val (.ref b6), .unset, .unset, .unset, .unset] [(.int (p3 &&& (8 : Int32))), (.int (3 : Int32)), (.ref b6)])) target := by
      intro target kt
      by_cases hm79 : (p3 &&& (8 : Int32)) = (0 : Int32)
      · skip
        show Steps p.tables e below (T9.setTop (mkF m 79 #[.val (.int p1), .val (.long q2), .second, .val (.int p3), .val (.int p4), .val (.int p5), .val (.int (t0_0 p1)), .val (.ref b6), .unset, .unset, .unset, .unset] [(.int (p3 &&& (8 : Int32))), (.int (3 : Int32)), (.ref b6)])) _
        refine XS.ifYes X9.here hx rfl (pc0 := 79) (pc' := 88) rfl (hb hby at_79) rfl ((if0 _ _).trans (teq hm79).1) (by decide) (by decide) ?_
        show Steps p.tables e below (T9.setTop (mkF m 88 #[.val (.int p1), .val (.long q2), .second, .val (.int p3), .val (.int p4), .val (.int p5), .val (.int (t0_0 p1)), .val (.ref b6), .unset, .unset, .unset, .unset] [(.int (3 : Int32)), (.ref b6)])) _
        refine XS.lloadN X9.here hx rfl (hb hby at_88) rfl ?_
        show Steps p.tables e below (T9.setTop (mkF m 89 #[.val (.int p1), .val (.long q2), .second, .val (.int p3), .val (.int p4), .val (.int p5), .val (.int (t0_0 p1)), .val (.ref b6), .unset, .unset, .unset, .unset] [(.long q2), (.int (3 : Int32)), (.ref b6)])) _
        refine XS.bipush X9.here hx rfl (hb hby at_89) ?_
        show Steps p.tables e below (T9.setTop (mkF m 91 #[.val (.int p1), .val (.long q2), .second, .val (.int p3), .val (.int p4), .val (.int p5), .val (.int (t0_0 p1)), .val (.ref b6), .unset, .unset, .unset, .unset] [(.int (24 : Int32)), (.long q2), (.int (3 : Int32)), (.ref b6)])) _
        refine XS.lshr X9.here hx rfl (hb hby at_91) rfl ?_
        show Steps p.tables e below (T9.setTop (mkF m 92 #[.val (.int p1), .val (.long q2), .second, .val (.int p3), .val (.int p4), .val (.int p5), .val (.int (t0_0 p1)), .val (.ref b6), .unset, .unset, .unset, .unset] [(.long (q2 >>> ((24 : Int32) &&& 0x3f).toInt64)), (.int (3 : Int32)), (.ref b6)])) _
        refine XS.l2i X9.here hx rfl (hb hby at_92) rfl ?_
        show Steps p.tables e below (T9.setTop (mkF m 93 #[.val (.int p1), .val (.long q2), .second, .val (.int p3), .val (.int p4), .val (.int p5), .val (.int (t0_0 p1)), .val (.ref b6), .unset, .unset, .unset, .unset] [(.int ((t0_6 q2).toInt32)), (.int (3 : Int32)), (.ref b6)])) _
        refine XS.i2b X9.here hx rfl (hb hby at_93) rfl ?_
        rw [show (t0_7 p1 q2 p3) = (((t0_6 q2).toInt32).toInt8.toInt32) from if_pos hm79] at kt
        exact kt
      · skip
        show Steps p.tables e below (T9.setTop (mkF m 79 #[.val (.int p1), .val (.long q2), .second, .val (.int p3), .val (.int p4), .val (.int p5), .val (.int (t0_0 p1)), .val (.ref b6), .unset, .unset, .unset, .unset] [(.int (p3 &&& (8 : Int32))), (.int (3 : Int32)), (.ref b6)])) _
        refine XS.ifNo X9.here hx rfl (hb hby at_79) rfl ((if0 _ _).trans (feq hm79).1) ?_
        show Steps p.tables e below (T9.setTop (mkF m 82 #[.val (.int p1), .val (.long q2), .second, .val (.int p3), .val (.int p4), .val (.int p5), .val (.int (t0_0 p1)), .val (.ref b6), .unset, .unset, .unset, .unset] [(.int (3 : Int32)), (.ref b6)])) _
        refine XS.iload X9.here hx rfl (hb hby at_82) rfl ?_
        show Steps p.tables e below (T9.setTop (mkF m 84 #[.val (.int p1), .val (.long q2), .second, .val (.int p3), .val (.int p4), .val (.int p5), .val (.int (t0_0 p1)), .val (.ref b6), .unset, .unset, .unset, .unset] [(.int (t0_0 p1)), (.int (3 : Int32)), (.ref b6)])) _
        refine XS.i2b X9.here hx rfl (hb hby at_84) rfl ?_
        show Steps p.tables e below (T9.setTop (mkF m 85 #[.val (.int p1), .val (.long q2), .second, .val (.int p3), .val (.int p4), .val (.int p5), .val (.int (t0_0 p1)), .val (.ref b6), .unset, .unset, .unset, .unset] [(.int ((t0_0 p1).toInt8.toInt32)), (.int (3 : Int32)), (.ref b6)])) _
        refine XS.goto X9.here hx rfl (pc0 := 85) (pc' := 94) rfl (hb hby at_85) (by decide) (by decide) ?_
        rw [show (t0_7 p1 q2 p3) = ((t0_0 p1).toInt8.toInt32) from if_neg hm79] at kt
        exact kt
    refine J79 _ ?_
    show Steps p.tables e below (T9.setTop (mkF m 94 #[.val (.int p1), .val (.long q2), .second, .val (.int p3), .val (.int p4), .val (.int p5), .val (.int (t0_0 p1)), .val (.ref b6), .unset, .unset, .unset, .unset] [(.int (t0_7 p1 q2 p3)), (.int (3 : Int32)), (.ref b6)])) _
    refine st10 _ ?_
    show Steps p.tables e below (T10.setTop (mkF m 95 #[.val (.int p1), .val (.long q2), .second, .val (.int p3), .val (.int p4), .val (.int p5), .val (.int (t0_0 p1)), .val (.ref b6), .unset, .unset, .unset, .unset] [])) _
    refine XS.iload X10.here hx rfl (hb hby at_95) rfl ?_
    show Steps p.tables e below (T10.setTop (mkF m 97 #[.val (.int p1), .val (.long q2), .second, .val (.int p3), .val (.int p4), .val (.int p5), .val (.int (t0_0 p1)), .val (.ref b6), .unset, .unset, .unset, .unset] [(.int p4)])) _
    refine X10.ldcInt hx hown (mvT hZ (hw _ (List.mem_of_getElem? (i := 1) rfl))) (g := (mkF m 97 #[.val (.int p1), .val (.long q2), .second, .val (.int p3), .val (.int p4), .val (.int p5), .val (.int (t0_0 p1)), .val (.ref b6), .unset, .unset, .unset, .unset] [(.int p4)])) rfl (hb hby at_97) _ ?_
    show Steps p.tables e below (T10.setTop (mkF m 99 #[.val (.int p1), .val (.long q2), .second, .val (.int p3), .val (.int p4), .val (.int p5), .val (.int (t0_0 p1)), .val (.ref b6), .unset, .unset, .unset, .unset] [(.int (2147483647 : Int32)), (.int p4)])) _
    refine XS.iand X10.here hx rfl (hb hby at_99) rfl ?_
    show Steps p.tables e below (T10.setTop (mkF m 100 #[.val (.int p1), .val (.long q2), .second, .val (.int p3), .val (.int p4), .val (.int p5), .val (.int (t0_0 p1)), .val (.ref b6), .unset, .unset, .unset, .unset] [(.int (p4 &&& (2147483647 : Int32)))])) _
    refine XS.iconst X10.here hx rfl (hb hby at_100) ?_
    show Steps p.tables e below (T10.setTop (mkF m 101 #[.val (.int p1), .val (.long q2), .second, .val (.int p3), .val (.int p4), .val (.int p5), .val (.int (t0_0 p1)), .val (.ref b6), .unset, .unset, .unset, .unset] [(.int (5 : Int32)), (.int (p4 &&& (2147483647 : Int32)))])) _
    refine XS.irem X10.here hx rfl (hb hby at_101) rfl (by decide) ?_
    show Steps p.tables e below (T10.setTop (mkF m 102 #[.val (.int p1), .val (.long q2), .second, .val (.int p3), .val (.int p4), .val (.int p5), .val (.int (t0_0 p1)), .val (.ref b6), .unset, .unset, .unset, .unset] [(.int ((p4 &&& (2147483647 : Int32)) - ((p4 &&& (2147483647 : Int32)) / (5 : Int32)) * (5 : Int32)))])) _
    refine XS.istore X10.here hx rfl (hb hby at_102) rfl (l' := #[.val (.int p1), .val (.long q2), .second, .val (.int p3), .val (.int p4), .val (.int p5), .val (.int (t0_0 p1)), .val (.ref b6), .val (.int (t0_8 p4)), .unset, .unset, .unset]) rfl ?_
    show Steps p.tables e below (T10.setTop (mkF m 104 #[.val (.int p1), .val (.long q2), .second, .val (.int p3), .val (.int p4), .val (.int p5), .val (.int (t0_0 p1)), .val (.ref b6), .val (.int (t0_8 p4)), .unset, .unset, .unset] [])) _
    refine XS.iload X10.here hx rfl (hb hby at_104) rfl ?_
    show Steps p.tables e below (T10.setTop (mkF m 106 #[.val (.int p1), .val (.long q2), .second, .val (.int p3), .val (.int p4), .val (.int p5), .val (.int (t0_0 p1)), .val (.ref b6), .val (.int (t0_8 p4)), .unset, .unset, .unset] [(.int p5)])) _
    refine X10.ldcInt hx hown (mvT hZ (hw _ (List.mem_of_getElem? (i := 1) rfl))) (g := (mkF m 106 #[.val (.int p1), .val (.long q2), .second, .val (.int p3), .val (.int p4), .val (.int p5), .val (.int (t0_0 p1)), .val (.ref b6), .val (.int (t0_8 p4)), .unset, .unset, .unset] [(.int p5)])) rfl (hb hby at_106) _ ?_
    show Steps p.tables e below (T10.setTop (mkF m 108 #[.val (.int p1), .val (.long q2), .second, .val (.int p3), .val (.int p4), .val (.int p5), .val (.int (t0_0 p1)), .val (.ref b6), .val (.int (t0_8 p4)), .unset, .unset, .unset] [(.int (2147483647 : Int32)), (.int p5)])) _
    refine XS.iand X10.here hx rfl (hb hby at_108) rfl ?_
    show Steps p.tables e below (T10.setTop (mkF m 109 #[.val (.int p1), .val (.long q2), .second, .val (.int p3), .val (.int p4), .val (.int p5), .val (.int (t0_0 p1)), .val (.ref b6), .val (.int (t0_8 p4)), .unset, .unset, .unset] [(.int (p5 &&& (2147483647 : Int32)))])) _
    refine XS.iconst X10.here hx rfl (hb hby at_109) ?_
    show Steps p.tables e below (T10.setTop (mkF m 110 #[.val (.int p1), .val (.long q2), .second, .val (.int p3), .val (.int p4), .val (.int p5), .val (.int (t0_0 p1)), .val (.ref b6), .val (.int (t0_8 p4)), .unset, .unset, .unset] [(.int (5 : Int32)), (.int (p5 &&& (2147483647 : Int32)))])) _
    refine XS.irem X10.here hx rfl (hb hby at_110) rfl (by decide) ?_
    show Steps p.tables e below (T10.setTop (mkF m 111 #[.val (.int p1), .val (.long q2), .second, .val (.int p3), .val (.int p4), .val (.int p5), .val (.int (t0_0 p1)), .val (.ref b6), .val (.int (t0_8 p4)), .unset, .unset, .unset] [(.int ((p5 &&& (2147483647 : Int32)) - ((p5 &&& (2147483647 : Int32)) / (5 : Int32)) * (5 : Int32)))])) _
    refine XS.istore X10.here hx rfl (hb hby at_111) rfl (l' := #[.val (.int p1), .val (.long q2), .second, .val (.int p3), .val (.int p4), .val (.int p5), .val (.int (t0_0 p1)), .val (.ref b6), .val (.int (t0_8 p4)), .val (.int (t0_9 p5)), .unset, .unset]) rfl ?_
    show Steps p.tables e below (T10.setTop (mkF m 113 #[.val (.int p1), .val (.long q2), .second, .val (.int p3), .val (.int p4), .val (.int p5), .val (.int (t0_0 p1)), .val (.ref b6), .val (.int (t0_8 p4)), .val (.int (t0_9 p5)), .unset, .unset] [])) _
    refine XS.aload X10.here hx rfl (hb hby at_113) rfl rfl ?_
    show Steps p.tables e below (T10.setTop (mkF m 115 #[.val (.int p1), .val (.long q2), .second, .val (.int p3), .val (.int p4), .val (.int p5), .val (.int (t0_0 p1)), .val (.ref b6), .val (.int (t0_8 p4)), .val (.int (t0_9 p5)), .unset, .unset] [(.ref b6)])) _
    refine XS.iload X10.here hx rfl (hb hby at_115) rfl ?_
    show Steps p.tables e below (T10.setTop (mkF m 117 #[.val (.int p1), .val (.long q2), .second, .val (.int p3), .val (.int p4), .val (.int p5), .val (.int (t0_0 p1)), .val (.ref b6), .val (.int (t0_8 p4)), .val (.int (t0_9 p5)), .unset, .unset] [(.int (t0_0 p1)), (.ref b6)])) _
    refine XS.iload X10.here hx rfl (hb hby at_117) rfl ?_
    show Steps p.tables e below (T10.setTop (mkF m 119 #[.val (.int p1), .val (.long q2), .second, .val (.int p3), .val (.int p4), .val (.int p5), .val (.int (t0_0 p1)), .val (.ref b6), .val (.int (t0_8 p4)), .val (.int (t0_9 p5)), .unset, .unset] [(.int (t0_8 p4)), (.int (t0_0 p1)), (.ref b6)])) _
    refine XS.iload X10.here hx rfl (hb hby at_119) rfl ?_
    show Steps p.tables e below (T10.setTop (mkF m 121 #[.val (.int p1), .val (.long q2), .second, .val (.int p3), .val (.int p4), .val (.int p5), .val (.int (t0_0 p1)), .val (.ref b6), .val (.int (t0_8 p4)), .val (.int (t0_9 p5)), .unset, .unset] [(.int (t0_9 p5)), (.int (t0_8 p4)), (.int (t0_0 p1)), (.ref b6)])) _
    refine st11 _ ?_
    show Steps p.tables e below (T11.setTop (mkF m 124 #[.val (.int p1), .val (.long q2), .second, .val (.int p3), .val (.int p4), .val (.int p5), .val (.int (t0_0 p1)), .val (.ref b6), .val (.int (t0_8 p4)), .val (.int (t0_9 p5)), .unset, .unset] [(.int (own_scan (own_el (nar .byte (t0_1 p1 q2 p3)) (nar .byte (t0_3 p1 q2 p3)) (nar .byte (t0_5 p1 q2 p3)) (nar .byte (t0_7 p1 q2 p3))) (t0_0 p1) (t0_9 p5) 5 (t0_8 p4)))])) _
    refine XS.istore X11.here hx rfl (hb hby at_124) rfl (l' := #[.val (.int p1), .val (.long q2), .second, .val (.int p3), .val (.int p4), .val (.int p5), .val (.int (t0_0 p1)), .val (.ref b6), .val (.int (t0_8 p4)), .val (.int (t0_9 p5)), .val (.int (t0_10 p1 q2 p3 p4 p5)), .unset]) rfl ?_
    show Steps p.tables e below (T11.setTop (mkF m 126 #[.val (.int p1), .val (.long q2), .second, .val (.int p3), .val (.int p4), .val (.int p5), .val (.int (t0_0 p1)), .val (.ref b6), .val (.int (t0_8 p4)), .val (.int (t0_9 p5)), .val (.int (t0_10 p1 q2 p3 p4 p5)), .unset] [])) _
    refine XS.iload X11.here hx rfl (hb hby at_126) rfl ?_
    show Steps p.tables e below (T11.setTop (mkF m 128 #[.val (.int p1), .val (.long q2), .second, .val (.int p3), .val (.int p4), .val (.int p5), .val (.int (t0_0 p1)), .val (.ref b6), .val (.int (t0_8 p4)), .val (.int (t0_9 p5)), .val (.int (t0_10 p1 q2 p3 p4 p5)), .unset] [(.int (t0_9 p5))])) _
    refine XS.istore X11.here hx rfl (hb hby at_128) rfl (l' := #[.val (.int p1), .val (.long q2), .second, .val (.int p3), .val (.int p4), .val (.int p5), .val (.int (t0_0 p1)), .val (.ref b6), .val (.int (t0_8 p4)), .val (.int (t0_9 p5)), .val (.int (t0_10 p1 q2 p3 p4 p5)), .val (.int (t0_9 p5))]) rfl ?_
    show Steps p.tables e below (T11.setTop (mkF m 130 #[.val (.int p1), .val (.long q2), .second, .val (.int p3), .val (.int p4), .val (.int p5), .val (.int (t0_0 p1)), .val (.ref b6), .val (.int (t0_8 p4)), .val (.int (t0_9 p5)), .val (.int (t0_10 p1 q2 p3 p4 p5)), .val (.int (t0_9 p5))] [])) _
    refine XS.aload X11.here hx rfl (hb hby at_130) rfl rfl ?_
    show Steps p.tables e below (T11.setTop (mkF m 132 #[.val (.int p1), .val (.long q2), .second, .val (.int p3), .val (.int p4), .val (.int p5), .val (.int (t0_0 p1)), .val (.ref b6), .val (.int (t0_8 p4)), .val (.int (t0_9 p5)), .val (.int (t0_10 p1 q2 p3 p4 p5)), .val (.int (t0_9 p5))] [(.ref b6)])) _
    refine XS.iload X11.here hx rfl (hb hby at_132) rfl ?_
    show Steps p.tables e below (T11.setTop (mkF m 134 #[.val (.int p1), .val (.long q2), .second, .val (.int p3), .val (.int p4), .val (.int p5), .val (.int (t0_0 p1)), .val (.ref b6), .val (.int (t0_8 p4)), .val (.int (t0_9 p5)), .val (.int (t0_10 p1 q2 p3 p4 p5)), .val (.int (t0_9 p5))] [(.int (t0_0 p1)), (.ref b6)])) _
    refine XS.iload X11.here hx rfl (hb hby at_134) rfl ?_
    show Steps p.tables e below (T11.setTop (mkF m 136 #[.val (.int p1), .val (.long q2), .second, .val (.int p3), .val (.int p4), .val (.int p5), .val (.int (t0_0 p1)), .val (.ref b6), .val (.int (t0_8 p4)), .val (.int (t0_9 p5)), .val (.int (t0_10 p1 q2 p3 p4 p5)), .val (.int (t0_9 p5))] [(.int (t0_8 p4)), (.int (t0_0 p1)), (.ref b6)])) _
    refine XS.iload X11.here hx rfl (hb hby at_136) rfl ?_
    show Steps p.tables e below (T11.setTop (mkF m 138 #[.val (.int p1), .val (.long q2), .second, .val (.int p3), .val (.int p4), .val (.int p5), .val (.int (t0_0 p1)), .val (.ref b6), .val (.int (t0_8 p4)), .val (.int (t0_9 p5)), .val (.int (t0_10 p1 q2 p3 p4 p5)), .val (.int (t0_9 p5))] [(.int (t0_9 p5)), (.int (t0_8 p4)), (.int (t0_0 p1)), (.ref b6)])) _
    refine XS.iconst X11.here hx rfl (hb hby at_138) ?_
    show Steps p.tables e below (T11.setTop (mkF m 139 #[.val (.int p1), .val (.long q2), .second, .val (.int p3), .val (.int p4), .val (.int p5), .val (.int (t0_0 p1)), .val (.ref b6), .val (.int (t0_8 p4)), .val (.int (t0_9 p5)), .val (.int (t0_10 p1 q2 p3 p4 p5)), .val (.int (t0_9 p5))] [(.int (3 : Int32)), (.int (t0_9 p5)), (.int (t0_8 p4)), (.int (t0_0 p1)), (.ref b6)])) _
    refine st12 _ ?_
    show Steps p.tables e below (T12.setTop (mkF m 142 #[.val (.int p1), .val (.long q2), .second, .val (.int p3), .val (.int p4), .val (.int p5), .val (.int (t0_0 p1)), .val (.ref b6), .val (.int (t0_8 p4)), .val (.int (t0_9 p5)), .val (.int (t0_10 p1 q2 p3 p4 p5)), .val (.int (t0_9 p5))] [(.int (F2 (t0_0 p1) (t0_8 p4) (t0_9 p5) (3 : Int32) (nar .byte (t0_7 p1 q2 p3))))])) _
    have J142 : ∀ target, Steps p.tables e below (T12.setTop (mkF m 148 #[.val (.int p1), .val (.long q2), .second, .val (.int p3), .val (.int p4), .val (.int p5), .val (.int (t0_0 p1)), .val (.ref b6), .val (.int (t0_8 p4)), .val (.int (t0_9 p5)), .val (.int (t0_10 p1 q2 p3 p4 p5)), .val (.int (t0_12 p1 q2 p3 p4 p5))] [])) target → Steps p.tables e below (T12.setTop (mkF m 142 #[.val (.int p1), .val (.long q2), .second, .val (.int p3), .val (.int p4), .val (.int p5), .val (.int (t0_0 p1)), .val (.ref b6), .val (.int (t0_8 p4)), .val (.int (t0_9 p5)), .val (.int (t0_10 p1 q2 p3 p4 p5)), .val (.int (t0_9 p5))] [(.int (F2 (t0_0 p1) (t0_8 p4) (t0_9 p5) (3 : Int32) (nar .byte (t0_7 p1 q2 p3))))])) target := by
      intro target kt
      by_cases hm142 : (t0_11 p1 q2 p3 p4 p5) = (0 : Int32)
      · skip
        show Steps p.tables e below (T12.setTop (mkF m 142 #[.val (.int p1), .val (.long q2), .second, .val (.int p3), .val (.int p4), .val (.int p5), .val (.int (t0_0 p1)), .val (.ref b6), .val (.int (t0_8 p4)), .val (.int (t0_9 p5)), .val (.int (t0_10 p1 q2 p3 p4 p5)), .val (.int (t0_9 p5))] [(.int (F2 (t0_0 p1) (t0_8 p4) (t0_9 p5) (3 : Int32) (nar .byte (t0_7 p1 q2 p3))))])) _
        refine XS.ifYes X12.here hx rfl (pc0 := 142) (pc' := 148) rfl (hb hby at_142) rfl ((if0 _ _).trans (teq hm142).1) (by decide) (by decide) ?_
        rw [show (t0_12 p1 q2 p3 p4 p5) = (t0_9 p5) from if_pos hm142] at kt
        exact kt
      · skip
        show Steps p.tables e below (T12.setTop (mkF m 142 #[.val (.int p1), .val (.long q2), .second, .val (.int p3), .val (.int p4), .val (.int p5), .val (.int (t0_0 p1)), .val (.ref b6), .val (.int (t0_8 p4)), .val (.int (t0_9 p5)), .val (.int (t0_10 p1 q2 p3 p4 p5)), .val (.int (t0_9 p5))] [(.int (F2 (t0_0 p1) (t0_8 p4) (t0_9 p5) (3 : Int32) (nar .byte (t0_7 p1 q2 p3))))])) _
        refine XS.ifNo X12.here hx rfl (hb hby at_142) rfl ((if0 _ _).trans (feq hm142).1) ?_
        show Steps p.tables e below (T12.setTop (mkF m 145 #[.val (.int p1), .val (.long q2), .second, .val (.int p3), .val (.int p4), .val (.int p5), .val (.int (t0_0 p1)), .val (.ref b6), .val (.int (t0_8 p4)), .val (.int (t0_9 p5)), .val (.int (t0_10 p1 q2 p3 p4 p5)), .val (.int (t0_9 p5))] [])) _
        refine XS.iconst X12.here hx rfl (hb hby at_145) ?_
        show Steps p.tables e below (T12.setTop (mkF m 146 #[.val (.int p1), .val (.long q2), .second, .val (.int p3), .val (.int p4), .val (.int p5), .val (.int (t0_0 p1)), .val (.ref b6), .val (.int (t0_8 p4)), .val (.int (t0_9 p5)), .val (.int (t0_10 p1 q2 p3 p4 p5)), .val (.int (t0_9 p5))] [(.int (3 : Int32))])) _
        refine XS.istore X12.here hx rfl (hb hby at_146) rfl (l' := #[.val (.int p1), .val (.long q2), .second, .val (.int p3), .val (.int p4), .val (.int p5), .val (.int (t0_0 p1)), .val (.ref b6), .val (.int (t0_8 p4)), .val (.int (t0_9 p5)), .val (.int (t0_10 p1 q2 p3 p4 p5)), .val (.int (3 : Int32))]) rfl ?_
        rw [show (t0_12 p1 q2 p3 p4 p5) = (3 : Int32) from if_neg hm142] at kt
        exact kt
    refine J142 _ ?_
    show Steps p.tables e below (T12.setTop (mkF m 148 #[.val (.int p1), .val (.long q2), .second, .val (.int p3), .val (.int p4), .val (.int p5), .val (.int (t0_0 p1)), .val (.ref b6), .val (.int (t0_8 p4)), .val (.int (t0_9 p5)), .val (.int (t0_10 p1 q2 p3 p4 p5)), .val (.int (t0_12 p1 q2 p3 p4 p5))] [])) _
    refine XS.aload X12.here hx rfl (hb hby at_148) rfl rfl ?_
    show Steps p.tables e below (T12.setTop (mkF m 150 #[.val (.int p1), .val (.long q2), .second, .val (.int p3), .val (.int p4), .val (.int p5), .val (.int (t0_0 p1)), .val (.ref b6), .val (.int (t0_8 p4)), .val (.int (t0_9 p5)), .val (.int (t0_10 p1 q2 p3 p4 p5)), .val (.int (t0_12 p1 q2 p3 p4 p5))] [(.ref b6)])) _
    refine XS.iload X12.here hx rfl (hb hby at_150) rfl ?_
    show Steps p.tables e below (T12.setTop (mkF m 152 #[.val (.int p1), .val (.long q2), .second, .val (.int p3), .val (.int p4), .val (.int p5), .val (.int (t0_0 p1)), .val (.ref b6), .val (.int (t0_8 p4)), .val (.int (t0_9 p5)), .val (.int (t0_10 p1 q2 p3 p4 p5)), .val (.int (t0_12 p1 q2 p3 p4 p5))] [(.int (t0_0 p1)), (.ref b6)])) _
    refine XS.iload X12.here hx rfl (hb hby at_152) rfl ?_
    show Steps p.tables e below (T12.setTop (mkF m 154 #[.val (.int p1), .val (.long q2), .second, .val (.int p3), .val (.int p4), .val (.int p5), .val (.int (t0_0 p1)), .val (.ref b6), .val (.int (t0_8 p4)), .val (.int (t0_9 p5)), .val (.int (t0_10 p1 q2 p3 p4 p5)), .val (.int (t0_12 p1 q2 p3 p4 p5))] [(.int (t0_8 p4)), (.int (t0_0 p1)), (.ref b6)])) _
    refine XS.iload X12.here hx rfl (hb hby at_154) rfl ?_
    show Steps p.tables e below (T12.setTop (mkF m 156 #[.val (.int p1), .val (.long q2), .second, .val (.int p3), .val (.int p4), .val (.int p5), .val (.int (t0_0 p1)), .val (.ref b6), .val (.int (t0_8 p4)), .val (.int (t0_9 p5)), .val (.int (t0_10 p1 q2 p3 p4 p5)), .val (.int (t0_12 p1 q2 p3 p4 p5))] [(.int (t0_9 p5)), (.int (t0_8 p4)), (.int (t0_0 p1)), (.ref b6)])) _
    refine XS.iconst X12.here hx rfl (hb hby at_156) ?_
    show Steps p.tables e below (T12.setTop (mkF m 157 #[.val (.int p1), .val (.long q2), .second, .val (.int p3), .val (.int p4), .val (.int p5), .val (.int (t0_0 p1)), .val (.ref b6), .val (.int (t0_8 p4)), .val (.int (t0_9 p5)), .val (.int (t0_10 p1 q2 p3 p4 p5)), .val (.int (t0_12 p1 q2 p3 p4 p5))] [(.int (2 : Int32)), (.int (t0_9 p5)), (.int (t0_8 p4)), (.int (t0_0 p1)), (.ref b6)])) _
    refine st13 _ ?_
    show Steps p.tables e below (T13.setTop (mkF m 160 #[.val (.int p1), .val (.long q2), .second, .val (.int p3), .val (.int p4), .val (.int p5), .val (.int (t0_0 p1)), .val (.ref b6), .val (.int (t0_8 p4)), .val (.int (t0_9 p5)), .val (.int (t0_10 p1 q2 p3 p4 p5)), .val (.int (t0_12 p1 q2 p3 p4 p5))] [(.int (F2 (t0_0 p1) (t0_8 p4) (t0_9 p5) (2 : Int32) (nar .byte (t0_5 p1 q2 p3))))])) _
    have J160 : ∀ target, Steps p.tables e below (T13.setTop (mkF m 166 #[.val (.int p1), .val (.long q2), .second, .val (.int p3), .val (.int p4), .val (.int p5), .val (.int (t0_0 p1)), .val (.ref b6), .val (.int (t0_8 p4)), .val (.int (t0_9 p5)), .val (.int (t0_10 p1 q2 p3 p4 p5)), .val (.int (t0_14 p1 q2 p3 p4 p5))] [])) target → Steps p.tables e below (T13.setTop (mkF m 160 #[.val (.int p1), .val (.long q2), .second, .val (.int p3), .val (.int p4), .val (.int p5), .val (.int (t0_0 p1)), .val (.ref b6), .val (.int (t0_8 p4)), .val (.int (t0_9 p5)), .val (.int (t0_10 p1 q2 p3 p4 p5)), .val (.int (t0_12 p1 q2 p3 p4 p5))] [(.int (F2 (t0_0 p1) (t0_8 p4) (t0_9 p5) (2 : Int32) (nar .byte (t0_5 p1 q2 p3))))])) target := by
      intro target kt
      by_cases hm160 : (t0_13 p1 q2 p3 p4 p5) = (0 : Int32)
      · skip
        show Steps p.tables e below (T13.setTop (mkF m 160 #[.val (.int p1), .val (.long q2), .second, .val (.int p3), .val (.int p4), .val (.int p5), .val (.int (t0_0 p1)), .val (.ref b6), .val (.int (t0_8 p4)), .val (.int (t0_9 p5)), .val (.int (t0_10 p1 q2 p3 p4 p5)), .val (.int (t0_12 p1 q2 p3 p4 p5))] [(.int (F2 (t0_0 p1) (t0_8 p4) (t0_9 p5) (2 : Int32) (nar .byte (t0_5 p1 q2 p3))))])) _
        refine XS.ifYes X13.here hx rfl (pc0 := 160) (pc' := 166) rfl (hb hby at_160) rfl ((if0 _ _).trans (teq hm160).1) (by decide) (by decide) ?_
        rw [show (t0_14 p1 q2 p3 p4 p5) = (t0_12 p1 q2 p3 p4 p5) from if_pos hm160] at kt
        exact kt
      · skip
        show Steps p.tables e below (T13.setTop (mkF m 160 #[.val (.int p1), .val (.long q2), .second, .val (.int p3), .val (.int p4), .val (.int p5), .val (.int (t0_0 p1)), .val (.ref b6), .val (.int (t0_8 p4)), .val (.int (t0_9 p5)), .val (.int (t0_10 p1 q2 p3 p4 p5)), .val (.int (t0_12 p1 q2 p3 p4 p5))] [(.int (F2 (t0_0 p1) (t0_8 p4) (t0_9 p5) (2 : Int32) (nar .byte (t0_5 p1 q2 p3))))])) _
        refine XS.ifNo X13.here hx rfl (hb hby at_160) rfl ((if0 _ _).trans (feq hm160).1) ?_
        show Steps p.tables e below (T13.setTop (mkF m 163 #[.val (.int p1), .val (.long q2), .second, .val (.int p3), .val (.int p4), .val (.int p5), .val (.int (t0_0 p1)), .val (.ref b6), .val (.int (t0_8 p4)), .val (.int (t0_9 p5)), .val (.int (t0_10 p1 q2 p3 p4 p5)), .val (.int (t0_12 p1 q2 p3 p4 p5))] [])) _
        refine XS.iconst X13.here hx rfl (hb hby at_163) ?_
        show Steps p.tables e below (T13.setTop (mkF m 164 #[.val (.int p1), .val (.long q2), .second, .val (.int p3), .val (.int p4), .val (.int p5), .val (.int (t0_0 p1)), .val (.ref b6), .val (.int (t0_8 p4)), .val (.int (t0_9 p5)), .val (.int (t0_10 p1 q2 p3 p4 p5)), .val (.int (t0_12 p1 q2 p3 p4 p5))] [(.int (2 : Int32))])) _
        refine XS.istore X13.here hx rfl (hb hby at_164) rfl (l' := #[.val (.int p1), .val (.long q2), .second, .val (.int p3), .val (.int p4), .val (.int p5), .val (.int (t0_0 p1)), .val (.ref b6), .val (.int (t0_8 p4)), .val (.int (t0_9 p5)), .val (.int (t0_10 p1 q2 p3 p4 p5)), .val (.int (2 : Int32))]) rfl ?_
        rw [show (t0_14 p1 q2 p3 p4 p5) = (2 : Int32) from if_neg hm160] at kt
        exact kt
    refine J160 _ ?_
    show Steps p.tables e below (T13.setTop (mkF m 166 #[.val (.int p1), .val (.long q2), .second, .val (.int p3), .val (.int p4), .val (.int p5), .val (.int (t0_0 p1)), .val (.ref b6), .val (.int (t0_8 p4)), .val (.int (t0_9 p5)), .val (.int (t0_10 p1 q2 p3 p4 p5)), .val (.int (t0_14 p1 q2 p3 p4 p5))] [])) _
    refine XS.aload X13.here hx rfl (hb hby at_166) rfl rfl ?_
    show Steps p.tables e below (T13.setTop (mkF m 168 #[.val (.int p1), .val (.long q2), .second, .val (.int p3), .val (.int p4), .val (.int p5), .val (.int (t0_0 p1)), .val (.ref b6), .val (.int (t0_8 p4)), .val (.int (t0_9 p5)), .val (.int (t0_10 p1 q2 p3 p4 p5)), .val (.int (t0_14 p1 q2 p3 p4 p5))] [(.ref b6)])) _
    refine XS.iload X13.here hx rfl (hb hby at_168) rfl ?_
    show Steps p.tables e below (T13.setTop (mkF m 170 #[.val (.int p1), .val (.long q2), .second, .val (.int p3), .val (.int p4), .val (.int p5), .val (.int (t0_0 p1)), .val (.ref b6), .val (.int (t0_8 p4)), .val (.int (t0_9 p5)), .val (.int (t0_10 p1 q2 p3 p4 p5)), .val (.int (t0_14 p1 q2 p3 p4 p5))] [(.int (t0_0 p1)), (.ref b6)])) _
    refine XS.iload X13.here hx rfl (hb hby at_170) rfl ?_
    show Steps p.tables e below (T13.setTop (mkF m 172 #[.val (.int p1), .val (.long q2), .second, .val (.int p3), .val (.int p4), .val (.int p5), .val (.int (t0_0 p1)), .val (.ref b6), .val (.int (t0_8 p4)), .val (.int (t0_9 p5)), .val (.int (t0_10 p1 q2 p3 p4 p5)), .val (.int (t0_14 p1 q2 p3 p4 p5))] [(.int (t0_8 p4)), (.int (t0_0 p1)), (.ref b6)])) _
    refine XS.iload X13.here hx rfl (hb hby at_172) rfl ?_
    show Steps p.tables e below (T13.setTop (mkF m 174 #[.val (.int p1), .val (.long q2), .second, .val (.int p3), .val (.int p4), .val (.int p5), .val (.int (t0_0 p1)), .val (.ref b6), .val (.int (t0_8 p4)), .val (.int (t0_9 p5)), .val (.int (t0_10 p1 q2 p3 p4 p5)), .val (.int (t0_14 p1 q2 p3 p4 p5))] [(.int (t0_9 p5)), (.int (t0_8 p4)), (.int (t0_0 p1)), (.ref b6)])) _
    refine XS.iconst X13.here hx rfl (hb hby at_174) ?_
    show Steps p.tables e below (T13.setTop (mkF m 175 #[.val (.int p1), .val (.long q2), .second, .val (.int p3), .val (.int p4), .val (.int p5), .val (.int (t0_0 p1)), .val (.ref b6), .val (.int (t0_8 p4)), .val (.int (t0_9 p5)), .val (.int (t0_10 p1 q2 p3 p4 p5)), .val (.int (t0_14 p1 q2 p3 p4 p5))] [(.int (1 : Int32)), (.int (t0_9 p5)), (.int (t0_8 p4)), (.int (t0_0 p1)), (.ref b6)])) _
    refine st14 _ ?_
    show Steps p.tables e below (T14.setTop (mkF m 178 #[.val (.int p1), .val (.long q2), .second, .val (.int p3), .val (.int p4), .val (.int p5), .val (.int (t0_0 p1)), .val (.ref b6), .val (.int (t0_8 p4)), .val (.int (t0_9 p5)), .val (.int (t0_10 p1 q2 p3 p4 p5)), .val (.int (t0_14 p1 q2 p3 p4 p5))] [(.int (F2 (t0_0 p1) (t0_8 p4) (t0_9 p5) (1 : Int32) (nar .byte (t0_3 p1 q2 p3))))])) _
    have J178 : ∀ target, Steps p.tables e below (T14.setTop (mkF m 184 #[.val (.int p1), .val (.long q2), .second, .val (.int p3), .val (.int p4), .val (.int p5), .val (.int (t0_0 p1)), .val (.ref b6), .val (.int (t0_8 p4)), .val (.int (t0_9 p5)), .val (.int (t0_10 p1 q2 p3 p4 p5)), .val (.int (t0_16 p1 q2 p3 p4 p5))] [])) target → Steps p.tables e below (T14.setTop (mkF m 178 #[.val (.int p1), .val (.long q2), .second, .val (.int p3), .val (.int p4), .val (.int p5), .val (.int (t0_0 p1)), .val (.ref b6), .val (.int (t0_8 p4)), .val (.int (t0_9 p5)), .val (.int (t0_10 p1 q2 p3 p4 p5)), .val (.int (t0_14 p1 q2 p3 p4 p5))] [(.int (F2 (t0_0 p1) (t0_8 p4) (t0_9 p5) (1 : Int32) (nar .byte (t0_3 p1 q2 p3))))])) target := by
      intro target kt
      by_cases hm178 : (t0_15 p1 q2 p3 p4 p5) = (0 : Int32)
      · skip
        show Steps p.tables e below (T14.setTop (mkF m 178 #[.val (.int p1), .val (.long q2), .second, .val (.int p3), .val (.int p4), .val (.int p5), .val (.int (t0_0 p1)), .val (.ref b6), .val (.int (t0_8 p4)), .val (.int (t0_9 p5)), .val (.int (t0_10 p1 q2 p3 p4 p5)), .val (.int (t0_14 p1 q2 p3 p4 p5))] [(.int (F2 (t0_0 p1) (t0_8 p4) (t0_9 p5) (1 : Int32) (nar .byte (t0_3 p1 q2 p3))))])) _
        refine XS.ifYes X14.here hx rfl (pc0 := 178) (pc' := 184) rfl (hb hby at_178) rfl ((if0 _ _).trans (teq hm178).1) (by decide) (by decide) ?_
        rw [show (t0_16 p1 q2 p3 p4 p5) = (t0_14 p1 q2 p3 p4 p5) from if_pos hm178] at kt
        exact kt
      · skip
        show Steps p.tables e below (T14.setTop (mkF m 178 #[.val (.int p1), .val (.long q2), .second, .val (.int p3), .val (.int p4), .val (.int p5), .val (.int (t0_0 p1)), .val (.ref b6), .val (.int (t0_8 p4)), .val (.int (t0_9 p5)), .val (.int (t0_10 p1 q2 p3 p4 p5)), .val (.int (t0_14 p1 q2 p3 p4 p5))] [(.int (F2 (t0_0 p1) (t0_8 p4) (t0_9 p5) (1 : Int32) (nar .byte (t0_3 p1 q2 p3))))])) _
        refine XS.ifNo X14.here hx rfl (hb hby at_178) rfl ((if0 _ _).trans (feq hm178).1) ?_
        show Steps p.tables e below (T14.setTop (mkF m 181 #[.val (.int p1), .val (.long q2), .second, .val (.int p3), .val (.int p4), .val (.int p5), .val (.int (t0_0 p1)), .val (.ref b6), .val (.int (t0_8 p4)), .val (.int (t0_9 p5)), .val (.int (t0_10 p1 q2 p3 p4 p5)), .val (.int (t0_14 p1 q2 p3 p4 p5))] [])) _
        refine XS.iconst X14.here hx rfl (hb hby at_181) ?_
        show Steps p.tables e below (T14.setTop (mkF m 182 #[.val (.int p1), .val (.long q2), .second, .val (.int p3), .val (.int p4), .val (.int p5), .val (.int (t0_0 p1)), .val (.ref b6), .val (.int (t0_8 p4)), .val (.int (t0_9 p5)), .val (.int (t0_10 p1 q2 p3 p4 p5)), .val (.int (t0_14 p1 q2 p3 p4 p5))] [(.int (1 : Int32))])) _
        refine XS.istore X14.here hx rfl (hb hby at_182) rfl (l' := #[.val (.int p1), .val (.long q2), .second, .val (.int p3), .val (.int p4), .val (.int p5), .val (.int (t0_0 p1)), .val (.ref b6), .val (.int (t0_8 p4)), .val (.int (t0_9 p5)), .val (.int (t0_10 p1 q2 p3 p4 p5)), .val (.int (1 : Int32))]) rfl ?_
        rw [show (t0_16 p1 q2 p3 p4 p5) = (1 : Int32) from if_neg hm178] at kt
        exact kt
    refine J178 _ ?_
    show Steps p.tables e below (T14.setTop (mkF m 184 #[.val (.int p1), .val (.long q2), .second, .val (.int p3), .val (.int p4), .val (.int p5), .val (.int (t0_0 p1)), .val (.ref b6), .val (.int (t0_8 p4)), .val (.int (t0_9 p5)), .val (.int (t0_10 p1 q2 p3 p4 p5)), .val (.int (t0_16 p1 q2 p3 p4 p5))] [])) _
    refine XS.aload X14.here hx rfl (hb hby at_184) rfl rfl ?_
    show Steps p.tables e below (T14.setTop (mkF m 186 #[.val (.int p1), .val (.long q2), .second, .val (.int p3), .val (.int p4), .val (.int p5), .val (.int (t0_0 p1)), .val (.ref b6), .val (.int (t0_8 p4)), .val (.int (t0_9 p5)), .val (.int (t0_10 p1 q2 p3 p4 p5)), .val (.int (t0_16 p1 q2 p3 p4 p5))] [(.ref b6)])) _
    refine XS.iload X14.here hx rfl (hb hby at_186) rfl ?_
    show Steps p.tables e below (T14.setTop (mkF m 188 #[.val (.int p1), .val (.long q2), .second, .val (.int p3), .val (.int p4), .val (.int p5), .val (.int (t0_0 p1)), .val (.ref b6), .val (.int (t0_8 p4)), .val (.int (t0_9 p5)), .val (.int (t0_10 p1 q2 p3 p4 p5)), .val (.int (t0_16 p1 q2 p3 p4 p5))] [(.int (t0_0 p1)), (.ref b6)])) _
    refine XS.iload X14.here hx rfl (hb hby at_188) rfl ?_
    show Steps p.tables e below (T14.setTop (mkF m 190 #[.val (.int p1), .val (.long q2), .second, .val (.int p3), .val (.int p4), .val (.int p5), .val (.int (t0_0 p1)), .val (.ref b6), .val (.int (t0_8 p4)), .val (.int (t0_9 p5)), .val (.int (t0_10 p1 q2 p3 p4 p5)), .val (.int (t0_16 p1 q2 p3 p4 p5))] [(.int (t0_8 p4)), (.int (t0_0 p1)), (.ref b6)])) _
    refine XS.iload X14.here hx rfl (hb hby at_190) rfl ?_
    show Steps p.tables e below (T14.setTop (mkF m 192 #[.val (.int p1), .val (.long q2), .second, .val (.int p3), .val (.int p4), .val (.int p5), .val (.int (t0_0 p1)), .val (.ref b6), .val (.int (t0_8 p4)), .val (.int (t0_9 p5)), .val (.int (t0_10 p1 q2 p3 p4 p5)), .val (.int (t0_16 p1 q2 p3 p4 p5))] [(.int (t0_9 p5)), (.int (t0_8 p4)), (.int (t0_0 p1)), (.ref b6)])) _
    refine XS.iconst X14.here hx rfl (hb hby at_192) ?_
    show Steps p.tables e below (T14.setTop (mkF m 193 #[.val (.int p1), .val (.long q2), .second, .val (.int p3), .val (.int p4), .val (.int p5), .val (.int (t0_0 p1)), .val (.ref b6), .val (.int (t0_8 p4)), .val (.int (t0_9 p5)), .val (.int (t0_10 p1 q2 p3 p4 p5)), .val (.int (t0_16 p1 q2 p3 p4 p5))] [(.int (0 : Int32)), (.int (t0_9 p5)), (.int (t0_8 p4)), (.int (t0_0 p1)), (.ref b6)])) _
    refine st15 _ ?_
    show Steps p.tables e below (T15.setTop (mkF m 196 #[.val (.int p1), .val (.long q2), .second, .val (.int p3), .val (.int p4), .val (.int p5), .val (.int (t0_0 p1)), .val (.ref b6), .val (.int (t0_8 p4)), .val (.int (t0_9 p5)), .val (.int (t0_10 p1 q2 p3 p4 p5)), .val (.int (t0_16 p1 q2 p3 p4 p5))] [(.int (F2 (t0_0 p1) (t0_8 p4) (t0_9 p5) (0 : Int32) (nar .byte (t0_1 p1 q2 p3))))])) _
    have J196 : ∀ target, Steps p.tables e below (T15.setTop (mkF m 202 #[.val (.int p1), .val (.long q2), .second, .val (.int p3), .val (.int p4), .val (.int p5), .val (.int (t0_0 p1)), .val (.ref b6), .val (.int (t0_8 p4)), .val (.int (t0_9 p5)), .val (.int (t0_10 p1 q2 p3 p4 p5)), .val (.int (t0_18 p1 q2 p3 p4 p5))] [])) target → Steps p.tables e below (T15.setTop (mkF m 196 #[.val (.int p1), .val (.long q2), .second, .val (.int p3), .val (.int p4), .val (.int p5), .val (.int (t0_0 p1)), .val (.ref b6), .val (.int (t0_8 p4)), .val (.int (t0_9 p5)), .val (.int (t0_10 p1 q2 p3 p4 p5)), .val (.int (t0_16 p1 q2 p3 p4 p5))] [(.int (F2 (t0_0 p1) (t0_8 p4) (t0_9 p5) (0 : Int32) (nar .byte (t0_1 p1 q2 p3))))])) target := by
      intro target kt
      by_cases hm196 : (t0_17 p1 q2 p3 p4 p5) = (0 : Int32)
      · skip
        show Steps p.tables e below (T15.setTop (mkF m 196 #[.val (.int p1), .val (.long q2), .second, .val (.int p3), .val (.int p4), .val (.int p5), .val (.int (t0_0 p1)), .val (.ref b6), .val (.int (t0_8 p4)), .val (.int (t0_9 p5)), .val (.int (t0_10 p1 q2 p3 p4 p5)), .val (.int (t0_16 p1 q2 p3 p4 p5))] [(.int (F2 (t0_0 p1) (t0_8 p4) (t0_9 p5) (0 : Int32) (nar .byte (t0_1 p1 q2 p3))))])) _
        refine XS.ifYes X15.here hx rfl (pc0 := 196) (pc' := 202) rfl (hb hby at_196) rfl ((if0 _ _).trans (teq hm196).1) (by decide) (by decide) ?_
        rw [show (t0_18 p1 q2 p3 p4 p5) = (t0_16 p1 q2 p3 p4 p5) from if_pos hm196] at kt
        exact kt
      · skip
        show Steps p.tables e below (T15.setTop (mkF m 196 #[.val (.int p1), .val (.long q2), .second, .val (.int p3), .val (.int p4), .val (.int p5), .val (.int (t0_0 p1)), .val (.ref b6), .val (.int (t0_8 p4)), .val (.int (t0_9 p5)), .val (.int (t0_10 p1 q2 p3 p4 p5)), .val (.int (t0_16 p1 q2 p3 p4 p5))] [(.int (F2 (t0_0 p1) (t0_8 p4) (t0_9 p5) (0 : Int32) (nar .byte (t0_1 p1 q2 p3))))])) _
        refine XS.ifNo X15.here hx rfl (hb hby at_196) rfl ((if0 _ _).trans (feq hm196).1) ?_
        show Steps p.tables e below (T15.setTop (mkF m 199 #[.val (.int p1), .val (.long q2), .second, .val (.int p3), .val (.int p4), .val (.int p5), .val (.int (t0_0 p1)), .val (.ref b6), .val (.int (t0_8 p4)), .val (.int (t0_9 p5)), .val (.int (t0_10 p1 q2 p3 p4 p5)), .val (.int (t0_16 p1 q2 p3 p4 p5))] [])) _
        refine XS.iconst X15.here hx rfl (hb hby at_199) ?_
        show Steps p.tables e below (T15.setTop (mkF m 200 #[.val (.int p1), .val (.long q2), .second, .val (.int p3), .val (.int p4), .val (.int p5), .val (.int (t0_0 p1)), .val (.ref b6), .val (.int (t0_8 p4)), .val (.int (t0_9 p5)), .val (.int (t0_10 p1 q2 p3 p4 p5)), .val (.int (t0_16 p1 q2 p3 p4 p5))] [(.int (0 : Int32))])) _
        refine XS.istore X15.here hx rfl (hb hby at_200) rfl (l' := #[.val (.int p1), .val (.long q2), .second, .val (.int p3), .val (.int p4), .val (.int p5), .val (.int (t0_0 p1)), .val (.ref b6), .val (.int (t0_8 p4)), .val (.int (t0_9 p5)), .val (.int (t0_10 p1 q2 p3 p4 p5)), .val (.int (0 : Int32))]) rfl ?_
        rw [show (t0_18 p1 q2 p3 p4 p5) = (0 : Int32) from if_neg hm196] at kt
        exact kt
    refine J196 _ ?_
    show Steps p.tables e below (T15.setTop (mkF m 202 #[.val (.int p1), .val (.long q2), .second, .val (.int p3), .val (.int p4), .val (.int p5), .val (.int (t0_0 p1)), .val (.ref b6), .val (.int (t0_8 p4)), .val (.int (t0_9 p5)), .val (.int (t0_10 p1 q2 p3 p4 p5)), .val (.int (t0_18 p1 q2 p3 p4 p5))] [])) _
    refine XS.iload X15.here hx rfl (hb hby at_202) rfl ?_
    show Steps p.tables e below (T15.setTop (mkF m 204 #[.val (.int p1), .val (.long q2), .second, .val (.int p3), .val (.int p4), .val (.int p5), .val (.int (t0_0 p1)), .val (.ref b6), .val (.int (t0_8 p4)), .val (.int (t0_9 p5)), .val (.int (t0_10 p1 q2 p3 p4 p5)), .val (.int (t0_18 p1 q2 p3 p4 p5))] [(.int (t0_10 p1 q2 p3 p4 p5))])) _
    refine XS.iload X15.here hx rfl (hb hby at_204) rfl ?_
    show Steps p.tables e below (T15.setTop (mkF m 206 #[.val (.int p1), .val (.long q2), .second, .val (.int p3), .val (.int p4), .val (.int p5), .val (.int (t0_0 p1)), .val (.ref b6), .val (.int (t0_8 p4)), .val (.int (t0_9 p5)), .val (.int (t0_10 p1 q2 p3 p4 p5)), .val (.int (t0_18 p1 q2 p3 p4 p5))] [(.int (t0_18 p1 q2 p3 p4 p5)), (.int (t0_10 p1 q2 p3 p4 p5))])) _
    refine XS.icmpNo X15.here hx rfl (hb hby at_206) rfl (teq (show (t0_10 p1 q2 p3 p4 p5) = (t0_18 p1 q2 p3 p4 p5) from own_final (nar .byte (t0_1 p1 q2 p3)) (nar .byte (t0_3 p1 q2 p3)) (nar .byte (t0_5 p1 q2 p3)) (nar .byte (t0_7 p1 q2 p3)) (t0_0 p1) (t0_8 p4) (t0_9 p5) (own_rng5 p4).1 (own_rng5 p4).2 (own_rng5 p5).1 (own_rng5 p5).2 (own_bq _ p1) (own_bq _ p1) (own_bq _ p1) (own_bq _ p1))).2 ?_
    show Steps p.tables e below (T15.setTop (mkF m 209 #[.val (.int p1), .val (.long q2), .second, .val (.int p3), .val (.int p4), .val (.int p5), .val (.int (t0_0 p1)), .val (.ref b6), .val (.int (t0_8 p4)), .val (.int (t0_9 p5)), .val (.int (t0_10 p1 q2 p3 p4 p5)), .val (.int (t0_18 p1 q2 p3 p4 p5))] [])) _
    refine XS.iconst X15.here hx rfl (hb hby at_209) ?_
    show Steps p.tables e below (T15.setTop (mkF m 210 #[.val (.int p1), .val (.long q2), .second, .val (.int p3), .val (.int p4), .val (.int p5), .val (.int (t0_0 p1)), .val (.ref b6), .val (.int (t0_8 p4)), .val (.int (t0_9 p5)), .val (.int (t0_10 p1 q2 p3 p4 p5)), .val (.int (t0_18 p1 q2 p3 p4 p5))] [(.int (1 : Int32))])) _
    refine XS.goto X15.here hx rfl (pc0 := 210) (pc' := 214) rfl (hb hby at_210) (by decide) (by decide) ?_
    show Steps p.tables e below (T15.setTop (mkF m 214 #[.val (.int p1), .val (.long q2), .second, .val (.int p3), .val (.int p4), .val (.int p5), .val (.int (t0_0 p1)), .val (.ref b6), .val (.int (t0_8 p4)), .val (.int (t0_9 p5)), .val (.int (t0_10 p1 q2 p3 p4 p5)), .val (.int (t0_18 p1 q2 p3 p4 p5))] [(.int (1 : Int32))])) _
    exact retN X15 hx (t := .boolean) Bd.returns (by simp) (hb hby at_214) hr
  · show Q_rm0 Z p1 q2 p3 p4 p5 h0 n0 _ T15.heap _
    exact ⟨rfl, N15⟩
set_option maxRecDepth 65536 in
set_option maxHeartbeats 40000000 in
theorem comes_1 {Post : Tables → Env → Array Value → State → Outcome → State → Prop} (hpost : ∀ tb e args s v u, (limb_1_1.after args s (.returned v) u = true ∧ limb_1_2.after args s (.returned v) u = true ∧ True) → FrameEnd s (.returned v) u (Jvm.fieldLocs frame_1_writes args s ++ Jvm.arrayLocs frame_1_arrays args s ++ Jvm.staticLocs frame_1_statics s) 16 128 → Post tb e args s (.returned v) u) :
    ArmFor flags0 classFile x code maxLocals ret World_1 tables_1 room_1 Calls_1 rest_1 Pre_1 Post := by
  intro l hfl _ _ p e ha hc hk s m args below hf hA hF happ hP
  obtain ⟨hcalls, hrest, hpre⟩ := hP
  obtain ⟨-, -, -, hnamed, -, -, -, hat⟩ := (Spec.applies_iff hf).mp happ
  obtain ⟨hg, hn⟩ := and_e (Cond.before_iff.mp (show (Jvm.Cond.and given_1 narrow_1).before args s = true from hpre))
  obtain ⟨g1, g2⟩ := and_e hg
  obtain ⟨g3, g4⟩ := and_e g2
  obtain ⟨g5, g6⟩ := and_e g4
  obtain ⟨g7, g8⟩ := and_e g6
  obtain ⟨g9, g10⟩ := and_e g8
  obtain ⟨w0, w1, w2, w3, w4, rfl⟩ : ∃ w0 w1 w2 w3 w4 : Value, args = #[w0, w1, w2, w3, w4] := by
    have hs : args.size = 5 := by simpa [Cond.value, given_1] using g1
    obtain ⟨L⟩ := args
    match L, hs with
    | [w0, w1, w2, w3, w4], _ => exact ⟨w0, w1, w2, w3, w4, rfl⟩
  have hw := fun d (hd : d ∈ tables_1) => atoms_spec (ws := Jvm.Cond.code x code maxLocals ret :: tables_1) hat d (List.mem_cons_of_mem _ hd)
  have hfit : Fit s := fun {y c} hc i hi => by
    obtain ⟨ha, rfl⟩ := Array.getElem?_eq_some_iff.mp hc
    have q := List.all_eq_true.mp ((Array.all_eq_true_iff_forall_mem.mp hF) _ (Array.getElem_mem ha)) i (List.mem_range.mpr hi)
    simpa [Array.getElem?_eq_getElem hi] using q
  obtain ⟨i0, ei0⟩ := is_v g3
  obtain rfl : w0 = (.int i0) := Option.some.inj ei0
  obtain ⟨i1, ei1⟩ := isL_v g5
  obtain rfl : w1 = (.long i1) := Option.some.inj ei1
  obtain ⟨i2, ei2⟩ := is_v g7
  obtain rfl : w2 = (.int i2) := Option.some.inj ei2
  obtain ⟨i3, ei3⟩ := is_v g9
  obtain rfl : w3 = (.int i3) := Option.some.inj ei3
  obtain ⟨i4, ei4⟩ := is_v g10
  obtain rfl : w4 = (.int i4) := Option.some.inj ei4
  obtain ⟨n, o, h1, h2, h3, _, L, rfl, ⟨rfl, N⟩, hq⟩ := rm0 l s _ hw tables_1 i0 i1 i2 i3 i4 s.heap s.heap.size (Nat.le_refl _)  p e ha hc hk s m _ below hf ((Spec.applies_iff_loose hf).mp happ).1 ⟨rfl, State.Warmed39.refl s, rfl⟩ trivial
  refine ⟨n, _, h1, h2, h3, hpost _ _ _ _ _ _ ⟨Cond.after_iff.mpr rfl, Cond.after_iff.mpr (eq_i res_at (Term.int_eval (1)) rfl), trivial⟩ ⟨hq.1, hq.2.1, (hq.2.2.sift fun y hy => Or.inr (N y hy)).mono (by decide) (by decide)⟩⟩
theorem main_1_1 : Claimed_1_1 := comes_1 fun _ _ _ _ _ _ h hF => ⟨h.1, hF⟩
theorem main_1_2 : Claimed_1_2 := comes_1 fun _ _ _ _ _ _ h hF => ⟨h.2.1, hF⟩
end Jvm.Pilot.@@N@@
namespace Jvm.Pilot.@@N@@
open Jvm Jvm.ClassFile Sem Op Lib Jvm.Free Jvm.Stand Jvm.Pilot.@@N@@.Jvm.D
/-! MADE BY PROGRAM (witnessworld.py) out of the Statement's table words and the real class files: 9 classes; the members and pool entries that the words name. The judged class is class 1, her method 1. -/
namespace start1
open Jvm.ClassFile
def u (s : String) : CpInfo := .utf8 (stringToUtf16 s)
/-- a pool by its gaps: so many unusable entries, then the entry; so many at the end -/
def gap : Nat → List CpInfo → List CpInfo
  | 0, r => r
  | n + 1, r => .unusable :: gap n r
def poolList (es : List (Nat × CpInfo)) (last : Nat) : List CpInfo := es.foldr (fun e r => gap e.1 (e.2 :: r)) (gap last [])
def pool (es : List (Nat × CpInfo)) (last : Nat) : Array CpInfo := ⟨poolList es last⟩
def fileOf (pool : Array CpInfo) (this : Nat) (attrs : Array Attribute := #[]) (ms : Array MethodInfo := #[]) (fl : Nat := 33) (sup : Nat := 0) (ifs : Array Nat := #[]) (fds : Array FieldInfo := #[]) : ClassFile where
  minorVersion := 0
  majorVersion := 65
  constantPool := pool
  accessFlags := fl
  thisClass := this
  superClass := sup
  interfaces := ifs
  fields := fds
  methods := ms
  attributes := attrs
def plain (name : String) (sup : Option ClassId) : Class where
  name := name
  kind := .ordinary
  loader := none
  accessFlags := 33
  super := sup
  interfaces := #[]
  cf := none
  fields := #[]
  methods := #[]
  instanceTypes := #[]
  staticTypes := #[]
  resolved := #[]
  callSites := []
  init := .initialized
  statics := none
  mirror := none

def pool0 : Array CpInfo := pool [(5, u "<init>"), (0, u "()V"), (1, .class_ 10), (1, u "java/lang/Object")] 113

def k0m0 : Method := { name := "<init>", desc := "()V", sig := { parameters := [], returnType := none }, accessFlags := 1, code := none }
/-- java/lang/Object -/
def k0 : Class := { plain "java/lang/Object" none with
  accessFlags := 33
  interfaces := #[]
  cf := some (fileOf pool0 8 #[] #[{ accessFlags := 1, nameIndex := 5, descriptorIndex := 6, attributes := #[] }] 33 0 #[] #[])
  fields := #[]
  methods := #[k0m0]
  instanceTypes := #[]
  staticTypes := #[]
  resolved := Array.replicate 124 none
  statics := none }

def pool1 : Array CpInfo := pool [(2, .class_ 4), (1, u "java/lang/Object"), (0, u "<init>"), (0, u "()V"), (0, .integer 2147483647), (0, .methodref 9 10), (0, .class_ 11), (0, .nameAndType 12 13), (0, u "com/example/lob/lob/broker/TextLines"), (0, u "indexOf"), (0, u "([BCII)I"), (0, .methodref 15 16), (0, .class_ 17), (0, .nameAndType 18 19), (0, u "com/example/lob/lob/broker/TextLinesIndexOfPinLaw"), (0, u "hit"), (0, u "([BCIII)Z"), (2, u "law"), (0, u "(IJIII)Z")] 5

def k1m0 : Method := { name := "<init>", desc := "()V", sig := { parameters := [], returnType := none }, accessFlags := 1, code := none }
def k1c1 : Code := { maxStack := 5, maxLocals := 12, code := code, exceptionTable := #[], attributes := #[] }
def k1m1 : Method := { name := "law", desc := "(IJIII)Z", sig := { parameters := [.int, .long, .int, .int, .int], returnType := some .boolean }, accessFlags := 9, code := some k1c1 }
def k1c2 : Code := { maxStack := 2, maxLocals := 5, code := method_3_code, exceptionTable := #[], attributes := #[] }
def k1m2 : Method := { name := "hit", desc := "([BCIII)Z", sig := { parameters := [(.array .byte), .char, .int, .int, .int], returnType := some .boolean }, accessFlags := 10, code := some k1c2 }
/-- com/example/lob/lob/broker/TextLinesIndexOfPinLaw -/
def k1 : Class := { plain "com/example/lob/lob/broker/TextLinesIndexOfPinLaw" (some 0) with
  accessFlags := 49
  interfaces := #[]
  cf := some (fileOf pool1 15 #[] #[{ accessFlags := 1, nameIndex := 5, descriptorIndex := 6, attributes := #[] }, { accessFlags := 9, nameIndex := 22, descriptorIndex := 23, attributes := #[] }, { accessFlags := 10, nameIndex := 18, descriptorIndex := 19, attributes := #[] }] 49 2 #[] #[])
  fields := #[]
  methods := #[k1m0, k1m1, k1m2]
  instanceTypes := #[]
  staticTypes := #[]
  resolved := Array.replicate 29 none
  statics := none }

def pool2 : Array CpInfo := pool [(2, .class_ 4), (1, u "java/lang/Object"), (0, u "<init>"), (0, u "()V"), (1, .class_ 10), (1, u "com/example/lob/lob/broker/TextLines"), (4, u "indexOf"), (0, u "([BCII)I"), (1, .class_ 20), (1, u "com/example/lob/lob/broker/TextLines$LineReader"), (4, u "BYTE_ORDER_MARK"), (0, u "[B"), (24, .class_ 52), (0, u "com/example/lob/lob/broker/TextLines$FirstWord"), (77, .class_ 132), (1, u "com/example/lob/lob/broker/TextLines$DecodedLineReader")] 51

def k2m0 : Method := { name := "<init>", desc := "()V", sig := { parameters := [], returnType := none }, accessFlags := 2, code := none }
def k2c1 : Code := { maxStack := 2, maxLocals := 5, code := prog_22_method_6_code, exceptionTable := #[], attributes := #[] }
def k2m1 : Method := { name := "indexOf", desc := "([BCII)I", sig := { parameters := [(.array .byte), .char, .int, .int], returnType := some .int }, accessFlags := 8, code := some k2c1 }
/-- com/example/lob/lob/broker/TextLines -/
def k2 : Class := { plain "com/example/lob/lob/broker/TextLines" (some 0) with
  accessFlags := 32
  interfaces := #[]
  cf := some (fileOf pool2 8 #[.nestMembers #[51, 130, 18]] #[{ accessFlags := 2, nameIndex := 5, descriptorIndex := 6, attributes := #[] }, { accessFlags := 8, nameIndex := 15, descriptorIndex := 16, attributes := #[] }] 32 2 #[] #[{ accessFlags := 26, nameIndex := 25, descriptorIndex := 26, attributes := #[] }])
  fields := #[{ name := "BYTE_ORDER_MARK", type := (.array .byte), accessFlags := 26, slot := 0, constantValue := 0 }]
  methods := #[k2m0, k2m1]
  instanceTypes := #[]
  staticTypes := #[(.array .byte)]
  resolved := Array.replicate 184 none
  statics := none }

def pool3 : Array CpInfo := pool [(1, u "java/lang/Cloneable"), (0, .class_ 1), (0, u "java/lang/Object"), (0, .class_ 3)] 3

/-- java/lang/Cloneable -/
def k3 : Class := { plain "java/lang/Cloneable" (some 0) with
  accessFlags := 1537
  interfaces := #[]
  cf := some (fileOf pool3 2 #[] #[] 1537 4 #[] #[])
  fields := #[]
  methods := #[]
  instanceTypes := #[]
  staticTypes := #[]
  resolved := Array.replicate 8 none
  statics := none }

def pool4 : Array CpInfo := pool [(1, u "java/io/Serializable"), (0, .class_ 1), (0, u "java/lang/Object"), (0, .class_ 3)] 3

/-- java/io/Serializable -/
def k4 : Class := { plain "java/io/Serializable" (some 0) with
  accessFlags := 1537
  interfaces := #[]
  cf := some (fileOf pool4 2 #[] #[] 1537 4 #[] #[])
  fields := #[]
  methods := #[]
  instanceTypes := #[]
  staticTypes := #[]
  resolved := Array.replicate 8 none
  statics := none }

/-- the primitive byte -/
def k5 : Class := { plain "byte" none with kind := .primitive 'B', accessFlags := 0x411 }
/-- [B -/
def k6 : Class := { plain "[B" (some 0) with kind := .array 5 .byte, interfaces := #[3, 4], accessFlags := 1041 }

/-- the primitive int -/
def k7 : Class := { plain "int" none with kind := .primitive 'I', accessFlags := 0x411 }
/-- [I -/
def k8 : Class := { plain "[I" (some 0) with kind := .array 7 .int, interfaces := #[3, 4], accessFlags := 1041 }

def heap : Heap := #[]
def classes : Array Class := #[k0, k1, k2, k3, k4, k5, k6, k7, k8]
def interned : List (Array UInt16 × Addr) := []
def slotsUsed : Nat := 0
def theMethod : MethodId := ⟨1, 1⟩
def args0 : Array Value := #[.int 1, .long 2, .int 3, .int 4, .int 5]
def aboutOver (below : List Frame) : State where
  vm := { classes := classes, interned := interned.toArray }
  heap := heap
  slotsUsed := slotsUsed
  threads := #[{ frames := .invoking theMethod args0 :: below }]
def below0 : List Frame := [.native { method := ⟨0, 0⟩, args := #[] }]
def about1 : State := aboutOver below0
def p0 : Program := .bare "" "" ""
def e0 : Env := launch0.env 0 0 0
theorem w_frames : about1.frames = Frame.invoking theMethod args0 :: below0 := rfl
set_option maxRecDepth 65536 in
theorem w_args : argsFit about1.vm theMethod args0 = true := by decide +kernel
set_option maxRecDepth 65536 in
theorem w_heap : heapFits about1 = true := by decide +kernel
set_option maxRecDepth 65536 in
theorem w_runnable : about1.curStatus? = some .runnable := by decide +kernel
set_option maxRecDepth 65536 in
theorem w_alone : about1.alone = true := by decide +kernel
set_option maxRecDepth 65536 in
theorem w_named : about1.methodNamed? x = some theMethod := by decide +kernel
set_option maxRecDepth 65536 in
theorem w_hears : about1.hears theMethod below0 = true := by decide +kernel
set_option maxRecDepth 65536 in
theorem w_ripe : about1.ripe theMethod args0 below0 = true := by decide +kernel
theorem w_running : about1.status = .running := rfl
set_option maxRecDepth 65536 in
theorem w_room : about1.hasRoom e0.platform room_1 = true :=
  launch0.hasRoom_least _ room_1 (by decide +kernel) (by decide +kernel) (by decide +kernel) (by decide +kernel) (by decide +kernel) (by decide +kernel)
theorem allAtoms_all (ts : List Jvm.Cond) (a : Array Jvm.Value) (st : Jvm.State) : (allAtoms ts).before a st = ts.all (fun c => c.before a st) := by
  induction ts with
  | nil => rfl
  | cons c t ih =>
    show (Jvm.Cond.and c (allAtoms t)).before a st = _
    rw [Jvm.Cond.before_and, ih, List.all_cons]
def words1 : List Jvm.Cond := Jvm.Cond.code x code maxLocals ret :: tables_1
/-- a 'code' word, met by the world's own term for the bytes: nothing is compared byte by byte -/
theorem code_word {y : MethodName} {bytes : ByteArray} {mx : Nat} {rt : Option FieldType} {a : Array Value} {s : State} {m : MethodId} {meth : Method} {c : Code} (h1 : s.methodNamed? y = some m) (h2 : s.vm.method? m = some meth) (h3 : meth.code = some c) (h4 : c.code = bytes)
    (h5 : (c.maxLocals == mx && c.exceptionTable.isEmpty && decide (c.maxStack ≤ mostOperands) && decide (meth.sig.returnType = rt) && !meth.locks && decide (parseMethodDescriptor y.desc = some meth.sig)) = true) : (Jvm.Cond.code y bytes mx rt).before a s = true := by
  simp only [Bool.and_eq_true, beq_iff_eq, Bool.not_eq_true', decide_eq_true_eq] at h5
  obtain ⟨⟨⟨⟨⟨g1, g2⟩, g3⟩, g4⟩, g5⟩, g6⟩ := h5
  simp [Cond.before, Cond.holds, Cond.value, h1, h2, h3, h4, g1, g2, g3, g4, g5, g6]
def isCode : Jvm.Cond → Bool
  | .code _ _ _ _ => true
  | _ => false
theorem all_split {L : List Jvm.Cond} {P : Jvm.Cond → Bool} (h1 : L.all (fun c => isCode c || P c) = true) (h2 : ∀ c ∈ L.filter isCode, P c = true) : L.all P = true := by
  refine List.all_eq_true.mpr fun c hc => ?_
  have h := List.all_eq_true.mp h1 c hc
  rcases Bool.eq_false_or_eq_true (isCode c) with hi | hi
  · exact h2 c (List.mem_filter.mpr ⟨hc, hi⟩)
  · simpa [hi] using h
set_option maxRecDepth 65536 in
theorem w_c0 : (Jvm.Cond.code x code maxLocals ret).before args0 about1 = true := code_word (m := ⟨1, 1⟩) (meth := k1m1) (c := k1c1) (by decide +kernel) rfl rfl rfl (by decide +kernel)
set_option maxRecDepth 65536 in
theorem w_c1 : (Jvm.Cond.code ({ cls := "com/example/lob/lob/broker/TextLines", name := "indexOf", desc := "([BCII)I" } : Jvm.MethodName) prog_22_method_6_code (5 : Nat) (Option.some Jvm.ClassFile.FieldType.int)).before args0 about1 = true := code_word (m := ⟨2, 1⟩) (meth := k2m1) (c := k2c1) (by decide +kernel) rfl rfl rfl (by decide +kernel)
set_option maxRecDepth 65536 in
theorem w_c2 : (Jvm.Cond.code ({ cls := "com/example/lob/lob/broker/TextLinesIndexOfPinLaw", name := "hit", desc := "([BCIII)Z" } : Jvm.MethodName) method_3_code (5 : Nat) (Option.some Jvm.ClassFile.FieldType.boolean)).before args0 about1 = true := code_word (m := ⟨1, 2⟩) (meth := k1m2) (c := k1c2) (by decide +kernel) rfl rfl rfl (by decide +kernel)
def codes1 : List Jvm.Cond := [Jvm.Cond.code x code maxLocals ret, Jvm.Cond.code ({ cls := "com/example/lob/lob/broker/TextLines", name := "indexOf", desc := "([BCII)I" } : Jvm.MethodName) prog_22_method_6_code (5 : Nat) (Option.some Jvm.ClassFile.FieldType.int), Jvm.Cond.code ({ cls := "com/example/lob/lob/broker/TextLinesIndexOfPinLaw", name := "hit", desc := "([BCIII)Z" } : Jvm.MethodName) method_3_code (5 : Nat) (Option.some Jvm.ClassFile.FieldType.boolean)]
set_option maxRecDepth 65536 in
theorem codes_eq : words1.filter isCode = codes1 := rfl
theorem w_codes : ∀ c ∈ words1.filter isCode, c.before args0 about1 = true := by
  rw [codes_eq]
  intro c hc
  simp only [codes1, List.mem_cons, List.not_mem_nil, or_false] at hc
  rcases hc with rfl | rfl | rfl
  · exact w_c0
  · exact w_c1
  · exact w_c2
set_option maxRecDepth 65536 in
theorem w_t1 : words1.all (fun c => isCode c || c.before args0 about1) = true := by decide +kernel
theorem w_tables : (allAtoms (Jvm.Cond.code x code maxLocals ret :: tables_1)).before args0 about1 = true := by
  rw [allAtoms_all]
  show words1.all (fun c => c.before args0 about1) = true
  refine all_split ?_ w_codes
  rw [w_t1]
set_option maxRecDepth 65536 in
theorem w_case : (Jvm.Cond.and given_1 narrow_1).before args0 about1 = true := by decide +kernel
theorem w_applies : (headSpec (Jvm.Cond.code x code maxLocals ret :: tables_1) room_1).applies x e0.platform about1 = true :=
  (Spec.applies_iff w_frames).mpr ⟨w_running, w_runnable, w_alone, w_named, w_hears, w_ripe, w_room, w_tables⟩
theorem atStart : AtStart classFile x code maxLocals ret World_1 tables_1 room_1 Calls_1 rest_1 Pre_1 launch0 p0 e0 about1 theMethod args0 below0 :=
  ⟨lists_1, trivial, launch0.admits_env _ _ _, launch0.least_env, fairChoices_fair.cas, fairChoices_fair.clock, w_frames, w_args, w_heap, w_applies, trivial, trivial, w_case⟩
end start1
theorem witness_1 : WitnessClaimed_1 := ⟨start1.p0, start1.e0, start1.about1, start1.theMethod, start1.args0, start1.below0, start1.atStart⟩
end Jvm.Pilot.@@N@@
