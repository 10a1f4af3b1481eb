import JvmDerived
import JvmDerived.Pilot.@@N@@Statement
import JvmDerived.Pilot.@@N@@Code
set_option linter.unusedVariables false
set_option linter.unusedSimpArgs false
namespace Jvm.RoadKit
open Sem ClassFile Op Lib Jvm.Stand Jvm.Free Jvm.LawKit
section New
variable {p : Program} {l : Launch} {e : Env} {R : Room} {s : State} {m : MethodId} {args : Array Value} {below : List Frame} {meth : Method} {c : Code} {T : State} {locs : List Loc} {cells slots : Nat}
theorem retI (X : Stand p l e R s m args below meth c T locs cells slots) (hx : p.tables.exec = Jvm.exec) {pc : Nat} {Ls : Array Slot} {z : Int32} {rest : List Value} (hret : meth.sig.returnType = some .int) (hd : decode c.code pc = .ok (.ireturn, 1)) {fs : List Frame}
    (hl : ∀ (f : JFrame) (acts : List Action), f.method = m → f.locked = none → f.entered = [] → (doReturn e (T.setTop f) acts (some (.int z))).1 = T.setFrames fs) : Steps p.tables e below (T.setTop (mkF m pc Ls (.int z :: rest))) (T.setFrames fs) := by
  have hm' : T.vm.method? m = some meth := X.method'
  have hn : narrow .int (.int z) = .int z := rfl
  show Steps p.tables e below (T.setTop { method := m, pc := pc, locals := Ls, stack := _ :: rest, locked := none }) _
  jvm_step X.here [X.here.top, hx, hd, hm', hret, hn]
  first | (intro acts; rw [hl _ acts rfl rfl rfl]) | rw [hl _ _ rfl rfl rfl]
  exact Steps.refl _
end New
end Jvm.RoadKit
namespace Jvm.Pilot.@@N@@
open Jvm Jvm.ClassFile Sem Op Lib Jvm.Free Jvm.Stand Jvm.LawKit Jvm.RoadKit Bundle Jvm.Pilot.@@N@@.Jvm.D
theorem own_nm {a b : Addr} {l : List Addr} (h : a ≠ b) (r : a ∉ l) : a ∉ b :: l := fun q => (List.mem_cons.mp q).elim h r
theorem own_n0 {a : Addr} : a ∉ ([] : List Addr) := fun q => nomatch q
theorem own_nst {Z : State} {h : Heap} {a : Addr} {C : String} (F : Exa Z h a C) : ∃ c : Cell, h[a]? = some c ∧ c.vm.isStatics = false := by obtain ⟨c, k, h1, -, -, h4, -⟩ := F; exact ⟨c, h1, h4⟩
theorem own_nstV {Z : State} {h : Heap} {a : Addr} {k : ClassId} {ty : FieldType} {z : Int32} {vs : List Value} {dv : Value} (F : Arv Z h a k ty z vs dv) : ∃ c : Cell, h[a]? = some c ∧ c.vm.isStatics = false := by
  obtain ⟨c, A, -⟩ := F
  refine ⟨c, A.1, ?_⟩
  have q := A.2.1.1
  cases e : c.vm <;> first | rfl | exact absurd e (q _)
theorem own_q0 {h : Heap} : ∀ x ∈ ([] : List Addr), ∃ c : Cell, h[x]? = some c ∧ c.vm.isStatics = false := fun _ q => nomatch q
theorem own_qc {h : Heap} {a : Addr} {l : List Addr} (p : ∃ c : Cell, h[a]? = some c ∧ c.vm.isStatics = false) (r : ∀ x ∈ l, ∃ c : Cell, h[x]? = some c ∧ c.vm.isStatics = false) : ∀ x ∈ a :: l, ∃ c : Cell, h[x]? = some c ∧ c.vm.isStatics = false := fun x q => (List.mem_cons.mp q).elim (fun e => e ▸ p) (r x)
theorem own_sta_keep {Z : State} {h h' : Heap} {ws : List Addr} {C n d : String} {v : Value} (F : Sta Z h C n d v) (K : Keep h h' ws) (q : ∀ x ∈ ws, ∃ c : Cell, h[x]? = some c ∧ c.vm.isStatics = false) : Sta Z h' C n d v := by
  obtain ⟨cf, i, k, f, st, cell, h1, h2, h3, h4, h5, h6, h7⟩ := F
  refine ⟨cf, i, k, f, st, cell, h1, h2, h3, h4, K.2.1 _ _ h5 fun z => ?_, h6, h7⟩
  obtain ⟨c, g1, g2⟩ := q _ z
  cases h5.symm.trans g1; rw [h6] at g2; cases g2
theorem own_eqI {a b : Term} {args : Array Value} {first s : State} {o : Option Outcome} {idx : List Nat} {k : Int32} (h : (Jvm.Cond.eq a b).value args first o s idx = some true) (hb : b.eval args first o idx s = some (.int k)) : a.eval args first o idx s = some (.int k) := by
  obtain ⟨x, y, ha, hb', K, K'⟩ := cmp_v (Or.inl h)
  cases hb.symm.trans hb'
  obtain ⟨z, rfl⟩ := K'
  simp [Cond.value, ha, hb] at h
  rw [ha, h]
theorem own_eqR {a b : Term} {args : Array Value} {first s : State} {o : Option Outcome} {idx : List Nat} {k : Addr} (h : (Jvm.Cond.eq a b).value args first o s idx = some true) (hb : b.eval args first o idx s = some (.ref k)) : a.eval args first o idx s = some (.ref k) := by
  obtain ⟨x, y, ha, hb', K, K'⟩ := cmp_v (Or.inl h)
  cases hb.symm.trans hb'
  have q := gotT (eq_R ha hb K'.2 rfl) h
  rw [ha, q]
abbrev vI (x : Int32) : Slot := .val (.int x)
abbrev vL (x : Int64) : Slot := .val (.long x)
abbrev vA (x : Addr) : Slot := .val (.ref x)
abbrev vD (x : UInt64) : Slot := .val (.double x)
abbrev vU : Slot := .unset
abbrev vS : Slot := .second

theorem own_i32 (x : Int32) : x.toInt = if x.toUInt32.toNat < 2^31 then (x.toUInt32.toNat : Int) else (x.toUInt32.toNat : Int) - 2^32 := by
  have h : x.toInt = x.toBitVec.toInt := rfl
  have h2 : x.toUInt32.toNat = x.toBitVec.toNat := rfl
  rw [h, h2, BitVec.toInt_eq_toNat_cond]
  split <;> split <;> omega
theorem own_mask (x m : Int32) (k : Nat) (hk : k ≤ 31) (hm : m.toUInt32.toNat = 2 ^ k - 1) : (x &&& m).toInt = x.toInt % 2 ^ k := by
  have e : (x &&& m).toUInt32.toNat = x.toUInt32.toNat % 2 ^ k := by
    rw [Int32.toUInt32_and, UInt32.toNat_and, hm, Nat.and_two_pow_sub_one_eq_mod]
  have hp : (2 ^ k : Nat) ≤ 2 ^ 31 := Nat.pow_le_pow_right (by decide) hk
  have hd : (2 ^ k : Nat) ∣ 2 ^ 32 := Nat.pow_dvd_pow 2 (by omega)
  have hpos : 0 < (2 ^ k : Nat) := Nat.pow_pos (by decide)
  have hlt : x.toUInt32.toNat % 2 ^ k < 2 ^ k := Nat.mod_lt _ hpos
  rw [own_i32 (x &&& m), e, if_pos (by omega), own_i32 x]
  have hc : ((2 : Int) ^ k) = ((2 ^ k : Nat) : Int) := by simp
  rw [hc]
  split
  · exact (Int.natCast_emod _ _)
  · obtain ⟨c, hc2⟩ := hd
    have : ((x.toUInt32.toNat : Int) - 2 ^ 32) = (x.toUInt32.toNat : Int) + ((2 ^ k : Nat) : Int) * (-(c : Int)) := by
      have : ((2 : Int) ^ 32) = ((2 ^ k : Nat) : Int) * (c : Int) := by exact_mod_cast hc2
      rw [this, Int.mul_neg]; rfl
    rw [this, Int.add_mul_emod_self_left]
    exact (Int.natCast_emod _ _)
theorem own_mod (y n : Int32) (hy : 0 ≤ y.toInt) (hn : 0 < n.toInt) : (y - y / n * n).toInt = y.toInt % n.toInt := by
  have b1 := y.toInt_lt; have b2 := n.toInt_lt
  have hd : (y / n).toInt = y.toInt / n.toInt := by
    rw [Int32.toInt_div_of_ne_right y n (by intro h; rw [h] at hn; exact absurd hn (by decide)), Int.tdiv_eq_ediv_of_nonneg hy]
  have h1 : 0 ≤ y.toInt / n.toInt := Int.ediv_nonneg hy (by omega)
  have h2 : y.toInt / n.toInt * n.toInt ≤ y.toInt := Int.ediv_mul_le _ (by omega)
  have h3 : 0 ≤ y.toInt / n.toInt * n.toInt := Int.mul_nonneg h1 (by omega)
  have hmul : (y / n * n).toInt = y.toInt / n.toInt * n.toInt := by
    rw [Int32.toInt_mul, hd]; apply Int.bmod_eq_of_le <;> omega
  rw [Int32.toInt_sub, hmul]
  have h4 := Int.emod_def y.toInt n.toInt
  rw [Int.mul_comm] at h4
  rw [h4]; apply Int.bmod_eq_of_le <;> omega
theorem own_pos (x : Int32) : 0 ≤ (x &&& 2147483647).toInt := by
  rw [own_mask x 2147483647 31 (by decide) (by decide)]; exact Int.emod_nonneg _ (by decide)
theorem own_add (x y : Int32) (h1 : -2147483648 ≤ x.toInt + y.toInt) (h2 : x.toInt + y.toInt < 2147483648) : (x + y).toInt = x.toInt + y.toInt := by
  rw [Int32.toInt_add]; apply Int.bmod_eq_of_le <;> omega
theorem own_and3 (x : Int32) : x &&& 3 = 0 ∨ x &&& 3 = 1 ∨ x &&& 3 = 2 ∨ x &&& 3 = 3 := by
  have h := own_mask x 3 2 (by decide) (by decide)
  have h2 : x.toInt % 2 ^ 2 = 0 ∨ x.toInt % 2 ^ 2 = 1 ∨ x.toInt % 2 ^ 2 = 2 ∨ x.toInt % 2 ^ 2 = 3 := by omega
  rcases h2 with q | q | q | q
  · exact Or.inl (Int32.toInt_inj.mp (by rw [h, q]; rfl))
  · exact Or.inr (Or.inl (Int32.toInt_inj.mp (by rw [h, q]; rfl)))
  · exact Or.inr (Or.inr (Or.inl (Int32.toInt_inj.mp (by rw [h, q]; rfl))))
  · exact Or.inr (Or.inr (Or.inr (Int32.toInt_inj.mp (by rw [h, q]; rfl))))
theorem own_ne0 {Z : State} {h : Heap} {a b : Addr} {k : ClassId} {ty : FieldType} {vs : List Value} {dv : Value} {C n d : String} {v : Value} (A : Arv Z h b k ty (0 : Int32) vs dv) (F : Fld Z h a C n d v) : b ≠ a := fun q => by
  subst q
  obtain ⟨c1, A1, -, s1, -⟩ := A
  obtain ⟨c2, -, -, -, f, g1, -, -, -, -, -, g7⟩ := F
  cases A1.1.symm.trans g1
  have h0 : c1.slots.size = 0 := s1
  have := (Array.getElem?_eq_some_iff.mp g7).1
  omega
theorem own_g255 (i : Nat) : (255#32).getLsbD i = decide (i < 8) := by
  rw [show (255#32) = BitVec.ofNat 32 (2 ^ 8 - 1) from rfl, BitVec.getLsbD_ofNat, Nat.testBit_two_pow_sub_one]
  by_cases h : i < 8
  · simp [h]; omega
  · simp [h]
theorem own_m16 (x : BitVec 32) : x % 65536#32 = x &&& 65535#32 := by
  apply BitVec.eq_of_toNat_eq
  rw [BitVec.toNat_umod, BitVec.toNat_and, show (65535#32).toNat = 2 ^ 16 - 1 from rfl, Nat.and_two_pow_sub_one_eq_mod]; rfl
theorem own_g65535 (i : Nat) : (65535#32).getLsbD i = decide (i < 16) := by
  rw [show (65535#32) = BitVec.ofNat 32 (2 ^ 16 - 1) from rfl, BitVec.getLsbD_ofNat, Nat.testBit_two_pow_sub_one]
  by_cases h : i < 16
  · simp [h]; omega
  · simp [h]
theorem own_rt (y : Int32) (c : Int32) (h : c = y.toUInt32.toUInt16.toUInt32.toInt32) :
   ((((((c >>> ((0:Int32) &&& 31)).toInt8.toInt32).toInt8.toInt32 &&& 255) <<< ((0:Int32) &&& 31)) ||| ((((c >>> ((8:Int32) &&& 31)).toInt8.toInt32).toInt8.toInt32 &&& 255) <<< ((8:Int32) &&& 31))).toUInt32.toUInt16.toUInt32.toInt32) = c := by
  subst h
  apply Int32.toBitVec_inj.mp
  simp
  simp only [own_m16]
  generalize y.toBitVec = b
  apply BitVec.eq_of_getLsbD_eq
  intro i hi
  simp [BitVec.getLsbD_signExtend, BitVec.getLsbD_sshiftRight, own_g255, own_g65535]
  by_cases h8 : i < 8
  · have h16 : i < 16 := by omega
    simp [h8, h16, hi]
    intro _
    have e : ∀ (j : Nat) (hj : j < 32), (BitVec.allOnes 32)[j] = true := fun j hj => BitVec.getElem_allOnes j hj
    exact e i hi
  · by_cases h16 : i < 16
    · have : i - 8 < 8 := by omega
      have e : 8 + (i - 8) = i := by omega
      simp [h8, h16, hi, this, e]
      simp [show i - 8 < 32 by omega]
    · simp [h8, h16, hi]
theorem own_cc2 (y : Int32) : nar .char (nar .char y) = nar .char y := by
  show ((y.toUInt32.toUInt16.toUInt32).toUInt16).toUInt32.toInt32 = y.toUInt32.toUInt16.toUInt32.toInt32
  rw [UInt16.toUInt16_toUInt32]
theorem own_rt2 (hi lo c : Int32) (hhi : hi = (0 : Int32)) (hlo : lo = (8 : Int32)) (hr : nar .char c = c) (hc : (255 : Int32) < c) :
    (255 : Int32) < nar .char ((((((nar .byte ((c >>> (hi &&& 31)).toInt8.toInt32)) &&& (255 : Int32)) <<< (hi &&& 31)) ||| (((nar .byte ((c >>> (lo &&& 31)).toInt8.toInt32)) &&& (255 : Int32)) <<< (lo &&& 31))).toUInt32.toUInt16.toUInt32.toInt32)) := by
  subst hhi hlo
  have h := own_rt c c (Eq.symm hr)
  have e : ((((((nar .byte ((c >>> ((0 : Int32) &&& 31)).toInt8.toInt32)) &&& (255 : Int32)) <<< ((0 : Int32) &&& 31)) ||| (((nar .byte ((c >>> ((8 : Int32) &&& 31)).toInt8.toInt32)) &&& (255 : Int32)) <<< ((8 : Int32) &&& 31))).toUInt32.toUInt16.toUInt32.toInt32)) = c := h
  rw [e, hr]; exact hc
theorem own_backOfSH {p : Program} {l : Launch} {e : Env} {R : Room} {s : State} {args : Array Value} {below : List Frame} {Z : State} {a0 : Array Value} {EL : List (String × Nat)} {h : Heap} {vm0 : Vm} {y : MethodName} {bytes : ByteArray} {maxL : Nat} {ret : Option FieldType} {rm : Room} {len W : Nat} {as' : Array Value} {Q : Option Value → Heap → List Loc → Prop}
    (hM : MetFree l y (head1 [Cond.code y bytes maxL ret] rm) (fun a U => a = as' ∧ Z.Warmed39 U.vm ∧ U.heap = h ∧ CHv Z EL U.vm h) (fun _ _ _ _ _ => True) (fun _ U o U' => ∃ v L, o = .returned v ∧ Q v U'.heap L ∧ ReturnedEndW U o U' L rm.cells rm.slots))
    (hZ : Z.Warmed39 vm0) (wc : (Cond.code y bytes maxL ret).before a0 Z = true) (wz : (Cond.initialized y.cls).before a0 Z = true) (hf : rm.frames + 1 ≤ R.frames) (hl : W + (maxL + 11) + rm.locals ≤ R.locals) (hEL : EW Z a0 EL) (H : CHv Z EL vm0 h) :
    BackS l R p e below (s.setVm vm0) args y len W (fun A a => a = as' ∧ A.U.heap = h ∧ A.cells + rm.cells ≤ R.cells ∧ A.slots + rm.slots ≤ R.slots)
      (fun A _ v B => ∃ L, Q v B.U.heap L ∧ B.locs = A.locs ++ L ∧ B.cells = A.cells + rm.cells ∧ B.slots = A.slots + rm.slots) := by
  refine BackS.of_freeW (bytes := bytes) (maxL := maxL) (ret := ret) (E := fun _ first o t L k n => k = rm.cells ∧ n = rm.slots ∧ ∃ v, o = .returned v ∧ Q v t.heap L) hM hf hl ?_ ?_ (fun _ _ _ _ _ _ _ _ _ => trivial) (fun _ _ _ _ ⟨v, L, h1, h2, h4⟩ => ⟨L, _, _, h4, rfl, rfl, v, h1, h2⟩) ?_
  · intro m meth c A a Y hp
    have hU : Z.Warmed39 A.U.vm := wtrans (s := s.setVm vm0) hZ Y.warmed
    refine ⟨?_, mv hU wc, mv hU wz, hp.2.2.1, hp.2.2.2⟩
    show (Cond.and _ .tt).before a A.U = true
    rw [Cond.before_and, mv hU wc]; rfl
  · intro m meth c A a g mk Y hp
    exact ⟨hp.1, wtrans (s := s.setVm vm0) hZ Y.warmed, hp.2.1, (CHv.at Y hZ hEL H).1⟩
  · intro m meth c A a g mk v t L k n Y hp _ _ q
    obtain ⟨e1, e2, v', e3, e4⟩ := q
    cases e3; subst e1 e2
    exact ⟨L, e4, rfl, rfl, rfl⟩
def t9_0 (p2 : Int32) (z_a1 : Int32) : Int32 := (((p2 - z_a1).toUInt32 >>> ((31 : Int32) &&& 31).toUInt32).toInt32)
theorem d9_0 : decode jdk_52_method_15_code 0 = .ok (.iload_n 1, 1) := by decide +kernel
theorem d9_1 : decode jdk_52_method_15_code 1 = .ok (.aload_n 0, 1) := by decide +kernel
theorem d9_2 : decode jdk_52_method_15_code 2 = .ok (.arraylength, 1) := by decide +kernel
theorem d9_3 : decode jdk_52_method_15_code 3 = .ok (.isub, 1) := by decide +kernel
theorem d9_4 : decode jdk_52_method_15_code 4 = .ok (.bipush 31, 2) := by decide +kernel
theorem d9_6 : decode jdk_52_method_15_code 6 = .ok (.iushr, 1) := by decide +kernel
theorem d9_7 : decode jdk_52_method_15_code 7 = .ok (.i2b, 1) := by decide +kernel
theorem d9_8 : decode jdk_52_method_15_code 8 = .ok (.ireturn, 1) := by decide +kernel
theorem pn_9 : plainName "java/lang/StringUTF16" = true := by first | (simp [plainName, overriddenIn]; done) | decide +kernel
theorem ef_9 (m : MethodId) (x0 : Addr) (x1 : Int32) : entryFrame m #[(.ref x0), (.int x1)] 2 = mkF m 0 #[.val (.ref x0), .val (.int x1)] [] := by first | (simp [entryFrame, mkF, argsToLocals, Value.category]; done) | rfl
def Q_rm9 (Z : State) (a1 : Addr) (p2 : Int32) (k_a1 : ClassId) (z_a1 : Int32) (vs_a1 : List Value) (h0 : Heap) (n0 : Nat) (v : Option Value) (h : Heap) (L : List Loc) : Prop := v = some (.int (nar .byte ((t9_0 p2 z_a1).toInt8.toInt32))) ∧ Fr n0 L ∧ h = h0
set_option maxRecDepth 65536 in
set_option maxHeartbeats 40000000 in
theorem rm9 (l : Launch) (Z : State) (a0 : Array Value) (hw : ∀ d ∈ tables_1, d.before a0 Z = true) (ws : List Jvm.Cond) (a1 : Addr) (p2 : Int32) (k_a1 : ClassId) (z_a1 : Int32) (vs_a1 : List Value) (h0 : Heap) (n0 : Nat) (Z0 : n0 ≤ h0.size) (V_a1 : Arv Z h0 a1 k_a1 .byte z_a1 vs_a1 (.int (0 : Int32))) :
    MetFree l (⟨"java/lang/StringUTF16", "coderFromArrayLen", "([BI)B"⟩ : MethodName) (head1 (Jvm.Cond.code (⟨"java/lang/StringUTF16", "coderFromArrayLen", "([BI)B"⟩ : MethodName) jdk_52_method_15_code 2 (some .byte) :: ws) ({ frames := 0, cells := 0, slots := 0, locals := 0 } : Room)) (fun a U => a = #[(.ref a1), (.int p2)] ∧ Z.Warmed39 U.vm ∧ U.heap = h0) (fun _ _ _ _ _ => True) (fun _ U o U' => ∃ v L, o = .returned v ∧ Q_rm9 Z a1 p2 k_a1 z_a1 vs_a1 h0 n0 v U'.heap L ∧ FrameEnd U o U' L ({ frames := 0, cells := 0, slots := 0, locals := 0 } : Room).cells ({ frames := 0, cells := 0, slots := 0, locals := 0 } : Room).slots) := by
  have hi : ∀ (i : Nat) {d : Jvm.Cond}, tables_1[i]? = some d → d.before a0 Z = true := fun i d h => hw d (List.mem_of_getElem? h)
  refine MetFree.of_bodySF (plainFor_of_name pn_9) hisR ?_
  intro p e s m args below meth c s₁ Bd hml0 hP hK
  obtain ⟨rfl, hZ, hh⟩ := hP
  have hx := Bd.exec
  have hby := Bd.bytes
  have hml : c.maxLocals = 2 := hml0
  have hown : s.vm.findClass "java/lang/StringUTF16" = some m.cls := findClass_of_methodNamed Bd.named
  have hnm := (name_of_methodNamed Bd.named Bd.method).1
  have X0 : Stand p l e ({ frames := 0, cells := 0, slots := 0, locals := 0 } : Room) s m #[(.ref a1), (.int p2)] below meth c s₁ [] 0 0 := Stand.of_body Bd
  have e0 : s₁.heap = h0 := by rw [← hh, Bd.state]; rfl
  have N0 := Fr.nil n0
  have pre0 : ∀ t, Steps p.tables e below (s₁.setTop (mkF m 0 #[vA a1, vI p2] [])) t → Steps p.tables e below (s₁.setTop (entryFrame m #[(.ref a1), (.int p2)] 2)) t := fun t k => castTop (ef_9 m a1 p2) k
  obtain ⟨cl_a1_0, Ar_a1_0, q_a1_0, Sz_a1_0, Ng_a1_0, Ha_a1_0, Gt_a1_0⟩ := id V_a1
  obtain ⟨fs, hr, hrun, hended, hW, hsame⟩ := X0.leave (v := some (.int (nar .byte ((t9_0 p2 z_a1).toInt8.toInt32)))) (fun h => by rw [Bd.returns] at h; cases h)
  refine ⟨_, _, pre0 _ ?_, hrun, hended, _, _, rfl, ?_, ⟨_, rfl⟩, hW, hsame.mono (by decide) (by decide)⟩
  · show Steps p.tables e below (s₁.setTop (mkF m 0 #[vA a1, vI p2] [])) _
    refine XS.iloadN X0.here hx rfl (hb hby d9_0) rfl ?_
    refine XS.aloadN X0.here hx rfl (hb hby d9_1) rfl rfl ?_
    show Steps p.tables e below (s₁.setTop (mkF m 2 #[vA a1, vI p2] [(.ref a1), (.int p2)])) _
    refine X0.arraylength hx (by rw [e0]; exact Ar_a1_0.1) (State.isArrayOf_alike hZ.alike Ar_a1_0.2.1) (g := (mkF m 2 #[vA a1, vI p2] [(.ref a1), (.int p2)])) rfl rfl (hb hby d9_2) _ ?_
    rw [len_of Sz_a1_0 Ng_a1_0]
    refine XS.isub X0.here hx rfl (hb hby d9_3) rfl ?_
    refine XS.bipush X0.here hx rfl (hb hby d9_4) ?_
    refine XS.iushr X0.here hx rfl (hb hby d9_6) rfl ?_
    refine XS.i2b X0.here hx rfl (hb hby d9_7) rfl ?_
    show Steps p.tables e below (s₁.setTop (mkF m 8 #[vA a1, vI p2] [(.int ((t9_0 p2 z_a1).toInt8.toInt32))])) _
    exact retN X0 hx (t := .byte) Bd.returns (by simp) (hb hby d9_8) hr
  · show Q_rm9 Z a1 p2 k_a1 z_a1 vs_a1 h0 n0 _ s₁.heap _
    exact ⟨rfl, N0, e0⟩
theorem d6_0 : decode jdk_42_method_152_code 0 = .ok (.getstatic 38, 3) := by decide +kernel
theorem d6_3 : decode jdk_42_method_152_code 3 = .ok (.ifCond .eq 10, 3) := by decide +kernel
theorem d6_6 : decode jdk_42_method_152_code 6 = .ok (.aload_n 0, 1) := by decide +kernel
theorem d6_7 : decode jdk_42_method_152_code 7 = .ok (.getfield 15, 3) := by decide +kernel
theorem d6_10 : decode jdk_42_method_152_code 10 = .ok (.goto 4, 3) := by decide +kernel
theorem d6_14 : decode jdk_42_method_152_code 14 = .ok (.ireturn, 1) := by decide +kernel
theorem pn_6 : plainName "java/lang/String" = true := by first | (simp [plainName, overriddenIn]; done) | decide +kernel
theorem ef_6 (m : MethodId) (x0 : Addr) : entryFrame m #[(.ref x0)] 1 = mkF m 0 #[.val (.ref x0)] [] := by first | (simp [entryFrame, mkF, argsToLocals, Value.category]; done) | rfl
def Q_rm6 (Z : State) (a1 : Addr) (s_COMPACT_STRINGS : Int32) (w_coder_a1 : Int32) (h0 : Heap) (n0 : Nat) (v : Option Value) (h : Heap) (L : List Loc) : Prop := v = some (.int (nar .byte w_coder_a1)) ∧ Fr n0 L ∧ h = h0
set_option maxRecDepth 65536 in
set_option maxHeartbeats 40000000 in
theorem rm6 (l : Launch) (Z : State) (a0 : Array Value) (hw : ∀ d ∈ tables_1, d.before a0 Z = true) (ws : List Jvm.Cond) (a1 : Addr) (s_COMPACT_STRINGS : Int32) (w_coder_a1 : Int32) (h0 : Heap) (n0 : Nat) (Z0 : n0 ≤ h0.size) (hcs : ¬ (s_COMPACT_STRINGS = (0 : Int32))) (S_COMPACT_STRINGS : Sta Z h0 "java/lang/String" "COMPACT_STRINGS" "Z" (.int s_COMPACT_STRINGS)) (F_coder_a1 : Fld Z h0 a1 "java/lang/String" "coder" "B" (.int w_coder_a1)) :
    MetFree l (⟨"java/lang/String", "coder", "()B"⟩ : MethodName) (head1 (Jvm.Cond.code (⟨"java/lang/String", "coder", "()B"⟩ : MethodName) jdk_42_method_152_code 1 (some .byte) :: ws) ({ frames := 0, cells := 0, slots := 0, locals := 0 } : Room)) (fun a U => a = #[(.ref a1)] ∧ Z.Warmed39 U.vm ∧ U.heap = h0) (fun _ _ _ _ _ => True) (fun _ U o U' => ∃ v L, o = .returned v ∧ Q_rm6 Z a1 s_COMPACT_STRINGS w_coder_a1 h0 n0 v U'.heap L ∧ FrameEnd U o U' L ({ frames := 0, cells := 0, slots := 0, locals := 0 } : Room).cells ({ frames := 0, cells := 0, slots := 0, locals := 0 } : Room).slots) := by
  have hi : ∀ (i : Nat) {d : Jvm.Cond}, tables_1[i]? = some d → d.before a0 Z = true := fun i d h => hw d (List.mem_of_getElem? h)
  refine MetFree.of_bodySF (plainFor_of_name pn_6) hisR ?_
  intro p e s m args below meth c s₁ Bd hml0 hP hK
  obtain ⟨rfl, hZ, hh⟩ := hP
  have hx := Bd.exec
  have hby := Bd.bytes
  have hml : c.maxLocals = 1 := hml0
  have hown : s.vm.findClass "java/lang/String" = some m.cls := findClass_of_methodNamed Bd.named
  have hnm := (name_of_methodNamed Bd.named Bd.method).1
  have X0 : Stand p l e ({ frames := 0, cells := 0, slots := 0, locals := 0 } : Room) s m #[(.ref a1)] below meth c s₁ [] 0 0 := Stand.of_body Bd
  have e0 : s₁.heap = h0 := by rw [← hh, Bd.state]; rfl
  have N0 := Fr.nil n0
  have pre0 : ∀ t, Steps p.tables e below (s₁.setTop (mkF m 0 #[vA a1] [])) t → Steps p.tables e below (s₁.setTop (entryFrame m #[(.ref a1)] 1)) t := fun t k => castTop (ef_6 m a1) k
  obtain ⟨T2, X2, e2, st2⟩ := getS2 X0 hx hZ hown (host := "") (Or.inl (hi 42 rfl)) Via.refl e0 S_COMPACT_STRINGS (g := (mkF m 0 #[vA a1] [])) rfl (hb hby d6_0)
  obtain ⟨T3, X3, e3, st3⟩ := getF X2 hx hZ hown (host := "") (Or.inl (hi 23 rfl)) Via.refl e2 F_coder_a1 (g := (mkF m 7 #[vA a1] [(.ref a1)])) rfl rfl (hb hby d6_7)
  obtain ⟨fs, hr, hrun, hended, hW, hsame⟩ := X3.leave (v := some (.int (nar .byte w_coder_a1))) (fun h => by rw [Bd.returns] at h; cases h)
  refine ⟨_, _, pre0 _ ?_, hrun, hended, _, _, rfl, ?_, ⟨_, rfl⟩, hW, hsame.mono (by decide) (by decide)⟩
  · show Steps p.tables e below (s₁.setTop (mkF m 0 #[vA a1] [])) _
    refine st2 _ ?_
    show Steps p.tables e below (T2.setTop (mkF m 3 #[vA a1] [(.int s_COMPACT_STRINGS)])) _
    refine XS.ifNo X2.here hx rfl (hb hby d6_3) rfl ((if0 _ _).trans (feq (show ¬ (s_COMPACT_STRINGS = (0 : Int32)) from hcs)).1) ?_
    refine XS.aloadN X2.here hx rfl (hb hby d6_6) rfl rfl ?_
    show Steps p.tables e below (T2.setTop (mkF m 7 #[vA a1] [(.ref a1)])) _
    refine st3 _ ?_
    show Steps p.tables e below (T3.setTop (mkF m 10 #[vA a1] [(.int w_coder_a1)])) _
    refine XS.goto X3.here hx rfl (pc0 := 10) (pc' := 14) rfl (hb hby d6_10) (by decide) (by decide) ?_
    show Steps p.tables e below (T3.setTop (mkF m 14 #[vA a1] [(.int w_coder_a1)])) _
    exact retN X3 hx (t := .byte) Bd.returns (by simp) (hb hby d6_14) hr
  · show Q_rm6 Z a1 s_COMPACT_STRINGS w_coder_a1 h0 n0 _ T3.heap _
    exact ⟨rfl, N0, e3⟩
theorem pd__28_29B : parseMethodDescriptor "()B" = some ⟨[], some .byte⟩ := by decide +kernel
theorem d5_0 : decode jdk_42_method_54_code 0 = .ok (.aload_n 0, 1) := by decide +kernel
theorem d5_1 : decode jdk_42_method_54_code 1 = .ok (.getfield 9, 3) := by decide +kernel
theorem d5_4 : decode jdk_42_method_54_code 4 = .ok (.arraylength, 1) := by decide +kernel
theorem d5_5 : decode jdk_42_method_54_code 5 = .ok (.aload_n 0, 1) := by decide +kernel
theorem d5_6 : decode jdk_42_method_54_code 6 = .ok (.invokevirtual 335, 3) := by decide +kernel
theorem d5_9 : decode jdk_42_method_54_code 9 = .ok (.ishr, 1) := by decide +kernel
theorem d5_10 : decode jdk_42_method_54_code 10 = .ok (.ireturn, 1) := by decide +kernel
theorem pn_5 : plainName "java/lang/String" = true := by first | (simp [plainName, overriddenIn]; done) | decide +kernel
theorem ef_5 (m : MethodId) (x0 : Addr) : entryFrame m #[(.ref x0)] 1 = mkF m 0 #[.val (.ref x0)] [] := by first | (simp [entryFrame, mkF, argsToLocals, Value.category]; done) | rfl
def Q_rm5 (Z : State) (a1 : Addr) (w_value_a1 : Addr) (k_w_value_a1 : ClassId) (z_w_value_a1 : Int32) (vs_w_value_a1 : List Value) (s_COMPACT_STRINGS : Int32) (w_coder_a1 : Int32) (h0 : Heap) (n0 : Nat) (v : Option Value) (h : Heap) (L : List Loc) : Prop := v = some (.int (z_w_value_a1 >>> ((nar .byte w_coder_a1) &&& 31))) ∧ Fr n0 L ∧ h = h0
set_option maxRecDepth 65536 in
set_option maxHeartbeats 40000000 in
theorem rm5 (l : Launch) (Z : State) (a0 : Array Value) (hw : ∀ d ∈ tables_1, d.before a0 Z = true) (ws : List Jvm.Cond) (a1 : Addr) (w_value_a1 : Addr) (k_w_value_a1 : ClassId) (z_w_value_a1 : Int32) (vs_w_value_a1 : List Value) (s_COMPACT_STRINGS : Int32) (w_coder_a1 : Int32) (h0 : Heap) (n0 : Nat) (Z0 : n0 ≤ h0.size) (hcs : ¬ (s_COMPACT_STRINGS = (0 : Int32))) (F_value_a1 : Fld Z h0 a1 "java/lang/String" "value" "[B" (.ref w_value_a1)) (V_w_value_a1 : Arv Z h0 w_value_a1 k_w_value_a1 .byte z_w_value_a1 vs_w_value_a1 (.int (0 : Int32))) (S_COMPACT_STRINGS : Sta Z h0 "java/lang/String" "COMPACT_STRINGS" "Z" (.int s_COMPACT_STRINGS)) (F_coder_a1 : Fld Z h0 a1 "java/lang/String" "coder" "B" (.int w_coder_a1)) (E_a1 : Exa Z h0 a1 "java/lang/String") :
    MetFree l (⟨"java/lang/String", "length", "()I"⟩ : MethodName) (head1 (Jvm.Cond.code (⟨"java/lang/String", "length", "()I"⟩ : MethodName) jdk_42_method_54_code 1 (some .int) :: ws) ({ frames := 1, cells := 0, slots := 0, locals := 13 } : Room)) (fun a U => a = #[(.ref a1)] ∧ Z.Warmed39 U.vm ∧ U.heap = h0) (fun _ _ _ _ _ => True) (fun _ U o U' => ∃ v L, o = .returned v ∧ Q_rm5 Z a1 w_value_a1 k_w_value_a1 z_w_value_a1 vs_w_value_a1 s_COMPACT_STRINGS w_coder_a1 h0 n0 v U'.heap L ∧ FrameEnd U o U' L ({ frames := 1, cells := 0, slots := 0, locals := 13 } : Room).cells ({ frames := 1, cells := 0, slots := 0, locals := 13 } : Room).slots) := by
  have hi : ∀ (i : Nat) {d : Jvm.Cond}, tables_1[i]? = some d → d.before a0 Z = true := fun i d h => hw d (List.mem_of_getElem? h)
  refine MetFree.of_bodySF (plainFor_of_name pn_5) hisR ?_
  intro p e s m args below meth c s₁ Bd hml0 hP hK
  obtain ⟨rfl, hZ, hh⟩ := hP
  have hx := Bd.exec
  have hby := Bd.bytes
  have hml : c.maxLocals = 1 := hml0
  have hown : s.vm.findClass "java/lang/String" = some m.cls := findClass_of_methodNamed Bd.named
  have hnm := (name_of_methodNamed Bd.named Bd.method).1
  have X0 : Stand p l e ({ frames := 1, cells := 0, slots := 0, locals := 13 } : Room) s m #[(.ref a1)] below meth c s₁ [] 0 0 := Stand.of_body Bd
  have e0 : s₁.heap = h0 := by rw [← hh, Bd.state]; rfl
  have N0 := Fr.nil n0
  have pre0 : ∀ t, Steps p.tables e below (s₁.setTop (mkF m 0 #[vA a1] [])) t → Steps p.tables e below (s₁.setTop (entryFrame m #[(.ref a1)] 1)) t := fun t k => castTop (ef_5 m a1) k
  obtain ⟨T2, X2, e2, st2⟩ := getF X0 hx hZ hown (host := "") (Or.inl (hi 22 rfl)) Via.refl e0 F_value_a1 (g := (mkF m 1 #[vA a1] [(.ref a1)])) rfl rfl (hb hby d5_1)
  obtain ⟨cl_w_value_a1_0, Ar_w_value_a1_0, q_w_value_a1_0, Sz_w_value_a1_0, Ng_w_value_a1_0, Ha_w_value_a1_0, Gt_w_value_a1_0⟩ := id V_w_value_a1
  obtain ⟨cq3, kq3, q3a, q3b, q3c⟩ := isOf hZ e2 E_a1
  obtain ⟨_, _, ⟨T3, L3, k3, n3⟩, -, X3, ⟨Lc3, hQ3, l3, y3, z3⟩, st3⟩ := X2.virtualBack hx (y := (⟨"java/lang/String", "coder", "()B"⟩ : MethodName)) (z := (⟨"java/lang/String", "coder", "()B"⟩ : MethodName)) hown (mvT hZ (hi 37 rfl)) (mvT hZ (hi 38 rfl)) (notFace_of_selects (args := #[]) (mvT hZ (hi 40 rfl))) (mvT hZ (hi 40 rfl)) (mvT hZ (hi 39 rfl)) (by decide) (backOf (W := 1) (rm6 l Z a0 hw [] a1 s_COMPACT_STRINGS w_coder_a1 h0 n0 Z0 hcs S_COMPACT_STRINGS F_coder_a1) hZ (hi 41 rfl) (hi 4 rfl) (by decide) (by decide)) q3a q3c (g := (mkF m 6 #[vA a1] [(.ref a1), (.int z_w_value_a1)])) rfl (by rw [hml]; rfl) (Steps.refl _) (argsL := []) (rest := [(.int z_w_value_a1)]) (lenOf pd__28_29B rfl) rfl (by show 2 * 0 + _ ≤ _; exact Nat.le_of_eq rfl) (hb hby d5_6) (fun _ _ => ⟨rfl, e2, (by decide : 0 + 0 ≤ _), (by decide : 0 + 0 ≤ _)⟩)
  dsimp only [Pt.U, Pt.locs, Pt.cells, Pt.slots] at X3 l3 y3 z3 st3 hQ3
  subst l3 y3 z3
  obtain ⟨rfl, N3q, e3⟩ := hQ3
  have N3 := Fr.app N0 N3q
  obtain ⟨fs, hr, hrun, hended, hW, hsame⟩ := X3.leave (v := some (.int (z_w_value_a1 >>> ((nar .byte w_coder_a1) &&& 31)))) (fun h => by rw [Bd.returns] at h; cases h)
  refine ⟨_, _, pre0 _ ?_, hrun, hended, _, _, rfl, ?_, ⟨_, rfl⟩, hW, hsame.mono (by decide) (by decide)⟩
  · show Steps p.tables e below (s₁.setTop (mkF m 0 #[vA a1] [])) _
    refine XS.aloadN X0.here hx rfl (hb hby d5_0) rfl rfl ?_
    show Steps p.tables e below (s₁.setTop (mkF m 1 #[vA a1] [(.ref a1)])) _
    refine st2 _ ?_
    show Steps p.tables e below (T2.setTop (mkF m 4 #[vA a1] [(.ref w_value_a1)])) _
    refine X2.arraylength hx (by rw [e2]; exact Ar_w_value_a1_0.1) (State.isArrayOf_alike hZ.alike Ar_w_value_a1_0.2.1) (g := (mkF m 4 #[vA a1] [(.ref w_value_a1)])) rfl rfl (hb hby d5_4) _ ?_
    rw [len_of Sz_w_value_a1_0 Ng_w_value_a1_0]
    refine XS.aloadN X2.here hx rfl (hb hby d5_5) rfl rfl ?_
    show Steps p.tables e below (T2.setTop (mkF m 6 #[vA a1] [(.ref a1), (.int z_w_value_a1)])) _
    refine st3.trans ?_
    refine XS.ishr X3.here hx rfl (hb hby d5_9) rfl ?_
    show Steps p.tables e below (T3.setTop (mkF m 10 #[vA a1] [(.int (z_w_value_a1 >>> ((nar .byte w_coder_a1) &&& 31)))])) _
    exact retI X3 hx Bd.returns (hb hby d5_10) hr
  · show Q_rm5 Z a1 w_value_a1 k_w_value_a1 z_w_value_a1 vs_w_value_a1 s_COMPACT_STRINGS w_coder_a1 h0 n0 _ T3.heap _
    exact ⟨rfl, N3, e3⟩
theorem pd__28_29I : parseMethodDescriptor "()I" = some ⟨[], some .int⟩ := by decide +kernel
def t4_0 (z_w_value_a1 : Int32) (w_coder_a1 : Int32) : Int64 := ((576 : Int64) + ((2 : Int64) * ((z_w_value_a1 >>> ((nar .byte w_coder_a1) &&& 31)).toInt64)))
theorem d4_0 : decode prog_5_method_3_code 0 = .ok (.ldc2_w 29, 3) := by decide +kernel
theorem d4_3 : decode prog_5_method_3_code 3 = .ok (.ldc2_w 11, 3) := by decide +kernel
theorem d4_6 : decode prog_5_method_3_code 6 = .ok (.aload_n 0, 1) := by decide +kernel
theorem d4_7 : decode prog_5_method_3_code 7 = .ok (.invokevirtual 19, 3) := by decide +kernel
theorem d4_10 : decode prog_5_method_3_code 10 = .ok (.i2l, 1) := by decide +kernel
theorem d4_11 : decode prog_5_method_3_code 11 = .ok (.lmul, 1) := by decide +kernel
theorem d4_12 : decode prog_5_method_3_code 12 = .ok (.ladd, 1) := by decide +kernel
theorem d4_13 : decode prog_5_method_3_code 13 = .ok (.lreturn, 1) := by decide +kernel
theorem pn_4 : plainName "com/example/lob/lob/broker/HeldBytes" = true := by first | (simp [plainName, overriddenIn]; done) | decide +kernel
theorem ef_4 (m : MethodId) (x0 : Addr) : entryFrame m #[(.ref x0)] 1 = mkF m 0 #[.val (.ref x0)] [] := by first | (simp [entryFrame, mkF, argsToLocals, Value.category]; done) | rfl
def Q_rm4 (Z : State) (a1 : Addr) (w_value_a1 : Addr) (k_w_value_a1 : ClassId) (z_w_value_a1 : Int32) (vs_w_value_a1 : List Value) (s_COMPACT_STRINGS : Int32) (w_coder_a1 : Int32) (h0 : Heap) (n0 : Nat) (v : Option Value) (h : Heap) (L : List Loc) : Prop := v = some (.long (t4_0 z_w_value_a1 w_coder_a1)) ∧ Fr n0 L ∧ h = h0
set_option maxRecDepth 65536 in
set_option maxHeartbeats 40000000 in
theorem rm4 (l : Launch) (Z : State) (a0 : Array Value) (hw : ∀ d ∈ tables_1, d.before a0 Z = true) (ws : List Jvm.Cond) (a1 : Addr) (w_value_a1 : Addr) (k_w_value_a1 : ClassId) (z_w_value_a1 : Int32) (vs_w_value_a1 : List Value) (s_COMPACT_STRINGS : Int32) (w_coder_a1 : Int32) (h0 : Heap) (n0 : Nat) (Z0 : n0 ≤ h0.size) (hcs : ¬ (s_COMPACT_STRINGS = (0 : Int32))) (F_value_a1 : Fld Z h0 a1 "java/lang/String" "value" "[B" (.ref w_value_a1)) (V_w_value_a1 : Arv Z h0 w_value_a1 k_w_value_a1 .byte z_w_value_a1 vs_w_value_a1 (.int (0 : Int32))) (S_COMPACT_STRINGS : Sta Z h0 "java/lang/String" "COMPACT_STRINGS" "Z" (.int s_COMPACT_STRINGS)) (F_coder_a1 : Fld Z h0 a1 "java/lang/String" "coder" "B" (.int w_coder_a1)) (E_a1 : Exa Z h0 a1 "java/lang/String") :
    MetFree l (⟨"com/example/lob/lob/broker/HeldBytes", "ofKeptSession", "(Ljava/lang/String;)J"⟩ : MethodName) (head1 (Jvm.Cond.code (⟨"com/example/lob/lob/broker/HeldBytes", "ofKeptSession", "(Ljava/lang/String;)J"⟩ : MethodName) prog_5_method_3_code 1 (some .long) :: ws) ({ frames := 2, cells := 0, slots := 0, locals := 29 } : Room)) (fun a U => a = #[(.ref a1)] ∧ Z.Warmed39 U.vm ∧ U.heap = h0) (fun _ _ _ _ _ => True) (fun _ U o U' => ∃ v L, o = .returned v ∧ Q_rm4 Z a1 w_value_a1 k_w_value_a1 z_w_value_a1 vs_w_value_a1 s_COMPACT_STRINGS w_coder_a1 h0 n0 v U'.heap L ∧ FrameEnd U o U' L ({ frames := 2, cells := 0, slots := 0, locals := 29 } : Room).cells ({ frames := 2, cells := 0, slots := 0, locals := 29 } : Room).slots) := by
  have hi : ∀ (i : Nat) {d : Jvm.Cond}, tables_1[i]? = some d → d.before a0 Z = true := fun i d h => hw d (List.mem_of_getElem? h)
  refine MetFree.of_bodySF (plainFor_of_name pn_4) hisR ?_
  intro p e s m args below meth c s₁ Bd hml0 hP hK
  obtain ⟨rfl, hZ, hh⟩ := hP
  have hx := Bd.exec
  have hby := Bd.bytes
  have hml : c.maxLocals = 1 := hml0
  have hown : s.vm.findClass "com/example/lob/lob/broker/HeldBytes" = some m.cls := findClass_of_methodNamed Bd.named
  have hnm := (name_of_methodNamed Bd.named Bd.method).1
  have X0 : Stand p l e ({ frames := 2, cells := 0, slots := 0, locals := 29 } : Room) s m #[(.ref a1)] below meth c s₁ [] 0 0 := Stand.of_body Bd
  have e0 : s₁.heap = h0 := by rw [← hh, Bd.state]; rfl
  have N0 := Fr.nil n0
  have pre0 : ∀ t, Steps p.tables e below (s₁.setTop (mkF m 0 #[vA a1] [])) t → Steps p.tables e below (s₁.setTop (entryFrame m #[(.ref a1)] 1)) t := fun t k => castTop (ef_4 m a1) k
  obtain ⟨cq2, kq2, q2a, q2b, q2c⟩ := isOf hZ e0 E_a1
  obtain ⟨_, _, ⟨T2, L2, k2, n2⟩, -, X2, ⟨Lc2, hQ2, l2, y2, z2⟩, st2⟩ := X0.virtualBack hx (y := (⟨"java/lang/String", "length", "()I"⟩ : MethodName)) (z := (⟨"java/lang/String", "length", "()I"⟩ : MethodName)) hown (mvT hZ (hi 32 rfl)) (mvT hZ (hi 33 rfl)) (notFace_of_selects (args := #[]) (mvT hZ (hi 35 rfl))) (mvT hZ (hi 35 rfl)) (mvT hZ (hi 34 rfl)) (by decide) (backOf (W := 4) (rm5 l Z a0 hw [] a1 w_value_a1 k_w_value_a1 z_w_value_a1 vs_w_value_a1 s_COMPACT_STRINGS w_coder_a1 h0 n0 Z0 hcs F_value_a1 V_w_value_a1 S_COMPACT_STRINGS F_coder_a1 E_a1) hZ (hi 36 rfl) (hi 4 rfl) (by decide) (by decide)) q2a q2c (g := (mkF m 7 #[vA a1] [(.ref a1), (.long (2 : Int64)), (.long (576 : Int64))])) rfl (by rw [hml]; rfl) (Steps.refl _) (argsL := []) (rest := [(.long (2 : Int64)), (.long (576 : Int64))]) (lenOf pd__28_29I rfl) rfl (by show 2 * 0 + _ ≤ _; exact Nat.le_of_eq rfl) (hb hby d4_7) (fun _ _ => ⟨rfl, e0, (by decide : 0 + 0 ≤ _), (by decide : 0 + 0 ≤ _)⟩)
  dsimp only [Pt.U, Pt.locs, Pt.cells, Pt.slots] at X2 l2 y2 z2 st2 hQ2
  subst l2 y2 z2
  obtain ⟨rfl, N2q, e2⟩ := hQ2
  have N2 := Fr.app N0 N2q
  obtain ⟨fs, hr, hrun, hended, hW, hsame⟩ := X2.leave (v := some (.long (t4_0 z_w_value_a1 w_coder_a1))) (fun h => by rw [Bd.returns] at h; cases h)
  refine ⟨_, _, pre0 _ ?_, hrun, hended, _, _, rfl, ?_, ⟨_, rfl⟩, hW, hsame.mono (by decide) (by decide)⟩
  · show Steps p.tables e below (s₁.setTop (mkF m 0 #[vA a1] [])) _
    refine X0.ldc2Long hx hown (mvT hZ (hi 30 rfl)) (g := (mkF m 0 #[vA a1] [])) rfl (hb hby d4_0) _ ?_
    show Steps p.tables e below (s₁.setTop (mkF m 3 #[vA a1] [(.long (576 : Int64))])) _
    refine X0.ldc2Long hx hown (mvT hZ (hi 31 rfl)) (g := (mkF m 3 #[vA a1] [(.long (576 : Int64))])) rfl (hb hby d4_3) _ ?_
    refine XS.aloadN X0.here hx rfl (hb hby d4_6) rfl rfl ?_
    show Steps p.tables e below (s₁.setTop (mkF m 7 #[vA a1] [(.ref a1), (.long (2 : Int64)), (.long (576 : Int64))])) _
    refine st2.trans ?_
    refine XS.i2l X2.here hx rfl (hb hby d4_10) rfl ?_
    refine XS.lmul X2.here hx rfl (hb hby d4_11) rfl ?_
    refine XS.ladd X2.here hx rfl (hb hby d4_12) rfl ?_
    show Steps p.tables e below (T2.setTop (mkF m 13 #[vA a1] [(.long (t4_0 z_w_value_a1 w_coder_a1))])) _
    jvm_step X2.here [X2.here.top, hx, (hb hby d4_13), X2.method', Bd.returns, narrow]
    first | (intro acts; rw [hr _ acts rfl rfl rfl]) | rw [hr _ _ rfl rfl rfl]
    exact Steps.refl _
  · show Q_rm4 Z a1 w_value_a1 k_w_value_a1 z_w_value_a1 vs_w_value_a1 s_COMPACT_STRINGS w_coder_a1 h0 n0 _ T2.heap _
    exact ⟨rfl, N2, e2⟩
theorem d12_0 : decode jdk_52_method_3_code 0 = .ok (.iload_n 0, 1) := by decide +kernel
theorem d12_1 : decode jdk_52_method_3_code 1 = .ok (.ifCond .ge 11, 3) := by decide +kernel
theorem d12_12 : decode jdk_52_method_3_code 12 = .ok (.iload_n 0, 1) := by decide +kernel
theorem d12_13 : decode jdk_52_method_3_code 13 = .ok (.ldc 20, 2) := by decide +kernel
theorem d12_15 : decode jdk_52_method_3_code 15 = .ok (.if_icmp .lt 40, 3) := by decide +kernel
theorem d12_55 : decode jdk_52_method_3_code 55 = .ok (.iload_n 0, 1) := by decide +kernel
theorem d12_56 : decode jdk_52_method_3_code 56 = .ok (.iconst 1, 1) := by decide +kernel
theorem d12_57 : decode jdk_52_method_3_code 57 = .ok (.ishl, 1) := by decide +kernel
theorem d12_58 : decode jdk_52_method_3_code 58 = .ok (.ireturn, 1) := by decide +kernel
theorem pn_12 : plainName "java/lang/StringUTF16" = true := by first | (simp [plainName, overriddenIn]; done) | decide +kernel
theorem ef_12 (m : MethodId) (x0 : Int32) : entryFrame m #[(.int x0)] 1 = mkF m 0 #[.val (.int x0)] [] := by first | (simp [entryFrame, mkF, argsToLocals, Value.category]; done) | rfl
def Q_rm12_1 (Z : State)  (h0 : Heap) (n0 : Nat) (v : Option Value) (h : Heap) (L : List Loc) : Prop := v = some (.int (2 : Int32)) ∧ Fr n0 L ∧ h = h0
set_option maxRecDepth 65536 in
set_option maxHeartbeats 40000000 in
theorem rm12_1 (l : Launch) (Z : State) (a0 : Array Value) (hw : ∀ d ∈ tables_1, d.before a0 Z = true) (ws : List Jvm.Cond)  (h0 : Heap) (n0 : Nat) (Z0 : n0 ≤ h0.size) :
    MetFree l (⟨"java/lang/StringUTF16", "newBytesLength", "(I)I"⟩ : MethodName) (head1 (Jvm.Cond.code (⟨"java/lang/StringUTF16", "newBytesLength", "(I)I"⟩ : MethodName) jdk_52_method_3_code 1 (some .int) :: ws) ({ frames := 0, cells := 0, slots := 0, locals := 0 } : Room)) (fun a U => a = #[(.int (1 : Int32))] ∧ Z.Warmed39 U.vm ∧ U.heap = h0) (fun _ _ _ _ _ => True) (fun _ U o U' => ∃ v L, o = .returned v ∧ Q_rm12_1 Z  h0 n0 v U'.heap L ∧ FrameEnd U o U' L ({ frames := 0, cells := 0, slots := 0, locals := 0 } : Room).cells ({ frames := 0, cells := 0, slots := 0, locals := 0 } : Room).slots) := by
  have hi : ∀ (i : Nat) {d : Jvm.Cond}, tables_1[i]? = some d → d.before a0 Z = true := fun i d h => hw d (List.mem_of_getElem? h)
  refine MetFree.of_bodySF (plainFor_of_name pn_12) hisR ?_
  intro p e s m args below meth c s₁ Bd hml0 hP hK
  obtain ⟨rfl, hZ, hh⟩ := hP
  have hx := Bd.exec
  have hby := Bd.bytes
  have hml : c.maxLocals = 1 := hml0
  have hown : s.vm.findClass "java/lang/StringUTF16" = some m.cls := findClass_of_methodNamed Bd.named
  have hnm := (name_of_methodNamed Bd.named Bd.method).1
  have X0 : Stand p l e ({ frames := 0, cells := 0, slots := 0, locals := 0 } : Room) s m #[(.int (1 : Int32))] below meth c s₁ [] 0 0 := Stand.of_body Bd
  have e0 : s₁.heap = h0 := by rw [← hh, Bd.state]; rfl
  have N0 := Fr.nil n0
  have pre0 : ∀ t, Steps p.tables e below (s₁.setTop (mkF m 0 #[vI (1 : Int32)] [])) t → Steps p.tables e below (s₁.setTop (entryFrame m #[(.int (1 : Int32))] 1)) t := fun t k => castTop (ef_12 m (1 : Int32)) k
  obtain ⟨fs, hr, hrun, hended, hW, hsame⟩ := X0.leave (v := some (.int (2 : Int32))) (fun h => by rw [Bd.returns] at h; cases h)
  refine ⟨_, _, pre0 _ ?_, hrun, hended, _, _, rfl, ?_, ⟨_, rfl⟩, hW, hsame.mono (by decide) (by decide)⟩
  · show Steps p.tables e below (s₁.setTop (mkF m 0 #[vI (1 : Int32)] [])) _
    refine XS.iloadN X0.here hx rfl (hb hby d12_0) rfl ?_
    show Steps p.tables e below (s₁.setTop (mkF m 1 #[vI (1 : Int32)] [(.int (1 : Int32))])) _
    refine XS.ifYes X0.here hx rfl (pc0 := 1) (pc' := 12) rfl (hb hby d12_1) rfl ((if0 _ _).trans (flt (by decide : ¬ ((1 : Int32) < (0 : Int32)))).2.1) (by decide) (by decide) ?_
    refine XS.iloadN X0.here hx rfl (hb hby d12_12) rfl ?_
    show Steps p.tables e below (s₁.setTop (mkF m 13 #[vI (1 : Int32)] [(.int (1 : Int32))])) _
    refine X0.ldcInt hx hown (mvT hZ (hi 62 rfl)) (g := (mkF m 13 #[vI (1 : Int32)] [(.int (1 : Int32))])) rfl (hb hby d12_13) _ ?_
    show Steps p.tables e below (s₁.setTop (mkF m 15 #[vI (1 : Int32)] [(.int (1073741823 : Int32)), (.int (1 : Int32))])) _
    refine XS.icmpYes X0.here hx rfl (pc0 := 15) (pc' := 55) rfl (hb hby d12_15) rfl (tlt (by decide : (1 : Int32) < (1073741823 : Int32))).1 (by decide) (by decide) ?_
    refine XS.iloadN X0.here hx rfl (hb hby d12_55) rfl ?_
    refine XS.iconst X0.here hx rfl (hb hby d12_56) ?_
    refine XS.ishl X0.here hx rfl (hb hby d12_57) rfl ?_
    show Steps p.tables e below (s₁.setTop (mkF m 58 #[vI (1 : Int32)] [(.int (2 : Int32))])) _
    exact retI X0 hx Bd.returns (hb hby d12_58) hr
  · show Q_rm12_1 Z  h0 n0 _ s₁.heap _
    exact ⟨rfl, N0, e0⟩
theorem pd__28I_29I : parseMethodDescriptor "(I)I" = some ⟨[.int], some .int⟩ := by decide +kernel
theorem d11_0 : decode jdk_52_method_2_code 0 = .ok (.iload_n 0, 1) := by decide +kernel
theorem d11_1 : decode jdk_52_method_2_code 1 = .ok (.invokestatic 11, 3) := by decide +kernel
theorem d11_4 : decode jdk_52_method_2_code 4 = .ok (.newarray .byte, 2) := by decide +kernel
theorem d11_6 : decode jdk_52_method_2_code 6 = .ok (.areturn, 1) := by decide +kernel
theorem pn_11 : plainName "java/lang/StringUTF16" = true := by first | (simp [plainName, overriddenIn]; done) | decide +kernel
theorem ef_11 (m : MethodId) (x0 : Int32) : entryFrame m #[(.int x0)] 1 = mkF m 0 #[.val (.int x0)] [] := by first | (simp [entryFrame, mkF, argsToLocals, Value.category]; done) | rfl
def Q_rm11_1 (Z : State)  (h0 : Heap) (n0 : Nat) (v : Option Value) (h : Heap) (L : List Loc) : Prop := ∃ b2 : Addr, ∃ k2 : ClassId, v = some (.ref b2) ∧ Fr n0 L ∧ Keep h0 h [] ∧ h0.size ≤ b2 ∧ Arv Z h b2 k2 .byte (2 : Int32) [(.int (0 : Int32)), (.int (0 : Int32))] (.int (0 : Int32))
set_option maxRecDepth 65536 in
set_option maxHeartbeats 40000000 in
theorem rm11_1 (l : Launch) (Z : State) (a0 : Array Value) (hw : ∀ d ∈ tables_1, d.before a0 Z = true) (ws : List Jvm.Cond)  (h0 : Heap) (n0 : Nat) (Z0 : n0 ≤ h0.size) :
    MetFree l (⟨"java/lang/StringUTF16", "newBytesFor", "(I)[B"⟩ : MethodName) (head1 (Jvm.Cond.code (⟨"java/lang/StringUTF16", "newBytesFor", "(I)[B"⟩ : MethodName) jdk_52_method_2_code 1 (some (.array .byte)) :: ws) ({ frames := 1, cells := 1, slots := 2, locals := 12 } : Room)) (fun a U => a = #[(.int (1 : Int32))] ∧ Z.Warmed39 U.vm ∧ U.heap = h0) (fun _ _ _ _ _ => True) (fun _ U o U' => ∃ v L, o = .returned v ∧ Q_rm11_1 Z  h0 n0 v U'.heap L ∧ FrameEnd U o U' L ({ frames := 1, cells := 1, slots := 2, locals := 12 } : Room).cells ({ frames := 1, cells := 1, slots := 2, locals := 12 } : Room).slots) := by
  have hi : ∀ (i : Nat) {d : Jvm.Cond}, tables_1[i]? = some d → d.before a0 Z = true := fun i d h => hw d (List.mem_of_getElem? h)
  refine MetFree.of_bodySF (plainFor_of_name pn_11) hisR ?_
  intro p e s m args below meth c s₁ Bd hml0 hP hK
  obtain ⟨rfl, hZ, hh⟩ := hP
  have hx := Bd.exec
  have hby := Bd.bytes
  have hml : c.maxLocals = 1 := hml0
  have hown : s.vm.findClass "java/lang/StringUTF16" = some m.cls := findClass_of_methodNamed Bd.named
  have hnm := (name_of_methodNamed Bd.named Bd.method).1
  have X0 : Stand p l e ({ frames := 1, cells := 1, slots := 2, locals := 12 } : Room) s m #[(.int (1 : Int32))] below meth c s₁ [] 0 0 := Stand.of_body Bd
  have e0 : s₁.heap = h0 := by rw [← hh, Bd.state]; rfl
  have N0 := Fr.nil n0
  have pre0 : ∀ t, Steps p.tables e below (s₁.setTop (mkF m 0 #[vI (1 : Int32)] [])) t → Steps p.tables e below (s₁.setTop (entryFrame m #[(.int (1 : Int32))] 1)) t := fun t k => castTop (ef_11 m (1 : Int32)) k
  obtain ⟨_, _, ⟨T1, L1, k1, n1⟩, -, X1, ⟨Lc1, hQ1, l1, y1, z1⟩, st1⟩ := Jvm.LawKit.callS X0 hx (y := (⟨"java/lang/StringUTF16", "newBytesLength", "(I)I"⟩ : MethodName)) hown (mvT hZ (hi 59 rfl)) (mvT hZ (hi 60 rfl)) (mvT hZ (hi 45 rfl)) (mvT hZ (hi 61 rfl)) (by decide) (backOf (W := 0) (rm12_1 l Z a0 hw []  h0 n0 Z0 ) hZ (hi 61 rfl) (hi 45 rfl) (by decide) (by decide)) (g := (mkF m 1 #[vI (1 : Int32)] [(.int (1 : Int32))])) rfl (by rw [hml]; rfl) (argsL := [(.int (1 : Int32))]) (rest := []) (lenOf pd__28I_29I rfl) rfl (by show 2 * 0 + _ ≤ _; exact Nat.le_of_eq rfl) (hb hby d11_1) (fun _ _ => ⟨rfl, e0, (by decide : 0 + 0 ≤ _), (by decide : 0 + 0 ≤ _)⟩)
  dsimp only [Pt.U, Pt.locs, Pt.cells, Pt.slots] at X1 l1 y1 z1 st1 hQ1
  subst l1 y1 z1
  obtain ⟨rfl, N1q, e1⟩ := hQ1
  have N1 := Fr.app N0 N1q
  obtain ⟨T2, h2, k2, X2, e2, E2, A2, st2⟩ := newP X1 hx hZ (hi 17 rfl) e1 (g := (mkF m 4 #[vI (1 : Int32)] [(.int (2 : Int32))])) rfl (hb hby d11_4) rfl (by decide) (cap := 2) (by decide) (by decide) (by decide) (by decide)
  obtain ⟨b2, g2⟩ : ∃ z, z = h0.size := ⟨_, rfl⟩
  rw [← g2] at A2 st2
  have g_b2 : n0 ≤ b2 := Nat.le_trans Z0 (Nat.le_of_eq g2.symm)
  have sz_b2 : h0.size ≤ b2 := Nat.le_trans (Nat.le_refl h0.size) (Nat.le_of_eq g2.symm)
  have V_b2 : Arv Z h2 b2 k2 .byte (2 : Int32) [(.int (0 : Int32)), (.int (0 : Int32))] (.int (0 : Int32)) := (Arv.new A2 (by decide)).pad (pad_rep [] (.int (0 : Int32)) 2)
  obtain ⟨fs, hr, hrun, hended, hW, hsame⟩ := X2.leave (v := some (.ref b2)) (fun h => by rw [Bd.returns] at h; cases h)
  refine ⟨_, _, pre0 _ ?_, hrun, hended, _, _, rfl, ?_, ⟨_, rfl⟩, hW, hsame.mono (by decide) (by decide)⟩
  · show Steps p.tables e below (s₁.setTop (mkF m 0 #[vI (1 : Int32)] [])) _
    refine XS.iloadN X0.here hx rfl (hb hby d11_0) rfl ?_
    show Steps p.tables e below (s₁.setTop (mkF m 1 #[vI (1 : Int32)] [(.int (1 : Int32))])) _
    refine st1 _ ?_
    show Steps p.tables e below (T1.setTop (mkF m 4 #[vI (1 : Int32)] [(.int (2 : Int32))])) _
    refine st2 _ ?_
    show Steps p.tables e below (T2.setTop (mkF m 6 #[vI (1 : Int32)] [(.ref b2)])) _
    jvm_step X2.here [X2.here.top, hx, (hb hby d11_6), X2.method', Bd.returns, Value.isRef, FieldType.isReference]
    first | (intro acts; rw [hr _ acts rfl rfl rfl]) | rw [hr _ _ rfl rfl rfl]
    exact Steps.refl _
  · show Q_rm11_1 Z  h0 n0 _ T2.heap _
    rw [e2]
    exact ⟨b2, ⟨k2, ⟨rfl, N1, ((Keep.refl h0 []).ext E2), sz_b2, V_b2⟩⟩⟩
theorem d13_0 : decode jdk_52_method_4_code 0 = .ok (.getstatic 44, 3) := by decide +kernel
theorem d13_3 : decode jdk_52_method_4_code 3 = .ok (.ifCond .ne 25, 3) := by decide +kernel
theorem d13_28 : decode jdk_52_method_4_code 28 = .ok (.iload_n 1, 1) := by decide +kernel
theorem d13_29 : decode jdk_52_method_4_code 29 = .ok (.iconst 1, 1) := by decide +kernel
theorem d13_30 : decode jdk_52_method_4_code 30 = .ok (.ishl, 1) := by decide +kernel
theorem d13_31 : decode jdk_52_method_4_code 31 = .ok (.istore_n 1, 1) := by decide +kernel
theorem d13_32 : decode jdk_52_method_4_code 32 = .ok (.aload_n 0, 1) := by decide +kernel
theorem d13_33 : decode jdk_52_method_4_code 33 = .ok (.iload_n 1, 1) := by decide +kernel
theorem d13_34 : decode jdk_52_method_4_code 34 = .ok (.iinc 1 1, 3) := by decide +kernel
theorem d13_37 : decode jdk_52_method_4_code 37 = .ok (.iload_n 2, 1) := by decide +kernel
theorem d13_38 : decode jdk_52_method_4_code 38 = .ok (.getstatic 59, 3) := by decide +kernel
theorem d13_41 : decode jdk_52_method_4_code 41 = .ok (.ishr, 1) := by decide +kernel
theorem d13_42 : decode jdk_52_method_4_code 42 = .ok (.i2b, 1) := by decide +kernel
theorem d13_43 : decode jdk_52_method_4_code 43 = .ok (.bastore, 1) := by decide +kernel
theorem d13_44 : decode jdk_52_method_4_code 44 = .ok (.aload_n 0, 1) := by decide +kernel
theorem d13_45 : decode jdk_52_method_4_code 45 = .ok (.iload_n 1, 1) := by decide +kernel
theorem d13_46 : decode jdk_52_method_4_code 46 = .ok (.iload_n 2, 1) := by decide +kernel
theorem d13_47 : decode jdk_52_method_4_code 47 = .ok (.getstatic 63, 3) := by decide +kernel
theorem d13_50 : decode jdk_52_method_4_code 50 = .ok (.ishr, 1) := by decide +kernel
theorem d13_51 : decode jdk_52_method_4_code 51 = .ok (.i2b, 1) := by decide +kernel
theorem d13_52 : decode jdk_52_method_4_code 52 = .ok (.bastore, 1) := by decide +kernel
theorem d13_53 : decode jdk_52_method_4_code 53 = .ok (.return_, 1) := by decide +kernel
theorem pn_13 : plainName "java/lang/StringUTF16" = true := by first | (simp [plainName, overriddenIn]; done) | decide +kernel
theorem ef_13 (m : MethodId) (x0 : Addr) (x1 : Int32) (x2 : Int32) : entryFrame m #[(.ref x0), (.int x1), (.int x2)] 3 = mkF m 0 #[.val (.ref x0), .val (.int x1), .val (.int x2)] [] := by first | (simp [entryFrame, mkF, argsToLocals, Value.category]; done) | rfl
def Q_rm13_1_0 (Z : State) (a1 : Addr) (p2 : Int32) (s__assertionsDisabled : Int32) (s_HI_BYTE_SHIFT : Int32) (s_LO_BYTE_SHIFT : Int32) (k_a1 : ClassId) (x_a1_0 : Int32) (x_a1_1 : Int32) (h0 : Heap) (n0 : Nat) (v : Option Value) (h : Heap) (L : List Loc) : Prop := v = none ∧ Fr n0 L ∧ Keep h0 h [a1] ∧ Arv Z h a1 k_a1 .byte (2 : Int32) [(.int (nar .byte ((p2 >>> (s_HI_BYTE_SHIFT &&& 31)).toInt8.toInt32))), (.int (nar .byte ((p2 >>> (s_LO_BYTE_SHIFT &&& 31)).toInt8.toInt32)))] (.int (0 : Int32))
set_option maxRecDepth 65536 in
set_option maxHeartbeats 40000000 in
theorem rm13_1_0 (l : Launch) (Z : State) (a0 : Array Value) (hw : ∀ d ∈ tables_1, d.before a0 Z = true) (ws : List Jvm.Cond) (a1 : Addr) (p2 : Int32) (s__assertionsDisabled : Int32) (s_HI_BYTE_SHIFT : Int32) (s_LO_BYTE_SHIFT : Int32) (k_a1 : ClassId) (x_a1_0 : Int32) (x_a1_1 : Int32) (h0 : Heap) (n0 : Nat) (Z0 : n0 ≤ h0.size) (hasd : ¬ (s__assertionsDisabled = (0 : Int32))) (S__assertionsDisabled : Sta Z h0 "java/lang/StringUTF16" "$assertionsDisabled" "Z" (.int s__assertionsDisabled)) (S_HI_BYTE_SHIFT : Sta Z h0 "java/lang/StringUTF16" "HI_BYTE_SHIFT" "I" (.int s_HI_BYTE_SHIFT)) (g_a1 : n0 ≤ a1) (S_LO_BYTE_SHIFT : Sta Z h0 "java/lang/StringUTF16" "LO_BYTE_SHIFT" "I" (.int s_LO_BYTE_SHIFT)) (V_a1 : Arv Z h0 a1 k_a1 .byte (2 : Int32) [(.int x_a1_0), (.int x_a1_1)] (.int (0 : Int32))) :
    MetFree l (⟨"java/lang/StringUTF16", "putChar", "([BII)V"⟩ : MethodName) (head1 (Jvm.Cond.code (⟨"java/lang/StringUTF16", "putChar", "([BII)V"⟩ : MethodName) jdk_52_method_4_code 3 none :: ws) ({ frames := 0, cells := 0, slots := 0, locals := 0 } : Room)) (fun a U => a = #[(.ref a1), (.int (0 : Int32)), (.int p2)] ∧ Z.Warmed39 U.vm ∧ U.heap = h0) (fun _ _ _ _ _ => True) (fun _ U o U' => ∃ v L, o = .returned v ∧ Q_rm13_1_0 Z a1 p2 s__assertionsDisabled s_HI_BYTE_SHIFT s_LO_BYTE_SHIFT k_a1 x_a1_0 x_a1_1 h0 n0 v U'.heap L ∧ FrameEnd U o U' L ({ frames := 0, cells := 0, slots := 0, locals := 0 } : Room).cells ({ frames := 0, cells := 0, slots := 0, locals := 0 } : Room).slots) := by
  have hi : ∀ (i : Nat) {d : Jvm.Cond}, tables_1[i]? = some d → d.before a0 Z = true := fun i d h => hw d (List.mem_of_getElem? h)
  refine MetFree.of_bodySF (plainFor_of_name pn_13) hisR ?_
  intro p e s m args below meth c s₁ Bd hml0 hP hK
  obtain ⟨rfl, hZ, hh⟩ := hP
  have hx := Bd.exec
  have hby := Bd.bytes
  have hml : c.maxLocals = 3 := hml0
  have hown : s.vm.findClass "java/lang/StringUTF16" = some m.cls := findClass_of_methodNamed Bd.named
  have hnm := (name_of_methodNamed Bd.named Bd.method).1
  have X0 : Stand p l e ({ frames := 0, cells := 0, slots := 0, locals := 0 } : Room) s m #[(.ref a1), (.int (0 : Int32)), (.int p2)] below meth c s₁ [] 0 0 := Stand.of_body Bd
  have e0 : s₁.heap = h0 := by rw [← hh, Bd.state]; rfl
  have N0 := Fr.nil n0
  have pre0 : ∀ t, Steps p.tables e below (s₁.setTop (mkF m 0 #[vA a1, vI (0 : Int32), vI p2] [])) t → Steps p.tables e below (s₁.setTop (entryFrame m #[(.ref a1), (.int (0 : Int32)), (.int p2)] 3)) t := fun t k => castTop (ef_13 m a1 (0 : Int32) p2) k
  obtain ⟨T3, X3, e3, st3⟩ := getS2 X0 hx hZ hown (host := "") (Or.inl (hi 66 rfl)) Via.refl e0 S__assertionsDisabled (g := (mkF m 0 #[vA a1, vI (0 : Int32), vI p2] [])) rfl (hb hby d13_0)
  obtain ⟨T4, X4, e4, st4⟩ := getS2 X3 hx hZ hown (host := "") (Or.inl (hi 67 rfl)) Via.refl e3 S_HI_BYTE_SHIFT (g := (mkF m 38 #[vA a1, vI (1 : Int32), vI p2] [(.int p2), (.int (0 : Int32)), (.ref a1)])) rfl (hb hby d13_38)
  obtain ⟨cl_a1_0, Ar_a1_0, q_a1_0, Sz_a1_0, Ng_a1_0, Ha_a1_0, Gt_a1_0⟩ := id V_a1
  have hin_a1_0 : ¬ ((0 : Int32) < 0 ∨ cl_a1_0.slots.size ≤ ((0 : Int32)).toNatClampNeg) := inb_of Sz_a1_0 ⟨by decide, by decide⟩
  obtain ⟨T5, h5, X5, e5, W5, st5⟩ := stB X4 hx hZ e4 Ar_a1_0 (j := (0 : Int32)) hin_a1_0 (g := (mkF m 43 #[vA a1, vI (1 : Int32), vI p2] [(.int ((p2 >>> (s_HI_BYTE_SHIFT &&& 31)).toInt8.toInt32)), (.int (0 : Int32)), (.ref a1)])) rfl rfl (hb hby d13_43)
  have V5 : Arv Z h5 a1 k_a1 .byte (2 : Int32) [(.int (nar .byte ((p2 >>> (s_HI_BYTE_SHIFT &&& 31)).toInt8.toInt32))), (.int x_a1_1)] (.int (0 : Int32)) := Arv.set Ar_a1_0 q_a1_0 Sz_a1_0 Ng_a1_0 Ha_a1_0 Gt_a1_0 (fits_nar_byte _) W5 0 rfl (Nat.le_of_ble_eq_true rfl)
  have N5 := Fr.snoc X5 N0 g_a1
  have f1 := (S_LO_BYTE_SHIFT.wr W5)
  obtain ⟨T6, X6, e6, st6⟩ := getS2 X5 hx hZ hown (host := "") (Or.inl (hi 68 rfl)) Via.refl e5 f1 (g := (mkF m 47 #[vA a1, vI (1 : Int32), vI p2] [(.int p2), (.int (1 : Int32)), (.ref a1)])) rfl (hb hby d13_47)
  obtain ⟨cl_a1_2, Ar_a1_2, q_a1_2, Sz_a1_2, Ng_a1_2, Ha_a1_2, Gt_a1_2⟩ := id V5
  have hin_a1_2 : ¬ ((1 : Int32) < 0 ∨ cl_a1_2.slots.size ≤ ((1 : Int32)).toNatClampNeg) := inb_of Sz_a1_2 ⟨by decide, by decide⟩
  obtain ⟨T7, h7, X7, e7, W7, st7⟩ := stB X6 hx hZ e6 Ar_a1_2 (j := (1 : Int32)) hin_a1_2 (g := (mkF m 52 #[vA a1, vI (1 : Int32), vI p2] [(.int ((p2 >>> (s_LO_BYTE_SHIFT &&& 31)).toInt8.toInt32)), (.int (1 : Int32)), (.ref a1)])) rfl rfl (hb hby d13_52)
  have V7 : Arv Z h7 a1 k_a1 .byte (2 : Int32) [(.int (nar .byte ((p2 >>> (s_HI_BYTE_SHIFT &&& 31)).toInt8.toInt32))), (.int (nar .byte ((p2 >>> (s_LO_BYTE_SHIFT &&& 31)).toInt8.toInt32)))] (.int (0 : Int32)) := Arv.set Ar_a1_2 q_a1_2 Sz_a1_2 Ng_a1_2 Ha_a1_2 Gt_a1_2 (fits_nar_byte _) W7 1 rfl (Nat.le_of_ble_eq_true rfl)
  have N7 := Fr.snoc X7 N5 g_a1
  obtain ⟨fs, hr, hrun, hended, hW, hsame⟩ := X7.leave (v := none) (fun _ => rfl)
  refine ⟨_, _, pre0 _ ?_, hrun, hended, _, _, rfl, ?_, ⟨_, rfl⟩, hW, hsame.mono (by decide) (by decide)⟩
  · show Steps p.tables e below (s₁.setTop (mkF m 0 #[vA a1, vI (0 : Int32), vI p2] [])) _
    refine st3 _ ?_
    show Steps p.tables e below (T3.setTop (mkF m 3 #[vA a1, vI (0 : Int32), vI p2] [(.int s__assertionsDisabled)])) _
    refine XS.ifYes X3.here hx rfl (pc0 := 3) (pc' := 28) rfl (hb hby d13_3) rfl ((if0 _ _).trans (feq (show ¬ (s__assertionsDisabled = (0 : Int32)) from hasd)).2) (by decide) (by decide) ?_
    refine XS.iloadN X3.here hx rfl (hb hby d13_28) rfl ?_
    refine XS.iconst X3.here hx rfl (hb hby d13_29) ?_
    refine XS.ishl X3.here hx rfl (hb hby d13_30) rfl ?_
    refine XS.istoreN X3.here hx rfl (hb hby d13_31) rfl (l' := #[vA a1, vI (0 : Int32), vI p2]) rfl ?_
    refine XS.aloadN X3.here hx rfl (hb hby d13_32) rfl rfl ?_
    refine XS.iloadN X3.here hx rfl (hb hby d13_33) rfl ?_
    refine XS.iinc X3.here hx rfl (hb hby d13_34) rfl (l' := #[vA a1, vI (1 : Int32), vI p2]) rfl ?_
    refine XS.iloadN X3.here hx rfl (hb hby d13_37) rfl ?_
    show Steps p.tables e below (T3.setTop (mkF m 38 #[vA a1, vI (1 : Int32), vI p2] [(.int p2), (.int (0 : Int32)), (.ref a1)])) _
    refine st4 _ ?_
    refine XS.ishr X4.here hx rfl (hb hby d13_41) rfl ?_
    refine XS.i2b X4.here hx rfl (hb hby d13_42) rfl ?_
    show Steps p.tables e below (T4.setTop (mkF m 43 #[vA a1, vI (1 : Int32), vI p2] [(.int ((p2 >>> (s_HI_BYTE_SHIFT &&& 31)).toInt8.toInt32)), (.int (0 : Int32)), (.ref a1)])) _
    refine st5 _ ?_
    refine XS.aloadN X5.here hx rfl (hb hby d13_44) rfl rfl ?_
    refine XS.iloadN X5.here hx rfl (hb hby d13_45) rfl ?_
    refine XS.iloadN X5.here hx rfl (hb hby d13_46) rfl ?_
    show Steps p.tables e below (T5.setTop (mkF m 47 #[vA a1, vI (1 : Int32), vI p2] [(.int p2), (.int (1 : Int32)), (.ref a1)])) _
    refine st6 _ ?_
    refine XS.ishr X6.here hx rfl (hb hby d13_50) rfl ?_
    refine XS.i2b X6.here hx rfl (hb hby d13_51) rfl ?_
    show Steps p.tables e below (T6.setTop (mkF m 52 #[vA a1, vI (1 : Int32), vI p2] [(.int ((p2 >>> (s_LO_BYTE_SHIFT &&& 31)).toInt8.toInt32)), (.int (1 : Int32)), (.ref a1)])) _
    refine st7 _ ?_
    show Steps p.tables e below (T7.setTop (mkF m 53 #[vA a1, vI (1 : Int32), vI p2] [])) _
    exact X7.returnOut hx Bd.returns (hb hby d13_53) hr
  · show Q_rm13_1_0 Z a1 p2 s__assertionsDisabled s_HI_BYTE_SHIFT s_LO_BYTE_SHIFT k_a1 x_a1_0 x_a1_1 h0 n0 _ T7.heap _
    rw [e7]
    exact ⟨rfl, N7, (((Keep.refl h0 [a1]).wr W5 (Or.inl (List.mem_of_getElem? (i := 0) rfl))).wr W7 (Or.inl (List.mem_of_getElem? (i := 0) rfl))), V7⟩
def t14_0 (s_HI_BYTE_SHIFT : Int32) (s_LO_BYTE_SHIFT : Int32) (x_a1_0 : Int32) (x_a1_1 : Int32) : Int32 := (((x_a1_0 &&& (255 : Int32)) <<< (s_HI_BYTE_SHIFT &&& 31)) ||| ((x_a1_1 &&& (255 : Int32)) <<< (s_LO_BYTE_SHIFT &&& 31)))
def t14_1 (s_HI_BYTE_SHIFT : Int32) (s_LO_BYTE_SHIFT : Int32) (x_a1_0 : Int32) (x_a1_1 : Int32) : Int32 := ((t14_0 s_HI_BYTE_SHIFT s_LO_BYTE_SHIFT x_a1_0 x_a1_1).toUInt32.toUInt16.toUInt32.toInt32)
theorem d14_0 : decode jdk_52_method_5_code 0 = .ok (.getstatic 44, 3) := by decide +kernel
theorem d14_3 : decode jdk_52_method_5_code 3 = .ok (.ifCond .ne 25, 3) := by decide +kernel
theorem d14_28 : decode jdk_52_method_5_code 28 = .ok (.iload_n 1, 1) := by decide +kernel
theorem d14_29 : decode jdk_52_method_5_code 29 = .ok (.iconst 1, 1) := by decide +kernel
theorem d14_30 : decode jdk_52_method_5_code 30 = .ok (.ishl, 1) := by decide +kernel
theorem d14_31 : decode jdk_52_method_5_code 31 = .ok (.istore_n 1, 1) := by decide +kernel
theorem d14_32 : decode jdk_52_method_5_code 32 = .ok (.aload_n 0, 1) := by decide +kernel
theorem d14_33 : decode jdk_52_method_5_code 33 = .ok (.iload_n 1, 1) := by decide +kernel
theorem d14_34 : decode jdk_52_method_5_code 34 = .ok (.iinc 1 1, 3) := by decide +kernel
theorem d14_37 : decode jdk_52_method_5_code 37 = .ok (.baload, 1) := by decide +kernel
theorem d14_38 : decode jdk_52_method_5_code 38 = .ok (.sipush 255, 3) := by decide +kernel
theorem d14_41 : decode jdk_52_method_5_code 41 = .ok (.iand, 1) := by decide +kernel
theorem d14_42 : decode jdk_52_method_5_code 42 = .ok (.getstatic 59, 3) := by decide +kernel
theorem d14_45 : decode jdk_52_method_5_code 45 = .ok (.ishl, 1) := by decide +kernel
theorem d14_46 : decode jdk_52_method_5_code 46 = .ok (.aload_n 0, 1) := by decide +kernel
theorem d14_47 : decode jdk_52_method_5_code 47 = .ok (.iload_n 1, 1) := by decide +kernel
theorem d14_48 : decode jdk_52_method_5_code 48 = .ok (.baload, 1) := by decide +kernel
theorem d14_49 : decode jdk_52_method_5_code 49 = .ok (.sipush 255, 3) := by decide +kernel
theorem d14_52 : decode jdk_52_method_5_code 52 = .ok (.iand, 1) := by decide +kernel
theorem d14_53 : decode jdk_52_method_5_code 53 = .ok (.getstatic 63, 3) := by decide +kernel
theorem d14_56 : decode jdk_52_method_5_code 56 = .ok (.ishl, 1) := by decide +kernel
theorem d14_57 : decode jdk_52_method_5_code 57 = .ok (.ior, 1) := by decide +kernel
theorem d14_58 : decode jdk_52_method_5_code 58 = .ok (.i2c, 1) := by decide +kernel
theorem d14_59 : decode jdk_52_method_5_code 59 = .ok (.ireturn, 1) := by decide +kernel
theorem pn_14 : plainName "java/lang/StringUTF16" = true := by first | (simp [plainName, overriddenIn]; done) | decide +kernel
theorem ef_14 (m : MethodId) (x0 : Addr) (x1 : Int32) : entryFrame m #[(.ref x0), (.int x1)] 2 = mkF m 0 #[.val (.ref x0), .val (.int x1)] [] := by first | (simp [entryFrame, mkF, argsToLocals, Value.category]; done) | rfl
def Q_rm14_1_0 (Z : State) (a1 : Addr) (s__assertionsDisabled : Int32) (s_HI_BYTE_SHIFT : Int32) (s_LO_BYTE_SHIFT : Int32) (k_a1 : ClassId) (x_a1_0 : Int32) (x_a1_1 : Int32) (h0 : Heap) (n0 : Nat) (v : Option Value) (h : Heap) (L : List Loc) : Prop := v = some (.int (nar .char (t14_1 s_HI_BYTE_SHIFT s_LO_BYTE_SHIFT x_a1_0 x_a1_1))) ∧ Fr n0 L ∧ h = h0
set_option maxRecDepth 65536 in
set_option maxHeartbeats 40000000 in
theorem rm14_1_0 (l : Launch) (Z : State) (a0 : Array Value) (hw : ∀ d ∈ tables_1, d.before a0 Z = true) (ws : List Jvm.Cond) (a1 : Addr) (s__assertionsDisabled : Int32) (s_HI_BYTE_SHIFT : Int32) (s_LO_BYTE_SHIFT : Int32) (k_a1 : ClassId) (x_a1_0 : Int32) (x_a1_1 : Int32) (h0 : Heap) (n0 : Nat) (Z0 : n0 ≤ h0.size) (hasd : ¬ (s__assertionsDisabled = (0 : Int32))) (S__assertionsDisabled : Sta Z h0 "java/lang/StringUTF16" "$assertionsDisabled" "Z" (.int s__assertionsDisabled)) (S_HI_BYTE_SHIFT : Sta Z h0 "java/lang/StringUTF16" "HI_BYTE_SHIFT" "I" (.int s_HI_BYTE_SHIFT)) (S_LO_BYTE_SHIFT : Sta Z h0 "java/lang/StringUTF16" "LO_BYTE_SHIFT" "I" (.int s_LO_BYTE_SHIFT)) (V_a1 : Arv Z h0 a1 k_a1 .byte (2 : Int32) [(.int x_a1_0), (.int x_a1_1)] (.int (0 : Int32))) :
    MetFree l (⟨"java/lang/StringUTF16", "getChar", "([BI)C"⟩ : MethodName) (head1 (Jvm.Cond.code (⟨"java/lang/StringUTF16", "getChar", "([BI)C"⟩ : MethodName) jdk_52_method_5_code 2 (some .char) :: ws) ({ frames := 0, cells := 0, slots := 0, locals := 0 } : Room)) (fun a U => a = #[(.ref a1), (.int (0 : Int32))] ∧ Z.Warmed39 U.vm ∧ U.heap = h0) (fun _ _ _ _ _ => True) (fun _ U o U' => ∃ v L, o = .returned v ∧ Q_rm14_1_0 Z a1 s__assertionsDisabled s_HI_BYTE_SHIFT s_LO_BYTE_SHIFT k_a1 x_a1_0 x_a1_1 h0 n0 v U'.heap L ∧ FrameEnd U o U' L ({ frames := 0, cells := 0, slots := 0, locals := 0 } : Room).cells ({ frames := 0, cells := 0, slots := 0, locals := 0 } : Room).slots) := by
  have hi : ∀ (i : Nat) {d : Jvm.Cond}, tables_1[i]? = some d → d.before a0 Z = true := fun i d h => hw d (List.mem_of_getElem? h)
  refine MetFree.of_bodySF (plainFor_of_name pn_14) hisR ?_
  intro p e s m args below meth c s₁ Bd hml0 hP hK
  obtain ⟨rfl, hZ, hh⟩ := hP
  have hx := Bd.exec
  have hby := Bd.bytes
  have hml : c.maxLocals = 2 := hml0
  have hown : s.vm.findClass "java/lang/StringUTF16" = some m.cls := findClass_of_methodNamed Bd.named
  have hnm := (name_of_methodNamed Bd.named Bd.method).1
  have X0 : Stand p l e ({ frames := 0, cells := 0, slots := 0, locals := 0 } : Room) s m #[(.ref a1), (.int (0 : Int32))] below meth c s₁ [] 0 0 := Stand.of_body Bd
  have e0 : s₁.heap = h0 := by rw [← hh, Bd.state]; rfl
  have N0 := Fr.nil n0
  have pre0 : ∀ t, Steps p.tables e below (s₁.setTop (mkF m 0 #[vA a1, vI (0 : Int32)] [])) t → Steps p.tables e below (s₁.setTop (entryFrame m #[(.ref a1), (.int (0 : Int32))] 2)) t := fun t k => castTop (ef_14 m a1 (0 : Int32)) k
  obtain ⟨T2, X2, e2, st2⟩ := getS2 X0 hx hZ hown (host := "") (Or.inl (hi 66 rfl)) Via.refl e0 S__assertionsDisabled (g := (mkF m 0 #[vA a1, vI (0 : Int32)] [])) rfl (hb hby d14_0)
  obtain ⟨cl_a1_0, Ar_a1_0, q_a1_0, Sz_a1_0, Ng_a1_0, Ha_a1_0, Gt_a1_0⟩ := id V_a1
  have hin_a1_0 : ¬ ((0 : Int32) < 0 ∨ cl_a1_0.slots.size ≤ ((0 : Int32)).toNatClampNeg) := inb_of Sz_a1_0 ⟨by decide, by decide⟩
  have hat_a1_0 : cl_a1_0.slots[((0 : Int32)).toNatClampNeg]? = some (.int x_a1_0) := (Ha_a1_0 _ (Nat.lt_of_not_le fun q => hin_a1_0 (Or.inr q))).trans (congrArg some (rfl : (([(.int x_a1_0), (.int x_a1_1)] : List Value)).getD ((0 : Int32)).toNatClampNeg (.int (0 : Int32)) = (.int x_a1_0)))
  obtain ⟨T3, X3, e3, st3⟩ := getS2 X2 hx hZ hown (host := "") (Or.inl (hi 67 rfl)) Via.refl e2 S_HI_BYTE_SHIFT (g := (mkF m 42 #[vA a1, vI (1 : Int32)] [(.int (x_a1_0 &&& (255 : Int32)))])) rfl (hb hby d14_42)
  obtain ⟨cl_a1_1, Ar_a1_1, q_a1_1, Sz_a1_1, Ng_a1_1, Ha_a1_1, Gt_a1_1⟩ := id V_a1
  have hin_a1_1 : ¬ ((1 : Int32) < 0 ∨ cl_a1_1.slots.size ≤ ((1 : Int32)).toNatClampNeg) := inb_of Sz_a1_1 ⟨by decide, by decide⟩
  have hat_a1_1 : cl_a1_1.slots[((1 : Int32)).toNatClampNeg]? = some (.int x_a1_1) := (Ha_a1_1 _ (Nat.lt_of_not_le fun q => hin_a1_1 (Or.inr q))).trans (congrArg some (rfl : (([(.int x_a1_0), (.int x_a1_1)] : List Value)).getD ((1 : Int32)).toNatClampNeg (.int (0 : Int32)) = (.int x_a1_1)))
  obtain ⟨T4, X4, e4, st4⟩ := getS2 X3 hx hZ hown (host := "") (Or.inl (hi 68 rfl)) Via.refl e3 S_LO_BYTE_SHIFT (g := (mkF m 53 #[vA a1, vI (1 : Int32)] [(.int (x_a1_1 &&& (255 : Int32))), (.int ((x_a1_0 &&& (255 : Int32)) <<< (s_HI_BYTE_SHIFT &&& 31)))])) rfl (hb hby d14_53)
  obtain ⟨fs, hr, hrun, hended, hW, hsame⟩ := X4.leave (v := some (.int (nar .char (t14_1 s_HI_BYTE_SHIFT s_LO_BYTE_SHIFT x_a1_0 x_a1_1)))) (fun h => by rw [Bd.returns] at h; cases h)
  refine ⟨_, _, pre0 _ ?_, hrun, hended, _, _, rfl, ?_, ⟨_, rfl⟩, hW, hsame.mono (by decide) (by decide)⟩
  · show Steps p.tables e below (s₁.setTop (mkF m 0 #[vA a1, vI (0 : Int32)] [])) _
    refine st2 _ ?_
    show Steps p.tables e below (T2.setTop (mkF m 3 #[vA a1, vI (0 : Int32)] [(.int s__assertionsDisabled)])) _
    refine XS.ifYes X2.here hx rfl (pc0 := 3) (pc' := 28) rfl (hb hby d14_3) rfl ((if0 _ _).trans (feq (show ¬ (s__assertionsDisabled = (0 : Int32)) from hasd)).2) (by decide) (by decide) ?_
    refine XS.iloadN X2.here hx rfl (hb hby d14_28) rfl ?_
    refine XS.iconst X2.here hx rfl (hb hby d14_29) ?_
    refine XS.ishl X2.here hx rfl (hb hby d14_30) rfl ?_
    refine XS.istoreN X2.here hx rfl (hb hby d14_31) rfl (l' := #[vA a1, vI (0 : Int32)]) rfl ?_
    refine XS.aloadN X2.here hx rfl (hb hby d14_32) rfl rfl ?_
    refine XS.iloadN X2.here hx rfl (hb hby d14_33) rfl ?_
    refine XS.iinc X2.here hx rfl (hb hby d14_34) rfl (l' := #[vA a1, vI (1 : Int32)]) rfl ?_
    show Steps p.tables e below (T2.setTop (mkF m 37 #[vA a1, vI (1 : Int32)] [(.int (0 : Int32)), (.ref a1)])) _
    refine X2.baloadBytes hx (j := (0 : Int32)) (v := (.int x_a1_0)) (by rw [e2]; exact Ar_a1_0.1) (State.isArrayOf_alike hZ.alike Ar_a1_0.2.1) Ar_a1_0.2.2 hin_a1_0 hat_a1_0 (g := (mkF m 37 #[vA a1, vI (1 : Int32)] [(.int (0 : Int32)), (.ref a1)])) rfl rfl (hb hby d14_37) _ ?_
    refine XS.sipush X2.here hx rfl (hb hby d14_38) ?_
    refine XS.iand X2.here hx rfl (hb hby d14_41) rfl ?_
    show Steps p.tables e below (T2.setTop (mkF m 42 #[vA a1, vI (1 : Int32)] [(.int (x_a1_0 &&& (255 : Int32)))])) _
    refine st3 _ ?_
    refine XS.ishl X3.here hx rfl (hb hby d14_45) rfl ?_
    refine XS.aloadN X3.here hx rfl (hb hby d14_46) rfl rfl ?_
    refine XS.iloadN X3.here hx rfl (hb hby d14_47) rfl ?_
    show Steps p.tables e below (T3.setTop (mkF m 48 #[vA a1, vI (1 : Int32)] [(.int (1 : Int32)), (.ref a1), (.int ((x_a1_0 &&& (255 : Int32)) <<< (s_HI_BYTE_SHIFT &&& 31)))])) _
    refine X3.baloadBytes hx (j := (1 : Int32)) (v := (.int x_a1_1)) (by rw [e3]; exact Ar_a1_1.1) (State.isArrayOf_alike hZ.alike Ar_a1_1.2.1) Ar_a1_1.2.2 hin_a1_1 hat_a1_1 (g := (mkF m 48 #[vA a1, vI (1 : Int32)] [(.int (1 : Int32)), (.ref a1), (.int ((x_a1_0 &&& (255 : Int32)) <<< (s_HI_BYTE_SHIFT &&& 31)))])) rfl rfl (hb hby d14_48) _ ?_
    refine XS.sipush X3.here hx rfl (hb hby d14_49) ?_
    refine XS.iand X3.here hx rfl (hb hby d14_52) rfl ?_
    show Steps p.tables e below (T3.setTop (mkF m 53 #[vA a1, vI (1 : Int32)] [(.int (x_a1_1 &&& (255 : Int32))), (.int ((x_a1_0 &&& (255 : Int32)) <<< (s_HI_BYTE_SHIFT &&& 31)))])) _
    refine st4 _ ?_
    refine XS.ishl X4.here hx rfl (hb hby d14_56) rfl ?_
    refine XS.ior X4.here hx rfl (hb hby d14_57) rfl ?_
    refine XS.i2c X4.here hx rfl (hb hby d14_58) rfl ?_
    show Steps p.tables e below (T4.setTop (mkF m 59 #[vA a1, vI (1 : Int32)] [(.int (t14_1 s_HI_BYTE_SHIFT s_LO_BYTE_SHIFT x_a1_0 x_a1_1))])) _
    exact retN X4 hx (t := .char) Bd.returns (by simp) (hb hby d14_59) hr
  · show Q_rm14_1_0 Z a1 s__assertionsDisabled s_HI_BYTE_SHIFT s_LO_BYTE_SHIFT k_a1 x_a1_0 x_a1_1 h0 n0 _ T4.heap _
    exact ⟨rfl, N0, e4⟩
theorem pd__28I_29_5bB : parseMethodDescriptor "(I)[B" = some ⟨[.int], some (.array .byte)⟩ := by decide +kernel
theorem pd__28_5bBII_29V : parseMethodDescriptor "([BII)V" = some ⟨[(.array .byte), .int, .int], none⟩ := by decide +kernel
theorem d10_0 : decode jdk_52_method_14_code 0 = .ok (.iload_n 2, 1) := by decide +kernel
theorem d10_1 : decode jdk_52_method_14_code 1 = .ok (.invokestatic 107, 3) := by decide +kernel
theorem d10_4 : decode jdk_52_method_14_code 4 = .ok (.astore_n 3, 1) := by decide +kernel
theorem d10_5 : decode jdk_52_method_14_code 5 = .ok (.iconst 0, 1) := by decide +kernel
theorem d10_6 : decode jdk_52_method_14_code 6 = .ok (.istore 4, 2) := by decide +kernel
theorem d10_8 : decode jdk_52_method_14_code 8 = .ok (.iload 4, 2) := by decide +kernel
theorem d10_10 : decode jdk_52_method_14_code 10 = .ok (.iload_n 2, 1) := by decide +kernel
theorem d10_11 : decode jdk_52_method_14_code 11 = .ok (.if_icmp .ge 21, 3) := by decide +kernel
theorem d10_14 : decode jdk_52_method_14_code 14 = .ok (.aload_n 3, 1) := by decide +kernel
theorem d10_15 : decode jdk_52_method_14_code 15 = .ok (.iload 4, 2) := by decide +kernel
theorem d10_17 : decode jdk_52_method_14_code 17 = .ok (.aload_n 0, 1) := by decide +kernel
theorem d10_18 : decode jdk_52_method_14_code 18 = .ok (.iload_n 1, 1) := by decide +kernel
theorem d10_19 : decode jdk_52_method_14_code 19 = .ok (.caload, 1) := by decide +kernel
theorem d10_20 : decode jdk_52_method_14_code 20 = .ok (.invokestatic 111, 3) := by decide +kernel
theorem d10_23 : decode jdk_52_method_14_code 23 = .ok (.iinc 1 1, 3) := by decide +kernel
theorem d10_26 : decode jdk_52_method_14_code 26 = .ok (.iinc 4 1, 3) := by decide +kernel
theorem d10_29 : decode jdk_52_method_14_code 29 = .ok (.goto (-21), 3) := by decide +kernel
theorem d10_32 : decode jdk_52_method_14_code 32 = .ok (.aload_n 3, 1) := by decide +kernel
theorem d10_33 : decode jdk_52_method_14_code 33 = .ok (.areturn, 1) := by decide +kernel
theorem pn_10 : plainName "java/lang/StringUTF16" = true := by first | (simp [plainName, overriddenIn]; done) | decide +kernel
theorem ef_10 (m : MethodId) (x0 : Addr) (x1 : Int32) (x2 : Int32) : entryFrame m #[(.ref x0), (.int x1), (.int x2)] 5 = mkF m 0 #[.val (.ref x0), .val (.int x1), .val (.int x2), .unset, .unset] [] := by first | (simp [entryFrame, mkF, argsToLocals, Value.category]; done) | rfl
def Q_rm10_1 (Z : State) (a1 : Addr) (s__assertionsDisabled : Int32) (s_HI_BYTE_SHIFT : Int32) (s_LO_BYTE_SHIFT : Int32) (k_a1 : ClassId) (x_a1_0 : Int32) (h0 : Heap) (n0 : Nat) (v : Option Value) (h : Heap) (L : List Loc) : Prop := ∃ b2_2 : Addr, ∃ k2_2 : ClassId, v = some (.ref b2_2) ∧ Fr n0 L ∧ Keep h0 h [] ∧ h0.size ≤ b2_2 ∧ Arv Z h b2_2 k2_2 .byte (2 : Int32) [(.int (nar .byte ((x_a1_0 >>> (s_HI_BYTE_SHIFT &&& 31)).toInt8.toInt32))), (.int (nar .byte ((x_a1_0 >>> (s_LO_BYTE_SHIFT &&& 31)).toInt8.toInt32)))] (.int (0 : Int32))
set_option maxRecDepth 65536 in
set_option maxHeartbeats 40000000 in
theorem rm10_1 (l : Launch) (Z : State) (a0 : Array Value) (hw : ∀ d ∈ tables_1, d.before a0 Z = true) (ws : List Jvm.Cond) (a1 : Addr) (s__assertionsDisabled : Int32) (s_HI_BYTE_SHIFT : Int32) (s_LO_BYTE_SHIFT : Int32) (k_a1 : ClassId) (x_a1_0 : Int32) (h0 : Heap) (n0 : Nat) (Z0 : n0 ≤ h0.size) (hasd : ¬ (s__assertionsDisabled = (0 : Int32))) (S__assertionsDisabled : Sta Z h0 "java/lang/StringUTF16" "$assertionsDisabled" "Z" (.int s__assertionsDisabled)) (S_HI_BYTE_SHIFT : Sta Z h0 "java/lang/StringUTF16" "HI_BYTE_SHIFT" "I" (.int s_HI_BYTE_SHIFT)) (S_LO_BYTE_SHIFT : Sta Z h0 "java/lang/StringUTF16" "LO_BYTE_SHIFT" "I" (.int s_LO_BYTE_SHIFT)) (V_a1 : Arv Z h0 a1 k_a1 .char (1 : Int32) [(.int x_a1_0)] (.int (0 : Int32))) :
    MetFree l (⟨"java/lang/StringUTF16", "toBytes", "([CII)[B"⟩ : MethodName) (head1 (Jvm.Cond.code (⟨"java/lang/StringUTF16", "toBytes", "([CII)[B"⟩ : MethodName) jdk_52_method_14_code 5 (some (.array .byte)) :: ws) ({ frames := 2, cells := 1, slots := 2, locals := 24 } : Room)) (fun a U => a = #[(.ref a1), (.int (0 : Int32)), (.int (1 : Int32))] ∧ Z.Warmed39 U.vm ∧ U.heap = h0) (fun _ _ _ _ _ => True) (fun _ U o U' => ∃ v L, o = .returned v ∧ Q_rm10_1 Z a1 s__assertionsDisabled s_HI_BYTE_SHIFT s_LO_BYTE_SHIFT k_a1 x_a1_0 h0 n0 v U'.heap L ∧ FrameEnd U o U' L ({ frames := 2, cells := 1, slots := 2, locals := 24 } : Room).cells ({ frames := 2, cells := 1, slots := 2, locals := 24 } : Room).slots) := by
  have hi : ∀ (i : Nat) {d : Jvm.Cond}, tables_1[i]? = some d → d.before a0 Z = true := fun i d h => hw d (List.mem_of_getElem? h)
  refine MetFree.of_bodySF (plainFor_of_name pn_10) hisR ?_
  intro p e s m args below meth c s₁ Bd hml0 hP hK
  obtain ⟨rfl, hZ, hh⟩ := hP
  have hx := Bd.exec
  have hby := Bd.bytes
  have hml : c.maxLocals = 5 := hml0
  have hown : s.vm.findClass "java/lang/StringUTF16" = some m.cls := findClass_of_methodNamed Bd.named
  have hnm := (name_of_methodNamed Bd.named Bd.method).1
  have X0 : Stand p l e ({ frames := 2, cells := 1, slots := 2, locals := 24 } : Room) s m #[(.ref a1), (.int (0 : Int32)), (.int (1 : Int32))] below meth c s₁ [] 0 0 := Stand.of_body Bd
  have e0 : s₁.heap = h0 := by rw [← hh, Bd.state]; rfl
  have N0 := Fr.nil n0
  have pre0 : ∀ t, Steps p.tables e below (s₁.setTop (mkF m 0 #[vA a1, vI (0 : Int32), vI (1 : Int32), vU, vU] [])) t → Steps p.tables e below (s₁.setTop (entryFrame m #[(.ref a1), (.int (0 : Int32)), (.int (1 : Int32))] 5)) t := fun t k => castTop (ef_10 m a1 (0 : Int32) (1 : Int32)) k
  obtain ⟨_, _, ⟨T2, L2, k2, n2⟩, -, X2, ⟨Lc2, hQ2, l2, y2, z2⟩, st2⟩ := Jvm.LawKit.callS X0 hx (y := (⟨"java/lang/StringUTF16", "newBytesFor", "(I)[B"⟩ : MethodName)) hown (mvT hZ (hi 56 rfl)) (mvT hZ (hi 57 rfl)) (mvT hZ (hi 45 rfl)) (mvT hZ (hi 58 rfl)) (by decide) (backOf (W := 0) (rm11_1 l Z a0 hw []  h0 n0 Z0 ) hZ (hi 58 rfl) (hi 45 rfl) (by decide) (by decide)) (g := (mkF m 1 #[vA a1, vI (0 : Int32), vI (1 : Int32), vU, vU] [(.int (1 : Int32))])) rfl (by rw [hml]; rfl) (argsL := [(.int (1 : Int32))]) (rest := []) (lenOf pd__28I_29_5bB rfl) rfl (by show 2 * 0 + _ ≤ _; exact Nat.le_of_eq rfl) (hb hby d10_1) (fun _ _ => ⟨rfl, e0, (by decide : 0 + 1 ≤ _), (by decide : 0 + 2 ≤ _)⟩)
  dsimp only [Pt.U, Pt.locs, Pt.cells, Pt.slots] at X2 l2 y2 z2 st2 hQ2
  subst l2 y2 z2
  obtain ⟨b2_2, ⟨k2_2, ⟨rfl, N2q, K2, i2_0, i2_1⟩⟩⟩ := hQ2
  have N2 := Fr.app N0 N2q
  have sz_b2_2 : h0.size ≤ b2_2 := Nat.le_trans (Nat.le_refl h0.size) i2_0
  have g_b2_2 : n0 ≤ b2_2 := Nat.le_trans Z0 sz_b2_2
  have f0 := (V_a1.keep K2 own_n0)
  obtain ⟨cl_a1_1, Ar_a1_1, q_a1_1, Sz_a1_1, Ng_a1_1, Ha_a1_1, Gt_a1_1⟩ := id f0
  have hin_a1_1 : ¬ ((0 : Int32) < 0 ∨ cl_a1_1.slots.size ≤ ((0 : Int32)).toNatClampNeg) := inb_of Sz_a1_1 ⟨by decide, by decide⟩
  have hat_a1_1 : cl_a1_1.slots[((0 : Int32)).toNatClampNeg]? = some (.int x_a1_0) := (Ha_a1_1 _ (Nat.lt_of_not_le fun q => hin_a1_1 (Or.inr q))).trans (congrArg some (rfl : (([(.int x_a1_0)] : List Value)).getD ((0 : Int32)).toNatClampNeg (.int (0 : Int32)) = (.int x_a1_0)))
  have f2 := (own_sta_keep S__assertionsDisabled K2 own_q0)
  have f3 := (own_sta_keep S_HI_BYTE_SHIFT K2 own_q0)
  have f4 := (own_sta_keep S_LO_BYTE_SHIFT K2 own_q0)
  obtain ⟨_, _, ⟨T3, L3, k3, n3⟩, -, X3, ⟨Lc3, hQ3, l3, y3, z3⟩, st3⟩ := Jvm.LawKit.callS X2 hx (y := (⟨"java/lang/StringUTF16", "putChar", "([BII)V"⟩ : MethodName)) hown (mvT hZ (hi 63 rfl)) (mvT hZ (hi 64 rfl)) (mvT hZ (hi 45 rfl)) (mvT hZ (hi 65 rfl)) (by decide) (backOf (W := 0) (rm13_1_0 l Z a0 hw [] b2_2 x_a1_0 s__assertionsDisabled s_HI_BYTE_SHIFT s_LO_BYTE_SHIFT k2_2 (0 : Int32) (0 : Int32) T2.heap n0 (Nat.le_trans Z0 K2.1) hasd f2 f3 g_b2_2 f4 i2_1) hZ (hi 65 rfl) (hi 45 rfl) (by decide) (by decide)) (g := (mkF m 20 #[vA a1, vI (0 : Int32), vI (1 : Int32), vA b2_2, vI (0 : Int32)] [(.int x_a1_0), (.int (0 : Int32)), (.ref b2_2)])) rfl (by rw [hml]; rfl) (argsL := [(.ref b2_2), (.int (0 : Int32)), (.int x_a1_0)]) (rest := []) (lenOf pd__28_5bBII_29V rfl) rfl (by show 2 * 0 + _ ≤ _; exact Nat.le_of_eq rfl) (hb hby d10_20) (fun _ _ => ⟨rfl, rfl, (by decide : 1 + 0 ≤ _), (by decide : 2 + 0 ≤ _)⟩)
  dsimp only [Pt.U, Pt.locs, Pt.cells, Pt.slots] at X3 l3 y3 z3 st3 hQ3
  subst l3 y3 z3
  obtain ⟨rfl, N3q, K3, i3_0⟩ := hQ3
  have N3 := Fr.app N2 N3q
  obtain ⟨fs, hr, hrun, hended, hW, hsame⟩ := X3.leave (v := some (.ref b2_2)) (fun h => by rw [Bd.returns] at h; cases h)
  refine ⟨_, _, pre0 _ ?_, hrun, hended, _, _, rfl, ?_, ⟨_, rfl⟩, hW, hsame.mono (by decide) (by decide)⟩
  · show Steps p.tables e below (s₁.setTop (mkF m 0 #[vA a1, vI (0 : Int32), vI (1 : Int32), vU, vU] [])) _
    refine XS.iloadN X0.here hx rfl (hb hby d10_0) rfl ?_
    show Steps p.tables e below (s₁.setTop (mkF m 1 #[vA a1, vI (0 : Int32), vI (1 : Int32), vU, vU] [(.int (1 : Int32))])) _
    refine st2 _ ?_
    refine XS.astoreN X2.here hx rfl (hb hby d10_4) rfl rfl (l' := #[vA a1, vI (0 : Int32), vI (1 : Int32), vA b2_2, vU]) rfl ?_
    refine XS.iconst X2.here hx rfl (hb hby d10_5) ?_
    refine XS.istore X2.here hx rfl (hb hby d10_6) rfl (l' := #[vA a1, vI (0 : Int32), vI (1 : Int32), vA b2_2, vI (0 : Int32)]) rfl ?_
    refine XS.iload X2.here hx rfl (hb hby d10_8) rfl ?_
    refine XS.iloadN X2.here hx rfl (hb hby d10_10) rfl ?_
    show Steps p.tables e below (T2.setTop (mkF m 11 #[vA a1, vI (0 : Int32), vI (1 : Int32), vA b2_2, vI (0 : Int32)] [(.int (1 : Int32)), (.int (0 : Int32))])) _
    refine XS.icmpNo X2.here hx rfl (hb hby d10_11) rfl (tlt (by decide : (0 : Int32) < (1 : Int32))).2.1 ?_
    refine XS.aloadN X2.here hx rfl (hb hby d10_14) rfl rfl ?_
    refine XS.iload X2.here hx rfl (hb hby d10_15) rfl ?_
    refine XS.aloadN X2.here hx rfl (hb hby d10_17) rfl rfl ?_
    refine XS.iloadN X2.here hx rfl (hb hby d10_18) rfl ?_
    show Steps p.tables e below (T2.setTop (mkF m 19 #[vA a1, vI (0 : Int32), vI (1 : Int32), vA b2_2, vI (0 : Int32)] [(.int (0 : Int32)), (.ref a1), (.int (0 : Int32)), (.ref b2_2)])) _
    refine X2.caload hx (j := (0 : Int32)) (v := (.int x_a1_0)) (by exact Ar_a1_1.1) (State.isArrayOf_alike hZ.alike Ar_a1_1.2.1) Ar_a1_1.2.2 hin_a1_1 hat_a1_1 (g := (mkF m 19 #[vA a1, vI (0 : Int32), vI (1 : Int32), vA b2_2, vI (0 : Int32)] [(.int (0 : Int32)), (.ref a1), (.int (0 : Int32)), (.ref b2_2)])) rfl rfl (hb hby d10_19) _ ?_
    show Steps p.tables e below (T2.setTop (mkF m 20 #[vA a1, vI (0 : Int32), vI (1 : Int32), vA b2_2, vI (0 : Int32)] [(.int x_a1_0), (.int (0 : Int32)), (.ref b2_2)])) _
    refine st3 _ ?_
    refine XS.iinc X3.here hx rfl (hb hby d10_23) rfl (l' := #[vA a1, vI (1 : Int32), vI (1 : Int32), vA b2_2, vI (0 : Int32)]) rfl ?_
    refine XS.iinc X3.here hx rfl (hb hby d10_26) rfl (l' := #[vA a1, vI (1 : Int32), vI (1 : Int32), vA b2_2, vI (1 : Int32)]) rfl ?_
    show Steps p.tables e below (T3.setTop (mkF m 29 #[vA a1, vI (1 : Int32), vI (1 : Int32), vA b2_2, vI (1 : Int32)] [])) _
    refine XS.goto X3.here hx rfl (pc0 := 29) (pc' := 8) rfl (hb hby d10_29) (by decide) (by decide) ?_
    refine XS.iload X3.here hx rfl (hb hby d10_8) rfl ?_
    refine XS.iloadN X3.here hx rfl (hb hby d10_10) rfl ?_
    show Steps p.tables e below (T3.setTop (mkF m 11 #[vA a1, vI (1 : Int32), vI (1 : Int32), vA b2_2, vI (1 : Int32)] [(.int (1 : Int32)), (.int (1 : Int32))])) _
    refine XS.icmpYes X3.here hx rfl (pc0 := 11) (pc' := 32) rfl (hb hby d10_11) rfl (flt (fun q => Int32.lt_irrefl q : ¬ ((1 : Int32) < (1 : Int32)))).2.1 (by decide) (by decide) ?_
    refine XS.aloadN X3.here hx rfl (hb hby d10_32) rfl rfl ?_
    show Steps p.tables e below (T3.setTop (mkF m 33 #[vA a1, vI (1 : Int32), vI (1 : Int32), vA b2_2, vI (1 : Int32)] [(.ref b2_2)])) _
    jvm_step X3.here [X3.here.top, hx, (hb hby d10_33), X3.method', Bd.returns, Value.isRef, FieldType.isReference]
    first | (intro acts; rw [hr _ acts rfl rfl rfl]) | rw [hr _ _ rfl rfl rfl]
    exact Steps.refl _
  · show Q_rm10_1 Z a1 s__assertionsDisabled s_HI_BYTE_SHIFT s_LO_BYTE_SHIFT k_a1 x_a1_0 h0 n0 _ T3.heap _
    exact ⟨b2_2, ⟨k2_2, ⟨rfl, N3, (((Keep.refl h0 []).trans K2 (fun _ q => nomatch q)).trans K3 (fun x q => (List.mem_cons.mp q).elim (fun r => r ▸ (Or.inr sz_b2_2)) ((fun _ q => nomatch q) x))), sz_b2_2, i3_0⟩⟩⟩
theorem d8_0 : decode jdk_52_method_21_code 0 = .ok (.iconst 0, 1) := by decide +kernel
theorem d8_1 : decode jdk_52_method_21_code 1 = .ok (.istore 5, 2) := by decide +kernel
theorem d8_3 : decode jdk_52_method_21_code 3 = .ok (.iload 5, 2) := by decide +kernel
theorem d8_5 : decode jdk_52_method_21_code 5 = .ok (.iload 4, 2) := by decide +kernel
theorem d8_7 : decode jdk_52_method_21_code 7 = .ok (.if_icmp .ge 37, 3) := by decide +kernel
theorem d8_10 : decode jdk_52_method_21_code 10 = .ok (.aload_n 0, 1) := by decide +kernel
theorem d8_11 : decode jdk_52_method_21_code 11 = .ok (.iload_n 1, 1) := by decide +kernel
theorem d8_12 : decode jdk_52_method_21_code 12 = .ok (.caload, 1) := by decide +kernel
theorem d8_13 : decode jdk_52_method_21_code 13 = .ok (.istore 6, 2) := by decide +kernel
theorem d8_15 : decode jdk_52_method_21_code 15 = .ok (.iload 6, 2) := by decide +kernel
theorem d8_17 : decode jdk_52_method_21_code 17 = .ok (.sipush 255, 3) := by decide +kernel
theorem d8_20 : decode jdk_52_method_21_code 20 = .ok (.if_icmp .le 6, 3) := by decide +kernel
theorem d8_23 : decode jdk_52_method_21_code 23 = .ok (.iload 5, 2) := by decide +kernel
theorem d8_25 : decode jdk_52_method_21_code 25 = .ok (.ireturn, 1) := by decide +kernel
theorem pn_8 : plainName "java/lang/StringUTF16" = true := by first | (simp [plainName, overriddenIn]; done) | decide +kernel
theorem ef_8 (m : MethodId) (x0 : Addr) (x1 : Int32) (x2 : Addr) (x3 : Int32) (x4 : Int32) : entryFrame m #[(.ref x0), (.int x1), (.ref x2), (.int x3), (.int x4)] 7 = mkF m 0 #[.val (.ref x0), .val (.int x1), .val (.ref x2), .val (.int x3), .val (.int x4), .unset, .unset] [] := by first | (simp [entryFrame, mkF, argsToLocals, Value.category]; done) | rfl
def Q_rm8_1_0 (Z : State) (a1 : Addr) (a2 : Addr) (k_a1 : ClassId) (x_a1_0 : Int32) (k_a2 : ClassId) (x_a2_0 : Int32) (h0 : Heap) (n0 : Nat) (v : Option Value) (h : Heap) (L : List Loc) : Prop := v = some (.int (0 : Int32)) ∧ Fr n0 L ∧ h = h0
set_option maxRecDepth 65536 in
set_option maxHeartbeats 40000000 in
theorem rm8_1_0 (l : Launch) (Z : State) (a0 : Array Value) (hw : ∀ d ∈ tables_1, d.before a0 Z = true) (ws : List Jvm.Cond) (a1 : Addr) (a2 : Addr) (k_a1 : ClassId) (x_a1_0 : Int32) (k_a2 : ClassId) (x_a2_0 : Int32) (h0 : Heap) (n0 : Nat) (Z0 : n0 ≤ h0.size) (V_a1 : Arv Z h0 a1 k_a1 .char (1 : Int32) [(.int x_a1_0)] (.int (0 : Int32))) (V_a2 : Arv Z h0 a2 k_a2 .byte (1 : Int32) [(.int x_a2_0)] (.int (0 : Int32))) (hc20 : (255 : Int32) < x_a1_0) :
    MetFree l (⟨"java/lang/StringUTF16", "compress", "([CI[BII)I"⟩ : MethodName) (head1 (Jvm.Cond.code (⟨"java/lang/StringUTF16", "compress", "([CI[BII)I"⟩ : MethodName) jdk_52_method_21_code 7 (some .int) :: ws) ({ frames := 0, cells := 0, slots := 0, locals := 0 } : Room)) (fun a U => a = #[(.ref a1), (.int (0 : Int32)), (.ref a2), (.int (0 : Int32)), (.int (1 : Int32))] ∧ Z.Warmed39 U.vm ∧ U.heap = h0) (fun _ _ _ _ _ => True) (fun _ U o U' => ∃ v L, o = .returned v ∧ Q_rm8_1_0 Z a1 a2 k_a1 x_a1_0 k_a2 x_a2_0 h0 n0 v U'.heap L ∧ FrameEnd U o U' L ({ frames := 0, cells := 0, slots := 0, locals := 0 } : Room).cells ({ frames := 0, cells := 0, slots := 0, locals := 0 } : Room).slots) := by
  have hi : ∀ (i : Nat) {d : Jvm.Cond}, tables_1[i]? = some d → d.before a0 Z = true := fun i d h => hw d (List.mem_of_getElem? h)
  refine MetFree.of_bodySF (plainFor_of_name pn_8) hisR ?_
  intro p e s m args below meth c s₁ Bd hml0 hP hK
  obtain ⟨rfl, hZ, hh⟩ := hP
  have hx := Bd.exec
  have hby := Bd.bytes
  have hml : c.maxLocals = 7 := hml0
  have hown : s.vm.findClass "java/lang/StringUTF16" = some m.cls := findClass_of_methodNamed Bd.named
  have hnm := (name_of_methodNamed Bd.named Bd.method).1
  have X0 : Stand p l e ({ frames := 0, cells := 0, slots := 0, locals := 0 } : Room) s m #[(.ref a1), (.int (0 : Int32)), (.ref a2), (.int (0 : Int32)), (.int (1 : Int32))] below meth c s₁ [] 0 0 := Stand.of_body Bd
  have e0 : s₁.heap = h0 := by rw [← hh, Bd.state]; rfl
  have N0 := Fr.nil n0
  have pre0 : ∀ t, Steps p.tables e below (s₁.setTop (mkF m 0 #[vA a1, vI (0 : Int32), vA a2, vI (0 : Int32), vI (1 : Int32), vU, vU] [])) t → Steps p.tables e below (s₁.setTop (entryFrame m #[(.ref a1), (.int (0 : Int32)), (.ref a2), (.int (0 : Int32)), (.int (1 : Int32))] 7)) t := fun t k => castTop (ef_8 m a1 (0 : Int32) a2 (0 : Int32) (1 : Int32)) k
  obtain ⟨cl_a1_0, Ar_a1_0, q_a1_0, Sz_a1_0, Ng_a1_0, Ha_a1_0, Gt_a1_0⟩ := id V_a1
  have hin_a1_0 : ¬ ((0 : Int32) < 0 ∨ cl_a1_0.slots.size ≤ ((0 : Int32)).toNatClampNeg) := inb_of Sz_a1_0 ⟨by decide, by decide⟩
  have hat_a1_0 : cl_a1_0.slots[((0 : Int32)).toNatClampNeg]? = some (.int x_a1_0) := (Ha_a1_0 _ (Nat.lt_of_not_le fun q => hin_a1_0 (Or.inr q))).trans (congrArg some (rfl : (([(.int x_a1_0)] : List Value)).getD ((0 : Int32)).toNatClampNeg (.int (0 : Int32)) = (.int x_a1_0)))
  obtain ⟨fs, hr, hrun, hended, hW, hsame⟩ := X0.leave (v := some (.int (0 : Int32))) (fun h => by rw [Bd.returns] at h; cases h)
  refine ⟨_, _, pre0 _ ?_, hrun, hended, _, _, rfl, ?_, ⟨_, rfl⟩, hW, hsame.mono (by decide) (by decide)⟩
  · show Steps p.tables e below (s₁.setTop (mkF m 0 #[vA a1, vI (0 : Int32), vA a2, vI (0 : Int32), vI (1 : Int32), vU, vU] [])) _
    refine XS.iconst X0.here hx rfl (hb hby d8_0) ?_
    refine XS.istore X0.here hx rfl (hb hby d8_1) rfl (l' := #[vA a1, vI (0 : Int32), vA a2, vI (0 : Int32), vI (1 : Int32), vI (0 : Int32), vU]) rfl ?_
    refine XS.iload X0.here hx rfl (hb hby d8_3) rfl ?_
    refine XS.iload X0.here hx rfl (hb hby d8_5) rfl ?_
    show Steps p.tables e below (s₁.setTop (mkF m 7 #[vA a1, vI (0 : Int32), vA a2, vI (0 : Int32), vI (1 : Int32), vI (0 : Int32), vU] [(.int (1 : Int32)), (.int (0 : Int32))])) _
    refine XS.icmpNo X0.here hx rfl (hb hby d8_7) rfl (tlt (by decide : (0 : Int32) < (1 : Int32))).2.1 ?_
    refine XS.aloadN X0.here hx rfl (hb hby d8_10) rfl rfl ?_
    refine XS.iloadN X0.here hx rfl (hb hby d8_11) rfl ?_
    show Steps p.tables e below (s₁.setTop (mkF m 12 #[vA a1, vI (0 : Int32), vA a2, vI (0 : Int32), vI (1 : Int32), vI (0 : Int32), vU] [(.int (0 : Int32)), (.ref a1)])) _
    refine X0.caload hx (j := (0 : Int32)) (v := (.int x_a1_0)) (by rw [e0]; exact Ar_a1_0.1) (State.isArrayOf_alike hZ.alike Ar_a1_0.2.1) Ar_a1_0.2.2 hin_a1_0 hat_a1_0 (g := (mkF m 12 #[vA a1, vI (0 : Int32), vA a2, vI (0 : Int32), vI (1 : Int32), vI (0 : Int32), vU] [(.int (0 : Int32)), (.ref a1)])) rfl rfl (hb hby d8_12) _ ?_
    refine XS.istore X0.here hx rfl (hb hby d8_13) rfl (l' := #[vA a1, vI (0 : Int32), vA a2, vI (0 : Int32), vI (1 : Int32), vI (0 : Int32), vI x_a1_0]) rfl ?_
    refine XS.iload X0.here hx rfl (hb hby d8_15) rfl ?_
    refine XS.sipush X0.here hx rfl (hb hby d8_17) ?_
    show Steps p.tables e below (s₁.setTop (mkF m 20 #[vA a1, vI (0 : Int32), vA a2, vI (0 : Int32), vI (1 : Int32), vI (0 : Int32), vI x_a1_0] [(.int (255 : Int32)), (.int x_a1_0)])) _
    refine XS.icmpNo X0.here hx rfl (hb hby d8_20) rfl (tlt hc20).2.2.2 ?_
    refine XS.iload X0.here hx rfl (hb hby d8_23) rfl ?_
    show Steps p.tables e below (s₁.setTop (mkF m 25 #[vA a1, vI (0 : Int32), vA a2, vI (0 : Int32), vI (1 : Int32), vI (0 : Int32), vI x_a1_0] [(.int (0 : Int32))])) _
    exact retI X0 hx Bd.returns (hb hby d8_25) hr
  · show Q_rm8_1_0 Z a1 a2 k_a1 x_a1_0 k_a2 x_a2_0 h0 n0 _ s₁.heap _
    exact ⟨rfl, N0, e0⟩
theorem pd__28_5bCI_5bBII_29I : parseMethodDescriptor "([CI[BII)I" = some ⟨[(.array .char), .int, (.array .byte), .int, .int], some .int⟩ := by decide +kernel
theorem pd__28_5bCII_29_5bB : parseMethodDescriptor "([CII)[B" = some ⟨[(.array .char), .int, .int], some (.array .byte)⟩ := by decide +kernel
theorem pd__28_5bBI_29C : parseMethodDescriptor "([BI)C" = some ⟨[(.array .byte), .int], some .char⟩ := by decide +kernel
theorem d8_26 : decode jdk_52_method_21_code 26 = .ok (.aload_n 2, 1) := by decide +kernel
theorem d8_27 : decode jdk_52_method_21_code 27 = .ok (.iload_n 3, 1) := by decide +kernel
theorem d8_28 : decode jdk_52_method_21_code 28 = .ok (.iload 6, 2) := by decide +kernel
theorem d8_30 : decode jdk_52_method_21_code 30 = .ok (.i2b, 1) := by decide +kernel
theorem d8_31 : decode jdk_52_method_21_code 31 = .ok (.bastore, 1) := by decide +kernel
theorem d8_32 : decode jdk_52_method_21_code 32 = .ok (.iinc 1 1, 3) := by decide +kernel
theorem d8_35 : decode jdk_52_method_21_code 35 = .ok (.iinc 3 1, 3) := by decide +kernel
theorem d8_38 : decode jdk_52_method_21_code 38 = .ok (.iinc 5 1, 3) := by decide +kernel
theorem d8_41 : decode jdk_52_method_21_code 41 = .ok (.goto (-38), 3) := by decide +kernel
theorem d8_44 : decode jdk_52_method_21_code 44 = .ok (.iload 4, 2) := by decide +kernel
theorem d8_46 : decode jdk_52_method_21_code 46 = .ok (.ireturn, 1) := by decide +kernel
def Q_rm8_1_1 (Z : State) (a1 : Addr) (a2 : Addr) (k_a1 : ClassId) (x_a1_0 : Int32) (k_a2 : ClassId) (x_a2_0 : Int32) (h0 : Heap) (n0 : Nat) (v : Option Value) (h : Heap) (L : List Loc) : Prop := v = some (.int (1 : Int32)) ∧ Fr n0 L ∧ Keep h0 h [a2] ∧ Arv Z h a2 k_a2 .byte (1 : Int32) [(.int (nar .byte (x_a1_0.toInt8.toInt32)))] (.int (0 : Int32))
set_option maxRecDepth 65536 in
set_option maxHeartbeats 40000000 in
theorem rm8_1_1 (l : Launch) (Z : State) (a0 : Array Value) (hw : ∀ d ∈ tables_1, d.before a0 Z = true) (ws : List Jvm.Cond) (a1 : Addr) (a2 : Addr) (k_a1 : ClassId) (x_a1_0 : Int32) (k_a2 : ClassId) (x_a2_0 : Int32) (h0 : Heap) (n0 : Nat) (Z0 : n0 ≤ h0.size) (g_a2 : n0 ≤ a2) (V_a1 : Arv Z h0 a1 k_a1 .char (1 : Int32) [(.int x_a1_0)] (.int (0 : Int32))) (V_a2 : Arv Z h0 a2 k_a2 .byte (1 : Int32) [(.int x_a2_0)] (.int (0 : Int32))) (hc20 : ¬ ((255 : Int32) < x_a1_0)) :
    MetFree l (⟨"java/lang/StringUTF16", "compress", "([CI[BII)I"⟩ : MethodName) (head1 (Jvm.Cond.code (⟨"java/lang/StringUTF16", "compress", "([CI[BII)I"⟩ : MethodName) jdk_52_method_21_code 7 (some .int) :: ws) ({ frames := 0, cells := 0, slots := 0, locals := 0 } : Room)) (fun a U => a = #[(.ref a1), (.int (0 : Int32)), (.ref a2), (.int (0 : Int32)), (.int (1 : Int32))] ∧ Z.Warmed39 U.vm ∧ U.heap = h0) (fun _ _ _ _ _ => True) (fun _ U o U' => ∃ v L, o = .returned v ∧ Q_rm8_1_1 Z a1 a2 k_a1 x_a1_0 k_a2 x_a2_0 h0 n0 v U'.heap L ∧ FrameEnd U o U' L ({ frames := 0, cells := 0, slots := 0, locals := 0 } : Room).cells ({ frames := 0, cells := 0, slots := 0, locals := 0 } : Room).slots) := by
  have hi : ∀ (i : Nat) {d : Jvm.Cond}, tables_1[i]? = some d → d.before a0 Z = true := fun i d h => hw d (List.mem_of_getElem? h)
  refine MetFree.of_bodySF (plainFor_of_name pn_8) hisR ?_
  intro p e s m args below meth c s₁ Bd hml0 hP hK
  obtain ⟨rfl, hZ, hh⟩ := hP
  have hx := Bd.exec
  have hby := Bd.bytes
  have hml : c.maxLocals = 7 := hml0
  have hown : s.vm.findClass "java/lang/StringUTF16" = some m.cls := findClass_of_methodNamed Bd.named
  have hnm := (name_of_methodNamed Bd.named Bd.method).1
  have X0 : Stand p l e ({ frames := 0, cells := 0, slots := 0, locals := 0 } : Room) s m #[(.ref a1), (.int (0 : Int32)), (.ref a2), (.int (0 : Int32)), (.int (1 : Int32))] below meth c s₁ [] 0 0 := Stand.of_body Bd
  have e0 : s₁.heap = h0 := by rw [← hh, Bd.state]; rfl
  have N0 := Fr.nil n0
  have pre0 : ∀ t, Steps p.tables e below (s₁.setTop (mkF m 0 #[vA a1, vI (0 : Int32), vA a2, vI (0 : Int32), vI (1 : Int32), vU, vU] [])) t → Steps p.tables e below (s₁.setTop (entryFrame m #[(.ref a1), (.int (0 : Int32)), (.ref a2), (.int (0 : Int32)), (.int (1 : Int32))] 7)) t := fun t k => castTop (ef_8 m a1 (0 : Int32) a2 (0 : Int32) (1 : Int32)) k
  obtain ⟨cl_a1_0, Ar_a1_0, q_a1_0, Sz_a1_0, Ng_a1_0, Ha_a1_0, Gt_a1_0⟩ := id V_a1
  have hin_a1_0 : ¬ ((0 : Int32) < 0 ∨ cl_a1_0.slots.size ≤ ((0 : Int32)).toNatClampNeg) := inb_of Sz_a1_0 ⟨by decide, by decide⟩
  have hat_a1_0 : cl_a1_0.slots[((0 : Int32)).toNatClampNeg]? = some (.int x_a1_0) := (Ha_a1_0 _ (Nat.lt_of_not_le fun q => hin_a1_0 (Or.inr q))).trans (congrArg some (rfl : (([(.int x_a1_0)] : List Value)).getD ((0 : Int32)).toNatClampNeg (.int (0 : Int32)) = (.int x_a1_0)))
  obtain ⟨cl_a2_1, Ar_a2_1, q_a2_1, Sz_a2_1, Ng_a2_1, Ha_a2_1, Gt_a2_1⟩ := id V_a2
  have hin_a2_1 : ¬ ((0 : Int32) < 0 ∨ cl_a2_1.slots.size ≤ ((0 : Int32)).toNatClampNeg) := inb_of Sz_a2_1 ⟨by decide, by decide⟩
  obtain ⟨T3, h3, X3, e3, W3, st3⟩ := stB X0 hx hZ e0 Ar_a2_1 (j := (0 : Int32)) hin_a2_1 (g := (mkF m 31 #[vA a1, vI (0 : Int32), vA a2, vI (0 : Int32), vI (1 : Int32), vI (0 : Int32), vI x_a1_0] [(.int (x_a1_0.toInt8.toInt32)), (.int (0 : Int32)), (.ref a2)])) rfl rfl (hb hby d8_31)
  have V3 : Arv Z h3 a2 k_a2 .byte (1 : Int32) [(.int (nar .byte (x_a1_0.toInt8.toInt32)))] (.int (0 : Int32)) := Arv.set Ar_a2_1 q_a2_1 Sz_a2_1 Ng_a2_1 Ha_a2_1 Gt_a2_1 (fits_nar_byte _) W3 0 rfl (Nat.le_of_ble_eq_true rfl)
  have N3 := Fr.snoc X3 N0 g_a2
  obtain ⟨fs, hr, hrun, hended, hW, hsame⟩ := X3.leave (v := some (.int (1 : Int32))) (fun h => by rw [Bd.returns] at h; cases h)
  refine ⟨_, _, pre0 _ ?_, hrun, hended, _, _, rfl, ?_, ⟨_, rfl⟩, hW, hsame.mono (by decide) (by decide)⟩
  · show Steps p.tables e below (s₁.setTop (mkF m 0 #[vA a1, vI (0 : Int32), vA a2, vI (0 : Int32), vI (1 : Int32), vU, vU] [])) _
    refine XS.iconst X0.here hx rfl (hb hby d8_0) ?_
    refine XS.istore X0.here hx rfl (hb hby d8_1) rfl (l' := #[vA a1, vI (0 : Int32), vA a2, vI (0 : Int32), vI (1 : Int32), vI (0 : Int32), vU]) rfl ?_
    refine XS.iload X0.here hx rfl (hb hby d8_3) rfl ?_
    refine XS.iload X0.here hx rfl (hb hby d8_5) rfl ?_
    show Steps p.tables e below (s₁.setTop (mkF m 7 #[vA a1, vI (0 : Int32), vA a2, vI (0 : Int32), vI (1 : Int32), vI (0 : Int32), vU] [(.int (1 : Int32)), (.int (0 : Int32))])) _
    refine XS.icmpNo X0.here hx rfl (hb hby d8_7) rfl (tlt (by decide : (0 : Int32) < (1 : Int32))).2.1 ?_
    refine XS.aloadN X0.here hx rfl (hb hby d8_10) rfl rfl ?_
    refine XS.iloadN X0.here hx rfl (hb hby d8_11) rfl ?_
    show Steps p.tables e below (s₁.setTop (mkF m 12 #[vA a1, vI (0 : Int32), vA a2, vI (0 : Int32), vI (1 : Int32), vI (0 : Int32), vU] [(.int (0 : Int32)), (.ref a1)])) _
    refine X0.caload hx (j := (0 : Int32)) (v := (.int x_a1_0)) (by rw [e0]; exact Ar_a1_0.1) (State.isArrayOf_alike hZ.alike Ar_a1_0.2.1) Ar_a1_0.2.2 hin_a1_0 hat_a1_0 (g := (mkF m 12 #[vA a1, vI (0 : Int32), vA a2, vI (0 : Int32), vI (1 : Int32), vI (0 : Int32), vU] [(.int (0 : Int32)), (.ref a1)])) rfl rfl (hb hby d8_12) _ ?_
    refine XS.istore X0.here hx rfl (hb hby d8_13) rfl (l' := #[vA a1, vI (0 : Int32), vA a2, vI (0 : Int32), vI (1 : Int32), vI (0 : Int32), vI x_a1_0]) rfl ?_
    refine XS.iload X0.here hx rfl (hb hby d8_15) rfl ?_
    refine XS.sipush X0.here hx rfl (hb hby d8_17) ?_
    show Steps p.tables e below (s₁.setTop (mkF m 20 #[vA a1, vI (0 : Int32), vA a2, vI (0 : Int32), vI (1 : Int32), vI (0 : Int32), vI x_a1_0] [(.int (255 : Int32)), (.int x_a1_0)])) _
    refine XS.icmpYes X0.here hx rfl (pc0 := 20) (pc' := 26) rfl (hb hby d8_20) rfl (flt hc20).2.2.2 (by decide) (by decide) ?_
    refine XS.aloadN X0.here hx rfl (hb hby d8_26) rfl rfl ?_
    refine XS.iloadN X0.here hx rfl (hb hby d8_27) rfl ?_
    refine XS.iload X0.here hx rfl (hb hby d8_28) rfl ?_
    refine XS.i2b X0.here hx rfl (hb hby d8_30) rfl ?_
    show Steps p.tables e below (s₁.setTop (mkF m 31 #[vA a1, vI (0 : Int32), vA a2, vI (0 : Int32), vI (1 : Int32), vI (0 : Int32), vI x_a1_0] [(.int (x_a1_0.toInt8.toInt32)), (.int (0 : Int32)), (.ref a2)])) _
    refine st3 _ ?_
    refine XS.iinc X3.here hx rfl (hb hby d8_32) rfl (l' := #[vA a1, vI (1 : Int32), vA a2, vI (0 : Int32), vI (1 : Int32), vI (0 : Int32), vI x_a1_0]) rfl ?_
    refine XS.iinc X3.here hx rfl (hb hby d8_35) rfl (l' := #[vA a1, vI (1 : Int32), vA a2, vI (1 : Int32), vI (1 : Int32), vI (0 : Int32), vI x_a1_0]) rfl ?_
    refine XS.iinc X3.here hx rfl (hb hby d8_38) rfl (l' := #[vA a1, vI (1 : Int32), vA a2, vI (1 : Int32), vI (1 : Int32), vI (1 : Int32), vI x_a1_0]) rfl ?_
    show Steps p.tables e below (T3.setTop (mkF m 41 #[vA a1, vI (1 : Int32), vA a2, vI (1 : Int32), vI (1 : Int32), vI (1 : Int32), vI x_a1_0] [])) _
    refine XS.goto X3.here hx rfl (pc0 := 41) (pc' := 3) rfl (hb hby d8_41) (by decide) (by decide) ?_
    refine XS.iload X3.here hx rfl (hb hby d8_3) rfl ?_
    refine XS.iload X3.here hx rfl (hb hby d8_5) rfl ?_
    show Steps p.tables e below (T3.setTop (mkF m 7 #[vA a1, vI (1 : Int32), vA a2, vI (1 : Int32), vI (1 : Int32), vI (1 : Int32), vI x_a1_0] [(.int (1 : Int32)), (.int (1 : Int32))])) _
    refine XS.icmpYes X3.here hx rfl (pc0 := 7) (pc' := 44) rfl (hb hby d8_7) rfl (flt (fun q => Int32.lt_irrefl q : ¬ ((1 : Int32) < (1 : Int32)))).2.1 (by decide) (by decide) ?_
    refine XS.iload X3.here hx rfl (hb hby d8_44) rfl ?_
    show Steps p.tables e below (T3.setTop (mkF m 46 #[vA a1, vI (1 : Int32), vA a2, vI (1 : Int32), vI (1 : Int32), vI (1 : Int32), vI x_a1_0] [(.int (1 : Int32))])) _
    exact retI X3 hx Bd.returns (hb hby d8_46) hr
  · show Q_rm8_1_1 Z a1 a2 k_a1 x_a1_0 k_a2 x_a2_0 h0 n0 _ T3.heap _
    rw [e3]
    exact ⟨rfl, N3, ((Keep.refl h0 [a2]).wr W3 (Or.inl (List.mem_of_getElem? (i := 0) rfl))), V3⟩
def t7_0 (s_HI_BYTE_SHIFT : Int32) (s_LO_BYTE_SHIFT : Int32) (x_a1_0 : Int32) : Int32 := (nar .char (t14_1 s_HI_BYTE_SHIFT s_LO_BYTE_SHIFT (nar .byte ((x_a1_0 >>> (s_HI_BYTE_SHIFT &&& 31)).toInt8.toInt32)) (nar .byte ((x_a1_0 >>> (s_LO_BYTE_SHIFT &&& 31)).toInt8.toInt32))))
theorem d7_0 : decode jdk_52_method_16_code 0 = .ok (.iload_n 2, 1) := by decide +kernel
theorem d7_1 : decode jdk_52_method_16_code 1 = .ok (.newarray .byte, 2) := by decide +kernel
theorem d7_3 : decode jdk_52_method_16_code 3 = .ok (.astore_n 3, 1) := by decide +kernel
theorem d7_4 : decode jdk_52_method_16_code 4 = .ok (.aload_n 0, 1) := by decide +kernel
theorem d7_5 : decode jdk_52_method_16_code 5 = .ok (.iload_n 1, 1) := by decide +kernel
theorem d7_6 : decode jdk_52_method_16_code 6 = .ok (.aload_n 3, 1) := by decide +kernel
theorem d7_7 : decode jdk_52_method_16_code 7 = .ok (.iconst 0, 1) := by decide +kernel
theorem d7_8 : decode jdk_52_method_16_code 8 = .ok (.iload_n 2, 1) := by decide +kernel
theorem d7_9 : decode jdk_52_method_16_code 9 = .ok (.invokestatic 115, 3) := by decide +kernel
theorem d7_12 : decode jdk_52_method_16_code 12 = .ok (.istore 4, 2) := by decide +kernel
theorem d7_14 : decode jdk_52_method_16_code 14 = .ok (.iload 4, 2) := by decide +kernel
theorem d7_16 : decode jdk_52_method_16_code 16 = .ok (.iload_n 2, 1) := by decide +kernel
theorem d7_17 : decode jdk_52_method_16_code 17 = .ok (.if_icmp .eq 40, 3) := by decide +kernel
theorem d7_20 : decode jdk_52_method_16_code 20 = .ok (.aload_n 0, 1) := by decide +kernel
theorem d7_21 : decode jdk_52_method_16_code 21 = .ok (.iload_n 1, 1) := by decide +kernel
theorem d7_22 : decode jdk_52_method_16_code 22 = .ok (.iload_n 2, 1) := by decide +kernel
theorem d7_23 : decode jdk_52_method_16_code 23 = .ok (.invokestatic 119, 3) := by decide +kernel
theorem d7_26 : decode jdk_52_method_16_code 26 = .ok (.astore 5, 2) := by decide +kernel
theorem d7_28 : decode jdk_52_method_16_code 28 = .ok (.aload 5, 2) := by decide +kernel
theorem d7_30 : decode jdk_52_method_16_code 30 = .ok (.iload 4, 2) := by decide +kernel
theorem d7_32 : decode jdk_52_method_16_code 32 = .ok (.invokestatic 71, 3) := by decide +kernel
theorem d7_35 : decode jdk_52_method_16_code 35 = .ok (.sipush 255, 3) := by decide +kernel
theorem d7_38 : decode jdk_52_method_16_code 38 = .ok (.if_icmp .gt 16, 3) := by decide +kernel
theorem d7_54 : decode jdk_52_method_16_code 54 = .ok (.aload 5, 2) := by decide +kernel
theorem d7_56 : decode jdk_52_method_16_code 56 = .ok (.areturn, 1) := by decide +kernel
theorem pn_7 : plainName "java/lang/StringUTF16" = true := by first | (simp [plainName, overriddenIn]; done) | decide +kernel
theorem ef_7 (m : MethodId) (x0 : Addr) (x1 : Int32) (x2 : Int32) : entryFrame m #[(.ref x0), (.int x1), (.int x2)] 6 = mkF m 0 #[.val (.ref x0), .val (.int x1), .val (.int x2), .unset, .unset, .unset] [] := by first | (simp [entryFrame, mkF, argsToLocals, Value.category]; done) | rfl
theorem d7_57 : decode jdk_52_method_16_code 57 = .ok (.aload_n 3, 1) := by decide +kernel
theorem d7_58 : decode jdk_52_method_16_code 58 = .ok (.areturn, 1) := by decide +kernel
def Q_rm7_1 (Z : State) (a1 : Addr) (s__assertionsDisabled : Int32) (s_HI_BYTE_SHIFT : Int32) (s_LO_BYTE_SHIFT : Int32) (k_a1 : ClassId) (x_a1_0 : Int32) (h0 : Heap) (n0 : Nat) (v : Option Value) (h : Heap) (L : List Loc) : Prop := ∃ b : Addr, ∃ k : ClassId, ∃ zz : Int32, ∃ vs : List Value, v = some (.ref b) ∧ Fr n0 L ∧ Keep h0 h [] ∧ h0.size ≤ b ∧ Arv Z h b k .byte zz vs (.int (0 : Int32)) ∧ (zz = (1 : Int32) ∨ zz = (2 : Int32))
set_option maxRecDepth 65536 in
set_option maxHeartbeats 40000000 in
theorem rm7_1_k0 (l : Launch) (Z : State) (a0 : Array Value) (hw : ∀ d ∈ tables_1, d.before a0 Z = true) (ws : List Jvm.Cond) (a1 : Addr) (s__assertionsDisabled : Int32) (s_HI_BYTE_SHIFT : Int32) (s_LO_BYTE_SHIFT : Int32) (k_a1 : ClassId) (x_a1_0 : Int32) (h0 : Heap) (n0 : Nat) (Z0 : n0 ≤ h0.size) (hasd : ¬ (s__assertionsDisabled = (0 : Int32))) (hhi : s_HI_BYTE_SHIFT = (0 : Int32)) (hlo : s_LO_BYTE_SHIFT = (8 : Int32)) (hch0 : nar .char x_a1_0 = x_a1_0) (S__assertionsDisabled : Sta Z h0 "java/lang/StringUTF16" "$assertionsDisabled" "Z" (.int s__assertionsDisabled)) (S_HI_BYTE_SHIFT : Sta Z h0 "java/lang/StringUTF16" "HI_BYTE_SHIFT" "I" (.int s_HI_BYTE_SHIFT)) (S_LO_BYTE_SHIFT : Sta Z h0 "java/lang/StringUTF16" "LO_BYTE_SHIFT" "I" (.int s_LO_BYTE_SHIFT)) (V_a1 : Arv Z h0 a1 k_a1 .char (1 : Int32) [(.int x_a1_0)] (.int (0 : Int32))) (hhc20_9 : (255 : Int32) < x_a1_0) :
    MetFree l (⟨"java/lang/StringUTF16", "compress", "([CII)[B"⟩ : MethodName) (head1 (Jvm.Cond.code (⟨"java/lang/StringUTF16", "compress", "([CII)[B"⟩ : MethodName) jdk_52_method_16_code 6 (some (.array .byte)) :: ws) ({ frames := 3, cells := 2, slots := 3, locals := 40 } : Room)) (fun a U => a = #[(.ref a1), (.int (0 : Int32)), (.int (1 : Int32))] ∧ Z.Warmed39 U.vm ∧ U.heap = h0) (fun _ _ _ _ _ => True) (fun _ U o U' => ∃ v L, o = .returned v ∧ Q_rm7_1 Z a1 s__assertionsDisabled s_HI_BYTE_SHIFT s_LO_BYTE_SHIFT k_a1 x_a1_0 h0 n0 v U'.heap L ∧ FrameEnd U o U' L ({ frames := 3, cells := 2, slots := 3, locals := 40 } : Room).cells ({ frames := 3, cells := 2, slots := 3, locals := 40 } : Room).slots) := by
  have hi : ∀ (i : Nat) {d : Jvm.Cond}, tables_1[i]? = some d → d.before a0 Z = true := fun i d h => hw d (List.mem_of_getElem? h)
  refine MetFree.of_bodySF (plainFor_of_name pn_7) hisR ?_
  intro p e s m args below meth c s₁ Bd hml0 hP hK
  obtain ⟨rfl, hZ, hh⟩ := hP
  have hx := Bd.exec
  have hby := Bd.bytes
  have hml : c.maxLocals = 6 := hml0
  have hown : s.vm.findClass "java/lang/StringUTF16" = some m.cls := findClass_of_methodNamed Bd.named
  have hnm := (name_of_methodNamed Bd.named Bd.method).1
  have X0 : Stand p l e ({ frames := 3, cells := 2, slots := 3, locals := 40 } : Room) s m #[(.ref a1), (.int (0 : Int32)), (.int (1 : Int32))] below meth c s₁ [] 0 0 := Stand.of_body Bd
  have e0 : s₁.heap = h0 := by rw [← hh, Bd.state]; rfl
  have N0 := Fr.nil n0
  have pre0 : ∀ t, Steps p.tables e below (s₁.setTop (mkF m 0 #[vA a1, vI (0 : Int32), vI (1 : Int32), vU, vU, vU] [])) t → Steps p.tables e below (s₁.setTop (entryFrame m #[(.ref a1), (.int (0 : Int32)), (.int (1 : Int32))] 6)) t := fun t k => castTop (ef_7 m a1 (0 : Int32) (1 : Int32)) k
  obtain ⟨T2, h2, k2, X2, e2, E2, A2, st2⟩ := newP X0 hx hZ (hi 17 rfl) e0 (g := (mkF m 1 #[vA a1, vI (0 : Int32), vI (1 : Int32), vU, vU, vU] [(.int (1 : Int32))])) rfl (hb hby d7_1) rfl (by decide) (cap := 1) (by decide) (by decide) (by decide) (by decide)
  obtain ⟨b2, g2⟩ : ∃ z, z = h0.size := ⟨_, rfl⟩
  rw [← g2] at A2 st2
  have g_b2 : n0 ≤ b2 := Nat.le_trans Z0 (Nat.le_of_eq g2.symm)
  have sz_b2 : h0.size ≤ b2 := Nat.le_trans (Nat.le_refl h0.size) (Nat.le_of_eq g2.symm)
  have V_b2 : Arv Z h2 b2 k2 .byte (1 : Int32) [(.int (0 : Int32))] (.int (0 : Int32)) := (Arv.new A2 (by decide)).pad (pad_rep [] (.int (0 : Int32)) 1)
  have f0 := (V_a1.ext E2)
  obtain ⟨_, _, ⟨T3, L3, k3, n3⟩, -, X3, ⟨Lc3, hQ3, l3, y3, z3⟩, st3⟩ := Jvm.LawKit.callS X2 hx (y := (⟨"java/lang/StringUTF16", "compress", "([CI[BII)I"⟩ : MethodName)) hown (mvT hZ (hi 47 rfl)) (mvT hZ (hi 48 rfl)) (mvT hZ (hi 45 rfl)) (mvT hZ (hi 49 rfl)) (by decide) (backOf (W := 0) (rm8_1_0 l Z a0 hw [] a1 b2 k_a1 x_a1_0 k2 (0 : Int32) h2 n0 (Nat.le_trans Z0 E2.1) f0 V_b2 hhc20_9) hZ (hi 49 rfl) (hi 45 rfl) (by decide) (by decide)) (g := (mkF m 9 #[vA a1, vI (0 : Int32), vI (1 : Int32), vA b2, vU, vU] [(.int (1 : Int32)), (.int (0 : Int32)), (.ref b2), (.int (0 : Int32)), (.ref a1)])) rfl (by rw [hml]; rfl) (argsL := [(.ref a1), (.int (0 : Int32)), (.ref b2), (.int (0 : Int32)), (.int (1 : Int32))]) (rest := []) (lenOf pd__28_5bCI_5bBII_29I rfl) rfl (by show 2 * 0 + _ ≤ _; exact Nat.le_of_eq rfl) (hb hby d7_9) (fun _ _ => ⟨rfl, e2, (by decide : 1 + 0 ≤ _), (by decide : 1 + 0 ≤ _)⟩)
  dsimp only [Pt.U, Pt.locs, Pt.cells, Pt.slots] at X3 l3 y3 z3 st3 hQ3
  subst l3 y3 z3
  obtain ⟨rfl, N3q, e3⟩ := hQ3
  have N3 := Fr.app N0 N3q
  have f1 := (S__assertionsDisabled.ext E2)
  have f2 := (S_HI_BYTE_SHIFT.ext E2)
  have f3 := (S_LO_BYTE_SHIFT.ext E2)
  obtain ⟨_, _, ⟨T4, L4, k4, n4⟩, -, X4, ⟨Lc4, hQ4, l4, y4, z4⟩, st4⟩ := Jvm.LawKit.callS X3 hx (y := (⟨"java/lang/StringUTF16", "toBytes", "([CII)[B"⟩ : MethodName)) hown (mvT hZ (hi 53 rfl)) (mvT hZ (hi 54 rfl)) (mvT hZ (hi 45 rfl)) (mvT hZ (hi 55 rfl)) (by decide) (backOf (W := 0) (rm10_1 l Z a0 hw [] a1 s__assertionsDisabled s_HI_BYTE_SHIFT s_LO_BYTE_SHIFT k_a1 x_a1_0 h2 n0 (Nat.le_trans Z0 E2.1) hasd f1 f2 f3 f0) hZ (hi 55 rfl) (hi 45 rfl) (by decide) (by decide)) (g := (mkF m 23 #[vA a1, vI (0 : Int32), vI (1 : Int32), vA b2, vI (0 : Int32), vU] [(.int (1 : Int32)), (.int (0 : Int32)), (.ref a1)])) rfl (by rw [hml]; rfl) (argsL := [(.ref a1), (.int (0 : Int32)), (.int (1 : Int32))]) (rest := []) (lenOf pd__28_5bCII_29_5bB rfl) rfl (by show 2 * 0 + _ ≤ _; exact Nat.le_of_eq rfl) (hb hby d7_23) (fun _ _ => ⟨rfl, e3, (by decide : 1 + 1 ≤ _), (by decide : 1 + 2 ≤ _)⟩)
  dsimp only [Pt.U, Pt.locs, Pt.cells, Pt.slots] at X4 l4 y4 z4 st4 hQ4
  subst l4 y4 z4
  obtain ⟨b2_2_4, ⟨k2_2_4, ⟨rfl, N4q, K4, i4_0, i4_1⟩⟩⟩ := hQ4
  have N4 := Fr.app N3 N4q
  have sz_b2_2_4 : h0.size ≤ b2_2_4 := Nat.le_trans (Nat.le_trans (Nat.le_refl h0.size) E2.1) i4_0
  have g_b2_2_4 : n0 ≤ b2_2_4 := Nat.le_trans Z0 sz_b2_2_4
  have f4 := (own_sta_keep f1 K4 own_q0)
  have f5 := (own_sta_keep f2 K4 own_q0)
  have f6 := (own_sta_keep f3 K4 own_q0)
  obtain ⟨_, _, ⟨T5, L5, k5, n5⟩, -, X5, ⟨Lc5, hQ5, l5, y5, z5⟩, st5⟩ := Jvm.LawKit.callS X4 hx (y := (⟨"java/lang/StringUTF16", "getChar", "([BI)C"⟩ : MethodName)) hown (mvT hZ (hi 69 rfl)) (mvT hZ (hi 70 rfl)) (mvT hZ (hi 45 rfl)) (mvT hZ (hi 71 rfl)) (by decide) (backOf (W := 0) (rm14_1_0 l Z a0 hw [] b2_2_4 s__assertionsDisabled s_HI_BYTE_SHIFT s_LO_BYTE_SHIFT k2_2_4 (nar .byte ((x_a1_0 >>> (s_HI_BYTE_SHIFT &&& 31)).toInt8.toInt32)) (nar .byte ((x_a1_0 >>> (s_LO_BYTE_SHIFT &&& 31)).toInt8.toInt32)) T4.heap n0 (Nat.le_trans (Nat.le_trans Z0 E2.1) K4.1) hasd f4 f5 f6 i4_1) hZ (hi 71 rfl) (hi 45 rfl) (by decide) (by decide)) (g := (mkF m 32 #[vA a1, vI (0 : Int32), vI (1 : Int32), vA b2, vI (0 : Int32), vA b2_2_4] [(.int (0 : Int32)), (.ref b2_2_4)])) rfl (by rw [hml]; rfl) (argsL := [(.ref b2_2_4), (.int (0 : Int32))]) (rest := []) (lenOf pd__28_5bBI_29C rfl) rfl (by show 2 * 0 + _ ≤ _; exact Nat.le_of_eq rfl) (hb hby d7_32) (fun _ _ => ⟨rfl, rfl, (by decide : 2 + 0 ≤ _), (by decide : 3 + 0 ≤ _)⟩)
  dsimp only [Pt.U, Pt.locs, Pt.cells, Pt.slots] at X5 l5 y5 z5 st5 hQ5
  subst l5 y5 z5
  obtain ⟨rfl, N5q, e5⟩ := hQ5
  have N5 := Fr.app N4 N5q
  obtain ⟨fs, hr, hrun, hended, hW, hsame⟩ := X5.leave (v := some (.ref b2_2_4)) (fun h => by rw [Bd.returns] at h; cases h)
  refine ⟨_, _, pre0 _ ?_, hrun, hended, _, _, rfl, ?_, ⟨_, rfl⟩, hW, hsame.mono (by decide) (by decide)⟩
  · show Steps p.tables e below (s₁.setTop (mkF m 0 #[vA a1, vI (0 : Int32), vI (1 : Int32), vU, vU, vU] [])) _
    refine XS.iloadN X0.here hx rfl (hb hby d7_0) rfl ?_
    show Steps p.tables e below (s₁.setTop (mkF m 1 #[vA a1, vI (0 : Int32), vI (1 : Int32), vU, vU, vU] [(.int (1 : Int32))])) _
    refine st2 _ ?_
    refine XS.astoreN X2.here hx rfl (hb hby d7_3) rfl rfl (l' := #[vA a1, vI (0 : Int32), vI (1 : Int32), vA b2, vU, vU]) rfl ?_
    refine XS.aloadN X2.here hx rfl (hb hby d7_4) rfl rfl ?_
    refine XS.iloadN X2.here hx rfl (hb hby d7_5) rfl ?_
    refine XS.aloadN X2.here hx rfl (hb hby d7_6) rfl rfl ?_
    refine XS.iconst X2.here hx rfl (hb hby d7_7) ?_
    refine XS.iloadN X2.here hx rfl (hb hby d7_8) rfl ?_
    show Steps p.tables e below (T2.setTop (mkF m 9 #[vA a1, vI (0 : Int32), vI (1 : Int32), vA b2, vU, vU] [(.int (1 : Int32)), (.int (0 : Int32)), (.ref b2), (.int (0 : Int32)), (.ref a1)])) _
    refine st3 _ ?_
    refine XS.istore X3.here hx rfl (hb hby d7_12) rfl (l' := #[vA a1, vI (0 : Int32), vI (1 : Int32), vA b2, vI (0 : Int32), vU]) rfl ?_
    refine XS.iload X3.here hx rfl (hb hby d7_14) rfl ?_
    refine XS.iloadN X3.here hx rfl (hb hby d7_16) rfl ?_
    show Steps p.tables e below (T3.setTop (mkF m 17 #[vA a1, vI (0 : Int32), vI (1 : Int32), vA b2, vI (0 : Int32), vU] [(.int (1 : Int32)), (.int (0 : Int32))])) _
    refine XS.icmpNo X3.here hx rfl (hb hby d7_17) rfl (feq (by decide : ¬ ((0 : Int32) = (1 : Int32)))).1 ?_
    refine XS.aloadN X3.here hx rfl (hb hby d7_20) rfl rfl ?_
    refine XS.iloadN X3.here hx rfl (hb hby d7_21) rfl ?_
    refine XS.iloadN X3.here hx rfl (hb hby d7_22) rfl ?_
    show Steps p.tables e below (T3.setTop (mkF m 23 #[vA a1, vI (0 : Int32), vI (1 : Int32), vA b2, vI (0 : Int32), vU] [(.int (1 : Int32)), (.int (0 : Int32)), (.ref a1)])) _
    refine st4 _ ?_
    refine XS.astore X4.here hx rfl (hb hby d7_26) rfl rfl (l' := #[vA a1, vI (0 : Int32), vI (1 : Int32), vA b2, vI (0 : Int32), vA b2_2_4]) rfl ?_
    refine XS.aload X4.here hx rfl (hb hby d7_28) rfl rfl ?_
    refine XS.iload X4.here hx rfl (hb hby d7_30) rfl ?_
    show Steps p.tables e below (T4.setTop (mkF m 32 #[vA a1, vI (0 : Int32), vI (1 : Int32), vA b2, vI (0 : Int32), vA b2_2_4] [(.int (0 : Int32)), (.ref b2_2_4)])) _
    refine st5 _ ?_
    refine XS.sipush X5.here hx rfl (hb hby d7_35) ?_
    show Steps p.tables e below (T5.setTop (mkF m 38 #[vA a1, vI (0 : Int32), vI (1 : Int32), vA b2, vI (0 : Int32), vA b2_2_4] [(.int (255 : Int32)), (.int (nar .char (t14_1 s_HI_BYTE_SHIFT s_LO_BYTE_SHIFT (nar .byte ((x_a1_0 >>> (s_HI_BYTE_SHIFT &&& 31)).toInt8.toInt32)) (nar .byte ((x_a1_0 >>> (s_LO_BYTE_SHIFT &&& 31)).toInt8.toInt32)))))])) _
    refine XS.icmpYes X5.here hx rfl (pc0 := 38) (pc' := 54) rfl (hb hby d7_38) rfl (tlt (show (255 : Int32) < (t7_0 s_HI_BYTE_SHIFT s_LO_BYTE_SHIFT x_a1_0) from (own_rt2 _ _ _ hhi hlo hch0 hhc20_9))).2.2.1 (by decide) (by decide) ?_
    refine XS.aload X5.here hx rfl (hb hby d7_54) rfl rfl ?_
    show Steps p.tables e below (T5.setTop (mkF m 56 #[vA a1, vI (0 : Int32), vI (1 : Int32), vA b2, vI (0 : Int32), vA b2_2_4] [(.ref b2_2_4)])) _
    jvm_step X5.here [X5.here.top, hx, (hb hby d7_56), X5.method', Bd.returns, Value.isRef, FieldType.isReference]
    first | (intro acts; rw [hr _ acts rfl rfl rfl]) | rw [hr _ _ rfl rfl rfl]
    exact Steps.refl _
  · show Q_rm7_1 Z a1 s__assertionsDisabled s_HI_BYTE_SHIFT s_LO_BYTE_SHIFT k_a1 x_a1_0 h0 n0 _ T5.heap _
    rw [e5]
    exact ⟨b2_2_4, ⟨k2_2_4, ⟨(2 : Int32), ⟨[(.int (nar .byte ((x_a1_0 >>> (s_HI_BYTE_SHIFT &&& 31)).toInt8.toInt32))), (.int (nar .byte ((x_a1_0 >>> (s_LO_BYTE_SHIFT &&& 31)).toInt8.toInt32)))], ⟨rfl, N5, (((Keep.refl h0 []).ext E2).trans K4 (fun _ q => nomatch q)), sz_b2_2_4, i4_1, Or.inr rfl⟩⟩⟩⟩⟩
set_option maxRecDepth 65536 in
set_option maxHeartbeats 40000000 in
theorem rm7_1_k1 (l : Launch) (Z : State) (a0 : Array Value) (hw : ∀ d ∈ tables_1, d.before a0 Z = true) (ws : List Jvm.Cond) (a1 : Addr) (s__assertionsDisabled : Int32) (s_HI_BYTE_SHIFT : Int32) (s_LO_BYTE_SHIFT : Int32) (k_a1 : ClassId) (x_a1_0 : Int32) (h0 : Heap) (n0 : Nat) (Z0 : n0 ≤ h0.size) (hasd : ¬ (s__assertionsDisabled = (0 : Int32))) (hhi : s_HI_BYTE_SHIFT = (0 : Int32)) (hlo : s_LO_BYTE_SHIFT = (8 : Int32)) (hch0 : nar .char x_a1_0 = x_a1_0) (S__assertionsDisabled : Sta Z h0 "java/lang/StringUTF16" "$assertionsDisabled" "Z" (.int s__assertionsDisabled)) (S_HI_BYTE_SHIFT : Sta Z h0 "java/lang/StringUTF16" "HI_BYTE_SHIFT" "I" (.int s_HI_BYTE_SHIFT)) (S_LO_BYTE_SHIFT : Sta Z h0 "java/lang/StringUTF16" "LO_BYTE_SHIFT" "I" (.int s_LO_BYTE_SHIFT)) (V_a1 : Arv Z h0 a1 k_a1 .char (1 : Int32) [(.int x_a1_0)] (.int (0 : Int32))) (hhc20_9 : ¬ ((255 : Int32) < x_a1_0)) :
    MetFree l (⟨"java/lang/StringUTF16", "compress", "([CII)[B"⟩ : MethodName) (head1 (Jvm.Cond.code (⟨"java/lang/StringUTF16", "compress", "([CII)[B"⟩ : MethodName) jdk_52_method_16_code 6 (some (.array .byte)) :: ws) ({ frames := 3, cells := 2, slots := 3, locals := 40 } : Room)) (fun a U => a = #[(.ref a1), (.int (0 : Int32)), (.int (1 : Int32))] ∧ Z.Warmed39 U.vm ∧ U.heap = h0) (fun _ _ _ _ _ => True) (fun _ U o U' => ∃ v L, o = .returned v ∧ Q_rm7_1 Z a1 s__assertionsDisabled s_HI_BYTE_SHIFT s_LO_BYTE_SHIFT k_a1 x_a1_0 h0 n0 v U'.heap L ∧ FrameEnd U o U' L ({ frames := 3, cells := 2, slots := 3, locals := 40 } : Room).cells ({ frames := 3, cells := 2, slots := 3, locals := 40 } : Room).slots) := by
  have hi : ∀ (i : Nat) {d : Jvm.Cond}, tables_1[i]? = some d → d.before a0 Z = true := fun i d h => hw d (List.mem_of_getElem? h)
  refine MetFree.of_bodySF (plainFor_of_name pn_7) hisR ?_
  intro p e s m args below meth c s₁ Bd hml0 hP hK
  obtain ⟨rfl, hZ, hh⟩ := hP
  have hx := Bd.exec
  have hby := Bd.bytes
  have hml : c.maxLocals = 6 := hml0
  have hown : s.vm.findClass "java/lang/StringUTF16" = some m.cls := findClass_of_methodNamed Bd.named
  have hnm := (name_of_methodNamed Bd.named Bd.method).1
  have X0 : Stand p l e ({ frames := 3, cells := 2, slots := 3, locals := 40 } : Room) s m #[(.ref a1), (.int (0 : Int32)), (.int (1 : Int32))] below meth c s₁ [] 0 0 := Stand.of_body Bd
  have e0 : s₁.heap = h0 := by rw [← hh, Bd.state]; rfl
  have N0 := Fr.nil n0
  have pre0 : ∀ t, Steps p.tables e below (s₁.setTop (mkF m 0 #[vA a1, vI (0 : Int32), vI (1 : Int32), vU, vU, vU] [])) t → Steps p.tables e below (s₁.setTop (entryFrame m #[(.ref a1), (.int (0 : Int32)), (.int (1 : Int32))] 6)) t := fun t k => castTop (ef_7 m a1 (0 : Int32) (1 : Int32)) k
  obtain ⟨T2, h2, k2, X2, e2, E2, A2, st2⟩ := newP X0 hx hZ (hi 17 rfl) e0 (g := (mkF m 1 #[vA a1, vI (0 : Int32), vI (1 : Int32), vU, vU, vU] [(.int (1 : Int32))])) rfl (hb hby d7_1) rfl (by decide) (cap := 1) (by decide) (by decide) (by decide) (by decide)
  obtain ⟨b2, g2⟩ : ∃ z, z = h0.size := ⟨_, rfl⟩
  rw [← g2] at A2 st2
  have g_b2 : n0 ≤ b2 := Nat.le_trans Z0 (Nat.le_of_eq g2.symm)
  have sz_b2 : h0.size ≤ b2 := Nat.le_trans (Nat.le_refl h0.size) (Nat.le_of_eq g2.symm)
  have V_b2 : Arv Z h2 b2 k2 .byte (1 : Int32) [(.int (0 : Int32))] (.int (0 : Int32)) := (Arv.new A2 (by decide)).pad (pad_rep [] (.int (0 : Int32)) 1)
  have f0 := (V_a1.ext E2)
  obtain ⟨_, _, ⟨T3, L3, k3, n3⟩, -, X3, ⟨Lc3, hQ3, l3, y3, z3⟩, st3⟩ := Jvm.LawKit.callS X2 hx (y := (⟨"java/lang/StringUTF16", "compress", "([CI[BII)I"⟩ : MethodName)) hown (mvT hZ (hi 47 rfl)) (mvT hZ (hi 48 rfl)) (mvT hZ (hi 45 rfl)) (mvT hZ (hi 49 rfl)) (by decide) (backOf (W := 0) (rm8_1_1 l Z a0 hw [] a1 b2 k_a1 x_a1_0 k2 (0 : Int32) h2 n0 (Nat.le_trans Z0 E2.1) g_b2 f0 V_b2 hhc20_9) hZ (hi 49 rfl) (hi 45 rfl) (by decide) (by decide)) (g := (mkF m 9 #[vA a1, vI (0 : Int32), vI (1 : Int32), vA b2, vU, vU] [(.int (1 : Int32)), (.int (0 : Int32)), (.ref b2), (.int (0 : Int32)), (.ref a1)])) rfl (by rw [hml]; rfl) (argsL := [(.ref a1), (.int (0 : Int32)), (.ref b2), (.int (0 : Int32)), (.int (1 : Int32))]) (rest := []) (lenOf pd__28_5bCI_5bBII_29I rfl) rfl (by show 2 * 0 + _ ≤ _; exact Nat.le_of_eq rfl) (hb hby d7_9) (fun _ _ => ⟨rfl, e2, (by decide : 1 + 0 ≤ _), (by decide : 1 + 0 ≤ _)⟩)
  dsimp only [Pt.U, Pt.locs, Pt.cells, Pt.slots] at X3 l3 y3 z3 st3 hQ3
  subst l3 y3 z3
  obtain ⟨rfl, N3q, K3, i3_0⟩ := hQ3
  have N3 := Fr.app N0 N3q
  obtain ⟨fs, hr, hrun, hended, hW, hsame⟩ := X3.leave (v := some (.ref b2)) (fun h => by rw [Bd.returns] at h; cases h)
  refine ⟨_, _, pre0 _ ?_, hrun, hended, _, _, rfl, ?_, ⟨_, rfl⟩, hW, hsame.mono (by decide) (by decide)⟩
  · show Steps p.tables e below (s₁.setTop (mkF m 0 #[vA a1, vI (0 : Int32), vI (1 : Int32), vU, vU, vU] [])) _
    refine XS.iloadN X0.here hx rfl (hb hby d7_0) rfl ?_
    show Steps p.tables e below (s₁.setTop (mkF m 1 #[vA a1, vI (0 : Int32), vI (1 : Int32), vU, vU, vU] [(.int (1 : Int32))])) _
    refine st2 _ ?_
    refine XS.astoreN X2.here hx rfl (hb hby d7_3) rfl rfl (l' := #[vA a1, vI (0 : Int32), vI (1 : Int32), vA b2, vU, vU]) rfl ?_
    refine XS.aloadN X2.here hx rfl (hb hby d7_4) rfl rfl ?_
    refine XS.iloadN X2.here hx rfl (hb hby d7_5) rfl ?_
    refine XS.aloadN X2.here hx rfl (hb hby d7_6) rfl rfl ?_
    refine XS.iconst X2.here hx rfl (hb hby d7_7) ?_
    refine XS.iloadN X2.here hx rfl (hb hby d7_8) rfl ?_
    show Steps p.tables e below (T2.setTop (mkF m 9 #[vA a1, vI (0 : Int32), vI (1 : Int32), vA b2, vU, vU] [(.int (1 : Int32)), (.int (0 : Int32)), (.ref b2), (.int (0 : Int32)), (.ref a1)])) _
    refine st3 _ ?_
    refine XS.istore X3.here hx rfl (hb hby d7_12) rfl (l' := #[vA a1, vI (0 : Int32), vI (1 : Int32), vA b2, vI (1 : Int32), vU]) rfl ?_
    refine XS.iload X3.here hx rfl (hb hby d7_14) rfl ?_
    refine XS.iloadN X3.here hx rfl (hb hby d7_16) rfl ?_
    show Steps p.tables e below (T3.setTop (mkF m 17 #[vA a1, vI (0 : Int32), vI (1 : Int32), vA b2, vI (1 : Int32), vU] [(.int (1 : Int32)), (.int (1 : Int32))])) _
    refine XS.icmpYes X3.here hx rfl (pc0 := 17) (pc' := 57) rfl (hb hby d7_17) rfl (teq (rfl : (1 : Int32) = (1 : Int32))).1 (by decide) (by decide) ?_
    refine XS.aloadN X3.here hx rfl (hb hby d7_57) rfl rfl ?_
    show Steps p.tables e below (T3.setTop (mkF m 58 #[vA a1, vI (0 : Int32), vI (1 : Int32), vA b2, vI (1 : Int32), vU] [(.ref b2)])) _
    jvm_step X3.here [X3.here.top, hx, (hb hby d7_58), X3.method', Bd.returns, Value.isRef, FieldType.isReference]
    first | (intro acts; rw [hr _ acts rfl rfl rfl]) | rw [hr _ _ rfl rfl rfl]
    exact Steps.refl _
  · show Q_rm7_1 Z a1 s__assertionsDisabled s_HI_BYTE_SHIFT s_LO_BYTE_SHIFT k_a1 x_a1_0 h0 n0 _ T3.heap _
    exact ⟨b2, ⟨k2, ⟨(1 : Int32), ⟨[(.int (nar .byte (x_a1_0.toInt8.toInt32)))], ⟨rfl, N3, (((Keep.refl h0 []).ext E2).trans K3 (fun x q => (List.mem_cons.mp q).elim (fun r => r ▸ (Or.inr sz_b2)) ((fun _ q => nomatch q) x))), sz_b2, i3_0, Or.inl rfl⟩⟩⟩⟩⟩
set_option maxHeartbeats 4000000 in
theorem rm7_1 (l : Launch) (Z : State) (a0 : Array Value) (hw : ∀ d ∈ tables_1, d.before a0 Z = true) (ws : List Jvm.Cond) (a1 : Addr) (s__assertionsDisabled : Int32) (s_HI_BYTE_SHIFT : Int32) (s_LO_BYTE_SHIFT : Int32) (k_a1 : ClassId) (x_a1_0 : Int32) (h0 : Heap) (n0 : Nat) (Z0 : n0 ≤ h0.size) (hasd : ¬ (s__assertionsDisabled = (0 : Int32))) (hhi : s_HI_BYTE_SHIFT = (0 : Int32)) (hlo : s_LO_BYTE_SHIFT = (8 : Int32)) (hch0 : nar .char x_a1_0 = x_a1_0) (S__assertionsDisabled : Sta Z h0 "java/lang/StringUTF16" "$assertionsDisabled" "Z" (.int s__assertionsDisabled)) (S_HI_BYTE_SHIFT : Sta Z h0 "java/lang/StringUTF16" "HI_BYTE_SHIFT" "I" (.int s_HI_BYTE_SHIFT)) (S_LO_BYTE_SHIFT : Sta Z h0 "java/lang/StringUTF16" "LO_BYTE_SHIFT" "I" (.int s_LO_BYTE_SHIFT)) (V_a1 : Arv Z h0 a1 k_a1 .char (1 : Int32) [(.int x_a1_0)] (.int (0 : Int32))) :
    MetFree l (⟨"java/lang/StringUTF16", "compress", "([CII)[B"⟩ : MethodName) (head1 (Jvm.Cond.code (⟨"java/lang/StringUTF16", "compress", "([CII)[B"⟩ : MethodName) jdk_52_method_16_code 6 (some (.array .byte)) :: ws) ({ frames := 3, cells := 2, slots := 3, locals := 40 } : Room)) (fun a U => a = #[(.ref a1), (.int (0 : Int32)), (.int (1 : Int32))] ∧ Z.Warmed39 U.vm ∧ U.heap = h0) (fun _ _ _ _ _ => True) (fun _ U o U' => ∃ v L, o = .returned v ∧ Q_rm7_1 Z a1 s__assertionsDisabled s_HI_BYTE_SHIFT s_LO_BYTE_SHIFT k_a1 x_a1_0 h0 n0 v U'.heap L ∧ FrameEnd U o U' L ({ frames := 3, cells := 2, slots := 3, locals := 40 } : Room).cells ({ frames := 3, cells := 2, slots := 3, locals := 40 } : Room).slots) := by
  by_cases hhc20_9 : (255 : Int32) < x_a1_0
  · skip
    exact rm7_1_k0 l Z a0 hw ws a1 s__assertionsDisabled s_HI_BYTE_SHIFT s_LO_BYTE_SHIFT k_a1 x_a1_0 h0 n0 Z0 hasd hhi hlo hch0 S__assertionsDisabled S_HI_BYTE_SHIFT S_LO_BYTE_SHIFT V_a1 hhc20_9
  · skip
    exact rm7_1_k1 l Z a0 hw ws a1 s__assertionsDisabled s_HI_BYTE_SHIFT s_LO_BYTE_SHIFT k_a1 x_a1_0 h0 n0 Z0 hasd hhi hlo hch0 S__assertionsDisabled S_HI_BYTE_SHIFT S_LO_BYTE_SHIFT V_a1 hhc20_9
theorem pd__28_5bBI_29B : parseMethodDescriptor "([BI)B" = some ⟨[(.array .byte), .int], some .byte⟩ := by decide +kernel
theorem d2_0 : decode jdk_42_method_149_code 0 = .ok (.aload_n 0, 1) := by decide +kernel
theorem d2_1 : decode jdk_42_method_149_code 1 = .ok (.invokespecial 1, 3) := by decide +kernel
theorem d2_4 : decode jdk_42_method_149_code 4 = .ok (.iload_n 3, 1) := by decide +kernel
theorem d2_5 : decode jdk_42_method_149_code 5 = .ok (.ifCond .ne 22, 3) := by decide +kernel
theorem d2_27 : decode jdk_42_method_149_code 27 = .ok (.getstatic 38, 3) := by decide +kernel
theorem d2_30 : decode jdk_42_method_149_code 30 = .ok (.ifCond .eq 28, 3) := by decide +kernel
theorem d2_33 : decode jdk_42_method_149_code 33 = .ok (.aload_n 1, 1) := by decide +kernel
theorem d2_34 : decode jdk_42_method_149_code 34 = .ok (.iload_n 2, 1) := by decide +kernel
theorem d2_35 : decode jdk_42_method_149_code 35 = .ok (.iload_n 3, 1) := by decide +kernel
theorem d2_36 : decode jdk_42_method_149_code 36 = .ok (.invokestatic 177, 3) := by decide +kernel
theorem d2_39 : decode jdk_42_method_149_code 39 = .ok (.astore 5, 2) := by decide +kernel
theorem d2_41 : decode jdk_42_method_149_code 41 = .ok (.aload_n 0, 1) := by decide +kernel
theorem d2_42 : decode jdk_42_method_149_code 42 = .ok (.aload 5, 2) := by decide +kernel
theorem d2_44 : decode jdk_42_method_149_code 44 = .ok (.iload_n 3, 1) := by decide +kernel
theorem d2_45 : decode jdk_42_method_149_code 45 = .ok (.invokestatic 47, 3) := by decide +kernel
theorem d2_48 : decode jdk_42_method_149_code 48 = .ok (.putfield 15, 3) := by decide +kernel
theorem d2_51 : decode jdk_42_method_149_code 51 = .ok (.aload_n 0, 1) := by decide +kernel
theorem d2_52 : decode jdk_42_method_149_code 52 = .ok (.aload 5, 2) := by decide +kernel
theorem d2_54 : decode jdk_42_method_149_code 54 = .ok (.putfield 9, 3) := by decide +kernel
theorem d2_57 : decode jdk_42_method_149_code 57 = .ok (.return_, 1) := by decide +kernel
theorem pn_2 : plainName "java/lang/String" = true := by first | (simp [plainName, overriddenIn]; done) | decide +kernel
theorem ef_2n4 (m : MethodId) (x0 : Addr) (x1 : Addr) (x2 : Int32) (x3 : Int32) : entryFrame m #[(.ref x0), (.ref x1), (.int x2), (.int x3), .null] 6 = mkF m 0 #[.val (.ref x0), .val (.ref x1), .val (.int x2), .val (.int x3), .val .null, .unset] [] := by first | (simp [entryFrame, mkF, argsToLocals, Value.category]; done) | rfl
def Q_rm2_1 (Z : State) (a1 : Addr) (a2 : Addr) (s_COMPACT_STRINGS : Int32) (s__assertionsDisabled : Int32) (s_HI_BYTE_SHIFT : Int32) (s_LO_BYTE_SHIFT : Int32) (w_coder_a1 : Int32) (w_value_a1 : Value) (k_a2 : ClassId) (x_a2_0 : Int32) (h0 : Heap) (n0 : Nat) (v : Option Value) (h : Heap) (L : List Loc) : Prop := ∃ b_5 : Addr, ∃ k_5 : ClassId, ∃ zz_5 : Int32, ∃ vs_5 : List Value, v = none ∧ Fr n0 L ∧ Keep h0 h [a1] ∧ h0.size ≤ b_5 ∧ Exa Z h a1 "java/lang/String" ∧ Fld Z h a1 "java/lang/String" "coder" "B" (.int (nar .byte (nar .byte ((t9_0 (1 : Int32) zz_5).toInt8.toInt32)))) ∧ Fld Z h a1 "java/lang/String" "value" "[B" (.ref b_5) ∧ Arv Z h b_5 k_5 .byte zz_5 vs_5 (.int (0 : Int32)) ∧ (zz_5 = (1 : Int32) ∨ zz_5 = (2 : Int32))
set_option maxRecDepth 65536 in
set_option maxHeartbeats 40000000 in
theorem rm2_1 (l : Launch) (Z : State) (a0 : Array Value) (hw : ∀ d ∈ tables_1, d.before a0 Z = true) (ws : List Jvm.Cond) (a1 : Addr) (a2 : Addr) (s_COMPACT_STRINGS : Int32) (s__assertionsDisabled : Int32) (s_HI_BYTE_SHIFT : Int32) (s_LO_BYTE_SHIFT : Int32) (w_coder_a1 : Int32) (w_value_a1 : Value) (k_a2 : ClassId) (x_a2_0 : Int32) (h0 : Heap) (n0 : Nat) (Z0 : n0 ≤ h0.size) (hcs : ¬ (s_COMPACT_STRINGS = (0 : Int32))) (hasd : ¬ (s__assertionsDisabled = (0 : Int32))) (hhi : s_HI_BYTE_SHIFT = (0 : Int32)) (hlo : s_LO_BYTE_SHIFT = (8 : Int32)) (hch0 : nar .char x_a2_0 = x_a2_0) (S_COMPACT_STRINGS : Sta Z h0 "java/lang/String" "COMPACT_STRINGS" "Z" (.int s_COMPACT_STRINGS)) (S__assertionsDisabled : Sta Z h0 "java/lang/StringUTF16" "$assertionsDisabled" "Z" (.int s__assertionsDisabled)) (S_HI_BYTE_SHIFT : Sta Z h0 "java/lang/StringUTF16" "HI_BYTE_SHIFT" "I" (.int s_HI_BYTE_SHIFT)) (S_LO_BYTE_SHIFT : Sta Z h0 "java/lang/StringUTF16" "LO_BYTE_SHIFT" "I" (.int s_LO_BYTE_SHIFT)) (E_a1 : Exa Z h0 a1 "java/lang/String") (F_coder_a1 : Fld Z h0 a1 "java/lang/String" "coder" "B" (.int w_coder_a1)) (g_a1 : n0 ≤ a1) (F_value_a1 : Fld Z h0 a1 "java/lang/String" "value" "[B" w_value_a1) (V_a2 : Arv Z h0 a2 k_a2 .char (1 : Int32) [(.int x_a2_0)] (.int (0 : Int32))) :
    MetFree l (⟨"java/lang/String", "<init>", "([CIILjava/lang/Void;)V"⟩ : MethodName) (head1 (Jvm.Cond.code (⟨"java/lang/String", "<init>", "([CIILjava/lang/Void;)V"⟩ : MethodName) jdk_42_method_149_code 6 none :: ws) ({ frames := 4, cells := 2, slots := 3, locals := 57 } : Room)) (fun a U => a = #[(.ref a1), (.ref a2), (.int (0 : Int32)), (.int (1 : Int32)), .null] ∧ Z.Warmed39 U.vm ∧ U.heap = h0) (fun _ _ _ _ _ => True) (fun _ U o U' => ∃ v L, o = .returned v ∧ Q_rm2_1 Z a1 a2 s_COMPACT_STRINGS s__assertionsDisabled s_HI_BYTE_SHIFT s_LO_BYTE_SHIFT w_coder_a1 w_value_a1 k_a2 x_a2_0 h0 n0 v U'.heap L ∧ FrameEnd U o U' L ({ frames := 4, cells := 2, slots := 3, locals := 57 } : Room).cells ({ frames := 4, cells := 2, slots := 3, locals := 57 } : Room).slots) := by
  have hi : ∀ (i : Nat) {d : Jvm.Cond}, tables_1[i]? = some d → d.before a0 Z = true := fun i d h => hw d (List.mem_of_getElem? h)
  refine MetFree.of_bodySF (plainFor_of_name pn_2) hisR ?_
  intro p e s m args below meth c s₁ Bd hml0 hP hK
  obtain ⟨rfl, hZ, hh⟩ := hP
  have hx := Bd.exec
  have hby := Bd.bytes
  have hml : c.maxLocals = 6 := hml0
  have hown : s.vm.findClass "java/lang/String" = some m.cls := findClass_of_methodNamed Bd.named
  have hnm := (name_of_methodNamed Bd.named Bd.method).1
  have X0 : Stand p l e ({ frames := 4, cells := 2, slots := 3, locals := 57 } : Room) s m #[(.ref a1), (.ref a2), (.int (0 : Int32)), (.int (1 : Int32)), .null] below meth c s₁ [] 0 0 := Stand.of_body Bd
  have e0 : s₁.heap = h0 := by rw [← hh, Bd.state]; rfl
  have N0 := Fr.nil n0
  have pre0 : ∀ t, Steps p.tables e below (s₁.setTop (mkF m 0 #[vA a1, vA a2, vI (0 : Int32), vI (1 : Int32), .val .null, vU] [])) t → Steps p.tables e below (s₁.setTop (entryFrame m #[(.ref a1), (.ref a2), (.int (0 : Int32)), (.int (1 : Int32)), .null] 6)) t := fun t k => castTop (ef_2n4 m a1 a2 (0 : Int32) (1 : Int32)) k
  obtain ⟨T3, X3, e3, st3⟩ := initO X0 hx hZ hown (hi 13 rfl) (hi 14 rfl) (hi 15 rfl) e0 (g := (mkF m 1 #[vA a1, vA a2, vI (0 : Int32), vI (1 : Int32), .val .null, vU] [(.ref a1)])) rfl (by rw [hml]; rfl) rfl (hb hby d2_1) (by decide) (W := 0) (by show 2 * 0 + _ ≤ _; exact Nat.le_of_eq rfl) (by decide)
  obtain ⟨T4, X4, e4, st4⟩ := getS2 X3 hx hZ hown (host := "") (Or.inl (hi 42 rfl)) Via.refl e3 S_COMPACT_STRINGS (g := (mkF m 27 #[vA a1, vA a2, vI (0 : Int32), vI (1 : Int32), .val .null, vU] [])) rfl (hb hby d2_27)
  obtain ⟨_, _, ⟨T5, L5, k5, n5⟩, -, X5, ⟨Lc5, hQ5, l5, y5, z5⟩, st5⟩ := Jvm.LawKit.callS X4 hx (y := (⟨"java/lang/StringUTF16", "compress", "([CII)[B"⟩ : MethodName)) hown (mvT hZ (hi 43 rfl)) (mvT hZ (hi 44 rfl)) (mvT hZ (hi 45 rfl)) (mvT hZ (hi 46 rfl)) (by decide) (backOf (W := 0) (rm7_1 l Z a0 hw [] a2 s__assertionsDisabled s_HI_BYTE_SHIFT s_LO_BYTE_SHIFT k_a2 x_a2_0 h0 n0 Z0 hasd hhi hlo hch0 S__assertionsDisabled S_HI_BYTE_SHIFT S_LO_BYTE_SHIFT V_a2) hZ (hi 46 rfl) (hi 45 rfl) (by decide) (by decide)) (g := (mkF m 36 #[vA a1, vA a2, vI (0 : Int32), vI (1 : Int32), .val .null, vU] [(.int (1 : Int32)), (.int (0 : Int32)), (.ref a2)])) rfl (by rw [hml]; rfl) (argsL := [(.ref a2), (.int (0 : Int32)), (.int (1 : Int32))]) (rest := []) (lenOf pd__28_5bCII_29_5bB rfl) rfl (by show 2 * 0 + _ ≤ _; exact Nat.le_of_eq rfl) (hb hby d2_36) (fun _ _ => ⟨rfl, e4, (by decide : 0 + 2 ≤ _), (by decide : 0 + 3 ≤ _)⟩)
  dsimp only [Pt.U, Pt.locs, Pt.cells, Pt.slots] at X5 l5 y5 z5 st5 hQ5
  subst l5 y5 z5
  obtain ⟨b_5, ⟨k_5, ⟨zz_5, ⟨vs_5, ⟨rfl, N5q, K5, i5_0, i5_1, i5_2⟩⟩⟩⟩⟩ := hQ5
  have N5 := Fr.app N0 N5q
  have sz_b_5 : h0.size ≤ b_5 := Nat.le_trans (Nat.le_refl h0.size) i5_0
  have g_b_5 : n0 ≤ b_5 := Nat.le_trans Z0 sz_b_5
  obtain ⟨_, _, ⟨T6, L6, k6, n6⟩, -, X6, ⟨Lc6, hQ6, l6, y6, z6⟩, st6⟩ := Jvm.LawKit.callS X5 hx (y := (⟨"java/lang/StringUTF16", "coderFromArrayLen", "([BI)B"⟩ : MethodName)) hown (mvT hZ (hi 50 rfl)) (mvT hZ (hi 51 rfl)) (mvT hZ (hi 45 rfl)) (mvT hZ (hi 52 rfl)) (by decide) (backOf (W := 1) (rm9 l Z a0 hw [] b_5 (1 : Int32) k_5 zz_5 vs_5 T5.heap n0 (Nat.le_trans Z0 K5.1) i5_1) hZ (hi 52 rfl) (hi 45 rfl) (by decide) (by decide)) (g := (mkF m 45 #[vA a1, vA a2, vI (0 : Int32), vI (1 : Int32), .val .null, vA b_5] [(.int (1 : Int32)), (.ref b_5), (.ref a1)])) rfl (by rw [hml]; rfl) (argsL := [(.ref b_5), (.int (1 : Int32))]) (rest := [(.ref a1)]) (lenOf pd__28_5bBI_29B rfl) rfl (by show 2 * 0 + _ ≤ _; exact Nat.le_of_eq rfl) (hb hby d2_45) (fun _ _ => ⟨rfl, rfl, (by decide : 2 + 0 ≤ _), (by decide : 3 + 0 ≤ _)⟩)
  dsimp only [Pt.U, Pt.locs, Pt.cells, Pt.slots] at X6 l6 y6 z6 st6 hQ6
  subst l6 y6 z6
  obtain ⟨rfl, N6q, e6⟩ := hQ6
  have N6 := Fr.app N5 N6q
  have f0 := (E_a1.keep K5)
  have f1 := (F_coder_a1.keep K5 own_n0)
  obtain ⟨T7, h7, X7, e7, W7, st7⟩ := putFN X6 hx hZ hown (hi 23 rfl) Via.refl e6 f1 f0 (Or.inr ⟨(hi 19 rfl), rfl, hnm⟩) (hi 3 rfl) (ty := .byte) (v' := (.int (nar .byte (nar .byte ((t9_0 (1 : Int32) zz_5).toInt8.toInt32))))) (by decide) rfl (fits_nar_byte _) (g := (mkF m 48 #[vA a1, vA a2, vI (0 : Int32), vI (1 : Int32), .val .null, vA b_5] [(.int (nar .byte ((t9_0 (1 : Int32) zz_5).toInt8.toInt32))), (.ref a1)])) rfl rfl (hb hby d2_48)
  have Fw7 := f1.same W7
  have N7 := Fr.snoc X7 N6 g_a1
  have f2 := (f0.wr W7)
  have f3 := ((F_value_a1.keep K5 own_n0).other W7 (Or.inr (slot_ne (Or.inr (hi 18 rfl)) (Or.inr (hi 19 rfl)) (by decide) (t := (.array .byte)) (t' := .byte) (by decide) (by decide))))
  obtain ⟨T8, h8, X8, e8, W8, st8⟩ := putF X7 hx hZ hown (host := "") (Or.inl (hi 22 rfl)) Via.refl e7 f3 f2 (Or.inr ⟨(hi 18 rfl), rfl, hnm⟩) (hi 3 rfl) (ty := (.array .byte)) (by decide) rfl rfl (g := (mkF m 54 #[vA a1, vA a2, vI (0 : Int32), vI (1 : Int32), .val .null, vA b_5] [(.ref b_5), (.ref a1)])) rfl rfl (hb hby d2_54)
  have Fw8 := f3.same W8
  have N8 := Fr.snoc X8 N7 g_a1
  have f4 := (f2.wr W8)
  have f5 := (Fw7.other W8 (Or.inr (slot_ne (Or.inr (hi 19 rfl)) (Or.inr (hi 18 rfl)) (by decide) (t := .byte) (t' := (.array .byte)) (by decide) (by decide))))
  have f6 := ((i5_1.other W7 (Ne.symm (Nat.ne_of_lt (Nat.lt_of_lt_of_le E_a1.lt i5_0)))).other W8 (Ne.symm (Nat.ne_of_lt (Nat.lt_of_lt_of_le E_a1.lt i5_0))))
  obtain ⟨fs, hr, hrun, hended, hW, hsame⟩ := X8.leave (v := none) (fun _ => rfl)
  refine ⟨_, _, pre0 _ ?_, hrun, hended, _, _, rfl, ?_, ⟨_, rfl⟩, hW, hsame.mono (by decide) (by decide)⟩
  · show Steps p.tables e below (s₁.setTop (mkF m 0 #[vA a1, vA a2, vI (0 : Int32), vI (1 : Int32), .val .null, vU] [])) _
    refine XS.aloadN X0.here hx rfl (hb hby d2_0) rfl rfl ?_
    show Steps p.tables e below (s₁.setTop (mkF m 1 #[vA a1, vA a2, vI (0 : Int32), vI (1 : Int32), .val .null, vU] [(.ref a1)])) _
    refine st3 _ ?_
    refine XS.iloadN X3.here hx rfl (hb hby d2_4) rfl ?_
    show Steps p.tables e below (T3.setTop (mkF m 5 #[vA a1, vA a2, vI (0 : Int32), vI (1 : Int32), .val .null, vU] [(.int (1 : Int32))])) _
    refine XS.ifYes X3.here hx rfl (pc0 := 5) (pc' := 27) rfl (hb hby d2_5) rfl ((if0 _ _).trans (feq (by decide : ¬ ((1 : Int32) = (0 : Int32)))).2) (by decide) (by decide) ?_
    show Steps p.tables e below (T3.setTop (mkF m 27 #[vA a1, vA a2, vI (0 : Int32), vI (1 : Int32), .val .null, vU] [])) _
    refine st4 _ ?_
    show Steps p.tables e below (T4.setTop (mkF m 30 #[vA a1, vA a2, vI (0 : Int32), vI (1 : Int32), .val .null, vU] [(.int s_COMPACT_STRINGS)])) _
    refine XS.ifNo X4.here hx rfl (hb hby d2_30) rfl ((if0 _ _).trans (feq (show ¬ (s_COMPACT_STRINGS = (0 : Int32)) from hcs)).1) ?_
    refine XS.aloadN X4.here hx rfl (hb hby d2_33) rfl rfl ?_
    refine XS.iloadN X4.here hx rfl (hb hby d2_34) rfl ?_
    refine XS.iloadN X4.here hx rfl (hb hby d2_35) rfl ?_
    show Steps p.tables e below (T4.setTop (mkF m 36 #[vA a1, vA a2, vI (0 : Int32), vI (1 : Int32), .val .null, vU] [(.int (1 : Int32)), (.int (0 : Int32)), (.ref a2)])) _
    refine st5 _ ?_
    refine XS.astore X5.here hx rfl (hb hby d2_39) rfl rfl (l' := #[vA a1, vA a2, vI (0 : Int32), vI (1 : Int32), .val .null, vA b_5]) rfl ?_
    refine XS.aloadN X5.here hx rfl (hb hby d2_41) rfl rfl ?_
    refine XS.aload X5.here hx rfl (hb hby d2_42) rfl rfl ?_
    refine XS.iloadN X5.here hx rfl (hb hby d2_44) rfl ?_
    show Steps p.tables e below (T5.setTop (mkF m 45 #[vA a1, vA a2, vI (0 : Int32), vI (1 : Int32), .val .null, vA b_5] [(.int (1 : Int32)), (.ref b_5), (.ref a1)])) _
    refine st6 _ ?_
    show Steps p.tables e below (T6.setTop (mkF m 48 #[vA a1, vA a2, vI (0 : Int32), vI (1 : Int32), .val .null, vA b_5] [(.int (nar .byte ((t9_0 (1 : Int32) zz_5).toInt8.toInt32))), (.ref a1)])) _
    refine st7 _ ?_
    refine XS.aloadN X7.here hx rfl (hb hby d2_51) rfl rfl ?_
    refine XS.aload X7.here hx rfl (hb hby d2_52) rfl rfl ?_
    show Steps p.tables e below (T7.setTop (mkF m 54 #[vA a1, vA a2, vI (0 : Int32), vI (1 : Int32), .val .null, vA b_5] [(.ref b_5), (.ref a1)])) _
    refine st8 _ ?_
    show Steps p.tables e below (T8.setTop (mkF m 57 #[vA a1, vA a2, vI (0 : Int32), vI (1 : Int32), .val .null, vA b_5] [])) _
    exact X8.returnOut hx Bd.returns (hb hby d2_57) hr
  · show Q_rm2_1 Z a1 a2 s_COMPACT_STRINGS s__assertionsDisabled s_HI_BYTE_SHIFT s_LO_BYTE_SHIFT w_coder_a1 w_value_a1 k_a2 x_a2_0 h0 n0 _ T8.heap _
    rw [e8]
    exact ⟨b_5, ⟨k_5, ⟨zz_5, ⟨vs_5, ⟨rfl, N8, ((((Keep.refl h0 [a1]).trans K5 (fun _ q => nomatch q)).wr W7 (Or.inl (List.mem_of_getElem? (i := 0) rfl))).wr W8 (Or.inl (List.mem_of_getElem? (i := 0) rfl))), sz_b_5, f4, f5, Fw8, f6, i5_2⟩⟩⟩⟩⟩
theorem pd__28_5bCIILjava_2flang_2fVoid_3b_29V : parseMethodDescriptor "([CIILjava/lang/Void;)V" = some ⟨[(.array .char), .int, .int, (.object "java/lang/Void")], none⟩ := by decide +kernel
theorem d1_0 : decode jdk_42_method_3_code 0 = .ok (.aload_n 0, 1) := by decide +kernel
theorem d1_1 : decode jdk_42_method_3_code 1 = .ok (.aload_n 1, 1) := by decide +kernel
theorem d1_2 : decode jdk_42_method_3_code 2 = .ok (.iconst 0, 1) := by decide +kernel
theorem d1_3 : decode jdk_42_method_3_code 3 = .ok (.aload_n 1, 1) := by decide +kernel
theorem d1_4 : decode jdk_42_method_3_code 4 = .ok (.arraylength, 1) := by decide +kernel
theorem d1_5 : decode jdk_42_method_3_code 5 = .ok (.aconst_null, 1) := by decide +kernel
theorem d1_6 : decode jdk_42_method_3_code 6 = .ok (.invokespecial 27, 3) := by decide +kernel
theorem d1_9 : decode jdk_42_method_3_code 9 = .ok (.return_, 1) := by decide +kernel
theorem pn_1 : plainName "java/lang/String" = true := by first | (simp [plainName, overriddenIn]; done) | decide +kernel
theorem ef_1 (m : MethodId) (x0 : Addr) (x1 : Addr) : entryFrame m #[(.ref x0), (.ref x1)] 2 = mkF m 0 #[.val (.ref x0), .val (.ref x1)] [] := by first | (simp [entryFrame, mkF, argsToLocals, Value.category]; done) | rfl
def Q_rm1_1 (Z : State) (a1 : Addr) (a2 : Addr) (s_COMPACT_STRINGS : Int32) (s__assertionsDisabled : Int32) (s_HI_BYTE_SHIFT : Int32) (s_LO_BYTE_SHIFT : Int32) (w_coder_a1 : Int32) (w_value_a1 : Value) (k_a2 : ClassId) (x_a2_0 : Int32) (h0 : Heap) (n0 : Nat) (v : Option Value) (h : Heap) (L : List Loc) : Prop := ∃ b_5_3 : Addr, ∃ k_5_3 : ClassId, ∃ zz_5_3 : Int32, ∃ vs_5_3 : List Value, v = none ∧ Fr n0 L ∧ Keep h0 h [a1] ∧ h0.size ≤ b_5_3 ∧ Exa Z h a1 "java/lang/String" ∧ Fld Z h a1 "java/lang/String" "coder" "B" (.int (nar .byte (nar .byte ((t9_0 (1 : Int32) zz_5_3).toInt8.toInt32)))) ∧ Fld Z h a1 "java/lang/String" "value" "[B" (.ref b_5_3) ∧ Arv Z h b_5_3 k_5_3 .byte zz_5_3 vs_5_3 (.int (0 : Int32)) ∧ (zz_5_3 = (1 : Int32) ∨ zz_5_3 = (2 : Int32))
set_option maxRecDepth 65536 in
set_option maxHeartbeats 40000000 in
theorem rm1_1 (l : Launch) (Z : State) (a0 : Array Value) (hw : ∀ d ∈ tables_1, d.before a0 Z = true) (ws : List Jvm.Cond) (a1 : Addr) (a2 : Addr) (s_COMPACT_STRINGS : Int32) (s__assertionsDisabled : Int32) (s_HI_BYTE_SHIFT : Int32) (s_LO_BYTE_SHIFT : Int32) (w_coder_a1 : Int32) (w_value_a1 : Value) (k_a2 : ClassId) (x_a2_0 : Int32) (h0 : Heap) (n0 : Nat) (Z0 : n0 ≤ h0.size) (hcs : ¬ (s_COMPACT_STRINGS = (0 : Int32))) (hasd : ¬ (s__assertionsDisabled = (0 : Int32))) (hhi : s_HI_BYTE_SHIFT = (0 : Int32)) (hlo : s_LO_BYTE_SHIFT = (8 : Int32)) (hch0 : nar .char x_a2_0 = x_a2_0) (S_COMPACT_STRINGS : Sta Z h0 "java/lang/String" "COMPACT_STRINGS" "Z" (.int s_COMPACT_STRINGS)) (S__assertionsDisabled : Sta Z h0 "java/lang/StringUTF16" "$assertionsDisabled" "Z" (.int s__assertionsDisabled)) (S_HI_BYTE_SHIFT : Sta Z h0 "java/lang/StringUTF16" "HI_BYTE_SHIFT" "I" (.int s_HI_BYTE_SHIFT)) (S_LO_BYTE_SHIFT : Sta Z h0 "java/lang/StringUTF16" "LO_BYTE_SHIFT" "I" (.int s_LO_BYTE_SHIFT)) (F_coder_a1 : Fld Z h0 a1 "java/lang/String" "coder" "B" (.int w_coder_a1)) (F_value_a1 : Fld Z h0 a1 "java/lang/String" "value" "[B" w_value_a1) (E_a1 : Exa Z h0 a1 "java/lang/String") (g_a1 : n0 ≤ a1) (V_a2 : Arv Z h0 a2 k_a2 .char (1 : Int32) [(.int x_a2_0)] (.int (0 : Int32))) :
    MetFree l (⟨"java/lang/String", "<init>", "([C)V"⟩ : MethodName) (head1 (Jvm.Cond.code (⟨"java/lang/String", "<init>", "([C)V"⟩ : MethodName) jdk_42_method_3_code 2 none :: ws) ({ frames := 5, cells := 2, slots := 3, locals := 74 } : Room)) (fun a U => a = #[(.ref a1), (.ref a2)] ∧ Z.Warmed39 U.vm ∧ U.heap = h0) (fun _ _ _ _ _ => True) (fun _ U o U' => ∃ v L, o = .returned v ∧ Q_rm1_1 Z a1 a2 s_COMPACT_STRINGS s__assertionsDisabled s_HI_BYTE_SHIFT s_LO_BYTE_SHIFT w_coder_a1 w_value_a1 k_a2 x_a2_0 h0 n0 v U'.heap L ∧ FrameEnd U o U' L ({ frames := 5, cells := 2, slots := 3, locals := 74 } : Room).cells ({ frames := 5, cells := 2, slots := 3, locals := 74 } : Room).slots) := by
  have hi : ∀ (i : Nat) {d : Jvm.Cond}, tables_1[i]? = some d → d.before a0 Z = true := fun i d h => hw d (List.mem_of_getElem? h)
  refine MetFree.of_bodySF (plainFor_of_name pn_1) hisR ?_
  intro p e s m args below meth c s₁ Bd hml0 hP hK
  obtain ⟨rfl, hZ, hh⟩ := hP
  have hx := Bd.exec
  have hby := Bd.bytes
  have hml : c.maxLocals = 2 := hml0
  have hown : s.vm.findClass "java/lang/String" = some m.cls := findClass_of_methodNamed Bd.named
  have hnm := (name_of_methodNamed Bd.named Bd.method).1
  have X0 : Stand p l e ({ frames := 5, cells := 2, slots := 3, locals := 74 } : Room) s m #[(.ref a1), (.ref a2)] below meth c s₁ [] 0 0 := Stand.of_body Bd
  have e0 : s₁.heap = h0 := by rw [← hh, Bd.state]; rfl
  have N0 := Fr.nil n0
  have pre0 : ∀ t, Steps p.tables e below (s₁.setTop (mkF m 0 #[vA a1, vA a2] [])) t → Steps p.tables e below (s₁.setTop (entryFrame m #[(.ref a1), (.ref a2)] 2)) t := fun t k => castTop (ef_1 m a1 a2) k
  obtain ⟨cl_a2_0, Ar_a2_0, q_a2_0, Sz_a2_0, Ng_a2_0, Ha_a2_0, Gt_a2_0⟩ := id V_a2
  obtain ⟨_, _, ⟨T3, L3, k3, n3⟩, -, X3, ⟨Lc3, hQ3, l3, y3, z3⟩, st3⟩ := X0.specialBack hx (y := (⟨"java/lang/String", "<init>", "([CIILjava/lang/Void;)V"⟩ : MethodName)) rfl hown (mvT hZ (hi 9 rfl)) (mvT hZ (hi 10 rfl)) (mvT hZ (hi 12 rfl)) (by decide) (backOf (W := 0) (rm2_1 l Z a0 hw [] a1 a2 s_COMPACT_STRINGS s__assertionsDisabled s_HI_BYTE_SHIFT s_LO_BYTE_SHIFT w_coder_a1 w_value_a1 k_a2 x_a2_0 h0 n0 Z0 hcs hasd hhi hlo hch0 S_COMPACT_STRINGS S__assertionsDisabled S_HI_BYTE_SHIFT S_LO_BYTE_SHIFT E_a1 F_coder_a1 g_a1 F_value_a1 V_a2) hZ (hi 12 rfl) (hi 4 rfl) (by decide) (by decide)) (g := (mkF m 6 #[vA a1, vA a2] [.null, (.int (1 : Int32)), (.int (0 : Int32)), (.ref a2), (.ref a1)])) rfl (by rw [hml]; rfl) (Steps.refl _) (a := a1) (argsL := [(.ref a2), (.int (0 : Int32)), (.int (1 : Int32)), .null]) (rest := []) (lenOf pd__28_5bCIILjava_2flang_2fVoid_3b_29V rfl) rfl (by show 2 * 0 + _ ≤ _; exact Nat.le_of_eq rfl) (hb hby d1_6) (fun _ _ => ⟨rfl, e0, (by decide : 0 + 2 ≤ _), (by decide : 0 + 3 ≤ _)⟩)
  dsimp only [Pt.U, Pt.locs, Pt.cells, Pt.slots] at X3 l3 y3 z3 st3 hQ3
  subst l3 y3 z3
  obtain ⟨b_5_3, ⟨k_5_3, ⟨zz_5_3, ⟨vs_5_3, ⟨rfl, N3q, K3, i3_0, i3_1, i3_2, i3_3, i3_4, i3_5⟩⟩⟩⟩⟩ := hQ3
  have N3 := Fr.app N0 N3q
  have sz_b_5_3 : h0.size ≤ b_5_3 := Nat.le_trans (Nat.le_refl h0.size) i3_0
  have g_b_5_3 : n0 ≤ b_5_3 := Nat.le_trans Z0 sz_b_5_3
  obtain ⟨fs, hr, hrun, hended, hW, hsame⟩ := X3.leave (v := none) (fun _ => rfl)
  refine ⟨_, _, pre0 _ ?_, hrun, hended, _, _, rfl, ?_, ⟨_, rfl⟩, hW, hsame.mono (by decide) (by decide)⟩
  · show Steps p.tables e below (s₁.setTop (mkF m 0 #[vA a1, vA a2] [])) _
    refine XS.aloadN X0.here hx rfl (hb hby d1_0) rfl rfl ?_
    refine XS.aloadN X0.here hx rfl (hb hby d1_1) rfl rfl ?_
    refine XS.iconst X0.here hx rfl (hb hby d1_2) ?_
    refine XS.aloadN X0.here hx rfl (hb hby d1_3) rfl rfl ?_
    show Steps p.tables e below (s₁.setTop (mkF m 4 #[vA a1, vA a2] [(.ref a2), (.int (0 : Int32)), (.ref a2), (.ref a1)])) _
    refine X0.arraylength hx (by rw [e0]; exact Ar_a2_0.1) (State.isArrayOf_alike hZ.alike Ar_a2_0.2.1) (g := (mkF m 4 #[vA a1, vA a2] [(.ref a2), (.int (0 : Int32)), (.ref a2), (.ref a1)])) rfl rfl (hb hby d1_4) _ ?_
    rw [len_of Sz_a2_0 Ng_a2_0]
    refine XS.aconstNull X0.here hx rfl (hb hby d1_5) ?_
    show Steps p.tables e below (s₁.setTop (mkF m 6 #[vA a1, vA a2] [.null, (.int (1 : Int32)), (.int (0 : Int32)), (.ref a2), (.ref a1)])) _
    refine st3.trans ?_
    show Steps p.tables e below (T3.setTop (mkF m 9 #[vA a1, vA a2] [])) _
    exact X3.returnOut hx Bd.returns (hb hby d1_9) hr
  · show Q_rm1_1 Z a1 a2 s_COMPACT_STRINGS s__assertionsDisabled s_HI_BYTE_SHIFT s_LO_BYTE_SHIFT w_coder_a1 w_value_a1 k_a2 x_a2_0 h0 n0 _ T3.heap _
    exact ⟨b_5_3, ⟨k_5_3, ⟨zz_5_3, ⟨vs_5_3, ⟨rfl, N3, ((Keep.refl h0 [a1]).trans K3 (fun x q => (List.mem_cons.mp q).elim (fun r => r ▸ (Or.inl (List.mem_of_getElem? (i := 0) rfl))) ((fun _ q => nomatch q) x))), sz_b_5_3, i3_1, i3_2, i3_3, i3_4, i3_5⟩⟩⟩⟩⟩
def Q_rm12_2 (Z : State)  (h0 : Heap) (n0 : Nat) (v : Option Value) (h : Heap) (L : List Loc) : Prop := v = some (.int (4 : Int32)) ∧ Fr n0 L ∧ h = h0
set_option maxRecDepth 65536 in
set_option maxHeartbeats 40000000 in
theorem rm12_2 (l : Launch) (Z : State) (a0 : Array Value) (hw : ∀ d ∈ tables_1, d.before a0 Z = true) (ws : List Jvm.Cond)  (h0 : Heap) (n0 : Nat) (Z0 : n0 ≤ h0.size) :
    MetFree l (⟨"java/lang/StringUTF16", "newBytesLength", "(I)I"⟩ : MethodName) (head1 (Jvm.Cond.code (⟨"java/lang/StringUTF16", "newBytesLength", "(I)I"⟩ : MethodName) jdk_52_method_3_code 1 (some .int) :: ws) ({ frames := 0, cells := 0, slots := 0, locals := 0 } : Room)) (fun a U => a = #[(.int (2 : Int32))] ∧ Z.Warmed39 U.vm ∧ U.heap = h0) (fun _ _ _ _ _ => True) (fun _ U o U' => ∃ v L, o = .returned v ∧ Q_rm12_2 Z  h0 n0 v U'.heap L ∧ FrameEnd U o U' L ({ frames := 0, cells := 0, slots := 0, locals := 0 } : Room).cells ({ frames := 0, cells := 0, slots := 0, locals := 0 } : Room).slots) := by
  have hi : ∀ (i : Nat) {d : Jvm.Cond}, tables_1[i]? = some d → d.before a0 Z = true := fun i d h => hw d (List.mem_of_getElem? h)
  refine MetFree.of_bodySF (plainFor_of_name pn_12) hisR ?_
  intro p e s m args below meth c s₁ Bd hml0 hP hK
  obtain ⟨rfl, hZ, hh⟩ := hP
  have hx := Bd.exec
  have hby := Bd.bytes
  have hml : c.maxLocals = 1 := hml0
  have hown : s.vm.findClass "java/lang/StringUTF16" = some m.cls := findClass_of_methodNamed Bd.named
  have hnm := (name_of_methodNamed Bd.named Bd.method).1
  have X0 : Stand p l e ({ frames := 0, cells := 0, slots := 0, locals := 0 } : Room) s m #[(.int (2 : Int32))] below meth c s₁ [] 0 0 := Stand.of_body Bd
  have e0 : s₁.heap = h0 := by rw [← hh, Bd.state]; rfl
  have N0 := Fr.nil n0
  have pre0 : ∀ t, Steps p.tables e below (s₁.setTop (mkF m 0 #[vI (2 : Int32)] [])) t → Steps p.tables e below (s₁.setTop (entryFrame m #[(.int (2 : Int32))] 1)) t := fun t k => castTop (ef_12 m (2 : Int32)) k
  obtain ⟨fs, hr, hrun, hended, hW, hsame⟩ := X0.leave (v := some (.int (4 : Int32))) (fun h => by rw [Bd.returns] at h; cases h)
  refine ⟨_, _, pre0 _ ?_, hrun, hended, _, _, rfl, ?_, ⟨_, rfl⟩, hW, hsame.mono (by decide) (by decide)⟩
  · show Steps p.tables e below (s₁.setTop (mkF m 0 #[vI (2 : Int32)] [])) _
    refine XS.iloadN X0.here hx rfl (hb hby d12_0) rfl ?_
    show Steps p.tables e below (s₁.setTop (mkF m 1 #[vI (2 : Int32)] [(.int (2 : Int32))])) _
    refine XS.ifYes X0.here hx rfl (pc0 := 1) (pc' := 12) rfl (hb hby d12_1) rfl ((if0 _ _).trans (flt (by decide : ¬ ((2 : Int32) < (0 : Int32)))).2.1) (by decide) (by decide) ?_
    refine XS.iloadN X0.here hx rfl (hb hby d12_12) rfl ?_
    show Steps p.tables e below (s₁.setTop (mkF m 13 #[vI (2 : Int32)] [(.int (2 : Int32))])) _
    refine X0.ldcInt hx hown (mvT hZ (hi 62 rfl)) (g := (mkF m 13 #[vI (2 : Int32)] [(.int (2 : Int32))])) rfl (hb hby d12_13) _ ?_
    show Steps p.tables e below (s₁.setTop (mkF m 15 #[vI (2 : Int32)] [(.int (1073741823 : Int32)), (.int (2 : Int32))])) _
    refine XS.icmpYes X0.here hx rfl (pc0 := 15) (pc' := 55) rfl (hb hby d12_15) rfl (tlt (by decide : (2 : Int32) < (1073741823 : Int32))).1 (by decide) (by decide) ?_
    refine XS.iloadN X0.here hx rfl (hb hby d12_55) rfl ?_
    refine XS.iconst X0.here hx rfl (hb hby d12_56) ?_
    refine XS.ishl X0.here hx rfl (hb hby d12_57) rfl ?_
    show Steps p.tables e below (s₁.setTop (mkF m 58 #[vI (2 : Int32)] [(.int (4 : Int32))])) _
    exact retI X0 hx Bd.returns (hb hby d12_58) hr
  · show Q_rm12_2 Z  h0 n0 _ s₁.heap _
    exact ⟨rfl, N0, e0⟩
def Q_rm11_2 (Z : State)  (h0 : Heap) (n0 : Nat) (v : Option Value) (h : Heap) (L : List Loc) : Prop := ∃ b2 : Addr, ∃ k2 : ClassId, v = some (.ref b2) ∧ Fr n0 L ∧ Keep h0 h [] ∧ h0.size ≤ b2 ∧ Arv Z h b2 k2 .byte (4 : Int32) [(.int (0 : Int32)), (.int (0 : Int32)), (.int (0 : Int32)), (.int (0 : Int32))] (.int (0 : Int32))
set_option maxRecDepth 65536 in
set_option maxHeartbeats 40000000 in
theorem rm11_2 (l : Launch) (Z : State) (a0 : Array Value) (hw : ∀ d ∈ tables_1, d.before a0 Z = true) (ws : List Jvm.Cond)  (h0 : Heap) (n0 : Nat) (Z0 : n0 ≤ h0.size) :
    MetFree l (⟨"java/lang/StringUTF16", "newBytesFor", "(I)[B"⟩ : MethodName) (head1 (Jvm.Cond.code (⟨"java/lang/StringUTF16", "newBytesFor", "(I)[B"⟩ : MethodName) jdk_52_method_2_code 1 (some (.array .byte)) :: ws) ({ frames := 1, cells := 1, slots := 4, locals := 12 } : Room)) (fun a U => a = #[(.int (2 : Int32))] ∧ Z.Warmed39 U.vm ∧ U.heap = h0) (fun _ _ _ _ _ => True) (fun _ U o U' => ∃ v L, o = .returned v ∧ Q_rm11_2 Z  h0 n0 v U'.heap L ∧ FrameEnd U o U' L ({ frames := 1, cells := 1, slots := 4, locals := 12 } : Room).cells ({ frames := 1, cells := 1, slots := 4, locals := 12 } : Room).slots) := by
  have hi : ∀ (i : Nat) {d : Jvm.Cond}, tables_1[i]? = some d → d.before a0 Z = true := fun i d h => hw d (List.mem_of_getElem? h)
  refine MetFree.of_bodySF (plainFor_of_name pn_11) hisR ?_
  intro p e s m args below meth c s₁ Bd hml0 hP hK
  obtain ⟨rfl, hZ, hh⟩ := hP
  have hx := Bd.exec
  have hby := Bd.bytes
  have hml : c.maxLocals = 1 := hml0
  have hown : s.vm.findClass "java/lang/StringUTF16" = some m.cls := findClass_of_methodNamed Bd.named
  have hnm := (name_of_methodNamed Bd.named Bd.method).1
  have X0 : Stand p l e ({ frames := 1, cells := 1, slots := 4, locals := 12 } : Room) s m #[(.int (2 : Int32))] below meth c s₁ [] 0 0 := Stand.of_body Bd
  have e0 : s₁.heap = h0 := by rw [← hh, Bd.state]; rfl
  have N0 := Fr.nil n0
  have pre0 : ∀ t, Steps p.tables e below (s₁.setTop (mkF m 0 #[vI (2 : Int32)] [])) t → Steps p.tables e below (s₁.setTop (entryFrame m #[(.int (2 : Int32))] 1)) t := fun t k => castTop (ef_11 m (2 : Int32)) k
  obtain ⟨_, _, ⟨T1, L1, k1, n1⟩, -, X1, ⟨Lc1, hQ1, l1, y1, z1⟩, st1⟩ := Jvm.LawKit.callS X0 hx (y := (⟨"java/lang/StringUTF16", "newBytesLength", "(I)I"⟩ : MethodName)) hown (mvT hZ (hi 59 rfl)) (mvT hZ (hi 60 rfl)) (mvT hZ (hi 45 rfl)) (mvT hZ (hi 61 rfl)) (by decide) (backOf (W := 0) (rm12_2 l Z a0 hw []  h0 n0 Z0 ) hZ (hi 61 rfl) (hi 45 rfl) (by decide) (by decide)) (g := (mkF m 1 #[vI (2 : Int32)] [(.int (2 : Int32))])) rfl (by rw [hml]; rfl) (argsL := [(.int (2 : Int32))]) (rest := []) (lenOf pd__28I_29I rfl) rfl (by show 2 * 0 + _ ≤ _; exact Nat.le_of_eq rfl) (hb hby d11_1) (fun _ _ => ⟨rfl, e0, (by decide : 0 + 0 ≤ _), (by decide : 0 + 0 ≤ _)⟩)
  dsimp only [Pt.U, Pt.locs, Pt.cells, Pt.slots] at X1 l1 y1 z1 st1 hQ1
  subst l1 y1 z1
  obtain ⟨rfl, N1q, e1⟩ := hQ1
  have N1 := Fr.app N0 N1q
  obtain ⟨T2, h2, k2, X2, e2, E2, A2, st2⟩ := newP X1 hx hZ (hi 17 rfl) e1 (g := (mkF m 4 #[vI (2 : Int32)] [(.int (4 : Int32))])) rfl (hb hby d11_4) rfl (by decide) (cap := 4) (by decide) (by decide) (by decide) (by decide)
  obtain ⟨b2, g2⟩ : ∃ z, z = h0.size := ⟨_, rfl⟩
  rw [← g2] at A2 st2
  have g_b2 : n0 ≤ b2 := Nat.le_trans Z0 (Nat.le_of_eq g2.symm)
  have sz_b2 : h0.size ≤ b2 := Nat.le_trans (Nat.le_refl h0.size) (Nat.le_of_eq g2.symm)
  have V_b2 : Arv Z h2 b2 k2 .byte (4 : Int32) [(.int (0 : Int32)), (.int (0 : Int32)), (.int (0 : Int32)), (.int (0 : Int32))] (.int (0 : Int32)) := (Arv.new A2 (by decide)).pad (pad_rep [] (.int (0 : Int32)) 4)
  obtain ⟨fs, hr, hrun, hended, hW, hsame⟩ := X2.leave (v := some (.ref b2)) (fun h => by rw [Bd.returns] at h; cases h)
  refine ⟨_, _, pre0 _ ?_, hrun, hended, _, _, rfl, ?_, ⟨_, rfl⟩, hW, hsame.mono (by decide) (by decide)⟩
  · show Steps p.tables e below (s₁.setTop (mkF m 0 #[vI (2 : Int32)] [])) _
    refine XS.iloadN X0.here hx rfl (hb hby d11_0) rfl ?_
    show Steps p.tables e below (s₁.setTop (mkF m 1 #[vI (2 : Int32)] [(.int (2 : Int32))])) _
    refine st1 _ ?_
    show Steps p.tables e below (T1.setTop (mkF m 4 #[vI (2 : Int32)] [(.int (4 : Int32))])) _
    refine st2 _ ?_
    show Steps p.tables e below (T2.setTop (mkF m 6 #[vI (2 : Int32)] [(.ref b2)])) _
    jvm_step X2.here [X2.here.top, hx, (hb hby d11_6), X2.method', Bd.returns, Value.isRef, FieldType.isReference]
    first | (intro acts; rw [hr _ acts rfl rfl rfl]) | rw [hr _ _ rfl rfl rfl]
    exact Steps.refl _
  · show Q_rm11_2 Z  h0 n0 _ T2.heap _
    rw [e2]
    exact ⟨b2, ⟨k2, ⟨rfl, N1, ((Keep.refl h0 []).ext E2), sz_b2, V_b2⟩⟩⟩
def Q_rm13_2_0 (Z : State) (a1 : Addr) (p2 : Int32) (s__assertionsDisabled : Int32) (s_HI_BYTE_SHIFT : Int32) (s_LO_BYTE_SHIFT : Int32) (k_a1 : ClassId) (x_a1_0 : Int32) (x_a1_1 : Int32) (x_a1_2 : Int32) (x_a1_3 : Int32) (h0 : Heap) (n0 : Nat) (v : Option Value) (h : Heap) (L : List Loc) : Prop := v = none ∧ Fr n0 L ∧ Keep h0 h [a1] ∧ Arv Z h a1 k_a1 .byte (4 : Int32) [(.int (nar .byte ((p2 >>> (s_HI_BYTE_SHIFT &&& 31)).toInt8.toInt32))), (.int (nar .byte ((p2 >>> (s_LO_BYTE_SHIFT &&& 31)).toInt8.toInt32))), (.int x_a1_2), (.int x_a1_3)] (.int (0 : Int32))
set_option maxRecDepth 65536 in
set_option maxHeartbeats 40000000 in
theorem rm13_2_0 (l : Launch) (Z : State) (a0 : Array Value) (hw : ∀ d ∈ tables_1, d.before a0 Z = true) (ws : List Jvm.Cond) (a1 : Addr) (p2 : Int32) (s__assertionsDisabled : Int32) (s_HI_BYTE_SHIFT : Int32) (s_LO_BYTE_SHIFT : Int32) (k_a1 : ClassId) (x_a1_0 : Int32) (x_a1_1 : Int32) (x_a1_2 : Int32) (x_a1_3 : Int32) (h0 : Heap) (n0 : Nat) (Z0 : n0 ≤ h0.size) (hasd : ¬ (s__assertionsDisabled = (0 : Int32))) (S__assertionsDisabled : Sta Z h0 "java/lang/StringUTF16" "$assertionsDisabled" "Z" (.int s__assertionsDisabled)) (S_HI_BYTE_SHIFT : Sta Z h0 "java/lang/StringUTF16" "HI_BYTE_SHIFT" "I" (.int s_HI_BYTE_SHIFT)) (g_a1 : n0 ≤ a1) (S_LO_BYTE_SHIFT : Sta Z h0 "java/lang/StringUTF16" "LO_BYTE_SHIFT" "I" (.int s_LO_BYTE_SHIFT)) (V_a1 : Arv Z h0 a1 k_a1 .byte (4 : Int32) [(.int x_a1_0), (.int x_a1_1), (.int x_a1_2), (.int x_a1_3)] (.int (0 : Int32))) :
    MetFree l (⟨"java/lang/StringUTF16", "putChar", "([BII)V"⟩ : MethodName) (head1 (Jvm.Cond.code (⟨"java/lang/StringUTF16", "putChar", "([BII)V"⟩ : MethodName) jdk_52_method_4_code 3 none :: ws) ({ frames := 0, cells := 0, slots := 0, locals := 0 } : Room)) (fun a U => a = #[(.ref a1), (.int (0 : Int32)), (.int p2)] ∧ Z.Warmed39 U.vm ∧ U.heap = h0) (fun _ _ _ _ _ => True) (fun _ U o U' => ∃ v L, o = .returned v ∧ Q_rm13_2_0 Z a1 p2 s__assertionsDisabled s_HI_BYTE_SHIFT s_LO_BYTE_SHIFT k_a1 x_a1_0 x_a1_1 x_a1_2 x_a1_3 h0 n0 v U'.heap L ∧ FrameEnd U o U' L ({ frames := 0, cells := 0, slots := 0, locals := 0 } : Room).cells ({ frames := 0, cells := 0, slots := 0, locals := 0 } : Room).slots) := by
  have hi : ∀ (i : Nat) {d : Jvm.Cond}, tables_1[i]? = some d → d.before a0 Z = true := fun i d h => hw d (List.mem_of_getElem? h)
  refine MetFree.of_bodySF (plainFor_of_name pn_13) hisR ?_
  intro p e s m args below meth c s₁ Bd hml0 hP hK
  obtain ⟨rfl, hZ, hh⟩ := hP
  have hx := Bd.exec
  have hby := Bd.bytes
  have hml : c.maxLocals = 3 := hml0
  have hown : s.vm.findClass "java/lang/StringUTF16" = some m.cls := findClass_of_methodNamed Bd.named
  have hnm := (name_of_methodNamed Bd.named Bd.method).1
  have X0 : Stand p l e ({ frames := 0, cells := 0, slots := 0, locals := 0 } : Room) s m #[(.ref a1), (.int (0 : Int32)), (.int p2)] below meth c s₁ [] 0 0 := Stand.of_body Bd
  have e0 : s₁.heap = h0 := by rw [← hh, Bd.state]; rfl
  have N0 := Fr.nil n0
  have pre0 : ∀ t, Steps p.tables e below (s₁.setTop (mkF m 0 #[vA a1, vI (0 : Int32), vI p2] [])) t → Steps p.tables e below (s₁.setTop (entryFrame m #[(.ref a1), (.int (0 : Int32)), (.int p2)] 3)) t := fun t k => castTop (ef_13 m a1 (0 : Int32) p2) k
  obtain ⟨T3, X3, e3, st3⟩ := getS2 X0 hx hZ hown (host := "") (Or.inl (hi 66 rfl)) Via.refl e0 S__assertionsDisabled (g := (mkF m 0 #[vA a1, vI (0 : Int32), vI p2] [])) rfl (hb hby d13_0)
  obtain ⟨T4, X4, e4, st4⟩ := getS2 X3 hx hZ hown (host := "") (Or.inl (hi 67 rfl)) Via.refl e3 S_HI_BYTE_SHIFT (g := (mkF m 38 #[vA a1, vI (1 : Int32), vI p2] [(.int p2), (.int (0 : Int32)), (.ref a1)])) rfl (hb hby d13_38)
  obtain ⟨cl_a1_0, Ar_a1_0, q_a1_0, Sz_a1_0, Ng_a1_0, Ha_a1_0, Gt_a1_0⟩ := id V_a1
  have hin_a1_0 : ¬ ((0 : Int32) < 0 ∨ cl_a1_0.slots.size ≤ ((0 : Int32)).toNatClampNeg) := inb_of Sz_a1_0 ⟨by decide, by decide⟩
  obtain ⟨T5, h5, X5, e5, W5, st5⟩ := stB X4 hx hZ e4 Ar_a1_0 (j := (0 : Int32)) hin_a1_0 (g := (mkF m 43 #[vA a1, vI (1 : Int32), vI p2] [(.int ((p2 >>> (s_HI_BYTE_SHIFT &&& 31)).toInt8.toInt32)), (.int (0 : Int32)), (.ref a1)])) rfl rfl (hb hby d13_43)
  have V5 : Arv Z h5 a1 k_a1 .byte (4 : Int32) [(.int (nar .byte ((p2 >>> (s_HI_BYTE_SHIFT &&& 31)).toInt8.toInt32))), (.int x_a1_1), (.int x_a1_2), (.int x_a1_3)] (.int (0 : Int32)) := Arv.set Ar_a1_0 q_a1_0 Sz_a1_0 Ng_a1_0 Ha_a1_0 Gt_a1_0 (fits_nar_byte _) W5 0 rfl (Nat.le_of_ble_eq_true rfl)
  have N5 := Fr.snoc X5 N0 g_a1
  have f1 := (S_LO_BYTE_SHIFT.wr W5)
  obtain ⟨T6, X6, e6, st6⟩ := getS2 X5 hx hZ hown (host := "") (Or.inl (hi 68 rfl)) Via.refl e5 f1 (g := (mkF m 47 #[vA a1, vI (1 : Int32), vI p2] [(.int p2), (.int (1 : Int32)), (.ref a1)])) rfl (hb hby d13_47)
  obtain ⟨cl_a1_2, Ar_a1_2, q_a1_2, Sz_a1_2, Ng_a1_2, Ha_a1_2, Gt_a1_2⟩ := id V5
  have hin_a1_2 : ¬ ((1 : Int32) < 0 ∨ cl_a1_2.slots.size ≤ ((1 : Int32)).toNatClampNeg) := inb_of Sz_a1_2 ⟨by decide, by decide⟩
  obtain ⟨T7, h7, X7, e7, W7, st7⟩ := stB X6 hx hZ e6 Ar_a1_2 (j := (1 : Int32)) hin_a1_2 (g := (mkF m 52 #[vA a1, vI (1 : Int32), vI p2] [(.int ((p2 >>> (s_LO_BYTE_SHIFT &&& 31)).toInt8.toInt32)), (.int (1 : Int32)), (.ref a1)])) rfl rfl (hb hby d13_52)
  have V7 : Arv Z h7 a1 k_a1 .byte (4 : Int32) [(.int (nar .byte ((p2 >>> (s_HI_BYTE_SHIFT &&& 31)).toInt8.toInt32))), (.int (nar .byte ((p2 >>> (s_LO_BYTE_SHIFT &&& 31)).toInt8.toInt32))), (.int x_a1_2), (.int x_a1_3)] (.int (0 : Int32)) := Arv.set Ar_a1_2 q_a1_2 Sz_a1_2 Ng_a1_2 Ha_a1_2 Gt_a1_2 (fits_nar_byte _) W7 1 rfl (Nat.le_of_ble_eq_true rfl)
  have N7 := Fr.snoc X7 N5 g_a1
  obtain ⟨fs, hr, hrun, hended, hW, hsame⟩ := X7.leave (v := none) (fun _ => rfl)
  refine ⟨_, _, pre0 _ ?_, hrun, hended, _, _, rfl, ?_, ⟨_, rfl⟩, hW, hsame.mono (by decide) (by decide)⟩
  · show Steps p.tables e below (s₁.setTop (mkF m 0 #[vA a1, vI (0 : Int32), vI p2] [])) _
    refine st3 _ ?_
    show Steps p.tables e below (T3.setTop (mkF m 3 #[vA a1, vI (0 : Int32), vI p2] [(.int s__assertionsDisabled)])) _
    refine XS.ifYes X3.here hx rfl (pc0 := 3) (pc' := 28) rfl (hb hby d13_3) rfl ((if0 _ _).trans (feq (show ¬ (s__assertionsDisabled = (0 : Int32)) from hasd)).2) (by decide) (by decide) ?_
    refine XS.iloadN X3.here hx rfl (hb hby d13_28) rfl ?_
    refine XS.iconst X3.here hx rfl (hb hby d13_29) ?_
    refine XS.ishl X3.here hx rfl (hb hby d13_30) rfl ?_
    refine XS.istoreN X3.here hx rfl (hb hby d13_31) rfl (l' := #[vA a1, vI (0 : Int32), vI p2]) rfl ?_
    refine XS.aloadN X3.here hx rfl (hb hby d13_32) rfl rfl ?_
    refine XS.iloadN X3.here hx rfl (hb hby d13_33) rfl ?_
    refine XS.iinc X3.here hx rfl (hb hby d13_34) rfl (l' := #[vA a1, vI (1 : Int32), vI p2]) rfl ?_
    refine XS.iloadN X3.here hx rfl (hb hby d13_37) rfl ?_
    show Steps p.tables e below (T3.setTop (mkF m 38 #[vA a1, vI (1 : Int32), vI p2] [(.int p2), (.int (0 : Int32)), (.ref a1)])) _
    refine st4 _ ?_
    refine XS.ishr X4.here hx rfl (hb hby d13_41) rfl ?_
    refine XS.i2b X4.here hx rfl (hb hby d13_42) rfl ?_
    show Steps p.tables e below (T4.setTop (mkF m 43 #[vA a1, vI (1 : Int32), vI p2] [(.int ((p2 >>> (s_HI_BYTE_SHIFT &&& 31)).toInt8.toInt32)), (.int (0 : Int32)), (.ref a1)])) _
    refine st5 _ ?_
    refine XS.aloadN X5.here hx rfl (hb hby d13_44) rfl rfl ?_
    refine XS.iloadN X5.here hx rfl (hb hby d13_45) rfl ?_
    refine XS.iloadN X5.here hx rfl (hb hby d13_46) rfl ?_
    show Steps p.tables e below (T5.setTop (mkF m 47 #[vA a1, vI (1 : Int32), vI p2] [(.int p2), (.int (1 : Int32)), (.ref a1)])) _
    refine st6 _ ?_
    refine XS.ishr X6.here hx rfl (hb hby d13_50) rfl ?_
    refine XS.i2b X6.here hx rfl (hb hby d13_51) rfl ?_
    show Steps p.tables e below (T6.setTop (mkF m 52 #[vA a1, vI (1 : Int32), vI p2] [(.int ((p2 >>> (s_LO_BYTE_SHIFT &&& 31)).toInt8.toInt32)), (.int (1 : Int32)), (.ref a1)])) _
    refine st7 _ ?_
    show Steps p.tables e below (T7.setTop (mkF m 53 #[vA a1, vI (1 : Int32), vI p2] [])) _
    exact X7.returnOut hx Bd.returns (hb hby d13_53) hr
  · show Q_rm13_2_0 Z a1 p2 s__assertionsDisabled s_HI_BYTE_SHIFT s_LO_BYTE_SHIFT k_a1 x_a1_0 x_a1_1 x_a1_2 x_a1_3 h0 n0 _ T7.heap _
    rw [e7]
    exact ⟨rfl, N7, (((Keep.refl h0 [a1]).wr W5 (Or.inl (List.mem_of_getElem? (i := 0) rfl))).wr W7 (Or.inl (List.mem_of_getElem? (i := 0) rfl))), V7⟩
def Q_rm14_2_0 (Z : State) (a1 : Addr) (s__assertionsDisabled : Int32) (s_HI_BYTE_SHIFT : Int32) (s_LO_BYTE_SHIFT : Int32) (k_a1 : ClassId) (x_a1_0 : Int32) (x_a1_1 : Int32) (x_a1_2 : Int32) (x_a1_3 : Int32) (h0 : Heap) (n0 : Nat) (v : Option Value) (h : Heap) (L : List Loc) : Prop := v = some (.int (nar .char (t14_1 s_HI_BYTE_SHIFT s_LO_BYTE_SHIFT x_a1_0 x_a1_1))) ∧ Fr n0 L ∧ h = h0
set_option maxRecDepth 65536 in
set_option maxHeartbeats 40000000 in
theorem rm14_2_0 (l : Launch) (Z : State) (a0 : Array Value) (hw : ∀ d ∈ tables_1, d.before a0 Z = true) (ws : List Jvm.Cond) (a1 : Addr) (s__assertionsDisabled : Int32) (s_HI_BYTE_SHIFT : Int32) (s_LO_BYTE_SHIFT : Int32) (k_a1 : ClassId) (x_a1_0 : Int32) (x_a1_1 : Int32) (x_a1_2 : Int32) (x_a1_3 : Int32) (h0 : Heap) (n0 : Nat) (Z0 : n0 ≤ h0.size) (hasd : ¬ (s__assertionsDisabled = (0 : Int32))) (S__assertionsDisabled : Sta Z h0 "java/lang/StringUTF16" "$assertionsDisabled" "Z" (.int s__assertionsDisabled)) (S_HI_BYTE_SHIFT : Sta Z h0 "java/lang/StringUTF16" "HI_BYTE_SHIFT" "I" (.int s_HI_BYTE_SHIFT)) (S_LO_BYTE_SHIFT : Sta Z h0 "java/lang/StringUTF16" "LO_BYTE_SHIFT" "I" (.int s_LO_BYTE_SHIFT)) (V_a1 : Arv Z h0 a1 k_a1 .byte (4 : Int32) [(.int x_a1_0), (.int x_a1_1), (.int x_a1_2), (.int x_a1_3)] (.int (0 : Int32))) :
    MetFree l (⟨"java/lang/StringUTF16", "getChar", "([BI)C"⟩ : MethodName) (head1 (Jvm.Cond.code (⟨"java/lang/StringUTF16", "getChar", "([BI)C"⟩ : MethodName) jdk_52_method_5_code 2 (some .char) :: ws) ({ frames := 0, cells := 0, slots := 0, locals := 0 } : Room)) (fun a U => a = #[(.ref a1), (.int (0 : Int32))] ∧ Z.Warmed39 U.vm ∧ U.heap = h0) (fun _ _ _ _ _ => True) (fun _ U o U' => ∃ v L, o = .returned v ∧ Q_rm14_2_0 Z a1 s__assertionsDisabled s_HI_BYTE_SHIFT s_LO_BYTE_SHIFT k_a1 x_a1_0 x_a1_1 x_a1_2 x_a1_3 h0 n0 v U'.heap L ∧ FrameEnd U o U' L ({ frames := 0, cells := 0, slots := 0, locals := 0 } : Room).cells ({ frames := 0, cells := 0, slots := 0, locals := 0 } : Room).slots) := by
  have hi : ∀ (i : Nat) {d : Jvm.Cond}, tables_1[i]? = some d → d.before a0 Z = true := fun i d h => hw d (List.mem_of_getElem? h)
  refine MetFree.of_bodySF (plainFor_of_name pn_14) hisR ?_
  intro p e s m args below meth c s₁ Bd hml0 hP hK
  obtain ⟨rfl, hZ, hh⟩ := hP
  have hx := Bd.exec
  have hby := Bd.bytes
  have hml : c.maxLocals = 2 := hml0
  have hown : s.vm.findClass "java/lang/StringUTF16" = some m.cls := findClass_of_methodNamed Bd.named
  have hnm := (name_of_methodNamed Bd.named Bd.method).1
  have X0 : Stand p l e ({ frames := 0, cells := 0, slots := 0, locals := 0 } : Room) s m #[(.ref a1), (.int (0 : Int32))] below meth c s₁ [] 0 0 := Stand.of_body Bd
  have e0 : s₁.heap = h0 := by rw [← hh, Bd.state]; rfl
  have N0 := Fr.nil n0
  have pre0 : ∀ t, Steps p.tables e below (s₁.setTop (mkF m 0 #[vA a1, vI (0 : Int32)] [])) t → Steps p.tables e below (s₁.setTop (entryFrame m #[(.ref a1), (.int (0 : Int32))] 2)) t := fun t k => castTop (ef_14 m a1 (0 : Int32)) k
  obtain ⟨T2, X2, e2, st2⟩ := getS2 X0 hx hZ hown (host := "") (Or.inl (hi 66 rfl)) Via.refl e0 S__assertionsDisabled (g := (mkF m 0 #[vA a1, vI (0 : Int32)] [])) rfl (hb hby d14_0)
  obtain ⟨cl_a1_0, Ar_a1_0, q_a1_0, Sz_a1_0, Ng_a1_0, Ha_a1_0, Gt_a1_0⟩ := id V_a1
  have hin_a1_0 : ¬ ((0 : Int32) < 0 ∨ cl_a1_0.slots.size ≤ ((0 : Int32)).toNatClampNeg) := inb_of Sz_a1_0 ⟨by decide, by decide⟩
  have hat_a1_0 : cl_a1_0.slots[((0 : Int32)).toNatClampNeg]? = some (.int x_a1_0) := (Ha_a1_0 _ (Nat.lt_of_not_le fun q => hin_a1_0 (Or.inr q))).trans (congrArg some (rfl : (([(.int x_a1_0), (.int x_a1_1), (.int x_a1_2), (.int x_a1_3)] : List Value)).getD ((0 : Int32)).toNatClampNeg (.int (0 : Int32)) = (.int x_a1_0)))
  obtain ⟨T3, X3, e3, st3⟩ := getS2 X2 hx hZ hown (host := "") (Or.inl (hi 67 rfl)) Via.refl e2 S_HI_BYTE_SHIFT (g := (mkF m 42 #[vA a1, vI (1 : Int32)] [(.int (x_a1_0 &&& (255 : Int32)))])) rfl (hb hby d14_42)
  obtain ⟨cl_a1_1, Ar_a1_1, q_a1_1, Sz_a1_1, Ng_a1_1, Ha_a1_1, Gt_a1_1⟩ := id V_a1
  have hin_a1_1 : ¬ ((1 : Int32) < 0 ∨ cl_a1_1.slots.size ≤ ((1 : Int32)).toNatClampNeg) := inb_of Sz_a1_1 ⟨by decide, by decide⟩
  have hat_a1_1 : cl_a1_1.slots[((1 : Int32)).toNatClampNeg]? = some (.int x_a1_1) := (Ha_a1_1 _ (Nat.lt_of_not_le fun q => hin_a1_1 (Or.inr q))).trans (congrArg some (rfl : (([(.int x_a1_0), (.int x_a1_1), (.int x_a1_2), (.int x_a1_3)] : List Value)).getD ((1 : Int32)).toNatClampNeg (.int (0 : Int32)) = (.int x_a1_1)))
  obtain ⟨T4, X4, e4, st4⟩ := getS2 X3 hx hZ hown (host := "") (Or.inl (hi 68 rfl)) Via.refl e3 S_LO_BYTE_SHIFT (g := (mkF m 53 #[vA a1, vI (1 : Int32)] [(.int (x_a1_1 &&& (255 : Int32))), (.int ((x_a1_0 &&& (255 : Int32)) <<< (s_HI_BYTE_SHIFT &&& 31)))])) rfl (hb hby d14_53)
  obtain ⟨fs, hr, hrun, hended, hW, hsame⟩ := X4.leave (v := some (.int (nar .char (t14_1 s_HI_BYTE_SHIFT s_LO_BYTE_SHIFT x_a1_0 x_a1_1)))) (fun h => by rw [Bd.returns] at h; cases h)
  refine ⟨_, _, pre0 _ ?_, hrun, hended, _, _, rfl, ?_, ⟨_, rfl⟩, hW, hsame.mono (by decide) (by decide)⟩
  · show Steps p.tables e below (s₁.setTop (mkF m 0 #[vA a1, vI (0 : Int32)] [])) _
    refine st2 _ ?_
    show Steps p.tables e below (T2.setTop (mkF m 3 #[vA a1, vI (0 : Int32)] [(.int s__assertionsDisabled)])) _
    refine XS.ifYes X2.here hx rfl (pc0 := 3) (pc' := 28) rfl (hb hby d14_3) rfl ((if0 _ _).trans (feq (show ¬ (s__assertionsDisabled = (0 : Int32)) from hasd)).2) (by decide) (by decide) ?_
    refine XS.iloadN X2.here hx rfl (hb hby d14_28) rfl ?_
    refine XS.iconst X2.here hx rfl (hb hby d14_29) ?_
    refine XS.ishl X2.here hx rfl (hb hby d14_30) rfl ?_
    refine XS.istoreN X2.here hx rfl (hb hby d14_31) rfl (l' := #[vA a1, vI (0 : Int32)]) rfl ?_
    refine XS.aloadN X2.here hx rfl (hb hby d14_32) rfl rfl ?_
    refine XS.iloadN X2.here hx rfl (hb hby d14_33) rfl ?_
    refine XS.iinc X2.here hx rfl (hb hby d14_34) rfl (l' := #[vA a1, vI (1 : Int32)]) rfl ?_
    show Steps p.tables e below (T2.setTop (mkF m 37 #[vA a1, vI (1 : Int32)] [(.int (0 : Int32)), (.ref a1)])) _
    refine X2.baloadBytes hx (j := (0 : Int32)) (v := (.int x_a1_0)) (by rw [e2]; exact Ar_a1_0.1) (State.isArrayOf_alike hZ.alike Ar_a1_0.2.1) Ar_a1_0.2.2 hin_a1_0 hat_a1_0 (g := (mkF m 37 #[vA a1, vI (1 : Int32)] [(.int (0 : Int32)), (.ref a1)])) rfl rfl (hb hby d14_37) _ ?_
    refine XS.sipush X2.here hx rfl (hb hby d14_38) ?_
    refine XS.iand X2.here hx rfl (hb hby d14_41) rfl ?_
    show Steps p.tables e below (T2.setTop (mkF m 42 #[vA a1, vI (1 : Int32)] [(.int (x_a1_0 &&& (255 : Int32)))])) _
    refine st3 _ ?_
    refine XS.ishl X3.here hx rfl (hb hby d14_45) rfl ?_
    refine XS.aloadN X3.here hx rfl (hb hby d14_46) rfl rfl ?_
    refine XS.iloadN X3.here hx rfl (hb hby d14_47) rfl ?_
    show Steps p.tables e below (T3.setTop (mkF m 48 #[vA a1, vI (1 : Int32)] [(.int (1 : Int32)), (.ref a1), (.int ((x_a1_0 &&& (255 : Int32)) <<< (s_HI_BYTE_SHIFT &&& 31)))])) _
    refine X3.baloadBytes hx (j := (1 : Int32)) (v := (.int x_a1_1)) (by rw [e3]; exact Ar_a1_1.1) (State.isArrayOf_alike hZ.alike Ar_a1_1.2.1) Ar_a1_1.2.2 hin_a1_1 hat_a1_1 (g := (mkF m 48 #[vA a1, vI (1 : Int32)] [(.int (1 : Int32)), (.ref a1), (.int ((x_a1_0 &&& (255 : Int32)) <<< (s_HI_BYTE_SHIFT &&& 31)))])) rfl rfl (hb hby d14_48) _ ?_
    refine XS.sipush X3.here hx rfl (hb hby d14_49) ?_
    refine XS.iand X3.here hx rfl (hb hby d14_52) rfl ?_
    show Steps p.tables e below (T3.setTop (mkF m 53 #[vA a1, vI (1 : Int32)] [(.int (x_a1_1 &&& (255 : Int32))), (.int ((x_a1_0 &&& (255 : Int32)) <<< (s_HI_BYTE_SHIFT &&& 31)))])) _
    refine st4 _ ?_
    refine XS.ishl X4.here hx rfl (hb hby d14_56) rfl ?_
    refine XS.ior X4.here hx rfl (hb hby d14_57) rfl ?_
    refine XS.i2c X4.here hx rfl (hb hby d14_58) rfl ?_
    show Steps p.tables e below (T4.setTop (mkF m 59 #[vA a1, vI (1 : Int32)] [(.int (t14_1 s_HI_BYTE_SHIFT s_LO_BYTE_SHIFT x_a1_0 x_a1_1))])) _
    exact retN X4 hx (t := .char) Bd.returns (by simp) (hb hby d14_59) hr
  · show Q_rm14_2_0 Z a1 s__assertionsDisabled s_HI_BYTE_SHIFT s_LO_BYTE_SHIFT k_a1 x_a1_0 x_a1_1 x_a1_2 x_a1_3 h0 n0 _ T4.heap _
    exact ⟨rfl, N0, e4⟩
def Q_rm13_2_1 (Z : State) (a1 : Addr) (p2 : Int32) (s__assertionsDisabled : Int32) (s_HI_BYTE_SHIFT : Int32) (s_LO_BYTE_SHIFT : Int32) (k_a1 : ClassId) (x_a1_0 : Int32) (x_a1_1 : Int32) (x_a1_2 : Int32) (x_a1_3 : Int32) (h0 : Heap) (n0 : Nat) (v : Option Value) (h : Heap) (L : List Loc) : Prop := v = none ∧ Fr n0 L ∧ Keep h0 h [a1] ∧ Arv Z h a1 k_a1 .byte (4 : Int32) [(.int x_a1_0), (.int x_a1_1), (.int (nar .byte ((p2 >>> (s_HI_BYTE_SHIFT &&& 31)).toInt8.toInt32))), (.int (nar .byte ((p2 >>> (s_LO_BYTE_SHIFT &&& 31)).toInt8.toInt32)))] (.int (0 : Int32))
set_option maxRecDepth 65536 in
set_option maxHeartbeats 40000000 in
theorem rm13_2_1 (l : Launch) (Z : State) (a0 : Array Value) (hw : ∀ d ∈ tables_1, d.before a0 Z = true) (ws : List Jvm.Cond) (a1 : Addr) (p2 : Int32) (s__assertionsDisabled : Int32) (s_HI_BYTE_SHIFT : Int32) (s_LO_BYTE_SHIFT : Int32) (k_a1 : ClassId) (x_a1_0 : Int32) (x_a1_1 : Int32) (x_a1_2 : Int32) (x_a1_3 : Int32) (h0 : Heap) (n0 : Nat) (Z0 : n0 ≤ h0.size) (hasd : ¬ (s__assertionsDisabled = (0 : Int32))) (S__assertionsDisabled : Sta Z h0 "java/lang/StringUTF16" "$assertionsDisabled" "Z" (.int s__assertionsDisabled)) (S_HI_BYTE_SHIFT : Sta Z h0 "java/lang/StringUTF16" "HI_BYTE_SHIFT" "I" (.int s_HI_BYTE_SHIFT)) (g_a1 : n0 ≤ a1) (S_LO_BYTE_SHIFT : Sta Z h0 "java/lang/StringUTF16" "LO_BYTE_SHIFT" "I" (.int s_LO_BYTE_SHIFT)) (V_a1 : Arv Z h0 a1 k_a1 .byte (4 : Int32) [(.int x_a1_0), (.int x_a1_1), (.int x_a1_2), (.int x_a1_3)] (.int (0 : Int32))) :
    MetFree l (⟨"java/lang/StringUTF16", "putChar", "([BII)V"⟩ : MethodName) (head1 (Jvm.Cond.code (⟨"java/lang/StringUTF16", "putChar", "([BII)V"⟩ : MethodName) jdk_52_method_4_code 3 none :: ws) ({ frames := 0, cells := 0, slots := 0, locals := 0 } : Room)) (fun a U => a = #[(.ref a1), (.int (1 : Int32)), (.int p2)] ∧ Z.Warmed39 U.vm ∧ U.heap = h0) (fun _ _ _ _ _ => True) (fun _ U o U' => ∃ v L, o = .returned v ∧ Q_rm13_2_1 Z a1 p2 s__assertionsDisabled s_HI_BYTE_SHIFT s_LO_BYTE_SHIFT k_a1 x_a1_0 x_a1_1 x_a1_2 x_a1_3 h0 n0 v U'.heap L ∧ FrameEnd U o U' L ({ frames := 0, cells := 0, slots := 0, locals := 0 } : Room).cells ({ frames := 0, cells := 0, slots := 0, locals := 0 } : Room).slots) := by
  have hi : ∀ (i : Nat) {d : Jvm.Cond}, tables_1[i]? = some d → d.before a0 Z = true := fun i d h => hw d (List.mem_of_getElem? h)
  refine MetFree.of_bodySF (plainFor_of_name pn_13) hisR ?_
  intro p e s m args below meth c s₁ Bd hml0 hP hK
  obtain ⟨rfl, hZ, hh⟩ := hP
  have hx := Bd.exec
  have hby := Bd.bytes
  have hml : c.maxLocals = 3 := hml0
  have hown : s.vm.findClass "java/lang/StringUTF16" = some m.cls := findClass_of_methodNamed Bd.named
  have hnm := (name_of_methodNamed Bd.named Bd.method).1
  have X0 : Stand p l e ({ frames := 0, cells := 0, slots := 0, locals := 0 } : Room) s m #[(.ref a1), (.int (1 : Int32)), (.int p2)] below meth c s₁ [] 0 0 := Stand.of_body Bd
  have e0 : s₁.heap = h0 := by rw [← hh, Bd.state]; rfl
  have N0 := Fr.nil n0
  have pre0 : ∀ t, Steps p.tables e below (s₁.setTop (mkF m 0 #[vA a1, vI (1 : Int32), vI p2] [])) t → Steps p.tables e below (s₁.setTop (entryFrame m #[(.ref a1), (.int (1 : Int32)), (.int p2)] 3)) t := fun t k => castTop (ef_13 m a1 (1 : Int32) p2) k
  obtain ⟨T3, X3, e3, st3⟩ := getS2 X0 hx hZ hown (host := "") (Or.inl (hi 66 rfl)) Via.refl e0 S__assertionsDisabled (g := (mkF m 0 #[vA a1, vI (1 : Int32), vI p2] [])) rfl (hb hby d13_0)
  obtain ⟨T4, X4, e4, st4⟩ := getS2 X3 hx hZ hown (host := "") (Or.inl (hi 67 rfl)) Via.refl e3 S_HI_BYTE_SHIFT (g := (mkF m 38 #[vA a1, vI (3 : Int32), vI p2] [(.int p2), (.int (2 : Int32)), (.ref a1)])) rfl (hb hby d13_38)
  obtain ⟨cl_a1_0, Ar_a1_0, q_a1_0, Sz_a1_0, Ng_a1_0, Ha_a1_0, Gt_a1_0⟩ := id V_a1
  have hin_a1_0 : ¬ ((2 : Int32) < 0 ∨ cl_a1_0.slots.size ≤ ((2 : Int32)).toNatClampNeg) := inb_of Sz_a1_0 ⟨by decide, by decide⟩
  obtain ⟨T5, h5, X5, e5, W5, st5⟩ := stB X4 hx hZ e4 Ar_a1_0 (j := (2 : Int32)) hin_a1_0 (g := (mkF m 43 #[vA a1, vI (3 : Int32), vI p2] [(.int ((p2 >>> (s_HI_BYTE_SHIFT &&& 31)).toInt8.toInt32)), (.int (2 : Int32)), (.ref a1)])) rfl rfl (hb hby d13_43)
  have V5 : Arv Z h5 a1 k_a1 .byte (4 : Int32) [(.int x_a1_0), (.int x_a1_1), (.int (nar .byte ((p2 >>> (s_HI_BYTE_SHIFT &&& 31)).toInt8.toInt32))), (.int x_a1_3)] (.int (0 : Int32)) := Arv.set Ar_a1_0 q_a1_0 Sz_a1_0 Ng_a1_0 Ha_a1_0 Gt_a1_0 (fits_nar_byte _) W5 2 rfl (Nat.le_of_ble_eq_true rfl)
  have N5 := Fr.snoc X5 N0 g_a1
  have f1 := (S_LO_BYTE_SHIFT.wr W5)
  obtain ⟨T6, X6, e6, st6⟩ := getS2 X5 hx hZ hown (host := "") (Or.inl (hi 68 rfl)) Via.refl e5 f1 (g := (mkF m 47 #[vA a1, vI (3 : Int32), vI p2] [(.int p2), (.int (3 : Int32)), (.ref a1)])) rfl (hb hby d13_47)
  obtain ⟨cl_a1_2, Ar_a1_2, q_a1_2, Sz_a1_2, Ng_a1_2, Ha_a1_2, Gt_a1_2⟩ := id V5
  have hin_a1_2 : ¬ ((3 : Int32) < 0 ∨ cl_a1_2.slots.size ≤ ((3 : Int32)).toNatClampNeg) := inb_of Sz_a1_2 ⟨by decide, by decide⟩
  obtain ⟨T7, h7, X7, e7, W7, st7⟩ := stB X6 hx hZ e6 Ar_a1_2 (j := (3 : Int32)) hin_a1_2 (g := (mkF m 52 #[vA a1, vI (3 : Int32), vI p2] [(.int ((p2 >>> (s_LO_BYTE_SHIFT &&& 31)).toInt8.toInt32)), (.int (3 : Int32)), (.ref a1)])) rfl rfl (hb hby d13_52)
  have V7 : Arv Z h7 a1 k_a1 .byte (4 : Int32) [(.int x_a1_0), (.int x_a1_1), (.int (nar .byte ((p2 >>> (s_HI_BYTE_SHIFT &&& 31)).toInt8.toInt32))), (.int (nar .byte ((p2 >>> (s_LO_BYTE_SHIFT &&& 31)).toInt8.toInt32)))] (.int (0 : Int32)) := Arv.set Ar_a1_2 q_a1_2 Sz_a1_2 Ng_a1_2 Ha_a1_2 Gt_a1_2 (fits_nar_byte _) W7 3 rfl (Nat.le_of_ble_eq_true rfl)
  have N7 := Fr.snoc X7 N5 g_a1
  obtain ⟨fs, hr, hrun, hended, hW, hsame⟩ := X7.leave (v := none) (fun _ => rfl)
  refine ⟨_, _, pre0 _ ?_, hrun, hended, _, _, rfl, ?_, ⟨_, rfl⟩, hW, hsame.mono (by decide) (by decide)⟩
  · show Steps p.tables e below (s₁.setTop (mkF m 0 #[vA a1, vI (1 : Int32), vI p2] [])) _
    refine st3 _ ?_
    show Steps p.tables e below (T3.setTop (mkF m 3 #[vA a1, vI (1 : Int32), vI p2] [(.int s__assertionsDisabled)])) _
    refine XS.ifYes X3.here hx rfl (pc0 := 3) (pc' := 28) rfl (hb hby d13_3) rfl ((if0 _ _).trans (feq (show ¬ (s__assertionsDisabled = (0 : Int32)) from hasd)).2) (by decide) (by decide) ?_
    refine XS.iloadN X3.here hx rfl (hb hby d13_28) rfl ?_
    refine XS.iconst X3.here hx rfl (hb hby d13_29) ?_
    refine XS.ishl X3.here hx rfl (hb hby d13_30) rfl ?_
    refine XS.istoreN X3.here hx rfl (hb hby d13_31) rfl (l' := #[vA a1, vI (2 : Int32), vI p2]) rfl ?_
    refine XS.aloadN X3.here hx rfl (hb hby d13_32) rfl rfl ?_
    refine XS.iloadN X3.here hx rfl (hb hby d13_33) rfl ?_
    refine XS.iinc X3.here hx rfl (hb hby d13_34) rfl (l' := #[vA a1, vI (3 : Int32), vI p2]) rfl ?_
    refine XS.iloadN X3.here hx rfl (hb hby d13_37) rfl ?_
    show Steps p.tables e below (T3.setTop (mkF m 38 #[vA a1, vI (3 : Int32), vI p2] [(.int p2), (.int (2 : Int32)), (.ref a1)])) _
    refine st4 _ ?_
    refine XS.ishr X4.here hx rfl (hb hby d13_41) rfl ?_
    refine XS.i2b X4.here hx rfl (hb hby d13_42) rfl ?_
    show Steps p.tables e below (T4.setTop (mkF m 43 #[vA a1, vI (3 : Int32), vI p2] [(.int ((p2 >>> (s_HI_BYTE_SHIFT &&& 31)).toInt8.toInt32)), (.int (2 : Int32)), (.ref a1)])) _
    refine st5 _ ?_
    refine XS.aloadN X5.here hx rfl (hb hby d13_44) rfl rfl ?_
    refine XS.iloadN X5.here hx rfl (hb hby d13_45) rfl ?_
    refine XS.iloadN X5.here hx rfl (hb hby d13_46) rfl ?_
    show Steps p.tables e below (T5.setTop (mkF m 47 #[vA a1, vI (3 : Int32), vI p2] [(.int p2), (.int (3 : Int32)), (.ref a1)])) _
    refine st6 _ ?_
    refine XS.ishr X6.here hx rfl (hb hby d13_50) rfl ?_
    refine XS.i2b X6.here hx rfl (hb hby d13_51) rfl ?_
    show Steps p.tables e below (T6.setTop (mkF m 52 #[vA a1, vI (3 : Int32), vI p2] [(.int ((p2 >>> (s_LO_BYTE_SHIFT &&& 31)).toInt8.toInt32)), (.int (3 : Int32)), (.ref a1)])) _
    refine st7 _ ?_
    show Steps p.tables e below (T7.setTop (mkF m 53 #[vA a1, vI (3 : Int32), vI p2] [])) _
    exact X7.returnOut hx Bd.returns (hb hby d13_53) hr
  · show Q_rm13_2_1 Z a1 p2 s__assertionsDisabled s_HI_BYTE_SHIFT s_LO_BYTE_SHIFT k_a1 x_a1_0 x_a1_1 x_a1_2 x_a1_3 h0 n0 _ T7.heap _
    rw [e7]
    exact ⟨rfl, N7, (((Keep.refl h0 [a1]).wr W5 (Or.inl (List.mem_of_getElem? (i := 0) rfl))).wr W7 (Or.inl (List.mem_of_getElem? (i := 0) rfl))), V7⟩
def t14_2 (s_HI_BYTE_SHIFT : Int32) (s_LO_BYTE_SHIFT : Int32) (x_a1_2 : Int32) (x_a1_3 : Int32) : Int32 := (((x_a1_2 &&& (255 : Int32)) <<< (s_HI_BYTE_SHIFT &&& 31)) ||| ((x_a1_3 &&& (255 : Int32)) <<< (s_LO_BYTE_SHIFT &&& 31)))
def t14_3 (s_HI_BYTE_SHIFT : Int32) (s_LO_BYTE_SHIFT : Int32) (x_a1_2 : Int32) (x_a1_3 : Int32) : Int32 := ((t14_2 s_HI_BYTE_SHIFT s_LO_BYTE_SHIFT x_a1_2 x_a1_3).toUInt32.toUInt16.toUInt32.toInt32)
def Q_rm14_2_1 (Z : State) (a1 : Addr) (s__assertionsDisabled : Int32) (s_HI_BYTE_SHIFT : Int32) (s_LO_BYTE_SHIFT : Int32) (k_a1 : ClassId) (x_a1_0 : Int32) (x_a1_1 : Int32) (x_a1_2 : Int32) (x_a1_3 : Int32) (h0 : Heap) (n0 : Nat) (v : Option Value) (h : Heap) (L : List Loc) : Prop := v = some (.int (nar .char (t14_3 s_HI_BYTE_SHIFT s_LO_BYTE_SHIFT x_a1_2 x_a1_3))) ∧ Fr n0 L ∧ h = h0
set_option maxRecDepth 65536 in
set_option maxHeartbeats 40000000 in
theorem rm14_2_1 (l : Launch) (Z : State) (a0 : Array Value) (hw : ∀ d ∈ tables_1, d.before a0 Z = true) (ws : List Jvm.Cond) (a1 : Addr) (s__assertionsDisabled : Int32) (s_HI_BYTE_SHIFT : Int32) (s_LO_BYTE_SHIFT : Int32) (k_a1 : ClassId) (x_a1_0 : Int32) (x_a1_1 : Int32) (x_a1_2 : Int32) (x_a1_3 : Int32) (h0 : Heap) (n0 : Nat) (Z0 : n0 ≤ h0.size) (hasd : ¬ (s__assertionsDisabled = (0 : Int32))) (S__assertionsDisabled : Sta Z h0 "java/lang/StringUTF16" "$assertionsDisabled" "Z" (.int s__assertionsDisabled)) (S_HI_BYTE_SHIFT : Sta Z h0 "java/lang/StringUTF16" "HI_BYTE_SHIFT" "I" (.int s_HI_BYTE_SHIFT)) (S_LO_BYTE_SHIFT : Sta Z h0 "java/lang/StringUTF16" "LO_BYTE_SHIFT" "I" (.int s_LO_BYTE_SHIFT)) (V_a1 : Arv Z h0 a1 k_a1 .byte (4 : Int32) [(.int x_a1_0), (.int x_a1_1), (.int x_a1_2), (.int x_a1_3)] (.int (0 : Int32))) :
    MetFree l (⟨"java/lang/StringUTF16", "getChar", "([BI)C"⟩ : MethodName) (head1 (Jvm.Cond.code (⟨"java/lang/StringUTF16", "getChar", "([BI)C"⟩ : MethodName) jdk_52_method_5_code 2 (some .char) :: ws) ({ frames := 0, cells := 0, slots := 0, locals := 0 } : Room)) (fun a U => a = #[(.ref a1), (.int (1 : Int32))] ∧ Z.Warmed39 U.vm ∧ U.heap = h0) (fun _ _ _ _ _ => True) (fun _ U o U' => ∃ v L, o = .returned v ∧ Q_rm14_2_1 Z a1 s__assertionsDisabled s_HI_BYTE_SHIFT s_LO_BYTE_SHIFT k_a1 x_a1_0 x_a1_1 x_a1_2 x_a1_3 h0 n0 v U'.heap L ∧ FrameEnd U o U' L ({ frames := 0, cells := 0, slots := 0, locals := 0 } : Room).cells ({ frames := 0, cells := 0, slots := 0, locals := 0 } : Room).slots) := by
  have hi : ∀ (i : Nat) {d : Jvm.Cond}, tables_1[i]? = some d → d.before a0 Z = true := fun i d h => hw d (List.mem_of_getElem? h)
  refine MetFree.of_bodySF (plainFor_of_name pn_14) hisR ?_
  intro p e s m args below meth c s₁ Bd hml0 hP hK
  obtain ⟨rfl, hZ, hh⟩ := hP
  have hx := Bd.exec
  have hby := Bd.bytes
  have hml : c.maxLocals = 2 := hml0
  have hown : s.vm.findClass "java/lang/StringUTF16" = some m.cls := findClass_of_methodNamed Bd.named
  have hnm := (name_of_methodNamed Bd.named Bd.method).1
  have X0 : Stand p l e ({ frames := 0, cells := 0, slots := 0, locals := 0 } : Room) s m #[(.ref a1), (.int (1 : Int32))] below meth c s₁ [] 0 0 := Stand.of_body Bd
  have e0 : s₁.heap = h0 := by rw [← hh, Bd.state]; rfl
  have N0 := Fr.nil n0
  have pre0 : ∀ t, Steps p.tables e below (s₁.setTop (mkF m 0 #[vA a1, vI (1 : Int32)] [])) t → Steps p.tables e below (s₁.setTop (entryFrame m #[(.ref a1), (.int (1 : Int32))] 2)) t := fun t k => castTop (ef_14 m a1 (1 : Int32)) k
  obtain ⟨T2, X2, e2, st2⟩ := getS2 X0 hx hZ hown (host := "") (Or.inl (hi 66 rfl)) Via.refl e0 S__assertionsDisabled (g := (mkF m 0 #[vA a1, vI (1 : Int32)] [])) rfl (hb hby d14_0)
  obtain ⟨cl_a1_0, Ar_a1_0, q_a1_0, Sz_a1_0, Ng_a1_0, Ha_a1_0, Gt_a1_0⟩ := id V_a1
  have hin_a1_0 : ¬ ((2 : Int32) < 0 ∨ cl_a1_0.slots.size ≤ ((2 : Int32)).toNatClampNeg) := inb_of Sz_a1_0 ⟨by decide, by decide⟩
  have hat_a1_0 : cl_a1_0.slots[((2 : Int32)).toNatClampNeg]? = some (.int x_a1_2) := (Ha_a1_0 _ (Nat.lt_of_not_le fun q => hin_a1_0 (Or.inr q))).trans (congrArg some (rfl : (([(.int x_a1_0), (.int x_a1_1), (.int x_a1_2), (.int x_a1_3)] : List Value)).getD ((2 : Int32)).toNatClampNeg (.int (0 : Int32)) = (.int x_a1_2)))
  obtain ⟨T3, X3, e3, st3⟩ := getS2 X2 hx hZ hown (host := "") (Or.inl (hi 67 rfl)) Via.refl e2 S_HI_BYTE_SHIFT (g := (mkF m 42 #[vA a1, vI (3 : Int32)] [(.int (x_a1_2 &&& (255 : Int32)))])) rfl (hb hby d14_42)
  obtain ⟨cl_a1_1, Ar_a1_1, q_a1_1, Sz_a1_1, Ng_a1_1, Ha_a1_1, Gt_a1_1⟩ := id V_a1
  have hin_a1_1 : ¬ ((3 : Int32) < 0 ∨ cl_a1_1.slots.size ≤ ((3 : Int32)).toNatClampNeg) := inb_of Sz_a1_1 ⟨by decide, by decide⟩
  have hat_a1_1 : cl_a1_1.slots[((3 : Int32)).toNatClampNeg]? = some (.int x_a1_3) := (Ha_a1_1 _ (Nat.lt_of_not_le fun q => hin_a1_1 (Or.inr q))).trans (congrArg some (rfl : (([(.int x_a1_0), (.int x_a1_1), (.int x_a1_2), (.int x_a1_3)] : List Value)).getD ((3 : Int32)).toNatClampNeg (.int (0 : Int32)) = (.int x_a1_3)))
  obtain ⟨T4, X4, e4, st4⟩ := getS2 X3 hx hZ hown (host := "") (Or.inl (hi 68 rfl)) Via.refl e3 S_LO_BYTE_SHIFT (g := (mkF m 53 #[vA a1, vI (3 : Int32)] [(.int (x_a1_3 &&& (255 : Int32))), (.int ((x_a1_2 &&& (255 : Int32)) <<< (s_HI_BYTE_SHIFT &&& 31)))])) rfl (hb hby d14_53)
  obtain ⟨fs, hr, hrun, hended, hW, hsame⟩ := X4.leave (v := some (.int (nar .char (t14_3 s_HI_BYTE_SHIFT s_LO_BYTE_SHIFT x_a1_2 x_a1_3)))) (fun h => by rw [Bd.returns] at h; cases h)
  refine ⟨_, _, pre0 _ ?_, hrun, hended, _, _, rfl, ?_, ⟨_, rfl⟩, hW, hsame.mono (by decide) (by decide)⟩
  · show Steps p.tables e below (s₁.setTop (mkF m 0 #[vA a1, vI (1 : Int32)] [])) _
    refine st2 _ ?_
    show Steps p.tables e below (T2.setTop (mkF m 3 #[vA a1, vI (1 : Int32)] [(.int s__assertionsDisabled)])) _
    refine XS.ifYes X2.here hx rfl (pc0 := 3) (pc' := 28) rfl (hb hby d14_3) rfl ((if0 _ _).trans (feq (show ¬ (s__assertionsDisabled = (0 : Int32)) from hasd)).2) (by decide) (by decide) ?_
    refine XS.iloadN X2.here hx rfl (hb hby d14_28) rfl ?_
    refine XS.iconst X2.here hx rfl (hb hby d14_29) ?_
    refine XS.ishl X2.here hx rfl (hb hby d14_30) rfl ?_
    refine XS.istoreN X2.here hx rfl (hb hby d14_31) rfl (l' := #[vA a1, vI (2 : Int32)]) rfl ?_
    refine XS.aloadN X2.here hx rfl (hb hby d14_32) rfl rfl ?_
    refine XS.iloadN X2.here hx rfl (hb hby d14_33) rfl ?_
    refine XS.iinc X2.here hx rfl (hb hby d14_34) rfl (l' := #[vA a1, vI (3 : Int32)]) rfl ?_
    show Steps p.tables e below (T2.setTop (mkF m 37 #[vA a1, vI (3 : Int32)] [(.int (2 : Int32)), (.ref a1)])) _
    refine X2.baloadBytes hx (j := (2 : Int32)) (v := (.int x_a1_2)) (by rw [e2]; exact Ar_a1_0.1) (State.isArrayOf_alike hZ.alike Ar_a1_0.2.1) Ar_a1_0.2.2 hin_a1_0 hat_a1_0 (g := (mkF m 37 #[vA a1, vI (3 : Int32)] [(.int (2 : Int32)), (.ref a1)])) rfl rfl (hb hby d14_37) _ ?_
    refine XS.sipush X2.here hx rfl (hb hby d14_38) ?_
    refine XS.iand X2.here hx rfl (hb hby d14_41) rfl ?_
    show Steps p.tables e below (T2.setTop (mkF m 42 #[vA a1, vI (3 : Int32)] [(.int (x_a1_2 &&& (255 : Int32)))])) _
    refine st3 _ ?_
    refine XS.ishl X3.here hx rfl (hb hby d14_45) rfl ?_
    refine XS.aloadN X3.here hx rfl (hb hby d14_46) rfl rfl ?_
    refine XS.iloadN X3.here hx rfl (hb hby d14_47) rfl ?_
    show Steps p.tables e below (T3.setTop (mkF m 48 #[vA a1, vI (3 : Int32)] [(.int (3 : Int32)), (.ref a1), (.int ((x_a1_2 &&& (255 : Int32)) <<< (s_HI_BYTE_SHIFT &&& 31)))])) _
    refine X3.baloadBytes hx (j := (3 : Int32)) (v := (.int x_a1_3)) (by rw [e3]; exact Ar_a1_1.1) (State.isArrayOf_alike hZ.alike Ar_a1_1.2.1) Ar_a1_1.2.2 hin_a1_1 hat_a1_1 (g := (mkF m 48 #[vA a1, vI (3 : Int32)] [(.int (3 : Int32)), (.ref a1), (.int ((x_a1_2 &&& (255 : Int32)) <<< (s_HI_BYTE_SHIFT &&& 31)))])) rfl rfl (hb hby d14_48) _ ?_
    refine XS.sipush X3.here hx rfl (hb hby d14_49) ?_
    refine XS.iand X3.here hx rfl (hb hby d14_52) rfl ?_
    show Steps p.tables e below (T3.setTop (mkF m 53 #[vA a1, vI (3 : Int32)] [(.int (x_a1_3 &&& (255 : Int32))), (.int ((x_a1_2 &&& (255 : Int32)) <<< (s_HI_BYTE_SHIFT &&& 31)))])) _
    refine st4 _ ?_
    refine XS.ishl X4.here hx rfl (hb hby d14_56) rfl ?_
    refine XS.ior X4.here hx rfl (hb hby d14_57) rfl ?_
    refine XS.i2c X4.here hx rfl (hb hby d14_58) rfl ?_
    show Steps p.tables e below (T4.setTop (mkF m 59 #[vA a1, vI (3 : Int32)] [(.int (t14_3 s_HI_BYTE_SHIFT s_LO_BYTE_SHIFT x_a1_2 x_a1_3))])) _
    exact retN X4 hx (t := .char) Bd.returns (by simp) (hb hby d14_59) hr
  · show Q_rm14_2_1 Z a1 s__assertionsDisabled s_HI_BYTE_SHIFT s_LO_BYTE_SHIFT k_a1 x_a1_0 x_a1_1 x_a1_2 x_a1_3 h0 n0 _ T4.heap _
    exact ⟨rfl, N0, e4⟩
def Q_rm10_2 (Z : State) (a1 : Addr) (s__assertionsDisabled : Int32) (s_HI_BYTE_SHIFT : Int32) (s_LO_BYTE_SHIFT : Int32) (k_a1 : ClassId) (x_a1_0 : Int32) (x_a1_1 : Int32) (h0 : Heap) (n0 : Nat) (v : Option Value) (h : Heap) (L : List Loc) : Prop := ∃ b2_2 : Addr, ∃ k2_2 : ClassId, v = some (.ref b2_2) ∧ Fr n0 L ∧ Keep h0 h [] ∧ h0.size ≤ b2_2 ∧ Arv Z h b2_2 k2_2 .byte (4 : Int32) [(.int (nar .byte ((x_a1_0 >>> (s_HI_BYTE_SHIFT &&& 31)).toInt8.toInt32))), (.int (nar .byte ((x_a1_0 >>> (s_LO_BYTE_SHIFT &&& 31)).toInt8.toInt32))), (.int (nar .byte ((x_a1_1 >>> (s_HI_BYTE_SHIFT &&& 31)).toInt8.toInt32))), (.int (nar .byte ((x_a1_1 >>> (s_LO_BYTE_SHIFT &&& 31)).toInt8.toInt32)))] (.int (0 : Int32))
set_option maxRecDepth 65536 in
set_option maxHeartbeats 40000000 in
theorem rm10_2 (l : Launch) (Z : State) (a0 : Array Value) (hw : ∀ d ∈ tables_1, d.before a0 Z = true) (ws : List Jvm.Cond) (a1 : Addr) (s__assertionsDisabled : Int32) (s_HI_BYTE_SHIFT : Int32) (s_LO_BYTE_SHIFT : Int32) (k_a1 : ClassId) (x_a1_0 : Int32) (x_a1_1 : Int32) (h0 : Heap) (n0 : Nat) (Z0 : n0 ≤ h0.size) (hasd : ¬ (s__assertionsDisabled = (0 : Int32))) (S__assertionsDisabled : Sta Z h0 "java/lang/StringUTF16" "$assertionsDisabled" "Z" (.int s__assertionsDisabled)) (S_HI_BYTE_SHIFT : Sta Z h0 "java/lang/StringUTF16" "HI_BYTE_SHIFT" "I" (.int s_HI_BYTE_SHIFT)) (S_LO_BYTE_SHIFT : Sta Z h0 "java/lang/StringUTF16" "LO_BYTE_SHIFT" "I" (.int s_LO_BYTE_SHIFT)) (V_a1 : Arv Z h0 a1 k_a1 .char (2 : Int32) [(.int x_a1_0), (.int x_a1_1)] (.int (0 : Int32))) :
    MetFree l (⟨"java/lang/StringUTF16", "toBytes", "([CII)[B"⟩ : MethodName) (head1 (Jvm.Cond.code (⟨"java/lang/StringUTF16", "toBytes", "([CII)[B"⟩ : MethodName) jdk_52_method_14_code 5 (some (.array .byte)) :: ws) ({ frames := 2, cells := 1, slots := 4, locals := 24 } : Room)) (fun a U => a = #[(.ref a1), (.int (0 : Int32)), (.int (2 : Int32))] ∧ Z.Warmed39 U.vm ∧ U.heap = h0) (fun _ _ _ _ _ => True) (fun _ U o U' => ∃ v L, o = .returned v ∧ Q_rm10_2 Z a1 s__assertionsDisabled s_HI_BYTE_SHIFT s_LO_BYTE_SHIFT k_a1 x_a1_0 x_a1_1 h0 n0 v U'.heap L ∧ FrameEnd U o U' L ({ frames := 2, cells := 1, slots := 4, locals := 24 } : Room).cells ({ frames := 2, cells := 1, slots := 4, locals := 24 } : Room).slots) := by
  have hi : ∀ (i : Nat) {d : Jvm.Cond}, tables_1[i]? = some d → d.before a0 Z = true := fun i d h => hw d (List.mem_of_getElem? h)
  refine MetFree.of_bodySF (plainFor_of_name pn_10) hisR ?_
  intro p e s m args below meth c s₁ Bd hml0 hP hK
  obtain ⟨rfl, hZ, hh⟩ := hP
  have hx := Bd.exec
  have hby := Bd.bytes
  have hml : c.maxLocals = 5 := hml0
  have hown : s.vm.findClass "java/lang/StringUTF16" = some m.cls := findClass_of_methodNamed Bd.named
  have hnm := (name_of_methodNamed Bd.named Bd.method).1
  have X0 : Stand p l e ({ frames := 2, cells := 1, slots := 4, locals := 24 } : Room) s m #[(.ref a1), (.int (0 : Int32)), (.int (2 : Int32))] below meth c s₁ [] 0 0 := Stand.of_body Bd
  have e0 : s₁.heap = h0 := by rw [← hh, Bd.state]; rfl
  have N0 := Fr.nil n0
  have pre0 : ∀ t, Steps p.tables e below (s₁.setTop (mkF m 0 #[vA a1, vI (0 : Int32), vI (2 : Int32), vU, vU] [])) t → Steps p.tables e below (s₁.setTop (entryFrame m #[(.ref a1), (.int (0 : Int32)), (.int (2 : Int32))] 5)) t := fun t k => castTop (ef_10 m a1 (0 : Int32) (2 : Int32)) k
  obtain ⟨_, _, ⟨T2, L2, k2, n2⟩, -, X2, ⟨Lc2, hQ2, l2, y2, z2⟩, st2⟩ := Jvm.LawKit.callS X0 hx (y := (⟨"java/lang/StringUTF16", "newBytesFor", "(I)[B"⟩ : MethodName)) hown (mvT hZ (hi 56 rfl)) (mvT hZ (hi 57 rfl)) (mvT hZ (hi 45 rfl)) (mvT hZ (hi 58 rfl)) (by decide) (backOf (W := 0) (rm11_2 l Z a0 hw []  h0 n0 Z0 ) hZ (hi 58 rfl) (hi 45 rfl) (by decide) (by decide)) (g := (mkF m 1 #[vA a1, vI (0 : Int32), vI (2 : Int32), vU, vU] [(.int (2 : Int32))])) rfl (by rw [hml]; rfl) (argsL := [(.int (2 : Int32))]) (rest := []) (lenOf pd__28I_29_5bB rfl) rfl (by show 2 * 0 + _ ≤ _; exact Nat.le_of_eq rfl) (hb hby d10_1) (fun _ _ => ⟨rfl, e0, (by decide : 0 + 1 ≤ _), (by decide : 0 + 4 ≤ _)⟩)
  dsimp only [Pt.U, Pt.locs, Pt.cells, Pt.slots] at X2 l2 y2 z2 st2 hQ2
  subst l2 y2 z2
  obtain ⟨b2_2, ⟨k2_2, ⟨rfl, N2q, K2, i2_0, i2_1⟩⟩⟩ := hQ2
  have N2 := Fr.app N0 N2q
  have sz_b2_2 : h0.size ≤ b2_2 := Nat.le_trans (Nat.le_refl h0.size) i2_0
  have g_b2_2 : n0 ≤ b2_2 := Nat.le_trans Z0 sz_b2_2
  have f0 := (V_a1.keep K2 own_n0)
  obtain ⟨cl_a1_1, Ar_a1_1, q_a1_1, Sz_a1_1, Ng_a1_1, Ha_a1_1, Gt_a1_1⟩ := id f0
  have hin_a1_1 : ¬ ((0 : Int32) < 0 ∨ cl_a1_1.slots.size ≤ ((0 : Int32)).toNatClampNeg) := inb_of Sz_a1_1 ⟨by decide, by decide⟩
  have hat_a1_1 : cl_a1_1.slots[((0 : Int32)).toNatClampNeg]? = some (.int x_a1_0) := (Ha_a1_1 _ (Nat.lt_of_not_le fun q => hin_a1_1 (Or.inr q))).trans (congrArg some (rfl : (([(.int x_a1_0), (.int x_a1_1)] : List Value)).getD ((0 : Int32)).toNatClampNeg (.int (0 : Int32)) = (.int x_a1_0)))
  have f2 := (own_sta_keep S__assertionsDisabled K2 own_q0)
  have f3 := (own_sta_keep S_HI_BYTE_SHIFT K2 own_q0)
  have f4 := (own_sta_keep S_LO_BYTE_SHIFT K2 own_q0)
  obtain ⟨_, _, ⟨T3, L3, k3, n3⟩, -, X3, ⟨Lc3, hQ3, l3, y3, z3⟩, st3⟩ := Jvm.LawKit.callS X2 hx (y := (⟨"java/lang/StringUTF16", "putChar", "([BII)V"⟩ : MethodName)) hown (mvT hZ (hi 63 rfl)) (mvT hZ (hi 64 rfl)) (mvT hZ (hi 45 rfl)) (mvT hZ (hi 65 rfl)) (by decide) (backOf (W := 0) (rm13_2_0 l Z a0 hw [] b2_2 x_a1_0 s__assertionsDisabled s_HI_BYTE_SHIFT s_LO_BYTE_SHIFT k2_2 (0 : Int32) (0 : Int32) (0 : Int32) (0 : Int32) T2.heap n0 (Nat.le_trans Z0 K2.1) hasd f2 f3 g_b2_2 f4 i2_1) hZ (hi 65 rfl) (hi 45 rfl) (by decide) (by decide)) (g := (mkF m 20 #[vA a1, vI (0 : Int32), vI (2 : Int32), vA b2_2, vI (0 : Int32)] [(.int x_a1_0), (.int (0 : Int32)), (.ref b2_2)])) rfl (by rw [hml]; rfl) (argsL := [(.ref b2_2), (.int (0 : Int32)), (.int x_a1_0)]) (rest := []) (lenOf pd__28_5bBII_29V rfl) rfl (by show 2 * 0 + _ ≤ _; exact Nat.le_of_eq rfl) (hb hby d10_20) (fun _ _ => ⟨rfl, rfl, (by decide : 1 + 0 ≤ _), (by decide : 4 + 0 ≤ _)⟩)
  dsimp only [Pt.U, Pt.locs, Pt.cells, Pt.slots] at X3 l3 y3 z3 st3 hQ3
  subst l3 y3 z3
  obtain ⟨rfl, N3q, K3, i3_0⟩ := hQ3
  have N3 := Fr.app N2 N3q
  have f5 := (f0.keep K3 (own_nm (Nat.ne_of_lt (Nat.lt_of_lt_of_le V_a1.lt i2_0)) own_n0))
  obtain ⟨cl_a1_6, Ar_a1_6, q_a1_6, Sz_a1_6, Ng_a1_6, Ha_a1_6, Gt_a1_6⟩ := id f5
  have hin_a1_6 : ¬ ((1 : Int32) < 0 ∨ cl_a1_6.slots.size ≤ ((1 : Int32)).toNatClampNeg) := inb_of Sz_a1_6 ⟨by decide, by decide⟩
  have hat_a1_6 : cl_a1_6.slots[((1 : Int32)).toNatClampNeg]? = some (.int x_a1_1) := (Ha_a1_6 _ (Nat.lt_of_not_le fun q => hin_a1_6 (Or.inr q))).trans (congrArg some (rfl : (([(.int x_a1_0), (.int x_a1_1)] : List Value)).getD ((1 : Int32)).toNatClampNeg (.int (0 : Int32)) = (.int x_a1_1)))
  have f7 := (own_sta_keep f2 K3 (own_qc (own_nstV i2_1) own_q0))
  have f8 := (own_sta_keep f3 K3 (own_qc (own_nstV i2_1) own_q0))
  have f9 := (own_sta_keep f4 K3 (own_qc (own_nstV i2_1) own_q0))
  obtain ⟨_, _, ⟨T4, L4, k4, n4⟩, -, X4, ⟨Lc4, hQ4, l4, y4, z4⟩, st4⟩ := Jvm.LawKit.callS X3 hx (y := (⟨"java/lang/StringUTF16", "putChar", "([BII)V"⟩ : MethodName)) hown (mvT hZ (hi 63 rfl)) (mvT hZ (hi 64 rfl)) (mvT hZ (hi 45 rfl)) (mvT hZ (hi 65 rfl)) (by decide) (backOf (W := 0) (rm13_2_1 l Z a0 hw [] b2_2 x_a1_1 s__assertionsDisabled s_HI_BYTE_SHIFT s_LO_BYTE_SHIFT k2_2 (nar .byte ((x_a1_0 >>> (s_HI_BYTE_SHIFT &&& 31)).toInt8.toInt32)) (nar .byte ((x_a1_0 >>> (s_LO_BYTE_SHIFT &&& 31)).toInt8.toInt32)) (0 : Int32) (0 : Int32) T3.heap n0 (Nat.le_trans (Nat.le_trans Z0 K2.1) K3.1) hasd f7 f8 g_b2_2 f9 i3_0) hZ (hi 65 rfl) (hi 45 rfl) (by decide) (by decide)) (g := (mkF m 20 #[vA a1, vI (1 : Int32), vI (2 : Int32), vA b2_2, vI (1 : Int32)] [(.int x_a1_1), (.int (1 : Int32)), (.ref b2_2)])) rfl (by rw [hml]; rfl) (argsL := [(.ref b2_2), (.int (1 : Int32)), (.int x_a1_1)]) (rest := []) (lenOf pd__28_5bBII_29V rfl) rfl (by show 2 * 0 + _ ≤ _; exact Nat.le_of_eq rfl) (hb hby d10_20) (fun _ _ => ⟨rfl, rfl, (by decide : 1 + 0 ≤ _), (by decide : 4 + 0 ≤ _)⟩)
  dsimp only [Pt.U, Pt.locs, Pt.cells, Pt.slots] at X4 l4 y4 z4 st4 hQ4
  subst l4 y4 z4
  obtain ⟨rfl, N4q, K4, i4_0⟩ := hQ4
  have N4 := Fr.app N3 N4q
  obtain ⟨fs, hr, hrun, hended, hW, hsame⟩ := X4.leave (v := some (.ref b2_2)) (fun h => by rw [Bd.returns] at h; cases h)
  refine ⟨_, _, pre0 _ ?_, hrun, hended, _, _, rfl, ?_, ⟨_, rfl⟩, hW, hsame.mono (by decide) (by decide)⟩
  · show Steps p.tables e below (s₁.setTop (mkF m 0 #[vA a1, vI (0 : Int32), vI (2 : Int32), vU, vU] [])) _
    refine XS.iloadN X0.here hx rfl (hb hby d10_0) rfl ?_
    show Steps p.tables e below (s₁.setTop (mkF m 1 #[vA a1, vI (0 : Int32), vI (2 : Int32), vU, vU] [(.int (2 : Int32))])) _
    refine st2 _ ?_
    refine XS.astoreN X2.here hx rfl (hb hby d10_4) rfl rfl (l' := #[vA a1, vI (0 : Int32), vI (2 : Int32), vA b2_2, vU]) rfl ?_
    refine XS.iconst X2.here hx rfl (hb hby d10_5) ?_
    refine XS.istore X2.here hx rfl (hb hby d10_6) rfl (l' := #[vA a1, vI (0 : Int32), vI (2 : Int32), vA b2_2, vI (0 : Int32)]) rfl ?_
    refine XS.iload X2.here hx rfl (hb hby d10_8) rfl ?_
    refine XS.iloadN X2.here hx rfl (hb hby d10_10) rfl ?_
    show Steps p.tables e below (T2.setTop (mkF m 11 #[vA a1, vI (0 : Int32), vI (2 : Int32), vA b2_2, vI (0 : Int32)] [(.int (2 : Int32)), (.int (0 : Int32))])) _
    refine XS.icmpNo X2.here hx rfl (hb hby d10_11) rfl (tlt (by decide : (0 : Int32) < (2 : Int32))).2.1 ?_
    refine XS.aloadN X2.here hx rfl (hb hby d10_14) rfl rfl ?_
    refine XS.iload X2.here hx rfl (hb hby d10_15) rfl ?_
    refine XS.aloadN X2.here hx rfl (hb hby d10_17) rfl rfl ?_
    refine XS.iloadN X2.here hx rfl (hb hby d10_18) rfl ?_
    show Steps p.tables e below (T2.setTop (mkF m 19 #[vA a1, vI (0 : Int32), vI (2 : Int32), vA b2_2, vI (0 : Int32)] [(.int (0 : Int32)), (.ref a1), (.int (0 : Int32)), (.ref b2_2)])) _
    refine X2.caload hx (j := (0 : Int32)) (v := (.int x_a1_0)) (by exact Ar_a1_1.1) (State.isArrayOf_alike hZ.alike Ar_a1_1.2.1) Ar_a1_1.2.2 hin_a1_1 hat_a1_1 (g := (mkF m 19 #[vA a1, vI (0 : Int32), vI (2 : Int32), vA b2_2, vI (0 : Int32)] [(.int (0 : Int32)), (.ref a1), (.int (0 : Int32)), (.ref b2_2)])) rfl rfl (hb hby d10_19) _ ?_
    show Steps p.tables e below (T2.setTop (mkF m 20 #[vA a1, vI (0 : Int32), vI (2 : Int32), vA b2_2, vI (0 : Int32)] [(.int x_a1_0), (.int (0 : Int32)), (.ref b2_2)])) _
    refine st3 _ ?_
    refine XS.iinc X3.here hx rfl (hb hby d10_23) rfl (l' := #[vA a1, vI (1 : Int32), vI (2 : Int32), vA b2_2, vI (0 : Int32)]) rfl ?_
    refine XS.iinc X3.here hx rfl (hb hby d10_26) rfl (l' := #[vA a1, vI (1 : Int32), vI (2 : Int32), vA b2_2, vI (1 : Int32)]) rfl ?_
    show Steps p.tables e below (T3.setTop (mkF m 29 #[vA a1, vI (1 : Int32), vI (2 : Int32), vA b2_2, vI (1 : Int32)] [])) _
    refine XS.goto X3.here hx rfl (pc0 := 29) (pc' := 8) rfl (hb hby d10_29) (by decide) (by decide) ?_
    refine XS.iload X3.here hx rfl (hb hby d10_8) rfl ?_
    refine XS.iloadN X3.here hx rfl (hb hby d10_10) rfl ?_
    show Steps p.tables e below (T3.setTop (mkF m 11 #[vA a1, vI (1 : Int32), vI (2 : Int32), vA b2_2, vI (1 : Int32)] [(.int (2 : Int32)), (.int (1 : Int32))])) _
    refine XS.icmpNo X3.here hx rfl (hb hby d10_11) rfl (tlt (by decide : (1 : Int32) < (2 : Int32))).2.1 ?_
    refine XS.aloadN X3.here hx rfl (hb hby d10_14) rfl rfl ?_
    refine XS.iload X3.here hx rfl (hb hby d10_15) rfl ?_
    refine XS.aloadN X3.here hx rfl (hb hby d10_17) rfl rfl ?_
    refine XS.iloadN X3.here hx rfl (hb hby d10_18) rfl ?_
    show Steps p.tables e below (T3.setTop (mkF m 19 #[vA a1, vI (1 : Int32), vI (2 : Int32), vA b2_2, vI (1 : Int32)] [(.int (1 : Int32)), (.ref a1), (.int (1 : Int32)), (.ref b2_2)])) _
    refine X3.caload hx (j := (1 : Int32)) (v := (.int x_a1_1)) (by exact Ar_a1_6.1) (State.isArrayOf_alike hZ.alike Ar_a1_6.2.1) Ar_a1_6.2.2 hin_a1_6 hat_a1_6 (g := (mkF m 19 #[vA a1, vI (1 : Int32), vI (2 : Int32), vA b2_2, vI (1 : Int32)] [(.int (1 : Int32)), (.ref a1), (.int (1 : Int32)), (.ref b2_2)])) rfl rfl (hb hby d10_19) _ ?_
    show Steps p.tables e below (T3.setTop (mkF m 20 #[vA a1, vI (1 : Int32), vI (2 : Int32), vA b2_2, vI (1 : Int32)] [(.int x_a1_1), (.int (1 : Int32)), (.ref b2_2)])) _
    refine st4 _ ?_
    refine XS.iinc X4.here hx rfl (hb hby d10_23) rfl (l' := #[vA a1, vI (2 : Int32), vI (2 : Int32), vA b2_2, vI (1 : Int32)]) rfl ?_
    refine XS.iinc X4.here hx rfl (hb hby d10_26) rfl (l' := #[vA a1, vI (2 : Int32), vI (2 : Int32), vA b2_2, vI (2 : Int32)]) rfl ?_
    show Steps p.tables e below (T4.setTop (mkF m 29 #[vA a1, vI (2 : Int32), vI (2 : Int32), vA b2_2, vI (2 : Int32)] [])) _
    refine XS.goto X4.here hx rfl (pc0 := 29) (pc' := 8) rfl (hb hby d10_29) (by decide) (by decide) ?_
    refine XS.iload X4.here hx rfl (hb hby d10_8) rfl ?_
    refine XS.iloadN X4.here hx rfl (hb hby d10_10) rfl ?_
    show Steps p.tables e below (T4.setTop (mkF m 11 #[vA a1, vI (2 : Int32), vI (2 : Int32), vA b2_2, vI (2 : Int32)] [(.int (2 : Int32)), (.int (2 : Int32))])) _
    refine XS.icmpYes X4.here hx rfl (pc0 := 11) (pc' := 32) rfl (hb hby d10_11) rfl (flt (fun q => Int32.lt_irrefl q : ¬ ((2 : Int32) < (2 : Int32)))).2.1 (by decide) (by decide) ?_
    refine XS.aloadN X4.here hx rfl (hb hby d10_32) rfl rfl ?_
    show Steps p.tables e below (T4.setTop (mkF m 33 #[vA a1, vI (2 : Int32), vI (2 : Int32), vA b2_2, vI (2 : Int32)] [(.ref b2_2)])) _
    jvm_step X4.here [X4.here.top, hx, (hb hby d10_33), X4.method', Bd.returns, Value.isRef, FieldType.isReference]
    first | (intro acts; rw [hr _ acts rfl rfl rfl]) | rw [hr _ _ rfl rfl rfl]
    exact Steps.refl _
  · show Q_rm10_2 Z a1 s__assertionsDisabled s_HI_BYTE_SHIFT s_LO_BYTE_SHIFT k_a1 x_a1_0 x_a1_1 h0 n0 _ T4.heap _
    exact ⟨b2_2, ⟨k2_2, ⟨rfl, N4, ((((Keep.refl h0 []).trans K2 (fun _ q => nomatch q)).trans K3 (fun x q => (List.mem_cons.mp q).elim (fun r => r ▸ (Or.inr sz_b2_2)) ((fun _ q => nomatch q) x))).trans K4 (fun x q => (List.mem_cons.mp q).elim (fun r => r ▸ (Or.inr sz_b2_2)) ((fun _ q => nomatch q) x))), sz_b2_2, i4_0⟩⟩⟩
def Q_rm8_2_0 (Z : State) (a1 : Addr) (a2 : Addr) (k_a1 : ClassId) (x_a1_0 : Int32) (x_a1_1 : Int32) (k_a2 : ClassId) (x_a2_0 : Int32) (x_a2_1 : Int32) (h0 : Heap) (n0 : Nat) (v : Option Value) (h : Heap) (L : List Loc) : Prop := v = some (.int (0 : Int32)) ∧ Fr n0 L ∧ h = h0
set_option maxRecDepth 65536 in
set_option maxHeartbeats 40000000 in
theorem rm8_2_0 (l : Launch) (Z : State) (a0 : Array Value) (hw : ∀ d ∈ tables_1, d.before a0 Z = true) (ws : List Jvm.Cond) (a1 : Addr) (a2 : Addr) (k_a1 : ClassId) (x_a1_0 : Int32) (x_a1_1 : Int32) (k_a2 : ClassId) (x_a2_0 : Int32) (x_a2_1 : Int32) (h0 : Heap) (n0 : Nat) (Z0 : n0 ≤ h0.size) (V_a1 : Arv Z h0 a1 k_a1 .char (2 : Int32) [(.int x_a1_0), (.int x_a1_1)] (.int (0 : Int32))) (V_a2 : Arv Z h0 a2 k_a2 .byte (2 : Int32) [(.int x_a2_0), (.int x_a2_1)] (.int (0 : Int32))) (hc20 : (255 : Int32) < x_a1_0) :
    MetFree l (⟨"java/lang/StringUTF16", "compress", "([CI[BII)I"⟩ : MethodName) (head1 (Jvm.Cond.code (⟨"java/lang/StringUTF16", "compress", "([CI[BII)I"⟩ : MethodName) jdk_52_method_21_code 7 (some .int) :: ws) ({ frames := 0, cells := 0, slots := 0, locals := 0 } : Room)) (fun a U => a = #[(.ref a1), (.int (0 : Int32)), (.ref a2), (.int (0 : Int32)), (.int (2 : Int32))] ∧ Z.Warmed39 U.vm ∧ U.heap = h0) (fun _ _ _ _ _ => True) (fun _ U o U' => ∃ v L, o = .returned v ∧ Q_rm8_2_0 Z a1 a2 k_a1 x_a1_0 x_a1_1 k_a2 x_a2_0 x_a2_1 h0 n0 v U'.heap L ∧ FrameEnd U o U' L ({ frames := 0, cells := 0, slots := 0, locals := 0 } : Room).cells ({ frames := 0, cells := 0, slots := 0, locals := 0 } : Room).slots) := by
  have hi : ∀ (i : Nat) {d : Jvm.Cond}, tables_1[i]? = some d → d.before a0 Z = true := fun i d h => hw d (List.mem_of_getElem? h)
  refine MetFree.of_bodySF (plainFor_of_name pn_8) hisR ?_
  intro p e s m args below meth c s₁ Bd hml0 hP hK
  obtain ⟨rfl, hZ, hh⟩ := hP
  have hx := Bd.exec
  have hby := Bd.bytes
  have hml : c.maxLocals = 7 := hml0
  have hown : s.vm.findClass "java/lang/StringUTF16" = some m.cls := findClass_of_methodNamed Bd.named
  have hnm := (name_of_methodNamed Bd.named Bd.method).1
  have X0 : Stand p l e ({ frames := 0, cells := 0, slots := 0, locals := 0 } : Room) s m #[(.ref a1), (.int (0 : Int32)), (.ref a2), (.int (0 : Int32)), (.int (2 : Int32))] below meth c s₁ [] 0 0 := Stand.of_body Bd
  have e0 : s₁.heap = h0 := by rw [← hh, Bd.state]; rfl
  have N0 := Fr.nil n0
  have pre0 : ∀ t, Steps p.tables e below (s₁.setTop (mkF m 0 #[vA a1, vI (0 : Int32), vA a2, vI (0 : Int32), vI (2 : Int32), vU, vU] [])) t → Steps p.tables e below (s₁.setTop (entryFrame m #[(.ref a1), (.int (0 : Int32)), (.ref a2), (.int (0 : Int32)), (.int (2 : Int32))] 7)) t := fun t k => castTop (ef_8 m a1 (0 : Int32) a2 (0 : Int32) (2 : Int32)) k
  obtain ⟨cl_a1_0, Ar_a1_0, q_a1_0, Sz_a1_0, Ng_a1_0, Ha_a1_0, Gt_a1_0⟩ := id V_a1
  have hin_a1_0 : ¬ ((0 : Int32) < 0 ∨ cl_a1_0.slots.size ≤ ((0 : Int32)).toNatClampNeg) := inb_of Sz_a1_0 ⟨by decide, by decide⟩
  have hat_a1_0 : cl_a1_0.slots[((0 : Int32)).toNatClampNeg]? = some (.int x_a1_0) := (Ha_a1_0 _ (Nat.lt_of_not_le fun q => hin_a1_0 (Or.inr q))).trans (congrArg some (rfl : (([(.int x_a1_0), (.int x_a1_1)] : List Value)).getD ((0 : Int32)).toNatClampNeg (.int (0 : Int32)) = (.int x_a1_0)))
  obtain ⟨fs, hr, hrun, hended, hW, hsame⟩ := X0.leave (v := some (.int (0 : Int32))) (fun h => by rw [Bd.returns] at h; cases h)
  refine ⟨_, _, pre0 _ ?_, hrun, hended, _, _, rfl, ?_, ⟨_, rfl⟩, hW, hsame.mono (by decide) (by decide)⟩
  · show Steps p.tables e below (s₁.setTop (mkF m 0 #[vA a1, vI (0 : Int32), vA a2, vI (0 : Int32), vI (2 : Int32), vU, vU] [])) _
    refine XS.iconst X0.here hx rfl (hb hby d8_0) ?_
    refine XS.istore X0.here hx rfl (hb hby d8_1) rfl (l' := #[vA a1, vI (0 : Int32), vA a2, vI (0 : Int32), vI (2 : Int32), vI (0 : Int32), vU]) rfl ?_
    refine XS.iload X0.here hx rfl (hb hby d8_3) rfl ?_
    refine XS.iload X0.here hx rfl (hb hby d8_5) rfl ?_
    show Steps p.tables e below (s₁.setTop (mkF m 7 #[vA a1, vI (0 : Int32), vA a2, vI (0 : Int32), vI (2 : Int32), vI (0 : Int32), vU] [(.int (2 : Int32)), (.int (0 : Int32))])) _
    refine XS.icmpNo X0.here hx rfl (hb hby d8_7) rfl (tlt (by decide : (0 : Int32) < (2 : Int32))).2.1 ?_
    refine XS.aloadN X0.here hx rfl (hb hby d8_10) rfl rfl ?_
    refine XS.iloadN X0.here hx rfl (hb hby d8_11) rfl ?_
    show Steps p.tables e below (s₁.setTop (mkF m 12 #[vA a1, vI (0 : Int32), vA a2, vI (0 : Int32), vI (2 : Int32), vI (0 : Int32), vU] [(.int (0 : Int32)), (.ref a1)])) _
    refine X0.caload hx (j := (0 : Int32)) (v := (.int x_a1_0)) (by rw [e0]; exact Ar_a1_0.1) (State.isArrayOf_alike hZ.alike Ar_a1_0.2.1) Ar_a1_0.2.2 hin_a1_0 hat_a1_0 (g := (mkF m 12 #[vA a1, vI (0 : Int32), vA a2, vI (0 : Int32), vI (2 : Int32), vI (0 : Int32), vU] [(.int (0 : Int32)), (.ref a1)])) rfl rfl (hb hby d8_12) _ ?_
    refine XS.istore X0.here hx rfl (hb hby d8_13) rfl (l' := #[vA a1, vI (0 : Int32), vA a2, vI (0 : Int32), vI (2 : Int32), vI (0 : Int32), vI x_a1_0]) rfl ?_
    refine XS.iload X0.here hx rfl (hb hby d8_15) rfl ?_
    refine XS.sipush X0.here hx rfl (hb hby d8_17) ?_
    show Steps p.tables e below (s₁.setTop (mkF m 20 #[vA a1, vI (0 : Int32), vA a2, vI (0 : Int32), vI (2 : Int32), vI (0 : Int32), vI x_a1_0] [(.int (255 : Int32)), (.int x_a1_0)])) _
    refine XS.icmpNo X0.here hx rfl (hb hby d8_20) rfl (tlt hc20).2.2.2 ?_
    refine XS.iload X0.here hx rfl (hb hby d8_23) rfl ?_
    show Steps p.tables e below (s₁.setTop (mkF m 25 #[vA a1, vI (0 : Int32), vA a2, vI (0 : Int32), vI (2 : Int32), vI (0 : Int32), vI x_a1_0] [(.int (0 : Int32))])) _
    exact retI X0 hx Bd.returns (hb hby d8_25) hr
  · show Q_rm8_2_0 Z a1 a2 k_a1 x_a1_0 x_a1_1 k_a2 x_a2_0 x_a2_1 h0 n0 _ s₁.heap _
    exact ⟨rfl, N0, e0⟩
def Q_rm8_2_1 (Z : State) (a1 : Addr) (a2 : Addr) (k_a1 : ClassId) (x_a1_0 : Int32) (x_a1_1 : Int32) (k_a2 : ClassId) (x_a2_0 : Int32) (x_a2_1 : Int32) (h0 : Heap) (n0 : Nat) (v : Option Value) (h : Heap) (L : List Loc) : Prop := v = some (.int (1 : Int32)) ∧ Fr n0 L ∧ Keep h0 h [a2] ∧ Arv Z h a2 k_a2 .byte (2 : Int32) [(.int (nar .byte (x_a1_0.toInt8.toInt32))), (.int x_a2_1)] (.int (0 : Int32))
set_option maxRecDepth 65536 in
set_option maxHeartbeats 40000000 in
theorem rm8_2_1 (l : Launch) (Z : State) (a0 : Array Value) (hw : ∀ d ∈ tables_1, d.before a0 Z = true) (ws : List Jvm.Cond) (a1 : Addr) (a2 : Addr) (k_a1 : ClassId) (x_a1_0 : Int32) (x_a1_1 : Int32) (k_a2 : ClassId) (x_a2_0 : Int32) (x_a2_1 : Int32) (h0 : Heap) (n0 : Nat) (Z0 : n0 ≤ h0.size) (g_a2 : n0 ≤ a2) (V_a1 : Arv Z h0 a1 k_a1 .char (2 : Int32) [(.int x_a1_0), (.int x_a1_1)] (.int (0 : Int32))) (V_a2 : Arv Z h0 a2 k_a2 .byte (2 : Int32) [(.int x_a2_0), (.int x_a2_1)] (.int (0 : Int32))) (hc20 : ¬ ((255 : Int32) < x_a1_0)) (ne_a1_a2 : a1 ≠ a2) (hc20' : (255 : Int32) < x_a1_1) :
    MetFree l (⟨"java/lang/StringUTF16", "compress", "([CI[BII)I"⟩ : MethodName) (head1 (Jvm.Cond.code (⟨"java/lang/StringUTF16", "compress", "([CI[BII)I"⟩ : MethodName) jdk_52_method_21_code 7 (some .int) :: ws) ({ frames := 0, cells := 0, slots := 0, locals := 0 } : Room)) (fun a U => a = #[(.ref a1), (.int (0 : Int32)), (.ref a2), (.int (0 : Int32)), (.int (2 : Int32))] ∧ Z.Warmed39 U.vm ∧ U.heap = h0) (fun _ _ _ _ _ => True) (fun _ U o U' => ∃ v L, o = .returned v ∧ Q_rm8_2_1 Z a1 a2 k_a1 x_a1_0 x_a1_1 k_a2 x_a2_0 x_a2_1 h0 n0 v U'.heap L ∧ FrameEnd U o U' L ({ frames := 0, cells := 0, slots := 0, locals := 0 } : Room).cells ({ frames := 0, cells := 0, slots := 0, locals := 0 } : Room).slots) := by
  have hi : ∀ (i : Nat) {d : Jvm.Cond}, tables_1[i]? = some d → d.before a0 Z = true := fun i d h => hw d (List.mem_of_getElem? h)
  refine MetFree.of_bodySF (plainFor_of_name pn_8) hisR ?_
  intro p e s m args below meth c s₁ Bd hml0 hP hK
  obtain ⟨rfl, hZ, hh⟩ := hP
  have hx := Bd.exec
  have hby := Bd.bytes
  have hml : c.maxLocals = 7 := hml0
  have hown : s.vm.findClass "java/lang/StringUTF16" = some m.cls := findClass_of_methodNamed Bd.named
  have hnm := (name_of_methodNamed Bd.named Bd.method).1
  have X0 : Stand p l e ({ frames := 0, cells := 0, slots := 0, locals := 0 } : Room) s m #[(.ref a1), (.int (0 : Int32)), (.ref a2), (.int (0 : Int32)), (.int (2 : Int32))] below meth c s₁ [] 0 0 := Stand.of_body Bd
  have e0 : s₁.heap = h0 := by rw [← hh, Bd.state]; rfl
  have N0 := Fr.nil n0
  have pre0 : ∀ t, Steps p.tables e below (s₁.setTop (mkF m 0 #[vA a1, vI (0 : Int32), vA a2, vI (0 : Int32), vI (2 : Int32), vU, vU] [])) t → Steps p.tables e below (s₁.setTop (entryFrame m #[(.ref a1), (.int (0 : Int32)), (.ref a2), (.int (0 : Int32)), (.int (2 : Int32))] 7)) t := fun t k => castTop (ef_8 m a1 (0 : Int32) a2 (0 : Int32) (2 : Int32)) k
  obtain ⟨cl_a1_0, Ar_a1_0, q_a1_0, Sz_a1_0, Ng_a1_0, Ha_a1_0, Gt_a1_0⟩ := id V_a1
  have hin_a1_0 : ¬ ((0 : Int32) < 0 ∨ cl_a1_0.slots.size ≤ ((0 : Int32)).toNatClampNeg) := inb_of Sz_a1_0 ⟨by decide, by decide⟩
  have hat_a1_0 : cl_a1_0.slots[((0 : Int32)).toNatClampNeg]? = some (.int x_a1_0) := (Ha_a1_0 _ (Nat.lt_of_not_le fun q => hin_a1_0 (Or.inr q))).trans (congrArg some (rfl : (([(.int x_a1_0), (.int x_a1_1)] : List Value)).getD ((0 : Int32)).toNatClampNeg (.int (0 : Int32)) = (.int x_a1_0)))
  obtain ⟨cl_a2_1, Ar_a2_1, q_a2_1, Sz_a2_1, Ng_a2_1, Ha_a2_1, Gt_a2_1⟩ := id V_a2
  have hin_a2_1 : ¬ ((0 : Int32) < 0 ∨ cl_a2_1.slots.size ≤ ((0 : Int32)).toNatClampNeg) := inb_of Sz_a2_1 ⟨by decide, by decide⟩
  obtain ⟨T3, h3, X3, e3, W3, st3⟩ := stB X0 hx hZ e0 Ar_a2_1 (j := (0 : Int32)) hin_a2_1 (g := (mkF m 31 #[vA a1, vI (0 : Int32), vA a2, vI (0 : Int32), vI (2 : Int32), vI (0 : Int32), vI x_a1_0] [(.int (x_a1_0.toInt8.toInt32)), (.int (0 : Int32)), (.ref a2)])) rfl rfl (hb hby d8_31)
  have V3 : Arv Z h3 a2 k_a2 .byte (2 : Int32) [(.int (nar .byte (x_a1_0.toInt8.toInt32))), (.int x_a2_1)] (.int (0 : Int32)) := Arv.set Ar_a2_1 q_a2_1 Sz_a2_1 Ng_a2_1 Ha_a2_1 Gt_a2_1 (fits_nar_byte _) W3 0 rfl (Nat.le_of_ble_eq_true rfl)
  have N3 := Fr.snoc X3 N0 g_a2
  have f2 := (V_a1.other W3 ne_a1_a2)
  obtain ⟨cl_a1_3, Ar_a1_3, q_a1_3, Sz_a1_3, Ng_a1_3, Ha_a1_3, Gt_a1_3⟩ := id f2
  have hin_a1_3 : ¬ ((1 : Int32) < 0 ∨ cl_a1_3.slots.size ≤ ((1 : Int32)).toNatClampNeg) := inb_of Sz_a1_3 ⟨by decide, by decide⟩
  have hat_a1_3 : cl_a1_3.slots[((1 : Int32)).toNatClampNeg]? = some (.int x_a1_1) := (Ha_a1_3 _ (Nat.lt_of_not_le fun q => hin_a1_3 (Or.inr q))).trans (congrArg some (rfl : (([(.int x_a1_0), (.int x_a1_1)] : List Value)).getD ((1 : Int32)).toNatClampNeg (.int (0 : Int32)) = (.int x_a1_1)))
  obtain ⟨fs, hr, hrun, hended, hW, hsame⟩ := X3.leave (v := some (.int (1 : Int32))) (fun h => by rw [Bd.returns] at h; cases h)
  refine ⟨_, _, pre0 _ ?_, hrun, hended, _, _, rfl, ?_, ⟨_, rfl⟩, hW, hsame.mono (by decide) (by decide)⟩
  · show Steps p.tables e below (s₁.setTop (mkF m 0 #[vA a1, vI (0 : Int32), vA a2, vI (0 : Int32), vI (2 : Int32), vU, vU] [])) _
    refine XS.iconst X0.here hx rfl (hb hby d8_0) ?_
    refine XS.istore X0.here hx rfl (hb hby d8_1) rfl (l' := #[vA a1, vI (0 : Int32), vA a2, vI (0 : Int32), vI (2 : Int32), vI (0 : Int32), vU]) rfl ?_
    refine XS.iload X0.here hx rfl (hb hby d8_3) rfl ?_
    refine XS.iload X0.here hx rfl (hb hby d8_5) rfl ?_
    show Steps p.tables e below (s₁.setTop (mkF m 7 #[vA a1, vI (0 : Int32), vA a2, vI (0 : Int32), vI (2 : Int32), vI (0 : Int32), vU] [(.int (2 : Int32)), (.int (0 : Int32))])) _
    refine XS.icmpNo X0.here hx rfl (hb hby d8_7) rfl (tlt (by decide : (0 : Int32) < (2 : Int32))).2.1 ?_
    refine XS.aloadN X0.here hx rfl (hb hby d8_10) rfl rfl ?_
    refine XS.iloadN X0.here hx rfl (hb hby d8_11) rfl ?_
    show Steps p.tables e below (s₁.setTop (mkF m 12 #[vA a1, vI (0 : Int32), vA a2, vI (0 : Int32), vI (2 : Int32), vI (0 : Int32), vU] [(.int (0 : Int32)), (.ref a1)])) _
    refine X0.caload hx (j := (0 : Int32)) (v := (.int x_a1_0)) (by rw [e0]; exact Ar_a1_0.1) (State.isArrayOf_alike hZ.alike Ar_a1_0.2.1) Ar_a1_0.2.2 hin_a1_0 hat_a1_0 (g := (mkF m 12 #[vA a1, vI (0 : Int32), vA a2, vI (0 : Int32), vI (2 : Int32), vI (0 : Int32), vU] [(.int (0 : Int32)), (.ref a1)])) rfl rfl (hb hby d8_12) _ ?_
    refine XS.istore X0.here hx rfl (hb hby d8_13) rfl (l' := #[vA a1, vI (0 : Int32), vA a2, vI (0 : Int32), vI (2 : Int32), vI (0 : Int32), vI x_a1_0]) rfl ?_
    refine XS.iload X0.here hx rfl (hb hby d8_15) rfl ?_
    refine XS.sipush X0.here hx rfl (hb hby d8_17) ?_
    show Steps p.tables e below (s₁.setTop (mkF m 20 #[vA a1, vI (0 : Int32), vA a2, vI (0 : Int32), vI (2 : Int32), vI (0 : Int32), vI x_a1_0] [(.int (255 : Int32)), (.int x_a1_0)])) _
    refine XS.icmpYes X0.here hx rfl (pc0 := 20) (pc' := 26) rfl (hb hby d8_20) rfl (flt hc20).2.2.2 (by decide) (by decide) ?_
    refine XS.aloadN X0.here hx rfl (hb hby d8_26) rfl rfl ?_
    refine XS.iloadN X0.here hx rfl (hb hby d8_27) rfl ?_
    refine XS.iload X0.here hx rfl (hb hby d8_28) rfl ?_
    refine XS.i2b X0.here hx rfl (hb hby d8_30) rfl ?_
    show Steps p.tables e below (s₁.setTop (mkF m 31 #[vA a1, vI (0 : Int32), vA a2, vI (0 : Int32), vI (2 : Int32), vI (0 : Int32), vI x_a1_0] [(.int (x_a1_0.toInt8.toInt32)), (.int (0 : Int32)), (.ref a2)])) _
    refine st3 _ ?_
    refine XS.iinc X3.here hx rfl (hb hby d8_32) rfl (l' := #[vA a1, vI (1 : Int32), vA a2, vI (0 : Int32), vI (2 : Int32), vI (0 : Int32), vI x_a1_0]) rfl ?_
    refine XS.iinc X3.here hx rfl (hb hby d8_35) rfl (l' := #[vA a1, vI (1 : Int32), vA a2, vI (1 : Int32), vI (2 : Int32), vI (0 : Int32), vI x_a1_0]) rfl ?_
    refine XS.iinc X3.here hx rfl (hb hby d8_38) rfl (l' := #[vA a1, vI (1 : Int32), vA a2, vI (1 : Int32), vI (2 : Int32), vI (1 : Int32), vI x_a1_0]) rfl ?_
    show Steps p.tables e below (T3.setTop (mkF m 41 #[vA a1, vI (1 : Int32), vA a2, vI (1 : Int32), vI (2 : Int32), vI (1 : Int32), vI x_a1_0] [])) _
    refine XS.goto X3.here hx rfl (pc0 := 41) (pc' := 3) rfl (hb hby d8_41) (by decide) (by decide) ?_
    refine XS.iload X3.here hx rfl (hb hby d8_3) rfl ?_
    refine XS.iload X3.here hx rfl (hb hby d8_5) rfl ?_
    show Steps p.tables e below (T3.setTop (mkF m 7 #[vA a1, vI (1 : Int32), vA a2, vI (1 : Int32), vI (2 : Int32), vI (1 : Int32), vI x_a1_0] [(.int (2 : Int32)), (.int (1 : Int32))])) _
    refine XS.icmpNo X3.here hx rfl (hb hby d8_7) rfl (tlt (by decide : (1 : Int32) < (2 : Int32))).2.1 ?_
    refine XS.aloadN X3.here hx rfl (hb hby d8_10) rfl rfl ?_
    refine XS.iloadN X3.here hx rfl (hb hby d8_11) rfl ?_
    show Steps p.tables e below (T3.setTop (mkF m 12 #[vA a1, vI (1 : Int32), vA a2, vI (1 : Int32), vI (2 : Int32), vI (1 : Int32), vI x_a1_0] [(.int (1 : Int32)), (.ref a1)])) _
    refine X3.caload hx (j := (1 : Int32)) (v := (.int x_a1_1)) (by rw [e3]; exact Ar_a1_3.1) (State.isArrayOf_alike hZ.alike Ar_a1_3.2.1) Ar_a1_3.2.2 hin_a1_3 hat_a1_3 (g := (mkF m 12 #[vA a1, vI (1 : Int32), vA a2, vI (1 : Int32), vI (2 : Int32), vI (1 : Int32), vI x_a1_0] [(.int (1 : Int32)), (.ref a1)])) rfl rfl (hb hby d8_12) _ ?_
    refine XS.istore X3.here hx rfl (hb hby d8_13) rfl (l' := #[vA a1, vI (1 : Int32), vA a2, vI (1 : Int32), vI (2 : Int32), vI (1 : Int32), vI x_a1_1]) rfl ?_
    refine XS.iload X3.here hx rfl (hb hby d8_15) rfl ?_
    refine XS.sipush X3.here hx rfl (hb hby d8_17) ?_
    show Steps p.tables e below (T3.setTop (mkF m 20 #[vA a1, vI (1 : Int32), vA a2, vI (1 : Int32), vI (2 : Int32), vI (1 : Int32), vI x_a1_1] [(.int (255 : Int32)), (.int x_a1_1)])) _
    refine XS.icmpNo X3.here hx rfl (hb hby d8_20) rfl (tlt hc20').2.2.2 ?_
    refine XS.iload X3.here hx rfl (hb hby d8_23) rfl ?_
    show Steps p.tables e below (T3.setTop (mkF m 25 #[vA a1, vI (1 : Int32), vA a2, vI (1 : Int32), vI (2 : Int32), vI (1 : Int32), vI x_a1_1] [(.int (1 : Int32))])) _
    exact retI X3 hx Bd.returns (hb hby d8_25) hr
  · show Q_rm8_2_1 Z a1 a2 k_a1 x_a1_0 x_a1_1 k_a2 x_a2_0 x_a2_1 h0 n0 _ T3.heap _
    rw [e3]
    exact ⟨rfl, N3, ((Keep.refl h0 [a2]).wr W3 (Or.inl (List.mem_of_getElem? (i := 0) rfl))), V3⟩
def Q_rm8_2_2 (Z : State) (a1 : Addr) (a2 : Addr) (k_a1 : ClassId) (x_a1_0 : Int32) (x_a1_1 : Int32) (k_a2 : ClassId) (x_a2_0 : Int32) (x_a2_1 : Int32) (h0 : Heap) (n0 : Nat) (v : Option Value) (h : Heap) (L : List Loc) : Prop := v = some (.int (2 : Int32)) ∧ Fr n0 L ∧ Keep h0 h [a2] ∧ Arv Z h a2 k_a2 .byte (2 : Int32) [(.int (nar .byte (x_a1_0.toInt8.toInt32))), (.int (nar .byte (x_a1_1.toInt8.toInt32)))] (.int (0 : Int32))
set_option maxRecDepth 65536 in
set_option maxHeartbeats 40000000 in
theorem rm8_2_2 (l : Launch) (Z : State) (a0 : Array Value) (hw : ∀ d ∈ tables_1, d.before a0 Z = true) (ws : List Jvm.Cond) (a1 : Addr) (a2 : Addr) (k_a1 : ClassId) (x_a1_0 : Int32) (x_a1_1 : Int32) (k_a2 : ClassId) (x_a2_0 : Int32) (x_a2_1 : Int32) (h0 : Heap) (n0 : Nat) (Z0 : n0 ≤ h0.size) (g_a2 : n0 ≤ a2) (V_a1 : Arv Z h0 a1 k_a1 .char (2 : Int32) [(.int x_a1_0), (.int x_a1_1)] (.int (0 : Int32))) (V_a2 : Arv Z h0 a2 k_a2 .byte (2 : Int32) [(.int x_a2_0), (.int x_a2_1)] (.int (0 : Int32))) (hc20 : ¬ ((255 : Int32) < x_a1_0)) (ne_a1_a2 : a1 ≠ a2) (hc20' : ¬ ((255 : Int32) < x_a1_1)) :
    MetFree l (⟨"java/lang/StringUTF16", "compress", "([CI[BII)I"⟩ : MethodName) (head1 (Jvm.Cond.code (⟨"java/lang/StringUTF16", "compress", "([CI[BII)I"⟩ : MethodName) jdk_52_method_21_code 7 (some .int) :: ws) ({ frames := 0, cells := 0, slots := 0, locals := 0 } : Room)) (fun a U => a = #[(.ref a1), (.int (0 : Int32)), (.ref a2), (.int (0 : Int32)), (.int (2 : Int32))] ∧ Z.Warmed39 U.vm ∧ U.heap = h0) (fun _ _ _ _ _ => True) (fun _ U o U' => ∃ v L, o = .returned v ∧ Q_rm8_2_2 Z a1 a2 k_a1 x_a1_0 x_a1_1 k_a2 x_a2_0 x_a2_1 h0 n0 v U'.heap L ∧ FrameEnd U o U' L ({ frames := 0, cells := 0, slots := 0, locals := 0 } : Room).cells ({ frames := 0, cells := 0, slots := 0, locals := 0 } : Room).slots) := by
  have hi : ∀ (i : Nat) {d : Jvm.Cond}, tables_1[i]? = some d → d.before a0 Z = true := fun i d h => hw d (List.mem_of_getElem? h)
  refine MetFree.of_bodySF (plainFor_of_name pn_8) hisR ?_
  intro p e s m args below meth c s₁ Bd hml0 hP hK
  obtain ⟨rfl, hZ, hh⟩ := hP
  have hx := Bd.exec
  have hby := Bd.bytes
  have hml : c.maxLocals = 7 := hml0
  have hown : s.vm.findClass "java/lang/StringUTF16" = some m.cls := findClass_of_methodNamed Bd.named
  have hnm := (name_of_methodNamed Bd.named Bd.method).1
  have X0 : Stand p l e ({ frames := 0, cells := 0, slots := 0, locals := 0 } : Room) s m #[(.ref a1), (.int (0 : Int32)), (.ref a2), (.int (0 : Int32)), (.int (2 : Int32))] below meth c s₁ [] 0 0 := Stand.of_body Bd
  have e0 : s₁.heap = h0 := by rw [← hh, Bd.state]; rfl
  have N0 := Fr.nil n0
  have pre0 : ∀ t, Steps p.tables e below (s₁.setTop (mkF m 0 #[vA a1, vI (0 : Int32), vA a2, vI (0 : Int32), vI (2 : Int32), vU, vU] [])) t → Steps p.tables e below (s₁.setTop (entryFrame m #[(.ref a1), (.int (0 : Int32)), (.ref a2), (.int (0 : Int32)), (.int (2 : Int32))] 7)) t := fun t k => castTop (ef_8 m a1 (0 : Int32) a2 (0 : Int32) (2 : Int32)) k
  obtain ⟨cl_a1_0, Ar_a1_0, q_a1_0, Sz_a1_0, Ng_a1_0, Ha_a1_0, Gt_a1_0⟩ := id V_a1
  have hin_a1_0 : ¬ ((0 : Int32) < 0 ∨ cl_a1_0.slots.size ≤ ((0 : Int32)).toNatClampNeg) := inb_of Sz_a1_0 ⟨by decide, by decide⟩
  have hat_a1_0 : cl_a1_0.slots[((0 : Int32)).toNatClampNeg]? = some (.int x_a1_0) := (Ha_a1_0 _ (Nat.lt_of_not_le fun q => hin_a1_0 (Or.inr q))).trans (congrArg some (rfl : (([(.int x_a1_0), (.int x_a1_1)] : List Value)).getD ((0 : Int32)).toNatClampNeg (.int (0 : Int32)) = (.int x_a1_0)))
  obtain ⟨cl_a2_1, Ar_a2_1, q_a2_1, Sz_a2_1, Ng_a2_1, Ha_a2_1, Gt_a2_1⟩ := id V_a2
  have hin_a2_1 : ¬ ((0 : Int32) < 0 ∨ cl_a2_1.slots.size ≤ ((0 : Int32)).toNatClampNeg) := inb_of Sz_a2_1 ⟨by decide, by decide⟩
  obtain ⟨T3, h3, X3, e3, W3, st3⟩ := stB X0 hx hZ e0 Ar_a2_1 (j := (0 : Int32)) hin_a2_1 (g := (mkF m 31 #[vA a1, vI (0 : Int32), vA a2, vI (0 : Int32), vI (2 : Int32), vI (0 : Int32), vI x_a1_0] [(.int (x_a1_0.toInt8.toInt32)), (.int (0 : Int32)), (.ref a2)])) rfl rfl (hb hby d8_31)
  have V3 : Arv Z h3 a2 k_a2 .byte (2 : Int32) [(.int (nar .byte (x_a1_0.toInt8.toInt32))), (.int x_a2_1)] (.int (0 : Int32)) := Arv.set Ar_a2_1 q_a2_1 Sz_a2_1 Ng_a2_1 Ha_a2_1 Gt_a2_1 (fits_nar_byte _) W3 0 rfl (Nat.le_of_ble_eq_true rfl)
  have N3 := Fr.snoc X3 N0 g_a2
  have f2 := (V_a1.other W3 ne_a1_a2)
  obtain ⟨cl_a1_3, Ar_a1_3, q_a1_3, Sz_a1_3, Ng_a1_3, Ha_a1_3, Gt_a1_3⟩ := id f2
  have hin_a1_3 : ¬ ((1 : Int32) < 0 ∨ cl_a1_3.slots.size ≤ ((1 : Int32)).toNatClampNeg) := inb_of Sz_a1_3 ⟨by decide, by decide⟩
  have hat_a1_3 : cl_a1_3.slots[((1 : Int32)).toNatClampNeg]? = some (.int x_a1_1) := (Ha_a1_3 _ (Nat.lt_of_not_le fun q => hin_a1_3 (Or.inr q))).trans (congrArg some (rfl : (([(.int x_a1_0), (.int x_a1_1)] : List Value)).getD ((1 : Int32)).toNatClampNeg (.int (0 : Int32)) = (.int x_a1_1)))
  obtain ⟨cl_a2_4, Ar_a2_4, q_a2_4, Sz_a2_4, Ng_a2_4, Ha_a2_4, Gt_a2_4⟩ := id V3
  have hin_a2_4 : ¬ ((1 : Int32) < 0 ∨ cl_a2_4.slots.size ≤ ((1 : Int32)).toNatClampNeg) := inb_of Sz_a2_4 ⟨by decide, by decide⟩
  obtain ⟨T4, h4, X4, e4, W4, st4⟩ := stB X3 hx hZ e3 Ar_a2_4 (j := (1 : Int32)) hin_a2_4 (g := (mkF m 31 #[vA a1, vI (1 : Int32), vA a2, vI (1 : Int32), vI (2 : Int32), vI (1 : Int32), vI x_a1_1] [(.int (x_a1_1.toInt8.toInt32)), (.int (1 : Int32)), (.ref a2)])) rfl rfl (hb hby d8_31)
  have V4 : Arv Z h4 a2 k_a2 .byte (2 : Int32) [(.int (nar .byte (x_a1_0.toInt8.toInt32))), (.int (nar .byte (x_a1_1.toInt8.toInt32)))] (.int (0 : Int32)) := Arv.set Ar_a2_4 q_a2_4 Sz_a2_4 Ng_a2_4 Ha_a2_4 Gt_a2_4 (fits_nar_byte _) W4 1 rfl (Nat.le_of_ble_eq_true rfl)
  have N4 := Fr.snoc X4 N3 g_a2
  obtain ⟨fs, hr, hrun, hended, hW, hsame⟩ := X4.leave (v := some (.int (2 : Int32))) (fun h => by rw [Bd.returns] at h; cases h)
  refine ⟨_, _, pre0 _ ?_, hrun, hended, _, _, rfl, ?_, ⟨_, rfl⟩, hW, hsame.mono (by decide) (by decide)⟩
  · show Steps p.tables e below (s₁.setTop (mkF m 0 #[vA a1, vI (0 : Int32), vA a2, vI (0 : Int32), vI (2 : Int32), vU, vU] [])) _
    refine XS.iconst X0.here hx rfl (hb hby d8_0) ?_
    refine XS.istore X0.here hx rfl (hb hby d8_1) rfl (l' := #[vA a1, vI (0 : Int32), vA a2, vI (0 : Int32), vI (2 : Int32), vI (0 : Int32), vU]) rfl ?_
    refine XS.iload X0.here hx rfl (hb hby d8_3) rfl ?_
    refine XS.iload X0.here hx rfl (hb hby d8_5) rfl ?_
    show Steps p.tables e below (s₁.setTop (mkF m 7 #[vA a1, vI (0 : Int32), vA a2, vI (0 : Int32), vI (2 : Int32), vI (0 : Int32), vU] [(.int (2 : Int32)), (.int (0 : Int32))])) _
    refine XS.icmpNo X0.here hx rfl (hb hby d8_7) rfl (tlt (by decide : (0 : Int32) < (2 : Int32))).2.1 ?_
    refine XS.aloadN X0.here hx rfl (hb hby d8_10) rfl rfl ?_
    refine XS.iloadN X0.here hx rfl (hb hby d8_11) rfl ?_
    show Steps p.tables e below (s₁.setTop (mkF m 12 #[vA a1, vI (0 : Int32), vA a2, vI (0 : Int32), vI (2 : Int32), vI (0 : Int32), vU] [(.int (0 : Int32)), (.ref a1)])) _
    refine X0.caload hx (j := (0 : Int32)) (v := (.int x_a1_0)) (by rw [e0]; exact Ar_a1_0.1) (State.isArrayOf_alike hZ.alike Ar_a1_0.2.1) Ar_a1_0.2.2 hin_a1_0 hat_a1_0 (g := (mkF m 12 #[vA a1, vI (0 : Int32), vA a2, vI (0 : Int32), vI (2 : Int32), vI (0 : Int32), vU] [(.int (0 : Int32)), (.ref a1)])) rfl rfl (hb hby d8_12) _ ?_
    refine XS.istore X0.here hx rfl (hb hby d8_13) rfl (l' := #[vA a1, vI (0 : Int32), vA a2, vI (0 : Int32), vI (2 : Int32), vI (0 : Int32), vI x_a1_0]) rfl ?_
    refine XS.iload X0.here hx rfl (hb hby d8_15) rfl ?_
    refine XS.sipush X0.here hx rfl (hb hby d8_17) ?_
    show Steps p.tables e below (s₁.setTop (mkF m 20 #[vA a1, vI (0 : Int32), vA a2, vI (0 : Int32), vI (2 : Int32), vI (0 : Int32), vI x_a1_0] [(.int (255 : Int32)), (.int x_a1_0)])) _
    refine XS.icmpYes X0.here hx rfl (pc0 := 20) (pc' := 26) rfl (hb hby d8_20) rfl (flt hc20).2.2.2 (by decide) (by decide) ?_
    refine XS.aloadN X0.here hx rfl (hb hby d8_26) rfl rfl ?_
    refine XS.iloadN X0.here hx rfl (hb hby d8_27) rfl ?_
    refine XS.iload X0.here hx rfl (hb hby d8_28) rfl ?_
    refine XS.i2b X0.here hx rfl (hb hby d8_30) rfl ?_
    show Steps p.tables e below (s₁.setTop (mkF m 31 #[vA a1, vI (0 : Int32), vA a2, vI (0 : Int32), vI (2 : Int32), vI (0 : Int32), vI x_a1_0] [(.int (x_a1_0.toInt8.toInt32)), (.int (0 : Int32)), (.ref a2)])) _
    refine st3 _ ?_
    refine XS.iinc X3.here hx rfl (hb hby d8_32) rfl (l' := #[vA a1, vI (1 : Int32), vA a2, vI (0 : Int32), vI (2 : Int32), vI (0 : Int32), vI x_a1_0]) rfl ?_
    refine XS.iinc X3.here hx rfl (hb hby d8_35) rfl (l' := #[vA a1, vI (1 : Int32), vA a2, vI (1 : Int32), vI (2 : Int32), vI (0 : Int32), vI x_a1_0]) rfl ?_
    refine XS.iinc X3.here hx rfl (hb hby d8_38) rfl (l' := #[vA a1, vI (1 : Int32), vA a2, vI (1 : Int32), vI (2 : Int32), vI (1 : Int32), vI x_a1_0]) rfl ?_
    show Steps p.tables e below (T3.setTop (mkF m 41 #[vA a1, vI (1 : Int32), vA a2, vI (1 : Int32), vI (2 : Int32), vI (1 : Int32), vI x_a1_0] [])) _
    refine XS.goto X3.here hx rfl (pc0 := 41) (pc' := 3) rfl (hb hby d8_41) (by decide) (by decide) ?_
    refine XS.iload X3.here hx rfl (hb hby d8_3) rfl ?_
    refine XS.iload X3.here hx rfl (hb hby d8_5) rfl ?_
    show Steps p.tables e below (T3.setTop (mkF m 7 #[vA a1, vI (1 : Int32), vA a2, vI (1 : Int32), vI (2 : Int32), vI (1 : Int32), vI x_a1_0] [(.int (2 : Int32)), (.int (1 : Int32))])) _
    refine XS.icmpNo X3.here hx rfl (hb hby d8_7) rfl (tlt (by decide : (1 : Int32) < (2 : Int32))).2.1 ?_
    refine XS.aloadN X3.here hx rfl (hb hby d8_10) rfl rfl ?_
    refine XS.iloadN X3.here hx rfl (hb hby d8_11) rfl ?_
    show Steps p.tables e below (T3.setTop (mkF m 12 #[vA a1, vI (1 : Int32), vA a2, vI (1 : Int32), vI (2 : Int32), vI (1 : Int32), vI x_a1_0] [(.int (1 : Int32)), (.ref a1)])) _
    refine X3.caload hx (j := (1 : Int32)) (v := (.int x_a1_1)) (by rw [e3]; exact Ar_a1_3.1) (State.isArrayOf_alike hZ.alike Ar_a1_3.2.1) Ar_a1_3.2.2 hin_a1_3 hat_a1_3 (g := (mkF m 12 #[vA a1, vI (1 : Int32), vA a2, vI (1 : Int32), vI (2 : Int32), vI (1 : Int32), vI x_a1_0] [(.int (1 : Int32)), (.ref a1)])) rfl rfl (hb hby d8_12) _ ?_
    refine XS.istore X3.here hx rfl (hb hby d8_13) rfl (l' := #[vA a1, vI (1 : Int32), vA a2, vI (1 : Int32), vI (2 : Int32), vI (1 : Int32), vI x_a1_1]) rfl ?_
    refine XS.iload X3.here hx rfl (hb hby d8_15) rfl ?_
    refine XS.sipush X3.here hx rfl (hb hby d8_17) ?_
    show Steps p.tables e below (T3.setTop (mkF m 20 #[vA a1, vI (1 : Int32), vA a2, vI (1 : Int32), vI (2 : Int32), vI (1 : Int32), vI x_a1_1] [(.int (255 : Int32)), (.int x_a1_1)])) _
    refine XS.icmpYes X3.here hx rfl (pc0 := 20) (pc' := 26) rfl (hb hby d8_20) rfl (flt hc20').2.2.2 (by decide) (by decide) ?_
    refine XS.aloadN X3.here hx rfl (hb hby d8_26) rfl rfl ?_
    refine XS.iloadN X3.here hx rfl (hb hby d8_27) rfl ?_
    refine XS.iload X3.here hx rfl (hb hby d8_28) rfl ?_
    refine XS.i2b X3.here hx rfl (hb hby d8_30) rfl ?_
    show Steps p.tables e below (T3.setTop (mkF m 31 #[vA a1, vI (1 : Int32), vA a2, vI (1 : Int32), vI (2 : Int32), vI (1 : Int32), vI x_a1_1] [(.int (x_a1_1.toInt8.toInt32)), (.int (1 : Int32)), (.ref a2)])) _
    refine st4 _ ?_
    refine XS.iinc X4.here hx rfl (hb hby d8_32) rfl (l' := #[vA a1, vI (2 : Int32), vA a2, vI (1 : Int32), vI (2 : Int32), vI (1 : Int32), vI x_a1_1]) rfl ?_
    refine XS.iinc X4.here hx rfl (hb hby d8_35) rfl (l' := #[vA a1, vI (2 : Int32), vA a2, vI (2 : Int32), vI (2 : Int32), vI (1 : Int32), vI x_a1_1]) rfl ?_
    refine XS.iinc X4.here hx rfl (hb hby d8_38) rfl (l' := #[vA a1, vI (2 : Int32), vA a2, vI (2 : Int32), vI (2 : Int32), vI (2 : Int32), vI x_a1_1]) rfl ?_
    show Steps p.tables e below (T4.setTop (mkF m 41 #[vA a1, vI (2 : Int32), vA a2, vI (2 : Int32), vI (2 : Int32), vI (2 : Int32), vI x_a1_1] [])) _
    refine XS.goto X4.here hx rfl (pc0 := 41) (pc' := 3) rfl (hb hby d8_41) (by decide) (by decide) ?_
    refine XS.iload X4.here hx rfl (hb hby d8_3) rfl ?_
    refine XS.iload X4.here hx rfl (hb hby d8_5) rfl ?_
    show Steps p.tables e below (T4.setTop (mkF m 7 #[vA a1, vI (2 : Int32), vA a2, vI (2 : Int32), vI (2 : Int32), vI (2 : Int32), vI x_a1_1] [(.int (2 : Int32)), (.int (2 : Int32))])) _
    refine XS.icmpYes X4.here hx rfl (pc0 := 7) (pc' := 44) rfl (hb hby d8_7) rfl (flt (fun q => Int32.lt_irrefl q : ¬ ((2 : Int32) < (2 : Int32)))).2.1 (by decide) (by decide) ?_
    refine XS.iload X4.here hx rfl (hb hby d8_44) rfl ?_
    show Steps p.tables e below (T4.setTop (mkF m 46 #[vA a1, vI (2 : Int32), vA a2, vI (2 : Int32), vI (2 : Int32), vI (2 : Int32), vI x_a1_1] [(.int (2 : Int32))])) _
    exact retI X4 hx Bd.returns (hb hby d8_46) hr
  · show Q_rm8_2_2 Z a1 a2 k_a1 x_a1_0 x_a1_1 k_a2 x_a2_0 x_a2_1 h0 n0 _ T4.heap _
    rw [e4]
    exact ⟨rfl, N4, (((Keep.refl h0 [a2]).wr W3 (Or.inl (List.mem_of_getElem? (i := 0) rfl))).wr W4 (Or.inl (List.mem_of_getElem? (i := 0) rfl))), V4⟩
def t7_1 (s_HI_BYTE_SHIFT : Int32) (s_LO_BYTE_SHIFT : Int32) (x_a1_1 : Int32) : Int32 := (nar .char (t14_3 s_HI_BYTE_SHIFT s_LO_BYTE_SHIFT (nar .byte ((x_a1_1 >>> (s_HI_BYTE_SHIFT &&& 31)).toInt8.toInt32)) (nar .byte ((x_a1_1 >>> (s_LO_BYTE_SHIFT &&& 31)).toInt8.toInt32))))
def Q_rm7_2 (Z : State) (a1 : Addr) (s__assertionsDisabled : Int32) (s_HI_BYTE_SHIFT : Int32) (s_LO_BYTE_SHIFT : Int32) (k_a1 : ClassId) (x_a1_0 : Int32) (x_a1_1 : Int32) (h0 : Heap) (n0 : Nat) (v : Option Value) (h : Heap) (L : List Loc) : Prop := ∃ b : Addr, ∃ k : ClassId, ∃ zz : Int32, ∃ vs : List Value, v = some (.ref b) ∧ Fr n0 L ∧ Keep h0 h [] ∧ h0.size ≤ b ∧ Arv Z h b k .byte zz vs (.int (0 : Int32)) ∧ (zz = (2 : Int32) ∨ zz = (4 : Int32))
set_option maxRecDepth 65536 in
set_option maxHeartbeats 40000000 in
theorem rm7_2_k0 (l : Launch) (Z : State) (a0 : Array Value) (hw : ∀ d ∈ tables_1, d.before a0 Z = true) (ws : List Jvm.Cond) (a1 : Addr) (s__assertionsDisabled : Int32) (s_HI_BYTE_SHIFT : Int32) (s_LO_BYTE_SHIFT : Int32) (k_a1 : ClassId) (x_a1_0 : Int32) (x_a1_1 : Int32) (h0 : Heap) (n0 : Nat) (Z0 : n0 ≤ h0.size) (hasd : ¬ (s__assertionsDisabled = (0 : Int32))) (hhi : s_HI_BYTE_SHIFT = (0 : Int32)) (hlo : s_LO_BYTE_SHIFT = (8 : Int32)) (hch0 : nar .char x_a1_0 = x_a1_0) (hch1 : nar .char x_a1_1 = x_a1_1) (S__assertionsDisabled : Sta Z h0 "java/lang/StringUTF16" "$assertionsDisabled" "Z" (.int s__assertionsDisabled)) (S_HI_BYTE_SHIFT : Sta Z h0 "java/lang/StringUTF16" "HI_BYTE_SHIFT" "I" (.int s_HI_BYTE_SHIFT)) (S_LO_BYTE_SHIFT : Sta Z h0 "java/lang/StringUTF16" "LO_BYTE_SHIFT" "I" (.int s_LO_BYTE_SHIFT)) (V_a1 : Arv Z h0 a1 k_a1 .char (2 : Int32) [(.int x_a1_0), (.int x_a1_1)] (.int (0 : Int32))) (hhc20_9 : (255 : Int32) < x_a1_0) :
    MetFree l (⟨"java/lang/StringUTF16", "compress", "([CII)[B"⟩ : MethodName) (head1 (Jvm.Cond.code (⟨"java/lang/StringUTF16", "compress", "([CII)[B"⟩ : MethodName) jdk_52_method_16_code 6 (some (.array .byte)) :: ws) ({ frames := 3, cells := 2, slots := 6, locals := 40 } : Room)) (fun a U => a = #[(.ref a1), (.int (0 : Int32)), (.int (2 : Int32))] ∧ Z.Warmed39 U.vm ∧ U.heap = h0) (fun _ _ _ _ _ => True) (fun _ U o U' => ∃ v L, o = .returned v ∧ Q_rm7_2 Z a1 s__assertionsDisabled s_HI_BYTE_SHIFT s_LO_BYTE_SHIFT k_a1 x_a1_0 x_a1_1 h0 n0 v U'.heap L ∧ FrameEnd U o U' L ({ frames := 3, cells := 2, slots := 6, locals := 40 } : Room).cells ({ frames := 3, cells := 2, slots := 6, locals := 40 } : Room).slots) := by
  have hi : ∀ (i : Nat) {d : Jvm.Cond}, tables_1[i]? = some d → d.before a0 Z = true := fun i d h => hw d (List.mem_of_getElem? h)
  refine MetFree.of_bodySF (plainFor_of_name pn_7) hisR ?_
  intro p e s m args below meth c s₁ Bd hml0 hP hK
  obtain ⟨rfl, hZ, hh⟩ := hP
  have hx := Bd.exec
  have hby := Bd.bytes
  have hml : c.maxLocals = 6 := hml0
  have hown : s.vm.findClass "java/lang/StringUTF16" = some m.cls := findClass_of_methodNamed Bd.named
  have hnm := (name_of_methodNamed Bd.named Bd.method).1
  have X0 : Stand p l e ({ frames := 3, cells := 2, slots := 6, locals := 40 } : Room) s m #[(.ref a1), (.int (0 : Int32)), (.int (2 : Int32))] below meth c s₁ [] 0 0 := Stand.of_body Bd
  have e0 : s₁.heap = h0 := by rw [← hh, Bd.state]; rfl
  have N0 := Fr.nil n0
  have pre0 : ∀ t, Steps p.tables e below (s₁.setTop (mkF m 0 #[vA a1, vI (0 : Int32), vI (2 : Int32), vU, vU, vU] [])) t → Steps p.tables e below (s₁.setTop (entryFrame m #[(.ref a1), (.int (0 : Int32)), (.int (2 : Int32))] 6)) t := fun t k => castTop (ef_7 m a1 (0 : Int32) (2 : Int32)) k
  obtain ⟨T2, h2, k2, X2, e2, E2, A2, st2⟩ := newP X0 hx hZ (hi 17 rfl) e0 (g := (mkF m 1 #[vA a1, vI (0 : Int32), vI (2 : Int32), vU, vU, vU] [(.int (2 : Int32))])) rfl (hb hby d7_1) rfl (by decide) (cap := 2) (by decide) (by decide) (by decide) (by decide)
  obtain ⟨b2, g2⟩ : ∃ z, z = h0.size := ⟨_, rfl⟩
  rw [← g2] at A2 st2
  have g_b2 : n0 ≤ b2 := Nat.le_trans Z0 (Nat.le_of_eq g2.symm)
  have sz_b2 : h0.size ≤ b2 := Nat.le_trans (Nat.le_refl h0.size) (Nat.le_of_eq g2.symm)
  have V_b2 : Arv Z h2 b2 k2 .byte (2 : Int32) [(.int (0 : Int32)), (.int (0 : Int32))] (.int (0 : Int32)) := (Arv.new A2 (by decide)).pad (pad_rep [] (.int (0 : Int32)) 2)
  have f0 := (V_a1.ext E2)
  obtain ⟨_, _, ⟨T3, L3, k3, n3⟩, -, X3, ⟨Lc3, hQ3, l3, y3, z3⟩, st3⟩ := Jvm.LawKit.callS X2 hx (y := (⟨"java/lang/StringUTF16", "compress", "([CI[BII)I"⟩ : MethodName)) hown (mvT hZ (hi 47 rfl)) (mvT hZ (hi 48 rfl)) (mvT hZ (hi 45 rfl)) (mvT hZ (hi 49 rfl)) (by decide) (backOf (W := 0) (rm8_2_0 l Z a0 hw [] a1 b2 k_a1 x_a1_0 x_a1_1 k2 (0 : Int32) (0 : Int32) h2 n0 (Nat.le_trans Z0 E2.1) f0 V_b2 hhc20_9) hZ (hi 49 rfl) (hi 45 rfl) (by decide) (by decide)) (g := (mkF m 9 #[vA a1, vI (0 : Int32), vI (2 : Int32), vA b2, vU, vU] [(.int (2 : Int32)), (.int (0 : Int32)), (.ref b2), (.int (0 : Int32)), (.ref a1)])) rfl (by rw [hml]; rfl) (argsL := [(.ref a1), (.int (0 : Int32)), (.ref b2), (.int (0 : Int32)), (.int (2 : Int32))]) (rest := []) (lenOf pd__28_5bCI_5bBII_29I rfl) rfl (by show 2 * 0 + _ ≤ _; exact Nat.le_of_eq rfl) (hb hby d7_9) (fun _ _ => ⟨rfl, e2, (by decide : 1 + 0 ≤ _), (by decide : 2 + 0 ≤ _)⟩)
  dsimp only [Pt.U, Pt.locs, Pt.cells, Pt.slots] at X3 l3 y3 z3 st3 hQ3
  subst l3 y3 z3
  obtain ⟨rfl, N3q, e3⟩ := hQ3
  have N3 := Fr.app N0 N3q
  have f1 := (S__assertionsDisabled.ext E2)
  have f2 := (S_HI_BYTE_SHIFT.ext E2)
  have f3 := (S_LO_BYTE_SHIFT.ext E2)
  obtain ⟨_, _, ⟨T4, L4, k4, n4⟩, -, X4, ⟨Lc4, hQ4, l4, y4, z4⟩, st4⟩ := Jvm.LawKit.callS X3 hx (y := (⟨"java/lang/StringUTF16", "toBytes", "([CII)[B"⟩ : MethodName)) hown (mvT hZ (hi 53 rfl)) (mvT hZ (hi 54 rfl)) (mvT hZ (hi 45 rfl)) (mvT hZ (hi 55 rfl)) (by decide) (backOf (W := 0) (rm10_2 l Z a0 hw [] a1 s__assertionsDisabled s_HI_BYTE_SHIFT s_LO_BYTE_SHIFT k_a1 x_a1_0 x_a1_1 h2 n0 (Nat.le_trans Z0 E2.1) hasd f1 f2 f3 f0) hZ (hi 55 rfl) (hi 45 rfl) (by decide) (by decide)) (g := (mkF m 23 #[vA a1, vI (0 : Int32), vI (2 : Int32), vA b2, vI (0 : Int32), vU] [(.int (2 : Int32)), (.int (0 : Int32)), (.ref a1)])) rfl (by rw [hml]; rfl) (argsL := [(.ref a1), (.int (0 : Int32)), (.int (2 : Int32))]) (rest := []) (lenOf pd__28_5bCII_29_5bB rfl) rfl (by show 2 * 0 + _ ≤ _; exact Nat.le_of_eq rfl) (hb hby d7_23) (fun _ _ => ⟨rfl, e3, (by decide : 1 + 1 ≤ _), (by decide : 2 + 4 ≤ _)⟩)
  dsimp only [Pt.U, Pt.locs, Pt.cells, Pt.slots] at X4 l4 y4 z4 st4 hQ4
  subst l4 y4 z4
  obtain ⟨b2_2_4, ⟨k2_2_4, ⟨rfl, N4q, K4, i4_0, i4_1⟩⟩⟩ := hQ4
  have N4 := Fr.app N3 N4q
  have sz_b2_2_4 : h0.size ≤ b2_2_4 := Nat.le_trans (Nat.le_trans (Nat.le_refl h0.size) E2.1) i4_0
  have g_b2_2_4 : n0 ≤ b2_2_4 := Nat.le_trans Z0 sz_b2_2_4
  have f4 := (own_sta_keep f1 K4 own_q0)
  have f5 := (own_sta_keep f2 K4 own_q0)
  have f6 := (own_sta_keep f3 K4 own_q0)
  obtain ⟨_, _, ⟨T5, L5, k5, n5⟩, -, X5, ⟨Lc5, hQ5, l5, y5, z5⟩, st5⟩ := Jvm.LawKit.callS X4 hx (y := (⟨"java/lang/StringUTF16", "getChar", "([BI)C"⟩ : MethodName)) hown (mvT hZ (hi 69 rfl)) (mvT hZ (hi 70 rfl)) (mvT hZ (hi 45 rfl)) (mvT hZ (hi 71 rfl)) (by decide) (backOf (W := 0) (rm14_2_0 l Z a0 hw [] b2_2_4 s__assertionsDisabled s_HI_BYTE_SHIFT s_LO_BYTE_SHIFT k2_2_4 (nar .byte ((x_a1_0 >>> (s_HI_BYTE_SHIFT &&& 31)).toInt8.toInt32)) (nar .byte ((x_a1_0 >>> (s_LO_BYTE_SHIFT &&& 31)).toInt8.toInt32)) (nar .byte ((x_a1_1 >>> (s_HI_BYTE_SHIFT &&& 31)).toInt8.toInt32)) (nar .byte ((x_a1_1 >>> (s_LO_BYTE_SHIFT &&& 31)).toInt8.toInt32)) T4.heap n0 (Nat.le_trans (Nat.le_trans Z0 E2.1) K4.1) hasd f4 f5 f6 i4_1) hZ (hi 71 rfl) (hi 45 rfl) (by decide) (by decide)) (g := (mkF m 32 #[vA a1, vI (0 : Int32), vI (2 : Int32), vA b2, vI (0 : Int32), vA b2_2_4] [(.int (0 : Int32)), (.ref b2_2_4)])) rfl (by rw [hml]; rfl) (argsL := [(.ref b2_2_4), (.int (0 : Int32))]) (rest := []) (lenOf pd__28_5bBI_29C rfl) rfl (by show 2 * 0 + _ ≤ _; exact Nat.le_of_eq rfl) (hb hby d7_32) (fun _ _ => ⟨rfl, rfl, (by decide : 2 + 0 ≤ _), (by decide : 6 + 0 ≤ _)⟩)
  dsimp only [Pt.U, Pt.locs, Pt.cells, Pt.slots] at X5 l5 y5 z5 st5 hQ5
  subst l5 y5 z5
  obtain ⟨rfl, N5q, e5⟩ := hQ5
  have N5 := Fr.app N4 N5q
  obtain ⟨fs, hr, hrun, hended, hW, hsame⟩ := X5.leave (v := some (.ref b2_2_4)) (fun h => by rw [Bd.returns] at h; cases h)
  refine ⟨_, _, pre0 _ ?_, hrun, hended, _, _, rfl, ?_, ⟨_, rfl⟩, hW, hsame.mono (by decide) (by decide)⟩
  · show Steps p.tables e below (s₁.setTop (mkF m 0 #[vA a1, vI (0 : Int32), vI (2 : Int32), vU, vU, vU] [])) _
    refine XS.iloadN X0.here hx rfl (hb hby d7_0) rfl ?_
    show Steps p.tables e below (s₁.setTop (mkF m 1 #[vA a1, vI (0 : Int32), vI (2 : Int32), vU, vU, vU] [(.int (2 : Int32))])) _
    refine st2 _ ?_
    refine XS.astoreN X2.here hx rfl (hb hby d7_3) rfl rfl (l' := #[vA a1, vI (0 : Int32), vI (2 : Int32), vA b2, vU, vU]) rfl ?_
    refine XS.aloadN X2.here hx rfl (hb hby d7_4) rfl rfl ?_
    refine XS.iloadN X2.here hx rfl (hb hby d7_5) rfl ?_
    refine XS.aloadN X2.here hx rfl (hb hby d7_6) rfl rfl ?_
    refine XS.iconst X2.here hx rfl (hb hby d7_7) ?_
    refine XS.iloadN X2.here hx rfl (hb hby d7_8) rfl ?_
    show Steps p.tables e below (T2.setTop (mkF m 9 #[vA a1, vI (0 : Int32), vI (2 : Int32), vA b2, vU, vU] [(.int (2 : Int32)), (.int (0 : Int32)), (.ref b2), (.int (0 : Int32)), (.ref a1)])) _
    refine st3 _ ?_
    refine XS.istore X3.here hx rfl (hb hby d7_12) rfl (l' := #[vA a1, vI (0 : Int32), vI (2 : Int32), vA b2, vI (0 : Int32), vU]) rfl ?_
    refine XS.iload X3.here hx rfl (hb hby d7_14) rfl ?_
    refine XS.iloadN X3.here hx rfl (hb hby d7_16) rfl ?_
    show Steps p.tables e below (T3.setTop (mkF m 17 #[vA a1, vI (0 : Int32), vI (2 : Int32), vA b2, vI (0 : Int32), vU] [(.int (2 : Int32)), (.int (0 : Int32))])) _
    refine XS.icmpNo X3.here hx rfl (hb hby d7_17) rfl (feq (by decide : ¬ ((0 : Int32) = (2 : Int32)))).1 ?_
    refine XS.aloadN X3.here hx rfl (hb hby d7_20) rfl rfl ?_
    refine XS.iloadN X3.here hx rfl (hb hby d7_21) rfl ?_
    refine XS.iloadN X3.here hx rfl (hb hby d7_22) rfl ?_
    show Steps p.tables e below (T3.setTop (mkF m 23 #[vA a1, vI (0 : Int32), vI (2 : Int32), vA b2, vI (0 : Int32), vU] [(.int (2 : Int32)), (.int (0 : Int32)), (.ref a1)])) _
    refine st4 _ ?_
    refine XS.astore X4.here hx rfl (hb hby d7_26) rfl rfl (l' := #[vA a1, vI (0 : Int32), vI (2 : Int32), vA b2, vI (0 : Int32), vA b2_2_4]) rfl ?_
    refine XS.aload X4.here hx rfl (hb hby d7_28) rfl rfl ?_
    refine XS.iload X4.here hx rfl (hb hby d7_30) rfl ?_
    show Steps p.tables e below (T4.setTop (mkF m 32 #[vA a1, vI (0 : Int32), vI (2 : Int32), vA b2, vI (0 : Int32), vA b2_2_4] [(.int (0 : Int32)), (.ref b2_2_4)])) _
    refine st5 _ ?_
    refine XS.sipush X5.here hx rfl (hb hby d7_35) ?_
    show Steps p.tables e below (T5.setTop (mkF m 38 #[vA a1, vI (0 : Int32), vI (2 : Int32), vA b2, vI (0 : Int32), vA b2_2_4] [(.int (255 : Int32)), (.int (nar .char (t14_1 s_HI_BYTE_SHIFT s_LO_BYTE_SHIFT (nar .byte ((x_a1_0 >>> (s_HI_BYTE_SHIFT &&& 31)).toInt8.toInt32)) (nar .byte ((x_a1_0 >>> (s_LO_BYTE_SHIFT &&& 31)).toInt8.toInt32)))))])) _
    refine XS.icmpYes X5.here hx rfl (pc0 := 38) (pc' := 54) rfl (hb hby d7_38) rfl (tlt (show (255 : Int32) < (t7_0 s_HI_BYTE_SHIFT s_LO_BYTE_SHIFT x_a1_0) from (own_rt2 _ _ _ hhi hlo hch0 hhc20_9))).2.2.1 (by decide) (by decide) ?_
    refine XS.aload X5.here hx rfl (hb hby d7_54) rfl rfl ?_
    show Steps p.tables e below (T5.setTop (mkF m 56 #[vA a1, vI (0 : Int32), vI (2 : Int32), vA b2, vI (0 : Int32), vA b2_2_4] [(.ref b2_2_4)])) _
    jvm_step X5.here [X5.here.top, hx, (hb hby d7_56), X5.method', Bd.returns, Value.isRef, FieldType.isReference]
    first | (intro acts; rw [hr _ acts rfl rfl rfl]) | rw [hr _ _ rfl rfl rfl]
    exact Steps.refl _
  · show Q_rm7_2 Z a1 s__assertionsDisabled s_HI_BYTE_SHIFT s_LO_BYTE_SHIFT k_a1 x_a1_0 x_a1_1 h0 n0 _ T5.heap _
    rw [e5]
    exact ⟨b2_2_4, ⟨k2_2_4, ⟨(4 : Int32), ⟨[(.int (nar .byte ((x_a1_0 >>> (s_HI_BYTE_SHIFT &&& 31)).toInt8.toInt32))), (.int (nar .byte ((x_a1_0 >>> (s_LO_BYTE_SHIFT &&& 31)).toInt8.toInt32))), (.int (nar .byte ((x_a1_1 >>> (s_HI_BYTE_SHIFT &&& 31)).toInt8.toInt32))), (.int (nar .byte ((x_a1_1 >>> (s_LO_BYTE_SHIFT &&& 31)).toInt8.toInt32)))], ⟨rfl, N5, (((Keep.refl h0 []).ext E2).trans K4 (fun _ q => nomatch q)), sz_b2_2_4, i4_1, Or.inr rfl⟩⟩⟩⟩⟩
set_option maxRecDepth 65536 in
set_option maxHeartbeats 40000000 in
theorem rm7_2_k1 (l : Launch) (Z : State) (a0 : Array Value) (hw : ∀ d ∈ tables_1, d.before a0 Z = true) (ws : List Jvm.Cond) (a1 : Addr) (s__assertionsDisabled : Int32) (s_HI_BYTE_SHIFT : Int32) (s_LO_BYTE_SHIFT : Int32) (k_a1 : ClassId) (x_a1_0 : Int32) (x_a1_1 : Int32) (h0 : Heap) (n0 : Nat) (Z0 : n0 ≤ h0.size) (hasd : ¬ (s__assertionsDisabled = (0 : Int32))) (hhi : s_HI_BYTE_SHIFT = (0 : Int32)) (hlo : s_LO_BYTE_SHIFT = (8 : Int32)) (hch0 : nar .char x_a1_0 = x_a1_0) (hch1 : nar .char x_a1_1 = x_a1_1) (S__assertionsDisabled : Sta Z h0 "java/lang/StringUTF16" "$assertionsDisabled" "Z" (.int s__assertionsDisabled)) (S_HI_BYTE_SHIFT : Sta Z h0 "java/lang/StringUTF16" "HI_BYTE_SHIFT" "I" (.int s_HI_BYTE_SHIFT)) (S_LO_BYTE_SHIFT : Sta Z h0 "java/lang/StringUTF16" "LO_BYTE_SHIFT" "I" (.int s_LO_BYTE_SHIFT)) (V_a1 : Arv Z h0 a1 k_a1 .char (2 : Int32) [(.int x_a1_0), (.int x_a1_1)] (.int (0 : Int32))) (hhc20_9 : ¬ ((255 : Int32) < x_a1_0)) (hhc20'_9 : (255 : Int32) < x_a1_1) :
    MetFree l (⟨"java/lang/StringUTF16", "compress", "([CII)[B"⟩ : MethodName) (head1 (Jvm.Cond.code (⟨"java/lang/StringUTF16", "compress", "([CII)[B"⟩ : MethodName) jdk_52_method_16_code 6 (some (.array .byte)) :: ws) ({ frames := 3, cells := 2, slots := 6, locals := 40 } : Room)) (fun a U => a = #[(.ref a1), (.int (0 : Int32)), (.int (2 : Int32))] ∧ Z.Warmed39 U.vm ∧ U.heap = h0) (fun _ _ _ _ _ => True) (fun _ U o U' => ∃ v L, o = .returned v ∧ Q_rm7_2 Z a1 s__assertionsDisabled s_HI_BYTE_SHIFT s_LO_BYTE_SHIFT k_a1 x_a1_0 x_a1_1 h0 n0 v U'.heap L ∧ FrameEnd U o U' L ({ frames := 3, cells := 2, slots := 6, locals := 40 } : Room).cells ({ frames := 3, cells := 2, slots := 6, locals := 40 } : Room).slots) := by
  have hi : ∀ (i : Nat) {d : Jvm.Cond}, tables_1[i]? = some d → d.before a0 Z = true := fun i d h => hw d (List.mem_of_getElem? h)
  refine MetFree.of_bodySF (plainFor_of_name pn_7) hisR ?_
  intro p e s m args below meth c s₁ Bd hml0 hP hK
  obtain ⟨rfl, hZ, hh⟩ := hP
  have hx := Bd.exec
  have hby := Bd.bytes
  have hml : c.maxLocals = 6 := hml0
  have hown : s.vm.findClass "java/lang/StringUTF16" = some m.cls := findClass_of_methodNamed Bd.named
  have hnm := (name_of_methodNamed Bd.named Bd.method).1
  have X0 : Stand p l e ({ frames := 3, cells := 2, slots := 6, locals := 40 } : Room) s m #[(.ref a1), (.int (0 : Int32)), (.int (2 : Int32))] below meth c s₁ [] 0 0 := Stand.of_body Bd
  have e0 : s₁.heap = h0 := by rw [← hh, Bd.state]; rfl
  have N0 := Fr.nil n0
  have pre0 : ∀ t, Steps p.tables e below (s₁.setTop (mkF m 0 #[vA a1, vI (0 : Int32), vI (2 : Int32), vU, vU, vU] [])) t → Steps p.tables e below (s₁.setTop (entryFrame m #[(.ref a1), (.int (0 : Int32)), (.int (2 : Int32))] 6)) t := fun t k => castTop (ef_7 m a1 (0 : Int32) (2 : Int32)) k
  obtain ⟨T2, h2, k2, X2, e2, E2, A2, st2⟩ := newP X0 hx hZ (hi 17 rfl) e0 (g := (mkF m 1 #[vA a1, vI (0 : Int32), vI (2 : Int32), vU, vU, vU] [(.int (2 : Int32))])) rfl (hb hby d7_1) rfl (by decide) (cap := 2) (by decide) (by decide) (by decide) (by decide)
  obtain ⟨b2, g2⟩ : ∃ z, z = h0.size := ⟨_, rfl⟩
  rw [← g2] at A2 st2
  have g_b2 : n0 ≤ b2 := Nat.le_trans Z0 (Nat.le_of_eq g2.symm)
  have sz_b2 : h0.size ≤ b2 := Nat.le_trans (Nat.le_refl h0.size) (Nat.le_of_eq g2.symm)
  have V_b2 : Arv Z h2 b2 k2 .byte (2 : Int32) [(.int (0 : Int32)), (.int (0 : Int32))] (.int (0 : Int32)) := (Arv.new A2 (by decide)).pad (pad_rep [] (.int (0 : Int32)) 2)
  have f0 := (V_a1.ext E2)
  obtain ⟨_, _, ⟨T3, L3, k3, n3⟩, -, X3, ⟨Lc3, hQ3, l3, y3, z3⟩, st3⟩ := Jvm.LawKit.callS X2 hx (y := (⟨"java/lang/StringUTF16", "compress", "([CI[BII)I"⟩ : MethodName)) hown (mvT hZ (hi 47 rfl)) (mvT hZ (hi 48 rfl)) (mvT hZ (hi 45 rfl)) (mvT hZ (hi 49 rfl)) (by decide) (backOf (W := 0) (rm8_2_1 l Z a0 hw [] a1 b2 k_a1 x_a1_0 x_a1_1 k2 (0 : Int32) (0 : Int32) h2 n0 (Nat.le_trans Z0 E2.1) g_b2 f0 V_b2 hhc20_9 (Nat.ne_of_lt (Nat.lt_of_lt_of_le V_a1.lt (Nat.le_of_eq g2.symm))) hhc20'_9) hZ (hi 49 rfl) (hi 45 rfl) (by decide) (by decide)) (g := (mkF m 9 #[vA a1, vI (0 : Int32), vI (2 : Int32), vA b2, vU, vU] [(.int (2 : Int32)), (.int (0 : Int32)), (.ref b2), (.int (0 : Int32)), (.ref a1)])) rfl (by rw [hml]; rfl) (argsL := [(.ref a1), (.int (0 : Int32)), (.ref b2), (.int (0 : Int32)), (.int (2 : Int32))]) (rest := []) (lenOf pd__28_5bCI_5bBII_29I rfl) rfl (by show 2 * 0 + _ ≤ _; exact Nat.le_of_eq rfl) (hb hby d7_9) (fun _ _ => ⟨rfl, e2, (by decide : 1 + 0 ≤ _), (by decide : 2 + 0 ≤ _)⟩)
  dsimp only [Pt.U, Pt.locs, Pt.cells, Pt.slots] at X3 l3 y3 z3 st3 hQ3
  subst l3 y3 z3
  obtain ⟨rfl, N3q, K3, i3_0⟩ := hQ3
  have N3 := Fr.app N0 N3q
  have f1 := (own_sta_keep (S__assertionsDisabled.ext E2) K3 (own_qc (own_nstV V_b2) own_q0))
  have f2 := (own_sta_keep (S_HI_BYTE_SHIFT.ext E2) K3 (own_qc (own_nstV V_b2) own_q0))
  have f3 := (own_sta_keep (S_LO_BYTE_SHIFT.ext E2) K3 (own_qc (own_nstV V_b2) own_q0))
  have f4 := (f0.keep K3 (own_nm (Nat.ne_of_lt (Nat.lt_of_lt_of_le V_a1.lt (Nat.le_of_eq g2.symm))) own_n0))
  obtain ⟨_, _, ⟨T4, L4, k4, n4⟩, -, X4, ⟨Lc4, hQ4, l4, y4, z4⟩, st4⟩ := Jvm.LawKit.callS X3 hx (y := (⟨"java/lang/StringUTF16", "toBytes", "([CII)[B"⟩ : MethodName)) hown (mvT hZ (hi 53 rfl)) (mvT hZ (hi 54 rfl)) (mvT hZ (hi 45 rfl)) (mvT hZ (hi 55 rfl)) (by decide) (backOf (W := 0) (rm10_2 l Z a0 hw [] a1 s__assertionsDisabled s_HI_BYTE_SHIFT s_LO_BYTE_SHIFT k_a1 x_a1_0 x_a1_1 T3.heap n0 (Nat.le_trans (Nat.le_trans Z0 E2.1) K3.1) hasd f1 f2 f3 f4) hZ (hi 55 rfl) (hi 45 rfl) (by decide) (by decide)) (g := (mkF m 23 #[vA a1, vI (0 : Int32), vI (2 : Int32), vA b2, vI (1 : Int32), vU] [(.int (2 : Int32)), (.int (0 : Int32)), (.ref a1)])) rfl (by rw [hml]; rfl) (argsL := [(.ref a1), (.int (0 : Int32)), (.int (2 : Int32))]) (rest := []) (lenOf pd__28_5bCII_29_5bB rfl) rfl (by show 2 * 0 + _ ≤ _; exact Nat.le_of_eq rfl) (hb hby d7_23) (fun _ _ => ⟨rfl, rfl, (by decide : 1 + 1 ≤ _), (by decide : 2 + 4 ≤ _)⟩)
  dsimp only [Pt.U, Pt.locs, Pt.cells, Pt.slots] at X4 l4 y4 z4 st4 hQ4
  subst l4 y4 z4
  obtain ⟨b2_2_4, ⟨k2_2_4, ⟨rfl, N4q, K4, i4_0, i4_1⟩⟩⟩ := hQ4
  have N4 := Fr.app N3 N4q
  have sz_b2_2_4 : h0.size ≤ b2_2_4 := Nat.le_trans (Nat.le_trans (Nat.le_trans (Nat.le_refl h0.size) E2.1) K3.1) i4_0
  have g_b2_2_4 : n0 ≤ b2_2_4 := Nat.le_trans Z0 sz_b2_2_4
  have f5 := (own_sta_keep f1 K4 own_q0)
  have f6 := (own_sta_keep f2 K4 own_q0)
  have f7 := (own_sta_keep f3 K4 own_q0)
  obtain ⟨_, _, ⟨T5, L5, k5, n5⟩, -, X5, ⟨Lc5, hQ5, l5, y5, z5⟩, st5⟩ := Jvm.LawKit.callS X4 hx (y := (⟨"java/lang/StringUTF16", "getChar", "([BI)C"⟩ : MethodName)) hown (mvT hZ (hi 69 rfl)) (mvT hZ (hi 70 rfl)) (mvT hZ (hi 45 rfl)) (mvT hZ (hi 71 rfl)) (by decide) (backOf (W := 0) (rm14_2_1 l Z a0 hw [] b2_2_4 s__assertionsDisabled s_HI_BYTE_SHIFT s_LO_BYTE_SHIFT k2_2_4 (nar .byte ((x_a1_0 >>> (s_HI_BYTE_SHIFT &&& 31)).toInt8.toInt32)) (nar .byte ((x_a1_0 >>> (s_LO_BYTE_SHIFT &&& 31)).toInt8.toInt32)) (nar .byte ((x_a1_1 >>> (s_HI_BYTE_SHIFT &&& 31)).toInt8.toInt32)) (nar .byte ((x_a1_1 >>> (s_LO_BYTE_SHIFT &&& 31)).toInt8.toInt32)) T4.heap n0 (Nat.le_trans (Nat.le_trans (Nat.le_trans Z0 E2.1) K3.1) K4.1) hasd f5 f6 f7 i4_1) hZ (hi 71 rfl) (hi 45 rfl) (by decide) (by decide)) (g := (mkF m 32 #[vA a1, vI (0 : Int32), vI (2 : Int32), vA b2, vI (1 : Int32), vA b2_2_4] [(.int (1 : Int32)), (.ref b2_2_4)])) rfl (by rw [hml]; rfl) (argsL := [(.ref b2_2_4), (.int (1 : Int32))]) (rest := []) (lenOf pd__28_5bBI_29C rfl) rfl (by show 2 * 0 + _ ≤ _; exact Nat.le_of_eq rfl) (hb hby d7_32) (fun _ _ => ⟨rfl, rfl, (by decide : 2 + 0 ≤ _), (by decide : 6 + 0 ≤ _)⟩)
  dsimp only [Pt.U, Pt.locs, Pt.cells, Pt.slots] at X5 l5 y5 z5 st5 hQ5
  subst l5 y5 z5
  obtain ⟨rfl, N5q, e5⟩ := hQ5
  have N5 := Fr.app N4 N5q
  obtain ⟨fs, hr, hrun, hended, hW, hsame⟩ := X5.leave (v := some (.ref b2_2_4)) (fun h => by rw [Bd.returns] at h; cases h)
  refine ⟨_, _, pre0 _ ?_, hrun, hended, _, _, rfl, ?_, ⟨_, rfl⟩, hW, hsame.mono (by decide) (by decide)⟩
  · show Steps p.tables e below (s₁.setTop (mkF m 0 #[vA a1, vI (0 : Int32), vI (2 : Int32), vU, vU, vU] [])) _
    refine XS.iloadN X0.here hx rfl (hb hby d7_0) rfl ?_
    show Steps p.tables e below (s₁.setTop (mkF m 1 #[vA a1, vI (0 : Int32), vI (2 : Int32), vU, vU, vU] [(.int (2 : Int32))])) _
    refine st2 _ ?_
    refine XS.astoreN X2.here hx rfl (hb hby d7_3) rfl rfl (l' := #[vA a1, vI (0 : Int32), vI (2 : Int32), vA b2, vU, vU]) rfl ?_
    refine XS.aloadN X2.here hx rfl (hb hby d7_4) rfl rfl ?_
    refine XS.iloadN X2.here hx rfl (hb hby d7_5) rfl ?_
    refine XS.aloadN X2.here hx rfl (hb hby d7_6) rfl rfl ?_
    refine XS.iconst X2.here hx rfl (hb hby d7_7) ?_
    refine XS.iloadN X2.here hx rfl (hb hby d7_8) rfl ?_
    show Steps p.tables e below (T2.setTop (mkF m 9 #[vA a1, vI (0 : Int32), vI (2 : Int32), vA b2, vU, vU] [(.int (2 : Int32)), (.int (0 : Int32)), (.ref b2), (.int (0 : Int32)), (.ref a1)])) _
    refine st3 _ ?_
    refine XS.istore X3.here hx rfl (hb hby d7_12) rfl (l' := #[vA a1, vI (0 : Int32), vI (2 : Int32), vA b2, vI (1 : Int32), vU]) rfl ?_
    refine XS.iload X3.here hx rfl (hb hby d7_14) rfl ?_
    refine XS.iloadN X3.here hx rfl (hb hby d7_16) rfl ?_
    show Steps p.tables e below (T3.setTop (mkF m 17 #[vA a1, vI (0 : Int32), vI (2 : Int32), vA b2, vI (1 : Int32), vU] [(.int (2 : Int32)), (.int (1 : Int32))])) _
    refine XS.icmpNo X3.here hx rfl (hb hby d7_17) rfl (feq (by decide : ¬ ((1 : Int32) = (2 : Int32)))).1 ?_
    refine XS.aloadN X3.here hx rfl (hb hby d7_20) rfl rfl ?_
    refine XS.iloadN X3.here hx rfl (hb hby d7_21) rfl ?_
    refine XS.iloadN X3.here hx rfl (hb hby d7_22) rfl ?_
    show Steps p.tables e below (T3.setTop (mkF m 23 #[vA a1, vI (0 : Int32), vI (2 : Int32), vA b2, vI (1 : Int32), vU] [(.int (2 : Int32)), (.int (0 : Int32)), (.ref a1)])) _
    refine st4 _ ?_
    refine XS.astore X4.here hx rfl (hb hby d7_26) rfl rfl (l' := #[vA a1, vI (0 : Int32), vI (2 : Int32), vA b2, vI (1 : Int32), vA b2_2_4]) rfl ?_
    refine XS.aload X4.here hx rfl (hb hby d7_28) rfl rfl ?_
    refine XS.iload X4.here hx rfl (hb hby d7_30) rfl ?_
    show Steps p.tables e below (T4.setTop (mkF m 32 #[vA a1, vI (0 : Int32), vI (2 : Int32), vA b2, vI (1 : Int32), vA b2_2_4] [(.int (1 : Int32)), (.ref b2_2_4)])) _
    refine st5 _ ?_
    refine XS.sipush X5.here hx rfl (hb hby d7_35) ?_
    show Steps p.tables e below (T5.setTop (mkF m 38 #[vA a1, vI (0 : Int32), vI (2 : Int32), vA b2, vI (1 : Int32), vA b2_2_4] [(.int (255 : Int32)), (.int (nar .char (t14_3 s_HI_BYTE_SHIFT s_LO_BYTE_SHIFT (nar .byte ((x_a1_1 >>> (s_HI_BYTE_SHIFT &&& 31)).toInt8.toInt32)) (nar .byte ((x_a1_1 >>> (s_LO_BYTE_SHIFT &&& 31)).toInt8.toInt32)))))])) _
    refine XS.icmpYes X5.here hx rfl (pc0 := 38) (pc' := 54) rfl (hb hby d7_38) rfl (tlt (show (255 : Int32) < (t7_1 s_HI_BYTE_SHIFT s_LO_BYTE_SHIFT x_a1_1) from (own_rt2 _ _ _ hhi hlo hch1 hhc20'_9))).2.2.1 (by decide) (by decide) ?_
    refine XS.aload X5.here hx rfl (hb hby d7_54) rfl rfl ?_
    show Steps p.tables e below (T5.setTop (mkF m 56 #[vA a1, vI (0 : Int32), vI (2 : Int32), vA b2, vI (1 : Int32), vA b2_2_4] [(.ref b2_2_4)])) _
    jvm_step X5.here [X5.here.top, hx, (hb hby d7_56), X5.method', Bd.returns, Value.isRef, FieldType.isReference]
    first | (intro acts; rw [hr _ acts rfl rfl rfl]) | rw [hr _ _ rfl rfl rfl]
    exact Steps.refl _
  · show Q_rm7_2 Z a1 s__assertionsDisabled s_HI_BYTE_SHIFT s_LO_BYTE_SHIFT k_a1 x_a1_0 x_a1_1 h0 n0 _ T5.heap _
    rw [e5]
    exact ⟨b2_2_4, ⟨k2_2_4, ⟨(4 : Int32), ⟨[(.int (nar .byte ((x_a1_0 >>> (s_HI_BYTE_SHIFT &&& 31)).toInt8.toInt32))), (.int (nar .byte ((x_a1_0 >>> (s_LO_BYTE_SHIFT &&& 31)).toInt8.toInt32))), (.int (nar .byte ((x_a1_1 >>> (s_HI_BYTE_SHIFT &&& 31)).toInt8.toInt32))), (.int (nar .byte ((x_a1_1 >>> (s_LO_BYTE_SHIFT &&& 31)).toInt8.toInt32)))], ⟨rfl, N5, ((((Keep.refl h0 []).ext E2).trans K3 (fun x q => (List.mem_cons.mp q).elim (fun r => r ▸ (Or.inr sz_b2)) ((fun _ q => nomatch q) x))).trans K4 (fun _ q => nomatch q)), sz_b2_2_4, i4_1, Or.inr rfl⟩⟩⟩⟩⟩
set_option maxRecDepth 65536 in
set_option maxHeartbeats 40000000 in
theorem rm7_2_k2 (l : Launch) (Z : State) (a0 : Array Value) (hw : ∀ d ∈ tables_1, d.before a0 Z = true) (ws : List Jvm.Cond) (a1 : Addr) (s__assertionsDisabled : Int32) (s_HI_BYTE_SHIFT : Int32) (s_LO_BYTE_SHIFT : Int32) (k_a1 : ClassId) (x_a1_0 : Int32) (x_a1_1 : Int32) (h0 : Heap) (n0 : Nat) (Z0 : n0 ≤ h0.size) (hasd : ¬ (s__assertionsDisabled = (0 : Int32))) (hhi : s_HI_BYTE_SHIFT = (0 : Int32)) (hlo : s_LO_BYTE_SHIFT = (8 : Int32)) (hch0 : nar .char x_a1_0 = x_a1_0) (hch1 : nar .char x_a1_1 = x_a1_1) (S__assertionsDisabled : Sta Z h0 "java/lang/StringUTF16" "$assertionsDisabled" "Z" (.int s__assertionsDisabled)) (S_HI_BYTE_SHIFT : Sta Z h0 "java/lang/StringUTF16" "HI_BYTE_SHIFT" "I" (.int s_HI_BYTE_SHIFT)) (S_LO_BYTE_SHIFT : Sta Z h0 "java/lang/StringUTF16" "LO_BYTE_SHIFT" "I" (.int s_LO_BYTE_SHIFT)) (V_a1 : Arv Z h0 a1 k_a1 .char (2 : Int32) [(.int x_a1_0), (.int x_a1_1)] (.int (0 : Int32))) (hhc20_9 : ¬ ((255 : Int32) < x_a1_0)) (hhc20'_9 : ¬ ((255 : Int32) < x_a1_1)) :
    MetFree l (⟨"java/lang/StringUTF16", "compress", "([CII)[B"⟩ : MethodName) (head1 (Jvm.Cond.code (⟨"java/lang/StringUTF16", "compress", "([CII)[B"⟩ : MethodName) jdk_52_method_16_code 6 (some (.array .byte)) :: ws) ({ frames := 3, cells := 2, slots := 6, locals := 40 } : Room)) (fun a U => a = #[(.ref a1), (.int (0 : Int32)), (.int (2 : Int32))] ∧ Z.Warmed39 U.vm ∧ U.heap = h0) (fun _ _ _ _ _ => True) (fun _ U o U' => ∃ v L, o = .returned v ∧ Q_rm7_2 Z a1 s__assertionsDisabled s_HI_BYTE_SHIFT s_LO_BYTE_SHIFT k_a1 x_a1_0 x_a1_1 h0 n0 v U'.heap L ∧ FrameEnd U o U' L ({ frames := 3, cells := 2, slots := 6, locals := 40 } : Room).cells ({ frames := 3, cells := 2, slots := 6, locals := 40 } : Room).slots) := by
  have hi : ∀ (i : Nat) {d : Jvm.Cond}, tables_1[i]? = some d → d.before a0 Z = true := fun i d h => hw d (List.mem_of_getElem? h)
  refine MetFree.of_bodySF (plainFor_of_name pn_7) hisR ?_
  intro p e s m args below meth c s₁ Bd hml0 hP hK
  obtain ⟨rfl, hZ, hh⟩ := hP
  have hx := Bd.exec
  have hby := Bd.bytes
  have hml : c.maxLocals = 6 := hml0
  have hown : s.vm.findClass "java/lang/StringUTF16" = some m.cls := findClass_of_methodNamed Bd.named
  have hnm := (name_of_methodNamed Bd.named Bd.method).1
  have X0 : Stand p l e ({ frames := 3, cells := 2, slots := 6, locals := 40 } : Room) s m #[(.ref a1), (.int (0 : Int32)), (.int (2 : Int32))] below meth c s₁ [] 0 0 := Stand.of_body Bd
  have e0 : s₁.heap = h0 := by rw [← hh, Bd.state]; rfl
  have N0 := Fr.nil n0
  have pre0 : ∀ t, Steps p.tables e below (s₁.setTop (mkF m 0 #[vA a1, vI (0 : Int32), vI (2 : Int32), vU, vU, vU] [])) t → Steps p.tables e below (s₁.setTop (entryFrame m #[(.ref a1), (.int (0 : Int32)), (.int (2 : Int32))] 6)) t := fun t k => castTop (ef_7 m a1 (0 : Int32) (2 : Int32)) k
  obtain ⟨T2, h2, k2, X2, e2, E2, A2, st2⟩ := newP X0 hx hZ (hi 17 rfl) e0 (g := (mkF m 1 #[vA a1, vI (0 : Int32), vI (2 : Int32), vU, vU, vU] [(.int (2 : Int32))])) rfl (hb hby d7_1) rfl (by decide) (cap := 2) (by decide) (by decide) (by decide) (by decide)
  obtain ⟨b2, g2⟩ : ∃ z, z = h0.size := ⟨_, rfl⟩
  rw [← g2] at A2 st2
  have g_b2 : n0 ≤ b2 := Nat.le_trans Z0 (Nat.le_of_eq g2.symm)
  have sz_b2 : h0.size ≤ b2 := Nat.le_trans (Nat.le_refl h0.size) (Nat.le_of_eq g2.symm)
  have V_b2 : Arv Z h2 b2 k2 .byte (2 : Int32) [(.int (0 : Int32)), (.int (0 : Int32))] (.int (0 : Int32)) := (Arv.new A2 (by decide)).pad (pad_rep [] (.int (0 : Int32)) 2)
  have f0 := (V_a1.ext E2)
  obtain ⟨_, _, ⟨T3, L3, k3, n3⟩, -, X3, ⟨Lc3, hQ3, l3, y3, z3⟩, st3⟩ := Jvm.LawKit.callS X2 hx (y := (⟨"java/lang/StringUTF16", "compress", "([CI[BII)I"⟩ : MethodName)) hown (mvT hZ (hi 47 rfl)) (mvT hZ (hi 48 rfl)) (mvT hZ (hi 45 rfl)) (mvT hZ (hi 49 rfl)) (by decide) (backOf (W := 0) (rm8_2_2 l Z a0 hw [] a1 b2 k_a1 x_a1_0 x_a1_1 k2 (0 : Int32) (0 : Int32) h2 n0 (Nat.le_trans Z0 E2.1) g_b2 f0 V_b2 hhc20_9 (Nat.ne_of_lt (Nat.lt_of_lt_of_le V_a1.lt (Nat.le_of_eq g2.symm))) hhc20'_9) hZ (hi 49 rfl) (hi 45 rfl) (by decide) (by decide)) (g := (mkF m 9 #[vA a1, vI (0 : Int32), vI (2 : Int32), vA b2, vU, vU] [(.int (2 : Int32)), (.int (0 : Int32)), (.ref b2), (.int (0 : Int32)), (.ref a1)])) rfl (by rw [hml]; rfl) (argsL := [(.ref a1), (.int (0 : Int32)), (.ref b2), (.int (0 : Int32)), (.int (2 : Int32))]) (rest := []) (lenOf pd__28_5bCI_5bBII_29I rfl) rfl (by show 2 * 0 + _ ≤ _; exact Nat.le_of_eq rfl) (hb hby d7_9) (fun _ _ => ⟨rfl, e2, (by decide : 1 + 0 ≤ _), (by decide : 2 + 0 ≤ _)⟩)
  dsimp only [Pt.U, Pt.locs, Pt.cells, Pt.slots] at X3 l3 y3 z3 st3 hQ3
  subst l3 y3 z3
  obtain ⟨rfl, N3q, K3, i3_0⟩ := hQ3
  have N3 := Fr.app N0 N3q
  obtain ⟨fs, hr, hrun, hended, hW, hsame⟩ := X3.leave (v := some (.ref b2)) (fun h => by rw [Bd.returns] at h; cases h)
  refine ⟨_, _, pre0 _ ?_, hrun, hended, _, _, rfl, ?_, ⟨_, rfl⟩, hW, hsame.mono (by decide) (by decide)⟩
  · show Steps p.tables e below (s₁.setTop (mkF m 0 #[vA a1, vI (0 : Int32), vI (2 : Int32), vU, vU, vU] [])) _
    refine XS.iloadN X0.here hx rfl (hb hby d7_0) rfl ?_
    show Steps p.tables e below (s₁.setTop (mkF m 1 #[vA a1, vI (0 : Int32), vI (2 : Int32), vU, vU, vU] [(.int (2 : Int32))])) _
    refine st2 _ ?_
    refine XS.astoreN X2.here hx rfl (hb hby d7_3) rfl rfl (l' := #[vA a1, vI (0 : Int32), vI (2 : Int32), vA b2, vU, vU]) rfl ?_
    refine XS.aloadN X2.here hx rfl (hb hby d7_4) rfl rfl ?_
    refine XS.iloadN X2.here hx rfl (hb hby d7_5) rfl ?_
    refine XS.aloadN X2.here hx rfl (hb hby d7_6) rfl rfl ?_
    refine XS.iconst X2.here hx rfl (hb hby d7_7) ?_
    refine XS.iloadN X2.here hx rfl (hb hby d7_8) rfl ?_
    show Steps p.tables e below (T2.setTop (mkF m 9 #[vA a1, vI (0 : Int32), vI (2 : Int32), vA b2, vU, vU] [(.int (2 : Int32)), (.int (0 : Int32)), (.ref b2), (.int (0 : Int32)), (.ref a1)])) _
    refine st3 _ ?_
    refine XS.istore X3.here hx rfl (hb hby d7_12) rfl (l' := #[vA a1, vI (0 : Int32), vI (2 : Int32), vA b2, vI (2 : Int32), vU]) rfl ?_
    refine XS.iload X3.here hx rfl (hb hby d7_14) rfl ?_
    refine XS.iloadN X3.here hx rfl (hb hby d7_16) rfl ?_
    show Steps p.tables e below (T3.setTop (mkF m 17 #[vA a1, vI (0 : Int32), vI (2 : Int32), vA b2, vI (2 : Int32), vU] [(.int (2 : Int32)), (.int (2 : Int32))])) _
    refine XS.icmpYes X3.here hx rfl (pc0 := 17) (pc' := 57) rfl (hb hby d7_17) rfl (teq (rfl : (2 : Int32) = (2 : Int32))).1 (by decide) (by decide) ?_
    refine XS.aloadN X3.here hx rfl (hb hby d7_57) rfl rfl ?_
    show Steps p.tables e below (T3.setTop (mkF m 58 #[vA a1, vI (0 : Int32), vI (2 : Int32), vA b2, vI (2 : Int32), vU] [(.ref b2)])) _
    jvm_step X3.here [X3.here.top, hx, (hb hby d7_58), X3.method', Bd.returns, Value.isRef, FieldType.isReference]
    first | (intro acts; rw [hr _ acts rfl rfl rfl]) | rw [hr _ _ rfl rfl rfl]
    exact Steps.refl _
  · show Q_rm7_2 Z a1 s__assertionsDisabled s_HI_BYTE_SHIFT s_LO_BYTE_SHIFT k_a1 x_a1_0 x_a1_1 h0 n0 _ T3.heap _
    exact ⟨b2, ⟨k2, ⟨(2 : Int32), ⟨[(.int (nar .byte (x_a1_0.toInt8.toInt32))), (.int (nar .byte (x_a1_1.toInt8.toInt32)))], ⟨rfl, N3, (((Keep.refl h0 []).ext E2).trans K3 (fun x q => (List.mem_cons.mp q).elim (fun r => r ▸ (Or.inr sz_b2)) ((fun _ q => nomatch q) x))), sz_b2, i3_0, Or.inl rfl⟩⟩⟩⟩⟩
set_option maxHeartbeats 4000000 in
theorem rm7_2 (l : Launch) (Z : State) (a0 : Array Value) (hw : ∀ d ∈ tables_1, d.before a0 Z = true) (ws : List Jvm.Cond) (a1 : Addr) (s__assertionsDisabled : Int32) (s_HI_BYTE_SHIFT : Int32) (s_LO_BYTE_SHIFT : Int32) (k_a1 : ClassId) (x_a1_0 : Int32) (x_a1_1 : Int32) (h0 : Heap) (n0 : Nat) (Z0 : n0 ≤ h0.size) (hasd : ¬ (s__assertionsDisabled = (0 : Int32))) (hhi : s_HI_BYTE_SHIFT = (0 : Int32)) (hlo : s_LO_BYTE_SHIFT = (8 : Int32)) (hch0 : nar .char x_a1_0 = x_a1_0) (hch1 : nar .char x_a1_1 = x_a1_1) (S__assertionsDisabled : Sta Z h0 "java/lang/StringUTF16" "$assertionsDisabled" "Z" (.int s__assertionsDisabled)) (S_HI_BYTE_SHIFT : Sta Z h0 "java/lang/StringUTF16" "HI_BYTE_SHIFT" "I" (.int s_HI_BYTE_SHIFT)) (S_LO_BYTE_SHIFT : Sta Z h0 "java/lang/StringUTF16" "LO_BYTE_SHIFT" "I" (.int s_LO_BYTE_SHIFT)) (V_a1 : Arv Z h0 a1 k_a1 .char (2 : Int32) [(.int x_a1_0), (.int x_a1_1)] (.int (0 : Int32))) :
    MetFree l (⟨"java/lang/StringUTF16", "compress", "([CII)[B"⟩ : MethodName) (head1 (Jvm.Cond.code (⟨"java/lang/StringUTF16", "compress", "([CII)[B"⟩ : MethodName) jdk_52_method_16_code 6 (some (.array .byte)) :: ws) ({ frames := 3, cells := 2, slots := 6, locals := 40 } : Room)) (fun a U => a = #[(.ref a1), (.int (0 : Int32)), (.int (2 : Int32))] ∧ Z.Warmed39 U.vm ∧ U.heap = h0) (fun _ _ _ _ _ => True) (fun _ U o U' => ∃ v L, o = .returned v ∧ Q_rm7_2 Z a1 s__assertionsDisabled s_HI_BYTE_SHIFT s_LO_BYTE_SHIFT k_a1 x_a1_0 x_a1_1 h0 n0 v U'.heap L ∧ FrameEnd U o U' L ({ frames := 3, cells := 2, slots := 6, locals := 40 } : Room).cells ({ frames := 3, cells := 2, slots := 6, locals := 40 } : Room).slots) := by
  by_cases hhc20_9 : (255 : Int32) < x_a1_0
  · skip
    exact rm7_2_k0 l Z a0 hw ws a1 s__assertionsDisabled s_HI_BYTE_SHIFT s_LO_BYTE_SHIFT k_a1 x_a1_0 x_a1_1 h0 n0 Z0 hasd hhi hlo hch0 hch1 S__assertionsDisabled S_HI_BYTE_SHIFT S_LO_BYTE_SHIFT V_a1 hhc20_9
  · skip
    by_cases hhc20'_9 : (255 : Int32) < x_a1_1
    · skip
      exact rm7_2_k1 l Z a0 hw ws a1 s__assertionsDisabled s_HI_BYTE_SHIFT s_LO_BYTE_SHIFT k_a1 x_a1_0 x_a1_1 h0 n0 Z0 hasd hhi hlo hch0 hch1 S__assertionsDisabled S_HI_BYTE_SHIFT S_LO_BYTE_SHIFT V_a1 hhc20_9 hhc20'_9
    · skip
      exact rm7_2_k2 l Z a0 hw ws a1 s__assertionsDisabled s_HI_BYTE_SHIFT s_LO_BYTE_SHIFT k_a1 x_a1_0 x_a1_1 h0 n0 Z0 hasd hhi hlo hch0 hch1 S__assertionsDisabled S_HI_BYTE_SHIFT S_LO_BYTE_SHIFT V_a1 hhc20_9 hhc20'_9
def Q_rm2_2 (Z : State) (a1 : Addr) (a2 : Addr) (s_COMPACT_STRINGS : Int32) (s__assertionsDisabled : Int32) (s_HI_BYTE_SHIFT : Int32) (s_LO_BYTE_SHIFT : Int32) (w_coder_a1 : Int32) (w_value_a1 : Value) (k_a2 : ClassId) (x_a2_0 : Int32) (x_a2_1 : Int32) (h0 : Heap) (n0 : Nat) (v : Option Value) (h : Heap) (L : List Loc) : Prop := ∃ b_5 : Addr, ∃ k_5 : ClassId, ∃ zz_5 : Int32, ∃ vs_5 : List Value, v = none ∧ Fr n0 L ∧ Keep h0 h [a1] ∧ h0.size ≤ b_5 ∧ Exa Z h a1 "java/lang/String" ∧ Fld Z h a1 "java/lang/String" "coder" "B" (.int (nar .byte (nar .byte ((t9_0 (2 : Int32) zz_5).toInt8.toInt32)))) ∧ Fld Z h a1 "java/lang/String" "value" "[B" (.ref b_5) ∧ Arv Z h b_5 k_5 .byte zz_5 vs_5 (.int (0 : Int32)) ∧ (zz_5 = (2 : Int32) ∨ zz_5 = (4 : Int32))
set_option maxRecDepth 65536 in
set_option maxHeartbeats 40000000 in
theorem rm2_2 (l : Launch) (Z : State) (a0 : Array Value) (hw : ∀ d ∈ tables_1, d.before a0 Z = true) (ws : List Jvm.Cond) (a1 : Addr) (a2 : Addr) (s_COMPACT_STRINGS : Int32) (s__assertionsDisabled : Int32) (s_HI_BYTE_SHIFT : Int32) (s_LO_BYTE_SHIFT : Int32) (w_coder_a1 : Int32) (w_value_a1 : Value) (k_a2 : ClassId) (x_a2_0 : Int32) (x_a2_1 : Int32) (h0 : Heap) (n0 : Nat) (Z0 : n0 ≤ h0.size) (hcs : ¬ (s_COMPACT_STRINGS = (0 : Int32))) (hasd : ¬ (s__assertionsDisabled = (0 : Int32))) (hhi : s_HI_BYTE_SHIFT = (0 : Int32)) (hlo : s_LO_BYTE_SHIFT = (8 : Int32)) (hch0 : nar .char x_a2_0 = x_a2_0) (hch1 : nar .char x_a2_1 = x_a2_1) (S_COMPACT_STRINGS : Sta Z h0 "java/lang/String" "COMPACT_STRINGS" "Z" (.int s_COMPACT_STRINGS)) (S__assertionsDisabled : Sta Z h0 "java/lang/StringUTF16" "$assertionsDisabled" "Z" (.int s__assertionsDisabled)) (S_HI_BYTE_SHIFT : Sta Z h0 "java/lang/StringUTF16" "HI_BYTE_SHIFT" "I" (.int s_HI_BYTE_SHIFT)) (S_LO_BYTE_SHIFT : Sta Z h0 "java/lang/StringUTF16" "LO_BYTE_SHIFT" "I" (.int s_LO_BYTE_SHIFT)) (E_a1 : Exa Z h0 a1 "java/lang/String") (F_coder_a1 : Fld Z h0 a1 "java/lang/String" "coder" "B" (.int w_coder_a1)) (g_a1 : n0 ≤ a1) (F_value_a1 : Fld Z h0 a1 "java/lang/String" "value" "[B" w_value_a1) (V_a2 : Arv Z h0 a2 k_a2 .char (2 : Int32) [(.int x_a2_0), (.int x_a2_1)] (.int (0 : Int32))) :
    MetFree l (⟨"java/lang/String", "<init>", "([CIILjava/lang/Void;)V"⟩ : MethodName) (head1 (Jvm.Cond.code (⟨"java/lang/String", "<init>", "([CIILjava/lang/Void;)V"⟩ : MethodName) jdk_42_method_149_code 6 none :: ws) ({ frames := 4, cells := 2, slots := 6, locals := 57 } : Room)) (fun a U => a = #[(.ref a1), (.ref a2), (.int (0 : Int32)), (.int (2 : Int32)), .null] ∧ Z.Warmed39 U.vm ∧ U.heap = h0) (fun _ _ _ _ _ => True) (fun _ U o U' => ∃ v L, o = .returned v ∧ Q_rm2_2 Z a1 a2 s_COMPACT_STRINGS s__assertionsDisabled s_HI_BYTE_SHIFT s_LO_BYTE_SHIFT w_coder_a1 w_value_a1 k_a2 x_a2_0 x_a2_1 h0 n0 v U'.heap L ∧ FrameEnd U o U' L ({ frames := 4, cells := 2, slots := 6, locals := 57 } : Room).cells ({ frames := 4, cells := 2, slots := 6, locals := 57 } : Room).slots) := by
  have hi : ∀ (i : Nat) {d : Jvm.Cond}, tables_1[i]? = some d → d.before a0 Z = true := fun i d h => hw d (List.mem_of_getElem? h)
  refine MetFree.of_bodySF (plainFor_of_name pn_2) hisR ?_
  intro p e s m args below meth c s₁ Bd hml0 hP hK
  obtain ⟨rfl, hZ, hh⟩ := hP
  have hx := Bd.exec
  have hby := Bd.bytes
  have hml : c.maxLocals = 6 := hml0
  have hown : s.vm.findClass "java/lang/String" = some m.cls := findClass_of_methodNamed Bd.named
  have hnm := (name_of_methodNamed Bd.named Bd.method).1
  have X0 : Stand p l e ({ frames := 4, cells := 2, slots := 6, locals := 57 } : Room) s m #[(.ref a1), (.ref a2), (.int (0 : Int32)), (.int (2 : Int32)), .null] below meth c s₁ [] 0 0 := Stand.of_body Bd
  have e0 : s₁.heap = h0 := by rw [← hh, Bd.state]; rfl
  have N0 := Fr.nil n0
  have pre0 : ∀ t, Steps p.tables e below (s₁.setTop (mkF m 0 #[vA a1, vA a2, vI (0 : Int32), vI (2 : Int32), .val .null, vU] [])) t → Steps p.tables e below (s₁.setTop (entryFrame m #[(.ref a1), (.ref a2), (.int (0 : Int32)), (.int (2 : Int32)), .null] 6)) t := fun t k => castTop (ef_2n4 m a1 a2 (0 : Int32) (2 : Int32)) k
  obtain ⟨T3, X3, e3, st3⟩ := initO X0 hx hZ hown (hi 13 rfl) (hi 14 rfl) (hi 15 rfl) e0 (g := (mkF m 1 #[vA a1, vA a2, vI (0 : Int32), vI (2 : Int32), .val .null, vU] [(.ref a1)])) rfl (by rw [hml]; rfl) rfl (hb hby d2_1) (by decide) (W := 0) (by show 2 * 0 + _ ≤ _; exact Nat.le_of_eq rfl) (by decide)
  obtain ⟨T4, X4, e4, st4⟩ := getS2 X3 hx hZ hown (host := "") (Or.inl (hi 42 rfl)) Via.refl e3 S_COMPACT_STRINGS (g := (mkF m 27 #[vA a1, vA a2, vI (0 : Int32), vI (2 : Int32), .val .null, vU] [])) rfl (hb hby d2_27)
  obtain ⟨_, _, ⟨T5, L5, k5, n5⟩, -, X5, ⟨Lc5, hQ5, l5, y5, z5⟩, st5⟩ := Jvm.LawKit.callS X4 hx (y := (⟨"java/lang/StringUTF16", "compress", "([CII)[B"⟩ : MethodName)) hown (mvT hZ (hi 43 rfl)) (mvT hZ (hi 44 rfl)) (mvT hZ (hi 45 rfl)) (mvT hZ (hi 46 rfl)) (by decide) (backOf (W := 0) (rm7_2 l Z a0 hw [] a2 s__assertionsDisabled s_HI_BYTE_SHIFT s_LO_BYTE_SHIFT k_a2 x_a2_0 x_a2_1 h0 n0 Z0 hasd hhi hlo hch0 hch1 S__assertionsDisabled S_HI_BYTE_SHIFT S_LO_BYTE_SHIFT V_a2) hZ (hi 46 rfl) (hi 45 rfl) (by decide) (by decide)) (g := (mkF m 36 #[vA a1, vA a2, vI (0 : Int32), vI (2 : Int32), .val .null, vU] [(.int (2 : Int32)), (.int (0 : Int32)), (.ref a2)])) rfl (by rw [hml]; rfl) (argsL := [(.ref a2), (.int (0 : Int32)), (.int (2 : Int32))]) (rest := []) (lenOf pd__28_5bCII_29_5bB rfl) rfl (by show 2 * 0 + _ ≤ _; exact Nat.le_of_eq rfl) (hb hby d2_36) (fun _ _ => ⟨rfl, e4, (by decide : 0 + 2 ≤ _), (by decide : 0 + 6 ≤ _)⟩)
  dsimp only [Pt.U, Pt.locs, Pt.cells, Pt.slots] at X5 l5 y5 z5 st5 hQ5
  subst l5 y5 z5
  obtain ⟨b_5, ⟨k_5, ⟨zz_5, ⟨vs_5, ⟨rfl, N5q, K5, i5_0, i5_1, i5_2⟩⟩⟩⟩⟩ := hQ5
  have N5 := Fr.app N0 N5q
  have sz_b_5 : h0.size ≤ b_5 := Nat.le_trans (Nat.le_refl h0.size) i5_0
  have g_b_5 : n0 ≤ b_5 := Nat.le_trans Z0 sz_b_5
  obtain ⟨_, _, ⟨T6, L6, k6, n6⟩, -, X6, ⟨Lc6, hQ6, l6, y6, z6⟩, st6⟩ := Jvm.LawKit.callS X5 hx (y := (⟨"java/lang/StringUTF16", "coderFromArrayLen", "([BI)B"⟩ : MethodName)) hown (mvT hZ (hi 50 rfl)) (mvT hZ (hi 51 rfl)) (mvT hZ (hi 45 rfl)) (mvT hZ (hi 52 rfl)) (by decide) (backOf (W := 1) (rm9 l Z a0 hw [] b_5 (2 : Int32) k_5 zz_5 vs_5 T5.heap n0 (Nat.le_trans Z0 K5.1) i5_1) hZ (hi 52 rfl) (hi 45 rfl) (by decide) (by decide)) (g := (mkF m 45 #[vA a1, vA a2, vI (0 : Int32), vI (2 : Int32), .val .null, vA b_5] [(.int (2 : Int32)), (.ref b_5), (.ref a1)])) rfl (by rw [hml]; rfl) (argsL := [(.ref b_5), (.int (2 : Int32))]) (rest := [(.ref a1)]) (lenOf pd__28_5bBI_29B rfl) rfl (by show 2 * 0 + _ ≤ _; exact Nat.le_of_eq rfl) (hb hby d2_45) (fun _ _ => ⟨rfl, rfl, (by decide : 2 + 0 ≤ _), (by decide : 6 + 0 ≤ _)⟩)
  dsimp only [Pt.U, Pt.locs, Pt.cells, Pt.slots] at X6 l6 y6 z6 st6 hQ6
  subst l6 y6 z6
  obtain ⟨rfl, N6q, e6⟩ := hQ6
  have N6 := Fr.app N5 N6q
  have f0 := (E_a1.keep K5)
  have f1 := (F_coder_a1.keep K5 own_n0)
  obtain ⟨T7, h7, X7, e7, W7, st7⟩ := putFN X6 hx hZ hown (hi 23 rfl) Via.refl e6 f1 f0 (Or.inr ⟨(hi 19 rfl), rfl, hnm⟩) (hi 3 rfl) (ty := .byte) (v' := (.int (nar .byte (nar .byte ((t9_0 (2 : Int32) zz_5).toInt8.toInt32))))) (by decide) rfl (fits_nar_byte _) (g := (mkF m 48 #[vA a1, vA a2, vI (0 : Int32), vI (2 : Int32), .val .null, vA b_5] [(.int (nar .byte ((t9_0 (2 : Int32) zz_5).toInt8.toInt32))), (.ref a1)])) rfl rfl (hb hby d2_48)
  have Fw7 := f1.same W7
  have N7 := Fr.snoc X7 N6 g_a1
  have f2 := (f0.wr W7)
  have f3 := ((F_value_a1.keep K5 own_n0).other W7 (Or.inr (slot_ne (Or.inr (hi 18 rfl)) (Or.inr (hi 19 rfl)) (by decide) (t := (.array .byte)) (t' := .byte) (by decide) (by decide))))
  obtain ⟨T8, h8, X8, e8, W8, st8⟩ := putF X7 hx hZ hown (host := "") (Or.inl (hi 22 rfl)) Via.refl e7 f3 f2 (Or.inr ⟨(hi 18 rfl), rfl, hnm⟩) (hi 3 rfl) (ty := (.array .byte)) (by decide) rfl rfl (g := (mkF m 54 #[vA a1, vA a2, vI (0 : Int32), vI (2 : Int32), .val .null, vA b_5] [(.ref b_5), (.ref a1)])) rfl rfl (hb hby d2_54)
  have Fw8 := f3.same W8
  have N8 := Fr.snoc X8 N7 g_a1
  have f4 := (f2.wr W8)
  have f5 := (Fw7.other W8 (Or.inr (slot_ne (Or.inr (hi 19 rfl)) (Or.inr (hi 18 rfl)) (by decide) (t := .byte) (t' := (.array .byte)) (by decide) (by decide))))
  have f6 := ((i5_1.other W7 (Ne.symm (Nat.ne_of_lt (Nat.lt_of_lt_of_le E_a1.lt i5_0)))).other W8 (Ne.symm (Nat.ne_of_lt (Nat.lt_of_lt_of_le E_a1.lt i5_0))))
  obtain ⟨fs, hr, hrun, hended, hW, hsame⟩ := X8.leave (v := none) (fun _ => rfl)
  refine ⟨_, _, pre0 _ ?_, hrun, hended, _, _, rfl, ?_, ⟨_, rfl⟩, hW, hsame.mono (by decide) (by decide)⟩
  · show Steps p.tables e below (s₁.setTop (mkF m 0 #[vA a1, vA a2, vI (0 : Int32), vI (2 : Int32), .val .null, vU] [])) _
    refine XS.aloadN X0.here hx rfl (hb hby d2_0) rfl rfl ?_
    show Steps p.tables e below (s₁.setTop (mkF m 1 #[vA a1, vA a2, vI (0 : Int32), vI (2 : Int32), .val .null, vU] [(.ref a1)])) _
    refine st3 _ ?_
    refine XS.iloadN X3.here hx rfl (hb hby d2_4) rfl ?_
    show Steps p.tables e below (T3.setTop (mkF m 5 #[vA a1, vA a2, vI (0 : Int32), vI (2 : Int32), .val .null, vU] [(.int (2 : Int32))])) _
    refine XS.ifYes X3.here hx rfl (pc0 := 5) (pc' := 27) rfl (hb hby d2_5) rfl ((if0 _ _).trans (feq (by decide : ¬ ((2 : Int32) = (0 : Int32)))).2) (by decide) (by decide) ?_
    show Steps p.tables e below (T3.setTop (mkF m 27 #[vA a1, vA a2, vI (0 : Int32), vI (2 : Int32), .val .null, vU] [])) _
    refine st4 _ ?_
    show Steps p.tables e below (T4.setTop (mkF m 30 #[vA a1, vA a2, vI (0 : Int32), vI (2 : Int32), .val .null, vU] [(.int s_COMPACT_STRINGS)])) _
    refine XS.ifNo X4.here hx rfl (hb hby d2_30) rfl ((if0 _ _).trans (feq (show ¬ (s_COMPACT_STRINGS = (0 : Int32)) from hcs)).1) ?_
    refine XS.aloadN X4.here hx rfl (hb hby d2_33) rfl rfl ?_
    refine XS.iloadN X4.here hx rfl (hb hby d2_34) rfl ?_
    refine XS.iloadN X4.here hx rfl (hb hby d2_35) rfl ?_
    show Steps p.tables e below (T4.setTop (mkF m 36 #[vA a1, vA a2, vI (0 : Int32), vI (2 : Int32), .val .null, vU] [(.int (2 : Int32)), (.int (0 : Int32)), (.ref a2)])) _
    refine st5 _ ?_
    refine XS.astore X5.here hx rfl (hb hby d2_39) rfl rfl (l' := #[vA a1, vA a2, vI (0 : Int32), vI (2 : Int32), .val .null, vA b_5]) rfl ?_
    refine XS.aloadN X5.here hx rfl (hb hby d2_41) rfl rfl ?_
    refine XS.aload X5.here hx rfl (hb hby d2_42) rfl rfl ?_
    refine XS.iloadN X5.here hx rfl (hb hby d2_44) rfl ?_
    show Steps p.tables e below (T5.setTop (mkF m 45 #[vA a1, vA a2, vI (0 : Int32), vI (2 : Int32), .val .null, vA b_5] [(.int (2 : Int32)), (.ref b_5), (.ref a1)])) _
    refine st6 _ ?_
    show Steps p.tables e below (T6.setTop (mkF m 48 #[vA a1, vA a2, vI (0 : Int32), vI (2 : Int32), .val .null, vA b_5] [(.int (nar .byte ((t9_0 (2 : Int32) zz_5).toInt8.toInt32))), (.ref a1)])) _
    refine st7 _ ?_
    refine XS.aloadN X7.here hx rfl (hb hby d2_51) rfl rfl ?_
    refine XS.aload X7.here hx rfl (hb hby d2_52) rfl rfl ?_
    show Steps p.tables e below (T7.setTop (mkF m 54 #[vA a1, vA a2, vI (0 : Int32), vI (2 : Int32), .val .null, vA b_5] [(.ref b_5), (.ref a1)])) _
    refine st8 _ ?_
    show Steps p.tables e below (T8.setTop (mkF m 57 #[vA a1, vA a2, vI (0 : Int32), vI (2 : Int32), .val .null, vA b_5] [])) _
    exact X8.returnOut hx Bd.returns (hb hby d2_57) hr
  · show Q_rm2_2 Z a1 a2 s_COMPACT_STRINGS s__assertionsDisabled s_HI_BYTE_SHIFT s_LO_BYTE_SHIFT w_coder_a1 w_value_a1 k_a2 x_a2_0 x_a2_1 h0 n0 _ T8.heap _
    rw [e8]
    exact ⟨b_5, ⟨k_5, ⟨zz_5, ⟨vs_5, ⟨rfl, N8, ((((Keep.refl h0 [a1]).trans K5 (fun _ q => nomatch q)).wr W7 (Or.inl (List.mem_of_getElem? (i := 0) rfl))).wr W8 (Or.inl (List.mem_of_getElem? (i := 0) rfl))), sz_b_5, f4, f5, Fw8, f6, i5_2⟩⟩⟩⟩⟩
def Q_rm1_2 (Z : State) (a1 : Addr) (a2 : Addr) (s_COMPACT_STRINGS : Int32) (s__assertionsDisabled : Int32) (s_HI_BYTE_SHIFT : Int32) (s_LO_BYTE_SHIFT : Int32) (w_coder_a1 : Int32) (w_value_a1 : Value) (k_a2 : ClassId) (x_a2_0 : Int32) (x_a2_1 : Int32) (h0 : Heap) (n0 : Nat) (v : Option Value) (h : Heap) (L : List Loc) : Prop := ∃ b_5_3 : Addr, ∃ k_5_3 : ClassId, ∃ zz_5_3 : Int32, ∃ vs_5_3 : List Value, v = none ∧ Fr n0 L ∧ Keep h0 h [a1] ∧ h0.size ≤ b_5_3 ∧ Exa Z h a1 "java/lang/String" ∧ Fld Z h a1 "java/lang/String" "coder" "B" (.int (nar .byte (nar .byte ((t9_0 (2 : Int32) zz_5_3).toInt8.toInt32)))) ∧ Fld Z h a1 "java/lang/String" "value" "[B" (.ref b_5_3) ∧ Arv Z h b_5_3 k_5_3 .byte zz_5_3 vs_5_3 (.int (0 : Int32)) ∧ (zz_5_3 = (2 : Int32) ∨ zz_5_3 = (4 : Int32))
set_option maxRecDepth 65536 in
set_option maxHeartbeats 40000000 in
theorem rm1_2 (l : Launch) (Z : State) (a0 : Array Value) (hw : ∀ d ∈ tables_1, d.before a0 Z = true) (ws : List Jvm.Cond) (a1 : Addr) (a2 : Addr) (s_COMPACT_STRINGS : Int32) (s__assertionsDisabled : Int32) (s_HI_BYTE_SHIFT : Int32) (s_LO_BYTE_SHIFT : Int32) (w_coder_a1 : Int32) (w_value_a1 : Value) (k_a2 : ClassId) (x_a2_0 : Int32) (x_a2_1 : Int32) (h0 : Heap) (n0 : Nat) (Z0 : n0 ≤ h0.size) (hcs : ¬ (s_COMPACT_STRINGS = (0 : Int32))) (hasd : ¬ (s__assertionsDisabled = (0 : Int32))) (hhi : s_HI_BYTE_SHIFT = (0 : Int32)) (hlo : s_LO_BYTE_SHIFT = (8 : Int32)) (hch0 : nar .char x_a2_0 = x_a2_0) (hch1 : nar .char x_a2_1 = x_a2_1) (S_COMPACT_STRINGS : Sta Z h0 "java/lang/String" "COMPACT_STRINGS" "Z" (.int s_COMPACT_STRINGS)) (S__assertionsDisabled : Sta Z h0 "java/lang/StringUTF16" "$assertionsDisabled" "Z" (.int s__assertionsDisabled)) (S_HI_BYTE_SHIFT : Sta Z h0 "java/lang/StringUTF16" "HI_BYTE_SHIFT" "I" (.int s_HI_BYTE_SHIFT)) (S_LO_BYTE_SHIFT : Sta Z h0 "java/lang/StringUTF16" "LO_BYTE_SHIFT" "I" (.int s_LO_BYTE_SHIFT)) (F_coder_a1 : Fld Z h0 a1 "java/lang/String" "coder" "B" (.int w_coder_a1)) (F_value_a1 : Fld Z h0 a1 "java/lang/String" "value" "[B" w_value_a1) (E_a1 : Exa Z h0 a1 "java/lang/String") (g_a1 : n0 ≤ a1) (V_a2 : Arv Z h0 a2 k_a2 .char (2 : Int32) [(.int x_a2_0), (.int x_a2_1)] (.int (0 : Int32))) :
    MetFree l (⟨"java/lang/String", "<init>", "([C)V"⟩ : MethodName) (head1 (Jvm.Cond.code (⟨"java/lang/String", "<init>", "([C)V"⟩ : MethodName) jdk_42_method_3_code 2 none :: ws) ({ frames := 5, cells := 2, slots := 6, locals := 74 } : Room)) (fun a U => a = #[(.ref a1), (.ref a2)] ∧ Z.Warmed39 U.vm ∧ U.heap = h0) (fun _ _ _ _ _ => True) (fun _ U o U' => ∃ v L, o = .returned v ∧ Q_rm1_2 Z a1 a2 s_COMPACT_STRINGS s__assertionsDisabled s_HI_BYTE_SHIFT s_LO_BYTE_SHIFT w_coder_a1 w_value_a1 k_a2 x_a2_0 x_a2_1 h0 n0 v U'.heap L ∧ FrameEnd U o U' L ({ frames := 5, cells := 2, slots := 6, locals := 74 } : Room).cells ({ frames := 5, cells := 2, slots := 6, locals := 74 } : Room).slots) := by
  have hi : ∀ (i : Nat) {d : Jvm.Cond}, tables_1[i]? = some d → d.before a0 Z = true := fun i d h => hw d (List.mem_of_getElem? h)
  refine MetFree.of_bodySF (plainFor_of_name pn_1) hisR ?_
  intro p e s m args below meth c s₁ Bd hml0 hP hK
  obtain ⟨rfl, hZ, hh⟩ := hP
  have hx := Bd.exec
  have hby := Bd.bytes
  have hml : c.maxLocals = 2 := hml0
  have hown : s.vm.findClass "java/lang/String" = some m.cls := findClass_of_methodNamed Bd.named
  have hnm := (name_of_methodNamed Bd.named Bd.method).1
  have X0 : Stand p l e ({ frames := 5, cells := 2, slots := 6, locals := 74 } : Room) s m #[(.ref a1), (.ref a2)] below meth c s₁ [] 0 0 := Stand.of_body Bd
  have e0 : s₁.heap = h0 := by rw [← hh, Bd.state]; rfl
  have N0 := Fr.nil n0
  have pre0 : ∀ t, Steps p.tables e below (s₁.setTop (mkF m 0 #[vA a1, vA a2] [])) t → Steps p.tables e below (s₁.setTop (entryFrame m #[(.ref a1), (.ref a2)] 2)) t := fun t k => castTop (ef_1 m a1 a2) k
  obtain ⟨cl_a2_0, Ar_a2_0, q_a2_0, Sz_a2_0, Ng_a2_0, Ha_a2_0, Gt_a2_0⟩ := id V_a2
  obtain ⟨_, _, ⟨T3, L3, k3, n3⟩, -, X3, ⟨Lc3, hQ3, l3, y3, z3⟩, st3⟩ := X0.specialBack hx (y := (⟨"java/lang/String", "<init>", "([CIILjava/lang/Void;)V"⟩ : MethodName)) rfl hown (mvT hZ (hi 9 rfl)) (mvT hZ (hi 10 rfl)) (mvT hZ (hi 12 rfl)) (by decide) (backOf (W := 0) (rm2_2 l Z a0 hw [] a1 a2 s_COMPACT_STRINGS s__assertionsDisabled s_HI_BYTE_SHIFT s_LO_BYTE_SHIFT w_coder_a1 w_value_a1 k_a2 x_a2_0 x_a2_1 h0 n0 Z0 hcs hasd hhi hlo hch0 hch1 S_COMPACT_STRINGS S__assertionsDisabled S_HI_BYTE_SHIFT S_LO_BYTE_SHIFT E_a1 F_coder_a1 g_a1 F_value_a1 V_a2) hZ (hi 12 rfl) (hi 4 rfl) (by decide) (by decide)) (g := (mkF m 6 #[vA a1, vA a2] [.null, (.int (2 : Int32)), (.int (0 : Int32)), (.ref a2), (.ref a1)])) rfl (by rw [hml]; rfl) (Steps.refl _) (a := a1) (argsL := [(.ref a2), (.int (0 : Int32)), (.int (2 : Int32)), .null]) (rest := []) (lenOf pd__28_5bCIILjava_2flang_2fVoid_3b_29V rfl) rfl (by show 2 * 0 + _ ≤ _; exact Nat.le_of_eq rfl) (hb hby d1_6) (fun _ _ => ⟨rfl, e0, (by decide : 0 + 2 ≤ _), (by decide : 0 + 6 ≤ _)⟩)
  dsimp only [Pt.U, Pt.locs, Pt.cells, Pt.slots] at X3 l3 y3 z3 st3 hQ3
  subst l3 y3 z3
  obtain ⟨b_5_3, ⟨k_5_3, ⟨zz_5_3, ⟨vs_5_3, ⟨rfl, N3q, K3, i3_0, i3_1, i3_2, i3_3, i3_4, i3_5⟩⟩⟩⟩⟩ := hQ3
  have N3 := Fr.app N0 N3q
  have sz_b_5_3 : h0.size ≤ b_5_3 := Nat.le_trans (Nat.le_refl h0.size) i3_0
  have g_b_5_3 : n0 ≤ b_5_3 := Nat.le_trans Z0 sz_b_5_3
  obtain ⟨fs, hr, hrun, hended, hW, hsame⟩ := X3.leave (v := none) (fun _ => rfl)
  refine ⟨_, _, pre0 _ ?_, hrun, hended, _, _, rfl, ?_, ⟨_, rfl⟩, hW, hsame.mono (by decide) (by decide)⟩
  · show Steps p.tables e below (s₁.setTop (mkF m 0 #[vA a1, vA a2] [])) _
    refine XS.aloadN X0.here hx rfl (hb hby d1_0) rfl rfl ?_
    refine XS.aloadN X0.here hx rfl (hb hby d1_1) rfl rfl ?_
    refine XS.iconst X0.here hx rfl (hb hby d1_2) ?_
    refine XS.aloadN X0.here hx rfl (hb hby d1_3) rfl rfl ?_
    show Steps p.tables e below (s₁.setTop (mkF m 4 #[vA a1, vA a2] [(.ref a2), (.int (0 : Int32)), (.ref a2), (.ref a1)])) _
    refine X0.arraylength hx (by rw [e0]; exact Ar_a2_0.1) (State.isArrayOf_alike hZ.alike Ar_a2_0.2.1) (g := (mkF m 4 #[vA a1, vA a2] [(.ref a2), (.int (0 : Int32)), (.ref a2), (.ref a1)])) rfl rfl (hb hby d1_4) _ ?_
    rw [len_of Sz_a2_0 Ng_a2_0]
    refine XS.aconstNull X0.here hx rfl (hb hby d1_5) ?_
    show Steps p.tables e below (s₁.setTop (mkF m 6 #[vA a1, vA a2] [.null, (.int (2 : Int32)), (.int (0 : Int32)), (.ref a2), (.ref a1)])) _
    refine st3.trans ?_
    show Steps p.tables e below (T3.setTop (mkF m 9 #[vA a1, vA a2] [])) _
    exact X3.returnOut hx Bd.returns (hb hby d1_9) hr
  · show Q_rm1_2 Z a1 a2 s_COMPACT_STRINGS s__assertionsDisabled s_HI_BYTE_SHIFT s_LO_BYTE_SHIFT w_coder_a1 w_value_a1 k_a2 x_a2_0 x_a2_1 h0 n0 _ T3.heap _
    exact ⟨b_5_3, ⟨k_5_3, ⟨zz_5_3, ⟨vs_5_3, ⟨rfl, N3, ((Keep.refl h0 [a1]).trans K3 (fun x q => (List.mem_cons.mp q).elim (fun r => r ▸ (Or.inl (List.mem_of_getElem? (i := 0) rfl))) ((fun _ q => nomatch q) x))), sz_b_5_3, i3_1, i3_2, i3_3, i3_4, i3_5⟩⟩⟩⟩⟩
def Q_rm12_3 (Z : State)  (h0 : Heap) (n0 : Nat) (v : Option Value) (h : Heap) (L : List Loc) : Prop := v = some (.int (6 : Int32)) ∧ Fr n0 L ∧ h = h0
set_option maxRecDepth 65536 in
set_option maxHeartbeats 40000000 in
theorem rm12_3 (l : Launch) (Z : State) (a0 : Array Value) (hw : ∀ d ∈ tables_1, d.before a0 Z = true) (ws : List Jvm.Cond)  (h0 : Heap) (n0 : Nat) (Z0 : n0 ≤ h0.size) :
    MetFree l (⟨"java/lang/StringUTF16", "newBytesLength", "(I)I"⟩ : MethodName) (head1 (Jvm.Cond.code (⟨"java/lang/StringUTF16", "newBytesLength", "(I)I"⟩ : MethodName) jdk_52_method_3_code 1 (some .int) :: ws) ({ frames := 0, cells := 0, slots := 0, locals := 0 } : Room)) (fun a U => a = #[(.int (3 : Int32))] ∧ Z.Warmed39 U.vm ∧ U.heap = h0) (fun _ _ _ _ _ => True) (fun _ U o U' => ∃ v L, o = .returned v ∧ Q_rm12_3 Z  h0 n0 v U'.heap L ∧ FrameEnd U o U' L ({ frames := 0, cells := 0, slots := 0, locals := 0 } : Room).cells ({ frames := 0, cells := 0, slots := 0, locals := 0 } : Room).slots) := by
  have hi : ∀ (i : Nat) {d : Jvm.Cond}, tables_1[i]? = some d → d.before a0 Z = true := fun i d h => hw d (List.mem_of_getElem? h)
  refine MetFree.of_bodySF (plainFor_of_name pn_12) hisR ?_
  intro p e s m args below meth c s₁ Bd hml0 hP hK
  obtain ⟨rfl, hZ, hh⟩ := hP
  have hx := Bd.exec
  have hby := Bd.bytes
  have hml : c.maxLocals = 1 := hml0
  have hown : s.vm.findClass "java/lang/StringUTF16" = some m.cls := findClass_of_methodNamed Bd.named
  have hnm := (name_of_methodNamed Bd.named Bd.method).1
  have X0 : Stand p l e ({ frames := 0, cells := 0, slots := 0, locals := 0 } : Room) s m #[(.int (3 : Int32))] below meth c s₁ [] 0 0 := Stand.of_body Bd
  have e0 : s₁.heap = h0 := by rw [← hh, Bd.state]; rfl
  have N0 := Fr.nil n0
  have pre0 : ∀ t, Steps p.tables e below (s₁.setTop (mkF m 0 #[vI (3 : Int32)] [])) t → Steps p.tables e below (s₁.setTop (entryFrame m #[(.int (3 : Int32))] 1)) t := fun t k => castTop (ef_12 m (3 : Int32)) k
  obtain ⟨fs, hr, hrun, hended, hW, hsame⟩ := X0.leave (v := some (.int (6 : Int32))) (fun h => by rw [Bd.returns] at h; cases h)
  refine ⟨_, _, pre0 _ ?_, hrun, hended, _, _, rfl, ?_, ⟨_, rfl⟩, hW, hsame.mono (by decide) (by decide)⟩
  · show Steps p.tables e below (s₁.setTop (mkF m 0 #[vI (3 : Int32)] [])) _
    refine XS.iloadN X0.here hx rfl (hb hby d12_0) rfl ?_
    show Steps p.tables e below (s₁.setTop (mkF m 1 #[vI (3 : Int32)] [(.int (3 : Int32))])) _
    refine XS.ifYes X0.here hx rfl (pc0 := 1) (pc' := 12) rfl (hb hby d12_1) rfl ((if0 _ _).trans (flt (by decide : ¬ ((3 : Int32) < (0 : Int32)))).2.1) (by decide) (by decide) ?_
    refine XS.iloadN X0.here hx rfl (hb hby d12_12) rfl ?_
    show Steps p.tables e below (s₁.setTop (mkF m 13 #[vI (3 : Int32)] [(.int (3 : Int32))])) _
    refine X0.ldcInt hx hown (mvT hZ (hi 62 rfl)) (g := (mkF m 13 #[vI (3 : Int32)] [(.int (3 : Int32))])) rfl (hb hby d12_13) _ ?_
    show Steps p.tables e below (s₁.setTop (mkF m 15 #[vI (3 : Int32)] [(.int (1073741823 : Int32)), (.int (3 : Int32))])) _
    refine XS.icmpYes X0.here hx rfl (pc0 := 15) (pc' := 55) rfl (hb hby d12_15) rfl (tlt (by decide : (3 : Int32) < (1073741823 : Int32))).1 (by decide) (by decide) ?_
    refine XS.iloadN X0.here hx rfl (hb hby d12_55) rfl ?_
    refine XS.iconst X0.here hx rfl (hb hby d12_56) ?_
    refine XS.ishl X0.here hx rfl (hb hby d12_57) rfl ?_
    show Steps p.tables e below (s₁.setTop (mkF m 58 #[vI (3 : Int32)] [(.int (6 : Int32))])) _
    exact retI X0 hx Bd.returns (hb hby d12_58) hr
  · show Q_rm12_3 Z  h0 n0 _ s₁.heap _
    exact ⟨rfl, N0, e0⟩
def Q_rm11_3 (Z : State)  (h0 : Heap) (n0 : Nat) (v : Option Value) (h : Heap) (L : List Loc) : Prop := ∃ b2 : Addr, ∃ k2 : ClassId, v = some (.ref b2) ∧ Fr n0 L ∧ Keep h0 h [] ∧ h0.size ≤ b2 ∧ Arv Z h b2 k2 .byte (6 : Int32) [(.int (0 : Int32)), (.int (0 : Int32)), (.int (0 : Int32)), (.int (0 : Int32)), (.int (0 : Int32)), (.int (0 : Int32))] (.int (0 : Int32))
set_option maxRecDepth 65536 in
set_option maxHeartbeats 40000000 in
theorem rm11_3 (l : Launch) (Z : State) (a0 : Array Value) (hw : ∀ d ∈ tables_1, d.before a0 Z = true) (ws : List Jvm.Cond)  (h0 : Heap) (n0 : Nat) (Z0 : n0 ≤ h0.size) :
    MetFree l (⟨"java/lang/StringUTF16", "newBytesFor", "(I)[B"⟩ : MethodName) (head1 (Jvm.Cond.code (⟨"java/lang/StringUTF16", "newBytesFor", "(I)[B"⟩ : MethodName) jdk_52_method_2_code 1 (some (.array .byte)) :: ws) ({ frames := 1, cells := 1, slots := 6, locals := 12 } : Room)) (fun a U => a = #[(.int (3 : Int32))] ∧ Z.Warmed39 U.vm ∧ U.heap = h0) (fun _ _ _ _ _ => True) (fun _ U o U' => ∃ v L, o = .returned v ∧ Q_rm11_3 Z  h0 n0 v U'.heap L ∧ FrameEnd U o U' L ({ frames := 1, cells := 1, slots := 6, locals := 12 } : Room).cells ({ frames := 1, cells := 1, slots := 6, locals := 12 } : Room).slots) := by
  have hi : ∀ (i : Nat) {d : Jvm.Cond}, tables_1[i]? = some d → d.before a0 Z = true := fun i d h => hw d (List.mem_of_getElem? h)
  refine MetFree.of_bodySF (plainFor_of_name pn_11) hisR ?_
  intro p e s m args below meth c s₁ Bd hml0 hP hK
  obtain ⟨rfl, hZ, hh⟩ := hP
  have hx := Bd.exec
  have hby := Bd.bytes
  have hml : c.maxLocals = 1 := hml0
  have hown : s.vm.findClass "java/lang/StringUTF16" = some m.cls := findClass_of_methodNamed Bd.named
  have hnm := (name_of_methodNamed Bd.named Bd.method).1
  have X0 : Stand p l e ({ frames := 1, cells := 1, slots := 6, locals := 12 } : Room) s m #[(.int (3 : Int32))] below meth c s₁ [] 0 0 := Stand.of_body Bd
  have e0 : s₁.heap = h0 := by rw [← hh, Bd.state]; rfl
  have N0 := Fr.nil n0
  have pre0 : ∀ t, Steps p.tables e below (s₁.setTop (mkF m 0 #[vI (3 : Int32)] [])) t → Steps p.tables e below (s₁.setTop (entryFrame m #[(.int (3 : Int32))] 1)) t := fun t k => castTop (ef_11 m (3 : Int32)) k
  obtain ⟨_, _, ⟨T1, L1, k1, n1⟩, -, X1, ⟨Lc1, hQ1, l1, y1, z1⟩, st1⟩ := Jvm.LawKit.callS X0 hx (y := (⟨"java/lang/StringUTF16", "newBytesLength", "(I)I"⟩ : MethodName)) hown (mvT hZ (hi 59 rfl)) (mvT hZ (hi 60 rfl)) (mvT hZ (hi 45 rfl)) (mvT hZ (hi 61 rfl)) (by decide) (backOf (W := 0) (rm12_3 l Z a0 hw []  h0 n0 Z0 ) hZ (hi 61 rfl) (hi 45 rfl) (by decide) (by decide)) (g := (mkF m 1 #[vI (3 : Int32)] [(.int (3 : Int32))])) rfl (by rw [hml]; rfl) (argsL := [(.int (3 : Int32))]) (rest := []) (lenOf pd__28I_29I rfl) rfl (by show 2 * 0 + _ ≤ _; exact Nat.le_of_eq rfl) (hb hby d11_1) (fun _ _ => ⟨rfl, e0, (by decide : 0 + 0 ≤ _), (by decide : 0 + 0 ≤ _)⟩)
  dsimp only [Pt.U, Pt.locs, Pt.cells, Pt.slots] at X1 l1 y1 z1 st1 hQ1
  subst l1 y1 z1
  obtain ⟨rfl, N1q, e1⟩ := hQ1
  have N1 := Fr.app N0 N1q
  obtain ⟨T2, h2, k2, X2, e2, E2, A2, st2⟩ := newP X1 hx hZ (hi 17 rfl) e1 (g := (mkF m 4 #[vI (3 : Int32)] [(.int (6 : Int32))])) rfl (hb hby d11_4) rfl (by decide) (cap := 6) (by decide) (by decide) (by decide) (by decide)
  obtain ⟨b2, g2⟩ : ∃ z, z = h0.size := ⟨_, rfl⟩
  rw [← g2] at A2 st2
  have g_b2 : n0 ≤ b2 := Nat.le_trans Z0 (Nat.le_of_eq g2.symm)
  have sz_b2 : h0.size ≤ b2 := Nat.le_trans (Nat.le_refl h0.size) (Nat.le_of_eq g2.symm)
  have V_b2 : Arv Z h2 b2 k2 .byte (6 : Int32) [(.int (0 : Int32)), (.int (0 : Int32)), (.int (0 : Int32)), (.int (0 : Int32)), (.int (0 : Int32)), (.int (0 : Int32))] (.int (0 : Int32)) := (Arv.new A2 (by decide)).pad (pad_rep [] (.int (0 : Int32)) 6)
  obtain ⟨fs, hr, hrun, hended, hW, hsame⟩ := X2.leave (v := some (.ref b2)) (fun h => by rw [Bd.returns] at h; cases h)
  refine ⟨_, _, pre0 _ ?_, hrun, hended, _, _, rfl, ?_, ⟨_, rfl⟩, hW, hsame.mono (by decide) (by decide)⟩
  · show Steps p.tables e below (s₁.setTop (mkF m 0 #[vI (3 : Int32)] [])) _
    refine XS.iloadN X0.here hx rfl (hb hby d11_0) rfl ?_
    show Steps p.tables e below (s₁.setTop (mkF m 1 #[vI (3 : Int32)] [(.int (3 : Int32))])) _
    refine st1 _ ?_
    show Steps p.tables e below (T1.setTop (mkF m 4 #[vI (3 : Int32)] [(.int (6 : Int32))])) _
    refine st2 _ ?_
    show Steps p.tables e below (T2.setTop (mkF m 6 #[vI (3 : Int32)] [(.ref b2)])) _
    jvm_step X2.here [X2.here.top, hx, (hb hby d11_6), X2.method', Bd.returns, Value.isRef, FieldType.isReference]
    first | (intro acts; rw [hr _ acts rfl rfl rfl]) | rw [hr _ _ rfl rfl rfl]
    exact Steps.refl _
  · show Q_rm11_3 Z  h0 n0 _ T2.heap _
    rw [e2]
    exact ⟨b2, ⟨k2, ⟨rfl, N1, ((Keep.refl h0 []).ext E2), sz_b2, V_b2⟩⟩⟩
def Q_rm13_3_0 (Z : State) (a1 : Addr) (p2 : Int32) (s__assertionsDisabled : Int32) (s_HI_BYTE_SHIFT : Int32) (s_LO_BYTE_SHIFT : Int32) (k_a1 : ClassId) (x_a1_0 : Int32) (x_a1_1 : Int32) (x_a1_2 : Int32) (x_a1_3 : Int32) (x_a1_4 : Int32) (x_a1_5 : Int32) (h0 : Heap) (n0 : Nat) (v : Option Value) (h : Heap) (L : List Loc) : Prop := v = none ∧ Fr n0 L ∧ Keep h0 h [a1] ∧ Arv Z h a1 k_a1 .byte (6 : Int32) [(.int (nar .byte ((p2 >>> (s_HI_BYTE_SHIFT &&& 31)).toInt8.toInt32))), (.int (nar .byte ((p2 >>> (s_LO_BYTE_SHIFT &&& 31)).toInt8.toInt32))), (.int x_a1_2), (.int x_a1_3), (.int x_a1_4), (.int x_a1_5)] (.int (0 : Int32))
set_option maxRecDepth 65536 in
set_option maxHeartbeats 40000000 in
theorem rm13_3_0 (l : Launch) (Z : State) (a0 : Array Value) (hw : ∀ d ∈ tables_1, d.before a0 Z = true) (ws : List Jvm.Cond) (a1 : Addr) (p2 : Int32) (s__assertionsDisabled : Int32) (s_HI_BYTE_SHIFT : Int32) (s_LO_BYTE_SHIFT : Int32) (k_a1 : ClassId) (x_a1_0 : Int32) (x_a1_1 : Int32) (x_a1_2 : Int32) (x_a1_3 : Int32) (x_a1_4 : Int32) (x_a1_5 : Int32) (h0 : Heap) (n0 : Nat) (Z0 : n0 ≤ h0.size) (hasd : ¬ (s__assertionsDisabled = (0 : Int32))) (S__assertionsDisabled : Sta Z h0 "java/lang/StringUTF16" "$assertionsDisabled" "Z" (.int s__assertionsDisabled)) (S_HI_BYTE_SHIFT : Sta Z h0 "java/lang/StringUTF16" "HI_BYTE_SHIFT" "I" (.int s_HI_BYTE_SHIFT)) (g_a1 : n0 ≤ a1) (S_LO_BYTE_SHIFT : Sta Z h0 "java/lang/StringUTF16" "LO_BYTE_SHIFT" "I" (.int s_LO_BYTE_SHIFT)) (V_a1 : Arv Z h0 a1 k_a1 .byte (6 : Int32) [(.int x_a1_0), (.int x_a1_1), (.int x_a1_2), (.int x_a1_3), (.int x_a1_4), (.int x_a1_5)] (.int (0 : Int32))) :
    MetFree l (⟨"java/lang/StringUTF16", "putChar", "([BII)V"⟩ : MethodName) (head1 (Jvm.Cond.code (⟨"java/lang/StringUTF16", "putChar", "([BII)V"⟩ : MethodName) jdk_52_method_4_code 3 none :: ws) ({ frames := 0, cells := 0, slots := 0, locals := 0 } : Room)) (fun a U => a = #[(.ref a1), (.int (0 : Int32)), (.int p2)] ∧ Z.Warmed39 U.vm ∧ U.heap = h0) (fun _ _ _ _ _ => True) (fun _ U o U' => ∃ v L, o = .returned v ∧ Q_rm13_3_0 Z a1 p2 s__assertionsDisabled s_HI_BYTE_SHIFT s_LO_BYTE_SHIFT k_a1 x_a1_0 x_a1_1 x_a1_2 x_a1_3 x_a1_4 x_a1_5 h0 n0 v U'.heap L ∧ FrameEnd U o U' L ({ frames := 0, cells := 0, slots := 0, locals := 0 } : Room).cells ({ frames := 0, cells := 0, slots := 0, locals := 0 } : Room).slots) := by
  have hi : ∀ (i : Nat) {d : Jvm.Cond}, tables_1[i]? = some d → d.before a0 Z = true := fun i d h => hw d (List.mem_of_getElem? h)
  refine MetFree.of_bodySF (plainFor_of_name pn_13) hisR ?_
  intro p e s m args below meth c s₁ Bd hml0 hP hK
  obtain ⟨rfl, hZ, hh⟩ := hP
  have hx := Bd.exec
  have hby := Bd.bytes
  have hml : c.maxLocals = 3 := hml0
  have hown : s.vm.findClass "java/lang/StringUTF16" = some m.cls := findClass_of_methodNamed Bd.named
  have hnm := (name_of_methodNamed Bd.named Bd.method).1
  have X0 : Stand p l e ({ frames := 0, cells := 0, slots := 0, locals := 0 } : Room) s m #[(.ref a1), (.int (0 : Int32)), (.int p2)] below meth c s₁ [] 0 0 := Stand.of_body Bd
  have e0 : s₁.heap = h0 := by rw [← hh, Bd.state]; rfl
  have N0 := Fr.nil n0
  have pre0 : ∀ t, Steps p.tables e below (s₁.setTop (mkF m 0 #[vA a1, vI (0 : Int32), vI p2] [])) t → Steps p.tables e below (s₁.setTop (entryFrame m #[(.ref a1), (.int (0 : Int32)), (.int p2)] 3)) t := fun t k => castTop (ef_13 m a1 (0 : Int32) p2) k
  obtain ⟨T3, X3, e3, st3⟩ := getS2 X0 hx hZ hown (host := "") (Or.inl (hi 66 rfl)) Via.refl e0 S__assertionsDisabled (g := (mkF m 0 #[vA a1, vI (0 : Int32), vI p2] [])) rfl (hb hby d13_0)
  obtain ⟨T4, X4, e4, st4⟩ := getS2 X3 hx hZ hown (host := "") (Or.inl (hi 67 rfl)) Via.refl e3 S_HI_BYTE_SHIFT (g := (mkF m 38 #[vA a1, vI (1 : Int32), vI p2] [(.int p2), (.int (0 : Int32)), (.ref a1)])) rfl (hb hby d13_38)
  obtain ⟨cl_a1_0, Ar_a1_0, q_a1_0, Sz_a1_0, Ng_a1_0, Ha_a1_0, Gt_a1_0⟩ := id V_a1
  have hin_a1_0 : ¬ ((0 : Int32) < 0 ∨ cl_a1_0.slots.size ≤ ((0 : Int32)).toNatClampNeg) := inb_of Sz_a1_0 ⟨by decide, by decide⟩
  obtain ⟨T5, h5, X5, e5, W5, st5⟩ := stB X4 hx hZ e4 Ar_a1_0 (j := (0 : Int32)) hin_a1_0 (g := (mkF m 43 #[vA a1, vI (1 : Int32), vI p2] [(.int ((p2 >>> (s_HI_BYTE_SHIFT &&& 31)).toInt8.toInt32)), (.int (0 : Int32)), (.ref a1)])) rfl rfl (hb hby d13_43)
  have V5 : Arv Z h5 a1 k_a1 .byte (6 : Int32) [(.int (nar .byte ((p2 >>> (s_HI_BYTE_SHIFT &&& 31)).toInt8.toInt32))), (.int x_a1_1), (.int x_a1_2), (.int x_a1_3), (.int x_a1_4), (.int x_a1_5)] (.int (0 : Int32)) := Arv.set Ar_a1_0 q_a1_0 Sz_a1_0 Ng_a1_0 Ha_a1_0 Gt_a1_0 (fits_nar_byte _) W5 0 rfl (Nat.le_of_ble_eq_true rfl)
  have N5 := Fr.snoc X5 N0 g_a1
  have f1 := (S_LO_BYTE_SHIFT.wr W5)
  obtain ⟨T6, X6, e6, st6⟩ := getS2 X5 hx hZ hown (host := "") (Or.inl (hi 68 rfl)) Via.refl e5 f1 (g := (mkF m 47 #[vA a1, vI (1 : Int32), vI p2] [(.int p2), (.int (1 : Int32)), (.ref a1)])) rfl (hb hby d13_47)
  obtain ⟨cl_a1_2, Ar_a1_2, q_a1_2, Sz_a1_2, Ng_a1_2, Ha_a1_2, Gt_a1_2⟩ := id V5
  have hin_a1_2 : ¬ ((1 : Int32) < 0 ∨ cl_a1_2.slots.size ≤ ((1 : Int32)).toNatClampNeg) := inb_of Sz_a1_2 ⟨by decide, by decide⟩
  obtain ⟨T7, h7, X7, e7, W7, st7⟩ := stB X6 hx hZ e6 Ar_a1_2 (j := (1 : Int32)) hin_a1_2 (g := (mkF m 52 #[vA a1, vI (1 : Int32), vI p2] [(.int ((p2 >>> (s_LO_BYTE_SHIFT &&& 31)).toInt8.toInt32)), (.int (1 : Int32)), (.ref a1)])) rfl rfl (hb hby d13_52)
  have V7 : Arv Z h7 a1 k_a1 .byte (6 : Int32) [(.int (nar .byte ((p2 >>> (s_HI_BYTE_SHIFT &&& 31)).toInt8.toInt32))), (.int (nar .byte ((p2 >>> (s_LO_BYTE_SHIFT &&& 31)).toInt8.toInt32))), (.int x_a1_2), (.int x_a1_3), (.int x_a1_4), (.int x_a1_5)] (.int (0 : Int32)) := Arv.set Ar_a1_2 q_a1_2 Sz_a1_2 Ng_a1_2 Ha_a1_2 Gt_a1_2 (fits_nar_byte _) W7 1 rfl (Nat.le_of_ble_eq_true rfl)
  have N7 := Fr.snoc X7 N5 g_a1
  obtain ⟨fs, hr, hrun, hended, hW, hsame⟩ := X7.leave (v := none) (fun _ => rfl)
  refine ⟨_, _, pre0 _ ?_, hrun, hended, _, _, rfl, ?_, ⟨_, rfl⟩, hW, hsame.mono (by decide) (by decide)⟩
  · show Steps p.tables e below (s₁.setTop (mkF m 0 #[vA a1, vI (0 : Int32), vI p2] [])) _
    refine st3 _ ?_
    show Steps p.tables e below (T3.setTop (mkF m 3 #[vA a1, vI (0 : Int32), vI p2] [(.int s__assertionsDisabled)])) _
    refine XS.ifYes X3.here hx rfl (pc0 := 3) (pc' := 28) rfl (hb hby d13_3) rfl ((if0 _ _).trans (feq (show ¬ (s__assertionsDisabled = (0 : Int32)) from hasd)).2) (by decide) (by decide) ?_
    refine XS.iloadN X3.here hx rfl (hb hby d13_28) rfl ?_
    refine XS.iconst X3.here hx rfl (hb hby d13_29) ?_
    refine XS.ishl X3.here hx rfl (hb hby d13_30) rfl ?_
    refine XS.istoreN X3.here hx rfl (hb hby d13_31) rfl (l' := #[vA a1, vI (0 : Int32), vI p2]) rfl ?_
    refine XS.aloadN X3.here hx rfl (hb hby d13_32) rfl rfl ?_
    refine XS.iloadN X3.here hx rfl (hb hby d13_33) rfl ?_
    refine XS.iinc X3.here hx rfl (hb hby d13_34) rfl (l' := #[vA a1, vI (1 : Int32), vI p2]) rfl ?_
    refine XS.iloadN X3.here hx rfl (hb hby d13_37) rfl ?_
    show Steps p.tables e below (T3.setTop (mkF m 38 #[vA a1, vI (1 : Int32), vI p2] [(.int p2), (.int (0 : Int32)), (.ref a1)])) _
    refine st4 _ ?_
    refine XS.ishr X4.here hx rfl (hb hby d13_41) rfl ?_
    refine XS.i2b X4.here hx rfl (hb hby d13_42) rfl ?_
    show Steps p.tables e below (T4.setTop (mkF m 43 #[vA a1, vI (1 : Int32), vI p2] [(.int ((p2 >>> (s_HI_BYTE_SHIFT &&& 31)).toInt8.toInt32)), (.int (0 : Int32)), (.ref a1)])) _
    refine st5 _ ?_
    refine XS.aloadN X5.here hx rfl (hb hby d13_44) rfl rfl ?_
    refine XS.iloadN X5.here hx rfl (hb hby d13_45) rfl ?_
    refine XS.iloadN X5.here hx rfl (hb hby d13_46) rfl ?_
    show Steps p.tables e below (T5.setTop (mkF m 47 #[vA a1, vI (1 : Int32), vI p2] [(.int p2), (.int (1 : Int32)), (.ref a1)])) _
    refine st6 _ ?_
    refine XS.ishr X6.here hx rfl (hb hby d13_50) rfl ?_
    refine XS.i2b X6.here hx rfl (hb hby d13_51) rfl ?_
    show Steps p.tables e below (T6.setTop (mkF m 52 #[vA a1, vI (1 : Int32), vI p2] [(.int ((p2 >>> (s_LO_BYTE_SHIFT &&& 31)).toInt8.toInt32)), (.int (1 : Int32)), (.ref a1)])) _
    refine st7 _ ?_
    show Steps p.tables e below (T7.setTop (mkF m 53 #[vA a1, vI (1 : Int32), vI p2] [])) _
    exact X7.returnOut hx Bd.returns (hb hby d13_53) hr
  · show Q_rm13_3_0 Z a1 p2 s__assertionsDisabled s_HI_BYTE_SHIFT s_LO_BYTE_SHIFT k_a1 x_a1_0 x_a1_1 x_a1_2 x_a1_3 x_a1_4 x_a1_5 h0 n0 _ T7.heap _
    rw [e7]
    exact ⟨rfl, N7, (((Keep.refl h0 [a1]).wr W5 (Or.inl (List.mem_of_getElem? (i := 0) rfl))).wr W7 (Or.inl (List.mem_of_getElem? (i := 0) rfl))), V7⟩
def Q_rm14_3_0 (Z : State) (a1 : Addr) (s__assertionsDisabled : Int32) (s_HI_BYTE_SHIFT : Int32) (s_LO_BYTE_SHIFT : Int32) (k_a1 : ClassId) (x_a1_0 : Int32) (x_a1_1 : Int32) (x_a1_2 : Int32) (x_a1_3 : Int32) (x_a1_4 : Int32) (x_a1_5 : Int32) (h0 : Heap) (n0 : Nat) (v : Option Value) (h : Heap) (L : List Loc) : Prop := v = some (.int (nar .char (t14_1 s_HI_BYTE_SHIFT s_LO_BYTE_SHIFT x_a1_0 x_a1_1))) ∧ Fr n0 L ∧ h = h0
set_option maxRecDepth 65536 in
set_option maxHeartbeats 40000000 in
theorem rm14_3_0 (l : Launch) (Z : State) (a0 : Array Value) (hw : ∀ d ∈ tables_1, d.before a0 Z = true) (ws : List Jvm.Cond) (a1 : Addr) (s__assertionsDisabled : Int32) (s_HI_BYTE_SHIFT : Int32) (s_LO_BYTE_SHIFT : Int32) (k_a1 : ClassId) (x_a1_0 : Int32) (x_a1_1 : Int32) (x_a1_2 : Int32) (x_a1_3 : Int32) (x_a1_4 : Int32) (x_a1_5 : Int32) (h0 : Heap) (n0 : Nat) (Z0 : n0 ≤ h0.size) (hasd : ¬ (s__assertionsDisabled = (0 : Int32))) (S__assertionsDisabled : Sta Z h0 "java/lang/StringUTF16" "$assertionsDisabled" "Z" (.int s__assertionsDisabled)) (S_HI_BYTE_SHIFT : Sta Z h0 "java/lang/StringUTF16" "HI_BYTE_SHIFT" "I" (.int s_HI_BYTE_SHIFT)) (S_LO_BYTE_SHIFT : Sta Z h0 "java/lang/StringUTF16" "LO_BYTE_SHIFT" "I" (.int s_LO_BYTE_SHIFT)) (V_a1 : Arv Z h0 a1 k_a1 .byte (6 : Int32) [(.int x_a1_0), (.int x_a1_1), (.int x_a1_2), (.int x_a1_3), (.int x_a1_4), (.int x_a1_5)] (.int (0 : Int32))) :
    MetFree l (⟨"java/lang/StringUTF16", "getChar", "([BI)C"⟩ : MethodName) (head1 (Jvm.Cond.code (⟨"java/lang/StringUTF16", "getChar", "([BI)C"⟩ : MethodName) jdk_52_method_5_code 2 (some .char) :: ws) ({ frames := 0, cells := 0, slots := 0, locals := 0 } : Room)) (fun a U => a = #[(.ref a1), (.int (0 : Int32))] ∧ Z.Warmed39 U.vm ∧ U.heap = h0) (fun _ _ _ _ _ => True) (fun _ U o U' => ∃ v L, o = .returned v ∧ Q_rm14_3_0 Z a1 s__assertionsDisabled s_HI_BYTE_SHIFT s_LO_BYTE_SHIFT k_a1 x_a1_0 x_a1_1 x_a1_2 x_a1_3 x_a1_4 x_a1_5 h0 n0 v U'.heap L ∧ FrameEnd U o U' L ({ frames := 0, cells := 0, slots := 0, locals := 0 } : Room).cells ({ frames := 0, cells := 0, slots := 0, locals := 0 } : Room).slots) := by
  have hi : ∀ (i : Nat) {d : Jvm.Cond}, tables_1[i]? = some d → d.before a0 Z = true := fun i d h => hw d (List.mem_of_getElem? h)
  refine MetFree.of_bodySF (plainFor_of_name pn_14) hisR ?_
  intro p e s m args below meth c s₁ Bd hml0 hP hK
  obtain ⟨rfl, hZ, hh⟩ := hP
  have hx := Bd.exec
  have hby := Bd.bytes
  have hml : c.maxLocals = 2 := hml0
  have hown : s.vm.findClass "java/lang/StringUTF16" = some m.cls := findClass_of_methodNamed Bd.named
  have hnm := (name_of_methodNamed Bd.named Bd.method).1
  have X0 : Stand p l e ({ frames := 0, cells := 0, slots := 0, locals := 0 } : Room) s m #[(.ref a1), (.int (0 : Int32))] below meth c s₁ [] 0 0 := Stand.of_body Bd
  have e0 : s₁.heap = h0 := by rw [← hh, Bd.state]; rfl
  have N0 := Fr.nil n0
  have pre0 : ∀ t, Steps p.tables e below (s₁.setTop (mkF m 0 #[vA a1, vI (0 : Int32)] [])) t → Steps p.tables e below (s₁.setTop (entryFrame m #[(.ref a1), (.int (0 : Int32))] 2)) t := fun t k => castTop (ef_14 m a1 (0 : Int32)) k
  obtain ⟨T2, X2, e2, st2⟩ := getS2 X0 hx hZ hown (host := "") (Or.inl (hi 66 rfl)) Via.refl e0 S__assertionsDisabled (g := (mkF m 0 #[vA a1, vI (0 : Int32)] [])) rfl (hb hby d14_0)
  obtain ⟨cl_a1_0, Ar_a1_0, q_a1_0, Sz_a1_0, Ng_a1_0, Ha_a1_0, Gt_a1_0⟩ := id V_a1
  have hin_a1_0 : ¬ ((0 : Int32) < 0 ∨ cl_a1_0.slots.size ≤ ((0 : Int32)).toNatClampNeg) := inb_of Sz_a1_0 ⟨by decide, by decide⟩
  have hat_a1_0 : cl_a1_0.slots[((0 : Int32)).toNatClampNeg]? = some (.int x_a1_0) := (Ha_a1_0 _ (Nat.lt_of_not_le fun q => hin_a1_0 (Or.inr q))).trans (congrArg some (rfl : (([(.int x_a1_0), (.int x_a1_1), (.int x_a1_2), (.int x_a1_3), (.int x_a1_4), (.int x_a1_5)] : List Value)).getD ((0 : Int32)).toNatClampNeg (.int (0 : Int32)) = (.int x_a1_0)))
  obtain ⟨T3, X3, e3, st3⟩ := getS2 X2 hx hZ hown (host := "") (Or.inl (hi 67 rfl)) Via.refl e2 S_HI_BYTE_SHIFT (g := (mkF m 42 #[vA a1, vI (1 : Int32)] [(.int (x_a1_0 &&& (255 : Int32)))])) rfl (hb hby d14_42)
  obtain ⟨cl_a1_1, Ar_a1_1, q_a1_1, Sz_a1_1, Ng_a1_1, Ha_a1_1, Gt_a1_1⟩ := id V_a1
  have hin_a1_1 : ¬ ((1 : Int32) < 0 ∨ cl_a1_1.slots.size ≤ ((1 : Int32)).toNatClampNeg) := inb_of Sz_a1_1 ⟨by decide, by decide⟩
  have hat_a1_1 : cl_a1_1.slots[((1 : Int32)).toNatClampNeg]? = some (.int x_a1_1) := (Ha_a1_1 _ (Nat.lt_of_not_le fun q => hin_a1_1 (Or.inr q))).trans (congrArg some (rfl : (([(.int x_a1_0), (.int x_a1_1), (.int x_a1_2), (.int x_a1_3), (.int x_a1_4), (.int x_a1_5)] : List Value)).getD ((1 : Int32)).toNatClampNeg (.int (0 : Int32)) = (.int x_a1_1)))
  obtain ⟨T4, X4, e4, st4⟩ := getS2 X3 hx hZ hown (host := "") (Or.inl (hi 68 rfl)) Via.refl e3 S_LO_BYTE_SHIFT (g := (mkF m 53 #[vA a1, vI (1 : Int32)] [(.int (x_a1_1 &&& (255 : Int32))), (.int ((x_a1_0 &&& (255 : Int32)) <<< (s_HI_BYTE_SHIFT &&& 31)))])) rfl (hb hby d14_53)
  obtain ⟨fs, hr, hrun, hended, hW, hsame⟩ := X4.leave (v := some (.int (nar .char (t14_1 s_HI_BYTE_SHIFT s_LO_BYTE_SHIFT x_a1_0 x_a1_1)))) (fun h => by rw [Bd.returns] at h; cases h)
  refine ⟨_, _, pre0 _ ?_, hrun, hended, _, _, rfl, ?_, ⟨_, rfl⟩, hW, hsame.mono (by decide) (by decide)⟩
  · show Steps p.tables e below (s₁.setTop (mkF m 0 #[vA a1, vI (0 : Int32)] [])) _
    refine st2 _ ?_
    show Steps p.tables e below (T2.setTop (mkF m 3 #[vA a1, vI (0 : Int32)] [(.int s__assertionsDisabled)])) _
    refine XS.ifYes X2.here hx rfl (pc0 := 3) (pc' := 28) rfl (hb hby d14_3) rfl ((if0 _ _).trans (feq (show ¬ (s__assertionsDisabled = (0 : Int32)) from hasd)).2) (by decide) (by decide) ?_
    refine XS.iloadN X2.here hx rfl (hb hby d14_28) rfl ?_
    refine XS.iconst X2.here hx rfl (hb hby d14_29) ?_
    refine XS.ishl X2.here hx rfl (hb hby d14_30) rfl ?_
    refine XS.istoreN X2.here hx rfl (hb hby d14_31) rfl (l' := #[vA a1, vI (0 : Int32)]) rfl ?_
    refine XS.aloadN X2.here hx rfl (hb hby d14_32) rfl rfl ?_
    refine XS.iloadN X2.here hx rfl (hb hby d14_33) rfl ?_
    refine XS.iinc X2.here hx rfl (hb hby d14_34) rfl (l' := #[vA a1, vI (1 : Int32)]) rfl ?_
    show Steps p.tables e below (T2.setTop (mkF m 37 #[vA a1, vI (1 : Int32)] [(.int (0 : Int32)), (.ref a1)])) _
    refine X2.baloadBytes hx (j := (0 : Int32)) (v := (.int x_a1_0)) (by rw [e2]; exact Ar_a1_0.1) (State.isArrayOf_alike hZ.alike Ar_a1_0.2.1) Ar_a1_0.2.2 hin_a1_0 hat_a1_0 (g := (mkF m 37 #[vA a1, vI (1 : Int32)] [(.int (0 : Int32)), (.ref a1)])) rfl rfl (hb hby d14_37) _ ?_
    refine XS.sipush X2.here hx rfl (hb hby d14_38) ?_
    refine XS.iand X2.here hx rfl (hb hby d14_41) rfl ?_
    show Steps p.tables e below (T2.setTop (mkF m 42 #[vA a1, vI (1 : Int32)] [(.int (x_a1_0 &&& (255 : Int32)))])) _
    refine st3 _ ?_
    refine XS.ishl X3.here hx rfl (hb hby d14_45) rfl ?_
    refine XS.aloadN X3.here hx rfl (hb hby d14_46) rfl rfl ?_
    refine XS.iloadN X3.here hx rfl (hb hby d14_47) rfl ?_
    show Steps p.tables e below (T3.setTop (mkF m 48 #[vA a1, vI (1 : Int32)] [(.int (1 : Int32)), (.ref a1), (.int ((x_a1_0 &&& (255 : Int32)) <<< (s_HI_BYTE_SHIFT &&& 31)))])) _
    refine X3.baloadBytes hx (j := (1 : Int32)) (v := (.int x_a1_1)) (by rw [e3]; exact Ar_a1_1.1) (State.isArrayOf_alike hZ.alike Ar_a1_1.2.1) Ar_a1_1.2.2 hin_a1_1 hat_a1_1 (g := (mkF m 48 #[vA a1, vI (1 : Int32)] [(.int (1 : Int32)), (.ref a1), (.int ((x_a1_0 &&& (255 : Int32)) <<< (s_HI_BYTE_SHIFT &&& 31)))])) rfl rfl (hb hby d14_48) _ ?_
    refine XS.sipush X3.here hx rfl (hb hby d14_49) ?_
    refine XS.iand X3.here hx rfl (hb hby d14_52) rfl ?_
    show Steps p.tables e below (T3.setTop (mkF m 53 #[vA a1, vI (1 : Int32)] [(.int (x_a1_1 &&& (255 : Int32))), (.int ((x_a1_0 &&& (255 : Int32)) <<< (s_HI_BYTE_SHIFT &&& 31)))])) _
    refine st4 _ ?_
    refine XS.ishl X4.here hx rfl (hb hby d14_56) rfl ?_
    refine XS.ior X4.here hx rfl (hb hby d14_57) rfl ?_
    refine XS.i2c X4.here hx rfl (hb hby d14_58) rfl ?_
    show Steps p.tables e below (T4.setTop (mkF m 59 #[vA a1, vI (1 : Int32)] [(.int (t14_1 s_HI_BYTE_SHIFT s_LO_BYTE_SHIFT x_a1_0 x_a1_1))])) _
    exact retN X4 hx (t := .char) Bd.returns (by simp) (hb hby d14_59) hr
  · show Q_rm14_3_0 Z a1 s__assertionsDisabled s_HI_BYTE_SHIFT s_LO_BYTE_SHIFT k_a1 x_a1_0 x_a1_1 x_a1_2 x_a1_3 x_a1_4 x_a1_5 h0 n0 _ T4.heap _
    exact ⟨rfl, N0, e4⟩
def Q_rm13_3_1 (Z : State) (a1 : Addr) (p2 : Int32) (s__assertionsDisabled : Int32) (s_HI_BYTE_SHIFT : Int32) (s_LO_BYTE_SHIFT : Int32) (k_a1 : ClassId) (x_a1_0 : Int32) (x_a1_1 : Int32) (x_a1_2 : Int32) (x_a1_3 : Int32) (x_a1_4 : Int32) (x_a1_5 : Int32) (h0 : Heap) (n0 : Nat) (v : Option Value) (h : Heap) (L : List Loc) : Prop := v = none ∧ Fr n0 L ∧ Keep h0 h [a1] ∧ Arv Z h a1 k_a1 .byte (6 : Int32) [(.int x_a1_0), (.int x_a1_1), (.int (nar .byte ((p2 >>> (s_HI_BYTE_SHIFT &&& 31)).toInt8.toInt32))), (.int (nar .byte ((p2 >>> (s_LO_BYTE_SHIFT &&& 31)).toInt8.toInt32))), (.int x_a1_4), (.int x_a1_5)] (.int (0 : Int32))
set_option maxRecDepth 65536 in
set_option maxHeartbeats 40000000 in
theorem rm13_3_1 (l : Launch) (Z : State) (a0 : Array Value) (hw : ∀ d ∈ tables_1, d.before a0 Z = true) (ws : List Jvm.Cond) (a1 : Addr) (p2 : Int32) (s__assertionsDisabled : Int32) (s_HI_BYTE_SHIFT : Int32) (s_LO_BYTE_SHIFT : Int32) (k_a1 : ClassId) (x_a1_0 : Int32) (x_a1_1 : Int32) (x_a1_2 : Int32) (x_a1_3 : Int32) (x_a1_4 : Int32) (x_a1_5 : Int32) (h0 : Heap) (n0 : Nat) (Z0 : n0 ≤ h0.size) (hasd : ¬ (s__assertionsDisabled = (0 : Int32))) (S__assertionsDisabled : Sta Z h0 "java/lang/StringUTF16" "$assertionsDisabled" "Z" (.int s__assertionsDisabled)) (S_HI_BYTE_SHIFT : Sta Z h0 "java/lang/StringUTF16" "HI_BYTE_SHIFT" "I" (.int s_HI_BYTE_SHIFT)) (g_a1 : n0 ≤ a1) (S_LO_BYTE_SHIFT : Sta Z h0 "java/lang/StringUTF16" "LO_BYTE_SHIFT" "I" (.int s_LO_BYTE_SHIFT)) (V_a1 : Arv Z h0 a1 k_a1 .byte (6 : Int32) [(.int x_a1_0), (.int x_a1_1), (.int x_a1_2), (.int x_a1_3), (.int x_a1_4), (.int x_a1_5)] (.int (0 : Int32))) :
    MetFree l (⟨"java/lang/StringUTF16", "putChar", "([BII)V"⟩ : MethodName) (head1 (Jvm.Cond.code (⟨"java/lang/StringUTF16", "putChar", "([BII)V"⟩ : MethodName) jdk_52_method_4_code 3 none :: ws) ({ frames := 0, cells := 0, slots := 0, locals := 0 } : Room)) (fun a U => a = #[(.ref a1), (.int (1 : Int32)), (.int p2)] ∧ Z.Warmed39 U.vm ∧ U.heap = h0) (fun _ _ _ _ _ => True) (fun _ U o U' => ∃ v L, o = .returned v ∧ Q_rm13_3_1 Z a1 p2 s__assertionsDisabled s_HI_BYTE_SHIFT s_LO_BYTE_SHIFT k_a1 x_a1_0 x_a1_1 x_a1_2 x_a1_3 x_a1_4 x_a1_5 h0 n0 v U'.heap L ∧ FrameEnd U o U' L ({ frames := 0, cells := 0, slots := 0, locals := 0 } : Room).cells ({ frames := 0, cells := 0, slots := 0, locals := 0 } : Room).slots) := by
  have hi : ∀ (i : Nat) {d : Jvm.Cond}, tables_1[i]? = some d → d.before a0 Z = true := fun i d h => hw d (List.mem_of_getElem? h)
  refine MetFree.of_bodySF (plainFor_of_name pn_13) hisR ?_
  intro p e s m args below meth c s₁ Bd hml0 hP hK
  obtain ⟨rfl, hZ, hh⟩ := hP
  have hx := Bd.exec
  have hby := Bd.bytes
  have hml : c.maxLocals = 3 := hml0
  have hown : s.vm.findClass "java/lang/StringUTF16" = some m.cls := findClass_of_methodNamed Bd.named
  have hnm := (name_of_methodNamed Bd.named Bd.method).1
  have X0 : Stand p l e ({ frames := 0, cells := 0, slots := 0, locals := 0 } : Room) s m #[(.ref a1), (.int (1 : Int32)), (.int p2)] below meth c s₁ [] 0 0 := Stand.of_body Bd
  have e0 : s₁.heap = h0 := by rw [← hh, Bd.state]; rfl
  have N0 := Fr.nil n0
  have pre0 : ∀ t, Steps p.tables e below (s₁.setTop (mkF m 0 #[vA a1, vI (1 : Int32), vI p2] [])) t → Steps p.tables e below (s₁.setTop (entryFrame m #[(.ref a1), (.int (1 : Int32)), (.int p2)] 3)) t := fun t k => castTop (ef_13 m a1 (1 : Int32) p2) k
  obtain ⟨T3, X3, e3, st3⟩ := getS2 X0 hx hZ hown (host := "") (Or.inl (hi 66 rfl)) Via.refl e0 S__assertionsDisabled (g := (mkF m 0 #[vA a1, vI (1 : Int32), vI p2] [])) rfl (hb hby d13_0)
  obtain ⟨T4, X4, e4, st4⟩ := getS2 X3 hx hZ hown (host := "") (Or.inl (hi 67 rfl)) Via.refl e3 S_HI_BYTE_SHIFT (g := (mkF m 38 #[vA a1, vI (3 : Int32), vI p2] [(.int p2), (.int (2 : Int32)), (.ref a1)])) rfl (hb hby d13_38)
  obtain ⟨cl_a1_0, Ar_a1_0, q_a1_0, Sz_a1_0, Ng_a1_0, Ha_a1_0, Gt_a1_0⟩ := id V_a1
  have hin_a1_0 : ¬ ((2 : Int32) < 0 ∨ cl_a1_0.slots.size ≤ ((2 : Int32)).toNatClampNeg) := inb_of Sz_a1_0 ⟨by decide, by decide⟩
  obtain ⟨T5, h5, X5, e5, W5, st5⟩ := stB X4 hx hZ e4 Ar_a1_0 (j := (2 : Int32)) hin_a1_0 (g := (mkF m 43 #[vA a1, vI (3 : Int32), vI p2] [(.int ((p2 >>> (s_HI_BYTE_SHIFT &&& 31)).toInt8.toInt32)), (.int (2 : Int32)), (.ref a1)])) rfl rfl (hb hby d13_43)
  have V5 : Arv Z h5 a1 k_a1 .byte (6 : Int32) [(.int x_a1_0), (.int x_a1_1), (.int (nar .byte ((p2 >>> (s_HI_BYTE_SHIFT &&& 31)).toInt8.toInt32))), (.int x_a1_3), (.int x_a1_4), (.int x_a1_5)] (.int (0 : Int32)) := Arv.set Ar_a1_0 q_a1_0 Sz_a1_0 Ng_a1_0 Ha_a1_0 Gt_a1_0 (fits_nar_byte _) W5 2 rfl (Nat.le_of_ble_eq_true rfl)
  have N5 := Fr.snoc X5 N0 g_a1
  have f1 := (S_LO_BYTE_SHIFT.wr W5)
  obtain ⟨T6, X6, e6, st6⟩ := getS2 X5 hx hZ hown (host := "") (Or.inl (hi 68 rfl)) Via.refl e5 f1 (g := (mkF m 47 #[vA a1, vI (3 : Int32), vI p2] [(.int p2), (.int (3 : Int32)), (.ref a1)])) rfl (hb hby d13_47)
  obtain ⟨cl_a1_2, Ar_a1_2, q_a1_2, Sz_a1_2, Ng_a1_2, Ha_a1_2, Gt_a1_2⟩ := id V5
  have hin_a1_2 : ¬ ((3 : Int32) < 0 ∨ cl_a1_2.slots.size ≤ ((3 : Int32)).toNatClampNeg) := inb_of Sz_a1_2 ⟨by decide, by decide⟩
  obtain ⟨T7, h7, X7, e7, W7, st7⟩ := stB X6 hx hZ e6 Ar_a1_2 (j := (3 : Int32)) hin_a1_2 (g := (mkF m 52 #[vA a1, vI (3 : Int32), vI p2] [(.int ((p2 >>> (s_LO_BYTE_SHIFT &&& 31)).toInt8.toInt32)), (.int (3 : Int32)), (.ref a1)])) rfl rfl (hb hby d13_52)
  have V7 : Arv Z h7 a1 k_a1 .byte (6 : Int32) [(.int x_a1_0), (.int x_a1_1), (.int (nar .byte ((p2 >>> (s_HI_BYTE_SHIFT &&& 31)).toInt8.toInt32))), (.int (nar .byte ((p2 >>> (s_LO_BYTE_SHIFT &&& 31)).toInt8.toInt32))), (.int x_a1_4), (.int x_a1_5)] (.int (0 : Int32)) := Arv.set Ar_a1_2 q_a1_2 Sz_a1_2 Ng_a1_2 Ha_a1_2 Gt_a1_2 (fits_nar_byte _) W7 3 rfl (Nat.le_of_ble_eq_true rfl)
  have N7 := Fr.snoc X7 N5 g_a1
  obtain ⟨fs, hr, hrun, hended, hW, hsame⟩ := X7.leave (v := none) (fun _ => rfl)
  refine ⟨_, _, pre0 _ ?_, hrun, hended, _, _, rfl, ?_, ⟨_, rfl⟩, hW, hsame.mono (by decide) (by decide)⟩
  · show Steps p.tables e below (s₁.setTop (mkF m 0 #[vA a1, vI (1 : Int32), vI p2] [])) _
    refine st3 _ ?_
    show Steps p.tables e below (T3.setTop (mkF m 3 #[vA a1, vI (1 : Int32), vI p2] [(.int s__assertionsDisabled)])) _
    refine XS.ifYes X3.here hx rfl (pc0 := 3) (pc' := 28) rfl (hb hby d13_3) rfl ((if0 _ _).trans (feq (show ¬ (s__assertionsDisabled = (0 : Int32)) from hasd)).2) (by decide) (by decide) ?_
    refine XS.iloadN X3.here hx rfl (hb hby d13_28) rfl ?_
    refine XS.iconst X3.here hx rfl (hb hby d13_29) ?_
    refine XS.ishl X3.here hx rfl (hb hby d13_30) rfl ?_
    refine XS.istoreN X3.here hx rfl (hb hby d13_31) rfl (l' := #[vA a1, vI (2 : Int32), vI p2]) rfl ?_
    refine XS.aloadN X3.here hx rfl (hb hby d13_32) rfl rfl ?_
    refine XS.iloadN X3.here hx rfl (hb hby d13_33) rfl ?_
    refine XS.iinc X3.here hx rfl (hb hby d13_34) rfl (l' := #[vA a1, vI (3 : Int32), vI p2]) rfl ?_
    refine XS.iloadN X3.here hx rfl (hb hby d13_37) rfl ?_
    show Steps p.tables e below (T3.setTop (mkF m 38 #[vA a1, vI (3 : Int32), vI p2] [(.int p2), (.int (2 : Int32)), (.ref a1)])) _
    refine st4 _ ?_
    refine XS.ishr X4.here hx rfl (hb hby d13_41) rfl ?_
    refine XS.i2b X4.here hx rfl (hb hby d13_42) rfl ?_
    show Steps p.tables e below (T4.setTop (mkF m 43 #[vA a1, vI (3 : Int32), vI p2] [(.int ((p2 >>> (s_HI_BYTE_SHIFT &&& 31)).toInt8.toInt32)), (.int (2 : Int32)), (.ref a1)])) _
    refine st5 _ ?_
    refine XS.aloadN X5.here hx rfl (hb hby d13_44) rfl rfl ?_
    refine XS.iloadN X5.here hx rfl (hb hby d13_45) rfl ?_
    refine XS.iloadN X5.here hx rfl (hb hby d13_46) rfl ?_
    show Steps p.tables e below (T5.setTop (mkF m 47 #[vA a1, vI (3 : Int32), vI p2] [(.int p2), (.int (3 : Int32)), (.ref a1)])) _
    refine st6 _ ?_
    refine XS.ishr X6.here hx rfl (hb hby d13_50) rfl ?_
    refine XS.i2b X6.here hx rfl (hb hby d13_51) rfl ?_
    show Steps p.tables e below (T6.setTop (mkF m 52 #[vA a1, vI (3 : Int32), vI p2] [(.int ((p2 >>> (s_LO_BYTE_SHIFT &&& 31)).toInt8.toInt32)), (.int (3 : Int32)), (.ref a1)])) _
    refine st7 _ ?_
    show Steps p.tables e below (T7.setTop (mkF m 53 #[vA a1, vI (3 : Int32), vI p2] [])) _
    exact X7.returnOut hx Bd.returns (hb hby d13_53) hr
  · show Q_rm13_3_1 Z a1 p2 s__assertionsDisabled s_HI_BYTE_SHIFT s_LO_BYTE_SHIFT k_a1 x_a1_0 x_a1_1 x_a1_2 x_a1_3 x_a1_4 x_a1_5 h0 n0 _ T7.heap _
    rw [e7]
    exact ⟨rfl, N7, (((Keep.refl h0 [a1]).wr W5 (Or.inl (List.mem_of_getElem? (i := 0) rfl))).wr W7 (Or.inl (List.mem_of_getElem? (i := 0) rfl))), V7⟩
def Q_rm14_3_1 (Z : State) (a1 : Addr) (s__assertionsDisabled : Int32) (s_HI_BYTE_SHIFT : Int32) (s_LO_BYTE_SHIFT : Int32) (k_a1 : ClassId) (x_a1_0 : Int32) (x_a1_1 : Int32) (x_a1_2 : Int32) (x_a1_3 : Int32) (x_a1_4 : Int32) (x_a1_5 : Int32) (h0 : Heap) (n0 : Nat) (v : Option Value) (h : Heap) (L : List Loc) : Prop := v = some (.int (nar .char (t14_3 s_HI_BYTE_SHIFT s_LO_BYTE_SHIFT x_a1_2 x_a1_3))) ∧ Fr n0 L ∧ h = h0
set_option maxRecDepth 65536 in
set_option maxHeartbeats 40000000 in
theorem rm14_3_1 (l : Launch) (Z : State) (a0 : Array Value) (hw : ∀ d ∈ tables_1, d.before a0 Z = true) (ws : List Jvm.Cond) (a1 : Addr) (s__assertionsDisabled : Int32) (s_HI_BYTE_SHIFT : Int32) (s_LO_BYTE_SHIFT : Int32) (k_a1 : ClassId) (x_a1_0 : Int32) (x_a1_1 : Int32) (x_a1_2 : Int32) (x_a1_3 : Int32) (x_a1_4 : Int32) (x_a1_5 : Int32) (h0 : Heap) (n0 : Nat) (Z0 : n0 ≤ h0.size) (hasd : ¬ (s__assertionsDisabled = (0 : Int32))) (S__assertionsDisabled : Sta Z h0 "java/lang/StringUTF16" "$assertionsDisabled" "Z" (.int s__assertionsDisabled)) (S_HI_BYTE_SHIFT : Sta Z h0 "java/lang/StringUTF16" "HI_BYTE_SHIFT" "I" (.int s_HI_BYTE_SHIFT)) (S_LO_BYTE_SHIFT : Sta Z h0 "java/lang/StringUTF16" "LO_BYTE_SHIFT" "I" (.int s_LO_BYTE_SHIFT)) (V_a1 : Arv Z h0 a1 k_a1 .byte (6 : Int32) [(.int x_a1_0), (.int x_a1_1), (.int x_a1_2), (.int x_a1_3), (.int x_a1_4), (.int x_a1_5)] (.int (0 : Int32))) :
    MetFree l (⟨"java/lang/StringUTF16", "getChar", "([BI)C"⟩ : MethodName) (head1 (Jvm.Cond.code (⟨"java/lang/StringUTF16", "getChar", "([BI)C"⟩ : MethodName) jdk_52_method_5_code 2 (some .char) :: ws) ({ frames := 0, cells := 0, slots := 0, locals := 0 } : Room)) (fun a U => a = #[(.ref a1), (.int (1 : Int32))] ∧ Z.Warmed39 U.vm ∧ U.heap = h0) (fun _ _ _ _ _ => True) (fun _ U o U' => ∃ v L, o = .returned v ∧ Q_rm14_3_1 Z a1 s__assertionsDisabled s_HI_BYTE_SHIFT s_LO_BYTE_SHIFT k_a1 x_a1_0 x_a1_1 x_a1_2 x_a1_3 x_a1_4 x_a1_5 h0 n0 v U'.heap L ∧ FrameEnd U o U' L ({ frames := 0, cells := 0, slots := 0, locals := 0 } : Room).cells ({ frames := 0, cells := 0, slots := 0, locals := 0 } : Room).slots) := by
  have hi : ∀ (i : Nat) {d : Jvm.Cond}, tables_1[i]? = some d → d.before a0 Z = true := fun i d h => hw d (List.mem_of_getElem? h)
  refine MetFree.of_bodySF (plainFor_of_name pn_14) hisR ?_
  intro p e s m args below meth c s₁ Bd hml0 hP hK
  obtain ⟨rfl, hZ, hh⟩ := hP
  have hx := Bd.exec
  have hby := Bd.bytes
  have hml : c.maxLocals = 2 := hml0
  have hown : s.vm.findClass "java/lang/StringUTF16" = some m.cls := findClass_of_methodNamed Bd.named
  have hnm := (name_of_methodNamed Bd.named Bd.method).1
  have X0 : Stand p l e ({ frames := 0, cells := 0, slots := 0, locals := 0 } : Room) s m #[(.ref a1), (.int (1 : Int32))] below meth c s₁ [] 0 0 := Stand.of_body Bd
  have e0 : s₁.heap = h0 := by rw [← hh, Bd.state]; rfl
  have N0 := Fr.nil n0
  have pre0 : ∀ t, Steps p.tables e below (s₁.setTop (mkF m 0 #[vA a1, vI (1 : Int32)] [])) t → Steps p.tables e below (s₁.setTop (entryFrame m #[(.ref a1), (.int (1 : Int32))] 2)) t := fun t k => castTop (ef_14 m a1 (1 : Int32)) k
  obtain ⟨T2, X2, e2, st2⟩ := getS2 X0 hx hZ hown (host := "") (Or.inl (hi 66 rfl)) Via.refl e0 S__assertionsDisabled (g := (mkF m 0 #[vA a1, vI (1 : Int32)] [])) rfl (hb hby d14_0)
  obtain ⟨cl_a1_0, Ar_a1_0, q_a1_0, Sz_a1_0, Ng_a1_0, Ha_a1_0, Gt_a1_0⟩ := id V_a1
  have hin_a1_0 : ¬ ((2 : Int32) < 0 ∨ cl_a1_0.slots.size ≤ ((2 : Int32)).toNatClampNeg) := inb_of Sz_a1_0 ⟨by decide, by decide⟩
  have hat_a1_0 : cl_a1_0.slots[((2 : Int32)).toNatClampNeg]? = some (.int x_a1_2) := (Ha_a1_0 _ (Nat.lt_of_not_le fun q => hin_a1_0 (Or.inr q))).trans (congrArg some (rfl : (([(.int x_a1_0), (.int x_a1_1), (.int x_a1_2), (.int x_a1_3), (.int x_a1_4), (.int x_a1_5)] : List Value)).getD ((2 : Int32)).toNatClampNeg (.int (0 : Int32)) = (.int x_a1_2)))
  obtain ⟨T3, X3, e3, st3⟩ := getS2 X2 hx hZ hown (host := "") (Or.inl (hi 67 rfl)) Via.refl e2 S_HI_BYTE_SHIFT (g := (mkF m 42 #[vA a1, vI (3 : Int32)] [(.int (x_a1_2 &&& (255 : Int32)))])) rfl (hb hby d14_42)
  obtain ⟨cl_a1_1, Ar_a1_1, q_a1_1, Sz_a1_1, Ng_a1_1, Ha_a1_1, Gt_a1_1⟩ := id V_a1
  have hin_a1_1 : ¬ ((3 : Int32) < 0 ∨ cl_a1_1.slots.size ≤ ((3 : Int32)).toNatClampNeg) := inb_of Sz_a1_1 ⟨by decide, by decide⟩
  have hat_a1_1 : cl_a1_1.slots[((3 : Int32)).toNatClampNeg]? = some (.int x_a1_3) := (Ha_a1_1 _ (Nat.lt_of_not_le fun q => hin_a1_1 (Or.inr q))).trans (congrArg some (rfl : (([(.int x_a1_0), (.int x_a1_1), (.int x_a1_2), (.int x_a1_3), (.int x_a1_4), (.int x_a1_5)] : List Value)).getD ((3 : Int32)).toNatClampNeg (.int (0 : Int32)) = (.int x_a1_3)))
  obtain ⟨T4, X4, e4, st4⟩ := getS2 X3 hx hZ hown (host := "") (Or.inl (hi 68 rfl)) Via.refl e3 S_LO_BYTE_SHIFT (g := (mkF m 53 #[vA a1, vI (3 : Int32)] [(.int (x_a1_3 &&& (255 : Int32))), (.int ((x_a1_2 &&& (255 : Int32)) <<< (s_HI_BYTE_SHIFT &&& 31)))])) rfl (hb hby d14_53)
  obtain ⟨fs, hr, hrun, hended, hW, hsame⟩ := X4.leave (v := some (.int (nar .char (t14_3 s_HI_BYTE_SHIFT s_LO_BYTE_SHIFT x_a1_2 x_a1_3)))) (fun h => by rw [Bd.returns] at h; cases h)
  refine ⟨_, _, pre0 _ ?_, hrun, hended, _, _, rfl, ?_, ⟨_, rfl⟩, hW, hsame.mono (by decide) (by decide)⟩
  · show Steps p.tables e below (s₁.setTop (mkF m 0 #[vA a1, vI (1 : Int32)] [])) _
    refine st2 _ ?_
    show Steps p.tables e below (T2.setTop (mkF m 3 #[vA a1, vI (1 : Int32)] [(.int s__assertionsDisabled)])) _
    refine XS.ifYes X2.here hx rfl (pc0 := 3) (pc' := 28) rfl (hb hby d14_3) rfl ((if0 _ _).trans (feq (show ¬ (s__assertionsDisabled = (0 : Int32)) from hasd)).2) (by decide) (by decide) ?_
    refine XS.iloadN X2.here hx rfl (hb hby d14_28) rfl ?_
    refine XS.iconst X2.here hx rfl (hb hby d14_29) ?_
    refine XS.ishl X2.here hx rfl (hb hby d14_30) rfl ?_
    refine XS.istoreN X2.here hx rfl (hb hby d14_31) rfl (l' := #[vA a1, vI (2 : Int32)]) rfl ?_
    refine XS.aloadN X2.here hx rfl (hb hby d14_32) rfl rfl ?_
    refine XS.iloadN X2.here hx rfl (hb hby d14_33) rfl ?_
    refine XS.iinc X2.here hx rfl (hb hby d14_34) rfl (l' := #[vA a1, vI (3 : Int32)]) rfl ?_
    show Steps p.tables e below (T2.setTop (mkF m 37 #[vA a1, vI (3 : Int32)] [(.int (2 : Int32)), (.ref a1)])) _
    refine X2.baloadBytes hx (j := (2 : Int32)) (v := (.int x_a1_2)) (by rw [e2]; exact Ar_a1_0.1) (State.isArrayOf_alike hZ.alike Ar_a1_0.2.1) Ar_a1_0.2.2 hin_a1_0 hat_a1_0 (g := (mkF m 37 #[vA a1, vI (3 : Int32)] [(.int (2 : Int32)), (.ref a1)])) rfl rfl (hb hby d14_37) _ ?_
    refine XS.sipush X2.here hx rfl (hb hby d14_38) ?_
    refine XS.iand X2.here hx rfl (hb hby d14_41) rfl ?_
    show Steps p.tables e below (T2.setTop (mkF m 42 #[vA a1, vI (3 : Int32)] [(.int (x_a1_2 &&& (255 : Int32)))])) _
    refine st3 _ ?_
    refine XS.ishl X3.here hx rfl (hb hby d14_45) rfl ?_
    refine XS.aloadN X3.here hx rfl (hb hby d14_46) rfl rfl ?_
    refine XS.iloadN X3.here hx rfl (hb hby d14_47) rfl ?_
    show Steps p.tables e below (T3.setTop (mkF m 48 #[vA a1, vI (3 : Int32)] [(.int (3 : Int32)), (.ref a1), (.int ((x_a1_2 &&& (255 : Int32)) <<< (s_HI_BYTE_SHIFT &&& 31)))])) _
    refine X3.baloadBytes hx (j := (3 : Int32)) (v := (.int x_a1_3)) (by rw [e3]; exact Ar_a1_1.1) (State.isArrayOf_alike hZ.alike Ar_a1_1.2.1) Ar_a1_1.2.2 hin_a1_1 hat_a1_1 (g := (mkF m 48 #[vA a1, vI (3 : Int32)] [(.int (3 : Int32)), (.ref a1), (.int ((x_a1_2 &&& (255 : Int32)) <<< (s_HI_BYTE_SHIFT &&& 31)))])) rfl rfl (hb hby d14_48) _ ?_
    refine XS.sipush X3.here hx rfl (hb hby d14_49) ?_
    refine XS.iand X3.here hx rfl (hb hby d14_52) rfl ?_
    show Steps p.tables e below (T3.setTop (mkF m 53 #[vA a1, vI (3 : Int32)] [(.int (x_a1_3 &&& (255 : Int32))), (.int ((x_a1_2 &&& (255 : Int32)) <<< (s_HI_BYTE_SHIFT &&& 31)))])) _
    refine st4 _ ?_
    refine XS.ishl X4.here hx rfl (hb hby d14_56) rfl ?_
    refine XS.ior X4.here hx rfl (hb hby d14_57) rfl ?_
    refine XS.i2c X4.here hx rfl (hb hby d14_58) rfl ?_
    show Steps p.tables e below (T4.setTop (mkF m 59 #[vA a1, vI (3 : Int32)] [(.int (t14_3 s_HI_BYTE_SHIFT s_LO_BYTE_SHIFT x_a1_2 x_a1_3))])) _
    exact retN X4 hx (t := .char) Bd.returns (by simp) (hb hby d14_59) hr
  · show Q_rm14_3_1 Z a1 s__assertionsDisabled s_HI_BYTE_SHIFT s_LO_BYTE_SHIFT k_a1 x_a1_0 x_a1_1 x_a1_2 x_a1_3 x_a1_4 x_a1_5 h0 n0 _ T4.heap _
    exact ⟨rfl, N0, e4⟩
def Q_rm13_3_2 (Z : State) (a1 : Addr) (p2 : Int32) (s__assertionsDisabled : Int32) (s_HI_BYTE_SHIFT : Int32) (s_LO_BYTE_SHIFT : Int32) (k_a1 : ClassId) (x_a1_0 : Int32) (x_a1_1 : Int32) (x_a1_2 : Int32) (x_a1_3 : Int32) (x_a1_4 : Int32) (x_a1_5 : Int32) (h0 : Heap) (n0 : Nat) (v : Option Value) (h : Heap) (L : List Loc) : Prop := v = none ∧ Fr n0 L ∧ Keep h0 h [a1] ∧ Arv Z h a1 k_a1 .byte (6 : Int32) [(.int x_a1_0), (.int x_a1_1), (.int x_a1_2), (.int x_a1_3), (.int (nar .byte ((p2 >>> (s_HI_BYTE_SHIFT &&& 31)).toInt8.toInt32))), (.int (nar .byte ((p2 >>> (s_LO_BYTE_SHIFT &&& 31)).toInt8.toInt32)))] (.int (0 : Int32))
set_option maxRecDepth 65536 in
set_option maxHeartbeats 40000000 in
theorem rm13_3_2 (l : Launch) (Z : State) (a0 : Array Value) (hw : ∀ d ∈ tables_1, d.before a0 Z = true) (ws : List Jvm.Cond) (a1 : Addr) (p2 : Int32) (s__assertionsDisabled : Int32) (s_HI_BYTE_SHIFT : Int32) (s_LO_BYTE_SHIFT : Int32) (k_a1 : ClassId) (x_a1_0 : Int32) (x_a1_1 : Int32) (x_a1_2 : Int32) (x_a1_3 : Int32) (x_a1_4 : Int32) (x_a1_5 : Int32) (h0 : Heap) (n0 : Nat) (Z0 : n0 ≤ h0.size) (hasd : ¬ (s__assertionsDisabled = (0 : Int32))) (S__assertionsDisabled : Sta Z h0 "java/lang/StringUTF16" "$assertionsDisabled" "Z" (.int s__assertionsDisabled)) (S_HI_BYTE_SHIFT : Sta Z h0 "java/lang/StringUTF16" "HI_BYTE_SHIFT" "I" (.int s_HI_BYTE_SHIFT)) (g_a1 : n0 ≤ a1) (S_LO_BYTE_SHIFT : Sta Z h0 "java/lang/StringUTF16" "LO_BYTE_SHIFT" "I" (.int s_LO_BYTE_SHIFT)) (V_a1 : Arv Z h0 a1 k_a1 .byte (6 : Int32) [(.int x_a1_0), (.int x_a1_1), (.int x_a1_2), (.int x_a1_3), (.int x_a1_4), (.int x_a1_5)] (.int (0 : Int32))) :
    MetFree l (⟨"java/lang/StringUTF16", "putChar", "([BII)V"⟩ : MethodName) (head1 (Jvm.Cond.code (⟨"java/lang/StringUTF16", "putChar", "([BII)V"⟩ : MethodName) jdk_52_method_4_code 3 none :: ws) ({ frames := 0, cells := 0, slots := 0, locals := 0 } : Room)) (fun a U => a = #[(.ref a1), (.int (2 : Int32)), (.int p2)] ∧ Z.Warmed39 U.vm ∧ U.heap = h0) (fun _ _ _ _ _ => True) (fun _ U o U' => ∃ v L, o = .returned v ∧ Q_rm13_3_2 Z a1 p2 s__assertionsDisabled s_HI_BYTE_SHIFT s_LO_BYTE_SHIFT k_a1 x_a1_0 x_a1_1 x_a1_2 x_a1_3 x_a1_4 x_a1_5 h0 n0 v U'.heap L ∧ FrameEnd U o U' L ({ frames := 0, cells := 0, slots := 0, locals := 0 } : Room).cells ({ frames := 0, cells := 0, slots := 0, locals := 0 } : Room).slots) := by
  have hi : ∀ (i : Nat) {d : Jvm.Cond}, tables_1[i]? = some d → d.before a0 Z = true := fun i d h => hw d (List.mem_of_getElem? h)
  refine MetFree.of_bodySF (plainFor_of_name pn_13) hisR ?_
  intro p e s m args below meth c s₁ Bd hml0 hP hK
  obtain ⟨rfl, hZ, hh⟩ := hP
  have hx := Bd.exec
  have hby := Bd.bytes
  have hml : c.maxLocals = 3 := hml0
  have hown : s.vm.findClass "java/lang/StringUTF16" = some m.cls := findClass_of_methodNamed Bd.named
  have hnm := (name_of_methodNamed Bd.named Bd.method).1
  have X0 : Stand p l e ({ frames := 0, cells := 0, slots := 0, locals := 0 } : Room) s m #[(.ref a1), (.int (2 : Int32)), (.int p2)] below meth c s₁ [] 0 0 := Stand.of_body Bd
  have e0 : s₁.heap = h0 := by rw [← hh, Bd.state]; rfl
  have N0 := Fr.nil n0
  have pre0 : ∀ t, Steps p.tables e below (s₁.setTop (mkF m 0 #[vA a1, vI (2 : Int32), vI p2] [])) t → Steps p.tables e below (s₁.setTop (entryFrame m #[(.ref a1), (.int (2 : Int32)), (.int p2)] 3)) t := fun t k => castTop (ef_13 m a1 (2 : Int32) p2) k
  obtain ⟨T3, X3, e3, st3⟩ := getS2 X0 hx hZ hown (host := "") (Or.inl (hi 66 rfl)) Via.refl e0 S__assertionsDisabled (g := (mkF m 0 #[vA a1, vI (2 : Int32), vI p2] [])) rfl (hb hby d13_0)
  obtain ⟨T4, X4, e4, st4⟩ := getS2 X3 hx hZ hown (host := "") (Or.inl (hi 67 rfl)) Via.refl e3 S_HI_BYTE_SHIFT (g := (mkF m 38 #[vA a1, vI (5 : Int32), vI p2] [(.int p2), (.int (4 : Int32)), (.ref a1)])) rfl (hb hby d13_38)
  obtain ⟨cl_a1_0, Ar_a1_0, q_a1_0, Sz_a1_0, Ng_a1_0, Ha_a1_0, Gt_a1_0⟩ := id V_a1
  have hin_a1_0 : ¬ ((4 : Int32) < 0 ∨ cl_a1_0.slots.size ≤ ((4 : Int32)).toNatClampNeg) := inb_of Sz_a1_0 ⟨by decide, by decide⟩
  obtain ⟨T5, h5, X5, e5, W5, st5⟩ := stB X4 hx hZ e4 Ar_a1_0 (j := (4 : Int32)) hin_a1_0 (g := (mkF m 43 #[vA a1, vI (5 : Int32), vI p2] [(.int ((p2 >>> (s_HI_BYTE_SHIFT &&& 31)).toInt8.toInt32)), (.int (4 : Int32)), (.ref a1)])) rfl rfl (hb hby d13_43)
  have V5 : Arv Z h5 a1 k_a1 .byte (6 : Int32) [(.int x_a1_0), (.int x_a1_1), (.int x_a1_2), (.int x_a1_3), (.int (nar .byte ((p2 >>> (s_HI_BYTE_SHIFT &&& 31)).toInt8.toInt32))), (.int x_a1_5)] (.int (0 : Int32)) := Arv.set Ar_a1_0 q_a1_0 Sz_a1_0 Ng_a1_0 Ha_a1_0 Gt_a1_0 (fits_nar_byte _) W5 4 rfl (Nat.le_of_ble_eq_true rfl)
  have N5 := Fr.snoc X5 N0 g_a1
  have f1 := (S_LO_BYTE_SHIFT.wr W5)
  obtain ⟨T6, X6, e6, st6⟩ := getS2 X5 hx hZ hown (host := "") (Or.inl (hi 68 rfl)) Via.refl e5 f1 (g := (mkF m 47 #[vA a1, vI (5 : Int32), vI p2] [(.int p2), (.int (5 : Int32)), (.ref a1)])) rfl (hb hby d13_47)
  obtain ⟨cl_a1_2, Ar_a1_2, q_a1_2, Sz_a1_2, Ng_a1_2, Ha_a1_2, Gt_a1_2⟩ := id V5
  have hin_a1_2 : ¬ ((5 : Int32) < 0 ∨ cl_a1_2.slots.size ≤ ((5 : Int32)).toNatClampNeg) := inb_of Sz_a1_2 ⟨by decide, by decide⟩
  obtain ⟨T7, h7, X7, e7, W7, st7⟩ := stB X6 hx hZ e6 Ar_a1_2 (j := (5 : Int32)) hin_a1_2 (g := (mkF m 52 #[vA a1, vI (5 : Int32), vI p2] [(.int ((p2 >>> (s_LO_BYTE_SHIFT &&& 31)).toInt8.toInt32)), (.int (5 : Int32)), (.ref a1)])) rfl rfl (hb hby d13_52)
  have V7 : Arv Z h7 a1 k_a1 .byte (6 : Int32) [(.int x_a1_0), (.int x_a1_1), (.int x_a1_2), (.int x_a1_3), (.int (nar .byte ((p2 >>> (s_HI_BYTE_SHIFT &&& 31)).toInt8.toInt32))), (.int (nar .byte ((p2 >>> (s_LO_BYTE_SHIFT &&& 31)).toInt8.toInt32)))] (.int (0 : Int32)) := Arv.set Ar_a1_2 q_a1_2 Sz_a1_2 Ng_a1_2 Ha_a1_2 Gt_a1_2 (fits_nar_byte _) W7 5 rfl (Nat.le_of_ble_eq_true rfl)
  have N7 := Fr.snoc X7 N5 g_a1
  obtain ⟨fs, hr, hrun, hended, hW, hsame⟩ := X7.leave (v := none) (fun _ => rfl)
  refine ⟨_, _, pre0 _ ?_, hrun, hended, _, _, rfl, ?_, ⟨_, rfl⟩, hW, hsame.mono (by decide) (by decide)⟩
  · show Steps p.tables e below (s₁.setTop (mkF m 0 #[vA a1, vI (2 : Int32), vI p2] [])) _
    refine st3 _ ?_
    show Steps p.tables e below (T3.setTop (mkF m 3 #[vA a1, vI (2 : Int32), vI p2] [(.int s__assertionsDisabled)])) _
    refine XS.ifYes X3.here hx rfl (pc0 := 3) (pc' := 28) rfl (hb hby d13_3) rfl ((if0 _ _).trans (feq (show ¬ (s__assertionsDisabled = (0 : Int32)) from hasd)).2) (by decide) (by decide) ?_
    refine XS.iloadN X3.here hx rfl (hb hby d13_28) rfl ?_
    refine XS.iconst X3.here hx rfl (hb hby d13_29) ?_
    refine XS.ishl X3.here hx rfl (hb hby d13_30) rfl ?_
    refine XS.istoreN X3.here hx rfl (hb hby d13_31) rfl (l' := #[vA a1, vI (4 : Int32), vI p2]) rfl ?_
    refine XS.aloadN X3.here hx rfl (hb hby d13_32) rfl rfl ?_
    refine XS.iloadN X3.here hx rfl (hb hby d13_33) rfl ?_
    refine XS.iinc X3.here hx rfl (hb hby d13_34) rfl (l' := #[vA a1, vI (5 : Int32), vI p2]) rfl ?_
    refine XS.iloadN X3.here hx rfl (hb hby d13_37) rfl ?_
    show Steps p.tables e below (T3.setTop (mkF m 38 #[vA a1, vI (5 : Int32), vI p2] [(.int p2), (.int (4 : Int32)), (.ref a1)])) _
    refine st4 _ ?_
    refine XS.ishr X4.here hx rfl (hb hby d13_41) rfl ?_
    refine XS.i2b X4.here hx rfl (hb hby d13_42) rfl ?_
    show Steps p.tables e below (T4.setTop (mkF m 43 #[vA a1, vI (5 : Int32), vI p2] [(.int ((p2 >>> (s_HI_BYTE_SHIFT &&& 31)).toInt8.toInt32)), (.int (4 : Int32)), (.ref a1)])) _
    refine st5 _ ?_
    refine XS.aloadN X5.here hx rfl (hb hby d13_44) rfl rfl ?_
    refine XS.iloadN X5.here hx rfl (hb hby d13_45) rfl ?_
    refine XS.iloadN X5.here hx rfl (hb hby d13_46) rfl ?_
    show Steps p.tables e below (T5.setTop (mkF m 47 #[vA a1, vI (5 : Int32), vI p2] [(.int p2), (.int (5 : Int32)), (.ref a1)])) _
    refine st6 _ ?_
    refine XS.ishr X6.here hx rfl (hb hby d13_50) rfl ?_
    refine XS.i2b X6.here hx rfl (hb hby d13_51) rfl ?_
    show Steps p.tables e below (T6.setTop (mkF m 52 #[vA a1, vI (5 : Int32), vI p2] [(.int ((p2 >>> (s_LO_BYTE_SHIFT &&& 31)).toInt8.toInt32)), (.int (5 : Int32)), (.ref a1)])) _
    refine st7 _ ?_
    show Steps p.tables e below (T7.setTop (mkF m 53 #[vA a1, vI (5 : Int32), vI p2] [])) _
    exact X7.returnOut hx Bd.returns (hb hby d13_53) hr
  · show Q_rm13_3_2 Z a1 p2 s__assertionsDisabled s_HI_BYTE_SHIFT s_LO_BYTE_SHIFT k_a1 x_a1_0 x_a1_1 x_a1_2 x_a1_3 x_a1_4 x_a1_5 h0 n0 _ T7.heap _
    rw [e7]
    exact ⟨rfl, N7, (((Keep.refl h0 [a1]).wr W5 (Or.inl (List.mem_of_getElem? (i := 0) rfl))).wr W7 (Or.inl (List.mem_of_getElem? (i := 0) rfl))), V7⟩
def t14_4 (s_HI_BYTE_SHIFT : Int32) (s_LO_BYTE_SHIFT : Int32) (x_a1_4 : Int32) (x_a1_5 : Int32) : Int32 := (((x_a1_4 &&& (255 : Int32)) <<< (s_HI_BYTE_SHIFT &&& 31)) ||| ((x_a1_5 &&& (255 : Int32)) <<< (s_LO_BYTE_SHIFT &&& 31)))
def t14_5 (s_HI_BYTE_SHIFT : Int32) (s_LO_BYTE_SHIFT : Int32) (x_a1_4 : Int32) (x_a1_5 : Int32) : Int32 := ((t14_4 s_HI_BYTE_SHIFT s_LO_BYTE_SHIFT x_a1_4 x_a1_5).toUInt32.toUInt16.toUInt32.toInt32)
def Q_rm14_3_2 (Z : State) (a1 : Addr) (s__assertionsDisabled : Int32) (s_HI_BYTE_SHIFT : Int32) (s_LO_BYTE_SHIFT : Int32) (k_a1 : ClassId) (x_a1_0 : Int32) (x_a1_1 : Int32) (x_a1_2 : Int32) (x_a1_3 : Int32) (x_a1_4 : Int32) (x_a1_5 : Int32) (h0 : Heap) (n0 : Nat) (v : Option Value) (h : Heap) (L : List Loc) : Prop := v = some (.int (nar .char (t14_5 s_HI_BYTE_SHIFT s_LO_BYTE_SHIFT x_a1_4 x_a1_5))) ∧ Fr n0 L ∧ h = h0
set_option maxRecDepth 65536 in
set_option maxHeartbeats 40000000 in
theorem rm14_3_2 (l : Launch) (Z : State) (a0 : Array Value) (hw : ∀ d ∈ tables_1, d.before a0 Z = true) (ws : List Jvm.Cond) (a1 : Addr) (s__assertionsDisabled : Int32) (s_HI_BYTE_SHIFT : Int32) (s_LO_BYTE_SHIFT : Int32) (k_a1 : ClassId) (x_a1_0 : Int32) (x_a1_1 : Int32) (x_a1_2 : Int32) (x_a1_3 : Int32) (x_a1_4 : Int32) (x_a1_5 : Int32) (h0 : Heap) (n0 : Nat) (Z0 : n0 ≤ h0.size) (hasd : ¬ (s__assertionsDisabled = (0 : Int32))) (S__assertionsDisabled : Sta Z h0 "java/lang/StringUTF16" "$assertionsDisabled" "Z" (.int s__assertionsDisabled)) (S_HI_BYTE_SHIFT : Sta Z h0 "java/lang/StringUTF16" "HI_BYTE_SHIFT" "I" (.int s_HI_BYTE_SHIFT)) (S_LO_BYTE_SHIFT : Sta Z h0 "java/lang/StringUTF16" "LO_BYTE_SHIFT" "I" (.int s_LO_BYTE_SHIFT)) (V_a1 : Arv Z h0 a1 k_a1 .byte (6 : Int32) [(.int x_a1_0), (.int x_a1_1), (.int x_a1_2), (.int x_a1_3), (.int x_a1_4), (.int x_a1_5)] (.int (0 : Int32))) :
    MetFree l (⟨"java/lang/StringUTF16", "getChar", "([BI)C"⟩ : MethodName) (head1 (Jvm.Cond.code (⟨"java/lang/StringUTF16", "getChar", "([BI)C"⟩ : MethodName) jdk_52_method_5_code 2 (some .char) :: ws) ({ frames := 0, cells := 0, slots := 0, locals := 0 } : Room)) (fun a U => a = #[(.ref a1), (.int (2 : Int32))] ∧ Z.Warmed39 U.vm ∧ U.heap = h0) (fun _ _ _ _ _ => True) (fun _ U o U' => ∃ v L, o = .returned v ∧ Q_rm14_3_2 Z a1 s__assertionsDisabled s_HI_BYTE_SHIFT s_LO_BYTE_SHIFT k_a1 x_a1_0 x_a1_1 x_a1_2 x_a1_3 x_a1_4 x_a1_5 h0 n0 v U'.heap L ∧ FrameEnd U o U' L ({ frames := 0, cells := 0, slots := 0, locals := 0 } : Room).cells ({ frames := 0, cells := 0, slots := 0, locals := 0 } : Room).slots) := by
  have hi : ∀ (i : Nat) {d : Jvm.Cond}, tables_1[i]? = some d → d.before a0 Z = true := fun i d h => hw d (List.mem_of_getElem? h)
  refine MetFree.of_bodySF (plainFor_of_name pn_14) hisR ?_
  intro p e s m args below meth c s₁ Bd hml0 hP hK
  obtain ⟨rfl, hZ, hh⟩ := hP
  have hx := Bd.exec
  have hby := Bd.bytes
  have hml : c.maxLocals = 2 := hml0
  have hown : s.vm.findClass "java/lang/StringUTF16" = some m.cls := findClass_of_methodNamed Bd.named
  have hnm := (name_of_methodNamed Bd.named Bd.method).1
  have X0 : Stand p l e ({ frames := 0, cells := 0, slots := 0, locals := 0 } : Room) s m #[(.ref a1), (.int (2 : Int32))] below meth c s₁ [] 0 0 := Stand.of_body Bd
  have e0 : s₁.heap = h0 := by rw [← hh, Bd.state]; rfl
  have N0 := Fr.nil n0
  have pre0 : ∀ t, Steps p.tables e below (s₁.setTop (mkF m 0 #[vA a1, vI (2 : Int32)] [])) t → Steps p.tables e below (s₁.setTop (entryFrame m #[(.ref a1), (.int (2 : Int32))] 2)) t := fun t k => castTop (ef_14 m a1 (2 : Int32)) k
  obtain ⟨T2, X2, e2, st2⟩ := getS2 X0 hx hZ hown (host := "") (Or.inl (hi 66 rfl)) Via.refl e0 S__assertionsDisabled (g := (mkF m 0 #[vA a1, vI (2 : Int32)] [])) rfl (hb hby d14_0)
  obtain ⟨cl_a1_0, Ar_a1_0, q_a1_0, Sz_a1_0, Ng_a1_0, Ha_a1_0, Gt_a1_0⟩ := id V_a1
  have hin_a1_0 : ¬ ((4 : Int32) < 0 ∨ cl_a1_0.slots.size ≤ ((4 : Int32)).toNatClampNeg) := inb_of Sz_a1_0 ⟨by decide, by decide⟩
  have hat_a1_0 : cl_a1_0.slots[((4 : Int32)).toNatClampNeg]? = some (.int x_a1_4) := (Ha_a1_0 _ (Nat.lt_of_not_le fun q => hin_a1_0 (Or.inr q))).trans (congrArg some (rfl : (([(.int x_a1_0), (.int x_a1_1), (.int x_a1_2), (.int x_a1_3), (.int x_a1_4), (.int x_a1_5)] : List Value)).getD ((4 : Int32)).toNatClampNeg (.int (0 : Int32)) = (.int x_a1_4)))
  obtain ⟨T3, X3, e3, st3⟩ := getS2 X2 hx hZ hown (host := "") (Or.inl (hi 67 rfl)) Via.refl e2 S_HI_BYTE_SHIFT (g := (mkF m 42 #[vA a1, vI (5 : Int32)] [(.int (x_a1_4 &&& (255 : Int32)))])) rfl (hb hby d14_42)
  obtain ⟨cl_a1_1, Ar_a1_1, q_a1_1, Sz_a1_1, Ng_a1_1, Ha_a1_1, Gt_a1_1⟩ := id V_a1
  have hin_a1_1 : ¬ ((5 : Int32) < 0 ∨ cl_a1_1.slots.size ≤ ((5 : Int32)).toNatClampNeg) := inb_of Sz_a1_1 ⟨by decide, by decide⟩
  have hat_a1_1 : cl_a1_1.slots[((5 : Int32)).toNatClampNeg]? = some (.int x_a1_5) := (Ha_a1_1 _ (Nat.lt_of_not_le fun q => hin_a1_1 (Or.inr q))).trans (congrArg some (rfl : (([(.int x_a1_0), (.int x_a1_1), (.int x_a1_2), (.int x_a1_3), (.int x_a1_4), (.int x_a1_5)] : List Value)).getD ((5 : Int32)).toNatClampNeg (.int (0 : Int32)) = (.int x_a1_5)))
  obtain ⟨T4, X4, e4, st4⟩ := getS2 X3 hx hZ hown (host := "") (Or.inl (hi 68 rfl)) Via.refl e3 S_LO_BYTE_SHIFT (g := (mkF m 53 #[vA a1, vI (5 : Int32)] [(.int (x_a1_5 &&& (255 : Int32))), (.int ((x_a1_4 &&& (255 : Int32)) <<< (s_HI_BYTE_SHIFT &&& 31)))])) rfl (hb hby d14_53)
  obtain ⟨fs, hr, hrun, hended, hW, hsame⟩ := X4.leave (v := some (.int (nar .char (t14_5 s_HI_BYTE_SHIFT s_LO_BYTE_SHIFT x_a1_4 x_a1_5)))) (fun h => by rw [Bd.returns] at h; cases h)
  refine ⟨_, _, pre0 _ ?_, hrun, hended, _, _, rfl, ?_, ⟨_, rfl⟩, hW, hsame.mono (by decide) (by decide)⟩
  · show Steps p.tables e below (s₁.setTop (mkF m 0 #[vA a1, vI (2 : Int32)] [])) _
    refine st2 _ ?_
    show Steps p.tables e below (T2.setTop (mkF m 3 #[vA a1, vI (2 : Int32)] [(.int s__assertionsDisabled)])) _
    refine XS.ifYes X2.here hx rfl (pc0 := 3) (pc' := 28) rfl (hb hby d14_3) rfl ((if0 _ _).trans (feq (show ¬ (s__assertionsDisabled = (0 : Int32)) from hasd)).2) (by decide) (by decide) ?_
    refine XS.iloadN X2.here hx rfl (hb hby d14_28) rfl ?_
    refine XS.iconst X2.here hx rfl (hb hby d14_29) ?_
    refine XS.ishl X2.here hx rfl (hb hby d14_30) rfl ?_
    refine XS.istoreN X2.here hx rfl (hb hby d14_31) rfl (l' := #[vA a1, vI (4 : Int32)]) rfl ?_
    refine XS.aloadN X2.here hx rfl (hb hby d14_32) rfl rfl ?_
    refine XS.iloadN X2.here hx rfl (hb hby d14_33) rfl ?_
    refine XS.iinc X2.here hx rfl (hb hby d14_34) rfl (l' := #[vA a1, vI (5 : Int32)]) rfl ?_
    show Steps p.tables e below (T2.setTop (mkF m 37 #[vA a1, vI (5 : Int32)] [(.int (4 : Int32)), (.ref a1)])) _
    refine X2.baloadBytes hx (j := (4 : Int32)) (v := (.int x_a1_4)) (by rw [e2]; exact Ar_a1_0.1) (State.isArrayOf_alike hZ.alike Ar_a1_0.2.1) Ar_a1_0.2.2 hin_a1_0 hat_a1_0 (g := (mkF m 37 #[vA a1, vI (5 : Int32)] [(.int (4 : Int32)), (.ref a1)])) rfl rfl (hb hby d14_37) _ ?_
    refine XS.sipush X2.here hx rfl (hb hby d14_38) ?_
    refine XS.iand X2.here hx rfl (hb hby d14_41) rfl ?_
    show Steps p.tables e below (T2.setTop (mkF m 42 #[vA a1, vI (5 : Int32)] [(.int (x_a1_4 &&& (255 : Int32)))])) _
    refine st3 _ ?_
    refine XS.ishl X3.here hx rfl (hb hby d14_45) rfl ?_
    refine XS.aloadN X3.here hx rfl (hb hby d14_46) rfl rfl ?_
    refine XS.iloadN X3.here hx rfl (hb hby d14_47) rfl ?_
    show Steps p.tables e below (T3.setTop (mkF m 48 #[vA a1, vI (5 : Int32)] [(.int (5 : Int32)), (.ref a1), (.int ((x_a1_4 &&& (255 : Int32)) <<< (s_HI_BYTE_SHIFT &&& 31)))])) _
    refine X3.baloadBytes hx (j := (5 : Int32)) (v := (.int x_a1_5)) (by rw [e3]; exact Ar_a1_1.1) (State.isArrayOf_alike hZ.alike Ar_a1_1.2.1) Ar_a1_1.2.2 hin_a1_1 hat_a1_1 (g := (mkF m 48 #[vA a1, vI (5 : Int32)] [(.int (5 : Int32)), (.ref a1), (.int ((x_a1_4 &&& (255 : Int32)) <<< (s_HI_BYTE_SHIFT &&& 31)))])) rfl rfl (hb hby d14_48) _ ?_
    refine XS.sipush X3.here hx rfl (hb hby d14_49) ?_
    refine XS.iand X3.here hx rfl (hb hby d14_52) rfl ?_
    show Steps p.tables e below (T3.setTop (mkF m 53 #[vA a1, vI (5 : Int32)] [(.int (x_a1_5 &&& (255 : Int32))), (.int ((x_a1_4 &&& (255 : Int32)) <<< (s_HI_BYTE_SHIFT &&& 31)))])) _
    refine st4 _ ?_
    refine XS.ishl X4.here hx rfl (hb hby d14_56) rfl ?_
    refine XS.ior X4.here hx rfl (hb hby d14_57) rfl ?_
    refine XS.i2c X4.here hx rfl (hb hby d14_58) rfl ?_
    show Steps p.tables e below (T4.setTop (mkF m 59 #[vA a1, vI (5 : Int32)] [(.int (t14_5 s_HI_BYTE_SHIFT s_LO_BYTE_SHIFT x_a1_4 x_a1_5))])) _
    exact retN X4 hx (t := .char) Bd.returns (by simp) (hb hby d14_59) hr
  · show Q_rm14_3_2 Z a1 s__assertionsDisabled s_HI_BYTE_SHIFT s_LO_BYTE_SHIFT k_a1 x_a1_0 x_a1_1 x_a1_2 x_a1_3 x_a1_4 x_a1_5 h0 n0 _ T4.heap _
    exact ⟨rfl, N0, e4⟩
def Q_rm10_3 (Z : State) (a1 : Addr) (s__assertionsDisabled : Int32) (s_HI_BYTE_SHIFT : Int32) (s_LO_BYTE_SHIFT : Int32) (k_a1 : ClassId) (x_a1_0 : Int32) (x_a1_1 : Int32) (x_a1_2 : Int32) (h0 : Heap) (n0 : Nat) (v : Option Value) (h : Heap) (L : List Loc) : Prop := ∃ b2_2 : Addr, ∃ k2_2 : ClassId, v = some (.ref b2_2) ∧ Fr n0 L ∧ Keep h0 h [] ∧ h0.size ≤ b2_2 ∧ Arv Z h b2_2 k2_2 .byte (6 : Int32) [(.int (nar .byte ((x_a1_0 >>> (s_HI_BYTE_SHIFT &&& 31)).toInt8.toInt32))), (.int (nar .byte ((x_a1_0 >>> (s_LO_BYTE_SHIFT &&& 31)).toInt8.toInt32))), (.int (nar .byte ((x_a1_1 >>> (s_HI_BYTE_SHIFT &&& 31)).toInt8.toInt32))), (.int (nar .byte ((x_a1_1 >>> (s_LO_BYTE_SHIFT &&& 31)).toInt8.toInt32))), (.int (nar .byte ((x_a1_2 >>> (s_HI_BYTE_SHIFT &&& 31)).toInt8.toInt32))), (.int (nar .byte ((x_a1_2 >>> (s_LO_BYTE_SHIFT &&& 31)).toInt8.toInt32)))] (.int (0 : Int32))
set_option maxRecDepth 65536 in
set_option maxHeartbeats 40000000 in
theorem rm10_3 (l : Launch) (Z : State) (a0 : Array Value) (hw : ∀ d ∈ tables_1, d.before a0 Z = true) (ws : List Jvm.Cond) (a1 : Addr) (s__assertionsDisabled : Int32) (s_HI_BYTE_SHIFT : Int32) (s_LO_BYTE_SHIFT : Int32) (k_a1 : ClassId) (x_a1_0 : Int32) (x_a1_1 : Int32) (x_a1_2 : Int32) (h0 : Heap) (n0 : Nat) (Z0 : n0 ≤ h0.size) (hasd : ¬ (s__assertionsDisabled = (0 : Int32))) (S__assertionsDisabled : Sta Z h0 "java/lang/StringUTF16" "$assertionsDisabled" "Z" (.int s__assertionsDisabled)) (S_HI_BYTE_SHIFT : Sta Z h0 "java/lang/StringUTF16" "HI_BYTE_SHIFT" "I" (.int s_HI_BYTE_SHIFT)) (S_LO_BYTE_SHIFT : Sta Z h0 "java/lang/StringUTF16" "LO_BYTE_SHIFT" "I" (.int s_LO_BYTE_SHIFT)) (V_a1 : Arv Z h0 a1 k_a1 .char (3 : Int32) [(.int x_a1_0), (.int x_a1_1), (.int x_a1_2)] (.int (0 : Int32))) :
    MetFree l (⟨"java/lang/StringUTF16", "toBytes", "([CII)[B"⟩ : MethodName) (head1 (Jvm.Cond.code (⟨"java/lang/StringUTF16", "toBytes", "([CII)[B"⟩ : MethodName) jdk_52_method_14_code 5 (some (.array .byte)) :: ws) ({ frames := 2, cells := 1, slots := 6, locals := 24 } : Room)) (fun a U => a = #[(.ref a1), (.int (0 : Int32)), (.int (3 : Int32))] ∧ Z.Warmed39 U.vm ∧ U.heap = h0) (fun _ _ _ _ _ => True) (fun _ U o U' => ∃ v L, o = .returned v ∧ Q_rm10_3 Z a1 s__assertionsDisabled s_HI_BYTE_SHIFT s_LO_BYTE_SHIFT k_a1 x_a1_0 x_a1_1 x_a1_2 h0 n0 v U'.heap L ∧ FrameEnd U o U' L ({ frames := 2, cells := 1, slots := 6, locals := 24 } : Room).cells ({ frames := 2, cells := 1, slots := 6, locals := 24 } : Room).slots) := by
  have hi : ∀ (i : Nat) {d : Jvm.Cond}, tables_1[i]? = some d → d.before a0 Z = true := fun i d h => hw d (List.mem_of_getElem? h)
  refine MetFree.of_bodySF (plainFor_of_name pn_10) hisR ?_
  intro p e s m args below meth c s₁ Bd hml0 hP hK
  obtain ⟨rfl, hZ, hh⟩ := hP
  have hx := Bd.exec
  have hby := Bd.bytes
  have hml : c.maxLocals = 5 := hml0
  have hown : s.vm.findClass "java/lang/StringUTF16" = some m.cls := findClass_of_methodNamed Bd.named
  have hnm := (name_of_methodNamed Bd.named Bd.method).1
  have X0 : Stand p l e ({ frames := 2, cells := 1, slots := 6, locals := 24 } : Room) s m #[(.ref a1), (.int (0 : Int32)), (.int (3 : Int32))] below meth c s₁ [] 0 0 := Stand.of_body Bd
  have e0 : s₁.heap = h0 := by rw [← hh, Bd.state]; rfl
  have N0 := Fr.nil n0
  have pre0 : ∀ t, Steps p.tables e below (s₁.setTop (mkF m 0 #[vA a1, vI (0 : Int32), vI (3 : Int32), vU, vU] [])) t → Steps p.tables e below (s₁.setTop (entryFrame m #[(.ref a1), (.int (0 : Int32)), (.int (3 : Int32))] 5)) t := fun t k => castTop (ef_10 m a1 (0 : Int32) (3 : Int32)) k
  obtain ⟨_, _, ⟨T2, L2, k2, n2⟩, -, X2, ⟨Lc2, hQ2, l2, y2, z2⟩, st2⟩ := Jvm.LawKit.callS X0 hx (y := (⟨"java/lang/StringUTF16", "newBytesFor", "(I)[B"⟩ : MethodName)) hown (mvT hZ (hi 56 rfl)) (mvT hZ (hi 57 rfl)) (mvT hZ (hi 45 rfl)) (mvT hZ (hi 58 rfl)) (by decide) (backOf (W := 0) (rm11_3 l Z a0 hw []  h0 n0 Z0 ) hZ (hi 58 rfl) (hi 45 rfl) (by decide) (by decide)) (g := (mkF m 1 #[vA a1, vI (0 : Int32), vI (3 : Int32), vU, vU] [(.int (3 : Int32))])) rfl (by rw [hml]; rfl) (argsL := [(.int (3 : Int32))]) (rest := []) (lenOf pd__28I_29_5bB rfl) rfl (by show 2 * 0 + _ ≤ _; exact Nat.le_of_eq rfl) (hb hby d10_1) (fun _ _ => ⟨rfl, e0, (by decide : 0 + 1 ≤ _), (by decide : 0 + 6 ≤ _)⟩)
  dsimp only [Pt.U, Pt.locs, Pt.cells, Pt.slots] at X2 l2 y2 z2 st2 hQ2
  subst l2 y2 z2
  obtain ⟨b2_2, ⟨k2_2, ⟨rfl, N2q, K2, i2_0, i2_1⟩⟩⟩ := hQ2
  have N2 := Fr.app N0 N2q
  have sz_b2_2 : h0.size ≤ b2_2 := Nat.le_trans (Nat.le_refl h0.size) i2_0
  have g_b2_2 : n0 ≤ b2_2 := Nat.le_trans Z0 sz_b2_2
  have f0 := (V_a1.keep K2 own_n0)
  obtain ⟨cl_a1_1, Ar_a1_1, q_a1_1, Sz_a1_1, Ng_a1_1, Ha_a1_1, Gt_a1_1⟩ := id f0
  have hin_a1_1 : ¬ ((0 : Int32) < 0 ∨ cl_a1_1.slots.size ≤ ((0 : Int32)).toNatClampNeg) := inb_of Sz_a1_1 ⟨by decide, by decide⟩
  have hat_a1_1 : cl_a1_1.slots[((0 : Int32)).toNatClampNeg]? = some (.int x_a1_0) := (Ha_a1_1 _ (Nat.lt_of_not_le fun q => hin_a1_1 (Or.inr q))).trans (congrArg some (rfl : (([(.int x_a1_0), (.int x_a1_1), (.int x_a1_2)] : List Value)).getD ((0 : Int32)).toNatClampNeg (.int (0 : Int32)) = (.int x_a1_0)))
  have f2 := (own_sta_keep S__assertionsDisabled K2 own_q0)
  have f3 := (own_sta_keep S_HI_BYTE_SHIFT K2 own_q0)
  have f4 := (own_sta_keep S_LO_BYTE_SHIFT K2 own_q0)
  obtain ⟨_, _, ⟨T3, L3, k3, n3⟩, -, X3, ⟨Lc3, hQ3, l3, y3, z3⟩, st3⟩ := Jvm.LawKit.callS X2 hx (y := (⟨"java/lang/StringUTF16", "putChar", "([BII)V"⟩ : MethodName)) hown (mvT hZ (hi 63 rfl)) (mvT hZ (hi 64 rfl)) (mvT hZ (hi 45 rfl)) (mvT hZ (hi 65 rfl)) (by decide) (backOf (W := 0) (rm13_3_0 l Z a0 hw [] b2_2 x_a1_0 s__assertionsDisabled s_HI_BYTE_SHIFT s_LO_BYTE_SHIFT k2_2 (0 : Int32) (0 : Int32) (0 : Int32) (0 : Int32) (0 : Int32) (0 : Int32) T2.heap n0 (Nat.le_trans Z0 K2.1) hasd f2 f3 g_b2_2 f4 i2_1) hZ (hi 65 rfl) (hi 45 rfl) (by decide) (by decide)) (g := (mkF m 20 #[vA a1, vI (0 : Int32), vI (3 : Int32), vA b2_2, vI (0 : Int32)] [(.int x_a1_0), (.int (0 : Int32)), (.ref b2_2)])) rfl (by rw [hml]; rfl) (argsL := [(.ref b2_2), (.int (0 : Int32)), (.int x_a1_0)]) (rest := []) (lenOf pd__28_5bBII_29V rfl) rfl (by show 2 * 0 + _ ≤ _; exact Nat.le_of_eq rfl) (hb hby d10_20) (fun _ _ => ⟨rfl, rfl, (by decide : 1 + 0 ≤ _), (by decide : 6 + 0 ≤ _)⟩)
  dsimp only [Pt.U, Pt.locs, Pt.cells, Pt.slots] at X3 l3 y3 z3 st3 hQ3
  subst l3 y3 z3
  obtain ⟨rfl, N3q, K3, i3_0⟩ := hQ3
  have N3 := Fr.app N2 N3q
  have f5 := (f0.keep K3 (own_nm (Nat.ne_of_lt (Nat.lt_of_lt_of_le V_a1.lt i2_0)) own_n0))
  obtain ⟨cl_a1_6, Ar_a1_6, q_a1_6, Sz_a1_6, Ng_a1_6, Ha_a1_6, Gt_a1_6⟩ := id f5
  have hin_a1_6 : ¬ ((1 : Int32) < 0 ∨ cl_a1_6.slots.size ≤ ((1 : Int32)).toNatClampNeg) := inb_of Sz_a1_6 ⟨by decide, by decide⟩
  have hat_a1_6 : cl_a1_6.slots[((1 : Int32)).toNatClampNeg]? = some (.int x_a1_1) := (Ha_a1_6 _ (Nat.lt_of_not_le fun q => hin_a1_6 (Or.inr q))).trans (congrArg some (rfl : (([(.int x_a1_0), (.int x_a1_1), (.int x_a1_2)] : List Value)).getD ((1 : Int32)).toNatClampNeg (.int (0 : Int32)) = (.int x_a1_1)))
  have f7 := (own_sta_keep f2 K3 (own_qc (own_nstV i2_1) own_q0))
  have f8 := (own_sta_keep f3 K3 (own_qc (own_nstV i2_1) own_q0))
  have f9 := (own_sta_keep f4 K3 (own_qc (own_nstV i2_1) own_q0))
  obtain ⟨_, _, ⟨T4, L4, k4, n4⟩, -, X4, ⟨Lc4, hQ4, l4, y4, z4⟩, st4⟩ := Jvm.LawKit.callS X3 hx (y := (⟨"java/lang/StringUTF16", "putChar", "([BII)V"⟩ : MethodName)) hown (mvT hZ (hi 63 rfl)) (mvT hZ (hi 64 rfl)) (mvT hZ (hi 45 rfl)) (mvT hZ (hi 65 rfl)) (by decide) (backOf (W := 0) (rm13_3_1 l Z a0 hw [] b2_2 x_a1_1 s__assertionsDisabled s_HI_BYTE_SHIFT s_LO_BYTE_SHIFT k2_2 (nar .byte ((x_a1_0 >>> (s_HI_BYTE_SHIFT &&& 31)).toInt8.toInt32)) (nar .byte ((x_a1_0 >>> (s_LO_BYTE_SHIFT &&& 31)).toInt8.toInt32)) (0 : Int32) (0 : Int32) (0 : Int32) (0 : Int32) T3.heap n0 (Nat.le_trans (Nat.le_trans Z0 K2.1) K3.1) hasd f7 f8 g_b2_2 f9 i3_0) hZ (hi 65 rfl) (hi 45 rfl) (by decide) (by decide)) (g := (mkF m 20 #[vA a1, vI (1 : Int32), vI (3 : Int32), vA b2_2, vI (1 : Int32)] [(.int x_a1_1), (.int (1 : Int32)), (.ref b2_2)])) rfl (by rw [hml]; rfl) (argsL := [(.ref b2_2), (.int (1 : Int32)), (.int x_a1_1)]) (rest := []) (lenOf pd__28_5bBII_29V rfl) rfl (by show 2 * 0 + _ ≤ _; exact Nat.le_of_eq rfl) (hb hby d10_20) (fun _ _ => ⟨rfl, rfl, (by decide : 1 + 0 ≤ _), (by decide : 6 + 0 ≤ _)⟩)
  dsimp only [Pt.U, Pt.locs, Pt.cells, Pt.slots] at X4 l4 y4 z4 st4 hQ4
  subst l4 y4 z4
  obtain ⟨rfl, N4q, K4, i4_0⟩ := hQ4
  have N4 := Fr.app N3 N4q
  have f10 := (f5.keep K4 (own_nm (Nat.ne_of_lt (Nat.lt_of_lt_of_le V_a1.lt i2_0)) own_n0))
  obtain ⟨cl_a1_11, Ar_a1_11, q_a1_11, Sz_a1_11, Ng_a1_11, Ha_a1_11, Gt_a1_11⟩ := id f10
  have hin_a1_11 : ¬ ((2 : Int32) < 0 ∨ cl_a1_11.slots.size ≤ ((2 : Int32)).toNatClampNeg) := inb_of Sz_a1_11 ⟨by decide, by decide⟩
  have hat_a1_11 : cl_a1_11.slots[((2 : Int32)).toNatClampNeg]? = some (.int x_a1_2) := (Ha_a1_11 _ (Nat.lt_of_not_le fun q => hin_a1_11 (Or.inr q))).trans (congrArg some (rfl : (([(.int x_a1_0), (.int x_a1_1), (.int x_a1_2)] : List Value)).getD ((2 : Int32)).toNatClampNeg (.int (0 : Int32)) = (.int x_a1_2)))
  have f12 := (own_sta_keep f7 K4 (own_qc (own_nstV i3_0) own_q0))
  have f13 := (own_sta_keep f8 K4 (own_qc (own_nstV i3_0) own_q0))
  have f14 := (own_sta_keep f9 K4 (own_qc (own_nstV i3_0) own_q0))
  obtain ⟨_, _, ⟨T5, L5, k5, n5⟩, -, X5, ⟨Lc5, hQ5, l5, y5, z5⟩, st5⟩ := Jvm.LawKit.callS X4 hx (y := (⟨"java/lang/StringUTF16", "putChar", "([BII)V"⟩ : MethodName)) hown (mvT hZ (hi 63 rfl)) (mvT hZ (hi 64 rfl)) (mvT hZ (hi 45 rfl)) (mvT hZ (hi 65 rfl)) (by decide) (backOf (W := 0) (rm13_3_2 l Z a0 hw [] b2_2 x_a1_2 s__assertionsDisabled s_HI_BYTE_SHIFT s_LO_BYTE_SHIFT k2_2 (nar .byte ((x_a1_0 >>> (s_HI_BYTE_SHIFT &&& 31)).toInt8.toInt32)) (nar .byte ((x_a1_0 >>> (s_LO_BYTE_SHIFT &&& 31)).toInt8.toInt32)) (nar .byte ((x_a1_1 >>> (s_HI_BYTE_SHIFT &&& 31)).toInt8.toInt32)) (nar .byte ((x_a1_1 >>> (s_LO_BYTE_SHIFT &&& 31)).toInt8.toInt32)) (0 : Int32) (0 : Int32) T4.heap n0 (Nat.le_trans (Nat.le_trans (Nat.le_trans Z0 K2.1) K3.1) K4.1) hasd f12 f13 g_b2_2 f14 i4_0) hZ (hi 65 rfl) (hi 45 rfl) (by decide) (by decide)) (g := (mkF m 20 #[vA a1, vI (2 : Int32), vI (3 : Int32), vA b2_2, vI (2 : Int32)] [(.int x_a1_2), (.int (2 : Int32)), (.ref b2_2)])) rfl (by rw [hml]; rfl) (argsL := [(.ref b2_2), (.int (2 : Int32)), (.int x_a1_2)]) (rest := []) (lenOf pd__28_5bBII_29V rfl) rfl (by show 2 * 0 + _ ≤ _; exact Nat.le_of_eq rfl) (hb hby d10_20) (fun _ _ => ⟨rfl, rfl, (by decide : 1 + 0 ≤ _), (by decide : 6 + 0 ≤ _)⟩)
  dsimp only [Pt.U, Pt.locs, Pt.cells, Pt.slots] at X5 l5 y5 z5 st5 hQ5
  subst l5 y5 z5
  obtain ⟨rfl, N5q, K5, i5_0⟩ := hQ5
  have N5 := Fr.app N4 N5q
  obtain ⟨fs, hr, hrun, hended, hW, hsame⟩ := X5.leave (v := some (.ref b2_2)) (fun h => by rw [Bd.returns] at h; cases h)
  refine ⟨_, _, pre0 _ ?_, hrun, hended, _, _, rfl, ?_, ⟨_, rfl⟩, hW, hsame.mono (by decide) (by decide)⟩
  · show Steps p.tables e below (s₁.setTop (mkF m 0 #[vA a1, vI (0 : Int32), vI (3 : Int32), vU, vU] [])) _
    refine XS.iloadN X0.here hx rfl (hb hby d10_0) rfl ?_
    show Steps p.tables e below (s₁.setTop (mkF m 1 #[vA a1, vI (0 : Int32), vI (3 : Int32), vU, vU] [(.int (3 : Int32))])) _
    refine st2 _ ?_
    refine XS.astoreN X2.here hx rfl (hb hby d10_4) rfl rfl (l' := #[vA a1, vI (0 : Int32), vI (3 : Int32), vA b2_2, vU]) rfl ?_
    refine XS.iconst X2.here hx rfl (hb hby d10_5) ?_
    refine XS.istore X2.here hx rfl (hb hby d10_6) rfl (l' := #[vA a1, vI (0 : Int32), vI (3 : Int32), vA b2_2, vI (0 : Int32)]) rfl ?_
    refine XS.iload X2.here hx rfl (hb hby d10_8) rfl ?_
    refine XS.iloadN X2.here hx rfl (hb hby d10_10) rfl ?_
    show Steps p.tables e below (T2.setTop (mkF m 11 #[vA a1, vI (0 : Int32), vI (3 : Int32), vA b2_2, vI (0 : Int32)] [(.int (3 : Int32)), (.int (0 : Int32))])) _
    refine XS.icmpNo X2.here hx rfl (hb hby d10_11) rfl (tlt (by decide : (0 : Int32) < (3 : Int32))).2.1 ?_
    refine XS.aloadN X2.here hx rfl (hb hby d10_14) rfl rfl ?_
    refine XS.iload X2.here hx rfl (hb hby d10_15) rfl ?_
    refine XS.aloadN X2.here hx rfl (hb hby d10_17) rfl rfl ?_
    refine XS.iloadN X2.here hx rfl (hb hby d10_18) rfl ?_
    show Steps p.tables e below (T2.setTop (mkF m 19 #[vA a1, vI (0 : Int32), vI (3 : Int32), vA b2_2, vI (0 : Int32)] [(.int (0 : Int32)), (.ref a1), (.int (0 : Int32)), (.ref b2_2)])) _
    refine X2.caload hx (j := (0 : Int32)) (v := (.int x_a1_0)) (by exact Ar_a1_1.1) (State.isArrayOf_alike hZ.alike Ar_a1_1.2.1) Ar_a1_1.2.2 hin_a1_1 hat_a1_1 (g := (mkF m 19 #[vA a1, vI (0 : Int32), vI (3 : Int32), vA b2_2, vI (0 : Int32)] [(.int (0 : Int32)), (.ref a1), (.int (0 : Int32)), (.ref b2_2)])) rfl rfl (hb hby d10_19) _ ?_
    show Steps p.tables e below (T2.setTop (mkF m 20 #[vA a1, vI (0 : Int32), vI (3 : Int32), vA b2_2, vI (0 : Int32)] [(.int x_a1_0), (.int (0 : Int32)), (.ref b2_2)])) _
    refine st3 _ ?_
    refine XS.iinc X3.here hx rfl (hb hby d10_23) rfl (l' := #[vA a1, vI (1 : Int32), vI (3 : Int32), vA b2_2, vI (0 : Int32)]) rfl ?_
    refine XS.iinc X3.here hx rfl (hb hby d10_26) rfl (l' := #[vA a1, vI (1 : Int32), vI (3 : Int32), vA b2_2, vI (1 : Int32)]) rfl ?_
    show Steps p.tables e below (T3.setTop (mkF m 29 #[vA a1, vI (1 : Int32), vI (3 : Int32), vA b2_2, vI (1 : Int32)] [])) _
    refine XS.goto X3.here hx rfl (pc0 := 29) (pc' := 8) rfl (hb hby d10_29) (by decide) (by decide) ?_
    refine XS.iload X3.here hx rfl (hb hby d10_8) rfl ?_
    refine XS.iloadN X3.here hx rfl (hb hby d10_10) rfl ?_
    show Steps p.tables e below (T3.setTop (mkF m 11 #[vA a1, vI (1 : Int32), vI (3 : Int32), vA b2_2, vI (1 : Int32)] [(.int (3 : Int32)), (.int (1 : Int32))])) _
    refine XS.icmpNo X3.here hx rfl (hb hby d10_11) rfl (tlt (by decide : (1 : Int32) < (3 : Int32))).2.1 ?_
    refine XS.aloadN X3.here hx rfl (hb hby d10_14) rfl rfl ?_
    refine XS.iload X3.here hx rfl (hb hby d10_15) rfl ?_
    refine XS.aloadN X3.here hx rfl (hb hby d10_17) rfl rfl ?_
    refine XS.iloadN X3.here hx rfl (hb hby d10_18) rfl ?_
    show Steps p.tables e below (T3.setTop (mkF m 19 #[vA a1, vI (1 : Int32), vI (3 : Int32), vA b2_2, vI (1 : Int32)] [(.int (1 : Int32)), (.ref a1), (.int (1 : Int32)), (.ref b2_2)])) _
    refine X3.caload hx (j := (1 : Int32)) (v := (.int x_a1_1)) (by exact Ar_a1_6.1) (State.isArrayOf_alike hZ.alike Ar_a1_6.2.1) Ar_a1_6.2.2 hin_a1_6 hat_a1_6 (g := (mkF m 19 #[vA a1, vI (1 : Int32), vI (3 : Int32), vA b2_2, vI (1 : Int32)] [(.int (1 : Int32)), (.ref a1), (.int (1 : Int32)), (.ref b2_2)])) rfl rfl (hb hby d10_19) _ ?_
    show Steps p.tables e below (T3.setTop (mkF m 20 #[vA a1, vI (1 : Int32), vI (3 : Int32), vA b2_2, vI (1 : Int32)] [(.int x_a1_1), (.int (1 : Int32)), (.ref b2_2)])) _
    refine st4 _ ?_
    refine XS.iinc X4.here hx rfl (hb hby d10_23) rfl (l' := #[vA a1, vI (2 : Int32), vI (3 : Int32), vA b2_2, vI (1 : Int32)]) rfl ?_
    refine XS.iinc X4.here hx rfl (hb hby d10_26) rfl (l' := #[vA a1, vI (2 : Int32), vI (3 : Int32), vA b2_2, vI (2 : Int32)]) rfl ?_
    show Steps p.tables e below (T4.setTop (mkF m 29 #[vA a1, vI (2 : Int32), vI (3 : Int32), vA b2_2, vI (2 : Int32)] [])) _
    refine XS.goto X4.here hx rfl (pc0 := 29) (pc' := 8) rfl (hb hby d10_29) (by decide) (by decide) ?_
    refine XS.iload X4.here hx rfl (hb hby d10_8) rfl ?_
    refine XS.iloadN X4.here hx rfl (hb hby d10_10) rfl ?_
    show Steps p.tables e below (T4.setTop (mkF m 11 #[vA a1, vI (2 : Int32), vI (3 : Int32), vA b2_2, vI (2 : Int32)] [(.int (3 : Int32)), (.int (2 : Int32))])) _
    refine XS.icmpNo X4.here hx rfl (hb hby d10_11) rfl (tlt (by decide : (2 : Int32) < (3 : Int32))).2.1 ?_
    refine XS.aloadN X4.here hx rfl (hb hby d10_14) rfl rfl ?_
    refine XS.iload X4.here hx rfl (hb hby d10_15) rfl ?_
    refine XS.aloadN X4.here hx rfl (hb hby d10_17) rfl rfl ?_
    refine XS.iloadN X4.here hx rfl (hb hby d10_18) rfl ?_
    show Steps p.tables e below (T4.setTop (mkF m 19 #[vA a1, vI (2 : Int32), vI (3 : Int32), vA b2_2, vI (2 : Int32)] [(.int (2 : Int32)), (.ref a1), (.int (2 : Int32)), (.ref b2_2)])) _
    refine X4.caload hx (j := (2 : Int32)) (v := (.int x_a1_2)) (by exact Ar_a1_11.1) (State.isArrayOf_alike hZ.alike Ar_a1_11.2.1) Ar_a1_11.2.2 hin_a1_11 hat_a1_11 (g := (mkF m 19 #[vA a1, vI (2 : Int32), vI (3 : Int32), vA b2_2, vI (2 : Int32)] [(.int (2 : Int32)), (.ref a1), (.int (2 : Int32)), (.ref b2_2)])) rfl rfl (hb hby d10_19) _ ?_
    show Steps p.tables e below (T4.setTop (mkF m 20 #[vA a1, vI (2 : Int32), vI (3 : Int32), vA b2_2, vI (2 : Int32)] [(.int x_a1_2), (.int (2 : Int32)), (.ref b2_2)])) _
    refine st5 _ ?_
    refine XS.iinc X5.here hx rfl (hb hby d10_23) rfl (l' := #[vA a1, vI (3 : Int32), vI (3 : Int32), vA b2_2, vI (2 : Int32)]) rfl ?_
    refine XS.iinc X5.here hx rfl (hb hby d10_26) rfl (l' := #[vA a1, vI (3 : Int32), vI (3 : Int32), vA b2_2, vI (3 : Int32)]) rfl ?_
    show Steps p.tables e below (T5.setTop (mkF m 29 #[vA a1, vI (3 : Int32), vI (3 : Int32), vA b2_2, vI (3 : Int32)] [])) _
    refine XS.goto X5.here hx rfl (pc0 := 29) (pc' := 8) rfl (hb hby d10_29) (by decide) (by decide) ?_
    refine XS.iload X5.here hx rfl (hb hby d10_8) rfl ?_
    refine XS.iloadN X5.here hx rfl (hb hby d10_10) rfl ?_
    show Steps p.tables e below (T5.setTop (mkF m 11 #[vA a1, vI (3 : Int32), vI (3 : Int32), vA b2_2, vI (3 : Int32)] [(.int (3 : Int32)), (.int (3 : Int32))])) _
    refine XS.icmpYes X5.here hx rfl (pc0 := 11) (pc' := 32) rfl (hb hby d10_11) rfl (flt (fun q => Int32.lt_irrefl q : ¬ ((3 : Int32) < (3 : Int32)))).2.1 (by decide) (by decide) ?_
    refine XS.aloadN X5.here hx rfl (hb hby d10_32) rfl rfl ?_
    show Steps p.tables e below (T5.setTop (mkF m 33 #[vA a1, vI (3 : Int32), vI (3 : Int32), vA b2_2, vI (3 : Int32)] [(.ref b2_2)])) _
    jvm_step X5.here [X5.here.top, hx, (hb hby d10_33), X5.method', Bd.returns, Value.isRef, FieldType.isReference]
    first | (intro acts; rw [hr _ acts rfl rfl rfl]) | rw [hr _ _ rfl rfl rfl]
    exact Steps.refl _
  · show Q_rm10_3 Z a1 s__assertionsDisabled s_HI_BYTE_SHIFT s_LO_BYTE_SHIFT k_a1 x_a1_0 x_a1_1 x_a1_2 h0 n0 _ T5.heap _
    exact ⟨b2_2, ⟨k2_2, ⟨rfl, N5, (((((Keep.refl h0 []).trans K2 (fun _ q => nomatch q)).trans K3 (fun x q => (List.mem_cons.mp q).elim (fun r => r ▸ (Or.inr sz_b2_2)) ((fun _ q => nomatch q) x))).trans K4 (fun x q => (List.mem_cons.mp q).elim (fun r => r ▸ (Or.inr sz_b2_2)) ((fun _ q => nomatch q) x))).trans K5 (fun x q => (List.mem_cons.mp q).elim (fun r => r ▸ (Or.inr sz_b2_2)) ((fun _ q => nomatch q) x))), sz_b2_2, i5_0⟩⟩⟩
def Q_rm8_3_0 (Z : State) (a1 : Addr) (a2 : Addr) (k_a1 : ClassId) (x_a1_0 : Int32) (x_a1_1 : Int32) (x_a1_2 : Int32) (k_a2 : ClassId) (x_a2_0 : Int32) (x_a2_1 : Int32) (x_a2_2 : Int32) (h0 : Heap) (n0 : Nat) (v : Option Value) (h : Heap) (L : List Loc) : Prop := v = some (.int (0 : Int32)) ∧ Fr n0 L ∧ h = h0
set_option maxRecDepth 65536 in
set_option maxHeartbeats 40000000 in
theorem rm8_3_0 (l : Launch) (Z : State) (a0 : Array Value) (hw : ∀ d ∈ tables_1, d.before a0 Z = true) (ws : List Jvm.Cond) (a1 : Addr) (a2 : Addr) (k_a1 : ClassId) (x_a1_0 : Int32) (x_a1_1 : Int32) (x_a1_2 : Int32) (k_a2 : ClassId) (x_a2_0 : Int32) (x_a2_1 : Int32) (x_a2_2 : Int32) (h0 : Heap) (n0 : Nat) (Z0 : n0 ≤ h0.size) (V_a1 : Arv Z h0 a1 k_a1 .char (3 : Int32) [(.int x_a1_0), (.int x_a1_1), (.int x_a1_2)] (.int (0 : Int32))) (V_a2 : Arv Z h0 a2 k_a2 .byte (3 : Int32) [(.int x_a2_0), (.int x_a2_1), (.int x_a2_2)] (.int (0 : Int32))) (hc20 : (255 : Int32) < x_a1_0) :
    MetFree l (⟨"java/lang/StringUTF16", "compress", "([CI[BII)I"⟩ : MethodName) (head1 (Jvm.Cond.code (⟨"java/lang/StringUTF16", "compress", "([CI[BII)I"⟩ : MethodName) jdk_52_method_21_code 7 (some .int) :: ws) ({ frames := 0, cells := 0, slots := 0, locals := 0 } : Room)) (fun a U => a = #[(.ref a1), (.int (0 : Int32)), (.ref a2), (.int (0 : Int32)), (.int (3 : Int32))] ∧ Z.Warmed39 U.vm ∧ U.heap = h0) (fun _ _ _ _ _ => True) (fun _ U o U' => ∃ v L, o = .returned v ∧ Q_rm8_3_0 Z a1 a2 k_a1 x_a1_0 x_a1_1 x_a1_2 k_a2 x_a2_0 x_a2_1 x_a2_2 h0 n0 v U'.heap L ∧ FrameEnd U o U' L ({ frames := 0, cells := 0, slots := 0, locals := 0 } : Room).cells ({ frames := 0, cells := 0, slots := 0, locals := 0 } : Room).slots) := by
  have hi : ∀ (i : Nat) {d : Jvm.Cond}, tables_1[i]? = some d → d.before a0 Z = true := fun i d h => hw d (List.mem_of_getElem? h)
  refine MetFree.of_bodySF (plainFor_of_name pn_8) hisR ?_
  intro p e s m args below meth c s₁ Bd hml0 hP hK
  obtain ⟨rfl, hZ, hh⟩ := hP
  have hx := Bd.exec
  have hby := Bd.bytes
  have hml : c.maxLocals = 7 := hml0
  have hown : s.vm.findClass "java/lang/StringUTF16" = some m.cls := findClass_of_methodNamed Bd.named
  have hnm := (name_of_methodNamed Bd.named Bd.method).1
  have X0 : Stand p l e ({ frames := 0, cells := 0, slots := 0, locals := 0 } : Room) s m #[(.ref a1), (.int (0 : Int32)), (.ref a2), (.int (0 : Int32)), (.int (3 : Int32))] below meth c s₁ [] 0 0 := Stand.of_body Bd
  have e0 : s₁.heap = h0 := by rw [← hh, Bd.state]; rfl
  have N0 := Fr.nil n0
  have pre0 : ∀ t, Steps p.tables e below (s₁.setTop (mkF m 0 #[vA a1, vI (0 : Int32), vA a2, vI (0 : Int32), vI (3 : Int32), vU, vU] [])) t → Steps p.tables e below (s₁.setTop (entryFrame m #[(.ref a1), (.int (0 : Int32)), (.ref a2), (.int (0 : Int32)), (.int (3 : Int32))] 7)) t := fun t k => castTop (ef_8 m a1 (0 : Int32) a2 (0 : Int32) (3 : Int32)) k
  obtain ⟨cl_a1_0, Ar_a1_0, q_a1_0, Sz_a1_0, Ng_a1_0, Ha_a1_0, Gt_a1_0⟩ := id V_a1
  have hin_a1_0 : ¬ ((0 : Int32) < 0 ∨ cl_a1_0.slots.size ≤ ((0 : Int32)).toNatClampNeg) := inb_of Sz_a1_0 ⟨by decide, by decide⟩
  have hat_a1_0 : cl_a1_0.slots[((0 : Int32)).toNatClampNeg]? = some (.int x_a1_0) := (Ha_a1_0 _ (Nat.lt_of_not_le fun q => hin_a1_0 (Or.inr q))).trans (congrArg some (rfl : (([(.int x_a1_0), (.int x_a1_1), (.int x_a1_2)] : List Value)).getD ((0 : Int32)).toNatClampNeg (.int (0 : Int32)) = (.int x_a1_0)))
  obtain ⟨fs, hr, hrun, hended, hW, hsame⟩ := X0.leave (v := some (.int (0 : Int32))) (fun h => by rw [Bd.returns] at h; cases h)
  refine ⟨_, _, pre0 _ ?_, hrun, hended, _, _, rfl, ?_, ⟨_, rfl⟩, hW, hsame.mono (by decide) (by decide)⟩
  · show Steps p.tables e below (s₁.setTop (mkF m 0 #[vA a1, vI (0 : Int32), vA a2, vI (0 : Int32), vI (3 : Int32), vU, vU] [])) _
    refine XS.iconst X0.here hx rfl (hb hby d8_0) ?_
    refine XS.istore X0.here hx rfl (hb hby d8_1) rfl (l' := #[vA a1, vI (0 : Int32), vA a2, vI (0 : Int32), vI (3 : Int32), vI (0 : Int32), vU]) rfl ?_
    refine XS.iload X0.here hx rfl (hb hby d8_3) rfl ?_
    refine XS.iload X0.here hx rfl (hb hby d8_5) rfl ?_
    show Steps p.tables e below (s₁.setTop (mkF m 7 #[vA a1, vI (0 : Int32), vA a2, vI (0 : Int32), vI (3 : Int32), vI (0 : Int32), vU] [(.int (3 : Int32)), (.int (0 : Int32))])) _
    refine XS.icmpNo X0.here hx rfl (hb hby d8_7) rfl (tlt (by decide : (0 : Int32) < (3 : Int32))).2.1 ?_
    refine XS.aloadN X0.here hx rfl (hb hby d8_10) rfl rfl ?_
    refine XS.iloadN X0.here hx rfl (hb hby d8_11) rfl ?_
    show Steps p.tables e below (s₁.setTop (mkF m 12 #[vA a1, vI (0 : Int32), vA a2, vI (0 : Int32), vI (3 : Int32), vI (0 : Int32), vU] [(.int (0 : Int32)), (.ref a1)])) _
    refine X0.caload hx (j := (0 : Int32)) (v := (.int x_a1_0)) (by rw [e0]; exact Ar_a1_0.1) (State.isArrayOf_alike hZ.alike Ar_a1_0.2.1) Ar_a1_0.2.2 hin_a1_0 hat_a1_0 (g := (mkF m 12 #[vA a1, vI (0 : Int32), vA a2, vI (0 : Int32), vI (3 : Int32), vI (0 : Int32), vU] [(.int (0 : Int32)), (.ref a1)])) rfl rfl (hb hby d8_12) _ ?_
    refine XS.istore X0.here hx rfl (hb hby d8_13) rfl (l' := #[vA a1, vI (0 : Int32), vA a2, vI (0 : Int32), vI (3 : Int32), vI (0 : Int32), vI x_a1_0]) rfl ?_
    refine XS.iload X0.here hx rfl (hb hby d8_15) rfl ?_
    refine XS.sipush X0.here hx rfl (hb hby d8_17) ?_
    show Steps p.tables e below (s₁.setTop (mkF m 20 #[vA a1, vI (0 : Int32), vA a2, vI (0 : Int32), vI (3 : Int32), vI (0 : Int32), vI x_a1_0] [(.int (255 : Int32)), (.int x_a1_0)])) _
    refine XS.icmpNo X0.here hx rfl (hb hby d8_20) rfl (tlt hc20).2.2.2 ?_
    refine XS.iload X0.here hx rfl (hb hby d8_23) rfl ?_
    show Steps p.tables e below (s₁.setTop (mkF m 25 #[vA a1, vI (0 : Int32), vA a2, vI (0 : Int32), vI (3 : Int32), vI (0 : Int32), vI x_a1_0] [(.int (0 : Int32))])) _
    exact retI X0 hx Bd.returns (hb hby d8_25) hr
  · show Q_rm8_3_0 Z a1 a2 k_a1 x_a1_0 x_a1_1 x_a1_2 k_a2 x_a2_0 x_a2_1 x_a2_2 h0 n0 _ s₁.heap _
    exact ⟨rfl, N0, e0⟩
def Q_rm8_3_1 (Z : State) (a1 : Addr) (a2 : Addr) (k_a1 : ClassId) (x_a1_0 : Int32) (x_a1_1 : Int32) (x_a1_2 : Int32) (k_a2 : ClassId) (x_a2_0 : Int32) (x_a2_1 : Int32) (x_a2_2 : Int32) (h0 : Heap) (n0 : Nat) (v : Option Value) (h : Heap) (L : List Loc) : Prop := v = some (.int (1 : Int32)) ∧ Fr n0 L ∧ Keep h0 h [a2] ∧ Arv Z h a2 k_a2 .byte (3 : Int32) [(.int (nar .byte (x_a1_0.toInt8.toInt32))), (.int x_a2_1), (.int x_a2_2)] (.int (0 : Int32))
set_option maxRecDepth 65536 in
set_option maxHeartbeats 40000000 in
theorem rm8_3_1 (l : Launch) (Z : State) (a0 : Array Value) (hw : ∀ d ∈ tables_1, d.before a0 Z = true) (ws : List Jvm.Cond) (a1 : Addr) (a2 : Addr) (k_a1 : ClassId) (x_a1_0 : Int32) (x_a1_1 : Int32) (x_a1_2 : Int32) (k_a2 : ClassId) (x_a2_0 : Int32) (x_a2_1 : Int32) (x_a2_2 : Int32) (h0 : Heap) (n0 : Nat) (Z0 : n0 ≤ h0.size) (g_a2 : n0 ≤ a2) (V_a1 : Arv Z h0 a1 k_a1 .char (3 : Int32) [(.int x_a1_0), (.int x_a1_1), (.int x_a1_2)] (.int (0 : Int32))) (V_a2 : Arv Z h0 a2 k_a2 .byte (3 : Int32) [(.int x_a2_0), (.int x_a2_1), (.int x_a2_2)] (.int (0 : Int32))) (hc20 : ¬ ((255 : Int32) < x_a1_0)) (ne_a1_a2 : a1 ≠ a2) (hc20' : (255 : Int32) < x_a1_1) :
    MetFree l (⟨"java/lang/StringUTF16", "compress", "([CI[BII)I"⟩ : MethodName) (head1 (Jvm.Cond.code (⟨"java/lang/StringUTF16", "compress", "([CI[BII)I"⟩ : MethodName) jdk_52_method_21_code 7 (some .int) :: ws) ({ frames := 0, cells := 0, slots := 0, locals := 0 } : Room)) (fun a U => a = #[(.ref a1), (.int (0 : Int32)), (.ref a2), (.int (0 : Int32)), (.int (3 : Int32))] ∧ Z.Warmed39 U.vm ∧ U.heap = h0) (fun _ _ _ _ _ => True) (fun _ U o U' => ∃ v L, o = .returned v ∧ Q_rm8_3_1 Z a1 a2 k_a1 x_a1_0 x_a1_1 x_a1_2 k_a2 x_a2_0 x_a2_1 x_a2_2 h0 n0 v U'.heap L ∧ FrameEnd U o U' L ({ frames := 0, cells := 0, slots := 0, locals := 0 } : Room).cells ({ frames := 0, cells := 0, slots := 0, locals := 0 } : Room).slots) := by
  have hi : ∀ (i : Nat) {d : Jvm.Cond}, tables_1[i]? = some d → d.before a0 Z = true := fun i d h => hw d (List.mem_of_getElem? h)
  refine MetFree.of_bodySF (plainFor_of_name pn_8) hisR ?_
  intro p e s m args below meth c s₁ Bd hml0 hP hK
  obtain ⟨rfl, hZ, hh⟩ := hP
  have hx := Bd.exec
  have hby := Bd.bytes
  have hml : c.maxLocals = 7 := hml0
  have hown : s.vm.findClass "java/lang/StringUTF16" = some m.cls := findClass_of_methodNamed Bd.named
  have hnm := (name_of_methodNamed Bd.named Bd.method).1
  have X0 : Stand p l e ({ frames := 0, cells := 0, slots := 0, locals := 0 } : Room) s m #[(.ref a1), (.int (0 : Int32)), (.ref a2), (.int (0 : Int32)), (.int (3 : Int32))] below meth c s₁ [] 0 0 := Stand.of_body Bd
  have e0 : s₁.heap = h0 := by rw [← hh, Bd.state]; rfl
  have N0 := Fr.nil n0
  have pre0 : ∀ t, Steps p.tables e below (s₁.setTop (mkF m 0 #[vA a1, vI (0 : Int32), vA a2, vI (0 : Int32), vI (3 : Int32), vU, vU] [])) t → Steps p.tables e below (s₁.setTop (entryFrame m #[(.ref a1), (.int (0 : Int32)), (.ref a2), (.int (0 : Int32)), (.int (3 : Int32))] 7)) t := fun t k => castTop (ef_8 m a1 (0 : Int32) a2 (0 : Int32) (3 : Int32)) k
  obtain ⟨cl_a1_0, Ar_a1_0, q_a1_0, Sz_a1_0, Ng_a1_0, Ha_a1_0, Gt_a1_0⟩ := id V_a1
  have hin_a1_0 : ¬ ((0 : Int32) < 0 ∨ cl_a1_0.slots.size ≤ ((0 : Int32)).toNatClampNeg) := inb_of Sz_a1_0 ⟨by decide, by decide⟩
  have hat_a1_0 : cl_a1_0.slots[((0 : Int32)).toNatClampNeg]? = some (.int x_a1_0) := (Ha_a1_0 _ (Nat.lt_of_not_le fun q => hin_a1_0 (Or.inr q))).trans (congrArg some (rfl : (([(.int x_a1_0), (.int x_a1_1), (.int x_a1_2)] : List Value)).getD ((0 : Int32)).toNatClampNeg (.int (0 : Int32)) = (.int x_a1_0)))
  obtain ⟨cl_a2_1, Ar_a2_1, q_a2_1, Sz_a2_1, Ng_a2_1, Ha_a2_1, Gt_a2_1⟩ := id V_a2
  have hin_a2_1 : ¬ ((0 : Int32) < 0 ∨ cl_a2_1.slots.size ≤ ((0 : Int32)).toNatClampNeg) := inb_of Sz_a2_1 ⟨by decide, by decide⟩
  obtain ⟨T3, h3, X3, e3, W3, st3⟩ := stB X0 hx hZ e0 Ar_a2_1 (j := (0 : Int32)) hin_a2_1 (g := (mkF m 31 #[vA a1, vI (0 : Int32), vA a2, vI (0 : Int32), vI (3 : Int32), vI (0 : Int32), vI x_a1_0] [(.int (x_a1_0.toInt8.toInt32)), (.int (0 : Int32)), (.ref a2)])) rfl rfl (hb hby d8_31)
  have V3 : Arv Z h3 a2 k_a2 .byte (3 : Int32) [(.int (nar .byte (x_a1_0.toInt8.toInt32))), (.int x_a2_1), (.int x_a2_2)] (.int (0 : Int32)) := Arv.set Ar_a2_1 q_a2_1 Sz_a2_1 Ng_a2_1 Ha_a2_1 Gt_a2_1 (fits_nar_byte _) W3 0 rfl (Nat.le_of_ble_eq_true rfl)
  have N3 := Fr.snoc X3 N0 g_a2
  have f2 := (V_a1.other W3 ne_a1_a2)
  obtain ⟨cl_a1_3, Ar_a1_3, q_a1_3, Sz_a1_3, Ng_a1_3, Ha_a1_3, Gt_a1_3⟩ := id f2
  have hin_a1_3 : ¬ ((1 : Int32) < 0 ∨ cl_a1_3.slots.size ≤ ((1 : Int32)).toNatClampNeg) := inb_of Sz_a1_3 ⟨by decide, by decide⟩
  have hat_a1_3 : cl_a1_3.slots[((1 : Int32)).toNatClampNeg]? = some (.int x_a1_1) := (Ha_a1_3 _ (Nat.lt_of_not_le fun q => hin_a1_3 (Or.inr q))).trans (congrArg some (rfl : (([(.int x_a1_0), (.int x_a1_1), (.int x_a1_2)] : List Value)).getD ((1 : Int32)).toNatClampNeg (.int (0 : Int32)) = (.int x_a1_1)))
  obtain ⟨fs, hr, hrun, hended, hW, hsame⟩ := X3.leave (v := some (.int (1 : Int32))) (fun h => by rw [Bd.returns] at h; cases h)
  refine ⟨_, _, pre0 _ ?_, hrun, hended, _, _, rfl, ?_, ⟨_, rfl⟩, hW, hsame.mono (by decide) (by decide)⟩
  · show Steps p.tables e below (s₁.setTop (mkF m 0 #[vA a1, vI (0 : Int32), vA a2, vI (0 : Int32), vI (3 : Int32), vU, vU] [])) _
    refine XS.iconst X0.here hx rfl (hb hby d8_0) ?_
    refine XS.istore X0.here hx rfl (hb hby d8_1) rfl (l' := #[vA a1, vI (0 : Int32), vA a2, vI (0 : Int32), vI (3 : Int32), vI (0 : Int32), vU]) rfl ?_
    refine XS.iload X0.here hx rfl (hb hby d8_3) rfl ?_
    refine XS.iload X0.here hx rfl (hb hby d8_5) rfl ?_
    show Steps p.tables e below (s₁.setTop (mkF m 7 #[vA a1, vI (0 : Int32), vA a2, vI (0 : Int32), vI (3 : Int32), vI (0 : Int32), vU] [(.int (3 : Int32)), (.int (0 : Int32))])) _
    refine XS.icmpNo X0.here hx rfl (hb hby d8_7) rfl (tlt (by decide : (0 : Int32) < (3 : Int32))).2.1 ?_
    refine XS.aloadN X0.here hx rfl (hb hby d8_10) rfl rfl ?_
    refine XS.iloadN X0.here hx rfl (hb hby d8_11) rfl ?_
    show Steps p.tables e below (s₁.setTop (mkF m 12 #[vA a1, vI (0 : Int32), vA a2, vI (0 : Int32), vI (3 : Int32), vI (0 : Int32), vU] [(.int (0 : Int32)), (.ref a1)])) _
    refine X0.caload hx (j := (0 : Int32)) (v := (.int x_a1_0)) (by rw [e0]; exact Ar_a1_0.1) (State.isArrayOf_alike hZ.alike Ar_a1_0.2.1) Ar_a1_0.2.2 hin_a1_0 hat_a1_0 (g := (mkF m 12 #[vA a1, vI (0 : Int32), vA a2, vI (0 : Int32), vI (3 : Int32), vI (0 : Int32), vU] [(.int (0 : Int32)), (.ref a1)])) rfl rfl (hb hby d8_12) _ ?_
    refine XS.istore X0.here hx rfl (hb hby d8_13) rfl (l' := #[vA a1, vI (0 : Int32), vA a2, vI (0 : Int32), vI (3 : Int32), vI (0 : Int32), vI x_a1_0]) rfl ?_
    refine XS.iload X0.here hx rfl (hb hby d8_15) rfl ?_
    refine XS.sipush X0.here hx rfl (hb hby d8_17) ?_
    show Steps p.tables e below (s₁.setTop (mkF m 20 #[vA a1, vI (0 : Int32), vA a2, vI (0 : Int32), vI (3 : Int32), vI (0 : Int32), vI x_a1_0] [(.int (255 : Int32)), (.int x_a1_0)])) _
    refine XS.icmpYes X0.here hx rfl (pc0 := 20) (pc' := 26) rfl (hb hby d8_20) rfl (flt hc20).2.2.2 (by decide) (by decide) ?_
    refine XS.aloadN X0.here hx rfl (hb hby d8_26) rfl rfl ?_
    refine XS.iloadN X0.here hx rfl (hb hby d8_27) rfl ?_
    refine XS.iload X0.here hx rfl (hb hby d8_28) rfl ?_
    refine XS.i2b X0.here hx rfl (hb hby d8_30) rfl ?_
    show Steps p.tables e below (s₁.setTop (mkF m 31 #[vA a1, vI (0 : Int32), vA a2, vI (0 : Int32), vI (3 : Int32), vI (0 : Int32), vI x_a1_0] [(.int (x_a1_0.toInt8.toInt32)), (.int (0 : Int32)), (.ref a2)])) _
    refine st3 _ ?_
    refine XS.iinc X3.here hx rfl (hb hby d8_32) rfl (l' := #[vA a1, vI (1 : Int32), vA a2, vI (0 : Int32), vI (3 : Int32), vI (0 : Int32), vI x_a1_0]) rfl ?_
    refine XS.iinc X3.here hx rfl (hb hby d8_35) rfl (l' := #[vA a1, vI (1 : Int32), vA a2, vI (1 : Int32), vI (3 : Int32), vI (0 : Int32), vI x_a1_0]) rfl ?_
    refine XS.iinc X3.here hx rfl (hb hby d8_38) rfl (l' := #[vA a1, vI (1 : Int32), vA a2, vI (1 : Int32), vI (3 : Int32), vI (1 : Int32), vI x_a1_0]) rfl ?_
    show Steps p.tables e below (T3.setTop (mkF m 41 #[vA a1, vI (1 : Int32), vA a2, vI (1 : Int32), vI (3 : Int32), vI (1 : Int32), vI x_a1_0] [])) _
    refine XS.goto X3.here hx rfl (pc0 := 41) (pc' := 3) rfl (hb hby d8_41) (by decide) (by decide) ?_
    refine XS.iload X3.here hx rfl (hb hby d8_3) rfl ?_
    refine XS.iload X3.here hx rfl (hb hby d8_5) rfl ?_
    show Steps p.tables e below (T3.setTop (mkF m 7 #[vA a1, vI (1 : Int32), vA a2, vI (1 : Int32), vI (3 : Int32), vI (1 : Int32), vI x_a1_0] [(.int (3 : Int32)), (.int (1 : Int32))])) _
    refine XS.icmpNo X3.here hx rfl (hb hby d8_7) rfl (tlt (by decide : (1 : Int32) < (3 : Int32))).2.1 ?_
    refine XS.aloadN X3.here hx rfl (hb hby d8_10) rfl rfl ?_
    refine XS.iloadN X3.here hx rfl (hb hby d8_11) rfl ?_
    show Steps p.tables e below (T3.setTop (mkF m 12 #[vA a1, vI (1 : Int32), vA a2, vI (1 : Int32), vI (3 : Int32), vI (1 : Int32), vI x_a1_0] [(.int (1 : Int32)), (.ref a1)])) _
    refine X3.caload hx (j := (1 : Int32)) (v := (.int x_a1_1)) (by rw [e3]; exact Ar_a1_3.1) (State.isArrayOf_alike hZ.alike Ar_a1_3.2.1) Ar_a1_3.2.2 hin_a1_3 hat_a1_3 (g := (mkF m 12 #[vA a1, vI (1 : Int32), vA a2, vI (1 : Int32), vI (3 : Int32), vI (1 : Int32), vI x_a1_0] [(.int (1 : Int32)), (.ref a1)])) rfl rfl (hb hby d8_12) _ ?_
    refine XS.istore X3.here hx rfl (hb hby d8_13) rfl (l' := #[vA a1, vI (1 : Int32), vA a2, vI (1 : Int32), vI (3 : Int32), vI (1 : Int32), vI x_a1_1]) rfl ?_
    refine XS.iload X3.here hx rfl (hb hby d8_15) rfl ?_
    refine XS.sipush X3.here hx rfl (hb hby d8_17) ?_
    show Steps p.tables e below (T3.setTop (mkF m 20 #[vA a1, vI (1 : Int32), vA a2, vI (1 : Int32), vI (3 : Int32), vI (1 : Int32), vI x_a1_1] [(.int (255 : Int32)), (.int x_a1_1)])) _
    refine XS.icmpNo X3.here hx rfl (hb hby d8_20) rfl (tlt hc20').2.2.2 ?_
    refine XS.iload X3.here hx rfl (hb hby d8_23) rfl ?_
    show Steps p.tables e below (T3.setTop (mkF m 25 #[vA a1, vI (1 : Int32), vA a2, vI (1 : Int32), vI (3 : Int32), vI (1 : Int32), vI x_a1_1] [(.int (1 : Int32))])) _
    exact retI X3 hx Bd.returns (hb hby d8_25) hr
  · show Q_rm8_3_1 Z a1 a2 k_a1 x_a1_0 x_a1_1 x_a1_2 k_a2 x_a2_0 x_a2_1 x_a2_2 h0 n0 _ T3.heap _
    rw [e3]
    exact ⟨rfl, N3, ((Keep.refl h0 [a2]).wr W3 (Or.inl (List.mem_of_getElem? (i := 0) rfl))), V3⟩
def Q_rm8_3_2 (Z : State) (a1 : Addr) (a2 : Addr) (k_a1 : ClassId) (x_a1_0 : Int32) (x_a1_1 : Int32) (x_a1_2 : Int32) (k_a2 : ClassId) (x_a2_0 : Int32) (x_a2_1 : Int32) (x_a2_2 : Int32) (h0 : Heap) (n0 : Nat) (v : Option Value) (h : Heap) (L : List Loc) : Prop := v = some (.int (2 : Int32)) ∧ Fr n0 L ∧ Keep h0 h [a2] ∧ Arv Z h a2 k_a2 .byte (3 : Int32) [(.int (nar .byte (x_a1_0.toInt8.toInt32))), (.int (nar .byte (x_a1_1.toInt8.toInt32))), (.int x_a2_2)] (.int (0 : Int32))
set_option maxRecDepth 65536 in
set_option maxHeartbeats 40000000 in
theorem rm8_3_2 (l : Launch) (Z : State) (a0 : Array Value) (hw : ∀ d ∈ tables_1, d.before a0 Z = true) (ws : List Jvm.Cond) (a1 : Addr) (a2 : Addr) (k_a1 : ClassId) (x_a1_0 : Int32) (x_a1_1 : Int32) (x_a1_2 : Int32) (k_a2 : ClassId) (x_a2_0 : Int32) (x_a2_1 : Int32) (x_a2_2 : Int32) (h0 : Heap) (n0 : Nat) (Z0 : n0 ≤ h0.size) (g_a2 : n0 ≤ a2) (V_a1 : Arv Z h0 a1 k_a1 .char (3 : Int32) [(.int x_a1_0), (.int x_a1_1), (.int x_a1_2)] (.int (0 : Int32))) (V_a2 : Arv Z h0 a2 k_a2 .byte (3 : Int32) [(.int x_a2_0), (.int x_a2_1), (.int x_a2_2)] (.int (0 : Int32))) (hc20 : ¬ ((255 : Int32) < x_a1_0)) (ne_a1_a2 : a1 ≠ a2) (hc20' : ¬ ((255 : Int32) < x_a1_1)) (hc20'' : (255 : Int32) < x_a1_2) :
    MetFree l (⟨"java/lang/StringUTF16", "compress", "([CI[BII)I"⟩ : MethodName) (head1 (Jvm.Cond.code (⟨"java/lang/StringUTF16", "compress", "([CI[BII)I"⟩ : MethodName) jdk_52_method_21_code 7 (some .int) :: ws) ({ frames := 0, cells := 0, slots := 0, locals := 0 } : Room)) (fun a U => a = #[(.ref a1), (.int (0 : Int32)), (.ref a2), (.int (0 : Int32)), (.int (3 : Int32))] ∧ Z.Warmed39 U.vm ∧ U.heap = h0) (fun _ _ _ _ _ => True) (fun _ U o U' => ∃ v L, o = .returned v ∧ Q_rm8_3_2 Z a1 a2 k_a1 x_a1_0 x_a1_1 x_a1_2 k_a2 x_a2_0 x_a2_1 x_a2_2 h0 n0 v U'.heap L ∧ FrameEnd U o U' L ({ frames := 0, cells := 0, slots := 0, locals := 0 } : Room).cells ({ frames := 0, cells := 0, slots := 0, locals := 0 } : Room).slots) := by
  have hi : ∀ (i : Nat) {d : Jvm.Cond}, tables_1[i]? = some d → d.before a0 Z = true := fun i d h => hw d (List.mem_of_getElem? h)
  refine MetFree.of_bodySF (plainFor_of_name pn_8) hisR ?_
  intro p e s m args below meth c s₁ Bd hml0 hP hK
  obtain ⟨rfl, hZ, hh⟩ := hP
  have hx := Bd.exec
  have hby := Bd.bytes
  have hml : c.maxLocals = 7 := hml0
  have hown : s.vm.findClass "java/lang/StringUTF16" = some m.cls := findClass_of_methodNamed Bd.named
  have hnm := (name_of_methodNamed Bd.named Bd.method).1
  have X0 : Stand p l e ({ frames := 0, cells := 0, slots := 0, locals := 0 } : Room) s m #[(.ref a1), (.int (0 : Int32)), (.ref a2), (.int (0 : Int32)), (.int (3 : Int32))] below meth c s₁ [] 0 0 := Stand.of_body Bd
  have e0 : s₁.heap = h0 := by rw [← hh, Bd.state]; rfl
  have N0 := Fr.nil n0
  have pre0 : ∀ t, Steps p.tables e below (s₁.setTop (mkF m 0 #[vA a1, vI (0 : Int32), vA a2, vI (0 : Int32), vI (3 : Int32), vU, vU] [])) t → Steps p.tables e below (s₁.setTop (entryFrame m #[(.ref a1), (.int (0 : Int32)), (.ref a2), (.int (0 : Int32)), (.int (3 : Int32))] 7)) t := fun t k => castTop (ef_8 m a1 (0 : Int32) a2 (0 : Int32) (3 : Int32)) k
  obtain ⟨cl_a1_0, Ar_a1_0, q_a1_0, Sz_a1_0, Ng_a1_0, Ha_a1_0, Gt_a1_0⟩ := id V_a1
  have hin_a1_0 : ¬ ((0 : Int32) < 0 ∨ cl_a1_0.slots.size ≤ ((0 : Int32)).toNatClampNeg) := inb_of Sz_a1_0 ⟨by decide, by decide⟩
  have hat_a1_0 : cl_a1_0.slots[((0 : Int32)).toNatClampNeg]? = some (.int x_a1_0) := (Ha_a1_0 _ (Nat.lt_of_not_le fun q => hin_a1_0 (Or.inr q))).trans (congrArg some (rfl : (([(.int x_a1_0), (.int x_a1_1), (.int x_a1_2)] : List Value)).getD ((0 : Int32)).toNatClampNeg (.int (0 : Int32)) = (.int x_a1_0)))
  obtain ⟨cl_a2_1, Ar_a2_1, q_a2_1, Sz_a2_1, Ng_a2_1, Ha_a2_1, Gt_a2_1⟩ := id V_a2
  have hin_a2_1 : ¬ ((0 : Int32) < 0 ∨ cl_a2_1.slots.size ≤ ((0 : Int32)).toNatClampNeg) := inb_of Sz_a2_1 ⟨by decide, by decide⟩
  obtain ⟨T3, h3, X3, e3, W3, st3⟩ := stB X0 hx hZ e0 Ar_a2_1 (j := (0 : Int32)) hin_a2_1 (g := (mkF m 31 #[vA a1, vI (0 : Int32), vA a2, vI (0 : Int32), vI (3 : Int32), vI (0 : Int32), vI x_a1_0] [(.int (x_a1_0.toInt8.toInt32)), (.int (0 : Int32)), (.ref a2)])) rfl rfl (hb hby d8_31)
  have V3 : Arv Z h3 a2 k_a2 .byte (3 : Int32) [(.int (nar .byte (x_a1_0.toInt8.toInt32))), (.int x_a2_1), (.int x_a2_2)] (.int (0 : Int32)) := Arv.set Ar_a2_1 q_a2_1 Sz_a2_1 Ng_a2_1 Ha_a2_1 Gt_a2_1 (fits_nar_byte _) W3 0 rfl (Nat.le_of_ble_eq_true rfl)
  have N3 := Fr.snoc X3 N0 g_a2
  have f2 := (V_a1.other W3 ne_a1_a2)
  obtain ⟨cl_a1_3, Ar_a1_3, q_a1_3, Sz_a1_3, Ng_a1_3, Ha_a1_3, Gt_a1_3⟩ := id f2
  have hin_a1_3 : ¬ ((1 : Int32) < 0 ∨ cl_a1_3.slots.size ≤ ((1 : Int32)).toNatClampNeg) := inb_of Sz_a1_3 ⟨by decide, by decide⟩
  have hat_a1_3 : cl_a1_3.slots[((1 : Int32)).toNatClampNeg]? = some (.int x_a1_1) := (Ha_a1_3 _ (Nat.lt_of_not_le fun q => hin_a1_3 (Or.inr q))).trans (congrArg some (rfl : (([(.int x_a1_0), (.int x_a1_1), (.int x_a1_2)] : List Value)).getD ((1 : Int32)).toNatClampNeg (.int (0 : Int32)) = (.int x_a1_1)))
  obtain ⟨cl_a2_4, Ar_a2_4, q_a2_4, Sz_a2_4, Ng_a2_4, Ha_a2_4, Gt_a2_4⟩ := id V3
  have hin_a2_4 : ¬ ((1 : Int32) < 0 ∨ cl_a2_4.slots.size ≤ ((1 : Int32)).toNatClampNeg) := inb_of Sz_a2_4 ⟨by decide, by decide⟩
  obtain ⟨T4, h4, X4, e4, W4, st4⟩ := stB X3 hx hZ e3 Ar_a2_4 (j := (1 : Int32)) hin_a2_4 (g := (mkF m 31 #[vA a1, vI (1 : Int32), vA a2, vI (1 : Int32), vI (3 : Int32), vI (1 : Int32), vI x_a1_1] [(.int (x_a1_1.toInt8.toInt32)), (.int (1 : Int32)), (.ref a2)])) rfl rfl (hb hby d8_31)
  have V4 : Arv Z h4 a2 k_a2 .byte (3 : Int32) [(.int (nar .byte (x_a1_0.toInt8.toInt32))), (.int (nar .byte (x_a1_1.toInt8.toInt32))), (.int x_a2_2)] (.int (0 : Int32)) := Arv.set Ar_a2_4 q_a2_4 Sz_a2_4 Ng_a2_4 Ha_a2_4 Gt_a2_4 (fits_nar_byte _) W4 1 rfl (Nat.le_of_ble_eq_true rfl)
  have N4 := Fr.snoc X4 N3 g_a2
  have f5 := (f2.other W4 ne_a1_a2)
  obtain ⟨cl_a1_6, Ar_a1_6, q_a1_6, Sz_a1_6, Ng_a1_6, Ha_a1_6, Gt_a1_6⟩ := id f5
  have hin_a1_6 : ¬ ((2 : Int32) < 0 ∨ cl_a1_6.slots.size ≤ ((2 : Int32)).toNatClampNeg) := inb_of Sz_a1_6 ⟨by decide, by decide⟩
  have hat_a1_6 : cl_a1_6.slots[((2 : Int32)).toNatClampNeg]? = some (.int x_a1_2) := (Ha_a1_6 _ (Nat.lt_of_not_le fun q => hin_a1_6 (Or.inr q))).trans (congrArg some (rfl : (([(.int x_a1_0), (.int x_a1_1), (.int x_a1_2)] : List Value)).getD ((2 : Int32)).toNatClampNeg (.int (0 : Int32)) = (.int x_a1_2)))
  obtain ⟨fs, hr, hrun, hended, hW, hsame⟩ := X4.leave (v := some (.int (2 : Int32))) (fun h => by rw [Bd.returns] at h; cases h)
  refine ⟨_, _, pre0 _ ?_, hrun, hended, _, _, rfl, ?_, ⟨_, rfl⟩, hW, hsame.mono (by decide) (by decide)⟩
  · show Steps p.tables e below (s₁.setTop (mkF m 0 #[vA a1, vI (0 : Int32), vA a2, vI (0 : Int32), vI (3 : Int32), vU, vU] [])) _
    refine XS.iconst X0.here hx rfl (hb hby d8_0) ?_
    refine XS.istore X0.here hx rfl (hb hby d8_1) rfl (l' := #[vA a1, vI (0 : Int32), vA a2, vI (0 : Int32), vI (3 : Int32), vI (0 : Int32), vU]) rfl ?_
    refine XS.iload X0.here hx rfl (hb hby d8_3) rfl ?_
    refine XS.iload X0.here hx rfl (hb hby d8_5) rfl ?_
    show Steps p.tables e below (s₁.setTop (mkF m 7 #[vA a1, vI (0 : Int32), vA a2, vI (0 : Int32), vI (3 : Int32), vI (0 : Int32), vU] [(.int (3 : Int32)), (.int (0 : Int32))])) _
    refine XS.icmpNo X0.here hx rfl (hb hby d8_7) rfl (tlt (by decide : (0 : Int32) < (3 : Int32))).2.1 ?_
    refine XS.aloadN X0.here hx rfl (hb hby d8_10) rfl rfl ?_
    refine XS.iloadN X0.here hx rfl (hb hby d8_11) rfl ?_
    show Steps p.tables e below (s₁.setTop (mkF m 12 #[vA a1, vI (0 : Int32), vA a2, vI (0 : Int32), vI (3 : Int32), vI (0 : Int32), vU] [(.int (0 : Int32)), (.ref a1)])) _
    refine X0.caload hx (j := (0 : Int32)) (v := (.int x_a1_0)) (by rw [e0]; exact Ar_a1_0.1) (State.isArrayOf_alike hZ.alike Ar_a1_0.2.1) Ar_a1_0.2.2 hin_a1_0 hat_a1_0 (g := (mkF m 12 #[vA a1, vI (0 : Int32), vA a2, vI (0 : Int32), vI (3 : Int32), vI (0 : Int32), vU] [(.int (0 : Int32)), (.ref a1)])) rfl rfl (hb hby d8_12) _ ?_
    refine XS.istore X0.here hx rfl (hb hby d8_13) rfl (l' := #[vA a1, vI (0 : Int32), vA a2, vI (0 : Int32), vI (3 : Int32), vI (0 : Int32), vI x_a1_0]) rfl ?_
    refine XS.iload X0.here hx rfl (hb hby d8_15) rfl ?_
    refine XS.sipush X0.here hx rfl (hb hby d8_17) ?_
    show Steps p.tables e below (s₁.setTop (mkF m 20 #[vA a1, vI (0 : Int32), vA a2, vI (0 : Int32), vI (3 : Int32), vI (0 : Int32), vI x_a1_0] [(.int (255 : Int32)), (.int x_a1_0)])) _
    refine XS.icmpYes X0.here hx rfl (pc0 := 20) (pc' := 26) rfl (hb hby d8_20) rfl (flt hc20).2.2.2 (by decide) (by decide) ?_
    refine XS.aloadN X0.here hx rfl (hb hby d8_26) rfl rfl ?_
    refine XS.iloadN X0.here hx rfl (hb hby d8_27) rfl ?_
    refine XS.iload X0.here hx rfl (hb hby d8_28) rfl ?_
    refine XS.i2b X0.here hx rfl (hb hby d8_30) rfl ?_
    show Steps p.tables e below (s₁.setTop (mkF m 31 #[vA a1, vI (0 : Int32), vA a2, vI (0 : Int32), vI (3 : Int32), vI (0 : Int32), vI x_a1_0] [(.int (x_a1_0.toInt8.toInt32)), (.int (0 : Int32)), (.ref a2)])) _
    refine st3 _ ?_
    refine XS.iinc X3.here hx rfl (hb hby d8_32) rfl (l' := #[vA a1, vI (1 : Int32), vA a2, vI (0 : Int32), vI (3 : Int32), vI (0 : Int32), vI x_a1_0]) rfl ?_
    refine XS.iinc X3.here hx rfl (hb hby d8_35) rfl (l' := #[vA a1, vI (1 : Int32), vA a2, vI (1 : Int32), vI (3 : Int32), vI (0 : Int32), vI x_a1_0]) rfl ?_
    refine XS.iinc X3.here hx rfl (hb hby d8_38) rfl (l' := #[vA a1, vI (1 : Int32), vA a2, vI (1 : Int32), vI (3 : Int32), vI (1 : Int32), vI x_a1_0]) rfl ?_
    show Steps p.tables e below (T3.setTop (mkF m 41 #[vA a1, vI (1 : Int32), vA a2, vI (1 : Int32), vI (3 : Int32), vI (1 : Int32), vI x_a1_0] [])) _
    refine XS.goto X3.here hx rfl (pc0 := 41) (pc' := 3) rfl (hb hby d8_41) (by decide) (by decide) ?_
    refine XS.iload X3.here hx rfl (hb hby d8_3) rfl ?_
    refine XS.iload X3.here hx rfl (hb hby d8_5) rfl ?_
    show Steps p.tables e below (T3.setTop (mkF m 7 #[vA a1, vI (1 : Int32), vA a2, vI (1 : Int32), vI (3 : Int32), vI (1 : Int32), vI x_a1_0] [(.int (3 : Int32)), (.int (1 : Int32))])) _
    refine XS.icmpNo X3.here hx rfl (hb hby d8_7) rfl (tlt (by decide : (1 : Int32) < (3 : Int32))).2.1 ?_
    refine XS.aloadN X3.here hx rfl (hb hby d8_10) rfl rfl ?_
    refine XS.iloadN X3.here hx rfl (hb hby d8_11) rfl ?_
    show Steps p.tables e below (T3.setTop (mkF m 12 #[vA a1, vI (1 : Int32), vA a2, vI (1 : Int32), vI (3 : Int32), vI (1 : Int32), vI x_a1_0] [(.int (1 : Int32)), (.ref a1)])) _
    refine X3.caload hx (j := (1 : Int32)) (v := (.int x_a1_1)) (by rw [e3]; exact Ar_a1_3.1) (State.isArrayOf_alike hZ.alike Ar_a1_3.2.1) Ar_a1_3.2.2 hin_a1_3 hat_a1_3 (g := (mkF m 12 #[vA a1, vI (1 : Int32), vA a2, vI (1 : Int32), vI (3 : Int32), vI (1 : Int32), vI x_a1_0] [(.int (1 : Int32)), (.ref a1)])) rfl rfl (hb hby d8_12) _ ?_
    refine XS.istore X3.here hx rfl (hb hby d8_13) rfl (l' := #[vA a1, vI (1 : Int32), vA a2, vI (1 : Int32), vI (3 : Int32), vI (1 : Int32), vI x_a1_1]) rfl ?_
    refine XS.iload X3.here hx rfl (hb hby d8_15) rfl ?_
    refine XS.sipush X3.here hx rfl (hb hby d8_17) ?_
    show Steps p.tables e below (T3.setTop (mkF m 20 #[vA a1, vI (1 : Int32), vA a2, vI (1 : Int32), vI (3 : Int32), vI (1 : Int32), vI x_a1_1] [(.int (255 : Int32)), (.int x_a1_1)])) _
    refine XS.icmpYes X3.here hx rfl (pc0 := 20) (pc' := 26) rfl (hb hby d8_20) rfl (flt hc20').2.2.2 (by decide) (by decide) ?_
    refine XS.aloadN X3.here hx rfl (hb hby d8_26) rfl rfl ?_
    refine XS.iloadN X3.here hx rfl (hb hby d8_27) rfl ?_
    refine XS.iload X3.here hx rfl (hb hby d8_28) rfl ?_
    refine XS.i2b X3.here hx rfl (hb hby d8_30) rfl ?_
    show Steps p.tables e below (T3.setTop (mkF m 31 #[vA a1, vI (1 : Int32), vA a2, vI (1 : Int32), vI (3 : Int32), vI (1 : Int32), vI x_a1_1] [(.int (x_a1_1.toInt8.toInt32)), (.int (1 : Int32)), (.ref a2)])) _
    refine st4 _ ?_
    refine XS.iinc X4.here hx rfl (hb hby d8_32) rfl (l' := #[vA a1, vI (2 : Int32), vA a2, vI (1 : Int32), vI (3 : Int32), vI (1 : Int32), vI x_a1_1]) rfl ?_
    refine XS.iinc X4.here hx rfl (hb hby d8_35) rfl (l' := #[vA a1, vI (2 : Int32), vA a2, vI (2 : Int32), vI (3 : Int32), vI (1 : Int32), vI x_a1_1]) rfl ?_
    refine XS.iinc X4.here hx rfl (hb hby d8_38) rfl (l' := #[vA a1, vI (2 : Int32), vA a2, vI (2 : Int32), vI (3 : Int32), vI (2 : Int32), vI x_a1_1]) rfl ?_
    show Steps p.tables e below (T4.setTop (mkF m 41 #[vA a1, vI (2 : Int32), vA a2, vI (2 : Int32), vI (3 : Int32), vI (2 : Int32), vI x_a1_1] [])) _
    refine XS.goto X4.here hx rfl (pc0 := 41) (pc' := 3) rfl (hb hby d8_41) (by decide) (by decide) ?_
    refine XS.iload X4.here hx rfl (hb hby d8_3) rfl ?_
    refine XS.iload X4.here hx rfl (hb hby d8_5) rfl ?_
    show Steps p.tables e below (T4.setTop (mkF m 7 #[vA a1, vI (2 : Int32), vA a2, vI (2 : Int32), vI (3 : Int32), vI (2 : Int32), vI x_a1_1] [(.int (3 : Int32)), (.int (2 : Int32))])) _
    refine XS.icmpNo X4.here hx rfl (hb hby d8_7) rfl (tlt (by decide : (2 : Int32) < (3 : Int32))).2.1 ?_
    refine XS.aloadN X4.here hx rfl (hb hby d8_10) rfl rfl ?_
    refine XS.iloadN X4.here hx rfl (hb hby d8_11) rfl ?_
    show Steps p.tables e below (T4.setTop (mkF m 12 #[vA a1, vI (2 : Int32), vA a2, vI (2 : Int32), vI (3 : Int32), vI (2 : Int32), vI x_a1_1] [(.int (2 : Int32)), (.ref a1)])) _
    refine X4.caload hx (j := (2 : Int32)) (v := (.int x_a1_2)) (by rw [e4]; exact Ar_a1_6.1) (State.isArrayOf_alike hZ.alike Ar_a1_6.2.1) Ar_a1_6.2.2 hin_a1_6 hat_a1_6 (g := (mkF m 12 #[vA a1, vI (2 : Int32), vA a2, vI (2 : Int32), vI (3 : Int32), vI (2 : Int32), vI x_a1_1] [(.int (2 : Int32)), (.ref a1)])) rfl rfl (hb hby d8_12) _ ?_
    refine XS.istore X4.here hx rfl (hb hby d8_13) rfl (l' := #[vA a1, vI (2 : Int32), vA a2, vI (2 : Int32), vI (3 : Int32), vI (2 : Int32), vI x_a1_2]) rfl ?_
    refine XS.iload X4.here hx rfl (hb hby d8_15) rfl ?_
    refine XS.sipush X4.here hx rfl (hb hby d8_17) ?_
    show Steps p.tables e below (T4.setTop (mkF m 20 #[vA a1, vI (2 : Int32), vA a2, vI (2 : Int32), vI (3 : Int32), vI (2 : Int32), vI x_a1_2] [(.int (255 : Int32)), (.int x_a1_2)])) _
    refine XS.icmpNo X4.here hx rfl (hb hby d8_20) rfl (tlt hc20'').2.2.2 ?_
    refine XS.iload X4.here hx rfl (hb hby d8_23) rfl ?_
    show Steps p.tables e below (T4.setTop (mkF m 25 #[vA a1, vI (2 : Int32), vA a2, vI (2 : Int32), vI (3 : Int32), vI (2 : Int32), vI x_a1_2] [(.int (2 : Int32))])) _
    exact retI X4 hx Bd.returns (hb hby d8_25) hr
  · show Q_rm8_3_2 Z a1 a2 k_a1 x_a1_0 x_a1_1 x_a1_2 k_a2 x_a2_0 x_a2_1 x_a2_2 h0 n0 _ T4.heap _
    rw [e4]
    exact ⟨rfl, N4, (((Keep.refl h0 [a2]).wr W3 (Or.inl (List.mem_of_getElem? (i := 0) rfl))).wr W4 (Or.inl (List.mem_of_getElem? (i := 0) rfl))), V4⟩
def Q_rm8_3_3 (Z : State) (a1 : Addr) (a2 : Addr) (k_a1 : ClassId) (x_a1_0 : Int32) (x_a1_1 : Int32) (x_a1_2 : Int32) (k_a2 : ClassId) (x_a2_0 : Int32) (x_a2_1 : Int32) (x_a2_2 : Int32) (h0 : Heap) (n0 : Nat) (v : Option Value) (h : Heap) (L : List Loc) : Prop := v = some (.int (3 : Int32)) ∧ Fr n0 L ∧ Keep h0 h [a2] ∧ Arv Z h a2 k_a2 .byte (3 : Int32) [(.int (nar .byte (x_a1_0.toInt8.toInt32))), (.int (nar .byte (x_a1_1.toInt8.toInt32))), (.int (nar .byte (x_a1_2.toInt8.toInt32)))] (.int (0 : Int32))
set_option maxRecDepth 65536 in
set_option maxHeartbeats 40000000 in
theorem rm8_3_3 (l : Launch) (Z : State) (a0 : Array Value) (hw : ∀ d ∈ tables_1, d.before a0 Z = true) (ws : List Jvm.Cond) (a1 : Addr) (a2 : Addr) (k_a1 : ClassId) (x_a1_0 : Int32) (x_a1_1 : Int32) (x_a1_2 : Int32) (k_a2 : ClassId) (x_a2_0 : Int32) (x_a2_1 : Int32) (x_a2_2 : Int32) (h0 : Heap) (n0 : Nat) (Z0 : n0 ≤ h0.size) (g_a2 : n0 ≤ a2) (V_a1 : Arv Z h0 a1 k_a1 .char (3 : Int32) [(.int x_a1_0), (.int x_a1_1), (.int x_a1_2)] (.int (0 : Int32))) (V_a2 : Arv Z h0 a2 k_a2 .byte (3 : Int32) [(.int x_a2_0), (.int x_a2_1), (.int x_a2_2)] (.int (0 : Int32))) (hc20 : ¬ ((255 : Int32) < x_a1_0)) (ne_a1_a2 : a1 ≠ a2) (hc20' : ¬ ((255 : Int32) < x_a1_1)) (hc20'' : ¬ ((255 : Int32) < x_a1_2)) :
    MetFree l (⟨"java/lang/StringUTF16", "compress", "([CI[BII)I"⟩ : MethodName) (head1 (Jvm.Cond.code (⟨"java/lang/StringUTF16", "compress", "([CI[BII)I"⟩ : MethodName) jdk_52_method_21_code 7 (some .int) :: ws) ({ frames := 0, cells := 0, slots := 0, locals := 0 } : Room)) (fun a U => a = #[(.ref a1), (.int (0 : Int32)), (.ref a2), (.int (0 : Int32)), (.int (3 : Int32))] ∧ Z.Warmed39 U.vm ∧ U.heap = h0) (fun _ _ _ _ _ => True) (fun _ U o U' => ∃ v L, o = .returned v ∧ Q_rm8_3_3 Z a1 a2 k_a1 x_a1_0 x_a1_1 x_a1_2 k_a2 x_a2_0 x_a2_1 x_a2_2 h0 n0 v U'.heap L ∧ FrameEnd U o U' L ({ frames := 0, cells := 0, slots := 0, locals := 0 } : Room).cells ({ frames := 0, cells := 0, slots := 0, locals := 0 } : Room).slots) := by
  have hi : ∀ (i : Nat) {d : Jvm.Cond}, tables_1[i]? = some d → d.before a0 Z = true := fun i d h => hw d (List.mem_of_getElem? h)
  refine MetFree.of_bodySF (plainFor_of_name pn_8) hisR ?_
  intro p e s m args below meth c s₁ Bd hml0 hP hK
  obtain ⟨rfl, hZ, hh⟩ := hP
  have hx := Bd.exec
  have hby := Bd.bytes
  have hml : c.maxLocals = 7 := hml0
  have hown : s.vm.findClass "java/lang/StringUTF16" = some m.cls := findClass_of_methodNamed Bd.named
  have hnm := (name_of_methodNamed Bd.named Bd.method).1
  have X0 : Stand p l e ({ frames := 0, cells := 0, slots := 0, locals := 0 } : Room) s m #[(.ref a1), (.int (0 : Int32)), (.ref a2), (.int (0 : Int32)), (.int (3 : Int32))] below meth c s₁ [] 0 0 := Stand.of_body Bd
  have e0 : s₁.heap = h0 := by rw [← hh, Bd.state]; rfl
  have N0 := Fr.nil n0
  have pre0 : ∀ t, Steps p.tables e below (s₁.setTop (mkF m 0 #[vA a1, vI (0 : Int32), vA a2, vI (0 : Int32), vI (3 : Int32), vU, vU] [])) t → Steps p.tables e below (s₁.setTop (entryFrame m #[(.ref a1), (.int (0 : Int32)), (.ref a2), (.int (0 : Int32)), (.int (3 : Int32))] 7)) t := fun t k => castTop (ef_8 m a1 (0 : Int32) a2 (0 : Int32) (3 : Int32)) k
  obtain ⟨cl_a1_0, Ar_a1_0, q_a1_0, Sz_a1_0, Ng_a1_0, Ha_a1_0, Gt_a1_0⟩ := id V_a1
  have hin_a1_0 : ¬ ((0 : Int32) < 0 ∨ cl_a1_0.slots.size ≤ ((0 : Int32)).toNatClampNeg) := inb_of Sz_a1_0 ⟨by decide, by decide⟩
  have hat_a1_0 : cl_a1_0.slots[((0 : Int32)).toNatClampNeg]? = some (.int x_a1_0) := (Ha_a1_0 _ (Nat.lt_of_not_le fun q => hin_a1_0 (Or.inr q))).trans (congrArg some (rfl : (([(.int x_a1_0), (.int x_a1_1), (.int x_a1_2)] : List Value)).getD ((0 : Int32)).toNatClampNeg (.int (0 : Int32)) = (.int x_a1_0)))
  obtain ⟨cl_a2_1, Ar_a2_1, q_a2_1, Sz_a2_1, Ng_a2_1, Ha_a2_1, Gt_a2_1⟩ := id V_a2
  have hin_a2_1 : ¬ ((0 : Int32) < 0 ∨ cl_a2_1.slots.size ≤ ((0 : Int32)).toNatClampNeg) := inb_of Sz_a2_1 ⟨by decide, by decide⟩
  obtain ⟨T3, h3, X3, e3, W3, st3⟩ := stB X0 hx hZ e0 Ar_a2_1 (j := (0 : Int32)) hin_a2_1 (g := (mkF m 31 #[vA a1, vI (0 : Int32), vA a2, vI (0 : Int32), vI (3 : Int32), vI (0 : Int32), vI x_a1_0] [(.int (x_a1_0.toInt8.toInt32)), (.int (0 : Int32)), (.ref a2)])) rfl rfl (hb hby d8_31)
  have V3 : Arv Z h3 a2 k_a2 .byte (3 : Int32) [(.int (nar .byte (x_a1_0.toInt8.toInt32))), (.int x_a2_1), (.int x_a2_2)] (.int (0 : Int32)) := Arv.set Ar_a2_1 q_a2_1 Sz_a2_1 Ng_a2_1 Ha_a2_1 Gt_a2_1 (fits_nar_byte _) W3 0 rfl (Nat.le_of_ble_eq_true rfl)
  have N3 := Fr.snoc X3 N0 g_a2
  have f2 := (V_a1.other W3 ne_a1_a2)
  obtain ⟨cl_a1_3, Ar_a1_3, q_a1_3, Sz_a1_3, Ng_a1_3, Ha_a1_3, Gt_a1_3⟩ := id f2
  have hin_a1_3 : ¬ ((1 : Int32) < 0 ∨ cl_a1_3.slots.size ≤ ((1 : Int32)).toNatClampNeg) := inb_of Sz_a1_3 ⟨by decide, by decide⟩
  have hat_a1_3 : cl_a1_3.slots[((1 : Int32)).toNatClampNeg]? = some (.int x_a1_1) := (Ha_a1_3 _ (Nat.lt_of_not_le fun q => hin_a1_3 (Or.inr q))).trans (congrArg some (rfl : (([(.int x_a1_0), (.int x_a1_1), (.int x_a1_2)] : List Value)).getD ((1 : Int32)).toNatClampNeg (.int (0 : Int32)) = (.int x_a1_1)))
  obtain ⟨cl_a2_4, Ar_a2_4, q_a2_4, Sz_a2_4, Ng_a2_4, Ha_a2_4, Gt_a2_4⟩ := id V3
  have hin_a2_4 : ¬ ((1 : Int32) < 0 ∨ cl_a2_4.slots.size ≤ ((1 : Int32)).toNatClampNeg) := inb_of Sz_a2_4 ⟨by decide, by decide⟩
  obtain ⟨T4, h4, X4, e4, W4, st4⟩ := stB X3 hx hZ e3 Ar_a2_4 (j := (1 : Int32)) hin_a2_4 (g := (mkF m 31 #[vA a1, vI (1 : Int32), vA a2, vI (1 : Int32), vI (3 : Int32), vI (1 : Int32), vI x_a1_1] [(.int (x_a1_1.toInt8.toInt32)), (.int (1 : Int32)), (.ref a2)])) rfl rfl (hb hby d8_31)
  have V4 : Arv Z h4 a2 k_a2 .byte (3 : Int32) [(.int (nar .byte (x_a1_0.toInt8.toInt32))), (.int (nar .byte (x_a1_1.toInt8.toInt32))), (.int x_a2_2)] (.int (0 : Int32)) := Arv.set Ar_a2_4 q_a2_4 Sz_a2_4 Ng_a2_4 Ha_a2_4 Gt_a2_4 (fits_nar_byte _) W4 1 rfl (Nat.le_of_ble_eq_true rfl)
  have N4 := Fr.snoc X4 N3 g_a2
  have f5 := (f2.other W4 ne_a1_a2)
  obtain ⟨cl_a1_6, Ar_a1_6, q_a1_6, Sz_a1_6, Ng_a1_6, Ha_a1_6, Gt_a1_6⟩ := id f5
  have hin_a1_6 : ¬ ((2 : Int32) < 0 ∨ cl_a1_6.slots.size ≤ ((2 : Int32)).toNatClampNeg) := inb_of Sz_a1_6 ⟨by decide, by decide⟩
  have hat_a1_6 : cl_a1_6.slots[((2 : Int32)).toNatClampNeg]? = some (.int x_a1_2) := (Ha_a1_6 _ (Nat.lt_of_not_le fun q => hin_a1_6 (Or.inr q))).trans (congrArg some (rfl : (([(.int x_a1_0), (.int x_a1_1), (.int x_a1_2)] : List Value)).getD ((2 : Int32)).toNatClampNeg (.int (0 : Int32)) = (.int x_a1_2)))
  obtain ⟨cl_a2_7, Ar_a2_7, q_a2_7, Sz_a2_7, Ng_a2_7, Ha_a2_7, Gt_a2_7⟩ := id V4
  have hin_a2_7 : ¬ ((2 : Int32) < 0 ∨ cl_a2_7.slots.size ≤ ((2 : Int32)).toNatClampNeg) := inb_of Sz_a2_7 ⟨by decide, by decide⟩
  obtain ⟨T5, h5, X5, e5, W5, st5⟩ := stB X4 hx hZ e4 Ar_a2_7 (j := (2 : Int32)) hin_a2_7 (g := (mkF m 31 #[vA a1, vI (2 : Int32), vA a2, vI (2 : Int32), vI (3 : Int32), vI (2 : Int32), vI x_a1_2] [(.int (x_a1_2.toInt8.toInt32)), (.int (2 : Int32)), (.ref a2)])) rfl rfl (hb hby d8_31)
  have V5 : Arv Z h5 a2 k_a2 .byte (3 : Int32) [(.int (nar .byte (x_a1_0.toInt8.toInt32))), (.int (nar .byte (x_a1_1.toInt8.toInt32))), (.int (nar .byte (x_a1_2.toInt8.toInt32)))] (.int (0 : Int32)) := Arv.set Ar_a2_7 q_a2_7 Sz_a2_7 Ng_a2_7 Ha_a2_7 Gt_a2_7 (fits_nar_byte _) W5 2 rfl (Nat.le_of_ble_eq_true rfl)
  have N5 := Fr.snoc X5 N4 g_a2
  obtain ⟨fs, hr, hrun, hended, hW, hsame⟩ := X5.leave (v := some (.int (3 : Int32))) (fun h => by rw [Bd.returns] at h; cases h)
  refine ⟨_, _, pre0 _ ?_, hrun, hended, _, _, rfl, ?_, ⟨_, rfl⟩, hW, hsame.mono (by decide) (by decide)⟩
  · show Steps p.tables e below (s₁.setTop (mkF m 0 #[vA a1, vI (0 : Int32), vA a2, vI (0 : Int32), vI (3 : Int32), vU, vU] [])) _
    refine XS.iconst X0.here hx rfl (hb hby d8_0) ?_
    refine XS.istore X0.here hx rfl (hb hby d8_1) rfl (l' := #[vA a1, vI (0 : Int32), vA a2, vI (0 : Int32), vI (3 : Int32), vI (0 : Int32), vU]) rfl ?_
    refine XS.iload X0.here hx rfl (hb hby d8_3) rfl ?_
    refine XS.iload X0.here hx rfl (hb hby d8_5) rfl ?_
    show Steps p.tables e below (s₁.setTop (mkF m 7 #[vA a1, vI (0 : Int32), vA a2, vI (0 : Int32), vI (3 : Int32), vI (0 : Int32), vU] [(.int (3 : Int32)), (.int (0 : Int32))])) _
    refine XS.icmpNo X0.here hx rfl (hb hby d8_7) rfl (tlt (by decide : (0 : Int32) < (3 : Int32))).2.1 ?_
    refine XS.aloadN X0.here hx rfl (hb hby d8_10) rfl rfl ?_
    refine XS.iloadN X0.here hx rfl (hb hby d8_11) rfl ?_
    show Steps p.tables e below (s₁.setTop (mkF m 12 #[vA a1, vI (0 : Int32), vA a2, vI (0 : Int32), vI (3 : Int32), vI (0 : Int32), vU] [(.int (0 : Int32)), (.ref a1)])) _
    refine X0.caload hx (j := (0 : Int32)) (v := (.int x_a1_0)) (by rw [e0]; exact Ar_a1_0.1) (State.isArrayOf_alike hZ.alike Ar_a1_0.2.1) Ar_a1_0.2.2 hin_a1_0 hat_a1_0 (g := (mkF m 12 #[vA a1, vI (0 : Int32), vA a2, vI (0 : Int32), vI (3 : Int32), vI (0 : Int32), vU] [(.int (0 : Int32)), (.ref a1)])) rfl rfl (hb hby d8_12) _ ?_
    refine XS.istore X0.here hx rfl (hb hby d8_13) rfl (l' := #[vA a1, vI (0 : Int32), vA a2, vI (0 : Int32), vI (3 : Int32), vI (0 : Int32), vI x_a1_0]) rfl ?_
    refine XS.iload X0.here hx rfl (hb hby d8_15) rfl ?_
    refine XS.sipush X0.here hx rfl (hb hby d8_17) ?_
    show Steps p.tables e below (s₁.setTop (mkF m 20 #[vA a1, vI (0 : Int32), vA a2, vI (0 : Int32), vI (3 : Int32), vI (0 : Int32), vI x_a1_0] [(.int (255 : Int32)), (.int x_a1_0)])) _
    refine XS.icmpYes X0.here hx rfl (pc0 := 20) (pc' := 26) rfl (hb hby d8_20) rfl (flt hc20).2.2.2 (by decide) (by decide) ?_
    refine XS.aloadN X0.here hx rfl (hb hby d8_26) rfl rfl ?_
    refine XS.iloadN X0.here hx rfl (hb hby d8_27) rfl ?_
    refine XS.iload X0.here hx rfl (hb hby d8_28) rfl ?_
    refine XS.i2b X0.here hx rfl (hb hby d8_30) rfl ?_
    show Steps p.tables e below (s₁.setTop (mkF m 31 #[vA a1, vI (0 : Int32), vA a2, vI (0 : Int32), vI (3 : Int32), vI (0 : Int32), vI x_a1_0] [(.int (x_a1_0.toInt8.toInt32)), (.int (0 : Int32)), (.ref a2)])) _
    refine st3 _ ?_
    refine XS.iinc X3.here hx rfl (hb hby d8_32) rfl (l' := #[vA a1, vI (1 : Int32), vA a2, vI (0 : Int32), vI (3 : Int32), vI (0 : Int32), vI x_a1_0]) rfl ?_
    refine XS.iinc X3.here hx rfl (hb hby d8_35) rfl (l' := #[vA a1, vI (1 : Int32), vA a2, vI (1 : Int32), vI (3 : Int32), vI (0 : Int32), vI x_a1_0]) rfl ?_
    refine XS.iinc X3.here hx rfl (hb hby d8_38) rfl (l' := #[vA a1, vI (1 : Int32), vA a2, vI (1 : Int32), vI (3 : Int32), vI (1 : Int32), vI x_a1_0]) rfl ?_
    show Steps p.tables e below (T3.setTop (mkF m 41 #[vA a1, vI (1 : Int32), vA a2, vI (1 : Int32), vI (3 : Int32), vI (1 : Int32), vI x_a1_0] [])) _
    refine XS.goto X3.here hx rfl (pc0 := 41) (pc' := 3) rfl (hb hby d8_41) (by decide) (by decide) ?_
    refine XS.iload X3.here hx rfl (hb hby d8_3) rfl ?_
    refine XS.iload X3.here hx rfl (hb hby d8_5) rfl ?_
    show Steps p.tables e below (T3.setTop (mkF m 7 #[vA a1, vI (1 : Int32), vA a2, vI (1 : Int32), vI (3 : Int32), vI (1 : Int32), vI x_a1_0] [(.int (3 : Int32)), (.int (1 : Int32))])) _
    refine XS.icmpNo X3.here hx rfl (hb hby d8_7) rfl (tlt (by decide : (1 : Int32) < (3 : Int32))).2.1 ?_
    refine XS.aloadN X3.here hx rfl (hb hby d8_10) rfl rfl ?_
    refine XS.iloadN X3.here hx rfl (hb hby d8_11) rfl ?_
    show Steps p.tables e below (T3.setTop (mkF m 12 #[vA a1, vI (1 : Int32), vA a2, vI (1 : Int32), vI (3 : Int32), vI (1 : Int32), vI x_a1_0] [(.int (1 : Int32)), (.ref a1)])) _
    refine X3.caload hx (j := (1 : Int32)) (v := (.int x_a1_1)) (by rw [e3]; exact Ar_a1_3.1) (State.isArrayOf_alike hZ.alike Ar_a1_3.2.1) Ar_a1_3.2.2 hin_a1_3 hat_a1_3 (g := (mkF m 12 #[vA a1, vI (1 : Int32), vA a2, vI (1 : Int32), vI (3 : Int32), vI (1 : Int32), vI x_a1_0] [(.int (1 : Int32)), (.ref a1)])) rfl rfl (hb hby d8_12) _ ?_
    refine XS.istore X3.here hx rfl (hb hby d8_13) rfl (l' := #[vA a1, vI (1 : Int32), vA a2, vI (1 : Int32), vI (3 : Int32), vI (1 : Int32), vI x_a1_1]) rfl ?_
    refine XS.iload X3.here hx rfl (hb hby d8_15) rfl ?_
    refine XS.sipush X3.here hx rfl (hb hby d8_17) ?_
    show Steps p.tables e below (T3.setTop (mkF m 20 #[vA a1, vI (1 : Int32), vA a2, vI (1 : Int32), vI (3 : Int32), vI (1 : Int32), vI x_a1_1] [(.int (255 : Int32)), (.int x_a1_1)])) _
    refine XS.icmpYes X3.here hx rfl (pc0 := 20) (pc' := 26) rfl (hb hby d8_20) rfl (flt hc20').2.2.2 (by decide) (by decide) ?_
    refine XS.aloadN X3.here hx rfl (hb hby d8_26) rfl rfl ?_
    refine XS.iloadN X3.here hx rfl (hb hby d8_27) rfl ?_
    refine XS.iload X3.here hx rfl (hb hby d8_28) rfl ?_
    refine XS.i2b X3.here hx rfl (hb hby d8_30) rfl ?_
    show Steps p.tables e below (T3.setTop (mkF m 31 #[vA a1, vI (1 : Int32), vA a2, vI (1 : Int32), vI (3 : Int32), vI (1 : Int32), vI x_a1_1] [(.int (x_a1_1.toInt8.toInt32)), (.int (1 : Int32)), (.ref a2)])) _
    refine st4 _ ?_
    refine XS.iinc X4.here hx rfl (hb hby d8_32) rfl (l' := #[vA a1, vI (2 : Int32), vA a2, vI (1 : Int32), vI (3 : Int32), vI (1 : Int32), vI x_a1_1]) rfl ?_
    refine XS.iinc X4.here hx rfl (hb hby d8_35) rfl (l' := #[vA a1, vI (2 : Int32), vA a2, vI (2 : Int32), vI (3 : Int32), vI (1 : Int32), vI x_a1_1]) rfl ?_
    refine XS.iinc X4.here hx rfl (hb hby d8_38) rfl (l' := #[vA a1, vI (2 : Int32), vA a2, vI (2 : Int32), vI (3 : Int32), vI (2 : Int32), vI x_a1_1]) rfl ?_
    show Steps p.tables e below (T4.setTop (mkF m 41 #[vA a1, vI (2 : Int32), vA a2, vI (2 : Int32), vI (3 : Int32), vI (2 : Int32), vI x_a1_1] [])) _
    refine XS.goto X4.here hx rfl (pc0 := 41) (pc' := 3) rfl (hb hby d8_41) (by decide) (by decide) ?_
    refine XS.iload X4.here hx rfl (hb hby d8_3) rfl ?_
    refine XS.iload X4.here hx rfl (hb hby d8_5) rfl ?_
    show Steps p.tables e below (T4.setTop (mkF m 7 #[vA a1, vI (2 : Int32), vA a2, vI (2 : Int32), vI (3 : Int32), vI (2 : Int32), vI x_a1_1] [(.int (3 : Int32)), (.int (2 : Int32))])) _
    refine XS.icmpNo X4.here hx rfl (hb hby d8_7) rfl (tlt (by decide : (2 : Int32) < (3 : Int32))).2.1 ?_
    refine XS.aloadN X4.here hx rfl (hb hby d8_10) rfl rfl ?_
    refine XS.iloadN X4.here hx rfl (hb hby d8_11) rfl ?_
    show Steps p.tables e below (T4.setTop (mkF m 12 #[vA a1, vI (2 : Int32), vA a2, vI (2 : Int32), vI (3 : Int32), vI (2 : Int32), vI x_a1_1] [(.int (2 : Int32)), (.ref a1)])) _
    refine X4.caload hx (j := (2 : Int32)) (v := (.int x_a1_2)) (by rw [e4]; exact Ar_a1_6.1) (State.isArrayOf_alike hZ.alike Ar_a1_6.2.1) Ar_a1_6.2.2 hin_a1_6 hat_a1_6 (g := (mkF m 12 #[vA a1, vI (2 : Int32), vA a2, vI (2 : Int32), vI (3 : Int32), vI (2 : Int32), vI x_a1_1] [(.int (2 : Int32)), (.ref a1)])) rfl rfl (hb hby d8_12) _ ?_
    refine XS.istore X4.here hx rfl (hb hby d8_13) rfl (l' := #[vA a1, vI (2 : Int32), vA a2, vI (2 : Int32), vI (3 : Int32), vI (2 : Int32), vI x_a1_2]) rfl ?_
    refine XS.iload X4.here hx rfl (hb hby d8_15) rfl ?_
    refine XS.sipush X4.here hx rfl (hb hby d8_17) ?_
    show Steps p.tables e below (T4.setTop (mkF m 20 #[vA a1, vI (2 : Int32), vA a2, vI (2 : Int32), vI (3 : Int32), vI (2 : Int32), vI x_a1_2] [(.int (255 : Int32)), (.int x_a1_2)])) _
    refine XS.icmpYes X4.here hx rfl (pc0 := 20) (pc' := 26) rfl (hb hby d8_20) rfl (flt hc20'').2.2.2 (by decide) (by decide) ?_
    refine XS.aloadN X4.here hx rfl (hb hby d8_26) rfl rfl ?_
    refine XS.iloadN X4.here hx rfl (hb hby d8_27) rfl ?_
    refine XS.iload X4.here hx rfl (hb hby d8_28) rfl ?_
    refine XS.i2b X4.here hx rfl (hb hby d8_30) rfl ?_
    show Steps p.tables e below (T4.setTop (mkF m 31 #[vA a1, vI (2 : Int32), vA a2, vI (2 : Int32), vI (3 : Int32), vI (2 : Int32), vI x_a1_2] [(.int (x_a1_2.toInt8.toInt32)), (.int (2 : Int32)), (.ref a2)])) _
    refine st5 _ ?_
    refine XS.iinc X5.here hx rfl (hb hby d8_32) rfl (l' := #[vA a1, vI (3 : Int32), vA a2, vI (2 : Int32), vI (3 : Int32), vI (2 : Int32), vI x_a1_2]) rfl ?_
    refine XS.iinc X5.here hx rfl (hb hby d8_35) rfl (l' := #[vA a1, vI (3 : Int32), vA a2, vI (3 : Int32), vI (3 : Int32), vI (2 : Int32), vI x_a1_2]) rfl ?_
    refine XS.iinc X5.here hx rfl (hb hby d8_38) rfl (l' := #[vA a1, vI (3 : Int32), vA a2, vI (3 : Int32), vI (3 : Int32), vI (3 : Int32), vI x_a1_2]) rfl ?_
    show Steps p.tables e below (T5.setTop (mkF m 41 #[vA a1, vI (3 : Int32), vA a2, vI (3 : Int32), vI (3 : Int32), vI (3 : Int32), vI x_a1_2] [])) _
    refine XS.goto X5.here hx rfl (pc0 := 41) (pc' := 3) rfl (hb hby d8_41) (by decide) (by decide) ?_
    refine XS.iload X5.here hx rfl (hb hby d8_3) rfl ?_
    refine XS.iload X5.here hx rfl (hb hby d8_5) rfl ?_
    show Steps p.tables e below (T5.setTop (mkF m 7 #[vA a1, vI (3 : Int32), vA a2, vI (3 : Int32), vI (3 : Int32), vI (3 : Int32), vI x_a1_2] [(.int (3 : Int32)), (.int (3 : Int32))])) _
    refine XS.icmpYes X5.here hx rfl (pc0 := 7) (pc' := 44) rfl (hb hby d8_7) rfl (flt (fun q => Int32.lt_irrefl q : ¬ ((3 : Int32) < (3 : Int32)))).2.1 (by decide) (by decide) ?_
    refine XS.iload X5.here hx rfl (hb hby d8_44) rfl ?_
    show Steps p.tables e below (T5.setTop (mkF m 46 #[vA a1, vI (3 : Int32), vA a2, vI (3 : Int32), vI (3 : Int32), vI (3 : Int32), vI x_a1_2] [(.int (3 : Int32))])) _
    exact retI X5 hx Bd.returns (hb hby d8_46) hr
  · show Q_rm8_3_3 Z a1 a2 k_a1 x_a1_0 x_a1_1 x_a1_2 k_a2 x_a2_0 x_a2_1 x_a2_2 h0 n0 _ T5.heap _
    rw [e5]
    exact ⟨rfl, N5, ((((Keep.refl h0 [a2]).wr W3 (Or.inl (List.mem_of_getElem? (i := 0) rfl))).wr W4 (Or.inl (List.mem_of_getElem? (i := 0) rfl))).wr W5 (Or.inl (List.mem_of_getElem? (i := 0) rfl))), V5⟩
def t7_2 (s_HI_BYTE_SHIFT : Int32) (s_LO_BYTE_SHIFT : Int32) (x_a1_2 : Int32) : Int32 := (nar .char (t14_5 s_HI_BYTE_SHIFT s_LO_BYTE_SHIFT (nar .byte ((x_a1_2 >>> (s_HI_BYTE_SHIFT &&& 31)).toInt8.toInt32)) (nar .byte ((x_a1_2 >>> (s_LO_BYTE_SHIFT &&& 31)).toInt8.toInt32))))
def Q_rm7_3 (Z : State) (a1 : Addr) (s__assertionsDisabled : Int32) (s_HI_BYTE_SHIFT : Int32) (s_LO_BYTE_SHIFT : Int32) (k_a1 : ClassId) (x_a1_0 : Int32) (x_a1_1 : Int32) (x_a1_2 : Int32) (h0 : Heap) (n0 : Nat) (v : Option Value) (h : Heap) (L : List Loc) : Prop := ∃ b : Addr, ∃ k : ClassId, ∃ zz : Int32, ∃ vs : List Value, v = some (.ref b) ∧ Fr n0 L ∧ Keep h0 h [] ∧ h0.size ≤ b ∧ Arv Z h b k .byte zz vs (.int (0 : Int32)) ∧ (zz = (3 : Int32) ∨ zz = (6 : Int32))
set_option maxRecDepth 65536 in
set_option maxHeartbeats 40000000 in
theorem rm7_3_k0 (l : Launch) (Z : State) (a0 : Array Value) (hw : ∀ d ∈ tables_1, d.before a0 Z = true) (ws : List Jvm.Cond) (a1 : Addr) (s__assertionsDisabled : Int32) (s_HI_BYTE_SHIFT : Int32) (s_LO_BYTE_SHIFT : Int32) (k_a1 : ClassId) (x_a1_0 : Int32) (x_a1_1 : Int32) (x_a1_2 : Int32) (h0 : Heap) (n0 : Nat) (Z0 : n0 ≤ h0.size) (hasd : ¬ (s__assertionsDisabled = (0 : Int32))) (hhi : s_HI_BYTE_SHIFT = (0 : Int32)) (hlo : s_LO_BYTE_SHIFT = (8 : Int32)) (hch0 : nar .char x_a1_0 = x_a1_0) (hch1 : nar .char x_a1_1 = x_a1_1) (hch2 : nar .char x_a1_2 = x_a1_2) (S__assertionsDisabled : Sta Z h0 "java/lang/StringUTF16" "$assertionsDisabled" "Z" (.int s__assertionsDisabled)) (S_HI_BYTE_SHIFT : Sta Z h0 "java/lang/StringUTF16" "HI_BYTE_SHIFT" "I" (.int s_HI_BYTE_SHIFT)) (S_LO_BYTE_SHIFT : Sta Z h0 "java/lang/StringUTF16" "LO_BYTE_SHIFT" "I" (.int s_LO_BYTE_SHIFT)) (V_a1 : Arv Z h0 a1 k_a1 .char (3 : Int32) [(.int x_a1_0), (.int x_a1_1), (.int x_a1_2)] (.int (0 : Int32))) (hhc20_9 : (255 : Int32) < x_a1_0) :
    MetFree l (⟨"java/lang/StringUTF16", "compress", "([CII)[B"⟩ : MethodName) (head1 (Jvm.Cond.code (⟨"java/lang/StringUTF16", "compress", "([CII)[B"⟩ : MethodName) jdk_52_method_16_code 6 (some (.array .byte)) :: ws) ({ frames := 3, cells := 2, slots := 9, locals := 40 } : Room)) (fun a U => a = #[(.ref a1), (.int (0 : Int32)), (.int (3 : Int32))] ∧ Z.Warmed39 U.vm ∧ U.heap = h0) (fun _ _ _ _ _ => True) (fun _ U o U' => ∃ v L, o = .returned v ∧ Q_rm7_3 Z a1 s__assertionsDisabled s_HI_BYTE_SHIFT s_LO_BYTE_SHIFT k_a1 x_a1_0 x_a1_1 x_a1_2 h0 n0 v U'.heap L ∧ FrameEnd U o U' L ({ frames := 3, cells := 2, slots := 9, locals := 40 } : Room).cells ({ frames := 3, cells := 2, slots := 9, locals := 40 } : Room).slots) := by
  have hi : ∀ (i : Nat) {d : Jvm.Cond}, tables_1[i]? = some d → d.before a0 Z = true := fun i d h => hw d (List.mem_of_getElem? h)
  refine MetFree.of_bodySF (plainFor_of_name pn_7) hisR ?_
  intro p e s m args below meth c s₁ Bd hml0 hP hK
  obtain ⟨rfl, hZ, hh⟩ := hP
  have hx := Bd.exec
  have hby := Bd.bytes
  have hml : c.maxLocals = 6 := hml0
  have hown : s.vm.findClass "java/lang/StringUTF16" = some m.cls := findClass_of_methodNamed Bd.named
  have hnm := (name_of_methodNamed Bd.named Bd.method).1
  have X0 : Stand p l e ({ frames := 3, cells := 2, slots := 9, locals := 40 } : Room) s m #[(.ref a1), (.int (0 : Int32)), (.int (3 : Int32))] below meth c s₁ [] 0 0 := Stand.of_body Bd
  have e0 : s₁.heap = h0 := by rw [← hh, Bd.state]; rfl
  have N0 := Fr.nil n0
  have pre0 : ∀ t, Steps p.tables e below (s₁.setTop (mkF m 0 #[vA a1, vI (0 : Int32), vI (3 : Int32), vU, vU, vU] [])) t → Steps p.tables e below (s₁.setTop (entryFrame m #[(.ref a1), (.int (0 : Int32)), (.int (3 : Int32))] 6)) t := fun t k => castTop (ef_7 m a1 (0 : Int32) (3 : Int32)) k
  obtain ⟨T2, h2, k2, X2, e2, E2, A2, st2⟩ := newP X0 hx hZ (hi 17 rfl) e0 (g := (mkF m 1 #[vA a1, vI (0 : Int32), vI (3 : Int32), vU, vU, vU] [(.int (3 : Int32))])) rfl (hb hby d7_1) rfl (by decide) (cap := 3) (by decide) (by decide) (by decide) (by decide)
  obtain ⟨b2, g2⟩ : ∃ z, z = h0.size := ⟨_, rfl⟩
  rw [← g2] at A2 st2
  have g_b2 : n0 ≤ b2 := Nat.le_trans Z0 (Nat.le_of_eq g2.symm)
  have sz_b2 : h0.size ≤ b2 := Nat.le_trans (Nat.le_refl h0.size) (Nat.le_of_eq g2.symm)
  have V_b2 : Arv Z h2 b2 k2 .byte (3 : Int32) [(.int (0 : Int32)), (.int (0 : Int32)), (.int (0 : Int32))] (.int (0 : Int32)) := (Arv.new A2 (by decide)).pad (pad_rep [] (.int (0 : Int32)) 3)
  have f0 := (V_a1.ext E2)
  obtain ⟨_, _, ⟨T3, L3, k3, n3⟩, -, X3, ⟨Lc3, hQ3, l3, y3, z3⟩, st3⟩ := Jvm.LawKit.callS X2 hx (y := (⟨"java/lang/StringUTF16", "compress", "([CI[BII)I"⟩ : MethodName)) hown (mvT hZ (hi 47 rfl)) (mvT hZ (hi 48 rfl)) (mvT hZ (hi 45 rfl)) (mvT hZ (hi 49 rfl)) (by decide) (backOf (W := 0) (rm8_3_0 l Z a0 hw [] a1 b2 k_a1 x_a1_0 x_a1_1 x_a1_2 k2 (0 : Int32) (0 : Int32) (0 : Int32) h2 n0 (Nat.le_trans Z0 E2.1) f0 V_b2 hhc20_9) hZ (hi 49 rfl) (hi 45 rfl) (by decide) (by decide)) (g := (mkF m 9 #[vA a1, vI (0 : Int32), vI (3 : Int32), vA b2, vU, vU] [(.int (3 : Int32)), (.int (0 : Int32)), (.ref b2), (.int (0 : Int32)), (.ref a1)])) rfl (by rw [hml]; rfl) (argsL := [(.ref a1), (.int (0 : Int32)), (.ref b2), (.int (0 : Int32)), (.int (3 : Int32))]) (rest := []) (lenOf pd__28_5bCI_5bBII_29I rfl) rfl (by show 2 * 0 + _ ≤ _; exact Nat.le_of_eq rfl) (hb hby d7_9) (fun _ _ => ⟨rfl, e2, (by decide : 1 + 0 ≤ _), (by decide : 3 + 0 ≤ _)⟩)
  dsimp only [Pt.U, Pt.locs, Pt.cells, Pt.slots] at X3 l3 y3 z3 st3 hQ3
  subst l3 y3 z3
  obtain ⟨rfl, N3q, e3⟩ := hQ3
  have N3 := Fr.app N0 N3q
  have f1 := (S__assertionsDisabled.ext E2)
  have f2 := (S_HI_BYTE_SHIFT.ext E2)
  have f3 := (S_LO_BYTE_SHIFT.ext E2)
  obtain ⟨_, _, ⟨T4, L4, k4, n4⟩, -, X4, ⟨Lc4, hQ4, l4, y4, z4⟩, st4⟩ := Jvm.LawKit.callS X3 hx (y := (⟨"java/lang/StringUTF16", "toBytes", "([CII)[B"⟩ : MethodName)) hown (mvT hZ (hi 53 rfl)) (mvT hZ (hi 54 rfl)) (mvT hZ (hi 45 rfl)) (mvT hZ (hi 55 rfl)) (by decide) (backOf (W := 0) (rm10_3 l Z a0 hw [] a1 s__assertionsDisabled s_HI_BYTE_SHIFT s_LO_BYTE_SHIFT k_a1 x_a1_0 x_a1_1 x_a1_2 h2 n0 (Nat.le_trans Z0 E2.1) hasd f1 f2 f3 f0) hZ (hi 55 rfl) (hi 45 rfl) (by decide) (by decide)) (g := (mkF m 23 #[vA a1, vI (0 : Int32), vI (3 : Int32), vA b2, vI (0 : Int32), vU] [(.int (3 : Int32)), (.int (0 : Int32)), (.ref a1)])) rfl (by rw [hml]; rfl) (argsL := [(.ref a1), (.int (0 : Int32)), (.int (3 : Int32))]) (rest := []) (lenOf pd__28_5bCII_29_5bB rfl) rfl (by show 2 * 0 + _ ≤ _; exact Nat.le_of_eq rfl) (hb hby d7_23) (fun _ _ => ⟨rfl, e3, (by decide : 1 + 1 ≤ _), (by decide : 3 + 6 ≤ _)⟩)
  dsimp only [Pt.U, Pt.locs, Pt.cells, Pt.slots] at X4 l4 y4 z4 st4 hQ4
  subst l4 y4 z4
  obtain ⟨b2_2_4, ⟨k2_2_4, ⟨rfl, N4q, K4, i4_0, i4_1⟩⟩⟩ := hQ4
  have N4 := Fr.app N3 N4q
  have sz_b2_2_4 : h0.size ≤ b2_2_4 := Nat.le_trans (Nat.le_trans (Nat.le_refl h0.size) E2.1) i4_0
  have g_b2_2_4 : n0 ≤ b2_2_4 := Nat.le_trans Z0 sz_b2_2_4
  have f4 := (own_sta_keep f1 K4 own_q0)
  have f5 := (own_sta_keep f2 K4 own_q0)
  have f6 := (own_sta_keep f3 K4 own_q0)
  obtain ⟨_, _, ⟨T5, L5, k5, n5⟩, -, X5, ⟨Lc5, hQ5, l5, y5, z5⟩, st5⟩ := Jvm.LawKit.callS X4 hx (y := (⟨"java/lang/StringUTF16", "getChar", "([BI)C"⟩ : MethodName)) hown (mvT hZ (hi 69 rfl)) (mvT hZ (hi 70 rfl)) (mvT hZ (hi 45 rfl)) (mvT hZ (hi 71 rfl)) (by decide) (backOf (W := 0) (rm14_3_0 l Z a0 hw [] b2_2_4 s__assertionsDisabled s_HI_BYTE_SHIFT s_LO_BYTE_SHIFT k2_2_4 (nar .byte ((x_a1_0 >>> (s_HI_BYTE_SHIFT &&& 31)).toInt8.toInt32)) (nar .byte ((x_a1_0 >>> (s_LO_BYTE_SHIFT &&& 31)).toInt8.toInt32)) (nar .byte ((x_a1_1 >>> (s_HI_BYTE_SHIFT &&& 31)).toInt8.toInt32)) (nar .byte ((x_a1_1 >>> (s_LO_BYTE_SHIFT &&& 31)).toInt8.toInt32)) (nar .byte ((x_a1_2 >>> (s_HI_BYTE_SHIFT &&& 31)).toInt8.toInt32)) (nar .byte ((x_a1_2 >>> (s_LO_BYTE_SHIFT &&& 31)).toInt8.toInt32)) T4.heap n0 (Nat.le_trans (Nat.le_trans Z0 E2.1) K4.1) hasd f4 f5 f6 i4_1) hZ (hi 71 rfl) (hi 45 rfl) (by decide) (by decide)) (g := (mkF m 32 #[vA a1, vI (0 : Int32), vI (3 : Int32), vA b2, vI (0 : Int32), vA b2_2_4] [(.int (0 : Int32)), (.ref b2_2_4)])) rfl (by rw [hml]; rfl) (argsL := [(.ref b2_2_4), (.int (0 : Int32))]) (rest := []) (lenOf pd__28_5bBI_29C rfl) rfl (by show 2 * 0 + _ ≤ _; exact Nat.le_of_eq rfl) (hb hby d7_32) (fun _ _ => ⟨rfl, rfl, (by decide : 2 + 0 ≤ _), (by decide : 9 + 0 ≤ _)⟩)
  dsimp only [Pt.U, Pt.locs, Pt.cells, Pt.slots] at X5 l5 y5 z5 st5 hQ5
  subst l5 y5 z5
  obtain ⟨rfl, N5q, e5⟩ := hQ5
  have N5 := Fr.app N4 N5q
  obtain ⟨fs, hr, hrun, hended, hW, hsame⟩ := X5.leave (v := some (.ref b2_2_4)) (fun h => by rw [Bd.returns] at h; cases h)
  refine ⟨_, _, pre0 _ ?_, hrun, hended, _, _, rfl, ?_, ⟨_, rfl⟩, hW, hsame.mono (by decide) (by decide)⟩
  · show Steps p.tables e below (s₁.setTop (mkF m 0 #[vA a1, vI (0 : Int32), vI (3 : Int32), vU, vU, vU] [])) _
    refine XS.iloadN X0.here hx rfl (hb hby d7_0) rfl ?_
    show Steps p.tables e below (s₁.setTop (mkF m 1 #[vA a1, vI (0 : Int32), vI (3 : Int32), vU, vU, vU] [(.int (3 : Int32))])) _
    refine st2 _ ?_
    refine XS.astoreN X2.here hx rfl (hb hby d7_3) rfl rfl (l' := #[vA a1, vI (0 : Int32), vI (3 : Int32), vA b2, vU, vU]) rfl ?_
    refine XS.aloadN X2.here hx rfl (hb hby d7_4) rfl rfl ?_
    refine XS.iloadN X2.here hx rfl (hb hby d7_5) rfl ?_
    refine XS.aloadN X2.here hx rfl (hb hby d7_6) rfl rfl ?_
    refine XS.iconst X2.here hx rfl (hb hby d7_7) ?_
    refine XS.iloadN X2.here hx rfl (hb hby d7_8) rfl ?_
    show Steps p.tables e below (T2.setTop (mkF m 9 #[vA a1, vI (0 : Int32), vI (3 : Int32), vA b2, vU, vU] [(.int (3 : Int32)), (.int (0 : Int32)), (.ref b2), (.int (0 : Int32)), (.ref a1)])) _
    refine st3 _ ?_
    refine XS.istore X3.here hx rfl (hb hby d7_12) rfl (l' := #[vA a1, vI (0 : Int32), vI (3 : Int32), vA b2, vI (0 : Int32), vU]) rfl ?_
    refine XS.iload X3.here hx rfl (hb hby d7_14) rfl ?_
    refine XS.iloadN X3.here hx rfl (hb hby d7_16) rfl ?_
    show Steps p.tables e below (T3.setTop (mkF m 17 #[vA a1, vI (0 : Int32), vI (3 : Int32), vA b2, vI (0 : Int32), vU] [(.int (3 : Int32)), (.int (0 : Int32))])) _
    refine XS.icmpNo X3.here hx rfl (hb hby d7_17) rfl (feq (by decide : ¬ ((0 : Int32) = (3 : Int32)))).1 ?_
    refine XS.aloadN X3.here hx rfl (hb hby d7_20) rfl rfl ?_
    refine XS.iloadN X3.here hx rfl (hb hby d7_21) rfl ?_
    refine XS.iloadN X3.here hx rfl (hb hby d7_22) rfl ?_
    show Steps p.tables e below (T3.setTop (mkF m 23 #[vA a1, vI (0 : Int32), vI (3 : Int32), vA b2, vI (0 : Int32), vU] [(.int (3 : Int32)), (.int (0 : Int32)), (.ref a1)])) _
    refine st4 _ ?_
    refine XS.astore X4.here hx rfl (hb hby d7_26) rfl rfl (l' := #[vA a1, vI (0 : Int32), vI (3 : Int32), vA b2, vI (0 : Int32), vA b2_2_4]) rfl ?_
    refine XS.aload X4.here hx rfl (hb hby d7_28) rfl rfl ?_
    refine XS.iload X4.here hx rfl (hb hby d7_30) rfl ?_
    show Steps p.tables e below (T4.setTop (mkF m 32 #[vA a1, vI (0 : Int32), vI (3 : Int32), vA b2, vI (0 : Int32), vA b2_2_4] [(.int (0 : Int32)), (.ref b2_2_4)])) _
    refine st5 _ ?_
    refine XS.sipush X5.here hx rfl (hb hby d7_35) ?_
    show Steps p.tables e below (T5.setTop (mkF m 38 #[vA a1, vI (0 : Int32), vI (3 : Int32), vA b2, vI (0 : Int32), vA b2_2_4] [(.int (255 : Int32)), (.int (nar .char (t14_1 s_HI_BYTE_SHIFT s_LO_BYTE_SHIFT (nar .byte ((x_a1_0 >>> (s_HI_BYTE_SHIFT &&& 31)).toInt8.toInt32)) (nar .byte ((x_a1_0 >>> (s_LO_BYTE_SHIFT &&& 31)).toInt8.toInt32)))))])) _
    refine XS.icmpYes X5.here hx rfl (pc0 := 38) (pc' := 54) rfl (hb hby d7_38) rfl (tlt (show (255 : Int32) < (t7_0 s_HI_BYTE_SHIFT s_LO_BYTE_SHIFT x_a1_0) from (own_rt2 _ _ _ hhi hlo hch0 hhc20_9))).2.2.1 (by decide) (by decide) ?_
    refine XS.aload X5.here hx rfl (hb hby d7_54) rfl rfl ?_
    show Steps p.tables e below (T5.setTop (mkF m 56 #[vA a1, vI (0 : Int32), vI (3 : Int32), vA b2, vI (0 : Int32), vA b2_2_4] [(.ref b2_2_4)])) _
    jvm_step X5.here [X5.here.top, hx, (hb hby d7_56), X5.method', Bd.returns, Value.isRef, FieldType.isReference]
    first | (intro acts; rw [hr _ acts rfl rfl rfl]) | rw [hr _ _ rfl rfl rfl]
    exact Steps.refl _
  · show Q_rm7_3 Z a1 s__assertionsDisabled s_HI_BYTE_SHIFT s_LO_BYTE_SHIFT k_a1 x_a1_0 x_a1_1 x_a1_2 h0 n0 _ T5.heap _
    rw [e5]
    exact ⟨b2_2_4, ⟨k2_2_4, ⟨(6 : Int32), ⟨[(.int (nar .byte ((x_a1_0 >>> (s_HI_BYTE_SHIFT &&& 31)).toInt8.toInt32))), (.int (nar .byte ((x_a1_0 >>> (s_LO_BYTE_SHIFT &&& 31)).toInt8.toInt32))), (.int (nar .byte ((x_a1_1 >>> (s_HI_BYTE_SHIFT &&& 31)).toInt8.toInt32))), (.int (nar .byte ((x_a1_1 >>> (s_LO_BYTE_SHIFT &&& 31)).toInt8.toInt32))), (.int (nar .byte ((x_a1_2 >>> (s_HI_BYTE_SHIFT &&& 31)).toInt8.toInt32))), (.int (nar .byte ((x_a1_2 >>> (s_LO_BYTE_SHIFT &&& 31)).toInt8.toInt32)))], ⟨rfl, N5, (((Keep.refl h0 []).ext E2).trans K4 (fun _ q => nomatch q)), sz_b2_2_4, i4_1, Or.inr rfl⟩⟩⟩⟩⟩
set_option maxRecDepth 65536 in
set_option maxHeartbeats 40000000 in
theorem rm7_3_k1 (l : Launch) (Z : State) (a0 : Array Value) (hw : ∀ d ∈ tables_1, d.before a0 Z = true) (ws : List Jvm.Cond) (a1 : Addr) (s__assertionsDisabled : Int32) (s_HI_BYTE_SHIFT : Int32) (s_LO_BYTE_SHIFT : Int32) (k_a1 : ClassId) (x_a1_0 : Int32) (x_a1_1 : Int32) (x_a1_2 : Int32) (h0 : Heap) (n0 : Nat) (Z0 : n0 ≤ h0.size) (hasd : ¬ (s__assertionsDisabled = (0 : Int32))) (hhi : s_HI_BYTE_SHIFT = (0 : Int32)) (hlo : s_LO_BYTE_SHIFT = (8 : Int32)) (hch0 : nar .char x_a1_0 = x_a1_0) (hch1 : nar .char x_a1_1 = x_a1_1) (hch2 : nar .char x_a1_2 = x_a1_2) (S__assertionsDisabled : Sta Z h0 "java/lang/StringUTF16" "$assertionsDisabled" "Z" (.int s__assertionsDisabled)) (S_HI_BYTE_SHIFT : Sta Z h0 "java/lang/StringUTF16" "HI_BYTE_SHIFT" "I" (.int s_HI_BYTE_SHIFT)) (S_LO_BYTE_SHIFT : Sta Z h0 "java/lang/StringUTF16" "LO_BYTE_SHIFT" "I" (.int s_LO_BYTE_SHIFT)) (V_a1 : Arv Z h0 a1 k_a1 .char (3 : Int32) [(.int x_a1_0), (.int x_a1_1), (.int x_a1_2)] (.int (0 : Int32))) (hhc20_9 : ¬ ((255 : Int32) < x_a1_0)) (hhc20'_9 : (255 : Int32) < x_a1_1) :
    MetFree l (⟨"java/lang/StringUTF16", "compress", "([CII)[B"⟩ : MethodName) (head1 (Jvm.Cond.code (⟨"java/lang/StringUTF16", "compress", "([CII)[B"⟩ : MethodName) jdk_52_method_16_code 6 (some (.array .byte)) :: ws) ({ frames := 3, cells := 2, slots := 9, locals := 40 } : Room)) (fun a U => a = #[(.ref a1), (.int (0 : Int32)), (.int (3 : Int32))] ∧ Z.Warmed39 U.vm ∧ U.heap = h0) (fun _ _ _ _ _ => True) (fun _ U o U' => ∃ v L, o = .returned v ∧ Q_rm7_3 Z a1 s__assertionsDisabled s_HI_BYTE_SHIFT s_LO_BYTE_SHIFT k_a1 x_a1_0 x_a1_1 x_a1_2 h0 n0 v U'.heap L ∧ FrameEnd U o U' L ({ frames := 3, cells := 2, slots := 9, locals := 40 } : Room).cells ({ frames := 3, cells := 2, slots := 9, locals := 40 } : Room).slots) := by
  have hi : ∀ (i : Nat) {d : Jvm.Cond}, tables_1[i]? = some d → d.before a0 Z = true := fun i d h => hw d (List.mem_of_getElem? h)
  refine MetFree.of_bodySF (plainFor_of_name pn_7) hisR ?_
  intro p e s m args below meth c s₁ Bd hml0 hP hK
  obtain ⟨rfl, hZ, hh⟩ := hP
  have hx := Bd.exec
  have hby := Bd.bytes
  have hml : c.maxLocals = 6 := hml0
  have hown : s.vm.findClass "java/lang/StringUTF16" = some m.cls := findClass_of_methodNamed Bd.named
  have hnm := (name_of_methodNamed Bd.named Bd.method).1
  have X0 : Stand p l e ({ frames := 3, cells := 2, slots := 9, locals := 40 } : Room) s m #[(.ref a1), (.int (0 : Int32)), (.int (3 : Int32))] below meth c s₁ [] 0 0 := Stand.of_body Bd
  have e0 : s₁.heap = h0 := by rw [← hh, Bd.state]; rfl
  have N0 := Fr.nil n0
  have pre0 : ∀ t, Steps p.tables e below (s₁.setTop (mkF m 0 #[vA a1, vI (0 : Int32), vI (3 : Int32), vU, vU, vU] [])) t → Steps p.tables e below (s₁.setTop (entryFrame m #[(.ref a1), (.int (0 : Int32)), (.int (3 : Int32))] 6)) t := fun t k => castTop (ef_7 m a1 (0 : Int32) (3 : Int32)) k
  obtain ⟨T2, h2, k2, X2, e2, E2, A2, st2⟩ := newP X0 hx hZ (hi 17 rfl) e0 (g := (mkF m 1 #[vA a1, vI (0 : Int32), vI (3 : Int32), vU, vU, vU] [(.int (3 : Int32))])) rfl (hb hby d7_1) rfl (by decide) (cap := 3) (by decide) (by decide) (by decide) (by decide)
  obtain ⟨b2, g2⟩ : ∃ z, z = h0.size := ⟨_, rfl⟩
  rw [← g2] at A2 st2
  have g_b2 : n0 ≤ b2 := Nat.le_trans Z0 (Nat.le_of_eq g2.symm)
  have sz_b2 : h0.size ≤ b2 := Nat.le_trans (Nat.le_refl h0.size) (Nat.le_of_eq g2.symm)
  have V_b2 : Arv Z h2 b2 k2 .byte (3 : Int32) [(.int (0 : Int32)), (.int (0 : Int32)), (.int (0 : Int32))] (.int (0 : Int32)) := (Arv.new A2 (by decide)).pad (pad_rep [] (.int (0 : Int32)) 3)
  have f0 := (V_a1.ext E2)
  obtain ⟨_, _, ⟨T3, L3, k3, n3⟩, -, X3, ⟨Lc3, hQ3, l3, y3, z3⟩, st3⟩ := Jvm.LawKit.callS X2 hx (y := (⟨"java/lang/StringUTF16", "compress", "([CI[BII)I"⟩ : MethodName)) hown (mvT hZ (hi 47 rfl)) (mvT hZ (hi 48 rfl)) (mvT hZ (hi 45 rfl)) (mvT hZ (hi 49 rfl)) (by decide) (backOf (W := 0) (rm8_3_1 l Z a0 hw [] a1 b2 k_a1 x_a1_0 x_a1_1 x_a1_2 k2 (0 : Int32) (0 : Int32) (0 : Int32) h2 n0 (Nat.le_trans Z0 E2.1) g_b2 f0 V_b2 hhc20_9 (Nat.ne_of_lt (Nat.lt_of_lt_of_le V_a1.lt (Nat.le_of_eq g2.symm))) hhc20'_9) hZ (hi 49 rfl) (hi 45 rfl) (by decide) (by decide)) (g := (mkF m 9 #[vA a1, vI (0 : Int32), vI (3 : Int32), vA b2, vU, vU] [(.int (3 : Int32)), (.int (0 : Int32)), (.ref b2), (.int (0 : Int32)), (.ref a1)])) rfl (by rw [hml]; rfl) (argsL := [(.ref a1), (.int (0 : Int32)), (.ref b2), (.int (0 : Int32)), (.int (3 : Int32))]) (rest := []) (lenOf pd__28_5bCI_5bBII_29I rfl) rfl (by show 2 * 0 + _ ≤ _; exact Nat.le_of_eq rfl) (hb hby d7_9) (fun _ _ => ⟨rfl, e2, (by decide : 1 + 0 ≤ _), (by decide : 3 + 0 ≤ _)⟩)
  dsimp only [Pt.U, Pt.locs, Pt.cells, Pt.slots] at X3 l3 y3 z3 st3 hQ3
  subst l3 y3 z3
  obtain ⟨rfl, N3q, K3, i3_0⟩ := hQ3
  have N3 := Fr.app N0 N3q
  have f1 := (own_sta_keep (S__assertionsDisabled.ext E2) K3 (own_qc (own_nstV V_b2) own_q0))
  have f2 := (own_sta_keep (S_HI_BYTE_SHIFT.ext E2) K3 (own_qc (own_nstV V_b2) own_q0))
  have f3 := (own_sta_keep (S_LO_BYTE_SHIFT.ext E2) K3 (own_qc (own_nstV V_b2) own_q0))
  have f4 := (f0.keep K3 (own_nm (Nat.ne_of_lt (Nat.lt_of_lt_of_le V_a1.lt (Nat.le_of_eq g2.symm))) own_n0))
  obtain ⟨_, _, ⟨T4, L4, k4, n4⟩, -, X4, ⟨Lc4, hQ4, l4, y4, z4⟩, st4⟩ := Jvm.LawKit.callS X3 hx (y := (⟨"java/lang/StringUTF16", "toBytes", "([CII)[B"⟩ : MethodName)) hown (mvT hZ (hi 53 rfl)) (mvT hZ (hi 54 rfl)) (mvT hZ (hi 45 rfl)) (mvT hZ (hi 55 rfl)) (by decide) (backOf (W := 0) (rm10_3 l Z a0 hw [] a1 s__assertionsDisabled s_HI_BYTE_SHIFT s_LO_BYTE_SHIFT k_a1 x_a1_0 x_a1_1 x_a1_2 T3.heap n0 (Nat.le_trans (Nat.le_trans Z0 E2.1) K3.1) hasd f1 f2 f3 f4) hZ (hi 55 rfl) (hi 45 rfl) (by decide) (by decide)) (g := (mkF m 23 #[vA a1, vI (0 : Int32), vI (3 : Int32), vA b2, vI (1 : Int32), vU] [(.int (3 : Int32)), (.int (0 : Int32)), (.ref a1)])) rfl (by rw [hml]; rfl) (argsL := [(.ref a1), (.int (0 : Int32)), (.int (3 : Int32))]) (rest := []) (lenOf pd__28_5bCII_29_5bB rfl) rfl (by show 2 * 0 + _ ≤ _; exact Nat.le_of_eq rfl) (hb hby d7_23) (fun _ _ => ⟨rfl, rfl, (by decide : 1 + 1 ≤ _), (by decide : 3 + 6 ≤ _)⟩)
  dsimp only [Pt.U, Pt.locs, Pt.cells, Pt.slots] at X4 l4 y4 z4 st4 hQ4
  subst l4 y4 z4
  obtain ⟨b2_2_4, ⟨k2_2_4, ⟨rfl, N4q, K4, i4_0, i4_1⟩⟩⟩ := hQ4
  have N4 := Fr.app N3 N4q
  have sz_b2_2_4 : h0.size ≤ b2_2_4 := Nat.le_trans (Nat.le_trans (Nat.le_trans (Nat.le_refl h0.size) E2.1) K3.1) i4_0
  have g_b2_2_4 : n0 ≤ b2_2_4 := Nat.le_trans Z0 sz_b2_2_4
  have f5 := (own_sta_keep f1 K4 own_q0)
  have f6 := (own_sta_keep f2 K4 own_q0)
  have f7 := (own_sta_keep f3 K4 own_q0)
  obtain ⟨_, _, ⟨T5, L5, k5, n5⟩, -, X5, ⟨Lc5, hQ5, l5, y5, z5⟩, st5⟩ := Jvm.LawKit.callS X4 hx (y := (⟨"java/lang/StringUTF16", "getChar", "([BI)C"⟩ : MethodName)) hown (mvT hZ (hi 69 rfl)) (mvT hZ (hi 70 rfl)) (mvT hZ (hi 45 rfl)) (mvT hZ (hi 71 rfl)) (by decide) (backOf (W := 0) (rm14_3_1 l Z a0 hw [] b2_2_4 s__assertionsDisabled s_HI_BYTE_SHIFT s_LO_BYTE_SHIFT k2_2_4 (nar .byte ((x_a1_0 >>> (s_HI_BYTE_SHIFT &&& 31)).toInt8.toInt32)) (nar .byte ((x_a1_0 >>> (s_LO_BYTE_SHIFT &&& 31)).toInt8.toInt32)) (nar .byte ((x_a1_1 >>> (s_HI_BYTE_SHIFT &&& 31)).toInt8.toInt32)) (nar .byte ((x_a1_1 >>> (s_LO_BYTE_SHIFT &&& 31)).toInt8.toInt32)) (nar .byte ((x_a1_2 >>> (s_HI_BYTE_SHIFT &&& 31)).toInt8.toInt32)) (nar .byte ((x_a1_2 >>> (s_LO_BYTE_SHIFT &&& 31)).toInt8.toInt32)) T4.heap n0 (Nat.le_trans (Nat.le_trans (Nat.le_trans Z0 E2.1) K3.1) K4.1) hasd f5 f6 f7 i4_1) hZ (hi 71 rfl) (hi 45 rfl) (by decide) (by decide)) (g := (mkF m 32 #[vA a1, vI (0 : Int32), vI (3 : Int32), vA b2, vI (1 : Int32), vA b2_2_4] [(.int (1 : Int32)), (.ref b2_2_4)])) rfl (by rw [hml]; rfl) (argsL := [(.ref b2_2_4), (.int (1 : Int32))]) (rest := []) (lenOf pd__28_5bBI_29C rfl) rfl (by show 2 * 0 + _ ≤ _; exact Nat.le_of_eq rfl) (hb hby d7_32) (fun _ _ => ⟨rfl, rfl, (by decide : 2 + 0 ≤ _), (by decide : 9 + 0 ≤ _)⟩)
  dsimp only [Pt.U, Pt.locs, Pt.cells, Pt.slots] at X5 l5 y5 z5 st5 hQ5
  subst l5 y5 z5
  obtain ⟨rfl, N5q, e5⟩ := hQ5
  have N5 := Fr.app N4 N5q
  obtain ⟨fs, hr, hrun, hended, hW, hsame⟩ := X5.leave (v := some (.ref b2_2_4)) (fun h => by rw [Bd.returns] at h; cases h)
  refine ⟨_, _, pre0 _ ?_, hrun, hended, _, _, rfl, ?_, ⟨_, rfl⟩, hW, hsame.mono (by decide) (by decide)⟩
  · show Steps p.tables e below (s₁.setTop (mkF m 0 #[vA a1, vI (0 : Int32), vI (3 : Int32), vU, vU, vU] [])) _
    refine XS.iloadN X0.here hx rfl (hb hby d7_0) rfl ?_
    show Steps p.tables e below (s₁.setTop (mkF m 1 #[vA a1, vI (0 : Int32), vI (3 : Int32), vU, vU, vU] [(.int (3 : Int32))])) _
    refine st2 _ ?_
    refine XS.astoreN X2.here hx rfl (hb hby d7_3) rfl rfl (l' := #[vA a1, vI (0 : Int32), vI (3 : Int32), vA b2, vU, vU]) rfl ?_
    refine XS.aloadN X2.here hx rfl (hb hby d7_4) rfl rfl ?_
    refine XS.iloadN X2.here hx rfl (hb hby d7_5) rfl ?_
    refine XS.aloadN X2.here hx rfl (hb hby d7_6) rfl rfl ?_
    refine XS.iconst X2.here hx rfl (hb hby d7_7) ?_
    refine XS.iloadN X2.here hx rfl (hb hby d7_8) rfl ?_
    show Steps p.tables e below (T2.setTop (mkF m 9 #[vA a1, vI (0 : Int32), vI (3 : Int32), vA b2, vU, vU] [(.int (3 : Int32)), (.int (0 : Int32)), (.ref b2), (.int (0 : Int32)), (.ref a1)])) _
    refine st3 _ ?_
    refine XS.istore X3.here hx rfl (hb hby d7_12) rfl (l' := #[vA a1, vI (0 : Int32), vI (3 : Int32), vA b2, vI (1 : Int32), vU]) rfl ?_
    refine XS.iload X3.here hx rfl (hb hby d7_14) rfl ?_
    refine XS.iloadN X3.here hx rfl (hb hby d7_16) rfl ?_
    show Steps p.tables e below (T3.setTop (mkF m 17 #[vA a1, vI (0 : Int32), vI (3 : Int32), vA b2, vI (1 : Int32), vU] [(.int (3 : Int32)), (.int (1 : Int32))])) _
    refine XS.icmpNo X3.here hx rfl (hb hby d7_17) rfl (feq (by decide : ¬ ((1 : Int32) = (3 : Int32)))).1 ?_
    refine XS.aloadN X3.here hx rfl (hb hby d7_20) rfl rfl ?_
    refine XS.iloadN X3.here hx rfl (hb hby d7_21) rfl ?_
    refine XS.iloadN X3.here hx rfl (hb hby d7_22) rfl ?_
    show Steps p.tables e below (T3.setTop (mkF m 23 #[vA a1, vI (0 : Int32), vI (3 : Int32), vA b2, vI (1 : Int32), vU] [(.int (3 : Int32)), (.int (0 : Int32)), (.ref a1)])) _
    refine st4 _ ?_
    refine XS.astore X4.here hx rfl (hb hby d7_26) rfl rfl (l' := #[vA a1, vI (0 : Int32), vI (3 : Int32), vA b2, vI (1 : Int32), vA b2_2_4]) rfl ?_
    refine XS.aload X4.here hx rfl (hb hby d7_28) rfl rfl ?_
    refine XS.iload X4.here hx rfl (hb hby d7_30) rfl ?_
    show Steps p.tables e below (T4.setTop (mkF m 32 #[vA a1, vI (0 : Int32), vI (3 : Int32), vA b2, vI (1 : Int32), vA b2_2_4] [(.int (1 : Int32)), (.ref b2_2_4)])) _
    refine st5 _ ?_
    refine XS.sipush X5.here hx rfl (hb hby d7_35) ?_
    show Steps p.tables e below (T5.setTop (mkF m 38 #[vA a1, vI (0 : Int32), vI (3 : Int32), vA b2, vI (1 : Int32), vA b2_2_4] [(.int (255 : Int32)), (.int (nar .char (t14_3 s_HI_BYTE_SHIFT s_LO_BYTE_SHIFT (nar .byte ((x_a1_1 >>> (s_HI_BYTE_SHIFT &&& 31)).toInt8.toInt32)) (nar .byte ((x_a1_1 >>> (s_LO_BYTE_SHIFT &&& 31)).toInt8.toInt32)))))])) _
    refine XS.icmpYes X5.here hx rfl (pc0 := 38) (pc' := 54) rfl (hb hby d7_38) rfl (tlt (show (255 : Int32) < (t7_1 s_HI_BYTE_SHIFT s_LO_BYTE_SHIFT x_a1_1) from (own_rt2 _ _ _ hhi hlo hch1 hhc20'_9))).2.2.1 (by decide) (by decide) ?_
    refine XS.aload X5.here hx rfl (hb hby d7_54) rfl rfl ?_
    show Steps p.tables e below (T5.setTop (mkF m 56 #[vA a1, vI (0 : Int32), vI (3 : Int32), vA b2, vI (1 : Int32), vA b2_2_4] [(.ref b2_2_4)])) _
    jvm_step X5.here [X5.here.top, hx, (hb hby d7_56), X5.method', Bd.returns, Value.isRef, FieldType.isReference]
    first | (intro acts; rw [hr _ acts rfl rfl rfl]) | rw [hr _ _ rfl rfl rfl]
    exact Steps.refl _
  · show Q_rm7_3 Z a1 s__assertionsDisabled s_HI_BYTE_SHIFT s_LO_BYTE_SHIFT k_a1 x_a1_0 x_a1_1 x_a1_2 h0 n0 _ T5.heap _
    rw [e5]
    exact ⟨b2_2_4, ⟨k2_2_4, ⟨(6 : Int32), ⟨[(.int (nar .byte ((x_a1_0 >>> (s_HI_BYTE_SHIFT &&& 31)).toInt8.toInt32))), (.int (nar .byte ((x_a1_0 >>> (s_LO_BYTE_SHIFT &&& 31)).toInt8.toInt32))), (.int (nar .byte ((x_a1_1 >>> (s_HI_BYTE_SHIFT &&& 31)).toInt8.toInt32))), (.int (nar .byte ((x_a1_1 >>> (s_LO_BYTE_SHIFT &&& 31)).toInt8.toInt32))), (.int (nar .byte ((x_a1_2 >>> (s_HI_BYTE_SHIFT &&& 31)).toInt8.toInt32))), (.int (nar .byte ((x_a1_2 >>> (s_LO_BYTE_SHIFT &&& 31)).toInt8.toInt32)))], ⟨rfl, N5, ((((Keep.refl h0 []).ext E2).trans K3 (fun x q => (List.mem_cons.mp q).elim (fun r => r ▸ (Or.inr sz_b2)) ((fun _ q => nomatch q) x))).trans K4 (fun _ q => nomatch q)), sz_b2_2_4, i4_1, Or.inr rfl⟩⟩⟩⟩⟩
set_option maxRecDepth 65536 in
set_option maxHeartbeats 40000000 in
theorem rm7_3_k2 (l : Launch) (Z : State) (a0 : Array Value) (hw : ∀ d ∈ tables_1, d.before a0 Z = true) (ws : List Jvm.Cond) (a1 : Addr) (s__assertionsDisabled : Int32) (s_HI_BYTE_SHIFT : Int32) (s_LO_BYTE_SHIFT : Int32) (k_a1 : ClassId) (x_a1_0 : Int32) (x_a1_1 : Int32) (x_a1_2 : Int32) (h0 : Heap) (n0 : Nat) (Z0 : n0 ≤ h0.size) (hasd : ¬ (s__assertionsDisabled = (0 : Int32))) (hhi : s_HI_BYTE_SHIFT = (0 : Int32)) (hlo : s_LO_BYTE_SHIFT = (8 : Int32)) (hch0 : nar .char x_a1_0 = x_a1_0) (hch1 : nar .char x_a1_1 = x_a1_1) (hch2 : nar .char x_a1_2 = x_a1_2) (S__assertionsDisabled : Sta Z h0 "java/lang/StringUTF16" "$assertionsDisabled" "Z" (.int s__assertionsDisabled)) (S_HI_BYTE_SHIFT : Sta Z h0 "java/lang/StringUTF16" "HI_BYTE_SHIFT" "I" (.int s_HI_BYTE_SHIFT)) (S_LO_BYTE_SHIFT : Sta Z h0 "java/lang/StringUTF16" "LO_BYTE_SHIFT" "I" (.int s_LO_BYTE_SHIFT)) (V_a1 : Arv Z h0 a1 k_a1 .char (3 : Int32) [(.int x_a1_0), (.int x_a1_1), (.int x_a1_2)] (.int (0 : Int32))) (hhc20_9 : ¬ ((255 : Int32) < x_a1_0)) (hhc20'_9 : ¬ ((255 : Int32) < x_a1_1)) (hhc20''_9 : (255 : Int32) < x_a1_2) :
    MetFree l (⟨"java/lang/StringUTF16", "compress", "([CII)[B"⟩ : MethodName) (head1 (Jvm.Cond.code (⟨"java/lang/StringUTF16", "compress", "([CII)[B"⟩ : MethodName) jdk_52_method_16_code 6 (some (.array .byte)) :: ws) ({ frames := 3, cells := 2, slots := 9, locals := 40 } : Room)) (fun a U => a = #[(.ref a1), (.int (0 : Int32)), (.int (3 : Int32))] ∧ Z.Warmed39 U.vm ∧ U.heap = h0) (fun _ _ _ _ _ => True) (fun _ U o U' => ∃ v L, o = .returned v ∧ Q_rm7_3 Z a1 s__assertionsDisabled s_HI_BYTE_SHIFT s_LO_BYTE_SHIFT k_a1 x_a1_0 x_a1_1 x_a1_2 h0 n0 v U'.heap L ∧ FrameEnd U o U' L ({ frames := 3, cells := 2, slots := 9, locals := 40 } : Room).cells ({ frames := 3, cells := 2, slots := 9, locals := 40 } : Room).slots) := by
  have hi : ∀ (i : Nat) {d : Jvm.Cond}, tables_1[i]? = some d → d.before a0 Z = true := fun i d h => hw d (List.mem_of_getElem? h)
  refine MetFree.of_bodySF (plainFor_of_name pn_7) hisR ?_
  intro p e s m args below meth c s₁ Bd hml0 hP hK
  obtain ⟨rfl, hZ, hh⟩ := hP
  have hx := Bd.exec
  have hby := Bd.bytes
  have hml : c.maxLocals = 6 := hml0
  have hown : s.vm.findClass "java/lang/StringUTF16" = some m.cls := findClass_of_methodNamed Bd.named
  have hnm := (name_of_methodNamed Bd.named Bd.method).1
  have X0 : Stand p l e ({ frames := 3, cells := 2, slots := 9, locals := 40 } : Room) s m #[(.ref a1), (.int (0 : Int32)), (.int (3 : Int32))] below meth c s₁ [] 0 0 := Stand.of_body Bd
  have e0 : s₁.heap = h0 := by rw [← hh, Bd.state]; rfl
  have N0 := Fr.nil n0
  have pre0 : ∀ t, Steps p.tables e below (s₁.setTop (mkF m 0 #[vA a1, vI (0 : Int32), vI (3 : Int32), vU, vU, vU] [])) t → Steps p.tables e below (s₁.setTop (entryFrame m #[(.ref a1), (.int (0 : Int32)), (.int (3 : Int32))] 6)) t := fun t k => castTop (ef_7 m a1 (0 : Int32) (3 : Int32)) k
  obtain ⟨T2, h2, k2, X2, e2, E2, A2, st2⟩ := newP X0 hx hZ (hi 17 rfl) e0 (g := (mkF m 1 #[vA a1, vI (0 : Int32), vI (3 : Int32), vU, vU, vU] [(.int (3 : Int32))])) rfl (hb hby d7_1) rfl (by decide) (cap := 3) (by decide) (by decide) (by decide) (by decide)
  obtain ⟨b2, g2⟩ : ∃ z, z = h0.size := ⟨_, rfl⟩
  rw [← g2] at A2 st2
  have g_b2 : n0 ≤ b2 := Nat.le_trans Z0 (Nat.le_of_eq g2.symm)
  have sz_b2 : h0.size ≤ b2 := Nat.le_trans (Nat.le_refl h0.size) (Nat.le_of_eq g2.symm)
  have V_b2 : Arv Z h2 b2 k2 .byte (3 : Int32) [(.int (0 : Int32)), (.int (0 : Int32)), (.int (0 : Int32))] (.int (0 : Int32)) := (Arv.new A2 (by decide)).pad (pad_rep [] (.int (0 : Int32)) 3)
  have f0 := (V_a1.ext E2)
  obtain ⟨_, _, ⟨T3, L3, k3, n3⟩, -, X3, ⟨Lc3, hQ3, l3, y3, z3⟩, st3⟩ := Jvm.LawKit.callS X2 hx (y := (⟨"java/lang/StringUTF16", "compress", "([CI[BII)I"⟩ : MethodName)) hown (mvT hZ (hi 47 rfl)) (mvT hZ (hi 48 rfl)) (mvT hZ (hi 45 rfl)) (mvT hZ (hi 49 rfl)) (by decide) (backOf (W := 0) (rm8_3_2 l Z a0 hw [] a1 b2 k_a1 x_a1_0 x_a1_1 x_a1_2 k2 (0 : Int32) (0 : Int32) (0 : Int32) h2 n0 (Nat.le_trans Z0 E2.1) g_b2 f0 V_b2 hhc20_9 (Nat.ne_of_lt (Nat.lt_of_lt_of_le V_a1.lt (Nat.le_of_eq g2.symm))) hhc20'_9 hhc20''_9) hZ (hi 49 rfl) (hi 45 rfl) (by decide) (by decide)) (g := (mkF m 9 #[vA a1, vI (0 : Int32), vI (3 : Int32), vA b2, vU, vU] [(.int (3 : Int32)), (.int (0 : Int32)), (.ref b2), (.int (0 : Int32)), (.ref a1)])) rfl (by rw [hml]; rfl) (argsL := [(.ref a1), (.int (0 : Int32)), (.ref b2), (.int (0 : Int32)), (.int (3 : Int32))]) (rest := []) (lenOf pd__28_5bCI_5bBII_29I rfl) rfl (by show 2 * 0 + _ ≤ _; exact Nat.le_of_eq rfl) (hb hby d7_9) (fun _ _ => ⟨rfl, e2, (by decide : 1 + 0 ≤ _), (by decide : 3 + 0 ≤ _)⟩)
  dsimp only [Pt.U, Pt.locs, Pt.cells, Pt.slots] at X3 l3 y3 z3 st3 hQ3
  subst l3 y3 z3
  obtain ⟨rfl, N3q, K3, i3_0⟩ := hQ3
  have N3 := Fr.app N0 N3q
  have f1 := (own_sta_keep (S__assertionsDisabled.ext E2) K3 (own_qc (own_nstV V_b2) own_q0))
  have f2 := (own_sta_keep (S_HI_BYTE_SHIFT.ext E2) K3 (own_qc (own_nstV V_b2) own_q0))
  have f3 := (own_sta_keep (S_LO_BYTE_SHIFT.ext E2) K3 (own_qc (own_nstV V_b2) own_q0))
  have f4 := (f0.keep K3 (own_nm (Nat.ne_of_lt (Nat.lt_of_lt_of_le V_a1.lt (Nat.le_of_eq g2.symm))) own_n0))
  obtain ⟨_, _, ⟨T4, L4, k4, n4⟩, -, X4, ⟨Lc4, hQ4, l4, y4, z4⟩, st4⟩ := Jvm.LawKit.callS X3 hx (y := (⟨"java/lang/StringUTF16", "toBytes", "([CII)[B"⟩ : MethodName)) hown (mvT hZ (hi 53 rfl)) (mvT hZ (hi 54 rfl)) (mvT hZ (hi 45 rfl)) (mvT hZ (hi 55 rfl)) (by decide) (backOf (W := 0) (rm10_3 l Z a0 hw [] a1 s__assertionsDisabled s_HI_BYTE_SHIFT s_LO_BYTE_SHIFT k_a1 x_a1_0 x_a1_1 x_a1_2 T3.heap n0 (Nat.le_trans (Nat.le_trans Z0 E2.1) K3.1) hasd f1 f2 f3 f4) hZ (hi 55 rfl) (hi 45 rfl) (by decide) (by decide)) (g := (mkF m 23 #[vA a1, vI (0 : Int32), vI (3 : Int32), vA b2, vI (2 : Int32), vU] [(.int (3 : Int32)), (.int (0 : Int32)), (.ref a1)])) rfl (by rw [hml]; rfl) (argsL := [(.ref a1), (.int (0 : Int32)), (.int (3 : Int32))]) (rest := []) (lenOf pd__28_5bCII_29_5bB rfl) rfl (by show 2 * 0 + _ ≤ _; exact Nat.le_of_eq rfl) (hb hby d7_23) (fun _ _ => ⟨rfl, rfl, (by decide : 1 + 1 ≤ _), (by decide : 3 + 6 ≤ _)⟩)
  dsimp only [Pt.U, Pt.locs, Pt.cells, Pt.slots] at X4 l4 y4 z4 st4 hQ4
  subst l4 y4 z4
  obtain ⟨b2_2_4, ⟨k2_2_4, ⟨rfl, N4q, K4, i4_0, i4_1⟩⟩⟩ := hQ4
  have N4 := Fr.app N3 N4q
  have sz_b2_2_4 : h0.size ≤ b2_2_4 := Nat.le_trans (Nat.le_trans (Nat.le_trans (Nat.le_refl h0.size) E2.1) K3.1) i4_0
  have g_b2_2_4 : n0 ≤ b2_2_4 := Nat.le_trans Z0 sz_b2_2_4
  have f5 := (own_sta_keep f1 K4 own_q0)
  have f6 := (own_sta_keep f2 K4 own_q0)
  have f7 := (own_sta_keep f3 K4 own_q0)
  obtain ⟨_, _, ⟨T5, L5, k5, n5⟩, -, X5, ⟨Lc5, hQ5, l5, y5, z5⟩, st5⟩ := Jvm.LawKit.callS X4 hx (y := (⟨"java/lang/StringUTF16", "getChar", "([BI)C"⟩ : MethodName)) hown (mvT hZ (hi 69 rfl)) (mvT hZ (hi 70 rfl)) (mvT hZ (hi 45 rfl)) (mvT hZ (hi 71 rfl)) (by decide) (backOf (W := 0) (rm14_3_2 l Z a0 hw [] b2_2_4 s__assertionsDisabled s_HI_BYTE_SHIFT s_LO_BYTE_SHIFT k2_2_4 (nar .byte ((x_a1_0 >>> (s_HI_BYTE_SHIFT &&& 31)).toInt8.toInt32)) (nar .byte ((x_a1_0 >>> (s_LO_BYTE_SHIFT &&& 31)).toInt8.toInt32)) (nar .byte ((x_a1_1 >>> (s_HI_BYTE_SHIFT &&& 31)).toInt8.toInt32)) (nar .byte ((x_a1_1 >>> (s_LO_BYTE_SHIFT &&& 31)).toInt8.toInt32)) (nar .byte ((x_a1_2 >>> (s_HI_BYTE_SHIFT &&& 31)).toInt8.toInt32)) (nar .byte ((x_a1_2 >>> (s_LO_BYTE_SHIFT &&& 31)).toInt8.toInt32)) T4.heap n0 (Nat.le_trans (Nat.le_trans (Nat.le_trans Z0 E2.1) K3.1) K4.1) hasd f5 f6 f7 i4_1) hZ (hi 71 rfl) (hi 45 rfl) (by decide) (by decide)) (g := (mkF m 32 #[vA a1, vI (0 : Int32), vI (3 : Int32), vA b2, vI (2 : Int32), vA b2_2_4] [(.int (2 : Int32)), (.ref b2_2_4)])) rfl (by rw [hml]; rfl) (argsL := [(.ref b2_2_4), (.int (2 : Int32))]) (rest := []) (lenOf pd__28_5bBI_29C rfl) rfl (by show 2 * 0 + _ ≤ _; exact Nat.le_of_eq rfl) (hb hby d7_32) (fun _ _ => ⟨rfl, rfl, (by decide : 2 + 0 ≤ _), (by decide : 9 + 0 ≤ _)⟩)
  dsimp only [Pt.U, Pt.locs, Pt.cells, Pt.slots] at X5 l5 y5 z5 st5 hQ5
  subst l5 y5 z5
  obtain ⟨rfl, N5q, e5⟩ := hQ5
  have N5 := Fr.app N4 N5q
  obtain ⟨fs, hr, hrun, hended, hW, hsame⟩ := X5.leave (v := some (.ref b2_2_4)) (fun h => by rw [Bd.returns] at h; cases h)
  refine ⟨_, _, pre0 _ ?_, hrun, hended, _, _, rfl, ?_, ⟨_, rfl⟩, hW, hsame.mono (by decide) (by decide)⟩
  · show Steps p.tables e below (s₁.setTop (mkF m 0 #[vA a1, vI (0 : Int32), vI (3 : Int32), vU, vU, vU] [])) _
    refine XS.iloadN X0.here hx rfl (hb hby d7_0) rfl ?_
    show Steps p.tables e below (s₁.setTop (mkF m 1 #[vA a1, vI (0 : Int32), vI (3 : Int32), vU, vU, vU] [(.int (3 : Int32))])) _
    refine st2 _ ?_
    refine XS.astoreN X2.here hx rfl (hb hby d7_3) rfl rfl (l' := #[vA a1, vI (0 : Int32), vI (3 : Int32), vA b2, vU, vU]) rfl ?_
    refine XS.aloadN X2.here hx rfl (hb hby d7_4) rfl rfl ?_
    refine XS.iloadN X2.here hx rfl (hb hby d7_5) rfl ?_
    refine XS.aloadN X2.here hx rfl (hb hby d7_6) rfl rfl ?_
    refine XS.iconst X2.here hx rfl (hb hby d7_7) ?_
    refine XS.iloadN X2.here hx rfl (hb hby d7_8) rfl ?_
    show Steps p.tables e below (T2.setTop (mkF m 9 #[vA a1, vI (0 : Int32), vI (3 : Int32), vA b2, vU, vU] [(.int (3 : Int32)), (.int (0 : Int32)), (.ref b2), (.int (0 : Int32)), (.ref a1)])) _
    refine st3 _ ?_
    refine XS.istore X3.here hx rfl (hb hby d7_12) rfl (l' := #[vA a1, vI (0 : Int32), vI (3 : Int32), vA b2, vI (2 : Int32), vU]) rfl ?_
    refine XS.iload X3.here hx rfl (hb hby d7_14) rfl ?_
    refine XS.iloadN X3.here hx rfl (hb hby d7_16) rfl ?_
    show Steps p.tables e below (T3.setTop (mkF m 17 #[vA a1, vI (0 : Int32), vI (3 : Int32), vA b2, vI (2 : Int32), vU] [(.int (3 : Int32)), (.int (2 : Int32))])) _
    refine XS.icmpNo X3.here hx rfl (hb hby d7_17) rfl (feq (by decide : ¬ ((2 : Int32) = (3 : Int32)))).1 ?_
    refine XS.aloadN X3.here hx rfl (hb hby d7_20) rfl rfl ?_
    refine XS.iloadN X3.here hx rfl (hb hby d7_21) rfl ?_
    refine XS.iloadN X3.here hx rfl (hb hby d7_22) rfl ?_
    show Steps p.tables e below (T3.setTop (mkF m 23 #[vA a1, vI (0 : Int32), vI (3 : Int32), vA b2, vI (2 : Int32), vU] [(.int (3 : Int32)), (.int (0 : Int32)), (.ref a1)])) _
    refine st4 _ ?_
    refine XS.astore X4.here hx rfl (hb hby d7_26) rfl rfl (l' := #[vA a1, vI (0 : Int32), vI (3 : Int32), vA b2, vI (2 : Int32), vA b2_2_4]) rfl ?_
    refine XS.aload X4.here hx rfl (hb hby d7_28) rfl rfl ?_
    refine XS.iload X4.here hx rfl (hb hby d7_30) rfl ?_
    show Steps p.tables e below (T4.setTop (mkF m 32 #[vA a1, vI (0 : Int32), vI (3 : Int32), vA b2, vI (2 : Int32), vA b2_2_4] [(.int (2 : Int32)), (.ref b2_2_4)])) _
    refine st5 _ ?_
    refine XS.sipush X5.here hx rfl (hb hby d7_35) ?_
    show Steps p.tables e below (T5.setTop (mkF m 38 #[vA a1, vI (0 : Int32), vI (3 : Int32), vA b2, vI (2 : Int32), vA b2_2_4] [(.int (255 : Int32)), (.int (nar .char (t14_5 s_HI_BYTE_SHIFT s_LO_BYTE_SHIFT (nar .byte ((x_a1_2 >>> (s_HI_BYTE_SHIFT &&& 31)).toInt8.toInt32)) (nar .byte ((x_a1_2 >>> (s_LO_BYTE_SHIFT &&& 31)).toInt8.toInt32)))))])) _
    refine XS.icmpYes X5.here hx rfl (pc0 := 38) (pc' := 54) rfl (hb hby d7_38) rfl (tlt (show (255 : Int32) < (t7_2 s_HI_BYTE_SHIFT s_LO_BYTE_SHIFT x_a1_2) from (own_rt2 _ _ _ hhi hlo hch2 hhc20''_9))).2.2.1 (by decide) (by decide) ?_
    refine XS.aload X5.here hx rfl (hb hby d7_54) rfl rfl ?_
    show Steps p.tables e below (T5.setTop (mkF m 56 #[vA a1, vI (0 : Int32), vI (3 : Int32), vA b2, vI (2 : Int32), vA b2_2_4] [(.ref b2_2_4)])) _
    jvm_step X5.here [X5.here.top, hx, (hb hby d7_56), X5.method', Bd.returns, Value.isRef, FieldType.isReference]
    first | (intro acts; rw [hr _ acts rfl rfl rfl]) | rw [hr _ _ rfl rfl rfl]
    exact Steps.refl _
  · show Q_rm7_3 Z a1 s__assertionsDisabled s_HI_BYTE_SHIFT s_LO_BYTE_SHIFT k_a1 x_a1_0 x_a1_1 x_a1_2 h0 n0 _ T5.heap _
    rw [e5]
    exact ⟨b2_2_4, ⟨k2_2_4, ⟨(6 : Int32), ⟨[(.int (nar .byte ((x_a1_0 >>> (s_HI_BYTE_SHIFT &&& 31)).toInt8.toInt32))), (.int (nar .byte ((x_a1_0 >>> (s_LO_BYTE_SHIFT &&& 31)).toInt8.toInt32))), (.int (nar .byte ((x_a1_1 >>> (s_HI_BYTE_SHIFT &&& 31)).toInt8.toInt32))), (.int (nar .byte ((x_a1_1 >>> (s_LO_BYTE_SHIFT &&& 31)).toInt8.toInt32))), (.int (nar .byte ((x_a1_2 >>> (s_HI_BYTE_SHIFT &&& 31)).toInt8.toInt32))), (.int (nar .byte ((x_a1_2 >>> (s_LO_BYTE_SHIFT &&& 31)).toInt8.toInt32)))], ⟨rfl, N5, ((((Keep.refl h0 []).ext E2).trans K3 (fun x q => (List.mem_cons.mp q).elim (fun r => r ▸ (Or.inr sz_b2)) ((fun _ q => nomatch q) x))).trans K4 (fun _ q => nomatch q)), sz_b2_2_4, i4_1, Or.inr rfl⟩⟩⟩⟩⟩
set_option maxRecDepth 65536 in
set_option maxHeartbeats 40000000 in
theorem rm7_3_k3 (l : Launch) (Z : State) (a0 : Array Value) (hw : ∀ d ∈ tables_1, d.before a0 Z = true) (ws : List Jvm.Cond) (a1 : Addr) (s__assertionsDisabled : Int32) (s_HI_BYTE_SHIFT : Int32) (s_LO_BYTE_SHIFT : Int32) (k_a1 : ClassId) (x_a1_0 : Int32) (x_a1_1 : Int32) (x_a1_2 : Int32) (h0 : Heap) (n0 : Nat) (Z0 : n0 ≤ h0.size) (hasd : ¬ (s__assertionsDisabled = (0 : Int32))) (hhi : s_HI_BYTE_SHIFT = (0 : Int32)) (hlo : s_LO_BYTE_SHIFT = (8 : Int32)) (hch0 : nar .char x_a1_0 = x_a1_0) (hch1 : nar .char x_a1_1 = x_a1_1) (hch2 : nar .char x_a1_2 = x_a1_2) (S__assertionsDisabled : Sta Z h0 "java/lang/StringUTF16" "$assertionsDisabled" "Z" (.int s__assertionsDisabled)) (S_HI_BYTE_SHIFT : Sta Z h0 "java/lang/StringUTF16" "HI_BYTE_SHIFT" "I" (.int s_HI_BYTE_SHIFT)) (S_LO_BYTE_SHIFT : Sta Z h0 "java/lang/StringUTF16" "LO_BYTE_SHIFT" "I" (.int s_LO_BYTE_SHIFT)) (V_a1 : Arv Z h0 a1 k_a1 .char (3 : Int32) [(.int x_a1_0), (.int x_a1_1), (.int x_a1_2)] (.int (0 : Int32))) (hhc20_9 : ¬ ((255 : Int32) < x_a1_0)) (hhc20'_9 : ¬ ((255 : Int32) < x_a1_1)) (hhc20''_9 : ¬ ((255 : Int32) < x_a1_2)) :
    MetFree l (⟨"java/lang/StringUTF16", "compress", "([CII)[B"⟩ : MethodName) (head1 (Jvm.Cond.code (⟨"java/lang/StringUTF16", "compress", "([CII)[B"⟩ : MethodName) jdk_52_method_16_code 6 (some (.array .byte)) :: ws) ({ frames := 3, cells := 2, slots := 9, locals := 40 } : Room)) (fun a U => a = #[(.ref a1), (.int (0 : Int32)), (.int (3 : Int32))] ∧ Z.Warmed39 U.vm ∧ U.heap = h0) (fun _ _ _ _ _ => True) (fun _ U o U' => ∃ v L, o = .returned v ∧ Q_rm7_3 Z a1 s__assertionsDisabled s_HI_BYTE_SHIFT s_LO_BYTE_SHIFT k_a1 x_a1_0 x_a1_1 x_a1_2 h0 n0 v U'.heap L ∧ FrameEnd U o U' L ({ frames := 3, cells := 2, slots := 9, locals := 40 } : Room).cells ({ frames := 3, cells := 2, slots := 9, locals := 40 } : Room).slots) := by
  have hi : ∀ (i : Nat) {d : Jvm.Cond}, tables_1[i]? = some d → d.before a0 Z = true := fun i d h => hw d (List.mem_of_getElem? h)
  refine MetFree.of_bodySF (plainFor_of_name pn_7) hisR ?_
  intro p e s m args below meth c s₁ Bd hml0 hP hK
  obtain ⟨rfl, hZ, hh⟩ := hP
  have hx := Bd.exec
  have hby := Bd.bytes
  have hml : c.maxLocals = 6 := hml0
  have hown : s.vm.findClass "java/lang/StringUTF16" = some m.cls := findClass_of_methodNamed Bd.named
  have hnm := (name_of_methodNamed Bd.named Bd.method).1
  have X0 : Stand p l e ({ frames := 3, cells := 2, slots := 9, locals := 40 } : Room) s m #[(.ref a1), (.int (0 : Int32)), (.int (3 : Int32))] below meth c s₁ [] 0 0 := Stand.of_body Bd
  have e0 : s₁.heap = h0 := by rw [← hh, Bd.state]; rfl
  have N0 := Fr.nil n0
  have pre0 : ∀ t, Steps p.tables e below (s₁.setTop (mkF m 0 #[vA a1, vI (0 : Int32), vI (3 : Int32), vU, vU, vU] [])) t → Steps p.tables e below (s₁.setTop (entryFrame m #[(.ref a1), (.int (0 : Int32)), (.int (3 : Int32))] 6)) t := fun t k => castTop (ef_7 m a1 (0 : Int32) (3 : Int32)) k
  obtain ⟨T2, h2, k2, X2, e2, E2, A2, st2⟩ := newP X0 hx hZ (hi 17 rfl) e0 (g := (mkF m 1 #[vA a1, vI (0 : Int32), vI (3 : Int32), vU, vU, vU] [(.int (3 : Int32))])) rfl (hb hby d7_1) rfl (by decide) (cap := 3) (by decide) (by decide) (by decide) (by decide)
  obtain ⟨b2, g2⟩ : ∃ z, z = h0.size := ⟨_, rfl⟩
  rw [← g2] at A2 st2
  have g_b2 : n0 ≤ b2 := Nat.le_trans Z0 (Nat.le_of_eq g2.symm)
  have sz_b2 : h0.size ≤ b2 := Nat.le_trans (Nat.le_refl h0.size) (Nat.le_of_eq g2.symm)
  have V_b2 : Arv Z h2 b2 k2 .byte (3 : Int32) [(.int (0 : Int32)), (.int (0 : Int32)), (.int (0 : Int32))] (.int (0 : Int32)) := (Arv.new A2 (by decide)).pad (pad_rep [] (.int (0 : Int32)) 3)
  have f0 := (V_a1.ext E2)
  obtain ⟨_, _, ⟨T3, L3, k3, n3⟩, -, X3, ⟨Lc3, hQ3, l3, y3, z3⟩, st3⟩ := Jvm.LawKit.callS X2 hx (y := (⟨"java/lang/StringUTF16", "compress", "([CI[BII)I"⟩ : MethodName)) hown (mvT hZ (hi 47 rfl)) (mvT hZ (hi 48 rfl)) (mvT hZ (hi 45 rfl)) (mvT hZ (hi 49 rfl)) (by decide) (backOf (W := 0) (rm8_3_3 l Z a0 hw [] a1 b2 k_a1 x_a1_0 x_a1_1 x_a1_2 k2 (0 : Int32) (0 : Int32) (0 : Int32) h2 n0 (Nat.le_trans Z0 E2.1) g_b2 f0 V_b2 hhc20_9 (Nat.ne_of_lt (Nat.lt_of_lt_of_le V_a1.lt (Nat.le_of_eq g2.symm))) hhc20'_9 hhc20''_9) hZ (hi 49 rfl) (hi 45 rfl) (by decide) (by decide)) (g := (mkF m 9 #[vA a1, vI (0 : Int32), vI (3 : Int32), vA b2, vU, vU] [(.int (3 : Int32)), (.int (0 : Int32)), (.ref b2), (.int (0 : Int32)), (.ref a1)])) rfl (by rw [hml]; rfl) (argsL := [(.ref a1), (.int (0 : Int32)), (.ref b2), (.int (0 : Int32)), (.int (3 : Int32))]) (rest := []) (lenOf pd__28_5bCI_5bBII_29I rfl) rfl (by show 2 * 0 + _ ≤ _; exact Nat.le_of_eq rfl) (hb hby d7_9) (fun _ _ => ⟨rfl, e2, (by decide : 1 + 0 ≤ _), (by decide : 3 + 0 ≤ _)⟩)
  dsimp only [Pt.U, Pt.locs, Pt.cells, Pt.slots] at X3 l3 y3 z3 st3 hQ3
  subst l3 y3 z3
  obtain ⟨rfl, N3q, K3, i3_0⟩ := hQ3
  have N3 := Fr.app N0 N3q
  obtain ⟨fs, hr, hrun, hended, hW, hsame⟩ := X3.leave (v := some (.ref b2)) (fun h => by rw [Bd.returns] at h; cases h)
  refine ⟨_, _, pre0 _ ?_, hrun, hended, _, _, rfl, ?_, ⟨_, rfl⟩, hW, hsame.mono (by decide) (by decide)⟩
  · show Steps p.tables e below (s₁.setTop (mkF m 0 #[vA a1, vI (0 : Int32), vI (3 : Int32), vU, vU, vU] [])) _
    refine XS.iloadN X0.here hx rfl (hb hby d7_0) rfl ?_
    show Steps p.tables e below (s₁.setTop (mkF m 1 #[vA a1, vI (0 : Int32), vI (3 : Int32), vU, vU, vU] [(.int (3 : Int32))])) _
    refine st2 _ ?_
    refine XS.astoreN X2.here hx rfl (hb hby d7_3) rfl rfl (l' := #[vA a1, vI (0 : Int32), vI (3 : Int32), vA b2, vU, vU]) rfl ?_
    refine XS.aloadN X2.here hx rfl (hb hby d7_4) rfl rfl ?_
    refine XS.iloadN X2.here hx rfl (hb hby d7_5) rfl ?_
    refine XS.aloadN X2.here hx rfl (hb hby d7_6) rfl rfl ?_
    refine XS.iconst X2.here hx rfl (hb hby d7_7) ?_
    refine XS.iloadN X2.here hx rfl (hb hby d7_8) rfl ?_
    show Steps p.tables e below (T2.setTop (mkF m 9 #[vA a1, vI (0 : Int32), vI (3 : Int32), vA b2, vU, vU] [(.int (3 : Int32)), (.int (0 : Int32)), (.ref b2), (.int (0 : Int32)), (.ref a1)])) _
    refine st3 _ ?_
    refine XS.istore X3.here hx rfl (hb hby d7_12) rfl (l' := #[vA a1, vI (0 : Int32), vI (3 : Int32), vA b2, vI (3 : Int32), vU]) rfl ?_
    refine XS.iload X3.here hx rfl (hb hby d7_14) rfl ?_
    refine XS.iloadN X3.here hx rfl (hb hby d7_16) rfl ?_
    show Steps p.tables e below (T3.setTop (mkF m 17 #[vA a1, vI (0 : Int32), vI (3 : Int32), vA b2, vI (3 : Int32), vU] [(.int (3 : Int32)), (.int (3 : Int32))])) _
    refine XS.icmpYes X3.here hx rfl (pc0 := 17) (pc' := 57) rfl (hb hby d7_17) rfl (teq (rfl : (3 : Int32) = (3 : Int32))).1 (by decide) (by decide) ?_
    refine XS.aloadN X3.here hx rfl (hb hby d7_57) rfl rfl ?_
    show Steps p.tables e below (T3.setTop (mkF m 58 #[vA a1, vI (0 : Int32), vI (3 : Int32), vA b2, vI (3 : Int32), vU] [(.ref b2)])) _
    jvm_step X3.here [X3.here.top, hx, (hb hby d7_58), X3.method', Bd.returns, Value.isRef, FieldType.isReference]
    first | (intro acts; rw [hr _ acts rfl rfl rfl]) | rw [hr _ _ rfl rfl rfl]
    exact Steps.refl _
  · show Q_rm7_3 Z a1 s__assertionsDisabled s_HI_BYTE_SHIFT s_LO_BYTE_SHIFT k_a1 x_a1_0 x_a1_1 x_a1_2 h0 n0 _ T3.heap _
    exact ⟨b2, ⟨k2, ⟨(3 : Int32), ⟨[(.int (nar .byte (x_a1_0.toInt8.toInt32))), (.int (nar .byte (x_a1_1.toInt8.toInt32))), (.int (nar .byte (x_a1_2.toInt8.toInt32)))], ⟨rfl, N3, (((Keep.refl h0 []).ext E2).trans K3 (fun x q => (List.mem_cons.mp q).elim (fun r => r ▸ (Or.inr sz_b2)) ((fun _ q => nomatch q) x))), sz_b2, i3_0, Or.inl rfl⟩⟩⟩⟩⟩
set_option maxHeartbeats 4000000 in
theorem rm7_3 (l : Launch) (Z : State) (a0 : Array Value) (hw : ∀ d ∈ tables_1, d.before a0 Z = true) (ws : List Jvm.Cond) (a1 : Addr) (s__assertionsDisabled : Int32) (s_HI_BYTE_SHIFT : Int32) (s_LO_BYTE_SHIFT : Int32) (k_a1 : ClassId) (x_a1_0 : Int32) (x_a1_1 : Int32) (x_a1_2 : Int32) (h0 : Heap) (n0 : Nat) (Z0 : n0 ≤ h0.size) (hasd : ¬ (s__assertionsDisabled = (0 : Int32))) (hhi : s_HI_BYTE_SHIFT = (0 : Int32)) (hlo : s_LO_BYTE_SHIFT = (8 : Int32)) (hch0 : nar .char x_a1_0 = x_a1_0) (hch1 : nar .char x_a1_1 = x_a1_1) (hch2 : nar .char x_a1_2 = x_a1_2) (S__assertionsDisabled : Sta Z h0 "java/lang/StringUTF16" "$assertionsDisabled" "Z" (.int s__assertionsDisabled)) (S_HI_BYTE_SHIFT : Sta Z h0 "java/lang/StringUTF16" "HI_BYTE_SHIFT" "I" (.int s_HI_BYTE_SHIFT)) (S_LO_BYTE_SHIFT : Sta Z h0 "java/lang/StringUTF16" "LO_BYTE_SHIFT" "I" (.int s_LO_BYTE_SHIFT)) (V_a1 : Arv Z h0 a1 k_a1 .char (3 : Int32) [(.int x_a1_0), (.int x_a1_1), (.int x_a1_2)] (.int (0 : Int32))) :
    MetFree l (⟨"java/lang/StringUTF16", "compress", "([CII)[B"⟩ : MethodName) (head1 (Jvm.Cond.code (⟨"java/lang/StringUTF16", "compress", "([CII)[B"⟩ : MethodName) jdk_52_method_16_code 6 (some (.array .byte)) :: ws) ({ frames := 3, cells := 2, slots := 9, locals := 40 } : Room)) (fun a U => a = #[(.ref a1), (.int (0 : Int32)), (.int (3 : Int32))] ∧ Z.Warmed39 U.vm ∧ U.heap = h0) (fun _ _ _ _ _ => True) (fun _ U o U' => ∃ v L, o = .returned v ∧ Q_rm7_3 Z a1 s__assertionsDisabled s_HI_BYTE_SHIFT s_LO_BYTE_SHIFT k_a1 x_a1_0 x_a1_1 x_a1_2 h0 n0 v U'.heap L ∧ FrameEnd U o U' L ({ frames := 3, cells := 2, slots := 9, locals := 40 } : Room).cells ({ frames := 3, cells := 2, slots := 9, locals := 40 } : Room).slots) := by
  by_cases hhc20_9 : (255 : Int32) < x_a1_0
  · skip
    exact rm7_3_k0 l Z a0 hw ws a1 s__assertionsDisabled s_HI_BYTE_SHIFT s_LO_BYTE_SHIFT k_a1 x_a1_0 x_a1_1 x_a1_2 h0 n0 Z0 hasd hhi hlo hch0 hch1 hch2 S__assertionsDisabled S_HI_BYTE_SHIFT S_LO_BYTE_SHIFT V_a1 hhc20_9
  · skip
    by_cases hhc20'_9 : (255 : Int32) < x_a1_1
    · skip
      exact rm7_3_k1 l Z a0 hw ws a1 s__assertionsDisabled s_HI_BYTE_SHIFT s_LO_BYTE_SHIFT k_a1 x_a1_0 x_a1_1 x_a1_2 h0 n0 Z0 hasd hhi hlo hch0 hch1 hch2 S__assertionsDisabled S_HI_BYTE_SHIFT S_LO_BYTE_SHIFT V_a1 hhc20_9 hhc20'_9
    · skip
      by_cases hhc20''_9 : (255 : Int32) < x_a1_2
      · skip
        exact rm7_3_k2 l Z a0 hw ws a1 s__assertionsDisabled s_HI_BYTE_SHIFT s_LO_BYTE_SHIFT k_a1 x_a1_0 x_a1_1 x_a1_2 h0 n0 Z0 hasd hhi hlo hch0 hch1 hch2 S__assertionsDisabled S_HI_BYTE_SHIFT S_LO_BYTE_SHIFT V_a1 hhc20_9 hhc20'_9 hhc20''_9
      · skip
        exact rm7_3_k3 l Z a0 hw ws a1 s__assertionsDisabled s_HI_BYTE_SHIFT s_LO_BYTE_SHIFT k_a1 x_a1_0 x_a1_1 x_a1_2 h0 n0 Z0 hasd hhi hlo hch0 hch1 hch2 S__assertionsDisabled S_HI_BYTE_SHIFT S_LO_BYTE_SHIFT V_a1 hhc20_9 hhc20'_9 hhc20''_9
def Q_rm2_3 (Z : State) (a1 : Addr) (a2 : Addr) (s_COMPACT_STRINGS : Int32) (s__assertionsDisabled : Int32) (s_HI_BYTE_SHIFT : Int32) (s_LO_BYTE_SHIFT : Int32) (w_coder_a1 : Int32) (w_value_a1 : Value) (k_a2 : ClassId) (x_a2_0 : Int32) (x_a2_1 : Int32) (x_a2_2 : Int32) (h0 : Heap) (n0 : Nat) (v : Option Value) (h : Heap) (L : List Loc) : Prop := ∃ b_5 : Addr, ∃ k_5 : ClassId, ∃ zz_5 : Int32, ∃ vs_5 : List Value, v = none ∧ Fr n0 L ∧ Keep h0 h [a1] ∧ h0.size ≤ b_5 ∧ Exa Z h a1 "java/lang/String" ∧ Fld Z h a1 "java/lang/String" "coder" "B" (.int (nar .byte (nar .byte ((t9_0 (3 : Int32) zz_5).toInt8.toInt32)))) ∧ Fld Z h a1 "java/lang/String" "value" "[B" (.ref b_5) ∧ Arv Z h b_5 k_5 .byte zz_5 vs_5 (.int (0 : Int32)) ∧ (zz_5 = (3 : Int32) ∨ zz_5 = (6 : Int32))
set_option maxRecDepth 65536 in
set_option maxHeartbeats 40000000 in
theorem rm2_3 (l : Launch) (Z : State) (a0 : Array Value) (hw : ∀ d ∈ tables_1, d.before a0 Z = true) (ws : List Jvm.Cond) (a1 : Addr) (a2 : Addr) (s_COMPACT_STRINGS : Int32) (s__assertionsDisabled : Int32) (s_HI_BYTE_SHIFT : Int32) (s_LO_BYTE_SHIFT : Int32) (w_coder_a1 : Int32) (w_value_a1 : Value) (k_a2 : ClassId) (x_a2_0 : Int32) (x_a2_1 : Int32) (x_a2_2 : Int32) (h0 : Heap) (n0 : Nat) (Z0 : n0 ≤ h0.size) (hcs : ¬ (s_COMPACT_STRINGS = (0 : Int32))) (hasd : ¬ (s__assertionsDisabled = (0 : Int32))) (hhi : s_HI_BYTE_SHIFT = (0 : Int32)) (hlo : s_LO_BYTE_SHIFT = (8 : Int32)) (hch0 : nar .char x_a2_0 = x_a2_0) (hch1 : nar .char x_a2_1 = x_a2_1) (hch2 : nar .char x_a2_2 = x_a2_2) (S_COMPACT_STRINGS : Sta Z h0 "java/lang/String" "COMPACT_STRINGS" "Z" (.int s_COMPACT_STRINGS)) (S__assertionsDisabled : Sta Z h0 "java/lang/StringUTF16" "$assertionsDisabled" "Z" (.int s__assertionsDisabled)) (S_HI_BYTE_SHIFT : Sta Z h0 "java/lang/StringUTF16" "HI_BYTE_SHIFT" "I" (.int s_HI_BYTE_SHIFT)) (S_LO_BYTE_SHIFT : Sta Z h0 "java/lang/StringUTF16" "LO_BYTE_SHIFT" "I" (.int s_LO_BYTE_SHIFT)) (E_a1 : Exa Z h0 a1 "java/lang/String") (F_coder_a1 : Fld Z h0 a1 "java/lang/String" "coder" "B" (.int w_coder_a1)) (g_a1 : n0 ≤ a1) (F_value_a1 : Fld Z h0 a1 "java/lang/String" "value" "[B" w_value_a1) (V_a2 : Arv Z h0 a2 k_a2 .char (3 : Int32) [(.int x_a2_0), (.int x_a2_1), (.int x_a2_2)] (.int (0 : Int32))) :
    MetFree l (⟨"java/lang/String", "<init>", "([CIILjava/lang/Void;)V"⟩ : MethodName) (head1 (Jvm.Cond.code (⟨"java/lang/String", "<init>", "([CIILjava/lang/Void;)V"⟩ : MethodName) jdk_42_method_149_code 6 none :: ws) ({ frames := 4, cells := 2, slots := 9, locals := 57 } : Room)) (fun a U => a = #[(.ref a1), (.ref a2), (.int (0 : Int32)), (.int (3 : Int32)), .null] ∧ Z.Warmed39 U.vm ∧ U.heap = h0) (fun _ _ _ _ _ => True) (fun _ U o U' => ∃ v L, o = .returned v ∧ Q_rm2_3 Z a1 a2 s_COMPACT_STRINGS s__assertionsDisabled s_HI_BYTE_SHIFT s_LO_BYTE_SHIFT w_coder_a1 w_value_a1 k_a2 x_a2_0 x_a2_1 x_a2_2 h0 n0 v U'.heap L ∧ FrameEnd U o U' L ({ frames := 4, cells := 2, slots := 9, locals := 57 } : Room).cells ({ frames := 4, cells := 2, slots := 9, locals := 57 } : Room).slots) := by
  have hi : ∀ (i : Nat) {d : Jvm.Cond}, tables_1[i]? = some d → d.before a0 Z = true := fun i d h => hw d (List.mem_of_getElem? h)
  refine MetFree.of_bodySF (plainFor_of_name pn_2) hisR ?_
  intro p e s m args below meth c s₁ Bd hml0 hP hK
  obtain ⟨rfl, hZ, hh⟩ := hP
  have hx := Bd.exec
  have hby := Bd.bytes
  have hml : c.maxLocals = 6 := hml0
  have hown : s.vm.findClass "java/lang/String" = some m.cls := findClass_of_methodNamed Bd.named
  have hnm := (name_of_methodNamed Bd.named Bd.method).1
  have X0 : Stand p l e ({ frames := 4, cells := 2, slots := 9, locals := 57 } : Room) s m #[(.ref a1), (.ref a2), (.int (0 : Int32)), (.int (3 : Int32)), .null] below meth c s₁ [] 0 0 := Stand.of_body Bd
  have e0 : s₁.heap = h0 := by rw [← hh, Bd.state]; rfl
  have N0 := Fr.nil n0
  have pre0 : ∀ t, Steps p.tables e below (s₁.setTop (mkF m 0 #[vA a1, vA a2, vI (0 : Int32), vI (3 : Int32), .val .null, vU] [])) t → Steps p.tables e below (s₁.setTop (entryFrame m #[(.ref a1), (.ref a2), (.int (0 : Int32)), (.int (3 : Int32)), .null] 6)) t := fun t k => castTop (ef_2n4 m a1 a2 (0 : Int32) (3 : Int32)) k
  obtain ⟨T3, X3, e3, st3⟩ := initO X0 hx hZ hown (hi 13 rfl) (hi 14 rfl) (hi 15 rfl) e0 (g := (mkF m 1 #[vA a1, vA a2, vI (0 : Int32), vI (3 : Int32), .val .null, vU] [(.ref a1)])) rfl (by rw [hml]; rfl) rfl (hb hby d2_1) (by decide) (W := 0) (by show 2 * 0 + _ ≤ _; exact Nat.le_of_eq rfl) (by decide)
  obtain ⟨T4, X4, e4, st4⟩ := getS2 X3 hx hZ hown (host := "") (Or.inl (hi 42 rfl)) Via.refl e3 S_COMPACT_STRINGS (g := (mkF m 27 #[vA a1, vA a2, vI (0 : Int32), vI (3 : Int32), .val .null, vU] [])) rfl (hb hby d2_27)
  obtain ⟨_, _, ⟨T5, L5, k5, n5⟩, -, X5, ⟨Lc5, hQ5, l5, y5, z5⟩, st5⟩ := Jvm.LawKit.callS X4 hx (y := (⟨"java/lang/StringUTF16", "compress", "([CII)[B"⟩ : MethodName)) hown (mvT hZ (hi 43 rfl)) (mvT hZ (hi 44 rfl)) (mvT hZ (hi 45 rfl)) (mvT hZ (hi 46 rfl)) (by decide) (backOf (W := 0) (rm7_3 l Z a0 hw [] a2 s__assertionsDisabled s_HI_BYTE_SHIFT s_LO_BYTE_SHIFT k_a2 x_a2_0 x_a2_1 x_a2_2 h0 n0 Z0 hasd hhi hlo hch0 hch1 hch2 S__assertionsDisabled S_HI_BYTE_SHIFT S_LO_BYTE_SHIFT V_a2) hZ (hi 46 rfl) (hi 45 rfl) (by decide) (by decide)) (g := (mkF m 36 #[vA a1, vA a2, vI (0 : Int32), vI (3 : Int32), .val .null, vU] [(.int (3 : Int32)), (.int (0 : Int32)), (.ref a2)])) rfl (by rw [hml]; rfl) (argsL := [(.ref a2), (.int (0 : Int32)), (.int (3 : Int32))]) (rest := []) (lenOf pd__28_5bCII_29_5bB rfl) rfl (by show 2 * 0 + _ ≤ _; exact Nat.le_of_eq rfl) (hb hby d2_36) (fun _ _ => ⟨rfl, e4, (by decide : 0 + 2 ≤ _), (by decide : 0 + 9 ≤ _)⟩)
  dsimp only [Pt.U, Pt.locs, Pt.cells, Pt.slots] at X5 l5 y5 z5 st5 hQ5
  subst l5 y5 z5
  obtain ⟨b_5, ⟨k_5, ⟨zz_5, ⟨vs_5, ⟨rfl, N5q, K5, i5_0, i5_1, i5_2⟩⟩⟩⟩⟩ := hQ5
  have N5 := Fr.app N0 N5q
  have sz_b_5 : h0.size ≤ b_5 := Nat.le_trans (Nat.le_refl h0.size) i5_0
  have g_b_5 : n0 ≤ b_5 := Nat.le_trans Z0 sz_b_5
  obtain ⟨_, _, ⟨T6, L6, k6, n6⟩, -, X6, ⟨Lc6, hQ6, l6, y6, z6⟩, st6⟩ := Jvm.LawKit.callS X5 hx (y := (⟨"java/lang/StringUTF16", "coderFromArrayLen", "([BI)B"⟩ : MethodName)) hown (mvT hZ (hi 50 rfl)) (mvT hZ (hi 51 rfl)) (mvT hZ (hi 45 rfl)) (mvT hZ (hi 52 rfl)) (by decide) (backOf (W := 1) (rm9 l Z a0 hw [] b_5 (3 : Int32) k_5 zz_5 vs_5 T5.heap n0 (Nat.le_trans Z0 K5.1) i5_1) hZ (hi 52 rfl) (hi 45 rfl) (by decide) (by decide)) (g := (mkF m 45 #[vA a1, vA a2, vI (0 : Int32), vI (3 : Int32), .val .null, vA b_5] [(.int (3 : Int32)), (.ref b_5), (.ref a1)])) rfl (by rw [hml]; rfl) (argsL := [(.ref b_5), (.int (3 : Int32))]) (rest := [(.ref a1)]) (lenOf pd__28_5bBI_29B rfl) rfl (by show 2 * 0 + _ ≤ _; exact Nat.le_of_eq rfl) (hb hby d2_45) (fun _ _ => ⟨rfl, rfl, (by decide : 2 + 0 ≤ _), (by decide : 9 + 0 ≤ _)⟩)
  dsimp only [Pt.U, Pt.locs, Pt.cells, Pt.slots] at X6 l6 y6 z6 st6 hQ6
  subst l6 y6 z6
  obtain ⟨rfl, N6q, e6⟩ := hQ6
  have N6 := Fr.app N5 N6q
  have f0 := (E_a1.keep K5)
  have f1 := (F_coder_a1.keep K5 own_n0)
  obtain ⟨T7, h7, X7, e7, W7, st7⟩ := putFN X6 hx hZ hown (hi 23 rfl) Via.refl e6 f1 f0 (Or.inr ⟨(hi 19 rfl), rfl, hnm⟩) (hi 3 rfl) (ty := .byte) (v' := (.int (nar .byte (nar .byte ((t9_0 (3 : Int32) zz_5).toInt8.toInt32))))) (by decide) rfl (fits_nar_byte _) (g := (mkF m 48 #[vA a1, vA a2, vI (0 : Int32), vI (3 : Int32), .val .null, vA b_5] [(.int (nar .byte ((t9_0 (3 : Int32) zz_5).toInt8.toInt32))), (.ref a1)])) rfl rfl (hb hby d2_48)
  have Fw7 := f1.same W7
  have N7 := Fr.snoc X7 N6 g_a1
  have f2 := (f0.wr W7)
  have f3 := ((F_value_a1.keep K5 own_n0).other W7 (Or.inr (slot_ne (Or.inr (hi 18 rfl)) (Or.inr (hi 19 rfl)) (by decide) (t := (.array .byte)) (t' := .byte) (by decide) (by decide))))
  obtain ⟨T8, h8, X8, e8, W8, st8⟩ := putF X7 hx hZ hown (host := "") (Or.inl (hi 22 rfl)) Via.refl e7 f3 f2 (Or.inr ⟨(hi 18 rfl), rfl, hnm⟩) (hi 3 rfl) (ty := (.array .byte)) (by decide) rfl rfl (g := (mkF m 54 #[vA a1, vA a2, vI (0 : Int32), vI (3 : Int32), .val .null, vA b_5] [(.ref b_5), (.ref a1)])) rfl rfl (hb hby d2_54)
  have Fw8 := f3.same W8
  have N8 := Fr.snoc X8 N7 g_a1
  have f4 := (f2.wr W8)
  have f5 := (Fw7.other W8 (Or.inr (slot_ne (Or.inr (hi 19 rfl)) (Or.inr (hi 18 rfl)) (by decide) (t := .byte) (t' := (.array .byte)) (by decide) (by decide))))
  have f6 := ((i5_1.other W7 (Ne.symm (Nat.ne_of_lt (Nat.lt_of_lt_of_le E_a1.lt i5_0)))).other W8 (Ne.symm (Nat.ne_of_lt (Nat.lt_of_lt_of_le E_a1.lt i5_0))))
  obtain ⟨fs, hr, hrun, hended, hW, hsame⟩ := X8.leave (v := none) (fun _ => rfl)
  refine ⟨_, _, pre0 _ ?_, hrun, hended, _, _, rfl, ?_, ⟨_, rfl⟩, hW, hsame.mono (by decide) (by decide)⟩
  · show Steps p.tables e below (s₁.setTop (mkF m 0 #[vA a1, vA a2, vI (0 : Int32), vI (3 : Int32), .val .null, vU] [])) _
    refine XS.aloadN X0.here hx rfl (hb hby d2_0) rfl rfl ?_
    show Steps p.tables e below (s₁.setTop (mkF m 1 #[vA a1, vA a2, vI (0 : Int32), vI (3 : Int32), .val .null, vU] [(.ref a1)])) _
    refine st3 _ ?_
    refine XS.iloadN X3.here hx rfl (hb hby d2_4) rfl ?_
    show Steps p.tables e below (T3.setTop (mkF m 5 #[vA a1, vA a2, vI (0 : Int32), vI (3 : Int32), .val .null, vU] [(.int (3 : Int32))])) _
    refine XS.ifYes X3.here hx rfl (pc0 := 5) (pc' := 27) rfl (hb hby d2_5) rfl ((if0 _ _).trans (feq (by decide : ¬ ((3 : Int32) = (0 : Int32)))).2) (by decide) (by decide) ?_
    show Steps p.tables e below (T3.setTop (mkF m 27 #[vA a1, vA a2, vI (0 : Int32), vI (3 : Int32), .val .null, vU] [])) _
    refine st4 _ ?_
    show Steps p.tables e below (T4.setTop (mkF m 30 #[vA a1, vA a2, vI (0 : Int32), vI (3 : Int32), .val .null, vU] [(.int s_COMPACT_STRINGS)])) _
    refine XS.ifNo X4.here hx rfl (hb hby d2_30) rfl ((if0 _ _).trans (feq (show ¬ (s_COMPACT_STRINGS = (0 : Int32)) from hcs)).1) ?_
    refine XS.aloadN X4.here hx rfl (hb hby d2_33) rfl rfl ?_
    refine XS.iloadN X4.here hx rfl (hb hby d2_34) rfl ?_
    refine XS.iloadN X4.here hx rfl (hb hby d2_35) rfl ?_
    show Steps p.tables e below (T4.setTop (mkF m 36 #[vA a1, vA a2, vI (0 : Int32), vI (3 : Int32), .val .null, vU] [(.int (3 : Int32)), (.int (0 : Int32)), (.ref a2)])) _
    refine st5 _ ?_
    refine XS.astore X5.here hx rfl (hb hby d2_39) rfl rfl (l' := #[vA a1, vA a2, vI (0 : Int32), vI (3 : Int32), .val .null, vA b_5]) rfl ?_
    refine XS.aloadN X5.here hx rfl (hb hby d2_41) rfl rfl ?_
    refine XS.aload X5.here hx rfl (hb hby d2_42) rfl rfl ?_
    refine XS.iloadN X5.here hx rfl (hb hby d2_44) rfl ?_
    show Steps p.tables e below (T5.setTop (mkF m 45 #[vA a1, vA a2, vI (0 : Int32), vI (3 : Int32), .val .null, vA b_5] [(.int (3 : Int32)), (.ref b_5), (.ref a1)])) _
    refine st6 _ ?_
    show Steps p.tables e below (T6.setTop (mkF m 48 #[vA a1, vA a2, vI (0 : Int32), vI (3 : Int32), .val .null, vA b_5] [(.int (nar .byte ((t9_0 (3 : Int32) zz_5).toInt8.toInt32))), (.ref a1)])) _
    refine st7 _ ?_
    refine XS.aloadN X7.here hx rfl (hb hby d2_51) rfl rfl ?_
    refine XS.aload X7.here hx rfl (hb hby d2_52) rfl rfl ?_
    show Steps p.tables e below (T7.setTop (mkF m 54 #[vA a1, vA a2, vI (0 : Int32), vI (3 : Int32), .val .null, vA b_5] [(.ref b_5), (.ref a1)])) _
    refine st8 _ ?_
    show Steps p.tables e below (T8.setTop (mkF m 57 #[vA a1, vA a2, vI (0 : Int32), vI (3 : Int32), .val .null, vA b_5] [])) _
    exact X8.returnOut hx Bd.returns (hb hby d2_57) hr
  · show Q_rm2_3 Z a1 a2 s_COMPACT_STRINGS s__assertionsDisabled s_HI_BYTE_SHIFT s_LO_BYTE_SHIFT w_coder_a1 w_value_a1 k_a2 x_a2_0 x_a2_1 x_a2_2 h0 n0 _ T8.heap _
    rw [e8]
    exact ⟨b_5, ⟨k_5, ⟨zz_5, ⟨vs_5, ⟨rfl, N8, ((((Keep.refl h0 [a1]).trans K5 (fun _ q => nomatch q)).wr W7 (Or.inl (List.mem_of_getElem? (i := 0) rfl))).wr W8 (Or.inl (List.mem_of_getElem? (i := 0) rfl))), sz_b_5, f4, f5, Fw8, f6, i5_2⟩⟩⟩⟩⟩
def Q_rm1_3 (Z : State) (a1 : Addr) (a2 : Addr) (s_COMPACT_STRINGS : Int32) (s__assertionsDisabled : Int32) (s_HI_BYTE_SHIFT : Int32) (s_LO_BYTE_SHIFT : Int32) (w_coder_a1 : Int32) (w_value_a1 : Value) (k_a2 : ClassId) (x_a2_0 : Int32) (x_a2_1 : Int32) (x_a2_2 : Int32) (h0 : Heap) (n0 : Nat) (v : Option Value) (h : Heap) (L : List Loc) : Prop := ∃ b_5_3 : Addr, ∃ k_5_3 : ClassId, ∃ zz_5_3 : Int32, ∃ vs_5_3 : List Value, v = none ∧ Fr n0 L ∧ Keep h0 h [a1] ∧ h0.size ≤ b_5_3 ∧ Exa Z h a1 "java/lang/String" ∧ Fld Z h a1 "java/lang/String" "coder" "B" (.int (nar .byte (nar .byte ((t9_0 (3 : Int32) zz_5_3).toInt8.toInt32)))) ∧ Fld Z h a1 "java/lang/String" "value" "[B" (.ref b_5_3) ∧ Arv Z h b_5_3 k_5_3 .byte zz_5_3 vs_5_3 (.int (0 : Int32)) ∧ (zz_5_3 = (3 : Int32) ∨ zz_5_3 = (6 : Int32))
set_option maxRecDepth 65536 in
set_option maxHeartbeats 40000000 in
theorem rm1_3 (l : Launch) (Z : State) (a0 : Array Value) (hw : ∀ d ∈ tables_1, d.before a0 Z = true) (ws : List Jvm.Cond) (a1 : Addr) (a2 : Addr) (s_COMPACT_STRINGS : Int32) (s__assertionsDisabled : Int32) (s_HI_BYTE_SHIFT : Int32) (s_LO_BYTE_SHIFT : Int32) (w_coder_a1 : Int32) (w_value_a1 : Value) (k_a2 : ClassId) (x_a2_0 : Int32) (x_a2_1 : Int32) (x_a2_2 : Int32) (h0 : Heap) (n0 : Nat) (Z0 : n0 ≤ h0.size) (hcs : ¬ (s_COMPACT_STRINGS = (0 : Int32))) (hasd : ¬ (s__assertionsDisabled = (0 : Int32))) (hhi : s_HI_BYTE_SHIFT = (0 : Int32)) (hlo : s_LO_BYTE_SHIFT = (8 : Int32)) (hch0 : nar .char x_a2_0 = x_a2_0) (hch1 : nar .char x_a2_1 = x_a2_1) (hch2 : nar .char x_a2_2 = x_a2_2) (S_COMPACT_STRINGS : Sta Z h0 "java/lang/String" "COMPACT_STRINGS" "Z" (.int s_COMPACT_STRINGS)) (S__assertionsDisabled : Sta Z h0 "java/lang/StringUTF16" "$assertionsDisabled" "Z" (.int s__assertionsDisabled)) (S_HI_BYTE_SHIFT : Sta Z h0 "java/lang/StringUTF16" "HI_BYTE_SHIFT" "I" (.int s_HI_BYTE_SHIFT)) (S_LO_BYTE_SHIFT : Sta Z h0 "java/lang/StringUTF16" "LO_BYTE_SHIFT" "I" (.int s_LO_BYTE_SHIFT)) (F_coder_a1 : Fld Z h0 a1 "java/lang/String" "coder" "B" (.int w_coder_a1)) (F_value_a1 : Fld Z h0 a1 "java/lang/String" "value" "[B" w_value_a1) (E_a1 : Exa Z h0 a1 "java/lang/String") (g_a1 : n0 ≤ a1) (V_a2 : Arv Z h0 a2 k_a2 .char (3 : Int32) [(.int x_a2_0), (.int x_a2_1), (.int x_a2_2)] (.int (0 : Int32))) :
    MetFree l (⟨"java/lang/String", "<init>", "([C)V"⟩ : MethodName) (head1 (Jvm.Cond.code (⟨"java/lang/String", "<init>", "([C)V"⟩ : MethodName) jdk_42_method_3_code 2 none :: ws) ({ frames := 5, cells := 2, slots := 9, locals := 74 } : Room)) (fun a U => a = #[(.ref a1), (.ref a2)] ∧ Z.Warmed39 U.vm ∧ U.heap = h0) (fun _ _ _ _ _ => True) (fun _ U o U' => ∃ v L, o = .returned v ∧ Q_rm1_3 Z a1 a2 s_COMPACT_STRINGS s__assertionsDisabled s_HI_BYTE_SHIFT s_LO_BYTE_SHIFT w_coder_a1 w_value_a1 k_a2 x_a2_0 x_a2_1 x_a2_2 h0 n0 v U'.heap L ∧ FrameEnd U o U' L ({ frames := 5, cells := 2, slots := 9, locals := 74 } : Room).cells ({ frames := 5, cells := 2, slots := 9, locals := 74 } : Room).slots) := by
  have hi : ∀ (i : Nat) {d : Jvm.Cond}, tables_1[i]? = some d → d.before a0 Z = true := fun i d h => hw d (List.mem_of_getElem? h)
  refine MetFree.of_bodySF (plainFor_of_name pn_1) hisR ?_
  intro p e s m args below meth c s₁ Bd hml0 hP hK
  obtain ⟨rfl, hZ, hh⟩ := hP
  have hx := Bd.exec
  have hby := Bd.bytes
  have hml : c.maxLocals = 2 := hml0
  have hown : s.vm.findClass "java/lang/String" = some m.cls := findClass_of_methodNamed Bd.named
  have hnm := (name_of_methodNamed Bd.named Bd.method).1
  have X0 : Stand p l e ({ frames := 5, cells := 2, slots := 9, locals := 74 } : Room) s m #[(.ref a1), (.ref a2)] below meth c s₁ [] 0 0 := Stand.of_body Bd
  have e0 : s₁.heap = h0 := by rw [← hh, Bd.state]; rfl
  have N0 := Fr.nil n0
  have pre0 : ∀ t, Steps p.tables e below (s₁.setTop (mkF m 0 #[vA a1, vA a2] [])) t → Steps p.tables e below (s₁.setTop (entryFrame m #[(.ref a1), (.ref a2)] 2)) t := fun t k => castTop (ef_1 m a1 a2) k
  obtain ⟨cl_a2_0, Ar_a2_0, q_a2_0, Sz_a2_0, Ng_a2_0, Ha_a2_0, Gt_a2_0⟩ := id V_a2
  obtain ⟨_, _, ⟨T3, L3, k3, n3⟩, -, X3, ⟨Lc3, hQ3, l3, y3, z3⟩, st3⟩ := X0.specialBack hx (y := (⟨"java/lang/String", "<init>", "([CIILjava/lang/Void;)V"⟩ : MethodName)) rfl hown (mvT hZ (hi 9 rfl)) (mvT hZ (hi 10 rfl)) (mvT hZ (hi 12 rfl)) (by decide) (backOf (W := 0) (rm2_3 l Z a0 hw [] a1 a2 s_COMPACT_STRINGS s__assertionsDisabled s_HI_BYTE_SHIFT s_LO_BYTE_SHIFT w_coder_a1 w_value_a1 k_a2 x_a2_0 x_a2_1 x_a2_2 h0 n0 Z0 hcs hasd hhi hlo hch0 hch1 hch2 S_COMPACT_STRINGS S__assertionsDisabled S_HI_BYTE_SHIFT S_LO_BYTE_SHIFT E_a1 F_coder_a1 g_a1 F_value_a1 V_a2) hZ (hi 12 rfl) (hi 4 rfl) (by decide) (by decide)) (g := (mkF m 6 #[vA a1, vA a2] [.null, (.int (3 : Int32)), (.int (0 : Int32)), (.ref a2), (.ref a1)])) rfl (by rw [hml]; rfl) (Steps.refl _) (a := a1) (argsL := [(.ref a2), (.int (0 : Int32)), (.int (3 : Int32)), .null]) (rest := []) (lenOf pd__28_5bCIILjava_2flang_2fVoid_3b_29V rfl) rfl (by show 2 * 0 + _ ≤ _; exact Nat.le_of_eq rfl) (hb hby d1_6) (fun _ _ => ⟨rfl, e0, (by decide : 0 + 2 ≤ _), (by decide : 0 + 9 ≤ _)⟩)
  dsimp only [Pt.U, Pt.locs, Pt.cells, Pt.slots] at X3 l3 y3 z3 st3 hQ3
  subst l3 y3 z3
  obtain ⟨b_5_3, ⟨k_5_3, ⟨zz_5_3, ⟨vs_5_3, ⟨rfl, N3q, K3, i3_0, i3_1, i3_2, i3_3, i3_4, i3_5⟩⟩⟩⟩⟩ := hQ3
  have N3 := Fr.app N0 N3q
  have sz_b_5_3 : h0.size ≤ b_5_3 := Nat.le_trans (Nat.le_refl h0.size) i3_0
  have g_b_5_3 : n0 ≤ b_5_3 := Nat.le_trans Z0 sz_b_5_3
  obtain ⟨fs, hr, hrun, hended, hW, hsame⟩ := X3.leave (v := none) (fun _ => rfl)
  refine ⟨_, _, pre0 _ ?_, hrun, hended, _, _, rfl, ?_, ⟨_, rfl⟩, hW, hsame.mono (by decide) (by decide)⟩
  · show Steps p.tables e below (s₁.setTop (mkF m 0 #[vA a1, vA a2] [])) _
    refine XS.aloadN X0.here hx rfl (hb hby d1_0) rfl rfl ?_
    refine XS.aloadN X0.here hx rfl (hb hby d1_1) rfl rfl ?_
    refine XS.iconst X0.here hx rfl (hb hby d1_2) ?_
    refine XS.aloadN X0.here hx rfl (hb hby d1_3) rfl rfl ?_
    show Steps p.tables e below (s₁.setTop (mkF m 4 #[vA a1, vA a2] [(.ref a2), (.int (0 : Int32)), (.ref a2), (.ref a1)])) _
    refine X0.arraylength hx (by rw [e0]; exact Ar_a2_0.1) (State.isArrayOf_alike hZ.alike Ar_a2_0.2.1) (g := (mkF m 4 #[vA a1, vA a2] [(.ref a2), (.int (0 : Int32)), (.ref a2), (.ref a1)])) rfl rfl (hb hby d1_4) _ ?_
    rw [len_of Sz_a2_0 Ng_a2_0]
    refine XS.aconstNull X0.here hx rfl (hb hby d1_5) ?_
    show Steps p.tables e below (s₁.setTop (mkF m 6 #[vA a1, vA a2] [.null, (.int (3 : Int32)), (.int (0 : Int32)), (.ref a2), (.ref a1)])) _
    refine st3.trans ?_
    show Steps p.tables e below (T3.setTop (mkF m 9 #[vA a1, vA a2] [])) _
    exact X3.returnOut hx Bd.returns (hb hby d1_9) hr
  · show Q_rm1_3 Z a1 a2 s_COMPACT_STRINGS s__assertionsDisabled s_HI_BYTE_SHIFT s_LO_BYTE_SHIFT w_coder_a1 w_value_a1 k_a2 x_a2_0 x_a2_1 x_a2_2 h0 n0 _ T3.heap _
    exact ⟨b_5_3, ⟨k_5_3, ⟨zz_5_3, ⟨vs_5_3, ⟨rfl, N3, ((Keep.refl h0 [a1]).trans K3 (fun x q => (List.mem_cons.mp q).elim (fun r => r ▸ (Or.inl (List.mem_of_getElem? (i := 0) rfl))) ((fun _ q => nomatch q) x))), sz_b_5_3, i3_1, i3_2, i3_3, i3_4, i3_5⟩⟩⟩⟩⟩
def Q_rm12_4 (Z : State)  (h0 : Heap) (n0 : Nat) (v : Option Value) (h : Heap) (L : List Loc) : Prop := v = some (.int (8 : Int32)) ∧ Fr n0 L ∧ h = h0
set_option maxRecDepth 65536 in
set_option maxHeartbeats 40000000 in
theorem rm12_4 (l : Launch) (Z : State) (a0 : Array Value) (hw : ∀ d ∈ tables_1, d.before a0 Z = true) (ws : List Jvm.Cond)  (h0 : Heap) (n0 : Nat) (Z0 : n0 ≤ h0.size) :
    MetFree l (⟨"java/lang/StringUTF16", "newBytesLength", "(I)I"⟩ : MethodName) (head1 (Jvm.Cond.code (⟨"java/lang/StringUTF16", "newBytesLength", "(I)I"⟩ : MethodName) jdk_52_method_3_code 1 (some .int) :: ws) ({ frames := 0, cells := 0, slots := 0, locals := 0 } : Room)) (fun a U => a = #[(.int (4 : Int32))] ∧ Z.Warmed39 U.vm ∧ U.heap = h0) (fun _ _ _ _ _ => True) (fun _ U o U' => ∃ v L, o = .returned v ∧ Q_rm12_4 Z  h0 n0 v U'.heap L ∧ FrameEnd U o U' L ({ frames := 0, cells := 0, slots := 0, locals := 0 } : Room).cells ({ frames := 0, cells := 0, slots := 0, locals := 0 } : Room).slots) := by
  have hi : ∀ (i : Nat) {d : Jvm.Cond}, tables_1[i]? = some d → d.before a0 Z = true := fun i d h => hw d (List.mem_of_getElem? h)
  refine MetFree.of_bodySF (plainFor_of_name pn_12) hisR ?_
  intro p e s m args below meth c s₁ Bd hml0 hP hK
  obtain ⟨rfl, hZ, hh⟩ := hP
  have hx := Bd.exec
  have hby := Bd.bytes
  have hml : c.maxLocals = 1 := hml0
  have hown : s.vm.findClass "java/lang/StringUTF16" = some m.cls := findClass_of_methodNamed Bd.named
  have hnm := (name_of_methodNamed Bd.named Bd.method).1
  have X0 : Stand p l e ({ frames := 0, cells := 0, slots := 0, locals := 0 } : Room) s m #[(.int (4 : Int32))] below meth c s₁ [] 0 0 := Stand.of_body Bd
  have e0 : s₁.heap = h0 := by rw [← hh, Bd.state]; rfl
  have N0 := Fr.nil n0
  have pre0 : ∀ t, Steps p.tables e below (s₁.setTop (mkF m 0 #[vI (4 : Int32)] [])) t → Steps p.tables e below (s₁.setTop (entryFrame m #[(.int (4 : Int32))] 1)) t := fun t k => castTop (ef_12 m (4 : Int32)) k
  obtain ⟨fs, hr, hrun, hended, hW, hsame⟩ := X0.leave (v := some (.int (8 : Int32))) (fun h => by rw [Bd.returns] at h; cases h)
  refine ⟨_, _, pre0 _ ?_, hrun, hended, _, _, rfl, ?_, ⟨_, rfl⟩, hW, hsame.mono (by decide) (by decide)⟩
  · show Steps p.tables e below (s₁.setTop (mkF m 0 #[vI (4 : Int32)] [])) _
    refine XS.iloadN X0.here hx rfl (hb hby d12_0) rfl ?_
    show Steps p.tables e below (s₁.setTop (mkF m 1 #[vI (4 : Int32)] [(.int (4 : Int32))])) _
    refine XS.ifYes X0.here hx rfl (pc0 := 1) (pc' := 12) rfl (hb hby d12_1) rfl ((if0 _ _).trans (flt (by decide : ¬ ((4 : Int32) < (0 : Int32)))).2.1) (by decide) (by decide) ?_
    refine XS.iloadN X0.here hx rfl (hb hby d12_12) rfl ?_
    show Steps p.tables e below (s₁.setTop (mkF m 13 #[vI (4 : Int32)] [(.int (4 : Int32))])) _
    refine X0.ldcInt hx hown (mvT hZ (hi 62 rfl)) (g := (mkF m 13 #[vI (4 : Int32)] [(.int (4 : Int32))])) rfl (hb hby d12_13) _ ?_
    show Steps p.tables e below (s₁.setTop (mkF m 15 #[vI (4 : Int32)] [(.int (1073741823 : Int32)), (.int (4 : Int32))])) _
    refine XS.icmpYes X0.here hx rfl (pc0 := 15) (pc' := 55) rfl (hb hby d12_15) rfl (tlt (by decide : (4 : Int32) < (1073741823 : Int32))).1 (by decide) (by decide) ?_
    refine XS.iloadN X0.here hx rfl (hb hby d12_55) rfl ?_
    refine XS.iconst X0.here hx rfl (hb hby d12_56) ?_
    refine XS.ishl X0.here hx rfl (hb hby d12_57) rfl ?_
    show Steps p.tables e below (s₁.setTop (mkF m 58 #[vI (4 : Int32)] [(.int (8 : Int32))])) _
    exact retI X0 hx Bd.returns (hb hby d12_58) hr
  · show Q_rm12_4 Z  h0 n0 _ s₁.heap _
    exact ⟨rfl, N0, e0⟩
def Q_rm11_4 (Z : State)  (h0 : Heap) (n0 : Nat) (v : Option Value) (h : Heap) (L : List Loc) : Prop := ∃ b2 : Addr, ∃ k2 : ClassId, v = some (.ref b2) ∧ Fr n0 L ∧ Keep h0 h [] ∧ h0.size ≤ b2 ∧ Arv Z h b2 k2 .byte (8 : Int32) (List.replicate 8 (.int (0 : Int32))) (.int (0 : Int32))
set_option maxRecDepth 65536 in
set_option maxHeartbeats 40000000 in
theorem rm11_4 (l : Launch) (Z : State) (a0 : Array Value) (hw : ∀ d ∈ tables_1, d.before a0 Z = true) (ws : List Jvm.Cond)  (h0 : Heap) (n0 : Nat) (Z0 : n0 ≤ h0.size) :
    MetFree l (⟨"java/lang/StringUTF16", "newBytesFor", "(I)[B"⟩ : MethodName) (head1 (Jvm.Cond.code (⟨"java/lang/StringUTF16", "newBytesFor", "(I)[B"⟩ : MethodName) jdk_52_method_2_code 1 (some (.array .byte)) :: ws) ({ frames := 1, cells := 1, slots := 8, locals := 12 } : Room)) (fun a U => a = #[(.int (4 : Int32))] ∧ Z.Warmed39 U.vm ∧ U.heap = h0) (fun _ _ _ _ _ => True) (fun _ U o U' => ∃ v L, o = .returned v ∧ Q_rm11_4 Z  h0 n0 v U'.heap L ∧ FrameEnd U o U' L ({ frames := 1, cells := 1, slots := 8, locals := 12 } : Room).cells ({ frames := 1, cells := 1, slots := 8, locals := 12 } : Room).slots) := by
  have hi : ∀ (i : Nat) {d : Jvm.Cond}, tables_1[i]? = some d → d.before a0 Z = true := fun i d h => hw d (List.mem_of_getElem? h)
  refine MetFree.of_bodySF (plainFor_of_name pn_11) hisR ?_
  intro p e s m args below meth c s₁ Bd hml0 hP hK
  obtain ⟨rfl, hZ, hh⟩ := hP
  have hx := Bd.exec
  have hby := Bd.bytes
  have hml : c.maxLocals = 1 := hml0
  have hown : s.vm.findClass "java/lang/StringUTF16" = some m.cls := findClass_of_methodNamed Bd.named
  have hnm := (name_of_methodNamed Bd.named Bd.method).1
  have X0 : Stand p l e ({ frames := 1, cells := 1, slots := 8, locals := 12 } : Room) s m #[(.int (4 : Int32))] below meth c s₁ [] 0 0 := Stand.of_body Bd
  have e0 : s₁.heap = h0 := by rw [← hh, Bd.state]; rfl
  have N0 := Fr.nil n0
  have pre0 : ∀ t, Steps p.tables e below (s₁.setTop (mkF m 0 #[vI (4 : Int32)] [])) t → Steps p.tables e below (s₁.setTop (entryFrame m #[(.int (4 : Int32))] 1)) t := fun t k => castTop (ef_11 m (4 : Int32)) k
  obtain ⟨_, _, ⟨T1, L1, k1, n1⟩, -, X1, ⟨Lc1, hQ1, l1, y1, z1⟩, st1⟩ := Jvm.LawKit.callS X0 hx (y := (⟨"java/lang/StringUTF16", "newBytesLength", "(I)I"⟩ : MethodName)) hown (mvT hZ (hi 59 rfl)) (mvT hZ (hi 60 rfl)) (mvT hZ (hi 45 rfl)) (mvT hZ (hi 61 rfl)) (by decide) (backOf (W := 0) (rm12_4 l Z a0 hw []  h0 n0 Z0 ) hZ (hi 61 rfl) (hi 45 rfl) (by decide) (by decide)) (g := (mkF m 1 #[vI (4 : Int32)] [(.int (4 : Int32))])) rfl (by rw [hml]; rfl) (argsL := [(.int (4 : Int32))]) (rest := []) (lenOf pd__28I_29I rfl) rfl (by show 2 * 0 + _ ≤ _; exact Nat.le_of_eq rfl) (hb hby d11_1) (fun _ _ => ⟨rfl, e0, (by decide : 0 + 0 ≤ _), (by decide : 0 + 0 ≤ _)⟩)
  dsimp only [Pt.U, Pt.locs, Pt.cells, Pt.slots] at X1 l1 y1 z1 st1 hQ1
  subst l1 y1 z1
  obtain ⟨rfl, N1q, e1⟩ := hQ1
  have N1 := Fr.app N0 N1q
  obtain ⟨T2, h2, k2, X2, e2, E2, A2, st2⟩ := newP X1 hx hZ (hi 17 rfl) e1 (g := (mkF m 4 #[vI (4 : Int32)] [(.int (8 : Int32))])) rfl (hb hby d11_4) rfl (by decide) (cap := 8) (by decide) (by decide) (by decide) (by decide)
  obtain ⟨b2, g2⟩ : ∃ z, z = h0.size := ⟨_, rfl⟩
  rw [← g2] at A2 st2
  have g_b2 : n0 ≤ b2 := Nat.le_trans Z0 (Nat.le_of_eq g2.symm)
  have sz_b2 : h0.size ≤ b2 := Nat.le_trans (Nat.le_refl h0.size) (Nat.le_of_eq g2.symm)
  have V_b2 : Arv Z h2 b2 k2 .byte (8 : Int32) (List.replicate 8 (.int (0 : Int32))) (.int (0 : Int32)) := (Arv.new A2 (by decide)).pad (pad_rep [] (.int (0 : Int32)) 8)
  obtain ⟨fs, hr, hrun, hended, hW, hsame⟩ := X2.leave (v := some (.ref b2)) (fun h => by rw [Bd.returns] at h; cases h)
  refine ⟨_, _, pre0 _ ?_, hrun, hended, _, _, rfl, ?_, ⟨_, rfl⟩, hW, hsame.mono (by decide) (by decide)⟩
  · show Steps p.tables e below (s₁.setTop (mkF m 0 #[vI (4 : Int32)] [])) _
    refine XS.iloadN X0.here hx rfl (hb hby d11_0) rfl ?_
    show Steps p.tables e below (s₁.setTop (mkF m 1 #[vI (4 : Int32)] [(.int (4 : Int32))])) _
    refine st1 _ ?_
    show Steps p.tables e below (T1.setTop (mkF m 4 #[vI (4 : Int32)] [(.int (8 : Int32))])) _
    refine st2 _ ?_
    show Steps p.tables e below (T2.setTop (mkF m 6 #[vI (4 : Int32)] [(.ref b2)])) _
    jvm_step X2.here [X2.here.top, hx, (hb hby d11_6), X2.method', Bd.returns, Value.isRef, FieldType.isReference]
    first | (intro acts; rw [hr _ acts rfl rfl rfl]) | rw [hr _ _ rfl rfl rfl]
    exact Steps.refl _
  · show Q_rm11_4 Z  h0 n0 _ T2.heap _
    rw [e2]
    exact ⟨b2, ⟨k2, ⟨rfl, N1, ((Keep.refl h0 []).ext E2), sz_b2, V_b2⟩⟩⟩
def Q_rm13_4_0 (Z : State) (a1 : Addr) (p2 : Int32) (s__assertionsDisabled : Int32) (s_HI_BYTE_SHIFT : Int32) (s_LO_BYTE_SHIFT : Int32) (k_a1 : ClassId) (x_a1_0 : Int32) (x_a1_1 : Int32) (x_a1_2 : Int32) (x_a1_3 : Int32) (x_a1_4 : Int32) (x_a1_5 : Int32) (x_a1_6 : Int32) (x_a1_7 : Int32) (h0 : Heap) (n0 : Nat) (v : Option Value) (h : Heap) (L : List Loc) : Prop := v = none ∧ Fr n0 L ∧ Keep h0 h [a1] ∧ Arv Z h a1 k_a1 .byte (8 : Int32) [(.int (nar .byte ((p2 >>> (s_HI_BYTE_SHIFT &&& 31)).toInt8.toInt32))), (.int (nar .byte ((p2 >>> (s_LO_BYTE_SHIFT &&& 31)).toInt8.toInt32))), (.int x_a1_2), (.int x_a1_3), (.int x_a1_4), (.int x_a1_5), (.int x_a1_6), (.int x_a1_7)] (.int (0 : Int32))
set_option maxRecDepth 65536 in
set_option maxHeartbeats 40000000 in
theorem rm13_4_0 (l : Launch) (Z : State) (a0 : Array Value) (hw : ∀ d ∈ tables_1, d.before a0 Z = true) (ws : List Jvm.Cond) (a1 : Addr) (p2 : Int32) (s__assertionsDisabled : Int32) (s_HI_BYTE_SHIFT : Int32) (s_LO_BYTE_SHIFT : Int32) (k_a1 : ClassId) (x_a1_0 : Int32) (x_a1_1 : Int32) (x_a1_2 : Int32) (x_a1_3 : Int32) (x_a1_4 : Int32) (x_a1_5 : Int32) (x_a1_6 : Int32) (x_a1_7 : Int32) (h0 : Heap) (n0 : Nat) (Z0 : n0 ≤ h0.size) (hasd : ¬ (s__assertionsDisabled = (0 : Int32))) (S__assertionsDisabled : Sta Z h0 "java/lang/StringUTF16" "$assertionsDisabled" "Z" (.int s__assertionsDisabled)) (S_HI_BYTE_SHIFT : Sta Z h0 "java/lang/StringUTF16" "HI_BYTE_SHIFT" "I" (.int s_HI_BYTE_SHIFT)) (g_a1 : n0 ≤ a1) (S_LO_BYTE_SHIFT : Sta Z h0 "java/lang/StringUTF16" "LO_BYTE_SHIFT" "I" (.int s_LO_BYTE_SHIFT)) (V_a1 : Arv Z h0 a1 k_a1 .byte (8 : Int32) [(.int x_a1_0), (.int x_a1_1), (.int x_a1_2), (.int x_a1_3), (.int x_a1_4), (.int x_a1_5), (.int x_a1_6), (.int x_a1_7)] (.int (0 : Int32))) :
    MetFree l (⟨"java/lang/StringUTF16", "putChar", "([BII)V"⟩ : MethodName) (head1 (Jvm.Cond.code (⟨"java/lang/StringUTF16", "putChar", "([BII)V"⟩ : MethodName) jdk_52_method_4_code 3 none :: ws) ({ frames := 0, cells := 0, slots := 0, locals := 0 } : Room)) (fun a U => a = #[(.ref a1), (.int (0 : Int32)), (.int p2)] ∧ Z.Warmed39 U.vm ∧ U.heap = h0) (fun _ _ _ _ _ => True) (fun _ U o U' => ∃ v L, o = .returned v ∧ Q_rm13_4_0 Z a1 p2 s__assertionsDisabled s_HI_BYTE_SHIFT s_LO_BYTE_SHIFT k_a1 x_a1_0 x_a1_1 x_a1_2 x_a1_3 x_a1_4 x_a1_5 x_a1_6 x_a1_7 h0 n0 v U'.heap L ∧ FrameEnd U o U' L ({ frames := 0, cells := 0, slots := 0, locals := 0 } : Room).cells ({ frames := 0, cells := 0, slots := 0, locals := 0 } : Room).slots) := by
  have hi : ∀ (i : Nat) {d : Jvm.Cond}, tables_1[i]? = some d → d.before a0 Z = true := fun i d h => hw d (List.mem_of_getElem? h)
  refine MetFree.of_bodySF (plainFor_of_name pn_13) hisR ?_
  intro p e s m args below meth c s₁ Bd hml0 hP hK
  obtain ⟨rfl, hZ, hh⟩ := hP
  have hx := Bd.exec
  have hby := Bd.bytes
  have hml : c.maxLocals = 3 := hml0
  have hown : s.vm.findClass "java/lang/StringUTF16" = some m.cls := findClass_of_methodNamed Bd.named
  have hnm := (name_of_methodNamed Bd.named Bd.method).1
  have X0 : Stand p l e ({ frames := 0, cells := 0, slots := 0, locals := 0 } : Room) s m #[(.ref a1), (.int (0 : Int32)), (.int p2)] below meth c s₁ [] 0 0 := Stand.of_body Bd
  have e0 : s₁.heap = h0 := by rw [← hh, Bd.state]; rfl
  have N0 := Fr.nil n0
  have pre0 : ∀ t, Steps p.tables e below (s₁.setTop (mkF m 0 #[vA a1, vI (0 : Int32), vI p2] [])) t → Steps p.tables e below (s₁.setTop (entryFrame m #[(.ref a1), (.int (0 : Int32)), (.int p2)] 3)) t := fun t k => castTop (ef_13 m a1 (0 : Int32) p2) k
  obtain ⟨T3, X3, e3, st3⟩ := getS2 X0 hx hZ hown (host := "") (Or.inl (hi 66 rfl)) Via.refl e0 S__assertionsDisabled (g := (mkF m 0 #[vA a1, vI (0 : Int32), vI p2] [])) rfl (hb hby d13_0)
  obtain ⟨T4, X4, e4, st4⟩ := getS2 X3 hx hZ hown (host := "") (Or.inl (hi 67 rfl)) Via.refl e3 S_HI_BYTE_SHIFT (g := (mkF m 38 #[vA a1, vI (1 : Int32), vI p2] [(.int p2), (.int (0 : Int32)), (.ref a1)])) rfl (hb hby d13_38)
  obtain ⟨cl_a1_0, Ar_a1_0, q_a1_0, Sz_a1_0, Ng_a1_0, Ha_a1_0, Gt_a1_0⟩ := id V_a1
  have hin_a1_0 : ¬ ((0 : Int32) < 0 ∨ cl_a1_0.slots.size ≤ ((0 : Int32)).toNatClampNeg) := inb_of Sz_a1_0 ⟨by decide, by decide⟩
  obtain ⟨T5, h5, X5, e5, W5, st5⟩ := stB X4 hx hZ e4 Ar_a1_0 (j := (0 : Int32)) hin_a1_0 (g := (mkF m 43 #[vA a1, vI (1 : Int32), vI p2] [(.int ((p2 >>> (s_HI_BYTE_SHIFT &&& 31)).toInt8.toInt32)), (.int (0 : Int32)), (.ref a1)])) rfl rfl (hb hby d13_43)
  have V5 : Arv Z h5 a1 k_a1 .byte (8 : Int32) [(.int (nar .byte ((p2 >>> (s_HI_BYTE_SHIFT &&& 31)).toInt8.toInt32))), (.int x_a1_1), (.int x_a1_2), (.int x_a1_3), (.int x_a1_4), (.int x_a1_5), (.int x_a1_6), (.int x_a1_7)] (.int (0 : Int32)) := Arv.set Ar_a1_0 q_a1_0 Sz_a1_0 Ng_a1_0 Ha_a1_0 Gt_a1_0 (fits_nar_byte _) W5 0 rfl (Nat.le_of_ble_eq_true rfl)
  have N5 := Fr.snoc X5 N0 g_a1
  have f1 := (S_LO_BYTE_SHIFT.wr W5)
  obtain ⟨T6, X6, e6, st6⟩ := getS2 X5 hx hZ hown (host := "") (Or.inl (hi 68 rfl)) Via.refl e5 f1 (g := (mkF m 47 #[vA a1, vI (1 : Int32), vI p2] [(.int p2), (.int (1 : Int32)), (.ref a1)])) rfl (hb hby d13_47)
  obtain ⟨cl_a1_2, Ar_a1_2, q_a1_2, Sz_a1_2, Ng_a1_2, Ha_a1_2, Gt_a1_2⟩ := id V5
  have hin_a1_2 : ¬ ((1 : Int32) < 0 ∨ cl_a1_2.slots.size ≤ ((1 : Int32)).toNatClampNeg) := inb_of Sz_a1_2 ⟨by decide, by decide⟩
  obtain ⟨T7, h7, X7, e7, W7, st7⟩ := stB X6 hx hZ e6 Ar_a1_2 (j := (1 : Int32)) hin_a1_2 (g := (mkF m 52 #[vA a1, vI (1 : Int32), vI p2] [(.int ((p2 >>> (s_LO_BYTE_SHIFT &&& 31)).toInt8.toInt32)), (.int (1 : Int32)), (.ref a1)])) rfl rfl (hb hby d13_52)
  have V7 : Arv Z h7 a1 k_a1 .byte (8 : Int32) [(.int (nar .byte ((p2 >>> (s_HI_BYTE_SHIFT &&& 31)).toInt8.toInt32))), (.int (nar .byte ((p2 >>> (s_LO_BYTE_SHIFT &&& 31)).toInt8.toInt32))), (.int x_a1_2), (.int x_a1_3), (.int x_a1_4), (.int x_a1_5), (.int x_a1_6), (.int x_a1_7)] (.int (0 : Int32)) := Arv.set Ar_a1_2 q_a1_2 Sz_a1_2 Ng_a1_2 Ha_a1_2 Gt_a1_2 (fits_nar_byte _) W7 1 rfl (Nat.le_of_ble_eq_true rfl)
  have N7 := Fr.snoc X7 N5 g_a1
  obtain ⟨fs, hr, hrun, hended, hW, hsame⟩ := X7.leave (v := none) (fun _ => rfl)
  refine ⟨_, _, pre0 _ ?_, hrun, hended, _, _, rfl, ?_, ⟨_, rfl⟩, hW, hsame.mono (by decide) (by decide)⟩
  · show Steps p.tables e below (s₁.setTop (mkF m 0 #[vA a1, vI (0 : Int32), vI p2] [])) _
    refine st3 _ ?_
    show Steps p.tables e below (T3.setTop (mkF m 3 #[vA a1, vI (0 : Int32), vI p2] [(.int s__assertionsDisabled)])) _
    refine XS.ifYes X3.here hx rfl (pc0 := 3) (pc' := 28) rfl (hb hby d13_3) rfl ((if0 _ _).trans (feq (show ¬ (s__assertionsDisabled = (0 : Int32)) from hasd)).2) (by decide) (by decide) ?_
    refine XS.iloadN X3.here hx rfl (hb hby d13_28) rfl ?_
    refine XS.iconst X3.here hx rfl (hb hby d13_29) ?_
    refine XS.ishl X3.here hx rfl (hb hby d13_30) rfl ?_
    refine XS.istoreN X3.here hx rfl (hb hby d13_31) rfl (l' := #[vA a1, vI (0 : Int32), vI p2]) rfl ?_
    refine XS.aloadN X3.here hx rfl (hb hby d13_32) rfl rfl ?_
    refine XS.iloadN X3.here hx rfl (hb hby d13_33) rfl ?_
    refine XS.iinc X3.here hx rfl (hb hby d13_34) rfl (l' := #[vA a1, vI (1 : Int32), vI p2]) rfl ?_
    refine XS.iloadN X3.here hx rfl (hb hby d13_37) rfl ?_
    show Steps p.tables e below (T3.setTop (mkF m 38 #[vA a1, vI (1 : Int32), vI p2] [(.int p2), (.int (0 : Int32)), (.ref a1)])) _
    refine st4 _ ?_
    refine XS.ishr X4.here hx rfl (hb hby d13_41) rfl ?_
    refine XS.i2b X4.here hx rfl (hb hby d13_42) rfl ?_
    show Steps p.tables e below (T4.setTop (mkF m 43 #[vA a1, vI (1 : Int32), vI p2] [(.int ((p2 >>> (s_HI_BYTE_SHIFT &&& 31)).toInt8.toInt32)), (.int (0 : Int32)), (.ref a1)])) _
    refine st5 _ ?_
    refine XS.aloadN X5.here hx rfl (hb hby d13_44) rfl rfl ?_
    refine XS.iloadN X5.here hx rfl (hb hby d13_45) rfl ?_
    refine XS.iloadN X5.here hx rfl (hb hby d13_46) rfl ?_
    show Steps p.tables e below (T5.setTop (mkF m 47 #[vA a1, vI (1 : Int32), vI p2] [(.int p2), (.int (1 : Int32)), (.ref a1)])) _
    refine st6 _ ?_
    refine XS.ishr X6.here hx rfl (hb hby d13_50) rfl ?_
    refine XS.i2b X6.here hx rfl (hb hby d13_51) rfl ?_
    show Steps p.tables e below (T6.setTop (mkF m 52 #[vA a1, vI (1 : Int32), vI p2] [(.int ((p2 >>> (s_LO_BYTE_SHIFT &&& 31)).toInt8.toInt32)), (.int (1 : Int32)), (.ref a1)])) _
    refine st7 _ ?_
    show Steps p.tables e below (T7.setTop (mkF m 53 #[vA a1, vI (1 : Int32), vI p2] [])) _
    exact X7.returnOut hx Bd.returns (hb hby d13_53) hr
  · show Q_rm13_4_0 Z a1 p2 s__assertionsDisabled s_HI_BYTE_SHIFT s_LO_BYTE_SHIFT k_a1 x_a1_0 x_a1_1 x_a1_2 x_a1_3 x_a1_4 x_a1_5 x_a1_6 x_a1_7 h0 n0 _ T7.heap _
    rw [e7]
    exact ⟨rfl, N7, (((Keep.refl h0 [a1]).wr W5 (Or.inl (List.mem_of_getElem? (i := 0) rfl))).wr W7 (Or.inl (List.mem_of_getElem? (i := 0) rfl))), V7⟩
def Q_rm14_4_0 (Z : State) (a1 : Addr) (s__assertionsDisabled : Int32) (s_HI_BYTE_SHIFT : Int32) (s_LO_BYTE_SHIFT : Int32) (k_a1 : ClassId) (x_a1_0 : Int32) (x_a1_1 : Int32) (x_a1_2 : Int32) (x_a1_3 : Int32) (x_a1_4 : Int32) (x_a1_5 : Int32) (x_a1_6 : Int32) (x_a1_7 : Int32) (h0 : Heap) (n0 : Nat) (v : Option Value) (h : Heap) (L : List Loc) : Prop := v = some (.int (nar .char (t14_1 s_HI_BYTE_SHIFT s_LO_BYTE_SHIFT x_a1_0 x_a1_1))) ∧ Fr n0 L ∧ h = h0
set_option maxRecDepth 65536 in
set_option maxHeartbeats 40000000 in
theorem rm14_4_0 (l : Launch) (Z : State) (a0 : Array Value) (hw : ∀ d ∈ tables_1, d.before a0 Z = true) (ws : List Jvm.Cond) (a1 : Addr) (s__assertionsDisabled : Int32) (s_HI_BYTE_SHIFT : Int32) (s_LO_BYTE_SHIFT : Int32) (k_a1 : ClassId) (x_a1_0 : Int32) (x_a1_1 : Int32) (x_a1_2 : Int32) (x_a1_3 : Int32) (x_a1_4 : Int32) (x_a1_5 : Int32) (x_a1_6 : Int32) (x_a1_7 : Int32) (h0 : Heap) (n0 : Nat) (Z0 : n0 ≤ h0.size) (hasd : ¬ (s__assertionsDisabled = (0 : Int32))) (S__assertionsDisabled : Sta Z h0 "java/lang/StringUTF16" "$assertionsDisabled" "Z" (.int s__assertionsDisabled)) (S_HI_BYTE_SHIFT : Sta Z h0 "java/lang/StringUTF16" "HI_BYTE_SHIFT" "I" (.int s_HI_BYTE_SHIFT)) (S_LO_BYTE_SHIFT : Sta Z h0 "java/lang/StringUTF16" "LO_BYTE_SHIFT" "I" (.int s_LO_BYTE_SHIFT)) (V_a1 : Arv Z h0 a1 k_a1 .byte (8 : Int32) [(.int x_a1_0), (.int x_a1_1), (.int x_a1_2), (.int x_a1_3), (.int x_a1_4), (.int x_a1_5), (.int x_a1_6), (.int x_a1_7)] (.int (0 : Int32))) :
    MetFree l (⟨"java/lang/StringUTF16", "getChar", "([BI)C"⟩ : MethodName) (head1 (Jvm.Cond.code (⟨"java/lang/StringUTF16", "getChar", "([BI)C"⟩ : MethodName) jdk_52_method_5_code 2 (some .char) :: ws) ({ frames := 0, cells := 0, slots := 0, locals := 0 } : Room)) (fun a U => a = #[(.ref a1), (.int (0 : Int32))] ∧ Z.Warmed39 U.vm ∧ U.heap = h0) (fun _ _ _ _ _ => True) (fun _ U o U' => ∃ v L, o = .returned v ∧ Q_rm14_4_0 Z a1 s__assertionsDisabled s_HI_BYTE_SHIFT s_LO_BYTE_SHIFT k_a1 x_a1_0 x_a1_1 x_a1_2 x_a1_3 x_a1_4 x_a1_5 x_a1_6 x_a1_7 h0 n0 v U'.heap L ∧ FrameEnd U o U' L ({ frames := 0, cells := 0, slots := 0, locals := 0 } : Room).cells ({ frames := 0, cells := 0, slots := 0, locals := 0 } : Room).slots) := by
  have hi : ∀ (i : Nat) {d : Jvm.Cond}, tables_1[i]? = some d → d.before a0 Z = true := fun i d h => hw d (List.mem_of_getElem? h)
  refine MetFree.of_bodySF (plainFor_of_name pn_14) hisR ?_
  intro p e s m args below meth c s₁ Bd hml0 hP hK
  obtain ⟨rfl, hZ, hh⟩ := hP
  have hx := Bd.exec
  have hby := Bd.bytes
  have hml : c.maxLocals = 2 := hml0
  have hown : s.vm.findClass "java/lang/StringUTF16" = some m.cls := findClass_of_methodNamed Bd.named
  have hnm := (name_of_methodNamed Bd.named Bd.method).1
  have X0 : Stand p l e ({ frames := 0, cells := 0, slots := 0, locals := 0 } : Room) s m #[(.ref a1), (.int (0 : Int32))] below meth c s₁ [] 0 0 := Stand.of_body Bd
  have e0 : s₁.heap = h0 := by rw [← hh, Bd.state]; rfl
  have N0 := Fr.nil n0
  have pre0 : ∀ t, Steps p.tables e below (s₁.setTop (mkF m 0 #[vA a1, vI (0 : Int32)] [])) t → Steps p.tables e below (s₁.setTop (entryFrame m #[(.ref a1), (.int (0 : Int32))] 2)) t := fun t k => castTop (ef_14 m a1 (0 : Int32)) k
  obtain ⟨T2, X2, e2, st2⟩ := getS2 X0 hx hZ hown (host := "") (Or.inl (hi 66 rfl)) Via.refl e0 S__assertionsDisabled (g := (mkF m 0 #[vA a1, vI (0 : Int32)] [])) rfl (hb hby d14_0)
  obtain ⟨cl_a1_0, Ar_a1_0, q_a1_0, Sz_a1_0, Ng_a1_0, Ha_a1_0, Gt_a1_0⟩ := id V_a1
  have hin_a1_0 : ¬ ((0 : Int32) < 0 ∨ cl_a1_0.slots.size ≤ ((0 : Int32)).toNatClampNeg) := inb_of Sz_a1_0 ⟨by decide, by decide⟩
  have hat_a1_0 : cl_a1_0.slots[((0 : Int32)).toNatClampNeg]? = some (.int x_a1_0) := (Ha_a1_0 _ (Nat.lt_of_not_le fun q => hin_a1_0 (Or.inr q))).trans (congrArg some (rfl : (([(.int x_a1_0), (.int x_a1_1), (.int x_a1_2), (.int x_a1_3), (.int x_a1_4), (.int x_a1_5), (.int x_a1_6), (.int x_a1_7)] : List Value)).getD ((0 : Int32)).toNatClampNeg (.int (0 : Int32)) = (.int x_a1_0)))
  obtain ⟨T3, X3, e3, st3⟩ := getS2 X2 hx hZ hown (host := "") (Or.inl (hi 67 rfl)) Via.refl e2 S_HI_BYTE_SHIFT (g := (mkF m 42 #[vA a1, vI (1 : Int32)] [(.int (x_a1_0 &&& (255 : Int32)))])) rfl (hb hby d14_42)
  obtain ⟨cl_a1_1, Ar_a1_1, q_a1_1, Sz_a1_1, Ng_a1_1, Ha_a1_1, Gt_a1_1⟩ := id V_a1
  have hin_a1_1 : ¬ ((1 : Int32) < 0 ∨ cl_a1_1.slots.size ≤ ((1 : Int32)).toNatClampNeg) := inb_of Sz_a1_1 ⟨by decide, by decide⟩
  have hat_a1_1 : cl_a1_1.slots[((1 : Int32)).toNatClampNeg]? = some (.int x_a1_1) := (Ha_a1_1 _ (Nat.lt_of_not_le fun q => hin_a1_1 (Or.inr q))).trans (congrArg some (rfl : (([(.int x_a1_0), (.int x_a1_1), (.int x_a1_2), (.int x_a1_3), (.int x_a1_4), (.int x_a1_5), (.int x_a1_6), (.int x_a1_7)] : List Value)).getD ((1 : Int32)).toNatClampNeg (.int (0 : Int32)) = (.int x_a1_1)))
  obtain ⟨T4, X4, e4, st4⟩ := getS2 X3 hx hZ hown (host := "") (Or.inl (hi 68 rfl)) Via.refl e3 S_LO_BYTE_SHIFT (g := (mkF m 53 #[vA a1, vI (1 : Int32)] [(.int (x_a1_1 &&& (255 : Int32))), (.int ((x_a1_0 &&& (255 : Int32)) <<< (s_HI_BYTE_SHIFT &&& 31)))])) rfl (hb hby d14_53)
  obtain ⟨fs, hr, hrun, hended, hW, hsame⟩ := X4.leave (v := some (.int (nar .char (t14_1 s_HI_BYTE_SHIFT s_LO_BYTE_SHIFT x_a1_0 x_a1_1)))) (fun h => by rw [Bd.returns] at h; cases h)
  refine ⟨_, _, pre0 _ ?_, hrun, hended, _, _, rfl, ?_, ⟨_, rfl⟩, hW, hsame.mono (by decide) (by decide)⟩
  · show Steps p.tables e below (s₁.setTop (mkF m 0 #[vA a1, vI (0 : Int32)] [])) _
    refine st2 _ ?_
    show Steps p.tables e below (T2.setTop (mkF m 3 #[vA a1, vI (0 : Int32)] [(.int s__assertionsDisabled)])) _
    refine XS.ifYes X2.here hx rfl (pc0 := 3) (pc' := 28) rfl (hb hby d14_3) rfl ((if0 _ _).trans (feq (show ¬ (s__assertionsDisabled = (0 : Int32)) from hasd)).2) (by decide) (by decide) ?_
    refine XS.iloadN X2.here hx rfl (hb hby d14_28) rfl ?_
    refine XS.iconst X2.here hx rfl (hb hby d14_29) ?_
    refine XS.ishl X2.here hx rfl (hb hby d14_30) rfl ?_
    refine XS.istoreN X2.here hx rfl (hb hby d14_31) rfl (l' := #[vA a1, vI (0 : Int32)]) rfl ?_
    refine XS.aloadN X2.here hx rfl (hb hby d14_32) rfl rfl ?_
    refine XS.iloadN X2.here hx rfl (hb hby d14_33) rfl ?_
    refine XS.iinc X2.here hx rfl (hb hby d14_34) rfl (l' := #[vA a1, vI (1 : Int32)]) rfl ?_
    show Steps p.tables e below (T2.setTop (mkF m 37 #[vA a1, vI (1 : Int32)] [(.int (0 : Int32)), (.ref a1)])) _
    refine X2.baloadBytes hx (j := (0 : Int32)) (v := (.int x_a1_0)) (by rw [e2]; exact Ar_a1_0.1) (State.isArrayOf_alike hZ.alike Ar_a1_0.2.1) Ar_a1_0.2.2 hin_a1_0 hat_a1_0 (g := (mkF m 37 #[vA a1, vI (1 : Int32)] [(.int (0 : Int32)), (.ref a1)])) rfl rfl (hb hby d14_37) _ ?_
    refine XS.sipush X2.here hx rfl (hb hby d14_38) ?_
    refine XS.iand X2.here hx rfl (hb hby d14_41) rfl ?_
    show Steps p.tables e below (T2.setTop (mkF m 42 #[vA a1, vI (1 : Int32)] [(.int (x_a1_0 &&& (255 : Int32)))])) _
    refine st3 _ ?_
    refine XS.ishl X3.here hx rfl (hb hby d14_45) rfl ?_
    refine XS.aloadN X3.here hx rfl (hb hby d14_46) rfl rfl ?_
    refine XS.iloadN X3.here hx rfl (hb hby d14_47) rfl ?_
    show Steps p.tables e below (T3.setTop (mkF m 48 #[vA a1, vI (1 : Int32)] [(.int (1 : Int32)), (.ref a1), (.int ((x_a1_0 &&& (255 : Int32)) <<< (s_HI_BYTE_SHIFT &&& 31)))])) _
    refine X3.baloadBytes hx (j := (1 : Int32)) (v := (.int x_a1_1)) (by rw [e3]; exact Ar_a1_1.1) (State.isArrayOf_alike hZ.alike Ar_a1_1.2.1) Ar_a1_1.2.2 hin_a1_1 hat_a1_1 (g := (mkF m 48 #[vA a1, vI (1 : Int32)] [(.int (1 : Int32)), (.ref a1), (.int ((x_a1_0 &&& (255 : Int32)) <<< (s_HI_BYTE_SHIFT &&& 31)))])) rfl rfl (hb hby d14_48) _ ?_
    refine XS.sipush X3.here hx rfl (hb hby d14_49) ?_
    refine XS.iand X3.here hx rfl (hb hby d14_52) rfl ?_
    show Steps p.tables e below (T3.setTop (mkF m 53 #[vA a1, vI (1 : Int32)] [(.int (x_a1_1 &&& (255 : Int32))), (.int ((x_a1_0 &&& (255 : Int32)) <<< (s_HI_BYTE_SHIFT &&& 31)))])) _
    refine st4 _ ?_
    refine XS.ishl X4.here hx rfl (hb hby d14_56) rfl ?_
    refine XS.ior X4.here hx rfl (hb hby d14_57) rfl ?_
    refine XS.i2c X4.here hx rfl (hb hby d14_58) rfl ?_
    show Steps p.tables e below (T4.setTop (mkF m 59 #[vA a1, vI (1 : Int32)] [(.int (t14_1 s_HI_BYTE_SHIFT s_LO_BYTE_SHIFT x_a1_0 x_a1_1))])) _
    exact retN X4 hx (t := .char) Bd.returns (by simp) (hb hby d14_59) hr
  · show Q_rm14_4_0 Z a1 s__assertionsDisabled s_HI_BYTE_SHIFT s_LO_BYTE_SHIFT k_a1 x_a1_0 x_a1_1 x_a1_2 x_a1_3 x_a1_4 x_a1_5 x_a1_6 x_a1_7 h0 n0 _ T4.heap _
    exact ⟨rfl, N0, e4⟩
def Q_rm13_4_1 (Z : State) (a1 : Addr) (p2 : Int32) (s__assertionsDisabled : Int32) (s_HI_BYTE_SHIFT : Int32) (s_LO_BYTE_SHIFT : Int32) (k_a1 : ClassId) (x_a1_0 : Int32) (x_a1_1 : Int32) (x_a1_2 : Int32) (x_a1_3 : Int32) (x_a1_4 : Int32) (x_a1_5 : Int32) (x_a1_6 : Int32) (x_a1_7 : Int32) (h0 : Heap) (n0 : Nat) (v : Option Value) (h : Heap) (L : List Loc) : Prop := v = none ∧ Fr n0 L ∧ Keep h0 h [a1] ∧ Arv Z h a1 k_a1 .byte (8 : Int32) [(.int x_a1_0), (.int x_a1_1), (.int (nar .byte ((p2 >>> (s_HI_BYTE_SHIFT &&& 31)).toInt8.toInt32))), (.int (nar .byte ((p2 >>> (s_LO_BYTE_SHIFT &&& 31)).toInt8.toInt32))), (.int x_a1_4), (.int x_a1_5), (.int x_a1_6), (.int x_a1_7)] (.int (0 : Int32))
set_option maxRecDepth 65536 in
set_option maxHeartbeats 40000000 in
theorem rm13_4_1 (l : Launch) (Z : State) (a0 : Array Value) (hw : ∀ d ∈ tables_1, d.before a0 Z = true) (ws : List Jvm.Cond) (a1 : Addr) (p2 : Int32) (s__assertionsDisabled : Int32) (s_HI_BYTE_SHIFT : Int32) (s_LO_BYTE_SHIFT : Int32) (k_a1 : ClassId) (x_a1_0 : Int32) (x_a1_1 : Int32) (x_a1_2 : Int32) (x_a1_3 : Int32) (x_a1_4 : Int32) (x_a1_5 : Int32) (x_a1_6 : Int32) (x_a1_7 : Int32) (h0 : Heap) (n0 : Nat) (Z0 : n0 ≤ h0.size) (hasd : ¬ (s__assertionsDisabled = (0 : Int32))) (S__assertionsDisabled : Sta Z h0 "java/lang/StringUTF16" "$assertionsDisabled" "Z" (.int s__assertionsDisabled)) (S_HI_BYTE_SHIFT : Sta Z h0 "java/lang/StringUTF16" "HI_BYTE_SHIFT" "I" (.int s_HI_BYTE_SHIFT)) (g_a1 : n0 ≤ a1) (S_LO_BYTE_SHIFT : Sta Z h0 "java/lang/StringUTF16" "LO_BYTE_SHIFT" "I" (.int s_LO_BYTE_SHIFT)) (V_a1 : Arv Z h0 a1 k_a1 .byte (8 : Int32) [(.int x_a1_0), (.int x_a1_1), (.int x_a1_2), (.int x_a1_3), (.int x_a1_4), (.int x_a1_5), (.int x_a1_6), (.int x_a1_7)] (.int (0 : Int32))) :
    MetFree l (⟨"java/lang/StringUTF16", "putChar", "([BII)V"⟩ : MethodName) (head1 (Jvm.Cond.code (⟨"java/lang/StringUTF16", "putChar", "([BII)V"⟩ : MethodName) jdk_52_method_4_code 3 none :: ws) ({ frames := 0, cells := 0, slots := 0, locals := 0 } : Room)) (fun a U => a = #[(.ref a1), (.int (1 : Int32)), (.int p2)] ∧ Z.Warmed39 U.vm ∧ U.heap = h0) (fun _ _ _ _ _ => True) (fun _ U o U' => ∃ v L, o = .returned v ∧ Q_rm13_4_1 Z a1 p2 s__assertionsDisabled s_HI_BYTE_SHIFT s_LO_BYTE_SHIFT k_a1 x_a1_0 x_a1_1 x_a1_2 x_a1_3 x_a1_4 x_a1_5 x_a1_6 x_a1_7 h0 n0 v U'.heap L ∧ FrameEnd U o U' L ({ frames := 0, cells := 0, slots := 0, locals := 0 } : Room).cells ({ frames := 0, cells := 0, slots := 0, locals := 0 } : Room).slots) := by
  have hi : ∀ (i : Nat) {d : Jvm.Cond}, tables_1[i]? = some d → d.before a0 Z = true := fun i d h => hw d (List.mem_of_getElem? h)
  refine MetFree.of_bodySF (plainFor_of_name pn_13) hisR ?_
  intro p e s m args below meth c s₁ Bd hml0 hP hK
  obtain ⟨rfl, hZ, hh⟩ := hP
  have hx := Bd.exec
  have hby := Bd.bytes
  have hml : c.maxLocals = 3 := hml0
  have hown : s.vm.findClass "java/lang/StringUTF16" = some m.cls := findClass_of_methodNamed Bd.named
  have hnm := (name_of_methodNamed Bd.named Bd.method).1
  have X0 : Stand p l e ({ frames := 0, cells := 0, slots := 0, locals := 0 } : Room) s m #[(.ref a1), (.int (1 : Int32)), (.int p2)] below meth c s₁ [] 0 0 := Stand.of_body Bd
  have e0 : s₁.heap = h0 := by rw [← hh, Bd.state]; rfl
  have N0 := Fr.nil n0
  have pre0 : ∀ t, Steps p.tables e below (s₁.setTop (mkF m 0 #[vA a1, vI (1 : Int32), vI p2] [])) t → Steps p.tables e below (s₁.setTop (entryFrame m #[(.ref a1), (.int (1 : Int32)), (.int p2)] 3)) t := fun t k => castTop (ef_13 m a1 (1 : Int32) p2) k
  obtain ⟨T3, X3, e3, st3⟩ := getS2 X0 hx hZ hown (host := "") (Or.inl (hi 66 rfl)) Via.refl e0 S__assertionsDisabled (g := (mkF m 0 #[vA a1, vI (1 : Int32), vI p2] [])) rfl (hb hby d13_0)
  obtain ⟨T4, X4, e4, st4⟩ := getS2 X3 hx hZ hown (host := "") (Or.inl (hi 67 rfl)) Via.refl e3 S_HI_BYTE_SHIFT (g := (mkF m 38 #[vA a1, vI (3 : Int32), vI p2] [(.int p2), (.int (2 : Int32)), (.ref a1)])) rfl (hb hby d13_38)
  obtain ⟨cl_a1_0, Ar_a1_0, q_a1_0, Sz_a1_0, Ng_a1_0, Ha_a1_0, Gt_a1_0⟩ := id V_a1
  have hin_a1_0 : ¬ ((2 : Int32) < 0 ∨ cl_a1_0.slots.size ≤ ((2 : Int32)).toNatClampNeg) := inb_of Sz_a1_0 ⟨by decide, by decide⟩
  obtain ⟨T5, h5, X5, e5, W5, st5⟩ := stB X4 hx hZ e4 Ar_a1_0 (j := (2 : Int32)) hin_a1_0 (g := (mkF m 43 #[vA a1, vI (3 : Int32), vI p2] [(.int ((p2 >>> (s_HI_BYTE_SHIFT &&& 31)).toInt8.toInt32)), (.int (2 : Int32)), (.ref a1)])) rfl rfl (hb hby d13_43)
  have V5 : Arv Z h5 a1 k_a1 .byte (8 : Int32) [(.int x_a1_0), (.int x_a1_1), (.int (nar .byte ((p2 >>> (s_HI_BYTE_SHIFT &&& 31)).toInt8.toInt32))), (.int x_a1_3), (.int x_a1_4), (.int x_a1_5), (.int x_a1_6), (.int x_a1_7)] (.int (0 : Int32)) := Arv.set Ar_a1_0 q_a1_0 Sz_a1_0 Ng_a1_0 Ha_a1_0 Gt_a1_0 (fits_nar_byte _) W5 2 rfl (Nat.le_of_ble_eq_true rfl)
  have N5 := Fr.snoc X5 N0 g_a1
  have f1 := (S_LO_BYTE_SHIFT.wr W5)
  obtain ⟨T6, X6, e6, st6⟩ := getS2 X5 hx hZ hown (host := "") (Or.inl (hi 68 rfl)) Via.refl e5 f1 (g := (mkF m 47 #[vA a1, vI (3 : Int32), vI p2] [(.int p2), (.int (3 : Int32)), (.ref a1)])) rfl (hb hby d13_47)
  obtain ⟨cl_a1_2, Ar_a1_2, q_a1_2, Sz_a1_2, Ng_a1_2, Ha_a1_2, Gt_a1_2⟩ := id V5
  have hin_a1_2 : ¬ ((3 : Int32) < 0 ∨ cl_a1_2.slots.size ≤ ((3 : Int32)).toNatClampNeg) := inb_of Sz_a1_2 ⟨by decide, by decide⟩
  obtain ⟨T7, h7, X7, e7, W7, st7⟩ := stB X6 hx hZ e6 Ar_a1_2 (j := (3 : Int32)) hin_a1_2 (g := (mkF m 52 #[vA a1, vI (3 : Int32), vI p2] [(.int ((p2 >>> (s_LO_BYTE_SHIFT &&& 31)).toInt8.toInt32)), (.int (3 : Int32)), (.ref a1)])) rfl rfl (hb hby d13_52)
  have V7 : Arv Z h7 a1 k_a1 .byte (8 : Int32) [(.int x_a1_0), (.int x_a1_1), (.int (nar .byte ((p2 >>> (s_HI_BYTE_SHIFT &&& 31)).toInt8.toInt32))), (.int (nar .byte ((p2 >>> (s_LO_BYTE_SHIFT &&& 31)).toInt8.toInt32))), (.int x_a1_4), (.int x_a1_5), (.int x_a1_6), (.int x_a1_7)] (.int (0 : Int32)) := Arv.set Ar_a1_2 q_a1_2 Sz_a1_2 Ng_a1_2 Ha_a1_2 Gt_a1_2 (fits_nar_byte _) W7 3 rfl (Nat.le_of_ble_eq_true rfl)
  have N7 := Fr.snoc X7 N5 g_a1
  obtain ⟨fs, hr, hrun, hended, hW, hsame⟩ := X7.leave (v := none) (fun _ => rfl)
  refine ⟨_, _, pre0 _ ?_, hrun, hended, _, _, rfl, ?_, ⟨_, rfl⟩, hW, hsame.mono (by decide) (by decide)⟩
  · show Steps p.tables e below (s₁.setTop (mkF m 0 #[vA a1, vI (1 : Int32), vI p2] [])) _
    refine st3 _ ?_
    show Steps p.tables e below (T3.setTop (mkF m 3 #[vA a1, vI (1 : Int32), vI p2] [(.int s__assertionsDisabled)])) _
    refine XS.ifYes X3.here hx rfl (pc0 := 3) (pc' := 28) rfl (hb hby d13_3) rfl ((if0 _ _).trans (feq (show ¬ (s__assertionsDisabled = (0 : Int32)) from hasd)).2) (by decide) (by decide) ?_
    refine XS.iloadN X3.here hx rfl (hb hby d13_28) rfl ?_
    refine XS.iconst X3.here hx rfl (hb hby d13_29) ?_
    refine XS.ishl X3.here hx rfl (hb hby d13_30) rfl ?_
    refine XS.istoreN X3.here hx rfl (hb hby d13_31) rfl (l' := #[vA a1, vI (2 : Int32), vI p2]) rfl ?_
    refine XS.aloadN X3.here hx rfl (hb hby d13_32) rfl rfl ?_
    refine XS.iloadN X3.here hx rfl (hb hby d13_33) rfl ?_
    refine XS.iinc X3.here hx rfl (hb hby d13_34) rfl (l' := #[vA a1, vI (3 : Int32), vI p2]) rfl ?_
    refine XS.iloadN X3.here hx rfl (hb hby d13_37) rfl ?_
    show Steps p.tables e below (T3.setTop (mkF m 38 #[vA a1, vI (3 : Int32), vI p2] [(.int p2), (.int (2 : Int32)), (.ref a1)])) _
    refine st4 _ ?_
    refine XS.ishr X4.here hx rfl (hb hby d13_41) rfl ?_
    refine XS.i2b X4.here hx rfl (hb hby d13_42) rfl ?_
    show Steps p.tables e below (T4.setTop (mkF m 43 #[vA a1, vI (3 : Int32), vI p2] [(.int ((p2 >>> (s_HI_BYTE_SHIFT &&& 31)).toInt8.toInt32)), (.int (2 : Int32)), (.ref a1)])) _
    refine st5 _ ?_
    refine XS.aloadN X5.here hx rfl (hb hby d13_44) rfl rfl ?_
    refine XS.iloadN X5.here hx rfl (hb hby d13_45) rfl ?_
    refine XS.iloadN X5.here hx rfl (hb hby d13_46) rfl ?_
    show Steps p.tables e below (T5.setTop (mkF m 47 #[vA a1, vI (3 : Int32), vI p2] [(.int p2), (.int (3 : Int32)), (.ref a1)])) _
    refine st6 _ ?_
    refine XS.ishr X6.here hx rfl (hb hby d13_50) rfl ?_
    refine XS.i2b X6.here hx rfl (hb hby d13_51) rfl ?_
    show Steps p.tables e below (T6.setTop (mkF m 52 #[vA a1, vI (3 : Int32), vI p2] [(.int ((p2 >>> (s_LO_BYTE_SHIFT &&& 31)).toInt8.toInt32)), (.int (3 : Int32)), (.ref a1)])) _
    refine st7 _ ?_
    show Steps p.tables e below (T7.setTop (mkF m 53 #[vA a1, vI (3 : Int32), vI p2] [])) _
    exact X7.returnOut hx Bd.returns (hb hby d13_53) hr
  · show Q_rm13_4_1 Z a1 p2 s__assertionsDisabled s_HI_BYTE_SHIFT s_LO_BYTE_SHIFT k_a1 x_a1_0 x_a1_1 x_a1_2 x_a1_3 x_a1_4 x_a1_5 x_a1_6 x_a1_7 h0 n0 _ T7.heap _
    rw [e7]
    exact ⟨rfl, N7, (((Keep.refl h0 [a1]).wr W5 (Or.inl (List.mem_of_getElem? (i := 0) rfl))).wr W7 (Or.inl (List.mem_of_getElem? (i := 0) rfl))), V7⟩
def Q_rm14_4_1 (Z : State) (a1 : Addr) (s__assertionsDisabled : Int32) (s_HI_BYTE_SHIFT : Int32) (s_LO_BYTE_SHIFT : Int32) (k_a1 : ClassId) (x_a1_0 : Int32) (x_a1_1 : Int32) (x_a1_2 : Int32) (x_a1_3 : Int32) (x_a1_4 : Int32) (x_a1_5 : Int32) (x_a1_6 : Int32) (x_a1_7 : Int32) (h0 : Heap) (n0 : Nat) (v : Option Value) (h : Heap) (L : List Loc) : Prop := v = some (.int (nar .char (t14_3 s_HI_BYTE_SHIFT s_LO_BYTE_SHIFT x_a1_2 x_a1_3))) ∧ Fr n0 L ∧ h = h0
set_option maxRecDepth 65536 in
set_option maxHeartbeats 40000000 in
theorem rm14_4_1 (l : Launch) (Z : State) (a0 : Array Value) (hw : ∀ d ∈ tables_1, d.before a0 Z = true) (ws : List Jvm.Cond) (a1 : Addr) (s__assertionsDisabled : Int32) (s_HI_BYTE_SHIFT : Int32) (s_LO_BYTE_SHIFT : Int32) (k_a1 : ClassId) (x_a1_0 : Int32) (x_a1_1 : Int32) (x_a1_2 : Int32) (x_a1_3 : Int32) (x_a1_4 : Int32) (x_a1_5 : Int32) (x_a1_6 : Int32) (x_a1_7 : Int32) (h0 : Heap) (n0 : Nat) (Z0 : n0 ≤ h0.size) (hasd : ¬ (s__assertionsDisabled = (0 : Int32))) (S__assertionsDisabled : Sta Z h0 "java/lang/StringUTF16" "$assertionsDisabled" "Z" (.int s__assertionsDisabled)) (S_HI_BYTE_SHIFT : Sta Z h0 "java/lang/StringUTF16" "HI_BYTE_SHIFT" "I" (.int s_HI_BYTE_SHIFT)) (S_LO_BYTE_SHIFT : Sta Z h0 "java/lang/StringUTF16" "LO_BYTE_SHIFT" "I" (.int s_LO_BYTE_SHIFT)) (V_a1 : Arv Z h0 a1 k_a1 .byte (8 : Int32) [(.int x_a1_0), (.int x_a1_1), (.int x_a1_2), (.int x_a1_3), (.int x_a1_4), (.int x_a1_5), (.int x_a1_6), (.int x_a1_7)] (.int (0 : Int32))) :
    MetFree l (⟨"java/lang/StringUTF16", "getChar", "([BI)C"⟩ : MethodName) (head1 (Jvm.Cond.code (⟨"java/lang/StringUTF16", "getChar", "([BI)C"⟩ : MethodName) jdk_52_method_5_code 2 (some .char) :: ws) ({ frames := 0, cells := 0, slots := 0, locals := 0 } : Room)) (fun a U => a = #[(.ref a1), (.int (1 : Int32))] ∧ Z.Warmed39 U.vm ∧ U.heap = h0) (fun _ _ _ _ _ => True) (fun _ U o U' => ∃ v L, o = .returned v ∧ Q_rm14_4_1 Z a1 s__assertionsDisabled s_HI_BYTE_SHIFT s_LO_BYTE_SHIFT k_a1 x_a1_0 x_a1_1 x_a1_2 x_a1_3 x_a1_4 x_a1_5 x_a1_6 x_a1_7 h0 n0 v U'.heap L ∧ FrameEnd U o U' L ({ frames := 0, cells := 0, slots := 0, locals := 0 } : Room).cells ({ frames := 0, cells := 0, slots := 0, locals := 0 } : Room).slots) := by
  have hi : ∀ (i : Nat) {d : Jvm.Cond}, tables_1[i]? = some d → d.before a0 Z = true := fun i d h => hw d (List.mem_of_getElem? h)
  refine MetFree.of_bodySF (plainFor_of_name pn_14) hisR ?_
  intro p e s m args below meth c s₁ Bd hml0 hP hK
  obtain ⟨rfl, hZ, hh⟩ := hP
  have hx := Bd.exec
  have hby := Bd.bytes
  have hml : c.maxLocals = 2 := hml0
  have hown : s.vm.findClass "java/lang/StringUTF16" = some m.cls := findClass_of_methodNamed Bd.named
  have hnm := (name_of_methodNamed Bd.named Bd.method).1
  have X0 : Stand p l e ({ frames := 0, cells := 0, slots := 0, locals := 0 } : Room) s m #[(.ref a1), (.int (1 : Int32))] below meth c s₁ [] 0 0 := Stand.of_body Bd
  have e0 : s₁.heap = h0 := by rw [← hh, Bd.state]; rfl
  have N0 := Fr.nil n0
  have pre0 : ∀ t, Steps p.tables e below (s₁.setTop (mkF m 0 #[vA a1, vI (1 : Int32)] [])) t → Steps p.tables e below (s₁.setTop (entryFrame m #[(.ref a1), (.int (1 : Int32))] 2)) t := fun t k => castTop (ef_14 m a1 (1 : Int32)) k
  obtain ⟨T2, X2, e2, st2⟩ := getS2 X0 hx hZ hown (host := "") (Or.inl (hi 66 rfl)) Via.refl e0 S__assertionsDisabled (g := (mkF m 0 #[vA a1, vI (1 : Int32)] [])) rfl (hb hby d14_0)
  obtain ⟨cl_a1_0, Ar_a1_0, q_a1_0, Sz_a1_0, Ng_a1_0, Ha_a1_0, Gt_a1_0⟩ := id V_a1
  have hin_a1_0 : ¬ ((2 : Int32) < 0 ∨ cl_a1_0.slots.size ≤ ((2 : Int32)).toNatClampNeg) := inb_of Sz_a1_0 ⟨by decide, by decide⟩
  have hat_a1_0 : cl_a1_0.slots[((2 : Int32)).toNatClampNeg]? = some (.int x_a1_2) := (Ha_a1_0 _ (Nat.lt_of_not_le fun q => hin_a1_0 (Or.inr q))).trans (congrArg some (rfl : (([(.int x_a1_0), (.int x_a1_1), (.int x_a1_2), (.int x_a1_3), (.int x_a1_4), (.int x_a1_5), (.int x_a1_6), (.int x_a1_7)] : List Value)).getD ((2 : Int32)).toNatClampNeg (.int (0 : Int32)) = (.int x_a1_2)))
  obtain ⟨T3, X3, e3, st3⟩ := getS2 X2 hx hZ hown (host := "") (Or.inl (hi 67 rfl)) Via.refl e2 S_HI_BYTE_SHIFT (g := (mkF m 42 #[vA a1, vI (3 : Int32)] [(.int (x_a1_2 &&& (255 : Int32)))])) rfl (hb hby d14_42)
  obtain ⟨cl_a1_1, Ar_a1_1, q_a1_1, Sz_a1_1, Ng_a1_1, Ha_a1_1, Gt_a1_1⟩ := id V_a1
  have hin_a1_1 : ¬ ((3 : Int32) < 0 ∨ cl_a1_1.slots.size ≤ ((3 : Int32)).toNatClampNeg) := inb_of Sz_a1_1 ⟨by decide, by decide⟩
  have hat_a1_1 : cl_a1_1.slots[((3 : Int32)).toNatClampNeg]? = some (.int x_a1_3) := (Ha_a1_1 _ (Nat.lt_of_not_le fun q => hin_a1_1 (Or.inr q))).trans (congrArg some (rfl : (([(.int x_a1_0), (.int x_a1_1), (.int x_a1_2), (.int x_a1_3), (.int x_a1_4), (.int x_a1_5), (.int x_a1_6), (.int x_a1_7)] : List Value)).getD ((3 : Int32)).toNatClampNeg (.int (0 : Int32)) = (.int x_a1_3)))
  obtain ⟨T4, X4, e4, st4⟩ := getS2 X3 hx hZ hown (host := "") (Or.inl (hi 68 rfl)) Via.refl e3 S_LO_BYTE_SHIFT (g := (mkF m 53 #[vA a1, vI (3 : Int32)] [(.int (x_a1_3 &&& (255 : Int32))), (.int ((x_a1_2 &&& (255 : Int32)) <<< (s_HI_BYTE_SHIFT &&& 31)))])) rfl (hb hby d14_53)
  obtain ⟨fs, hr, hrun, hended, hW, hsame⟩ := X4.leave (v := some (.int (nar .char (t14_3 s_HI_BYTE_SHIFT s_LO_BYTE_SHIFT x_a1_2 x_a1_3)))) (fun h => by rw [Bd.returns] at h; cases h)
  refine ⟨_, _, pre0 _ ?_, hrun, hended, _, _, rfl, ?_, ⟨_, rfl⟩, hW, hsame.mono (by decide) (by decide)⟩
  · show Steps p.tables e below (s₁.setTop (mkF m 0 #[vA a1, vI (1 : Int32)] [])) _
    refine st2 _ ?_
    show Steps p.tables e below (T2.setTop (mkF m 3 #[vA a1, vI (1 : Int32)] [(.int s__assertionsDisabled)])) _
    refine XS.ifYes X2.here hx rfl (pc0 := 3) (pc' := 28) rfl (hb hby d14_3) rfl ((if0 _ _).trans (feq (show ¬ (s__assertionsDisabled = (0 : Int32)) from hasd)).2) (by decide) (by decide) ?_
    refine XS.iloadN X2.here hx rfl (hb hby d14_28) rfl ?_
    refine XS.iconst X2.here hx rfl (hb hby d14_29) ?_
    refine XS.ishl X2.here hx rfl (hb hby d14_30) rfl ?_
    refine XS.istoreN X2.here hx rfl (hb hby d14_31) rfl (l' := #[vA a1, vI (2 : Int32)]) rfl ?_
    refine XS.aloadN X2.here hx rfl (hb hby d14_32) rfl rfl ?_
    refine XS.iloadN X2.here hx rfl (hb hby d14_33) rfl ?_
    refine XS.iinc X2.here hx rfl (hb hby d14_34) rfl (l' := #[vA a1, vI (3 : Int32)]) rfl ?_
    show Steps p.tables e below (T2.setTop (mkF m 37 #[vA a1, vI (3 : Int32)] [(.int (2 : Int32)), (.ref a1)])) _
    refine X2.baloadBytes hx (j := (2 : Int32)) (v := (.int x_a1_2)) (by rw [e2]; exact Ar_a1_0.1) (State.isArrayOf_alike hZ.alike Ar_a1_0.2.1) Ar_a1_0.2.2 hin_a1_0 hat_a1_0 (g := (mkF m 37 #[vA a1, vI (3 : Int32)] [(.int (2 : Int32)), (.ref a1)])) rfl rfl (hb hby d14_37) _ ?_
    refine XS.sipush X2.here hx rfl (hb hby d14_38) ?_
    refine XS.iand X2.here hx rfl (hb hby d14_41) rfl ?_
    show Steps p.tables e below (T2.setTop (mkF m 42 #[vA a1, vI (3 : Int32)] [(.int (x_a1_2 &&& (255 : Int32)))])) _
    refine st3 _ ?_
    refine XS.ishl X3.here hx rfl (hb hby d14_45) rfl ?_
    refine XS.aloadN X3.here hx rfl (hb hby d14_46) rfl rfl ?_
    refine XS.iloadN X3.here hx rfl (hb hby d14_47) rfl ?_
    show Steps p.tables e below (T3.setTop (mkF m 48 #[vA a1, vI (3 : Int32)] [(.int (3 : Int32)), (.ref a1), (.int ((x_a1_2 &&& (255 : Int32)) <<< (s_HI_BYTE_SHIFT &&& 31)))])) _
    refine X3.baloadBytes hx (j := (3 : Int32)) (v := (.int x_a1_3)) (by rw [e3]; exact Ar_a1_1.1) (State.isArrayOf_alike hZ.alike Ar_a1_1.2.1) Ar_a1_1.2.2 hin_a1_1 hat_a1_1 (g := (mkF m 48 #[vA a1, vI (3 : Int32)] [(.int (3 : Int32)), (.ref a1), (.int ((x_a1_2 &&& (255 : Int32)) <<< (s_HI_BYTE_SHIFT &&& 31)))])) rfl rfl (hb hby d14_48) _ ?_
    refine XS.sipush X3.here hx rfl (hb hby d14_49) ?_
    refine XS.iand X3.here hx rfl (hb hby d14_52) rfl ?_
    show Steps p.tables e below (T3.setTop (mkF m 53 #[vA a1, vI (3 : Int32)] [(.int (x_a1_3 &&& (255 : Int32))), (.int ((x_a1_2 &&& (255 : Int32)) <<< (s_HI_BYTE_SHIFT &&& 31)))])) _
    refine st4 _ ?_
    refine XS.ishl X4.here hx rfl (hb hby d14_56) rfl ?_
    refine XS.ior X4.here hx rfl (hb hby d14_57) rfl ?_
    refine XS.i2c X4.here hx rfl (hb hby d14_58) rfl ?_
    show Steps p.tables e below (T4.setTop (mkF m 59 #[vA a1, vI (3 : Int32)] [(.int (t14_3 s_HI_BYTE_SHIFT s_LO_BYTE_SHIFT x_a1_2 x_a1_3))])) _
    exact retN X4 hx (t := .char) Bd.returns (by simp) (hb hby d14_59) hr
  · show Q_rm14_4_1 Z a1 s__assertionsDisabled s_HI_BYTE_SHIFT s_LO_BYTE_SHIFT k_a1 x_a1_0 x_a1_1 x_a1_2 x_a1_3 x_a1_4 x_a1_5 x_a1_6 x_a1_7 h0 n0 _ T4.heap _
    exact ⟨rfl, N0, e4⟩
def Q_rm13_4_2 (Z : State) (a1 : Addr) (p2 : Int32) (s__assertionsDisabled : Int32) (s_HI_BYTE_SHIFT : Int32) (s_LO_BYTE_SHIFT : Int32) (k_a1 : ClassId) (x_a1_0 : Int32) (x_a1_1 : Int32) (x_a1_2 : Int32) (x_a1_3 : Int32) (x_a1_4 : Int32) (x_a1_5 : Int32) (x_a1_6 : Int32) (x_a1_7 : Int32) (h0 : Heap) (n0 : Nat) (v : Option Value) (h : Heap) (L : List Loc) : Prop := v = none ∧ Fr n0 L ∧ Keep h0 h [a1] ∧ Arv Z h a1 k_a1 .byte (8 : Int32) [(.int x_a1_0), (.int x_a1_1), (.int x_a1_2), (.int x_a1_3), (.int (nar .byte ((p2 >>> (s_HI_BYTE_SHIFT &&& 31)).toInt8.toInt32))), (.int (nar .byte ((p2 >>> (s_LO_BYTE_SHIFT &&& 31)).toInt8.toInt32))), (.int x_a1_6), (.int x_a1_7)] (.int (0 : Int32))
set_option maxRecDepth 65536 in
set_option maxHeartbeats 40000000 in
theorem rm13_4_2 (l : Launch) (Z : State) (a0 : Array Value) (hw : ∀ d ∈ tables_1, d.before a0 Z = true) (ws : List Jvm.Cond) (a1 : Addr) (p2 : Int32) (s__assertionsDisabled : Int32) (s_HI_BYTE_SHIFT : Int32) (s_LO_BYTE_SHIFT : Int32) (k_a1 : ClassId) (x_a1_0 : Int32) (x_a1_1 : Int32) (x_a1_2 : Int32) (x_a1_3 : Int32) (x_a1_4 : Int32) (x_a1_5 : Int32) (x_a1_6 : Int32) (x_a1_7 : Int32) (h0 : Heap) (n0 : Nat) (Z0 : n0 ≤ h0.size) (hasd : ¬ (s__assertionsDisabled = (0 : Int32))) (S__assertionsDisabled : Sta Z h0 "java/lang/StringUTF16" "$assertionsDisabled" "Z" (.int s__assertionsDisabled)) (S_HI_BYTE_SHIFT : Sta Z h0 "java/lang/StringUTF16" "HI_BYTE_SHIFT" "I" (.int s_HI_BYTE_SHIFT)) (g_a1 : n0 ≤ a1) (S_LO_BYTE_SHIFT : Sta Z h0 "java/lang/StringUTF16" "LO_BYTE_SHIFT" "I" (.int s_LO_BYTE_SHIFT)) (V_a1 : Arv Z h0 a1 k_a1 .byte (8 : Int32) [(.int x_a1_0), (.int x_a1_1), (.int x_a1_2), (.int x_a1_3), (.int x_a1_4), (.int x_a1_5), (.int x_a1_6), (.int x_a1_7)] (.int (0 : Int32))) :
    MetFree l (⟨"java/lang/StringUTF16", "putChar", "([BII)V"⟩ : MethodName) (head1 (Jvm.Cond.code (⟨"java/lang/StringUTF16", "putChar", "([BII)V"⟩ : MethodName) jdk_52_method_4_code 3 none :: ws) ({ frames := 0, cells := 0, slots := 0, locals := 0 } : Room)) (fun a U => a = #[(.ref a1), (.int (2 : Int32)), (.int p2)] ∧ Z.Warmed39 U.vm ∧ U.heap = h0) (fun _ _ _ _ _ => True) (fun _ U o U' => ∃ v L, o = .returned v ∧ Q_rm13_4_2 Z a1 p2 s__assertionsDisabled s_HI_BYTE_SHIFT s_LO_BYTE_SHIFT k_a1 x_a1_0 x_a1_1 x_a1_2 x_a1_3 x_a1_4 x_a1_5 x_a1_6 x_a1_7 h0 n0 v U'.heap L ∧ FrameEnd U o U' L ({ frames := 0, cells := 0, slots := 0, locals := 0 } : Room).cells ({ frames := 0, cells := 0, slots := 0, locals := 0 } : Room).slots) := by
  have hi : ∀ (i : Nat) {d : Jvm.Cond}, tables_1[i]? = some d → d.before a0 Z = true := fun i d h => hw d (List.mem_of_getElem? h)
  refine MetFree.of_bodySF (plainFor_of_name pn_13) hisR ?_
  intro p e s m args below meth c s₁ Bd hml0 hP hK
  obtain ⟨rfl, hZ, hh⟩ := hP
  have hx := Bd.exec
  have hby := Bd.bytes
  have hml : c.maxLocals = 3 := hml0
  have hown : s.vm.findClass "java/lang/StringUTF16" = some m.cls := findClass_of_methodNamed Bd.named
  have hnm := (name_of_methodNamed Bd.named Bd.method).1
  have X0 : Stand p l e ({ frames := 0, cells := 0, slots := 0, locals := 0 } : Room) s m #[(.ref a1), (.int (2 : Int32)), (.int p2)] below meth c s₁ [] 0 0 := Stand.of_body Bd
  have e0 : s₁.heap = h0 := by rw [← hh, Bd.state]; rfl
  have N0 := Fr.nil n0
  have pre0 : ∀ t, Steps p.tables e below (s₁.setTop (mkF m 0 #[vA a1, vI (2 : Int32), vI p2] [])) t → Steps p.tables e below (s₁.setTop (entryFrame m #[(.ref a1), (.int (2 : Int32)), (.int p2)] 3)) t := fun t k => castTop (ef_13 m a1 (2 : Int32) p2) k
  obtain ⟨T3, X3, e3, st3⟩ := getS2 X0 hx hZ hown (host := "") (Or.inl (hi 66 rfl)) Via.refl e0 S__assertionsDisabled (g := (mkF m 0 #[vA a1, vI (2 : Int32), vI p2] [])) rfl (hb hby d13_0)
  obtain ⟨T4, X4, e4, st4⟩ := getS2 X3 hx hZ hown (host := "") (Or.inl (hi 67 rfl)) Via.refl e3 S_HI_BYTE_SHIFT (g := (mkF m 38 #[vA a1, vI (5 : Int32), vI p2] [(.int p2), (.int (4 : Int32)), (.ref a1)])) rfl (hb hby d13_38)
  obtain ⟨cl_a1_0, Ar_a1_0, q_a1_0, Sz_a1_0, Ng_a1_0, Ha_a1_0, Gt_a1_0⟩ := id V_a1
  have hin_a1_0 : ¬ ((4 : Int32) < 0 ∨ cl_a1_0.slots.size ≤ ((4 : Int32)).toNatClampNeg) := inb_of Sz_a1_0 ⟨by decide, by decide⟩
  obtain ⟨T5, h5, X5, e5, W5, st5⟩ := stB X4 hx hZ e4 Ar_a1_0 (j := (4 : Int32)) hin_a1_0 (g := (mkF m 43 #[vA a1, vI (5 : Int32), vI p2] [(.int ((p2 >>> (s_HI_BYTE_SHIFT &&& 31)).toInt8.toInt32)), (.int (4 : Int32)), (.ref a1)])) rfl rfl (hb hby d13_43)
  have V5 : Arv Z h5 a1 k_a1 .byte (8 : Int32) [(.int x_a1_0), (.int x_a1_1), (.int x_a1_2), (.int x_a1_3), (.int (nar .byte ((p2 >>> (s_HI_BYTE_SHIFT &&& 31)).toInt8.toInt32))), (.int x_a1_5), (.int x_a1_6), (.int x_a1_7)] (.int (0 : Int32)) := Arv.set Ar_a1_0 q_a1_0 Sz_a1_0 Ng_a1_0 Ha_a1_0 Gt_a1_0 (fits_nar_byte _) W5 4 rfl (Nat.le_of_ble_eq_true rfl)
  have N5 := Fr.snoc X5 N0 g_a1
  have f1 := (S_LO_BYTE_SHIFT.wr W5)
  obtain ⟨T6, X6, e6, st6⟩ := getS2 X5 hx hZ hown (host := "") (Or.inl (hi 68 rfl)) Via.refl e5 f1 (g := (mkF m 47 #[vA a1, vI (5 : Int32), vI p2] [(.int p2), (.int (5 : Int32)), (.ref a1)])) rfl (hb hby d13_47)
  obtain ⟨cl_a1_2, Ar_a1_2, q_a1_2, Sz_a1_2, Ng_a1_2, Ha_a1_2, Gt_a1_2⟩ := id V5
  have hin_a1_2 : ¬ ((5 : Int32) < 0 ∨ cl_a1_2.slots.size ≤ ((5 : Int32)).toNatClampNeg) := inb_of Sz_a1_2 ⟨by decide, by decide⟩
  obtain ⟨T7, h7, X7, e7, W7, st7⟩ := stB X6 hx hZ e6 Ar_a1_2 (j := (5 : Int32)) hin_a1_2 (g := (mkF m 52 #[vA a1, vI (5 : Int32), vI p2] [(.int ((p2 >>> (s_LO_BYTE_SHIFT &&& 31)).toInt8.toInt32)), (.int (5 : Int32)), (.ref a1)])) rfl rfl (hb hby d13_52)
  have V7 : Arv Z h7 a1 k_a1 .byte (8 : Int32) [(.int x_a1_0), (.int x_a1_1), (.int x_a1_2), (.int x_a1_3), (.int (nar .byte ((p2 >>> (s_HI_BYTE_SHIFT &&& 31)).toInt8.toInt32))), (.int (nar .byte ((p2 >>> (s_LO_BYTE_SHIFT &&& 31)).toInt8.toInt32))), (.int x_a1_6), (.int x_a1_7)] (.int (0 : Int32)) := Arv.set Ar_a1_2 q_a1_2 Sz_a1_2 Ng_a1_2 Ha_a1_2 Gt_a1_2 (fits_nar_byte _) W7 5 rfl (Nat.le_of_ble_eq_true rfl)
  have N7 := Fr.snoc X7 N5 g_a1
  obtain ⟨fs, hr, hrun, hended, hW, hsame⟩ := X7.leave (v := none) (fun _ => rfl)
  refine ⟨_, _, pre0 _ ?_, hrun, hended, _, _, rfl, ?_, ⟨_, rfl⟩, hW, hsame.mono (by decide) (by decide)⟩
  · show Steps p.tables e below (s₁.setTop (mkF m 0 #[vA a1, vI (2 : Int32), vI p2] [])) _
    refine st3 _ ?_
    show Steps p.tables e below (T3.setTop (mkF m 3 #[vA a1, vI (2 : Int32), vI p2] [(.int s__assertionsDisabled)])) _
    refine XS.ifYes X3.here hx rfl (pc0 := 3) (pc' := 28) rfl (hb hby d13_3) rfl ((if0 _ _).trans (feq (show ¬ (s__assertionsDisabled = (0 : Int32)) from hasd)).2) (by decide) (by decide) ?_
    refine XS.iloadN X3.here hx rfl (hb hby d13_28) rfl ?_
    refine XS.iconst X3.here hx rfl (hb hby d13_29) ?_
    refine XS.ishl X3.here hx rfl (hb hby d13_30) rfl ?_
    refine XS.istoreN X3.here hx rfl (hb hby d13_31) rfl (l' := #[vA a1, vI (4 : Int32), vI p2]) rfl ?_
    refine XS.aloadN X3.here hx rfl (hb hby d13_32) rfl rfl ?_
    refine XS.iloadN X3.here hx rfl (hb hby d13_33) rfl ?_
    refine XS.iinc X3.here hx rfl (hb hby d13_34) rfl (l' := #[vA a1, vI (5 : Int32), vI p2]) rfl ?_
    refine XS.iloadN X3.here hx rfl (hb hby d13_37) rfl ?_
    show Steps p.tables e below (T3.setTop (mkF m 38 #[vA a1, vI (5 : Int32), vI p2] [(.int p2), (.int (4 : Int32)), (.ref a1)])) _
    refine st4 _ ?_
    refine XS.ishr X4.here hx rfl (hb hby d13_41) rfl ?_
    refine XS.i2b X4.here hx rfl (hb hby d13_42) rfl ?_
    show Steps p.tables e below (T4.setTop (mkF m 43 #[vA a1, vI (5 : Int32), vI p2] [(.int ((p2 >>> (s_HI_BYTE_SHIFT &&& 31)).toInt8.toInt32)), (.int (4 : Int32)), (.ref a1)])) _
    refine st5 _ ?_
    refine XS.aloadN X5.here hx rfl (hb hby d13_44) rfl rfl ?_
    refine XS.iloadN X5.here hx rfl (hb hby d13_45) rfl ?_
    refine XS.iloadN X5.here hx rfl (hb hby d13_46) rfl ?_
    show Steps p.tables e below (T5.setTop (mkF m 47 #[vA a1, vI (5 : Int32), vI p2] [(.int p2), (.int (5 : Int32)), (.ref a1)])) _
    refine st6 _ ?_
    refine XS.ishr X6.here hx rfl (hb hby d13_50) rfl ?_
    refine XS.i2b X6.here hx rfl (hb hby d13_51) rfl ?_
    show Steps p.tables e below (T6.setTop (mkF m 52 #[vA a1, vI (5 : Int32), vI p2] [(.int ((p2 >>> (s_LO_BYTE_SHIFT &&& 31)).toInt8.toInt32)), (.int (5 : Int32)), (.ref a1)])) _
    refine st7 _ ?_
    show Steps p.tables e below (T7.setTop (mkF m 53 #[vA a1, vI (5 : Int32), vI p2] [])) _
    exact X7.returnOut hx Bd.returns (hb hby d13_53) hr
  · show Q_rm13_4_2 Z a1 p2 s__assertionsDisabled s_HI_BYTE_SHIFT s_LO_BYTE_SHIFT k_a1 x_a1_0 x_a1_1 x_a1_2 x_a1_3 x_a1_4 x_a1_5 x_a1_6 x_a1_7 h0 n0 _ T7.heap _
    rw [e7]
    exact ⟨rfl, N7, (((Keep.refl h0 [a1]).wr W5 (Or.inl (List.mem_of_getElem? (i := 0) rfl))).wr W7 (Or.inl (List.mem_of_getElem? (i := 0) rfl))), V7⟩
def Q_rm14_4_2 (Z : State) (a1 : Addr) (s__assertionsDisabled : Int32) (s_HI_BYTE_SHIFT : Int32) (s_LO_BYTE_SHIFT : Int32) (k_a1 : ClassId) (x_a1_0 : Int32) (x_a1_1 : Int32) (x_a1_2 : Int32) (x_a1_3 : Int32) (x_a1_4 : Int32) (x_a1_5 : Int32) (x_a1_6 : Int32) (x_a1_7 : Int32) (h0 : Heap) (n0 : Nat) (v : Option Value) (h : Heap) (L : List Loc) : Prop := v = some (.int (nar .char (t14_5 s_HI_BYTE_SHIFT s_LO_BYTE_SHIFT x_a1_4 x_a1_5))) ∧ Fr n0 L ∧ h = h0
set_option maxRecDepth 65536 in
set_option maxHeartbeats 40000000 in
theorem rm14_4_2 (l : Launch) (Z : State) (a0 : Array Value) (hw : ∀ d ∈ tables_1, d.before a0 Z = true) (ws : List Jvm.Cond) (a1 : Addr) (s__assertionsDisabled : Int32) (s_HI_BYTE_SHIFT : Int32) (s_LO_BYTE_SHIFT : Int32) (k_a1 : ClassId) (x_a1_0 : Int32) (x_a1_1 : Int32) (x_a1_2 : Int32) (x_a1_3 : Int32) (x_a1_4 : Int32) (x_a1_5 : Int32) (x_a1_6 : Int32) (x_a1_7 : Int32) (h0 : Heap) (n0 : Nat) (Z0 : n0 ≤ h0.size) (hasd : ¬ (s__assertionsDisabled = (0 : Int32))) (S__assertionsDisabled : Sta Z h0 "java/lang/StringUTF16" "$assertionsDisabled" "Z" (.int s__assertionsDisabled)) (S_HI_BYTE_SHIFT : Sta Z h0 "java/lang/StringUTF16" "HI_BYTE_SHIFT" "I" (.int s_HI_BYTE_SHIFT)) (S_LO_BYTE_SHIFT : Sta Z h0 "java/lang/StringUTF16" "LO_BYTE_SHIFT" "I" (.int s_LO_BYTE_SHIFT)) (V_a1 : Arv Z h0 a1 k_a1 .byte (8 : Int32) [(.int x_a1_0), (.int x_a1_1), (.int x_a1_2), (.int x_a1_3), (.int x_a1_4), (.int x_a1_5), (.int x_a1_6), (.int x_a1_7)] (.int (0 : Int32))) :
    MetFree l (⟨"java/lang/StringUTF16", "getChar", "([BI)C"⟩ : MethodName) (head1 (Jvm.Cond.code (⟨"java/lang/StringUTF16", "getChar", "([BI)C"⟩ : MethodName) jdk_52_method_5_code 2 (some .char) :: ws) ({ frames := 0, cells := 0, slots := 0, locals := 0 } : Room)) (fun a U => a = #[(.ref a1), (.int (2 : Int32))] ∧ Z.Warmed39 U.vm ∧ U.heap = h0) (fun _ _ _ _ _ => True) (fun _ U o U' => ∃ v L, o = .returned v ∧ Q_rm14_4_2 Z a1 s__assertionsDisabled s_HI_BYTE_SHIFT s_LO_BYTE_SHIFT k_a1 x_a1_0 x_a1_1 x_a1_2 x_a1_3 x_a1_4 x_a1_5 x_a1_6 x_a1_7 h0 n0 v U'.heap L ∧ FrameEnd U o U' L ({ frames := 0, cells := 0, slots := 0, locals := 0 } : Room).cells ({ frames := 0, cells := 0, slots := 0, locals := 0 } : Room).slots) := by
  have hi : ∀ (i : Nat) {d : Jvm.Cond}, tables_1[i]? = some d → d.before a0 Z = true := fun i d h => hw d (List.mem_of_getElem? h)
  refine MetFree.of_bodySF (plainFor_of_name pn_14) hisR ?_
  intro p e s m args below meth c s₁ Bd hml0 hP hK
  obtain ⟨rfl, hZ, hh⟩ := hP
  have hx := Bd.exec
  have hby := Bd.bytes
  have hml : c.maxLocals = 2 := hml0
  have hown : s.vm.findClass "java/lang/StringUTF16" = some m.cls := findClass_of_methodNamed Bd.named
  have hnm := (name_of_methodNamed Bd.named Bd.method).1
  have X0 : Stand p l e ({ frames := 0, cells := 0, slots := 0, locals := 0 } : Room) s m #[(.ref a1), (.int (2 : Int32))] below meth c s₁ [] 0 0 := Stand.of_body Bd
  have e0 : s₁.heap = h0 := by rw [← hh, Bd.state]; rfl
  have N0 := Fr.nil n0
  have pre0 : ∀ t, Steps p.tables e below (s₁.setTop (mkF m 0 #[vA a1, vI (2 : Int32)] [])) t → Steps p.tables e below (s₁.setTop (entryFrame m #[(.ref a1), (.int (2 : Int32))] 2)) t := fun t k => castTop (ef_14 m a1 (2 : Int32)) k
  obtain ⟨T2, X2, e2, st2⟩ := getS2 X0 hx hZ hown (host := "") (Or.inl (hi 66 rfl)) Via.refl e0 S__assertionsDisabled (g := (mkF m 0 #[vA a1, vI (2 : Int32)] [])) rfl (hb hby d14_0)
  obtain ⟨cl_a1_0, Ar_a1_0, q_a1_0, Sz_a1_0, Ng_a1_0, Ha_a1_0, Gt_a1_0⟩ := id V_a1
  have hin_a1_0 : ¬ ((4 : Int32) < 0 ∨ cl_a1_0.slots.size ≤ ((4 : Int32)).toNatClampNeg) := inb_of Sz_a1_0 ⟨by decide, by decide⟩
  have hat_a1_0 : cl_a1_0.slots[((4 : Int32)).toNatClampNeg]? = some (.int x_a1_4) := (Ha_a1_0 _ (Nat.lt_of_not_le fun q => hin_a1_0 (Or.inr q))).trans (congrArg some (rfl : (([(.int x_a1_0), (.int x_a1_1), (.int x_a1_2), (.int x_a1_3), (.int x_a1_4), (.int x_a1_5), (.int x_a1_6), (.int x_a1_7)] : List Value)).getD ((4 : Int32)).toNatClampNeg (.int (0 : Int32)) = (.int x_a1_4)))
  obtain ⟨T3, X3, e3, st3⟩ := getS2 X2 hx hZ hown (host := "") (Or.inl (hi 67 rfl)) Via.refl e2 S_HI_BYTE_SHIFT (g := (mkF m 42 #[vA a1, vI (5 : Int32)] [(.int (x_a1_4 &&& (255 : Int32)))])) rfl (hb hby d14_42)
  obtain ⟨cl_a1_1, Ar_a1_1, q_a1_1, Sz_a1_1, Ng_a1_1, Ha_a1_1, Gt_a1_1⟩ := id V_a1
  have hin_a1_1 : ¬ ((5 : Int32) < 0 ∨ cl_a1_1.slots.size ≤ ((5 : Int32)).toNatClampNeg) := inb_of Sz_a1_1 ⟨by decide, by decide⟩
  have hat_a1_1 : cl_a1_1.slots[((5 : Int32)).toNatClampNeg]? = some (.int x_a1_5) := (Ha_a1_1 _ (Nat.lt_of_not_le fun q => hin_a1_1 (Or.inr q))).trans (congrArg some (rfl : (([(.int x_a1_0), (.int x_a1_1), (.int x_a1_2), (.int x_a1_3), (.int x_a1_4), (.int x_a1_5), (.int x_a1_6), (.int x_a1_7)] : List Value)).getD ((5 : Int32)).toNatClampNeg (.int (0 : Int32)) = (.int x_a1_5)))
  obtain ⟨T4, X4, e4, st4⟩ := getS2 X3 hx hZ hown (host := "") (Or.inl (hi 68 rfl)) Via.refl e3 S_LO_BYTE_SHIFT (g := (mkF m 53 #[vA a1, vI (5 : Int32)] [(.int (x_a1_5 &&& (255 : Int32))), (.int ((x_a1_4 &&& (255 : Int32)) <<< (s_HI_BYTE_SHIFT &&& 31)))])) rfl (hb hby d14_53)
  obtain ⟨fs, hr, hrun, hended, hW, hsame⟩ := X4.leave (v := some (.int (nar .char (t14_5 s_HI_BYTE_SHIFT s_LO_BYTE_SHIFT x_a1_4 x_a1_5)))) (fun h => by rw [Bd.returns] at h; cases h)
  refine ⟨_, _, pre0 _ ?_, hrun, hended, _, _, rfl, ?_, ⟨_, rfl⟩, hW, hsame.mono (by decide) (by decide)⟩
  · show Steps p.tables e below (s₁.setTop (mkF m 0 #[vA a1, vI (2 : Int32)] [])) _
    refine st2 _ ?_
    show Steps p.tables e below (T2.setTop (mkF m 3 #[vA a1, vI (2 : Int32)] [(.int s__assertionsDisabled)])) _
    refine XS.ifYes X2.here hx rfl (pc0 := 3) (pc' := 28) rfl (hb hby d14_3) rfl ((if0 _ _).trans (feq (show ¬ (s__assertionsDisabled = (0 : Int32)) from hasd)).2) (by decide) (by decide) ?_
    refine XS.iloadN X2.here hx rfl (hb hby d14_28) rfl ?_
    refine XS.iconst X2.here hx rfl (hb hby d14_29) ?_
    refine XS.ishl X2.here hx rfl (hb hby d14_30) rfl ?_
    refine XS.istoreN X2.here hx rfl (hb hby d14_31) rfl (l' := #[vA a1, vI (4 : Int32)]) rfl ?_
    refine XS.aloadN X2.here hx rfl (hb hby d14_32) rfl rfl ?_
    refine XS.iloadN X2.here hx rfl (hb hby d14_33) rfl ?_
    refine XS.iinc X2.here hx rfl (hb hby d14_34) rfl (l' := #[vA a1, vI (5 : Int32)]) rfl ?_
    show Steps p.tables e below (T2.setTop (mkF m 37 #[vA a1, vI (5 : Int32)] [(.int (4 : Int32)), (.ref a1)])) _
    refine X2.baloadBytes hx (j := (4 : Int32)) (v := (.int x_a1_4)) (by rw [e2]; exact Ar_a1_0.1) (State.isArrayOf_alike hZ.alike Ar_a1_0.2.1) Ar_a1_0.2.2 hin_a1_0 hat_a1_0 (g := (mkF m 37 #[vA a1, vI (5 : Int32)] [(.int (4 : Int32)), (.ref a1)])) rfl rfl (hb hby d14_37) _ ?_
    refine XS.sipush X2.here hx rfl (hb hby d14_38) ?_
    refine XS.iand X2.here hx rfl (hb hby d14_41) rfl ?_
    show Steps p.tables e below (T2.setTop (mkF m 42 #[vA a1, vI (5 : Int32)] [(.int (x_a1_4 &&& (255 : Int32)))])) _
    refine st3 _ ?_
    refine XS.ishl X3.here hx rfl (hb hby d14_45) rfl ?_
    refine XS.aloadN X3.here hx rfl (hb hby d14_46) rfl rfl ?_
    refine XS.iloadN X3.here hx rfl (hb hby d14_47) rfl ?_
    show Steps p.tables e below (T3.setTop (mkF m 48 #[vA a1, vI (5 : Int32)] [(.int (5 : Int32)), (.ref a1), (.int ((x_a1_4 &&& (255 : Int32)) <<< (s_HI_BYTE_SHIFT &&& 31)))])) _
    refine X3.baloadBytes hx (j := (5 : Int32)) (v := (.int x_a1_5)) (by rw [e3]; exact Ar_a1_1.1) (State.isArrayOf_alike hZ.alike Ar_a1_1.2.1) Ar_a1_1.2.2 hin_a1_1 hat_a1_1 (g := (mkF m 48 #[vA a1, vI (5 : Int32)] [(.int (5 : Int32)), (.ref a1), (.int ((x_a1_4 &&& (255 : Int32)) <<< (s_HI_BYTE_SHIFT &&& 31)))])) rfl rfl (hb hby d14_48) _ ?_
    refine XS.sipush X3.here hx rfl (hb hby d14_49) ?_
    refine XS.iand X3.here hx rfl (hb hby d14_52) rfl ?_
    show Steps p.tables e below (T3.setTop (mkF m 53 #[vA a1, vI (5 : Int32)] [(.int (x_a1_5 &&& (255 : Int32))), (.int ((x_a1_4 &&& (255 : Int32)) <<< (s_HI_BYTE_SHIFT &&& 31)))])) _
    refine st4 _ ?_
    refine XS.ishl X4.here hx rfl (hb hby d14_56) rfl ?_
    refine XS.ior X4.here hx rfl (hb hby d14_57) rfl ?_
    refine XS.i2c X4.here hx rfl (hb hby d14_58) rfl ?_
    show Steps p.tables e below (T4.setTop (mkF m 59 #[vA a1, vI (5 : Int32)] [(.int (t14_5 s_HI_BYTE_SHIFT s_LO_BYTE_SHIFT x_a1_4 x_a1_5))])) _
    exact retN X4 hx (t := .char) Bd.returns (by simp) (hb hby d14_59) hr
  · show Q_rm14_4_2 Z a1 s__assertionsDisabled s_HI_BYTE_SHIFT s_LO_BYTE_SHIFT k_a1 x_a1_0 x_a1_1 x_a1_2 x_a1_3 x_a1_4 x_a1_5 x_a1_6 x_a1_7 h0 n0 _ T4.heap _
    exact ⟨rfl, N0, e4⟩
def Q_rm13_4_3 (Z : State) (a1 : Addr) (p2 : Int32) (s__assertionsDisabled : Int32) (s_HI_BYTE_SHIFT : Int32) (s_LO_BYTE_SHIFT : Int32) (k_a1 : ClassId) (x_a1_0 : Int32) (x_a1_1 : Int32) (x_a1_2 : Int32) (x_a1_3 : Int32) (x_a1_4 : Int32) (x_a1_5 : Int32) (x_a1_6 : Int32) (x_a1_7 : Int32) (h0 : Heap) (n0 : Nat) (v : Option Value) (h : Heap) (L : List Loc) : Prop := v = none ∧ Fr n0 L ∧ Keep h0 h [a1] ∧ Arv Z h a1 k_a1 .byte (8 : Int32) [(.int x_a1_0), (.int x_a1_1), (.int x_a1_2), (.int x_a1_3), (.int x_a1_4), (.int x_a1_5), (.int (nar .byte ((p2 >>> (s_HI_BYTE_SHIFT &&& 31)).toInt8.toInt32))), (.int (nar .byte ((p2 >>> (s_LO_BYTE_SHIFT &&& 31)).toInt8.toInt32)))] (.int (0 : Int32))
set_option maxRecDepth 65536 in
set_option maxHeartbeats 40000000 in
theorem rm13_4_3 (l : Launch) (Z : State) (a0 : Array Value) (hw : ∀ d ∈ tables_1, d.before a0 Z = true) (ws : List Jvm.Cond) (a1 : Addr) (p2 : Int32) (s__assertionsDisabled : Int32) (s_HI_BYTE_SHIFT : Int32) (s_LO_BYTE_SHIFT : Int32) (k_a1 : ClassId) (x_a1_0 : Int32) (x_a1_1 : Int32) (x_a1_2 : Int32) (x_a1_3 : Int32) (x_a1_4 : Int32) (x_a1_5 : Int32) (x_a1_6 : Int32) (x_a1_7 : Int32) (h0 : Heap) (n0 : Nat) (Z0 : n0 ≤ h0.size) (hasd : ¬ (s__assertionsDisabled = (0 : Int32))) (S__assertionsDisabled : Sta Z h0 "java/lang/StringUTF16" "$assertionsDisabled" "Z" (.int s__assertionsDisabled)) (S_HI_BYTE_SHIFT : Sta Z h0 "java/lang/StringUTF16" "HI_BYTE_SHIFT" "I" (.int s_HI_BYTE_SHIFT)) (g_a1 : n0 ≤ a1) (S_LO_BYTE_SHIFT : Sta Z h0 "java/lang/StringUTF16" "LO_BYTE_SHIFT" "I" (.int s_LO_BYTE_SHIFT)) (V_a1 : Arv Z h0 a1 k_a1 .byte (8 : Int32) [(.int x_a1_0), (.int x_a1_1), (.int x_a1_2), (.int x_a1_3), (.int x_a1_4), (.int x_a1_5), (.int x_a1_6), (.int x_a1_7)] (.int (0 : Int32))) :
    MetFree l (⟨"java/lang/StringUTF16", "putChar", "([BII)V"⟩ : MethodName) (head1 (Jvm.Cond.code (⟨"java/lang/StringUTF16", "putChar", "([BII)V"⟩ : MethodName) jdk_52_method_4_code 3 none :: ws) ({ frames := 0, cells := 0, slots := 0, locals := 0 } : Room)) (fun a U => a = #[(.ref a1), (.int (3 : Int32)), (.int p2)] ∧ Z.Warmed39 U.vm ∧ U.heap = h0) (fun _ _ _ _ _ => True) (fun _ U o U' => ∃ v L, o = .returned v ∧ Q_rm13_4_3 Z a1 p2 s__assertionsDisabled s_HI_BYTE_SHIFT s_LO_BYTE_SHIFT k_a1 x_a1_0 x_a1_1 x_a1_2 x_a1_3 x_a1_4 x_a1_5 x_a1_6 x_a1_7 h0 n0 v U'.heap L ∧ FrameEnd U o U' L ({ frames := 0, cells := 0, slots := 0, locals := 0 } : Room).cells ({ frames := 0, cells := 0, slots := 0, locals := 0 } : Room).slots) := by
  have hi : ∀ (i : Nat) {d : Jvm.Cond}, tables_1[i]? = some d → d.before a0 Z = true := fun i d h => hw d (List.mem_of_getElem? h)
  refine MetFree.of_bodySF (plainFor_of_name pn_13) hisR ?_
  intro p e s m args below meth c s₁ Bd hml0 hP hK
  obtain ⟨rfl, hZ, hh⟩ := hP
  have hx := Bd.exec
  have hby := Bd.bytes
  have hml : c.maxLocals = 3 := hml0
  have hown : s.vm.findClass "java/lang/StringUTF16" = some m.cls := findClass_of_methodNamed Bd.named
  have hnm := (name_of_methodNamed Bd.named Bd.method).1
  have X0 : Stand p l e ({ frames := 0, cells := 0, slots := 0, locals := 0 } : Room) s m #[(.ref a1), (.int (3 : Int32)), (.int p2)] below meth c s₁ [] 0 0 := Stand.of_body Bd
  have e0 : s₁.heap = h0 := by rw [← hh, Bd.state]; rfl
  have N0 := Fr.nil n0
  have pre0 : ∀ t, Steps p.tables e below (s₁.setTop (mkF m 0 #[vA a1, vI (3 : Int32), vI p2] [])) t → Steps p.tables e below (s₁.setTop (entryFrame m #[(.ref a1), (.int (3 : Int32)), (.int p2)] 3)) t := fun t k => castTop (ef_13 m a1 (3 : Int32) p2) k
  obtain ⟨T3, X3, e3, st3⟩ := getS2 X0 hx hZ hown (host := "") (Or.inl (hi 66 rfl)) Via.refl e0 S__assertionsDisabled (g := (mkF m 0 #[vA a1, vI (3 : Int32), vI p2] [])) rfl (hb hby d13_0)
  obtain ⟨T4, X4, e4, st4⟩ := getS2 X3 hx hZ hown (host := "") (Or.inl (hi 67 rfl)) Via.refl e3 S_HI_BYTE_SHIFT (g := (mkF m 38 #[vA a1, vI (7 : Int32), vI p2] [(.int p2), (.int (6 : Int32)), (.ref a1)])) rfl (hb hby d13_38)
  obtain ⟨cl_a1_0, Ar_a1_0, q_a1_0, Sz_a1_0, Ng_a1_0, Ha_a1_0, Gt_a1_0⟩ := id V_a1
  have hin_a1_0 : ¬ ((6 : Int32) < 0 ∨ cl_a1_0.slots.size ≤ ((6 : Int32)).toNatClampNeg) := inb_of Sz_a1_0 ⟨by decide, by decide⟩
  obtain ⟨T5, h5, X5, e5, W5, st5⟩ := stB X4 hx hZ e4 Ar_a1_0 (j := (6 : Int32)) hin_a1_0 (g := (mkF m 43 #[vA a1, vI (7 : Int32), vI p2] [(.int ((p2 >>> (s_HI_BYTE_SHIFT &&& 31)).toInt8.toInt32)), (.int (6 : Int32)), (.ref a1)])) rfl rfl (hb hby d13_43)
  have V5 : Arv Z h5 a1 k_a1 .byte (8 : Int32) [(.int x_a1_0), (.int x_a1_1), (.int x_a1_2), (.int x_a1_3), (.int x_a1_4), (.int x_a1_5), (.int (nar .byte ((p2 >>> (s_HI_BYTE_SHIFT &&& 31)).toInt8.toInt32))), (.int x_a1_7)] (.int (0 : Int32)) := Arv.set Ar_a1_0 q_a1_0 Sz_a1_0 Ng_a1_0 Ha_a1_0 Gt_a1_0 (fits_nar_byte _) W5 6 rfl (Nat.le_of_ble_eq_true rfl)
  have N5 := Fr.snoc X5 N0 g_a1
  have f1 := (S_LO_BYTE_SHIFT.wr W5)
  obtain ⟨T6, X6, e6, st6⟩ := getS2 X5 hx hZ hown (host := "") (Or.inl (hi 68 rfl)) Via.refl e5 f1 (g := (mkF m 47 #[vA a1, vI (7 : Int32), vI p2] [(.int p2), (.int (7 : Int32)), (.ref a1)])) rfl (hb hby d13_47)
  obtain ⟨cl_a1_2, Ar_a1_2, q_a1_2, Sz_a1_2, Ng_a1_2, Ha_a1_2, Gt_a1_2⟩ := id V5
  have hin_a1_2 : ¬ ((7 : Int32) < 0 ∨ cl_a1_2.slots.size ≤ ((7 : Int32)).toNatClampNeg) := inb_of Sz_a1_2 ⟨by decide, by decide⟩
  obtain ⟨T7, h7, X7, e7, W7, st7⟩ := stB X6 hx hZ e6 Ar_a1_2 (j := (7 : Int32)) hin_a1_2 (g := (mkF m 52 #[vA a1, vI (7 : Int32), vI p2] [(.int ((p2 >>> (s_LO_BYTE_SHIFT &&& 31)).toInt8.toInt32)), (.int (7 : Int32)), (.ref a1)])) rfl rfl (hb hby d13_52)
  have V7 : Arv Z h7 a1 k_a1 .byte (8 : Int32) [(.int x_a1_0), (.int x_a1_1), (.int x_a1_2), (.int x_a1_3), (.int x_a1_4), (.int x_a1_5), (.int (nar .byte ((p2 >>> (s_HI_BYTE_SHIFT &&& 31)).toInt8.toInt32))), (.int (nar .byte ((p2 >>> (s_LO_BYTE_SHIFT &&& 31)).toInt8.toInt32)))] (.int (0 : Int32)) := Arv.set Ar_a1_2 q_a1_2 Sz_a1_2 Ng_a1_2 Ha_a1_2 Gt_a1_2 (fits_nar_byte _) W7 7 rfl (Nat.le_of_ble_eq_true rfl)
  have N7 := Fr.snoc X7 N5 g_a1
  obtain ⟨fs, hr, hrun, hended, hW, hsame⟩ := X7.leave (v := none) (fun _ => rfl)
  refine ⟨_, _, pre0 _ ?_, hrun, hended, _, _, rfl, ?_, ⟨_, rfl⟩, hW, hsame.mono (by decide) (by decide)⟩
  · show Steps p.tables e below (s₁.setTop (mkF m 0 #[vA a1, vI (3 : Int32), vI p2] [])) _
    refine st3 _ ?_
    show Steps p.tables e below (T3.setTop (mkF m 3 #[vA a1, vI (3 : Int32), vI p2] [(.int s__assertionsDisabled)])) _
    refine XS.ifYes X3.here hx rfl (pc0 := 3) (pc' := 28) rfl (hb hby d13_3) rfl ((if0 _ _).trans (feq (show ¬ (s__assertionsDisabled = (0 : Int32)) from hasd)).2) (by decide) (by decide) ?_
    refine XS.iloadN X3.here hx rfl (hb hby d13_28) rfl ?_
    refine XS.iconst X3.here hx rfl (hb hby d13_29) ?_
    refine XS.ishl X3.here hx rfl (hb hby d13_30) rfl ?_
    refine XS.istoreN X3.here hx rfl (hb hby d13_31) rfl (l' := #[vA a1, vI (6 : Int32), vI p2]) rfl ?_
    refine XS.aloadN X3.here hx rfl (hb hby d13_32) rfl rfl ?_
    refine XS.iloadN X3.here hx rfl (hb hby d13_33) rfl ?_
    refine XS.iinc X3.here hx rfl (hb hby d13_34) rfl (l' := #[vA a1, vI (7 : Int32), vI p2]) rfl ?_
    refine XS.iloadN X3.here hx rfl (hb hby d13_37) rfl ?_
    show Steps p.tables e below (T3.setTop (mkF m 38 #[vA a1, vI (7 : Int32), vI p2] [(.int p2), (.int (6 : Int32)), (.ref a1)])) _
    refine st4 _ ?_
    refine XS.ishr X4.here hx rfl (hb hby d13_41) rfl ?_
    refine XS.i2b X4.here hx rfl (hb hby d13_42) rfl ?_
    show Steps p.tables e below (T4.setTop (mkF m 43 #[vA a1, vI (7 : Int32), vI p2] [(.int ((p2 >>> (s_HI_BYTE_SHIFT &&& 31)).toInt8.toInt32)), (.int (6 : Int32)), (.ref a1)])) _
    refine st5 _ ?_
    refine XS.aloadN X5.here hx rfl (hb hby d13_44) rfl rfl ?_
    refine XS.iloadN X5.here hx rfl (hb hby d13_45) rfl ?_
    refine XS.iloadN X5.here hx rfl (hb hby d13_46) rfl ?_
    show Steps p.tables e below (T5.setTop (mkF m 47 #[vA a1, vI (7 : Int32), vI p2] [(.int p2), (.int (7 : Int32)), (.ref a1)])) _
    refine st6 _ ?_
    refine XS.ishr X6.here hx rfl (hb hby d13_50) rfl ?_
    refine XS.i2b X6.here hx rfl (hb hby d13_51) rfl ?_
    show Steps p.tables e below (T6.setTop (mkF m 52 #[vA a1, vI (7 : Int32), vI p2] [(.int ((p2 >>> (s_LO_BYTE_SHIFT &&& 31)).toInt8.toInt32)), (.int (7 : Int32)), (.ref a1)])) _
    refine st7 _ ?_
    show Steps p.tables e below (T7.setTop (mkF m 53 #[vA a1, vI (7 : Int32), vI p2] [])) _
    exact X7.returnOut hx Bd.returns (hb hby d13_53) hr
  · show Q_rm13_4_3 Z a1 p2 s__assertionsDisabled s_HI_BYTE_SHIFT s_LO_BYTE_SHIFT k_a1 x_a1_0 x_a1_1 x_a1_2 x_a1_3 x_a1_4 x_a1_5 x_a1_6 x_a1_7 h0 n0 _ T7.heap _
    rw [e7]
    exact ⟨rfl, N7, (((Keep.refl h0 [a1]).wr W5 (Or.inl (List.mem_of_getElem? (i := 0) rfl))).wr W7 (Or.inl (List.mem_of_getElem? (i := 0) rfl))), V7⟩
def t14_6 (s_HI_BYTE_SHIFT : Int32) (s_LO_BYTE_SHIFT : Int32) (x_a1_6 : Int32) (x_a1_7 : Int32) : Int32 := (((x_a1_6 &&& (255 : Int32)) <<< (s_HI_BYTE_SHIFT &&& 31)) ||| ((x_a1_7 &&& (255 : Int32)) <<< (s_LO_BYTE_SHIFT &&& 31)))
def t14_7 (s_HI_BYTE_SHIFT : Int32) (s_LO_BYTE_SHIFT : Int32) (x_a1_6 : Int32) (x_a1_7 : Int32) : Int32 := ((t14_6 s_HI_BYTE_SHIFT s_LO_BYTE_SHIFT x_a1_6 x_a1_7).toUInt32.toUInt16.toUInt32.toInt32)
def Q_rm14_4_3 (Z : State) (a1 : Addr) (s__assertionsDisabled : Int32) (s_HI_BYTE_SHIFT : Int32) (s_LO_BYTE_SHIFT : Int32) (k_a1 : ClassId) (x_a1_0 : Int32) (x_a1_1 : Int32) (x_a1_2 : Int32) (x_a1_3 : Int32) (x_a1_4 : Int32) (x_a1_5 : Int32) (x_a1_6 : Int32) (x_a1_7 : Int32) (h0 : Heap) (n0 : Nat) (v : Option Value) (h : Heap) (L : List Loc) : Prop := v = some (.int (nar .char (t14_7 s_HI_BYTE_SHIFT s_LO_BYTE_SHIFT x_a1_6 x_a1_7))) ∧ Fr n0 L ∧ h = h0
set_option maxRecDepth 65536 in
set_option maxHeartbeats 40000000 in
theorem rm14_4_3 (l : Launch) (Z : State) (a0 : Array Value) (hw : ∀ d ∈ tables_1, d.before a0 Z = true) (ws : List Jvm.Cond) (a1 : Addr) (s__assertionsDisabled : Int32) (s_HI_BYTE_SHIFT : Int32) (s_LO_BYTE_SHIFT : Int32) (k_a1 : ClassId) (x_a1_0 : Int32) (x_a1_1 : Int32) (x_a1_2 : Int32) (x_a1_3 : Int32) (x_a1_4 : Int32) (x_a1_5 : Int32) (x_a1_6 : Int32) (x_a1_7 : Int32) (h0 : Heap) (n0 : Nat) (Z0 : n0 ≤ h0.size) (hasd : ¬ (s__assertionsDisabled = (0 : Int32))) (S__assertionsDisabled : Sta Z h0 "java/lang/StringUTF16" "$assertionsDisabled" "Z" (.int s__assertionsDisabled)) (S_HI_BYTE_SHIFT : Sta Z h0 "java/lang/StringUTF16" "HI_BYTE_SHIFT" "I" (.int s_HI_BYTE_SHIFT)) (S_LO_BYTE_SHIFT : Sta Z h0 "java/lang/StringUTF16" "LO_BYTE_SHIFT" "I" (.int s_LO_BYTE_SHIFT)) (V_a1 : Arv Z h0 a1 k_a1 .byte (8 : Int32) [(.int x_a1_0), (.int x_a1_1), (.int x_a1_2), (.int x_a1_3), (.int x_a1_4), (.int x_a1_5), (.int x_a1_6), (.int x_a1_7)] (.int (0 : Int32))) :
    MetFree l (⟨"java/lang/StringUTF16", "getChar", "([BI)C"⟩ : MethodName) (head1 (Jvm.Cond.code (⟨"java/lang/StringUTF16", "getChar", "([BI)C"⟩ : MethodName) jdk_52_method_5_code 2 (some .char) :: ws) ({ frames := 0, cells := 0, slots := 0, locals := 0 } : Room)) (fun a U => a = #[(.ref a1), (.int (3 : Int32))] ∧ Z.Warmed39 U.vm ∧ U.heap = h0) (fun _ _ _ _ _ => True) (fun _ U o U' => ∃ v L, o = .returned v ∧ Q_rm14_4_3 Z a1 s__assertionsDisabled s_HI_BYTE_SHIFT s_LO_BYTE_SHIFT k_a1 x_a1_0 x_a1_1 x_a1_2 x_a1_3 x_a1_4 x_a1_5 x_a1_6 x_a1_7 h0 n0 v U'.heap L ∧ FrameEnd U o U' L ({ frames := 0, cells := 0, slots := 0, locals := 0 } : Room).cells ({ frames := 0, cells := 0, slots := 0, locals := 0 } : Room).slots) := by
  have hi : ∀ (i : Nat) {d : Jvm.Cond}, tables_1[i]? = some d → d.before a0 Z = true := fun i d h => hw d (List.mem_of_getElem? h)
  refine MetFree.of_bodySF (plainFor_of_name pn_14) hisR ?_
  intro p e s m args below meth c s₁ Bd hml0 hP hK
  obtain ⟨rfl, hZ, hh⟩ := hP
  have hx := Bd.exec
  have hby := Bd.bytes
  have hml : c.maxLocals = 2 := hml0
  have hown : s.vm.findClass "java/lang/StringUTF16" = some m.cls := findClass_of_methodNamed Bd.named
  have hnm := (name_of_methodNamed Bd.named Bd.method).1
  have X0 : Stand p l e ({ frames := 0, cells := 0, slots := 0, locals := 0 } : Room) s m #[(.ref a1), (.int (3 : Int32))] below meth c s₁ [] 0 0 := Stand.of_body Bd
  have e0 : s₁.heap = h0 := by rw [← hh, Bd.state]; rfl
  have N0 := Fr.nil n0
  have pre0 : ∀ t, Steps p.tables e below (s₁.setTop (mkF m 0 #[vA a1, vI (3 : Int32)] [])) t → Steps p.tables e below (s₁.setTop (entryFrame m #[(.ref a1), (.int (3 : Int32))] 2)) t := fun t k => castTop (ef_14 m a1 (3 : Int32)) k
  obtain ⟨T2, X2, e2, st2⟩ := getS2 X0 hx hZ hown (host := "") (Or.inl (hi 66 rfl)) Via.refl e0 S__assertionsDisabled (g := (mkF m 0 #[vA a1, vI (3 : Int32)] [])) rfl (hb hby d14_0)
  obtain ⟨cl_a1_0, Ar_a1_0, q_a1_0, Sz_a1_0, Ng_a1_0, Ha_a1_0, Gt_a1_0⟩ := id V_a1
  have hin_a1_0 : ¬ ((6 : Int32) < 0 ∨ cl_a1_0.slots.size ≤ ((6 : Int32)).toNatClampNeg) := inb_of Sz_a1_0 ⟨by decide, by decide⟩
  have hat_a1_0 : cl_a1_0.slots[((6 : Int32)).toNatClampNeg]? = some (.int x_a1_6) := (Ha_a1_0 _ (Nat.lt_of_not_le fun q => hin_a1_0 (Or.inr q))).trans (congrArg some (rfl : (([(.int x_a1_0), (.int x_a1_1), (.int x_a1_2), (.int x_a1_3), (.int x_a1_4), (.int x_a1_5), (.int x_a1_6), (.int x_a1_7)] : List Value)).getD ((6 : Int32)).toNatClampNeg (.int (0 : Int32)) = (.int x_a1_6)))
  obtain ⟨T3, X3, e3, st3⟩ := getS2 X2 hx hZ hown (host := "") (Or.inl (hi 67 rfl)) Via.refl e2 S_HI_BYTE_SHIFT (g := (mkF m 42 #[vA a1, vI (7 : Int32)] [(.int (x_a1_6 &&& (255 : Int32)))])) rfl (hb hby d14_42)
  obtain ⟨cl_a1_1, Ar_a1_1, q_a1_1, Sz_a1_1, Ng_a1_1, Ha_a1_1, Gt_a1_1⟩ := id V_a1
  have hin_a1_1 : ¬ ((7 : Int32) < 0 ∨ cl_a1_1.slots.size ≤ ((7 : Int32)).toNatClampNeg) := inb_of Sz_a1_1 ⟨by decide, by decide⟩
  have hat_a1_1 : cl_a1_1.slots[((7 : Int32)).toNatClampNeg]? = some (.int x_a1_7) := (Ha_a1_1 _ (Nat.lt_of_not_le fun q => hin_a1_1 (Or.inr q))).trans (congrArg some (rfl : (([(.int x_a1_0), (.int x_a1_1), (.int x_a1_2), (.int x_a1_3), (.int x_a1_4), (.int x_a1_5), (.int x_a1_6), (.int x_a1_7)] : List Value)).getD ((7 : Int32)).toNatClampNeg (.int (0 : Int32)) = (.int x_a1_7)))
  obtain ⟨T4, X4, e4, st4⟩ := getS2 X3 hx hZ hown (host := "") (Or.inl (hi 68 rfl)) Via.refl e3 S_LO_BYTE_SHIFT (g := (mkF m 53 #[vA a1, vI (7 : Int32)] [(.int (x_a1_7 &&& (255 : Int32))), (.int ((x_a1_6 &&& (255 : Int32)) <<< (s_HI_BYTE_SHIFT &&& 31)))])) rfl (hb hby d14_53)
  obtain ⟨fs, hr, hrun, hended, hW, hsame⟩ := X4.leave (v := some (.int (nar .char (t14_7 s_HI_BYTE_SHIFT s_LO_BYTE_SHIFT x_a1_6 x_a1_7)))) (fun h => by rw [Bd.returns] at h; cases h)
  refine ⟨_, _, pre0 _ ?_, hrun, hended, _, _, rfl, ?_, ⟨_, rfl⟩, hW, hsame.mono (by decide) (by decide)⟩
  · show Steps p.tables e below (s₁.setTop (mkF m 0 #[vA a1, vI (3 : Int32)] [])) _
    refine st2 _ ?_
    show Steps p.tables e below (T2.setTop (mkF m 3 #[vA a1, vI (3 : Int32)] [(.int s__assertionsDisabled)])) _
    refine XS.ifYes X2.here hx rfl (pc0 := 3) (pc' := 28) rfl (hb hby d14_3) rfl ((if0 _ _).trans (feq (show ¬ (s__assertionsDisabled = (0 : Int32)) from hasd)).2) (by decide) (by decide) ?_
    refine XS.iloadN X2.here hx rfl (hb hby d14_28) rfl ?_
    refine XS.iconst X2.here hx rfl (hb hby d14_29) ?_
    refine XS.ishl X2.here hx rfl (hb hby d14_30) rfl ?_
    refine XS.istoreN X2.here hx rfl (hb hby d14_31) rfl (l' := #[vA a1, vI (6 : Int32)]) rfl ?_
    refine XS.aloadN X2.here hx rfl (hb hby d14_32) rfl rfl ?_
    refine XS.iloadN X2.here hx rfl (hb hby d14_33) rfl ?_
    refine XS.iinc X2.here hx rfl (hb hby d14_34) rfl (l' := #[vA a1, vI (7 : Int32)]) rfl ?_
    show Steps p.tables e below (T2.setTop (mkF m 37 #[vA a1, vI (7 : Int32)] [(.int (6 : Int32)), (.ref a1)])) _
    refine X2.baloadBytes hx (j := (6 : Int32)) (v := (.int x_a1_6)) (by rw [e2]; exact Ar_a1_0.1) (State.isArrayOf_alike hZ.alike Ar_a1_0.2.1) Ar_a1_0.2.2 hin_a1_0 hat_a1_0 (g := (mkF m 37 #[vA a1, vI (7 : Int32)] [(.int (6 : Int32)), (.ref a1)])) rfl rfl (hb hby d14_37) _ ?_
    refine XS.sipush X2.here hx rfl (hb hby d14_38) ?_
    refine XS.iand X2.here hx rfl (hb hby d14_41) rfl ?_
    show Steps p.tables e below (T2.setTop (mkF m 42 #[vA a1, vI (7 : Int32)] [(.int (x_a1_6 &&& (255 : Int32)))])) _
    refine st3 _ ?_
    refine XS.ishl X3.here hx rfl (hb hby d14_45) rfl ?_
    refine XS.aloadN X3.here hx rfl (hb hby d14_46) rfl rfl ?_
    refine XS.iloadN X3.here hx rfl (hb hby d14_47) rfl ?_
    show Steps p.tables e below (T3.setTop (mkF m 48 #[vA a1, vI (7 : Int32)] [(.int (7 : Int32)), (.ref a1), (.int ((x_a1_6 &&& (255 : Int32)) <<< (s_HI_BYTE_SHIFT &&& 31)))])) _
    refine X3.baloadBytes hx (j := (7 : Int32)) (v := (.int x_a1_7)) (by rw [e3]; exact Ar_a1_1.1) (State.isArrayOf_alike hZ.alike Ar_a1_1.2.1) Ar_a1_1.2.2 hin_a1_1 hat_a1_1 (g := (mkF m 48 #[vA a1, vI (7 : Int32)] [(.int (7 : Int32)), (.ref a1), (.int ((x_a1_6 &&& (255 : Int32)) <<< (s_HI_BYTE_SHIFT &&& 31)))])) rfl rfl (hb hby d14_48) _ ?_
    refine XS.sipush X3.here hx rfl (hb hby d14_49) ?_
    refine XS.iand X3.here hx rfl (hb hby d14_52) rfl ?_
    show Steps p.tables e below (T3.setTop (mkF m 53 #[vA a1, vI (7 : Int32)] [(.int (x_a1_7 &&& (255 : Int32))), (.int ((x_a1_6 &&& (255 : Int32)) <<< (s_HI_BYTE_SHIFT &&& 31)))])) _
    refine st4 _ ?_
    refine XS.ishl X4.here hx rfl (hb hby d14_56) rfl ?_
    refine XS.ior X4.here hx rfl (hb hby d14_57) rfl ?_
    refine XS.i2c X4.here hx rfl (hb hby d14_58) rfl ?_
    show Steps p.tables e below (T4.setTop (mkF m 59 #[vA a1, vI (7 : Int32)] [(.int (t14_7 s_HI_BYTE_SHIFT s_LO_BYTE_SHIFT x_a1_6 x_a1_7))])) _
    exact retN X4 hx (t := .char) Bd.returns (by simp) (hb hby d14_59) hr
  · show Q_rm14_4_3 Z a1 s__assertionsDisabled s_HI_BYTE_SHIFT s_LO_BYTE_SHIFT k_a1 x_a1_0 x_a1_1 x_a1_2 x_a1_3 x_a1_4 x_a1_5 x_a1_6 x_a1_7 h0 n0 _ T4.heap _
    exact ⟨rfl, N0, e4⟩
def Q_rm10_4 (Z : State) (a1 : Addr) (s__assertionsDisabled : Int32) (s_HI_BYTE_SHIFT : Int32) (s_LO_BYTE_SHIFT : Int32) (k_a1 : ClassId) (x_a1_0 : Int32) (x_a1_1 : Int32) (x_a1_2 : Int32) (x_a1_3 : Int32) (h0 : Heap) (n0 : Nat) (v : Option Value) (h : Heap) (L : List Loc) : Prop := ∃ b2_2 : Addr, ∃ k2_2 : ClassId, v = some (.ref b2_2) ∧ Fr n0 L ∧ Keep h0 h [] ∧ h0.size ≤ b2_2 ∧ Arv Z h b2_2 k2_2 .byte (8 : Int32) [(.int (nar .byte ((x_a1_0 >>> (s_HI_BYTE_SHIFT &&& 31)).toInt8.toInt32))), (.int (nar .byte ((x_a1_0 >>> (s_LO_BYTE_SHIFT &&& 31)).toInt8.toInt32))), (.int (nar .byte ((x_a1_1 >>> (s_HI_BYTE_SHIFT &&& 31)).toInt8.toInt32))), (.int (nar .byte ((x_a1_1 >>> (s_LO_BYTE_SHIFT &&& 31)).toInt8.toInt32))), (.int (nar .byte ((x_a1_2 >>> (s_HI_BYTE_SHIFT &&& 31)).toInt8.toInt32))), (.int (nar .byte ((x_a1_2 >>> (s_LO_BYTE_SHIFT &&& 31)).toInt8.toInt32))), (.int (nar .byte ((x_a1_3 >>> (s_HI_BYTE_SHIFT &&& 31)).toInt8.toInt32))), (.int (nar .byte ((x_a1_3 >>> (s_LO_BYTE_SHIFT &&& 31)).toInt8.toInt32)))] (.int (0 : Int32))
set_option maxRecDepth 65536 in
set_option maxHeartbeats 40000000 in
theorem rm10_4 (l : Launch) (Z : State) (a0 : Array Value) (hw : ∀ d ∈ tables_1, d.before a0 Z = true) (ws : List Jvm.Cond) (a1 : Addr) (s__assertionsDisabled : Int32) (s_HI_BYTE_SHIFT : Int32) (s_LO_BYTE_SHIFT : Int32) (k_a1 : ClassId) (x_a1_0 : Int32) (x_a1_1 : Int32) (x_a1_2 : Int32) (x_a1_3 : Int32) (h0 : Heap) (n0 : Nat) (Z0 : n0 ≤ h0.size) (hasd : ¬ (s__assertionsDisabled = (0 : Int32))) (S__assertionsDisabled : Sta Z h0 "java/lang/StringUTF16" "$assertionsDisabled" "Z" (.int s__assertionsDisabled)) (S_HI_BYTE_SHIFT : Sta Z h0 "java/lang/StringUTF16" "HI_BYTE_SHIFT" "I" (.int s_HI_BYTE_SHIFT)) (S_LO_BYTE_SHIFT : Sta Z h0 "java/lang/StringUTF16" "LO_BYTE_SHIFT" "I" (.int s_LO_BYTE_SHIFT)) (V_a1 : Arv Z h0 a1 k_a1 .char (4 : Int32) [(.int x_a1_0), (.int x_a1_1), (.int x_a1_2), (.int x_a1_3)] (.int (0 : Int32))) :
    MetFree l (⟨"java/lang/StringUTF16", "toBytes", "([CII)[B"⟩ : MethodName) (head1 (Jvm.Cond.code (⟨"java/lang/StringUTF16", "toBytes", "([CII)[B"⟩ : MethodName) jdk_52_method_14_code 5 (some (.array .byte)) :: ws) ({ frames := 2, cells := 1, slots := 8, locals := 24 } : Room)) (fun a U => a = #[(.ref a1), (.int (0 : Int32)), (.int (4 : Int32))] ∧ Z.Warmed39 U.vm ∧ U.heap = h0) (fun _ _ _ _ _ => True) (fun _ U o U' => ∃ v L, o = .returned v ∧ Q_rm10_4 Z a1 s__assertionsDisabled s_HI_BYTE_SHIFT s_LO_BYTE_SHIFT k_a1 x_a1_0 x_a1_1 x_a1_2 x_a1_3 h0 n0 v U'.heap L ∧ FrameEnd U o U' L ({ frames := 2, cells := 1, slots := 8, locals := 24 } : Room).cells ({ frames := 2, cells := 1, slots := 8, locals := 24 } : Room).slots) := by
  have hi : ∀ (i : Nat) {d : Jvm.Cond}, tables_1[i]? = some d → d.before a0 Z = true := fun i d h => hw d (List.mem_of_getElem? h)
  refine MetFree.of_bodySF (plainFor_of_name pn_10) hisR ?_
  intro p e s m args below meth c s₁ Bd hml0 hP hK
  obtain ⟨rfl, hZ, hh⟩ := hP
  have hx := Bd.exec
  have hby := Bd.bytes
  have hml : c.maxLocals = 5 := hml0
  have hown : s.vm.findClass "java/lang/StringUTF16" = some m.cls := findClass_of_methodNamed Bd.named
  have hnm := (name_of_methodNamed Bd.named Bd.method).1
  have X0 : Stand p l e ({ frames := 2, cells := 1, slots := 8, locals := 24 } : Room) s m #[(.ref a1), (.int (0 : Int32)), (.int (4 : Int32))] below meth c s₁ [] 0 0 := Stand.of_body Bd
  have e0 : s₁.heap = h0 := by rw [← hh, Bd.state]; rfl
  have N0 := Fr.nil n0
  have pre0 : ∀ t, Steps p.tables e below (s₁.setTop (mkF m 0 #[vA a1, vI (0 : Int32), vI (4 : Int32), vU, vU] [])) t → Steps p.tables e below (s₁.setTop (entryFrame m #[(.ref a1), (.int (0 : Int32)), (.int (4 : Int32))] 5)) t := fun t k => castTop (ef_10 m a1 (0 : Int32) (4 : Int32)) k
  obtain ⟨_, _, ⟨T2, L2, k2, n2⟩, -, X2, ⟨Lc2, hQ2, l2, y2, z2⟩, st2⟩ := Jvm.LawKit.callS X0 hx (y := (⟨"java/lang/StringUTF16", "newBytesFor", "(I)[B"⟩ : MethodName)) hown (mvT hZ (hi 56 rfl)) (mvT hZ (hi 57 rfl)) (mvT hZ (hi 45 rfl)) (mvT hZ (hi 58 rfl)) (by decide) (backOf (W := 0) (rm11_4 l Z a0 hw []  h0 n0 Z0 ) hZ (hi 58 rfl) (hi 45 rfl) (by decide) (by decide)) (g := (mkF m 1 #[vA a1, vI (0 : Int32), vI (4 : Int32), vU, vU] [(.int (4 : Int32))])) rfl (by rw [hml]; rfl) (argsL := [(.int (4 : Int32))]) (rest := []) (lenOf pd__28I_29_5bB rfl) rfl (by show 2 * 0 + _ ≤ _; exact Nat.le_of_eq rfl) (hb hby d10_1) (fun _ _ => ⟨rfl, e0, (by decide : 0 + 1 ≤ _), (by decide : 0 + 8 ≤ _)⟩)
  dsimp only [Pt.U, Pt.locs, Pt.cells, Pt.slots] at X2 l2 y2 z2 st2 hQ2
  subst l2 y2 z2
  obtain ⟨b2_2, ⟨k2_2, ⟨rfl, N2q, K2, i2_0, i2_1⟩⟩⟩ := hQ2
  have N2 := Fr.app N0 N2q
  have sz_b2_2 : h0.size ≤ b2_2 := Nat.le_trans (Nat.le_refl h0.size) i2_0
  have g_b2_2 : n0 ≤ b2_2 := Nat.le_trans Z0 sz_b2_2
  have f0 := (V_a1.keep K2 own_n0)
  obtain ⟨cl_a1_1, Ar_a1_1, q_a1_1, Sz_a1_1, Ng_a1_1, Ha_a1_1, Gt_a1_1⟩ := id f0
  have hin_a1_1 : ¬ ((0 : Int32) < 0 ∨ cl_a1_1.slots.size ≤ ((0 : Int32)).toNatClampNeg) := inb_of Sz_a1_1 ⟨by decide, by decide⟩
  have hat_a1_1 : cl_a1_1.slots[((0 : Int32)).toNatClampNeg]? = some (.int x_a1_0) := (Ha_a1_1 _ (Nat.lt_of_not_le fun q => hin_a1_1 (Or.inr q))).trans (congrArg some (rfl : (([(.int x_a1_0), (.int x_a1_1), (.int x_a1_2), (.int x_a1_3)] : List Value)).getD ((0 : Int32)).toNatClampNeg (.int (0 : Int32)) = (.int x_a1_0)))
  have f2 := (own_sta_keep S__assertionsDisabled K2 own_q0)
  have f3 := (own_sta_keep S_HI_BYTE_SHIFT K2 own_q0)
  have f4 := (own_sta_keep S_LO_BYTE_SHIFT K2 own_q0)
  obtain ⟨_, _, ⟨T3, L3, k3, n3⟩, -, X3, ⟨Lc3, hQ3, l3, y3, z3⟩, st3⟩ := Jvm.LawKit.callS X2 hx (y := (⟨"java/lang/StringUTF16", "putChar", "([BII)V"⟩ : MethodName)) hown (mvT hZ (hi 63 rfl)) (mvT hZ (hi 64 rfl)) (mvT hZ (hi 45 rfl)) (mvT hZ (hi 65 rfl)) (by decide) (backOf (W := 0) (rm13_4_0 l Z a0 hw [] b2_2 x_a1_0 s__assertionsDisabled s_HI_BYTE_SHIFT s_LO_BYTE_SHIFT k2_2 (0 : Int32) (0 : Int32) (0 : Int32) (0 : Int32) (0 : Int32) (0 : Int32) (0 : Int32) (0 : Int32) T2.heap n0 (Nat.le_trans Z0 K2.1) hasd f2 f3 g_b2_2 f4 i2_1) hZ (hi 65 rfl) (hi 45 rfl) (by decide) (by decide)) (g := (mkF m 20 #[vA a1, vI (0 : Int32), vI (4 : Int32), vA b2_2, vI (0 : Int32)] [(.int x_a1_0), (.int (0 : Int32)), (.ref b2_2)])) rfl (by rw [hml]; rfl) (argsL := [(.ref b2_2), (.int (0 : Int32)), (.int x_a1_0)]) (rest := []) (lenOf pd__28_5bBII_29V rfl) rfl (by show 2 * 0 + _ ≤ _; exact Nat.le_of_eq rfl) (hb hby d10_20) (fun _ _ => ⟨rfl, rfl, (by decide : 1 + 0 ≤ _), (by decide : 8 + 0 ≤ _)⟩)
  dsimp only [Pt.U, Pt.locs, Pt.cells, Pt.slots] at X3 l3 y3 z3 st3 hQ3
  subst l3 y3 z3
  obtain ⟨rfl, N3q, K3, i3_0⟩ := hQ3
  have N3 := Fr.app N2 N3q
  have f5 := (f0.keep K3 (own_nm (Nat.ne_of_lt (Nat.lt_of_lt_of_le V_a1.lt i2_0)) own_n0))
  obtain ⟨cl_a1_6, Ar_a1_6, q_a1_6, Sz_a1_6, Ng_a1_6, Ha_a1_6, Gt_a1_6⟩ := id f5
  have hin_a1_6 : ¬ ((1 : Int32) < 0 ∨ cl_a1_6.slots.size ≤ ((1 : Int32)).toNatClampNeg) := inb_of Sz_a1_6 ⟨by decide, by decide⟩
  have hat_a1_6 : cl_a1_6.slots[((1 : Int32)).toNatClampNeg]? = some (.int x_a1_1) := (Ha_a1_6 _ (Nat.lt_of_not_le fun q => hin_a1_6 (Or.inr q))).trans (congrArg some (rfl : (([(.int x_a1_0), (.int x_a1_1), (.int x_a1_2), (.int x_a1_3)] : List Value)).getD ((1 : Int32)).toNatClampNeg (.int (0 : Int32)) = (.int x_a1_1)))
  have f7 := (own_sta_keep f2 K3 (own_qc (own_nstV i2_1) own_q0))
  have f8 := (own_sta_keep f3 K3 (own_qc (own_nstV i2_1) own_q0))
  have f9 := (own_sta_keep f4 K3 (own_qc (own_nstV i2_1) own_q0))
  obtain ⟨_, _, ⟨T4, L4, k4, n4⟩, -, X4, ⟨Lc4, hQ4, l4, y4, z4⟩, st4⟩ := Jvm.LawKit.callS X3 hx (y := (⟨"java/lang/StringUTF16", "putChar", "([BII)V"⟩ : MethodName)) hown (mvT hZ (hi 63 rfl)) (mvT hZ (hi 64 rfl)) (mvT hZ (hi 45 rfl)) (mvT hZ (hi 65 rfl)) (by decide) (backOf (W := 0) (rm13_4_1 l Z a0 hw [] b2_2 x_a1_1 s__assertionsDisabled s_HI_BYTE_SHIFT s_LO_BYTE_SHIFT k2_2 (nar .byte ((x_a1_0 >>> (s_HI_BYTE_SHIFT &&& 31)).toInt8.toInt32)) (nar .byte ((x_a1_0 >>> (s_LO_BYTE_SHIFT &&& 31)).toInt8.toInt32)) (0 : Int32) (0 : Int32) (0 : Int32) (0 : Int32) (0 : Int32) (0 : Int32) T3.heap n0 (Nat.le_trans (Nat.le_trans Z0 K2.1) K3.1) hasd f7 f8 g_b2_2 f9 i3_0) hZ (hi 65 rfl) (hi 45 rfl) (by decide) (by decide)) (g := (mkF m 20 #[vA a1, vI (1 : Int32), vI (4 : Int32), vA b2_2, vI (1 : Int32)] [(.int x_a1_1), (.int (1 : Int32)), (.ref b2_2)])) rfl (by rw [hml]; rfl) (argsL := [(.ref b2_2), (.int (1 : Int32)), (.int x_a1_1)]) (rest := []) (lenOf pd__28_5bBII_29V rfl) rfl (by show 2 * 0 + _ ≤ _; exact Nat.le_of_eq rfl) (hb hby d10_20) (fun _ _ => ⟨rfl, rfl, (by decide : 1 + 0 ≤ _), (by decide : 8 + 0 ≤ _)⟩)
  dsimp only [Pt.U, Pt.locs, Pt.cells, Pt.slots] at X4 l4 y4 z4 st4 hQ4
  subst l4 y4 z4
  obtain ⟨rfl, N4q, K4, i4_0⟩ := hQ4
  have N4 := Fr.app N3 N4q
  have f10 := (f5.keep K4 (own_nm (Nat.ne_of_lt (Nat.lt_of_lt_of_le V_a1.lt i2_0)) own_n0))
  obtain ⟨cl_a1_11, Ar_a1_11, q_a1_11, Sz_a1_11, Ng_a1_11, Ha_a1_11, Gt_a1_11⟩ := id f10
  have hin_a1_11 : ¬ ((2 : Int32) < 0 ∨ cl_a1_11.slots.size ≤ ((2 : Int32)).toNatClampNeg) := inb_of Sz_a1_11 ⟨by decide, by decide⟩
  have hat_a1_11 : cl_a1_11.slots[((2 : Int32)).toNatClampNeg]? = some (.int x_a1_2) := (Ha_a1_11 _ (Nat.lt_of_not_le fun q => hin_a1_11 (Or.inr q))).trans (congrArg some (rfl : (([(.int x_a1_0), (.int x_a1_1), (.int x_a1_2), (.int x_a1_3)] : List Value)).getD ((2 : Int32)).toNatClampNeg (.int (0 : Int32)) = (.int x_a1_2)))
  have f12 := (own_sta_keep f7 K4 (own_qc (own_nstV i3_0) own_q0))
  have f13 := (own_sta_keep f8 K4 (own_qc (own_nstV i3_0) own_q0))
  have f14 := (own_sta_keep f9 K4 (own_qc (own_nstV i3_0) own_q0))
  obtain ⟨_, _, ⟨T5, L5, k5, n5⟩, -, X5, ⟨Lc5, hQ5, l5, y5, z5⟩, st5⟩ := Jvm.LawKit.callS X4 hx (y := (⟨"java/lang/StringUTF16", "putChar", "([BII)V"⟩ : MethodName)) hown (mvT hZ (hi 63 rfl)) (mvT hZ (hi 64 rfl)) (mvT hZ (hi 45 rfl)) (mvT hZ (hi 65 rfl)) (by decide) (backOf (W := 0) (rm13_4_2 l Z a0 hw [] b2_2 x_a1_2 s__assertionsDisabled s_HI_BYTE_SHIFT s_LO_BYTE_SHIFT k2_2 (nar .byte ((x_a1_0 >>> (s_HI_BYTE_SHIFT &&& 31)).toInt8.toInt32)) (nar .byte ((x_a1_0 >>> (s_LO_BYTE_SHIFT &&& 31)).toInt8.toInt32)) (nar .byte ((x_a1_1 >>> (s_HI_BYTE_SHIFT &&& 31)).toInt8.toInt32)) (nar .byte ((x_a1_1 >>> (s_LO_BYTE_SHIFT &&& 31)).toInt8.toInt32)) (0 : Int32) (0 : Int32) (0 : Int32) (0 : Int32) T4.heap n0 (Nat.le_trans (Nat.le_trans (Nat.le_trans Z0 K2.1) K3.1) K4.1) hasd f12 f13 g_b2_2 f14 i4_0) hZ (hi 65 rfl) (hi 45 rfl) (by decide) (by decide)) (g := (mkF m 20 #[vA a1, vI (2 : Int32), vI (4 : Int32), vA b2_2, vI (2 : Int32)] [(.int x_a1_2), (.int (2 : Int32)), (.ref b2_2)])) rfl (by rw [hml]; rfl) (argsL := [(.ref b2_2), (.int (2 : Int32)), (.int x_a1_2)]) (rest := []) (lenOf pd__28_5bBII_29V rfl) rfl (by show 2 * 0 + _ ≤ _; exact Nat.le_of_eq rfl) (hb hby d10_20) (fun _ _ => ⟨rfl, rfl, (by decide : 1 + 0 ≤ _), (by decide : 8 + 0 ≤ _)⟩)
  dsimp only [Pt.U, Pt.locs, Pt.cells, Pt.slots] at X5 l5 y5 z5 st5 hQ5
  subst l5 y5 z5
  obtain ⟨rfl, N5q, K5, i5_0⟩ := hQ5
  have N5 := Fr.app N4 N5q
  have f15 := (f10.keep K5 (own_nm (Nat.ne_of_lt (Nat.lt_of_lt_of_le V_a1.lt i2_0)) own_n0))
  obtain ⟨cl_a1_16, Ar_a1_16, q_a1_16, Sz_a1_16, Ng_a1_16, Ha_a1_16, Gt_a1_16⟩ := id f15
  have hin_a1_16 : ¬ ((3 : Int32) < 0 ∨ cl_a1_16.slots.size ≤ ((3 : Int32)).toNatClampNeg) := inb_of Sz_a1_16 ⟨by decide, by decide⟩
  have hat_a1_16 : cl_a1_16.slots[((3 : Int32)).toNatClampNeg]? = some (.int x_a1_3) := (Ha_a1_16 _ (Nat.lt_of_not_le fun q => hin_a1_16 (Or.inr q))).trans (congrArg some (rfl : (([(.int x_a1_0), (.int x_a1_1), (.int x_a1_2), (.int x_a1_3)] : List Value)).getD ((3 : Int32)).toNatClampNeg (.int (0 : Int32)) = (.int x_a1_3)))
  have f17 := (own_sta_keep f12 K5 (own_qc (own_nstV i4_0) own_q0))
  have f18 := (own_sta_keep f13 K5 (own_qc (own_nstV i4_0) own_q0))
  have f19 := (own_sta_keep f14 K5 (own_qc (own_nstV i4_0) own_q0))
  obtain ⟨_, _, ⟨T6, L6, k6, n6⟩, -, X6, ⟨Lc6, hQ6, l6, y6, z6⟩, st6⟩ := Jvm.LawKit.callS X5 hx (y := (⟨"java/lang/StringUTF16", "putChar", "([BII)V"⟩ : MethodName)) hown (mvT hZ (hi 63 rfl)) (mvT hZ (hi 64 rfl)) (mvT hZ (hi 45 rfl)) (mvT hZ (hi 65 rfl)) (by decide) (backOf (W := 0) (rm13_4_3 l Z a0 hw [] b2_2 x_a1_3 s__assertionsDisabled s_HI_BYTE_SHIFT s_LO_BYTE_SHIFT k2_2 (nar .byte ((x_a1_0 >>> (s_HI_BYTE_SHIFT &&& 31)).toInt8.toInt32)) (nar .byte ((x_a1_0 >>> (s_LO_BYTE_SHIFT &&& 31)).toInt8.toInt32)) (nar .byte ((x_a1_1 >>> (s_HI_BYTE_SHIFT &&& 31)).toInt8.toInt32)) (nar .byte ((x_a1_1 >>> (s_LO_BYTE_SHIFT &&& 31)).toInt8.toInt32)) (nar .byte ((x_a1_2 >>> (s_HI_BYTE_SHIFT &&& 31)).toInt8.toInt32)) (nar .byte ((x_a1_2 >>> (s_LO_BYTE_SHIFT &&& 31)).toInt8.toInt32)) (0 : Int32) (0 : Int32) T5.heap n0 (Nat.le_trans (Nat.le_trans (Nat.le_trans (Nat.le_trans Z0 K2.1) K3.1) K4.1) K5.1) hasd f17 f18 g_b2_2 f19 i5_0) hZ (hi 65 rfl) (hi 45 rfl) (by decide) (by decide)) (g := (mkF m 20 #[vA a1, vI (3 : Int32), vI (4 : Int32), vA b2_2, vI (3 : Int32)] [(.int x_a1_3), (.int (3 : Int32)), (.ref b2_2)])) rfl (by rw [hml]; rfl) (argsL := [(.ref b2_2), (.int (3 : Int32)), (.int x_a1_3)]) (rest := []) (lenOf pd__28_5bBII_29V rfl) rfl (by show 2 * 0 + _ ≤ _; exact Nat.le_of_eq rfl) (hb hby d10_20) (fun _ _ => ⟨rfl, rfl, (by decide : 1 + 0 ≤ _), (by decide : 8 + 0 ≤ _)⟩)
  dsimp only [Pt.U, Pt.locs, Pt.cells, Pt.slots] at X6 l6 y6 z6 st6 hQ6
  subst l6 y6 z6
  obtain ⟨rfl, N6q, K6, i6_0⟩ := hQ6
  have N6 := Fr.app N5 N6q
  obtain ⟨fs, hr, hrun, hended, hW, hsame⟩ := X6.leave (v := some (.ref b2_2)) (fun h => by rw [Bd.returns] at h; cases h)
  refine ⟨_, _, pre0 _ ?_, hrun, hended, _, _, rfl, ?_, ⟨_, rfl⟩, hW, hsame.mono (by decide) (by decide)⟩
  · show Steps p.tables e below (s₁.setTop (mkF m 0 #[vA a1, vI (0 : Int32), vI (4 : Int32), vU, vU] [])) _
    refine XS.iloadN X0.here hx rfl (hb hby d10_0) rfl ?_
    show Steps p.tables e below (s₁.setTop (mkF m 1 #[vA a1, vI (0 : Int32), vI (4 : Int32), vU, vU] [(.int (4 : Int32))])) _
    refine st2 _ ?_
    refine XS.astoreN X2.here hx rfl (hb hby d10_4) rfl rfl (l' := #[vA a1, vI (0 : Int32), vI (4 : Int32), vA b2_2, vU]) rfl ?_
    refine XS.iconst X2.here hx rfl (hb hby d10_5) ?_
    refine XS.istore X2.here hx rfl (hb hby d10_6) rfl (l' := #[vA a1, vI (0 : Int32), vI (4 : Int32), vA b2_2, vI (0 : Int32)]) rfl ?_
    refine XS.iload X2.here hx rfl (hb hby d10_8) rfl ?_
    refine XS.iloadN X2.here hx rfl (hb hby d10_10) rfl ?_
    show Steps p.tables e below (T2.setTop (mkF m 11 #[vA a1, vI (0 : Int32), vI (4 : Int32), vA b2_2, vI (0 : Int32)] [(.int (4 : Int32)), (.int (0 : Int32))])) _
    refine XS.icmpNo X2.here hx rfl (hb hby d10_11) rfl (tlt (by decide : (0 : Int32) < (4 : Int32))).2.1 ?_
    refine XS.aloadN X2.here hx rfl (hb hby d10_14) rfl rfl ?_
    refine XS.iload X2.here hx rfl (hb hby d10_15) rfl ?_
    refine XS.aloadN X2.here hx rfl (hb hby d10_17) rfl rfl ?_
    refine XS.iloadN X2.here hx rfl (hb hby d10_18) rfl ?_
    show Steps p.tables e below (T2.setTop (mkF m 19 #[vA a1, vI (0 : Int32), vI (4 : Int32), vA b2_2, vI (0 : Int32)] [(.int (0 : Int32)), (.ref a1), (.int (0 : Int32)), (.ref b2_2)])) _
    refine X2.caload hx (j := (0 : Int32)) (v := (.int x_a1_0)) (by exact Ar_a1_1.1) (State.isArrayOf_alike hZ.alike Ar_a1_1.2.1) Ar_a1_1.2.2 hin_a1_1 hat_a1_1 (g := (mkF m 19 #[vA a1, vI (0 : Int32), vI (4 : Int32), vA b2_2, vI (0 : Int32)] [(.int (0 : Int32)), (.ref a1), (.int (0 : Int32)), (.ref b2_2)])) rfl rfl (hb hby d10_19) _ ?_
    show Steps p.tables e below (T2.setTop (mkF m 20 #[vA a1, vI (0 : Int32), vI (4 : Int32), vA b2_2, vI (0 : Int32)] [(.int x_a1_0), (.int (0 : Int32)), (.ref b2_2)])) _
    refine st3 _ ?_
    refine XS.iinc X3.here hx rfl (hb hby d10_23) rfl (l' := #[vA a1, vI (1 : Int32), vI (4 : Int32), vA b2_2, vI (0 : Int32)]) rfl ?_
    refine XS.iinc X3.here hx rfl (hb hby d10_26) rfl (l' := #[vA a1, vI (1 : Int32), vI (4 : Int32), vA b2_2, vI (1 : Int32)]) rfl ?_
    show Steps p.tables e below (T3.setTop (mkF m 29 #[vA a1, vI (1 : Int32), vI (4 : Int32), vA b2_2, vI (1 : Int32)] [])) _
    refine XS.goto X3.here hx rfl (pc0 := 29) (pc' := 8) rfl (hb hby d10_29) (by decide) (by decide) ?_
    refine XS.iload X3.here hx rfl (hb hby d10_8) rfl ?_
    refine XS.iloadN X3.here hx rfl (hb hby d10_10) rfl ?_
    show Steps p.tables e below (T3.setTop (mkF m 11 #[vA a1, vI (1 : Int32), vI (4 : Int32), vA b2_2, vI (1 : Int32)] [(.int (4 : Int32)), (.int (1 : Int32))])) _
    refine XS.icmpNo X3.here hx rfl (hb hby d10_11) rfl (tlt (by decide : (1 : Int32) < (4 : Int32))).2.1 ?_
    refine XS.aloadN X3.here hx rfl (hb hby d10_14) rfl rfl ?_
    refine XS.iload X3.here hx rfl (hb hby d10_15) rfl ?_
    refine XS.aloadN X3.here hx rfl (hb hby d10_17) rfl rfl ?_
    refine XS.iloadN X3.here hx rfl (hb hby d10_18) rfl ?_
    show Steps p.tables e below (T3.setTop (mkF m 19 #[vA a1, vI (1 : Int32), vI (4 : Int32), vA b2_2, vI (1 : Int32)] [(.int (1 : Int32)), (.ref a1), (.int (1 : Int32)), (.ref b2_2)])) _
    refine X3.caload hx (j := (1 : Int32)) (v := (.int x_a1_1)) (by exact Ar_a1_6.1) (State.isArrayOf_alike hZ.alike Ar_a1_6.2.1) Ar_a1_6.2.2 hin_a1_6 hat_a1_6 (g := (mkF m 19 #[vA a1, vI (1 : Int32), vI (4 : Int32), vA b2_2, vI (1 : Int32)] [(.int (1 : Int32)), (.ref a1), (.int (1 : Int32)), (.ref b2_2)])) rfl rfl (hb hby d10_19) _ ?_
    show Steps p.tables e below (T3.setTop (mkF m 20 #[vA a1, vI (1 : Int32), vI (4 : Int32), vA b2_2, vI (1 : Int32)] [(.int x_a1_1), (.int (1 : Int32)), (.ref b2_2)])) _
    refine st4 _ ?_
    refine XS.iinc X4.here hx rfl (hb hby d10_23) rfl (l' := #[vA a1, vI (2 : Int32), vI (4 : Int32), vA b2_2, vI (1 : Int32)]) rfl ?_
    refine XS.iinc X4.here hx rfl (hb hby d10_26) rfl (l' := #[vA a1, vI (2 : Int32), vI (4 : Int32), vA b2_2, vI (2 : Int32)]) rfl ?_
    show Steps p.tables e below (T4.setTop (mkF m 29 #[vA a1, vI (2 : Int32), vI (4 : Int32), vA b2_2, vI (2 : Int32)] [])) _
    refine XS.goto X4.here hx rfl (pc0 := 29) (pc' := 8) rfl (hb hby d10_29) (by decide) (by decide) ?_
    refine XS.iload X4.here hx rfl (hb hby d10_8) rfl ?_
    refine XS.iloadN X4.here hx rfl (hb hby d10_10) rfl ?_
    show Steps p.tables e below (T4.setTop (mkF m 11 #[vA a1, vI (2 : Int32), vI (4 : Int32), vA b2_2, vI (2 : Int32)] [(.int (4 : Int32)), (.int (2 : Int32))])) _
    refine XS.icmpNo X4.here hx rfl (hb hby d10_11) rfl (tlt (by decide : (2 : Int32) < (4 : Int32))).2.1 ?_
    refine XS.aloadN X4.here hx rfl (hb hby d10_14) rfl rfl ?_
    refine XS.iload X4.here hx rfl (hb hby d10_15) rfl ?_
    refine XS.aloadN X4.here hx rfl (hb hby d10_17) rfl rfl ?_
    refine XS.iloadN X4.here hx rfl (hb hby d10_18) rfl ?_
    show Steps p.tables e below (T4.setTop (mkF m 19 #[vA a1, vI (2 : Int32), vI (4 : Int32), vA b2_2, vI (2 : Int32)] [(.int (2 : Int32)), (.ref a1), (.int (2 : Int32)), (.ref b2_2)])) _
    refine X4.caload hx (j := (2 : Int32)) (v := (.int x_a1_2)) (by exact Ar_a1_11.1) (State.isArrayOf_alike hZ.alike Ar_a1_11.2.1) Ar_a1_11.2.2 hin_a1_11 hat_a1_11 (g := (mkF m 19 #[vA a1, vI (2 : Int32), vI (4 : Int32), vA b2_2, vI (2 : Int32)] [(.int (2 : Int32)), (.ref a1), (.int (2 : Int32)), (.ref b2_2)])) rfl rfl (hb hby d10_19) _ ?_
    show Steps p.tables e below (T4.setTop (mkF m 20 #[vA a1, vI (2 : Int32), vI (4 : Int32), vA b2_2, vI (2 : Int32)] [(.int x_a1_2), (.int (2 : Int32)), (.ref b2_2)])) _
    refine st5 _ ?_
    refine XS.iinc X5.here hx rfl (hb hby d10_23) rfl (l' := #[vA a1, vI (3 : Int32), vI (4 : Int32), vA b2_2, vI (2 : Int32)]) rfl ?_
    refine XS.iinc X5.here hx rfl (hb hby d10_26) rfl (l' := #[vA a1, vI (3 : Int32), vI (4 : Int32), vA b2_2, vI (3 : Int32)]) rfl ?_
    show Steps p.tables e below (T5.setTop (mkF m 29 #[vA a1, vI (3 : Int32), vI (4 : Int32), vA b2_2, vI (3 : Int32)] [])) _
    refine XS.goto X5.here hx rfl (pc0 := 29) (pc' := 8) rfl (hb hby d10_29) (by decide) (by decide) ?_
    refine XS.iload X5.here hx rfl (hb hby d10_8) rfl ?_
    refine XS.iloadN X5.here hx rfl (hb hby d10_10) rfl ?_
    show Steps p.tables e below (T5.setTop (mkF m 11 #[vA a1, vI (3 : Int32), vI (4 : Int32), vA b2_2, vI (3 : Int32)] [(.int (4 : Int32)), (.int (3 : Int32))])) _
    refine XS.icmpNo X5.here hx rfl (hb hby d10_11) rfl (tlt (by decide : (3 : Int32) < (4 : Int32))).2.1 ?_
    refine XS.aloadN X5.here hx rfl (hb hby d10_14) rfl rfl ?_
    refine XS.iload X5.here hx rfl (hb hby d10_15) rfl ?_
    refine XS.aloadN X5.here hx rfl (hb hby d10_17) rfl rfl ?_
    refine XS.iloadN X5.here hx rfl (hb hby d10_18) rfl ?_
    show Steps p.tables e below (T5.setTop (mkF m 19 #[vA a1, vI (3 : Int32), vI (4 : Int32), vA b2_2, vI (3 : Int32)] [(.int (3 : Int32)), (.ref a1), (.int (3 : Int32)), (.ref b2_2)])) _
    refine X5.caload hx (j := (3 : Int32)) (v := (.int x_a1_3)) (by exact Ar_a1_16.1) (State.isArrayOf_alike hZ.alike Ar_a1_16.2.1) Ar_a1_16.2.2 hin_a1_16 hat_a1_16 (g := (mkF m 19 #[vA a1, vI (3 : Int32), vI (4 : Int32), vA b2_2, vI (3 : Int32)] [(.int (3 : Int32)), (.ref a1), (.int (3 : Int32)), (.ref b2_2)])) rfl rfl (hb hby d10_19) _ ?_
    show Steps p.tables e below (T5.setTop (mkF m 20 #[vA a1, vI (3 : Int32), vI (4 : Int32), vA b2_2, vI (3 : Int32)] [(.int x_a1_3), (.int (3 : Int32)), (.ref b2_2)])) _
    refine st6 _ ?_
    refine XS.iinc X6.here hx rfl (hb hby d10_23) rfl (l' := #[vA a1, vI (4 : Int32), vI (4 : Int32), vA b2_2, vI (3 : Int32)]) rfl ?_
    refine XS.iinc X6.here hx rfl (hb hby d10_26) rfl (l' := #[vA a1, vI (4 : Int32), vI (4 : Int32), vA b2_2, vI (4 : Int32)]) rfl ?_
    show Steps p.tables e below (T6.setTop (mkF m 29 #[vA a1, vI (4 : Int32), vI (4 : Int32), vA b2_2, vI (4 : Int32)] [])) _
    refine XS.goto X6.here hx rfl (pc0 := 29) (pc' := 8) rfl (hb hby d10_29) (by decide) (by decide) ?_
    refine XS.iload X6.here hx rfl (hb hby d10_8) rfl ?_
    refine XS.iloadN X6.here hx rfl (hb hby d10_10) rfl ?_
    show Steps p.tables e below (T6.setTop (mkF m 11 #[vA a1, vI (4 : Int32), vI (4 : Int32), vA b2_2, vI (4 : Int32)] [(.int (4 : Int32)), (.int (4 : Int32))])) _
    refine XS.icmpYes X6.here hx rfl (pc0 := 11) (pc' := 32) rfl (hb hby d10_11) rfl (flt (fun q => Int32.lt_irrefl q : ¬ ((4 : Int32) < (4 : Int32)))).2.1 (by decide) (by decide) ?_
    refine XS.aloadN X6.here hx rfl (hb hby d10_32) rfl rfl ?_
    show Steps p.tables e below (T6.setTop (mkF m 33 #[vA a1, vI (4 : Int32), vI (4 : Int32), vA b2_2, vI (4 : Int32)] [(.ref b2_2)])) _
    jvm_step X6.here [X6.here.top, hx, (hb hby d10_33), X6.method', Bd.returns, Value.isRef, FieldType.isReference]
    first | (intro acts; rw [hr _ acts rfl rfl rfl]) | rw [hr _ _ rfl rfl rfl]
    exact Steps.refl _
  · show Q_rm10_4 Z a1 s__assertionsDisabled s_HI_BYTE_SHIFT s_LO_BYTE_SHIFT k_a1 x_a1_0 x_a1_1 x_a1_2 x_a1_3 h0 n0 _ T6.heap _
    exact ⟨b2_2, ⟨k2_2, ⟨rfl, N6, ((((((Keep.refl h0 []).trans K2 (fun _ q => nomatch q)).trans K3 (fun x q => (List.mem_cons.mp q).elim (fun r => r ▸ (Or.inr sz_b2_2)) ((fun _ q => nomatch q) x))).trans K4 (fun x q => (List.mem_cons.mp q).elim (fun r => r ▸ (Or.inr sz_b2_2)) ((fun _ q => nomatch q) x))).trans K5 (fun x q => (List.mem_cons.mp q).elim (fun r => r ▸ (Or.inr sz_b2_2)) ((fun _ q => nomatch q) x))).trans K6 (fun x q => (List.mem_cons.mp q).elim (fun r => r ▸ (Or.inr sz_b2_2)) ((fun _ q => nomatch q) x))), sz_b2_2, i6_0⟩⟩⟩
def Q_rm8_4_0 (Z : State) (a1 : Addr) (a2 : Addr) (k_a1 : ClassId) (x_a1_0 : Int32) (x_a1_1 : Int32) (x_a1_2 : Int32) (x_a1_3 : Int32) (k_a2 : ClassId) (x_a2_0 : Int32) (x_a2_1 : Int32) (x_a2_2 : Int32) (x_a2_3 : Int32) (h0 : Heap) (n0 : Nat) (v : Option Value) (h : Heap) (L : List Loc) : Prop := v = some (.int (0 : Int32)) ∧ Fr n0 L ∧ h = h0
set_option maxRecDepth 65536 in
set_option maxHeartbeats 40000000 in
theorem rm8_4_0 (l : Launch) (Z : State) (a0 : Array Value) (hw : ∀ d ∈ tables_1, d.before a0 Z = true) (ws : List Jvm.Cond) (a1 : Addr) (a2 : Addr) (k_a1 : ClassId) (x_a1_0 : Int32) (x_a1_1 : Int32) (x_a1_2 : Int32) (x_a1_3 : Int32) (k_a2 : ClassId) (x_a2_0 : Int32) (x_a2_1 : Int32) (x_a2_2 : Int32) (x_a2_3 : Int32) (h0 : Heap) (n0 : Nat) (Z0 : n0 ≤ h0.size) (V_a1 : Arv Z h0 a1 k_a1 .char (4 : Int32) [(.int x_a1_0), (.int x_a1_1), (.int x_a1_2), (.int x_a1_3)] (.int (0 : Int32))) (V_a2 : Arv Z h0 a2 k_a2 .byte (4 : Int32) [(.int x_a2_0), (.int x_a2_1), (.int x_a2_2), (.int x_a2_3)] (.int (0 : Int32))) (hc20 : (255 : Int32) < x_a1_0) :
    MetFree l (⟨"java/lang/StringUTF16", "compress", "([CI[BII)I"⟩ : MethodName) (head1 (Jvm.Cond.code (⟨"java/lang/StringUTF16", "compress", "([CI[BII)I"⟩ : MethodName) jdk_52_method_21_code 7 (some .int) :: ws) ({ frames := 0, cells := 0, slots := 0, locals := 0 } : Room)) (fun a U => a = #[(.ref a1), (.int (0 : Int32)), (.ref a2), (.int (0 : Int32)), (.int (4 : Int32))] ∧ Z.Warmed39 U.vm ∧ U.heap = h0) (fun _ _ _ _ _ => True) (fun _ U o U' => ∃ v L, o = .returned v ∧ Q_rm8_4_0 Z a1 a2 k_a1 x_a1_0 x_a1_1 x_a1_2 x_a1_3 k_a2 x_a2_0 x_a2_1 x_a2_2 x_a2_3 h0 n0 v U'.heap L ∧ FrameEnd U o U' L ({ frames := 0, cells := 0, slots := 0, locals := 0 } : Room).cells ({ frames := 0, cells := 0, slots := 0, locals := 0 } : Room).slots) := by
  have hi : ∀ (i : Nat) {d : Jvm.Cond}, tables_1[i]? = some d → d.before a0 Z = true := fun i d h => hw d (List.mem_of_getElem? h)
  refine MetFree.of_bodySF (plainFor_of_name pn_8) hisR ?_
  intro p e s m args below meth c s₁ Bd hml0 hP hK
  obtain ⟨rfl, hZ, hh⟩ := hP
  have hx := Bd.exec
  have hby := Bd.bytes
  have hml : c.maxLocals = 7 := hml0
  have hown : s.vm.findClass "java/lang/StringUTF16" = some m.cls := findClass_of_methodNamed Bd.named
  have hnm := (name_of_methodNamed Bd.named Bd.method).1
  have X0 : Stand p l e ({ frames := 0, cells := 0, slots := 0, locals := 0 } : Room) s m #[(.ref a1), (.int (0 : Int32)), (.ref a2), (.int (0 : Int32)), (.int (4 : Int32))] below meth c s₁ [] 0 0 := Stand.of_body Bd
  have e0 : s₁.heap = h0 := by rw [← hh, Bd.state]; rfl
  have N0 := Fr.nil n0
  have pre0 : ∀ t, Steps p.tables e below (s₁.setTop (mkF m 0 #[vA a1, vI (0 : Int32), vA a2, vI (0 : Int32), vI (4 : Int32), vU, vU] [])) t → Steps p.tables e below (s₁.setTop (entryFrame m #[(.ref a1), (.int (0 : Int32)), (.ref a2), (.int (0 : Int32)), (.int (4 : Int32))] 7)) t := fun t k => castTop (ef_8 m a1 (0 : Int32) a2 (0 : Int32) (4 : Int32)) k
  obtain ⟨cl_a1_0, Ar_a1_0, q_a1_0, Sz_a1_0, Ng_a1_0, Ha_a1_0, Gt_a1_0⟩ := id V_a1
  have hin_a1_0 : ¬ ((0 : Int32) < 0 ∨ cl_a1_0.slots.size ≤ ((0 : Int32)).toNatClampNeg) := inb_of Sz_a1_0 ⟨by decide, by decide⟩
  have hat_a1_0 : cl_a1_0.slots[((0 : Int32)).toNatClampNeg]? = some (.int x_a1_0) := (Ha_a1_0 _ (Nat.lt_of_not_le fun q => hin_a1_0 (Or.inr q))).trans (congrArg some (rfl : (([(.int x_a1_0), (.int x_a1_1), (.int x_a1_2), (.int x_a1_3)] : List Value)).getD ((0 : Int32)).toNatClampNeg (.int (0 : Int32)) = (.int x_a1_0)))
  obtain ⟨fs, hr, hrun, hended, hW, hsame⟩ := X0.leave (v := some (.int (0 : Int32))) (fun h => by rw [Bd.returns] at h; cases h)
  refine ⟨_, _, pre0 _ ?_, hrun, hended, _, _, rfl, ?_, ⟨_, rfl⟩, hW, hsame.mono (by decide) (by decide)⟩
  · show Steps p.tables e below (s₁.setTop (mkF m 0 #[vA a1, vI (0 : Int32), vA a2, vI (0 : Int32), vI (4 : Int32), vU, vU] [])) _
    refine XS.iconst X0.here hx rfl (hb hby d8_0) ?_
    refine XS.istore X0.here hx rfl (hb hby d8_1) rfl (l' := #[vA a1, vI (0 : Int32), vA a2, vI (0 : Int32), vI (4 : Int32), vI (0 : Int32), vU]) rfl ?_
    refine XS.iload X0.here hx rfl (hb hby d8_3) rfl ?_
    refine XS.iload X0.here hx rfl (hb hby d8_5) rfl ?_
    show Steps p.tables e below (s₁.setTop (mkF m 7 #[vA a1, vI (0 : Int32), vA a2, vI (0 : Int32), vI (4 : Int32), vI (0 : Int32), vU] [(.int (4 : Int32)), (.int (0 : Int32))])) _
    refine XS.icmpNo X0.here hx rfl (hb hby d8_7) rfl (tlt (by decide : (0 : Int32) < (4 : Int32))).2.1 ?_
    refine XS.aloadN X0.here hx rfl (hb hby d8_10) rfl rfl ?_
    refine XS.iloadN X0.here hx rfl (hb hby d8_11) rfl ?_
    show Steps p.tables e below (s₁.setTop (mkF m 12 #[vA a1, vI (0 : Int32), vA a2, vI (0 : Int32), vI (4 : Int32), vI (0 : Int32), vU] [(.int (0 : Int32)), (.ref a1)])) _
    refine X0.caload hx (j := (0 : Int32)) (v := (.int x_a1_0)) (by rw [e0]; exact Ar_a1_0.1) (State.isArrayOf_alike hZ.alike Ar_a1_0.2.1) Ar_a1_0.2.2 hin_a1_0 hat_a1_0 (g := (mkF m 12 #[vA a1, vI (0 : Int32), vA a2, vI (0 : Int32), vI (4 : Int32), vI (0 : Int32), vU] [(.int (0 : Int32)), (.ref a1)])) rfl rfl (hb hby d8_12) _ ?_
    refine XS.istore X0.here hx rfl (hb hby d8_13) rfl (l' := #[vA a1, vI (0 : Int32), vA a2, vI (0 : Int32), vI (4 : Int32), vI (0 : Int32), vI x_a1_0]) rfl ?_
    refine XS.iload X0.here hx rfl (hb hby d8_15) rfl ?_
    refine XS.sipush X0.here hx rfl (hb hby d8_17) ?_
    show Steps p.tables e below (s₁.setTop (mkF m 20 #[vA a1, vI (0 : Int32), vA a2, vI (0 : Int32), vI (4 : Int32), vI (0 : Int32), vI x_a1_0] [(.int (255 : Int32)), (.int x_a1_0)])) _
    refine XS.icmpNo X0.here hx rfl (hb hby d8_20) rfl (tlt hc20).2.2.2 ?_
    refine XS.iload X0.here hx rfl (hb hby d8_23) rfl ?_
    show Steps p.tables e below (s₁.setTop (mkF m 25 #[vA a1, vI (0 : Int32), vA a2, vI (0 : Int32), vI (4 : Int32), vI (0 : Int32), vI x_a1_0] [(.int (0 : Int32))])) _
    exact retI X0 hx Bd.returns (hb hby d8_25) hr
  · show Q_rm8_4_0 Z a1 a2 k_a1 x_a1_0 x_a1_1 x_a1_2 x_a1_3 k_a2 x_a2_0 x_a2_1 x_a2_2 x_a2_3 h0 n0 _ s₁.heap _
    exact ⟨rfl, N0, e0⟩
def Q_rm8_4_1 (Z : State) (a1 : Addr) (a2 : Addr) (k_a1 : ClassId) (x_a1_0 : Int32) (x_a1_1 : Int32) (x_a1_2 : Int32) (x_a1_3 : Int32) (k_a2 : ClassId) (x_a2_0 : Int32) (x_a2_1 : Int32) (x_a2_2 : Int32) (x_a2_3 : Int32) (h0 : Heap) (n0 : Nat) (v : Option Value) (h : Heap) (L : List Loc) : Prop := v = some (.int (1 : Int32)) ∧ Fr n0 L ∧ Keep h0 h [a2] ∧ Arv Z h a2 k_a2 .byte (4 : Int32) [(.int (nar .byte (x_a1_0.toInt8.toInt32))), (.int x_a2_1), (.int x_a2_2), (.int x_a2_3)] (.int (0 : Int32))
set_option maxRecDepth 65536 in
set_option maxHeartbeats 40000000 in
theorem rm8_4_1 (l : Launch) (Z : State) (a0 : Array Value) (hw : ∀ d ∈ tables_1, d.before a0 Z = true) (ws : List Jvm.Cond) (a1 : Addr) (a2 : Addr) (k_a1 : ClassId) (x_a1_0 : Int32) (x_a1_1 : Int32) (x_a1_2 : Int32) (x_a1_3 : Int32) (k_a2 : ClassId) (x_a2_0 : Int32) (x_a2_1 : Int32) (x_a2_2 : Int32) (x_a2_3 : Int32) (h0 : Heap) (n0 : Nat) (Z0 : n0 ≤ h0.size) (g_a2 : n0 ≤ a2) (V_a1 : Arv Z h0 a1 k_a1 .char (4 : Int32) [(.int x_a1_0), (.int x_a1_1), (.int x_a1_2), (.int x_a1_3)] (.int (0 : Int32))) (V_a2 : Arv Z h0 a2 k_a2 .byte (4 : Int32) [(.int x_a2_0), (.int x_a2_1), (.int x_a2_2), (.int x_a2_3)] (.int (0 : Int32))) (hc20 : ¬ ((255 : Int32) < x_a1_0)) (ne_a1_a2 : a1 ≠ a2) (hc20' : (255 : Int32) < x_a1_1) :
    MetFree l (⟨"java/lang/StringUTF16", "compress", "([CI[BII)I"⟩ : MethodName) (head1 (Jvm.Cond.code (⟨"java/lang/StringUTF16", "compress", "([CI[BII)I"⟩ : MethodName) jdk_52_method_21_code 7 (some .int) :: ws) ({ frames := 0, cells := 0, slots := 0, locals := 0 } : Room)) (fun a U => a = #[(.ref a1), (.int (0 : Int32)), (.ref a2), (.int (0 : Int32)), (.int (4 : Int32))] ∧ Z.Warmed39 U.vm ∧ U.heap = h0) (fun _ _ _ _ _ => True) (fun _ U o U' => ∃ v L, o = .returned v ∧ Q_rm8_4_1 Z a1 a2 k_a1 x_a1_0 x_a1_1 x_a1_2 x_a1_3 k_a2 x_a2_0 x_a2_1 x_a2_2 x_a2_3 h0 n0 v U'.heap L ∧ FrameEnd U o U' L ({ frames := 0, cells := 0, slots := 0, locals := 0 } : Room).cells ({ frames := 0, cells := 0, slots := 0, locals := 0 } : Room).slots) := by
  have hi : ∀ (i : Nat) {d : Jvm.Cond}, tables_1[i]? = some d → d.before a0 Z = true := fun i d h => hw d (List.mem_of_getElem? h)
  refine MetFree.of_bodySF (plainFor_of_name pn_8) hisR ?_
  intro p e s m args below meth c s₁ Bd hml0 hP hK
  obtain ⟨rfl, hZ, hh⟩ := hP
  have hx := Bd.exec
  have hby := Bd.bytes
  have hml : c.maxLocals = 7 := hml0
  have hown : s.vm.findClass "java/lang/StringUTF16" = some m.cls := findClass_of_methodNamed Bd.named
  have hnm := (name_of_methodNamed Bd.named Bd.method).1
  have X0 : Stand p l e ({ frames := 0, cells := 0, slots := 0, locals := 0 } : Room) s m #[(.ref a1), (.int (0 : Int32)), (.ref a2), (.int (0 : Int32)), (.int (4 : Int32))] below meth c s₁ [] 0 0 := Stand.of_body Bd
  have e0 : s₁.heap = h0 := by rw [← hh, Bd.state]; rfl
  have N0 := Fr.nil n0
  have pre0 : ∀ t, Steps p.tables e below (s₁.setTop (mkF m 0 #[vA a1, vI (0 : Int32), vA a2, vI (0 : Int32), vI (4 : Int32), vU, vU] [])) t → Steps p.tables e below (s₁.setTop (entryFrame m #[(.ref a1), (.int (0 : Int32)), (.ref a2), (.int (0 : Int32)), (.int (4 : Int32))] 7)) t := fun t k => castTop (ef_8 m a1 (0 : Int32) a2 (0 : Int32) (4 : Int32)) k
  obtain ⟨cl_a1_0, Ar_a1_0, q_a1_0, Sz_a1_0, Ng_a1_0, Ha_a1_0, Gt_a1_0⟩ := id V_a1
  have hin_a1_0 : ¬ ((0 : Int32) < 0 ∨ cl_a1_0.slots.size ≤ ((0 : Int32)).toNatClampNeg) := inb_of Sz_a1_0 ⟨by decide, by decide⟩
  have hat_a1_0 : cl_a1_0.slots[((0 : Int32)).toNatClampNeg]? = some (.int x_a1_0) := (Ha_a1_0 _ (Nat.lt_of_not_le fun q => hin_a1_0 (Or.inr q))).trans (congrArg some (rfl : (([(.int x_a1_0), (.int x_a1_1), (.int x_a1_2), (.int x_a1_3)] : List Value)).getD ((0 : Int32)).toNatClampNeg (.int (0 : Int32)) = (.int x_a1_0)))
  obtain ⟨cl_a2_1, Ar_a2_1, q_a2_1, Sz_a2_1, Ng_a2_1, Ha_a2_1, Gt_a2_1⟩ := id V_a2
  have hin_a2_1 : ¬ ((0 : Int32) < 0 ∨ cl_a2_1.slots.size ≤ ((0 : Int32)).toNatClampNeg) := inb_of Sz_a2_1 ⟨by decide, by decide⟩
  obtain ⟨T3, h3, X3, e3, W3, st3⟩ := stB X0 hx hZ e0 Ar_a2_1 (j := (0 : Int32)) hin_a2_1 (g := (mkF m 31 #[vA a1, vI (0 : Int32), vA a2, vI (0 : Int32), vI (4 : Int32), vI (0 : Int32), vI x_a1_0] [(.int (x_a1_0.toInt8.toInt32)), (.int (0 : Int32)), (.ref a2)])) rfl rfl (hb hby d8_31)
  have V3 : Arv Z h3 a2 k_a2 .byte (4 : Int32) [(.int (nar .byte (x_a1_0.toInt8.toInt32))), (.int x_a2_1), (.int x_a2_2), (.int x_a2_3)] (.int (0 : Int32)) := Arv.set Ar_a2_1 q_a2_1 Sz_a2_1 Ng_a2_1 Ha_a2_1 Gt_a2_1 (fits_nar_byte _) W3 0 rfl (Nat.le_of_ble_eq_true rfl)
  have N3 := Fr.snoc X3 N0 g_a2
  have f2 := (V_a1.other W3 ne_a1_a2)
  obtain ⟨cl_a1_3, Ar_a1_3, q_a1_3, Sz_a1_3, Ng_a1_3, Ha_a1_3, Gt_a1_3⟩ := id f2
  have hin_a1_3 : ¬ ((1 : Int32) < 0 ∨ cl_a1_3.slots.size ≤ ((1 : Int32)).toNatClampNeg) := inb_of Sz_a1_3 ⟨by decide, by decide⟩
  have hat_a1_3 : cl_a1_3.slots[((1 : Int32)).toNatClampNeg]? = some (.int x_a1_1) := (Ha_a1_3 _ (Nat.lt_of_not_le fun q => hin_a1_3 (Or.inr q))).trans (congrArg some (rfl : (([(.int x_a1_0), (.int x_a1_1), (.int x_a1_2), (.int x_a1_3)] : List Value)).getD ((1 : Int32)).toNatClampNeg (.int (0 : Int32)) = (.int x_a1_1)))
  obtain ⟨fs, hr, hrun, hended, hW, hsame⟩ := X3.leave (v := some (.int (1 : Int32))) (fun h => by rw [Bd.returns] at h; cases h)
  refine ⟨_, _, pre0 _ ?_, hrun, hended, _, _, rfl, ?_, ⟨_, rfl⟩, hW, hsame.mono (by decide) (by decide)⟩
  · show Steps p.tables e below (s₁.setTop (mkF m 0 #[vA a1, vI (0 : Int32), vA a2, vI (0 : Int32), vI (4 : Int32), vU, vU] [])) _
    refine XS.iconst X0.here hx rfl (hb hby d8_0) ?_
    refine XS.istore X0.here hx rfl (hb hby d8_1) rfl (l' := #[vA a1, vI (0 : Int32), vA a2, vI (0 : Int32), vI (4 : Int32), vI (0 : Int32), vU]) rfl ?_
    refine XS.iload X0.here hx rfl (hb hby d8_3) rfl ?_
    refine XS.iload X0.here hx rfl (hb hby d8_5) rfl ?_
    show Steps p.tables e below (s₁.setTop (mkF m 7 #[vA a1, vI (0 : Int32), vA a2, vI (0 : Int32), vI (4 : Int32), vI (0 : Int32), vU] [(.int (4 : Int32)), (.int (0 : Int32))])) _
    refine XS.icmpNo X0.here hx rfl (hb hby d8_7) rfl (tlt (by decide : (0 : Int32) < (4 : Int32))).2.1 ?_
    refine XS.aloadN X0.here hx rfl (hb hby d8_10) rfl rfl ?_
    refine XS.iloadN X0.here hx rfl (hb hby d8_11) rfl ?_
    show Steps p.tables e below (s₁.setTop (mkF m 12 #[vA a1, vI (0 : Int32), vA a2, vI (0 : Int32), vI (4 : Int32), vI (0 : Int32), vU] [(.int (0 : Int32)), (.ref a1)])) _
    refine X0.caload hx (j := (0 : Int32)) (v := (.int x_a1_0)) (by rw [e0]; exact Ar_a1_0.1) (State.isArrayOf_alike hZ.alike Ar_a1_0.2.1) Ar_a1_0.2.2 hin_a1_0 hat_a1_0 (g := (mkF m 12 #[vA a1, vI (0 : Int32), vA a2, vI (0 : Int32), vI (4 : Int32), vI (0 : Int32), vU] [(.int (0 : Int32)), (.ref a1)])) rfl rfl (hb hby d8_12) _ ?_
    refine XS.istore X0.here hx rfl (hb hby d8_13) rfl (l' := #[vA a1, vI (0 : Int32), vA a2, vI (0 : Int32), vI (4 : Int32), vI (0 : Int32), vI x_a1_0]) rfl ?_
    refine XS.iload X0.here hx rfl (hb hby d8_15) rfl ?_
    refine XS.sipush X0.here hx rfl (hb hby d8_17) ?_
    show Steps p.tables e below (s₁.setTop (mkF m 20 #[vA a1, vI (0 : Int32), vA a2, vI (0 : Int32), vI (4 : Int32), vI (0 : Int32), vI x_a1_0] [(.int (255 : Int32)), (.int x_a1_0)])) _
    refine XS.icmpYes X0.here hx rfl (pc0 := 20) (pc' := 26) rfl (hb hby d8_20) rfl (flt hc20).2.2.2 (by decide) (by decide) ?_
    refine XS.aloadN X0.here hx rfl (hb hby d8_26) rfl rfl ?_
    refine XS.iloadN X0.here hx rfl (hb hby d8_27) rfl ?_
    refine XS.iload X0.here hx rfl (hb hby d8_28) rfl ?_
    refine XS.i2b X0.here hx rfl (hb hby d8_30) rfl ?_
    show Steps p.tables e below (s₁.setTop (mkF m 31 #[vA a1, vI (0 : Int32), vA a2, vI (0 : Int32), vI (4 : Int32), vI (0 : Int32), vI x_a1_0] [(.int (x_a1_0.toInt8.toInt32)), (.int (0 : Int32)), (.ref a2)])) _
    refine st3 _ ?_
    refine XS.iinc X3.here hx rfl (hb hby d8_32) rfl (l' := #[vA a1, vI (1 : Int32), vA a2, vI (0 : Int32), vI (4 : Int32), vI (0 : Int32), vI x_a1_0]) rfl ?_
    refine XS.iinc X3.here hx rfl (hb hby d8_35) rfl (l' := #[vA a1, vI (1 : Int32), vA a2, vI (1 : Int32), vI (4 : Int32), vI (0 : Int32), vI x_a1_0]) rfl ?_
    refine XS.iinc X3.here hx rfl (hb hby d8_38) rfl (l' := #[vA a1, vI (1 : Int32), vA a2, vI (1 : Int32), vI (4 : Int32), vI (1 : Int32), vI x_a1_0]) rfl ?_
    show Steps p.tables e below (T3.setTop (mkF m 41 #[vA a1, vI (1 : Int32), vA a2, vI (1 : Int32), vI (4 : Int32), vI (1 : Int32), vI x_a1_0] [])) _
    refine XS.goto X3.here hx rfl (pc0 := 41) (pc' := 3) rfl (hb hby d8_41) (by decide) (by decide) ?_
    refine XS.iload X3.here hx rfl (hb hby d8_3) rfl ?_
    refine XS.iload X3.here hx rfl (hb hby d8_5) rfl ?_
    show Steps p.tables e below (T3.setTop (mkF m 7 #[vA a1, vI (1 : Int32), vA a2, vI (1 : Int32), vI (4 : Int32), vI (1 : Int32), vI x_a1_0] [(.int (4 : Int32)), (.int (1 : Int32))])) _
    refine XS.icmpNo X3.here hx rfl (hb hby d8_7) rfl (tlt (by decide : (1 : Int32) < (4 : Int32))).2.1 ?_
    refine XS.aloadN X3.here hx rfl (hb hby d8_10) rfl rfl ?_
    refine XS.iloadN X3.here hx rfl (hb hby d8_11) rfl ?_
    show Steps p.tables e below (T3.setTop (mkF m 12 #[vA a1, vI (1 : Int32), vA a2, vI (1 : Int32), vI (4 : Int32), vI (1 : Int32), vI x_a1_0] [(.int (1 : Int32)), (.ref a1)])) _
    refine X3.caload hx (j := (1 : Int32)) (v := (.int x_a1_1)) (by rw [e3]; exact Ar_a1_3.1) (State.isArrayOf_alike hZ.alike Ar_a1_3.2.1) Ar_a1_3.2.2 hin_a1_3 hat_a1_3 (g := (mkF m 12 #[vA a1, vI (1 : Int32), vA a2, vI (1 : Int32), vI (4 : Int32), vI (1 : Int32), vI x_a1_0] [(.int (1 : Int32)), (.ref a1)])) rfl rfl (hb hby d8_12) _ ?_
    refine XS.istore X3.here hx rfl (hb hby d8_13) rfl (l' := #[vA a1, vI (1 : Int32), vA a2, vI (1 : Int32), vI (4 : Int32), vI (1 : Int32), vI x_a1_1]) rfl ?_
    refine XS.iload X3.here hx rfl (hb hby d8_15) rfl ?_
    refine XS.sipush X3.here hx rfl (hb hby d8_17) ?_
    show Steps p.tables e below (T3.setTop (mkF m 20 #[vA a1, vI (1 : Int32), vA a2, vI (1 : Int32), vI (4 : Int32), vI (1 : Int32), vI x_a1_1] [(.int (255 : Int32)), (.int x_a1_1)])) _
    refine XS.icmpNo X3.here hx rfl (hb hby d8_20) rfl (tlt hc20').2.2.2 ?_
    refine XS.iload X3.here hx rfl (hb hby d8_23) rfl ?_
    show Steps p.tables e below (T3.setTop (mkF m 25 #[vA a1, vI (1 : Int32), vA a2, vI (1 : Int32), vI (4 : Int32), vI (1 : Int32), vI x_a1_1] [(.int (1 : Int32))])) _
    exact retI X3 hx Bd.returns (hb hby d8_25) hr
  · show Q_rm8_4_1 Z a1 a2 k_a1 x_a1_0 x_a1_1 x_a1_2 x_a1_3 k_a2 x_a2_0 x_a2_1 x_a2_2 x_a2_3 h0 n0 _ T3.heap _
    rw [e3]
    exact ⟨rfl, N3, ((Keep.refl h0 [a2]).wr W3 (Or.inl (List.mem_of_getElem? (i := 0) rfl))), V3⟩
def Q_rm8_4_2 (Z : State) (a1 : Addr) (a2 : Addr) (k_a1 : ClassId) (x_a1_0 : Int32) (x_a1_1 : Int32) (x_a1_2 : Int32) (x_a1_3 : Int32) (k_a2 : ClassId) (x_a2_0 : Int32) (x_a2_1 : Int32) (x_a2_2 : Int32) (x_a2_3 : Int32) (h0 : Heap) (n0 : Nat) (v : Option Value) (h : Heap) (L : List Loc) : Prop := v = some (.int (2 : Int32)) ∧ Fr n0 L ∧ Keep h0 h [a2] ∧ Arv Z h a2 k_a2 .byte (4 : Int32) [(.int (nar .byte (x_a1_0.toInt8.toInt32))), (.int (nar .byte (x_a1_1.toInt8.toInt32))), (.int x_a2_2), (.int x_a2_3)] (.int (0 : Int32))
set_option maxRecDepth 65536 in
set_option maxHeartbeats 40000000 in
theorem rm8_4_2 (l : Launch) (Z : State) (a0 : Array Value) (hw : ∀ d ∈ tables_1, d.before a0 Z = true) (ws : List Jvm.Cond) (a1 : Addr) (a2 : Addr) (k_a1 : ClassId) (x_a1_0 : Int32) (x_a1_1 : Int32) (x_a1_2 : Int32) (x_a1_3 : Int32) (k_a2 : ClassId) (x_a2_0 : Int32) (x_a2_1 : Int32) (x_a2_2 : Int32) (x_a2_3 : Int32) (h0 : Heap) (n0 : Nat) (Z0 : n0 ≤ h0.size) (g_a2 : n0 ≤ a2) (V_a1 : Arv Z h0 a1 k_a1 .char (4 : Int32) [(.int x_a1_0), (.int x_a1_1), (.int x_a1_2), (.int x_a1_3)] (.int (0 : Int32))) (V_a2 : Arv Z h0 a2 k_a2 .byte (4 : Int32) [(.int x_a2_0), (.int x_a2_1), (.int x_a2_2), (.int x_a2_3)] (.int (0 : Int32))) (hc20 : ¬ ((255 : Int32) < x_a1_0)) (ne_a1_a2 : a1 ≠ a2) (hc20' : ¬ ((255 : Int32) < x_a1_1)) (hc20'' : (255 : Int32) < x_a1_2) :
    MetFree l (⟨"java/lang/StringUTF16", "compress", "([CI[BII)I"⟩ : MethodName) (head1 (Jvm.Cond.code (⟨"java/lang/StringUTF16", "compress", "([CI[BII)I"⟩ : MethodName) jdk_52_method_21_code 7 (some .int) :: ws) ({ frames := 0, cells := 0, slots := 0, locals := 0 } : Room)) (fun a U => a = #[(.ref a1), (.int (0 : Int32)), (.ref a2), (.int (0 : Int32)), (.int (4 : Int32))] ∧ Z.Warmed39 U.vm ∧ U.heap = h0) (fun _ _ _ _ _ => True) (fun _ U o U' => ∃ v L, o = .returned v ∧ Q_rm8_4_2 Z a1 a2 k_a1 x_a1_0 x_a1_1 x_a1_2 x_a1_3 k_a2 x_a2_0 x_a2_1 x_a2_2 x_a2_3 h0 n0 v U'.heap L ∧ FrameEnd U o U' L ({ frames := 0, cells := 0, slots := 0, locals := 0 } : Room).cells ({ frames := 0, cells := 0, slots := 0, locals := 0 } : Room).slots) := by
  have hi : ∀ (i : Nat) {d : Jvm.Cond}, tables_1[i]? = some d → d.before a0 Z = true := fun i d h => hw d (List.mem_of_getElem? h)
  refine MetFree.of_bodySF (plainFor_of_name pn_8) hisR ?_
  intro p e s m args below meth c s₁ Bd hml0 hP hK
  obtain ⟨rfl, hZ, hh⟩ := hP
  have hx := Bd.exec
  have hby := Bd.bytes
  have hml : c.maxLocals = 7 := hml0
  have hown : s.vm.findClass "java/lang/StringUTF16" = some m.cls := findClass_of_methodNamed Bd.named
  have hnm := (name_of_methodNamed Bd.named Bd.method).1
  have X0 : Stand p l e ({ frames := 0, cells := 0, slots := 0, locals := 0 } : Room) s m #[(.ref a1), (.int (0 : Int32)), (.ref a2), (.int (0 : Int32)), (.int (4 : Int32))] below meth c s₁ [] 0 0 := Stand.of_body Bd
  have e0 : s₁.heap = h0 := by rw [← hh, Bd.state]; rfl
  have N0 := Fr.nil n0
  have pre0 : ∀ t, Steps p.tables e below (s₁.setTop (mkF m 0 #[vA a1, vI (0 : Int32), vA a2, vI (0 : Int32), vI (4 : Int32), vU, vU] [])) t → Steps p.tables e below (s₁.setTop (entryFrame m #[(.ref a1), (.int (0 : Int32)), (.ref a2), (.int (0 : Int32)), (.int (4 : Int32))] 7)) t := fun t k => castTop (ef_8 m a1 (0 : Int32) a2 (0 : Int32) (4 : Int32)) k
  obtain ⟨cl_a1_0, Ar_a1_0, q_a1_0, Sz_a1_0, Ng_a1_0, Ha_a1_0, Gt_a1_0⟩ := id V_a1
  have hin_a1_0 : ¬ ((0 : Int32) < 0 ∨ cl_a1_0.slots.size ≤ ((0 : Int32)).toNatClampNeg) := inb_of Sz_a1_0 ⟨by decide, by decide⟩
  have hat_a1_0 : cl_a1_0.slots[((0 : Int32)).toNatClampNeg]? = some (.int x_a1_0) := (Ha_a1_0 _ (Nat.lt_of_not_le fun q => hin_a1_0 (Or.inr q))).trans (congrArg some (rfl : (([(.int x_a1_0), (.int x_a1_1), (.int x_a1_2), (.int x_a1_3)] : List Value)).getD ((0 : Int32)).toNatClampNeg (.int (0 : Int32)) = (.int x_a1_0)))
  obtain ⟨cl_a2_1, Ar_a2_1, q_a2_1, Sz_a2_1, Ng_a2_1, Ha_a2_1, Gt_a2_1⟩ := id V_a2
  have hin_a2_1 : ¬ ((0 : Int32) < 0 ∨ cl_a2_1.slots.size ≤ ((0 : Int32)).toNatClampNeg) := inb_of Sz_a2_1 ⟨by decide, by decide⟩
  obtain ⟨T3, h3, X3, e3, W3, st3⟩ := stB X0 hx hZ e0 Ar_a2_1 (j := (0 : Int32)) hin_a2_1 (g := (mkF m 31 #[vA a1, vI (0 : Int32), vA a2, vI (0 : Int32), vI (4 : Int32), vI (0 : Int32), vI x_a1_0] [(.int (x_a1_0.toInt8.toInt32)), (.int (0 : Int32)), (.ref a2)])) rfl rfl (hb hby d8_31)
  have V3 : Arv Z h3 a2 k_a2 .byte (4 : Int32) [(.int (nar .byte (x_a1_0.toInt8.toInt32))), (.int x_a2_1), (.int x_a2_2), (.int x_a2_3)] (.int (0 : Int32)) := Arv.set Ar_a2_1 q_a2_1 Sz_a2_1 Ng_a2_1 Ha_a2_1 Gt_a2_1 (fits_nar_byte _) W3 0 rfl (Nat.le_of_ble_eq_true rfl)
  have N3 := Fr.snoc X3 N0 g_a2
  have f2 := (V_a1.other W3 ne_a1_a2)
  obtain ⟨cl_a1_3, Ar_a1_3, q_a1_3, Sz_a1_3, Ng_a1_3, Ha_a1_3, Gt_a1_3⟩ := id f2
  have hin_a1_3 : ¬ ((1 : Int32) < 0 ∨ cl_a1_3.slots.size ≤ ((1 : Int32)).toNatClampNeg) := inb_of Sz_a1_3 ⟨by decide, by decide⟩
  have hat_a1_3 : cl_a1_3.slots[((1 : Int32)).toNatClampNeg]? = some (.int x_a1_1) := (Ha_a1_3 _ (Nat.lt_of_not_le fun q => hin_a1_3 (Or.inr q))).trans (congrArg some (rfl : (([(.int x_a1_0), (.int x_a1_1), (.int x_a1_2), (.int x_a1_3)] : List Value)).getD ((1 : Int32)).toNatClampNeg (.int (0 : Int32)) = (.int x_a1_1)))
  obtain ⟨cl_a2_4, Ar_a2_4, q_a2_4, Sz_a2_4, Ng_a2_4, Ha_a2_4, Gt_a2_4⟩ := id V3
  have hin_a2_4 : ¬ ((1 : Int32) < 0 ∨ cl_a2_4.slots.size ≤ ((1 : Int32)).toNatClampNeg) := inb_of Sz_a2_4 ⟨by decide, by decide⟩
  obtain ⟨T4, h4, X4, e4, W4, st4⟩ := stB X3 hx hZ e3 Ar_a2_4 (j := (1 : Int32)) hin_a2_4 (g := (mkF m 31 #[vA a1, vI (1 : Int32), vA a2, vI (1 : Int32), vI (4 : Int32), vI (1 : Int32), vI x_a1_1] [(.int (x_a1_1.toInt8.toInt32)), (.int (1 : Int32)), (.ref a2)])) rfl rfl (hb hby d8_31)
  have V4 : Arv Z h4 a2 k_a2 .byte (4 : Int32) [(.int (nar .byte (x_a1_0.toInt8.toInt32))), (.int (nar .byte (x_a1_1.toInt8.toInt32))), (.int x_a2_2), (.int x_a2_3)] (.int (0 : Int32)) := Arv.set Ar_a2_4 q_a2_4 Sz_a2_4 Ng_a2_4 Ha_a2_4 Gt_a2_4 (fits_nar_byte _) W4 1 rfl (Nat.le_of_ble_eq_true rfl)
  have N4 := Fr.snoc X4 N3 g_a2
  have f5 := (f2.other W4 ne_a1_a2)
  obtain ⟨cl_a1_6, Ar_a1_6, q_a1_6, Sz_a1_6, Ng_a1_6, Ha_a1_6, Gt_a1_6⟩ := id f5
  have hin_a1_6 : ¬ ((2 : Int32) < 0 ∨ cl_a1_6.slots.size ≤ ((2 : Int32)).toNatClampNeg) := inb_of Sz_a1_6 ⟨by decide, by decide⟩
  have hat_a1_6 : cl_a1_6.slots[((2 : Int32)).toNatClampNeg]? = some (.int x_a1_2) := (Ha_a1_6 _ (Nat.lt_of_not_le fun q => hin_a1_6 (Or.inr q))).trans (congrArg some (rfl : (([(.int x_a1_0), (.int x_a1_1), (.int x_a1_2), (.int x_a1_3)] : List Value)).getD ((2 : Int32)).toNatClampNeg (.int (0 : Int32)) = (.int x_a1_2)))
  obtain ⟨fs, hr, hrun, hended, hW, hsame⟩ := X4.leave (v := some (.int (2 : Int32))) (fun h => by rw [Bd.returns] at h; cases h)
  refine ⟨_, _, pre0 _ ?_, hrun, hended, _, _, rfl, ?_, ⟨_, rfl⟩, hW, hsame.mono (by decide) (by decide)⟩
  · show Steps p.tables e below (s₁.setTop (mkF m 0 #[vA a1, vI (0 : Int32), vA a2, vI (0 : Int32), vI (4 : Int32), vU, vU] [])) _
    refine XS.iconst X0.here hx rfl (hb hby d8_0) ?_
    refine XS.istore X0.here hx rfl (hb hby d8_1) rfl (l' := #[vA a1, vI (0 : Int32), vA a2, vI (0 : Int32), vI (4 : Int32), vI (0 : Int32), vU]) rfl ?_
    refine XS.iload X0.here hx rfl (hb hby d8_3) rfl ?_
    refine XS.iload X0.here hx rfl (hb hby d8_5) rfl ?_
    show Steps p.tables e below (s₁.setTop (mkF m 7 #[vA a1, vI (0 : Int32), vA a2, vI (0 : Int32), vI (4 : Int32), vI (0 : Int32), vU] [(.int (4 : Int32)), (.int (0 : Int32))])) _
    refine XS.icmpNo X0.here hx rfl (hb hby d8_7) rfl (tlt (by decide : (0 : Int32) < (4 : Int32))).2.1 ?_
    refine XS.aloadN X0.here hx rfl (hb hby d8_10) rfl rfl ?_
    refine XS.iloadN X0.here hx rfl (hb hby d8_11) rfl ?_
    show Steps p.tables e below (s₁.setTop (mkF m 12 #[vA a1, vI (0 : Int32), vA a2, vI (0 : Int32), vI (4 : Int32), vI (0 : Int32), vU] [(.int (0 : Int32)), (.ref a1)])) _
    refine X0.caload hx (j := (0 : Int32)) (v := (.int x_a1_0)) (by rw [e0]; exact Ar_a1_0.1) (State.isArrayOf_alike hZ.alike Ar_a1_0.2.1) Ar_a1_0.2.2 hin_a1_0 hat_a1_0 (g := (mkF m 12 #[vA a1, vI (0 : Int32), vA a2, vI (0 : Int32), vI (4 : Int32), vI (0 : Int32), vU] [(.int (0 : Int32)), (.ref a1)])) rfl rfl (hb hby d8_12) _ ?_
    refine XS.istore X0.here hx rfl (hb hby d8_13) rfl (l' := #[vA a1, vI (0 : Int32), vA a2, vI (0 : Int32), vI (4 : Int32), vI (0 : Int32), vI x_a1_0]) rfl ?_
    refine XS.iload X0.here hx rfl (hb hby d8_15) rfl ?_
    refine XS.sipush X0.here hx rfl (hb hby d8_17) ?_
    show Steps p.tables e below (s₁.setTop (mkF m 20 #[vA a1, vI (0 : Int32), vA a2, vI (0 : Int32), vI (4 : Int32), vI (0 : Int32), vI x_a1_0] [(.int (255 : Int32)), (.int x_a1_0)])) _
    refine XS.icmpYes X0.here hx rfl (pc0 := 20) (pc' := 26) rfl (hb hby d8_20) rfl (flt hc20).2.2.2 (by decide) (by decide) ?_
    refine XS.aloadN X0.here hx rfl (hb hby d8_26) rfl rfl ?_
    refine XS.iloadN X0.here hx rfl (hb hby d8_27) rfl ?_
    refine XS.iload X0.here hx rfl (hb hby d8_28) rfl ?_
    refine XS.i2b X0.here hx rfl (hb hby d8_30) rfl ?_
    show Steps p.tables e below (s₁.setTop (mkF m 31 #[vA a1, vI (0 : Int32), vA a2, vI (0 : Int32), vI (4 : Int32), vI (0 : Int32), vI x_a1_0] [(.int (x_a1_0.toInt8.toInt32)), (.int (0 : Int32)), (.ref a2)])) _
    refine st3 _ ?_
    refine XS.iinc X3.here hx rfl (hb hby d8_32) rfl (l' := #[vA a1, vI (1 : Int32), vA a2, vI (0 : Int32), vI (4 : Int32), vI (0 : Int32), vI x_a1_0]) rfl ?_
    refine XS.iinc X3.here hx rfl (hb hby d8_35) rfl (l' := #[vA a1, vI (1 : Int32), vA a2, vI (1 : Int32), vI (4 : Int32), vI (0 : Int32), vI x_a1_0]) rfl ?_
    refine XS.iinc X3.here hx rfl (hb hby d8_38) rfl (l' := #[vA a1, vI (1 : Int32), vA a2, vI (1 : Int32), vI (4 : Int32), vI (1 : Int32), vI x_a1_0]) rfl ?_
    show Steps p.tables e below (T3.setTop (mkF m 41 #[vA a1, vI (1 : Int32), vA a2, vI (1 : Int32), vI (4 : Int32), vI (1 : Int32), vI x_a1_0] [])) _
    refine XS.goto X3.here hx rfl (pc0 := 41) (pc' := 3) rfl (hb hby d8_41) (by decide) (by decide) ?_
    refine XS.iload X3.here hx rfl (hb hby d8_3) rfl ?_
    refine XS.iload X3.here hx rfl (hb hby d8_5) rfl ?_
    show Steps p.tables e below (T3.setTop (mkF m 7 #[vA a1, vI (1 : Int32), vA a2, vI (1 : Int32), vI (4 : Int32), vI (1 : Int32), vI x_a1_0] [(.int (4 : Int32)), (.int (1 : Int32))])) _
    refine XS.icmpNo X3.here hx rfl (hb hby d8_7) rfl (tlt (by decide : (1 : Int32) < (4 : Int32))).2.1 ?_
    refine XS.aloadN X3.here hx rfl (hb hby d8_10) rfl rfl ?_
    refine XS.iloadN X3.here hx rfl (hb hby d8_11) rfl ?_
    show Steps p.tables e below (T3.setTop (mkF m 12 #[vA a1, vI (1 : Int32), vA a2, vI (1 : Int32), vI (4 : Int32), vI (1 : Int32), vI x_a1_0] [(.int (1 : Int32)), (.ref a1)])) _
    refine X3.caload hx (j := (1 : Int32)) (v := (.int x_a1_1)) (by rw [e3]; exact Ar_a1_3.1) (State.isArrayOf_alike hZ.alike Ar_a1_3.2.1) Ar_a1_3.2.2 hin_a1_3 hat_a1_3 (g := (mkF m 12 #[vA a1, vI (1 : Int32), vA a2, vI (1 : Int32), vI (4 : Int32), vI (1 : Int32), vI x_a1_0] [(.int (1 : Int32)), (.ref a1)])) rfl rfl (hb hby d8_12) _ ?_
    refine XS.istore X3.here hx rfl (hb hby d8_13) rfl (l' := #[vA a1, vI (1 : Int32), vA a2, vI (1 : Int32), vI (4 : Int32), vI (1 : Int32), vI x_a1_1]) rfl ?_
    refine XS.iload X3.here hx rfl (hb hby d8_15) rfl ?_
    refine XS.sipush X3.here hx rfl (hb hby d8_17) ?_
    show Steps p.tables e below (T3.setTop (mkF m 20 #[vA a1, vI (1 : Int32), vA a2, vI (1 : Int32), vI (4 : Int32), vI (1 : Int32), vI x_a1_1] [(.int (255 : Int32)), (.int x_a1_1)])) _
    refine XS.icmpYes X3.here hx rfl (pc0 := 20) (pc' := 26) rfl (hb hby d8_20) rfl (flt hc20').2.2.2 (by decide) (by decide) ?_
    refine XS.aloadN X3.here hx rfl (hb hby d8_26) rfl rfl ?_
    refine XS.iloadN X3.here hx rfl (hb hby d8_27) rfl ?_
    refine XS.iload X3.here hx rfl (hb hby d8_28) rfl ?_
    refine XS.i2b X3.here hx rfl (hb hby d8_30) rfl ?_
    show Steps p.tables e below (T3.setTop (mkF m 31 #[vA a1, vI (1 : Int32), vA a2, vI (1 : Int32), vI (4 : Int32), vI (1 : Int32), vI x_a1_1] [(.int (x_a1_1.toInt8.toInt32)), (.int (1 : Int32)), (.ref a2)])) _
    refine st4 _ ?_
    refine XS.iinc X4.here hx rfl (hb hby d8_32) rfl (l' := #[vA a1, vI (2 : Int32), vA a2, vI (1 : Int32), vI (4 : Int32), vI (1 : Int32), vI x_a1_1]) rfl ?_
    refine XS.iinc X4.here hx rfl (hb hby d8_35) rfl (l' := #[vA a1, vI (2 : Int32), vA a2, vI (2 : Int32), vI (4 : Int32), vI (1 : Int32), vI x_a1_1]) rfl ?_
    refine XS.iinc X4.here hx rfl (hb hby d8_38) rfl (l' := #[vA a1, vI (2 : Int32), vA a2, vI (2 : Int32), vI (4 : Int32), vI (2 : Int32), vI x_a1_1]) rfl ?_
    show Steps p.tables e below (T4.setTop (mkF m 41 #[vA a1, vI (2 : Int32), vA a2, vI (2 : Int32), vI (4 : Int32), vI (2 : Int32), vI x_a1_1] [])) _
    refine XS.goto X4.here hx rfl (pc0 := 41) (pc' := 3) rfl (hb hby d8_41) (by decide) (by decide) ?_
    refine XS.iload X4.here hx rfl (hb hby d8_3) rfl ?_
    refine XS.iload X4.here hx rfl (hb hby d8_5) rfl ?_
    show Steps p.tables e below (T4.setTop (mkF m 7 #[vA a1, vI (2 : Int32), vA a2, vI (2 : Int32), vI (4 : Int32), vI (2 : Int32), vI x_a1_1] [(.int (4 : Int32)), (.int (2 : Int32))])) _
    refine XS.icmpNo X4.here hx rfl (hb hby d8_7) rfl (tlt (by decide : (2 : Int32) < (4 : Int32))).2.1 ?_
    refine XS.aloadN X4.here hx rfl (hb hby d8_10) rfl rfl ?_
    refine XS.iloadN X4.here hx rfl (hb hby d8_11) rfl ?_
    show Steps p.tables e below (T4.setTop (mkF m 12 #[vA a1, vI (2 : Int32), vA a2, vI (2 : Int32), vI (4 : Int32), vI (2 : Int32), vI x_a1_1] [(.int (2 : Int32)), (.ref a1)])) _
    refine X4.caload hx (j := (2 : Int32)) (v := (.int x_a1_2)) (by rw [e4]; exact Ar_a1_6.1) (State.isArrayOf_alike hZ.alike Ar_a1_6.2.1) Ar_a1_6.2.2 hin_a1_6 hat_a1_6 (g := (mkF m 12 #[vA a1, vI (2 : Int32), vA a2, vI (2 : Int32), vI (4 : Int32), vI (2 : Int32), vI x_a1_1] [(.int (2 : Int32)), (.ref a1)])) rfl rfl (hb hby d8_12) _ ?_
    refine XS.istore X4.here hx rfl (hb hby d8_13) rfl (l' := #[vA a1, vI (2 : Int32), vA a2, vI (2 : Int32), vI (4 : Int32), vI (2 : Int32), vI x_a1_2]) rfl ?_
    refine XS.iload X4.here hx rfl (hb hby d8_15) rfl ?_
    refine XS.sipush X4.here hx rfl (hb hby d8_17) ?_
    show Steps p.tables e below (T4.setTop (mkF m 20 #[vA a1, vI (2 : Int32), vA a2, vI (2 : Int32), vI (4 : Int32), vI (2 : Int32), vI x_a1_2] [(.int (255 : Int32)), (.int x_a1_2)])) _
    refine XS.icmpNo X4.here hx rfl (hb hby d8_20) rfl (tlt hc20'').2.2.2 ?_
    refine XS.iload X4.here hx rfl (hb hby d8_23) rfl ?_
    show Steps p.tables e below (T4.setTop (mkF m 25 #[vA a1, vI (2 : Int32), vA a2, vI (2 : Int32), vI (4 : Int32), vI (2 : Int32), vI x_a1_2] [(.int (2 : Int32))])) _
    exact retI X4 hx Bd.returns (hb hby d8_25) hr
  · show Q_rm8_4_2 Z a1 a2 k_a1 x_a1_0 x_a1_1 x_a1_2 x_a1_3 k_a2 x_a2_0 x_a2_1 x_a2_2 x_a2_3 h0 n0 _ T4.heap _
    rw [e4]
    exact ⟨rfl, N4, (((Keep.refl h0 [a2]).wr W3 (Or.inl (List.mem_of_getElem? (i := 0) rfl))).wr W4 (Or.inl (List.mem_of_getElem? (i := 0) rfl))), V4⟩
def Q_rm8_4_3 (Z : State) (a1 : Addr) (a2 : Addr) (k_a1 : ClassId) (x_a1_0 : Int32) (x_a1_1 : Int32) (x_a1_2 : Int32) (x_a1_3 : Int32) (k_a2 : ClassId) (x_a2_0 : Int32) (x_a2_1 : Int32) (x_a2_2 : Int32) (x_a2_3 : Int32) (h0 : Heap) (n0 : Nat) (v : Option Value) (h : Heap) (L : List Loc) : Prop := v = some (.int (3 : Int32)) ∧ Fr n0 L ∧ Keep h0 h [a2] ∧ Arv Z h a2 k_a2 .byte (4 : Int32) [(.int (nar .byte (x_a1_0.toInt8.toInt32))), (.int (nar .byte (x_a1_1.toInt8.toInt32))), (.int (nar .byte (x_a1_2.toInt8.toInt32))), (.int x_a2_3)] (.int (0 : Int32))
set_option maxRecDepth 65536 in
set_option maxHeartbeats 40000000 in
theorem rm8_4_3 (l : Launch) (Z : State) (a0 : Array Value) (hw : ∀ d ∈ tables_1, d.before a0 Z = true) (ws : List Jvm.Cond) (a1 : Addr) (a2 : Addr) (k_a1 : ClassId) (x_a1_0 : Int32) (x_a1_1 : Int32) (x_a1_2 : Int32) (x_a1_3 : Int32) (k_a2 : ClassId) (x_a2_0 : Int32) (x_a2_1 : Int32) (x_a2_2 : Int32) (x_a2_3 : Int32) (h0 : Heap) (n0 : Nat) (Z0 : n0 ≤ h0.size) (g_a2 : n0 ≤ a2) (V_a1 : Arv Z h0 a1 k_a1 .char (4 : Int32) [(.int x_a1_0), (.int x_a1_1), (.int x_a1_2), (.int x_a1_3)] (.int (0 : Int32))) (V_a2 : Arv Z h0 a2 k_a2 .byte (4 : Int32) [(.int x_a2_0), (.int x_a2_1), (.int x_a2_2), (.int x_a2_3)] (.int (0 : Int32))) (hc20 : ¬ ((255 : Int32) < x_a1_0)) (ne_a1_a2 : a1 ≠ a2) (hc20' : ¬ ((255 : Int32) < x_a1_1)) (hc20'' : ¬ ((255 : Int32) < x_a1_2)) (hc20''' : (255 : Int32) < x_a1_3) :
    MetFree l (⟨"java/lang/StringUTF16", "compress", "([CI[BII)I"⟩ : MethodName) (head1 (Jvm.Cond.code (⟨"java/lang/StringUTF16", "compress", "([CI[BII)I"⟩ : MethodName) jdk_52_method_21_code 7 (some .int) :: ws) ({ frames := 0, cells := 0, slots := 0, locals := 0 } : Room)) (fun a U => a = #[(.ref a1), (.int (0 : Int32)), (.ref a2), (.int (0 : Int32)), (.int (4 : Int32))] ∧ Z.Warmed39 U.vm ∧ U.heap = h0) (fun _ _ _ _ _ => True) (fun _ U o U' => ∃ v L, o = .returned v ∧ Q_rm8_4_3 Z a1 a2 k_a1 x_a1_0 x_a1_1 x_a1_2 x_a1_3 k_a2 x_a2_0 x_a2_1 x_a2_2 x_a2_3 h0 n0 v U'.heap L ∧ FrameEnd U o U' L ({ frames := 0, cells := 0, slots := 0, locals := 0 } : Room).cells ({ frames := 0, cells := 0, slots := 0, locals := 0 } : Room).slots) := by
  have hi : ∀ (i : Nat) {d : Jvm.Cond}, tables_1[i]? = some d → d.before a0 Z = true := fun i d h => hw d (List.mem_of_getElem? h)
  refine MetFree.of_bodySF (plainFor_of_name pn_8) hisR ?_
  intro p e s m args below meth c s₁ Bd hml0 hP hK
  obtain ⟨rfl, hZ, hh⟩ := hP
  have hx := Bd.exec
  have hby := Bd.bytes
  have hml : c.maxLocals = 7 := hml0
  have hown : s.vm.findClass "java/lang/StringUTF16" = some m.cls := findClass_of_methodNamed Bd.named
  have hnm := (name_of_methodNamed Bd.named Bd.method).1
  have X0 : Stand p l e ({ frames := 0, cells := 0, slots := 0, locals := 0 } : Room) s m #[(.ref a1), (.int (0 : Int32)), (.ref a2), (.int (0 : Int32)), (.int (4 : Int32))] below meth c s₁ [] 0 0 := Stand.of_body Bd
  have e0 : s₁.heap = h0 := by rw [← hh, Bd.state]; rfl
  have N0 := Fr.nil n0
  have pre0 : ∀ t, Steps p.tables e below (s₁.setTop (mkF m 0 #[vA a1, vI (0 : Int32), vA a2, vI (0 : Int32), vI (4 : Int32), vU, vU] [])) t → Steps p.tables e below (s₁.setTop (entryFrame m #[(.ref a1), (.int (0 : Int32)), (.ref a2), (.int (0 : Int32)), (.int (4 : Int32))] 7)) t := fun t k => castTop (ef_8 m a1 (0 : Int32) a2 (0 : Int32) (4 : Int32)) k
  obtain ⟨cl_a1_0, Ar_a1_0, q_a1_0, Sz_a1_0, Ng_a1_0, Ha_a1_0, Gt_a1_0⟩ := id V_a1
  have hin_a1_0 : ¬ ((0 : Int32) < 0 ∨ cl_a1_0.slots.size ≤ ((0 : Int32)).toNatClampNeg) := inb_of Sz_a1_0 ⟨by decide, by decide⟩
  have hat_a1_0 : cl_a1_0.slots[((0 : Int32)).toNatClampNeg]? = some (.int x_a1_0) := (Ha_a1_0 _ (Nat.lt_of_not_le fun q => hin_a1_0 (Or.inr q))).trans (congrArg some (rfl : (([(.int x_a1_0), (.int x_a1_1), (.int x_a1_2), (.int x_a1_3)] : List Value)).getD ((0 : Int32)).toNatClampNeg (.int (0 : Int32)) = (.int x_a1_0)))
  obtain ⟨cl_a2_1, Ar_a2_1, q_a2_1, Sz_a2_1, Ng_a2_1, Ha_a2_1, Gt_a2_1⟩ := id V_a2
  have hin_a2_1 : ¬ ((0 : Int32) < 0 ∨ cl_a2_1.slots.size ≤ ((0 : Int32)).toNatClampNeg) := inb_of Sz_a2_1 ⟨by decide, by decide⟩
  obtain ⟨T3, h3, X3, e3, W3, st3⟩ := stB X0 hx hZ e0 Ar_a2_1 (j := (0 : Int32)) hin_a2_1 (g := (mkF m 31 #[vA a1, vI (0 : Int32), vA a2, vI (0 : Int32), vI (4 : Int32), vI (0 : Int32), vI x_a1_0] [(.int (x_a1_0.toInt8.toInt32)), (.int (0 : Int32)), (.ref a2)])) rfl rfl (hb hby d8_31)
  have V3 : Arv Z h3 a2 k_a2 .byte (4 : Int32) [(.int (nar .byte (x_a1_0.toInt8.toInt32))), (.int x_a2_1), (.int x_a2_2), (.int x_a2_3)] (.int (0 : Int32)) := Arv.set Ar_a2_1 q_a2_1 Sz_a2_1 Ng_a2_1 Ha_a2_1 Gt_a2_1 (fits_nar_byte _) W3 0 rfl (Nat.le_of_ble_eq_true rfl)
  have N3 := Fr.snoc X3 N0 g_a2
  have f2 := (V_a1.other W3 ne_a1_a2)
  obtain ⟨cl_a1_3, Ar_a1_3, q_a1_3, Sz_a1_3, Ng_a1_3, Ha_a1_3, Gt_a1_3⟩ := id f2
  have hin_a1_3 : ¬ ((1 : Int32) < 0 ∨ cl_a1_3.slots.size ≤ ((1 : Int32)).toNatClampNeg) := inb_of Sz_a1_3 ⟨by decide, by decide⟩
  have hat_a1_3 : cl_a1_3.slots[((1 : Int32)).toNatClampNeg]? = some (.int x_a1_1) := (Ha_a1_3 _ (Nat.lt_of_not_le fun q => hin_a1_3 (Or.inr q))).trans (congrArg some (rfl : (([(.int x_a1_0), (.int x_a1_1), (.int x_a1_2), (.int x_a1_3)] : List Value)).getD ((1 : Int32)).toNatClampNeg (.int (0 : Int32)) = (.int x_a1_1)))
  obtain ⟨cl_a2_4, Ar_a2_4, q_a2_4, Sz_a2_4, Ng_a2_4, Ha_a2_4, Gt_a2_4⟩ := id V3
  have hin_a2_4 : ¬ ((1 : Int32) < 0 ∨ cl_a2_4.slots.size ≤ ((1 : Int32)).toNatClampNeg) := inb_of Sz_a2_4 ⟨by decide, by decide⟩
  obtain ⟨T4, h4, X4, e4, W4, st4⟩ := stB X3 hx hZ e3 Ar_a2_4 (j := (1 : Int32)) hin_a2_4 (g := (mkF m 31 #[vA a1, vI (1 : Int32), vA a2, vI (1 : Int32), vI (4 : Int32), vI (1 : Int32), vI x_a1_1] [(.int (x_a1_1.toInt8.toInt32)), (.int (1 : Int32)), (.ref a2)])) rfl rfl (hb hby d8_31)
  have V4 : Arv Z h4 a2 k_a2 .byte (4 : Int32) [(.int (nar .byte (x_a1_0.toInt8.toInt32))), (.int (nar .byte (x_a1_1.toInt8.toInt32))), (.int x_a2_2), (.int x_a2_3)] (.int (0 : Int32)) := Arv.set Ar_a2_4 q_a2_4 Sz_a2_4 Ng_a2_4 Ha_a2_4 Gt_a2_4 (fits_nar_byte _) W4 1 rfl (Nat.le_of_ble_eq_true rfl)
  have N4 := Fr.snoc X4 N3 g_a2
  have f5 := (f2.other W4 ne_a1_a2)
  obtain ⟨cl_a1_6, Ar_a1_6, q_a1_6, Sz_a1_6, Ng_a1_6, Ha_a1_6, Gt_a1_6⟩ := id f5
  have hin_a1_6 : ¬ ((2 : Int32) < 0 ∨ cl_a1_6.slots.size ≤ ((2 : Int32)).toNatClampNeg) := inb_of Sz_a1_6 ⟨by decide, by decide⟩
  have hat_a1_6 : cl_a1_6.slots[((2 : Int32)).toNatClampNeg]? = some (.int x_a1_2) := (Ha_a1_6 _ (Nat.lt_of_not_le fun q => hin_a1_6 (Or.inr q))).trans (congrArg some (rfl : (([(.int x_a1_0), (.int x_a1_1), (.int x_a1_2), (.int x_a1_3)] : List Value)).getD ((2 : Int32)).toNatClampNeg (.int (0 : Int32)) = (.int x_a1_2)))
  obtain ⟨cl_a2_7, Ar_a2_7, q_a2_7, Sz_a2_7, Ng_a2_7, Ha_a2_7, Gt_a2_7⟩ := id V4
  have hin_a2_7 : ¬ ((2 : Int32) < 0 ∨ cl_a2_7.slots.size ≤ ((2 : Int32)).toNatClampNeg) := inb_of Sz_a2_7 ⟨by decide, by decide⟩
  obtain ⟨T5, h5, X5, e5, W5, st5⟩ := stB X4 hx hZ e4 Ar_a2_7 (j := (2 : Int32)) hin_a2_7 (g := (mkF m 31 #[vA a1, vI (2 : Int32), vA a2, vI (2 : Int32), vI (4 : Int32), vI (2 : Int32), vI x_a1_2] [(.int (x_a1_2.toInt8.toInt32)), (.int (2 : Int32)), (.ref a2)])) rfl rfl (hb hby d8_31)
  have V5 : Arv Z h5 a2 k_a2 .byte (4 : Int32) [(.int (nar .byte (x_a1_0.toInt8.toInt32))), (.int (nar .byte (x_a1_1.toInt8.toInt32))), (.int (nar .byte (x_a1_2.toInt8.toInt32))), (.int x_a2_3)] (.int (0 : Int32)) := Arv.set Ar_a2_7 q_a2_7 Sz_a2_7 Ng_a2_7 Ha_a2_7 Gt_a2_7 (fits_nar_byte _) W5 2 rfl (Nat.le_of_ble_eq_true rfl)
  have N5 := Fr.snoc X5 N4 g_a2
  have f8 := (f5.other W5 ne_a1_a2)
  obtain ⟨cl_a1_9, Ar_a1_9, q_a1_9, Sz_a1_9, Ng_a1_9, Ha_a1_9, Gt_a1_9⟩ := id f8
  have hin_a1_9 : ¬ ((3 : Int32) < 0 ∨ cl_a1_9.slots.size ≤ ((3 : Int32)).toNatClampNeg) := inb_of Sz_a1_9 ⟨by decide, by decide⟩
  have hat_a1_9 : cl_a1_9.slots[((3 : Int32)).toNatClampNeg]? = some (.int x_a1_3) := (Ha_a1_9 _ (Nat.lt_of_not_le fun q => hin_a1_9 (Or.inr q))).trans (congrArg some (rfl : (([(.int x_a1_0), (.int x_a1_1), (.int x_a1_2), (.int x_a1_3)] : List Value)).getD ((3 : Int32)).toNatClampNeg (.int (0 : Int32)) = (.int x_a1_3)))
  obtain ⟨fs, hr, hrun, hended, hW, hsame⟩ := X5.leave (v := some (.int (3 : Int32))) (fun h => by rw [Bd.returns] at h; cases h)
  refine ⟨_, _, pre0 _ ?_, hrun, hended, _, _, rfl, ?_, ⟨_, rfl⟩, hW, hsame.mono (by decide) (by decide)⟩
  · show Steps p.tables e below (s₁.setTop (mkF m 0 #[vA a1, vI (0 : Int32), vA a2, vI (0 : Int32), vI (4 : Int32), vU, vU] [])) _
    refine XS.iconst X0.here hx rfl (hb hby d8_0) ?_
    refine XS.istore X0.here hx rfl (hb hby d8_1) rfl (l' := #[vA a1, vI (0 : Int32), vA a2, vI (0 : Int32), vI (4 : Int32), vI (0 : Int32), vU]) rfl ?_
    refine XS.iload X0.here hx rfl (hb hby d8_3) rfl ?_
    refine XS.iload X0.here hx rfl (hb hby d8_5) rfl ?_
    show Steps p.tables e below (s₁.setTop (mkF m 7 #[vA a1, vI (0 : Int32), vA a2, vI (0 : Int32), vI (4 : Int32), vI (0 : Int32), vU] [(.int (4 : Int32)), (.int (0 : Int32))])) _
    refine XS.icmpNo X0.here hx rfl (hb hby d8_7) rfl (tlt (by decide : (0 : Int32) < (4 : Int32))).2.1 ?_
    refine XS.aloadN X0.here hx rfl (hb hby d8_10) rfl rfl ?_
    refine XS.iloadN X0.here hx rfl (hb hby d8_11) rfl ?_
    show Steps p.tables e below (s₁.setTop (mkF m 12 #[vA a1, vI (0 : Int32), vA a2, vI (0 : Int32), vI (4 : Int32), vI (0 : Int32), vU] [(.int (0 : Int32)), (.ref a1)])) _
    refine X0.caload hx (j := (0 : Int32)) (v := (.int x_a1_0)) (by rw [e0]; exact Ar_a1_0.1) (State.isArrayOf_alike hZ.alike Ar_a1_0.2.1) Ar_a1_0.2.2 hin_a1_0 hat_a1_0 (g := (mkF m 12 #[vA a1, vI (0 : Int32), vA a2, vI (0 : Int32), vI (4 : Int32), vI (0 : Int32), vU] [(.int (0 : Int32)), (.ref a1)])) rfl rfl (hb hby d8_12) _ ?_
    refine XS.istore X0.here hx rfl (hb hby d8_13) rfl (l' := #[vA a1, vI (0 : Int32), vA a2, vI (0 : Int32), vI (4 : Int32), vI (0 : Int32), vI x_a1_0]) rfl ?_
    refine XS.iload X0.here hx rfl (hb hby d8_15) rfl ?_
    refine XS.sipush X0.here hx rfl (hb hby d8_17) ?_
    show Steps p.tables e below (s₁.setTop (mkF m 20 #[vA a1, vI (0 : Int32), vA a2, vI (0 : Int32), vI (4 : Int32), vI (0 : Int32), vI x_a1_0] [(.int (255 : Int32)), (.int x_a1_0)])) _
    refine XS.icmpYes X0.here hx rfl (pc0 := 20) (pc' := 26) rfl (hb hby d8_20) rfl (flt hc20).2.2.2 (by decide) (by decide) ?_
    refine XS.aloadN X0.here hx rfl (hb hby d8_26) rfl rfl ?_
    refine XS.iloadN X0.here hx rfl (hb hby d8_27) rfl ?_
    refine XS.iload X0.here hx rfl (hb hby d8_28) rfl ?_
    refine XS.i2b X0.here hx rfl (hb hby d8_30) rfl ?_
    show Steps p.tables e below (s₁.setTop (mkF m 31 #[vA a1, vI (0 : Int32), vA a2, vI (0 : Int32), vI (4 : Int32), vI (0 : Int32), vI x_a1_0] [(.int (x_a1_0.toInt8.toInt32)), (.int (0 : Int32)), (.ref a2)])) _
    refine st3 _ ?_
    refine XS.iinc X3.here hx rfl (hb hby d8_32) rfl (l' := #[vA a1, vI (1 : Int32), vA a2, vI (0 : Int32), vI (4 : Int32), vI (0 : Int32), vI x_a1_0]) rfl ?_
    refine XS.iinc X3.here hx rfl (hb hby d8_35) rfl (l' := #[vA a1, vI (1 : Int32), vA a2, vI (1 : Int32), vI (4 : Int32), vI (0 : Int32), vI x_a1_0]) rfl ?_
    refine XS.iinc X3.here hx rfl (hb hby d8_38) rfl (l' := #[vA a1, vI (1 : Int32), vA a2, vI (1 : Int32), vI (4 : Int32), vI (1 : Int32), vI x_a1_0]) rfl ?_
    show Steps p.tables e below (T3.setTop (mkF m 41 #[vA a1, vI (1 : Int32), vA a2, vI (1 : Int32), vI (4 : Int32), vI (1 : Int32), vI x_a1_0] [])) _
    refine XS.goto X3.here hx rfl (pc0 := 41) (pc' := 3) rfl (hb hby d8_41) (by decide) (by decide) ?_
    refine XS.iload X3.here hx rfl (hb hby d8_3) rfl ?_
    refine XS.iload X3.here hx rfl (hb hby d8_5) rfl ?_
    show Steps p.tables e below (T3.setTop (mkF m 7 #[vA a1, vI (1 : Int32), vA a2, vI (1 : Int32), vI (4 : Int32), vI (1 : Int32), vI x_a1_0] [(.int (4 : Int32)), (.int (1 : Int32))])) _
    refine XS.icmpNo X3.here hx rfl (hb hby d8_7) rfl (tlt (by decide : (1 : Int32) < (4 : Int32))).2.1 ?_
    refine XS.aloadN X3.here hx rfl (hb hby d8_10) rfl rfl ?_
    refine XS.iloadN X3.here hx rfl (hb hby d8_11) rfl ?_
    show Steps p.tables e below (T3.setTop (mkF m 12 #[vA a1, vI (1 : Int32), vA a2, vI (1 : Int32), vI (4 : Int32), vI (1 : Int32), vI x_a1_0] [(.int (1 : Int32)), (.ref a1)])) _
    refine X3.caload hx (j := (1 : Int32)) (v := (.int x_a1_1)) (by rw [e3]; exact Ar_a1_3.1) (State.isArrayOf_alike hZ.alike Ar_a1_3.2.1) Ar_a1_3.2.2 hin_a1_3 hat_a1_3 (g := (mkF m 12 #[vA a1, vI (1 : Int32), vA a2, vI (1 : Int32), vI (4 : Int32), vI (1 : Int32), vI x_a1_0] [(.int (1 : Int32)), (.ref a1)])) rfl rfl (hb hby d8_12) _ ?_
    refine XS.istore X3.here hx rfl (hb hby d8_13) rfl (l' := #[vA a1, vI (1 : Int32), vA a2, vI (1 : Int32), vI (4 : Int32), vI (1 : Int32), vI x_a1_1]) rfl ?_
    refine XS.iload X3.here hx rfl (hb hby d8_15) rfl ?_
    refine XS.sipush X3.here hx rfl (hb hby d8_17) ?_
    show Steps p.tables e below (T3.setTop (mkF m 20 #[vA a1, vI (1 : Int32), vA a2, vI (1 : Int32), vI (4 : Int32), vI (1 : Int32), vI x_a1_1] [(.int (255 : Int32)), (.int x_a1_1)])) _
    refine XS.icmpYes X3.here hx rfl (pc0 := 20) (pc' := 26) rfl (hb hby d8_20) rfl (flt hc20').2.2.2 (by decide) (by decide) ?_
    refine XS.aloadN X3.here hx rfl (hb hby d8_26) rfl rfl ?_
    refine XS.iloadN X3.here hx rfl (hb hby d8_27) rfl ?_
    refine XS.iload X3.here hx rfl (hb hby d8_28) rfl ?_
    refine XS.i2b X3.here hx rfl (hb hby d8_30) rfl ?_
    show Steps p.tables e below (T3.setTop (mkF m 31 #[vA a1, vI (1 : Int32), vA a2, vI (1 : Int32), vI (4 : Int32), vI (1 : Int32), vI x_a1_1] [(.int (x_a1_1.toInt8.toInt32)), (.int (1 : Int32)), (.ref a2)])) _
    refine st4 _ ?_
    refine XS.iinc X4.here hx rfl (hb hby d8_32) rfl (l' := #[vA a1, vI (2 : Int32), vA a2, vI (1 : Int32), vI (4 : Int32), vI (1 : Int32), vI x_a1_1]) rfl ?_
    refine XS.iinc X4.here hx rfl (hb hby d8_35) rfl (l' := #[vA a1, vI (2 : Int32), vA a2, vI (2 : Int32), vI (4 : Int32), vI (1 : Int32), vI x_a1_1]) rfl ?_
    refine XS.iinc X4.here hx rfl (hb hby d8_38) rfl (l' := #[vA a1, vI (2 : Int32), vA a2, vI (2 : Int32), vI (4 : Int32), vI (2 : Int32), vI x_a1_1]) rfl ?_
    show Steps p.tables e below (T4.setTop (mkF m 41 #[vA a1, vI (2 : Int32), vA a2, vI (2 : Int32), vI (4 : Int32), vI (2 : Int32), vI x_a1_1] [])) _
    refine XS.goto X4.here hx rfl (pc0 := 41) (pc' := 3) rfl (hb hby d8_41) (by decide) (by decide) ?_
    refine XS.iload X4.here hx rfl (hb hby d8_3) rfl ?_
    refine XS.iload X4.here hx rfl (hb hby d8_5) rfl ?_
    show Steps p.tables e below (T4.setTop (mkF m 7 #[vA a1, vI (2 : Int32), vA a2, vI (2 : Int32), vI (4 : Int32), vI (2 : Int32), vI x_a1_1] [(.int (4 : Int32)), (.int (2 : Int32))])) _
    refine XS.icmpNo X4.here hx rfl (hb hby d8_7) rfl (tlt (by decide : (2 : Int32) < (4 : Int32))).2.1 ?_
    refine XS.aloadN X4.here hx rfl (hb hby d8_10) rfl rfl ?_
    refine XS.iloadN X4.here hx rfl (hb hby d8_11) rfl ?_
    show Steps p.tables e below (T4.setTop (mkF m 12 #[vA a1, vI (2 : Int32), vA a2, vI (2 : Int32), vI (4 : Int32), vI (2 : Int32), vI x_a1_1] [(.int (2 : Int32)), (.ref a1)])) _
    refine X4.caload hx (j := (2 : Int32)) (v := (.int x_a1_2)) (by rw [e4]; exact Ar_a1_6.1) (State.isArrayOf_alike hZ.alike Ar_a1_6.2.1) Ar_a1_6.2.2 hin_a1_6 hat_a1_6 (g := (mkF m 12 #[vA a1, vI (2 : Int32), vA a2, vI (2 : Int32), vI (4 : Int32), vI (2 : Int32), vI x_a1_1] [(.int (2 : Int32)), (.ref a1)])) rfl rfl (hb hby d8_12) _ ?_
    refine XS.istore X4.here hx rfl (hb hby d8_13) rfl (l' := #[vA a1, vI (2 : Int32), vA a2, vI (2 : Int32), vI (4 : Int32), vI (2 : Int32), vI x_a1_2]) rfl ?_
    refine XS.iload X4.here hx rfl (hb hby d8_15) rfl ?_
    refine XS.sipush X4.here hx rfl (hb hby d8_17) ?_
    show Steps p.tables e below (T4.setTop (mkF m 20 #[vA a1, vI (2 : Int32), vA a2, vI (2 : Int32), vI (4 : Int32), vI (2 : Int32), vI x_a1_2] [(.int (255 : Int32)), (.int x_a1_2)])) _
    refine XS.icmpYes X4.here hx rfl (pc0 := 20) (pc' := 26) rfl (hb hby d8_20) rfl (flt hc20'').2.2.2 (by decide) (by decide) ?_
    refine XS.aloadN X4.here hx rfl (hb hby d8_26) rfl rfl ?_
    refine XS.iloadN X4.here hx rfl (hb hby d8_27) rfl ?_
    refine XS.iload X4.here hx rfl (hb hby d8_28) rfl ?_
    refine XS.i2b X4.here hx rfl (hb hby d8_30) rfl ?_
    show Steps p.tables e below (T4.setTop (mkF m 31 #[vA a1, vI (2 : Int32), vA a2, vI (2 : Int32), vI (4 : Int32), vI (2 : Int32), vI x_a1_2] [(.int (x_a1_2.toInt8.toInt32)), (.int (2 : Int32)), (.ref a2)])) _
    refine st5 _ ?_
    refine XS.iinc X5.here hx rfl (hb hby d8_32) rfl (l' := #[vA a1, vI (3 : Int32), vA a2, vI (2 : Int32), vI (4 : Int32), vI (2 : Int32), vI x_a1_2]) rfl ?_
    refine XS.iinc X5.here hx rfl (hb hby d8_35) rfl (l' := #[vA a1, vI (3 : Int32), vA a2, vI (3 : Int32), vI (4 : Int32), vI (2 : Int32), vI x_a1_2]) rfl ?_
    refine XS.iinc X5.here hx rfl (hb hby d8_38) rfl (l' := #[vA a1, vI (3 : Int32), vA a2, vI (3 : Int32), vI (4 : Int32), vI (3 : Int32), vI x_a1_2]) rfl ?_
    show Steps p.tables e below (T5.setTop (mkF m 41 #[vA a1, vI (3 : Int32), vA a2, vI (3 : Int32), vI (4 : Int32), vI (3 : Int32), vI x_a1_2] [])) _
    refine XS.goto X5.here hx rfl (pc0 := 41) (pc' := 3) rfl (hb hby d8_41) (by decide) (by decide) ?_
    refine XS.iload X5.here hx rfl (hb hby d8_3) rfl ?_
    refine XS.iload X5.here hx rfl (hb hby d8_5) rfl ?_
    show Steps p.tables e below (T5.setTop (mkF m 7 #[vA a1, vI (3 : Int32), vA a2, vI (3 : Int32), vI (4 : Int32), vI (3 : Int32), vI x_a1_2] [(.int (4 : Int32)), (.int (3 : Int32))])) _
    refine XS.icmpNo X5.here hx rfl (hb hby d8_7) rfl (tlt (by decide : (3 : Int32) < (4 : Int32))).2.1 ?_
    refine XS.aloadN X5.here hx rfl (hb hby d8_10) rfl rfl ?_
    refine XS.iloadN X5.here hx rfl (hb hby d8_11) rfl ?_
    show Steps p.tables e below (T5.setTop (mkF m 12 #[vA a1, vI (3 : Int32), vA a2, vI (3 : Int32), vI (4 : Int32), vI (3 : Int32), vI x_a1_2] [(.int (3 : Int32)), (.ref a1)])) _
    refine X5.caload hx (j := (3 : Int32)) (v := (.int x_a1_3)) (by rw [e5]; exact Ar_a1_9.1) (State.isArrayOf_alike hZ.alike Ar_a1_9.2.1) Ar_a1_9.2.2 hin_a1_9 hat_a1_9 (g := (mkF m 12 #[vA a1, vI (3 : Int32), vA a2, vI (3 : Int32), vI (4 : Int32), vI (3 : Int32), vI x_a1_2] [(.int (3 : Int32)), (.ref a1)])) rfl rfl (hb hby d8_12) _ ?_
    refine XS.istore X5.here hx rfl (hb hby d8_13) rfl (l' := #[vA a1, vI (3 : Int32), vA a2, vI (3 : Int32), vI (4 : Int32), vI (3 : Int32), vI x_a1_3]) rfl ?_
    refine XS.iload X5.here hx rfl (hb hby d8_15) rfl ?_
    refine XS.sipush X5.here hx rfl (hb hby d8_17) ?_
    show Steps p.tables e below (T5.setTop (mkF m 20 #[vA a1, vI (3 : Int32), vA a2, vI (3 : Int32), vI (4 : Int32), vI (3 : Int32), vI x_a1_3] [(.int (255 : Int32)), (.int x_a1_3)])) _
    refine XS.icmpNo X5.here hx rfl (hb hby d8_20) rfl (tlt hc20''').2.2.2 ?_
    refine XS.iload X5.here hx rfl (hb hby d8_23) rfl ?_
    show Steps p.tables e below (T5.setTop (mkF m 25 #[vA a1, vI (3 : Int32), vA a2, vI (3 : Int32), vI (4 : Int32), vI (3 : Int32), vI x_a1_3] [(.int (3 : Int32))])) _
    exact retI X5 hx Bd.returns (hb hby d8_25) hr
  · show Q_rm8_4_3 Z a1 a2 k_a1 x_a1_0 x_a1_1 x_a1_2 x_a1_3 k_a2 x_a2_0 x_a2_1 x_a2_2 x_a2_3 h0 n0 _ T5.heap _
    rw [e5]
    exact ⟨rfl, N5, ((((Keep.refl h0 [a2]).wr W3 (Or.inl (List.mem_of_getElem? (i := 0) rfl))).wr W4 (Or.inl (List.mem_of_getElem? (i := 0) rfl))).wr W5 (Or.inl (List.mem_of_getElem? (i := 0) rfl))), V5⟩
def Q_rm8_4_4 (Z : State) (a1 : Addr) (a2 : Addr) (k_a1 : ClassId) (x_a1_0 : Int32) (x_a1_1 : Int32) (x_a1_2 : Int32) (x_a1_3 : Int32) (k_a2 : ClassId) (x_a2_0 : Int32) (x_a2_1 : Int32) (x_a2_2 : Int32) (x_a2_3 : Int32) (h0 : Heap) (n0 : Nat) (v : Option Value) (h : Heap) (L : List Loc) : Prop := v = some (.int (4 : Int32)) ∧ Fr n0 L ∧ Keep h0 h [a2] ∧ Arv Z h a2 k_a2 .byte (4 : Int32) [(.int (nar .byte (x_a1_0.toInt8.toInt32))), (.int (nar .byte (x_a1_1.toInt8.toInt32))), (.int (nar .byte (x_a1_2.toInt8.toInt32))), (.int (nar .byte (x_a1_3.toInt8.toInt32)))] (.int (0 : Int32))
set_option maxRecDepth 65536 in
set_option maxHeartbeats 40000000 in
theorem rm8_4_4 (l : Launch) (Z : State) (a0 : Array Value) (hw : ∀ d ∈ tables_1, d.before a0 Z = true) (ws : List Jvm.Cond) (a1 : Addr) (a2 : Addr) (k_a1 : ClassId) (x_a1_0 : Int32) (x_a1_1 : Int32) (x_a1_2 : Int32) (x_a1_3 : Int32) (k_a2 : ClassId) (x_a2_0 : Int32) (x_a2_1 : Int32) (x_a2_2 : Int32) (x_a2_3 : Int32) (h0 : Heap) (n0 : Nat) (Z0 : n0 ≤ h0.size) (g_a2 : n0 ≤ a2) (V_a1 : Arv Z h0 a1 k_a1 .char (4 : Int32) [(.int x_a1_0), (.int x_a1_1), (.int x_a1_2), (.int x_a1_3)] (.int (0 : Int32))) (V_a2 : Arv Z h0 a2 k_a2 .byte (4 : Int32) [(.int x_a2_0), (.int x_a2_1), (.int x_a2_2), (.int x_a2_3)] (.int (0 : Int32))) (hc20 : ¬ ((255 : Int32) < x_a1_0)) (ne_a1_a2 : a1 ≠ a2) (hc20' : ¬ ((255 : Int32) < x_a1_1)) (hc20'' : ¬ ((255 : Int32) < x_a1_2)) (hc20''' : ¬ ((255 : Int32) < x_a1_3)) :
    MetFree l (⟨"java/lang/StringUTF16", "compress", "([CI[BII)I"⟩ : MethodName) (head1 (Jvm.Cond.code (⟨"java/lang/StringUTF16", "compress", "([CI[BII)I"⟩ : MethodName) jdk_52_method_21_code 7 (some .int) :: ws) ({ frames := 0, cells := 0, slots := 0, locals := 0 } : Room)) (fun a U => a = #[(.ref a1), (.int (0 : Int32)), (.ref a2), (.int (0 : Int32)), (.int (4 : Int32))] ∧ Z.Warmed39 U.vm ∧ U.heap = h0) (fun _ _ _ _ _ => True) (fun _ U o U' => ∃ v L, o = .returned v ∧ Q_rm8_4_4 Z a1 a2 k_a1 x_a1_0 x_a1_1 x_a1_2 x_a1_3 k_a2 x_a2_0 x_a2_1 x_a2_2 x_a2_3 h0 n0 v U'.heap L ∧ FrameEnd U o U' L ({ frames := 0, cells := 0, slots := 0, locals := 0 } : Room).cells ({ frames := 0, cells := 0, slots := 0, locals := 0 } : Room).slots) := by
  have hi : ∀ (i : Nat) {d : Jvm.Cond}, tables_1[i]? = some d → d.before a0 Z = true := fun i d h => hw d (List.mem_of_getElem? h)
  refine MetFree.of_bodySF (plainFor_of_name pn_8) hisR ?_
  intro p e s m args below meth c s₁ Bd hml0 hP hK
  obtain ⟨rfl, hZ, hh⟩ := hP
  have hx := Bd.exec
  have hby := Bd.bytes
  have hml : c.maxLocals = 7 := hml0
  have hown : s.vm.findClass "java/lang/StringUTF16" = some m.cls := findClass_of_methodNamed Bd.named
  have hnm := (name_of_methodNamed Bd.named Bd.method).1
  have X0 : Stand p l e ({ frames := 0, cells := 0, slots := 0, locals := 0 } : Room) s m #[(.ref a1), (.int (0 : Int32)), (.ref a2), (.int (0 : Int32)), (.int (4 : Int32))] below meth c s₁ [] 0 0 := Stand.of_body Bd
  have e0 : s₁.heap = h0 := by rw [← hh, Bd.state]; rfl
  have N0 := Fr.nil n0
  have pre0 : ∀ t, Steps p.tables e below (s₁.setTop (mkF m 0 #[vA a1, vI (0 : Int32), vA a2, vI (0 : Int32), vI (4 : Int32), vU, vU] [])) t → Steps p.tables e below (s₁.setTop (entryFrame m #[(.ref a1), (.int (0 : Int32)), (.ref a2), (.int (0 : Int32)), (.int (4 : Int32))] 7)) t := fun t k => castTop (ef_8 m a1 (0 : Int32) a2 (0 : Int32) (4 : Int32)) k
  obtain ⟨cl_a1_0, Ar_a1_0, q_a1_0, Sz_a1_0, Ng_a1_0, Ha_a1_0, Gt_a1_0⟩ := id V_a1
  have hin_a1_0 : ¬ ((0 : Int32) < 0 ∨ cl_a1_0.slots.size ≤ ((0 : Int32)).toNatClampNeg) := inb_of Sz_a1_0 ⟨by decide, by decide⟩
  have hat_a1_0 : cl_a1_0.slots[((0 : Int32)).toNatClampNeg]? = some (.int x_a1_0) := (Ha_a1_0 _ (Nat.lt_of_not_le fun q => hin_a1_0 (Or.inr q))).trans (congrArg some (rfl : (([(.int x_a1_0), (.int x_a1_1), (.int x_a1_2), (.int x_a1_3)] : List Value)).getD ((0 : Int32)).toNatClampNeg (.int (0 : Int32)) = (.int x_a1_0)))
  obtain ⟨cl_a2_1, Ar_a2_1, q_a2_1, Sz_a2_1, Ng_a2_1, Ha_a2_1, Gt_a2_1⟩ := id V_a2
  have hin_a2_1 : ¬ ((0 : Int32) < 0 ∨ cl_a2_1.slots.size ≤ ((0 : Int32)).toNatClampNeg) := inb_of Sz_a2_1 ⟨by decide, by decide⟩
  obtain ⟨T3, h3, X3, e3, W3, st3⟩ := stB X0 hx hZ e0 Ar_a2_1 (j := (0 : Int32)) hin_a2_1 (g := (mkF m 31 #[vA a1, vI (0 : Int32), vA a2, vI (0 : Int32), vI (4 : Int32), vI (0 : Int32), vI x_a1_0] [(.int (x_a1_0.toInt8.toInt32)), (.int (0 : Int32)), (.ref a2)])) rfl rfl (hb hby d8_31)
  have V3 : Arv Z h3 a2 k_a2 .byte (4 : Int32) [(.int (nar .byte (x_a1_0.toInt8.toInt32))), (.int x_a2_1), (.int x_a2_2), (.int x_a2_3)] (.int (0 : Int32)) := Arv.set Ar_a2_1 q_a2_1 Sz_a2_1 Ng_a2_1 Ha_a2_1 Gt_a2_1 (fits_nar_byte _) W3 0 rfl (Nat.le_of_ble_eq_true rfl)
  have N3 := Fr.snoc X3 N0 g_a2
  have f2 := (V_a1.other W3 ne_a1_a2)
  obtain ⟨cl_a1_3, Ar_a1_3, q_a1_3, Sz_a1_3, Ng_a1_3, Ha_a1_3, Gt_a1_3⟩ := id f2
  have hin_a1_3 : ¬ ((1 : Int32) < 0 ∨ cl_a1_3.slots.size ≤ ((1 : Int32)).toNatClampNeg) := inb_of Sz_a1_3 ⟨by decide, by decide⟩
  have hat_a1_3 : cl_a1_3.slots[((1 : Int32)).toNatClampNeg]? = some (.int x_a1_1) := (Ha_a1_3 _ (Nat.lt_of_not_le fun q => hin_a1_3 (Or.inr q))).trans (congrArg some (rfl : (([(.int x_a1_0), (.int x_a1_1), (.int x_a1_2), (.int x_a1_3)] : List Value)).getD ((1 : Int32)).toNatClampNeg (.int (0 : Int32)) = (.int x_a1_1)))
  obtain ⟨cl_a2_4, Ar_a2_4, q_a2_4, Sz_a2_4, Ng_a2_4, Ha_a2_4, Gt_a2_4⟩ := id V3
  have hin_a2_4 : ¬ ((1 : Int32) < 0 ∨ cl_a2_4.slots.size ≤ ((1 : Int32)).toNatClampNeg) := inb_of Sz_a2_4 ⟨by decide, by decide⟩
  obtain ⟨T4, h4, X4, e4, W4, st4⟩ := stB X3 hx hZ e3 Ar_a2_4 (j := (1 : Int32)) hin_a2_4 (g := (mkF m 31 #[vA a1, vI (1 : Int32), vA a2, vI (1 : Int32), vI (4 : Int32), vI (1 : Int32), vI x_a1_1] [(.int (x_a1_1.toInt8.toInt32)), (.int (1 : Int32)), (.ref a2)])) rfl rfl (hb hby d8_31)
  have V4 : Arv Z h4 a2 k_a2 .byte (4 : Int32) [(.int (nar .byte (x_a1_0.toInt8.toInt32))), (.int (nar .byte (x_a1_1.toInt8.toInt32))), (.int x_a2_2), (.int x_a2_3)] (.int (0 : Int32)) := Arv.set Ar_a2_4 q_a2_4 Sz_a2_4 Ng_a2_4 Ha_a2_4 Gt_a2_4 (fits_nar_byte _) W4 1 rfl (Nat.le_of_ble_eq_true rfl)
  have N4 := Fr.snoc X4 N3 g_a2
  have f5 := (f2.other W4 ne_a1_a2)
  obtain ⟨cl_a1_6, Ar_a1_6, q_a1_6, Sz_a1_6, Ng_a1_6, Ha_a1_6, Gt_a1_6⟩ := id f5
  have hin_a1_6 : ¬ ((2 : Int32) < 0 ∨ cl_a1_6.slots.size ≤ ((2 : Int32)).toNatClampNeg) := inb_of Sz_a1_6 ⟨by decide, by decide⟩
  have hat_a1_6 : cl_a1_6.slots[((2 : Int32)).toNatClampNeg]? = some (.int x_a1_2) := (Ha_a1_6 _ (Nat.lt_of_not_le fun q => hin_a1_6 (Or.inr q))).trans (congrArg some (rfl : (([(.int x_a1_0), (.int x_a1_1), (.int x_a1_2), (.int x_a1_3)] : List Value)).getD ((2 : Int32)).toNatClampNeg (.int (0 : Int32)) = (.int x_a1_2)))
  obtain ⟨cl_a2_7, Ar_a2_7, q_a2_7, Sz_a2_7, Ng_a2_7, Ha_a2_7, Gt_a2_7⟩ := id V4
  have hin_a2_7 : ¬ ((2 : Int32) < 0 ∨ cl_a2_7.slots.size ≤ ((2 : Int32)).toNatClampNeg) := inb_of Sz_a2_7 ⟨by decide, by decide⟩
  obtain ⟨T5, h5, X5, e5, W5, st5⟩ := stB X4 hx hZ e4 Ar_a2_7 (j := (2 : Int32)) hin_a2_7 (g := (mkF m 31 #[vA a1, vI (2 : Int32), vA a2, vI (2 : Int32), vI (4 : Int32), vI (2 : Int32), vI x_a1_2] [(.int (x_a1_2.toInt8.toInt32)), (.int (2 : Int32)), (.ref a2)])) rfl rfl (hb hby d8_31)
  have V5 : Arv Z h5 a2 k_a2 .byte (4 : Int32) [(.int (nar .byte (x_a1_0.toInt8.toInt32))), (.int (nar .byte (x_a1_1.toInt8.toInt32))), (.int (nar .byte (x_a1_2.toInt8.toInt32))), (.int x_a2_3)] (.int (0 : Int32)) := Arv.set Ar_a2_7 q_a2_7 Sz_a2_7 Ng_a2_7 Ha_a2_7 Gt_a2_7 (fits_nar_byte _) W5 2 rfl (Nat.le_of_ble_eq_true rfl)
  have N5 := Fr.snoc X5 N4 g_a2
  have f8 := (f5.other W5 ne_a1_a2)
  obtain ⟨cl_a1_9, Ar_a1_9, q_a1_9, Sz_a1_9, Ng_a1_9, Ha_a1_9, Gt_a1_9⟩ := id f8
  have hin_a1_9 : ¬ ((3 : Int32) < 0 ∨ cl_a1_9.slots.size ≤ ((3 : Int32)).toNatClampNeg) := inb_of Sz_a1_9 ⟨by decide, by decide⟩
  have hat_a1_9 : cl_a1_9.slots[((3 : Int32)).toNatClampNeg]? = some (.int x_a1_3) := (Ha_a1_9 _ (Nat.lt_of_not_le fun q => hin_a1_9 (Or.inr q))).trans (congrArg some (rfl : (([(.int x_a1_0), (.int x_a1_1), (.int x_a1_2), (.int x_a1_3)] : List Value)).getD ((3 : Int32)).toNatClampNeg (.int (0 : Int32)) = (.int x_a1_3)))
  obtain ⟨cl_a2_10, Ar_a2_10, q_a2_10, Sz_a2_10, Ng_a2_10, Ha_a2_10, Gt_a2_10⟩ := id V5
  have hin_a2_10 : ¬ ((3 : Int32) < 0 ∨ cl_a2_10.slots.size ≤ ((3 : Int32)).toNatClampNeg) := inb_of Sz_a2_10 ⟨by decide, by decide⟩
  obtain ⟨T6, h6, X6, e6, W6, st6⟩ := stB X5 hx hZ e5 Ar_a2_10 (j := (3 : Int32)) hin_a2_10 (g := (mkF m 31 #[vA a1, vI (3 : Int32), vA a2, vI (3 : Int32), vI (4 : Int32), vI (3 : Int32), vI x_a1_3] [(.int (x_a1_3.toInt8.toInt32)), (.int (3 : Int32)), (.ref a2)])) rfl rfl (hb hby d8_31)
  have V6 : Arv Z h6 a2 k_a2 .byte (4 : Int32) [(.int (nar .byte (x_a1_0.toInt8.toInt32))), (.int (nar .byte (x_a1_1.toInt8.toInt32))), (.int (nar .byte (x_a1_2.toInt8.toInt32))), (.int (nar .byte (x_a1_3.toInt8.toInt32)))] (.int (0 : Int32)) := Arv.set Ar_a2_10 q_a2_10 Sz_a2_10 Ng_a2_10 Ha_a2_10 Gt_a2_10 (fits_nar_byte _) W6 3 rfl (Nat.le_of_ble_eq_true rfl)
  have N6 := Fr.snoc X6 N5 g_a2
  obtain ⟨fs, hr, hrun, hended, hW, hsame⟩ := X6.leave (v := some (.int (4 : Int32))) (fun h => by rw [Bd.returns] at h; cases h)
  refine ⟨_, _, pre0 _ ?_, hrun, hended, _, _, rfl, ?_, ⟨_, rfl⟩, hW, hsame.mono (by decide) (by decide)⟩
  · show Steps p.tables e below (s₁.setTop (mkF m 0 #[vA a1, vI (0 : Int32), vA a2, vI (0 : Int32), vI (4 : Int32), vU, vU] [])) _
    refine XS.iconst X0.here hx rfl (hb hby d8_0) ?_
    refine XS.istore X0.here hx rfl (hb hby d8_1) rfl (l' := #[vA a1, vI (0 : Int32), vA a2, vI (0 : Int32), vI (4 : Int32), vI (0 : Int32), vU]) rfl ?_
    refine XS.iload X0.here hx rfl (hb hby d8_3) rfl ?_
    refine XS.iload X0.here hx rfl (hb hby d8_5) rfl ?_
    show Steps p.tables e below (s₁.setTop (mkF m 7 #[vA a1, vI (0 : Int32), vA a2, vI (0 : Int32), vI (4 : Int32), vI (0 : Int32), vU] [(.int (4 : Int32)), (.int (0 : Int32))])) _
    refine XS.icmpNo X0.here hx rfl (hb hby d8_7) rfl (tlt (by decide : (0 : Int32) < (4 : Int32))).2.1 ?_
    refine XS.aloadN X0.here hx rfl (hb hby d8_10) rfl rfl ?_
    refine XS.iloadN X0.here hx rfl (hb hby d8_11) rfl ?_
    show Steps p.tables e below (s₁.setTop (mkF m 12 #[vA a1, vI (0 : Int32), vA a2, vI (0 : Int32), vI (4 : Int32), vI (0 : Int32), vU] [(.int (0 : Int32)), (.ref a1)])) _
    refine X0.caload hx (j := (0 : Int32)) (v := (.int x_a1_0)) (by rw [e0]; exact Ar_a1_0.1) (State.isArrayOf_alike hZ.alike Ar_a1_0.2.1) Ar_a1_0.2.2 hin_a1_0 hat_a1_0 (g := (mkF m 12 #[vA a1, vI (0 : Int32), vA a2, vI (0 : Int32), vI (4 : Int32), vI (0 : Int32), vU] [(.int (0 : Int32)), (.ref a1)])) rfl rfl (hb hby d8_12) _ ?_
    refine XS.istore X0.here hx rfl (hb hby d8_13) rfl (l' := #[vA a1, vI (0 : Int32), vA a2, vI (0 : Int32), vI (4 : Int32), vI (0 : Int32), vI x_a1_0]) rfl ?_
    refine XS.iload X0.here hx rfl (hb hby d8_15) rfl ?_
    refine XS.sipush X0.here hx rfl (hb hby d8_17) ?_
    show Steps p.tables e below (s₁.setTop (mkF m 20 #[vA a1, vI (0 : Int32), vA a2, vI (0 : Int32), vI (4 : Int32), vI (0 : Int32), vI x_a1_0] [(.int (255 : Int32)), (.int x_a1_0)])) _
    refine XS.icmpYes X0.here hx rfl (pc0 := 20) (pc' := 26) rfl (hb hby d8_20) rfl (flt hc20).2.2.2 (by decide) (by decide) ?_
    refine XS.aloadN X0.here hx rfl (hb hby d8_26) rfl rfl ?_
    refine XS.iloadN X0.here hx rfl (hb hby d8_27) rfl ?_
    refine XS.iload X0.here hx rfl (hb hby d8_28) rfl ?_
    refine XS.i2b X0.here hx rfl (hb hby d8_30) rfl ?_
    show Steps p.tables e below (s₁.setTop (mkF m 31 #[vA a1, vI (0 : Int32), vA a2, vI (0 : Int32), vI (4 : Int32), vI (0 : Int32), vI x_a1_0] [(.int (x_a1_0.toInt8.toInt32)), (.int (0 : Int32)), (.ref a2)])) _
    refine st3 _ ?_
    refine XS.iinc X3.here hx rfl (hb hby d8_32) rfl (l' := #[vA a1, vI (1 : Int32), vA a2, vI (0 : Int32), vI (4 : Int32), vI (0 : Int32), vI x_a1_0]) rfl ?_
    refine XS.iinc X3.here hx rfl (hb hby d8_35) rfl (l' := #[vA a1, vI (1 : Int32), vA a2, vI (1 : Int32), vI (4 : Int32), vI (0 : Int32), vI x_a1_0]) rfl ?_
    refine XS.iinc X3.here hx rfl (hb hby d8_38) rfl (l' := #[vA a1, vI (1 : Int32), vA a2, vI (1 : Int32), vI (4 : Int32), vI (1 : Int32), vI x_a1_0]) rfl ?_
    show Steps p.tables e below (T3.setTop (mkF m 41 #[vA a1, vI (1 : Int32), vA a2, vI (1 : Int32), vI (4 : Int32), vI (1 : Int32), vI x_a1_0] [])) _
    refine XS.goto X3.here hx rfl (pc0 := 41) (pc' := 3) rfl (hb hby d8_41) (by decide) (by decide) ?_
    refine XS.iload X3.here hx rfl (hb hby d8_3) rfl ?_
    refine XS.iload X3.here hx rfl (hb hby d8_5) rfl ?_
    show Steps p.tables e below (T3.setTop (mkF m 7 #[vA a1, vI (1 : Int32), vA a2, vI (1 : Int32), vI (4 : Int32), vI (1 : Int32), vI x_a1_0] [(.int (4 : Int32)), (.int (1 : Int32))])) _
    refine XS.icmpNo X3.here hx rfl (hb hby d8_7) rfl (tlt (by decide : (1 : Int32) < (4 : Int32))).2.1 ?_
    refine XS.aloadN X3.here hx rfl (hb hby d8_10) rfl rfl ?_
    refine XS.iloadN X3.here hx rfl (hb hby d8_11) rfl ?_
    show Steps p.tables e below (T3.setTop (mkF m 12 #[vA a1, vI (1 : Int32), vA a2, vI (1 : Int32), vI (4 : Int32), vI (1 : Int32), vI x_a1_0] [(.int (1 : Int32)), (.ref a1)])) _
    refine X3.caload hx (j := (1 : Int32)) (v := (.int x_a1_1)) (by rw [e3]; exact Ar_a1_3.1) (State.isArrayOf_alike hZ.alike Ar_a1_3.2.1) Ar_a1_3.2.2 hin_a1_3 hat_a1_3 (g := (mkF m 12 #[vA a1, vI (1 : Int32), vA a2, vI (1 : Int32), vI (4 : Int32), vI (1 : Int32), vI x_a1_0] [(.int (1 : Int32)), (.ref a1)])) rfl rfl (hb hby d8_12) _ ?_
    refine XS.istore X3.here hx rfl (hb hby d8_13) rfl (l' := #[vA a1, vI (1 : Int32), vA a2, vI (1 : Int32), vI (4 : Int32), vI (1 : Int32), vI x_a1_1]) rfl ?_
    refine XS.iload X3.here hx rfl (hb hby d8_15) rfl ?_
    refine XS.sipush X3.here hx rfl (hb hby d8_17) ?_
    show Steps p.tables e below (T3.setTop (mkF m 20 #[vA a1, vI (1 : Int32), vA a2, vI (1 : Int32), vI (4 : Int32), vI (1 : Int32), vI x_a1_1] [(.int (255 : Int32)), (.int x_a1_1)])) _
    refine XS.icmpYes X3.here hx rfl (pc0 := 20) (pc' := 26) rfl (hb hby d8_20) rfl (flt hc20').2.2.2 (by decide) (by decide) ?_
    refine XS.aloadN X3.here hx rfl (hb hby d8_26) rfl rfl ?_
    refine XS.iloadN X3.here hx rfl (hb hby d8_27) rfl ?_
    refine XS.iload X3.here hx rfl (hb hby d8_28) rfl ?_
    refine XS.i2b X3.here hx rfl (hb hby d8_30) rfl ?_
    show Steps p.tables e below (T3.setTop (mkF m 31 #[vA a1, vI (1 : Int32), vA a2, vI (1 : Int32), vI (4 : Int32), vI (1 : Int32), vI x_a1_1] [(.int (x_a1_1.toInt8.toInt32)), (.int (1 : Int32)), (.ref a2)])) _
    refine st4 _ ?_
    refine XS.iinc X4.here hx rfl (hb hby d8_32) rfl (l' := #[vA a1, vI (2 : Int32), vA a2, vI (1 : Int32), vI (4 : Int32), vI (1 : Int32), vI x_a1_1]) rfl ?_
    refine XS.iinc X4.here hx rfl (hb hby d8_35) rfl (l' := #[vA a1, vI (2 : Int32), vA a2, vI (2 : Int32), vI (4 : Int32), vI (1 : Int32), vI x_a1_1]) rfl ?_
    refine XS.iinc X4.here hx rfl (hb hby d8_38) rfl (l' := #[vA a1, vI (2 : Int32), vA a2, vI (2 : Int32), vI (4 : Int32), vI (2 : Int32), vI x_a1_1]) rfl ?_
    show Steps p.tables e below (T4.setTop (mkF m 41 #[vA a1, vI (2 : Int32), vA a2, vI (2 : Int32), vI (4 : Int32), vI (2 : Int32), vI x_a1_1] [])) _
    refine XS.goto X4.here hx rfl (pc0 := 41) (pc' := 3) rfl (hb hby d8_41) (by decide) (by decide) ?_
    refine XS.iload X4.here hx rfl (hb hby d8_3) rfl ?_
    refine XS.iload X4.here hx rfl (hb hby d8_5) rfl ?_
    show Steps p.tables e below (T4.setTop (mkF m 7 #[vA a1, vI (2 : Int32), vA a2, vI (2 : Int32), vI (4 : Int32), vI (2 : Int32), vI x_a1_1] [(.int (4 : Int32)), (.int (2 : Int32))])) _
    refine XS.icmpNo X4.here hx rfl (hb hby d8_7) rfl (tlt (by decide : (2 : Int32) < (4 : Int32))).2.1 ?_
    refine XS.aloadN X4.here hx rfl (hb hby d8_10) rfl rfl ?_
    refine XS.iloadN X4.here hx rfl (hb hby d8_11) rfl ?_
    show Steps p.tables e below (T4.setTop (mkF m 12 #[vA a1, vI (2 : Int32), vA a2, vI (2 : Int32), vI (4 : Int32), vI (2 : Int32), vI x_a1_1] [(.int (2 : Int32)), (.ref a1)])) _
    refine X4.caload hx (j := (2 : Int32)) (v := (.int x_a1_2)) (by rw [e4]; exact Ar_a1_6.1) (State.isArrayOf_alike hZ.alike Ar_a1_6.2.1) Ar_a1_6.2.2 hin_a1_6 hat_a1_6 (g := (mkF m 12 #[vA a1, vI (2 : Int32), vA a2, vI (2 : Int32), vI (4 : Int32), vI (2 : Int32), vI x_a1_1] [(.int (2 : Int32)), (.ref a1)])) rfl rfl (hb hby d8_12) _ ?_
    refine XS.istore X4.here hx rfl (hb hby d8_13) rfl (l' := #[vA a1, vI (2 : Int32), vA a2, vI (2 : Int32), vI (4 : Int32), vI (2 : Int32), vI x_a1_2]) rfl ?_
    refine XS.iload X4.here hx rfl (hb hby d8_15) rfl ?_
    refine XS.sipush X4.here hx rfl (hb hby d8_17) ?_
    show Steps p.tables e below (T4.setTop (mkF m 20 #[vA a1, vI (2 : Int32), vA a2, vI (2 : Int32), vI (4 : Int32), vI (2 : Int32), vI x_a1_2] [(.int (255 : Int32)), (.int x_a1_2)])) _
    refine XS.icmpYes X4.here hx rfl (pc0 := 20) (pc' := 26) rfl (hb hby d8_20) rfl (flt hc20'').2.2.2 (by decide) (by decide) ?_
    refine XS.aloadN X4.here hx rfl (hb hby d8_26) rfl rfl ?_
    refine XS.iloadN X4.here hx rfl (hb hby d8_27) rfl ?_
    refine XS.iload X4.here hx rfl (hb hby d8_28) rfl ?_
    refine XS.i2b X4.here hx rfl (hb hby d8_30) rfl ?_
    show Steps p.tables e below (T4.setTop (mkF m 31 #[vA a1, vI (2 : Int32), vA a2, vI (2 : Int32), vI (4 : Int32), vI (2 : Int32), vI x_a1_2] [(.int (x_a1_2.toInt8.toInt32)), (.int (2 : Int32)), (.ref a2)])) _
    refine st5 _ ?_
    refine XS.iinc X5.here hx rfl (hb hby d8_32) rfl (l' := #[vA a1, vI (3 : Int32), vA a2, vI (2 : Int32), vI (4 : Int32), vI (2 : Int32), vI x_a1_2]) rfl ?_
    refine XS.iinc X5.here hx rfl (hb hby d8_35) rfl (l' := #[vA a1, vI (3 : Int32), vA a2, vI (3 : Int32), vI (4 : Int32), vI (2 : Int32), vI x_a1_2]) rfl ?_
    refine XS.iinc X5.here hx rfl (hb hby d8_38) rfl (l' := #[vA a1, vI (3 : Int32), vA a2, vI (3 : Int32), vI (4 : Int32), vI (3 : Int32), vI x_a1_2]) rfl ?_
    show Steps p.tables e below (T5.setTop (mkF m 41 #[vA a1, vI (3 : Int32), vA a2, vI (3 : Int32), vI (4 : Int32), vI (3 : Int32), vI x_a1_2] [])) _
    refine XS.goto X5.here hx rfl (pc0 := 41) (pc' := 3) rfl (hb hby d8_41) (by decide) (by decide) ?_
    refine XS.iload X5.here hx rfl (hb hby d8_3) rfl ?_
    refine XS.iload X5.here hx rfl (hb hby d8_5) rfl ?_
    show Steps p.tables e below (T5.setTop (mkF m 7 #[vA a1, vI (3 : Int32), vA a2, vI (3 : Int32), vI (4 : Int32), vI (3 : Int32), vI x_a1_2] [(.int (4 : Int32)), (.int (3 : Int32))])) _
    refine XS.icmpNo X5.here hx rfl (hb hby d8_7) rfl (tlt (by decide : (3 : Int32) < (4 : Int32))).2.1 ?_
    refine XS.aloadN X5.here hx rfl (hb hby d8_10) rfl rfl ?_
    refine XS.iloadN X5.here hx rfl (hb hby d8_11) rfl ?_
    show Steps p.tables e below (T5.setTop (mkF m 12 #[vA a1, vI (3 : Int32), vA a2, vI (3 : Int32), vI (4 : Int32), vI (3 : Int32), vI x_a1_2] [(.int (3 : Int32)), (.ref a1)])) _
    refine X5.caload hx (j := (3 : Int32)) (v := (.int x_a1_3)) (by rw [e5]; exact Ar_a1_9.1) (State.isArrayOf_alike hZ.alike Ar_a1_9.2.1) Ar_a1_9.2.2 hin_a1_9 hat_a1_9 (g := (mkF m 12 #[vA a1, vI (3 : Int32), vA a2, vI (3 : Int32), vI (4 : Int32), vI (3 : Int32), vI x_a1_2] [(.int (3 : Int32)), (.ref a1)])) rfl rfl (hb hby d8_12) _ ?_
    refine XS.istore X5.here hx rfl (hb hby d8_13) rfl (l' := #[vA a1, vI (3 : Int32), vA a2, vI (3 : Int32), vI (4 : Int32), vI (3 : Int32), vI x_a1_3]) rfl ?_
    refine XS.iload X5.here hx rfl (hb hby d8_15) rfl ?_
    refine XS.sipush X5.here hx rfl (hb hby d8_17) ?_
    show Steps p.tables e below (T5.setTop (mkF m 20 #[vA a1, vI (3 : Int32), vA a2, vI (3 : Int32), vI (4 : Int32), vI (3 : Int32), vI x_a1_3] [(.int (255 : Int32)), (.int x_a1_3)])) _
    refine XS.icmpYes X5.here hx rfl (pc0 := 20) (pc' := 26) rfl (hb hby d8_20) rfl (flt hc20''').2.2.2 (by decide) (by decide) ?_
    refine XS.aloadN X5.here hx rfl (hb hby d8_26) rfl rfl ?_
    refine XS.iloadN X5.here hx rfl (hb hby d8_27) rfl ?_
    refine XS.iload X5.here hx rfl (hb hby d8_28) rfl ?_
    refine XS.i2b X5.here hx rfl (hb hby d8_30) rfl ?_
    show Steps p.tables e below (T5.setTop (mkF m 31 #[vA a1, vI (3 : Int32), vA a2, vI (3 : Int32), vI (4 : Int32), vI (3 : Int32), vI x_a1_3] [(.int (x_a1_3.toInt8.toInt32)), (.int (3 : Int32)), (.ref a2)])) _
    refine st6 _ ?_
    refine XS.iinc X6.here hx rfl (hb hby d8_32) rfl (l' := #[vA a1, vI (4 : Int32), vA a2, vI (3 : Int32), vI (4 : Int32), vI (3 : Int32), vI x_a1_3]) rfl ?_
    refine XS.iinc X6.here hx rfl (hb hby d8_35) rfl (l' := #[vA a1, vI (4 : Int32), vA a2, vI (4 : Int32), vI (4 : Int32), vI (3 : Int32), vI x_a1_3]) rfl ?_
    refine XS.iinc X6.here hx rfl (hb hby d8_38) rfl (l' := #[vA a1, vI (4 : Int32), vA a2, vI (4 : Int32), vI (4 : Int32), vI (4 : Int32), vI x_a1_3]) rfl ?_
    show Steps p.tables e below (T6.setTop (mkF m 41 #[vA a1, vI (4 : Int32), vA a2, vI (4 : Int32), vI (4 : Int32), vI (4 : Int32), vI x_a1_3] [])) _
    refine XS.goto X6.here hx rfl (pc0 := 41) (pc' := 3) rfl (hb hby d8_41) (by decide) (by decide) ?_
    refine XS.iload X6.here hx rfl (hb hby d8_3) rfl ?_
    refine XS.iload X6.here hx rfl (hb hby d8_5) rfl ?_
    show Steps p.tables e below (T6.setTop (mkF m 7 #[vA a1, vI (4 : Int32), vA a2, vI (4 : Int32), vI (4 : Int32), vI (4 : Int32), vI x_a1_3] [(.int (4 : Int32)), (.int (4 : Int32))])) _
    refine XS.icmpYes X6.here hx rfl (pc0 := 7) (pc' := 44) rfl (hb hby d8_7) rfl (flt (fun q => Int32.lt_irrefl q : ¬ ((4 : Int32) < (4 : Int32)))).2.1 (by decide) (by decide) ?_
    refine XS.iload X6.here hx rfl (hb hby d8_44) rfl ?_
    show Steps p.tables e below (T6.setTop (mkF m 46 #[vA a1, vI (4 : Int32), vA a2, vI (4 : Int32), vI (4 : Int32), vI (4 : Int32), vI x_a1_3] [(.int (4 : Int32))])) _
    exact retI X6 hx Bd.returns (hb hby d8_46) hr
  · show Q_rm8_4_4 Z a1 a2 k_a1 x_a1_0 x_a1_1 x_a1_2 x_a1_3 k_a2 x_a2_0 x_a2_1 x_a2_2 x_a2_3 h0 n0 _ T6.heap _
    rw [e6]
    exact ⟨rfl, N6, (((((Keep.refl h0 [a2]).wr W3 (Or.inl (List.mem_of_getElem? (i := 0) rfl))).wr W4 (Or.inl (List.mem_of_getElem? (i := 0) rfl))).wr W5 (Or.inl (List.mem_of_getElem? (i := 0) rfl))).wr W6 (Or.inl (List.mem_of_getElem? (i := 0) rfl))), V6⟩
def t7_3 (s_HI_BYTE_SHIFT : Int32) (s_LO_BYTE_SHIFT : Int32) (x_a1_3 : Int32) : Int32 := (nar .char (t14_7 s_HI_BYTE_SHIFT s_LO_BYTE_SHIFT (nar .byte ((x_a1_3 >>> (s_HI_BYTE_SHIFT &&& 31)).toInt8.toInt32)) (nar .byte ((x_a1_3 >>> (s_LO_BYTE_SHIFT &&& 31)).toInt8.toInt32))))
def Q_rm7_4 (Z : State) (a1 : Addr) (s__assertionsDisabled : Int32) (s_HI_BYTE_SHIFT : Int32) (s_LO_BYTE_SHIFT : Int32) (k_a1 : ClassId) (x_a1_0 : Int32) (x_a1_1 : Int32) (x_a1_2 : Int32) (x_a1_3 : Int32) (h0 : Heap) (n0 : Nat) (v : Option Value) (h : Heap) (L : List Loc) : Prop := ∃ b : Addr, ∃ k : ClassId, ∃ zz : Int32, ∃ vs : List Value, v = some (.ref b) ∧ Fr n0 L ∧ Keep h0 h [] ∧ h0.size ≤ b ∧ Arv Z h b k .byte zz vs (.int (0 : Int32)) ∧ (zz = (4 : Int32) ∨ zz = (8 : Int32))
set_option maxRecDepth 65536 in
set_option maxHeartbeats 40000000 in
theorem rm7_4_k0 (l : Launch) (Z : State) (a0 : Array Value) (hw : ∀ d ∈ tables_1, d.before a0 Z = true) (ws : List Jvm.Cond) (a1 : Addr) (s__assertionsDisabled : Int32) (s_HI_BYTE_SHIFT : Int32) (s_LO_BYTE_SHIFT : Int32) (k_a1 : ClassId) (x_a1_0 : Int32) (x_a1_1 : Int32) (x_a1_2 : Int32) (x_a1_3 : Int32) (h0 : Heap) (n0 : Nat) (Z0 : n0 ≤ h0.size) (hasd : ¬ (s__assertionsDisabled = (0 : Int32))) (hhi : s_HI_BYTE_SHIFT = (0 : Int32)) (hlo : s_LO_BYTE_SHIFT = (8 : Int32)) (hch0 : nar .char x_a1_0 = x_a1_0) (hch1 : nar .char x_a1_1 = x_a1_1) (hch2 : nar .char x_a1_2 = x_a1_2) (hch3 : nar .char x_a1_3 = x_a1_3) (S__assertionsDisabled : Sta Z h0 "java/lang/StringUTF16" "$assertionsDisabled" "Z" (.int s__assertionsDisabled)) (S_HI_BYTE_SHIFT : Sta Z h0 "java/lang/StringUTF16" "HI_BYTE_SHIFT" "I" (.int s_HI_BYTE_SHIFT)) (S_LO_BYTE_SHIFT : Sta Z h0 "java/lang/StringUTF16" "LO_BYTE_SHIFT" "I" (.int s_LO_BYTE_SHIFT)) (V_a1 : Arv Z h0 a1 k_a1 .char (4 : Int32) [(.int x_a1_0), (.int x_a1_1), (.int x_a1_2), (.int x_a1_3)] (.int (0 : Int32))) (hhc20_9 : (255 : Int32) < x_a1_0) :
    MetFree l (⟨"java/lang/StringUTF16", "compress", "([CII)[B"⟩ : MethodName) (head1 (Jvm.Cond.code (⟨"java/lang/StringUTF16", "compress", "([CII)[B"⟩ : MethodName) jdk_52_method_16_code 6 (some (.array .byte)) :: ws) ({ frames := 3, cells := 2, slots := 12, locals := 40 } : Room)) (fun a U => a = #[(.ref a1), (.int (0 : Int32)), (.int (4 : Int32))] ∧ Z.Warmed39 U.vm ∧ U.heap = h0) (fun _ _ _ _ _ => True) (fun _ U o U' => ∃ v L, o = .returned v ∧ Q_rm7_4 Z a1 s__assertionsDisabled s_HI_BYTE_SHIFT s_LO_BYTE_SHIFT k_a1 x_a1_0 x_a1_1 x_a1_2 x_a1_3 h0 n0 v U'.heap L ∧ FrameEnd U o U' L ({ frames := 3, cells := 2, slots := 12, locals := 40 } : Room).cells ({ frames := 3, cells := 2, slots := 12, locals := 40 } : Room).slots) := by
  have hi : ∀ (i : Nat) {d : Jvm.Cond}, tables_1[i]? = some d → d.before a0 Z = true := fun i d h => hw d (List.mem_of_getElem? h)
  refine MetFree.of_bodySF (plainFor_of_name pn_7) hisR ?_
  intro p e s m args below meth c s₁ Bd hml0 hP hK
  obtain ⟨rfl, hZ, hh⟩ := hP
  have hx := Bd.exec
  have hby := Bd.bytes
  have hml : c.maxLocals = 6 := hml0
  have hown : s.vm.findClass "java/lang/StringUTF16" = some m.cls := findClass_of_methodNamed Bd.named
  have hnm := (name_of_methodNamed Bd.named Bd.method).1
  have X0 : Stand p l e ({ frames := 3, cells := 2, slots := 12, locals := 40 } : Room) s m #[(.ref a1), (.int (0 : Int32)), (.int (4 : Int32))] below meth c s₁ [] 0 0 := Stand.of_body Bd
  have e0 : s₁.heap = h0 := by rw [← hh, Bd.state]; rfl
  have N0 := Fr.nil n0
  have pre0 : ∀ t, Steps p.tables e below (s₁.setTop (mkF m 0 #[vA a1, vI (0 : Int32), vI (4 : Int32), vU, vU, vU] [])) t → Steps p.tables e below (s₁.setTop (entryFrame m #[(.ref a1), (.int (0 : Int32)), (.int (4 : Int32))] 6)) t := fun t k => castTop (ef_7 m a1 (0 : Int32) (4 : Int32)) k
  obtain ⟨T2, h2, k2, X2, e2, E2, A2, st2⟩ := newP X0 hx hZ (hi 17 rfl) e0 (g := (mkF m 1 #[vA a1, vI (0 : Int32), vI (4 : Int32), vU, vU, vU] [(.int (4 : Int32))])) rfl (hb hby d7_1) rfl (by decide) (cap := 4) (by decide) (by decide) (by decide) (by decide)
  obtain ⟨b2, g2⟩ : ∃ z, z = h0.size := ⟨_, rfl⟩
  rw [← g2] at A2 st2
  have g_b2 : n0 ≤ b2 := Nat.le_trans Z0 (Nat.le_of_eq g2.symm)
  have sz_b2 : h0.size ≤ b2 := Nat.le_trans (Nat.le_refl h0.size) (Nat.le_of_eq g2.symm)
  have V_b2 : Arv Z h2 b2 k2 .byte (4 : Int32) [(.int (0 : Int32)), (.int (0 : Int32)), (.int (0 : Int32)), (.int (0 : Int32))] (.int (0 : Int32)) := (Arv.new A2 (by decide)).pad (pad_rep [] (.int (0 : Int32)) 4)
  have f0 := (V_a1.ext E2)
  obtain ⟨_, _, ⟨T3, L3, k3, n3⟩, -, X3, ⟨Lc3, hQ3, l3, y3, z3⟩, st3⟩ := Jvm.LawKit.callS X2 hx (y := (⟨"java/lang/StringUTF16", "compress", "([CI[BII)I"⟩ : MethodName)) hown (mvT hZ (hi 47 rfl)) (mvT hZ (hi 48 rfl)) (mvT hZ (hi 45 rfl)) (mvT hZ (hi 49 rfl)) (by decide) (backOf (W := 0) (rm8_4_0 l Z a0 hw [] a1 b2 k_a1 x_a1_0 x_a1_1 x_a1_2 x_a1_3 k2 (0 : Int32) (0 : Int32) (0 : Int32) (0 : Int32) h2 n0 (Nat.le_trans Z0 E2.1) f0 V_b2 hhc20_9) hZ (hi 49 rfl) (hi 45 rfl) (by decide) (by decide)) (g := (mkF m 9 #[vA a1, vI (0 : Int32), vI (4 : Int32), vA b2, vU, vU] [(.int (4 : Int32)), (.int (0 : Int32)), (.ref b2), (.int (0 : Int32)), (.ref a1)])) rfl (by rw [hml]; rfl) (argsL := [(.ref a1), (.int (0 : Int32)), (.ref b2), (.int (0 : Int32)), (.int (4 : Int32))]) (rest := []) (lenOf pd__28_5bCI_5bBII_29I rfl) rfl (by show 2 * 0 + _ ≤ _; exact Nat.le_of_eq rfl) (hb hby d7_9) (fun _ _ => ⟨rfl, e2, (by decide : 1 + 0 ≤ _), (by decide : 4 + 0 ≤ _)⟩)
  dsimp only [Pt.U, Pt.locs, Pt.cells, Pt.slots] at X3 l3 y3 z3 st3 hQ3
  subst l3 y3 z3
  obtain ⟨rfl, N3q, e3⟩ := hQ3
  have N3 := Fr.app N0 N3q
  have f1 := (S__assertionsDisabled.ext E2)
  have f2 := (S_HI_BYTE_SHIFT.ext E2)
  have f3 := (S_LO_BYTE_SHIFT.ext E2)
  obtain ⟨_, _, ⟨T4, L4, k4, n4⟩, -, X4, ⟨Lc4, hQ4, l4, y4, z4⟩, st4⟩ := Jvm.LawKit.callS X3 hx (y := (⟨"java/lang/StringUTF16", "toBytes", "([CII)[B"⟩ : MethodName)) hown (mvT hZ (hi 53 rfl)) (mvT hZ (hi 54 rfl)) (mvT hZ (hi 45 rfl)) (mvT hZ (hi 55 rfl)) (by decide) (backOf (W := 0) (rm10_4 l Z a0 hw [] a1 s__assertionsDisabled s_HI_BYTE_SHIFT s_LO_BYTE_SHIFT k_a1 x_a1_0 x_a1_1 x_a1_2 x_a1_3 h2 n0 (Nat.le_trans Z0 E2.1) hasd f1 f2 f3 f0) hZ (hi 55 rfl) (hi 45 rfl) (by decide) (by decide)) (g := (mkF m 23 #[vA a1, vI (0 : Int32), vI (4 : Int32), vA b2, vI (0 : Int32), vU] [(.int (4 : Int32)), (.int (0 : Int32)), (.ref a1)])) rfl (by rw [hml]; rfl) (argsL := [(.ref a1), (.int (0 : Int32)), (.int (4 : Int32))]) (rest := []) (lenOf pd__28_5bCII_29_5bB rfl) rfl (by show 2 * 0 + _ ≤ _; exact Nat.le_of_eq rfl) (hb hby d7_23) (fun _ _ => ⟨rfl, e3, (by decide : 1 + 1 ≤ _), (by decide : 4 + 8 ≤ _)⟩)
  dsimp only [Pt.U, Pt.locs, Pt.cells, Pt.slots] at X4 l4 y4 z4 st4 hQ4
  subst l4 y4 z4
  obtain ⟨b2_2_4, ⟨k2_2_4, ⟨rfl, N4q, K4, i4_0, i4_1⟩⟩⟩ := hQ4
  have N4 := Fr.app N3 N4q
  have sz_b2_2_4 : h0.size ≤ b2_2_4 := Nat.le_trans (Nat.le_trans (Nat.le_refl h0.size) E2.1) i4_0
  have g_b2_2_4 : n0 ≤ b2_2_4 := Nat.le_trans Z0 sz_b2_2_4
  have f4 := (own_sta_keep f1 K4 own_q0)
  have f5 := (own_sta_keep f2 K4 own_q0)
  have f6 := (own_sta_keep f3 K4 own_q0)
  obtain ⟨_, _, ⟨T5, L5, k5, n5⟩, -, X5, ⟨Lc5, hQ5, l5, y5, z5⟩, st5⟩ := Jvm.LawKit.callS X4 hx (y := (⟨"java/lang/StringUTF16", "getChar", "([BI)C"⟩ : MethodName)) hown (mvT hZ (hi 69 rfl)) (mvT hZ (hi 70 rfl)) (mvT hZ (hi 45 rfl)) (mvT hZ (hi 71 rfl)) (by decide) (backOf (W := 0) (rm14_4_0 l Z a0 hw [] b2_2_4 s__assertionsDisabled s_HI_BYTE_SHIFT s_LO_BYTE_SHIFT k2_2_4 (nar .byte ((x_a1_0 >>> (s_HI_BYTE_SHIFT &&& 31)).toInt8.toInt32)) (nar .byte ((x_a1_0 >>> (s_LO_BYTE_SHIFT &&& 31)).toInt8.toInt32)) (nar .byte ((x_a1_1 >>> (s_HI_BYTE_SHIFT &&& 31)).toInt8.toInt32)) (nar .byte ((x_a1_1 >>> (s_LO_BYTE_SHIFT &&& 31)).toInt8.toInt32)) (nar .byte ((x_a1_2 >>> (s_HI_BYTE_SHIFT &&& 31)).toInt8.toInt32)) (nar .byte ((x_a1_2 >>> (s_LO_BYTE_SHIFT &&& 31)).toInt8.toInt32)) (nar .byte ((x_a1_3 >>> (s_HI_BYTE_SHIFT &&& 31)).toInt8.toInt32)) (nar .byte ((x_a1_3 >>> (s_LO_BYTE_SHIFT &&& 31)).toInt8.toInt32)) T4.heap n0 (Nat.le_trans (Nat.le_trans Z0 E2.1) K4.1) hasd f4 f5 f6 i4_1) hZ (hi 71 rfl) (hi 45 rfl) (by decide) (by decide)) (g := (mkF m 32 #[vA a1, vI (0 : Int32), vI (4 : Int32), vA b2, vI (0 : Int32), vA b2_2_4] [(.int (0 : Int32)), (.ref b2_2_4)])) rfl (by rw [hml]; rfl) (argsL := [(.ref b2_2_4), (.int (0 : Int32))]) (rest := []) (lenOf pd__28_5bBI_29C rfl) rfl (by show 2 * 0 + _ ≤ _; exact Nat.le_of_eq rfl) (hb hby d7_32) (fun _ _ => ⟨rfl, rfl, (by decide : 2 + 0 ≤ _), (by decide : 12 + 0 ≤ _)⟩)
  dsimp only [Pt.U, Pt.locs, Pt.cells, Pt.slots] at X5 l5 y5 z5 st5 hQ5
  subst l5 y5 z5
  obtain ⟨rfl, N5q, e5⟩ := hQ5
  have N5 := Fr.app N4 N5q
  obtain ⟨fs, hr, hrun, hended, hW, hsame⟩ := X5.leave (v := some (.ref b2_2_4)) (fun h => by rw [Bd.returns] at h; cases h)
  refine ⟨_, _, pre0 _ ?_, hrun, hended, _, _, rfl, ?_, ⟨_, rfl⟩, hW, hsame.mono (by decide) (by decide)⟩
  · show Steps p.tables e below (s₁.setTop (mkF m 0 #[vA a1, vI (0 : Int32), vI (4 : Int32), vU, vU, vU] [])) _
    refine XS.iloadN X0.here hx rfl (hb hby d7_0) rfl ?_
    show Steps p.tables e below (s₁.setTop (mkF m 1 #[vA a1, vI (0 : Int32), vI (4 : Int32), vU, vU, vU] [(.int (4 : Int32))])) _
    refine st2 _ ?_
    refine XS.astoreN X2.here hx rfl (hb hby d7_3) rfl rfl (l' := #[vA a1, vI (0 : Int32), vI (4 : Int32), vA b2, vU, vU]) rfl ?_
    refine XS.aloadN X2.here hx rfl (hb hby d7_4) rfl rfl ?_
    refine XS.iloadN X2.here hx rfl (hb hby d7_5) rfl ?_
    refine XS.aloadN X2.here hx rfl (hb hby d7_6) rfl rfl ?_
    refine XS.iconst X2.here hx rfl (hb hby d7_7) ?_
    refine XS.iloadN X2.here hx rfl (hb hby d7_8) rfl ?_
    show Steps p.tables e below (T2.setTop (mkF m 9 #[vA a1, vI (0 : Int32), vI (4 : Int32), vA b2, vU, vU] [(.int (4 : Int32)), (.int (0 : Int32)), (.ref b2), (.int (0 : Int32)), (.ref a1)])) _
    refine st3 _ ?_
    refine XS.istore X3.here hx rfl (hb hby d7_12) rfl (l' := #[vA a1, vI (0 : Int32), vI (4 : Int32), vA b2, vI (0 : Int32), vU]) rfl ?_
    refine XS.iload X3.here hx rfl (hb hby d7_14) rfl ?_
    refine XS.iloadN X3.here hx rfl (hb hby d7_16) rfl ?_
    show Steps p.tables e below (T3.setTop (mkF m 17 #[vA a1, vI (0 : Int32), vI (4 : Int32), vA b2, vI (0 : Int32), vU] [(.int (4 : Int32)), (.int (0 : Int32))])) _
    refine XS.icmpNo X3.here hx rfl (hb hby d7_17) rfl (feq (by decide : ¬ ((0 : Int32) = (4 : Int32)))).1 ?_
    refine XS.aloadN X3.here hx rfl (hb hby d7_20) rfl rfl ?_
    refine XS.iloadN X3.here hx rfl (hb hby d7_21) rfl ?_
    refine XS.iloadN X3.here hx rfl (hb hby d7_22) rfl ?_
    show Steps p.tables e below (T3.setTop (mkF m 23 #[vA a1, vI (0 : Int32), vI (4 : Int32), vA b2, vI (0 : Int32), vU] [(.int (4 : Int32)), (.int (0 : Int32)), (.ref a1)])) _
    refine st4 _ ?_
    refine XS.astore X4.here hx rfl (hb hby d7_26) rfl rfl (l' := #[vA a1, vI (0 : Int32), vI (4 : Int32), vA b2, vI (0 : Int32), vA b2_2_4]) rfl ?_
    refine XS.aload X4.here hx rfl (hb hby d7_28) rfl rfl ?_
    refine XS.iload X4.here hx rfl (hb hby d7_30) rfl ?_
    show Steps p.tables e below (T4.setTop (mkF m 32 #[vA a1, vI (0 : Int32), vI (4 : Int32), vA b2, vI (0 : Int32), vA b2_2_4] [(.int (0 : Int32)), (.ref b2_2_4)])) _
    refine st5 _ ?_
    refine XS.sipush X5.here hx rfl (hb hby d7_35) ?_
    show Steps p.tables e below (T5.setTop (mkF m 38 #[vA a1, vI (0 : Int32), vI (4 : Int32), vA b2, vI (0 : Int32), vA b2_2_4] [(.int (255 : Int32)), (.int (nar .char (t14_1 s_HI_BYTE_SHIFT s_LO_BYTE_SHIFT (nar .byte ((x_a1_0 >>> (s_HI_BYTE_SHIFT &&& 31)).toInt8.toInt32)) (nar .byte ((x_a1_0 >>> (s_LO_BYTE_SHIFT &&& 31)).toInt8.toInt32)))))])) _
    refine XS.icmpYes X5.here hx rfl (pc0 := 38) (pc' := 54) rfl (hb hby d7_38) rfl (tlt (show (255 : Int32) < (t7_0 s_HI_BYTE_SHIFT s_LO_BYTE_SHIFT x_a1_0) from (own_rt2 _ _ _ hhi hlo hch0 hhc20_9))).2.2.1 (by decide) (by decide) ?_
    refine XS.aload X5.here hx rfl (hb hby d7_54) rfl rfl ?_
    show Steps p.tables e below (T5.setTop (mkF m 56 #[vA a1, vI (0 : Int32), vI (4 : Int32), vA b2, vI (0 : Int32), vA b2_2_4] [(.ref b2_2_4)])) _
    jvm_step X5.here [X5.here.top, hx, (hb hby d7_56), X5.method', Bd.returns, Value.isRef, FieldType.isReference]
    first | (intro acts; rw [hr _ acts rfl rfl rfl]) | rw [hr _ _ rfl rfl rfl]
    exact Steps.refl _
  · show Q_rm7_4 Z a1 s__assertionsDisabled s_HI_BYTE_SHIFT s_LO_BYTE_SHIFT k_a1 x_a1_0 x_a1_1 x_a1_2 x_a1_3 h0 n0 _ T5.heap _
    rw [e5]
    exact ⟨b2_2_4, ⟨k2_2_4, ⟨(8 : Int32), ⟨[(.int (nar .byte ((x_a1_0 >>> (s_HI_BYTE_SHIFT &&& 31)).toInt8.toInt32))), (.int (nar .byte ((x_a1_0 >>> (s_LO_BYTE_SHIFT &&& 31)).toInt8.toInt32))), (.int (nar .byte ((x_a1_1 >>> (s_HI_BYTE_SHIFT &&& 31)).toInt8.toInt32))), (.int (nar .byte ((x_a1_1 >>> (s_LO_BYTE_SHIFT &&& 31)).toInt8.toInt32))), (.int (nar .byte ((x_a1_2 >>> (s_HI_BYTE_SHIFT &&& 31)).toInt8.toInt32))), (.int (nar .byte ((x_a1_2 >>> (s_LO_BYTE_SHIFT &&& 31)).toInt8.toInt32))), (.int (nar .byte ((x_a1_3 >>> (s_HI_BYTE_SHIFT &&& 31)).toInt8.toInt32))), (.int (nar .byte ((x_a1_3 >>> (s_LO_BYTE_SHIFT &&& 31)).toInt8.toInt32)))], ⟨rfl, N5, (((Keep.refl h0 []).ext E2).trans K4 (fun _ q => nomatch q)), sz_b2_2_4, i4_1, Or.inr rfl⟩⟩⟩⟩⟩
set_option maxRecDepth 65536 in
set_option maxHeartbeats 40000000 in
theorem rm7_4_k1 (l : Launch) (Z : State) (a0 : Array Value) (hw : ∀ d ∈ tables_1, d.before a0 Z = true) (ws : List Jvm.Cond) (a1 : Addr) (s__assertionsDisabled : Int32) (s_HI_BYTE_SHIFT : Int32) (s_LO_BYTE_SHIFT : Int32) (k_a1 : ClassId) (x_a1_0 : Int32) (x_a1_1 : Int32) (x_a1_2 : Int32) (x_a1_3 : Int32) (h0 : Heap) (n0 : Nat) (Z0 : n0 ≤ h0.size) (hasd : ¬ (s__assertionsDisabled = (0 : Int32))) (hhi : s_HI_BYTE_SHIFT = (0 : Int32)) (hlo : s_LO_BYTE_SHIFT = (8 : Int32)) (hch0 : nar .char x_a1_0 = x_a1_0) (hch1 : nar .char x_a1_1 = x_a1_1) (hch2 : nar .char x_a1_2 = x_a1_2) (hch3 : nar .char x_a1_3 = x_a1_3) (S__assertionsDisabled : Sta Z h0 "java/lang/StringUTF16" "$assertionsDisabled" "Z" (.int s__assertionsDisabled)) (S_HI_BYTE_SHIFT : Sta Z h0 "java/lang/StringUTF16" "HI_BYTE_SHIFT" "I" (.int s_HI_BYTE_SHIFT)) (S_LO_BYTE_SHIFT : Sta Z h0 "java/lang/StringUTF16" "LO_BYTE_SHIFT" "I" (.int s_LO_BYTE_SHIFT)) (V_a1 : Arv Z h0 a1 k_a1 .char (4 : Int32) [(.int x_a1_0), (.int x_a1_1), (.int x_a1_2), (.int x_a1_3)] (.int (0 : Int32))) (hhc20_9 : ¬ ((255 : Int32) < x_a1_0)) (hhc20'_9 : (255 : Int32) < x_a1_1) :
    MetFree l (⟨"java/lang/StringUTF16", "compress", "([CII)[B"⟩ : MethodName) (head1 (Jvm.Cond.code (⟨"java/lang/StringUTF16", "compress", "([CII)[B"⟩ : MethodName) jdk_52_method_16_code 6 (some (.array .byte)) :: ws) ({ frames := 3, cells := 2, slots := 12, locals := 40 } : Room)) (fun a U => a = #[(.ref a1), (.int (0 : Int32)), (.int (4 : Int32))] ∧ Z.Warmed39 U.vm ∧ U.heap = h0) (fun _ _ _ _ _ => True) (fun _ U o U' => ∃ v L, o = .returned v ∧ Q_rm7_4 Z a1 s__assertionsDisabled s_HI_BYTE_SHIFT s_LO_BYTE_SHIFT k_a1 x_a1_0 x_a1_1 x_a1_2 x_a1_3 h0 n0 v U'.heap L ∧ FrameEnd U o U' L ({ frames := 3, cells := 2, slots := 12, locals := 40 } : Room).cells ({ frames := 3, cells := 2, slots := 12, locals := 40 } : Room).slots) := by
  have hi : ∀ (i : Nat) {d : Jvm.Cond}, tables_1[i]? = some d → d.before a0 Z = true := fun i d h => hw d (List.mem_of_getElem? h)
  refine MetFree.of_bodySF (plainFor_of_name pn_7) hisR ?_
  intro p e s m args below meth c s₁ Bd hml0 hP hK
  obtain ⟨rfl, hZ, hh⟩ := hP
  have hx := Bd.exec
  have hby := Bd.bytes
  have hml : c.maxLocals = 6 := hml0
  have hown : s.vm.findClass "java/lang/StringUTF16" = some m.cls := findClass_of_methodNamed Bd.named
  have hnm := (name_of_methodNamed Bd.named Bd.method).1
  have X0 : Stand p l e ({ frames := 3, cells := 2, slots := 12, locals := 40 } : Room) s m #[(.ref a1), (.int (0 : Int32)), (.int (4 : Int32))] below meth c s₁ [] 0 0 := Stand.of_body Bd
  have e0 : s₁.heap = h0 := by rw [← hh, Bd.state]; rfl
  have N0 := Fr.nil n0
  have pre0 : ∀ t, Steps p.tables e below (s₁.setTop (mkF m 0 #[vA a1, vI (0 : Int32), vI (4 : Int32), vU, vU, vU] [])) t → Steps p.tables e below (s₁.setTop (entryFrame m #[(.ref a1), (.int (0 : Int32)), (.int (4 : Int32))] 6)) t := fun t k => castTop (ef_7 m a1 (0 : Int32) (4 : Int32)) k
  obtain ⟨T2, h2, k2, X2, e2, E2, A2, st2⟩ := newP X0 hx hZ (hi 17 rfl) e0 (g := (mkF m 1 #[vA a1, vI (0 : Int32), vI (4 : Int32), vU, vU, vU] [(.int (4 : Int32))])) rfl (hb hby d7_1) rfl (by decide) (cap := 4) (by decide) (by decide) (by decide) (by decide)
  obtain ⟨b2, g2⟩ : ∃ z, z = h0.size := ⟨_, rfl⟩
  rw [← g2] at A2 st2
  have g_b2 : n0 ≤ b2 := Nat.le_trans Z0 (Nat.le_of_eq g2.symm)
  have sz_b2 : h0.size ≤ b2 := Nat.le_trans (Nat.le_refl h0.size) (Nat.le_of_eq g2.symm)
  have V_b2 : Arv Z h2 b2 k2 .byte (4 : Int32) [(.int (0 : Int32)), (.int (0 : Int32)), (.int (0 : Int32)), (.int (0 : Int32))] (.int (0 : Int32)) := (Arv.new A2 (by decide)).pad (pad_rep [] (.int (0 : Int32)) 4)
  have f0 := (V_a1.ext E2)
  obtain ⟨_, _, ⟨T3, L3, k3, n3⟩, -, X3, ⟨Lc3, hQ3, l3, y3, z3⟩, st3⟩ := Jvm.LawKit.callS X2 hx (y := (⟨"java/lang/StringUTF16", "compress", "([CI[BII)I"⟩ : MethodName)) hown (mvT hZ (hi 47 rfl)) (mvT hZ (hi 48 rfl)) (mvT hZ (hi 45 rfl)) (mvT hZ (hi 49 rfl)) (by decide) (backOf (W := 0) (rm8_4_1 l Z a0 hw [] a1 b2 k_a1 x_a1_0 x_a1_1 x_a1_2 x_a1_3 k2 (0 : Int32) (0 : Int32) (0 : Int32) (0 : Int32) h2 n0 (Nat.le_trans Z0 E2.1) g_b2 f0 V_b2 hhc20_9 (Nat.ne_of_lt (Nat.lt_of_lt_of_le V_a1.lt (Nat.le_of_eq g2.symm))) hhc20'_9) hZ (hi 49 rfl) (hi 45 rfl) (by decide) (by decide)) (g := (mkF m 9 #[vA a1, vI (0 : Int32), vI (4 : Int32), vA b2, vU, vU] [(.int (4 : Int32)), (.int (0 : Int32)), (.ref b2), (.int (0 : Int32)), (.ref a1)])) rfl (by rw [hml]; rfl) (argsL := [(.ref a1), (.int (0 : Int32)), (.ref b2), (.int (0 : Int32)), (.int (4 : Int32))]) (rest := []) (lenOf pd__28_5bCI_5bBII_29I rfl) rfl (by show 2 * 0 + _ ≤ _; exact Nat.le_of_eq rfl) (hb hby d7_9) (fun _ _ => ⟨rfl, e2, (by decide : 1 + 0 ≤ _), (by decide : 4 + 0 ≤ _)⟩)
  dsimp only [Pt.U, Pt.locs, Pt.cells, Pt.slots] at X3 l3 y3 z3 st3 hQ3
  subst l3 y3 z3
  obtain ⟨rfl, N3q, K3, i3_0⟩ := hQ3
  have N3 := Fr.app N0 N3q
  have f1 := (own_sta_keep (S__assertionsDisabled.ext E2) K3 (own_qc (own_nstV V_b2) own_q0))
  have f2 := (own_sta_keep (S_HI_BYTE_SHIFT.ext E2) K3 (own_qc (own_nstV V_b2) own_q0))
  have f3 := (own_sta_keep (S_LO_BYTE_SHIFT.ext E2) K3 (own_qc (own_nstV V_b2) own_q0))
  have f4 := (f0.keep K3 (own_nm (Nat.ne_of_lt (Nat.lt_of_lt_of_le V_a1.lt (Nat.le_of_eq g2.symm))) own_n0))
  obtain ⟨_, _, ⟨T4, L4, k4, n4⟩, -, X4, ⟨Lc4, hQ4, l4, y4, z4⟩, st4⟩ := Jvm.LawKit.callS X3 hx (y := (⟨"java/lang/StringUTF16", "toBytes", "([CII)[B"⟩ : MethodName)) hown (mvT hZ (hi 53 rfl)) (mvT hZ (hi 54 rfl)) (mvT hZ (hi 45 rfl)) (mvT hZ (hi 55 rfl)) (by decide) (backOf (W := 0) (rm10_4 l Z a0 hw [] a1 s__assertionsDisabled s_HI_BYTE_SHIFT s_LO_BYTE_SHIFT k_a1 x_a1_0 x_a1_1 x_a1_2 x_a1_3 T3.heap n0 (Nat.le_trans (Nat.le_trans Z0 E2.1) K3.1) hasd f1 f2 f3 f4) hZ (hi 55 rfl) (hi 45 rfl) (by decide) (by decide)) (g := (mkF m 23 #[vA a1, vI (0 : Int32), vI (4 : Int32), vA b2, vI (1 : Int32), vU] [(.int (4 : Int32)), (.int (0 : Int32)), (.ref a1)])) rfl (by rw [hml]; rfl) (argsL := [(.ref a1), (.int (0 : Int32)), (.int (4 : Int32))]) (rest := []) (lenOf pd__28_5bCII_29_5bB rfl) rfl (by show 2 * 0 + _ ≤ _; exact Nat.le_of_eq rfl) (hb hby d7_23) (fun _ _ => ⟨rfl, rfl, (by decide : 1 + 1 ≤ _), (by decide : 4 + 8 ≤ _)⟩)
  dsimp only [Pt.U, Pt.locs, Pt.cells, Pt.slots] at X4 l4 y4 z4 st4 hQ4
  subst l4 y4 z4
  obtain ⟨b2_2_4, ⟨k2_2_4, ⟨rfl, N4q, K4, i4_0, i4_1⟩⟩⟩ := hQ4
  have N4 := Fr.app N3 N4q
  have sz_b2_2_4 : h0.size ≤ b2_2_4 := Nat.le_trans (Nat.le_trans (Nat.le_trans (Nat.le_refl h0.size) E2.1) K3.1) i4_0
  have g_b2_2_4 : n0 ≤ b2_2_4 := Nat.le_trans Z0 sz_b2_2_4
  have f5 := (own_sta_keep f1 K4 own_q0)
  have f6 := (own_sta_keep f2 K4 own_q0)
  have f7 := (own_sta_keep f3 K4 own_q0)
  obtain ⟨_, _, ⟨T5, L5, k5, n5⟩, -, X5, ⟨Lc5, hQ5, l5, y5, z5⟩, st5⟩ := Jvm.LawKit.callS X4 hx (y := (⟨"java/lang/StringUTF16", "getChar", "([BI)C"⟩ : MethodName)) hown (mvT hZ (hi 69 rfl)) (mvT hZ (hi 70 rfl)) (mvT hZ (hi 45 rfl)) (mvT hZ (hi 71 rfl)) (by decide) (backOf (W := 0) (rm14_4_1 l Z a0 hw [] b2_2_4 s__assertionsDisabled s_HI_BYTE_SHIFT s_LO_BYTE_SHIFT k2_2_4 (nar .byte ((x_a1_0 >>> (s_HI_BYTE_SHIFT &&& 31)).toInt8.toInt32)) (nar .byte ((x_a1_0 >>> (s_LO_BYTE_SHIFT &&& 31)).toInt8.toInt32)) (nar .byte ((x_a1_1 >>> (s_HI_BYTE_SHIFT &&& 31)).toInt8.toInt32)) (nar .byte ((x_a1_1 >>> (s_LO_BYTE_SHIFT &&& 31)).toInt8.toInt32)) (nar .byte ((x_a1_2 >>> (s_HI_BYTE_SHIFT &&& 31)).toInt8.toInt32)) (nar .byte ((x_a1_2 >>> (s_LO_BYTE_SHIFT &&& 31)).toInt8.toInt32)) (nar .byte ((x_a1_3 >>> (s_HI_BYTE_SHIFT &&& 31)).toInt8.toInt32)) (nar .byte ((x_a1_3 >>> (s_LO_BYTE_SHIFT &&& 31)).toInt8.toInt32)) T4.heap n0 (Nat.le_trans (Nat.le_trans (Nat.le_trans Z0 E2.1) K3.1) K4.1) hasd f5 f6 f7 i4_1) hZ (hi 71 rfl) (hi 45 rfl) (by decide) (by decide)) (g := (mkF m 32 #[vA a1, vI (0 : Int32), vI (4 : Int32), vA b2, vI (1 : Int32), vA b2_2_4] [(.int (1 : Int32)), (.ref b2_2_4)])) rfl (by rw [hml]; rfl) (argsL := [(.ref b2_2_4), (.int (1 : Int32))]) (rest := []) (lenOf pd__28_5bBI_29C rfl) rfl (by show 2 * 0 + _ ≤ _; exact Nat.le_of_eq rfl) (hb hby d7_32) (fun _ _ => ⟨rfl, rfl, (by decide : 2 + 0 ≤ _), (by decide : 12 + 0 ≤ _)⟩)
  dsimp only [Pt.U, Pt.locs, Pt.cells, Pt.slots] at X5 l5 y5 z5 st5 hQ5
  subst l5 y5 z5
  obtain ⟨rfl, N5q, e5⟩ := hQ5
  have N5 := Fr.app N4 N5q
  obtain ⟨fs, hr, hrun, hended, hW, hsame⟩ := X5.leave (v := some (.ref b2_2_4)) (fun h => by rw [Bd.returns] at h; cases h)
  refine ⟨_, _, pre0 _ ?_, hrun, hended, _, _, rfl, ?_, ⟨_, rfl⟩, hW, hsame.mono (by decide) (by decide)⟩
  · show Steps p.tables e below (s₁.setTop (mkF m 0 #[vA a1, vI (0 : Int32), vI (4 : Int32), vU, vU, vU] [])) _
    refine XS.iloadN X0.here hx rfl (hb hby d7_0) rfl ?_
    show Steps p.tables e below (s₁.setTop (mkF m 1 #[vA a1, vI (0 : Int32), vI (4 : Int32), vU, vU, vU] [(.int (4 : Int32))])) _
    refine st2 _ ?_
    refine XS.astoreN X2.here hx rfl (hb hby d7_3) rfl rfl (l' := #[vA a1, vI (0 : Int32), vI (4 : Int32), vA b2, vU, vU]) rfl ?_
    refine XS.aloadN X2.here hx rfl (hb hby d7_4) rfl rfl ?_
    refine XS.iloadN X2.here hx rfl (hb hby d7_5) rfl ?_
    refine XS.aloadN X2.here hx rfl (hb hby d7_6) rfl rfl ?_
    refine XS.iconst X2.here hx rfl (hb hby d7_7) ?_
    refine XS.iloadN X2.here hx rfl (hb hby d7_8) rfl ?_
    show Steps p.tables e below (T2.setTop (mkF m 9 #[vA a1, vI (0 : Int32), vI (4 : Int32), vA b2, vU, vU] [(.int (4 : Int32)), (.int (0 : Int32)), (.ref b2), (.int (0 : Int32)), (.ref a1)])) _
    refine st3 _ ?_
    refine XS.istore X3.here hx rfl (hb hby d7_12) rfl (l' := #[vA a1, vI (0 : Int32), vI (4 : Int32), vA b2, vI (1 : Int32), vU]) rfl ?_
    refine XS.iload X3.here hx rfl (hb hby d7_14) rfl ?_
    refine XS.iloadN X3.here hx rfl (hb hby d7_16) rfl ?_
    show Steps p.tables e below (T3.setTop (mkF m 17 #[vA a1, vI (0 : Int32), vI (4 : Int32), vA b2, vI (1 : Int32), vU] [(.int (4 : Int32)), (.int (1 : Int32))])) _
    refine XS.icmpNo X3.here hx rfl (hb hby d7_17) rfl (feq (by decide : ¬ ((1 : Int32) = (4 : Int32)))).1 ?_
    refine XS.aloadN X3.here hx rfl (hb hby d7_20) rfl rfl ?_
    refine XS.iloadN X3.here hx rfl (hb hby d7_21) rfl ?_
    refine XS.iloadN X3.here hx rfl (hb hby d7_22) rfl ?_
    show Steps p.tables e below (T3.setTop (mkF m 23 #[vA a1, vI (0 : Int32), vI (4 : Int32), vA b2, vI (1 : Int32), vU] [(.int (4 : Int32)), (.int (0 : Int32)), (.ref a1)])) _
    refine st4 _ ?_
    refine XS.astore X4.here hx rfl (hb hby d7_26) rfl rfl (l' := #[vA a1, vI (0 : Int32), vI (4 : Int32), vA b2, vI (1 : Int32), vA b2_2_4]) rfl ?_
    refine XS.aload X4.here hx rfl (hb hby d7_28) rfl rfl ?_
    refine XS.iload X4.here hx rfl (hb hby d7_30) rfl ?_
    show Steps p.tables e below (T4.setTop (mkF m 32 #[vA a1, vI (0 : Int32), vI (4 : Int32), vA b2, vI (1 : Int32), vA b2_2_4] [(.int (1 : Int32)), (.ref b2_2_4)])) _
    refine st5 _ ?_
    refine XS.sipush X5.here hx rfl (hb hby d7_35) ?_
    show Steps p.tables e below (T5.setTop (mkF m 38 #[vA a1, vI (0 : Int32), vI (4 : Int32), vA b2, vI (1 : Int32), vA b2_2_4] [(.int (255 : Int32)), (.int (nar .char (t14_3 s_HI_BYTE_SHIFT s_LO_BYTE_SHIFT (nar .byte ((x_a1_1 >>> (s_HI_BYTE_SHIFT &&& 31)).toInt8.toInt32)) (nar .byte ((x_a1_1 >>> (s_LO_BYTE_SHIFT &&& 31)).toInt8.toInt32)))))])) _
    refine XS.icmpYes X5.here hx rfl (pc0 := 38) (pc' := 54) rfl (hb hby d7_38) rfl (tlt (show (255 : Int32) < (t7_1 s_HI_BYTE_SHIFT s_LO_BYTE_SHIFT x_a1_1) from (own_rt2 _ _ _ hhi hlo hch1 hhc20'_9))).2.2.1 (by decide) (by decide) ?_
    refine XS.aload X5.here hx rfl (hb hby d7_54) rfl rfl ?_
    show Steps p.tables e below (T5.setTop (mkF m 56 #[vA a1, vI (0 : Int32), vI (4 : Int32), vA b2, vI (1 : Int32), vA b2_2_4] [(.ref b2_2_4)])) _
    jvm_step X5.here [X5.here.top, hx, (hb hby d7_56), X5.method', Bd.returns, Value.isRef, FieldType.isReference]
    first | (intro acts; rw [hr _ acts rfl rfl rfl]) | rw [hr _ _ rfl rfl rfl]
    exact Steps.refl _
  · show Q_rm7_4 Z a1 s__assertionsDisabled s_HI_BYTE_SHIFT s_LO_BYTE_SHIFT k_a1 x_a1_0 x_a1_1 x_a1_2 x_a1_3 h0 n0 _ T5.heap _
    rw [e5]
    exact ⟨b2_2_4, ⟨k2_2_4, ⟨(8 : Int32), ⟨[(.int (nar .byte ((x_a1_0 >>> (s_HI_BYTE_SHIFT &&& 31)).toInt8.toInt32))), (.int (nar .byte ((x_a1_0 >>> (s_LO_BYTE_SHIFT &&& 31)).toInt8.toInt32))), (.int (nar .byte ((x_a1_1 >>> (s_HI_BYTE_SHIFT &&& 31)).toInt8.toInt32))), (.int (nar .byte ((x_a1_1 >>> (s_LO_BYTE_SHIFT &&& 31)).toInt8.toInt32))), (.int (nar .byte ((x_a1_2 >>> (s_HI_BYTE_SHIFT &&& 31)).toInt8.toInt32))), (.int (nar .byte ((x_a1_2 >>> (s_LO_BYTE_SHIFT &&& 31)).toInt8.toInt32))), (.int (nar .byte ((x_a1_3 >>> (s_HI_BYTE_SHIFT &&& 31)).toInt8.toInt32))), (.int (nar .byte ((x_a1_3 >>> (s_LO_BYTE_SHIFT &&& 31)).toInt8.toInt32)))], ⟨rfl, N5, ((((Keep.refl h0 []).ext E2).trans K3 (fun x q => (List.mem_cons.mp q).elim (fun r => r ▸ (Or.inr sz_b2)) ((fun _ q => nomatch q) x))).trans K4 (fun _ q => nomatch q)), sz_b2_2_4, i4_1, Or.inr rfl⟩⟩⟩⟩⟩
set_option maxRecDepth 65536 in
set_option maxHeartbeats 40000000 in
theorem rm7_4_k2 (l : Launch) (Z : State) (a0 : Array Value) (hw : ∀ d ∈ tables_1, d.before a0 Z = true) (ws : List Jvm.Cond) (a1 : Addr) (s__assertionsDisabled : Int32) (s_HI_BYTE_SHIFT : Int32) (s_LO_BYTE_SHIFT : Int32) (k_a1 : ClassId) (x_a1_0 : Int32) (x_a1_1 : Int32) (x_a1_2 : Int32) (x_a1_3 : Int32) (h0 : Heap) (n0 : Nat) (Z0 : n0 ≤ h0.size) (hasd : ¬ (s__assertionsDisabled = (0 : Int32))) (hhi : s_HI_BYTE_SHIFT = (0 : Int32)) (hlo : s_LO_BYTE_SHIFT = (8 : Int32)) (hch0 : nar .char x_a1_0 = x_a1_0) (hch1 : nar .char x_a1_1 = x_a1_1) (hch2 : nar .char x_a1_2 = x_a1_2) (hch3 : nar .char x_a1_3 = x_a1_3) (S__assertionsDisabled : Sta Z h0 "java/lang/StringUTF16" "$assertionsDisabled" "Z" (.int s__assertionsDisabled)) (S_HI_BYTE_SHIFT : Sta Z h0 "java/lang/StringUTF16" "HI_BYTE_SHIFT" "I" (.int s_HI_BYTE_SHIFT)) (S_LO_BYTE_SHIFT : Sta Z h0 "java/lang/StringUTF16" "LO_BYTE_SHIFT" "I" (.int s_LO_BYTE_SHIFT)) (V_a1 : Arv Z h0 a1 k_a1 .char (4 : Int32) [(.int x_a1_0), (.int x_a1_1), (.int x_a1_2), (.int x_a1_3)] (.int (0 : Int32))) (hhc20_9 : ¬ ((255 : Int32) < x_a1_0)) (hhc20'_9 : ¬ ((255 : Int32) < x_a1_1)) (hhc20''_9 : (255 : Int32) < x_a1_2) :
    MetFree l (⟨"java/lang/StringUTF16", "compress", "([CII)[B"⟩ : MethodName) (head1 (Jvm.Cond.code (⟨"java/lang/StringUTF16", "compress", "([CII)[B"⟩ : MethodName) jdk_52_method_16_code 6 (some (.array .byte)) :: ws) ({ frames := 3, cells := 2, slots := 12, locals := 40 } : Room)) (fun a U => a = #[(.ref a1), (.int (0 : Int32)), (.int (4 : Int32))] ∧ Z.Warmed39 U.vm ∧ U.heap = h0) (fun _ _ _ _ _ => True) (fun _ U o U' => ∃ v L, o = .returned v ∧ Q_rm7_4 Z a1 s__assertionsDisabled s_HI_BYTE_SHIFT s_LO_BYTE_SHIFT k_a1 x_a1_0 x_a1_1 x_a1_2 x_a1_3 h0 n0 v U'.heap L ∧ FrameEnd U o U' L ({ frames := 3, cells := 2, slots := 12, locals := 40 } : Room).cells ({ frames := 3, cells := 2, slots := 12, locals := 40 } : Room).slots) := by
  have hi : ∀ (i : Nat) {d : Jvm.Cond}, tables_1[i]? = some d → d.before a0 Z = true := fun i d h => hw d (List.mem_of_getElem? h)
  refine MetFree.of_bodySF (plainFor_of_name pn_7) hisR ?_
  intro p e s m args below meth c s₁ Bd hml0 hP hK
  obtain ⟨rfl, hZ, hh⟩ := hP
  have hx := Bd.exec
  have hby := Bd.bytes
  have hml : c.maxLocals = 6 := hml0
  have hown : s.vm.findClass "java/lang/StringUTF16" = some m.cls := findClass_of_methodNamed Bd.named
  have hnm := (name_of_methodNamed Bd.named Bd.method).1
  have X0 : Stand p l e ({ frames := 3, cells := 2, slots := 12, locals := 40 } : Room) s m #[(.ref a1), (.int (0 : Int32)), (.int (4 : Int32))] below meth c s₁ [] 0 0 := Stand.of_body Bd
  have e0 : s₁.heap = h0 := by rw [← hh, Bd.state]; rfl
  have N0 := Fr.nil n0
  have pre0 : ∀ t, Steps p.tables e below (s₁.setTop (mkF m 0 #[vA a1, vI (0 : Int32), vI (4 : Int32), vU, vU, vU] [])) t → Steps p.tables e below (s₁.setTop (entryFrame m #[(.ref a1), (.int (0 : Int32)), (.int (4 : Int32))] 6)) t := fun t k => castTop (ef_7 m a1 (0 : Int32) (4 : Int32)) k
  obtain ⟨T2, h2, k2, X2, e2, E2, A2, st2⟩ := newP X0 hx hZ (hi 17 rfl) e0 (g := (mkF m 1 #[vA a1, vI (0 : Int32), vI (4 : Int32), vU, vU, vU] [(.int (4 : Int32))])) rfl (hb hby d7_1) rfl (by decide) (cap := 4) (by decide) (by decide) (by decide) (by decide)
  obtain ⟨b2, g2⟩ : ∃ z, z = h0.size := ⟨_, rfl⟩
  rw [← g2] at A2 st2
  have g_b2 : n0 ≤ b2 := Nat.le_trans Z0 (Nat.le_of_eq g2.symm)
  have sz_b2 : h0.size ≤ b2 := Nat.le_trans (Nat.le_refl h0.size) (Nat.le_of_eq g2.symm)
  have V_b2 : Arv Z h2 b2 k2 .byte (4 : Int32) [(.int (0 : Int32)), (.int (0 : Int32)), (.int (0 : Int32)), (.int (0 : Int32))] (.int (0 : Int32)) := (Arv.new A2 (by decide)).pad (pad_rep [] (.int (0 : Int32)) 4)
  have f0 := (V_a1.ext E2)
  obtain ⟨_, _, ⟨T3, L3, k3, n3⟩, -, X3, ⟨Lc3, hQ3, l3, y3, z3⟩, st3⟩ := Jvm.LawKit.callS X2 hx (y := (⟨"java/lang/StringUTF16", "compress", "([CI[BII)I"⟩ : MethodName)) hown (mvT hZ (hi 47 rfl)) (mvT hZ (hi 48 rfl)) (mvT hZ (hi 45 rfl)) (mvT hZ (hi 49 rfl)) (by decide) (backOf (W := 0) (rm8_4_2 l Z a0 hw [] a1 b2 k_a1 x_a1_0 x_a1_1 x_a1_2 x_a1_3 k2 (0 : Int32) (0 : Int32) (0 : Int32) (0 : Int32) h2 n0 (Nat.le_trans Z0 E2.1) g_b2 f0 V_b2 hhc20_9 (Nat.ne_of_lt (Nat.lt_of_lt_of_le V_a1.lt (Nat.le_of_eq g2.symm))) hhc20'_9 hhc20''_9) hZ (hi 49 rfl) (hi 45 rfl) (by decide) (by decide)) (g := (mkF m 9 #[vA a1, vI (0 : Int32), vI (4 : Int32), vA b2, vU, vU] [(.int (4 : Int32)), (.int (0 : Int32)), (.ref b2), (.int (0 : Int32)), (.ref a1)])) rfl (by rw [hml]; rfl) (argsL := [(.ref a1), (.int (0 : Int32)), (.ref b2), (.int (0 : Int32)), (.int (4 : Int32))]) (rest := []) (lenOf pd__28_5bCI_5bBII_29I rfl) rfl (by show 2 * 0 + _ ≤ _; exact Nat.le_of_eq rfl) (hb hby d7_9) (fun _ _ => ⟨rfl, e2, (by decide : 1 + 0 ≤ _), (by decide : 4 + 0 ≤ _)⟩)
  dsimp only [Pt.U, Pt.locs, Pt.cells, Pt.slots] at X3 l3 y3 z3 st3 hQ3
  subst l3 y3 z3
  obtain ⟨rfl, N3q, K3, i3_0⟩ := hQ3
  have N3 := Fr.app N0 N3q
  have f1 := (own_sta_keep (S__assertionsDisabled.ext E2) K3 (own_qc (own_nstV V_b2) own_q0))
  have f2 := (own_sta_keep (S_HI_BYTE_SHIFT.ext E2) K3 (own_qc (own_nstV V_b2) own_q0))
  have f3 := (own_sta_keep (S_LO_BYTE_SHIFT.ext E2) K3 (own_qc (own_nstV V_b2) own_q0))
  have f4 := (f0.keep K3 (own_nm (Nat.ne_of_lt (Nat.lt_of_lt_of_le V_a1.lt (Nat.le_of_eq g2.symm))) own_n0))
  obtain ⟨_, _, ⟨T4, L4, k4, n4⟩, -, X4, ⟨Lc4, hQ4, l4, y4, z4⟩, st4⟩ := Jvm.LawKit.callS X3 hx (y := (⟨"java/lang/StringUTF16", "toBytes", "([CII)[B"⟩ : MethodName)) hown (mvT hZ (hi 53 rfl)) (mvT hZ (hi 54 rfl)) (mvT hZ (hi 45 rfl)) (mvT hZ (hi 55 rfl)) (by decide) (backOf (W := 0) (rm10_4 l Z a0 hw [] a1 s__assertionsDisabled s_HI_BYTE_SHIFT s_LO_BYTE_SHIFT k_a1 x_a1_0 x_a1_1 x_a1_2 x_a1_3 T3.heap n0 (Nat.le_trans (Nat.le_trans Z0 E2.1) K3.1) hasd f1 f2 f3 f4) hZ (hi 55 rfl) (hi 45 rfl) (by decide) (by decide)) (g := (mkF m 23 #[vA a1, vI (0 : Int32), vI (4 : Int32), vA b2, vI (2 : Int32), vU] [(.int (4 : Int32)), (.int (0 : Int32)), (.ref a1)])) rfl (by rw [hml]; rfl) (argsL := [(.ref a1), (.int (0 : Int32)), (.int (4 : Int32))]) (rest := []) (lenOf pd__28_5bCII_29_5bB rfl) rfl (by show 2 * 0 + _ ≤ _; exact Nat.le_of_eq rfl) (hb hby d7_23) (fun _ _ => ⟨rfl, rfl, (by decide : 1 + 1 ≤ _), (by decide : 4 + 8 ≤ _)⟩)
  dsimp only [Pt.U, Pt.locs, Pt.cells, Pt.slots] at X4 l4 y4 z4 st4 hQ4
  subst l4 y4 z4
  obtain ⟨b2_2_4, ⟨k2_2_4, ⟨rfl, N4q, K4, i4_0, i4_1⟩⟩⟩ := hQ4
  have N4 := Fr.app N3 N4q
  have sz_b2_2_4 : h0.size ≤ b2_2_4 := Nat.le_trans (Nat.le_trans (Nat.le_trans (Nat.le_refl h0.size) E2.1) K3.1) i4_0
  have g_b2_2_4 : n0 ≤ b2_2_4 := Nat.le_trans Z0 sz_b2_2_4
  have f5 := (own_sta_keep f1 K4 own_q0)
  have f6 := (own_sta_keep f2 K4 own_q0)
  have f7 := (own_sta_keep f3 K4 own_q0)
  obtain ⟨_, _, ⟨T5, L5, k5, n5⟩, -, X5, ⟨Lc5, hQ5, l5, y5, z5⟩, st5⟩ := Jvm.LawKit.callS X4 hx (y := (⟨"java/lang/StringUTF16", "getChar", "([BI)C"⟩ : MethodName)) hown (mvT hZ (hi 69 rfl)) (mvT hZ (hi 70 rfl)) (mvT hZ (hi 45 rfl)) (mvT hZ (hi 71 rfl)) (by decide) (backOf (W := 0) (rm14_4_2 l Z a0 hw [] b2_2_4 s__assertionsDisabled s_HI_BYTE_SHIFT s_LO_BYTE_SHIFT k2_2_4 (nar .byte ((x_a1_0 >>> (s_HI_BYTE_SHIFT &&& 31)).toInt8.toInt32)) (nar .byte ((x_a1_0 >>> (s_LO_BYTE_SHIFT &&& 31)).toInt8.toInt32)) (nar .byte ((x_a1_1 >>> (s_HI_BYTE_SHIFT &&& 31)).toInt8.toInt32)) (nar .byte ((x_a1_1 >>> (s_LO_BYTE_SHIFT &&& 31)).toInt8.toInt32)) (nar .byte ((x_a1_2 >>> (s_HI_BYTE_SHIFT &&& 31)).toInt8.toInt32)) (nar .byte ((x_a1_2 >>> (s_LO_BYTE_SHIFT &&& 31)).toInt8.toInt32)) (nar .byte ((x_a1_3 >>> (s_HI_BYTE_SHIFT &&& 31)).toInt8.toInt32)) (nar .byte ((x_a1_3 >>> (s_LO_BYTE_SHIFT &&& 31)).toInt8.toInt32)) T4.heap n0 (Nat.le_trans (Nat.le_trans (Nat.le_trans Z0 E2.1) K3.1) K4.1) hasd f5 f6 f7 i4_1) hZ (hi 71 rfl) (hi 45 rfl) (by decide) (by decide)) (g := (mkF m 32 #[vA a1, vI (0 : Int32), vI (4 : Int32), vA b2, vI (2 : Int32), vA b2_2_4] [(.int (2 : Int32)), (.ref b2_2_4)])) rfl (by rw [hml]; rfl) (argsL := [(.ref b2_2_4), (.int (2 : Int32))]) (rest := []) (lenOf pd__28_5bBI_29C rfl) rfl (by show 2 * 0 + _ ≤ _; exact Nat.le_of_eq rfl) (hb hby d7_32) (fun _ _ => ⟨rfl, rfl, (by decide : 2 + 0 ≤ _), (by decide : 12 + 0 ≤ _)⟩)
  dsimp only [Pt.U, Pt.locs, Pt.cells, Pt.slots] at X5 l5 y5 z5 st5 hQ5
  subst l5 y5 z5
  obtain ⟨rfl, N5q, e5⟩ := hQ5
  have N5 := Fr.app N4 N5q
  obtain ⟨fs, hr, hrun, hended, hW, hsame⟩ := X5.leave (v := some (.ref b2_2_4)) (fun h => by rw [Bd.returns] at h; cases h)
  refine ⟨_, _, pre0 _ ?_, hrun, hended, _, _, rfl, ?_, ⟨_, rfl⟩, hW, hsame.mono (by decide) (by decide)⟩
  · show Steps p.tables e below (s₁.setTop (mkF m 0 #[vA a1, vI (0 : Int32), vI (4 : Int32), vU, vU, vU] [])) _
    refine XS.iloadN X0.here hx rfl (hb hby d7_0) rfl ?_
    show Steps p.tables e below (s₁.setTop (mkF m 1 #[vA a1, vI (0 : Int32), vI (4 : Int32), vU, vU, vU] [(.int (4 : Int32))])) _
    refine st2 _ ?_
    refine XS.astoreN X2.here hx rfl (hb hby d7_3) rfl rfl (l' := #[vA a1, vI (0 : Int32), vI (4 : Int32), vA b2, vU, vU]) rfl ?_
    refine XS.aloadN X2.here hx rfl (hb hby d7_4) rfl rfl ?_
    refine XS.iloadN X2.here hx rfl (hb hby d7_5) rfl ?_
    refine XS.aloadN X2.here hx rfl (hb hby d7_6) rfl rfl ?_
    refine XS.iconst X2.here hx rfl (hb hby d7_7) ?_
    refine XS.iloadN X2.here hx rfl (hb hby d7_8) rfl ?_
    show Steps p.tables e below (T2.setTop (mkF m 9 #[vA a1, vI (0 : Int32), vI (4 : Int32), vA b2, vU, vU] [(.int (4 : Int32)), (.int (0 : Int32)), (.ref b2), (.int (0 : Int32)), (.ref a1)])) _
    refine st3 _ ?_
    refine XS.istore X3.here hx rfl (hb hby d7_12) rfl (l' := #[vA a1, vI (0 : Int32), vI (4 : Int32), vA b2, vI (2 : Int32), vU]) rfl ?_
    refine XS.iload X3.here hx rfl (hb hby d7_14) rfl ?_
    refine XS.iloadN X3.here hx rfl (hb hby d7_16) rfl ?_
    show Steps p.tables e below (T3.setTop (mkF m 17 #[vA a1, vI (0 : Int32), vI (4 : Int32), vA b2, vI (2 : Int32), vU] [(.int (4 : Int32)), (.int (2 : Int32))])) _
    refine XS.icmpNo X3.here hx rfl (hb hby d7_17) rfl (feq (by decide : ¬ ((2 : Int32) = (4 : Int32)))).1 ?_
    refine XS.aloadN X3.here hx rfl (hb hby d7_20) rfl rfl ?_
    refine XS.iloadN X3.here hx rfl (hb hby d7_21) rfl ?_
    refine XS.iloadN X3.here hx rfl (hb hby d7_22) rfl ?_
    show Steps p.tables e below (T3.setTop (mkF m 23 #[vA a1, vI (0 : Int32), vI (4 : Int32), vA b2, vI (2 : Int32), vU] [(.int (4 : Int32)), (.int (0 : Int32)), (.ref a1)])) _
    refine st4 _ ?_
    refine XS.astore X4.here hx rfl (hb hby d7_26) rfl rfl (l' := #[vA a1, vI (0 : Int32), vI (4 : Int32), vA b2, vI (2 : Int32), vA b2_2_4]) rfl ?_
    refine XS.aload X4.here hx rfl (hb hby d7_28) rfl rfl ?_
    refine XS.iload X4.here hx rfl (hb hby d7_30) rfl ?_
    show Steps p.tables e below (T4.setTop (mkF m 32 #[vA a1, vI (0 : Int32), vI (4 : Int32), vA b2, vI (2 : Int32), vA b2_2_4] [(.int (2 : Int32)), (.ref b2_2_4)])) _
    refine st5 _ ?_
    refine XS.sipush X5.here hx rfl (hb hby d7_35) ?_
    show Steps p.tables e below (T5.setTop (mkF m 38 #[vA a1, vI (0 : Int32), vI (4 : Int32), vA b2, vI (2 : Int32), vA b2_2_4] [(.int (255 : Int32)), (.int (nar .char (t14_5 s_HI_BYTE_SHIFT s_LO_BYTE_SHIFT (nar .byte ((x_a1_2 >>> (s_HI_BYTE_SHIFT &&& 31)).toInt8.toInt32)) (nar .byte ((x_a1_2 >>> (s_LO_BYTE_SHIFT &&& 31)).toInt8.toInt32)))))])) _
    refine XS.icmpYes X5.here hx rfl (pc0 := 38) (pc' := 54) rfl (hb hby d7_38) rfl (tlt (show (255 : Int32) < (t7_2 s_HI_BYTE_SHIFT s_LO_BYTE_SHIFT x_a1_2) from (own_rt2 _ _ _ hhi hlo hch2 hhc20''_9))).2.2.1 (by decide) (by decide) ?_
    refine XS.aload X5.here hx rfl (hb hby d7_54) rfl rfl ?_
    show Steps p.tables e below (T5.setTop (mkF m 56 #[vA a1, vI (0 : Int32), vI (4 : Int32), vA b2, vI (2 : Int32), vA b2_2_4] [(.ref b2_2_4)])) _
    jvm_step X5.here [X5.here.top, hx, (hb hby d7_56), X5.method', Bd.returns, Value.isRef, FieldType.isReference]
    first | (intro acts; rw [hr _ acts rfl rfl rfl]) | rw [hr _ _ rfl rfl rfl]
    exact Steps.refl _
  · show Q_rm7_4 Z a1 s__assertionsDisabled s_HI_BYTE_SHIFT s_LO_BYTE_SHIFT k_a1 x_a1_0 x_a1_1 x_a1_2 x_a1_3 h0 n0 _ T5.heap _
    rw [e5]
    exact ⟨b2_2_4, ⟨k2_2_4, ⟨(8 : Int32), ⟨[(.int (nar .byte ((x_a1_0 >>> (s_HI_BYTE_SHIFT &&& 31)).toInt8.toInt32))), (.int (nar .byte ((x_a1_0 >>> (s_LO_BYTE_SHIFT &&& 31)).toInt8.toInt32))), (.int (nar .byte ((x_a1_1 >>> (s_HI_BYTE_SHIFT &&& 31)).toInt8.toInt32))), (.int (nar .byte ((x_a1_1 >>> (s_LO_BYTE_SHIFT &&& 31)).toInt8.toInt32))), (.int (nar .byte ((x_a1_2 >>> (s_HI_BYTE_SHIFT &&& 31)).toInt8.toInt32))), (.int (nar .byte ((x_a1_2 >>> (s_LO_BYTE_SHIFT &&& 31)).toInt8.toInt32))), (.int (nar .byte ((x_a1_3 >>> (s_HI_BYTE_SHIFT &&& 31)).toInt8.toInt32))), (.int (nar .byte ((x_a1_3 >>> (s_LO_BYTE_SHIFT &&& 31)).toInt8.toInt32)))], ⟨rfl, N5, ((((Keep.refl h0 []).ext E2).trans K3 (fun x q => (List.mem_cons.mp q).elim (fun r => r ▸ (Or.inr sz_b2)) ((fun _ q => nomatch q) x))).trans K4 (fun _ q => nomatch q)), sz_b2_2_4, i4_1, Or.inr rfl⟩⟩⟩⟩⟩
set_option maxRecDepth 65536 in
set_option maxHeartbeats 40000000 in
theorem rm7_4_k3 (l : Launch) (Z : State) (a0 : Array Value) (hw : ∀ d ∈ tables_1, d.before a0 Z = true) (ws : List Jvm.Cond) (a1 : Addr) (s__assertionsDisabled : Int32) (s_HI_BYTE_SHIFT : Int32) (s_LO_BYTE_SHIFT : Int32) (k_a1 : ClassId) (x_a1_0 : Int32) (x_a1_1 : Int32) (x_a1_2 : Int32) (x_a1_3 : Int32) (h0 : Heap) (n0 : Nat) (Z0 : n0 ≤ h0.size) (hasd : ¬ (s__assertionsDisabled = (0 : Int32))) (hhi : s_HI_BYTE_SHIFT = (0 : Int32)) (hlo : s_LO_BYTE_SHIFT = (8 : Int32)) (hch0 : nar .char x_a1_0 = x_a1_0) (hch1 : nar .char x_a1_1 = x_a1_1) (hch2 : nar .char x_a1_2 = x_a1_2) (hch3 : nar .char x_a1_3 = x_a1_3) (S__assertionsDisabled : Sta Z h0 "java/lang/StringUTF16" "$assertionsDisabled" "Z" (.int s__assertionsDisabled)) (S_HI_BYTE_SHIFT : Sta Z h0 "java/lang/StringUTF16" "HI_BYTE_SHIFT" "I" (.int s_HI_BYTE_SHIFT)) (S_LO_BYTE_SHIFT : Sta Z h0 "java/lang/StringUTF16" "LO_BYTE_SHIFT" "I" (.int s_LO_BYTE_SHIFT)) (V_a1 : Arv Z h0 a1 k_a1 .char (4 : Int32) [(.int x_a1_0), (.int x_a1_1), (.int x_a1_2), (.int x_a1_3)] (.int (0 : Int32))) (hhc20_9 : ¬ ((255 : Int32) < x_a1_0)) (hhc20'_9 : ¬ ((255 : Int32) < x_a1_1)) (hhc20''_9 : ¬ ((255 : Int32) < x_a1_2)) (hhc20'''_9 : (255 : Int32) < x_a1_3) :
    MetFree l (⟨"java/lang/StringUTF16", "compress", "([CII)[B"⟩ : MethodName) (head1 (Jvm.Cond.code (⟨"java/lang/StringUTF16", "compress", "([CII)[B"⟩ : MethodName) jdk_52_method_16_code 6 (some (.array .byte)) :: ws) ({ frames := 3, cells := 2, slots := 12, locals := 40 } : Room)) (fun a U => a = #[(.ref a1), (.int (0 : Int32)), (.int (4 : Int32))] ∧ Z.Warmed39 U.vm ∧ U.heap = h0) (fun _ _ _ _ _ => True) (fun _ U o U' => ∃ v L, o = .returned v ∧ Q_rm7_4 Z a1 s__assertionsDisabled s_HI_BYTE_SHIFT s_LO_BYTE_SHIFT k_a1 x_a1_0 x_a1_1 x_a1_2 x_a1_3 h0 n0 v U'.heap L ∧ FrameEnd U o U' L ({ frames := 3, cells := 2, slots := 12, locals := 40 } : Room).cells ({ frames := 3, cells := 2, slots := 12, locals := 40 } : Room).slots) := by
  have hi : ∀ (i : Nat) {d : Jvm.Cond}, tables_1[i]? = some d → d.before a0 Z = true := fun i d h => hw d (List.mem_of_getElem? h)
  refine MetFree.of_bodySF (plainFor_of_name pn_7) hisR ?_
  intro p e s m args below meth c s₁ Bd hml0 hP hK
  obtain ⟨rfl, hZ, hh⟩ := hP
  have hx := Bd.exec
  have hby := Bd.bytes
  have hml : c.maxLocals = 6 := hml0
  have hown : s.vm.findClass "java/lang/StringUTF16" = some m.cls := findClass_of_methodNamed Bd.named
  have hnm := (name_of_methodNamed Bd.named Bd.method).1
  have X0 : Stand p l e ({ frames := 3, cells := 2, slots := 12, locals := 40 } : Room) s m #[(.ref a1), (.int (0 : Int32)), (.int (4 : Int32))] below meth c s₁ [] 0 0 := Stand.of_body Bd
  have e0 : s₁.heap = h0 := by rw [← hh, Bd.state]; rfl
  have N0 := Fr.nil n0
  have pre0 : ∀ t, Steps p.tables e below (s₁.setTop (mkF m 0 #[vA a1, vI (0 : Int32), vI (4 : Int32), vU, vU, vU] [])) t → Steps p.tables e below (s₁.setTop (entryFrame m #[(.ref a1), (.int (0 : Int32)), (.int (4 : Int32))] 6)) t := fun t k => castTop (ef_7 m a1 (0 : Int32) (4 : Int32)) k
  obtain ⟨T2, h2, k2, X2, e2, E2, A2, st2⟩ := newP X0 hx hZ (hi 17 rfl) e0 (g := (mkF m 1 #[vA a1, vI (0 : Int32), vI (4 : Int32), vU, vU, vU] [(.int (4 : Int32))])) rfl (hb hby d7_1) rfl (by decide) (cap := 4) (by decide) (by decide) (by decide) (by decide)
  obtain ⟨b2, g2⟩ : ∃ z, z = h0.size := ⟨_, rfl⟩
  rw [← g2] at A2 st2
  have g_b2 : n0 ≤ b2 := Nat.le_trans Z0 (Nat.le_of_eq g2.symm)
  have sz_b2 : h0.size ≤ b2 := Nat.le_trans (Nat.le_refl h0.size) (Nat.le_of_eq g2.symm)
  have V_b2 : Arv Z h2 b2 k2 .byte (4 : Int32) [(.int (0 : Int32)), (.int (0 : Int32)), (.int (0 : Int32)), (.int (0 : Int32))] (.int (0 : Int32)) := (Arv.new A2 (by decide)).pad (pad_rep [] (.int (0 : Int32)) 4)
  have f0 := (V_a1.ext E2)
  obtain ⟨_, _, ⟨T3, L3, k3, n3⟩, -, X3, ⟨Lc3, hQ3, l3, y3, z3⟩, st3⟩ := Jvm.LawKit.callS X2 hx (y := (⟨"java/lang/StringUTF16", "compress", "([CI[BII)I"⟩ : MethodName)) hown (mvT hZ (hi 47 rfl)) (mvT hZ (hi 48 rfl)) (mvT hZ (hi 45 rfl)) (mvT hZ (hi 49 rfl)) (by decide) (backOf (W := 0) (rm8_4_3 l Z a0 hw [] a1 b2 k_a1 x_a1_0 x_a1_1 x_a1_2 x_a1_3 k2 (0 : Int32) (0 : Int32) (0 : Int32) (0 : Int32) h2 n0 (Nat.le_trans Z0 E2.1) g_b2 f0 V_b2 hhc20_9 (Nat.ne_of_lt (Nat.lt_of_lt_of_le V_a1.lt (Nat.le_of_eq g2.symm))) hhc20'_9 hhc20''_9 hhc20'''_9) hZ (hi 49 rfl) (hi 45 rfl) (by decide) (by decide)) (g := (mkF m 9 #[vA a1, vI (0 : Int32), vI (4 : Int32), vA b2, vU, vU] [(.int (4 : Int32)), (.int (0 : Int32)), (.ref b2), (.int (0 : Int32)), (.ref a1)])) rfl (by rw [hml]; rfl) (argsL := [(.ref a1), (.int (0 : Int32)), (.ref b2), (.int (0 : Int32)), (.int (4 : Int32))]) (rest := []) (lenOf pd__28_5bCI_5bBII_29I rfl) rfl (by show 2 * 0 + _ ≤ _; exact Nat.le_of_eq rfl) (hb hby d7_9) (fun _ _ => ⟨rfl, e2, (by decide : 1 + 0 ≤ _), (by decide : 4 + 0 ≤ _)⟩)
  dsimp only [Pt.U, Pt.locs, Pt.cells, Pt.slots] at X3 l3 y3 z3 st3 hQ3
  subst l3 y3 z3
  obtain ⟨rfl, N3q, K3, i3_0⟩ := hQ3
  have N3 := Fr.app N0 N3q
  have f1 := (own_sta_keep (S__assertionsDisabled.ext E2) K3 (own_qc (own_nstV V_b2) own_q0))
  have f2 := (own_sta_keep (S_HI_BYTE_SHIFT.ext E2) K3 (own_qc (own_nstV V_b2) own_q0))
  have f3 := (own_sta_keep (S_LO_BYTE_SHIFT.ext E2) K3 (own_qc (own_nstV V_b2) own_q0))
  have f4 := (f0.keep K3 (own_nm (Nat.ne_of_lt (Nat.lt_of_lt_of_le V_a1.lt (Nat.le_of_eq g2.symm))) own_n0))
  obtain ⟨_, _, ⟨T4, L4, k4, n4⟩, -, X4, ⟨Lc4, hQ4, l4, y4, z4⟩, st4⟩ := Jvm.LawKit.callS X3 hx (y := (⟨"java/lang/StringUTF16", "toBytes", "([CII)[B"⟩ : MethodName)) hown (mvT hZ (hi 53 rfl)) (mvT hZ (hi 54 rfl)) (mvT hZ (hi 45 rfl)) (mvT hZ (hi 55 rfl)) (by decide) (backOf (W := 0) (rm10_4 l Z a0 hw [] a1 s__assertionsDisabled s_HI_BYTE_SHIFT s_LO_BYTE_SHIFT k_a1 x_a1_0 x_a1_1 x_a1_2 x_a1_3 T3.heap n0 (Nat.le_trans (Nat.le_trans Z0 E2.1) K3.1) hasd f1 f2 f3 f4) hZ (hi 55 rfl) (hi 45 rfl) (by decide) (by decide)) (g := (mkF m 23 #[vA a1, vI (0 : Int32), vI (4 : Int32), vA b2, vI (3 : Int32), vU] [(.int (4 : Int32)), (.int (0 : Int32)), (.ref a1)])) rfl (by rw [hml]; rfl) (argsL := [(.ref a1), (.int (0 : Int32)), (.int (4 : Int32))]) (rest := []) (lenOf pd__28_5bCII_29_5bB rfl) rfl (by show 2 * 0 + _ ≤ _; exact Nat.le_of_eq rfl) (hb hby d7_23) (fun _ _ => ⟨rfl, rfl, (by decide : 1 + 1 ≤ _), (by decide : 4 + 8 ≤ _)⟩)
  dsimp only [Pt.U, Pt.locs, Pt.cells, Pt.slots] at X4 l4 y4 z4 st4 hQ4
  subst l4 y4 z4
  obtain ⟨b2_2_4, ⟨k2_2_4, ⟨rfl, N4q, K4, i4_0, i4_1⟩⟩⟩ := hQ4
  have N4 := Fr.app N3 N4q
  have sz_b2_2_4 : h0.size ≤ b2_2_4 := Nat.le_trans (Nat.le_trans (Nat.le_trans (Nat.le_refl h0.size) E2.1) K3.1) i4_0
  have g_b2_2_4 : n0 ≤ b2_2_4 := Nat.le_trans Z0 sz_b2_2_4
  have f5 := (own_sta_keep f1 K4 own_q0)
  have f6 := (own_sta_keep f2 K4 own_q0)
  have f7 := (own_sta_keep f3 K4 own_q0)
  obtain ⟨_, _, ⟨T5, L5, k5, n5⟩, -, X5, ⟨Lc5, hQ5, l5, y5, z5⟩, st5⟩ := Jvm.LawKit.callS X4 hx (y := (⟨"java/lang/StringUTF16", "getChar", "([BI)C"⟩ : MethodName)) hown (mvT hZ (hi 69 rfl)) (mvT hZ (hi 70 rfl)) (mvT hZ (hi 45 rfl)) (mvT hZ (hi 71 rfl)) (by decide) (backOf (W := 0) (rm14_4_3 l Z a0 hw [] b2_2_4 s__assertionsDisabled s_HI_BYTE_SHIFT s_LO_BYTE_SHIFT k2_2_4 (nar .byte ((x_a1_0 >>> (s_HI_BYTE_SHIFT &&& 31)).toInt8.toInt32)) (nar .byte ((x_a1_0 >>> (s_LO_BYTE_SHIFT &&& 31)).toInt8.toInt32)) (nar .byte ((x_a1_1 >>> (s_HI_BYTE_SHIFT &&& 31)).toInt8.toInt32)) (nar .byte ((x_a1_1 >>> (s_LO_BYTE_SHIFT &&& 31)).toInt8.toInt32)) (nar .byte ((x_a1_2 >>> (s_HI_BYTE_SHIFT &&& 31)).toInt8.toInt32)) (nar .byte ((x_a1_2 >>> (s_LO_BYTE_SHIFT &&& 31)).toInt8.toInt32)) (nar .byte ((x_a1_3 >>> (s_HI_BYTE_SHIFT &&& 31)).toInt8.toInt32)) (nar .byte ((x_a1_3 >>> (s_LO_BYTE_SHIFT &&& 31)).toInt8.toInt32)) T4.heap n0 (Nat.le_trans (Nat.le_trans (Nat.le_trans Z0 E2.1) K3.1) K4.1) hasd f5 f6 f7 i4_1) hZ (hi 71 rfl) (hi 45 rfl) (by decide) (by decide)) (g := (mkF m 32 #[vA a1, vI (0 : Int32), vI (4 : Int32), vA b2, vI (3 : Int32), vA b2_2_4] [(.int (3 : Int32)), (.ref b2_2_4)])) rfl (by rw [hml]; rfl) (argsL := [(.ref b2_2_4), (.int (3 : Int32))]) (rest := []) (lenOf pd__28_5bBI_29C rfl) rfl (by show 2 * 0 + _ ≤ _; exact Nat.le_of_eq rfl) (hb hby d7_32) (fun _ _ => ⟨rfl, rfl, (by decide : 2 + 0 ≤ _), (by decide : 12 + 0 ≤ _)⟩)
  dsimp only [Pt.U, Pt.locs, Pt.cells, Pt.slots] at X5 l5 y5 z5 st5 hQ5
  subst l5 y5 z5
  obtain ⟨rfl, N5q, e5⟩ := hQ5
  have N5 := Fr.app N4 N5q
  obtain ⟨fs, hr, hrun, hended, hW, hsame⟩ := X5.leave (v := some (.ref b2_2_4)) (fun h => by rw [Bd.returns] at h; cases h)
  refine ⟨_, _, pre0 _ ?_, hrun, hended, _, _, rfl, ?_, ⟨_, rfl⟩, hW, hsame.mono (by decide) (by decide)⟩
  · show Steps p.tables e below (s₁.setTop (mkF m 0 #[vA a1, vI (0 : Int32), vI (4 : Int32), vU, vU, vU] [])) _
    refine XS.iloadN X0.here hx rfl (hb hby d7_0) rfl ?_
    show Steps p.tables e below (s₁.setTop (mkF m 1 #[vA a1, vI (0 : Int32), vI (4 : Int32), vU, vU, vU] [(.int (4 : Int32))])) _
    refine st2 _ ?_
    refine XS.astoreN X2.here hx rfl (hb hby d7_3) rfl rfl (l' := #[vA a1, vI (0 : Int32), vI (4 : Int32), vA b2, vU, vU]) rfl ?_
    refine XS.aloadN X2.here hx rfl (hb hby d7_4) rfl rfl ?_
    refine XS.iloadN X2.here hx rfl (hb hby d7_5) rfl ?_
    refine XS.aloadN X2.here hx rfl (hb hby d7_6) rfl rfl ?_
    refine XS.iconst X2.here hx rfl (hb hby d7_7) ?_
    refine XS.iloadN X2.here hx rfl (hb hby d7_8) rfl ?_
    show Steps p.tables e below (T2.setTop (mkF m 9 #[vA a1, vI (0 : Int32), vI (4 : Int32), vA b2, vU, vU] [(.int (4 : Int32)), (.int (0 : Int32)), (.ref b2), (.int (0 : Int32)), (.ref a1)])) _
    refine st3 _ ?_
    refine XS.istore X3.here hx rfl (hb hby d7_12) rfl (l' := #[vA a1, vI (0 : Int32), vI (4 : Int32), vA b2, vI (3 : Int32), vU]) rfl ?_
    refine XS.iload X3.here hx rfl (hb hby d7_14) rfl ?_
    refine XS.iloadN X3.here hx rfl (hb hby d7_16) rfl ?_
    show Steps p.tables e below (T3.setTop (mkF m 17 #[vA a1, vI (0 : Int32), vI (4 : Int32), vA b2, vI (3 : Int32), vU] [(.int (4 : Int32)), (.int (3 : Int32))])) _
    refine XS.icmpNo X3.here hx rfl (hb hby d7_17) rfl (feq (by decide : ¬ ((3 : Int32) = (4 : Int32)))).1 ?_
    refine XS.aloadN X3.here hx rfl (hb hby d7_20) rfl rfl ?_
    refine XS.iloadN X3.here hx rfl (hb hby d7_21) rfl ?_
    refine XS.iloadN X3.here hx rfl (hb hby d7_22) rfl ?_
    show Steps p.tables e below (T3.setTop (mkF m 23 #[vA a1, vI (0 : Int32), vI (4 : Int32), vA b2, vI (3 : Int32), vU] [(.int (4 : Int32)), (.int (0 : Int32)), (.ref a1)])) _
    refine st4 _ ?_
    refine XS.astore X4.here hx rfl (hb hby d7_26) rfl rfl (l' := #[vA a1, vI (0 : Int32), vI (4 : Int32), vA b2, vI (3 : Int32), vA b2_2_4]) rfl ?_
    refine XS.aload X4.here hx rfl (hb hby d7_28) rfl rfl ?_
    refine XS.iload X4.here hx rfl (hb hby d7_30) rfl ?_
    show Steps p.tables e below (T4.setTop (mkF m 32 #[vA a1, vI (0 : Int32), vI (4 : Int32), vA b2, vI (3 : Int32), vA b2_2_4] [(.int (3 : Int32)), (.ref b2_2_4)])) _
    refine st5 _ ?_
    refine XS.sipush X5.here hx rfl (hb hby d7_35) ?_
    show Steps p.tables e below (T5.setTop (mkF m 38 #[vA a1, vI (0 : Int32), vI (4 : Int32), vA b2, vI (3 : Int32), vA b2_2_4] [(.int (255 : Int32)), (.int (nar .char (t14_7 s_HI_BYTE_SHIFT s_LO_BYTE_SHIFT (nar .byte ((x_a1_3 >>> (s_HI_BYTE_SHIFT &&& 31)).toInt8.toInt32)) (nar .byte ((x_a1_3 >>> (s_LO_BYTE_SHIFT &&& 31)).toInt8.toInt32)))))])) _
    refine XS.icmpYes X5.here hx rfl (pc0 := 38) (pc' := 54) rfl (hb hby d7_38) rfl (tlt (show (255 : Int32) < (t7_3 s_HI_BYTE_SHIFT s_LO_BYTE_SHIFT x_a1_3) from (own_rt2 _ _ _ hhi hlo hch3 hhc20'''_9))).2.2.1 (by decide) (by decide) ?_
    refine XS.aload X5.here hx rfl (hb hby d7_54) rfl rfl ?_
    show Steps p.tables e below (T5.setTop (mkF m 56 #[vA a1, vI (0 : Int32), vI (4 : Int32), vA b2, vI (3 : Int32), vA b2_2_4] [(.ref b2_2_4)])) _
    jvm_step X5.here [X5.here.top, hx, (hb hby d7_56), X5.method', Bd.returns, Value.isRef, FieldType.isReference]
    first | (intro acts; rw [hr _ acts rfl rfl rfl]) | rw [hr _ _ rfl rfl rfl]
    exact Steps.refl _
  · show Q_rm7_4 Z a1 s__assertionsDisabled s_HI_BYTE_SHIFT s_LO_BYTE_SHIFT k_a1 x_a1_0 x_a1_1 x_a1_2 x_a1_3 h0 n0 _ T5.heap _
    rw [e5]
    exact ⟨b2_2_4, ⟨k2_2_4, ⟨(8 : Int32), ⟨[(.int (nar .byte ((x_a1_0 >>> (s_HI_BYTE_SHIFT &&& 31)).toInt8.toInt32))), (.int (nar .byte ((x_a1_0 >>> (s_LO_BYTE_SHIFT &&& 31)).toInt8.toInt32))), (.int (nar .byte ((x_a1_1 >>> (s_HI_BYTE_SHIFT &&& 31)).toInt8.toInt32))), (.int (nar .byte ((x_a1_1 >>> (s_LO_BYTE_SHIFT &&& 31)).toInt8.toInt32))), (.int (nar .byte ((x_a1_2 >>> (s_HI_BYTE_SHIFT &&& 31)).toInt8.toInt32))), (.int (nar .byte ((x_a1_2 >>> (s_LO_BYTE_SHIFT &&& 31)).toInt8.toInt32))), (.int (nar .byte ((x_a1_3 >>> (s_HI_BYTE_SHIFT &&& 31)).toInt8.toInt32))), (.int (nar .byte ((x_a1_3 >>> (s_LO_BYTE_SHIFT &&& 31)).toInt8.toInt32)))], ⟨rfl, N5, ((((Keep.refl h0 []).ext E2).trans K3 (fun x q => (List.mem_cons.mp q).elim (fun r => r ▸ (Or.inr sz_b2)) ((fun _ q => nomatch q) x))).trans K4 (fun _ q => nomatch q)), sz_b2_2_4, i4_1, Or.inr rfl⟩⟩⟩⟩⟩
set_option maxRecDepth 65536 in
set_option maxHeartbeats 40000000 in
theorem rm7_4_k4 (l : Launch) (Z : State) (a0 : Array Value) (hw : ∀ d ∈ tables_1, d.before a0 Z = true) (ws : List Jvm.Cond) (a1 : Addr) (s__assertionsDisabled : Int32) (s_HI_BYTE_SHIFT : Int32) (s_LO_BYTE_SHIFT : Int32) (k_a1 : ClassId) (x_a1_0 : Int32) (x_a1_1 : Int32) (x_a1_2 : Int32) (x_a1_3 : Int32) (h0 : Heap) (n0 : Nat) (Z0 : n0 ≤ h0.size) (hasd : ¬ (s__assertionsDisabled = (0 : Int32))) (hhi : s_HI_BYTE_SHIFT = (0 : Int32)) (hlo : s_LO_BYTE_SHIFT = (8 : Int32)) (hch0 : nar .char x_a1_0 = x_a1_0) (hch1 : nar .char x_a1_1 = x_a1_1) (hch2 : nar .char x_a1_2 = x_a1_2) (hch3 : nar .char x_a1_3 = x_a1_3) (S__assertionsDisabled : Sta Z h0 "java/lang/StringUTF16" "$assertionsDisabled" "Z" (.int s__assertionsDisabled)) (S_HI_BYTE_SHIFT : Sta Z h0 "java/lang/StringUTF16" "HI_BYTE_SHIFT" "I" (.int s_HI_BYTE_SHIFT)) (S_LO_BYTE_SHIFT : Sta Z h0 "java/lang/StringUTF16" "LO_BYTE_SHIFT" "I" (.int s_LO_BYTE_SHIFT)) (V_a1 : Arv Z h0 a1 k_a1 .char (4 : Int32) [(.int x_a1_0), (.int x_a1_1), (.int x_a1_2), (.int x_a1_3)] (.int (0 : Int32))) (hhc20_9 : ¬ ((255 : Int32) < x_a1_0)) (hhc20'_9 : ¬ ((255 : Int32) < x_a1_1)) (hhc20''_9 : ¬ ((255 : Int32) < x_a1_2)) (hhc20'''_9 : ¬ ((255 : Int32) < x_a1_3)) :
    MetFree l (⟨"java/lang/StringUTF16", "compress", "([CII)[B"⟩ : MethodName) (head1 (Jvm.Cond.code (⟨"java/lang/StringUTF16", "compress", "([CII)[B"⟩ : MethodName) jdk_52_method_16_code 6 (some (.array .byte)) :: ws) ({ frames := 3, cells := 2, slots := 12, locals := 40 } : Room)) (fun a U => a = #[(.ref a1), (.int (0 : Int32)), (.int (4 : Int32))] ∧ Z.Warmed39 U.vm ∧ U.heap = h0) (fun _ _ _ _ _ => True) (fun _ U o U' => ∃ v L, o = .returned v ∧ Q_rm7_4 Z a1 s__assertionsDisabled s_HI_BYTE_SHIFT s_LO_BYTE_SHIFT k_a1 x_a1_0 x_a1_1 x_a1_2 x_a1_3 h0 n0 v U'.heap L ∧ FrameEnd U o U' L ({ frames := 3, cells := 2, slots := 12, locals := 40 } : Room).cells ({ frames := 3, cells := 2, slots := 12, locals := 40 } : Room).slots) := by
  have hi : ∀ (i : Nat) {d : Jvm.Cond}, tables_1[i]? = some d → d.before a0 Z = true := fun i d h => hw d (List.mem_of_getElem? h)
  refine MetFree.of_bodySF (plainFor_of_name pn_7) hisR ?_
  intro p e s m args below meth c s₁ Bd hml0 hP hK
  obtain ⟨rfl, hZ, hh⟩ := hP
  have hx := Bd.exec
  have hby := Bd.bytes
  have hml : c.maxLocals = 6 := hml0
  have hown : s.vm.findClass "java/lang/StringUTF16" = some m.cls := findClass_of_methodNamed Bd.named
  have hnm := (name_of_methodNamed Bd.named Bd.method).1
  have X0 : Stand p l e ({ frames := 3, cells := 2, slots := 12, locals := 40 } : Room) s m #[(.ref a1), (.int (0 : Int32)), (.int (4 : Int32))] below meth c s₁ [] 0 0 := Stand.of_body Bd
  have e0 : s₁.heap = h0 := by rw [← hh, Bd.state]; rfl
  have N0 := Fr.nil n0
  have pre0 : ∀ t, Steps p.tables e below (s₁.setTop (mkF m 0 #[vA a1, vI (0 : Int32), vI (4 : Int32), vU, vU, vU] [])) t → Steps p.tables e below (s₁.setTop (entryFrame m #[(.ref a1), (.int (0 : Int32)), (.int (4 : Int32))] 6)) t := fun t k => castTop (ef_7 m a1 (0 : Int32) (4 : Int32)) k
  obtain ⟨T2, h2, k2, X2, e2, E2, A2, st2⟩ := newP X0 hx hZ (hi 17 rfl) e0 (g := (mkF m 1 #[vA a1, vI (0 : Int32), vI (4 : Int32), vU, vU, vU] [(.int (4 : Int32))])) rfl (hb hby d7_1) rfl (by decide) (cap := 4) (by decide) (by decide) (by decide) (by decide)
  obtain ⟨b2, g2⟩ : ∃ z, z = h0.size := ⟨_, rfl⟩
  rw [← g2] at A2 st2
  have g_b2 : n0 ≤ b2 := Nat.le_trans Z0 (Nat.le_of_eq g2.symm)
  have sz_b2 : h0.size ≤ b2 := Nat.le_trans (Nat.le_refl h0.size) (Nat.le_of_eq g2.symm)
  have V_b2 : Arv Z h2 b2 k2 .byte (4 : Int32) [(.int (0 : Int32)), (.int (0 : Int32)), (.int (0 : Int32)), (.int (0 : Int32))] (.int (0 : Int32)) := (Arv.new A2 (by decide)).pad (pad_rep [] (.int (0 : Int32)) 4)
  have f0 := (V_a1.ext E2)
  obtain ⟨_, _, ⟨T3, L3, k3, n3⟩, -, X3, ⟨Lc3, hQ3, l3, y3, z3⟩, st3⟩ := Jvm.LawKit.callS X2 hx (y := (⟨"java/lang/StringUTF16", "compress", "([CI[BII)I"⟩ : MethodName)) hown (mvT hZ (hi 47 rfl)) (mvT hZ (hi 48 rfl)) (mvT hZ (hi 45 rfl)) (mvT hZ (hi 49 rfl)) (by decide) (backOf (W := 0) (rm8_4_4 l Z a0 hw [] a1 b2 k_a1 x_a1_0 x_a1_1 x_a1_2 x_a1_3 k2 (0 : Int32) (0 : Int32) (0 : Int32) (0 : Int32) h2 n0 (Nat.le_trans Z0 E2.1) g_b2 f0 V_b2 hhc20_9 (Nat.ne_of_lt (Nat.lt_of_lt_of_le V_a1.lt (Nat.le_of_eq g2.symm))) hhc20'_9 hhc20''_9 hhc20'''_9) hZ (hi 49 rfl) (hi 45 rfl) (by decide) (by decide)) (g := (mkF m 9 #[vA a1, vI (0 : Int32), vI (4 : Int32), vA b2, vU, vU] [(.int (4 : Int32)), (.int (0 : Int32)), (.ref b2), (.int (0 : Int32)), (.ref a1)])) rfl (by rw [hml]; rfl) (argsL := [(.ref a1), (.int (0 : Int32)), (.ref b2), (.int (0 : Int32)), (.int (4 : Int32))]) (rest := []) (lenOf pd__28_5bCI_5bBII_29I rfl) rfl (by show 2 * 0 + _ ≤ _; exact Nat.le_of_eq rfl) (hb hby d7_9) (fun _ _ => ⟨rfl, e2, (by decide : 1 + 0 ≤ _), (by decide : 4 + 0 ≤ _)⟩)
  dsimp only [Pt.U, Pt.locs, Pt.cells, Pt.slots] at X3 l3 y3 z3 st3 hQ3
  subst l3 y3 z3
  obtain ⟨rfl, N3q, K3, i3_0⟩ := hQ3
  have N3 := Fr.app N0 N3q
  obtain ⟨fs, hr, hrun, hended, hW, hsame⟩ := X3.leave (v := some (.ref b2)) (fun h => by rw [Bd.returns] at h; cases h)
  refine ⟨_, _, pre0 _ ?_, hrun, hended, _, _, rfl, ?_, ⟨_, rfl⟩, hW, hsame.mono (by decide) (by decide)⟩
  · show Steps p.tables e below (s₁.setTop (mkF m 0 #[vA a1, vI (0 : Int32), vI (4 : Int32), vU, vU, vU] [])) _
    refine XS.iloadN X0.here hx rfl (hb hby d7_0) rfl ?_
    show Steps p.tables e below (s₁.setTop (mkF m 1 #[vA a1, vI (0 : Int32), vI (4 : Int32), vU, vU, vU] [(.int (4 : Int32))])) _
    refine st2 _ ?_
    refine XS.astoreN X2.here hx rfl (hb hby d7_3) rfl rfl (l' := #[vA a1, vI (0 : Int32), vI (4 : Int32), vA b2, vU, vU]) rfl ?_
    refine XS.aloadN X2.here hx rfl (hb hby d7_4) rfl rfl ?_
    refine XS.iloadN X2.here hx rfl (hb hby d7_5) rfl ?_
    refine XS.aloadN X2.here hx rfl (hb hby d7_6) rfl rfl ?_
    refine XS.iconst X2.here hx rfl (hb hby d7_7) ?_
    refine XS.iloadN X2.here hx rfl (hb hby d7_8) rfl ?_
    show Steps p.tables e below (T2.setTop (mkF m 9 #[vA a1, vI (0 : Int32), vI (4 : Int32), vA b2, vU, vU] [(.int (4 : Int32)), (.int (0 : Int32)), (.ref b2), (.int (0 : Int32)), (.ref a1)])) _
    refine st3 _ ?_
    refine XS.istore X3.here hx rfl (hb hby d7_12) rfl (l' := #[vA a1, vI (0 : Int32), vI (4 : Int32), vA b2, vI (4 : Int32), vU]) rfl ?_
    refine XS.iload X3.here hx rfl (hb hby d7_14) rfl ?_
    refine XS.iloadN X3.here hx rfl (hb hby d7_16) rfl ?_
    show Steps p.tables e below (T3.setTop (mkF m 17 #[vA a1, vI (0 : Int32), vI (4 : Int32), vA b2, vI (4 : Int32), vU] [(.int (4 : Int32)), (.int (4 : Int32))])) _
    refine XS.icmpYes X3.here hx rfl (pc0 := 17) (pc' := 57) rfl (hb hby d7_17) rfl (teq (rfl : (4 : Int32) = (4 : Int32))).1 (by decide) (by decide) ?_
    refine XS.aloadN X3.here hx rfl (hb hby d7_57) rfl rfl ?_
    show Steps p.tables e below (T3.setTop (mkF m 58 #[vA a1, vI (0 : Int32), vI (4 : Int32), vA b2, vI (4 : Int32), vU] [(.ref b2)])) _
    jvm_step X3.here [X3.here.top, hx, (hb hby d7_58), X3.method', Bd.returns, Value.isRef, FieldType.isReference]
    first | (intro acts; rw [hr _ acts rfl rfl rfl]) | rw [hr _ _ rfl rfl rfl]
    exact Steps.refl _
  · show Q_rm7_4 Z a1 s__assertionsDisabled s_HI_BYTE_SHIFT s_LO_BYTE_SHIFT k_a1 x_a1_0 x_a1_1 x_a1_2 x_a1_3 h0 n0 _ T3.heap _
    exact ⟨b2, ⟨k2, ⟨(4 : Int32), ⟨[(.int (nar .byte (x_a1_0.toInt8.toInt32))), (.int (nar .byte (x_a1_1.toInt8.toInt32))), (.int (nar .byte (x_a1_2.toInt8.toInt32))), (.int (nar .byte (x_a1_3.toInt8.toInt32)))], ⟨rfl, N3, (((Keep.refl h0 []).ext E2).trans K3 (fun x q => (List.mem_cons.mp q).elim (fun r => r ▸ (Or.inr sz_b2)) ((fun _ q => nomatch q) x))), sz_b2, i3_0, Or.inl rfl⟩⟩⟩⟩⟩
set_option maxHeartbeats 4000000 in
theorem rm7_4 (l : Launch) (Z : State) (a0 : Array Value) (hw : ∀ d ∈ tables_1, d.before a0 Z = true) (ws : List Jvm.Cond) (a1 : Addr) (s__assertionsDisabled : Int32) (s_HI_BYTE_SHIFT : Int32) (s_LO_BYTE_SHIFT : Int32) (k_a1 : ClassId) (x_a1_0 : Int32) (x_a1_1 : Int32) (x_a1_2 : Int32) (x_a1_3 : Int32) (h0 : Heap) (n0 : Nat) (Z0 : n0 ≤ h0.size) (hasd : ¬ (s__assertionsDisabled = (0 : Int32))) (hhi : s_HI_BYTE_SHIFT = (0 : Int32)) (hlo : s_LO_BYTE_SHIFT = (8 : Int32)) (hch0 : nar .char x_a1_0 = x_a1_0) (hch1 : nar .char x_a1_1 = x_a1_1) (hch2 : nar .char x_a1_2 = x_a1_2) (hch3 : nar .char x_a1_3 = x_a1_3) (S__assertionsDisabled : Sta Z h0 "java/lang/StringUTF16" "$assertionsDisabled" "Z" (.int s__assertionsDisabled)) (S_HI_BYTE_SHIFT : Sta Z h0 "java/lang/StringUTF16" "HI_BYTE_SHIFT" "I" (.int s_HI_BYTE_SHIFT)) (S_LO_BYTE_SHIFT : Sta Z h0 "java/lang/StringUTF16" "LO_BYTE_SHIFT" "I" (.int s_LO_BYTE_SHIFT)) (V_a1 : Arv Z h0 a1 k_a1 .char (4 : Int32) [(.int x_a1_0), (.int x_a1_1), (.int x_a1_2), (.int x_a1_3)] (.int (0 : Int32))) :
    MetFree l (⟨"java/lang/StringUTF16", "compress", "([CII)[B"⟩ : MethodName) (head1 (Jvm.Cond.code (⟨"java/lang/StringUTF16", "compress", "([CII)[B"⟩ : MethodName) jdk_52_method_16_code 6 (some (.array .byte)) :: ws) ({ frames := 3, cells := 2, slots := 12, locals := 40 } : Room)) (fun a U => a = #[(.ref a1), (.int (0 : Int32)), (.int (4 : Int32))] ∧ Z.Warmed39 U.vm ∧ U.heap = h0) (fun _ _ _ _ _ => True) (fun _ U o U' => ∃ v L, o = .returned v ∧ Q_rm7_4 Z a1 s__assertionsDisabled s_HI_BYTE_SHIFT s_LO_BYTE_SHIFT k_a1 x_a1_0 x_a1_1 x_a1_2 x_a1_3 h0 n0 v U'.heap L ∧ FrameEnd U o U' L ({ frames := 3, cells := 2, slots := 12, locals := 40 } : Room).cells ({ frames := 3, cells := 2, slots := 12, locals := 40 } : Room).slots) := by
  by_cases hhc20_9 : (255 : Int32) < x_a1_0
  · skip
    exact rm7_4_k0 l Z a0 hw ws a1 s__assertionsDisabled s_HI_BYTE_SHIFT s_LO_BYTE_SHIFT k_a1 x_a1_0 x_a1_1 x_a1_2 x_a1_3 h0 n0 Z0 hasd hhi hlo hch0 hch1 hch2 hch3 S__assertionsDisabled S_HI_BYTE_SHIFT S_LO_BYTE_SHIFT V_a1 hhc20_9
  · skip
    by_cases hhc20'_9 : (255 : Int32) < x_a1_1
    · skip
      exact rm7_4_k1 l Z a0 hw ws a1 s__assertionsDisabled s_HI_BYTE_SHIFT s_LO_BYTE_SHIFT k_a1 x_a1_0 x_a1_1 x_a1_2 x_a1_3 h0 n0 Z0 hasd hhi hlo hch0 hch1 hch2 hch3 S__assertionsDisabled S_HI_BYTE_SHIFT S_LO_BYTE_SHIFT V_a1 hhc20_9 hhc20'_9
    · skip
      by_cases hhc20''_9 : (255 : Int32) < x_a1_2
      · skip
        exact rm7_4_k2 l Z a0 hw ws a1 s__assertionsDisabled s_HI_BYTE_SHIFT s_LO_BYTE_SHIFT k_a1 x_a1_0 x_a1_1 x_a1_2 x_a1_3 h0 n0 Z0 hasd hhi hlo hch0 hch1 hch2 hch3 S__assertionsDisabled S_HI_BYTE_SHIFT S_LO_BYTE_SHIFT V_a1 hhc20_9 hhc20'_9 hhc20''_9
      · skip
        by_cases hhc20'''_9 : (255 : Int32) < x_a1_3
        · skip
          exact rm7_4_k3 l Z a0 hw ws a1 s__assertionsDisabled s_HI_BYTE_SHIFT s_LO_BYTE_SHIFT k_a1 x_a1_0 x_a1_1 x_a1_2 x_a1_3 h0 n0 Z0 hasd hhi hlo hch0 hch1 hch2 hch3 S__assertionsDisabled S_HI_BYTE_SHIFT S_LO_BYTE_SHIFT V_a1 hhc20_9 hhc20'_9 hhc20''_9 hhc20'''_9
        · skip
          exact rm7_4_k4 l Z a0 hw ws a1 s__assertionsDisabled s_HI_BYTE_SHIFT s_LO_BYTE_SHIFT k_a1 x_a1_0 x_a1_1 x_a1_2 x_a1_3 h0 n0 Z0 hasd hhi hlo hch0 hch1 hch2 hch3 S__assertionsDisabled S_HI_BYTE_SHIFT S_LO_BYTE_SHIFT V_a1 hhc20_9 hhc20'_9 hhc20''_9 hhc20'''_9
def Q_rm2_4 (Z : State) (a1 : Addr) (a2 : Addr) (s_COMPACT_STRINGS : Int32) (s__assertionsDisabled : Int32) (s_HI_BYTE_SHIFT : Int32) (s_LO_BYTE_SHIFT : Int32) (w_coder_a1 : Int32) (w_value_a1 : Value) (k_a2 : ClassId) (x_a2_0 : Int32) (x_a2_1 : Int32) (x_a2_2 : Int32) (x_a2_3 : Int32) (h0 : Heap) (n0 : Nat) (v : Option Value) (h : Heap) (L : List Loc) : Prop := ∃ b_5 : Addr, ∃ k_5 : ClassId, ∃ zz_5 : Int32, ∃ vs_5 : List Value, v = none ∧ Fr n0 L ∧ Keep h0 h [a1] ∧ h0.size ≤ b_5 ∧ Exa Z h a1 "java/lang/String" ∧ Fld Z h a1 "java/lang/String" "coder" "B" (.int (nar .byte (nar .byte ((t9_0 (4 : Int32) zz_5).toInt8.toInt32)))) ∧ Fld Z h a1 "java/lang/String" "value" "[B" (.ref b_5) ∧ Arv Z h b_5 k_5 .byte zz_5 vs_5 (.int (0 : Int32)) ∧ (zz_5 = (4 : Int32) ∨ zz_5 = (8 : Int32))
set_option maxRecDepth 65536 in
set_option maxHeartbeats 40000000 in
theorem rm2_4 (l : Launch) (Z : State) (a0 : Array Value) (hw : ∀ d ∈ tables_1, d.before a0 Z = true) (ws : List Jvm.Cond) (a1 : Addr) (a2 : Addr) (s_COMPACT_STRINGS : Int32) (s__assertionsDisabled : Int32) (s_HI_BYTE_SHIFT : Int32) (s_LO_BYTE_SHIFT : Int32) (w_coder_a1 : Int32) (w_value_a1 : Value) (k_a2 : ClassId) (x_a2_0 : Int32) (x_a2_1 : Int32) (x_a2_2 : Int32) (x_a2_3 : Int32) (h0 : Heap) (n0 : Nat) (Z0 : n0 ≤ h0.size) (hcs : ¬ (s_COMPACT_STRINGS = (0 : Int32))) (hasd : ¬ (s__assertionsDisabled = (0 : Int32))) (hhi : s_HI_BYTE_SHIFT = (0 : Int32)) (hlo : s_LO_BYTE_SHIFT = (8 : Int32)) (hch0 : nar .char x_a2_0 = x_a2_0) (hch1 : nar .char x_a2_1 = x_a2_1) (hch2 : nar .char x_a2_2 = x_a2_2) (hch3 : nar .char x_a2_3 = x_a2_3) (S_COMPACT_STRINGS : Sta Z h0 "java/lang/String" "COMPACT_STRINGS" "Z" (.int s_COMPACT_STRINGS)) (S__assertionsDisabled : Sta Z h0 "java/lang/StringUTF16" "$assertionsDisabled" "Z" (.int s__assertionsDisabled)) (S_HI_BYTE_SHIFT : Sta Z h0 "java/lang/StringUTF16" "HI_BYTE_SHIFT" "I" (.int s_HI_BYTE_SHIFT)) (S_LO_BYTE_SHIFT : Sta Z h0 "java/lang/StringUTF16" "LO_BYTE_SHIFT" "I" (.int s_LO_BYTE_SHIFT)) (E_a1 : Exa Z h0 a1 "java/lang/String") (F_coder_a1 : Fld Z h0 a1 "java/lang/String" "coder" "B" (.int w_coder_a1)) (g_a1 : n0 ≤ a1) (F_value_a1 : Fld Z h0 a1 "java/lang/String" "value" "[B" w_value_a1) (V_a2 : Arv Z h0 a2 k_a2 .char (4 : Int32) [(.int x_a2_0), (.int x_a2_1), (.int x_a2_2), (.int x_a2_3)] (.int (0 : Int32))) :
    MetFree l (⟨"java/lang/String", "<init>", "([CIILjava/lang/Void;)V"⟩ : MethodName) (head1 (Jvm.Cond.code (⟨"java/lang/String", "<init>", "([CIILjava/lang/Void;)V"⟩ : MethodName) jdk_42_method_149_code 6 none :: ws) ({ frames := 4, cells := 2, slots := 12, locals := 57 } : Room)) (fun a U => a = #[(.ref a1), (.ref a2), (.int (0 : Int32)), (.int (4 : Int32)), .null] ∧ Z.Warmed39 U.vm ∧ U.heap = h0) (fun _ _ _ _ _ => True) (fun _ U o U' => ∃ v L, o = .returned v ∧ Q_rm2_4 Z a1 a2 s_COMPACT_STRINGS s__assertionsDisabled s_HI_BYTE_SHIFT s_LO_BYTE_SHIFT w_coder_a1 w_value_a1 k_a2 x_a2_0 x_a2_1 x_a2_2 x_a2_3 h0 n0 v U'.heap L ∧ FrameEnd U o U' L ({ frames := 4, cells := 2, slots := 12, locals := 57 } : Room).cells ({ frames := 4, cells := 2, slots := 12, locals := 57 } : Room).slots) := by
  have hi : ∀ (i : Nat) {d : Jvm.Cond}, tables_1[i]? = some d → d.before a0 Z = true := fun i d h => hw d (List.mem_of_getElem? h)
  refine MetFree.of_bodySF (plainFor_of_name pn_2) hisR ?_
  intro p e s m args below meth c s₁ Bd hml0 hP hK
  obtain ⟨rfl, hZ, hh⟩ := hP
  have hx := Bd.exec
  have hby := Bd.bytes
  have hml : c.maxLocals = 6 := hml0
  have hown : s.vm.findClass "java/lang/String" = some m.cls := findClass_of_methodNamed Bd.named
  have hnm := (name_of_methodNamed Bd.named Bd.method).1
  have X0 : Stand p l e ({ frames := 4, cells := 2, slots := 12, locals := 57 } : Room) s m #[(.ref a1), (.ref a2), (.int (0 : Int32)), (.int (4 : Int32)), .null] below meth c s₁ [] 0 0 := Stand.of_body Bd
  have e0 : s₁.heap = h0 := by rw [← hh, Bd.state]; rfl
  have N0 := Fr.nil n0
  have pre0 : ∀ t, Steps p.tables e below (s₁.setTop (mkF m 0 #[vA a1, vA a2, vI (0 : Int32), vI (4 : Int32), .val .null, vU] [])) t → Steps p.tables e below (s₁.setTop (entryFrame m #[(.ref a1), (.ref a2), (.int (0 : Int32)), (.int (4 : Int32)), .null] 6)) t := fun t k => castTop (ef_2n4 m a1 a2 (0 : Int32) (4 : Int32)) k
  obtain ⟨T3, X3, e3, st3⟩ := initO X0 hx hZ hown (hi 13 rfl) (hi 14 rfl) (hi 15 rfl) e0 (g := (mkF m 1 #[vA a1, vA a2, vI (0 : Int32), vI (4 : Int32), .val .null, vU] [(.ref a1)])) rfl (by rw [hml]; rfl) rfl (hb hby d2_1) (by decide) (W := 0) (by show 2 * 0 + _ ≤ _; exact Nat.le_of_eq rfl) (by decide)
  obtain ⟨T4, X4, e4, st4⟩ := getS2 X3 hx hZ hown (host := "") (Or.inl (hi 42 rfl)) Via.refl e3 S_COMPACT_STRINGS (g := (mkF m 27 #[vA a1, vA a2, vI (0 : Int32), vI (4 : Int32), .val .null, vU] [])) rfl (hb hby d2_27)
  obtain ⟨_, _, ⟨T5, L5, k5, n5⟩, -, X5, ⟨Lc5, hQ5, l5, y5, z5⟩, st5⟩ := Jvm.LawKit.callS X4 hx (y := (⟨"java/lang/StringUTF16", "compress", "([CII)[B"⟩ : MethodName)) hown (mvT hZ (hi 43 rfl)) (mvT hZ (hi 44 rfl)) (mvT hZ (hi 45 rfl)) (mvT hZ (hi 46 rfl)) (by decide) (backOf (W := 0) (rm7_4 l Z a0 hw [] a2 s__assertionsDisabled s_HI_BYTE_SHIFT s_LO_BYTE_SHIFT k_a2 x_a2_0 x_a2_1 x_a2_2 x_a2_3 h0 n0 Z0 hasd hhi hlo hch0 hch1 hch2 hch3 S__assertionsDisabled S_HI_BYTE_SHIFT S_LO_BYTE_SHIFT V_a2) hZ (hi 46 rfl) (hi 45 rfl) (by decide) (by decide)) (g := (mkF m 36 #[vA a1, vA a2, vI (0 : Int32), vI (4 : Int32), .val .null, vU] [(.int (4 : Int32)), (.int (0 : Int32)), (.ref a2)])) rfl (by rw [hml]; rfl) (argsL := [(.ref a2), (.int (0 : Int32)), (.int (4 : Int32))]) (rest := []) (lenOf pd__28_5bCII_29_5bB rfl) rfl (by show 2 * 0 + _ ≤ _; exact Nat.le_of_eq rfl) (hb hby d2_36) (fun _ _ => ⟨rfl, e4, (by decide : 0 + 2 ≤ _), (by decide : 0 + 12 ≤ _)⟩)
  dsimp only [Pt.U, Pt.locs, Pt.cells, Pt.slots] at X5 l5 y5 z5 st5 hQ5
  subst l5 y5 z5
  obtain ⟨b_5, ⟨k_5, ⟨zz_5, ⟨vs_5, ⟨rfl, N5q, K5, i5_0, i5_1, i5_2⟩⟩⟩⟩⟩ := hQ5
  have N5 := Fr.app N0 N5q
  have sz_b_5 : h0.size ≤ b_5 := Nat.le_trans (Nat.le_refl h0.size) i5_0
  have g_b_5 : n0 ≤ b_5 := Nat.le_trans Z0 sz_b_5
  obtain ⟨_, _, ⟨T6, L6, k6, n6⟩, -, X6, ⟨Lc6, hQ6, l6, y6, z6⟩, st6⟩ := Jvm.LawKit.callS X5 hx (y := (⟨"java/lang/StringUTF16", "coderFromArrayLen", "([BI)B"⟩ : MethodName)) hown (mvT hZ (hi 50 rfl)) (mvT hZ (hi 51 rfl)) (mvT hZ (hi 45 rfl)) (mvT hZ (hi 52 rfl)) (by decide) (backOf (W := 1) (rm9 l Z a0 hw [] b_5 (4 : Int32) k_5 zz_5 vs_5 T5.heap n0 (Nat.le_trans Z0 K5.1) i5_1) hZ (hi 52 rfl) (hi 45 rfl) (by decide) (by decide)) (g := (mkF m 45 #[vA a1, vA a2, vI (0 : Int32), vI (4 : Int32), .val .null, vA b_5] [(.int (4 : Int32)), (.ref b_5), (.ref a1)])) rfl (by rw [hml]; rfl) (argsL := [(.ref b_5), (.int (4 : Int32))]) (rest := [(.ref a1)]) (lenOf pd__28_5bBI_29B rfl) rfl (by show 2 * 0 + _ ≤ _; exact Nat.le_of_eq rfl) (hb hby d2_45) (fun _ _ => ⟨rfl, rfl, (by decide : 2 + 0 ≤ _), (by decide : 12 + 0 ≤ _)⟩)
  dsimp only [Pt.U, Pt.locs, Pt.cells, Pt.slots] at X6 l6 y6 z6 st6 hQ6
  subst l6 y6 z6
  obtain ⟨rfl, N6q, e6⟩ := hQ6
  have N6 := Fr.app N5 N6q
  have f0 := (E_a1.keep K5)
  have f1 := (F_coder_a1.keep K5 own_n0)
  obtain ⟨T7, h7, X7, e7, W7, st7⟩ := putFN X6 hx hZ hown (hi 23 rfl) Via.refl e6 f1 f0 (Or.inr ⟨(hi 19 rfl), rfl, hnm⟩) (hi 3 rfl) (ty := .byte) (v' := (.int (nar .byte (nar .byte ((t9_0 (4 : Int32) zz_5).toInt8.toInt32))))) (by decide) rfl (fits_nar_byte _) (g := (mkF m 48 #[vA a1, vA a2, vI (0 : Int32), vI (4 : Int32), .val .null, vA b_5] [(.int (nar .byte ((t9_0 (4 : Int32) zz_5).toInt8.toInt32))), (.ref a1)])) rfl rfl (hb hby d2_48)
  have Fw7 := f1.same W7
  have N7 := Fr.snoc X7 N6 g_a1
  have f2 := (f0.wr W7)
  have f3 := ((F_value_a1.keep K5 own_n0).other W7 (Or.inr (slot_ne (Or.inr (hi 18 rfl)) (Or.inr (hi 19 rfl)) (by decide) (t := (.array .byte)) (t' := .byte) (by decide) (by decide))))
  obtain ⟨T8, h8, X8, e8, W8, st8⟩ := putF X7 hx hZ hown (host := "") (Or.inl (hi 22 rfl)) Via.refl e7 f3 f2 (Or.inr ⟨(hi 18 rfl), rfl, hnm⟩) (hi 3 rfl) (ty := (.array .byte)) (by decide) rfl rfl (g := (mkF m 54 #[vA a1, vA a2, vI (0 : Int32), vI (4 : Int32), .val .null, vA b_5] [(.ref b_5), (.ref a1)])) rfl rfl (hb hby d2_54)
  have Fw8 := f3.same W8
  have N8 := Fr.snoc X8 N7 g_a1
  have f4 := (f2.wr W8)
  have f5 := (Fw7.other W8 (Or.inr (slot_ne (Or.inr (hi 19 rfl)) (Or.inr (hi 18 rfl)) (by decide) (t := .byte) (t' := (.array .byte)) (by decide) (by decide))))
  have f6 := ((i5_1.other W7 (Ne.symm (Nat.ne_of_lt (Nat.lt_of_lt_of_le E_a1.lt i5_0)))).other W8 (Ne.symm (Nat.ne_of_lt (Nat.lt_of_lt_of_le E_a1.lt i5_0))))
  obtain ⟨fs, hr, hrun, hended, hW, hsame⟩ := X8.leave (v := none) (fun _ => rfl)
  refine ⟨_, _, pre0 _ ?_, hrun, hended, _, _, rfl, ?_, ⟨_, rfl⟩, hW, hsame.mono (by decide) (by decide)⟩
  · show Steps p.tables e below (s₁.setTop (mkF m 0 #[vA a1, vA a2, vI (0 : Int32), vI (4 : Int32), .val .null, vU] [])) _
    refine XS.aloadN X0.here hx rfl (hb hby d2_0) rfl rfl ?_
    show Steps p.tables e below (s₁.setTop (mkF m 1 #[vA a1, vA a2, vI (0 : Int32), vI (4 : Int32), .val .null, vU] [(.ref a1)])) _
    refine st3 _ ?_
    refine XS.iloadN X3.here hx rfl (hb hby d2_4) rfl ?_
    show Steps p.tables e below (T3.setTop (mkF m 5 #[vA a1, vA a2, vI (0 : Int32), vI (4 : Int32), .val .null, vU] [(.int (4 : Int32))])) _
    refine XS.ifYes X3.here hx rfl (pc0 := 5) (pc' := 27) rfl (hb hby d2_5) rfl ((if0 _ _).trans (feq (by decide : ¬ ((4 : Int32) = (0 : Int32)))).2) (by decide) (by decide) ?_
    show Steps p.tables e below (T3.setTop (mkF m 27 #[vA a1, vA a2, vI (0 : Int32), vI (4 : Int32), .val .null, vU] [])) _
    refine st4 _ ?_
    show Steps p.tables e below (T4.setTop (mkF m 30 #[vA a1, vA a2, vI (0 : Int32), vI (4 : Int32), .val .null, vU] [(.int s_COMPACT_STRINGS)])) _
    refine XS.ifNo X4.here hx rfl (hb hby d2_30) rfl ((if0 _ _).trans (feq (show ¬ (s_COMPACT_STRINGS = (0 : Int32)) from hcs)).1) ?_
    refine XS.aloadN X4.here hx rfl (hb hby d2_33) rfl rfl ?_
    refine XS.iloadN X4.here hx rfl (hb hby d2_34) rfl ?_
    refine XS.iloadN X4.here hx rfl (hb hby d2_35) rfl ?_
    show Steps p.tables e below (T4.setTop (mkF m 36 #[vA a1, vA a2, vI (0 : Int32), vI (4 : Int32), .val .null, vU] [(.int (4 : Int32)), (.int (0 : Int32)), (.ref a2)])) _
    refine st5 _ ?_
    refine XS.astore X5.here hx rfl (hb hby d2_39) rfl rfl (l' := #[vA a1, vA a2, vI (0 : Int32), vI (4 : Int32), .val .null, vA b_5]) rfl ?_
    refine XS.aloadN X5.here hx rfl (hb hby d2_41) rfl rfl ?_
    refine XS.aload X5.here hx rfl (hb hby d2_42) rfl rfl ?_
    refine XS.iloadN X5.here hx rfl (hb hby d2_44) rfl ?_
    show Steps p.tables e below (T5.setTop (mkF m 45 #[vA a1, vA a2, vI (0 : Int32), vI (4 : Int32), .val .null, vA b_5] [(.int (4 : Int32)), (.ref b_5), (.ref a1)])) _
    refine st6 _ ?_
    show Steps p.tables e below (T6.setTop (mkF m 48 #[vA a1, vA a2, vI (0 : Int32), vI (4 : Int32), .val .null, vA b_5] [(.int (nar .byte ((t9_0 (4 : Int32) zz_5).toInt8.toInt32))), (.ref a1)])) _
    refine st7 _ ?_
    refine XS.aloadN X7.here hx rfl (hb hby d2_51) rfl rfl ?_
    refine XS.aload X7.here hx rfl (hb hby d2_52) rfl rfl ?_
    show Steps p.tables e below (T7.setTop (mkF m 54 #[vA a1, vA a2, vI (0 : Int32), vI (4 : Int32), .val .null, vA b_5] [(.ref b_5), (.ref a1)])) _
    refine st8 _ ?_
    show Steps p.tables e below (T8.setTop (mkF m 57 #[vA a1, vA a2, vI (0 : Int32), vI (4 : Int32), .val .null, vA b_5] [])) _
    exact X8.returnOut hx Bd.returns (hb hby d2_57) hr
  · show Q_rm2_4 Z a1 a2 s_COMPACT_STRINGS s__assertionsDisabled s_HI_BYTE_SHIFT s_LO_BYTE_SHIFT w_coder_a1 w_value_a1 k_a2 x_a2_0 x_a2_1 x_a2_2 x_a2_3 h0 n0 _ T8.heap _
    rw [e8]
    exact ⟨b_5, ⟨k_5, ⟨zz_5, ⟨vs_5, ⟨rfl, N8, ((((Keep.refl h0 [a1]).trans K5 (fun _ q => nomatch q)).wr W7 (Or.inl (List.mem_of_getElem? (i := 0) rfl))).wr W8 (Or.inl (List.mem_of_getElem? (i := 0) rfl))), sz_b_5, f4, f5, Fw8, f6, i5_2⟩⟩⟩⟩⟩
def Q_rm1_4 (Z : State) (a1 : Addr) (a2 : Addr) (s_COMPACT_STRINGS : Int32) (s__assertionsDisabled : Int32) (s_HI_BYTE_SHIFT : Int32) (s_LO_BYTE_SHIFT : Int32) (w_coder_a1 : Int32) (w_value_a1 : Value) (k_a2 : ClassId) (x_a2_0 : Int32) (x_a2_1 : Int32) (x_a2_2 : Int32) (x_a2_3 : Int32) (h0 : Heap) (n0 : Nat) (v : Option Value) (h : Heap) (L : List Loc) : Prop := ∃ b_5_3 : Addr, ∃ k_5_3 : ClassId, ∃ zz_5_3 : Int32, ∃ vs_5_3 : List Value, v = none ∧ Fr n0 L ∧ Keep h0 h [a1] ∧ h0.size ≤ b_5_3 ∧ Exa Z h a1 "java/lang/String" ∧ Fld Z h a1 "java/lang/String" "coder" "B" (.int (nar .byte (nar .byte ((t9_0 (4 : Int32) zz_5_3).toInt8.toInt32)))) ∧ Fld Z h a1 "java/lang/String" "value" "[B" (.ref b_5_3) ∧ Arv Z h b_5_3 k_5_3 .byte zz_5_3 vs_5_3 (.int (0 : Int32)) ∧ (zz_5_3 = (4 : Int32) ∨ zz_5_3 = (8 : Int32))
set_option maxRecDepth 65536 in
set_option maxHeartbeats 40000000 in
theorem rm1_4 (l : Launch) (Z : State) (a0 : Array Value) (hw : ∀ d ∈ tables_1, d.before a0 Z = true) (ws : List Jvm.Cond) (a1 : Addr) (a2 : Addr) (s_COMPACT_STRINGS : Int32) (s__assertionsDisabled : Int32) (s_HI_BYTE_SHIFT : Int32) (s_LO_BYTE_SHIFT : Int32) (w_coder_a1 : Int32) (w_value_a1 : Value) (k_a2 : ClassId) (x_a2_0 : Int32) (x_a2_1 : Int32) (x_a2_2 : Int32) (x_a2_3 : Int32) (h0 : Heap) (n0 : Nat) (Z0 : n0 ≤ h0.size) (hcs : ¬ (s_COMPACT_STRINGS = (0 : Int32))) (hasd : ¬ (s__assertionsDisabled = (0 : Int32))) (hhi : s_HI_BYTE_SHIFT = (0 : Int32)) (hlo : s_LO_BYTE_SHIFT = (8 : Int32)) (hch0 : nar .char x_a2_0 = x_a2_0) (hch1 : nar .char x_a2_1 = x_a2_1) (hch2 : nar .char x_a2_2 = x_a2_2) (hch3 : nar .char x_a2_3 = x_a2_3) (S_COMPACT_STRINGS : Sta Z h0 "java/lang/String" "COMPACT_STRINGS" "Z" (.int s_COMPACT_STRINGS)) (S__assertionsDisabled : Sta Z h0 "java/lang/StringUTF16" "$assertionsDisabled" "Z" (.int s__assertionsDisabled)) (S_HI_BYTE_SHIFT : Sta Z h0 "java/lang/StringUTF16" "HI_BYTE_SHIFT" "I" (.int s_HI_BYTE_SHIFT)) (S_LO_BYTE_SHIFT : Sta Z h0 "java/lang/StringUTF16" "LO_BYTE_SHIFT" "I" (.int s_LO_BYTE_SHIFT)) (F_coder_a1 : Fld Z h0 a1 "java/lang/String" "coder" "B" (.int w_coder_a1)) (F_value_a1 : Fld Z h0 a1 "java/lang/String" "value" "[B" w_value_a1) (E_a1 : Exa Z h0 a1 "java/lang/String") (g_a1 : n0 ≤ a1) (V_a2 : Arv Z h0 a2 k_a2 .char (4 : Int32) [(.int x_a2_0), (.int x_a2_1), (.int x_a2_2), (.int x_a2_3)] (.int (0 : Int32))) :
    MetFree l (⟨"java/lang/String", "<init>", "([C)V"⟩ : MethodName) (head1 (Jvm.Cond.code (⟨"java/lang/String", "<init>", "([C)V"⟩ : MethodName) jdk_42_method_3_code 2 none :: ws) ({ frames := 5, cells := 2, slots := 12, locals := 74 } : Room)) (fun a U => a = #[(.ref a1), (.ref a2)] ∧ Z.Warmed39 U.vm ∧ U.heap = h0) (fun _ _ _ _ _ => True) (fun _ U o U' => ∃ v L, o = .returned v ∧ Q_rm1_4 Z a1 a2 s_COMPACT_STRINGS s__assertionsDisabled s_HI_BYTE_SHIFT s_LO_BYTE_SHIFT w_coder_a1 w_value_a1 k_a2 x_a2_0 x_a2_1 x_a2_2 x_a2_3 h0 n0 v U'.heap L ∧ FrameEnd U o U' L ({ frames := 5, cells := 2, slots := 12, locals := 74 } : Room).cells ({ frames := 5, cells := 2, slots := 12, locals := 74 } : Room).slots) := by
  have hi : ∀ (i : Nat) {d : Jvm.Cond}, tables_1[i]? = some d → d.before a0 Z = true := fun i d h => hw d (List.mem_of_getElem? h)
  refine MetFree.of_bodySF (plainFor_of_name pn_1) hisR ?_
  intro p e s m args below meth c s₁ Bd hml0 hP hK
  obtain ⟨rfl, hZ, hh⟩ := hP
  have hx := Bd.exec
  have hby := Bd.bytes
  have hml : c.maxLocals = 2 := hml0
  have hown : s.vm.findClass "java/lang/String" = some m.cls := findClass_of_methodNamed Bd.named
  have hnm := (name_of_methodNamed Bd.named Bd.method).1
  have X0 : Stand p l e ({ frames := 5, cells := 2, slots := 12, locals := 74 } : Room) s m #[(.ref a1), (.ref a2)] below meth c s₁ [] 0 0 := Stand.of_body Bd
  have e0 : s₁.heap = h0 := by rw [← hh, Bd.state]; rfl
  have N0 := Fr.nil n0
  have pre0 : ∀ t, Steps p.tables e below (s₁.setTop (mkF m 0 #[vA a1, vA a2] [])) t → Steps p.tables e below (s₁.setTop (entryFrame m #[(.ref a1), (.ref a2)] 2)) t := fun t k => castTop (ef_1 m a1 a2) k
  obtain ⟨cl_a2_0, Ar_a2_0, q_a2_0, Sz_a2_0, Ng_a2_0, Ha_a2_0, Gt_a2_0⟩ := id V_a2
  obtain ⟨_, _, ⟨T3, L3, k3, n3⟩, -, X3, ⟨Lc3, hQ3, l3, y3, z3⟩, st3⟩ := X0.specialBack hx (y := (⟨"java/lang/String", "<init>", "([CIILjava/lang/Void;)V"⟩ : MethodName)) rfl hown (mvT hZ (hi 9 rfl)) (mvT hZ (hi 10 rfl)) (mvT hZ (hi 12 rfl)) (by decide) (backOf (W := 0) (rm2_4 l Z a0 hw [] a1 a2 s_COMPACT_STRINGS s__assertionsDisabled s_HI_BYTE_SHIFT s_LO_BYTE_SHIFT w_coder_a1 w_value_a1 k_a2 x_a2_0 x_a2_1 x_a2_2 x_a2_3 h0 n0 Z0 hcs hasd hhi hlo hch0 hch1 hch2 hch3 S_COMPACT_STRINGS S__assertionsDisabled S_HI_BYTE_SHIFT S_LO_BYTE_SHIFT E_a1 F_coder_a1 g_a1 F_value_a1 V_a2) hZ (hi 12 rfl) (hi 4 rfl) (by decide) (by decide)) (g := (mkF m 6 #[vA a1, vA a2] [.null, (.int (4 : Int32)), (.int (0 : Int32)), (.ref a2), (.ref a1)])) rfl (by rw [hml]; rfl) (Steps.refl _) (a := a1) (argsL := [(.ref a2), (.int (0 : Int32)), (.int (4 : Int32)), .null]) (rest := []) (lenOf pd__28_5bCIILjava_2flang_2fVoid_3b_29V rfl) rfl (by show 2 * 0 + _ ≤ _; exact Nat.le_of_eq rfl) (hb hby d1_6) (fun _ _ => ⟨rfl, e0, (by decide : 0 + 2 ≤ _), (by decide : 0 + 12 ≤ _)⟩)
  dsimp only [Pt.U, Pt.locs, Pt.cells, Pt.slots] at X3 l3 y3 z3 st3 hQ3
  subst l3 y3 z3
  obtain ⟨b_5_3, ⟨k_5_3, ⟨zz_5_3, ⟨vs_5_3, ⟨rfl, N3q, K3, i3_0, i3_1, i3_2, i3_3, i3_4, i3_5⟩⟩⟩⟩⟩ := hQ3
  have N3 := Fr.app N0 N3q
  have sz_b_5_3 : h0.size ≤ b_5_3 := Nat.le_trans (Nat.le_refl h0.size) i3_0
  have g_b_5_3 : n0 ≤ b_5_3 := Nat.le_trans Z0 sz_b_5_3
  obtain ⟨fs, hr, hrun, hended, hW, hsame⟩ := X3.leave (v := none) (fun _ => rfl)
  refine ⟨_, _, pre0 _ ?_, hrun, hended, _, _, rfl, ?_, ⟨_, rfl⟩, hW, hsame.mono (by decide) (by decide)⟩
  · show Steps p.tables e below (s₁.setTop (mkF m 0 #[vA a1, vA a2] [])) _
    refine XS.aloadN X0.here hx rfl (hb hby d1_0) rfl rfl ?_
    refine XS.aloadN X0.here hx rfl (hb hby d1_1) rfl rfl ?_
    refine XS.iconst X0.here hx rfl (hb hby d1_2) ?_
    refine XS.aloadN X0.here hx rfl (hb hby d1_3) rfl rfl ?_
    show Steps p.tables e below (s₁.setTop (mkF m 4 #[vA a1, vA a2] [(.ref a2), (.int (0 : Int32)), (.ref a2), (.ref a1)])) _
    refine X0.arraylength hx (by rw [e0]; exact Ar_a2_0.1) (State.isArrayOf_alike hZ.alike Ar_a2_0.2.1) (g := (mkF m 4 #[vA a1, vA a2] [(.ref a2), (.int (0 : Int32)), (.ref a2), (.ref a1)])) rfl rfl (hb hby d1_4) _ ?_
    rw [len_of Sz_a2_0 Ng_a2_0]
    refine XS.aconstNull X0.here hx rfl (hb hby d1_5) ?_
    show Steps p.tables e below (s₁.setTop (mkF m 6 #[vA a1, vA a2] [.null, (.int (4 : Int32)), (.int (0 : Int32)), (.ref a2), (.ref a1)])) _
    refine st3.trans ?_
    show Steps p.tables e below (T3.setTop (mkF m 9 #[vA a1, vA a2] [])) _
    exact X3.returnOut hx Bd.returns (hb hby d1_9) hr
  · show Q_rm1_4 Z a1 a2 s_COMPACT_STRINGS s__assertionsDisabled s_HI_BYTE_SHIFT s_LO_BYTE_SHIFT w_coder_a1 w_value_a1 k_a2 x_a2_0 x_a2_1 x_a2_2 x_a2_3 h0 n0 _ T3.heap _
    exact ⟨b_5_3, ⟨k_5_3, ⟨zz_5_3, ⟨vs_5_3, ⟨rfl, N3, ((Keep.refl h0 [a1]).trans K3 (fun x q => (List.mem_cons.mp q).elim (fun r => r ▸ (Or.inl (List.mem_of_getElem? (i := 0) rfl))) ((fun _ q => nomatch q) x))), sz_b_5_3, i3_1, i3_2, i3_3, i3_4, i3_5⟩⟩⟩⟩⟩
theorem own_strs {Z : State} {a0 : Array Value} (hw : ∀ d ∈ tables_1, d.before a0 Z = true) : ∀ a ∈ Bundle.stringAtoms, a.before a0 Z = true := fun d hd => by
  simp only [Bundle.stringAtoms, Bundle.sN, List.mem_cons, List.not_mem_nil, or_false] at hd
  rcases hd with rfl | rfl | rfl | rfl | rfl | rfl | rfl
  · exact (hw _ (List.mem_of_getElem? (i := 4) rfl))
  · exact (hw _ (List.mem_of_getElem? (i := 3) rfl))
  · exact (hw _ (List.mem_of_getElem? (i := 17) rfl))
  · exact (hw _ (List.mem_of_getElem? (i := 18) rfl))
  · exact (hw _ (List.mem_of_getElem? (i := 19) rfl))
  · exact (hw _ (List.mem_of_getElem? (i := 20) rfl))
  · exact (hw _ (List.mem_of_getElem? (i := 21) rfl))
theorem own_EW {Z : State} {a0 : Array Value} (hw : ∀ d ∈ tables_1, d.before a0 Z = true) : EW Z a0 consts_1 := (EW.cons (hw _ (List.mem_of_getElem? (i := 16) rfl)) (by decide) EW.nil)
theorem d2_8 : decode jdk_42_method_149_code 8 = .ok (.aload_n 0, 1) := by decide +kernel
theorem d2_9 : decode jdk_42_method_149_code 9 = .ok (.ldc 7, 2) := by decide +kernel
theorem d2_11 : decode jdk_42_method_149_code 11 = .ok (.getfield 9, 3) := by decide +kernel
theorem d2_14 : decode jdk_42_method_149_code 14 = .ok (.putfield 9, 3) := by decide +kernel
theorem d2_17 : decode jdk_42_method_149_code 17 = .ok (.aload_n 0, 1) := by decide +kernel
theorem d2_18 : decode jdk_42_method_149_code 18 = .ok (.ldc 7, 2) := by decide +kernel
theorem d2_20 : decode jdk_42_method_149_code 20 = .ok (.getfield 15, 3) := by decide +kernel
theorem d2_23 : decode jdk_42_method_149_code 23 = .ok (.putfield 15, 3) := by decide +kernel
theorem d2_26 : decode jdk_42_method_149_code 26 = .ok (.return_, 1) := by decide +kernel
def Q_rm2_0 (Z : State) (a1 : Addr) (a2 : Addr) (w_value_a1 : Value) (w_coder_a1 : Int32) (k_a2 : ClassId) (h0 : Heap) (n0 : Nat) (v : Option Value) (h : Heap) (L : List Loc) : Prop := ∃ b4 : Addr, ∃ kb4 : ClassId, v = none ∧ Fr n0 L ∧ Keep h0 h [a1] ∧ Exa Z h a1 "java/lang/String" ∧ Fld Z h a1 "java/lang/String" "value" "[B" (.ref b4) ∧ Fld Z h a1 "java/lang/String" "coder" "B" (.int (0 : Int32)) ∧ Arv Z h b4 kb4 .byte (0 : Int32) [] (.int (0 : Int32))
set_option maxRecDepth 65536 in
set_option maxHeartbeats 40000000 in
theorem rm2_0 (l : Launch) (Z : State) (a0 : Array Value) (hw : ∀ d ∈ tables_1, d.before a0 Z = true) (ws : List Jvm.Cond) (a1 : Addr) (a2 : Addr) (w_value_a1 : Value) (w_coder_a1 : Int32) (k_a2 : ClassId) (h0 : Heap) (n0 : Nat) (Z0 : n0 ≤ h0.size) (E_a1 : Exa Z h0 a1 "java/lang/String") (F_value_a1 : Fld Z h0 a1 "java/lang/String" "value" "[B" w_value_a1) (g_a1 : n0 ≤ a1) (F_coder_a1 : Fld Z h0 a1 "java/lang/String" "coder" "B" (.int w_coder_a1)) (V_a2 : Arv Z h0 a2 k_a2 .char (0 : Int32) [] (.int (0 : Int32))) :
    MetFree l (⟨"java/lang/String", "<init>", "([CIILjava/lang/Void;)V"⟩ : MethodName) (head1 (Jvm.Cond.code (⟨"java/lang/String", "<init>", "([CIILjava/lang/Void;)V"⟩ : MethodName) jdk_42_method_149_code 6 none :: ws) ({ frames := 1, cells := 2, slots := 4, locals := 12 } : Room)) (fun a U => a = #[(.ref a1), (.ref a2), (.int (0 : Int32)), (.int (0 : Int32)), .null] ∧ Z.Warmed39 U.vm ∧ U.heap = h0 ∧ CHv Z consts_1 U.vm h0) (fun _ _ _ _ _ => True) (fun _ U o U' => ∃ v L, o = .returned v ∧ Q_rm2_0 Z a1 a2 w_value_a1 w_coder_a1 k_a2 h0 n0 v U'.heap L ∧ ReturnedEndW U o U' L ({ frames := 1, cells := 2, slots := 4, locals := 12 } : Room).cells ({ frames := 1, cells := 2, slots := 4, locals := 12 } : Room).slots) := by
  have hi : ∀ (i : Nat) {d : Jvm.Cond}, tables_1[i]? = some d → d.before a0 Z = true := fun i d h => hw d (List.mem_of_getElem? h)
  refine MetFree.of_bodySF (plainFor_of_name pn_2) hisR ?_
  intro p e s m args below meth c s₁ Bd hml0 hP hK
  obtain ⟨rfl, hZ, hh, hCH⟩ := hP
  have hx := Bd.exec
  have hby := Bd.bytes
  have hml : c.maxLocals = 6 := hml0
  have hown : s.vm.findClass "java/lang/String" = some m.cls := findClass_of_methodNamed Bd.named
  have hnm := (name_of_methodNamed Bd.named Bd.method).1
  have X0 : Stand p l e ({ frames := 1, cells := 2, slots := 4, locals := 12 } : Room) (s.setVm s.vm) m #[(.ref a1), (.ref a2), (.int (0 : Int32)), (.int (0 : Int32)), .null] below meth c s₁ [] 0 0 := Stand.of_body Bd
  have e0 : s₁.heap = h0 := by rw [← hh, Bd.state]; rfl
  have N0 := Fr.nil n0
  have pre0 : ∀ t, Steps p.tables e below (s₁.setTop (mkF m 0 #[vA a1, vA a2, vI (0 : Int32), vI (0 : Int32), .val .null, vU] [])) t → Steps p.tables e below (s₁.setTop (entryFrame m #[(.ref a1), (.ref a2), (.int (0 : Int32)), (.int (0 : Int32)), .null] 6)) t := fun t k => castTop (ef_2n4 m a1 a2 (0 : Int32) (0 : Int32)) k
  have hS0 : s.Since s.vm h0.size := (State.WarmedH.refl s).since _
  obtain ⟨T3, X3, e3, st3⟩ := initO X0 hx hZ hown (hi 13 rfl) (hi 14 rfl) (hi 15 rfl) e0 (g := (mkF m 1 #[vA a1, vA a2, vI (0 : Int32), vI (0 : Int32), .val .null, vU] [(.ref a1)])) rfl (by rw [hml]; rfl) rfl (hb hby d2_1) (by decide) (W := 0) (by show 2 * 0 + _ ≤ _; exact Nat.le_of_eq rfl) (by decide)
  obtain ⟨c4, T4, h4, k4, b4, kb4, X4, e4, E4, hS4, hk4, hZ4, hown4, iE4, iC4, iV4, iA4, -, -, hC4, hL4, -, st4⟩ := ldcCH (s := s) X3 hx hZ hown (hi 16 rfl) (own_strs hw) e3 hS0 (Nat.le_refl h0.size) (own_EW hw) (by simp [consts_1]) hCH (vs := []) (z := (0 : Int32)) ⟨by decide, rfl⟩ (by decide) rfl (g := (mkF m 9 #[vA a1, vA a2, vI (0 : Int32), vI (0 : Int32), .val .null, vU] [(.ref a1)])) rfl (hb hby d2_9) (n := 0) (by decide) (by decide) (by decide) (by decide)
  obtain ⟨T5, X5, e5, st5⟩ := getF X4 hx hZ4 hown4 (host := "") (Or.inl (hi 22 rfl)) Via.refl e4 iV4 (g := (mkF m 11 #[vA a1, vA a2, vI (0 : Int32), vI (0 : Int32), .val .null, vU] [(.ref c4), (.ref a1)])) rfl rfl (hb hby d2_11)
  have f0 := (E_a1.ext E4)
  have f1 := (F_value_a1.ext E4)
  obtain ⟨T6, h6, X6, e6, W6, st6⟩ := putF X5 hx hZ4 hown4 (host := "") (Or.inl (hi 22 rfl)) Via.refl e5 f1 f0 (Or.inr ⟨(hi 18 rfl), rfl, hnm⟩) (hi 3 rfl) (ty := (.array .byte)) (by decide) rfl rfl (g := (mkF m 14 #[vA a1, vA a2, vI (0 : Int32), vI (0 : Int32), .val .null, vU] [(.ref b4), (.ref a1)])) rfl rfl (hb hby d2_14)
  have Fw6 := f1.same W6
  have N6 := Fr.snoc X6 N0 g_a1
  have f2 := (iC4.other W6 (Or.inr (slot_ne (Or.inr (hi 19 rfl)) (Or.inr (hi 18 rfl)) (by decide) (t := .byte) (t' := (.array .byte)) (by decide) (by decide))))
  obtain ⟨T7, X7, e7, st7⟩ := getF X6 hx hZ4 hown4 (host := "") (Or.inl (hi 23 rfl)) Via.refl e6 f2 (g := (mkF m 20 #[vA a1, vA a2, vI (0 : Int32), vI (0 : Int32), .val .null, vU] [(.ref c4), (.ref a1)])) rfl rfl (hb hby d2_20)
  have f3 := (f0.wr W6)
  have f4 := ((F_coder_a1.ext E4).other W6 (Or.inr (slot_ne (Or.inr (hi 19 rfl)) (Or.inr (hi 18 rfl)) (by decide) (t := .byte) (t' := (.array .byte)) (by decide) (by decide))))
  obtain ⟨T8, h8, X8, e8, W8, st8⟩ := putFN X7 hx hZ4 hown4 (hi 23 rfl) Via.refl e7 f4 f3 (Or.inr ⟨(hi 19 rfl), rfl, hnm⟩) (hi 3 rfl) (ty := .byte) (v' := (.int (0 : Int32))) (by decide) rfl rfl (g := (mkF m 23 #[vA a1, vA a2, vI (0 : Int32), vI (0 : Int32), .val .null, vU] [(.int (0 : Int32)), (.ref a1)])) rfl rfl (hb hby d2_23)
  have Fw8 := f4.same W8
  have N8 := Fr.snoc X8 N6 g_a1
  have f5 := (f3.wr W8)
  have f6 := (Fw6.other W8 (Or.inr (slot_ne (Or.inr (hi 18 rfl)) (Or.inr (hi 19 rfl)) (by decide) (t := (.array .byte)) (t' := .byte) (by decide) (by decide))))
  have f7 := ((iA4.other W6 (own_ne0 iA4 (F_value_a1.ext E4))).other W8 (own_ne0 iA4 (F_value_a1.ext E4)))
  obtain ⟨fs, hr, hrun, hended, hw1, hw2, hw3, hw4⟩ := X8.leaveW hS4 (show _ ≤ T8.heap.size from by rw [e8]; exact (Nat.le_trans (Nat.le_trans hk4 (Keep.of_wr W6).1) (Keep.of_wr W8).1)) (v := none) (fun _ => rfl)
  refine ⟨_, _, pre0 _ ?_, hrun, hended, _, _, rfl, ?_, hw1, hw2, hw3, hw4.mono (by decide) (by decide)⟩
  · show Steps p.tables e below (s₁.setTop (mkF m 0 #[vA a1, vA a2, vI (0 : Int32), vI (0 : Int32), .val .null, vU] [])) _
    refine XS.aloadN X0.here hx rfl (hb hby d2_0) rfl rfl ?_
    show Steps p.tables e below (s₁.setTop (mkF m 1 #[vA a1, vA a2, vI (0 : Int32), vI (0 : Int32), .val .null, vU] [(.ref a1)])) _
    refine st3 _ ?_
    refine XS.iloadN X3.here hx rfl (hb hby d2_4) rfl ?_
    show Steps p.tables e below (T3.setTop (mkF m 5 #[vA a1, vA a2, vI (0 : Int32), vI (0 : Int32), .val .null, vU] [(.int (0 : Int32))])) _
    refine XS.ifNo X3.here hx rfl (hb hby d2_5) rfl ((if0 _ _).trans (teq (rfl : (0 : Int32) = (0 : Int32))).2) ?_
    refine XS.aloadN X3.here hx rfl (hb hby d2_8) rfl rfl ?_
    show Steps p.tables e below (T3.setTop (mkF m 9 #[vA a1, vA a2, vI (0 : Int32), vI (0 : Int32), .val .null, vU] [(.ref a1)])) _
    refine st4 _ ?_
    show Steps p.tables e below (T4.setTop (mkF m 11 #[vA a1, vA a2, vI (0 : Int32), vI (0 : Int32), .val .null, vU] [(.ref c4), (.ref a1)])) _
    refine st5 _ ?_
    show Steps p.tables e below (T5.setTop (mkF m 14 #[vA a1, vA a2, vI (0 : Int32), vI (0 : Int32), .val .null, vU] [(.ref b4), (.ref a1)])) _
    refine st6 _ ?_
    refine XS.aloadN X6.here hx rfl (hb hby d2_17) rfl rfl ?_
    show Steps p.tables e below (T6.setTop (mkF m 18 #[vA a1, vA a2, vI (0 : Int32), vI (0 : Int32), .val .null, vU] [(.ref a1)])) _
    refine ldcAgain (s := s) X6 hx hZ4 hown4 (hi 16 rfl) hL4 (g := (mkF m 18 #[vA a1, vA a2, vI (0 : Int32), vI (0 : Int32), .val .null, vU] [(.ref a1)])) rfl (hb hby d2_18) _ ?_
    show Steps p.tables e below (T6.setTop (mkF m 20 #[vA a1, vA a2, vI (0 : Int32), vI (0 : Int32), .val .null, vU] [(.ref c4), (.ref a1)])) _
    refine st7 _ ?_
    show Steps p.tables e below (T7.setTop (mkF m 23 #[vA a1, vA a2, vI (0 : Int32), vI (0 : Int32), .val .null, vU] [(.int (0 : Int32)), (.ref a1)])) _
    refine st8 _ ?_
    show Steps p.tables e below (T8.setTop (mkF m 26 #[vA a1, vA a2, vI (0 : Int32), vI (0 : Int32), .val .null, vU] [])) _
    exact X8.returnOut hx Bd.returns (hb hby d2_26) hr
  · show Q_rm2_0 Z a1 a2 w_value_a1 w_coder_a1 k_a2 h0 n0 _ T8.heap _
    rw [e8]
    exact ⟨b4, ⟨kb4, ⟨rfl, N8, ((((Keep.refl h0 [a1]).ext E4).wr W6 (Or.inl (List.mem_of_getElem? (i := 0) rfl))).wr W8 (Or.inl (List.mem_of_getElem? (i := 0) rfl))), f5, f6, Fw8, f7⟩⟩⟩
def Q_rm1_0 (Z : State) (a1 : Addr) (a2 : Addr) (w_value_a1 : Value) (w_coder_a1 : Int32) (k_a2 : ClassId) (h0 : Heap) (n0 : Nat) (v : Option Value) (h : Heap) (L : List Loc) : Prop := ∃ b4_3 : Addr, ∃ kb4_3 : ClassId, v = none ∧ Fr n0 L ∧ Keep h0 h [a1] ∧ Exa Z h a1 "java/lang/String" ∧ Fld Z h a1 "java/lang/String" "value" "[B" (.ref b4_3) ∧ Fld Z h a1 "java/lang/String" "coder" "B" (.int (0 : Int32)) ∧ Arv Z h b4_3 kb4_3 .byte (0 : Int32) [] (.int (0 : Int32))
set_option maxRecDepth 65536 in
set_option maxHeartbeats 40000000 in
theorem rm1_0 (l : Launch) (Z : State) (a0 : Array Value) (hw : ∀ d ∈ tables_1, d.before a0 Z = true) (ws : List Jvm.Cond) (a1 : Addr) (a2 : Addr) (w_value_a1 : Value) (w_coder_a1 : Int32) (k_a2 : ClassId) (h0 : Heap) (n0 : Nat) (Z0 : n0 ≤ h0.size) (F_value_a1 : Fld Z h0 a1 "java/lang/String" "value" "[B" w_value_a1) (F_coder_a1 : Fld Z h0 a1 "java/lang/String" "coder" "B" (.int w_coder_a1)) (E_a1 : Exa Z h0 a1 "java/lang/String") (g_a1 : n0 ≤ a1) (V_a2 : Arv Z h0 a2 k_a2 .char (0 : Int32) [] (.int (0 : Int32))) :
    MetFree l (⟨"java/lang/String", "<init>", "([C)V"⟩ : MethodName) (head1 (Jvm.Cond.code (⟨"java/lang/String", "<init>", "([C)V"⟩ : MethodName) jdk_42_method_3_code 2 none :: ws) ({ frames := 2, cells := 2, slots := 4, locals := 29 } : Room)) (fun a U => a = #[(.ref a1), (.ref a2)] ∧ Z.Warmed39 U.vm ∧ U.heap = h0 ∧ CHv Z consts_1 U.vm h0) (fun _ _ _ _ _ => True) (fun _ U o U' => ∃ v L, o = .returned v ∧ Q_rm1_0 Z a1 a2 w_value_a1 w_coder_a1 k_a2 h0 n0 v U'.heap L ∧ ReturnedEndW U o U' L ({ frames := 2, cells := 2, slots := 4, locals := 29 } : Room).cells ({ frames := 2, cells := 2, slots := 4, locals := 29 } : Room).slots) := by
  have hi : ∀ (i : Nat) {d : Jvm.Cond}, tables_1[i]? = some d → d.before a0 Z = true := fun i d h => hw d (List.mem_of_getElem? h)
  refine MetFree.of_bodySF (plainFor_of_name pn_1) hisR ?_
  intro p e s m args below meth c s₁ Bd hml0 hP hK
  obtain ⟨rfl, hZ, hh, hCH⟩ := hP
  have hx := Bd.exec
  have hby := Bd.bytes
  have hml : c.maxLocals = 2 := hml0
  have hown : s.vm.findClass "java/lang/String" = some m.cls := findClass_of_methodNamed Bd.named
  have hnm := (name_of_methodNamed Bd.named Bd.method).1
  have X0 : Stand p l e ({ frames := 2, cells := 2, slots := 4, locals := 29 } : Room) (s.setVm s.vm) m #[(.ref a1), (.ref a2)] below meth c s₁ [] 0 0 := Stand.of_body Bd
  have e0 : s₁.heap = h0 := by rw [← hh, Bd.state]; rfl
  have N0 := Fr.nil n0
  have pre0 : ∀ t, Steps p.tables e below (s₁.setTop (mkF m 0 #[vA a1, vA a2] [])) t → Steps p.tables e below (s₁.setTop (entryFrame m #[(.ref a1), (.ref a2)] 2)) t := fun t k => castTop (ef_1 m a1 a2) k
  have hS0 : s.Since s.vm h0.size := (State.WarmedH.refl s).since _
  obtain ⟨cl_a2_0, Ar_a2_0, q_a2_0, Sz_a2_0, Ng_a2_0, Ha_a2_0, Gt_a2_0⟩ := id V_a2
  obtain ⟨_, _, ⟨T3, L3, k3, n3⟩, -, X3w, hS3w, hg3, ⟨Lc3, hQ3, l3, y3, z3⟩, st3⟩ := X0.specialBackS hx (y := (⟨"java/lang/String", "<init>", "([CIILjava/lang/Void;)V"⟩ : MethodName)) rfl hown (mvT hZ (hi 9 rfl)) (mvT hZ (hi 10 rfl)) (mvT hZ (hi 12 rfl)) (by decide) (own_backOfSH (W := 0) (rm2_0 l Z a0 hw [] a1 a2 w_value_a1 w_coder_a1 k_a2 h0 n0 Z0 E_a1 F_value_a1 g_a1 F_coder_a1 V_a2) hZ (hi 12 rfl) (hi 4 rfl) (by decide) (by decide) (own_EW hw) hCH) (g := (mkF m 6 #[vA a1, vA a2] [.null, (.int (0 : Int32)), (.int (0 : Int32)), (.ref a2), (.ref a1)])) rfl (by rw [hml]; rfl) (Steps.refl _) (a := a1) (argsL := [(.ref a2), (.int (0 : Int32)), (.int (0 : Int32)), .null]) (rest := []) (lenOf pd__28_5bCIILjava_2flang_2fVoid_3b_29V rfl) rfl (by show 2 * 0 + _ ≤ _; exact Nat.le_of_eq rfl) (hb hby d1_6) (fun _ _ => ⟨rfl, e0, (by decide : 0 + 2 ≤ _), (by decide : 0 + 4 ≤ _)⟩)
  dsimp only [Pt.U, Pt.locs, Pt.cells, Pt.slots] at X3w hS3w hg3 l3 y3 z3 st3 hQ3
  subst l3 y3 z3
  obtain ⟨X3, hS3, hZ3, hown3⟩ := rebS hS0 (show _ ≤ s₁.heap.size from by rw [e0]; exact (Nat.le_refl h0.size)) X3w hS3w hg3 hZ hown
  obtain ⟨b4_3, ⟨kb4_3, ⟨rfl, N3q, K3, i3_0, i3_1, i3_2, i3_3⟩⟩⟩ := hQ3
  have N3 := Fr.app N0 N3q
  obtain ⟨fs, hr, hrun, hended, hw1, hw2, hw3, hw4⟩ := X3.leaveW hS3 (show _ ≤ T3.heap.size from by exact (Nat.le_refl _)) (v := none) (fun _ => rfl)
  refine ⟨_, _, pre0 _ ?_, hrun, hended, _, _, rfl, ?_, hw1, hw2, hw3, hw4.mono (by decide) (by decide)⟩
  · show Steps p.tables e below (s₁.setTop (mkF m 0 #[vA a1, vA a2] [])) _
    refine XS.aloadN X0.here hx rfl (hb hby d1_0) rfl rfl ?_
    refine XS.aloadN X0.here hx rfl (hb hby d1_1) rfl rfl ?_
    refine XS.iconst X0.here hx rfl (hb hby d1_2) ?_
    refine XS.aloadN X0.here hx rfl (hb hby d1_3) rfl rfl ?_
    show Steps p.tables e below (s₁.setTop (mkF m 4 #[vA a1, vA a2] [(.ref a2), (.int (0 : Int32)), (.ref a2), (.ref a1)])) _
    refine X0.arraylength hx (by rw [e0]; exact Ar_a2_0.1) (State.isArrayOf_alike hZ.alike Ar_a2_0.2.1) (g := (mkF m 4 #[vA a1, vA a2] [(.ref a2), (.int (0 : Int32)), (.ref a2), (.ref a1)])) rfl rfl (hb hby d1_4) _ ?_
    rw [len_of Sz_a2_0 Ng_a2_0]
    refine XS.aconstNull X0.here hx rfl (hb hby d1_5) ?_
    show Steps p.tables e below (s₁.setTop (mkF m 6 #[vA a1, vA a2] [.null, (.int (0 : Int32)), (.int (0 : Int32)), (.ref a2), (.ref a1)])) _
    refine st3.trans ?_
    show Steps p.tables e below (T3.setTop (mkF m 9 #[vA a1, vA a2] [])) _
    exact X3.returnOut hx Bd.returns (hb hby d1_9) hr
  · show Q_rm1_0 Z a1 a2 w_value_a1 w_coder_a1 k_a2 h0 n0 _ T3.heap _
    exact ⟨b4_3, ⟨kb4_3, ⟨rfl, N3, ((Keep.refl h0 [a1]).trans K3 (fun x q => (List.mem_cons.mp q).elim (fun r => r ▸ (Or.inl (List.mem_of_getElem? (i := 0) rfl))) ((fun _ q => nomatch q) x))), i3_0, i3_1, i3_2, i3_3⟩⟩⟩
theorem own_end0 {t : Int32} (h : t = (0 : Int32)) : (lcmpW (t4_0 (0 : Int32) (0 : Int32)) ((576 : Int64) + ((2 : Int64) * (t.toInt64)))) = (0 : Int32) := by subst h; decide
theorem own_end1 {t zz : Int32} (h : t = (1 : Int32)) (hz : zz = (1 : Int32) ∨ zz = (2 : Int32)) : (lcmpW (t4_0 zz (nar .byte (nar .byte ((t9_0 (1 : Int32) zz).toInt8.toInt32)))) ((576 : Int64) + ((2 : Int64) * (t.toInt64)))) = (0 : Int32) := by
  subst h
  rcases hz with rfl | rfl <;> decide
theorem own_end2 {t zz : Int32} (h : t = (2 : Int32)) (hz : zz = (2 : Int32) ∨ zz = (4 : Int32)) : (lcmpW (t4_0 zz (nar .byte (nar .byte ((t9_0 (2 : Int32) zz).toInt8.toInt32)))) ((576 : Int64) + ((2 : Int64) * (t.toInt64)))) = (0 : Int32) := by
  subst h
  rcases hz with rfl | rfl <;> decide
theorem own_end3 {t zz : Int32} (h : t = (3 : Int32)) (hz : zz = (3 : Int32) ∨ zz = (6 : Int32)) : (lcmpW (t4_0 zz (nar .byte (nar .byte ((t9_0 (3 : Int32) zz).toInt8.toInt32)))) ((576 : Int64) + ((2 : Int64) * (t.toInt64)))) = (0 : Int32) := by
  subst h
  rcases hz with rfl | rfl <;> decide
theorem own_end4 {t zz : Int32} (h : t = (4 : Int32)) (hz : zz = (4 : Int32) ∨ zz = (8 : Int32)) : (lcmpW (t4_0 zz (nar .byte (nar .byte ((t9_0 (4 : Int32) zz).toInt8.toInt32)))) ((576 : Int64) + ((2 : Int64) * (t.toInt64)))) = (0 : Int32) := by
  subst h
  rcases hz with rfl | rfl <;> decide
theorem own_t4 (p1 : Int32) (h0 : ¬ (((p1 &&& (2147483647 : Int32)) - ((p1 &&& (2147483647 : Int32)) / (5 : Int32)) * (5 : Int32)) = (0 : Int32))) (h1 : ¬ (((p1 &&& (2147483647 : Int32)) - ((p1 &&& (2147483647 : Int32)) / (5 : Int32)) * (5 : Int32)) = (1 : Int32))) (h2 : ¬ (((p1 &&& (2147483647 : Int32)) - ((p1 &&& (2147483647 : Int32)) / (5 : Int32)) * (5 : Int32)) = (2 : Int32))) (h3 : ¬ (((p1 &&& (2147483647 : Int32)) - ((p1 &&& (2147483647 : Int32)) / (5 : Int32)) * (5 : Int32)) = (3 : Int32))) : ((p1 &&& (2147483647 : Int32)) - ((p1 &&& (2147483647 : Int32)) / (5 : Int32)) * (5 : Int32)) = (4 : Int32) := by
  have hm := own_mod (p1 &&& 2147483647) 5 (own_pos p1) (by decide)
  have h5 : (5 : Int32).toInt = 5 := by decide
  rw [h5] at hm
  generalize ((p1 &&& (2147483647 : Int32)) - ((p1 &&& (2147483647 : Int32)) / (5 : Int32)) * (5 : Int32)) = t at *
  have h : t.toInt = 0 ∨ t.toInt = 1 ∨ t.toInt = 2 ∨ t.toInt = 3 ∨ t.toInt = 4 := by omega
  rcases h with q | q | q | q | q
  · exact absurd (Int32.toInt_inj.mp (by rw [q]; rfl)) h0
  · exact absurd (Int32.toInt_inj.mp (by rw [q]; rfl)) h1
  · exact absurd (Int32.toInt_inj.mp (by rw [q]; rfl)) h2
  · exact absurd (Int32.toInt_inj.mp (by rw [q]; rfl)) h3
  · exact Int32.toInt_inj.mp (by rw [q]; rfl)
theorem pd__28_5bC_29V : parseMethodDescriptor "([C)V" = some ⟨[(.array .char)], none⟩ := by decide +kernel
theorem pd__28Ljava_2flang_2fString_3b_29J : parseMethodDescriptor "(Ljava/lang/String;)J" = some ⟨[(.object "java/lang/String")], some .long⟩ := by decide +kernel
def t0_0 (p1 : Int32) : Int32 := ((p1 &&& (2147483647 : Int32)) - ((p1 &&& (2147483647 : Int32)) / (5 : Int32)) * (5 : Int32))
def t0_1 (p2 : Int32) : Int32 := ((p2 &&& (65535 : Int32)).toUInt32.toUInt16.toUInt32.toInt32)
def t0_2 (p3 : Int32) : Int32 := ((p3 &&& (65535 : Int32)).toUInt32.toUInt16.toUInt32.toInt32)
def t0_3 (p4 : Int32) : Int32 := ((p4 &&& (65535 : Int32)).toUInt32.toUInt16.toUInt32.toInt32)
def t0_4 (p5 : Int32) : Int32 := ((p5 &&& (65535 : Int32)).toUInt32.toUInt16.toUInt32.toInt32)
def t0_5 (p1 : Int32) : Int64 := ((576 : Int64) + ((2 : Int64) * ((t0_0 p1).toInt64)))
theorem pn_0 : plainName "com/example/lob/lob/broker/HeldBytesOfKeptSessionPinLaw" = true := by first | (simp [plainName, overriddenIn]; done) | decide +kernel
theorem ef_0 (m : MethodId) (x0 : Int32) (x1 : Int32) (x2 : Int32) (x3 : Int32) (x4 : Int32) : entryFrame m #[(.int x0), (.int x1), (.int x2), (.int x3), (.int x4)] maxLocals = mkF m 0 #[.val (.int x0), .val (.int x1), .val (.int x2), .val (.int x3), .val (.int x4), .unset, .unset, .unset, .unset, .unset, .unset, .unset, .unset] [] := by first | (simp [entryFrame, mkF, argsToLocals, Value.category, maxLocals]; done) | rfl
def Q_rm0 (Z : State) (p1 : Int32) (p2 : Int32) (p3 : Int32) (p4 : Int32) (p5 : Int32) (s_COMPACT_STRINGS : Int32) (s__assertionsDisabled : Int32) (s_HI_BYTE_SHIFT : Int32) (s_LO_BYTE_SHIFT : Int32) (h0 : Heap) (n0 : Nat) (v : Option Value) (h : Heap) (L : List Loc) : Prop := v = some (.int (1 : Int32)) ∧ Fr n0 L
set_option maxRecDepth 65536 in
set_option maxHeartbeats 40000000 in
theorem rm0_f (l : Launch) (Z : State) (a0 : Array Value) (hw : ∀ d ∈ tables_1, d.before a0 Z = true) (ws : List Jvm.Cond) (p1 : Int32) (p2 : Int32) (p3 : Int32) (p4 : Int32) (p5 : Int32) (s_COMPACT_STRINGS : Int32) (s__assertionsDisabled : Int32) (s_HI_BYTE_SHIFT : Int32) (s_LO_BYTE_SHIFT : Int32) (h0 : Heap) (n0 : Nat) (Z0 : n0 ≤ h0.size) (hcs : ¬ (s_COMPACT_STRINGS = (0 : Int32))) (hasd : ¬ (s__assertionsDisabled = (0 : Int32))) (hhi : s_HI_BYTE_SHIFT = (0 : Int32)) (hlo : s_LO_BYTE_SHIFT = (8 : Int32)) (S_COMPACT_STRINGS : Sta Z h0 "java/lang/String" "COMPACT_STRINGS" "Z" (.int s_COMPACT_STRINGS)) (S__assertionsDisabled : Sta Z h0 "java/lang/StringUTF16" "$assertionsDisabled" "Z" (.int s__assertionsDisabled)) (S_HI_BYTE_SHIFT : Sta Z h0 "java/lang/StringUTF16" "HI_BYTE_SHIFT" "I" (.int s_HI_BYTE_SHIFT)) (S_LO_BYTE_SHIFT : Sta Z h0 "java/lang/StringUTF16" "LO_BYTE_SHIFT" "I" (.int s_LO_BYTE_SHIFT)) (hc39 : (t0_0 p1) = (0 : Int32)) :
    MetFree l x (head1 (Jvm.Cond.code x code maxLocals ret :: ws) room_1) (fun a U => a = #[(.int p1), (.int p2), (.int p3), (.int p4), (.int p5)] ∧ Z.Warmed39 U.vm ∧ U.heap = h0 ∧ CHv Z consts_1 U.vm h0) (fun _ _ _ _ _ => True) (fun _ U o U' => ∃ v L, o = .returned v ∧ Q_rm0 Z p1 p2 p3 p4 p5 s_COMPACT_STRINGS s__assertionsDisabled s_HI_BYTE_SHIFT s_LO_BYTE_SHIFT h0 n0 v U'.heap L ∧ ReturnedEndW U o U' L room_1.cells room_1.slots) := by
  have hi : ∀ (i : Nat) {d : Jvm.Cond}, tables_1[i]? = some d → d.before a0 Z = true := fun i d h => hw d (List.mem_of_getElem? h)
  refine MetFree.of_bodySF (plainFor_of_name pn_0) hisR ?_
  intro p e s m args below meth c s₁ Bd hml0 hP hK
  obtain ⟨rfl, hZ, hh, hCH⟩ := hP
  have hx := Bd.exec
  have hby := Bd.bytes
  have hml : c.maxLocals = 13 := hml0
  have hown : s.vm.findClass "com/example/lob/lob/broker/HeldBytesOfKeptSessionPinLaw" = some m.cls := findClass_of_methodNamed Bd.named
  have hnm := (name_of_methodNamed Bd.named Bd.method).1
  have X0 : Stand p l e room_1 (s.setVm s.vm) m #[(.int p1), (.int p2), (.int p3), (.int p4), (.int p5)] below meth c s₁ [] 0 0 := Stand.of_body Bd
  have e0 : s₁.heap = h0 := by rw [← hh, Bd.state]; rfl
  have N0 := Fr.nil n0
  have pre0 : ∀ t, Steps p.tables e below (s₁.setTop (mkF m 0 #[vI p1, vI p2, vI p3, vI p4, vI p5, vU, vU, vU, vU, vU, vU, vU, vU] [])) t → Steps p.tables e below (s₁.setTop (entryFrame m #[(.int p1), (.int p2), (.int p3), (.int p4), (.int p5)] maxLocals)) t := fun t k => castTop (ef_0 m p1 p2 p3 p4 p5) k
  have hS0 : s.Since s.vm h0.size := (State.WarmedH.refl s).since _
  obtain ⟨T6, h6, X6, e6, E6, A6, D6, -, st6⟩ := newO X0 hx hZ hown (hi 2 rfl) (hi 3 rfl) (hi 4 rfl) e0 (g := (mkF m 42 #[vI p1, vI p2, vI p3, vI p4, vI p5, vI (t0_0 p1), vI (t0_1 p2), vI (t0_2 p3), vI (t0_3 p4), vI (t0_4 p5), vU, vU, vU] [])) rfl (hb hby at_42) (by decide) (by decide)
  obtain ⟨b6, g6⟩ : ∃ z, z = h0.size := ⟨_, rfl⟩
  rw [← g6] at A6 D6 st6
  have g_b6 : n0 ≤ b6 := Nat.le_trans Z0 (Nat.le_of_eq g6.symm)
  have sz_b6 : h0.size ≤ b6 := Nat.le_trans (Nat.le_refl h0.size) (Nat.le_of_eq g6.symm)
  have F_value_b6 : Fld Z h6 b6 "java/lang/String" "value" "[B" .null := D6 (Or.inr (hi 18 rfl)) (ty := (.array .byte)) (by decide)
  have F_coder_b6 : Fld Z h6 b6 "java/lang/String" "coder" "B" (.int (0 : Int32)) := D6 (Or.inr (hi 19 rfl)) (ty := .byte) (by decide)
  obtain ⟨T7, h7, k7, X7, e7, E7, A7, st7⟩ := newP X6 hx hZ (hi 5 rfl) e6 (g := (mkF m 47 #[vI p1, vI p2, vI p3, vI p4, vI p5, vI (t0_0 p1), vI (t0_1 p2), vI (t0_2 p3), vI (t0_3 p4), vI (t0_4 p5), vU, vU, vU] [(.int (0 : Int32)), (.ref b6), (.ref b6)])) rfl (hb hby at_47) rfl (by decide) (cap := 0) (by decide) (by decide) (by decide) (by decide)
  obtain ⟨b7, g7⟩ : ∃ z, z = h6.size := ⟨_, rfl⟩
  rw [← g7] at A7 st7
  have g_b7 : n0 ≤ b7 := Nat.le_trans (Nat.le_trans Z0 E6.1) (Nat.le_of_eq g7.symm)
  have sz_b7 : h0.size ≤ b7 := Nat.le_trans (Nat.le_trans (Nat.le_refl h0.size) E6.1) (Nat.le_of_eq g7.symm)
  have V_b7 : Arv Z h7 b7 k7 .char (0 : Int32) [] (.int (0 : Int32)) := (Arv.new A7 (by decide)).pad (pad_rep [] (.int (0 : Int32)) 0)
  have f0 := (F_value_b6.ext E7)
  have f1 := (F_coder_b6.ext E7)
  have f2 := (A6.ext E7)
  obtain ⟨_, _, ⟨T8, L8, k8, n8⟩, -, X8w, hS8w, hg8, ⟨Lc8, hQ8, l8, y8, z8⟩, st8⟩ := X7.specialBackS hx (y := (⟨"java/lang/String", "<init>", "([C)V"⟩ : MethodName)) rfl hown (mvT hZ (hi 6 rfl)) (mvT hZ (hi 7 rfl)) (mvT hZ (hi 8 rfl)) (by decide) (own_backOfSH (W := 1) (rm1_0 l Z a0 hw [] b6 b7 .null (0 : Int32) k7 h7 n0 (Nat.le_trans (Nat.le_trans Z0 E6.1) E7.1) f0 f1 f2 g_b6 V_b7) hZ (hi 8 rfl) (hi 4 rfl) (by decide) (by decide) (own_EW hw) (CHv.ext E7 (CHv.ext E6 hCH))) (g := (mkF m 49 #[vI p1, vI p2, vI p3, vI p4, vI p5, vI (t0_0 p1), vI (t0_1 p2), vI (t0_2 p3), vI (t0_3 p4), vI (t0_4 p5), vU, vU, vU] [(.ref b7), (.ref b6), (.ref b6)])) rfl (by rw [hml]; rfl) (Steps.refl _) (a := b6) (argsL := [(.ref b7)]) (rest := [(.ref b6)]) (lenOf pd__28_5bC_29V rfl) rfl (by show 2 * 0 + _ ≤ _; exact Nat.le_of_eq rfl) (hb hby at_49) (fun _ _ => ⟨rfl, e7, (by decide : 2 + 2 ≤ _), (by decide : 4 + 4 ≤ _)⟩)
  dsimp only [Pt.U, Pt.locs, Pt.cells, Pt.slots] at X8w hS8w hg8 l8 y8 z8 st8 hQ8
  subst l8 y8 z8
  obtain ⟨X8, hS8, hZ8, hown8⟩ := rebS hS0 (show _ ≤ T7.heap.size from by rw [e7]; exact (Nat.le_trans (Nat.le_trans (Nat.le_refl h0.size) E6.1) E7.1)) X8w hS8w hg8 hZ hown
  obtain ⟨b4_3_8, ⟨kb4_3_8, ⟨rfl, N8q, K8, i8_0, i8_1, i8_2, i8_3⟩⟩⟩ := hQ8
  have N8 := Fr.app N0 N8q
  have f3 := (own_sta_keep ((S_COMPACT_STRINGS.ext E6).ext E7) K8 (own_qc (own_nst f2) own_q0))
  obtain ⟨_, _, ⟨T9, L9, k9, n9⟩, -, X9, ⟨Lc9, hQ9, l9, y9, z9⟩, st9⟩ := Jvm.LawKit.callS X8 hx (y := (⟨"com/example/lob/lob/broker/HeldBytes", "ofKeptSession", "(Ljava/lang/String;)J"⟩ : MethodName)) hown8 (mvT hZ8 (hi 26 rfl)) (mvT hZ8 (hi 27 rfl)) (mvT hZ8 (hi 28 rfl)) (mvT hZ8 (hi 29 rfl)) (by decide) (backOf (W := 0) (rm4 l Z a0 hw [] b6 b4_3_8 kb4_3_8 (0 : Int32) ([] : List Value) s_COMPACT_STRINGS (0 : Int32) T8.heap n0 (Nat.le_trans (Nat.le_trans (Nat.le_trans Z0 E6.1) E7.1) K8.1) hcs i8_1 i8_3 f3 i8_2 i8_0) hZ8 (hi 29 rfl) (hi 28 rfl) (by decide) (by decide)) (g := (mkF m 197 #[vI p1, vI p2, vI p3, vI p4, vI p5, vI (t0_0 p1), vI (t0_1 p2), vI (t0_2 p3), vI (t0_3 p4), vI (t0_4 p5), vA b6, vL (t0_5 p1), vS] [(.ref b6)])) rfl (by rw [hml]; rfl) (argsL := [(.ref b6)]) (rest := []) (lenOf pd__28Ljava_2flang_2fString_3b_29J rfl) rfl (by show 2 * 0 + _ ≤ _; exact Nat.le_of_eq rfl) (hb hby at_197) (fun _ _ => ⟨rfl, rfl, (by decide : 4 + 0 ≤ _), (by decide : 8 + 0 ≤ _)⟩)
  dsimp only [Pt.U, Pt.locs, Pt.cells, Pt.slots] at X9 l9 y9 z9 st9 hQ9
  subst l9 y9 z9
  obtain ⟨rfl, N9q, e9⟩ := hQ9
  have N9 := Fr.app N8 N9q
  obtain ⟨fs, hr, hrun, hended, hw1, hw2, hw3, hw4⟩ := X9.leaveW hS8 (show _ ≤ T9.heap.size from by rw [e9]; exact (Nat.le_refl _)) (v := some (.int (1 : Int32))) (fun h => by rw [Bd.returns] at h; cases h)
  refine ⟨_, _, pre0 _ ?_, hrun, hended, _, _, rfl, ?_, hw1, hw2, hw3, hw4.mono (by decide) (by decide)⟩
  · show Steps p.tables e below (s₁.setTop (mkF m 0 #[vI p1, vI p2, vI p3, vI p4, vI p5, vU, vU, vU, vU, vU, vU, vU, vU] [])) _
    refine XS.iloadN X0.here hx rfl (hb hby at_0) rfl ?_
    show Steps p.tables e below (s₁.setTop (mkF m 1 #[vI p1, vI p2, vI p3, vI p4, vI p5, vU, vU, vU, vU, vU, vU, vU, vU] [(.int p1)])) _
    refine X0.ldcInt hx hown (mvT hZ (hi 0 rfl)) (g := (mkF m 1 #[vI p1, vI p2, vI p3, vI p4, vI p5, vU, vU, vU, vU, vU, vU, vU, vU] [(.int p1)])) rfl (hb hby at_1) _ ?_
    refine XS.iand X0.here hx rfl (hb hby at_3) rfl ?_
    refine XS.iconst X0.here hx rfl (hb hby at_4) ?_
    refine XS.irem X0.here hx rfl (hb hby at_5) rfl (by decide) ?_
    refine XS.istore X0.here hx rfl (hb hby at_6) rfl (l' := #[vI p1, vI p2, vI p3, vI p4, vI p5, vI (t0_0 p1), vU, vU, vU, vU, vU, vU, vU]) rfl ?_
    refine XS.iloadN X0.here hx rfl (hb hby at_8) rfl ?_
    show Steps p.tables e below (s₁.setTop (mkF m 9 #[vI p1, vI p2, vI p3, vI p4, vI p5, vI (t0_0 p1), vU, vU, vU, vU, vU, vU, vU] [(.int p2)])) _
    refine X0.ldcInt hx hown (mvT hZ (hi 1 rfl)) (g := (mkF m 9 #[vI p1, vI p2, vI p3, vI p4, vI p5, vI (t0_0 p1), vU, vU, vU, vU, vU, vU, vU] [(.int p2)])) rfl (hb hby at_9) _ ?_
    refine XS.iand X0.here hx rfl (hb hby at_11) rfl ?_
    refine XS.i2c X0.here hx rfl (hb hby at_12) rfl ?_
    refine XS.istore X0.here hx rfl (hb hby at_13) rfl (l' := #[vI p1, vI p2, vI p3, vI p4, vI p5, vI (t0_0 p1), vI (t0_1 p2), vU, vU, vU, vU, vU, vU]) rfl ?_
    refine XS.iloadN X0.here hx rfl (hb hby at_15) rfl ?_
    show Steps p.tables e below (s₁.setTop (mkF m 16 #[vI p1, vI p2, vI p3, vI p4, vI p5, vI (t0_0 p1), vI (t0_1 p2), vU, vU, vU, vU, vU, vU] [(.int p3)])) _
    refine X0.ldcInt hx hown (mvT hZ (hi 1 rfl)) (g := (mkF m 16 #[vI p1, vI p2, vI p3, vI p4, vI p5, vI (t0_0 p1), vI (t0_1 p2), vU, vU, vU, vU, vU, vU] [(.int p3)])) rfl (hb hby at_16) _ ?_
    refine XS.iand X0.here hx rfl (hb hby at_18) rfl ?_
    refine XS.i2c X0.here hx rfl (hb hby at_19) rfl ?_
    refine XS.istore X0.here hx rfl (hb hby at_20) rfl (l' := #[vI p1, vI p2, vI p3, vI p4, vI p5, vI (t0_0 p1), vI (t0_1 p2), vI (t0_2 p3), vU, vU, vU, vU, vU]) rfl ?_
    refine XS.iloadN X0.here hx rfl (hb hby at_22) rfl ?_
    show Steps p.tables e below (s₁.setTop (mkF m 23 #[vI p1, vI p2, vI p3, vI p4, vI p5, vI (t0_0 p1), vI (t0_1 p2), vI (t0_2 p3), vU, vU, vU, vU, vU] [(.int p4)])) _
    refine X0.ldcInt hx hown (mvT hZ (hi 1 rfl)) (g := (mkF m 23 #[vI p1, vI p2, vI p3, vI p4, vI p5, vI (t0_0 p1), vI (t0_1 p2), vI (t0_2 p3), vU, vU, vU, vU, vU] [(.int p4)])) rfl (hb hby at_23) _ ?_
    refine XS.iand X0.here hx rfl (hb hby at_25) rfl ?_
    refine XS.i2c X0.here hx rfl (hb hby at_26) rfl ?_
    refine XS.istore X0.here hx rfl (hb hby at_27) rfl (l' := #[vI p1, vI p2, vI p3, vI p4, vI p5, vI (t0_0 p1), vI (t0_1 p2), vI (t0_2 p3), vI (t0_3 p4), vU, vU, vU, vU]) rfl ?_
    refine XS.iload X0.here hx rfl (hb hby at_29) rfl ?_
    show Steps p.tables e below (s₁.setTop (mkF m 31 #[vI p1, vI p2, vI p3, vI p4, vI p5, vI (t0_0 p1), vI (t0_1 p2), vI (t0_2 p3), vI (t0_3 p4), vU, vU, vU, vU] [(.int p5)])) _
    refine X0.ldcInt hx hown (mvT hZ (hi 1 rfl)) (g := (mkF m 31 #[vI p1, vI p2, vI p3, vI p4, vI p5, vI (t0_0 p1), vI (t0_1 p2), vI (t0_2 p3), vI (t0_3 p4), vU, vU, vU, vU] [(.int p5)])) rfl (hb hby at_31) _ ?_
    refine XS.iand X0.here hx rfl (hb hby at_33) rfl ?_
    refine XS.i2c X0.here hx rfl (hb hby at_34) rfl ?_
    refine XS.istore X0.here hx rfl (hb hby at_35) rfl (l' := #[vI p1, vI p2, vI p3, vI p4, vI p5, vI (t0_0 p1), vI (t0_1 p2), vI (t0_2 p3), vI (t0_3 p4), vI (t0_4 p5), vU, vU, vU]) rfl ?_
    refine XS.iload X0.here hx rfl (hb hby at_37) rfl ?_
    show Steps p.tables e below (s₁.setTop (mkF m 39 #[vI p1, vI p2, vI p3, vI p4, vI p5, vI (t0_0 p1), vI (t0_1 p2), vI (t0_2 p3), vI (t0_3 p4), vI (t0_4 p5), vU, vU, vU] [(.int (t0_0 p1))])) _
    refine XS.ifNo X0.here hx rfl (hb hby at_39) rfl ((if0 _ _).trans (teq hc39).2) ?_
    show Steps p.tables e below (s₁.setTop (mkF m 42 #[vI p1, vI p2, vI p3, vI p4, vI p5, vI (t0_0 p1), vI (t0_1 p2), vI (t0_2 p3), vI (t0_3 p4), vI (t0_4 p5), vU, vU, vU] [])) _
    refine st6 _ ?_
    refine XS.dup X6.here hx rfl (hb hby at_45) rfl rfl ?_
    refine XS.iconst X6.here hx rfl (hb hby at_46) ?_
    show Steps p.tables e below (T6.setTop (mkF m 47 #[vI p1, vI p2, vI p3, vI p4, vI p5, vI (t0_0 p1), vI (t0_1 p2), vI (t0_2 p3), vI (t0_3 p4), vI (t0_4 p5), vU, vU, vU] [(.int (0 : Int32)), (.ref b6), (.ref b6)])) _
    refine st7 _ ?_
    show Steps p.tables e below (T7.setTop (mkF m 49 #[vI p1, vI p2, vI p3, vI p4, vI p5, vI (t0_0 p1), vI (t0_1 p2), vI (t0_2 p3), vI (t0_3 p4), vI (t0_4 p5), vU, vU, vU] [(.ref b7), (.ref b6), (.ref b6)])) _
    refine st8.trans ?_
    refine XS.astore X8.here hx rfl (hb hby at_52) rfl rfl (l' := #[vI p1, vI p2, vI p3, vI p4, vI p5, vI (t0_0 p1), vI (t0_1 p2), vI (t0_2 p3), vI (t0_3 p4), vI (t0_4 p5), vA b6, vU, vU]) rfl ?_
    show Steps p.tables e below (T8.setTop (mkF m 54 #[vI p1, vI p2, vI p3, vI p4, vI p5, vI (t0_0 p1), vI (t0_1 p2), vI (t0_2 p3), vI (t0_3 p4), vI (t0_4 p5), vA b6, vU, vU] [])) _
    refine XS.goto X8.here hx rfl (pc0 := 54) (pc' := 182) rfl (hb hby at_54) (by decide) (by decide) ?_
    show Steps p.tables e below (T8.setTop (mkF m 182 #[vI p1, vI p2, vI p3, vI p4, vI p5, vI (t0_0 p1), vI (t0_1 p2), vI (t0_2 p3), vI (t0_3 p4), vI (t0_4 p5), vA b6, vU, vU] [])) _
    refine X8.ldc2Long hx hown8 (mvT hZ8 (hi 24 rfl)) (g := (mkF m 182 #[vI p1, vI p2, vI p3, vI p4, vI p5, vI (t0_0 p1), vI (t0_1 p2), vI (t0_2 p3), vI (t0_3 p4), vI (t0_4 p5), vA b6, vU, vU] [])) rfl (hb hby at_182) _ ?_
    show Steps p.tables e below (T8.setTop (mkF m 185 #[vI p1, vI p2, vI p3, vI p4, vI p5, vI (t0_0 p1), vI (t0_1 p2), vI (t0_2 p3), vI (t0_3 p4), vI (t0_4 p5), vA b6, vU, vU] [(.long (576 : Int64))])) _
    refine X8.ldc2Long hx hown8 (mvT hZ8 (hi 25 rfl)) (g := (mkF m 185 #[vI p1, vI p2, vI p3, vI p4, vI p5, vI (t0_0 p1), vI (t0_1 p2), vI (t0_2 p3), vI (t0_3 p4), vI (t0_4 p5), vA b6, vU, vU] [(.long (576 : Int64))])) rfl (hb hby at_185) _ ?_
    refine XS.iload X8.here hx rfl (hb hby at_188) rfl ?_
    refine XS.i2l X8.here hx rfl (hb hby at_190) rfl ?_
    refine XS.lmul X8.here hx rfl (hb hby at_191) rfl ?_
    refine XS.ladd X8.here hx rfl (hb hby at_192) rfl ?_
    refine XS.lstore X8.here hx rfl (hb hby at_193) rfl (l' := #[vI p1, vI p2, vI p3, vI p4, vI p5, vI (t0_0 p1), vI (t0_1 p2), vI (t0_2 p3), vI (t0_3 p4), vI (t0_4 p5), vA b6, vL (t0_5 p1), vS]) rfl ?_
    refine XS.aload X8.here hx rfl (hb hby at_195) rfl rfl ?_
    show Steps p.tables e below (T8.setTop (mkF m 197 #[vI p1, vI p2, vI p3, vI p4, vI p5, vI (t0_0 p1), vI (t0_1 p2), vI (t0_2 p3), vI (t0_3 p4), vI (t0_4 p5), vA b6, vL (t0_5 p1), vS] [(.ref b6)])) _
    refine st9 _ ?_
    refine XS.lload X9.here hx rfl (hb hby at_200) rfl ?_
    refine XS.lcmp X9.here hx rfl (hb hby at_202) rfl ?_
    show Steps p.tables e below (T9.setTop (mkF m 203 #[vI p1, vI p2, vI p3, vI p4, vI p5, vI (t0_0 p1), vI (t0_1 p2), vI (t0_2 p3), vI (t0_3 p4), vI (t0_4 p5), vA b6, vL (t0_5 p1), vS] [(.int (lcmpW (t4_0 (0 : Int32) (0 : Int32)) (t0_5 p1)))])) _
    refine XS.ifNo X9.here hx rfl (hb hby at_203) rfl ((if0 _ _).trans (teq (show (lcmpW (t4_0 (0 : Int32) (0 : Int32)) (t0_5 p1)) = (0 : Int32) from own_end0 hc39)).2) ?_
    refine XS.iconst X9.here hx rfl (hb hby at_206) ?_
    show Steps p.tables e below (T9.setTop (mkF m 207 #[vI p1, vI p2, vI p3, vI p4, vI p5, vI (t0_0 p1), vI (t0_1 p2), vI (t0_2 p3), vI (t0_3 p4), vI (t0_4 p5), vA b6, vL (t0_5 p1), vS] [(.int (1 : Int32))])) _
    refine XS.goto X9.here hx rfl (pc0 := 207) (pc' := 211) rfl (hb hby at_207) (by decide) (by decide) ?_
    show Steps p.tables e below (T9.setTop (mkF m 211 #[vI p1, vI p2, vI p3, vI p4, vI p5, vI (t0_0 p1), vI (t0_1 p2), vI (t0_2 p3), vI (t0_3 p4), vI (t0_4 p5), vA b6, vL (t0_5 p1), vS] [(.int (1 : Int32))])) _
    exact retN X9 hx (t := .boolean) Bd.returns (by simp) (hb hby at_211) hr
  · show Q_rm0 Z p1 p2 p3 p4 p5 s_COMPACT_STRINGS s__assertionsDisabled s_HI_BYTE_SHIFT s_LO_BYTE_SHIFT h0 n0 _ T9.heap _
    exact ⟨rfl, N9⟩
set_option maxRecDepth 65536 in
set_option maxHeartbeats 40000000 in
theorem rm0_tf (l : Launch) (Z : State) (a0 : Array Value) (hw : ∀ d ∈ tables_1, d.before a0 Z = true) (ws : List Jvm.Cond) (p1 : Int32) (p2 : Int32) (p3 : Int32) (p4 : Int32) (p5 : Int32) (s_COMPACT_STRINGS : Int32) (s__assertionsDisabled : Int32) (s_HI_BYTE_SHIFT : Int32) (s_LO_BYTE_SHIFT : Int32) (h0 : Heap) (n0 : Nat) (Z0 : n0 ≤ h0.size) (hcs : ¬ (s_COMPACT_STRINGS = (0 : Int32))) (hasd : ¬ (s__assertionsDisabled = (0 : Int32))) (hhi : s_HI_BYTE_SHIFT = (0 : Int32)) (hlo : s_LO_BYTE_SHIFT = (8 : Int32)) (S_COMPACT_STRINGS : Sta Z h0 "java/lang/String" "COMPACT_STRINGS" "Z" (.int s_COMPACT_STRINGS)) (S__assertionsDisabled : Sta Z h0 "java/lang/StringUTF16" "$assertionsDisabled" "Z" (.int s__assertionsDisabled)) (S_HI_BYTE_SHIFT : Sta Z h0 "java/lang/StringUTF16" "HI_BYTE_SHIFT" "I" (.int s_HI_BYTE_SHIFT)) (S_LO_BYTE_SHIFT : Sta Z h0 "java/lang/StringUTF16" "LO_BYTE_SHIFT" "I" (.int s_LO_BYTE_SHIFT)) (hc39 : ¬ ((t0_0 p1) = (0 : Int32))) (hc60 : (t0_0 p1) = (1 : Int32)) :
    MetFree l x (head1 (Jvm.Cond.code x code maxLocals ret :: ws) room_1) (fun a U => a = #[(.int p1), (.int p2), (.int p3), (.int p4), (.int p5)] ∧ Z.Warmed39 U.vm ∧ U.heap = h0 ∧ CHv Z consts_1 U.vm h0) (fun _ _ _ _ _ => True) (fun _ U o U' => ∃ v L, o = .returned v ∧ Q_rm0 Z p1 p2 p3 p4 p5 s_COMPACT_STRINGS s__assertionsDisabled s_HI_BYTE_SHIFT s_LO_BYTE_SHIFT h0 n0 v U'.heap L ∧ ReturnedEndW U o U' L room_1.cells room_1.slots) := by
  have hi : ∀ (i : Nat) {d : Jvm.Cond}, tables_1[i]? = some d → d.before a0 Z = true := fun i d h => hw d (List.mem_of_getElem? h)
  refine MetFree.of_bodySF (plainFor_of_name pn_0) hisR ?_
  intro p e s m args below meth c s₁ Bd hml0 hP hK
  obtain ⟨rfl, hZ, hh, hCH⟩ := hP
  have hx := Bd.exec
  have hby := Bd.bytes
  have hml : c.maxLocals = 13 := hml0
  have hown : s.vm.findClass "com/example/lob/lob/broker/HeldBytesOfKeptSessionPinLaw" = some m.cls := findClass_of_methodNamed Bd.named
  have hnm := (name_of_methodNamed Bd.named Bd.method).1
  have X0 : Stand p l e room_1 (s.setVm s.vm) m #[(.int p1), (.int p2), (.int p3), (.int p4), (.int p5)] below meth c s₁ [] 0 0 := Stand.of_body Bd
  have e0 : s₁.heap = h0 := by rw [← hh, Bd.state]; rfl
  have N0 := Fr.nil n0
  have pre0 : ∀ t, Steps p.tables e below (s₁.setTop (mkF m 0 #[vI p1, vI p2, vI p3, vI p4, vI p5, vU, vU, vU, vU, vU, vU, vU, vU] [])) t → Steps p.tables e below (s₁.setTop (entryFrame m #[(.int p1), (.int p2), (.int p3), (.int p4), (.int p5)] maxLocals)) t := fun t k => castTop (ef_0 m p1 p2 p3 p4 p5) k
  have hS0 : s.Since s.vm h0.size := (State.WarmedH.refl s).since _
  obtain ⟨T6, h6, X6, e6, E6, A6, D6, -, st6⟩ := newO X0 hx hZ hown (hi 2 rfl) (hi 3 rfl) (hi 4 rfl) e0 (g := (mkF m 63 #[vI p1, vI p2, vI p3, vI p4, vI p5, vI (t0_0 p1), vI (t0_1 p2), vI (t0_2 p3), vI (t0_3 p4), vI (t0_4 p5), vU, vU, vU] [])) rfl (hb hby at_63) (by decide) (by decide)
  obtain ⟨b6, g6⟩ : ∃ z, z = h0.size := ⟨_, rfl⟩
  rw [← g6] at A6 D6 st6
  have g_b6 : n0 ≤ b6 := Nat.le_trans Z0 (Nat.le_of_eq g6.symm)
  have sz_b6 : h0.size ≤ b6 := Nat.le_trans (Nat.le_refl h0.size) (Nat.le_of_eq g6.symm)
  have F_value_b6 : Fld Z h6 b6 "java/lang/String" "value" "[B" .null := D6 (Or.inr (hi 18 rfl)) (ty := (.array .byte)) (by decide)
  have F_coder_b6 : Fld Z h6 b6 "java/lang/String" "coder" "B" (.int (0 : Int32)) := D6 (Or.inr (hi 19 rfl)) (ty := .byte) (by decide)
  obtain ⟨T7, h7, k7, X7, e7, E7, A7, st7⟩ := newP X6 hx hZ (hi 5 rfl) e6 (g := (mkF m 68 #[vI p1, vI p2, vI p3, vI p4, vI p5, vI (t0_0 p1), vI (t0_1 p2), vI (t0_2 p3), vI (t0_3 p4), vI (t0_4 p5), vU, vU, vU] [(.int (1 : Int32)), (.ref b6), (.ref b6)])) rfl (hb hby at_68) rfl (by decide) (cap := 1) (by decide) (by decide) (by decide) (by decide)
  obtain ⟨b7, g7⟩ : ∃ z, z = h6.size := ⟨_, rfl⟩
  rw [← g7] at A7 st7
  have g_b7 : n0 ≤ b7 := Nat.le_trans (Nat.le_trans Z0 E6.1) (Nat.le_of_eq g7.symm)
  have sz_b7 : h0.size ≤ b7 := Nat.le_trans (Nat.le_trans (Nat.le_refl h0.size) E6.1) (Nat.le_of_eq g7.symm)
  have V_b7 : Arv Z h7 b7 k7 .char (1 : Int32) [(.int (0 : Int32))] (.int (0 : Int32)) := (Arv.new A7 (by decide)).pad (pad_rep [] (.int (0 : Int32)) 1)
  obtain ⟨cl_b7_0, Ar_b7_0, q_b7_0, Sz_b7_0, Ng_b7_0, Ha_b7_0, Gt_b7_0⟩ := id V_b7
  have hin_b7_0 : ¬ ((0 : Int32) < 0 ∨ cl_b7_0.slots.size ≤ ((0 : Int32)).toNatClampNeg) := inb_of Sz_b7_0 ⟨by decide, by decide⟩
  obtain ⟨T8, h8, X8, e8, W8, st8⟩ := stC X7 hx hZ e7 Ar_b7_0 (j := (0 : Int32)) hin_b7_0 (g := (mkF m 74 #[vI p1, vI p2, vI p3, vI p4, vI p5, vI (t0_0 p1), vI (t0_1 p2), vI (t0_2 p3), vI (t0_3 p4), vI (t0_4 p5), vU, vU, vU] [(.int (t0_1 p2)), (.int (0 : Int32)), (.ref b7), (.ref b7), (.ref b6), (.ref b6)])) rfl rfl (hb hby at_74)
  have V8 : Arv Z h8 b7 k7 .char (1 : Int32) [(.int (nar .char (t0_1 p2)))] (.int (0 : Int32)) := Arv.set Ar_b7_0 q_b7_0 Sz_b7_0 Ng_b7_0 Ha_b7_0 Gt_b7_0 (fits_nar_char _) W8 0 rfl (Nat.le_of_ble_eq_true rfl)
  have N8 := Fr.snoc X8 N0 g_b7
  have f1 := (((S_COMPACT_STRINGS.ext E6).ext E7).wr W8)
  have f2 := (((S__assertionsDisabled.ext E6).ext E7).wr W8)
  have f3 := (((S_HI_BYTE_SHIFT.ext E6).ext E7).wr W8)
  have f4 := (((S_LO_BYTE_SHIFT.ext E6).ext E7).wr W8)
  have f5 := ((F_coder_b6.ext E7).other W8 (Or.inl (Nat.ne_of_lt (Nat.lt_of_lt_of_le A6.lt (Nat.le_of_eq g7.symm)))))
  have f6 := ((F_value_b6.ext E7).other W8 (Or.inl (Nat.ne_of_lt (Nat.lt_of_lt_of_le A6.lt (Nat.le_of_eq g7.symm)))))
  have f7 := ((A6.ext E7).wr W8)
  obtain ⟨_, _, ⟨T9, L9, k9, n9⟩, -, X9, ⟨Lc9, hQ9, l9, y9, z9⟩, st9⟩ := X8.specialBack hx (y := (⟨"java/lang/String", "<init>", "([C)V"⟩ : MethodName)) rfl hown (mvT hZ (hi 6 rfl)) (mvT hZ (hi 7 rfl)) (mvT hZ (hi 8 rfl)) (by decide) (backOf (W := 1) (rm1_1 l Z a0 hw [] b6 b7 s_COMPACT_STRINGS s__assertionsDisabled s_HI_BYTE_SHIFT s_LO_BYTE_SHIFT (0 : Int32) .null k7 (nar .char (t0_1 p2)) h8 n0 (Nat.le_trans (Nat.le_trans (Nat.le_trans Z0 E6.1) E7.1) (Keep.of_wr W8).1) hcs hasd hhi hlo (own_cc2 _) f1 f2 f3 f4 f5 f6 f7 g_b6 V8) hZ (hi 8 rfl) (hi 4 rfl) (by decide) (by decide)) (g := (mkF m 75 #[vI p1, vI p2, vI p3, vI p4, vI p5, vI (t0_0 p1), vI (t0_1 p2), vI (t0_2 p3), vI (t0_3 p4), vI (t0_4 p5), vU, vU, vU] [(.ref b7), (.ref b6), (.ref b6)])) rfl (by rw [hml]; rfl) (Steps.refl _) (a := b6) (argsL := [(.ref b7)]) (rest := [(.ref b6)]) (lenOf pd__28_5bC_29V rfl) rfl (by show 2 * 0 + _ ≤ _; exact Nat.le_of_eq rfl) (hb hby at_75) (fun _ _ => ⟨rfl, e8, (by decide : 2 + 2 ≤ _), (by decide : 5 + 3 ≤ _)⟩)
  dsimp only [Pt.U, Pt.locs, Pt.cells, Pt.slots] at X9 l9 y9 z9 st9 hQ9
  subst l9 y9 z9
  obtain ⟨b_5_3_9, ⟨k_5_3_9, ⟨zz_5_3_9, ⟨vs_5_3_9, ⟨rfl, N9q, K9, i9_0, i9_1, i9_2, i9_3, i9_4, i9_5⟩⟩⟩⟩⟩ := hQ9
  have N9 := Fr.app N8 N9q
  have sz_b_5_3_9 : h0.size ≤ b_5_3_9 := Nat.le_trans (Nat.le_trans (Nat.le_trans (Nat.le_trans (Nat.le_refl h0.size) E6.1) E7.1) (Keep.of_wr W8).1) i9_0
  have g_b_5_3_9 : n0 ≤ b_5_3_9 := Nat.le_trans Z0 sz_b_5_3_9
  have f8 := (own_sta_keep f1 K9 (own_qc (own_nst f7) own_q0))
  obtain ⟨_, _, ⟨T10, L10, k10, n10⟩, -, X10, ⟨Lc10, hQ10, l10, y10, z10⟩, st10⟩ := Jvm.LawKit.callS X9 hx (y := (⟨"com/example/lob/lob/broker/HeldBytes", "ofKeptSession", "(Ljava/lang/String;)J"⟩ : MethodName)) hown (mvT hZ (hi 26 rfl)) (mvT hZ (hi 27 rfl)) (mvT hZ (hi 28 rfl)) (mvT hZ (hi 29 rfl)) (by decide) (backOf (W := 0) (rm4 l Z a0 hw [] b6 b_5_3_9 k_5_3_9 zz_5_3_9 vs_5_3_9 s_COMPACT_STRINGS (nar .byte (nar .byte ((t9_0 (1 : Int32) zz_5_3_9).toInt8.toInt32))) T9.heap n0 (Nat.le_trans (Nat.le_trans (Nat.le_trans (Nat.le_trans Z0 E6.1) E7.1) (Keep.of_wr W8).1) K9.1) hcs i9_3 i9_4 f8 i9_2 i9_1) hZ (hi 29 rfl) (hi 28 rfl) (by decide) (by decide)) (g := (mkF m 197 #[vI p1, vI p2, vI p3, vI p4, vI p5, vI (t0_0 p1), vI (t0_1 p2), vI (t0_2 p3), vI (t0_3 p4), vI (t0_4 p5), vA b6, vL (t0_5 p1), vS] [(.ref b6)])) rfl (by rw [hml]; rfl) (argsL := [(.ref b6)]) (rest := []) (lenOf pd__28Ljava_2flang_2fString_3b_29J rfl) rfl (by show 2 * 0 + _ ≤ _; exact Nat.le_of_eq rfl) (hb hby at_197) (fun _ _ => ⟨rfl, rfl, (by decide : 4 + 0 ≤ _), (by decide : 8 + 0 ≤ _)⟩)
  dsimp only [Pt.U, Pt.locs, Pt.cells, Pt.slots] at X10 l10 y10 z10 st10 hQ10
  subst l10 y10 z10
  obtain ⟨rfl, N10q, e10⟩ := hQ10
  have N10 := Fr.app N9 N10q
  obtain ⟨fs, hr, hrun, hended, hw1, hw2, hw3, hw4⟩ := X10.leaveW hS0 (show _ ≤ T10.heap.size from by rw [e10]; exact (Nat.le_trans (Nat.le_trans (Nat.le_trans (Nat.le_trans (Nat.le_refl h0.size) E6.1) E7.1) (Keep.of_wr W8).1) K9.1)) (v := some (.int (1 : Int32))) (fun h => by rw [Bd.returns] at h; cases h)
  refine ⟨_, _, pre0 _ ?_, hrun, hended, _, _, rfl, ?_, hw1, hw2, hw3, hw4.mono (by decide) (by decide)⟩
  · show Steps p.tables e below (s₁.setTop (mkF m 0 #[vI p1, vI p2, vI p3, vI p4, vI p5, vU, vU, vU, vU, vU, vU, vU, vU] [])) _
    refine XS.iloadN X0.here hx rfl (hb hby at_0) rfl ?_
    show Steps p.tables e below (s₁.setTop (mkF m 1 #[vI p1, vI p2, vI p3, vI p4, vI p5, vU, vU, vU, vU, vU, vU, vU, vU] [(.int p1)])) _
    refine X0.ldcInt hx hown (mvT hZ (hi 0 rfl)) (g := (mkF m 1 #[vI p1, vI p2, vI p3, vI p4, vI p5, vU, vU, vU, vU, vU, vU, vU, vU] [(.int p1)])) rfl (hb hby at_1) _ ?_
    refine XS.iand X0.here hx rfl (hb hby at_3) rfl ?_
    refine XS.iconst X0.here hx rfl (hb hby at_4) ?_
    refine XS.irem X0.here hx rfl (hb hby at_5) rfl (by decide) ?_
    refine XS.istore X0.here hx rfl (hb hby at_6) rfl (l' := #[vI p1, vI p2, vI p3, vI p4, vI p5, vI (t0_0 p1), vU, vU, vU, vU, vU, vU, vU]) rfl ?_
    refine XS.iloadN X0.here hx rfl (hb hby at_8) rfl ?_
    show Steps p.tables e below (s₁.setTop (mkF m 9 #[vI p1, vI p2, vI p3, vI p4, vI p5, vI (t0_0 p1), vU, vU, vU, vU, vU, vU, vU] [(.int p2)])) _
    refine X0.ldcInt hx hown (mvT hZ (hi 1 rfl)) (g := (mkF m 9 #[vI p1, vI p2, vI p3, vI p4, vI p5, vI (t0_0 p1), vU, vU, vU, vU, vU, vU, vU] [(.int p2)])) rfl (hb hby at_9) _ ?_
    refine XS.iand X0.here hx rfl (hb hby at_11) rfl ?_
    refine XS.i2c X0.here hx rfl (hb hby at_12) rfl ?_
    refine XS.istore X0.here hx rfl (hb hby at_13) rfl (l' := #[vI p1, vI p2, vI p3, vI p4, vI p5, vI (t0_0 p1), vI (t0_1 p2), vU, vU, vU, vU, vU, vU]) rfl ?_
    refine XS.iloadN X0.here hx rfl (hb hby at_15) rfl ?_
    show Steps p.tables e below (s₁.setTop (mkF m 16 #[vI p1, vI p2, vI p3, vI p4, vI p5, vI (t0_0 p1), vI (t0_1 p2), vU, vU, vU, vU, vU, vU] [(.int p3)])) _
    refine X0.ldcInt hx hown (mvT hZ (hi 1 rfl)) (g := (mkF m 16 #[vI p1, vI p2, vI p3, vI p4, vI p5, vI (t0_0 p1), vI (t0_1 p2), vU, vU, vU, vU, vU, vU] [(.int p3)])) rfl (hb hby at_16) _ ?_
    refine XS.iand X0.here hx rfl (hb hby at_18) rfl ?_
    refine XS.i2c X0.here hx rfl (hb hby at_19) rfl ?_
    refine XS.istore X0.here hx rfl (hb hby at_20) rfl (l' := #[vI p1, vI p2, vI p3, vI p4, vI p5, vI (t0_0 p1), vI (t0_1 p2), vI (t0_2 p3), vU, vU, vU, vU, vU]) rfl ?_
    refine XS.iloadN X0.here hx rfl (hb hby at_22) rfl ?_
    show Steps p.tables e below (s₁.setTop (mkF m 23 #[vI p1, vI p2, vI p3, vI p4, vI p5, vI (t0_0 p1), vI (t0_1 p2), vI (t0_2 p3), vU, vU, vU, vU, vU] [(.int p4)])) _
    refine X0.ldcInt hx hown (mvT hZ (hi 1 rfl)) (g := (mkF m 23 #[vI p1, vI p2, vI p3, vI p4, vI p5, vI (t0_0 p1), vI (t0_1 p2), vI (t0_2 p3), vU, vU, vU, vU, vU] [(.int p4)])) rfl (hb hby at_23) _ ?_
    refine XS.iand X0.here hx rfl (hb hby at_25) rfl ?_
    refine XS.i2c X0.here hx rfl (hb hby at_26) rfl ?_
    refine XS.istore X0.here hx rfl (hb hby at_27) rfl (l' := #[vI p1, vI p2, vI p3, vI p4, vI p5, vI (t0_0 p1), vI (t0_1 p2), vI (t0_2 p3), vI (t0_3 p4), vU, vU, vU, vU]) rfl ?_
    refine XS.iload X0.here hx rfl (hb hby at_29) rfl ?_
    show Steps p.tables e below (s₁.setTop (mkF m 31 #[vI p1, vI p2, vI p3, vI p4, vI p5, vI (t0_0 p1), vI (t0_1 p2), vI (t0_2 p3), vI (t0_3 p4), vU, vU, vU, vU] [(.int p5)])) _
    refine X0.ldcInt hx hown (mvT hZ (hi 1 rfl)) (g := (mkF m 31 #[vI p1, vI p2, vI p3, vI p4, vI p5, vI (t0_0 p1), vI (t0_1 p2), vI (t0_2 p3), vI (t0_3 p4), vU, vU, vU, vU] [(.int p5)])) rfl (hb hby at_31) _ ?_
    refine XS.iand X0.here hx rfl (hb hby at_33) rfl ?_
    refine XS.i2c X0.here hx rfl (hb hby at_34) rfl ?_
    refine XS.istore X0.here hx rfl (hb hby at_35) rfl (l' := #[vI p1, vI p2, vI p3, vI p4, vI p5, vI (t0_0 p1), vI (t0_1 p2), vI (t0_2 p3), vI (t0_3 p4), vI (t0_4 p5), vU, vU, vU]) rfl ?_
    refine XS.iload X0.here hx rfl (hb hby at_37) rfl ?_
    show Steps p.tables e below (s₁.setTop (mkF m 39 #[vI p1, vI p2, vI p3, vI p4, vI p5, vI (t0_0 p1), vI (t0_1 p2), vI (t0_2 p3), vI (t0_3 p4), vI (t0_4 p5), vU, vU, vU] [(.int (t0_0 p1))])) _
    refine XS.ifYes X0.here hx rfl (pc0 := 39) (pc' := 57) rfl (hb hby at_39) rfl ((if0 _ _).trans (feq hc39).2) (by decide) (by decide) ?_
    refine XS.iload X0.here hx rfl (hb hby at_57) rfl ?_
    refine XS.iconst X0.here hx rfl (hb hby at_59) ?_
    show Steps p.tables e below (s₁.setTop (mkF m 60 #[vI p1, vI p2, vI p3, vI p4, vI p5, vI (t0_0 p1), vI (t0_1 p2), vI (t0_2 p3), vI (t0_3 p4), vI (t0_4 p5), vU, vU, vU] [(.int (1 : Int32)), (.int (t0_0 p1))])) _
    refine XS.icmpNo X0.here hx rfl (hb hby at_60) rfl (teq hc60).2 ?_
    show Steps p.tables e below (s₁.setTop (mkF m 63 #[vI p1, vI p2, vI p3, vI p4, vI p5, vI (t0_0 p1), vI (t0_1 p2), vI (t0_2 p3), vI (t0_3 p4), vI (t0_4 p5), vU, vU, vU] [])) _
    refine st6 _ ?_
    refine XS.dup X6.here hx rfl (hb hby at_66) rfl rfl ?_
    refine XS.iconst X6.here hx rfl (hb hby at_67) ?_
    show Steps p.tables e below (T6.setTop (mkF m 68 #[vI p1, vI p2, vI p3, vI p4, vI p5, vI (t0_0 p1), vI (t0_1 p2), vI (t0_2 p3), vI (t0_3 p4), vI (t0_4 p5), vU, vU, vU] [(.int (1 : Int32)), (.ref b6), (.ref b6)])) _
    refine st7 _ ?_
    refine XS.dup X7.here hx rfl (hb hby at_70) rfl rfl ?_
    refine XS.iconst X7.here hx rfl (hb hby at_71) ?_
    refine XS.iload X7.here hx rfl (hb hby at_72) rfl ?_
    show Steps p.tables e below (T7.setTop (mkF m 74 #[vI p1, vI p2, vI p3, vI p4, vI p5, vI (t0_0 p1), vI (t0_1 p2), vI (t0_2 p3), vI (t0_3 p4), vI (t0_4 p5), vU, vU, vU] [(.int (t0_1 p2)), (.int (0 : Int32)), (.ref b7), (.ref b7), (.ref b6), (.ref b6)])) _
    refine st8 _ ?_
    show Steps p.tables e below (T8.setTop (mkF m 75 #[vI p1, vI p2, vI p3, vI p4, vI p5, vI (t0_0 p1), vI (t0_1 p2), vI (t0_2 p3), vI (t0_3 p4), vI (t0_4 p5), vU, vU, vU] [(.ref b7), (.ref b6), (.ref b6)])) _
    refine st9.trans ?_
    refine XS.astore X9.here hx rfl (hb hby at_78) rfl rfl (l' := #[vI p1, vI p2, vI p3, vI p4, vI p5, vI (t0_0 p1), vI (t0_1 p2), vI (t0_2 p3), vI (t0_3 p4), vI (t0_4 p5), vA b6, vU, vU]) rfl ?_
    show Steps p.tables e below (T9.setTop (mkF m 80 #[vI p1, vI p2, vI p3, vI p4, vI p5, vI (t0_0 p1), vI (t0_1 p2), vI (t0_2 p3), vI (t0_3 p4), vI (t0_4 p5), vA b6, vU, vU] [])) _
    refine XS.goto X9.here hx rfl (pc0 := 80) (pc' := 182) rfl (hb hby at_80) (by decide) (by decide) ?_
    show Steps p.tables e below (T9.setTop (mkF m 182 #[vI p1, vI p2, vI p3, vI p4, vI p5, vI (t0_0 p1), vI (t0_1 p2), vI (t0_2 p3), vI (t0_3 p4), vI (t0_4 p5), vA b6, vU, vU] [])) _
    refine X9.ldc2Long hx hown (mvT hZ (hi 24 rfl)) (g := (mkF m 182 #[vI p1, vI p2, vI p3, vI p4, vI p5, vI (t0_0 p1), vI (t0_1 p2), vI (t0_2 p3), vI (t0_3 p4), vI (t0_4 p5), vA b6, vU, vU] [])) rfl (hb hby at_182) _ ?_
    show Steps p.tables e below (T9.setTop (mkF m 185 #[vI p1, vI p2, vI p3, vI p4, vI p5, vI (t0_0 p1), vI (t0_1 p2), vI (t0_2 p3), vI (t0_3 p4), vI (t0_4 p5), vA b6, vU, vU] [(.long (576 : Int64))])) _
    refine X9.ldc2Long hx hown (mvT hZ (hi 25 rfl)) (g := (mkF m 185 #[vI p1, vI p2, vI p3, vI p4, vI p5, vI (t0_0 p1), vI (t0_1 p2), vI (t0_2 p3), vI (t0_3 p4), vI (t0_4 p5), vA b6, vU, vU] [(.long (576 : Int64))])) rfl (hb hby at_185) _ ?_
    refine XS.iload X9.here hx rfl (hb hby at_188) rfl ?_
    refine XS.i2l X9.here hx rfl (hb hby at_190) rfl ?_
    refine XS.lmul X9.here hx rfl (hb hby at_191) rfl ?_
    refine XS.ladd X9.here hx rfl (hb hby at_192) rfl ?_
    refine XS.lstore X9.here hx rfl (hb hby at_193) rfl (l' := #[vI p1, vI p2, vI p3, vI p4, vI p5, vI (t0_0 p1), vI (t0_1 p2), vI (t0_2 p3), vI (t0_3 p4), vI (t0_4 p5), vA b6, vL (t0_5 p1), vS]) rfl ?_
    refine XS.aload X9.here hx rfl (hb hby at_195) rfl rfl ?_
    show Steps p.tables e below (T9.setTop (mkF m 197 #[vI p1, vI p2, vI p3, vI p4, vI p5, vI (t0_0 p1), vI (t0_1 p2), vI (t0_2 p3), vI (t0_3 p4), vI (t0_4 p5), vA b6, vL (t0_5 p1), vS] [(.ref b6)])) _
    refine st10 _ ?_
    refine XS.lload X10.here hx rfl (hb hby at_200) rfl ?_
    refine XS.lcmp X10.here hx rfl (hb hby at_202) rfl ?_
    show Steps p.tables e below (T10.setTop (mkF m 203 #[vI p1, vI p2, vI p3, vI p4, vI p5, vI (t0_0 p1), vI (t0_1 p2), vI (t0_2 p3), vI (t0_3 p4), vI (t0_4 p5), vA b6, vL (t0_5 p1), vS] [(.int (lcmpW (t4_0 zz_5_3_9 (nar .byte (nar .byte ((t9_0 (1 : Int32) zz_5_3_9).toInt8.toInt32)))) (t0_5 p1)))])) _
    refine XS.ifNo X10.here hx rfl (hb hby at_203) rfl ((if0 _ _).trans (teq (show (lcmpW (t4_0 zz_5_3_9 (nar .byte (nar .byte ((t9_0 (1 : Int32) zz_5_3_9).toInt8.toInt32)))) (t0_5 p1)) = (0 : Int32) from own_end1 hc60 i9_5)).2) ?_
    refine XS.iconst X10.here hx rfl (hb hby at_206) ?_
    show Steps p.tables e below (T10.setTop (mkF m 207 #[vI p1, vI p2, vI p3, vI p4, vI p5, vI (t0_0 p1), vI (t0_1 p2), vI (t0_2 p3), vI (t0_3 p4), vI (t0_4 p5), vA b6, vL (t0_5 p1), vS] [(.int (1 : Int32))])) _
    refine XS.goto X10.here hx rfl (pc0 := 207) (pc' := 211) rfl (hb hby at_207) (by decide) (by decide) ?_
    show Steps p.tables e below (T10.setTop (mkF m 211 #[vI p1, vI p2, vI p3, vI p4, vI p5, vI (t0_0 p1), vI (t0_1 p2), vI (t0_2 p3), vI (t0_3 p4), vI (t0_4 p5), vA b6, vL (t0_5 p1), vS] [(.int (1 : Int32))])) _
    exact retN X10 hx (t := .boolean) Bd.returns (by simp) (hb hby at_211) hr
  · show Q_rm0 Z p1 p2 p3 p4 p5 s_COMPACT_STRINGS s__assertionsDisabled s_HI_BYTE_SHIFT s_LO_BYTE_SHIFT h0 n0 _ T10.heap _
    exact ⟨rfl, N10⟩
set_option maxRecDepth 65536 in
set_option maxHeartbeats 40000000 in
theorem rm0_ttf (l : Launch) (Z : State) (a0 : Array Value) (hw : ∀ d ∈ tables_1, d.before a0 Z = true) (ws : List Jvm.Cond) (p1 : Int32) (p2 : Int32) (p3 : Int32) (p4 : Int32) (p5 : Int32) (s_COMPACT_STRINGS : Int32) (s__assertionsDisabled : Int32) (s_HI_BYTE_SHIFT : Int32) (s_LO_BYTE_SHIFT : Int32) (h0 : Heap) (n0 : Nat) (Z0 : n0 ≤ h0.size) (hcs : ¬ (s_COMPACT_STRINGS = (0 : Int32))) (hasd : ¬ (s__assertionsDisabled = (0 : Int32))) (hhi : s_HI_BYTE_SHIFT = (0 : Int32)) (hlo : s_LO_BYTE_SHIFT = (8 : Int32)) (S_COMPACT_STRINGS : Sta Z h0 "java/lang/String" "COMPACT_STRINGS" "Z" (.int s_COMPACT_STRINGS)) (S__assertionsDisabled : Sta Z h0 "java/lang/StringUTF16" "$assertionsDisabled" "Z" (.int s__assertionsDisabled)) (S_HI_BYTE_SHIFT : Sta Z h0 "java/lang/StringUTF16" "HI_BYTE_SHIFT" "I" (.int s_HI_BYTE_SHIFT)) (S_LO_BYTE_SHIFT : Sta Z h0 "java/lang/StringUTF16" "LO_BYTE_SHIFT" "I" (.int s_LO_BYTE_SHIFT)) (hc39 : ¬ ((t0_0 p1) = (0 : Int32))) (hc60 : ¬ ((t0_0 p1) = (1 : Int32))) (hc86 : (t0_0 p1) = (2 : Int32)) :
    MetFree l x (head1 (Jvm.Cond.code x code maxLocals ret :: ws) room_1) (fun a U => a = #[(.int p1), (.int p2), (.int p3), (.int p4), (.int p5)] ∧ Z.Warmed39 U.vm ∧ U.heap = h0 ∧ CHv Z consts_1 U.vm h0) (fun _ _ _ _ _ => True) (fun _ U o U' => ∃ v L, o = .returned v ∧ Q_rm0 Z p1 p2 p3 p4 p5 s_COMPACT_STRINGS s__assertionsDisabled s_HI_BYTE_SHIFT s_LO_BYTE_SHIFT h0 n0 v U'.heap L ∧ ReturnedEndW U o U' L room_1.cells room_1.slots) := by
  have hi : ∀ (i : Nat) {d : Jvm.Cond}, tables_1[i]? = some d → d.before a0 Z = true := fun i d h => hw d (List.mem_of_getElem? h)
  refine MetFree.of_bodySF (plainFor_of_name pn_0) hisR ?_
  intro p e s m args below meth c s₁ Bd hml0 hP hK
  obtain ⟨rfl, hZ, hh, hCH⟩ := hP
  have hx := Bd.exec
  have hby := Bd.bytes
  have hml : c.maxLocals = 13 := hml0
  have hown : s.vm.findClass "com/example/lob/lob/broker/HeldBytesOfKeptSessionPinLaw" = some m.cls := findClass_of_methodNamed Bd.named
  have hnm := (name_of_methodNamed Bd.named Bd.method).1
  have X0 : Stand p l e room_1 (s.setVm s.vm) m #[(.int p1), (.int p2), (.int p3), (.int p4), (.int p5)] below meth c s₁ [] 0 0 := Stand.of_body Bd
  have e0 : s₁.heap = h0 := by rw [← hh, Bd.state]; rfl
  have N0 := Fr.nil n0
  have pre0 : ∀ t, Steps p.tables e below (s₁.setTop (mkF m 0 #[vI p1, vI p2, vI p3, vI p4, vI p5, vU, vU, vU, vU, vU, vU, vU, vU] [])) t → Steps p.tables e below (s₁.setTop (entryFrame m #[(.int p1), (.int p2), (.int p3), (.int p4), (.int p5)] maxLocals)) t := fun t k => castTop (ef_0 m p1 p2 p3 p4 p5) k
  have hS0 : s.Since s.vm h0.size := (State.WarmedH.refl s).since _
  obtain ⟨T6, h6, X6, e6, E6, A6, D6, -, st6⟩ := newO X0 hx hZ hown (hi 2 rfl) (hi 3 rfl) (hi 4 rfl) e0 (g := (mkF m 89 #[vI p1, vI p2, vI p3, vI p4, vI p5, vI (t0_0 p1), vI (t0_1 p2), vI (t0_2 p3), vI (t0_3 p4), vI (t0_4 p5), vU, vU, vU] [])) rfl (hb hby at_89) (by decide) (by decide)
  obtain ⟨b6, g6⟩ : ∃ z, z = h0.size := ⟨_, rfl⟩
  rw [← g6] at A6 D6 st6
  have g_b6 : n0 ≤ b6 := Nat.le_trans Z0 (Nat.le_of_eq g6.symm)
  have sz_b6 : h0.size ≤ b6 := Nat.le_trans (Nat.le_refl h0.size) (Nat.le_of_eq g6.symm)
  have F_value_b6 : Fld Z h6 b6 "java/lang/String" "value" "[B" .null := D6 (Or.inr (hi 18 rfl)) (ty := (.array .byte)) (by decide)
  have F_coder_b6 : Fld Z h6 b6 "java/lang/String" "coder" "B" (.int (0 : Int32)) := D6 (Or.inr (hi 19 rfl)) (ty := .byte) (by decide)
  obtain ⟨T7, h7, k7, X7, e7, E7, A7, st7⟩ := newP X6 hx hZ (hi 5 rfl) e6 (g := (mkF m 94 #[vI p1, vI p2, vI p3, vI p4, vI p5, vI (t0_0 p1), vI (t0_1 p2), vI (t0_2 p3), vI (t0_3 p4), vI (t0_4 p5), vU, vU, vU] [(.int (2 : Int32)), (.ref b6), (.ref b6)])) rfl (hb hby at_94) rfl (by decide) (cap := 2) (by decide) (by decide) (by decide) (by decide)
  obtain ⟨b7, g7⟩ : ∃ z, z = h6.size := ⟨_, rfl⟩
  rw [← g7] at A7 st7
  have g_b7 : n0 ≤ b7 := Nat.le_trans (Nat.le_trans Z0 E6.1) (Nat.le_of_eq g7.symm)
  have sz_b7 : h0.size ≤ b7 := Nat.le_trans (Nat.le_trans (Nat.le_refl h0.size) E6.1) (Nat.le_of_eq g7.symm)
  have V_b7 : Arv Z h7 b7 k7 .char (2 : Int32) [(.int (0 : Int32)), (.int (0 : Int32))] (.int (0 : Int32)) := (Arv.new A7 (by decide)).pad (pad_rep [] (.int (0 : Int32)) 2)
  obtain ⟨cl_b7_0, Ar_b7_0, q_b7_0, Sz_b7_0, Ng_b7_0, Ha_b7_0, Gt_b7_0⟩ := id V_b7
  have hin_b7_0 : ¬ ((0 : Int32) < 0 ∨ cl_b7_0.slots.size ≤ ((0 : Int32)).toNatClampNeg) := inb_of Sz_b7_0 ⟨by decide, by decide⟩
  obtain ⟨T8, h8, X8, e8, W8, st8⟩ := stC X7 hx hZ e7 Ar_b7_0 (j := (0 : Int32)) hin_b7_0 (g := (mkF m 100 #[vI p1, vI p2, vI p3, vI p4, vI p5, vI (t0_0 p1), vI (t0_1 p2), vI (t0_2 p3), vI (t0_3 p4), vI (t0_4 p5), vU, vU, vU] [(.int (t0_1 p2)), (.int (0 : Int32)), (.ref b7), (.ref b7), (.ref b6), (.ref b6)])) rfl rfl (hb hby at_100)
  have V8 : Arv Z h8 b7 k7 .char (2 : Int32) [(.int (nar .char (t0_1 p2))), (.int (0 : Int32))] (.int (0 : Int32)) := Arv.set Ar_b7_0 q_b7_0 Sz_b7_0 Ng_b7_0 Ha_b7_0 Gt_b7_0 (fits_nar_char _) W8 0 rfl (Nat.le_of_ble_eq_true rfl)
  have N8 := Fr.snoc X8 N0 g_b7
  obtain ⟨cl_b7_1, Ar_b7_1, q_b7_1, Sz_b7_1, Ng_b7_1, Ha_b7_1, Gt_b7_1⟩ := id V8
  have hin_b7_1 : ¬ ((1 : Int32) < 0 ∨ cl_b7_1.slots.size ≤ ((1 : Int32)).toNatClampNeg) := inb_of Sz_b7_1 ⟨by decide, by decide⟩
  obtain ⟨T9, h9, X9, e9, W9, st9⟩ := stC X8 hx hZ e8 Ar_b7_1 (j := (1 : Int32)) hin_b7_1 (g := (mkF m 105 #[vI p1, vI p2, vI p3, vI p4, vI p5, vI (t0_0 p1), vI (t0_1 p2), vI (t0_2 p3), vI (t0_3 p4), vI (t0_4 p5), vU, vU, vU] [(.int (t0_2 p3)), (.int (1 : Int32)), (.ref b7), (.ref b7), (.ref b6), (.ref b6)])) rfl rfl (hb hby at_105)
  have V9 : Arv Z h9 b7 k7 .char (2 : Int32) [(.int (nar .char (t0_1 p2))), (.int (nar .char (t0_2 p3)))] (.int (0 : Int32)) := Arv.set Ar_b7_1 q_b7_1 Sz_b7_1 Ng_b7_1 Ha_b7_1 Gt_b7_1 (fits_nar_char _) W9 1 rfl (Nat.le_of_ble_eq_true rfl)
  have N9 := Fr.snoc X9 N8 g_b7
  have f2 := ((((S_COMPACT_STRINGS.ext E6).ext E7).wr W8).wr W9)
  have f3 := ((((S__assertionsDisabled.ext E6).ext E7).wr W8).wr W9)
  have f4 := ((((S_HI_BYTE_SHIFT.ext E6).ext E7).wr W8).wr W9)
  have f5 := ((((S_LO_BYTE_SHIFT.ext E6).ext E7).wr W8).wr W9)
  have f6 := (((F_coder_b6.ext E7).other W8 (Or.inl (Nat.ne_of_lt (Nat.lt_of_lt_of_le A6.lt (Nat.le_of_eq g7.symm))))).other W9 (Or.inl (Nat.ne_of_lt (Nat.lt_of_lt_of_le A6.lt (Nat.le_of_eq g7.symm)))))
  have f7 := (((F_value_b6.ext E7).other W8 (Or.inl (Nat.ne_of_lt (Nat.lt_of_lt_of_le A6.lt (Nat.le_of_eq g7.symm))))).other W9 (Or.inl (Nat.ne_of_lt (Nat.lt_of_lt_of_le A6.lt (Nat.le_of_eq g7.symm)))))
  have f8 := (((A6.ext E7).wr W8).wr W9)
  obtain ⟨_, _, ⟨T10, L10, k10, n10⟩, -, X10, ⟨Lc10, hQ10, l10, y10, z10⟩, st10⟩ := X9.specialBack hx (y := (⟨"java/lang/String", "<init>", "([C)V"⟩ : MethodName)) rfl hown (mvT hZ (hi 6 rfl)) (mvT hZ (hi 7 rfl)) (mvT hZ (hi 8 rfl)) (by decide) (backOf (W := 1) (rm1_2 l Z a0 hw [] b6 b7 s_COMPACT_STRINGS s__assertionsDisabled s_HI_BYTE_SHIFT s_LO_BYTE_SHIFT (0 : Int32) .null k7 (nar .char (t0_1 p2)) (nar .char (t0_2 p3)) h9 n0 (Nat.le_trans (Nat.le_trans (Nat.le_trans (Nat.le_trans Z0 E6.1) E7.1) (Keep.of_wr W8).1) (Keep.of_wr W9).1) hcs hasd hhi hlo (own_cc2 _) (own_cc2 _) f2 f3 f4 f5 f6 f7 f8 g_b6 V9) hZ (hi 8 rfl) (hi 4 rfl) (by decide) (by decide)) (g := (mkF m 106 #[vI p1, vI p2, vI p3, vI p4, vI p5, vI (t0_0 p1), vI (t0_1 p2), vI (t0_2 p3), vI (t0_3 p4), vI (t0_4 p5), vU, vU, vU] [(.ref b7), (.ref b6), (.ref b6)])) rfl (by rw [hml]; rfl) (Steps.refl _) (a := b6) (argsL := [(.ref b7)]) (rest := [(.ref b6)]) (lenOf pd__28_5bC_29V rfl) rfl (by show 2 * 0 + _ ≤ _; exact Nat.le_of_eq rfl) (hb hby at_106) (fun _ _ => ⟨rfl, e9, (by decide : 2 + 2 ≤ _), (by decide : 6 + 6 ≤ _)⟩)
  dsimp only [Pt.U, Pt.locs, Pt.cells, Pt.slots] at X10 l10 y10 z10 st10 hQ10
  subst l10 y10 z10
  obtain ⟨b_5_3_10, ⟨k_5_3_10, ⟨zz_5_3_10, ⟨vs_5_3_10, ⟨rfl, N10q, K10, i10_0, i10_1, i10_2, i10_3, i10_4, i10_5⟩⟩⟩⟩⟩ := hQ10
  have N10 := Fr.app N9 N10q
  have sz_b_5_3_10 : h0.size ≤ b_5_3_10 := Nat.le_trans (Nat.le_trans (Nat.le_trans (Nat.le_trans (Nat.le_trans (Nat.le_refl h0.size) E6.1) E7.1) (Keep.of_wr W8).1) (Keep.of_wr W9).1) i10_0
  have g_b_5_3_10 : n0 ≤ b_5_3_10 := Nat.le_trans Z0 sz_b_5_3_10
  have f9 := (own_sta_keep f2 K10 (own_qc (own_nst f8) own_q0))
  obtain ⟨_, _, ⟨T11, L11, k11, n11⟩, -, X11, ⟨Lc11, hQ11, l11, y11, z11⟩, st11⟩ := Jvm.LawKit.callS X10 hx (y := (⟨"com/example/lob/lob/broker/HeldBytes", "ofKeptSession", "(Ljava/lang/String;)J"⟩ : MethodName)) hown (mvT hZ (hi 26 rfl)) (mvT hZ (hi 27 rfl)) (mvT hZ (hi 28 rfl)) (mvT hZ (hi 29 rfl)) (by decide) (backOf (W := 0) (rm4 l Z a0 hw [] b6 b_5_3_10 k_5_3_10 zz_5_3_10 vs_5_3_10 s_COMPACT_STRINGS (nar .byte (nar .byte ((t9_0 (2 : Int32) zz_5_3_10).toInt8.toInt32))) T10.heap n0 (Nat.le_trans (Nat.le_trans (Nat.le_trans (Nat.le_trans (Nat.le_trans Z0 E6.1) E7.1) (Keep.of_wr W8).1) (Keep.of_wr W9).1) K10.1) hcs i10_3 i10_4 f9 i10_2 i10_1) hZ (hi 29 rfl) (hi 28 rfl) (by decide) (by decide)) (g := (mkF m 197 #[vI p1, vI p2, vI p3, vI p4, vI p5, vI (t0_0 p1), vI (t0_1 p2), vI (t0_2 p3), vI (t0_3 p4), vI (t0_4 p5), vA b6, vL (t0_5 p1), vS] [(.ref b6)])) rfl (by rw [hml]; rfl) (argsL := [(.ref b6)]) (rest := []) (lenOf pd__28Ljava_2flang_2fString_3b_29J rfl) rfl (by show 2 * 0 + _ ≤ _; exact Nat.le_of_eq rfl) (hb hby at_197) (fun _ _ => ⟨rfl, rfl, (by decide : 4 + 0 ≤ _), (by decide : 12 + 0 ≤ _)⟩)
  dsimp only [Pt.U, Pt.locs, Pt.cells, Pt.slots] at X11 l11 y11 z11 st11 hQ11
  subst l11 y11 z11
  obtain ⟨rfl, N11q, e11⟩ := hQ11
  have N11 := Fr.app N10 N11q
  obtain ⟨fs, hr, hrun, hended, hw1, hw2, hw3, hw4⟩ := X11.leaveW hS0 (show _ ≤ T11.heap.size from by rw [e11]; exact (Nat.le_trans (Nat.le_trans (Nat.le_trans (Nat.le_trans (Nat.le_trans (Nat.le_refl h0.size) E6.1) E7.1) (Keep.of_wr W8).1) (Keep.of_wr W9).1) K10.1)) (v := some (.int (1 : Int32))) (fun h => by rw [Bd.returns] at h; cases h)
  refine ⟨_, _, pre0 _ ?_, hrun, hended, _, _, rfl, ?_, hw1, hw2, hw3, hw4.mono (by decide) (by decide)⟩
  · show Steps p.tables e below (s₁.setTop (mkF m 0 #[vI p1, vI p2, vI p3, vI p4, vI p5, vU, vU, vU, vU, vU, vU, vU, vU] [])) _
    refine XS.iloadN X0.here hx rfl (hb hby at_0) rfl ?_
    show Steps p.tables e below (s₁.setTop (mkF m 1 #[vI p1, vI p2, vI p3, vI p4, vI p5, vU, vU, vU, vU, vU, vU, vU, vU] [(.int p1)])) _
    refine X0.ldcInt hx hown (mvT hZ (hi 0 rfl)) (g := (mkF m 1 #[vI p1, vI p2, vI p3, vI p4, vI p5, vU, vU, vU, vU, vU, vU, vU, vU] [(.int p1)])) rfl (hb hby at_1) _ ?_
    refine XS.iand X0.here hx rfl (hb hby at_3) rfl ?_
    refine XS.iconst X0.here hx rfl (hb hby at_4) ?_
    refine XS.irem X0.here hx rfl (hb hby at_5) rfl (by decide) ?_
    refine XS.istore X0.here hx rfl (hb hby at_6) rfl (l' := #[vI p1, vI p2, vI p3, vI p4, vI p5, vI (t0_0 p1), vU, vU, vU, vU, vU, vU, vU]) rfl ?_
    refine XS.iloadN X0.here hx rfl (hb hby at_8) rfl ?_
    show Steps p.tables e below (s₁.setTop (mkF m 9 #[vI p1, vI p2, vI p3, vI p4, vI p5, vI (t0_0 p1), vU, vU, vU, vU, vU, vU, vU] [(.int p2)])) _
    refine X0.ldcInt hx hown (mvT hZ (hi 1 rfl)) (g := (mkF m 9 #[vI p1, vI p2, vI p3, vI p4, vI p5, vI (t0_0 p1), vU, vU, vU, vU, vU, vU, vU] [(.int p2)])) rfl (hb hby at_9) _ ?_
    refine XS.iand X0.here hx rfl (hb hby at_11) rfl ?_
    refine XS.i2c X0.here hx rfl (hb hby at_12) rfl ?_
    refine XS.istore X0.here hx rfl (hb hby at_13) rfl (l' := #[vI p1, vI p2, vI p3, vI p4, vI p5, vI (t0_0 p1), vI (t0_1 p2), vU, vU, vU, vU, vU, vU]) rfl ?_
    refine XS.iloadN X0.here hx rfl (hb hby at_15) rfl ?_
    show Steps p.tables e below (s₁.setTop (mkF m 16 #[vI p1, vI p2, vI p3, vI p4, vI p5, vI (t0_0 p1), vI (t0_1 p2), vU, vU, vU, vU, vU, vU] [(.int p3)])) _
    refine X0.ldcInt hx hown (mvT hZ (hi 1 rfl)) (g := (mkF m 16 #[vI p1, vI p2, vI p3, vI p4, vI p5, vI (t0_0 p1), vI (t0_1 p2), vU, vU, vU, vU, vU, vU] [(.int p3)])) rfl (hb hby at_16) _ ?_
    refine XS.iand X0.here hx rfl (hb hby at_18) rfl ?_
    refine XS.i2c X0.here hx rfl (hb hby at_19) rfl ?_
    refine XS.istore X0.here hx rfl (hb hby at_20) rfl (l' := #[vI p1, vI p2, vI p3, vI p4, vI p5, vI (t0_0 p1), vI (t0_1 p2), vI (t0_2 p3), vU, vU, vU, vU, vU]) rfl ?_
    refine XS.iloadN X0.here hx rfl (hb hby at_22) rfl ?_
    show Steps p.tables e below (s₁.setTop (mkF m 23 #[vI p1, vI p2, vI p3, vI p4, vI p5, vI (t0_0 p1), vI (t0_1 p2), vI (t0_2 p3), vU, vU, vU, vU, vU] [(.int p4)])) _
    refine X0.ldcInt hx hown (mvT hZ (hi 1 rfl)) (g := (mkF m 23 #[vI p1, vI p2, vI p3, vI p4, vI p5, vI (t0_0 p1), vI (t0_1 p2), vI (t0_2 p3), vU, vU, vU, vU, vU] [(.int p4)])) rfl (hb hby at_23) _ ?_
    refine XS.iand X0.here hx rfl (hb hby at_25) rfl ?_
    refine XS.i2c X0.here hx rfl (hb hby at_26) rfl ?_
    refine XS.istore X0.here hx rfl (hb hby at_27) rfl (l' := #[vI p1, vI p2, vI p3, vI p4, vI p5, vI (t0_0 p1), vI (t0_1 p2), vI (t0_2 p3), vI (t0_3 p4), vU, vU, vU, vU]) rfl ?_
    refine XS.iload X0.here hx rfl (hb hby at_29) rfl ?_
    show Steps p.tables e below (s₁.setTop (mkF m 31 #[vI p1, vI p2, vI p3, vI p4, vI p5, vI (t0_0 p1), vI (t0_1 p2), vI (t0_2 p3), vI (t0_3 p4), vU, vU, vU, vU] [(.int p5)])) _
    refine X0.ldcInt hx hown (mvT hZ (hi 1 rfl)) (g := (mkF m 31 #[vI p1, vI p2, vI p3, vI p4, vI p5, vI (t0_0 p1), vI (t0_1 p2), vI (t0_2 p3), vI (t0_3 p4), vU, vU, vU, vU] [(.int p5)])) rfl (hb hby at_31) _ ?_
    refine XS.iand X0.here hx rfl (hb hby at_33) rfl ?_
    refine XS.i2c X0.here hx rfl (hb hby at_34) rfl ?_
    refine XS.istore X0.here hx rfl (hb hby at_35) rfl (l' := #[vI p1, vI p2, vI p3, vI p4, vI p5, vI (t0_0 p1), vI (t0_1 p2), vI (t0_2 p3), vI (t0_3 p4), vI (t0_4 p5), vU, vU, vU]) rfl ?_
    refine XS.iload X0.here hx rfl (hb hby at_37) rfl ?_
    show Steps p.tables e below (s₁.setTop (mkF m 39 #[vI p1, vI p2, vI p3, vI p4, vI p5, vI (t0_0 p1), vI (t0_1 p2), vI (t0_2 p3), vI (t0_3 p4), vI (t0_4 p5), vU, vU, vU] [(.int (t0_0 p1))])) _
    refine XS.ifYes X0.here hx rfl (pc0 := 39) (pc' := 57) rfl (hb hby at_39) rfl ((if0 _ _).trans (feq hc39).2) (by decide) (by decide) ?_
    refine XS.iload X0.here hx rfl (hb hby at_57) rfl ?_
    refine XS.iconst X0.here hx rfl (hb hby at_59) ?_
    show Steps p.tables e below (s₁.setTop (mkF m 60 #[vI p1, vI p2, vI p3, vI p4, vI p5, vI (t0_0 p1), vI (t0_1 p2), vI (t0_2 p3), vI (t0_3 p4), vI (t0_4 p5), vU, vU, vU] [(.int (1 : Int32)), (.int (t0_0 p1))])) _
    refine XS.icmpYes X0.here hx rfl (pc0 := 60) (pc' := 83) rfl (hb hby at_60) rfl (feq hc60).2 (by decide) (by decide) ?_
    refine XS.iload X0.here hx rfl (hb hby at_83) rfl ?_
    refine XS.iconst X0.here hx rfl (hb hby at_85) ?_
    show Steps p.tables e below (s₁.setTop (mkF m 86 #[vI p1, vI p2, vI p3, vI p4, vI p5, vI (t0_0 p1), vI (t0_1 p2), vI (t0_2 p3), vI (t0_3 p4), vI (t0_4 p5), vU, vU, vU] [(.int (2 : Int32)), (.int (t0_0 p1))])) _
    refine XS.icmpNo X0.here hx rfl (hb hby at_86) rfl (teq hc86).2 ?_
    show Steps p.tables e below (s₁.setTop (mkF m 89 #[vI p1, vI p2, vI p3, vI p4, vI p5, vI (t0_0 p1), vI (t0_1 p2), vI (t0_2 p3), vI (t0_3 p4), vI (t0_4 p5), vU, vU, vU] [])) _
    refine st6 _ ?_
    refine XS.dup X6.here hx rfl (hb hby at_92) rfl rfl ?_
    refine XS.iconst X6.here hx rfl (hb hby at_93) ?_
    show Steps p.tables e below (T6.setTop (mkF m 94 #[vI p1, vI p2, vI p3, vI p4, vI p5, vI (t0_0 p1), vI (t0_1 p2), vI (t0_2 p3), vI (t0_3 p4), vI (t0_4 p5), vU, vU, vU] [(.int (2 : Int32)), (.ref b6), (.ref b6)])) _
    refine st7 _ ?_
    refine XS.dup X7.here hx rfl (hb hby at_96) rfl rfl ?_
    refine XS.iconst X7.here hx rfl (hb hby at_97) ?_
    refine XS.iload X7.here hx rfl (hb hby at_98) rfl ?_
    show Steps p.tables e below (T7.setTop (mkF m 100 #[vI p1, vI p2, vI p3, vI p4, vI p5, vI (t0_0 p1), vI (t0_1 p2), vI (t0_2 p3), vI (t0_3 p4), vI (t0_4 p5), vU, vU, vU] [(.int (t0_1 p2)), (.int (0 : Int32)), (.ref b7), (.ref b7), (.ref b6), (.ref b6)])) _
    refine st8 _ ?_
    refine XS.dup X8.here hx rfl (hb hby at_101) rfl rfl ?_
    refine XS.iconst X8.here hx rfl (hb hby at_102) ?_
    refine XS.iload X8.here hx rfl (hb hby at_103) rfl ?_
    show Steps p.tables e below (T8.setTop (mkF m 105 #[vI p1, vI p2, vI p3, vI p4, vI p5, vI (t0_0 p1), vI (t0_1 p2), vI (t0_2 p3), vI (t0_3 p4), vI (t0_4 p5), vU, vU, vU] [(.int (t0_2 p3)), (.int (1 : Int32)), (.ref b7), (.ref b7), (.ref b6), (.ref b6)])) _
    refine st9 _ ?_
    show Steps p.tables e below (T9.setTop (mkF m 106 #[vI p1, vI p2, vI p3, vI p4, vI p5, vI (t0_0 p1), vI (t0_1 p2), vI (t0_2 p3), vI (t0_3 p4), vI (t0_4 p5), vU, vU, vU] [(.ref b7), (.ref b6), (.ref b6)])) _
    refine st10.trans ?_
    refine XS.astore X10.here hx rfl (hb hby at_109) rfl rfl (l' := #[vI p1, vI p2, vI p3, vI p4, vI p5, vI (t0_0 p1), vI (t0_1 p2), vI (t0_2 p3), vI (t0_3 p4), vI (t0_4 p5), vA b6, vU, vU]) rfl ?_
    show Steps p.tables e below (T10.setTop (mkF m 111 #[vI p1, vI p2, vI p3, vI p4, vI p5, vI (t0_0 p1), vI (t0_1 p2), vI (t0_2 p3), vI (t0_3 p4), vI (t0_4 p5), vA b6, vU, vU] [])) _
    refine XS.goto X10.here hx rfl (pc0 := 111) (pc' := 182) rfl (hb hby at_111) (by decide) (by decide) ?_
    show Steps p.tables e below (T10.setTop (mkF m 182 #[vI p1, vI p2, vI p3, vI p4, vI p5, vI (t0_0 p1), vI (t0_1 p2), vI (t0_2 p3), vI (t0_3 p4), vI (t0_4 p5), vA b6, vU, vU] [])) _
    refine X10.ldc2Long hx hown (mvT hZ (hi 24 rfl)) (g := (mkF m 182 #[vI p1, vI p2, vI p3, vI p4, vI p5, vI (t0_0 p1), vI (t0_1 p2), vI (t0_2 p3), vI (t0_3 p4), vI (t0_4 p5), vA b6, vU, vU] [])) rfl (hb hby at_182) _ ?_
    show Steps p.tables e below (T10.setTop (mkF m 185 #[vI p1, vI p2, vI p3, vI p4, vI p5, vI (t0_0 p1), vI (t0_1 p2), vI (t0_2 p3), vI (t0_3 p4), vI (t0_4 p5), vA b6, vU, vU] [(.long (576 : Int64))])) _
    refine X10.ldc2Long hx hown (mvT hZ (hi 25 rfl)) (g := (mkF m 185 #[vI p1, vI p2, vI p3, vI p4, vI p5, vI (t0_0 p1), vI (t0_1 p2), vI (t0_2 p3), vI (t0_3 p4), vI (t0_4 p5), vA b6, vU, vU] [(.long (576 : Int64))])) rfl (hb hby at_185) _ ?_
    refine XS.iload X10.here hx rfl (hb hby at_188) rfl ?_
    refine XS.i2l X10.here hx rfl (hb hby at_190) rfl ?_
    refine XS.lmul X10.here hx rfl (hb hby at_191) rfl ?_
    refine XS.ladd X10.here hx rfl (hb hby at_192) rfl ?_
    refine XS.lstore X10.here hx rfl (hb hby at_193) rfl (l' := #[vI p1, vI p2, vI p3, vI p4, vI p5, vI (t0_0 p1), vI (t0_1 p2), vI (t0_2 p3), vI (t0_3 p4), vI (t0_4 p5), vA b6, vL (t0_5 p1), vS]) rfl ?_
    refine XS.aload X10.here hx rfl (hb hby at_195) rfl rfl ?_
    show Steps p.tables e below (T10.setTop (mkF m 197 #[vI p1, vI p2, vI p3, vI p4, vI p5, vI (t0_0 p1), vI (t0_1 p2), vI (t0_2 p3), vI (t0_3 p4), vI (t0_4 p5), vA b6, vL (t0_5 p1), vS] [(.ref b6)])) _
    refine st11 _ ?_
    refine XS.lload X11.here hx rfl (hb hby at_200) rfl ?_
    refine XS.lcmp X11.here hx rfl (hb hby at_202) rfl ?_
    show Steps p.tables e below (T11.setTop (mkF m 203 #[vI p1, vI p2, vI p3, vI p4, vI p5, vI (t0_0 p1), vI (t0_1 p2), vI (t0_2 p3), vI (t0_3 p4), vI (t0_4 p5), vA b6, vL (t0_5 p1), vS] [(.int (lcmpW (t4_0 zz_5_3_10 (nar .byte (nar .byte ((t9_0 (2 : Int32) zz_5_3_10).toInt8.toInt32)))) (t0_5 p1)))])) _
    refine XS.ifNo X11.here hx rfl (hb hby at_203) rfl ((if0 _ _).trans (teq (show (lcmpW (t4_0 zz_5_3_10 (nar .byte (nar .byte ((t9_0 (2 : Int32) zz_5_3_10).toInt8.toInt32)))) (t0_5 p1)) = (0 : Int32) from own_end2 hc86 i10_5)).2) ?_
    refine XS.iconst X11.here hx rfl (hb hby at_206) ?_
    show Steps p.tables e below (T11.setTop (mkF m 207 #[vI p1, vI p2, vI p3, vI p4, vI p5, vI (t0_0 p1), vI (t0_1 p2), vI (t0_2 p3), vI (t0_3 p4), vI (t0_4 p5), vA b6, vL (t0_5 p1), vS] [(.int (1 : Int32))])) _
    refine XS.goto X11.here hx rfl (pc0 := 207) (pc' := 211) rfl (hb hby at_207) (by decide) (by decide) ?_
    show Steps p.tables e below (T11.setTop (mkF m 211 #[vI p1, vI p2, vI p3, vI p4, vI p5, vI (t0_0 p1), vI (t0_1 p2), vI (t0_2 p3), vI (t0_3 p4), vI (t0_4 p5), vA b6, vL (t0_5 p1), vS] [(.int (1 : Int32))])) _
    exact retN X11 hx (t := .boolean) Bd.returns (by simp) (hb hby at_211) hr
  · show Q_rm0 Z p1 p2 p3 p4 p5 s_COMPACT_STRINGS s__assertionsDisabled s_HI_BYTE_SHIFT s_LO_BYTE_SHIFT h0 n0 _ T11.heap _
    exact ⟨rfl, N11⟩
set_option maxRecDepth 65536 in
set_option maxHeartbeats 40000000 in
theorem rm0_tttf (l : Launch) (Z : State) (a0 : Array Value) (hw : ∀ d ∈ tables_1, d.before a0 Z = true) (ws : List Jvm.Cond) (p1 : Int32) (p2 : Int32) (p3 : Int32) (p4 : Int32) (p5 : Int32) (s_COMPACT_STRINGS : Int32) (s__assertionsDisabled : Int32) (s_HI_BYTE_SHIFT : Int32) (s_LO_BYTE_SHIFT : Int32) (h0 : Heap) (n0 : Nat) (Z0 : n0 ≤ h0.size) (hcs : ¬ (s_COMPACT_STRINGS = (0 : Int32))) (hasd : ¬ (s__assertionsDisabled = (0 : Int32))) (hhi : s_HI_BYTE_SHIFT = (0 : Int32)) (hlo : s_LO_BYTE_SHIFT = (8 : Int32)) (S_COMPACT_STRINGS : Sta Z h0 "java/lang/String" "COMPACT_STRINGS" "Z" (.int s_COMPACT_STRINGS)) (S__assertionsDisabled : Sta Z h0 "java/lang/StringUTF16" "$assertionsDisabled" "Z" (.int s__assertionsDisabled)) (S_HI_BYTE_SHIFT : Sta Z h0 "java/lang/StringUTF16" "HI_BYTE_SHIFT" "I" (.int s_HI_BYTE_SHIFT)) (S_LO_BYTE_SHIFT : Sta Z h0 "java/lang/StringUTF16" "LO_BYTE_SHIFT" "I" (.int s_LO_BYTE_SHIFT)) (hc39 : ¬ ((t0_0 p1) = (0 : Int32))) (hc60 : ¬ ((t0_0 p1) = (1 : Int32))) (hc86 : ¬ ((t0_0 p1) = (2 : Int32))) (hc117 : (t0_0 p1) = (3 : Int32)) :
    MetFree l x (head1 (Jvm.Cond.code x code maxLocals ret :: ws) room_1) (fun a U => a = #[(.int p1), (.int p2), (.int p3), (.int p4), (.int p5)] ∧ Z.Warmed39 U.vm ∧ U.heap = h0 ∧ CHv Z consts_1 U.vm h0) (fun _ _ _ _ _ => True) (fun _ U o U' => ∃ v L, o = .returned v ∧ Q_rm0 Z p1 p2 p3 p4 p5 s_COMPACT_STRINGS s__assertionsDisabled s_HI_BYTE_SHIFT s_LO_BYTE_SHIFT h0 n0 v U'.heap L ∧ ReturnedEndW U o U' L room_1.cells room_1.slots) := by
  have hi : ∀ (i : Nat) {d : Jvm.Cond}, tables_1[i]? = some d → d.before a0 Z = true := fun i d h => hw d (List.mem_of_getElem? h)
  refine MetFree.of_bodySF (plainFor_of_name pn_0) hisR ?_
  intro p e s m args below meth c s₁ Bd hml0 hP hK
  obtain ⟨rfl, hZ, hh, hCH⟩ := hP
  have hx := Bd.exec
  have hby := Bd.bytes
  have hml : c.maxLocals = 13 := hml0
  have hown : s.vm.findClass "com/example/lob/lob/broker/HeldBytesOfKeptSessionPinLaw" = some m.cls := findClass_of_methodNamed Bd.named
  have hnm := (name_of_methodNamed Bd.named Bd.method).1
  have X0 : Stand p l e room_1 (s.setVm s.vm) m #[(.int p1), (.int p2), (.int p3), (.int p4), (.int p5)] below meth c s₁ [] 0 0 := Stand.of_body Bd
  have e0 : s₁.heap = h0 := by rw [← hh, Bd.state]; rfl
  have N0 := Fr.nil n0
  have pre0 : ∀ t, Steps p.tables e below (s₁.setTop (mkF m 0 #[vI p1, vI p2, vI p3, vI p4, vI p5, vU, vU, vU, vU, vU, vU, vU, vU] [])) t → Steps p.tables e below (s₁.setTop (entryFrame m #[(.int p1), (.int p2), (.int p3), (.int p4), (.int p5)] maxLocals)) t := fun t k => castTop (ef_0 m p1 p2 p3 p4 p5) k
  have hS0 : s.Since s.vm h0.size := (State.WarmedH.refl s).since _
  obtain ⟨T6, h6, X6, e6, E6, A6, D6, -, st6⟩ := newO X0 hx hZ hown (hi 2 rfl) (hi 3 rfl) (hi 4 rfl) e0 (g := (mkF m 120 #[vI p1, vI p2, vI p3, vI p4, vI p5, vI (t0_0 p1), vI (t0_1 p2), vI (t0_2 p3), vI (t0_3 p4), vI (t0_4 p5), vU, vU, vU] [])) rfl (hb hby at_120) (by decide) (by decide)
  obtain ⟨b6, g6⟩ : ∃ z, z = h0.size := ⟨_, rfl⟩
  rw [← g6] at A6 D6 st6
  have g_b6 : n0 ≤ b6 := Nat.le_trans Z0 (Nat.le_of_eq g6.symm)
  have sz_b6 : h0.size ≤ b6 := Nat.le_trans (Nat.le_refl h0.size) (Nat.le_of_eq g6.symm)
  have F_value_b6 : Fld Z h6 b6 "java/lang/String" "value" "[B" .null := D6 (Or.inr (hi 18 rfl)) (ty := (.array .byte)) (by decide)
  have F_coder_b6 : Fld Z h6 b6 "java/lang/String" "coder" "B" (.int (0 : Int32)) := D6 (Or.inr (hi 19 rfl)) (ty := .byte) (by decide)
  obtain ⟨T7, h7, k7, X7, e7, E7, A7, st7⟩ := newP X6 hx hZ (hi 5 rfl) e6 (g := (mkF m 125 #[vI p1, vI p2, vI p3, vI p4, vI p5, vI (t0_0 p1), vI (t0_1 p2), vI (t0_2 p3), vI (t0_3 p4), vI (t0_4 p5), vU, vU, vU] [(.int (3 : Int32)), (.ref b6), (.ref b6)])) rfl (hb hby at_125) rfl (by decide) (cap := 3) (by decide) (by decide) (by decide) (by decide)
  obtain ⟨b7, g7⟩ : ∃ z, z = h6.size := ⟨_, rfl⟩
  rw [← g7] at A7 st7
  have g_b7 : n0 ≤ b7 := Nat.le_trans (Nat.le_trans Z0 E6.1) (Nat.le_of_eq g7.symm)
  have sz_b7 : h0.size ≤ b7 := Nat.le_trans (Nat.le_trans (Nat.le_refl h0.size) E6.1) (Nat.le_of_eq g7.symm)
  have V_b7 : Arv Z h7 b7 k7 .char (3 : Int32) [(.int (0 : Int32)), (.int (0 : Int32)), (.int (0 : Int32))] (.int (0 : Int32)) := (Arv.new A7 (by decide)).pad (pad_rep [] (.int (0 : Int32)) 3)
  obtain ⟨cl_b7_0, Ar_b7_0, q_b7_0, Sz_b7_0, Ng_b7_0, Ha_b7_0, Gt_b7_0⟩ := id V_b7
  have hin_b7_0 : ¬ ((0 : Int32) < 0 ∨ cl_b7_0.slots.size ≤ ((0 : Int32)).toNatClampNeg) := inb_of Sz_b7_0 ⟨by decide, by decide⟩
  obtain ⟨T8, h8, X8, e8, W8, st8⟩ := stC X7 hx hZ e7 Ar_b7_0 (j := (0 : Int32)) hin_b7_0 (g := (mkF m 131 #[vI p1, vI p2, vI p3, vI p4, vI p5, vI (t0_0 p1), vI (t0_1 p2), vI (t0_2 p3), vI (t0_3 p4), vI (t0_4 p5), vU, vU, vU] [(.int (t0_1 p2)), (.int (0 : Int32)), (.ref b7), (.ref b7), (.ref b6), (.ref b6)])) rfl rfl (hb hby at_131)
  have V8 : Arv Z h8 b7 k7 .char (3 : Int32) [(.int (nar .char (t0_1 p2))), (.int (0 : Int32)), (.int (0 : Int32))] (.int (0 : Int32)) := Arv.set Ar_b7_0 q_b7_0 Sz_b7_0 Ng_b7_0 Ha_b7_0 Gt_b7_0 (fits_nar_char _) W8 0 rfl (Nat.le_of_ble_eq_true rfl)
  have N8 := Fr.snoc X8 N0 g_b7
  obtain ⟨cl_b7_1, Ar_b7_1, q_b7_1, Sz_b7_1, Ng_b7_1, Ha_b7_1, Gt_b7_1⟩ := id V8
  have hin_b7_1 : ¬ ((1 : Int32) < 0 ∨ cl_b7_1.slots.size ≤ ((1 : Int32)).toNatClampNeg) := inb_of Sz_b7_1 ⟨by decide, by decide⟩
  obtain ⟨T9, h9, X9, e9, W9, st9⟩ := stC X8 hx hZ e8 Ar_b7_1 (j := (1 : Int32)) hin_b7_1 (g := (mkF m 136 #[vI p1, vI p2, vI p3, vI p4, vI p5, vI (t0_0 p1), vI (t0_1 p2), vI (t0_2 p3), vI (t0_3 p4), vI (t0_4 p5), vU, vU, vU] [(.int (t0_2 p3)), (.int (1 : Int32)), (.ref b7), (.ref b7), (.ref b6), (.ref b6)])) rfl rfl (hb hby at_136)
  have V9 : Arv Z h9 b7 k7 .char (3 : Int32) [(.int (nar .char (t0_1 p2))), (.int (nar .char (t0_2 p3))), (.int (0 : Int32))] (.int (0 : Int32)) := Arv.set Ar_b7_1 q_b7_1 Sz_b7_1 Ng_b7_1 Ha_b7_1 Gt_b7_1 (fits_nar_char _) W9 1 rfl (Nat.le_of_ble_eq_true rfl)
  have N9 := Fr.snoc X9 N8 g_b7
  obtain ⟨cl_b7_2, Ar_b7_2, q_b7_2, Sz_b7_2, Ng_b7_2, Ha_b7_2, Gt_b7_2⟩ := id V9
  have hin_b7_2 : ¬ ((2 : Int32) < 0 ∨ cl_b7_2.slots.size ≤ ((2 : Int32)).toNatClampNeg) := inb_of Sz_b7_2 ⟨by decide, by decide⟩
  obtain ⟨T10, h10, X10, e10, W10, st10⟩ := stC X9 hx hZ e9 Ar_b7_2 (j := (2 : Int32)) hin_b7_2 (g := (mkF m 141 #[vI p1, vI p2, vI p3, vI p4, vI p5, vI (t0_0 p1), vI (t0_1 p2), vI (t0_2 p3), vI (t0_3 p4), vI (t0_4 p5), vU, vU, vU] [(.int (t0_3 p4)), (.int (2 : Int32)), (.ref b7), (.ref b7), (.ref b6), (.ref b6)])) rfl rfl (hb hby at_141)
  have V10 : Arv Z h10 b7 k7 .char (3 : Int32) [(.int (nar .char (t0_1 p2))), (.int (nar .char (t0_2 p3))), (.int (nar .char (t0_3 p4)))] (.int (0 : Int32)) := Arv.set Ar_b7_2 q_b7_2 Sz_b7_2 Ng_b7_2 Ha_b7_2 Gt_b7_2 (fits_nar_char _) W10 2 rfl (Nat.le_of_ble_eq_true rfl)
  have N10 := Fr.snoc X10 N9 g_b7
  have f3 := (((((S_COMPACT_STRINGS.ext E6).ext E7).wr W8).wr W9).wr W10)
  have f4 := (((((S__assertionsDisabled.ext E6).ext E7).wr W8).wr W9).wr W10)
  have f5 := (((((S_HI_BYTE_SHIFT.ext E6).ext E7).wr W8).wr W9).wr W10)
  have f6 := (((((S_LO_BYTE_SHIFT.ext E6).ext E7).wr W8).wr W9).wr W10)
  have f7 := ((((F_coder_b6.ext E7).other W8 (Or.inl (Nat.ne_of_lt (Nat.lt_of_lt_of_le A6.lt (Nat.le_of_eq g7.symm))))).other W9 (Or.inl (Nat.ne_of_lt (Nat.lt_of_lt_of_le A6.lt (Nat.le_of_eq g7.symm))))).other W10 (Or.inl (Nat.ne_of_lt (Nat.lt_of_lt_of_le A6.lt (Nat.le_of_eq g7.symm)))))
  have f8 := ((((F_value_b6.ext E7).other W8 (Or.inl (Nat.ne_of_lt (Nat.lt_of_lt_of_le A6.lt (Nat.le_of_eq g7.symm))))).other W9 (Or.inl (Nat.ne_of_lt (Nat.lt_of_lt_of_le A6.lt (Nat.le_of_eq g7.symm))))).other W10 (Or.inl (Nat.ne_of_lt (Nat.lt_of_lt_of_le A6.lt (Nat.le_of_eq g7.symm)))))
  have f9 := ((((A6.ext E7).wr W8).wr W9).wr W10)
  obtain ⟨_, _, ⟨T11, L11, k11, n11⟩, -, X11, ⟨Lc11, hQ11, l11, y11, z11⟩, st11⟩ := X10.specialBack hx (y := (⟨"java/lang/String", "<init>", "([C)V"⟩ : MethodName)) rfl hown (mvT hZ (hi 6 rfl)) (mvT hZ (hi 7 rfl)) (mvT hZ (hi 8 rfl)) (by decide) (backOf (W := 1) (rm1_3 l Z a0 hw [] b6 b7 s_COMPACT_STRINGS s__assertionsDisabled s_HI_BYTE_SHIFT s_LO_BYTE_SHIFT (0 : Int32) .null k7 (nar .char (t0_1 p2)) (nar .char (t0_2 p3)) (nar .char (t0_3 p4)) h10 n0 (Nat.le_trans (Nat.le_trans (Nat.le_trans (Nat.le_trans (Nat.le_trans Z0 E6.1) E7.1) (Keep.of_wr W8).1) (Keep.of_wr W9).1) (Keep.of_wr W10).1) hcs hasd hhi hlo (own_cc2 _) (own_cc2 _) (own_cc2 _) f3 f4 f5 f6 f7 f8 f9 g_b6 V10) hZ (hi 8 rfl) (hi 4 rfl) (by decide) (by decide)) (g := (mkF m 142 #[vI p1, vI p2, vI p3, vI p4, vI p5, vI (t0_0 p1), vI (t0_1 p2), vI (t0_2 p3), vI (t0_3 p4), vI (t0_4 p5), vU, vU, vU] [(.ref b7), (.ref b6), (.ref b6)])) rfl (by rw [hml]; rfl) (Steps.refl _) (a := b6) (argsL := [(.ref b7)]) (rest := [(.ref b6)]) (lenOf pd__28_5bC_29V rfl) rfl (by show 2 * 0 + _ ≤ _; exact Nat.le_of_eq rfl) (hb hby at_142) (fun _ _ => ⟨rfl, e10, (by decide : 2 + 2 ≤ _), (by decide : 7 + 9 ≤ _)⟩)
  dsimp only [Pt.U, Pt.locs, Pt.cells, Pt.slots] at X11 l11 y11 z11 st11 hQ11
  subst l11 y11 z11
  obtain ⟨b_5_3_11, ⟨k_5_3_11, ⟨zz_5_3_11, ⟨vs_5_3_11, ⟨rfl, N11q, K11, i11_0, i11_1, i11_2, i11_3, i11_4, i11_5⟩⟩⟩⟩⟩ := hQ11
  have N11 := Fr.app N10 N11q
  have sz_b_5_3_11 : h0.size ≤ b_5_3_11 := Nat.le_trans (Nat.le_trans (Nat.le_trans (Nat.le_trans (Nat.le_trans (Nat.le_trans (Nat.le_refl h0.size) E6.1) E7.1) (Keep.of_wr W8).1) (Keep.of_wr W9).1) (Keep.of_wr W10).1) i11_0
  have g_b_5_3_11 : n0 ≤ b_5_3_11 := Nat.le_trans Z0 sz_b_5_3_11
  have f10 := (own_sta_keep f3 K11 (own_qc (own_nst f9) own_q0))
  obtain ⟨_, _, ⟨T12, L12, k12, n12⟩, -, X12, ⟨Lc12, hQ12, l12, y12, z12⟩, st12⟩ := Jvm.LawKit.callS X11 hx (y := (⟨"com/example/lob/lob/broker/HeldBytes", "ofKeptSession", "(Ljava/lang/String;)J"⟩ : MethodName)) hown (mvT hZ (hi 26 rfl)) (mvT hZ (hi 27 rfl)) (mvT hZ (hi 28 rfl)) (mvT hZ (hi 29 rfl)) (by decide) (backOf (W := 0) (rm4 l Z a0 hw [] b6 b_5_3_11 k_5_3_11 zz_5_3_11 vs_5_3_11 s_COMPACT_STRINGS (nar .byte (nar .byte ((t9_0 (3 : Int32) zz_5_3_11).toInt8.toInt32))) T11.heap n0 (Nat.le_trans (Nat.le_trans (Nat.le_trans (Nat.le_trans (Nat.le_trans (Nat.le_trans Z0 E6.1) E7.1) (Keep.of_wr W8).1) (Keep.of_wr W9).1) (Keep.of_wr W10).1) K11.1) hcs i11_3 i11_4 f10 i11_2 i11_1) hZ (hi 29 rfl) (hi 28 rfl) (by decide) (by decide)) (g := (mkF m 197 #[vI p1, vI p2, vI p3, vI p4, vI p5, vI (t0_0 p1), vI (t0_1 p2), vI (t0_2 p3), vI (t0_3 p4), vI (t0_4 p5), vA b6, vL (t0_5 p1), vS] [(.ref b6)])) rfl (by rw [hml]; rfl) (argsL := [(.ref b6)]) (rest := []) (lenOf pd__28Ljava_2flang_2fString_3b_29J rfl) rfl (by show 2 * 0 + _ ≤ _; exact Nat.le_of_eq rfl) (hb hby at_197) (fun _ _ => ⟨rfl, rfl, (by decide : 4 + 0 ≤ _), (by decide : 16 + 0 ≤ _)⟩)
  dsimp only [Pt.U, Pt.locs, Pt.cells, Pt.slots] at X12 l12 y12 z12 st12 hQ12
  subst l12 y12 z12
  obtain ⟨rfl, N12q, e12⟩ := hQ12
  have N12 := Fr.app N11 N12q
  obtain ⟨fs, hr, hrun, hended, hw1, hw2, hw3, hw4⟩ := X12.leaveW hS0 (show _ ≤ T12.heap.size from by rw [e12]; exact (Nat.le_trans (Nat.le_trans (Nat.le_trans (Nat.le_trans (Nat.le_trans (Nat.le_trans (Nat.le_refl h0.size) E6.1) E7.1) (Keep.of_wr W8).1) (Keep.of_wr W9).1) (Keep.of_wr W10).1) K11.1)) (v := some (.int (1 : Int32))) (fun h => by rw [Bd.returns] at h; cases h)
  refine ⟨_, _, pre0 _ ?_, hrun, hended, _, _, rfl, ?_, hw1, hw2, hw3, hw4.mono (by decide) (by decide)⟩
  · show Steps p.tables e below (s₁.setTop (mkF m 0 #[vI p1, vI p2, vI p3, vI p4, vI p5, vU, vU, vU, vU, vU, vU, vU, vU] [])) _
    refine XS.iloadN X0.here hx rfl (hb hby at_0) rfl ?_
    show Steps p.tables e below (s₁.setTop (mkF m 1 #[vI p1, vI p2, vI p3, vI p4, vI p5, vU, vU, vU, vU, vU, vU, vU, vU] [(.int p1)])) _
    refine X0.ldcInt hx hown (mvT hZ (hi 0 rfl)) (g := (mkF m 1 #[vI p1, vI p2, vI p3, vI p4, vI p5, vU, vU, vU, vU, vU, vU, vU, vU] [(.int p1)])) rfl (hb hby at_1) _ ?_
    refine XS.iand X0.here hx rfl (hb hby at_3) rfl ?_
    refine XS.iconst X0.here hx rfl (hb hby at_4) ?_
    refine XS.irem X0.here hx rfl (hb hby at_5) rfl (by decide) ?_
    refine XS.istore X0.here hx rfl (hb hby at_6) rfl (l' := #[vI p1, vI p2, vI p3, vI p4, vI p5, vI (t0_0 p1), vU, vU, vU, vU, vU, vU, vU]) rfl ?_
    refine XS.iloadN X0.here hx rfl (hb hby at_8) rfl ?_
    show Steps p.tables e below (s₁.setTop (mkF m 9 #[vI p1, vI p2, vI p3, vI p4, vI p5, vI (t0_0 p1), vU, vU, vU, vU, vU, vU, vU] [(.int p2)])) _
    refine X0.ldcInt hx hown (mvT hZ (hi 1 rfl)) (g := (mkF m 9 #[vI p1, vI p2, vI p3, vI p4, vI p5, vI (t0_0 p1), vU, vU, vU, vU, vU, vU, vU] [(.int p2)])) rfl (hb hby at_9) _ ?_
    refine XS.iand X0.here hx rfl (hb hby at_11) rfl ?_
    refine XS.i2c X0.here hx rfl (hb hby at_12) rfl ?_
    refine XS.istore X0.here hx rfl (hb hby at_13) rfl (l' := #[vI p1, vI p2, vI p3, vI p4, vI p5, vI (t0_0 p1), vI (t0_1 p2), vU, vU, vU, vU, vU, vU]) rfl ?_
    refine XS.iloadN X0.here hx rfl (hb hby at_15) rfl ?_
    show Steps p.tables e below (s₁.setTop (mkF m 16 #[vI p1, vI p2, vI p3, vI p4, vI p5, vI (t0_0 p1), vI (t0_1 p2), vU, vU, vU, vU, vU, vU] [(.int p3)])) _
    refine X0.ldcInt hx hown (mvT hZ (hi 1 rfl)) (g := (mkF m 16 #[vI p1, vI p2, vI p3, vI p4, vI p5, vI (t0_0 p1), vI (t0_1 p2), vU, vU, vU, vU, vU, vU] [(.int p3)])) rfl (hb hby at_16) _ ?_
    refine XS.iand X0.here hx rfl (hb hby at_18) rfl ?_
    refine XS.i2c X0.here hx rfl (hb hby at_19) rfl ?_
    refine XS.istore X0.here hx rfl (hb hby at_20) rfl (l' := #[vI p1, vI p2, vI p3, vI p4, vI p5, vI (t0_0 p1), vI (t0_1 p2), vI (t0_2 p3), vU, vU, vU, vU, vU]) rfl ?_
    refine XS.iloadN X0.here hx rfl (hb hby at_22) rfl ?_
    show Steps p.tables e below (s₁.setTop (mkF m 23 #[vI p1, vI p2, vI p3, vI p4, vI p5, vI (t0_0 p1), vI (t0_1 p2), vI (t0_2 p3), vU, vU, vU, vU, vU] [(.int p4)])) _
    refine X0.ldcInt hx hown (mvT hZ (hi 1 rfl)) (g := (mkF m 23 #[vI p1, vI p2, vI p3, vI p4, vI p5, vI (t0_0 p1), vI (t0_1 p2), vI (t0_2 p3), vU, vU, vU, vU, vU] [(.int p4)])) rfl (hb hby at_23) _ ?_
    refine XS.iand X0.here hx rfl (hb hby at_25) rfl ?_
    refine XS.i2c X0.here hx rfl (hb hby at_26) rfl ?_
    refine XS.istore X0.here hx rfl (hb hby at_27) rfl (l' := #[vI p1, vI p2, vI p3, vI p4, vI p5, vI (t0_0 p1), vI (t0_1 p2), vI (t0_2 p3), vI (t0_3 p4), vU, vU, vU, vU]) rfl ?_
    refine XS.iload X0.here hx rfl (hb hby at_29) rfl ?_
    show Steps p.tables e below (s₁.setTop (mkF m 31 #[vI p1, vI p2, vI p3, vI p4, vI p5, vI (t0_0 p1), vI (t0_1 p2), vI (t0_2 p3), vI (t0_3 p4), vU, vU, vU, vU] [(.int p5)])) _
    refine X0.ldcInt hx hown (mvT hZ (hi 1 rfl)) (g := (mkF m 31 #[vI p1, vI p2, vI p3, vI p4, vI p5, vI (t0_0 p1), vI (t0_1 p2), vI (t0_2 p3), vI (t0_3 p4), vU, vU, vU, vU] [(.int p5)])) rfl (hb hby at_31) _ ?_
    refine XS.iand X0.here hx rfl (hb hby at_33) rfl ?_
    refine XS.i2c X0.here hx rfl (hb hby at_34) rfl ?_
    refine XS.istore X0.here hx rfl (hb hby at_35) rfl (l' := #[vI p1, vI p2, vI p3, vI p4, vI p5, vI (t0_0 p1), vI (t0_1 p2), vI (t0_2 p3), vI (t0_3 p4), vI (t0_4 p5), vU, vU, vU]) rfl ?_
    refine XS.iload X0.here hx rfl (hb hby at_37) rfl ?_
    show Steps p.tables e below (s₁.setTop (mkF m 39 #[vI p1, vI p2, vI p3, vI p4, vI p5, vI (t0_0 p1), vI (t0_1 p2), vI (t0_2 p3), vI (t0_3 p4), vI (t0_4 p5), vU, vU, vU] [(.int (t0_0 p1))])) _
    refine XS.ifYes X0.here hx rfl (pc0 := 39) (pc' := 57) rfl (hb hby at_39) rfl ((if0 _ _).trans (feq hc39).2) (by decide) (by decide) ?_
    refine XS.iload X0.here hx rfl (hb hby at_57) rfl ?_
    refine XS.iconst X0.here hx rfl (hb hby at_59) ?_
    show Steps p.tables e below (s₁.setTop (mkF m 60 #[vI p1, vI p2, vI p3, vI p4, vI p5, vI (t0_0 p1), vI (t0_1 p2), vI (t0_2 p3), vI (t0_3 p4), vI (t0_4 p5), vU, vU, vU] [(.int (1 : Int32)), (.int (t0_0 p1))])) _
    refine XS.icmpYes X0.here hx rfl (pc0 := 60) (pc' := 83) rfl (hb hby at_60) rfl (feq hc60).2 (by decide) (by decide) ?_
    refine XS.iload X0.here hx rfl (hb hby at_83) rfl ?_
    refine XS.iconst X0.here hx rfl (hb hby at_85) ?_
    show Steps p.tables e below (s₁.setTop (mkF m 86 #[vI p1, vI p2, vI p3, vI p4, vI p5, vI (t0_0 p1), vI (t0_1 p2), vI (t0_2 p3), vI (t0_3 p4), vI (t0_4 p5), vU, vU, vU] [(.int (2 : Int32)), (.int (t0_0 p1))])) _
    refine XS.icmpYes X0.here hx rfl (pc0 := 86) (pc' := 114) rfl (hb hby at_86) rfl (feq hc86).2 (by decide) (by decide) ?_
    refine XS.iload X0.here hx rfl (hb hby at_114) rfl ?_
    refine XS.iconst X0.here hx rfl (hb hby at_116) ?_
    show Steps p.tables e below (s₁.setTop (mkF m 117 #[vI p1, vI p2, vI p3, vI p4, vI p5, vI (t0_0 p1), vI (t0_1 p2), vI (t0_2 p3), vI (t0_3 p4), vI (t0_4 p5), vU, vU, vU] [(.int (3 : Int32)), (.int (t0_0 p1))])) _
    refine XS.icmpNo X0.here hx rfl (hb hby at_117) rfl (teq hc117).2 ?_
    show Steps p.tables e below (s₁.setTop (mkF m 120 #[vI p1, vI p2, vI p3, vI p4, vI p5, vI (t0_0 p1), vI (t0_1 p2), vI (t0_2 p3), vI (t0_3 p4), vI (t0_4 p5), vU, vU, vU] [])) _
    refine st6 _ ?_
    refine XS.dup X6.here hx rfl (hb hby at_123) rfl rfl ?_
    refine XS.iconst X6.here hx rfl (hb hby at_124) ?_
    show Steps p.tables e below (T6.setTop (mkF m 125 #[vI p1, vI p2, vI p3, vI p4, vI p5, vI (t0_0 p1), vI (t0_1 p2), vI (t0_2 p3), vI (t0_3 p4), vI (t0_4 p5), vU, vU, vU] [(.int (3 : Int32)), (.ref b6), (.ref b6)])) _
    refine st7 _ ?_
    refine XS.dup X7.here hx rfl (hb hby at_127) rfl rfl ?_
    refine XS.iconst X7.here hx rfl (hb hby at_128) ?_
    refine XS.iload X7.here hx rfl (hb hby at_129) rfl ?_
    show Steps p.tables e below (T7.setTop (mkF m 131 #[vI p1, vI p2, vI p3, vI p4, vI p5, vI (t0_0 p1), vI (t0_1 p2), vI (t0_2 p3), vI (t0_3 p4), vI (t0_4 p5), vU, vU, vU] [(.int (t0_1 p2)), (.int (0 : Int32)), (.ref b7), (.ref b7), (.ref b6), (.ref b6)])) _
    refine st8 _ ?_
    refine XS.dup X8.here hx rfl (hb hby at_132) rfl rfl ?_
    refine XS.iconst X8.here hx rfl (hb hby at_133) ?_
    refine XS.iload X8.here hx rfl (hb hby at_134) rfl ?_
    show Steps p.tables e below (T8.setTop (mkF m 136 #[vI p1, vI p2, vI p3, vI p4, vI p5, vI (t0_0 p1), vI (t0_1 p2), vI (t0_2 p3), vI (t0_3 p4), vI (t0_4 p5), vU, vU, vU] [(.int (t0_2 p3)), (.int (1 : Int32)), (.ref b7), (.ref b7), (.ref b6), (.ref b6)])) _
    refine st9 _ ?_
    refine XS.dup X9.here hx rfl (hb hby at_137) rfl rfl ?_
    refine XS.iconst X9.here hx rfl (hb hby at_138) ?_
    refine XS.iload X9.here hx rfl (hb hby at_139) rfl ?_
    show Steps p.tables e below (T9.setTop (mkF m 141 #[vI p1, vI p2, vI p3, vI p4, vI p5, vI (t0_0 p1), vI (t0_1 p2), vI (t0_2 p3), vI (t0_3 p4), vI (t0_4 p5), vU, vU, vU] [(.int (t0_3 p4)), (.int (2 : Int32)), (.ref b7), (.ref b7), (.ref b6), (.ref b6)])) _
    refine st10 _ ?_
    show Steps p.tables e below (T10.setTop (mkF m 142 #[vI p1, vI p2, vI p3, vI p4, vI p5, vI (t0_0 p1), vI (t0_1 p2), vI (t0_2 p3), vI (t0_3 p4), vI (t0_4 p5), vU, vU, vU] [(.ref b7), (.ref b6), (.ref b6)])) _
    refine st11.trans ?_
    refine XS.astore X11.here hx rfl (hb hby at_145) rfl rfl (l' := #[vI p1, vI p2, vI p3, vI p4, vI p5, vI (t0_0 p1), vI (t0_1 p2), vI (t0_2 p3), vI (t0_3 p4), vI (t0_4 p5), vA b6, vU, vU]) rfl ?_
    show Steps p.tables e below (T11.setTop (mkF m 147 #[vI p1, vI p2, vI p3, vI p4, vI p5, vI (t0_0 p1), vI (t0_1 p2), vI (t0_2 p3), vI (t0_3 p4), vI (t0_4 p5), vA b6, vU, vU] [])) _
    refine XS.goto X11.here hx rfl (pc0 := 147) (pc' := 182) rfl (hb hby at_147) (by decide) (by decide) ?_
    show Steps p.tables e below (T11.setTop (mkF m 182 #[vI p1, vI p2, vI p3, vI p4, vI p5, vI (t0_0 p1), vI (t0_1 p2), vI (t0_2 p3), vI (t0_3 p4), vI (t0_4 p5), vA b6, vU, vU] [])) _
    refine X11.ldc2Long hx hown (mvT hZ (hi 24 rfl)) (g := (mkF m 182 #[vI p1, vI p2, vI p3, vI p4, vI p5, vI (t0_0 p1), vI (t0_1 p2), vI (t0_2 p3), vI (t0_3 p4), vI (t0_4 p5), vA b6, vU, vU] [])) rfl (hb hby at_182) _ ?_
    show Steps p.tables e below (T11.setTop (mkF m 185 #[vI p1, vI p2, vI p3, vI p4, vI p5, vI (t0_0 p1), vI (t0_1 p2), vI (t0_2 p3), vI (t0_3 p4), vI (t0_4 p5), vA b6, vU, vU] [(.long (576 : Int64))])) _
    refine X11.ldc2Long hx hown (mvT hZ (hi 25 rfl)) (g := (mkF m 185 #[vI p1, vI p2, vI p3, vI p4, vI p5, vI (t0_0 p1), vI (t0_1 p2), vI (t0_2 p3), vI (t0_3 p4), vI (t0_4 p5), vA b6, vU, vU] [(.long (576 : Int64))])) rfl (hb hby at_185) _ ?_
    refine XS.iload X11.here hx rfl (hb hby at_188) rfl ?_
    refine XS.i2l X11.here hx rfl (hb hby at_190) rfl ?_
    refine XS.lmul X11.here hx rfl (hb hby at_191) rfl ?_
    refine XS.ladd X11.here hx rfl (hb hby at_192) rfl ?_
    refine XS.lstore X11.here hx rfl (hb hby at_193) rfl (l' := #[vI p1, vI p2, vI p3, vI p4, vI p5, vI (t0_0 p1), vI (t0_1 p2), vI (t0_2 p3), vI (t0_3 p4), vI (t0_4 p5), vA b6, vL (t0_5 p1), vS]) rfl ?_
    refine XS.aload X11.here hx rfl (hb hby at_195) rfl rfl ?_
    show Steps p.tables e below (T11.setTop (mkF m 197 #[vI p1, vI p2, vI p3, vI p4, vI p5, vI (t0_0 p1), vI (t0_1 p2), vI (t0_2 p3), vI (t0_3 p4), vI (t0_4 p5), vA b6, vL (t0_5 p1), vS] [(.ref b6)])) _
    refine st12 _ ?_
    refine XS.lload X12.here hx rfl (hb hby at_200) rfl ?_
    refine XS.lcmp X12.here hx rfl (hb hby at_202) rfl ?_
    show Steps p.tables e below (T12.setTop (mkF m 203 #[vI p1, vI p2, vI p3, vI p4, vI p5, vI (t0_0 p1), vI (t0_1 p2), vI (t0_2 p3), vI (t0_3 p4), vI (t0_4 p5), vA b6, vL (t0_5 p1), vS] [(.int (lcmpW (t4_0 zz_5_3_11 (nar .byte (nar .byte ((t9_0 (3 : Int32) zz_5_3_11).toInt8.toInt32)))) (t0_5 p1)))])) _
    refine XS.ifNo X12.here hx rfl (hb hby at_203) rfl ((if0 _ _).trans (teq (show (lcmpW (t4_0 zz_5_3_11 (nar .byte (nar .byte ((t9_0 (3 : Int32) zz_5_3_11).toInt8.toInt32)))) (t0_5 p1)) = (0 : Int32) from own_end3 hc117 i11_5)).2) ?_
    refine XS.iconst X12.here hx rfl (hb hby at_206) ?_
    show Steps p.tables e below (T12.setTop (mkF m 207 #[vI p1, vI p2, vI p3, vI p4, vI p5, vI (t0_0 p1), vI (t0_1 p2), vI (t0_2 p3), vI (t0_3 p4), vI (t0_4 p5), vA b6, vL (t0_5 p1), vS] [(.int (1 : Int32))])) _
    refine XS.goto X12.here hx rfl (pc0 := 207) (pc' := 211) rfl (hb hby at_207) (by decide) (by decide) ?_
    show Steps p.tables e below (T12.setTop (mkF m 211 #[vI p1, vI p2, vI p3, vI p4, vI p5, vI (t0_0 p1), vI (t0_1 p2), vI (t0_2 p3), vI (t0_3 p4), vI (t0_4 p5), vA b6, vL (t0_5 p1), vS] [(.int (1 : Int32))])) _
    exact retN X12 hx (t := .boolean) Bd.returns (by simp) (hb hby at_211) hr
  · show Q_rm0 Z p1 p2 p3 p4 p5 s_COMPACT_STRINGS s__assertionsDisabled s_HI_BYTE_SHIFT s_LO_BYTE_SHIFT h0 n0 _ T12.heap _
    exact ⟨rfl, N12⟩
set_option maxRecDepth 65536 in
set_option maxHeartbeats 40000000 in
theorem rm0_tttt (l : Launch) (Z : State) (a0 : Array Value) (hw : ∀ d ∈ tables_1, d.before a0 Z = true) (ws : List Jvm.Cond) (p1 : Int32) (p2 : Int32) (p3 : Int32) (p4 : Int32) (p5 : Int32) (s_COMPACT_STRINGS : Int32) (s__assertionsDisabled : Int32) (s_HI_BYTE_SHIFT : Int32) (s_LO_BYTE_SHIFT : Int32) (h0 : Heap) (n0 : Nat) (Z0 : n0 ≤ h0.size) (hcs : ¬ (s_COMPACT_STRINGS = (0 : Int32))) (hasd : ¬ (s__assertionsDisabled = (0 : Int32))) (hhi : s_HI_BYTE_SHIFT = (0 : Int32)) (hlo : s_LO_BYTE_SHIFT = (8 : Int32)) (S_COMPACT_STRINGS : Sta Z h0 "java/lang/String" "COMPACT_STRINGS" "Z" (.int s_COMPACT_STRINGS)) (S__assertionsDisabled : Sta Z h0 "java/lang/StringUTF16" "$assertionsDisabled" "Z" (.int s__assertionsDisabled)) (S_HI_BYTE_SHIFT : Sta Z h0 "java/lang/StringUTF16" "HI_BYTE_SHIFT" "I" (.int s_HI_BYTE_SHIFT)) (S_LO_BYTE_SHIFT : Sta Z h0 "java/lang/StringUTF16" "LO_BYTE_SHIFT" "I" (.int s_LO_BYTE_SHIFT)) (hc39 : ¬ ((t0_0 p1) = (0 : Int32))) (hc60 : ¬ ((t0_0 p1) = (1 : Int32))) (hc86 : ¬ ((t0_0 p1) = (2 : Int32))) (hc117 : ¬ ((t0_0 p1) = (3 : Int32))) :
    MetFree l x (head1 (Jvm.Cond.code x code maxLocals ret :: ws) room_1) (fun a U => a = #[(.int p1), (.int p2), (.int p3), (.int p4), (.int p5)] ∧ Z.Warmed39 U.vm ∧ U.heap = h0 ∧ CHv Z consts_1 U.vm h0) (fun _ _ _ _ _ => True) (fun _ U o U' => ∃ v L, o = .returned v ∧ Q_rm0 Z p1 p2 p3 p4 p5 s_COMPACT_STRINGS s__assertionsDisabled s_HI_BYTE_SHIFT s_LO_BYTE_SHIFT h0 n0 v U'.heap L ∧ ReturnedEndW U o U' L room_1.cells room_1.slots) := by
  have hi : ∀ (i : Nat) {d : Jvm.Cond}, tables_1[i]? = some d → d.before a0 Z = true := fun i d h => hw d (List.mem_of_getElem? h)
  refine MetFree.of_bodySF (plainFor_of_name pn_0) hisR ?_
  intro p e s m args below meth c s₁ Bd hml0 hP hK
  obtain ⟨rfl, hZ, hh, hCH⟩ := hP
  have hx := Bd.exec
  have hby := Bd.bytes
  have hml : c.maxLocals = 13 := hml0
  have hown : s.vm.findClass "com/example/lob/lob/broker/HeldBytesOfKeptSessionPinLaw" = some m.cls := findClass_of_methodNamed Bd.named
  have hnm := (name_of_methodNamed Bd.named Bd.method).1
  have X0 : Stand p l e room_1 (s.setVm s.vm) m #[(.int p1), (.int p2), (.int p3), (.int p4), (.int p5)] below meth c s₁ [] 0 0 := Stand.of_body Bd
  have e0 : s₁.heap = h0 := by rw [← hh, Bd.state]; rfl
  have N0 := Fr.nil n0
  have pre0 : ∀ t, Steps p.tables e below (s₁.setTop (mkF m 0 #[vI p1, vI p2, vI p3, vI p4, vI p5, vU, vU, vU, vU, vU, vU, vU, vU] [])) t → Steps p.tables e below (s₁.setTop (entryFrame m #[(.int p1), (.int p2), (.int p3), (.int p4), (.int p5)] maxLocals)) t := fun t k => castTop (ef_0 m p1 p2 p3 p4 p5) k
  have hS0 : s.Since s.vm h0.size := (State.WarmedH.refl s).since _
  obtain ⟨T6, h6, X6, e6, E6, A6, D6, -, st6⟩ := newO X0 hx hZ hown (hi 2 rfl) (hi 3 rfl) (hi 4 rfl) e0 (g := (mkF m 150 #[vI p1, vI p2, vI p3, vI p4, vI p5, vI (t0_0 p1), vI (t0_1 p2), vI (t0_2 p3), vI (t0_3 p4), vI (t0_4 p5), vU, vU, vU] [])) rfl (hb hby at_150) (by decide) (by decide)
  obtain ⟨b6, g6⟩ : ∃ z, z = h0.size := ⟨_, rfl⟩
  rw [← g6] at A6 D6 st6
  have g_b6 : n0 ≤ b6 := Nat.le_trans Z0 (Nat.le_of_eq g6.symm)
  have sz_b6 : h0.size ≤ b6 := Nat.le_trans (Nat.le_refl h0.size) (Nat.le_of_eq g6.symm)
  have F_value_b6 : Fld Z h6 b6 "java/lang/String" "value" "[B" .null := D6 (Or.inr (hi 18 rfl)) (ty := (.array .byte)) (by decide)
  have F_coder_b6 : Fld Z h6 b6 "java/lang/String" "coder" "B" (.int (0 : Int32)) := D6 (Or.inr (hi 19 rfl)) (ty := .byte) (by decide)
  obtain ⟨T7, h7, k7, X7, e7, E7, A7, st7⟩ := newP X6 hx hZ (hi 5 rfl) e6 (g := (mkF m 155 #[vI p1, vI p2, vI p3, vI p4, vI p5, vI (t0_0 p1), vI (t0_1 p2), vI (t0_2 p3), vI (t0_3 p4), vI (t0_4 p5), vU, vU, vU] [(.int (4 : Int32)), (.ref b6), (.ref b6)])) rfl (hb hby at_155) rfl (by decide) (cap := 4) (by decide) (by decide) (by decide) (by decide)
  obtain ⟨b7, g7⟩ : ∃ z, z = h6.size := ⟨_, rfl⟩
  rw [← g7] at A7 st7
  have g_b7 : n0 ≤ b7 := Nat.le_trans (Nat.le_trans Z0 E6.1) (Nat.le_of_eq g7.symm)
  have sz_b7 : h0.size ≤ b7 := Nat.le_trans (Nat.le_trans (Nat.le_refl h0.size) E6.1) (Nat.le_of_eq g7.symm)
  have V_b7 : Arv Z h7 b7 k7 .char (4 : Int32) [(.int (0 : Int32)), (.int (0 : Int32)), (.int (0 : Int32)), (.int (0 : Int32))] (.int (0 : Int32)) := (Arv.new A7 (by decide)).pad (pad_rep [] (.int (0 : Int32)) 4)
  obtain ⟨cl_b7_0, Ar_b7_0, q_b7_0, Sz_b7_0, Ng_b7_0, Ha_b7_0, Gt_b7_0⟩ := id V_b7
  have hin_b7_0 : ¬ ((0 : Int32) < 0 ∨ cl_b7_0.slots.size ≤ ((0 : Int32)).toNatClampNeg) := inb_of Sz_b7_0 ⟨by decide, by decide⟩
  obtain ⟨T8, h8, X8, e8, W8, st8⟩ := stC X7 hx hZ e7 Ar_b7_0 (j := (0 : Int32)) hin_b7_0 (g := (mkF m 161 #[vI p1, vI p2, vI p3, vI p4, vI p5, vI (t0_0 p1), vI (t0_1 p2), vI (t0_2 p3), vI (t0_3 p4), vI (t0_4 p5), vU, vU, vU] [(.int (t0_1 p2)), (.int (0 : Int32)), (.ref b7), (.ref b7), (.ref b6), (.ref b6)])) rfl rfl (hb hby at_161)
  have V8 : Arv Z h8 b7 k7 .char (4 : Int32) [(.int (nar .char (t0_1 p2))), (.int (0 : Int32)), (.int (0 : Int32)), (.int (0 : Int32))] (.int (0 : Int32)) := Arv.set Ar_b7_0 q_b7_0 Sz_b7_0 Ng_b7_0 Ha_b7_0 Gt_b7_0 (fits_nar_char _) W8 0 rfl (Nat.le_of_ble_eq_true rfl)
  have N8 := Fr.snoc X8 N0 g_b7
  obtain ⟨cl_b7_1, Ar_b7_1, q_b7_1, Sz_b7_1, Ng_b7_1, Ha_b7_1, Gt_b7_1⟩ := id V8
  have hin_b7_1 : ¬ ((1 : Int32) < 0 ∨ cl_b7_1.slots.size ≤ ((1 : Int32)).toNatClampNeg) := inb_of Sz_b7_1 ⟨by decide, by decide⟩
  obtain ⟨T9, h9, X9, e9, W9, st9⟩ := stC X8 hx hZ e8 Ar_b7_1 (j := (1 : Int32)) hin_b7_1 (g := (mkF m 166 #[vI p1, vI p2, vI p3, vI p4, vI p5, vI (t0_0 p1), vI (t0_1 p2), vI (t0_2 p3), vI (t0_3 p4), vI (t0_4 p5), vU, vU, vU] [(.int (t0_2 p3)), (.int (1 : Int32)), (.ref b7), (.ref b7), (.ref b6), (.ref b6)])) rfl rfl (hb hby at_166)
  have V9 : Arv Z h9 b7 k7 .char (4 : Int32) [(.int (nar .char (t0_1 p2))), (.int (nar .char (t0_2 p3))), (.int (0 : Int32)), (.int (0 : Int32))] (.int (0 : Int32)) := Arv.set Ar_b7_1 q_b7_1 Sz_b7_1 Ng_b7_1 Ha_b7_1 Gt_b7_1 (fits_nar_char _) W9 1 rfl (Nat.le_of_ble_eq_true rfl)
  have N9 := Fr.snoc X9 N8 g_b7
  obtain ⟨cl_b7_2, Ar_b7_2, q_b7_2, Sz_b7_2, Ng_b7_2, Ha_b7_2, Gt_b7_2⟩ := id V9
  have hin_b7_2 : ¬ ((2 : Int32) < 0 ∨ cl_b7_2.slots.size ≤ ((2 : Int32)).toNatClampNeg) := inb_of Sz_b7_2 ⟨by decide, by decide⟩
  obtain ⟨T10, h10, X10, e10, W10, st10⟩ := stC X9 hx hZ e9 Ar_b7_2 (j := (2 : Int32)) hin_b7_2 (g := (mkF m 171 #[vI p1, vI p2, vI p3, vI p4, vI p5, vI (t0_0 p1), vI (t0_1 p2), vI (t0_2 p3), vI (t0_3 p4), vI (t0_4 p5), vU, vU, vU] [(.int (t0_3 p4)), (.int (2 : Int32)), (.ref b7), (.ref b7), (.ref b6), (.ref b6)])) rfl rfl (hb hby at_171)
  have V10 : Arv Z h10 b7 k7 .char (4 : Int32) [(.int (nar .char (t0_1 p2))), (.int (nar .char (t0_2 p3))), (.int (nar .char (t0_3 p4))), (.int (0 : Int32))] (.int (0 : Int32)) := Arv.set Ar_b7_2 q_b7_2 Sz_b7_2 Ng_b7_2 Ha_b7_2 Gt_b7_2 (fits_nar_char _) W10 2 rfl (Nat.le_of_ble_eq_true rfl)
  have N10 := Fr.snoc X10 N9 g_b7
  obtain ⟨cl_b7_3, Ar_b7_3, q_b7_3, Sz_b7_3, Ng_b7_3, Ha_b7_3, Gt_b7_3⟩ := id V10
  have hin_b7_3 : ¬ ((3 : Int32) < 0 ∨ cl_b7_3.slots.size ≤ ((3 : Int32)).toNatClampNeg) := inb_of Sz_b7_3 ⟨by decide, by decide⟩
  obtain ⟨T11, h11, X11, e11, W11, st11⟩ := stC X10 hx hZ e10 Ar_b7_3 (j := (3 : Int32)) hin_b7_3 (g := (mkF m 176 #[vI p1, vI p2, vI p3, vI p4, vI p5, vI (t0_0 p1), vI (t0_1 p2), vI (t0_2 p3), vI (t0_3 p4), vI (t0_4 p5), vU, vU, vU] [(.int (t0_4 p5)), (.int (3 : Int32)), (.ref b7), (.ref b7), (.ref b6), (.ref b6)])) rfl rfl (hb hby at_176)
  have V11 : Arv Z h11 b7 k7 .char (4 : Int32) [(.int (nar .char (t0_1 p2))), (.int (nar .char (t0_2 p3))), (.int (nar .char (t0_3 p4))), (.int (nar .char (t0_4 p5)))] (.int (0 : Int32)) := Arv.set Ar_b7_3 q_b7_3 Sz_b7_3 Ng_b7_3 Ha_b7_3 Gt_b7_3 (fits_nar_char _) W11 3 rfl (Nat.le_of_ble_eq_true rfl)
  have N11 := Fr.snoc X11 N10 g_b7
  have f4 := ((((((S_COMPACT_STRINGS.ext E6).ext E7).wr W8).wr W9).wr W10).wr W11)
  have f5 := ((((((S__assertionsDisabled.ext E6).ext E7).wr W8).wr W9).wr W10).wr W11)
  have f6 := ((((((S_HI_BYTE_SHIFT.ext E6).ext E7).wr W8).wr W9).wr W10).wr W11)
  have f7 := ((((((S_LO_BYTE_SHIFT.ext E6).ext E7).wr W8).wr W9).wr W10).wr W11)
  have f8 := (((((F_coder_b6.ext E7).other W8 (Or.inl (Nat.ne_of_lt (Nat.lt_of_lt_of_le A6.lt (Nat.le_of_eq g7.symm))))).other W9 (Or.inl (Nat.ne_of_lt (Nat.lt_of_lt_of_le A6.lt (Nat.le_of_eq g7.symm))))).other W10 (Or.inl (Nat.ne_of_lt (Nat.lt_of_lt_of_le A6.lt (Nat.le_of_eq g7.symm))))).other W11 (Or.inl (Nat.ne_of_lt (Nat.lt_of_lt_of_le A6.lt (Nat.le_of_eq g7.symm)))))
  have f9 := (((((F_value_b6.ext E7).other W8 (Or.inl (Nat.ne_of_lt (Nat.lt_of_lt_of_le A6.lt (Nat.le_of_eq g7.symm))))).other W9 (Or.inl (Nat.ne_of_lt (Nat.lt_of_lt_of_le A6.lt (Nat.le_of_eq g7.symm))))).other W10 (Or.inl (Nat.ne_of_lt (Nat.lt_of_lt_of_le A6.lt (Nat.le_of_eq g7.symm))))).other W11 (Or.inl (Nat.ne_of_lt (Nat.lt_of_lt_of_le A6.lt (Nat.le_of_eq g7.symm)))))
  have f10 := (((((A6.ext E7).wr W8).wr W9).wr W10).wr W11)
  obtain ⟨_, _, ⟨T12, L12, k12, n12⟩, -, X12, ⟨Lc12, hQ12, l12, y12, z12⟩, st12⟩ := X11.specialBack hx (y := (⟨"java/lang/String", "<init>", "([C)V"⟩ : MethodName)) rfl hown (mvT hZ (hi 6 rfl)) (mvT hZ (hi 7 rfl)) (mvT hZ (hi 8 rfl)) (by decide) (backOf (W := 1) (rm1_4 l Z a0 hw [] b6 b7 s_COMPACT_STRINGS s__assertionsDisabled s_HI_BYTE_SHIFT s_LO_BYTE_SHIFT (0 : Int32) .null k7 (nar .char (t0_1 p2)) (nar .char (t0_2 p3)) (nar .char (t0_3 p4)) (nar .char (t0_4 p5)) h11 n0 (Nat.le_trans (Nat.le_trans (Nat.le_trans (Nat.le_trans (Nat.le_trans (Nat.le_trans Z0 E6.1) E7.1) (Keep.of_wr W8).1) (Keep.of_wr W9).1) (Keep.of_wr W10).1) (Keep.of_wr W11).1) hcs hasd hhi hlo (own_cc2 _) (own_cc2 _) (own_cc2 _) (own_cc2 _) f4 f5 f6 f7 f8 f9 f10 g_b6 V11) hZ (hi 8 rfl) (hi 4 rfl) (by decide) (by decide)) (g := (mkF m 177 #[vI p1, vI p2, vI p3, vI p4, vI p5, vI (t0_0 p1), vI (t0_1 p2), vI (t0_2 p3), vI (t0_3 p4), vI (t0_4 p5), vU, vU, vU] [(.ref b7), (.ref b6), (.ref b6)])) rfl (by rw [hml]; rfl) (Steps.refl _) (a := b6) (argsL := [(.ref b7)]) (rest := [(.ref b6)]) (lenOf pd__28_5bC_29V rfl) rfl (by show 2 * 0 + _ ≤ _; exact Nat.le_of_eq rfl) (hb hby at_177) (fun _ _ => ⟨rfl, e11, (by decide : 2 + 2 ≤ _), (by decide : 8 + 12 ≤ _)⟩)
  dsimp only [Pt.U, Pt.locs, Pt.cells, Pt.slots] at X12 l12 y12 z12 st12 hQ12
  subst l12 y12 z12
  obtain ⟨b_5_3_12, ⟨k_5_3_12, ⟨zz_5_3_12, ⟨vs_5_3_12, ⟨rfl, N12q, K12, i12_0, i12_1, i12_2, i12_3, i12_4, i12_5⟩⟩⟩⟩⟩ := hQ12
  have N12 := Fr.app N11 N12q
  have sz_b_5_3_12 : h0.size ≤ b_5_3_12 := Nat.le_trans (Nat.le_trans (Nat.le_trans (Nat.le_trans (Nat.le_trans (Nat.le_trans (Nat.le_trans (Nat.le_refl h0.size) E6.1) E7.1) (Keep.of_wr W8).1) (Keep.of_wr W9).1) (Keep.of_wr W10).1) (Keep.of_wr W11).1) i12_0
  have g_b_5_3_12 : n0 ≤ b_5_3_12 := Nat.le_trans Z0 sz_b_5_3_12
  have f11 := (own_sta_keep f4 K12 (own_qc (own_nst f10) own_q0))
  obtain ⟨_, _, ⟨T13, L13, k13, n13⟩, -, X13, ⟨Lc13, hQ13, l13, y13, z13⟩, st13⟩ := Jvm.LawKit.callS X12 hx (y := (⟨"com/example/lob/lob/broker/HeldBytes", "ofKeptSession", "(Ljava/lang/String;)J"⟩ : MethodName)) hown (mvT hZ (hi 26 rfl)) (mvT hZ (hi 27 rfl)) (mvT hZ (hi 28 rfl)) (mvT hZ (hi 29 rfl)) (by decide) (backOf (W := 0) (rm4 l Z a0 hw [] b6 b_5_3_12 k_5_3_12 zz_5_3_12 vs_5_3_12 s_COMPACT_STRINGS (nar .byte (nar .byte ((t9_0 (4 : Int32) zz_5_3_12).toInt8.toInt32))) T12.heap n0 (Nat.le_trans (Nat.le_trans (Nat.le_trans (Nat.le_trans (Nat.le_trans (Nat.le_trans (Nat.le_trans Z0 E6.1) E7.1) (Keep.of_wr W8).1) (Keep.of_wr W9).1) (Keep.of_wr W10).1) (Keep.of_wr W11).1) K12.1) hcs i12_3 i12_4 f11 i12_2 i12_1) hZ (hi 29 rfl) (hi 28 rfl) (by decide) (by decide)) (g := (mkF m 197 #[vI p1, vI p2, vI p3, vI p4, vI p5, vI (t0_0 p1), vI (t0_1 p2), vI (t0_2 p3), vI (t0_3 p4), vI (t0_4 p5), vA b6, vL (t0_5 p1), vS] [(.ref b6)])) rfl (by rw [hml]; rfl) (argsL := [(.ref b6)]) (rest := []) (lenOf pd__28Ljava_2flang_2fString_3b_29J rfl) rfl (by show 2 * 0 + _ ≤ _; exact Nat.le_of_eq rfl) (hb hby at_197) (fun _ _ => ⟨rfl, rfl, (by decide : 4 + 0 ≤ _), (by decide : 20 + 0 ≤ _)⟩)
  dsimp only [Pt.U, Pt.locs, Pt.cells, Pt.slots] at X13 l13 y13 z13 st13 hQ13
  subst l13 y13 z13
  obtain ⟨rfl, N13q, e13⟩ := hQ13
  have N13 := Fr.app N12 N13q
  obtain ⟨fs, hr, hrun, hended, hw1, hw2, hw3, hw4⟩ := X13.leaveW hS0 (show _ ≤ T13.heap.size from by rw [e13]; exact (Nat.le_trans (Nat.le_trans (Nat.le_trans (Nat.le_trans (Nat.le_trans (Nat.le_trans (Nat.le_trans (Nat.le_refl h0.size) E6.1) E7.1) (Keep.of_wr W8).1) (Keep.of_wr W9).1) (Keep.of_wr W10).1) (Keep.of_wr W11).1) K12.1)) (v := some (.int (1 : Int32))) (fun h => by rw [Bd.returns] at h; cases h)
  refine ⟨_, _, pre0 _ ?_, hrun, hended, _, _, rfl, ?_, hw1, hw2, hw3, hw4.mono (by decide) (by decide)⟩
  · show Steps p.tables e below (s₁.setTop (mkF m 0 #[vI p1, vI p2, vI p3, vI p4, vI p5, vU, vU, vU, vU, vU, vU, vU, vU] [])) _
    refine XS.iloadN X0.here hx rfl (hb hby at_0) rfl ?_
    show Steps p.tables e below (s₁.setTop (mkF m 1 #[vI p1, vI p2, vI p3, vI p4, vI p5, vU, vU, vU, vU, vU, vU, vU, vU] [(.int p1)])) _
    refine X0.ldcInt hx hown (mvT hZ (hi 0 rfl)) (g := (mkF m 1 #[vI p1, vI p2, vI p3, vI p4, vI p5, vU, vU, vU, vU, vU, vU, vU, vU] [(.int p1)])) rfl (hb hby at_1) _ ?_
    refine XS.iand X0.here hx rfl (hb hby at_3) rfl ?_
    refine XS.iconst X0.here hx rfl (hb hby at_4) ?_
    refine XS.irem X0.here hx rfl (hb hby at_5) rfl (by decide) ?_
    refine XS.istore X0.here hx rfl (hb hby at_6) rfl (l' := #[vI p1, vI p2, vI p3, vI p4, vI p5, vI (t0_0 p1), vU, vU, vU, vU, vU, vU, vU]) rfl ?_
    refine XS.iloadN X0.here hx rfl (hb hby at_8) rfl ?_
    show Steps p.tables e below (s₁.setTop (mkF m 9 #[vI p1, vI p2, vI p3, vI p4, vI p5, vI (t0_0 p1), vU, vU, vU, vU, vU, vU, vU] [(.int p2)])) _
    refine X0.ldcInt hx hown (mvT hZ (hi 1 rfl)) (g := (mkF m 9 #[vI p1, vI p2, vI p3, vI p4, vI p5, vI (t0_0 p1), vU, vU, vU, vU, vU, vU, vU] [(.int p2)])) rfl (hb hby at_9) _ ?_
    refine XS.iand X0.here hx rfl (hb hby at_11) rfl ?_
    refine XS.i2c X0.here hx rfl (hb hby at_12) rfl ?_
    refine XS.istore X0.here hx rfl (hb hby at_13) rfl (l' := #[vI p1, vI p2, vI p3, vI p4, vI p5, vI (t0_0 p1), vI (t0_1 p2), vU, vU, vU, vU, vU, vU]) rfl ?_
    refine XS.iloadN X0.here hx rfl (hb hby at_15) rfl ?_
    show Steps p.tables e below (s₁.setTop (mkF m 16 #[vI p1, vI p2, vI p3, vI p4, vI p5, vI (t0_0 p1), vI (t0_1 p2), vU, vU, vU, vU, vU, vU] [(.int p3)])) _
    refine X0.ldcInt hx hown (mvT hZ (hi 1 rfl)) (g := (mkF m 16 #[vI p1, vI p2, vI p3, vI p4, vI p5, vI (t0_0 p1), vI (t0_1 p2), vU, vU, vU, vU, vU, vU] [(.int p3)])) rfl (hb hby at_16) _ ?_
    refine XS.iand X0.here hx rfl (hb hby at_18) rfl ?_
    refine XS.i2c X0.here hx rfl (hb hby at_19) rfl ?_
    refine XS.istore X0.here hx rfl (hb hby at_20) rfl (l' := #[vI p1, vI p2, vI p3, vI p4, vI p5, vI (t0_0 p1), vI (t0_1 p2), vI (t0_2 p3), vU, vU, vU, vU, vU]) rfl ?_
    refine XS.iloadN X0.here hx rfl (hb hby at_22) rfl ?_
    show Steps p.tables e below (s₁.setTop (mkF m 23 #[vI p1, vI p2, vI p3, vI p4, vI p5, vI (t0_0 p1), vI (t0_1 p2), vI (t0_2 p3), vU, vU, vU, vU, vU] [(.int p4)])) _
    refine X0.ldcInt hx hown (mvT hZ (hi 1 rfl)) (g := (mkF m 23 #[vI p1, vI p2, vI p3, vI p4, vI p5, vI (t0_0 p1), vI (t0_1 p2), vI (t0_2 p3), vU, vU, vU, vU, vU] [(.int p4)])) rfl (hb hby at_23) _ ?_
    refine XS.iand X0.here hx rfl (hb hby at_25) rfl ?_
    refine XS.i2c X0.here hx rfl (hb hby at_26) rfl ?_
    refine XS.istore X0.here hx rfl (hb hby at_27) rfl (l' := #[vI p1, vI p2, vI p3, vI p4, vI p5, vI (t0_0 p1), vI (t0_1 p2), vI (t0_2 p3), vI (t0_3 p4), vU, vU, vU, vU]) rfl ?_
    refine XS.iload X0.here hx rfl (hb hby at_29) rfl ?_
    show Steps p.tables e below (s₁.setTop (mkF m 31 #[vI p1, vI p2, vI p3, vI p4, vI p5, vI (t0_0 p1), vI (t0_1 p2), vI (t0_2 p3), vI (t0_3 p4), vU, vU, vU, vU] [(.int p5)])) _
    refine X0.ldcInt hx hown (mvT hZ (hi 1 rfl)) (g := (mkF m 31 #[vI p1, vI p2, vI p3, vI p4, vI p5, vI (t0_0 p1), vI (t0_1 p2), vI (t0_2 p3), vI (t0_3 p4), vU, vU, vU, vU] [(.int p5)])) rfl (hb hby at_31) _ ?_
    refine XS.iand X0.here hx rfl (hb hby at_33) rfl ?_
    refine XS.i2c X0.here hx rfl (hb hby at_34) rfl ?_
    refine XS.istore X0.here hx rfl (hb hby at_35) rfl (l' := #[vI p1, vI p2, vI p3, vI p4, vI p5, vI (t0_0 p1), vI (t0_1 p2), vI (t0_2 p3), vI (t0_3 p4), vI (t0_4 p5), vU, vU, vU]) rfl ?_
    refine XS.iload X0.here hx rfl (hb hby at_37) rfl ?_
    show Steps p.tables e below (s₁.setTop (mkF m 39 #[vI p1, vI p2, vI p3, vI p4, vI p5, vI (t0_0 p1), vI (t0_1 p2), vI (t0_2 p3), vI (t0_3 p4), vI (t0_4 p5), vU, vU, vU] [(.int (t0_0 p1))])) _
    refine XS.ifYes X0.here hx rfl (pc0 := 39) (pc' := 57) rfl (hb hby at_39) rfl ((if0 _ _).trans (feq hc39).2) (by decide) (by decide) ?_
    refine XS.iload X0.here hx rfl (hb hby at_57) rfl ?_
    refine XS.iconst X0.here hx rfl (hb hby at_59) ?_
    show Steps p.tables e below (s₁.setTop (mkF m 60 #[vI p1, vI p2, vI p3, vI p4, vI p5, vI (t0_0 p1), vI (t0_1 p2), vI (t0_2 p3), vI (t0_3 p4), vI (t0_4 p5), vU, vU, vU] [(.int (1 : Int32)), (.int (t0_0 p1))])) _
    refine XS.icmpYes X0.here hx rfl (pc0 := 60) (pc' := 83) rfl (hb hby at_60) rfl (feq hc60).2 (by decide) (by decide) ?_
    refine XS.iload X0.here hx rfl (hb hby at_83) rfl ?_
    refine XS.iconst X0.here hx rfl (hb hby at_85) ?_
    show Steps p.tables e below (s₁.setTop (mkF m 86 #[vI p1, vI p2, vI p3, vI p4, vI p5, vI (t0_0 p1), vI (t0_1 p2), vI (t0_2 p3), vI (t0_3 p4), vI (t0_4 p5), vU, vU, vU] [(.int (2 : Int32)), (.int (t0_0 p1))])) _
    refine XS.icmpYes X0.here hx rfl (pc0 := 86) (pc' := 114) rfl (hb hby at_86) rfl (feq hc86).2 (by decide) (by decide) ?_
    refine XS.iload X0.here hx rfl (hb hby at_114) rfl ?_
    refine XS.iconst X0.here hx rfl (hb hby at_116) ?_
    show Steps p.tables e below (s₁.setTop (mkF m 117 #[vI p1, vI p2, vI p3, vI p4, vI p5, vI (t0_0 p1), vI (t0_1 p2), vI (t0_2 p3), vI (t0_3 p4), vI (t0_4 p5), vU, vU, vU] [(.int (3 : Int32)), (.int (t0_0 p1))])) _
    refine XS.icmpYes X0.here hx rfl (pc0 := 117) (pc' := 150) rfl (hb hby at_117) rfl (feq hc117).2 (by decide) (by decide) ?_
    show Steps p.tables e below (s₁.setTop (mkF m 150 #[vI p1, vI p2, vI p3, vI p4, vI p5, vI (t0_0 p1), vI (t0_1 p2), vI (t0_2 p3), vI (t0_3 p4), vI (t0_4 p5), vU, vU, vU] [])) _
    refine st6 _ ?_
    refine XS.dup X6.here hx rfl (hb hby at_153) rfl rfl ?_
    refine XS.iconst X6.here hx rfl (hb hby at_154) ?_
    show Steps p.tables e below (T6.setTop (mkF m 155 #[vI p1, vI p2, vI p3, vI p4, vI p5, vI (t0_0 p1), vI (t0_1 p2), vI (t0_2 p3), vI (t0_3 p4), vI (t0_4 p5), vU, vU, vU] [(.int (4 : Int32)), (.ref b6), (.ref b6)])) _
    refine st7 _ ?_
    refine XS.dup X7.here hx rfl (hb hby at_157) rfl rfl ?_
    refine XS.iconst X7.here hx rfl (hb hby at_158) ?_
    refine XS.iload X7.here hx rfl (hb hby at_159) rfl ?_
    show Steps p.tables e below (T7.setTop (mkF m 161 #[vI p1, vI p2, vI p3, vI p4, vI p5, vI (t0_0 p1), vI (t0_1 p2), vI (t0_2 p3), vI (t0_3 p4), vI (t0_4 p5), vU, vU, vU] [(.int (t0_1 p2)), (.int (0 : Int32)), (.ref b7), (.ref b7), (.ref b6), (.ref b6)])) _
    refine st8 _ ?_
    refine XS.dup X8.here hx rfl (hb hby at_162) rfl rfl ?_
    refine XS.iconst X8.here hx rfl (hb hby at_163) ?_
    refine XS.iload X8.here hx rfl (hb hby at_164) rfl ?_
    show Steps p.tables e below (T8.setTop (mkF m 166 #[vI p1, vI p2, vI p3, vI p4, vI p5, vI (t0_0 p1), vI (t0_1 p2), vI (t0_2 p3), vI (t0_3 p4), vI (t0_4 p5), vU, vU, vU] [(.int (t0_2 p3)), (.int (1 : Int32)), (.ref b7), (.ref b7), (.ref b6), (.ref b6)])) _
    refine st9 _ ?_
    refine XS.dup X9.here hx rfl (hb hby at_167) rfl rfl ?_
    refine XS.iconst X9.here hx rfl (hb hby at_168) ?_
    refine XS.iload X9.here hx rfl (hb hby at_169) rfl ?_
    show Steps p.tables e below (T9.setTop (mkF m 171 #[vI p1, vI p2, vI p3, vI p4, vI p5, vI (t0_0 p1), vI (t0_1 p2), vI (t0_2 p3), vI (t0_3 p4), vI (t0_4 p5), vU, vU, vU] [(.int (t0_3 p4)), (.int (2 : Int32)), (.ref b7), (.ref b7), (.ref b6), (.ref b6)])) _
    refine st10 _ ?_
    refine XS.dup X10.here hx rfl (hb hby at_172) rfl rfl ?_
    refine XS.iconst X10.here hx rfl (hb hby at_173) ?_
    refine XS.iload X10.here hx rfl (hb hby at_174) rfl ?_
    show Steps p.tables e below (T10.setTop (mkF m 176 #[vI p1, vI p2, vI p3, vI p4, vI p5, vI (t0_0 p1), vI (t0_1 p2), vI (t0_2 p3), vI (t0_3 p4), vI (t0_4 p5), vU, vU, vU] [(.int (t0_4 p5)), (.int (3 : Int32)), (.ref b7), (.ref b7), (.ref b6), (.ref b6)])) _
    refine st11 _ ?_
    show Steps p.tables e below (T11.setTop (mkF m 177 #[vI p1, vI p2, vI p3, vI p4, vI p5, vI (t0_0 p1), vI (t0_1 p2), vI (t0_2 p3), vI (t0_3 p4), vI (t0_4 p5), vU, vU, vU] [(.ref b7), (.ref b6), (.ref b6)])) _
    refine st12.trans ?_
    refine XS.astore X12.here hx rfl (hb hby at_180) rfl rfl (l' := #[vI p1, vI p2, vI p3, vI p4, vI p5, vI (t0_0 p1), vI (t0_1 p2), vI (t0_2 p3), vI (t0_3 p4), vI (t0_4 p5), vA b6, vU, vU]) rfl ?_
    show Steps p.tables e below (T12.setTop (mkF m 182 #[vI p1, vI p2, vI p3, vI p4, vI p5, vI (t0_0 p1), vI (t0_1 p2), vI (t0_2 p3), vI (t0_3 p4), vI (t0_4 p5), vA b6, vU, vU] [])) _
    refine X12.ldc2Long hx hown (mvT hZ (hi 24 rfl)) (g := (mkF m 182 #[vI p1, vI p2, vI p3, vI p4, vI p5, vI (t0_0 p1), vI (t0_1 p2), vI (t0_2 p3), vI (t0_3 p4), vI (t0_4 p5), vA b6, vU, vU] [])) rfl (hb hby at_182) _ ?_
    show Steps p.tables e below (T12.setTop (mkF m 185 #[vI p1, vI p2, vI p3, vI p4, vI p5, vI (t0_0 p1), vI (t0_1 p2), vI (t0_2 p3), vI (t0_3 p4), vI (t0_4 p5), vA b6, vU, vU] [(.long (576 : Int64))])) _
    refine X12.ldc2Long hx hown (mvT hZ (hi 25 rfl)) (g := (mkF m 185 #[vI p1, vI p2, vI p3, vI p4, vI p5, vI (t0_0 p1), vI (t0_1 p2), vI (t0_2 p3), vI (t0_3 p4), vI (t0_4 p5), vA b6, vU, vU] [(.long (576 : Int64))])) rfl (hb hby at_185) _ ?_
    refine XS.iload X12.here hx rfl (hb hby at_188) rfl ?_
    refine XS.i2l X12.here hx rfl (hb hby at_190) rfl ?_
    refine XS.lmul X12.here hx rfl (hb hby at_191) rfl ?_
    refine XS.ladd X12.here hx rfl (hb hby at_192) rfl ?_
    refine XS.lstore X12.here hx rfl (hb hby at_193) rfl (l' := #[vI p1, vI p2, vI p3, vI p4, vI p5, vI (t0_0 p1), vI (t0_1 p2), vI (t0_2 p3), vI (t0_3 p4), vI (t0_4 p5), vA b6, vL (t0_5 p1), vS]) rfl ?_
    refine XS.aload X12.here hx rfl (hb hby at_195) rfl rfl ?_
    show Steps p.tables e below (T12.setTop (mkF m 197 #[vI p1, vI p2, vI p3, vI p4, vI p5, vI (t0_0 p1), vI (t0_1 p2), vI (t0_2 p3), vI (t0_3 p4), vI (t0_4 p5), vA b6, vL (t0_5 p1), vS] [(.ref b6)])) _
    refine st13 _ ?_
    refine XS.lload X13.here hx rfl (hb hby at_200) rfl ?_
    refine XS.lcmp X13.here hx rfl (hb hby at_202) rfl ?_
    show Steps p.tables e below (T13.setTop (mkF m 203 #[vI p1, vI p2, vI p3, vI p4, vI p5, vI (t0_0 p1), vI (t0_1 p2), vI (t0_2 p3), vI (t0_3 p4), vI (t0_4 p5), vA b6, vL (t0_5 p1), vS] [(.int (lcmpW (t4_0 zz_5_3_12 (nar .byte (nar .byte ((t9_0 (4 : Int32) zz_5_3_12).toInt8.toInt32)))) (t0_5 p1)))])) _
    refine XS.ifNo X13.here hx rfl (hb hby at_203) rfl ((if0 _ _).trans (teq (show (lcmpW (t4_0 zz_5_3_12 (nar .byte (nar .byte ((t9_0 (4 : Int32) zz_5_3_12).toInt8.toInt32)))) (t0_5 p1)) = (0 : Int32) from own_end4 (own_t4 p1 hc39 hc60 hc86 hc117) i12_5)).2) ?_
    refine XS.iconst X13.here hx rfl (hb hby at_206) ?_
    show Steps p.tables e below (T13.setTop (mkF m 207 #[vI p1, vI p2, vI p3, vI p4, vI p5, vI (t0_0 p1), vI (t0_1 p2), vI (t0_2 p3), vI (t0_3 p4), vI (t0_4 p5), vA b6, vL (t0_5 p1), vS] [(.int (1 : Int32))])) _
    refine XS.goto X13.here hx rfl (pc0 := 207) (pc' := 211) rfl (hb hby at_207) (by decide) (by decide) ?_
    show Steps p.tables e below (T13.setTop (mkF m 211 #[vI p1, vI p2, vI p3, vI p4, vI p5, vI (t0_0 p1), vI (t0_1 p2), vI (t0_2 p3), vI (t0_3 p4), vI (t0_4 p5), vA b6, vL (t0_5 p1), vS] [(.int (1 : Int32))])) _
    exact retN X13 hx (t := .boolean) Bd.returns (by simp) (hb hby at_211) hr
  · show Q_rm0 Z p1 p2 p3 p4 p5 s_COMPACT_STRINGS s__assertionsDisabled s_HI_BYTE_SHIFT s_LO_BYTE_SHIFT h0 n0 _ T13.heap _
    exact ⟨rfl, N13⟩
set_option maxHeartbeats 4000000 in
theorem rm0 (l : Launch) (Z : State) (a0 : Array Value) (hw : ∀ d ∈ tables_1, d.before a0 Z = true) (ws : List Jvm.Cond) (p1 : Int32) (p2 : Int32) (p3 : Int32) (p4 : Int32) (p5 : Int32) (s_COMPACT_STRINGS : Int32) (s__assertionsDisabled : Int32) (s_HI_BYTE_SHIFT : Int32) (s_LO_BYTE_SHIFT : Int32) (h0 : Heap) (n0 : Nat) (Z0 : n0 ≤ h0.size) (hcs : ¬ (s_COMPACT_STRINGS = (0 : Int32))) (hasd : ¬ (s__assertionsDisabled = (0 : Int32))) (hhi : s_HI_BYTE_SHIFT = (0 : Int32)) (hlo : s_LO_BYTE_SHIFT = (8 : Int32)) (S_COMPACT_STRINGS : Sta Z h0 "java/lang/String" "COMPACT_STRINGS" "Z" (.int s_COMPACT_STRINGS)) (S__assertionsDisabled : Sta Z h0 "java/lang/StringUTF16" "$assertionsDisabled" "Z" (.int s__assertionsDisabled)) (S_HI_BYTE_SHIFT : Sta Z h0 "java/lang/StringUTF16" "HI_BYTE_SHIFT" "I" (.int s_HI_BYTE_SHIFT)) (S_LO_BYTE_SHIFT : Sta Z h0 "java/lang/StringUTF16" "LO_BYTE_SHIFT" "I" (.int s_LO_BYTE_SHIFT)) :
    MetFree l x (head1 (Jvm.Cond.code x code maxLocals ret :: ws) room_1) (fun a U => a = #[(.int p1), (.int p2), (.int p3), (.int p4), (.int p5)] ∧ Z.Warmed39 U.vm ∧ U.heap = h0 ∧ CHv Z consts_1 U.vm h0) (fun _ _ _ _ _ => True) (fun _ U o U' => ∃ v L, o = .returned v ∧ Q_rm0 Z p1 p2 p3 p4 p5 s_COMPACT_STRINGS s__assertionsDisabled s_HI_BYTE_SHIFT s_LO_BYTE_SHIFT h0 n0 v U'.heap L ∧ ReturnedEndW U o U' L room_1.cells room_1.slots) := by
  by_cases hc39 : (t0_0 p1) = (0 : Int32)
  · skip
    exact rm0_f l Z a0 hw ws p1 p2 p3 p4 p5 s_COMPACT_STRINGS s__assertionsDisabled s_HI_BYTE_SHIFT s_LO_BYTE_SHIFT h0 n0 Z0 hcs hasd hhi hlo S_COMPACT_STRINGS S__assertionsDisabled S_HI_BYTE_SHIFT S_LO_BYTE_SHIFT hc39
  · skip
    by_cases hc60 : (t0_0 p1) = (1 : Int32)
    · skip
      exact rm0_tf l Z a0 hw ws p1 p2 p3 p4 p5 s_COMPACT_STRINGS s__assertionsDisabled s_HI_BYTE_SHIFT s_LO_BYTE_SHIFT h0 n0 Z0 hcs hasd hhi hlo S_COMPACT_STRINGS S__assertionsDisabled S_HI_BYTE_SHIFT S_LO_BYTE_SHIFT hc39 hc60
    · skip
      by_cases hc86 : (t0_0 p1) = (2 : Int32)
      · skip
        exact rm0_ttf l Z a0 hw ws p1 p2 p3 p4 p5 s_COMPACT_STRINGS s__assertionsDisabled s_HI_BYTE_SHIFT s_LO_BYTE_SHIFT h0 n0 Z0 hcs hasd hhi hlo S_COMPACT_STRINGS S__assertionsDisabled S_HI_BYTE_SHIFT S_LO_BYTE_SHIFT hc39 hc60 hc86
      · skip
        by_cases hc117 : (t0_0 p1) = (3 : Int32)
        · skip
          exact rm0_tttf l Z a0 hw ws p1 p2 p3 p4 p5 s_COMPACT_STRINGS s__assertionsDisabled s_HI_BYTE_SHIFT s_LO_BYTE_SHIFT h0 n0 Z0 hcs hasd hhi hlo S_COMPACT_STRINGS S__assertionsDisabled S_HI_BYTE_SHIFT S_LO_BYTE_SHIFT hc39 hc60 hc86 hc117
        · skip
          exact rm0_tttt l Z a0 hw ws p1 p2 p3 p4 p5 s_COMPACT_STRINGS s__assertionsDisabled s_HI_BYTE_SHIFT s_LO_BYTE_SHIFT h0 n0 Z0 hcs hasd hhi hlo S_COMPACT_STRINGS S__assertionsDisabled S_HI_BYTE_SHIFT S_LO_BYTE_SHIFT hc39 hc60 hc86 hc117
set_option maxRecDepth 65536 in
set_option maxHeartbeats 40000000 in
theorem comes_1 {Post : Tables → Env → Array Value → State → Outcome → State → Prop} (hpost : ∀ tb e args s v u, (limb_1_1.after args s (.returned v) u = true ∧ limb_1_2.after args s (.returned v) u = true ∧ True) → ReturnedEndW s (.returned v) u (Jvm.fieldLocs frame_1_writes args s ++ Jvm.arrayLocs frame_1_arrays args s ++ Jvm.staticLocs frame_1_statics s) 24 1152 → Post tb e args s (.returned v) u) :
    ArmFor flags0 classFile x code maxLocals ret World_1 tables_1 room_1 Calls_1 rest_1 Pre_1 Post := by
  intro l hfl _ _ p e ha hc hk s m args below hf hA hF happ hP
  obtain ⟨hcalls, hrest, hpre⟩ := hP
  obtain ⟨-, -, -, hnamed, -, -, -, hat⟩ := (Spec.applies_iff hf).mp happ
  obtain ⟨hg, hn⟩ := and_e (Cond.before_iff.mp (show (Jvm.Cond.and given_1 narrow_1).before args s = true from hpre))
  obtain ⟨g1, g2⟩ := and_e hg
  obtain ⟨g3, g4⟩ := and_e g2
  obtain ⟨g5, g6⟩ := and_e g4
  obtain ⟨g7, g8⟩ := and_e g6
  obtain ⟨g9, g10⟩ := and_e g8
  obtain ⟨w0, w1, w2, w3, w4, rfl⟩ : ∃ w0 w1 w2 w3 w4 : Value, args = #[w0, w1, w2, w3, w4] := by
    have hs : args.size = 5 := by simpa [Cond.value, given_1] using g1
    obtain ⟨L⟩ := args
    match L, hs with
    | [w0, w1, w2, w3, w4], _ => exact ⟨w0, w1, w2, w3, w4, rfl⟩
  have hw := fun d (hd : d ∈ tables_1) => atoms_spec (ws := Jvm.Cond.code x code maxLocals ret :: tables_1) hat d (List.mem_cons_of_mem _ hd)
  have hfit : Fit s := fun {y c} hc i hi => by
    obtain ⟨ha, rfl⟩ := Array.getElem?_eq_some_iff.mp hc
    have q := List.all_eq_true.mp ((Array.all_eq_true_iff_forall_mem.mp hF) _ (Array.getElem_mem ha)) i (List.mem_range.mpr hi)
    simpa [Array.getElem?_eq_getElem hi] using q
  obtain ⟨hsets, hown0⟩ := atoms_of _ (rest_1_c_eq ▸ (show rest_1_c.before _ s = true from hrest))
  have hr0 := Cond.before_iff.mp hown0
  obtain ⟨i0, ei0⟩ := is_v g3
  obtain rfl : w0 = (.int i0) := Option.some.inj ei0
  obtain ⟨i1, ei1⟩ := is_v g5
  obtain rfl : w1 = (.int i1) := Option.some.inj ei1
  obtain ⟨i2, ei2⟩ := is_v g7
  obtain rfl : w2 = (.int i2) := Option.some.inj ei2
  obtain ⟨i3, ei3⟩ := is_v g9
  obtain rfl : w3 = (.int i3) := Option.some.inj ei3
  obtain ⟨i4, ei4⟩ := is_v g10
  obtain rfl : w4 = (.int i4) := Option.some.inj ei4
  obtain ⟨s_cs, e_cs⟩ := is_v (Cond.before_iff.mp (hsets _ (List.mem_of_getElem? (i := 1) rfl)))
  have S_cs : Sta s s.heap "java/lang/String" "COMPACT_STRINGS" "Z" (.int s_cs) := Sta.start e_cs (Or.inl (hsets _ (List.mem_of_getElem? (i := 0) rfl)))
  have hcs : ¬ (s_cs = (0 : Int32)) := gotF (Cond.eq_ints e_cs (Term.int_eval (0))) (not_v (Cond.before_iff.mp (hsets _ (List.mem_of_getElem? (i := 2) rfl))))
  have e_as := own_eqI (Cond.before_iff.mp (hsets _ (List.mem_of_getElem? (i := 12) rfl))) (Term.int_eval (1))
  have S_as : Sta s s.heap "java/lang/StringUTF16" "$assertionsDisabled" "Z" (.int (1 : Int32)) := Sta.start e_as (Or.inl (hsets _ (List.mem_of_getElem? (i := 11) rfl)))
  have e_hi := own_eqI (Cond.before_iff.mp (hsets _ (List.mem_of_getElem? (i := 15) rfl))) (Term.int_eval (0))
  have S_hi : Sta s s.heap "java/lang/StringUTF16" "HI_BYTE_SHIFT" "I" (.int (0 : Int32)) := Sta.start e_hi (Or.inl (hsets _ (List.mem_of_getElem? (i := 14) rfl)))
  have e_lo := own_eqI (Cond.before_iff.mp (hsets _ (List.mem_of_getElem? (i := 18) rfl))) (Term.int_eval (8))
  have S_lo : Sta s s.heap "java/lang/StringUTF16" "LO_BYTE_SHIFT" "I" (.int (8 : Int32)) := Sta.start e_lo (Or.inl (hsets _ (List.mem_of_getElem? (i := 17) rfl)))
  have hCH : CHv s consts_1 s.vm s.heap := CHv.start (own_EW hw) hcalls.1 (hsets _ (List.mem_of_getElem? (i := 2) rfl)) (hw _ (List.mem_of_getElem? (i := 17) rfl)) (hw _ (List.mem_of_getElem? (i := 3) rfl))
  obtain ⟨n, o, h1, h2, h3, _, L, rfl, ⟨rfl, N⟩, hq⟩ := rm0 l s _ hw tables_1 i0 i1 i2 i3 i4 s_cs (1 : Int32) (0 : Int32) (8 : Int32) s.heap s.heap.size (Nat.le_refl _) hcs (by decide) rfl rfl S_cs S_as S_hi S_lo p e ha hc hk s m _ below hf ((Spec.applies_iff_loose hf).mp happ).1 ⟨rfl, State.Warmed39.refl s, rfl, hCH⟩ trivial
  refine ⟨n, _, h1, h2, h3, hpost _ _ _ _ _ _ ⟨Cond.after_iff.mpr rfl, Cond.after_iff.mpr (eq_i res_at (Term.int_eval (1)) rfl), trivial⟩ ⟨hq.1, hq.2.1, hq.2.2.1, (hq.2.2.2.sift fun y hy => Or.inr (N y hy)).mono (by decide) (by decide)⟩⟩
theorem main_1_1 : Claimed_1_1 := comes_1 fun _ _ _ _ _ _ h hF => ⟨h.1, hF⟩
theorem main_1_2 : Claimed_1_2 := comes_1 fun _ _ _ _ _ _ h hF => ⟨h.2.1, hF⟩
end Jvm.Pilot.@@N@@
namespace Jvm.Pilot.@@N@@
open Jvm Jvm.ClassFile Sem Op Lib Jvm.Free Jvm.Stand Jvm.Pilot.@@N@@.Jvm.D
/-! MADE BY PROGRAM (witnessworld.py) out of the Statement's table words and the real class files: 20 classes; the members and pool entries that the words name. The judged class is class 1, her method 1. -/
namespace start1
open Jvm.ClassFile
def u (s : String) : CpInfo := .utf8 (stringToUtf16 s)
/-- a pool by its gaps: so many unusable entries, then the entry; so many at the end -/
def gap : Nat → List CpInfo → List CpInfo
  | 0, r => r
  | n + 1, r => .unusable :: gap n r
def poolList (es : List (Nat × CpInfo)) (last : Nat) : List CpInfo := es.foldr (fun e r => gap e.1 (e.2 :: r)) (gap last [])
def pool (es : List (Nat × CpInfo)) (last : Nat) : Array CpInfo := ⟨poolList es last⟩
def fileOf (pool : Array CpInfo) (this : Nat) (attrs : Array Attribute := #[]) (ms : Array MethodInfo := #[]) (fl : Nat := 33) (sup : Nat := 0) (ifs : Array Nat := #[]) (fds : Array FieldInfo := #[]) : ClassFile where
  minorVersion := 0
  majorVersion := 65
  constantPool := pool
  accessFlags := fl
  thisClass := this
  superClass := sup
  interfaces := ifs
  fields := fds
  methods := ms
  attributes := attrs
def plain (name : String) (sup : Option ClassId) : Class where
  name := name
  kind := .ordinary
  loader := none
  accessFlags := 33
  super := sup
  interfaces := #[]
  cf := none
  fields := #[]
  methods := #[]
  instanceTypes := #[]
  staticTypes := #[]
  resolved := #[]
  callSites := []
  init := .initialized
  statics := none
  mirror := none

def pool0 : Array CpInfo := pool [(5, u "<init>"), (0, u "()V"), (1, .class_ 10), (1, u "java/lang/Object")] 113

def k0c0 : Code := { maxStack := 0, maxLocals := 1, code := object_method_1_code, exceptionTable := #[], attributes := #[] }
def k0m0 : Method := { name := "<init>", desc := "()V", sig := { parameters := [], returnType := none }, accessFlags := 1, code := some k0c0 }
/-- java/lang/Object -/
def k0 : Class := { plain "java/lang/Object" none with
  accessFlags := 33
  interfaces := #[]
  cf := some (fileOf pool0 8 #[] #[{ accessFlags := 1, nameIndex := 5, descriptorIndex := 6, attributes := #[] }] 33 0 #[] #[])
  fields := #[]
  methods := #[k0m0]
  instanceTypes := #[]
  staticTypes := #[]
  resolved := Array.replicate 124 none
  statics := none }

def pool1 : Array CpInfo := pool [(2, .class_ 4), (1, u "java/lang/Object"), (0, u "<init>"), (0, u "()V"), (0, .integer 2147483647), (0, .integer 65535), (0, .class_ 10), (0, u "java/lang/String"), (0, .methodref 9 12), (0, .nameAndType 5 13), (0, u "([C)V"), (0, .long 576), (1, .long 2), (1, .methodref 19 20), (0, .class_ 21), (0, .nameAndType 22 23), (0, u "com/example/lob/lob/broker/HeldBytes"), (0, u "ofKeptSession"), (0, u "(Ljava/lang/String;)J"), (0, .class_ 25), (0, u "com/example/lob/lob/broker/HeldBytesOfKeptSessionPinLaw"), (2, u "law"), (0, u "(IIIII)Z")] 3

def k1m0 : Method := { name := "<init>", desc := "()V", sig := { parameters := [], returnType := none }, accessFlags := 2, code := none }
def k1c1 : Code := { maxStack := 6, maxLocals := 13, code := code, exceptionTable := #[], attributes := #[] }
def k1m1 : Method := { name := "law", desc := "(IIIII)Z", sig := { parameters := [.int, .int, .int, .int, .int], returnType := some .boolean }, accessFlags := 9, code := some k1c1 }
/-- com/example/lob/lob/broker/HeldBytesOfKeptSessionPinLaw -/
def k1 : Class := { plain "com/example/lob/lob/broker/HeldBytesOfKeptSessionPinLaw" (some 0) with
  accessFlags := 49
  interfaces := #[]
  cf := some (fileOf pool1 24 #[] #[{ accessFlags := 2, nameIndex := 5, descriptorIndex := 6, attributes := #[] }, { accessFlags := 9, nameIndex := 28, descriptorIndex := 29, attributes := #[] }] 49 2 #[] #[])
  fields := #[]
  methods := #[k1m0, k1m1]
  instanceTypes := #[]
  staticTypes := #[]
  resolved := Array.replicate 33 none
  statics := none }

def pool2 : Array CpInfo := pool [(1, .class_ 2), (0, u "java/io/Serializable"), (0, .class_ 4), (0, u "java/lang/Object")] 2

/-- java/io/Serializable -/
def k2 : Class := { plain "java/io/Serializable" (some 0) with
  accessFlags := 1537
  interfaces := #[]
  cf := some (fileOf pool2 1 #[] #[] 1537 3 #[] #[])
  fields := #[]
  methods := #[]
  instanceTypes := #[]
  staticTypes := #[]
  resolved := Array.replicate 7 none
  statics := none }

def pool3 : Array CpInfo := pool [(1, .class_ 2), (0, u "java/lang/Comparable"), (0, .class_ 4), (0, u "java/lang/Object")] 7

/-- java/lang/Comparable -/
def k3 : Class := { plain "java/lang/Comparable" (some 0) with
  accessFlags := 1537
  interfaces := #[]
  cf := some (fileOf pool3 1 #[] #[] 1537 3 #[] #[])
  fields := #[]
  methods := #[]
  instanceTypes := #[]
  staticTypes := #[]
  resolved := Array.replicate 12 none
  statics := none }

def pool4 : Array CpInfo := pool [(2, .class_ 4), (1, u "java/lang/CharSequence"), (42, .class_ 48), (0, u "java/lang/CharSequence$1CodePointIterator"), (10, .class_ 60), (0, u "java/lang/CharSequence$1CharIterator"), (5, .class_ 67), (0, u "java/lang/Object")] 63

/-- java/lang/CharSequence -/
def k4 : Class := { plain "java/lang/CharSequence" (some 0) with
  accessFlags := 1537
  interfaces := #[]
  cf := some (fileOf pool4 2 #[.nestMembers #[47, 59]] #[] 1537 66 #[] #[])
  fields := #[]
  methods := #[]
  instanceTypes := #[]
  staticTypes := #[]
  resolved := Array.replicate 131 none
  statics := none }

def pool5 : Array CpInfo := pool [(1, .class_ 2), (0, u "java/lang/constant/Constable"), (0, .class_ 4), (0, u "java/lang/Object")] 6

/-- java/lang/constant/Constable -/
def k5 : Class := { plain "java/lang/constant/Constable" (some 0) with
  accessFlags := 1537
  interfaces := #[]
  cf := some (fileOf pool5 1 #[] #[] 1537 3 #[] #[])
  fields := #[]
  methods := #[]
  instanceTypes := #[]
  staticTypes := #[]
  resolved := Array.replicate 11 none
  statics := none }

def pool6 : Array CpInfo := pool [(1, .class_ 2), (0, u "java/lang/constant/ConstantDesc"), (0, .class_ 4), (0, u "java/lang/Object")] 32

/-- java/lang/constant/ConstantDesc -/
def k6 : Class := { plain "java/lang/constant/ConstantDesc" (some 0) with
  accessFlags := 1537
  interfaces := #[]
  cf := some (fileOf pool6 1 #[] #[] 1537 3 #[] #[])
  fields := #[]
  methods := #[]
  instanceTypes := #[]
  staticTypes := #[]
  resolved := Array.replicate 37 none
  statics := none }

def pool7 : Array CpInfo := pool [(1, .methodref 2 3), (0, .class_ 4), (0, .nameAndType 5 6), (0, u "java/lang/Object"), (0, u "<init>"), (0, u "()V"), (0, .string 8), (0, u ""), (0, .fieldref 10 11), (0, .class_ 12), (0, .nameAndType 13 14), (0, u "java/lang/String"), (0, u "value"), (0, u "[B"), (0, .fieldref 10 16), (0, .nameAndType 17 18), (0, u "coder"), (0, u "B"), (2, u "hash"), (0, u "I"), (2, u "hashIsZero"), (0, u "Z"), (0, .methodref 10 28), (0, .nameAndType 5 29), (0, u "([CIILjava/lang/Void;)V"), (8, .fieldref 10 39), (0, .nameAndType 40 26), (0, u "COMPACT_STRINGS"), (1, .class_ 44), (1, u "java/lang/StringUTF16"), (0, u "compress"), (1, .methodref 42 48), (0, .nameAndType 49 50), (0, u "coderFromArrayLen"), (0, u "([BI)B"), (126, .methodref 42 178), (0, .nameAndType 45 179), (0, u "([CII)[B"), (154, u "()I"), (0, .methodref 10 336), (0, .nameAndType 17 337), (0, u "()B"), (169, u "length"), (67, .class_ 576), (0, u "java/lang/CharSequence"), (22, u "CASE_INSENSITIVE_ORDER"), (0, u "Ljava/util/Comparator;"), (409, u "([C)V"), (90, u "serialPersistentFields"), (0, u "[Ljava/io/ObjectStreamField;"), (0, .class_ 1104), (0, u "java/lang/String$CaseInsensitiveComparator"), (1, .class_ 1107), (0, u "java/io/Serializable"), (0, .class_ 1109), (0, u "java/lang/Comparable"), (0, .class_ 1111), (0, u "java/lang/constant/Constable"), (0, .class_ 1113), (0, u "java/lang/constant/ConstantDesc"), (2, u "serialVersionUID"), (0, u "J"), (3, u "REPL"), (0, u "C"), (2, u "LATIN1"), (1, u "UTF16")] 323

def k7m0 : Method := { name := "<init>", desc := "()V", sig := { parameters := [], returnType := none }, accessFlags := 1, code := none }
def k7c1 : Code := { maxStack := 5, maxLocals := 2, code := jdk_42_method_3_code, exceptionTable := #[], attributes := #[] }
def k7m1 : Method := { name := "<init>", desc := "([C)V", sig := { parameters := [(.array .char)], returnType := none }, accessFlags := 1, code := some k7c1 }
def k7c2 : Code := { maxStack := 2, maxLocals := 1, code := jdk_42_method_54_code, exceptionTable := #[], attributes := #[] }
def k7m2 : Method := { name := "length", desc := "()I", sig := { parameters := [], returnType := some .int }, accessFlags := 1, code := some k7c2 }
def k7c3 : Code := { maxStack := 4, maxLocals := 6, code := jdk_42_method_149_code, exceptionTable := #[], attributes := #[] }
def k7m3 : Method := { name := "<init>", desc := "([CIILjava/lang/Void;)V", sig := { parameters := [(.array .char), .int, .int, (.object "java/lang/Void")], returnType := none }, accessFlags := 2, code := some k7c3 }
def k7c4 : Code := { maxStack := 1, maxLocals := 1, code := jdk_42_method_152_code, exceptionTable := #[], attributes := #[] }
def k7m4 : Method := { name := "coder", desc := "()B", sig := { parameters := [], returnType := some .byte }, accessFlags := 0, code := some k7c4 }
/-- java/lang/String -/
def k7 : Class := { plain "java/lang/String" (some 0) with
  accessFlags := 49
  interfaces := #[2, 3, 4, 5, 6]
  cf := some (fileOf pool7 10 #[.nestMembers #[1103]] #[{ accessFlags := 1, nameIndex := 5, descriptorIndex := 6, attributes := #[] }, { accessFlags := 1, nameIndex := 5, descriptorIndex := 1010, attributes := #[] }, { accessFlags := 1, nameIndex := 507, descriptorIndex := 334, attributes := #[] }, { accessFlags := 2, nameIndex := 5, descriptorIndex := 29, attributes := #[] }, { accessFlags := 0, nameIndex := 17, descriptorIndex := 337, attributes := #[] }] 49 2 #[1106, 1108, 575, 1110, 1112] #[{ accessFlags := 18, nameIndex := 13, descriptorIndex := 14, attributes := #[] }, { accessFlags := 18, nameIndex := 17, descriptorIndex := 18, attributes := #[] }, { accessFlags := 2, nameIndex := 21, descriptorIndex := 22, attributes := #[] }, { accessFlags := 2, nameIndex := 25, descriptorIndex := 26, attributes := #[] }, { accessFlags := 26, nameIndex := 1116, descriptorIndex := 1117, attributes := #[] }, { accessFlags := 24, nameIndex := 40, descriptorIndex := 26, attributes := #[] }, { accessFlags := 26, nameIndex := 1101, descriptorIndex := 1102, attributes := #[] }, { accessFlags := 26, nameIndex := 1121, descriptorIndex := 1122, attributes := #[] }, { accessFlags := 25, nameIndex := 599, descriptorIndex := 600, attributes := #[] }, { accessFlags := 24, nameIndex := 1125, descriptorIndex := 18, attributes := #[] }, { accessFlags := 24, nameIndex := 1127, descriptorIndex := 18, attributes := #[] }])
  fields := #[{ name := "value", type := (.array .byte), accessFlags := 18, slot := 0, constantValue := 0 }, { name := "coder", type := .byte, accessFlags := 18, slot := 1, constantValue := 0 }, { name := "hash", type := .int, accessFlags := 2, slot := 2, constantValue := 0 }, { name := "hashIsZero", type := .boolean, accessFlags := 2, slot := 3, constantValue := 0 }, { name := "serialVersionUID", type := .long, accessFlags := 26, slot := 0, constantValue := 0 }, { name := "COMPACT_STRINGS", type := .boolean, accessFlags := 24, slot := 1, constantValue := 0 }, { name := "serialPersistentFields", type := (.array (.object "java/io/ObjectStreamField")), accessFlags := 26, slot := 2, constantValue := 0 }, { name := "REPL", type := .char, accessFlags := 26, slot := 3, constantValue := 0 }, { name := "CASE_INSENSITIVE_ORDER", type := (.object "java/util/Comparator"), accessFlags := 25, slot := 4, constantValue := 0 }, { name := "LATIN1", type := .byte, accessFlags := 24, slot := 5, constantValue := 0 }, { name := "UTF16", type := .byte, accessFlags := 24, slot := 6, constantValue := 0 }]
  methods := #[k7m0, k7m1, k7m2, k7m3, k7m4]
  instanceTypes := #[(.array .byte), .byte, .int, .boolean]
  staticTypes := #[.long, .boolean, (.array (.object "java/io/ObjectStreamField")), .char, (.object "java/util/Comparator"), .byte, .byte]
  resolved := Array.replicate 1451 none
  statics := some 0 }

def pool8 : Array CpInfo := pool [(2, .class_ 4), (1, u "java/lang/Object"), (0, u "<init>"), (0, u "()V"), (4, .long 2), (7, .methodref 20 21), (0, .class_ 22), (0, .nameAndType 23 24), (0, u "java/lang/String"), (0, u "length"), (0, u "()I"), (4, .long 576), (3, .class_ 34), (0, u "com/example/lob/lob/broker/HeldBytes"), (4, u "ofKeptSession"), (0, u "(Ljava/lang/String;)J")] 3

def k8m0 : Method := { name := "<init>", desc := "()V", sig := { parameters := [], returnType := none }, accessFlags := 2, code := none }
def k8c1 : Code := { maxStack := 6, maxLocals := 1, code := prog_5_method_3_code, exceptionTable := #[], attributes := #[] }
def k8m1 : Method := { name := "ofKeptSession", desc := "(Ljava/lang/String;)J", sig := { parameters := [(.object "java/lang/String")], returnType := some .long }, accessFlags := 8, code := some k8c1 }
/-- com/example/lob/lob/broker/HeldBytes -/
def k8 : Class := { plain "com/example/lob/lob/broker/HeldBytes" (some 0) with
  accessFlags := 32
  interfaces := #[]
  cf := some (fileOf pool8 33 #[] #[{ accessFlags := 2, nameIndex := 5, descriptorIndex := 6, attributes := #[] }, { accessFlags := 8, nameIndex := 39, descriptorIndex := 40, attributes := #[] }] 32 2 #[] #[])
  fields := #[]
  methods := #[k8m0, k8m1]
  instanceTypes := #[]
  staticTypes := #[]
  resolved := Array.replicate 44 none
  statics := none }

def pool9 : Array CpInfo := pool [(6, .class_ 8), (1, u "java/lang/Object"), (0, u "<init>"), (0, u "()V"), (0, .methodref 12 13), (0, .class_ 14), (0, .nameAndType 15 16), (0, u "java/lang/StringUTF16"), (0, u "newBytesLength"), (0, u "(I)I"), (3, .integer 1073741823), (23, .fieldref 12 45), (0, .nameAndType 46 47), (0, u "$assertionsDisabled"), (0, u "Z"), (11, .fieldref 12 60), (0, .nameAndType 61 62), (0, u "HI_BYTE_SHIFT"), (0, u "I"), (0, .fieldref 12 64), (0, .nameAndType 65 62), (0, u "LO_BYTE_SHIFT"), (5, .methodref 12 72), (0, .nameAndType 73 74), (0, u "getChar"), (0, u "([BI)C"), (32, .methodref 12 108), (0, .nameAndType 109 110), (0, u "newBytesFor"), (0, u "(I)[B"), (0, .methodref 12 112), (0, .nameAndType 113 114), (0, u "putChar"), (0, u "([BII)V"), (0, .methodref 12 116), (0, .nameAndType 117 118), (0, u "compress"), (0, u "([CI[BII)I"), (0, .methodref 12 120), (0, .nameAndType 121 122), (0, u "toBytes"), (0, u "([CII)[B"), (138, u "coderFromArrayLen"), (0, u "([BI)B"), (106, .class_ 371), (1, u "java/lang/StringUTF16$LinesSpliterator"), (58, u "MAX_LENGTH"), (196, .class_ 628), (0, u "java/lang/StringUTF16$CodePointsSpliterator"), (0, .class_ 630), (0, u "java/lang/StringUTF16$CharsSpliterator")] 4

def k9m0 : Method := { name := "<init>", desc := "()V", sig := { parameters := [], returnType := none }, accessFlags := 0, code := none }
def k9c1 : Code := { maxStack := 1, maxLocals := 1, code := jdk_52_method_2_code, exceptionTable := #[], attributes := #[] }
def k9m1 : Method := { name := "newBytesFor", desc := "(I)[B", sig := { parameters := [.int], returnType := some (.array .byte) }, accessFlags := 9, code := some k9c1 }
def k9c2 : Code := { maxStack := 4, maxLocals := 1, code := jdk_52_method_3_code, exceptionTable := #[], attributes := #[] }
def k9m2 : Method := { name := "newBytesLength", desc := "(I)I", sig := { parameters := [.int], returnType := some .int }, accessFlags := 9, code := some k9c2 }
def k9c3 : Code := { maxStack := 4, maxLocals := 3, code := jdk_52_method_4_code, exceptionTable := #[], attributes := #[] }
def k9m3 : Method := { name := "putChar", desc := "([BII)V", sig := { parameters := [(.array .byte), .int, .int], returnType := none }, accessFlags := 8, code := some k9c3 }
def k9c4 : Code := { maxStack := 3, maxLocals := 2, code := jdk_52_method_5_code, exceptionTable := #[], attributes := #[] }
def k9m4 : Method := { name := "getChar", desc := "([BI)C", sig := { parameters := [(.array .byte), .int], returnType := some .char }, accessFlags := 8, code := some k9c4 }
def k9c5 : Code := { maxStack := 4, maxLocals := 5, code := jdk_52_method_14_code, exceptionTable := #[], attributes := #[] }
def k9m5 : Method := { name := "toBytes", desc := "([CII)[B", sig := { parameters := [(.array .char), .int, .int], returnType := some (.array .byte) }, accessFlags := 9, code := some k9c5 }
def k9c6 : Code := { maxStack := 2, maxLocals := 2, code := jdk_52_method_15_code, exceptionTable := #[], attributes := #[] }
def k9m6 : Method := { name := "coderFromArrayLen", desc := "([BI)B", sig := { parameters := [(.array .byte), .int], returnType := some .byte }, accessFlags := 8, code := some k9c6 }
def k9c7 : Code := { maxStack := 5, maxLocals := 6, code := jdk_52_method_16_code, exceptionTable := #[], attributes := #[] }
def k9m7 : Method := { name := "compress", desc := "([CII)[B", sig := { parameters := [(.array .char), .int, .int], returnType := some (.array .byte) }, accessFlags := 9, code := some k9c7 }
def k9c8 : Code := { maxStack := 3, maxLocals := 7, code := jdk_52_method_21_code, exceptionTable := #[], attributes := #[] }
def k9m8 : Method := { name := "compress", desc := "([CI[BII)I", sig := { parameters := [(.array .char), .int, (.array .byte), .int, .int], returnType := some .int }, accessFlags := 9, code := some k9c8 }
/-- java/lang/StringUTF16 -/
def k9 : Class := { plain "java/lang/StringUTF16" (some 0) with
  accessFlags := 48
  interfaces := #[]
  cf := some (fileOf pool9 12 #[.nestMembers #[627, 629, 369]] #[{ accessFlags := 0, nameIndex := 9, descriptorIndex := 10, attributes := #[] }, { accessFlags := 9, nameIndex := 109, descriptorIndex := 110, attributes := #[] }, { accessFlags := 9, nameIndex := 15, descriptorIndex := 16, attributes := #[] }, { accessFlags := 8, nameIndex := 113, descriptorIndex := 114, attributes := #[] }, { accessFlags := 8, nameIndex := 73, descriptorIndex := 74, attributes := #[] }, { accessFlags := 9, nameIndex := 121, descriptorIndex := 122, attributes := #[] }, { accessFlags := 8, nameIndex := 261, descriptorIndex := 262, attributes := #[] }, { accessFlags := 9, nameIndex := 117, descriptorIndex := 122, attributes := #[] }, { accessFlags := 9, nameIndex := 117, descriptorIndex := 118, attributes := #[] }] 48 6 #[] #[{ accessFlags := 26, nameIndex := 61, descriptorIndex := 62, attributes := #[] }, { accessFlags := 26, nameIndex := 65, descriptorIndex := 62, attributes := #[] }, { accessFlags := 24, nameIndex := 430, descriptorIndex := 62, attributes := #[] }, { accessFlags := 4120, nameIndex := 46, descriptorIndex := 47, attributes := #[] }])
  fields := #[{ name := "HI_BYTE_SHIFT", type := .int, accessFlags := 26, slot := 0, constantValue := 0 }, { name := "LO_BYTE_SHIFT", type := .int, accessFlags := 26, slot := 1, constantValue := 0 }, { name := "MAX_LENGTH", type := .int, accessFlags := 24, slot := 2, constantValue := 0 }, { name := "$assertionsDisabled", type := .boolean, accessFlags := 4120, slot := 3, constantValue := 0 }]
  methods := #[k9m0, k9m1, k9m2, k9m3, k9m4, k9m5, k9m6, k9m7, k9m8]
  instanceTypes := #[]
  staticTypes := #[.int, .int, .int, .boolean]
  resolved := Array.replicate 635 none
  statics := some 1 }

def pool10 : Array CpInfo := pool [(4, .class_ 6), (1, u "java/lang/Object"), (0, u "<init>"), (0, u "()V"), (5, .class_ 16), (1, u "java/lang/StringLatin1"), (104, u "$assertionsDisabled"), (0, u "Z"), (98, .class_ 223), (1, u "java/lang/StringLatin1$LinesSpliterator"), (166, .class_ 391), (0, u "java/lang/StringLatin1$CharsSpliterator")] 3

def k10m0 : Method := { name := "<init>", desc := "()V", sig := { parameters := [], returnType := none }, accessFlags := 0, code := none }
/-- java/lang/StringLatin1 -/
def k10 : Class := { plain "java/lang/StringLatin1" (some 0) with
  accessFlags := 48
  interfaces := #[]
  cf := some (fileOf pool10 14 #[.nestMembers #[390, 221]] #[{ accessFlags := 0, nameIndex := 7, descriptorIndex := 8, attributes := #[] }] 48 4 #[] #[{ accessFlags := 4120, nameIndex := 121, descriptorIndex := 122, attributes := #[] }])
  fields := #[{ name := "$assertionsDisabled", type := .boolean, accessFlags := 4120, slot := 0, constantValue := 0 }]
  methods := #[k10m0]
  instanceTypes := #[]
  staticTypes := #[.boolean]
  resolved := Array.replicate 395 none
  statics := none }

def pool11 : Array CpInfo := pool [(2, .class_ 4), (1, u "java/lang/Object"), (0, u "<init>"), (0, u "()V"), (17, .class_ 26), (1, u "jdk/internal/util/Preconditions"), (28, .class_ 56), (0, u "jdk/internal/util/Preconditions$4"), (57, .class_ 115), (0, u "jdk/internal/util/Preconditions$1"), (7, u "SIOOBE_FORMATTER"), (0, u "Ljava/util/function/BiFunction;"), (0, .class_ 126), (0, u "jdk/internal/util/Preconditions$2"), (3, u "AIOOBE_FORMATTER"), (0, .class_ 132), (0, u "jdk/internal/util/Preconditions$3"), (3, u "IOOBE_FORMATTER")] 57

def k11m0 : Method := { name := "<init>", desc := "()V", sig := { parameters := [], returnType := none }, accessFlags := 1, code := none }
/-- jdk/internal/util/Preconditions -/
def k11 : Class := { plain "jdk/internal/util/Preconditions" (some 0) with
  accessFlags := 33
  interfaces := #[]
  cf := some (fileOf pool11 24 #[.nestMembers #[55, 131, 125, 114]] #[{ accessFlags := 1, nameIndex := 5, descriptorIndex := 6, attributes := #[] }] 33 2 #[] #[{ accessFlags := 25, nameIndex := 123, descriptorIndex := 124, attributes := #[] }, { accessFlags := 25, nameIndex := 130, descriptorIndex := 124, attributes := #[] }, { accessFlags := 25, nameIndex := 136, descriptorIndex := 124, attributes := #[] }])
  fields := #[{ name := "SIOOBE_FORMATTER", type := (.object "java/util/function/BiFunction"), accessFlags := 25, slot := 0, constantValue := 0 }, { name := "AIOOBE_FORMATTER", type := (.object "java/util/function/BiFunction"), accessFlags := 25, slot := 1, constantValue := 0 }, { name := "IOOBE_FORMATTER", type := (.object "java/util/function/BiFunction"), accessFlags := 25, slot := 2, constantValue := 0 }]
  methods := #[k11m0]
  instanceTypes := #[]
  staticTypes := #[(.object "java/util/function/BiFunction"), (.object "java/util/function/BiFunction"), (.object "java/util/function/BiFunction")]
  resolved := Array.replicate 194 none
  statics := some 2 }

def pool12 : Array CpInfo := pool [(9, u "<init>"), (6, .class_ 18), (1, u "java/lang/Object"), (0, u "()V"), (1, .class_ 23), (1, u "jdk/internal/util/ArraysSupport"), (0, u "LOG2_ARRAY_LONG_INDEX_SCALE"), (0, u "I"), (2, u "U"), (0, u "Ljdk/internal/misc/Unsafe;"), (8, u "BIG_ENDIAN"), (0, u "Z"), (8, u "LOG2_BYTE_BIT_SIZE"), (4, u "LOG2_ARRAY_INT_INDEX_SCALE"), (54, u "JLA"), (0, u "Ljdk/internal/access/JavaLangAccess;"), (11, u "LOG2_ARRAY_BOOLEAN_INDEX_SCALE"), (9, u "LOG2_ARRAY_BYTE_INDEX_SCALE"), (5, u "LOG2_ARRAY_CHAR_INDEX_SCALE"), (5, u "LOG2_ARRAY_SHORT_INDEX_SCALE"), (18, u "LOG2_ARRAY_FLOAT_INDEX_SCALE"), (24, u "LOG2_ARRAY_DOUBLE_INDEX_SCALE"), (89, u "T_BOOLEAN"), (2, u "T_CHAR"), (1, u "T_FLOAT"), (1, u "T_DOUBLE"), (1, u "T_BYTE"), (1, u "T_SHORT"), (1, u "T_INT"), (1, u "T_LONG"), (1, u "SOFT_MAX_ARRAY_LENGTH")] 83

def k12m0 : Method := { name := "<init>", desc := "()V", sig := { parameters := [], returnType := none }, accessFlags := 2, code := none }
/-- jdk/internal/util/ArraysSupport -/
def k12 : Class := { plain "jdk/internal/util/ArraysSupport" (some 0) with
  accessFlags := 33
  interfaces := #[]
  cf := some (fileOf pool12 21 #[] #[{ accessFlags := 2, nameIndex := 9, descriptorIndex := 19, attributes := #[] }] 33 16 #[] #[{ accessFlags := 24, nameIndex := 28, descriptorIndex := 29, attributes := #[] }, { accessFlags := 26, nameIndex := 38, descriptorIndex := 39, attributes := #[] }, { accessFlags := 25, nameIndex := 121, descriptorIndex := 25, attributes := #[] }, { accessFlags := 25, nameIndex := 131, descriptorIndex := 25, attributes := #[] }, { accessFlags := 25, nameIndex := 137, descriptorIndex := 25, attributes := #[] }, { accessFlags := 25, nameIndex := 143, descriptorIndex := 25, attributes := #[] }, { accessFlags := 25, nameIndex := 53, descriptorIndex := 25, attributes := #[] }, { accessFlags := 25, nameIndex := 24, descriptorIndex := 25, attributes := #[] }, { accessFlags := 25, nameIndex := 162, descriptorIndex := 25, attributes := #[] }, { accessFlags := 25, nameIndex := 187, descriptorIndex := 25, attributes := #[] }, { accessFlags := 26, nameIndex := 48, descriptorIndex := 25, attributes := #[] }, { accessFlags := 25, nameIndex := 277, descriptorIndex := 25, attributes := #[] }, { accessFlags := 25, nameIndex := 280, descriptorIndex := 25, attributes := #[] }, { accessFlags := 25, nameIndex := 282, descriptorIndex := 25, attributes := #[] }, { accessFlags := 25, nameIndex := 284, descriptorIndex := 25, attributes := #[] }, { accessFlags := 25, nameIndex := 286, descriptorIndex := 25, attributes := #[] }, { accessFlags := 25, nameIndex := 288, descriptorIndex := 25, attributes := #[] }, { accessFlags := 25, nameIndex := 290, descriptorIndex := 25, attributes := #[] }, { accessFlags := 25, nameIndex := 292, descriptorIndex := 25, attributes := #[] }, { accessFlags := 26, nameIndex := 108, descriptorIndex := 109, attributes := #[] }, { accessFlags := 25, nameIndex := 294, descriptorIndex := 25, attributes := #[] }])
  fields := #[{ name := "U", type := (.object "jdk/internal/misc/Unsafe"), accessFlags := 24, slot := 0, constantValue := 0 }, { name := "BIG_ENDIAN", type := .boolean, accessFlags := 26, slot := 1, constantValue := 0 }, { name := "LOG2_ARRAY_BOOLEAN_INDEX_SCALE", type := .int, accessFlags := 25, slot := 2, constantValue := 0 }, { name := "LOG2_ARRAY_BYTE_INDEX_SCALE", type := .int, accessFlags := 25, slot := 3, constantValue := 0 }, { name := "LOG2_ARRAY_CHAR_INDEX_SCALE", type := .int, accessFlags := 25, slot := 4, constantValue := 0 }, { name := "LOG2_ARRAY_SHORT_INDEX_SCALE", type := .int, accessFlags := 25, slot := 5, constantValue := 0 }, { name := "LOG2_ARRAY_INT_INDEX_SCALE", type := .int, accessFlags := 25, slot := 6, constantValue := 0 }, { name := "LOG2_ARRAY_LONG_INDEX_SCALE", type := .int, accessFlags := 25, slot := 7, constantValue := 0 }, { name := "LOG2_ARRAY_FLOAT_INDEX_SCALE", type := .int, accessFlags := 25, slot := 8, constantValue := 0 }, { name := "LOG2_ARRAY_DOUBLE_INDEX_SCALE", type := .int, accessFlags := 25, slot := 9, constantValue := 0 }, { name := "LOG2_BYTE_BIT_SIZE", type := .int, accessFlags := 26, slot := 10, constantValue := 0 }, { name := "T_BOOLEAN", type := .int, accessFlags := 25, slot := 11, constantValue := 0 }, { name := "T_CHAR", type := .int, accessFlags := 25, slot := 12, constantValue := 0 }, { name := "T_FLOAT", type := .int, accessFlags := 25, slot := 13, constantValue := 0 }, { name := "T_DOUBLE", type := .int, accessFlags := 25, slot := 14, constantValue := 0 }, { name := "T_BYTE", type := .int, accessFlags := 25, slot := 15, constantValue := 0 }, { name := "T_SHORT", type := .int, accessFlags := 25, slot := 16, constantValue := 0 }, { name := "T_INT", type := .int, accessFlags := 25, slot := 17, constantValue := 0 }, { name := "T_LONG", type := .int, accessFlags := 25, slot := 18, constantValue := 0 }, { name := "JLA", type := (.object "jdk/internal/access/JavaLangAccess"), accessFlags := 26, slot := 19, constantValue := 0 }, { name := "SOFT_MAX_ARRAY_LENGTH", type := .int, accessFlags := 25, slot := 20, constantValue := 0 }]
  methods := #[k12m0]
  instanceTypes := #[]
  staticTypes := #[(.object "jdk/internal/misc/Unsafe"), .boolean, .int, .int, .int, .int, .int, .int, .int, .int, .int, .int, .int, .int, .int, .int, .int, .int, .int, (.object "jdk/internal/access/JavaLangAccess"), .int]
  resolved := Array.replicate 378 none
  statics := none }

def pool13 : Array CpInfo := pool [(1, u "java/lang/Cloneable"), (0, .class_ 1), (0, u "java/lang/Object"), (0, .class_ 3)] 3

/-- java/lang/Cloneable -/
def k13 : Class := { plain "java/lang/Cloneable" (some 0) with
  accessFlags := 1537
  interfaces := #[]
  cf := some (fileOf pool13 2 #[] #[] 1537 4 #[] #[])
  fields := #[]
  methods := #[]
  instanceTypes := #[]
  staticTypes := #[]
  resolved := Array.replicate 8 none
  statics := none }

/-- the primitive byte -/
def k14 : Class := { plain "byte" none with kind := .primitive 'B', accessFlags := 0x411 }
/-- [B -/
def k15 : Class := { plain "[B" (some 0) with kind := .array 14 .byte, interfaces := #[13, 2], accessFlags := 1041 }

/-- the primitive char -/
def k16 : Class := { plain "char" none with kind := .primitive 'C', accessFlags := 0x411 }
/-- [C -/
def k17 : Class := { plain "[C" (some 0) with kind := .array 16 .char, interfaces := #[13, 2], accessFlags := 1041 }

/-- the primitive int -/
def k18 : Class := { plain "int" none with kind := .primitive 'I', accessFlags := 0x411 }
/-- [I -/
def k19 : Class := { plain "[I" (some 0) with kind := .array 18 .int, interfaces := #[13, 2], accessFlags := 1041 }

def heap : Heap := #[{ cls := 7, slots := #[.long 0, .int 1, .null, .int 0, .null, .int 0, .int 0], vm := .statics 7 },
  { cls := 9, slots := #[.int 0, .int 8, .int 0, .int 1], vm := .statics 9 },
  { cls := 11, slots := #[.null, .null, .null], vm := .statics 11 }]
def classes : Array Class := #[k0, k1, k2, k3, k4, k5, k6, k7, k8, k9, k10, k11, k12, k13, k14, k15, k16, k17, k18, k19]
def interned : List (Array UInt16 × Addr) := []
def slotsUsed : Nat := 14
def theMethod : MethodId := ⟨1, 1⟩
def args0 : Array Value := #[.int 1, .int 2, .int 3, .int 4, .int 5]
def aboutOver (below : List Frame) : State where
  vm := { classes := classes, interned := interned.toArray }
  heap := heap
  slotsUsed := slotsUsed
  threads := #[{ frames := .invoking theMethod args0 :: below }]
def below0 : List Frame := [.native { method := ⟨0, 0⟩, args := #[] }]
def about1 : State := aboutOver below0
def p0 : Program := .bare "" "" ""
def e0 : Env := launch0.env 0 0 0
theorem w_frames : about1.frames = Frame.invoking theMethod args0 :: below0 := rfl
set_option maxRecDepth 65536 in
theorem w_args : argsFit about1.vm theMethod args0 = true := by decide +kernel
set_option maxRecDepth 65536 in
theorem w_heap : heapFits about1 = true := by decide +kernel
set_option maxRecDepth 65536 in
theorem w_runnable : about1.curStatus? = some .runnable := by decide +kernel
set_option maxRecDepth 65536 in
theorem w_alone : about1.alone = true := by decide +kernel
set_option maxRecDepth 65536 in
theorem w_named : about1.methodNamed? x = some theMethod := by decide +kernel
set_option maxRecDepth 65536 in
theorem w_hears : about1.hears theMethod below0 = true := by decide +kernel
set_option maxRecDepth 65536 in
theorem w_ripe : about1.ripe theMethod args0 below0 = true := by decide +kernel
theorem w_running : about1.status = .running := rfl
set_option maxRecDepth 65536 in
theorem w_room : about1.hasRoom e0.platform room_1 = true :=
  launch0.hasRoom_least _ room_1 (by decide +kernel) (by decide +kernel) (by decide +kernel) (by decide +kernel) (by decide +kernel) (by decide +kernel)
theorem allAtoms_all (ts : List Jvm.Cond) (a : Array Jvm.Value) (st : Jvm.State) : (allAtoms ts).before a st = ts.all (fun c => c.before a st) := by
  induction ts with
  | nil => rfl
  | cons c t ih =>
    show (Jvm.Cond.and c (allAtoms t)).before a st = _
    rw [Jvm.Cond.before_and, ih, List.all_cons]
def words1 : List Jvm.Cond := Jvm.Cond.code x code maxLocals ret :: tables_1
/-- a 'code' word, met by the world's own term for the bytes: nothing is compared byte by byte -/
theorem code_word {y : MethodName} {bytes : ByteArray} {mx : Nat} {rt : Option FieldType} {a : Array Value} {s : State} {m : MethodId} {meth : Method} {c : Code} (h1 : s.methodNamed? y = some m) (h2 : s.vm.method? m = some meth) (h3 : meth.code = some c) (h4 : c.code = bytes)
    (h5 : (c.maxLocals == mx && c.exceptionTable.isEmpty && decide (c.maxStack ≤ mostOperands) && decide (meth.sig.returnType = rt) && !meth.locks && decide (parseMethodDescriptor y.desc = some meth.sig)) = true) : (Jvm.Cond.code y bytes mx rt).before a s = true := by
  simp only [Bool.and_eq_true, beq_iff_eq, Bool.not_eq_true', decide_eq_true_eq] at h5
  obtain ⟨⟨⟨⟨⟨g1, g2⟩, g3⟩, g4⟩, g5⟩, g6⟩ := h5
  simp [Cond.before, Cond.holds, Cond.value, h1, h2, h3, h4, g1, g2, g3, g4, g5, g6]
def isCode : Jvm.Cond → Bool
  | .code _ _ _ _ => true
  | _ => false
theorem all_split {L : List Jvm.Cond} {P : Jvm.Cond → Bool} (h1 : L.all (fun c => isCode c || P c) = true) (h2 : ∀ c ∈ L.filter isCode, P c = true) : L.all P = true := by
  refine List.all_eq_true.mpr fun c hc => ?_
  have h := List.all_eq_true.mp h1 c hc
  rcases Bool.eq_false_or_eq_true (isCode c) with hi | hi
  · exact h2 c (List.mem_filter.mpr ⟨hc, hi⟩)
  · simpa [hi] using h
set_option maxRecDepth 65536 in
theorem w_c0 : (Jvm.Cond.code x code maxLocals ret).before args0 about1 = true := code_word (m := ⟨1, 1⟩) (meth := k1m1) (c := k1c1) (by decide +kernel) rfl rfl rfl (by decide +kernel)
set_option maxRecDepth 65536 in
theorem w_c1 : (Jvm.Cond.code ({ cls := "java/lang/String", name := "<init>", desc := "([C)V" } : Jvm.MethodName) jdk_42_method_3_code (2 : Nat) (Option.none : Option Jvm.ClassFile.FieldType)).before args0 about1 = true := code_word (m := ⟨7, 1⟩) (meth := k7m1) (c := k7c1) (by decide +kernel) rfl rfl rfl (by decide +kernel)
set_option maxRecDepth 65536 in
theorem w_c2 : (Jvm.Cond.code ({ cls := "java/lang/String", name := "<init>", desc := "([CIILjava/lang/Void;)V" } : Jvm.MethodName) jdk_42_method_149_code (6 : Nat) (Option.none : Option Jvm.ClassFile.FieldType)).before args0 about1 = true := code_word (m := ⟨7, 3⟩) (meth := k7m3) (c := k7c3) (by decide +kernel) rfl rfl rfl (by decide +kernel)
set_option maxRecDepth 65536 in
theorem w_c3 : (Jvm.Cond.code ({ cls := "java/lang/Object", name := "<init>", desc := "()V" } : Jvm.MethodName) object_method_1_code (1 : Nat) (Option.none : Option Jvm.ClassFile.FieldType)).before args0 about1 = true := code_word (m := ⟨0, 0⟩) (meth := k0m0) (c := k0c0) (by decide +kernel) rfl rfl rfl (by decide +kernel)
set_option maxRecDepth 65536 in
theorem w_c4 : (Jvm.Cond.code ({ cls := "com/example/lob/lob/broker/HeldBytes", name := "ofKeptSession", desc := "(Ljava/lang/String;)J" } : Jvm.MethodName) prog_5_method_3_code (1 : Nat) (Option.some Jvm.ClassFile.FieldType.long)).before args0 about1 = true := code_word (m := ⟨8, 1⟩) (meth := k8m1) (c := k8c1) (by decide +kernel) rfl rfl rfl (by decide +kernel)
set_option maxRecDepth 65536 in
theorem w_c5 : (Jvm.Cond.code ({ cls := "java/lang/String", name := "length", desc := "()I" } : Jvm.MethodName) jdk_42_method_54_code (1 : Nat) (Option.some Jvm.ClassFile.FieldType.int)).before args0 about1 = true := code_word (m := ⟨7, 2⟩) (meth := k7m2) (c := k7c2) (by decide +kernel) rfl rfl rfl (by decide +kernel)
set_option maxRecDepth 65536 in
theorem w_c6 : (Jvm.Cond.code ({ cls := "java/lang/String", name := "coder", desc := "()B" } : Jvm.MethodName) jdk_42_method_152_code (1 : Nat) (Option.some Jvm.ClassFile.FieldType.byte)).before args0 about1 = true := code_word (m := ⟨7, 4⟩) (meth := k7m4) (c := k7c4) (by decide +kernel) rfl rfl rfl (by decide +kernel)
set_option maxRecDepth 65536 in
theorem w_c7 : (Jvm.Cond.code ({ cls := "java/lang/StringUTF16", name := "compress", desc := "([CII)[B" } : Jvm.MethodName) jdk_52_method_16_code (6 : Nat) (Option.some (Jvm.ClassFile.FieldType.array Jvm.ClassFile.FieldType.byte))).before args0 about1 = true := code_word (m := ⟨9, 7⟩) (meth := k9m7) (c := k9c7) (by decide +kernel) rfl rfl rfl (by decide +kernel)
set_option maxRecDepth 65536 in
theorem w_c8 : (Jvm.Cond.code ({ cls := "java/lang/StringUTF16", name := "compress", desc := "([CI[BII)I" } : Jvm.MethodName) jdk_52_method_21_code (7 : Nat) (Option.some Jvm.ClassFile.FieldType.int)).before args0 about1 = true := code_word (m := ⟨9, 8⟩) (meth := k9m8) (c := k9c8) (by decide +kernel) rfl rfl rfl (by decide +kernel)
set_option maxRecDepth 65536 in
theorem w_c9 : (Jvm.Cond.code ({ cls := "java/lang/StringUTF16", name := "coderFromArrayLen", desc := "([BI)B" } : Jvm.MethodName) jdk_52_method_15_code (2 : Nat) (Option.some Jvm.ClassFile.FieldType.byte)).before args0 about1 = true := code_word (m := ⟨9, 6⟩) (meth := k9m6) (c := k9c6) (by decide +kernel) rfl rfl rfl (by decide +kernel)
set_option maxRecDepth 65536 in
theorem w_c10 : (Jvm.Cond.code ({ cls := "java/lang/StringUTF16", name := "toBytes", desc := "([CII)[B" } : Jvm.MethodName) jdk_52_method_14_code (5 : Nat) (Option.some (Jvm.ClassFile.FieldType.array Jvm.ClassFile.FieldType.byte))).before args0 about1 = true := code_word (m := ⟨9, 5⟩) (meth := k9m5) (c := k9c5) (by decide +kernel) rfl rfl rfl (by decide +kernel)
set_option maxRecDepth 65536 in
theorem w_c11 : (Jvm.Cond.code ({ cls := "java/lang/StringUTF16", name := "newBytesFor", desc := "(I)[B" } : Jvm.MethodName) jdk_52_method_2_code (1 : Nat) (Option.some (Jvm.ClassFile.FieldType.array Jvm.ClassFile.FieldType.byte))).before args0 about1 = true := code_word (m := ⟨9, 1⟩) (meth := k9m1) (c := k9c1) (by decide +kernel) rfl rfl rfl (by decide +kernel)
set_option maxRecDepth 65536 in
theorem w_c12 : (Jvm.Cond.code ({ cls := "java/lang/StringUTF16", name := "newBytesLength", desc := "(I)I" } : Jvm.MethodName) jdk_52_method_3_code (1 : Nat) (Option.some Jvm.ClassFile.FieldType.int)).before args0 about1 = true := code_word (m := ⟨9, 2⟩) (meth := k9m2) (c := k9c2) (by decide +kernel) rfl rfl rfl (by decide +kernel)
set_option maxRecDepth 65536 in
theorem w_c13 : (Jvm.Cond.code ({ cls := "java/lang/StringUTF16", name := "putChar", desc := "([BII)V" } : Jvm.MethodName) jdk_52_method_4_code (3 : Nat) (Option.none : Option Jvm.ClassFile.FieldType)).before args0 about1 = true := code_word (m := ⟨9, 3⟩) (meth := k9m3) (c := k9c3) (by decide +kernel) rfl rfl rfl (by decide +kernel)
set_option maxRecDepth 65536 in
theorem w_c14 : (Jvm.Cond.code ({ cls := "java/lang/StringUTF16", name := "getChar", desc := "([BI)C" } : Jvm.MethodName) jdk_52_method_5_code (2 : Nat) (Option.some Jvm.ClassFile.FieldType.char)).before args0 about1 = true := code_word (m := ⟨9, 4⟩) (meth := k9m4) (c := k9c4) (by decide +kernel) rfl rfl rfl (by decide +kernel)
def codes1 : List Jvm.Cond := [Jvm.Cond.code x code maxLocals ret, Jvm.Cond.code ({ cls := "java/lang/String", name := "<init>", desc := "([C)V" } : Jvm.MethodName) jdk_42_method_3_code (2 : Nat) (Option.none : Option Jvm.ClassFile.FieldType), Jvm.Cond.code ({ cls := "java/lang/String", name := "<init>", desc := "([CIILjava/lang/Void;)V" } : Jvm.MethodName) jdk_42_method_149_code (6 : Nat) (Option.none : Option Jvm.ClassFile.FieldType), Jvm.Cond.code ({ cls := "java/lang/Object", name := "<init>", desc := "()V" } : Jvm.MethodName) object_method_1_code (1 : Nat) (Option.none : Option Jvm.ClassFile.FieldType), Jvm.Cond.code ({ cls := "com/example/lob/lob/broker/HeldBytes", name := "ofKeptSession", desc := "(Ljava/lang/String;)J" } : Jvm.MethodName) prog_5_method_3_code (1 : Nat) (Option.some Jvm.ClassFile.FieldType.long), Jvm.Cond.code ({ cls := "java/lang/String", name := "length", desc := "()I" } : Jvm.MethodName) jdk_42_method_54_code (1 : Nat) (Option.some Jvm.ClassFile.FieldType.int), Jvm.Cond.code ({ cls := "java/lang/String", name := "coder", desc := "()B" } : Jvm.MethodName) jdk_42_method_152_code (1 : Nat) (Option.some Jvm.ClassFile.FieldType.byte), Jvm.Cond.code ({ cls := "java/lang/StringUTF16", name := "compress", desc := "([CII)[B" } : Jvm.MethodName) jdk_52_method_16_code (6 : Nat) (Option.some (Jvm.ClassFile.FieldType.array Jvm.ClassFile.FieldType.byte)), Jvm.Cond.code ({ cls := "java/lang/StringUTF16", name := "compress", desc := "([CI[BII)I" } : Jvm.MethodName) jdk_52_method_21_code (7 : Nat) (Option.some Jvm.ClassFile.FieldType.int), Jvm.Cond.code ({ cls := "java/lang/StringUTF16", name := "coderFromArrayLen", desc := "([BI)B" } : Jvm.MethodName) jdk_52_method_15_code (2 : Nat) (Option.some Jvm.ClassFile.FieldType.byte), Jvm.Cond.code ({ cls := "java/lang/StringUTF16", name := "toBytes", desc := "([CII)[B" } : Jvm.MethodName) jdk_52_method_14_code (5 : Nat) (Option.some (Jvm.ClassFile.FieldType.array Jvm.ClassFile.FieldType.byte)), Jvm.Cond.code ({ cls := "java/lang/StringUTF16", name := "newBytesFor", desc := "(I)[B" } : Jvm.MethodName) jdk_52_method_2_code (1 : Nat) (Option.some (Jvm.ClassFile.FieldType.array Jvm.ClassFile.FieldType.byte)), Jvm.Cond.code ({ cls := "java/lang/StringUTF16", name := "newBytesLength", desc := "(I)I" } : Jvm.MethodName) jdk_52_method_3_code (1 : Nat) (Option.some Jvm.ClassFile.FieldType.int), Jvm.Cond.code ({ cls := "java/lang/StringUTF16", name := "putChar", desc := "([BII)V" } : Jvm.MethodName) jdk_52_method_4_code (3 : Nat) (Option.none : Option Jvm.ClassFile.FieldType), Jvm.Cond.code ({ cls := "java/lang/StringUTF16", name := "getChar", desc := "([BI)C" } : Jvm.MethodName) jdk_52_method_5_code (2 : Nat) (Option.some Jvm.ClassFile.FieldType.char)]
set_option maxRecDepth 65536 in
theorem codes_eq : words1.filter isCode = codes1 := rfl
theorem w_codes : ∀ c ∈ words1.filter isCode, c.before args0 about1 = true := by
  rw [codes_eq]
  intro c hc
  simp only [codes1, List.mem_cons, List.not_mem_nil, or_false] at hc
  rcases hc with rfl | rfl | rfl | rfl | rfl | rfl | rfl | rfl | rfl | rfl | rfl | rfl | rfl | rfl | rfl
  · exact w_c0
  · exact w_c1
  · exact w_c2
  · exact w_c3
  · exact w_c4
  · exact w_c5
  · exact w_c6
  · exact w_c7
  · exact w_c8
  · exact w_c9
  · exact w_c10
  · exact w_c11
  · exact w_c12
  · exact w_c13
  · exact w_c14
set_option maxRecDepth 65536 in
theorem w_t1 : (words1.take 24).all (fun c => isCode c || c.before args0 about1) = true := by decide +kernel
set_option maxRecDepth 65536 in
theorem w_t2 : ((words1.drop 24).take 24).all (fun c => isCode c || c.before args0 about1) = true := by decide +kernel
set_option maxRecDepth 65536 in
theorem w_t3 : (((words1.drop 24).drop 24).take 24).all (fun c => isCode c || c.before args0 about1) = true := by decide +kernel
set_option maxRecDepth 65536 in
theorem w_t4 : (((words1.drop 24).drop 24).drop 24).all (fun c => isCode c || c.before args0 about1) = true := by decide +kernel
theorem w_tables : (allAtoms (Jvm.Cond.code x code maxLocals ret :: tables_1)).before args0 about1 = true := by
  rw [allAtoms_all]
  show words1.all (fun c => c.before args0 about1) = true
  refine all_split ?_ w_codes
  rw [← List.take_append_drop 24 words1, List.all_append, w_t1, ← List.take_append_drop 24 (words1.drop 24), List.all_append, w_t2, ← List.take_append_drop 24 ((words1.drop 24).drop 24), List.all_append, w_t3, w_t4]
  rfl
set_option maxRecDepth 65536 in
theorem w_rest : rest_1_c.before args0 about1 = true := by decide +kernel
set_option maxRecDepth 65536 in
theorem w_case : (Jvm.Cond.and given_1 narrow_1).before args0 about1 = true := by decide +kernel
set_option maxRecDepth 65536 in
theorem w_consts : constsHeld consts_1 about1 := Jvm.Lit.constsHeldB_iff.mp (by decide +kernel)
theorem w_applies : (headSpec (Jvm.Cond.code x code maxLocals ret :: tables_1) room_1).applies x e0.platform about1 = true :=
  (Spec.applies_iff w_frames).mpr ⟨w_running, w_runnable, w_alone, w_named, w_hears, w_ripe, w_room, w_tables⟩
theorem atStart : AtStart classFile x code maxLocals ret World_1 tables_1 room_1 Calls_1 rest_1 Pre_1 launch0 p0 e0 about1 theMethod args0 below0 :=
  ⟨lists_1, trivial, launch0.admits_env _ _ _, launch0.least_env, fairChoices_fair.cas, fairChoices_fair.clock, w_frames, w_args, w_heap, w_applies, ⟨w_consts, trivial⟩, w_rest, w_case⟩
end start1
theorem witness_1 : WitnessClaimed_1 := ⟨start1.p0, start1.e0, start1.about1, start1.theMethod, start1.args0, start1.below0, start1.atStart⟩
end Jvm.Pilot.@@N@@
