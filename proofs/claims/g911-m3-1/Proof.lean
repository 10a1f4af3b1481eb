import JvmDerived
import JvmDerived.Pilot.@@N@@Statement
import JvmDerived.Pilot.@@N@@Code
set_option linter.unusedVariables false
set_option linter.unusedSimpArgs false
namespace Jvm.RoadKit
open Sem ClassFile Op Lib Jvm.Stand Jvm.Free Jvm.LawKit
section New
variable {p : Program} {l : Launch} {e : Env} {R : Room} {s : State} {m : MethodId} {args : Array Value} {below : List Frame} {meth : Method} {c : Code} {T : State} {locs : List Loc} {cells slots : Nat}
theorem retI (X : Stand p l e R s m args below meth c T locs cells slots) (hx : p.tables.exec = Jvm.exec) {pc : Nat} {Ls : Array Slot} {z : Int32} {rest : List Value} (hret : meth.sig.returnType = some .int) (hd : decode c.code pc = .ok (.ireturn, 1)) {fs : List Frame}
    (hl : ∀ (f : JFrame) (acts : List Action), f.method = m → f.locked = none → f.entered = [] → (doReturn e (T.setTop f) acts (some (.int z))).1 = T.setFrames fs) : Steps p.tables e below (T.setTop (mkF m pc Ls (.int z :: rest))) (T.setFrames fs) := by
  have hm' : T.vm.method? m = some meth := X.method'
  have hn : narrow .int (.int z) = .int z := rfl
  show Steps p.tables e below (T.setTop { method := m, pc := pc, locals := Ls, stack := _ :: rest, locked := none }) _
  jvm_step X.here [X.here.top, hx, hd, hm', hret, hn]
  first | (intro acts; rw [hl _ acts rfl rfl rfl]) | rw [hl _ _ rfl rfl rfl]
  exact Steps.refl _
end New
end Jvm.RoadKit
namespace Jvm.Pilot.@@N@@
open Jvm Jvm.ClassFile Sem Op Lib Jvm.Free Jvm.Stand Jvm.LawKit Jvm.RoadKit Bundle Jvm.Pilot.@@N@@.Jvm.D
theorem own_nm {a b : Addr} {l : List Addr} (h : a ≠ b) (r : a ∉ l) : a ∉ b :: l := fun q => (List.mem_cons.mp q).elim h r
theorem own_n0 {a : Addr} : a ∉ ([] : List Addr) := fun q => nomatch q
theorem own_nst {Z : State} {h : Heap} {a : Addr} {C : String} (F : Exa Z h a C) : ∃ c : Cell, h[a]? = some c ∧ c.vm.isStatics = false := by obtain ⟨c, k, h1, -, -, h4, -⟩ := F; exact ⟨c, h1, h4⟩
theorem own_nstV {Z : State} {h : Heap} {a : Addr} {k : ClassId} {ty : FieldType} {z : Int32} {vs : List Value} {dv : Value} (F : Arv Z h a k ty z vs dv) : ∃ c : Cell, h[a]? = some c ∧ c.vm.isStatics = false := by
  obtain ⟨c, A, -⟩ := F
  refine ⟨c, A.1, ?_⟩
  have q := A.2.1.1
  cases e : c.vm <;> first | rfl | exact absurd e (q _)
theorem own_q0 {h : Heap} : ∀ x ∈ ([] : List Addr), ∃ c : Cell, h[x]? = some c ∧ c.vm.isStatics = false := fun _ q => nomatch q
theorem own_qc {h : Heap} {a : Addr} {l : List Addr} (p : ∃ c : Cell, h[a]? = some c ∧ c.vm.isStatics = false) (r : ∀ x ∈ l, ∃ c : Cell, h[x]? = some c ∧ c.vm.isStatics = false) : ∀ x ∈ a :: l, ∃ c : Cell, h[x]? = some c ∧ c.vm.isStatics = false := fun x q => (List.mem_cons.mp q).elim (fun e => e ▸ p) (r x)
theorem own_sta_keep {Z : State} {h h' : Heap} {ws : List Addr} {C n d : String} {v : Value} (F : Sta Z h C n d v) (K : Keep h h' ws) (q : ∀ x ∈ ws, ∃ c : Cell, h[x]? = some c ∧ c.vm.isStatics = false) : Sta Z h' C n d v := by
  obtain ⟨cf, i, k, f, st, cell, h1, h2, h3, h4, h5, h6, h7⟩ := F
  refine ⟨cf, i, k, f, st, cell, h1, h2, h3, h4, K.2.1 _ _ h5 fun z => ?_, h6, h7⟩
  obtain ⟨c, g1, g2⟩ := q _ z
  cases h5.symm.trans g1; rw [h6] at g2; cases g2
theorem own_eqI {a b : Term} {args : Array Value} {first s : State} {o : Option Outcome} {idx : List Nat} {k : Int32} (h : (Jvm.Cond.eq a b).value args first o s idx = some true) (hb : b.eval args first o idx s = some (.int k)) : a.eval args first o idx s = some (.int k) := by
  obtain ⟨x, y, ha, hb', K, K'⟩ := cmp_v (Or.inl h)
  cases hb.symm.trans hb'
  obtain ⟨z, rfl⟩ := K'
  simp [Cond.value, ha, hb] at h
  rw [ha, h]
theorem own_eqR {a b : Term} {args : Array Value} {first s : State} {o : Option Outcome} {idx : List Nat} {k : Addr} (h : (Jvm.Cond.eq a b).value args first o s idx = some true) (hb : b.eval args first o idx s = some (.ref k)) : a.eval args first o idx s = some (.ref k) := by
  obtain ⟨x, y, ha, hb', K, K'⟩ := cmp_v (Or.inl h)
  cases hb.symm.trans hb'
  have q := gotT (eq_R ha hb K'.2 rfl) h
  rw [ha, q]
theorem own_len {t : Term} {args : Array Value} {first s : State} {o : Option Outcome} {idx : List Nat} {k : Int32} {x : Addr} {cl : Cell} (h : (Term.length t).eval args first o idx s = some (.int k)) (ev : t.eval args first o idx s = some (.ref x)) (hc : s.heap[x]? = some cl) : cl.slots.size < 2 ^ 31 ∧ cl.slots.size.toInt32 = k := by
  obtain ⟨a', cell, ha', hat, hv⟩ := Term.length_spec h
  cases ev.symm.trans ha'
  cases hc.symm.trans (State.arrayAt?_spec hat).1
  refine ⟨?_, by cases hv; rfl⟩
  by_cases q : cl.slots.size < 2147483648
  · exact q
  · simp [Term.eval, ev, hat, q] at h
theorem own_sz {n : Nat} {k : Int32} (q : n < 2 ^ 31) (e : n.toInt32 = k) : n = k.toNatClampNeg := by
  rw [← e]; simp only [Int32.toNatClampNeg, len_toInt q]; rfl
theorem own_some {c : Cell} {i : Nat} (h : i < c.slots.size) : ∃ v, c.slots[i]? = some v := ⟨c.slots[i], Array.getElem?_eq_getElem h⟩
theorem own_i32 (x : Int32) : x.toInt = if x.toUInt32.toNat < 2^31 then (x.toUInt32.toNat : Int) else (x.toUInt32.toNat : Int) - 2^32 := by
  have h : x.toInt = x.toBitVec.toInt := rfl
  have h2 : x.toUInt32.toNat = x.toBitVec.toNat := rfl
  rw [h, h2, BitVec.toInt_eq_toNat_cond]
  split <;> split <;> omega
theorem own_mask (x m : Int32) (k : Nat) (hk : k ≤ 31) (hm : m.toUInt32.toNat = 2 ^ k - 1) : (x &&& m).toInt = x.toInt % 2 ^ k := by
  have e : (x &&& m).toUInt32.toNat = x.toUInt32.toNat % 2 ^ k := by
    rw [Int32.toUInt32_and, UInt32.toNat_and, hm, Nat.and_two_pow_sub_one_eq_mod]
  have hp : (2 ^ k : Nat) ≤ 2 ^ 31 := Nat.pow_le_pow_right (by decide) hk
  have hd : (2 ^ k : Nat) ∣ 2 ^ 32 := Nat.pow_dvd_pow 2 (by omega)
  have hpos : 0 < (2 ^ k : Nat) := Nat.pow_pos (by decide)
  have hlt : x.toUInt32.toNat % 2 ^ k < 2 ^ k := Nat.mod_lt _ hpos
  rw [own_i32 (x &&& m), e, if_pos (by omega), own_i32 x]
  have hc : ((2 : Int) ^ k) = ((2 ^ k : Nat) : Int) := by simp
  rw [hc]
  split
  · exact (Int.natCast_emod _ _)
  · obtain ⟨c, hc2⟩ := hd
    have : ((x.toUInt32.toNat : Int) - 2 ^ 32) = (x.toUInt32.toNat : Int) + ((2 ^ k : Nat) : Int) * (-(c : Int)) := by
      have : ((2 : Int) ^ 32) = ((2 ^ k : Nat) : Int) * (c : Int) := by exact_mod_cast hc2
      rw [this, Int.mul_neg]; rfl
    rw [this, Int.add_mul_emod_self_left]
    exact (Int.natCast_emod _ _)
theorem own_mod (y n : Int32) (hy : 0 ≤ y.toInt) (hn : 0 < n.toInt) : (y - y / n * n).toInt = y.toInt % n.toInt := by
  have b1 := y.toInt_lt; have b2 := n.toInt_lt
  have hd : (y / n).toInt = y.toInt / n.toInt := by
    rw [Int32.toInt_div_of_ne_right y n (by intro h; rw [h] at hn; exact absurd hn (by decide)), Int.tdiv_eq_ediv_of_nonneg hy]
  have h1 : 0 ≤ y.toInt / n.toInt := Int.ediv_nonneg hy (by omega)
  have h2 : y.toInt / n.toInt * n.toInt ≤ y.toInt := Int.ediv_mul_le _ (by omega)
  have h3 : 0 ≤ y.toInt / n.toInt * n.toInt := Int.mul_nonneg h1 (by omega)
  have hmul : (y / n * n).toInt = y.toInt / n.toInt * n.toInt := by
    rw [Int32.toInt_mul, hd]; apply Int.bmod_eq_of_le <;> omega
  rw [Int32.toInt_sub, hmul]
  have h4 := Int.emod_def y.toInt n.toInt
  rw [Int.mul_comm] at h4
  rw [h4]; apply Int.bmod_eq_of_le <;> omega
theorem own_pos (x : Int32) : 0 ≤ (x &&& 2147483647).toInt := by
  rw [own_mask x 2147483647 31 (by decide) (by decide)]; exact Int.emod_nonneg _ (by decide)
theorem own_add (x y : Int32) (h1 : -2147483648 ≤ x.toInt + y.toInt) (h2 : x.toInt + y.toInt < 2147483648) : (x + y).toInt = x.toInt + y.toInt := by
  rw [Int32.toInt_add]; apply Int.bmod_eq_of_le <;> omega
theorem own_and3 (x : Int32) : x &&& 3 = 0 ∨ x &&& 3 = 1 ∨ x &&& 3 = 2 ∨ x &&& 3 = 3 := by
  have h := own_mask x 3 2 (by decide) (by decide)
  have h2 : x.toInt % 2 ^ 2 = 0 ∨ x.toInt % 2 ^ 2 = 1 ∨ x.toInt % 2 ^ 2 = 2 ∨ x.toInt % 2 ^ 2 = 3 := by omega
  rcases h2 with q | q | q | q
  · exact Or.inl (Int32.toInt_inj.mp (by rw [h, q]; rfl))
  · exact Or.inr (Or.inl (Int32.toInt_inj.mp (by rw [h, q]; rfl)))
  · exact Or.inr (Or.inr (Or.inl (Int32.toInt_inj.mp (by rw [h, q]; rfl))))
  · exact Or.inr (Or.inr (Or.inr (Int32.toInt_inj.mp (by rw [h, q]; rfl))))
theorem d2_0 : decode jdk_30_method_1_code 0 = .ok (.aload_n 0, 1) := by decide +kernel
theorem d2_1 : decode jdk_30_method_1_code 1 = .ok (.invokespecial 1, 3) := by decide +kernel
theorem d2_4 : decode jdk_30_method_1_code 4 = .ok (.return_, 1) := by decide +kernel
theorem pn_2 : plainName "java/lang/Record" = true := by first | (simp [plainName, overriddenIn]; done) | decide +kernel
theorem ef_2 (m : MethodId) (x0 : Addr) : entryFrame m #[(.ref x0)] 1 = mkF m 0 #[.val (.ref x0)] [] := by first | (simp [entryFrame, mkF, argsToLocals, Value.category]; done) | rfl
def Q_rm2 (Z : State) (a1 : Addr) (h0 : Heap) (n0 : Nat) (v : Option Value) (h : Heap) (L : List Loc) : Prop := v = none ∧ Fr n0 L ∧ h = h0
set_option maxRecDepth 65536 in
set_option maxHeartbeats 40000000 in
theorem rm2 (l : Launch) (Z : State) (a0 : Array Value) (hw : ∀ d ∈ tables_1, d.before a0 Z = true) (ws : List Jvm.Cond) (a1 : Addr) (h0 : Heap) (n0 : Nat) (Z0 : n0 ≤ h0.size) :
    MetFree l (⟨"java/lang/Record", "<init>", "()V"⟩ : MethodName) (head1 (Jvm.Cond.code (⟨"java/lang/Record", "<init>", "()V"⟩ : MethodName) jdk_30_method_1_code 1 none :: ws) ({ frames := 1, cells := 0, slots := 0, locals := 12 } : Room)) (fun a U => a = #[(.ref a1)] ∧ Z.Warmed39 U.vm ∧ U.heap = h0) (fun _ _ _ _ _ => True) (fun _ U o U' => ∃ v L, o = .returned v ∧ Q_rm2 Z a1 h0 n0 v U'.heap L ∧ FrameEnd U o U' L ({ frames := 1, cells := 0, slots := 0, locals := 12 } : Room).cells ({ frames := 1, cells := 0, slots := 0, locals := 12 } : Room).slots) := by
  refine MetFree.of_bodySF (plainFor_of_name pn_2) hisR ?_
  intro p e s m args below meth c s₁ Bd hml0 hP hK
  obtain ⟨rfl, hZ, hh⟩ := hP
  have hx := Bd.exec
  have hby := Bd.bytes
  have hml : c.maxLocals = 1 := hml0
  have hown : s.vm.findClass "java/lang/Record" = some m.cls := findClass_of_methodNamed Bd.named
  have hnm := (name_of_methodNamed Bd.named Bd.method).1
  have X0 : Stand p l e ({ frames := 1, cells := 0, slots := 0, locals := 12 } : Room) s m #[(.ref a1)] below meth c s₁ [] 0 0 := Stand.of_body Bd
  have e0 : s₁.heap = h0 := by rw [← hh, Bd.state]; rfl
  have N0 := Fr.nil n0
  have pre0 : ∀ t, Steps p.tables e below (s₁.setTop (mkF m 0 #[.val (.ref a1)] [])) t → Steps p.tables e below (s₁.setTop (entryFrame m #[(.ref a1)] 1)) t := fun t k => castTop (ef_2 m a1) k
  obtain ⟨T2, X2, e2, st2⟩ := initO X0 hx hZ hown (hw _ (List.mem_of_getElem? (i := 12) rfl)) (hw _ (List.mem_of_getElem? (i := 13) rfl)) (hw _ (List.mem_of_getElem? (i := 14) rfl)) e0 (g := (mkF m 1 #[.val (.ref a1)] [(.ref a1)])) rfl (by rw [hml]; rfl) rfl (hb hby d2_1) (by decide) (W := 0) (by show 2 * 0 + _ ≤ _; exact Nat.le_of_eq rfl) (by decide)
  obtain ⟨fs, hr, hrun, hended, hW, hsame⟩ := X2.leave (v := none) (fun _ => rfl)
  refine ⟨_, _, pre0 _ ?_, hrun, hended, _, _, rfl, ?_, ⟨_, rfl⟩, hW, hsame.mono (by decide) (by decide)⟩
  · show Steps p.tables e below (s₁.setTop (mkF m 0 #[.val (.ref a1)] [])) _
    refine XS.aloadN X0.here hx rfl (hb hby d2_0) rfl rfl ?_
    show Steps p.tables e below (s₁.setTop (mkF m 1 #[.val (.ref a1)] [(.ref a1)])) _
    refine st2 _ ?_
    show Steps p.tables e below (T2.setTop (mkF m 4 #[.val (.ref a1)] [])) _
    exact X2.returnOut hx Bd.returns (hb hby d2_4) hr
  · show Q_rm2 Z a1 h0 n0 _ T2.heap _
    exact ⟨rfl, N0, e2⟩
theorem pd__28_29V : parseMethodDescriptor "()V" = some ⟨[], none⟩ := by decide +kernel
theorem d1_0 : decode prog_10_method_1_code 0 = .ok (.aload_n 0, 1) := by decide +kernel
theorem d1_1 : decode prog_10_method_1_code 1 = .ok (.invokespecial 3, 3) := by decide +kernel
theorem d1_4 : decode prog_10_method_1_code 4 = .ok (.aload_n 0, 1) := by decide +kernel
theorem d1_5 : decode prog_10_method_1_code 5 = .ok (.iload_n 1, 1) := by decide +kernel
theorem d1_6 : decode prog_10_method_1_code 6 = .ok (.putfield 9, 3) := by decide +kernel
theorem d1_9 : decode prog_10_method_1_code 9 = .ok (.aload_n 0, 1) := by decide +kernel
theorem d1_10 : decode prog_10_method_1_code 10 = .ok (.iload_n 2, 1) := by decide +kernel
theorem d1_11 : decode prog_10_method_1_code 11 = .ok (.putfield 13, 3) := by decide +kernel
theorem d1_14 : decode prog_10_method_1_code 14 = .ok (.aload_n 0, 1) := by decide +kernel
theorem d1_15 : decode prog_10_method_1_code 15 = .ok (.lload_n 3, 1) := by decide +kernel
theorem d1_16 : decode prog_10_method_1_code 16 = .ok (.putfield 16, 3) := by decide +kernel
theorem d1_19 : decode prog_10_method_1_code 19 = .ok (.aload_n 0, 1) := by decide +kernel
theorem d1_20 : decode prog_10_method_1_code 20 = .ok (.aload 5, 2) := by decide +kernel
theorem d1_22 : decode prog_10_method_1_code 22 = .ok (.putfield 20, 3) := by decide +kernel
theorem d1_25 : decode prog_10_method_1_code 25 = .ok (.return_, 1) := by decide +kernel
theorem pn_1 : plainName "com/example/wirecall/wirecall/protocol/Frame" = true := by first | (simp [plainName, overriddenIn]; done) | decide +kernel
theorem ef_1 (m : MethodId) (x0 : Addr) (x1 : Int32) (x2 : Int32) (x3 : Int64) (x4 : Addr) : entryFrame m #[(.ref x0), (.int x1), (.int x2), (.long x3), (.ref x4)] 6 = mkF m 0 #[.val (.ref x0), .val (.int x1), .val (.int x2), .val (.long x3), .second, .val (.ref x4)] [] := by first | (simp [entryFrame, mkF, argsToLocals, Value.category]; done) | rfl
def Q_rm1 (Z : State) (a1 : Addr) (p2 : Int32) (p3 : Int32) (q4 : Int64) (a5 : Addr) (w_flags_a1 : Int32) (w_status_a1 : Int32) (w_id_a1 : Int64) (w_body_a1 : Value) (h0 : Heap) (n0 : Nat) (v : Option Value) (h : Heap) (L : List Loc) : Prop := v = none ∧ Fr n0 L ∧ Keep h0 h [a1] ∧ Exa Z h a1 "com/example/wirecall/wirecall/protocol/Frame" ∧ Fld Z h a1 "com/example/wirecall/wirecall/protocol/Frame" "flags" "I" (.int p2) ∧ Fld Z h a1 "com/example/wirecall/wirecall/protocol/Frame" "status" "I" (.int p3) ∧ Fld Z h a1 "com/example/wirecall/wirecall/protocol/Frame" "id" "J" (.long q4) ∧ Fld Z h a1 "com/example/wirecall/wirecall/protocol/Frame" "body" "[B" (.ref a5)
set_option maxRecDepth 65536 in
set_option maxHeartbeats 40000000 in
theorem rm1 (l : Launch) (Z : State) (a0 : Array Value) (hw : ∀ d ∈ tables_1, d.before a0 Z = true) (ws : List Jvm.Cond) (a1 : Addr) (p2 : Int32) (p3 : Int32) (q4 : Int64) (a5 : Addr) (w_flags_a1 : Int32) (w_status_a1 : Int32) (w_id_a1 : Int64) (w_body_a1 : Value) (h0 : Heap) (n0 : Nat) (Z0 : n0 ≤ h0.size) (E_a1 : Exa Z h0 a1 "com/example/wirecall/wirecall/protocol/Frame") (F_flags_a1 : Fld Z h0 a1 "com/example/wirecall/wirecall/protocol/Frame" "flags" "I" (.int w_flags_a1)) (g_a1 : n0 ≤ a1) (F_status_a1 : Fld Z h0 a1 "com/example/wirecall/wirecall/protocol/Frame" "status" "I" (.int w_status_a1)) (F_id_a1 : Fld Z h0 a1 "com/example/wirecall/wirecall/protocol/Frame" "id" "J" (.long w_id_a1)) (F_body_a1 : Fld Z h0 a1 "com/example/wirecall/wirecall/protocol/Frame" "body" "[B" w_body_a1) :
    MetFree l (⟨"com/example/wirecall/wirecall/protocol/Frame", "<init>", "(IIJ[B)V"⟩ : MethodName) (head1 (Jvm.Cond.code (⟨"com/example/wirecall/wirecall/protocol/Frame", "<init>", "(IIJ[B)V"⟩ : MethodName) prog_10_method_1_code 6 none :: ws) ({ frames := 2, cells := 0, slots := 0, locals := 24 } : Room)) (fun a U => a = #[(.ref a1), (.int p2), (.int p3), (.long q4), (.ref a5)] ∧ Z.Warmed39 U.vm ∧ U.heap = h0) (fun _ _ _ _ _ => True) (fun _ U o U' => ∃ v L, o = .returned v ∧ Q_rm1 Z a1 p2 p3 q4 a5 w_flags_a1 w_status_a1 w_id_a1 w_body_a1 h0 n0 v U'.heap L ∧ FrameEnd U o U' L ({ frames := 2, cells := 0, slots := 0, locals := 24 } : Room).cells ({ frames := 2, cells := 0, slots := 0, locals := 24 } : Room).slots) := by
  refine MetFree.of_bodySF (plainFor_of_name pn_1) hisR ?_
  intro p e s m args below meth c s₁ Bd hml0 hP hK
  obtain ⟨rfl, hZ, hh⟩ := hP
  have hx := Bd.exec
  have hby := Bd.bytes
  have hml : c.maxLocals = 6 := hml0
  have hown : s.vm.findClass "com/example/wirecall/wirecall/protocol/Frame" = some m.cls := findClass_of_methodNamed Bd.named
  have hnm := (name_of_methodNamed Bd.named Bd.method).1
  have X0 : Stand p l e ({ frames := 2, cells := 0, slots := 0, locals := 24 } : Room) s m #[(.ref a1), (.int p2), (.int p3), (.long q4), (.ref a5)] below meth c s₁ [] 0 0 := Stand.of_body Bd
  have e0 : s₁.heap = h0 := by rw [← hh, Bd.state]; rfl
  have N0 := Fr.nil n0
  have pre0 : ∀ t, Steps p.tables e below (s₁.setTop (mkF m 0 #[.val (.ref a1), .val (.int p2), .val (.int p3), .val (.long q4), .second, .val (.ref a5)] [])) t → Steps p.tables e below (s₁.setTop (entryFrame m #[(.ref a1), (.int p2), (.int p3), (.long q4), (.ref a5)] 6)) t := fun t k => castTop (ef_1 m a1 p2 p3 q4 a5) k
  obtain ⟨_, _, ⟨T6, L6, k6, n6⟩, -, X6, ⟨Lc6, hQ6, l6, y6, z6⟩, st6⟩ := X0.specialBack hx (y := (⟨"java/lang/Record", "<init>", "()V"⟩ : MethodName)) rfl hown (mvT hZ (hw _ (List.mem_of_getElem? (i := 7) rfl))) (mvT hZ (hw _ (List.mem_of_getElem? (i := 8) rfl))) (mvT hZ (hw _ (List.mem_of_getElem? (i := 11) rfl))) (by decide) (backOf (W := 0) (rm2 l Z a0 hw [] a1 h0 n0 Z0 ) hZ (hw _ (List.mem_of_getElem? (i := 11) rfl)) (hw _ (List.mem_of_getElem? (i := 10) rfl)) (by decide) (by decide)) (g := (mkF m 1 #[.val (.ref a1), .val (.int p2), .val (.int p3), .val (.long q4), .second, .val (.ref a5)] [(.ref a1)])) rfl (by rw [hml]; rfl) (Steps.refl _) (a := a1) (argsL := []) (rest := []) (lenOf pd__28_29V rfl) rfl (by show 2 * 0 + _ ≤ _; exact Nat.le_of_eq rfl) (hb hby d1_1) (fun _ _ => ⟨rfl, e0, (by decide : 0 + 0 ≤ _), (by decide : 0 + 0 ≤ _)⟩)
  dsimp only [Pt.U, Pt.locs, Pt.cells, Pt.slots] at X6 l6 y6 z6 st6 hQ6
  subst l6 y6 z6
  obtain ⟨rfl, N6q, e6⟩ := hQ6
  have N6 := Fr.app N0 N6q
  obtain ⟨T7, h7, X7, e7, W7, st7⟩ := putF X6 hx hZ hown (host := "") (Or.inl (hw _ (List.mem_of_getElem? (i := 15) rfl))) Via.refl e6 F_flags_a1 E_a1 (Or.inr ⟨(hw _ (List.mem_of_getElem? (i := 16) rfl)), rfl, hnm⟩) (hw _ (List.mem_of_getElem? (i := 2) rfl)) (ty := .int) (by decide) rfl rfl (g := (mkF m 6 #[.val (.ref a1), .val (.int p2), .val (.int p3), .val (.long q4), .second, .val (.ref a5)] [(.int p2), (.ref a1)])) rfl rfl (hb hby d1_6)
  have Fw7 := F_flags_a1.same W7
  have N7 := Fr.snoc X7 N6 g_a1
  have f0 := (E_a1.wr W7)
  have f1 := (F_status_a1.other W7 (Or.inr (slot_ne (Or.inr (hw _ (List.mem_of_getElem? (i := 18) rfl))) (Or.inr (hw _ (List.mem_of_getElem? (i := 16) rfl))) (by decide) (t := .int) (t' := .int) (by decide) (by decide))))
  obtain ⟨T8, h8, X8, e8, W8, st8⟩ := putF X7 hx hZ hown (host := "") (Or.inl (hw _ (List.mem_of_getElem? (i := 17) rfl))) Via.refl e7 f1 f0 (Or.inr ⟨(hw _ (List.mem_of_getElem? (i := 18) rfl)), rfl, hnm⟩) (hw _ (List.mem_of_getElem? (i := 2) rfl)) (ty := .int) (by decide) rfl rfl (g := (mkF m 11 #[.val (.ref a1), .val (.int p2), .val (.int p3), .val (.long q4), .second, .val (.ref a5)] [(.int p3), (.ref a1)])) rfl rfl (hb hby d1_11)
  have Fw8 := f1.same W8
  have N8 := Fr.snoc X8 N7 g_a1
  have f2 := (f0.wr W8)
  have f3 := ((F_id_a1.other W7 (Or.inr (slot_ne (Or.inr (hw _ (List.mem_of_getElem? (i := 20) rfl))) (Or.inr (hw _ (List.mem_of_getElem? (i := 16) rfl))) (by decide) (t := .long) (t' := .int) (by decide) (by decide)))).other W8 (Or.inr (slot_ne (Or.inr (hw _ (List.mem_of_getElem? (i := 20) rfl))) (Or.inr (hw _ (List.mem_of_getElem? (i := 18) rfl))) (by decide) (t := .long) (t' := .int) (by decide) (by decide))))
  obtain ⟨T9, h9, X9, e9, W9, st9⟩ := putF X8 hx hZ hown (host := "") (Or.inl (hw _ (List.mem_of_getElem? (i := 19) rfl))) Via.refl e8 f3 f2 (Or.inr ⟨(hw _ (List.mem_of_getElem? (i := 20) rfl)), rfl, hnm⟩) (hw _ (List.mem_of_getElem? (i := 2) rfl)) (ty := .long) (by decide) rfl rfl (g := (mkF m 16 #[.val (.ref a1), .val (.int p2), .val (.int p3), .val (.long q4), .second, .val (.ref a5)] [(.long q4), (.ref a1)])) rfl rfl (hb hby d1_16)
  have Fw9 := f3.same W9
  have N9 := Fr.snoc X9 N8 g_a1
  have f4 := (f2.wr W9)
  have f5 := (((F_body_a1.other W7 (Or.inr (slot_ne (Or.inr (hw _ (List.mem_of_getElem? (i := 22) rfl))) (Or.inr (hw _ (List.mem_of_getElem? (i := 16) rfl))) (by decide) (t := (.array .byte)) (t' := .int) (by decide) (by decide)))).other W8 (Or.inr (slot_ne (Or.inr (hw _ (List.mem_of_getElem? (i := 22) rfl))) (Or.inr (hw _ (List.mem_of_getElem? (i := 18) rfl))) (by decide) (t := (.array .byte)) (t' := .int) (by decide) (by decide)))).other W9 (Or.inr (slot_ne (Or.inr (hw _ (List.mem_of_getElem? (i := 22) rfl))) (Or.inr (hw _ (List.mem_of_getElem? (i := 20) rfl))) (by decide) (t := (.array .byte)) (t' := .long) (by decide) (by decide))))
  obtain ⟨T10, h10, X10, e10, W10, st10⟩ := putF X9 hx hZ hown (host := "") (Or.inl (hw _ (List.mem_of_getElem? (i := 21) rfl))) Via.refl e9 f5 f4 (Or.inr ⟨(hw _ (List.mem_of_getElem? (i := 22) rfl)), rfl, hnm⟩) (hw _ (List.mem_of_getElem? (i := 2) rfl)) (ty := (.array .byte)) (by decide) rfl rfl (g := (mkF m 22 #[.val (.ref a1), .val (.int p2), .val (.int p3), .val (.long q4), .second, .val (.ref a5)] [(.ref a5), (.ref a1)])) rfl rfl (hb hby d1_22)
  have Fw10 := f5.same W10
  have N10 := Fr.snoc X10 N9 g_a1
  have f6 := (f4.wr W10)
  have f7 := (((Fw7.other W8 (Or.inr (slot_ne (Or.inr (hw _ (List.mem_of_getElem? (i := 16) rfl))) (Or.inr (hw _ (List.mem_of_getElem? (i := 18) rfl))) (by decide) (t := .int) (t' := .int) (by decide) (by decide)))).other W9 (Or.inr (slot_ne (Or.inr (hw _ (List.mem_of_getElem? (i := 16) rfl))) (Or.inr (hw _ (List.mem_of_getElem? (i := 20) rfl))) (by decide) (t := .int) (t' := .long) (by decide) (by decide)))).other W10 (Or.inr (slot_ne (Or.inr (hw _ (List.mem_of_getElem? (i := 16) rfl))) (Or.inr (hw _ (List.mem_of_getElem? (i := 22) rfl))) (by decide) (t := .int) (t' := (.array .byte)) (by decide) (by decide))))
  have f8 := ((Fw8.other W9 (Or.inr (slot_ne (Or.inr (hw _ (List.mem_of_getElem? (i := 18) rfl))) (Or.inr (hw _ (List.mem_of_getElem? (i := 20) rfl))) (by decide) (t := .int) (t' := .long) (by decide) (by decide)))).other W10 (Or.inr (slot_ne (Or.inr (hw _ (List.mem_of_getElem? (i := 18) rfl))) (Or.inr (hw _ (List.mem_of_getElem? (i := 22) rfl))) (by decide) (t := .int) (t' := (.array .byte)) (by decide) (by decide))))
  have f9 := (Fw9.other W10 (Or.inr (slot_ne (Or.inr (hw _ (List.mem_of_getElem? (i := 20) rfl))) (Or.inr (hw _ (List.mem_of_getElem? (i := 22) rfl))) (by decide) (t := .long) (t' := (.array .byte)) (by decide) (by decide))))
  obtain ⟨fs, hr, hrun, hended, hW, hsame⟩ := X10.leave (v := none) (fun _ => rfl)
  refine ⟨_, _, pre0 _ ?_, hrun, hended, _, _, rfl, ?_, ⟨_, rfl⟩, hW, hsame.mono (by decide) (by decide)⟩
  · show Steps p.tables e below (s₁.setTop (mkF m 0 #[.val (.ref a1), .val (.int p2), .val (.int p3), .val (.long q4), .second, .val (.ref a5)] [])) _
    refine XS.aloadN X0.here hx rfl (hb hby d1_0) rfl rfl ?_
    show Steps p.tables e below (s₁.setTop (mkF m 1 #[.val (.ref a1), .val (.int p2), .val (.int p3), .val (.long q4), .second, .val (.ref a5)] [(.ref a1)])) _
    refine st6.trans ?_
    show Steps p.tables e below (T6.setTop (mkF m 4 #[.val (.ref a1), .val (.int p2), .val (.int p3), .val (.long q4), .second, .val (.ref a5)] [])) _
    refine XS.aloadN X6.here hx rfl (hb hby d1_4) rfl rfl ?_
    show Steps p.tables e below (T6.setTop (mkF m 5 #[.val (.ref a1), .val (.int p2), .val (.int p3), .val (.long q4), .second, .val (.ref a5)] [(.ref a1)])) _
    refine XS.iloadN X6.here hx rfl (hb hby d1_5) rfl ?_
    show Steps p.tables e below (T6.setTop (mkF m 6 #[.val (.ref a1), .val (.int p2), .val (.int p3), .val (.long q4), .second, .val (.ref a5)] [(.int p2), (.ref a1)])) _
    refine st7 _ ?_
    show Steps p.tables e below (T7.setTop (mkF m 9 #[.val (.ref a1), .val (.int p2), .val (.int p3), .val (.long q4), .second, .val (.ref a5)] [])) _
    refine XS.aloadN X7.here hx rfl (hb hby d1_9) rfl rfl ?_
    show Steps p.tables e below (T7.setTop (mkF m 10 #[.val (.ref a1), .val (.int p2), .val (.int p3), .val (.long q4), .second, .val (.ref a5)] [(.ref a1)])) _
    refine XS.iloadN X7.here hx rfl (hb hby d1_10) rfl ?_
    show Steps p.tables e below (T7.setTop (mkF m 11 #[.val (.ref a1), .val (.int p2), .val (.int p3), .val (.long q4), .second, .val (.ref a5)] [(.int p3), (.ref a1)])) _
    refine st8 _ ?_
    show Steps p.tables e below (T8.setTop (mkF m 14 #[.val (.ref a1), .val (.int p2), .val (.int p3), .val (.long q4), .second, .val (.ref a5)] [])) _
    refine XS.aloadN X8.here hx rfl (hb hby d1_14) rfl rfl ?_
    show Steps p.tables e below (T8.setTop (mkF m 15 #[.val (.ref a1), .val (.int p2), .val (.int p3), .val (.long q4), .second, .val (.ref a5)] [(.ref a1)])) _
    refine XS.lloadN X8.here hx rfl (hb hby d1_15) rfl ?_
    show Steps p.tables e below (T8.setTop (mkF m 16 #[.val (.ref a1), .val (.int p2), .val (.int p3), .val (.long q4), .second, .val (.ref a5)] [(.long q4), (.ref a1)])) _
    refine st9 _ ?_
    show Steps p.tables e below (T9.setTop (mkF m 19 #[.val (.ref a1), .val (.int p2), .val (.int p3), .val (.long q4), .second, .val (.ref a5)] [])) _
    refine XS.aloadN X9.here hx rfl (hb hby d1_19) rfl rfl ?_
    show Steps p.tables e below (T9.setTop (mkF m 20 #[.val (.ref a1), .val (.int p2), .val (.int p3), .val (.long q4), .second, .val (.ref a5)] [(.ref a1)])) _
    refine XS.aload X9.here hx rfl (hb hby d1_20) rfl rfl ?_
    show Steps p.tables e below (T9.setTop (mkF m 22 #[.val (.ref a1), .val (.int p2), .val (.int p3), .val (.long q4), .second, .val (.ref a5)] [(.ref a5), (.ref a1)])) _
    refine st10 _ ?_
    show Steps p.tables e below (T10.setTop (mkF m 25 #[.val (.ref a1), .val (.int p2), .val (.int p3), .val (.long q4), .second, .val (.ref a5)] [])) _
    exact X10.returnOut hx Bd.returns (hb hby d1_25) hr
  · show Q_rm1 Z a1 p2 p3 q4 a5 w_flags_a1 w_status_a1 w_id_a1 w_body_a1 h0 n0 _ T10.heap _
    rw [e10]
    exact ⟨rfl, N10, (((((Keep.refl h0 [a1]).wr W7 (Or.inl (List.mem_of_getElem? (i := 0) rfl))).wr W8 (Or.inl (List.mem_of_getElem? (i := 0) rfl))).wr W9 (Or.inl (List.mem_of_getElem? (i := 0) rfl))).wr W10 (Or.inl (List.mem_of_getElem? (i := 0) rfl))), f6, f7, f8, f9, Fw10⟩
def F4 (w_flags_a1 : Int32) : Int32 := (if (w_flags_a1 &&& (4 : Int32)) = (0 : Int32) then (0 : Int32) else (1 : Int32))
theorem d4_0 : decode prog_10_method_7_code 0 = .ok (.aload_n 0, 1) := by decide +kernel
theorem d4_1 : decode prog_10_method_7_code 1 = .ok (.getfield 9, 3) := by decide +kernel
theorem d4_4 : decode prog_10_method_7_code 4 = .ok (.iconst 4, 1) := by decide +kernel
theorem d4_5 : decode prog_10_method_7_code 5 = .ok (.iand, 1) := by decide +kernel
theorem d4_6 : decode prog_10_method_7_code 6 = .ok (.ifCond .eq 7, 3) := by decide +kernel
theorem d4_9 : decode prog_10_method_7_code 9 = .ok (.iconst 1, 1) := by decide +kernel
theorem d4_10 : decode prog_10_method_7_code 10 = .ok (.goto 4, 3) := by decide +kernel
theorem d4_14 : decode prog_10_method_7_code 14 = .ok (.ireturn, 1) := by decide +kernel
theorem pn_4 : plainName "com/example/wirecall/wirecall/protocol/Frame" = true := by first | (simp [plainName, overriddenIn]; done) | decide +kernel
theorem ef_4 (m : MethodId) (x0 : Addr) : entryFrame m #[(.ref x0)] 1 = mkF m 0 #[.val (.ref x0)] [] := by first | (simp [entryFrame, mkF, argsToLocals, Value.category]; done) | rfl
theorem d4_13 : decode prog_10_method_7_code 13 = .ok (.iconst 0, 1) := by decide +kernel
def Q_rm4 (Z : State) (a1 : Addr) (w_flags_a1 : Int32) (h0 : Heap) (n0 : Nat) (v : Option Value) (h : Heap) (L : List Loc) : Prop := v = some (.int (F4 w_flags_a1)) ∧ Fr n0 L ∧ h = h0
set_option maxRecDepth 65536 in
set_option maxHeartbeats 40000000 in
theorem rm4_f (l : Launch) (Z : State) (a0 : Array Value) (hw : ∀ d ∈ tables_1, d.before a0 Z = true) (ws : List Jvm.Cond) (a1 : Addr) (w_flags_a1 : Int32) (h0 : Heap) (n0 : Nat) (Z0 : n0 ≤ h0.size) (F_flags_a1 : Fld Z h0 a1 "com/example/wirecall/wirecall/protocol/Frame" "flags" "I" (.int w_flags_a1)) (hc6 : ¬ ((w_flags_a1 &&& (4 : Int32)) = (0 : Int32))) :
    MetFree l (⟨"com/example/wirecall/wirecall/protocol/Frame", "oneWay", "()Z"⟩ : MethodName) (head1 (Jvm.Cond.code (⟨"com/example/wirecall/wirecall/protocol/Frame", "oneWay", "()Z"⟩ : MethodName) prog_10_method_7_code 1 (some .boolean) :: ws) ({ frames := 0, cells := 0, slots := 0, locals := 0 } : Room)) (fun a U => a = #[(.ref a1)] ∧ Z.Warmed39 U.vm ∧ U.heap = h0) (fun _ _ _ _ _ => True) (fun _ U o U' => ∃ v L, o = .returned v ∧ Q_rm4 Z a1 w_flags_a1 h0 n0 v U'.heap L ∧ FrameEnd U o U' L ({ frames := 0, cells := 0, slots := 0, locals := 0 } : Room).cells ({ frames := 0, cells := 0, slots := 0, locals := 0 } : Room).slots) := by
  refine MetFree.of_bodySF (plainFor_of_name pn_4) hisR ?_
  intro p e s m args below meth c s₁ Bd hml0 hP hK
  obtain ⟨rfl, hZ, hh⟩ := hP
  have hx := Bd.exec
  have hby := Bd.bytes
  have hml : c.maxLocals = 1 := hml0
  have hown : s.vm.findClass "com/example/wirecall/wirecall/protocol/Frame" = some m.cls := findClass_of_methodNamed Bd.named
  have hnm := (name_of_methodNamed Bd.named Bd.method).1
  have X0 : Stand p l e ({ frames := 0, cells := 0, slots := 0, locals := 0 } : Room) s m #[(.ref a1)] below meth c s₁ [] 0 0 := Stand.of_body Bd
  have e0 : s₁.heap = h0 := by rw [← hh, Bd.state]; rfl
  have N0 := Fr.nil n0
  have pre0 : ∀ t, Steps p.tables e below (s₁.setTop (mkF m 0 #[.val (.ref a1)] [])) t → Steps p.tables e below (s₁.setTop (entryFrame m #[(.ref a1)] 1)) t := fun t k => castTop (ef_4 m a1) k
  obtain ⟨T2, X2, e2, st2⟩ := getF X0 hx hZ hown (host := "") (Or.inl (hw _ (List.mem_of_getElem? (i := 15) rfl))) Via.refl e0 F_flags_a1 (g := (mkF m 1 #[.val (.ref a1)] [(.ref a1)])) rfl rfl (hb hby d4_1)
  obtain ⟨fs, hr, hrun, hended, hW, hsame⟩ := X2.leave (v := some (.int (1 : Int32))) (fun h => by rw [Bd.returns] at h; cases h)
  refine ⟨_, _, pre0 _ ?_, hrun, hended, _, _, rfl, ?_, ⟨_, rfl⟩, hW, hsame.mono (by decide) (by decide)⟩
  · show Steps p.tables e below (s₁.setTop (mkF m 0 #[.val (.ref a1)] [])) _
    refine XS.aloadN X0.here hx rfl (hb hby d4_0) rfl rfl ?_
    show Steps p.tables e below (s₁.setTop (mkF m 1 #[.val (.ref a1)] [(.ref a1)])) _
    refine st2 _ ?_
    show Steps p.tables e below (T2.setTop (mkF m 4 #[.val (.ref a1)] [(.int w_flags_a1)])) _
    refine XS.iconst X2.here hx rfl (hb hby d4_4) ?_
    show Steps p.tables e below (T2.setTop (mkF m 5 #[.val (.ref a1)] [(.int (4 : Int32)), (.int w_flags_a1)])) _
    refine XS.iand X2.here hx rfl (hb hby d4_5) rfl ?_
    show Steps p.tables e below (T2.setTop (mkF m 6 #[.val (.ref a1)] [(.int (w_flags_a1 &&& (4 : Int32)))])) _
    refine XS.ifNo X2.here hx rfl (hb hby d4_6) rfl ((if0 _ _).trans (feq hc6).1) ?_
    show Steps p.tables e below (T2.setTop (mkF m 9 #[.val (.ref a1)] [])) _
    refine XS.iconst X2.here hx rfl (hb hby d4_9) ?_
    show Steps p.tables e below (T2.setTop (mkF m 10 #[.val (.ref a1)] [(.int (1 : Int32))])) _
    refine XS.goto X2.here hx rfl (pc0 := 10) (pc' := 14) rfl (hb hby d4_10) (by decide) (by decide) ?_
    show Steps p.tables e below (T2.setTop (mkF m 14 #[.val (.ref a1)] [(.int (1 : Int32))])) _
    exact retN X2 hx (t := .boolean) Bd.returns (by simp) (hb hby d4_14) hr
  · show Q_rm4 Z a1 w_flags_a1 h0 n0 _ T2.heap _
    exact ⟨by rw [F4, if_neg hc6], N0, e2⟩
set_option maxRecDepth 65536 in
set_option maxHeartbeats 40000000 in
theorem rm4_t (l : Launch) (Z : State) (a0 : Array Value) (hw : ∀ d ∈ tables_1, d.before a0 Z = true) (ws : List Jvm.Cond) (a1 : Addr) (w_flags_a1 : Int32) (h0 : Heap) (n0 : Nat) (Z0 : n0 ≤ h0.size) (F_flags_a1 : Fld Z h0 a1 "com/example/wirecall/wirecall/protocol/Frame" "flags" "I" (.int w_flags_a1)) (hc6 : (w_flags_a1 &&& (4 : Int32)) = (0 : Int32)) :
    MetFree l (⟨"com/example/wirecall/wirecall/protocol/Frame", "oneWay", "()Z"⟩ : MethodName) (head1 (Jvm.Cond.code (⟨"com/example/wirecall/wirecall/protocol/Frame", "oneWay", "()Z"⟩ : MethodName) prog_10_method_7_code 1 (some .boolean) :: ws) ({ frames := 0, cells := 0, slots := 0, locals := 0 } : Room)) (fun a U => a = #[(.ref a1)] ∧ Z.Warmed39 U.vm ∧ U.heap = h0) (fun _ _ _ _ _ => True) (fun _ U o U' => ∃ v L, o = .returned v ∧ Q_rm4 Z a1 w_flags_a1 h0 n0 v U'.heap L ∧ FrameEnd U o U' L ({ frames := 0, cells := 0, slots := 0, locals := 0 } : Room).cells ({ frames := 0, cells := 0, slots := 0, locals := 0 } : Room).slots) := by
  refine MetFree.of_bodySF (plainFor_of_name pn_4) hisR ?_
  intro p e s m args below meth c s₁ Bd hml0 hP hK
  obtain ⟨rfl, hZ, hh⟩ := hP
  have hx := Bd.exec
  have hby := Bd.bytes
  have hml : c.maxLocals = 1 := hml0
  have hown : s.vm.findClass "com/example/wirecall/wirecall/protocol/Frame" = some m.cls := findClass_of_methodNamed Bd.named
  have hnm := (name_of_methodNamed Bd.named Bd.method).1
  have X0 : Stand p l e ({ frames := 0, cells := 0, slots := 0, locals := 0 } : Room) s m #[(.ref a1)] below meth c s₁ [] 0 0 := Stand.of_body Bd
  have e0 : s₁.heap = h0 := by rw [← hh, Bd.state]; rfl
  have N0 := Fr.nil n0
  have pre0 : ∀ t, Steps p.tables e below (s₁.setTop (mkF m 0 #[.val (.ref a1)] [])) t → Steps p.tables e below (s₁.setTop (entryFrame m #[(.ref a1)] 1)) t := fun t k => castTop (ef_4 m a1) k
  obtain ⟨T2, X2, e2, st2⟩ := getF X0 hx hZ hown (host := "") (Or.inl (hw _ (List.mem_of_getElem? (i := 15) rfl))) Via.refl e0 F_flags_a1 (g := (mkF m 1 #[.val (.ref a1)] [(.ref a1)])) rfl rfl (hb hby d4_1)
  obtain ⟨fs, hr, hrun, hended, hW, hsame⟩ := X2.leave (v := some (.int (0 : Int32))) (fun h => by rw [Bd.returns] at h; cases h)
  refine ⟨_, _, pre0 _ ?_, hrun, hended, _, _, rfl, ?_, ⟨_, rfl⟩, hW, hsame.mono (by decide) (by decide)⟩
  · show Steps p.tables e below (s₁.setTop (mkF m 0 #[.val (.ref a1)] [])) _
    refine XS.aloadN X0.here hx rfl (hb hby d4_0) rfl rfl ?_
    show Steps p.tables e below (s₁.setTop (mkF m 1 #[.val (.ref a1)] [(.ref a1)])) _
    refine st2 _ ?_
    show Steps p.tables e below (T2.setTop (mkF m 4 #[.val (.ref a1)] [(.int w_flags_a1)])) _
    refine XS.iconst X2.here hx rfl (hb hby d4_4) ?_
    show Steps p.tables e below (T2.setTop (mkF m 5 #[.val (.ref a1)] [(.int (4 : Int32)), (.int w_flags_a1)])) _
    refine XS.iand X2.here hx rfl (hb hby d4_5) rfl ?_
    show Steps p.tables e below (T2.setTop (mkF m 6 #[.val (.ref a1)] [(.int (w_flags_a1 &&& (4 : Int32)))])) _
    refine XS.ifYes X2.here hx rfl (pc0 := 6) (pc' := 13) rfl (hb hby d4_6) rfl ((if0 _ _).trans (teq hc6).1) (by decide) (by decide) ?_
    show Steps p.tables e below (T2.setTop (mkF m 13 #[.val (.ref a1)] [])) _
    refine XS.iconst X2.here hx rfl (hb hby d4_13) ?_
    show Steps p.tables e below (T2.setTop (mkF m 14 #[.val (.ref a1)] [(.int (0 : Int32))])) _
    exact retN X2 hx (t := .boolean) Bd.returns (by simp) (hb hby d4_14) hr
  · show Q_rm4 Z a1 w_flags_a1 h0 n0 _ T2.heap _
    exact ⟨by rw [F4, if_pos hc6], N0, e2⟩
set_option maxHeartbeats 4000000 in
theorem rm4 (l : Launch) (Z : State) (a0 : Array Value) (hw : ∀ d ∈ tables_1, d.before a0 Z = true) (ws : List Jvm.Cond) (a1 : Addr) (w_flags_a1 : Int32) (h0 : Heap) (n0 : Nat) (Z0 : n0 ≤ h0.size) (F_flags_a1 : Fld Z h0 a1 "com/example/wirecall/wirecall/protocol/Frame" "flags" "I" (.int w_flags_a1)) :
    MetFree l (⟨"com/example/wirecall/wirecall/protocol/Frame", "oneWay", "()Z"⟩ : MethodName) (head1 (Jvm.Cond.code (⟨"com/example/wirecall/wirecall/protocol/Frame", "oneWay", "()Z"⟩ : MethodName) prog_10_method_7_code 1 (some .boolean) :: ws) ({ frames := 0, cells := 0, slots := 0, locals := 0 } : Room)) (fun a U => a = #[(.ref a1)] ∧ Z.Warmed39 U.vm ∧ U.heap = h0) (fun _ _ _ _ _ => True) (fun _ U o U' => ∃ v L, o = .returned v ∧ Q_rm4 Z a1 w_flags_a1 h0 n0 v U'.heap L ∧ FrameEnd U o U' L ({ frames := 0, cells := 0, slots := 0, locals := 0 } : Room).cells ({ frames := 0, cells := 0, slots := 0, locals := 0 } : Room).slots) := by
  by_cases hc6 : (w_flags_a1 &&& (4 : Int32)) = (0 : Int32)
  · skip
    exact rm4_t l Z a0 hw ws a1 w_flags_a1 h0 n0 Z0 F_flags_a1 hc6
  · skip
    exact rm4_f l Z a0 hw ws a1 w_flags_a1 h0 n0 Z0 F_flags_a1 hc6
theorem d7_0 : decode prog_11_method_6_code 0 = .ok (.aload_n 0, 1) := by decide +kernel
theorem d7_1 : decode prog_11_method_6_code 1 = .ok (.getfield 35, 3) := by decide +kernel
theorem d7_4 : decode prog_11_method_6_code 4 = .ok (.ireturn, 1) := by decide +kernel
theorem pn_7 : plainName "com/example/wirecall/wirecall/protocol/FrameKind" = true := by first | (simp [plainName, overriddenIn]; done) | decide +kernel
theorem ef_7 (m : MethodId) (x0 : Addr) : entryFrame m #[(.ref x0)] 1 = mkF m 0 #[.val (.ref x0)] [] := by first | (simp [entryFrame, mkF, argsToLocals, Value.category]; done) | rfl
def Q_rm7 (Z : State) (a1 : Addr) (w_bits_a1 : Int32) (h0 : Heap) (n0 : Nat) (v : Option Value) (h : Heap) (L : List Loc) : Prop := v = some (.int w_bits_a1) ∧ Fr n0 L ∧ h = h0
set_option maxRecDepth 65536 in
set_option maxHeartbeats 40000000 in
theorem rm7 (l : Launch) (Z : State) (a0 : Array Value) (hw : ∀ d ∈ tables_1, d.before a0 Z = true) (ws : List Jvm.Cond) (a1 : Addr) (w_bits_a1 : Int32) (h0 : Heap) (n0 : Nat) (Z0 : n0 ≤ h0.size) (F_bits_a1 : Fld Z h0 a1 "com/example/wirecall/wirecall/protocol/FrameKind" "bits" "I" (.int w_bits_a1)) :
    MetFree l (⟨"com/example/wirecall/wirecall/protocol/FrameKind", "bits", "()I"⟩ : MethodName) (head1 (Jvm.Cond.code (⟨"com/example/wirecall/wirecall/protocol/FrameKind", "bits", "()I"⟩ : MethodName) prog_11_method_6_code 1 (some .int) :: ws) ({ frames := 0, cells := 0, slots := 0, locals := 0 } : Room)) (fun a U => a = #[(.ref a1)] ∧ Z.Warmed39 U.vm ∧ U.heap = h0) (fun _ _ _ _ _ => True) (fun _ U o U' => ∃ v L, o = .returned v ∧ Q_rm7 Z a1 w_bits_a1 h0 n0 v U'.heap L ∧ FrameEnd U o U' L ({ frames := 0, cells := 0, slots := 0, locals := 0 } : Room).cells ({ frames := 0, cells := 0, slots := 0, locals := 0 } : Room).slots) := by
  refine MetFree.of_bodySF (plainFor_of_name pn_7) hisR ?_
  intro p e s m args below meth c s₁ Bd hml0 hP hK
  obtain ⟨rfl, hZ, hh⟩ := hP
  have hx := Bd.exec
  have hby := Bd.bytes
  have hml : c.maxLocals = 1 := hml0
  have hown : s.vm.findClass "com/example/wirecall/wirecall/protocol/FrameKind" = some m.cls := findClass_of_methodNamed Bd.named
  have hnm := (name_of_methodNamed Bd.named Bd.method).1
  have X0 : Stand p l e ({ frames := 0, cells := 0, slots := 0, locals := 0 } : Room) s m #[(.ref a1)] below meth c s₁ [] 0 0 := Stand.of_body Bd
  have e0 : s₁.heap = h0 := by rw [← hh, Bd.state]; rfl
  have N0 := Fr.nil n0
  have pre0 : ∀ t, Steps p.tables e below (s₁.setTop (mkF m 0 #[.val (.ref a1)] [])) t → Steps p.tables e below (s₁.setTop (entryFrame m #[(.ref a1)] 1)) t := fun t k => castTop (ef_7 m a1) k
  obtain ⟨T2, X2, e2, st2⟩ := getF X0 hx hZ hown (host := "") (Or.inl (hw _ (List.mem_of_getElem? (i := 43) rfl))) Via.refl e0 F_bits_a1 (g := (mkF m 1 #[.val (.ref a1)] [(.ref a1)])) rfl rfl (hb hby d7_1)
  obtain ⟨fs, hr, hrun, hended, hW, hsame⟩ := X2.leave (v := some (.int w_bits_a1)) (fun h => by rw [Bd.returns] at h; cases h)
  refine ⟨_, _, pre0 _ ?_, hrun, hended, _, _, rfl, ?_, ⟨_, rfl⟩, hW, hsame.mono (by decide) (by decide)⟩
  · show Steps p.tables e below (s₁.setTop (mkF m 0 #[.val (.ref a1)] [])) _
    refine XS.aloadN X0.here hx rfl (hb hby d7_0) rfl rfl ?_
    show Steps p.tables e below (s₁.setTop (mkF m 1 #[.val (.ref a1)] [(.ref a1)])) _
    refine st2 _ ?_
    show Steps p.tables e below (T2.setTop (mkF m 4 #[.val (.ref a1)] [(.int w_bits_a1)])) _
    exact retI X2 hx Bd.returns (hb hby d7_4) hr
  · show Q_rm7 Z a1 w_bits_a1 h0 n0 _ T2.heap _
    exact ⟨rfl, N0, e2⟩
theorem d8_0 : decode prog_10_method_12_code 0 = .ok (.iload_n 0, 1) := by decide +kernel
theorem d8_1 : decode prog_10_method_12_code 1 = .ok (.ifCond .lt 8, 3) := by decide +kernel
theorem d8_4 : decode prog_10_method_12_code 4 = .ok (.iload_n 0, 1) := by decide +kernel
theorem d8_5 : decode prog_10_method_12_code 5 = .ok (.iconst 3, 1) := by decide +kernel
theorem d8_6 : decode prog_10_method_12_code 6 = .ok (.if_icmp .le 17, 3) := by decide +kernel
theorem d8_23 : decode prog_10_method_12_code 23 = .ok (.iload_n 0, 1) := by decide +kernel
theorem d8_24 : decode prog_10_method_12_code 24 = .ok (.iconst 3, 1) := by decide +kernel
theorem d8_25 : decode prog_10_method_12_code 25 = .ok (.ishl, 1) := by decide +kernel
theorem d8_26 : decode prog_10_method_12_code 26 = .ok (.ireturn, 1) := by decide +kernel
theorem pn_8 : plainName "com/example/wirecall/wirecall/protocol/Frame" = true := by first | (simp [plainName, overriddenIn]; done) | decide +kernel
theorem ef_8 (m : MethodId) (x0 : Int32) : entryFrame m #[(.int x0)] 1 = mkF m 0 #[.val (.int x0)] [] := by first | (simp [entryFrame, mkF, argsToLocals, Value.category]; done) | rfl
def Q_rm8 (Z : State) (p1 : Int32) (h0 : Heap) (n0 : Nat) (v : Option Value) (h : Heap) (L : List Loc) : Prop := v = some (.int (p1 <<< ((3 : Int32) &&& 31))) ∧ Fr n0 L ∧ h = h0
set_option maxRecDepth 65536 in
set_option maxHeartbeats 40000000 in
theorem rm8 (l : Launch) (Z : State) (a0 : Array Value) (hw : ∀ d ∈ tables_1, d.before a0 Z = true) (ws : List Jvm.Cond) (p1 : Int32) (h0 : Heap) (n0 : Nat) (Z0 : n0 ≤ h0.size) (hc1 : ¬ (p1 < (0 : Int32))) (hc6 : ¬ ((3 : Int32) < p1)) :
    MetFree l (⟨"com/example/wirecall/wirecall/protocol/Frame", "compressionBits", "(I)I"⟩ : MethodName) (head1 (Jvm.Cond.code (⟨"com/example/wirecall/wirecall/protocol/Frame", "compressionBits", "(I)I"⟩ : MethodName) prog_10_method_12_code 1 (some .int) :: ws) ({ frames := 0, cells := 0, slots := 0, locals := 0 } : Room)) (fun a U => a = #[(.int p1)] ∧ Z.Warmed39 U.vm ∧ U.heap = h0) (fun _ _ _ _ _ => True) (fun _ U o U' => ∃ v L, o = .returned v ∧ Q_rm8 Z p1 h0 n0 v U'.heap L ∧ FrameEnd U o U' L ({ frames := 0, cells := 0, slots := 0, locals := 0 } : Room).cells ({ frames := 0, cells := 0, slots := 0, locals := 0 } : Room).slots) := by
  refine MetFree.of_bodySF (plainFor_of_name pn_8) hisR ?_
  intro p e s m args below meth c s₁ Bd hml0 hP hK
  obtain ⟨rfl, hZ, hh⟩ := hP
  have hx := Bd.exec
  have hby := Bd.bytes
  have hml : c.maxLocals = 1 := hml0
  have hown : s.vm.findClass "com/example/wirecall/wirecall/protocol/Frame" = some m.cls := findClass_of_methodNamed Bd.named
  have hnm := (name_of_methodNamed Bd.named Bd.method).1
  have X0 : Stand p l e ({ frames := 0, cells := 0, slots := 0, locals := 0 } : Room) s m #[(.int p1)] below meth c s₁ [] 0 0 := Stand.of_body Bd
  have e0 : s₁.heap = h0 := by rw [← hh, Bd.state]; rfl
  have N0 := Fr.nil n0
  have pre0 : ∀ t, Steps p.tables e below (s₁.setTop (mkF m 0 #[.val (.int p1)] [])) t → Steps p.tables e below (s₁.setTop (entryFrame m #[(.int p1)] 1)) t := fun t k => castTop (ef_8 m p1) k
  obtain ⟨fs, hr, hrun, hended, hW, hsame⟩ := X0.leave (v := some (.int (p1 <<< ((3 : Int32) &&& 31)))) (fun h => by rw [Bd.returns] at h; cases h)
  refine ⟨_, _, pre0 _ ?_, hrun, hended, _, _, rfl, ?_, ⟨_, rfl⟩, hW, hsame.mono (by decide) (by decide)⟩
  · show Steps p.tables e below (s₁.setTop (mkF m 0 #[.val (.int p1)] [])) _
    refine XS.iloadN X0.here hx rfl (hb hby d8_0) rfl ?_
    show Steps p.tables e below (s₁.setTop (mkF m 1 #[.val (.int p1)] [(.int p1)])) _
    refine XS.ifNo X0.here hx rfl (hb hby d8_1) rfl ((if0 _ _).trans (flt hc1).1) ?_
    show Steps p.tables e below (s₁.setTop (mkF m 4 #[.val (.int p1)] [])) _
    refine XS.iloadN X0.here hx rfl (hb hby d8_4) rfl ?_
    show Steps p.tables e below (s₁.setTop (mkF m 5 #[.val (.int p1)] [(.int p1)])) _
    refine XS.iconst X0.here hx rfl (hb hby d8_5) ?_
    show Steps p.tables e below (s₁.setTop (mkF m 6 #[.val (.int p1)] [(.int (3 : Int32)), (.int p1)])) _
    refine XS.icmpYes X0.here hx rfl (pc0 := 6) (pc' := 23) rfl (hb hby d8_6) rfl (flt hc6).2.2.2 (by decide) (by decide) ?_
    show Steps p.tables e below (s₁.setTop (mkF m 23 #[.val (.int p1)] [])) _
    refine XS.iloadN X0.here hx rfl (hb hby d8_23) rfl ?_
    show Steps p.tables e below (s₁.setTop (mkF m 24 #[.val (.int p1)] [(.int p1)])) _
    refine XS.iconst X0.here hx rfl (hb hby d8_24) ?_
    show Steps p.tables e below (s₁.setTop (mkF m 25 #[.val (.int p1)] [(.int (3 : Int32)), (.int p1)])) _
    refine XS.ishl X0.here hx rfl (hb hby d8_25) rfl ?_
    show Steps p.tables e below (s₁.setTop (mkF m 26 #[.val (.int p1)] [(.int (p1 <<< ((3 : Int32) &&& 31)))])) _
    exact retI X0 hx Bd.returns (hb hby d8_26) hr
  · show Q_rm8 Z p1 h0 n0 _ s₁.heap _
    exact ⟨rfl, N0, e0⟩
theorem pd__28_29I : parseMethodDescriptor "()I" = some ⟨[], some .int⟩ := by decide +kernel
theorem pd__28I_29I : parseMethodDescriptor "(I)I" = some ⟨[.int], some .int⟩ := by decide +kernel
def t6_0 (p1 : Int32) (p2 : Int32) (w_bits_s_REQUEST : Int32) : Int32 := ((w_bits_s_REQUEST ||| (p2 <<< ((3 : Int32) &&& 31))) ||| (p1 <<< ((5 : Int32) &&& 31)))
theorem d6_0 : decode prog_10_method_11_code 0 = .ok (.iload_n 0, 1) := by decide +kernel
theorem d6_1 : decode prog_10_method_11_code 1 = .ok (.iconst 1, 1) := by decide +kernel
theorem d6_2 : decode prog_10_method_11_code 2 = .ok (.if_icmp .lt 9, 3) := by decide +kernel
theorem d6_5 : decode prog_10_method_11_code 5 = .ok (.iload_n 0, 1) := by decide +kernel
theorem d6_6 : decode prog_10_method_11_code 6 = .ok (.bipush 7, 2) := by decide +kernel
theorem d6_8 : decode prog_10_method_11_code 8 = .ok (.if_icmp .le 17, 3) := by decide +kernel
theorem d6_25 : decode prog_10_method_11_code 25 = .ok (.getstatic 75, 3) := by decide +kernel
theorem d6_28 : decode prog_10_method_11_code 28 = .ok (.invokevirtual 37, 3) := by decide +kernel
theorem d6_31 : decode prog_10_method_11_code 31 = .ok (.iload_n 1, 1) := by decide +kernel
theorem d6_32 : decode prog_10_method_11_code 32 = .ok (.invokestatic 54, 3) := by decide +kernel
theorem d6_35 : decode prog_10_method_11_code 35 = .ok (.ior, 1) := by decide +kernel
theorem d6_36 : decode prog_10_method_11_code 36 = .ok (.iload_n 0, 1) := by decide +kernel
theorem d6_37 : decode prog_10_method_11_code 37 = .ok (.iconst 5, 1) := by decide +kernel
theorem d6_38 : decode prog_10_method_11_code 38 = .ok (.ishl, 1) := by decide +kernel
theorem d6_39 : decode prog_10_method_11_code 39 = .ok (.ior, 1) := by decide +kernel
theorem d6_40 : decode prog_10_method_11_code 40 = .ok (.ireturn, 1) := by decide +kernel
theorem pn_6 : plainName "com/example/wirecall/wirecall/protocol/Frame" = true := by first | (simp [plainName, overriddenIn]; done) | decide +kernel
theorem ef_6 (m : MethodId) (x0 : Int32) (x1 : Int32) : entryFrame m #[(.int x0), (.int x1)] 2 = mkF m 0 #[.val (.int x0), .val (.int x1)] [] := by first | (simp [entryFrame, mkF, argsToLocals, Value.category]; done) | rfl
def Q_rm6 (Z : State) (p1 : Int32) (p2 : Int32) (s_REQUEST : Addr) (w_bits_s_REQUEST : Int32) (h0 : Heap) (n0 : Nat) (v : Option Value) (h : Heap) (L : List Loc) : Prop := v = some (.int (t6_0 p1 p2 w_bits_s_REQUEST)) ∧ Fr n0 L ∧ h = h0
set_option maxRecDepth 65536 in
set_option maxHeartbeats 40000000 in
theorem rm6 (l : Launch) (Z : State) (a0 : Array Value) (hw : ∀ d ∈ tables_1, d.before a0 Z = true) (ws : List Jvm.Cond) (p1 : Int32) (p2 : Int32) (s_REQUEST : Addr) (w_bits_s_REQUEST : Int32) (h0 : Heap) (n0 : Nat) (Z0 : n0 ≤ h0.size) (S_REQUEST : Sta Z h0 "com/example/wirecall/wirecall/protocol/FrameKind" "REQUEST" "Lcom/example/wirecall/wirecall/protocol/FrameKind;" (.ref s_REQUEST)) (F_bits_s_REQUEST : Fld Z h0 s_REQUEST "com/example/wirecall/wirecall/protocol/FrameKind" "bits" "I" (.int w_bits_s_REQUEST)) (E_s_REQUEST : Exa Z h0 s_REQUEST "com/example/wirecall/wirecall/protocol/FrameKind") (hc2 : ¬ (p1 < (1 : Int32))) (hc8 : ¬ ((7 : Int32) < p1)) (hhc1_32 : ¬ (p2 < (0 : Int32))) (hhc6_32 : ¬ ((3 : Int32) < p2)) :
    MetFree l (⟨"com/example/wirecall/wirecall/protocol/Frame", "requestFlags", "(II)I"⟩ : MethodName) (head1 (Jvm.Cond.code (⟨"com/example/wirecall/wirecall/protocol/Frame", "requestFlags", "(II)I"⟩ : MethodName) prog_10_method_11_code 2 (some .int) :: ws) ({ frames := 1, cells := 0, slots := 0, locals := 13 } : Room)) (fun a U => a = #[(.int p1), (.int p2)] ∧ Z.Warmed39 U.vm ∧ U.heap = h0) (fun _ _ _ _ _ => True) (fun _ U o U' => ∃ v L, o = .returned v ∧ Q_rm6 Z p1 p2 s_REQUEST w_bits_s_REQUEST h0 n0 v U'.heap L ∧ FrameEnd U o U' L ({ frames := 1, cells := 0, slots := 0, locals := 13 } : Room).cells ({ frames := 1, cells := 0, slots := 0, locals := 13 } : Room).slots) := by
  refine MetFree.of_bodySF (plainFor_of_name pn_6) hisR ?_
  intro p e s m args below meth c s₁ Bd hml0 hP hK
  obtain ⟨rfl, hZ, hh⟩ := hP
  have hx := Bd.exec
  have hby := Bd.bytes
  have hml : c.maxLocals = 2 := hml0
  have hown : s.vm.findClass "com/example/wirecall/wirecall/protocol/Frame" = some m.cls := findClass_of_methodNamed Bd.named
  have hnm := (name_of_methodNamed Bd.named Bd.method).1
  have X0 : Stand p l e ({ frames := 1, cells := 0, slots := 0, locals := 13 } : Room) s m #[(.int p1), (.int p2)] below meth c s₁ [] 0 0 := Stand.of_body Bd
  have e0 : s₁.heap = h0 := by rw [← hh, Bd.state]; rfl
  have N0 := Fr.nil n0
  have pre0 : ∀ t, Steps p.tables e below (s₁.setTop (mkF m 0 #[.val (.int p1), .val (.int p2)] [])) t → Steps p.tables e below (s₁.setTop (entryFrame m #[(.int p1), (.int p2)] 2)) t := fun t k => castTop (ef_6 m p1 p2) k
  obtain ⟨T3, X3, e3, st3⟩ := getS2 X0 hx hZ hown (host := "") (Or.inl (hw _ (List.mem_of_getElem? (i := 35) rfl))) Via.refl e0 S_REQUEST (g := (mkF m 25 #[.val (.int p1), .val (.int p2)] [])) rfl (hb hby d6_25)
  obtain ⟨cq4, kq4, q4a, q4b, q4c⟩ := isOf hZ e3 E_s_REQUEST
  obtain ⟨_, _, ⟨T4, L4, k4, n4⟩, -, X4, ⟨Lc4, hQ4, l4, y4, z4⟩, st4⟩ := X3.virtualBack hx (y := (⟨"com/example/wirecall/wirecall/protocol/FrameKind", "bits", "()I"⟩ : MethodName)) (z := (⟨"com/example/wirecall/wirecall/protocol/FrameKind", "bits", "()I"⟩ : MethodName)) hown (mvT hZ (hw _ (List.mem_of_getElem? (i := 38) rfl))) (mvT hZ (hw _ (List.mem_of_getElem? (i := 39) rfl))) (notFace_of_selects (args := #[]) (mvT hZ (hw _ (List.mem_of_getElem? (i := 41) rfl)))) (mvT hZ (hw _ (List.mem_of_getElem? (i := 41) rfl))) (mvT hZ (hw _ (List.mem_of_getElem? (i := 40) rfl))) (by decide) (backOf (W := 0) (rm7 l Z a0 hw [] s_REQUEST w_bits_s_REQUEST h0 n0 Z0 F_bits_s_REQUEST) hZ (hw _ (List.mem_of_getElem? (i := 42) rfl)) (hw _ (List.mem_of_getElem? (i := 36) rfl)) (by decide) (by decide)) q4a q4c (g := (mkF m 28 #[.val (.int p1), .val (.int p2)] [(.ref s_REQUEST)])) rfl (by rw [hml]; rfl) (Steps.refl _) (argsL := []) (rest := []) (lenOf pd__28_29I rfl) rfl (by show 2 * 0 + _ ≤ _; exact Nat.le_of_eq rfl) (hb hby d6_28) (fun _ _ => ⟨rfl, e3, (by decide : 0 + 0 ≤ _), (by decide : 0 + 0 ≤ _)⟩)
  dsimp only [Pt.U, Pt.locs, Pt.cells, Pt.slots] at X4 l4 y4 z4 st4 hQ4
  subst l4 y4 z4
  obtain ⟨rfl, N4q, e4⟩ := hQ4
  have N4 := Fr.app N0 N4q
  obtain ⟨_, _, ⟨T5, L5, k5, n5⟩, -, X5, ⟨Lc5, hQ5, l5, y5, z5⟩, st5⟩ := Jvm.LawKit.callS X4 hx (y := (⟨"com/example/wirecall/wirecall/protocol/Frame", "compressionBits", "(I)I"⟩ : MethodName)) hown (mvT hZ (hw _ (List.mem_of_getElem? (i := 45) rfl))) (mvT hZ (hw _ (List.mem_of_getElem? (i := 46) rfl))) (mvT hZ (hw _ (List.mem_of_getElem? (i := 3) rfl))) (mvT hZ (hw _ (List.mem_of_getElem? (i := 47) rfl))) (by decide) (backOf (W := 1) (rm8 l Z a0 hw [] p2 h0 n0 Z0 hhc1_32 hhc6_32) hZ (hw _ (List.mem_of_getElem? (i := 47) rfl)) (hw _ (List.mem_of_getElem? (i := 3) rfl)) (by decide) (by decide)) (g := (mkF m 32 #[.val (.int p1), .val (.int p2)] [(.int p2), (.int w_bits_s_REQUEST)])) rfl (by rw [hml]; rfl) (argsL := [(.int p2)]) (rest := [(.int w_bits_s_REQUEST)]) (lenOf pd__28I_29I rfl) rfl (by show 2 * 0 + _ ≤ _; exact Nat.le_of_eq rfl) (hb hby d6_32) (fun _ _ => ⟨rfl, e4, (by decide : 0 + 0 ≤ _), (by decide : 0 + 0 ≤ _)⟩)
  dsimp only [Pt.U, Pt.locs, Pt.cells, Pt.slots] at X5 l5 y5 z5 st5 hQ5
  subst l5 y5 z5
  obtain ⟨rfl, N5q, e5⟩ := hQ5
  have N5 := Fr.app N4 N5q
  obtain ⟨fs, hr, hrun, hended, hW, hsame⟩ := X5.leave (v := some (.int (t6_0 p1 p2 w_bits_s_REQUEST))) (fun h => by rw [Bd.returns] at h; cases h)
  refine ⟨_, _, pre0 _ ?_, hrun, hended, _, _, rfl, ?_, ⟨_, rfl⟩, hW, hsame.mono (by decide) (by decide)⟩
  · show Steps p.tables e below (s₁.setTop (mkF m 0 #[.val (.int p1), .val (.int p2)] [])) _
    refine XS.iloadN X0.here hx rfl (hb hby d6_0) rfl ?_
    show Steps p.tables e below (s₁.setTop (mkF m 1 #[.val (.int p1), .val (.int p2)] [(.int p1)])) _
    refine XS.iconst X0.here hx rfl (hb hby d6_1) ?_
    show Steps p.tables e below (s₁.setTop (mkF m 2 #[.val (.int p1), .val (.int p2)] [(.int (1 : Int32)), (.int p1)])) _
    refine XS.icmpNo X0.here hx rfl (hb hby d6_2) rfl (flt hc2).1 ?_
    show Steps p.tables e below (s₁.setTop (mkF m 5 #[.val (.int p1), .val (.int p2)] [])) _
    refine XS.iloadN X0.here hx rfl (hb hby d6_5) rfl ?_
    show Steps p.tables e below (s₁.setTop (mkF m 6 #[.val (.int p1), .val (.int p2)] [(.int p1)])) _
    refine XS.bipush X0.here hx rfl (hb hby d6_6) ?_
    show Steps p.tables e below (s₁.setTop (mkF m 8 #[.val (.int p1), .val (.int p2)] [(.int (7 : Int32)), (.int p1)])) _
    refine XS.icmpYes X0.here hx rfl (pc0 := 8) (pc' := 25) rfl (hb hby d6_8) rfl (flt hc8).2.2.2 (by decide) (by decide) ?_
    show Steps p.tables e below (s₁.setTop (mkF m 25 #[.val (.int p1), .val (.int p2)] [])) _
    refine st3 _ ?_
    show Steps p.tables e below (T3.setTop (mkF m 28 #[.val (.int p1), .val (.int p2)] [(.ref s_REQUEST)])) _
    refine st4.trans ?_
    show Steps p.tables e below (T4.setTop (mkF m 31 #[.val (.int p1), .val (.int p2)] [(.int w_bits_s_REQUEST)])) _
    refine XS.iloadN X4.here hx rfl (hb hby d6_31) rfl ?_
    show Steps p.tables e below (T4.setTop (mkF m 32 #[.val (.int p1), .val (.int p2)] [(.int p2), (.int w_bits_s_REQUEST)])) _
    refine st5 _ ?_
    show Steps p.tables e below (T5.setTop (mkF m 35 #[.val (.int p1), .val (.int p2)] [(.int (p2 <<< ((3 : Int32) &&& 31))), (.int w_bits_s_REQUEST)])) _
    refine XS.ior X5.here hx rfl (hb hby d6_35) rfl ?_
    show Steps p.tables e below (T5.setTop (mkF m 36 #[.val (.int p1), .val (.int p2)] [(.int (w_bits_s_REQUEST ||| (p2 <<< ((3 : Int32) &&& 31))))])) _
    refine XS.iloadN X5.here hx rfl (hb hby d6_36) rfl ?_
    show Steps p.tables e below (T5.setTop (mkF m 37 #[.val (.int p1), .val (.int p2)] [(.int p1), (.int (w_bits_s_REQUEST ||| (p2 <<< ((3 : Int32) &&& 31))))])) _
    refine XS.iconst X5.here hx rfl (hb hby d6_37) ?_
    show Steps p.tables e below (T5.setTop (mkF m 38 #[.val (.int p1), .val (.int p2)] [(.int (5 : Int32)), (.int p1), (.int (w_bits_s_REQUEST ||| (p2 <<< ((3 : Int32) &&& 31))))])) _
    refine XS.ishl X5.here hx rfl (hb hby d6_38) rfl ?_
    show Steps p.tables e below (T5.setTop (mkF m 39 #[.val (.int p1), .val (.int p2)] [(.int (p1 <<< ((5 : Int32) &&& 31))), (.int (w_bits_s_REQUEST ||| (p2 <<< ((3 : Int32) &&& 31))))])) _
    refine XS.ior X5.here hx rfl (hb hby d6_39) rfl ?_
    show Steps p.tables e below (T5.setTop (mkF m 40 #[.val (.int p1), .val (.int p2)] [(.int (t6_0 p1 p2 w_bits_s_REQUEST))])) _
    exact retI X5 hx Bd.returns (hb hby d6_40) hr
  · show Q_rm6 Z p1 p2 s_REQUEST w_bits_s_REQUEST h0 n0 _ T5.heap _
    exact ⟨rfl, N5, e5⟩
theorem pd__28II_29I : parseMethodDescriptor "(II)I" = some ⟨[.int, .int], some .int⟩ := by decide +kernel
theorem pd__28IIJ_5bB_29V : parseMethodDescriptor "(IIJ[B)V" = some ⟨[.int, .int, .long, (.array .byte)], none⟩ := by decide +kernel
theorem d5_0 : decode prog_10_method_2_code 0 = .ok (.new 1, 3) := by decide +kernel
theorem d5_3 : decode prog_10_method_2_code 3 = .ok (.dup, 1) := by decide +kernel
theorem d5_4 : decode prog_10_method_2_code 4 = .ok (.iload_n 2, 1) := by decide +kernel
theorem d5_5 : decode prog_10_method_2_code 5 = .ok (.iload_n 3, 1) := by decide +kernel
theorem d5_6 : decode prog_10_method_2_code 6 = .ok (.invokestatic 24, 3) := by decide +kernel
theorem d5_9 : decode prog_10_method_2_code 9 = .ok (.iconst 0, 1) := by decide +kernel
theorem d5_10 : decode prog_10_method_2_code 10 = .ok (.lload_n 0, 1) := by decide +kernel
theorem d5_11 : decode prog_10_method_2_code 11 = .ok (.aload 4, 2) := by decide +kernel
theorem d5_13 : decode prog_10_method_2_code 13 = .ok (.invokespecial 28, 3) := by decide +kernel
theorem d5_16 : decode prog_10_method_2_code 16 = .ok (.areturn, 1) := by decide +kernel
theorem pn_5 : plainName "com/example/wirecall/wirecall/protocol/Frame" = true := by first | (simp [plainName, overriddenIn]; done) | decide +kernel
theorem ef_5 (m : MethodId) (x0 : Int64) (x1 : Int32) (x2 : Int32) (x3 : Addr) : entryFrame m #[(.long x0), (.int x1), (.int x2), (.ref x3)] 5 = mkF m 0 #[.val (.long x0), .second, .val (.int x1), .val (.int x2), .val (.ref x3)] [] := by first | (simp [entryFrame, mkF, argsToLocals, Value.category]; done) | rfl
def Q_rm5 (Z : State) (q1 : Int64) (p2 : Int32) (p3 : Int32) (a4 : Addr) (s_REQUEST : Addr) (w_bits_s_REQUEST : Int32) (h0 : Heap) (n0 : Nat) (v : Option Value) (h : Heap) (L : List Loc) : Prop := ∃ b5 : Addr, v = some (.ref b5) ∧ Fr n0 L ∧ Keep h0 h [] ∧ h0.size ≤ b5 ∧ Exa Z h b5 "com/example/wirecall/wirecall/protocol/Frame" ∧ Fld Z h b5 "com/example/wirecall/wirecall/protocol/Frame" "flags" "I" (.int (t6_0 p2 p3 w_bits_s_REQUEST)) ∧ Fld Z h b5 "com/example/wirecall/wirecall/protocol/Frame" "status" "I" (.int (0 : Int32)) ∧ Fld Z h b5 "com/example/wirecall/wirecall/protocol/Frame" "id" "J" (.long q1) ∧ Fld Z h b5 "com/example/wirecall/wirecall/protocol/Frame" "body" "[B" (.ref a4)
set_option maxRecDepth 65536 in
set_option maxHeartbeats 40000000 in
theorem rm5 (l : Launch) (Z : State) (a0 : Array Value) (hw : ∀ d ∈ tables_1, d.before a0 Z = true) (ws : List Jvm.Cond) (q1 : Int64) (p2 : Int32) (p3 : Int32) (a4 : Addr) (s_REQUEST : Addr) (w_bits_s_REQUEST : Int32) (h0 : Heap) (n0 : Nat) (Z0 : n0 ≤ h0.size) (S_REQUEST : Sta Z h0 "com/example/wirecall/wirecall/protocol/FrameKind" "REQUEST" "Lcom/example/wirecall/wirecall/protocol/FrameKind;" (.ref s_REQUEST)) (F_bits_s_REQUEST : Fld Z h0 s_REQUEST "com/example/wirecall/wirecall/protocol/FrameKind" "bits" "I" (.int w_bits_s_REQUEST)) (E_s_REQUEST : Exa Z h0 s_REQUEST "com/example/wirecall/wirecall/protocol/FrameKind") (hhc2_6 : ¬ (p2 < (1 : Int32))) (hhc8_6 : ¬ ((7 : Int32) < p2)) (hhhc1_32_6 : ¬ (p3 < (0 : Int32))) (hhhc6_32_6 : ¬ ((3 : Int32) < p3)) :
    MetFree l (⟨"com/example/wirecall/wirecall/protocol/Frame", "request", "(JII[B)Lcom/example/wirecall/wirecall/protocol/Frame;"⟩ : MethodName) (head1 (Jvm.Cond.code (⟨"com/example/wirecall/wirecall/protocol/Frame", "request", "(JII[B)Lcom/example/wirecall/wirecall/protocol/Frame;"⟩ : MethodName) prog_10_method_2_code 5 (some (.object "com/example/wirecall/wirecall/protocol/Frame")) :: ws) ({ frames := 3, cells := 1, slots := 4, locals := 42 } : Room)) (fun a U => a = #[(.long q1), (.int p2), (.int p3), (.ref a4)] ∧ Z.Warmed39 U.vm ∧ U.heap = h0) (fun _ _ _ _ _ => True) (fun _ U o U' => ∃ v L, o = .returned v ∧ Q_rm5 Z q1 p2 p3 a4 s_REQUEST w_bits_s_REQUEST h0 n0 v U'.heap L ∧ FrameEnd U o U' L ({ frames := 3, cells := 1, slots := 4, locals := 42 } : Room).cells ({ frames := 3, cells := 1, slots := 4, locals := 42 } : Room).slots) := by
  refine MetFree.of_bodySF (plainFor_of_name pn_5) hisR ?_
  intro p e s m args below meth c s₁ Bd hml0 hP hK
  obtain ⟨rfl, hZ, hh⟩ := hP
  have hx := Bd.exec
  have hby := Bd.bytes
  have hml : c.maxLocals = 5 := hml0
  have hown : s.vm.findClass "com/example/wirecall/wirecall/protocol/Frame" = some m.cls := findClass_of_methodNamed Bd.named
  have hnm := (name_of_methodNamed Bd.named Bd.method).1
  have X0 : Stand p l e ({ frames := 3, cells := 1, slots := 4, locals := 42 } : Room) s m #[(.long q1), (.int p2), (.int p3), (.ref a4)] below meth c s₁ [] 0 0 := Stand.of_body Bd
  have e0 : s₁.heap = h0 := by rw [← hh, Bd.state]; rfl
  have N0 := Fr.nil n0
  have pre0 : ∀ t, Steps p.tables e below (s₁.setTop (mkF m 0 #[.val (.long q1), .second, .val (.int p2), .val (.int p3), .val (.ref a4)] [])) t → Steps p.tables e below (s₁.setTop (entryFrame m #[(.long q1), (.int p2), (.int p3), (.ref a4)] 5)) t := fun t k => castTop (ef_5 m q1 p2 p3 a4) k
  obtain ⟨T5, h5, X5, e5, E5, A5, D5, -, st5⟩ := newO X0 hx hZ hown (hw _ (List.mem_of_getElem? (i := 31) rfl)) (hw _ (List.mem_of_getElem? (i := 2) rfl)) (hw _ (List.mem_of_getElem? (i := 3) rfl)) e0 (g := (mkF m 0 #[.val (.long q1), .second, .val (.int p2), .val (.int p3), .val (.ref a4)] [])) rfl (hb hby d5_0) (by decide) (by decide)
  obtain ⟨b5, g5⟩ : ∃ z, z = h0.size := ⟨_, rfl⟩
  rw [← g5] at A5 D5 st5
  have g_b5 : n0 ≤ b5 := Nat.le_trans Z0 (Nat.le_of_eq g5.symm)
  have sz_b5 : h0.size ≤ b5 := Nat.le_trans (Nat.le_refl h0.size) (Nat.le_of_eq g5.symm)
  have F_flags_b5 : Fld Z h5 b5 "com/example/wirecall/wirecall/protocol/Frame" "flags" "I" (.int (0 : Int32)) := D5 (Or.inr (hw _ (List.mem_of_getElem? (i := 16) rfl))) (ty := .int) (by decide)
  have F_status_b5 : Fld Z h5 b5 "com/example/wirecall/wirecall/protocol/Frame" "status" "I" (.int (0 : Int32)) := D5 (Or.inr (hw _ (List.mem_of_getElem? (i := 18) rfl))) (ty := .int) (by decide)
  have F_id_b5 : Fld Z h5 b5 "com/example/wirecall/wirecall/protocol/Frame" "id" "J" (.long (0 : Int64)) := D5 (Or.inr (hw _ (List.mem_of_getElem? (i := 20) rfl))) (ty := .long) (by decide)
  have F_body_b5 : Fld Z h5 b5 "com/example/wirecall/wirecall/protocol/Frame" "body" "[B" .null := D5 (Or.inr (hw _ (List.mem_of_getElem? (i := 22) rfl))) (ty := (.array .byte)) (by decide)
  have f0 := (S_REQUEST.ext E5)
  have f1 := (F_bits_s_REQUEST.ext E5)
  have f2 := (E_s_REQUEST.ext E5)
  obtain ⟨_, _, ⟨T6, L6, k6, n6⟩, -, X6, ⟨Lc6, hQ6, l6, y6, z6⟩, st6⟩ := Jvm.LawKit.callS X5 hx (y := (⟨"com/example/wirecall/wirecall/protocol/Frame", "requestFlags", "(II)I"⟩ : MethodName)) hown (mvT hZ (hw _ (List.mem_of_getElem? (i := 32) rfl))) (mvT hZ (hw _ (List.mem_of_getElem? (i := 33) rfl))) (mvT hZ (hw _ (List.mem_of_getElem? (i := 3) rfl))) (mvT hZ (hw _ (List.mem_of_getElem? (i := 34) rfl))) (by decide) (backOf (W := 2) (rm6 l Z a0 hw [] p2 p3 s_REQUEST w_bits_s_REQUEST h5 n0 (Nat.le_trans Z0 E5.1) f0 f1 f2 hhc2_6 hhc8_6 hhhc1_32_6 hhhc6_32_6) hZ (hw _ (List.mem_of_getElem? (i := 34) rfl)) (hw _ (List.mem_of_getElem? (i := 3) rfl)) (by decide) (by decide)) (g := (mkF m 6 #[.val (.long q1), .second, .val (.int p2), .val (.int p3), .val (.ref a4)] [(.int p3), (.int p2), (.ref b5), (.ref b5)])) rfl (by rw [hml]; rfl) (argsL := [(.int p2), (.int p3)]) (rest := [(.ref b5), (.ref b5)]) (lenOf pd__28II_29I rfl) rfl (by show 2 * 0 + _ ≤ _; exact Nat.le_of_eq rfl) (hb hby d5_6) (fun _ _ => ⟨rfl, e5, (by decide : 1 + 0 ≤ _), (by decide : 4 + 0 ≤ _)⟩)
  dsimp only [Pt.U, Pt.locs, Pt.cells, Pt.slots] at X6 l6 y6 z6 st6 hQ6
  subst l6 y6 z6
  obtain ⟨rfl, N6q, e6⟩ := hQ6
  have N6 := Fr.app N0 N6q
  obtain ⟨_, _, ⟨T7, L7, k7, n7⟩, -, X7, ⟨Lc7, hQ7, l7, y7, z7⟩, st7⟩ := X6.specialBack hx (y := (⟨"com/example/wirecall/wirecall/protocol/Frame", "<init>", "(IIJ[B)V"⟩ : MethodName)) rfl hown (mvT hZ (hw _ (List.mem_of_getElem? (i := 48) rfl))) (mvT hZ (hw _ (List.mem_of_getElem? (i := 5) rfl))) (mvT hZ (hw _ (List.mem_of_getElem? (i := 6) rfl))) (by decide) (backOf (W := 1) (rm1 l Z a0 hw [] b5 (t6_0 p2 p3 w_bits_s_REQUEST) (0 : Int32) q1 a4 (0 : Int32) (0 : Int32) (0 : Int64) .null h5 n0 (Nat.le_trans Z0 E5.1) A5 F_flags_b5 g_b5 F_status_b5 F_id_b5 F_body_b5) hZ (hw _ (List.mem_of_getElem? (i := 6) rfl)) (hw _ (List.mem_of_getElem? (i := 3) rfl)) (by decide) (by decide)) (g := (mkF m 13 #[.val (.long q1), .second, .val (.int p2), .val (.int p3), .val (.ref a4)] [(.ref a4), (.long q1), (.int (0 : Int32)), (.int (t6_0 p2 p3 w_bits_s_REQUEST)), (.ref b5), (.ref b5)])) rfl (by rw [hml]; rfl) (Steps.refl _) (a := b5) (argsL := [(.int (t6_0 p2 p3 w_bits_s_REQUEST)), (.int (0 : Int32)), (.long q1), (.ref a4)]) (rest := [(.ref b5)]) (lenOf pd__28IIJ_5bB_29V rfl) rfl (by show 2 * 0 + _ ≤ _; exact Nat.le_of_eq rfl) (hb hby d5_13) (fun _ _ => ⟨rfl, e6, (by decide : 1 + 0 ≤ _), (by decide : 4 + 0 ≤ _)⟩)
  dsimp only [Pt.U, Pt.locs, Pt.cells, Pt.slots] at X7 l7 y7 z7 st7 hQ7
  subst l7 y7 z7
  obtain ⟨rfl, N7q, K7, i7_0, i7_1, i7_2, i7_3, i7_4⟩ := hQ7
  have N7 := Fr.app N6 N7q
  obtain ⟨fs, hr, hrun, hended, hW, hsame⟩ := X7.leave (v := some (.ref b5)) (fun h => by rw [Bd.returns] at h; cases h)
  refine ⟨_, _, pre0 _ ?_, hrun, hended, _, _, rfl, ?_, ⟨_, rfl⟩, hW, hsame.mono (by decide) (by decide)⟩
  · show Steps p.tables e below (s₁.setTop (mkF m 0 #[.val (.long q1), .second, .val (.int p2), .val (.int p3), .val (.ref a4)] [])) _
    refine st5 _ ?_
    show Steps p.tables e below (T5.setTop (mkF m 3 #[.val (.long q1), .second, .val (.int p2), .val (.int p3), .val (.ref a4)] [(.ref b5)])) _
    refine XS.dup X5.here hx rfl (hb hby d5_3) rfl rfl ?_
    show Steps p.tables e below (T5.setTop (mkF m 4 #[.val (.long q1), .second, .val (.int p2), .val (.int p3), .val (.ref a4)] [(.ref b5), (.ref b5)])) _
    refine XS.iloadN X5.here hx rfl (hb hby d5_4) rfl ?_
    show Steps p.tables e below (T5.setTop (mkF m 5 #[.val (.long q1), .second, .val (.int p2), .val (.int p3), .val (.ref a4)] [(.int p2), (.ref b5), (.ref b5)])) _
    refine XS.iloadN X5.here hx rfl (hb hby d5_5) rfl ?_
    show Steps p.tables e below (T5.setTop (mkF m 6 #[.val (.long q1), .second, .val (.int p2), .val (.int p3), .val (.ref a4)] [(.int p3), (.int p2), (.ref b5), (.ref b5)])) _
    refine st6 _ ?_
    show Steps p.tables e below (T6.setTop (mkF m 9 #[.val (.long q1), .second, .val (.int p2), .val (.int p3), .val (.ref a4)] [(.int (t6_0 p2 p3 w_bits_s_REQUEST)), (.ref b5), (.ref b5)])) _
    refine XS.iconst X6.here hx rfl (hb hby d5_9) ?_
    show Steps p.tables e below (T6.setTop (mkF m 10 #[.val (.long q1), .second, .val (.int p2), .val (.int p3), .val (.ref a4)] [(.int (0 : Int32)), (.int (t6_0 p2 p3 w_bits_s_REQUEST)), (.ref b5), (.ref b5)])) _
    refine XS.lloadN X6.here hx rfl (hb hby d5_10) rfl ?_
    show Steps p.tables e below (T6.setTop (mkF m 11 #[.val (.long q1), .second, .val (.int p2), .val (.int p3), .val (.ref a4)] [(.long q1), (.int (0 : Int32)), (.int (t6_0 p2 p3 w_bits_s_REQUEST)), (.ref b5), (.ref b5)])) _
    refine XS.aload X6.here hx rfl (hb hby d5_11) rfl rfl ?_
    show Steps p.tables e below (T6.setTop (mkF m 13 #[.val (.long q1), .second, .val (.int p2), .val (.int p3), .val (.ref a4)] [(.ref a4), (.long q1), (.int (0 : Int32)), (.int (t6_0 p2 p3 w_bits_s_REQUEST)), (.ref b5), (.ref b5)])) _
    refine st7.trans ?_
    show Steps p.tables e below (T7.setTop (mkF m 16 #[.val (.long q1), .second, .val (.int p2), .val (.int p3), .val (.ref a4)] [(.ref b5)])) _
    jvm_step X7.here [X7.here.top, hx, (hb hby d5_16), X7.method', Bd.returns, Value.isRef, FieldType.isReference]
    first | (intro acts; rw [hr _ acts rfl rfl rfl]) | rw [hr _ _ rfl rfl rfl]
    exact Steps.refl _
  · show Q_rm5 Z q1 p2 p3 a4 s_REQUEST w_bits_s_REQUEST h0 n0 _ T7.heap _
    exact ⟨b5, ⟨rfl, N7, (((Keep.refl h0 []).ext E5).trans K7 (fun x q => (List.mem_cons.mp q).elim (fun r => r ▸ (Or.inr sz_b5)) ((fun _ q => nomatch q) x))), sz_b5, i7_0, i7_1, i7_2, i7_3, i7_4⟩⟩
theorem own_c2 (x : Int32) (h1 : 0 ≤ x.toInt) (h2 : x.toInt ≤ 1) : x = (0 : Int32) ∨ x = (1 : Int32) := by
  have h : x.toInt = 0 ∨ x.toInt = 1 := by omega
  rcases h with q | q
  · exact Or.inl (Int32.toInt_inj.mp (by rw [q]; rfl))
  · exact Or.inr (Int32.toInt_inj.mp (by rw [q]; rfl))
theorem own_c8 (x : Int32) (h1 : 0 ≤ x.toInt) (h2 : x.toInt ≤ 7) : x = (0 : Int32) ∨ x = (1 : Int32) ∨ x = (2 : Int32) ∨ x = (3 : Int32) ∨ x = (4 : Int32) ∨ x = (5 : Int32) ∨ x = (6 : Int32) ∨ x = (7 : Int32) := by
  have h : x.toInt = 0 ∨ x.toInt = 1 ∨ x.toInt = 2 ∨ x.toInt = 3 ∨ x.toInt = 4 ∨ x.toInt = 5 ∨ x.toInt = 6 ∨ x.toInt = 7 := by omega
  rcases h with q | q | q | q | q | q | q | q
  · exact Or.inl (Int32.toInt_inj.mp (by rw [q]; rfl))
  · exact Or.inr (Or.inl (Int32.toInt_inj.mp (by rw [q]; rfl)))
  · exact Or.inr (Or.inr (Or.inl (Int32.toInt_inj.mp (by rw [q]; rfl))))
  · exact Or.inr (Or.inr (Or.inr (Or.inl (Int32.toInt_inj.mp (by rw [q]; rfl)))))
  · exact Or.inr (Or.inr (Or.inr (Or.inr (Or.inl (Int32.toInt_inj.mp (by rw [q]; rfl))))))
  · exact Or.inr (Or.inr (Or.inr (Or.inr (Or.inr (Or.inl (Int32.toInt_inj.mp (by rw [q]; rfl)))))))
  · exact Or.inr (Or.inr (Or.inr (Or.inr (Or.inr (Or.inr (Or.inl (Int32.toInt_inj.mp (by rw [q]; rfl))))))))
  · exact Or.inr (Or.inr (Or.inr (Or.inr (Or.inr (Or.inr (Or.inr (Int32.toInt_inj.mp (by rw [q]; rfl))))))))
theorem own_m3 (x : Int32) : x &&& 3 ∈ [(0 : Int32), 1, 2, 3] := by rcases own_and3 x with h | h | h | h <;> rw [h] <;> decide
theorem own_m1 (x : Int32) : x &&& 1 ∈ [(0 : Int32), 1] := by
  have h := own_mask x 1 1 (by decide) (by decide)
  rcases own_c2 (x &&& 1) (by rw [h]; omega) (by rw [h]; omega) with h | h <;> rw [h] <;> decide
theorem own_m7 (x : Int32) : x &&& 7 ∈ [(0 : Int32), 1, 2, 3, 4, 5, 6, 7] := by
  have h := own_mask x 7 3 (by decide) (by decide)
  rcases own_c8 (x &&& 7) (by rw [h]; omega) (by rw [h]; omega) with h | h | h | h | h | h | h | h <;> rw [h] <;> decide
theorem own_fl : ∀ k ∈ [(0 : Int32), 1, 2, 3], ∀ o ∈ [(0 : Int32), 1], ∀ c ∈ [(0 : Int32), 1, 2, 3], ∀ s ∈ [(0 : Int32), 1, 2, 3, 4, 5, 6, 7], F4 (((k + ((4 : Int32) * o)) + ((8 : Int32) * c)) + ((32 : Int32) * s)) = if o = (1 : Int32) then (1 : Int32) else (0 : Int32) := by decide +kernel
theorem own_rq : ∀ c ∈ [(0 : Int32), 1, 2, 3], ∀ s ∈ [(0 : Int32), 1, 2, 3, 4, 5, 6, 7], F4 (t6_0 s c (0 : Int32)) = (0 : Int32) := by decide +kernel
theorem own_cl : ∀ c ∈ [(0 : Int32), 1, 2, 3], ¬ (c < (0 : Int32)) ∧ ¬ ((3 : Int32) < c) := by decide +kernel
theorem own_sl : ∀ s ∈ [(0 : Int32), 1, 2, 3, 4, 5, 6, 7], ¬ (s = (0 : Int32)) → ¬ (s < (1 : Int32)) ∧ ¬ ((7 : Int32) < s) := by decide +kernel
theorem own_92 (p1 p2 p3 p4 : Int32) : F4 ((((p1 &&& (3 : Int32)) + ((4 : Int32) * (p2 &&& (1 : Int32)))) + ((8 : Int32) * (p3 &&& (3 : Int32)))) + ((32 : Int32) * (p4 &&& (7 : Int32)))) = if (p2 &&& (1 : Int32)) = (1 : Int32) then (1 : Int32) else (0 : Int32) := own_fl _ (own_m3 p1) _ (own_m1 p2) _ (own_m3 p3) _ (own_m7 p4)
theorem pd__28_29Z : parseMethodDescriptor "()Z" = some ⟨[], some .boolean⟩ := by decide +kernel
theorem pd__28JII_5bB_29Lcom_2fexample_2fwirecall_2fwirecall_2fprotocol_2fFrame_3b : parseMethodDescriptor "(JII[B)Lcom/example/wirecall/wirecall/protocol/Frame;" = some ⟨[.long, .int, .int, (.array .byte)], some (.object "com/example/wirecall/wirecall/protocol/Frame")⟩ := by decide +kernel
def t0_0 (p1 : Int32) (p2 : Int32) (p3 : Int32) (p4 : Int32) : Int32 := ((((p1 &&& (3 : Int32)) + ((4 : Int32) * (p2 &&& (1 : Int32)))) + ((8 : Int32) * (p3 &&& (3 : Int32)))) + ((32 : Int32) * (p4 &&& (7 : Int32))))
def t0_1 (p3 : Int32) (w_bits_s_REQUEST : Int32) : Int32 := (F4 (t6_0 (1 : Int32) (p3 &&& (3 : Int32)) w_bits_s_REQUEST))
def t0_2 (p3 : Int32) (p4 : Int32) (w_bits_s_REQUEST : Int32) : Int32 := (F4 (t6_0 (p4 &&& (7 : Int32)) (p3 &&& (3 : Int32)) w_bits_s_REQUEST))
theorem pn_0 : plainName "com/example/wirecall/wirecall/protocol/FrameOneWayPinLaw" = true := by first | (simp [plainName, overriddenIn]; done) | decide +kernel
theorem ef_0 (m : MethodId) (x0 : Int32) (x1 : Int32) (x2 : Int32) (x3 : Int32) (x4 : Int32) (x5 : Int64) : entryFrame m #[(.int x0), (.int x1), (.int x2), (.int x3), (.int x4), (.long x5)] maxLocals = mkF m 0 #[.val (.int x0), .val (.int x1), .val (.int x2), .val (.int x3), .val (.int x4), .val (.long x5), .second, .unset, .unset, .unset, .unset, .unset, .unset, .unset, .unset, .unset, .unset, .unset] [] := by first | (simp [entryFrame, mkF, argsToLocals, Value.category, maxLocals]; done) | rfl
def Q_rm0 (Z : State) (p1 : Int32) (p2 : Int32) (p3 : Int32) (p4 : Int32) (p5 : Int32) (q6 : Int64) (s_REQUEST : Addr) (w_bits_s_REQUEST : Int32) (h0 : Heap) (n0 : Nat) (v : Option Value) (h : Heap) (L : List Loc) : Prop := v = some (.int (1 : Int32)) ∧ Fr n0 L
set_option maxRecDepth 65536 in
set_option maxHeartbeats 40000000 in
theorem rm0_ff (l : Launch) (Z : State) (a0 : Array Value) (hw : ∀ d ∈ tables_1, d.before a0 Z = true) (ws : List Jvm.Cond) (p1 : Int32) (p2 : Int32) (p3 : Int32) (p4 : Int32) (p5 : Int32) (q6 : Int64) (s_REQUEST : Addr) (w_bits_s_REQUEST : Int32) (h0 : Heap) (n0 : Nat) (Z0 : n0 ≤ h0.size) (hb0 : w_bits_s_REQUEST = (0 : Int32)) (S_REQUEST : Sta Z h0 "com/example/wirecall/wirecall/protocol/FrameKind" "REQUEST" "Lcom/example/wirecall/wirecall/protocol/FrameKind;" (.ref s_REQUEST)) (F_bits_s_REQUEST : Fld Z h0 s_REQUEST "com/example/wirecall/wirecall/protocol/FrameKind" "bits" "I" (.int w_bits_s_REQUEST)) (E_s_REQUEST : Exa Z h0 s_REQUEST "com/example/wirecall/wirecall/protocol/FrameKind") (hc75 : (p2 &&& (1 : Int32)) = (1 : Int32)) (hc99 : (p4 &&& (7 : Int32)) = (0 : Int32)) :
    MetFree l x (head1 (Jvm.Cond.code x code maxLocals ret :: ws) room_1) (fun a U => a = #[(.int p1), (.int p2), (.int p3), (.int p4), (.int p5), (.long q6)] ∧ Z.Warmed39 U.vm ∧ U.heap = h0) (fun _ _ _ _ _ => True) (fun _ U o U' => ∃ v L, o = .returned v ∧ Q_rm0 Z p1 p2 p3 p4 p5 q6 s_REQUEST w_bits_s_REQUEST h0 n0 v U'.heap L ∧ FrameEnd U o U' L room_1.cells room_1.slots) := by
  refine MetFree.of_bodySF (plainFor_of_name pn_0) hisR ?_
  intro p e s m args below meth c s₁ Bd hml0 hP hK
  obtain ⟨rfl, hZ, hh⟩ := hP
  have hx := Bd.exec
  have hby := Bd.bytes
  have hml : c.maxLocals = 18 := hml0
  have hown : s.vm.findClass "com/example/wirecall/wirecall/protocol/FrameOneWayPinLaw" = some m.cls := findClass_of_methodNamed Bd.named
  have hnm := (name_of_methodNamed Bd.named Bd.method).1
  have X0 : Stand p l e room_1 s m #[(.int p1), (.int p2), (.int p3), (.int p4), (.int p5), (.long q6)] below meth c s₁ [] 0 0 := Stand.of_body Bd
  have e0 : s₁.heap = h0 := by rw [← hh, Bd.state]; rfl
  have N0 := Fr.nil n0
  have pre0 : ∀ t, Steps p.tables e below (s₁.setTop (mkF m 0 #[.val (.int p1), .val (.int p2), .val (.int p3), .val (.int p4), .val (.int p5), .val (.long q6), .second, .unset, .unset, .unset, .unset, .unset, .unset, .unset, .unset, .unset, .unset, .unset] [])) t → Steps p.tables e below (s₁.setTop (entryFrame m #[(.int p1), (.int p2), (.int p3), (.int p4), (.int p5), (.long q6)] maxLocals)) t := fun t k => castTop (ef_0 m p1 p2 p3 p4 p5 q6) k
  obtain ⟨T7, h7, k7, X7, e7, E7, A7, st7⟩ := newP X0 hx hZ (hw _ (List.mem_of_getElem? (i := 0) rfl)) e0 (g := (mkF m 51 #[.val (.int p1), .val (.int p2), .val (.int p3), .val (.int p4), .val (.int p5), .val (.long q6), .second, .val (.int (p1 &&& (3 : Int32))), .val (.int (p2 &&& (1 : Int32))), .val (.int (p3 &&& (3 : Int32))), .val (.int (p4 &&& (7 : Int32))), .val (.int (p5 &&& (255 : Int32))), .val (.int (t0_0 p1 p2 p3 p4)), .unset, .unset, .unset, .unset, .unset] [(.int (0 : Int32))])) rfl (hb hby at_51) rfl (by decide) (cap := 0) (by decide) (by decide) (by decide) (by decide)
  obtain ⟨b7, g7⟩ : ∃ z, z = h0.size := ⟨_, rfl⟩
  rw [← g7] at A7 st7
  have g_b7 : n0 ≤ b7 := Nat.le_trans Z0 (Nat.le_of_eq g7.symm)
  have sz_b7 : h0.size ≤ b7 := Nat.le_trans (Nat.le_refl h0.size) (Nat.le_of_eq g7.symm)
  have V_b7 : Arv Z h7 b7 k7 .byte (0 : Int32) [] (.int (0 : Int32)) := (Arv.new A7 (by decide)).pad (pad_rep [] (.int (0 : Int32)) 0)
  have f0 := (F_bits_s_REQUEST.ext E7)
  obtain ⟨T8, h8, X8, e8, E8, A8, D8, -, st8⟩ := newO X7 hx hZ hown (hw _ (List.mem_of_getElem? (i := 1) rfl)) (hw _ (List.mem_of_getElem? (i := 2) rfl)) (hw _ (List.mem_of_getElem? (i := 3) rfl)) e7 (g := (mkF m 55 #[.val (.int p1), .val (.int p2), .val (.int p3), .val (.int p4), .val (.int p5), .val (.long q6), .second, .val (.int (p1 &&& (3 : Int32))), .val (.int (p2 &&& (1 : Int32))), .val (.int (p3 &&& (3 : Int32))), .val (.int (p4 &&& (7 : Int32))), .val (.int (p5 &&& (255 : Int32))), .val (.int (t0_0 p1 p2 p3 p4)), .val (.ref b7), .unset, .unset, .unset, .unset] [])) rfl (hb hby at_55) (by decide) (by decide)
  obtain ⟨b8, g8⟩ : ∃ z, z = h7.size := ⟨_, rfl⟩
  rw [← g8] at A8 D8 st8
  have g_b8 : n0 ≤ b8 := Nat.le_trans (Nat.le_trans Z0 E7.1) (Nat.le_of_eq g8.symm)
  have sz_b8 : h0.size ≤ b8 := Nat.le_trans (Nat.le_trans (Nat.le_refl h0.size) E7.1) (Nat.le_of_eq g8.symm)
  have F_flags_b8 : Fld Z h8 b8 "com/example/wirecall/wirecall/protocol/Frame" "flags" "I" (.int (0 : Int32)) := D8 (Or.inr (hw _ (List.mem_of_getElem? (i := 16) rfl))) (ty := .int) (by decide)
  have F_status_b8 : Fld Z h8 b8 "com/example/wirecall/wirecall/protocol/Frame" "status" "I" (.int (0 : Int32)) := D8 (Or.inr (hw _ (List.mem_of_getElem? (i := 18) rfl))) (ty := .int) (by decide)
  have F_id_b8 : Fld Z h8 b8 "com/example/wirecall/wirecall/protocol/Frame" "id" "J" (.long (0 : Int64)) := D8 (Or.inr (hw _ (List.mem_of_getElem? (i := 20) rfl))) (ty := .long) (by decide)
  have F_body_b8 : Fld Z h8 b8 "com/example/wirecall/wirecall/protocol/Frame" "body" "[B" .null := D8 (Or.inr (hw _ (List.mem_of_getElem? (i := 22) rfl))) (ty := (.array .byte)) (by decide)
  obtain ⟨_, _, ⟨T9, L9, k9, n9⟩, -, X9, ⟨Lc9, hQ9, l9, y9, z9⟩, st9⟩ := X8.specialBack hx (y := (⟨"com/example/wirecall/wirecall/protocol/Frame", "<init>", "(IIJ[B)V"⟩ : MethodName)) rfl hown (mvT hZ (hw _ (List.mem_of_getElem? (i := 4) rfl))) (mvT hZ (hw _ (List.mem_of_getElem? (i := 5) rfl))) (mvT hZ (hw _ (List.mem_of_getElem? (i := 6) rfl))) (by decide) (backOf (W := 1) (rm1 l Z a0 hw [] b8 (t0_0 p1 p2 p3 p4) (p5 &&& (255 : Int32)) q6 b7 (0 : Int32) (0 : Int32) (0 : Int64) .null h8 n0 (Nat.le_trans (Nat.le_trans Z0 E7.1) E8.1) A8 F_flags_b8 g_b8 F_status_b8 F_id_b8 F_body_b8) hZ (hw _ (List.mem_of_getElem? (i := 6) rfl)) (hw _ (List.mem_of_getElem? (i := 3) rfl)) (by decide) (by decide)) (g := (mkF m 67 #[.val (.int p1), .val (.int p2), .val (.int p3), .val (.int p4), .val (.int p5), .val (.long q6), .second, .val (.int (p1 &&& (3 : Int32))), .val (.int (p2 &&& (1 : Int32))), .val (.int (p3 &&& (3 : Int32))), .val (.int (p4 &&& (7 : Int32))), .val (.int (p5 &&& (255 : Int32))), .val (.int (t0_0 p1 p2 p3 p4)), .val (.ref b7), .unset, .unset, .unset, .unset] [(.ref b7), (.long q6), (.int (p5 &&& (255 : Int32))), (.int (t0_0 p1 p2 p3 p4)), (.ref b8), (.ref b8)])) rfl (by rw [hml]; rfl) (Steps.refl _) (a := b8) (argsL := [(.int (t0_0 p1 p2 p3 p4)), (.int (p5 &&& (255 : Int32))), (.long q6), (.ref b7)]) (rest := [(.ref b8)]) (lenOf pd__28IIJ_5bB_29V rfl) rfl (by show 2 * 0 + _ ≤ _; exact Nat.le_of_eq rfl) (hb hby at_67) (fun _ _ => ⟨rfl, e8, (by decide : 2 + 0 ≤ _), (by decide : 4 + 0 ≤ _)⟩)
  dsimp only [Pt.U, Pt.locs, Pt.cells, Pt.slots] at X9 l9 y9 z9 st9 hQ9
  subst l9 y9 z9
  obtain ⟨rfl, N9q, K9, i9_0, i9_1, i9_2, i9_3, i9_4⟩ := hQ9
  have N9 := Fr.app N0 N9q
  obtain ⟨cq10, kq10, q10a, q10b, q10c⟩ := isOf hZ rfl i9_0
  obtain ⟨_, _, ⟨T10, L10, k10, n10⟩, -, X10, ⟨Lc10, hQ10, l10, y10, z10⟩, st10⟩ := X9.virtualBack hx (y := (⟨"com/example/wirecall/wirecall/protocol/Frame", "oneWay", "()Z"⟩ : MethodName)) (z := (⟨"com/example/wirecall/wirecall/protocol/Frame", "oneWay", "()Z"⟩ : MethodName)) hown (mvT hZ (hw _ (List.mem_of_getElem? (i := 23) rfl))) (mvT hZ (hw _ (List.mem_of_getElem? (i := 24) rfl))) (notFace_of_selects (args := #[]) (mvT hZ (hw _ (List.mem_of_getElem? (i := 26) rfl)))) (mvT hZ (hw _ (List.mem_of_getElem? (i := 26) rfl))) (mvT hZ (hw _ (List.mem_of_getElem? (i := 25) rfl))) (by decide) (backOf (W := 0) (rm4 l Z a0 hw [] b8 (t0_0 p1 p2 p3 p4) T9.heap n0 (Nat.le_trans (Nat.le_trans (Nat.le_trans Z0 E7.1) E8.1) K9.1) i9_1) hZ (hw _ (List.mem_of_getElem? (i := 27) rfl)) (hw _ (List.mem_of_getElem? (i := 3) rfl)) (by decide) (by decide)) q10a q10c (g := (mkF m 87 #[.val (.int p1), .val (.int p2), .val (.int p3), .val (.int p4), .val (.int p5), .val (.long q6), .second, .val (.int (p1 &&& (3 : Int32))), .val (.int (p2 &&& (1 : Int32))), .val (.int (p3 &&& (3 : Int32))), .val (.int (p4 &&& (7 : Int32))), .val (.int (p5 &&& (255 : Int32))), .val (.int (t0_0 p1 p2 p3 p4)), .val (.ref b7), .val (.ref b8), .val (.int (1 : Int32)), .unset, .unset] [(.ref b8)])) rfl (by rw [hml]; rfl) (Steps.refl _) (argsL := []) (rest := []) (lenOf pd__28_29Z rfl) rfl (by show 2 * 0 + _ ≤ _; exact Nat.le_of_eq rfl) (hb hby at_87) (fun _ _ => ⟨rfl, rfl, (by decide : 2 + 0 ≤ _), (by decide : 4 + 0 ≤ _)⟩)
  dsimp only [Pt.U, Pt.locs, Pt.cells, Pt.slots] at X10 l10 y10 z10 st10 hQ10
  subst l10 y10 z10
  obtain ⟨rfl, N10q, e10⟩ := hQ10
  have N10 := Fr.app N9 N10q
  have f1 := (own_sta_keep ((S_REQUEST.ext E7).ext E8) K9 (own_qc (own_nst A8) own_q0))
  have f2 := ((f0.ext E8).keep K9 (own_nm (Nat.ne_of_lt (Nat.lt_of_lt_of_le f0.lt (Nat.le_of_eq g8.symm))) own_n0))
  have f3 := (((E_s_REQUEST.ext E7).ext E8).keep K9)
  obtain ⟨_, _, ⟨T11, L11, k11, n11⟩, -, X11, ⟨Lc11, hQ11, l11, y11, z11⟩, st11⟩ := Jvm.LawKit.callS X10 hx (y := (⟨"com/example/wirecall/wirecall/protocol/Frame", "request", "(JII[B)Lcom/example/wirecall/wirecall/protocol/Frame;"⟩ : MethodName)) hown (mvT hZ (hw _ (List.mem_of_getElem? (i := 28) rfl))) (mvT hZ (hw _ (List.mem_of_getElem? (i := 29) rfl))) (mvT hZ (hw _ (List.mem_of_getElem? (i := 3) rfl))) (mvT hZ (hw _ (List.mem_of_getElem? (i := 30) rfl))) (by decide) (backOf (W := 0) (rm5 l Z a0 hw [] q6 (1 : Int32) (p3 &&& (3 : Int32)) b7 s_REQUEST w_bits_s_REQUEST T9.heap n0 (Nat.le_trans (Nat.le_trans (Nat.le_trans Z0 E7.1) E8.1) K9.1) f1 f2 f3 (by first | exact (own_sl _ (own_m7 p4) hc99).1 | decide) (by first | exact (own_sl _ (own_m7 p4) hc99).2 | decide) ((own_cl _ (own_m3 p3)).1) ((own_cl _ (own_m3 p3)).2)) hZ (hw _ (List.mem_of_getElem? (i := 30) rfl)) (hw _ (List.mem_of_getElem? (i := 3) rfl)) (by decide) (by decide)) (g := (mkF m 118 #[.val (.int p1), .val (.int p2), .val (.int p3), .val (.int p4), .val (.int p5), .val (.long q6), .second, .val (.int (p1 &&& (3 : Int32))), .val (.int (p2 &&& (1 : Int32))), .val (.int (p3 &&& (3 : Int32))), .val (.int (p4 &&& (7 : Int32))), .val (.int (p5 &&& (255 : Int32))), .val (.int (t0_0 p1 p2 p3 p4)), .val (.ref b7), .val (.ref b8), .val (.int (1 : Int32)), .val (.int (1 : Int32)), .unset] [(.ref b7), (.int (p3 &&& (3 : Int32))), (.int (1 : Int32)), (.long q6)])) rfl (by rw [hml]; rfl) (argsL := [(.long q6), (.int (1 : Int32)), (.int (p3 &&& (3 : Int32))), (.ref b7)]) (rest := []) (lenOf pd__28JII_5bB_29Lcom_2fexample_2fwirecall_2fwirecall_2fprotocol_2fFrame_3b rfl) rfl (by show 2 * 0 + _ ≤ _; exact Nat.le_of_eq rfl) (hb hby at_118) (fun _ _ => ⟨rfl, e10, (by decide : 2 + 1 ≤ _), (by decide : 4 + 4 ≤ _)⟩)
  dsimp only [Pt.U, Pt.locs, Pt.cells, Pt.slots] at X11 l11 y11 z11 st11 hQ11
  subst l11 y11 z11
  obtain ⟨b5_11, ⟨rfl, N11q, K11, i11_0, i11_1, i11_2, i11_3, i11_4, i11_5⟩⟩ := hQ11
  have N11 := Fr.app N10 N11q
  have f4 := ((V_b7.ext E8).keep K9 (own_nm (Nat.ne_of_lt (Nat.lt_of_lt_of_le V_b7.lt (Nat.le_of_eq g8.symm))) own_n0))
  have sz_b5_11 : h0.size ≤ b5_11 := Nat.le_trans (Nat.le_trans (Nat.le_trans (Nat.le_trans (Nat.le_refl h0.size) E7.1) E8.1) K9.1) i11_0
  have g_b5_11 : n0 ≤ b5_11 := Nat.le_trans Z0 sz_b5_11
  obtain ⟨cq12, kq12, q12a, q12b, q12c⟩ := isOf hZ rfl i11_1
  obtain ⟨_, _, ⟨T12, L12, k12, n12⟩, -, X12, ⟨Lc12, hQ12, l12, y12, z12⟩, st12⟩ := X11.virtualBack hx (y := (⟨"com/example/wirecall/wirecall/protocol/Frame", "oneWay", "()Z"⟩ : MethodName)) (z := (⟨"com/example/wirecall/wirecall/protocol/Frame", "oneWay", "()Z"⟩ : MethodName)) hown (mvT hZ (hw _ (List.mem_of_getElem? (i := 23) rfl))) (mvT hZ (hw _ (List.mem_of_getElem? (i := 24) rfl))) (notFace_of_selects (args := #[]) (mvT hZ (hw _ (List.mem_of_getElem? (i := 26) rfl)))) (mvT hZ (hw _ (List.mem_of_getElem? (i := 26) rfl))) (mvT hZ (hw _ (List.mem_of_getElem? (i := 25) rfl))) (by decide) (backOf (W := 0) (rm4 l Z a0 hw [] b5_11 (t6_0 (1 : Int32) (p3 &&& (3 : Int32)) w_bits_s_REQUEST) T11.heap n0 (Nat.le_trans (Nat.le_trans (Nat.le_trans (Nat.le_trans Z0 E7.1) E8.1) K9.1) K11.1) i11_2) hZ (hw _ (List.mem_of_getElem? (i := 27) rfl)) (hw _ (List.mem_of_getElem? (i := 3) rfl)) (by decide) (by decide)) q12a q12c (g := (mkF m 125 #[.val (.int p1), .val (.int p2), .val (.int p3), .val (.int p4), .val (.int p5), .val (.long q6), .second, .val (.int (p1 &&& (3 : Int32))), .val (.int (p2 &&& (1 : Int32))), .val (.int (p3 &&& (3 : Int32))), .val (.int (p4 &&& (7 : Int32))), .val (.int (p5 &&& (255 : Int32))), .val (.int (t0_0 p1 p2 p3 p4)), .val (.ref b7), .val (.ref b8), .val (.int (1 : Int32)), .val (.int (1 : Int32)), .val (.ref b5_11)] [(.ref b5_11)])) rfl (by rw [hml]; rfl) (Steps.refl _) (argsL := []) (rest := []) (lenOf pd__28_29Z rfl) rfl (by show 2 * 0 + _ ≤ _; exact Nat.le_of_eq rfl) (hb hby at_125) (fun _ _ => ⟨rfl, rfl, (by decide : 3 + 0 ≤ _), (by decide : 8 + 0 ≤ _)⟩)
  dsimp only [Pt.U, Pt.locs, Pt.cells, Pt.slots] at X12 l12 y12 z12 st12 hQ12
  subst l12 y12 z12
  obtain ⟨rfl, N12q, e12⟩ := hQ12
  have N12 := Fr.app N11 N12q
  obtain ⟨fs, hr, hrun, hended, hW, hsame⟩ := X12.leave (v := some (.int (1 : Int32))) (fun h => by rw [Bd.returns] at h; cases h)
  refine ⟨_, _, pre0 _ ?_, hrun, hended, _, _, rfl, ?_, ⟨_, rfl⟩, hW, hsame.mono (by decide) (by decide)⟩
  · show Steps p.tables e below (s₁.setTop (mkF m 0 #[.val (.int p1), .val (.int p2), .val (.int p3), .val (.int p4), .val (.int p5), .val (.long q6), .second, .unset, .unset, .unset, .unset, .unset, .unset, .unset, .unset, .unset, .unset, .unset] [])) _
    refine XS.iloadN X0.here hx rfl (hb hby at_0) rfl ?_
    show Steps p.tables e below (s₁.setTop (mkF m 1 #[.val (.int p1), .val (.int p2), .val (.int p3), .val (.int p4), .val (.int p5), .val (.long q6), .second, .unset, .unset, .unset, .unset, .unset, .unset, .unset, .unset, .unset, .unset, .unset] [(.int p1)])) _
    refine XS.iconst X0.here hx rfl (hb hby at_1) ?_
    show Steps p.tables e below (s₁.setTop (mkF m 2 #[.val (.int p1), .val (.int p2), .val (.int p3), .val (.int p4), .val (.int p5), .val (.long q6), .second, .unset, .unset, .unset, .unset, .unset, .unset, .unset, .unset, .unset, .unset, .unset] [(.int (3 : Int32)), (.int p1)])) _
    refine XS.iand X0.here hx rfl (hb hby at_2) rfl ?_
    show Steps p.tables e below (s₁.setTop (mkF m 3 #[.val (.int p1), .val (.int p2), .val (.int p3), .val (.int p4), .val (.int p5), .val (.long q6), .second, .unset, .unset, .unset, .unset, .unset, .unset, .unset, .unset, .unset, .unset, .unset] [(.int (p1 &&& (3 : Int32)))])) _
    refine XS.istore X0.here hx rfl (hb hby at_3) rfl (l' := #[.val (.int p1), .val (.int p2), .val (.int p3), .val (.int p4), .val (.int p5), .val (.long q6), .second, .val (.int (p1 &&& (3 : Int32))), .unset, .unset, .unset, .unset, .unset, .unset, .unset, .unset, .unset, .unset]) rfl ?_
    show Steps p.tables e below (s₁.setTop (mkF m 5 #[.val (.int p1), .val (.int p2), .val (.int p3), .val (.int p4), .val (.int p5), .val (.long q6), .second, .val (.int (p1 &&& (3 : Int32))), .unset, .unset, .unset, .unset, .unset, .unset, .unset, .unset, .unset, .unset] [])) _
    refine XS.iloadN X0.here hx rfl (hb hby at_5) rfl ?_
    show Steps p.tables e below (s₁.setTop (mkF m 6 #[.val (.int p1), .val (.int p2), .val (.int p3), .val (.int p4), .val (.int p5), .val (.long q6), .second, .val (.int (p1 &&& (3 : Int32))), .unset, .unset, .unset, .unset, .unset, .unset, .unset, .unset, .unset, .unset] [(.int p2)])) _
    refine XS.iconst X0.here hx rfl (hb hby at_6) ?_
    show Steps p.tables e below (s₁.setTop (mkF m 7 #[.val (.int p1), .val (.int p2), .val (.int p3), .val (.int p4), .val (.int p5), .val (.long q6), .second, .val (.int (p1 &&& (3 : Int32))), .unset, .unset, .unset, .unset, .unset, .unset, .unset, .unset, .unset, .unset] [(.int (1 : Int32)), (.int p2)])) _
    refine XS.iand X0.here hx rfl (hb hby at_7) rfl ?_
    show Steps p.tables e below (s₁.setTop (mkF m 8 #[.val (.int p1), .val (.int p2), .val (.int p3), .val (.int p4), .val (.int p5), .val (.long q6), .second, .val (.int (p1 &&& (3 : Int32))), .unset, .unset, .unset, .unset, .unset, .unset, .unset, .unset, .unset, .unset] [(.int (p2 &&& (1 : Int32)))])) _
    refine XS.istore X0.here hx rfl (hb hby at_8) rfl (l' := #[.val (.int p1), .val (.int p2), .val (.int p3), .val (.int p4), .val (.int p5), .val (.long q6), .second, .val (.int (p1 &&& (3 : Int32))), .val (.int (p2 &&& (1 : Int32))), .unset, .unset, .unset, .unset, .unset, .unset, .unset, .unset, .unset]) rfl ?_
    show Steps p.tables e below (s₁.setTop (mkF m 10 #[.val (.int p1), .val (.int p2), .val (.int p3), .val (.int p4), .val (.int p5), .val (.long q6), .second, .val (.int (p1 &&& (3 : Int32))), .val (.int (p2 &&& (1 : Int32))), .unset, .unset, .unset, .unset, .unset, .unset, .unset, .unset, .unset] [])) _
    refine XS.iloadN X0.here hx rfl (hb hby at_10) rfl ?_
    show Steps p.tables e below (s₁.setTop (mkF m 11 #[.val (.int p1), .val (.int p2), .val (.int p3), .val (.int p4), .val (.int p5), .val (.long q6), .second, .val (.int (p1 &&& (3 : Int32))), .val (.int (p2 &&& (1 : Int32))), .unset, .unset, .unset, .unset, .unset, .unset, .unset, .unset, .unset] [(.int p3)])) _
    refine XS.iconst X0.here hx rfl (hb hby at_11) ?_
    show Steps p.tables e below (s₁.setTop (mkF m 12 #[.val (.int p1), .val (.int p2), .val (.int p3), .val (.int p4), .val (.int p5), .val (.long q6), .second, .val (.int (p1 &&& (3 : Int32))), .val (.int (p2 &&& (1 : Int32))), .unset, .unset, .unset, .unset, .unset, .unset, .unset, .unset, .unset] [(.int (3 : Int32)), (.int p3)])) _
    refine XS.iand X0.here hx rfl (hb hby at_12) rfl ?_
    show Steps p.tables e below (s₁.setTop (mkF m 13 #[.val (.int p1), .val (.int p2), .val (.int p3), .val (.int p4), .val (.int p5), .val (.long q6), .second, .val (.int (p1 &&& (3 : Int32))), .val (.int (p2 &&& (1 : Int32))), .unset, .unset, .unset, .unset, .unset, .unset, .unset, .unset, .unset] [(.int (p3 &&& (3 : Int32)))])) _
    refine XS.istore X0.here hx rfl (hb hby at_13) rfl (l' := #[.val (.int p1), .val (.int p2), .val (.int p3), .val (.int p4), .val (.int p5), .val (.long q6), .second, .val (.int (p1 &&& (3 : Int32))), .val (.int (p2 &&& (1 : Int32))), .val (.int (p3 &&& (3 : Int32))), .unset, .unset, .unset, .unset, .unset, .unset, .unset, .unset]) rfl ?_
    show Steps p.tables e below (s₁.setTop (mkF m 15 #[.val (.int p1), .val (.int p2), .val (.int p3), .val (.int p4), .val (.int p5), .val (.long q6), .second, .val (.int (p1 &&& (3 : Int32))), .val (.int (p2 &&& (1 : Int32))), .val (.int (p3 &&& (3 : Int32))), .unset, .unset, .unset, .unset, .unset, .unset, .unset, .unset] [])) _
    refine XS.iloadN X0.here hx rfl (hb hby at_15) rfl ?_
    show Steps p.tables e below (s₁.setTop (mkF m 16 #[.val (.int p1), .val (.int p2), .val (.int p3), .val (.int p4), .val (.int p5), .val (.long q6), .second, .val (.int (p1 &&& (3 : Int32))), .val (.int (p2 &&& (1 : Int32))), .val (.int (p3 &&& (3 : Int32))), .unset, .unset, .unset, .unset, .unset, .unset, .unset, .unset] [(.int p4)])) _
    refine XS.bipush X0.here hx rfl (hb hby at_16) ?_
    show Steps p.tables e below (s₁.setTop (mkF m 18 #[.val (.int p1), .val (.int p2), .val (.int p3), .val (.int p4), .val (.int p5), .val (.long q6), .second, .val (.int (p1 &&& (3 : Int32))), .val (.int (p2 &&& (1 : Int32))), .val (.int (p3 &&& (3 : Int32))), .unset, .unset, .unset, .unset, .unset, .unset, .unset, .unset] [(.int (7 : Int32)), (.int p4)])) _
    refine XS.iand X0.here hx rfl (hb hby at_18) rfl ?_
    show Steps p.tables e below (s₁.setTop (mkF m 19 #[.val (.int p1), .val (.int p2), .val (.int p3), .val (.int p4), .val (.int p5), .val (.long q6), .second, .val (.int (p1 &&& (3 : Int32))), .val (.int (p2 &&& (1 : Int32))), .val (.int (p3 &&& (3 : Int32))), .unset, .unset, .unset, .unset, .unset, .unset, .unset, .unset] [(.int (p4 &&& (7 : Int32)))])) _
    refine XS.istore X0.here hx rfl (hb hby at_19) rfl (l' := #[.val (.int p1), .val (.int p2), .val (.int p3), .val (.int p4), .val (.int p5), .val (.long q6), .second, .val (.int (p1 &&& (3 : Int32))), .val (.int (p2 &&& (1 : Int32))), .val (.int (p3 &&& (3 : Int32))), .val (.int (p4 &&& (7 : Int32))), .unset, .unset, .unset, .unset, .unset, .unset, .unset]) rfl ?_
    show Steps p.tables e below (s₁.setTop (mkF m 21 #[.val (.int p1), .val (.int p2), .val (.int p3), .val (.int p4), .val (.int p5), .val (.long q6), .second, .val (.int (p1 &&& (3 : Int32))), .val (.int (p2 &&& (1 : Int32))), .val (.int (p3 &&& (3 : Int32))), .val (.int (p4 &&& (7 : Int32))), .unset, .unset, .unset, .unset, .unset, .unset, .unset] [])) _
    refine XS.iload X0.here hx rfl (hb hby at_21) rfl ?_
    show Steps p.tables e below (s₁.setTop (mkF m 23 #[.val (.int p1), .val (.int p2), .val (.int p3), .val (.int p4), .val (.int p5), .val (.long q6), .second, .val (.int (p1 &&& (3 : Int32))), .val (.int (p2 &&& (1 : Int32))), .val (.int (p3 &&& (3 : Int32))), .val (.int (p4 &&& (7 : Int32))), .unset, .unset, .unset, .unset, .unset, .unset, .unset] [(.int p5)])) _
    refine XS.sipush X0.here hx rfl (hb hby at_23) ?_
    show Steps p.tables e below (s₁.setTop (mkF m 26 #[.val (.int p1), .val (.int p2), .val (.int p3), .val (.int p4), .val (.int p5), .val (.long q6), .second, .val (.int (p1 &&& (3 : Int32))), .val (.int (p2 &&& (1 : Int32))), .val (.int (p3 &&& (3 : Int32))), .val (.int (p4 &&& (7 : Int32))), .unset, .unset, .unset, .unset, .unset, .unset, .unset] [(.int (255 : Int32)), (.int p5)])) _
    refine XS.iand X0.here hx rfl (hb hby at_26) rfl ?_
    show Steps p.tables e below (s₁.setTop (mkF m 27 #[.val (.int p1), .val (.int p2), .val (.int p3), .val (.int p4), .val (.int p5), .val (.long q6), .second, .val (.int (p1 &&& (3 : Int32))), .val (.int (p2 &&& (1 : Int32))), .val (.int (p3 &&& (3 : Int32))), .val (.int (p4 &&& (7 : Int32))), .unset, .unset, .unset, .unset, .unset, .unset, .unset] [(.int (p5 &&& (255 : Int32)))])) _
    refine XS.istore X0.here hx rfl (hb hby at_27) rfl (l' := #[.val (.int p1), .val (.int p2), .val (.int p3), .val (.int p4), .val (.int p5), .val (.long q6), .second, .val (.int (p1 &&& (3 : Int32))), .val (.int (p2 &&& (1 : Int32))), .val (.int (p3 &&& (3 : Int32))), .val (.int (p4 &&& (7 : Int32))), .val (.int (p5 &&& (255 : Int32))), .unset, .unset, .unset, .unset, .unset, .unset]) rfl ?_
    show Steps p.tables e below (s₁.setTop (mkF m 29 #[.val (.int p1), .val (.int p2), .val (.int p3), .val (.int p4), .val (.int p5), .val (.long q6), .second, .val (.int (p1 &&& (3 : Int32))), .val (.int (p2 &&& (1 : Int32))), .val (.int (p3 &&& (3 : Int32))), .val (.int (p4 &&& (7 : Int32))), .val (.int (p5 &&& (255 : Int32))), .unset, .unset, .unset, .unset, .unset, .unset] [])) _
    refine XS.iload X0.here hx rfl (hb hby at_29) rfl ?_
    show Steps p.tables e below (s₁.setTop (mkF m 31 #[.val (.int p1), .val (.int p2), .val (.int p3), .val (.int p4), .val (.int p5), .val (.long q6), .second, .val (.int (p1 &&& (3 : Int32))), .val (.int (p2 &&& (1 : Int32))), .val (.int (p3 &&& (3 : Int32))), .val (.int (p4 &&& (7 : Int32))), .val (.int (p5 &&& (255 : Int32))), .unset, .unset, .unset, .unset, .unset, .unset] [(.int (p1 &&& (3 : Int32)))])) _
    refine XS.iconst X0.here hx rfl (hb hby at_31) ?_
    show Steps p.tables e below (s₁.setTop (mkF m 32 #[.val (.int p1), .val (.int p2), .val (.int p3), .val (.int p4), .val (.int p5), .val (.long q6), .second, .val (.int (p1 &&& (3 : Int32))), .val (.int (p2 &&& (1 : Int32))), .val (.int (p3 &&& (3 : Int32))), .val (.int (p4 &&& (7 : Int32))), .val (.int (p5 &&& (255 : Int32))), .unset, .unset, .unset, .unset, .unset, .unset] [(.int (4 : Int32)), (.int (p1 &&& (3 : Int32)))])) _
    refine XS.iload X0.here hx rfl (hb hby at_32) rfl ?_
    show Steps p.tables e below (s₁.setTop (mkF m 34 #[.val (.int p1), .val (.int p2), .val (.int p3), .val (.int p4), .val (.int p5), .val (.long q6), .second, .val (.int (p1 &&& (3 : Int32))), .val (.int (p2 &&& (1 : Int32))), .val (.int (p3 &&& (3 : Int32))), .val (.int (p4 &&& (7 : Int32))), .val (.int (p5 &&& (255 : Int32))), .unset, .unset, .unset, .unset, .unset, .unset] [(.int (p2 &&& (1 : Int32))), (.int (4 : Int32)), (.int (p1 &&& (3 : Int32)))])) _
    refine XS.imul X0.here hx rfl (hb hby at_34) rfl ?_
    show Steps p.tables e below (s₁.setTop (mkF m 35 #[.val (.int p1), .val (.int p2), .val (.int p3), .val (.int p4), .val (.int p5), .val (.long q6), .second, .val (.int (p1 &&& (3 : Int32))), .val (.int (p2 &&& (1 : Int32))), .val (.int (p3 &&& (3 : Int32))), .val (.int (p4 &&& (7 : Int32))), .val (.int (p5 &&& (255 : Int32))), .unset, .unset, .unset, .unset, .unset, .unset] [(.int ((4 : Int32) * (p2 &&& (1 : Int32)))), (.int (p1 &&& (3 : Int32)))])) _
    refine XS.iadd X0.here hx rfl (hb hby at_35) rfl ?_
    show Steps p.tables e below (s₁.setTop (mkF m 36 #[.val (.int p1), .val (.int p2), .val (.int p3), .val (.int p4), .val (.int p5), .val (.long q6), .second, .val (.int (p1 &&& (3 : Int32))), .val (.int (p2 &&& (1 : Int32))), .val (.int (p3 &&& (3 : Int32))), .val (.int (p4 &&& (7 : Int32))), .val (.int (p5 &&& (255 : Int32))), .unset, .unset, .unset, .unset, .unset, .unset] [(.int ((p1 &&& (3 : Int32)) + ((4 : Int32) * (p2 &&& (1 : Int32)))))])) _
    refine XS.bipush X0.here hx rfl (hb hby at_36) ?_
    show Steps p.tables e below (s₁.setTop (mkF m 38 #[.val (.int p1), .val (.int p2), .val (.int p3), .val (.int p4), .val (.int p5), .val (.long q6), .second, .val (.int (p1 &&& (3 : Int32))), .val (.int (p2 &&& (1 : Int32))), .val (.int (p3 &&& (3 : Int32))), .val (.int (p4 &&& (7 : Int32))), .val (.int (p5 &&& (255 : Int32))), .unset, .unset, .unset, .unset, .unset, .unset] [(.int (8 : Int32)), (.int ((p1 &&& (3 : Int32)) + ((4 : Int32) * (p2 &&& (1 : Int32)))))])) _
    refine XS.iload X0.here hx rfl (hb hby at_38) rfl ?_
    show Steps p.tables e below (s₁.setTop (mkF m 40 #[.val (.int p1), .val (.int p2), .val (.int p3), .val (.int p4), .val (.int p5), .val (.long q6), .second, .val (.int (p1 &&& (3 : Int32))), .val (.int (p2 &&& (1 : Int32))), .val (.int (p3 &&& (3 : Int32))), .val (.int (p4 &&& (7 : Int32))), .val (.int (p5 &&& (255 : Int32))), .unset, .unset, .unset, .unset, .unset, .unset] [(.int (p3 &&& (3 : Int32))), (.int (8 : Int32)), (.int ((p1 &&& (3 : Int32)) + ((4 : Int32) * (p2 &&& (1 : Int32)))))])) _
    refine XS.imul X0.here hx rfl (hb hby at_40) rfl ?_
    show Steps p.tables e below (s₁.setTop (mkF m 41 #[.val (.int p1), .val (.int p2), .val (.int p3), .val (.int p4), .val (.int p5), .val (.long q6), .second, .val (.int (p1 &&& (3 : Int32))), .val (.int (p2 &&& (1 : Int32))), .val (.int (p3 &&& (3 : Int32))), .val (.int (p4 &&& (7 : Int32))), .val (.int (p5 &&& (255 : Int32))), .unset, .unset, .unset, .unset, .unset, .unset] [(.int ((8 : Int32) * (p3 &&& (3 : Int32)))), (.int ((p1 &&& (3 : Int32)) + ((4 : Int32) * (p2 &&& (1 : Int32)))))])) _
    refine XS.iadd X0.here hx rfl (hb hby at_41) rfl ?_
    show Steps p.tables e below (s₁.setTop (mkF m 42 #[.val (.int p1), .val (.int p2), .val (.int p3), .val (.int p4), .val (.int p5), .val (.long q6), .second, .val (.int (p1 &&& (3 : Int32))), .val (.int (p2 &&& (1 : Int32))), .val (.int (p3 &&& (3 : Int32))), .val (.int (p4 &&& (7 : Int32))), .val (.int (p5 &&& (255 : Int32))), .unset, .unset, .unset, .unset, .unset, .unset] [(.int (((p1 &&& (3 : Int32)) + ((4 : Int32) * (p2 &&& (1 : Int32)))) + ((8 : Int32) * (p3 &&& (3 : Int32)))))])) _
    refine XS.bipush X0.here hx rfl (hb hby at_42) ?_
    show Steps p.tables e below (s₁.setTop (mkF m 44 #[.val (.int p1), .val (.int p2), .val (.int p3), .val (.int p4), .val (.int p5), .val (.long q6), .second, .val (.int (p1 &&& (3 : Int32))), .val (.int (p2 &&& (1 : Int32))), .val (.int (p3 &&& (3 : Int32))), .val (.int (p4 &&& (7 : Int32))), .val (.int (p5 &&& (255 : Int32))), .unset, .unset, .unset, .unset, .unset, .unset] [(.int (32 : Int32)), (.int (((p1 &&& (3 : Int32)) + ((4 : Int32) * (p2 &&& (1 : Int32)))) + ((8 : Int32) * (p3 &&& (3 : Int32)))))])) _
    refine XS.iload X0.here hx rfl (hb hby at_44) rfl ?_
    show Steps p.tables e below (s₁.setTop (mkF m 46 #[.val (.int p1), .val (.int p2), .val (.int p3), .val (.int p4), .val (.int p5), .val (.long q6), .second, .val (.int (p1 &&& (3 : Int32))), .val (.int (p2 &&& (1 : Int32))), .val (.int (p3 &&& (3 : Int32))), .val (.int (p4 &&& (7 : Int32))), .val (.int (p5 &&& (255 : Int32))), .unset, .unset, .unset, .unset, .unset, .unset] [(.int (p4 &&& (7 : Int32))), (.int (32 : Int32)), (.int (((p1 &&& (3 : Int32)) + ((4 : Int32) * (p2 &&& (1 : Int32)))) + ((8 : Int32) * (p3 &&& (3 : Int32)))))])) _
    refine XS.imul X0.here hx rfl (hb hby at_46) rfl ?_
    show Steps p.tables e below (s₁.setTop (mkF m 47 #[.val (.int p1), .val (.int p2), .val (.int p3), .val (.int p4), .val (.int p5), .val (.long q6), .second, .val (.int (p1 &&& (3 : Int32))), .val (.int (p2 &&& (1 : Int32))), .val (.int (p3 &&& (3 : Int32))), .val (.int (p4 &&& (7 : Int32))), .val (.int (p5 &&& (255 : Int32))), .unset, .unset, .unset, .unset, .unset, .unset] [(.int ((32 : Int32) * (p4 &&& (7 : Int32)))), (.int (((p1 &&& (3 : Int32)) + ((4 : Int32) * (p2 &&& (1 : Int32)))) + ((8 : Int32) * (p3 &&& (3 : Int32)))))])) _
    refine XS.iadd X0.here hx rfl (hb hby at_47) rfl ?_
    show Steps p.tables e below (s₁.setTop (mkF m 48 #[.val (.int p1), .val (.int p2), .val (.int p3), .val (.int p4), .val (.int p5), .val (.long q6), .second, .val (.int (p1 &&& (3 : Int32))), .val (.int (p2 &&& (1 : Int32))), .val (.int (p3 &&& (3 : Int32))), .val (.int (p4 &&& (7 : Int32))), .val (.int (p5 &&& (255 : Int32))), .unset, .unset, .unset, .unset, .unset, .unset] [(.int ((((p1 &&& (3 : Int32)) + ((4 : Int32) * (p2 &&& (1 : Int32)))) + ((8 : Int32) * (p3 &&& (3 : Int32)))) + ((32 : Int32) * (p4 &&& (7 : Int32)))))])) _
    refine XS.istore X0.here hx rfl (hb hby at_48) rfl (l' := #[.val (.int p1), .val (.int p2), .val (.int p3), .val (.int p4), .val (.int p5), .val (.long q6), .second, .val (.int (p1 &&& (3 : Int32))), .val (.int (p2 &&& (1 : Int32))), .val (.int (p3 &&& (3 : Int32))), .val (.int (p4 &&& (7 : Int32))), .val (.int (p5 &&& (255 : Int32))), .val (.int (t0_0 p1 p2 p3 p4)), .unset, .unset, .unset, .unset, .unset]) rfl ?_
    show Steps p.tables e below (s₁.setTop (mkF m 50 #[.val (.int p1), .val (.int p2), .val (.int p3), .val (.int p4), .val (.int p5), .val (.long q6), .second, .val (.int (p1 &&& (3 : Int32))), .val (.int (p2 &&& (1 : Int32))), .val (.int (p3 &&& (3 : Int32))), .val (.int (p4 &&& (7 : Int32))), .val (.int (p5 &&& (255 : Int32))), .val (.int (t0_0 p1 p2 p3 p4)), .unset, .unset, .unset, .unset, .unset] [])) _
    refine XS.iconst X0.here hx rfl (hb hby at_50) ?_
    show Steps p.tables e below (s₁.setTop (mkF m 51 #[.val (.int p1), .val (.int p2), .val (.int p3), .val (.int p4), .val (.int p5), .val (.long q6), .second, .val (.int (p1 &&& (3 : Int32))), .val (.int (p2 &&& (1 : Int32))), .val (.int (p3 &&& (3 : Int32))), .val (.int (p4 &&& (7 : Int32))), .val (.int (p5 &&& (255 : Int32))), .val (.int (t0_0 p1 p2 p3 p4)), .unset, .unset, .unset, .unset, .unset] [(.int (0 : Int32))])) _
    refine st7 _ ?_
    show Steps p.tables e below (T7.setTop (mkF m 53 #[.val (.int p1), .val (.int p2), .val (.int p3), .val (.int p4), .val (.int p5), .val (.long q6), .second, .val (.int (p1 &&& (3 : Int32))), .val (.int (p2 &&& (1 : Int32))), .val (.int (p3 &&& (3 : Int32))), .val (.int (p4 &&& (7 : Int32))), .val (.int (p5 &&& (255 : Int32))), .val (.int (t0_0 p1 p2 p3 p4)), .unset, .unset, .unset, .unset, .unset] [(.ref b7)])) _
    refine XS.astore X7.here hx rfl (hb hby at_53) rfl rfl (l' := #[.val (.int p1), .val (.int p2), .val (.int p3), .val (.int p4), .val (.int p5), .val (.long q6), .second, .val (.int (p1 &&& (3 : Int32))), .val (.int (p2 &&& (1 : Int32))), .val (.int (p3 &&& (3 : Int32))), .val (.int (p4 &&& (7 : Int32))), .val (.int (p5 &&& (255 : Int32))), .val (.int (t0_0 p1 p2 p3 p4)), .val (.ref b7), .unset, .unset, .unset, .unset]) rfl ?_
    show Steps p.tables e below (T7.setTop (mkF m 55 #[.val (.int p1), .val (.int p2), .val (.int p3), .val (.int p4), .val (.int p5), .val (.long q6), .second, .val (.int (p1 &&& (3 : Int32))), .val (.int (p2 &&& (1 : Int32))), .val (.int (p3 &&& (3 : Int32))), .val (.int (p4 &&& (7 : Int32))), .val (.int (p5 &&& (255 : Int32))), .val (.int (t0_0 p1 p2 p3 p4)), .val (.ref b7), .unset, .unset, .unset, .unset] [])) _
    refine st8 _ ?_
    show Steps p.tables e below (T8.setTop (mkF m 58 #[.val (.int p1), .val (.int p2), .val (.int p3), .val (.int p4), .val (.int p5), .val (.long q6), .second, .val (.int (p1 &&& (3 : Int32))), .val (.int (p2 &&& (1 : Int32))), .val (.int (p3 &&& (3 : Int32))), .val (.int (p4 &&& (7 : Int32))), .val (.int (p5 &&& (255 : Int32))), .val (.int (t0_0 p1 p2 p3 p4)), .val (.ref b7), .unset, .unset, .unset, .unset] [(.ref b8)])) _
    refine XS.dup X8.here hx rfl (hb hby at_58) rfl rfl ?_
    show Steps p.tables e below (T8.setTop (mkF m 59 #[.val (.int p1), .val (.int p2), .val (.int p3), .val (.int p4), .val (.int p5), .val (.long q6), .second, .val (.int (p1 &&& (3 : Int32))), .val (.int (p2 &&& (1 : Int32))), .val (.int (p3 &&& (3 : Int32))), .val (.int (p4 &&& (7 : Int32))), .val (.int (p5 &&& (255 : Int32))), .val (.int (t0_0 p1 p2 p3 p4)), .val (.ref b7), .unset, .unset, .unset, .unset] [(.ref b8), (.ref b8)])) _
    refine XS.iload X8.here hx rfl (hb hby at_59) rfl ?_
    show Steps p.tables e below (T8.setTop (mkF m 61 #[.val (.int p1), .val (.int p2), .val (.int p3), .val (.int p4), .val (.int p5), .val (.long q6), .second, .val (.int (p1 &&& (3 : Int32))), .val (.int (p2 &&& (1 : Int32))), .val (.int (p3 &&& (3 : Int32))), .val (.int (p4 &&& (7 : Int32))), .val (.int (p5 &&& (255 : Int32))), .val (.int (t0_0 p1 p2 p3 p4)), .val (.ref b7), .unset, .unset, .unset, .unset] [(.int (t0_0 p1 p2 p3 p4)), (.ref b8), (.ref b8)])) _
    refine XS.iload X8.here hx rfl (hb hby at_61) rfl ?_
    show Steps p.tables e below (T8.setTop (mkF m 63 #[.val (.int p1), .val (.int p2), .val (.int p3), .val (.int p4), .val (.int p5), .val (.long q6), .second, .val (.int (p1 &&& (3 : Int32))), .val (.int (p2 &&& (1 : Int32))), .val (.int (p3 &&& (3 : Int32))), .val (.int (p4 &&& (7 : Int32))), .val (.int (p5 &&& (255 : Int32))), .val (.int (t0_0 p1 p2 p3 p4)), .val (.ref b7), .unset, .unset, .unset, .unset] [(.int (p5 &&& (255 : Int32))), (.int (t0_0 p1 p2 p3 p4)), (.ref b8), (.ref b8)])) _
    refine XS.lload X8.here hx rfl (hb hby at_63) rfl ?_
    show Steps p.tables e below (T8.setTop (mkF m 65 #[.val (.int p1), .val (.int p2), .val (.int p3), .val (.int p4), .val (.int p5), .val (.long q6), .second, .val (.int (p1 &&& (3 : Int32))), .val (.int (p2 &&& (1 : Int32))), .val (.int (p3 &&& (3 : Int32))), .val (.int (p4 &&& (7 : Int32))), .val (.int (p5 &&& (255 : Int32))), .val (.int (t0_0 p1 p2 p3 p4)), .val (.ref b7), .unset, .unset, .unset, .unset] [(.long q6), (.int (p5 &&& (255 : Int32))), (.int (t0_0 p1 p2 p3 p4)), (.ref b8), (.ref b8)])) _
    refine XS.aload X8.here hx rfl (hb hby at_65) rfl rfl ?_
    show Steps p.tables e below (T8.setTop (mkF m 67 #[.val (.int p1), .val (.int p2), .val (.int p3), .val (.int p4), .val (.int p5), .val (.long q6), .second, .val (.int (p1 &&& (3 : Int32))), .val (.int (p2 &&& (1 : Int32))), .val (.int (p3 &&& (3 : Int32))), .val (.int (p4 &&& (7 : Int32))), .val (.int (p5 &&& (255 : Int32))), .val (.int (t0_0 p1 p2 p3 p4)), .val (.ref b7), .unset, .unset, .unset, .unset] [(.ref b7), (.long q6), (.int (p5 &&& (255 : Int32))), (.int (t0_0 p1 p2 p3 p4)), (.ref b8), (.ref b8)])) _
    refine st9.trans ?_
    show Steps p.tables e below (T9.setTop (mkF m 70 #[.val (.int p1), .val (.int p2), .val (.int p3), .val (.int p4), .val (.int p5), .val (.long q6), .second, .val (.int (p1 &&& (3 : Int32))), .val (.int (p2 &&& (1 : Int32))), .val (.int (p3 &&& (3 : Int32))), .val (.int (p4 &&& (7 : Int32))), .val (.int (p5 &&& (255 : Int32))), .val (.int (t0_0 p1 p2 p3 p4)), .val (.ref b7), .unset, .unset, .unset, .unset] [(.ref b8)])) _
    refine XS.astore X9.here hx rfl (hb hby at_70) rfl rfl (l' := #[.val (.int p1), .val (.int p2), .val (.int p3), .val (.int p4), .val (.int p5), .val (.long q6), .second, .val (.int (p1 &&& (3 : Int32))), .val (.int (p2 &&& (1 : Int32))), .val (.int (p3 &&& (3 : Int32))), .val (.int (p4 &&& (7 : Int32))), .val (.int (p5 &&& (255 : Int32))), .val (.int (t0_0 p1 p2 p3 p4)), .val (.ref b7), .val (.ref b8), .unset, .unset, .unset]) rfl ?_
    show Steps p.tables e below (T9.setTop (mkF m 72 #[.val (.int p1), .val (.int p2), .val (.int p3), .val (.int p4), .val (.int p5), .val (.long q6), .second, .val (.int (p1 &&& (3 : Int32))), .val (.int (p2 &&& (1 : Int32))), .val (.int (p3 &&& (3 : Int32))), .val (.int (p4 &&& (7 : Int32))), .val (.int (p5 &&& (255 : Int32))), .val (.int (t0_0 p1 p2 p3 p4)), .val (.ref b7), .val (.ref b8), .unset, .unset, .unset] [])) _
    refine XS.iload X9.here hx rfl (hb hby at_72) rfl ?_
    show Steps p.tables e below (T9.setTop (mkF m 74 #[.val (.int p1), .val (.int p2), .val (.int p3), .val (.int p4), .val (.int p5), .val (.long q6), .second, .val (.int (p1 &&& (3 : Int32))), .val (.int (p2 &&& (1 : Int32))), .val (.int (p3 &&& (3 : Int32))), .val (.int (p4 &&& (7 : Int32))), .val (.int (p5 &&& (255 : Int32))), .val (.int (t0_0 p1 p2 p3 p4)), .val (.ref b7), .val (.ref b8), .unset, .unset, .unset] [(.int (p2 &&& (1 : Int32)))])) _
    refine XS.iconst X9.here hx rfl (hb hby at_74) ?_
    show Steps p.tables e below (T9.setTop (mkF m 75 #[.val (.int p1), .val (.int p2), .val (.int p3), .val (.int p4), .val (.int p5), .val (.long q6), .second, .val (.int (p1 &&& (3 : Int32))), .val (.int (p2 &&& (1 : Int32))), .val (.int (p3 &&& (3 : Int32))), .val (.int (p4 &&& (7 : Int32))), .val (.int (p5 &&& (255 : Int32))), .val (.int (t0_0 p1 p2 p3 p4)), .val (.ref b7), .val (.ref b8), .unset, .unset, .unset] [(.int (1 : Int32)), (.int (p2 &&& (1 : Int32)))])) _
    refine XS.icmpNo X9.here hx rfl (hb hby at_75) rfl (teq hc75).2 ?_
    show Steps p.tables e below (T9.setTop (mkF m 78 #[.val (.int p1), .val (.int p2), .val (.int p3), .val (.int p4), .val (.int p5), .val (.long q6), .second, .val (.int (p1 &&& (3 : Int32))), .val (.int (p2 &&& (1 : Int32))), .val (.int (p3 &&& (3 : Int32))), .val (.int (p4 &&& (7 : Int32))), .val (.int (p5 &&& (255 : Int32))), .val (.int (t0_0 p1 p2 p3 p4)), .val (.ref b7), .val (.ref b8), .unset, .unset, .unset] [])) _
    refine XS.iconst X9.here hx rfl (hb hby at_78) ?_
    show Steps p.tables e below (T9.setTop (mkF m 79 #[.val (.int p1), .val (.int p2), .val (.int p3), .val (.int p4), .val (.int p5), .val (.long q6), .second, .val (.int (p1 &&& (3 : Int32))), .val (.int (p2 &&& (1 : Int32))), .val (.int (p3 &&& (3 : Int32))), .val (.int (p4 &&& (7 : Int32))), .val (.int (p5 &&& (255 : Int32))), .val (.int (t0_0 p1 p2 p3 p4)), .val (.ref b7), .val (.ref b8), .unset, .unset, .unset] [(.int (1 : Int32))])) _
    refine XS.goto X9.here hx rfl (pc0 := 79) (pc' := 83) rfl (hb hby at_79) (by decide) (by decide) ?_
    show Steps p.tables e below (T9.setTop (mkF m 83 #[.val (.int p1), .val (.int p2), .val (.int p3), .val (.int p4), .val (.int p5), .val (.long q6), .second, .val (.int (p1 &&& (3 : Int32))), .val (.int (p2 &&& (1 : Int32))), .val (.int (p3 &&& (3 : Int32))), .val (.int (p4 &&& (7 : Int32))), .val (.int (p5 &&& (255 : Int32))), .val (.int (t0_0 p1 p2 p3 p4)), .val (.ref b7), .val (.ref b8), .unset, .unset, .unset] [(.int (1 : Int32))])) _
    refine XS.istore X9.here hx rfl (hb hby at_83) rfl (l' := #[.val (.int p1), .val (.int p2), .val (.int p3), .val (.int p4), .val (.int p5), .val (.long q6), .second, .val (.int (p1 &&& (3 : Int32))), .val (.int (p2 &&& (1 : Int32))), .val (.int (p3 &&& (3 : Int32))), .val (.int (p4 &&& (7 : Int32))), .val (.int (p5 &&& (255 : Int32))), .val (.int (t0_0 p1 p2 p3 p4)), .val (.ref b7), .val (.ref b8), .val (.int (1 : Int32)), .unset, .unset]) rfl ?_
    show Steps p.tables e below (T9.setTop (mkF m 85 #[.val (.int p1), .val (.int p2), .val (.int p3), .val (.int p4), .val (.int p5), .val (.long q6), .second, .val (.int (p1 &&& (3 : Int32))), .val (.int (p2 &&& (1 : Int32))), .val (.int (p3 &&& (3 : Int32))), .val (.int (p4 &&& (7 : Int32))), .val (.int (p5 &&& (255 : Int32))), .val (.int (t0_0 p1 p2 p3 p4)), .val (.ref b7), .val (.ref b8), .val (.int (1 : Int32)), .unset, .unset] [])) _
    refine XS.aload X9.here hx rfl (hb hby at_85) rfl rfl ?_
    show Steps p.tables e below (T9.setTop (mkF m 87 #[.val (.int p1), .val (.int p2), .val (.int p3), .val (.int p4), .val (.int p5), .val (.long q6), .second, .val (.int (p1 &&& (3 : Int32))), .val (.int (p2 &&& (1 : Int32))), .val (.int (p3 &&& (3 : Int32))), .val (.int (p4 &&& (7 : Int32))), .val (.int (p5 &&& (255 : Int32))), .val (.int (t0_0 p1 p2 p3 p4)), .val (.ref b7), .val (.ref b8), .val (.int (1 : Int32)), .unset, .unset] [(.ref b8)])) _
    refine st10.trans ?_
    show Steps p.tables e below (T10.setTop (mkF m 90 #[.val (.int p1), .val (.int p2), .val (.int p3), .val (.int p4), .val (.int p5), .val (.long q6), .second, .val (.int (p1 &&& (3 : Int32))), .val (.int (p2 &&& (1 : Int32))), .val (.int (p3 &&& (3 : Int32))), .val (.int (p4 &&& (7 : Int32))), .val (.int (p5 &&& (255 : Int32))), .val (.int (t0_0 p1 p2 p3 p4)), .val (.ref b7), .val (.ref b8), .val (.int (1 : Int32)), .unset, .unset] [(.int (F4 (t0_0 p1 p2 p3 p4)))])) _
    refine XS.iload X10.here hx rfl (hb hby at_90) rfl ?_
    show Steps p.tables e below (T10.setTop (mkF m 92 #[.val (.int p1), .val (.int p2), .val (.int p3), .val (.int p4), .val (.int p5), .val (.long q6), .second, .val (.int (p1 &&& (3 : Int32))), .val (.int (p2 &&& (1 : Int32))), .val (.int (p3 &&& (3 : Int32))), .val (.int (p4 &&& (7 : Int32))), .val (.int (p5 &&& (255 : Int32))), .val (.int (t0_0 p1 p2 p3 p4)), .val (.ref b7), .val (.ref b8), .val (.int (1 : Int32)), .unset, .unset] [(.int (1 : Int32)), (.int (F4 (t0_0 p1 p2 p3 p4)))])) _
    refine XS.icmpYes X10.here hx rfl (pc0 := 92) (pc' := 97) rfl (hb hby at_92) rfl (teq (show (F4 (t0_0 p1 p2 p3 p4)) = (1 : Int32) from by first | exact (own_92 p1 p2 p3 p4).trans (if_pos hc75) | exact (own_92 p1 p2 p3 p4).trans (if_neg hc75))).1 (by decide) (by decide) ?_
    show Steps p.tables e below (T10.setTop (mkF m 97 #[.val (.int p1), .val (.int p2), .val (.int p3), .val (.int p4), .val (.int p5), .val (.long q6), .second, .val (.int (p1 &&& (3 : Int32))), .val (.int (p2 &&& (1 : Int32))), .val (.int (p3 &&& (3 : Int32))), .val (.int (p4 &&& (7 : Int32))), .val (.int (p5 &&& (255 : Int32))), .val (.int (t0_0 p1 p2 p3 p4)), .val (.ref b7), .val (.ref b8), .val (.int (1 : Int32)), .unset, .unset] [])) _
    refine XS.iload X10.here hx rfl (hb hby at_97) rfl ?_
    show Steps p.tables e below (T10.setTop (mkF m 99 #[.val (.int p1), .val (.int p2), .val (.int p3), .val (.int p4), .val (.int p5), .val (.long q6), .second, .val (.int (p1 &&& (3 : Int32))), .val (.int (p2 &&& (1 : Int32))), .val (.int (p3 &&& (3 : Int32))), .val (.int (p4 &&& (7 : Int32))), .val (.int (p5 &&& (255 : Int32))), .val (.int (t0_0 p1 p2 p3 p4)), .val (.ref b7), .val (.ref b8), .val (.int (1 : Int32)), .unset, .unset] [(.int (p4 &&& (7 : Int32)))])) _
    refine XS.ifNo X10.here hx rfl (hb hby at_99) rfl ((if0 _ _).trans (teq hc99).2) ?_
    show Steps p.tables e below (T10.setTop (mkF m 102 #[.val (.int p1), .val (.int p2), .val (.int p3), .val (.int p4), .val (.int p5), .val (.long q6), .second, .val (.int (p1 &&& (3 : Int32))), .val (.int (p2 &&& (1 : Int32))), .val (.int (p3 &&& (3 : Int32))), .val (.int (p4 &&& (7 : Int32))), .val (.int (p5 &&& (255 : Int32))), .val (.int (t0_0 p1 p2 p3 p4)), .val (.ref b7), .val (.ref b8), .val (.int (1 : Int32)), .unset, .unset] [])) _
    refine XS.iconst X10.here hx rfl (hb hby at_102) ?_
    show Steps p.tables e below (T10.setTop (mkF m 103 #[.val (.int p1), .val (.int p2), .val (.int p3), .val (.int p4), .val (.int p5), .val (.long q6), .second, .val (.int (p1 &&& (3 : Int32))), .val (.int (p2 &&& (1 : Int32))), .val (.int (p3 &&& (3 : Int32))), .val (.int (p4 &&& (7 : Int32))), .val (.int (p5 &&& (255 : Int32))), .val (.int (t0_0 p1 p2 p3 p4)), .val (.ref b7), .val (.ref b8), .val (.int (1 : Int32)), .unset, .unset] [(.int (1 : Int32))])) _
    refine XS.goto X10.here hx rfl (pc0 := 103) (pc' := 108) rfl (hb hby at_103) (by decide) (by decide) ?_
    show Steps p.tables e below (T10.setTop (mkF m 108 #[.val (.int p1), .val (.int p2), .val (.int p3), .val (.int p4), .val (.int p5), .val (.long q6), .second, .val (.int (p1 &&& (3 : Int32))), .val (.int (p2 &&& (1 : Int32))), .val (.int (p3 &&& (3 : Int32))), .val (.int (p4 &&& (7 : Int32))), .val (.int (p5 &&& (255 : Int32))), .val (.int (t0_0 p1 p2 p3 p4)), .val (.ref b7), .val (.ref b8), .val (.int (1 : Int32)), .unset, .unset] [(.int (1 : Int32))])) _
    refine XS.istore X10.here hx rfl (hb hby at_108) rfl (l' := #[.val (.int p1), .val (.int p2), .val (.int p3), .val (.int p4), .val (.int p5), .val (.long q6), .second, .val (.int (p1 &&& (3 : Int32))), .val (.int (p2 &&& (1 : Int32))), .val (.int (p3 &&& (3 : Int32))), .val (.int (p4 &&& (7 : Int32))), .val (.int (p5 &&& (255 : Int32))), .val (.int (t0_0 p1 p2 p3 p4)), .val (.ref b7), .val (.ref b8), .val (.int (1 : Int32)), .val (.int (1 : Int32)), .unset]) rfl ?_
    show Steps p.tables e below (T10.setTop (mkF m 110 #[.val (.int p1), .val (.int p2), .val (.int p3), .val (.int p4), .val (.int p5), .val (.long q6), .second, .val (.int (p1 &&& (3 : Int32))), .val (.int (p2 &&& (1 : Int32))), .val (.int (p3 &&& (3 : Int32))), .val (.int (p4 &&& (7 : Int32))), .val (.int (p5 &&& (255 : Int32))), .val (.int (t0_0 p1 p2 p3 p4)), .val (.ref b7), .val (.ref b8), .val (.int (1 : Int32)), .val (.int (1 : Int32)), .unset] [])) _
    refine XS.lload X10.here hx rfl (hb hby at_110) rfl ?_
    show Steps p.tables e below (T10.setTop (mkF m 112 #[.val (.int p1), .val (.int p2), .val (.int p3), .val (.int p4), .val (.int p5), .val (.long q6), .second, .val (.int (p1 &&& (3 : Int32))), .val (.int (p2 &&& (1 : Int32))), .val (.int (p3 &&& (3 : Int32))), .val (.int (p4 &&& (7 : Int32))), .val (.int (p5 &&& (255 : Int32))), .val (.int (t0_0 p1 p2 p3 p4)), .val (.ref b7), .val (.ref b8), .val (.int (1 : Int32)), .val (.int (1 : Int32)), .unset] [(.long q6)])) _
    refine XS.iload X10.here hx rfl (hb hby at_112) rfl ?_
    show Steps p.tables e below (T10.setTop (mkF m 114 #[.val (.int p1), .val (.int p2), .val (.int p3), .val (.int p4), .val (.int p5), .val (.long q6), .second, .val (.int (p1 &&& (3 : Int32))), .val (.int (p2 &&& (1 : Int32))), .val (.int (p3 &&& (3 : Int32))), .val (.int (p4 &&& (7 : Int32))), .val (.int (p5 &&& (255 : Int32))), .val (.int (t0_0 p1 p2 p3 p4)), .val (.ref b7), .val (.ref b8), .val (.int (1 : Int32)), .val (.int (1 : Int32)), .unset] [(.int (1 : Int32)), (.long q6)])) _
    refine XS.iload X10.here hx rfl (hb hby at_114) rfl ?_
    show Steps p.tables e below (T10.setTop (mkF m 116 #[.val (.int p1), .val (.int p2), .val (.int p3), .val (.int p4), .val (.int p5), .val (.long q6), .second, .val (.int (p1 &&& (3 : Int32))), .val (.int (p2 &&& (1 : Int32))), .val (.int (p3 &&& (3 : Int32))), .val (.int (p4 &&& (7 : Int32))), .val (.int (p5 &&& (255 : Int32))), .val (.int (t0_0 p1 p2 p3 p4)), .val (.ref b7), .val (.ref b8), .val (.int (1 : Int32)), .val (.int (1 : Int32)), .unset] [(.int (p3 &&& (3 : Int32))), (.int (1 : Int32)), (.long q6)])) _
    refine XS.aload X10.here hx rfl (hb hby at_116) rfl rfl ?_
    show Steps p.tables e below (T10.setTop (mkF m 118 #[.val (.int p1), .val (.int p2), .val (.int p3), .val (.int p4), .val (.int p5), .val (.long q6), .second, .val (.int (p1 &&& (3 : Int32))), .val (.int (p2 &&& (1 : Int32))), .val (.int (p3 &&& (3 : Int32))), .val (.int (p4 &&& (7 : Int32))), .val (.int (p5 &&& (255 : Int32))), .val (.int (t0_0 p1 p2 p3 p4)), .val (.ref b7), .val (.ref b8), .val (.int (1 : Int32)), .val (.int (1 : Int32)), .unset] [(.ref b7), (.int (p3 &&& (3 : Int32))), (.int (1 : Int32)), (.long q6)])) _
    refine st11 _ ?_
    show Steps p.tables e below (T11.setTop (mkF m 121 #[.val (.int p1), .val (.int p2), .val (.int p3), .val (.int p4), .val (.int p5), .val (.long q6), .second, .val (.int (p1 &&& (3 : Int32))), .val (.int (p2 &&& (1 : Int32))), .val (.int (p3 &&& (3 : Int32))), .val (.int (p4 &&& (7 : Int32))), .val (.int (p5 &&& (255 : Int32))), .val (.int (t0_0 p1 p2 p3 p4)), .val (.ref b7), .val (.ref b8), .val (.int (1 : Int32)), .val (.int (1 : Int32)), .unset] [(.ref b5_11)])) _
    refine XS.astore X11.here hx rfl (hb hby at_121) rfl rfl (l' := #[.val (.int p1), .val (.int p2), .val (.int p3), .val (.int p4), .val (.int p5), .val (.long q6), .second, .val (.int (p1 &&& (3 : Int32))), .val (.int (p2 &&& (1 : Int32))), .val (.int (p3 &&& (3 : Int32))), .val (.int (p4 &&& (7 : Int32))), .val (.int (p5 &&& (255 : Int32))), .val (.int (t0_0 p1 p2 p3 p4)), .val (.ref b7), .val (.ref b8), .val (.int (1 : Int32)), .val (.int (1 : Int32)), .val (.ref b5_11)]) rfl ?_
    show Steps p.tables e below (T11.setTop (mkF m 123 #[.val (.int p1), .val (.int p2), .val (.int p3), .val (.int p4), .val (.int p5), .val (.long q6), .second, .val (.int (p1 &&& (3 : Int32))), .val (.int (p2 &&& (1 : Int32))), .val (.int (p3 &&& (3 : Int32))), .val (.int (p4 &&& (7 : Int32))), .val (.int (p5 &&& (255 : Int32))), .val (.int (t0_0 p1 p2 p3 p4)), .val (.ref b7), .val (.ref b8), .val (.int (1 : Int32)), .val (.int (1 : Int32)), .val (.ref b5_11)] [])) _
    refine XS.aload X11.here hx rfl (hb hby at_123) rfl rfl ?_
    show Steps p.tables e below (T11.setTop (mkF m 125 #[.val (.int p1), .val (.int p2), .val (.int p3), .val (.int p4), .val (.int p5), .val (.long q6), .second, .val (.int (p1 &&& (3 : Int32))), .val (.int (p2 &&& (1 : Int32))), .val (.int (p3 &&& (3 : Int32))), .val (.int (p4 &&& (7 : Int32))), .val (.int (p5 &&& (255 : Int32))), .val (.int (t0_0 p1 p2 p3 p4)), .val (.ref b7), .val (.ref b8), .val (.int (1 : Int32)), .val (.int (1 : Int32)), .val (.ref b5_11)] [(.ref b5_11)])) _
    refine st12.trans ?_
    show Steps p.tables e below (T12.setTop (mkF m 128 #[.val (.int p1), .val (.int p2), .val (.int p3), .val (.int p4), .val (.int p5), .val (.long q6), .second, .val (.int (p1 &&& (3 : Int32))), .val (.int (p2 &&& (1 : Int32))), .val (.int (p3 &&& (3 : Int32))), .val (.int (p4 &&& (7 : Int32))), .val (.int (p5 &&& (255 : Int32))), .val (.int (t0_0 p1 p2 p3 p4)), .val (.ref b7), .val (.ref b8), .val (.int (1 : Int32)), .val (.int (1 : Int32)), .val (.ref b5_11)] [(.int (F4 (t6_0 (1 : Int32) (p3 &&& (3 : Int32)) w_bits_s_REQUEST)))])) _
    refine XS.ifYes X12.here hx rfl (pc0 := 128) (pc' := 133) rfl (hb hby at_128) rfl ((if0 _ _).trans (teq (show (t0_1 p3 w_bits_s_REQUEST) = (0 : Int32) from by rw [hb0]; first | exact own_rq _ (own_m3 p3) _ (own_m7 p4) | exact own_rq _ (own_m3 p3) 1 (by decide))).1) (by decide) (by decide) ?_
    show Steps p.tables e below (T12.setTop (mkF m 133 #[.val (.int p1), .val (.int p2), .val (.int p3), .val (.int p4), .val (.int p5), .val (.long q6), .second, .val (.int (p1 &&& (3 : Int32))), .val (.int (p2 &&& (1 : Int32))), .val (.int (p3 &&& (3 : Int32))), .val (.int (p4 &&& (7 : Int32))), .val (.int (p5 &&& (255 : Int32))), .val (.int (t0_0 p1 p2 p3 p4)), .val (.ref b7), .val (.ref b8), .val (.int (1 : Int32)), .val (.int (1 : Int32)), .val (.ref b5_11)] [])) _
    refine XS.iconst X12.here hx rfl (hb hby at_133) ?_
    show Steps p.tables e below (T12.setTop (mkF m 134 #[.val (.int p1), .val (.int p2), .val (.int p3), .val (.int p4), .val (.int p5), .val (.long q6), .second, .val (.int (p1 &&& (3 : Int32))), .val (.int (p2 &&& (1 : Int32))), .val (.int (p3 &&& (3 : Int32))), .val (.int (p4 &&& (7 : Int32))), .val (.int (p5 &&& (255 : Int32))), .val (.int (t0_0 p1 p2 p3 p4)), .val (.ref b7), .val (.ref b8), .val (.int (1 : Int32)), .val (.int (1 : Int32)), .val (.ref b5_11)] [(.int (1 : Int32))])) _
    exact retN X12 hx (t := .boolean) Bd.returns (by simp) (hb hby at_134) hr
  · show Q_rm0 Z p1 p2 p3 p4 p5 q6 s_REQUEST w_bits_s_REQUEST h0 n0 _ T12.heap _
    exact ⟨rfl, N12⟩
set_option maxRecDepth 65536 in
set_option maxHeartbeats 40000000 in
theorem rm0_ft (l : Launch) (Z : State) (a0 : Array Value) (hw : ∀ d ∈ tables_1, d.before a0 Z = true) (ws : List Jvm.Cond) (p1 : Int32) (p2 : Int32) (p3 : Int32) (p4 : Int32) (p5 : Int32) (q6 : Int64) (s_REQUEST : Addr) (w_bits_s_REQUEST : Int32) (h0 : Heap) (n0 : Nat) (Z0 : n0 ≤ h0.size) (hb0 : w_bits_s_REQUEST = (0 : Int32)) (S_REQUEST : Sta Z h0 "com/example/wirecall/wirecall/protocol/FrameKind" "REQUEST" "Lcom/example/wirecall/wirecall/protocol/FrameKind;" (.ref s_REQUEST)) (F_bits_s_REQUEST : Fld Z h0 s_REQUEST "com/example/wirecall/wirecall/protocol/FrameKind" "bits" "I" (.int w_bits_s_REQUEST)) (E_s_REQUEST : Exa Z h0 s_REQUEST "com/example/wirecall/wirecall/protocol/FrameKind") (hc75 : (p2 &&& (1 : Int32)) = (1 : Int32)) (hc99 : ¬ ((p4 &&& (7 : Int32)) = (0 : Int32))) :
    MetFree l x (head1 (Jvm.Cond.code x code maxLocals ret :: ws) room_1) (fun a U => a = #[(.int p1), (.int p2), (.int p3), (.int p4), (.int p5), (.long q6)] ∧ Z.Warmed39 U.vm ∧ U.heap = h0) (fun _ _ _ _ _ => True) (fun _ U o U' => ∃ v L, o = .returned v ∧ Q_rm0 Z p1 p2 p3 p4 p5 q6 s_REQUEST w_bits_s_REQUEST h0 n0 v U'.heap L ∧ FrameEnd U o U' L room_1.cells room_1.slots) := by
  refine MetFree.of_bodySF (plainFor_of_name pn_0) hisR ?_
  intro p e s m args below meth c s₁ Bd hml0 hP hK
  obtain ⟨rfl, hZ, hh⟩ := hP
  have hx := Bd.exec
  have hby := Bd.bytes
  have hml : c.maxLocals = 18 := hml0
  have hown : s.vm.findClass "com/example/wirecall/wirecall/protocol/FrameOneWayPinLaw" = some m.cls := findClass_of_methodNamed Bd.named
  have hnm := (name_of_methodNamed Bd.named Bd.method).1
  have X0 : Stand p l e room_1 s m #[(.int p1), (.int p2), (.int p3), (.int p4), (.int p5), (.long q6)] below meth c s₁ [] 0 0 := Stand.of_body Bd
  have e0 : s₁.heap = h0 := by rw [← hh, Bd.state]; rfl
  have N0 := Fr.nil n0
  have pre0 : ∀ t, Steps p.tables e below (s₁.setTop (mkF m 0 #[.val (.int p1), .val (.int p2), .val (.int p3), .val (.int p4), .val (.int p5), .val (.long q6), .second, .unset, .unset, .unset, .unset, .unset, .unset, .unset, .unset, .unset, .unset, .unset] [])) t → Steps p.tables e below (s₁.setTop (entryFrame m #[(.int p1), (.int p2), (.int p3), (.int p4), (.int p5), (.long q6)] maxLocals)) t := fun t k => castTop (ef_0 m p1 p2 p3 p4 p5 q6) k
  obtain ⟨T7, h7, k7, X7, e7, E7, A7, st7⟩ := newP X0 hx hZ (hw _ (List.mem_of_getElem? (i := 0) rfl)) e0 (g := (mkF m 51 #[.val (.int p1), .val (.int p2), .val (.int p3), .val (.int p4), .val (.int p5), .val (.long q6), .second, .val (.int (p1 &&& (3 : Int32))), .val (.int (p2 &&& (1 : Int32))), .val (.int (p3 &&& (3 : Int32))), .val (.int (p4 &&& (7 : Int32))), .val (.int (p5 &&& (255 : Int32))), .val (.int (t0_0 p1 p2 p3 p4)), .unset, .unset, .unset, .unset, .unset] [(.int (0 : Int32))])) rfl (hb hby at_51) rfl (by decide) (cap := 0) (by decide) (by decide) (by decide) (by decide)
  obtain ⟨b7, g7⟩ : ∃ z, z = h0.size := ⟨_, rfl⟩
  rw [← g7] at A7 st7
  have g_b7 : n0 ≤ b7 := Nat.le_trans Z0 (Nat.le_of_eq g7.symm)
  have sz_b7 : h0.size ≤ b7 := Nat.le_trans (Nat.le_refl h0.size) (Nat.le_of_eq g7.symm)
  have V_b7 : Arv Z h7 b7 k7 .byte (0 : Int32) [] (.int (0 : Int32)) := (Arv.new A7 (by decide)).pad (pad_rep [] (.int (0 : Int32)) 0)
  have f0 := (F_bits_s_REQUEST.ext E7)
  obtain ⟨T8, h8, X8, e8, E8, A8, D8, -, st8⟩ := newO X7 hx hZ hown (hw _ (List.mem_of_getElem? (i := 1) rfl)) (hw _ (List.mem_of_getElem? (i := 2) rfl)) (hw _ (List.mem_of_getElem? (i := 3) rfl)) e7 (g := (mkF m 55 #[.val (.int p1), .val (.int p2), .val (.int p3), .val (.int p4), .val (.int p5), .val (.long q6), .second, .val (.int (p1 &&& (3 : Int32))), .val (.int (p2 &&& (1 : Int32))), .val (.int (p3 &&& (3 : Int32))), .val (.int (p4 &&& (7 : Int32))), .val (.int (p5 &&& (255 : Int32))), .val (.int (t0_0 p1 p2 p3 p4)), .val (.ref b7), .unset, .unset, .unset, .unset] [])) rfl (hb hby at_55) (by decide) (by decide)
  obtain ⟨b8, g8⟩ : ∃ z, z = h7.size := ⟨_, rfl⟩
  rw [← g8] at A8 D8 st8
  have g_b8 : n0 ≤ b8 := Nat.le_trans (Nat.le_trans Z0 E7.1) (Nat.le_of_eq g8.symm)
  have sz_b8 : h0.size ≤ b8 := Nat.le_trans (Nat.le_trans (Nat.le_refl h0.size) E7.1) (Nat.le_of_eq g8.symm)
  have F_flags_b8 : Fld Z h8 b8 "com/example/wirecall/wirecall/protocol/Frame" "flags" "I" (.int (0 : Int32)) := D8 (Or.inr (hw _ (List.mem_of_getElem? (i := 16) rfl))) (ty := .int) (by decide)
  have F_status_b8 : Fld Z h8 b8 "com/example/wirecall/wirecall/protocol/Frame" "status" "I" (.int (0 : Int32)) := D8 (Or.inr (hw _ (List.mem_of_getElem? (i := 18) rfl))) (ty := .int) (by decide)
  have F_id_b8 : Fld Z h8 b8 "com/example/wirecall/wirecall/protocol/Frame" "id" "J" (.long (0 : Int64)) := D8 (Or.inr (hw _ (List.mem_of_getElem? (i := 20) rfl))) (ty := .long) (by decide)
  have F_body_b8 : Fld Z h8 b8 "com/example/wirecall/wirecall/protocol/Frame" "body" "[B" .null := D8 (Or.inr (hw _ (List.mem_of_getElem? (i := 22) rfl))) (ty := (.array .byte)) (by decide)
  obtain ⟨_, _, ⟨T9, L9, k9, n9⟩, -, X9, ⟨Lc9, hQ9, l9, y9, z9⟩, st9⟩ := X8.specialBack hx (y := (⟨"com/example/wirecall/wirecall/protocol/Frame", "<init>", "(IIJ[B)V"⟩ : MethodName)) rfl hown (mvT hZ (hw _ (List.mem_of_getElem? (i := 4) rfl))) (mvT hZ (hw _ (List.mem_of_getElem? (i := 5) rfl))) (mvT hZ (hw _ (List.mem_of_getElem? (i := 6) rfl))) (by decide) (backOf (W := 1) (rm1 l Z a0 hw [] b8 (t0_0 p1 p2 p3 p4) (p5 &&& (255 : Int32)) q6 b7 (0 : Int32) (0 : Int32) (0 : Int64) .null h8 n0 (Nat.le_trans (Nat.le_trans Z0 E7.1) E8.1) A8 F_flags_b8 g_b8 F_status_b8 F_id_b8 F_body_b8) hZ (hw _ (List.mem_of_getElem? (i := 6) rfl)) (hw _ (List.mem_of_getElem? (i := 3) rfl)) (by decide) (by decide)) (g := (mkF m 67 #[.val (.int p1), .val (.int p2), .val (.int p3), .val (.int p4), .val (.int p5), .val (.long q6), .second, .val (.int (p1 &&& (3 : Int32))), .val (.int (p2 &&& (1 : Int32))), .val (.int (p3 &&& (3 : Int32))), .val (.int (p4 &&& (7 : Int32))), .val (.int (p5 &&& (255 : Int32))), .val (.int (t0_0 p1 p2 p3 p4)), .val (.ref b7), .unset, .unset, .unset, .unset] [(.ref b7), (.long q6), (.int (p5 &&& (255 : Int32))), (.int (t0_0 p1 p2 p3 p4)), (.ref b8), (.ref b8)])) rfl (by rw [hml]; rfl) (Steps.refl _) (a := b8) (argsL := [(.int (t0_0 p1 p2 p3 p4)), (.int (p5 &&& (255 : Int32))), (.long q6), (.ref b7)]) (rest := [(.ref b8)]) (lenOf pd__28IIJ_5bB_29V rfl) rfl (by show 2 * 0 + _ ≤ _; exact Nat.le_of_eq rfl) (hb hby at_67) (fun _ _ => ⟨rfl, e8, (by decide : 2 + 0 ≤ _), (by decide : 4 + 0 ≤ _)⟩)
  dsimp only [Pt.U, Pt.locs, Pt.cells, Pt.slots] at X9 l9 y9 z9 st9 hQ9
  subst l9 y9 z9
  obtain ⟨rfl, N9q, K9, i9_0, i9_1, i9_2, i9_3, i9_4⟩ := hQ9
  have N9 := Fr.app N0 N9q
  obtain ⟨cq10, kq10, q10a, q10b, q10c⟩ := isOf hZ rfl i9_0
  obtain ⟨_, _, ⟨T10, L10, k10, n10⟩, -, X10, ⟨Lc10, hQ10, l10, y10, z10⟩, st10⟩ := X9.virtualBack hx (y := (⟨"com/example/wirecall/wirecall/protocol/Frame", "oneWay", "()Z"⟩ : MethodName)) (z := (⟨"com/example/wirecall/wirecall/protocol/Frame", "oneWay", "()Z"⟩ : MethodName)) hown (mvT hZ (hw _ (List.mem_of_getElem? (i := 23) rfl))) (mvT hZ (hw _ (List.mem_of_getElem? (i := 24) rfl))) (notFace_of_selects (args := #[]) (mvT hZ (hw _ (List.mem_of_getElem? (i := 26) rfl)))) (mvT hZ (hw _ (List.mem_of_getElem? (i := 26) rfl))) (mvT hZ (hw _ (List.mem_of_getElem? (i := 25) rfl))) (by decide) (backOf (W := 0) (rm4 l Z a0 hw [] b8 (t0_0 p1 p2 p3 p4) T9.heap n0 (Nat.le_trans (Nat.le_trans (Nat.le_trans Z0 E7.1) E8.1) K9.1) i9_1) hZ (hw _ (List.mem_of_getElem? (i := 27) rfl)) (hw _ (List.mem_of_getElem? (i := 3) rfl)) (by decide) (by decide)) q10a q10c (g := (mkF m 87 #[.val (.int p1), .val (.int p2), .val (.int p3), .val (.int p4), .val (.int p5), .val (.long q6), .second, .val (.int (p1 &&& (3 : Int32))), .val (.int (p2 &&& (1 : Int32))), .val (.int (p3 &&& (3 : Int32))), .val (.int (p4 &&& (7 : Int32))), .val (.int (p5 &&& (255 : Int32))), .val (.int (t0_0 p1 p2 p3 p4)), .val (.ref b7), .val (.ref b8), .val (.int (1 : Int32)), .unset, .unset] [(.ref b8)])) rfl (by rw [hml]; rfl) (Steps.refl _) (argsL := []) (rest := []) (lenOf pd__28_29Z rfl) rfl (by show 2 * 0 + _ ≤ _; exact Nat.le_of_eq rfl) (hb hby at_87) (fun _ _ => ⟨rfl, rfl, (by decide : 2 + 0 ≤ _), (by decide : 4 + 0 ≤ _)⟩)
  dsimp only [Pt.U, Pt.locs, Pt.cells, Pt.slots] at X10 l10 y10 z10 st10 hQ10
  subst l10 y10 z10
  obtain ⟨rfl, N10q, e10⟩ := hQ10
  have N10 := Fr.app N9 N10q
  have f1 := (own_sta_keep ((S_REQUEST.ext E7).ext E8) K9 (own_qc (own_nst A8) own_q0))
  have f2 := ((f0.ext E8).keep K9 (own_nm (Nat.ne_of_lt (Nat.lt_of_lt_of_le f0.lt (Nat.le_of_eq g8.symm))) own_n0))
  have f3 := (((E_s_REQUEST.ext E7).ext E8).keep K9)
  obtain ⟨_, _, ⟨T11, L11, k11, n11⟩, -, X11, ⟨Lc11, hQ11, l11, y11, z11⟩, st11⟩ := Jvm.LawKit.callS X10 hx (y := (⟨"com/example/wirecall/wirecall/protocol/Frame", "request", "(JII[B)Lcom/example/wirecall/wirecall/protocol/Frame;"⟩ : MethodName)) hown (mvT hZ (hw _ (List.mem_of_getElem? (i := 28) rfl))) (mvT hZ (hw _ (List.mem_of_getElem? (i := 29) rfl))) (mvT hZ (hw _ (List.mem_of_getElem? (i := 3) rfl))) (mvT hZ (hw _ (List.mem_of_getElem? (i := 30) rfl))) (by decide) (backOf (W := 0) (rm5 l Z a0 hw [] q6 (p4 &&& (7 : Int32)) (p3 &&& (3 : Int32)) b7 s_REQUEST w_bits_s_REQUEST T9.heap n0 (Nat.le_trans (Nat.le_trans (Nat.le_trans Z0 E7.1) E8.1) K9.1) f1 f2 f3 (by first | exact (own_sl _ (own_m7 p4) hc99).1 | decide) (by first | exact (own_sl _ (own_m7 p4) hc99).2 | decide) ((own_cl _ (own_m3 p3)).1) ((own_cl _ (own_m3 p3)).2)) hZ (hw _ (List.mem_of_getElem? (i := 30) rfl)) (hw _ (List.mem_of_getElem? (i := 3) rfl)) (by decide) (by decide)) (g := (mkF m 118 #[.val (.int p1), .val (.int p2), .val (.int p3), .val (.int p4), .val (.int p5), .val (.long q6), .second, .val (.int (p1 &&& (3 : Int32))), .val (.int (p2 &&& (1 : Int32))), .val (.int (p3 &&& (3 : Int32))), .val (.int (p4 &&& (7 : Int32))), .val (.int (p5 &&& (255 : Int32))), .val (.int (t0_0 p1 p2 p3 p4)), .val (.ref b7), .val (.ref b8), .val (.int (1 : Int32)), .val (.int (p4 &&& (7 : Int32))), .unset] [(.ref b7), (.int (p3 &&& (3 : Int32))), (.int (p4 &&& (7 : Int32))), (.long q6)])) rfl (by rw [hml]; rfl) (argsL := [(.long q6), (.int (p4 &&& (7 : Int32))), (.int (p3 &&& (3 : Int32))), (.ref b7)]) (rest := []) (lenOf pd__28JII_5bB_29Lcom_2fexample_2fwirecall_2fwirecall_2fprotocol_2fFrame_3b rfl) rfl (by show 2 * 0 + _ ≤ _; exact Nat.le_of_eq rfl) (hb hby at_118) (fun _ _ => ⟨rfl, e10, (by decide : 2 + 1 ≤ _), (by decide : 4 + 4 ≤ _)⟩)
  dsimp only [Pt.U, Pt.locs, Pt.cells, Pt.slots] at X11 l11 y11 z11 st11 hQ11
  subst l11 y11 z11
  obtain ⟨b5_11, ⟨rfl, N11q, K11, i11_0, i11_1, i11_2, i11_3, i11_4, i11_5⟩⟩ := hQ11
  have N11 := Fr.app N10 N11q
  have f4 := ((V_b7.ext E8).keep K9 (own_nm (Nat.ne_of_lt (Nat.lt_of_lt_of_le V_b7.lt (Nat.le_of_eq g8.symm))) own_n0))
  have sz_b5_11 : h0.size ≤ b5_11 := Nat.le_trans (Nat.le_trans (Nat.le_trans (Nat.le_trans (Nat.le_refl h0.size) E7.1) E8.1) K9.1) i11_0
  have g_b5_11 : n0 ≤ b5_11 := Nat.le_trans Z0 sz_b5_11
  obtain ⟨cq12, kq12, q12a, q12b, q12c⟩ := isOf hZ rfl i11_1
  obtain ⟨_, _, ⟨T12, L12, k12, n12⟩, -, X12, ⟨Lc12, hQ12, l12, y12, z12⟩, st12⟩ := X11.virtualBack hx (y := (⟨"com/example/wirecall/wirecall/protocol/Frame", "oneWay", "()Z"⟩ : MethodName)) (z := (⟨"com/example/wirecall/wirecall/protocol/Frame", "oneWay", "()Z"⟩ : MethodName)) hown (mvT hZ (hw _ (List.mem_of_getElem? (i := 23) rfl))) (mvT hZ (hw _ (List.mem_of_getElem? (i := 24) rfl))) (notFace_of_selects (args := #[]) (mvT hZ (hw _ (List.mem_of_getElem? (i := 26) rfl)))) (mvT hZ (hw _ (List.mem_of_getElem? (i := 26) rfl))) (mvT hZ (hw _ (List.mem_of_getElem? (i := 25) rfl))) (by decide) (backOf (W := 0) (rm4 l Z a0 hw [] b5_11 (t6_0 (p4 &&& (7 : Int32)) (p3 &&& (3 : Int32)) w_bits_s_REQUEST) T11.heap n0 (Nat.le_trans (Nat.le_trans (Nat.le_trans (Nat.le_trans Z0 E7.1) E8.1) K9.1) K11.1) i11_2) hZ (hw _ (List.mem_of_getElem? (i := 27) rfl)) (hw _ (List.mem_of_getElem? (i := 3) rfl)) (by decide) (by decide)) q12a q12c (g := (mkF m 125 #[.val (.int p1), .val (.int p2), .val (.int p3), .val (.int p4), .val (.int p5), .val (.long q6), .second, .val (.int (p1 &&& (3 : Int32))), .val (.int (p2 &&& (1 : Int32))), .val (.int (p3 &&& (3 : Int32))), .val (.int (p4 &&& (7 : Int32))), .val (.int (p5 &&& (255 : Int32))), .val (.int (t0_0 p1 p2 p3 p4)), .val (.ref b7), .val (.ref b8), .val (.int (1 : Int32)), .val (.int (p4 &&& (7 : Int32))), .val (.ref b5_11)] [(.ref b5_11)])) rfl (by rw [hml]; rfl) (Steps.refl _) (argsL := []) (rest := []) (lenOf pd__28_29Z rfl) rfl (by show 2 * 0 + _ ≤ _; exact Nat.le_of_eq rfl) (hb hby at_125) (fun _ _ => ⟨rfl, rfl, (by decide : 3 + 0 ≤ _), (by decide : 8 + 0 ≤ _)⟩)
  dsimp only [Pt.U, Pt.locs, Pt.cells, Pt.slots] at X12 l12 y12 z12 st12 hQ12
  subst l12 y12 z12
  obtain ⟨rfl, N12q, e12⟩ := hQ12
  have N12 := Fr.app N11 N12q
  obtain ⟨fs, hr, hrun, hended, hW, hsame⟩ := X12.leave (v := some (.int (1 : Int32))) (fun h => by rw [Bd.returns] at h; cases h)
  refine ⟨_, _, pre0 _ ?_, hrun, hended, _, _, rfl, ?_, ⟨_, rfl⟩, hW, hsame.mono (by decide) (by decide)⟩
  · show Steps p.tables e below (s₁.setTop (mkF m 0 #[.val (.int p1), .val (.int p2), .val (.int p3), .val (.int p4), .val (.int p5), .val (.long q6), .second, .unset, .unset, .unset, .unset, .unset, .unset, .unset, .unset, .unset, .unset, .unset] [])) _
    refine XS.iloadN X0.here hx rfl (hb hby at_0) rfl ?_
    show Steps p.tables e below (s₁.setTop (mkF m 1 #[.val (.int p1), .val (.int p2), .val (.int p3), .val (.int p4), .val (.int p5), .val (.long q6), .second, .unset, .unset, .unset, .unset, .unset, .unset, .unset, .unset, .unset, .unset, .unset] [(.int p1)])) _
    refine XS.iconst X0.here hx rfl (hb hby at_1) ?_
    show Steps p.tables e below (s₁.setTop (mkF m 2 #[.val (.int p1), .val (.int p2), .val (.int p3), .val (.int p4), .val (.int p5), .val (.long q6), .second, .unset, .unset, .unset, .unset, .unset, .unset, .unset, .unset, .unset, .unset, .unset] [(.int (3 : Int32)), (.int p1)])) _
    refine XS.iand X0.here hx rfl (hb hby at_2) rfl ?_
    show Steps p.tables e below (s₁.setTop (mkF m 3 #[.val (.int p1), .val (.int p2), .val (.int p3), .val (.int p4), .val (.int p5), .val (.long q6), .second, .unset, .unset, .unset, .unset, .unset, .unset, .unset, .unset, .unset, .unset, .unset] [(.int (p1 &&& (3 : Int32)))])) _
    refine XS.istore X0.here hx rfl (hb hby at_3) rfl (l' := #[.val (.int p1), .val (.int p2), .val (.int p3), .val (.int p4), .val (.int p5), .val (.long q6), .second, .val (.int (p1 &&& (3 : Int32))), .unset, .unset, .unset, .unset, .unset, .unset, .unset, .unset, .unset, .unset]) rfl ?_
    show Steps p.tables e below (s₁.setTop (mkF m 5 #[.val (.int p1), .val (.int p2), .val (.int p3), .val (.int p4), .val (.int p5), .val (.long q6), .second, .val (.int (p1 &&& (3 : Int32))), .unset, .unset, .unset, .unset, .unset, .unset, .unset, .unset, .unset, .unset] [])) _
    refine XS.iloadN X0.here hx rfl (hb hby at_5) rfl ?_
    show Steps p.tables e below (s₁.setTop (mkF m 6 #[.val (.int p1), .val (.int p2), .val (.int p3), .val (.int p4), .val (.int p5), .val (.long q6), .second, .val (.int (p1 &&& (3 : Int32))), .unset, .unset, .unset, .unset, .unset, .unset, .unset, .unset, .unset, .unset] [(.int p2)])) _
    refine XS.iconst X0.here hx rfl (hb hby at_6) ?_
    show Steps p.tables e below (s₁.setTop (mkF m 7 #[.val (.int p1), .val (.int p2), .val (.int p3), .val (.int p4), .val (.int p5), .val (.long q6), .second, .val (.int (p1 &&& (3 : Int32))), .unset, .unset, .unset, .unset, .unset, .unset, .unset, .unset, .unset, .unset] [(.int (1 : Int32)), (.int p2)])) _
    refine XS.iand X0.here hx rfl (hb hby at_7) rfl ?_
    show Steps p.tables e below (s₁.setTop (mkF m 8 #[.val (.int p1), .val (.int p2), .val (.int p3), .val (.int p4), .val (.int p5), .val (.long q6), .second, .val (.int (p1 &&& (3 : Int32))), .unset, .unset, .unset, .unset, .unset, .unset, .unset, .unset, .unset, .unset] [(.int (p2 &&& (1 : Int32)))])) _
    refine XS.istore X0.here hx rfl (hb hby at_8) rfl (l' := #[.val (.int p1), .val (.int p2), .val (.int p3), .val (.int p4), .val (.int p5), .val (.long q6), .second, .val (.int (p1 &&& (3 : Int32))), .val (.int (p2 &&& (1 : Int32))), .unset, .unset, .unset, .unset, .unset, .unset, .unset, .unset, .unset]) rfl ?_
    show Steps p.tables e below (s₁.setTop (mkF m 10 #[.val (.int p1), .val (.int p2), .val (.int p3), .val (.int p4), .val (.int p5), .val (.long q6), .second, .val (.int (p1 &&& (3 : Int32))), .val (.int (p2 &&& (1 : Int32))), .unset, .unset, .unset, .unset, .unset, .unset, .unset, .unset, .unset] [])) _
    refine XS.iloadN X0.here hx rfl (hb hby at_10) rfl ?_
    show Steps p.tables e below (s₁.setTop (mkF m 11 #[.val (.int p1), .val (.int p2), .val (.int p3), .val (.int p4), .val (.int p5), .val (.long q6), .second, .val (.int (p1 &&& (3 : Int32))), .val (.int (p2 &&& (1 : Int32))), .unset, .unset, .unset, .unset, .unset, .unset, .unset, .unset, .unset] [(.int p3)])) _
    refine XS.iconst X0.here hx rfl (hb hby at_11) ?_
    show Steps p.tables e below (s₁.setTop (mkF m 12 #[.val (.int p1), .val (.int p2), .val (.int p3), .val (.int p4), .val (.int p5), .val (.long q6), .second, .val (.int (p1 &&& (3 : Int32))), .val (.int (p2 &&& (1 : Int32))), .unset, .unset, .unset, .unset, .unset, .unset, .unset, .unset, .unset] [(.int (3 : Int32)), (.int p3)])) _
    refine XS.iand X0.here hx rfl (hb hby at_12) rfl ?_
    show Steps p.tables e below (s₁.setTop (mkF m 13 #[.val (.int p1), .val (.int p2), .val (.int p3), .val (.int p4), .val (.int p5), .val (.long q6), .second, .val (.int (p1 &&& (3 : Int32))), .val (.int (p2 &&& (1 : Int32))), .unset, .unset, .unset, .unset, .unset, .unset, .unset, .unset, .unset] [(.int (p3 &&& (3 : Int32)))])) _
    refine XS.istore X0.here hx rfl (hb hby at_13) rfl (l' := #[.val (.int p1), .val (.int p2), .val (.int p3), .val (.int p4), .val (.int p5), .val (.long q6), .second, .val (.int (p1 &&& (3 : Int32))), .val (.int (p2 &&& (1 : Int32))), .val (.int (p3 &&& (3 : Int32))), .unset, .unset, .unset, .unset, .unset, .unset, .unset, .unset]) rfl ?_
    show Steps p.tables e below (s₁.setTop (mkF m 15 #[.val (.int p1), .val (.int p2), .val (.int p3), .val (.int p4), .val (.int p5), .val (.long q6), .second, .val (.int (p1 &&& (3 : Int32))), .val (.int (p2 &&& (1 : Int32))), .val (.int (p3 &&& (3 : Int32))), .unset, .unset, .unset, .unset, .unset, .unset, .unset, .unset] [])) _
    refine XS.iloadN X0.here hx rfl (hb hby at_15) rfl ?_
    show Steps p.tables e below (s₁.setTop (mkF m 16 #[.val (.int p1), .val (.int p2), .val (.int p3), .val (.int p4), .val (.int p5), .val (.long q6), .second, .val (.int (p1 &&& (3 : Int32))), .val (.int (p2 &&& (1 : Int32))), .val (.int (p3 &&& (3 : Int32))), .unset, .unset, .unset, .unset, .unset, .unset, .unset, .unset] [(.int p4)])) _
    refine XS.bipush X0.here hx rfl (hb hby at_16) ?_
    show Steps p.tables e below (s₁.setTop (mkF m 18 #[.val (.int p1), .val (.int p2), .val (.int p3), .val (.int p4), .val (.int p5), .val (.long q6), .second, .val (.int (p1 &&& (3 : Int32))), .val (.int (p2 &&& (1 : Int32))), .val (.int (p3 &&& (3 : Int32))), .unset, .unset, .unset, .unset, .unset, .unset, .unset, .unset] [(.int (7 : Int32)), (.int p4)])) _
    refine XS.iand X0.here hx rfl (hb hby at_18) rfl ?_
    show Steps p.tables e below (s₁.setTop (mkF m 19 #[.val (.int p1), .val (.int p2), .val (.int p3), .val (.int p4), .val (.int p5), .val (.long q6), .second, .val (.int (p1 &&& (3 : Int32))), .val (.int (p2 &&& (1 : Int32))), .val (.int (p3 &&& (3 : Int32))), .unset, .unset, .unset, .unset, .unset, .unset, .unset, .unset] [(.int (p4 &&& (7 : Int32)))])) _
    refine XS.istore X0.here hx rfl (hb hby at_19) rfl (l' := #[.val (.int p1), .val (.int p2), .val (.int p3), .val (.int p4), .val (.int p5), .val (.long q6), .second, .val (.int (p1 &&& (3 : Int32))), .val (.int (p2 &&& (1 : Int32))), .val (.int (p3 &&& (3 : Int32))), .val (.int (p4 &&& (7 : Int32))), .unset, .unset, .unset, .unset, .unset, .unset, .unset]) rfl ?_
    show Steps p.tables e below (s₁.setTop (mkF m 21 #[.val (.int p1), .val (.int p2), .val (.int p3), .val (.int p4), .val (.int p5), .val (.long q6), .second, .val (.int (p1 &&& (3 : Int32))), .val (.int (p2 &&& (1 : Int32))), .val (.int (p3 &&& (3 : Int32))), .val (.int (p4 &&& (7 : Int32))), .unset, .unset, .unset, .unset, .unset, .unset, .unset] [])) _
    refine XS.iload X0.here hx rfl (hb hby at_21) rfl ?_
    show Steps p.tables e below (s₁.setTop (mkF m 23 #[.val (.int p1), .val (.int p2), .val (.int p3), .val (.int p4), .val (.int p5), .val (.long q6), .second, .val (.int (p1 &&& (3 : Int32))), .val (.int (p2 &&& (1 : Int32))), .val (.int (p3 &&& (3 : Int32))), .val (.int (p4 &&& (7 : Int32))), .unset, .unset, .unset, .unset, .unset, .unset, .unset] [(.int p5)])) _
    refine XS.sipush X0.here hx rfl (hb hby at_23) ?_
    show Steps p.tables e below (s₁.setTop (mkF m 26 #[.val (.int p1), .val (.int p2), .val (.int p3), .val (.int p4), .val (.int p5), .val (.long q6), .second, .val (.int (p1 &&& (3 : Int32))), .val (.int (p2 &&& (1 : Int32))), .val (.int (p3 &&& (3 : Int32))), .val (.int (p4 &&& (7 : Int32))), .unset, .unset, .unset, .unset, .unset, .unset, .unset] [(.int (255 : Int32)), (.int p5)])) _
    refine XS.iand X0.here hx rfl (hb hby at_26) rfl ?_
    show Steps p.tables e below (s₁.setTop (mkF m 27 #[.val (.int p1), .val (.int p2), .val (.int p3), .val (.int p4), .val (.int p5), .val (.long q6), .second, .val (.int (p1 &&& (3 : Int32))), .val (.int (p2 &&& (1 : Int32))), .val (.int (p3 &&& (3 : Int32))), .val (.int (p4 &&& (7 : Int32))), .unset, .unset, .unset, .unset, .unset, .unset, .unset] [(.int (p5 &&& (255 : Int32)))])) _
    refine XS.istore X0.here hx rfl (hb hby at_27) rfl (l' := #[.val (.int p1), .val (.int p2), .val (.int p3), .val (.int p4), .val (.int p5), .val (.long q6), .second, .val (.int (p1 &&& (3 : Int32))), .val (.int (p2 &&& (1 : Int32))), .val (.int (p3 &&& (3 : Int32))), .val (.int (p4 &&& (7 : Int32))), .val (.int (p5 &&& (255 : Int32))), .unset, .unset, .unset, .unset, .unset, .unset]) rfl ?_
    show Steps p.tables e below (s₁.setTop (mkF m 29 #[.val (.int p1), .val (.int p2), .val (.int p3), .val (.int p4), .val (.int p5), .val (.long q6), .second, .val (.int (p1 &&& (3 : Int32))), .val (.int (p2 &&& (1 : Int32))), .val (.int (p3 &&& (3 : Int32))), .val (.int (p4 &&& (7 : Int32))), .val (.int (p5 &&& (255 : Int32))), .unset, .unset, .unset, .unset, .unset, .unset] [])) _
    refine XS.iload X0.here hx rfl (hb hby at_29) rfl ?_
    show Steps p.tables e below (s₁.setTop (mkF m 31 #[.val (.int p1), .val (.int p2), .val (.int p3), .val (.int p4), .val (.int p5), .val (.long q6), .second, .val (.int (p1 &&& (3 : Int32))), .val (.int (p2 &&& (1 : Int32))), .val (.int (p3 &&& (3 : Int32))), .val (.int (p4 &&& (7 : Int32))), .val (.int (p5 &&& (255 : Int32))), .unset, .unset, .unset, .unset, .unset, .unset] [(.int (p1 &&& (3 : Int32)))])) _
    refine XS.iconst X0.here hx rfl (hb hby at_31) ?_
    show Steps p.tables e below (s₁.setTop (mkF m 32 #[.val (.int p1), .val (.int p2), .val (.int p3), .val (.int p4), .val (.int p5), .val (.long q6), .second, .val (.int (p1 &&& (3 : Int32))), .val (.int (p2 &&& (1 : Int32))), .val (.int (p3 &&& (3 : Int32))), .val (.int (p4 &&& (7 : Int32))), .val (.int (p5 &&& (255 : Int32))), .unset, .unset, .unset, .unset, .unset, .unset] [(.int (4 : Int32)), (.int (p1 &&& (3 : Int32)))])) _
    refine XS.iload X0.here hx rfl (hb hby at_32) rfl ?_
    show Steps p.tables e below (s₁.setTop (mkF m 34 #[.val (.int p1), .val (.int p2), .val (.int p3), .val (.int p4), .val (.int p5), .val (.long q6), .second, .val (.int (p1 &&& (3 : Int32))), .val (.int (p2 &&& (1 : Int32))), .val (.int (p3 &&& (3 : Int32))), .val (.int (p4 &&& (7 : Int32))), .val (.int (p5 &&& (255 : Int32))), .unset, .unset, .unset, .unset, .unset, .unset] [(.int (p2 &&& (1 : Int32))), (.int (4 : Int32)), (.int (p1 &&& (3 : Int32)))])) _
    refine XS.imul X0.here hx rfl (hb hby at_34) rfl ?_
    show Steps p.tables e below (s₁.setTop (mkF m 35 #[.val (.int p1), .val (.int p2), .val (.int p3), .val (.int p4), .val (.int p5), .val (.long q6), .second, .val (.int (p1 &&& (3 : Int32))), .val (.int (p2 &&& (1 : Int32))), .val (.int (p3 &&& (3 : Int32))), .val (.int (p4 &&& (7 : Int32))), .val (.int (p5 &&& (255 : Int32))), .unset, .unset, .unset, .unset, .unset, .unset] [(.int ((4 : Int32) * (p2 &&& (1 : Int32)))), (.int (p1 &&& (3 : Int32)))])) _
    refine XS.iadd X0.here hx rfl (hb hby at_35) rfl ?_
    show Steps p.tables e below (s₁.setTop (mkF m 36 #[.val (.int p1), .val (.int p2), .val (.int p3), .val (.int p4), .val (.int p5), .val (.long q6), .second, .val (.int (p1 &&& (3 : Int32))), .val (.int (p2 &&& (1 : Int32))), .val (.int (p3 &&& (3 : Int32))), .val (.int (p4 &&& (7 : Int32))), .val (.int (p5 &&& (255 : Int32))), .unset, .unset, .unset, .unset, .unset, .unset] [(.int ((p1 &&& (3 : Int32)) + ((4 : Int32) * (p2 &&& (1 : Int32)))))])) _
    refine XS.bipush X0.here hx rfl (hb hby at_36) ?_
    show Steps p.tables e below (s₁.setTop (mkF m 38 #[.val (.int p1), .val (.int p2), .val (.int p3), .val (.int p4), .val (.int p5), .val (.long q6), .second, .val (.int (p1 &&& (3 : Int32))), .val (.int (p2 &&& (1 : Int32))), .val (.int (p3 &&& (3 : Int32))), .val (.int (p4 &&& (7 : Int32))), .val (.int (p5 &&& (255 : Int32))), .unset, .unset, .unset, .unset, .unset, .unset] [(.int (8 : Int32)), (.int ((p1 &&& (3 : Int32)) + ((4 : Int32) * (p2 &&& (1 : Int32)))))])) _
    refine XS.iload X0.here hx rfl (hb hby at_38) rfl ?_
    show Steps p.tables e below (s₁.setTop (mkF m 40 #[.val (.int p1), .val (.int p2), .val (.int p3), .val (.int p4), .val (.int p5), .val (.long q6), .second, .val (.int (p1 &&& (3 : Int32))), .val (.int (p2 &&& (1 : Int32))), .val (.int (p3 &&& (3 : Int32))), .val (.int (p4 &&& (7 : Int32))), .val (.int (p5 &&& (255 : Int32))), .unset, .unset, .unset, .unset, .unset, .unset] [(.int (p3 &&& (3 : Int32))), (.int (8 : Int32)), (.int ((p1 &&& (3 : Int32)) + ((4 : Int32) * (p2 &&& (1 : Int32)))))])) _
    refine XS.imul X0.here hx rfl (hb hby at_40) rfl ?_
    show Steps p.tables e below (s₁.setTop (mkF m 41 #[.val (.int p1), .val (.int p2), .val (.int p3), .val (.int p4), .val (.int p5), .val (.long q6), .second, .val (.int (p1 &&& (3 : Int32))), .val (.int (p2 &&& (1 : Int32))), .val (.int (p3 &&& (3 : Int32))), .val (.int (p4 &&& (7 : Int32))), .val (.int (p5 &&& (255 : Int32))), .unset, .unset, .unset, .unset, .unset, .unset] [(.int ((8 : Int32) * (p3 &&& (3 : Int32)))), (.int ((p1 &&& (3 : Int32)) + ((4 : Int32) * (p2 &&& (1 : Int32)))))])) _
    refine XS.iadd X0.here hx rfl (hb hby at_41) rfl ?_
    show Steps p.tables e below (s₁.setTop (mkF m 42 #[.val (.int p1), .val (.int p2), .val (.int p3), .val (.int p4), .val (.int p5), .val (.long q6), .second, .val (.int (p1 &&& (3 : Int32))), .val (.int (p2 &&& (1 : Int32))), .val (.int (p3 &&& (3 : Int32))), .val (.int (p4 &&& (7 : Int32))), .val (.int (p5 &&& (255 : Int32))), .unset, .unset, .unset, .unset, .unset, .unset] [(.int (((p1 &&& (3 : Int32)) + ((4 : Int32) * (p2 &&& (1 : Int32)))) + ((8 : Int32) * (p3 &&& (3 : Int32)))))])) _
    refine XS.bipush X0.here hx rfl (hb hby at_42) ?_
    show Steps p.tables e below (s₁.setTop (mkF m 44 #[.val (.int p1), .val (.int p2), .val (.int p3), .val (.int p4), .val (.int p5), .val (.long q6), .second, .val (.int (p1 &&& (3 : Int32))), .val (.int (p2 &&& (1 : Int32))), .val (.int (p3 &&& (3 : Int32))), .val (.int (p4 &&& (7 : Int32))), .val (.int (p5 &&& (255 : Int32))), .unset, .unset, .unset, .unset, .unset, .unset] [(.int (32 : Int32)), (.int (((p1 &&& (3 : Int32)) + ((4 : Int32) * (p2 &&& (1 : Int32)))) + ((8 : Int32) * (p3 &&& (3 : Int32)))))])) _
    refine XS.iload X0.here hx rfl (hb hby at_44) rfl ?_
    show Steps p.tables e below (s₁.setTop (mkF m 46 #[.val (.int p1), .val (.int p2), .val (.int p3), .val (.int p4), .val (.int p5), .val (.long q6), .second, .val (.int (p1 &&& (3 : Int32))), .val (.int (p2 &&& (1 : Int32))), .val (.int (p3 &&& (3 : Int32))), .val (.int (p4 &&& (7 : Int32))), .val (.int (p5 &&& (255 : Int32))), .unset, .unset, .unset, .unset, .unset, .unset] [(.int (p4 &&& (7 : Int32))), (.int (32 : Int32)), (.int (((p1 &&& (3 : Int32)) + ((4 : Int32) * (p2 &&& (1 : Int32)))) + ((8 : Int32) * (p3 &&& (3 : Int32)))))])) _
    refine XS.imul X0.here hx rfl (hb hby at_46) rfl ?_
    show Steps p.tables e below (s₁.setTop (mkF m 47 #[.val (.int p1), .val (.int p2), .val (.int p3), .val (.int p4), .val (.int p5), .val (.long q6), .second, .val (.int (p1 &&& (3 : Int32))), .val (.int (p2 &&& (1 : Int32))), .val (.int (p3 &&& (3 : Int32))), .val (.int (p4 &&& (7 : Int32))), .val (.int (p5 &&& (255 : Int32))), .unset, .unset, .unset, .unset, .unset, .unset] [(.int ((32 : Int32) * (p4 &&& (7 : Int32)))), (.int (((p1 &&& (3 : Int32)) + ((4 : Int32) * (p2 &&& (1 : Int32)))) + ((8 : Int32) * (p3 &&& (3 : Int32)))))])) _
    refine XS.iadd X0.here hx rfl (hb hby at_47) rfl ?_
    show Steps p.tables e below (s₁.setTop (mkF m 48 #[.val (.int p1), .val (.int p2), .val (.int p3), .val (.int p4), .val (.int p5), .val (.long q6), .second, .val (.int (p1 &&& (3 : Int32))), .val (.int (p2 &&& (1 : Int32))), .val (.int (p3 &&& (3 : Int32))), .val (.int (p4 &&& (7 : Int32))), .val (.int (p5 &&& (255 : Int32))), .unset, .unset, .unset, .unset, .unset, .unset] [(.int ((((p1 &&& (3 : Int32)) + ((4 : Int32) * (p2 &&& (1 : Int32)))) + ((8 : Int32) * (p3 &&& (3 : Int32)))) + ((32 : Int32) * (p4 &&& (7 : Int32)))))])) _
    refine XS.istore X0.here hx rfl (hb hby at_48) rfl (l' := #[.val (.int p1), .val (.int p2), .val (.int p3), .val (.int p4), .val (.int p5), .val (.long q6), .second, .val (.int (p1 &&& (3 : Int32))), .val (.int (p2 &&& (1 : Int32))), .val (.int (p3 &&& (3 : Int32))), .val (.int (p4 &&& (7 : Int32))), .val (.int (p5 &&& (255 : Int32))), .val (.int (t0_0 p1 p2 p3 p4)), .unset, .unset, .unset, .unset, .unset]) rfl ?_
    show Steps p.tables e below (s₁.setTop (mkF m 50 #[.val (.int p1), .val (.int p2), .val (.int p3), .val (.int p4), .val (.int p5), .val (.long q6), .second, .val (.int (p1 &&& (3 : Int32))), .val (.int (p2 &&& (1 : Int32))), .val (.int (p3 &&& (3 : Int32))), .val (.int (p4 &&& (7 : Int32))), .val (.int (p5 &&& (255 : Int32))), .val (.int (t0_0 p1 p2 p3 p4)), .unset, .unset, .unset, .unset, .unset] [])) _
    refine XS.iconst X0.here hx rfl (hb hby at_50) ?_
    show Steps p.tables e below (s₁.setTop (mkF m 51 #[.val (.int p1), .val (.int p2), .val (.int p3), .val (.int p4), .val (.int p5), .val (.long q6), .second, .val (.int (p1 &&& (3 : Int32))), .val (.int (p2 &&& (1 : Int32))), .val (.int (p3 &&& (3 : Int32))), .val (.int (p4 &&& (7 : Int32))), .val (.int (p5 &&& (255 : Int32))), .val (.int (t0_0 p1 p2 p3 p4)), .unset, .unset, .unset, .unset, .unset] [(.int (0 : Int32))])) _
    refine st7 _ ?_
    show Steps p.tables e below (T7.setTop (mkF m 53 #[.val (.int p1), .val (.int p2), .val (.int p3), .val (.int p4), .val (.int p5), .val (.long q6), .second, .val (.int (p1 &&& (3 : Int32))), .val (.int (p2 &&& (1 : Int32))), .val (.int (p3 &&& (3 : Int32))), .val (.int (p4 &&& (7 : Int32))), .val (.int (p5 &&& (255 : Int32))), .val (.int (t0_0 p1 p2 p3 p4)), .unset, .unset, .unset, .unset, .unset] [(.ref b7)])) _
    refine XS.astore X7.here hx rfl (hb hby at_53) rfl rfl (l' := #[.val (.int p1), .val (.int p2), .val (.int p3), .val (.int p4), .val (.int p5), .val (.long q6), .second, .val (.int (p1 &&& (3 : Int32))), .val (.int (p2 &&& (1 : Int32))), .val (.int (p3 &&& (3 : Int32))), .val (.int (p4 &&& (7 : Int32))), .val (.int (p5 &&& (255 : Int32))), .val (.int (t0_0 p1 p2 p3 p4)), .val (.ref b7), .unset, .unset, .unset, .unset]) rfl ?_
    show Steps p.tables e below (T7.setTop (mkF m 55 #[.val (.int p1), .val (.int p2), .val (.int p3), .val (.int p4), .val (.int p5), .val (.long q6), .second, .val (.int (p1 &&& (3 : Int32))), .val (.int (p2 &&& (1 : Int32))), .val (.int (p3 &&& (3 : Int32))), .val (.int (p4 &&& (7 : Int32))), .val (.int (p5 &&& (255 : Int32))), .val (.int (t0_0 p1 p2 p3 p4)), .val (.ref b7), .unset, .unset, .unset, .unset] [])) _
    refine st8 _ ?_
    show Steps p.tables e below (T8.setTop (mkF m 58 #[.val (.int p1), .val (.int p2), .val (.int p3), .val (.int p4), .val (.int p5), .val (.long q6), .second, .val (.int (p1 &&& (3 : Int32))), .val (.int (p2 &&& (1 : Int32))), .val (.int (p3 &&& (3 : Int32))), .val (.int (p4 &&& (7 : Int32))), .val (.int (p5 &&& (255 : Int32))), .val (.int (t0_0 p1 p2 p3 p4)), .val (.ref b7), .unset, .unset, .unset, .unset] [(.ref b8)])) _
    refine XS.dup X8.here hx rfl (hb hby at_58) rfl rfl ?_
    show Steps p.tables e below (T8.setTop (mkF m 59 #[.val (.int p1), .val (.int p2), .val (.int p3), .val (.int p4), .val (.int p5), .val (.long q6), .second, .val (.int (p1 &&& (3 : Int32))), .val (.int (p2 &&& (1 : Int32))), .val (.int (p3 &&& (3 : Int32))), .val (.int (p4 &&& (7 : Int32))), .val (.int (p5 &&& (255 : Int32))), .val (.int (t0_0 p1 p2 p3 p4)), .val (.ref b7), .unset, .unset, .unset, .unset] [(.ref b8), (.ref b8)])) _
    refine XS.iload X8.here hx rfl (hb hby at_59) rfl ?_
    show Steps p.tables e below (T8.setTop (mkF m 61 #[.val (.int p1), .val (.int p2), .val (.int p3), .val (.int p4), .val (.int p5), .val (.long q6), .second, .val (.int (p1 &&& (3 : Int32))), .val (.int (p2 &&& (1 : Int32))), .val (.int (p3 &&& (3 : Int32))), .val (.int (p4 &&& (7 : Int32))), .val (.int (p5 &&& (255 : Int32))), .val (.int (t0_0 p1 p2 p3 p4)), .val (.ref b7), .unset, .unset, .unset, .unset] [(.int (t0_0 p1 p2 p3 p4)), (.ref b8), (.ref b8)])) _
    refine XS.iload X8.here hx rfl (hb hby at_61) rfl ?_
    show Steps p.tables e below (T8.setTop (mkF m 63 #[.val (.int p1), .val (.int p2), .val (.int p3), .val (.int p4), .val (.int p5), .val (.long q6), .second, .val (.int (p1 &&& (3 : Int32))), .val (.int (p2 &&& (1 : Int32))), .val (.int (p3 &&& (3 : Int32))), .val (.int (p4 &&& (7 : Int32))), .val (.int (p5 &&& (255 : Int32))), .val (.int (t0_0 p1 p2 p3 p4)), .val (.ref b7), .unset, .unset, .unset, .unset] [(.int (p5 &&& (255 : Int32))), (.int (t0_0 p1 p2 p3 p4)), (.ref b8), (.ref b8)])) _
    refine XS.lload X8.here hx rfl (hb hby at_63) rfl ?_
    show Steps p.tables e below (T8.setTop (mkF m 65 #[.val (.int p1), .val (.int p2), .val (.int p3), .val (.int p4), .val (.int p5), .val (.long q6), .second, .val (.int (p1 &&& (3 : Int32))), .val (.int (p2 &&& (1 : Int32))), .val (.int (p3 &&& (3 : Int32))), .val (.int (p4 &&& (7 : Int32))), .val (.int (p5 &&& (255 : Int32))), .val (.int (t0_0 p1 p2 p3 p4)), .val (.ref b7), .unset, .unset, .unset, .unset] [(.long q6), (.int (p5 &&& (255 : Int32))), (.int (t0_0 p1 p2 p3 p4)), (.ref b8), (.ref b8)])) _
    refine XS.aload X8.here hx rfl (hb hby at_65) rfl rfl ?_
    show Steps p.tables e below (T8.setTop (mkF m 67 #[.val (.int p1), .val (.int p2), .val (.int p3), .val (.int p4), .val (.int p5), .val (.long q6), .second, .val (.int (p1 &&& (3 : Int32))), .val (.int (p2 &&& (1 : Int32))), .val (.int (p3 &&& (3 : Int32))), .val (.int (p4 &&& (7 : Int32))), .val (.int (p5 &&& (255 : Int32))), .val (.int (t0_0 p1 p2 p3 p4)), .val (.ref b7), .unset, .unset, .unset, .unset] [(.ref b7), (.long q6), (.int (p5 &&& (255 : Int32))), (.int (t0_0 p1 p2 p3 p4)), (.ref b8), (.ref b8)])) _
    refine st9.trans ?_
    show Steps p.tables e below (T9.setTop (mkF m 70 #[.val (.int p1), .val (.int p2), .val (.int p3), .val (.int p4), .val (.int p5), .val (.long q6), .second, .val (.int (p1 &&& (3 : Int32))), .val (.int (p2 &&& (1 : Int32))), .val (.int (p3 &&& (3 : Int32))), .val (.int (p4 &&& (7 : Int32))), .val (.int (p5 &&& (255 : Int32))), .val (.int (t0_0 p1 p2 p3 p4)), .val (.ref b7), .unset, .unset, .unset, .unset] [(.ref b8)])) _
    refine XS.astore X9.here hx rfl (hb hby at_70) rfl rfl (l' := #[.val (.int p1), .val (.int p2), .val (.int p3), .val (.int p4), .val (.int p5), .val (.long q6), .second, .val (.int (p1 &&& (3 : Int32))), .val (.int (p2 &&& (1 : Int32))), .val (.int (p3 &&& (3 : Int32))), .val (.int (p4 &&& (7 : Int32))), .val (.int (p5 &&& (255 : Int32))), .val (.int (t0_0 p1 p2 p3 p4)), .val (.ref b7), .val (.ref b8), .unset, .unset, .unset]) rfl ?_
    show Steps p.tables e below (T9.setTop (mkF m 72 #[.val (.int p1), .val (.int p2), .val (.int p3), .val (.int p4), .val (.int p5), .val (.long q6), .second, .val (.int (p1 &&& (3 : Int32))), .val (.int (p2 &&& (1 : Int32))), .val (.int (p3 &&& (3 : Int32))), .val (.int (p4 &&& (7 : Int32))), .val (.int (p5 &&& (255 : Int32))), .val (.int (t0_0 p1 p2 p3 p4)), .val (.ref b7), .val (.ref b8), .unset, .unset, .unset] [])) _
    refine XS.iload X9.here hx rfl (hb hby at_72) rfl ?_
    show Steps p.tables e below (T9.setTop (mkF m 74 #[.val (.int p1), .val (.int p2), .val (.int p3), .val (.int p4), .val (.int p5), .val (.long q6), .second, .val (.int (p1 &&& (3 : Int32))), .val (.int (p2 &&& (1 : Int32))), .val (.int (p3 &&& (3 : Int32))), .val (.int (p4 &&& (7 : Int32))), .val (.int (p5 &&& (255 : Int32))), .val (.int (t0_0 p1 p2 p3 p4)), .val (.ref b7), .val (.ref b8), .unset, .unset, .unset] [(.int (p2 &&& (1 : Int32)))])) _
    refine XS.iconst X9.here hx rfl (hb hby at_74) ?_
    show Steps p.tables e below (T9.setTop (mkF m 75 #[.val (.int p1), .val (.int p2), .val (.int p3), .val (.int p4), .val (.int p5), .val (.long q6), .second, .val (.int (p1 &&& (3 : Int32))), .val (.int (p2 &&& (1 : Int32))), .val (.int (p3 &&& (3 : Int32))), .val (.int (p4 &&& (7 : Int32))), .val (.int (p5 &&& (255 : Int32))), .val (.int (t0_0 p1 p2 p3 p4)), .val (.ref b7), .val (.ref b8), .unset, .unset, .unset] [(.int (1 : Int32)), (.int (p2 &&& (1 : Int32)))])) _
    refine XS.icmpNo X9.here hx rfl (hb hby at_75) rfl (teq hc75).2 ?_
    show Steps p.tables e below (T9.setTop (mkF m 78 #[.val (.int p1), .val (.int p2), .val (.int p3), .val (.int p4), .val (.int p5), .val (.long q6), .second, .val (.int (p1 &&& (3 : Int32))), .val (.int (p2 &&& (1 : Int32))), .val (.int (p3 &&& (3 : Int32))), .val (.int (p4 &&& (7 : Int32))), .val (.int (p5 &&& (255 : Int32))), .val (.int (t0_0 p1 p2 p3 p4)), .val (.ref b7), .val (.ref b8), .unset, .unset, .unset] [])) _
    refine XS.iconst X9.here hx rfl (hb hby at_78) ?_
    show Steps p.tables e below (T9.setTop (mkF m 79 #[.val (.int p1), .val (.int p2), .val (.int p3), .val (.int p4), .val (.int p5), .val (.long q6), .second, .val (.int (p1 &&& (3 : Int32))), .val (.int (p2 &&& (1 : Int32))), .val (.int (p3 &&& (3 : Int32))), .val (.int (p4 &&& (7 : Int32))), .val (.int (p5 &&& (255 : Int32))), .val (.int (t0_0 p1 p2 p3 p4)), .val (.ref b7), .val (.ref b8), .unset, .unset, .unset] [(.int (1 : Int32))])) _
    refine XS.goto X9.here hx rfl (pc0 := 79) (pc' := 83) rfl (hb hby at_79) (by decide) (by decide) ?_
    show Steps p.tables e below (T9.setTop (mkF m 83 #[.val (.int p1), .val (.int p2), .val (.int p3), .val (.int p4), .val (.int p5), .val (.long q6), .second, .val (.int (p1 &&& (3 : Int32))), .val (.int (p2 &&& (1 : Int32))), .val (.int (p3 &&& (3 : Int32))), .val (.int (p4 &&& (7 : Int32))), .val (.int (p5 &&& (255 : Int32))), .val (.int (t0_0 p1 p2 p3 p4)), .val (.ref b7), .val (.ref b8), .unset, .unset, .unset] [(.int (1 : Int32))])) _
    refine XS.istore X9.here hx rfl (hb hby at_83) rfl (l' := #[.val (.int p1), .val (.int p2), .val (.int p3), .val (.int p4), .val (.int p5), .val (.long q6), .second, .val (.int (p1 &&& (3 : Int32))), .val (.int (p2 &&& (1 : Int32))), .val (.int (p3 &&& (3 : Int32))), .val (.int (p4 &&& (7 : Int32))), .val (.int (p5 &&& (255 : Int32))), .val (.int (t0_0 p1 p2 p3 p4)), .val (.ref b7), .val (.ref b8), .val (.int (1 : Int32)), .unset, .unset]) rfl ?_
    show Steps p.tables e below (T9.setTop (mkF m 85 #[.val (.int p1), .val (.int p2), .val (.int p3), .val (.int p4), .val (.int p5), .val (.long q6), .second, .val (.int (p1 &&& (3 : Int32))), .val (.int (p2 &&& (1 : Int32))), .val (.int (p3 &&& (3 : Int32))), .val (.int (p4 &&& (7 : Int32))), .val (.int (p5 &&& (255 : Int32))), .val (.int (t0_0 p1 p2 p3 p4)), .val (.ref b7), .val (.ref b8), .val (.int (1 : Int32)), .unset, .unset] [])) _
    refine XS.aload X9.here hx rfl (hb hby at_85) rfl rfl ?_
    show Steps p.tables e below (T9.setTop (mkF m 87 #[.val (.int p1), .val (.int p2), .val (.int p3), .val (.int p4), .val (.int p5), .val (.long q6), .second, .val (.int (p1 &&& (3 : Int32))), .val (.int (p2 &&& (1 : Int32))), .val (.int (p3 &&& (3 : Int32))), .val (.int (p4 &&& (7 : Int32))), .val (.int (p5 &&& (255 : Int32))), .val (.int (t0_0 p1 p2 p3 p4)), .val (.ref b7), .val (.ref b8), .val (.int (1 : Int32)), .unset, .unset] [(.ref b8)])) _
    refine st10.trans ?_
    show Steps p.tables e below (T10.setTop (mkF m 90 #[.val (.int p1), .val (.int p2), .val (.int p3), .val (.int p4), .val (.int p5), .val (.long q6), .second, .val (.int (p1 &&& (3 : Int32))), .val (.int (p2 &&& (1 : Int32))), .val (.int (p3 &&& (3 : Int32))), .val (.int (p4 &&& (7 : Int32))), .val (.int (p5 &&& (255 : Int32))), .val (.int (t0_0 p1 p2 p3 p4)), .val (.ref b7), .val (.ref b8), .val (.int (1 : Int32)), .unset, .unset] [(.int (F4 (t0_0 p1 p2 p3 p4)))])) _
    refine XS.iload X10.here hx rfl (hb hby at_90) rfl ?_
    show Steps p.tables e below (T10.setTop (mkF m 92 #[.val (.int p1), .val (.int p2), .val (.int p3), .val (.int p4), .val (.int p5), .val (.long q6), .second, .val (.int (p1 &&& (3 : Int32))), .val (.int (p2 &&& (1 : Int32))), .val (.int (p3 &&& (3 : Int32))), .val (.int (p4 &&& (7 : Int32))), .val (.int (p5 &&& (255 : Int32))), .val (.int (t0_0 p1 p2 p3 p4)), .val (.ref b7), .val (.ref b8), .val (.int (1 : Int32)), .unset, .unset] [(.int (1 : Int32)), (.int (F4 (t0_0 p1 p2 p3 p4)))])) _
    refine XS.icmpYes X10.here hx rfl (pc0 := 92) (pc' := 97) rfl (hb hby at_92) rfl (teq (show (F4 (t0_0 p1 p2 p3 p4)) = (1 : Int32) from by first | exact (own_92 p1 p2 p3 p4).trans (if_pos hc75) | exact (own_92 p1 p2 p3 p4).trans (if_neg hc75))).1 (by decide) (by decide) ?_
    show Steps p.tables e below (T10.setTop (mkF m 97 #[.val (.int p1), .val (.int p2), .val (.int p3), .val (.int p4), .val (.int p5), .val (.long q6), .second, .val (.int (p1 &&& (3 : Int32))), .val (.int (p2 &&& (1 : Int32))), .val (.int (p3 &&& (3 : Int32))), .val (.int (p4 &&& (7 : Int32))), .val (.int (p5 &&& (255 : Int32))), .val (.int (t0_0 p1 p2 p3 p4)), .val (.ref b7), .val (.ref b8), .val (.int (1 : Int32)), .unset, .unset] [])) _
    refine XS.iload X10.here hx rfl (hb hby at_97) rfl ?_
    show Steps p.tables e below (T10.setTop (mkF m 99 #[.val (.int p1), .val (.int p2), .val (.int p3), .val (.int p4), .val (.int p5), .val (.long q6), .second, .val (.int (p1 &&& (3 : Int32))), .val (.int (p2 &&& (1 : Int32))), .val (.int (p3 &&& (3 : Int32))), .val (.int (p4 &&& (7 : Int32))), .val (.int (p5 &&& (255 : Int32))), .val (.int (t0_0 p1 p2 p3 p4)), .val (.ref b7), .val (.ref b8), .val (.int (1 : Int32)), .unset, .unset] [(.int (p4 &&& (7 : Int32)))])) _
    refine XS.ifYes X10.here hx rfl (pc0 := 99) (pc' := 106) rfl (hb hby at_99) rfl ((if0 _ _).trans (feq hc99).2) (by decide) (by decide) ?_
    show Steps p.tables e below (T10.setTop (mkF m 106 #[.val (.int p1), .val (.int p2), .val (.int p3), .val (.int p4), .val (.int p5), .val (.long q6), .second, .val (.int (p1 &&& (3 : Int32))), .val (.int (p2 &&& (1 : Int32))), .val (.int (p3 &&& (3 : Int32))), .val (.int (p4 &&& (7 : Int32))), .val (.int (p5 &&& (255 : Int32))), .val (.int (t0_0 p1 p2 p3 p4)), .val (.ref b7), .val (.ref b8), .val (.int (1 : Int32)), .unset, .unset] [])) _
    refine XS.iload X10.here hx rfl (hb hby at_106) rfl ?_
    show Steps p.tables e below (T10.setTop (mkF m 108 #[.val (.int p1), .val (.int p2), .val (.int p3), .val (.int p4), .val (.int p5), .val (.long q6), .second, .val (.int (p1 &&& (3 : Int32))), .val (.int (p2 &&& (1 : Int32))), .val (.int (p3 &&& (3 : Int32))), .val (.int (p4 &&& (7 : Int32))), .val (.int (p5 &&& (255 : Int32))), .val (.int (t0_0 p1 p2 p3 p4)), .val (.ref b7), .val (.ref b8), .val (.int (1 : Int32)), .unset, .unset] [(.int (p4 &&& (7 : Int32)))])) _
    refine XS.istore X10.here hx rfl (hb hby at_108) rfl (l' := #[.val (.int p1), .val (.int p2), .val (.int p3), .val (.int p4), .val (.int p5), .val (.long q6), .second, .val (.int (p1 &&& (3 : Int32))), .val (.int (p2 &&& (1 : Int32))), .val (.int (p3 &&& (3 : Int32))), .val (.int (p4 &&& (7 : Int32))), .val (.int (p5 &&& (255 : Int32))), .val (.int (t0_0 p1 p2 p3 p4)), .val (.ref b7), .val (.ref b8), .val (.int (1 : Int32)), .val (.int (p4 &&& (7 : Int32))), .unset]) rfl ?_
    show Steps p.tables e below (T10.setTop (mkF m 110 #[.val (.int p1), .val (.int p2), .val (.int p3), .val (.int p4), .val (.int p5), .val (.long q6), .second, .val (.int (p1 &&& (3 : Int32))), .val (.int (p2 &&& (1 : Int32))), .val (.int (p3 &&& (3 : Int32))), .val (.int (p4 &&& (7 : Int32))), .val (.int (p5 &&& (255 : Int32))), .val (.int (t0_0 p1 p2 p3 p4)), .val (.ref b7), .val (.ref b8), .val (.int (1 : Int32)), .val (.int (p4 &&& (7 : Int32))), .unset] [])) _
    refine XS.lload X10.here hx rfl (hb hby at_110) rfl ?_
    show Steps p.tables e below (T10.setTop (mkF m 112 #[.val (.int p1), .val (.int p2), .val (.int p3), .val (.int p4), .val (.int p5), .val (.long q6), .second, .val (.int (p1 &&& (3 : Int32))), .val (.int (p2 &&& (1 : Int32))), .val (.int (p3 &&& (3 : Int32))), .val (.int (p4 &&& (7 : Int32))), .val (.int (p5 &&& (255 : Int32))), .val (.int (t0_0 p1 p2 p3 p4)), .val (.ref b7), .val (.ref b8), .val (.int (1 : Int32)), .val (.int (p4 &&& (7 : Int32))), .unset] [(.long q6)])) _
    refine XS.iload X10.here hx rfl (hb hby at_112) rfl ?_
    show Steps p.tables e below (T10.setTop (mkF m 114 #[.val (.int p1), .val (.int p2), .val (.int p3), .val (.int p4), .val (.int p5), .val (.long q6), .second, .val (.int (p1 &&& (3 : Int32))), .val (.int (p2 &&& (1 : Int32))), .val (.int (p3 &&& (3 : Int32))), .val (.int (p4 &&& (7 : Int32))), .val (.int (p5 &&& (255 : Int32))), .val (.int (t0_0 p1 p2 p3 p4)), .val (.ref b7), .val (.ref b8), .val (.int (1 : Int32)), .val (.int (p4 &&& (7 : Int32))), .unset] [(.int (p4 &&& (7 : Int32))), (.long q6)])) _
    refine XS.iload X10.here hx rfl (hb hby at_114) rfl ?_
    show Steps p.tables e below (T10.setTop (mkF m 116 #[.val (.int p1), .val (.int p2), .val (.int p3), .val (.int p4), .val (.int p5), .val (.long q6), .second, .val (.int (p1 &&& (3 : Int32))), .val (.int (p2 &&& (1 : Int32))), .val (.int (p3 &&& (3 : Int32))), .val (.int (p4 &&& (7 : Int32))), .val (.int (p5 &&& (255 : Int32))), .val (.int (t0_0 p1 p2 p3 p4)), .val (.ref b7), .val (.ref b8), .val (.int (1 : Int32)), .val (.int (p4 &&& (7 : Int32))), .unset] [(.int (p3 &&& (3 : Int32))), (.int (p4 &&& (7 : Int32))), (.long q6)])) _
    refine XS.aload X10.here hx rfl (hb hby at_116) rfl rfl ?_
    show Steps p.tables e below (T10.setTop (mkF m 118 #[.val (.int p1), .val (.int p2), .val (.int p3), .val (.int p4), .val (.int p5), .val (.long q6), .second, .val (.int (p1 &&& (3 : Int32))), .val (.int (p2 &&& (1 : Int32))), .val (.int (p3 &&& (3 : Int32))), .val (.int (p4 &&& (7 : Int32))), .val (.int (p5 &&& (255 : Int32))), .val (.int (t0_0 p1 p2 p3 p4)), .val (.ref b7), .val (.ref b8), .val (.int (1 : Int32)), .val (.int (p4 &&& (7 : Int32))), .unset] [(.ref b7), (.int (p3 &&& (3 : Int32))), (.int (p4 &&& (7 : Int32))), (.long q6)])) _
    refine st11 _ ?_
    show Steps p.tables e below (T11.setTop (mkF m 121 #[.val (.int p1), .val (.int p2), .val (.int p3), .val (.int p4), .val (.int p5), .val (.long q6), .second, .val (.int (p1 &&& (3 : Int32))), .val (.int (p2 &&& (1 : Int32))), .val (.int (p3 &&& (3 : Int32))), .val (.int (p4 &&& (7 : Int32))), .val (.int (p5 &&& (255 : Int32))), .val (.int (t0_0 p1 p2 p3 p4)), .val (.ref b7), .val (.ref b8), .val (.int (1 : Int32)), .val (.int (p4 &&& (7 : Int32))), .unset] [(.ref b5_11)])) _
    refine XS.astore X11.here hx rfl (hb hby at_121) rfl rfl (l' := #[.val (.int p1), .val (.int p2), .val (.int p3), .val (.int p4), .val (.int p5), .val (.long q6), .second, .val (.int (p1 &&& (3 : Int32))), .val (.int (p2 &&& (1 : Int32))), .val (.int (p3 &&& (3 : Int32))), .val (.int (p4 &&& (7 : Int32))), .val (.int (p5 &&& (255 : Int32))), .val (.int (t0_0 p1 p2 p3 p4)), .val (.ref b7), .val (.ref b8), .val (.int (1 : Int32)), .val (.int (p4 &&& (7 : Int32))), .val (.ref b5_11)]) rfl ?_
    show Steps p.tables e below (T11.setTop (mkF m 123 #[.val (.int p1), .val (.int p2), .val (.int p3), .val (.int p4), .val (.int p5), .val (.long q6), .second, .val (.int (p1 &&& (3 : Int32))), .val (.int (p2 &&& (1 : Int32))), .val (.int (p3 &&& (3 : Int32))), .val (.int (p4 &&& (7 : Int32))), .val (.int (p5 &&& (255 : Int32))), .val (.int (t0_0 p1 p2 p3 p4)), .val (.ref b7), .val (.ref b8), .val (.int (1 : Int32)), .val (.int (p4 &&& (7 : Int32))), .val (.ref b5_11)] [])) _
    refine XS.aload X11.here hx rfl (hb hby at_123) rfl rfl ?_
    show Steps p.tables e below (T11.setTop (mkF m 125 #[.val (.int p1), .val (.int p2), .val (.int p3), .val (.int p4), .val (.int p5), .val (.long q6), .second, .val (.int (p1 &&& (3 : Int32))), .val (.int (p2 &&& (1 : Int32))), .val (.int (p3 &&& (3 : Int32))), .val (.int (p4 &&& (7 : Int32))), .val (.int (p5 &&& (255 : Int32))), .val (.int (t0_0 p1 p2 p3 p4)), .val (.ref b7), .val (.ref b8), .val (.int (1 : Int32)), .val (.int (p4 &&& (7 : Int32))), .val (.ref b5_11)] [(.ref b5_11)])) _
    refine st12.trans ?_
    show Steps p.tables e below (T12.setTop (mkF m 128 #[.val (.int p1), .val (.int p2), .val (.int p3), .val (.int p4), .val (.int p5), .val (.long q6), .second, .val (.int (p1 &&& (3 : Int32))), .val (.int (p2 &&& (1 : Int32))), .val (.int (p3 &&& (3 : Int32))), .val (.int (p4 &&& (7 : Int32))), .val (.int (p5 &&& (255 : Int32))), .val (.int (t0_0 p1 p2 p3 p4)), .val (.ref b7), .val (.ref b8), .val (.int (1 : Int32)), .val (.int (p4 &&& (7 : Int32))), .val (.ref b5_11)] [(.int (F4 (t6_0 (p4 &&& (7 : Int32)) (p3 &&& (3 : Int32)) w_bits_s_REQUEST)))])) _
    refine XS.ifYes X12.here hx rfl (pc0 := 128) (pc' := 133) rfl (hb hby at_128) rfl ((if0 _ _).trans (teq (show (t0_2 p3 p4 w_bits_s_REQUEST) = (0 : Int32) from by rw [hb0]; first | exact own_rq _ (own_m3 p3) _ (own_m7 p4) | exact own_rq _ (own_m3 p3) 1 (by decide))).1) (by decide) (by decide) ?_
    show Steps p.tables e below (T12.setTop (mkF m 133 #[.val (.int p1), .val (.int p2), .val (.int p3), .val (.int p4), .val (.int p5), .val (.long q6), .second, .val (.int (p1 &&& (3 : Int32))), .val (.int (p2 &&& (1 : Int32))), .val (.int (p3 &&& (3 : Int32))), .val (.int (p4 &&& (7 : Int32))), .val (.int (p5 &&& (255 : Int32))), .val (.int (t0_0 p1 p2 p3 p4)), .val (.ref b7), .val (.ref b8), .val (.int (1 : Int32)), .val (.int (p4 &&& (7 : Int32))), .val (.ref b5_11)] [])) _
    refine XS.iconst X12.here hx rfl (hb hby at_133) ?_
    show Steps p.tables e below (T12.setTop (mkF m 134 #[.val (.int p1), .val (.int p2), .val (.int p3), .val (.int p4), .val (.int p5), .val (.long q6), .second, .val (.int (p1 &&& (3 : Int32))), .val (.int (p2 &&& (1 : Int32))), .val (.int (p3 &&& (3 : Int32))), .val (.int (p4 &&& (7 : Int32))), .val (.int (p5 &&& (255 : Int32))), .val (.int (t0_0 p1 p2 p3 p4)), .val (.ref b7), .val (.ref b8), .val (.int (1 : Int32)), .val (.int (p4 &&& (7 : Int32))), .val (.ref b5_11)] [(.int (1 : Int32))])) _
    exact retN X12 hx (t := .boolean) Bd.returns (by simp) (hb hby at_134) hr
  · show Q_rm0 Z p1 p2 p3 p4 p5 q6 s_REQUEST w_bits_s_REQUEST h0 n0 _ T12.heap _
    exact ⟨rfl, N12⟩
set_option maxRecDepth 65536 in
set_option maxHeartbeats 40000000 in
theorem rm0_tf (l : Launch) (Z : State) (a0 : Array Value) (hw : ∀ d ∈ tables_1, d.before a0 Z = true) (ws : List Jvm.Cond) (p1 : Int32) (p2 : Int32) (p3 : Int32) (p4 : Int32) (p5 : Int32) (q6 : Int64) (s_REQUEST : Addr) (w_bits_s_REQUEST : Int32) (h0 : Heap) (n0 : Nat) (Z0 : n0 ≤ h0.size) (hb0 : w_bits_s_REQUEST = (0 : Int32)) (S_REQUEST : Sta Z h0 "com/example/wirecall/wirecall/protocol/FrameKind" "REQUEST" "Lcom/example/wirecall/wirecall/protocol/FrameKind;" (.ref s_REQUEST)) (F_bits_s_REQUEST : Fld Z h0 s_REQUEST "com/example/wirecall/wirecall/protocol/FrameKind" "bits" "I" (.int w_bits_s_REQUEST)) (E_s_REQUEST : Exa Z h0 s_REQUEST "com/example/wirecall/wirecall/protocol/FrameKind") (hc75 : ¬ ((p2 &&& (1 : Int32)) = (1 : Int32))) (hc99 : (p4 &&& (7 : Int32)) = (0 : Int32)) :
    MetFree l x (head1 (Jvm.Cond.code x code maxLocals ret :: ws) room_1) (fun a U => a = #[(.int p1), (.int p2), (.int p3), (.int p4), (.int p5), (.long q6)] ∧ Z.Warmed39 U.vm ∧ U.heap = h0) (fun _ _ _ _ _ => True) (fun _ U o U' => ∃ v L, o = .returned v ∧ Q_rm0 Z p1 p2 p3 p4 p5 q6 s_REQUEST w_bits_s_REQUEST h0 n0 v U'.heap L ∧ FrameEnd U o U' L room_1.cells room_1.slots) := by
  refine MetFree.of_bodySF (plainFor_of_name pn_0) hisR ?_
  intro p e s m args below meth c s₁ Bd hml0 hP hK
  obtain ⟨rfl, hZ, hh⟩ := hP
  have hx := Bd.exec
  have hby := Bd.bytes
  have hml : c.maxLocals = 18 := hml0
  have hown : s.vm.findClass "com/example/wirecall/wirecall/protocol/FrameOneWayPinLaw" = some m.cls := findClass_of_methodNamed Bd.named
  have hnm := (name_of_methodNamed Bd.named Bd.method).1
  have X0 : Stand p l e room_1 s m #[(.int p1), (.int p2), (.int p3), (.int p4), (.int p5), (.long q6)] below meth c s₁ [] 0 0 := Stand.of_body Bd
  have e0 : s₁.heap = h0 := by rw [← hh, Bd.state]; rfl
  have N0 := Fr.nil n0
  have pre0 : ∀ t, Steps p.tables e below (s₁.setTop (mkF m 0 #[.val (.int p1), .val (.int p2), .val (.int p3), .val (.int p4), .val (.int p5), .val (.long q6), .second, .unset, .unset, .unset, .unset, .unset, .unset, .unset, .unset, .unset, .unset, .unset] [])) t → Steps p.tables e below (s₁.setTop (entryFrame m #[(.int p1), (.int p2), (.int p3), (.int p4), (.int p5), (.long q6)] maxLocals)) t := fun t k => castTop (ef_0 m p1 p2 p3 p4 p5 q6) k
  obtain ⟨T7, h7, k7, X7, e7, E7, A7, st7⟩ := newP X0 hx hZ (hw _ (List.mem_of_getElem? (i := 0) rfl)) e0 (g := (mkF m 51 #[.val (.int p1), .val (.int p2), .val (.int p3), .val (.int p4), .val (.int p5), .val (.long q6), .second, .val (.int (p1 &&& (3 : Int32))), .val (.int (p2 &&& (1 : Int32))), .val (.int (p3 &&& (3 : Int32))), .val (.int (p4 &&& (7 : Int32))), .val (.int (p5 &&& (255 : Int32))), .val (.int (t0_0 p1 p2 p3 p4)), .unset, .unset, .unset, .unset, .unset] [(.int (0 : Int32))])) rfl (hb hby at_51) rfl (by decide) (cap := 0) (by decide) (by decide) (by decide) (by decide)
  obtain ⟨b7, g7⟩ : ∃ z, z = h0.size := ⟨_, rfl⟩
  rw [← g7] at A7 st7
  have g_b7 : n0 ≤ b7 := Nat.le_trans Z0 (Nat.le_of_eq g7.symm)
  have sz_b7 : h0.size ≤ b7 := Nat.le_trans (Nat.le_refl h0.size) (Nat.le_of_eq g7.symm)
  have V_b7 : Arv Z h7 b7 k7 .byte (0 : Int32) [] (.int (0 : Int32)) := (Arv.new A7 (by decide)).pad (pad_rep [] (.int (0 : Int32)) 0)
  have f0 := (F_bits_s_REQUEST.ext E7)
  obtain ⟨T8, h8, X8, e8, E8, A8, D8, -, st8⟩ := newO X7 hx hZ hown (hw _ (List.mem_of_getElem? (i := 1) rfl)) (hw _ (List.mem_of_getElem? (i := 2) rfl)) (hw _ (List.mem_of_getElem? (i := 3) rfl)) e7 (g := (mkF m 55 #[.val (.int p1), .val (.int p2), .val (.int p3), .val (.int p4), .val (.int p5), .val (.long q6), .second, .val (.int (p1 &&& (3 : Int32))), .val (.int (p2 &&& (1 : Int32))), .val (.int (p3 &&& (3 : Int32))), .val (.int (p4 &&& (7 : Int32))), .val (.int (p5 &&& (255 : Int32))), .val (.int (t0_0 p1 p2 p3 p4)), .val (.ref b7), .unset, .unset, .unset, .unset] [])) rfl (hb hby at_55) (by decide) (by decide)
  obtain ⟨b8, g8⟩ : ∃ z, z = h7.size := ⟨_, rfl⟩
  rw [← g8] at A8 D8 st8
  have g_b8 : n0 ≤ b8 := Nat.le_trans (Nat.le_trans Z0 E7.1) (Nat.le_of_eq g8.symm)
  have sz_b8 : h0.size ≤ b8 := Nat.le_trans (Nat.le_trans (Nat.le_refl h0.size) E7.1) (Nat.le_of_eq g8.symm)
  have F_flags_b8 : Fld Z h8 b8 "com/example/wirecall/wirecall/protocol/Frame" "flags" "I" (.int (0 : Int32)) := D8 (Or.inr (hw _ (List.mem_of_getElem? (i := 16) rfl))) (ty := .int) (by decide)
  have F_status_b8 : Fld Z h8 b8 "com/example/wirecall/wirecall/protocol/Frame" "status" "I" (.int (0 : Int32)) := D8 (Or.inr (hw _ (List.mem_of_getElem? (i := 18) rfl))) (ty := .int) (by decide)
  have F_id_b8 : Fld Z h8 b8 "com/example/wirecall/wirecall/protocol/Frame" "id" "J" (.long (0 : Int64)) := D8 (Or.inr (hw _ (List.mem_of_getElem? (i := 20) rfl))) (ty := .long) (by decide)
  have F_body_b8 : Fld Z h8 b8 "com/example/wirecall/wirecall/protocol/Frame" "body" "[B" .null := D8 (Or.inr (hw _ (List.mem_of_getElem? (i := 22) rfl))) (ty := (.array .byte)) (by decide)
  obtain ⟨_, _, ⟨T9, L9, k9, n9⟩, -, X9, ⟨Lc9, hQ9, l9, y9, z9⟩, st9⟩ := X8.specialBack hx (y := (⟨"com/example/wirecall/wirecall/protocol/Frame", "<init>", "(IIJ[B)V"⟩ : MethodName)) rfl hown (mvT hZ (hw _ (List.mem_of_getElem? (i := 4) rfl))) (mvT hZ (hw _ (List.mem_of_getElem? (i := 5) rfl))) (mvT hZ (hw _ (List.mem_of_getElem? (i := 6) rfl))) (by decide) (backOf (W := 1) (rm1 l Z a0 hw [] b8 (t0_0 p1 p2 p3 p4) (p5 &&& (255 : Int32)) q6 b7 (0 : Int32) (0 : Int32) (0 : Int64) .null h8 n0 (Nat.le_trans (Nat.le_trans Z0 E7.1) E8.1) A8 F_flags_b8 g_b8 F_status_b8 F_id_b8 F_body_b8) hZ (hw _ (List.mem_of_getElem? (i := 6) rfl)) (hw _ (List.mem_of_getElem? (i := 3) rfl)) (by decide) (by decide)) (g := (mkF m 67 #[.val (.int p1), .val (.int p2), .val (.int p3), .val (.int p4), .val (.int p5), .val (.long q6), .second, .val (.int (p1 &&& (3 : Int32))), .val (.int (p2 &&& (1 : Int32))), .val (.int (p3 &&& (3 : Int32))), .val (.int (p4 &&& (7 : Int32))), .val (.int (p5 &&& (255 : Int32))), .val (.int (t0_0 p1 p2 p3 p4)), .val (.ref b7), .unset, .unset, .unset, .unset] [(.ref b7), (.long q6), (.int (p5 &&& (255 : Int32))), (.int (t0_0 p1 p2 p3 p4)), (.ref b8), (.ref b8)])) rfl (by rw [hml]; rfl) (Steps.refl _) (a := b8) (argsL := [(.int (t0_0 p1 p2 p3 p4)), (.int (p5 &&& (255 : Int32))), (.long q6), (.ref b7)]) (rest := [(.ref b8)]) (lenOf pd__28IIJ_5bB_29V rfl) rfl (by show 2 * 0 + _ ≤ _; exact Nat.le_of_eq rfl) (hb hby at_67) (fun _ _ => ⟨rfl, e8, (by decide : 2 + 0 ≤ _), (by decide : 4 + 0 ≤ _)⟩)
  dsimp only [Pt.U, Pt.locs, Pt.cells, Pt.slots] at X9 l9 y9 z9 st9 hQ9
  subst l9 y9 z9
  obtain ⟨rfl, N9q, K9, i9_0, i9_1, i9_2, i9_3, i9_4⟩ := hQ9
  have N9 := Fr.app N0 N9q
  obtain ⟨cq10, kq10, q10a, q10b, q10c⟩ := isOf hZ rfl i9_0
  obtain ⟨_, _, ⟨T10, L10, k10, n10⟩, -, X10, ⟨Lc10, hQ10, l10, y10, z10⟩, st10⟩ := X9.virtualBack hx (y := (⟨"com/example/wirecall/wirecall/protocol/Frame", "oneWay", "()Z"⟩ : MethodName)) (z := (⟨"com/example/wirecall/wirecall/protocol/Frame", "oneWay", "()Z"⟩ : MethodName)) hown (mvT hZ (hw _ (List.mem_of_getElem? (i := 23) rfl))) (mvT hZ (hw _ (List.mem_of_getElem? (i := 24) rfl))) (notFace_of_selects (args := #[]) (mvT hZ (hw _ (List.mem_of_getElem? (i := 26) rfl)))) (mvT hZ (hw _ (List.mem_of_getElem? (i := 26) rfl))) (mvT hZ (hw _ (List.mem_of_getElem? (i := 25) rfl))) (by decide) (backOf (W := 0) (rm4 l Z a0 hw [] b8 (t0_0 p1 p2 p3 p4) T9.heap n0 (Nat.le_trans (Nat.le_trans (Nat.le_trans Z0 E7.1) E8.1) K9.1) i9_1) hZ (hw _ (List.mem_of_getElem? (i := 27) rfl)) (hw _ (List.mem_of_getElem? (i := 3) rfl)) (by decide) (by decide)) q10a q10c (g := (mkF m 87 #[.val (.int p1), .val (.int p2), .val (.int p3), .val (.int p4), .val (.int p5), .val (.long q6), .second, .val (.int (p1 &&& (3 : Int32))), .val (.int (p2 &&& (1 : Int32))), .val (.int (p3 &&& (3 : Int32))), .val (.int (p4 &&& (7 : Int32))), .val (.int (p5 &&& (255 : Int32))), .val (.int (t0_0 p1 p2 p3 p4)), .val (.ref b7), .val (.ref b8), .val (.int (0 : Int32)), .unset, .unset] [(.ref b8)])) rfl (by rw [hml]; rfl) (Steps.refl _) (argsL := []) (rest := []) (lenOf pd__28_29Z rfl) rfl (by show 2 * 0 + _ ≤ _; exact Nat.le_of_eq rfl) (hb hby at_87) (fun _ _ => ⟨rfl, rfl, (by decide : 2 + 0 ≤ _), (by decide : 4 + 0 ≤ _)⟩)
  dsimp only [Pt.U, Pt.locs, Pt.cells, Pt.slots] at X10 l10 y10 z10 st10 hQ10
  subst l10 y10 z10
  obtain ⟨rfl, N10q, e10⟩ := hQ10
  have N10 := Fr.app N9 N10q
  have f1 := (own_sta_keep ((S_REQUEST.ext E7).ext E8) K9 (own_qc (own_nst A8) own_q0))
  have f2 := ((f0.ext E8).keep K9 (own_nm (Nat.ne_of_lt (Nat.lt_of_lt_of_le f0.lt (Nat.le_of_eq g8.symm))) own_n0))
  have f3 := (((E_s_REQUEST.ext E7).ext E8).keep K9)
  obtain ⟨_, _, ⟨T11, L11, k11, n11⟩, -, X11, ⟨Lc11, hQ11, l11, y11, z11⟩, st11⟩ := Jvm.LawKit.callS X10 hx (y := (⟨"com/example/wirecall/wirecall/protocol/Frame", "request", "(JII[B)Lcom/example/wirecall/wirecall/protocol/Frame;"⟩ : MethodName)) hown (mvT hZ (hw _ (List.mem_of_getElem? (i := 28) rfl))) (mvT hZ (hw _ (List.mem_of_getElem? (i := 29) rfl))) (mvT hZ (hw _ (List.mem_of_getElem? (i := 3) rfl))) (mvT hZ (hw _ (List.mem_of_getElem? (i := 30) rfl))) (by decide) (backOf (W := 0) (rm5 l Z a0 hw [] q6 (1 : Int32) (p3 &&& (3 : Int32)) b7 s_REQUEST w_bits_s_REQUEST T9.heap n0 (Nat.le_trans (Nat.le_trans (Nat.le_trans Z0 E7.1) E8.1) K9.1) f1 f2 f3 (by first | exact (own_sl _ (own_m7 p4) hc99).1 | decide) (by first | exact (own_sl _ (own_m7 p4) hc99).2 | decide) ((own_cl _ (own_m3 p3)).1) ((own_cl _ (own_m3 p3)).2)) hZ (hw _ (List.mem_of_getElem? (i := 30) rfl)) (hw _ (List.mem_of_getElem? (i := 3) rfl)) (by decide) (by decide)) (g := (mkF m 118 #[.val (.int p1), .val (.int p2), .val (.int p3), .val (.int p4), .val (.int p5), .val (.long q6), .second, .val (.int (p1 &&& (3 : Int32))), .val (.int (p2 &&& (1 : Int32))), .val (.int (p3 &&& (3 : Int32))), .val (.int (p4 &&& (7 : Int32))), .val (.int (p5 &&& (255 : Int32))), .val (.int (t0_0 p1 p2 p3 p4)), .val (.ref b7), .val (.ref b8), .val (.int (0 : Int32)), .val (.int (1 : Int32)), .unset] [(.ref b7), (.int (p3 &&& (3 : Int32))), (.int (1 : Int32)), (.long q6)])) rfl (by rw [hml]; rfl) (argsL := [(.long q6), (.int (1 : Int32)), (.int (p3 &&& (3 : Int32))), (.ref b7)]) (rest := []) (lenOf pd__28JII_5bB_29Lcom_2fexample_2fwirecall_2fwirecall_2fprotocol_2fFrame_3b rfl) rfl (by show 2 * 0 + _ ≤ _; exact Nat.le_of_eq rfl) (hb hby at_118) (fun _ _ => ⟨rfl, e10, (by decide : 2 + 1 ≤ _), (by decide : 4 + 4 ≤ _)⟩)
  dsimp only [Pt.U, Pt.locs, Pt.cells, Pt.slots] at X11 l11 y11 z11 st11 hQ11
  subst l11 y11 z11
  obtain ⟨b5_11, ⟨rfl, N11q, K11, i11_0, i11_1, i11_2, i11_3, i11_4, i11_5⟩⟩ := hQ11
  have N11 := Fr.app N10 N11q
  have f4 := ((V_b7.ext E8).keep K9 (own_nm (Nat.ne_of_lt (Nat.lt_of_lt_of_le V_b7.lt (Nat.le_of_eq g8.symm))) own_n0))
  have sz_b5_11 : h0.size ≤ b5_11 := Nat.le_trans (Nat.le_trans (Nat.le_trans (Nat.le_trans (Nat.le_refl h0.size) E7.1) E8.1) K9.1) i11_0
  have g_b5_11 : n0 ≤ b5_11 := Nat.le_trans Z0 sz_b5_11
  obtain ⟨cq12, kq12, q12a, q12b, q12c⟩ := isOf hZ rfl i11_1
  obtain ⟨_, _, ⟨T12, L12, k12, n12⟩, -, X12, ⟨Lc12, hQ12, l12, y12, z12⟩, st12⟩ := X11.virtualBack hx (y := (⟨"com/example/wirecall/wirecall/protocol/Frame", "oneWay", "()Z"⟩ : MethodName)) (z := (⟨"com/example/wirecall/wirecall/protocol/Frame", "oneWay", "()Z"⟩ : MethodName)) hown (mvT hZ (hw _ (List.mem_of_getElem? (i := 23) rfl))) (mvT hZ (hw _ (List.mem_of_getElem? (i := 24) rfl))) (notFace_of_selects (args := #[]) (mvT hZ (hw _ (List.mem_of_getElem? (i := 26) rfl)))) (mvT hZ (hw _ (List.mem_of_getElem? (i := 26) rfl))) (mvT hZ (hw _ (List.mem_of_getElem? (i := 25) rfl))) (by decide) (backOf (W := 0) (rm4 l Z a0 hw [] b5_11 (t6_0 (1 : Int32) (p3 &&& (3 : Int32)) w_bits_s_REQUEST) T11.heap n0 (Nat.le_trans (Nat.le_trans (Nat.le_trans (Nat.le_trans Z0 E7.1) E8.1) K9.1) K11.1) i11_2) hZ (hw _ (List.mem_of_getElem? (i := 27) rfl)) (hw _ (List.mem_of_getElem? (i := 3) rfl)) (by decide) (by decide)) q12a q12c (g := (mkF m 125 #[.val (.int p1), .val (.int p2), .val (.int p3), .val (.int p4), .val (.int p5), .val (.long q6), .second, .val (.int (p1 &&& (3 : Int32))), .val (.int (p2 &&& (1 : Int32))), .val (.int (p3 &&& (3 : Int32))), .val (.int (p4 &&& (7 : Int32))), .val (.int (p5 &&& (255 : Int32))), .val (.int (t0_0 p1 p2 p3 p4)), .val (.ref b7), .val (.ref b8), .val (.int (0 : Int32)), .val (.int (1 : Int32)), .val (.ref b5_11)] [(.ref b5_11)])) rfl (by rw [hml]; rfl) (Steps.refl _) (argsL := []) (rest := []) (lenOf pd__28_29Z rfl) rfl (by show 2 * 0 + _ ≤ _; exact Nat.le_of_eq rfl) (hb hby at_125) (fun _ _ => ⟨rfl, rfl, (by decide : 3 + 0 ≤ _), (by decide : 8 + 0 ≤ _)⟩)
  dsimp only [Pt.U, Pt.locs, Pt.cells, Pt.slots] at X12 l12 y12 z12 st12 hQ12
  subst l12 y12 z12
  obtain ⟨rfl, N12q, e12⟩ := hQ12
  have N12 := Fr.app N11 N12q
  obtain ⟨fs, hr, hrun, hended, hW, hsame⟩ := X12.leave (v := some (.int (1 : Int32))) (fun h => by rw [Bd.returns] at h; cases h)
  refine ⟨_, _, pre0 _ ?_, hrun, hended, _, _, rfl, ?_, ⟨_, rfl⟩, hW, hsame.mono (by decide) (by decide)⟩
  · show Steps p.tables e below (s₁.setTop (mkF m 0 #[.val (.int p1), .val (.int p2), .val (.int p3), .val (.int p4), .val (.int p5), .val (.long q6), .second, .unset, .unset, .unset, .unset, .unset, .unset, .unset, .unset, .unset, .unset, .unset] [])) _
    refine XS.iloadN X0.here hx rfl (hb hby at_0) rfl ?_
    show Steps p.tables e below (s₁.setTop (mkF m 1 #[.val (.int p1), .val (.int p2), .val (.int p3), .val (.int p4), .val (.int p5), .val (.long q6), .second, .unset, .unset, .unset, .unset, .unset, .unset, .unset, .unset, .unset, .unset, .unset] [(.int p1)])) _
    refine XS.iconst X0.here hx rfl (hb hby at_1) ?_
    show Steps p.tables e below (s₁.setTop (mkF m 2 #[.val (.int p1), .val (.int p2), .val (.int p3), .val (.int p4), .val (.int p5), .val (.long q6), .second, .unset, .unset, .unset, .unset, .unset, .unset, .unset, .unset, .unset, .unset, .unset] [(.int (3 : Int32)), (.int p1)])) _
    refine XS.iand X0.here hx rfl (hb hby at_2) rfl ?_
    show Steps p.tables e below (s₁.setTop (mkF m 3 #[.val (.int p1), .val (.int p2), .val (.int p3), .val (.int p4), .val (.int p5), .val (.long q6), .second, .unset, .unset, .unset, .unset, .unset, .unset, .unset, .unset, .unset, .unset, .unset] [(.int (p1 &&& (3 : Int32)))])) _
    refine XS.istore X0.here hx rfl (hb hby at_3) rfl (l' := #[.val (.int p1), .val (.int p2), .val (.int p3), .val (.int p4), .val (.int p5), .val (.long q6), .second, .val (.int (p1 &&& (3 : Int32))), .unset, .unset, .unset, .unset, .unset, .unset, .unset, .unset, .unset, .unset]) rfl ?_
    show Steps p.tables e below (s₁.setTop (mkF m 5 #[.val (.int p1), .val (.int p2), .val (.int p3), .val (.int p4), .val (.int p5), .val (.long q6), .second, .val (.int (p1 &&& (3 : Int32))), .unset, .unset, .unset, .unset, .unset, .unset, .unset, .unset, .unset, .unset] [])) _
    refine XS.iloadN X0.here hx rfl (hb hby at_5) rfl ?_
    show Steps p.tables e below (s₁.setTop (mkF m 6 #[.val (.int p1), .val (.int p2), .val (.int p3), .val (.int p4), .val (.int p5), .val (.long q6), .second, .val (.int (p1 &&& (3 : Int32))), .unset, .unset, .unset, .unset, .unset, .unset, .unset, .unset, .unset, .unset] [(.int p2)])) _
    refine XS.iconst X0.here hx rfl (hb hby at_6) ?_
    show Steps p.tables e below (s₁.setTop (mkF m 7 #[.val (.int p1), .val (.int p2), .val (.int p3), .val (.int p4), .val (.int p5), .val (.long q6), .second, .val (.int (p1 &&& (3 : Int32))), .unset, .unset, .unset, .unset, .unset, .unset, .unset, .unset, .unset, .unset] [(.int (1 : Int32)), (.int p2)])) _
    refine XS.iand X0.here hx rfl (hb hby at_7) rfl ?_
    show Steps p.tables e below (s₁.setTop (mkF m 8 #[.val (.int p1), .val (.int p2), .val (.int p3), .val (.int p4), .val (.int p5), .val (.long q6), .second, .val (.int (p1 &&& (3 : Int32))), .unset, .unset, .unset, .unset, .unset, .unset, .unset, .unset, .unset, .unset] [(.int (p2 &&& (1 : Int32)))])) _
    refine XS.istore X0.here hx rfl (hb hby at_8) rfl (l' := #[.val (.int p1), .val (.int p2), .val (.int p3), .val (.int p4), .val (.int p5), .val (.long q6), .second, .val (.int (p1 &&& (3 : Int32))), .val (.int (p2 &&& (1 : Int32))), .unset, .unset, .unset, .unset, .unset, .unset, .unset, .unset, .unset]) rfl ?_
    show Steps p.tables e below (s₁.setTop (mkF m 10 #[.val (.int p1), .val (.int p2), .val (.int p3), .val (.int p4), .val (.int p5), .val (.long q6), .second, .val (.int (p1 &&& (3 : Int32))), .val (.int (p2 &&& (1 : Int32))), .unset, .unset, .unset, .unset, .unset, .unset, .unset, .unset, .unset] [])) _
    refine XS.iloadN X0.here hx rfl (hb hby at_10) rfl ?_
    show Steps p.tables e below (s₁.setTop (mkF m 11 #[.val (.int p1), .val (.int p2), .val (.int p3), .val (.int p4), .val (.int p5), .val (.long q6), .second, .val (.int (p1 &&& (3 : Int32))), .val (.int (p2 &&& (1 : Int32))), .unset, .unset, .unset, .unset, .unset, .unset, .unset, .unset, .unset] [(.int p3)])) _
    refine XS.iconst X0.here hx rfl (hb hby at_11) ?_
    show Steps p.tables e below (s₁.setTop (mkF m 12 #[.val (.int p1), .val (.int p2), .val (.int p3), .val (.int p4), .val (.int p5), .val (.long q6), .second, .val (.int (p1 &&& (3 : Int32))), .val (.int (p2 &&& (1 : Int32))), .unset, .unset, .unset, .unset, .unset, .unset, .unset, .unset, .unset] [(.int (3 : Int32)), (.int p3)])) _
    refine XS.iand X0.here hx rfl (hb hby at_12) rfl ?_
    show Steps p.tables e below (s₁.setTop (mkF m 13 #[.val (.int p1), .val (.int p2), .val (.int p3), .val (.int p4), .val (.int p5), .val (.long q6), .second, .val (.int (p1 &&& (3 : Int32))), .val (.int (p2 &&& (1 : Int32))), .unset, .unset, .unset, .unset, .unset, .unset, .unset, .unset, .unset] [(.int (p3 &&& (3 : Int32)))])) _
    refine XS.istore X0.here hx rfl (hb hby at_13) rfl (l' := #[.val (.int p1), .val (.int p2), .val (.int p3), .val (.int p4), .val (.int p5), .val (.long q6), .second, .val (.int (p1 &&& (3 : Int32))), .val (.int (p2 &&& (1 : Int32))), .val (.int (p3 &&& (3 : Int32))), .unset, .unset, .unset, .unset, .unset, .unset, .unset, .unset]) rfl ?_
    show Steps p.tables e below (s₁.setTop (mkF m 15 #[.val (.int p1), .val (.int p2), .val (.int p3), .val (.int p4), .val (.int p5), .val (.long q6), .second, .val (.int (p1 &&& (3 : Int32))), .val (.int (p2 &&& (1 : Int32))), .val (.int (p3 &&& (3 : Int32))), .unset, .unset, .unset, .unset, .unset, .unset, .unset, .unset] [])) _
    refine XS.iloadN X0.here hx rfl (hb hby at_15) rfl ?_
    show Steps p.tables e below (s₁.setTop (mkF m 16 #[.val (.int p1), .val (.int p2), .val (.int p3), .val (.int p4), .val (.int p5), .val (.long q6), .second, .val (.int (p1 &&& (3 : Int32))), .val (.int (p2 &&& (1 : Int32))), .val (.int (p3 &&& (3 : Int32))), .unset, .unset, .unset, .unset, .unset, .unset, .unset, .unset] [(.int p4)])) _
    refine XS.bipush X0.here hx rfl (hb hby at_16) ?_
    show Steps p.tables e below (s₁.setTop (mkF m 18 #[.val (.int p1), .val (.int p2), .val (.int p3), .val (.int p4), .val (.int p5), .val (.long q6), .second, .val (.int (p1 &&& (3 : Int32))), .val (.int (p2 &&& (1 : Int32))), .val (.int (p3 &&& (3 : Int32))), .unset, .unset, .unset, .unset, .unset, .unset, .unset, .unset] [(.int (7 : Int32)), (.int p4)])) _
    refine XS.iand X0.here hx rfl (hb hby at_18) rfl ?_
    show Steps p.tables e below (s₁.setTop (mkF m 19 #[.val (.int p1), .val (.int p2), .val (.int p3), .val (.int p4), .val (.int p5), .val (.long q6), .second, .val (.int (p1 &&& (3 : Int32))), .val (.int (p2 &&& (1 : Int32))), .val (.int (p3 &&& (3 : Int32))), .unset, .unset, .unset, .unset, .unset, .unset, .unset, .unset] [(.int (p4 &&& (7 : Int32)))])) _
    refine XS.istore X0.here hx rfl (hb hby at_19) rfl (l' := #[.val (.int p1), .val (.int p2), .val (.int p3), .val (.int p4), .val (.int p5), .val (.long q6), .second, .val (.int (p1 &&& (3 : Int32))), .val (.int (p2 &&& (1 : Int32))), .val (.int (p3 &&& (3 : Int32))), .val (.int (p4 &&& (7 : Int32))), .unset, .unset, .unset, .unset, .unset, .unset, .unset]) rfl ?_
    show Steps p.tables e below (s₁.setTop (mkF m 21 #[.val (.int p1), .val (.int p2), .val (.int p3), .val (.int p4), .val (.int p5), .val (.long q6), .second, .val (.int (p1 &&& (3 : Int32))), .val (.int (p2 &&& (1 : Int32))), .val (.int (p3 &&& (3 : Int32))), .val (.int (p4 &&& (7 : Int32))), .unset, .unset, .unset, .unset, .unset, .unset, .unset] [])) _
    refine XS.iload X0.here hx rfl (hb hby at_21) rfl ?_
    show Steps p.tables e below (s₁.setTop (mkF m 23 #[.val (.int p1), .val (.int p2), .val (.int p3), .val (.int p4), .val (.int p5), .val (.long q6), .second, .val (.int (p1 &&& (3 : Int32))), .val (.int (p2 &&& (1 : Int32))), .val (.int (p3 &&& (3 : Int32))), .val (.int (p4 &&& (7 : Int32))), .unset, .unset, .unset, .unset, .unset, .unset, .unset] [(.int p5)])) _
    refine XS.sipush X0.here hx rfl (hb hby at_23) ?_
    show Steps p.tables e below (s₁.setTop (mkF m 26 #[.val (.int p1), .val (.int p2), .val (.int p3), .val (.int p4), .val (.int p5), .val (.long q6), .second, .val (.int (p1 &&& (3 : Int32))), .val (.int (p2 &&& (1 : Int32))), .val (.int (p3 &&& (3 : Int32))), .val (.int (p4 &&& (7 : Int32))), .unset, .unset, .unset, .unset, .unset, .unset, .unset] [(.int (255 : Int32)), (.int p5)])) _
    refine XS.iand X0.here hx rfl (hb hby at_26) rfl ?_
    show Steps p.tables e below (s₁.setTop (mkF m 27 #[.val (.int p1), .val (.int p2), .val (.int p3), .val (.int p4), .val (.int p5), .val (.long q6), .second, .val (.int (p1 &&& (3 : Int32))), .val (.int (p2 &&& (1 : Int32))), .val (.int (p3 &&& (3 : Int32))), .val (.int (p4 &&& (7 : Int32))), .unset, .unset, .unset, .unset, .unset, .unset, .unset] [(.int (p5 &&& (255 : Int32)))])) _
    refine XS.istore X0.here hx rfl (hb hby at_27) rfl (l' := #[.val (.int p1), .val (.int p2), .val (.int p3), .val (.int p4), .val (.int p5), .val (.long q6), .second, .val (.int (p1 &&& (3 : Int32))), .val (.int (p2 &&& (1 : Int32))), .val (.int (p3 &&& (3 : Int32))), .val (.int (p4 &&& (7 : Int32))), .val (.int (p5 &&& (255 : Int32))), .unset, .unset, .unset, .unset, .unset, .unset]) rfl ?_
    show Steps p.tables e below (s₁.setTop (mkF m 29 #[.val (.int p1), .val (.int p2), .val (.int p3), .val (.int p4), .val (.int p5), .val (.long q6), .second, .val (.int (p1 &&& (3 : Int32))), .val (.int (p2 &&& (1 : Int32))), .val (.int (p3 &&& (3 : Int32))), .val (.int (p4 &&& (7 : Int32))), .val (.int (p5 &&& (255 : Int32))), .unset, .unset, .unset, .unset, .unset, .unset] [])) _
    refine XS.iload X0.here hx rfl (hb hby at_29) rfl ?_
    show Steps p.tables e below (s₁.setTop (mkF m 31 #[.val (.int p1), .val (.int p2), .val (.int p3), .val (.int p4), .val (.int p5), .val (.long q6), .second, .val (.int (p1 &&& (3 : Int32))), .val (.int (p2 &&& (1 : Int32))), .val (.int (p3 &&& (3 : Int32))), .val (.int (p4 &&& (7 : Int32))), .val (.int (p5 &&& (255 : Int32))), .unset, .unset, .unset, .unset, .unset, .unset] [(.int (p1 &&& (3 : Int32)))])) _
    refine XS.iconst X0.here hx rfl (hb hby at_31) ?_
    show Steps p.tables e below (s₁.setTop (mkF m 32 #[.val (.int p1), .val (.int p2), .val (.int p3), .val (.int p4), .val (.int p5), .val (.long q6), .second, .val (.int (p1 &&& (3 : Int32))), .val (.int (p2 &&& (1 : Int32))), .val (.int (p3 &&& (3 : Int32))), .val (.int (p4 &&& (7 : Int32))), .val (.int (p5 &&& (255 : Int32))), .unset, .unset, .unset, .unset, .unset, .unset] [(.int (4 : Int32)), (.int (p1 &&& (3 : Int32)))])) _
    refine XS.iload X0.here hx rfl (hb hby at_32) rfl ?_
    show Steps p.tables e below (s₁.setTop (mkF m 34 #[.val (.int p1), .val (.int p2), .val (.int p3), .val (.int p4), .val (.int p5), .val (.long q6), .second, .val (.int (p1 &&& (3 : Int32))), .val (.int (p2 &&& (1 : Int32))), .val (.int (p3 &&& (3 : Int32))), .val (.int (p4 &&& (7 : Int32))), .val (.int (p5 &&& (255 : Int32))), .unset, .unset, .unset, .unset, .unset, .unset] [(.int (p2 &&& (1 : Int32))), (.int (4 : Int32)), (.int (p1 &&& (3 : Int32)))])) _
    refine XS.imul X0.here hx rfl (hb hby at_34) rfl ?_
    show Steps p.tables e below (s₁.setTop (mkF m 35 #[.val (.int p1), .val (.int p2), .val (.int p3), .val (.int p4), .val (.int p5), .val (.long q6), .second, .val (.int (p1 &&& (3 : Int32))), .val (.int (p2 &&& (1 : Int32))), .val (.int (p3 &&& (3 : Int32))), .val (.int (p4 &&& (7 : Int32))), .val (.int (p5 &&& (255 : Int32))), .unset, .unset, .unset, .unset, .unset, .unset] [(.int ((4 : Int32) * (p2 &&& (1 : Int32)))), (.int (p1 &&& (3 : Int32)))])) _
    refine XS.iadd X0.here hx rfl (hb hby at_35) rfl ?_
    show Steps p.tables e below (s₁.setTop (mkF m 36 #[.val (.int p1), .val (.int p2), .val (.int p3), .val (.int p4), .val (.int p5), .val (.long q6), .second, .val (.int (p1 &&& (3 : Int32))), .val (.int (p2 &&& (1 : Int32))), .val (.int (p3 &&& (3 : Int32))), .val (.int (p4 &&& (7 : Int32))), .val (.int (p5 &&& (255 : Int32))), .unset, .unset, .unset, .unset, .unset, .unset] [(.int ((p1 &&& (3 : Int32)) + ((4 : Int32) * (p2 &&& (1 : Int32)))))])) _
    refine XS.bipush X0.here hx rfl (hb hby at_36) ?_
    show Steps p.tables e below (s₁.setTop (mkF m 38 #[.val (.int p1), .val (.int p2), .val (.int p3), .val (.int p4), .val (.int p5), .val (.long q6), .second, .val (.int (p1 &&& (3 : Int32))), .val (.int (p2 &&& (1 : Int32))), .val (.int (p3 &&& (3 : Int32))), .val (.int (p4 &&& (7 : Int32))), .val (.int (p5 &&& (255 : Int32))), .unset, .unset, .unset, .unset, .unset, .unset] [(.int (8 : Int32)), (.int ((p1 &&& (3 : Int32)) + ((4 : Int32) * (p2 &&& (1 : Int32)))))])) _
    refine XS.iload X0.here hx rfl (hb hby at_38) rfl ?_
    show Steps p.tables e below (s₁.setTop (mkF m 40 #[.val (.int p1), .val (.int p2), .val (.int p3), .val (.int p4), .val (.int p5), .val (.long q6), .second, .val (.int (p1 &&& (3 : Int32))), .val (.int (p2 &&& (1 : Int32))), .val (.int (p3 &&& (3 : Int32))), .val (.int (p4 &&& (7 : Int32))), .val (.int (p5 &&& (255 : Int32))), .unset, .unset, .unset, .unset, .unset, .unset] [(.int (p3 &&& (3 : Int32))), (.int (8 : Int32)), (.int ((p1 &&& (3 : Int32)) + ((4 : Int32) * (p2 &&& (1 : Int32)))))])) _
    refine XS.imul X0.here hx rfl (hb hby at_40) rfl ?_
    show Steps p.tables e below (s₁.setTop (mkF m 41 #[.val (.int p1), .val (.int p2), .val (.int p3), .val (.int p4), .val (.int p5), .val (.long q6), .second, .val (.int (p1 &&& (3 : Int32))), .val (.int (p2 &&& (1 : Int32))), .val (.int (p3 &&& (3 : Int32))), .val (.int (p4 &&& (7 : Int32))), .val (.int (p5 &&& (255 : Int32))), .unset, .unset, .unset, .unset, .unset, .unset] [(.int ((8 : Int32) * (p3 &&& (3 : Int32)))), (.int ((p1 &&& (3 : Int32)) + ((4 : Int32) * (p2 &&& (1 : Int32)))))])) _
    refine XS.iadd X0.here hx rfl (hb hby at_41) rfl ?_
    show Steps p.tables e below (s₁.setTop (mkF m 42 #[.val (.int p1), .val (.int p2), .val (.int p3), .val (.int p4), .val (.int p5), .val (.long q6), .second, .val (.int (p1 &&& (3 : Int32))), .val (.int (p2 &&& (1 : Int32))), .val (.int (p3 &&& (3 : Int32))), .val (.int (p4 &&& (7 : Int32))), .val (.int (p5 &&& (255 : Int32))), .unset, .unset, .unset, .unset, .unset, .unset] [(.int (((p1 &&& (3 : Int32)) + ((4 : Int32) * (p2 &&& (1 : Int32)))) + ((8 : Int32) * (p3 &&& (3 : Int32)))))])) _
    refine XS.bipush X0.here hx rfl (hb hby at_42) ?_
    show Steps p.tables e below (s₁.setTop (mkF m 44 #[.val (.int p1), .val (.int p2), .val (.int p3), .val (.int p4), .val (.int p5), .val (.long q6), .second, .val (.int (p1 &&& (3 : Int32))), .val (.int (p2 &&& (1 : Int32))), .val (.int (p3 &&& (3 : Int32))), .val (.int (p4 &&& (7 : Int32))), .val (.int (p5 &&& (255 : Int32))), .unset, .unset, .unset, .unset, .unset, .unset] [(.int (32 : Int32)), (.int (((p1 &&& (3 : Int32)) + ((4 : Int32) * (p2 &&& (1 : Int32)))) + ((8 : Int32) * (p3 &&& (3 : Int32)))))])) _
    refine XS.iload X0.here hx rfl (hb hby at_44) rfl ?_
    show Steps p.tables e below (s₁.setTop (mkF m 46 #[.val (.int p1), .val (.int p2), .val (.int p3), .val (.int p4), .val (.int p5), .val (.long q6), .second, .val (.int (p1 &&& (3 : Int32))), .val (.int (p2 &&& (1 : Int32))), .val (.int (p3 &&& (3 : Int32))), .val (.int (p4 &&& (7 : Int32))), .val (.int (p5 &&& (255 : Int32))), .unset, .unset, .unset, .unset, .unset, .unset] [(.int (p4 &&& (7 : Int32))), (.int (32 : Int32)), (.int (((p1 &&& (3 : Int32)) + ((4 : Int32) * (p2 &&& (1 : Int32)))) + ((8 : Int32) * (p3 &&& (3 : Int32)))))])) _
    refine XS.imul X0.here hx rfl (hb hby at_46) rfl ?_
    show Steps p.tables e below (s₁.setTop (mkF m 47 #[.val (.int p1), .val (.int p2), .val (.int p3), .val (.int p4), .val (.int p5), .val (.long q6), .second, .val (.int (p1 &&& (3 : Int32))), .val (.int (p2 &&& (1 : Int32))), .val (.int (p3 &&& (3 : Int32))), .val (.int (p4 &&& (7 : Int32))), .val (.int (p5 &&& (255 : Int32))), .unset, .unset, .unset, .unset, .unset, .unset] [(.int ((32 : Int32) * (p4 &&& (7 : Int32)))), (.int (((p1 &&& (3 : Int32)) + ((4 : Int32) * (p2 &&& (1 : Int32)))) + ((8 : Int32) * (p3 &&& (3 : Int32)))))])) _
    refine XS.iadd X0.here hx rfl (hb hby at_47) rfl ?_
    show Steps p.tables e below (s₁.setTop (mkF m 48 #[.val (.int p1), .val (.int p2), .val (.int p3), .val (.int p4), .val (.int p5), .val (.long q6), .second, .val (.int (p1 &&& (3 : Int32))), .val (.int (p2 &&& (1 : Int32))), .val (.int (p3 &&& (3 : Int32))), .val (.int (p4 &&& (7 : Int32))), .val (.int (p5 &&& (255 : Int32))), .unset, .unset, .unset, .unset, .unset, .unset] [(.int ((((p1 &&& (3 : Int32)) + ((4 : Int32) * (p2 &&& (1 : Int32)))) + ((8 : Int32) * (p3 &&& (3 : Int32)))) + ((32 : Int32) * (p4 &&& (7 : Int32)))))])) _
    refine XS.istore X0.here hx rfl (hb hby at_48) rfl (l' := #[.val (.int p1), .val (.int p2), .val (.int p3), .val (.int p4), .val (.int p5), .val (.long q6), .second, .val (.int (p1 &&& (3 : Int32))), .val (.int (p2 &&& (1 : Int32))), .val (.int (p3 &&& (3 : Int32))), .val (.int (p4 &&& (7 : Int32))), .val (.int (p5 &&& (255 : Int32))), .val (.int (t0_0 p1 p2 p3 p4)), .unset, .unset, .unset, .unset, .unset]) rfl ?_
    show Steps p.tables e below (s₁.setTop (mkF m 50 #[.val (.int p1), .val (.int p2), .val (.int p3), .val (.int p4), .val (.int p5), .val (.long q6), .second, .val (.int (p1 &&& (3 : Int32))), .val (.int (p2 &&& (1 : Int32))), .val (.int (p3 &&& (3 : Int32))), .val (.int (p4 &&& (7 : Int32))), .val (.int (p5 &&& (255 : Int32))), .val (.int (t0_0 p1 p2 p3 p4)), .unset, .unset, .unset, .unset, .unset] [])) _
    refine XS.iconst X0.here hx rfl (hb hby at_50) ?_
    show Steps p.tables e below (s₁.setTop (mkF m 51 #[.val (.int p1), .val (.int p2), .val (.int p3), .val (.int p4), .val (.int p5), .val (.long q6), .second, .val (.int (p1 &&& (3 : Int32))), .val (.int (p2 &&& (1 : Int32))), .val (.int (p3 &&& (3 : Int32))), .val (.int (p4 &&& (7 : Int32))), .val (.int (p5 &&& (255 : Int32))), .val (.int (t0_0 p1 p2 p3 p4)), .unset, .unset, .unset, .unset, .unset] [(.int (0 : Int32))])) _
    refine st7 _ ?_
    show Steps p.tables e below (T7.setTop (mkF m 53 #[.val (.int p1), .val (.int p2), .val (.int p3), .val (.int p4), .val (.int p5), .val (.long q6), .second, .val (.int (p1 &&& (3 : Int32))), .val (.int (p2 &&& (1 : Int32))), .val (.int (p3 &&& (3 : Int32))), .val (.int (p4 &&& (7 : Int32))), .val (.int (p5 &&& (255 : Int32))), .val (.int (t0_0 p1 p2 p3 p4)), .unset, .unset, .unset, .unset, .unset] [(.ref b7)])) _
    refine XS.astore X7.here hx rfl (hb hby at_53) rfl rfl (l' := #[.val (.int p1), .val (.int p2), .val (.int p3), .val (.int p4), .val (.int p5), .val (.long q6), .second, .val (.int (p1 &&& (3 : Int32))), .val (.int (p2 &&& (1 : Int32))), .val (.int (p3 &&& (3 : Int32))), .val (.int (p4 &&& (7 : Int32))), .val (.int (p5 &&& (255 : Int32))), .val (.int (t0_0 p1 p2 p3 p4)), .val (.ref b7), .unset, .unset, .unset, .unset]) rfl ?_
    show Steps p.tables e below (T7.setTop (mkF m 55 #[.val (.int p1), .val (.int p2), .val (.int p3), .val (.int p4), .val (.int p5), .val (.long q6), .second, .val (.int (p1 &&& (3 : Int32))), .val (.int (p2 &&& (1 : Int32))), .val (.int (p3 &&& (3 : Int32))), .val (.int (p4 &&& (7 : Int32))), .val (.int (p5 &&& (255 : Int32))), .val (.int (t0_0 p1 p2 p3 p4)), .val (.ref b7), .unset, .unset, .unset, .unset] [])) _
    refine st8 _ ?_
    show Steps p.tables e below (T8.setTop (mkF m 58 #[.val (.int p1), .val (.int p2), .val (.int p3), .val (.int p4), .val (.int p5), .val (.long q6), .second, .val (.int (p1 &&& (3 : Int32))), .val (.int (p2 &&& (1 : Int32))), .val (.int (p3 &&& (3 : Int32))), .val (.int (p4 &&& (7 : Int32))), .val (.int (p5 &&& (255 : Int32))), .val (.int (t0_0 p1 p2 p3 p4)), .val (.ref b7), .unset, .unset, .unset, .unset] [(.ref b8)])) _
    refine XS.dup X8.here hx rfl (hb hby at_58) rfl rfl ?_
    show Steps p.tables e below (T8.setTop (mkF m 59 #[.val (.int p1), .val (.int p2), .val (.int p3), .val (.int p4), .val (.int p5), .val (.long q6), .second, .val (.int (p1 &&& (3 : Int32))), .val (.int (p2 &&& (1 : Int32))), .val (.int (p3 &&& (3 : Int32))), .val (.int (p4 &&& (7 : Int32))), .val (.int (p5 &&& (255 : Int32))), .val (.int (t0_0 p1 p2 p3 p4)), .val (.ref b7), .unset, .unset, .unset, .unset] [(.ref b8), (.ref b8)])) _
    refine XS.iload X8.here hx rfl (hb hby at_59) rfl ?_
    show Steps p.tables e below (T8.setTop (mkF m 61 #[.val (.int p1), .val (.int p2), .val (.int p3), .val (.int p4), .val (.int p5), .val (.long q6), .second, .val (.int (p1 &&& (3 : Int32))), .val (.int (p2 &&& (1 : Int32))), .val (.int (p3 &&& (3 : Int32))), .val (.int (p4 &&& (7 : Int32))), .val (.int (p5 &&& (255 : Int32))), .val (.int (t0_0 p1 p2 p3 p4)), .val (.ref b7), .unset, .unset, .unset, .unset] [(.int (t0_0 p1 p2 p3 p4)), (.ref b8), (.ref b8)])) _
    refine XS.iload X8.here hx rfl (hb hby at_61) rfl ?_
    show Steps p.tables e below (T8.setTop (mkF m 63 #[.val (.int p1), .val (.int p2), .val (.int p3), .val (.int p4), .val (.int p5), .val (.long q6), .second, .val (.int (p1 &&& (3 : Int32))), .val (.int (p2 &&& (1 : Int32))), .val (.int (p3 &&& (3 : Int32))), .val (.int (p4 &&& (7 : Int32))), .val (.int (p5 &&& (255 : Int32))), .val (.int (t0_0 p1 p2 p3 p4)), .val (.ref b7), .unset, .unset, .unset, .unset] [(.int (p5 &&& (255 : Int32))), (.int (t0_0 p1 p2 p3 p4)), (.ref b8), (.ref b8)])) _
    refine XS.lload X8.here hx rfl (hb hby at_63) rfl ?_
    show Steps p.tables e below (T8.setTop (mkF m 65 #[.val (.int p1), .val (.int p2), .val (.int p3), .val (.int p4), .val (.int p5), .val (.long q6), .second, .val (.int (p1 &&& (3 : Int32))), .val (.int (p2 &&& (1 : Int32))), .val (.int (p3 &&& (3 : Int32))), .val (.int (p4 &&& (7 : Int32))), .val (.int (p5 &&& (255 : Int32))), .val (.int (t0_0 p1 p2 p3 p4)), .val (.ref b7), .unset, .unset, .unset, .unset] [(.long q6), (.int (p5 &&& (255 : Int32))), (.int (t0_0 p1 p2 p3 p4)), (.ref b8), (.ref b8)])) _
    refine XS.aload X8.here hx rfl (hb hby at_65) rfl rfl ?_
    show Steps p.tables e below (T8.setTop (mkF m 67 #[.val (.int p1), .val (.int p2), .val (.int p3), .val (.int p4), .val (.int p5), .val (.long q6), .second, .val (.int (p1 &&& (3 : Int32))), .val (.int (p2 &&& (1 : Int32))), .val (.int (p3 &&& (3 : Int32))), .val (.int (p4 &&& (7 : Int32))), .val (.int (p5 &&& (255 : Int32))), .val (.int (t0_0 p1 p2 p3 p4)), .val (.ref b7), .unset, .unset, .unset, .unset] [(.ref b7), (.long q6), (.int (p5 &&& (255 : Int32))), (.int (t0_0 p1 p2 p3 p4)), (.ref b8), (.ref b8)])) _
    refine st9.trans ?_
    show Steps p.tables e below (T9.setTop (mkF m 70 #[.val (.int p1), .val (.int p2), .val (.int p3), .val (.int p4), .val (.int p5), .val (.long q6), .second, .val (.int (p1 &&& (3 : Int32))), .val (.int (p2 &&& (1 : Int32))), .val (.int (p3 &&& (3 : Int32))), .val (.int (p4 &&& (7 : Int32))), .val (.int (p5 &&& (255 : Int32))), .val (.int (t0_0 p1 p2 p3 p4)), .val (.ref b7), .unset, .unset, .unset, .unset] [(.ref b8)])) _
    refine XS.astore X9.here hx rfl (hb hby at_70) rfl rfl (l' := #[.val (.int p1), .val (.int p2), .val (.int p3), .val (.int p4), .val (.int p5), .val (.long q6), .second, .val (.int (p1 &&& (3 : Int32))), .val (.int (p2 &&& (1 : Int32))), .val (.int (p3 &&& (3 : Int32))), .val (.int (p4 &&& (7 : Int32))), .val (.int (p5 &&& (255 : Int32))), .val (.int (t0_0 p1 p2 p3 p4)), .val (.ref b7), .val (.ref b8), .unset, .unset, .unset]) rfl ?_
    show Steps p.tables e below (T9.setTop (mkF m 72 #[.val (.int p1), .val (.int p2), .val (.int p3), .val (.int p4), .val (.int p5), .val (.long q6), .second, .val (.int (p1 &&& (3 : Int32))), .val (.int (p2 &&& (1 : Int32))), .val (.int (p3 &&& (3 : Int32))), .val (.int (p4 &&& (7 : Int32))), .val (.int (p5 &&& (255 : Int32))), .val (.int (t0_0 p1 p2 p3 p4)), .val (.ref b7), .val (.ref b8), .unset, .unset, .unset] [])) _
    refine XS.iload X9.here hx rfl (hb hby at_72) rfl ?_
    show Steps p.tables e below (T9.setTop (mkF m 74 #[.val (.int p1), .val (.int p2), .val (.int p3), .val (.int p4), .val (.int p5), .val (.long q6), .second, .val (.int (p1 &&& (3 : Int32))), .val (.int (p2 &&& (1 : Int32))), .val (.int (p3 &&& (3 : Int32))), .val (.int (p4 &&& (7 : Int32))), .val (.int (p5 &&& (255 : Int32))), .val (.int (t0_0 p1 p2 p3 p4)), .val (.ref b7), .val (.ref b8), .unset, .unset, .unset] [(.int (p2 &&& (1 : Int32)))])) _
    refine XS.iconst X9.here hx rfl (hb hby at_74) ?_
    show Steps p.tables e below (T9.setTop (mkF m 75 #[.val (.int p1), .val (.int p2), .val (.int p3), .val (.int p4), .val (.int p5), .val (.long q6), .second, .val (.int (p1 &&& (3 : Int32))), .val (.int (p2 &&& (1 : Int32))), .val (.int (p3 &&& (3 : Int32))), .val (.int (p4 &&& (7 : Int32))), .val (.int (p5 &&& (255 : Int32))), .val (.int (t0_0 p1 p2 p3 p4)), .val (.ref b7), .val (.ref b8), .unset, .unset, .unset] [(.int (1 : Int32)), (.int (p2 &&& (1 : Int32)))])) _
    refine XS.icmpYes X9.here hx rfl (pc0 := 75) (pc' := 82) rfl (hb hby at_75) rfl (feq hc75).2 (by decide) (by decide) ?_
    show Steps p.tables e below (T9.setTop (mkF m 82 #[.val (.int p1), .val (.int p2), .val (.int p3), .val (.int p4), .val (.int p5), .val (.long q6), .second, .val (.int (p1 &&& (3 : Int32))), .val (.int (p2 &&& (1 : Int32))), .val (.int (p3 &&& (3 : Int32))), .val (.int (p4 &&& (7 : Int32))), .val (.int (p5 &&& (255 : Int32))), .val (.int (t0_0 p1 p2 p3 p4)), .val (.ref b7), .val (.ref b8), .unset, .unset, .unset] [])) _
    refine XS.iconst X9.here hx rfl (hb hby at_82) ?_
    show Steps p.tables e below (T9.setTop (mkF m 83 #[.val (.int p1), .val (.int p2), .val (.int p3), .val (.int p4), .val (.int p5), .val (.long q6), .second, .val (.int (p1 &&& (3 : Int32))), .val (.int (p2 &&& (1 : Int32))), .val (.int (p3 &&& (3 : Int32))), .val (.int (p4 &&& (7 : Int32))), .val (.int (p5 &&& (255 : Int32))), .val (.int (t0_0 p1 p2 p3 p4)), .val (.ref b7), .val (.ref b8), .unset, .unset, .unset] [(.int (0 : Int32))])) _
    refine XS.istore X9.here hx rfl (hb hby at_83) rfl (l' := #[.val (.int p1), .val (.int p2), .val (.int p3), .val (.int p4), .val (.int p5), .val (.long q6), .second, .val (.int (p1 &&& (3 : Int32))), .val (.int (p2 &&& (1 : Int32))), .val (.int (p3 &&& (3 : Int32))), .val (.int (p4 &&& (7 : Int32))), .val (.int (p5 &&& (255 : Int32))), .val (.int (t0_0 p1 p2 p3 p4)), .val (.ref b7), .val (.ref b8), .val (.int (0 : Int32)), .unset, .unset]) rfl ?_
    show Steps p.tables e below (T9.setTop (mkF m 85 #[.val (.int p1), .val (.int p2), .val (.int p3), .val (.int p4), .val (.int p5), .val (.long q6), .second, .val (.int (p1 &&& (3 : Int32))), .val (.int (p2 &&& (1 : Int32))), .val (.int (p3 &&& (3 : Int32))), .val (.int (p4 &&& (7 : Int32))), .val (.int (p5 &&& (255 : Int32))), .val (.int (t0_0 p1 p2 p3 p4)), .val (.ref b7), .val (.ref b8), .val (.int (0 : Int32)), .unset, .unset] [])) _
    refine XS.aload X9.here hx rfl (hb hby at_85) rfl rfl ?_
    show Steps p.tables e below (T9.setTop (mkF m 87 #[.val (.int p1), .val (.int p2), .val (.int p3), .val (.int p4), .val (.int p5), .val (.long q6), .second, .val (.int (p1 &&& (3 : Int32))), .val (.int (p2 &&& (1 : Int32))), .val (.int (p3 &&& (3 : Int32))), .val (.int (p4 &&& (7 : Int32))), .val (.int (p5 &&& (255 : Int32))), .val (.int (t0_0 p1 p2 p3 p4)), .val (.ref b7), .val (.ref b8), .val (.int (0 : Int32)), .unset, .unset] [(.ref b8)])) _
    refine st10.trans ?_
    show Steps p.tables e below (T10.setTop (mkF m 90 #[.val (.int p1), .val (.int p2), .val (.int p3), .val (.int p4), .val (.int p5), .val (.long q6), .second, .val (.int (p1 &&& (3 : Int32))), .val (.int (p2 &&& (1 : Int32))), .val (.int (p3 &&& (3 : Int32))), .val (.int (p4 &&& (7 : Int32))), .val (.int (p5 &&& (255 : Int32))), .val (.int (t0_0 p1 p2 p3 p4)), .val (.ref b7), .val (.ref b8), .val (.int (0 : Int32)), .unset, .unset] [(.int (F4 (t0_0 p1 p2 p3 p4)))])) _
    refine XS.iload X10.here hx rfl (hb hby at_90) rfl ?_
    show Steps p.tables e below (T10.setTop (mkF m 92 #[.val (.int p1), .val (.int p2), .val (.int p3), .val (.int p4), .val (.int p5), .val (.long q6), .second, .val (.int (p1 &&& (3 : Int32))), .val (.int (p2 &&& (1 : Int32))), .val (.int (p3 &&& (3 : Int32))), .val (.int (p4 &&& (7 : Int32))), .val (.int (p5 &&& (255 : Int32))), .val (.int (t0_0 p1 p2 p3 p4)), .val (.ref b7), .val (.ref b8), .val (.int (0 : Int32)), .unset, .unset] [(.int (0 : Int32)), (.int (F4 (t0_0 p1 p2 p3 p4)))])) _
    refine XS.icmpYes X10.here hx rfl (pc0 := 92) (pc' := 97) rfl (hb hby at_92) rfl (teq (show (F4 (t0_0 p1 p2 p3 p4)) = (0 : Int32) from by first | exact (own_92 p1 p2 p3 p4).trans (if_pos hc75) | exact (own_92 p1 p2 p3 p4).trans (if_neg hc75))).1 (by decide) (by decide) ?_
    show Steps p.tables e below (T10.setTop (mkF m 97 #[.val (.int p1), .val (.int p2), .val (.int p3), .val (.int p4), .val (.int p5), .val (.long q6), .second, .val (.int (p1 &&& (3 : Int32))), .val (.int (p2 &&& (1 : Int32))), .val (.int (p3 &&& (3 : Int32))), .val (.int (p4 &&& (7 : Int32))), .val (.int (p5 &&& (255 : Int32))), .val (.int (t0_0 p1 p2 p3 p4)), .val (.ref b7), .val (.ref b8), .val (.int (0 : Int32)), .unset, .unset] [])) _
    refine XS.iload X10.here hx rfl (hb hby at_97) rfl ?_
    show Steps p.tables e below (T10.setTop (mkF m 99 #[.val (.int p1), .val (.int p2), .val (.int p3), .val (.int p4), .val (.int p5), .val (.long q6), .second, .val (.int (p1 &&& (3 : Int32))), .val (.int (p2 &&& (1 : Int32))), .val (.int (p3 &&& (3 : Int32))), .val (.int (p4 &&& (7 : Int32))), .val (.int (p5 &&& (255 : Int32))), .val (.int (t0_0 p1 p2 p3 p4)), .val (.ref b7), .val (.ref b8), .val (.int (0 : Int32)), .unset, .unset] [(.int (p4 &&& (7 : Int32)))])) _
    refine XS.ifNo X10.here hx rfl (hb hby at_99) rfl ((if0 _ _).trans (teq hc99).2) ?_
    show Steps p.tables e below (T10.setTop (mkF m 102 #[.val (.int p1), .val (.int p2), .val (.int p3), .val (.int p4), .val (.int p5), .val (.long q6), .second, .val (.int (p1 &&& (3 : Int32))), .val (.int (p2 &&& (1 : Int32))), .val (.int (p3 &&& (3 : Int32))), .val (.int (p4 &&& (7 : Int32))), .val (.int (p5 &&& (255 : Int32))), .val (.int (t0_0 p1 p2 p3 p4)), .val (.ref b7), .val (.ref b8), .val (.int (0 : Int32)), .unset, .unset] [])) _
    refine XS.iconst X10.here hx rfl (hb hby at_102) ?_
    show Steps p.tables e below (T10.setTop (mkF m 103 #[.val (.int p1), .val (.int p2), .val (.int p3), .val (.int p4), .val (.int p5), .val (.long q6), .second, .val (.int (p1 &&& (3 : Int32))), .val (.int (p2 &&& (1 : Int32))), .val (.int (p3 &&& (3 : Int32))), .val (.int (p4 &&& (7 : Int32))), .val (.int (p5 &&& (255 : Int32))), .val (.int (t0_0 p1 p2 p3 p4)), .val (.ref b7), .val (.ref b8), .val (.int (0 : Int32)), .unset, .unset] [(.int (1 : Int32))])) _
    refine XS.goto X10.here hx rfl (pc0 := 103) (pc' := 108) rfl (hb hby at_103) (by decide) (by decide) ?_
    show Steps p.tables e below (T10.setTop (mkF m 108 #[.val (.int p1), .val (.int p2), .val (.int p3), .val (.int p4), .val (.int p5), .val (.long q6), .second, .val (.int (p1 &&& (3 : Int32))), .val (.int (p2 &&& (1 : Int32))), .val (.int (p3 &&& (3 : Int32))), .val (.int (p4 &&& (7 : Int32))), .val (.int (p5 &&& (255 : Int32))), .val (.int (t0_0 p1 p2 p3 p4)), .val (.ref b7), .val (.ref b8), .val (.int (0 : Int32)), .unset, .unset] [(.int (1 : Int32))])) _
    refine XS.istore X10.here hx rfl (hb hby at_108) rfl (l' := #[.val (.int p1), .val (.int p2), .val (.int p3), .val (.int p4), .val (.int p5), .val (.long q6), .second, .val (.int (p1 &&& (3 : Int32))), .val (.int (p2 &&& (1 : Int32))), .val (.int (p3 &&& (3 : Int32))), .val (.int (p4 &&& (7 : Int32))), .val (.int (p5 &&& (255 : Int32))), .val (.int (t0_0 p1 p2 p3 p4)), .val (.ref b7), .val (.ref b8), .val (.int (0 : Int32)), .val (.int (1 : Int32)), .unset]) rfl ?_
    show Steps p.tables e below (T10.setTop (mkF m 110 #[.val (.int p1), .val (.int p2), .val (.int p3), .val (.int p4), .val (.int p5), .val (.long q6), .second, .val (.int (p1 &&& (3 : Int32))), .val (.int (p2 &&& (1 : Int32))), .val (.int (p3 &&& (3 : Int32))), .val (.int (p4 &&& (7 : Int32))), .val (.int (p5 &&& (255 : Int32))), .val (.int (t0_0 p1 p2 p3 p4)), .val (.ref b7), .val (.ref b8), .val (.int (0 : Int32)), .val (.int (1 : Int32)), .unset] [])) _
    refine XS.lload X10.here hx rfl (hb hby at_110) rfl ?_
    show Steps p.tables e below (T10.setTop (mkF m 112 #[.val (.int p1), .val (.int p2), .val (.int p3), .val (.int p4), .val (.int p5), .val (.long q6), .second, .val (.int (p1 &&& (3 : Int32))), .val (.int (p2 &&& (1 : Int32))), .val (.int (p3 &&& (3 : Int32))), .val (.int (p4 &&& (7 : Int32))), .val (.int (p5 &&& (255 : Int32))), .val (.int (t0_0 p1 p2 p3 p4)), .val (.ref b7), .val (.ref b8), .val (.int (0 : Int32)), .val (.int (1 : Int32)), .unset] [(.long q6)])) _
    refine XS.iload X10.here hx rfl (hb hby at_112) rfl ?_
    show Steps p.tables e below (T10.setTop (mkF m 114 #[.val (.int p1), .val (.int p2), .val (.int p3), .val (.int p4), .val (.int p5), .val (.long q6), .second, .val (.int (p1 &&& (3 : Int32))), .val (.int (p2 &&& (1 : Int32))), .val (.int (p3 &&& (3 : Int32))), .val (.int (p4 &&& (7 : Int32))), .val (.int (p5 &&& (255 : Int32))), .val (.int (t0_0 p1 p2 p3 p4)), .val (.ref b7), .val (.ref b8), .val (.int (0 : Int32)), .val (.int (1 : Int32)), .unset] [(.int (1 : Int32)), (.long q6)])) _
    refine XS.iload X10.here hx rfl (hb hby at_114) rfl ?_
    show Steps p.tables e below (T10.setTop (mkF m 116 #[.val (.int p1), .val (.int p2), .val (.int p3), .val (.int p4), .val (.int p5), .val (.long q6), .second, .val (.int (p1 &&& (3 : Int32))), .val (.int (p2 &&& (1 : Int32))), .val (.int (p3 &&& (3 : Int32))), .val (.int (p4 &&& (7 : Int32))), .val (.int (p5 &&& (255 : Int32))), .val (.int (t0_0 p1 p2 p3 p4)), .val (.ref b7), .val (.ref b8), .val (.int (0 : Int32)), .val (.int (1 : Int32)), .unset] [(.int (p3 &&& (3 : Int32))), (.int (1 : Int32)), (.long q6)])) _
    refine XS.aload X10.here hx rfl (hb hby at_116) rfl rfl ?_
    show Steps p.tables e below (T10.setTop (mkF m 118 #[.val (.int p1), .val (.int p2), .val (.int p3), .val (.int p4), .val (.int p5), .val (.long q6), .second, .val (.int (p1 &&& (3 : Int32))), .val (.int (p2 &&& (1 : Int32))), .val (.int (p3 &&& (3 : Int32))), .val (.int (p4 &&& (7 : Int32))), .val (.int (p5 &&& (255 : Int32))), .val (.int (t0_0 p1 p2 p3 p4)), .val (.ref b7), .val (.ref b8), .val (.int (0 : Int32)), .val (.int (1 : Int32)), .unset] [(.ref b7), (.int (p3 &&& (3 : Int32))), (.int (1 : Int32)), (.long q6)])) _
    refine st11 _ ?_
    show Steps p.tables e below (T11.setTop (mkF m 121 #[.val (.int p1), .val (.int p2), .val (.int p3), .val (.int p4), .val (.int p5), .val (.long q6), .second, .val (.int (p1 &&& (3 : Int32))), .val (.int (p2 &&& (1 : Int32))), .val (.int (p3 &&& (3 : Int32))), .val (.int (p4 &&& (7 : Int32))), .val (.int (p5 &&& (255 : Int32))), .val (.int (t0_0 p1 p2 p3 p4)), .val (.ref b7), .val (.ref b8), .val (.int (0 : Int32)), .val (.int (1 : Int32)), .unset] [(.ref b5_11)])) _
    refine XS.astore X11.here hx rfl (hb hby at_121) rfl rfl (l' := #[.val (.int p1), .val (.int p2), .val (.int p3), .val (.int p4), .val (.int p5), .val (.long q6), .second, .val (.int (p1 &&& (3 : Int32))), .val (.int (p2 &&& (1 : Int32))), .val (.int (p3 &&& (3 : Int32))), .val (.int (p4 &&& (7 : Int32))), .val (.int (p5 &&& (255 : Int32))), .val (.int (t0_0 p1 p2 p3 p4)), .val (.ref b7), .val (.ref b8), .val (.int (0 : Int32)), .val (.int (1 : Int32)), .val (.ref b5_11)]) rfl ?_
    show Steps p.tables e below (T11.setTop (mkF m 123 #[.val (.int p1), .val (.int p2), .val (.int p3), .val (.int p4), .val (.int p5), .val (.long q6), .second, .val (.int (p1 &&& (3 : Int32))), .val (.int (p2 &&& (1 : Int32))), .val (.int (p3 &&& (3 : Int32))), .val (.int (p4 &&& (7 : Int32))), .val (.int (p5 &&& (255 : Int32))), .val (.int (t0_0 p1 p2 p3 p4)), .val (.ref b7), .val (.ref b8), .val (.int (0 : Int32)), .val (.int (1 : Int32)), .val (.ref b5_11)] [])) _
    refine XS.aload X11.here hx rfl (hb hby at_123) rfl rfl ?_
    show Steps p.tables e below (T11.setTop (mkF m 125 #[.val (.int p1), .val (.int p2), .val (.int p3), .val (.int p4), .val (.int p5), .val (.long q6), .second, .val (.int (p1 &&& (3 : Int32))), .val (.int (p2 &&& (1 : Int32))), .val (.int (p3 &&& (3 : Int32))), .val (.int (p4 &&& (7 : Int32))), .val (.int (p5 &&& (255 : Int32))), .val (.int (t0_0 p1 p2 p3 p4)), .val (.ref b7), .val (.ref b8), .val (.int (0 : Int32)), .val (.int (1 : Int32)), .val (.ref b5_11)] [(.ref b5_11)])) _
    refine st12.trans ?_
    show Steps p.tables e below (T12.setTop (mkF m 128 #[.val (.int p1), .val (.int p2), .val (.int p3), .val (.int p4), .val (.int p5), .val (.long q6), .second, .val (.int (p1 &&& (3 : Int32))), .val (.int (p2 &&& (1 : Int32))), .val (.int (p3 &&& (3 : Int32))), .val (.int (p4 &&& (7 : Int32))), .val (.int (p5 &&& (255 : Int32))), .val (.int (t0_0 p1 p2 p3 p4)), .val (.ref b7), .val (.ref b8), .val (.int (0 : Int32)), .val (.int (1 : Int32)), .val (.ref b5_11)] [(.int (F4 (t6_0 (1 : Int32) (p3 &&& (3 : Int32)) w_bits_s_REQUEST)))])) _
    refine XS.ifYes X12.here hx rfl (pc0 := 128) (pc' := 133) rfl (hb hby at_128) rfl ((if0 _ _).trans (teq (show (t0_1 p3 w_bits_s_REQUEST) = (0 : Int32) from by rw [hb0]; first | exact own_rq _ (own_m3 p3) _ (own_m7 p4) | exact own_rq _ (own_m3 p3) 1 (by decide))).1) (by decide) (by decide) ?_
    show Steps p.tables e below (T12.setTop (mkF m 133 #[.val (.int p1), .val (.int p2), .val (.int p3), .val (.int p4), .val (.int p5), .val (.long q6), .second, .val (.int (p1 &&& (3 : Int32))), .val (.int (p2 &&& (1 : Int32))), .val (.int (p3 &&& (3 : Int32))), .val (.int (p4 &&& (7 : Int32))), .val (.int (p5 &&& (255 : Int32))), .val (.int (t0_0 p1 p2 p3 p4)), .val (.ref b7), .val (.ref b8), .val (.int (0 : Int32)), .val (.int (1 : Int32)), .val (.ref b5_11)] [])) _
    refine XS.iconst X12.here hx rfl (hb hby at_133) ?_
    show Steps p.tables e below (T12.setTop (mkF m 134 #[.val (.int p1), .val (.int p2), .val (.int p3), .val (.int p4), .val (.int p5), .val (.long q6), .second, .val (.int (p1 &&& (3 : Int32))), .val (.int (p2 &&& (1 : Int32))), .val (.int (p3 &&& (3 : Int32))), .val (.int (p4 &&& (7 : Int32))), .val (.int (p5 &&& (255 : Int32))), .val (.int (t0_0 p1 p2 p3 p4)), .val (.ref b7), .val (.ref b8), .val (.int (0 : Int32)), .val (.int (1 : Int32)), .val (.ref b5_11)] [(.int (1 : Int32))])) _
    exact retN X12 hx (t := .boolean) Bd.returns (by simp) (hb hby at_134) hr
  · show Q_rm0 Z p1 p2 p3 p4 p5 q6 s_REQUEST w_bits_s_REQUEST h0 n0 _ T12.heap _
    exact ⟨rfl, N12⟩
set_option maxRecDepth 65536 in
set_option maxHeartbeats 40000000 in
theorem rm0_tt (l : Launch) (Z : State) (a0 : Array Value) (hw : ∀ d ∈ tables_1, d.before a0 Z = true) (ws : List Jvm.Cond) (p1 : Int32) (p2 : Int32) (p3 : Int32) (p4 : Int32) (p5 : Int32) (q6 : Int64) (s_REQUEST : Addr) (w_bits_s_REQUEST : Int32) (h0 : Heap) (n0 : Nat) (Z0 : n0 ≤ h0.size) (hb0 : w_bits_s_REQUEST = (0 : Int32)) (S_REQUEST : Sta Z h0 "com/example/wirecall/wirecall/protocol/FrameKind" "REQUEST" "Lcom/example/wirecall/wirecall/protocol/FrameKind;" (.ref s_REQUEST)) (F_bits_s_REQUEST : Fld Z h0 s_REQUEST "com/example/wirecall/wirecall/protocol/FrameKind" "bits" "I" (.int w_bits_s_REQUEST)) (E_s_REQUEST : Exa Z h0 s_REQUEST "com/example/wirecall/wirecall/protocol/FrameKind") (hc75 : ¬ ((p2 &&& (1 : Int32)) = (1 : Int32))) (hc99 : ¬ ((p4 &&& (7 : Int32)) = (0 : Int32))) :
    MetFree l x (head1 (Jvm.Cond.code x code maxLocals ret :: ws) room_1) (fun a U => a = #[(.int p1), (.int p2), (.int p3), (.int p4), (.int p5), (.long q6)] ∧ Z.Warmed39 U.vm ∧ U.heap = h0) (fun _ _ _ _ _ => True) (fun _ U o U' => ∃ v L, o = .returned v ∧ Q_rm0 Z p1 p2 p3 p4 p5 q6 s_REQUEST w_bits_s_REQUEST h0 n0 v U'.heap L ∧ FrameEnd U o U' L room_1.cells room_1.slots) := by
  refine MetFree.of_bodySF (plainFor_of_name pn_0) hisR ?_
  intro p e s m args below meth c s₁ Bd hml0 hP hK
  obtain ⟨rfl, hZ, hh⟩ := hP
  have hx := Bd.exec
  have hby := Bd.bytes
  have hml : c.maxLocals = 18 := hml0
  have hown : s.vm.findClass "com/example/wirecall/wirecall/protocol/FrameOneWayPinLaw" = some m.cls := findClass_of_methodNamed Bd.named
  have hnm := (name_of_methodNamed Bd.named Bd.method).1
  have X0 : Stand p l e room_1 s m #[(.int p1), (.int p2), (.int p3), (.int p4), (.int p5), (.long q6)] below meth c s₁ [] 0 0 := Stand.of_body Bd
  have e0 : s₁.heap = h0 := by rw [← hh, Bd.state]; rfl
  have N0 := Fr.nil n0
  have pre0 : ∀ t, Steps p.tables e below (s₁.setTop (mkF m 0 #[.val (.int p1), .val (.int p2), .val (.int p3), .val (.int p4), .val (.int p5), .val (.long q6), .second, .unset, .unset, .unset, .unset, .unset, .unset, .unset, .unset, .unset, .unset, .unset] [])) t → Steps p.tables e below (s₁.setTop (entryFrame m #[(.int p1), (.int p2), (.int p3), (.int p4), (.int p5), (.long q6)] maxLocals)) t := fun t k => castTop (ef_0 m p1 p2 p3 p4 p5 q6) k
  obtain ⟨T7, h7, k7, X7, e7, E7, A7, st7⟩ := newP X0 hx hZ (hw _ (List.mem_of_getElem? (i := 0) rfl)) e0 (g := (mkF m 51 #[.val (.int p1), .val (.int p2), .val (.int p3), .val (.int p4), .val (.int p5), .val (.long q6), .second, .val (.int (p1 &&& (3 : Int32))), .val (.int (p2 &&& (1 : Int32))), .val (.int (p3 &&& (3 : Int32))), .val (.int (p4 &&& (7 : Int32))), .val (.int (p5 &&& (255 : Int32))), .val (.int (t0_0 p1 p2 p3 p4)), .unset, .unset, .unset, .unset, .unset] [(.int (0 : Int32))])) rfl (hb hby at_51) rfl (by decide) (cap := 0) (by decide) (by decide) (by decide) (by decide)
  obtain ⟨b7, g7⟩ : ∃ z, z = h0.size := ⟨_, rfl⟩
  rw [← g7] at A7 st7
  have g_b7 : n0 ≤ b7 := Nat.le_trans Z0 (Nat.le_of_eq g7.symm)
  have sz_b7 : h0.size ≤ b7 := Nat.le_trans (Nat.le_refl h0.size) (Nat.le_of_eq g7.symm)
  have V_b7 : Arv Z h7 b7 k7 .byte (0 : Int32) [] (.int (0 : Int32)) := (Arv.new A7 (by decide)).pad (pad_rep [] (.int (0 : Int32)) 0)
  have f0 := (F_bits_s_REQUEST.ext E7)
  obtain ⟨T8, h8, X8, e8, E8, A8, D8, -, st8⟩ := newO X7 hx hZ hown (hw _ (List.mem_of_getElem? (i := 1) rfl)) (hw _ (List.mem_of_getElem? (i := 2) rfl)) (hw _ (List.mem_of_getElem? (i := 3) rfl)) e7 (g := (mkF m 55 #[.val (.int p1), .val (.int p2), .val (.int p3), .val (.int p4), .val (.int p5), .val (.long q6), .second, .val (.int (p1 &&& (3 : Int32))), .val (.int (p2 &&& (1 : Int32))), .val (.int (p3 &&& (3 : Int32))), .val (.int (p4 &&& (7 : Int32))), .val (.int (p5 &&& (255 : Int32))), .val (.int (t0_0 p1 p2 p3 p4)), .val (.ref b7), .unset, .unset, .unset, .unset] [])) rfl (hb hby at_55) (by decide) (by decide)
  obtain ⟨b8, g8⟩ : ∃ z, z = h7.size := ⟨_, rfl⟩
  rw [← g8] at A8 D8 st8
  have g_b8 : n0 ≤ b8 := Nat.le_trans (Nat.le_trans Z0 E7.1) (Nat.le_of_eq g8.symm)
  have sz_b8 : h0.size ≤ b8 := Nat.le_trans (Nat.le_trans (Nat.le_refl h0.size) E7.1) (Nat.le_of_eq g8.symm)
  have F_flags_b8 : Fld Z h8 b8 "com/example/wirecall/wirecall/protocol/Frame" "flags" "I" (.int (0 : Int32)) := D8 (Or.inr (hw _ (List.mem_of_getElem? (i := 16) rfl))) (ty := .int) (by decide)
  have F_status_b8 : Fld Z h8 b8 "com/example/wirecall/wirecall/protocol/Frame" "status" "I" (.int (0 : Int32)) := D8 (Or.inr (hw _ (List.mem_of_getElem? (i := 18) rfl))) (ty := .int) (by decide)
  have F_id_b8 : Fld Z h8 b8 "com/example/wirecall/wirecall/protocol/Frame" "id" "J" (.long (0 : Int64)) := D8 (Or.inr (hw _ (List.mem_of_getElem? (i := 20) rfl))) (ty := .long) (by decide)
  have F_body_b8 : Fld Z h8 b8 "com/example/wirecall/wirecall/protocol/Frame" "body" "[B" .null := D8 (Or.inr (hw _ (List.mem_of_getElem? (i := 22) rfl))) (ty := (.array .byte)) (by decide)
  obtain ⟨_, _, ⟨T9, L9, k9, n9⟩, -, X9, ⟨Lc9, hQ9, l9, y9, z9⟩, st9⟩ := X8.specialBack hx (y := (⟨"com/example/wirecall/wirecall/protocol/Frame", "<init>", "(IIJ[B)V"⟩ : MethodName)) rfl hown (mvT hZ (hw _ (List.mem_of_getElem? (i := 4) rfl))) (mvT hZ (hw _ (List.mem_of_getElem? (i := 5) rfl))) (mvT hZ (hw _ (List.mem_of_getElem? (i := 6) rfl))) (by decide) (backOf (W := 1) (rm1 l Z a0 hw [] b8 (t0_0 p1 p2 p3 p4) (p5 &&& (255 : Int32)) q6 b7 (0 : Int32) (0 : Int32) (0 : Int64) .null h8 n0 (Nat.le_trans (Nat.le_trans Z0 E7.1) E8.1) A8 F_flags_b8 g_b8 F_status_b8 F_id_b8 F_body_b8) hZ (hw _ (List.mem_of_getElem? (i := 6) rfl)) (hw _ (List.mem_of_getElem? (i := 3) rfl)) (by decide) (by decide)) (g := (mkF m 67 #[.val (.int p1), .val (.int p2), .val (.int p3), .val (.int p4), .val (.int p5), .val (.long q6), .second, .val (.int (p1 &&& (3 : Int32))), .val (.int (p2 &&& (1 : Int32))), .val (.int (p3 &&& (3 : Int32))), .val (.int (p4 &&& (7 : Int32))), .val (.int (p5 &&& (255 : Int32))), .val (.int (t0_0 p1 p2 p3 p4)), .val (.ref b7), .unset, .unset, .unset, .unset] [(.ref b7), (.long q6), (.int (p5 &&& (255 : Int32))), (.int (t0_0 p1 p2 p3 p4)), (.ref b8), (.ref b8)])) rfl (by rw [hml]; rfl) (Steps.refl _) (a := b8) (argsL := [(.int (t0_0 p1 p2 p3 p4)), (.int (p5 &&& (255 : Int32))), (.long q6), (.ref b7)]) (rest := [(.ref b8)]) (lenOf pd__28IIJ_5bB_29V rfl) rfl (by show 2 * 0 + _ ≤ _; exact Nat.le_of_eq rfl) (hb hby at_67) (fun _ _ => ⟨rfl, e8, (by decide : 2 + 0 ≤ _), (by decide : 4 + 0 ≤ _)⟩)
  dsimp only [Pt.U, Pt.locs, Pt.cells, Pt.slots] at X9 l9 y9 z9 st9 hQ9
  subst l9 y9 z9
  obtain ⟨rfl, N9q, K9, i9_0, i9_1, i9_2, i9_3, i9_4⟩ := hQ9
  have N9 := Fr.app N0 N9q
  obtain ⟨cq10, kq10, q10a, q10b, q10c⟩ := isOf hZ rfl i9_0
  obtain ⟨_, _, ⟨T10, L10, k10, n10⟩, -, X10, ⟨Lc10, hQ10, l10, y10, z10⟩, st10⟩ := X9.virtualBack hx (y := (⟨"com/example/wirecall/wirecall/protocol/Frame", "oneWay", "()Z"⟩ : MethodName)) (z := (⟨"com/example/wirecall/wirecall/protocol/Frame", "oneWay", "()Z"⟩ : MethodName)) hown (mvT hZ (hw _ (List.mem_of_getElem? (i := 23) rfl))) (mvT hZ (hw _ (List.mem_of_getElem? (i := 24) rfl))) (notFace_of_selects (args := #[]) (mvT hZ (hw _ (List.mem_of_getElem? (i := 26) rfl)))) (mvT hZ (hw _ (List.mem_of_getElem? (i := 26) rfl))) (mvT hZ (hw _ (List.mem_of_getElem? (i := 25) rfl))) (by decide) (backOf (W := 0) (rm4 l Z a0 hw [] b8 (t0_0 p1 p2 p3 p4) T9.heap n0 (Nat.le_trans (Nat.le_trans (Nat.le_trans Z0 E7.1) E8.1) K9.1) i9_1) hZ (hw _ (List.mem_of_getElem? (i := 27) rfl)) (hw _ (List.mem_of_getElem? (i := 3) rfl)) (by decide) (by decide)) q10a q10c (g := (mkF m 87 #[.val (.int p1), .val (.int p2), .val (.int p3), .val (.int p4), .val (.int p5), .val (.long q6), .second, .val (.int (p1 &&& (3 : Int32))), .val (.int (p2 &&& (1 : Int32))), .val (.int (p3 &&& (3 : Int32))), .val (.int (p4 &&& (7 : Int32))), .val (.int (p5 &&& (255 : Int32))), .val (.int (t0_0 p1 p2 p3 p4)), .val (.ref b7), .val (.ref b8), .val (.int (0 : Int32)), .unset, .unset] [(.ref b8)])) rfl (by rw [hml]; rfl) (Steps.refl _) (argsL := []) (rest := []) (lenOf pd__28_29Z rfl) rfl (by show 2 * 0 + _ ≤ _; exact Nat.le_of_eq rfl) (hb hby at_87) (fun _ _ => ⟨rfl, rfl, (by decide : 2 + 0 ≤ _), (by decide : 4 + 0 ≤ _)⟩)
  dsimp only [Pt.U, Pt.locs, Pt.cells, Pt.slots] at X10 l10 y10 z10 st10 hQ10
  subst l10 y10 z10
  obtain ⟨rfl, N10q, e10⟩ := hQ10
  have N10 := Fr.app N9 N10q
  have f1 := (own_sta_keep ((S_REQUEST.ext E7).ext E8) K9 (own_qc (own_nst A8) own_q0))
  have f2 := ((f0.ext E8).keep K9 (own_nm (Nat.ne_of_lt (Nat.lt_of_lt_of_le f0.lt (Nat.le_of_eq g8.symm))) own_n0))
  have f3 := (((E_s_REQUEST.ext E7).ext E8).keep K9)
  obtain ⟨_, _, ⟨T11, L11, k11, n11⟩, -, X11, ⟨Lc11, hQ11, l11, y11, z11⟩, st11⟩ := Jvm.LawKit.callS X10 hx (y := (⟨"com/example/wirecall/wirecall/protocol/Frame", "request", "(JII[B)Lcom/example/wirecall/wirecall/protocol/Frame;"⟩ : MethodName)) hown (mvT hZ (hw _ (List.mem_of_getElem? (i := 28) rfl))) (mvT hZ (hw _ (List.mem_of_getElem? (i := 29) rfl))) (mvT hZ (hw _ (List.mem_of_getElem? (i := 3) rfl))) (mvT hZ (hw _ (List.mem_of_getElem? (i := 30) rfl))) (by decide) (backOf (W := 0) (rm5 l Z a0 hw [] q6 (p4 &&& (7 : Int32)) (p3 &&& (3 : Int32)) b7 s_REQUEST w_bits_s_REQUEST T9.heap n0 (Nat.le_trans (Nat.le_trans (Nat.le_trans Z0 E7.1) E8.1) K9.1) f1 f2 f3 (by first | exact (own_sl _ (own_m7 p4) hc99).1 | decide) (by first | exact (own_sl _ (own_m7 p4) hc99).2 | decide) ((own_cl _ (own_m3 p3)).1) ((own_cl _ (own_m3 p3)).2)) hZ (hw _ (List.mem_of_getElem? (i := 30) rfl)) (hw _ (List.mem_of_getElem? (i := 3) rfl)) (by decide) (by decide)) (g := (mkF m 118 #[.val (.int p1), .val (.int p2), .val (.int p3), .val (.int p4), .val (.int p5), .val (.long q6), .second, .val (.int (p1 &&& (3 : Int32))), .val (.int (p2 &&& (1 : Int32))), .val (.int (p3 &&& (3 : Int32))), .val (.int (p4 &&& (7 : Int32))), .val (.int (p5 &&& (255 : Int32))), .val (.int (t0_0 p1 p2 p3 p4)), .val (.ref b7), .val (.ref b8), .val (.int (0 : Int32)), .val (.int (p4 &&& (7 : Int32))), .unset] [(.ref b7), (.int (p3 &&& (3 : Int32))), (.int (p4 &&& (7 : Int32))), (.long q6)])) rfl (by rw [hml]; rfl) (argsL := [(.long q6), (.int (p4 &&& (7 : Int32))), (.int (p3 &&& (3 : Int32))), (.ref b7)]) (rest := []) (lenOf pd__28JII_5bB_29Lcom_2fexample_2fwirecall_2fwirecall_2fprotocol_2fFrame_3b rfl) rfl (by show 2 * 0 + _ ≤ _; exact Nat.le_of_eq rfl) (hb hby at_118) (fun _ _ => ⟨rfl, e10, (by decide : 2 + 1 ≤ _), (by decide : 4 + 4 ≤ _)⟩)
  dsimp only [Pt.U, Pt.locs, Pt.cells, Pt.slots] at X11 l11 y11 z11 st11 hQ11
  subst l11 y11 z11
  obtain ⟨b5_11, ⟨rfl, N11q, K11, i11_0, i11_1, i11_2, i11_3, i11_4, i11_5⟩⟩ := hQ11
  have N11 := Fr.app N10 N11q
  have f4 := ((V_b7.ext E8).keep K9 (own_nm (Nat.ne_of_lt (Nat.lt_of_lt_of_le V_b7.lt (Nat.le_of_eq g8.symm))) own_n0))
  have sz_b5_11 : h0.size ≤ b5_11 := Nat.le_trans (Nat.le_trans (Nat.le_trans (Nat.le_trans (Nat.le_refl h0.size) E7.1) E8.1) K9.1) i11_0
  have g_b5_11 : n0 ≤ b5_11 := Nat.le_trans Z0 sz_b5_11
  obtain ⟨cq12, kq12, q12a, q12b, q12c⟩ := isOf hZ rfl i11_1
  obtain ⟨_, _, ⟨T12, L12, k12, n12⟩, -, X12, ⟨Lc12, hQ12, l12, y12, z12⟩, st12⟩ := X11.virtualBack hx (y := (⟨"com/example/wirecall/wirecall/protocol/Frame", "oneWay", "()Z"⟩ : MethodName)) (z := (⟨"com/example/wirecall/wirecall/protocol/Frame", "oneWay", "()Z"⟩ : MethodName)) hown (mvT hZ (hw _ (List.mem_of_getElem? (i := 23) rfl))) (mvT hZ (hw _ (List.mem_of_getElem? (i := 24) rfl))) (notFace_of_selects (args := #[]) (mvT hZ (hw _ (List.mem_of_getElem? (i := 26) rfl)))) (mvT hZ (hw _ (List.mem_of_getElem? (i := 26) rfl))) (mvT hZ (hw _ (List.mem_of_getElem? (i := 25) rfl))) (by decide) (backOf (W := 0) (rm4 l Z a0 hw [] b5_11 (t6_0 (p4 &&& (7 : Int32)) (p3 &&& (3 : Int32)) w_bits_s_REQUEST) T11.heap n0 (Nat.le_trans (Nat.le_trans (Nat.le_trans (Nat.le_trans Z0 E7.1) E8.1) K9.1) K11.1) i11_2) hZ (hw _ (List.mem_of_getElem? (i := 27) rfl)) (hw _ (List.mem_of_getElem? (i := 3) rfl)) (by decide) (by decide)) q12a q12c (g := (mkF m 125 #[.val (.int p1), .val (.int p2), .val (.int p3), .val (.int p4), .val (.int p5), .val (.long q6), .second, .val (.int (p1 &&& (3 : Int32))), .val (.int (p2 &&& (1 : Int32))), .val (.int (p3 &&& (3 : Int32))), .val (.int (p4 &&& (7 : Int32))), .val (.int (p5 &&& (255 : Int32))), .val (.int (t0_0 p1 p2 p3 p4)), .val (.ref b7), .val (.ref b8), .val (.int (0 : Int32)), .val (.int (p4 &&& (7 : Int32))), .val (.ref b5_11)] [(.ref b5_11)])) rfl (by rw [hml]; rfl) (Steps.refl _) (argsL := []) (rest := []) (lenOf pd__28_29Z rfl) rfl (by show 2 * 0 + _ ≤ _; exact Nat.le_of_eq rfl) (hb hby at_125) (fun _ _ => ⟨rfl, rfl, (by decide : 3 + 0 ≤ _), (by decide : 8 + 0 ≤ _)⟩)
  dsimp only [Pt.U, Pt.locs, Pt.cells, Pt.slots] at X12 l12 y12 z12 st12 hQ12
  subst l12 y12 z12
  obtain ⟨rfl, N12q, e12⟩ := hQ12
  have N12 := Fr.app N11 N12q
  obtain ⟨fs, hr, hrun, hended, hW, hsame⟩ := X12.leave (v := some (.int (1 : Int32))) (fun h => by rw [Bd.returns] at h; cases h)
  refine ⟨_, _, pre0 _ ?_, hrun, hended, _, _, rfl, ?_, ⟨_, rfl⟩, hW, hsame.mono (by decide) (by decide)⟩
  · show Steps p.tables e below (s₁.setTop (mkF m 0 #[.val (.int p1), .val (.int p2), .val (.int p3), .val (.int p4), .val (.int p5), .val (.long q6), .second, .unset, .unset, .unset, .unset, .unset, .unset, .unset, .unset, .unset, .unset, .unset] [])) _
    refine XS.iloadN X0.here hx rfl (hb hby at_0) rfl ?_
    show Steps p.tables e below (s₁.setTop (mkF m 1 #[.val (.int p1), .val (.int p2), .val (.int p3), .val (.int p4), .val (.int p5), .val (.long q6), .second, .unset, .unset, .unset, .unset, .unset, .unset, .unset, .unset, .unset, .unset, .unset] [(.int p1)])) _
    refine XS.iconst X0.here hx rfl (hb hby at_1) ?_
    show Steps p.tables e below (s₁.setTop (mkF m 2 #[.val (.int p1), .val (.int p2), .val (.int p3), .val (.int p4), .val (.int p5), .val (.long q6), .second, .unset, .unset, .unset, .unset, .unset, .unset, .unset, .unset, .unset, .unset, .unset] [(.int (3 : Int32)), (.int p1)])) _
    refine XS.iand X0.here hx rfl (hb hby at_2) rfl ?_
    show Steps p.tables e below (s₁.setTop (mkF m 3 #[.val (.int p1), .val (.int p2), .val (.int p3), .val (.int p4), .val (.int p5), .val (.long q6), .second, .unset, .unset, .unset, .unset, .unset, .unset, .unset, .unset, .unset, .unset, .unset] [(.int (p1 &&& (3 : Int32)))])) _
    refine XS.istore X0.here hx rfl (hb hby at_3) rfl (l' := #[.val (.int p1), .val (.int p2), .val (.int p3), .val (.int p4), .val (.int p5), .val (.long q6), .second, .val (.int (p1 &&& (3 : Int32))), .unset, .unset, .unset, .unset, .unset, .unset, .unset, .unset, .unset, .unset]) rfl ?_
    show Steps p.tables e below (s₁.setTop (mkF m 5 #[.val (.int p1), .val (.int p2), .val (.int p3), .val (.int p4), .val (.int p5), .val (.long q6), .second, .val (.int (p1 &&& (3 : Int32))), .unset, .unset, .unset, .unset, .unset, .unset, .unset, .unset, .unset, .unset] [])) _
    refine XS.iloadN X0.here hx rfl (hb hby at_5) rfl ?_
    show Steps p.tables e below (s₁.setTop (mkF m 6 #[.val (.int p1), .val (.int p2), .val (.int p3), .val (.int p4), .val (.int p5), .val (.long q6), .second, .val (.int (p1 &&& (3 : Int32))), .unset, .unset, .unset, .unset, .unset, .unset, .unset, .unset, .unset, .unset] [(.int p2)])) _
    refine XS.iconst X0.here hx rfl (hb hby at_6) ?_
    show Steps p.tables e below (s₁.setTop (mkF m 7 #[.val (.int p1), .val (.int p2), .val (.int p3), .val (.int p4), .val (.int p5), .val (.long q6), .second, .val (.int (p1 &&& (3 : Int32))), .unset, .unset, .unset, .unset, .unset, .unset, .unset, .unset, .unset, .unset] [(.int (1 : Int32)), (.int p2)])) _
    refine XS.iand X0.here hx rfl (hb hby at_7) rfl ?_
    show Steps p.tables e below (s₁.setTop (mkF m 8 #[.val (.int p1), .val (.int p2), .val (.int p3), .val (.int p4), .val (.int p5), .val (.long q6), .second, .val (.int (p1 &&& (3 : Int32))), .unset, .unset, .unset, .unset, .unset, .unset, .unset, .unset, .unset, .unset] [(.int (p2 &&& (1 : Int32)))])) _
    refine XS.istore X0.here hx rfl (hb hby at_8) rfl (l' := #[.val (.int p1), .val (.int p2), .val (.int p3), .val (.int p4), .val (.int p5), .val (.long q6), .second, .val (.int (p1 &&& (3 : Int32))), .val (.int (p2 &&& (1 : Int32))), .unset, .unset, .unset, .unset, .unset, .unset, .unset, .unset, .unset]) rfl ?_
    show Steps p.tables e below (s₁.setTop (mkF m 10 #[.val (.int p1), .val (.int p2), .val (.int p3), .val (.int p4), .val (.int p5), .val (.long q6), .second, .val (.int (p1 &&& (3 : Int32))), .val (.int (p2 &&& (1 : Int32))), .unset, .unset, .unset, .unset, .unset, .unset, .unset, .unset, .unset] [])) _
    refine XS.iloadN X0.here hx rfl (hb hby at_10) rfl ?_
    show Steps p.tables e below (s₁.setTop (mkF m 11 #[.val (.int p1), .val (.int p2), .val (.int p3), .val (.int p4), .val (.int p5), .val (.long q6), .second, .val (.int (p1 &&& (3 : Int32))), .val (.int (p2 &&& (1 : Int32))), .unset, .unset, .unset, .unset, .unset, .unset, .unset, .unset, .unset] [(.int p3)])) _
    refine XS.iconst X0.here hx rfl (hb hby at_11) ?_
    show Steps p.tables e below (s₁.setTop (mkF m 12 #[.val (.int p1), .val (.int p2), .val (.int p3), .val (.int p4), .val (.int p5), .val (.long q6), .second, .val (.int (p1 &&& (3 : Int32))), .val (.int (p2 &&& (1 : Int32))), .unset, .unset, .unset, .unset, .unset, .unset, .unset, .unset, .unset] [(.int (3 : Int32)), (.int p3)])) _
    refine XS.iand X0.here hx rfl (hb hby at_12) rfl ?_
    show Steps p.tables e below (s₁.setTop (mkF m 13 #[.val (.int p1), .val (.int p2), .val (.int p3), .val (.int p4), .val (.int p5), .val (.long q6), .second, .val (.int (p1 &&& (3 : Int32))), .val (.int (p2 &&& (1 : Int32))), .unset, .unset, .unset, .unset, .unset, .unset, .unset, .unset, .unset] [(.int (p3 &&& (3 : Int32)))])) _
    refine XS.istore X0.here hx rfl (hb hby at_13) rfl (l' := #[.val (.int p1), .val (.int p2), .val (.int p3), .val (.int p4), .val (.int p5), .val (.long q6), .second, .val (.int (p1 &&& (3 : Int32))), .val (.int (p2 &&& (1 : Int32))), .val (.int (p3 &&& (3 : Int32))), .unset, .unset, .unset, .unset, .unset, .unset, .unset, .unset]) rfl ?_
    show Steps p.tables e below (s₁.setTop (mkF m 15 #[.val (.int p1), .val (.int p2), .val (.int p3), .val (.int p4), .val (.int p5), .val (.long q6), .second, .val (.int (p1 &&& (3 : Int32))), .val (.int (p2 &&& (1 : Int32))), .val (.int (p3 &&& (3 : Int32))), .unset, .unset, .unset, .unset, .unset, .unset, .unset, .unset] [])) _
    refine XS.iloadN X0.here hx rfl (hb hby at_15) rfl ?_
    show Steps p.tables e below (s₁.setTop (mkF m 16 #[.val (.int p1), .val (.int p2), .val (.int p3), .val (.int p4), .val (.int p5), .val (.long q6), .second, .val (.int (p1 &&& (3 : Int32))), .val (.int (p2 &&& (1 : Int32))), .val (.int (p3 &&& (3 : Int32))), .unset, .unset, .unset, .unset, .unset, .unset, .unset, .unset] [(.int p4)])) _
    refine XS.bipush X0.here hx rfl (hb hby at_16) ?_
    show Steps p.tables e below (s₁.setTop (mkF m 18 #[.val (.int p1), .val (.int p2), .val (.int p3), .val (.int p4), .val (.int p5), .val (.long q6), .second, .val (.int (p1 &&& (3 : Int32))), .val (.int (p2 &&& (1 : Int32))), .val (.int (p3 &&& (3 : Int32))), .unset, .unset, .unset, .unset, .unset, .unset, .unset, .unset] [(.int (7 : Int32)), (.int p4)])) _
    refine XS.iand X0.here hx rfl (hb hby at_18) rfl ?_
    show Steps p.tables e below (s₁.setTop (mkF m 19 #[.val (.int p1), .val (.int p2), .val (.int p3), .val (.int p4), .val (.int p5), .val (.long q6), .second, .val (.int (p1 &&& (3 : Int32))), .val (.int (p2 &&& (1 : Int32))), .val (.int (p3 &&& (3 : Int32))), .unset, .unset, .unset, .unset, .unset, .unset, .unset, .unset] [(.int (p4 &&& (7 : Int32)))])) _
    refine XS.istore X0.here hx rfl (hb hby at_19) rfl (l' := #[.val (.int p1), .val (.int p2), .val (.int p3), .val (.int p4), .val (.int p5), .val (.long q6), .second, .val (.int (p1 &&& (3 : Int32))), .val (.int (p2 &&& (1 : Int32))), .val (.int (p3 &&& (3 : Int32))), .val (.int (p4 &&& (7 : Int32))), .unset, .unset, .unset, .unset, .unset, .unset, .unset]) rfl ?_
    show Steps p.tables e below (s₁.setTop (mkF m 21 #[.val (.int p1), .val (.int p2), .val (.int p3), .val (.int p4), .val (.int p5), .val (.long q6), .second, .val (.int (p1 &&& (3 : Int32))), .val (.int (p2 &&& (1 : Int32))), .val (.int (p3 &&& (3 : Int32))), .val (.int (p4 &&& (7 : Int32))), .unset, .unset, .unset, .unset, .unset, .unset, .unset] [])) _
    refine XS.iload X0.here hx rfl (hb hby at_21) rfl ?_
    show Steps p.tables e below (s₁.setTop (mkF m 23 #[.val (.int p1), .val (.int p2), .val (.int p3), .val (.int p4), .val (.int p5), .val (.long q6), .second, .val (.int (p1 &&& (3 : Int32))), .val (.int (p2 &&& (1 : Int32))), .val (.int (p3 &&& (3 : Int32))), .val (.int (p4 &&& (7 : Int32))), .unset, .unset, .unset, .unset, .unset, .unset, .unset] [(.int p5)])) _
    refine XS.sipush X0.here hx rfl (hb hby at_23) ?_
    show Steps p.tables e below (s₁.setTop (mkF m 26 #[.val (.int p1), .val (.int p2), .val (.int p3), .val (.int p4), .val (.int p5), .val (.long q6), .second, .val (.int (p1 &&& (3 : Int32))), .val (.int (p2 &&& (1 : Int32))), .val (.int (p3 &&& (3 : Int32))), .val (.int (p4 &&& (7 : Int32))), .unset, .unset, .unset, .unset, .unset, .unset, .unset] [(.int (255 : Int32)), (.int p5)])) _
    refine XS.iand X0.here hx rfl (hb hby at_26) rfl ?_
    show Steps p.tables e below (s₁.setTop (mkF m 27 #[.val (.int p1), .val (.int p2), .val (.int p3), .val (.int p4), .val (.int p5), .val (.long q6), .second, .val (.int (p1 &&& (3 : Int32))), .val (.int (p2 &&& (1 : Int32))), .val (.int (p3 &&& (3 : Int32))), .val (.int (p4 &&& (7 : Int32))), .unset, .unset, .unset, .unset, .unset, .unset, .unset] [(.int (p5 &&& (255 : Int32)))])) _
    refine XS.istore X0.here hx rfl (hb hby at_27) rfl (l' := #[.val (.int p1), .val (.int p2), .val (.int p3), .val (.int p4), .val (.int p5), .val (.long q6), .second, .val (.int (p1 &&& (3 : Int32))), .val (.int (p2 &&& (1 : Int32))), .val (.int (p3 &&& (3 : Int32))), .val (.int (p4 &&& (7 : Int32))), .val (.int (p5 &&& (255 : Int32))), .unset, .unset, .unset, .unset, .unset, .unset]) rfl ?_
    show Steps p.tables e below (s₁.setTop (mkF m 29 #[.val (.int p1), .val (.int p2), .val (.int p3), .val (.int p4), .val (.int p5), .val (.long q6), .second, .val (.int (p1 &&& (3 : Int32))), .val (.int (p2 &&& (1 : Int32))), .val (.int (p3 &&& (3 : Int32))), .val (.int (p4 &&& (7 : Int32))), .val (.int (p5 &&& (255 : Int32))), .unset, .unset, .unset, .unset, .unset, .unset] [])) _
    refine XS.iload X0.here hx rfl (hb hby at_29) rfl ?_
    show Steps p.tables e below (s₁.setTop (mkF m 31 #[.val (.int p1), .val (.int p2), .val (.int p3), .val (.int p4), .val (.int p5), .val (.long q6), .second, .val (.int (p1 &&& (3 : Int32))), .val (.int (p2 &&& (1 : Int32))), .val (.int (p3 &&& (3 : Int32))), .val (.int (p4 &&& (7 : Int32))), .val (.int (p5 &&& (255 : Int32))), .unset, .unset, .unset, .unset, .unset, .unset] [(.int (p1 &&& (3 : Int32)))])) _
    refine XS.iconst X0.here hx rfl (hb hby at_31) ?_
    show Steps p.tables e below (s₁.setTop (mkF m 32 #[.val (.int p1), .val (.int p2), .val (.int p3), .val (.int p4), .val (.int p5), .val (.long q6), .second, .val (.int (p1 &&& (3 : Int32))), .val (.int (p2 &&& (1 : Int32))), .val (.int (p3 &&& (3 : Int32))), .val (.int (p4 &&& (7 : Int32))), .val (.int (p5 &&& (255 : Int32))), .unset, .unset, .unset, .unset, .unset, .unset] [(.int (4 : Int32)), (.int (p1 &&& (3 : Int32)))])) _
    refine XS.iload X0.here hx rfl (hb hby at_32) rfl ?_
    show Steps p.tables e below (s₁.setTop (mkF m 34 #[.val (.int p1), .val (.int p2), .val (.int p3), .val (.int p4), .val (.int p5), .val (.long q6), .second, .val (.int (p1 &&& (3 : Int32))), .val (.int (p2 &&& (1 : Int32))), .val (.int (p3 &&& (3 : Int32))), .val (.int (p4 &&& (7 : Int32))), .val (.int (p5 &&& (255 : Int32))), .unset, .unset, .unset, .unset, .unset, .unset] [(.int (p2 &&& (1 : Int32))), (.int (4 : Int32)), (.int (p1 &&& (3 : Int32)))])) _
    refine XS.imul X0.here hx rfl (hb hby at_34) rfl ?_
    show Steps p.tables e below (s₁.setTop (mkF m 35 #[.val (.int p1), .val (.int p2), .val (.int p3), .val (.int p4), .val (.int p5), .val (.long q6), .second, .val (.int (p1 &&& (3 : Int32))), .val (.int (p2 &&& (1 : Int32))), .val (.int (p3 &&& (3 : Int32))), .val (.int (p4 &&& (7 : Int32))), .val (.int (p5 &&& (255 : Int32))), .unset, .unset, .unset, .unset, .unset, .unset] [(.int ((4 : Int32) * (p2 &&& (1 : Int32)))), (.int (p1 &&& (3 : Int32)))])) _
    refine XS.iadd X0.here hx rfl (hb hby at_35) rfl ?_
    show Steps p.tables e below (s₁.setTop (mkF m 36 #[.val (.int p1), .val (.int p2), .val (.int p3), .val (.int p4), .val (.int p5), .val (.long q6), .second, .val (.int (p1 &&& (3 : Int32))), .val (.int (p2 &&& (1 : Int32))), .val (.int (p3 &&& (3 : Int32))), .val (.int (p4 &&& (7 : Int32))), .val (.int (p5 &&& (255 : Int32))), .unset, .unset, .unset, .unset, .unset, .unset] [(.int ((p1 &&& (3 : Int32)) + ((4 : Int32) * (p2 &&& (1 : Int32)))))])) _
    refine XS.bipush X0.here hx rfl (hb hby at_36) ?_
    show Steps p.tables e below (s₁.setTop (mkF m 38 #[.val (.int p1), .val (.int p2), .val (.int p3), .val (.int p4), .val (.int p5), .val (.long q6), .second, .val (.int (p1 &&& (3 : Int32))), .val (.int (p2 &&& (1 : Int32))), .val (.int (p3 &&& (3 : Int32))), .val (.int (p4 &&& (7 : Int32))), .val (.int (p5 &&& (255 : Int32))), .unset, .unset, .unset, .unset, .unset, .unset] [(.int (8 : Int32)), (.int ((p1 &&& (3 : Int32)) + ((4 : Int32) * (p2 &&& (1 : Int32)))))])) _
    refine XS.iload X0.here hx rfl (hb hby at_38) rfl ?_
    show Steps p.tables e below (s₁.setTop (mkF m 40 #[.val (.int p1), .val (.int p2), .val (.int p3), .val (.int p4), .val (.int p5), .val (.long q6), .second, .val (.int (p1 &&& (3 : Int32))), .val (.int (p2 &&& (1 : Int32))), .val (.int (p3 &&& (3 : Int32))), .val (.int (p4 &&& (7 : Int32))), .val (.int (p5 &&& (255 : Int32))), .unset, .unset, .unset, .unset, .unset, .unset] [(.int (p3 &&& (3 : Int32))), (.int (8 : Int32)), (.int ((p1 &&& (3 : Int32)) + ((4 : Int32) * (p2 &&& (1 : Int32)))))])) _
    refine XS.imul X0.here hx rfl (hb hby at_40) rfl ?_
    show Steps p.tables e below (s₁.setTop (mkF m 41 #[.val (.int p1), .val (.int p2), .val (.int p3), .val (.int p4), .val (.int p5), .val (.long q6), .second, .val (.int (p1 &&& (3 : Int32))), .val (.int (p2 &&& (1 : Int32))), .val (.int (p3 &&& (3 : Int32))), .val (.int (p4 &&& (7 : Int32))), .val (.int (p5 &&& (255 : Int32))), .unset, .unset, .unset, .unset, .unset, .unset] [(.int ((8 : Int32) * (p3 &&& (3 : Int32)))), (.int ((p1 &&& (3 : Int32)) + ((4 : Int32) * (p2 &&& (1 : Int32)))))])) _
    refine XS.iadd X0.here hx rfl (hb hby at_41) rfl ?_
    show Steps p.tables e below (s₁.setTop (mkF m 42 #[.val (.int p1), .val (.int p2), .val (.int p3), .val (.int p4), .val (.int p5), .val (.long q6), .second, .val (.int (p1 &&& (3 : Int32))), .val (.int (p2 &&& (1 : Int32))), .val (.int (p3 &&& (3 : Int32))), .val (.int (p4 &&& (7 : Int32))), .val (.int (p5 &&& (255 : Int32))), .unset, .unset, .unset, .unset, .unset, .unset] [(.int (((p1 &&& (3 : Int32)) + ((4 : Int32) * (p2 &&& (1 : Int32)))) + ((8 : Int32) * (p3 &&& (3 : Int32)))))])) _
    refine XS.bipush X0.here hx rfl (hb hby at_42) ?_
    show Steps p.tables e below (s₁.setTop (mkF m 44 #[.val (.int p1), .val (.int p2), .val (.int p3), .val (.int p4), .val (.int p5), .val (.long q6), .second, .val (.int (p1 &&& (3 : Int32))), .val (.int (p2 &&& (1 : Int32))), .val (.int (p3 &&& (3 : Int32))), .val (.int (p4 &&& (7 : Int32))), .val (.int (p5 &&& (255 : Int32))), .unset, .unset, .unset, .unset, .unset, .unset] [(.int (32 : Int32)), (.int (((p1 &&& (3 : Int32)) + ((4 : Int32) * (p2 &&& (1 : Int32)))) + ((8 : Int32) * (p3 &&& (3 : Int32)))))])) _
    refine XS.iload X0.here hx rfl (hb hby at_44) rfl ?_
    show Steps p.tables e below (s₁.setTop (mkF m 46 #[.val (.int p1), .val (.int p2), .val (.int p3), .val (.int p4), .val (.int p5), .val (.long q6), .second, .val (.int (p1 &&& (3 : Int32))), .val (.int (p2 &&& (1 : Int32))), .val (.int (p3 &&& (3 : Int32))), .val (.int (p4 &&& (7 : Int32))), .val (.int (p5 &&& (255 : Int32))), .unset, .unset, .unset, .unset, .unset, .unset] [(.int (p4 &&& (7 : Int32))), (.int (32 : Int32)), (.int (((p1 &&& (3 : Int32)) + ((4 : Int32) * (p2 &&& (1 : Int32)))) + ((8 : Int32) * (p3 &&& (3 : Int32)))))])) _
    refine XS.imul X0.here hx rfl (hb hby at_46) rfl ?_
    show Steps p.tables e below (s₁.setTop (mkF m 47 #[.val (.int p1), .val (.int p2), .val (.int p3), .val (.int p4), .val (.int p5), .val (.long q6), .second, .val (.int (p1 &&& (3 : Int32))), .val (.int (p2 &&& (1 : Int32))), .val (.int (p3 &&& (3 : Int32))), .val (.int (p4 &&& (7 : Int32))), .val (.int (p5 &&& (255 : Int32))), .unset, .unset, .unset, .unset, .unset, .unset] [(.int ((32 : Int32) * (p4 &&& (7 : Int32)))), (.int (((p1 &&& (3 : Int32)) + ((4 : Int32) * (p2 &&& (1 : Int32)))) + ((8 : Int32) * (p3 &&& (3 : Int32)))))])) _
    refine XS.iadd X0.here hx rfl (hb hby at_47) rfl ?_
    show Steps p.tables e below (s₁.setTop (mkF m 48 #[.val (.int p1), .val (.int p2), .val (.int p3), .val (.int p4), .val (.int p5), .val (.long q6), .second, .val (.int (p1 &&& (3 : Int32))), .val (.int (p2 &&& (1 : Int32))), .val (.int (p3 &&& (3 : Int32))), .val (.int (p4 &&& (7 : Int32))), .val (.int (p5 &&& (255 : Int32))), .unset, .unset, .unset, .unset, .unset, .unset] [(.int ((((p1 &&& (3 : Int32)) + ((4 : Int32) * (p2 &&& (1 : Int32)))) + ((8 : Int32) * (p3 &&& (3 : Int32)))) + ((32 : Int32) * (p4 &&& (7 : Int32)))))])) _
    refine XS.istore X0.here hx rfl (hb hby at_48) rfl (l' := #[.val (.int p1), .val (.int p2), .val (.int p3), .val (.int p4), .val (.int p5), .val (.long q6), .second, .val (.int (p1 &&& (3 : Int32))), .val (.int (p2 &&& (1 : Int32))), .val (.int (p3 &&& (3 : Int32))), .val (.int (p4 &&& (7 : Int32))), .val (.int (p5 &&& (255 : Int32))), .val (.int (t0_0 p1 p2 p3 p4)), .unset, .unset, .unset, .unset, .unset]) rfl ?_
    show Steps p.tables e below (s₁.setTop (mkF m 50 #[.val (.int p1), .val (.int p2), .val (.int p3), .val (.int p4), .val (.int p5), .val (.long q6), .second, .val (.int (p1 &&& (3 : Int32))), .val (.int (p2 &&& (1 : Int32))), .val (.int (p3 &&& (3 : Int32))), .val (.int (p4 &&& (7 : Int32))), .val (.int (p5 &&& (255 : Int32))), .val (.int (t0_0 p1 p2 p3 p4)), .unset, .unset, .unset, .unset, .unset] [])) _
    refine XS.iconst X0.here hx rfl (hb hby at_50) ?_
    show Steps p.tables e below (s₁.setTop (mkF m 51 #[.val (.int p1), .val (.int p2), .val (.int p3), .val (.int p4), .val (.int p5), .val (.long q6), .second, .val (.int (p1 &&& (3 : Int32))), .val (.int (p2 &&& (1 : Int32))), .val (.int (p3 &&& (3 : Int32))), .val (.int (p4 &&& (7 : Int32))), .val (.int (p5 &&& (255 : Int32))), .val (.int (t0_0 p1 p2 p3 p4)), .unset, .unset, .unset, .unset, .unset] [(.int (0 : Int32))])) _
    refine st7 _ ?_
    show Steps p.tables e below (T7.setTop (mkF m 53 #[.val (.int p1), .val (.int p2), .val (.int p3), .val (.int p4), .val (.int p5), .val (.long q6), .second, .val (.int (p1 &&& (3 : Int32))), .val (.int (p2 &&& (1 : Int32))), .val (.int (p3 &&& (3 : Int32))), .val (.int (p4 &&& (7 : Int32))), .val (.int (p5 &&& (255 : Int32))), .val (.int (t0_0 p1 p2 p3 p4)), .unset, .unset, .unset, .unset, .unset] [(.ref b7)])) _
    refine XS.astore X7.here hx rfl (hb hby at_53) rfl rfl (l' := #[.val (.int p1), .val (.int p2), .val (.int p3), .val (.int p4), .val (.int p5), .val (.long q6), .second, .val (.int (p1 &&& (3 : Int32))), .val (.int (p2 &&& (1 : Int32))), .val (.int (p3 &&& (3 : Int32))), .val (.int (p4 &&& (7 : Int32))), .val (.int (p5 &&& (255 : Int32))), .val (.int (t0_0 p1 p2 p3 p4)), .val (.ref b7), .unset, .unset, .unset, .unset]) rfl ?_
    show Steps p.tables e below (T7.setTop (mkF m 55 #[.val (.int p1), .val (.int p2), .val (.int p3), .val (.int p4), .val (.int p5), .val (.long q6), .second, .val (.int (p1 &&& (3 : Int32))), .val (.int (p2 &&& (1 : Int32))), .val (.int (p3 &&& (3 : Int32))), .val (.int (p4 &&& (7 : Int32))), .val (.int (p5 &&& (255 : Int32))), .val (.int (t0_0 p1 p2 p3 p4)), .val (.ref b7), .unset, .unset, .unset, .unset] [])) _
    refine st8 _ ?_
    show Steps p.tables e below (T8.setTop (mkF m 58 #[.val (.int p1), .val (.int p2), .val (.int p3), .val (.int p4), .val (.int p5), .val (.long q6), .second, .val (.int (p1 &&& (3 : Int32))), .val (.int (p2 &&& (1 : Int32))), .val (.int (p3 &&& (3 : Int32))), .val (.int (p4 &&& (7 : Int32))), .val (.int (p5 &&& (255 : Int32))), .val (.int (t0_0 p1 p2 p3 p4)), .val (.ref b7), .unset, .unset, .unset, .unset] [(.ref b8)])) _
    refine XS.dup X8.here hx rfl (hb hby at_58) rfl rfl ?_
    show Steps p.tables e below (T8.setTop (mkF m 59 #[.val (.int p1), .val (.int p2), .val (.int p3), .val (.int p4), .val (.int p5), .val (.long q6), .second, .val (.int (p1 &&& (3 : Int32))), .val (.int (p2 &&& (1 : Int32))), .val (.int (p3 &&& (3 : Int32))), .val (.int (p4 &&& (7 : Int32))), .val (.int (p5 &&& (255 : Int32))), .val (.int (t0_0 p1 p2 p3 p4)), .val (.ref b7), .unset, .unset, .unset, .unset] [(.ref b8), (.ref b8)])) _
    refine XS.iload X8.here hx rfl (hb hby at_59) rfl ?_
    show Steps p.tables e below (T8.setTop (mkF m 61 #[.val (.int p1), .val (.int p2), .val (.int p3), .val (.int p4), .val (.int p5), .val (.long q6), .second, .val (.int (p1 &&& (3 : Int32))), .val (.int (p2 &&& (1 : Int32))), .val (.int (p3 &&& (3 : Int32))), .val (.int (p4 &&& (7 : Int32))), .val (.int (p5 &&& (255 : Int32))), .val (.int (t0_0 p1 p2 p3 p4)), .val (.ref b7), .unset, .unset, .unset, .unset] [(.int (t0_0 p1 p2 p3 p4)), (.ref b8), (.ref b8)])) _
    refine XS.iload X8.here hx rfl (hb hby at_61) rfl ?_
    show Steps p.tables e below (T8.setTop (mkF m 63 #[.val (.int p1), .val (.int p2), .val (.int p3), .val (.int p4), .val (.int p5), .val (.long q6), .second, .val (.int (p1 &&& (3 : Int32))), .val (.int (p2 &&& (1 : Int32))), .val (.int (p3 &&& (3 : Int32))), .val (.int (p4 &&& (7 : Int32))), .val (.int (p5 &&& (255 : Int32))), .val (.int (t0_0 p1 p2 p3 p4)), .val (.ref b7), .unset, .unset, .unset, .unset] [(.int (p5 &&& (255 : Int32))), (.int (t0_0 p1 p2 p3 p4)), (.ref b8), (.ref b8)])) _
    refine XS.lload X8.here hx rfl (hb hby at_63) rfl ?_
    show Steps p.tables e below (T8.setTop (mkF m 65 #[.val (.int p1), .val (.int p2), .val (.int p3), .val (.int p4), .val (.int p5), .val (.long q6), .second, .val (.int (p1 &&& (3 : Int32))), .val (.int (p2 &&& (1 : Int32))), .val (.int (p3 &&& (3 : Int32))), .val (.int (p4 &&& (7 : Int32))), .val (.int (p5 &&& (255 : Int32))), .val (.int (t0_0 p1 p2 p3 p4)), .val (.ref b7), .unset, .unset, .unset, .unset] [(.long q6), (.int (p5 &&& (255 : Int32))), (.int (t0_0 p1 p2 p3 p4)), (.ref b8), (.ref b8)])) _
    refine XS.aload X8.here hx rfl (hb hby at_65) rfl rfl ?_
    show Steps p.tables e below (T8.setTop (mkF m 67 #[.val (.int p1), .val (.int p2), .val (.int p3), .val (.int p4), .val (.int p5), .val (.long q6), .second, .val (.int (p1 &&& (3 : Int32))), .val (.int (p2 &&& (1 : Int32))), .val (.int (p3 &&& (3 : Int32))), .val (.int (p4 &&& (7 : Int32))), .val (.int (p5 &&& (255 : Int32))), .val (.int (t0_0 p1 p2 p3 p4)), .val (.ref b7), .unset, .unset, .unset, .unset] [(.ref b7), (.long q6), (.int (p5 &&& (255 : Int32))), (.int (t0_0 p1 p2 p3 p4)), (.ref b8), (.ref b8)])) _
    refine st9.trans ?_
    show Steps p.tables e below (T9.setTop (mkF m 70 #[.val (.int p1), .val (.int p2), .val (.int p3), .val (.int p4), .val (.int p5), .val (.long q6), .second, .val (.int (p1 &&& (3 : Int32))), .val (.int (p2 &&& (1 : Int32))), .val (.int (p3 &&& (3 : Int32))), .val (.int (p4 &&& (7 : Int32))), .val (.int (p5 &&& (255 : Int32))), .val (.int (t0_0 p1 p2 p3 p4)), .val (.ref b7), .unset, .unset, .unset, .unset] [(.ref b8)])) _
    refine XS.astore X9.here hx rfl (hb hby at_70) rfl rfl (l' := #[.val (.int p1), .val (.int p2), .val (.int p3), .val (.int p4), .val (.int p5), .val (.long q6), .second, .val (.int (p1 &&& (3 : Int32))), .val (.int (p2 &&& (1 : Int32))), .val (.int (p3 &&& (3 : Int32))), .val (.int (p4 &&& (7 : Int32))), .val (.int (p5 &&& (255 : Int32))), .val (.int (t0_0 p1 p2 p3 p4)), .val (.ref b7), .val (.ref b8), .unset, .unset, .unset]) rfl ?_
    show Steps p.tables e below (T9.setTop (mkF m 72 #[.val (.int p1), .val (.int p2), .val (.int p3), .val (.int p4), .val (.int p5), .val (.long q6), .second, .val (.int (p1 &&& (3 : Int32))), .val (.int (p2 &&& (1 : Int32))), .val (.int (p3 &&& (3 : Int32))), .val (.int (p4 &&& (7 : Int32))), .val (.int (p5 &&& (255 : Int32))), .val (.int (t0_0 p1 p2 p3 p4)), .val (.ref b7), .val (.ref b8), .unset, .unset, .unset] [])) _
    refine XS.iload X9.here hx rfl (hb hby at_72) rfl ?_
    show Steps p.tables e below (T9.setTop (mkF m 74 #[.val (.int p1), .val (.int p2), .val (.int p3), .val (.int p4), .val (.int p5), .val (.long q6), .second, .val (.int (p1 &&& (3 : Int32))), .val (.int (p2 &&& (1 : Int32))), .val (.int (p3 &&& (3 : Int32))), .val (.int (p4 &&& (7 : Int32))), .val (.int (p5 &&& (255 : Int32))), .val (.int (t0_0 p1 p2 p3 p4)), .val (.ref b7), .val (.ref b8), .unset, .unset, .unset] [(.int (p2 &&& (1 : Int32)))])) _
    refine XS.iconst X9.here hx rfl (hb hby at_74) ?_
    show Steps p.tables e below (T9.setTop (mkF m 75 #[.val (.int p1), .val (.int p2), .val (.int p3), .val (.int p4), .val (.int p5), .val (.long q6), .second, .val (.int (p1 &&& (3 : Int32))), .val (.int (p2 &&& (1 : Int32))), .val (.int (p3 &&& (3 : Int32))), .val (.int (p4 &&& (7 : Int32))), .val (.int (p5 &&& (255 : Int32))), .val (.int (t0_0 p1 p2 p3 p4)), .val (.ref b7), .val (.ref b8), .unset, .unset, .unset] [(.int (1 : Int32)), (.int (p2 &&& (1 : Int32)))])) _
    refine XS.icmpYes X9.here hx rfl (pc0 := 75) (pc' := 82) rfl (hb hby at_75) rfl (feq hc75).2 (by decide) (by decide) ?_
    show Steps p.tables e below (T9.setTop (mkF m 82 #[.val (.int p1), .val (.int p2), .val (.int p3), .val (.int p4), .val (.int p5), .val (.long q6), .second, .val (.int (p1 &&& (3 : Int32))), .val (.int (p2 &&& (1 : Int32))), .val (.int (p3 &&& (3 : Int32))), .val (.int (p4 &&& (7 : Int32))), .val (.int (p5 &&& (255 : Int32))), .val (.int (t0_0 p1 p2 p3 p4)), .val (.ref b7), .val (.ref b8), .unset, .unset, .unset] [])) _
    refine XS.iconst X9.here hx rfl (hb hby at_82) ?_
    show Steps p.tables e below (T9.setTop (mkF m 83 #[.val (.int p1), .val (.int p2), .val (.int p3), .val (.int p4), .val (.int p5), .val (.long q6), .second, .val (.int (p1 &&& (3 : Int32))), .val (.int (p2 &&& (1 : Int32))), .val (.int (p3 &&& (3 : Int32))), .val (.int (p4 &&& (7 : Int32))), .val (.int (p5 &&& (255 : Int32))), .val (.int (t0_0 p1 p2 p3 p4)), .val (.ref b7), .val (.ref b8), .unset, .unset, .unset] [(.int (0 : Int32))])) _
    refine XS.istore X9.here hx rfl (hb hby at_83) rfl (l' := #[.val (.int p1), .val (.int p2), .val (.int p3), .val (.int p4), .val (.int p5), .val (.long q6), .second, .val (.int (p1 &&& (3 : Int32))), .val (.int (p2 &&& (1 : Int32))), .val (.int (p3 &&& (3 : Int32))), .val (.int (p4 &&& (7 : Int32))), .val (.int (p5 &&& (255 : Int32))), .val (.int (t0_0 p1 p2 p3 p4)), .val (.ref b7), .val (.ref b8), .val (.int (0 : Int32)), .unset, .unset]) rfl ?_
    show Steps p.tables e below (T9.setTop (mkF m 85 #[.val (.int p1), .val (.int p2), .val (.int p3), .val (.int p4), .val (.int p5), .val (.long q6), .second, .val (.int (p1 &&& (3 : Int32))), .val (.int (p2 &&& (1 : Int32))), .val (.int (p3 &&& (3 : Int32))), .val (.int (p4 &&& (7 : Int32))), .val (.int (p5 &&& (255 : Int32))), .val (.int (t0_0 p1 p2 p3 p4)), .val (.ref b7), .val (.ref b8), .val (.int (0 : Int32)), .unset, .unset] [])) _
    refine XS.aload X9.here hx rfl (hb hby at_85) rfl rfl ?_
    show Steps p.tables e below (T9.setTop (mkF m 87 #[.val (.int p1), .val (.int p2), .val (.int p3), .val (.int p4), .val (.int p5), .val (.long q6), .second, .val (.int (p1 &&& (3 : Int32))), .val (.int (p2 &&& (1 : Int32))), .val (.int (p3 &&& (3 : Int32))), .val (.int (p4 &&& (7 : Int32))), .val (.int (p5 &&& (255 : Int32))), .val (.int (t0_0 p1 p2 p3 p4)), .val (.ref b7), .val (.ref b8), .val (.int (0 : Int32)), .unset, .unset] [(.ref b8)])) _
    refine st10.trans ?_
    show Steps p.tables e below (T10.setTop (mkF m 90 #[.val (.int p1), .val (.int p2), .val (.int p3), .val (.int p4), .val (.int p5), .val (.long q6), .second, .val (.int (p1 &&& (3 : Int32))), .val (.int (p2 &&& (1 : Int32))), .val (.int (p3 &&& (3 : Int32))), .val (.int (p4 &&& (7 : Int32))), .val (.int (p5 &&& (255 : Int32))), .val (.int (t0_0 p1 p2 p3 p4)), .val (.ref b7), .val (.ref b8), .val (.int (0 : Int32)), .unset, .unset] [(.int (F4 (t0_0 p1 p2 p3 p4)))])) _
    refine XS.iload X10.here hx rfl (hb hby at_90) rfl ?_
    show Steps p.tables e below (T10.setTop (mkF m 92 #[.val (.int p1), .val (.int p2), .val (.int p3), .val (.int p4), .val (.int p5), .val (.long q6), .second, .val (.int (p1 &&& (3 : Int32))), .val (.int (p2 &&& (1 : Int32))), .val (.int (p3 &&& (3 : Int32))), .val (.int (p4 &&& (7 : Int32))), .val (.int (p5 &&& (255 : Int32))), .val (.int (t0_0 p1 p2 p3 p4)), .val (.ref b7), .val (.ref b8), .val (.int (0 : Int32)), .unset, .unset] [(.int (0 : Int32)), (.int (F4 (t0_0 p1 p2 p3 p4)))])) _
    refine XS.icmpYes X10.here hx rfl (pc0 := 92) (pc' := 97) rfl (hb hby at_92) rfl (teq (show (F4 (t0_0 p1 p2 p3 p4)) = (0 : Int32) from by first | exact (own_92 p1 p2 p3 p4).trans (if_pos hc75) | exact (own_92 p1 p2 p3 p4).trans (if_neg hc75))).1 (by decide) (by decide) ?_
    show Steps p.tables e below (T10.setTop (mkF m 97 #[.val (.int p1), .val (.int p2), .val (.int p3), .val (.int p4), .val (.int p5), .val (.long q6), .second, .val (.int (p1 &&& (3 : Int32))), .val (.int (p2 &&& (1 : Int32))), .val (.int (p3 &&& (3 : Int32))), .val (.int (p4 &&& (7 : Int32))), .val (.int (p5 &&& (255 : Int32))), .val (.int (t0_0 p1 p2 p3 p4)), .val (.ref b7), .val (.ref b8), .val (.int (0 : Int32)), .unset, .unset] [])) _
    refine XS.iload X10.here hx rfl (hb hby at_97) rfl ?_
    show Steps p.tables e below (T10.setTop (mkF m 99 #[.val (.int p1), .val (.int p2), .val (.int p3), .val (.int p4), .val (.int p5), .val (.long q6), .second, .val (.int (p1 &&& (3 : Int32))), .val (.int (p2 &&& (1 : Int32))), .val (.int (p3 &&& (3 : Int32))), .val (.int (p4 &&& (7 : Int32))), .val (.int (p5 &&& (255 : Int32))), .val (.int (t0_0 p1 p2 p3 p4)), .val (.ref b7), .val (.ref b8), .val (.int (0 : Int32)), .unset, .unset] [(.int (p4 &&& (7 : Int32)))])) _
    refine XS.ifYes X10.here hx rfl (pc0 := 99) (pc' := 106) rfl (hb hby at_99) rfl ((if0 _ _).trans (feq hc99).2) (by decide) (by decide) ?_
    show Steps p.tables e below (T10.setTop (mkF m 106 #[.val (.int p1), .val (.int p2), .val (.int p3), .val (.int p4), .val (.int p5), .val (.long q6), .second, .val (.int (p1 &&& (3 : Int32))), .val (.int (p2 &&& (1 : Int32))), .val (.int (p3 &&& (3 : Int32))), .val (.int (p4 &&& (7 : Int32))), .val (.int (p5 &&& (255 : Int32))), .val (.int (t0_0 p1 p2 p3 p4)), .val (.ref b7), .val (.ref b8), .val (.int (0 : Int32)), .unset, .unset] [])) _
    refine XS.iload X10.here hx rfl (hb hby at_106) rfl ?_
    show Steps p.tables e below (T10.setTop (mkF m 108 #[.val (.int p1), .val (.int p2), .val (.int p3), .val (.int p4), .val (.int p5), .val (.long q6), .second, .val (.int (p1 &&& (3 : Int32))), .val (.int (p2 &&& (1 : Int32))), .val (.int (p3 &&& (3 : Int32))), .val (.int (p4 &&& (7 : Int32))), .val (.int (p5 &&& (255 : Int32))), .val (.int (t0_0 p1 p2 p3 p4)), .val (.ref b7), .val (.ref b8), .val (.int (0 : Int32)), .unset, .unset] [(.int (p4 &&& (7 : Int32)))])) _
    refine XS.istore X10.here hx rfl (hb hby at_108) rfl (l' := #[.val (.int p1), .val (.int p2), .val (.int p3), .val (.int p4), .val (.int p5), .val (.long q6), .second, .val (.int (p1 &&& (3 : Int32))), .val (.int (p2 &&& (1 : Int32))), .val (.int (p3 &&& (3 : Int32))), .val (.int (p4 &&& (7 : Int32))), .val (.int (p5 &&& (255 : Int32))), .val (.int (t0_0 p1 p2 p3 p4)), .val (.ref b7), .val (.ref b8), .val (.int (0 : Int32)), .val (.int (p4 &&& (7 : Int32))), .unset]) rfl ?_
    show Steps p.tables e below (T10.setTop (mkF m 110 #[.val (.int p1), .val (.int p2), .val (.int p3), .val (.int p4), .val (.int p5), .val (.long q6), .second, .val (.int (p1 &&& (3 : Int32))), .val (.int (p2 &&& (1 : Int32))), .val (.int (p3 &&& (3 : Int32))), .val (.int (p4 &&& (7 : Int32))), .val (.int (p5 &&& (255 : Int32))), .val (.int (t0_0 p1 p2 p3 p4)), .val (.ref b7), .val (.ref b8), .val (.int (0 : Int32)), .val (.int (p4 &&& (7 : Int32))), .unset] [])) _
    refine XS.lload X10.here hx rfl (hb hby at_110) rfl ?_
    show Steps p.tables e below (T10.setTop (mkF m 112 #[.val (.int p1), .val (.int p2), .val (.int p3), .val (.int p4), .val (.int p5), .val (.long q6), .second, .val (.int (p1 &&& (3 : Int32))), .val (.int (p2 &&& (1 : Int32))), .val (.int (p3 &&& (3 : Int32))), .val (.int (p4 &&& (7 : Int32))), .val (.int (p5 &&& (255 : Int32))), .val (.int (t0_0 p1 p2 p3 p4)), .val (.ref b7), .val (.ref b8), .val (.int (0 : Int32)), .val (.int (p4 &&& (7 : Int32))), .unset] [(.long q6)])) _
    refine XS.iload X10.here hx rfl (hb hby at_112) rfl ?_
    show Steps p.tables e below (T10.setTop (mkF m 114 #[.val (.int p1), .val (.int p2), .val (.int p3), .val (.int p4), .val (.int p5), .val (.long q6), .second, .val (.int (p1 &&& (3 : Int32))), .val (.int (p2 &&& (1 : Int32))), .val (.int (p3 &&& (3 : Int32))), .val (.int (p4 &&& (7 : Int32))), .val (.int (p5 &&& (255 : Int32))), .val (.int (t0_0 p1 p2 p3 p4)), .val (.ref b7), .val (.ref b8), .val (.int (0 : Int32)), .val (.int (p4 &&& (7 : Int32))), .unset] [(.int (p4 &&& (7 : Int32))), (.long q6)])) _
    refine XS.iload X10.here hx rfl (hb hby at_114) rfl ?_
    show Steps p.tables e below (T10.setTop (mkF m 116 #[.val (.int p1), .val (.int p2), .val (.int p3), .val (.int p4), .val (.int p5), .val (.long q6), .second, .val (.int (p1 &&& (3 : Int32))), .val (.int (p2 &&& (1 : Int32))), .val (.int (p3 &&& (3 : Int32))), .val (.int (p4 &&& (7 : Int32))), .val (.int (p5 &&& (255 : Int32))), .val (.int (t0_0 p1 p2 p3 p4)), .val (.ref b7), .val (.ref b8), .val (.int (0 : Int32)), .val (.int (p4 &&& (7 : Int32))), .unset] [(.int (p3 &&& (3 : Int32))), (.int (p4 &&& (7 : Int32))), (.long q6)])) _
    refine XS.aload X10.here hx rfl (hb hby at_116) rfl rfl ?_
    show Steps p.tables e below (T10.setTop (mkF m 118 #[.val (.int p1), .val (.int p2), .val (.int p3), .val (.int p4), .val (.int p5), .val (.long q6), .second, .val (.int (p1 &&& (3 : Int32))), .val (.int (p2 &&& (1 : Int32))), .val (.int (p3 &&& (3 : Int32))), .val (.int (p4 &&& (7 : Int32))), .val (.int (p5 &&& (255 : Int32))), .val (.int (t0_0 p1 p2 p3 p4)), .val (.ref b7), .val (.ref b8), .val (.int (0 : Int32)), .val (.int (p4 &&& (7 : Int32))), .unset] [(.ref b7), (.int (p3 &&& (3 : Int32))), (.int (p4 &&& (7 : Int32))), (.long q6)])) _
    refine st11 _ ?_
    show Steps p.tables e below (T11.setTop (mkF m 121 #[.val (.int p1), .val (.int p2), .val (.int p3), .val (.int p4), .val (.int p5), .val (.long q6), .second, .val (.int (p1 &&& (3 : Int32))), .val (.int (p2 &&& (1 : Int32))), .val (.int (p3 &&& (3 : Int32))), .val (.int (p4 &&& (7 : Int32))), .val (.int (p5 &&& (255 : Int32))), .val (.int (t0_0 p1 p2 p3 p4)), .val (.ref b7), .val (.ref b8), .val (.int (0 : Int32)), .val (.int (p4 &&& (7 : Int32))), .unset] [(.ref b5_11)])) _
    refine XS.astore X11.here hx rfl (hb hby at_121) rfl rfl (l' := #[.val (.int p1), .val (.int p2), .val (.int p3), .val (.int p4), .val (.int p5), .val (.long q6), .second, .val (.int (p1 &&& (3 : Int32))), .val (.int (p2 &&& (1 : Int32))), .val (.int (p3 &&& (3 : Int32))), .val (.int (p4 &&& (7 : Int32))), .val (.int (p5 &&& (255 : Int32))), .val (.int (t0_0 p1 p2 p3 p4)), .val (.ref b7), .val (.ref b8), .val (.int (0 : Int32)), .val (.int (p4 &&& (7 : Int32))), .val (.ref b5_11)]) rfl ?_
    show Steps p.tables e below (T11.setTop (mkF m 123 #[.val (.int p1), .val (.int p2), .val (.int p3), .val (.int p4), .val (.int p5), .val (.long q6), .second, .val (.int (p1 &&& (3 : Int32))), .val (.int (p2 &&& (1 : Int32))), .val (.int (p3 &&& (3 : Int32))), .val (.int (p4 &&& (7 : Int32))), .val (.int (p5 &&& (255 : Int32))), .val (.int (t0_0 p1 p2 p3 p4)), .val (.ref b7), .val (.ref b8), .val (.int (0 : Int32)), .val (.int (p4 &&& (7 : Int32))), .val (.ref b5_11)] [])) _
    refine XS.aload X11.here hx rfl (hb hby at_123) rfl rfl ?_
    show Steps p.tables e below (T11.setTop (mkF m 125 #[.val (.int p1), .val (.int p2), .val (.int p3), .val (.int p4), .val (.int p5), .val (.long q6), .second, .val (.int (p1 &&& (3 : Int32))), .val (.int (p2 &&& (1 : Int32))), .val (.int (p3 &&& (3 : Int32))), .val (.int (p4 &&& (7 : Int32))), .val (.int (p5 &&& (255 : Int32))), .val (.int (t0_0 p1 p2 p3 p4)), .val (.ref b7), .val (.ref b8), .val (.int (0 : Int32)), .val (.int (p4 &&& (7 : Int32))), .val (.ref b5_11)] [(.ref b5_11)])) _
    refine st12.trans ?_
    show Steps p.tables e below (T12.setTop (mkF m 128 #[.val (.int p1), .val (.int p2), .val (.int p3), .val (.int p4), .val (.int p5), .val (.long q6), .second, .val (.int (p1 &&& (3 : Int32))), .val (.int (p2 &&& (1 : Int32))), .val (.int (p3 &&& (3 : Int32))), .val (.int (p4 &&& (7 : Int32))), .val (.int (p5 &&& (255 : Int32))), .val (.int (t0_0 p1 p2 p3 p4)), .val (.ref b7), .val (.ref b8), .val (.int (0 : Int32)), .val (.int (p4 &&& (7 : Int32))), .val (.ref b5_11)] [(.int (F4 (t6_0 (p4 &&& (7 : Int32)) (p3 &&& (3 : Int32)) w_bits_s_REQUEST)))])) _
    refine XS.ifYes X12.here hx rfl (pc0 := 128) (pc' := 133) rfl (hb hby at_128) rfl ((if0 _ _).trans (teq (show (t0_2 p3 p4 w_bits_s_REQUEST) = (0 : Int32) from by rw [hb0]; first | exact own_rq _ (own_m3 p3) _ (own_m7 p4) | exact own_rq _ (own_m3 p3) 1 (by decide))).1) (by decide) (by decide) ?_
    show Steps p.tables e below (T12.setTop (mkF m 133 #[.val (.int p1), .val (.int p2), .val (.int p3), .val (.int p4), .val (.int p5), .val (.long q6), .second, .val (.int (p1 &&& (3 : Int32))), .val (.int (p2 &&& (1 : Int32))), .val (.int (p3 &&& (3 : Int32))), .val (.int (p4 &&& (7 : Int32))), .val (.int (p5 &&& (255 : Int32))), .val (.int (t0_0 p1 p2 p3 p4)), .val (.ref b7), .val (.ref b8), .val (.int (0 : Int32)), .val (.int (p4 &&& (7 : Int32))), .val (.ref b5_11)] [])) _
    refine XS.iconst X12.here hx rfl (hb hby at_133) ?_
    show Steps p.tables e below (T12.setTop (mkF m 134 #[.val (.int p1), .val (.int p2), .val (.int p3), .val (.int p4), .val (.int p5), .val (.long q6), .second, .val (.int (p1 &&& (3 : Int32))), .val (.int (p2 &&& (1 : Int32))), .val (.int (p3 &&& (3 : Int32))), .val (.int (p4 &&& (7 : Int32))), .val (.int (p5 &&& (255 : Int32))), .val (.int (t0_0 p1 p2 p3 p4)), .val (.ref b7), .val (.ref b8), .val (.int (0 : Int32)), .val (.int (p4 &&& (7 : Int32))), .val (.ref b5_11)] [(.int (1 : Int32))])) _
    exact retN X12 hx (t := .boolean) Bd.returns (by simp) (hb hby at_134) hr
  · show Q_rm0 Z p1 p2 p3 p4 p5 q6 s_REQUEST w_bits_s_REQUEST h0 n0 _ T12.heap _
    exact ⟨rfl, N12⟩
set_option maxHeartbeats 4000000 in
theorem rm0 (l : Launch) (Z : State) (a0 : Array Value) (hw : ∀ d ∈ tables_1, d.before a0 Z = true) (ws : List Jvm.Cond) (p1 : Int32) (p2 : Int32) (p3 : Int32) (p4 : Int32) (p5 : Int32) (q6 : Int64) (s_REQUEST : Addr) (w_bits_s_REQUEST : Int32) (h0 : Heap) (n0 : Nat) (Z0 : n0 ≤ h0.size) (hb0 : w_bits_s_REQUEST = (0 : Int32)) (S_REQUEST : Sta Z h0 "com/example/wirecall/wirecall/protocol/FrameKind" "REQUEST" "Lcom/example/wirecall/wirecall/protocol/FrameKind;" (.ref s_REQUEST)) (F_bits_s_REQUEST : Fld Z h0 s_REQUEST "com/example/wirecall/wirecall/protocol/FrameKind" "bits" "I" (.int w_bits_s_REQUEST)) (E_s_REQUEST : Exa Z h0 s_REQUEST "com/example/wirecall/wirecall/protocol/FrameKind") :
    MetFree l x (head1 (Jvm.Cond.code x code maxLocals ret :: ws) room_1) (fun a U => a = #[(.int p1), (.int p2), (.int p3), (.int p4), (.int p5), (.long q6)] ∧ Z.Warmed39 U.vm ∧ U.heap = h0) (fun _ _ _ _ _ => True) (fun _ U o U' => ∃ v L, o = .returned v ∧ Q_rm0 Z p1 p2 p3 p4 p5 q6 s_REQUEST w_bits_s_REQUEST h0 n0 v U'.heap L ∧ FrameEnd U o U' L room_1.cells room_1.slots) := by
  by_cases hc75 : (p2 &&& (1 : Int32)) = (1 : Int32)
  · skip
    by_cases hc99 : (p4 &&& (7 : Int32)) = (0 : Int32)
    · skip
      exact rm0_ff l Z a0 hw ws p1 p2 p3 p4 p5 q6 s_REQUEST w_bits_s_REQUEST h0 n0 Z0 hb0 S_REQUEST F_bits_s_REQUEST E_s_REQUEST hc75 hc99
    · skip
      exact rm0_ft l Z a0 hw ws p1 p2 p3 p4 p5 q6 s_REQUEST w_bits_s_REQUEST h0 n0 Z0 hb0 S_REQUEST F_bits_s_REQUEST E_s_REQUEST hc75 hc99
  · skip
    by_cases hc99 : (p4 &&& (7 : Int32)) = (0 : Int32)
    · skip
      exact rm0_tf l Z a0 hw ws p1 p2 p3 p4 p5 q6 s_REQUEST w_bits_s_REQUEST h0 n0 Z0 hb0 S_REQUEST F_bits_s_REQUEST E_s_REQUEST hc75 hc99
    · skip
      exact rm0_tt l Z a0 hw ws p1 p2 p3 p4 p5 q6 s_REQUEST w_bits_s_REQUEST h0 n0 Z0 hb0 S_REQUEST F_bits_s_REQUEST E_s_REQUEST hc75 hc99
set_option maxRecDepth 65536 in
set_option maxHeartbeats 40000000 in
theorem comes_1 {Post : Tables → Env → Array Value → State → Outcome → State → Prop} (hpost : ∀ tb e args s v u, (limb_1_1.after args s (.returned v) u = true ∧ limb_1_2.after args s (.returned v) u = true ∧ True) → FrameEnd s (.returned v) u (Jvm.fieldLocs frame_1_writes args s ++ Jvm.arrayLocs frame_1_arrays args s ++ Jvm.staticLocs frame_1_statics s) 16 128 → Post tb e args s (.returned v) u) :
    ArmFor flags0 classFile x code maxLocals ret World_1 tables_1 room_1 Calls_1 rest_1 Pre_1 Post := by
  intro l hfl _ _ p e ha hc hk s m args below hf hA hF happ hP
  obtain ⟨hcalls, hrest, hpre⟩ := hP
  obtain ⟨-, -, -, hnamed, -, -, -, hat⟩ := (Spec.applies_iff hf).mp happ
  obtain ⟨hg, hn⟩ := and_e (Cond.before_iff.mp (show (Jvm.Cond.and given_1 narrow_1).before args s = true from hpre))
  obtain ⟨g1, g2⟩ := and_e hg
  obtain ⟨g3, g4⟩ := and_e g2
  obtain ⟨g5, g6⟩ := and_e g4
  obtain ⟨g7, g8⟩ := and_e g6
  obtain ⟨g9, g10⟩ := and_e g8
  obtain ⟨g11, g12⟩ := and_e g10
  obtain ⟨w0, w1, w2, w3, w4, w5, rfl⟩ : ∃ w0 w1 w2 w3 w4 w5 : Value, args = #[w0, w1, w2, w3, w4, w5] := by
    have hs : args.size = 6 := by simpa [Cond.value, given_1] using g1
    obtain ⟨L⟩ := args
    match L, hs with
    | [w0, w1, w2, w3, w4, w5], _ => exact ⟨w0, w1, w2, w3, w4, w5, rfl⟩
  have hw := fun d (hd : d ∈ tables_1) => atoms_spec (ws := Jvm.Cond.code x code maxLocals ret :: tables_1) hat d (List.mem_cons_of_mem _ hd)
  have hfit : Fit s := fun {y c} hc i hi => by
    obtain ⟨ha, rfl⟩ := Array.getElem?_eq_some_iff.mp hc
    have q := List.all_eq_true.mp ((Array.all_eq_true_iff_forall_mem.mp hF) _ (Array.getElem_mem ha)) i (List.mem_range.mpr hi)
    simpa [Array.getElem?_eq_getElem hi] using q
  obtain ⟨i0, ei0⟩ := is_v g3
  obtain rfl : w0 = (.int i0) := Option.some.inj ei0
  obtain ⟨i1, ei1⟩ := is_v g5
  obtain rfl : w1 = (.int i1) := Option.some.inj ei1
  obtain ⟨i2, ei2⟩ := is_v g7
  obtain rfl : w2 = (.int i2) := Option.some.inj ei2
  obtain ⟨i3, ei3⟩ := is_v g9
  obtain rfl : w3 = (.int i3) := Option.some.inj ei3
  obtain ⟨i4, ei4⟩ := is_v g11
  obtain rfl : w4 = (.int i4) := Option.some.inj ei4
  obtain ⟨i5, ei5⟩ := isL_v g12
  obtain rfl : w5 = (.long i5) := Option.some.inj ei5
  obtain ⟨na1, na2⟩ := and_e hn
  obtain ⟨a_REQUEST, ev_REQUEST⟩ := exa_v na1
  have E_REQUEST : Exa s s.heap a_REQUEST "com/example/wirecall/wirecall/protocol/FrameKind" := Exa.start ev_REQUEST na1
  have S_REQUEST : Sta s s.heap "com/example/wirecall/wirecall/protocol/FrameKind" "REQUEST" "Lcom/example/wirecall/wirecall/protocol/FrameKind;" (.ref a_REQUEST) := Sta.start ev_REQUEST (Or.inr ⟨(hw _ (List.mem_of_getElem? (i := 36) rfl)), (hw _ (List.mem_of_getElem? (i := 37) rfl))⟩)
  have F_bits_REQUEST : Fld s s.heap a_REQUEST "com/example/wirecall/wirecall/protocol/FrameKind" "bits" "I" (.int (0 : Int32)) := Fld.start ((fld_at ev_REQUEST).symm.trans (own_eqI na2 (Term.int_eval (0))))
  obtain ⟨n, o, h1, h2, h3, _, L, rfl, ⟨rfl, N⟩, hq⟩ := rm0 l s _ hw tables_1 i0 i1 i2 i3 i4 i5 a_REQUEST (0 : Int32) s.heap s.heap.size (Nat.le_refl _) rfl S_REQUEST F_bits_REQUEST E_REQUEST p e ha hc hk s m _ below hf ((Spec.applies_iff_loose hf).mp happ).1 ⟨rfl, State.Warmed39.refl s, rfl⟩ trivial
  refine ⟨n, _, h1, h2, h3, hpost _ _ _ _ _ _ ⟨Cond.after_iff.mpr rfl, Cond.after_iff.mpr (eq_i res_at (Term.int_eval (1)) rfl), trivial⟩ ⟨hq.1, hq.2.1, (hq.2.2.sift fun y hy => Or.inr (N y hy)).mono (by decide) (by decide)⟩⟩
theorem main_1_1 : Claimed_1_1 := comes_1 fun _ _ _ _ _ _ h hF => ⟨h.1, hF⟩
theorem main_1_2 : Claimed_1_2 := comes_1 fun _ _ _ _ _ _ h hF => ⟨h.2.1, hF⟩
end Jvm.Pilot.@@N@@
namespace Jvm.Pilot.@@N@@
open Jvm Jvm.ClassFile Sem Op Lib Jvm.Free Jvm.Stand Jvm.Pilot.@@N@@.Jvm.D
/-! MADE BY PROGRAM (witnessworld.py) out of the Statement's table words and the real class files: 15 classes; the members and pool entries that the words name. The judged class is class 1, her method 1. -/
namespace start1
open Jvm.ClassFile
def u (s : String) : CpInfo := .utf8 (stringToUtf16 s)
/-- a pool by its gaps: so many unusable entries, then the entry; so many at the end -/
def gap : Nat → List CpInfo → List CpInfo
  | 0, r => r
  | n + 1, r => .unusable :: gap n r
def poolList (es : List (Nat × CpInfo)) (last : Nat) : List CpInfo := es.foldr (fun e r => gap e.1 (e.2 :: r)) (gap last [])
def pool (es : List (Nat × CpInfo)) (last : Nat) : Array CpInfo := ⟨poolList es last⟩
def fileOf (pool : Array CpInfo) (this : Nat) (attrs : Array Attribute := #[]) (ms : Array MethodInfo := #[]) (fl : Nat := 33) (sup : Nat := 0) (ifs : Array Nat := #[]) (fds : Array FieldInfo := #[]) : ClassFile where
  minorVersion := 0
  majorVersion := 65
  constantPool := pool
  accessFlags := fl
  thisClass := this
  superClass := sup
  interfaces := ifs
  fields := fds
  methods := ms
  attributes := attrs
def plain (name : String) (sup : Option ClassId) : Class where
  name := name
  kind := .ordinary
  loader := none
  accessFlags := 33
  super := sup
  interfaces := #[]
  cf := none
  fields := #[]
  methods := #[]
  instanceTypes := #[]
  staticTypes := #[]
  resolved := #[]
  callSites := []
  init := .initialized
  statics := none
  mirror := none

def pool0 : Array CpInfo := pool [(5, u "<init>"), (0, u "()V"), (1, .class_ 10), (1, u "java/lang/Object")] 113

def k0c0 : Code := { maxStack := 0, maxLocals := 1, code := object_method_1_code, exceptionTable := #[], attributes := #[] }
def k0m0 : Method := { name := "<init>", desc := "()V", sig := { parameters := [], returnType := none }, accessFlags := 1, code := some k0c0 }
/-- java/lang/Object -/
def k0 : Class := { plain "java/lang/Object" none with
  accessFlags := 33
  interfaces := #[]
  cf := some (fileOf pool0 8 #[] #[{ accessFlags := 1, nameIndex := 5, descriptorIndex := 6, attributes := #[] }] 33 0 #[] #[])
  fields := #[]
  methods := #[k0m0]
  instanceTypes := #[]
  staticTypes := #[]
  resolved := Array.replicate 124 none
  statics := none }

def pool1 : Array CpInfo := pool [(2, .class_ 4), (1, u "java/lang/Object"), (0, u "<init>"), (0, u "()V"), (0, .class_ 8), (0, u "com/example/wirecall/wirecall/protocol/Frame"), (0, .methodref 7 10), (0, .nameAndType 5 11), (0, u "(IIJ[B)V"), (0, .methodref 7 13), (0, .nameAndType 14 15), (0, u "oneWay"), (0, u "()Z"), (0, .methodref 7 17), (0, .nameAndType 18 19), (0, u "request"), (0, u "(JII[B)Lcom/example/wirecall/wirecall/protocol/Frame;"), (0, .class_ 21), (0, u "com/example/wirecall/wirecall/protocol/FrameOneWayPinLaw"), (2, u "law"), (0, u "(IIIIIJ)Z")] 5

def k1m0 : Method := { name := "<init>", desc := "()V", sig := { parameters := [], returnType := none }, accessFlags := 1, code := none }
def k1c1 : Code := { maxStack := 7, maxLocals := 18, code := code, exceptionTable := #[], attributes := #[] }
def k1m1 : Method := { name := "law", desc := "(IIIIIJ)Z", sig := { parameters := [.int, .int, .int, .int, .int, .long], returnType := some .boolean }, accessFlags := 9, code := some k1c1 }
/-- com/example/wirecall/wirecall/protocol/FrameOneWayPinLaw -/
def k1 : Class := { plain "com/example/wirecall/wirecall/protocol/FrameOneWayPinLaw" (some 0) with
  accessFlags := 49
  interfaces := #[]
  cf := some (fileOf pool1 20 #[] #[{ accessFlags := 1, nameIndex := 5, descriptorIndex := 6, attributes := #[] }, { accessFlags := 9, nameIndex := 24, descriptorIndex := 25, attributes := #[] }] 49 2 #[] #[])
  fields := #[]
  methods := #[k1m0, k1m1]
  instanceTypes := #[]
  staticTypes := #[]
  resolved := Array.replicate 31 none
  statics := none }

def pool2 : Array CpInfo := pool [(1, .methodref 2 3), (0, .class_ 4), (0, .nameAndType 5 6), (0, u "java/lang/Object"), (0, u "<init>"), (0, u "()V"), (0, .class_ 8), (0, u "java/lang/Record")] 13

def k2c0 : Code := { maxStack := 1, maxLocals := 1, code := jdk_30_method_1_code, exceptionTable := #[], attributes := #[] }
def k2m0 : Method := { name := "<init>", desc := "()V", sig := { parameters := [], returnType := none }, accessFlags := 4, code := some k2c0 }
/-- java/lang/Record -/
def k2 : Class := { plain "java/lang/Record" (some 0) with
  accessFlags := 1057
  interfaces := #[]
  cf := some (fileOf pool2 7 #[] #[{ accessFlags := 4, nameIndex := 5, descriptorIndex := 6, attributes := #[] }] 1057 2 #[] #[])
  fields := #[]
  methods := #[k2m0]
  instanceTypes := #[]
  staticTypes := #[]
  resolved := Array.replicate 22 none
  statics := none }

def pool3 : Array CpInfo := pool [(1, .class_ 2), (0, u "com/example/wirecall/wirecall/protocol/OutboundFrame"), (0, .class_ 4), (0, u "java/lang/Object")] 13

/-- com/example/wirecall/wirecall/protocol/OutboundFrame -/
def k3 : Class := { plain "com/example/wirecall/wirecall/protocol/OutboundFrame" (some 0) with
  accessFlags := 1537
  interfaces := #[]
  cf := some (fileOf pool3 1 #[] #[] 1537 3 #[] #[])
  fields := #[]
  methods := #[]
  instanceTypes := #[]
  staticTypes := #[]
  resolved := Array.replicate 18 none
  statics := none }

def pool4 : Array CpInfo := pool [(1, .class_ 2), (0, u "com/example/wirecall/wirecall/protocol/Frame"), (0, .methodref 4 5), (0, .class_ 6), (0, .nameAndType 7 8), (0, u "java/lang/Record"), (0, u "<init>"), (0, u "()V"), (0, .fieldref 1 10), (0, .nameAndType 11 12), (0, u "flags"), (0, u "I"), (0, .fieldref 1 14), (0, .nameAndType 15 12), (0, u "status"), (0, .fieldref 1 17), (0, .nameAndType 18 19), (0, u "id"), (0, u "J"), (0, .fieldref 1 21), (0, .nameAndType 22 23), (0, u "body"), (0, u "[B"), (0, .methodref 1 25), (0, .nameAndType 26 27), (0, u "requestFlags"), (0, u "(II)I"), (0, .methodref 1 29), (0, .nameAndType 7 30), (0, u "(IIJ[B)V"), (1, .class_ 34), (1, u "com/example/wirecall/wirecall/protocol/FrameKind"), (1, u "Lcom/example/wirecall/wirecall/protocol/FrameKind;"), (0, .methodref 32 38), (0, .nameAndType 39 40), (0, u "bits"), (0, u "()I"), (2, u "EMPTY"), (10, .methodref 1 55), (0, .nameAndType 56 57), (0, u "compressionBits"), (0, u "(I)I"), (17, .fieldref 32 76), (0, .nameAndType 77 36), (0, u "REQUEST"), (13, .class_ 92), (0, u "com/example/wirecall/wirecall/protocol/OutboundFrame"), (0, u "MAGIC"), (2, u "HEADER_LENGTH"), (1, u "BODY_LENGTH_OFFSET"), (1, u "DEFAULT_MAX_BODY_LENGTH"), (1, u "MAX_SERIALIZER_ID"), (1, u "MAX_COMPRESSION_ID"), (1, u "ONE_WAY_BIT"), (1, u "COMPRESSION_SHIFT"), (0, u "COMPRESSION_MASK"), (0, u "SERIALIZER_SHIFT"), (1, u "SERIALIZER_MASK"), (3, u "request"), (0, u "(JII[B)Lcom/example/wirecall/wirecall/protocol/Frame;"), (6, u "oneWay"), (0, u "()Z")] 42

def k4c0 : Code := { maxStack := 3, maxLocals := 6, code := prog_10_method_1_code, exceptionTable := #[], attributes := #[] }
def k4m0 : Method := { name := "<init>", desc := "(IIJ[B)V", sig := { parameters := [.int, .int, .long, (.array .byte)], returnType := none }, accessFlags := 1, code := some k4c0 }
def k4c1 : Code := { maxStack := 7, maxLocals := 5, code := prog_10_method_2_code, exceptionTable := #[], attributes := #[] }
def k4m1 : Method := { name := "request", desc := "(JII[B)Lcom/example/wirecall/wirecall/protocol/Frame;", sig := { parameters := [.long, .int, .int, (.array .byte)], returnType := some (.object "com/example/wirecall/wirecall/protocol/Frame") }, accessFlags := 9, code := some k4c1 }
def k4c2 : Code := { maxStack := 2, maxLocals := 1, code := prog_10_method_7_code, exceptionTable := #[], attributes := #[] }
def k4m2 : Method := { name := "oneWay", desc := "()Z", sig := { parameters := [], returnType := some .boolean }, accessFlags := 1, code := some k4c2 }
def k4c3 : Code := { maxStack := 3, maxLocals := 2, code := prog_10_method_11_code, exceptionTable := #[], attributes := #[] }
def k4m3 : Method := { name := "requestFlags", desc := "(II)I", sig := { parameters := [.int, .int], returnType := some .int }, accessFlags := 8, code := some k4c3 }
def k4c4 : Code := { maxStack := 3, maxLocals := 1, code := prog_10_method_12_code, exceptionTable := #[], attributes := #[] }
def k4m4 : Method := { name := "compressionBits", desc := "(I)I", sig := { parameters := [.int], returnType := some .int }, accessFlags := 10, code := some k4c4 }
/-- com/example/wirecall/wirecall/protocol/Frame -/
def k4 : Class := { plain "com/example/wirecall/wirecall/protocol/Frame" (some 2) with
  accessFlags := 49
  interfaces := #[3]
  cf := some (fileOf pool4 1 #[] #[{ accessFlags := 1, nameIndex := 7, descriptorIndex := 30, attributes := #[] }, { accessFlags := 9, nameIndex := 116, descriptorIndex := 117, attributes := #[] }, { accessFlags := 1, nameIndex := 124, descriptorIndex := 125, attributes := #[] }, { accessFlags := 8, nameIndex := 26, descriptorIndex := 27, attributes := #[] }, { accessFlags := 10, nameIndex := 56, descriptorIndex := 57, attributes := #[] }] 49 4 #[91] #[{ accessFlags := 18, nameIndex := 11, descriptorIndex := 12, attributes := #[] }, { accessFlags := 18, nameIndex := 15, descriptorIndex := 12, attributes := #[] }, { accessFlags := 18, nameIndex := 18, descriptorIndex := 19, attributes := #[] }, { accessFlags := 18, nameIndex := 22, descriptorIndex := 23, attributes := #[] }, { accessFlags := 25, nameIndex := 93, descriptorIndex := 12, attributes := #[] }, { accessFlags := 25, nameIndex := 96, descriptorIndex := 12, attributes := #[] }, { accessFlags := 25, nameIndex := 98, descriptorIndex := 12, attributes := #[] }, { accessFlags := 25, nameIndex := 100, descriptorIndex := 12, attributes := #[] }, { accessFlags := 25, nameIndex := 102, descriptorIndex := 12, attributes := #[] }, { accessFlags := 25, nameIndex := 104, descriptorIndex := 12, attributes := #[] }, { accessFlags := 26, nameIndex := 43, descriptorIndex := 23, attributes := #[] }, { accessFlags := 26, nameIndex := 106, descriptorIndex := 12, attributes := #[] }, { accessFlags := 26, nameIndex := 108, descriptorIndex := 12, attributes := #[] }, { accessFlags := 26, nameIndex := 109, descriptorIndex := 12, attributes := #[] }, { accessFlags := 26, nameIndex := 110, descriptorIndex := 12, attributes := #[] }, { accessFlags := 26, nameIndex := 112, descriptorIndex := 12, attributes := #[] }])
  fields := #[{ name := "flags", type := .int, accessFlags := 18, slot := 0, constantValue := 0 }, { name := "status", type := .int, accessFlags := 18, slot := 1, constantValue := 0 }, { name := "id", type := .long, accessFlags := 18, slot := 2, constantValue := 0 }, { name := "body", type := (.array .byte), accessFlags := 18, slot := 3, constantValue := 0 }, { name := "MAGIC", type := .int, accessFlags := 25, slot := 0, constantValue := 0 }, { name := "HEADER_LENGTH", type := .int, accessFlags := 25, slot := 1, constantValue := 0 }, { name := "BODY_LENGTH_OFFSET", type := .int, accessFlags := 25, slot := 2, constantValue := 0 }, { name := "DEFAULT_MAX_BODY_LENGTH", type := .int, accessFlags := 25, slot := 3, constantValue := 0 }, { name := "MAX_SERIALIZER_ID", type := .int, accessFlags := 25, slot := 4, constantValue := 0 }, { name := "MAX_COMPRESSION_ID", type := .int, accessFlags := 25, slot := 5, constantValue := 0 }, { name := "EMPTY", type := (.array .byte), accessFlags := 26, slot := 6, constantValue := 0 }, { name := "ONE_WAY_BIT", type := .int, accessFlags := 26, slot := 7, constantValue := 0 }, { name := "COMPRESSION_SHIFT", type := .int, accessFlags := 26, slot := 8, constantValue := 0 }, { name := "COMPRESSION_MASK", type := .int, accessFlags := 26, slot := 9, constantValue := 0 }, { name := "SERIALIZER_SHIFT", type := .int, accessFlags := 26, slot := 10, constantValue := 0 }, { name := "SERIALIZER_MASK", type := .int, accessFlags := 26, slot := 11, constantValue := 0 }]
  methods := #[k4m0, k4m1, k4m2, k4m3, k4m4]
  instanceTypes := #[.int, .int, .long, (.array .byte)]
  staticTypes := #[.int, .int, .int, .int, .int, .int, (.array .byte), .int, .int, .int, .int, .int]
  resolved := Array.replicate 168 none
  statics := none }

def pool5 : Array CpInfo := pool [(1, .class_ 2), (0, u "java/lang/constant/Constable"), (0, .class_ 4), (0, u "java/lang/Object")] 6

/-- java/lang/constant/Constable -/
def k5 : Class := { plain "java/lang/constant/Constable" (some 0) with
  accessFlags := 1537
  interfaces := #[]
  cf := some (fileOf pool5 1 #[] #[] 1537 3 #[] #[])
  fields := #[]
  methods := #[]
  instanceTypes := #[]
  staticTypes := #[]
  resolved := Array.replicate 11 none
  statics := none }

def pool6 : Array CpInfo := pool [(1, .class_ 2), (0, u "java/lang/Comparable"), (0, .class_ 4), (0, u "java/lang/Object")] 7

/-- java/lang/Comparable -/
def k6 : Class := { plain "java/lang/Comparable" (some 0) with
  accessFlags := 1537
  interfaces := #[]
  cf := some (fileOf pool6 1 #[] #[] 1537 3 #[] #[])
  fields := #[]
  methods := #[]
  instanceTypes := #[]
  staticTypes := #[]
  resolved := Array.replicate 12 none
  statics := none }

def pool7 : Array CpInfo := pool [(1, .class_ 2), (0, u "java/io/Serializable"), (0, .class_ 4), (0, u "java/lang/Object")] 2

/-- java/io/Serializable -/
def k7 : Class := { plain "java/io/Serializable" (some 0) with
  accessFlags := 1537
  interfaces := #[]
  cf := some (fileOf pool7 1 #[] #[] 1537 3 #[] #[])
  fields := #[]
  methods := #[]
  instanceTypes := #[]
  staticTypes := #[]
  resolved := Array.replicate 7 none
  statics := none }

def pool8 : Array CpInfo := pool [(2, .class_ 4), (1, u "java/lang/Enum"), (0, u "name"), (0, u "Ljava/lang/String;"), (2, u "ordinal"), (0, u "I"), (1, .class_ 14), (1, u "java/lang/Object"), (4, u "hash"), (86, .class_ 108), (1, u "java/lang/Enum$EnumDesc"), (2, .class_ 112), (0, u "java/lang/constant/Constable"), (0, .class_ 114), (0, u "java/lang/Comparable"), (0, .class_ 116), (0, u "java/io/Serializable")] 87

/-- java/lang/Enum -/
def k8 : Class := { plain "java/lang/Enum" (some 0) with
  accessFlags := 1057
  interfaces := #[5, 6, 7]
  cf := some (fileOf pool8 2 #[.nestMembers #[106]] #[] 1057 12 #[111, 113, 115] #[{ accessFlags := 18, nameIndex := 5, descriptorIndex := 6, attributes := #[] }, { accessFlags := 18, nameIndex := 9, descriptorIndex := 10, attributes := #[] }, { accessFlags := 2, nameIndex := 19, descriptorIndex := 10, attributes := #[] }])
  fields := #[{ name := "name", type := (.object "java/lang/String"), accessFlags := 18, slot := 0, constantValue := 0 }, { name := "ordinal", type := .int, accessFlags := 18, slot := 1, constantValue := 0 }, { name := "hash", type := .int, accessFlags := 2, slot := 2, constantValue := 0 }]
  methods := #[]
  instanceTypes := #[(.object "java/lang/String"), .int, .int]
  staticTypes := #[]
  resolved := Array.replicate 204 none
  statics := none }

def pool9 : Array CpInfo := pool [(1, .class_ 2), (0, u "com/example/wirecall/wirecall/protocol/FrameKind"), (2, u "REQUEST"), (0, u "Lcom/example/wirecall/wirecall/protocol/FrameKind;"), (2, u "RESPONSE"), (2, u "PING"), (2, u "PONG"), (2, u "$VALUES"), (0, u "[Lcom/example/wirecall/wirecall/protocol/FrameKind;"), (6, .class_ 28), (1, u "java/lang/Enum"), (6, .fieldref 1 36), (0, .nameAndType 37 38), (0, u "bits"), (0, u "I"), (2, u "BY_BITS"), (14, u "MASK"), (13, u "()I")] 5

def k9c0 : Code := { maxStack := 1, maxLocals := 1, code := prog_11_method_6_code, exceptionTable := #[], attributes := #[] }
def k9m0 : Method := { name := "bits", desc := "()I", sig := { parameters := [], returnType := some .int }, accessFlags := 0, code := some k9c0 }
/-- com/example/wirecall/wirecall/protocol/FrameKind -/
def k9 : Class := { plain "com/example/wirecall/wirecall/protocol/FrameKind" (some 8) with
  accessFlags := 16433
  interfaces := #[]
  cf := some (fileOf pool9 1 #[] #[{ accessFlags := 0, nameIndex := 37, descriptorIndex := 70, attributes := #[] }] 16433 26 #[] #[{ accessFlags := 16409, nameIndex := 5, descriptorIndex := 6, attributes := #[] }, { accessFlags := 16409, nameIndex := 9, descriptorIndex := 6, attributes := #[] }, { accessFlags := 16409, nameIndex := 12, descriptorIndex := 6, attributes := #[] }, { accessFlags := 16409, nameIndex := 15, descriptorIndex := 6, attributes := #[] }, { accessFlags := 26, nameIndex := 41, descriptorIndex := 19, attributes := #[] }, { accessFlags := 26, nameIndex := 56, descriptorIndex := 38, attributes := #[] }, { accessFlags := 18, nameIndex := 37, descriptorIndex := 38, attributes := #[] }, { accessFlags := 4122, nameIndex := 18, descriptorIndex := 19, attributes := #[] }])
  fields := #[{ name := "REQUEST", type := (.object "com/example/wirecall/wirecall/protocol/FrameKind"), accessFlags := 16409, slot := 0, constantValue := 0 }, { name := "RESPONSE", type := (.object "com/example/wirecall/wirecall/protocol/FrameKind"), accessFlags := 16409, slot := 1, constantValue := 0 }, { name := "PING", type := (.object "com/example/wirecall/wirecall/protocol/FrameKind"), accessFlags := 16409, slot := 2, constantValue := 0 }, { name := "PONG", type := (.object "com/example/wirecall/wirecall/protocol/FrameKind"), accessFlags := 16409, slot := 3, constantValue := 0 }, { name := "BY_BITS", type := (.array (.object "com/example/wirecall/wirecall/protocol/FrameKind")), accessFlags := 26, slot := 4, constantValue := 0 }, { name := "MASK", type := .int, accessFlags := 26, slot := 5, constantValue := 0 }, { name := "bits", type := .int, accessFlags := 18, slot := 3, constantValue := 0 }, { name := "$VALUES", type := (.array (.object "com/example/wirecall/wirecall/protocol/FrameKind")), accessFlags := 4122, slot := 6, constantValue := 0 }]
  methods := #[k9m0]
  instanceTypes := #[(.object "java/lang/String"), .int, .int, .int]
  staticTypes := #[(.object "com/example/wirecall/wirecall/protocol/FrameKind"), (.object "com/example/wirecall/wirecall/protocol/FrameKind"), (.object "com/example/wirecall/wirecall/protocol/FrameKind"), (.object "com/example/wirecall/wirecall/protocol/FrameKind"), (.array (.object "com/example/wirecall/wirecall/protocol/FrameKind")), .int, (.array (.object "com/example/wirecall/wirecall/protocol/FrameKind"))]
  resolved := Array.replicate 76 none
  statics := some 0 }

def pool10 : Array CpInfo := pool [(1, u "java/lang/Cloneable"), (0, .class_ 1), (0, u "java/lang/Object"), (0, .class_ 3)] 3

/-- java/lang/Cloneable -/
def k10 : Class := { plain "java/lang/Cloneable" (some 0) with
  accessFlags := 1537
  interfaces := #[]
  cf := some (fileOf pool10 2 #[] #[] 1537 4 #[] #[])
  fields := #[]
  methods := #[]
  instanceTypes := #[]
  staticTypes := #[]
  resolved := Array.replicate 8 none
  statics := none }

/-- the primitive byte -/
def k11 : Class := { plain "byte" none with kind := .primitive 'B', accessFlags := 0x411 }
/-- [B -/
def k12 : Class := { plain "[B" (some 0) with kind := .array 11 .byte, interfaces := #[10, 7], accessFlags := 1041 }

/-- the primitive int -/
def k13 : Class := { plain "int" none with kind := .primitive 'I', accessFlags := 0x411 }
/-- [I -/
def k14 : Class := { plain "[I" (some 0) with kind := .array 13 .int, interfaces := #[10, 7], accessFlags := 1041 }

def heap : Heap := #[{ cls := 9, slots := #[.ref 1, .null, .null, .null, .null, .int 0, .null], vm := .statics 9 },
  { cls := 9, slots := #[.null, .int 0, .int 0, .int 0], vm := .none }]
def classes : Array Class := #[k0, k1, k2, k3, k4, k5, k6, k7, k8, k9, k10, k11, k12, k13, k14]
def interned : List (Array UInt16 × Addr) := []
def slotsUsed : Nat := 11
def theMethod : MethodId := ⟨1, 1⟩
def args0 : Array Value := #[.int 1, .int 2, .int 3, .int 4, .int 5, .long 6]
def aboutOver (below : List Frame) : State where
  vm := { classes := classes, interned := interned.toArray }
  heap := heap
  slotsUsed := slotsUsed
  threads := #[{ frames := .invoking theMethod args0 :: below }]
def below0 : List Frame := [.native { method := ⟨0, 0⟩, args := #[] }]
def about1 : State := aboutOver below0
def p0 : Program := .bare "" "" ""
def e0 : Env := launch0.env 0 0 0
theorem w_frames : about1.frames = Frame.invoking theMethod args0 :: below0 := rfl
set_option maxRecDepth 65536 in
theorem w_args : argsFit about1.vm theMethod args0 = true := by decide +kernel
set_option maxRecDepth 65536 in
theorem w_heap : heapFits about1 = true := by decide +kernel
set_option maxRecDepth 65536 in
theorem w_runnable : about1.curStatus? = some .runnable := by decide +kernel
set_option maxRecDepth 65536 in
theorem w_alone : about1.alone = true := by decide +kernel
set_option maxRecDepth 65536 in
theorem w_named : about1.methodNamed? x = some theMethod := by decide +kernel
set_option maxRecDepth 65536 in
theorem w_hears : about1.hears theMethod below0 = true := by decide +kernel
set_option maxRecDepth 65536 in
theorem w_ripe : about1.ripe theMethod args0 below0 = true := by decide +kernel
theorem w_running : about1.status = .running := rfl
set_option maxRecDepth 65536 in
theorem w_room : about1.hasRoom e0.platform room_1 = true :=
  launch0.hasRoom_least _ room_1 (by decide +kernel) (by decide +kernel) (by decide +kernel) (by decide +kernel) (by decide +kernel) (by decide +kernel)
theorem allAtoms_all (ts : List Jvm.Cond) (a : Array Jvm.Value) (st : Jvm.State) : (allAtoms ts).before a st = ts.all (fun c => c.before a st) := by
  induction ts with
  | nil => rfl
  | cons c t ih =>
    show (Jvm.Cond.and c (allAtoms t)).before a st = _
    rw [Jvm.Cond.before_and, ih, List.all_cons]
def words1 : List Jvm.Cond := Jvm.Cond.code x code maxLocals ret :: tables_1
/-- a 'code' word, met by the world's own term for the bytes: nothing is compared byte by byte -/
theorem code_word {y : MethodName} {bytes : ByteArray} {mx : Nat} {rt : Option FieldType} {a : Array Value} {s : State} {m : MethodId} {meth : Method} {c : Code} (h1 : s.methodNamed? y = some m) (h2 : s.vm.method? m = some meth) (h3 : meth.code = some c) (h4 : c.code = bytes)
    (h5 : (c.maxLocals == mx && c.exceptionTable.isEmpty && decide (c.maxStack ≤ mostOperands) && decide (meth.sig.returnType = rt) && !meth.locks && decide (parseMethodDescriptor y.desc = some meth.sig)) = true) : (Jvm.Cond.code y bytes mx rt).before a s = true := by
  simp only [Bool.and_eq_true, beq_iff_eq, Bool.not_eq_true', decide_eq_true_eq] at h5
  obtain ⟨⟨⟨⟨⟨g1, g2⟩, g3⟩, g4⟩, g5⟩, g6⟩ := h5
  simp [Cond.before, Cond.holds, Cond.value, h1, h2, h3, h4, g1, g2, g3, g4, g5, g6]
def isCode : Jvm.Cond → Bool
  | .code _ _ _ _ => true
  | _ => false
theorem all_split {L : List Jvm.Cond} {P : Jvm.Cond → Bool} (h1 : L.all (fun c => isCode c || P c) = true) (h2 : ∀ c ∈ L.filter isCode, P c = true) : L.all P = true := by
  refine List.all_eq_true.mpr fun c hc => ?_
  have h := List.all_eq_true.mp h1 c hc
  rcases Bool.eq_false_or_eq_true (isCode c) with hi | hi
  · exact h2 c (List.mem_filter.mpr ⟨hc, hi⟩)
  · simpa [hi] using h
set_option maxRecDepth 65536 in
theorem w_c0 : (Jvm.Cond.code x code maxLocals ret).before args0 about1 = true := code_word (m := ⟨1, 1⟩) (meth := k1m1) (c := k1c1) (by decide +kernel) rfl rfl rfl (by decide +kernel)
set_option maxRecDepth 65536 in
theorem w_c1 : (Jvm.Cond.code ({ cls := "com/example/wirecall/wirecall/protocol/Frame", name := "<init>", desc := "(IIJ[B)V" } : Jvm.MethodName) prog_10_method_1_code (6 : Nat) (Option.none : Option Jvm.ClassFile.FieldType)).before args0 about1 = true := code_word (m := ⟨4, 0⟩) (meth := k4m0) (c := k4c0) (by decide +kernel) rfl rfl rfl (by decide +kernel)
set_option maxRecDepth 65536 in
theorem w_c2 : (Jvm.Cond.code ({ cls := "java/lang/Record", name := "<init>", desc := "()V" } : Jvm.MethodName) jdk_30_method_1_code (1 : Nat) (Option.none : Option Jvm.ClassFile.FieldType)).before args0 about1 = true := code_word (m := ⟨2, 0⟩) (meth := k2m0) (c := k2c0) (by decide +kernel) rfl rfl rfl (by decide +kernel)
set_option maxRecDepth 65536 in
theorem w_c3 : (Jvm.Cond.code ({ cls := "java/lang/Object", name := "<init>", desc := "()V" } : Jvm.MethodName) object_method_1_code (1 : Nat) (Option.none : Option Jvm.ClassFile.FieldType)).before args0 about1 = true := code_word (m := ⟨0, 0⟩) (meth := k0m0) (c := k0c0) (by decide +kernel) rfl rfl rfl (by decide +kernel)
set_option maxRecDepth 65536 in
theorem w_c4 : (Jvm.Cond.code ({ cls := "com/example/wirecall/wirecall/protocol/Frame", name := "oneWay", desc := "()Z" } : Jvm.MethodName) prog_10_method_7_code (1 : Nat) (Option.some Jvm.ClassFile.FieldType.boolean)).before args0 about1 = true := code_word (m := ⟨4, 2⟩) (meth := k4m2) (c := k4c2) (by decide +kernel) rfl rfl rfl (by decide +kernel)
set_option maxRecDepth 65536 in
theorem w_c5 : (Jvm.Cond.code ({ cls := "com/example/wirecall/wirecall/protocol/Frame", name := "request", desc := "(JII[B)Lcom/example/wirecall/wirecall/protocol/Frame;" } : Jvm.MethodName) prog_10_method_2_code (5 : Nat) (Option.some (Jvm.ClassFile.FieldType.object "com/example/wirecall/wirecall/protocol/Frame"))).before args0 about1 = true := code_word (m := ⟨4, 1⟩) (meth := k4m1) (c := k4c1) (by decide +kernel) rfl rfl rfl (by decide +kernel)
set_option maxRecDepth 65536 in
theorem w_c6 : (Jvm.Cond.code ({ cls := "com/example/wirecall/wirecall/protocol/Frame", name := "requestFlags", desc := "(II)I" } : Jvm.MethodName) prog_10_method_11_code (2 : Nat) (Option.some Jvm.ClassFile.FieldType.int)).before args0 about1 = true := code_word (m := ⟨4, 3⟩) (meth := k4m3) (c := k4c3) (by decide +kernel) rfl rfl rfl (by decide +kernel)
set_option maxRecDepth 65536 in
theorem w_c7 : (Jvm.Cond.code ({ cls := "com/example/wirecall/wirecall/protocol/FrameKind", name := "bits", desc := "()I" } : Jvm.MethodName) prog_11_method_6_code (1 : Nat) (Option.some Jvm.ClassFile.FieldType.int)).before args0 about1 = true := code_word (m := ⟨9, 0⟩) (meth := k9m0) (c := k9c0) (by decide +kernel) rfl rfl rfl (by decide +kernel)
set_option maxRecDepth 65536 in
theorem w_c8 : (Jvm.Cond.code ({ cls := "com/example/wirecall/wirecall/protocol/Frame", name := "compressionBits", desc := "(I)I" } : Jvm.MethodName) prog_10_method_12_code (1 : Nat) (Option.some Jvm.ClassFile.FieldType.int)).before args0 about1 = true := code_word (m := ⟨4, 4⟩) (meth := k4m4) (c := k4c4) (by decide +kernel) rfl rfl rfl (by decide +kernel)
def codes1 : List Jvm.Cond := [Jvm.Cond.code x code maxLocals ret, Jvm.Cond.code ({ cls := "com/example/wirecall/wirecall/protocol/Frame", name := "<init>", desc := "(IIJ[B)V" } : Jvm.MethodName) prog_10_method_1_code (6 : Nat) (Option.none : Option Jvm.ClassFile.FieldType), Jvm.Cond.code ({ cls := "java/lang/Record", name := "<init>", desc := "()V" } : Jvm.MethodName) jdk_30_method_1_code (1 : Nat) (Option.none : Option Jvm.ClassFile.FieldType), Jvm.Cond.code ({ cls := "java/lang/Object", name := "<init>", desc := "()V" } : Jvm.MethodName) object_method_1_code (1 : Nat) (Option.none : Option Jvm.ClassFile.FieldType), Jvm.Cond.code ({ cls := "com/example/wirecall/wirecall/protocol/Frame", name := "oneWay", desc := "()Z" } : Jvm.MethodName) prog_10_method_7_code (1 : Nat) (Option.some Jvm.ClassFile.FieldType.boolean), Jvm.Cond.code ({ cls := "com/example/wirecall/wirecall/protocol/Frame", name := "request", desc := "(JII[B)Lcom/example/wirecall/wirecall/protocol/Frame;" } : Jvm.MethodName) prog_10_method_2_code (5 : Nat) (Option.some (Jvm.ClassFile.FieldType.object "com/example/wirecall/wirecall/protocol/Frame")), Jvm.Cond.code ({ cls := "com/example/wirecall/wirecall/protocol/Frame", name := "requestFlags", desc := "(II)I" } : Jvm.MethodName) prog_10_method_11_code (2 : Nat) (Option.some Jvm.ClassFile.FieldType.int), Jvm.Cond.code ({ cls := "com/example/wirecall/wirecall/protocol/FrameKind", name := "bits", desc := "()I" } : Jvm.MethodName) prog_11_method_6_code (1 : Nat) (Option.some Jvm.ClassFile.FieldType.int), Jvm.Cond.code ({ cls := "com/example/wirecall/wirecall/protocol/Frame", name := "compressionBits", desc := "(I)I" } : Jvm.MethodName) prog_10_method_12_code (1 : Nat) (Option.some Jvm.ClassFile.FieldType.int)]
set_option maxRecDepth 65536 in
theorem codes_eq : words1.filter isCode = codes1 := rfl
theorem w_codes : ∀ c ∈ words1.filter isCode, c.before args0 about1 = true := by
  rw [codes_eq]
  intro c hc
  simp only [codes1, List.mem_cons, List.not_mem_nil, or_false] at hc
  rcases hc with rfl | rfl | rfl | rfl | rfl | rfl | rfl | rfl | rfl
  · exact w_c0
  · exact w_c1
  · exact w_c2
  · exact w_c3
  · exact w_c4
  · exact w_c5
  · exact w_c6
  · exact w_c7
  · exact w_c8
set_option maxRecDepth 65536 in
theorem w_t1 : (words1.take 24).all (fun c => isCode c || c.before args0 about1) = true := by decide +kernel
set_option maxRecDepth 65536 in
theorem w_t2 : ((words1.drop 24).take 24).all (fun c => isCode c || c.before args0 about1) = true := by decide +kernel
set_option maxRecDepth 65536 in
theorem w_t3 : ((words1.drop 24).drop 24).all (fun c => isCode c || c.before args0 about1) = true := by decide +kernel
theorem w_tables : (allAtoms (Jvm.Cond.code x code maxLocals ret :: tables_1)).before args0 about1 = true := by
  rw [allAtoms_all]
  show words1.all (fun c => c.before args0 about1) = true
  refine all_split ?_ w_codes
  rw [← List.take_append_drop 24 words1, List.all_append, w_t1, ← List.take_append_drop 24 (words1.drop 24), List.all_append, w_t2, w_t3]
  rfl
set_option maxRecDepth 65536 in
theorem w_case : (Jvm.Cond.and given_1 narrow_1).before args0 about1 = true := by decide +kernel
theorem w_applies : (headSpec (Jvm.Cond.code x code maxLocals ret :: tables_1) room_1).applies x e0.platform about1 = true :=
  (Spec.applies_iff w_frames).mpr ⟨w_running, w_runnable, w_alone, w_named, w_hears, w_ripe, w_room, w_tables⟩
theorem atStart : AtStart classFile x code maxLocals ret World_1 tables_1 room_1 Calls_1 rest_1 Pre_1 launch0 p0 e0 about1 theMethod args0 below0 :=
  ⟨lists_1, trivial, launch0.admits_env _ _ _, launch0.least_env, fairChoices_fair.cas, fairChoices_fair.clock, w_frames, w_args, w_heap, w_applies, trivial, trivial, w_case⟩
end start1
theorem witness_1 : WitnessClaimed_1 := ⟨start1.p0, start1.e0, start1.about1, start1.theMethod, start1.args0, start1.below0, start1.atStart⟩
end Jvm.Pilot.@@N@@
