import JvmDerived
import JvmDerived.Pilot.@@N@@Statement
import JvmDerived.Pilot.@@N@@Code
set_option linter.unusedVariables false
set_option linter.unusedSimpArgs false
namespace Jvm.RoadKit
open Sem ClassFile Op Lib Jvm.Stand Jvm.Free Jvm.LawKit
section New
variable {p : Program} {l : Launch} {e : Env} {R : Room} {s : State} {m : MethodId} {args : Array Value} {below : List Frame} {meth : Method} {c : Code} {T : State} {locs : List Loc} {cells slots : Nat}
theorem retI (X : Stand p l e R s m args below meth c T locs cells slots) (hx : p.tables.exec = Jvm.exec) {pc : Nat} {Ls : Array Slot} {z : Int32} {rest : List Value} (hret : meth.sig.returnType = some .int) (hd : decode c.code pc = .ok (.ireturn, 1)) {fs : List Frame}
    (hl : ∀ (f : JFrame) (acts : List Action), f.method = m → f.locked = none → f.entered = [] → (doReturn e (T.setTop f) acts (some (.int z))).1 = T.setFrames fs) : Steps p.tables e below (T.setTop (mkF m pc Ls (.int z :: rest))) (T.setFrames fs) := by
  have hm' : T.vm.method? m = some meth := X.method'
  have hn : narrow .int (.int z) = .int z := rfl
  show Steps p.tables e below (T.setTop { method := m, pc := pc, locals := Ls, stack := _ :: rest, locked := none }) _
  jvm_step X.here [X.here.top, hx, hd, hm', hret, hn]
  first | (intro acts; rw [hl _ acts rfl rfl rfl]) | rw [hl _ _ rfl rfl rfl]
  exact Steps.refl _
end New
end Jvm.RoadKit
namespace Jvm.Pilot.@@N@@
open Jvm Jvm.ClassFile Sem Op Lib Jvm.Free Jvm.Stand Jvm.LawKit Jvm.RoadKit Bundle Jvm.Pilot.@@N@@.Jvm.D
theorem own_nm {a b : Addr} {l : List Addr} (h : a ≠ b) (r : a ∉ l) : a ∉ b :: l := fun q => (List.mem_cons.mp q).elim h r
theorem own_n0 {a : Addr} : a ∉ ([] : List Addr) := fun q => nomatch q
theorem own_nst {Z : State} {h : Heap} {a : Addr} {C : String} (F : Exa Z h a C) : ∃ c : Cell, h[a]? = some c ∧ c.vm.isStatics = false := by obtain ⟨c, k, h1, -, -, h4, -⟩ := F; exact ⟨c, h1, h4⟩
theorem own_nstV {Z : State} {h : Heap} {a : Addr} {k : ClassId} {ty : FieldType} {z : Int32} {vs : List Value} {dv : Value} (F : Arv Z h a k ty z vs dv) : ∃ c : Cell, h[a]? = some c ∧ c.vm.isStatics = false := by
  obtain ⟨c, A, -⟩ := F
  refine ⟨c, A.1, ?_⟩
  have q := A.2.1.1
  cases e : c.vm <;> first | rfl | exact absurd e (q _)
theorem own_q0 {h : Heap} : ∀ x ∈ ([] : List Addr), ∃ c : Cell, h[x]? = some c ∧ c.vm.isStatics = false := fun _ q => nomatch q
theorem own_qc {h : Heap} {a : Addr} {l : List Addr} (p : ∃ c : Cell, h[a]? = some c ∧ c.vm.isStatics = false) (r : ∀ x ∈ l, ∃ c : Cell, h[x]? = some c ∧ c.vm.isStatics = false) : ∀ x ∈ a :: l, ∃ c : Cell, h[x]? = some c ∧ c.vm.isStatics = false := fun x q => (List.mem_cons.mp q).elim (fun e => e ▸ p) (r x)
theorem own_sta_keep {Z : State} {h h' : Heap} {ws : List Addr} {C n d : String} {v : Value} (F : Sta Z h C n d v) (K : Keep h h' ws) (q : ∀ x ∈ ws, ∃ c : Cell, h[x]? = some c ∧ c.vm.isStatics = false) : Sta Z h' C n d v := by
  obtain ⟨cf, i, k, f, st, cell, h1, h2, h3, h4, h5, h6, h7⟩ := F
  refine ⟨cf, i, k, f, st, cell, h1, h2, h3, h4, K.2.1 _ _ h5 fun z => ?_, h6, h7⟩
  obtain ⟨c, g1, g2⟩ := q _ z
  cases h5.symm.trans g1; rw [h6] at g2; cases g2
theorem own_eqI {a b : Term} {args : Array Value} {first s : State} {o : Option Outcome} {idx : List Nat} {k : Int32} (h : (Jvm.Cond.eq a b).value args first o s idx = some true) (hb : b.eval args first o idx s = some (.int k)) : a.eval args first o idx s = some (.int k) := by
  obtain ⟨x, y, ha, hb', K, K'⟩ := cmp_v (Or.inl h)
  cases hb.symm.trans hb'
  obtain ⟨z, rfl⟩ := K'
  simp [Cond.value, ha, hb] at h
  rw [ha, h]
theorem own_eqR {a b : Term} {args : Array Value} {first s : State} {o : Option Outcome} {idx : List Nat} {k : Addr} (h : (Jvm.Cond.eq a b).value args first o s idx = some true) (hb : b.eval args first o idx s = some (.ref k)) : a.eval args first o idx s = some (.ref k) := by
  obtain ⟨x, y, ha, hb', K, K'⟩ := cmp_v (Or.inl h)
  cases hb.symm.trans hb'
  have q := gotT (eq_R ha hb K'.2 rfl) h
  rw [ha, q]
theorem own_len {t : Term} {args : Array Value} {first s : State} {o : Option Outcome} {idx : List Nat} {k : Int32} {x : Addr} {cl : Cell} (h : (Term.length t).eval args first o idx s = some (.int k)) (ev : t.eval args first o idx s = some (.ref x)) (hc : s.heap[x]? = some cl) : cl.slots.size < 2 ^ 31 ∧ cl.slots.size.toInt32 = k := by
  obtain ⟨a', cell, ha', hat, hv⟩ := Term.length_spec h
  cases ev.symm.trans ha'
  cases hc.symm.trans (State.arrayAt?_spec hat).1
  refine ⟨?_, by cases hv; rfl⟩
  by_cases q : cl.slots.size < 2147483648
  · exact q
  · simp [Term.eval, ev, hat, q] at h
theorem own_sz {n : Nat} {k : Int32} (q : n < 2 ^ 31) (e : n.toInt32 = k) : n = k.toNatClampNeg := by
  rw [← e]; simp only [Int32.toNatClampNeg, len_toInt q]; rfl
theorem own_some {c : Cell} {i : Nat} (h : i < c.slots.size) : ∃ v, c.slots[i]? = some v := ⟨c.slots[i], Array.getElem?_eq_getElem h⟩
theorem own_i32 (x : Int32) : x.toInt = if x.toUInt32.toNat < 2^31 then (x.toUInt32.toNat : Int) else (x.toUInt32.toNat : Int) - 2^32 := by
  have h : x.toInt = x.toBitVec.toInt := rfl
  have h2 : x.toUInt32.toNat = x.toBitVec.toNat := rfl
  rw [h, h2, BitVec.toInt_eq_toNat_cond]
  split <;> split <;> omega
theorem own_mask (x m : Int32) (k : Nat) (hk : k ≤ 31) (hm : m.toUInt32.toNat = 2 ^ k - 1) : (x &&& m).toInt = x.toInt % 2 ^ k := by
  have e : (x &&& m).toUInt32.toNat = x.toUInt32.toNat % 2 ^ k := by
    rw [Int32.toUInt32_and, UInt32.toNat_and, hm, Nat.and_two_pow_sub_one_eq_mod]
  have hp : (2 ^ k : Nat) ≤ 2 ^ 31 := Nat.pow_le_pow_right (by decide) hk
  have hd : (2 ^ k : Nat) ∣ 2 ^ 32 := Nat.pow_dvd_pow 2 (by omega)
  have hpos : 0 < (2 ^ k : Nat) := Nat.pow_pos (by decide)
  have hlt : x.toUInt32.toNat % 2 ^ k < 2 ^ k := Nat.mod_lt _ hpos
  rw [own_i32 (x &&& m), e, if_pos (by omega), own_i32 x]
  have hc : ((2 : Int) ^ k) = ((2 ^ k : Nat) : Int) := by simp
  rw [hc]
  split
  · exact (Int.natCast_emod _ _)
  · obtain ⟨c, hc2⟩ := hd
    have : ((x.toUInt32.toNat : Int) - 2 ^ 32) = (x.toUInt32.toNat : Int) + ((2 ^ k : Nat) : Int) * (-(c : Int)) := by
      have : ((2 : Int) ^ 32) = ((2 ^ k : Nat) : Int) * (c : Int) := by exact_mod_cast hc2
      rw [this, Int.mul_neg]; rfl
    rw [this, Int.add_mul_emod_self_left]
    exact (Int.natCast_emod _ _)
theorem own_mod (y n : Int32) (hy : 0 ≤ y.toInt) (hn : 0 < n.toInt) : (y - y / n * n).toInt = y.toInt % n.toInt := by
  have b1 := y.toInt_lt; have b2 := n.toInt_lt
  have hd : (y / n).toInt = y.toInt / n.toInt := by
    rw [Int32.toInt_div_of_ne_right y n (by intro h; rw [h] at hn; exact absurd hn (by decide)), Int.tdiv_eq_ediv_of_nonneg hy]
  have h1 : 0 ≤ y.toInt / n.toInt := Int.ediv_nonneg hy (by omega)
  have h2 : y.toInt / n.toInt * n.toInt ≤ y.toInt := Int.ediv_mul_le _ (by omega)
  have h3 : 0 ≤ y.toInt / n.toInt * n.toInt := Int.mul_nonneg h1 (by omega)
  have hmul : (y / n * n).toInt = y.toInt / n.toInt * n.toInt := by
    rw [Int32.toInt_mul, hd]; apply Int.bmod_eq_of_le <;> omega
  rw [Int32.toInt_sub, hmul]
  have h4 := Int.emod_def y.toInt n.toInt
  rw [Int.mul_comm] at h4
  rw [h4]; apply Int.bmod_eq_of_le <;> omega
theorem own_pos (x : Int32) : 0 ≤ (x &&& 2147483647).toInt := by
  rw [own_mask x 2147483647 31 (by decide) (by decide)]; exact Int.emod_nonneg _ (by decide)
theorem own_add (x y : Int32) (h1 : -2147483648 ≤ x.toInt + y.toInt) (h2 : x.toInt + y.toInt < 2147483648) : (x + y).toInt = x.toInt + y.toInt := by
  rw [Int32.toInt_add]; apply Int.bmod_eq_of_le <;> omega
theorem own_and3 (x : Int32) : x &&& 3 = 0 ∨ x &&& 3 = 1 ∨ x &&& 3 = 2 ∨ x &&& 3 = 3 := by
  have h := own_mask x 3 2 (by decide) (by decide)
  have h2 : x.toInt % 2 ^ 2 = 0 ∨ x.toInt % 2 ^ 2 = 1 ∨ x.toInt % 2 ^ 2 = 2 ∨ x.toInt % 2 ^ 2 = 3 := by omega
  rcases h2 with q | q | q | q
  · exact Or.inl (Int32.toInt_inj.mp (by rw [h, q]; rfl))
  · exact Or.inr (Or.inl (Int32.toInt_inj.mp (by rw [h, q]; rfl)))
  · exact Or.inr (Or.inr (Or.inl (Int32.toInt_inj.mp (by rw [h, q]; rfl))))
  · exact Or.inr (Or.inr (Or.inr (Int32.toInt_inj.mp (by rw [h, q]; rfl))))
theorem d1_0 : decode prog_46_method_8_code 0 = .ok (.iload_n 0, 1) := by decide +kernel
theorem d1_1 : decode prog_46_method_8_code 1 = .ok (.ifCond .lt 19, 3) := by decide +kernel
theorem d1_4 : decode prog_46_method_8_code 4 = .ok (.iload_n 0, 1) := by decide +kernel
theorem d1_5 : decode prog_46_method_8_code 5 = .ok (.getstatic 92, 3) := by decide +kernel
theorem d1_8 : decode prog_46_method_8_code 8 = .ok (.arraylength, 1) := by decide +kernel
theorem d1_9 : decode prog_46_method_8_code 9 = .ok (.if_icmp .ge 11, 3) := by decide +kernel
theorem d1_12 : decode prog_46_method_8_code 12 = .ok (.getstatic 92, 3) := by decide +kernel
theorem d1_15 : decode prog_46_method_8_code 15 = .ok (.iload_n 0, 1) := by decide +kernel
theorem d1_16 : decode prog_46_method_8_code 16 = .ok (.aaload, 1) := by decide +kernel
theorem d1_17 : decode prog_46_method_8_code 17 = .ok (.goto 4, 3) := by decide +kernel
theorem d1_21 : decode prog_46_method_8_code 21 = .ok (.astore_n 1, 1) := by decide +kernel
theorem d1_22 : decode prog_46_method_8_code 22 = .ok (.aload_n 1, 1) := by decide +kernel
theorem d1_23 : decode prog_46_method_8_code 23 = .ok (.ifnonnull 17, 3) := by decide +kernel
theorem d1_40 : decode prog_46_method_8_code 40 = .ok (.aload_n 1, 1) := by decide +kernel
theorem d1_41 : decode prog_46_method_8_code 41 = .ok (.areturn, 1) := by decide +kernel
theorem pn_1 : plainName "com/example/lob/lob/codec/PacketType" = true := by first | (simp [plainName, overriddenIn]; done) | decide +kernel
theorem ef_1 (m : MethodId) (x0 : Int32) : entryFrame m #[(.int x0)] 2 = mkF m 0 #[.val (.int x0), .unset] [] := by first | (simp [entryFrame, mkF, argsToLocals, Value.category]; done) | rfl
def Q_rm1 (Z : State) (p1 : Int32) (s_BY_NUMBER : Addr) (k_s_BY_NUMBER : ClassId) (z_s_BY_NUMBER : Int32) (vs_s_BY_NUMBER : List Value) (w16 : Addr) (h0 : Heap) (n0 : Nat) (v : Option Value) (h : Heap) (L : List Loc) : Prop := v = some (.ref w16) ∧ Fr n0 L ∧ h = h0
set_option maxRecDepth 65536 in
set_option maxHeartbeats 40000000 in
theorem rm1 (l : Launch) (Z : State) (a0 : Array Value) (hw : ∀ d ∈ tables_1, d.before a0 Z = true) (ws : List Jvm.Cond) (p1 : Int32) (s_BY_NUMBER : Addr) (k_s_BY_NUMBER : ClassId) (z_s_BY_NUMBER : Int32) (vs_s_BY_NUMBER : List Value) (w16 : Addr) (h0 : Heap) (n0 : Nat) (Z0 : n0 ≤ h0.size) (S_BY_NUMBER : Sta Z h0 "com/example/lob/lob/codec/PacketType" "BY_NUMBER" "[Lcom/example/lob/lob/codec/PacketType;" (.ref s_BY_NUMBER)) (V_s_BY_NUMBER : Arv Z h0 s_BY_NUMBER k_s_BY_NUMBER (.object "com/example/lob/lob/codec/PacketType") z_s_BY_NUMBER vs_s_BY_NUMBER .null) (hc1 : ¬ (p1 < (0 : Int32))) (hc9 : p1 < z_s_BY_NUMBER) (hi16 : ¬ p1 < 0 ∧ p1 < z_s_BY_NUMBER) (hs16 : (vs_s_BY_NUMBER).getD (p1).toNatClampNeg .null = (.ref w16)) :
    MetFree l (⟨"com/example/lob/lob/codec/PacketType", "fromNumber", "(I)Lcom/example/lob/lob/codec/PacketType;"⟩ : MethodName) (head1 (Jvm.Cond.code (⟨"com/example/lob/lob/codec/PacketType", "fromNumber", "(I)Lcom/example/lob/lob/codec/PacketType;"⟩ : MethodName) prog_46_method_8_code 2 (some (.object "com/example/lob/lob/codec/PacketType")) :: ws) ({ frames := 0, cells := 0, slots := 0, locals := 0 } : Room)) (fun a U => a = #[(.int p1)] ∧ Z.Warmed39 U.vm ∧ U.heap = h0) (fun _ _ _ _ _ => True) (fun _ U o U' => ∃ v L, o = .returned v ∧ Q_rm1 Z p1 s_BY_NUMBER k_s_BY_NUMBER z_s_BY_NUMBER vs_s_BY_NUMBER w16 h0 n0 v U'.heap L ∧ FrameEnd U o U' L ({ frames := 0, cells := 0, slots := 0, locals := 0 } : Room).cells ({ frames := 0, cells := 0, slots := 0, locals := 0 } : Room).slots) := by
  refine MetFree.of_bodySF (plainFor_of_name pn_1) hisR ?_
  intro p e s m args below meth c s₁ Bd hml0 hP hK
  obtain ⟨rfl, hZ, hh⟩ := hP
  have hx := Bd.exec
  have hby := Bd.bytes
  have hml : c.maxLocals = 2 := hml0
  have hown : s.vm.findClass "com/example/lob/lob/codec/PacketType" = some m.cls := findClass_of_methodNamed Bd.named
  have hnm := (name_of_methodNamed Bd.named Bd.method).1
  have X0 : Stand p l e ({ frames := 0, cells := 0, slots := 0, locals := 0 } : Room) s m #[(.int p1)] below meth c s₁ [] 0 0 := Stand.of_body Bd
  have e0 : s₁.heap = h0 := by rw [← hh, Bd.state]; rfl
  have N0 := Fr.nil n0
  have pre0 : ∀ t, Steps p.tables e below (s₁.setTop (mkF m 0 #[.val (.int p1), .unset] [])) t → Steps p.tables e below (s₁.setTop (entryFrame m #[(.int p1)] 2)) t := fun t k => castTop (ef_1 m p1) k
  obtain ⟨T2, X2, e2, st2⟩ := getS2 X0 hx hZ hown (host := "") (Or.inl (hw _ (List.mem_of_getElem? (i := 5) rfl))) Via.refl e0 S_BY_NUMBER (g := (mkF m 5 #[.val (.int p1), .unset] [(.int p1)])) rfl (hb hby d1_5)
  obtain ⟨cl_s_BY_NUMBER_0, Ar_s_BY_NUMBER_0, q_s_BY_NUMBER_0, Sz_s_BY_NUMBER_0, Ng_s_BY_NUMBER_0, Ha_s_BY_NUMBER_0, Gt_s_BY_NUMBER_0⟩ := id V_s_BY_NUMBER
  obtain ⟨T3, X3, e3, st3⟩ := getS2 X2 hx hZ hown (host := "") (Or.inl (hw _ (List.mem_of_getElem? (i := 5) rfl))) Via.refl e2 S_BY_NUMBER (g := (mkF m 12 #[.val (.int p1), .unset] [])) rfl (hb hby d1_12)
  obtain ⟨cl_s_BY_NUMBER_1, Ar_s_BY_NUMBER_1, q_s_BY_NUMBER_1, Sz_s_BY_NUMBER_1, Ng_s_BY_NUMBER_1, Ha_s_BY_NUMBER_1, Gt_s_BY_NUMBER_1⟩ := id V_s_BY_NUMBER
  have hin_s_BY_NUMBER_1 : ¬ (p1 < 0 ∨ cl_s_BY_NUMBER_1.slots.size ≤ (p1).toNatClampNeg) := inb_of Sz_s_BY_NUMBER_1 hi16
  have hat_s_BY_NUMBER_1 : cl_s_BY_NUMBER_1.slots[(p1).toNatClampNeg]? = some (.ref w16) := (Ha_s_BY_NUMBER_1 _ (Nat.lt_of_not_le fun q => hin_s_BY_NUMBER_1 (Or.inr q))).trans (congrArg some (hs16 : (vs_s_BY_NUMBER).getD (p1).toNatClampNeg .null = (.ref w16)))
  obtain ⟨fs, hr, hrun, hended, hW, hsame⟩ := X3.leave (v := some (.ref w16)) (fun h => by rw [Bd.returns] at h; cases h)
  refine ⟨_, _, pre0 _ ?_, hrun, hended, _, _, rfl, ?_, ⟨_, rfl⟩, hW, hsame.mono (by decide) (by decide)⟩
  · show Steps p.tables e below (s₁.setTop (mkF m 0 #[.val (.int p1), .unset] [])) _
    refine XS.iloadN X0.here hx rfl (hb hby d1_0) rfl ?_
    show Steps p.tables e below (s₁.setTop (mkF m 1 #[.val (.int p1), .unset] [(.int p1)])) _
    refine XS.ifNo X0.here hx rfl (hb hby d1_1) rfl ((if0 _ _).trans (flt hc1).1) ?_
    show Steps p.tables e below (s₁.setTop (mkF m 4 #[.val (.int p1), .unset] [])) _
    refine XS.iloadN X0.here hx rfl (hb hby d1_4) rfl ?_
    show Steps p.tables e below (s₁.setTop (mkF m 5 #[.val (.int p1), .unset] [(.int p1)])) _
    refine st2 _ ?_
    show Steps p.tables e below (T2.setTop (mkF m 8 #[.val (.int p1), .unset] [(.ref s_BY_NUMBER), (.int p1)])) _
    refine X2.arraylength hx (by rw [e2]; exact Ar_s_BY_NUMBER_0.1) (State.isArrayOf_alike hZ.alike Ar_s_BY_NUMBER_0.2.1) (g := (mkF m 8 #[.val (.int p1), .unset] [(.ref s_BY_NUMBER), (.int p1)])) rfl rfl (hb hby d1_8) _ ?_
    rw [len_of Sz_s_BY_NUMBER_0 Ng_s_BY_NUMBER_0]
    show Steps p.tables e below (T2.setTop (mkF m 9 #[.val (.int p1), .unset] [(.int z_s_BY_NUMBER), (.int p1)])) _
    refine XS.icmpNo X2.here hx rfl (hb hby d1_9) rfl (tlt hc9).2.1 ?_
    show Steps p.tables e below (T2.setTop (mkF m 12 #[.val (.int p1), .unset] [])) _
    refine st3 _ ?_
    show Steps p.tables e below (T3.setTop (mkF m 15 #[.val (.int p1), .unset] [(.ref s_BY_NUMBER)])) _
    refine XS.iloadN X3.here hx rfl (hb hby d1_15) rfl ?_
    show Steps p.tables e below (T3.setTop (mkF m 16 #[.val (.int p1), .unset] [(.int p1), (.ref s_BY_NUMBER)])) _
    refine X3.aaload hx (j := p1) (v := (.ref w16)) (by rw [e3]; exact Ar_s_BY_NUMBER_1.1) (State.isArrayOf_alike hZ.alike Ar_s_BY_NUMBER_1.2.1) rfl Ar_s_BY_NUMBER_1.2.2 hin_s_BY_NUMBER_1 hat_s_BY_NUMBER_1 (g := (mkF m 16 #[.val (.int p1), .unset] [(.int p1), (.ref s_BY_NUMBER)])) rfl rfl (hb hby d1_16) _ ?_
    show Steps p.tables e below (T3.setTop (mkF m 17 #[.val (.int p1), .unset] [(.ref w16)])) _
    refine XS.goto X3.here hx rfl (pc0 := 17) (pc' := 21) rfl (hb hby d1_17) (by decide) (by decide) ?_
    show Steps p.tables e below (T3.setTop (mkF m 21 #[.val (.int p1), .unset] [(.ref w16)])) _
    refine XS.astoreN X3.here hx rfl (hb hby d1_21) rfl rfl (l' := #[.val (.int p1), .val (.ref w16)]) rfl ?_
    show Steps p.tables e below (T3.setTop (mkF m 22 #[.val (.int p1), .val (.ref w16)] [])) _
    refine XS.aloadN X3.here hx rfl (hb hby d1_22) rfl rfl ?_
    show Steps p.tables e below (T3.setTop (mkF m 23 #[.val (.int p1), .val (.ref w16)] [(.ref w16)])) _
    refine XS.ifnonnullYes X3.here hx rfl (pc0 := 23) (pc' := 40) rfl (hb hby d1_23) rfl (by decide) (by decide) ?_
    show Steps p.tables e below (T3.setTop (mkF m 40 #[.val (.int p1), .val (.ref w16)] [])) _
    refine XS.aloadN X3.here hx rfl (hb hby d1_40) rfl rfl ?_
    show Steps p.tables e below (T3.setTop (mkF m 41 #[.val (.int p1), .val (.ref w16)] [(.ref w16)])) _
    jvm_step X3.here [X3.here.top, hx, (hb hby d1_41), X3.method', Bd.returns, Value.isRef, FieldType.isReference]
    first | (intro acts; rw [hr _ acts rfl rfl rfl]) | rw [hr _ _ rfl rfl rfl]
    exact Steps.refl _
  · show Q_rm1 Z p1 s_BY_NUMBER k_s_BY_NUMBER z_s_BY_NUMBER vs_s_BY_NUMBER w16 h0 n0 _ T3.heap _
    exact ⟨rfl, N0, e3⟩
def F2 (p1 : Int32) (s_CONNECT : Addr) (s_CONNACK : Addr) (s_PUBLISH : Addr) (s_PUBACK : Addr) (s_PUBREC : Addr) (s_PUBREL : Addr) (s_PUBCOMP : Addr) (s_SUBSCRIBE : Addr) (s_SUBACK : Addr) (s_UNSUBSCRIBE : Addr) (s_UNSUBACK : Addr) (s_PINGREQ : Addr) (s_PINGRESP : Addr) (s_DISCONNECT : Addr) : Addr := (if p1 = (1 : Int32) then s_CONNECT else (if p1 = (2 : Int32) then s_CONNACK else (if p1 = (3 : Int32) then s_PUBLISH else (if p1 = (4 : Int32) then s_PUBACK else (if p1 = (5 : Int32) then s_PUBREC else (if p1 = (6 : Int32) then s_PUBREL else (if p1 = (7 : Int32) then s_PUBCOMP else (if p1 = (8 : Int32) then s_SUBSCRIBE else (if p1 = (9 : Int32) then s_SUBACK else (if p1 = (10 : Int32) then s_UNSUBSCRIBE else (if p1 = (11 : Int32) then s_UNSUBACK else (if p1 = (12 : Int32) then s_PINGREQ else (if p1 = (13 : Int32) then s_PINGRESP else s_DISCONNECT)))))))))))))
theorem d2_0 : decode method_2_code 0 = .ok (.iload_n 0, 1) := by decide +kernel
theorem d2_1 : decode method_2_code 1 = .ok (.iconst 1, 1) := by decide +kernel
theorem d2_2 : decode method_2_code 2 = .ok (.if_icmp .ne 7, 3) := by decide +kernel
theorem d2_5 : decode method_2_code 5 = .ok (.getstatic 7, 3) := by decide +kernel
theorem d2_8 : decode method_2_code 8 = .ok (.areturn, 1) := by decide +kernel
theorem pn_2 : plainName "com/example/lob/lob/codec/PacketTypeFromNumberPinLaw" = true := by first | (simp [plainName, overriddenIn]; done) | decide +kernel
theorem ef_2 (m : MethodId) (x0 : Int32) : entryFrame m #[(.int x0)] 1 = mkF m 0 #[.val (.int x0)] [] := by first | (simp [entryFrame, mkF, argsToLocals, Value.category]; done) | rfl
theorem d2_9 : decode method_2_code 9 = .ok (.iload_n 0, 1) := by decide +kernel
theorem d2_10 : decode method_2_code 10 = .ok (.iconst 2, 1) := by decide +kernel
theorem d2_11 : decode method_2_code 11 = .ok (.if_icmp .ne 7, 3) := by decide +kernel
theorem d2_14 : decode method_2_code 14 = .ok (.getstatic 13, 3) := by decide +kernel
theorem d2_17 : decode method_2_code 17 = .ok (.areturn, 1) := by decide +kernel
theorem d2_18 : decode method_2_code 18 = .ok (.iload_n 0, 1) := by decide +kernel
theorem d2_19 : decode method_2_code 19 = .ok (.iconst 3, 1) := by decide +kernel
theorem d2_20 : decode method_2_code 20 = .ok (.if_icmp .ne 7, 3) := by decide +kernel
theorem d2_23 : decode method_2_code 23 = .ok (.getstatic 16, 3) := by decide +kernel
theorem d2_26 : decode method_2_code 26 = .ok (.areturn, 1) := by decide +kernel
theorem d2_27 : decode method_2_code 27 = .ok (.iload_n 0, 1) := by decide +kernel
theorem d2_28 : decode method_2_code 28 = .ok (.iconst 4, 1) := by decide +kernel
theorem d2_29 : decode method_2_code 29 = .ok (.if_icmp .ne 7, 3) := by decide +kernel
theorem d2_32 : decode method_2_code 32 = .ok (.getstatic 19, 3) := by decide +kernel
theorem d2_35 : decode method_2_code 35 = .ok (.areturn, 1) := by decide +kernel
theorem d2_36 : decode method_2_code 36 = .ok (.iload_n 0, 1) := by decide +kernel
theorem d2_37 : decode method_2_code 37 = .ok (.iconst 5, 1) := by decide +kernel
theorem d2_38 : decode method_2_code 38 = .ok (.if_icmp .ne 7, 3) := by decide +kernel
theorem d2_41 : decode method_2_code 41 = .ok (.getstatic 22, 3) := by decide +kernel
theorem d2_44 : decode method_2_code 44 = .ok (.areturn, 1) := by decide +kernel
theorem d2_45 : decode method_2_code 45 = .ok (.iload_n 0, 1) := by decide +kernel
theorem d2_46 : decode method_2_code 46 = .ok (.bipush 6, 2) := by decide +kernel
theorem d2_48 : decode method_2_code 48 = .ok (.if_icmp .ne 7, 3) := by decide +kernel
theorem d2_51 : decode method_2_code 51 = .ok (.getstatic 25, 3) := by decide +kernel
theorem d2_54 : decode method_2_code 54 = .ok (.areturn, 1) := by decide +kernel
theorem d2_55 : decode method_2_code 55 = .ok (.iload_n 0, 1) := by decide +kernel
theorem d2_56 : decode method_2_code 56 = .ok (.bipush 7, 2) := by decide +kernel
theorem d2_58 : decode method_2_code 58 = .ok (.if_icmp .ne 7, 3) := by decide +kernel
theorem d2_61 : decode method_2_code 61 = .ok (.getstatic 28, 3) := by decide +kernel
theorem d2_64 : decode method_2_code 64 = .ok (.areturn, 1) := by decide +kernel
theorem d2_65 : decode method_2_code 65 = .ok (.iload_n 0, 1) := by decide +kernel
theorem d2_66 : decode method_2_code 66 = .ok (.bipush 8, 2) := by decide +kernel
theorem d2_68 : decode method_2_code 68 = .ok (.if_icmp .ne 7, 3) := by decide +kernel
theorem d2_71 : decode method_2_code 71 = .ok (.getstatic 31, 3) := by decide +kernel
theorem d2_74 : decode method_2_code 74 = .ok (.areturn, 1) := by decide +kernel
theorem d2_75 : decode method_2_code 75 = .ok (.iload_n 0, 1) := by decide +kernel
theorem d2_76 : decode method_2_code 76 = .ok (.bipush 9, 2) := by decide +kernel
theorem d2_78 : decode method_2_code 78 = .ok (.if_icmp .ne 7, 3) := by decide +kernel
theorem d2_81 : decode method_2_code 81 = .ok (.getstatic 34, 3) := by decide +kernel
theorem d2_84 : decode method_2_code 84 = .ok (.areturn, 1) := by decide +kernel
theorem d2_85 : decode method_2_code 85 = .ok (.iload_n 0, 1) := by decide +kernel
theorem d2_86 : decode method_2_code 86 = .ok (.bipush 10, 2) := by decide +kernel
theorem d2_88 : decode method_2_code 88 = .ok (.if_icmp .ne 7, 3) := by decide +kernel
theorem d2_91 : decode method_2_code 91 = .ok (.getstatic 37, 3) := by decide +kernel
theorem d2_94 : decode method_2_code 94 = .ok (.areturn, 1) := by decide +kernel
theorem d2_95 : decode method_2_code 95 = .ok (.iload_n 0, 1) := by decide +kernel
theorem d2_96 : decode method_2_code 96 = .ok (.bipush 11, 2) := by decide +kernel
theorem d2_98 : decode method_2_code 98 = .ok (.if_icmp .ne 7, 3) := by decide +kernel
theorem d2_101 : decode method_2_code 101 = .ok (.getstatic 40, 3) := by decide +kernel
theorem d2_104 : decode method_2_code 104 = .ok (.areturn, 1) := by decide +kernel
theorem d2_105 : decode method_2_code 105 = .ok (.iload_n 0, 1) := by decide +kernel
theorem d2_106 : decode method_2_code 106 = .ok (.bipush 12, 2) := by decide +kernel
theorem d2_108 : decode method_2_code 108 = .ok (.if_icmp .ne 7, 3) := by decide +kernel
theorem d2_111 : decode method_2_code 111 = .ok (.getstatic 43, 3) := by decide +kernel
theorem d2_114 : decode method_2_code 114 = .ok (.areturn, 1) := by decide +kernel
theorem d2_115 : decode method_2_code 115 = .ok (.iload_n 0, 1) := by decide +kernel
theorem d2_116 : decode method_2_code 116 = .ok (.bipush 13, 2) := by decide +kernel
theorem d2_118 : decode method_2_code 118 = .ok (.if_icmp .ne 7, 3) := by decide +kernel
theorem d2_121 : decode method_2_code 121 = .ok (.getstatic 46, 3) := by decide +kernel
theorem d2_124 : decode method_2_code 124 = .ok (.areturn, 1) := by decide +kernel
theorem d2_125 : decode method_2_code 125 = .ok (.getstatic 49, 3) := by decide +kernel
theorem d2_128 : decode method_2_code 128 = .ok (.areturn, 1) := by decide +kernel
def Q_rm2 (Z : State) (p1 : Int32) (s_CONNECT : Addr) (s_CONNACK : Addr) (s_PUBLISH : Addr) (s_PUBACK : Addr) (s_PUBREC : Addr) (s_PUBREL : Addr) (s_PUBCOMP : Addr) (s_SUBSCRIBE : Addr) (s_SUBACK : Addr) (s_UNSUBSCRIBE : Addr) (s_UNSUBACK : Addr) (s_PINGREQ : Addr) (s_PINGRESP : Addr) (s_DISCONNECT : Addr) (h0 : Heap) (n0 : Nat) (v : Option Value) (h : Heap) (L : List Loc) : Prop := v = some (.ref (F2 p1 s_CONNECT s_CONNACK s_PUBLISH s_PUBACK s_PUBREC s_PUBREL s_PUBCOMP s_SUBSCRIBE s_SUBACK s_UNSUBSCRIBE s_UNSUBACK s_PINGREQ s_PINGRESP s_DISCONNECT)) ∧ Fr n0 L ∧ h = h0
set_option maxRecDepth 65536 in
set_option maxHeartbeats 40000000 in
theorem rm2_f (l : Launch) (Z : State) (a0 : Array Value) (hw : ∀ d ∈ tables_1, d.before a0 Z = true) (ws : List Jvm.Cond) (p1 : Int32) (s_CONNECT : Addr) (s_CONNACK : Addr) (s_PUBLISH : Addr) (s_PUBACK : Addr) (s_PUBREC : Addr) (s_PUBREL : Addr) (s_PUBCOMP : Addr) (s_SUBSCRIBE : Addr) (s_SUBACK : Addr) (s_UNSUBSCRIBE : Addr) (s_UNSUBACK : Addr) (s_PINGREQ : Addr) (s_PINGRESP : Addr) (s_DISCONNECT : Addr) (h0 : Heap) (n0 : Nat) (Z0 : n0 ≤ h0.size) (S_CONNECT : Sta Z h0 "com/example/lob/lob/codec/PacketType" "CONNECT" "Lcom/example/lob/lob/codec/PacketType;" (.ref s_CONNECT)) (S_CONNACK : Sta Z h0 "com/example/lob/lob/codec/PacketType" "CONNACK" "Lcom/example/lob/lob/codec/PacketType;" (.ref s_CONNACK)) (S_PUBLISH : Sta Z h0 "com/example/lob/lob/codec/PacketType" "PUBLISH" "Lcom/example/lob/lob/codec/PacketType;" (.ref s_PUBLISH)) (S_PUBACK : Sta Z h0 "com/example/lob/lob/codec/PacketType" "PUBACK" "Lcom/example/lob/lob/codec/PacketType;" (.ref s_PUBACK)) (S_PUBREC : Sta Z h0 "com/example/lob/lob/codec/PacketType" "PUBREC" "Lcom/example/lob/lob/codec/PacketType;" (.ref s_PUBREC)) (S_PUBREL : Sta Z h0 "com/example/lob/lob/codec/PacketType" "PUBREL" "Lcom/example/lob/lob/codec/PacketType;" (.ref s_PUBREL)) (S_PUBCOMP : Sta Z h0 "com/example/lob/lob/codec/PacketType" "PUBCOMP" "Lcom/example/lob/lob/codec/PacketType;" (.ref s_PUBCOMP)) (S_SUBSCRIBE : Sta Z h0 "com/example/lob/lob/codec/PacketType" "SUBSCRIBE" "Lcom/example/lob/lob/codec/PacketType;" (.ref s_SUBSCRIBE)) (S_SUBACK : Sta Z h0 "com/example/lob/lob/codec/PacketType" "SUBACK" "Lcom/example/lob/lob/codec/PacketType;" (.ref s_SUBACK)) (S_UNSUBSCRIBE : Sta Z h0 "com/example/lob/lob/codec/PacketType" "UNSUBSCRIBE" "Lcom/example/lob/lob/codec/PacketType;" (.ref s_UNSUBSCRIBE)) (S_UNSUBACK : Sta Z h0 "com/example/lob/lob/codec/PacketType" "UNSUBACK" "Lcom/example/lob/lob/codec/PacketType;" (.ref s_UNSUBACK)) (S_PINGREQ : Sta Z h0 "com/example/lob/lob/codec/PacketType" "PINGREQ" "Lcom/example/lob/lob/codec/PacketType;" (.ref s_PINGREQ)) (S_PINGRESP : Sta Z h0 "com/example/lob/lob/codec/PacketType" "PINGRESP" "Lcom/example/lob/lob/codec/PacketType;" (.ref s_PINGRESP)) (S_DISCONNECT : Sta Z h0 "com/example/lob/lob/codec/PacketType" "DISCONNECT" "Lcom/example/lob/lob/codec/PacketType;" (.ref s_DISCONNECT)) (hc2 : p1 = (1 : Int32)) :
    MetFree l (⟨"com/example/lob/lob/codec/PacketTypeFromNumberPinLaw", "expected", "(I)Lcom/example/lob/lob/codec/PacketType;"⟩ : MethodName) (head1 (Jvm.Cond.code (⟨"com/example/lob/lob/codec/PacketTypeFromNumberPinLaw", "expected", "(I)Lcom/example/lob/lob/codec/PacketType;"⟩ : MethodName) method_2_code 1 (some (.object "com/example/lob/lob/codec/PacketType")) :: ws) ({ frames := 0, cells := 0, slots := 0, locals := 0 } : Room)) (fun a U => a = #[(.int p1)] ∧ Z.Warmed39 U.vm ∧ U.heap = h0) (fun _ _ _ _ _ => True) (fun _ U o U' => ∃ v L, o = .returned v ∧ Q_rm2 Z p1 s_CONNECT s_CONNACK s_PUBLISH s_PUBACK s_PUBREC s_PUBREL s_PUBCOMP s_SUBSCRIBE s_SUBACK s_UNSUBSCRIBE s_UNSUBACK s_PINGREQ s_PINGRESP s_DISCONNECT h0 n0 v U'.heap L ∧ FrameEnd U o U' L ({ frames := 0, cells := 0, slots := 0, locals := 0 } : Room).cells ({ frames := 0, cells := 0, slots := 0, locals := 0 } : Room).slots) := by
  refine MetFree.of_bodySF (plainFor_of_name pn_2) hisR ?_
  intro p e s m args below meth c s₁ Bd hml0 hP hK
  obtain ⟨rfl, hZ, hh⟩ := hP
  have hx := Bd.exec
  have hby := Bd.bytes
  have hml : c.maxLocals = 1 := hml0
  have hown : s.vm.findClass "com/example/lob/lob/codec/PacketTypeFromNumberPinLaw" = some m.cls := findClass_of_methodNamed Bd.named
  have hnm := (name_of_methodNamed Bd.named Bd.method).1
  have X0 : Stand p l e ({ frames := 0, cells := 0, slots := 0, locals := 0 } : Room) s m #[(.int p1)] below meth c s₁ [] 0 0 := Stand.of_body Bd
  have e0 : s₁.heap = h0 := by rw [← hh, Bd.state]; rfl
  have N0 := Fr.nil n0
  have pre0 : ∀ t, Steps p.tables e below (s₁.setTop (mkF m 0 #[.val (.int p1)] [])) t → Steps p.tables e below (s₁.setTop (entryFrame m #[(.int p1)] 1)) t := fun t k => castTop (ef_2 m p1) k
  obtain ⟨T2, X2, e2, st2⟩ := getS2 X0 hx hZ hown (host := "") (Or.inl (hw _ (List.mem_of_getElem? (i := 12) rfl))) Via.refl e0 S_CONNECT (g := (mkF m 5 #[.val (.int p1)] [])) rfl (hb hby d2_5)
  obtain ⟨fs, hr, hrun, hended, hW, hsame⟩ := X2.leave (v := some (.ref s_CONNECT)) (fun h => by rw [Bd.returns] at h; cases h)
  refine ⟨_, _, pre0 _ ?_, hrun, hended, _, _, rfl, ?_, ⟨_, rfl⟩, hW, hsame.mono (by decide) (by decide)⟩
  · show Steps p.tables e below (s₁.setTop (mkF m 0 #[.val (.int p1)] [])) _
    refine XS.iloadN X0.here hx rfl (hb hby d2_0) rfl ?_
    show Steps p.tables e below (s₁.setTop (mkF m 1 #[.val (.int p1)] [(.int p1)])) _
    refine XS.iconst X0.here hx rfl (hb hby d2_1) ?_
    show Steps p.tables e below (s₁.setTop (mkF m 2 #[.val (.int p1)] [(.int (1 : Int32)), (.int p1)])) _
    refine XS.icmpNo X0.here hx rfl (hb hby d2_2) rfl (teq hc2).2 ?_
    show Steps p.tables e below (s₁.setTop (mkF m 5 #[.val (.int p1)] [])) _
    refine st2 _ ?_
    show Steps p.tables e below (T2.setTop (mkF m 8 #[.val (.int p1)] [(.ref s_CONNECT)])) _
    jvm_step X2.here [X2.here.top, hx, (hb hby d2_8), X2.method', Bd.returns, Value.isRef, FieldType.isReference]
    first | (intro acts; rw [hr _ acts rfl rfl rfl]) | rw [hr _ _ rfl rfl rfl]
    exact Steps.refl _
  · show Q_rm2 Z p1 s_CONNECT s_CONNACK s_PUBLISH s_PUBACK s_PUBREC s_PUBREL s_PUBCOMP s_SUBSCRIBE s_SUBACK s_UNSUBSCRIBE s_UNSUBACK s_PINGREQ s_PINGRESP s_DISCONNECT h0 n0 _ T2.heap _
    exact ⟨by rw [F2, if_pos hc2], N0, e2⟩
set_option maxRecDepth 65536 in
set_option maxHeartbeats 40000000 in
theorem rm2_tf (l : Launch) (Z : State) (a0 : Array Value) (hw : ∀ d ∈ tables_1, d.before a0 Z = true) (ws : List Jvm.Cond) (p1 : Int32) (s_CONNECT : Addr) (s_CONNACK : Addr) (s_PUBLISH : Addr) (s_PUBACK : Addr) (s_PUBREC : Addr) (s_PUBREL : Addr) (s_PUBCOMP : Addr) (s_SUBSCRIBE : Addr) (s_SUBACK : Addr) (s_UNSUBSCRIBE : Addr) (s_UNSUBACK : Addr) (s_PINGREQ : Addr) (s_PINGRESP : Addr) (s_DISCONNECT : Addr) (h0 : Heap) (n0 : Nat) (Z0 : n0 ≤ h0.size) (S_CONNECT : Sta Z h0 "com/example/lob/lob/codec/PacketType" "CONNECT" "Lcom/example/lob/lob/codec/PacketType;" (.ref s_CONNECT)) (S_CONNACK : Sta Z h0 "com/example/lob/lob/codec/PacketType" "CONNACK" "Lcom/example/lob/lob/codec/PacketType;" (.ref s_CONNACK)) (S_PUBLISH : Sta Z h0 "com/example/lob/lob/codec/PacketType" "PUBLISH" "Lcom/example/lob/lob/codec/PacketType;" (.ref s_PUBLISH)) (S_PUBACK : Sta Z h0 "com/example/lob/lob/codec/PacketType" "PUBACK" "Lcom/example/lob/lob/codec/PacketType;" (.ref s_PUBACK)) (S_PUBREC : Sta Z h0 "com/example/lob/lob/codec/PacketType" "PUBREC" "Lcom/example/lob/lob/codec/PacketType;" (.ref s_PUBREC)) (S_PUBREL : Sta Z h0 "com/example/lob/lob/codec/PacketType" "PUBREL" "Lcom/example/lob/lob/codec/PacketType;" (.ref s_PUBREL)) (S_PUBCOMP : Sta Z h0 "com/example/lob/lob/codec/PacketType" "PUBCOMP" "Lcom/example/lob/lob/codec/PacketType;" (.ref s_PUBCOMP)) (S_SUBSCRIBE : Sta Z h0 "com/example/lob/lob/codec/PacketType" "SUBSCRIBE" "Lcom/example/lob/lob/codec/PacketType;" (.ref s_SUBSCRIBE)) (S_SUBACK : Sta Z h0 "com/example/lob/lob/codec/PacketType" "SUBACK" "Lcom/example/lob/lob/codec/PacketType;" (.ref s_SUBACK)) (S_UNSUBSCRIBE : Sta Z h0 "com/example/lob/lob/codec/PacketType" "UNSUBSCRIBE" "Lcom/example/lob/lob/codec/PacketType;" (.ref s_UNSUBSCRIBE)) (S_UNSUBACK : Sta Z h0 "com/example/lob/lob/codec/PacketType" "UNSUBACK" "Lcom/example/lob/lob/codec/PacketType;" (.ref s_UNSUBACK)) (S_PINGREQ : Sta Z h0 "com/example/lob/lob/codec/PacketType" "PINGREQ" "Lcom/example/lob/lob/codec/PacketType;" (.ref s_PINGREQ)) (S_PINGRESP : Sta Z h0 "com/example/lob/lob/codec/PacketType" "PINGRESP" "Lcom/example/lob/lob/codec/PacketType;" (.ref s_PINGRESP)) (S_DISCONNECT : Sta Z h0 "com/example/lob/lob/codec/PacketType" "DISCONNECT" "Lcom/example/lob/lob/codec/PacketType;" (.ref s_DISCONNECT)) (hc2 : ¬ (p1 = (1 : Int32))) (hc11 : p1 = (2 : Int32)) :
    MetFree l (⟨"com/example/lob/lob/codec/PacketTypeFromNumberPinLaw", "expected", "(I)Lcom/example/lob/lob/codec/PacketType;"⟩ : MethodName) (head1 (Jvm.Cond.code (⟨"com/example/lob/lob/codec/PacketTypeFromNumberPinLaw", "expected", "(I)Lcom/example/lob/lob/codec/PacketType;"⟩ : MethodName) method_2_code 1 (some (.object "com/example/lob/lob/codec/PacketType")) :: ws) ({ frames := 0, cells := 0, slots := 0, locals := 0 } : Room)) (fun a U => a = #[(.int p1)] ∧ Z.Warmed39 U.vm ∧ U.heap = h0) (fun _ _ _ _ _ => True) (fun _ U o U' => ∃ v L, o = .returned v ∧ Q_rm2 Z p1 s_CONNECT s_CONNACK s_PUBLISH s_PUBACK s_PUBREC s_PUBREL s_PUBCOMP s_SUBSCRIBE s_SUBACK s_UNSUBSCRIBE s_UNSUBACK s_PINGREQ s_PINGRESP s_DISCONNECT h0 n0 v U'.heap L ∧ FrameEnd U o U' L ({ frames := 0, cells := 0, slots := 0, locals := 0 } : Room).cells ({ frames := 0, cells := 0, slots := 0, locals := 0 } : Room).slots) := by
  refine MetFree.of_bodySF (plainFor_of_name pn_2) hisR ?_
  intro p e s m args below meth c s₁ Bd hml0 hP hK
  obtain ⟨rfl, hZ, hh⟩ := hP
  have hx := Bd.exec
  have hby := Bd.bytes
  have hml : c.maxLocals = 1 := hml0
  have hown : s.vm.findClass "com/example/lob/lob/codec/PacketTypeFromNumberPinLaw" = some m.cls := findClass_of_methodNamed Bd.named
  have hnm := (name_of_methodNamed Bd.named Bd.method).1
  have X0 : Stand p l e ({ frames := 0, cells := 0, slots := 0, locals := 0 } : Room) s m #[(.int p1)] below meth c s₁ [] 0 0 := Stand.of_body Bd
  have e0 : s₁.heap = h0 := by rw [← hh, Bd.state]; rfl
  have N0 := Fr.nil n0
  have pre0 : ∀ t, Steps p.tables e below (s₁.setTop (mkF m 0 #[.val (.int p1)] [])) t → Steps p.tables e below (s₁.setTop (entryFrame m #[(.int p1)] 1)) t := fun t k => castTop (ef_2 m p1) k
  obtain ⟨T2, X2, e2, st2⟩ := getS2 X0 hx hZ hown (host := "") (Or.inl (hw _ (List.mem_of_getElem? (i := 39) rfl))) Via.refl e0 S_CONNACK (g := (mkF m 14 #[.val (.int p1)] [])) rfl (hb hby d2_14)
  obtain ⟨fs, hr, hrun, hended, hW, hsame⟩ := X2.leave (v := some (.ref s_CONNACK)) (fun h => by rw [Bd.returns] at h; cases h)
  refine ⟨_, _, pre0 _ ?_, hrun, hended, _, _, rfl, ?_, ⟨_, rfl⟩, hW, hsame.mono (by decide) (by decide)⟩
  · show Steps p.tables e below (s₁.setTop (mkF m 0 #[.val (.int p1)] [])) _
    refine XS.iloadN X0.here hx rfl (hb hby d2_0) rfl ?_
    show Steps p.tables e below (s₁.setTop (mkF m 1 #[.val (.int p1)] [(.int p1)])) _
    refine XS.iconst X0.here hx rfl (hb hby d2_1) ?_
    show Steps p.tables e below (s₁.setTop (mkF m 2 #[.val (.int p1)] [(.int (1 : Int32)), (.int p1)])) _
    refine XS.icmpYes X0.here hx rfl (pc0 := 2) (pc' := 9) rfl (hb hby d2_2) rfl (feq hc2).2 (by decide) (by decide) ?_
    show Steps p.tables e below (s₁.setTop (mkF m 9 #[.val (.int p1)] [])) _
    refine XS.iloadN X0.here hx rfl (hb hby d2_9) rfl ?_
    show Steps p.tables e below (s₁.setTop (mkF m 10 #[.val (.int p1)] [(.int p1)])) _
    refine XS.iconst X0.here hx rfl (hb hby d2_10) ?_
    show Steps p.tables e below (s₁.setTop (mkF m 11 #[.val (.int p1)] [(.int (2 : Int32)), (.int p1)])) _
    refine XS.icmpNo X0.here hx rfl (hb hby d2_11) rfl (teq hc11).2 ?_
    show Steps p.tables e below (s₁.setTop (mkF m 14 #[.val (.int p1)] [])) _
    refine st2 _ ?_
    show Steps p.tables e below (T2.setTop (mkF m 17 #[.val (.int p1)] [(.ref s_CONNACK)])) _
    jvm_step X2.here [X2.here.top, hx, (hb hby d2_17), X2.method', Bd.returns, Value.isRef, FieldType.isReference]
    first | (intro acts; rw [hr _ acts rfl rfl rfl]) | rw [hr _ _ rfl rfl rfl]
    exact Steps.refl _
  · show Q_rm2 Z p1 s_CONNECT s_CONNACK s_PUBLISH s_PUBACK s_PUBREC s_PUBREL s_PUBCOMP s_SUBSCRIBE s_SUBACK s_UNSUBSCRIBE s_UNSUBACK s_PINGREQ s_PINGRESP s_DISCONNECT h0 n0 _ T2.heap _
    exact ⟨by rw [F2, if_neg hc2, if_pos hc11], N0, e2⟩
set_option maxRecDepth 65536 in
set_option maxHeartbeats 40000000 in
theorem rm2_ttf (l : Launch) (Z : State) (a0 : Array Value) (hw : ∀ d ∈ tables_1, d.before a0 Z = true) (ws : List Jvm.Cond) (p1 : Int32) (s_CONNECT : Addr) (s_CONNACK : Addr) (s_PUBLISH : Addr) (s_PUBACK : Addr) (s_PUBREC : Addr) (s_PUBREL : Addr) (s_PUBCOMP : Addr) (s_SUBSCRIBE : Addr) (s_SUBACK : Addr) (s_UNSUBSCRIBE : Addr) (s_UNSUBACK : Addr) (s_PINGREQ : Addr) (s_PINGRESP : Addr) (s_DISCONNECT : Addr) (h0 : Heap) (n0 : Nat) (Z0 : n0 ≤ h0.size) (S_CONNECT : Sta Z h0 "com/example/lob/lob/codec/PacketType" "CONNECT" "Lcom/example/lob/lob/codec/PacketType;" (.ref s_CONNECT)) (S_CONNACK : Sta Z h0 "com/example/lob/lob/codec/PacketType" "CONNACK" "Lcom/example/lob/lob/codec/PacketType;" (.ref s_CONNACK)) (S_PUBLISH : Sta Z h0 "com/example/lob/lob/codec/PacketType" "PUBLISH" "Lcom/example/lob/lob/codec/PacketType;" (.ref s_PUBLISH)) (S_PUBACK : Sta Z h0 "com/example/lob/lob/codec/PacketType" "PUBACK" "Lcom/example/lob/lob/codec/PacketType;" (.ref s_PUBACK)) (S_PUBREC : Sta Z h0 "com/example/lob/lob/codec/PacketType" "PUBREC" "Lcom/example/lob/lob/codec/PacketType;" (.ref s_PUBREC)) (S_PUBREL : Sta Z h0 "com/example/lob/lob/codec/PacketType" "PUBREL" "Lcom/example/lob/lob/codec/PacketType;" (.ref s_PUBREL)) (S_PUBCOMP : Sta Z h0 "com/example/lob/lob/codec/PacketType" "PUBCOMP" "Lcom/example/lob/lob/codec/PacketType;" (.ref s_PUBCOMP)) (S_SUBSCRIBE : Sta Z h0 "com/example/lob/lob/codec/PacketType" "SUBSCRIBE" "Lcom/example/lob/lob/codec/PacketType;" (.ref s_SUBSCRIBE)) (S_SUBACK : Sta Z h0 "com/example/lob/lob/codec/PacketType" "SUBACK" "Lcom/example/lob/lob/codec/PacketType;" (.ref s_SUBACK)) (S_UNSUBSCRIBE : Sta Z h0 "com/example/lob/lob/codec/PacketType" "UNSUBSCRIBE" "Lcom/example/lob/lob/codec/PacketType;" (.ref s_UNSUBSCRIBE)) (S_UNSUBACK : Sta Z h0 "com/example/lob/lob/codec/PacketType" "UNSUBACK" "Lcom/example/lob/lob/codec/PacketType;" (.ref s_UNSUBACK)) (S_PINGREQ : Sta Z h0 "com/example/lob/lob/codec/PacketType" "PINGREQ" "Lcom/example/lob/lob/codec/PacketType;" (.ref s_PINGREQ)) (S_PINGRESP : Sta Z h0 "com/example/lob/lob/codec/PacketType" "PINGRESP" "Lcom/example/lob/lob/codec/PacketType;" (.ref s_PINGRESP)) (S_DISCONNECT : Sta Z h0 "com/example/lob/lob/codec/PacketType" "DISCONNECT" "Lcom/example/lob/lob/codec/PacketType;" (.ref s_DISCONNECT)) (hc2 : ¬ (p1 = (1 : Int32))) (hc11 : ¬ (p1 = (2 : Int32))) (hc20 : p1 = (3 : Int32)) :
    MetFree l (⟨"com/example/lob/lob/codec/PacketTypeFromNumberPinLaw", "expected", "(I)Lcom/example/lob/lob/codec/PacketType;"⟩ : MethodName) (head1 (Jvm.Cond.code (⟨"com/example/lob/lob/codec/PacketTypeFromNumberPinLaw", "expected", "(I)Lcom/example/lob/lob/codec/PacketType;"⟩ : MethodName) method_2_code 1 (some (.object "com/example/lob/lob/codec/PacketType")) :: ws) ({ frames := 0, cells := 0, slots := 0, locals := 0 } : Room)) (fun a U => a = #[(.int p1)] ∧ Z.Warmed39 U.vm ∧ U.heap = h0) (fun _ _ _ _ _ => True) (fun _ U o U' => ∃ v L, o = .returned v ∧ Q_rm2 Z p1 s_CONNECT s_CONNACK s_PUBLISH s_PUBACK s_PUBREC s_PUBREL s_PUBCOMP s_SUBSCRIBE s_SUBACK s_UNSUBSCRIBE s_UNSUBACK s_PINGREQ s_PINGRESP s_DISCONNECT h0 n0 v U'.heap L ∧ FrameEnd U o U' L ({ frames := 0, cells := 0, slots := 0, locals := 0 } : Room).cells ({ frames := 0, cells := 0, slots := 0, locals := 0 } : Room).slots) := by
  refine MetFree.of_bodySF (plainFor_of_name pn_2) hisR ?_
  intro p e s m args below meth c s₁ Bd hml0 hP hK
  obtain ⟨rfl, hZ, hh⟩ := hP
  have hx := Bd.exec
  have hby := Bd.bytes
  have hml : c.maxLocals = 1 := hml0
  have hown : s.vm.findClass "com/example/lob/lob/codec/PacketTypeFromNumberPinLaw" = some m.cls := findClass_of_methodNamed Bd.named
  have hnm := (name_of_methodNamed Bd.named Bd.method).1
  have X0 : Stand p l e ({ frames := 0, cells := 0, slots := 0, locals := 0 } : Room) s m #[(.int p1)] below meth c s₁ [] 0 0 := Stand.of_body Bd
  have e0 : s₁.heap = h0 := by rw [← hh, Bd.state]; rfl
  have N0 := Fr.nil n0
  have pre0 : ∀ t, Steps p.tables e below (s₁.setTop (mkF m 0 #[.val (.int p1)] [])) t → Steps p.tables e below (s₁.setTop (entryFrame m #[(.int p1)] 1)) t := fun t k => castTop (ef_2 m p1) k
  obtain ⟨T2, X2, e2, st2⟩ := getS2 X0 hx hZ hown (host := "") (Or.inl (hw _ (List.mem_of_getElem? (i := 31) rfl))) Via.refl e0 S_PUBLISH (g := (mkF m 23 #[.val (.int p1)] [])) rfl (hb hby d2_23)
  obtain ⟨fs, hr, hrun, hended, hW, hsame⟩ := X2.leave (v := some (.ref s_PUBLISH)) (fun h => by rw [Bd.returns] at h; cases h)
  refine ⟨_, _, pre0 _ ?_, hrun, hended, _, _, rfl, ?_, ⟨_, rfl⟩, hW, hsame.mono (by decide) (by decide)⟩
  · show Steps p.tables e below (s₁.setTop (mkF m 0 #[.val (.int p1)] [])) _
    refine XS.iloadN X0.here hx rfl (hb hby d2_0) rfl ?_
    show Steps p.tables e below (s₁.setTop (mkF m 1 #[.val (.int p1)] [(.int p1)])) _
    refine XS.iconst X0.here hx rfl (hb hby d2_1) ?_
    show Steps p.tables e below (s₁.setTop (mkF m 2 #[.val (.int p1)] [(.int (1 : Int32)), (.int p1)])) _
    refine XS.icmpYes X0.here hx rfl (pc0 := 2) (pc' := 9) rfl (hb hby d2_2) rfl (feq hc2).2 (by decide) (by decide) ?_
    show Steps p.tables e below (s₁.setTop (mkF m 9 #[.val (.int p1)] [])) _
    refine XS.iloadN X0.here hx rfl (hb hby d2_9) rfl ?_
    show Steps p.tables e below (s₁.setTop (mkF m 10 #[.val (.int p1)] [(.int p1)])) _
    refine XS.iconst X0.here hx rfl (hb hby d2_10) ?_
    show Steps p.tables e below (s₁.setTop (mkF m 11 #[.val (.int p1)] [(.int (2 : Int32)), (.int p1)])) _
    refine XS.icmpYes X0.here hx rfl (pc0 := 11) (pc' := 18) rfl (hb hby d2_11) rfl (feq hc11).2 (by decide) (by decide) ?_
    show Steps p.tables e below (s₁.setTop (mkF m 18 #[.val (.int p1)] [])) _
    refine XS.iloadN X0.here hx rfl (hb hby d2_18) rfl ?_
    show Steps p.tables e below (s₁.setTop (mkF m 19 #[.val (.int p1)] [(.int p1)])) _
    refine XS.iconst X0.here hx rfl (hb hby d2_19) ?_
    show Steps p.tables e below (s₁.setTop (mkF m 20 #[.val (.int p1)] [(.int (3 : Int32)), (.int p1)])) _
    refine XS.icmpNo X0.here hx rfl (hb hby d2_20) rfl (teq hc20).2 ?_
    show Steps p.tables e below (s₁.setTop (mkF m 23 #[.val (.int p1)] [])) _
    refine st2 _ ?_
    show Steps p.tables e below (T2.setTop (mkF m 26 #[.val (.int p1)] [(.ref s_PUBLISH)])) _
    jvm_step X2.here [X2.here.top, hx, (hb hby d2_26), X2.method', Bd.returns, Value.isRef, FieldType.isReference]
    first | (intro acts; rw [hr _ acts rfl rfl rfl]) | rw [hr _ _ rfl rfl rfl]
    exact Steps.refl _
  · show Q_rm2 Z p1 s_CONNECT s_CONNACK s_PUBLISH s_PUBACK s_PUBREC s_PUBREL s_PUBCOMP s_SUBSCRIBE s_SUBACK s_UNSUBSCRIBE s_UNSUBACK s_PINGREQ s_PINGRESP s_DISCONNECT h0 n0 _ T2.heap _
    exact ⟨by rw [F2, if_neg hc2, if_neg hc11, if_pos hc20], N0, e2⟩
set_option maxRecDepth 65536 in
set_option maxHeartbeats 40000000 in
theorem rm2_tttf (l : Launch) (Z : State) (a0 : Array Value) (hw : ∀ d ∈ tables_1, d.before a0 Z = true) (ws : List Jvm.Cond) (p1 : Int32) (s_CONNECT : Addr) (s_CONNACK : Addr) (s_PUBLISH : Addr) (s_PUBACK : Addr) (s_PUBREC : Addr) (s_PUBREL : Addr) (s_PUBCOMP : Addr) (s_SUBSCRIBE : Addr) (s_SUBACK : Addr) (s_UNSUBSCRIBE : Addr) (s_UNSUBACK : Addr) (s_PINGREQ : Addr) (s_PINGRESP : Addr) (s_DISCONNECT : Addr) (h0 : Heap) (n0 : Nat) (Z0 : n0 ≤ h0.size) (S_CONNECT : Sta Z h0 "com/example/lob/lob/codec/PacketType" "CONNECT" "Lcom/example/lob/lob/codec/PacketType;" (.ref s_CONNECT)) (S_CONNACK : Sta Z h0 "com/example/lob/lob/codec/PacketType" "CONNACK" "Lcom/example/lob/lob/codec/PacketType;" (.ref s_CONNACK)) (S_PUBLISH : Sta Z h0 "com/example/lob/lob/codec/PacketType" "PUBLISH" "Lcom/example/lob/lob/codec/PacketType;" (.ref s_PUBLISH)) (S_PUBACK : Sta Z h0 "com/example/lob/lob/codec/PacketType" "PUBACK" "Lcom/example/lob/lob/codec/PacketType;" (.ref s_PUBACK)) (S_PUBREC : Sta Z h0 "com/example/lob/lob/codec/PacketType" "PUBREC" "Lcom/example/lob/lob/codec/PacketType;" (.ref s_PUBREC)) (S_PUBREL : Sta Z h0 "com/example/lob/lob/codec/PacketType" "PUBREL" "Lcom/example/lob/lob/codec/PacketType;" (.ref s_PUBREL)) (S_PUBCOMP : Sta Z h0 "com/example/lob/lob/codec/PacketType" "PUBCOMP" "Lcom/example/lob/lob/codec/PacketType;" (.ref s_PUBCOMP)) (S_SUBSCRIBE : Sta Z h0 "com/example/lob/lob/codec/PacketType" "SUBSCRIBE" "Lcom/example/lob/lob/codec/PacketType;" (.ref s_SUBSCRIBE)) (S_SUBACK : Sta Z h0 "com/example/lob/lob/codec/PacketType" "SUBACK" "Lcom/example/lob/lob/codec/PacketType;" (.ref s_SUBACK)) (S_UNSUBSCRIBE : Sta Z h0 "com/example/lob/lob/codec/PacketType" "UNSUBSCRIBE" "Lcom/example/lob/lob/codec/PacketType;" (.ref s_UNSUBSCRIBE)) (S_UNSUBACK : Sta Z h0 "com/example/lob/lob/codec/PacketType" "UNSUBACK" "Lcom/example/lob/lob/codec/PacketType;" (.ref s_UNSUBACK)) (S_PINGREQ : Sta Z h0 "com/example/lob/lob/codec/PacketType" "PINGREQ" "Lcom/example/lob/lob/codec/PacketType;" (.ref s_PINGREQ)) (S_PINGRESP : Sta Z h0 "com/example/lob/lob/codec/PacketType" "PINGRESP" "Lcom/example/lob/lob/codec/PacketType;" (.ref s_PINGRESP)) (S_DISCONNECT : Sta Z h0 "com/example/lob/lob/codec/PacketType" "DISCONNECT" "Lcom/example/lob/lob/codec/PacketType;" (.ref s_DISCONNECT)) (hc2 : ¬ (p1 = (1 : Int32))) (hc11 : ¬ (p1 = (2 : Int32))) (hc20 : ¬ (p1 = (3 : Int32))) (hc29 : p1 = (4 : Int32)) :
    MetFree l (⟨"com/example/lob/lob/codec/PacketTypeFromNumberPinLaw", "expected", "(I)Lcom/example/lob/lob/codec/PacketType;"⟩ : MethodName) (head1 (Jvm.Cond.code (⟨"com/example/lob/lob/codec/PacketTypeFromNumberPinLaw", "expected", "(I)Lcom/example/lob/lob/codec/PacketType;"⟩ : MethodName) method_2_code 1 (some (.object "com/example/lob/lob/codec/PacketType")) :: ws) ({ frames := 0, cells := 0, slots := 0, locals := 0 } : Room)) (fun a U => a = #[(.int p1)] ∧ Z.Warmed39 U.vm ∧ U.heap = h0) (fun _ _ _ _ _ => True) (fun _ U o U' => ∃ v L, o = .returned v ∧ Q_rm2 Z p1 s_CONNECT s_CONNACK s_PUBLISH s_PUBACK s_PUBREC s_PUBREL s_PUBCOMP s_SUBSCRIBE s_SUBACK s_UNSUBSCRIBE s_UNSUBACK s_PINGREQ s_PINGRESP s_DISCONNECT h0 n0 v U'.heap L ∧ FrameEnd U o U' L ({ frames := 0, cells := 0, slots := 0, locals := 0 } : Room).cells ({ frames := 0, cells := 0, slots := 0, locals := 0 } : Room).slots) := by
  refine MetFree.of_bodySF (plainFor_of_name pn_2) hisR ?_
  intro p e s m args below meth c s₁ Bd hml0 hP hK
  obtain ⟨rfl, hZ, hh⟩ := hP
  have hx := Bd.exec
  have hby := Bd.bytes
  have hml : c.maxLocals = 1 := hml0
  have hown : s.vm.findClass "com/example/lob/lob/codec/PacketTypeFromNumberPinLaw" = some m.cls := findClass_of_methodNamed Bd.named
  have hnm := (name_of_methodNamed Bd.named Bd.method).1
  have X0 : Stand p l e ({ frames := 0, cells := 0, slots := 0, locals := 0 } : Room) s m #[(.int p1)] below meth c s₁ [] 0 0 := Stand.of_body Bd
  have e0 : s₁.heap = h0 := by rw [← hh, Bd.state]; rfl
  have N0 := Fr.nil n0
  have pre0 : ∀ t, Steps p.tables e below (s₁.setTop (mkF m 0 #[.val (.int p1)] [])) t → Steps p.tables e below (s₁.setTop (entryFrame m #[(.int p1)] 1)) t := fun t k => castTop (ef_2 m p1) k
  obtain ⟨T2, X2, e2, st2⟩ := getS2 X0 hx hZ hown (host := "") (Or.inl (hw _ (List.mem_of_getElem? (i := 21) rfl))) Via.refl e0 S_PUBACK (g := (mkF m 32 #[.val (.int p1)] [])) rfl (hb hby d2_32)
  obtain ⟨fs, hr, hrun, hended, hW, hsame⟩ := X2.leave (v := some (.ref s_PUBACK)) (fun h => by rw [Bd.returns] at h; cases h)
  refine ⟨_, _, pre0 _ ?_, hrun, hended, _, _, rfl, ?_, ⟨_, rfl⟩, hW, hsame.mono (by decide) (by decide)⟩
  · show Steps p.tables e below (s₁.setTop (mkF m 0 #[.val (.int p1)] [])) _
    refine XS.iloadN X0.here hx rfl (hb hby d2_0) rfl ?_
    show Steps p.tables e below (s₁.setTop (mkF m 1 #[.val (.int p1)] [(.int p1)])) _
    refine XS.iconst X0.here hx rfl (hb hby d2_1) ?_
    show Steps p.tables e below (s₁.setTop (mkF m 2 #[.val (.int p1)] [(.int (1 : Int32)), (.int p1)])) _
    refine XS.icmpYes X0.here hx rfl (pc0 := 2) (pc' := 9) rfl (hb hby d2_2) rfl (feq hc2).2 (by decide) (by decide) ?_
    show Steps p.tables e below (s₁.setTop (mkF m 9 #[.val (.int p1)] [])) _
    refine XS.iloadN X0.here hx rfl (hb hby d2_9) rfl ?_
    show Steps p.tables e below (s₁.setTop (mkF m 10 #[.val (.int p1)] [(.int p1)])) _
    refine XS.iconst X0.here hx rfl (hb hby d2_10) ?_
    show Steps p.tables e below (s₁.setTop (mkF m 11 #[.val (.int p1)] [(.int (2 : Int32)), (.int p1)])) _
    refine XS.icmpYes X0.here hx rfl (pc0 := 11) (pc' := 18) rfl (hb hby d2_11) rfl (feq hc11).2 (by decide) (by decide) ?_
    show Steps p.tables e below (s₁.setTop (mkF m 18 #[.val (.int p1)] [])) _
    refine XS.iloadN X0.here hx rfl (hb hby d2_18) rfl ?_
    show Steps p.tables e below (s₁.setTop (mkF m 19 #[.val (.int p1)] [(.int p1)])) _
    refine XS.iconst X0.here hx rfl (hb hby d2_19) ?_
    show Steps p.tables e below (s₁.setTop (mkF m 20 #[.val (.int p1)] [(.int (3 : Int32)), (.int p1)])) _
    refine XS.icmpYes X0.here hx rfl (pc0 := 20) (pc' := 27) rfl (hb hby d2_20) rfl (feq hc20).2 (by decide) (by decide) ?_
    show Steps p.tables e below (s₁.setTop (mkF m 27 #[.val (.int p1)] [])) _
    refine XS.iloadN X0.here hx rfl (hb hby d2_27) rfl ?_
    show Steps p.tables e below (s₁.setTop (mkF m 28 #[.val (.int p1)] [(.int p1)])) _
    refine XS.iconst X0.here hx rfl (hb hby d2_28) ?_
    show Steps p.tables e below (s₁.setTop (mkF m 29 #[.val (.int p1)] [(.int (4 : Int32)), (.int p1)])) _
    refine XS.icmpNo X0.here hx rfl (hb hby d2_29) rfl (teq hc29).2 ?_
    show Steps p.tables e below (s₁.setTop (mkF m 32 #[.val (.int p1)] [])) _
    refine st2 _ ?_
    show Steps p.tables e below (T2.setTop (mkF m 35 #[.val (.int p1)] [(.ref s_PUBACK)])) _
    jvm_step X2.here [X2.here.top, hx, (hb hby d2_35), X2.method', Bd.returns, Value.isRef, FieldType.isReference]
    first | (intro acts; rw [hr _ acts rfl rfl rfl]) | rw [hr _ _ rfl rfl rfl]
    exact Steps.refl _
  · show Q_rm2 Z p1 s_CONNECT s_CONNACK s_PUBLISH s_PUBACK s_PUBREC s_PUBREL s_PUBCOMP s_SUBSCRIBE s_SUBACK s_UNSUBSCRIBE s_UNSUBACK s_PINGREQ s_PINGRESP s_DISCONNECT h0 n0 _ T2.heap _
    exact ⟨by rw [F2, if_neg hc2, if_neg hc11, if_neg hc20, if_pos hc29], N0, e2⟩
set_option maxRecDepth 65536 in
set_option maxHeartbeats 40000000 in
theorem rm2_ttttf (l : Launch) (Z : State) (a0 : Array Value) (hw : ∀ d ∈ tables_1, d.before a0 Z = true) (ws : List Jvm.Cond) (p1 : Int32) (s_CONNECT : Addr) (s_CONNACK : Addr) (s_PUBLISH : Addr) (s_PUBACK : Addr) (s_PUBREC : Addr) (s_PUBREL : Addr) (s_PUBCOMP : Addr) (s_SUBSCRIBE : Addr) (s_SUBACK : Addr) (s_UNSUBSCRIBE : Addr) (s_UNSUBACK : Addr) (s_PINGREQ : Addr) (s_PINGRESP : Addr) (s_DISCONNECT : Addr) (h0 : Heap) (n0 : Nat) (Z0 : n0 ≤ h0.size) (S_CONNECT : Sta Z h0 "com/example/lob/lob/codec/PacketType" "CONNECT" "Lcom/example/lob/lob/codec/PacketType;" (.ref s_CONNECT)) (S_CONNACK : Sta Z h0 "com/example/lob/lob/codec/PacketType" "CONNACK" "Lcom/example/lob/lob/codec/PacketType;" (.ref s_CONNACK)) (S_PUBLISH : Sta Z h0 "com/example/lob/lob/codec/PacketType" "PUBLISH" "Lcom/example/lob/lob/codec/PacketType;" (.ref s_PUBLISH)) (S_PUBACK : Sta Z h0 "com/example/lob/lob/codec/PacketType" "PUBACK" "Lcom/example/lob/lob/codec/PacketType;" (.ref s_PUBACK)) (S_PUBREC : Sta Z h0 "com/example/lob/lob/codec/PacketType" "PUBREC" "Lcom/example/lob/lob/codec/PacketType;" (.ref s_PUBREC)) (S_PUBREL : Sta Z h0 "com/example/lob/lob/codec/PacketType" "PUBREL" "Lcom/example/lob/lob/codec/PacketType;" (.ref s_PUBREL)) (S_PUBCOMP : Sta Z h0 "com/example/lob/lob/codec/PacketType" "PUBCOMP" "Lcom/example/lob/lob/codec/PacketType;" (.ref s_PUBCOMP)) (S_SUBSCRIBE : Sta Z h0 "com/example/lob/lob/codec/PacketType" "SUBSCRIBE" "Lcom/example/lob/lob/codec/PacketType;" (.ref s_SUBSCRIBE)) (S_SUBACK : Sta Z h0 "com/example/lob/lob/codec/PacketType" "SUBACK" "Lcom/example/lob/lob/codec/PacketType;" (.ref s_SUBACK)) (S_UNSUBSCRIBE : Sta Z h0 "com/example/lob/lob/codec/PacketType" "UNSUBSCRIBE" "Lcom/example/lob/lob/codec/PacketType;" (.ref s_UNSUBSCRIBE)) (S_UNSUBACK : Sta Z h0 "com/example/lob/lob/codec/PacketType" "UNSUBACK" "Lcom/example/lob/lob/codec/PacketType;" (.ref s_UNSUBACK)) (S_PINGREQ : Sta Z h0 "com/example/lob/lob/codec/PacketType" "PINGREQ" "Lcom/example/lob/lob/codec/PacketType;" (.ref s_PINGREQ)) (S_PINGRESP : Sta Z h0 "com/example/lob/lob/codec/PacketType" "PINGRESP" "Lcom/example/lob/lob/codec/PacketType;" (.ref s_PINGRESP)) (S_DISCONNECT : Sta Z h0 "com/example/lob/lob/codec/PacketType" "DISCONNECT" "Lcom/example/lob/lob/codec/PacketType;" (.ref s_DISCONNECT)) (hc2 : ¬ (p1 = (1 : Int32))) (hc11 : ¬ (p1 = (2 : Int32))) (hc20 : ¬ (p1 = (3 : Int32))) (hc29 : ¬ (p1 = (4 : Int32))) (hc38 : p1 = (5 : Int32)) :
    MetFree l (⟨"com/example/lob/lob/codec/PacketTypeFromNumberPinLaw", "expected", "(I)Lcom/example/lob/lob/codec/PacketType;"⟩ : MethodName) (head1 (Jvm.Cond.code (⟨"com/example/lob/lob/codec/PacketTypeFromNumberPinLaw", "expected", "(I)Lcom/example/lob/lob/codec/PacketType;"⟩ : MethodName) method_2_code 1 (some (.object "com/example/lob/lob/codec/PacketType")) :: ws) ({ frames := 0, cells := 0, slots := 0, locals := 0 } : Room)) (fun a U => a = #[(.int p1)] ∧ Z.Warmed39 U.vm ∧ U.heap = h0) (fun _ _ _ _ _ => True) (fun _ U o U' => ∃ v L, o = .returned v ∧ Q_rm2 Z p1 s_CONNECT s_CONNACK s_PUBLISH s_PUBACK s_PUBREC s_PUBREL s_PUBCOMP s_SUBSCRIBE s_SUBACK s_UNSUBSCRIBE s_UNSUBACK s_PINGREQ s_PINGRESP s_DISCONNECT h0 n0 v U'.heap L ∧ FrameEnd U o U' L ({ frames := 0, cells := 0, slots := 0, locals := 0 } : Room).cells ({ frames := 0, cells := 0, slots := 0, locals := 0 } : Room).slots) := by
  refine MetFree.of_bodySF (plainFor_of_name pn_2) hisR ?_
  intro p e s m args below meth c s₁ Bd hml0 hP hK
  obtain ⟨rfl, hZ, hh⟩ := hP
  have hx := Bd.exec
  have hby := Bd.bytes
  have hml : c.maxLocals = 1 := hml0
  have hown : s.vm.findClass "com/example/lob/lob/codec/PacketTypeFromNumberPinLaw" = some m.cls := findClass_of_methodNamed Bd.named
  have hnm := (name_of_methodNamed Bd.named Bd.method).1
  have X0 : Stand p l e ({ frames := 0, cells := 0, slots := 0, locals := 0 } : Room) s m #[(.int p1)] below meth c s₁ [] 0 0 := Stand.of_body Bd
  have e0 : s₁.heap = h0 := by rw [← hh, Bd.state]; rfl
  have N0 := Fr.nil n0
  have pre0 : ∀ t, Steps p.tables e below (s₁.setTop (mkF m 0 #[.val (.int p1)] [])) t → Steps p.tables e below (s₁.setTop (entryFrame m #[(.int p1)] 1)) t := fun t k => castTop (ef_2 m p1) k
  obtain ⟨T2, X2, e2, st2⟩ := getS2 X0 hx hZ hown (host := "") (Or.inl (hw _ (List.mem_of_getElem? (i := 27) rfl))) Via.refl e0 S_PUBREC (g := (mkF m 41 #[.val (.int p1)] [])) rfl (hb hby d2_41)
  obtain ⟨fs, hr, hrun, hended, hW, hsame⟩ := X2.leave (v := some (.ref s_PUBREC)) (fun h => by rw [Bd.returns] at h; cases h)
  refine ⟨_, _, pre0 _ ?_, hrun, hended, _, _, rfl, ?_, ⟨_, rfl⟩, hW, hsame.mono (by decide) (by decide)⟩
  · show Steps p.tables e below (s₁.setTop (mkF m 0 #[.val (.int p1)] [])) _
    refine XS.iloadN X0.here hx rfl (hb hby d2_0) rfl ?_
    show Steps p.tables e below (s₁.setTop (mkF m 1 #[.val (.int p1)] [(.int p1)])) _
    refine XS.iconst X0.here hx rfl (hb hby d2_1) ?_
    show Steps p.tables e below (s₁.setTop (mkF m 2 #[.val (.int p1)] [(.int (1 : Int32)), (.int p1)])) _
    refine XS.icmpYes X0.here hx rfl (pc0 := 2) (pc' := 9) rfl (hb hby d2_2) rfl (feq hc2).2 (by decide) (by decide) ?_
    show Steps p.tables e below (s₁.setTop (mkF m 9 #[.val (.int p1)] [])) _
    refine XS.iloadN X0.here hx rfl (hb hby d2_9) rfl ?_
    show Steps p.tables e below (s₁.setTop (mkF m 10 #[.val (.int p1)] [(.int p1)])) _
    refine XS.iconst X0.here hx rfl (hb hby d2_10) ?_
    show Steps p.tables e below (s₁.setTop (mkF m 11 #[.val (.int p1)] [(.int (2 : Int32)), (.int p1)])) _
    refine XS.icmpYes X0.here hx rfl (pc0 := 11) (pc' := 18) rfl (hb hby d2_11) rfl (feq hc11).2 (by decide) (by decide) ?_
    show Steps p.tables e below (s₁.setTop (mkF m 18 #[.val (.int p1)] [])) _
    refine XS.iloadN X0.here hx rfl (hb hby d2_18) rfl ?_
    show Steps p.tables e below (s₁.setTop (mkF m 19 #[.val (.int p1)] [(.int p1)])) _
    refine XS.iconst X0.here hx rfl (hb hby d2_19) ?_
    show Steps p.tables e below (s₁.setTop (mkF m 20 #[.val (.int p1)] [(.int (3 : Int32)), (.int p1)])) _
    refine XS.icmpYes X0.here hx rfl (pc0 := 20) (pc' := 27) rfl (hb hby d2_20) rfl (feq hc20).2 (by decide) (by decide) ?_
    show Steps p.tables e below (s₁.setTop (mkF m 27 #[.val (.int p1)] [])) _
    refine XS.iloadN X0.here hx rfl (hb hby d2_27) rfl ?_
    show Steps p.tables e below (s₁.setTop (mkF m 28 #[.val (.int p1)] [(.int p1)])) _
    refine XS.iconst X0.here hx rfl (hb hby d2_28) ?_
    show Steps p.tables e below (s₁.setTop (mkF m 29 #[.val (.int p1)] [(.int (4 : Int32)), (.int p1)])) _
    refine XS.icmpYes X0.here hx rfl (pc0 := 29) (pc' := 36) rfl (hb hby d2_29) rfl (feq hc29).2 (by decide) (by decide) ?_
    show Steps p.tables e below (s₁.setTop (mkF m 36 #[.val (.int p1)] [])) _
    refine XS.iloadN X0.here hx rfl (hb hby d2_36) rfl ?_
    show Steps p.tables e below (s₁.setTop (mkF m 37 #[.val (.int p1)] [(.int p1)])) _
    refine XS.iconst X0.here hx rfl (hb hby d2_37) ?_
    show Steps p.tables e below (s₁.setTop (mkF m 38 #[.val (.int p1)] [(.int (5 : Int32)), (.int p1)])) _
    refine XS.icmpNo X0.here hx rfl (hb hby d2_38) rfl (teq hc38).2 ?_
    show Steps p.tables e below (s₁.setTop (mkF m 41 #[.val (.int p1)] [])) _
    refine st2 _ ?_
    show Steps p.tables e below (T2.setTop (mkF m 44 #[.val (.int p1)] [(.ref s_PUBREC)])) _
    jvm_step X2.here [X2.here.top, hx, (hb hby d2_44), X2.method', Bd.returns, Value.isRef, FieldType.isReference]
    first | (intro acts; rw [hr _ acts rfl rfl rfl]) | rw [hr _ _ rfl rfl rfl]
    exact Steps.refl _
  · show Q_rm2 Z p1 s_CONNECT s_CONNACK s_PUBLISH s_PUBACK s_PUBREC s_PUBREL s_PUBCOMP s_SUBSCRIBE s_SUBACK s_UNSUBSCRIBE s_UNSUBACK s_PINGREQ s_PINGRESP s_DISCONNECT h0 n0 _ T2.heap _
    exact ⟨by rw [F2, if_neg hc2, if_neg hc11, if_neg hc20, if_neg hc29, if_pos hc38], N0, e2⟩
set_option maxRecDepth 65536 in
set_option maxHeartbeats 40000000 in
theorem rm2_tttttf (l : Launch) (Z : State) (a0 : Array Value) (hw : ∀ d ∈ tables_1, d.before a0 Z = true) (ws : List Jvm.Cond) (p1 : Int32) (s_CONNECT : Addr) (s_CONNACK : Addr) (s_PUBLISH : Addr) (s_PUBACK : Addr) (s_PUBREC : Addr) (s_PUBREL : Addr) (s_PUBCOMP : Addr) (s_SUBSCRIBE : Addr) (s_SUBACK : Addr) (s_UNSUBSCRIBE : Addr) (s_UNSUBACK : Addr) (s_PINGREQ : Addr) (s_PINGRESP : Addr) (s_DISCONNECT : Addr) (h0 : Heap) (n0 : Nat) (Z0 : n0 ≤ h0.size) (S_CONNECT : Sta Z h0 "com/example/lob/lob/codec/PacketType" "CONNECT" "Lcom/example/lob/lob/codec/PacketType;" (.ref s_CONNECT)) (S_CONNACK : Sta Z h0 "com/example/lob/lob/codec/PacketType" "CONNACK" "Lcom/example/lob/lob/codec/PacketType;" (.ref s_CONNACK)) (S_PUBLISH : Sta Z h0 "com/example/lob/lob/codec/PacketType" "PUBLISH" "Lcom/example/lob/lob/codec/PacketType;" (.ref s_PUBLISH)) (S_PUBACK : Sta Z h0 "com/example/lob/lob/codec/PacketType" "PUBACK" "Lcom/example/lob/lob/codec/PacketType;" (.ref s_PUBACK)) (S_PUBREC : Sta Z h0 "com/example/lob/lob/codec/PacketType" "PUBREC" "Lcom/example/lob/lob/codec/PacketType;" (.ref s_PUBREC)) (S_PUBREL : Sta Z h0 "com/example/lob/lob/codec/PacketType" "PUBREL" "Lcom/example/lob/lob/codec/PacketType;" (.ref s_PUBREL)) (S_PUBCOMP : Sta Z h0 "com/example/lob/lob/codec/PacketType" "PUBCOMP" "Lcom/example/lob/lob/codec/PacketType;" (.ref s_PUBCOMP)) (S_SUBSCRIBE : Sta Z h0 "com/example/lob/lob/codec/PacketType" "SUBSCRIBE" "Lcom/example/lob/lob/codec/PacketType;" (.ref s_SUBSCRIBE)) (S_SUBACK : Sta Z h0 "com/example/lob/lob/codec/PacketType" "SUBACK" "Lcom/example/lob/lob/codec/PacketType;" (.ref s_SUBACK)) (S_UNSUBSCRIBE : Sta Z h0 "com/example/lob/lob/codec/PacketType" "UNSUBSCRIBE" "Lcom/example/lob/lob/codec/PacketType;" (.ref s_UNSUBSCRIBE)) (S_UNSUBACK : Sta Z h0 "com/example/lob/lob/codec/PacketType" "UNSUBACK" "Lcom/example/lob/lob/codec/PacketType;" (.ref s_UNSUBACK)) (S_PINGREQ : Sta Z h0 "com/example/lob/lob/codec/PacketType" "PINGREQ" "Lcom/example/lob/lob/codec/PacketType;" (.ref s_PINGREQ)) (S_PINGRESP : Sta Z h0 "com/example/lob/lob/codec/PacketType" "PINGRESP" "Lcom/example/lob/lob/codec/PacketType;" (.ref s_PINGRESP)) (S_DISCONNECT : Sta Z h0 "com/example/lob/lob/codec/PacketType" "DISCONNECT" "Lcom/example/lob/lob/codec/PacketType;" (.ref s_DISCONNECT)) (hc2 : ¬ (p1 = (1 : Int32))) (hc11 : ¬ (p1 = (2 : Int32))) (hc20 : ¬ (p1 = (3 : Int32))) (hc29 : ¬ (p1 = (4 : Int32))) (hc38 : ¬ (p1 = (5 : Int32))) (hc48 : p1 = (6 : Int32)) :
    MetFree l (⟨"com/example/lob/lob/codec/PacketTypeFromNumberPinLaw", "expected", "(I)Lcom/example/lob/lob/codec/PacketType;"⟩ : MethodName) (head1 (Jvm.Cond.code (⟨"com/example/lob/lob/codec/PacketTypeFromNumberPinLaw", "expected", "(I)Lcom/example/lob/lob/codec/PacketType;"⟩ : MethodName) method_2_code 1 (some (.object "com/example/lob/lob/codec/PacketType")) :: ws) ({ frames := 0, cells := 0, slots := 0, locals := 0 } : Room)) (fun a U => a = #[(.int p1)] ∧ Z.Warmed39 U.vm ∧ U.heap = h0) (fun _ _ _ _ _ => True) (fun _ U o U' => ∃ v L, o = .returned v ∧ Q_rm2 Z p1 s_CONNECT s_CONNACK s_PUBLISH s_PUBACK s_PUBREC s_PUBREL s_PUBCOMP s_SUBSCRIBE s_SUBACK s_UNSUBSCRIBE s_UNSUBACK s_PINGREQ s_PINGRESP s_DISCONNECT h0 n0 v U'.heap L ∧ FrameEnd U o U' L ({ frames := 0, cells := 0, slots := 0, locals := 0 } : Room).cells ({ frames := 0, cells := 0, slots := 0, locals := 0 } : Room).slots) := by
  refine MetFree.of_bodySF (plainFor_of_name pn_2) hisR ?_
  intro p e s m args below meth c s₁ Bd hml0 hP hK
  obtain ⟨rfl, hZ, hh⟩ := hP
  have hx := Bd.exec
  have hby := Bd.bytes
  have hml : c.maxLocals = 1 := hml0
  have hown : s.vm.findClass "com/example/lob/lob/codec/PacketTypeFromNumberPinLaw" = some m.cls := findClass_of_methodNamed Bd.named
  have hnm := (name_of_methodNamed Bd.named Bd.method).1
  have X0 : Stand p l e ({ frames := 0, cells := 0, slots := 0, locals := 0 } : Room) s m #[(.int p1)] below meth c s₁ [] 0 0 := Stand.of_body Bd
  have e0 : s₁.heap = h0 := by rw [← hh, Bd.state]; rfl
  have N0 := Fr.nil n0
  have pre0 : ∀ t, Steps p.tables e below (s₁.setTop (mkF m 0 #[.val (.int p1)] [])) t → Steps p.tables e below (s₁.setTop (entryFrame m #[(.int p1)] 1)) t := fun t k => castTop (ef_2 m p1) k
  obtain ⟨T2, X2, e2, st2⟩ := getS2 X0 hx hZ hown (host := "") (Or.inl (hw _ (List.mem_of_getElem? (i := 43) rfl))) Via.refl e0 S_PUBREL (g := (mkF m 51 #[.val (.int p1)] [])) rfl (hb hby d2_51)
  obtain ⟨fs, hr, hrun, hended, hW, hsame⟩ := X2.leave (v := some (.ref s_PUBREL)) (fun h => by rw [Bd.returns] at h; cases h)
  refine ⟨_, _, pre0 _ ?_, hrun, hended, _, _, rfl, ?_, ⟨_, rfl⟩, hW, hsame.mono (by decide) (by decide)⟩
  · show Steps p.tables e below (s₁.setTop (mkF m 0 #[.val (.int p1)] [])) _
    refine XS.iloadN X0.here hx rfl (hb hby d2_0) rfl ?_
    show Steps p.tables e below (s₁.setTop (mkF m 1 #[.val (.int p1)] [(.int p1)])) _
    refine XS.iconst X0.here hx rfl (hb hby d2_1) ?_
    show Steps p.tables e below (s₁.setTop (mkF m 2 #[.val (.int p1)] [(.int (1 : Int32)), (.int p1)])) _
    refine XS.icmpYes X0.here hx rfl (pc0 := 2) (pc' := 9) rfl (hb hby d2_2) rfl (feq hc2).2 (by decide) (by decide) ?_
    show Steps p.tables e below (s₁.setTop (mkF m 9 #[.val (.int p1)] [])) _
    refine XS.iloadN X0.here hx rfl (hb hby d2_9) rfl ?_
    show Steps p.tables e below (s₁.setTop (mkF m 10 #[.val (.int p1)] [(.int p1)])) _
    refine XS.iconst X0.here hx rfl (hb hby d2_10) ?_
    show Steps p.tables e below (s₁.setTop (mkF m 11 #[.val (.int p1)] [(.int (2 : Int32)), (.int p1)])) _
    refine XS.icmpYes X0.here hx rfl (pc0 := 11) (pc' := 18) rfl (hb hby d2_11) rfl (feq hc11).2 (by decide) (by decide) ?_
    show Steps p.tables e below (s₁.setTop (mkF m 18 #[.val (.int p1)] [])) _
    refine XS.iloadN X0.here hx rfl (hb hby d2_18) rfl ?_
    show Steps p.tables e below (s₁.setTop (mkF m 19 #[.val (.int p1)] [(.int p1)])) _
    refine XS.iconst X0.here hx rfl (hb hby d2_19) ?_
    show Steps p.tables e below (s₁.setTop (mkF m 20 #[.val (.int p1)] [(.int (3 : Int32)), (.int p1)])) _
    refine XS.icmpYes X0.here hx rfl (pc0 := 20) (pc' := 27) rfl (hb hby d2_20) rfl (feq hc20).2 (by decide) (by decide) ?_
    show Steps p.tables e below (s₁.setTop (mkF m 27 #[.val (.int p1)] [])) _
    refine XS.iloadN X0.here hx rfl (hb hby d2_27) rfl ?_
    show Steps p.tables e below (s₁.setTop (mkF m 28 #[.val (.int p1)] [(.int p1)])) _
    refine XS.iconst X0.here hx rfl (hb hby d2_28) ?_
    show Steps p.tables e below (s₁.setTop (mkF m 29 #[.val (.int p1)] [(.int (4 : Int32)), (.int p1)])) _
    refine XS.icmpYes X0.here hx rfl (pc0 := 29) (pc' := 36) rfl (hb hby d2_29) rfl (feq hc29).2 (by decide) (by decide) ?_
    show Steps p.tables e below (s₁.setTop (mkF m 36 #[.val (.int p1)] [])) _
    refine XS.iloadN X0.here hx rfl (hb hby d2_36) rfl ?_
    show Steps p.tables e below (s₁.setTop (mkF m 37 #[.val (.int p1)] [(.int p1)])) _
    refine XS.iconst X0.here hx rfl (hb hby d2_37) ?_
    show Steps p.tables e below (s₁.setTop (mkF m 38 #[.val (.int p1)] [(.int (5 : Int32)), (.int p1)])) _
    refine XS.icmpYes X0.here hx rfl (pc0 := 38) (pc' := 45) rfl (hb hby d2_38) rfl (feq hc38).2 (by decide) (by decide) ?_
    show Steps p.tables e below (s₁.setTop (mkF m 45 #[.val (.int p1)] [])) _
    refine XS.iloadN X0.here hx rfl (hb hby d2_45) rfl ?_
    show Steps p.tables e below (s₁.setTop (mkF m 46 #[.val (.int p1)] [(.int p1)])) _
    refine XS.bipush X0.here hx rfl (hb hby d2_46) ?_
    show Steps p.tables e below (s₁.setTop (mkF m 48 #[.val (.int p1)] [(.int (6 : Int32)), (.int p1)])) _
    refine XS.icmpNo X0.here hx rfl (hb hby d2_48) rfl (teq hc48).2 ?_
    show Steps p.tables e below (s₁.setTop (mkF m 51 #[.val (.int p1)] [])) _
    refine st2 _ ?_
    show Steps p.tables e below (T2.setTop (mkF m 54 #[.val (.int p1)] [(.ref s_PUBREL)])) _
    jvm_step X2.here [X2.here.top, hx, (hb hby d2_54), X2.method', Bd.returns, Value.isRef, FieldType.isReference]
    first | (intro acts; rw [hr _ acts rfl rfl rfl]) | rw [hr _ _ rfl rfl rfl]
    exact Steps.refl _
  · show Q_rm2 Z p1 s_CONNECT s_CONNACK s_PUBLISH s_PUBACK s_PUBREC s_PUBREL s_PUBCOMP s_SUBSCRIBE s_SUBACK s_UNSUBSCRIBE s_UNSUBACK s_PINGREQ s_PINGRESP s_DISCONNECT h0 n0 _ T2.heap _
    exact ⟨by rw [F2, if_neg hc2, if_neg hc11, if_neg hc20, if_neg hc29, if_neg hc38, if_pos hc48], N0, e2⟩
set_option maxRecDepth 65536 in
set_option maxHeartbeats 40000000 in
theorem rm2_ttttttf (l : Launch) (Z : State) (a0 : Array Value) (hw : ∀ d ∈ tables_1, d.before a0 Z = true) (ws : List Jvm.Cond) (p1 : Int32) (s_CONNECT : Addr) (s_CONNACK : Addr) (s_PUBLISH : Addr) (s_PUBACK : Addr) (s_PUBREC : Addr) (s_PUBREL : Addr) (s_PUBCOMP : Addr) (s_SUBSCRIBE : Addr) (s_SUBACK : Addr) (s_UNSUBSCRIBE : Addr) (s_UNSUBACK : Addr) (s_PINGREQ : Addr) (s_PINGRESP : Addr) (s_DISCONNECT : Addr) (h0 : Heap) (n0 : Nat) (Z0 : n0 ≤ h0.size) (S_CONNECT : Sta Z h0 "com/example/lob/lob/codec/PacketType" "CONNECT" "Lcom/example/lob/lob/codec/PacketType;" (.ref s_CONNECT)) (S_CONNACK : Sta Z h0 "com/example/lob/lob/codec/PacketType" "CONNACK" "Lcom/example/lob/lob/codec/PacketType;" (.ref s_CONNACK)) (S_PUBLISH : Sta Z h0 "com/example/lob/lob/codec/PacketType" "PUBLISH" "Lcom/example/lob/lob/codec/PacketType;" (.ref s_PUBLISH)) (S_PUBACK : Sta Z h0 "com/example/lob/lob/codec/PacketType" "PUBACK" "Lcom/example/lob/lob/codec/PacketType;" (.ref s_PUBACK)) (S_PUBREC : Sta Z h0 "com/example/lob/lob/codec/PacketType" "PUBREC" "Lcom/example/lob/lob/codec/PacketType;" (.ref s_PUBREC)) (S_PUBREL : Sta Z h0 "com/example/lob/lob/codec/PacketType" "PUBREL" "Lcom/example/lob/lob/codec/PacketType;" (.ref s_PUBREL)) (S_PUBCOMP : Sta Z h0 "com/example/lob/lob/codec/PacketType" "PUBCOMP" "Lcom/example/lob/lob/codec/PacketType;" (.ref s_PUBCOMP)) (S_SUBSCRIBE : Sta Z h0 "com/example/lob/lob/codec/PacketType" "SUBSCRIBE" "Lcom/example/lob/lob/codec/PacketType;" (.ref s_SUBSCRIBE)) (S_SUBACK : Sta Z h0 "com/example/lob/lob/codec/PacketType" "SUBACK" "Lcom/example/lob/lob/codec/PacketType;" (.ref s_SUBACK)) (S_UNSUBSCRIBE : Sta Z h0 "com/example/lob/lob/codec/PacketType" "UNSUBSCRIBE" "Lcom/example/lob/lob/codec/PacketType;" (.ref s_UNSUBSCRIBE)) (S_UNSUBACK : Sta Z h0 "com/example/lob/lob/codec/PacketType" "UNSUBACK" "Lcom/example/lob/lob/codec/PacketType;" (.ref s_UNSUBACK)) (S_PINGREQ : Sta Z h0 "com/example/lob/lob/codec/PacketType" "PINGREQ" "Lcom/example/lob/lob/codec/PacketType;" (.ref s_PINGREQ)) (S_PINGRESP : Sta Z h0 "com/example/lob/lob/codec/PacketType" "PINGRESP" "Lcom/example/lob/lob/codec/PacketType;" (.ref s_PINGRESP)) (S_DISCONNECT : Sta Z h0 "com/example/lob/lob/codec/PacketType" "DISCONNECT" "Lcom/example/lob/lob/codec/PacketType;" (.ref s_DISCONNECT)) (hc2 : ¬ (p1 = (1 : Int32))) (hc11 : ¬ (p1 = (2 : Int32))) (hc20 : ¬ (p1 = (3 : Int32))) (hc29 : ¬ (p1 = (4 : Int32))) (hc38 : ¬ (p1 = (5 : Int32))) (hc48 : ¬ (p1 = (6 : Int32))) (hc58 : p1 = (7 : Int32)) :
    MetFree l (⟨"com/example/lob/lob/codec/PacketTypeFromNumberPinLaw", "expected", "(I)Lcom/example/lob/lob/codec/PacketType;"⟩ : MethodName) (head1 (Jvm.Cond.code (⟨"com/example/lob/lob/codec/PacketTypeFromNumberPinLaw", "expected", "(I)Lcom/example/lob/lob/codec/PacketType;"⟩ : MethodName) method_2_code 1 (some (.object "com/example/lob/lob/codec/PacketType")) :: ws) ({ frames := 0, cells := 0, slots := 0, locals := 0 } : Room)) (fun a U => a = #[(.int p1)] ∧ Z.Warmed39 U.vm ∧ U.heap = h0) (fun _ _ _ _ _ => True) (fun _ U o U' => ∃ v L, o = .returned v ∧ Q_rm2 Z p1 s_CONNECT s_CONNACK s_PUBLISH s_PUBACK s_PUBREC s_PUBREL s_PUBCOMP s_SUBSCRIBE s_SUBACK s_UNSUBSCRIBE s_UNSUBACK s_PINGREQ s_PINGRESP s_DISCONNECT h0 n0 v U'.heap L ∧ FrameEnd U o U' L ({ frames := 0, cells := 0, slots := 0, locals := 0 } : Room).cells ({ frames := 0, cells := 0, slots := 0, locals := 0 } : Room).slots) := by
  refine MetFree.of_bodySF (plainFor_of_name pn_2) hisR ?_
  intro p e s m args below meth c s₁ Bd hml0 hP hK
  obtain ⟨rfl, hZ, hh⟩ := hP
  have hx := Bd.exec
  have hby := Bd.bytes
  have hml : c.maxLocals = 1 := hml0
  have hown : s.vm.findClass "com/example/lob/lob/codec/PacketTypeFromNumberPinLaw" = some m.cls := findClass_of_methodNamed Bd.named
  have hnm := (name_of_methodNamed Bd.named Bd.method).1
  have X0 : Stand p l e ({ frames := 0, cells := 0, slots := 0, locals := 0 } : Room) s m #[(.int p1)] below meth c s₁ [] 0 0 := Stand.of_body Bd
  have e0 : s₁.heap = h0 := by rw [← hh, Bd.state]; rfl
  have N0 := Fr.nil n0
  have pre0 : ∀ t, Steps p.tables e below (s₁.setTop (mkF m 0 #[.val (.int p1)] [])) t → Steps p.tables e below (s₁.setTop (entryFrame m #[(.int p1)] 1)) t := fun t k => castTop (ef_2 m p1) k
  obtain ⟨T2, X2, e2, st2⟩ := getS2 X0 hx hZ hown (host := "") (Or.inl (hw _ (List.mem_of_getElem? (i := 45) rfl))) Via.refl e0 S_PUBCOMP (g := (mkF m 61 #[.val (.int p1)] [])) rfl (hb hby d2_61)
  obtain ⟨fs, hr, hrun, hended, hW, hsame⟩ := X2.leave (v := some (.ref s_PUBCOMP)) (fun h => by rw [Bd.returns] at h; cases h)
  refine ⟨_, _, pre0 _ ?_, hrun, hended, _, _, rfl, ?_, ⟨_, rfl⟩, hW, hsame.mono (by decide) (by decide)⟩
  · show Steps p.tables e below (s₁.setTop (mkF m 0 #[.val (.int p1)] [])) _
    refine XS.iloadN X0.here hx rfl (hb hby d2_0) rfl ?_
    show Steps p.tables e below (s₁.setTop (mkF m 1 #[.val (.int p1)] [(.int p1)])) _
    refine XS.iconst X0.here hx rfl (hb hby d2_1) ?_
    show Steps p.tables e below (s₁.setTop (mkF m 2 #[.val (.int p1)] [(.int (1 : Int32)), (.int p1)])) _
    refine XS.icmpYes X0.here hx rfl (pc0 := 2) (pc' := 9) rfl (hb hby d2_2) rfl (feq hc2).2 (by decide) (by decide) ?_
    show Steps p.tables e below (s₁.setTop (mkF m 9 #[.val (.int p1)] [])) _
    refine XS.iloadN X0.here hx rfl (hb hby d2_9) rfl ?_
    show Steps p.tables e below (s₁.setTop (mkF m 10 #[.val (.int p1)] [(.int p1)])) _
    refine XS.iconst X0.here hx rfl (hb hby d2_10) ?_
    show Steps p.tables e below (s₁.setTop (mkF m 11 #[.val (.int p1)] [(.int (2 : Int32)), (.int p1)])) _
    refine XS.icmpYes X0.here hx rfl (pc0 := 11) (pc' := 18) rfl (hb hby d2_11) rfl (feq hc11).2 (by decide) (by decide) ?_
    show Steps p.tables e below (s₁.setTop (mkF m 18 #[.val (.int p1)] [])) _
    refine XS.iloadN X0.here hx rfl (hb hby d2_18) rfl ?_
    show Steps p.tables e below (s₁.setTop (mkF m 19 #[.val (.int p1)] [(.int p1)])) _
    refine XS.iconst X0.here hx rfl (hb hby d2_19) ?_
    show Steps p.tables e below (s₁.setTop (mkF m 20 #[.val (.int p1)] [(.int (3 : Int32)), (.int p1)])) _
    refine XS.icmpYes X0.here hx rfl (pc0 := 20) (pc' := 27) rfl (hb hby d2_20) rfl (feq hc20).2 (by decide) (by decide) ?_
    show Steps p.tables e below (s₁.setTop (mkF m 27 #[.val (.int p1)] [])) _
    refine XS.iloadN X0.here hx rfl (hb hby d2_27) rfl ?_
    show Steps p.tables e below (s₁.setTop (mkF m 28 #[.val (.int p1)] [(.int p1)])) _
    refine XS.iconst X0.here hx rfl (hb hby d2_28) ?_
    show Steps p.tables e below (s₁.setTop (mkF m 29 #[.val (.int p1)] [(.int (4 : Int32)), (.int p1)])) _
    refine XS.icmpYes X0.here hx rfl (pc0 := 29) (pc' := 36) rfl (hb hby d2_29) rfl (feq hc29).2 (by decide) (by decide) ?_
    show Steps p.tables e below (s₁.setTop (mkF m 36 #[.val (.int p1)] [])) _
    refine XS.iloadN X0.here hx rfl (hb hby d2_36) rfl ?_
    show Steps p.tables e below (s₁.setTop (mkF m 37 #[.val (.int p1)] [(.int p1)])) _
    refine XS.iconst X0.here hx rfl (hb hby d2_37) ?_
    show Steps p.tables e below (s₁.setTop (mkF m 38 #[.val (.int p1)] [(.int (5 : Int32)), (.int p1)])) _
    refine XS.icmpYes X0.here hx rfl (pc0 := 38) (pc' := 45) rfl (hb hby d2_38) rfl (feq hc38).2 (by decide) (by decide) ?_
    show Steps p.tables e below (s₁.setTop (mkF m 45 #[.val (.int p1)] [])) _
    refine XS.iloadN X0.here hx rfl (hb hby d2_45) rfl ?_
    show Steps p.tables e below (s₁.setTop (mkF m 46 #[.val (.int p1)] [(.int p1)])) _
    refine XS.bipush X0.here hx rfl (hb hby d2_46) ?_
    show Steps p.tables e below (s₁.setTop (mkF m 48 #[.val (.int p1)] [(.int (6 : Int32)), (.int p1)])) _
    refine XS.icmpYes X0.here hx rfl (pc0 := 48) (pc' := 55) rfl (hb hby d2_48) rfl (feq hc48).2 (by decide) (by decide) ?_
    show Steps p.tables e below (s₁.setTop (mkF m 55 #[.val (.int p1)] [])) _
    refine XS.iloadN X0.here hx rfl (hb hby d2_55) rfl ?_
    show Steps p.tables e below (s₁.setTop (mkF m 56 #[.val (.int p1)] [(.int p1)])) _
    refine XS.bipush X0.here hx rfl (hb hby d2_56) ?_
    show Steps p.tables e below (s₁.setTop (mkF m 58 #[.val (.int p1)] [(.int (7 : Int32)), (.int p1)])) _
    refine XS.icmpNo X0.here hx rfl (hb hby d2_58) rfl (teq hc58).2 ?_
    show Steps p.tables e below (s₁.setTop (mkF m 61 #[.val (.int p1)] [])) _
    refine st2 _ ?_
    show Steps p.tables e below (T2.setTop (mkF m 64 #[.val (.int p1)] [(.ref s_PUBCOMP)])) _
    jvm_step X2.here [X2.here.top, hx, (hb hby d2_64), X2.method', Bd.returns, Value.isRef, FieldType.isReference]
    first | (intro acts; rw [hr _ acts rfl rfl rfl]) | rw [hr _ _ rfl rfl rfl]
    exact Steps.refl _
  · show Q_rm2 Z p1 s_CONNECT s_CONNACK s_PUBLISH s_PUBACK s_PUBREC s_PUBREL s_PUBCOMP s_SUBSCRIBE s_SUBACK s_UNSUBSCRIBE s_UNSUBACK s_PINGREQ s_PINGRESP s_DISCONNECT h0 n0 _ T2.heap _
    exact ⟨by rw [F2, if_neg hc2, if_neg hc11, if_neg hc20, if_neg hc29, if_neg hc38, if_neg hc48, if_pos hc58], N0, e2⟩
set_option maxRecDepth 65536 in
set_option maxHeartbeats 40000000 in
theorem rm2_tttttttf (l : Launch) (Z : State) (a0 : Array Value) (hw : ∀ d ∈ tables_1, d.before a0 Z = true) (ws : List Jvm.Cond) (p1 : Int32) (s_CONNECT : Addr) (s_CONNACK : Addr) (s_PUBLISH : Addr) (s_PUBACK : Addr) (s_PUBREC : Addr) (s_PUBREL : Addr) (s_PUBCOMP : Addr) (s_SUBSCRIBE : Addr) (s_SUBACK : Addr) (s_UNSUBSCRIBE : Addr) (s_UNSUBACK : Addr) (s_PINGREQ : Addr) (s_PINGRESP : Addr) (s_DISCONNECT : Addr) (h0 : Heap) (n0 : Nat) (Z0 : n0 ≤ h0.size) (S_CONNECT : Sta Z h0 "com/example/lob/lob/codec/PacketType" "CONNECT" "Lcom/example/lob/lob/codec/PacketType;" (.ref s_CONNECT)) (S_CONNACK : Sta Z h0 "com/example/lob/lob/codec/PacketType" "CONNACK" "Lcom/example/lob/lob/codec/PacketType;" (.ref s_CONNACK)) (S_PUBLISH : Sta Z h0 "com/example/lob/lob/codec/PacketType" "PUBLISH" "Lcom/example/lob/lob/codec/PacketType;" (.ref s_PUBLISH)) (S_PUBACK : Sta Z h0 "com/example/lob/lob/codec/PacketType" "PUBACK" "Lcom/example/lob/lob/codec/PacketType;" (.ref s_PUBACK)) (S_PUBREC : Sta Z h0 "com/example/lob/lob/codec/PacketType" "PUBREC" "Lcom/example/lob/lob/codec/PacketType;" (.ref s_PUBREC)) (S_PUBREL : Sta Z h0 "com/example/lob/lob/codec/PacketType" "PUBREL" "Lcom/example/lob/lob/codec/PacketType;" (.ref s_PUBREL)) (S_PUBCOMP : Sta Z h0 "com/example/lob/lob/codec/PacketType" "PUBCOMP" "Lcom/example/lob/lob/codec/PacketType;" (.ref s_PUBCOMP)) (S_SUBSCRIBE : Sta Z h0 "com/example/lob/lob/codec/PacketType" "SUBSCRIBE" "Lcom/example/lob/lob/codec/PacketType;" (.ref s_SUBSCRIBE)) (S_SUBACK : Sta Z h0 "com/example/lob/lob/codec/PacketType" "SUBACK" "Lcom/example/lob/lob/codec/PacketType;" (.ref s_SUBACK)) (S_UNSUBSCRIBE : Sta Z h0 "com/example/lob/lob/codec/PacketType" "UNSUBSCRIBE" "Lcom/example/lob/lob/codec/PacketType;" (.ref s_UNSUBSCRIBE)) (S_UNSUBACK : Sta Z h0 "com/example/lob/lob/codec/PacketType" "UNSUBACK" "Lcom/example/lob/lob/codec/PacketType;" (.ref s_UNSUBACK)) (S_PINGREQ : Sta Z h0 "com/example/lob/lob/codec/PacketType" "PINGREQ" "Lcom/example/lob/lob/codec/PacketType;" (.ref s_PINGREQ)) (S_PINGRESP : Sta Z h0 "com/example/lob/lob/codec/PacketType" "PINGRESP" "Lcom/example/lob/lob/codec/PacketType;" (.ref s_PINGRESP)) (S_DISCONNECT : Sta Z h0 "com/example/lob/lob/codec/PacketType" "DISCONNECT" "Lcom/example/lob/lob/codec/PacketType;" (.ref s_DISCONNECT)) (hc2 : ¬ (p1 = (1 : Int32))) (hc11 : ¬ (p1 = (2 : Int32))) (hc20 : ¬ (p1 = (3 : Int32))) (hc29 : ¬ (p1 = (4 : Int32))) (hc38 : ¬ (p1 = (5 : Int32))) (hc48 : ¬ (p1 = (6 : Int32))) (hc58 : ¬ (p1 = (7 : Int32))) (hc68 : p1 = (8 : Int32)) :
    MetFree l (⟨"com/example/lob/lob/codec/PacketTypeFromNumberPinLaw", "expected", "(I)Lcom/example/lob/lob/codec/PacketType;"⟩ : MethodName) (head1 (Jvm.Cond.code (⟨"com/example/lob/lob/codec/PacketTypeFromNumberPinLaw", "expected", "(I)Lcom/example/lob/lob/codec/PacketType;"⟩ : MethodName) method_2_code 1 (some (.object "com/example/lob/lob/codec/PacketType")) :: ws) ({ frames := 0, cells := 0, slots := 0, locals := 0 } : Room)) (fun a U => a = #[(.int p1)] ∧ Z.Warmed39 U.vm ∧ U.heap = h0) (fun _ _ _ _ _ => True) (fun _ U o U' => ∃ v L, o = .returned v ∧ Q_rm2 Z p1 s_CONNECT s_CONNACK s_PUBLISH s_PUBACK s_PUBREC s_PUBREL s_PUBCOMP s_SUBSCRIBE s_SUBACK s_UNSUBSCRIBE s_UNSUBACK s_PINGREQ s_PINGRESP s_DISCONNECT h0 n0 v U'.heap L ∧ FrameEnd U o U' L ({ frames := 0, cells := 0, slots := 0, locals := 0 } : Room).cells ({ frames := 0, cells := 0, slots := 0, locals := 0 } : Room).slots) := by
  refine MetFree.of_bodySF (plainFor_of_name pn_2) hisR ?_
  intro p e s m args below meth c s₁ Bd hml0 hP hK
  obtain ⟨rfl, hZ, hh⟩ := hP
  have hx := Bd.exec
  have hby := Bd.bytes
  have hml : c.maxLocals = 1 := hml0
  have hown : s.vm.findClass "com/example/lob/lob/codec/PacketTypeFromNumberPinLaw" = some m.cls := findClass_of_methodNamed Bd.named
  have hnm := (name_of_methodNamed Bd.named Bd.method).1
  have X0 : Stand p l e ({ frames := 0, cells := 0, slots := 0, locals := 0 } : Room) s m #[(.int p1)] below meth c s₁ [] 0 0 := Stand.of_body Bd
  have e0 : s₁.heap = h0 := by rw [← hh, Bd.state]; rfl
  have N0 := Fr.nil n0
  have pre0 : ∀ t, Steps p.tables e below (s₁.setTop (mkF m 0 #[.val (.int p1)] [])) t → Steps p.tables e below (s₁.setTop (entryFrame m #[(.int p1)] 1)) t := fun t k => castTop (ef_2 m p1) k
  obtain ⟨T2, X2, e2, st2⟩ := getS2 X0 hx hZ hown (host := "") (Or.inl (hw _ (List.mem_of_getElem? (i := 29) rfl))) Via.refl e0 S_SUBSCRIBE (g := (mkF m 71 #[.val (.int p1)] [])) rfl (hb hby d2_71)
  obtain ⟨fs, hr, hrun, hended, hW, hsame⟩ := X2.leave (v := some (.ref s_SUBSCRIBE)) (fun h => by rw [Bd.returns] at h; cases h)
  refine ⟨_, _, pre0 _ ?_, hrun, hended, _, _, rfl, ?_, ⟨_, rfl⟩, hW, hsame.mono (by decide) (by decide)⟩
  · show Steps p.tables e below (s₁.setTop (mkF m 0 #[.val (.int p1)] [])) _
    refine XS.iloadN X0.here hx rfl (hb hby d2_0) rfl ?_
    show Steps p.tables e below (s₁.setTop (mkF m 1 #[.val (.int p1)] [(.int p1)])) _
    refine XS.iconst X0.here hx rfl (hb hby d2_1) ?_
    show Steps p.tables e below (s₁.setTop (mkF m 2 #[.val (.int p1)] [(.int (1 : Int32)), (.int p1)])) _
    refine XS.icmpYes X0.here hx rfl (pc0 := 2) (pc' := 9) rfl (hb hby d2_2) rfl (feq hc2).2 (by decide) (by decide) ?_
    show Steps p.tables e below (s₁.setTop (mkF m 9 #[.val (.int p1)] [])) _
    refine XS.iloadN X0.here hx rfl (hb hby d2_9) rfl ?_
    show Steps p.tables e below (s₁.setTop (mkF m 10 #[.val (.int p1)] [(.int p1)])) _
    refine XS.iconst X0.here hx rfl (hb hby d2_10) ?_
    show Steps p.tables e below (s₁.setTop (mkF m 11 #[.val (.int p1)] [(.int (2 : Int32)), (.int p1)])) _
    refine XS.icmpYes X0.here hx rfl (pc0 := 11) (pc' := 18) rfl (hb hby d2_11) rfl (feq hc11).2 (by decide) (by decide) ?_
    show Steps p.tables e below (s₁.setTop (mkF m 18 #[.val (.int p1)] [])) _
    refine XS.iloadN X0.here hx rfl (hb hby d2_18) rfl ?_
    show Steps p.tables e below (s₁.setTop (mkF m 19 #[.val (.int p1)] [(.int p1)])) _
    refine XS.iconst X0.here hx rfl (hb hby d2_19) ?_
    show Steps p.tables e below (s₁.setTop (mkF m 20 #[.val (.int p1)] [(.int (3 : Int32)), (.int p1)])) _
    refine XS.icmpYes X0.here hx rfl (pc0 := 20) (pc' := 27) rfl (hb hby d2_20) rfl (feq hc20).2 (by decide) (by decide) ?_
    show Steps p.tables e below (s₁.setTop (mkF m 27 #[.val (.int p1)] [])) _
    refine XS.iloadN X0.here hx rfl (hb hby d2_27) rfl ?_
    show Steps p.tables e below (s₁.setTop (mkF m 28 #[.val (.int p1)] [(.int p1)])) _
    refine XS.iconst X0.here hx rfl (hb hby d2_28) ?_
    show Steps p.tables e below (s₁.setTop (mkF m 29 #[.val (.int p1)] [(.int (4 : Int32)), (.int p1)])) _
    refine XS.icmpYes X0.here hx rfl (pc0 := 29) (pc' := 36) rfl (hb hby d2_29) rfl (feq hc29).2 (by decide) (by decide) ?_
    show Steps p.tables e below (s₁.setTop (mkF m 36 #[.val (.int p1)] [])) _
    refine XS.iloadN X0.here hx rfl (hb hby d2_36) rfl ?_
    show Steps p.tables e below (s₁.setTop (mkF m 37 #[.val (.int p1)] [(.int p1)])) _
    refine XS.iconst X0.here hx rfl (hb hby d2_37) ?_
    show Steps p.tables e below (s₁.setTop (mkF m 38 #[.val (.int p1)] [(.int (5 : Int32)), (.int p1)])) _
    refine XS.icmpYes X0.here hx rfl (pc0 := 38) (pc' := 45) rfl (hb hby d2_38) rfl (feq hc38).2 (by decide) (by decide) ?_
    show Steps p.tables e below (s₁.setTop (mkF m 45 #[.val (.int p1)] [])) _
    refine XS.iloadN X0.here hx rfl (hb hby d2_45) rfl ?_
    show Steps p.tables e below (s₁.setTop (mkF m 46 #[.val (.int p1)] [(.int p1)])) _
    refine XS.bipush X0.here hx rfl (hb hby d2_46) ?_
    show Steps p.tables e below (s₁.setTop (mkF m 48 #[.val (.int p1)] [(.int (6 : Int32)), (.int p1)])) _
    refine XS.icmpYes X0.here hx rfl (pc0 := 48) (pc' := 55) rfl (hb hby d2_48) rfl (feq hc48).2 (by decide) (by decide) ?_
    show Steps p.tables e below (s₁.setTop (mkF m 55 #[.val (.int p1)] [])) _
    refine XS.iloadN X0.here hx rfl (hb hby d2_55) rfl ?_
    show Steps p.tables e below (s₁.setTop (mkF m 56 #[.val (.int p1)] [(.int p1)])) _
    refine XS.bipush X0.here hx rfl (hb hby d2_56) ?_
    show Steps p.tables e below (s₁.setTop (mkF m 58 #[.val (.int p1)] [(.int (7 : Int32)), (.int p1)])) _
    refine XS.icmpYes X0.here hx rfl (pc0 := 58) (pc' := 65) rfl (hb hby d2_58) rfl (feq hc58).2 (by decide) (by decide) ?_
    show Steps p.tables e below (s₁.setTop (mkF m 65 #[.val (.int p1)] [])) _
    refine XS.iloadN X0.here hx rfl (hb hby d2_65) rfl ?_
    show Steps p.tables e below (s₁.setTop (mkF m 66 #[.val (.int p1)] [(.int p1)])) _
    refine XS.bipush X0.here hx rfl (hb hby d2_66) ?_
    show Steps p.tables e below (s₁.setTop (mkF m 68 #[.val (.int p1)] [(.int (8 : Int32)), (.int p1)])) _
    refine XS.icmpNo X0.here hx rfl (hb hby d2_68) rfl (teq hc68).2 ?_
    show Steps p.tables e below (s₁.setTop (mkF m 71 #[.val (.int p1)] [])) _
    refine st2 _ ?_
    show Steps p.tables e below (T2.setTop (mkF m 74 #[.val (.int p1)] [(.ref s_SUBSCRIBE)])) _
    jvm_step X2.here [X2.here.top, hx, (hb hby d2_74), X2.method', Bd.returns, Value.isRef, FieldType.isReference]
    first | (intro acts; rw [hr _ acts rfl rfl rfl]) | rw [hr _ _ rfl rfl rfl]
    exact Steps.refl _
  · show Q_rm2 Z p1 s_CONNECT s_CONNACK s_PUBLISH s_PUBACK s_PUBREC s_PUBREL s_PUBCOMP s_SUBSCRIBE s_SUBACK s_UNSUBSCRIBE s_UNSUBACK s_PINGREQ s_PINGRESP s_DISCONNECT h0 n0 _ T2.heap _
    exact ⟨by rw [F2, if_neg hc2, if_neg hc11, if_neg hc20, if_neg hc29, if_neg hc38, if_neg hc48, if_neg hc58, if_pos hc68], N0, e2⟩
set_option maxRecDepth 65536 in
set_option maxHeartbeats 40000000 in
theorem rm2_ttttttttf (l : Launch) (Z : State) (a0 : Array Value) (hw : ∀ d ∈ tables_1, d.before a0 Z = true) (ws : List Jvm.Cond) (p1 : Int32) (s_CONNECT : Addr) (s_CONNACK : Addr) (s_PUBLISH : Addr) (s_PUBACK : Addr) (s_PUBREC : Addr) (s_PUBREL : Addr) (s_PUBCOMP : Addr) (s_SUBSCRIBE : Addr) (s_SUBACK : Addr) (s_UNSUBSCRIBE : Addr) (s_UNSUBACK : Addr) (s_PINGREQ : Addr) (s_PINGRESP : Addr) (s_DISCONNECT : Addr) (h0 : Heap) (n0 : Nat) (Z0 : n0 ≤ h0.size) (S_CONNECT : Sta Z h0 "com/example/lob/lob/codec/PacketType" "CONNECT" "Lcom/example/lob/lob/codec/PacketType;" (.ref s_CONNECT)) (S_CONNACK : Sta Z h0 "com/example/lob/lob/codec/PacketType" "CONNACK" "Lcom/example/lob/lob/codec/PacketType;" (.ref s_CONNACK)) (S_PUBLISH : Sta Z h0 "com/example/lob/lob/codec/PacketType" "PUBLISH" "Lcom/example/lob/lob/codec/PacketType;" (.ref s_PUBLISH)) (S_PUBACK : Sta Z h0 "com/example/lob/lob/codec/PacketType" "PUBACK" "Lcom/example/lob/lob/codec/PacketType;" (.ref s_PUBACK)) (S_PUBREC : Sta Z h0 "com/example/lob/lob/codec/PacketType" "PUBREC" "Lcom/example/lob/lob/codec/PacketType;" (.ref s_PUBREC)) (S_PUBREL : Sta Z h0 "com/example/lob/lob/codec/PacketType" "PUBREL" "Lcom/example/lob/lob/codec/PacketType;" (.ref s_PUBREL)) (S_PUBCOMP : Sta Z h0 "com/example/lob/lob/codec/PacketType" "PUBCOMP" "Lcom/example/lob/lob/codec/PacketType;" (.ref s_PUBCOMP)) (S_SUBSCRIBE : Sta Z h0 "com/example/lob/lob/codec/PacketType" "SUBSCRIBE" "Lcom/example/lob/lob/codec/PacketType;" (.ref s_SUBSCRIBE)) (S_SUBACK : Sta Z h0 "com/example/lob/lob/codec/PacketType" "SUBACK" "Lcom/example/lob/lob/codec/PacketType;" (.ref s_SUBACK)) (S_UNSUBSCRIBE : Sta Z h0 "com/example/lob/lob/codec/PacketType" "UNSUBSCRIBE" "Lcom/example/lob/lob/codec/PacketType;" (.ref s_UNSUBSCRIBE)) (S_UNSUBACK : Sta Z h0 "com/example/lob/lob/codec/PacketType" "UNSUBACK" "Lcom/example/lob/lob/codec/PacketType;" (.ref s_UNSUBACK)) (S_PINGREQ : Sta Z h0 "com/example/lob/lob/codec/PacketType" "PINGREQ" "Lcom/example/lob/lob/codec/PacketType;" (.ref s_PINGREQ)) (S_PINGRESP : Sta Z h0 "com/example/lob/lob/codec/PacketType" "PINGRESP" "Lcom/example/lob/lob/codec/PacketType;" (.ref s_PINGRESP)) (S_DISCONNECT : Sta Z h0 "com/example/lob/lob/codec/PacketType" "DISCONNECT" "Lcom/example/lob/lob/codec/PacketType;" (.ref s_DISCONNECT)) (hc2 : ¬ (p1 = (1 : Int32))) (hc11 : ¬ (p1 = (2 : Int32))) (hc20 : ¬ (p1 = (3 : Int32))) (hc29 : ¬ (p1 = (4 : Int32))) (hc38 : ¬ (p1 = (5 : Int32))) (hc48 : ¬ (p1 = (6 : Int32))) (hc58 : ¬ (p1 = (7 : Int32))) (hc68 : ¬ (p1 = (8 : Int32))) (hc78 : p1 = (9 : Int32)) :
    MetFree l (⟨"com/example/lob/lob/codec/PacketTypeFromNumberPinLaw", "expected", "(I)Lcom/example/lob/lob/codec/PacketType;"⟩ : MethodName) (head1 (Jvm.Cond.code (⟨"com/example/lob/lob/codec/PacketTypeFromNumberPinLaw", "expected", "(I)Lcom/example/lob/lob/codec/PacketType;"⟩ : MethodName) method_2_code 1 (some (.object "com/example/lob/lob/codec/PacketType")) :: ws) ({ frames := 0, cells := 0, slots := 0, locals := 0 } : Room)) (fun a U => a = #[(.int p1)] ∧ Z.Warmed39 U.vm ∧ U.heap = h0) (fun _ _ _ _ _ => True) (fun _ U o U' => ∃ v L, o = .returned v ∧ Q_rm2 Z p1 s_CONNECT s_CONNACK s_PUBLISH s_PUBACK s_PUBREC s_PUBREL s_PUBCOMP s_SUBSCRIBE s_SUBACK s_UNSUBSCRIBE s_UNSUBACK s_PINGREQ s_PINGRESP s_DISCONNECT h0 n0 v U'.heap L ∧ FrameEnd U o U' L ({ frames := 0, cells := 0, slots := 0, locals := 0 } : Room).cells ({ frames := 0, cells := 0, slots := 0, locals := 0 } : Room).slots) := by
  refine MetFree.of_bodySF (plainFor_of_name pn_2) hisR ?_
  intro p e s m args below meth c s₁ Bd hml0 hP hK
  obtain ⟨rfl, hZ, hh⟩ := hP
  have hx := Bd.exec
  have hby := Bd.bytes
  have hml : c.maxLocals = 1 := hml0
  have hown : s.vm.findClass "com/example/lob/lob/codec/PacketTypeFromNumberPinLaw" = some m.cls := findClass_of_methodNamed Bd.named
  have hnm := (name_of_methodNamed Bd.named Bd.method).1
  have X0 : Stand p l e ({ frames := 0, cells := 0, slots := 0, locals := 0 } : Room) s m #[(.int p1)] below meth c s₁ [] 0 0 := Stand.of_body Bd
  have e0 : s₁.heap = h0 := by rw [← hh, Bd.state]; rfl
  have N0 := Fr.nil n0
  have pre0 : ∀ t, Steps p.tables e below (s₁.setTop (mkF m 0 #[.val (.int p1)] [])) t → Steps p.tables e below (s₁.setTop (entryFrame m #[(.int p1)] 1)) t := fun t k => castTop (ef_2 m p1) k
  obtain ⟨T2, X2, e2, st2⟩ := getS2 X0 hx hZ hown (host := "") (Or.inl (hw _ (List.mem_of_getElem? (i := 37) rfl))) Via.refl e0 S_SUBACK (g := (mkF m 81 #[.val (.int p1)] [])) rfl (hb hby d2_81)
  obtain ⟨fs, hr, hrun, hended, hW, hsame⟩ := X2.leave (v := some (.ref s_SUBACK)) (fun h => by rw [Bd.returns] at h; cases h)
  refine ⟨_, _, pre0 _ ?_, hrun, hended, _, _, rfl, ?_, ⟨_, rfl⟩, hW, hsame.mono (by decide) (by decide)⟩
  · show Steps p.tables e below (s₁.setTop (mkF m 0 #[.val (.int p1)] [])) _
    refine XS.iloadN X0.here hx rfl (hb hby d2_0) rfl ?_
    show Steps p.tables e below (s₁.setTop (mkF m 1 #[.val (.int p1)] [(.int p1)])) _
    refine XS.iconst X0.here hx rfl (hb hby d2_1) ?_
    show Steps p.tables e below (s₁.setTop (mkF m 2 #[.val (.int p1)] [(.int (1 : Int32)), (.int p1)])) _
    refine XS.icmpYes X0.here hx rfl (pc0 := 2) (pc' := 9) rfl (hb hby d2_2) rfl (feq hc2).2 (by decide) (by decide) ?_
    show Steps p.tables e below (s₁.setTop (mkF m 9 #[.val (.int p1)] [])) _
    refine XS.iloadN X0.here hx rfl (hb hby d2_9) rfl ?_
    show Steps p.tables e below (s₁.setTop (mkF m 10 #[.val (.int p1)] [(.int p1)])) _
    refine XS.iconst X0.here hx rfl (hb hby d2_10) ?_
    show Steps p.tables e below (s₁.setTop (mkF m 11 #[.val (.int p1)] [(.int (2 : Int32)), (.int p1)])) _
    refine XS.icmpYes X0.here hx rfl (pc0 := 11) (pc' := 18) rfl (hb hby d2_11) rfl (feq hc11).2 (by decide) (by decide) ?_
    show Steps p.tables e below (s₁.setTop (mkF m 18 #[.val (.int p1)] [])) _
    refine XS.iloadN X0.here hx rfl (hb hby d2_18) rfl ?_
    show Steps p.tables e below (s₁.setTop (mkF m 19 #[.val (.int p1)] [(.int p1)])) _
    refine XS.iconst X0.here hx rfl (hb hby d2_19) ?_
    show Steps p.tables e below (s₁.setTop (mkF m 20 #[.val (.int p1)] [(.int (3 : Int32)), (.int p1)])) _
    refine XS.icmpYes X0.here hx rfl (pc0 := 20) (pc' := 27) rfl (hb hby d2_20) rfl (feq hc20).2 (by decide) (by decide) ?_
    show Steps p.tables e below (s₁.setTop (mkF m 27 #[.val (.int p1)] [])) _
    refine XS.iloadN X0.here hx rfl (hb hby d2_27) rfl ?_
    show Steps p.tables e below (s₁.setTop (mkF m 28 #[.val (.int p1)] [(.int p1)])) _
    refine XS.iconst X0.here hx rfl (hb hby d2_28) ?_
    show Steps p.tables e below (s₁.setTop (mkF m 29 #[.val (.int p1)] [(.int (4 : Int32)), (.int p1)])) _
    refine XS.icmpYes X0.here hx rfl (pc0 := 29) (pc' := 36) rfl (hb hby d2_29) rfl (feq hc29).2 (by decide) (by decide) ?_
    show Steps p.tables e below (s₁.setTop (mkF m 36 #[.val (.int p1)] [])) _
    refine XS.iloadN X0.here hx rfl (hb hby d2_36) rfl ?_
    show Steps p.tables e below (s₁.setTop (mkF m 37 #[.val (.int p1)] [(.int p1)])) _
    refine XS.iconst X0.here hx rfl (hb hby d2_37) ?_
    show Steps p.tables e below (s₁.setTop (mkF m 38 #[.val (.int p1)] [(.int (5 : Int32)), (.int p1)])) _
    refine XS.icmpYes X0.here hx rfl (pc0 := 38) (pc' := 45) rfl (hb hby d2_38) rfl (feq hc38).2 (by decide) (by decide) ?_
    show Steps p.tables e below (s₁.setTop (mkF m 45 #[.val (.int p1)] [])) _
    refine XS.iloadN X0.here hx rfl (hb hby d2_45) rfl ?_
    show Steps p.tables e below (s₁.setTop (mkF m 46 #[.val (.int p1)] [(.int p1)])) _
    refine XS.bipush X0.here hx rfl (hb hby d2_46) ?_
    show Steps p.tables e below (s₁.setTop (mkF m 48 #[.val (.int p1)] [(.int (6 : Int32)), (.int p1)])) _
    refine XS.icmpYes X0.here hx rfl (pc0 := 48) (pc' := 55) rfl (hb hby d2_48) rfl (feq hc48).2 (by decide) (by decide) ?_
    show Steps p.tables e below (s₁.setTop (mkF m 55 #[.val (.int p1)] [])) _
    refine XS.iloadN X0.here hx rfl (hb hby d2_55) rfl ?_
    show Steps p.tables e below (s₁.setTop (mkF m 56 #[.val (.int p1)] [(.int p1)])) _
    refine XS.bipush X0.here hx rfl (hb hby d2_56) ?_
    show Steps p.tables e below (s₁.setTop (mkF m 58 #[.val (.int p1)] [(.int (7 : Int32)), (.int p1)])) _
    refine XS.icmpYes X0.here hx rfl (pc0 := 58) (pc' := 65) rfl (hb hby d2_58) rfl (feq hc58).2 (by decide) (by decide) ?_
    show Steps p.tables e below (s₁.setTop (mkF m 65 #[.val (.int p1)] [])) _
    refine XS.iloadN X0.here hx rfl (hb hby d2_65) rfl ?_
    show Steps p.tables e below (s₁.setTop (mkF m 66 #[.val (.int p1)] [(.int p1)])) _
    refine XS.bipush X0.here hx rfl (hb hby d2_66) ?_
    show Steps p.tables e below (s₁.setTop (mkF m 68 #[.val (.int p1)] [(.int (8 : Int32)), (.int p1)])) _
    refine XS.icmpYes X0.here hx rfl (pc0 := 68) (pc' := 75) rfl (hb hby d2_68) rfl (feq hc68).2 (by decide) (by decide) ?_
    show Steps p.tables e below (s₁.setTop (mkF m 75 #[.val (.int p1)] [])) _
    refine XS.iloadN X0.here hx rfl (hb hby d2_75) rfl ?_
    show Steps p.tables e below (s₁.setTop (mkF m 76 #[.val (.int p1)] [(.int p1)])) _
    refine XS.bipush X0.here hx rfl (hb hby d2_76) ?_
    show Steps p.tables e below (s₁.setTop (mkF m 78 #[.val (.int p1)] [(.int (9 : Int32)), (.int p1)])) _
    refine XS.icmpNo X0.here hx rfl (hb hby d2_78) rfl (teq hc78).2 ?_
    show Steps p.tables e below (s₁.setTop (mkF m 81 #[.val (.int p1)] [])) _
    refine st2 _ ?_
    show Steps p.tables e below (T2.setTop (mkF m 84 #[.val (.int p1)] [(.ref s_SUBACK)])) _
    jvm_step X2.here [X2.here.top, hx, (hb hby d2_84), X2.method', Bd.returns, Value.isRef, FieldType.isReference]
    first | (intro acts; rw [hr _ acts rfl rfl rfl]) | rw [hr _ _ rfl rfl rfl]
    exact Steps.refl _
  · show Q_rm2 Z p1 s_CONNECT s_CONNACK s_PUBLISH s_PUBACK s_PUBREC s_PUBREL s_PUBCOMP s_SUBSCRIBE s_SUBACK s_UNSUBSCRIBE s_UNSUBACK s_PINGREQ s_PINGRESP s_DISCONNECT h0 n0 _ T2.heap _
    exact ⟨by rw [F2, if_neg hc2, if_neg hc11, if_neg hc20, if_neg hc29, if_neg hc38, if_neg hc48, if_neg hc58, if_neg hc68, if_pos hc78], N0, e2⟩
set_option maxRecDepth 65536 in
set_option maxHeartbeats 40000000 in
theorem rm2_tttttttttf (l : Launch) (Z : State) (a0 : Array Value) (hw : ∀ d ∈ tables_1, d.before a0 Z = true) (ws : List Jvm.Cond) (p1 : Int32) (s_CONNECT : Addr) (s_CONNACK : Addr) (s_PUBLISH : Addr) (s_PUBACK : Addr) (s_PUBREC : Addr) (s_PUBREL : Addr) (s_PUBCOMP : Addr) (s_SUBSCRIBE : Addr) (s_SUBACK : Addr) (s_UNSUBSCRIBE : Addr) (s_UNSUBACK : Addr) (s_PINGREQ : Addr) (s_PINGRESP : Addr) (s_DISCONNECT : Addr) (h0 : Heap) (n0 : Nat) (Z0 : n0 ≤ h0.size) (S_CONNECT : Sta Z h0 "com/example/lob/lob/codec/PacketType" "CONNECT" "Lcom/example/lob/lob/codec/PacketType;" (.ref s_CONNECT)) (S_CONNACK : Sta Z h0 "com/example/lob/lob/codec/PacketType" "CONNACK" "Lcom/example/lob/lob/codec/PacketType;" (.ref s_CONNACK)) (S_PUBLISH : Sta Z h0 "com/example/lob/lob/codec/PacketType" "PUBLISH" "Lcom/example/lob/lob/codec/PacketType;" (.ref s_PUBLISH)) (S_PUBACK : Sta Z h0 "com/example/lob/lob/codec/PacketType" "PUBACK" "Lcom/example/lob/lob/codec/PacketType;" (.ref s_PUBACK)) (S_PUBREC : Sta Z h0 "com/example/lob/lob/codec/PacketType" "PUBREC" "Lcom/example/lob/lob/codec/PacketType;" (.ref s_PUBREC)) (S_PUBREL : Sta Z h0 "com/example/lob/lob/codec/PacketType" "PUBREL" "Lcom/example/lob/lob/codec/PacketType;" (.ref s_PUBREL)) (S_PUBCOMP : Sta Z h0 "com/example/lob/lob/codec/PacketType" "PUBCOMP" "Lcom/example/lob/lob/codec/PacketType;" (.ref s_PUBCOMP)) (S_SUBSCRIBE : Sta Z h0 "com/example/lob/lob/codec/PacketType" "SUBSCRIBE" "Lcom/example/lob/lob/codec/PacketType;" (.ref s_SUBSCRIBE)) (S_SUBACK : Sta Z h0 "com/example/lob/lob/codec/PacketType" "SUBACK" "Lcom/example/lob/lob/codec/PacketType;" (.ref s_SUBACK)) (S_UNSUBSCRIBE : Sta Z h0 "com/example/lob/lob/codec/PacketType" "UNSUBSCRIBE" "Lcom/example/lob/lob/codec/PacketType;" (.ref s_UNSUBSCRIBE)) (S_UNSUBACK : Sta Z h0 "com/example/lob/lob/codec/PacketType" "UNSUBACK" "Lcom/example/lob/lob/codec/PacketType;" (.ref s_UNSUBACK)) (S_PINGREQ : Sta Z h0 "com/example/lob/lob/codec/PacketType" "PINGREQ" "Lcom/example/lob/lob/codec/PacketType;" (.ref s_PINGREQ)) (S_PINGRESP : Sta Z h0 "com/example/lob/lob/codec/PacketType" "PINGRESP" "Lcom/example/lob/lob/codec/PacketType;" (.ref s_PINGRESP)) (S_DISCONNECT : Sta Z h0 "com/example/lob/lob/codec/PacketType" "DISCONNECT" "Lcom/example/lob/lob/codec/PacketType;" (.ref s_DISCONNECT)) (hc2 : ¬ (p1 = (1 : Int32))) (hc11 : ¬ (p1 = (2 : Int32))) (hc20 : ¬ (p1 = (3 : Int32))) (hc29 : ¬ (p1 = (4 : Int32))) (hc38 : ¬ (p1 = (5 : Int32))) (hc48 : ¬ (p1 = (6 : Int32))) (hc58 : ¬ (p1 = (7 : Int32))) (hc68 : ¬ (p1 = (8 : Int32))) (hc78 : ¬ (p1 = (9 : Int32))) (hc88 : p1 = (10 : Int32)) :
    MetFree l (⟨"com/example/lob/lob/codec/PacketTypeFromNumberPinLaw", "expected", "(I)Lcom/example/lob/lob/codec/PacketType;"⟩ : MethodName) (head1 (Jvm.Cond.code (⟨"com/example/lob/lob/codec/PacketTypeFromNumberPinLaw", "expected", "(I)Lcom/example/lob/lob/codec/PacketType;"⟩ : MethodName) method_2_code 1 (some (.object "com/example/lob/lob/codec/PacketType")) :: ws) ({ frames := 0, cells := 0, slots := 0, locals := 0 } : Room)) (fun a U => a = #[(.int p1)] ∧ Z.Warmed39 U.vm ∧ U.heap = h0) (fun _ _ _ _ _ => True) (fun _ U o U' => ∃ v L, o = .returned v ∧ Q_rm2 Z p1 s_CONNECT s_CONNACK s_PUBLISH s_PUBACK s_PUBREC s_PUBREL s_PUBCOMP s_SUBSCRIBE s_SUBACK s_UNSUBSCRIBE s_UNSUBACK s_PINGREQ s_PINGRESP s_DISCONNECT h0 n0 v U'.heap L ∧ FrameEnd U o U' L ({ frames := 0, cells := 0, slots := 0, locals := 0 } : Room).cells ({ frames := 0, cells := 0, slots := 0, locals := 0 } : Room).slots) := by
  refine MetFree.of_bodySF (plainFor_of_name pn_2) hisR ?_
  intro p e s m args below meth c s₁ Bd hml0 hP hK
  obtain ⟨rfl, hZ, hh⟩ := hP
  have hx := Bd.exec
  have hby := Bd.bytes
  have hml : c.maxLocals = 1 := hml0
  have hown : s.vm.findClass "com/example/lob/lob/codec/PacketTypeFromNumberPinLaw" = some m.cls := findClass_of_methodNamed Bd.named
  have hnm := (name_of_methodNamed Bd.named Bd.method).1
  have X0 : Stand p l e ({ frames := 0, cells := 0, slots := 0, locals := 0 } : Room) s m #[(.int p1)] below meth c s₁ [] 0 0 := Stand.of_body Bd
  have e0 : s₁.heap = h0 := by rw [← hh, Bd.state]; rfl
  have N0 := Fr.nil n0
  have pre0 : ∀ t, Steps p.tables e below (s₁.setTop (mkF m 0 #[.val (.int p1)] [])) t → Steps p.tables e below (s₁.setTop (entryFrame m #[(.int p1)] 1)) t := fun t k => castTop (ef_2 m p1) k
  obtain ⟨T2, X2, e2, st2⟩ := getS2 X0 hx hZ hown (host := "") (Or.inl (hw _ (List.mem_of_getElem? (i := 41) rfl))) Via.refl e0 S_UNSUBSCRIBE (g := (mkF m 91 #[.val (.int p1)] [])) rfl (hb hby d2_91)
  obtain ⟨fs, hr, hrun, hended, hW, hsame⟩ := X2.leave (v := some (.ref s_UNSUBSCRIBE)) (fun h => by rw [Bd.returns] at h; cases h)
  refine ⟨_, _, pre0 _ ?_, hrun, hended, _, _, rfl, ?_, ⟨_, rfl⟩, hW, hsame.mono (by decide) (by decide)⟩
  · show Steps p.tables e below (s₁.setTop (mkF m 0 #[.val (.int p1)] [])) _
    refine XS.iloadN X0.here hx rfl (hb hby d2_0) rfl ?_
    show Steps p.tables e below (s₁.setTop (mkF m 1 #[.val (.int p1)] [(.int p1)])) _
    refine XS.iconst X0.here hx rfl (hb hby d2_1) ?_
    show Steps p.tables e below (s₁.setTop (mkF m 2 #[.val (.int p1)] [(.int (1 : Int32)), (.int p1)])) _
    refine XS.icmpYes X0.here hx rfl (pc0 := 2) (pc' := 9) rfl (hb hby d2_2) rfl (feq hc2).2 (by decide) (by decide) ?_
    show Steps p.tables e below (s₁.setTop (mkF m 9 #[.val (.int p1)] [])) _
    refine XS.iloadN X0.here hx rfl (hb hby d2_9) rfl ?_
    show Steps p.tables e below (s₁.setTop (mkF m 10 #[.val (.int p1)] [(.int p1)])) _
    refine XS.iconst X0.here hx rfl (hb hby d2_10) ?_
    show Steps p.tables e below (s₁.setTop (mkF m 11 #[.val (.int p1)] [(.int (2 : Int32)), (.int p1)])) _
    refine XS.icmpYes X0.here hx rfl (pc0 := 11) (pc' := 18) rfl (hb hby d2_11) rfl (feq hc11).2 (by decide) (by decide) ?_
    show Steps p.tables e below (s₁.setTop (mkF m 18 #[.val (.int p1)] [])) _
    refine XS.iloadN X0.here hx rfl (hb hby d2_18) rfl ?_
    show Steps p.tables e below (s₁.setTop (mkF m 19 #[.val (.int p1)] [(.int p1)])) _
    refine XS.iconst X0.here hx rfl (hb hby d2_19) ?_
    show Steps p.tables e below (s₁.setTop (mkF m 20 #[.val (.int p1)] [(.int (3 : Int32)), (.int p1)])) _
    refine XS.icmpYes X0.here hx rfl (pc0 := 20) (pc' := 27) rfl (hb hby d2_20) rfl (feq hc20).2 (by decide) (by decide) ?_
    show Steps p.tables e below (s₁.setTop (mkF m 27 #[.val (.int p1)] [])) _
    refine XS.iloadN X0.here hx rfl (hb hby d2_27) rfl ?_
    show Steps p.tables e below (s₁.setTop (mkF m 28 #[.val (.int p1)] [(.int p1)])) _
    refine XS.iconst X0.here hx rfl (hb hby d2_28) ?_
    show Steps p.tables e below (s₁.setTop (mkF m 29 #[.val (.int p1)] [(.int (4 : Int32)), (.int p1)])) _
    refine XS.icmpYes X0.here hx rfl (pc0 := 29) (pc' := 36) rfl (hb hby d2_29) rfl (feq hc29).2 (by decide) (by decide) ?_
    show Steps p.tables e below (s₁.setTop (mkF m 36 #[.val (.int p1)] [])) _
    refine XS.iloadN X0.here hx rfl (hb hby d2_36) rfl ?_
    show Steps p.tables e below (s₁.setTop (mkF m 37 #[.val (.int p1)] [(.int p1)])) _
    refine XS.iconst X0.here hx rfl (hb hby d2_37) ?_
    show Steps p.tables e below (s₁.setTop (mkF m 38 #[.val (.int p1)] [(.int (5 : Int32)), (.int p1)])) _
    refine XS.icmpYes X0.here hx rfl (pc0 := 38) (pc' := 45) rfl (hb hby d2_38) rfl (feq hc38).2 (by decide) (by decide) ?_
    show Steps p.tables e below (s₁.setTop (mkF m 45 #[.val (.int p1)] [])) _
    refine XS.iloadN X0.here hx rfl (hb hby d2_45) rfl ?_
    show Steps p.tables e below (s₁.setTop (mkF m 46 #[.val (.int p1)] [(.int p1)])) _
    refine XS.bipush X0.here hx rfl (hb hby d2_46) ?_
    show Steps p.tables e below (s₁.setTop (mkF m 48 #[.val (.int p1)] [(.int (6 : Int32)), (.int p1)])) _
    refine XS.icmpYes X0.here hx rfl (pc0 := 48) (pc' := 55) rfl (hb hby d2_48) rfl (feq hc48).2 (by decide) (by decide) ?_
    show Steps p.tables e below (s₁.setTop (mkF m 55 #[.val (.int p1)] [])) _
    refine XS.iloadN X0.here hx rfl (hb hby d2_55) rfl ?_
    show Steps p.tables e below (s₁.setTop (mkF m 56 #[.val (.int p1)] [(.int p1)])) _
    refine XS.bipush X0.here hx rfl (hb hby d2_56) ?_
    show Steps p.tables e below (s₁.setTop (mkF m 58 #[.val (.int p1)] [(.int (7 : Int32)), (.int p1)])) _
    refine XS.icmpYes X0.here hx rfl (pc0 := 58) (pc' := 65) rfl (hb hby d2_58) rfl (feq hc58).2 (by decide) (by decide) ?_
    show Steps p.tables e below (s₁.setTop (mkF m 65 #[.val (.int p1)] [])) _
    refine XS.iloadN X0.here hx rfl (hb hby d2_65) rfl ?_
    show Steps p.tables e below (s₁.setTop (mkF m 66 #[.val (.int p1)] [(.int p1)])) _
    refine XS.bipush X0.here hx rfl (hb hby d2_66) ?_
    show Steps p.tables e below (s₁.setTop (mkF m 68 #[.val (.int p1)] [(.int (8 : Int32)), (.int p1)])) _
    refine XS.icmpYes X0.here hx rfl (pc0 := 68) (pc' := 75) rfl (hb hby d2_68) rfl (feq hc68).2 (by decide) (by decide) ?_
    show Steps p.tables e below (s₁.setTop (mkF m 75 #[.val (.int p1)] [])) _
    refine XS.iloadN X0.here hx rfl (hb hby d2_75) rfl ?_
    show Steps p.tables e below (s₁.setTop (mkF m 76 #[.val (.int p1)] [(.int p1)])) _
    refine XS.bipush X0.here hx rfl (hb hby d2_76) ?_
    show Steps p.tables e below (s₁.setTop (mkF m 78 #[.val (.int p1)] [(.int (9 : Int32)), (.int p1)])) _
    refine XS.icmpYes X0.here hx rfl (pc0 := 78) (pc' := 85) rfl (hb hby d2_78) rfl (feq hc78).2 (by decide) (by decide) ?_
    show Steps p.tables e below (s₁.setTop (mkF m 85 #[.val (.int p1)] [])) _
    refine XS.iloadN X0.here hx rfl (hb hby d2_85) rfl ?_
    show Steps p.tables e below (s₁.setTop (mkF m 86 #[.val (.int p1)] [(.int p1)])) _
    refine XS.bipush X0.here hx rfl (hb hby d2_86) ?_
    show Steps p.tables e below (s₁.setTop (mkF m 88 #[.val (.int p1)] [(.int (10 : Int32)), (.int p1)])) _
    refine XS.icmpNo X0.here hx rfl (hb hby d2_88) rfl (teq hc88).2 ?_
    show Steps p.tables e below (s₁.setTop (mkF m 91 #[.val (.int p1)] [])) _
    refine st2 _ ?_
    show Steps p.tables e below (T2.setTop (mkF m 94 #[.val (.int p1)] [(.ref s_UNSUBSCRIBE)])) _
    jvm_step X2.here [X2.here.top, hx, (hb hby d2_94), X2.method', Bd.returns, Value.isRef, FieldType.isReference]
    first | (intro acts; rw [hr _ acts rfl rfl rfl]) | rw [hr _ _ rfl rfl rfl]
    exact Steps.refl _
  · show Q_rm2 Z p1 s_CONNECT s_CONNACK s_PUBLISH s_PUBACK s_PUBREC s_PUBREL s_PUBCOMP s_SUBSCRIBE s_SUBACK s_UNSUBSCRIBE s_UNSUBACK s_PINGREQ s_PINGRESP s_DISCONNECT h0 n0 _ T2.heap _
    exact ⟨by rw [F2, if_neg hc2, if_neg hc11, if_neg hc20, if_neg hc29, if_neg hc38, if_neg hc48, if_neg hc58, if_neg hc68, if_neg hc78, if_pos hc88], N0, e2⟩
set_option maxRecDepth 65536 in
set_option maxHeartbeats 40000000 in
theorem rm2_ttttttttttf (l : Launch) (Z : State) (a0 : Array Value) (hw : ∀ d ∈ tables_1, d.before a0 Z = true) (ws : List Jvm.Cond) (p1 : Int32) (s_CONNECT : Addr) (s_CONNACK : Addr) (s_PUBLISH : Addr) (s_PUBACK : Addr) (s_PUBREC : Addr) (s_PUBREL : Addr) (s_PUBCOMP : Addr) (s_SUBSCRIBE : Addr) (s_SUBACK : Addr) (s_UNSUBSCRIBE : Addr) (s_UNSUBACK : Addr) (s_PINGREQ : Addr) (s_PINGRESP : Addr) (s_DISCONNECT : Addr) (h0 : Heap) (n0 : Nat) (Z0 : n0 ≤ h0.size) (S_CONNECT : Sta Z h0 "com/example/lob/lob/codec/PacketType" "CONNECT" "Lcom/example/lob/lob/codec/PacketType;" (.ref s_CONNECT)) (S_CONNACK : Sta Z h0 "com/example/lob/lob/codec/PacketType" "CONNACK" "Lcom/example/lob/lob/codec/PacketType;" (.ref s_CONNACK)) (S_PUBLISH : Sta Z h0 "com/example/lob/lob/codec/PacketType" "PUBLISH" "Lcom/example/lob/lob/codec/PacketType;" (.ref s_PUBLISH)) (S_PUBACK : Sta Z h0 "com/example/lob/lob/codec/PacketType" "PUBACK" "Lcom/example/lob/lob/codec/PacketType;" (.ref s_PUBACK)) (S_PUBREC : Sta Z h0 "com/example/lob/lob/codec/PacketType" "PUBREC" "Lcom/example/lob/lob/codec/PacketType;" (.ref s_PUBREC)) (S_PUBREL : Sta Z h0 "com/example/lob/lob/codec/PacketType" "PUBREL" "Lcom/example/lob/lob/codec/PacketType;" (.ref s_PUBREL)) (S_PUBCOMP : Sta Z h0 "com/example/lob/lob/codec/PacketType" "PUBCOMP" "Lcom/example/lob/lob/codec/PacketType;" (.ref s_PUBCOMP)) (S_SUBSCRIBE : Sta Z h0 "com/example/lob/lob/codec/PacketType" "SUBSCRIBE" "Lcom/example/lob/lob/codec/PacketType;" (.ref s_SUBSCRIBE)) (S_SUBACK : Sta Z h0 "com/example/lob/lob/codec/PacketType" "SUBACK" "Lcom/example/lob/lob/codec/PacketType;" (.ref s_SUBACK)) (S_UNSUBSCRIBE : Sta Z h0 "com/example/lob/lob/codec/PacketType" "UNSUBSCRIBE" "Lcom/example/lob/lob/codec/PacketType;" (.ref s_UNSUBSCRIBE)) (S_UNSUBACK : Sta Z h0 "com/example/lob/lob/codec/PacketType" "UNSUBACK" "Lcom/example/lob/lob/codec/PacketType;" (.ref s_UNSUBACK)) (S_PINGREQ : Sta Z h0 "com/example/lob/lob/codec/PacketType" "PINGREQ" "Lcom/example/lob/lob/codec/PacketType;" (.ref s_PINGREQ)) (S_PINGRESP : Sta Z h0 "com/example/lob/lob/codec/PacketType" "PINGRESP" "Lcom/example/lob/lob/codec/PacketType;" (.ref s_PINGRESP)) (S_DISCONNECT : Sta Z h0 "com/example/lob/lob/codec/PacketType" "DISCONNECT" "Lcom/example/lob/lob/codec/PacketType;" (.ref s_DISCONNECT)) (hc2 : ¬ (p1 = (1 : Int32))) (hc11 : ¬ (p1 = (2 : Int32))) (hc20 : ¬ (p1 = (3 : Int32))) (hc29 : ¬ (p1 = (4 : Int32))) (hc38 : ¬ (p1 = (5 : Int32))) (hc48 : ¬ (p1 = (6 : Int32))) (hc58 : ¬ (p1 = (7 : Int32))) (hc68 : ¬ (p1 = (8 : Int32))) (hc78 : ¬ (p1 = (9 : Int32))) (hc88 : ¬ (p1 = (10 : Int32))) (hc98 : p1 = (11 : Int32)) :
    MetFree l (⟨"com/example/lob/lob/codec/PacketTypeFromNumberPinLaw", "expected", "(I)Lcom/example/lob/lob/codec/PacketType;"⟩ : MethodName) (head1 (Jvm.Cond.code (⟨"com/example/lob/lob/codec/PacketTypeFromNumberPinLaw", "expected", "(I)Lcom/example/lob/lob/codec/PacketType;"⟩ : MethodName) method_2_code 1 (some (.object "com/example/lob/lob/codec/PacketType")) :: ws) ({ frames := 0, cells := 0, slots := 0, locals := 0 } : Room)) (fun a U => a = #[(.int p1)] ∧ Z.Warmed39 U.vm ∧ U.heap = h0) (fun _ _ _ _ _ => True) (fun _ U o U' => ∃ v L, o = .returned v ∧ Q_rm2 Z p1 s_CONNECT s_CONNACK s_PUBLISH s_PUBACK s_PUBREC s_PUBREL s_PUBCOMP s_SUBSCRIBE s_SUBACK s_UNSUBSCRIBE s_UNSUBACK s_PINGREQ s_PINGRESP s_DISCONNECT h0 n0 v U'.heap L ∧ FrameEnd U o U' L ({ frames := 0, cells := 0, slots := 0, locals := 0 } : Room).cells ({ frames := 0, cells := 0, slots := 0, locals := 0 } : Room).slots) := by
  refine MetFree.of_bodySF (plainFor_of_name pn_2) hisR ?_
  intro p e s m args below meth c s₁ Bd hml0 hP hK
  obtain ⟨rfl, hZ, hh⟩ := hP
  have hx := Bd.exec
  have hby := Bd.bytes
  have hml : c.maxLocals = 1 := hml0
  have hown : s.vm.findClass "com/example/lob/lob/codec/PacketTypeFromNumberPinLaw" = some m.cls := findClass_of_methodNamed Bd.named
  have hnm := (name_of_methodNamed Bd.named Bd.method).1
  have X0 : Stand p l e ({ frames := 0, cells := 0, slots := 0, locals := 0 } : Room) s m #[(.int p1)] below meth c s₁ [] 0 0 := Stand.of_body Bd
  have e0 : s₁.heap = h0 := by rw [← hh, Bd.state]; rfl
  have N0 := Fr.nil n0
  have pre0 : ∀ t, Steps p.tables e below (s₁.setTop (mkF m 0 #[.val (.int p1)] [])) t → Steps p.tables e below (s₁.setTop (entryFrame m #[(.int p1)] 1)) t := fun t k => castTop (ef_2 m p1) k
  obtain ⟨T2, X2, e2, st2⟩ := getS2 X0 hx hZ hown (host := "") (Or.inl (hw _ (List.mem_of_getElem? (i := 35) rfl))) Via.refl e0 S_UNSUBACK (g := (mkF m 101 #[.val (.int p1)] [])) rfl (hb hby d2_101)
  obtain ⟨fs, hr, hrun, hended, hW, hsame⟩ := X2.leave (v := some (.ref s_UNSUBACK)) (fun h => by rw [Bd.returns] at h; cases h)
  refine ⟨_, _, pre0 _ ?_, hrun, hended, _, _, rfl, ?_, ⟨_, rfl⟩, hW, hsame.mono (by decide) (by decide)⟩
  · show Steps p.tables e below (s₁.setTop (mkF m 0 #[.val (.int p1)] [])) _
    refine XS.iloadN X0.here hx rfl (hb hby d2_0) rfl ?_
    show Steps p.tables e below (s₁.setTop (mkF m 1 #[.val (.int p1)] [(.int p1)])) _
    refine XS.iconst X0.here hx rfl (hb hby d2_1) ?_
    show Steps p.tables e below (s₁.setTop (mkF m 2 #[.val (.int p1)] [(.int (1 : Int32)), (.int p1)])) _
    refine XS.icmpYes X0.here hx rfl (pc0 := 2) (pc' := 9) rfl (hb hby d2_2) rfl (feq hc2).2 (by decide) (by decide) ?_
    show Steps p.tables e below (s₁.setTop (mkF m 9 #[.val (.int p1)] [])) _
    refine XS.iloadN X0.here hx rfl (hb hby d2_9) rfl ?_
    show Steps p.tables e below (s₁.setTop (mkF m 10 #[.val (.int p1)] [(.int p1)])) _
    refine XS.iconst X0.here hx rfl (hb hby d2_10) ?_
    show Steps p.tables e below (s₁.setTop (mkF m 11 #[.val (.int p1)] [(.int (2 : Int32)), (.int p1)])) _
    refine XS.icmpYes X0.here hx rfl (pc0 := 11) (pc' := 18) rfl (hb hby d2_11) rfl (feq hc11).2 (by decide) (by decide) ?_
    show Steps p.tables e below (s₁.setTop (mkF m 18 #[.val (.int p1)] [])) _
    refine XS.iloadN X0.here hx rfl (hb hby d2_18) rfl ?_
    show Steps p.tables e below (s₁.setTop (mkF m 19 #[.val (.int p1)] [(.int p1)])) _
    refine XS.iconst X0.here hx rfl (hb hby d2_19) ?_
    show Steps p.tables e below (s₁.setTop (mkF m 20 #[.val (.int p1)] [(.int (3 : Int32)), (.int p1)])) _
    refine XS.icmpYes X0.here hx rfl (pc0 := 20) (pc' := 27) rfl (hb hby d2_20) rfl (feq hc20).2 (by decide) (by decide) ?_
    show Steps p.tables e below (s₁.setTop (mkF m 27 #[.val (.int p1)] [])) _
    refine XS.iloadN X0.here hx rfl (hb hby d2_27) rfl ?_
    show Steps p.tables e below (s₁.setTop (mkF m 28 #[.val (.int p1)] [(.int p1)])) _
    refine XS.iconst X0.here hx rfl (hb hby d2_28) ?_
    show Steps p.tables e below (s₁.setTop (mkF m 29 #[.val (.int p1)] [(.int (4 : Int32)), (.int p1)])) _
    refine XS.icmpYes X0.here hx rfl (pc0 := 29) (pc' := 36) rfl (hb hby d2_29) rfl (feq hc29).2 (by decide) (by decide) ?_
    show Steps p.tables e below (s₁.setTop (mkF m 36 #[.val (.int p1)] [])) _
    refine XS.iloadN X0.here hx rfl (hb hby d2_36) rfl ?_
    show Steps p.tables e below (s₁.setTop (mkF m 37 #[.val (.int p1)] [(.int p1)])) _
    refine XS.iconst X0.here hx rfl (hb hby d2_37) ?_
    show Steps p.tables e below (s₁.setTop (mkF m 38 #[.val (.int p1)] [(.int (5 : Int32)), (.int p1)])) _
    refine XS.icmpYes X0.here hx rfl (pc0 := 38) (pc' := 45) rfl (hb hby d2_38) rfl (feq hc38).2 (by decide) (by decide) ?_
    show Steps p.tables e below (s₁.setTop (mkF m 45 #[.val (.int p1)] [])) _
    refine XS.iloadN X0.here hx rfl (hb hby d2_45) rfl ?_
    show Steps p.tables e below (s₁.setTop (mkF m 46 #[.val (.int p1)] [(.int p1)])) _
    refine XS.bipush X0.here hx rfl (hb hby d2_46) ?_
    show Steps p.tables e below (s₁.setTop (mkF m 48 #[.val (.int p1)] [(.int (6 : Int32)), (.int p1)])) _
    refine XS.icmpYes X0.here hx rfl (pc0 := 48) (pc' := 55) rfl (hb hby d2_48) rfl (feq hc48).2 (by decide) (by decide) ?_
    show Steps p.tables e below (s₁.setTop (mkF m 55 #[.val (.int p1)] [])) _
    refine XS.iloadN X0.here hx rfl (hb hby d2_55) rfl ?_
    show Steps p.tables e below (s₁.setTop (mkF m 56 #[.val (.int p1)] [(.int p1)])) _
    refine XS.bipush X0.here hx rfl (hb hby d2_56) ?_
    show Steps p.tables e below (s₁.setTop (mkF m 58 #[.val (.int p1)] [(.int (7 : Int32)), (.int p1)])) _
    refine XS.icmpYes X0.here hx rfl (pc0 := 58) (pc' := 65) rfl (hb hby d2_58) rfl (feq hc58).2 (by decide) (by decide) ?_
    show Steps p.tables e below (s₁.setTop (mkF m 65 #[.val (.int p1)] [])) _
    refine XS.iloadN X0.here hx rfl (hb hby d2_65) rfl ?_
    show Steps p.tables e below (s₁.setTop (mkF m 66 #[.val (.int p1)] [(.int p1)])) _
    refine XS.bipush X0.here hx rfl (hb hby d2_66) ?_
    show Steps p.tables e below (s₁.setTop (mkF m 68 #[.val (.int p1)] [(.int (8 : Int32)), (.int p1)])) _
    refine XS.icmpYes X0.here hx rfl (pc0 := 68) (pc' := 75) rfl (hb hby d2_68) rfl (feq hc68).2 (by decide) (by decide) ?_
    show Steps p.tables e below (s₁.setTop (mkF m 75 #[.val (.int p1)] [])) _
    refine XS.iloadN X0.here hx rfl (hb hby d2_75) rfl ?_
    show Steps p.tables e below (s₁.setTop (mkF m 76 #[.val (.int p1)] [(.int p1)])) _
    refine XS.bipush X0.here hx rfl (hb hby d2_76) ?_
    show Steps p.tables e below (s₁.setTop (mkF m 78 #[.val (.int p1)] [(.int (9 : Int32)), (.int p1)])) _
    refine XS.icmpYes X0.here hx rfl (pc0 := 78) (pc' := 85) rfl (hb hby d2_78) rfl (feq hc78).2 (by decide) (by decide) ?_
    show Steps p.tables e below (s₁.setTop (mkF m 85 #[.val (.int p1)] [])) _
    refine XS.iloadN X0.here hx rfl (hb hby d2_85) rfl ?_
    show Steps p.tables e below (s₁.setTop (mkF m 86 #[.val (.int p1)] [(.int p1)])) _
    refine XS.bipush X0.here hx rfl (hb hby d2_86) ?_
    show Steps p.tables e below (s₁.setTop (mkF m 88 #[.val (.int p1)] [(.int (10 : Int32)), (.int p1)])) _
    refine XS.icmpYes X0.here hx rfl (pc0 := 88) (pc' := 95) rfl (hb hby d2_88) rfl (feq hc88).2 (by decide) (by decide) ?_
    show Steps p.tables e below (s₁.setTop (mkF m 95 #[.val (.int p1)] [])) _
    refine XS.iloadN X0.here hx rfl (hb hby d2_95) rfl ?_
    show Steps p.tables e below (s₁.setTop (mkF m 96 #[.val (.int p1)] [(.int p1)])) _
    refine XS.bipush X0.here hx rfl (hb hby d2_96) ?_
    show Steps p.tables e below (s₁.setTop (mkF m 98 #[.val (.int p1)] [(.int (11 : Int32)), (.int p1)])) _
    refine XS.icmpNo X0.here hx rfl (hb hby d2_98) rfl (teq hc98).2 ?_
    show Steps p.tables e below (s₁.setTop (mkF m 101 #[.val (.int p1)] [])) _
    refine st2 _ ?_
    show Steps p.tables e below (T2.setTop (mkF m 104 #[.val (.int p1)] [(.ref s_UNSUBACK)])) _
    jvm_step X2.here [X2.here.top, hx, (hb hby d2_104), X2.method', Bd.returns, Value.isRef, FieldType.isReference]
    first | (intro acts; rw [hr _ acts rfl rfl rfl]) | rw [hr _ _ rfl rfl rfl]
    exact Steps.refl _
  · show Q_rm2 Z p1 s_CONNECT s_CONNACK s_PUBLISH s_PUBACK s_PUBREC s_PUBREL s_PUBCOMP s_SUBSCRIBE s_SUBACK s_UNSUBSCRIBE s_UNSUBACK s_PINGREQ s_PINGRESP s_DISCONNECT h0 n0 _ T2.heap _
    exact ⟨by rw [F2, if_neg hc2, if_neg hc11, if_neg hc20, if_neg hc29, if_neg hc38, if_neg hc48, if_neg hc58, if_neg hc68, if_neg hc78, if_neg hc88, if_pos hc98], N0, e2⟩
set_option maxRecDepth 65536 in
set_option maxHeartbeats 40000000 in
theorem rm2_tttttttttttf (l : Launch) (Z : State) (a0 : Array Value) (hw : ∀ d ∈ tables_1, d.before a0 Z = true) (ws : List Jvm.Cond) (p1 : Int32) (s_CONNECT : Addr) (s_CONNACK : Addr) (s_PUBLISH : Addr) (s_PUBACK : Addr) (s_PUBREC : Addr) (s_PUBREL : Addr) (s_PUBCOMP : Addr) (s_SUBSCRIBE : Addr) (s_SUBACK : Addr) (s_UNSUBSCRIBE : Addr) (s_UNSUBACK : Addr) (s_PINGREQ : Addr) (s_PINGRESP : Addr) (s_DISCONNECT : Addr) (h0 : Heap) (n0 : Nat) (Z0 : n0 ≤ h0.size) (S_CONNECT : Sta Z h0 "com/example/lob/lob/codec/PacketType" "CONNECT" "Lcom/example/lob/lob/codec/PacketType;" (.ref s_CONNECT)) (S_CONNACK : Sta Z h0 "com/example/lob/lob/codec/PacketType" "CONNACK" "Lcom/example/lob/lob/codec/PacketType;" (.ref s_CONNACK)) (S_PUBLISH : Sta Z h0 "com/example/lob/lob/codec/PacketType" "PUBLISH" "Lcom/example/lob/lob/codec/PacketType;" (.ref s_PUBLISH)) (S_PUBACK : Sta Z h0 "com/example/lob/lob/codec/PacketType" "PUBACK" "Lcom/example/lob/lob/codec/PacketType;" (.ref s_PUBACK)) (S_PUBREC : Sta Z h0 "com/example/lob/lob/codec/PacketType" "PUBREC" "Lcom/example/lob/lob/codec/PacketType;" (.ref s_PUBREC)) (S_PUBREL : Sta Z h0 "com/example/lob/lob/codec/PacketType" "PUBREL" "Lcom/example/lob/lob/codec/PacketType;" (.ref s_PUBREL)) (S_PUBCOMP : Sta Z h0 "com/example/lob/lob/codec/PacketType" "PUBCOMP" "Lcom/example/lob/lob/codec/PacketType;" (.ref s_PUBCOMP)) (S_SUBSCRIBE : Sta Z h0 "com/example/lob/lob/codec/PacketType" "SUBSCRIBE" "Lcom/example/lob/lob/codec/PacketType;" (.ref s_SUBSCRIBE)) (S_SUBACK : Sta Z h0 "com/example/lob/lob/codec/PacketType" "SUBACK" "Lcom/example/lob/lob/codec/PacketType;" (.ref s_SUBACK)) (S_UNSUBSCRIBE : Sta Z h0 "com/example/lob/lob/codec/PacketType" "UNSUBSCRIBE" "Lcom/example/lob/lob/codec/PacketType;" (.ref s_UNSUBSCRIBE)) (S_UNSUBACK : Sta Z h0 "com/example/lob/lob/codec/PacketType" "UNSUBACK" "Lcom/example/lob/lob/codec/PacketType;" (.ref s_UNSUBACK)) (S_PINGREQ : Sta Z h0 "com/example/lob/lob/codec/PacketType" "PINGREQ" "Lcom/example/lob/lob/codec/PacketType;" (.ref s_PINGREQ)) (S_PINGRESP : Sta Z h0 "com/example/lob/lob/codec/PacketType" "PINGRESP" "Lcom/example/lob/lob/codec/PacketType;" (.ref s_PINGRESP)) (S_DISCONNECT : Sta Z h0 "com/example/lob/lob/codec/PacketType" "DISCONNECT" "Lcom/example/lob/lob/codec/PacketType;" (.ref s_DISCONNECT)) (hc2 : ¬ (p1 = (1 : Int32))) (hc11 : ¬ (p1 = (2 : Int32))) (hc20 : ¬ (p1 = (3 : Int32))) (hc29 : ¬ (p1 = (4 : Int32))) (hc38 : ¬ (p1 = (5 : Int32))) (hc48 : ¬ (p1 = (6 : Int32))) (hc58 : ¬ (p1 = (7 : Int32))) (hc68 : ¬ (p1 = (8 : Int32))) (hc78 : ¬ (p1 = (9 : Int32))) (hc88 : ¬ (p1 = (10 : Int32))) (hc98 : ¬ (p1 = (11 : Int32))) (hc108 : p1 = (12 : Int32)) :
    MetFree l (⟨"com/example/lob/lob/codec/PacketTypeFromNumberPinLaw", "expected", "(I)Lcom/example/lob/lob/codec/PacketType;"⟩ : MethodName) (head1 (Jvm.Cond.code (⟨"com/example/lob/lob/codec/PacketTypeFromNumberPinLaw", "expected", "(I)Lcom/example/lob/lob/codec/PacketType;"⟩ : MethodName) method_2_code 1 (some (.object "com/example/lob/lob/codec/PacketType")) :: ws) ({ frames := 0, cells := 0, slots := 0, locals := 0 } : Room)) (fun a U => a = #[(.int p1)] ∧ Z.Warmed39 U.vm ∧ U.heap = h0) (fun _ _ _ _ _ => True) (fun _ U o U' => ∃ v L, o = .returned v ∧ Q_rm2 Z p1 s_CONNECT s_CONNACK s_PUBLISH s_PUBACK s_PUBREC s_PUBREL s_PUBCOMP s_SUBSCRIBE s_SUBACK s_UNSUBSCRIBE s_UNSUBACK s_PINGREQ s_PINGRESP s_DISCONNECT h0 n0 v U'.heap L ∧ FrameEnd U o U' L ({ frames := 0, cells := 0, slots := 0, locals := 0 } : Room).cells ({ frames := 0, cells := 0, slots := 0, locals := 0 } : Room).slots) := by
  refine MetFree.of_bodySF (plainFor_of_name pn_2) hisR ?_
  intro p e s m args below meth c s₁ Bd hml0 hP hK
  obtain ⟨rfl, hZ, hh⟩ := hP
  have hx := Bd.exec
  have hby := Bd.bytes
  have hml : c.maxLocals = 1 := hml0
  have hown : s.vm.findClass "com/example/lob/lob/codec/PacketTypeFromNumberPinLaw" = some m.cls := findClass_of_methodNamed Bd.named
  have hnm := (name_of_methodNamed Bd.named Bd.method).1
  have X0 : Stand p l e ({ frames := 0, cells := 0, slots := 0, locals := 0 } : Room) s m #[(.int p1)] below meth c s₁ [] 0 0 := Stand.of_body Bd
  have e0 : s₁.heap = h0 := by rw [← hh, Bd.state]; rfl
  have N0 := Fr.nil n0
  have pre0 : ∀ t, Steps p.tables e below (s₁.setTop (mkF m 0 #[.val (.int p1)] [])) t → Steps p.tables e below (s₁.setTop (entryFrame m #[(.int p1)] 1)) t := fun t k => castTop (ef_2 m p1) k
  obtain ⟨T2, X2, e2, st2⟩ := getS2 X0 hx hZ hown (host := "") (Or.inl (hw _ (List.mem_of_getElem? (i := 33) rfl))) Via.refl e0 S_PINGREQ (g := (mkF m 111 #[.val (.int p1)] [])) rfl (hb hby d2_111)
  obtain ⟨fs, hr, hrun, hended, hW, hsame⟩ := X2.leave (v := some (.ref s_PINGREQ)) (fun h => by rw [Bd.returns] at h; cases h)
  refine ⟨_, _, pre0 _ ?_, hrun, hended, _, _, rfl, ?_, ⟨_, rfl⟩, hW, hsame.mono (by decide) (by decide)⟩
  · show Steps p.tables e below (s₁.setTop (mkF m 0 #[.val (.int p1)] [])) _
    refine XS.iloadN X0.here hx rfl (hb hby d2_0) rfl ?_
    show Steps p.tables e below (s₁.setTop (mkF m 1 #[.val (.int p1)] [(.int p1)])) _
    refine XS.iconst X0.here hx rfl (hb hby d2_1) ?_
    show Steps p.tables e below (s₁.setTop (mkF m 2 #[.val (.int p1)] [(.int (1 : Int32)), (.int p1)])) _
    refine XS.icmpYes X0.here hx rfl (pc0 := 2) (pc' := 9) rfl (hb hby d2_2) rfl (feq hc2).2 (by decide) (by decide) ?_
    show Steps p.tables e below (s₁.setTop (mkF m 9 #[.val (.int p1)] [])) _
    refine XS.iloadN X0.here hx rfl (hb hby d2_9) rfl ?_
    show Steps p.tables e below (s₁.setTop (mkF m 10 #[.val (.int p1)] [(.int p1)])) _
    refine XS.iconst X0.here hx rfl (hb hby d2_10) ?_
    show Steps p.tables e below (s₁.setTop (mkF m 11 #[.val (.int p1)] [(.int (2 : Int32)), (.int p1)])) _
    refine XS.icmpYes X0.here hx rfl (pc0 := 11) (pc' := 18) rfl (hb hby d2_11) rfl (feq hc11).2 (by decide) (by decide) ?_
    show Steps p.tables e below (s₁.setTop (mkF m 18 #[.val (.int p1)] [])) _
    refine XS.iloadN X0.here hx rfl (hb hby d2_18) rfl ?_
    show Steps p.tables e below (s₁.setTop (mkF m 19 #[.val (.int p1)] [(.int p1)])) _
    refine XS.iconst X0.here hx rfl (hb hby d2_19) ?_
    show Steps p.tables e below (s₁.setTop (mkF m 20 #[.val (.int p1)] [(.int (3 : Int32)), (.int p1)])) _
    refine XS.icmpYes X0.here hx rfl (pc0 := 20) (pc' := 27) rfl (hb hby d2_20) rfl (feq hc20).2 (by decide) (by decide) ?_
    show Steps p.tables e below (s₁.setTop (mkF m 27 #[.val (.int p1)] [])) _
    refine XS.iloadN X0.here hx rfl (hb hby d2_27) rfl ?_
    show Steps p.tables e below (s₁.setTop (mkF m 28 #[.val (.int p1)] [(.int p1)])) _
    refine XS.iconst X0.here hx rfl (hb hby d2_28) ?_
    show Steps p.tables e below (s₁.setTop (mkF m 29 #[.val (.int p1)] [(.int (4 : Int32)), (.int p1)])) _
    refine XS.icmpYes X0.here hx rfl (pc0 := 29) (pc' := 36) rfl (hb hby d2_29) rfl (feq hc29).2 (by decide) (by decide) ?_
    show Steps p.tables e below (s₁.setTop (mkF m 36 #[.val (.int p1)] [])) _
    refine XS.iloadN X0.here hx rfl (hb hby d2_36) rfl ?_
    show Steps p.tables e below (s₁.setTop (mkF m 37 #[.val (.int p1)] [(.int p1)])) _
    refine XS.iconst X0.here hx rfl (hb hby d2_37) ?_
    show Steps p.tables e below (s₁.setTop (mkF m 38 #[.val (.int p1)] [(.int (5 : Int32)), (.int p1)])) _
    refine XS.icmpYes X0.here hx rfl (pc0 := 38) (pc' := 45) rfl (hb hby d2_38) rfl (feq hc38).2 (by decide) (by decide) ?_
    show Steps p.tables e below (s₁.setTop (mkF m 45 #[.val (.int p1)] [])) _
    refine XS.iloadN X0.here hx rfl (hb hby d2_45) rfl ?_
    show Steps p.tables e below (s₁.setTop (mkF m 46 #[.val (.int p1)] [(.int p1)])) _
    refine XS.bipush X0.here hx rfl (hb hby d2_46) ?_
    show Steps p.tables e below (s₁.setTop (mkF m 48 #[.val (.int p1)] [(.int (6 : Int32)), (.int p1)])) _
    refine XS.icmpYes X0.here hx rfl (pc0 := 48) (pc' := 55) rfl (hb hby d2_48) rfl (feq hc48).2 (by decide) (by decide) ?_
    show Steps p.tables e below (s₁.setTop (mkF m 55 #[.val (.int p1)] [])) _
    refine XS.iloadN X0.here hx rfl (hb hby d2_55) rfl ?_
    show Steps p.tables e below (s₁.setTop (mkF m 56 #[.val (.int p1)] [(.int p1)])) _
    refine XS.bipush X0.here hx rfl (hb hby d2_56) ?_
    show Steps p.tables e below (s₁.setTop (mkF m 58 #[.val (.int p1)] [(.int (7 : Int32)), (.int p1)])) _
    refine XS.icmpYes X0.here hx rfl (pc0 := 58) (pc' := 65) rfl (hb hby d2_58) rfl (feq hc58).2 (by decide) (by decide) ?_
    show Steps p.tables e below (s₁.setTop (mkF m 65 #[.val (.int p1)] [])) _
    refine XS.iloadN X0.here hx rfl (hb hby d2_65) rfl ?_
    show Steps p.tables e below (s₁.setTop (mkF m 66 #[.val (.int p1)] [(.int p1)])) _
    refine XS.bipush X0.here hx rfl (hb hby d2_66) ?_
    show Steps p.tables e below (s₁.setTop (mkF m 68 #[.val (.int p1)] [(.int (8 : Int32)), (.int p1)])) _
    refine XS.icmpYes X0.here hx rfl (pc0 := 68) (pc' := 75) rfl (hb hby d2_68) rfl (feq hc68).2 (by decide) (by decide) ?_
    show Steps p.tables e below (s₁.setTop (mkF m 75 #[.val (.int p1)] [])) _
    refine XS.iloadN X0.here hx rfl (hb hby d2_75) rfl ?_
    show Steps p.tables e below (s₁.setTop (mkF m 76 #[.val (.int p1)] [(.int p1)])) _
    refine XS.bipush X0.here hx rfl (hb hby d2_76) ?_
    show Steps p.tables e below (s₁.setTop (mkF m 78 #[.val (.int p1)] [(.int (9 : Int32)), (.int p1)])) _
    refine XS.icmpYes X0.here hx rfl (pc0 := 78) (pc' := 85) rfl (hb hby d2_78) rfl (feq hc78).2 (by decide) (by decide) ?_
    show Steps p.tables e below (s₁.setTop (mkF m 85 #[.val (.int p1)] [])) _
    refine XS.iloadN X0.here hx rfl (hb hby d2_85) rfl ?_
    show Steps p.tables e below (s₁.setTop (mkF m 86 #[.val (.int p1)] [(.int p1)])) _
    refine XS.bipush X0.here hx rfl (hb hby d2_86) ?_
    show Steps p.tables e below (s₁.setTop (mkF m 88 #[.val (.int p1)] [(.int (10 : Int32)), (.int p1)])) _
    refine XS.icmpYes X0.here hx rfl (pc0 := 88) (pc' := 95) rfl (hb hby d2_88) rfl (feq hc88).2 (by decide) (by decide) ?_
    show Steps p.tables e below (s₁.setTop (mkF m 95 #[.val (.int p1)] [])) _
    refine XS.iloadN X0.here hx rfl (hb hby d2_95) rfl ?_
    show Steps p.tables e below (s₁.setTop (mkF m 96 #[.val (.int p1)] [(.int p1)])) _
    refine XS.bipush X0.here hx rfl (hb hby d2_96) ?_
    show Steps p.tables e below (s₁.setTop (mkF m 98 #[.val (.int p1)] [(.int (11 : Int32)), (.int p1)])) _
    refine XS.icmpYes X0.here hx rfl (pc0 := 98) (pc' := 105) rfl (hb hby d2_98) rfl (feq hc98).2 (by decide) (by decide) ?_
    show Steps p.tables e below (s₁.setTop (mkF m 105 #[.val (.int p1)] [])) _
    refine XS.iloadN X0.here hx rfl (hb hby d2_105) rfl ?_
    show Steps p.tables e below (s₁.setTop (mkF m 106 #[.val (.int p1)] [(.int p1)])) _
    refine XS.bipush X0.here hx rfl (hb hby d2_106) ?_
    show Steps p.tables e below (s₁.setTop (mkF m 108 #[.val (.int p1)] [(.int (12 : Int32)), (.int p1)])) _
    refine XS.icmpNo X0.here hx rfl (hb hby d2_108) rfl (teq hc108).2 ?_
    show Steps p.tables e below (s₁.setTop (mkF m 111 #[.val (.int p1)] [])) _
    refine st2 _ ?_
    show Steps p.tables e below (T2.setTop (mkF m 114 #[.val (.int p1)] [(.ref s_PINGREQ)])) _
    jvm_step X2.here [X2.here.top, hx, (hb hby d2_114), X2.method', Bd.returns, Value.isRef, FieldType.isReference]
    first | (intro acts; rw [hr _ acts rfl rfl rfl]) | rw [hr _ _ rfl rfl rfl]
    exact Steps.refl _
  · show Q_rm2 Z p1 s_CONNECT s_CONNACK s_PUBLISH s_PUBACK s_PUBREC s_PUBREL s_PUBCOMP s_SUBSCRIBE s_SUBACK s_UNSUBSCRIBE s_UNSUBACK s_PINGREQ s_PINGRESP s_DISCONNECT h0 n0 _ T2.heap _
    exact ⟨by rw [F2, if_neg hc2, if_neg hc11, if_neg hc20, if_neg hc29, if_neg hc38, if_neg hc48, if_neg hc58, if_neg hc68, if_neg hc78, if_neg hc88, if_neg hc98, if_pos hc108], N0, e2⟩
set_option maxRecDepth 65536 in
set_option maxHeartbeats 40000000 in
theorem rm2_ttttttttttttf (l : Launch) (Z : State) (a0 : Array Value) (hw : ∀ d ∈ tables_1, d.before a0 Z = true) (ws : List Jvm.Cond) (p1 : Int32) (s_CONNECT : Addr) (s_CONNACK : Addr) (s_PUBLISH : Addr) (s_PUBACK : Addr) (s_PUBREC : Addr) (s_PUBREL : Addr) (s_PUBCOMP : Addr) (s_SUBSCRIBE : Addr) (s_SUBACK : Addr) (s_UNSUBSCRIBE : Addr) (s_UNSUBACK : Addr) (s_PINGREQ : Addr) (s_PINGRESP : Addr) (s_DISCONNECT : Addr) (h0 : Heap) (n0 : Nat) (Z0 : n0 ≤ h0.size) (S_CONNECT : Sta Z h0 "com/example/lob/lob/codec/PacketType" "CONNECT" "Lcom/example/lob/lob/codec/PacketType;" (.ref s_CONNECT)) (S_CONNACK : Sta Z h0 "com/example/lob/lob/codec/PacketType" "CONNACK" "Lcom/example/lob/lob/codec/PacketType;" (.ref s_CONNACK)) (S_PUBLISH : Sta Z h0 "com/example/lob/lob/codec/PacketType" "PUBLISH" "Lcom/example/lob/lob/codec/PacketType;" (.ref s_PUBLISH)) (S_PUBACK : Sta Z h0 "com/example/lob/lob/codec/PacketType" "PUBACK" "Lcom/example/lob/lob/codec/PacketType;" (.ref s_PUBACK)) (S_PUBREC : Sta Z h0 "com/example/lob/lob/codec/PacketType" "PUBREC" "Lcom/example/lob/lob/codec/PacketType;" (.ref s_PUBREC)) (S_PUBREL : Sta Z h0 "com/example/lob/lob/codec/PacketType" "PUBREL" "Lcom/example/lob/lob/codec/PacketType;" (.ref s_PUBREL)) (S_PUBCOMP : Sta Z h0 "com/example/lob/lob/codec/PacketType" "PUBCOMP" "Lcom/example/lob/lob/codec/PacketType;" (.ref s_PUBCOMP)) (S_SUBSCRIBE : Sta Z h0 "com/example/lob/lob/codec/PacketType" "SUBSCRIBE" "Lcom/example/lob/lob/codec/PacketType;" (.ref s_SUBSCRIBE)) (S_SUBACK : Sta Z h0 "com/example/lob/lob/codec/PacketType" "SUBACK" "Lcom/example/lob/lob/codec/PacketType;" (.ref s_SUBACK)) (S_UNSUBSCRIBE : Sta Z h0 "com/example/lob/lob/codec/PacketType" "UNSUBSCRIBE" "Lcom/example/lob/lob/codec/PacketType;" (.ref s_UNSUBSCRIBE)) (S_UNSUBACK : Sta Z h0 "com/example/lob/lob/codec/PacketType" "UNSUBACK" "Lcom/example/lob/lob/codec/PacketType;" (.ref s_UNSUBACK)) (S_PINGREQ : Sta Z h0 "com/example/lob/lob/codec/PacketType" "PINGREQ" "Lcom/example/lob/lob/codec/PacketType;" (.ref s_PINGREQ)) (S_PINGRESP : Sta Z h0 "com/example/lob/lob/codec/PacketType" "PINGRESP" "Lcom/example/lob/lob/codec/PacketType;" (.ref s_PINGRESP)) (S_DISCONNECT : Sta Z h0 "com/example/lob/lob/codec/PacketType" "DISCONNECT" "Lcom/example/lob/lob/codec/PacketType;" (.ref s_DISCONNECT)) (hc2 : ¬ (p1 = (1 : Int32))) (hc11 : ¬ (p1 = (2 : Int32))) (hc20 : ¬ (p1 = (3 : Int32))) (hc29 : ¬ (p1 = (4 : Int32))) (hc38 : ¬ (p1 = (5 : Int32))) (hc48 : ¬ (p1 = (6 : Int32))) (hc58 : ¬ (p1 = (7 : Int32))) (hc68 : ¬ (p1 = (8 : Int32))) (hc78 : ¬ (p1 = (9 : Int32))) (hc88 : ¬ (p1 = (10 : Int32))) (hc98 : ¬ (p1 = (11 : Int32))) (hc108 : ¬ (p1 = (12 : Int32))) (hc118 : p1 = (13 : Int32)) :
    MetFree l (⟨"com/example/lob/lob/codec/PacketTypeFromNumberPinLaw", "expected", "(I)Lcom/example/lob/lob/codec/PacketType;"⟩ : MethodName) (head1 (Jvm.Cond.code (⟨"com/example/lob/lob/codec/PacketTypeFromNumberPinLaw", "expected", "(I)Lcom/example/lob/lob/codec/PacketType;"⟩ : MethodName) method_2_code 1 (some (.object "com/example/lob/lob/codec/PacketType")) :: ws) ({ frames := 0, cells := 0, slots := 0, locals := 0 } : Room)) (fun a U => a = #[(.int p1)] ∧ Z.Warmed39 U.vm ∧ U.heap = h0) (fun _ _ _ _ _ => True) (fun _ U o U' => ∃ v L, o = .returned v ∧ Q_rm2 Z p1 s_CONNECT s_CONNACK s_PUBLISH s_PUBACK s_PUBREC s_PUBREL s_PUBCOMP s_SUBSCRIBE s_SUBACK s_UNSUBSCRIBE s_UNSUBACK s_PINGREQ s_PINGRESP s_DISCONNECT h0 n0 v U'.heap L ∧ FrameEnd U o U' L ({ frames := 0, cells := 0, slots := 0, locals := 0 } : Room).cells ({ frames := 0, cells := 0, slots := 0, locals := 0 } : Room).slots) := by
  refine MetFree.of_bodySF (plainFor_of_name pn_2) hisR ?_
  intro p e s m args below meth c s₁ Bd hml0 hP hK
  obtain ⟨rfl, hZ, hh⟩ := hP
  have hx := Bd.exec
  have hby := Bd.bytes
  have hml : c.maxLocals = 1 := hml0
  have hown : s.vm.findClass "com/example/lob/lob/codec/PacketTypeFromNumberPinLaw" = some m.cls := findClass_of_methodNamed Bd.named
  have hnm := (name_of_methodNamed Bd.named Bd.method).1
  have X0 : Stand p l e ({ frames := 0, cells := 0, slots := 0, locals := 0 } : Room) s m #[(.int p1)] below meth c s₁ [] 0 0 := Stand.of_body Bd
  have e0 : s₁.heap = h0 := by rw [← hh, Bd.state]; rfl
  have N0 := Fr.nil n0
  have pre0 : ∀ t, Steps p.tables e below (s₁.setTop (mkF m 0 #[.val (.int p1)] [])) t → Steps p.tables e below (s₁.setTop (entryFrame m #[(.int p1)] 1)) t := fun t k => castTop (ef_2 m p1) k
  obtain ⟨T2, X2, e2, st2⟩ := getS2 X0 hx hZ hown (host := "") (Or.inl (hw _ (List.mem_of_getElem? (i := 23) rfl))) Via.refl e0 S_PINGRESP (g := (mkF m 121 #[.val (.int p1)] [])) rfl (hb hby d2_121)
  obtain ⟨fs, hr, hrun, hended, hW, hsame⟩ := X2.leave (v := some (.ref s_PINGRESP)) (fun h => by rw [Bd.returns] at h; cases h)
  refine ⟨_, _, pre0 _ ?_, hrun, hended, _, _, rfl, ?_, ⟨_, rfl⟩, hW, hsame.mono (by decide) (by decide)⟩
  · show Steps p.tables e below (s₁.setTop (mkF m 0 #[.val (.int p1)] [])) _
    refine XS.iloadN X0.here hx rfl (hb hby d2_0) rfl ?_
    show Steps p.tables e below (s₁.setTop (mkF m 1 #[.val (.int p1)] [(.int p1)])) _
    refine XS.iconst X0.here hx rfl (hb hby d2_1) ?_
    show Steps p.tables e below (s₁.setTop (mkF m 2 #[.val (.int p1)] [(.int (1 : Int32)), (.int p1)])) _
    refine XS.icmpYes X0.here hx rfl (pc0 := 2) (pc' := 9) rfl (hb hby d2_2) rfl (feq hc2).2 (by decide) (by decide) ?_
    show Steps p.tables e below (s₁.setTop (mkF m 9 #[.val (.int p1)] [])) _
    refine XS.iloadN X0.here hx rfl (hb hby d2_9) rfl ?_
    show Steps p.tables e below (s₁.setTop (mkF m 10 #[.val (.int p1)] [(.int p1)])) _
    refine XS.iconst X0.here hx rfl (hb hby d2_10) ?_
    show Steps p.tables e below (s₁.setTop (mkF m 11 #[.val (.int p1)] [(.int (2 : Int32)), (.int p1)])) _
    refine XS.icmpYes X0.here hx rfl (pc0 := 11) (pc' := 18) rfl (hb hby d2_11) rfl (feq hc11).2 (by decide) (by decide) ?_
    show Steps p.tables e below (s₁.setTop (mkF m 18 #[.val (.int p1)] [])) _
    refine XS.iloadN X0.here hx rfl (hb hby d2_18) rfl ?_
    show Steps p.tables e below (s₁.setTop (mkF m 19 #[.val (.int p1)] [(.int p1)])) _
    refine XS.iconst X0.here hx rfl (hb hby d2_19) ?_
    show Steps p.tables e below (s₁.setTop (mkF m 20 #[.val (.int p1)] [(.int (3 : Int32)), (.int p1)])) _
    refine XS.icmpYes X0.here hx rfl (pc0 := 20) (pc' := 27) rfl (hb hby d2_20) rfl (feq hc20).2 (by decide) (by decide) ?_
    show Steps p.tables e below (s₁.setTop (mkF m 27 #[.val (.int p1)] [])) _
    refine XS.iloadN X0.here hx rfl (hb hby d2_27) rfl ?_
    show Steps p.tables e below (s₁.setTop (mkF m 28 #[.val (.int p1)] [(.int p1)])) _
    refine XS.iconst X0.here hx rfl (hb hby d2_28) ?_
    show Steps p.tables e below (s₁.setTop (mkF m 29 #[.val (.int p1)] [(.int (4 : Int32)), (.int p1)])) _
    refine XS.icmpYes X0.here hx rfl (pc0 := 29) (pc' := 36) rfl (hb hby d2_29) rfl (feq hc29).2 (by decide) (by decide) ?_
    show Steps p.tables e below (s₁.setTop (mkF m 36 #[.val (.int p1)] [])) _
    refine XS.iloadN X0.here hx rfl (hb hby d2_36) rfl ?_
    show Steps p.tables e below (s₁.setTop (mkF m 37 #[.val (.int p1)] [(.int p1)])) _
    refine XS.iconst X0.here hx rfl (hb hby d2_37) ?_
    show Steps p.tables e below (s₁.setTop (mkF m 38 #[.val (.int p1)] [(.int (5 : Int32)), (.int p1)])) _
    refine XS.icmpYes X0.here hx rfl (pc0 := 38) (pc' := 45) rfl (hb hby d2_38) rfl (feq hc38).2 (by decide) (by decide) ?_
    show Steps p.tables e below (s₁.setTop (mkF m 45 #[.val (.int p1)] [])) _
    refine XS.iloadN X0.here hx rfl (hb hby d2_45) rfl ?_
    show Steps p.tables e below (s₁.setTop (mkF m 46 #[.val (.int p1)] [(.int p1)])) _
    refine XS.bipush X0.here hx rfl (hb hby d2_46) ?_
    show Steps p.tables e below (s₁.setTop (mkF m 48 #[.val (.int p1)] [(.int (6 : Int32)), (.int p1)])) _
    refine XS.icmpYes X0.here hx rfl (pc0 := 48) (pc' := 55) rfl (hb hby d2_48) rfl (feq hc48).2 (by decide) (by decide) ?_
    show Steps p.tables e below (s₁.setTop (mkF m 55 #[.val (.int p1)] [])) _
    refine XS.iloadN X0.here hx rfl (hb hby d2_55) rfl ?_
    show Steps p.tables e below (s₁.setTop (mkF m 56 #[.val (.int p1)] [(.int p1)])) _
    refine XS.bipush X0.here hx rfl (hb hby d2_56) ?_
    show Steps p.tables e below (s₁.setTop (mkF m 58 #[.val (.int p1)] [(.int (7 : Int32)), (.int p1)])) _
    refine XS.icmpYes X0.here hx rfl (pc0 := 58) (pc' := 65) rfl (hb hby d2_58) rfl (feq hc58).2 (by decide) (by decide) ?_
    show Steps p.tables e below (s₁.setTop (mkF m 65 #[.val (.int p1)] [])) _
    refine XS.iloadN X0.here hx rfl (hb hby d2_65) rfl ?_
    show Steps p.tables e below (s₁.setTop (mkF m 66 #[.val (.int p1)] [(.int p1)])) _
    refine XS.bipush X0.here hx rfl (hb hby d2_66) ?_
    show Steps p.tables e below (s₁.setTop (mkF m 68 #[.val (.int p1)] [(.int (8 : Int32)), (.int p1)])) _
    refine XS.icmpYes X0.here hx rfl (pc0 := 68) (pc' := 75) rfl (hb hby d2_68) rfl (feq hc68).2 (by decide) (by decide) ?_
    show Steps p.tables e below (s₁.setTop (mkF m 75 #[.val (.int p1)] [])) _
    refine XS.iloadN X0.here hx rfl (hb hby d2_75) rfl ?_
    show Steps p.tables e below (s₁.setTop (mkF m 76 #[.val (.int p1)] [(.int p1)])) _
    refine XS.bipush X0.here hx rfl (hb hby d2_76) ?_
    show Steps p.tables e below (s₁.setTop (mkF m 78 #[.val (.int p1)] [(.int (9 : Int32)), (.int p1)])) _
    refine XS.icmpYes X0.here hx rfl (pc0 := 78) (pc' := 85) rfl (hb hby d2_78) rfl (feq hc78).2 (by decide) (by decide) ?_
    show Steps p.tables e below (s₁.setTop (mkF m 85 #[.val (.int p1)] [])) _
    refine XS.iloadN X0.here hx rfl (hb hby d2_85) rfl ?_
    show Steps p.tables e below (s₁.setTop (mkF m 86 #[.val (.int p1)] [(.int p1)])) _
    refine XS.bipush X0.here hx rfl (hb hby d2_86) ?_
    show Steps p.tables e below (s₁.setTop (mkF m 88 #[.val (.int p1)] [(.int (10 : Int32)), (.int p1)])) _
    refine XS.icmpYes X0.here hx rfl (pc0 := 88) (pc' := 95) rfl (hb hby d2_88) rfl (feq hc88).2 (by decide) (by decide) ?_
    show Steps p.tables e below (s₁.setTop (mkF m 95 #[.val (.int p1)] [])) _
    refine XS.iloadN X0.here hx rfl (hb hby d2_95) rfl ?_
    show Steps p.tables e below (s₁.setTop (mkF m 96 #[.val (.int p1)] [(.int p1)])) _
    refine XS.bipush X0.here hx rfl (hb hby d2_96) ?_
    show Steps p.tables e below (s₁.setTop (mkF m 98 #[.val (.int p1)] [(.int (11 : Int32)), (.int p1)])) _
    refine XS.icmpYes X0.here hx rfl (pc0 := 98) (pc' := 105) rfl (hb hby d2_98) rfl (feq hc98).2 (by decide) (by decide) ?_
    show Steps p.tables e below (s₁.setTop (mkF m 105 #[.val (.int p1)] [])) _
    refine XS.iloadN X0.here hx rfl (hb hby d2_105) rfl ?_
    show Steps p.tables e below (s₁.setTop (mkF m 106 #[.val (.int p1)] [(.int p1)])) _
    refine XS.bipush X0.here hx rfl (hb hby d2_106) ?_
    show Steps p.tables e below (s₁.setTop (mkF m 108 #[.val (.int p1)] [(.int (12 : Int32)), (.int p1)])) _
    refine XS.icmpYes X0.here hx rfl (pc0 := 108) (pc' := 115) rfl (hb hby d2_108) rfl (feq hc108).2 (by decide) (by decide) ?_
    show Steps p.tables e below (s₁.setTop (mkF m 115 #[.val (.int p1)] [])) _
    refine XS.iloadN X0.here hx rfl (hb hby d2_115) rfl ?_
    show Steps p.tables e below (s₁.setTop (mkF m 116 #[.val (.int p1)] [(.int p1)])) _
    refine XS.bipush X0.here hx rfl (hb hby d2_116) ?_
    show Steps p.tables e below (s₁.setTop (mkF m 118 #[.val (.int p1)] [(.int (13 : Int32)), (.int p1)])) _
    refine XS.icmpNo X0.here hx rfl (hb hby d2_118) rfl (teq hc118).2 ?_
    show Steps p.tables e below (s₁.setTop (mkF m 121 #[.val (.int p1)] [])) _
    refine st2 _ ?_
    show Steps p.tables e below (T2.setTop (mkF m 124 #[.val (.int p1)] [(.ref s_PINGRESP)])) _
    jvm_step X2.here [X2.here.top, hx, (hb hby d2_124), X2.method', Bd.returns, Value.isRef, FieldType.isReference]
    first | (intro acts; rw [hr _ acts rfl rfl rfl]) | rw [hr _ _ rfl rfl rfl]
    exact Steps.refl _
  · show Q_rm2 Z p1 s_CONNECT s_CONNACK s_PUBLISH s_PUBACK s_PUBREC s_PUBREL s_PUBCOMP s_SUBSCRIBE s_SUBACK s_UNSUBSCRIBE s_UNSUBACK s_PINGREQ s_PINGRESP s_DISCONNECT h0 n0 _ T2.heap _
    exact ⟨by rw [F2, if_neg hc2, if_neg hc11, if_neg hc20, if_neg hc29, if_neg hc38, if_neg hc48, if_neg hc58, if_neg hc68, if_neg hc78, if_neg hc88, if_neg hc98, if_neg hc108, if_pos hc118], N0, e2⟩
set_option maxRecDepth 65536 in
set_option maxHeartbeats 40000000 in
theorem rm2_ttttttttttttt (l : Launch) (Z : State) (a0 : Array Value) (hw : ∀ d ∈ tables_1, d.before a0 Z = true) (ws : List Jvm.Cond) (p1 : Int32) (s_CONNECT : Addr) (s_CONNACK : Addr) (s_PUBLISH : Addr) (s_PUBACK : Addr) (s_PUBREC : Addr) (s_PUBREL : Addr) (s_PUBCOMP : Addr) (s_SUBSCRIBE : Addr) (s_SUBACK : Addr) (s_UNSUBSCRIBE : Addr) (s_UNSUBACK : Addr) (s_PINGREQ : Addr) (s_PINGRESP : Addr) (s_DISCONNECT : Addr) (h0 : Heap) (n0 : Nat) (Z0 : n0 ≤ h0.size) (S_CONNECT : Sta Z h0 "com/example/lob/lob/codec/PacketType" "CONNECT" "Lcom/example/lob/lob/codec/PacketType;" (.ref s_CONNECT)) (S_CONNACK : Sta Z h0 "com/example/lob/lob/codec/PacketType" "CONNACK" "Lcom/example/lob/lob/codec/PacketType;" (.ref s_CONNACK)) (S_PUBLISH : Sta Z h0 "com/example/lob/lob/codec/PacketType" "PUBLISH" "Lcom/example/lob/lob/codec/PacketType;" (.ref s_PUBLISH)) (S_PUBACK : Sta Z h0 "com/example/lob/lob/codec/PacketType" "PUBACK" "Lcom/example/lob/lob/codec/PacketType;" (.ref s_PUBACK)) (S_PUBREC : Sta Z h0 "com/example/lob/lob/codec/PacketType" "PUBREC" "Lcom/example/lob/lob/codec/PacketType;" (.ref s_PUBREC)) (S_PUBREL : Sta Z h0 "com/example/lob/lob/codec/PacketType" "PUBREL" "Lcom/example/lob/lob/codec/PacketType;" (.ref s_PUBREL)) (S_PUBCOMP : Sta Z h0 "com/example/lob/lob/codec/PacketType" "PUBCOMP" "Lcom/example/lob/lob/codec/PacketType;" (.ref s_PUBCOMP)) (S_SUBSCRIBE : Sta Z h0 "com/example/lob/lob/codec/PacketType" "SUBSCRIBE" "Lcom/example/lob/lob/codec/PacketType;" (.ref s_SUBSCRIBE)) (S_SUBACK : Sta Z h0 "com/example/lob/lob/codec/PacketType" "SUBACK" "Lcom/example/lob/lob/codec/PacketType;" (.ref s_SUBACK)) (S_UNSUBSCRIBE : Sta Z h0 "com/example/lob/lob/codec/PacketType" "UNSUBSCRIBE" "Lcom/example/lob/lob/codec/PacketType;" (.ref s_UNSUBSCRIBE)) (S_UNSUBACK : Sta Z h0 "com/example/lob/lob/codec/PacketType" "UNSUBACK" "Lcom/example/lob/lob/codec/PacketType;" (.ref s_UNSUBACK)) (S_PINGREQ : Sta Z h0 "com/example/lob/lob/codec/PacketType" "PINGREQ" "Lcom/example/lob/lob/codec/PacketType;" (.ref s_PINGREQ)) (S_PINGRESP : Sta Z h0 "com/example/lob/lob/codec/PacketType" "PINGRESP" "Lcom/example/lob/lob/codec/PacketType;" (.ref s_PINGRESP)) (S_DISCONNECT : Sta Z h0 "com/example/lob/lob/codec/PacketType" "DISCONNECT" "Lcom/example/lob/lob/codec/PacketType;" (.ref s_DISCONNECT)) (hc2 : ¬ (p1 = (1 : Int32))) (hc11 : ¬ (p1 = (2 : Int32))) (hc20 : ¬ (p1 = (3 : Int32))) (hc29 : ¬ (p1 = (4 : Int32))) (hc38 : ¬ (p1 = (5 : Int32))) (hc48 : ¬ (p1 = (6 : Int32))) (hc58 : ¬ (p1 = (7 : Int32))) (hc68 : ¬ (p1 = (8 : Int32))) (hc78 : ¬ (p1 = (9 : Int32))) (hc88 : ¬ (p1 = (10 : Int32))) (hc98 : ¬ (p1 = (11 : Int32))) (hc108 : ¬ (p1 = (12 : Int32))) (hc118 : ¬ (p1 = (13 : Int32))) :
    MetFree l (⟨"com/example/lob/lob/codec/PacketTypeFromNumberPinLaw", "expected", "(I)Lcom/example/lob/lob/codec/PacketType;"⟩ : MethodName) (head1 (Jvm.Cond.code (⟨"com/example/lob/lob/codec/PacketTypeFromNumberPinLaw", "expected", "(I)Lcom/example/lob/lob/codec/PacketType;"⟩ : MethodName) method_2_code 1 (some (.object "com/example/lob/lob/codec/PacketType")) :: ws) ({ frames := 0, cells := 0, slots := 0, locals := 0 } : Room)) (fun a U => a = #[(.int p1)] ∧ Z.Warmed39 U.vm ∧ U.heap = h0) (fun _ _ _ _ _ => True) (fun _ U o U' => ∃ v L, o = .returned v ∧ Q_rm2 Z p1 s_CONNECT s_CONNACK s_PUBLISH s_PUBACK s_PUBREC s_PUBREL s_PUBCOMP s_SUBSCRIBE s_SUBACK s_UNSUBSCRIBE s_UNSUBACK s_PINGREQ s_PINGRESP s_DISCONNECT h0 n0 v U'.heap L ∧ FrameEnd U o U' L ({ frames := 0, cells := 0, slots := 0, locals := 0 } : Room).cells ({ frames := 0, cells := 0, slots := 0, locals := 0 } : Room).slots) := by
  refine MetFree.of_bodySF (plainFor_of_name pn_2) hisR ?_
  intro p e s m args below meth c s₁ Bd hml0 hP hK
  obtain ⟨rfl, hZ, hh⟩ := hP
  have hx := Bd.exec
  have hby := Bd.bytes
  have hml : c.maxLocals = 1 := hml0
  have hown : s.vm.findClass "com/example/lob/lob/codec/PacketTypeFromNumberPinLaw" = some m.cls := findClass_of_methodNamed Bd.named
  have hnm := (name_of_methodNamed Bd.named Bd.method).1
  have X0 : Stand p l e ({ frames := 0, cells := 0, slots := 0, locals := 0 } : Room) s m #[(.int p1)] below meth c s₁ [] 0 0 := Stand.of_body Bd
  have e0 : s₁.heap = h0 := by rw [← hh, Bd.state]; rfl
  have N0 := Fr.nil n0
  have pre0 : ∀ t, Steps p.tables e below (s₁.setTop (mkF m 0 #[.val (.int p1)] [])) t → Steps p.tables e below (s₁.setTop (entryFrame m #[(.int p1)] 1)) t := fun t k => castTop (ef_2 m p1) k
  obtain ⟨T2, X2, e2, st2⟩ := getS2 X0 hx hZ hown (host := "") (Or.inl (hw _ (List.mem_of_getElem? (i := 25) rfl))) Via.refl e0 S_DISCONNECT (g := (mkF m 125 #[.val (.int p1)] [])) rfl (hb hby d2_125)
  obtain ⟨fs, hr, hrun, hended, hW, hsame⟩ := X2.leave (v := some (.ref s_DISCONNECT)) (fun h => by rw [Bd.returns] at h; cases h)
  refine ⟨_, _, pre0 _ ?_, hrun, hended, _, _, rfl, ?_, ⟨_, rfl⟩, hW, hsame.mono (by decide) (by decide)⟩
  · show Steps p.tables e below (s₁.setTop (mkF m 0 #[.val (.int p1)] [])) _
    refine XS.iloadN X0.here hx rfl (hb hby d2_0) rfl ?_
    show Steps p.tables e below (s₁.setTop (mkF m 1 #[.val (.int p1)] [(.int p1)])) _
    refine XS.iconst X0.here hx rfl (hb hby d2_1) ?_
    show Steps p.tables e below (s₁.setTop (mkF m 2 #[.val (.int p1)] [(.int (1 : Int32)), (.int p1)])) _
    refine XS.icmpYes X0.here hx rfl (pc0 := 2) (pc' := 9) rfl (hb hby d2_2) rfl (feq hc2).2 (by decide) (by decide) ?_
    show Steps p.tables e below (s₁.setTop (mkF m 9 #[.val (.int p1)] [])) _
    refine XS.iloadN X0.here hx rfl (hb hby d2_9) rfl ?_
    show Steps p.tables e below (s₁.setTop (mkF m 10 #[.val (.int p1)] [(.int p1)])) _
    refine XS.iconst X0.here hx rfl (hb hby d2_10) ?_
    show Steps p.tables e below (s₁.setTop (mkF m 11 #[.val (.int p1)] [(.int (2 : Int32)), (.int p1)])) _
    refine XS.icmpYes X0.here hx rfl (pc0 := 11) (pc' := 18) rfl (hb hby d2_11) rfl (feq hc11).2 (by decide) (by decide) ?_
    show Steps p.tables e below (s₁.setTop (mkF m 18 #[.val (.int p1)] [])) _
    refine XS.iloadN X0.here hx rfl (hb hby d2_18) rfl ?_
    show Steps p.tables e below (s₁.setTop (mkF m 19 #[.val (.int p1)] [(.int p1)])) _
    refine XS.iconst X0.here hx rfl (hb hby d2_19) ?_
    show Steps p.tables e below (s₁.setTop (mkF m 20 #[.val (.int p1)] [(.int (3 : Int32)), (.int p1)])) _
    refine XS.icmpYes X0.here hx rfl (pc0 := 20) (pc' := 27) rfl (hb hby d2_20) rfl (feq hc20).2 (by decide) (by decide) ?_
    show Steps p.tables e below (s₁.setTop (mkF m 27 #[.val (.int p1)] [])) _
    refine XS.iloadN X0.here hx rfl (hb hby d2_27) rfl ?_
    show Steps p.tables e below (s₁.setTop (mkF m 28 #[.val (.int p1)] [(.int p1)])) _
    refine XS.iconst X0.here hx rfl (hb hby d2_28) ?_
    show Steps p.tables e below (s₁.setTop (mkF m 29 #[.val (.int p1)] [(.int (4 : Int32)), (.int p1)])) _
    refine XS.icmpYes X0.here hx rfl (pc0 := 29) (pc' := 36) rfl (hb hby d2_29) rfl (feq hc29).2 (by decide) (by decide) ?_
    show Steps p.tables e below (s₁.setTop (mkF m 36 #[.val (.int p1)] [])) _
    refine XS.iloadN X0.here hx rfl (hb hby d2_36) rfl ?_
    show Steps p.tables e below (s₁.setTop (mkF m 37 #[.val (.int p1)] [(.int p1)])) _
    refine XS.iconst X0.here hx rfl (hb hby d2_37) ?_
    show Steps p.tables e below (s₁.setTop (mkF m 38 #[.val (.int p1)] [(.int (5 : Int32)), (.int p1)])) _
    refine XS.icmpYes X0.here hx rfl (pc0 := 38) (pc' := 45) rfl (hb hby d2_38) rfl (feq hc38).2 (by decide) (by decide) ?_
    show Steps p.tables e below (s₁.setTop (mkF m 45 #[.val (.int p1)] [])) _
    refine XS.iloadN X0.here hx rfl (hb hby d2_45) rfl ?_
    show Steps p.tables e below (s₁.setTop (mkF m 46 #[.val (.int p1)] [(.int p1)])) _
    refine XS.bipush X0.here hx rfl (hb hby d2_46) ?_
    show Steps p.tables e below (s₁.setTop (mkF m 48 #[.val (.int p1)] [(.int (6 : Int32)), (.int p1)])) _
    refine XS.icmpYes X0.here hx rfl (pc0 := 48) (pc' := 55) rfl (hb hby d2_48) rfl (feq hc48).2 (by decide) (by decide) ?_
    show Steps p.tables e below (s₁.setTop (mkF m 55 #[.val (.int p1)] [])) _
    refine XS.iloadN X0.here hx rfl (hb hby d2_55) rfl ?_
    show Steps p.tables e below (s₁.setTop (mkF m 56 #[.val (.int p1)] [(.int p1)])) _
    refine XS.bipush X0.here hx rfl (hb hby d2_56) ?_
    show Steps p.tables e below (s₁.setTop (mkF m 58 #[.val (.int p1)] [(.int (7 : Int32)), (.int p1)])) _
    refine XS.icmpYes X0.here hx rfl (pc0 := 58) (pc' := 65) rfl (hb hby d2_58) rfl (feq hc58).2 (by decide) (by decide) ?_
    show Steps p.tables e below (s₁.setTop (mkF m 65 #[.val (.int p1)] [])) _
    refine XS.iloadN X0.here hx rfl (hb hby d2_65) rfl ?_
    show Steps p.tables e below (s₁.setTop (mkF m 66 #[.val (.int p1)] [(.int p1)])) _
    refine XS.bipush X0.here hx rfl (hb hby d2_66) ?_
    show Steps p.tables e below (s₁.setTop (mkF m 68 #[.val (.int p1)] [(.int (8 : Int32)), (.int p1)])) _
    refine XS.icmpYes X0.here hx rfl (pc0 := 68) (pc' := 75) rfl (hb hby d2_68) rfl (feq hc68).2 (by decide) (by decide) ?_
    show Steps p.tables e below (s₁.setTop (mkF m 75 #[.val (.int p1)] [])) _
    refine XS.iloadN X0.here hx rfl (hb hby d2_75) rfl ?_
    show Steps p.tables e below (s₁.setTop (mkF m 76 #[.val (.int p1)] [(.int p1)])) _
    refine XS.bipush X0.here hx rfl (hb hby d2_76) ?_
    show Steps p.tables e below (s₁.setTop (mkF m 78 #[.val (.int p1)] [(.int (9 : Int32)), (.int p1)])) _
    refine XS.icmpYes X0.here hx rfl (pc0 := 78) (pc' := 85) rfl (hb hby d2_78) rfl (feq hc78).2 (by decide) (by decide) ?_
    show Steps p.tables e below (s₁.setTop (mkF m 85 #[.val (.int p1)] [])) _
    refine XS.iloadN X0.here hx rfl (hb hby d2_85) rfl ?_
    show Steps p.tables e below (s₁.setTop (mkF m 86 #[.val (.int p1)] [(.int p1)])) _
    refine XS.bipush X0.here hx rfl (hb hby d2_86) ?_
    show Steps p.tables e below (s₁.setTop (mkF m 88 #[.val (.int p1)] [(.int (10 : Int32)), (.int p1)])) _
    refine XS.icmpYes X0.here hx rfl (pc0 := 88) (pc' := 95) rfl (hb hby d2_88) rfl (feq hc88).2 (by decide) (by decide) ?_
    show Steps p.tables e below (s₁.setTop (mkF m 95 #[.val (.int p1)] [])) _
    refine XS.iloadN X0.here hx rfl (hb hby d2_95) rfl ?_
    show Steps p.tables e below (s₁.setTop (mkF m 96 #[.val (.int p1)] [(.int p1)])) _
    refine XS.bipush X0.here hx rfl (hb hby d2_96) ?_
    show Steps p.tables e below (s₁.setTop (mkF m 98 #[.val (.int p1)] [(.int (11 : Int32)), (.int p1)])) _
    refine XS.icmpYes X0.here hx rfl (pc0 := 98) (pc' := 105) rfl (hb hby d2_98) rfl (feq hc98).2 (by decide) (by decide) ?_
    show Steps p.tables e below (s₁.setTop (mkF m 105 #[.val (.int p1)] [])) _
    refine XS.iloadN X0.here hx rfl (hb hby d2_105) rfl ?_
    show Steps p.tables e below (s₁.setTop (mkF m 106 #[.val (.int p1)] [(.int p1)])) _
    refine XS.bipush X0.here hx rfl (hb hby d2_106) ?_
    show Steps p.tables e below (s₁.setTop (mkF m 108 #[.val (.int p1)] [(.int (12 : Int32)), (.int p1)])) _
    refine XS.icmpYes X0.here hx rfl (pc0 := 108) (pc' := 115) rfl (hb hby d2_108) rfl (feq hc108).2 (by decide) (by decide) ?_
    show Steps p.tables e below (s₁.setTop (mkF m 115 #[.val (.int p1)] [])) _
    refine XS.iloadN X0.here hx rfl (hb hby d2_115) rfl ?_
    show Steps p.tables e below (s₁.setTop (mkF m 116 #[.val (.int p1)] [(.int p1)])) _
    refine XS.bipush X0.here hx rfl (hb hby d2_116) ?_
    show Steps p.tables e below (s₁.setTop (mkF m 118 #[.val (.int p1)] [(.int (13 : Int32)), (.int p1)])) _
    refine XS.icmpYes X0.here hx rfl (pc0 := 118) (pc' := 125) rfl (hb hby d2_118) rfl (feq hc118).2 (by decide) (by decide) ?_
    show Steps p.tables e below (s₁.setTop (mkF m 125 #[.val (.int p1)] [])) _
    refine st2 _ ?_
    show Steps p.tables e below (T2.setTop (mkF m 128 #[.val (.int p1)] [(.ref s_DISCONNECT)])) _
    jvm_step X2.here [X2.here.top, hx, (hb hby d2_128), X2.method', Bd.returns, Value.isRef, FieldType.isReference]
    first | (intro acts; rw [hr _ acts rfl rfl rfl]) | rw [hr _ _ rfl rfl rfl]
    exact Steps.refl _
  · show Q_rm2 Z p1 s_CONNECT s_CONNACK s_PUBLISH s_PUBACK s_PUBREC s_PUBREL s_PUBCOMP s_SUBSCRIBE s_SUBACK s_UNSUBSCRIBE s_UNSUBACK s_PINGREQ s_PINGRESP s_DISCONNECT h0 n0 _ T2.heap _
    exact ⟨by rw [F2, if_neg hc2, if_neg hc11, if_neg hc20, if_neg hc29, if_neg hc38, if_neg hc48, if_neg hc58, if_neg hc68, if_neg hc78, if_neg hc88, if_neg hc98, if_neg hc108, if_neg hc118], N0, e2⟩
set_option maxHeartbeats 4000000 in
theorem rm2 (l : Launch) (Z : State) (a0 : Array Value) (hw : ∀ d ∈ tables_1, d.before a0 Z = true) (ws : List Jvm.Cond) (p1 : Int32) (s_CONNECT : Addr) (s_CONNACK : Addr) (s_PUBLISH : Addr) (s_PUBACK : Addr) (s_PUBREC : Addr) (s_PUBREL : Addr) (s_PUBCOMP : Addr) (s_SUBSCRIBE : Addr) (s_SUBACK : Addr) (s_UNSUBSCRIBE : Addr) (s_UNSUBACK : Addr) (s_PINGREQ : Addr) (s_PINGRESP : Addr) (s_DISCONNECT : Addr) (h0 : Heap) (n0 : Nat) (Z0 : n0 ≤ h0.size) (S_CONNECT : Sta Z h0 "com/example/lob/lob/codec/PacketType" "CONNECT" "Lcom/example/lob/lob/codec/PacketType;" (.ref s_CONNECT)) (S_CONNACK : Sta Z h0 "com/example/lob/lob/codec/PacketType" "CONNACK" "Lcom/example/lob/lob/codec/PacketType;" (.ref s_CONNACK)) (S_PUBLISH : Sta Z h0 "com/example/lob/lob/codec/PacketType" "PUBLISH" "Lcom/example/lob/lob/codec/PacketType;" (.ref s_PUBLISH)) (S_PUBACK : Sta Z h0 "com/example/lob/lob/codec/PacketType" "PUBACK" "Lcom/example/lob/lob/codec/PacketType;" (.ref s_PUBACK)) (S_PUBREC : Sta Z h0 "com/example/lob/lob/codec/PacketType" "PUBREC" "Lcom/example/lob/lob/codec/PacketType;" (.ref s_PUBREC)) (S_PUBREL : Sta Z h0 "com/example/lob/lob/codec/PacketType" "PUBREL" "Lcom/example/lob/lob/codec/PacketType;" (.ref s_PUBREL)) (S_PUBCOMP : Sta Z h0 "com/example/lob/lob/codec/PacketType" "PUBCOMP" "Lcom/example/lob/lob/codec/PacketType;" (.ref s_PUBCOMP)) (S_SUBSCRIBE : Sta Z h0 "com/example/lob/lob/codec/PacketType" "SUBSCRIBE" "Lcom/example/lob/lob/codec/PacketType;" (.ref s_SUBSCRIBE)) (S_SUBACK : Sta Z h0 "com/example/lob/lob/codec/PacketType" "SUBACK" "Lcom/example/lob/lob/codec/PacketType;" (.ref s_SUBACK)) (S_UNSUBSCRIBE : Sta Z h0 "com/example/lob/lob/codec/PacketType" "UNSUBSCRIBE" "Lcom/example/lob/lob/codec/PacketType;" (.ref s_UNSUBSCRIBE)) (S_UNSUBACK : Sta Z h0 "com/example/lob/lob/codec/PacketType" "UNSUBACK" "Lcom/example/lob/lob/codec/PacketType;" (.ref s_UNSUBACK)) (S_PINGREQ : Sta Z h0 "com/example/lob/lob/codec/PacketType" "PINGREQ" "Lcom/example/lob/lob/codec/PacketType;" (.ref s_PINGREQ)) (S_PINGRESP : Sta Z h0 "com/example/lob/lob/codec/PacketType" "PINGRESP" "Lcom/example/lob/lob/codec/PacketType;" (.ref s_PINGRESP)) (S_DISCONNECT : Sta Z h0 "com/example/lob/lob/codec/PacketType" "DISCONNECT" "Lcom/example/lob/lob/codec/PacketType;" (.ref s_DISCONNECT)) :
    MetFree l (⟨"com/example/lob/lob/codec/PacketTypeFromNumberPinLaw", "expected", "(I)Lcom/example/lob/lob/codec/PacketType;"⟩ : MethodName) (head1 (Jvm.Cond.code (⟨"com/example/lob/lob/codec/PacketTypeFromNumberPinLaw", "expected", "(I)Lcom/example/lob/lob/codec/PacketType;"⟩ : MethodName) method_2_code 1 (some (.object "com/example/lob/lob/codec/PacketType")) :: ws) ({ frames := 0, cells := 0, slots := 0, locals := 0 } : Room)) (fun a U => a = #[(.int p1)] ∧ Z.Warmed39 U.vm ∧ U.heap = h0) (fun _ _ _ _ _ => True) (fun _ U o U' => ∃ v L, o = .returned v ∧ Q_rm2 Z p1 s_CONNECT s_CONNACK s_PUBLISH s_PUBACK s_PUBREC s_PUBREL s_PUBCOMP s_SUBSCRIBE s_SUBACK s_UNSUBSCRIBE s_UNSUBACK s_PINGREQ s_PINGRESP s_DISCONNECT h0 n0 v U'.heap L ∧ FrameEnd U o U' L ({ frames := 0, cells := 0, slots := 0, locals := 0 } : Room).cells ({ frames := 0, cells := 0, slots := 0, locals := 0 } : Room).slots) := by
  by_cases hc2 : p1 = (1 : Int32)
  · skip
    exact rm2_f l Z a0 hw ws p1 s_CONNECT s_CONNACK s_PUBLISH s_PUBACK s_PUBREC s_PUBREL s_PUBCOMP s_SUBSCRIBE s_SUBACK s_UNSUBSCRIBE s_UNSUBACK s_PINGREQ s_PINGRESP s_DISCONNECT h0 n0 Z0 S_CONNECT S_CONNACK S_PUBLISH S_PUBACK S_PUBREC S_PUBREL S_PUBCOMP S_SUBSCRIBE S_SUBACK S_UNSUBSCRIBE S_UNSUBACK S_PINGREQ S_PINGRESP S_DISCONNECT hc2
  · skip
    by_cases hc11 : p1 = (2 : Int32)
    · skip
      exact rm2_tf l Z a0 hw ws p1 s_CONNECT s_CONNACK s_PUBLISH s_PUBACK s_PUBREC s_PUBREL s_PUBCOMP s_SUBSCRIBE s_SUBACK s_UNSUBSCRIBE s_UNSUBACK s_PINGREQ s_PINGRESP s_DISCONNECT h0 n0 Z0 S_CONNECT S_CONNACK S_PUBLISH S_PUBACK S_PUBREC S_PUBREL S_PUBCOMP S_SUBSCRIBE S_SUBACK S_UNSUBSCRIBE S_UNSUBACK S_PINGREQ S_PINGRESP S_DISCONNECT hc2 hc11
    · skip
      by_cases hc20 : p1 = (3 : Int32)
      · skip
        exact rm2_ttf l Z a0 hw ws p1 s_CONNECT s_CONNACK s_PUBLISH s_PUBACK s_PUBREC s_PUBREL s_PUBCOMP s_SUBSCRIBE s_SUBACK s_UNSUBSCRIBE s_UNSUBACK s_PINGREQ s_PINGRESP s_DISCONNECT h0 n0 Z0 S_CONNECT S_CONNACK S_PUBLISH S_PUBACK S_PUBREC S_PUBREL S_PUBCOMP S_SUBSCRIBE S_SUBACK S_UNSUBSCRIBE S_UNSUBACK S_PINGREQ S_PINGRESP S_DISCONNECT hc2 hc11 hc20
      · skip
        by_cases hc29 : p1 = (4 : Int32)
        · skip
          exact rm2_tttf l Z a0 hw ws p1 s_CONNECT s_CONNACK s_PUBLISH s_PUBACK s_PUBREC s_PUBREL s_PUBCOMP s_SUBSCRIBE s_SUBACK s_UNSUBSCRIBE s_UNSUBACK s_PINGREQ s_PINGRESP s_DISCONNECT h0 n0 Z0 S_CONNECT S_CONNACK S_PUBLISH S_PUBACK S_PUBREC S_PUBREL S_PUBCOMP S_SUBSCRIBE S_SUBACK S_UNSUBSCRIBE S_UNSUBACK S_PINGREQ S_PINGRESP S_DISCONNECT hc2 hc11 hc20 hc29
        · skip
          by_cases hc38 : p1 = (5 : Int32)
          · skip
            exact rm2_ttttf l Z a0 hw ws p1 s_CONNECT s_CONNACK s_PUBLISH s_PUBACK s_PUBREC s_PUBREL s_PUBCOMP s_SUBSCRIBE s_SUBACK s_UNSUBSCRIBE s_UNSUBACK s_PINGREQ s_PINGRESP s_DISCONNECT h0 n0 Z0 S_CONNECT S_CONNACK S_PUBLISH S_PUBACK S_PUBREC S_PUBREL S_PUBCOMP S_SUBSCRIBE S_SUBACK S_UNSUBSCRIBE S_UNSUBACK S_PINGREQ S_PINGRESP S_DISCONNECT hc2 hc11 hc20 hc29 hc38
          · skip
            by_cases hc48 : p1 = (6 : Int32)
            · skip
              exact rm2_tttttf l Z a0 hw ws p1 s_CONNECT s_CONNACK s_PUBLISH s_PUBACK s_PUBREC s_PUBREL s_PUBCOMP s_SUBSCRIBE s_SUBACK s_UNSUBSCRIBE s_UNSUBACK s_PINGREQ s_PINGRESP s_DISCONNECT h0 n0 Z0 S_CONNECT S_CONNACK S_PUBLISH S_PUBACK S_PUBREC S_PUBREL S_PUBCOMP S_SUBSCRIBE S_SUBACK S_UNSUBSCRIBE S_UNSUBACK S_PINGREQ S_PINGRESP S_DISCONNECT hc2 hc11 hc20 hc29 hc38 hc48
            · skip
              by_cases hc58 : p1 = (7 : Int32)
              · skip
                exact rm2_ttttttf l Z a0 hw ws p1 s_CONNECT s_CONNACK s_PUBLISH s_PUBACK s_PUBREC s_PUBREL s_PUBCOMP s_SUBSCRIBE s_SUBACK s_UNSUBSCRIBE s_UNSUBACK s_PINGREQ s_PINGRESP s_DISCONNECT h0 n0 Z0 S_CONNECT S_CONNACK S_PUBLISH S_PUBACK S_PUBREC S_PUBREL S_PUBCOMP S_SUBSCRIBE S_SUBACK S_UNSUBSCRIBE S_UNSUBACK S_PINGREQ S_PINGRESP S_DISCONNECT hc2 hc11 hc20 hc29 hc38 hc48 hc58
              · skip
                by_cases hc68 : p1 = (8 : Int32)
                · skip
                  exact rm2_tttttttf l Z a0 hw ws p1 s_CONNECT s_CONNACK s_PUBLISH s_PUBACK s_PUBREC s_PUBREL s_PUBCOMP s_SUBSCRIBE s_SUBACK s_UNSUBSCRIBE s_UNSUBACK s_PINGREQ s_PINGRESP s_DISCONNECT h0 n0 Z0 S_CONNECT S_CONNACK S_PUBLISH S_PUBACK S_PUBREC S_PUBREL S_PUBCOMP S_SUBSCRIBE S_SUBACK S_UNSUBSCRIBE S_UNSUBACK S_PINGREQ S_PINGRESP S_DISCONNECT hc2 hc11 hc20 hc29 hc38 hc48 hc58 hc68
                · skip
                  by_cases hc78 : p1 = (9 : Int32)
                  · skip
                    exact rm2_ttttttttf l Z a0 hw ws p1 s_CONNECT s_CONNACK s_PUBLISH s_PUBACK s_PUBREC s_PUBREL s_PUBCOMP s_SUBSCRIBE s_SUBACK s_UNSUBSCRIBE s_UNSUBACK s_PINGREQ s_PINGRESP s_DISCONNECT h0 n0 Z0 S_CONNECT S_CONNACK S_PUBLISH S_PUBACK S_PUBREC S_PUBREL S_PUBCOMP S_SUBSCRIBE S_SUBACK S_UNSUBSCRIBE S_UNSUBACK S_PINGREQ S_PINGRESP S_DISCONNECT hc2 hc11 hc20 hc29 hc38 hc48 hc58 hc68 hc78
                  · skip
                    by_cases hc88 : p1 = (10 : Int32)
                    · skip
                      exact rm2_tttttttttf l Z a0 hw ws p1 s_CONNECT s_CONNACK s_PUBLISH s_PUBACK s_PUBREC s_PUBREL s_PUBCOMP s_SUBSCRIBE s_SUBACK s_UNSUBSCRIBE s_UNSUBACK s_PINGREQ s_PINGRESP s_DISCONNECT h0 n0 Z0 S_CONNECT S_CONNACK S_PUBLISH S_PUBACK S_PUBREC S_PUBREL S_PUBCOMP S_SUBSCRIBE S_SUBACK S_UNSUBSCRIBE S_UNSUBACK S_PINGREQ S_PINGRESP S_DISCONNECT hc2 hc11 hc20 hc29 hc38 hc48 hc58 hc68 hc78 hc88
                    · skip
                      by_cases hc98 : p1 = (11 : Int32)
                      · skip
                        exact rm2_ttttttttttf l Z a0 hw ws p1 s_CONNECT s_CONNACK s_PUBLISH s_PUBACK s_PUBREC s_PUBREL s_PUBCOMP s_SUBSCRIBE s_SUBACK s_UNSUBSCRIBE s_UNSUBACK s_PINGREQ s_PINGRESP s_DISCONNECT h0 n0 Z0 S_CONNECT S_CONNACK S_PUBLISH S_PUBACK S_PUBREC S_PUBREL S_PUBCOMP S_SUBSCRIBE S_SUBACK S_UNSUBSCRIBE S_UNSUBACK S_PINGREQ S_PINGRESP S_DISCONNECT hc2 hc11 hc20 hc29 hc38 hc48 hc58 hc68 hc78 hc88 hc98
                      · skip
                        by_cases hc108 : p1 = (12 : Int32)
                        · skip
                          exact rm2_tttttttttttf l Z a0 hw ws p1 s_CONNECT s_CONNACK s_PUBLISH s_PUBACK s_PUBREC s_PUBREL s_PUBCOMP s_SUBSCRIBE s_SUBACK s_UNSUBSCRIBE s_UNSUBACK s_PINGREQ s_PINGRESP s_DISCONNECT h0 n0 Z0 S_CONNECT S_CONNACK S_PUBLISH S_PUBACK S_PUBREC S_PUBREL S_PUBCOMP S_SUBSCRIBE S_SUBACK S_UNSUBSCRIBE S_UNSUBACK S_PINGREQ S_PINGRESP S_DISCONNECT hc2 hc11 hc20 hc29 hc38 hc48 hc58 hc68 hc78 hc88 hc98 hc108
                        · skip
                          by_cases hc118 : p1 = (13 : Int32)
                          · skip
                            exact rm2_ttttttttttttf l Z a0 hw ws p1 s_CONNECT s_CONNACK s_PUBLISH s_PUBACK s_PUBREC s_PUBREL s_PUBCOMP s_SUBSCRIBE s_SUBACK s_UNSUBSCRIBE s_UNSUBACK s_PINGREQ s_PINGRESP s_DISCONNECT h0 n0 Z0 S_CONNECT S_CONNACK S_PUBLISH S_PUBACK S_PUBREC S_PUBREL S_PUBCOMP S_SUBSCRIBE S_SUBACK S_UNSUBSCRIBE S_UNSUBACK S_PINGREQ S_PINGRESP S_DISCONNECT hc2 hc11 hc20 hc29 hc38 hc48 hc58 hc68 hc78 hc88 hc98 hc108 hc118
                          · skip
                            exact rm2_ttttttttttttt l Z a0 hw ws p1 s_CONNECT s_CONNACK s_PUBLISH s_PUBACK s_PUBREC s_PUBREL s_PUBCOMP s_SUBSCRIBE s_SUBACK s_UNSUBSCRIBE s_UNSUBACK s_PINGREQ s_PINGRESP s_DISCONNECT h0 n0 Z0 S_CONNECT S_CONNACK S_PUBLISH S_PUBACK S_PUBREC S_PUBREL S_PUBCOMP S_SUBSCRIBE S_SUBACK S_UNSUBSCRIBE S_UNSUBACK S_PINGREQ S_PINGRESP S_DISCONNECT hc2 hc11 hc20 hc29 hc38 hc48 hc58 hc68 hc78 hc88 hc98 hc108 hc118
theorem d3_0 : decode prog_46_method_5_code 0 = .ok (.aload_n 0, 1) := by decide +kernel
theorem d3_1 : decode prog_46_method_5_code 1 = .ok (.getfield 65, 3) := by decide +kernel
theorem d3_4 : decode prog_46_method_5_code 4 = .ok (.ireturn, 1) := by decide +kernel
theorem pn_3 : plainName "com/example/lob/lob/codec/PacketType" = true := by first | (simp [plainName, overriddenIn]; done) | decide +kernel
theorem ef_3 (m : MethodId) (x0 : Addr) : entryFrame m #[(.ref x0)] 1 = mkF m 0 #[.val (.ref x0)] [] := by first | (simp [entryFrame, mkF, argsToLocals, Value.category]; done) | rfl
def Q_rm3 (Z : State) (a1 : Addr) (w_number_a1 : Int32) (h0 : Heap) (n0 : Nat) (v : Option Value) (h : Heap) (L : List Loc) : Prop := v = some (.int w_number_a1) ∧ Fr n0 L ∧ h = h0
set_option maxRecDepth 65536 in
set_option maxHeartbeats 40000000 in
theorem rm3 (l : Launch) (Z : State) (a0 : Array Value) (hw : ∀ d ∈ tables_1, d.before a0 Z = true) (ws : List Jvm.Cond) (a1 : Addr) (w_number_a1 : Int32) (h0 : Heap) (n0 : Nat) (Z0 : n0 ≤ h0.size) (F_number_a1 : Fld Z h0 a1 "com/example/lob/lob/codec/PacketType" "number" "I" (.int w_number_a1)) :
    MetFree l (⟨"com/example/lob/lob/codec/PacketType", "number", "()I"⟩ : MethodName) (head1 (Jvm.Cond.code (⟨"com/example/lob/lob/codec/PacketType", "number", "()I"⟩ : MethodName) prog_46_method_5_code 1 (some .int) :: ws) ({ frames := 0, cells := 0, slots := 0, locals := 0 } : Room)) (fun a U => a = #[(.ref a1)] ∧ Z.Warmed39 U.vm ∧ U.heap = h0) (fun _ _ _ _ _ => True) (fun _ U o U' => ∃ v L, o = .returned v ∧ Q_rm3 Z a1 w_number_a1 h0 n0 v U'.heap L ∧ FrameEnd U o U' L ({ frames := 0, cells := 0, slots := 0, locals := 0 } : Room).cells ({ frames := 0, cells := 0, slots := 0, locals := 0 } : Room).slots) := by
  refine MetFree.of_bodySF (plainFor_of_name pn_3) hisR ?_
  intro p e s m args below meth c s₁ Bd hml0 hP hK
  obtain ⟨rfl, hZ, hh⟩ := hP
  have hx := Bd.exec
  have hby := Bd.bytes
  have hml : c.maxLocals = 1 := hml0
  have hown : s.vm.findClass "com/example/lob/lob/codec/PacketType" = some m.cls := findClass_of_methodNamed Bd.named
  have hnm := (name_of_methodNamed Bd.named Bd.method).1
  have X0 : Stand p l e ({ frames := 0, cells := 0, slots := 0, locals := 0 } : Room) s m #[(.ref a1)] below meth c s₁ [] 0 0 := Stand.of_body Bd
  have e0 : s₁.heap = h0 := by rw [← hh, Bd.state]; rfl
  have N0 := Fr.nil n0
  have pre0 : ∀ t, Steps p.tables e below (s₁.setTop (mkF m 0 #[.val (.ref a1)] [])) t → Steps p.tables e below (s₁.setTop (entryFrame m #[(.ref a1)] 1)) t := fun t k => castTop (ef_3 m a1) k
  obtain ⟨T2, X2, e2, st2⟩ := getF X0 hx hZ hown (host := "") (Or.inl (hw _ (List.mem_of_getElem? (i := 18) rfl))) Via.refl e0 F_number_a1 (g := (mkF m 1 #[.val (.ref a1)] [(.ref a1)])) rfl rfl (hb hby d3_1)
  obtain ⟨fs, hr, hrun, hended, hW, hsame⟩ := X2.leave (v := some (.int w_number_a1)) (fun h => by rw [Bd.returns] at h; cases h)
  refine ⟨_, _, pre0 _ ?_, hrun, hended, _, _, rfl, ?_, ⟨_, rfl⟩, hW, hsame.mono (by decide) (by decide)⟩
  · show Steps p.tables e below (s₁.setTop (mkF m 0 #[.val (.ref a1)] [])) _
    refine XS.aloadN X0.here hx rfl (hb hby d3_0) rfl rfl ?_
    show Steps p.tables e below (s₁.setTop (mkF m 1 #[.val (.ref a1)] [(.ref a1)])) _
    refine st2 _ ?_
    show Steps p.tables e below (T2.setTop (mkF m 4 #[.val (.ref a1)] [(.int w_number_a1)])) _
    exact retI X2 hx Bd.returns (hb hby d3_4) hr
  · show Q_rm3 Z a1 w_number_a1 h0 n0 _ T2.heap _
    exact ⟨rfl, N0, e2⟩
theorem pd__28I_29Lcom_2fexample_2flob_2flob_2fcodec_2fPacketType_3b : parseMethodDescriptor "(I)Lcom/example/lob/lob/codec/PacketType;" = some ⟨[.int], some (.object "com/example/lob/lob/codec/PacketType")⟩ := by decide +kernel
theorem pd__28_29I : parseMethodDescriptor "()I" = some ⟨[], some .int⟩ := by decide +kernel
def t0_0 (p1 : Int32) : Int32 := (((p1 &&& (2147483647 : Int32)) - ((p1 &&& (2147483647 : Int32)) / (14 : Int32)) * (14 : Int32)) + (1 : Int32))
theorem pn_0 : plainName "com/example/lob/lob/codec/PacketTypeFromNumberPinLaw" = true := by first | (simp [plainName, overriddenIn]; done) | decide +kernel
theorem ef_0 (m : MethodId) (x0 : Int32) : entryFrame m #[(.int x0)] maxLocals = mkF m 0 #[.val (.int x0), .unset, .unset] [] := by first | (simp [entryFrame, mkF, argsToLocals, Value.category, maxLocals]; done) | rfl
def Q_rm0 (Z : State) (p1 : Int32) (s_BY_NUMBER : Addr) (k_s_BY_NUMBER : ClassId) (z_s_BY_NUMBER : Int32) (vs_s_BY_NUMBER : List Value) (s_CONNECT : Addr) (s_CONNACK : Addr) (s_PUBLISH : Addr) (s_PUBACK : Addr) (s_PUBREC : Addr) (s_PUBREL : Addr) (s_PUBCOMP : Addr) (s_SUBSCRIBE : Addr) (s_SUBACK : Addr) (s_UNSUBSCRIBE : Addr) (s_UNSUBACK : Addr) (s_PINGREQ : Addr) (s_PINGRESP : Addr) (s_DISCONNECT : Addr) (w_number_w16_11 : Int32) (w16_11 : Addr) (h0 : Heap) (n0 : Nat) (v : Option Value) (h : Heap) (L : List Loc) : Prop := v = some (.int (1 : Int32)) ∧ Fr n0 L
set_option maxRecDepth 65536 in
set_option maxHeartbeats 40000000 in
theorem rm0 (l : Launch) (Z : State) (a0 : Array Value) (hw : ∀ d ∈ tables_1, d.before a0 Z = true) (ws : List Jvm.Cond) (p1 : Int32) (s_BY_NUMBER : Addr) (k_s_BY_NUMBER : ClassId) (z_s_BY_NUMBER : Int32) (vs_s_BY_NUMBER : List Value) (s_CONNECT : Addr) (s_CONNACK : Addr) (s_PUBLISH : Addr) (s_PUBACK : Addr) (s_PUBREC : Addr) (s_PUBREL : Addr) (s_PUBCOMP : Addr) (s_SUBSCRIBE : Addr) (s_SUBACK : Addr) (s_UNSUBSCRIBE : Addr) (s_UNSUBACK : Addr) (s_PINGREQ : Addr) (s_PINGRESP : Addr) (s_DISCONNECT : Addr) (w_number_w16_11 : Int32) (w16_11 : Addr) (h0 : Heap) (n0 : Nat) (Z0 : n0 ≤ h0.size) (S_BY_NUMBER : Sta Z h0 "com/example/lob/lob/codec/PacketType" "BY_NUMBER" "[Lcom/example/lob/lob/codec/PacketType;" (.ref s_BY_NUMBER)) (V_s_BY_NUMBER : Arv Z h0 s_BY_NUMBER k_s_BY_NUMBER (.object "com/example/lob/lob/codec/PacketType") z_s_BY_NUMBER vs_s_BY_NUMBER .null) (S_CONNECT : Sta Z h0 "com/example/lob/lob/codec/PacketType" "CONNECT" "Lcom/example/lob/lob/codec/PacketType;" (.ref s_CONNECT)) (S_CONNACK : Sta Z h0 "com/example/lob/lob/codec/PacketType" "CONNACK" "Lcom/example/lob/lob/codec/PacketType;" (.ref s_CONNACK)) (S_PUBLISH : Sta Z h0 "com/example/lob/lob/codec/PacketType" "PUBLISH" "Lcom/example/lob/lob/codec/PacketType;" (.ref s_PUBLISH)) (S_PUBACK : Sta Z h0 "com/example/lob/lob/codec/PacketType" "PUBACK" "Lcom/example/lob/lob/codec/PacketType;" (.ref s_PUBACK)) (S_PUBREC : Sta Z h0 "com/example/lob/lob/codec/PacketType" "PUBREC" "Lcom/example/lob/lob/codec/PacketType;" (.ref s_PUBREC)) (S_PUBREL : Sta Z h0 "com/example/lob/lob/codec/PacketType" "PUBREL" "Lcom/example/lob/lob/codec/PacketType;" (.ref s_PUBREL)) (S_PUBCOMP : Sta Z h0 "com/example/lob/lob/codec/PacketType" "PUBCOMP" "Lcom/example/lob/lob/codec/PacketType;" (.ref s_PUBCOMP)) (S_SUBSCRIBE : Sta Z h0 "com/example/lob/lob/codec/PacketType" "SUBSCRIBE" "Lcom/example/lob/lob/codec/PacketType;" (.ref s_SUBSCRIBE)) (S_SUBACK : Sta Z h0 "com/example/lob/lob/codec/PacketType" "SUBACK" "Lcom/example/lob/lob/codec/PacketType;" (.ref s_SUBACK)) (S_UNSUBSCRIBE : Sta Z h0 "com/example/lob/lob/codec/PacketType" "UNSUBSCRIBE" "Lcom/example/lob/lob/codec/PacketType;" (.ref s_UNSUBSCRIBE)) (S_UNSUBACK : Sta Z h0 "com/example/lob/lob/codec/PacketType" "UNSUBACK" "Lcom/example/lob/lob/codec/PacketType;" (.ref s_UNSUBACK)) (S_PINGREQ : Sta Z h0 "com/example/lob/lob/codec/PacketType" "PINGREQ" "Lcom/example/lob/lob/codec/PacketType;" (.ref s_PINGREQ)) (S_PINGRESP : Sta Z h0 "com/example/lob/lob/codec/PacketType" "PINGRESP" "Lcom/example/lob/lob/codec/PacketType;" (.ref s_PINGRESP)) (S_DISCONNECT : Sta Z h0 "com/example/lob/lob/codec/PacketType" "DISCONNECT" "Lcom/example/lob/lob/codec/PacketType;" (.ref s_DISCONNECT)) (F_number_w16_11 : Fld Z h0 w16_11 "com/example/lob/lob/codec/PacketType" "number" "I" (.int w_number_w16_11)) (E_w16_11 : Exa Z h0 w16_11 "com/example/lob/lob/codec/PacketType") (hhc1_11 : ¬ ((t0_0 p1) < (0 : Int32))) (hhc9_11 : (t0_0 p1) < z_s_BY_NUMBER) (hhi16_11 : ¬ (t0_0 p1) < 0 ∧ (t0_0 p1) < z_s_BY_NUMBER) (hhs16_11 : (vs_s_BY_NUMBER).getD ((t0_0 p1)).toNatClampNeg .null = (.ref w16_11)) (ha20 : w16_11 = (F2 (t0_0 p1) s_CONNECT s_CONNACK s_PUBLISH s_PUBACK s_PUBREC s_PUBREL s_PUBCOMP s_SUBSCRIBE s_SUBACK s_UNSUBSCRIBE s_UNSUBACK s_PINGREQ s_PINGRESP s_DISCONNECT)) (hc28 : w_number_w16_11 = (t0_0 p1)) :
    MetFree l x (head1 (Jvm.Cond.code x code maxLocals ret :: ws) room_1) (fun a U => a = #[(.int p1)] ∧ Z.Warmed39 U.vm ∧ U.heap = h0) (fun _ _ _ _ _ => True) (fun _ U o U' => ∃ v L, o = .returned v ∧ Q_rm0 Z p1 s_BY_NUMBER k_s_BY_NUMBER z_s_BY_NUMBER vs_s_BY_NUMBER s_CONNECT s_CONNACK s_PUBLISH s_PUBACK s_PUBREC s_PUBREL s_PUBCOMP s_SUBSCRIBE s_SUBACK s_UNSUBSCRIBE s_UNSUBACK s_PINGREQ s_PINGRESP s_DISCONNECT w_number_w16_11 w16_11 h0 n0 v U'.heap L ∧ FrameEnd U o U' L room_1.cells room_1.slots) := by
  refine MetFree.of_bodySF (plainFor_of_name pn_0) hisR ?_
  intro p e s m args below meth c s₁ Bd hml0 hP hK
  obtain ⟨rfl, hZ, hh⟩ := hP
  have hx := Bd.exec
  have hby := Bd.bytes
  have hml : c.maxLocals = 3 := hml0
  have hown : s.vm.findClass "com/example/lob/lob/codec/PacketTypeFromNumberPinLaw" = some m.cls := findClass_of_methodNamed Bd.named
  have hnm := (name_of_methodNamed Bd.named Bd.method).1
  have X0 : Stand p l e room_1 s m #[(.int p1)] below meth c s₁ [] 0 0 := Stand.of_body Bd
  have e0 : s₁.heap = h0 := by rw [← hh, Bd.state]; rfl
  have N0 := Fr.nil n0
  have pre0 : ∀ t, Steps p.tables e below (s₁.setTop (mkF m 0 #[.val (.int p1), .unset, .unset] [])) t → Steps p.tables e below (s₁.setTop (entryFrame m #[(.int p1)] maxLocals)) t := fun t k => castTop (ef_0 m p1) k
  obtain ⟨_, _, ⟨T2, L2, k2, n2⟩, -, X2, ⟨Lc2, hQ2, l2, y2, z2⟩, st2⟩ := Jvm.LawKit.callS X0 hx (y := (⟨"com/example/lob/lob/codec/PacketType", "fromNumber", "(I)Lcom/example/lob/lob/codec/PacketType;"⟩ : MethodName)) hown (mvT hZ (hw _ (List.mem_of_getElem? (i := 1) rfl))) (mvT hZ (hw _ (List.mem_of_getElem? (i := 2) rfl))) (mvT hZ (hw _ (List.mem_of_getElem? (i := 3) rfl))) (mvT hZ (hw _ (List.mem_of_getElem? (i := 4) rfl))) (by decide) (backOf (W := 0) (rm1 l Z a0 hw [] (t0_0 p1) s_BY_NUMBER k_s_BY_NUMBER z_s_BY_NUMBER vs_s_BY_NUMBER w16_11 h0 n0 Z0 S_BY_NUMBER V_s_BY_NUMBER hhc1_11 hhc9_11 hhi16_11 hhs16_11) hZ (hw _ (List.mem_of_getElem? (i := 4) rfl)) (hw _ (List.mem_of_getElem? (i := 3) rfl)) (by decide) (by decide)) (g := (mkF m 11 #[.val (.int p1), .val (.int (t0_0 p1)), .unset] [(.int (t0_0 p1))])) rfl (by rw [hml]; rfl) (argsL := [(.int (t0_0 p1))]) (rest := []) (lenOf pd__28I_29Lcom_2fexample_2flob_2flob_2fcodec_2fPacketType_3b rfl) rfl (by show 2 * 0 + _ ≤ _; exact Nat.le_of_eq rfl) (hb hby at_11) (fun _ _ => ⟨rfl, e0, (by decide : 0 + 0 ≤ _), (by decide : 0 + 0 ≤ _)⟩)
  dsimp only [Pt.U, Pt.locs, Pt.cells, Pt.slots] at X2 l2 y2 z2 st2 hQ2
  subst l2 y2 z2
  obtain ⟨rfl, N2q, e2⟩ := hQ2
  have N2 := Fr.app N0 N2q
  obtain ⟨_, _, ⟨T3, L3, k3, n3⟩, -, X3, ⟨Lc3, hQ3, l3, y3, z3⟩, st3⟩ := Jvm.LawKit.callS X2 hx (y := (⟨"com/example/lob/lob/codec/PacketTypeFromNumberPinLaw", "expected", "(I)Lcom/example/lob/lob/codec/PacketType;"⟩ : MethodName)) hown (mvT hZ (hw _ (List.mem_of_getElem? (i := 8) rfl))) (mvT hZ (hw _ (List.mem_of_getElem? (i := 9) rfl))) (mvT hZ (hw _ (List.mem_of_getElem? (i := 10) rfl))) (mvT hZ (hw _ (List.mem_of_getElem? (i := 11) rfl))) (by decide) (backOf (W := 1) (rm2 l Z a0 hw [] (t0_0 p1) s_CONNECT s_CONNACK s_PUBLISH s_PUBACK s_PUBREC s_PUBREL s_PUBCOMP s_SUBSCRIBE s_SUBACK s_UNSUBSCRIBE s_UNSUBACK s_PINGREQ s_PINGRESP s_DISCONNECT h0 n0 Z0 S_CONNECT S_CONNACK S_PUBLISH S_PUBACK S_PUBREC S_PUBREL S_PUBCOMP S_SUBSCRIBE S_SUBACK S_UNSUBSCRIBE S_UNSUBACK S_PINGREQ S_PINGRESP S_DISCONNECT) hZ (hw _ (List.mem_of_getElem? (i := 11) rfl)) (hw _ (List.mem_of_getElem? (i := 10) rfl)) (by decide) (by decide)) (g := (mkF m 17 #[.val (.int p1), .val (.int (t0_0 p1)), .val (.ref w16_11)] [(.int (t0_0 p1)), (.ref w16_11)])) rfl (by rw [hml]; rfl) (argsL := [(.int (t0_0 p1))]) (rest := [(.ref w16_11)]) (lenOf pd__28I_29Lcom_2fexample_2flob_2flob_2fcodec_2fPacketType_3b rfl) rfl (by show 2 * 0 + _ ≤ _; exact Nat.le_of_eq rfl) (hb hby at_17) (fun _ _ => ⟨rfl, e2, (by decide : 0 + 0 ≤ _), (by decide : 0 + 0 ≤ _)⟩)
  dsimp only [Pt.U, Pt.locs, Pt.cells, Pt.slots] at X3 l3 y3 z3 st3 hQ3
  subst l3 y3 z3
  obtain ⟨rfl, N3q, e3⟩ := hQ3
  have N3 := Fr.app N2 N3q
  obtain ⟨cq4, kq4, q4a, q4b, q4c⟩ := isOf hZ e3 E_w16_11
  obtain ⟨_, _, ⟨T4, L4, k4, n4⟩, -, X4, ⟨Lc4, hQ4, l4, y4, z4⟩, st4⟩ := X3.virtualBack hx (y := (⟨"com/example/lob/lob/codec/PacketType", "number", "()I"⟩ : MethodName)) (z := (⟨"com/example/lob/lob/codec/PacketType", "number", "()I"⟩ : MethodName)) hown (mvT hZ (hw _ (List.mem_of_getElem? (i := 13) rfl))) (mvT hZ (hw _ (List.mem_of_getElem? (i := 14) rfl))) (notFace_of_selects (args := #[]) (mvT hZ (hw _ (List.mem_of_getElem? (i := 16) rfl)))) (mvT hZ (hw _ (List.mem_of_getElem? (i := 16) rfl))) (mvT hZ (hw _ (List.mem_of_getElem? (i := 15) rfl))) (by decide) (backOf (W := 0) (rm3 l Z a0 hw [] w16_11 w_number_w16_11 h0 n0 Z0 F_number_w16_11) hZ (hw _ (List.mem_of_getElem? (i := 17) rfl)) (hw _ (List.mem_of_getElem? (i := 3) rfl)) (by decide) (by decide)) q4a q4c (g := (mkF m 24 #[.val (.int p1), .val (.int (t0_0 p1)), .val (.ref w16_11)] [(.ref w16_11)])) rfl (by rw [hml]; rfl) (Steps.refl _) (argsL := []) (rest := []) (lenOf pd__28_29I rfl) rfl (by show 2 * 0 + _ ≤ _; exact Nat.le_of_eq rfl) (hb hby at_24) (fun _ _ => ⟨rfl, e3, (by decide : 0 + 0 ≤ _), (by decide : 0 + 0 ≤ _)⟩)
  dsimp only [Pt.U, Pt.locs, Pt.cells, Pt.slots] at X4 l4 y4 z4 st4 hQ4
  subst l4 y4 z4
  obtain ⟨rfl, N4q, e4⟩ := hQ4
  have N4 := Fr.app N3 N4q
  obtain ⟨fs, hr, hrun, hended, hW, hsame⟩ := X4.leave (v := some (.int (1 : Int32))) (fun h => by rw [Bd.returns] at h; cases h)
  refine ⟨_, _, pre0 _ ?_, hrun, hended, _, _, rfl, ?_, ⟨_, rfl⟩, hW, hsame.mono (by decide) (by decide)⟩
  · show Steps p.tables e below (s₁.setTop (mkF m 0 #[.val (.int p1), .unset, .unset] [])) _
    refine XS.iloadN X0.here hx rfl (hb hby at_0) rfl ?_
    show Steps p.tables e below (s₁.setTop (mkF m 1 #[.val (.int p1), .unset, .unset] [(.int p1)])) _
    refine X0.ldcInt hx hown (mvT hZ (hw _ (List.mem_of_getElem? (i := 0) rfl))) (g := (mkF m 1 #[.val (.int p1), .unset, .unset] [(.int p1)])) rfl (hb hby at_1) _ ?_
    show Steps p.tables e below (s₁.setTop (mkF m 3 #[.val (.int p1), .unset, .unset] [(.int (2147483647 : Int32)), (.int p1)])) _
    refine XS.iand X0.here hx rfl (hb hby at_3) rfl ?_
    show Steps p.tables e below (s₁.setTop (mkF m 4 #[.val (.int p1), .unset, .unset] [(.int (p1 &&& (2147483647 : Int32)))])) _
    refine XS.bipush X0.here hx rfl (hb hby at_4) ?_
    show Steps p.tables e below (s₁.setTop (mkF m 6 #[.val (.int p1), .unset, .unset] [(.int (14 : Int32)), (.int (p1 &&& (2147483647 : Int32)))])) _
    refine XS.irem X0.here hx rfl (hb hby at_6) rfl (by decide) ?_
    show Steps p.tables e below (s₁.setTop (mkF m 7 #[.val (.int p1), .unset, .unset] [(.int ((p1 &&& (2147483647 : Int32)) - ((p1 &&& (2147483647 : Int32)) / (14 : Int32)) * (14 : Int32)))])) _
    refine XS.iconst X0.here hx rfl (hb hby at_7) ?_
    show Steps p.tables e below (s₁.setTop (mkF m 8 #[.val (.int p1), .unset, .unset] [(.int (1 : Int32)), (.int ((p1 &&& (2147483647 : Int32)) - ((p1 &&& (2147483647 : Int32)) / (14 : Int32)) * (14 : Int32)))])) _
    refine XS.iadd X0.here hx rfl (hb hby at_8) rfl ?_
    show Steps p.tables e below (s₁.setTop (mkF m 9 #[.val (.int p1), .unset, .unset] [(.int (((p1 &&& (2147483647 : Int32)) - ((p1 &&& (2147483647 : Int32)) / (14 : Int32)) * (14 : Int32)) + (1 : Int32)))])) _
    refine XS.istoreN X0.here hx rfl (hb hby at_9) rfl (l' := #[.val (.int p1), .val (.int (t0_0 p1)), .unset]) rfl ?_
    show Steps p.tables e below (s₁.setTop (mkF m 10 #[.val (.int p1), .val (.int (t0_0 p1)), .unset] [])) _
    refine XS.iloadN X0.here hx rfl (hb hby at_10) rfl ?_
    show Steps p.tables e below (s₁.setTop (mkF m 11 #[.val (.int p1), .val (.int (t0_0 p1)), .unset] [(.int (t0_0 p1))])) _
    refine st2 _ ?_
    show Steps p.tables e below (T2.setTop (mkF m 14 #[.val (.int p1), .val (.int (t0_0 p1)), .unset] [(.ref w16_11)])) _
    refine XS.astoreN X2.here hx rfl (hb hby at_14) rfl rfl (l' := #[.val (.int p1), .val (.int (t0_0 p1)), .val (.ref w16_11)]) rfl ?_
    show Steps p.tables e below (T2.setTop (mkF m 15 #[.val (.int p1), .val (.int (t0_0 p1)), .val (.ref w16_11)] [])) _
    refine XS.aloadN X2.here hx rfl (hb hby at_15) rfl rfl ?_
    show Steps p.tables e below (T2.setTop (mkF m 16 #[.val (.int p1), .val (.int (t0_0 p1)), .val (.ref w16_11)] [(.ref w16_11)])) _
    refine XS.iloadN X2.here hx rfl (hb hby at_16) rfl ?_
    show Steps p.tables e below (T2.setTop (mkF m 17 #[.val (.int p1), .val (.int (t0_0 p1)), .val (.ref w16_11)] [(.int (t0_0 p1)), (.ref w16_11)])) _
    refine st3 _ ?_
    show Steps p.tables e below (T3.setTop (mkF m 20 #[.val (.int p1), .val (.int (t0_0 p1)), .val (.ref w16_11)] [(.ref (F2 (t0_0 p1) s_CONNECT s_CONNACK s_PUBLISH s_PUBACK s_PUBREC s_PUBREL s_PUBCOMP s_SUBSCRIBE s_SUBACK s_UNSUBSCRIBE s_UNSUBACK s_PINGREQ s_PINGRESP s_DISCONNECT)), (.ref w16_11)])) _
    refine Jvm.RoadKit.acmp (g := (mkF m 20 #[.val (.int p1), .val (.int (t0_0 p1)), .val (.ref w16_11)] [(.ref (F2 (t0_0 p1) s_CONNECT s_CONNACK s_PUBLISH s_PUBACK s_PUBREC s_PUBREL s_PUBCOMP s_SUBSCRIBE s_SUBACK s_UNSUBSCRIBE s_UNSUBACK s_PINGREQ s_PINGRESP s_DISCONNECT)), (.ref w16_11)])) X3 hx rfl rfl rfl (pc0 := 20) (pc' := 23) (same := true) rfl (hb hby at_20) rfl (decide_eq_true (congrArg Value.ref ha20)) (by decide) (by decide) ?_
    show Steps p.tables e below (T3.setTop (mkF m 23 #[.val (.int p1), .val (.int (t0_0 p1)), .val (.ref w16_11)] [])) _
    refine XS.aloadN X3.here hx rfl (hb hby at_23) rfl rfl ?_
    show Steps p.tables e below (T3.setTop (mkF m 24 #[.val (.int p1), .val (.int (t0_0 p1)), .val (.ref w16_11)] [(.ref w16_11)])) _
    refine st4.trans ?_
    show Steps p.tables e below (T4.setTop (mkF m 27 #[.val (.int p1), .val (.int (t0_0 p1)), .val (.ref w16_11)] [(.int w_number_w16_11)])) _
    refine XS.iloadN X4.here hx rfl (hb hby at_27) rfl ?_
    show Steps p.tables e below (T4.setTop (mkF m 28 #[.val (.int p1), .val (.int (t0_0 p1)), .val (.ref w16_11)] [(.int (t0_0 p1)), (.int w_number_w16_11)])) _
    refine XS.icmpNo X4.here hx rfl (hb hby at_28) rfl (teq hc28).2 ?_
    show Steps p.tables e below (T4.setTop (mkF m 31 #[.val (.int p1), .val (.int (t0_0 p1)), .val (.ref w16_11)] [])) _
    refine XS.iconst X4.here hx rfl (hb hby at_31) ?_
    show Steps p.tables e below (T4.setTop (mkF m 32 #[.val (.int p1), .val (.int (t0_0 p1)), .val (.ref w16_11)] [(.int (1 : Int32))])) _
    refine XS.goto X4.here hx rfl (pc0 := 32) (pc' := 36) rfl (hb hby at_32) (by decide) (by decide) ?_
    show Steps p.tables e below (T4.setTop (mkF m 36 #[.val (.int p1), .val (.int (t0_0 p1)), .val (.ref w16_11)] [(.int (1 : Int32))])) _
    exact retN X4 hx (t := .boolean) Bd.returns (by simp) (hb hby at_36) hr
  · show Q_rm0 Z p1 s_BY_NUMBER k_s_BY_NUMBER z_s_BY_NUMBER vs_s_BY_NUMBER s_CONNECT s_CONNACK s_PUBLISH s_PUBACK s_PUBREC s_PUBREL s_PUBCOMP s_SUBSCRIBE s_SUBACK s_UNSUBSCRIBE s_UNSUBACK s_PINGREQ s_PINGRESP s_DISCONNECT w_number_w16_11 w16_11 h0 n0 _ T4.heap _
    exact ⟨rfl, N4⟩
theorem own_c14 (x : Int32) (h1 : 1 ≤ x.toInt) (h2 : x.toInt ≤ 14) : x = (1 : Int32) ∨ x = (2 : Int32) ∨ x = (3 : Int32) ∨ x = (4 : Int32) ∨ x = (5 : Int32) ∨ x = (6 : Int32) ∨ x = (7 : Int32) ∨ x = (8 : Int32) ∨ x = (9 : Int32) ∨ x = (10 : Int32) ∨ x = (11 : Int32) ∨ x = (12 : Int32) ∨ x = (13 : Int32) ∨ x = (14 : Int32) := by
  have h : x.toInt = 1 ∨ x.toInt = 2 ∨ x.toInt = 3 ∨ x.toInt = 4 ∨ x.toInt = 5 ∨ x.toInt = 6 ∨ x.toInt = 7 ∨ x.toInt = 8 ∨ x.toInt = 9 ∨ x.toInt = 10 ∨ x.toInt = 11 ∨ x.toInt = 12 ∨ x.toInt = 13 ∨ x.toInt = 14 := by omega
  rcases h with q | q | q | q | q | q | q | q | q | q | q | q | q | q
  · exact Or.inl (Int32.toInt_inj.mp (by rw [q]; rfl))
  · exact Or.inr (Or.inl (Int32.toInt_inj.mp (by rw [q]; rfl)))
  · exact Or.inr (Or.inr (Or.inl (Int32.toInt_inj.mp (by rw [q]; rfl))))
  · exact Or.inr (Or.inr (Or.inr (Or.inl (Int32.toInt_inj.mp (by rw [q]; rfl)))))
  · exact Or.inr (Or.inr (Or.inr (Or.inr (Or.inl (Int32.toInt_inj.mp (by rw [q]; rfl))))))
  · exact Or.inr (Or.inr (Or.inr (Or.inr (Or.inr (Or.inl (Int32.toInt_inj.mp (by rw [q]; rfl)))))))
  · exact Or.inr (Or.inr (Or.inr (Or.inr (Or.inr (Or.inr (Or.inl (Int32.toInt_inj.mp (by rw [q]; rfl))))))))
  · exact Or.inr (Or.inr (Or.inr (Or.inr (Or.inr (Or.inr (Or.inr (Or.inl (Int32.toInt_inj.mp (by rw [q]; rfl)))))))))
  · exact Or.inr (Or.inr (Or.inr (Or.inr (Or.inr (Or.inr (Or.inr (Or.inr (Or.inl (Int32.toInt_inj.mp (by rw [q]; rfl))))))))))
  · exact Or.inr (Or.inr (Or.inr (Or.inr (Or.inr (Or.inr (Or.inr (Or.inr (Or.inr (Or.inl (Int32.toInt_inj.mp (by rw [q]; rfl)))))))))))
  · exact Or.inr (Or.inr (Or.inr (Or.inr (Or.inr (Or.inr (Or.inr (Or.inr (Or.inr (Or.inr (Or.inl (Int32.toInt_inj.mp (by rw [q]; rfl))))))))))))
  · exact Or.inr (Or.inr (Or.inr (Or.inr (Or.inr (Or.inr (Or.inr (Or.inr (Or.inr (Or.inr (Or.inr (Or.inl (Int32.toInt_inj.mp (by rw [q]; rfl)))))))))))))
  · exact Or.inr (Or.inr (Or.inr (Or.inr (Or.inr (Or.inr (Or.inr (Or.inr (Or.inr (Or.inr (Or.inr (Or.inr (Or.inl (Int32.toInt_inj.mp (by rw [q]; rfl))))))))))))))
  · exact Or.inr (Or.inr (Or.inr (Or.inr (Or.inr (Or.inr (Or.inr (Or.inr (Or.inr (Or.inr (Or.inr (Or.inr (Or.inr (Int32.toInt_inj.mp (by rw [q]; rfl))))))))))))))
theorem own_t0 (x : Int32) : 1 ≤ (t0_0 x).toInt ∧ (t0_0 x).toInt ≤ 14 := by
  have h := own_mod (x &&& 2147483647) 14 (own_pos x) (by decide)
  have e14 : (14 : Int32).toInt = 14 := by decide
  have e1 : (1 : Int32).toInt = 1 := by decide
  rw [e14] at h
  unfold t0_0
  rw [own_add _ _ (by rw [h, e1]; omega) (by rw [h, e1]; omega), h, e1]
  omega
set_option maxRecDepth 65536 in
set_option maxHeartbeats 40000000 in
theorem comes_1 {Post : Tables → Env → Array Value → State → Outcome → State → Prop} (hpost : ∀ tb e args s v u, (limb_1_1.after args s (.returned v) u = true ∧ limb_1_2.after args s (.returned v) u = true ∧ True) → FrameEnd s (.returned v) u (Jvm.fieldLocs frame_1_writes args s ++ Jvm.arrayLocs frame_1_arrays args s ++ Jvm.staticLocs frame_1_statics s) 0 0 → Post tb e args s (.returned v) u) :
    ArmFor flags0 classFile x code maxLocals ret World_1 tables_1 room_1 Calls_1 rest_1 Pre_1 Post := by
  intro l hfl _ _ p e ha hc hk s m args below hf hA hF happ hP
  obtain ⟨hcalls, hrest, hpre⟩ := hP
  obtain ⟨-, -, -, hnamed, -, -, -, hat⟩ := (Spec.applies_iff hf).mp happ
  obtain ⟨hg, hn⟩ := and_e (Cond.before_iff.mp (show (Jvm.Cond.and given_1 narrow_1).before args s = true from hpre))
  obtain ⟨g1, g2⟩ := and_e hg
  obtain ⟨w0, rfl⟩ : ∃ w0 : Value, args = #[w0] := by
    have hs : args.size = 1 := by simpa [Cond.value, given_1] using g1
    obtain ⟨L⟩ := args
    match L, hs with
    | [w0], _ => exact ⟨w0, rfl⟩
  have hw := fun d (hd : d ∈ tables_1) => atoms_spec (ws := Jvm.Cond.code x code maxLocals ret :: tables_1) hat d (List.mem_cons_of_mem _ hd)
  have hfit : Fit s := fun {y c} hc i hi => by
    obtain ⟨ha, rfl⟩ := Array.getElem?_eq_some_iff.mp hc
    have q := List.all_eq_true.mp ((Array.all_eq_true_iff_forall_mem.mp hF) _ (Array.getElem_mem ha)) i (List.mem_range.mpr hi)
    simpa [Array.getElem?_eq_getElem hi] using q
  obtain ⟨i0, ei0⟩ := is_v g2
  obtain rfl : w0 = (.int i0) := Option.some.inj ei0
  obtain ⟨na1, na2⟩ := and_e hn
  obtain ⟨na3, na4⟩ := and_e na2
  obtain ⟨na5, na6⟩ := and_e na4
  obtain ⟨na7, na8⟩ := and_e na6
  obtain ⟨na9, na10⟩ := and_e na8
  obtain ⟨na11, na12⟩ := and_e na10
  obtain ⟨na13, na14⟩ := and_e na12
  obtain ⟨na15, na16⟩ := and_e na14
  obtain ⟨na17, na18⟩ := and_e na16
  obtain ⟨na19, na20⟩ := and_e na18
  obtain ⟨na21, na22⟩ := and_e na20
  obtain ⟨na23, na24⟩ := and_e na22
  obtain ⟨na25, na26⟩ := and_e na24
  obtain ⟨na27, na28⟩ := and_e na26
  obtain ⟨na29, na30⟩ := and_e na28
  obtain ⟨na31, na32⟩ := and_e na30
  obtain ⟨na33, na34⟩ := and_e na32
  obtain ⟨na35, na36⟩ := and_e na34
  obtain ⟨na37, na38⟩ := and_e na36
  obtain ⟨na39, na40⟩ := and_e na38
  obtain ⟨na41, na42⟩ := and_e na40
  obtain ⟨na43, na44⟩ := and_e na42
  obtain ⟨na45, na46⟩ := and_e na44
  obtain ⟨na47, na48⟩ := and_e na46
  obtain ⟨na49, na50⟩ := and_e na48
  obtain ⟨na51, na52⟩ := and_e na50
  obtain ⟨na53, na54⟩ := and_e na52
  obtain ⟨na55, na56⟩ := and_e na54
  obtain ⟨na57, na58⟩ := and_e na56
  obtain ⟨na59, na60⟩ := and_e na58
  obtain ⟨na61, na62⟩ := and_e na60
  obtain ⟨na63, na64⟩ := and_e na62
  obtain ⟨na65, na66⟩ := and_e na64
  obtain ⟨na67, na68⟩ := and_e na66
  obtain ⟨na69, na70⟩ := and_e na68
  obtain ⟨na71, na72⟩ := and_e na70
  obtain ⟨na73, na74⟩ := and_e na72
  obtain ⟨na75, na76⟩ := and_e na74
  obtain ⟨na77, na78⟩ := and_e na76
  obtain ⟨na79, na80⟩ := and_e na78
  obtain ⟨na81, na82⟩ := and_e na80
  obtain ⟨na83, na84⟩ := and_e na82
  obtain ⟨na85, na86⟩ := and_e na84
  obtain ⟨na87, na88⟩ := and_e na86
  obtain ⟨na89, na90⟩ := and_e na88
  obtain ⟨a_BY_NUMBER, ev_BY_NUMBER⟩ := arr_v na1
  obtain ⟨cl_BY_NUMBER, Ar_BY_NUMBER⟩ := Arr.start ev_BY_NUMBER na1
  have S_BY_NUMBER : Sta s s.heap "com/example/lob/lob/codec/PacketType" "BY_NUMBER" "[Lcom/example/lob/lob/codec/PacketType;" (.ref a_BY_NUMBER) := Sta.start ev_BY_NUMBER (Or.inr ⟨(hw _ (List.mem_of_getElem? (i := 3) rfl)), (hw _ (List.mem_of_getElem? (i := 6) rfl))⟩)
  obtain ⟨a_CONNECT, ev_CONNECT⟩ := exa_v na5
  have E_CONNECT : Exa s s.heap a_CONNECT "com/example/lob/lob/codec/PacketType" := Exa.start ev_CONNECT na5
  have S_CONNECT : Sta s s.heap "com/example/lob/lob/codec/PacketType" "CONNECT" "Lcom/example/lob/lob/codec/PacketType;" (.ref a_CONNECT) := Sta.start ev_CONNECT (Or.inr ⟨(hw _ (List.mem_of_getElem? (i := 3) rfl)), (hw _ (List.mem_of_getElem? (i := 7) rfl))⟩)
  obtain ⟨a_PUBACK, ev_PUBACK⟩ := exa_v na11
  have E_PUBACK : Exa s s.heap a_PUBACK "com/example/lob/lob/codec/PacketType" := Exa.start ev_PUBACK na11
  have S_PUBACK : Sta s s.heap "com/example/lob/lob/codec/PacketType" "PUBACK" "Lcom/example/lob/lob/codec/PacketType;" (.ref a_PUBACK) := Sta.start ev_PUBACK (Or.inr ⟨(hw _ (List.mem_of_getElem? (i := 3) rfl)), (hw _ (List.mem_of_getElem? (i := 20) rfl))⟩)
  obtain ⟨a_PINGRESP, ev_PINGRESP⟩ := exa_v na17
  have E_PINGRESP : Exa s s.heap a_PINGRESP "com/example/lob/lob/codec/PacketType" := Exa.start ev_PINGRESP na17
  have S_PINGRESP : Sta s s.heap "com/example/lob/lob/codec/PacketType" "PINGRESP" "Lcom/example/lob/lob/codec/PacketType;" (.ref a_PINGRESP) := Sta.start ev_PINGRESP (Or.inr ⟨(hw _ (List.mem_of_getElem? (i := 3) rfl)), (hw _ (List.mem_of_getElem? (i := 22) rfl))⟩)
  obtain ⟨a_DISCONNECT, ev_DISCONNECT⟩ := exa_v na23
  have E_DISCONNECT : Exa s s.heap a_DISCONNECT "com/example/lob/lob/codec/PacketType" := Exa.start ev_DISCONNECT na23
  have S_DISCONNECT : Sta s s.heap "com/example/lob/lob/codec/PacketType" "DISCONNECT" "Lcom/example/lob/lob/codec/PacketType;" (.ref a_DISCONNECT) := Sta.start ev_DISCONNECT (Or.inr ⟨(hw _ (List.mem_of_getElem? (i := 3) rfl)), (hw _ (List.mem_of_getElem? (i := 24) rfl))⟩)
  obtain ⟨a_PUBREC, ev_PUBREC⟩ := exa_v na29
  have E_PUBREC : Exa s s.heap a_PUBREC "com/example/lob/lob/codec/PacketType" := Exa.start ev_PUBREC na29
  have S_PUBREC : Sta s s.heap "com/example/lob/lob/codec/PacketType" "PUBREC" "Lcom/example/lob/lob/codec/PacketType;" (.ref a_PUBREC) := Sta.start ev_PUBREC (Or.inr ⟨(hw _ (List.mem_of_getElem? (i := 3) rfl)), (hw _ (List.mem_of_getElem? (i := 26) rfl))⟩)
  obtain ⟨a_SUBSCRIBE, ev_SUBSCRIBE⟩ := exa_v na35
  have E_SUBSCRIBE : Exa s s.heap a_SUBSCRIBE "com/example/lob/lob/codec/PacketType" := Exa.start ev_SUBSCRIBE na35
  have S_SUBSCRIBE : Sta s s.heap "com/example/lob/lob/codec/PacketType" "SUBSCRIBE" "Lcom/example/lob/lob/codec/PacketType;" (.ref a_SUBSCRIBE) := Sta.start ev_SUBSCRIBE (Or.inr ⟨(hw _ (List.mem_of_getElem? (i := 3) rfl)), (hw _ (List.mem_of_getElem? (i := 28) rfl))⟩)
  obtain ⟨a_PUBLISH, ev_PUBLISH⟩ := exa_v na41
  have E_PUBLISH : Exa s s.heap a_PUBLISH "com/example/lob/lob/codec/PacketType" := Exa.start ev_PUBLISH na41
  have S_PUBLISH : Sta s s.heap "com/example/lob/lob/codec/PacketType" "PUBLISH" "Lcom/example/lob/lob/codec/PacketType;" (.ref a_PUBLISH) := Sta.start ev_PUBLISH (Or.inr ⟨(hw _ (List.mem_of_getElem? (i := 3) rfl)), (hw _ (List.mem_of_getElem? (i := 30) rfl))⟩)
  obtain ⟨a_PINGREQ, ev_PINGREQ⟩ := exa_v na47
  have E_PINGREQ : Exa s s.heap a_PINGREQ "com/example/lob/lob/codec/PacketType" := Exa.start ev_PINGREQ na47
  have S_PINGREQ : Sta s s.heap "com/example/lob/lob/codec/PacketType" "PINGREQ" "Lcom/example/lob/lob/codec/PacketType;" (.ref a_PINGREQ) := Sta.start ev_PINGREQ (Or.inr ⟨(hw _ (List.mem_of_getElem? (i := 3) rfl)), (hw _ (List.mem_of_getElem? (i := 32) rfl))⟩)
  obtain ⟨a_UNSUBACK, ev_UNSUBACK⟩ := exa_v na53
  have E_UNSUBACK : Exa s s.heap a_UNSUBACK "com/example/lob/lob/codec/PacketType" := Exa.start ev_UNSUBACK na53
  have S_UNSUBACK : Sta s s.heap "com/example/lob/lob/codec/PacketType" "UNSUBACK" "Lcom/example/lob/lob/codec/PacketType;" (.ref a_UNSUBACK) := Sta.start ev_UNSUBACK (Or.inr ⟨(hw _ (List.mem_of_getElem? (i := 3) rfl)), (hw _ (List.mem_of_getElem? (i := 34) rfl))⟩)
  obtain ⟨a_SUBACK, ev_SUBACK⟩ := exa_v na59
  have E_SUBACK : Exa s s.heap a_SUBACK "com/example/lob/lob/codec/PacketType" := Exa.start ev_SUBACK na59
  have S_SUBACK : Sta s s.heap "com/example/lob/lob/codec/PacketType" "SUBACK" "Lcom/example/lob/lob/codec/PacketType;" (.ref a_SUBACK) := Sta.start ev_SUBACK (Or.inr ⟨(hw _ (List.mem_of_getElem? (i := 3) rfl)), (hw _ (List.mem_of_getElem? (i := 36) rfl))⟩)
  obtain ⟨a_CONNACK, ev_CONNACK⟩ := exa_v na65
  have E_CONNACK : Exa s s.heap a_CONNACK "com/example/lob/lob/codec/PacketType" := Exa.start ev_CONNACK na65
  have S_CONNACK : Sta s s.heap "com/example/lob/lob/codec/PacketType" "CONNACK" "Lcom/example/lob/lob/codec/PacketType;" (.ref a_CONNACK) := Sta.start ev_CONNACK (Or.inr ⟨(hw _ (List.mem_of_getElem? (i := 3) rfl)), (hw _ (List.mem_of_getElem? (i := 38) rfl))⟩)
  obtain ⟨a_UNSUBSCRIBE, ev_UNSUBSCRIBE⟩ := exa_v na71
  have E_UNSUBSCRIBE : Exa s s.heap a_UNSUBSCRIBE "com/example/lob/lob/codec/PacketType" := Exa.start ev_UNSUBSCRIBE na71
  have S_UNSUBSCRIBE : Sta s s.heap "com/example/lob/lob/codec/PacketType" "UNSUBSCRIBE" "Lcom/example/lob/lob/codec/PacketType;" (.ref a_UNSUBSCRIBE) := Sta.start ev_UNSUBSCRIBE (Or.inr ⟨(hw _ (List.mem_of_getElem? (i := 3) rfl)), (hw _ (List.mem_of_getElem? (i := 40) rfl))⟩)
  obtain ⟨a_PUBREL, ev_PUBREL⟩ := exa_v na77
  have E_PUBREL : Exa s s.heap a_PUBREL "com/example/lob/lob/codec/PacketType" := Exa.start ev_PUBREL na77
  have S_PUBREL : Sta s s.heap "com/example/lob/lob/codec/PacketType" "PUBREL" "Lcom/example/lob/lob/codec/PacketType;" (.ref a_PUBREL) := Sta.start ev_PUBREL (Or.inr ⟨(hw _ (List.mem_of_getElem? (i := 3) rfl)), (hw _ (List.mem_of_getElem? (i := 42) rfl))⟩)
  obtain ⟨a_PUBCOMP, ev_PUBCOMP⟩ := exa_v na83
  have E_PUBCOMP : Exa s s.heap a_PUBCOMP "com/example/lob/lob/codec/PacketType" := Exa.start ev_PUBCOMP na83
  have S_PUBCOMP : Sta s s.heap "com/example/lob/lob/codec/PacketType" "PUBCOMP" "Lcom/example/lob/lob/codec/PacketType;" (.ref a_PUBCOMP) := Sta.start ev_PUBCOMP (Or.inr ⟨(hw _ (List.mem_of_getElem? (i := 3) rfl)), (hw _ (List.mem_of_getElem? (i := 44) rfl))⟩)
  have len_BY_NUMBER := own_eqI na3 (Term.int_eval (16))
  have el_BY_NUMBER_1 := elem_in (own_eqR na7 ev_CONNECT) ev_BY_NUMBER (Term.int_eval (1)) Ar_BY_NUMBER.1
  have F_number_CONNECT : Fld s s.heap a_CONNECT "com/example/lob/lob/codec/PacketType" "number" "I" (.int (1 : Int32)) := Fld.start ((fld_at ev_CONNECT).symm.trans (own_eqI na9 (Term.int_eval (1))))
  have el_BY_NUMBER_4 := elem_in (own_eqR na13 ev_PUBACK) ev_BY_NUMBER (Term.int_eval (4)) Ar_BY_NUMBER.1
  have F_number_PUBACK : Fld s s.heap a_PUBACK "com/example/lob/lob/codec/PacketType" "number" "I" (.int (4 : Int32)) := Fld.start ((fld_at ev_PUBACK).symm.trans (own_eqI na15 (Term.int_eval (4))))
  have el_BY_NUMBER_13 := elem_in (own_eqR na19 ev_PINGRESP) ev_BY_NUMBER (Term.int_eval (13)) Ar_BY_NUMBER.1
  have F_number_PINGRESP : Fld s s.heap a_PINGRESP "com/example/lob/lob/codec/PacketType" "number" "I" (.int (13 : Int32)) := Fld.start ((fld_at ev_PINGRESP).symm.trans (own_eqI na21 (Term.int_eval (13))))
  have el_BY_NUMBER_14 := elem_in (own_eqR na25 ev_DISCONNECT) ev_BY_NUMBER (Term.int_eval (14)) Ar_BY_NUMBER.1
  have F_number_DISCONNECT : Fld s s.heap a_DISCONNECT "com/example/lob/lob/codec/PacketType" "number" "I" (.int (14 : Int32)) := Fld.start ((fld_at ev_DISCONNECT).symm.trans (own_eqI na27 (Term.int_eval (14))))
  have el_BY_NUMBER_5 := elem_in (own_eqR na31 ev_PUBREC) ev_BY_NUMBER (Term.int_eval (5)) Ar_BY_NUMBER.1
  have F_number_PUBREC : Fld s s.heap a_PUBREC "com/example/lob/lob/codec/PacketType" "number" "I" (.int (5 : Int32)) := Fld.start ((fld_at ev_PUBREC).symm.trans (own_eqI na33 (Term.int_eval (5))))
  have el_BY_NUMBER_8 := elem_in (own_eqR na37 ev_SUBSCRIBE) ev_BY_NUMBER (Term.int_eval (8)) Ar_BY_NUMBER.1
  have F_number_SUBSCRIBE : Fld s s.heap a_SUBSCRIBE "com/example/lob/lob/codec/PacketType" "number" "I" (.int (8 : Int32)) := Fld.start ((fld_at ev_SUBSCRIBE).symm.trans (own_eqI na39 (Term.int_eval (8))))
  have el_BY_NUMBER_3 := elem_in (own_eqR na43 ev_PUBLISH) ev_BY_NUMBER (Term.int_eval (3)) Ar_BY_NUMBER.1
  have F_number_PUBLISH : Fld s s.heap a_PUBLISH "com/example/lob/lob/codec/PacketType" "number" "I" (.int (3 : Int32)) := Fld.start ((fld_at ev_PUBLISH).symm.trans (own_eqI na45 (Term.int_eval (3))))
  have el_BY_NUMBER_12 := elem_in (own_eqR na49 ev_PINGREQ) ev_BY_NUMBER (Term.int_eval (12)) Ar_BY_NUMBER.1
  have F_number_PINGREQ : Fld s s.heap a_PINGREQ "com/example/lob/lob/codec/PacketType" "number" "I" (.int (12 : Int32)) := Fld.start ((fld_at ev_PINGREQ).symm.trans (own_eqI na51 (Term.int_eval (12))))
  have el_BY_NUMBER_11 := elem_in (own_eqR na55 ev_UNSUBACK) ev_BY_NUMBER (Term.int_eval (11)) Ar_BY_NUMBER.1
  have F_number_UNSUBACK : Fld s s.heap a_UNSUBACK "com/example/lob/lob/codec/PacketType" "number" "I" (.int (11 : Int32)) := Fld.start ((fld_at ev_UNSUBACK).symm.trans (own_eqI na57 (Term.int_eval (11))))
  have el_BY_NUMBER_9 := elem_in (own_eqR na61 ev_SUBACK) ev_BY_NUMBER (Term.int_eval (9)) Ar_BY_NUMBER.1
  have F_number_SUBACK : Fld s s.heap a_SUBACK "com/example/lob/lob/codec/PacketType" "number" "I" (.int (9 : Int32)) := Fld.start ((fld_at ev_SUBACK).symm.trans (own_eqI na63 (Term.int_eval (9))))
  have el_BY_NUMBER_2 := elem_in (own_eqR na67 ev_CONNACK) ev_BY_NUMBER (Term.int_eval (2)) Ar_BY_NUMBER.1
  have F_number_CONNACK : Fld s s.heap a_CONNACK "com/example/lob/lob/codec/PacketType" "number" "I" (.int (2 : Int32)) := Fld.start ((fld_at ev_CONNACK).symm.trans (own_eqI na69 (Term.int_eval (2))))
  have el_BY_NUMBER_10 := elem_in (own_eqR na73 ev_UNSUBSCRIBE) ev_BY_NUMBER (Term.int_eval (10)) Ar_BY_NUMBER.1
  have F_number_UNSUBSCRIBE : Fld s s.heap a_UNSUBSCRIBE "com/example/lob/lob/codec/PacketType" "number" "I" (.int (10 : Int32)) := Fld.start ((fld_at ev_UNSUBSCRIBE).symm.trans (own_eqI na75 (Term.int_eval (10))))
  have el_BY_NUMBER_6 := elem_in (own_eqR na79 ev_PUBREL) ev_BY_NUMBER (Term.int_eval (6)) Ar_BY_NUMBER.1
  have F_number_PUBREL : Fld s s.heap a_PUBREL "com/example/lob/lob/codec/PacketType" "number" "I" (.int (6 : Int32)) := Fld.start ((fld_at ev_PUBREL).symm.trans (own_eqI na81 (Term.int_eval (6))))
  have el_BY_NUMBER_7 := elem_in (own_eqR na85 ev_PUBCOMP) ev_BY_NUMBER (Term.int_eval (7)) Ar_BY_NUMBER.1
  have F_number_PUBCOMP : Fld s s.heap a_PUBCOMP "com/example/lob/lob/codec/PacketType" "number" "I" (.int (7 : Int32)) := Fld.start ((fld_at ev_PUBCOMP).symm.trans (own_eqI na87 (Term.int_eval (7))))
  have el_BY_NUMBER_0 := elem_in (null_v na89) ev_BY_NUMBER (Term.int_eval (0)) Ar_BY_NUMBER.1
  have el_BY_NUMBER_15 := elem_in (null_v na90) ev_BY_NUMBER (Term.int_eval (15)) Ar_BY_NUMBER.1
  obtain ⟨lt_BY_NUMBER, sz_BY_NUMBER⟩ := own_len len_BY_NUMBER ev_BY_NUMBER Ar_BY_NUMBER.1
  have V_BY_NUMBER : Arv s s.heap a_BY_NUMBER cl_BY_NUMBER.cls (.object "com/example/lob/lob/codec/PacketType") (16 : Int32) [.null, (.ref a_CONNECT), (.ref a_CONNACK), (.ref a_PUBLISH), (.ref a_PUBACK), (.ref a_PUBREC), (.ref a_PUBREL), (.ref a_PUBCOMP), (.ref a_SUBSCRIBE), (.ref a_SUBACK), (.ref a_UNSUBSCRIBE), (.ref a_UNSUBACK), (.ref a_PINGREQ), (.ref a_PINGRESP), (.ref a_DISCONNECT), .null] .null := Arv.start hfit Ar_BY_NUMBER lt_BY_NUMBER sz_BY_NUMBER (by decide) rfl ⟨el_BY_NUMBER_0.2, el_BY_NUMBER_1.2, el_BY_NUMBER_2.2, el_BY_NUMBER_3.2, el_BY_NUMBER_4.2, el_BY_NUMBER_5.2, el_BY_NUMBER_6.2, el_BY_NUMBER_7.2, el_BY_NUMBER_8.2, el_BY_NUMBER_9.2, el_BY_NUMBER_10.2, el_BY_NUMBER_11.2, el_BY_NUMBER_12.2, el_BY_NUMBER_13.2, el_BY_NUMBER_14.2, el_BY_NUMBER_15.2, trivial⟩
  obtain ⟨w, b, hE, hF, hi1, hi2, hs, hrel, hn⟩ : ∃ (w : Addr) (b : Int32), Exa s s.heap w "com/example/lob/lob/codec/PacketType" ∧ Fld s s.heap w "com/example/lob/lob/codec/PacketType" "number" "I" (.int b) ∧ ¬ ((t0_0 i0) < (0 : Int32)) ∧ (t0_0 i0) < (16 : Int32) ∧ ([.null, (.ref a_CONNECT), (.ref a_CONNACK), (.ref a_PUBLISH), (.ref a_PUBACK), (.ref a_PUBREC), (.ref a_PUBREL), (.ref a_PUBCOMP), (.ref a_SUBSCRIBE), (.ref a_SUBACK), (.ref a_UNSUBSCRIBE), (.ref a_UNSUBACK), (.ref a_PINGREQ), (.ref a_PINGRESP), (.ref a_DISCONNECT), .null] : List Value).getD (t0_0 i0).toNatClampNeg .null = (.ref w) ∧ w = F2 (t0_0 i0) a_CONNECT a_CONNACK a_PUBLISH a_PUBACK a_PUBREC a_PUBREL a_PUBCOMP a_SUBSCRIBE a_SUBACK a_UNSUBSCRIBE a_UNSUBACK a_PINGREQ a_PINGRESP a_DISCONNECT ∧ b = t0_0 i0 := by
    rcases own_c14 (t0_0 i0) (own_t0 i0).1 (own_t0 i0).2 with h | h | h | h | h | h | h | h | h | h | h | h | h | h <;> rw [h]
    · exact ⟨a_CONNECT, 1, E_CONNECT, F_number_CONNECT, by decide, by decide, rfl, rfl, rfl⟩
    · exact ⟨a_CONNACK, 2, E_CONNACK, F_number_CONNACK, by decide, by decide, rfl, rfl, rfl⟩
    · exact ⟨a_PUBLISH, 3, E_PUBLISH, F_number_PUBLISH, by decide, by decide, rfl, rfl, rfl⟩
    · exact ⟨a_PUBACK, 4, E_PUBACK, F_number_PUBACK, by decide, by decide, rfl, rfl, rfl⟩
    · exact ⟨a_PUBREC, 5, E_PUBREC, F_number_PUBREC, by decide, by decide, rfl, rfl, rfl⟩
    · exact ⟨a_PUBREL, 6, E_PUBREL, F_number_PUBREL, by decide, by decide, rfl, rfl, rfl⟩
    · exact ⟨a_PUBCOMP, 7, E_PUBCOMP, F_number_PUBCOMP, by decide, by decide, rfl, rfl, rfl⟩
    · exact ⟨a_SUBSCRIBE, 8, E_SUBSCRIBE, F_number_SUBSCRIBE, by decide, by decide, rfl, rfl, rfl⟩
    · exact ⟨a_SUBACK, 9, E_SUBACK, F_number_SUBACK, by decide, by decide, rfl, rfl, rfl⟩
    · exact ⟨a_UNSUBSCRIBE, 10, E_UNSUBSCRIBE, F_number_UNSUBSCRIBE, by decide, by decide, rfl, rfl, rfl⟩
    · exact ⟨a_UNSUBACK, 11, E_UNSUBACK, F_number_UNSUBACK, by decide, by decide, rfl, rfl, rfl⟩
    · exact ⟨a_PINGREQ, 12, E_PINGREQ, F_number_PINGREQ, by decide, by decide, rfl, rfl, rfl⟩
    · exact ⟨a_PINGRESP, 13, E_PINGRESP, F_number_PINGRESP, by decide, by decide, rfl, rfl, rfl⟩
    · exact ⟨a_DISCONNECT, 14, E_DISCONNECT, F_number_DISCONNECT, by decide, by decide, rfl, rfl, rfl⟩
  obtain ⟨n, o, h1, h2, h3, _, L, rfl, ⟨rfl, N⟩, hq⟩ := rm0 l s _ hw tables_1 i0 a_BY_NUMBER _ _ _ a_CONNECT a_CONNACK a_PUBLISH a_PUBACK a_PUBREC a_PUBREL a_PUBCOMP a_SUBSCRIBE a_SUBACK a_UNSUBSCRIBE a_UNSUBACK a_PINGREQ a_PINGRESP a_DISCONNECT b w s.heap s.heap.size (Nat.le_refl _) S_BY_NUMBER V_BY_NUMBER S_CONNECT S_CONNACK S_PUBLISH S_PUBACK S_PUBREC S_PUBREL S_PUBCOMP S_SUBSCRIBE S_SUBACK S_UNSUBSCRIBE S_UNSUBACK S_PINGREQ S_PINGRESP S_DISCONNECT hF hE hi1 hi2 ⟨hi1, hi2⟩ hs hrel hn p e ha hc hk s m _ below hf ((Spec.applies_iff_loose hf).mp happ).1 ⟨rfl, State.Warmed39.refl s, rfl⟩ trivial
  refine ⟨n, _, h1, h2, h3, hpost _ _ _ _ _ _ ⟨Cond.after_iff.mpr rfl, Cond.after_iff.mpr (eq_i res_at (Term.int_eval (1)) rfl), trivial⟩ ⟨hq.1, hq.2.1, (hq.2.2.sift fun y hy => Or.inr (N y hy)).mono (by decide) (by decide)⟩⟩
theorem main_1_1 : Claimed_1_1 := comes_1 fun _ _ _ _ _ _ h hF => ⟨h.1, hF⟩
theorem main_1_2 : Claimed_1_2 := comes_1 fun _ _ _ _ _ _ h hF => ⟨h.2.1, hF⟩
end Jvm.Pilot.@@N@@
namespace Jvm.Pilot.@@N@@
open Jvm Jvm.ClassFile Sem Op Lib Jvm.Free Jvm.Stand Jvm.Pilot.@@N@@.Jvm.D
/-! MADE BY PROGRAM (witnessworld.py) out of the Statement's table words and the real class files: 13 classes; the members and pool entries that the words name. The judged class is class 1, her method 2. -/
namespace start1
open Jvm.ClassFile
def u (s : String) : CpInfo := .utf8 (stringToUtf16 s)
/-- a pool by its gaps: so many unusable entries, then the entry; so many at the end -/
def gap : Nat → List CpInfo → List CpInfo
  | 0, r => r
  | n + 1, r => .unusable :: gap n r
def poolList (es : List (Nat × CpInfo)) (last : Nat) : List CpInfo := es.foldr (fun e r => gap e.1 (e.2 :: r)) (gap last [])
def pool (es : List (Nat × CpInfo)) (last : Nat) : Array CpInfo := ⟨poolList es last⟩
def fileOf (pool : Array CpInfo) (this : Nat) (attrs : Array Attribute := #[]) (ms : Array MethodInfo := #[]) (fl : Nat := 33) (sup : Nat := 0) (ifs : Array Nat := #[]) (fds : Array FieldInfo := #[]) : ClassFile where
  minorVersion := 0
  majorVersion := 65
  constantPool := pool
  accessFlags := fl
  thisClass := this
  superClass := sup
  interfaces := ifs
  fields := fds
  methods := ms
  attributes := attrs
def plain (name : String) (sup : Option ClassId) : Class where
  name := name
  kind := .ordinary
  loader := none
  accessFlags := 33
  super := sup
  interfaces := #[]
  cf := none
  fields := #[]
  methods := #[]
  instanceTypes := #[]
  staticTypes := #[]
  resolved := #[]
  callSites := []
  init := .initialized
  statics := none
  mirror := none

def pool0 : Array CpInfo := pool [(5, u "<init>"), (0, u "()V"), (1, .class_ 10), (1, u "java/lang/Object")] 113

def k0m0 : Method := { name := "<init>", desc := "()V", sig := { parameters := [], returnType := none }, accessFlags := 1, code := none }
/-- java/lang/Object -/
def k0 : Class := { plain "java/lang/Object" none with
  accessFlags := 33
  interfaces := #[]
  cf := some (fileOf pool0 8 #[] #[{ accessFlags := 1, nameIndex := 5, descriptorIndex := 6, attributes := #[] }] 33 0 #[] #[])
  fields := #[]
  methods := #[k0m0]
  instanceTypes := #[]
  staticTypes := #[]
  resolved := Array.replicate 124 none
  statics := none }

def pool1 : Array CpInfo := pool [(2, .class_ 4), (1, u "java/lang/Object"), (0, u "<init>"), (0, u "()V"), (0, .fieldref 8 9), (0, .class_ 10), (0, .nameAndType 11 12), (0, u "com/example/lob/lob/codec/PacketType"), (0, u "CONNECT"), (0, u "Lcom/example/lob/lob/codec/PacketType;"), (0, .fieldref 8 14), (0, .nameAndType 15 12), (0, u "CONNACK"), (0, .fieldref 8 17), (0, .nameAndType 18 12), (0, u "PUBLISH"), (0, .fieldref 8 20), (0, .nameAndType 21 12), (0, u "PUBACK"), (0, .fieldref 8 23), (0, .nameAndType 24 12), (0, u "PUBREC"), (0, .fieldref 8 26), (0, .nameAndType 27 12), (0, u "PUBREL"), (0, .fieldref 8 29), (0, .nameAndType 30 12), (0, u "PUBCOMP"), (0, .fieldref 8 32), (0, .nameAndType 33 12), (0, u "SUBSCRIBE"), (0, .fieldref 8 35), (0, .nameAndType 36 12), (0, u "SUBACK"), (0, .fieldref 8 38), (0, .nameAndType 39 12), (0, u "UNSUBSCRIBE"), (0, .fieldref 8 41), (0, .nameAndType 42 12), (0, u "UNSUBACK"), (0, .fieldref 8 44), (0, .nameAndType 45 12), (0, u "PINGREQ"), (0, .fieldref 8 47), (0, .nameAndType 48 12), (0, u "PINGRESP"), (0, .fieldref 8 50), (0, .nameAndType 51 12), (0, u "DISCONNECT"), (0, .integer 2147483647), (0, .methodref 8 54), (0, .nameAndType 55 56), (0, u "fromNumber"), (0, u "(I)Lcom/example/lob/lob/codec/PacketType;"), (0, .methodref 58 59), (0, .class_ 60), (0, .nameAndType 61 56), (0, u "com/example/lob/lob/codec/PacketTypeFromNumberPinLaw"), (0, u "expected"), (0, .methodref 8 63), (0, .nameAndType 64 65), (0, u "number"), (0, u "()I"), (3, u "law"), (0, u "(I)Z")] 2

def k1m0 : Method := { name := "<init>", desc := "()V", sig := { parameters := [], returnType := none }, accessFlags := 2, code := none }
def k1c1 : Code := { maxStack := 2, maxLocals := 1, code := method_2_code, exceptionTable := #[], attributes := #[] }
def k1m1 : Method := { name := "expected", desc := "(I)Lcom/example/lob/lob/codec/PacketType;", sig := { parameters := [.int], returnType := some (.object "com/example/lob/lob/codec/PacketType") }, accessFlags := 10, code := some k1c1 }
def k1c2 : Code := { maxStack := 2, maxLocals := 3, code := code, exceptionTable := #[], attributes := #[] }
def k1m2 : Method := { name := "law", desc := "(I)Z", sig := { parameters := [.int], returnType := some .boolean }, accessFlags := 9, code := some k1c2 }
/-- com/example/lob/lob/codec/PacketTypeFromNumberPinLaw -/
def k1 : Class := { plain "com/example/lob/lob/codec/PacketTypeFromNumberPinLaw" (some 0) with
  accessFlags := 49
  interfaces := #[]
  cf := some (fileOf pool1 58 #[] #[{ accessFlags := 2, nameIndex := 5, descriptorIndex := 6, attributes := #[] }, { accessFlags := 10, nameIndex := 61, descriptorIndex := 56, attributes := #[] }, { accessFlags := 9, nameIndex := 69, descriptorIndex := 70, attributes := #[] }] 49 2 #[] #[])
  fields := #[]
  methods := #[k1m0, k1m1, k1m2]
  instanceTypes := #[]
  staticTypes := #[]
  resolved := Array.replicate 73 none
  statics := none }

def pool2 : Array CpInfo := pool [(1, .class_ 2), (0, u "java/lang/constant/Constable"), (0, .class_ 4), (0, u "java/lang/Object")] 6

/-- java/lang/constant/Constable -/
def k2 : Class := { plain "java/lang/constant/Constable" (some 0) with
  accessFlags := 1537
  interfaces := #[]
  cf := some (fileOf pool2 1 #[] #[] 1537 3 #[] #[])
  fields := #[]
  methods := #[]
  instanceTypes := #[]
  staticTypes := #[]
  resolved := Array.replicate 11 none
  statics := none }

def pool3 : Array CpInfo := pool [(1, .class_ 2), (0, u "java/lang/Comparable"), (0, .class_ 4), (0, u "java/lang/Object")] 7

/-- java/lang/Comparable -/
def k3 : Class := { plain "java/lang/Comparable" (some 0) with
  accessFlags := 1537
  interfaces := #[]
  cf := some (fileOf pool3 1 #[] #[] 1537 3 #[] #[])
  fields := #[]
  methods := #[]
  instanceTypes := #[]
  staticTypes := #[]
  resolved := Array.replicate 12 none
  statics := none }

def pool4 : Array CpInfo := pool [(1, .class_ 2), (0, u "java/io/Serializable"), (0, .class_ 4), (0, u "java/lang/Object")] 2

/-- java/io/Serializable -/
def k4 : Class := { plain "java/io/Serializable" (some 0) with
  accessFlags := 1537
  interfaces := #[]
  cf := some (fileOf pool4 1 #[] #[] 1537 3 #[] #[])
  fields := #[]
  methods := #[]
  instanceTypes := #[]
  staticTypes := #[]
  resolved := Array.replicate 7 none
  statics := none }

def pool5 : Array CpInfo := pool [(2, .class_ 4), (1, u "java/lang/Enum"), (0, u "name"), (0, u "Ljava/lang/String;"), (2, u "ordinal"), (0, u "I"), (1, .class_ 14), (1, u "java/lang/Object"), (4, u "hash"), (86, .class_ 108), (1, u "java/lang/Enum$EnumDesc"), (2, .class_ 112), (0, u "java/lang/constant/Constable"), (0, .class_ 114), (0, u "java/lang/Comparable"), (0, .class_ 116), (0, u "java/io/Serializable")] 87

/-- java/lang/Enum -/
def k5 : Class := { plain "java/lang/Enum" (some 0) with
  accessFlags := 1057
  interfaces := #[2, 3, 4]
  cf := some (fileOf pool5 2 #[.nestMembers #[106]] #[] 1057 12 #[111, 113, 115] #[{ accessFlags := 18, nameIndex := 5, descriptorIndex := 6, attributes := #[] }, { accessFlags := 18, nameIndex := 9, descriptorIndex := 10, attributes := #[] }, { accessFlags := 2, nameIndex := 19, descriptorIndex := 10, attributes := #[] }])
  fields := #[{ name := "name", type := (.object "java/lang/String"), accessFlags := 18, slot := 0, constantValue := 0 }, { name := "ordinal", type := .int, accessFlags := 18, slot := 1, constantValue := 0 }, { name := "hash", type := .int, accessFlags := 2, slot := 2, constantValue := 0 }]
  methods := #[]
  instanceTypes := #[(.object "java/lang/String"), .int, .int]
  staticTypes := #[]
  resolved := Array.replicate 204 none
  statics := none }

def pool6 : Array CpInfo := pool [(1, .class_ 2), (0, u "com/example/lob/lob/codec/PacketType"), (2, u "CONNECT"), (0, u "Lcom/example/lob/lob/codec/PacketType;"), (2, u "CONNACK"), (2, u "PUBLISH"), (2, u "PUBACK"), (2, u "PUBREC"), (2, u "PUBREL"), (2, u "PUBCOMP"), (2, u "SUBSCRIBE"), (2, u "SUBACK"), (2, u "UNSUBSCRIBE"), (2, u "UNSUBACK"), (2, u "PINGREQ"), (2, u "PINGRESP"), (2, u "DISCONNECT"), (2, u "$VALUES"), (0, u "[Lcom/example/lob/lob/codec/PacketType;"), (6, .class_ 58), (1, u "java/lang/Enum"), (6, .fieldref 1 66), (0, .nameAndType 67 68), (0, u "number"), (0, u "I"), (8, u "reservedFlags"), (0, u "Ljava/util/OptionalInt;"), (2, u "direction"), (0, u "Lcom/example/lob/lob/codec/PacketType$Direction;"), (5, .class_ 90), (1, u "com/example/lob/lob/codec/PacketType$Direction"), (1, .fieldref 1 93), (0, .nameAndType 94 49), (0, u "BY_NUMBER"), (49, u "()I"), (3, u "fromNumber"), (0, u "(I)Lcom/example/lob/lob/codec/PacketType;")] 22

def k6c0 : Code := { maxStack := 1, maxLocals := 1, code := prog_46_method_5_code, exceptionTable := #[], attributes := #[] }
def k6m0 : Method := { name := "number", desc := "()I", sig := { parameters := [], returnType := some .int }, accessFlags := 1, code := some k6c0 }
def k6c1 : Code := { maxStack := 3, maxLocals := 2, code := prog_46_method_8_code, exceptionTable := #[], attributes := #[] }
def k6m1 : Method := { name := "fromNumber", desc := "(I)Lcom/example/lob/lob/codec/PacketType;", sig := { parameters := [.int], returnType := some (.object "com/example/lob/lob/codec/PacketType") }, accessFlags := 9, code := some k6c1 }
/-- com/example/lob/lob/codec/PacketType -/
def k6 : Class := { plain "com/example/lob/lob/codec/PacketType" (some 5) with
  accessFlags := 16433
  interfaces := #[]
  cf := some (fileOf pool6 1 #[.nestMembers #[88]] #[{ accessFlags := 1, nameIndex := 67, descriptorIndex := 144, attributes := #[] }, { accessFlags := 9, nameIndex := 148, descriptorIndex := 149, attributes := #[] }] 16433 56 #[] #[{ accessFlags := 16409, nameIndex := 5, descriptorIndex := 6, attributes := #[] }, { accessFlags := 16409, nameIndex := 9, descriptorIndex := 6, attributes := #[] }, { accessFlags := 16409, nameIndex := 12, descriptorIndex := 6, attributes := #[] }, { accessFlags := 16409, nameIndex := 15, descriptorIndex := 6, attributes := #[] }, { accessFlags := 16409, nameIndex := 18, descriptorIndex := 6, attributes := #[] }, { accessFlags := 16409, nameIndex := 21, descriptorIndex := 6, attributes := #[] }, { accessFlags := 16409, nameIndex := 24, descriptorIndex := 6, attributes := #[] }, { accessFlags := 16409, nameIndex := 27, descriptorIndex := 6, attributes := #[] }, { accessFlags := 16409, nameIndex := 30, descriptorIndex := 6, attributes := #[] }, { accessFlags := 16409, nameIndex := 33, descriptorIndex := 6, attributes := #[] }, { accessFlags := 16409, nameIndex := 36, descriptorIndex := 6, attributes := #[] }, { accessFlags := 16409, nameIndex := 39, descriptorIndex := 6, attributes := #[] }, { accessFlags := 16409, nameIndex := 42, descriptorIndex := 6, attributes := #[] }, { accessFlags := 16409, nameIndex := 45, descriptorIndex := 6, attributes := #[] }, { accessFlags := 26, nameIndex := 94, descriptorIndex := 49, attributes := #[] }, { accessFlags := 18, nameIndex := 67, descriptorIndex := 68, attributes := #[] }, { accessFlags := 18, nameIndex := 77, descriptorIndex := 78, attributes := #[] }, { accessFlags := 18, nameIndex := 81, descriptorIndex := 82, attributes := #[] }, { accessFlags := 4122, nameIndex := 48, descriptorIndex := 49, attributes := #[] }])
  fields := #[{ name := "CONNECT", type := (.object "com/example/lob/lob/codec/PacketType"), accessFlags := 16409, slot := 0, constantValue := 0 }, { name := "CONNACK", type := (.object "com/example/lob/lob/codec/PacketType"), accessFlags := 16409, slot := 1, constantValue := 0 }, { name := "PUBLISH", type := (.object "com/example/lob/lob/codec/PacketType"), accessFlags := 16409, slot := 2, constantValue := 0 }, { name := "PUBACK", type := (.object "com/example/lob/lob/codec/PacketType"), accessFlags := 16409, slot := 3, constantValue := 0 }, { name := "PUBREC", type := (.object "com/example/lob/lob/codec/PacketType"), accessFlags := 16409, slot := 4, constantValue := 0 }, { name := "PUBREL", type := (.object "com/example/lob/lob/codec/PacketType"), accessFlags := 16409, slot := 5, constantValue := 0 }, { name := "PUBCOMP", type := (.object "com/example/lob/lob/codec/PacketType"), accessFlags := 16409, slot := 6, constantValue := 0 }, { name := "SUBSCRIBE", type := (.object "com/example/lob/lob/codec/PacketType"), accessFlags := 16409, slot := 7, constantValue := 0 }, { name := "SUBACK", type := (.object "com/example/lob/lob/codec/PacketType"), accessFlags := 16409, slot := 8, constantValue := 0 }, { name := "UNSUBSCRIBE", type := (.object "com/example/lob/lob/codec/PacketType"), accessFlags := 16409, slot := 9, constantValue := 0 }, { name := "UNSUBACK", type := (.object "com/example/lob/lob/codec/PacketType"), accessFlags := 16409, slot := 10, constantValue := 0 }, { name := "PINGREQ", type := (.object "com/example/lob/lob/codec/PacketType"), accessFlags := 16409, slot := 11, constantValue := 0 }, { name := "PINGRESP", type := (.object "com/example/lob/lob/codec/PacketType"), accessFlags := 16409, slot := 12, constantValue := 0 }, { name := "DISCONNECT", type := (.object "com/example/lob/lob/codec/PacketType"), accessFlags := 16409, slot := 13, constantValue := 0 }, { name := "BY_NUMBER", type := (.array (.object "com/example/lob/lob/codec/PacketType")), accessFlags := 26, slot := 14, constantValue := 0 }, { name := "number", type := .int, accessFlags := 18, slot := 3, constantValue := 0 }, { name := "reservedFlags", type := (.object "java/util/OptionalInt"), accessFlags := 18, slot := 4, constantValue := 0 }, { name := "direction", type := (.object "com/example/lob/lob/codec/PacketType$Direction"), accessFlags := 18, slot := 5, constantValue := 0 }, { name := "$VALUES", type := (.array (.object "com/example/lob/lob/codec/PacketType")), accessFlags := 4122, slot := 15, constantValue := 0 }]
  methods := #[k6m0, k6m1]
  instanceTypes := #[(.object "java/lang/String"), .int, .int, .int, (.object "java/util/OptionalInt"), (.object "com/example/lob/lob/codec/PacketType$Direction")]
  staticTypes := #[(.object "com/example/lob/lob/codec/PacketType"), (.object "com/example/lob/lob/codec/PacketType"), (.object "com/example/lob/lob/codec/PacketType"), (.object "com/example/lob/lob/codec/PacketType"), (.object "com/example/lob/lob/codec/PacketType"), (.object "com/example/lob/lob/codec/PacketType"), (.object "com/example/lob/lob/codec/PacketType"), (.object "com/example/lob/lob/codec/PacketType"), (.object "com/example/lob/lob/codec/PacketType"), (.object "com/example/lob/lob/codec/PacketType"), (.object "com/example/lob/lob/codec/PacketType"), (.object "com/example/lob/lob/codec/PacketType"), (.object "com/example/lob/lob/codec/PacketType"), (.object "com/example/lob/lob/codec/PacketType"), (.array (.object "com/example/lob/lob/codec/PacketType")), (.array (.object "com/example/lob/lob/codec/PacketType"))]
  resolved := Array.replicate 172 none
  statics := some 0 }

def pool7 : Array CpInfo := pool [(1, u "java/lang/Cloneable"), (0, .class_ 1), (0, u "java/lang/Object"), (0, .class_ 3)] 3

/-- java/lang/Cloneable -/
def k7 : Class := { plain "java/lang/Cloneable" (some 0) with
  accessFlags := 1537
  interfaces := #[]
  cf := some (fileOf pool7 2 #[] #[] 1537 4 #[] #[])
  fields := #[]
  methods := #[]
  instanceTypes := #[]
  staticTypes := #[]
  resolved := Array.replicate 8 none
  statics := none }

/-- the primitive byte -/
def k8 : Class := { plain "byte" none with kind := .primitive 'B', accessFlags := 0x411 }
/-- [B -/
def k9 : Class := { plain "[B" (some 0) with kind := .array 8 .byte, interfaces := #[7, 4], accessFlags := 1041 }

/-- the primitive int -/
def k10 : Class := { plain "int" none with kind := .primitive 'I', accessFlags := 0x411 }
/-- [I -/
def k11 : Class := { plain "[I" (some 0) with kind := .array 10 .int, interfaces := #[7, 4], accessFlags := 1041 }

/-- [Lcom/example/lob/lob/codec/PacketType; -/
def k12 : Class := { plain "[Lcom/example/lob/lob/codec/PacketType;" (some 0) with kind := .array 6 (.object "com/example/lob/lob/codec/PacketType"), interfaces := #[7, 4], accessFlags := 1041 }

def heap : Heap := #[{ cls := 6, slots := #[.ref 2, .ref 12, .ref 8, .ref 3, .ref 6, .ref 14, .ref 15, .ref 7, .ref 11, .ref 13, .ref 10, .ref 9, .ref 4, .ref 5, .ref 1, .null], vm := .statics 6 },
  { cls := 12, slots := #[.null, .ref 2, .ref 12, .ref 8, .ref 3, .ref 6, .ref 14, .ref 15, .ref 7, .ref 11, .ref 13, .ref 10, .ref 9, .ref 4, .ref 5, .null], vm := .none },
  { cls := 6, slots := #[.null, .int 0, .int 0, .int 1, .null, .null], vm := .none },
  { cls := 6, slots := #[.null, .int 0, .int 0, .int 4, .null, .null], vm := .none },
  { cls := 6, slots := #[.null, .int 0, .int 0, .int 13, .null, .null], vm := .none },
  { cls := 6, slots := #[.null, .int 0, .int 0, .int 14, .null, .null], vm := .none },
  { cls := 6, slots := #[.null, .int 0, .int 0, .int 5, .null, .null], vm := .none },
  { cls := 6, slots := #[.null, .int 0, .int 0, .int 8, .null, .null], vm := .none },
  { cls := 6, slots := #[.null, .int 0, .int 0, .int 3, .null, .null], vm := .none },
  { cls := 6, slots := #[.null, .int 0, .int 0, .int 12, .null, .null], vm := .none },
  { cls := 6, slots := #[.null, .int 0, .int 0, .int 11, .null, .null], vm := .none },
  { cls := 6, slots := #[.null, .int 0, .int 0, .int 9, .null, .null], vm := .none },
  { cls := 6, slots := #[.null, .int 0, .int 0, .int 2, .null, .null], vm := .none },
  { cls := 6, slots := #[.null, .int 0, .int 0, .int 10, .null, .null], vm := .none },
  { cls := 6, slots := #[.null, .int 0, .int 0, .int 6, .null, .null], vm := .none },
  { cls := 6, slots := #[.null, .int 0, .int 0, .int 7, .null, .null], vm := .none }]
def classes : Array Class := #[k0, k1, k2, k3, k4, k5, k6, k7, k8, k9, k10, k11, k12]
def interned : List (Array UInt16 × Addr) := []
def slotsUsed : Nat := 116
def theMethod : MethodId := ⟨1, 2⟩
def args0 : Array Value := #[.int 3]
def aboutOver (below : List Frame) : State where
  vm := { classes := classes, interned := interned.toArray }
  heap := heap
  slotsUsed := slotsUsed
  threads := #[{ frames := .invoking theMethod args0 :: below }]
def below0 : List Frame := [.native { method := ⟨0, 0⟩, args := #[] }]
def about1 : State := aboutOver below0
def p0 : Program := .bare "" "" ""
def e0 : Env := launch0.env 0 0 0
theorem w_frames : about1.frames = Frame.invoking theMethod args0 :: below0 := rfl
set_option maxRecDepth 65536 in
theorem w_args : argsFit about1.vm theMethod args0 = true := by decide +kernel
set_option maxRecDepth 65536 in
theorem w_heap : heapFits about1 = true := by decide +kernel
set_option maxRecDepth 65536 in
theorem w_runnable : about1.curStatus? = some .runnable := by decide +kernel
set_option maxRecDepth 65536 in
theorem w_alone : about1.alone = true := by decide +kernel
set_option maxRecDepth 65536 in
theorem w_named : about1.methodNamed? x = some theMethod := by decide +kernel
set_option maxRecDepth 65536 in
theorem w_hears : about1.hears theMethod below0 = true := by decide +kernel
set_option maxRecDepth 65536 in
theorem w_ripe : about1.ripe theMethod args0 below0 = true := by decide +kernel
theorem w_running : about1.status = .running := rfl
set_option maxRecDepth 65536 in
theorem w_room : about1.hasRoom e0.platform room_1 = true :=
  launch0.hasRoom_least _ room_1 (by decide +kernel) (by decide +kernel) (by decide +kernel) (by decide +kernel) (by decide +kernel) (by decide +kernel)
theorem allAtoms_all (ts : List Jvm.Cond) (a : Array Jvm.Value) (st : Jvm.State) : (allAtoms ts).before a st = ts.all (fun c => c.before a st) := by
  induction ts with
  | nil => rfl
  | cons c t ih =>
    show (Jvm.Cond.and c (allAtoms t)).before a st = _
    rw [Jvm.Cond.before_and, ih, List.all_cons]
def words1 : List Jvm.Cond := Jvm.Cond.code x code maxLocals ret :: tables_1
/-- a 'code' word, met by the world's own term for the bytes: nothing is compared byte by byte -/
theorem code_word {y : MethodName} {bytes : ByteArray} {mx : Nat} {rt : Option FieldType} {a : Array Value} {s : State} {m : MethodId} {meth : Method} {c : Code} (h1 : s.methodNamed? y = some m) (h2 : s.vm.method? m = some meth) (h3 : meth.code = some c) (h4 : c.code = bytes)
    (h5 : (c.maxLocals == mx && c.exceptionTable.isEmpty && decide (c.maxStack ≤ mostOperands) && decide (meth.sig.returnType = rt) && !meth.locks && decide (parseMethodDescriptor y.desc = some meth.sig)) = true) : (Jvm.Cond.code y bytes mx rt).before a s = true := by
  simp only [Bool.and_eq_true, beq_iff_eq, Bool.not_eq_true', decide_eq_true_eq] at h5
  obtain ⟨⟨⟨⟨⟨g1, g2⟩, g3⟩, g4⟩, g5⟩, g6⟩ := h5
  simp [Cond.before, Cond.holds, Cond.value, h1, h2, h3, h4, g1, g2, g3, g4, g5, g6]
def isCode : Jvm.Cond → Bool
  | .code _ _ _ _ => true
  | _ => false
theorem all_split {L : List Jvm.Cond} {P : Jvm.Cond → Bool} (h1 : L.all (fun c => isCode c || P c) = true) (h2 : ∀ c ∈ L.filter isCode, P c = true) : L.all P = true := by
  refine List.all_eq_true.mpr fun c hc => ?_
  have h := List.all_eq_true.mp h1 c hc
  rcases Bool.eq_false_or_eq_true (isCode c) with hi | hi
  · exact h2 c (List.mem_filter.mpr ⟨hc, hi⟩)
  · simpa [hi] using h
set_option maxRecDepth 65536 in
theorem w_c0 : (Jvm.Cond.code x code maxLocals ret).before args0 about1 = true := code_word (m := ⟨1, 2⟩) (meth := k1m2) (c := k1c2) (by decide +kernel) rfl rfl rfl (by decide +kernel)
set_option maxRecDepth 65536 in
theorem w_c1 : (Jvm.Cond.code ({ cls := "com/example/lob/lob/codec/PacketType", name := "fromNumber", desc := "(I)Lcom/example/lob/lob/codec/PacketType;" } : Jvm.MethodName) prog_46_method_8_code (2 : Nat) (Option.some (Jvm.ClassFile.FieldType.object "com/example/lob/lob/codec/PacketType"))).before args0 about1 = true := code_word (m := ⟨6, 1⟩) (meth := k6m1) (c := k6c1) (by decide +kernel) rfl rfl rfl (by decide +kernel)
set_option maxRecDepth 65536 in
theorem w_c2 : (Jvm.Cond.code ({ cls := "com/example/lob/lob/codec/PacketTypeFromNumberPinLaw", name := "expected", desc := "(I)Lcom/example/lob/lob/codec/PacketType;" } : Jvm.MethodName) method_2_code (1 : Nat) (Option.some (Jvm.ClassFile.FieldType.object "com/example/lob/lob/codec/PacketType"))).before args0 about1 = true := code_word (m := ⟨1, 1⟩) (meth := k1m1) (c := k1c1) (by decide +kernel) rfl rfl rfl (by decide +kernel)
set_option maxRecDepth 65536 in
theorem w_c3 : (Jvm.Cond.code ({ cls := "com/example/lob/lob/codec/PacketType", name := "number", desc := "()I" } : Jvm.MethodName) prog_46_method_5_code (1 : Nat) (Option.some Jvm.ClassFile.FieldType.int)).before args0 about1 = true := code_word (m := ⟨6, 0⟩) (meth := k6m0) (c := k6c0) (by decide +kernel) rfl rfl rfl (by decide +kernel)
def codes1 : List Jvm.Cond := [Jvm.Cond.code x code maxLocals ret, Jvm.Cond.code ({ cls := "com/example/lob/lob/codec/PacketType", name := "fromNumber", desc := "(I)Lcom/example/lob/lob/codec/PacketType;" } : Jvm.MethodName) prog_46_method_8_code (2 : Nat) (Option.some (Jvm.ClassFile.FieldType.object "com/example/lob/lob/codec/PacketType")), Jvm.Cond.code ({ cls := "com/example/lob/lob/codec/PacketTypeFromNumberPinLaw", name := "expected", desc := "(I)Lcom/example/lob/lob/codec/PacketType;" } : Jvm.MethodName) method_2_code (1 : Nat) (Option.some (Jvm.ClassFile.FieldType.object "com/example/lob/lob/codec/PacketType")), Jvm.Cond.code ({ cls := "com/example/lob/lob/codec/PacketType", name := "number", desc := "()I" } : Jvm.MethodName) prog_46_method_5_code (1 : Nat) (Option.some Jvm.ClassFile.FieldType.int)]
set_option maxRecDepth 65536 in
theorem codes_eq : words1.filter isCode = codes1 := rfl
theorem w_codes : ∀ c ∈ words1.filter isCode, c.before args0 about1 = true := by
  rw [codes_eq]
  intro c hc
  simp only [codes1, List.mem_cons, List.not_mem_nil, or_false] at hc
  rcases hc with rfl | rfl | rfl | rfl
  · exact w_c0
  · exact w_c1
  · exact w_c2
  · exact w_c3
set_option maxRecDepth 65536 in
theorem w_t1 : (words1.take 24).all (fun c => isCode c || c.before args0 about1) = true := by decide +kernel
set_option maxRecDepth 65536 in
theorem w_t2 : (words1.drop 24).all (fun c => isCode c || c.before args0 about1) = true := by decide +kernel
theorem w_tables : (allAtoms (Jvm.Cond.code x code maxLocals ret :: tables_1)).before args0 about1 = true := by
  rw [allAtoms_all]
  show words1.all (fun c => c.before args0 about1) = true
  refine all_split ?_ w_codes
  rw [← List.take_append_drop 24 words1, List.all_append, w_t1, w_t2]
  rfl
set_option maxRecDepth 65536 in
theorem w_case : (Jvm.Cond.and given_1 narrow_1).before args0 about1 = true := by decide +kernel
theorem w_applies : (headSpec (Jvm.Cond.code x code maxLocals ret :: tables_1) room_1).applies x e0.platform about1 = true :=
  (Spec.applies_iff w_frames).mpr ⟨w_running, w_runnable, w_alone, w_named, w_hears, w_ripe, w_room, w_tables⟩
theorem atStart : AtStart classFile x code maxLocals ret World_1 tables_1 room_1 Calls_1 rest_1 Pre_1 launch0 p0 e0 about1 theMethod args0 below0 :=
  ⟨lists_1, trivial, launch0.admits_env _ _ _, launch0.least_env, fairChoices_fair.cas, fairChoices_fair.clock, w_frames, w_args, w_heap, w_applies, trivial, trivial, w_case⟩
end start1
theorem witness_1 : WitnessClaimed_1 := ⟨start1.p0, start1.e0, start1.about1, start1.theMethod, start1.args0, start1.below0, start1.atStart⟩
end Jvm.Pilot.@@N@@
