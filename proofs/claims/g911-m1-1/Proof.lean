import JvmDerived
import JvmDerived.Pilot.@@N@@Statement
import JvmDerived.Pilot.@@N@@Code
set_option linter.unusedVariables false
set_option linter.unusedSimpArgs false
namespace Jvm.RoadKit
open Sem ClassFile Op Lib Jvm.Stand Jvm.Free Jvm.LawKit
section New
variable {p : Program} {l : Launch} {e : Env} {R : Room} {s : State} {m : MethodId} {args : Array Value} {below : List Frame} {meth : Method} {c : Code} {T : State} {locs : List Loc} {cells slots : Nat}
theorem retI (X : Stand p l e R s m args below meth c T locs cells slots) (hx : p.tables.exec = Jvm.exec) {pc : Nat} {Ls : Array Slot} {z : Int32} {rest : List Value} (hret : meth.sig.returnType = some .int) (hd : decode c.code pc = .ok (.ireturn, 1)) {fs : List Frame}
    (hl : ∀ (f : JFrame) (acts : List Action), f.method = m → f.locked = none → f.entered = [] → (doReturn e (T.setTop f) acts (some (.int z))).1 = T.setFrames fs) : Steps p.tables e below (T.setTop (mkF m pc Ls (.int z :: rest))) (T.setFrames fs) := by
  have hm' : T.vm.method? m = some meth := X.method'
  have hn : narrow .int (.int z) = .int z := rfl
  show Steps p.tables e below (T.setTop { method := m, pc := pc, locals := Ls, stack := _ :: rest, locked := none }) _
  jvm_step X.here [X.here.top, hx, hd, hm', hret, hn]
  first | (intro acts; rw [hl _ acts rfl rfl rfl]) | rw [hl _ _ rfl rfl rfl]
  exact Steps.refl _
end New
end Jvm.RoadKit
namespace Jvm.Pilot.@@N@@
open Jvm Jvm.ClassFile Sem Op Lib Jvm.Free Jvm.Stand Jvm.LawKit Jvm.RoadKit Bundle Jvm.Pilot.@@N@@.Jvm.D
theorem own_nm {a b : Addr} {l : List Addr} (h : a ≠ b) (r : a ∉ l) : a ∉ b :: l := fun q => (List.mem_cons.mp q).elim h r
theorem own_n0 {a : Addr} : a ∉ ([] : List Addr) := fun q => nomatch q
theorem own_nst {Z : State} {h : Heap} {a : Addr} {C : String} (F : Exa Z h a C) : ∃ c : Cell, h[a]? = some c ∧ c.vm.isStatics = false := by obtain ⟨c, k, h1, -, -, h4, -⟩ := F; exact ⟨c, h1, h4⟩
theorem own_nstV {Z : State} {h : Heap} {a : Addr} {k : ClassId} {ty : FieldType} {z : Int32} {vs : List Value} {dv : Value} (F : Arv Z h a k ty z vs dv) : ∃ c : Cell, h[a]? = some c ∧ c.vm.isStatics = false := by
  obtain ⟨c, A, -⟩ := F
  refine ⟨c, A.1, ?_⟩
  have q := A.2.1.1
  cases e : c.vm <;> first | rfl | exact absurd e (q _)
theorem own_q0 {h : Heap} : ∀ x ∈ ([] : List Addr), ∃ c : Cell, h[x]? = some c ∧ c.vm.isStatics = false := fun _ q => nomatch q
theorem own_qc {h : Heap} {a : Addr} {l : List Addr} (p : ∃ c : Cell, h[a]? = some c ∧ c.vm.isStatics = false) (r : ∀ x ∈ l, ∃ c : Cell, h[x]? = some c ∧ c.vm.isStatics = false) : ∀ x ∈ a :: l, ∃ c : Cell, h[x]? = some c ∧ c.vm.isStatics = false := fun x q => (List.mem_cons.mp q).elim (fun e => e ▸ p) (r x)
theorem own_sta_keep {Z : State} {h h' : Heap} {ws : List Addr} {C n d : String} {v : Value} (F : Sta Z h C n d v) (K : Keep h h' ws) (q : ∀ x ∈ ws, ∃ c : Cell, h[x]? = some c ∧ c.vm.isStatics = false) : Sta Z h' C n d v := by
  obtain ⟨cf, i, k, f, st, cell, h1, h2, h3, h4, h5, h6, h7⟩ := F
  refine ⟨cf, i, k, f, st, cell, h1, h2, h3, h4, K.2.1 _ _ h5 fun z => ?_, h6, h7⟩
  obtain ⟨c, g1, g2⟩ := q _ z
  cases h5.symm.trans g1; rw [h6] at g2; cases g2
theorem own_eqI {a b : Term} {args : Array Value} {first s : State} {o : Option Outcome} {idx : List Nat} {k : Int32} (h : (Jvm.Cond.eq a b).value args first o s idx = some true) (hb : b.eval args first o idx s = some (.int k)) : a.eval args first o idx s = some (.int k) := by
  obtain ⟨x, y, ha, hb', K, K'⟩ := cmp_v (Or.inl h)
  cases hb.symm.trans hb'
  obtain ⟨z, rfl⟩ := K'
  simp [Cond.value, ha, hb] at h
  rw [ha, h]
theorem own_eqR {a b : Term} {args : Array Value} {first s : State} {o : Option Outcome} {idx : List Nat} {k : Addr} (h : (Jvm.Cond.eq a b).value args first o s idx = some true) (hb : b.eval args first o idx s = some (.ref k)) : a.eval args first o idx s = some (.ref k) := by
  obtain ⟨x, y, ha, hb', K, K'⟩ := cmp_v (Or.inl h)
  cases hb.symm.trans hb'
  have q := gotT (eq_R ha hb K'.2 rfl) h
  rw [ha, q]
theorem own_toInt_of_toNat (x : Int64) : x.toInt = if x.toUInt64.toNat < 2^63 then (x.toUInt64.toNat : Int) else (x.toUInt64.toNat : Int) - 2^64 := by
  have h : x.toInt = x.toBitVec.toInt := rfl
  have h2 : x.toUInt64.toNat = x.toBitVec.toNat := rfl
  rw [h, h2, BitVec.toInt_eq_toNat_cond]
  split <;> split <;> omega
theorem own_sh (w : Int64) : ((w + 128).toUInt64 >>> ((8 : Int32) &&& 0x3f).toInt64.toUInt64).toInt64 = 0 ↔ (-128 ≤ w.toInt ∧ w.toInt ≤ 127) := by
  have hk : ((8 : Int32) &&& 0x3f).toInt64.toUInt64 = 8 := by decide
  rw [hk]
  have h1 : ((w + 128).toUInt64 >>> 8).toInt64 = 0 ↔ ((w + 128).toUInt64 >>> 8).toNat = 0 := by
    constructor
    · intro h
      have : (((w + 128).toUInt64 >>> 8).toInt64).toUInt64 = 0 := by rw [h]; rfl
      rw [UInt64.toUInt64_toInt64] at this
      rw [this]; rfl
    · intro h
      have : (w + 128).toUInt64 >>> 8 = 0 := UInt64.toNat_inj.mp h
      rw [this]; rfl
  rw [h1, UInt64.toNat_shiftRight, Int64.toUInt64_add, UInt64.toNat_add, own_toInt_of_toNat w, Nat.shiftRight_eq_div_pow]
  have hw := w.toUInt64.toNat_lt
  have e8 : (8 : UInt64).toNat % 64 = 8 := by decide
  have e128 : (128 : Int64).toUInt64.toNat = 128 := by decide
  rw [e8, e128]
  generalize w.toUInt64.toNat = n at *
  split <;> omega
def F2 (q1 : Int64) : Int64 := (if (lcmpW q1 (-128 : Int64)) < (0 : Int32) then (24 : Int64) else (if (0 : Int32) < (lcmpW q1 (127 : Int64)) then (24 : Int64) else (0 : Int64)))
theorem d2_0 : decode prog_46_method_4_code 0 = .ok (.lload_n 0, 1) := by decide +kernel
theorem d2_1 : decode prog_46_method_4_code 1 = .ok (.ldc2_w 36, 3) := by decide +kernel
theorem d2_4 : decode prog_46_method_4_code 4 = .ok (.lcmp, 1) := by decide +kernel
theorem d2_5 : decode prog_46_method_4_code 5 = .ok (.ifCond .lt 15, 3) := by decide +kernel
theorem d2_8 : decode prog_46_method_4_code 8 = .ok (.lload_n 0, 1) := by decide +kernel
theorem d2_9 : decode prog_46_method_4_code 9 = .ok (.ldc2_w 38, 3) := by decide +kernel
theorem d2_12 : decode prog_46_method_4_code 12 = .ok (.lcmp, 1) := by decide +kernel
theorem d2_13 : decode prog_46_method_4_code 13 = .ok (.ifCond .gt 7, 3) := by decide +kernel
theorem d2_16 : decode prog_46_method_4_code 16 = .ok (.lconst 0, 1) := by decide +kernel
theorem d2_17 : decode prog_46_method_4_code 17 = .ok (.goto 6, 3) := by decide +kernel
theorem d2_23 : decode prog_46_method_4_code 23 = .ok (.lreturn, 1) := by decide +kernel
theorem pn_2 : plainName "com/example/wirecall/wirecall/serialization/ValueSizes" = true := by first | (simp [plainName, overriddenIn]; done) | decide +kernel
theorem ef_2 (m : MethodId) (x0 : Int64) : entryFrame m #[(.long x0)] 2 = mkF m 0 #[.val (.long x0), .second] [] := by first | (simp [entryFrame, mkF, argsToLocals, Value.category]; done) | rfl
theorem d2_20 : decode prog_46_method_4_code 20 = .ok (.ldc2_w 40, 3) := by decide +kernel
def Q_rm2 (Z : State) (q1 : Int64) (h0 : Heap) (n0 : Nat) (v : Option Value) (h : Heap) (L : List Loc) : Prop := v = some (.long (F2 q1)) ∧ Fr n0 L ∧ h = h0
set_option maxRecDepth 65536 in
set_option maxHeartbeats 40000000 in
theorem rm2_ff (l : Launch) (Z : State) (a0 : Array Value) (hw : ∀ d ∈ tables_1, d.before a0 Z = true) (ws : List Jvm.Cond) (q1 : Int64) (h0 : Heap) (n0 : Nat) (Z0 : n0 ≤ h0.size) (hc5 : ¬ ((lcmpW q1 (-128 : Int64)) < (0 : Int32))) (hc13 : ¬ ((0 : Int32) < (lcmpW q1 (127 : Int64)))) :
    MetFree l (⟨"com/example/wirecall/wirecall/serialization/ValueSizes", "boxed", "(J)J"⟩ : MethodName) (head1 (Jvm.Cond.code (⟨"com/example/wirecall/wirecall/serialization/ValueSizes", "boxed", "(J)J"⟩ : MethodName) prog_46_method_4_code 2 (some .long) :: ws) ({ frames := 0, cells := 0, slots := 0, locals := 0 } : Room)) (fun a U => a = #[(.long q1)] ∧ Z.Warmed39 U.vm ∧ U.heap = h0) (fun _ _ _ _ _ => True) (fun _ U o U' => ∃ v L, o = .returned v ∧ Q_rm2 Z q1 h0 n0 v U'.heap L ∧ FrameEnd U o U' L ({ frames := 0, cells := 0, slots := 0, locals := 0 } : Room).cells ({ frames := 0, cells := 0, slots := 0, locals := 0 } : Room).slots) := by
  refine MetFree.of_bodySF (plainFor_of_name pn_2) hisR ?_
  intro p e s m args below meth c s₁ Bd hml0 hP hK
  obtain ⟨rfl, hZ, hh⟩ := hP
  have hx := Bd.exec
  have hby := Bd.bytes
  have hml : c.maxLocals = 2 := hml0
  have hown : s.vm.findClass "com/example/wirecall/wirecall/serialization/ValueSizes" = some m.cls := findClass_of_methodNamed Bd.named
  have hnm := (name_of_methodNamed Bd.named Bd.method).1
  have X0 : Stand p l e ({ frames := 0, cells := 0, slots := 0, locals := 0 } : Room) s m #[(.long q1)] below meth c s₁ [] 0 0 := Stand.of_body Bd
  have e0 : s₁.heap = h0 := by rw [← hh, Bd.state]; rfl
  have N0 := Fr.nil n0
  have pre0 : ∀ t, Steps p.tables e below (s₁.setTop (mkF m 0 #[.val (.long q1), .second] [])) t → Steps p.tables e below (s₁.setTop (entryFrame m #[(.long q1)] 2)) t := fun t k => castTop (ef_2 m q1) k
  obtain ⟨fs, hr, hrun, hended, hW, hsame⟩ := X0.leave (v := some (.long (0 : Int64))) (fun h => by rw [Bd.returns] at h; cases h)
  refine ⟨_, _, pre0 _ ?_, hrun, hended, _, _, rfl, ?_, ⟨_, rfl⟩, hW, hsame.mono (by decide) (by decide)⟩
  · show Steps p.tables e below (s₁.setTop (mkF m 0 #[.val (.long q1), .second] [])) _
    refine XS.lloadN X0.here hx rfl (hb hby d2_0) rfl ?_
    show Steps p.tables e below (s₁.setTop (mkF m 1 #[.val (.long q1), .second] [(.long q1)])) _
    refine X0.ldc2Long hx hown (mvT hZ (hw _ (List.mem_of_getElem? (i := 10) rfl))) (g := (mkF m 1 #[.val (.long q1), .second] [(.long q1)])) rfl (hb hby d2_1) _ ?_
    show Steps p.tables e below (s₁.setTop (mkF m 4 #[.val (.long q1), .second] [(.long (-128 : Int64)), (.long q1)])) _
    refine XS.lcmp X0.here hx rfl (hb hby d2_4) rfl ?_
    show Steps p.tables e below (s₁.setTop (mkF m 5 #[.val (.long q1), .second] [(.int (lcmpW q1 (-128 : Int64)))])) _
    refine XS.ifNo X0.here hx rfl (hb hby d2_5) rfl ((if0 _ _).trans (flt hc5).1) ?_
    show Steps p.tables e below (s₁.setTop (mkF m 8 #[.val (.long q1), .second] [])) _
    refine XS.lloadN X0.here hx rfl (hb hby d2_8) rfl ?_
    show Steps p.tables e below (s₁.setTop (mkF m 9 #[.val (.long q1), .second] [(.long q1)])) _
    refine X0.ldc2Long hx hown (mvT hZ (hw _ (List.mem_of_getElem? (i := 11) rfl))) (g := (mkF m 9 #[.val (.long q1), .second] [(.long q1)])) rfl (hb hby d2_9) _ ?_
    show Steps p.tables e below (s₁.setTop (mkF m 12 #[.val (.long q1), .second] [(.long (127 : Int64)), (.long q1)])) _
    refine XS.lcmp X0.here hx rfl (hb hby d2_12) rfl ?_
    show Steps p.tables e below (s₁.setTop (mkF m 13 #[.val (.long q1), .second] [(.int (lcmpW q1 (127 : Int64)))])) _
    refine XS.ifNo X0.here hx rfl (hb hby d2_13) rfl ((if0 _ _).trans (flt hc13).2.2.1) ?_
    show Steps p.tables e below (s₁.setTop (mkF m 16 #[.val (.long q1), .second] [])) _
    refine XS.lconst X0.here hx rfl (hb hby d2_16) ?_
    show Steps p.tables e below (s₁.setTop (mkF m 17 #[.val (.long q1), .second] [(.long (0 : Int64))])) _
    refine XS.goto X0.here hx rfl (pc0 := 17) (pc' := 23) rfl (hb hby d2_17) (by decide) (by decide) ?_
    show Steps p.tables e below (s₁.setTop (mkF m 23 #[.val (.long q1), .second] [(.long (0 : Int64))])) _
    jvm_step X0.here [X0.here.top, hx, (hb hby d2_23), X0.method', Bd.returns, narrow]
    first | (intro acts; rw [hr _ acts rfl rfl rfl]) | rw [hr _ _ rfl rfl rfl]
    exact Steps.refl _
  · show Q_rm2 Z q1 h0 n0 _ s₁.heap _
    exact ⟨by rw [F2, if_neg hc5, if_neg hc13], N0, e0⟩
set_option maxRecDepth 65536 in
set_option maxHeartbeats 40000000 in
theorem rm2_ft (l : Launch) (Z : State) (a0 : Array Value) (hw : ∀ d ∈ tables_1, d.before a0 Z = true) (ws : List Jvm.Cond) (q1 : Int64) (h0 : Heap) (n0 : Nat) (Z0 : n0 ≤ h0.size) (hc5 : ¬ ((lcmpW q1 (-128 : Int64)) < (0 : Int32))) (hc13 : (0 : Int32) < (lcmpW q1 (127 : Int64))) :
    MetFree l (⟨"com/example/wirecall/wirecall/serialization/ValueSizes", "boxed", "(J)J"⟩ : MethodName) (head1 (Jvm.Cond.code (⟨"com/example/wirecall/wirecall/serialization/ValueSizes", "boxed", "(J)J"⟩ : MethodName) prog_46_method_4_code 2 (some .long) :: ws) ({ frames := 0, cells := 0, slots := 0, locals := 0 } : Room)) (fun a U => a = #[(.long q1)] ∧ Z.Warmed39 U.vm ∧ U.heap = h0) (fun _ _ _ _ _ => True) (fun _ U o U' => ∃ v L, o = .returned v ∧ Q_rm2 Z q1 h0 n0 v U'.heap L ∧ FrameEnd U o U' L ({ frames := 0, cells := 0, slots := 0, locals := 0 } : Room).cells ({ frames := 0, cells := 0, slots := 0, locals := 0 } : Room).slots) := by
  refine MetFree.of_bodySF (plainFor_of_name pn_2) hisR ?_
  intro p e s m args below meth c s₁ Bd hml0 hP hK
  obtain ⟨rfl, hZ, hh⟩ := hP
  have hx := Bd.exec
  have hby := Bd.bytes
  have hml : c.maxLocals = 2 := hml0
  have hown : s.vm.findClass "com/example/wirecall/wirecall/serialization/ValueSizes" = some m.cls := findClass_of_methodNamed Bd.named
  have hnm := (name_of_methodNamed Bd.named Bd.method).1
  have X0 : Stand p l e ({ frames := 0, cells := 0, slots := 0, locals := 0 } : Room) s m #[(.long q1)] below meth c s₁ [] 0 0 := Stand.of_body Bd
  have e0 : s₁.heap = h0 := by rw [← hh, Bd.state]; rfl
  have N0 := Fr.nil n0
  have pre0 : ∀ t, Steps p.tables e below (s₁.setTop (mkF m 0 #[.val (.long q1), .second] [])) t → Steps p.tables e below (s₁.setTop (entryFrame m #[(.long q1)] 2)) t := fun t k => castTop (ef_2 m q1) k
  obtain ⟨fs, hr, hrun, hended, hW, hsame⟩ := X0.leave (v := some (.long (24 : Int64))) (fun h => by rw [Bd.returns] at h; cases h)
  refine ⟨_, _, pre0 _ ?_, hrun, hended, _, _, rfl, ?_, ⟨_, rfl⟩, hW, hsame.mono (by decide) (by decide)⟩
  · show Steps p.tables e below (s₁.setTop (mkF m 0 #[.val (.long q1), .second] [])) _
    refine XS.lloadN X0.here hx rfl (hb hby d2_0) rfl ?_
    show Steps p.tables e below (s₁.setTop (mkF m 1 #[.val (.long q1), .second] [(.long q1)])) _
    refine X0.ldc2Long hx hown (mvT hZ (hw _ (List.mem_of_getElem? (i := 10) rfl))) (g := (mkF m 1 #[.val (.long q1), .second] [(.long q1)])) rfl (hb hby d2_1) _ ?_
    show Steps p.tables e below (s₁.setTop (mkF m 4 #[.val (.long q1), .second] [(.long (-128 : Int64)), (.long q1)])) _
    refine XS.lcmp X0.here hx rfl (hb hby d2_4) rfl ?_
    show Steps p.tables e below (s₁.setTop (mkF m 5 #[.val (.long q1), .second] [(.int (lcmpW q1 (-128 : Int64)))])) _
    refine XS.ifNo X0.here hx rfl (hb hby d2_5) rfl ((if0 _ _).trans (flt hc5).1) ?_
    show Steps p.tables e below (s₁.setTop (mkF m 8 #[.val (.long q1), .second] [])) _
    refine XS.lloadN X0.here hx rfl (hb hby d2_8) rfl ?_
    show Steps p.tables e below (s₁.setTop (mkF m 9 #[.val (.long q1), .second] [(.long q1)])) _
    refine X0.ldc2Long hx hown (mvT hZ (hw _ (List.mem_of_getElem? (i := 11) rfl))) (g := (mkF m 9 #[.val (.long q1), .second] [(.long q1)])) rfl (hb hby d2_9) _ ?_
    show Steps p.tables e below (s₁.setTop (mkF m 12 #[.val (.long q1), .second] [(.long (127 : Int64)), (.long q1)])) _
    refine XS.lcmp X0.here hx rfl (hb hby d2_12) rfl ?_
    show Steps p.tables e below (s₁.setTop (mkF m 13 #[.val (.long q1), .second] [(.int (lcmpW q1 (127 : Int64)))])) _
    refine XS.ifYes X0.here hx rfl (pc0 := 13) (pc' := 20) rfl (hb hby d2_13) rfl ((if0 _ _).trans (tlt hc13).2.2.1) (by decide) (by decide) ?_
    show Steps p.tables e below (s₁.setTop (mkF m 20 #[.val (.long q1), .second] [])) _
    refine X0.ldc2Long hx hown (mvT hZ (hw _ (List.mem_of_getElem? (i := 13) rfl))) (g := (mkF m 20 #[.val (.long q1), .second] [])) rfl (hb hby d2_20) _ ?_
    show Steps p.tables e below (s₁.setTop (mkF m 23 #[.val (.long q1), .second] [(.long (24 : Int64))])) _
    jvm_step X0.here [X0.here.top, hx, (hb hby d2_23), X0.method', Bd.returns, narrow]
    first | (intro acts; rw [hr _ acts rfl rfl rfl]) | rw [hr _ _ rfl rfl rfl]
    exact Steps.refl _
  · show Q_rm2 Z q1 h0 n0 _ s₁.heap _
    exact ⟨by rw [F2, if_neg hc5, if_pos hc13], N0, e0⟩
set_option maxRecDepth 65536 in
set_option maxHeartbeats 40000000 in
theorem rm2_t (l : Launch) (Z : State) (a0 : Array Value) (hw : ∀ d ∈ tables_1, d.before a0 Z = true) (ws : List Jvm.Cond) (q1 : Int64) (h0 : Heap) (n0 : Nat) (Z0 : n0 ≤ h0.size) (hc5 : (lcmpW q1 (-128 : Int64)) < (0 : Int32)) :
    MetFree l (⟨"com/example/wirecall/wirecall/serialization/ValueSizes", "boxed", "(J)J"⟩ : MethodName) (head1 (Jvm.Cond.code (⟨"com/example/wirecall/wirecall/serialization/ValueSizes", "boxed", "(J)J"⟩ : MethodName) prog_46_method_4_code 2 (some .long) :: ws) ({ frames := 0, cells := 0, slots := 0, locals := 0 } : Room)) (fun a U => a = #[(.long q1)] ∧ Z.Warmed39 U.vm ∧ U.heap = h0) (fun _ _ _ _ _ => True) (fun _ U o U' => ∃ v L, o = .returned v ∧ Q_rm2 Z q1 h0 n0 v U'.heap L ∧ FrameEnd U o U' L ({ frames := 0, cells := 0, slots := 0, locals := 0 } : Room).cells ({ frames := 0, cells := 0, slots := 0, locals := 0 } : Room).slots) := by
  refine MetFree.of_bodySF (plainFor_of_name pn_2) hisR ?_
  intro p e s m args below meth c s₁ Bd hml0 hP hK
  obtain ⟨rfl, hZ, hh⟩ := hP
  have hx := Bd.exec
  have hby := Bd.bytes
  have hml : c.maxLocals = 2 := hml0
  have hown : s.vm.findClass "com/example/wirecall/wirecall/serialization/ValueSizes" = some m.cls := findClass_of_methodNamed Bd.named
  have hnm := (name_of_methodNamed Bd.named Bd.method).1
  have X0 : Stand p l e ({ frames := 0, cells := 0, slots := 0, locals := 0 } : Room) s m #[(.long q1)] below meth c s₁ [] 0 0 := Stand.of_body Bd
  have e0 : s₁.heap = h0 := by rw [← hh, Bd.state]; rfl
  have N0 := Fr.nil n0
  have pre0 : ∀ t, Steps p.tables e below (s₁.setTop (mkF m 0 #[.val (.long q1), .second] [])) t → Steps p.tables e below (s₁.setTop (entryFrame m #[(.long q1)] 2)) t := fun t k => castTop (ef_2 m q1) k
  obtain ⟨fs, hr, hrun, hended, hW, hsame⟩ := X0.leave (v := some (.long (24 : Int64))) (fun h => by rw [Bd.returns] at h; cases h)
  refine ⟨_, _, pre0 _ ?_, hrun, hended, _, _, rfl, ?_, ⟨_, rfl⟩, hW, hsame.mono (by decide) (by decide)⟩
  · show Steps p.tables e below (s₁.setTop (mkF m 0 #[.val (.long q1), .second] [])) _
    refine XS.lloadN X0.here hx rfl (hb hby d2_0) rfl ?_
    show Steps p.tables e below (s₁.setTop (mkF m 1 #[.val (.long q1), .second] [(.long q1)])) _
    refine X0.ldc2Long hx hown (mvT hZ (hw _ (List.mem_of_getElem? (i := 10) rfl))) (g := (mkF m 1 #[.val (.long q1), .second] [(.long q1)])) rfl (hb hby d2_1) _ ?_
    show Steps p.tables e below (s₁.setTop (mkF m 4 #[.val (.long q1), .second] [(.long (-128 : Int64)), (.long q1)])) _
    refine XS.lcmp X0.here hx rfl (hb hby d2_4) rfl ?_
    show Steps p.tables e below (s₁.setTop (mkF m 5 #[.val (.long q1), .second] [(.int (lcmpW q1 (-128 : Int64)))])) _
    refine XS.ifYes X0.here hx rfl (pc0 := 5) (pc' := 20) rfl (hb hby d2_5) rfl ((if0 _ _).trans (tlt hc5).1) (by decide) (by decide) ?_
    show Steps p.tables e below (s₁.setTop (mkF m 20 #[.val (.long q1), .second] [])) _
    refine X0.ldc2Long hx hown (mvT hZ (hw _ (List.mem_of_getElem? (i := 13) rfl))) (g := (mkF m 20 #[.val (.long q1), .second] [])) rfl (hb hby d2_20) _ ?_
    show Steps p.tables e below (s₁.setTop (mkF m 23 #[.val (.long q1), .second] [(.long (24 : Int64))])) _
    jvm_step X0.here [X0.here.top, hx, (hb hby d2_23), X0.method', Bd.returns, narrow]
    first | (intro acts; rw [hr _ acts rfl rfl rfl]) | rw [hr _ _ rfl rfl rfl]
    exact Steps.refl _
  · show Q_rm2 Z q1 h0 n0 _ s₁.heap _
    exact ⟨by rw [F2, if_pos hc5], N0, e0⟩
set_option maxHeartbeats 4000000 in
theorem rm2 (l : Launch) (Z : State) (a0 : Array Value) (hw : ∀ d ∈ tables_1, d.before a0 Z = true) (ws : List Jvm.Cond) (q1 : Int64) (h0 : Heap) (n0 : Nat) (Z0 : n0 ≤ h0.size) :
    MetFree l (⟨"com/example/wirecall/wirecall/serialization/ValueSizes", "boxed", "(J)J"⟩ : MethodName) (head1 (Jvm.Cond.code (⟨"com/example/wirecall/wirecall/serialization/ValueSizes", "boxed", "(J)J"⟩ : MethodName) prog_46_method_4_code 2 (some .long) :: ws) ({ frames := 0, cells := 0, slots := 0, locals := 0 } : Room)) (fun a U => a = #[(.long q1)] ∧ Z.Warmed39 U.vm ∧ U.heap = h0) (fun _ _ _ _ _ => True) (fun _ U o U' => ∃ v L, o = .returned v ∧ Q_rm2 Z q1 h0 n0 v U'.heap L ∧ FrameEnd U o U' L ({ frames := 0, cells := 0, slots := 0, locals := 0 } : Room).cells ({ frames := 0, cells := 0, slots := 0, locals := 0 } : Room).slots) := by
  by_cases hc5 : (lcmpW q1 (-128 : Int64)) < (0 : Int32)
  · skip
    exact rm2_t l Z a0 hw ws q1 h0 n0 Z0 hc5
  · skip
    by_cases hc13 : (0 : Int32) < (lcmpW q1 (127 : Int64))
    · skip
      exact rm2_ft l Z a0 hw ws q1 h0 n0 Z0 hc5 hc13
    · skip
      exact rm2_ff l Z a0 hw ws q1 h0 n0 Z0 hc5 hc13
theorem own_F2 (w : Int64) : F2 w = if (-128 ≤ w.toInt ∧ w.toInt ≤ 127) then 0 else 24 := by
  unfold F2
  have e1 : (-128 : Int64).toInt = -128 := by decide
  have e2 : (127 : Int64).toInt = 127 := by decide
  simp only [lw_lt, lw_gt, Int64.lt_iff_toInt_lt, e1, e2]
  split
  · rw [if_neg (by omega)]
  · split
    · rw [if_neg (by omega)]
    · rw [if_pos (by omega)]
def F1 (q1 : Int64) (p2 : Int32) : Int64 := (if (p2 &&& (7 : Int32)) = (1 : Int32) then (-129 : Int64) else (if (p2 &&& (7 : Int32)) = (2 : Int32) then (-128 : Int64) else (if (p2 &&& (7 : Int32)) = (3 : Int32) then (127 : Int64) else (if (p2 &&& (7 : Int32)) = (4 : Int32) then (128 : Int64) else (if (p2 &&& (7 : Int32)) = (5 : Int32) then (-9223372036854775808 : Int64) else (if (p2 &&& (7 : Int32)) = (6 : Int32) then (9223372036854775807 : Int64) else (if (p2 &&& (7 : Int32)) = (7 : Int32) then ((q1 &&& (511 : Int64)) - (256 : Int64)) else q1)))))))
theorem d1_0 : decode method_2_code 0 = .ok (.iload_n 2, 1) := by decide +kernel
theorem d1_1 : decode method_2_code 1 = .ok (.bipush 7, 2) := by decide +kernel
theorem d1_3 : decode method_2_code 3 = .ok (.iand, 1) := by decide +kernel
theorem d1_4 : decode method_2_code 4 = .ok (.istore_n 3, 1) := by decide +kernel
theorem d1_5 : decode method_2_code 5 = .ok (.iload_n 3, 1) := by decide +kernel
theorem d1_6 : decode method_2_code 6 = .ok (.iconst 1, 1) := by decide +kernel
theorem d1_7 : decode method_2_code 7 = .ok (.if_icmp .ne 7, 3) := by decide +kernel
theorem d1_10 : decode method_2_code 10 = .ok (.ldc2_w 7, 3) := by decide +kernel
theorem d1_13 : decode method_2_code 13 = .ok (.lreturn, 1) := by decide +kernel
theorem pn_1 : plainName "com/example/wirecall/wirecall/serialization/ValueSizesBoxedPinLaw" = true := by first | (simp [plainName, overriddenIn]; done) | decide +kernel
theorem ef_1 (m : MethodId) (x0 : Int64) (x1 : Int32) : entryFrame m #[(.long x0), (.int x1)] 4 = mkF m 0 #[.val (.long x0), .second, .val (.int x1), .unset] [] := by first | (simp [entryFrame, mkF, argsToLocals, Value.category]; done) | rfl
theorem d1_14 : decode method_2_code 14 = .ok (.iload_n 3, 1) := by decide +kernel
theorem d1_15 : decode method_2_code 15 = .ok (.iconst 2, 1) := by decide +kernel
theorem d1_16 : decode method_2_code 16 = .ok (.if_icmp .ne 7, 3) := by decide +kernel
theorem d1_19 : decode method_2_code 19 = .ok (.ldc2_w 9, 3) := by decide +kernel
theorem d1_22 : decode method_2_code 22 = .ok (.lreturn, 1) := by decide +kernel
theorem d1_23 : decode method_2_code 23 = .ok (.iload_n 3, 1) := by decide +kernel
theorem d1_24 : decode method_2_code 24 = .ok (.iconst 3, 1) := by decide +kernel
theorem d1_25 : decode method_2_code 25 = .ok (.if_icmp .ne 7, 3) := by decide +kernel
theorem d1_28 : decode method_2_code 28 = .ok (.ldc2_w 11, 3) := by decide +kernel
theorem d1_31 : decode method_2_code 31 = .ok (.lreturn, 1) := by decide +kernel
theorem d1_32 : decode method_2_code 32 = .ok (.iload_n 3, 1) := by decide +kernel
theorem d1_33 : decode method_2_code 33 = .ok (.iconst 4, 1) := by decide +kernel
theorem d1_34 : decode method_2_code 34 = .ok (.if_icmp .ne 7, 3) := by decide +kernel
theorem d1_37 : decode method_2_code 37 = .ok (.ldc2_w 13, 3) := by decide +kernel
theorem d1_40 : decode method_2_code 40 = .ok (.lreturn, 1) := by decide +kernel
theorem d1_41 : decode method_2_code 41 = .ok (.iload_n 3, 1) := by decide +kernel
theorem d1_42 : decode method_2_code 42 = .ok (.iconst 5, 1) := by decide +kernel
theorem d1_43 : decode method_2_code 43 = .ok (.if_icmp .ne 7, 3) := by decide +kernel
theorem d1_46 : decode method_2_code 46 = .ok (.ldc2_w 17, 3) := by decide +kernel
theorem d1_49 : decode method_2_code 49 = .ok (.lreturn, 1) := by decide +kernel
theorem d1_50 : decode method_2_code 50 = .ok (.iload_n 3, 1) := by decide +kernel
theorem d1_51 : decode method_2_code 51 = .ok (.bipush 6, 2) := by decide +kernel
theorem d1_53 : decode method_2_code 53 = .ok (.if_icmp .ne 7, 3) := by decide +kernel
theorem d1_56 : decode method_2_code 56 = .ok (.ldc2_w 19, 3) := by decide +kernel
theorem d1_59 : decode method_2_code 59 = .ok (.lreturn, 1) := by decide +kernel
theorem d1_60 : decode method_2_code 60 = .ok (.iload_n 3, 1) := by decide +kernel
theorem d1_61 : decode method_2_code 61 = .ok (.bipush 7, 2) := by decide +kernel
theorem d1_63 : decode method_2_code 63 = .ok (.if_icmp .ne 13, 3) := by decide +kernel
theorem d1_66 : decode method_2_code 66 = .ok (.lload_n 0, 1) := by decide +kernel
theorem d1_67 : decode method_2_code 67 = .ok (.ldc2_w 21, 3) := by decide +kernel
theorem d1_70 : decode method_2_code 70 = .ok (.land, 1) := by decide +kernel
theorem d1_71 : decode method_2_code 71 = .ok (.ldc2_w 23, 3) := by decide +kernel
theorem d1_74 : decode method_2_code 74 = .ok (.lsub, 1) := by decide +kernel
theorem d1_75 : decode method_2_code 75 = .ok (.lreturn, 1) := by decide +kernel
theorem d1_76 : decode method_2_code 76 = .ok (.lload_n 0, 1) := by decide +kernel
theorem d1_77 : decode method_2_code 77 = .ok (.lreturn, 1) := by decide +kernel
def Q_rm1 (Z : State) (q1 : Int64) (p2 : Int32) (h0 : Heap) (n0 : Nat) (v : Option Value) (h : Heap) (L : List Loc) : Prop := v = some (.long (F1 q1 p2)) ∧ Fr n0 L ∧ h = h0
set_option maxRecDepth 65536 in
set_option maxHeartbeats 40000000 in
theorem rm1_f (l : Launch) (Z : State) (a0 : Array Value) (hw : ∀ d ∈ tables_1, d.before a0 Z = true) (ws : List Jvm.Cond) (q1 : Int64) (p2 : Int32) (h0 : Heap) (n0 : Nat) (Z0 : n0 ≤ h0.size) (hc7 : (p2 &&& (7 : Int32)) = (1 : Int32)) :
    MetFree l (⟨"com/example/wirecall/wirecall/serialization/ValueSizesBoxedPinLaw", "pick", "(JI)J"⟩ : MethodName) (head1 (Jvm.Cond.code (⟨"com/example/wirecall/wirecall/serialization/ValueSizesBoxedPinLaw", "pick", "(JI)J"⟩ : MethodName) method_2_code 4 (some .long) :: ws) ({ frames := 0, cells := 0, slots := 0, locals := 0 } : Room)) (fun a U => a = #[(.long q1), (.int p2)] ∧ Z.Warmed39 U.vm ∧ U.heap = h0) (fun _ _ _ _ _ => True) (fun _ U o U' => ∃ v L, o = .returned v ∧ Q_rm1 Z q1 p2 h0 n0 v U'.heap L ∧ FrameEnd U o U' L ({ frames := 0, cells := 0, slots := 0, locals := 0 } : Room).cells ({ frames := 0, cells := 0, slots := 0, locals := 0 } : Room).slots) := by
  refine MetFree.of_bodySF (plainFor_of_name pn_1) hisR ?_
  intro p e s m args below meth c s₁ Bd hml0 hP hK
  obtain ⟨rfl, hZ, hh⟩ := hP
  have hx := Bd.exec
  have hby := Bd.bytes
  have hml : c.maxLocals = 4 := hml0
  have hown : s.vm.findClass "com/example/wirecall/wirecall/serialization/ValueSizesBoxedPinLaw" = some m.cls := findClass_of_methodNamed Bd.named
  have hnm := (name_of_methodNamed Bd.named Bd.method).1
  have X0 : Stand p l e ({ frames := 0, cells := 0, slots := 0, locals := 0 } : Room) s m #[(.long q1), (.int p2)] below meth c s₁ [] 0 0 := Stand.of_body Bd
  have e0 : s₁.heap = h0 := by rw [← hh, Bd.state]; rfl
  have N0 := Fr.nil n0
  have pre0 : ∀ t, Steps p.tables e below (s₁.setTop (mkF m 0 #[.val (.long q1), .second, .val (.int p2), .unset] [])) t → Steps p.tables e below (s₁.setTop (entryFrame m #[(.long q1), (.int p2)] 4)) t := fun t k => castTop (ef_1 m q1 p2) k
  obtain ⟨fs, hr, hrun, hended, hW, hsame⟩ := X0.leave (v := some (.long (-129 : Int64))) (fun h => by rw [Bd.returns] at h; cases h)
  refine ⟨_, _, pre0 _ ?_, hrun, hended, _, _, rfl, ?_, ⟨_, rfl⟩, hW, hsame.mono (by decide) (by decide)⟩
  · show Steps p.tables e below (s₁.setTop (mkF m 0 #[.val (.long q1), .second, .val (.int p2), .unset] [])) _
    refine XS.iloadN X0.here hx rfl (hb hby d1_0) rfl ?_
    show Steps p.tables e below (s₁.setTop (mkF m 1 #[.val (.long q1), .second, .val (.int p2), .unset] [(.int p2)])) _
    refine XS.bipush X0.here hx rfl (hb hby d1_1) ?_
    show Steps p.tables e below (s₁.setTop (mkF m 3 #[.val (.long q1), .second, .val (.int p2), .unset] [(.int (7 : Int32)), (.int p2)])) _
    refine XS.iand X0.here hx rfl (hb hby d1_3) rfl ?_
    show Steps p.tables e below (s₁.setTop (mkF m 4 #[.val (.long q1), .second, .val (.int p2), .unset] [(.int (p2 &&& (7 : Int32)))])) _
    refine XS.istoreN X0.here hx rfl (hb hby d1_4) rfl (l' := #[.val (.long q1), .second, .val (.int p2), .val (.int (p2 &&& (7 : Int32)))]) rfl ?_
    show Steps p.tables e below (s₁.setTop (mkF m 5 #[.val (.long q1), .second, .val (.int p2), .val (.int (p2 &&& (7 : Int32)))] [])) _
    refine XS.iloadN X0.here hx rfl (hb hby d1_5) rfl ?_
    show Steps p.tables e below (s₁.setTop (mkF m 6 #[.val (.long q1), .second, .val (.int p2), .val (.int (p2 &&& (7 : Int32)))] [(.int (p2 &&& (7 : Int32)))])) _
    refine XS.iconst X0.here hx rfl (hb hby d1_6) ?_
    show Steps p.tables e below (s₁.setTop (mkF m 7 #[.val (.long q1), .second, .val (.int p2), .val (.int (p2 &&& (7 : Int32)))] [(.int (1 : Int32)), (.int (p2 &&& (7 : Int32)))])) _
    refine XS.icmpNo X0.here hx rfl (hb hby d1_7) rfl (teq hc7).2 ?_
    show Steps p.tables e below (s₁.setTop (mkF m 10 #[.val (.long q1), .second, .val (.int p2), .val (.int (p2 &&& (7 : Int32)))] [])) _
    refine X0.ldc2Long hx hown (mvT hZ (hw _ (List.mem_of_getElem? (i := 18) rfl))) (g := (mkF m 10 #[.val (.long q1), .second, .val (.int p2), .val (.int (p2 &&& (7 : Int32)))] [])) rfl (hb hby d1_10) _ ?_
    show Steps p.tables e below (s₁.setTop (mkF m 13 #[.val (.long q1), .second, .val (.int p2), .val (.int (p2 &&& (7 : Int32)))] [(.long (-129 : Int64))])) _
    jvm_step X0.here [X0.here.top, hx, (hb hby d1_13), X0.method', Bd.returns, narrow]
    first | (intro acts; rw [hr _ acts rfl rfl rfl]) | rw [hr _ _ rfl rfl rfl]
    exact Steps.refl _
  · show Q_rm1 Z q1 p2 h0 n0 _ s₁.heap _
    exact ⟨by rw [F1, if_pos hc7], N0, e0⟩
set_option maxRecDepth 65536 in
set_option maxHeartbeats 40000000 in
theorem rm1_tf (l : Launch) (Z : State) (a0 : Array Value) (hw : ∀ d ∈ tables_1, d.before a0 Z = true) (ws : List Jvm.Cond) (q1 : Int64) (p2 : Int32) (h0 : Heap) (n0 : Nat) (Z0 : n0 ≤ h0.size) (hc7 : ¬ ((p2 &&& (7 : Int32)) = (1 : Int32))) (hc16 : (p2 &&& (7 : Int32)) = (2 : Int32)) :
    MetFree l (⟨"com/example/wirecall/wirecall/serialization/ValueSizesBoxedPinLaw", "pick", "(JI)J"⟩ : MethodName) (head1 (Jvm.Cond.code (⟨"com/example/wirecall/wirecall/serialization/ValueSizesBoxedPinLaw", "pick", "(JI)J"⟩ : MethodName) method_2_code 4 (some .long) :: ws) ({ frames := 0, cells := 0, slots := 0, locals := 0 } : Room)) (fun a U => a = #[(.long q1), (.int p2)] ∧ Z.Warmed39 U.vm ∧ U.heap = h0) (fun _ _ _ _ _ => True) (fun _ U o U' => ∃ v L, o = .returned v ∧ Q_rm1 Z q1 p2 h0 n0 v U'.heap L ∧ FrameEnd U o U' L ({ frames := 0, cells := 0, slots := 0, locals := 0 } : Room).cells ({ frames := 0, cells := 0, slots := 0, locals := 0 } : Room).slots) := by
  refine MetFree.of_bodySF (plainFor_of_name pn_1) hisR ?_
  intro p e s m args below meth c s₁ Bd hml0 hP hK
  obtain ⟨rfl, hZ, hh⟩ := hP
  have hx := Bd.exec
  have hby := Bd.bytes
  have hml : c.maxLocals = 4 := hml0
  have hown : s.vm.findClass "com/example/wirecall/wirecall/serialization/ValueSizesBoxedPinLaw" = some m.cls := findClass_of_methodNamed Bd.named
  have hnm := (name_of_methodNamed Bd.named Bd.method).1
  have X0 : Stand p l e ({ frames := 0, cells := 0, slots := 0, locals := 0 } : Room) s m #[(.long q1), (.int p2)] below meth c s₁ [] 0 0 := Stand.of_body Bd
  have e0 : s₁.heap = h0 := by rw [← hh, Bd.state]; rfl
  have N0 := Fr.nil n0
  have pre0 : ∀ t, Steps p.tables e below (s₁.setTop (mkF m 0 #[.val (.long q1), .second, .val (.int p2), .unset] [])) t → Steps p.tables e below (s₁.setTop (entryFrame m #[(.long q1), (.int p2)] 4)) t := fun t k => castTop (ef_1 m q1 p2) k
  obtain ⟨fs, hr, hrun, hended, hW, hsame⟩ := X0.leave (v := some (.long (-128 : Int64))) (fun h => by rw [Bd.returns] at h; cases h)
  refine ⟨_, _, pre0 _ ?_, hrun, hended, _, _, rfl, ?_, ⟨_, rfl⟩, hW, hsame.mono (by decide) (by decide)⟩
  · show Steps p.tables e below (s₁.setTop (mkF m 0 #[.val (.long q1), .second, .val (.int p2), .unset] [])) _
    refine XS.iloadN X0.here hx rfl (hb hby d1_0) rfl ?_
    show Steps p.tables e below (s₁.setTop (mkF m 1 #[.val (.long q1), .second, .val (.int p2), .unset] [(.int p2)])) _
    refine XS.bipush X0.here hx rfl (hb hby d1_1) ?_
    show Steps p.tables e below (s₁.setTop (mkF m 3 #[.val (.long q1), .second, .val (.int p2), .unset] [(.int (7 : Int32)), (.int p2)])) _
    refine XS.iand X0.here hx rfl (hb hby d1_3) rfl ?_
    show Steps p.tables e below (s₁.setTop (mkF m 4 #[.val (.long q1), .second, .val (.int p2), .unset] [(.int (p2 &&& (7 : Int32)))])) _
    refine XS.istoreN X0.here hx rfl (hb hby d1_4) rfl (l' := #[.val (.long q1), .second, .val (.int p2), .val (.int (p2 &&& (7 : Int32)))]) rfl ?_
    show Steps p.tables e below (s₁.setTop (mkF m 5 #[.val (.long q1), .second, .val (.int p2), .val (.int (p2 &&& (7 : Int32)))] [])) _
    refine XS.iloadN X0.here hx rfl (hb hby d1_5) rfl ?_
    show Steps p.tables e below (s₁.setTop (mkF m 6 #[.val (.long q1), .second, .val (.int p2), .val (.int (p2 &&& (7 : Int32)))] [(.int (p2 &&& (7 : Int32)))])) _
    refine XS.iconst X0.here hx rfl (hb hby d1_6) ?_
    show Steps p.tables e below (s₁.setTop (mkF m 7 #[.val (.long q1), .second, .val (.int p2), .val (.int (p2 &&& (7 : Int32)))] [(.int (1 : Int32)), (.int (p2 &&& (7 : Int32)))])) _
    refine XS.icmpYes X0.here hx rfl (pc0 := 7) (pc' := 14) rfl (hb hby d1_7) rfl (feq hc7).2 (by decide) (by decide) ?_
    show Steps p.tables e below (s₁.setTop (mkF m 14 #[.val (.long q1), .second, .val (.int p2), .val (.int (p2 &&& (7 : Int32)))] [])) _
    refine XS.iloadN X0.here hx rfl (hb hby d1_14) rfl ?_
    show Steps p.tables e below (s₁.setTop (mkF m 15 #[.val (.long q1), .second, .val (.int p2), .val (.int (p2 &&& (7 : Int32)))] [(.int (p2 &&& (7 : Int32)))])) _
    refine XS.iconst X0.here hx rfl (hb hby d1_15) ?_
    show Steps p.tables e below (s₁.setTop (mkF m 16 #[.val (.long q1), .second, .val (.int p2), .val (.int (p2 &&& (7 : Int32)))] [(.int (2 : Int32)), (.int (p2 &&& (7 : Int32)))])) _
    refine XS.icmpNo X0.here hx rfl (hb hby d1_16) rfl (teq hc16).2 ?_
    show Steps p.tables e below (s₁.setTop (mkF m 19 #[.val (.long q1), .second, .val (.int p2), .val (.int (p2 &&& (7 : Int32)))] [])) _
    refine X0.ldc2Long hx hown (mvT hZ (hw _ (List.mem_of_getElem? (i := 4) rfl))) (g := (mkF m 19 #[.val (.long q1), .second, .val (.int p2), .val (.int (p2 &&& (7 : Int32)))] [])) rfl (hb hby d1_19) _ ?_
    show Steps p.tables e below (s₁.setTop (mkF m 22 #[.val (.long q1), .second, .val (.int p2), .val (.int (p2 &&& (7 : Int32)))] [(.long (-128 : Int64))])) _
    jvm_step X0.here [X0.here.top, hx, (hb hby d1_22), X0.method', Bd.returns, narrow]
    first | (intro acts; rw [hr _ acts rfl rfl rfl]) | rw [hr _ _ rfl rfl rfl]
    exact Steps.refl _
  · show Q_rm1 Z q1 p2 h0 n0 _ s₁.heap _
    exact ⟨by rw [F1, if_neg hc7, if_pos hc16], N0, e0⟩
set_option maxRecDepth 65536 in
set_option maxHeartbeats 40000000 in
theorem rm1_ttf (l : Launch) (Z : State) (a0 : Array Value) (hw : ∀ d ∈ tables_1, d.before a0 Z = true) (ws : List Jvm.Cond) (q1 : Int64) (p2 : Int32) (h0 : Heap) (n0 : Nat) (Z0 : n0 ≤ h0.size) (hc7 : ¬ ((p2 &&& (7 : Int32)) = (1 : Int32))) (hc16 : ¬ ((p2 &&& (7 : Int32)) = (2 : Int32))) (hc25 : (p2 &&& (7 : Int32)) = (3 : Int32)) :
    MetFree l (⟨"com/example/wirecall/wirecall/serialization/ValueSizesBoxedPinLaw", "pick", "(JI)J"⟩ : MethodName) (head1 (Jvm.Cond.code (⟨"com/example/wirecall/wirecall/serialization/ValueSizesBoxedPinLaw", "pick", "(JI)J"⟩ : MethodName) method_2_code 4 (some .long) :: ws) ({ frames := 0, cells := 0, slots := 0, locals := 0 } : Room)) (fun a U => a = #[(.long q1), (.int p2)] ∧ Z.Warmed39 U.vm ∧ U.heap = h0) (fun _ _ _ _ _ => True) (fun _ U o U' => ∃ v L, o = .returned v ∧ Q_rm1 Z q1 p2 h0 n0 v U'.heap L ∧ FrameEnd U o U' L ({ frames := 0, cells := 0, slots := 0, locals := 0 } : Room).cells ({ frames := 0, cells := 0, slots := 0, locals := 0 } : Room).slots) := by
  refine MetFree.of_bodySF (plainFor_of_name pn_1) hisR ?_
  intro p e s m args below meth c s₁ Bd hml0 hP hK
  obtain ⟨rfl, hZ, hh⟩ := hP
  have hx := Bd.exec
  have hby := Bd.bytes
  have hml : c.maxLocals = 4 := hml0
  have hown : s.vm.findClass "com/example/wirecall/wirecall/serialization/ValueSizesBoxedPinLaw" = some m.cls := findClass_of_methodNamed Bd.named
  have hnm := (name_of_methodNamed Bd.named Bd.method).1
  have X0 : Stand p l e ({ frames := 0, cells := 0, slots := 0, locals := 0 } : Room) s m #[(.long q1), (.int p2)] below meth c s₁ [] 0 0 := Stand.of_body Bd
  have e0 : s₁.heap = h0 := by rw [← hh, Bd.state]; rfl
  have N0 := Fr.nil n0
  have pre0 : ∀ t, Steps p.tables e below (s₁.setTop (mkF m 0 #[.val (.long q1), .second, .val (.int p2), .unset] [])) t → Steps p.tables e below (s₁.setTop (entryFrame m #[(.long q1), (.int p2)] 4)) t := fun t k => castTop (ef_1 m q1 p2) k
  obtain ⟨fs, hr, hrun, hended, hW, hsame⟩ := X0.leave (v := some (.long (127 : Int64))) (fun h => by rw [Bd.returns] at h; cases h)
  refine ⟨_, _, pre0 _ ?_, hrun, hended, _, _, rfl, ?_, ⟨_, rfl⟩, hW, hsame.mono (by decide) (by decide)⟩
  · show Steps p.tables e below (s₁.setTop (mkF m 0 #[.val (.long q1), .second, .val (.int p2), .unset] [])) _
    refine XS.iloadN X0.here hx rfl (hb hby d1_0) rfl ?_
    show Steps p.tables e below (s₁.setTop (mkF m 1 #[.val (.long q1), .second, .val (.int p2), .unset] [(.int p2)])) _
    refine XS.bipush X0.here hx rfl (hb hby d1_1) ?_
    show Steps p.tables e below (s₁.setTop (mkF m 3 #[.val (.long q1), .second, .val (.int p2), .unset] [(.int (7 : Int32)), (.int p2)])) _
    refine XS.iand X0.here hx rfl (hb hby d1_3) rfl ?_
    show Steps p.tables e below (s₁.setTop (mkF m 4 #[.val (.long q1), .second, .val (.int p2), .unset] [(.int (p2 &&& (7 : Int32)))])) _
    refine XS.istoreN X0.here hx rfl (hb hby d1_4) rfl (l' := #[.val (.long q1), .second, .val (.int p2), .val (.int (p2 &&& (7 : Int32)))]) rfl ?_
    show Steps p.tables e below (s₁.setTop (mkF m 5 #[.val (.long q1), .second, .val (.int p2), .val (.int (p2 &&& (7 : Int32)))] [])) _
    refine XS.iloadN X0.here hx rfl (hb hby d1_5) rfl ?_
    show Steps p.tables e below (s₁.setTop (mkF m 6 #[.val (.long q1), .second, .val (.int p2), .val (.int (p2 &&& (7 : Int32)))] [(.int (p2 &&& (7 : Int32)))])) _
    refine XS.iconst X0.here hx rfl (hb hby d1_6) ?_
    show Steps p.tables e below (s₁.setTop (mkF m 7 #[.val (.long q1), .second, .val (.int p2), .val (.int (p2 &&& (7 : Int32)))] [(.int (1 : Int32)), (.int (p2 &&& (7 : Int32)))])) _
    refine XS.icmpYes X0.here hx rfl (pc0 := 7) (pc' := 14) rfl (hb hby d1_7) rfl (feq hc7).2 (by decide) (by decide) ?_
    show Steps p.tables e below (s₁.setTop (mkF m 14 #[.val (.long q1), .second, .val (.int p2), .val (.int (p2 &&& (7 : Int32)))] [])) _
    refine XS.iloadN X0.here hx rfl (hb hby d1_14) rfl ?_
    show Steps p.tables e below (s₁.setTop (mkF m 15 #[.val (.long q1), .second, .val (.int p2), .val (.int (p2 &&& (7 : Int32)))] [(.int (p2 &&& (7 : Int32)))])) _
    refine XS.iconst X0.here hx rfl (hb hby d1_15) ?_
    show Steps p.tables e below (s₁.setTop (mkF m 16 #[.val (.long q1), .second, .val (.int p2), .val (.int (p2 &&& (7 : Int32)))] [(.int (2 : Int32)), (.int (p2 &&& (7 : Int32)))])) _
    refine XS.icmpYes X0.here hx rfl (pc0 := 16) (pc' := 23) rfl (hb hby d1_16) rfl (feq hc16).2 (by decide) (by decide) ?_
    show Steps p.tables e below (s₁.setTop (mkF m 23 #[.val (.long q1), .second, .val (.int p2), .val (.int (p2 &&& (7 : Int32)))] [])) _
    refine XS.iloadN X0.here hx rfl (hb hby d1_23) rfl ?_
    show Steps p.tables e below (s₁.setTop (mkF m 24 #[.val (.long q1), .second, .val (.int p2), .val (.int (p2 &&& (7 : Int32)))] [(.int (p2 &&& (7 : Int32)))])) _
    refine XS.iconst X0.here hx rfl (hb hby d1_24) ?_
    show Steps p.tables e below (s₁.setTop (mkF m 25 #[.val (.long q1), .second, .val (.int p2), .val (.int (p2 &&& (7 : Int32)))] [(.int (3 : Int32)), (.int (p2 &&& (7 : Int32)))])) _
    refine XS.icmpNo X0.here hx rfl (hb hby d1_25) rfl (teq hc25).2 ?_
    show Steps p.tables e below (s₁.setTop (mkF m 28 #[.val (.long q1), .second, .val (.int p2), .val (.int (p2 &&& (7 : Int32)))] [])) _
    refine X0.ldc2Long hx hown (mvT hZ (hw _ (List.mem_of_getElem? (i := 17) rfl))) (g := (mkF m 28 #[.val (.long q1), .second, .val (.int p2), .val (.int (p2 &&& (7 : Int32)))] [])) rfl (hb hby d1_28) _ ?_
    show Steps p.tables e below (s₁.setTop (mkF m 31 #[.val (.long q1), .second, .val (.int p2), .val (.int (p2 &&& (7 : Int32)))] [(.long (127 : Int64))])) _
    jvm_step X0.here [X0.here.top, hx, (hb hby d1_31), X0.method', Bd.returns, narrow]
    first | (intro acts; rw [hr _ acts rfl rfl rfl]) | rw [hr _ _ rfl rfl rfl]
    exact Steps.refl _
  · show Q_rm1 Z q1 p2 h0 n0 _ s₁.heap _
    exact ⟨by rw [F1, if_neg hc7, if_neg hc16, if_pos hc25], N0, e0⟩
set_option maxRecDepth 65536 in
set_option maxHeartbeats 40000000 in
theorem rm1_tttf (l : Launch) (Z : State) (a0 : Array Value) (hw : ∀ d ∈ tables_1, d.before a0 Z = true) (ws : List Jvm.Cond) (q1 : Int64) (p2 : Int32) (h0 : Heap) (n0 : Nat) (Z0 : n0 ≤ h0.size) (hc7 : ¬ ((p2 &&& (7 : Int32)) = (1 : Int32))) (hc16 : ¬ ((p2 &&& (7 : Int32)) = (2 : Int32))) (hc25 : ¬ ((p2 &&& (7 : Int32)) = (3 : Int32))) (hc34 : (p2 &&& (7 : Int32)) = (4 : Int32)) :
    MetFree l (⟨"com/example/wirecall/wirecall/serialization/ValueSizesBoxedPinLaw", "pick", "(JI)J"⟩ : MethodName) (head1 (Jvm.Cond.code (⟨"com/example/wirecall/wirecall/serialization/ValueSizesBoxedPinLaw", "pick", "(JI)J"⟩ : MethodName) method_2_code 4 (some .long) :: ws) ({ frames := 0, cells := 0, slots := 0, locals := 0 } : Room)) (fun a U => a = #[(.long q1), (.int p2)] ∧ Z.Warmed39 U.vm ∧ U.heap = h0) (fun _ _ _ _ _ => True) (fun _ U o U' => ∃ v L, o = .returned v ∧ Q_rm1 Z q1 p2 h0 n0 v U'.heap L ∧ FrameEnd U o U' L ({ frames := 0, cells := 0, slots := 0, locals := 0 } : Room).cells ({ frames := 0, cells := 0, slots := 0, locals := 0 } : Room).slots) := by
  refine MetFree.of_bodySF (plainFor_of_name pn_1) hisR ?_
  intro p e s m args below meth c s₁ Bd hml0 hP hK
  obtain ⟨rfl, hZ, hh⟩ := hP
  have hx := Bd.exec
  have hby := Bd.bytes
  have hml : c.maxLocals = 4 := hml0
  have hown : s.vm.findClass "com/example/wirecall/wirecall/serialization/ValueSizesBoxedPinLaw" = some m.cls := findClass_of_methodNamed Bd.named
  have hnm := (name_of_methodNamed Bd.named Bd.method).1
  have X0 : Stand p l e ({ frames := 0, cells := 0, slots := 0, locals := 0 } : Room) s m #[(.long q1), (.int p2)] below meth c s₁ [] 0 0 := Stand.of_body Bd
  have e0 : s₁.heap = h0 := by rw [← hh, Bd.state]; rfl
  have N0 := Fr.nil n0
  have pre0 : ∀ t, Steps p.tables e below (s₁.setTop (mkF m 0 #[.val (.long q1), .second, .val (.int p2), .unset] [])) t → Steps p.tables e below (s₁.setTop (entryFrame m #[(.long q1), (.int p2)] 4)) t := fun t k => castTop (ef_1 m q1 p2) k
  obtain ⟨fs, hr, hrun, hended, hW, hsame⟩ := X0.leave (v := some (.long (128 : Int64))) (fun h => by rw [Bd.returns] at h; cases h)
  refine ⟨_, _, pre0 _ ?_, hrun, hended, _, _, rfl, ?_, ⟨_, rfl⟩, hW, hsame.mono (by decide) (by decide)⟩
  · show Steps p.tables e below (s₁.setTop (mkF m 0 #[.val (.long q1), .second, .val (.int p2), .unset] [])) _
    refine XS.iloadN X0.here hx rfl (hb hby d1_0) rfl ?_
    show Steps p.tables e below (s₁.setTop (mkF m 1 #[.val (.long q1), .second, .val (.int p2), .unset] [(.int p2)])) _
    refine XS.bipush X0.here hx rfl (hb hby d1_1) ?_
    show Steps p.tables e below (s₁.setTop (mkF m 3 #[.val (.long q1), .second, .val (.int p2), .unset] [(.int (7 : Int32)), (.int p2)])) _
    refine XS.iand X0.here hx rfl (hb hby d1_3) rfl ?_
    show Steps p.tables e below (s₁.setTop (mkF m 4 #[.val (.long q1), .second, .val (.int p2), .unset] [(.int (p2 &&& (7 : Int32)))])) _
    refine XS.istoreN X0.here hx rfl (hb hby d1_4) rfl (l' := #[.val (.long q1), .second, .val (.int p2), .val (.int (p2 &&& (7 : Int32)))]) rfl ?_
    show Steps p.tables e below (s₁.setTop (mkF m 5 #[.val (.long q1), .second, .val (.int p2), .val (.int (p2 &&& (7 : Int32)))] [])) _
    refine XS.iloadN X0.here hx rfl (hb hby d1_5) rfl ?_
    show Steps p.tables e below (s₁.setTop (mkF m 6 #[.val (.long q1), .second, .val (.int p2), .val (.int (p2 &&& (7 : Int32)))] [(.int (p2 &&& (7 : Int32)))])) _
    refine XS.iconst X0.here hx rfl (hb hby d1_6) ?_
    show Steps p.tables e below (s₁.setTop (mkF m 7 #[.val (.long q1), .second, .val (.int p2), .val (.int (p2 &&& (7 : Int32)))] [(.int (1 : Int32)), (.int (p2 &&& (7 : Int32)))])) _
    refine XS.icmpYes X0.here hx rfl (pc0 := 7) (pc' := 14) rfl (hb hby d1_7) rfl (feq hc7).2 (by decide) (by decide) ?_
    show Steps p.tables e below (s₁.setTop (mkF m 14 #[.val (.long q1), .second, .val (.int p2), .val (.int (p2 &&& (7 : Int32)))] [])) _
    refine XS.iloadN X0.here hx rfl (hb hby d1_14) rfl ?_
    show Steps p.tables e below (s₁.setTop (mkF m 15 #[.val (.long q1), .second, .val (.int p2), .val (.int (p2 &&& (7 : Int32)))] [(.int (p2 &&& (7 : Int32)))])) _
    refine XS.iconst X0.here hx rfl (hb hby d1_15) ?_
    show Steps p.tables e below (s₁.setTop (mkF m 16 #[.val (.long q1), .second, .val (.int p2), .val (.int (p2 &&& (7 : Int32)))] [(.int (2 : Int32)), (.int (p2 &&& (7 : Int32)))])) _
    refine XS.icmpYes X0.here hx rfl (pc0 := 16) (pc' := 23) rfl (hb hby d1_16) rfl (feq hc16).2 (by decide) (by decide) ?_
    show Steps p.tables e below (s₁.setTop (mkF m 23 #[.val (.long q1), .second, .val (.int p2), .val (.int (p2 &&& (7 : Int32)))] [])) _
    refine XS.iloadN X0.here hx rfl (hb hby d1_23) rfl ?_
    show Steps p.tables e below (s₁.setTop (mkF m 24 #[.val (.long q1), .second, .val (.int p2), .val (.int (p2 &&& (7 : Int32)))] [(.int (p2 &&& (7 : Int32)))])) _
    refine XS.iconst X0.here hx rfl (hb hby d1_24) ?_
    show Steps p.tables e below (s₁.setTop (mkF m 25 #[.val (.long q1), .second, .val (.int p2), .val (.int (p2 &&& (7 : Int32)))] [(.int (3 : Int32)), (.int (p2 &&& (7 : Int32)))])) _
    refine XS.icmpYes X0.here hx rfl (pc0 := 25) (pc' := 32) rfl (hb hby d1_25) rfl (feq hc25).2 (by decide) (by decide) ?_
    show Steps p.tables e below (s₁.setTop (mkF m 32 #[.val (.long q1), .second, .val (.int p2), .val (.int (p2 &&& (7 : Int32)))] [])) _
    refine XS.iloadN X0.here hx rfl (hb hby d1_32) rfl ?_
    show Steps p.tables e below (s₁.setTop (mkF m 33 #[.val (.long q1), .second, .val (.int p2), .val (.int (p2 &&& (7 : Int32)))] [(.int (p2 &&& (7 : Int32)))])) _
    refine XS.iconst X0.here hx rfl (hb hby d1_33) ?_
    show Steps p.tables e below (s₁.setTop (mkF m 34 #[.val (.long q1), .second, .val (.int p2), .val (.int (p2 &&& (7 : Int32)))] [(.int (4 : Int32)), (.int (p2 &&& (7 : Int32)))])) _
    refine XS.icmpNo X0.here hx rfl (hb hby d1_34) rfl (teq hc34).2 ?_
    show Steps p.tables e below (s₁.setTop (mkF m 37 #[.val (.long q1), .second, .val (.int p2), .val (.int (p2 &&& (7 : Int32)))] [])) _
    refine X0.ldc2Long hx hown (mvT hZ (hw _ (List.mem_of_getElem? (i := 5) rfl))) (g := (mkF m 37 #[.val (.long q1), .second, .val (.int p2), .val (.int (p2 &&& (7 : Int32)))] [])) rfl (hb hby d1_37) _ ?_
    show Steps p.tables e below (s₁.setTop (mkF m 40 #[.val (.long q1), .second, .val (.int p2), .val (.int (p2 &&& (7 : Int32)))] [(.long (128 : Int64))])) _
    jvm_step X0.here [X0.here.top, hx, (hb hby d1_40), X0.method', Bd.returns, narrow]
    first | (intro acts; rw [hr _ acts rfl rfl rfl]) | rw [hr _ _ rfl rfl rfl]
    exact Steps.refl _
  · show Q_rm1 Z q1 p2 h0 n0 _ s₁.heap _
    exact ⟨by rw [F1, if_neg hc7, if_neg hc16, if_neg hc25, if_pos hc34], N0, e0⟩
set_option maxRecDepth 65536 in
set_option maxHeartbeats 40000000 in
theorem rm1_ttttf (l : Launch) (Z : State) (a0 : Array Value) (hw : ∀ d ∈ tables_1, d.before a0 Z = true) (ws : List Jvm.Cond) (q1 : Int64) (p2 : Int32) (h0 : Heap) (n0 : Nat) (Z0 : n0 ≤ h0.size) (hc7 : ¬ ((p2 &&& (7 : Int32)) = (1 : Int32))) (hc16 : ¬ ((p2 &&& (7 : Int32)) = (2 : Int32))) (hc25 : ¬ ((p2 &&& (7 : Int32)) = (3 : Int32))) (hc34 : ¬ ((p2 &&& (7 : Int32)) = (4 : Int32))) (hc43 : (p2 &&& (7 : Int32)) = (5 : Int32)) :
    MetFree l (⟨"com/example/wirecall/wirecall/serialization/ValueSizesBoxedPinLaw", "pick", "(JI)J"⟩ : MethodName) (head1 (Jvm.Cond.code (⟨"com/example/wirecall/wirecall/serialization/ValueSizesBoxedPinLaw", "pick", "(JI)J"⟩ : MethodName) method_2_code 4 (some .long) :: ws) ({ frames := 0, cells := 0, slots := 0, locals := 0 } : Room)) (fun a U => a = #[(.long q1), (.int p2)] ∧ Z.Warmed39 U.vm ∧ U.heap = h0) (fun _ _ _ _ _ => True) (fun _ U o U' => ∃ v L, o = .returned v ∧ Q_rm1 Z q1 p2 h0 n0 v U'.heap L ∧ FrameEnd U o U' L ({ frames := 0, cells := 0, slots := 0, locals := 0 } : Room).cells ({ frames := 0, cells := 0, slots := 0, locals := 0 } : Room).slots) := by
  refine MetFree.of_bodySF (plainFor_of_name pn_1) hisR ?_
  intro p e s m args below meth c s₁ Bd hml0 hP hK
  obtain ⟨rfl, hZ, hh⟩ := hP
  have hx := Bd.exec
  have hby := Bd.bytes
  have hml : c.maxLocals = 4 := hml0
  have hown : s.vm.findClass "com/example/wirecall/wirecall/serialization/ValueSizesBoxedPinLaw" = some m.cls := findClass_of_methodNamed Bd.named
  have hnm := (name_of_methodNamed Bd.named Bd.method).1
  have X0 : Stand p l e ({ frames := 0, cells := 0, slots := 0, locals := 0 } : Room) s m #[(.long q1), (.int p2)] below meth c s₁ [] 0 0 := Stand.of_body Bd
  have e0 : s₁.heap = h0 := by rw [← hh, Bd.state]; rfl
  have N0 := Fr.nil n0
  have pre0 : ∀ t, Steps p.tables e below (s₁.setTop (mkF m 0 #[.val (.long q1), .second, .val (.int p2), .unset] [])) t → Steps p.tables e below (s₁.setTop (entryFrame m #[(.long q1), (.int p2)] 4)) t := fun t k => castTop (ef_1 m q1 p2) k
  obtain ⟨fs, hr, hrun, hended, hW, hsame⟩ := X0.leave (v := some (.long (-9223372036854775808 : Int64))) (fun h => by rw [Bd.returns] at h; cases h)
  refine ⟨_, _, pre0 _ ?_, hrun, hended, _, _, rfl, ?_, ⟨_, rfl⟩, hW, hsame.mono (by decide) (by decide)⟩
  · show Steps p.tables e below (s₁.setTop (mkF m 0 #[.val (.long q1), .second, .val (.int p2), .unset] [])) _
    refine XS.iloadN X0.here hx rfl (hb hby d1_0) rfl ?_
    show Steps p.tables e below (s₁.setTop (mkF m 1 #[.val (.long q1), .second, .val (.int p2), .unset] [(.int p2)])) _
    refine XS.bipush X0.here hx rfl (hb hby d1_1) ?_
    show Steps p.tables e below (s₁.setTop (mkF m 3 #[.val (.long q1), .second, .val (.int p2), .unset] [(.int (7 : Int32)), (.int p2)])) _
    refine XS.iand X0.here hx rfl (hb hby d1_3) rfl ?_
    show Steps p.tables e below (s₁.setTop (mkF m 4 #[.val (.long q1), .second, .val (.int p2), .unset] [(.int (p2 &&& (7 : Int32)))])) _
    refine XS.istoreN X0.here hx rfl (hb hby d1_4) rfl (l' := #[.val (.long q1), .second, .val (.int p2), .val (.int (p2 &&& (7 : Int32)))]) rfl ?_
    show Steps p.tables e below (s₁.setTop (mkF m 5 #[.val (.long q1), .second, .val (.int p2), .val (.int (p2 &&& (7 : Int32)))] [])) _
    refine XS.iloadN X0.here hx rfl (hb hby d1_5) rfl ?_
    show Steps p.tables e below (s₁.setTop (mkF m 6 #[.val (.long q1), .second, .val (.int p2), .val (.int (p2 &&& (7 : Int32)))] [(.int (p2 &&& (7 : Int32)))])) _
    refine XS.iconst X0.here hx rfl (hb hby d1_6) ?_
    show Steps p.tables e below (s₁.setTop (mkF m 7 #[.val (.long q1), .second, .val (.int p2), .val (.int (p2 &&& (7 : Int32)))] [(.int (1 : Int32)), (.int (p2 &&& (7 : Int32)))])) _
    refine XS.icmpYes X0.here hx rfl (pc0 := 7) (pc' := 14) rfl (hb hby d1_7) rfl (feq hc7).2 (by decide) (by decide) ?_
    show Steps p.tables e below (s₁.setTop (mkF m 14 #[.val (.long q1), .second, .val (.int p2), .val (.int (p2 &&& (7 : Int32)))] [])) _
    refine XS.iloadN X0.here hx rfl (hb hby d1_14) rfl ?_
    show Steps p.tables e below (s₁.setTop (mkF m 15 #[.val (.long q1), .second, .val (.int p2), .val (.int (p2 &&& (7 : Int32)))] [(.int (p2 &&& (7 : Int32)))])) _
    refine XS.iconst X0.here hx rfl (hb hby d1_15) ?_
    show Steps p.tables e below (s₁.setTop (mkF m 16 #[.val (.long q1), .second, .val (.int p2), .val (.int (p2 &&& (7 : Int32)))] [(.int (2 : Int32)), (.int (p2 &&& (7 : Int32)))])) _
    refine XS.icmpYes X0.here hx rfl (pc0 := 16) (pc' := 23) rfl (hb hby d1_16) rfl (feq hc16).2 (by decide) (by decide) ?_
    show Steps p.tables e below (s₁.setTop (mkF m 23 #[.val (.long q1), .second, .val (.int p2), .val (.int (p2 &&& (7 : Int32)))] [])) _
    refine XS.iloadN X0.here hx rfl (hb hby d1_23) rfl ?_
    show Steps p.tables e below (s₁.setTop (mkF m 24 #[.val (.long q1), .second, .val (.int p2), .val (.int (p2 &&& (7 : Int32)))] [(.int (p2 &&& (7 : Int32)))])) _
    refine XS.iconst X0.here hx rfl (hb hby d1_24) ?_
    show Steps p.tables e below (s₁.setTop (mkF m 25 #[.val (.long q1), .second, .val (.int p2), .val (.int (p2 &&& (7 : Int32)))] [(.int (3 : Int32)), (.int (p2 &&& (7 : Int32)))])) _
    refine XS.icmpYes X0.here hx rfl (pc0 := 25) (pc' := 32) rfl (hb hby d1_25) rfl (feq hc25).2 (by decide) (by decide) ?_
    show Steps p.tables e below (s₁.setTop (mkF m 32 #[.val (.long q1), .second, .val (.int p2), .val (.int (p2 &&& (7 : Int32)))] [])) _
    refine XS.iloadN X0.here hx rfl (hb hby d1_32) rfl ?_
    show Steps p.tables e below (s₁.setTop (mkF m 33 #[.val (.long q1), .second, .val (.int p2), .val (.int (p2 &&& (7 : Int32)))] [(.int (p2 &&& (7 : Int32)))])) _
    refine XS.iconst X0.here hx rfl (hb hby d1_33) ?_
    show Steps p.tables e below (s₁.setTop (mkF m 34 #[.val (.long q1), .second, .val (.int p2), .val (.int (p2 &&& (7 : Int32)))] [(.int (4 : Int32)), (.int (p2 &&& (7 : Int32)))])) _
    refine XS.icmpYes X0.here hx rfl (pc0 := 34) (pc' := 41) rfl (hb hby d1_34) rfl (feq hc34).2 (by decide) (by decide) ?_
    show Steps p.tables e below (s₁.setTop (mkF m 41 #[.val (.long q1), .second, .val (.int p2), .val (.int (p2 &&& (7 : Int32)))] [])) _
    refine XS.iloadN X0.here hx rfl (hb hby d1_41) rfl ?_
    show Steps p.tables e below (s₁.setTop (mkF m 42 #[.val (.long q1), .second, .val (.int p2), .val (.int (p2 &&& (7 : Int32)))] [(.int (p2 &&& (7 : Int32)))])) _
    refine XS.iconst X0.here hx rfl (hb hby d1_42) ?_
    show Steps p.tables e below (s₁.setTop (mkF m 43 #[.val (.long q1), .second, .val (.int p2), .val (.int (p2 &&& (7 : Int32)))] [(.int (5 : Int32)), (.int (p2 &&& (7 : Int32)))])) _
    refine XS.icmpNo X0.here hx rfl (hb hby d1_43) rfl (teq hc43).2 ?_
    show Steps p.tables e below (s₁.setTop (mkF m 46 #[.val (.long q1), .second, .val (.int p2), .val (.int (p2 &&& (7 : Int32)))] [])) _
    refine X0.ldc2Long hx hown (mvT hZ (hw _ (List.mem_of_getElem? (i := 19) rfl))) (g := (mkF m 46 #[.val (.long q1), .second, .val (.int p2), .val (.int (p2 &&& (7 : Int32)))] [])) rfl (hb hby d1_46) _ ?_
    show Steps p.tables e below (s₁.setTop (mkF m 49 #[.val (.long q1), .second, .val (.int p2), .val (.int (p2 &&& (7 : Int32)))] [(.long (-9223372036854775808 : Int64))])) _
    jvm_step X0.here [X0.here.top, hx, (hb hby d1_49), X0.method', Bd.returns, narrow]
    first | (intro acts; rw [hr _ acts rfl rfl rfl]) | rw [hr _ _ rfl rfl rfl]
    exact Steps.refl _
  · show Q_rm1 Z q1 p2 h0 n0 _ s₁.heap _
    exact ⟨by rw [F1, if_neg hc7, if_neg hc16, if_neg hc25, if_neg hc34, if_pos hc43], N0, e0⟩
set_option maxRecDepth 65536 in
set_option maxHeartbeats 40000000 in
theorem rm1_tttttf (l : Launch) (Z : State) (a0 : Array Value) (hw : ∀ d ∈ tables_1, d.before a0 Z = true) (ws : List Jvm.Cond) (q1 : Int64) (p2 : Int32) (h0 : Heap) (n0 : Nat) (Z0 : n0 ≤ h0.size) (hc7 : ¬ ((p2 &&& (7 : Int32)) = (1 : Int32))) (hc16 : ¬ ((p2 &&& (7 : Int32)) = (2 : Int32))) (hc25 : ¬ ((p2 &&& (7 : Int32)) = (3 : Int32))) (hc34 : ¬ ((p2 &&& (7 : Int32)) = (4 : Int32))) (hc43 : ¬ ((p2 &&& (7 : Int32)) = (5 : Int32))) (hc53 : (p2 &&& (7 : Int32)) = (6 : Int32)) :
    MetFree l (⟨"com/example/wirecall/wirecall/serialization/ValueSizesBoxedPinLaw", "pick", "(JI)J"⟩ : MethodName) (head1 (Jvm.Cond.code (⟨"com/example/wirecall/wirecall/serialization/ValueSizesBoxedPinLaw", "pick", "(JI)J"⟩ : MethodName) method_2_code 4 (some .long) :: ws) ({ frames := 0, cells := 0, slots := 0, locals := 0 } : Room)) (fun a U => a = #[(.long q1), (.int p2)] ∧ Z.Warmed39 U.vm ∧ U.heap = h0) (fun _ _ _ _ _ => True) (fun _ U o U' => ∃ v L, o = .returned v ∧ Q_rm1 Z q1 p2 h0 n0 v U'.heap L ∧ FrameEnd U o U' L ({ frames := 0, cells := 0, slots := 0, locals := 0 } : Room).cells ({ frames := 0, cells := 0, slots := 0, locals := 0 } : Room).slots) := by
  refine MetFree.of_bodySF (plainFor_of_name pn_1) hisR ?_
  intro p e s m args below meth c s₁ Bd hml0 hP hK
  obtain ⟨rfl, hZ, hh⟩ := hP
  have hx := Bd.exec
  have hby := Bd.bytes
  have hml : c.maxLocals = 4 := hml0
  have hown : s.vm.findClass "com/example/wirecall/wirecall/serialization/ValueSizesBoxedPinLaw" = some m.cls := findClass_of_methodNamed Bd.named
  have hnm := (name_of_methodNamed Bd.named Bd.method).1
  have X0 : Stand p l e ({ frames := 0, cells := 0, slots := 0, locals := 0 } : Room) s m #[(.long q1), (.int p2)] below meth c s₁ [] 0 0 := Stand.of_body Bd
  have e0 : s₁.heap = h0 := by rw [← hh, Bd.state]; rfl
  have N0 := Fr.nil n0
  have pre0 : ∀ t, Steps p.tables e below (s₁.setTop (mkF m 0 #[.val (.long q1), .second, .val (.int p2), .unset] [])) t → Steps p.tables e below (s₁.setTop (entryFrame m #[(.long q1), (.int p2)] 4)) t := fun t k => castTop (ef_1 m q1 p2) k
  obtain ⟨fs, hr, hrun, hended, hW, hsame⟩ := X0.leave (v := some (.long (9223372036854775807 : Int64))) (fun h => by rw [Bd.returns] at h; cases h)
  refine ⟨_, _, pre0 _ ?_, hrun, hended, _, _, rfl, ?_, ⟨_, rfl⟩, hW, hsame.mono (by decide) (by decide)⟩
  · show Steps p.tables e below (s₁.setTop (mkF m 0 #[.val (.long q1), .second, .val (.int p2), .unset] [])) _
    refine XS.iloadN X0.here hx rfl (hb hby d1_0) rfl ?_
    show Steps p.tables e below (s₁.setTop (mkF m 1 #[.val (.long q1), .second, .val (.int p2), .unset] [(.int p2)])) _
    refine XS.bipush X0.here hx rfl (hb hby d1_1) ?_
    show Steps p.tables e below (s₁.setTop (mkF m 3 #[.val (.long q1), .second, .val (.int p2), .unset] [(.int (7 : Int32)), (.int p2)])) _
    refine XS.iand X0.here hx rfl (hb hby d1_3) rfl ?_
    show Steps p.tables e below (s₁.setTop (mkF m 4 #[.val (.long q1), .second, .val (.int p2), .unset] [(.int (p2 &&& (7 : Int32)))])) _
    refine XS.istoreN X0.here hx rfl (hb hby d1_4) rfl (l' := #[.val (.long q1), .second, .val (.int p2), .val (.int (p2 &&& (7 : Int32)))]) rfl ?_
    show Steps p.tables e below (s₁.setTop (mkF m 5 #[.val (.long q1), .second, .val (.int p2), .val (.int (p2 &&& (7 : Int32)))] [])) _
    refine XS.iloadN X0.here hx rfl (hb hby d1_5) rfl ?_
    show Steps p.tables e below (s₁.setTop (mkF m 6 #[.val (.long q1), .second, .val (.int p2), .val (.int (p2 &&& (7 : Int32)))] [(.int (p2 &&& (7 : Int32)))])) _
    refine XS.iconst X0.here hx rfl (hb hby d1_6) ?_
    show Steps p.tables e below (s₁.setTop (mkF m 7 #[.val (.long q1), .second, .val (.int p2), .val (.int (p2 &&& (7 : Int32)))] [(.int (1 : Int32)), (.int (p2 &&& (7 : Int32)))])) _
    refine XS.icmpYes X0.here hx rfl (pc0 := 7) (pc' := 14) rfl (hb hby d1_7) rfl (feq hc7).2 (by decide) (by decide) ?_
    show Steps p.tables e below (s₁.setTop (mkF m 14 #[.val (.long q1), .second, .val (.int p2), .val (.int (p2 &&& (7 : Int32)))] [])) _
    refine XS.iloadN X0.here hx rfl (hb hby d1_14) rfl ?_
    show Steps p.tables e below (s₁.setTop (mkF m 15 #[.val (.long q1), .second, .val (.int p2), .val (.int (p2 &&& (7 : Int32)))] [(.int (p2 &&& (7 : Int32)))])) _
    refine XS.iconst X0.here hx rfl (hb hby d1_15) ?_
    show Steps p.tables e below (s₁.setTop (mkF m 16 #[.val (.long q1), .second, .val (.int p2), .val (.int (p2 &&& (7 : Int32)))] [(.int (2 : Int32)), (.int (p2 &&& (7 : Int32)))])) _
    refine XS.icmpYes X0.here hx rfl (pc0 := 16) (pc' := 23) rfl (hb hby d1_16) rfl (feq hc16).2 (by decide) (by decide) ?_
    show Steps p.tables e below (s₁.setTop (mkF m 23 #[.val (.long q1), .second, .val (.int p2), .val (.int (p2 &&& (7 : Int32)))] [])) _
    refine XS.iloadN X0.here hx rfl (hb hby d1_23) rfl ?_
    show Steps p.tables e below (s₁.setTop (mkF m 24 #[.val (.long q1), .second, .val (.int p2), .val (.int (p2 &&& (7 : Int32)))] [(.int (p2 &&& (7 : Int32)))])) _
    refine XS.iconst X0.here hx rfl (hb hby d1_24) ?_
    show Steps p.tables e below (s₁.setTop (mkF m 25 #[.val (.long q1), .second, .val (.int p2), .val (.int (p2 &&& (7 : Int32)))] [(.int (3 : Int32)), (.int (p2 &&& (7 : Int32)))])) _
    refine XS.icmpYes X0.here hx rfl (pc0 := 25) (pc' := 32) rfl (hb hby d1_25) rfl (feq hc25).2 (by decide) (by decide) ?_
    show Steps p.tables e below (s₁.setTop (mkF m 32 #[.val (.long q1), .second, .val (.int p2), .val (.int (p2 &&& (7 : Int32)))] [])) _
    refine XS.iloadN X0.here hx rfl (hb hby d1_32) rfl ?_
    show Steps p.tables e below (s₁.setTop (mkF m 33 #[.val (.long q1), .second, .val (.int p2), .val (.int (p2 &&& (7 : Int32)))] [(.int (p2 &&& (7 : Int32)))])) _
    refine XS.iconst X0.here hx rfl (hb hby d1_33) ?_
    show Steps p.tables e below (s₁.setTop (mkF m 34 #[.val (.long q1), .second, .val (.int p2), .val (.int (p2 &&& (7 : Int32)))] [(.int (4 : Int32)), (.int (p2 &&& (7 : Int32)))])) _
    refine XS.icmpYes X0.here hx rfl (pc0 := 34) (pc' := 41) rfl (hb hby d1_34) rfl (feq hc34).2 (by decide) (by decide) ?_
    show Steps p.tables e below (s₁.setTop (mkF m 41 #[.val (.long q1), .second, .val (.int p2), .val (.int (p2 &&& (7 : Int32)))] [])) _
    refine XS.iloadN X0.here hx rfl (hb hby d1_41) rfl ?_
    show Steps p.tables e below (s₁.setTop (mkF m 42 #[.val (.long q1), .second, .val (.int p2), .val (.int (p2 &&& (7 : Int32)))] [(.int (p2 &&& (7 : Int32)))])) _
    refine XS.iconst X0.here hx rfl (hb hby d1_42) ?_
    show Steps p.tables e below (s₁.setTop (mkF m 43 #[.val (.long q1), .second, .val (.int p2), .val (.int (p2 &&& (7 : Int32)))] [(.int (5 : Int32)), (.int (p2 &&& (7 : Int32)))])) _
    refine XS.icmpYes X0.here hx rfl (pc0 := 43) (pc' := 50) rfl (hb hby d1_43) rfl (feq hc43).2 (by decide) (by decide) ?_
    show Steps p.tables e below (s₁.setTop (mkF m 50 #[.val (.long q1), .second, .val (.int p2), .val (.int (p2 &&& (7 : Int32)))] [])) _
    refine XS.iloadN X0.here hx rfl (hb hby d1_50) rfl ?_
    show Steps p.tables e below (s₁.setTop (mkF m 51 #[.val (.long q1), .second, .val (.int p2), .val (.int (p2 &&& (7 : Int32)))] [(.int (p2 &&& (7 : Int32)))])) _
    refine XS.bipush X0.here hx rfl (hb hby d1_51) ?_
    show Steps p.tables e below (s₁.setTop (mkF m 53 #[.val (.long q1), .second, .val (.int p2), .val (.int (p2 &&& (7 : Int32)))] [(.int (6 : Int32)), (.int (p2 &&& (7 : Int32)))])) _
    refine XS.icmpNo X0.here hx rfl (hb hby d1_53) rfl (teq hc53).2 ?_
    show Steps p.tables e below (s₁.setTop (mkF m 56 #[.val (.long q1), .second, .val (.int p2), .val (.int (p2 &&& (7 : Int32)))] [])) _
    refine X0.ldc2Long hx hown (mvT hZ (hw _ (List.mem_of_getElem? (i := 16) rfl))) (g := (mkF m 56 #[.val (.long q1), .second, .val (.int p2), .val (.int (p2 &&& (7 : Int32)))] [])) rfl (hb hby d1_56) _ ?_
    show Steps p.tables e below (s₁.setTop (mkF m 59 #[.val (.long q1), .second, .val (.int p2), .val (.int (p2 &&& (7 : Int32)))] [(.long (9223372036854775807 : Int64))])) _
    jvm_step X0.here [X0.here.top, hx, (hb hby d1_59), X0.method', Bd.returns, narrow]
    first | (intro acts; rw [hr _ acts rfl rfl rfl]) | rw [hr _ _ rfl rfl rfl]
    exact Steps.refl _
  · show Q_rm1 Z q1 p2 h0 n0 _ s₁.heap _
    exact ⟨by rw [F1, if_neg hc7, if_neg hc16, if_neg hc25, if_neg hc34, if_neg hc43, if_pos hc53], N0, e0⟩
set_option maxRecDepth 65536 in
set_option maxHeartbeats 40000000 in
theorem rm1_ttttttf (l : Launch) (Z : State) (a0 : Array Value) (hw : ∀ d ∈ tables_1, d.before a0 Z = true) (ws : List Jvm.Cond) (q1 : Int64) (p2 : Int32) (h0 : Heap) (n0 : Nat) (Z0 : n0 ≤ h0.size) (hc7 : ¬ ((p2 &&& (7 : Int32)) = (1 : Int32))) (hc16 : ¬ ((p2 &&& (7 : Int32)) = (2 : Int32))) (hc25 : ¬ ((p2 &&& (7 : Int32)) = (3 : Int32))) (hc34 : ¬ ((p2 &&& (7 : Int32)) = (4 : Int32))) (hc43 : ¬ ((p2 &&& (7 : Int32)) = (5 : Int32))) (hc53 : ¬ ((p2 &&& (7 : Int32)) = (6 : Int32))) (hc63 : (p2 &&& (7 : Int32)) = (7 : Int32)) :
    MetFree l (⟨"com/example/wirecall/wirecall/serialization/ValueSizesBoxedPinLaw", "pick", "(JI)J"⟩ : MethodName) (head1 (Jvm.Cond.code (⟨"com/example/wirecall/wirecall/serialization/ValueSizesBoxedPinLaw", "pick", "(JI)J"⟩ : MethodName) method_2_code 4 (some .long) :: ws) ({ frames := 0, cells := 0, slots := 0, locals := 0 } : Room)) (fun a U => a = #[(.long q1), (.int p2)] ∧ Z.Warmed39 U.vm ∧ U.heap = h0) (fun _ _ _ _ _ => True) (fun _ U o U' => ∃ v L, o = .returned v ∧ Q_rm1 Z q1 p2 h0 n0 v U'.heap L ∧ FrameEnd U o U' L ({ frames := 0, cells := 0, slots := 0, locals := 0 } : Room).cells ({ frames := 0, cells := 0, slots := 0, locals := 0 } : Room).slots) := by
  refine MetFree.of_bodySF (plainFor_of_name pn_1) hisR ?_
  intro p e s m args below meth c s₁ Bd hml0 hP hK
  obtain ⟨rfl, hZ, hh⟩ := hP
  have hx := Bd.exec
  have hby := Bd.bytes
  have hml : c.maxLocals = 4 := hml0
  have hown : s.vm.findClass "com/example/wirecall/wirecall/serialization/ValueSizesBoxedPinLaw" = some m.cls := findClass_of_methodNamed Bd.named
  have hnm := (name_of_methodNamed Bd.named Bd.method).1
  have X0 : Stand p l e ({ frames := 0, cells := 0, slots := 0, locals := 0 } : Room) s m #[(.long q1), (.int p2)] below meth c s₁ [] 0 0 := Stand.of_body Bd
  have e0 : s₁.heap = h0 := by rw [← hh, Bd.state]; rfl
  have N0 := Fr.nil n0
  have pre0 : ∀ t, Steps p.tables e below (s₁.setTop (mkF m 0 #[.val (.long q1), .second, .val (.int p2), .unset] [])) t → Steps p.tables e below (s₁.setTop (entryFrame m #[(.long q1), (.int p2)] 4)) t := fun t k => castTop (ef_1 m q1 p2) k
  obtain ⟨fs, hr, hrun, hended, hW, hsame⟩ := X0.leave (v := some (.long ((q1 &&& (511 : Int64)) - (256 : Int64)))) (fun h => by rw [Bd.returns] at h; cases h)
  refine ⟨_, _, pre0 _ ?_, hrun, hended, _, _, rfl, ?_, ⟨_, rfl⟩, hW, hsame.mono (by decide) (by decide)⟩
  · show Steps p.tables e below (s₁.setTop (mkF m 0 #[.val (.long q1), .second, .val (.int p2), .unset] [])) _
    refine XS.iloadN X0.here hx rfl (hb hby d1_0) rfl ?_
    show Steps p.tables e below (s₁.setTop (mkF m 1 #[.val (.long q1), .second, .val (.int p2), .unset] [(.int p2)])) _
    refine XS.bipush X0.here hx rfl (hb hby d1_1) ?_
    show Steps p.tables e below (s₁.setTop (mkF m 3 #[.val (.long q1), .second, .val (.int p2), .unset] [(.int (7 : Int32)), (.int p2)])) _
    refine XS.iand X0.here hx rfl (hb hby d1_3) rfl ?_
    show Steps p.tables e below (s₁.setTop (mkF m 4 #[.val (.long q1), .second, .val (.int p2), .unset] [(.int (p2 &&& (7 : Int32)))])) _
    refine XS.istoreN X0.here hx rfl (hb hby d1_4) rfl (l' := #[.val (.long q1), .second, .val (.int p2), .val (.int (p2 &&& (7 : Int32)))]) rfl ?_
    show Steps p.tables e below (s₁.setTop (mkF m 5 #[.val (.long q1), .second, .val (.int p2), .val (.int (p2 &&& (7 : Int32)))] [])) _
    refine XS.iloadN X0.here hx rfl (hb hby d1_5) rfl ?_
    show Steps p.tables e below (s₁.setTop (mkF m 6 #[.val (.long q1), .second, .val (.int p2), .val (.int (p2 &&& (7 : Int32)))] [(.int (p2 &&& (7 : Int32)))])) _
    refine XS.iconst X0.here hx rfl (hb hby d1_6) ?_
    show Steps p.tables e below (s₁.setTop (mkF m 7 #[.val (.long q1), .second, .val (.int p2), .val (.int (p2 &&& (7 : Int32)))] [(.int (1 : Int32)), (.int (p2 &&& (7 : Int32)))])) _
    refine XS.icmpYes X0.here hx rfl (pc0 := 7) (pc' := 14) rfl (hb hby d1_7) rfl (feq hc7).2 (by decide) (by decide) ?_
    show Steps p.tables e below (s₁.setTop (mkF m 14 #[.val (.long q1), .second, .val (.int p2), .val (.int (p2 &&& (7 : Int32)))] [])) _
    refine XS.iloadN X0.here hx rfl (hb hby d1_14) rfl ?_
    show Steps p.tables e below (s₁.setTop (mkF m 15 #[.val (.long q1), .second, .val (.int p2), .val (.int (p2 &&& (7 : Int32)))] [(.int (p2 &&& (7 : Int32)))])) _
    refine XS.iconst X0.here hx rfl (hb hby d1_15) ?_
    show Steps p.tables e below (s₁.setTop (mkF m 16 #[.val (.long q1), .second, .val (.int p2), .val (.int (p2 &&& (7 : Int32)))] [(.int (2 : Int32)), (.int (p2 &&& (7 : Int32)))])) _
    refine XS.icmpYes X0.here hx rfl (pc0 := 16) (pc' := 23) rfl (hb hby d1_16) rfl (feq hc16).2 (by decide) (by decide) ?_
    show Steps p.tables e below (s₁.setTop (mkF m 23 #[.val (.long q1), .second, .val (.int p2), .val (.int (p2 &&& (7 : Int32)))] [])) _
    refine XS.iloadN X0.here hx rfl (hb hby d1_23) rfl ?_
    show Steps p.tables e below (s₁.setTop (mkF m 24 #[.val (.long q1), .second, .val (.int p2), .val (.int (p2 &&& (7 : Int32)))] [(.int (p2 &&& (7 : Int32)))])) _
    refine XS.iconst X0.here hx rfl (hb hby d1_24) ?_
    show Steps p.tables e below (s₁.setTop (mkF m 25 #[.val (.long q1), .second, .val (.int p2), .val (.int (p2 &&& (7 : Int32)))] [(.int (3 : Int32)), (.int (p2 &&& (7 : Int32)))])) _
    refine XS.icmpYes X0.here hx rfl (pc0 := 25) (pc' := 32) rfl (hb hby d1_25) rfl (feq hc25).2 (by decide) (by decide) ?_
    show Steps p.tables e below (s₁.setTop (mkF m 32 #[.val (.long q1), .second, .val (.int p2), .val (.int (p2 &&& (7 : Int32)))] [])) _
    refine XS.iloadN X0.here hx rfl (hb hby d1_32) rfl ?_
    show Steps p.tables e below (s₁.setTop (mkF m 33 #[.val (.long q1), .second, .val (.int p2), .val (.int (p2 &&& (7 : Int32)))] [(.int (p2 &&& (7 : Int32)))])) _
    refine XS.iconst X0.here hx rfl (hb hby d1_33) ?_
    show Steps p.tables e below (s₁.setTop (mkF m 34 #[.val (.long q1), .second, .val (.int p2), .val (.int (p2 &&& (7 : Int32)))] [(.int (4 : Int32)), (.int (p2 &&& (7 : Int32)))])) _
    refine XS.icmpYes X0.here hx rfl (pc0 := 34) (pc' := 41) rfl (hb hby d1_34) rfl (feq hc34).2 (by decide) (by decide) ?_
    show Steps p.tables e below (s₁.setTop (mkF m 41 #[.val (.long q1), .second, .val (.int p2), .val (.int (p2 &&& (7 : Int32)))] [])) _
    refine XS.iloadN X0.here hx rfl (hb hby d1_41) rfl ?_
    show Steps p.tables e below (s₁.setTop (mkF m 42 #[.val (.long q1), .second, .val (.int p2), .val (.int (p2 &&& (7 : Int32)))] [(.int (p2 &&& (7 : Int32)))])) _
    refine XS.iconst X0.here hx rfl (hb hby d1_42) ?_
    show Steps p.tables e below (s₁.setTop (mkF m 43 #[.val (.long q1), .second, .val (.int p2), .val (.int (p2 &&& (7 : Int32)))] [(.int (5 : Int32)), (.int (p2 &&& (7 : Int32)))])) _
    refine XS.icmpYes X0.here hx rfl (pc0 := 43) (pc' := 50) rfl (hb hby d1_43) rfl (feq hc43).2 (by decide) (by decide) ?_
    show Steps p.tables e below (s₁.setTop (mkF m 50 #[.val (.long q1), .second, .val (.int p2), .val (.int (p2 &&& (7 : Int32)))] [])) _
    refine XS.iloadN X0.here hx rfl (hb hby d1_50) rfl ?_
    show Steps p.tables e below (s₁.setTop (mkF m 51 #[.val (.long q1), .second, .val (.int p2), .val (.int (p2 &&& (7 : Int32)))] [(.int (p2 &&& (7 : Int32)))])) _
    refine XS.bipush X0.here hx rfl (hb hby d1_51) ?_
    show Steps p.tables e below (s₁.setTop (mkF m 53 #[.val (.long q1), .second, .val (.int p2), .val (.int (p2 &&& (7 : Int32)))] [(.int (6 : Int32)), (.int (p2 &&& (7 : Int32)))])) _
    refine XS.icmpYes X0.here hx rfl (pc0 := 53) (pc' := 60) rfl (hb hby d1_53) rfl (feq hc53).2 (by decide) (by decide) ?_
    show Steps p.tables e below (s₁.setTop (mkF m 60 #[.val (.long q1), .second, .val (.int p2), .val (.int (p2 &&& (7 : Int32)))] [])) _
    refine XS.iloadN X0.here hx rfl (hb hby d1_60) rfl ?_
    show Steps p.tables e below (s₁.setTop (mkF m 61 #[.val (.long q1), .second, .val (.int p2), .val (.int (p2 &&& (7 : Int32)))] [(.int (p2 &&& (7 : Int32)))])) _
    refine XS.bipush X0.here hx rfl (hb hby d1_61) ?_
    show Steps p.tables e below (s₁.setTop (mkF m 63 #[.val (.long q1), .second, .val (.int p2), .val (.int (p2 &&& (7 : Int32)))] [(.int (7 : Int32)), (.int (p2 &&& (7 : Int32)))])) _
    refine XS.icmpNo X0.here hx rfl (hb hby d1_63) rfl (teq hc63).2 ?_
    show Steps p.tables e below (s₁.setTop (mkF m 66 #[.val (.long q1), .second, .val (.int p2), .val (.int (p2 &&& (7 : Int32)))] [])) _
    refine XS.lloadN X0.here hx rfl (hb hby d1_66) rfl ?_
    show Steps p.tables e below (s₁.setTop (mkF m 67 #[.val (.long q1), .second, .val (.int p2), .val (.int (p2 &&& (7 : Int32)))] [(.long q1)])) _
    refine X0.ldc2Long hx hown (mvT hZ (hw _ (List.mem_of_getElem? (i := 14) rfl))) (g := (mkF m 67 #[.val (.long q1), .second, .val (.int p2), .val (.int (p2 &&& (7 : Int32)))] [(.long q1)])) rfl (hb hby d1_67) _ ?_
    show Steps p.tables e below (s₁.setTop (mkF m 70 #[.val (.long q1), .second, .val (.int p2), .val (.int (p2 &&& (7 : Int32)))] [(.long (511 : Int64)), (.long q1)])) _
    refine XS.land X0.here hx rfl (hb hby d1_70) rfl ?_
    show Steps p.tables e below (s₁.setTop (mkF m 71 #[.val (.long q1), .second, .val (.int p2), .val (.int (p2 &&& (7 : Int32)))] [(.long (q1 &&& (511 : Int64)))])) _
    refine X0.ldc2Long hx hown (mvT hZ (hw _ (List.mem_of_getElem? (i := 15) rfl))) (g := (mkF m 71 #[.val (.long q1), .second, .val (.int p2), .val (.int (p2 &&& (7 : Int32)))] [(.long (q1 &&& (511 : Int64)))])) rfl (hb hby d1_71) _ ?_
    show Steps p.tables e below (s₁.setTop (mkF m 74 #[.val (.long q1), .second, .val (.int p2), .val (.int (p2 &&& (7 : Int32)))] [(.long (256 : Int64)), (.long (q1 &&& (511 : Int64)))])) _
    refine XS.lsub X0.here hx rfl (hb hby d1_74) rfl ?_
    show Steps p.tables e below (s₁.setTop (mkF m 75 #[.val (.long q1), .second, .val (.int p2), .val (.int (p2 &&& (7 : Int32)))] [(.long ((q1 &&& (511 : Int64)) - (256 : Int64)))])) _
    jvm_step X0.here [X0.here.top, hx, (hb hby d1_75), X0.method', Bd.returns, narrow]
    first | (intro acts; rw [hr _ acts rfl rfl rfl]) | rw [hr _ _ rfl rfl rfl]
    exact Steps.refl _
  · show Q_rm1 Z q1 p2 h0 n0 _ s₁.heap _
    exact ⟨by rw [F1, if_neg hc7, if_neg hc16, if_neg hc25, if_neg hc34, if_neg hc43, if_neg hc53, if_pos hc63], N0, e0⟩
set_option maxRecDepth 65536 in
set_option maxHeartbeats 40000000 in
theorem rm1_ttttttt (l : Launch) (Z : State) (a0 : Array Value) (hw : ∀ d ∈ tables_1, d.before a0 Z = true) (ws : List Jvm.Cond) (q1 : Int64) (p2 : Int32) (h0 : Heap) (n0 : Nat) (Z0 : n0 ≤ h0.size) (hc7 : ¬ ((p2 &&& (7 : Int32)) = (1 : Int32))) (hc16 : ¬ ((p2 &&& (7 : Int32)) = (2 : Int32))) (hc25 : ¬ ((p2 &&& (7 : Int32)) = (3 : Int32))) (hc34 : ¬ ((p2 &&& (7 : Int32)) = (4 : Int32))) (hc43 : ¬ ((p2 &&& (7 : Int32)) = (5 : Int32))) (hc53 : ¬ ((p2 &&& (7 : Int32)) = (6 : Int32))) (hc63 : ¬ ((p2 &&& (7 : Int32)) = (7 : Int32))) :
    MetFree l (⟨"com/example/wirecall/wirecall/serialization/ValueSizesBoxedPinLaw", "pick", "(JI)J"⟩ : MethodName) (head1 (Jvm.Cond.code (⟨"com/example/wirecall/wirecall/serialization/ValueSizesBoxedPinLaw", "pick", "(JI)J"⟩ : MethodName) method_2_code 4 (some .long) :: ws) ({ frames := 0, cells := 0, slots := 0, locals := 0 } : Room)) (fun a U => a = #[(.long q1), (.int p2)] ∧ Z.Warmed39 U.vm ∧ U.heap = h0) (fun _ _ _ _ _ => True) (fun _ U o U' => ∃ v L, o = .returned v ∧ Q_rm1 Z q1 p2 h0 n0 v U'.heap L ∧ FrameEnd U o U' L ({ frames := 0, cells := 0, slots := 0, locals := 0 } : Room).cells ({ frames := 0, cells := 0, slots := 0, locals := 0 } : Room).slots) := by
  refine MetFree.of_bodySF (plainFor_of_name pn_1) hisR ?_
  intro p e s m args below meth c s₁ Bd hml0 hP hK
  obtain ⟨rfl, hZ, hh⟩ := hP
  have hx := Bd.exec
  have hby := Bd.bytes
  have hml : c.maxLocals = 4 := hml0
  have hown : s.vm.findClass "com/example/wirecall/wirecall/serialization/ValueSizesBoxedPinLaw" = some m.cls := findClass_of_methodNamed Bd.named
  have hnm := (name_of_methodNamed Bd.named Bd.method).1
  have X0 : Stand p l e ({ frames := 0, cells := 0, slots := 0, locals := 0 } : Room) s m #[(.long q1), (.int p2)] below meth c s₁ [] 0 0 := Stand.of_body Bd
  have e0 : s₁.heap = h0 := by rw [← hh, Bd.state]; rfl
  have N0 := Fr.nil n0
  have pre0 : ∀ t, Steps p.tables e below (s₁.setTop (mkF m 0 #[.val (.long q1), .second, .val (.int p2), .unset] [])) t → Steps p.tables e below (s₁.setTop (entryFrame m #[(.long q1), (.int p2)] 4)) t := fun t k => castTop (ef_1 m q1 p2) k
  obtain ⟨fs, hr, hrun, hended, hW, hsame⟩ := X0.leave (v := some (.long q1)) (fun h => by rw [Bd.returns] at h; cases h)
  refine ⟨_, _, pre0 _ ?_, hrun, hended, _, _, rfl, ?_, ⟨_, rfl⟩, hW, hsame.mono (by decide) (by decide)⟩
  · show Steps p.tables e below (s₁.setTop (mkF m 0 #[.val (.long q1), .second, .val (.int p2), .unset] [])) _
    refine XS.iloadN X0.here hx rfl (hb hby d1_0) rfl ?_
    show Steps p.tables e below (s₁.setTop (mkF m 1 #[.val (.long q1), .second, .val (.int p2), .unset] [(.int p2)])) _
    refine XS.bipush X0.here hx rfl (hb hby d1_1) ?_
    show Steps p.tables e below (s₁.setTop (mkF m 3 #[.val (.long q1), .second, .val (.int p2), .unset] [(.int (7 : Int32)), (.int p2)])) _
    refine XS.iand X0.here hx rfl (hb hby d1_3) rfl ?_
    show Steps p.tables e below (s₁.setTop (mkF m 4 #[.val (.long q1), .second, .val (.int p2), .unset] [(.int (p2 &&& (7 : Int32)))])) _
    refine XS.istoreN X0.here hx rfl (hb hby d1_4) rfl (l' := #[.val (.long q1), .second, .val (.int p2), .val (.int (p2 &&& (7 : Int32)))]) rfl ?_
    show Steps p.tables e below (s₁.setTop (mkF m 5 #[.val (.long q1), .second, .val (.int p2), .val (.int (p2 &&& (7 : Int32)))] [])) _
    refine XS.iloadN X0.here hx rfl (hb hby d1_5) rfl ?_
    show Steps p.tables e below (s₁.setTop (mkF m 6 #[.val (.long q1), .second, .val (.int p2), .val (.int (p2 &&& (7 : Int32)))] [(.int (p2 &&& (7 : Int32)))])) _
    refine XS.iconst X0.here hx rfl (hb hby d1_6) ?_
    show Steps p.tables e below (s₁.setTop (mkF m 7 #[.val (.long q1), .second, .val (.int p2), .val (.int (p2 &&& (7 : Int32)))] [(.int (1 : Int32)), (.int (p2 &&& (7 : Int32)))])) _
    refine XS.icmpYes X0.here hx rfl (pc0 := 7) (pc' := 14) rfl (hb hby d1_7) rfl (feq hc7).2 (by decide) (by decide) ?_
    show Steps p.tables e below (s₁.setTop (mkF m 14 #[.val (.long q1), .second, .val (.int p2), .val (.int (p2 &&& (7 : Int32)))] [])) _
    refine XS.iloadN X0.here hx rfl (hb hby d1_14) rfl ?_
    show Steps p.tables e below (s₁.setTop (mkF m 15 #[.val (.long q1), .second, .val (.int p2), .val (.int (p2 &&& (7 : Int32)))] [(.int (p2 &&& (7 : Int32)))])) _
    refine XS.iconst X0.here hx rfl (hb hby d1_15) ?_
    show Steps p.tables e below (s₁.setTop (mkF m 16 #[.val (.long q1), .second, .val (.int p2), .val (.int (p2 &&& (7 : Int32)))] [(.int (2 : Int32)), (.int (p2 &&& (7 : Int32)))])) _
    refine XS.icmpYes X0.here hx rfl (pc0 := 16) (pc' := 23) rfl (hb hby d1_16) rfl (feq hc16).2 (by decide) (by decide) ?_
    show Steps p.tables e below (s₁.setTop (mkF m 23 #[.val (.long q1), .second, .val (.int p2), .val (.int (p2 &&& (7 : Int32)))] [])) _
    refine XS.iloadN X0.here hx rfl (hb hby d1_23) rfl ?_
    show Steps p.tables e below (s₁.setTop (mkF m 24 #[.val (.long q1), .second, .val (.int p2), .val (.int (p2 &&& (7 : Int32)))] [(.int (p2 &&& (7 : Int32)))])) _
    refine XS.iconst X0.here hx rfl (hb hby d1_24) ?_
    show Steps p.tables e below (s₁.setTop (mkF m 25 #[.val (.long q1), .second, .val (.int p2), .val (.int (p2 &&& (7 : Int32)))] [(.int (3 : Int32)), (.int (p2 &&& (7 : Int32)))])) _
    refine XS.icmpYes X0.here hx rfl (pc0 := 25) (pc' := 32) rfl (hb hby d1_25) rfl (feq hc25).2 (by decide) (by decide) ?_
    show Steps p.tables e below (s₁.setTop (mkF m 32 #[.val (.long q1), .second, .val (.int p2), .val (.int (p2 &&& (7 : Int32)))] [])) _
    refine XS.iloadN X0.here hx rfl (hb hby d1_32) rfl ?_
    show Steps p.tables e below (s₁.setTop (mkF m 33 #[.val (.long q1), .second, .val (.int p2), .val (.int (p2 &&& (7 : Int32)))] [(.int (p2 &&& (7 : Int32)))])) _
    refine XS.iconst X0.here hx rfl (hb hby d1_33) ?_
    show Steps p.tables e below (s₁.setTop (mkF m 34 #[.val (.long q1), .second, .val (.int p2), .val (.int (p2 &&& (7 : Int32)))] [(.int (4 : Int32)), (.int (p2 &&& (7 : Int32)))])) _
    refine XS.icmpYes X0.here hx rfl (pc0 := 34) (pc' := 41) rfl (hb hby d1_34) rfl (feq hc34).2 (by decide) (by decide) ?_
    show Steps p.tables e below (s₁.setTop (mkF m 41 #[.val (.long q1), .second, .val (.int p2), .val (.int (p2 &&& (7 : Int32)))] [])) _
    refine XS.iloadN X0.here hx rfl (hb hby d1_41) rfl ?_
    show Steps p.tables e below (s₁.setTop (mkF m 42 #[.val (.long q1), .second, .val (.int p2), .val (.int (p2 &&& (7 : Int32)))] [(.int (p2 &&& (7 : Int32)))])) _
    refine XS.iconst X0.here hx rfl (hb hby d1_42) ?_
    show Steps p.tables e below (s₁.setTop (mkF m 43 #[.val (.long q1), .second, .val (.int p2), .val (.int (p2 &&& (7 : Int32)))] [(.int (5 : Int32)), (.int (p2 &&& (7 : Int32)))])) _
    refine XS.icmpYes X0.here hx rfl (pc0 := 43) (pc' := 50) rfl (hb hby d1_43) rfl (feq hc43).2 (by decide) (by decide) ?_
    show Steps p.tables e below (s₁.setTop (mkF m 50 #[.val (.long q1), .second, .val (.int p2), .val (.int (p2 &&& (7 : Int32)))] [])) _
    refine XS.iloadN X0.here hx rfl (hb hby d1_50) rfl ?_
    show Steps p.tables e below (s₁.setTop (mkF m 51 #[.val (.long q1), .second, .val (.int p2), .val (.int (p2 &&& (7 : Int32)))] [(.int (p2 &&& (7 : Int32)))])) _
    refine XS.bipush X0.here hx rfl (hb hby d1_51) ?_
    show Steps p.tables e below (s₁.setTop (mkF m 53 #[.val (.long q1), .second, .val (.int p2), .val (.int (p2 &&& (7 : Int32)))] [(.int (6 : Int32)), (.int (p2 &&& (7 : Int32)))])) _
    refine XS.icmpYes X0.here hx rfl (pc0 := 53) (pc' := 60) rfl (hb hby d1_53) rfl (feq hc53).2 (by decide) (by decide) ?_
    show Steps p.tables e below (s₁.setTop (mkF m 60 #[.val (.long q1), .second, .val (.int p2), .val (.int (p2 &&& (7 : Int32)))] [])) _
    refine XS.iloadN X0.here hx rfl (hb hby d1_60) rfl ?_
    show Steps p.tables e below (s₁.setTop (mkF m 61 #[.val (.long q1), .second, .val (.int p2), .val (.int (p2 &&& (7 : Int32)))] [(.int (p2 &&& (7 : Int32)))])) _
    refine XS.bipush X0.here hx rfl (hb hby d1_61) ?_
    show Steps p.tables e below (s₁.setTop (mkF m 63 #[.val (.long q1), .second, .val (.int p2), .val (.int (p2 &&& (7 : Int32)))] [(.int (7 : Int32)), (.int (p2 &&& (7 : Int32)))])) _
    refine XS.icmpYes X0.here hx rfl (pc0 := 63) (pc' := 76) rfl (hb hby d1_63) rfl (feq hc63).2 (by decide) (by decide) ?_
    show Steps p.tables e below (s₁.setTop (mkF m 76 #[.val (.long q1), .second, .val (.int p2), .val (.int (p2 &&& (7 : Int32)))] [])) _
    refine XS.lloadN X0.here hx rfl (hb hby d1_76) rfl ?_
    show Steps p.tables e below (s₁.setTop (mkF m 77 #[.val (.long q1), .second, .val (.int p2), .val (.int (p2 &&& (7 : Int32)))] [(.long q1)])) _
    jvm_step X0.here [X0.here.top, hx, (hb hby d1_77), X0.method', Bd.returns, narrow]
    first | (intro acts; rw [hr _ acts rfl rfl rfl]) | rw [hr _ _ rfl rfl rfl]
    exact Steps.refl _
  · show Q_rm1 Z q1 p2 h0 n0 _ s₁.heap _
    exact ⟨by rw [F1, if_neg hc7, if_neg hc16, if_neg hc25, if_neg hc34, if_neg hc43, if_neg hc53, if_neg hc63], N0, e0⟩
set_option maxHeartbeats 4000000 in
theorem rm1 (l : Launch) (Z : State) (a0 : Array Value) (hw : ∀ d ∈ tables_1, d.before a0 Z = true) (ws : List Jvm.Cond) (q1 : Int64) (p2 : Int32) (h0 : Heap) (n0 : Nat) (Z0 : n0 ≤ h0.size) :
    MetFree l (⟨"com/example/wirecall/wirecall/serialization/ValueSizesBoxedPinLaw", "pick", "(JI)J"⟩ : MethodName) (head1 (Jvm.Cond.code (⟨"com/example/wirecall/wirecall/serialization/ValueSizesBoxedPinLaw", "pick", "(JI)J"⟩ : MethodName) method_2_code 4 (some .long) :: ws) ({ frames := 0, cells := 0, slots := 0, locals := 0 } : Room)) (fun a U => a = #[(.long q1), (.int p2)] ∧ Z.Warmed39 U.vm ∧ U.heap = h0) (fun _ _ _ _ _ => True) (fun _ U o U' => ∃ v L, o = .returned v ∧ Q_rm1 Z q1 p2 h0 n0 v U'.heap L ∧ FrameEnd U o U' L ({ frames := 0, cells := 0, slots := 0, locals := 0 } : Room).cells ({ frames := 0, cells := 0, slots := 0, locals := 0 } : Room).slots) := by
  by_cases hc7 : (p2 &&& (7 : Int32)) = (1 : Int32)
  · skip
    exact rm1_f l Z a0 hw ws q1 p2 h0 n0 Z0 hc7
  · skip
    by_cases hc16 : (p2 &&& (7 : Int32)) = (2 : Int32)
    · skip
      exact rm1_tf l Z a0 hw ws q1 p2 h0 n0 Z0 hc7 hc16
    · skip
      by_cases hc25 : (p2 &&& (7 : Int32)) = (3 : Int32)
      · skip
        exact rm1_ttf l Z a0 hw ws q1 p2 h0 n0 Z0 hc7 hc16 hc25
      · skip
        by_cases hc34 : (p2 &&& (7 : Int32)) = (4 : Int32)
        · skip
          exact rm1_tttf l Z a0 hw ws q1 p2 h0 n0 Z0 hc7 hc16 hc25 hc34
        · skip
          by_cases hc43 : (p2 &&& (7 : Int32)) = (5 : Int32)
          · skip
            exact rm1_ttttf l Z a0 hw ws q1 p2 h0 n0 Z0 hc7 hc16 hc25 hc34 hc43
          · skip
            by_cases hc53 : (p2 &&& (7 : Int32)) = (6 : Int32)
            · skip
              exact rm1_tttttf l Z a0 hw ws q1 p2 h0 n0 Z0 hc7 hc16 hc25 hc34 hc43 hc53
            · skip
              by_cases hc63 : (p2 &&& (7 : Int32)) = (7 : Int32)
              · skip
                exact rm1_ttttttf l Z a0 hw ws q1 p2 h0 n0 Z0 hc7 hc16 hc25 hc34 hc43 hc53 hc63
              · skip
                exact rm1_ttttttt l Z a0 hw ws q1 p2 h0 n0 Z0 hc7 hc16 hc25 hc34 hc43 hc53 hc63
theorem pd__28JI_29J : parseMethodDescriptor "(JI)J" = some ⟨[.long, .int], some .long⟩ := by decide +kernel
theorem pd__28J_29J : parseMethodDescriptor "(J)J" = some ⟨[.long], some .long⟩ := by decide +kernel
def t0_0 (q1 : Int64) (p2 : Int32) : Int64 := ((((F1 q1 p2) + (128 : Int64)).toUInt64 >>> ((8 : Int32) &&& 0x3f).toInt64.toUInt64).toInt64)
theorem pn_0 : plainName "com/example/wirecall/wirecall/serialization/ValueSizesBoxedPinLaw" = true := by first | (simp [plainName, overriddenIn]; done) | decide +kernel
theorem ef_0 (m : MethodId) (x0 : Int64) (x1 : Int32) : entryFrame m #[(.long x0), (.int x1)] maxLocals = mkF m 0 #[.val (.long x0), .second, .val (.int x1), .unset, .unset, .unset, .unset, .unset, .unset] [] := by first | (simp [entryFrame, mkF, argsToLocals, Value.category, maxLocals]; done) | rfl
def Q_rm0 (Z : State) (q1 : Int64) (p2 : Int32) (h0 : Heap) (n0 : Nat) (v : Option Value) (h : Heap) (L : List Loc) : Prop := v = some (.int (1 : Int32)) ∧ Fr n0 L
set_option maxRecDepth 65536 in
set_option maxHeartbeats 40000000 in
theorem rm0_f (l : Launch) (Z : State) (a0 : Array Value) (hw : ∀ d ∈ tables_1, d.before a0 Z = true) (ws : List Jvm.Cond) (q1 : Int64) (p2 : Int32) (h0 : Heap) (n0 : Nat) (Z0 : n0 ≤ h0.size) (hc16 : (lcmpW (t0_0 q1 p2) (0 : Int64)) = (0 : Int32)) :
    MetFree l x (head1 (Jvm.Cond.code x code maxLocals ret :: ws) room_1) (fun a U => a = #[(.long q1), (.int p2)] ∧ Z.Warmed39 U.vm ∧ U.heap = h0) (fun _ _ _ _ _ => True) (fun _ U o U' => ∃ v L, o = .returned v ∧ Q_rm0 Z q1 p2 h0 n0 v U'.heap L ∧ FrameEnd U o U' L room_1.cells room_1.slots) := by
  refine MetFree.of_bodySF (plainFor_of_name pn_0) hisR ?_
  intro p e s m args below meth c s₁ Bd hml0 hP hK
  obtain ⟨rfl, hZ, hh⟩ := hP
  have hx := Bd.exec
  have hby := Bd.bytes
  have hml : c.maxLocals = 9 := hml0
  have hown : s.vm.findClass "com/example/wirecall/wirecall/serialization/ValueSizesBoxedPinLaw" = some m.cls := findClass_of_methodNamed Bd.named
  have hnm := (name_of_methodNamed Bd.named Bd.method).1
  have X0 : Stand p l e room_1 s m #[(.long q1), (.int p2)] below meth c s₁ [] 0 0 := Stand.of_body Bd
  have e0 : s₁.heap = h0 := by rw [← hh, Bd.state]; rfl
  have N0 := Fr.nil n0
  have pre0 : ∀ t, Steps p.tables e below (s₁.setTop (mkF m 0 #[.val (.long q1), .second, .val (.int p2), .unset, .unset, .unset, .unset, .unset, .unset] [])) t → Steps p.tables e below (s₁.setTop (entryFrame m #[(.long q1), (.int p2)] maxLocals)) t := fun t k => castTop (ef_0 m q1 p2) k
  obtain ⟨_, _, ⟨T3, L3, k3, n3⟩, -, X3, ⟨Lc3, hQ3, l3, y3, z3⟩, st3⟩ := Jvm.LawKit.callS X0 hx (y := (⟨"com/example/wirecall/wirecall/serialization/ValueSizesBoxedPinLaw", "pick", "(JI)J"⟩ : MethodName)) hown (mvT hZ (hw _ (List.mem_of_getElem? (i := 0) rfl))) (mvT hZ (hw _ (List.mem_of_getElem? (i := 1) rfl))) (mvT hZ (hw _ (List.mem_of_getElem? (i := 2) rfl))) (mvT hZ (hw _ (List.mem_of_getElem? (i := 3) rfl))) (by decide) (backOf (W := 0) (rm1 l Z a0 hw [] q1 p2 h0 n0 Z0 ) hZ (hw _ (List.mem_of_getElem? (i := 3) rfl)) (hw _ (List.mem_of_getElem? (i := 2) rfl)) (by decide) (by decide)) (g := (mkF m 2 #[.val (.long q1), .second, .val (.int p2), .unset, .unset, .unset, .unset, .unset, .unset] [(.int p2), (.long q1)])) rfl (by rw [hml]; rfl) (argsL := [(.long q1), (.int p2)]) (rest := []) (lenOf pd__28JI_29J rfl) rfl (by show 2 * 0 + _ ≤ _; exact Nat.le_of_eq rfl) (hb hby at_2) (fun _ _ => ⟨rfl, e0, (by decide : 0 + 0 ≤ _), (by decide : 0 + 0 ≤ _)⟩)
  dsimp only [Pt.U, Pt.locs, Pt.cells, Pt.slots] at X3 l3 y3 z3 st3 hQ3
  subst l3 y3 z3
  obtain ⟨rfl, N3q, e3⟩ := hQ3
  have N3 := Fr.app N0 N3q
  obtain ⟨_, _, ⟨T4, L4, k4, n4⟩, -, X4, ⟨Lc4, hQ4, l4, y4, z4⟩, st4⟩ := Jvm.LawKit.callS X3 hx (y := (⟨"com/example/wirecall/wirecall/serialization/ValueSizes", "boxed", "(J)J"⟩ : MethodName)) hown (mvT hZ (hw _ (List.mem_of_getElem? (i := 6) rfl))) (mvT hZ (hw _ (List.mem_of_getElem? (i := 7) rfl))) (mvT hZ (hw _ (List.mem_of_getElem? (i := 8) rfl))) (mvT hZ (hw _ (List.mem_of_getElem? (i := 9) rfl))) (by decide) (backOf (W := 0) (rm2 l Z a0 hw [] (F1 q1 p2) h0 n0 Z0 ) hZ (hw _ (List.mem_of_getElem? (i := 9) rfl)) (hw _ (List.mem_of_getElem? (i := 8) rfl)) (by decide) (by decide)) (g := (mkF m 29 #[.val (.long q1), .second, .val (.int p2), .val (.long (F1 q1 p2)), .second, .val (.long (0 : Int64)), .second, .unset, .unset] [(.long (F1 q1 p2))])) rfl (by rw [hml]; rfl) (argsL := [(.long (F1 q1 p2))]) (rest := []) (lenOf pd__28J_29J rfl) rfl (by show 2 * 0 + _ ≤ _; exact Nat.le_of_eq rfl) (hb hby at_29) (fun _ _ => ⟨rfl, e3, (by decide : 0 + 0 ≤ _), (by decide : 0 + 0 ≤ _)⟩)
  dsimp only [Pt.U, Pt.locs, Pt.cells, Pt.slots] at X4 l4 y4 z4 st4 hQ4
  subst l4 y4 z4
  obtain ⟨rfl, N4q, e4⟩ := hQ4
  have N4 := Fr.app N3 N4q
  obtain ⟨fs, hr, hrun, hended, hW, hsame⟩ := X4.leave (v := some (.int (1 : Int32))) (fun h => by rw [Bd.returns] at h; cases h)
  refine ⟨_, _, pre0 _ ?_, hrun, hended, _, _, rfl, ?_, ⟨_, rfl⟩, hW, hsame.mono (by decide) (by decide)⟩
  · show Steps p.tables e below (s₁.setTop (mkF m 0 #[.val (.long q1), .second, .val (.int p2), .unset, .unset, .unset, .unset, .unset, .unset] [])) _
    refine XS.lloadN X0.here hx rfl (hb hby at_0) rfl ?_
    show Steps p.tables e below (s₁.setTop (mkF m 1 #[.val (.long q1), .second, .val (.int p2), .unset, .unset, .unset, .unset, .unset, .unset] [(.long q1)])) _
    refine XS.iloadN X0.here hx rfl (hb hby at_1) rfl ?_
    show Steps p.tables e below (s₁.setTop (mkF m 2 #[.val (.long q1), .second, .val (.int p2), .unset, .unset, .unset, .unset, .unset, .unset] [(.int p2), (.long q1)])) _
    refine st3 _ ?_
    show Steps p.tables e below (T3.setTop (mkF m 5 #[.val (.long q1), .second, .val (.int p2), .unset, .unset, .unset, .unset, .unset, .unset] [(.long (F1 q1 p2))])) _
    refine XS.lstoreN X3.here hx rfl (hb hby at_5) rfl (l' := #[.val (.long q1), .second, .val (.int p2), .val (.long (F1 q1 p2)), .second, .unset, .unset, .unset, .unset]) rfl ?_
    show Steps p.tables e below (T3.setTop (mkF m 6 #[.val (.long q1), .second, .val (.int p2), .val (.long (F1 q1 p2)), .second, .unset, .unset, .unset, .unset] [])) _
    refine XS.lloadN X3.here hx rfl (hb hby at_6) rfl ?_
    show Steps p.tables e below (T3.setTop (mkF m 7 #[.val (.long q1), .second, .val (.int p2), .val (.long (F1 q1 p2)), .second, .unset, .unset, .unset, .unset] [(.long (F1 q1 p2))])) _
    refine X3.ldc2Long hx hown (mvT hZ (hw _ (List.mem_of_getElem? (i := 5) rfl))) (g := (mkF m 7 #[.val (.long q1), .second, .val (.int p2), .val (.long (F1 q1 p2)), .second, .unset, .unset, .unset, .unset] [(.long (F1 q1 p2))])) rfl (hb hby at_7) _ ?_
    show Steps p.tables e below (T3.setTop (mkF m 10 #[.val (.long q1), .second, .val (.int p2), .val (.long (F1 q1 p2)), .second, .unset, .unset, .unset, .unset] [(.long (128 : Int64)), (.long (F1 q1 p2))])) _
    refine XS.ladd X3.here hx rfl (hb hby at_10) rfl ?_
    show Steps p.tables e below (T3.setTop (mkF m 11 #[.val (.long q1), .second, .val (.int p2), .val (.long (F1 q1 p2)), .second, .unset, .unset, .unset, .unset] [(.long ((F1 q1 p2) + (128 : Int64)))])) _
    refine XS.bipush X3.here hx rfl (hb hby at_11) ?_
    show Steps p.tables e below (T3.setTop (mkF m 13 #[.val (.long q1), .second, .val (.int p2), .val (.long (F1 q1 p2)), .second, .unset, .unset, .unset, .unset] [(.int (8 : Int32)), (.long ((F1 q1 p2) + (128 : Int64)))])) _
    refine XS.lushr X3.here hx rfl (hb hby at_13) rfl ?_
    show Steps p.tables e below (T3.setTop (mkF m 14 #[.val (.long q1), .second, .val (.int p2), .val (.long (F1 q1 p2)), .second, .unset, .unset, .unset, .unset] [(.long ((((F1 q1 p2) + (128 : Int64)).toUInt64 >>> ((8 : Int32) &&& 0x3f).toInt64.toUInt64).toInt64))])) _
    refine XS.lconst X3.here hx rfl (hb hby at_14) ?_
    show Steps p.tables e below (T3.setTop (mkF m 15 #[.val (.long q1), .second, .val (.int p2), .val (.long (F1 q1 p2)), .second, .unset, .unset, .unset, .unset] [(.long (0 : Int64)), (.long ((((F1 q1 p2) + (128 : Int64)).toUInt64 >>> ((8 : Int32) &&& 0x3f).toInt64.toUInt64).toInt64))])) _
    refine XS.lcmp X3.here hx rfl (hb hby at_15) rfl ?_
    show Steps p.tables e below (T3.setTop (mkF m 16 #[.val (.long q1), .second, .val (.int p2), .val (.long (F1 q1 p2)), .second, .unset, .unset, .unset, .unset] [(.int (lcmpW (t0_0 q1 p2) (0 : Int64)))])) _
    refine XS.ifNo X3.here hx rfl (hb hby at_16) rfl ((if0 _ _).trans (teq hc16).2) ?_
    show Steps p.tables e below (T3.setTop (mkF m 19 #[.val (.long q1), .second, .val (.int p2), .val (.long (F1 q1 p2)), .second, .unset, .unset, .unset, .unset] [])) _
    refine XS.lconst X3.here hx rfl (hb hby at_19) ?_
    show Steps p.tables e below (T3.setTop (mkF m 20 #[.val (.long q1), .second, .val (.int p2), .val (.long (F1 q1 p2)), .second, .unset, .unset, .unset, .unset] [(.long (0 : Int64))])) _
    refine XS.goto X3.here hx rfl (pc0 := 20) (pc' := 26) rfl (hb hby at_20) (by decide) (by decide) ?_
    show Steps p.tables e below (T3.setTop (mkF m 26 #[.val (.long q1), .second, .val (.int p2), .val (.long (F1 q1 p2)), .second, .unset, .unset, .unset, .unset] [(.long (0 : Int64))])) _
    refine XS.lstore X3.here hx rfl (hb hby at_26) rfl (l' := #[.val (.long q1), .second, .val (.int p2), .val (.long (F1 q1 p2)), .second, .val (.long (0 : Int64)), .second, .unset, .unset]) rfl ?_
    show Steps p.tables e below (T3.setTop (mkF m 28 #[.val (.long q1), .second, .val (.int p2), .val (.long (F1 q1 p2)), .second, .val (.long (0 : Int64)), .second, .unset, .unset] [])) _
    refine XS.lloadN X3.here hx rfl (hb hby at_28) rfl ?_
    show Steps p.tables e below (T3.setTop (mkF m 29 #[.val (.long q1), .second, .val (.int p2), .val (.long (F1 q1 p2)), .second, .val (.long (0 : Int64)), .second, .unset, .unset] [(.long (F1 q1 p2))])) _
    refine st4 _ ?_
    show Steps p.tables e below (T4.setTop (mkF m 32 #[.val (.long q1), .second, .val (.int p2), .val (.long (F1 q1 p2)), .second, .val (.long (0 : Int64)), .second, .unset, .unset] [(.long (F2 (F1 q1 p2)))])) _
    refine XS.lstore X4.here hx rfl (hb hby at_32) rfl (l' := #[.val (.long q1), .second, .val (.int p2), .val (.long (F1 q1 p2)), .second, .val (.long (0 : Int64)), .second, .val (.long (F2 (F1 q1 p2))), .second]) rfl ?_
    show Steps p.tables e below (T4.setTop (mkF m 34 #[.val (.long q1), .second, .val (.int p2), .val (.long (F1 q1 p2)), .second, .val (.long (0 : Int64)), .second, .val (.long (F2 (F1 q1 p2))), .second] [])) _
    refine XS.lload X4.here hx rfl (hb hby at_34) rfl ?_
    show Steps p.tables e below (T4.setTop (mkF m 36 #[.val (.long q1), .second, .val (.int p2), .val (.long (F1 q1 p2)), .second, .val (.long (0 : Int64)), .second, .val (.long (F2 (F1 q1 p2))), .second] [(.long (F2 (F1 q1 p2)))])) _
    refine XS.lload X4.here hx rfl (hb hby at_36) rfl ?_
    show Steps p.tables e below (T4.setTop (mkF m 38 #[.val (.long q1), .second, .val (.int p2), .val (.long (F1 q1 p2)), .second, .val (.long (0 : Int64)), .second, .val (.long (F2 (F1 q1 p2))), .second] [(.long (0 : Int64)), (.long (F2 (F1 q1 p2)))])) _
    refine XS.lcmp X4.here hx rfl (hb hby at_38) rfl ?_
    show Steps p.tables e below (T4.setTop (mkF m 39 #[.val (.long q1), .second, .val (.int p2), .val (.long (F1 q1 p2)), .second, .val (.long (0 : Int64)), .second, .val (.long (F2 (F1 q1 p2))), .second] [(.int (lcmpW (F2 (F1 q1 p2)) (0 : Int64)))])) _
    refine XS.ifNo X4.here hx rfl (hb hby at_39) rfl ((if0 _ _).trans (teq (show (lcmpW (F2 (F1 q1 p2)) (0 : Int64)) = (0 : Int32) from by rw [lw_eq, own_F2]; rw [lw_eq] at hc16; unfold t0_0 at hc16; rw [own_sh] at hc16; first | rw [if_pos hc16] | rw [if_neg hc16])).2) ?_
    show Steps p.tables e below (T4.setTop (mkF m 42 #[.val (.long q1), .second, .val (.int p2), .val (.long (F1 q1 p2)), .second, .val (.long (0 : Int64)), .second, .val (.long (F2 (F1 q1 p2))), .second] [])) _
    refine XS.iconst X4.here hx rfl (hb hby at_42) ?_
    show Steps p.tables e below (T4.setTop (mkF m 43 #[.val (.long q1), .second, .val (.int p2), .val (.long (F1 q1 p2)), .second, .val (.long (0 : Int64)), .second, .val (.long (F2 (F1 q1 p2))), .second] [(.int (1 : Int32))])) _
    refine XS.goto X4.here hx rfl (pc0 := 43) (pc' := 47) rfl (hb hby at_43) (by decide) (by decide) ?_
    show Steps p.tables e below (T4.setTop (mkF m 47 #[.val (.long q1), .second, .val (.int p2), .val (.long (F1 q1 p2)), .second, .val (.long (0 : Int64)), .second, .val (.long (F2 (F1 q1 p2))), .second] [(.int (1 : Int32))])) _
    exact retN X4 hx (t := .boolean) Bd.returns (by simp) (hb hby at_47) hr
  · show Q_rm0 Z q1 p2 h0 n0 _ T4.heap _
    exact ⟨rfl, N4⟩
set_option maxRecDepth 65536 in
set_option maxHeartbeats 40000000 in
theorem rm0_t (l : Launch) (Z : State) (a0 : Array Value) (hw : ∀ d ∈ tables_1, d.before a0 Z = true) (ws : List Jvm.Cond) (q1 : Int64) (p2 : Int32) (h0 : Heap) (n0 : Nat) (Z0 : n0 ≤ h0.size) (hc16 : ¬ ((lcmpW (t0_0 q1 p2) (0 : Int64)) = (0 : Int32))) :
    MetFree l x (head1 (Jvm.Cond.code x code maxLocals ret :: ws) room_1) (fun a U => a = #[(.long q1), (.int p2)] ∧ Z.Warmed39 U.vm ∧ U.heap = h0) (fun _ _ _ _ _ => True) (fun _ U o U' => ∃ v L, o = .returned v ∧ Q_rm0 Z q1 p2 h0 n0 v U'.heap L ∧ FrameEnd U o U' L room_1.cells room_1.slots) := by
  refine MetFree.of_bodySF (plainFor_of_name pn_0) hisR ?_
  intro p e s m args below meth c s₁ Bd hml0 hP hK
  obtain ⟨rfl, hZ, hh⟩ := hP
  have hx := Bd.exec
  have hby := Bd.bytes
  have hml : c.maxLocals = 9 := hml0
  have hown : s.vm.findClass "com/example/wirecall/wirecall/serialization/ValueSizesBoxedPinLaw" = some m.cls := findClass_of_methodNamed Bd.named
  have hnm := (name_of_methodNamed Bd.named Bd.method).1
  have X0 : Stand p l e room_1 s m #[(.long q1), (.int p2)] below meth c s₁ [] 0 0 := Stand.of_body Bd
  have e0 : s₁.heap = h0 := by rw [← hh, Bd.state]; rfl
  have N0 := Fr.nil n0
  have pre0 : ∀ t, Steps p.tables e below (s₁.setTop (mkF m 0 #[.val (.long q1), .second, .val (.int p2), .unset, .unset, .unset, .unset, .unset, .unset] [])) t → Steps p.tables e below (s₁.setTop (entryFrame m #[(.long q1), (.int p2)] maxLocals)) t := fun t k => castTop (ef_0 m q1 p2) k
  obtain ⟨_, _, ⟨T3, L3, k3, n3⟩, -, X3, ⟨Lc3, hQ3, l3, y3, z3⟩, st3⟩ := Jvm.LawKit.callS X0 hx (y := (⟨"com/example/wirecall/wirecall/serialization/ValueSizesBoxedPinLaw", "pick", "(JI)J"⟩ : MethodName)) hown (mvT hZ (hw _ (List.mem_of_getElem? (i := 0) rfl))) (mvT hZ (hw _ (List.mem_of_getElem? (i := 1) rfl))) (mvT hZ (hw _ (List.mem_of_getElem? (i := 2) rfl))) (mvT hZ (hw _ (List.mem_of_getElem? (i := 3) rfl))) (by decide) (backOf (W := 0) (rm1 l Z a0 hw [] q1 p2 h0 n0 Z0 ) hZ (hw _ (List.mem_of_getElem? (i := 3) rfl)) (hw _ (List.mem_of_getElem? (i := 2) rfl)) (by decide) (by decide)) (g := (mkF m 2 #[.val (.long q1), .second, .val (.int p2), .unset, .unset, .unset, .unset, .unset, .unset] [(.int p2), (.long q1)])) rfl (by rw [hml]; rfl) (argsL := [(.long q1), (.int p2)]) (rest := []) (lenOf pd__28JI_29J rfl) rfl (by show 2 * 0 + _ ≤ _; exact Nat.le_of_eq rfl) (hb hby at_2) (fun _ _ => ⟨rfl, e0, (by decide : 0 + 0 ≤ _), (by decide : 0 + 0 ≤ _)⟩)
  dsimp only [Pt.U, Pt.locs, Pt.cells, Pt.slots] at X3 l3 y3 z3 st3 hQ3
  subst l3 y3 z3
  obtain ⟨rfl, N3q, e3⟩ := hQ3
  have N3 := Fr.app N0 N3q
  obtain ⟨_, _, ⟨T4, L4, k4, n4⟩, -, X4, ⟨Lc4, hQ4, l4, y4, z4⟩, st4⟩ := Jvm.LawKit.callS X3 hx (y := (⟨"com/example/wirecall/wirecall/serialization/ValueSizes", "boxed", "(J)J"⟩ : MethodName)) hown (mvT hZ (hw _ (List.mem_of_getElem? (i := 6) rfl))) (mvT hZ (hw _ (List.mem_of_getElem? (i := 7) rfl))) (mvT hZ (hw _ (List.mem_of_getElem? (i := 8) rfl))) (mvT hZ (hw _ (List.mem_of_getElem? (i := 9) rfl))) (by decide) (backOf (W := 0) (rm2 l Z a0 hw [] (F1 q1 p2) h0 n0 Z0 ) hZ (hw _ (List.mem_of_getElem? (i := 9) rfl)) (hw _ (List.mem_of_getElem? (i := 8) rfl)) (by decide) (by decide)) (g := (mkF m 29 #[.val (.long q1), .second, .val (.int p2), .val (.long (F1 q1 p2)), .second, .val (.long (24 : Int64)), .second, .unset, .unset] [(.long (F1 q1 p2))])) rfl (by rw [hml]; rfl) (argsL := [(.long (F1 q1 p2))]) (rest := []) (lenOf pd__28J_29J rfl) rfl (by show 2 * 0 + _ ≤ _; exact Nat.le_of_eq rfl) (hb hby at_29) (fun _ _ => ⟨rfl, e3, (by decide : 0 + 0 ≤ _), (by decide : 0 + 0 ≤ _)⟩)
  dsimp only [Pt.U, Pt.locs, Pt.cells, Pt.slots] at X4 l4 y4 z4 st4 hQ4
  subst l4 y4 z4
  obtain ⟨rfl, N4q, e4⟩ := hQ4
  have N4 := Fr.app N3 N4q
  obtain ⟨fs, hr, hrun, hended, hW, hsame⟩ := X4.leave (v := some (.int (1 : Int32))) (fun h => by rw [Bd.returns] at h; cases h)
  refine ⟨_, _, pre0 _ ?_, hrun, hended, _, _, rfl, ?_, ⟨_, rfl⟩, hW, hsame.mono (by decide) (by decide)⟩
  · show Steps p.tables e below (s₁.setTop (mkF m 0 #[.val (.long q1), .second, .val (.int p2), .unset, .unset, .unset, .unset, .unset, .unset] [])) _
    refine XS.lloadN X0.here hx rfl (hb hby at_0) rfl ?_
    show Steps p.tables e below (s₁.setTop (mkF m 1 #[.val (.long q1), .second, .val (.int p2), .unset, .unset, .unset, .unset, .unset, .unset] [(.long q1)])) _
    refine XS.iloadN X0.here hx rfl (hb hby at_1) rfl ?_
    show Steps p.tables e below (s₁.setTop (mkF m 2 #[.val (.long q1), .second, .val (.int p2), .unset, .unset, .unset, .unset, .unset, .unset] [(.int p2), (.long q1)])) _
    refine st3 _ ?_
    show Steps p.tables e below (T3.setTop (mkF m 5 #[.val (.long q1), .second, .val (.int p2), .unset, .unset, .unset, .unset, .unset, .unset] [(.long (F1 q1 p2))])) _
    refine XS.lstoreN X3.here hx rfl (hb hby at_5) rfl (l' := #[.val (.long q1), .second, .val (.int p2), .val (.long (F1 q1 p2)), .second, .unset, .unset, .unset, .unset]) rfl ?_
    show Steps p.tables e below (T3.setTop (mkF m 6 #[.val (.long q1), .second, .val (.int p2), .val (.long (F1 q1 p2)), .second, .unset, .unset, .unset, .unset] [])) _
    refine XS.lloadN X3.here hx rfl (hb hby at_6) rfl ?_
    show Steps p.tables e below (T3.setTop (mkF m 7 #[.val (.long q1), .second, .val (.int p2), .val (.long (F1 q1 p2)), .second, .unset, .unset, .unset, .unset] [(.long (F1 q1 p2))])) _
    refine X3.ldc2Long hx hown (mvT hZ (hw _ (List.mem_of_getElem? (i := 5) rfl))) (g := (mkF m 7 #[.val (.long q1), .second, .val (.int p2), .val (.long (F1 q1 p2)), .second, .unset, .unset, .unset, .unset] [(.long (F1 q1 p2))])) rfl (hb hby at_7) _ ?_
    show Steps p.tables e below (T3.setTop (mkF m 10 #[.val (.long q1), .second, .val (.int p2), .val (.long (F1 q1 p2)), .second, .unset, .unset, .unset, .unset] [(.long (128 : Int64)), (.long (F1 q1 p2))])) _
    refine XS.ladd X3.here hx rfl (hb hby at_10) rfl ?_
    show Steps p.tables e below (T3.setTop (mkF m 11 #[.val (.long q1), .second, .val (.int p2), .val (.long (F1 q1 p2)), .second, .unset, .unset, .unset, .unset] [(.long ((F1 q1 p2) + (128 : Int64)))])) _
    refine XS.bipush X3.here hx rfl (hb hby at_11) ?_
    show Steps p.tables e below (T3.setTop (mkF m 13 #[.val (.long q1), .second, .val (.int p2), .val (.long (F1 q1 p2)), .second, .unset, .unset, .unset, .unset] [(.int (8 : Int32)), (.long ((F1 q1 p2) + (128 : Int64)))])) _
    refine XS.lushr X3.here hx rfl (hb hby at_13) rfl ?_
    show Steps p.tables e below (T3.setTop (mkF m 14 #[.val (.long q1), .second, .val (.int p2), .val (.long (F1 q1 p2)), .second, .unset, .unset, .unset, .unset] [(.long ((((F1 q1 p2) + (128 : Int64)).toUInt64 >>> ((8 : Int32) &&& 0x3f).toInt64.toUInt64).toInt64))])) _
    refine XS.lconst X3.here hx rfl (hb hby at_14) ?_
    show Steps p.tables e below (T3.setTop (mkF m 15 #[.val (.long q1), .second, .val (.int p2), .val (.long (F1 q1 p2)), .second, .unset, .unset, .unset, .unset] [(.long (0 : Int64)), (.long ((((F1 q1 p2) + (128 : Int64)).toUInt64 >>> ((8 : Int32) &&& 0x3f).toInt64.toUInt64).toInt64))])) _
    refine XS.lcmp X3.here hx rfl (hb hby at_15) rfl ?_
    show Steps p.tables e below (T3.setTop (mkF m 16 #[.val (.long q1), .second, .val (.int p2), .val (.long (F1 q1 p2)), .second, .unset, .unset, .unset, .unset] [(.int (lcmpW (t0_0 q1 p2) (0 : Int64)))])) _
    refine XS.ifYes X3.here hx rfl (pc0 := 16) (pc' := 23) rfl (hb hby at_16) rfl ((if0 _ _).trans (feq hc16).2) (by decide) (by decide) ?_
    show Steps p.tables e below (T3.setTop (mkF m 23 #[.val (.long q1), .second, .val (.int p2), .val (.long (F1 q1 p2)), .second, .unset, .unset, .unset, .unset] [])) _
    refine X3.ldc2Long hx hown (mvT hZ (hw _ (List.mem_of_getElem? (i := 12) rfl))) (g := (mkF m 23 #[.val (.long q1), .second, .val (.int p2), .val (.long (F1 q1 p2)), .second, .unset, .unset, .unset, .unset] [])) rfl (hb hby at_23) _ ?_
    show Steps p.tables e below (T3.setTop (mkF m 26 #[.val (.long q1), .second, .val (.int p2), .val (.long (F1 q1 p2)), .second, .unset, .unset, .unset, .unset] [(.long (24 : Int64))])) _
    refine XS.lstore X3.here hx rfl (hb hby at_26) rfl (l' := #[.val (.long q1), .second, .val (.int p2), .val (.long (F1 q1 p2)), .second, .val (.long (24 : Int64)), .second, .unset, .unset]) rfl ?_
    show Steps p.tables e below (T3.setTop (mkF m 28 #[.val (.long q1), .second, .val (.int p2), .val (.long (F1 q1 p2)), .second, .val (.long (24 : Int64)), .second, .unset, .unset] [])) _
    refine XS.lloadN X3.here hx rfl (hb hby at_28) rfl ?_
    show Steps p.tables e below (T3.setTop (mkF m 29 #[.val (.long q1), .second, .val (.int p2), .val (.long (F1 q1 p2)), .second, .val (.long (24 : Int64)), .second, .unset, .unset] [(.long (F1 q1 p2))])) _
    refine st4 _ ?_
    show Steps p.tables e below (T4.setTop (mkF m 32 #[.val (.long q1), .second, .val (.int p2), .val (.long (F1 q1 p2)), .second, .val (.long (24 : Int64)), .second, .unset, .unset] [(.long (F2 (F1 q1 p2)))])) _
    refine XS.lstore X4.here hx rfl (hb hby at_32) rfl (l' := #[.val (.long q1), .second, .val (.int p2), .val (.long (F1 q1 p2)), .second, .val (.long (24 : Int64)), .second, .val (.long (F2 (F1 q1 p2))), .second]) rfl ?_
    show Steps p.tables e below (T4.setTop (mkF m 34 #[.val (.long q1), .second, .val (.int p2), .val (.long (F1 q1 p2)), .second, .val (.long (24 : Int64)), .second, .val (.long (F2 (F1 q1 p2))), .second] [])) _
    refine XS.lload X4.here hx rfl (hb hby at_34) rfl ?_
    show Steps p.tables e below (T4.setTop (mkF m 36 #[.val (.long q1), .second, .val (.int p2), .val (.long (F1 q1 p2)), .second, .val (.long (24 : Int64)), .second, .val (.long (F2 (F1 q1 p2))), .second] [(.long (F2 (F1 q1 p2)))])) _
    refine XS.lload X4.here hx rfl (hb hby at_36) rfl ?_
    show Steps p.tables e below (T4.setTop (mkF m 38 #[.val (.long q1), .second, .val (.int p2), .val (.long (F1 q1 p2)), .second, .val (.long (24 : Int64)), .second, .val (.long (F2 (F1 q1 p2))), .second] [(.long (24 : Int64)), (.long (F2 (F1 q1 p2)))])) _
    refine XS.lcmp X4.here hx rfl (hb hby at_38) rfl ?_
    show Steps p.tables e below (T4.setTop (mkF m 39 #[.val (.long q1), .second, .val (.int p2), .val (.long (F1 q1 p2)), .second, .val (.long (24 : Int64)), .second, .val (.long (F2 (F1 q1 p2))), .second] [(.int (lcmpW (F2 (F1 q1 p2)) (24 : Int64)))])) _
    refine XS.ifNo X4.here hx rfl (hb hby at_39) rfl ((if0 _ _).trans (teq (show (lcmpW (F2 (F1 q1 p2)) (24 : Int64)) = (0 : Int32) from by rw [lw_eq, own_F2]; rw [lw_eq] at hc16; unfold t0_0 at hc16; rw [own_sh] at hc16; first | rw [if_pos hc16] | rw [if_neg hc16])).2) ?_
    show Steps p.tables e below (T4.setTop (mkF m 42 #[.val (.long q1), .second, .val (.int p2), .val (.long (F1 q1 p2)), .second, .val (.long (24 : Int64)), .second, .val (.long (F2 (F1 q1 p2))), .second] [])) _
    refine XS.iconst X4.here hx rfl (hb hby at_42) ?_
    show Steps p.tables e below (T4.setTop (mkF m 43 #[.val (.long q1), .second, .val (.int p2), .val (.long (F1 q1 p2)), .second, .val (.long (24 : Int64)), .second, .val (.long (F2 (F1 q1 p2))), .second] [(.int (1 : Int32))])) _
    refine XS.goto X4.here hx rfl (pc0 := 43) (pc' := 47) rfl (hb hby at_43) (by decide) (by decide) ?_
    show Steps p.tables e below (T4.setTop (mkF m 47 #[.val (.long q1), .second, .val (.int p2), .val (.long (F1 q1 p2)), .second, .val (.long (24 : Int64)), .second, .val (.long (F2 (F1 q1 p2))), .second] [(.int (1 : Int32))])) _
    exact retN X4 hx (t := .boolean) Bd.returns (by simp) (hb hby at_47) hr
  · show Q_rm0 Z q1 p2 h0 n0 _ T4.heap _
    exact ⟨rfl, N4⟩
set_option maxHeartbeats 4000000 in
theorem rm0 (l : Launch) (Z : State) (a0 : Array Value) (hw : ∀ d ∈ tables_1, d.before a0 Z = true) (ws : List Jvm.Cond) (q1 : Int64) (p2 : Int32) (h0 : Heap) (n0 : Nat) (Z0 : n0 ≤ h0.size) :
    MetFree l x (head1 (Jvm.Cond.code x code maxLocals ret :: ws) room_1) (fun a U => a = #[(.long q1), (.int p2)] ∧ Z.Warmed39 U.vm ∧ U.heap = h0) (fun _ _ _ _ _ => True) (fun _ U o U' => ∃ v L, o = .returned v ∧ Q_rm0 Z q1 p2 h0 n0 v U'.heap L ∧ FrameEnd U o U' L room_1.cells room_1.slots) := by
  by_cases hc16 : (lcmpW (t0_0 q1 p2) (0 : Int64)) = (0 : Int32)
  · skip
    exact rm0_f l Z a0 hw ws q1 p2 h0 n0 Z0 hc16
  · skip
    exact rm0_t l Z a0 hw ws q1 p2 h0 n0 Z0 hc16
set_option maxRecDepth 65536 in
set_option maxHeartbeats 40000000 in
theorem comes_1 {Post : Tables → Env → Array Value → State → Outcome → State → Prop} (hpost : ∀ tb e args s v u, (limb_1_1.after args s (.returned v) u = true ∧ limb_1_2.after args s (.returned v) u = true ∧ True) → FrameEnd s (.returned v) u (Jvm.fieldLocs frame_1_writes args s ++ Jvm.arrayLocs frame_1_arrays args s ++ Jvm.staticLocs frame_1_statics s) 0 0 → Post tb e args s (.returned v) u) :
    ArmFor flags0 classFile x code maxLocals ret World_1 tables_1 room_1 Calls_1 rest_1 Pre_1 Post := by
  intro l hfl _ _ p e ha hc hk s m args below hf hA hF happ hP
  obtain ⟨hcalls, hrest, hpre⟩ := hP
  obtain ⟨-, -, -, hnamed, -, -, -, hat⟩ := (Spec.applies_iff hf).mp happ
  obtain ⟨hg, hn⟩ := and_e (Cond.before_iff.mp (show (Jvm.Cond.and given_1 narrow_1).before args s = true from hpre))
  obtain ⟨g1, g2⟩ := and_e hg
  obtain ⟨g3, g4⟩ := and_e g2
  obtain ⟨w0, w1, rfl⟩ : ∃ w0 w1 : Value, args = #[w0, w1] := by
    have hs : args.size = 2 := by simpa [Cond.value, given_1] using g1
    obtain ⟨L⟩ := args
    match L, hs with
    | [w0, w1], _ => exact ⟨w0, w1, rfl⟩
  have hw := fun d (hd : d ∈ tables_1) => atoms_spec (ws := Jvm.Cond.code x code maxLocals ret :: tables_1) hat d (List.mem_cons_of_mem _ hd)
  have hfit : Fit s := fun {y c} hc i hi => by
    obtain ⟨ha, rfl⟩ := Array.getElem?_eq_some_iff.mp hc
    have q := List.all_eq_true.mp ((Array.all_eq_true_iff_forall_mem.mp hF) _ (Array.getElem_mem ha)) i (List.mem_range.mpr hi)
    simpa [Array.getElem?_eq_getElem hi] using q
  obtain ⟨i0, ei0⟩ := isL_v g3
  obtain rfl : w0 = (.long i0) := Option.some.inj ei0
  obtain ⟨i1, ei1⟩ := is_v g4
  obtain rfl : w1 = (.int i1) := Option.some.inj ei1
  obtain ⟨n, o, h1, h2, h3, _, L, rfl, ⟨rfl, N⟩, hq⟩ := rm0 l s _ hw tables_1 i0 i1 s.heap s.heap.size (Nat.le_refl _)  p e ha hc hk s m _ below hf ((Spec.applies_iff_loose hf).mp happ).1 ⟨rfl, State.Warmed39.refl s, rfl⟩ trivial
  refine ⟨n, _, h1, h2, h3, hpost _ _ _ _ _ _ ⟨Cond.after_iff.mpr rfl, Cond.after_iff.mpr (eq_i res_at (Term.int_eval (1)) rfl), trivial⟩ ⟨hq.1, hq.2.1, (hq.2.2.sift fun y hy => Or.inr (N y hy)).mono (by decide) (by decide)⟩⟩
theorem main_1_1 : Claimed_1_1 := comes_1 fun _ _ _ _ _ _ h hF => ⟨h.1, hF⟩
theorem main_1_2 : Claimed_1_2 := comes_1 fun _ _ _ _ _ _ h hF => ⟨h.2.1, hF⟩
end Jvm.Pilot.@@N@@
namespace Jvm.Pilot.@@N@@
open Jvm Jvm.ClassFile Sem Op Lib Jvm.Free Jvm.Stand Jvm.Pilot.@@N@@.Jvm.D
/-! MADE BY PROGRAM (witnessworld.py) out of the Statement's table words and the real class files: 9 classes; the members and pool entries that the words name. The judged class is class 1, her method 2. -/
namespace start1
open Jvm.ClassFile
def u (s : String) : CpInfo := .utf8 (stringToUtf16 s)
/-- a pool by its gaps: so many unusable entries, then the entry; so many at the end -/
def gap : Nat → List CpInfo → List CpInfo
  | 0, r => r
  | n + 1, r => .unusable :: gap n r
def poolList (es : List (Nat × CpInfo)) (last : Nat) : List CpInfo := es.foldr (fun e r => gap e.1 (e.2 :: r)) (gap last [])
def pool (es : List (Nat × CpInfo)) (last : Nat) : Array CpInfo := ⟨poolList es last⟩
def fileOf (pool : Array CpInfo) (this : Nat) (attrs : Array Attribute := #[]) (ms : Array MethodInfo := #[]) (fl : Nat := 33) (sup : Nat := 0) (ifs : Array Nat := #[]) (fds : Array FieldInfo := #[]) : ClassFile where
  minorVersion := 0
  majorVersion := 65
  constantPool := pool
  accessFlags := fl
  thisClass := this
  superClass := sup
  interfaces := ifs
  fields := fds
  methods := ms
  attributes := attrs
def plain (name : String) (sup : Option ClassId) : Class where
  name := name
  kind := .ordinary
  loader := none
  accessFlags := 33
  super := sup
  interfaces := #[]
  cf := none
  fields := #[]
  methods := #[]
  instanceTypes := #[]
  staticTypes := #[]
  resolved := #[]
  callSites := []
  init := .initialized
  statics := none
  mirror := none

def pool0 : Array CpInfo := pool [(5, u "<init>"), (0, u "()V"), (1, .class_ 10), (1, u "java/lang/Object")] 113

def k0m0 : Method := { name := "<init>", desc := "()V", sig := { parameters := [], returnType := none }, accessFlags := 1, code := none }
/-- java/lang/Object -/
def k0 : Class := { plain "java/lang/Object" none with
  accessFlags := 33
  interfaces := #[]
  cf := some (fileOf pool0 8 #[] #[{ accessFlags := 1, nameIndex := 5, descriptorIndex := 6, attributes := #[] }] 33 0 #[] #[])
  fields := #[]
  methods := #[k0m0]
  instanceTypes := #[]
  staticTypes := #[]
  resolved := Array.replicate 124 none
  statics := none }

def pool1 : Array CpInfo := pool [(2, .class_ 4), (1, u "java/lang/Object"), (0, u "<init>"), (0, u "()V"), (0, .long 18446744073709551487), (1, .long 18446744073709551488), (1, .long 127), (1, .long 128), (3, .long 9223372036854775808), (1, .long 9223372036854775807), (1, .long 511), (1, .long 256), (1, .methodref 26 27), (0, .class_ 28), (0, .nameAndType 29 30), (0, u "com/example/wirecall/wirecall/serialization/ValueSizesBoxedPinLaw"), (0, u "pick"), (0, u "(JI)J"), (0, .long 24), (1, .methodref 34 35), (0, .class_ 36), (0, .nameAndType 37 38), (0, u "com/example/wirecall/wirecall/serialization/ValueSizes"), (0, u "boxed"), (0, u "(J)J"), (3, u "law"), (0, u "(JI)Z")] 2

def k1m0 : Method := { name := "<init>", desc := "()V", sig := { parameters := [], returnType := none }, accessFlags := 2, code := none }
def k1c1 : Code := { maxStack := 4, maxLocals := 4, code := method_2_code, exceptionTable := #[], attributes := #[] }
def k1m1 : Method := { name := "pick", desc := "(JI)J", sig := { parameters := [.long, .int], returnType := some .long }, accessFlags := 10, code := some k1c1 }
def k1c2 : Code := { maxStack := 4, maxLocals := 9, code := code, exceptionTable := #[], attributes := #[] }
def k1m2 : Method := { name := "law", desc := "(JI)Z", sig := { parameters := [.long, .int], returnType := some .boolean }, accessFlags := 9, code := some k1c2 }
/-- com/example/wirecall/wirecall/serialization/ValueSizesBoxedPinLaw -/
def k1 : Class := { plain "com/example/wirecall/wirecall/serialization/ValueSizesBoxedPinLaw" (some 0) with
  accessFlags := 49
  interfaces := #[]
  cf := some (fileOf pool1 26 #[] #[{ accessFlags := 2, nameIndex := 5, descriptorIndex := 6, attributes := #[] }, { accessFlags := 10, nameIndex := 29, descriptorIndex := 30, attributes := #[] }, { accessFlags := 9, nameIndex := 42, descriptorIndex := 43, attributes := #[] }] 49 2 #[] #[])
  fields := #[]
  methods := #[k1m0, k1m1, k1m2]
  instanceTypes := #[]
  staticTypes := #[]
  resolved := Array.replicate 46 none
  statics := none }

def pool2 : Array CpInfo := pool [(2, .class_ 4), (1, u "java/lang/Object"), (0, u "<init>"), (0, u "()V"), (21, .class_ 29), (0, u "com/example/wirecall/wirecall/serialization/ValueSizes"), (6, .long 18446744073709551488), (1, .long 127), (1, .long 24), (3, u "LENGTHS"), (0, u "[I"), (42, u "LIST"), (0, u "I"), (2, u "ELEMENTS"), (1, u "MAP"), (0, u "SET"), (1, u "TABLE"), (1, u "ENTRY"), (1, u "TEXT"), (1, u "NUMBER"), (0, u "BIG_NUMBER"), (1, u "OBJECT"), (1, u "FIELD"), (1, u "HASH_COUNT"), (1, u "NUMBERED"), (0, u "DEFINITION"), (1, u "NO_ROOM"), (0, u "Ljava/lang/String;"), (6, u "boxed"), (0, u "(J)J")] 8

def k2m0 : Method := { name := "<init>", desc := "()V", sig := { parameters := [], returnType := none }, accessFlags := 2, code := none }
def k2c1 : Code := { maxStack := 4, maxLocals := 2, code := prog_46_method_4_code, exceptionTable := #[], attributes := #[] }
def k2m1 : Method := { name := "boxed", desc := "(J)J", sig := { parameters := [.long], returnType := some .long }, accessFlags := 8, code := some k2c1 }
/-- com/example/wirecall/wirecall/serialization/ValueSizes -/
def k2 : Class := { plain "com/example/wirecall/wirecall/serialization/ValueSizes" (some 0) with
  accessFlags := 48
  interfaces := #[]
  cf := some (fileOf pool2 28 #[] #[{ accessFlags := 2, nameIndex := 5, descriptorIndex := 6, attributes := #[] }, { accessFlags := 8, nameIndex := 123, descriptorIndex := 124, attributes := #[] }] 48 2 #[] #[{ accessFlags := 24, nameIndex := 88, descriptorIndex := 89, attributes := #[] }, { accessFlags := 24, nameIndex := 92, descriptorIndex := 89, attributes := #[] }, { accessFlags := 24, nameIndex := 94, descriptorIndex := 89, attributes := #[] }, { accessFlags := 24, nameIndex := 95, descriptorIndex := 89, attributes := #[] }, { accessFlags := 24, nameIndex := 97, descriptorIndex := 89, attributes := #[] }, { accessFlags := 24, nameIndex := 99, descriptorIndex := 89, attributes := #[] }, { accessFlags := 24, nameIndex := 101, descriptorIndex := 89, attributes := #[] }, { accessFlags := 24, nameIndex := 103, descriptorIndex := 89, attributes := #[] }, { accessFlags := 24, nameIndex := 104, descriptorIndex := 89, attributes := #[] }, { accessFlags := 24, nameIndex := 106, descriptorIndex := 89, attributes := #[] }, { accessFlags := 24, nameIndex := 108, descriptorIndex := 89, attributes := #[] }, { accessFlags := 24, nameIndex := 110, descriptorIndex := 89, attributes := #[] }, { accessFlags := 24, nameIndex := 112, descriptorIndex := 89, attributes := #[] }, { accessFlags := 24, nameIndex := 113, descriptorIndex := 89, attributes := #[] }, { accessFlags := 26, nameIndex := 44, descriptorIndex := 45, attributes := #[] }, { accessFlags := 24, nameIndex := 115, descriptorIndex := 116, attributes := #[] }])
  fields := #[{ name := "LIST", type := .int, accessFlags := 24, slot := 0, constantValue := 0 }, { name := "ELEMENTS", type := .int, accessFlags := 24, slot := 1, constantValue := 0 }, { name := "MAP", type := .int, accessFlags := 24, slot := 2, constantValue := 0 }, { name := "SET", type := .int, accessFlags := 24, slot := 3, constantValue := 0 }, { name := "TABLE", type := .int, accessFlags := 24, slot := 4, constantValue := 0 }, { name := "ENTRY", type := .int, accessFlags := 24, slot := 5, constantValue := 0 }, { name := "TEXT", type := .int, accessFlags := 24, slot := 6, constantValue := 0 }, { name := "NUMBER", type := .int, accessFlags := 24, slot := 7, constantValue := 0 }, { name := "BIG_NUMBER", type := .int, accessFlags := 24, slot := 8, constantValue := 0 }, { name := "OBJECT", type := .int, accessFlags := 24, slot := 9, constantValue := 0 }, { name := "FIELD", type := .int, accessFlags := 24, slot := 10, constantValue := 0 }, { name := "HASH_COUNT", type := .int, accessFlags := 24, slot := 11, constantValue := 0 }, { name := "NUMBERED", type := .int, accessFlags := 24, slot := 12, constantValue := 0 }, { name := "DEFINITION", type := .int, accessFlags := 24, slot := 13, constantValue := 0 }, { name := "LENGTHS", type := (.array .int), accessFlags := 26, slot := 14, constantValue := 0 }, { name := "NO_ROOM", type := (.object "java/lang/String"), accessFlags := 24, slot := 15, constantValue := 0 }]
  methods := #[k2m0, k2m1]
  instanceTypes := #[]
  staticTypes := #[.int, .int, .int, .int, .int, .int, .int, .int, .int, .int, .int, .int, .int, .int, (.array .int), (.object "java/lang/String")]
  resolved := Array.replicate 133 none
  statics := none }

def pool3 : Array CpInfo := pool [(1, u "java/lang/Cloneable"), (0, .class_ 1), (0, u "java/lang/Object"), (0, .class_ 3)] 3

/-- java/lang/Cloneable -/
def k3 : Class := { plain "java/lang/Cloneable" (some 0) with
  accessFlags := 1537
  interfaces := #[]
  cf := some (fileOf pool3 2 #[] #[] 1537 4 #[] #[])
  fields := #[]
  methods := #[]
  instanceTypes := #[]
  staticTypes := #[]
  resolved := Array.replicate 8 none
  statics := none }

def pool4 : Array CpInfo := pool [(1, u "java/io/Serializable"), (0, .class_ 1), (0, u "java/lang/Object"), (0, .class_ 3)] 3

/-- java/io/Serializable -/
def k4 : Class := { plain "java/io/Serializable" (some 0) with
  accessFlags := 1537
  interfaces := #[]
  cf := some (fileOf pool4 2 #[] #[] 1537 4 #[] #[])
  fields := #[]
  methods := #[]
  instanceTypes := #[]
  staticTypes := #[]
  resolved := Array.replicate 8 none
  statics := none }

/-- the primitive byte -/
def k5 : Class := { plain "byte" none with kind := .primitive 'B', accessFlags := 0x411 }
/-- [B -/
def k6 : Class := { plain "[B" (some 0) with kind := .array 5 .byte, interfaces := #[3, 4], accessFlags := 1041 }

/-- the primitive int -/
def k7 : Class := { plain "int" none with kind := .primitive 'I', accessFlags := 0x411 }
/-- [I -/
def k8 : Class := { plain "[I" (some 0) with kind := .array 7 .int, interfaces := #[3, 4], accessFlags := 1041 }

def heap : Heap := #[]
def classes : Array Class := #[k0, k1, k2, k3, k4, k5, k6, k7, k8]
def interned : List (Array UInt16 × Addr) := []
def slotsUsed : Nat := 0
def theMethod : MethodId := ⟨1, 2⟩
def args0 : Array Value := #[.long 5, .int 3]
def aboutOver (below : List Frame) : State where
  vm := { classes := classes, interned := interned.toArray }
  heap := heap
  slotsUsed := slotsUsed
  threads := #[{ frames := .invoking theMethod args0 :: below }]
def below0 : List Frame := [.native { method := ⟨0, 0⟩, args := #[] }]
def about1 : State := aboutOver below0
def p0 : Program := .bare "" "" ""
def e0 : Env := launch0.env 0 0 0
theorem w_frames : about1.frames = Frame.invoking theMethod args0 :: below0 := rfl
set_option maxRecDepth 65536 in
theorem w_args : argsFit about1.vm theMethod args0 = true := by decide +kernel
set_option maxRecDepth 65536 in
theorem w_heap : heapFits about1 = true := by decide +kernel
set_option maxRecDepth 65536 in
theorem w_runnable : about1.curStatus? = some .runnable := by decide +kernel
set_option maxRecDepth 65536 in
theorem w_alone : about1.alone = true := by decide +kernel
set_option maxRecDepth 65536 in
theorem w_named : about1.methodNamed? x = some theMethod := by decide +kernel
set_option maxRecDepth 65536 in
theorem w_hears : about1.hears theMethod below0 = true := by decide +kernel
set_option maxRecDepth 65536 in
theorem w_ripe : about1.ripe theMethod args0 below0 = true := by decide +kernel
theorem w_running : about1.status = .running := rfl
set_option maxRecDepth 65536 in
theorem w_room : about1.hasRoom e0.platform room_1 = true :=
  launch0.hasRoom_least _ room_1 (by decide +kernel) (by decide +kernel) (by decide +kernel) (by decide +kernel) (by decide +kernel) (by decide +kernel)
theorem allAtoms_all (ts : List Jvm.Cond) (a : Array Jvm.Value) (st : Jvm.State) : (allAtoms ts).before a st = ts.all (fun c => c.before a st) := by
  induction ts with
  | nil => rfl
  | cons c t ih =>
    show (Jvm.Cond.and c (allAtoms t)).before a st = _
    rw [Jvm.Cond.before_and, ih, List.all_cons]
def words1 : List Jvm.Cond := Jvm.Cond.code x code maxLocals ret :: tables_1
/-- a 'code' word, met by the world's own term for the bytes: nothing is compared byte by byte -/
theorem code_word {y : MethodName} {bytes : ByteArray} {mx : Nat} {rt : Option FieldType} {a : Array Value} {s : State} {m : MethodId} {meth : Method} {c : Code} (h1 : s.methodNamed? y = some m) (h2 : s.vm.method? m = some meth) (h3 : meth.code = some c) (h4 : c.code = bytes)
    (h5 : (c.maxLocals == mx && c.exceptionTable.isEmpty && decide (c.maxStack ≤ mostOperands) && decide (meth.sig.returnType = rt) && !meth.locks && decide (parseMethodDescriptor y.desc = some meth.sig)) = true) : (Jvm.Cond.code y bytes mx rt).before a s = true := by
  simp only [Bool.and_eq_true, beq_iff_eq, Bool.not_eq_true', decide_eq_true_eq] at h5
  obtain ⟨⟨⟨⟨⟨g1, g2⟩, g3⟩, g4⟩, g5⟩, g6⟩ := h5
  simp [Cond.before, Cond.holds, Cond.value, h1, h2, h3, h4, g1, g2, g3, g4, g5, g6]
def isCode : Jvm.Cond → Bool
  | .code _ _ _ _ => true
  | _ => false
theorem all_split {L : List Jvm.Cond} {P : Jvm.Cond → Bool} (h1 : L.all (fun c => isCode c || P c) = true) (h2 : ∀ c ∈ L.filter isCode, P c = true) : L.all P = true := by
  refine List.all_eq_true.mpr fun c hc => ?_
  have h := List.all_eq_true.mp h1 c hc
  rcases Bool.eq_false_or_eq_true (isCode c) with hi | hi
  · exact h2 c (List.mem_filter.mpr ⟨hc, hi⟩)
  · simpa [hi] using h
set_option maxRecDepth 65536 in
theorem w_c0 : (Jvm.Cond.code x code maxLocals ret).before args0 about1 = true := code_word (m := ⟨1, 2⟩) (meth := k1m2) (c := k1c2) (by decide +kernel) rfl rfl rfl (by decide +kernel)
set_option maxRecDepth 65536 in
theorem w_c1 : (Jvm.Cond.code ({ cls := "com/example/wirecall/wirecall/serialization/ValueSizesBoxedPinLaw", name := "pick", desc := "(JI)J" } : Jvm.MethodName) method_2_code (4 : Nat) (Option.some Jvm.ClassFile.FieldType.long)).before args0 about1 = true := code_word (m := ⟨1, 1⟩) (meth := k1m1) (c := k1c1) (by decide +kernel) rfl rfl rfl (by decide +kernel)
set_option maxRecDepth 65536 in
theorem w_c2 : (Jvm.Cond.code ({ cls := "com/example/wirecall/wirecall/serialization/ValueSizes", name := "boxed", desc := "(J)J" } : Jvm.MethodName) prog_46_method_4_code (2 : Nat) (Option.some Jvm.ClassFile.FieldType.long)).before args0 about1 = true := code_word (m := ⟨2, 1⟩) (meth := k2m1) (c := k2c1) (by decide +kernel) rfl rfl rfl (by decide +kernel)
def codes1 : List Jvm.Cond := [Jvm.Cond.code x code maxLocals ret, Jvm.Cond.code ({ cls := "com/example/wirecall/wirecall/serialization/ValueSizesBoxedPinLaw", name := "pick", desc := "(JI)J" } : Jvm.MethodName) method_2_code (4 : Nat) (Option.some Jvm.ClassFile.FieldType.long), Jvm.Cond.code ({ cls := "com/example/wirecall/wirecall/serialization/ValueSizes", name := "boxed", desc := "(J)J" } : Jvm.MethodName) prog_46_method_4_code (2 : Nat) (Option.some Jvm.ClassFile.FieldType.long)]
set_option maxRecDepth 65536 in
theorem codes_eq : words1.filter isCode = codes1 := rfl
theorem w_codes : ∀ c ∈ words1.filter isCode, c.before args0 about1 = true := by
  rw [codes_eq]
  intro c hc
  simp only [codes1, List.mem_cons, List.not_mem_nil, or_false] at hc
  rcases hc with rfl | rfl | rfl
  · exact w_c0
  · exact w_c1
  · exact w_c2
set_option maxRecDepth 65536 in
theorem w_t1 : words1.all (fun c => isCode c || c.before args0 about1) = true := by decide +kernel
theorem w_tables : (allAtoms (Jvm.Cond.code x code maxLocals ret :: tables_1)).before args0 about1 = true := by
  rw [allAtoms_all]
  show words1.all (fun c => c.before args0 about1) = true
  refine all_split ?_ w_codes
  rw [w_t1]
set_option maxRecDepth 65536 in
theorem w_case : (Jvm.Cond.and given_1 narrow_1).before args0 about1 = true := by decide +kernel
theorem w_applies : (headSpec (Jvm.Cond.code x code maxLocals ret :: tables_1) room_1).applies x e0.platform about1 = true :=
  (Spec.applies_iff w_frames).mpr ⟨w_running, w_runnable, w_alone, w_named, w_hears, w_ripe, w_room, w_tables⟩
theorem atStart : AtStart classFile x code maxLocals ret World_1 tables_1 room_1 Calls_1 rest_1 Pre_1 launch0 p0 e0 about1 theMethod args0 below0 :=
  ⟨lists_1, trivial, launch0.admits_env _ _ _, launch0.least_env, fairChoices_fair.cas, fairChoices_fair.clock, w_frames, w_args, w_heap, w_applies, trivial, trivial, w_case⟩
end start1
theorem witness_1 : WitnessClaimed_1 := ⟨start1.p0, start1.e0, start1.about1, start1.theMethod, start1.args0, start1.below0, start1.atStart⟩
end Jvm.Pilot.@@N@@
