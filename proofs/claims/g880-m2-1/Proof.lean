import JvmDerived
import JvmDerived.Pilot.@@N@@Statement
import JvmDerived.Pilot.@@N@@Code
set_option linter.unusedVariables false
set_option linter.unusedSimpArgs false
namespace Jvm.RoadKit
open Sem ClassFile Op Lib Jvm.Stand Jvm.Free Jvm.LawKit
section New
variable {p : Program} {l : Launch} {e : Env} {R : Room} {s : State} {m : MethodId} {args : Array Value} {below : List Frame} {meth : Method} {c : Code} {T : State} {locs : List Loc} {cells slots : Nat}
theorem retI (X : Stand p l e R s m args below meth c T locs cells slots) (hx : p.tables.exec = Jvm.exec) {pc : Nat} {Ls : Array Slot} {z : Int32} {rest : List Value} (hret : meth.sig.returnType = some .int) (hd : decode c.code pc = .ok (.ireturn, 1)) {fs : List Frame}
    (hl : ∀ (f : JFrame) (acts : List Action), f.method = m → f.locked = none → f.entered = [] → (doReturn e (T.setTop f) acts (some (.int z))).1 = T.setFrames fs) : Steps p.tables e below (T.setTop (mkF m pc Ls (.int z :: rest))) (T.setFrames fs) := by
  have hm' : T.vm.method? m = some meth := X.method'
  have hn : narrow .int (.int z) = .int z := rfl
  show Steps p.tables e below (T.setTop { method := m, pc := pc, locals := Ls, stack := _ :: rest, locked := none }) _
  jvm_step X.here [X.here.top, hx, hd, hm', hret, hn]
  first | (intro acts; rw [hl _ acts rfl rfl rfl]) | rw [hl _ _ rfl rfl rfl]
  exact Steps.refl _
end New
end Jvm.RoadKit
namespace Jvm.Pilot.@@N@@
open Jvm Jvm.ClassFile Sem Op Lib Jvm.Free Jvm.Stand Jvm.LawKit Jvm.RoadKit Bundle Jvm.Pilot.@@N@@.Jvm.D
theorem own_nm {a b : Addr} {l : List Addr} (h : a ≠ b) (r : a ∉ l) : a ∉ b :: l := fun q => (List.mem_cons.mp q).elim h r
theorem own_n0 {a : Addr} : a ∉ ([] : List Addr) := fun q => nomatch q
theorem own_nst {Z : State} {h : Heap} {a : Addr} {C : String} (F : Exa Z h a C) : ∃ c : Cell, h[a]? = some c ∧ c.vm.isStatics = false := by obtain ⟨c, k, h1, -, -, h4, -⟩ := F; exact ⟨c, h1, h4⟩
theorem own_nstV {Z : State} {h : Heap} {a : Addr} {k : ClassId} {ty : FieldType} {z : Int32} {vs : List Value} {dv : Value} (F : Arv Z h a k ty z vs dv) : ∃ c : Cell, h[a]? = some c ∧ c.vm.isStatics = false := by
  obtain ⟨c, A, -⟩ := F
  refine ⟨c, A.1, ?_⟩
  have q := A.2.1.1
  cases e : c.vm <;> first | rfl | exact absurd e (q _)
theorem own_q0 {h : Heap} : ∀ x ∈ ([] : List Addr), ∃ c : Cell, h[x]? = some c ∧ c.vm.isStatics = false := fun _ q => nomatch q
theorem own_qc {h : Heap} {a : Addr} {l : List Addr} (p : ∃ c : Cell, h[a]? = some c ∧ c.vm.isStatics = false) (r : ∀ x ∈ l, ∃ c : Cell, h[x]? = some c ∧ c.vm.isStatics = false) : ∀ x ∈ a :: l, ∃ c : Cell, h[x]? = some c ∧ c.vm.isStatics = false := fun x q => (List.mem_cons.mp q).elim (fun e => e ▸ p) (r x)
theorem own_sta_keep {Z : State} {h h' : Heap} {ws : List Addr} {C n d : String} {v : Value} (F : Sta Z h C n d v) (K : Keep h h' ws) (q : ∀ x ∈ ws, ∃ c : Cell, h[x]? = some c ∧ c.vm.isStatics = false) : Sta Z h' C n d v := by
  obtain ⟨cf, i, k, f, st, cell, h1, h2, h3, h4, h5, h6, h7⟩ := F
  refine ⟨cf, i, k, f, st, cell, h1, h2, h3, h4, K.2.1 _ _ h5 fun z => ?_, h6, h7⟩
  obtain ⟨c, g1, g2⟩ := q _ z
  cases h5.symm.trans g1; rw [h6] at g2; cases g2
theorem own_eqI {a b : Term} {args : Array Value} {first s : State} {o : Option Outcome} {idx : List Nat} {k : Int32} (h : (Jvm.Cond.eq a b).value args first o s idx = some true) (hb : b.eval args first o idx s = some (.int k)) : a.eval args first o idx s = some (.int k) := by
  obtain ⟨x, y, ha, hb', K, K'⟩ := cmp_v (Or.inl h)
  cases hb.symm.trans hb'
  obtain ⟨z, rfl⟩ := K'
  simp [Cond.value, ha, hb] at h
  rw [ha, h]
theorem own_eqR {a b : Term} {args : Array Value} {first s : State} {o : Option Outcome} {idx : List Nat} {k : Addr} (h : (Jvm.Cond.eq a b).value args first o s idx = some true) (hb : b.eval args first o idx s = some (.ref k)) : a.eval args first o idx s = some (.ref k) := by
  obtain ⟨x, y, ha, hb', K, K'⟩ := cmp_v (Or.inl h)
  cases hb.symm.trans hb'
  have q := gotT (eq_R ha hb K'.2 rfl) h
  rw [ha, q]
def F1 (a1 : Addr) (s_OPTIMAL : Addr) (s_LIMIT : Addr) : Int32 := (if a1 = s_OPTIMAL then (1 : Int32) else (if a1 = s_LIMIT then (1 : Int32) else (0 : Int32)))
theorem d1_0 : decode prog_18_method_4_code 0 = .ok (.aload_n 0, 1) := by decide +kernel
theorem d1_1 : decode prog_18_method_4_code 1 = .ok (.getstatic 3, 3) := by decide +kernel
theorem d1_4 : decode prog_18_method_4_code 4 = .ok (.if_acmp .eq 10, 3) := by decide +kernel
theorem d1_7 : decode prog_18_method_4_code 7 = .ok (.aload_n 0, 1) := by decide +kernel
theorem d1_8 : decode prog_18_method_4_code 8 = .ok (.getstatic 7, 3) := by decide +kernel
theorem d1_11 : decode prog_18_method_4_code 11 = .ok (.if_acmp .ne 7, 3) := by decide +kernel
theorem d1_14 : decode prog_18_method_4_code 14 = .ok (.iconst 1, 1) := by decide +kernel
theorem d1_15 : decode prog_18_method_4_code 15 = .ok (.goto 4, 3) := by decide +kernel
theorem d1_19 : decode prog_18_method_4_code 19 = .ok (.ireturn, 1) := by decide +kernel
theorem pn_1 : plainName "com/example/switchyard/switchyard/solver/Solution$Status" = true := by first | (simp [plainName, overriddenIn]; done) | decide +kernel
theorem ef_1 (m : MethodId) (x0 : Addr) : entryFrame m #[(.ref x0)] 1 = mkF m 0 #[.val (.ref x0)] [] := by first | (simp [entryFrame, mkF, argsToLocals, Value.category]; done) | rfl
theorem d1_18 : decode prog_18_method_4_code 18 = .ok (.iconst 0, 1) := by decide +kernel
def Q_rm1 (Z : State) (a1 : Addr) (s_OPTIMAL : Addr) (s_LIMIT : Addr) (h0 : Heap) (n0 : Nat) (v : Option Value) (h : Heap) (L : List Loc) : Prop := v = some (.int (F1 a1 s_OPTIMAL s_LIMIT)) ∧ Fr n0 L ∧ h = h0
set_option maxRecDepth 65536 in
set_option maxHeartbeats 40000000 in
theorem rm1_ff (l : Launch) (Z : State) (a0 : Array Value) (hw : ∀ d ∈ tables_1, d.before a0 Z = true) (ws : List Jvm.Cond) (a1 : Addr) (s_OPTIMAL : Addr) (s_LIMIT : Addr) (h0 : Heap) (n0 : Nat) (Z0 : n0 ≤ h0.size) (S_OPTIMAL : Sta Z h0 "com/example/switchyard/switchyard/solver/Solution$Status" "OPTIMAL" "Lcom/example/switchyard/switchyard/solver/Solution$Status;" (.ref s_OPTIMAL)) (S_LIMIT : Sta Z h0 "com/example/switchyard/switchyard/solver/Solution$Status" "LIMIT" "Lcom/example/switchyard/switchyard/solver/Solution$Status;" (.ref s_LIMIT)) (ha4 : ¬ (a1 = s_OPTIMAL)) (ha11 : a1 = s_LIMIT) :
    MetFree l (⟨"com/example/switchyard/switchyard/solver/Solution$Status", "hasSolution", "()Z"⟩ : MethodName) (head1 (Jvm.Cond.code (⟨"com/example/switchyard/switchyard/solver/Solution$Status", "hasSolution", "()Z"⟩ : MethodName) prog_18_method_4_code 1 (some .boolean) :: ws) ({ frames := 0, cells := 0, slots := 0, locals := 0 } : Room)) (fun a U => a = #[(.ref a1)] ∧ Z.Warmed39 U.vm ∧ U.heap = h0) (fun _ _ _ _ _ => True) (fun _ U o U' => ∃ v L, o = .returned v ∧ Q_rm1 Z a1 s_OPTIMAL s_LIMIT h0 n0 v U'.heap L ∧ FrameEnd U o U' L ({ frames := 0, cells := 0, slots := 0, locals := 0 } : Room).cells ({ frames := 0, cells := 0, slots := 0, locals := 0 } : Room).slots) := by
  refine MetFree.of_bodySF (plainFor_of_name pn_1) hisR ?_
  intro p e s m args below meth c s₁ Bd hml0 hP hK
  obtain ⟨rfl, hZ, hh⟩ := hP
  have hx := Bd.exec
  have hby := Bd.bytes
  have hml : c.maxLocals = 1 := hml0
  have hown : s.vm.findClass "com/example/switchyard/switchyard/solver/Solution$Status" = some m.cls := findClass_of_methodNamed Bd.named
  have hnm := (name_of_methodNamed Bd.named Bd.method).1
  have X0 : Stand p l e ({ frames := 0, cells := 0, slots := 0, locals := 0 } : Room) s m #[(.ref a1)] below meth c s₁ [] 0 0 := Stand.of_body Bd
  have e0 : s₁.heap = h0 := by rw [← hh, Bd.state]; rfl
  have N0 := Fr.nil n0
  have pre0 : ∀ t, Steps p.tables e below (s₁.setTop (mkF m 0 #[.val (.ref a1)] [])) t → Steps p.tables e below (s₁.setTop (entryFrame m #[(.ref a1)] 1)) t := fun t k => castTop (ef_1 m a1) k
  obtain ⟨T2, X2, e2, st2⟩ := getS2 X0 hx hZ hown (host := "") (Or.inl (hw _ (List.mem_of_getElem? (i := 8) rfl))) Via.refl e0 S_OPTIMAL (g := (mkF m 1 #[.val (.ref a1)] [(.ref a1)])) rfl (hb hby d1_1)
  obtain ⟨T3, X3, e3, st3⟩ := getS2 X2 hx hZ hown (host := "") (Or.inl (hw _ (List.mem_of_getElem? (i := 11) rfl))) Via.refl e2 S_LIMIT (g := (mkF m 8 #[.val (.ref a1)] [(.ref a1)])) rfl (hb hby d1_8)
  obtain ⟨fs, hr, hrun, hended, hW, hsame⟩ := X3.leave (v := some (.int (1 : Int32))) (fun h => by rw [Bd.returns] at h; cases h)
  refine ⟨_, _, pre0 _ ?_, hrun, hended, _, _, rfl, ?_, ⟨_, rfl⟩, hW, hsame.mono (by decide) (by decide)⟩
  · show Steps p.tables e below (s₁.setTop (mkF m 0 #[.val (.ref a1)] [])) _
    refine XS.aloadN X0.here hx rfl (hb hby d1_0) rfl rfl ?_
    show Steps p.tables e below (s₁.setTop (mkF m 1 #[.val (.ref a1)] [(.ref a1)])) _
    refine st2 _ ?_
    show Steps p.tables e below (T2.setTop (mkF m 4 #[.val (.ref a1)] [(.ref s_OPTIMAL), (.ref a1)])) _
    refine Jvm.RoadKit.acmp (g := (mkF m 4 #[.val (.ref a1)] [(.ref s_OPTIMAL), (.ref a1)])) X2 hx rfl rfl rfl (pc0 := 4) (pc' := 7) (same := false) rfl (hb hby d1_4) rfl (decide_eq_false fun q => ha4 (Value.ref.inj q)) (by decide) (by decide) ?_
    show Steps p.tables e below (T2.setTop (mkF m 7 #[.val (.ref a1)] [])) _
    refine XS.aloadN X2.here hx rfl (hb hby d1_7) rfl rfl ?_
    show Steps p.tables e below (T2.setTop (mkF m 8 #[.val (.ref a1)] [(.ref a1)])) _
    refine st3 _ ?_
    show Steps p.tables e below (T3.setTop (mkF m 11 #[.val (.ref a1)] [(.ref s_LIMIT), (.ref a1)])) _
    refine Jvm.RoadKit.acmp (g := (mkF m 11 #[.val (.ref a1)] [(.ref s_LIMIT), (.ref a1)])) X3 hx rfl rfl rfl (pc0 := 11) (pc' := 14) (same := true) rfl (hb hby d1_11) rfl (decide_eq_true (congrArg Value.ref ha11)) (by decide) (by decide) ?_
    show Steps p.tables e below (T3.setTop (mkF m 14 #[.val (.ref a1)] [])) _
    refine XS.iconst X3.here hx rfl (hb hby d1_14) ?_
    show Steps p.tables e below (T3.setTop (mkF m 15 #[.val (.ref a1)] [(.int (1 : Int32))])) _
    refine XS.goto X3.here hx rfl (pc0 := 15) (pc' := 19) rfl (hb hby d1_15) (by decide) (by decide) ?_
    show Steps p.tables e below (T3.setTop (mkF m 19 #[.val (.ref a1)] [(.int (1 : Int32))])) _
    exact retN X3 hx (t := .boolean) Bd.returns (by simp) (hb hby d1_19) hr
  · show Q_rm1 Z a1 s_OPTIMAL s_LIMIT h0 n0 _ T3.heap _
    exact ⟨by rw [F1, if_neg ha4, if_pos ha11], N0, e3⟩
set_option maxRecDepth 65536 in
set_option maxHeartbeats 40000000 in
theorem rm1_ft (l : Launch) (Z : State) (a0 : Array Value) (hw : ∀ d ∈ tables_1, d.before a0 Z = true) (ws : List Jvm.Cond) (a1 : Addr) (s_OPTIMAL : Addr) (s_LIMIT : Addr) (h0 : Heap) (n0 : Nat) (Z0 : n0 ≤ h0.size) (S_OPTIMAL : Sta Z h0 "com/example/switchyard/switchyard/solver/Solution$Status" "OPTIMAL" "Lcom/example/switchyard/switchyard/solver/Solution$Status;" (.ref s_OPTIMAL)) (S_LIMIT : Sta Z h0 "com/example/switchyard/switchyard/solver/Solution$Status" "LIMIT" "Lcom/example/switchyard/switchyard/solver/Solution$Status;" (.ref s_LIMIT)) (ha4 : ¬ (a1 = s_OPTIMAL)) (ha11 : ¬ (a1 = s_LIMIT)) :
    MetFree l (⟨"com/example/switchyard/switchyard/solver/Solution$Status", "hasSolution", "()Z"⟩ : MethodName) (head1 (Jvm.Cond.code (⟨"com/example/switchyard/switchyard/solver/Solution$Status", "hasSolution", "()Z"⟩ : MethodName) prog_18_method_4_code 1 (some .boolean) :: ws) ({ frames := 0, cells := 0, slots := 0, locals := 0 } : Room)) (fun a U => a = #[(.ref a1)] ∧ Z.Warmed39 U.vm ∧ U.heap = h0) (fun _ _ _ _ _ => True) (fun _ U o U' => ∃ v L, o = .returned v ∧ Q_rm1 Z a1 s_OPTIMAL s_LIMIT h0 n0 v U'.heap L ∧ FrameEnd U o U' L ({ frames := 0, cells := 0, slots := 0, locals := 0 } : Room).cells ({ frames := 0, cells := 0, slots := 0, locals := 0 } : Room).slots) := by
  refine MetFree.of_bodySF (plainFor_of_name pn_1) hisR ?_
  intro p e s m args below meth c s₁ Bd hml0 hP hK
  obtain ⟨rfl, hZ, hh⟩ := hP
  have hx := Bd.exec
  have hby := Bd.bytes
  have hml : c.maxLocals = 1 := hml0
  have hown : s.vm.findClass "com/example/switchyard/switchyard/solver/Solution$Status" = some m.cls := findClass_of_methodNamed Bd.named
  have hnm := (name_of_methodNamed Bd.named Bd.method).1
  have X0 : Stand p l e ({ frames := 0, cells := 0, slots := 0, locals := 0 } : Room) s m #[(.ref a1)] below meth c s₁ [] 0 0 := Stand.of_body Bd
  have e0 : s₁.heap = h0 := by rw [← hh, Bd.state]; rfl
  have N0 := Fr.nil n0
  have pre0 : ∀ t, Steps p.tables e below (s₁.setTop (mkF m 0 #[.val (.ref a1)] [])) t → Steps p.tables e below (s₁.setTop (entryFrame m #[(.ref a1)] 1)) t := fun t k => castTop (ef_1 m a1) k
  obtain ⟨T2, X2, e2, st2⟩ := getS2 X0 hx hZ hown (host := "") (Or.inl (hw _ (List.mem_of_getElem? (i := 8) rfl))) Via.refl e0 S_OPTIMAL (g := (mkF m 1 #[.val (.ref a1)] [(.ref a1)])) rfl (hb hby d1_1)
  obtain ⟨T3, X3, e3, st3⟩ := getS2 X2 hx hZ hown (host := "") (Or.inl (hw _ (List.mem_of_getElem? (i := 11) rfl))) Via.refl e2 S_LIMIT (g := (mkF m 8 #[.val (.ref a1)] [(.ref a1)])) rfl (hb hby d1_8)
  obtain ⟨fs, hr, hrun, hended, hW, hsame⟩ := X3.leave (v := some (.int (0 : Int32))) (fun h => by rw [Bd.returns] at h; cases h)
  refine ⟨_, _, pre0 _ ?_, hrun, hended, _, _, rfl, ?_, ⟨_, rfl⟩, hW, hsame.mono (by decide) (by decide)⟩
  · show Steps p.tables e below (s₁.setTop (mkF m 0 #[.val (.ref a1)] [])) _
    refine XS.aloadN X0.here hx rfl (hb hby d1_0) rfl rfl ?_
    show Steps p.tables e below (s₁.setTop (mkF m 1 #[.val (.ref a1)] [(.ref a1)])) _
    refine st2 _ ?_
    show Steps p.tables e below (T2.setTop (mkF m 4 #[.val (.ref a1)] [(.ref s_OPTIMAL), (.ref a1)])) _
    refine Jvm.RoadKit.acmp (g := (mkF m 4 #[.val (.ref a1)] [(.ref s_OPTIMAL), (.ref a1)])) X2 hx rfl rfl rfl (pc0 := 4) (pc' := 7) (same := false) rfl (hb hby d1_4) rfl (decide_eq_false fun q => ha4 (Value.ref.inj q)) (by decide) (by decide) ?_
    show Steps p.tables e below (T2.setTop (mkF m 7 #[.val (.ref a1)] [])) _
    refine XS.aloadN X2.here hx rfl (hb hby d1_7) rfl rfl ?_
    show Steps p.tables e below (T2.setTop (mkF m 8 #[.val (.ref a1)] [(.ref a1)])) _
    refine st3 _ ?_
    show Steps p.tables e below (T3.setTop (mkF m 11 #[.val (.ref a1)] [(.ref s_LIMIT), (.ref a1)])) _
    refine Jvm.RoadKit.acmp (g := (mkF m 11 #[.val (.ref a1)] [(.ref s_LIMIT), (.ref a1)])) X3 hx rfl rfl rfl (pc0 := 11) (pc' := 18) (same := false) rfl (hb hby d1_11) rfl (decide_eq_false fun q => ha11 (Value.ref.inj q)) (by decide) (by decide) ?_
    show Steps p.tables e below (T3.setTop (mkF m 18 #[.val (.ref a1)] [])) _
    refine XS.iconst X3.here hx rfl (hb hby d1_18) ?_
    show Steps p.tables e below (T3.setTop (mkF m 19 #[.val (.ref a1)] [(.int (0 : Int32))])) _
    exact retN X3 hx (t := .boolean) Bd.returns (by simp) (hb hby d1_19) hr
  · show Q_rm1 Z a1 s_OPTIMAL s_LIMIT h0 n0 _ T3.heap _
    exact ⟨by rw [F1, if_neg ha4, if_neg ha11], N0, e3⟩
set_option maxRecDepth 65536 in
set_option maxHeartbeats 40000000 in
theorem rm1_t (l : Launch) (Z : State) (a0 : Array Value) (hw : ∀ d ∈ tables_1, d.before a0 Z = true) (ws : List Jvm.Cond) (a1 : Addr) (s_OPTIMAL : Addr) (s_LIMIT : Addr) (h0 : Heap) (n0 : Nat) (Z0 : n0 ≤ h0.size) (S_OPTIMAL : Sta Z h0 "com/example/switchyard/switchyard/solver/Solution$Status" "OPTIMAL" "Lcom/example/switchyard/switchyard/solver/Solution$Status;" (.ref s_OPTIMAL)) (S_LIMIT : Sta Z h0 "com/example/switchyard/switchyard/solver/Solution$Status" "LIMIT" "Lcom/example/switchyard/switchyard/solver/Solution$Status;" (.ref s_LIMIT)) (ha4 : a1 = s_OPTIMAL) :
    MetFree l (⟨"com/example/switchyard/switchyard/solver/Solution$Status", "hasSolution", "()Z"⟩ : MethodName) (head1 (Jvm.Cond.code (⟨"com/example/switchyard/switchyard/solver/Solution$Status", "hasSolution", "()Z"⟩ : MethodName) prog_18_method_4_code 1 (some .boolean) :: ws) ({ frames := 0, cells := 0, slots := 0, locals := 0 } : Room)) (fun a U => a = #[(.ref a1)] ∧ Z.Warmed39 U.vm ∧ U.heap = h0) (fun _ _ _ _ _ => True) (fun _ U o U' => ∃ v L, o = .returned v ∧ Q_rm1 Z a1 s_OPTIMAL s_LIMIT h0 n0 v U'.heap L ∧ FrameEnd U o U' L ({ frames := 0, cells := 0, slots := 0, locals := 0 } : Room).cells ({ frames := 0, cells := 0, slots := 0, locals := 0 } : Room).slots) := by
  refine MetFree.of_bodySF (plainFor_of_name pn_1) hisR ?_
  intro p e s m args below meth c s₁ Bd hml0 hP hK
  obtain ⟨rfl, hZ, hh⟩ := hP
  have hx := Bd.exec
  have hby := Bd.bytes
  have hml : c.maxLocals = 1 := hml0
  have hown : s.vm.findClass "com/example/switchyard/switchyard/solver/Solution$Status" = some m.cls := findClass_of_methodNamed Bd.named
  have hnm := (name_of_methodNamed Bd.named Bd.method).1
  have X0 : Stand p l e ({ frames := 0, cells := 0, slots := 0, locals := 0 } : Room) s m #[(.ref a1)] below meth c s₁ [] 0 0 := Stand.of_body Bd
  have e0 : s₁.heap = h0 := by rw [← hh, Bd.state]; rfl
  have N0 := Fr.nil n0
  have pre0 : ∀ t, Steps p.tables e below (s₁.setTop (mkF m 0 #[.val (.ref a1)] [])) t → Steps p.tables e below (s₁.setTop (entryFrame m #[(.ref a1)] 1)) t := fun t k => castTop (ef_1 m a1) k
  obtain ⟨T2, X2, e2, st2⟩ := getS2 X0 hx hZ hown (host := "") (Or.inl (hw _ (List.mem_of_getElem? (i := 8) rfl))) Via.refl e0 S_OPTIMAL (g := (mkF m 1 #[.val (.ref a1)] [(.ref a1)])) rfl (hb hby d1_1)
  obtain ⟨fs, hr, hrun, hended, hW, hsame⟩ := X2.leave (v := some (.int (1 : Int32))) (fun h => by rw [Bd.returns] at h; cases h)
  refine ⟨_, _, pre0 _ ?_, hrun, hended, _, _, rfl, ?_, ⟨_, rfl⟩, hW, hsame.mono (by decide) (by decide)⟩
  · show Steps p.tables e below (s₁.setTop (mkF m 0 #[.val (.ref a1)] [])) _
    refine XS.aloadN X0.here hx rfl (hb hby d1_0) rfl rfl ?_
    show Steps p.tables e below (s₁.setTop (mkF m 1 #[.val (.ref a1)] [(.ref a1)])) _
    refine st2 _ ?_
    show Steps p.tables e below (T2.setTop (mkF m 4 #[.val (.ref a1)] [(.ref s_OPTIMAL), (.ref a1)])) _
    refine Jvm.RoadKit.acmp (g := (mkF m 4 #[.val (.ref a1)] [(.ref s_OPTIMAL), (.ref a1)])) X2 hx rfl rfl rfl (pc0 := 4) (pc' := 14) (same := true) rfl (hb hby d1_4) rfl (decide_eq_true (congrArg Value.ref ha4)) (by decide) (by decide) ?_
    show Steps p.tables e below (T2.setTop (mkF m 14 #[.val (.ref a1)] [])) _
    refine XS.iconst X2.here hx rfl (hb hby d1_14) ?_
    show Steps p.tables e below (T2.setTop (mkF m 15 #[.val (.ref a1)] [(.int (1 : Int32))])) _
    refine XS.goto X2.here hx rfl (pc0 := 15) (pc' := 19) rfl (hb hby d1_15) (by decide) (by decide) ?_
    show Steps p.tables e below (T2.setTop (mkF m 19 #[.val (.ref a1)] [(.int (1 : Int32))])) _
    exact retN X2 hx (t := .boolean) Bd.returns (by simp) (hb hby d1_19) hr
  · show Q_rm1 Z a1 s_OPTIMAL s_LIMIT h0 n0 _ T2.heap _
    exact ⟨by rw [F1, if_pos ha4], N0, e2⟩
set_option maxHeartbeats 4000000 in
theorem rm1 (l : Launch) (Z : State) (a0 : Array Value) (hw : ∀ d ∈ tables_1, d.before a0 Z = true) (ws : List Jvm.Cond) (a1 : Addr) (s_OPTIMAL : Addr) (s_LIMIT : Addr) (h0 : Heap) (n0 : Nat) (Z0 : n0 ≤ h0.size) (S_OPTIMAL : Sta Z h0 "com/example/switchyard/switchyard/solver/Solution$Status" "OPTIMAL" "Lcom/example/switchyard/switchyard/solver/Solution$Status;" (.ref s_OPTIMAL)) (S_LIMIT : Sta Z h0 "com/example/switchyard/switchyard/solver/Solution$Status" "LIMIT" "Lcom/example/switchyard/switchyard/solver/Solution$Status;" (.ref s_LIMIT)) :
    MetFree l (⟨"com/example/switchyard/switchyard/solver/Solution$Status", "hasSolution", "()Z"⟩ : MethodName) (head1 (Jvm.Cond.code (⟨"com/example/switchyard/switchyard/solver/Solution$Status", "hasSolution", "()Z"⟩ : MethodName) prog_18_method_4_code 1 (some .boolean) :: ws) ({ frames := 0, cells := 0, slots := 0, locals := 0 } : Room)) (fun a U => a = #[(.ref a1)] ∧ Z.Warmed39 U.vm ∧ U.heap = h0) (fun _ _ _ _ _ => True) (fun _ U o U' => ∃ v L, o = .returned v ∧ Q_rm1 Z a1 s_OPTIMAL s_LIMIT h0 n0 v U'.heap L ∧ FrameEnd U o U' L ({ frames := 0, cells := 0, slots := 0, locals := 0 } : Room).cells ({ frames := 0, cells := 0, slots := 0, locals := 0 } : Room).slots) := by
  by_cases ha4 : a1 = s_OPTIMAL
  · skip
    exact rm1_t l Z a0 hw ws a1 s_OPTIMAL s_LIMIT h0 n0 Z0 S_OPTIMAL S_LIMIT ha4
  · skip
    by_cases ha11 : a1 = s_LIMIT
    · skip
      exact rm1_ff l Z a0 hw ws a1 s_OPTIMAL s_LIMIT h0 n0 Z0 S_OPTIMAL S_LIMIT ha4 ha11
    · skip
      exact rm1_ft l Z a0 hw ws a1 s_OPTIMAL s_LIMIT h0 n0 Z0 S_OPTIMAL S_LIMIT ha4 ha11
theorem pd__28_29Z : parseMethodDescriptor "()Z" = some ⟨[], some .boolean⟩ := by decide +kernel
theorem pn_0 : plainName "com/example/switchyard/switchyard/solver/StatusHasSolutionPinLaw" = true := by first | (simp [plainName, overriddenIn]; done) | decide +kernel
theorem ef_0 (m : MethodId) (x0 : Int32) : entryFrame m #[(.int x0)] maxLocals = mkF m 0 #[.val (.int x0), .unset, .unset, .unset] [] := by first | (simp [entryFrame, mkF, argsToLocals, Value.category, maxLocals]; done) | rfl
def Q_rm0 (Z : State) (p1 : Int32) (s_OPTIMAL : Addr) (s_LIMIT : Addr) (s_LIMIT_WITHOUT_SOLUTION : Addr) (s_INFEASIBLE : Addr) (h0 : Heap) (n0 : Nat) (v : Option Value) (h : Heap) (L : List Loc) : Prop := v = some (.int (1 : Int32)) ∧ Fr n0 L
set_option maxRecDepth 65536 in
set_option maxHeartbeats 40000000 in
theorem rm0_f (l : Launch) (Z : State) (a0 : Array Value) (hw : ∀ d ∈ tables_1, d.before a0 Z = true) (ws : List Jvm.Cond) (p1 : Int32) (s_OPTIMAL : Addr) (s_LIMIT : Addr) (s_LIMIT_WITHOUT_SOLUTION : Addr) (s_INFEASIBLE : Addr) (h0 : Heap) (n0 : Nat) (Z0 : n0 ≤ h0.size) (n1 : s_LIMIT ≠ s_OPTIMAL) (n2 : s_LIMIT_WITHOUT_SOLUTION ≠ s_OPTIMAL) (n3 : s_LIMIT_WITHOUT_SOLUTION ≠ s_LIMIT) (n4 : s_INFEASIBLE ≠ s_OPTIMAL) (n5 : s_INFEASIBLE ≠ s_LIMIT) (S_OPTIMAL : Sta Z h0 "com/example/switchyard/switchyard/solver/Solution$Status" "OPTIMAL" "Lcom/example/switchyard/switchyard/solver/Solution$Status;" (.ref s_OPTIMAL)) (S_LIMIT : Sta Z h0 "com/example/switchyard/switchyard/solver/Solution$Status" "LIMIT" "Lcom/example/switchyard/switchyard/solver/Solution$Status;" (.ref s_LIMIT)) (E_s_OPTIMAL : Exa Z h0 s_OPTIMAL "com/example/switchyard/switchyard/solver/Solution$Status") (E_s_LIMIT : Exa Z h0 s_LIMIT "com/example/switchyard/switchyard/solver/Solution$Status") (S_LIMIT_WITHOUT_SOLUTION : Sta Z h0 "com/example/switchyard/switchyard/solver/Solution$Status" "LIMIT_WITHOUT_SOLUTION" "Lcom/example/switchyard/switchyard/solver/Solution$Status;" (.ref s_LIMIT_WITHOUT_SOLUTION)) (E_s_LIMIT_WITHOUT_SOLUTION : Exa Z h0 s_LIMIT_WITHOUT_SOLUTION "com/example/switchyard/switchyard/solver/Solution$Status") (S_INFEASIBLE : Sta Z h0 "com/example/switchyard/switchyard/solver/Solution$Status" "INFEASIBLE" "Lcom/example/switchyard/switchyard/solver/Solution$Status;" (.ref s_INFEASIBLE)) (E_s_INFEASIBLE : Exa Z h0 s_INFEASIBLE "com/example/switchyard/switchyard/solver/Solution$Status") (hc5 : (p1 &&& (3 : Int32)) = (0 : Int32)) :
    MetFree l x (head1 (Jvm.Cond.code x code maxLocals ret :: ws) room_1) (fun a U => a = #[(.int p1)] ∧ Z.Warmed39 U.vm ∧ U.heap = h0) (fun _ _ _ _ _ => True) (fun _ U o U' => ∃ v L, o = .returned v ∧ Q_rm0 Z p1 s_OPTIMAL s_LIMIT s_LIMIT_WITHOUT_SOLUTION s_INFEASIBLE h0 n0 v U'.heap L ∧ FrameEnd U o U' L room_1.cells room_1.slots) := by
  refine MetFree.of_bodySF (plainFor_of_name pn_0) hisR ?_
  intro p e s m args below meth c s₁ Bd hml0 hP hK
  obtain ⟨rfl, hZ, hh⟩ := hP
  have hx := Bd.exec
  have hby := Bd.bytes
  have hml : c.maxLocals = 4 := hml0
  have hown : s.vm.findClass "com/example/switchyard/switchyard/solver/StatusHasSolutionPinLaw" = some m.cls := findClass_of_methodNamed Bd.named
  have hnm := (name_of_methodNamed Bd.named Bd.method).1
  have X0 : Stand p l e room_1 s m #[(.int p1)] below meth c s₁ [] 0 0 := Stand.of_body Bd
  have e0 : s₁.heap = h0 := by rw [← hh, Bd.state]; rfl
  have N0 := Fr.nil n0
  have pre0 : ∀ t, Steps p.tables e below (s₁.setTop (mkF m 0 #[.val (.int p1), .unset, .unset, .unset] [])) t → Steps p.tables e below (s₁.setTop (entryFrame m #[(.int p1)] maxLocals)) t := fun t k => castTop (ef_0 m p1) k
  obtain ⟨T2, X2, e2, st2⟩ := getS2 X0 hx hZ hown (host := "") (Or.inl (hw _ (List.mem_of_getElem? (i := 0) rfl))) Via.refl e0 S_OPTIMAL (g := (mkF m 8 #[.val (.int p1), .val (.int (p1 &&& (3 : Int32))), .unset, .unset] [])) rfl (hb hby at_8)
  obtain ⟨cq3, kq3, q3a, q3b, q3c⟩ := isOf hZ e2 E_s_OPTIMAL
  obtain ⟨_, _, ⟨T3, L3, k3, n3⟩, -, X3, ⟨Lc3, hQ3, l3, y3, z3⟩, st3⟩ := X2.virtualBack hx (y := (⟨"com/example/switchyard/switchyard/solver/Solution$Status", "hasSolution", "()Z"⟩ : MethodName)) (z := (⟨"com/example/switchyard/switchyard/solver/Solution$Status", "hasSolution", "()Z"⟩ : MethodName)) hown (mvT hZ (hw _ (List.mem_of_getElem? (i := 3) rfl))) (mvT hZ (hw _ (List.mem_of_getElem? (i := 4) rfl))) (notFace_of_selects (args := #[]) (mvT hZ (hw _ (List.mem_of_getElem? (i := 6) rfl)))) (mvT hZ (hw _ (List.mem_of_getElem? (i := 6) rfl))) (mvT hZ (hw _ (List.mem_of_getElem? (i := 5) rfl))) (by decide) (backOf (W := 0) (rm1 l Z a0 hw [] s_OPTIMAL s_OPTIMAL s_LIMIT h0 n0 Z0 S_OPTIMAL S_LIMIT) hZ (hw _ (List.mem_of_getElem? (i := 7) rfl)) (hw _ (List.mem_of_getElem? (i := 1) rfl)) (by decide) (by decide)) q3a q3c (g := (mkF m 52 #[.val (.int p1), .val (.int (p1 &&& (3 : Int32))), .val (.ref s_OPTIMAL), .val (.int (1 : Int32))] [(.ref s_OPTIMAL)])) rfl (by rw [hml]; rfl) (Steps.refl _) (argsL := []) (rest := []) (lenOf pd__28_29Z rfl) rfl (by show 2 * 0 + _ ≤ _; exact Nat.le_of_eq rfl) (hb hby at_52) (fun _ _ => ⟨rfl, e2, (by decide : 0 + 0 ≤ _), (by decide : 0 + 0 ≤ _)⟩)
  dsimp only [Pt.U, Pt.locs, Pt.cells, Pt.slots] at X3 l3 y3 z3 st3 hQ3
  subst l3 y3 z3
  obtain ⟨rfl, N3q, e3⟩ := hQ3
  have N3 := Fr.app N0 N3q
  obtain ⟨fs, hr, hrun, hended, hW, hsame⟩ := X3.leave (v := some (.int (1 : Int32))) (fun h => by rw [Bd.returns] at h; cases h)
  refine ⟨_, _, pre0 _ ?_, hrun, hended, _, _, rfl, ?_, ⟨_, rfl⟩, hW, hsame.mono (by decide) (by decide)⟩
  · show Steps p.tables e below (s₁.setTop (mkF m 0 #[.val (.int p1), .unset, .unset, .unset] [])) _
    refine XS.iloadN X0.here hx rfl (hb hby at_0) rfl ?_
    show Steps p.tables e below (s₁.setTop (mkF m 1 #[.val (.int p1), .unset, .unset, .unset] [(.int p1)])) _
    refine XS.iconst X0.here hx rfl (hb hby at_1) ?_
    show Steps p.tables e below (s₁.setTop (mkF m 2 #[.val (.int p1), .unset, .unset, .unset] [(.int (3 : Int32)), (.int p1)])) _
    refine XS.iand X0.here hx rfl (hb hby at_2) rfl ?_
    show Steps p.tables e below (s₁.setTop (mkF m 3 #[.val (.int p1), .unset, .unset, .unset] [(.int (p1 &&& (3 : Int32)))])) _
    refine XS.istoreN X0.here hx rfl (hb hby at_3) rfl (l' := #[.val (.int p1), .val (.int (p1 &&& (3 : Int32))), .unset, .unset]) rfl ?_
    show Steps p.tables e below (s₁.setTop (mkF m 4 #[.val (.int p1), .val (.int (p1 &&& (3 : Int32))), .unset, .unset] [])) _
    refine XS.iloadN X0.here hx rfl (hb hby at_4) rfl ?_
    show Steps p.tables e below (s₁.setTop (mkF m 5 #[.val (.int p1), .val (.int (p1 &&& (3 : Int32))), .unset, .unset] [(.int (p1 &&& (3 : Int32)))])) _
    refine XS.ifNo X0.here hx rfl (hb hby at_5) rfl ((if0 _ _).trans (teq hc5).2) ?_
    show Steps p.tables e below (s₁.setTop (mkF m 8 #[.val (.int p1), .val (.int (p1 &&& (3 : Int32))), .unset, .unset] [])) _
    refine st2 _ ?_
    show Steps p.tables e below (T2.setTop (mkF m 11 #[.val (.int p1), .val (.int (p1 &&& (3 : Int32))), .unset, .unset] [(.ref s_OPTIMAL)])) _
    refine XS.astoreN X2.here hx rfl (hb hby at_11) rfl rfl (l' := #[.val (.int p1), .val (.int (p1 &&& (3 : Int32))), .val (.ref s_OPTIMAL), .unset]) rfl ?_
    show Steps p.tables e below (T2.setTop (mkF m 12 #[.val (.int p1), .val (.int (p1 &&& (3 : Int32))), .val (.ref s_OPTIMAL), .unset] [])) _
    refine XS.iconst X2.here hx rfl (hb hby at_12) ?_
    show Steps p.tables e below (T2.setTop (mkF m 13 #[.val (.int p1), .val (.int (p1 &&& (3 : Int32))), .val (.ref s_OPTIMAL), .unset] [(.int (1 : Int32))])) _
    refine XS.istoreN X2.here hx rfl (hb hby at_13) rfl (l' := #[.val (.int p1), .val (.int (p1 &&& (3 : Int32))), .val (.ref s_OPTIMAL), .val (.int (1 : Int32))]) rfl ?_
    show Steps p.tables e below (T2.setTop (mkF m 14 #[.val (.int p1), .val (.int (p1 &&& (3 : Int32))), .val (.ref s_OPTIMAL), .val (.int (1 : Int32))] [])) _
    refine XS.goto X2.here hx rfl (pc0 := 14) (pc' := 51) rfl (hb hby at_14) (by decide) (by decide) ?_
    show Steps p.tables e below (T2.setTop (mkF m 51 #[.val (.int p1), .val (.int (p1 &&& (3 : Int32))), .val (.ref s_OPTIMAL), .val (.int (1 : Int32))] [])) _
    refine XS.aloadN X2.here hx rfl (hb hby at_51) rfl rfl ?_
    show Steps p.tables e below (T2.setTop (mkF m 52 #[.val (.int p1), .val (.int (p1 &&& (3 : Int32))), .val (.ref s_OPTIMAL), .val (.int (1 : Int32))] [(.ref s_OPTIMAL)])) _
    refine st3.trans ?_
    show Steps p.tables e below (T3.setTop (mkF m 55 #[.val (.int p1), .val (.int (p1 &&& (3 : Int32))), .val (.ref s_OPTIMAL), .val (.int (1 : Int32))] [(.int (F1 s_OPTIMAL s_OPTIMAL s_LIMIT))])) _
    refine XS.iloadN X3.here hx rfl (hb hby at_55) rfl ?_
    show Steps p.tables e below (T3.setTop (mkF m 56 #[.val (.int p1), .val (.int (p1 &&& (3 : Int32))), .val (.ref s_OPTIMAL), .val (.int (1 : Int32))] [(.int (1 : Int32)), (.int (F1 s_OPTIMAL s_OPTIMAL s_LIMIT))])) _
    refine XS.icmpNo X3.here hx rfl (hb hby at_56) rfl (teq (show (F1 s_OPTIMAL s_OPTIMAL s_LIMIT) = (1 : Int32) from by simp [F1, n1, n2, n3, n4, n5])).2 ?_
    show Steps p.tables e below (T3.setTop (mkF m 59 #[.val (.int p1), .val (.int (p1 &&& (3 : Int32))), .val (.ref s_OPTIMAL), .val (.int (1 : Int32))] [])) _
    refine XS.iconst X3.here hx rfl (hb hby at_59) ?_
    show Steps p.tables e below (T3.setTop (mkF m 60 #[.val (.int p1), .val (.int (p1 &&& (3 : Int32))), .val (.ref s_OPTIMAL), .val (.int (1 : Int32))] [(.int (1 : Int32))])) _
    refine XS.goto X3.here hx rfl (pc0 := 60) (pc' := 64) rfl (hb hby at_60) (by decide) (by decide) ?_
    show Steps p.tables e below (T3.setTop (mkF m 64 #[.val (.int p1), .val (.int (p1 &&& (3 : Int32))), .val (.ref s_OPTIMAL), .val (.int (1 : Int32))] [(.int (1 : Int32))])) _
    exact retN X3 hx (t := .boolean) Bd.returns (by simp) (hb hby at_64) hr
  · show Q_rm0 Z p1 s_OPTIMAL s_LIMIT s_LIMIT_WITHOUT_SOLUTION s_INFEASIBLE h0 n0 _ T3.heap _
    exact ⟨rfl, N3⟩
set_option maxRecDepth 65536 in
set_option maxHeartbeats 40000000 in
theorem rm0_tf (l : Launch) (Z : State) (a0 : Array Value) (hw : ∀ d ∈ tables_1, d.before a0 Z = true) (ws : List Jvm.Cond) (p1 : Int32) (s_OPTIMAL : Addr) (s_LIMIT : Addr) (s_LIMIT_WITHOUT_SOLUTION : Addr) (s_INFEASIBLE : Addr) (h0 : Heap) (n0 : Nat) (Z0 : n0 ≤ h0.size) (n1 : s_LIMIT ≠ s_OPTIMAL) (n2 : s_LIMIT_WITHOUT_SOLUTION ≠ s_OPTIMAL) (n3 : s_LIMIT_WITHOUT_SOLUTION ≠ s_LIMIT) (n4 : s_INFEASIBLE ≠ s_OPTIMAL) (n5 : s_INFEASIBLE ≠ s_LIMIT) (S_OPTIMAL : Sta Z h0 "com/example/switchyard/switchyard/solver/Solution$Status" "OPTIMAL" "Lcom/example/switchyard/switchyard/solver/Solution$Status;" (.ref s_OPTIMAL)) (S_LIMIT : Sta Z h0 "com/example/switchyard/switchyard/solver/Solution$Status" "LIMIT" "Lcom/example/switchyard/switchyard/solver/Solution$Status;" (.ref s_LIMIT)) (E_s_OPTIMAL : Exa Z h0 s_OPTIMAL "com/example/switchyard/switchyard/solver/Solution$Status") (E_s_LIMIT : Exa Z h0 s_LIMIT "com/example/switchyard/switchyard/solver/Solution$Status") (S_LIMIT_WITHOUT_SOLUTION : Sta Z h0 "com/example/switchyard/switchyard/solver/Solution$Status" "LIMIT_WITHOUT_SOLUTION" "Lcom/example/switchyard/switchyard/solver/Solution$Status;" (.ref s_LIMIT_WITHOUT_SOLUTION)) (E_s_LIMIT_WITHOUT_SOLUTION : Exa Z h0 s_LIMIT_WITHOUT_SOLUTION "com/example/switchyard/switchyard/solver/Solution$Status") (S_INFEASIBLE : Sta Z h0 "com/example/switchyard/switchyard/solver/Solution$Status" "INFEASIBLE" "Lcom/example/switchyard/switchyard/solver/Solution$Status;" (.ref s_INFEASIBLE)) (E_s_INFEASIBLE : Exa Z h0 s_INFEASIBLE "com/example/switchyard/switchyard/solver/Solution$Status") (hc5 : ¬ ((p1 &&& (3 : Int32)) = (0 : Int32))) (hc19 : (p1 &&& (3 : Int32)) = (1 : Int32)) :
    MetFree l x (head1 (Jvm.Cond.code x code maxLocals ret :: ws) room_1) (fun a U => a = #[(.int p1)] ∧ Z.Warmed39 U.vm ∧ U.heap = h0) (fun _ _ _ _ _ => True) (fun _ U o U' => ∃ v L, o = .returned v ∧ Q_rm0 Z p1 s_OPTIMAL s_LIMIT s_LIMIT_WITHOUT_SOLUTION s_INFEASIBLE h0 n0 v U'.heap L ∧ FrameEnd U o U' L room_1.cells room_1.slots) := by
  refine MetFree.of_bodySF (plainFor_of_name pn_0) hisR ?_
  intro p e s m args below meth c s₁ Bd hml0 hP hK
  obtain ⟨rfl, hZ, hh⟩ := hP
  have hx := Bd.exec
  have hby := Bd.bytes
  have hml : c.maxLocals = 4 := hml0
  have hown : s.vm.findClass "com/example/switchyard/switchyard/solver/StatusHasSolutionPinLaw" = some m.cls := findClass_of_methodNamed Bd.named
  have hnm := (name_of_methodNamed Bd.named Bd.method).1
  have X0 : Stand p l e room_1 s m #[(.int p1)] below meth c s₁ [] 0 0 := Stand.of_body Bd
  have e0 : s₁.heap = h0 := by rw [← hh, Bd.state]; rfl
  have N0 := Fr.nil n0
  have pre0 : ∀ t, Steps p.tables e below (s₁.setTop (mkF m 0 #[.val (.int p1), .unset, .unset, .unset] [])) t → Steps p.tables e below (s₁.setTop (entryFrame m #[(.int p1)] maxLocals)) t := fun t k => castTop (ef_0 m p1) k
  obtain ⟨T2, X2, e2, st2⟩ := getS2 X0 hx hZ hown (host := "") (Or.inl (hw _ (List.mem_of_getElem? (i := 15) rfl))) Via.refl e0 S_LIMIT (g := (mkF m 22 #[.val (.int p1), .val (.int (p1 &&& (3 : Int32))), .unset, .unset] [])) rfl (hb hby at_22)
  obtain ⟨cq3, kq3, q3a, q3b, q3c⟩ := isOf hZ e2 E_s_LIMIT
  obtain ⟨_, _, ⟨T3, L3, k3, n3⟩, -, X3, ⟨Lc3, hQ3, l3, y3, z3⟩, st3⟩ := X2.virtualBack hx (y := (⟨"com/example/switchyard/switchyard/solver/Solution$Status", "hasSolution", "()Z"⟩ : MethodName)) (z := (⟨"com/example/switchyard/switchyard/solver/Solution$Status", "hasSolution", "()Z"⟩ : MethodName)) hown (mvT hZ (hw _ (List.mem_of_getElem? (i := 3) rfl))) (mvT hZ (hw _ (List.mem_of_getElem? (i := 4) rfl))) (notFace_of_selects (args := #[]) (mvT hZ (hw _ (List.mem_of_getElem? (i := 6) rfl)))) (mvT hZ (hw _ (List.mem_of_getElem? (i := 6) rfl))) (mvT hZ (hw _ (List.mem_of_getElem? (i := 5) rfl))) (by decide) (backOf (W := 0) (rm1 l Z a0 hw [] s_LIMIT s_OPTIMAL s_LIMIT h0 n0 Z0 S_OPTIMAL S_LIMIT) hZ (hw _ (List.mem_of_getElem? (i := 7) rfl)) (hw _ (List.mem_of_getElem? (i := 1) rfl)) (by decide) (by decide)) q3a q3c (g := (mkF m 52 #[.val (.int p1), .val (.int (p1 &&& (3 : Int32))), .val (.ref s_LIMIT), .val (.int (1 : Int32))] [(.ref s_LIMIT)])) rfl (by rw [hml]; rfl) (Steps.refl _) (argsL := []) (rest := []) (lenOf pd__28_29Z rfl) rfl (by show 2 * 0 + _ ≤ _; exact Nat.le_of_eq rfl) (hb hby at_52) (fun _ _ => ⟨rfl, e2, (by decide : 0 + 0 ≤ _), (by decide : 0 + 0 ≤ _)⟩)
  dsimp only [Pt.U, Pt.locs, Pt.cells, Pt.slots] at X3 l3 y3 z3 st3 hQ3
  subst l3 y3 z3
  obtain ⟨rfl, N3q, e3⟩ := hQ3
  have N3 := Fr.app N0 N3q
  obtain ⟨fs, hr, hrun, hended, hW, hsame⟩ := X3.leave (v := some (.int (1 : Int32))) (fun h => by rw [Bd.returns] at h; cases h)
  refine ⟨_, _, pre0 _ ?_, hrun, hended, _, _, rfl, ?_, ⟨_, rfl⟩, hW, hsame.mono (by decide) (by decide)⟩
  · show Steps p.tables e below (s₁.setTop (mkF m 0 #[.val (.int p1), .unset, .unset, .unset] [])) _
    refine XS.iloadN X0.here hx rfl (hb hby at_0) rfl ?_
    show Steps p.tables e below (s₁.setTop (mkF m 1 #[.val (.int p1), .unset, .unset, .unset] [(.int p1)])) _
    refine XS.iconst X0.here hx rfl (hb hby at_1) ?_
    show Steps p.tables e below (s₁.setTop (mkF m 2 #[.val (.int p1), .unset, .unset, .unset] [(.int (3 : Int32)), (.int p1)])) _
    refine XS.iand X0.here hx rfl (hb hby at_2) rfl ?_
    show Steps p.tables e below (s₁.setTop (mkF m 3 #[.val (.int p1), .unset, .unset, .unset] [(.int (p1 &&& (3 : Int32)))])) _
    refine XS.istoreN X0.here hx rfl (hb hby at_3) rfl (l' := #[.val (.int p1), .val (.int (p1 &&& (3 : Int32))), .unset, .unset]) rfl ?_
    show Steps p.tables e below (s₁.setTop (mkF m 4 #[.val (.int p1), .val (.int (p1 &&& (3 : Int32))), .unset, .unset] [])) _
    refine XS.iloadN X0.here hx rfl (hb hby at_4) rfl ?_
    show Steps p.tables e below (s₁.setTop (mkF m 5 #[.val (.int p1), .val (.int (p1 &&& (3 : Int32))), .unset, .unset] [(.int (p1 &&& (3 : Int32)))])) _
    refine XS.ifYes X0.here hx rfl (pc0 := 5) (pc' := 17) rfl (hb hby at_5) rfl ((if0 _ _).trans (feq hc5).2) (by decide) (by decide) ?_
    show Steps p.tables e below (s₁.setTop (mkF m 17 #[.val (.int p1), .val (.int (p1 &&& (3 : Int32))), .unset, .unset] [])) _
    refine XS.iloadN X0.here hx rfl (hb hby at_17) rfl ?_
    show Steps p.tables e below (s₁.setTop (mkF m 18 #[.val (.int p1), .val (.int (p1 &&& (3 : Int32))), .unset, .unset] [(.int (p1 &&& (3 : Int32)))])) _
    refine XS.iconst X0.here hx rfl (hb hby at_18) ?_
    show Steps p.tables e below (s₁.setTop (mkF m 19 #[.val (.int p1), .val (.int (p1 &&& (3 : Int32))), .unset, .unset] [(.int (1 : Int32)), (.int (p1 &&& (3 : Int32)))])) _
    refine XS.icmpNo X0.here hx rfl (hb hby at_19) rfl (teq hc19).2 ?_
    show Steps p.tables e below (s₁.setTop (mkF m 22 #[.val (.int p1), .val (.int (p1 &&& (3 : Int32))), .unset, .unset] [])) _
    refine st2 _ ?_
    show Steps p.tables e below (T2.setTop (mkF m 25 #[.val (.int p1), .val (.int (p1 &&& (3 : Int32))), .unset, .unset] [(.ref s_LIMIT)])) _
    refine XS.astoreN X2.here hx rfl (hb hby at_25) rfl rfl (l' := #[.val (.int p1), .val (.int (p1 &&& (3 : Int32))), .val (.ref s_LIMIT), .unset]) rfl ?_
    show Steps p.tables e below (T2.setTop (mkF m 26 #[.val (.int p1), .val (.int (p1 &&& (3 : Int32))), .val (.ref s_LIMIT), .unset] [])) _
    refine XS.iconst X2.here hx rfl (hb hby at_26) ?_
    show Steps p.tables e below (T2.setTop (mkF m 27 #[.val (.int p1), .val (.int (p1 &&& (3 : Int32))), .val (.ref s_LIMIT), .unset] [(.int (1 : Int32))])) _
    refine XS.istoreN X2.here hx rfl (hb hby at_27) rfl (l' := #[.val (.int p1), .val (.int (p1 &&& (3 : Int32))), .val (.ref s_LIMIT), .val (.int (1 : Int32))]) rfl ?_
    show Steps p.tables e below (T2.setTop (mkF m 28 #[.val (.int p1), .val (.int (p1 &&& (3 : Int32))), .val (.ref s_LIMIT), .val (.int (1 : Int32))] [])) _
    refine XS.goto X2.here hx rfl (pc0 := 28) (pc' := 51) rfl (hb hby at_28) (by decide) (by decide) ?_
    show Steps p.tables e below (T2.setTop (mkF m 51 #[.val (.int p1), .val (.int (p1 &&& (3 : Int32))), .val (.ref s_LIMIT), .val (.int (1 : Int32))] [])) _
    refine XS.aloadN X2.here hx rfl (hb hby at_51) rfl rfl ?_
    show Steps p.tables e below (T2.setTop (mkF m 52 #[.val (.int p1), .val (.int (p1 &&& (3 : Int32))), .val (.ref s_LIMIT), .val (.int (1 : Int32))] [(.ref s_LIMIT)])) _
    refine st3.trans ?_
    show Steps p.tables e below (T3.setTop (mkF m 55 #[.val (.int p1), .val (.int (p1 &&& (3 : Int32))), .val (.ref s_LIMIT), .val (.int (1 : Int32))] [(.int (F1 s_LIMIT s_OPTIMAL s_LIMIT))])) _
    refine XS.iloadN X3.here hx rfl (hb hby at_55) rfl ?_
    show Steps p.tables e below (T3.setTop (mkF m 56 #[.val (.int p1), .val (.int (p1 &&& (3 : Int32))), .val (.ref s_LIMIT), .val (.int (1 : Int32))] [(.int (1 : Int32)), (.int (F1 s_LIMIT s_OPTIMAL s_LIMIT))])) _
    refine XS.icmpNo X3.here hx rfl (hb hby at_56) rfl (teq (show (F1 s_LIMIT s_OPTIMAL s_LIMIT) = (1 : Int32) from by simp [F1, n1, n2, n3, n4, n5])).2 ?_
    show Steps p.tables e below (T3.setTop (mkF m 59 #[.val (.int p1), .val (.int (p1 &&& (3 : Int32))), .val (.ref s_LIMIT), .val (.int (1 : Int32))] [])) _
    refine XS.iconst X3.here hx rfl (hb hby at_59) ?_
    show Steps p.tables e below (T3.setTop (mkF m 60 #[.val (.int p1), .val (.int (p1 &&& (3 : Int32))), .val (.ref s_LIMIT), .val (.int (1 : Int32))] [(.int (1 : Int32))])) _
    refine XS.goto X3.here hx rfl (pc0 := 60) (pc' := 64) rfl (hb hby at_60) (by decide) (by decide) ?_
    show Steps p.tables e below (T3.setTop (mkF m 64 #[.val (.int p1), .val (.int (p1 &&& (3 : Int32))), .val (.ref s_LIMIT), .val (.int (1 : Int32))] [(.int (1 : Int32))])) _
    exact retN X3 hx (t := .boolean) Bd.returns (by simp) (hb hby at_64) hr
  · show Q_rm0 Z p1 s_OPTIMAL s_LIMIT s_LIMIT_WITHOUT_SOLUTION s_INFEASIBLE h0 n0 _ T3.heap _
    exact ⟨rfl, N3⟩
set_option maxRecDepth 65536 in
set_option maxHeartbeats 40000000 in
theorem rm0_ttf (l : Launch) (Z : State) (a0 : Array Value) (hw : ∀ d ∈ tables_1, d.before a0 Z = true) (ws : List Jvm.Cond) (p1 : Int32) (s_OPTIMAL : Addr) (s_LIMIT : Addr) (s_LIMIT_WITHOUT_SOLUTION : Addr) (s_INFEASIBLE : Addr) (h0 : Heap) (n0 : Nat) (Z0 : n0 ≤ h0.size) (n1 : s_LIMIT ≠ s_OPTIMAL) (n2 : s_LIMIT_WITHOUT_SOLUTION ≠ s_OPTIMAL) (n3 : s_LIMIT_WITHOUT_SOLUTION ≠ s_LIMIT) (n4 : s_INFEASIBLE ≠ s_OPTIMAL) (n5 : s_INFEASIBLE ≠ s_LIMIT) (S_OPTIMAL : Sta Z h0 "com/example/switchyard/switchyard/solver/Solution$Status" "OPTIMAL" "Lcom/example/switchyard/switchyard/solver/Solution$Status;" (.ref s_OPTIMAL)) (S_LIMIT : Sta Z h0 "com/example/switchyard/switchyard/solver/Solution$Status" "LIMIT" "Lcom/example/switchyard/switchyard/solver/Solution$Status;" (.ref s_LIMIT)) (E_s_OPTIMAL : Exa Z h0 s_OPTIMAL "com/example/switchyard/switchyard/solver/Solution$Status") (E_s_LIMIT : Exa Z h0 s_LIMIT "com/example/switchyard/switchyard/solver/Solution$Status") (S_LIMIT_WITHOUT_SOLUTION : Sta Z h0 "com/example/switchyard/switchyard/solver/Solution$Status" "LIMIT_WITHOUT_SOLUTION" "Lcom/example/switchyard/switchyard/solver/Solution$Status;" (.ref s_LIMIT_WITHOUT_SOLUTION)) (E_s_LIMIT_WITHOUT_SOLUTION : Exa Z h0 s_LIMIT_WITHOUT_SOLUTION "com/example/switchyard/switchyard/solver/Solution$Status") (S_INFEASIBLE : Sta Z h0 "com/example/switchyard/switchyard/solver/Solution$Status" "INFEASIBLE" "Lcom/example/switchyard/switchyard/solver/Solution$Status;" (.ref s_INFEASIBLE)) (E_s_INFEASIBLE : Exa Z h0 s_INFEASIBLE "com/example/switchyard/switchyard/solver/Solution$Status") (hc5 : ¬ ((p1 &&& (3 : Int32)) = (0 : Int32))) (hc19 : ¬ ((p1 &&& (3 : Int32)) = (1 : Int32))) (hc33 : (p1 &&& (3 : Int32)) = (2 : Int32)) :
    MetFree l x (head1 (Jvm.Cond.code x code maxLocals ret :: ws) room_1) (fun a U => a = #[(.int p1)] ∧ Z.Warmed39 U.vm ∧ U.heap = h0) (fun _ _ _ _ _ => True) (fun _ U o U' => ∃ v L, o = .returned v ∧ Q_rm0 Z p1 s_OPTIMAL s_LIMIT s_LIMIT_WITHOUT_SOLUTION s_INFEASIBLE h0 n0 v U'.heap L ∧ FrameEnd U o U' L room_1.cells room_1.slots) := by
  refine MetFree.of_bodySF (plainFor_of_name pn_0) hisR ?_
  intro p e s m args below meth c s₁ Bd hml0 hP hK
  obtain ⟨rfl, hZ, hh⟩ := hP
  have hx := Bd.exec
  have hby := Bd.bytes
  have hml : c.maxLocals = 4 := hml0
  have hown : s.vm.findClass "com/example/switchyard/switchyard/solver/StatusHasSolutionPinLaw" = some m.cls := findClass_of_methodNamed Bd.named
  have hnm := (name_of_methodNamed Bd.named Bd.method).1
  have X0 : Stand p l e room_1 s m #[(.int p1)] below meth c s₁ [] 0 0 := Stand.of_body Bd
  have e0 : s₁.heap = h0 := by rw [← hh, Bd.state]; rfl
  have N0 := Fr.nil n0
  have pre0 : ∀ t, Steps p.tables e below (s₁.setTop (mkF m 0 #[.val (.int p1), .unset, .unset, .unset] [])) t → Steps p.tables e below (s₁.setTop (entryFrame m #[(.int p1)] maxLocals)) t := fun t k => castTop (ef_0 m p1) k
  obtain ⟨T2, X2, e2, st2⟩ := getS2 X0 hx hZ hown (host := "") (Or.inl (hw _ (List.mem_of_getElem? (i := 13) rfl))) Via.refl e0 S_LIMIT_WITHOUT_SOLUTION (g := (mkF m 36 #[.val (.int p1), .val (.int (p1 &&& (3 : Int32))), .unset, .unset] [])) rfl (hb hby at_36)
  obtain ⟨cq3, kq3, q3a, q3b, q3c⟩ := isOf hZ e2 E_s_LIMIT_WITHOUT_SOLUTION
  obtain ⟨_, _, ⟨T3, L3, k3, n3⟩, -, X3, ⟨Lc3, hQ3, l3, y3, z3⟩, st3⟩ := X2.virtualBack hx (y := (⟨"com/example/switchyard/switchyard/solver/Solution$Status", "hasSolution", "()Z"⟩ : MethodName)) (z := (⟨"com/example/switchyard/switchyard/solver/Solution$Status", "hasSolution", "()Z"⟩ : MethodName)) hown (mvT hZ (hw _ (List.mem_of_getElem? (i := 3) rfl))) (mvT hZ (hw _ (List.mem_of_getElem? (i := 4) rfl))) (notFace_of_selects (args := #[]) (mvT hZ (hw _ (List.mem_of_getElem? (i := 6) rfl)))) (mvT hZ (hw _ (List.mem_of_getElem? (i := 6) rfl))) (mvT hZ (hw _ (List.mem_of_getElem? (i := 5) rfl))) (by decide) (backOf (W := 0) (rm1 l Z a0 hw [] s_LIMIT_WITHOUT_SOLUTION s_OPTIMAL s_LIMIT h0 n0 Z0 S_OPTIMAL S_LIMIT) hZ (hw _ (List.mem_of_getElem? (i := 7) rfl)) (hw _ (List.mem_of_getElem? (i := 1) rfl)) (by decide) (by decide)) q3a q3c (g := (mkF m 52 #[.val (.int p1), .val (.int (p1 &&& (3 : Int32))), .val (.ref s_LIMIT_WITHOUT_SOLUTION), .val (.int (0 : Int32))] [(.ref s_LIMIT_WITHOUT_SOLUTION)])) rfl (by rw [hml]; rfl) (Steps.refl _) (argsL := []) (rest := []) (lenOf pd__28_29Z rfl) rfl (by show 2 * 0 + _ ≤ _; exact Nat.le_of_eq rfl) (hb hby at_52) (fun _ _ => ⟨rfl, e2, (by decide : 0 + 0 ≤ _), (by decide : 0 + 0 ≤ _)⟩)
  dsimp only [Pt.U, Pt.locs, Pt.cells, Pt.slots] at X3 l3 y3 z3 st3 hQ3
  subst l3 y3 z3
  obtain ⟨rfl, N3q, e3⟩ := hQ3
  have N3 := Fr.app N0 N3q
  obtain ⟨fs, hr, hrun, hended, hW, hsame⟩ := X3.leave (v := some (.int (1 : Int32))) (fun h => by rw [Bd.returns] at h; cases h)
  refine ⟨_, _, pre0 _ ?_, hrun, hended, _, _, rfl, ?_, ⟨_, rfl⟩, hW, hsame.mono (by decide) (by decide)⟩
  · show Steps p.tables e below (s₁.setTop (mkF m 0 #[.val (.int p1), .unset, .unset, .unset] [])) _
    refine XS.iloadN X0.here hx rfl (hb hby at_0) rfl ?_
    show Steps p.tables e below (s₁.setTop (mkF m 1 #[.val (.int p1), .unset, .unset, .unset] [(.int p1)])) _
    refine XS.iconst X0.here hx rfl (hb hby at_1) ?_
    show Steps p.tables e below (s₁.setTop (mkF m 2 #[.val (.int p1), .unset, .unset, .unset] [(.int (3 : Int32)), (.int p1)])) _
    refine XS.iand X0.here hx rfl (hb hby at_2) rfl ?_
    show Steps p.tables e below (s₁.setTop (mkF m 3 #[.val (.int p1), .unset, .unset, .unset] [(.int (p1 &&& (3 : Int32)))])) _
    refine XS.istoreN X0.here hx rfl (hb hby at_3) rfl (l' := #[.val (.int p1), .val (.int (p1 &&& (3 : Int32))), .unset, .unset]) rfl ?_
    show Steps p.tables e below (s₁.setTop (mkF m 4 #[.val (.int p1), .val (.int (p1 &&& (3 : Int32))), .unset, .unset] [])) _
    refine XS.iloadN X0.here hx rfl (hb hby at_4) rfl ?_
    show Steps p.tables e below (s₁.setTop (mkF m 5 #[.val (.int p1), .val (.int (p1 &&& (3 : Int32))), .unset, .unset] [(.int (p1 &&& (3 : Int32)))])) _
    refine XS.ifYes X0.here hx rfl (pc0 := 5) (pc' := 17) rfl (hb hby at_5) rfl ((if0 _ _).trans (feq hc5).2) (by decide) (by decide) ?_
    show Steps p.tables e below (s₁.setTop (mkF m 17 #[.val (.int p1), .val (.int (p1 &&& (3 : Int32))), .unset, .unset] [])) _
    refine XS.iloadN X0.here hx rfl (hb hby at_17) rfl ?_
    show Steps p.tables e below (s₁.setTop (mkF m 18 #[.val (.int p1), .val (.int (p1 &&& (3 : Int32))), .unset, .unset] [(.int (p1 &&& (3 : Int32)))])) _
    refine XS.iconst X0.here hx rfl (hb hby at_18) ?_
    show Steps p.tables e below (s₁.setTop (mkF m 19 #[.val (.int p1), .val (.int (p1 &&& (3 : Int32))), .unset, .unset] [(.int (1 : Int32)), (.int (p1 &&& (3 : Int32)))])) _
    refine XS.icmpYes X0.here hx rfl (pc0 := 19) (pc' := 31) rfl (hb hby at_19) rfl (feq hc19).2 (by decide) (by decide) ?_
    show Steps p.tables e below (s₁.setTop (mkF m 31 #[.val (.int p1), .val (.int (p1 &&& (3 : Int32))), .unset, .unset] [])) _
    refine XS.iloadN X0.here hx rfl (hb hby at_31) rfl ?_
    show Steps p.tables e below (s₁.setTop (mkF m 32 #[.val (.int p1), .val (.int (p1 &&& (3 : Int32))), .unset, .unset] [(.int (p1 &&& (3 : Int32)))])) _
    refine XS.iconst X0.here hx rfl (hb hby at_32) ?_
    show Steps p.tables e below (s₁.setTop (mkF m 33 #[.val (.int p1), .val (.int (p1 &&& (3 : Int32))), .unset, .unset] [(.int (2 : Int32)), (.int (p1 &&& (3 : Int32)))])) _
    refine XS.icmpNo X0.here hx rfl (hb hby at_33) rfl (teq hc33).2 ?_
    show Steps p.tables e below (s₁.setTop (mkF m 36 #[.val (.int p1), .val (.int (p1 &&& (3 : Int32))), .unset, .unset] [])) _
    refine st2 _ ?_
    show Steps p.tables e below (T2.setTop (mkF m 39 #[.val (.int p1), .val (.int (p1 &&& (3 : Int32))), .unset, .unset] [(.ref s_LIMIT_WITHOUT_SOLUTION)])) _
    refine XS.astoreN X2.here hx rfl (hb hby at_39) rfl rfl (l' := #[.val (.int p1), .val (.int (p1 &&& (3 : Int32))), .val (.ref s_LIMIT_WITHOUT_SOLUTION), .unset]) rfl ?_
    show Steps p.tables e below (T2.setTop (mkF m 40 #[.val (.int p1), .val (.int (p1 &&& (3 : Int32))), .val (.ref s_LIMIT_WITHOUT_SOLUTION), .unset] [])) _
    refine XS.iconst X2.here hx rfl (hb hby at_40) ?_
    show Steps p.tables e below (T2.setTop (mkF m 41 #[.val (.int p1), .val (.int (p1 &&& (3 : Int32))), .val (.ref s_LIMIT_WITHOUT_SOLUTION), .unset] [(.int (0 : Int32))])) _
    refine XS.istoreN X2.here hx rfl (hb hby at_41) rfl (l' := #[.val (.int p1), .val (.int (p1 &&& (3 : Int32))), .val (.ref s_LIMIT_WITHOUT_SOLUTION), .val (.int (0 : Int32))]) rfl ?_
    show Steps p.tables e below (T2.setTop (mkF m 42 #[.val (.int p1), .val (.int (p1 &&& (3 : Int32))), .val (.ref s_LIMIT_WITHOUT_SOLUTION), .val (.int (0 : Int32))] [])) _
    refine XS.goto X2.here hx rfl (pc0 := 42) (pc' := 51) rfl (hb hby at_42) (by decide) (by decide) ?_
    show Steps p.tables e below (T2.setTop (mkF m 51 #[.val (.int p1), .val (.int (p1 &&& (3 : Int32))), .val (.ref s_LIMIT_WITHOUT_SOLUTION), .val (.int (0 : Int32))] [])) _
    refine XS.aloadN X2.here hx rfl (hb hby at_51) rfl rfl ?_
    show Steps p.tables e below (T2.setTop (mkF m 52 #[.val (.int p1), .val (.int (p1 &&& (3 : Int32))), .val (.ref s_LIMIT_WITHOUT_SOLUTION), .val (.int (0 : Int32))] [(.ref s_LIMIT_WITHOUT_SOLUTION)])) _
    refine st3.trans ?_
    show Steps p.tables e below (T3.setTop (mkF m 55 #[.val (.int p1), .val (.int (p1 &&& (3 : Int32))), .val (.ref s_LIMIT_WITHOUT_SOLUTION), .val (.int (0 : Int32))] [(.int (F1 s_LIMIT_WITHOUT_SOLUTION s_OPTIMAL s_LIMIT))])) _
    refine XS.iloadN X3.here hx rfl (hb hby at_55) rfl ?_
    show Steps p.tables e below (T3.setTop (mkF m 56 #[.val (.int p1), .val (.int (p1 &&& (3 : Int32))), .val (.ref s_LIMIT_WITHOUT_SOLUTION), .val (.int (0 : Int32))] [(.int (0 : Int32)), (.int (F1 s_LIMIT_WITHOUT_SOLUTION s_OPTIMAL s_LIMIT))])) _
    refine XS.icmpNo X3.here hx rfl (hb hby at_56) rfl (teq (show (F1 s_LIMIT_WITHOUT_SOLUTION s_OPTIMAL s_LIMIT) = (0 : Int32) from by simp [F1, n1, n2, n3, n4, n5])).2 ?_
    show Steps p.tables e below (T3.setTop (mkF m 59 #[.val (.int p1), .val (.int (p1 &&& (3 : Int32))), .val (.ref s_LIMIT_WITHOUT_SOLUTION), .val (.int (0 : Int32))] [])) _
    refine XS.iconst X3.here hx rfl (hb hby at_59) ?_
    show Steps p.tables e below (T3.setTop (mkF m 60 #[.val (.int p1), .val (.int (p1 &&& (3 : Int32))), .val (.ref s_LIMIT_WITHOUT_SOLUTION), .val (.int (0 : Int32))] [(.int (1 : Int32))])) _
    refine XS.goto X3.here hx rfl (pc0 := 60) (pc' := 64) rfl (hb hby at_60) (by decide) (by decide) ?_
    show Steps p.tables e below (T3.setTop (mkF m 64 #[.val (.int p1), .val (.int (p1 &&& (3 : Int32))), .val (.ref s_LIMIT_WITHOUT_SOLUTION), .val (.int (0 : Int32))] [(.int (1 : Int32))])) _
    exact retN X3 hx (t := .boolean) Bd.returns (by simp) (hb hby at_64) hr
  · show Q_rm0 Z p1 s_OPTIMAL s_LIMIT s_LIMIT_WITHOUT_SOLUTION s_INFEASIBLE h0 n0 _ T3.heap _
    exact ⟨rfl, N3⟩
set_option maxRecDepth 65536 in
set_option maxHeartbeats 40000000 in
theorem rm0_ttt (l : Launch) (Z : State) (a0 : Array Value) (hw : ∀ d ∈ tables_1, d.before a0 Z = true) (ws : List Jvm.Cond) (p1 : Int32) (s_OPTIMAL : Addr) (s_LIMIT : Addr) (s_LIMIT_WITHOUT_SOLUTION : Addr) (s_INFEASIBLE : Addr) (h0 : Heap) (n0 : Nat) (Z0 : n0 ≤ h0.size) (n1 : s_LIMIT ≠ s_OPTIMAL) (n2 : s_LIMIT_WITHOUT_SOLUTION ≠ s_OPTIMAL) (n3 : s_LIMIT_WITHOUT_SOLUTION ≠ s_LIMIT) (n4 : s_INFEASIBLE ≠ s_OPTIMAL) (n5 : s_INFEASIBLE ≠ s_LIMIT) (S_OPTIMAL : Sta Z h0 "com/example/switchyard/switchyard/solver/Solution$Status" "OPTIMAL" "Lcom/example/switchyard/switchyard/solver/Solution$Status;" (.ref s_OPTIMAL)) (S_LIMIT : Sta Z h0 "com/example/switchyard/switchyard/solver/Solution$Status" "LIMIT" "Lcom/example/switchyard/switchyard/solver/Solution$Status;" (.ref s_LIMIT)) (E_s_OPTIMAL : Exa Z h0 s_OPTIMAL "com/example/switchyard/switchyard/solver/Solution$Status") (E_s_LIMIT : Exa Z h0 s_LIMIT "com/example/switchyard/switchyard/solver/Solution$Status") (S_LIMIT_WITHOUT_SOLUTION : Sta Z h0 "com/example/switchyard/switchyard/solver/Solution$Status" "LIMIT_WITHOUT_SOLUTION" "Lcom/example/switchyard/switchyard/solver/Solution$Status;" (.ref s_LIMIT_WITHOUT_SOLUTION)) (E_s_LIMIT_WITHOUT_SOLUTION : Exa Z h0 s_LIMIT_WITHOUT_SOLUTION "com/example/switchyard/switchyard/solver/Solution$Status") (S_INFEASIBLE : Sta Z h0 "com/example/switchyard/switchyard/solver/Solution$Status" "INFEASIBLE" "Lcom/example/switchyard/switchyard/solver/Solution$Status;" (.ref s_INFEASIBLE)) (E_s_INFEASIBLE : Exa Z h0 s_INFEASIBLE "com/example/switchyard/switchyard/solver/Solution$Status") (hc5 : ¬ ((p1 &&& (3 : Int32)) = (0 : Int32))) (hc19 : ¬ ((p1 &&& (3 : Int32)) = (1 : Int32))) (hc33 : ¬ ((p1 &&& (3 : Int32)) = (2 : Int32))) :
    MetFree l x (head1 (Jvm.Cond.code x code maxLocals ret :: ws) room_1) (fun a U => a = #[(.int p1)] ∧ Z.Warmed39 U.vm ∧ U.heap = h0) (fun _ _ _ _ _ => True) (fun _ U o U' => ∃ v L, o = .returned v ∧ Q_rm0 Z p1 s_OPTIMAL s_LIMIT s_LIMIT_WITHOUT_SOLUTION s_INFEASIBLE h0 n0 v U'.heap L ∧ FrameEnd U o U' L room_1.cells room_1.slots) := by
  refine MetFree.of_bodySF (plainFor_of_name pn_0) hisR ?_
  intro p e s m args below meth c s₁ Bd hml0 hP hK
  obtain ⟨rfl, hZ, hh⟩ := hP
  have hx := Bd.exec
  have hby := Bd.bytes
  have hml : c.maxLocals = 4 := hml0
  have hown : s.vm.findClass "com/example/switchyard/switchyard/solver/StatusHasSolutionPinLaw" = some m.cls := findClass_of_methodNamed Bd.named
  have hnm := (name_of_methodNamed Bd.named Bd.method).1
  have X0 : Stand p l e room_1 s m #[(.int p1)] below meth c s₁ [] 0 0 := Stand.of_body Bd
  have e0 : s₁.heap = h0 := by rw [← hh, Bd.state]; rfl
  have N0 := Fr.nil n0
  have pre0 : ∀ t, Steps p.tables e below (s₁.setTop (mkF m 0 #[.val (.int p1), .unset, .unset, .unset] [])) t → Steps p.tables e below (s₁.setTop (entryFrame m #[(.int p1)] maxLocals)) t := fun t k => castTop (ef_0 m p1) k
  obtain ⟨T2, X2, e2, st2⟩ := getS2 X0 hx hZ hown (host := "") (Or.inl (hw _ (List.mem_of_getElem? (i := 9) rfl))) Via.refl e0 S_INFEASIBLE (g := (mkF m 45 #[.val (.int p1), .val (.int (p1 &&& (3 : Int32))), .unset, .unset] [])) rfl (hb hby at_45)
  obtain ⟨cq3, kq3, q3a, q3b, q3c⟩ := isOf hZ e2 E_s_INFEASIBLE
  obtain ⟨_, _, ⟨T3, L3, k3, n3⟩, -, X3, ⟨Lc3, hQ3, l3, y3, z3⟩, st3⟩ := X2.virtualBack hx (y := (⟨"com/example/switchyard/switchyard/solver/Solution$Status", "hasSolution", "()Z"⟩ : MethodName)) (z := (⟨"com/example/switchyard/switchyard/solver/Solution$Status", "hasSolution", "()Z"⟩ : MethodName)) hown (mvT hZ (hw _ (List.mem_of_getElem? (i := 3) rfl))) (mvT hZ (hw _ (List.mem_of_getElem? (i := 4) rfl))) (notFace_of_selects (args := #[]) (mvT hZ (hw _ (List.mem_of_getElem? (i := 6) rfl)))) (mvT hZ (hw _ (List.mem_of_getElem? (i := 6) rfl))) (mvT hZ (hw _ (List.mem_of_getElem? (i := 5) rfl))) (by decide) (backOf (W := 0) (rm1 l Z a0 hw [] s_INFEASIBLE s_OPTIMAL s_LIMIT h0 n0 Z0 S_OPTIMAL S_LIMIT) hZ (hw _ (List.mem_of_getElem? (i := 7) rfl)) (hw _ (List.mem_of_getElem? (i := 1) rfl)) (by decide) (by decide)) q3a q3c (g := (mkF m 52 #[.val (.int p1), .val (.int (p1 &&& (3 : Int32))), .val (.ref s_INFEASIBLE), .val (.int (0 : Int32))] [(.ref s_INFEASIBLE)])) rfl (by rw [hml]; rfl) (Steps.refl _) (argsL := []) (rest := []) (lenOf pd__28_29Z rfl) rfl (by show 2 * 0 + _ ≤ _; exact Nat.le_of_eq rfl) (hb hby at_52) (fun _ _ => ⟨rfl, e2, (by decide : 0 + 0 ≤ _), (by decide : 0 + 0 ≤ _)⟩)
  dsimp only [Pt.U, Pt.locs, Pt.cells, Pt.slots] at X3 l3 y3 z3 st3 hQ3
  subst l3 y3 z3
  obtain ⟨rfl, N3q, e3⟩ := hQ3
  have N3 := Fr.app N0 N3q
  obtain ⟨fs, hr, hrun, hended, hW, hsame⟩ := X3.leave (v := some (.int (1 : Int32))) (fun h => by rw [Bd.returns] at h; cases h)
  refine ⟨_, _, pre0 _ ?_, hrun, hended, _, _, rfl, ?_, ⟨_, rfl⟩, hW, hsame.mono (by decide) (by decide)⟩
  · show Steps p.tables e below (s₁.setTop (mkF m 0 #[.val (.int p1), .unset, .unset, .unset] [])) _
    refine XS.iloadN X0.here hx rfl (hb hby at_0) rfl ?_
    show Steps p.tables e below (s₁.setTop (mkF m 1 #[.val (.int p1), .unset, .unset, .unset] [(.int p1)])) _
    refine XS.iconst X0.here hx rfl (hb hby at_1) ?_
    show Steps p.tables e below (s₁.setTop (mkF m 2 #[.val (.int p1), .unset, .unset, .unset] [(.int (3 : Int32)), (.int p1)])) _
    refine XS.iand X0.here hx rfl (hb hby at_2) rfl ?_
    show Steps p.tables e below (s₁.setTop (mkF m 3 #[.val (.int p1), .unset, .unset, .unset] [(.int (p1 &&& (3 : Int32)))])) _
    refine XS.istoreN X0.here hx rfl (hb hby at_3) rfl (l' := #[.val (.int p1), .val (.int (p1 &&& (3 : Int32))), .unset, .unset]) rfl ?_
    show Steps p.tables e below (s₁.setTop (mkF m 4 #[.val (.int p1), .val (.int (p1 &&& (3 : Int32))), .unset, .unset] [])) _
    refine XS.iloadN X0.here hx rfl (hb hby at_4) rfl ?_
    show Steps p.tables e below (s₁.setTop (mkF m 5 #[.val (.int p1), .val (.int (p1 &&& (3 : Int32))), .unset, .unset] [(.int (p1 &&& (3 : Int32)))])) _
    refine XS.ifYes X0.here hx rfl (pc0 := 5) (pc' := 17) rfl (hb hby at_5) rfl ((if0 _ _).trans (feq hc5).2) (by decide) (by decide) ?_
    show Steps p.tables e below (s₁.setTop (mkF m 17 #[.val (.int p1), .val (.int (p1 &&& (3 : Int32))), .unset, .unset] [])) _
    refine XS.iloadN X0.here hx rfl (hb hby at_17) rfl ?_
    show Steps p.tables e below (s₁.setTop (mkF m 18 #[.val (.int p1), .val (.int (p1 &&& (3 : Int32))), .unset, .unset] [(.int (p1 &&& (3 : Int32)))])) _
    refine XS.iconst X0.here hx rfl (hb hby at_18) ?_
    show Steps p.tables e below (s₁.setTop (mkF m 19 #[.val (.int p1), .val (.int (p1 &&& (3 : Int32))), .unset, .unset] [(.int (1 : Int32)), (.int (p1 &&& (3 : Int32)))])) _
    refine XS.icmpYes X0.here hx rfl (pc0 := 19) (pc' := 31) rfl (hb hby at_19) rfl (feq hc19).2 (by decide) (by decide) ?_
    show Steps p.tables e below (s₁.setTop (mkF m 31 #[.val (.int p1), .val (.int (p1 &&& (3 : Int32))), .unset, .unset] [])) _
    refine XS.iloadN X0.here hx rfl (hb hby at_31) rfl ?_
    show Steps p.tables e below (s₁.setTop (mkF m 32 #[.val (.int p1), .val (.int (p1 &&& (3 : Int32))), .unset, .unset] [(.int (p1 &&& (3 : Int32)))])) _
    refine XS.iconst X0.here hx rfl (hb hby at_32) ?_
    show Steps p.tables e below (s₁.setTop (mkF m 33 #[.val (.int p1), .val (.int (p1 &&& (3 : Int32))), .unset, .unset] [(.int (2 : Int32)), (.int (p1 &&& (3 : Int32)))])) _
    refine XS.icmpYes X0.here hx rfl (pc0 := 33) (pc' := 45) rfl (hb hby at_33) rfl (feq hc33).2 (by decide) (by decide) ?_
    show Steps p.tables e below (s₁.setTop (mkF m 45 #[.val (.int p1), .val (.int (p1 &&& (3 : Int32))), .unset, .unset] [])) _
    refine st2 _ ?_
    show Steps p.tables e below (T2.setTop (mkF m 48 #[.val (.int p1), .val (.int (p1 &&& (3 : Int32))), .unset, .unset] [(.ref s_INFEASIBLE)])) _
    refine XS.astoreN X2.here hx rfl (hb hby at_48) rfl rfl (l' := #[.val (.int p1), .val (.int (p1 &&& (3 : Int32))), .val (.ref s_INFEASIBLE), .unset]) rfl ?_
    show Steps p.tables e below (T2.setTop (mkF m 49 #[.val (.int p1), .val (.int (p1 &&& (3 : Int32))), .val (.ref s_INFEASIBLE), .unset] [])) _
    refine XS.iconst X2.here hx rfl (hb hby at_49) ?_
    show Steps p.tables e below (T2.setTop (mkF m 50 #[.val (.int p1), .val (.int (p1 &&& (3 : Int32))), .val (.ref s_INFEASIBLE), .unset] [(.int (0 : Int32))])) _
    refine XS.istoreN X2.here hx rfl (hb hby at_50) rfl (l' := #[.val (.int p1), .val (.int (p1 &&& (3 : Int32))), .val (.ref s_INFEASIBLE), .val (.int (0 : Int32))]) rfl ?_
    show Steps p.tables e below (T2.setTop (mkF m 51 #[.val (.int p1), .val (.int (p1 &&& (3 : Int32))), .val (.ref s_INFEASIBLE), .val (.int (0 : Int32))] [])) _
    refine XS.aloadN X2.here hx rfl (hb hby at_51) rfl rfl ?_
    show Steps p.tables e below (T2.setTop (mkF m 52 #[.val (.int p1), .val (.int (p1 &&& (3 : Int32))), .val (.ref s_INFEASIBLE), .val (.int (0 : Int32))] [(.ref s_INFEASIBLE)])) _
    refine st3.trans ?_
    show Steps p.tables e below (T3.setTop (mkF m 55 #[.val (.int p1), .val (.int (p1 &&& (3 : Int32))), .val (.ref s_INFEASIBLE), .val (.int (0 : Int32))] [(.int (F1 s_INFEASIBLE s_OPTIMAL s_LIMIT))])) _
    refine XS.iloadN X3.here hx rfl (hb hby at_55) rfl ?_
    show Steps p.tables e below (T3.setTop (mkF m 56 #[.val (.int p1), .val (.int (p1 &&& (3 : Int32))), .val (.ref s_INFEASIBLE), .val (.int (0 : Int32))] [(.int (0 : Int32)), (.int (F1 s_INFEASIBLE s_OPTIMAL s_LIMIT))])) _
    refine XS.icmpNo X3.here hx rfl (hb hby at_56) rfl (teq (show (F1 s_INFEASIBLE s_OPTIMAL s_LIMIT) = (0 : Int32) from by simp [F1, n1, n2, n3, n4, n5])).2 ?_
    show Steps p.tables e below (T3.setTop (mkF m 59 #[.val (.int p1), .val (.int (p1 &&& (3 : Int32))), .val (.ref s_INFEASIBLE), .val (.int (0 : Int32))] [])) _
    refine XS.iconst X3.here hx rfl (hb hby at_59) ?_
    show Steps p.tables e below (T3.setTop (mkF m 60 #[.val (.int p1), .val (.int (p1 &&& (3 : Int32))), .val (.ref s_INFEASIBLE), .val (.int (0 : Int32))] [(.int (1 : Int32))])) _
    refine XS.goto X3.here hx rfl (pc0 := 60) (pc' := 64) rfl (hb hby at_60) (by decide) (by decide) ?_
    show Steps p.tables e below (T3.setTop (mkF m 64 #[.val (.int p1), .val (.int (p1 &&& (3 : Int32))), .val (.ref s_INFEASIBLE), .val (.int (0 : Int32))] [(.int (1 : Int32))])) _
    exact retN X3 hx (t := .boolean) Bd.returns (by simp) (hb hby at_64) hr
  · show Q_rm0 Z p1 s_OPTIMAL s_LIMIT s_LIMIT_WITHOUT_SOLUTION s_INFEASIBLE h0 n0 _ T3.heap _
    exact ⟨rfl, N3⟩
set_option maxHeartbeats 4000000 in
theorem rm0 (l : Launch) (Z : State) (a0 : Array Value) (hw : ∀ d ∈ tables_1, d.before a0 Z = true) (ws : List Jvm.Cond) (p1 : Int32) (s_OPTIMAL : Addr) (s_LIMIT : Addr) (s_LIMIT_WITHOUT_SOLUTION : Addr) (s_INFEASIBLE : Addr) (h0 : Heap) (n0 : Nat) (Z0 : n0 ≤ h0.size) (n1 : s_LIMIT ≠ s_OPTIMAL) (n2 : s_LIMIT_WITHOUT_SOLUTION ≠ s_OPTIMAL) (n3 : s_LIMIT_WITHOUT_SOLUTION ≠ s_LIMIT) (n4 : s_INFEASIBLE ≠ s_OPTIMAL) (n5 : s_INFEASIBLE ≠ s_LIMIT) (S_OPTIMAL : Sta Z h0 "com/example/switchyard/switchyard/solver/Solution$Status" "OPTIMAL" "Lcom/example/switchyard/switchyard/solver/Solution$Status;" (.ref s_OPTIMAL)) (S_LIMIT : Sta Z h0 "com/example/switchyard/switchyard/solver/Solution$Status" "LIMIT" "Lcom/example/switchyard/switchyard/solver/Solution$Status;" (.ref s_LIMIT)) (E_s_OPTIMAL : Exa Z h0 s_OPTIMAL "com/example/switchyard/switchyard/solver/Solution$Status") (E_s_LIMIT : Exa Z h0 s_LIMIT "com/example/switchyard/switchyard/solver/Solution$Status") (S_LIMIT_WITHOUT_SOLUTION : Sta Z h0 "com/example/switchyard/switchyard/solver/Solution$Status" "LIMIT_WITHOUT_SOLUTION" "Lcom/example/switchyard/switchyard/solver/Solution$Status;" (.ref s_LIMIT_WITHOUT_SOLUTION)) (E_s_LIMIT_WITHOUT_SOLUTION : Exa Z h0 s_LIMIT_WITHOUT_SOLUTION "com/example/switchyard/switchyard/solver/Solution$Status") (S_INFEASIBLE : Sta Z h0 "com/example/switchyard/switchyard/solver/Solution$Status" "INFEASIBLE" "Lcom/example/switchyard/switchyard/solver/Solution$Status;" (.ref s_INFEASIBLE)) (E_s_INFEASIBLE : Exa Z h0 s_INFEASIBLE "com/example/switchyard/switchyard/solver/Solution$Status") :
    MetFree l x (head1 (Jvm.Cond.code x code maxLocals ret :: ws) room_1) (fun a U => a = #[(.int p1)] ∧ Z.Warmed39 U.vm ∧ U.heap = h0) (fun _ _ _ _ _ => True) (fun _ U o U' => ∃ v L, o = .returned v ∧ Q_rm0 Z p1 s_OPTIMAL s_LIMIT s_LIMIT_WITHOUT_SOLUTION s_INFEASIBLE h0 n0 v U'.heap L ∧ FrameEnd U o U' L room_1.cells room_1.slots) := by
  by_cases hc5 : (p1 &&& (3 : Int32)) = (0 : Int32)
  · skip
    exact rm0_f l Z a0 hw ws p1 s_OPTIMAL s_LIMIT s_LIMIT_WITHOUT_SOLUTION s_INFEASIBLE h0 n0 Z0 n1 n2 n3 n4 n5 S_OPTIMAL S_LIMIT E_s_OPTIMAL E_s_LIMIT S_LIMIT_WITHOUT_SOLUTION E_s_LIMIT_WITHOUT_SOLUTION S_INFEASIBLE E_s_INFEASIBLE hc5
  · skip
    by_cases hc19 : (p1 &&& (3 : Int32)) = (1 : Int32)
    · skip
      exact rm0_tf l Z a0 hw ws p1 s_OPTIMAL s_LIMIT s_LIMIT_WITHOUT_SOLUTION s_INFEASIBLE h0 n0 Z0 n1 n2 n3 n4 n5 S_OPTIMAL S_LIMIT E_s_OPTIMAL E_s_LIMIT S_LIMIT_WITHOUT_SOLUTION E_s_LIMIT_WITHOUT_SOLUTION S_INFEASIBLE E_s_INFEASIBLE hc5 hc19
    · skip
      by_cases hc33 : (p1 &&& (3 : Int32)) = (2 : Int32)
      · skip
        exact rm0_ttf l Z a0 hw ws p1 s_OPTIMAL s_LIMIT s_LIMIT_WITHOUT_SOLUTION s_INFEASIBLE h0 n0 Z0 n1 n2 n3 n4 n5 S_OPTIMAL S_LIMIT E_s_OPTIMAL E_s_LIMIT S_LIMIT_WITHOUT_SOLUTION E_s_LIMIT_WITHOUT_SOLUTION S_INFEASIBLE E_s_INFEASIBLE hc5 hc19 hc33
      · skip
        exact rm0_ttt l Z a0 hw ws p1 s_OPTIMAL s_LIMIT s_LIMIT_WITHOUT_SOLUTION s_INFEASIBLE h0 n0 Z0 n1 n2 n3 n4 n5 S_OPTIMAL S_LIMIT E_s_OPTIMAL E_s_LIMIT S_LIMIT_WITHOUT_SOLUTION E_s_LIMIT_WITHOUT_SOLUTION S_INFEASIBLE E_s_INFEASIBLE hc5 hc19 hc33
set_option maxRecDepth 65536 in
set_option maxHeartbeats 40000000 in
theorem comes_1 {Post : Tables → Env → Array Value → State → Outcome → State → Prop} (hpost : ∀ tb e args s v u, (limb_1_1.after args s (.returned v) u = true ∧ limb_1_2.after args s (.returned v) u = true ∧ True) → FrameEnd s (.returned v) u (Jvm.fieldLocs frame_1_writes args s ++ Jvm.arrayLocs frame_1_arrays args s ++ Jvm.staticLocs frame_1_statics s) 0 0 → Post tb e args s (.returned v) u) :
    ArmFor flags0 classFile x code maxLocals ret World_1 tables_1 room_1 Calls_1 rest_1 Pre_1 Post := by
  intro l hfl _ _ p e ha hc hk s m args below hf hA hF happ hP
  obtain ⟨hcalls, hrest, hpre⟩ := hP
  obtain ⟨-, -, -, hnamed, -, -, -, hat⟩ := (Spec.applies_iff hf).mp happ
  obtain ⟨hg, hn⟩ := and_e (Cond.before_iff.mp (show (Jvm.Cond.and given_1 narrow_1).before args s = true from hpre))
  obtain ⟨g1, g2⟩ := and_e hg
  obtain ⟨w0, rfl⟩ : ∃ w0 : Value, args = #[w0] := by
    have hs : args.size = 1 := by simpa [Cond.value, given_1] using g1
    obtain ⟨L⟩ := args
    match L, hs with
    | [w0], _ => exact ⟨w0, rfl⟩
  have hw := fun d (hd : d ∈ tables_1) => atoms_spec (ws := Jvm.Cond.code x code maxLocals ret :: tables_1) hat d (List.mem_cons_of_mem _ hd)
  have hfit : Fit s := fun {y c} hc i hi => by
    obtain ⟨ha, rfl⟩ := Array.getElem?_eq_some_iff.mp hc
    have q := List.all_eq_true.mp ((Array.all_eq_true_iff_forall_mem.mp hF) _ (Array.getElem_mem ha)) i (List.mem_range.mpr hi)
    simpa [Array.getElem?_eq_getElem hi] using q
  obtain ⟨i0, ei0⟩ := is_v g2
  obtain rfl : w0 = (.int i0) := Option.some.inj ei0
  obtain ⟨na1, na2⟩ := and_e hn
  obtain ⟨na3, na4⟩ := and_e na2
  obtain ⟨na5, na6⟩ := and_e na4
  obtain ⟨na7, na8⟩ := and_e na6
  obtain ⟨na9, na10⟩ := and_e na8
  obtain ⟨na11, na12⟩ := and_e na10
  obtain ⟨na13, na14⟩ := and_e na12
  obtain ⟨a_OPTIMAL, ev_OPTIMAL⟩ := exa_v na1
  have E_OPTIMAL : Exa s s.heap a_OPTIMAL "com/example/switchyard/switchyard/solver/Solution$Status" := Exa.start ev_OPTIMAL na1
  have S_OPTIMAL : Sta s s.heap "com/example/switchyard/switchyard/solver/Solution$Status" "OPTIMAL" "Lcom/example/switchyard/switchyard/solver/Solution$Status;" (.ref a_OPTIMAL) := Sta.start ev_OPTIMAL (Or.inr ⟨(hw _ (List.mem_of_getElem? (i := 1) rfl)), (hw _ (List.mem_of_getElem? (i := 2) rfl))⟩)
  obtain ⟨a_INFEASIBLE, ev_INFEASIBLE⟩ := exa_v na3
  have E_INFEASIBLE : Exa s s.heap a_INFEASIBLE "com/example/switchyard/switchyard/solver/Solution$Status" := Exa.start ev_INFEASIBLE na3
  have S_INFEASIBLE : Sta s s.heap "com/example/switchyard/switchyard/solver/Solution$Status" "INFEASIBLE" "Lcom/example/switchyard/switchyard/solver/Solution$Status;" (.ref a_INFEASIBLE) := Sta.start ev_INFEASIBLE (Or.inr ⟨(hw _ (List.mem_of_getElem? (i := 1) rfl)), (hw _ (List.mem_of_getElem? (i := 10) rfl))⟩)
  obtain ⟨a_LIMIT, ev_LIMIT⟩ := exa_v na9
  have E_LIMIT : Exa s s.heap a_LIMIT "com/example/switchyard/switchyard/solver/Solution$Status" := Exa.start ev_LIMIT na9
  have S_LIMIT : Sta s s.heap "com/example/switchyard/switchyard/solver/Solution$Status" "LIMIT" "Lcom/example/switchyard/switchyard/solver/Solution$Status;" (.ref a_LIMIT) := Sta.start ev_LIMIT (Or.inr ⟨(hw _ (List.mem_of_getElem? (i := 1) rfl)), (hw _ (List.mem_of_getElem? (i := 12) rfl))⟩)
  obtain ⟨a_LIMIT_WITHOUT_SOLUTION, ev_LIMIT_WITHOUT_SOLUTION⟩ := exa_v na13
  have E_LIMIT_WITHOUT_SOLUTION : Exa s s.heap a_LIMIT_WITHOUT_SOLUTION "com/example/switchyard/switchyard/solver/Solution$Status" := Exa.start ev_LIMIT_WITHOUT_SOLUTION na13
  have S_LIMIT_WITHOUT_SOLUTION : Sta s s.heap "com/example/switchyard/switchyard/solver/Solution$Status" "LIMIT_WITHOUT_SOLUTION" "Lcom/example/switchyard/switchyard/solver/Solution$Status;" (.ref a_LIMIT_WITHOUT_SOLUTION) := Sta.start ev_LIMIT_WITHOUT_SOLUTION (Or.inr ⟨(hw _ (List.mem_of_getElem? (i := 1) rfl)), (hw _ (List.mem_of_getElem? (i := 14) rfl))⟩)
  have F_ordinal_INFEASIBLE : Fld s s.heap a_INFEASIBLE "java/lang/Enum" "ordinal" "I" (.int (3 : Int32)) := Fld.start ((fld_at ev_INFEASIBLE).symm.trans (own_eqI na5 (Term.int_eval (3))))
  have F_ordinal_OPTIMAL : Fld s s.heap a_OPTIMAL "java/lang/Enum" "ordinal" "I" (.int (0 : Int32)) := Fld.start ((fld_at ev_OPTIMAL).symm.trans (own_eqI na7 (Term.int_eval (0))))
  have F_ordinal_LIMIT : Fld s s.heap a_LIMIT "java/lang/Enum" "ordinal" "I" (.int (1 : Int32)) := Fld.start ((fld_at ev_LIMIT).symm.trans (own_eqI na11 (Term.int_eval (1))))
  have F_ordinal_LIMIT_WITHOUT_SOLUTION : Fld s s.heap a_LIMIT_WITHOUT_SOLUTION "java/lang/Enum" "ordinal" "I" (.int (2 : Int32)) := Fld.start ((fld_at ev_LIMIT_WITHOUT_SOLUTION).symm.trans (own_eqI na14 (Term.int_eval (2))))
  obtain ⟨n, o, h1, h2, h3, _, L, rfl, ⟨rfl, N⟩, hq⟩ := rm0 l s _ hw tables_1 i0 a_OPTIMAL a_LIMIT a_LIMIT_WITHOUT_SOLUTION a_INFEASIBLE s.heap s.heap.size (Nat.le_refl _) (Fld.ne F_ordinal_LIMIT F_ordinal_OPTIMAL (fun h => absurd (Value.int.inj h) (by decide))) (Fld.ne F_ordinal_LIMIT_WITHOUT_SOLUTION F_ordinal_OPTIMAL (fun h => absurd (Value.int.inj h) (by decide))) (Fld.ne F_ordinal_LIMIT_WITHOUT_SOLUTION F_ordinal_LIMIT (fun h => absurd (Value.int.inj h) (by decide))) (Fld.ne F_ordinal_INFEASIBLE F_ordinal_OPTIMAL (fun h => absurd (Value.int.inj h) (by decide))) (Fld.ne F_ordinal_INFEASIBLE F_ordinal_LIMIT (fun h => absurd (Value.int.inj h) (by decide))) S_OPTIMAL S_LIMIT E_OPTIMAL E_LIMIT S_LIMIT_WITHOUT_SOLUTION E_LIMIT_WITHOUT_SOLUTION S_INFEASIBLE E_INFEASIBLE p e ha hc hk s m _ below hf ((Spec.applies_iff_loose hf).mp happ).1 ⟨rfl, State.Warmed39.refl s, rfl⟩ trivial
  refine ⟨n, _, h1, h2, h3, hpost _ _ _ _ _ _ ⟨Cond.after_iff.mpr rfl, Cond.after_iff.mpr (eq_i res_at (Term.int_eval (1)) rfl), trivial⟩ ⟨hq.1, hq.2.1, (hq.2.2.sift fun y hy => Or.inr (N y hy)).mono (by decide) (by decide)⟩⟩
theorem main_1_1 : Claimed_1_1 := comes_1 fun _ _ _ _ _ _ h hF => ⟨h.1, hF⟩
theorem main_1_2 : Claimed_1_2 := comes_1 fun _ _ _ _ _ _ h hF => ⟨h.2.1, hF⟩
end Jvm.Pilot.@@N@@
namespace Jvm.Pilot.@@N@@
open Jvm Jvm.ClassFile Sem Op Lib Jvm.Free Jvm.Stand Jvm.Pilot.@@N@@.Jvm.D
/-! MADE BY PROGRAM (witnessworld.py) out of the Statement's table words and the real class files: 12 classes; the members and pool entries that the words name. The judged class is class 1, her method 1. -/
namespace start1
open Jvm.ClassFile
def u (s : String) : CpInfo := .utf8 (stringToUtf16 s)
/-- a pool by its gaps: so many unusable entries, then the entry; so many at the end -/
def gap : Nat → List CpInfo → List CpInfo
  | 0, r => r
  | n + 1, r => .unusable :: gap n r
def poolList (es : List (Nat × CpInfo)) (last : Nat) : List CpInfo := es.foldr (fun e r => gap e.1 (e.2 :: r)) (gap last [])
def pool (es : List (Nat × CpInfo)) (last : Nat) : Array CpInfo := ⟨poolList es last⟩
def fileOf (pool : Array CpInfo) (this : Nat) (attrs : Array Attribute := #[]) (ms : Array MethodInfo := #[]) (fl : Nat := 33) (sup : Nat := 0) (ifs : Array Nat := #[]) (fds : Array FieldInfo := #[]) : ClassFile where
  minorVersion := 0
  majorVersion := 65
  constantPool := pool
  accessFlags := fl
  thisClass := this
  superClass := sup
  interfaces := ifs
  fields := fds
  methods := ms
  attributes := attrs
def plain (name : String) (sup : Option ClassId) : Class where
  name := name
  kind := .ordinary
  loader := none
  accessFlags := 33
  super := sup
  interfaces := #[]
  cf := none
  fields := #[]
  methods := #[]
  instanceTypes := #[]
  staticTypes := #[]
  resolved := #[]
  callSites := []
  init := .initialized
  statics := none
  mirror := none

def pool0 : Array CpInfo := pool [(5, u "<init>"), (0, u "()V"), (1, .class_ 10), (1, u "java/lang/Object")] 113

def k0m0 : Method := { name := "<init>", desc := "()V", sig := { parameters := [], returnType := none }, accessFlags := 1, code := none }
/-- java/lang/Object -/
def k0 : Class := { plain "java/lang/Object" none with
  accessFlags := 33
  interfaces := #[]
  cf := some (fileOf pool0 8 #[] #[{ accessFlags := 1, nameIndex := 5, descriptorIndex := 6, attributes := #[] }] 33 0 #[] #[])
  fields := #[]
  methods := #[k0m0]
  instanceTypes := #[]
  staticTypes := #[]
  resolved := Array.replicate 124 none
  statics := none }

def pool1 : Array CpInfo := pool [(2, .class_ 4), (1, u "java/lang/Object"), (0, u "<init>"), (0, u "()V"), (0, .fieldref 8 9), (0, .class_ 10), (0, .nameAndType 11 12), (0, u "com/example/switchyard/switchyard/solver/Solution$Status"), (0, u "OPTIMAL"), (0, u "Lcom/example/switchyard/switchyard/solver/Solution$Status;"), (0, .fieldref 8 14), (0, .nameAndType 15 12), (0, u "LIMIT"), (0, .fieldref 8 17), (0, .nameAndType 18 12), (0, u "LIMIT_WITHOUT_SOLUTION"), (0, .fieldref 8 20), (0, .nameAndType 21 12), (0, u "INFEASIBLE"), (0, .methodref 8 23), (0, .nameAndType 24 25), (0, u "hasSolution"), (0, u "()Z"), (0, .class_ 27), (0, u "com/example/switchyard/switchyard/solver/StatusHasSolutionPinLaw"), (2, u "law"), (0, u "(I)Z")] 7

def k1m0 : Method := { name := "<init>", desc := "()V", sig := { parameters := [], returnType := none }, accessFlags := 1, code := none }
def k1c1 : Code := { maxStack := 2, maxLocals := 4, code := code, exceptionTable := #[], attributes := #[] }
def k1m1 : Method := { name := "law", desc := "(I)Z", sig := { parameters := [.int], returnType := some .boolean }, accessFlags := 9, code := some k1c1 }
/-- com/example/switchyard/switchyard/solver/StatusHasSolutionPinLaw -/
def k1 : Class := { plain "com/example/switchyard/switchyard/solver/StatusHasSolutionPinLaw" (some 0) with
  accessFlags := 49
  interfaces := #[]
  cf := some (fileOf pool1 26 #[] #[{ accessFlags := 1, nameIndex := 5, descriptorIndex := 6, attributes := #[] }, { accessFlags := 9, nameIndex := 30, descriptorIndex := 31, attributes := #[] }] 49 2 #[] #[])
  fields := #[]
  methods := #[k1m0, k1m1]
  instanceTypes := #[]
  staticTypes := #[]
  resolved := Array.replicate 39 none
  statics := none }

def pool2 : Array CpInfo := pool [(1, .class_ 2), (0, u "java/lang/constant/Constable"), (0, .class_ 4), (0, u "java/lang/Object")] 6

/-- java/lang/constant/Constable -/
def k2 : Class := { plain "java/lang/constant/Constable" (some 0) with
  accessFlags := 1537
  interfaces := #[]
  cf := some (fileOf pool2 1 #[] #[] 1537 3 #[] #[])
  fields := #[]
  methods := #[]
  instanceTypes := #[]
  staticTypes := #[]
  resolved := Array.replicate 11 none
  statics := none }

def pool3 : Array CpInfo := pool [(1, .class_ 2), (0, u "java/lang/Comparable"), (0, .class_ 4), (0, u "java/lang/Object")] 7

/-- java/lang/Comparable -/
def k3 : Class := { plain "java/lang/Comparable" (some 0) with
  accessFlags := 1537
  interfaces := #[]
  cf := some (fileOf pool3 1 #[] #[] 1537 3 #[] #[])
  fields := #[]
  methods := #[]
  instanceTypes := #[]
  staticTypes := #[]
  resolved := Array.replicate 12 none
  statics := none }

def pool4 : Array CpInfo := pool [(1, .class_ 2), (0, u "java/io/Serializable"), (0, .class_ 4), (0, u "java/lang/Object")] 2

/-- java/io/Serializable -/
def k4 : Class := { plain "java/io/Serializable" (some 0) with
  accessFlags := 1537
  interfaces := #[]
  cf := some (fileOf pool4 1 #[] #[] 1537 3 #[] #[])
  fields := #[]
  methods := #[]
  instanceTypes := #[]
  staticTypes := #[]
  resolved := Array.replicate 7 none
  statics := none }

def pool5 : Array CpInfo := pool [(2, .class_ 4), (1, u "java/lang/Enum"), (0, u "name"), (0, u "Ljava/lang/String;"), (2, u "ordinal"), (0, u "I"), (1, .class_ 14), (1, u "java/lang/Object"), (4, u "hash"), (86, .class_ 108), (1, u "java/lang/Enum$EnumDesc"), (2, .class_ 112), (0, u "java/lang/constant/Constable"), (0, .class_ 114), (0, u "java/lang/Comparable"), (0, .class_ 116), (0, u "java/io/Serializable")] 87

/-- java/lang/Enum -/
def k5 : Class := { plain "java/lang/Enum" (some 0) with
  accessFlags := 1057
  interfaces := #[2, 3, 4]
  cf := some (fileOf pool5 2 #[.nestMembers #[106]] #[] 1057 12 #[111, 113, 115] #[{ accessFlags := 18, nameIndex := 5, descriptorIndex := 6, attributes := #[] }, { accessFlags := 18, nameIndex := 9, descriptorIndex := 10, attributes := #[] }, { accessFlags := 2, nameIndex := 19, descriptorIndex := 10, attributes := #[] }])
  fields := #[{ name := "name", type := (.object "java/lang/String"), accessFlags := 18, slot := 0, constantValue := 0 }, { name := "ordinal", type := .int, accessFlags := 18, slot := 1, constantValue := 0 }, { name := "hash", type := .int, accessFlags := 2, slot := 2, constantValue := 0 }]
  methods := #[]
  instanceTypes := #[(.object "java/lang/String"), .int, .int]
  staticTypes := #[]
  resolved := Array.replicate 204 none
  statics := none }

def pool6 : Array CpInfo := pool [(1, .class_ 2), (0, u "com/example/switchyard/switchyard/solver/Solution$Status"), (0, .fieldref 1 4), (0, .nameAndType 5 6), (0, u "OPTIMAL"), (0, u "Lcom/example/switchyard/switchyard/solver/Solution$Status;"), (0, .fieldref 1 8), (0, .nameAndType 9 6), (0, u "LIMIT"), (2, u "LIMIT_WITHOUT_SOLUTION"), (2, u "INFEASIBLE"), (2, u "$VALUES"), (0, u "[Lcom/example/switchyard/switchyard/solver/Solution$Status;"), (6, .class_ 28), (1, u "java/lang/Enum"), (22, u "hasSolution"), (0, u "()Z"), (6, .class_ 60), (0, u "com/example/switchyard/switchyard/solver/Solution")] 2

def k6c0 : Code := { maxStack := 2, maxLocals := 1, code := prog_18_method_4_code, exceptionTable := #[], attributes := #[] }
def k6m0 : Method := { name := "hasSolution", desc := "()Z", sig := { parameters := [], returnType := some .boolean }, accessFlags := 1, code := some k6c0 }
/-- com/example/switchyard/switchyard/solver/Solution$Status -/
def k6 : Class := { plain "com/example/switchyard/switchyard/solver/Solution$Status" (some 5) with
  accessFlags := 16433
  interfaces := #[]
  cf := some (fileOf pool6 1 #[.nestHost 59] #[{ accessFlags := 1, nameIndex := 51, descriptorIndex := 52, attributes := #[] }] 16433 26 #[] #[{ accessFlags := 16409, nameIndex := 5, descriptorIndex := 6, attributes := #[] }, { accessFlags := 16409, nameIndex := 9, descriptorIndex := 6, attributes := #[] }, { accessFlags := 16409, nameIndex := 12, descriptorIndex := 6, attributes := #[] }, { accessFlags := 16409, nameIndex := 15, descriptorIndex := 6, attributes := #[] }, { accessFlags := 4122, nameIndex := 18, descriptorIndex := 19, attributes := #[] }])
  fields := #[{ name := "OPTIMAL", type := (.object "com/example/switchyard/switchyard/solver/Solution$Status"), accessFlags := 16409, slot := 0, constantValue := 0 }, { name := "LIMIT", type := (.object "com/example/switchyard/switchyard/solver/Solution$Status"), accessFlags := 16409, slot := 1, constantValue := 0 }, { name := "LIMIT_WITHOUT_SOLUTION", type := (.object "com/example/switchyard/switchyard/solver/Solution$Status"), accessFlags := 16409, slot := 2, constantValue := 0 }, { name := "INFEASIBLE", type := (.object "com/example/switchyard/switchyard/solver/Solution$Status"), accessFlags := 16409, slot := 3, constantValue := 0 }, { name := "$VALUES", type := (.array (.object "com/example/switchyard/switchyard/solver/Solution$Status")), accessFlags := 4122, slot := 4, constantValue := 0 }]
  methods := #[k6m0]
  instanceTypes := #[(.object "java/lang/String"), .int, .int]
  staticTypes := #[(.object "com/example/switchyard/switchyard/solver/Solution$Status"), (.object "com/example/switchyard/switchyard/solver/Solution$Status"), (.object "com/example/switchyard/switchyard/solver/Solution$Status"), (.object "com/example/switchyard/switchyard/solver/Solution$Status"), (.array (.object "com/example/switchyard/switchyard/solver/Solution$Status"))]
  resolved := Array.replicate 63 none
  statics := some 0 }

def pool7 : Array CpInfo := pool [(1, u "java/lang/Cloneable"), (0, .class_ 1), (0, u "java/lang/Object"), (0, .class_ 3)] 3

/-- java/lang/Cloneable -/
def k7 : Class := { plain "java/lang/Cloneable" (some 0) with
  accessFlags := 1537
  interfaces := #[]
  cf := some (fileOf pool7 2 #[] #[] 1537 4 #[] #[])
  fields := #[]
  methods := #[]
  instanceTypes := #[]
  staticTypes := #[]
  resolved := Array.replicate 8 none
  statics := none }

/-- the primitive byte -/
def k8 : Class := { plain "byte" none with kind := .primitive 'B', accessFlags := 0x411 }
/-- [B -/
def k9 : Class := { plain "[B" (some 0) with kind := .array 8 .byte, interfaces := #[7, 4], accessFlags := 1041 }

/-- the primitive int -/
def k10 : Class := { plain "int" none with kind := .primitive 'I', accessFlags := 0x411 }
/-- [I -/
def k11 : Class := { plain "[I" (some 0) with kind := .array 10 .int, interfaces := #[7, 4], accessFlags := 1041 }

def heap : Heap := #[{ cls := 6, slots := #[.ref 1, .ref 3, .ref 4, .ref 2, .null], vm := .statics 6 },
  { cls := 6, slots := #[.null, .int 0, .int 0], vm := .none },
  { cls := 6, slots := #[.null, .int 3, .int 0], vm := .none },
  { cls := 6, slots := #[.null, .int 1, .int 0], vm := .none },
  { cls := 6, slots := #[.null, .int 2, .int 0], vm := .none }]
def classes : Array Class := #[k0, k1, k2, k3, k4, k5, k6, k7, k8, k9, k10, k11]
def interned : List (Array UInt16 × Addr) := []
def slotsUsed : Nat := 17
def theMethod : MethodId := ⟨1, 1⟩
def args0 : Array Value := #[.int 3]
def aboutOver (below : List Frame) : State where
  vm := { classes := classes, interned := interned.toArray }
  heap := heap
  slotsUsed := slotsUsed
  threads := #[{ frames := .invoking theMethod args0 :: below }]
def below0 : List Frame := [.native { method := ⟨0, 0⟩, args := #[] }]
def about1 : State := aboutOver below0
def p0 : Program := .bare "" "" ""
def e0 : Env := launch0.env 0 0 0
theorem w_frames : about1.frames = Frame.invoking theMethod args0 :: below0 := rfl
set_option maxRecDepth 65536 in
theorem w_args : argsFit about1.vm theMethod args0 = true := by decide +kernel
set_option maxRecDepth 65536 in
theorem w_heap : heapFits about1 = true := by decide +kernel
set_option maxRecDepth 65536 in
theorem w_runnable : about1.curStatus? = some .runnable := by decide +kernel
set_option maxRecDepth 65536 in
theorem w_alone : about1.alone = true := by decide +kernel
set_option maxRecDepth 65536 in
theorem w_named : about1.methodNamed? x = some theMethod := by decide +kernel
set_option maxRecDepth 65536 in
theorem w_hears : about1.hears theMethod below0 = true := by decide +kernel
set_option maxRecDepth 65536 in
theorem w_ripe : about1.ripe theMethod args0 below0 = true := by decide +kernel
theorem w_running : about1.status = .running := rfl
set_option maxRecDepth 65536 in
theorem w_room : about1.hasRoom e0.platform room_1 = true :=
  launch0.hasRoom_least _ room_1 (by decide +kernel) (by decide +kernel) (by decide +kernel) (by decide +kernel) (by decide +kernel) (by decide +kernel)
theorem allAtoms_all (ts : List Jvm.Cond) (a : Array Jvm.Value) (st : Jvm.State) : (allAtoms ts).before a st = ts.all (fun c => c.before a st) := by
  induction ts with
  | nil => rfl
  | cons c t ih =>
    show (Jvm.Cond.and c (allAtoms t)).before a st = _
    rw [Jvm.Cond.before_and, ih, List.all_cons]
def words1 : List Jvm.Cond := Jvm.Cond.code x code maxLocals ret :: tables_1
/-- a 'code' word, met by the world's own term for the bytes: nothing is compared byte by byte -/
theorem code_word {y : MethodName} {bytes : ByteArray} {mx : Nat} {rt : Option FieldType} {a : Array Value} {s : State} {m : MethodId} {meth : Method} {c : Code} (h1 : s.methodNamed? y = some m) (h2 : s.vm.method? m = some meth) (h3 : meth.code = some c) (h4 : c.code = bytes)
    (h5 : (c.maxLocals == mx && c.exceptionTable.isEmpty && decide (c.maxStack ≤ mostOperands) && decide (meth.sig.returnType = rt) && !meth.locks && decide (parseMethodDescriptor y.desc = some meth.sig)) = true) : (Jvm.Cond.code y bytes mx rt).before a s = true := by
  simp only [Bool.and_eq_true, beq_iff_eq, Bool.not_eq_true', decide_eq_true_eq] at h5
  obtain ⟨⟨⟨⟨⟨g1, g2⟩, g3⟩, g4⟩, g5⟩, g6⟩ := h5
  simp [Cond.before, Cond.holds, Cond.value, h1, h2, h3, h4, g1, g2, g3, g4, g5, g6]
def isCode : Jvm.Cond → Bool
  | .code _ _ _ _ => true
  | _ => false
theorem all_split {L : List Jvm.Cond} {P : Jvm.Cond → Bool} (h1 : L.all (fun c => isCode c || P c) = true) (h2 : ∀ c ∈ L.filter isCode, P c = true) : L.all P = true := by
  refine List.all_eq_true.mpr fun c hc => ?_
  have h := List.all_eq_true.mp h1 c hc
  rcases Bool.eq_false_or_eq_true (isCode c) with hi | hi
  · exact h2 c (List.mem_filter.mpr ⟨hc, hi⟩)
  · simpa [hi] using h
set_option maxRecDepth 65536 in
theorem w_c0 : (Jvm.Cond.code x code maxLocals ret).before args0 about1 = true := code_word (m := ⟨1, 1⟩) (meth := k1m1) (c := k1c1) (by decide +kernel) rfl rfl rfl (by decide +kernel)
set_option maxRecDepth 65536 in
theorem w_c1 : (Jvm.Cond.code ({ cls := "com/example/switchyard/switchyard/solver/Solution$Status", name := "hasSolution", desc := "()Z" } : Jvm.MethodName) prog_18_method_4_code (1 : Nat) (Option.some Jvm.ClassFile.FieldType.boolean)).before args0 about1 = true := code_word (m := ⟨6, 0⟩) (meth := k6m0) (c := k6c0) (by decide +kernel) rfl rfl rfl (by decide +kernel)
def codes1 : List Jvm.Cond := [Jvm.Cond.code x code maxLocals ret, Jvm.Cond.code ({ cls := "com/example/switchyard/switchyard/solver/Solution$Status", name := "hasSolution", desc := "()Z" } : Jvm.MethodName) prog_18_method_4_code (1 : Nat) (Option.some Jvm.ClassFile.FieldType.boolean)]
set_option maxRecDepth 65536 in
theorem codes_eq : words1.filter isCode = codes1 := rfl
theorem w_codes : ∀ c ∈ words1.filter isCode, c.before args0 about1 = true := by
  rw [codes_eq]
  intro c hc
  simp only [codes1, List.mem_cons, List.not_mem_nil, or_false] at hc
  rcases hc with rfl | rfl
  · exact w_c0
  · exact w_c1
set_option maxRecDepth 65536 in
theorem w_t1 : words1.all (fun c => isCode c || c.before args0 about1) = true := by decide +kernel
theorem w_tables : (allAtoms (Jvm.Cond.code x code maxLocals ret :: tables_1)).before args0 about1 = true := by
  rw [allAtoms_all]
  show words1.all (fun c => c.before args0 about1) = true
  refine all_split ?_ w_codes
  rw [w_t1]
set_option maxRecDepth 65536 in
theorem w_case : (Jvm.Cond.and given_1 narrow_1).before args0 about1 = true := by decide +kernel
theorem w_applies : (headSpec (Jvm.Cond.code x code maxLocals ret :: tables_1) room_1).applies x e0.platform about1 = true :=
  (Spec.applies_iff w_frames).mpr ⟨w_running, w_runnable, w_alone, w_named, w_hears, w_ripe, w_room, w_tables⟩
theorem atStart : AtStart classFile x code maxLocals ret World_1 tables_1 room_1 Calls_1 rest_1 Pre_1 launch0 p0 e0 about1 theMethod args0 below0 :=
  ⟨lists_1, trivial, launch0.admits_env _ _ _, launch0.least_env, fairChoices_fair.cas, fairChoices_fair.clock, w_frames, w_args, w_heap, w_applies, trivial, trivial, w_case⟩
end start1
theorem witness_1 : WitnessClaimed_1 := ⟨start1.p0, start1.e0, start1.about1, start1.theMethod, start1.args0, start1.below0, start1.atStart⟩
end Jvm.Pilot.@@N@@
