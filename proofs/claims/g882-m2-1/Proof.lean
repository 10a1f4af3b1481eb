import JvmDerived
import JvmDerived.Pilot.@@N@@Statement
import JvmDerived.Pilot.@@N@@Code
set_option linter.unusedVariables false
set_option linter.unusedSimpArgs false
namespace Jvm.RoadKit
open Sem ClassFile Op Lib Jvm.Stand Jvm.Free Jvm.LawKit
section New
variable {p : Program} {l : Launch} {e : Env} {R : Room} {s : State} {m : MethodId} {args : Array Value} {below : List Frame} {meth : Method} {c : Code} {T : State} {locs : List Loc} {cells slots : Nat}
theorem retI (X : Stand p l e R s m args below meth c T locs cells slots) (hx : p.tables.exec = Jvm.exec) {pc : Nat} {Ls : Array Slot} {z : Int32} {rest : List Value} (hret : meth.sig.returnType = some .int) (hd : decode c.code pc = .ok (.ireturn, 1)) {fs : List Frame}
    (hl : ∀ (f : JFrame) (acts : List Action), f.method = m → f.locked = none → f.entered = [] → (doReturn e (T.setTop f) acts (some (.int z))).1 = T.setFrames fs) : Steps p.tables e below (T.setTop (mkF m pc Ls (.int z :: rest))) (T.setFrames fs) := by
  have hm' : T.vm.method? m = some meth := X.method'
  have hn : narrow .int (.int z) = .int z := rfl
  show Steps p.tables e below (T.setTop { method := m, pc := pc, locals := Ls, stack := _ :: rest, locked := none }) _
  jvm_step X.here [X.here.top, hx, hd, hm', hret, hn]
  first | (intro acts; rw [hl _ acts rfl rfl rfl]) | rw [hl _ _ rfl rfl rfl]
  exact Steps.refl _
end New
end Jvm.RoadKit
namespace Jvm.Pilot.@@N@@
open Jvm Jvm.ClassFile Sem Op Lib Jvm.Free Jvm.Stand Jvm.LawKit Jvm.RoadKit Bundle Jvm.Pilot.@@N@@.Jvm.D
theorem own_nm {a b : Addr} {l : List Addr} (h : a ≠ b) (r : a ∉ l) : a ∉ b :: l := fun q => (List.mem_cons.mp q).elim h r
theorem own_n0 {a : Addr} : a ∉ ([] : List Addr) := fun q => nomatch q
theorem own_nst {Z : State} {h : Heap} {a : Addr} {C : String} (F : Exa Z h a C) : ∃ c : Cell, h[a]? = some c ∧ c.vm.isStatics = false := by obtain ⟨c, k, h1, -, -, h4, -⟩ := F; exact ⟨c, h1, h4⟩
theorem own_nstV {Z : State} {h : Heap} {a : Addr} {k : ClassId} {ty : FieldType} {z : Int32} {vs : List Value} {dv : Value} (F : Arv Z h a k ty z vs dv) : ∃ c : Cell, h[a]? = some c ∧ c.vm.isStatics = false := by
  obtain ⟨c, A, -⟩ := F
  refine ⟨c, A.1, ?_⟩
  have q := A.2.1.1
  cases e : c.vm <;> first | rfl | exact absurd e (q _)
theorem own_q0 {h : Heap} : ∀ x ∈ ([] : List Addr), ∃ c : Cell, h[x]? = some c ∧ c.vm.isStatics = false := fun _ q => nomatch q
theorem own_qc {h : Heap} {a : Addr} {l : List Addr} (p : ∃ c : Cell, h[a]? = some c ∧ c.vm.isStatics = false) (r : ∀ x ∈ l, ∃ c : Cell, h[x]? = some c ∧ c.vm.isStatics = false) : ∀ x ∈ a :: l, ∃ c : Cell, h[x]? = some c ∧ c.vm.isStatics = false := fun x q => (List.mem_cons.mp q).elim (fun e => e ▸ p) (r x)
theorem own_sta_keep {Z : State} {h h' : Heap} {ws : List Addr} {C n d : String} {v : Value} (F : Sta Z h C n d v) (K : Keep h h' ws) (q : ∀ x ∈ ws, ∃ c : Cell, h[x]? = some c ∧ c.vm.isStatics = false) : Sta Z h' C n d v := by
  obtain ⟨cf, i, k, f, st, cell, h1, h2, h3, h4, h5, h6, h7⟩ := F
  refine ⟨cf, i, k, f, st, cell, h1, h2, h3, h4, K.2.1 _ _ h5 fun z => ?_, h6, h7⟩
  obtain ⟨c, g1, g2⟩ := q _ z
  cases h5.symm.trans g1; rw [h6] at g2; cases g2
theorem own_eqI {a b : Term} {args : Array Value} {first s : State} {o : Option Outcome} {idx : List Nat} {k : Int32} (h : (Jvm.Cond.eq a b).value args first o s idx = some true) (hb : b.eval args first o idx s = some (.int k)) : a.eval args first o idx s = some (.int k) := by
  obtain ⟨x, y, ha, hb', K, K'⟩ := cmp_v (Or.inl h)
  cases hb.symm.trans hb'
  obtain ⟨z, rfl⟩ := K'
  simp [Cond.value, ha, hb] at h
  rw [ha, h]
theorem own_eqR {a b : Term} {args : Array Value} {first s : State} {o : Option Outcome} {idx : List Nat} {k : Addr} (h : (Jvm.Cond.eq a b).value args first o s idx = some true) (hb : b.eval args first o idx s = some (.ref k)) : a.eval args first o idx s = some (.ref k) := by
  obtain ⟨x, y, ha, hb', K, K'⟩ := cmp_v (Or.inl h)
  cases hb.symm.trans hb'
  have q := gotT (eq_R ha hb K'.2 rfl) h
  rw [ha, q]
def F2 (q1 : Int64) (q2 : Int64) : Int64 := (if (0 : Int32) < (lcmpW q1 q2) then q2 else q1)
theorem d2_0 : decode jdk_29_method_70_code 0 = .ok (.lload_n 0, 1) := by decide +kernel
theorem d2_1 : decode jdk_29_method_70_code 1 = .ok (.lload_n 2, 1) := by decide +kernel
theorem d2_2 : decode jdk_29_method_70_code 2 = .ok (.lcmp, 1) := by decide +kernel
theorem d2_3 : decode jdk_29_method_70_code 3 = .ok (.ifCond .gt 7, 3) := by decide +kernel
theorem d2_6 : decode jdk_29_method_70_code 6 = .ok (.lload_n 0, 1) := by decide +kernel
theorem d2_7 : decode jdk_29_method_70_code 7 = .ok (.goto 4, 3) := by decide +kernel
theorem d2_11 : decode jdk_29_method_70_code 11 = .ok (.lreturn, 1) := by decide +kernel
theorem ef_2 (m : MethodId) (x0 : Int64) (x1 : Int64) : entryFrame m #[(.long x0), (.long x1)] 4 = mkF m 0 #[.val (.long x0), .second, .val (.long x1), .second] [] := by first | (simp [entryFrame, mkF, argsToLocals, Value.category]; done) | rfl
theorem d2_10 : decode jdk_29_method_70_code 10 = .ok (.lload_n 2, 1) := by decide +kernel
def Q_rm2 (Z : State) (q1 : Int64) (q2 : Int64) (h0 : Heap) (n0 : Nat) (v : Option Value) (h : Heap) (L : List Loc) : Prop := v = some (.long (F2 q1 q2)) ∧ Fr n0 L ∧ h = h0
set_option maxRecDepth 65536 in
set_option maxHeartbeats 40000000 in
theorem rm2_f (l : Launch) (Z : State) (a0 : Array Value) (hw : ∀ d ∈ tables_1, d.before a0 Z = true) (ws : List Jvm.Cond) (q1 : Int64) (q2 : Int64) (h0 : Heap) (n0 : Nat) (Z0 : n0 ≤ h0.size) (hc3 : ¬ ((0 : Int32) < (lcmpW q1 q2))) :
    MetFree l (⟨"java/lang/Math", "min", "(JJ)J"⟩ : MethodName) (head1 (Jvm.Cond.code (⟨"java/lang/Math", "min", "(JJ)J"⟩ : MethodName) jdk_29_method_70_code 4 (some .long) :: ws) ({ frames := 0, cells := 0, slots := 0, locals := 0 } : Room)) (fun a U => a = #[(.long q1), (.long q2)] ∧ Z.Warmed39 U.vm ∧ U.heap = h0) (fun _ _ _ _ _ => True) (fun _ U o U' => ∃ v L, o = .returned v ∧ Q_rm2 Z q1 q2 h0 n0 v U'.heap L ∧ FrameEnd U o U' L ({ frames := 0, cells := 0, slots := 0, locals := 0 } : Room).cells ({ frames := 0, cells := 0, slots := 0, locals := 0 } : Room).slots) := by
  refine MetFree.of_bodySF (Jvm.Free.JP.mathPlain rfl (by decide +kernel)) hisR ?_
  intro p e s m args below meth c s₁ Bd hml0 hP hK
  obtain ⟨rfl, hZ, hh⟩ := hP
  have hx := Bd.exec
  have hby := Bd.bytes
  have hml : c.maxLocals = 4 := hml0
  have hown : s.vm.findClass "java/lang/Math" = some m.cls := findClass_of_methodNamed Bd.named
  have hnm := (name_of_methodNamed Bd.named Bd.method).1
  have X0 : Stand p l e ({ frames := 0, cells := 0, slots := 0, locals := 0 } : Room) s m #[(.long q1), (.long q2)] below meth c s₁ [] 0 0 := Stand.of_body Bd
  have e0 : s₁.heap = h0 := by rw [← hh, Bd.state]; rfl
  have N0 := Fr.nil n0
  have pre0 : ∀ t, Steps p.tables e below (s₁.setTop (mkF m 0 #[.val (.long q1), .second, .val (.long q2), .second] [])) t → Steps p.tables e below (s₁.setTop (entryFrame m #[(.long q1), (.long q2)] 4)) t := fun t k => castTop (ef_2 m q1 q2) k
  obtain ⟨fs, hr, hrun, hended, hW, hsame⟩ := X0.leave (v := some (.long q1)) (fun h => by rw [Bd.returns] at h; cases h)
  refine ⟨_, _, pre0 _ ?_, hrun, hended, _, _, rfl, ?_, ⟨_, rfl⟩, hW, hsame.mono (by decide) (by decide)⟩
  · show Steps p.tables e below (s₁.setTop (mkF m 0 #[.val (.long q1), .second, .val (.long q2), .second] [])) _
    refine XS.lloadN X0.here hx rfl (hb hby d2_0) rfl ?_
    show Steps p.tables e below (s₁.setTop (mkF m 1 #[.val (.long q1), .second, .val (.long q2), .second] [(.long q1)])) _
    refine XS.lloadN X0.here hx rfl (hb hby d2_1) rfl ?_
    show Steps p.tables e below (s₁.setTop (mkF m 2 #[.val (.long q1), .second, .val (.long q2), .second] [(.long q2), (.long q1)])) _
    refine XS.lcmp X0.here hx rfl (hb hby d2_2) rfl ?_
    show Steps p.tables e below (s₁.setTop (mkF m 3 #[.val (.long q1), .second, .val (.long q2), .second] [(.int (lcmpW q1 q2))])) _
    refine XS.ifNo X0.here hx rfl (hb hby d2_3) rfl ((if0 _ _).trans (flt hc3).2.2.1) ?_
    show Steps p.tables e below (s₁.setTop (mkF m 6 #[.val (.long q1), .second, .val (.long q2), .second] [])) _
    refine XS.lloadN X0.here hx rfl (hb hby d2_6) rfl ?_
    show Steps p.tables e below (s₁.setTop (mkF m 7 #[.val (.long q1), .second, .val (.long q2), .second] [(.long q1)])) _
    refine XS.goto X0.here hx rfl (pc0 := 7) (pc' := 11) rfl (hb hby d2_7) (by decide) (by decide) ?_
    show Steps p.tables e below (s₁.setTop (mkF m 11 #[.val (.long q1), .second, .val (.long q2), .second] [(.long q1)])) _
    jvm_step X0.here [X0.here.top, hx, (hb hby d2_11), X0.method', Bd.returns, narrow]
    first | (intro acts; rw [hr _ acts rfl rfl rfl]) | rw [hr _ _ rfl rfl rfl]
    exact Steps.refl _
  · show Q_rm2 Z q1 q2 h0 n0 _ s₁.heap _
    exact ⟨by rw [F2, if_neg hc3], N0, e0⟩
set_option maxRecDepth 65536 in
set_option maxHeartbeats 40000000 in
theorem rm2_t (l : Launch) (Z : State) (a0 : Array Value) (hw : ∀ d ∈ tables_1, d.before a0 Z = true) (ws : List Jvm.Cond) (q1 : Int64) (q2 : Int64) (h0 : Heap) (n0 : Nat) (Z0 : n0 ≤ h0.size) (hc3 : (0 : Int32) < (lcmpW q1 q2)) :
    MetFree l (⟨"java/lang/Math", "min", "(JJ)J"⟩ : MethodName) (head1 (Jvm.Cond.code (⟨"java/lang/Math", "min", "(JJ)J"⟩ : MethodName) jdk_29_method_70_code 4 (some .long) :: ws) ({ frames := 0, cells := 0, slots := 0, locals := 0 } : Room)) (fun a U => a = #[(.long q1), (.long q2)] ∧ Z.Warmed39 U.vm ∧ U.heap = h0) (fun _ _ _ _ _ => True) (fun _ U o U' => ∃ v L, o = .returned v ∧ Q_rm2 Z q1 q2 h0 n0 v U'.heap L ∧ FrameEnd U o U' L ({ frames := 0, cells := 0, slots := 0, locals := 0 } : Room).cells ({ frames := 0, cells := 0, slots := 0, locals := 0 } : Room).slots) := by
  refine MetFree.of_bodySF (Jvm.Free.JP.mathPlain rfl (by decide +kernel)) hisR ?_
  intro p e s m args below meth c s₁ Bd hml0 hP hK
  obtain ⟨rfl, hZ, hh⟩ := hP
  have hx := Bd.exec
  have hby := Bd.bytes
  have hml : c.maxLocals = 4 := hml0
  have hown : s.vm.findClass "java/lang/Math" = some m.cls := findClass_of_methodNamed Bd.named
  have hnm := (name_of_methodNamed Bd.named Bd.method).1
  have X0 : Stand p l e ({ frames := 0, cells := 0, slots := 0, locals := 0 } : Room) s m #[(.long q1), (.long q2)] below meth c s₁ [] 0 0 := Stand.of_body Bd
  have e0 : s₁.heap = h0 := by rw [← hh, Bd.state]; rfl
  have N0 := Fr.nil n0
  have pre0 : ∀ t, Steps p.tables e below (s₁.setTop (mkF m 0 #[.val (.long q1), .second, .val (.long q2), .second] [])) t → Steps p.tables e below (s₁.setTop (entryFrame m #[(.long q1), (.long q2)] 4)) t := fun t k => castTop (ef_2 m q1 q2) k
  obtain ⟨fs, hr, hrun, hended, hW, hsame⟩ := X0.leave (v := some (.long q2)) (fun h => by rw [Bd.returns] at h; cases h)
  refine ⟨_, _, pre0 _ ?_, hrun, hended, _, _, rfl, ?_, ⟨_, rfl⟩, hW, hsame.mono (by decide) (by decide)⟩
  · show Steps p.tables e below (s₁.setTop (mkF m 0 #[.val (.long q1), .second, .val (.long q2), .second] [])) _
    refine XS.lloadN X0.here hx rfl (hb hby d2_0) rfl ?_
    show Steps p.tables e below (s₁.setTop (mkF m 1 #[.val (.long q1), .second, .val (.long q2), .second] [(.long q1)])) _
    refine XS.lloadN X0.here hx rfl (hb hby d2_1) rfl ?_
    show Steps p.tables e below (s₁.setTop (mkF m 2 #[.val (.long q1), .second, .val (.long q2), .second] [(.long q2), (.long q1)])) _
    refine XS.lcmp X0.here hx rfl (hb hby d2_2) rfl ?_
    show Steps p.tables e below (s₁.setTop (mkF m 3 #[.val (.long q1), .second, .val (.long q2), .second] [(.int (lcmpW q1 q2))])) _
    refine XS.ifYes X0.here hx rfl (pc0 := 3) (pc' := 10) rfl (hb hby d2_3) rfl ((if0 _ _).trans (tlt hc3).2.2.1) (by decide) (by decide) ?_
    show Steps p.tables e below (s₁.setTop (mkF m 10 #[.val (.long q1), .second, .val (.long q2), .second] [])) _
    refine XS.lloadN X0.here hx rfl (hb hby d2_10) rfl ?_
    show Steps p.tables e below (s₁.setTop (mkF m 11 #[.val (.long q1), .second, .val (.long q2), .second] [(.long q2)])) _
    jvm_step X0.here [X0.here.top, hx, (hb hby d2_11), X0.method', Bd.returns, narrow]
    first | (intro acts; rw [hr _ acts rfl rfl rfl]) | rw [hr _ _ rfl rfl rfl]
    exact Steps.refl _
  · show Q_rm2 Z q1 q2 h0 n0 _ s₁.heap _
    exact ⟨by rw [F2, if_pos hc3], N0, e0⟩
set_option maxHeartbeats 4000000 in
theorem rm2 (l : Launch) (Z : State) (a0 : Array Value) (hw : ∀ d ∈ tables_1, d.before a0 Z = true) (ws : List Jvm.Cond) (q1 : Int64) (q2 : Int64) (h0 : Heap) (n0 : Nat) (Z0 : n0 ≤ h0.size) :
    MetFree l (⟨"java/lang/Math", "min", "(JJ)J"⟩ : MethodName) (head1 (Jvm.Cond.code (⟨"java/lang/Math", "min", "(JJ)J"⟩ : MethodName) jdk_29_method_70_code 4 (some .long) :: ws) ({ frames := 0, cells := 0, slots := 0, locals := 0 } : Room)) (fun a U => a = #[(.long q1), (.long q2)] ∧ Z.Warmed39 U.vm ∧ U.heap = h0) (fun _ _ _ _ _ => True) (fun _ U o U' => ∃ v L, o = .returned v ∧ Q_rm2 Z q1 q2 h0 n0 v U'.heap L ∧ FrameEnd U o U' L ({ frames := 0, cells := 0, slots := 0, locals := 0 } : Room).cells ({ frames := 0, cells := 0, slots := 0, locals := 0 } : Room).slots) := by
  by_cases hc3 : (0 : Int32) < (lcmpW q1 q2)
  · skip
    exact rm2_t l Z a0 hw ws q1 q2 h0 n0 Z0 hc3
  · skip
    exact rm2_f l Z a0 hw ws q1 q2 h0 n0 Z0 hc3
def F3 (q1 : Int64) (q2 : Int64) : Int64 := (if (lcmpW q1 q2) < (0 : Int32) then q2 else q1)
theorem d3_0 : decode jdk_29_method_66_code 0 = .ok (.lload_n 0, 1) := by decide +kernel
theorem d3_1 : decode jdk_29_method_66_code 1 = .ok (.lload_n 2, 1) := by decide +kernel
theorem d3_2 : decode jdk_29_method_66_code 2 = .ok (.lcmp, 1) := by decide +kernel
theorem d3_3 : decode jdk_29_method_66_code 3 = .ok (.ifCond .lt 7, 3) := by decide +kernel
theorem d3_6 : decode jdk_29_method_66_code 6 = .ok (.lload_n 0, 1) := by decide +kernel
theorem d3_7 : decode jdk_29_method_66_code 7 = .ok (.goto 4, 3) := by decide +kernel
theorem d3_11 : decode jdk_29_method_66_code 11 = .ok (.lreturn, 1) := by decide +kernel
theorem ef_3 (m : MethodId) (x0 : Int64) (x1 : Int64) : entryFrame m #[(.long x0), (.long x1)] 4 = mkF m 0 #[.val (.long x0), .second, .val (.long x1), .second] [] := by first | (simp [entryFrame, mkF, argsToLocals, Value.category]; done) | rfl
theorem d3_10 : decode jdk_29_method_66_code 10 = .ok (.lload_n 2, 1) := by decide +kernel
def Q_rm3 (Z : State) (q1 : Int64) (q2 : Int64) (h0 : Heap) (n0 : Nat) (v : Option Value) (h : Heap) (L : List Loc) : Prop := v = some (.long (F3 q1 q2)) ∧ Fr n0 L ∧ h = h0
set_option maxRecDepth 65536 in
set_option maxHeartbeats 40000000 in
theorem rm3_f (l : Launch) (Z : State) (a0 : Array Value) (hw : ∀ d ∈ tables_1, d.before a0 Z = true) (ws : List Jvm.Cond) (q1 : Int64) (q2 : Int64) (h0 : Heap) (n0 : Nat) (Z0 : n0 ≤ h0.size) (hc3 : ¬ ((lcmpW q1 q2) < (0 : Int32))) :
    MetFree l (⟨"java/lang/Math", "max", "(JJ)J"⟩ : MethodName) (head1 (Jvm.Cond.code (⟨"java/lang/Math", "max", "(JJ)J"⟩ : MethodName) jdk_29_method_66_code 4 (some .long) :: ws) ({ frames := 0, cells := 0, slots := 0, locals := 0 } : Room)) (fun a U => a = #[(.long q1), (.long q2)] ∧ Z.Warmed39 U.vm ∧ U.heap = h0) (fun _ _ _ _ _ => True) (fun _ U o U' => ∃ v L, o = .returned v ∧ Q_rm3 Z q1 q2 h0 n0 v U'.heap L ∧ FrameEnd U o U' L ({ frames := 0, cells := 0, slots := 0, locals := 0 } : Room).cells ({ frames := 0, cells := 0, slots := 0, locals := 0 } : Room).slots) := by
  refine MetFree.of_bodySF (Jvm.Free.JP.mathPlain rfl (by decide +kernel)) hisR ?_
  intro p e s m args below meth c s₁ Bd hml0 hP hK
  obtain ⟨rfl, hZ, hh⟩ := hP
  have hx := Bd.exec
  have hby := Bd.bytes
  have hml : c.maxLocals = 4 := hml0
  have hown : s.vm.findClass "java/lang/Math" = some m.cls := findClass_of_methodNamed Bd.named
  have hnm := (name_of_methodNamed Bd.named Bd.method).1
  have X0 : Stand p l e ({ frames := 0, cells := 0, slots := 0, locals := 0 } : Room) s m #[(.long q1), (.long q2)] below meth c s₁ [] 0 0 := Stand.of_body Bd
  have e0 : s₁.heap = h0 := by rw [← hh, Bd.state]; rfl
  have N0 := Fr.nil n0
  have pre0 : ∀ t, Steps p.tables e below (s₁.setTop (mkF m 0 #[.val (.long q1), .second, .val (.long q2), .second] [])) t → Steps p.tables e below (s₁.setTop (entryFrame m #[(.long q1), (.long q2)] 4)) t := fun t k => castTop (ef_3 m q1 q2) k
  obtain ⟨fs, hr, hrun, hended, hW, hsame⟩ := X0.leave (v := some (.long q1)) (fun h => by rw [Bd.returns] at h; cases h)
  refine ⟨_, _, pre0 _ ?_, hrun, hended, _, _, rfl, ?_, ⟨_, rfl⟩, hW, hsame.mono (by decide) (by decide)⟩
  · show Steps p.tables e below (s₁.setTop (mkF m 0 #[.val (.long q1), .second, .val (.long q2), .second] [])) _
    refine XS.lloadN X0.here hx rfl (hb hby d3_0) rfl ?_
    show Steps p.tables e below (s₁.setTop (mkF m 1 #[.val (.long q1), .second, .val (.long q2), .second] [(.long q1)])) _
    refine XS.lloadN X0.here hx rfl (hb hby d3_1) rfl ?_
    show Steps p.tables e below (s₁.setTop (mkF m 2 #[.val (.long q1), .second, .val (.long q2), .second] [(.long q2), (.long q1)])) _
    refine XS.lcmp X0.here hx rfl (hb hby d3_2) rfl ?_
    show Steps p.tables e below (s₁.setTop (mkF m 3 #[.val (.long q1), .second, .val (.long q2), .second] [(.int (lcmpW q1 q2))])) _
    refine XS.ifNo X0.here hx rfl (hb hby d3_3) rfl ((if0 _ _).trans (flt hc3).1) ?_
    show Steps p.tables e below (s₁.setTop (mkF m 6 #[.val (.long q1), .second, .val (.long q2), .second] [])) _
    refine XS.lloadN X0.here hx rfl (hb hby d3_6) rfl ?_
    show Steps p.tables e below (s₁.setTop (mkF m 7 #[.val (.long q1), .second, .val (.long q2), .second] [(.long q1)])) _
    refine XS.goto X0.here hx rfl (pc0 := 7) (pc' := 11) rfl (hb hby d3_7) (by decide) (by decide) ?_
    show Steps p.tables e below (s₁.setTop (mkF m 11 #[.val (.long q1), .second, .val (.long q2), .second] [(.long q1)])) _
    jvm_step X0.here [X0.here.top, hx, (hb hby d3_11), X0.method', Bd.returns, narrow]
    first | (intro acts; rw [hr _ acts rfl rfl rfl]) | rw [hr _ _ rfl rfl rfl]
    exact Steps.refl _
  · show Q_rm3 Z q1 q2 h0 n0 _ s₁.heap _
    exact ⟨by rw [F3, if_neg hc3], N0, e0⟩
set_option maxRecDepth 65536 in
set_option maxHeartbeats 40000000 in
theorem rm3_t (l : Launch) (Z : State) (a0 : Array Value) (hw : ∀ d ∈ tables_1, d.before a0 Z = true) (ws : List Jvm.Cond) (q1 : Int64) (q2 : Int64) (h0 : Heap) (n0 : Nat) (Z0 : n0 ≤ h0.size) (hc3 : (lcmpW q1 q2) < (0 : Int32)) :
    MetFree l (⟨"java/lang/Math", "max", "(JJ)J"⟩ : MethodName) (head1 (Jvm.Cond.code (⟨"java/lang/Math", "max", "(JJ)J"⟩ : MethodName) jdk_29_method_66_code 4 (some .long) :: ws) ({ frames := 0, cells := 0, slots := 0, locals := 0 } : Room)) (fun a U => a = #[(.long q1), (.long q2)] ∧ Z.Warmed39 U.vm ∧ U.heap = h0) (fun _ _ _ _ _ => True) (fun _ U o U' => ∃ v L, o = .returned v ∧ Q_rm3 Z q1 q2 h0 n0 v U'.heap L ∧ FrameEnd U o U' L ({ frames := 0, cells := 0, slots := 0, locals := 0 } : Room).cells ({ frames := 0, cells := 0, slots := 0, locals := 0 } : Room).slots) := by
  refine MetFree.of_bodySF (Jvm.Free.JP.mathPlain rfl (by decide +kernel)) hisR ?_
  intro p e s m args below meth c s₁ Bd hml0 hP hK
  obtain ⟨rfl, hZ, hh⟩ := hP
  have hx := Bd.exec
  have hby := Bd.bytes
  have hml : c.maxLocals = 4 := hml0
  have hown : s.vm.findClass "java/lang/Math" = some m.cls := findClass_of_methodNamed Bd.named
  have hnm := (name_of_methodNamed Bd.named Bd.method).1
  have X0 : Stand p l e ({ frames := 0, cells := 0, slots := 0, locals := 0 } : Room) s m #[(.long q1), (.long q2)] below meth c s₁ [] 0 0 := Stand.of_body Bd
  have e0 : s₁.heap = h0 := by rw [← hh, Bd.state]; rfl
  have N0 := Fr.nil n0
  have pre0 : ∀ t, Steps p.tables e below (s₁.setTop (mkF m 0 #[.val (.long q1), .second, .val (.long q2), .second] [])) t → Steps p.tables e below (s₁.setTop (entryFrame m #[(.long q1), (.long q2)] 4)) t := fun t k => castTop (ef_3 m q1 q2) k
  obtain ⟨fs, hr, hrun, hended, hW, hsame⟩ := X0.leave (v := some (.long q2)) (fun h => by rw [Bd.returns] at h; cases h)
  refine ⟨_, _, pre0 _ ?_, hrun, hended, _, _, rfl, ?_, ⟨_, rfl⟩, hW, hsame.mono (by decide) (by decide)⟩
  · show Steps p.tables e below (s₁.setTop (mkF m 0 #[.val (.long q1), .second, .val (.long q2), .second] [])) _
    refine XS.lloadN X0.here hx rfl (hb hby d3_0) rfl ?_
    show Steps p.tables e below (s₁.setTop (mkF m 1 #[.val (.long q1), .second, .val (.long q2), .second] [(.long q1)])) _
    refine XS.lloadN X0.here hx rfl (hb hby d3_1) rfl ?_
    show Steps p.tables e below (s₁.setTop (mkF m 2 #[.val (.long q1), .second, .val (.long q2), .second] [(.long q2), (.long q1)])) _
    refine XS.lcmp X0.here hx rfl (hb hby d3_2) rfl ?_
    show Steps p.tables e below (s₁.setTop (mkF m 3 #[.val (.long q1), .second, .val (.long q2), .second] [(.int (lcmpW q1 q2))])) _
    refine XS.ifYes X0.here hx rfl (pc0 := 3) (pc' := 10) rfl (hb hby d3_3) rfl ((if0 _ _).trans (tlt hc3).1) (by decide) (by decide) ?_
    show Steps p.tables e below (s₁.setTop (mkF m 10 #[.val (.long q1), .second, .val (.long q2), .second] [])) _
    refine XS.lloadN X0.here hx rfl (hb hby d3_10) rfl ?_
    show Steps p.tables e below (s₁.setTop (mkF m 11 #[.val (.long q1), .second, .val (.long q2), .second] [(.long q2)])) _
    jvm_step X0.here [X0.here.top, hx, (hb hby d3_11), X0.method', Bd.returns, narrow]
    first | (intro acts; rw [hr _ acts rfl rfl rfl]) | rw [hr _ _ rfl rfl rfl]
    exact Steps.refl _
  · show Q_rm3 Z q1 q2 h0 n0 _ s₁.heap _
    exact ⟨by rw [F3, if_pos hc3], N0, e0⟩
set_option maxHeartbeats 4000000 in
theorem rm3 (l : Launch) (Z : State) (a0 : Array Value) (hw : ∀ d ∈ tables_1, d.before a0 Z = true) (ws : List Jvm.Cond) (q1 : Int64) (q2 : Int64) (h0 : Heap) (n0 : Nat) (Z0 : n0 ≤ h0.size) :
    MetFree l (⟨"java/lang/Math", "max", "(JJ)J"⟩ : MethodName) (head1 (Jvm.Cond.code (⟨"java/lang/Math", "max", "(JJ)J"⟩ : MethodName) jdk_29_method_66_code 4 (some .long) :: ws) ({ frames := 0, cells := 0, slots := 0, locals := 0 } : Room)) (fun a U => a = #[(.long q1), (.long q2)] ∧ Z.Warmed39 U.vm ∧ U.heap = h0) (fun _ _ _ _ _ => True) (fun _ U o U' => ∃ v L, o = .returned v ∧ Q_rm3 Z q1 q2 h0 n0 v U'.heap L ∧ FrameEnd U o U' L ({ frames := 0, cells := 0, slots := 0, locals := 0 } : Room).cells ({ frames := 0, cells := 0, slots := 0, locals := 0 } : Room).slots) := by
  by_cases hc3 : (lcmpW q1 q2) < (0 : Int32)
  · skip
    exact rm3_t l Z a0 hw ws q1 q2 h0 n0 Z0 hc3
  · skip
    exact rm3_f l Z a0 hw ws q1 q2 h0 n0 Z0 hc3
theorem pd__28JJ_29J : parseMethodDescriptor "(JJ)J" = some ⟨[.long, .long], some .long⟩ := by decide +kernel
def t1_0 (q1 : Int64) : Int64 := (F3 (524288 : Int64) (F2 (q1 / (256 : Int64)) (16777216 : Int64)))
def F1 (q1 : Int64) (q2 : Int64) : Int64 := (if (0 : Int32) < (lcmpW q2 (0 : Int64)) then (if (lcmpW (q1 / q2) (8 : Int64)) < (0 : Int32) then (0 : Int64) else (F3 (t1_0 q1) (q2 / (2 : Int64)))) else (F3 (t1_0 q1) (q2 / (2 : Int64))))
theorem d1_0 : decode prog_5_method_5_code 0 = .ok (.lload_n 2, 1) := by decide +kernel
theorem d1_1 : decode prog_5_method_5_code 1 = .ok (.lconst 0, 1) := by decide +kernel
theorem d1_2 : decode prog_5_method_5_code 2 = .ok (.lcmp, 1) := by decide +kernel
theorem d1_3 : decode prog_5_method_5_code 3 = .ok (.ifCond .le 15, 3) := by decide +kernel
theorem d1_6 : decode prog_5_method_5_code 6 = .ok (.lload_n 0, 1) := by decide +kernel
theorem d1_7 : decode prog_5_method_5_code 7 = .ok (.lload_n 2, 1) := by decide +kernel
theorem d1_8 : decode prog_5_method_5_code 8 = .ok (.ldiv, 1) := by decide +kernel
theorem d1_9 : decode prog_5_method_5_code 9 = .ok (.ldc2_w 80, 3) := by decide +kernel
theorem d1_12 : decode prog_5_method_5_code 12 = .ok (.lcmp, 1) := by decide +kernel
theorem d1_13 : decode prog_5_method_5_code 13 = .ok (.ifCond .ge 5, 3) := by decide +kernel
theorem d1_16 : decode prog_5_method_5_code 16 = .ok (.lconst 0, 1) := by decide +kernel
theorem d1_17 : decode prog_5_method_5_code 17 = .ok (.lreturn, 1) := by decide +kernel
theorem pn_1 : plainName "dev/driftline/HeapReserve" = true := by first | (simp [plainName, overriddenIn]; done) | decide +kernel
theorem ef_1 (m : MethodId) (x0 : Int64) (x1 : Int64) : entryFrame m #[(.long x0), (.long x1)] 4 = mkF m 0 #[.val (.long x0), .second, .val (.long x1), .second] [] := by first | (simp [entryFrame, mkF, argsToLocals, Value.category]; done) | rfl
theorem d1_18 : decode prog_5_method_5_code 18 = .ok (.ldc2_w 212, 3) := by decide +kernel
theorem d1_21 : decode prog_5_method_5_code 21 = .ok (.lload_n 0, 1) := by decide +kernel
theorem d1_22 : decode prog_5_method_5_code 22 = .ok (.ldc2_w 214, 3) := by decide +kernel
theorem d1_25 : decode prog_5_method_5_code 25 = .ok (.ldiv, 1) := by decide +kernel
theorem d1_26 : decode prog_5_method_5_code 26 = .ok (.ldc2_w 216, 3) := by decide +kernel
theorem d1_29 : decode prog_5_method_5_code 29 = .ok (.invokestatic 73, 3) := by decide +kernel
theorem d1_32 : decode prog_5_method_5_code 32 = .ok (.invokestatic 218, 3) := by decide +kernel
theorem d1_35 : decode prog_5_method_5_code 35 = .ok (.lload_n 2, 1) := by decide +kernel
theorem d1_36 : decode prog_5_method_5_code 36 = .ok (.ldc2_w 221, 3) := by decide +kernel
theorem d1_39 : decode prog_5_method_5_code 39 = .ok (.ldiv, 1) := by decide +kernel
theorem d1_40 : decode prog_5_method_5_code 40 = .ok (.invokestatic 218, 3) := by decide +kernel
theorem d1_43 : decode prog_5_method_5_code 43 = .ok (.lreturn, 1) := by decide +kernel
def Q_rm1 (Z : State) (q1 : Int64) (q2 : Int64) (h0 : Heap) (n0 : Nat) (v : Option Value) (h : Heap) (L : List Loc) : Prop := v = some (.long (F1 q1 q2)) ∧ Fr n0 L ∧ h = h0
set_option maxRecDepth 65536 in
set_option maxHeartbeats 40000000 in
theorem rm1_ff (l : Launch) (Z : State) (a0 : Array Value) (hw : ∀ d ∈ tables_1, d.before a0 Z = true) (ws : List Jvm.Cond) (q1 : Int64) (q2 : Int64) (h0 : Heap) (n0 : Nat) (Z0 : n0 ≤ h0.size) (hc3 : (0 : Int32) < (lcmpW q2 (0 : Int64))) (hc13 : (lcmpW (q1 / q2) (8 : Int64)) < (0 : Int32)) :
    MetFree l (⟨"dev/driftline/HeapReserve", "bytes", "(JJ)J"⟩ : MethodName) (head1 (Jvm.Cond.code (⟨"dev/driftline/HeapReserve", "bytes", "(JJ)J"⟩ : MethodName) prog_5_method_5_code 4 (some .long) :: ws) ({ frames := 1, cells := 0, slots := 0, locals := 17 } : Room)) (fun a U => a = #[(.long q1), (.long q2)] ∧ Z.Warmed39 U.vm ∧ U.heap = h0) (fun _ _ _ _ _ => True) (fun _ U o U' => ∃ v L, o = .returned v ∧ Q_rm1 Z q1 q2 h0 n0 v U'.heap L ∧ FrameEnd U o U' L ({ frames := 1, cells := 0, slots := 0, locals := 17 } : Room).cells ({ frames := 1, cells := 0, slots := 0, locals := 17 } : Room).slots) := by
  refine MetFree.of_bodySF (plainFor_of_name pn_1) hisR ?_
  intro p e s m args below meth c s₁ Bd hml0 hP hK
  obtain ⟨rfl, hZ, hh⟩ := hP
  have hx := Bd.exec
  have hby := Bd.bytes
  have hml : c.maxLocals = 4 := hml0
  have hown : s.vm.findClass "dev/driftline/HeapReserve" = some m.cls := findClass_of_methodNamed Bd.named
  have hnm := (name_of_methodNamed Bd.named Bd.method).1
  have X0 : Stand p l e ({ frames := 1, cells := 0, slots := 0, locals := 17 } : Room) s m #[(.long q1), (.long q2)] below meth c s₁ [] 0 0 := Stand.of_body Bd
  have e0 : s₁.heap = h0 := by rw [← hh, Bd.state]; rfl
  have N0 := Fr.nil n0
  have pre0 : ∀ t, Steps p.tables e below (s₁.setTop (mkF m 0 #[.val (.long q1), .second, .val (.long q2), .second] [])) t → Steps p.tables e below (s₁.setTop (entryFrame m #[(.long q1), (.long q2)] 4)) t := fun t k => castTop (ef_1 m q1 q2) k
  obtain ⟨fs, hr, hrun, hended, hW, hsame⟩ := X0.leave (v := some (.long (0 : Int64))) (fun h => by rw [Bd.returns] at h; cases h)
  refine ⟨_, _, pre0 _ ?_, hrun, hended, _, _, rfl, ?_, ⟨_, rfl⟩, hW, hsame.mono (by decide) (by decide)⟩
  · show Steps p.tables e below (s₁.setTop (mkF m 0 #[.val (.long q1), .second, .val (.long q2), .second] [])) _
    refine XS.lloadN X0.here hx rfl (hb hby d1_0) rfl ?_
    show Steps p.tables e below (s₁.setTop (mkF m 1 #[.val (.long q1), .second, .val (.long q2), .second] [(.long q2)])) _
    refine XS.lconst X0.here hx rfl (hb hby d1_1) ?_
    show Steps p.tables e below (s₁.setTop (mkF m 2 #[.val (.long q1), .second, .val (.long q2), .second] [(.long (0 : Int64)), (.long q2)])) _
    refine XS.lcmp X0.here hx rfl (hb hby d1_2) rfl ?_
    show Steps p.tables e below (s₁.setTop (mkF m 3 #[.val (.long q1), .second, .val (.long q2), .second] [(.int (lcmpW q2 (0 : Int64)))])) _
    refine XS.ifNo X0.here hx rfl (hb hby d1_3) rfl ((if0 _ _).trans (tlt hc3).2.2.2) ?_
    show Steps p.tables e below (s₁.setTop (mkF m 6 #[.val (.long q1), .second, .val (.long q2), .second] [])) _
    refine XS.lloadN X0.here hx rfl (hb hby d1_6) rfl ?_
    show Steps p.tables e below (s₁.setTop (mkF m 7 #[.val (.long q1), .second, .val (.long q2), .second] [(.long q1)])) _
    refine XS.lloadN X0.here hx rfl (hb hby d1_7) rfl ?_
    show Steps p.tables e below (s₁.setTop (mkF m 8 #[.val (.long q1), .second, .val (.long q2), .second] [(.long q2), (.long q1)])) _
    refine XS.ldiv X0.here hx rfl (hb hby d1_8) rfl (show ¬ (q2 = (0 : Int64)) from by intro h0x; rw [h0x] at hc3; exact absurd hc3 (by decide)) ?_
    show Steps p.tables e below (s₁.setTop (mkF m 9 #[.val (.long q1), .second, .val (.long q2), .second] [(.long (q1 / q2))])) _
    refine X0.ldc2Long hx hown (mvT hZ (hw _ (List.mem_of_getElem? (i := 24) rfl))) (g := (mkF m 9 #[.val (.long q1), .second, .val (.long q2), .second] [(.long (q1 / q2))])) rfl (hb hby d1_9) _ ?_
    show Steps p.tables e below (s₁.setTop (mkF m 12 #[.val (.long q1), .second, .val (.long q2), .second] [(.long (8 : Int64)), (.long (q1 / q2))])) _
    refine XS.lcmp X0.here hx rfl (hb hby d1_12) rfl ?_
    show Steps p.tables e below (s₁.setTop (mkF m 13 #[.val (.long q1), .second, .val (.long q2), .second] [(.int (lcmpW (q1 / q2) (8 : Int64)))])) _
    refine XS.ifNo X0.here hx rfl (hb hby d1_13) rfl ((if0 _ _).trans (tlt hc13).2.1) ?_
    show Steps p.tables e below (s₁.setTop (mkF m 16 #[.val (.long q1), .second, .val (.long q2), .second] [])) _
    refine XS.lconst X0.here hx rfl (hb hby d1_16) ?_
    show Steps p.tables e below (s₁.setTop (mkF m 17 #[.val (.long q1), .second, .val (.long q2), .second] [(.long (0 : Int64))])) _
    jvm_step X0.here [X0.here.top, hx, (hb hby d1_17), X0.method', Bd.returns, narrow]
    first | (intro acts; rw [hr _ acts rfl rfl rfl]) | rw [hr _ _ rfl rfl rfl]
    exact Steps.refl _
  · show Q_rm1 Z q1 q2 h0 n0 _ s₁.heap _
    exact ⟨by rw [F1, if_pos hc3, if_pos hc13], N0, e0⟩
set_option maxRecDepth 65536 in
set_option maxHeartbeats 40000000 in
theorem rm1_ft (l : Launch) (Z : State) (a0 : Array Value) (hw : ∀ d ∈ tables_1, d.before a0 Z = true) (ws : List Jvm.Cond) (q1 : Int64) (q2 : Int64) (h0 : Heap) (n0 : Nat) (Z0 : n0 ≤ h0.size) (hc3 : (0 : Int32) < (lcmpW q2 (0 : Int64))) (hc13 : ¬ ((lcmpW (q1 / q2) (8 : Int64)) < (0 : Int32))) :
    MetFree l (⟨"dev/driftline/HeapReserve", "bytes", "(JJ)J"⟩ : MethodName) (head1 (Jvm.Cond.code (⟨"dev/driftline/HeapReserve", "bytes", "(JJ)J"⟩ : MethodName) prog_5_method_5_code 4 (some .long) :: ws) ({ frames := 1, cells := 0, slots := 0, locals := 17 } : Room)) (fun a U => a = #[(.long q1), (.long q2)] ∧ Z.Warmed39 U.vm ∧ U.heap = h0) (fun _ _ _ _ _ => True) (fun _ U o U' => ∃ v L, o = .returned v ∧ Q_rm1 Z q1 q2 h0 n0 v U'.heap L ∧ FrameEnd U o U' L ({ frames := 1, cells := 0, slots := 0, locals := 17 } : Room).cells ({ frames := 1, cells := 0, slots := 0, locals := 17 } : Room).slots) := by
  refine MetFree.of_bodySF (plainFor_of_name pn_1) hisR ?_
  intro p e s m args below meth c s₁ Bd hml0 hP hK
  obtain ⟨rfl, hZ, hh⟩ := hP
  have hx := Bd.exec
  have hby := Bd.bytes
  have hml : c.maxLocals = 4 := hml0
  have hown : s.vm.findClass "dev/driftline/HeapReserve" = some m.cls := findClass_of_methodNamed Bd.named
  have hnm := (name_of_methodNamed Bd.named Bd.method).1
  have X0 : Stand p l e ({ frames := 1, cells := 0, slots := 0, locals := 17 } : Room) s m #[(.long q1), (.long q2)] below meth c s₁ [] 0 0 := Stand.of_body Bd
  have e0 : s₁.heap = h0 := by rw [← hh, Bd.state]; rfl
  have N0 := Fr.nil n0
  have pre0 : ∀ t, Steps p.tables e below (s₁.setTop (mkF m 0 #[.val (.long q1), .second, .val (.long q2), .second] [])) t → Steps p.tables e below (s₁.setTop (entryFrame m #[(.long q1), (.long q2)] 4)) t := fun t k => castTop (ef_1 m q1 q2) k
  obtain ⟨_, _, ⟨T3, L3, k3, n3⟩, -, X3, ⟨Lc3, hQ3, l3, y3, z3⟩, st3⟩ := Jvm.LawKit.callS X0 hx (y := (⟨"java/lang/Math", "min", "(JJ)J"⟩ : MethodName)) hown (mvT hZ (hw _ (List.mem_of_getElem? (i := 7) rfl))) (mvT hZ (hw _ (List.mem_of_getElem? (i := 8) rfl))) (mvT hZ (hw _ (List.mem_of_getElem? (i := 9) rfl))) (mvT hZ (hw _ (List.mem_of_getElem? (i := 10) rfl))) (by decide) (backOf (W := 2) (rm2 l Z a0 hw [] (q1 / (256 : Int64)) (16777216 : Int64) h0 n0 Z0 ) hZ (hw _ (List.mem_of_getElem? (i := 10) rfl)) (hw _ (List.mem_of_getElem? (i := 9) rfl)) (by decide) (by decide)) (g := (mkF m 29 #[.val (.long q1), .second, .val (.long q2), .second] [(.long (16777216 : Int64)), (.long (q1 / (256 : Int64))), (.long (524288 : Int64))])) rfl (by rw [hml]; rfl) (argsL := [(.long (q1 / (256 : Int64))), (.long (16777216 : Int64))]) (rest := [(.long (524288 : Int64))]) (lenOf pd__28JJ_29J rfl) rfl (by show 2 * 0 + _ ≤ _; exact Nat.le_of_eq rfl) (hb hby d1_29) (fun _ _ => ⟨rfl, e0, (by decide : 0 + 0 ≤ _), (by decide : 0 + 0 ≤ _)⟩)
  dsimp only [Pt.U, Pt.locs, Pt.cells, Pt.slots] at X3 l3 y3 z3 st3 hQ3
  subst l3 y3 z3
  obtain ⟨rfl, N3q, e3⟩ := hQ3
  have N3 := Fr.app N0 N3q
  obtain ⟨_, _, ⟨T4, L4, k4, n4⟩, -, X4, ⟨Lc4, hQ4, l4, y4, z4⟩, st4⟩ := Jvm.LawKit.callS X3 hx (y := (⟨"java/lang/Math", "max", "(JJ)J"⟩ : MethodName)) hown (mvT hZ (hw _ (List.mem_of_getElem? (i := 11) rfl))) (mvT hZ (hw _ (List.mem_of_getElem? (i := 12) rfl))) (mvT hZ (hw _ (List.mem_of_getElem? (i := 9) rfl))) (mvT hZ (hw _ (List.mem_of_getElem? (i := 13) rfl))) (by decide) (backOf (W := 0) (rm3 l Z a0 hw [] (524288 : Int64) (F2 (q1 / (256 : Int64)) (16777216 : Int64)) h0 n0 Z0 ) hZ (hw _ (List.mem_of_getElem? (i := 13) rfl)) (hw _ (List.mem_of_getElem? (i := 9) rfl)) (by decide) (by decide)) (g := (mkF m 32 #[.val (.long q1), .second, .val (.long q2), .second] [(.long (F2 (q1 / (256 : Int64)) (16777216 : Int64))), (.long (524288 : Int64))])) rfl (by rw [hml]; rfl) (argsL := [(.long (524288 : Int64)), (.long (F2 (q1 / (256 : Int64)) (16777216 : Int64)))]) (rest := []) (lenOf pd__28JJ_29J rfl) rfl (by show 2 * 0 + _ ≤ _; exact Nat.le_of_eq rfl) (hb hby d1_32) (fun _ _ => ⟨rfl, e3, (by decide : 0 + 0 ≤ _), (by decide : 0 + 0 ≤ _)⟩)
  dsimp only [Pt.U, Pt.locs, Pt.cells, Pt.slots] at X4 l4 y4 z4 st4 hQ4
  subst l4 y4 z4
  obtain ⟨rfl, N4q, e4⟩ := hQ4
  have N4 := Fr.app N3 N4q
  obtain ⟨_, _, ⟨T5, L5, k5, n5⟩, -, X5, ⟨Lc5, hQ5, l5, y5, z5⟩, st5⟩ := Jvm.LawKit.callS X4 hx (y := (⟨"java/lang/Math", "max", "(JJ)J"⟩ : MethodName)) hown (mvT hZ (hw _ (List.mem_of_getElem? (i := 11) rfl))) (mvT hZ (hw _ (List.mem_of_getElem? (i := 12) rfl))) (mvT hZ (hw _ (List.mem_of_getElem? (i := 9) rfl))) (mvT hZ (hw _ (List.mem_of_getElem? (i := 13) rfl))) (by decide) (backOf (W := 0) (rm3 l Z a0 hw [] (t1_0 q1) (q2 / (2 : Int64)) h0 n0 Z0 ) hZ (hw _ (List.mem_of_getElem? (i := 13) rfl)) (hw _ (List.mem_of_getElem? (i := 9) rfl)) (by decide) (by decide)) (g := (mkF m 40 #[.val (.long q1), .second, .val (.long q2), .second] [(.long (q2 / (2 : Int64))), (.long (t1_0 q1))])) rfl (by rw [hml]; rfl) (argsL := [(.long (t1_0 q1)), (.long (q2 / (2 : Int64)))]) (rest := []) (lenOf pd__28JJ_29J rfl) rfl (by show 2 * 0 + _ ≤ _; exact Nat.le_of_eq rfl) (hb hby d1_40) (fun _ _ => ⟨rfl, e4, (by decide : 0 + 0 ≤ _), (by decide : 0 + 0 ≤ _)⟩)
  dsimp only [Pt.U, Pt.locs, Pt.cells, Pt.slots] at X5 l5 y5 z5 st5 hQ5
  subst l5 y5 z5
  obtain ⟨rfl, N5q, e5⟩ := hQ5
  have N5 := Fr.app N4 N5q
  obtain ⟨fs, hr, hrun, hended, hW, hsame⟩ := X5.leave (v := some (.long (F3 (t1_0 q1) (q2 / (2 : Int64))))) (fun h => by rw [Bd.returns] at h; cases h)
  refine ⟨_, _, pre0 _ ?_, hrun, hended, _, _, rfl, ?_, ⟨_, rfl⟩, hW, hsame.mono (by decide) (by decide)⟩
  · show Steps p.tables e below (s₁.setTop (mkF m 0 #[.val (.long q1), .second, .val (.long q2), .second] [])) _
    refine XS.lloadN X0.here hx rfl (hb hby d1_0) rfl ?_
    show Steps p.tables e below (s₁.setTop (mkF m 1 #[.val (.long q1), .second, .val (.long q2), .second] [(.long q2)])) _
    refine XS.lconst X0.here hx rfl (hb hby d1_1) ?_
    show Steps p.tables e below (s₁.setTop (mkF m 2 #[.val (.long q1), .second, .val (.long q2), .second] [(.long (0 : Int64)), (.long q2)])) _
    refine XS.lcmp X0.here hx rfl (hb hby d1_2) rfl ?_
    show Steps p.tables e below (s₁.setTop (mkF m 3 #[.val (.long q1), .second, .val (.long q2), .second] [(.int (lcmpW q2 (0 : Int64)))])) _
    refine XS.ifNo X0.here hx rfl (hb hby d1_3) rfl ((if0 _ _).trans (tlt hc3).2.2.2) ?_
    show Steps p.tables e below (s₁.setTop (mkF m 6 #[.val (.long q1), .second, .val (.long q2), .second] [])) _
    refine XS.lloadN X0.here hx rfl (hb hby d1_6) rfl ?_
    show Steps p.tables e below (s₁.setTop (mkF m 7 #[.val (.long q1), .second, .val (.long q2), .second] [(.long q1)])) _
    refine XS.lloadN X0.here hx rfl (hb hby d1_7) rfl ?_
    show Steps p.tables e below (s₁.setTop (mkF m 8 #[.val (.long q1), .second, .val (.long q2), .second] [(.long q2), (.long q1)])) _
    refine XS.ldiv X0.here hx rfl (hb hby d1_8) rfl (show ¬ (q2 = (0 : Int64)) from by intro h0x; rw [h0x] at hc3; exact absurd hc3 (by decide)) ?_
    show Steps p.tables e below (s₁.setTop (mkF m 9 #[.val (.long q1), .second, .val (.long q2), .second] [(.long (q1 / q2))])) _
    refine X0.ldc2Long hx hown (mvT hZ (hw _ (List.mem_of_getElem? (i := 24) rfl))) (g := (mkF m 9 #[.val (.long q1), .second, .val (.long q2), .second] [(.long (q1 / q2))])) rfl (hb hby d1_9) _ ?_
    show Steps p.tables e below (s₁.setTop (mkF m 12 #[.val (.long q1), .second, .val (.long q2), .second] [(.long (8 : Int64)), (.long (q1 / q2))])) _
    refine XS.lcmp X0.here hx rfl (hb hby d1_12) rfl ?_
    show Steps p.tables e below (s₁.setTop (mkF m 13 #[.val (.long q1), .second, .val (.long q2), .second] [(.int (lcmpW (q1 / q2) (8 : Int64)))])) _
    refine XS.ifYes X0.here hx rfl (pc0 := 13) (pc' := 18) rfl (hb hby d1_13) rfl ((if0 _ _).trans (flt hc13).2.1) (by decide) (by decide) ?_
    show Steps p.tables e below (s₁.setTop (mkF m 18 #[.val (.long q1), .second, .val (.long q2), .second] [])) _
    refine X0.ldc2Long hx hown (mvT hZ (hw _ (List.mem_of_getElem? (i := 4) rfl))) (g := (mkF m 18 #[.val (.long q1), .second, .val (.long q2), .second] [])) rfl (hb hby d1_18) _ ?_
    show Steps p.tables e below (s₁.setTop (mkF m 21 #[.val (.long q1), .second, .val (.long q2), .second] [(.long (524288 : Int64))])) _
    refine XS.lloadN X0.here hx rfl (hb hby d1_21) rfl ?_
    show Steps p.tables e below (s₁.setTop (mkF m 22 #[.val (.long q1), .second, .val (.long q2), .second] [(.long q1), (.long (524288 : Int64))])) _
    refine X0.ldc2Long hx hown (mvT hZ (hw _ (List.mem_of_getElem? (i := 5) rfl))) (g := (mkF m 22 #[.val (.long q1), .second, .val (.long q2), .second] [(.long q1), (.long (524288 : Int64))])) rfl (hb hby d1_22) _ ?_
    show Steps p.tables e below (s₁.setTop (mkF m 25 #[.val (.long q1), .second, .val (.long q2), .second] [(.long (256 : Int64)), (.long q1), (.long (524288 : Int64))])) _
    refine XS.ldiv X0.here hx rfl (hb hby d1_25) rfl (by decide) ?_
    show Steps p.tables e below (s₁.setTop (mkF m 26 #[.val (.long q1), .second, .val (.long q2), .second] [(.long (q1 / (256 : Int64))), (.long (524288 : Int64))])) _
    refine X0.ldc2Long hx hown (mvT hZ (hw _ (List.mem_of_getElem? (i := 6) rfl))) (g := (mkF m 26 #[.val (.long q1), .second, .val (.long q2), .second] [(.long (q1 / (256 : Int64))), (.long (524288 : Int64))])) rfl (hb hby d1_26) _ ?_
    show Steps p.tables e below (s₁.setTop (mkF m 29 #[.val (.long q1), .second, .val (.long q2), .second] [(.long (16777216 : Int64)), (.long (q1 / (256 : Int64))), (.long (524288 : Int64))])) _
    refine st3 _ ?_
    show Steps p.tables e below (T3.setTop (mkF m 32 #[.val (.long q1), .second, .val (.long q2), .second] [(.long (F2 (q1 / (256 : Int64)) (16777216 : Int64))), (.long (524288 : Int64))])) _
    refine st4 _ ?_
    show Steps p.tables e below (T4.setTop (mkF m 35 #[.val (.long q1), .second, .val (.long q2), .second] [(.long (F3 (524288 : Int64) (F2 (q1 / (256 : Int64)) (16777216 : Int64))))])) _
    refine XS.lloadN X4.here hx rfl (hb hby d1_35) rfl ?_
    show Steps p.tables e below (T4.setTop (mkF m 36 #[.val (.long q1), .second, .val (.long q2), .second] [(.long q2), (.long (F3 (524288 : Int64) (F2 (q1 / (256 : Int64)) (16777216 : Int64))))])) _
    refine X4.ldc2Long hx hown (mvT hZ (hw _ (List.mem_of_getElem? (i := 14) rfl))) (g := (mkF m 36 #[.val (.long q1), .second, .val (.long q2), .second] [(.long q2), (.long (F3 (524288 : Int64) (F2 (q1 / (256 : Int64)) (16777216 : Int64))))])) rfl (hb hby d1_36) _ ?_
    show Steps p.tables e below (T4.setTop (mkF m 39 #[.val (.long q1), .second, .val (.long q2), .second] [(.long (2 : Int64)), (.long q2), (.long (F3 (524288 : Int64) (F2 (q1 / (256 : Int64)) (16777216 : Int64))))])) _
    refine XS.ldiv X4.here hx rfl (hb hby d1_39) rfl (by decide) ?_
    show Steps p.tables e below (T4.setTop (mkF m 40 #[.val (.long q1), .second, .val (.long q2), .second] [(.long (q2 / (2 : Int64))), (.long (t1_0 q1))])) _
    refine st5 _ ?_
    show Steps p.tables e below (T5.setTop (mkF m 43 #[.val (.long q1), .second, .val (.long q2), .second] [(.long (F3 (t1_0 q1) (q2 / (2 : Int64))))])) _
    jvm_step X5.here [X5.here.top, hx, (hb hby d1_43), X5.method', Bd.returns, narrow]
    first | (intro acts; rw [hr _ acts rfl rfl rfl]) | rw [hr _ _ rfl rfl rfl]
    exact Steps.refl _
  · show Q_rm1 Z q1 q2 h0 n0 _ T5.heap _
    exact ⟨by rw [F1, if_pos hc3, if_neg hc13], N5, e5⟩
set_option maxRecDepth 65536 in
set_option maxHeartbeats 40000000 in
theorem rm1_t (l : Launch) (Z : State) (a0 : Array Value) (hw : ∀ d ∈ tables_1, d.before a0 Z = true) (ws : List Jvm.Cond) (q1 : Int64) (q2 : Int64) (h0 : Heap) (n0 : Nat) (Z0 : n0 ≤ h0.size) (hc3 : ¬ ((0 : Int32) < (lcmpW q2 (0 : Int64)))) :
    MetFree l (⟨"dev/driftline/HeapReserve", "bytes", "(JJ)J"⟩ : MethodName) (head1 (Jvm.Cond.code (⟨"dev/driftline/HeapReserve", "bytes", "(JJ)J"⟩ : MethodName) prog_5_method_5_code 4 (some .long) :: ws) ({ frames := 1, cells := 0, slots := 0, locals := 17 } : Room)) (fun a U => a = #[(.long q1), (.long q2)] ∧ Z.Warmed39 U.vm ∧ U.heap = h0) (fun _ _ _ _ _ => True) (fun _ U o U' => ∃ v L, o = .returned v ∧ Q_rm1 Z q1 q2 h0 n0 v U'.heap L ∧ FrameEnd U o U' L ({ frames := 1, cells := 0, slots := 0, locals := 17 } : Room).cells ({ frames := 1, cells := 0, slots := 0, locals := 17 } : Room).slots) := by
  refine MetFree.of_bodySF (plainFor_of_name pn_1) hisR ?_
  intro p e s m args below meth c s₁ Bd hml0 hP hK
  obtain ⟨rfl, hZ, hh⟩ := hP
  have hx := Bd.exec
  have hby := Bd.bytes
  have hml : c.maxLocals = 4 := hml0
  have hown : s.vm.findClass "dev/driftline/HeapReserve" = some m.cls := findClass_of_methodNamed Bd.named
  have hnm := (name_of_methodNamed Bd.named Bd.method).1
  have X0 : Stand p l e ({ frames := 1, cells := 0, slots := 0, locals := 17 } : Room) s m #[(.long q1), (.long q2)] below meth c s₁ [] 0 0 := Stand.of_body Bd
  have e0 : s₁.heap = h0 := by rw [← hh, Bd.state]; rfl
  have N0 := Fr.nil n0
  have pre0 : ∀ t, Steps p.tables e below (s₁.setTop (mkF m 0 #[.val (.long q1), .second, .val (.long q2), .second] [])) t → Steps p.tables e below (s₁.setTop (entryFrame m #[(.long q1), (.long q2)] 4)) t := fun t k => castTop (ef_1 m q1 q2) k
  obtain ⟨_, _, ⟨T3, L3, k3, n3⟩, -, X3, ⟨Lc3, hQ3, l3, y3, z3⟩, st3⟩ := Jvm.LawKit.callS X0 hx (y := (⟨"java/lang/Math", "min", "(JJ)J"⟩ : MethodName)) hown (mvT hZ (hw _ (List.mem_of_getElem? (i := 7) rfl))) (mvT hZ (hw _ (List.mem_of_getElem? (i := 8) rfl))) (mvT hZ (hw _ (List.mem_of_getElem? (i := 9) rfl))) (mvT hZ (hw _ (List.mem_of_getElem? (i := 10) rfl))) (by decide) (backOf (W := 2) (rm2 l Z a0 hw [] (q1 / (256 : Int64)) (16777216 : Int64) h0 n0 Z0 ) hZ (hw _ (List.mem_of_getElem? (i := 10) rfl)) (hw _ (List.mem_of_getElem? (i := 9) rfl)) (by decide) (by decide)) (g := (mkF m 29 #[.val (.long q1), .second, .val (.long q2), .second] [(.long (16777216 : Int64)), (.long (q1 / (256 : Int64))), (.long (524288 : Int64))])) rfl (by rw [hml]; rfl) (argsL := [(.long (q1 / (256 : Int64))), (.long (16777216 : Int64))]) (rest := [(.long (524288 : Int64))]) (lenOf pd__28JJ_29J rfl) rfl (by show 2 * 0 + _ ≤ _; exact Nat.le_of_eq rfl) (hb hby d1_29) (fun _ _ => ⟨rfl, e0, (by decide : 0 + 0 ≤ _), (by decide : 0 + 0 ≤ _)⟩)
  dsimp only [Pt.U, Pt.locs, Pt.cells, Pt.slots] at X3 l3 y3 z3 st3 hQ3
  subst l3 y3 z3
  obtain ⟨rfl, N3q, e3⟩ := hQ3
  have N3 := Fr.app N0 N3q
  obtain ⟨_, _, ⟨T4, L4, k4, n4⟩, -, X4, ⟨Lc4, hQ4, l4, y4, z4⟩, st4⟩ := Jvm.LawKit.callS X3 hx (y := (⟨"java/lang/Math", "max", "(JJ)J"⟩ : MethodName)) hown (mvT hZ (hw _ (List.mem_of_getElem? (i := 11) rfl))) (mvT hZ (hw _ (List.mem_of_getElem? (i := 12) rfl))) (mvT hZ (hw _ (List.mem_of_getElem? (i := 9) rfl))) (mvT hZ (hw _ (List.mem_of_getElem? (i := 13) rfl))) (by decide) (backOf (W := 0) (rm3 l Z a0 hw [] (524288 : Int64) (F2 (q1 / (256 : Int64)) (16777216 : Int64)) h0 n0 Z0 ) hZ (hw _ (List.mem_of_getElem? (i := 13) rfl)) (hw _ (List.mem_of_getElem? (i := 9) rfl)) (by decide) (by decide)) (g := (mkF m 32 #[.val (.long q1), .second, .val (.long q2), .second] [(.long (F2 (q1 / (256 : Int64)) (16777216 : Int64))), (.long (524288 : Int64))])) rfl (by rw [hml]; rfl) (argsL := [(.long (524288 : Int64)), (.long (F2 (q1 / (256 : Int64)) (16777216 : Int64)))]) (rest := []) (lenOf pd__28JJ_29J rfl) rfl (by show 2 * 0 + _ ≤ _; exact Nat.le_of_eq rfl) (hb hby d1_32) (fun _ _ => ⟨rfl, e3, (by decide : 0 + 0 ≤ _), (by decide : 0 + 0 ≤ _)⟩)
  dsimp only [Pt.U, Pt.locs, Pt.cells, Pt.slots] at X4 l4 y4 z4 st4 hQ4
  subst l4 y4 z4
  obtain ⟨rfl, N4q, e4⟩ := hQ4
  have N4 := Fr.app N3 N4q
  obtain ⟨_, _, ⟨T5, L5, k5, n5⟩, -, X5, ⟨Lc5, hQ5, l5, y5, z5⟩, st5⟩ := Jvm.LawKit.callS X4 hx (y := (⟨"java/lang/Math", "max", "(JJ)J"⟩ : MethodName)) hown (mvT hZ (hw _ (List.mem_of_getElem? (i := 11) rfl))) (mvT hZ (hw _ (List.mem_of_getElem? (i := 12) rfl))) (mvT hZ (hw _ (List.mem_of_getElem? (i := 9) rfl))) (mvT hZ (hw _ (List.mem_of_getElem? (i := 13) rfl))) (by decide) (backOf (W := 0) (rm3 l Z a0 hw [] (t1_0 q1) (q2 / (2 : Int64)) h0 n0 Z0 ) hZ (hw _ (List.mem_of_getElem? (i := 13) rfl)) (hw _ (List.mem_of_getElem? (i := 9) rfl)) (by decide) (by decide)) (g := (mkF m 40 #[.val (.long q1), .second, .val (.long q2), .second] [(.long (q2 / (2 : Int64))), (.long (t1_0 q1))])) rfl (by rw [hml]; rfl) (argsL := [(.long (t1_0 q1)), (.long (q2 / (2 : Int64)))]) (rest := []) (lenOf pd__28JJ_29J rfl) rfl (by show 2 * 0 + _ ≤ _; exact Nat.le_of_eq rfl) (hb hby d1_40) (fun _ _ => ⟨rfl, e4, (by decide : 0 + 0 ≤ _), (by decide : 0 + 0 ≤ _)⟩)
  dsimp only [Pt.U, Pt.locs, Pt.cells, Pt.slots] at X5 l5 y5 z5 st5 hQ5
  subst l5 y5 z5
  obtain ⟨rfl, N5q, e5⟩ := hQ5
  have N5 := Fr.app N4 N5q
  obtain ⟨fs, hr, hrun, hended, hW, hsame⟩ := X5.leave (v := some (.long (F3 (t1_0 q1) (q2 / (2 : Int64))))) (fun h => by rw [Bd.returns] at h; cases h)
  refine ⟨_, _, pre0 _ ?_, hrun, hended, _, _, rfl, ?_, ⟨_, rfl⟩, hW, hsame.mono (by decide) (by decide)⟩
  · show Steps p.tables e below (s₁.setTop (mkF m 0 #[.val (.long q1), .second, .val (.long q2), .second] [])) _
    refine XS.lloadN X0.here hx rfl (hb hby d1_0) rfl ?_
    show Steps p.tables e below (s₁.setTop (mkF m 1 #[.val (.long q1), .second, .val (.long q2), .second] [(.long q2)])) _
    refine XS.lconst X0.here hx rfl (hb hby d1_1) ?_
    show Steps p.tables e below (s₁.setTop (mkF m 2 #[.val (.long q1), .second, .val (.long q2), .second] [(.long (0 : Int64)), (.long q2)])) _
    refine XS.lcmp X0.here hx rfl (hb hby d1_2) rfl ?_
    show Steps p.tables e below (s₁.setTop (mkF m 3 #[.val (.long q1), .second, .val (.long q2), .second] [(.int (lcmpW q2 (0 : Int64)))])) _
    refine XS.ifYes X0.here hx rfl (pc0 := 3) (pc' := 18) rfl (hb hby d1_3) rfl ((if0 _ _).trans (flt hc3).2.2.2) (by decide) (by decide) ?_
    show Steps p.tables e below (s₁.setTop (mkF m 18 #[.val (.long q1), .second, .val (.long q2), .second] [])) _
    refine X0.ldc2Long hx hown (mvT hZ (hw _ (List.mem_of_getElem? (i := 4) rfl))) (g := (mkF m 18 #[.val (.long q1), .second, .val (.long q2), .second] [])) rfl (hb hby d1_18) _ ?_
    show Steps p.tables e below (s₁.setTop (mkF m 21 #[.val (.long q1), .second, .val (.long q2), .second] [(.long (524288 : Int64))])) _
    refine XS.lloadN X0.here hx rfl (hb hby d1_21) rfl ?_
    show Steps p.tables e below (s₁.setTop (mkF m 22 #[.val (.long q1), .second, .val (.long q2), .second] [(.long q1), (.long (524288 : Int64))])) _
    refine X0.ldc2Long hx hown (mvT hZ (hw _ (List.mem_of_getElem? (i := 5) rfl))) (g := (mkF m 22 #[.val (.long q1), .second, .val (.long q2), .second] [(.long q1), (.long (524288 : Int64))])) rfl (hb hby d1_22) _ ?_
    show Steps p.tables e below (s₁.setTop (mkF m 25 #[.val (.long q1), .second, .val (.long q2), .second] [(.long (256 : Int64)), (.long q1), (.long (524288 : Int64))])) _
    refine XS.ldiv X0.here hx rfl (hb hby d1_25) rfl (by decide) ?_
    show Steps p.tables e below (s₁.setTop (mkF m 26 #[.val (.long q1), .second, .val (.long q2), .second] [(.long (q1 / (256 : Int64))), (.long (524288 : Int64))])) _
    refine X0.ldc2Long hx hown (mvT hZ (hw _ (List.mem_of_getElem? (i := 6) rfl))) (g := (mkF m 26 #[.val (.long q1), .second, .val (.long q2), .second] [(.long (q1 / (256 : Int64))), (.long (524288 : Int64))])) rfl (hb hby d1_26) _ ?_
    show Steps p.tables e below (s₁.setTop (mkF m 29 #[.val (.long q1), .second, .val (.long q2), .second] [(.long (16777216 : Int64)), (.long (q1 / (256 : Int64))), (.long (524288 : Int64))])) _
    refine st3 _ ?_
    show Steps p.tables e below (T3.setTop (mkF m 32 #[.val (.long q1), .second, .val (.long q2), .second] [(.long (F2 (q1 / (256 : Int64)) (16777216 : Int64))), (.long (524288 : Int64))])) _
    refine st4 _ ?_
    show Steps p.tables e below (T4.setTop (mkF m 35 #[.val (.long q1), .second, .val (.long q2), .second] [(.long (F3 (524288 : Int64) (F2 (q1 / (256 : Int64)) (16777216 : Int64))))])) _
    refine XS.lloadN X4.here hx rfl (hb hby d1_35) rfl ?_
    show Steps p.tables e below (T4.setTop (mkF m 36 #[.val (.long q1), .second, .val (.long q2), .second] [(.long q2), (.long (F3 (524288 : Int64) (F2 (q1 / (256 : Int64)) (16777216 : Int64))))])) _
    refine X4.ldc2Long hx hown (mvT hZ (hw _ (List.mem_of_getElem? (i := 14) rfl))) (g := (mkF m 36 #[.val (.long q1), .second, .val (.long q2), .second] [(.long q2), (.long (F3 (524288 : Int64) (F2 (q1 / (256 : Int64)) (16777216 : Int64))))])) rfl (hb hby d1_36) _ ?_
    show Steps p.tables e below (T4.setTop (mkF m 39 #[.val (.long q1), .second, .val (.long q2), .second] [(.long (2 : Int64)), (.long q2), (.long (F3 (524288 : Int64) (F2 (q1 / (256 : Int64)) (16777216 : Int64))))])) _
    refine XS.ldiv X4.here hx rfl (hb hby d1_39) rfl (by decide) ?_
    show Steps p.tables e below (T4.setTop (mkF m 40 #[.val (.long q1), .second, .val (.long q2), .second] [(.long (q2 / (2 : Int64))), (.long (t1_0 q1))])) _
    refine st5 _ ?_
    show Steps p.tables e below (T5.setTop (mkF m 43 #[.val (.long q1), .second, .val (.long q2), .second] [(.long (F3 (t1_0 q1) (q2 / (2 : Int64))))])) _
    jvm_step X5.here [X5.here.top, hx, (hb hby d1_43), X5.method', Bd.returns, narrow]
    first | (intro acts; rw [hr _ acts rfl rfl rfl]) | rw [hr _ _ rfl rfl rfl]
    exact Steps.refl _
  · show Q_rm1 Z q1 q2 h0 n0 _ T5.heap _
    exact ⟨by rw [F1, if_neg hc3], N5, e5⟩
set_option maxHeartbeats 4000000 in
theorem rm1 (l : Launch) (Z : State) (a0 : Array Value) (hw : ∀ d ∈ tables_1, d.before a0 Z = true) (ws : List Jvm.Cond) (q1 : Int64) (q2 : Int64) (h0 : Heap) (n0 : Nat) (Z0 : n0 ≤ h0.size) :
    MetFree l (⟨"dev/driftline/HeapReserve", "bytes", "(JJ)J"⟩ : MethodName) (head1 (Jvm.Cond.code (⟨"dev/driftline/HeapReserve", "bytes", "(JJ)J"⟩ : MethodName) prog_5_method_5_code 4 (some .long) :: ws) ({ frames := 1, cells := 0, slots := 0, locals := 17 } : Room)) (fun a U => a = #[(.long q1), (.long q2)] ∧ Z.Warmed39 U.vm ∧ U.heap = h0) (fun _ _ _ _ _ => True) (fun _ U o U' => ∃ v L, o = .returned v ∧ Q_rm1 Z q1 q2 h0 n0 v U'.heap L ∧ FrameEnd U o U' L ({ frames := 1, cells := 0, slots := 0, locals := 17 } : Room).cells ({ frames := 1, cells := 0, slots := 0, locals := 17 } : Room).slots) := by
  by_cases hc3 : (0 : Int32) < (lcmpW q2 (0 : Int64))
  · skip
    by_cases hc13 : (lcmpW (q1 / q2) (8 : Int64)) < (0 : Int32)
    · skip
      exact rm1_ff l Z a0 hw ws q1 q2 h0 n0 Z0 hc3 hc13
    · skip
      exact rm1_ft l Z a0 hw ws q1 q2 h0 n0 Z0 hc3 hc13
  · skip
    exact rm1_t l Z a0 hw ws q1 q2 h0 n0 Z0 hc3
def F4 (q1 : Int64) (q2 : Int64) : Int64 := (if (0 : Int32) < (lcmpW q2 (0 : Int64)) then (if (0 : Int32) < (lcmpW q2 (1152921504606846975 : Int64)) then (0 : Int64) else (if (lcmpW q1 (q2 * (8 : Int64))) < (0 : Int32) then (0 : Int64) else (if (lcmpW (q1 / (256 : Int64)) (524288 : Int64)) < (0 : Int32) then (if (0 : Int32) < (lcmpW (q2 / (2 : Int64)) (524288 : Int64)) then (q2 / (2 : Int64)) else (524288 : Int64)) else (if (0 : Int32) < (lcmpW (q1 / (256 : Int64)) (16777216 : Int64)) then (if (0 : Int32) < (lcmpW (q2 / (2 : Int64)) (16777216 : Int64)) then (q2 / (2 : Int64)) else (16777216 : Int64)) else (if (0 : Int32) < (lcmpW (q2 / (2 : Int64)) (q1 / (256 : Int64))) then (q2 / (2 : Int64)) else (q1 / (256 : Int64))))))) else (if (lcmpW (q1 / (256 : Int64)) (524288 : Int64)) < (0 : Int32) then (if (0 : Int32) < (lcmpW (q2 / (2 : Int64)) (524288 : Int64)) then (q2 / (2 : Int64)) else (524288 : Int64)) else (if (0 : Int32) < (lcmpW (q1 / (256 : Int64)) (16777216 : Int64)) then (if (0 : Int32) < (lcmpW (q2 / (2 : Int64)) (16777216 : Int64)) then (q2 / (2 : Int64)) else (16777216 : Int64)) else (if (0 : Int32) < (lcmpW (q2 / (2 : Int64)) (q1 / (256 : Int64))) then (q2 / (2 : Int64)) else (q1 / (256 : Int64))))))
theorem d4_0 : decode method_3_code 0 = .ok (.lload_n 2, 1) := by decide +kernel
theorem d4_1 : decode method_3_code 1 = .ok (.lconst 0, 1) := by decide +kernel
theorem d4_2 : decode method_3_code 2 = .ok (.lcmp, 1) := by decide +kernel
theorem d4_3 : decode method_3_code 3 = .ok (.ifCond .le 25, 3) := by decide +kernel
theorem d4_6 : decode method_3_code 6 = .ok (.lload_n 2, 1) := by decide +kernel
theorem d4_7 : decode method_3_code 7 = .ok (.ldc2_w 24, 3) := by decide +kernel
theorem d4_10 : decode method_3_code 10 = .ok (.lcmp, 1) := by decide +kernel
theorem d4_11 : decode method_3_code 11 = .ok (.ifCond .gt 13, 3) := by decide +kernel
theorem d4_14 : decode method_3_code 14 = .ok (.lload_n 0, 1) := by decide +kernel
theorem d4_15 : decode method_3_code 15 = .ok (.lload_n 2, 1) := by decide +kernel
theorem d4_16 : decode method_3_code 16 = .ok (.ldc2_w 7, 3) := by decide +kernel
theorem d4_19 : decode method_3_code 19 = .ok (.lmul, 1) := by decide +kernel
theorem d4_20 : decode method_3_code 20 = .ok (.lcmp, 1) := by decide +kernel
theorem d4_21 : decode method_3_code 21 = .ok (.ifCond .ge 7, 3) := by decide +kernel
theorem d4_24 : decode method_3_code 24 = .ok (.iconst 1, 1) := by decide +kernel
theorem d4_25 : decode method_3_code 25 = .ok (.goto 4, 3) := by decide +kernel
theorem d4_29 : decode method_3_code 29 = .ok (.istore 4, 2) := by decide +kernel
theorem d4_31 : decode method_3_code 31 = .ok (.iload 4, 2) := by decide +kernel
theorem d4_33 : decode method_3_code 33 = .ok (.ifCond .eq 5, 3) := by decide +kernel
theorem d4_36 : decode method_3_code 36 = .ok (.lconst 0, 1) := by decide +kernel
theorem d4_37 : decode method_3_code 37 = .ok (.lreturn, 1) := by decide +kernel
theorem pn_4 : plainName "dev/driftline/HeapReserveBytesPinLaw" = true := by first | (simp [plainName, overriddenIn]; done) | decide +kernel
theorem ef_4 (m : MethodId) (x0 : Int64) (x1 : Int64) : entryFrame m #[(.long x0), (.long x1)] 11 = mkF m 0 #[.val (.long x0), .second, .val (.long x1), .second, .unset, .unset, .unset, .unset, .unset, .unset, .unset] [] := by first | (simp [entryFrame, mkF, argsToLocals, Value.category]; done) | rfl
theorem d4_28 : decode method_3_code 28 = .ok (.iconst 0, 1) := by decide +kernel
theorem d4_38 : decode method_3_code 38 = .ok (.lload_n 0, 1) := by decide +kernel
theorem d4_39 : decode method_3_code 39 = .ok (.ldc2_w 26, 3) := by decide +kernel
theorem d4_42 : decode method_3_code 42 = .ok (.ldiv, 1) := by decide +kernel
theorem d4_43 : decode method_3_code 43 = .ok (.lstore 5, 2) := by decide +kernel
theorem d4_45 : decode method_3_code 45 = .ok (.lload 5, 2) := by decide +kernel
theorem d4_47 : decode method_3_code 47 = .ok (.ldc2_w 28, 3) := by decide +kernel
theorem d4_50 : decode method_3_code 50 = .ok (.lcmp, 1) := by decide +kernel
theorem d4_51 : decode method_3_code 51 = .ok (.ifCond .ge 11, 3) := by decide +kernel
theorem d4_54 : decode method_3_code 54 = .ok (.ldc2_w 28, 3) := by decide +kernel
theorem d4_57 : decode method_3_code 57 = .ok (.lstore 7, 2) := by decide +kernel
theorem d4_59 : decode method_3_code 59 = .ok (.goto 24, 3) := by decide +kernel
theorem d4_83 : decode method_3_code 83 = .ok (.lload_n 2, 1) := by decide +kernel
theorem d4_84 : decode method_3_code 84 = .ok (.ldc2_w 32, 3) := by decide +kernel
theorem d4_87 : decode method_3_code 87 = .ok (.ldiv, 1) := by decide +kernel
theorem d4_88 : decode method_3_code 88 = .ok (.lstore 9, 2) := by decide +kernel
theorem d4_90 : decode method_3_code 90 = .ok (.lload 9, 2) := by decide +kernel
theorem d4_92 : decode method_3_code 92 = .ok (.lload 7, 2) := by decide +kernel
theorem d4_94 : decode method_3_code 94 = .ok (.lcmp, 1) := by decide +kernel
theorem d4_95 : decode method_3_code 95 = .ok (.ifCond .le 6, 3) := by decide +kernel
theorem d4_98 : decode method_3_code 98 = .ok (.lload 9, 2) := by decide +kernel
theorem d4_100 : decode method_3_code 100 = .ok (.lreturn, 1) := by decide +kernel
theorem d4_101 : decode method_3_code 101 = .ok (.lload 7, 2) := by decide +kernel
theorem d4_103 : decode method_3_code 103 = .ok (.lreturn, 1) := by decide +kernel
theorem d4_62 : decode method_3_code 62 = .ok (.lload 5, 2) := by decide +kernel
theorem d4_64 : decode method_3_code 64 = .ok (.ldc2_w 30, 3) := by decide +kernel
theorem d4_67 : decode method_3_code 67 = .ok (.lcmp, 1) := by decide +kernel
theorem d4_68 : decode method_3_code 68 = .ok (.ifCond .le 11, 3) := by decide +kernel
theorem d4_71 : decode method_3_code 71 = .ok (.ldc2_w 30, 3) := by decide +kernel
theorem d4_74 : decode method_3_code 74 = .ok (.lstore 7, 2) := by decide +kernel
theorem d4_76 : decode method_3_code 76 = .ok (.goto 7, 3) := by decide +kernel
theorem d4_79 : decode method_3_code 79 = .ok (.lload 5, 2) := by decide +kernel
theorem d4_81 : decode method_3_code 81 = .ok (.lstore 7, 2) := by decide +kernel
def Q_rm4 (Z : State) (q1 : Int64) (q2 : Int64) (h0 : Heap) (n0 : Nat) (v : Option Value) (h : Heap) (L : List Loc) : Prop := v = some (.long (F4 q1 q2)) ∧ Fr n0 L ∧ h = h0
set_option maxRecDepth 65536 in
set_option maxHeartbeats 40000000 in
theorem rm4_fff (l : Launch) (Z : State) (a0 : Array Value) (hw : ∀ d ∈ tables_1, d.before a0 Z = true) (ws : List Jvm.Cond) (q1 : Int64) (q2 : Int64) (h0 : Heap) (n0 : Nat) (Z0 : n0 ≤ h0.size) (hc3 : (0 : Int32) < (lcmpW q2 (0 : Int64))) (hc11 : ¬ ((0 : Int32) < (lcmpW q2 (1152921504606846975 : Int64)))) (hc21 : (lcmpW q1 (q2 * (8 : Int64))) < (0 : Int32)) :
    MetFree l (⟨"dev/driftline/HeapReserveBytesPinLaw", "expected", "(JJ)J"⟩ : MethodName) (head1 (Jvm.Cond.code (⟨"dev/driftline/HeapReserveBytesPinLaw", "expected", "(JJ)J"⟩ : MethodName) method_3_code 11 (some .long) :: ws) ({ frames := 0, cells := 0, slots := 0, locals := 0 } : Room)) (fun a U => a = #[(.long q1), (.long q2)] ∧ Z.Warmed39 U.vm ∧ U.heap = h0) (fun _ _ _ _ _ => True) (fun _ U o U' => ∃ v L, o = .returned v ∧ Q_rm4 Z q1 q2 h0 n0 v U'.heap L ∧ FrameEnd U o U' L ({ frames := 0, cells := 0, slots := 0, locals := 0 } : Room).cells ({ frames := 0, cells := 0, slots := 0, locals := 0 } : Room).slots) := by
  refine MetFree.of_bodySF (plainFor_of_name pn_4) hisR ?_
  intro p e s m args below meth c s₁ Bd hml0 hP hK
  obtain ⟨rfl, hZ, hh⟩ := hP
  have hx := Bd.exec
  have hby := Bd.bytes
  have hml : c.maxLocals = 11 := hml0
  have hown : s.vm.findClass "dev/driftline/HeapReserveBytesPinLaw" = some m.cls := findClass_of_methodNamed Bd.named
  have hnm := (name_of_methodNamed Bd.named Bd.method).1
  have X0 : Stand p l e ({ frames := 0, cells := 0, slots := 0, locals := 0 } : Room) s m #[(.long q1), (.long q2)] below meth c s₁ [] 0 0 := Stand.of_body Bd
  have e0 : s₁.heap = h0 := by rw [← hh, Bd.state]; rfl
  have N0 := Fr.nil n0
  have pre0 : ∀ t, Steps p.tables e below (s₁.setTop (mkF m 0 #[.val (.long q1), .second, .val (.long q2), .second, .unset, .unset, .unset, .unset, .unset, .unset, .unset] [])) t → Steps p.tables e below (s₁.setTop (entryFrame m #[(.long q1), (.long q2)] 11)) t := fun t k => castTop (ef_4 m q1 q2) k
  obtain ⟨fs, hr, hrun, hended, hW, hsame⟩ := X0.leave (v := some (.long (0 : Int64))) (fun h => by rw [Bd.returns] at h; cases h)
  refine ⟨_, _, pre0 _ ?_, hrun, hended, _, _, rfl, ?_, ⟨_, rfl⟩, hW, hsame.mono (by decide) (by decide)⟩
  · show Steps p.tables e below (s₁.setTop (mkF m 0 #[.val (.long q1), .second, .val (.long q2), .second, .unset, .unset, .unset, .unset, .unset, .unset, .unset] [])) _
    refine XS.lloadN X0.here hx rfl (hb hby d4_0) rfl ?_
    show Steps p.tables e below (s₁.setTop (mkF m 1 #[.val (.long q1), .second, .val (.long q2), .second, .unset, .unset, .unset, .unset, .unset, .unset, .unset] [(.long q2)])) _
    refine XS.lconst X0.here hx rfl (hb hby d4_1) ?_
    show Steps p.tables e below (s₁.setTop (mkF m 2 #[.val (.long q1), .second, .val (.long q2), .second, .unset, .unset, .unset, .unset, .unset, .unset, .unset] [(.long (0 : Int64)), (.long q2)])) _
    refine XS.lcmp X0.here hx rfl (hb hby d4_2) rfl ?_
    show Steps p.tables e below (s₁.setTop (mkF m 3 #[.val (.long q1), .second, .val (.long q2), .second, .unset, .unset, .unset, .unset, .unset, .unset, .unset] [(.int (lcmpW q2 (0 : Int64)))])) _
    refine XS.ifNo X0.here hx rfl (hb hby d4_3) rfl ((if0 _ _).trans (tlt hc3).2.2.2) ?_
    show Steps p.tables e below (s₁.setTop (mkF m 6 #[.val (.long q1), .second, .val (.long q2), .second, .unset, .unset, .unset, .unset, .unset, .unset, .unset] [])) _
    refine XS.lloadN X0.here hx rfl (hb hby d4_6) rfl ?_
    show Steps p.tables e below (s₁.setTop (mkF m 7 #[.val (.long q1), .second, .val (.long q2), .second, .unset, .unset, .unset, .unset, .unset, .unset, .unset] [(.long q2)])) _
    refine X0.ldc2Long hx hown (mvT hZ (hw _ (List.mem_of_getElem? (i := 25) rfl))) (g := (mkF m 7 #[.val (.long q1), .second, .val (.long q2), .second, .unset, .unset, .unset, .unset, .unset, .unset, .unset] [(.long q2)])) rfl (hb hby d4_7) _ ?_
    show Steps p.tables e below (s₁.setTop (mkF m 10 #[.val (.long q1), .second, .val (.long q2), .second, .unset, .unset, .unset, .unset, .unset, .unset, .unset] [(.long (1152921504606846975 : Int64)), (.long q2)])) _
    refine XS.lcmp X0.here hx rfl (hb hby d4_10) rfl ?_
    show Steps p.tables e below (s₁.setTop (mkF m 11 #[.val (.long q1), .second, .val (.long q2), .second, .unset, .unset, .unset, .unset, .unset, .unset, .unset] [(.int (lcmpW q2 (1152921504606846975 : Int64)))])) _
    refine XS.ifNo X0.here hx rfl (hb hby d4_11) rfl ((if0 _ _).trans (flt hc11).2.2.1) ?_
    show Steps p.tables e below (s₁.setTop (mkF m 14 #[.val (.long q1), .second, .val (.long q2), .second, .unset, .unset, .unset, .unset, .unset, .unset, .unset] [])) _
    refine XS.lloadN X0.here hx rfl (hb hby d4_14) rfl ?_
    show Steps p.tables e below (s₁.setTop (mkF m 15 #[.val (.long q1), .second, .val (.long q2), .second, .unset, .unset, .unset, .unset, .unset, .unset, .unset] [(.long q1)])) _
    refine XS.lloadN X0.here hx rfl (hb hby d4_15) rfl ?_
    show Steps p.tables e below (s₁.setTop (mkF m 16 #[.val (.long q1), .second, .val (.long q2), .second, .unset, .unset, .unset, .unset, .unset, .unset, .unset] [(.long q2), (.long q1)])) _
    refine X0.ldc2Long hx hown (mvT hZ (hw _ (List.mem_of_getElem? (i := 22) rfl))) (g := (mkF m 16 #[.val (.long q1), .second, .val (.long q2), .second, .unset, .unset, .unset, .unset, .unset, .unset, .unset] [(.long q2), (.long q1)])) rfl (hb hby d4_16) _ ?_
    show Steps p.tables e below (s₁.setTop (mkF m 19 #[.val (.long q1), .second, .val (.long q2), .second, .unset, .unset, .unset, .unset, .unset, .unset, .unset] [(.long (8 : Int64)), (.long q2), (.long q1)])) _
    refine XS.lmul X0.here hx rfl (hb hby d4_19) rfl ?_
    show Steps p.tables e below (s₁.setTop (mkF m 20 #[.val (.long q1), .second, .val (.long q2), .second, .unset, .unset, .unset, .unset, .unset, .unset, .unset] [(.long (q2 * (8 : Int64))), (.long q1)])) _
    refine XS.lcmp X0.here hx rfl (hb hby d4_20) rfl ?_
    show Steps p.tables e below (s₁.setTop (mkF m 21 #[.val (.long q1), .second, .val (.long q2), .second, .unset, .unset, .unset, .unset, .unset, .unset, .unset] [(.int (lcmpW q1 (q2 * (8 : Int64))))])) _
    refine XS.ifNo X0.here hx rfl (hb hby d4_21) rfl ((if0 _ _).trans (tlt hc21).2.1) ?_
    show Steps p.tables e below (s₁.setTop (mkF m 24 #[.val (.long q1), .second, .val (.long q2), .second, .unset, .unset, .unset, .unset, .unset, .unset, .unset] [])) _
    refine XS.iconst X0.here hx rfl (hb hby d4_24) ?_
    show Steps p.tables e below (s₁.setTop (mkF m 25 #[.val (.long q1), .second, .val (.long q2), .second, .unset, .unset, .unset, .unset, .unset, .unset, .unset] [(.int (1 : Int32))])) _
    refine XS.goto X0.here hx rfl (pc0 := 25) (pc' := 29) rfl (hb hby d4_25) (by decide) (by decide) ?_
    show Steps p.tables e below (s₁.setTop (mkF m 29 #[.val (.long q1), .second, .val (.long q2), .second, .unset, .unset, .unset, .unset, .unset, .unset, .unset] [(.int (1 : Int32))])) _
    refine XS.istore X0.here hx rfl (hb hby d4_29) rfl (l' := #[.val (.long q1), .second, .val (.long q2), .second, .val (.int (1 : Int32)), .unset, .unset, .unset, .unset, .unset, .unset]) rfl ?_
    show Steps p.tables e below (s₁.setTop (mkF m 31 #[.val (.long q1), .second, .val (.long q2), .second, .val (.int (1 : Int32)), .unset, .unset, .unset, .unset, .unset, .unset] [])) _
    refine XS.iload X0.here hx rfl (hb hby d4_31) rfl ?_
    show Steps p.tables e below (s₁.setTop (mkF m 33 #[.val (.long q1), .second, .val (.long q2), .second, .val (.int (1 : Int32)), .unset, .unset, .unset, .unset, .unset, .unset] [(.int (1 : Int32))])) _
    refine XS.ifNo X0.here hx rfl (hb hby d4_33) rfl ((if0 _ _).trans (feq (by decide : ¬ ((1 : Int32) = (0 : Int32)))).1) ?_
    show Steps p.tables e below (s₁.setTop (mkF m 36 #[.val (.long q1), .second, .val (.long q2), .second, .val (.int (1 : Int32)), .unset, .unset, .unset, .unset, .unset, .unset] [])) _
    refine XS.lconst X0.here hx rfl (hb hby d4_36) ?_
    show Steps p.tables e below (s₁.setTop (mkF m 37 #[.val (.long q1), .second, .val (.long q2), .second, .val (.int (1 : Int32)), .unset, .unset, .unset, .unset, .unset, .unset] [(.long (0 : Int64))])) _
    jvm_step X0.here [X0.here.top, hx, (hb hby d4_37), X0.method', Bd.returns, narrow]
    first | (intro acts; rw [hr _ acts rfl rfl rfl]) | rw [hr _ _ rfl rfl rfl]
    exact Steps.refl _
  · show Q_rm4 Z q1 q2 h0 n0 _ s₁.heap _
    exact ⟨by rw [F4, if_pos hc3, if_neg hc11, if_pos hc21], N0, e0⟩
set_option maxRecDepth 65536 in
set_option maxHeartbeats 40000000 in
theorem rm4_fftff (l : Launch) (Z : State) (a0 : Array Value) (hw : ∀ d ∈ tables_1, d.before a0 Z = true) (ws : List Jvm.Cond) (q1 : Int64) (q2 : Int64) (h0 : Heap) (n0 : Nat) (Z0 : n0 ≤ h0.size) (hc3 : (0 : Int32) < (lcmpW q2 (0 : Int64))) (hc11 : ¬ ((0 : Int32) < (lcmpW q2 (1152921504606846975 : Int64)))) (hc21 : ¬ ((lcmpW q1 (q2 * (8 : Int64))) < (0 : Int32))) (hc51 : (lcmpW (q1 / (256 : Int64)) (524288 : Int64)) < (0 : Int32)) (hc95 : (0 : Int32) < (lcmpW (q2 / (2 : Int64)) (524288 : Int64))) :
    MetFree l (⟨"dev/driftline/HeapReserveBytesPinLaw", "expected", "(JJ)J"⟩ : MethodName) (head1 (Jvm.Cond.code (⟨"dev/driftline/HeapReserveBytesPinLaw", "expected", "(JJ)J"⟩ : MethodName) method_3_code 11 (some .long) :: ws) ({ frames := 0, cells := 0, slots := 0, locals := 0 } : Room)) (fun a U => a = #[(.long q1), (.long q2)] ∧ Z.Warmed39 U.vm ∧ U.heap = h0) (fun _ _ _ _ _ => True) (fun _ U o U' => ∃ v L, o = .returned v ∧ Q_rm4 Z q1 q2 h0 n0 v U'.heap L ∧ FrameEnd U o U' L ({ frames := 0, cells := 0, slots := 0, locals := 0 } : Room).cells ({ frames := 0, cells := 0, slots := 0, locals := 0 } : Room).slots) := by
  refine MetFree.of_bodySF (plainFor_of_name pn_4) hisR ?_
  intro p e s m args below meth c s₁ Bd hml0 hP hK
  obtain ⟨rfl, hZ, hh⟩ := hP
  have hx := Bd.exec
  have hby := Bd.bytes
  have hml : c.maxLocals = 11 := hml0
  have hown : s.vm.findClass "dev/driftline/HeapReserveBytesPinLaw" = some m.cls := findClass_of_methodNamed Bd.named
  have hnm := (name_of_methodNamed Bd.named Bd.method).1
  have X0 : Stand p l e ({ frames := 0, cells := 0, slots := 0, locals := 0 } : Room) s m #[(.long q1), (.long q2)] below meth c s₁ [] 0 0 := Stand.of_body Bd
  have e0 : s₁.heap = h0 := by rw [← hh, Bd.state]; rfl
  have N0 := Fr.nil n0
  have pre0 : ∀ t, Steps p.tables e below (s₁.setTop (mkF m 0 #[.val (.long q1), .second, .val (.long q2), .second, .unset, .unset, .unset, .unset, .unset, .unset, .unset] [])) t → Steps p.tables e below (s₁.setTop (entryFrame m #[(.long q1), (.long q2)] 11)) t := fun t k => castTop (ef_4 m q1 q2) k
  obtain ⟨fs, hr, hrun, hended, hW, hsame⟩ := X0.leave (v := some (.long (q2 / (2 : Int64)))) (fun h => by rw [Bd.returns] at h; cases h)
  refine ⟨_, _, pre0 _ ?_, hrun, hended, _, _, rfl, ?_, ⟨_, rfl⟩, hW, hsame.mono (by decide) (by decide)⟩
  · show Steps p.tables e below (s₁.setTop (mkF m 0 #[.val (.long q1), .second, .val (.long q2), .second, .unset, .unset, .unset, .unset, .unset, .unset, .unset] [])) _
    refine XS.lloadN X0.here hx rfl (hb hby d4_0) rfl ?_
    show Steps p.tables e below (s₁.setTop (mkF m 1 #[.val (.long q1), .second, .val (.long q2), .second, .unset, .unset, .unset, .unset, .unset, .unset, .unset] [(.long q2)])) _
    refine XS.lconst X0.here hx rfl (hb hby d4_1) ?_
    show Steps p.tables e below (s₁.setTop (mkF m 2 #[.val (.long q1), .second, .val (.long q2), .second, .unset, .unset, .unset, .unset, .unset, .unset, .unset] [(.long (0 : Int64)), (.long q2)])) _
    refine XS.lcmp X0.here hx rfl (hb hby d4_2) rfl ?_
    show Steps p.tables e below (s₁.setTop (mkF m 3 #[.val (.long q1), .second, .val (.long q2), .second, .unset, .unset, .unset, .unset, .unset, .unset, .unset] [(.int (lcmpW q2 (0 : Int64)))])) _
    refine XS.ifNo X0.here hx rfl (hb hby d4_3) rfl ((if0 _ _).trans (tlt hc3).2.2.2) ?_
    show Steps p.tables e below (s₁.setTop (mkF m 6 #[.val (.long q1), .second, .val (.long q2), .second, .unset, .unset, .unset, .unset, .unset, .unset, .unset] [])) _
    refine XS.lloadN X0.here hx rfl (hb hby d4_6) rfl ?_
    show Steps p.tables e below (s₁.setTop (mkF m 7 #[.val (.long q1), .second, .val (.long q2), .second, .unset, .unset, .unset, .unset, .unset, .unset, .unset] [(.long q2)])) _
    refine X0.ldc2Long hx hown (mvT hZ (hw _ (List.mem_of_getElem? (i := 25) rfl))) (g := (mkF m 7 #[.val (.long q1), .second, .val (.long q2), .second, .unset, .unset, .unset, .unset, .unset, .unset, .unset] [(.long q2)])) rfl (hb hby d4_7) _ ?_
    show Steps p.tables e below (s₁.setTop (mkF m 10 #[.val (.long q1), .second, .val (.long q2), .second, .unset, .unset, .unset, .unset, .unset, .unset, .unset] [(.long (1152921504606846975 : Int64)), (.long q2)])) _
    refine XS.lcmp X0.here hx rfl (hb hby d4_10) rfl ?_
    show Steps p.tables e below (s₁.setTop (mkF m 11 #[.val (.long q1), .second, .val (.long q2), .second, .unset, .unset, .unset, .unset, .unset, .unset, .unset] [(.int (lcmpW q2 (1152921504606846975 : Int64)))])) _
    refine XS.ifNo X0.here hx rfl (hb hby d4_11) rfl ((if0 _ _).trans (flt hc11).2.2.1) ?_
    show Steps p.tables e below (s₁.setTop (mkF m 14 #[.val (.long q1), .second, .val (.long q2), .second, .unset, .unset, .unset, .unset, .unset, .unset, .unset] [])) _
    refine XS.lloadN X0.here hx rfl (hb hby d4_14) rfl ?_
    show Steps p.tables e below (s₁.setTop (mkF m 15 #[.val (.long q1), .second, .val (.long q2), .second, .unset, .unset, .unset, .unset, .unset, .unset, .unset] [(.long q1)])) _
    refine XS.lloadN X0.here hx rfl (hb hby d4_15) rfl ?_
    show Steps p.tables e below (s₁.setTop (mkF m 16 #[.val (.long q1), .second, .val (.long q2), .second, .unset, .unset, .unset, .unset, .unset, .unset, .unset] [(.long q2), (.long q1)])) _
    refine X0.ldc2Long hx hown (mvT hZ (hw _ (List.mem_of_getElem? (i := 22) rfl))) (g := (mkF m 16 #[.val (.long q1), .second, .val (.long q2), .second, .unset, .unset, .unset, .unset, .unset, .unset, .unset] [(.long q2), (.long q1)])) rfl (hb hby d4_16) _ ?_
    show Steps p.tables e below (s₁.setTop (mkF m 19 #[.val (.long q1), .second, .val (.long q2), .second, .unset, .unset, .unset, .unset, .unset, .unset, .unset] [(.long (8 : Int64)), (.long q2), (.long q1)])) _
    refine XS.lmul X0.here hx rfl (hb hby d4_19) rfl ?_
    show Steps p.tables e below (s₁.setTop (mkF m 20 #[.val (.long q1), .second, .val (.long q2), .second, .unset, .unset, .unset, .unset, .unset, .unset, .unset] [(.long (q2 * (8 : Int64))), (.long q1)])) _
    refine XS.lcmp X0.here hx rfl (hb hby d4_20) rfl ?_
    show Steps p.tables e below (s₁.setTop (mkF m 21 #[.val (.long q1), .second, .val (.long q2), .second, .unset, .unset, .unset, .unset, .unset, .unset, .unset] [(.int (lcmpW q1 (q2 * (8 : Int64))))])) _
    refine XS.ifYes X0.here hx rfl (pc0 := 21) (pc' := 28) rfl (hb hby d4_21) rfl ((if0 _ _).trans (flt hc21).2.1) (by decide) (by decide) ?_
    show Steps p.tables e below (s₁.setTop (mkF m 28 #[.val (.long q1), .second, .val (.long q2), .second, .unset, .unset, .unset, .unset, .unset, .unset, .unset] [])) _
    refine XS.iconst X0.here hx rfl (hb hby d4_28) ?_
    show Steps p.tables e below (s₁.setTop (mkF m 29 #[.val (.long q1), .second, .val (.long q2), .second, .unset, .unset, .unset, .unset, .unset, .unset, .unset] [(.int (0 : Int32))])) _
    refine XS.istore X0.here hx rfl (hb hby d4_29) rfl (l' := #[.val (.long q1), .second, .val (.long q2), .second, .val (.int (0 : Int32)), .unset, .unset, .unset, .unset, .unset, .unset]) rfl ?_
    show Steps p.tables e below (s₁.setTop (mkF m 31 #[.val (.long q1), .second, .val (.long q2), .second, .val (.int (0 : Int32)), .unset, .unset, .unset, .unset, .unset, .unset] [])) _
    refine XS.iload X0.here hx rfl (hb hby d4_31) rfl ?_
    show Steps p.tables e below (s₁.setTop (mkF m 33 #[.val (.long q1), .second, .val (.long q2), .second, .val (.int (0 : Int32)), .unset, .unset, .unset, .unset, .unset, .unset] [(.int (0 : Int32))])) _
    refine XS.ifYes X0.here hx rfl (pc0 := 33) (pc' := 38) rfl (hb hby d4_33) rfl ((if0 _ _).trans (teq (rfl : (0 : Int32) = (0 : Int32))).1) (by decide) (by decide) ?_
    show Steps p.tables e below (s₁.setTop (mkF m 38 #[.val (.long q1), .second, .val (.long q2), .second, .val (.int (0 : Int32)), .unset, .unset, .unset, .unset, .unset, .unset] [])) _
    refine XS.lloadN X0.here hx rfl (hb hby d4_38) rfl ?_
    show Steps p.tables e below (s₁.setTop (mkF m 39 #[.val (.long q1), .second, .val (.long q2), .second, .val (.int (0 : Int32)), .unset, .unset, .unset, .unset, .unset, .unset] [(.long q1)])) _
    refine X0.ldc2Long hx hown (mvT hZ (hw _ (List.mem_of_getElem? (i := 19) rfl))) (g := (mkF m 39 #[.val (.long q1), .second, .val (.long q2), .second, .val (.int (0 : Int32)), .unset, .unset, .unset, .unset, .unset, .unset] [(.long q1)])) rfl (hb hby d4_39) _ ?_
    show Steps p.tables e below (s₁.setTop (mkF m 42 #[.val (.long q1), .second, .val (.long q2), .second, .val (.int (0 : Int32)), .unset, .unset, .unset, .unset, .unset, .unset] [(.long (256 : Int64)), (.long q1)])) _
    refine XS.ldiv X0.here hx rfl (hb hby d4_42) rfl (by decide) ?_
    show Steps p.tables e below (s₁.setTop (mkF m 43 #[.val (.long q1), .second, .val (.long q2), .second, .val (.int (0 : Int32)), .unset, .unset, .unset, .unset, .unset, .unset] [(.long (q1 / (256 : Int64)))])) _
    refine XS.lstore X0.here hx rfl (hb hby d4_43) rfl (l' := #[.val (.long q1), .second, .val (.long q2), .second, .val (.int (0 : Int32)), .val (.long (q1 / (256 : Int64))), .second, .unset, .unset, .unset, .unset]) rfl ?_
    show Steps p.tables e below (s₁.setTop (mkF m 45 #[.val (.long q1), .second, .val (.long q2), .second, .val (.int (0 : Int32)), .val (.long (q1 / (256 : Int64))), .second, .unset, .unset, .unset, .unset] [])) _
    refine XS.lload X0.here hx rfl (hb hby d4_45) rfl ?_
    show Steps p.tables e below (s₁.setTop (mkF m 47 #[.val (.long q1), .second, .val (.long q2), .second, .val (.int (0 : Int32)), .val (.long (q1 / (256 : Int64))), .second, .unset, .unset, .unset, .unset] [(.long (q1 / (256 : Int64)))])) _
    refine X0.ldc2Long hx hown (mvT hZ (hw _ (List.mem_of_getElem? (i := 20) rfl))) (g := (mkF m 47 #[.val (.long q1), .second, .val (.long q2), .second, .val (.int (0 : Int32)), .val (.long (q1 / (256 : Int64))), .second, .unset, .unset, .unset, .unset] [(.long (q1 / (256 : Int64)))])) rfl (hb hby d4_47) _ ?_
    show Steps p.tables e below (s₁.setTop (mkF m 50 #[.val (.long q1), .second, .val (.long q2), .second, .val (.int (0 : Int32)), .val (.long (q1 / (256 : Int64))), .second, .unset, .unset, .unset, .unset] [(.long (524288 : Int64)), (.long (q1 / (256 : Int64)))])) _
    refine XS.lcmp X0.here hx rfl (hb hby d4_50) rfl ?_
    show Steps p.tables e below (s₁.setTop (mkF m 51 #[.val (.long q1), .second, .val (.long q2), .second, .val (.int (0 : Int32)), .val (.long (q1 / (256 : Int64))), .second, .unset, .unset, .unset, .unset] [(.int (lcmpW (q1 / (256 : Int64)) (524288 : Int64)))])) _
    refine XS.ifNo X0.here hx rfl (hb hby d4_51) rfl ((if0 _ _).trans (tlt hc51).2.1) ?_
    show Steps p.tables e below (s₁.setTop (mkF m 54 #[.val (.long q1), .second, .val (.long q2), .second, .val (.int (0 : Int32)), .val (.long (q1 / (256 : Int64))), .second, .unset, .unset, .unset, .unset] [])) _
    refine X0.ldc2Long hx hown (mvT hZ (hw _ (List.mem_of_getElem? (i := 20) rfl))) (g := (mkF m 54 #[.val (.long q1), .second, .val (.long q2), .second, .val (.int (0 : Int32)), .val (.long (q1 / (256 : Int64))), .second, .unset, .unset, .unset, .unset] [])) rfl (hb hby d4_54) _ ?_
    show Steps p.tables e below (s₁.setTop (mkF m 57 #[.val (.long q1), .second, .val (.long q2), .second, .val (.int (0 : Int32)), .val (.long (q1 / (256 : Int64))), .second, .unset, .unset, .unset, .unset] [(.long (524288 : Int64))])) _
    refine XS.lstore X0.here hx rfl (hb hby d4_57) rfl (l' := #[.val (.long q1), .second, .val (.long q2), .second, .val (.int (0 : Int32)), .val (.long (q1 / (256 : Int64))), .second, .val (.long (524288 : Int64)), .second, .unset, .unset]) rfl ?_
    show Steps p.tables e below (s₁.setTop (mkF m 59 #[.val (.long q1), .second, .val (.long q2), .second, .val (.int (0 : Int32)), .val (.long (q1 / (256 : Int64))), .second, .val (.long (524288 : Int64)), .second, .unset, .unset] [])) _
    refine XS.goto X0.here hx rfl (pc0 := 59) (pc' := 83) rfl (hb hby d4_59) (by decide) (by decide) ?_
    show Steps p.tables e below (s₁.setTop (mkF m 83 #[.val (.long q1), .second, .val (.long q2), .second, .val (.int (0 : Int32)), .val (.long (q1 / (256 : Int64))), .second, .val (.long (524288 : Int64)), .second, .unset, .unset] [])) _
    refine XS.lloadN X0.here hx rfl (hb hby d4_83) rfl ?_
    show Steps p.tables e below (s₁.setTop (mkF m 84 #[.val (.long q1), .second, .val (.long q2), .second, .val (.int (0 : Int32)), .val (.long (q1 / (256 : Int64))), .second, .val (.long (524288 : Int64)), .second, .unset, .unset] [(.long q2)])) _
    refine X0.ldc2Long hx hown (mvT hZ (hw _ (List.mem_of_getElem? (i := 21) rfl))) (g := (mkF m 84 #[.val (.long q1), .second, .val (.long q2), .second, .val (.int (0 : Int32)), .val (.long (q1 / (256 : Int64))), .second, .val (.long (524288 : Int64)), .second, .unset, .unset] [(.long q2)])) rfl (hb hby d4_84) _ ?_
    show Steps p.tables e below (s₁.setTop (mkF m 87 #[.val (.long q1), .second, .val (.long q2), .second, .val (.int (0 : Int32)), .val (.long (q1 / (256 : Int64))), .second, .val (.long (524288 : Int64)), .second, .unset, .unset] [(.long (2 : Int64)), (.long q2)])) _
    refine XS.ldiv X0.here hx rfl (hb hby d4_87) rfl (by decide) ?_
    show Steps p.tables e below (s₁.setTop (mkF m 88 #[.val (.long q1), .second, .val (.long q2), .second, .val (.int (0 : Int32)), .val (.long (q1 / (256 : Int64))), .second, .val (.long (524288 : Int64)), .second, .unset, .unset] [(.long (q2 / (2 : Int64)))])) _
    refine XS.lstore X0.here hx rfl (hb hby d4_88) rfl (l' := #[.val (.long q1), .second, .val (.long q2), .second, .val (.int (0 : Int32)), .val (.long (q1 / (256 : Int64))), .second, .val (.long (524288 : Int64)), .second, .val (.long (q2 / (2 : Int64))), .second]) rfl ?_
    show Steps p.tables e below (s₁.setTop (mkF m 90 #[.val (.long q1), .second, .val (.long q2), .second, .val (.int (0 : Int32)), .val (.long (q1 / (256 : Int64))), .second, .val (.long (524288 : Int64)), .second, .val (.long (q2 / (2 : Int64))), .second] [])) _
    refine XS.lload X0.here hx rfl (hb hby d4_90) rfl ?_
    show Steps p.tables e below (s₁.setTop (mkF m 92 #[.val (.long q1), .second, .val (.long q2), .second, .val (.int (0 : Int32)), .val (.long (q1 / (256 : Int64))), .second, .val (.long (524288 : Int64)), .second, .val (.long (q2 / (2 : Int64))), .second] [(.long (q2 / (2 : Int64)))])) _
    refine XS.lload X0.here hx rfl (hb hby d4_92) rfl ?_
    show Steps p.tables e below (s₁.setTop (mkF m 94 #[.val (.long q1), .second, .val (.long q2), .second, .val (.int (0 : Int32)), .val (.long (q1 / (256 : Int64))), .second, .val (.long (524288 : Int64)), .second, .val (.long (q2 / (2 : Int64))), .second] [(.long (524288 : Int64)), (.long (q2 / (2 : Int64)))])) _
    refine XS.lcmp X0.here hx rfl (hb hby d4_94) rfl ?_
    show Steps p.tables e below (s₁.setTop (mkF m 95 #[.val (.long q1), .second, .val (.long q2), .second, .val (.int (0 : Int32)), .val (.long (q1 / (256 : Int64))), .second, .val (.long (524288 : Int64)), .second, .val (.long (q2 / (2 : Int64))), .second] [(.int (lcmpW (q2 / (2 : Int64)) (524288 : Int64)))])) _
    refine XS.ifNo X0.here hx rfl (hb hby d4_95) rfl ((if0 _ _).trans (tlt hc95).2.2.2) ?_
    show Steps p.tables e below (s₁.setTop (mkF m 98 #[.val (.long q1), .second, .val (.long q2), .second, .val (.int (0 : Int32)), .val (.long (q1 / (256 : Int64))), .second, .val (.long (524288 : Int64)), .second, .val (.long (q2 / (2 : Int64))), .second] [])) _
    refine XS.lload X0.here hx rfl (hb hby d4_98) rfl ?_
    show Steps p.tables e below (s₁.setTop (mkF m 100 #[.val (.long q1), .second, .val (.long q2), .second, .val (.int (0 : Int32)), .val (.long (q1 / (256 : Int64))), .second, .val (.long (524288 : Int64)), .second, .val (.long (q2 / (2 : Int64))), .second] [(.long (q2 / (2 : Int64)))])) _
    jvm_step X0.here [X0.here.top, hx, (hb hby d4_100), X0.method', Bd.returns, narrow]
    first | (intro acts; rw [hr _ acts rfl rfl rfl]) | rw [hr _ _ rfl rfl rfl]
    exact Steps.refl _
  · show Q_rm4 Z q1 q2 h0 n0 _ s₁.heap _
    exact ⟨by rw [F4, if_pos hc3, if_neg hc11, if_neg hc21, if_pos hc51, if_pos hc95], N0, e0⟩
set_option maxRecDepth 65536 in
set_option maxHeartbeats 40000000 in
theorem rm4_fftft (l : Launch) (Z : State) (a0 : Array Value) (hw : ∀ d ∈ tables_1, d.before a0 Z = true) (ws : List Jvm.Cond) (q1 : Int64) (q2 : Int64) (h0 : Heap) (n0 : Nat) (Z0 : n0 ≤ h0.size) (hc3 : (0 : Int32) < (lcmpW q2 (0 : Int64))) (hc11 : ¬ ((0 : Int32) < (lcmpW q2 (1152921504606846975 : Int64)))) (hc21 : ¬ ((lcmpW q1 (q2 * (8 : Int64))) < (0 : Int32))) (hc51 : (lcmpW (q1 / (256 : Int64)) (524288 : Int64)) < (0 : Int32)) (hc95 : ¬ ((0 : Int32) < (lcmpW (q2 / (2 : Int64)) (524288 : Int64)))) :
    MetFree l (⟨"dev/driftline/HeapReserveBytesPinLaw", "expected", "(JJ)J"⟩ : MethodName) (head1 (Jvm.Cond.code (⟨"dev/driftline/HeapReserveBytesPinLaw", "expected", "(JJ)J"⟩ : MethodName) method_3_code 11 (some .long) :: ws) ({ frames := 0, cells := 0, slots := 0, locals := 0 } : Room)) (fun a U => a = #[(.long q1), (.long q2)] ∧ Z.Warmed39 U.vm ∧ U.heap = h0) (fun _ _ _ _ _ => True) (fun _ U o U' => ∃ v L, o = .returned v ∧ Q_rm4 Z q1 q2 h0 n0 v U'.heap L ∧ FrameEnd U o U' L ({ frames := 0, cells := 0, slots := 0, locals := 0 } : Room).cells ({ frames := 0, cells := 0, slots := 0, locals := 0 } : Room).slots) := by
  refine MetFree.of_bodySF (plainFor_of_name pn_4) hisR ?_
  intro p e s m args below meth c s₁ Bd hml0 hP hK
  obtain ⟨rfl, hZ, hh⟩ := hP
  have hx := Bd.exec
  have hby := Bd.bytes
  have hml : c.maxLocals = 11 := hml0
  have hown : s.vm.findClass "dev/driftline/HeapReserveBytesPinLaw" = some m.cls := findClass_of_methodNamed Bd.named
  have hnm := (name_of_methodNamed Bd.named Bd.method).1
  have X0 : Stand p l e ({ frames := 0, cells := 0, slots := 0, locals := 0 } : Room) s m #[(.long q1), (.long q2)] below meth c s₁ [] 0 0 := Stand.of_body Bd
  have e0 : s₁.heap = h0 := by rw [← hh, Bd.state]; rfl
  have N0 := Fr.nil n0
  have pre0 : ∀ t, Steps p.tables e below (s₁.setTop (mkF m 0 #[.val (.long q1), .second, .val (.long q2), .second, .unset, .unset, .unset, .unset, .unset, .unset, .unset] [])) t → Steps p.tables e below (s₁.setTop (entryFrame m #[(.long q1), (.long q2)] 11)) t := fun t k => castTop (ef_4 m q1 q2) k
  obtain ⟨fs, hr, hrun, hended, hW, hsame⟩ := X0.leave (v := some (.long (524288 : Int64))) (fun h => by rw [Bd.returns] at h; cases h)
  refine ⟨_, _, pre0 _ ?_, hrun, hended, _, _, rfl, ?_, ⟨_, rfl⟩, hW, hsame.mono (by decide) (by decide)⟩
  · show Steps p.tables e below (s₁.setTop (mkF m 0 #[.val (.long q1), .second, .val (.long q2), .second, .unset, .unset, .unset, .unset, .unset, .unset, .unset] [])) _
    refine XS.lloadN X0.here hx rfl (hb hby d4_0) rfl ?_
    show Steps p.tables e below (s₁.setTop (mkF m 1 #[.val (.long q1), .second, .val (.long q2), .second, .unset, .unset, .unset, .unset, .unset, .unset, .unset] [(.long q2)])) _
    refine XS.lconst X0.here hx rfl (hb hby d4_1) ?_
    show Steps p.tables e below (s₁.setTop (mkF m 2 #[.val (.long q1), .second, .val (.long q2), .second, .unset, .unset, .unset, .unset, .unset, .unset, .unset] [(.long (0 : Int64)), (.long q2)])) _
    refine XS.lcmp X0.here hx rfl (hb hby d4_2) rfl ?_
    show Steps p.tables e below (s₁.setTop (mkF m 3 #[.val (.long q1), .second, .val (.long q2), .second, .unset, .unset, .unset, .unset, .unset, .unset, .unset] [(.int (lcmpW q2 (0 : Int64)))])) _
    refine XS.ifNo X0.here hx rfl (hb hby d4_3) rfl ((if0 _ _).trans (tlt hc3).2.2.2) ?_
    show Steps p.tables e below (s₁.setTop (mkF m 6 #[.val (.long q1), .second, .val (.long q2), .second, .unset, .unset, .unset, .unset, .unset, .unset, .unset] [])) _
    refine XS.lloadN X0.here hx rfl (hb hby d4_6) rfl ?_
    show Steps p.tables e below (s₁.setTop (mkF m 7 #[.val (.long q1), .second, .val (.long q2), .second, .unset, .unset, .unset, .unset, .unset, .unset, .unset] [(.long q2)])) _
    refine X0.ldc2Long hx hown (mvT hZ (hw _ (List.mem_of_getElem? (i := 25) rfl))) (g := (mkF m 7 #[.val (.long q1), .second, .val (.long q2), .second, .unset, .unset, .unset, .unset, .unset, .unset, .unset] [(.long q2)])) rfl (hb hby d4_7) _ ?_
    show Steps p.tables e below (s₁.setTop (mkF m 10 #[.val (.long q1), .second, .val (.long q2), .second, .unset, .unset, .unset, .unset, .unset, .unset, .unset] [(.long (1152921504606846975 : Int64)), (.long q2)])) _
    refine XS.lcmp X0.here hx rfl (hb hby d4_10) rfl ?_
    show Steps p.tables e below (s₁.setTop (mkF m 11 #[.val (.long q1), .second, .val (.long q2), .second, .unset, .unset, .unset, .unset, .unset, .unset, .unset] [(.int (lcmpW q2 (1152921504606846975 : Int64)))])) _
    refine XS.ifNo X0.here hx rfl (hb hby d4_11) rfl ((if0 _ _).trans (flt hc11).2.2.1) ?_
    show Steps p.tables e below (s₁.setTop (mkF m 14 #[.val (.long q1), .second, .val (.long q2), .second, .unset, .unset, .unset, .unset, .unset, .unset, .unset] [])) _
    refine XS.lloadN X0.here hx rfl (hb hby d4_14) rfl ?_
    show Steps p.tables e below (s₁.setTop (mkF m 15 #[.val (.long q1), .second, .val (.long q2), .second, .unset, .unset, .unset, .unset, .unset, .unset, .unset] [(.long q1)])) _
    refine XS.lloadN X0.here hx rfl (hb hby d4_15) rfl ?_
    show Steps p.tables e below (s₁.setTop (mkF m 16 #[.val (.long q1), .second, .val (.long q2), .second, .unset, .unset, .unset, .unset, .unset, .unset, .unset] [(.long q2), (.long q1)])) _
    refine X0.ldc2Long hx hown (mvT hZ (hw _ (List.mem_of_getElem? (i := 22) rfl))) (g := (mkF m 16 #[.val (.long q1), .second, .val (.long q2), .second, .unset, .unset, .unset, .unset, .unset, .unset, .unset] [(.long q2), (.long q1)])) rfl (hb hby d4_16) _ ?_
    show Steps p.tables e below (s₁.setTop (mkF m 19 #[.val (.long q1), .second, .val (.long q2), .second, .unset, .unset, .unset, .unset, .unset, .unset, .unset] [(.long (8 : Int64)), (.long q2), (.long q1)])) _
    refine XS.lmul X0.here hx rfl (hb hby d4_19) rfl ?_
    show Steps p.tables e below (s₁.setTop (mkF m 20 #[.val (.long q1), .second, .val (.long q2), .second, .unset, .unset, .unset, .unset, .unset, .unset, .unset] [(.long (q2 * (8 : Int64))), (.long q1)])) _
    refine XS.lcmp X0.here hx rfl (hb hby d4_20) rfl ?_
    show Steps p.tables e below (s₁.setTop (mkF m 21 #[.val (.long q1), .second, .val (.long q2), .second, .unset, .unset, .unset, .unset, .unset, .unset, .unset] [(.int (lcmpW q1 (q2 * (8 : Int64))))])) _
    refine XS.ifYes X0.here hx rfl (pc0 := 21) (pc' := 28) rfl (hb hby d4_21) rfl ((if0 _ _).trans (flt hc21).2.1) (by decide) (by decide) ?_
    show Steps p.tables e below (s₁.setTop (mkF m 28 #[.val (.long q1), .second, .val (.long q2), .second, .unset, .unset, .unset, .unset, .unset, .unset, .unset] [])) _
    refine XS.iconst X0.here hx rfl (hb hby d4_28) ?_
    show Steps p.tables e below (s₁.setTop (mkF m 29 #[.val (.long q1), .second, .val (.long q2), .second, .unset, .unset, .unset, .unset, .unset, .unset, .unset] [(.int (0 : Int32))])) _
    refine XS.istore X0.here hx rfl (hb hby d4_29) rfl (l' := #[.val (.long q1), .second, .val (.long q2), .second, .val (.int (0 : Int32)), .unset, .unset, .unset, .unset, .unset, .unset]) rfl ?_
    show Steps p.tables e below (s₁.setTop (mkF m 31 #[.val (.long q1), .second, .val (.long q2), .second, .val (.int (0 : Int32)), .unset, .unset, .unset, .unset, .unset, .unset] [])) _
    refine XS.iload X0.here hx rfl (hb hby d4_31) rfl ?_
    show Steps p.tables e below (s₁.setTop (mkF m 33 #[.val (.long q1), .second, .val (.long q2), .second, .val (.int (0 : Int32)), .unset, .unset, .unset, .unset, .unset, .unset] [(.int (0 : Int32))])) _
    refine XS.ifYes X0.here hx rfl (pc0 := 33) (pc' := 38) rfl (hb hby d4_33) rfl ((if0 _ _).trans (teq (rfl : (0 : Int32) = (0 : Int32))).1) (by decide) (by decide) ?_
    show Steps p.tables e below (s₁.setTop (mkF m 38 #[.val (.long q1), .second, .val (.long q2), .second, .val (.int (0 : Int32)), .unset, .unset, .unset, .unset, .unset, .unset] [])) _
    refine XS.lloadN X0.here hx rfl (hb hby d4_38) rfl ?_
    show Steps p.tables e below (s₁.setTop (mkF m 39 #[.val (.long q1), .second, .val (.long q2), .second, .val (.int (0 : Int32)), .unset, .unset, .unset, .unset, .unset, .unset] [(.long q1)])) _
    refine X0.ldc2Long hx hown (mvT hZ (hw _ (List.mem_of_getElem? (i := 19) rfl))) (g := (mkF m 39 #[.val (.long q1), .second, .val (.long q2), .second, .val (.int (0 : Int32)), .unset, .unset, .unset, .unset, .unset, .unset] [(.long q1)])) rfl (hb hby d4_39) _ ?_
    show Steps p.tables e below (s₁.setTop (mkF m 42 #[.val (.long q1), .second, .val (.long q2), .second, .val (.int (0 : Int32)), .unset, .unset, .unset, .unset, .unset, .unset] [(.long (256 : Int64)), (.long q1)])) _
    refine XS.ldiv X0.here hx rfl (hb hby d4_42) rfl (by decide) ?_
    show Steps p.tables e below (s₁.setTop (mkF m 43 #[.val (.long q1), .second, .val (.long q2), .second, .val (.int (0 : Int32)), .unset, .unset, .unset, .unset, .unset, .unset] [(.long (q1 / (256 : Int64)))])) _
    refine XS.lstore X0.here hx rfl (hb hby d4_43) rfl (l' := #[.val (.long q1), .second, .val (.long q2), .second, .val (.int (0 : Int32)), .val (.long (q1 / (256 : Int64))), .second, .unset, .unset, .unset, .unset]) rfl ?_
    show Steps p.tables e below (s₁.setTop (mkF m 45 #[.val (.long q1), .second, .val (.long q2), .second, .val (.int (0 : Int32)), .val (.long (q1 / (256 : Int64))), .second, .unset, .unset, .unset, .unset] [])) _
    refine XS.lload X0.here hx rfl (hb hby d4_45) rfl ?_
    show Steps p.tables e below (s₁.setTop (mkF m 47 #[.val (.long q1), .second, .val (.long q2), .second, .val (.int (0 : Int32)), .val (.long (q1 / (256 : Int64))), .second, .unset, .unset, .unset, .unset] [(.long (q1 / (256 : Int64)))])) _
    refine X0.ldc2Long hx hown (mvT hZ (hw _ (List.mem_of_getElem? (i := 20) rfl))) (g := (mkF m 47 #[.val (.long q1), .second, .val (.long q2), .second, .val (.int (0 : Int32)), .val (.long (q1 / (256 : Int64))), .second, .unset, .unset, .unset, .unset] [(.long (q1 / (256 : Int64)))])) rfl (hb hby d4_47) _ ?_
    show Steps p.tables e below (s₁.setTop (mkF m 50 #[.val (.long q1), .second, .val (.long q2), .second, .val (.int (0 : Int32)), .val (.long (q1 / (256 : Int64))), .second, .unset, .unset, .unset, .unset] [(.long (524288 : Int64)), (.long (q1 / (256 : Int64)))])) _
    refine XS.lcmp X0.here hx rfl (hb hby d4_50) rfl ?_
    show Steps p.tables e below (s₁.setTop (mkF m 51 #[.val (.long q1), .second, .val (.long q2), .second, .val (.int (0 : Int32)), .val (.long (q1 / (256 : Int64))), .second, .unset, .unset, .unset, .unset] [(.int (lcmpW (q1 / (256 : Int64)) (524288 : Int64)))])) _
    refine XS.ifNo X0.here hx rfl (hb hby d4_51) rfl ((if0 _ _).trans (tlt hc51).2.1) ?_
    show Steps p.tables e below (s₁.setTop (mkF m 54 #[.val (.long q1), .second, .val (.long q2), .second, .val (.int (0 : Int32)), .val (.long (q1 / (256 : Int64))), .second, .unset, .unset, .unset, .unset] [])) _
    refine X0.ldc2Long hx hown (mvT hZ (hw _ (List.mem_of_getElem? (i := 20) rfl))) (g := (mkF m 54 #[.val (.long q1), .second, .val (.long q2), .second, .val (.int (0 : Int32)), .val (.long (q1 / (256 : Int64))), .second, .unset, .unset, .unset, .unset] [])) rfl (hb hby d4_54) _ ?_
    show Steps p.tables e below (s₁.setTop (mkF m 57 #[.val (.long q1), .second, .val (.long q2), .second, .val (.int (0 : Int32)), .val (.long (q1 / (256 : Int64))), .second, .unset, .unset, .unset, .unset] [(.long (524288 : Int64))])) _
    refine XS.lstore X0.here hx rfl (hb hby d4_57) rfl (l' := #[.val (.long q1), .second, .val (.long q2), .second, .val (.int (0 : Int32)), .val (.long (q1 / (256 : Int64))), .second, .val (.long (524288 : Int64)), .second, .unset, .unset]) rfl ?_
    show Steps p.tables e below (s₁.setTop (mkF m 59 #[.val (.long q1), .second, .val (.long q2), .second, .val (.int (0 : Int32)), .val (.long (q1 / (256 : Int64))), .second, .val (.long (524288 : Int64)), .second, .unset, .unset] [])) _
    refine XS.goto X0.here hx rfl (pc0 := 59) (pc' := 83) rfl (hb hby d4_59) (by decide) (by decide) ?_
    show Steps p.tables e below (s₁.setTop (mkF m 83 #[.val (.long q1), .second, .val (.long q2), .second, .val (.int (0 : Int32)), .val (.long (q1 / (256 : Int64))), .second, .val (.long (524288 : Int64)), .second, .unset, .unset] [])) _
    refine XS.lloadN X0.here hx rfl (hb hby d4_83) rfl ?_
    show Steps p.tables e below (s₁.setTop (mkF m 84 #[.val (.long q1), .second, .val (.long q2), .second, .val (.int (0 : Int32)), .val (.long (q1 / (256 : Int64))), .second, .val (.long (524288 : Int64)), .second, .unset, .unset] [(.long q2)])) _
    refine X0.ldc2Long hx hown (mvT hZ (hw _ (List.mem_of_getElem? (i := 21) rfl))) (g := (mkF m 84 #[.val (.long q1), .second, .val (.long q2), .second, .val (.int (0 : Int32)), .val (.long (q1 / (256 : Int64))), .second, .val (.long (524288 : Int64)), .second, .unset, .unset] [(.long q2)])) rfl (hb hby d4_84) _ ?_
    show Steps p.tables e below (s₁.setTop (mkF m 87 #[.val (.long q1), .second, .val (.long q2), .second, .val (.int (0 : Int32)), .val (.long (q1 / (256 : Int64))), .second, .val (.long (524288 : Int64)), .second, .unset, .unset] [(.long (2 : Int64)), (.long q2)])) _
    refine XS.ldiv X0.here hx rfl (hb hby d4_87) rfl (by decide) ?_
    show Steps p.tables e below (s₁.setTop (mkF m 88 #[.val (.long q1), .second, .val (.long q2), .second, .val (.int (0 : Int32)), .val (.long (q1 / (256 : Int64))), .second, .val (.long (524288 : Int64)), .second, .unset, .unset] [(.long (q2 / (2 : Int64)))])) _
    refine XS.lstore X0.here hx rfl (hb hby d4_88) rfl (l' := #[.val (.long q1), .second, .val (.long q2), .second, .val (.int (0 : Int32)), .val (.long (q1 / (256 : Int64))), .second, .val (.long (524288 : Int64)), .second, .val (.long (q2 / (2 : Int64))), .second]) rfl ?_
    show Steps p.tables e below (s₁.setTop (mkF m 90 #[.val (.long q1), .second, .val (.long q2), .second, .val (.int (0 : Int32)), .val (.long (q1 / (256 : Int64))), .second, .val (.long (524288 : Int64)), .second, .val (.long (q2 / (2 : Int64))), .second] [])) _
    refine XS.lload X0.here hx rfl (hb hby d4_90) rfl ?_
    show Steps p.tables e below (s₁.setTop (mkF m 92 #[.val (.long q1), .second, .val (.long q2), .second, .val (.int (0 : Int32)), .val (.long (q1 / (256 : Int64))), .second, .val (.long (524288 : Int64)), .second, .val (.long (q2 / (2 : Int64))), .second] [(.long (q2 / (2 : Int64)))])) _
    refine XS.lload X0.here hx rfl (hb hby d4_92) rfl ?_
    show Steps p.tables e below (s₁.setTop (mkF m 94 #[.val (.long q1), .second, .val (.long q2), .second, .val (.int (0 : Int32)), .val (.long (q1 / (256 : Int64))), .second, .val (.long (524288 : Int64)), .second, .val (.long (q2 / (2 : Int64))), .second] [(.long (524288 : Int64)), (.long (q2 / (2 : Int64)))])) _
    refine XS.lcmp X0.here hx rfl (hb hby d4_94) rfl ?_
    show Steps p.tables e below (s₁.setTop (mkF m 95 #[.val (.long q1), .second, .val (.long q2), .second, .val (.int (0 : Int32)), .val (.long (q1 / (256 : Int64))), .second, .val (.long (524288 : Int64)), .second, .val (.long (q2 / (2 : Int64))), .second] [(.int (lcmpW (q2 / (2 : Int64)) (524288 : Int64)))])) _
    refine XS.ifYes X0.here hx rfl (pc0 := 95) (pc' := 101) rfl (hb hby d4_95) rfl ((if0 _ _).trans (flt hc95).2.2.2) (by decide) (by decide) ?_
    show Steps p.tables e below (s₁.setTop (mkF m 101 #[.val (.long q1), .second, .val (.long q2), .second, .val (.int (0 : Int32)), .val (.long (q1 / (256 : Int64))), .second, .val (.long (524288 : Int64)), .second, .val (.long (q2 / (2 : Int64))), .second] [])) _
    refine XS.lload X0.here hx rfl (hb hby d4_101) rfl ?_
    show Steps p.tables e below (s₁.setTop (mkF m 103 #[.val (.long q1), .second, .val (.long q2), .second, .val (.int (0 : Int32)), .val (.long (q1 / (256 : Int64))), .second, .val (.long (524288 : Int64)), .second, .val (.long (q2 / (2 : Int64))), .second] [(.long (524288 : Int64))])) _
    jvm_step X0.here [X0.here.top, hx, (hb hby d4_103), X0.method', Bd.returns, narrow]
    first | (intro acts; rw [hr _ acts rfl rfl rfl]) | rw [hr _ _ rfl rfl rfl]
    exact Steps.refl _
  · show Q_rm4 Z q1 q2 h0 n0 _ s₁.heap _
    exact ⟨by rw [F4, if_pos hc3, if_neg hc11, if_neg hc21, if_pos hc51, if_neg hc95], N0, e0⟩
set_option maxRecDepth 65536 in
set_option maxHeartbeats 40000000 in
theorem rm4_ffttff (l : Launch) (Z : State) (a0 : Array Value) (hw : ∀ d ∈ tables_1, d.before a0 Z = true) (ws : List Jvm.Cond) (q1 : Int64) (q2 : Int64) (h0 : Heap) (n0 : Nat) (Z0 : n0 ≤ h0.size) (hc3 : (0 : Int32) < (lcmpW q2 (0 : Int64))) (hc11 : ¬ ((0 : Int32) < (lcmpW q2 (1152921504606846975 : Int64)))) (hc21 : ¬ ((lcmpW q1 (q2 * (8 : Int64))) < (0 : Int32))) (hc51 : ¬ ((lcmpW (q1 / (256 : Int64)) (524288 : Int64)) < (0 : Int32))) (hc68 : (0 : Int32) < (lcmpW (q1 / (256 : Int64)) (16777216 : Int64))) (hc95 : (0 : Int32) < (lcmpW (q2 / (2 : Int64)) (16777216 : Int64))) :
    MetFree l (⟨"dev/driftline/HeapReserveBytesPinLaw", "expected", "(JJ)J"⟩ : MethodName) (head1 (Jvm.Cond.code (⟨"dev/driftline/HeapReserveBytesPinLaw", "expected", "(JJ)J"⟩ : MethodName) method_3_code 11 (some .long) :: ws) ({ frames := 0, cells := 0, slots := 0, locals := 0 } : Room)) (fun a U => a = #[(.long q1), (.long q2)] ∧ Z.Warmed39 U.vm ∧ U.heap = h0) (fun _ _ _ _ _ => True) (fun _ U o U' => ∃ v L, o = .returned v ∧ Q_rm4 Z q1 q2 h0 n0 v U'.heap L ∧ FrameEnd U o U' L ({ frames := 0, cells := 0, slots := 0, locals := 0 } : Room).cells ({ frames := 0, cells := 0, slots := 0, locals := 0 } : Room).slots) := by
  refine MetFree.of_bodySF (plainFor_of_name pn_4) hisR ?_
  intro p e s m args below meth c s₁ Bd hml0 hP hK
  obtain ⟨rfl, hZ, hh⟩ := hP
  have hx := Bd.exec
  have hby := Bd.bytes
  have hml : c.maxLocals = 11 := hml0
  have hown : s.vm.findClass "dev/driftline/HeapReserveBytesPinLaw" = some m.cls := findClass_of_methodNamed Bd.named
  have hnm := (name_of_methodNamed Bd.named Bd.method).1
  have X0 : Stand p l e ({ frames := 0, cells := 0, slots := 0, locals := 0 } : Room) s m #[(.long q1), (.long q2)] below meth c s₁ [] 0 0 := Stand.of_body Bd
  have e0 : s₁.heap = h0 := by rw [← hh, Bd.state]; rfl
  have N0 := Fr.nil n0
  have pre0 : ∀ t, Steps p.tables e below (s₁.setTop (mkF m 0 #[.val (.long q1), .second, .val (.long q2), .second, .unset, .unset, .unset, .unset, .unset, .unset, .unset] [])) t → Steps p.tables e below (s₁.setTop (entryFrame m #[(.long q1), (.long q2)] 11)) t := fun t k => castTop (ef_4 m q1 q2) k
  obtain ⟨fs, hr, hrun, hended, hW, hsame⟩ := X0.leave (v := some (.long (q2 / (2 : Int64)))) (fun h => by rw [Bd.returns] at h; cases h)
  refine ⟨_, _, pre0 _ ?_, hrun, hended, _, _, rfl, ?_, ⟨_, rfl⟩, hW, hsame.mono (by decide) (by decide)⟩
  · show Steps p.tables e below (s₁.setTop (mkF m 0 #[.val (.long q1), .second, .val (.long q2), .second, .unset, .unset, .unset, .unset, .unset, .unset, .unset] [])) _
    refine XS.lloadN X0.here hx rfl (hb hby d4_0) rfl ?_
    show Steps p.tables e below (s₁.setTop (mkF m 1 #[.val (.long q1), .second, .val (.long q2), .second, .unset, .unset, .unset, .unset, .unset, .unset, .unset] [(.long q2)])) _
    refine XS.lconst X0.here hx rfl (hb hby d4_1) ?_
    show Steps p.tables e below (s₁.setTop (mkF m 2 #[.val (.long q1), .second, .val (.long q2), .second, .unset, .unset, .unset, .unset, .unset, .unset, .unset] [(.long (0 : Int64)), (.long q2)])) _
    refine XS.lcmp X0.here hx rfl (hb hby d4_2) rfl ?_
    show Steps p.tables e below (s₁.setTop (mkF m 3 #[.val (.long q1), .second, .val (.long q2), .second, .unset, .unset, .unset, .unset, .unset, .unset, .unset] [(.int (lcmpW q2 (0 : Int64)))])) _
    refine XS.ifNo X0.here hx rfl (hb hby d4_3) rfl ((if0 _ _).trans (tlt hc3).2.2.2) ?_
    show Steps p.tables e below (s₁.setTop (mkF m 6 #[.val (.long q1), .second, .val (.long q2), .second, .unset, .unset, .unset, .unset, .unset, .unset, .unset] [])) _
    refine XS.lloadN X0.here hx rfl (hb hby d4_6) rfl ?_
    show Steps p.tables e below (s₁.setTop (mkF m 7 #[.val (.long q1), .second, .val (.long q2), .second, .unset, .unset, .unset, .unset, .unset, .unset, .unset] [(.long q2)])) _
    refine X0.ldc2Long hx hown (mvT hZ (hw _ (List.mem_of_getElem? (i := 25) rfl))) (g := (mkF m 7 #[.val (.long q1), .second, .val (.long q2), .second, .unset, .unset, .unset, .unset, .unset, .unset, .unset] [(.long q2)])) rfl (hb hby d4_7) _ ?_
    show Steps p.tables e below (s₁.setTop (mkF m 10 #[.val (.long q1), .second, .val (.long q2), .second, .unset, .unset, .unset, .unset, .unset, .unset, .unset] [(.long (1152921504606846975 : Int64)), (.long q2)])) _
    refine XS.lcmp X0.here hx rfl (hb hby d4_10) rfl ?_
    show Steps p.tables e below (s₁.setTop (mkF m 11 #[.val (.long q1), .second, .val (.long q2), .second, .unset, .unset, .unset, .unset, .unset, .unset, .unset] [(.int (lcmpW q2 (1152921504606846975 : Int64)))])) _
    refine XS.ifNo X0.here hx rfl (hb hby d4_11) rfl ((if0 _ _).trans (flt hc11).2.2.1) ?_
    show Steps p.tables e below (s₁.setTop (mkF m 14 #[.val (.long q1), .second, .val (.long q2), .second, .unset, .unset, .unset, .unset, .unset, .unset, .unset] [])) _
    refine XS.lloadN X0.here hx rfl (hb hby d4_14) rfl ?_
    show Steps p.tables e below (s₁.setTop (mkF m 15 #[.val (.long q1), .second, .val (.long q2), .second, .unset, .unset, .unset, .unset, .unset, .unset, .unset] [(.long q1)])) _
    refine XS.lloadN X0.here hx rfl (hb hby d4_15) rfl ?_
    show Steps p.tables e below (s₁.setTop (mkF m 16 #[.val (.long q1), .second, .val (.long q2), .second, .unset, .unset, .unset, .unset, .unset, .unset, .unset] [(.long q2), (.long q1)])) _
    refine X0.ldc2Long hx hown (mvT hZ (hw _ (List.mem_of_getElem? (i := 22) rfl))) (g := (mkF m 16 #[.val (.long q1), .second, .val (.long q2), .second, .unset, .unset, .unset, .unset, .unset, .unset, .unset] [(.long q2), (.long q1)])) rfl (hb hby d4_16) _ ?_
    show Steps p.tables e below (s₁.setTop (mkF m 19 #[.val (.long q1), .second, .val (.long q2), .second, .unset, .unset, .unset, .unset, .unset, .unset, .unset] [(.long (8 : Int64)), (.long q2), (.long q1)])) _
    refine XS.lmul X0.here hx rfl (hb hby d4_19) rfl ?_
    show Steps p.tables e below (s₁.setTop (mkF m 20 #[.val (.long q1), .second, .val (.long q2), .second, .unset, .unset, .unset, .unset, .unset, .unset, .unset] [(.long (q2 * (8 : Int64))), (.long q1)])) _
    refine XS.lcmp X0.here hx rfl (hb hby d4_20) rfl ?_
    show Steps p.tables e below (s₁.setTop (mkF m 21 #[.val (.long q1), .second, .val (.long q2), .second, .unset, .unset, .unset, .unset, .unset, .unset, .unset] [(.int (lcmpW q1 (q2 * (8 : Int64))))])) _
    refine XS.ifYes X0.here hx rfl (pc0 := 21) (pc' := 28) rfl (hb hby d4_21) rfl ((if0 _ _).trans (flt hc21).2.1) (by decide) (by decide) ?_
    show Steps p.tables e below (s₁.setTop (mkF m 28 #[.val (.long q1), .second, .val (.long q2), .second, .unset, .unset, .unset, .unset, .unset, .unset, .unset] [])) _
    refine XS.iconst X0.here hx rfl (hb hby d4_28) ?_
    show Steps p.tables e below (s₁.setTop (mkF m 29 #[.val (.long q1), .second, .val (.long q2), .second, .unset, .unset, .unset, .unset, .unset, .unset, .unset] [(.int (0 : Int32))])) _
    refine XS.istore X0.here hx rfl (hb hby d4_29) rfl (l' := #[.val (.long q1), .second, .val (.long q2), .second, .val (.int (0 : Int32)), .unset, .unset, .unset, .unset, .unset, .unset]) rfl ?_
    show Steps p.tables e below (s₁.setTop (mkF m 31 #[.val (.long q1), .second, .val (.long q2), .second, .val (.int (0 : Int32)), .unset, .unset, .unset, .unset, .unset, .unset] [])) _
    refine XS.iload X0.here hx rfl (hb hby d4_31) rfl ?_
    show Steps p.tables e below (s₁.setTop (mkF m 33 #[.val (.long q1), .second, .val (.long q2), .second, .val (.int (0 : Int32)), .unset, .unset, .unset, .unset, .unset, .unset] [(.int (0 : Int32))])) _
    refine XS.ifYes X0.here hx rfl (pc0 := 33) (pc' := 38) rfl (hb hby d4_33) rfl ((if0 _ _).trans (teq (rfl : (0 : Int32) = (0 : Int32))).1) (by decide) (by decide) ?_
    show Steps p.tables e below (s₁.setTop (mkF m 38 #[.val (.long q1), .second, .val (.long q2), .second, .val (.int (0 : Int32)), .unset, .unset, .unset, .unset, .unset, .unset] [])) _
    refine XS.lloadN X0.here hx rfl (hb hby d4_38) rfl ?_
    show Steps p.tables e below (s₁.setTop (mkF m 39 #[.val (.long q1), .second, .val (.long q2), .second, .val (.int (0 : Int32)), .unset, .unset, .unset, .unset, .unset, .unset] [(.long q1)])) _
    refine X0.ldc2Long hx hown (mvT hZ (hw _ (List.mem_of_getElem? (i := 19) rfl))) (g := (mkF m 39 #[.val (.long q1), .second, .val (.long q2), .second, .val (.int (0 : Int32)), .unset, .unset, .unset, .unset, .unset, .unset] [(.long q1)])) rfl (hb hby d4_39) _ ?_
    show Steps p.tables e below (s₁.setTop (mkF m 42 #[.val (.long q1), .second, .val (.long q2), .second, .val (.int (0 : Int32)), .unset, .unset, .unset, .unset, .unset, .unset] [(.long (256 : Int64)), (.long q1)])) _
    refine XS.ldiv X0.here hx rfl (hb hby d4_42) rfl (by decide) ?_
    show Steps p.tables e below (s₁.setTop (mkF m 43 #[.val (.long q1), .second, .val (.long q2), .second, .val (.int (0 : Int32)), .unset, .unset, .unset, .unset, .unset, .unset] [(.long (q1 / (256 : Int64)))])) _
    refine XS.lstore X0.here hx rfl (hb hby d4_43) rfl (l' := #[.val (.long q1), .second, .val (.long q2), .second, .val (.int (0 : Int32)), .val (.long (q1 / (256 : Int64))), .second, .unset, .unset, .unset, .unset]) rfl ?_
    show Steps p.tables e below (s₁.setTop (mkF m 45 #[.val (.long q1), .second, .val (.long q2), .second, .val (.int (0 : Int32)), .val (.long (q1 / (256 : Int64))), .second, .unset, .unset, .unset, .unset] [])) _
    refine XS.lload X0.here hx rfl (hb hby d4_45) rfl ?_
    show Steps p.tables e below (s₁.setTop (mkF m 47 #[.val (.long q1), .second, .val (.long q2), .second, .val (.int (0 : Int32)), .val (.long (q1 / (256 : Int64))), .second, .unset, .unset, .unset, .unset] [(.long (q1 / (256 : Int64)))])) _
    refine X0.ldc2Long hx hown (mvT hZ (hw _ (List.mem_of_getElem? (i := 20) rfl))) (g := (mkF m 47 #[.val (.long q1), .second, .val (.long q2), .second, .val (.int (0 : Int32)), .val (.long (q1 / (256 : Int64))), .second, .unset, .unset, .unset, .unset] [(.long (q1 / (256 : Int64)))])) rfl (hb hby d4_47) _ ?_
    show Steps p.tables e below (s₁.setTop (mkF m 50 #[.val (.long q1), .second, .val (.long q2), .second, .val (.int (0 : Int32)), .val (.long (q1 / (256 : Int64))), .second, .unset, .unset, .unset, .unset] [(.long (524288 : Int64)), (.long (q1 / (256 : Int64)))])) _
    refine XS.lcmp X0.here hx rfl (hb hby d4_50) rfl ?_
    show Steps p.tables e below (s₁.setTop (mkF m 51 #[.val (.long q1), .second, .val (.long q2), .second, .val (.int (0 : Int32)), .val (.long (q1 / (256 : Int64))), .second, .unset, .unset, .unset, .unset] [(.int (lcmpW (q1 / (256 : Int64)) (524288 : Int64)))])) _
    refine XS.ifYes X0.here hx rfl (pc0 := 51) (pc' := 62) rfl (hb hby d4_51) rfl ((if0 _ _).trans (flt hc51).2.1) (by decide) (by decide) ?_
    show Steps p.tables e below (s₁.setTop (mkF m 62 #[.val (.long q1), .second, .val (.long q2), .second, .val (.int (0 : Int32)), .val (.long (q1 / (256 : Int64))), .second, .unset, .unset, .unset, .unset] [])) _
    refine XS.lload X0.here hx rfl (hb hby d4_62) rfl ?_
    show Steps p.tables e below (s₁.setTop (mkF m 64 #[.val (.long q1), .second, .val (.long q2), .second, .val (.int (0 : Int32)), .val (.long (q1 / (256 : Int64))), .second, .unset, .unset, .unset, .unset] [(.long (q1 / (256 : Int64)))])) _
    refine X0.ldc2Long hx hown (mvT hZ (hw _ (List.mem_of_getElem? (i := 26) rfl))) (g := (mkF m 64 #[.val (.long q1), .second, .val (.long q2), .second, .val (.int (0 : Int32)), .val (.long (q1 / (256 : Int64))), .second, .unset, .unset, .unset, .unset] [(.long (q1 / (256 : Int64)))])) rfl (hb hby d4_64) _ ?_
    show Steps p.tables e below (s₁.setTop (mkF m 67 #[.val (.long q1), .second, .val (.long q2), .second, .val (.int (0 : Int32)), .val (.long (q1 / (256 : Int64))), .second, .unset, .unset, .unset, .unset] [(.long (16777216 : Int64)), (.long (q1 / (256 : Int64)))])) _
    refine XS.lcmp X0.here hx rfl (hb hby d4_67) rfl ?_
    show Steps p.tables e below (s₁.setTop (mkF m 68 #[.val (.long q1), .second, .val (.long q2), .second, .val (.int (0 : Int32)), .val (.long (q1 / (256 : Int64))), .second, .unset, .unset, .unset, .unset] [(.int (lcmpW (q1 / (256 : Int64)) (16777216 : Int64)))])) _
    refine XS.ifNo X0.here hx rfl (hb hby d4_68) rfl ((if0 _ _).trans (tlt hc68).2.2.2) ?_
    show Steps p.tables e below (s₁.setTop (mkF m 71 #[.val (.long q1), .second, .val (.long q2), .second, .val (.int (0 : Int32)), .val (.long (q1 / (256 : Int64))), .second, .unset, .unset, .unset, .unset] [])) _
    refine X0.ldc2Long hx hown (mvT hZ (hw _ (List.mem_of_getElem? (i := 26) rfl))) (g := (mkF m 71 #[.val (.long q1), .second, .val (.long q2), .second, .val (.int (0 : Int32)), .val (.long (q1 / (256 : Int64))), .second, .unset, .unset, .unset, .unset] [])) rfl (hb hby d4_71) _ ?_
    show Steps p.tables e below (s₁.setTop (mkF m 74 #[.val (.long q1), .second, .val (.long q2), .second, .val (.int (0 : Int32)), .val (.long (q1 / (256 : Int64))), .second, .unset, .unset, .unset, .unset] [(.long (16777216 : Int64))])) _
    refine XS.lstore X0.here hx rfl (hb hby d4_74) rfl (l' := #[.val (.long q1), .second, .val (.long q2), .second, .val (.int (0 : Int32)), .val (.long (q1 / (256 : Int64))), .second, .val (.long (16777216 : Int64)), .second, .unset, .unset]) rfl ?_
    show Steps p.tables e below (s₁.setTop (mkF m 76 #[.val (.long q1), .second, .val (.long q2), .second, .val (.int (0 : Int32)), .val (.long (q1 / (256 : Int64))), .second, .val (.long (16777216 : Int64)), .second, .unset, .unset] [])) _
    refine XS.goto X0.here hx rfl (pc0 := 76) (pc' := 83) rfl (hb hby d4_76) (by decide) (by decide) ?_
    show Steps p.tables e below (s₁.setTop (mkF m 83 #[.val (.long q1), .second, .val (.long q2), .second, .val (.int (0 : Int32)), .val (.long (q1 / (256 : Int64))), .second, .val (.long (16777216 : Int64)), .second, .unset, .unset] [])) _
    refine XS.lloadN X0.here hx rfl (hb hby d4_83) rfl ?_
    show Steps p.tables e below (s₁.setTop (mkF m 84 #[.val (.long q1), .second, .val (.long q2), .second, .val (.int (0 : Int32)), .val (.long (q1 / (256 : Int64))), .second, .val (.long (16777216 : Int64)), .second, .unset, .unset] [(.long q2)])) _
    refine X0.ldc2Long hx hown (mvT hZ (hw _ (List.mem_of_getElem? (i := 21) rfl))) (g := (mkF m 84 #[.val (.long q1), .second, .val (.long q2), .second, .val (.int (0 : Int32)), .val (.long (q1 / (256 : Int64))), .second, .val (.long (16777216 : Int64)), .second, .unset, .unset] [(.long q2)])) rfl (hb hby d4_84) _ ?_
    show Steps p.tables e below (s₁.setTop (mkF m 87 #[.val (.long q1), .second, .val (.long q2), .second, .val (.int (0 : Int32)), .val (.long (q1 / (256 : Int64))), .second, .val (.long (16777216 : Int64)), .second, .unset, .unset] [(.long (2 : Int64)), (.long q2)])) _
    refine XS.ldiv X0.here hx rfl (hb hby d4_87) rfl (by decide) ?_
    show Steps p.tables e below (s₁.setTop (mkF m 88 #[.val (.long q1), .second, .val (.long q2), .second, .val (.int (0 : Int32)), .val (.long (q1 / (256 : Int64))), .second, .val (.long (16777216 : Int64)), .second, .unset, .unset] [(.long (q2 / (2 : Int64)))])) _
    refine XS.lstore X0.here hx rfl (hb hby d4_88) rfl (l' := #[.val (.long q1), .second, .val (.long q2), .second, .val (.int (0 : Int32)), .val (.long (q1 / (256 : Int64))), .second, .val (.long (16777216 : Int64)), .second, .val (.long (q2 / (2 : Int64))), .second]) rfl ?_
    show Steps p.tables e below (s₁.setTop (mkF m 90 #[.val (.long q1), .second, .val (.long q2), .second, .val (.int (0 : Int32)), .val (.long (q1 / (256 : Int64))), .second, .val (.long (16777216 : Int64)), .second, .val (.long (q2 / (2 : Int64))), .second] [])) _
    refine XS.lload X0.here hx rfl (hb hby d4_90) rfl ?_
    show Steps p.tables e below (s₁.setTop (mkF m 92 #[.val (.long q1), .second, .val (.long q2), .second, .val (.int (0 : Int32)), .val (.long (q1 / (256 : Int64))), .second, .val (.long (16777216 : Int64)), .second, .val (.long (q2 / (2 : Int64))), .second] [(.long (q2 / (2 : Int64)))])) _
    refine XS.lload X0.here hx rfl (hb hby d4_92) rfl ?_
    show Steps p.tables e below (s₁.setTop (mkF m 94 #[.val (.long q1), .second, .val (.long q2), .second, .val (.int (0 : Int32)), .val (.long (q1 / (256 : Int64))), .second, .val (.long (16777216 : Int64)), .second, .val (.long (q2 / (2 : Int64))), .second] [(.long (16777216 : Int64)), (.long (q2 / (2 : Int64)))])) _
    refine XS.lcmp X0.here hx rfl (hb hby d4_94) rfl ?_
    show Steps p.tables e below (s₁.setTop (mkF m 95 #[.val (.long q1), .second, .val (.long q2), .second, .val (.int (0 : Int32)), .val (.long (q1 / (256 : Int64))), .second, .val (.long (16777216 : Int64)), .second, .val (.long (q2 / (2 : Int64))), .second] [(.int (lcmpW (q2 / (2 : Int64)) (16777216 : Int64)))])) _
    refine XS.ifNo X0.here hx rfl (hb hby d4_95) rfl ((if0 _ _).trans (tlt hc95).2.2.2) ?_
    show Steps p.tables e below (s₁.setTop (mkF m 98 #[.val (.long q1), .second, .val (.long q2), .second, .val (.int (0 : Int32)), .val (.long (q1 / (256 : Int64))), .second, .val (.long (16777216 : Int64)), .second, .val (.long (q2 / (2 : Int64))), .second] [])) _
    refine XS.lload X0.here hx rfl (hb hby d4_98) rfl ?_
    show Steps p.tables e below (s₁.setTop (mkF m 100 #[.val (.long q1), .second, .val (.long q2), .second, .val (.int (0 : Int32)), .val (.long (q1 / (256 : Int64))), .second, .val (.long (16777216 : Int64)), .second, .val (.long (q2 / (2 : Int64))), .second] [(.long (q2 / (2 : Int64)))])) _
    jvm_step X0.here [X0.here.top, hx, (hb hby d4_100), X0.method', Bd.returns, narrow]
    first | (intro acts; rw [hr _ acts rfl rfl rfl]) | rw [hr _ _ rfl rfl rfl]
    exact Steps.refl _
  · show Q_rm4 Z q1 q2 h0 n0 _ s₁.heap _
    exact ⟨by rw [F4, if_pos hc3, if_neg hc11, if_neg hc21, if_neg hc51, if_pos hc68, if_pos hc95], N0, e0⟩
set_option maxRecDepth 65536 in
set_option maxHeartbeats 40000000 in
theorem rm4_ffttft (l : Launch) (Z : State) (a0 : Array Value) (hw : ∀ d ∈ tables_1, d.before a0 Z = true) (ws : List Jvm.Cond) (q1 : Int64) (q2 : Int64) (h0 : Heap) (n0 : Nat) (Z0 : n0 ≤ h0.size) (hc3 : (0 : Int32) < (lcmpW q2 (0 : Int64))) (hc11 : ¬ ((0 : Int32) < (lcmpW q2 (1152921504606846975 : Int64)))) (hc21 : ¬ ((lcmpW q1 (q2 * (8 : Int64))) < (0 : Int32))) (hc51 : ¬ ((lcmpW (q1 / (256 : Int64)) (524288 : Int64)) < (0 : Int32))) (hc68 : (0 : Int32) < (lcmpW (q1 / (256 : Int64)) (16777216 : Int64))) (hc95 : ¬ ((0 : Int32) < (lcmpW (q2 / (2 : Int64)) (16777216 : Int64)))) :
    MetFree l (⟨"dev/driftline/HeapReserveBytesPinLaw", "expected", "(JJ)J"⟩ : MethodName) (head1 (Jvm.Cond.code (⟨"dev/driftline/HeapReserveBytesPinLaw", "expected", "(JJ)J"⟩ : MethodName) method_3_code 11 (some .long) :: ws) ({ frames := 0, cells := 0, slots := 0, locals := 0 } : Room)) (fun a U => a = #[(.long q1), (.long q2)] ∧ Z.Warmed39 U.vm ∧ U.heap = h0) (fun _ _ _ _ _ => True) (fun _ U o U' => ∃ v L, o = .returned v ∧ Q_rm4 Z q1 q2 h0 n0 v U'.heap L ∧ FrameEnd U o U' L ({ frames := 0, cells := 0, slots := 0, locals := 0 } : Room).cells ({ frames := 0, cells := 0, slots := 0, locals := 0 } : Room).slots) := by
  refine MetFree.of_bodySF (plainFor_of_name pn_4) hisR ?_
  intro p e s m args below meth c s₁ Bd hml0 hP hK
  obtain ⟨rfl, hZ, hh⟩ := hP
  have hx := Bd.exec
  have hby := Bd.bytes
  have hml : c.maxLocals = 11 := hml0
  have hown : s.vm.findClass "dev/driftline/HeapReserveBytesPinLaw" = some m.cls := findClass_of_methodNamed Bd.named
  have hnm := (name_of_methodNamed Bd.named Bd.method).1
  have X0 : Stand p l e ({ frames := 0, cells := 0, slots := 0, locals := 0 } : Room) s m #[(.long q1), (.long q2)] below meth c s₁ [] 0 0 := Stand.of_body Bd
  have e0 : s₁.heap = h0 := by rw [← hh, Bd.state]; rfl
  have N0 := Fr.nil n0
  have pre0 : ∀ t, Steps p.tables e below (s₁.setTop (mkF m 0 #[.val (.long q1), .second, .val (.long q2), .second, .unset, .unset, .unset, .unset, .unset, .unset, .unset] [])) t → Steps p.tables e below (s₁.setTop (entryFrame m #[(.long q1), (.long q2)] 11)) t := fun t k => castTop (ef_4 m q1 q2) k
  obtain ⟨fs, hr, hrun, hended, hW, hsame⟩ := X0.leave (v := some (.long (16777216 : Int64))) (fun h => by rw [Bd.returns] at h; cases h)
  refine ⟨_, _, pre0 _ ?_, hrun, hended, _, _, rfl, ?_, ⟨_, rfl⟩, hW, hsame.mono (by decide) (by decide)⟩
  · show Steps p.tables e below (s₁.setTop (mkF m 0 #[.val (.long q1), .second, .val (.long q2), .second, .unset, .unset, .unset, .unset, .unset, .unset, .unset] [])) _
    refine XS.lloadN X0.here hx rfl (hb hby d4_0) rfl ?_
    show Steps p.tables e below (s₁.setTop (mkF m 1 #[.val (.long q1), .second, .val (.long q2), .second, .unset, .unset, .unset, .unset, .unset, .unset, .unset] [(.long q2)])) _
    refine XS.lconst X0.here hx rfl (hb hby d4_1) ?_
    show Steps p.tables e below (s₁.setTop (mkF m 2 #[.val (.long q1), .second, .val (.long q2), .second, .unset, .unset, .unset, .unset, .unset, .unset, .unset] [(.long (0 : Int64)), (.long q2)])) _
    refine XS.lcmp X0.here hx rfl (hb hby d4_2) rfl ?_
    show Steps p.tables e below (s₁.setTop (mkF m 3 #[.val (.long q1), .second, .val (.long q2), .second, .unset, .unset, .unset, .unset, .unset, .unset, .unset] [(.int (lcmpW q2 (0 : Int64)))])) _
    refine XS.ifNo X0.here hx rfl (hb hby d4_3) rfl ((if0 _ _).trans (tlt hc3).2.2.2) ?_
    show Steps p.tables e below (s₁.setTop (mkF m 6 #[.val (.long q1), .second, .val (.long q2), .second, .unset, .unset, .unset, .unset, .unset, .unset, .unset] [])) _
    refine XS.lloadN X0.here hx rfl (hb hby d4_6) rfl ?_
    show Steps p.tables e below (s₁.setTop (mkF m 7 #[.val (.long q1), .second, .val (.long q2), .second, .unset, .unset, .unset, .unset, .unset, .unset, .unset] [(.long q2)])) _
    refine X0.ldc2Long hx hown (mvT hZ (hw _ (List.mem_of_getElem? (i := 25) rfl))) (g := (mkF m 7 #[.val (.long q1), .second, .val (.long q2), .second, .unset, .unset, .unset, .unset, .unset, .unset, .unset] [(.long q2)])) rfl (hb hby d4_7) _ ?_
    show Steps p.tables e below (s₁.setTop (mkF m 10 #[.val (.long q1), .second, .val (.long q2), .second, .unset, .unset, .unset, .unset, .unset, .unset, .unset] [(.long (1152921504606846975 : Int64)), (.long q2)])) _
    refine XS.lcmp X0.here hx rfl (hb hby d4_10) rfl ?_
    show Steps p.tables e below (s₁.setTop (mkF m 11 #[.val (.long q1), .second, .val (.long q2), .second, .unset, .unset, .unset, .unset, .unset, .unset, .unset] [(.int (lcmpW q2 (1152921504606846975 : Int64)))])) _
    refine XS.ifNo X0.here hx rfl (hb hby d4_11) rfl ((if0 _ _).trans (flt hc11).2.2.1) ?_
    show Steps p.tables e below (s₁.setTop (mkF m 14 #[.val (.long q1), .second, .val (.long q2), .second, .unset, .unset, .unset, .unset, .unset, .unset, .unset] [])) _
    refine XS.lloadN X0.here hx rfl (hb hby d4_14) rfl ?_
    show Steps p.tables e below (s₁.setTop (mkF m 15 #[.val (.long q1), .second, .val (.long q2), .second, .unset, .unset, .unset, .unset, .unset, .unset, .unset] [(.long q1)])) _
    refine XS.lloadN X0.here hx rfl (hb hby d4_15) rfl ?_
    show Steps p.tables e below (s₁.setTop (mkF m 16 #[.val (.long q1), .second, .val (.long q2), .second, .unset, .unset, .unset, .unset, .unset, .unset, .unset] [(.long q2), (.long q1)])) _
    refine X0.ldc2Long hx hown (mvT hZ (hw _ (List.mem_of_getElem? (i := 22) rfl))) (g := (mkF m 16 #[.val (.long q1), .second, .val (.long q2), .second, .unset, .unset, .unset, .unset, .unset, .unset, .unset] [(.long q2), (.long q1)])) rfl (hb hby d4_16) _ ?_
    show Steps p.tables e below (s₁.setTop (mkF m 19 #[.val (.long q1), .second, .val (.long q2), .second, .unset, .unset, .unset, .unset, .unset, .unset, .unset] [(.long (8 : Int64)), (.long q2), (.long q1)])) _
    refine XS.lmul X0.here hx rfl (hb hby d4_19) rfl ?_
    show Steps p.tables e below (s₁.setTop (mkF m 20 #[.val (.long q1), .second, .val (.long q2), .second, .unset, .unset, .unset, .unset, .unset, .unset, .unset] [(.long (q2 * (8 : Int64))), (.long q1)])) _
    refine XS.lcmp X0.here hx rfl (hb hby d4_20) rfl ?_
    show Steps p.tables e below (s₁.setTop (mkF m 21 #[.val (.long q1), .second, .val (.long q2), .second, .unset, .unset, .unset, .unset, .unset, .unset, .unset] [(.int (lcmpW q1 (q2 * (8 : Int64))))])) _
    refine XS.ifYes X0.here hx rfl (pc0 := 21) (pc' := 28) rfl (hb hby d4_21) rfl ((if0 _ _).trans (flt hc21).2.1) (by decide) (by decide) ?_
    show Steps p.tables e below (s₁.setTop (mkF m 28 #[.val (.long q1), .second, .val (.long q2), .second, .unset, .unset, .unset, .unset, .unset, .unset, .unset] [])) _
    refine XS.iconst X0.here hx rfl (hb hby d4_28) ?_
    show Steps p.tables e below (s₁.setTop (mkF m 29 #[.val (.long q1), .second, .val (.long q2), .second, .unset, .unset, .unset, .unset, .unset, .unset, .unset] [(.int (0 : Int32))])) _
    refine XS.istore X0.here hx rfl (hb hby d4_29) rfl (l' := #[.val (.long q1), .second, .val (.long q2), .second, .val (.int (0 : Int32)), .unset, .unset, .unset, .unset, .unset, .unset]) rfl ?_
    show Steps p.tables e below (s₁.setTop (mkF m 31 #[.val (.long q1), .second, .val (.long q2), .second, .val (.int (0 : Int32)), .unset, .unset, .unset, .unset, .unset, .unset] [])) _
    refine XS.iload X0.here hx rfl (hb hby d4_31) rfl ?_
    show Steps p.tables e below (s₁.setTop (mkF m 33 #[.val (.long q1), .second, .val (.long q2), .second, .val (.int (0 : Int32)), .unset, .unset, .unset, .unset, .unset, .unset] [(.int (0 : Int32))])) _
    refine XS.ifYes X0.here hx rfl (pc0 := 33) (pc' := 38) rfl (hb hby d4_33) rfl ((if0 _ _).trans (teq (rfl : (0 : Int32) = (0 : Int32))).1) (by decide) (by decide) ?_
    show Steps p.tables e below (s₁.setTop (mkF m 38 #[.val (.long q1), .second, .val (.long q2), .second, .val (.int (0 : Int32)), .unset, .unset, .unset, .unset, .unset, .unset] [])) _
    refine XS.lloadN X0.here hx rfl (hb hby d4_38) rfl ?_
    show Steps p.tables e below (s₁.setTop (mkF m 39 #[.val (.long q1), .second, .val (.long q2), .second, .val (.int (0 : Int32)), .unset, .unset, .unset, .unset, .unset, .unset] [(.long q1)])) _
    refine X0.ldc2Long hx hown (mvT hZ (hw _ (List.mem_of_getElem? (i := 19) rfl))) (g := (mkF m 39 #[.val (.long q1), .second, .val (.long q2), .second, .val (.int (0 : Int32)), .unset, .unset, .unset, .unset, .unset, .unset] [(.long q1)])) rfl (hb hby d4_39) _ ?_
    show Steps p.tables e below (s₁.setTop (mkF m 42 #[.val (.long q1), .second, .val (.long q2), .second, .val (.int (0 : Int32)), .unset, .unset, .unset, .unset, .unset, .unset] [(.long (256 : Int64)), (.long q1)])) _
    refine XS.ldiv X0.here hx rfl (hb hby d4_42) rfl (by decide) ?_
    show Steps p.tables e below (s₁.setTop (mkF m 43 #[.val (.long q1), .second, .val (.long q2), .second, .val (.int (0 : Int32)), .unset, .unset, .unset, .unset, .unset, .unset] [(.long (q1 / (256 : Int64)))])) _
    refine XS.lstore X0.here hx rfl (hb hby d4_43) rfl (l' := #[.val (.long q1), .second, .val (.long q2), .second, .val (.int (0 : Int32)), .val (.long (q1 / (256 : Int64))), .second, .unset, .unset, .unset, .unset]) rfl ?_
    show Steps p.tables e below (s₁.setTop (mkF m 45 #[.val (.long q1), .second, .val (.long q2), .second, .val (.int (0 : Int32)), .val (.long (q1 / (256 : Int64))), .second, .unset, .unset, .unset, .unset] [])) _
    refine XS.lload X0.here hx rfl (hb hby d4_45) rfl ?_
    show Steps p.tables e below (s₁.setTop (mkF m 47 #[.val (.long q1), .second, .val (.long q2), .second, .val (.int (0 : Int32)), .val (.long (q1 / (256 : Int64))), .second, .unset, .unset, .unset, .unset] [(.long (q1 / (256 : Int64)))])) _
    refine X0.ldc2Long hx hown (mvT hZ (hw _ (List.mem_of_getElem? (i := 20) rfl))) (g := (mkF m 47 #[.val (.long q1), .second, .val (.long q2), .second, .val (.int (0 : Int32)), .val (.long (q1 / (256 : Int64))), .second, .unset, .unset, .unset, .unset] [(.long (q1 / (256 : Int64)))])) rfl (hb hby d4_47) _ ?_
    show Steps p.tables e below (s₁.setTop (mkF m 50 #[.val (.long q1), .second, .val (.long q2), .second, .val (.int (0 : Int32)), .val (.long (q1 / (256 : Int64))), .second, .unset, .unset, .unset, .unset] [(.long (524288 : Int64)), (.long (q1 / (256 : Int64)))])) _
    refine XS.lcmp X0.here hx rfl (hb hby d4_50) rfl ?_
    show Steps p.tables e below (s₁.setTop (mkF m 51 #[.val (.long q1), .second, .val (.long q2), .second, .val (.int (0 : Int32)), .val (.long (q1 / (256 : Int64))), .second, .unset, .unset, .unset, .unset] [(.int (lcmpW (q1 / (256 : Int64)) (524288 : Int64)))])) _
    refine XS.ifYes X0.here hx rfl (pc0 := 51) (pc' := 62) rfl (hb hby d4_51) rfl ((if0 _ _).trans (flt hc51).2.1) (by decide) (by decide) ?_
    show Steps p.tables e below (s₁.setTop (mkF m 62 #[.val (.long q1), .second, .val (.long q2), .second, .val (.int (0 : Int32)), .val (.long (q1 / (256 : Int64))), .second, .unset, .unset, .unset, .unset] [])) _
    refine XS.lload X0.here hx rfl (hb hby d4_62) rfl ?_
    show Steps p.tables e below (s₁.setTop (mkF m 64 #[.val (.long q1), .second, .val (.long q2), .second, .val (.int (0 : Int32)), .val (.long (q1 / (256 : Int64))), .second, .unset, .unset, .unset, .unset] [(.long (q1 / (256 : Int64)))])) _
    refine X0.ldc2Long hx hown (mvT hZ (hw _ (List.mem_of_getElem? (i := 26) rfl))) (g := (mkF m 64 #[.val (.long q1), .second, .val (.long q2), .second, .val (.int (0 : Int32)), .val (.long (q1 / (256 : Int64))), .second, .unset, .unset, .unset, .unset] [(.long (q1 / (256 : Int64)))])) rfl (hb hby d4_64) _ ?_
    show Steps p.tables e below (s₁.setTop (mkF m 67 #[.val (.long q1), .second, .val (.long q2), .second, .val (.int (0 : Int32)), .val (.long (q1 / (256 : Int64))), .second, .unset, .unset, .unset, .unset] [(.long (16777216 : Int64)), (.long (q1 / (256 : Int64)))])) _
    refine XS.lcmp X0.here hx rfl (hb hby d4_67) rfl ?_
    show Steps p.tables e below (s₁.setTop (mkF m 68 #[.val (.long q1), .second, .val (.long q2), .second, .val (.int (0 : Int32)), .val (.long (q1 / (256 : Int64))), .second, .unset, .unset, .unset, .unset] [(.int (lcmpW (q1 / (256 : Int64)) (16777216 : Int64)))])) _
    refine XS.ifNo X0.here hx rfl (hb hby d4_68) rfl ((if0 _ _).trans (tlt hc68).2.2.2) ?_
    show Steps p.tables e below (s₁.setTop (mkF m 71 #[.val (.long q1), .second, .val (.long q2), .second, .val (.int (0 : Int32)), .val (.long (q1 / (256 : Int64))), .second, .unset, .unset, .unset, .unset] [])) _
    refine X0.ldc2Long hx hown (mvT hZ (hw _ (List.mem_of_getElem? (i := 26) rfl))) (g := (mkF m 71 #[.val (.long q1), .second, .val (.long q2), .second, .val (.int (0 : Int32)), .val (.long (q1 / (256 : Int64))), .second, .unset, .unset, .unset, .unset] [])) rfl (hb hby d4_71) _ ?_
    show Steps p.tables e below (s₁.setTop (mkF m 74 #[.val (.long q1), .second, .val (.long q2), .second, .val (.int (0 : Int32)), .val (.long (q1 / (256 : Int64))), .second, .unset, .unset, .unset, .unset] [(.long (16777216 : Int64))])) _
    refine XS.lstore X0.here hx rfl (hb hby d4_74) rfl (l' := #[.val (.long q1), .second, .val (.long q2), .second, .val (.int (0 : Int32)), .val (.long (q1 / (256 : Int64))), .second, .val (.long (16777216 : Int64)), .second, .unset, .unset]) rfl ?_
    show Steps p.tables e below (s₁.setTop (mkF m 76 #[.val (.long q1), .second, .val (.long q2), .second, .val (.int (0 : Int32)), .val (.long (q1 / (256 : Int64))), .second, .val (.long (16777216 : Int64)), .second, .unset, .unset] [])) _
    refine XS.goto X0.here hx rfl (pc0 := 76) (pc' := 83) rfl (hb hby d4_76) (by decide) (by decide) ?_
    show Steps p.tables e below (s₁.setTop (mkF m 83 #[.val (.long q1), .second, .val (.long q2), .second, .val (.int (0 : Int32)), .val (.long (q1 / (256 : Int64))), .second, .val (.long (16777216 : Int64)), .second, .unset, .unset] [])) _
    refine XS.lloadN X0.here hx rfl (hb hby d4_83) rfl ?_
    show Steps p.tables e below (s₁.setTop (mkF m 84 #[.val (.long q1), .second, .val (.long q2), .second, .val (.int (0 : Int32)), .val (.long (q1 / (256 : Int64))), .second, .val (.long (16777216 : Int64)), .second, .unset, .unset] [(.long q2)])) _
    refine X0.ldc2Long hx hown (mvT hZ (hw _ (List.mem_of_getElem? (i := 21) rfl))) (g := (mkF m 84 #[.val (.long q1), .second, .val (.long q2), .second, .val (.int (0 : Int32)), .val (.long (q1 / (256 : Int64))), .second, .val (.long (16777216 : Int64)), .second, .unset, .unset] [(.long q2)])) rfl (hb hby d4_84) _ ?_
    show Steps p.tables e below (s₁.setTop (mkF m 87 #[.val (.long q1), .second, .val (.long q2), .second, .val (.int (0 : Int32)), .val (.long (q1 / (256 : Int64))), .second, .val (.long (16777216 : Int64)), .second, .unset, .unset] [(.long (2 : Int64)), (.long q2)])) _
    refine XS.ldiv X0.here hx rfl (hb hby d4_87) rfl (by decide) ?_
    show Steps p.tables e below (s₁.setTop (mkF m 88 #[.val (.long q1), .second, .val (.long q2), .second, .val (.int (0 : Int32)), .val (.long (q1 / (256 : Int64))), .second, .val (.long (16777216 : Int64)), .second, .unset, .unset] [(.long (q2 / (2 : Int64)))])) _
    refine XS.lstore X0.here hx rfl (hb hby d4_88) rfl (l' := #[.val (.long q1), .second, .val (.long q2), .second, .val (.int (0 : Int32)), .val (.long (q1 / (256 : Int64))), .second, .val (.long (16777216 : Int64)), .second, .val (.long (q2 / (2 : Int64))), .second]) rfl ?_
    show Steps p.tables e below (s₁.setTop (mkF m 90 #[.val (.long q1), .second, .val (.long q2), .second, .val (.int (0 : Int32)), .val (.long (q1 / (256 : Int64))), .second, .val (.long (16777216 : Int64)), .second, .val (.long (q2 / (2 : Int64))), .second] [])) _
    refine XS.lload X0.here hx rfl (hb hby d4_90) rfl ?_
    show Steps p.tables e below (s₁.setTop (mkF m 92 #[.val (.long q1), .second, .val (.long q2), .second, .val (.int (0 : Int32)), .val (.long (q1 / (256 : Int64))), .second, .val (.long (16777216 : Int64)), .second, .val (.long (q2 / (2 : Int64))), .second] [(.long (q2 / (2 : Int64)))])) _
    refine XS.lload X0.here hx rfl (hb hby d4_92) rfl ?_
    show Steps p.tables e below (s₁.setTop (mkF m 94 #[.val (.long q1), .second, .val (.long q2), .second, .val (.int (0 : Int32)), .val (.long (q1 / (256 : Int64))), .second, .val (.long (16777216 : Int64)), .second, .val (.long (q2 / (2 : Int64))), .second] [(.long (16777216 : Int64)), (.long (q2 / (2 : Int64)))])) _
    refine XS.lcmp X0.here hx rfl (hb hby d4_94) rfl ?_
    show Steps p.tables e below (s₁.setTop (mkF m 95 #[.val (.long q1), .second, .val (.long q2), .second, .val (.int (0 : Int32)), .val (.long (q1 / (256 : Int64))), .second, .val (.long (16777216 : Int64)), .second, .val (.long (q2 / (2 : Int64))), .second] [(.int (lcmpW (q2 / (2 : Int64)) (16777216 : Int64)))])) _
    refine XS.ifYes X0.here hx rfl (pc0 := 95) (pc' := 101) rfl (hb hby d4_95) rfl ((if0 _ _).trans (flt hc95).2.2.2) (by decide) (by decide) ?_
    show Steps p.tables e below (s₁.setTop (mkF m 101 #[.val (.long q1), .second, .val (.long q2), .second, .val (.int (0 : Int32)), .val (.long (q1 / (256 : Int64))), .second, .val (.long (16777216 : Int64)), .second, .val (.long (q2 / (2 : Int64))), .second] [])) _
    refine XS.lload X0.here hx rfl (hb hby d4_101) rfl ?_
    show Steps p.tables e below (s₁.setTop (mkF m 103 #[.val (.long q1), .second, .val (.long q2), .second, .val (.int (0 : Int32)), .val (.long (q1 / (256 : Int64))), .second, .val (.long (16777216 : Int64)), .second, .val (.long (q2 / (2 : Int64))), .second] [(.long (16777216 : Int64))])) _
    jvm_step X0.here [X0.here.top, hx, (hb hby d4_103), X0.method', Bd.returns, narrow]
    first | (intro acts; rw [hr _ acts rfl rfl rfl]) | rw [hr _ _ rfl rfl rfl]
    exact Steps.refl _
  · show Q_rm4 Z q1 q2 h0 n0 _ s₁.heap _
    exact ⟨by rw [F4, if_pos hc3, if_neg hc11, if_neg hc21, if_neg hc51, if_pos hc68, if_neg hc95], N0, e0⟩
set_option maxRecDepth 65536 in
set_option maxHeartbeats 40000000 in
theorem rm4_fftttf (l : Launch) (Z : State) (a0 : Array Value) (hw : ∀ d ∈ tables_1, d.before a0 Z = true) (ws : List Jvm.Cond) (q1 : Int64) (q2 : Int64) (h0 : Heap) (n0 : Nat) (Z0 : n0 ≤ h0.size) (hc3 : (0 : Int32) < (lcmpW q2 (0 : Int64))) (hc11 : ¬ ((0 : Int32) < (lcmpW q2 (1152921504606846975 : Int64)))) (hc21 : ¬ ((lcmpW q1 (q2 * (8 : Int64))) < (0 : Int32))) (hc51 : ¬ ((lcmpW (q1 / (256 : Int64)) (524288 : Int64)) < (0 : Int32))) (hc68 : ¬ ((0 : Int32) < (lcmpW (q1 / (256 : Int64)) (16777216 : Int64)))) (hc95 : (0 : Int32) < (lcmpW (q2 / (2 : Int64)) (q1 / (256 : Int64)))) :
    MetFree l (⟨"dev/driftline/HeapReserveBytesPinLaw", "expected", "(JJ)J"⟩ : MethodName) (head1 (Jvm.Cond.code (⟨"dev/driftline/HeapReserveBytesPinLaw", "expected", "(JJ)J"⟩ : MethodName) method_3_code 11 (some .long) :: ws) ({ frames := 0, cells := 0, slots := 0, locals := 0 } : Room)) (fun a U => a = #[(.long q1), (.long q2)] ∧ Z.Warmed39 U.vm ∧ U.heap = h0) (fun _ _ _ _ _ => True) (fun _ U o U' => ∃ v L, o = .returned v ∧ Q_rm4 Z q1 q2 h0 n0 v U'.heap L ∧ FrameEnd U o U' L ({ frames := 0, cells := 0, slots := 0, locals := 0 } : Room).cells ({ frames := 0, cells := 0, slots := 0, locals := 0 } : Room).slots) := by
  refine MetFree.of_bodySF (plainFor_of_name pn_4) hisR ?_
  intro p e s m args below meth c s₁ Bd hml0 hP hK
  obtain ⟨rfl, hZ, hh⟩ := hP
  have hx := Bd.exec
  have hby := Bd.bytes
  have hml : c.maxLocals = 11 := hml0
  have hown : s.vm.findClass "dev/driftline/HeapReserveBytesPinLaw" = some m.cls := findClass_of_methodNamed Bd.named
  have hnm := (name_of_methodNamed Bd.named Bd.method).1
  have X0 : Stand p l e ({ frames := 0, cells := 0, slots := 0, locals := 0 } : Room) s m #[(.long q1), (.long q2)] below meth c s₁ [] 0 0 := Stand.of_body Bd
  have e0 : s₁.heap = h0 := by rw [← hh, Bd.state]; rfl
  have N0 := Fr.nil n0
  have pre0 : ∀ t, Steps p.tables e below (s₁.setTop (mkF m 0 #[.val (.long q1), .second, .val (.long q2), .second, .unset, .unset, .unset, .unset, .unset, .unset, .unset] [])) t → Steps p.tables e below (s₁.setTop (entryFrame m #[(.long q1), (.long q2)] 11)) t := fun t k => castTop (ef_4 m q1 q2) k
  obtain ⟨fs, hr, hrun, hended, hW, hsame⟩ := X0.leave (v := some (.long (q2 / (2 : Int64)))) (fun h => by rw [Bd.returns] at h; cases h)
  refine ⟨_, _, pre0 _ ?_, hrun, hended, _, _, rfl, ?_, ⟨_, rfl⟩, hW, hsame.mono (by decide) (by decide)⟩
  · show Steps p.tables e below (s₁.setTop (mkF m 0 #[.val (.long q1), .second, .val (.long q2), .second, .unset, .unset, .unset, .unset, .unset, .unset, .unset] [])) _
    refine XS.lloadN X0.here hx rfl (hb hby d4_0) rfl ?_
    show Steps p.tables e below (s₁.setTop (mkF m 1 #[.val (.long q1), .second, .val (.long q2), .second, .unset, .unset, .unset, .unset, .unset, .unset, .unset] [(.long q2)])) _
    refine XS.lconst X0.here hx rfl (hb hby d4_1) ?_
    show Steps p.tables e below (s₁.setTop (mkF m 2 #[.val (.long q1), .second, .val (.long q2), .second, .unset, .unset, .unset, .unset, .unset, .unset, .unset] [(.long (0 : Int64)), (.long q2)])) _
    refine XS.lcmp X0.here hx rfl (hb hby d4_2) rfl ?_
    show Steps p.tables e below (s₁.setTop (mkF m 3 #[.val (.long q1), .second, .val (.long q2), .second, .unset, .unset, .unset, .unset, .unset, .unset, .unset] [(.int (lcmpW q2 (0 : Int64)))])) _
    refine XS.ifNo X0.here hx rfl (hb hby d4_3) rfl ((if0 _ _).trans (tlt hc3).2.2.2) ?_
    show Steps p.tables e below (s₁.setTop (mkF m 6 #[.val (.long q1), .second, .val (.long q2), .second, .unset, .unset, .unset, .unset, .unset, .unset, .unset] [])) _
    refine XS.lloadN X0.here hx rfl (hb hby d4_6) rfl ?_
    show Steps p.tables e below (s₁.setTop (mkF m 7 #[.val (.long q1), .second, .val (.long q2), .second, .unset, .unset, .unset, .unset, .unset, .unset, .unset] [(.long q2)])) _
    refine X0.ldc2Long hx hown (mvT hZ (hw _ (List.mem_of_getElem? (i := 25) rfl))) (g := (mkF m 7 #[.val (.long q1), .second, .val (.long q2), .second, .unset, .unset, .unset, .unset, .unset, .unset, .unset] [(.long q2)])) rfl (hb hby d4_7) _ ?_
    show Steps p.tables e below (s₁.setTop (mkF m 10 #[.val (.long q1), .second, .val (.long q2), .second, .unset, .unset, .unset, .unset, .unset, .unset, .unset] [(.long (1152921504606846975 : Int64)), (.long q2)])) _
    refine XS.lcmp X0.here hx rfl (hb hby d4_10) rfl ?_
    show Steps p.tables e below (s₁.setTop (mkF m 11 #[.val (.long q1), .second, .val (.long q2), .second, .unset, .unset, .unset, .unset, .unset, .unset, .unset] [(.int (lcmpW q2 (1152921504606846975 : Int64)))])) _
    refine XS.ifNo X0.here hx rfl (hb hby d4_11) rfl ((if0 _ _).trans (flt hc11).2.2.1) ?_
    show Steps p.tables e below (s₁.setTop (mkF m 14 #[.val (.long q1), .second, .val (.long q2), .second, .unset, .unset, .unset, .unset, .unset, .unset, .unset] [])) _
    refine XS.lloadN X0.here hx rfl (hb hby d4_14) rfl ?_
    show Steps p.tables e below (s₁.setTop (mkF m 15 #[.val (.long q1), .second, .val (.long q2), .second, .unset, .unset, .unset, .unset, .unset, .unset, .unset] [(.long q1)])) _
    refine XS.lloadN X0.here hx rfl (hb hby d4_15) rfl ?_
    show Steps p.tables e below (s₁.setTop (mkF m 16 #[.val (.long q1), .second, .val (.long q2), .second, .unset, .unset, .unset, .unset, .unset, .unset, .unset] [(.long q2), (.long q1)])) _
    refine X0.ldc2Long hx hown (mvT hZ (hw _ (List.mem_of_getElem? (i := 22) rfl))) (g := (mkF m 16 #[.val (.long q1), .second, .val (.long q2), .second, .unset, .unset, .unset, .unset, .unset, .unset, .unset] [(.long q2), (.long q1)])) rfl (hb hby d4_16) _ ?_
    show Steps p.tables e below (s₁.setTop (mkF m 19 #[.val (.long q1), .second, .val (.long q2), .second, .unset, .unset, .unset, .unset, .unset, .unset, .unset] [(.long (8 : Int64)), (.long q2), (.long q1)])) _
    refine XS.lmul X0.here hx rfl (hb hby d4_19) rfl ?_
    show Steps p.tables e below (s₁.setTop (mkF m 20 #[.val (.long q1), .second, .val (.long q2), .second, .unset, .unset, .unset, .unset, .unset, .unset, .unset] [(.long (q2 * (8 : Int64))), (.long q1)])) _
    refine XS.lcmp X0.here hx rfl (hb hby d4_20) rfl ?_
    show Steps p.tables e below (s₁.setTop (mkF m 21 #[.val (.long q1), .second, .val (.long q2), .second, .unset, .unset, .unset, .unset, .unset, .unset, .unset] [(.int (lcmpW q1 (q2 * (8 : Int64))))])) _
    refine XS.ifYes X0.here hx rfl (pc0 := 21) (pc' := 28) rfl (hb hby d4_21) rfl ((if0 _ _).trans (flt hc21).2.1) (by decide) (by decide) ?_
    show Steps p.tables e below (s₁.setTop (mkF m 28 #[.val (.long q1), .second, .val (.long q2), .second, .unset, .unset, .unset, .unset, .unset, .unset, .unset] [])) _
    refine XS.iconst X0.here hx rfl (hb hby d4_28) ?_
    show Steps p.tables e below (s₁.setTop (mkF m 29 #[.val (.long q1), .second, .val (.long q2), .second, .unset, .unset, .unset, .unset, .unset, .unset, .unset] [(.int (0 : Int32))])) _
    refine XS.istore X0.here hx rfl (hb hby d4_29) rfl (l' := #[.val (.long q1), .second, .val (.long q2), .second, .val (.int (0 : Int32)), .unset, .unset, .unset, .unset, .unset, .unset]) rfl ?_
    show Steps p.tables e below (s₁.setTop (mkF m 31 #[.val (.long q1), .second, .val (.long q2), .second, .val (.int (0 : Int32)), .unset, .unset, .unset, .unset, .unset, .unset] [])) _
    refine XS.iload X0.here hx rfl (hb hby d4_31) rfl ?_
    show Steps p.tables e below (s₁.setTop (mkF m 33 #[.val (.long q1), .second, .val (.long q2), .second, .val (.int (0 : Int32)), .unset, .unset, .unset, .unset, .unset, .unset] [(.int (0 : Int32))])) _
    refine XS.ifYes X0.here hx rfl (pc0 := 33) (pc' := 38) rfl (hb hby d4_33) rfl ((if0 _ _).trans (teq (rfl : (0 : Int32) = (0 : Int32))).1) (by decide) (by decide) ?_
    show Steps p.tables e below (s₁.setTop (mkF m 38 #[.val (.long q1), .second, .val (.long q2), .second, .val (.int (0 : Int32)), .unset, .unset, .unset, .unset, .unset, .unset] [])) _
    refine XS.lloadN X0.here hx rfl (hb hby d4_38) rfl ?_
    show Steps p.tables e below (s₁.setTop (mkF m 39 #[.val (.long q1), .second, .val (.long q2), .second, .val (.int (0 : Int32)), .unset, .unset, .unset, .unset, .unset, .unset] [(.long q1)])) _
    refine X0.ldc2Long hx hown (mvT hZ (hw _ (List.mem_of_getElem? (i := 19) rfl))) (g := (mkF m 39 #[.val (.long q1), .second, .val (.long q2), .second, .val (.int (0 : Int32)), .unset, .unset, .unset, .unset, .unset, .unset] [(.long q1)])) rfl (hb hby d4_39) _ ?_
    show Steps p.tables e below (s₁.setTop (mkF m 42 #[.val (.long q1), .second, .val (.long q2), .second, .val (.int (0 : Int32)), .unset, .unset, .unset, .unset, .unset, .unset] [(.long (256 : Int64)), (.long q1)])) _
    refine XS.ldiv X0.here hx rfl (hb hby d4_42) rfl (by decide) ?_
    show Steps p.tables e below (s₁.setTop (mkF m 43 #[.val (.long q1), .second, .val (.long q2), .second, .val (.int (0 : Int32)), .unset, .unset, .unset, .unset, .unset, .unset] [(.long (q1 / (256 : Int64)))])) _
    refine XS.lstore X0.here hx rfl (hb hby d4_43) rfl (l' := #[.val (.long q1), .second, .val (.long q2), .second, .val (.int (0 : Int32)), .val (.long (q1 / (256 : Int64))), .second, .unset, .unset, .unset, .unset]) rfl ?_
    show Steps p.tables e below (s₁.setTop (mkF m 45 #[.val (.long q1), .second, .val (.long q2), .second, .val (.int (0 : Int32)), .val (.long (q1 / (256 : Int64))), .second, .unset, .unset, .unset, .unset] [])) _
    refine XS.lload X0.here hx rfl (hb hby d4_45) rfl ?_
    show Steps p.tables e below (s₁.setTop (mkF m 47 #[.val (.long q1), .second, .val (.long q2), .second, .val (.int (0 : Int32)), .val (.long (q1 / (256 : Int64))), .second, .unset, .unset, .unset, .unset] [(.long (q1 / (256 : Int64)))])) _
    refine X0.ldc2Long hx hown (mvT hZ (hw _ (List.mem_of_getElem? (i := 20) rfl))) (g := (mkF m 47 #[.val (.long q1), .second, .val (.long q2), .second, .val (.int (0 : Int32)), .val (.long (q1 / (256 : Int64))), .second, .unset, .unset, .unset, .unset] [(.long (q1 / (256 : Int64)))])) rfl (hb hby d4_47) _ ?_
    show Steps p.tables e below (s₁.setTop (mkF m 50 #[.val (.long q1), .second, .val (.long q2), .second, .val (.int (0 : Int32)), .val (.long (q1 / (256 : Int64))), .second, .unset, .unset, .unset, .unset] [(.long (524288 : Int64)), (.long (q1 / (256 : Int64)))])) _
    refine XS.lcmp X0.here hx rfl (hb hby d4_50) rfl ?_
    show Steps p.tables e below (s₁.setTop (mkF m 51 #[.val (.long q1), .second, .val (.long q2), .second, .val (.int (0 : Int32)), .val (.long (q1 / (256 : Int64))), .second, .unset, .unset, .unset, .unset] [(.int (lcmpW (q1 / (256 : Int64)) (524288 : Int64)))])) _
    refine XS.ifYes X0.here hx rfl (pc0 := 51) (pc' := 62) rfl (hb hby d4_51) rfl ((if0 _ _).trans (flt hc51).2.1) (by decide) (by decide) ?_
    show Steps p.tables e below (s₁.setTop (mkF m 62 #[.val (.long q1), .second, .val (.long q2), .second, .val (.int (0 : Int32)), .val (.long (q1 / (256 : Int64))), .second, .unset, .unset, .unset, .unset] [])) _
    refine XS.lload X0.here hx rfl (hb hby d4_62) rfl ?_
    show Steps p.tables e below (s₁.setTop (mkF m 64 #[.val (.long q1), .second, .val (.long q2), .second, .val (.int (0 : Int32)), .val (.long (q1 / (256 : Int64))), .second, .unset, .unset, .unset, .unset] [(.long (q1 / (256 : Int64)))])) _
    refine X0.ldc2Long hx hown (mvT hZ (hw _ (List.mem_of_getElem? (i := 26) rfl))) (g := (mkF m 64 #[.val (.long q1), .second, .val (.long q2), .second, .val (.int (0 : Int32)), .val (.long (q1 / (256 : Int64))), .second, .unset, .unset, .unset, .unset] [(.long (q1 / (256 : Int64)))])) rfl (hb hby d4_64) _ ?_
    show Steps p.tables e below (s₁.setTop (mkF m 67 #[.val (.long q1), .second, .val (.long q2), .second, .val (.int (0 : Int32)), .val (.long (q1 / (256 : Int64))), .second, .unset, .unset, .unset, .unset] [(.long (16777216 : Int64)), (.long (q1 / (256 : Int64)))])) _
    refine XS.lcmp X0.here hx rfl (hb hby d4_67) rfl ?_
    show Steps p.tables e below (s₁.setTop (mkF m 68 #[.val (.long q1), .second, .val (.long q2), .second, .val (.int (0 : Int32)), .val (.long (q1 / (256 : Int64))), .second, .unset, .unset, .unset, .unset] [(.int (lcmpW (q1 / (256 : Int64)) (16777216 : Int64)))])) _
    refine XS.ifYes X0.here hx rfl (pc0 := 68) (pc' := 79) rfl (hb hby d4_68) rfl ((if0 _ _).trans (flt hc68).2.2.2) (by decide) (by decide) ?_
    show Steps p.tables e below (s₁.setTop (mkF m 79 #[.val (.long q1), .second, .val (.long q2), .second, .val (.int (0 : Int32)), .val (.long (q1 / (256 : Int64))), .second, .unset, .unset, .unset, .unset] [])) _
    refine XS.lload X0.here hx rfl (hb hby d4_79) rfl ?_
    show Steps p.tables e below (s₁.setTop (mkF m 81 #[.val (.long q1), .second, .val (.long q2), .second, .val (.int (0 : Int32)), .val (.long (q1 / (256 : Int64))), .second, .unset, .unset, .unset, .unset] [(.long (q1 / (256 : Int64)))])) _
    refine XS.lstore X0.here hx rfl (hb hby d4_81) rfl (l' := #[.val (.long q1), .second, .val (.long q2), .second, .val (.int (0 : Int32)), .val (.long (q1 / (256 : Int64))), .second, .val (.long (q1 / (256 : Int64))), .second, .unset, .unset]) rfl ?_
    show Steps p.tables e below (s₁.setTop (mkF m 83 #[.val (.long q1), .second, .val (.long q2), .second, .val (.int (0 : Int32)), .val (.long (q1 / (256 : Int64))), .second, .val (.long (q1 / (256 : Int64))), .second, .unset, .unset] [])) _
    refine XS.lloadN X0.here hx rfl (hb hby d4_83) rfl ?_
    show Steps p.tables e below (s₁.setTop (mkF m 84 #[.val (.long q1), .second, .val (.long q2), .second, .val (.int (0 : Int32)), .val (.long (q1 / (256 : Int64))), .second, .val (.long (q1 / (256 : Int64))), .second, .unset, .unset] [(.long q2)])) _
    refine X0.ldc2Long hx hown (mvT hZ (hw _ (List.mem_of_getElem? (i := 21) rfl))) (g := (mkF m 84 #[.val (.long q1), .second, .val (.long q2), .second, .val (.int (0 : Int32)), .val (.long (q1 / (256 : Int64))), .second, .val (.long (q1 / (256 : Int64))), .second, .unset, .unset] [(.long q2)])) rfl (hb hby d4_84) _ ?_
    show Steps p.tables e below (s₁.setTop (mkF m 87 #[.val (.long q1), .second, .val (.long q2), .second, .val (.int (0 : Int32)), .val (.long (q1 / (256 : Int64))), .second, .val (.long (q1 / (256 : Int64))), .second, .unset, .unset] [(.long (2 : Int64)), (.long q2)])) _
    refine XS.ldiv X0.here hx rfl (hb hby d4_87) rfl (by decide) ?_
    show Steps p.tables e below (s₁.setTop (mkF m 88 #[.val (.long q1), .second, .val (.long q2), .second, .val (.int (0 : Int32)), .val (.long (q1 / (256 : Int64))), .second, .val (.long (q1 / (256 : Int64))), .second, .unset, .unset] [(.long (q2 / (2 : Int64)))])) _
    refine XS.lstore X0.here hx rfl (hb hby d4_88) rfl (l' := #[.val (.long q1), .second, .val (.long q2), .second, .val (.int (0 : Int32)), .val (.long (q1 / (256 : Int64))), .second, .val (.long (q1 / (256 : Int64))), .second, .val (.long (q2 / (2 : Int64))), .second]) rfl ?_
    show Steps p.tables e below (s₁.setTop (mkF m 90 #[.val (.long q1), .second, .val (.long q2), .second, .val (.int (0 : Int32)), .val (.long (q1 / (256 : Int64))), .second, .val (.long (q1 / (256 : Int64))), .second, .val (.long (q2 / (2 : Int64))), .second] [])) _
    refine XS.lload X0.here hx rfl (hb hby d4_90) rfl ?_
    show Steps p.tables e below (s₁.setTop (mkF m 92 #[.val (.long q1), .second, .val (.long q2), .second, .val (.int (0 : Int32)), .val (.long (q1 / (256 : Int64))), .second, .val (.long (q1 / (256 : Int64))), .second, .val (.long (q2 / (2 : Int64))), .second] [(.long (q2 / (2 : Int64)))])) _
    refine XS.lload X0.here hx rfl (hb hby d4_92) rfl ?_
    show Steps p.tables e below (s₁.setTop (mkF m 94 #[.val (.long q1), .second, .val (.long q2), .second, .val (.int (0 : Int32)), .val (.long (q1 / (256 : Int64))), .second, .val (.long (q1 / (256 : Int64))), .second, .val (.long (q2 / (2 : Int64))), .second] [(.long (q1 / (256 : Int64))), (.long (q2 / (2 : Int64)))])) _
    refine XS.lcmp X0.here hx rfl (hb hby d4_94) rfl ?_
    show Steps p.tables e below (s₁.setTop (mkF m 95 #[.val (.long q1), .second, .val (.long q2), .second, .val (.int (0 : Int32)), .val (.long (q1 / (256 : Int64))), .second, .val (.long (q1 / (256 : Int64))), .second, .val (.long (q2 / (2 : Int64))), .second] [(.int (lcmpW (q2 / (2 : Int64)) (q1 / (256 : Int64))))])) _
    refine XS.ifNo X0.here hx rfl (hb hby d4_95) rfl ((if0 _ _).trans (tlt hc95).2.2.2) ?_
    show Steps p.tables e below (s₁.setTop (mkF m 98 #[.val (.long q1), .second, .val (.long q2), .second, .val (.int (0 : Int32)), .val (.long (q1 / (256 : Int64))), .second, .val (.long (q1 / (256 : Int64))), .second, .val (.long (q2 / (2 : Int64))), .second] [])) _
    refine XS.lload X0.here hx rfl (hb hby d4_98) rfl ?_
    show Steps p.tables e below (s₁.setTop (mkF m 100 #[.val (.long q1), .second, .val (.long q2), .second, .val (.int (0 : Int32)), .val (.long (q1 / (256 : Int64))), .second, .val (.long (q1 / (256 : Int64))), .second, .val (.long (q2 / (2 : Int64))), .second] [(.long (q2 / (2 : Int64)))])) _
    jvm_step X0.here [X0.here.top, hx, (hb hby d4_100), X0.method', Bd.returns, narrow]
    first | (intro acts; rw [hr _ acts rfl rfl rfl]) | rw [hr _ _ rfl rfl rfl]
    exact Steps.refl _
  · show Q_rm4 Z q1 q2 h0 n0 _ s₁.heap _
    exact ⟨by rw [F4, if_pos hc3, if_neg hc11, if_neg hc21, if_neg hc51, if_neg hc68, if_pos hc95], N0, e0⟩
set_option maxRecDepth 65536 in
set_option maxHeartbeats 40000000 in
theorem rm4_fftttt (l : Launch) (Z : State) (a0 : Array Value) (hw : ∀ d ∈ tables_1, d.before a0 Z = true) (ws : List Jvm.Cond) (q1 : Int64) (q2 : Int64) (h0 : Heap) (n0 : Nat) (Z0 : n0 ≤ h0.size) (hc3 : (0 : Int32) < (lcmpW q2 (0 : Int64))) (hc11 : ¬ ((0 : Int32) < (lcmpW q2 (1152921504606846975 : Int64)))) (hc21 : ¬ ((lcmpW q1 (q2 * (8 : Int64))) < (0 : Int32))) (hc51 : ¬ ((lcmpW (q1 / (256 : Int64)) (524288 : Int64)) < (0 : Int32))) (hc68 : ¬ ((0 : Int32) < (lcmpW (q1 / (256 : Int64)) (16777216 : Int64)))) (hc95 : ¬ ((0 : Int32) < (lcmpW (q2 / (2 : Int64)) (q1 / (256 : Int64))))) :
    MetFree l (⟨"dev/driftline/HeapReserveBytesPinLaw", "expected", "(JJ)J"⟩ : MethodName) (head1 (Jvm.Cond.code (⟨"dev/driftline/HeapReserveBytesPinLaw", "expected", "(JJ)J"⟩ : MethodName) method_3_code 11 (some .long) :: ws) ({ frames := 0, cells := 0, slots := 0, locals := 0 } : Room)) (fun a U => a = #[(.long q1), (.long q2)] ∧ Z.Warmed39 U.vm ∧ U.heap = h0) (fun _ _ _ _ _ => True) (fun _ U o U' => ∃ v L, o = .returned v ∧ Q_rm4 Z q1 q2 h0 n0 v U'.heap L ∧ FrameEnd U o U' L ({ frames := 0, cells := 0, slots := 0, locals := 0 } : Room).cells ({ frames := 0, cells := 0, slots := 0, locals := 0 } : Room).slots) := by
  refine MetFree.of_bodySF (plainFor_of_name pn_4) hisR ?_
  intro p e s m args below meth c s₁ Bd hml0 hP hK
  obtain ⟨rfl, hZ, hh⟩ := hP
  have hx := Bd.exec
  have hby := Bd.bytes
  have hml : c.maxLocals = 11 := hml0
  have hown : s.vm.findClass "dev/driftline/HeapReserveBytesPinLaw" = some m.cls := findClass_of_methodNamed Bd.named
  have hnm := (name_of_methodNamed Bd.named Bd.method).1
  have X0 : Stand p l e ({ frames := 0, cells := 0, slots := 0, locals := 0 } : Room) s m #[(.long q1), (.long q2)] below meth c s₁ [] 0 0 := Stand.of_body Bd
  have e0 : s₁.heap = h0 := by rw [← hh, Bd.state]; rfl
  have N0 := Fr.nil n0
  have pre0 : ∀ t, Steps p.tables e below (s₁.setTop (mkF m 0 #[.val (.long q1), .second, .val (.long q2), .second, .unset, .unset, .unset, .unset, .unset, .unset, .unset] [])) t → Steps p.tables e below (s₁.setTop (entryFrame m #[(.long q1), (.long q2)] 11)) t := fun t k => castTop (ef_4 m q1 q2) k
  obtain ⟨fs, hr, hrun, hended, hW, hsame⟩ := X0.leave (v := some (.long (q1 / (256 : Int64)))) (fun h => by rw [Bd.returns] at h; cases h)
  refine ⟨_, _, pre0 _ ?_, hrun, hended, _, _, rfl, ?_, ⟨_, rfl⟩, hW, hsame.mono (by decide) (by decide)⟩
  · show Steps p.tables e below (s₁.setTop (mkF m 0 #[.val (.long q1), .second, .val (.long q2), .second, .unset, .unset, .unset, .unset, .unset, .unset, .unset] [])) _
    refine XS.lloadN X0.here hx rfl (hb hby d4_0) rfl ?_
    show Steps p.tables e below (s₁.setTop (mkF m 1 #[.val (.long q1), .second, .val (.long q2), .second, .unset, .unset, .unset, .unset, .unset, .unset, .unset] [(.long q2)])) _
    refine XS.lconst X0.here hx rfl (hb hby d4_1) ?_
    show Steps p.tables e below (s₁.setTop (mkF m 2 #[.val (.long q1), .second, .val (.long q2), .second, .unset, .unset, .unset, .unset, .unset, .unset, .unset] [(.long (0 : Int64)), (.long q2)])) _
    refine XS.lcmp X0.here hx rfl (hb hby d4_2) rfl ?_
    show Steps p.tables e below (s₁.setTop (mkF m 3 #[.val (.long q1), .second, .val (.long q2), .second, .unset, .unset, .unset, .unset, .unset, .unset, .unset] [(.int (lcmpW q2 (0 : Int64)))])) _
    refine XS.ifNo X0.here hx rfl (hb hby d4_3) rfl ((if0 _ _).trans (tlt hc3).2.2.2) ?_
    show Steps p.tables e below (s₁.setTop (mkF m 6 #[.val (.long q1), .second, .val (.long q2), .second, .unset, .unset, .unset, .unset, .unset, .unset, .unset] [])) _
    refine XS.lloadN X0.here hx rfl (hb hby d4_6) rfl ?_
    show Steps p.tables e below (s₁.setTop (mkF m 7 #[.val (.long q1), .second, .val (.long q2), .second, .unset, .unset, .unset, .unset, .unset, .unset, .unset] [(.long q2)])) _
    refine X0.ldc2Long hx hown (mvT hZ (hw _ (List.mem_of_getElem? (i := 25) rfl))) (g := (mkF m 7 #[.val (.long q1), .second, .val (.long q2), .second, .unset, .unset, .unset, .unset, .unset, .unset, .unset] [(.long q2)])) rfl (hb hby d4_7) _ ?_
    show Steps p.tables e below (s₁.setTop (mkF m 10 #[.val (.long q1), .second, .val (.long q2), .second, .unset, .unset, .unset, .unset, .unset, .unset, .unset] [(.long (1152921504606846975 : Int64)), (.long q2)])) _
    refine XS.lcmp X0.here hx rfl (hb hby d4_10) rfl ?_
    show Steps p.tables e below (s₁.setTop (mkF m 11 #[.val (.long q1), .second, .val (.long q2), .second, .unset, .unset, .unset, .unset, .unset, .unset, .unset] [(.int (lcmpW q2 (1152921504606846975 : Int64)))])) _
    refine XS.ifNo X0.here hx rfl (hb hby d4_11) rfl ((if0 _ _).trans (flt hc11).2.2.1) ?_
    show Steps p.tables e below (s₁.setTop (mkF m 14 #[.val (.long q1), .second, .val (.long q2), .second, .unset, .unset, .unset, .unset, .unset, .unset, .unset] [])) _
    refine XS.lloadN X0.here hx rfl (hb hby d4_14) rfl ?_
    show Steps p.tables e below (s₁.setTop (mkF m 15 #[.val (.long q1), .second, .val (.long q2), .second, .unset, .unset, .unset, .unset, .unset, .unset, .unset] [(.long q1)])) _
    refine XS.lloadN X0.here hx rfl (hb hby d4_15) rfl ?_
    show Steps p.tables e below (s₁.setTop (mkF m 16 #[.val (.long q1), .second, .val (.long q2), .second, .unset, .unset, .unset, .unset, .unset, .unset, .unset] [(.long q2), (.long q1)])) _
    refine X0.ldc2Long hx hown (mvT hZ (hw _ (List.mem_of_getElem? (i := 22) rfl))) (g := (mkF m 16 #[.val (.long q1), .second, .val (.long q2), .second, .unset, .unset, .unset, .unset, .unset, .unset, .unset] [(.long q2), (.long q1)])) rfl (hb hby d4_16) _ ?_
    show Steps p.tables e below (s₁.setTop (mkF m 19 #[.val (.long q1), .second, .val (.long q2), .second, .unset, .unset, .unset, .unset, .unset, .unset, .unset] [(.long (8 : Int64)), (.long q2), (.long q1)])) _
    refine XS.lmul X0.here hx rfl (hb hby d4_19) rfl ?_
    show Steps p.tables e below (s₁.setTop (mkF m 20 #[.val (.long q1), .second, .val (.long q2), .second, .unset, .unset, .unset, .unset, .unset, .unset, .unset] [(.long (q2 * (8 : Int64))), (.long q1)])) _
    refine XS.lcmp X0.here hx rfl (hb hby d4_20) rfl ?_
    show Steps p.tables e below (s₁.setTop (mkF m 21 #[.val (.long q1), .second, .val (.long q2), .second, .unset, .unset, .unset, .unset, .unset, .unset, .unset] [(.int (lcmpW q1 (q2 * (8 : Int64))))])) _
    refine XS.ifYes X0.here hx rfl (pc0 := 21) (pc' := 28) rfl (hb hby d4_21) rfl ((if0 _ _).trans (flt hc21).2.1) (by decide) (by decide) ?_
    show Steps p.tables e below (s₁.setTop (mkF m 28 #[.val (.long q1), .second, .val (.long q2), .second, .unset, .unset, .unset, .unset, .unset, .unset, .unset] [])) _
    refine XS.iconst X0.here hx rfl (hb hby d4_28) ?_
    show Steps p.tables e below (s₁.setTop (mkF m 29 #[.val (.long q1), .second, .val (.long q2), .second, .unset, .unset, .unset, .unset, .unset, .unset, .unset] [(.int (0 : Int32))])) _
    refine XS.istore X0.here hx rfl (hb hby d4_29) rfl (l' := #[.val (.long q1), .second, .val (.long q2), .second, .val (.int (0 : Int32)), .unset, .unset, .unset, .unset, .unset, .unset]) rfl ?_
    show Steps p.tables e below (s₁.setTop (mkF m 31 #[.val (.long q1), .second, .val (.long q2), .second, .val (.int (0 : Int32)), .unset, .unset, .unset, .unset, .unset, .unset] [])) _
    refine XS.iload X0.here hx rfl (hb hby d4_31) rfl ?_
    show Steps p.tables e below (s₁.setTop (mkF m 33 #[.val (.long q1), .second, .val (.long q2), .second, .val (.int (0 : Int32)), .unset, .unset, .unset, .unset, .unset, .unset] [(.int (0 : Int32))])) _
    refine XS.ifYes X0.here hx rfl (pc0 := 33) (pc' := 38) rfl (hb hby d4_33) rfl ((if0 _ _).trans (teq (rfl : (0 : Int32) = (0 : Int32))).1) (by decide) (by decide) ?_
    show Steps p.tables e below (s₁.setTop (mkF m 38 #[.val (.long q1), .second, .val (.long q2), .second, .val (.int (0 : Int32)), .unset, .unset, .unset, .unset, .unset, .unset] [])) _
    refine XS.lloadN X0.here hx rfl (hb hby d4_38) rfl ?_
    show Steps p.tables e below (s₁.setTop (mkF m 39 #[.val (.long q1), .second, .val (.long q2), .second, .val (.int (0 : Int32)), .unset, .unset, .unset, .unset, .unset, .unset] [(.long q1)])) _
    refine X0.ldc2Long hx hown (mvT hZ (hw _ (List.mem_of_getElem? (i := 19) rfl))) (g := (mkF m 39 #[.val (.long q1), .second, .val (.long q2), .second, .val (.int (0 : Int32)), .unset, .unset, .unset, .unset, .unset, .unset] [(.long q1)])) rfl (hb hby d4_39) _ ?_
    show Steps p.tables e below (s₁.setTop (mkF m 42 #[.val (.long q1), .second, .val (.long q2), .second, .val (.int (0 : Int32)), .unset, .unset, .unset, .unset, .unset, .unset] [(.long (256 : Int64)), (.long q1)])) _
    refine XS.ldiv X0.here hx rfl (hb hby d4_42) rfl (by decide) ?_
    show Steps p.tables e below (s₁.setTop (mkF m 43 #[.val (.long q1), .second, .val (.long q2), .second, .val (.int (0 : Int32)), .unset, .unset, .unset, .unset, .unset, .unset] [(.long (q1 / (256 : Int64)))])) _
    refine XS.lstore X0.here hx rfl (hb hby d4_43) rfl (l' := #[.val (.long q1), .second, .val (.long q2), .second, .val (.int (0 : Int32)), .val (.long (q1 / (256 : Int64))), .second, .unset, .unset, .unset, .unset]) rfl ?_
    show Steps p.tables e below (s₁.setTop (mkF m 45 #[.val (.long q1), .second, .val (.long q2), .second, .val (.int (0 : Int32)), .val (.long (q1 / (256 : Int64))), .second, .unset, .unset, .unset, .unset] [])) _
    refine XS.lload X0.here hx rfl (hb hby d4_45) rfl ?_
    show Steps p.tables e below (s₁.setTop (mkF m 47 #[.val (.long q1), .second, .val (.long q2), .second, .val (.int (0 : Int32)), .val (.long (q1 / (256 : Int64))), .second, .unset, .unset, .unset, .unset] [(.long (q1 / (256 : Int64)))])) _
    refine X0.ldc2Long hx hown (mvT hZ (hw _ (List.mem_of_getElem? (i := 20) rfl))) (g := (mkF m 47 #[.val (.long q1), .second, .val (.long q2), .second, .val (.int (0 : Int32)), .val (.long (q1 / (256 : Int64))), .second, .unset, .unset, .unset, .unset] [(.long (q1 / (256 : Int64)))])) rfl (hb hby d4_47) _ ?_
    show Steps p.tables e below (s₁.setTop (mkF m 50 #[.val (.long q1), .second, .val (.long q2), .second, .val (.int (0 : Int32)), .val (.long (q1 / (256 : Int64))), .second, .unset, .unset, .unset, .unset] [(.long (524288 : Int64)), (.long (q1 / (256 : Int64)))])) _
    refine XS.lcmp X0.here hx rfl (hb hby d4_50) rfl ?_
    show Steps p.tables e below (s₁.setTop (mkF m 51 #[.val (.long q1), .second, .val (.long q2), .second, .val (.int (0 : Int32)), .val (.long (q1 / (256 : Int64))), .second, .unset, .unset, .unset, .unset] [(.int (lcmpW (q1 / (256 : Int64)) (524288 : Int64)))])) _
    refine XS.ifYes X0.here hx rfl (pc0 := 51) (pc' := 62) rfl (hb hby d4_51) rfl ((if0 _ _).trans (flt hc51).2.1) (by decide) (by decide) ?_
    show Steps p.tables e below (s₁.setTop (mkF m 62 #[.val (.long q1), .second, .val (.long q2), .second, .val (.int (0 : Int32)), .val (.long (q1 / (256 : Int64))), .second, .unset, .unset, .unset, .unset] [])) _
    refine XS.lload X0.here hx rfl (hb hby d4_62) rfl ?_
    show Steps p.tables e below (s₁.setTop (mkF m 64 #[.val (.long q1), .second, .val (.long q2), .second, .val (.int (0 : Int32)), .val (.long (q1 / (256 : Int64))), .second, .unset, .unset, .unset, .unset] [(.long (q1 / (256 : Int64)))])) _
    refine X0.ldc2Long hx hown (mvT hZ (hw _ (List.mem_of_getElem? (i := 26) rfl))) (g := (mkF m 64 #[.val (.long q1), .second, .val (.long q2), .second, .val (.int (0 : Int32)), .val (.long (q1 / (256 : Int64))), .second, .unset, .unset, .unset, .unset] [(.long (q1 / (256 : Int64)))])) rfl (hb hby d4_64) _ ?_
    show Steps p.tables e below (s₁.setTop (mkF m 67 #[.val (.long q1), .second, .val (.long q2), .second, .val (.int (0 : Int32)), .val (.long (q1 / (256 : Int64))), .second, .unset, .unset, .unset, .unset] [(.long (16777216 : Int64)), (.long (q1 / (256 : Int64)))])) _
    refine XS.lcmp X0.here hx rfl (hb hby d4_67) rfl ?_
    show Steps p.tables e below (s₁.setTop (mkF m 68 #[.val (.long q1), .second, .val (.long q2), .second, .val (.int (0 : Int32)), .val (.long (q1 / (256 : Int64))), .second, .unset, .unset, .unset, .unset] [(.int (lcmpW (q1 / (256 : Int64)) (16777216 : Int64)))])) _
    refine XS.ifYes X0.here hx rfl (pc0 := 68) (pc' := 79) rfl (hb hby d4_68) rfl ((if0 _ _).trans (flt hc68).2.2.2) (by decide) (by decide) ?_
    show Steps p.tables e below (s₁.setTop (mkF m 79 #[.val (.long q1), .second, .val (.long q2), .second, .val (.int (0 : Int32)), .val (.long (q1 / (256 : Int64))), .second, .unset, .unset, .unset, .unset] [])) _
    refine XS.lload X0.here hx rfl (hb hby d4_79) rfl ?_
    show Steps p.tables e below (s₁.setTop (mkF m 81 #[.val (.long q1), .second, .val (.long q2), .second, .val (.int (0 : Int32)), .val (.long (q1 / (256 : Int64))), .second, .unset, .unset, .unset, .unset] [(.long (q1 / (256 : Int64)))])) _
    refine XS.lstore X0.here hx rfl (hb hby d4_81) rfl (l' := #[.val (.long q1), .second, .val (.long q2), .second, .val (.int (0 : Int32)), .val (.long (q1 / (256 : Int64))), .second, .val (.long (q1 / (256 : Int64))), .second, .unset, .unset]) rfl ?_
    show Steps p.tables e below (s₁.setTop (mkF m 83 #[.val (.long q1), .second, .val (.long q2), .second, .val (.int (0 : Int32)), .val (.long (q1 / (256 : Int64))), .second, .val (.long (q1 / (256 : Int64))), .second, .unset, .unset] [])) _
    refine XS.lloadN X0.here hx rfl (hb hby d4_83) rfl ?_
    show Steps p.tables e below (s₁.setTop (mkF m 84 #[.val (.long q1), .second, .val (.long q2), .second, .val (.int (0 : Int32)), .val (.long (q1 / (256 : Int64))), .second, .val (.long (q1 / (256 : Int64))), .second, .unset, .unset] [(.long q2)])) _
    refine X0.ldc2Long hx hown (mvT hZ (hw _ (List.mem_of_getElem? (i := 21) rfl))) (g := (mkF m 84 #[.val (.long q1), .second, .val (.long q2), .second, .val (.int (0 : Int32)), .val (.long (q1 / (256 : Int64))), .second, .val (.long (q1 / (256 : Int64))), .second, .unset, .unset] [(.long q2)])) rfl (hb hby d4_84) _ ?_
    show Steps p.tables e below (s₁.setTop (mkF m 87 #[.val (.long q1), .second, .val (.long q2), .second, .val (.int (0 : Int32)), .val (.long (q1 / (256 : Int64))), .second, .val (.long (q1 / (256 : Int64))), .second, .unset, .unset] [(.long (2 : Int64)), (.long q2)])) _
    refine XS.ldiv X0.here hx rfl (hb hby d4_87) rfl (by decide) ?_
    show Steps p.tables e below (s₁.setTop (mkF m 88 #[.val (.long q1), .second, .val (.long q2), .second, .val (.int (0 : Int32)), .val (.long (q1 / (256 : Int64))), .second, .val (.long (q1 / (256 : Int64))), .second, .unset, .unset] [(.long (q2 / (2 : Int64)))])) _
    refine XS.lstore X0.here hx rfl (hb hby d4_88) rfl (l' := #[.val (.long q1), .second, .val (.long q2), .second, .val (.int (0 : Int32)), .val (.long (q1 / (256 : Int64))), .second, .val (.long (q1 / (256 : Int64))), .second, .val (.long (q2 / (2 : Int64))), .second]) rfl ?_
    show Steps p.tables e below (s₁.setTop (mkF m 90 #[.val (.long q1), .second, .val (.long q2), .second, .val (.int (0 : Int32)), .val (.long (q1 / (256 : Int64))), .second, .val (.long (q1 / (256 : Int64))), .second, .val (.long (q2 / (2 : Int64))), .second] [])) _
    refine XS.lload X0.here hx rfl (hb hby d4_90) rfl ?_
    show Steps p.tables e below (s₁.setTop (mkF m 92 #[.val (.long q1), .second, .val (.long q2), .second, .val (.int (0 : Int32)), .val (.long (q1 / (256 : Int64))), .second, .val (.long (q1 / (256 : Int64))), .second, .val (.long (q2 / (2 : Int64))), .second] [(.long (q2 / (2 : Int64)))])) _
    refine XS.lload X0.here hx rfl (hb hby d4_92) rfl ?_
    show Steps p.tables e below (s₁.setTop (mkF m 94 #[.val (.long q1), .second, .val (.long q2), .second, .val (.int (0 : Int32)), .val (.long (q1 / (256 : Int64))), .second, .val (.long (q1 / (256 : Int64))), .second, .val (.long (q2 / (2 : Int64))), .second] [(.long (q1 / (256 : Int64))), (.long (q2 / (2 : Int64)))])) _
    refine XS.lcmp X0.here hx rfl (hb hby d4_94) rfl ?_
    show Steps p.tables e below (s₁.setTop (mkF m 95 #[.val (.long q1), .second, .val (.long q2), .second, .val (.int (0 : Int32)), .val (.long (q1 / (256 : Int64))), .second, .val (.long (q1 / (256 : Int64))), .second, .val (.long (q2 / (2 : Int64))), .second] [(.int (lcmpW (q2 / (2 : Int64)) (q1 / (256 : Int64))))])) _
    refine XS.ifYes X0.here hx rfl (pc0 := 95) (pc' := 101) rfl (hb hby d4_95) rfl ((if0 _ _).trans (flt hc95).2.2.2) (by decide) (by decide) ?_
    show Steps p.tables e below (s₁.setTop (mkF m 101 #[.val (.long q1), .second, .val (.long q2), .second, .val (.int (0 : Int32)), .val (.long (q1 / (256 : Int64))), .second, .val (.long (q1 / (256 : Int64))), .second, .val (.long (q2 / (2 : Int64))), .second] [])) _
    refine XS.lload X0.here hx rfl (hb hby d4_101) rfl ?_
    show Steps p.tables e below (s₁.setTop (mkF m 103 #[.val (.long q1), .second, .val (.long q2), .second, .val (.int (0 : Int32)), .val (.long (q1 / (256 : Int64))), .second, .val (.long (q1 / (256 : Int64))), .second, .val (.long (q2 / (2 : Int64))), .second] [(.long (q1 / (256 : Int64)))])) _
    jvm_step X0.here [X0.here.top, hx, (hb hby d4_103), X0.method', Bd.returns, narrow]
    first | (intro acts; rw [hr _ acts rfl rfl rfl]) | rw [hr _ _ rfl rfl rfl]
    exact Steps.refl _
  · show Q_rm4 Z q1 q2 h0 n0 _ s₁.heap _
    exact ⟨by rw [F4, if_pos hc3, if_neg hc11, if_neg hc21, if_neg hc51, if_neg hc68, if_neg hc95], N0, e0⟩
set_option maxRecDepth 65536 in
set_option maxHeartbeats 40000000 in
theorem rm4_ft (l : Launch) (Z : State) (a0 : Array Value) (hw : ∀ d ∈ tables_1, d.before a0 Z = true) (ws : List Jvm.Cond) (q1 : Int64) (q2 : Int64) (h0 : Heap) (n0 : Nat) (Z0 : n0 ≤ h0.size) (hc3 : (0 : Int32) < (lcmpW q2 (0 : Int64))) (hc11 : (0 : Int32) < (lcmpW q2 (1152921504606846975 : Int64))) :
    MetFree l (⟨"dev/driftline/HeapReserveBytesPinLaw", "expected", "(JJ)J"⟩ : MethodName) (head1 (Jvm.Cond.code (⟨"dev/driftline/HeapReserveBytesPinLaw", "expected", "(JJ)J"⟩ : MethodName) method_3_code 11 (some .long) :: ws) ({ frames := 0, cells := 0, slots := 0, locals := 0 } : Room)) (fun a U => a = #[(.long q1), (.long q2)] ∧ Z.Warmed39 U.vm ∧ U.heap = h0) (fun _ _ _ _ _ => True) (fun _ U o U' => ∃ v L, o = .returned v ∧ Q_rm4 Z q1 q2 h0 n0 v U'.heap L ∧ FrameEnd U o U' L ({ frames := 0, cells := 0, slots := 0, locals := 0 } : Room).cells ({ frames := 0, cells := 0, slots := 0, locals := 0 } : Room).slots) := by
  refine MetFree.of_bodySF (plainFor_of_name pn_4) hisR ?_
  intro p e s m args below meth c s₁ Bd hml0 hP hK
  obtain ⟨rfl, hZ, hh⟩ := hP
  have hx := Bd.exec
  have hby := Bd.bytes
  have hml : c.maxLocals = 11 := hml0
  have hown : s.vm.findClass "dev/driftline/HeapReserveBytesPinLaw" = some m.cls := findClass_of_methodNamed Bd.named
  have hnm := (name_of_methodNamed Bd.named Bd.method).1
  have X0 : Stand p l e ({ frames := 0, cells := 0, slots := 0, locals := 0 } : Room) s m #[(.long q1), (.long q2)] below meth c s₁ [] 0 0 := Stand.of_body Bd
  have e0 : s₁.heap = h0 := by rw [← hh, Bd.state]; rfl
  have N0 := Fr.nil n0
  have pre0 : ∀ t, Steps p.tables e below (s₁.setTop (mkF m 0 #[.val (.long q1), .second, .val (.long q2), .second, .unset, .unset, .unset, .unset, .unset, .unset, .unset] [])) t → Steps p.tables e below (s₁.setTop (entryFrame m #[(.long q1), (.long q2)] 11)) t := fun t k => castTop (ef_4 m q1 q2) k
  obtain ⟨fs, hr, hrun, hended, hW, hsame⟩ := X0.leave (v := some (.long (0 : Int64))) (fun h => by rw [Bd.returns] at h; cases h)
  refine ⟨_, _, pre0 _ ?_, hrun, hended, _, _, rfl, ?_, ⟨_, rfl⟩, hW, hsame.mono (by decide) (by decide)⟩
  · show Steps p.tables e below (s₁.setTop (mkF m 0 #[.val (.long q1), .second, .val (.long q2), .second, .unset, .unset, .unset, .unset, .unset, .unset, .unset] [])) _
    refine XS.lloadN X0.here hx rfl (hb hby d4_0) rfl ?_
    show Steps p.tables e below (s₁.setTop (mkF m 1 #[.val (.long q1), .second, .val (.long q2), .second, .unset, .unset, .unset, .unset, .unset, .unset, .unset] [(.long q2)])) _
    refine XS.lconst X0.here hx rfl (hb hby d4_1) ?_
    show Steps p.tables e below (s₁.setTop (mkF m 2 #[.val (.long q1), .second, .val (.long q2), .second, .unset, .unset, .unset, .unset, .unset, .unset, .unset] [(.long (0 : Int64)), (.long q2)])) _
    refine XS.lcmp X0.here hx rfl (hb hby d4_2) rfl ?_
    show Steps p.tables e below (s₁.setTop (mkF m 3 #[.val (.long q1), .second, .val (.long q2), .second, .unset, .unset, .unset, .unset, .unset, .unset, .unset] [(.int (lcmpW q2 (0 : Int64)))])) _
    refine XS.ifNo X0.here hx rfl (hb hby d4_3) rfl ((if0 _ _).trans (tlt hc3).2.2.2) ?_
    show Steps p.tables e below (s₁.setTop (mkF m 6 #[.val (.long q1), .second, .val (.long q2), .second, .unset, .unset, .unset, .unset, .unset, .unset, .unset] [])) _
    refine XS.lloadN X0.here hx rfl (hb hby d4_6) rfl ?_
    show Steps p.tables e below (s₁.setTop (mkF m 7 #[.val (.long q1), .second, .val (.long q2), .second, .unset, .unset, .unset, .unset, .unset, .unset, .unset] [(.long q2)])) _
    refine X0.ldc2Long hx hown (mvT hZ (hw _ (List.mem_of_getElem? (i := 25) rfl))) (g := (mkF m 7 #[.val (.long q1), .second, .val (.long q2), .second, .unset, .unset, .unset, .unset, .unset, .unset, .unset] [(.long q2)])) rfl (hb hby d4_7) _ ?_
    show Steps p.tables e below (s₁.setTop (mkF m 10 #[.val (.long q1), .second, .val (.long q2), .second, .unset, .unset, .unset, .unset, .unset, .unset, .unset] [(.long (1152921504606846975 : Int64)), (.long q2)])) _
    refine XS.lcmp X0.here hx rfl (hb hby d4_10) rfl ?_
    show Steps p.tables e below (s₁.setTop (mkF m 11 #[.val (.long q1), .second, .val (.long q2), .second, .unset, .unset, .unset, .unset, .unset, .unset, .unset] [(.int (lcmpW q2 (1152921504606846975 : Int64)))])) _
    refine XS.ifYes X0.here hx rfl (pc0 := 11) (pc' := 24) rfl (hb hby d4_11) rfl ((if0 _ _).trans (tlt hc11).2.2.1) (by decide) (by decide) ?_
    show Steps p.tables e below (s₁.setTop (mkF m 24 #[.val (.long q1), .second, .val (.long q2), .second, .unset, .unset, .unset, .unset, .unset, .unset, .unset] [])) _
    refine XS.iconst X0.here hx rfl (hb hby d4_24) ?_
    show Steps p.tables e below (s₁.setTop (mkF m 25 #[.val (.long q1), .second, .val (.long q2), .second, .unset, .unset, .unset, .unset, .unset, .unset, .unset] [(.int (1 : Int32))])) _
    refine XS.goto X0.here hx rfl (pc0 := 25) (pc' := 29) rfl (hb hby d4_25) (by decide) (by decide) ?_
    show Steps p.tables e below (s₁.setTop (mkF m 29 #[.val (.long q1), .second, .val (.long q2), .second, .unset, .unset, .unset, .unset, .unset, .unset, .unset] [(.int (1 : Int32))])) _
    refine XS.istore X0.here hx rfl (hb hby d4_29) rfl (l' := #[.val (.long q1), .second, .val (.long q2), .second, .val (.int (1 : Int32)), .unset, .unset, .unset, .unset, .unset, .unset]) rfl ?_
    show Steps p.tables e below (s₁.setTop (mkF m 31 #[.val (.long q1), .second, .val (.long q2), .second, .val (.int (1 : Int32)), .unset, .unset, .unset, .unset, .unset, .unset] [])) _
    refine XS.iload X0.here hx rfl (hb hby d4_31) rfl ?_
    show Steps p.tables e below (s₁.setTop (mkF m 33 #[.val (.long q1), .second, .val (.long q2), .second, .val (.int (1 : Int32)), .unset, .unset, .unset, .unset, .unset, .unset] [(.int (1 : Int32))])) _
    refine XS.ifNo X0.here hx rfl (hb hby d4_33) rfl ((if0 _ _).trans (feq (by decide : ¬ ((1 : Int32) = (0 : Int32)))).1) ?_
    show Steps p.tables e below (s₁.setTop (mkF m 36 #[.val (.long q1), .second, .val (.long q2), .second, .val (.int (1 : Int32)), .unset, .unset, .unset, .unset, .unset, .unset] [])) _
    refine XS.lconst X0.here hx rfl (hb hby d4_36) ?_
    show Steps p.tables e below (s₁.setTop (mkF m 37 #[.val (.long q1), .second, .val (.long q2), .second, .val (.int (1 : Int32)), .unset, .unset, .unset, .unset, .unset, .unset] [(.long (0 : Int64))])) _
    jvm_step X0.here [X0.here.top, hx, (hb hby d4_37), X0.method', Bd.returns, narrow]
    first | (intro acts; rw [hr _ acts rfl rfl rfl]) | rw [hr _ _ rfl rfl rfl]
    exact Steps.refl _
  · show Q_rm4 Z q1 q2 h0 n0 _ s₁.heap _
    exact ⟨by rw [F4, if_pos hc3, if_pos hc11], N0, e0⟩
set_option maxRecDepth 65536 in
set_option maxHeartbeats 40000000 in
theorem rm4_tff (l : Launch) (Z : State) (a0 : Array Value) (hw : ∀ d ∈ tables_1, d.before a0 Z = true) (ws : List Jvm.Cond) (q1 : Int64) (q2 : Int64) (h0 : Heap) (n0 : Nat) (Z0 : n0 ≤ h0.size) (hc3 : ¬ ((0 : Int32) < (lcmpW q2 (0 : Int64)))) (hc51 : (lcmpW (q1 / (256 : Int64)) (524288 : Int64)) < (0 : Int32)) (hc95 : (0 : Int32) < (lcmpW (q2 / (2 : Int64)) (524288 : Int64))) :
    MetFree l (⟨"dev/driftline/HeapReserveBytesPinLaw", "expected", "(JJ)J"⟩ : MethodName) (head1 (Jvm.Cond.code (⟨"dev/driftline/HeapReserveBytesPinLaw", "expected", "(JJ)J"⟩ : MethodName) method_3_code 11 (some .long) :: ws) ({ frames := 0, cells := 0, slots := 0, locals := 0 } : Room)) (fun a U => a = #[(.long q1), (.long q2)] ∧ Z.Warmed39 U.vm ∧ U.heap = h0) (fun _ _ _ _ _ => True) (fun _ U o U' => ∃ v L, o = .returned v ∧ Q_rm4 Z q1 q2 h0 n0 v U'.heap L ∧ FrameEnd U o U' L ({ frames := 0, cells := 0, slots := 0, locals := 0 } : Room).cells ({ frames := 0, cells := 0, slots := 0, locals := 0 } : Room).slots) := by
  refine MetFree.of_bodySF (plainFor_of_name pn_4) hisR ?_
  intro p e s m args below meth c s₁ Bd hml0 hP hK
  obtain ⟨rfl, hZ, hh⟩ := hP
  have hx := Bd.exec
  have hby := Bd.bytes
  have hml : c.maxLocals = 11 := hml0
  have hown : s.vm.findClass "dev/driftline/HeapReserveBytesPinLaw" = some m.cls := findClass_of_methodNamed Bd.named
  have hnm := (name_of_methodNamed Bd.named Bd.method).1
  have X0 : Stand p l e ({ frames := 0, cells := 0, slots := 0, locals := 0 } : Room) s m #[(.long q1), (.long q2)] below meth c s₁ [] 0 0 := Stand.of_body Bd
  have e0 : s₁.heap = h0 := by rw [← hh, Bd.state]; rfl
  have N0 := Fr.nil n0
  have pre0 : ∀ t, Steps p.tables e below (s₁.setTop (mkF m 0 #[.val (.long q1), .second, .val (.long q2), .second, .unset, .unset, .unset, .unset, .unset, .unset, .unset] [])) t → Steps p.tables e below (s₁.setTop (entryFrame m #[(.long q1), (.long q2)] 11)) t := fun t k => castTop (ef_4 m q1 q2) k
  obtain ⟨fs, hr, hrun, hended, hW, hsame⟩ := X0.leave (v := some (.long (q2 / (2 : Int64)))) (fun h => by rw [Bd.returns] at h; cases h)
  refine ⟨_, _, pre0 _ ?_, hrun, hended, _, _, rfl, ?_, ⟨_, rfl⟩, hW, hsame.mono (by decide) (by decide)⟩
  · show Steps p.tables e below (s₁.setTop (mkF m 0 #[.val (.long q1), .second, .val (.long q2), .second, .unset, .unset, .unset, .unset, .unset, .unset, .unset] [])) _
    refine XS.lloadN X0.here hx rfl (hb hby d4_0) rfl ?_
    show Steps p.tables e below (s₁.setTop (mkF m 1 #[.val (.long q1), .second, .val (.long q2), .second, .unset, .unset, .unset, .unset, .unset, .unset, .unset] [(.long q2)])) _
    refine XS.lconst X0.here hx rfl (hb hby d4_1) ?_
    show Steps p.tables e below (s₁.setTop (mkF m 2 #[.val (.long q1), .second, .val (.long q2), .second, .unset, .unset, .unset, .unset, .unset, .unset, .unset] [(.long (0 : Int64)), (.long q2)])) _
    refine XS.lcmp X0.here hx rfl (hb hby d4_2) rfl ?_
    show Steps p.tables e below (s₁.setTop (mkF m 3 #[.val (.long q1), .second, .val (.long q2), .second, .unset, .unset, .unset, .unset, .unset, .unset, .unset] [(.int (lcmpW q2 (0 : Int64)))])) _
    refine XS.ifYes X0.here hx rfl (pc0 := 3) (pc' := 28) rfl (hb hby d4_3) rfl ((if0 _ _).trans (flt hc3).2.2.2) (by decide) (by decide) ?_
    show Steps p.tables e below (s₁.setTop (mkF m 28 #[.val (.long q1), .second, .val (.long q2), .second, .unset, .unset, .unset, .unset, .unset, .unset, .unset] [])) _
    refine XS.iconst X0.here hx rfl (hb hby d4_28) ?_
    show Steps p.tables e below (s₁.setTop (mkF m 29 #[.val (.long q1), .second, .val (.long q2), .second, .unset, .unset, .unset, .unset, .unset, .unset, .unset] [(.int (0 : Int32))])) _
    refine XS.istore X0.here hx rfl (hb hby d4_29) rfl (l' := #[.val (.long q1), .second, .val (.long q2), .second, .val (.int (0 : Int32)), .unset, .unset, .unset, .unset, .unset, .unset]) rfl ?_
    show Steps p.tables e below (s₁.setTop (mkF m 31 #[.val (.long q1), .second, .val (.long q2), .second, .val (.int (0 : Int32)), .unset, .unset, .unset, .unset, .unset, .unset] [])) _
    refine XS.iload X0.here hx rfl (hb hby d4_31) rfl ?_
    show Steps p.tables e below (s₁.setTop (mkF m 33 #[.val (.long q1), .second, .val (.long q2), .second, .val (.int (0 : Int32)), .unset, .unset, .unset, .unset, .unset, .unset] [(.int (0 : Int32))])) _
    refine XS.ifYes X0.here hx rfl (pc0 := 33) (pc' := 38) rfl (hb hby d4_33) rfl ((if0 _ _).trans (teq (rfl : (0 : Int32) = (0 : Int32))).1) (by decide) (by decide) ?_
    show Steps p.tables e below (s₁.setTop (mkF m 38 #[.val (.long q1), .second, .val (.long q2), .second, .val (.int (0 : Int32)), .unset, .unset, .unset, .unset, .unset, .unset] [])) _
    refine XS.lloadN X0.here hx rfl (hb hby d4_38) rfl ?_
    show Steps p.tables e below (s₁.setTop (mkF m 39 #[.val (.long q1), .second, .val (.long q2), .second, .val (.int (0 : Int32)), .unset, .unset, .unset, .unset, .unset, .unset] [(.long q1)])) _
    refine X0.ldc2Long hx hown (mvT hZ (hw _ (List.mem_of_getElem? (i := 19) rfl))) (g := (mkF m 39 #[.val (.long q1), .second, .val (.long q2), .second, .val (.int (0 : Int32)), .unset, .unset, .unset, .unset, .unset, .unset] [(.long q1)])) rfl (hb hby d4_39) _ ?_
    show Steps p.tables e below (s₁.setTop (mkF m 42 #[.val (.long q1), .second, .val (.long q2), .second, .val (.int (0 : Int32)), .unset, .unset, .unset, .unset, .unset, .unset] [(.long (256 : Int64)), (.long q1)])) _
    refine XS.ldiv X0.here hx rfl (hb hby d4_42) rfl (by decide) ?_
    show Steps p.tables e below (s₁.setTop (mkF m 43 #[.val (.long q1), .second, .val (.long q2), .second, .val (.int (0 : Int32)), .unset, .unset, .unset, .unset, .unset, .unset] [(.long (q1 / (256 : Int64)))])) _
    refine XS.lstore X0.here hx rfl (hb hby d4_43) rfl (l' := #[.val (.long q1), .second, .val (.long q2), .second, .val (.int (0 : Int32)), .val (.long (q1 / (256 : Int64))), .second, .unset, .unset, .unset, .unset]) rfl ?_
    show Steps p.tables e below (s₁.setTop (mkF m 45 #[.val (.long q1), .second, .val (.long q2), .second, .val (.int (0 : Int32)), .val (.long (q1 / (256 : Int64))), .second, .unset, .unset, .unset, .unset] [])) _
    refine XS.lload X0.here hx rfl (hb hby d4_45) rfl ?_
    show Steps p.tables e below (s₁.setTop (mkF m 47 #[.val (.long q1), .second, .val (.long q2), .second, .val (.int (0 : Int32)), .val (.long (q1 / (256 : Int64))), .second, .unset, .unset, .unset, .unset] [(.long (q1 / (256 : Int64)))])) _
    refine X0.ldc2Long hx hown (mvT hZ (hw _ (List.mem_of_getElem? (i := 20) rfl))) (g := (mkF m 47 #[.val (.long q1), .second, .val (.long q2), .second, .val (.int (0 : Int32)), .val (.long (q1 / (256 : Int64))), .second, .unset, .unset, .unset, .unset] [(.long (q1 / (256 : Int64)))])) rfl (hb hby d4_47) _ ?_
    show Steps p.tables e below (s₁.setTop (mkF m 50 #[.val (.long q1), .second, .val (.long q2), .second, .val (.int (0 : Int32)), .val (.long (q1 / (256 : Int64))), .second, .unset, .unset, .unset, .unset] [(.long (524288 : Int64)), (.long (q1 / (256 : Int64)))])) _
    refine XS.lcmp X0.here hx rfl (hb hby d4_50) rfl ?_
    show Steps p.tables e below (s₁.setTop (mkF m 51 #[.val (.long q1), .second, .val (.long q2), .second, .val (.int (0 : Int32)), .val (.long (q1 / (256 : Int64))), .second, .unset, .unset, .unset, .unset] [(.int (lcmpW (q1 / (256 : Int64)) (524288 : Int64)))])) _
    refine XS.ifNo X0.here hx rfl (hb hby d4_51) rfl ((if0 _ _).trans (tlt hc51).2.1) ?_
    show Steps p.tables e below (s₁.setTop (mkF m 54 #[.val (.long q1), .second, .val (.long q2), .second, .val (.int (0 : Int32)), .val (.long (q1 / (256 : Int64))), .second, .unset, .unset, .unset, .unset] [])) _
    refine X0.ldc2Long hx hown (mvT hZ (hw _ (List.mem_of_getElem? (i := 20) rfl))) (g := (mkF m 54 #[.val (.long q1), .second, .val (.long q2), .second, .val (.int (0 : Int32)), .val (.long (q1 / (256 : Int64))), .second, .unset, .unset, .unset, .unset] [])) rfl (hb hby d4_54) _ ?_
    show Steps p.tables e below (s₁.setTop (mkF m 57 #[.val (.long q1), .second, .val (.long q2), .second, .val (.int (0 : Int32)), .val (.long (q1 / (256 : Int64))), .second, .unset, .unset, .unset, .unset] [(.long (524288 : Int64))])) _
    refine XS.lstore X0.here hx rfl (hb hby d4_57) rfl (l' := #[.val (.long q1), .second, .val (.long q2), .second, .val (.int (0 : Int32)), .val (.long (q1 / (256 : Int64))), .second, .val (.long (524288 : Int64)), .second, .unset, .unset]) rfl ?_
    show Steps p.tables e below (s₁.setTop (mkF m 59 #[.val (.long q1), .second, .val (.long q2), .second, .val (.int (0 : Int32)), .val (.long (q1 / (256 : Int64))), .second, .val (.long (524288 : Int64)), .second, .unset, .unset] [])) _
    refine XS.goto X0.here hx rfl (pc0 := 59) (pc' := 83) rfl (hb hby d4_59) (by decide) (by decide) ?_
    show Steps p.tables e below (s₁.setTop (mkF m 83 #[.val (.long q1), .second, .val (.long q2), .second, .val (.int (0 : Int32)), .val (.long (q1 / (256 : Int64))), .second, .val (.long (524288 : Int64)), .second, .unset, .unset] [])) _
    refine XS.lloadN X0.here hx rfl (hb hby d4_83) rfl ?_
    show Steps p.tables e below (s₁.setTop (mkF m 84 #[.val (.long q1), .second, .val (.long q2), .second, .val (.int (0 : Int32)), .val (.long (q1 / (256 : Int64))), .second, .val (.long (524288 : Int64)), .second, .unset, .unset] [(.long q2)])) _
    refine X0.ldc2Long hx hown (mvT hZ (hw _ (List.mem_of_getElem? (i := 21) rfl))) (g := (mkF m 84 #[.val (.long q1), .second, .val (.long q2), .second, .val (.int (0 : Int32)), .val (.long (q1 / (256 : Int64))), .second, .val (.long (524288 : Int64)), .second, .unset, .unset] [(.long q2)])) rfl (hb hby d4_84) _ ?_
    show Steps p.tables e below (s₁.setTop (mkF m 87 #[.val (.long q1), .second, .val (.long q2), .second, .val (.int (0 : Int32)), .val (.long (q1 / (256 : Int64))), .second, .val (.long (524288 : Int64)), .second, .unset, .unset] [(.long (2 : Int64)), (.long q2)])) _
    refine XS.ldiv X0.here hx rfl (hb hby d4_87) rfl (by decide) ?_
    show Steps p.tables e below (s₁.setTop (mkF m 88 #[.val (.long q1), .second, .val (.long q2), .second, .val (.int (0 : Int32)), .val (.long (q1 / (256 : Int64))), .second, .val (.long (524288 : Int64)), .second, .unset, .unset] [(.long (q2 / (2 : Int64)))])) _
    refine XS.lstore X0.here hx rfl (hb hby d4_88) rfl (l' := #[.val (.long q1), .second, .val (.long q2), .second, .val (.int (0 : Int32)), .val (.long (q1 / (256 : Int64))), .second, .val (.long (524288 : Int64)), .second, .val (.long (q2 / (2 : Int64))), .second]) rfl ?_
    show Steps p.tables e below (s₁.setTop (mkF m 90 #[.val (.long q1), .second, .val (.long q2), .second, .val (.int (0 : Int32)), .val (.long (q1 / (256 : Int64))), .second, .val (.long (524288 : Int64)), .second, .val (.long (q2 / (2 : Int64))), .second] [])) _
    refine XS.lload X0.here hx rfl (hb hby d4_90) rfl ?_
    show Steps p.tables e below (s₁.setTop (mkF m 92 #[.val (.long q1), .second, .val (.long q2), .second, .val (.int (0 : Int32)), .val (.long (q1 / (256 : Int64))), .second, .val (.long (524288 : Int64)), .second, .val (.long (q2 / (2 : Int64))), .second] [(.long (q2 / (2 : Int64)))])) _
    refine XS.lload X0.here hx rfl (hb hby d4_92) rfl ?_
    show Steps p.tables e below (s₁.setTop (mkF m 94 #[.val (.long q1), .second, .val (.long q2), .second, .val (.int (0 : Int32)), .val (.long (q1 / (256 : Int64))), .second, .val (.long (524288 : Int64)), .second, .val (.long (q2 / (2 : Int64))), .second] [(.long (524288 : Int64)), (.long (q2 / (2 : Int64)))])) _
    refine XS.lcmp X0.here hx rfl (hb hby d4_94) rfl ?_
    show Steps p.tables e below (s₁.setTop (mkF m 95 #[.val (.long q1), .second, .val (.long q2), .second, .val (.int (0 : Int32)), .val (.long (q1 / (256 : Int64))), .second, .val (.long (524288 : Int64)), .second, .val (.long (q2 / (2 : Int64))), .second] [(.int (lcmpW (q2 / (2 : Int64)) (524288 : Int64)))])) _
    refine XS.ifNo X0.here hx rfl (hb hby d4_95) rfl ((if0 _ _).trans (tlt hc95).2.2.2) ?_
    show Steps p.tables e below (s₁.setTop (mkF m 98 #[.val (.long q1), .second, .val (.long q2), .second, .val (.int (0 : Int32)), .val (.long (q1 / (256 : Int64))), .second, .val (.long (524288 : Int64)), .second, .val (.long (q2 / (2 : Int64))), .second] [])) _
    refine XS.lload X0.here hx rfl (hb hby d4_98) rfl ?_
    show Steps p.tables e below (s₁.setTop (mkF m 100 #[.val (.long q1), .second, .val (.long q2), .second, .val (.int (0 : Int32)), .val (.long (q1 / (256 : Int64))), .second, .val (.long (524288 : Int64)), .second, .val (.long (q2 / (2 : Int64))), .second] [(.long (q2 / (2 : Int64)))])) _
    jvm_step X0.here [X0.here.top, hx, (hb hby d4_100), X0.method', Bd.returns, narrow]
    first | (intro acts; rw [hr _ acts rfl rfl rfl]) | rw [hr _ _ rfl rfl rfl]
    exact Steps.refl _
  · show Q_rm4 Z q1 q2 h0 n0 _ s₁.heap _
    exact ⟨by rw [F4, if_neg hc3, if_pos hc51, if_pos hc95], N0, e0⟩
set_option maxRecDepth 65536 in
set_option maxHeartbeats 40000000 in
theorem rm4_tft (l : Launch) (Z : State) (a0 : Array Value) (hw : ∀ d ∈ tables_1, d.before a0 Z = true) (ws : List Jvm.Cond) (q1 : Int64) (q2 : Int64) (h0 : Heap) (n0 : Nat) (Z0 : n0 ≤ h0.size) (hc3 : ¬ ((0 : Int32) < (lcmpW q2 (0 : Int64)))) (hc51 : (lcmpW (q1 / (256 : Int64)) (524288 : Int64)) < (0 : Int32)) (hc95 : ¬ ((0 : Int32) < (lcmpW (q2 / (2 : Int64)) (524288 : Int64)))) :
    MetFree l (⟨"dev/driftline/HeapReserveBytesPinLaw", "expected", "(JJ)J"⟩ : MethodName) (head1 (Jvm.Cond.code (⟨"dev/driftline/HeapReserveBytesPinLaw", "expected", "(JJ)J"⟩ : MethodName) method_3_code 11 (some .long) :: ws) ({ frames := 0, cells := 0, slots := 0, locals := 0 } : Room)) (fun a U => a = #[(.long q1), (.long q2)] ∧ Z.Warmed39 U.vm ∧ U.heap = h0) (fun _ _ _ _ _ => True) (fun _ U o U' => ∃ v L, o = .returned v ∧ Q_rm4 Z q1 q2 h0 n0 v U'.heap L ∧ FrameEnd U o U' L ({ frames := 0, cells := 0, slots := 0, locals := 0 } : Room).cells ({ frames := 0, cells := 0, slots := 0, locals := 0 } : Room).slots) := by
  refine MetFree.of_bodySF (plainFor_of_name pn_4) hisR ?_
  intro p e s m args below meth c s₁ Bd hml0 hP hK
  obtain ⟨rfl, hZ, hh⟩ := hP
  have hx := Bd.exec
  have hby := Bd.bytes
  have hml : c.maxLocals = 11 := hml0
  have hown : s.vm.findClass "dev/driftline/HeapReserveBytesPinLaw" = some m.cls := findClass_of_methodNamed Bd.named
  have hnm := (name_of_methodNamed Bd.named Bd.method).1
  have X0 : Stand p l e ({ frames := 0, cells := 0, slots := 0, locals := 0 } : Room) s m #[(.long q1), (.long q2)] below meth c s₁ [] 0 0 := Stand.of_body Bd
  have e0 : s₁.heap = h0 := by rw [← hh, Bd.state]; rfl
  have N0 := Fr.nil n0
  have pre0 : ∀ t, Steps p.tables e below (s₁.setTop (mkF m 0 #[.val (.long q1), .second, .val (.long q2), .second, .unset, .unset, .unset, .unset, .unset, .unset, .unset] [])) t → Steps p.tables e below (s₁.setTop (entryFrame m #[(.long q1), (.long q2)] 11)) t := fun t k => castTop (ef_4 m q1 q2) k
  obtain ⟨fs, hr, hrun, hended, hW, hsame⟩ := X0.leave (v := some (.long (524288 : Int64))) (fun h => by rw [Bd.returns] at h; cases h)
  refine ⟨_, _, pre0 _ ?_, hrun, hended, _, _, rfl, ?_, ⟨_, rfl⟩, hW, hsame.mono (by decide) (by decide)⟩
  · show Steps p.tables e below (s₁.setTop (mkF m 0 #[.val (.long q1), .second, .val (.long q2), .second, .unset, .unset, .unset, .unset, .unset, .unset, .unset] [])) _
    refine XS.lloadN X0.here hx rfl (hb hby d4_0) rfl ?_
    show Steps p.tables e below (s₁.setTop (mkF m 1 #[.val (.long q1), .second, .val (.long q2), .second, .unset, .unset, .unset, .unset, .unset, .unset, .unset] [(.long q2)])) _
    refine XS.lconst X0.here hx rfl (hb hby d4_1) ?_
    show Steps p.tables e below (s₁.setTop (mkF m 2 #[.val (.long q1), .second, .val (.long q2), .second, .unset, .unset, .unset, .unset, .unset, .unset, .unset] [(.long (0 : Int64)), (.long q2)])) _
    refine XS.lcmp X0.here hx rfl (hb hby d4_2) rfl ?_
    show Steps p.tables e below (s₁.setTop (mkF m 3 #[.val (.long q1), .second, .val (.long q2), .second, .unset, .unset, .unset, .unset, .unset, .unset, .unset] [(.int (lcmpW q2 (0 : Int64)))])) _
    refine XS.ifYes X0.here hx rfl (pc0 := 3) (pc' := 28) rfl (hb hby d4_3) rfl ((if0 _ _).trans (flt hc3).2.2.2) (by decide) (by decide) ?_
    show Steps p.tables e below (s₁.setTop (mkF m 28 #[.val (.long q1), .second, .val (.long q2), .second, .unset, .unset, .unset, .unset, .unset, .unset, .unset] [])) _
    refine XS.iconst X0.here hx rfl (hb hby d4_28) ?_
    show Steps p.tables e below (s₁.setTop (mkF m 29 #[.val (.long q1), .second, .val (.long q2), .second, .unset, .unset, .unset, .unset, .unset, .unset, .unset] [(.int (0 : Int32))])) _
    refine XS.istore X0.here hx rfl (hb hby d4_29) rfl (l' := #[.val (.long q1), .second, .val (.long q2), .second, .val (.int (0 : Int32)), .unset, .unset, .unset, .unset, .unset, .unset]) rfl ?_
    show Steps p.tables e below (s₁.setTop (mkF m 31 #[.val (.long q1), .second, .val (.long q2), .second, .val (.int (0 : Int32)), .unset, .unset, .unset, .unset, .unset, .unset] [])) _
    refine XS.iload X0.here hx rfl (hb hby d4_31) rfl ?_
    show Steps p.tables e below (s₁.setTop (mkF m 33 #[.val (.long q1), .second, .val (.long q2), .second, .val (.int (0 : Int32)), .unset, .unset, .unset, .unset, .unset, .unset] [(.int (0 : Int32))])) _
    refine XS.ifYes X0.here hx rfl (pc0 := 33) (pc' := 38) rfl (hb hby d4_33) rfl ((if0 _ _).trans (teq (rfl : (0 : Int32) = (0 : Int32))).1) (by decide) (by decide) ?_
    show Steps p.tables e below (s₁.setTop (mkF m 38 #[.val (.long q1), .second, .val (.long q2), .second, .val (.int (0 : Int32)), .unset, .unset, .unset, .unset, .unset, .unset] [])) _
    refine XS.lloadN X0.here hx rfl (hb hby d4_38) rfl ?_
    show Steps p.tables e below (s₁.setTop (mkF m 39 #[.val (.long q1), .second, .val (.long q2), .second, .val (.int (0 : Int32)), .unset, .unset, .unset, .unset, .unset, .unset] [(.long q1)])) _
    refine X0.ldc2Long hx hown (mvT hZ (hw _ (List.mem_of_getElem? (i := 19) rfl))) (g := (mkF m 39 #[.val (.long q1), .second, .val (.long q2), .second, .val (.int (0 : Int32)), .unset, .unset, .unset, .unset, .unset, .unset] [(.long q1)])) rfl (hb hby d4_39) _ ?_
    show Steps p.tables e below (s₁.setTop (mkF m 42 #[.val (.long q1), .second, .val (.long q2), .second, .val (.int (0 : Int32)), .unset, .unset, .unset, .unset, .unset, .unset] [(.long (256 : Int64)), (.long q1)])) _
    refine XS.ldiv X0.here hx rfl (hb hby d4_42) rfl (by decide) ?_
    show Steps p.tables e below (s₁.setTop (mkF m 43 #[.val (.long q1), .second, .val (.long q2), .second, .val (.int (0 : Int32)), .unset, .unset, .unset, .unset, .unset, .unset] [(.long (q1 / (256 : Int64)))])) _
    refine XS.lstore X0.here hx rfl (hb hby d4_43) rfl (l' := #[.val (.long q1), .second, .val (.long q2), .second, .val (.int (0 : Int32)), .val (.long (q1 / (256 : Int64))), .second, .unset, .unset, .unset, .unset]) rfl ?_
    show Steps p.tables e below (s₁.setTop (mkF m 45 #[.val (.long q1), .second, .val (.long q2), .second, .val (.int (0 : Int32)), .val (.long (q1 / (256 : Int64))), .second, .unset, .unset, .unset, .unset] [])) _
    refine XS.lload X0.here hx rfl (hb hby d4_45) rfl ?_
    show Steps p.tables e below (s₁.setTop (mkF m 47 #[.val (.long q1), .second, .val (.long q2), .second, .val (.int (0 : Int32)), .val (.long (q1 / (256 : Int64))), .second, .unset, .unset, .unset, .unset] [(.long (q1 / (256 : Int64)))])) _
    refine X0.ldc2Long hx hown (mvT hZ (hw _ (List.mem_of_getElem? (i := 20) rfl))) (g := (mkF m 47 #[.val (.long q1), .second, .val (.long q2), .second, .val (.int (0 : Int32)), .val (.long (q1 / (256 : Int64))), .second, .unset, .unset, .unset, .unset] [(.long (q1 / (256 : Int64)))])) rfl (hb hby d4_47) _ ?_
    show Steps p.tables e below (s₁.setTop (mkF m 50 #[.val (.long q1), .second, .val (.long q2), .second, .val (.int (0 : Int32)), .val (.long (q1 / (256 : Int64))), .second, .unset, .unset, .unset, .unset] [(.long (524288 : Int64)), (.long (q1 / (256 : Int64)))])) _
    refine XS.lcmp X0.here hx rfl (hb hby d4_50) rfl ?_
    show Steps p.tables e below (s₁.setTop (mkF m 51 #[.val (.long q1), .second, .val (.long q2), .second, .val (.int (0 : Int32)), .val (.long (q1 / (256 : Int64))), .second, .unset, .unset, .unset, .unset] [(.int (lcmpW (q1 / (256 : Int64)) (524288 : Int64)))])) _
    refine XS.ifNo X0.here hx rfl (hb hby d4_51) rfl ((if0 _ _).trans (tlt hc51).2.1) ?_
    show Steps p.tables e below (s₁.setTop (mkF m 54 #[.val (.long q1), .second, .val (.long q2), .second, .val (.int (0 : Int32)), .val (.long (q1 / (256 : Int64))), .second, .unset, .unset, .unset, .unset] [])) _
    refine X0.ldc2Long hx hown (mvT hZ (hw _ (List.mem_of_getElem? (i := 20) rfl))) (g := (mkF m 54 #[.val (.long q1), .second, .val (.long q2), .second, .val (.int (0 : Int32)), .val (.long (q1 / (256 : Int64))), .second, .unset, .unset, .unset, .unset] [])) rfl (hb hby d4_54) _ ?_
    show Steps p.tables e below (s₁.setTop (mkF m 57 #[.val (.long q1), .second, .val (.long q2), .second, .val (.int (0 : Int32)), .val (.long (q1 / (256 : Int64))), .second, .unset, .unset, .unset, .unset] [(.long (524288 : Int64))])) _
    refine XS.lstore X0.here hx rfl (hb hby d4_57) rfl (l' := #[.val (.long q1), .second, .val (.long q2), .second, .val (.int (0 : Int32)), .val (.long (q1 / (256 : Int64))), .second, .val (.long (524288 : Int64)), .second, .unset, .unset]) rfl ?_
    show Steps p.tables e below (s₁.setTop (mkF m 59 #[.val (.long q1), .second, .val (.long q2), .second, .val (.int (0 : Int32)), .val (.long (q1 / (256 : Int64))), .second, .val (.long (524288 : Int64)), .second, .unset, .unset] [])) _
    refine XS.goto X0.here hx rfl (pc0 := 59) (pc' := 83) rfl (hb hby d4_59) (by decide) (by decide) ?_
    show Steps p.tables e below (s₁.setTop (mkF m 83 #[.val (.long q1), .second, .val (.long q2), .second, .val (.int (0 : Int32)), .val (.long (q1 / (256 : Int64))), .second, .val (.long (524288 : Int64)), .second, .unset, .unset] [])) _
    refine XS.lloadN X0.here hx rfl (hb hby d4_83) rfl ?_
    show Steps p.tables e below (s₁.setTop (mkF m 84 #[.val (.long q1), .second, .val (.long q2), .second, .val (.int (0 : Int32)), .val (.long (q1 / (256 : Int64))), .second, .val (.long (524288 : Int64)), .second, .unset, .unset] [(.long q2)])) _
    refine X0.ldc2Long hx hown (mvT hZ (hw _ (List.mem_of_getElem? (i := 21) rfl))) (g := (mkF m 84 #[.val (.long q1), .second, .val (.long q2), .second, .val (.int (0 : Int32)), .val (.long (q1 / (256 : Int64))), .second, .val (.long (524288 : Int64)), .second, .unset, .unset] [(.long q2)])) rfl (hb hby d4_84) _ ?_
    show Steps p.tables e below (s₁.setTop (mkF m 87 #[.val (.long q1), .second, .val (.long q2), .second, .val (.int (0 : Int32)), .val (.long (q1 / (256 : Int64))), .second, .val (.long (524288 : Int64)), .second, .unset, .unset] [(.long (2 : Int64)), (.long q2)])) _
    refine XS.ldiv X0.here hx rfl (hb hby d4_87) rfl (by decide) ?_
    show Steps p.tables e below (s₁.setTop (mkF m 88 #[.val (.long q1), .second, .val (.long q2), .second, .val (.int (0 : Int32)), .val (.long (q1 / (256 : Int64))), .second, .val (.long (524288 : Int64)), .second, .unset, .unset] [(.long (q2 / (2 : Int64)))])) _
    refine XS.lstore X0.here hx rfl (hb hby d4_88) rfl (l' := #[.val (.long q1), .second, .val (.long q2), .second, .val (.int (0 : Int32)), .val (.long (q1 / (256 : Int64))), .second, .val (.long (524288 : Int64)), .second, .val (.long (q2 / (2 : Int64))), .second]) rfl ?_
    show Steps p.tables e below (s₁.setTop (mkF m 90 #[.val (.long q1), .second, .val (.long q2), .second, .val (.int (0 : Int32)), .val (.long (q1 / (256 : Int64))), .second, .val (.long (524288 : Int64)), .second, .val (.long (q2 / (2 : Int64))), .second] [])) _
    refine XS.lload X0.here hx rfl (hb hby d4_90) rfl ?_
    show Steps p.tables e below (s₁.setTop (mkF m 92 #[.val (.long q1), .second, .val (.long q2), .second, .val (.int (0 : Int32)), .val (.long (q1 / (256 : Int64))), .second, .val (.long (524288 : Int64)), .second, .val (.long (q2 / (2 : Int64))), .second] [(.long (q2 / (2 : Int64)))])) _
    refine XS.lload X0.here hx rfl (hb hby d4_92) rfl ?_
    show Steps p.tables e below (s₁.setTop (mkF m 94 #[.val (.long q1), .second, .val (.long q2), .second, .val (.int (0 : Int32)), .val (.long (q1 / (256 : Int64))), .second, .val (.long (524288 : Int64)), .second, .val (.long (q2 / (2 : Int64))), .second] [(.long (524288 : Int64)), (.long (q2 / (2 : Int64)))])) _
    refine XS.lcmp X0.here hx rfl (hb hby d4_94) rfl ?_
    show Steps p.tables e below (s₁.setTop (mkF m 95 #[.val (.long q1), .second, .val (.long q2), .second, .val (.int (0 : Int32)), .val (.long (q1 / (256 : Int64))), .second, .val (.long (524288 : Int64)), .second, .val (.long (q2 / (2 : Int64))), .second] [(.int (lcmpW (q2 / (2 : Int64)) (524288 : Int64)))])) _
    refine XS.ifYes X0.here hx rfl (pc0 := 95) (pc' := 101) rfl (hb hby d4_95) rfl ((if0 _ _).trans (flt hc95).2.2.2) (by decide) (by decide) ?_
    show Steps p.tables e below (s₁.setTop (mkF m 101 #[.val (.long q1), .second, .val (.long q2), .second, .val (.int (0 : Int32)), .val (.long (q1 / (256 : Int64))), .second, .val (.long (524288 : Int64)), .second, .val (.long (q2 / (2 : Int64))), .second] [])) _
    refine XS.lload X0.here hx rfl (hb hby d4_101) rfl ?_
    show Steps p.tables e below (s₁.setTop (mkF m 103 #[.val (.long q1), .second, .val (.long q2), .second, .val (.int (0 : Int32)), .val (.long (q1 / (256 : Int64))), .second, .val (.long (524288 : Int64)), .second, .val (.long (q2 / (2 : Int64))), .second] [(.long (524288 : Int64))])) _
    jvm_step X0.here [X0.here.top, hx, (hb hby d4_103), X0.method', Bd.returns, narrow]
    first | (intro acts; rw [hr _ acts rfl rfl rfl]) | rw [hr _ _ rfl rfl rfl]
    exact Steps.refl _
  · show Q_rm4 Z q1 q2 h0 n0 _ s₁.heap _
    exact ⟨by rw [F4, if_neg hc3, if_pos hc51, if_neg hc95], N0, e0⟩
set_option maxRecDepth 65536 in
set_option maxHeartbeats 40000000 in
theorem rm4_ttff (l : Launch) (Z : State) (a0 : Array Value) (hw : ∀ d ∈ tables_1, d.before a0 Z = true) (ws : List Jvm.Cond) (q1 : Int64) (q2 : Int64) (h0 : Heap) (n0 : Nat) (Z0 : n0 ≤ h0.size) (hc3 : ¬ ((0 : Int32) < (lcmpW q2 (0 : Int64)))) (hc51 : ¬ ((lcmpW (q1 / (256 : Int64)) (524288 : Int64)) < (0 : Int32))) (hc68 : (0 : Int32) < (lcmpW (q1 / (256 : Int64)) (16777216 : Int64))) (hc95 : (0 : Int32) < (lcmpW (q2 / (2 : Int64)) (16777216 : Int64))) :
    MetFree l (⟨"dev/driftline/HeapReserveBytesPinLaw", "expected", "(JJ)J"⟩ : MethodName) (head1 (Jvm.Cond.code (⟨"dev/driftline/HeapReserveBytesPinLaw", "expected", "(JJ)J"⟩ : MethodName) method_3_code 11 (some .long) :: ws) ({ frames := 0, cells := 0, slots := 0, locals := 0 } : Room)) (fun a U => a = #[(.long q1), (.long q2)] ∧ Z.Warmed39 U.vm ∧ U.heap = h0) (fun _ _ _ _ _ => True) (fun _ U o U' => ∃ v L, o = .returned v ∧ Q_rm4 Z q1 q2 h0 n0 v U'.heap L ∧ FrameEnd U o U' L ({ frames := 0, cells := 0, slots := 0, locals := 0 } : Room).cells ({ frames := 0, cells := 0, slots := 0, locals := 0 } : Room).slots) := by
  refine MetFree.of_bodySF (plainFor_of_name pn_4) hisR ?_
  intro p e s m args below meth c s₁ Bd hml0 hP hK
  obtain ⟨rfl, hZ, hh⟩ := hP
  have hx := Bd.exec
  have hby := Bd.bytes
  have hml : c.maxLocals = 11 := hml0
  have hown : s.vm.findClass "dev/driftline/HeapReserveBytesPinLaw" = some m.cls := findClass_of_methodNamed Bd.named
  have hnm := (name_of_methodNamed Bd.named Bd.method).1
  have X0 : Stand p l e ({ frames := 0, cells := 0, slots := 0, locals := 0 } : Room) s m #[(.long q1), (.long q2)] below meth c s₁ [] 0 0 := Stand.of_body Bd
  have e0 : s₁.heap = h0 := by rw [← hh, Bd.state]; rfl
  have N0 := Fr.nil n0
  have pre0 : ∀ t, Steps p.tables e below (s₁.setTop (mkF m 0 #[.val (.long q1), .second, .val (.long q2), .second, .unset, .unset, .unset, .unset, .unset, .unset, .unset] [])) t → Steps p.tables e below (s₁.setTop (entryFrame m #[(.long q1), (.long q2)] 11)) t := fun t k => castTop (ef_4 m q1 q2) k
  obtain ⟨fs, hr, hrun, hended, hW, hsame⟩ := X0.leave (v := some (.long (q2 / (2 : Int64)))) (fun h => by rw [Bd.returns] at h; cases h)
  refine ⟨_, _, pre0 _ ?_, hrun, hended, _, _, rfl, ?_, ⟨_, rfl⟩, hW, hsame.mono (by decide) (by decide)⟩
  · show Steps p.tables e below (s₁.setTop (mkF m 0 #[.val (.long q1), .second, .val (.long q2), .second, .unset, .unset, .unset, .unset, .unset, .unset, .unset] [])) _
    refine XS.lloadN X0.here hx rfl (hb hby d4_0) rfl ?_
    show Steps p.tables e below (s₁.setTop (mkF m 1 #[.val (.long q1), .second, .val (.long q2), .second, .unset, .unset, .unset, .unset, .unset, .unset, .unset] [(.long q2)])) _
    refine XS.lconst X0.here hx rfl (hb hby d4_1) ?_
    show Steps p.tables e below (s₁.setTop (mkF m 2 #[.val (.long q1), .second, .val (.long q2), .second, .unset, .unset, .unset, .unset, .unset, .unset, .unset] [(.long (0 : Int64)), (.long q2)])) _
    refine XS.lcmp X0.here hx rfl (hb hby d4_2) rfl ?_
    show Steps p.tables e below (s₁.setTop (mkF m 3 #[.val (.long q1), .second, .val (.long q2), .second, .unset, .unset, .unset, .unset, .unset, .unset, .unset] [(.int (lcmpW q2 (0 : Int64)))])) _
    refine XS.ifYes X0.here hx rfl (pc0 := 3) (pc' := 28) rfl (hb hby d4_3) rfl ((if0 _ _).trans (flt hc3).2.2.2) (by decide) (by decide) ?_
    show Steps p.tables e below (s₁.setTop (mkF m 28 #[.val (.long q1), .second, .val (.long q2), .second, .unset, .unset, .unset, .unset, .unset, .unset, .unset] [])) _
    refine XS.iconst X0.here hx rfl (hb hby d4_28) ?_
    show Steps p.tables e below (s₁.setTop (mkF m 29 #[.val (.long q1), .second, .val (.long q2), .second, .unset, .unset, .unset, .unset, .unset, .unset, .unset] [(.int (0 : Int32))])) _
    refine XS.istore X0.here hx rfl (hb hby d4_29) rfl (l' := #[.val (.long q1), .second, .val (.long q2), .second, .val (.int (0 : Int32)), .unset, .unset, .unset, .unset, .unset, .unset]) rfl ?_
    show Steps p.tables e below (s₁.setTop (mkF m 31 #[.val (.long q1), .second, .val (.long q2), .second, .val (.int (0 : Int32)), .unset, .unset, .unset, .unset, .unset, .unset] [])) _
    refine XS.iload X0.here hx rfl (hb hby d4_31) rfl ?_
    show Steps p.tables e below (s₁.setTop (mkF m 33 #[.val (.long q1), .second, .val (.long q2), .second, .val (.int (0 : Int32)), .unset, .unset, .unset, .unset, .unset, .unset] [(.int (0 : Int32))])) _
    refine XS.ifYes X0.here hx rfl (pc0 := 33) (pc' := 38) rfl (hb hby d4_33) rfl ((if0 _ _).trans (teq (rfl : (0 : Int32) = (0 : Int32))).1) (by decide) (by decide) ?_
    show Steps p.tables e below (s₁.setTop (mkF m 38 #[.val (.long q1), .second, .val (.long q2), .second, .val (.int (0 : Int32)), .unset, .unset, .unset, .unset, .unset, .unset] [])) _
    refine XS.lloadN X0.here hx rfl (hb hby d4_38) rfl ?_
    show Steps p.tables e below (s₁.setTop (mkF m 39 #[.val (.long q1), .second, .val (.long q2), .second, .val (.int (0 : Int32)), .unset, .unset, .unset, .unset, .unset, .unset] [(.long q1)])) _
    refine X0.ldc2Long hx hown (mvT hZ (hw _ (List.mem_of_getElem? (i := 19) rfl))) (g := (mkF m 39 #[.val (.long q1), .second, .val (.long q2), .second, .val (.int (0 : Int32)), .unset, .unset, .unset, .unset, .unset, .unset] [(.long q1)])) rfl (hb hby d4_39) _ ?_
    show Steps p.tables e below (s₁.setTop (mkF m 42 #[.val (.long q1), .second, .val (.long q2), .second, .val (.int (0 : Int32)), .unset, .unset, .unset, .unset, .unset, .unset] [(.long (256 : Int64)), (.long q1)])) _
    refine XS.ldiv X0.here hx rfl (hb hby d4_42) rfl (by decide) ?_
    show Steps p.tables e below (s₁.setTop (mkF m 43 #[.val (.long q1), .second, .val (.long q2), .second, .val (.int (0 : Int32)), .unset, .unset, .unset, .unset, .unset, .unset] [(.long (q1 / (256 : Int64)))])) _
    refine XS.lstore X0.here hx rfl (hb hby d4_43) rfl (l' := #[.val (.long q1), .second, .val (.long q2), .second, .val (.int (0 : Int32)), .val (.long (q1 / (256 : Int64))), .second, .unset, .unset, .unset, .unset]) rfl ?_
    show Steps p.tables e below (s₁.setTop (mkF m 45 #[.val (.long q1), .second, .val (.long q2), .second, .val (.int (0 : Int32)), .val (.long (q1 / (256 : Int64))), .second, .unset, .unset, .unset, .unset] [])) _
    refine XS.lload X0.here hx rfl (hb hby d4_45) rfl ?_
    show Steps p.tables e below (s₁.setTop (mkF m 47 #[.val (.long q1), .second, .val (.long q2), .second, .val (.int (0 : Int32)), .val (.long (q1 / (256 : Int64))), .second, .unset, .unset, .unset, .unset] [(.long (q1 / (256 : Int64)))])) _
    refine X0.ldc2Long hx hown (mvT hZ (hw _ (List.mem_of_getElem? (i := 20) rfl))) (g := (mkF m 47 #[.val (.long q1), .second, .val (.long q2), .second, .val (.int (0 : Int32)), .val (.long (q1 / (256 : Int64))), .second, .unset, .unset, .unset, .unset] [(.long (q1 / (256 : Int64)))])) rfl (hb hby d4_47) _ ?_
    show Steps p.tables e below (s₁.setTop (mkF m 50 #[.val (.long q1), .second, .val (.long q2), .second, .val (.int (0 : Int32)), .val (.long (q1 / (256 : Int64))), .second, .unset, .unset, .unset, .unset] [(.long (524288 : Int64)), (.long (q1 / (256 : Int64)))])) _
    refine XS.lcmp X0.here hx rfl (hb hby d4_50) rfl ?_
    show Steps p.tables e below (s₁.setTop (mkF m 51 #[.val (.long q1), .second, .val (.long q2), .second, .val (.int (0 : Int32)), .val (.long (q1 / (256 : Int64))), .second, .unset, .unset, .unset, .unset] [(.int (lcmpW (q1 / (256 : Int64)) (524288 : Int64)))])) _
    refine XS.ifYes X0.here hx rfl (pc0 := 51) (pc' := 62) rfl (hb hby d4_51) rfl ((if0 _ _).trans (flt hc51).2.1) (by decide) (by decide) ?_
    show Steps p.tables e below (s₁.setTop (mkF m 62 #[.val (.long q1), .second, .val (.long q2), .second, .val (.int (0 : Int32)), .val (.long (q1 / (256 : Int64))), .second, .unset, .unset, .unset, .unset] [])) _
    refine XS.lload X0.here hx rfl (hb hby d4_62) rfl ?_
    show Steps p.tables e below (s₁.setTop (mkF m 64 #[.val (.long q1), .second, .val (.long q2), .second, .val (.int (0 : Int32)), .val (.long (q1 / (256 : Int64))), .second, .unset, .unset, .unset, .unset] [(.long (q1 / (256 : Int64)))])) _
    refine X0.ldc2Long hx hown (mvT hZ (hw _ (List.mem_of_getElem? (i := 26) rfl))) (g := (mkF m 64 #[.val (.long q1), .second, .val (.long q2), .second, .val (.int (0 : Int32)), .val (.long (q1 / (256 : Int64))), .second, .unset, .unset, .unset, .unset] [(.long (q1 / (256 : Int64)))])) rfl (hb hby d4_64) _ ?_
    show Steps p.tables e below (s₁.setTop (mkF m 67 #[.val (.long q1), .second, .val (.long q2), .second, .val (.int (0 : Int32)), .val (.long (q1 / (256 : Int64))), .second, .unset, .unset, .unset, .unset] [(.long (16777216 : Int64)), (.long (q1 / (256 : Int64)))])) _
    refine XS.lcmp X0.here hx rfl (hb hby d4_67) rfl ?_
    show Steps p.tables e below (s₁.setTop (mkF m 68 #[.val (.long q1), .second, .val (.long q2), .second, .val (.int (0 : Int32)), .val (.long (q1 / (256 : Int64))), .second, .unset, .unset, .unset, .unset] [(.int (lcmpW (q1 / (256 : Int64)) (16777216 : Int64)))])) _
    refine XS.ifNo X0.here hx rfl (hb hby d4_68) rfl ((if0 _ _).trans (tlt hc68).2.2.2) ?_
    show Steps p.tables e below (s₁.setTop (mkF m 71 #[.val (.long q1), .second, .val (.long q2), .second, .val (.int (0 : Int32)), .val (.long (q1 / (256 : Int64))), .second, .unset, .unset, .unset, .unset] [])) _
    refine X0.ldc2Long hx hown (mvT hZ (hw _ (List.mem_of_getElem? (i := 26) rfl))) (g := (mkF m 71 #[.val (.long q1), .second, .val (.long q2), .second, .val (.int (0 : Int32)), .val (.long (q1 / (256 : Int64))), .second, .unset, .unset, .unset, .unset] [])) rfl (hb hby d4_71) _ ?_
    show Steps p.tables e below (s₁.setTop (mkF m 74 #[.val (.long q1), .second, .val (.long q2), .second, .val (.int (0 : Int32)), .val (.long (q1 / (256 : Int64))), .second, .unset, .unset, .unset, .unset] [(.long (16777216 : Int64))])) _
    refine XS.lstore X0.here hx rfl (hb hby d4_74) rfl (l' := #[.val (.long q1), .second, .val (.long q2), .second, .val (.int (0 : Int32)), .val (.long (q1 / (256 : Int64))), .second, .val (.long (16777216 : Int64)), .second, .unset, .unset]) rfl ?_
    show Steps p.tables e below (s₁.setTop (mkF m 76 #[.val (.long q1), .second, .val (.long q2), .second, .val (.int (0 : Int32)), .val (.long (q1 / (256 : Int64))), .second, .val (.long (16777216 : Int64)), .second, .unset, .unset] [])) _
    refine XS.goto X0.here hx rfl (pc0 := 76) (pc' := 83) rfl (hb hby d4_76) (by decide) (by decide) ?_
    show Steps p.tables e below (s₁.setTop (mkF m 83 #[.val (.long q1), .second, .val (.long q2), .second, .val (.int (0 : Int32)), .val (.long (q1 / (256 : Int64))), .second, .val (.long (16777216 : Int64)), .second, .unset, .unset] [])) _
    refine XS.lloadN X0.here hx rfl (hb hby d4_83) rfl ?_
    show Steps p.tables e below (s₁.setTop (mkF m 84 #[.val (.long q1), .second, .val (.long q2), .second, .val (.int (0 : Int32)), .val (.long (q1 / (256 : Int64))), .second, .val (.long (16777216 : Int64)), .second, .unset, .unset] [(.long q2)])) _
    refine X0.ldc2Long hx hown (mvT hZ (hw _ (List.mem_of_getElem? (i := 21) rfl))) (g := (mkF m 84 #[.val (.long q1), .second, .val (.long q2), .second, .val (.int (0 : Int32)), .val (.long (q1 / (256 : Int64))), .second, .val (.long (16777216 : Int64)), .second, .unset, .unset] [(.long q2)])) rfl (hb hby d4_84) _ ?_
    show Steps p.tables e below (s₁.setTop (mkF m 87 #[.val (.long q1), .second, .val (.long q2), .second, .val (.int (0 : Int32)), .val (.long (q1 / (256 : Int64))), .second, .val (.long (16777216 : Int64)), .second, .unset, .unset] [(.long (2 : Int64)), (.long q2)])) _
    refine XS.ldiv X0.here hx rfl (hb hby d4_87) rfl (by decide) ?_
    show Steps p.tables e below (s₁.setTop (mkF m 88 #[.val (.long q1), .second, .val (.long q2), .second, .val (.int (0 : Int32)), .val (.long (q1 / (256 : Int64))), .second, .val (.long (16777216 : Int64)), .second, .unset, .unset] [(.long (q2 / (2 : Int64)))])) _
    refine XS.lstore X0.here hx rfl (hb hby d4_88) rfl (l' := #[.val (.long q1), .second, .val (.long q2), .second, .val (.int (0 : Int32)), .val (.long (q1 / (256 : Int64))), .second, .val (.long (16777216 : Int64)), .second, .val (.long (q2 / (2 : Int64))), .second]) rfl ?_
    show Steps p.tables e below (s₁.setTop (mkF m 90 #[.val (.long q1), .second, .val (.long q2), .second, .val (.int (0 : Int32)), .val (.long (q1 / (256 : Int64))), .second, .val (.long (16777216 : Int64)), .second, .val (.long (q2 / (2 : Int64))), .second] [])) _
    refine XS.lload X0.here hx rfl (hb hby d4_90) rfl ?_
    show Steps p.tables e below (s₁.setTop (mkF m 92 #[.val (.long q1), .second, .val (.long q2), .second, .val (.int (0 : Int32)), .val (.long (q1 / (256 : Int64))), .second, .val (.long (16777216 : Int64)), .second, .val (.long (q2 / (2 : Int64))), .second] [(.long (q2 / (2 : Int64)))])) _
    refine XS.lload X0.here hx rfl (hb hby d4_92) rfl ?_
    show Steps p.tables e below (s₁.setTop (mkF m 94 #[.val (.long q1), .second, .val (.long q2), .second, .val (.int (0 : Int32)), .val (.long (q1 / (256 : Int64))), .second, .val (.long (16777216 : Int64)), .second, .val (.long (q2 / (2 : Int64))), .second] [(.long (16777216 : Int64)), (.long (q2 / (2 : Int64)))])) _
    refine XS.lcmp X0.here hx rfl (hb hby d4_94) rfl ?_
    show Steps p.tables e below (s₁.setTop (mkF m 95 #[.val (.long q1), .second, .val (.long q2), .second, .val (.int (0 : Int32)), .val (.long (q1 / (256 : Int64))), .second, .val (.long (16777216 : Int64)), .second, .val (.long (q2 / (2 : Int64))), .second] [(.int (lcmpW (q2 / (2 : Int64)) (16777216 : Int64)))])) _
    refine XS.ifNo X0.here hx rfl (hb hby d4_95) rfl ((if0 _ _).trans (tlt hc95).2.2.2) ?_
    show Steps p.tables e below (s₁.setTop (mkF m 98 #[.val (.long q1), .second, .val (.long q2), .second, .val (.int (0 : Int32)), .val (.long (q1 / (256 : Int64))), .second, .val (.long (16777216 : Int64)), .second, .val (.long (q2 / (2 : Int64))), .second] [])) _
    refine XS.lload X0.here hx rfl (hb hby d4_98) rfl ?_
    show Steps p.tables e below (s₁.setTop (mkF m 100 #[.val (.long q1), .second, .val (.long q2), .second, .val (.int (0 : Int32)), .val (.long (q1 / (256 : Int64))), .second, .val (.long (16777216 : Int64)), .second, .val (.long (q2 / (2 : Int64))), .second] [(.long (q2 / (2 : Int64)))])) _
    jvm_step X0.here [X0.here.top, hx, (hb hby d4_100), X0.method', Bd.returns, narrow]
    first | (intro acts; rw [hr _ acts rfl rfl rfl]) | rw [hr _ _ rfl rfl rfl]
    exact Steps.refl _
  · show Q_rm4 Z q1 q2 h0 n0 _ s₁.heap _
    exact ⟨by rw [F4, if_neg hc3, if_neg hc51, if_pos hc68, if_pos hc95], N0, e0⟩
set_option maxRecDepth 65536 in
set_option maxHeartbeats 40000000 in
theorem rm4_ttft (l : Launch) (Z : State) (a0 : Array Value) (hw : ∀ d ∈ tables_1, d.before a0 Z = true) (ws : List Jvm.Cond) (q1 : Int64) (q2 : Int64) (h0 : Heap) (n0 : Nat) (Z0 : n0 ≤ h0.size) (hc3 : ¬ ((0 : Int32) < (lcmpW q2 (0 : Int64)))) (hc51 : ¬ ((lcmpW (q1 / (256 : Int64)) (524288 : Int64)) < (0 : Int32))) (hc68 : (0 : Int32) < (lcmpW (q1 / (256 : Int64)) (16777216 : Int64))) (hc95 : ¬ ((0 : Int32) < (lcmpW (q2 / (2 : Int64)) (16777216 : Int64)))) :
    MetFree l (⟨"dev/driftline/HeapReserveBytesPinLaw", "expected", "(JJ)J"⟩ : MethodName) (head1 (Jvm.Cond.code (⟨"dev/driftline/HeapReserveBytesPinLaw", "expected", "(JJ)J"⟩ : MethodName) method_3_code 11 (some .long) :: ws) ({ frames := 0, cells := 0, slots := 0, locals := 0 } : Room)) (fun a U => a = #[(.long q1), (.long q2)] ∧ Z.Warmed39 U.vm ∧ U.heap = h0) (fun _ _ _ _ _ => True) (fun _ U o U' => ∃ v L, o = .returned v ∧ Q_rm4 Z q1 q2 h0 n0 v U'.heap L ∧ FrameEnd U o U' L ({ frames := 0, cells := 0, slots := 0, locals := 0 } : Room).cells ({ frames := 0, cells := 0, slots := 0, locals := 0 } : Room).slots) := by
  refine MetFree.of_bodySF (plainFor_of_name pn_4) hisR ?_
  intro p e s m args below meth c s₁ Bd hml0 hP hK
  obtain ⟨rfl, hZ, hh⟩ := hP
  have hx := Bd.exec
  have hby := Bd.bytes
  have hml : c.maxLocals = 11 := hml0
  have hown : s.vm.findClass "dev/driftline/HeapReserveBytesPinLaw" = some m.cls := findClass_of_methodNamed Bd.named
  have hnm := (name_of_methodNamed Bd.named Bd.method).1
  have X0 : Stand p l e ({ frames := 0, cells := 0, slots := 0, locals := 0 } : Room) s m #[(.long q1), (.long q2)] below meth c s₁ [] 0 0 := Stand.of_body Bd
  have e0 : s₁.heap = h0 := by rw [← hh, Bd.state]; rfl
  have N0 := Fr.nil n0
  have pre0 : ∀ t, Steps p.tables e below (s₁.setTop (mkF m 0 #[.val (.long q1), .second, .val (.long q2), .second, .unset, .unset, .unset, .unset, .unset, .unset, .unset] [])) t → Steps p.tables e below (s₁.setTop (entryFrame m #[(.long q1), (.long q2)] 11)) t := fun t k => castTop (ef_4 m q1 q2) k
  obtain ⟨fs, hr, hrun, hended, hW, hsame⟩ := X0.leave (v := some (.long (16777216 : Int64))) (fun h => by rw [Bd.returns] at h; cases h)
  refine ⟨_, _, pre0 _ ?_, hrun, hended, _, _, rfl, ?_, ⟨_, rfl⟩, hW, hsame.mono (by decide) (by decide)⟩
  · show Steps p.tables e below (s₁.setTop (mkF m 0 #[.val (.long q1), .second, .val (.long q2), .second, .unset, .unset, .unset, .unset, .unset, .unset, .unset] [])) _
    refine XS.lloadN X0.here hx rfl (hb hby d4_0) rfl ?_
    show Steps p.tables e below (s₁.setTop (mkF m 1 #[.val (.long q1), .second, .val (.long q2), .second, .unset, .unset, .unset, .unset, .unset, .unset, .unset] [(.long q2)])) _
    refine XS.lconst X0.here hx rfl (hb hby d4_1) ?_
    show Steps p.tables e below (s₁.setTop (mkF m 2 #[.val (.long q1), .second, .val (.long q2), .second, .unset, .unset, .unset, .unset, .unset, .unset, .unset] [(.long (0 : Int64)), (.long q2)])) _
    refine XS.lcmp X0.here hx rfl (hb hby d4_2) rfl ?_
    show Steps p.tables e below (s₁.setTop (mkF m 3 #[.val (.long q1), .second, .val (.long q2), .second, .unset, .unset, .unset, .unset, .unset, .unset, .unset] [(.int (lcmpW q2 (0 : Int64)))])) _
    refine XS.ifYes X0.here hx rfl (pc0 := 3) (pc' := 28) rfl (hb hby d4_3) rfl ((if0 _ _).trans (flt hc3).2.2.2) (by decide) (by decide) ?_
    show Steps p.tables e below (s₁.setTop (mkF m 28 #[.val (.long q1), .second, .val (.long q2), .second, .unset, .unset, .unset, .unset, .unset, .unset, .unset] [])) _
    refine XS.iconst X0.here hx rfl (hb hby d4_28) ?_
    show Steps p.tables e below (s₁.setTop (mkF m 29 #[.val (.long q1), .second, .val (.long q2), .second, .unset, .unset, .unset, .unset, .unset, .unset, .unset] [(.int (0 : Int32))])) _
    refine XS.istore X0.here hx rfl (hb hby d4_29) rfl (l' := #[.val (.long q1), .second, .val (.long q2), .second, .val (.int (0 : Int32)), .unset, .unset, .unset, .unset, .unset, .unset]) rfl ?_
    show Steps p.tables e below (s₁.setTop (mkF m 31 #[.val (.long q1), .second, .val (.long q2), .second, .val (.int (0 : Int32)), .unset, .unset, .unset, .unset, .unset, .unset] [])) _
    refine XS.iload X0.here hx rfl (hb hby d4_31) rfl ?_
    show Steps p.tables e below (s₁.setTop (mkF m 33 #[.val (.long q1), .second, .val (.long q2), .second, .val (.int (0 : Int32)), .unset, .unset, .unset, .unset, .unset, .unset] [(.int (0 : Int32))])) _
    refine XS.ifYes X0.here hx rfl (pc0 := 33) (pc' := 38) rfl (hb hby d4_33) rfl ((if0 _ _).trans (teq (rfl : (0 : Int32) = (0 : Int32))).1) (by decide) (by decide) ?_
    show Steps p.tables e below (s₁.setTop (mkF m 38 #[.val (.long q1), .second, .val (.long q2), .second, .val (.int (0 : Int32)), .unset, .unset, .unset, .unset, .unset, .unset] [])) _
    refine XS.lloadN X0.here hx rfl (hb hby d4_38) rfl ?_
    show Steps p.tables e below (s₁.setTop (mkF m 39 #[.val (.long q1), .second, .val (.long q2), .second, .val (.int (0 : Int32)), .unset, .unset, .unset, .unset, .unset, .unset] [(.long q1)])) _
    refine X0.ldc2Long hx hown (mvT hZ (hw _ (List.mem_of_getElem? (i := 19) rfl))) (g := (mkF m 39 #[.val (.long q1), .second, .val (.long q2), .second, .val (.int (0 : Int32)), .unset, .unset, .unset, .unset, .unset, .unset] [(.long q1)])) rfl (hb hby d4_39) _ ?_
    show Steps p.tables e below (s₁.setTop (mkF m 42 #[.val (.long q1), .second, .val (.long q2), .second, .val (.int (0 : Int32)), .unset, .unset, .unset, .unset, .unset, .unset] [(.long (256 : Int64)), (.long q1)])) _
    refine XS.ldiv X0.here hx rfl (hb hby d4_42) rfl (by decide) ?_
    show Steps p.tables e below (s₁.setTop (mkF m 43 #[.val (.long q1), .second, .val (.long q2), .second, .val (.int (0 : Int32)), .unset, .unset, .unset, .unset, .unset, .unset] [(.long (q1 / (256 : Int64)))])) _
    refine XS.lstore X0.here hx rfl (hb hby d4_43) rfl (l' := #[.val (.long q1), .second, .val (.long q2), .second, .val (.int (0 : Int32)), .val (.long (q1 / (256 : Int64))), .second, .unset, .unset, .unset, .unset]) rfl ?_
    show Steps p.tables e below (s₁.setTop (mkF m 45 #[.val (.long q1), .second, .val (.long q2), .second, .val (.int (0 : Int32)), .val (.long (q1 / (256 : Int64))), .second, .unset, .unset, .unset, .unset] [])) _
    refine XS.lload X0.here hx rfl (hb hby d4_45) rfl ?_
    show Steps p.tables e below (s₁.setTop (mkF m 47 #[.val (.long q1), .second, .val (.long q2), .second, .val (.int (0 : Int32)), .val (.long (q1 / (256 : Int64))), .second, .unset, .unset, .unset, .unset] [(.long (q1 / (256 : Int64)))])) _
    refine X0.ldc2Long hx hown (mvT hZ (hw _ (List.mem_of_getElem? (i := 20) rfl))) (g := (mkF m 47 #[.val (.long q1), .second, .val (.long q2), .second, .val (.int (0 : Int32)), .val (.long (q1 / (256 : Int64))), .second, .unset, .unset, .unset, .unset] [(.long (q1 / (256 : Int64)))])) rfl (hb hby d4_47) _ ?_
    show Steps p.tables e below (s₁.setTop (mkF m 50 #[.val (.long q1), .second, .val (.long q2), .second, .val (.int (0 : Int32)), .val (.long (q1 / (256 : Int64))), .second, .unset, .unset, .unset, .unset] [(.long (524288 : Int64)), (.long (q1 / (256 : Int64)))])) _
    refine XS.lcmp X0.here hx rfl (hb hby d4_50) rfl ?_
    show Steps p.tables e below (s₁.setTop (mkF m 51 #[.val (.long q1), .second, .val (.long q2), .second, .val (.int (0 : Int32)), .val (.long (q1 / (256 : Int64))), .second, .unset, .unset, .unset, .unset] [(.int (lcmpW (q1 / (256 : Int64)) (524288 : Int64)))])) _
    refine XS.ifYes X0.here hx rfl (pc0 := 51) (pc' := 62) rfl (hb hby d4_51) rfl ((if0 _ _).trans (flt hc51).2.1) (by decide) (by decide) ?_
    show Steps p.tables e below (s₁.setTop (mkF m 62 #[.val (.long q1), .second, .val (.long q2), .second, .val (.int (0 : Int32)), .val (.long (q1 / (256 : Int64))), .second, .unset, .unset, .unset, .unset] [])) _
    refine XS.lload X0.here hx rfl (hb hby d4_62) rfl ?_
    show Steps p.tables e below (s₁.setTop (mkF m 64 #[.val (.long q1), .second, .val (.long q2), .second, .val (.int (0 : Int32)), .val (.long (q1 / (256 : Int64))), .second, .unset, .unset, .unset, .unset] [(.long (q1 / (256 : Int64)))])) _
    refine X0.ldc2Long hx hown (mvT hZ (hw _ (List.mem_of_getElem? (i := 26) rfl))) (g := (mkF m 64 #[.val (.long q1), .second, .val (.long q2), .second, .val (.int (0 : Int32)), .val (.long (q1 / (256 : Int64))), .second, .unset, .unset, .unset, .unset] [(.long (q1 / (256 : Int64)))])) rfl (hb hby d4_64) _ ?_
    show Steps p.tables e below (s₁.setTop (mkF m 67 #[.val (.long q1), .second, .val (.long q2), .second, .val (.int (0 : Int32)), .val (.long (q1 / (256 : Int64))), .second, .unset, .unset, .unset, .unset] [(.long (16777216 : Int64)), (.long (q1 / (256 : Int64)))])) _
    refine XS.lcmp X0.here hx rfl (hb hby d4_67) rfl ?_
    show Steps p.tables e below (s₁.setTop (mkF m 68 #[.val (.long q1), .second, .val (.long q2), .second, .val (.int (0 : Int32)), .val (.long (q1 / (256 : Int64))), .second, .unset, .unset, .unset, .unset] [(.int (lcmpW (q1 / (256 : Int64)) (16777216 : Int64)))])) _
    refine XS.ifNo X0.here hx rfl (hb hby d4_68) rfl ((if0 _ _).trans (tlt hc68).2.2.2) ?_
    show Steps p.tables e below (s₁.setTop (mkF m 71 #[.val (.long q1), .second, .val (.long q2), .second, .val (.int (0 : Int32)), .val (.long (q1 / (256 : Int64))), .second, .unset, .unset, .unset, .unset] [])) _
    refine X0.ldc2Long hx hown (mvT hZ (hw _ (List.mem_of_getElem? (i := 26) rfl))) (g := (mkF m 71 #[.val (.long q1), .second, .val (.long q2), .second, .val (.int (0 : Int32)), .val (.long (q1 / (256 : Int64))), .second, .unset, .unset, .unset, .unset] [])) rfl (hb hby d4_71) _ ?_
    show Steps p.tables e below (s₁.setTop (mkF m 74 #[.val (.long q1), .second, .val (.long q2), .second, .val (.int (0 : Int32)), .val (.long (q1 / (256 : Int64))), .second, .unset, .unset, .unset, .unset] [(.long (16777216 : Int64))])) _
    refine XS.lstore X0.here hx rfl (hb hby d4_74) rfl (l' := #[.val (.long q1), .second, .val (.long q2), .second, .val (.int (0 : Int32)), .val (.long (q1 / (256 : Int64))), .second, .val (.long (16777216 : Int64)), .second, .unset, .unset]) rfl ?_
    show Steps p.tables e below (s₁.setTop (mkF m 76 #[.val (.long q1), .second, .val (.long q2), .second, .val (.int (0 : Int32)), .val (.long (q1 / (256 : Int64))), .second, .val (.long (16777216 : Int64)), .second, .unset, .unset] [])) _
    refine XS.goto X0.here hx rfl (pc0 := 76) (pc' := 83) rfl (hb hby d4_76) (by decide) (by decide) ?_
    show Steps p.tables e below (s₁.setTop (mkF m 83 #[.val (.long q1), .second, .val (.long q2), .second, .val (.int (0 : Int32)), .val (.long (q1 / (256 : Int64))), .second, .val (.long (16777216 : Int64)), .second, .unset, .unset] [])) _
    refine XS.lloadN X0.here hx rfl (hb hby d4_83) rfl ?_
    show Steps p.tables e below (s₁.setTop (mkF m 84 #[.val (.long q1), .second, .val (.long q2), .second, .val (.int (0 : Int32)), .val (.long (q1 / (256 : Int64))), .second, .val (.long (16777216 : Int64)), .second, .unset, .unset] [(.long q2)])) _
    refine X0.ldc2Long hx hown (mvT hZ (hw _ (List.mem_of_getElem? (i := 21) rfl))) (g := (mkF m 84 #[.val (.long q1), .second, .val (.long q2), .second, .val (.int (0 : Int32)), .val (.long (q1 / (256 : Int64))), .second, .val (.long (16777216 : Int64)), .second, .unset, .unset] [(.long q2)])) rfl (hb hby d4_84) _ ?_
    show Steps p.tables e below (s₁.setTop (mkF m 87 #[.val (.long q1), .second, .val (.long q2), .second, .val (.int (0 : Int32)), .val (.long (q1 / (256 : Int64))), .second, .val (.long (16777216 : Int64)), .second, .unset, .unset] [(.long (2 : Int64)), (.long q2)])) _
    refine XS.ldiv X0.here hx rfl (hb hby d4_87) rfl (by decide) ?_
    show Steps p.tables e below (s₁.setTop (mkF m 88 #[.val (.long q1), .second, .val (.long q2), .second, .val (.int (0 : Int32)), .val (.long (q1 / (256 : Int64))), .second, .val (.long (16777216 : Int64)), .second, .unset, .unset] [(.long (q2 / (2 : Int64)))])) _
    refine XS.lstore X0.here hx rfl (hb hby d4_88) rfl (l' := #[.val (.long q1), .second, .val (.long q2), .second, .val (.int (0 : Int32)), .val (.long (q1 / (256 : Int64))), .second, .val (.long (16777216 : Int64)), .second, .val (.long (q2 / (2 : Int64))), .second]) rfl ?_
    show Steps p.tables e below (s₁.setTop (mkF m 90 #[.val (.long q1), .second, .val (.long q2), .second, .val (.int (0 : Int32)), .val (.long (q1 / (256 : Int64))), .second, .val (.long (16777216 : Int64)), .second, .val (.long (q2 / (2 : Int64))), .second] [])) _
    refine XS.lload X0.here hx rfl (hb hby d4_90) rfl ?_
    show Steps p.tables e below (s₁.setTop (mkF m 92 #[.val (.long q1), .second, .val (.long q2), .second, .val (.int (0 : Int32)), .val (.long (q1 / (256 : Int64))), .second, .val (.long (16777216 : Int64)), .second, .val (.long (q2 / (2 : Int64))), .second] [(.long (q2 / (2 : Int64)))])) _
    refine XS.lload X0.here hx rfl (hb hby d4_92) rfl ?_
    show Steps p.tables e below (s₁.setTop (mkF m 94 #[.val (.long q1), .second, .val (.long q2), .second, .val (.int (0 : Int32)), .val (.long (q1 / (256 : Int64))), .second, .val (.long (16777216 : Int64)), .second, .val (.long (q2 / (2 : Int64))), .second] [(.long (16777216 : Int64)), (.long (q2 / (2 : Int64)))])) _
    refine XS.lcmp X0.here hx rfl (hb hby d4_94) rfl ?_
    show Steps p.tables e below (s₁.setTop (mkF m 95 #[.val (.long q1), .second, .val (.long q2), .second, .val (.int (0 : Int32)), .val (.long (q1 / (256 : Int64))), .second, .val (.long (16777216 : Int64)), .second, .val (.long (q2 / (2 : Int64))), .second] [(.int (lcmpW (q2 / (2 : Int64)) (16777216 : Int64)))])) _
    refine XS.ifYes X0.here hx rfl (pc0 := 95) (pc' := 101) rfl (hb hby d4_95) rfl ((if0 _ _).trans (flt hc95).2.2.2) (by decide) (by decide) ?_
    show Steps p.tables e below (s₁.setTop (mkF m 101 #[.val (.long q1), .second, .val (.long q2), .second, .val (.int (0 : Int32)), .val (.long (q1 / (256 : Int64))), .second, .val (.long (16777216 : Int64)), .second, .val (.long (q2 / (2 : Int64))), .second] [])) _
    refine XS.lload X0.here hx rfl (hb hby d4_101) rfl ?_
    show Steps p.tables e below (s₁.setTop (mkF m 103 #[.val (.long q1), .second, .val (.long q2), .second, .val (.int (0 : Int32)), .val (.long (q1 / (256 : Int64))), .second, .val (.long (16777216 : Int64)), .second, .val (.long (q2 / (2 : Int64))), .second] [(.long (16777216 : Int64))])) _
    jvm_step X0.here [X0.here.top, hx, (hb hby d4_103), X0.method', Bd.returns, narrow]
    first | (intro acts; rw [hr _ acts rfl rfl rfl]) | rw [hr _ _ rfl rfl rfl]
    exact Steps.refl _
  · show Q_rm4 Z q1 q2 h0 n0 _ s₁.heap _
    exact ⟨by rw [F4, if_neg hc3, if_neg hc51, if_pos hc68, if_neg hc95], N0, e0⟩
set_option maxRecDepth 65536 in
set_option maxHeartbeats 40000000 in
theorem rm4_tttf (l : Launch) (Z : State) (a0 : Array Value) (hw : ∀ d ∈ tables_1, d.before a0 Z = true) (ws : List Jvm.Cond) (q1 : Int64) (q2 : Int64) (h0 : Heap) (n0 : Nat) (Z0 : n0 ≤ h0.size) (hc3 : ¬ ((0 : Int32) < (lcmpW q2 (0 : Int64)))) (hc51 : ¬ ((lcmpW (q1 / (256 : Int64)) (524288 : Int64)) < (0 : Int32))) (hc68 : ¬ ((0 : Int32) < (lcmpW (q1 / (256 : Int64)) (16777216 : Int64)))) (hc95 : (0 : Int32) < (lcmpW (q2 / (2 : Int64)) (q1 / (256 : Int64)))) :
    MetFree l (⟨"dev/driftline/HeapReserveBytesPinLaw", "expected", "(JJ)J"⟩ : MethodName) (head1 (Jvm.Cond.code (⟨"dev/driftline/HeapReserveBytesPinLaw", "expected", "(JJ)J"⟩ : MethodName) method_3_code 11 (some .long) :: ws) ({ frames := 0, cells := 0, slots := 0, locals := 0 } : Room)) (fun a U => a = #[(.long q1), (.long q2)] ∧ Z.Warmed39 U.vm ∧ U.heap = h0) (fun _ _ _ _ _ => True) (fun _ U o U' => ∃ v L, o = .returned v ∧ Q_rm4 Z q1 q2 h0 n0 v U'.heap L ∧ FrameEnd U o U' L ({ frames := 0, cells := 0, slots := 0, locals := 0 } : Room).cells ({ frames := 0, cells := 0, slots := 0, locals := 0 } : Room).slots) := by
  refine MetFree.of_bodySF (plainFor_of_name pn_4) hisR ?_
  intro p e s m args below meth c s₁ Bd hml0 hP hK
  obtain ⟨rfl, hZ, hh⟩ := hP
  have hx := Bd.exec
  have hby := Bd.bytes
  have hml : c.maxLocals = 11 := hml0
  have hown : s.vm.findClass "dev/driftline/HeapReserveBytesPinLaw" = some m.cls := findClass_of_methodNamed Bd.named
  have hnm := (name_of_methodNamed Bd.named Bd.method).1
  have X0 : Stand p l e ({ frames := 0, cells := 0, slots := 0, locals := 0 } : Room) s m #[(.long q1), (.long q2)] below meth c s₁ [] 0 0 := Stand.of_body Bd
  have e0 : s₁.heap = h0 := by rw [← hh, Bd.state]; rfl
  have N0 := Fr.nil n0
  have pre0 : ∀ t, Steps p.tables e below (s₁.setTop (mkF m 0 #[.val (.long q1), .second, .val (.long q2), .second, .unset, .unset, .unset, .unset, .unset, .unset, .unset] [])) t → Steps p.tables e below (s₁.setTop (entryFrame m #[(.long q1), (.long q2)] 11)) t := fun t k => castTop (ef_4 m q1 q2) k
  obtain ⟨fs, hr, hrun, hended, hW, hsame⟩ := X0.leave (v := some (.long (q2 / (2 : Int64)))) (fun h => by rw [Bd.returns] at h; cases h)
  refine ⟨_, _, pre0 _ ?_, hrun, hended, _, _, rfl, ?_, ⟨_, rfl⟩, hW, hsame.mono (by decide) (by decide)⟩
  · show Steps p.tables e below (s₁.setTop (mkF m 0 #[.val (.long q1), .second, .val (.long q2), .second, .unset, .unset, .unset, .unset, .unset, .unset, .unset] [])) _
    refine XS.lloadN X0.here hx rfl (hb hby d4_0) rfl ?_
    show Steps p.tables e below (s₁.setTop (mkF m 1 #[.val (.long q1), .second, .val (.long q2), .second, .unset, .unset, .unset, .unset, .unset, .unset, .unset] [(.long q2)])) _
    refine XS.lconst X0.here hx rfl (hb hby d4_1) ?_
    show Steps p.tables e below (s₁.setTop (mkF m 2 #[.val (.long q1), .second, .val (.long q2), .second, .unset, .unset, .unset, .unset, .unset, .unset, .unset] [(.long (0 : Int64)), (.long q2)])) _
    refine XS.lcmp X0.here hx rfl (hb hby d4_2) rfl ?_
    show Steps p.tables e below (s₁.setTop (mkF m 3 #[.val (.long q1), .second, .val (.long q2), .second, .unset, .unset, .unset, .unset, .unset, .unset, .unset] [(.int (lcmpW q2 (0 : Int64)))])) _
    refine XS.ifYes X0.here hx rfl (pc0 := 3) (pc' := 28) rfl (hb hby d4_3) rfl ((if0 _ _).trans (flt hc3).2.2.2) (by decide) (by decide) ?_
    show Steps p.tables e below (s₁.setTop (mkF m 28 #[.val (.long q1), .second, .val (.long q2), .second, .unset, .unset, .unset, .unset, .unset, .unset, .unset] [])) _
    refine XS.iconst X0.here hx rfl (hb hby d4_28) ?_
    show Steps p.tables e below (s₁.setTop (mkF m 29 #[.val (.long q1), .second, .val (.long q2), .second, .unset, .unset, .unset, .unset, .unset, .unset, .unset] [(.int (0 : Int32))])) _
    refine XS.istore X0.here hx rfl (hb hby d4_29) rfl (l' := #[.val (.long q1), .second, .val (.long q2), .second, .val (.int (0 : Int32)), .unset, .unset, .unset, .unset, .unset, .unset]) rfl ?_
    show Steps p.tables e below (s₁.setTop (mkF m 31 #[.val (.long q1), .second, .val (.long q2), .second, .val (.int (0 : Int32)), .unset, .unset, .unset, .unset, .unset, .unset] [])) _
    refine XS.iload X0.here hx rfl (hb hby d4_31) rfl ?_
    show Steps p.tables e below (s₁.setTop (mkF m 33 #[.val (.long q1), .second, .val (.long q2), .second, .val (.int (0 : Int32)), .unset, .unset, .unset, .unset, .unset, .unset] [(.int (0 : Int32))])) _
    refine XS.ifYes X0.here hx rfl (pc0 := 33) (pc' := 38) rfl (hb hby d4_33) rfl ((if0 _ _).trans (teq (rfl : (0 : Int32) = (0 : Int32))).1) (by decide) (by decide) ?_
    show Steps p.tables e below (s₁.setTop (mkF m 38 #[.val (.long q1), .second, .val (.long q2), .second, .val (.int (0 : Int32)), .unset, .unset, .unset, .unset, .unset, .unset] [])) _
    refine XS.lloadN X0.here hx rfl (hb hby d4_38) rfl ?_
    show Steps p.tables e below (s₁.setTop (mkF m 39 #[.val (.long q1), .second, .val (.long q2), .second, .val (.int (0 : Int32)), .unset, .unset, .unset, .unset, .unset, .unset] [(.long q1)])) _
    refine X0.ldc2Long hx hown (mvT hZ (hw _ (List.mem_of_getElem? (i := 19) rfl))) (g := (mkF m 39 #[.val (.long q1), .second, .val (.long q2), .second, .val (.int (0 : Int32)), .unset, .unset, .unset, .unset, .unset, .unset] [(.long q1)])) rfl (hb hby d4_39) _ ?_
    show Steps p.tables e below (s₁.setTop (mkF m 42 #[.val (.long q1), .second, .val (.long q2), .second, .val (.int (0 : Int32)), .unset, .unset, .unset, .unset, .unset, .unset] [(.long (256 : Int64)), (.long q1)])) _
    refine XS.ldiv X0.here hx rfl (hb hby d4_42) rfl (by decide) ?_
    show Steps p.tables e below (s₁.setTop (mkF m 43 #[.val (.long q1), .second, .val (.long q2), .second, .val (.int (0 : Int32)), .unset, .unset, .unset, .unset, .unset, .unset] [(.long (q1 / (256 : Int64)))])) _
    refine XS.lstore X0.here hx rfl (hb hby d4_43) rfl (l' := #[.val (.long q1), .second, .val (.long q2), .second, .val (.int (0 : Int32)), .val (.long (q1 / (256 : Int64))), .second, .unset, .unset, .unset, .unset]) rfl ?_
    show Steps p.tables e below (s₁.setTop (mkF m 45 #[.val (.long q1), .second, .val (.long q2), .second, .val (.int (0 : Int32)), .val (.long (q1 / (256 : Int64))), .second, .unset, .unset, .unset, .unset] [])) _
    refine XS.lload X0.here hx rfl (hb hby d4_45) rfl ?_
    show Steps p.tables e below (s₁.setTop (mkF m 47 #[.val (.long q1), .second, .val (.long q2), .second, .val (.int (0 : Int32)), .val (.long (q1 / (256 : Int64))), .second, .unset, .unset, .unset, .unset] [(.long (q1 / (256 : Int64)))])) _
    refine X0.ldc2Long hx hown (mvT hZ (hw _ (List.mem_of_getElem? (i := 20) rfl))) (g := (mkF m 47 #[.val (.long q1), .second, .val (.long q2), .second, .val (.int (0 : Int32)), .val (.long (q1 / (256 : Int64))), .second, .unset, .unset, .unset, .unset] [(.long (q1 / (256 : Int64)))])) rfl (hb hby d4_47) _ ?_
    show Steps p.tables e below (s₁.setTop (mkF m 50 #[.val (.long q1), .second, .val (.long q2), .second, .val (.int (0 : Int32)), .val (.long (q1 / (256 : Int64))), .second, .unset, .unset, .unset, .unset] [(.long (524288 : Int64)), (.long (q1 / (256 : Int64)))])) _
    refine XS.lcmp X0.here hx rfl (hb hby d4_50) rfl ?_
    show Steps p.tables e below (s₁.setTop (mkF m 51 #[.val (.long q1), .second, .val (.long q2), .second, .val (.int (0 : Int32)), .val (.long (q1 / (256 : Int64))), .second, .unset, .unset, .unset, .unset] [(.int (lcmpW (q1 / (256 : Int64)) (524288 : Int64)))])) _
    refine XS.ifYes X0.here hx rfl (pc0 := 51) (pc' := 62) rfl (hb hby d4_51) rfl ((if0 _ _).trans (flt hc51).2.1) (by decide) (by decide) ?_
    show Steps p.tables e below (s₁.setTop (mkF m 62 #[.val (.long q1), .second, .val (.long q2), .second, .val (.int (0 : Int32)), .val (.long (q1 / (256 : Int64))), .second, .unset, .unset, .unset, .unset] [])) _
    refine XS.lload X0.here hx rfl (hb hby d4_62) rfl ?_
    show Steps p.tables e below (s₁.setTop (mkF m 64 #[.val (.long q1), .second, .val (.long q2), .second, .val (.int (0 : Int32)), .val (.long (q1 / (256 : Int64))), .second, .unset, .unset, .unset, .unset] [(.long (q1 / (256 : Int64)))])) _
    refine X0.ldc2Long hx hown (mvT hZ (hw _ (List.mem_of_getElem? (i := 26) rfl))) (g := (mkF m 64 #[.val (.long q1), .second, .val (.long q2), .second, .val (.int (0 : Int32)), .val (.long (q1 / (256 : Int64))), .second, .unset, .unset, .unset, .unset] [(.long (q1 / (256 : Int64)))])) rfl (hb hby d4_64) _ ?_
    show Steps p.tables e below (s₁.setTop (mkF m 67 #[.val (.long q1), .second, .val (.long q2), .second, .val (.int (0 : Int32)), .val (.long (q1 / (256 : Int64))), .second, .unset, .unset, .unset, .unset] [(.long (16777216 : Int64)), (.long (q1 / (256 : Int64)))])) _
    refine XS.lcmp X0.here hx rfl (hb hby d4_67) rfl ?_
    show Steps p.tables e below (s₁.setTop (mkF m 68 #[.val (.long q1), .second, .val (.long q2), .second, .val (.int (0 : Int32)), .val (.long (q1 / (256 : Int64))), .second, .unset, .unset, .unset, .unset] [(.int (lcmpW (q1 / (256 : Int64)) (16777216 : Int64)))])) _
    refine XS.ifYes X0.here hx rfl (pc0 := 68) (pc' := 79) rfl (hb hby d4_68) rfl ((if0 _ _).trans (flt hc68).2.2.2) (by decide) (by decide) ?_
    show Steps p.tables e below (s₁.setTop (mkF m 79 #[.val (.long q1), .second, .val (.long q2), .second, .val (.int (0 : Int32)), .val (.long (q1 / (256 : Int64))), .second, .unset, .unset, .unset, .unset] [])) _
    refine XS.lload X0.here hx rfl (hb hby d4_79) rfl ?_
    show Steps p.tables e below (s₁.setTop (mkF m 81 #[.val (.long q1), .second, .val (.long q2), .second, .val (.int (0 : Int32)), .val (.long (q1 / (256 : Int64))), .second, .unset, .unset, .unset, .unset] [(.long (q1 / (256 : Int64)))])) _
    refine XS.lstore X0.here hx rfl (hb hby d4_81) rfl (l' := #[.val (.long q1), .second, .val (.long q2), .second, .val (.int (0 : Int32)), .val (.long (q1 / (256 : Int64))), .second, .val (.long (q1 / (256 : Int64))), .second, .unset, .unset]) rfl ?_
    show Steps p.tables e below (s₁.setTop (mkF m 83 #[.val (.long q1), .second, .val (.long q2), .second, .val (.int (0 : Int32)), .val (.long (q1 / (256 : Int64))), .second, .val (.long (q1 / (256 : Int64))), .second, .unset, .unset] [])) _
    refine XS.lloadN X0.here hx rfl (hb hby d4_83) rfl ?_
    show Steps p.tables e below (s₁.setTop (mkF m 84 #[.val (.long q1), .second, .val (.long q2), .second, .val (.int (0 : Int32)), .val (.long (q1 / (256 : Int64))), .second, .val (.long (q1 / (256 : Int64))), .second, .unset, .unset] [(.long q2)])) _
    refine X0.ldc2Long hx hown (mvT hZ (hw _ (List.mem_of_getElem? (i := 21) rfl))) (g := (mkF m 84 #[.val (.long q1), .second, .val (.long q2), .second, .val (.int (0 : Int32)), .val (.long (q1 / (256 : Int64))), .second, .val (.long (q1 / (256 : Int64))), .second, .unset, .unset] [(.long q2)])) rfl (hb hby d4_84) _ ?_
    show Steps p.tables e below (s₁.setTop (mkF m 87 #[.val (.long q1), .second, .val (.long q2), .second, .val (.int (0 : Int32)), .val (.long (q1 / (256 : Int64))), .second, .val (.long (q1 / (256 : Int64))), .second, .unset, .unset] [(.long (2 : Int64)), (.long q2)])) _
    refine XS.ldiv X0.here hx rfl (hb hby d4_87) rfl (by decide) ?_
    show Steps p.tables e below (s₁.setTop (mkF m 88 #[.val (.long q1), .second, .val (.long q2), .second, .val (.int (0 : Int32)), .val (.long (q1 / (256 : Int64))), .second, .val (.long (q1 / (256 : Int64))), .second, .unset, .unset] [(.long (q2 / (2 : Int64)))])) _
    refine XS.lstore X0.here hx rfl (hb hby d4_88) rfl (l' := #[.val (.long q1), .second, .val (.long q2), .second, .val (.int (0 : Int32)), .val (.long (q1 / (256 : Int64))), .second, .val (.long (q1 / (256 : Int64))), .second, .val (.long (q2 / (2 : Int64))), .second]) rfl ?_
    show Steps p.tables e below (s₁.setTop (mkF m 90 #[.val (.long q1), .second, .val (.long q2), .second, .val (.int (0 : Int32)), .val (.long (q1 / (256 : Int64))), .second, .val (.long (q1 / (256 : Int64))), .second, .val (.long (q2 / (2 : Int64))), .second] [])) _
    refine XS.lload X0.here hx rfl (hb hby d4_90) rfl ?_
    show Steps p.tables e below (s₁.setTop (mkF m 92 #[.val (.long q1), .second, .val (.long q2), .second, .val (.int (0 : Int32)), .val (.long (q1 / (256 : Int64))), .second, .val (.long (q1 / (256 : Int64))), .second, .val (.long (q2 / (2 : Int64))), .second] [(.long (q2 / (2 : Int64)))])) _
    refine XS.lload X0.here hx rfl (hb hby d4_92) rfl ?_
    show Steps p.tables e below (s₁.setTop (mkF m 94 #[.val (.long q1), .second, .val (.long q2), .second, .val (.int (0 : Int32)), .val (.long (q1 / (256 : Int64))), .second, .val (.long (q1 / (256 : Int64))), .second, .val (.long (q2 / (2 : Int64))), .second] [(.long (q1 / (256 : Int64))), (.long (q2 / (2 : Int64)))])) _
    refine XS.lcmp X0.here hx rfl (hb hby d4_94) rfl ?_
    show Steps p.tables e below (s₁.setTop (mkF m 95 #[.val (.long q1), .second, .val (.long q2), .second, .val (.int (0 : Int32)), .val (.long (q1 / (256 : Int64))), .second, .val (.long (q1 / (256 : Int64))), .second, .val (.long (q2 / (2 : Int64))), .second] [(.int (lcmpW (q2 / (2 : Int64)) (q1 / (256 : Int64))))])) _
    refine XS.ifNo X0.here hx rfl (hb hby d4_95) rfl ((if0 _ _).trans (tlt hc95).2.2.2) ?_
    show Steps p.tables e below (s₁.setTop (mkF m 98 #[.val (.long q1), .second, .val (.long q2), .second, .val (.int (0 : Int32)), .val (.long (q1 / (256 : Int64))), .second, .val (.long (q1 / (256 : Int64))), .second, .val (.long (q2 / (2 : Int64))), .second] [])) _
    refine XS.lload X0.here hx rfl (hb hby d4_98) rfl ?_
    show Steps p.tables e below (s₁.setTop (mkF m 100 #[.val (.long q1), .second, .val (.long q2), .second, .val (.int (0 : Int32)), .val (.long (q1 / (256 : Int64))), .second, .val (.long (q1 / (256 : Int64))), .second, .val (.long (q2 / (2 : Int64))), .second] [(.long (q2 / (2 : Int64)))])) _
    jvm_step X0.here [X0.here.top, hx, (hb hby d4_100), X0.method', Bd.returns, narrow]
    first | (intro acts; rw [hr _ acts rfl rfl rfl]) | rw [hr _ _ rfl rfl rfl]
    exact Steps.refl _
  · show Q_rm4 Z q1 q2 h0 n0 _ s₁.heap _
    exact ⟨by rw [F4, if_neg hc3, if_neg hc51, if_neg hc68, if_pos hc95], N0, e0⟩
set_option maxRecDepth 65536 in
set_option maxHeartbeats 40000000 in
theorem rm4_tttt (l : Launch) (Z : State) (a0 : Array Value) (hw : ∀ d ∈ tables_1, d.before a0 Z = true) (ws : List Jvm.Cond) (q1 : Int64) (q2 : Int64) (h0 : Heap) (n0 : Nat) (Z0 : n0 ≤ h0.size) (hc3 : ¬ ((0 : Int32) < (lcmpW q2 (0 : Int64)))) (hc51 : ¬ ((lcmpW (q1 / (256 : Int64)) (524288 : Int64)) < (0 : Int32))) (hc68 : ¬ ((0 : Int32) < (lcmpW (q1 / (256 : Int64)) (16777216 : Int64)))) (hc95 : ¬ ((0 : Int32) < (lcmpW (q2 / (2 : Int64)) (q1 / (256 : Int64))))) :
    MetFree l (⟨"dev/driftline/HeapReserveBytesPinLaw", "expected", "(JJ)J"⟩ : MethodName) (head1 (Jvm.Cond.code (⟨"dev/driftline/HeapReserveBytesPinLaw", "expected", "(JJ)J"⟩ : MethodName) method_3_code 11 (some .long) :: ws) ({ frames := 0, cells := 0, slots := 0, locals := 0 } : Room)) (fun a U => a = #[(.long q1), (.long q2)] ∧ Z.Warmed39 U.vm ∧ U.heap = h0) (fun _ _ _ _ _ => True) (fun _ U o U' => ∃ v L, o = .returned v ∧ Q_rm4 Z q1 q2 h0 n0 v U'.heap L ∧ FrameEnd U o U' L ({ frames := 0, cells := 0, slots := 0, locals := 0 } : Room).cells ({ frames := 0, cells := 0, slots := 0, locals := 0 } : Room).slots) := by
  refine MetFree.of_bodySF (plainFor_of_name pn_4) hisR ?_
  intro p e s m args below meth c s₁ Bd hml0 hP hK
  obtain ⟨rfl, hZ, hh⟩ := hP
  have hx := Bd.exec
  have hby := Bd.bytes
  have hml : c.maxLocals = 11 := hml0
  have hown : s.vm.findClass "dev/driftline/HeapReserveBytesPinLaw" = some m.cls := findClass_of_methodNamed Bd.named
  have hnm := (name_of_methodNamed Bd.named Bd.method).1
  have X0 : Stand p l e ({ frames := 0, cells := 0, slots := 0, locals := 0 } : Room) s m #[(.long q1), (.long q2)] below meth c s₁ [] 0 0 := Stand.of_body Bd
  have e0 : s₁.heap = h0 := by rw [← hh, Bd.state]; rfl
  have N0 := Fr.nil n0
  have pre0 : ∀ t, Steps p.tables e below (s₁.setTop (mkF m 0 #[.val (.long q1), .second, .val (.long q2), .second, .unset, .unset, .unset, .unset, .unset, .unset, .unset] [])) t → Steps p.tables e below (s₁.setTop (entryFrame m #[(.long q1), (.long q2)] 11)) t := fun t k => castTop (ef_4 m q1 q2) k
  obtain ⟨fs, hr, hrun, hended, hW, hsame⟩ := X0.leave (v := some (.long (q1 / (256 : Int64)))) (fun h => by rw [Bd.returns] at h; cases h)
  refine ⟨_, _, pre0 _ ?_, hrun, hended, _, _, rfl, ?_, ⟨_, rfl⟩, hW, hsame.mono (by decide) (by decide)⟩
  · show Steps p.tables e below (s₁.setTop (mkF m 0 #[.val (.long q1), .second, .val (.long q2), .second, .unset, .unset, .unset, .unset, .unset, .unset, .unset] [])) _
    refine XS.lloadN X0.here hx rfl (hb hby d4_0) rfl ?_
    show Steps p.tables e below (s₁.setTop (mkF m 1 #[.val (.long q1), .second, .val (.long q2), .second, .unset, .unset, .unset, .unset, .unset, .unset, .unset] [(.long q2)])) _
    refine XS.lconst X0.here hx rfl (hb hby d4_1) ?_
    show Steps p.tables e below (s₁.setTop (mkF m 2 #[.val (.long q1), .second, .val (.long q2), .second, .unset, .unset, .unset, .unset, .unset, .unset, .unset] [(.long (0 : Int64)), (.long q2)])) _
    refine XS.lcmp X0.here hx rfl (hb hby d4_2) rfl ?_
    show Steps p.tables e below (s₁.setTop (mkF m 3 #[.val (.long q1), .second, .val (.long q2), .second, .unset, .unset, .unset, .unset, .unset, .unset, .unset] [(.int (lcmpW q2 (0 : Int64)))])) _
    refine XS.ifYes X0.here hx rfl (pc0 := 3) (pc' := 28) rfl (hb hby d4_3) rfl ((if0 _ _).trans (flt hc3).2.2.2) (by decide) (by decide) ?_
    show Steps p.tables e below (s₁.setTop (mkF m 28 #[.val (.long q1), .second, .val (.long q2), .second, .unset, .unset, .unset, .unset, .unset, .unset, .unset] [])) _
    refine XS.iconst X0.here hx rfl (hb hby d4_28) ?_
    show Steps p.tables e below (s₁.setTop (mkF m 29 #[.val (.long q1), .second, .val (.long q2), .second, .unset, .unset, .unset, .unset, .unset, .unset, .unset] [(.int (0 : Int32))])) _
    refine XS.istore X0.here hx rfl (hb hby d4_29) rfl (l' := #[.val (.long q1), .second, .val (.long q2), .second, .val (.int (0 : Int32)), .unset, .unset, .unset, .unset, .unset, .unset]) rfl ?_
    show Steps p.tables e below (s₁.setTop (mkF m 31 #[.val (.long q1), .second, .val (.long q2), .second, .val (.int (0 : Int32)), .unset, .unset, .unset, .unset, .unset, .unset] [])) _
    refine XS.iload X0.here hx rfl (hb hby d4_31) rfl ?_
    show Steps p.tables e below (s₁.setTop (mkF m 33 #[.val (.long q1), .second, .val (.long q2), .second, .val (.int (0 : Int32)), .unset, .unset, .unset, .unset, .unset, .unset] [(.int (0 : Int32))])) _
    refine XS.ifYes X0.here hx rfl (pc0 := 33) (pc' := 38) rfl (hb hby d4_33) rfl ((if0 _ _).trans (teq (rfl : (0 : Int32) = (0 : Int32))).1) (by decide) (by decide) ?_
    show Steps p.tables e below (s₁.setTop (mkF m 38 #[.val (.long q1), .second, .val (.long q2), .second, .val (.int (0 : Int32)), .unset, .unset, .unset, .unset, .unset, .unset] [])) _
    refine XS.lloadN X0.here hx rfl (hb hby d4_38) rfl ?_
    show Steps p.tables e below (s₁.setTop (mkF m 39 #[.val (.long q1), .second, .val (.long q2), .second, .val (.int (0 : Int32)), .unset, .unset, .unset, .unset, .unset, .unset] [(.long q1)])) _
    refine X0.ldc2Long hx hown (mvT hZ (hw _ (List.mem_of_getElem? (i := 19) rfl))) (g := (mkF m 39 #[.val (.long q1), .second, .val (.long q2), .second, .val (.int (0 : Int32)), .unset, .unset, .unset, .unset, .unset, .unset] [(.long q1)])) rfl (hb hby d4_39) _ ?_
    show Steps p.tables e below (s₁.setTop (mkF m 42 #[.val (.long q1), .second, .val (.long q2), .second, .val (.int (0 : Int32)), .unset, .unset, .unset, .unset, .unset, .unset] [(.long (256 : Int64)), (.long q1)])) _
    refine XS.ldiv X0.here hx rfl (hb hby d4_42) rfl (by decide) ?_
    show Steps p.tables e below (s₁.setTop (mkF m 43 #[.val (.long q1), .second, .val (.long q2), .second, .val (.int (0 : Int32)), .unset, .unset, .unset, .unset, .unset, .unset] [(.long (q1 / (256 : Int64)))])) _
    refine XS.lstore X0.here hx rfl (hb hby d4_43) rfl (l' := #[.val (.long q1), .second, .val (.long q2), .second, .val (.int (0 : Int32)), .val (.long (q1 / (256 : Int64))), .second, .unset, .unset, .unset, .unset]) rfl ?_
    show Steps p.tables e below (s₁.setTop (mkF m 45 #[.val (.long q1), .second, .val (.long q2), .second, .val (.int (0 : Int32)), .val (.long (q1 / (256 : Int64))), .second, .unset, .unset, .unset, .unset] [])) _
    refine XS.lload X0.here hx rfl (hb hby d4_45) rfl ?_
    show Steps p.tables e below (s₁.setTop (mkF m 47 #[.val (.long q1), .second, .val (.long q2), .second, .val (.int (0 : Int32)), .val (.long (q1 / (256 : Int64))), .second, .unset, .unset, .unset, .unset] [(.long (q1 / (256 : Int64)))])) _
    refine X0.ldc2Long hx hown (mvT hZ (hw _ (List.mem_of_getElem? (i := 20) rfl))) (g := (mkF m 47 #[.val (.long q1), .second, .val (.long q2), .second, .val (.int (0 : Int32)), .val (.long (q1 / (256 : Int64))), .second, .unset, .unset, .unset, .unset] [(.long (q1 / (256 : Int64)))])) rfl (hb hby d4_47) _ ?_
    show Steps p.tables e below (s₁.setTop (mkF m 50 #[.val (.long q1), .second, .val (.long q2), .second, .val (.int (0 : Int32)), .val (.long (q1 / (256 : Int64))), .second, .unset, .unset, .unset, .unset] [(.long (524288 : Int64)), (.long (q1 / (256 : Int64)))])) _
    refine XS.lcmp X0.here hx rfl (hb hby d4_50) rfl ?_
    show Steps p.tables e below (s₁.setTop (mkF m 51 #[.val (.long q1), .second, .val (.long q2), .second, .val (.int (0 : Int32)), .val (.long (q1 / (256 : Int64))), .second, .unset, .unset, .unset, .unset] [(.int (lcmpW (q1 / (256 : Int64)) (524288 : Int64)))])) _
    refine XS.ifYes X0.here hx rfl (pc0 := 51) (pc' := 62) rfl (hb hby d4_51) rfl ((if0 _ _).trans (flt hc51).2.1) (by decide) (by decide) ?_
    show Steps p.tables e below (s₁.setTop (mkF m 62 #[.val (.long q1), .second, .val (.long q2), .second, .val (.int (0 : Int32)), .val (.long (q1 / (256 : Int64))), .second, .unset, .unset, .unset, .unset] [])) _
    refine XS.lload X0.here hx rfl (hb hby d4_62) rfl ?_
    show Steps p.tables e below (s₁.setTop (mkF m 64 #[.val (.long q1), .second, .val (.long q2), .second, .val (.int (0 : Int32)), .val (.long (q1 / (256 : Int64))), .second, .unset, .unset, .unset, .unset] [(.long (q1 / (256 : Int64)))])) _
    refine X0.ldc2Long hx hown (mvT hZ (hw _ (List.mem_of_getElem? (i := 26) rfl))) (g := (mkF m 64 #[.val (.long q1), .second, .val (.long q2), .second, .val (.int (0 : Int32)), .val (.long (q1 / (256 : Int64))), .second, .unset, .unset, .unset, .unset] [(.long (q1 / (256 : Int64)))])) rfl (hb hby d4_64) _ ?_
    show Steps p.tables e below (s₁.setTop (mkF m 67 #[.val (.long q1), .second, .val (.long q2), .second, .val (.int (0 : Int32)), .val (.long (q1 / (256 : Int64))), .second, .unset, .unset, .unset, .unset] [(.long (16777216 : Int64)), (.long (q1 / (256 : Int64)))])) _
    refine XS.lcmp X0.here hx rfl (hb hby d4_67) rfl ?_
    show Steps p.tables e below (s₁.setTop (mkF m 68 #[.val (.long q1), .second, .val (.long q2), .second, .val (.int (0 : Int32)), .val (.long (q1 / (256 : Int64))), .second, .unset, .unset, .unset, .unset] [(.int (lcmpW (q1 / (256 : Int64)) (16777216 : Int64)))])) _
    refine XS.ifYes X0.here hx rfl (pc0 := 68) (pc' := 79) rfl (hb hby d4_68) rfl ((if0 _ _).trans (flt hc68).2.2.2) (by decide) (by decide) ?_
    show Steps p.tables e below (s₁.setTop (mkF m 79 #[.val (.long q1), .second, .val (.long q2), .second, .val (.int (0 : Int32)), .val (.long (q1 / (256 : Int64))), .second, .unset, .unset, .unset, .unset] [])) _
    refine XS.lload X0.here hx rfl (hb hby d4_79) rfl ?_
    show Steps p.tables e below (s₁.setTop (mkF m 81 #[.val (.long q1), .second, .val (.long q2), .second, .val (.int (0 : Int32)), .val (.long (q1 / (256 : Int64))), .second, .unset, .unset, .unset, .unset] [(.long (q1 / (256 : Int64)))])) _
    refine XS.lstore X0.here hx rfl (hb hby d4_81) rfl (l' := #[.val (.long q1), .second, .val (.long q2), .second, .val (.int (0 : Int32)), .val (.long (q1 / (256 : Int64))), .second, .val (.long (q1 / (256 : Int64))), .second, .unset, .unset]) rfl ?_
    show Steps p.tables e below (s₁.setTop (mkF m 83 #[.val (.long q1), .second, .val (.long q2), .second, .val (.int (0 : Int32)), .val (.long (q1 / (256 : Int64))), .second, .val (.long (q1 / (256 : Int64))), .second, .unset, .unset] [])) _
    refine XS.lloadN X0.here hx rfl (hb hby d4_83) rfl ?_
    show Steps p.tables e below (s₁.setTop (mkF m 84 #[.val (.long q1), .second, .val (.long q2), .second, .val (.int (0 : Int32)), .val (.long (q1 / (256 : Int64))), .second, .val (.long (q1 / (256 : Int64))), .second, .unset, .unset] [(.long q2)])) _
    refine X0.ldc2Long hx hown (mvT hZ (hw _ (List.mem_of_getElem? (i := 21) rfl))) (g := (mkF m 84 #[.val (.long q1), .second, .val (.long q2), .second, .val (.int (0 : Int32)), .val (.long (q1 / (256 : Int64))), .second, .val (.long (q1 / (256 : Int64))), .second, .unset, .unset] [(.long q2)])) rfl (hb hby d4_84) _ ?_
    show Steps p.tables e below (s₁.setTop (mkF m 87 #[.val (.long q1), .second, .val (.long q2), .second, .val (.int (0 : Int32)), .val (.long (q1 / (256 : Int64))), .second, .val (.long (q1 / (256 : Int64))), .second, .unset, .unset] [(.long (2 : Int64)), (.long q2)])) _
    refine XS.ldiv X0.here hx rfl (hb hby d4_87) rfl (by decide) ?_
    show Steps p.tables e below (s₁.setTop (mkF m 88 #[.val (.long q1), .second, .val (.long q2), .second, .val (.int (0 : Int32)), .val (.long (q1 / (256 : Int64))), .second, .val (.long (q1 / (256 : Int64))), .second, .unset, .unset] [(.long (q2 / (2 : Int64)))])) _
    refine XS.lstore X0.here hx rfl (hb hby d4_88) rfl (l' := #[.val (.long q1), .second, .val (.long q2), .second, .val (.int (0 : Int32)), .val (.long (q1 / (256 : Int64))), .second, .val (.long (q1 / (256 : Int64))), .second, .val (.long (q2 / (2 : Int64))), .second]) rfl ?_
    show Steps p.tables e below (s₁.setTop (mkF m 90 #[.val (.long q1), .second, .val (.long q2), .second, .val (.int (0 : Int32)), .val (.long (q1 / (256 : Int64))), .second, .val (.long (q1 / (256 : Int64))), .second, .val (.long (q2 / (2 : Int64))), .second] [])) _
    refine XS.lload X0.here hx rfl (hb hby d4_90) rfl ?_
    show Steps p.tables e below (s₁.setTop (mkF m 92 #[.val (.long q1), .second, .val (.long q2), .second, .val (.int (0 : Int32)), .val (.long (q1 / (256 : Int64))), .second, .val (.long (q1 / (256 : Int64))), .second, .val (.long (q2 / (2 : Int64))), .second] [(.long (q2 / (2 : Int64)))])) _
    refine XS.lload X0.here hx rfl (hb hby d4_92) rfl ?_
    show Steps p.tables e below (s₁.setTop (mkF m 94 #[.val (.long q1), .second, .val (.long q2), .second, .val (.int (0 : Int32)), .val (.long (q1 / (256 : Int64))), .second, .val (.long (q1 / (256 : Int64))), .second, .val (.long (q2 / (2 : Int64))), .second] [(.long (q1 / (256 : Int64))), (.long (q2 / (2 : Int64)))])) _
    refine XS.lcmp X0.here hx rfl (hb hby d4_94) rfl ?_
    show Steps p.tables e below (s₁.setTop (mkF m 95 #[.val (.long q1), .second, .val (.long q2), .second, .val (.int (0 : Int32)), .val (.long (q1 / (256 : Int64))), .second, .val (.long (q1 / (256 : Int64))), .second, .val (.long (q2 / (2 : Int64))), .second] [(.int (lcmpW (q2 / (2 : Int64)) (q1 / (256 : Int64))))])) _
    refine XS.ifYes X0.here hx rfl (pc0 := 95) (pc' := 101) rfl (hb hby d4_95) rfl ((if0 _ _).trans (flt hc95).2.2.2) (by decide) (by decide) ?_
    show Steps p.tables e below (s₁.setTop (mkF m 101 #[.val (.long q1), .second, .val (.long q2), .second, .val (.int (0 : Int32)), .val (.long (q1 / (256 : Int64))), .second, .val (.long (q1 / (256 : Int64))), .second, .val (.long (q2 / (2 : Int64))), .second] [])) _
    refine XS.lload X0.here hx rfl (hb hby d4_101) rfl ?_
    show Steps p.tables e below (s₁.setTop (mkF m 103 #[.val (.long q1), .second, .val (.long q2), .second, .val (.int (0 : Int32)), .val (.long (q1 / (256 : Int64))), .second, .val (.long (q1 / (256 : Int64))), .second, .val (.long (q2 / (2 : Int64))), .second] [(.long (q1 / (256 : Int64)))])) _
    jvm_step X0.here [X0.here.top, hx, (hb hby d4_103), X0.method', Bd.returns, narrow]
    first | (intro acts; rw [hr _ acts rfl rfl rfl]) | rw [hr _ _ rfl rfl rfl]
    exact Steps.refl _
  · show Q_rm4 Z q1 q2 h0 n0 _ s₁.heap _
    exact ⟨by rw [F4, if_neg hc3, if_neg hc51, if_neg hc68, if_neg hc95], N0, e0⟩
set_option maxHeartbeats 4000000 in
theorem rm4 (l : Launch) (Z : State) (a0 : Array Value) (hw : ∀ d ∈ tables_1, d.before a0 Z = true) (ws : List Jvm.Cond) (q1 : Int64) (q2 : Int64) (h0 : Heap) (n0 : Nat) (Z0 : n0 ≤ h0.size) :
    MetFree l (⟨"dev/driftline/HeapReserveBytesPinLaw", "expected", "(JJ)J"⟩ : MethodName) (head1 (Jvm.Cond.code (⟨"dev/driftline/HeapReserveBytesPinLaw", "expected", "(JJ)J"⟩ : MethodName) method_3_code 11 (some .long) :: ws) ({ frames := 0, cells := 0, slots := 0, locals := 0 } : Room)) (fun a U => a = #[(.long q1), (.long q2)] ∧ Z.Warmed39 U.vm ∧ U.heap = h0) (fun _ _ _ _ _ => True) (fun _ U o U' => ∃ v L, o = .returned v ∧ Q_rm4 Z q1 q2 h0 n0 v U'.heap L ∧ FrameEnd U o U' L ({ frames := 0, cells := 0, slots := 0, locals := 0 } : Room).cells ({ frames := 0, cells := 0, slots := 0, locals := 0 } : Room).slots) := by
  by_cases hc3 : (0 : Int32) < (lcmpW q2 (0 : Int64))
  · skip
    by_cases hc11 : (0 : Int32) < (lcmpW q2 (1152921504606846975 : Int64))
    · skip
      exact rm4_ft l Z a0 hw ws q1 q2 h0 n0 Z0 hc3 hc11
    · skip
      by_cases hc21 : (lcmpW q1 (q2 * (8 : Int64))) < (0 : Int32)
      · skip
        exact rm4_fff l Z a0 hw ws q1 q2 h0 n0 Z0 hc3 hc11 hc21
      · skip
        by_cases hc51 : (lcmpW (q1 / (256 : Int64)) (524288 : Int64)) < (0 : Int32)
        · skip
          by_cases hc95 : (0 : Int32) < (lcmpW (q2 / (2 : Int64)) (524288 : Int64))
          · skip
            exact rm4_fftff l Z a0 hw ws q1 q2 h0 n0 Z0 hc3 hc11 hc21 hc51 hc95
          · skip
            exact rm4_fftft l Z a0 hw ws q1 q2 h0 n0 Z0 hc3 hc11 hc21 hc51 hc95
        · skip
          by_cases hc68 : (0 : Int32) < (lcmpW (q1 / (256 : Int64)) (16777216 : Int64))
          · skip
            by_cases hc95 : (0 : Int32) < (lcmpW (q2 / (2 : Int64)) (16777216 : Int64))
            · skip
              exact rm4_ffttff l Z a0 hw ws q1 q2 h0 n0 Z0 hc3 hc11 hc21 hc51 hc68 hc95
            · skip
              exact rm4_ffttft l Z a0 hw ws q1 q2 h0 n0 Z0 hc3 hc11 hc21 hc51 hc68 hc95
          · skip
            by_cases hc95 : (0 : Int32) < (lcmpW (q2 / (2 : Int64)) (q1 / (256 : Int64)))
            · skip
              exact rm4_fftttf l Z a0 hw ws q1 q2 h0 n0 Z0 hc3 hc11 hc21 hc51 hc68 hc95
            · skip
              exact rm4_fftttt l Z a0 hw ws q1 q2 h0 n0 Z0 hc3 hc11 hc21 hc51 hc68 hc95
  · skip
    by_cases hc51 : (lcmpW (q1 / (256 : Int64)) (524288 : Int64)) < (0 : Int32)
    · skip
      by_cases hc95 : (0 : Int32) < (lcmpW (q2 / (2 : Int64)) (524288 : Int64))
      · skip
        exact rm4_tff l Z a0 hw ws q1 q2 h0 n0 Z0 hc3 hc51 hc95
      · skip
        exact rm4_tft l Z a0 hw ws q1 q2 h0 n0 Z0 hc3 hc51 hc95
    · skip
      by_cases hc68 : (0 : Int32) < (lcmpW (q1 / (256 : Int64)) (16777216 : Int64))
      · skip
        by_cases hc95 : (0 : Int32) < (lcmpW (q2 / (2 : Int64)) (16777216 : Int64))
        · skip
          exact rm4_ttff l Z a0 hw ws q1 q2 h0 n0 Z0 hc3 hc51 hc68 hc95
        · skip
          exact rm4_ttft l Z a0 hw ws q1 q2 h0 n0 Z0 hc3 hc51 hc68 hc95
      · skip
        by_cases hc95 : (0 : Int32) < (lcmpW (q2 / (2 : Int64)) (q1 / (256 : Int64)))
        · skip
          exact rm4_tttf l Z a0 hw ws q1 q2 h0 n0 Z0 hc3 hc51 hc68 hc95
        · skip
          exact rm4_tttt l Z a0 hw ws q1 q2 h0 n0 Z0 hc3 hc51 hc68 hc95
theorem own_clamp (A B : Int64) : F3 (F3 (524288 : Int64) (F2 A (16777216 : Int64))) B = (if (lcmpW A (524288 : Int64)) < (0 : Int32) then (if (0 : Int32) < (lcmpW B (524288 : Int64)) then B else (524288 : Int64)) else (if (0 : Int32) < (lcmpW A (16777216 : Int64)) then (if (0 : Int32) < (lcmpW B (16777216 : Int64)) then B else (16777216 : Int64)) else (if (0 : Int32) < (lcmpW B A) then B else A))) := by
  unfold F3 F2
  simp only [lw_lt, lw_gt]
  have e1 : (524288 : Int64).toInt = 524288 := by decide
  have e2 : (16777216 : Int64).toInt = 16777216 := by decide
  apply Int64.toInt_inj.mp
  simp only [apply_ite Int64.toInt, Int64.lt_iff_toInt_lt, e1, e2]
  generalize A.toInt = a
  generalize B.toInt = b
  by_cases h1 : 16777216 < a
  · by_cases h2 : 16777216 < b
    · simp [h1, h2]; omega
    · simp [h1, h2]; omega
  · by_cases h2 : a < 524288
    · simp [h1, h2]; split <;> split <;> omega
    · simp [h1, h2]; repeat' split
      all_goals omega
theorem own_few (m r : Int64) (hr : 0 < r.toInt) : (m / r).toInt < 8 ↔ (1152921504606846975 < r.toInt ∨ m.toInt < (r * 8).toInt) := by
  have hm := m.toInt_lt
  have hm2 := m.le_toInt
  have hd : (m / r).toInt = m.toInt.tdiv r.toInt := by
    apply Int64.toInt_div_of_ne_right
    intro h; rw [h] at hr; exact absurd hr (by decide)
  rw [hd]
  have key : m.toInt.tdiv r.toInt < 8 ↔ m.toInt < r.toInt * 8 := by
    by_cases h : 0 ≤ m.toInt
    · rw [Int.tdiv_eq_ediv_of_nonneg h, Int.ediv_lt_iff_lt_mul hr, Int.mul_comm]
    · have h1 : m.toInt.tdiv r.toInt ≤ 0 := by
        have := Int.neg_tdiv (a := -m.toInt) (b := r.toInt)
        rw [Int.neg_neg] at this
        rw [this]
        have := Int.tdiv_nonneg (a := -m.toInt) (b := r.toInt) (by omega) (by omega)
        omega
      constructor <;> intro _ <;> omega
  rw [key]
  by_cases hb : 1152921504606846975 < r.toInt
  · simp only [hb, true_or, iff_true]; omega
  · simp only [hb, false_or]
    have : (r * 8).toInt = r.toInt * 8 := by
      rw [Int64.toInt_mul]
      have e8 : (8 : Int64).toInt = 8 := by decide
      rw [e8]
      apply Int.bmod_eq_of_le <;> omega
    rw [this]
theorem own_F (m r : Int64) : F1 m r = F4 m r := by
  unfold F1 F4 t1_0
  rw [own_clamp]
  by_cases h : (0 : Int32) < lcmpW r 0
  · rw [if_pos h, if_pos h]
    have hr : 0 < r.toInt := by rw [lw_gt, Int64.lt_iff_toInt_lt] at h; exact h
    have k := own_few m r hr
    by_cases h1 : (lcmpW (m / r) 8) < 0
    · rw [if_pos h1]
      rw [lw_lt, Int64.lt_iff_toInt_lt] at h1
      rcases k.mp h1 with q | q
      · rw [if_pos (by rw [lw_gt, Int64.lt_iff_toInt_lt]; exact q)]
      · by_cases q2 : (0 : Int32) < lcmpW r 1152921504606846975
        · rw [if_pos q2]
        · rw [if_neg q2, if_pos (by rw [lw_lt, Int64.lt_iff_toInt_lt]; exact q)]
    · rw [if_neg h1]
      rw [lw_lt, Int64.lt_iff_toInt_lt] at h1
      have k2 : ¬ (1152921504606846975 < r.toInt ∨ m.toInt < (r * 8).toInt) := fun q => h1 (k.mpr q)
      have k3 : ¬ ((0 : Int32) < lcmpW r 1152921504606846975) := by rw [lw_gt, Int64.lt_iff_toInt_lt]; exact fun q => k2 (Or.inl q)
      have k4 : ¬ (lcmpW m (r * 8) < 0) := by rw [lw_lt, Int64.lt_iff_toInt_lt]; exact fun q => k2 (Or.inr q)
      rw [if_neg k3, if_neg k4]
  · rw [if_neg h, if_neg h]
theorem own_eq (m r : Int64) : lcmpW (F1 m r) (F4 m r) = 0 := (lw_eq _ _).mpr (own_F m r)
def t0_0 (p3 : Int32) : Int64 := ((1 : Int64) <<< ((((p3.toUInt32 >>> ((2 : Int32) &&& 31).toUInt32).toInt32) &&& (31 : Int32)) &&& 0x3f).toInt64)
def t0_1 (q1 : Int64) (p3 : Int32) : Int64 := ((((t0_0 p3) * (8 : Int64)) + (q1 - (q1 / (3 : Int64)) * (3 : Int64))) - (1 : Int64))
theorem pn_0 : plainName "dev/driftline/HeapReserveBytesPinLaw" = true := by first | (simp [plainName, overriddenIn]; done) | decide +kernel
theorem ef_0 (m : MethodId) (x0 : Int64) (x1 : Int64) (x2 : Int32) : entryFrame m #[(.long x0), (.long x1), (.int x2)] maxLocals = mkF m 0 #[.val (.long x0), .second, .val (.long x1), .second, .val (.int x2), .unset, .unset, .unset, .unset, .unset, .unset, .unset] [] := by first | (simp [entryFrame, mkF, argsToLocals, Value.category, maxLocals]; done) | rfl
def Q_rm0 (Z : State) (q1 : Int64) (q2 : Int64) (p3 : Int32) (h0 : Heap) (n0 : Nat) (v : Option Value) (h : Heap) (L : List Loc) : Prop := v = some (.int (1 : Int32)) ∧ Fr n0 L
set_option maxRecDepth 65536 in
set_option maxHeartbeats 40000000 in
theorem rm0_f (l : Launch) (Z : State) (a0 : Array Value) (hw : ∀ d ∈ tables_1, d.before a0 Z = true) (ws : List Jvm.Cond) (q1 : Int64) (q2 : Int64) (p3 : Int32) (h0 : Heap) (n0 : Nat) (Z0 : n0 ≤ h0.size) (hc14 : (p3 &&& (3 : Int32)) = (0 : Int32)) :
    MetFree l x (head1 (Jvm.Cond.code x code maxLocals ret :: ws) room_1) (fun a U => a = #[(.long q1), (.long q2), (.int p3)] ∧ Z.Warmed39 U.vm ∧ U.heap = h0) (fun _ _ _ _ _ => True) (fun _ U o U' => ∃ v L, o = .returned v ∧ Q_rm0 Z q1 q2 p3 h0 n0 v U'.heap L ∧ FrameEnd U o U' L room_1.cells room_1.slots) := by
  refine MetFree.of_bodySF (plainFor_of_name pn_0) hisR ?_
  intro p e s m args below meth c s₁ Bd hml0 hP hK
  obtain ⟨rfl, hZ, hh⟩ := hP
  have hx := Bd.exec
  have hby := Bd.bytes
  have hml : c.maxLocals = 12 := hml0
  have hown : s.vm.findClass "dev/driftline/HeapReserveBytesPinLaw" = some m.cls := findClass_of_methodNamed Bd.named
  have hnm := (name_of_methodNamed Bd.named Bd.method).1
  have X0 : Stand p l e room_1 s m #[(.long q1), (.long q2), (.int p3)] below meth c s₁ [] 0 0 := Stand.of_body Bd
  have e0 : s₁.heap = h0 := by rw [← hh, Bd.state]; rfl
  have N0 := Fr.nil n0
  have pre0 : ∀ t, Steps p.tables e below (s₁.setTop (mkF m 0 #[.val (.long q1), .second, .val (.long q2), .second, .val (.int p3), .unset, .unset, .unset, .unset, .unset, .unset, .unset] [])) t → Steps p.tables e below (s₁.setTop (entryFrame m #[(.long q1), (.long q2), (.int p3)] maxLocals)) t := fun t k => castTop (ef_0 m q1 q2 p3) k
  obtain ⟨_, _, ⟨T4, L4, k4, n4⟩, -, X4, ⟨Lc4, hQ4, l4, y4, z4⟩, st4⟩ := Jvm.LawKit.callS X0 hx (y := (⟨"dev/driftline/HeapReserve", "bytes", "(JJ)J"⟩ : MethodName)) hown (mvT hZ (hw _ (List.mem_of_getElem? (i := 0) rfl))) (mvT hZ (hw _ (List.mem_of_getElem? (i := 1) rfl))) (mvT hZ (hw _ (List.mem_of_getElem? (i := 2) rfl))) (mvT hZ (hw _ (List.mem_of_getElem? (i := 3) rfl))) (by decide) (backOf (W := 0) (rm1 l Z a0 hw [] q1 (0 : Int64) h0 n0 Z0 ) hZ (hw _ (List.mem_of_getElem? (i := 3) rfl)) (hw _ (List.mem_of_getElem? (i := 2) rfl)) (by decide) (by decide)) (g := (mkF m 80 #[.val (.long q1), .second, .val (.long q2), .second, .val (.int p3), .val (.long q1), .second, .val (.long (0 : Int64)), .second, .val (.int (p3 &&& (3 : Int32))), .unset, .unset] [(.long (0 : Int64)), (.long q1)])) rfl (by rw [hml]; rfl) (argsL := [(.long q1), (.long (0 : Int64))]) (rest := []) (lenOf pd__28JJ_29J rfl) rfl (by show 2 * 0 + _ ≤ _; exact Nat.le_of_eq rfl) (hb hby at_80) (fun _ _ => ⟨rfl, e0, (by decide : 0 + 0 ≤ _), (by decide : 0 + 0 ≤ _)⟩)
  dsimp only [Pt.U, Pt.locs, Pt.cells, Pt.slots] at X4 l4 y4 z4 st4 hQ4
  subst l4 y4 z4
  obtain ⟨rfl, N4q, e4⟩ := hQ4
  have N4 := Fr.app N0 N4q
  obtain ⟨_, _, ⟨T5, L5, k5, n5⟩, -, X5, ⟨Lc5, hQ5, l5, y5, z5⟩, st5⟩ := Jvm.LawKit.callS X4 hx (y := (⟨"dev/driftline/HeapReserveBytesPinLaw", "expected", "(JJ)J"⟩ : MethodName)) hown (mvT hZ (hw _ (List.mem_of_getElem? (i := 15) rfl))) (mvT hZ (hw _ (List.mem_of_getElem? (i := 16) rfl))) (mvT hZ (hw _ (List.mem_of_getElem? (i := 17) rfl))) (mvT hZ (hw _ (List.mem_of_getElem? (i := 18) rfl))) (by decide) (backOf (W := 2) (rm4 l Z a0 hw [] q1 (0 : Int64) h0 n0 Z0 ) hZ (hw _ (List.mem_of_getElem? (i := 18) rfl)) (hw _ (List.mem_of_getElem? (i := 17) rfl)) (by decide) (by decide)) (g := (mkF m 91 #[.val (.long q1), .second, .val (.long q2), .second, .val (.int p3), .val (.long q1), .second, .val (.long (0 : Int64)), .second, .val (.int (p3 &&& (3 : Int32))), .val (.long (F1 q1 (0 : Int64))), .second] [(.long (0 : Int64)), (.long q1), (.long (F1 q1 (0 : Int64)))])) rfl (by rw [hml]; rfl) (argsL := [(.long q1), (.long (0 : Int64))]) (rest := [(.long (F1 q1 (0 : Int64)))]) (lenOf pd__28JJ_29J rfl) rfl (by show 2 * 0 + _ ≤ _; exact Nat.le_of_eq rfl) (hb hby at_91) (fun _ _ => ⟨rfl, e4, (by decide : 0 + 0 ≤ _), (by decide : 0 + 0 ≤ _)⟩)
  dsimp only [Pt.U, Pt.locs, Pt.cells, Pt.slots] at X5 l5 y5 z5 st5 hQ5
  subst l5 y5 z5
  obtain ⟨rfl, N5q, e5⟩ := hQ5
  have N5 := Fr.app N4 N5q
  obtain ⟨fs, hr, hrun, hended, hW, hsame⟩ := X5.leave (v := some (.int (1 : Int32))) (fun h => by rw [Bd.returns] at h; cases h)
  refine ⟨_, _, pre0 _ ?_, hrun, hended, _, _, rfl, ?_, ⟨_, rfl⟩, hW, hsame.mono (by decide) (by decide)⟩
  · show Steps p.tables e below (s₁.setTop (mkF m 0 #[.val (.long q1), .second, .val (.long q2), .second, .val (.int p3), .unset, .unset, .unset, .unset, .unset, .unset, .unset] [])) _
    refine XS.lloadN X0.here hx rfl (hb hby at_0) rfl ?_
    show Steps p.tables e below (s₁.setTop (mkF m 1 #[.val (.long q1), .second, .val (.long q2), .second, .val (.int p3), .unset, .unset, .unset, .unset, .unset, .unset, .unset] [(.long q1)])) _
    refine XS.lstore X0.here hx rfl (hb hby at_1) rfl (l' := #[.val (.long q1), .second, .val (.long q2), .second, .val (.int p3), .val (.long q1), .second, .unset, .unset, .unset, .unset, .unset]) rfl ?_
    show Steps p.tables e below (s₁.setTop (mkF m 3 #[.val (.long q1), .second, .val (.long q2), .second, .val (.int p3), .val (.long q1), .second, .unset, .unset, .unset, .unset, .unset] [])) _
    refine XS.lloadN X0.here hx rfl (hb hby at_3) rfl ?_
    show Steps p.tables e below (s₁.setTop (mkF m 4 #[.val (.long q1), .second, .val (.long q2), .second, .val (.int p3), .val (.long q1), .second, .unset, .unset, .unset, .unset, .unset] [(.long q2)])) _
    refine XS.lstore X0.here hx rfl (hb hby at_4) rfl (l' := #[.val (.long q1), .second, .val (.long q2), .second, .val (.int p3), .val (.long q1), .second, .val (.long q2), .second, .unset, .unset, .unset]) rfl ?_
    show Steps p.tables e below (s₁.setTop (mkF m 6 #[.val (.long q1), .second, .val (.long q2), .second, .val (.int p3), .val (.long q1), .second, .val (.long q2), .second, .unset, .unset, .unset] [])) _
    refine XS.iload X0.here hx rfl (hb hby at_6) rfl ?_
    show Steps p.tables e below (s₁.setTop (mkF m 8 #[.val (.long q1), .second, .val (.long q2), .second, .val (.int p3), .val (.long q1), .second, .val (.long q2), .second, .unset, .unset, .unset] [(.int p3)])) _
    refine XS.iconst X0.here hx rfl (hb hby at_8) ?_
    show Steps p.tables e below (s₁.setTop (mkF m 9 #[.val (.long q1), .second, .val (.long q2), .second, .val (.int p3), .val (.long q1), .second, .val (.long q2), .second, .unset, .unset, .unset] [(.int (3 : Int32)), (.int p3)])) _
    refine XS.iand X0.here hx rfl (hb hby at_9) rfl ?_
    show Steps p.tables e below (s₁.setTop (mkF m 10 #[.val (.long q1), .second, .val (.long q2), .second, .val (.int p3), .val (.long q1), .second, .val (.long q2), .second, .unset, .unset, .unset] [(.int (p3 &&& (3 : Int32)))])) _
    refine XS.istore X0.here hx rfl (hb hby at_10) rfl (l' := #[.val (.long q1), .second, .val (.long q2), .second, .val (.int p3), .val (.long q1), .second, .val (.long q2), .second, .val (.int (p3 &&& (3 : Int32))), .unset, .unset]) rfl ?_
    show Steps p.tables e below (s₁.setTop (mkF m 12 #[.val (.long q1), .second, .val (.long q2), .second, .val (.int p3), .val (.long q1), .second, .val (.long q2), .second, .val (.int (p3 &&& (3 : Int32))), .unset, .unset] [])) _
    refine XS.iload X0.here hx rfl (hb hby at_12) rfl ?_
    show Steps p.tables e below (s₁.setTop (mkF m 14 #[.val (.long q1), .second, .val (.long q2), .second, .val (.int p3), .val (.long q1), .second, .val (.long q2), .second, .val (.int (p3 &&& (3 : Int32))), .unset, .unset] [(.int (p3 &&& (3 : Int32)))])) _
    refine XS.ifNo X0.here hx rfl (hb hby at_14) rfl ((if0 _ _).trans (teq hc14).2) ?_
    show Steps p.tables e below (s₁.setTop (mkF m 17 #[.val (.long q1), .second, .val (.long q2), .second, .val (.int p3), .val (.long q1), .second, .val (.long q2), .second, .val (.int (p3 &&& (3 : Int32))), .unset, .unset] [])) _
    refine XS.lconst X0.here hx rfl (hb hby at_17) ?_
    show Steps p.tables e below (s₁.setTop (mkF m 18 #[.val (.long q1), .second, .val (.long q2), .second, .val (.int p3), .val (.long q1), .second, .val (.long q2), .second, .val (.int (p3 &&& (3 : Int32))), .unset, .unset] [(.long (0 : Int64))])) _
    refine XS.lstore X0.here hx rfl (hb hby at_18) rfl (l' := #[.val (.long q1), .second, .val (.long q2), .second, .val (.int p3), .val (.long q1), .second, .val (.long (0 : Int64)), .second, .val (.int (p3 &&& (3 : Int32))), .unset, .unset]) rfl ?_
    show Steps p.tables e below (s₁.setTop (mkF m 20 #[.val (.long q1), .second, .val (.long q2), .second, .val (.int p3), .val (.long q1), .second, .val (.long (0 : Int64)), .second, .val (.int (p3 &&& (3 : Int32))), .unset, .unset] [])) _
    refine XS.goto X0.here hx rfl (pc0 := 20) (pc' := 76) rfl (hb hby at_20) (by decide) (by decide) ?_
    show Steps p.tables e below (s₁.setTop (mkF m 76 #[.val (.long q1), .second, .val (.long q2), .second, .val (.int p3), .val (.long q1), .second, .val (.long (0 : Int64)), .second, .val (.int (p3 &&& (3 : Int32))), .unset, .unset] [])) _
    refine XS.lload X0.here hx rfl (hb hby at_76) rfl ?_
    show Steps p.tables e below (s₁.setTop (mkF m 78 #[.val (.long q1), .second, .val (.long q2), .second, .val (.int p3), .val (.long q1), .second, .val (.long (0 : Int64)), .second, .val (.int (p3 &&& (3 : Int32))), .unset, .unset] [(.long q1)])) _
    refine XS.lload X0.here hx rfl (hb hby at_78) rfl ?_
    show Steps p.tables e below (s₁.setTop (mkF m 80 #[.val (.long q1), .second, .val (.long q2), .second, .val (.int p3), .val (.long q1), .second, .val (.long (0 : Int64)), .second, .val (.int (p3 &&& (3 : Int32))), .unset, .unset] [(.long (0 : Int64)), (.long q1)])) _
    refine st4 _ ?_
    show Steps p.tables e below (T4.setTop (mkF m 83 #[.val (.long q1), .second, .val (.long q2), .second, .val (.int p3), .val (.long q1), .second, .val (.long (0 : Int64)), .second, .val (.int (p3 &&& (3 : Int32))), .unset, .unset] [(.long (F1 q1 (0 : Int64)))])) _
    refine XS.lstore X4.here hx rfl (hb hby at_83) rfl (l' := #[.val (.long q1), .second, .val (.long q2), .second, .val (.int p3), .val (.long q1), .second, .val (.long (0 : Int64)), .second, .val (.int (p3 &&& (3 : Int32))), .val (.long (F1 q1 (0 : Int64))), .second]) rfl ?_
    show Steps p.tables e below (T4.setTop (mkF m 85 #[.val (.long q1), .second, .val (.long q2), .second, .val (.int p3), .val (.long q1), .second, .val (.long (0 : Int64)), .second, .val (.int (p3 &&& (3 : Int32))), .val (.long (F1 q1 (0 : Int64))), .second] [])) _
    refine XS.lload X4.here hx rfl (hb hby at_85) rfl ?_
    show Steps p.tables e below (T4.setTop (mkF m 87 #[.val (.long q1), .second, .val (.long q2), .second, .val (.int p3), .val (.long q1), .second, .val (.long (0 : Int64)), .second, .val (.int (p3 &&& (3 : Int32))), .val (.long (F1 q1 (0 : Int64))), .second] [(.long (F1 q1 (0 : Int64)))])) _
    refine XS.lload X4.here hx rfl (hb hby at_87) rfl ?_
    show Steps p.tables e below (T4.setTop (mkF m 89 #[.val (.long q1), .second, .val (.long q2), .second, .val (.int p3), .val (.long q1), .second, .val (.long (0 : Int64)), .second, .val (.int (p3 &&& (3 : Int32))), .val (.long (F1 q1 (0 : Int64))), .second] [(.long q1), (.long (F1 q1 (0 : Int64)))])) _
    refine XS.lload X4.here hx rfl (hb hby at_89) rfl ?_
    show Steps p.tables e below (T4.setTop (mkF m 91 #[.val (.long q1), .second, .val (.long q2), .second, .val (.int p3), .val (.long q1), .second, .val (.long (0 : Int64)), .second, .val (.int (p3 &&& (3 : Int32))), .val (.long (F1 q1 (0 : Int64))), .second] [(.long (0 : Int64)), (.long q1), (.long (F1 q1 (0 : Int64)))])) _
    refine st5 _ ?_
    show Steps p.tables e below (T5.setTop (mkF m 94 #[.val (.long q1), .second, .val (.long q2), .second, .val (.int p3), .val (.long q1), .second, .val (.long (0 : Int64)), .second, .val (.int (p3 &&& (3 : Int32))), .val (.long (F1 q1 (0 : Int64))), .second] [(.long (F4 q1 (0 : Int64))), (.long (F1 q1 (0 : Int64)))])) _
    refine XS.lcmp X5.here hx rfl (hb hby at_94) rfl ?_
    show Steps p.tables e below (T5.setTop (mkF m 95 #[.val (.long q1), .second, .val (.long q2), .second, .val (.int p3), .val (.long q1), .second, .val (.long (0 : Int64)), .second, .val (.int (p3 &&& (3 : Int32))), .val (.long (F1 q1 (0 : Int64))), .second] [(.int (lcmpW (F1 q1 (0 : Int64)) (F4 q1 (0 : Int64))))])) _
    refine XS.ifNo X5.here hx rfl (hb hby at_95) rfl ((if0 _ _).trans (teq (show (lcmpW (F1 q1 (0 : Int64)) (F4 q1 (0 : Int64))) = (0 : Int32) from own_eq _ _)).2) ?_
    show Steps p.tables e below (T5.setTop (mkF m 98 #[.val (.long q1), .second, .val (.long q2), .second, .val (.int p3), .val (.long q1), .second, .val (.long (0 : Int64)), .second, .val (.int (p3 &&& (3 : Int32))), .val (.long (F1 q1 (0 : Int64))), .second] [])) _
    refine XS.iconst X5.here hx rfl (hb hby at_98) ?_
    show Steps p.tables e below (T5.setTop (mkF m 99 #[.val (.long q1), .second, .val (.long q2), .second, .val (.int p3), .val (.long q1), .second, .val (.long (0 : Int64)), .second, .val (.int (p3 &&& (3 : Int32))), .val (.long (F1 q1 (0 : Int64))), .second] [(.int (1 : Int32))])) _
    refine XS.goto X5.here hx rfl (pc0 := 99) (pc' := 103) rfl (hb hby at_99) (by decide) (by decide) ?_
    show Steps p.tables e below (T5.setTop (mkF m 103 #[.val (.long q1), .second, .val (.long q2), .second, .val (.int p3), .val (.long q1), .second, .val (.long (0 : Int64)), .second, .val (.int (p3 &&& (3 : Int32))), .val (.long (F1 q1 (0 : Int64))), .second] [(.int (1 : Int32))])) _
    exact retN X5 hx (t := .boolean) Bd.returns (by simp) (hb hby at_103) hr
  · show Q_rm0 Z q1 q2 p3 h0 n0 _ T5.heap _
    exact ⟨rfl, N5⟩
set_option maxRecDepth 65536 in
set_option maxHeartbeats 40000000 in
theorem rm0_tf (l : Launch) (Z : State) (a0 : Array Value) (hw : ∀ d ∈ tables_1, d.before a0 Z = true) (ws : List Jvm.Cond) (q1 : Int64) (q2 : Int64) (p3 : Int32) (h0 : Heap) (n0 : Nat) (Z0 : n0 ≤ h0.size) (hc14 : ¬ ((p3 &&& (3 : Int32)) = (0 : Int32))) (hc26 : (p3 &&& (3 : Int32)) = (2 : Int32)) :
    MetFree l x (head1 (Jvm.Cond.code x code maxLocals ret :: ws) room_1) (fun a U => a = #[(.long q1), (.long q2), (.int p3)] ∧ Z.Warmed39 U.vm ∧ U.heap = h0) (fun _ _ _ _ _ => True) (fun _ U o U' => ∃ v L, o = .returned v ∧ Q_rm0 Z q1 q2 p3 h0 n0 v U'.heap L ∧ FrameEnd U o U' L room_1.cells room_1.slots) := by
  refine MetFree.of_bodySF (plainFor_of_name pn_0) hisR ?_
  intro p e s m args below meth c s₁ Bd hml0 hP hK
  obtain ⟨rfl, hZ, hh⟩ := hP
  have hx := Bd.exec
  have hby := Bd.bytes
  have hml : c.maxLocals = 12 := hml0
  have hown : s.vm.findClass "dev/driftline/HeapReserveBytesPinLaw" = some m.cls := findClass_of_methodNamed Bd.named
  have hnm := (name_of_methodNamed Bd.named Bd.method).1
  have X0 : Stand p l e room_1 s m #[(.long q1), (.long q2), (.int p3)] below meth c s₁ [] 0 0 := Stand.of_body Bd
  have e0 : s₁.heap = h0 := by rw [← hh, Bd.state]; rfl
  have N0 := Fr.nil n0
  have pre0 : ∀ t, Steps p.tables e below (s₁.setTop (mkF m 0 #[.val (.long q1), .second, .val (.long q2), .second, .val (.int p3), .unset, .unset, .unset, .unset, .unset, .unset, .unset] [])) t → Steps p.tables e below (s₁.setTop (entryFrame m #[(.long q1), (.long q2), (.int p3)] maxLocals)) t := fun t k => castTop (ef_0 m q1 q2 p3) k
  obtain ⟨_, _, ⟨T4, L4, k4, n4⟩, -, X4, ⟨Lc4, hQ4, l4, y4, z4⟩, st4⟩ := Jvm.LawKit.callS X0 hx (y := (⟨"dev/driftline/HeapReserve", "bytes", "(JJ)J"⟩ : MethodName)) hown (mvT hZ (hw _ (List.mem_of_getElem? (i := 0) rfl))) (mvT hZ (hw _ (List.mem_of_getElem? (i := 1) rfl))) (mvT hZ (hw _ (List.mem_of_getElem? (i := 2) rfl))) (mvT hZ (hw _ (List.mem_of_getElem? (i := 3) rfl))) (by decide) (backOf (W := 0) (rm1 l Z a0 hw [] q1 (t0_0 p3) h0 n0 Z0 ) hZ (hw _ (List.mem_of_getElem? (i := 3) rfl)) (hw _ (List.mem_of_getElem? (i := 2) rfl)) (by decide) (by decide)) (g := (mkF m 80 #[.val (.long q1), .second, .val (.long q2), .second, .val (.int p3), .val (.long q1), .second, .val (.long (t0_0 p3)), .second, .val (.int (p3 &&& (3 : Int32))), .unset, .unset] [(.long (t0_0 p3)), (.long q1)])) rfl (by rw [hml]; rfl) (argsL := [(.long q1), (.long (t0_0 p3))]) (rest := []) (lenOf pd__28JJ_29J rfl) rfl (by show 2 * 0 + _ ≤ _; exact Nat.le_of_eq rfl) (hb hby at_80) (fun _ _ => ⟨rfl, e0, (by decide : 0 + 0 ≤ _), (by decide : 0 + 0 ≤ _)⟩)
  dsimp only [Pt.U, Pt.locs, Pt.cells, Pt.slots] at X4 l4 y4 z4 st4 hQ4
  subst l4 y4 z4
  obtain ⟨rfl, N4q, e4⟩ := hQ4
  have N4 := Fr.app N0 N4q
  obtain ⟨_, _, ⟨T5, L5, k5, n5⟩, -, X5, ⟨Lc5, hQ5, l5, y5, z5⟩, st5⟩ := Jvm.LawKit.callS X4 hx (y := (⟨"dev/driftline/HeapReserveBytesPinLaw", "expected", "(JJ)J"⟩ : MethodName)) hown (mvT hZ (hw _ (List.mem_of_getElem? (i := 15) rfl))) (mvT hZ (hw _ (List.mem_of_getElem? (i := 16) rfl))) (mvT hZ (hw _ (List.mem_of_getElem? (i := 17) rfl))) (mvT hZ (hw _ (List.mem_of_getElem? (i := 18) rfl))) (by decide) (backOf (W := 2) (rm4 l Z a0 hw [] q1 (t0_0 p3) h0 n0 Z0 ) hZ (hw _ (List.mem_of_getElem? (i := 18) rfl)) (hw _ (List.mem_of_getElem? (i := 17) rfl)) (by decide) (by decide)) (g := (mkF m 91 #[.val (.long q1), .second, .val (.long q2), .second, .val (.int p3), .val (.long q1), .second, .val (.long (t0_0 p3)), .second, .val (.int (p3 &&& (3 : Int32))), .val (.long (F1 q1 (t0_0 p3))), .second] [(.long (t0_0 p3)), (.long q1), (.long (F1 q1 (t0_0 p3)))])) rfl (by rw [hml]; rfl) (argsL := [(.long q1), (.long (t0_0 p3))]) (rest := [(.long (F1 q1 (t0_0 p3)))]) (lenOf pd__28JJ_29J rfl) rfl (by show 2 * 0 + _ ≤ _; exact Nat.le_of_eq rfl) (hb hby at_91) (fun _ _ => ⟨rfl, e4, (by decide : 0 + 0 ≤ _), (by decide : 0 + 0 ≤ _)⟩)
  dsimp only [Pt.U, Pt.locs, Pt.cells, Pt.slots] at X5 l5 y5 z5 st5 hQ5
  subst l5 y5 z5
  obtain ⟨rfl, N5q, e5⟩ := hQ5
  have N5 := Fr.app N4 N5q
  obtain ⟨fs, hr, hrun, hended, hW, hsame⟩ := X5.leave (v := some (.int (1 : Int32))) (fun h => by rw [Bd.returns] at h; cases h)
  refine ⟨_, _, pre0 _ ?_, hrun, hended, _, _, rfl, ?_, ⟨_, rfl⟩, hW, hsame.mono (by decide) (by decide)⟩
  · show Steps p.tables e below (s₁.setTop (mkF m 0 #[.val (.long q1), .second, .val (.long q2), .second, .val (.int p3), .unset, .unset, .unset, .unset, .unset, .unset, .unset] [])) _
    refine XS.lloadN X0.here hx rfl (hb hby at_0) rfl ?_
    show Steps p.tables e below (s₁.setTop (mkF m 1 #[.val (.long q1), .second, .val (.long q2), .second, .val (.int p3), .unset, .unset, .unset, .unset, .unset, .unset, .unset] [(.long q1)])) _
    refine XS.lstore X0.here hx rfl (hb hby at_1) rfl (l' := #[.val (.long q1), .second, .val (.long q2), .second, .val (.int p3), .val (.long q1), .second, .unset, .unset, .unset, .unset, .unset]) rfl ?_
    show Steps p.tables e below (s₁.setTop (mkF m 3 #[.val (.long q1), .second, .val (.long q2), .second, .val (.int p3), .val (.long q1), .second, .unset, .unset, .unset, .unset, .unset] [])) _
    refine XS.lloadN X0.here hx rfl (hb hby at_3) rfl ?_
    show Steps p.tables e below (s₁.setTop (mkF m 4 #[.val (.long q1), .second, .val (.long q2), .second, .val (.int p3), .val (.long q1), .second, .unset, .unset, .unset, .unset, .unset] [(.long q2)])) _
    refine XS.lstore X0.here hx rfl (hb hby at_4) rfl (l' := #[.val (.long q1), .second, .val (.long q2), .second, .val (.int p3), .val (.long q1), .second, .val (.long q2), .second, .unset, .unset, .unset]) rfl ?_
    show Steps p.tables e below (s₁.setTop (mkF m 6 #[.val (.long q1), .second, .val (.long q2), .second, .val (.int p3), .val (.long q1), .second, .val (.long q2), .second, .unset, .unset, .unset] [])) _
    refine XS.iload X0.here hx rfl (hb hby at_6) rfl ?_
    show Steps p.tables e below (s₁.setTop (mkF m 8 #[.val (.long q1), .second, .val (.long q2), .second, .val (.int p3), .val (.long q1), .second, .val (.long q2), .second, .unset, .unset, .unset] [(.int p3)])) _
    refine XS.iconst X0.here hx rfl (hb hby at_8) ?_
    show Steps p.tables e below (s₁.setTop (mkF m 9 #[.val (.long q1), .second, .val (.long q2), .second, .val (.int p3), .val (.long q1), .second, .val (.long q2), .second, .unset, .unset, .unset] [(.int (3 : Int32)), (.int p3)])) _
    refine XS.iand X0.here hx rfl (hb hby at_9) rfl ?_
    show Steps p.tables e below (s₁.setTop (mkF m 10 #[.val (.long q1), .second, .val (.long q2), .second, .val (.int p3), .val (.long q1), .second, .val (.long q2), .second, .unset, .unset, .unset] [(.int (p3 &&& (3 : Int32)))])) _
    refine XS.istore X0.here hx rfl (hb hby at_10) rfl (l' := #[.val (.long q1), .second, .val (.long q2), .second, .val (.int p3), .val (.long q1), .second, .val (.long q2), .second, .val (.int (p3 &&& (3 : Int32))), .unset, .unset]) rfl ?_
    show Steps p.tables e below (s₁.setTop (mkF m 12 #[.val (.long q1), .second, .val (.long q2), .second, .val (.int p3), .val (.long q1), .second, .val (.long q2), .second, .val (.int (p3 &&& (3 : Int32))), .unset, .unset] [])) _
    refine XS.iload X0.here hx rfl (hb hby at_12) rfl ?_
    show Steps p.tables e below (s₁.setTop (mkF m 14 #[.val (.long q1), .second, .val (.long q2), .second, .val (.int p3), .val (.long q1), .second, .val (.long q2), .second, .val (.int (p3 &&& (3 : Int32))), .unset, .unset] [(.int (p3 &&& (3 : Int32)))])) _
    refine XS.ifYes X0.here hx rfl (pc0 := 14) (pc' := 23) rfl (hb hby at_14) rfl ((if0 _ _).trans (feq hc14).2) (by decide) (by decide) ?_
    show Steps p.tables e below (s₁.setTop (mkF m 23 #[.val (.long q1), .second, .val (.long q2), .second, .val (.int p3), .val (.long q1), .second, .val (.long q2), .second, .val (.int (p3 &&& (3 : Int32))), .unset, .unset] [])) _
    refine XS.iload X0.here hx rfl (hb hby at_23) rfl ?_
    show Steps p.tables e below (s₁.setTop (mkF m 25 #[.val (.long q1), .second, .val (.long q2), .second, .val (.int p3), .val (.long q1), .second, .val (.long q2), .second, .val (.int (p3 &&& (3 : Int32))), .unset, .unset] [(.int (p3 &&& (3 : Int32)))])) _
    refine XS.iconst X0.here hx rfl (hb hby at_25) ?_
    show Steps p.tables e below (s₁.setTop (mkF m 26 #[.val (.long q1), .second, .val (.long q2), .second, .val (.int p3), .val (.long q1), .second, .val (.long q2), .second, .val (.int (p3 &&& (3 : Int32))), .unset, .unset] [(.int (2 : Int32)), (.int (p3 &&& (3 : Int32)))])) _
    refine XS.icmpNo X0.here hx rfl (hb hby at_26) rfl (teq hc26).2 ?_
    show Steps p.tables e below (s₁.setTop (mkF m 29 #[.val (.long q1), .second, .val (.long q2), .second, .val (.int p3), .val (.long q1), .second, .val (.long q2), .second, .val (.int (p3 &&& (3 : Int32))), .unset, .unset] [])) _
    refine XS.lconst X0.here hx rfl (hb hby at_29) ?_
    show Steps p.tables e below (s₁.setTop (mkF m 30 #[.val (.long q1), .second, .val (.long q2), .second, .val (.int p3), .val (.long q1), .second, .val (.long q2), .second, .val (.int (p3 &&& (3 : Int32))), .unset, .unset] [(.long (1 : Int64))])) _
    refine XS.iload X0.here hx rfl (hb hby at_30) rfl ?_
    show Steps p.tables e below (s₁.setTop (mkF m 32 #[.val (.long q1), .second, .val (.long q2), .second, .val (.int p3), .val (.long q1), .second, .val (.long q2), .second, .val (.int (p3 &&& (3 : Int32))), .unset, .unset] [(.int p3), (.long (1 : Int64))])) _
    refine XS.iconst X0.here hx rfl (hb hby at_32) ?_
    show Steps p.tables e below (s₁.setTop (mkF m 33 #[.val (.long q1), .second, .val (.long q2), .second, .val (.int p3), .val (.long q1), .second, .val (.long q2), .second, .val (.int (p3 &&& (3 : Int32))), .unset, .unset] [(.int (2 : Int32)), (.int p3), (.long (1 : Int64))])) _
    refine XS.iushr X0.here hx rfl (hb hby at_33) rfl ?_
    show Steps p.tables e below (s₁.setTop (mkF m 34 #[.val (.long q1), .second, .val (.long q2), .second, .val (.int p3), .val (.long q1), .second, .val (.long q2), .second, .val (.int (p3 &&& (3 : Int32))), .unset, .unset] [(.int ((p3.toUInt32 >>> ((2 : Int32) &&& 31).toUInt32).toInt32)), (.long (1 : Int64))])) _
    refine XS.bipush X0.here hx rfl (hb hby at_34) ?_
    show Steps p.tables e below (s₁.setTop (mkF m 36 #[.val (.long q1), .second, .val (.long q2), .second, .val (.int p3), .val (.long q1), .second, .val (.long q2), .second, .val (.int (p3 &&& (3 : Int32))), .unset, .unset] [(.int (31 : Int32)), (.int ((p3.toUInt32 >>> ((2 : Int32) &&& 31).toUInt32).toInt32)), (.long (1 : Int64))])) _
    refine XS.iand X0.here hx rfl (hb hby at_36) rfl ?_
    show Steps p.tables e below (s₁.setTop (mkF m 37 #[.val (.long q1), .second, .val (.long q2), .second, .val (.int p3), .val (.long q1), .second, .val (.long q2), .second, .val (.int (p3 &&& (3 : Int32))), .unset, .unset] [(.int (((p3.toUInt32 >>> ((2 : Int32) &&& 31).toUInt32).toInt32) &&& (31 : Int32))), (.long (1 : Int64))])) _
    refine XS.lshl X0.here hx rfl (hb hby at_37) rfl ?_
    show Steps p.tables e below (s₁.setTop (mkF m 38 #[.val (.long q1), .second, .val (.long q2), .second, .val (.int p3), .val (.long q1), .second, .val (.long q2), .second, .val (.int (p3 &&& (3 : Int32))), .unset, .unset] [(.long ((1 : Int64) <<< ((((p3.toUInt32 >>> ((2 : Int32) &&& 31).toUInt32).toInt32) &&& (31 : Int32)) &&& 0x3f).toInt64))])) _
    refine XS.lstore X0.here hx rfl (hb hby at_38) rfl (l' := #[.val (.long q1), .second, .val (.long q2), .second, .val (.int p3), .val (.long q1), .second, .val (.long (t0_0 p3)), .second, .val (.int (p3 &&& (3 : Int32))), .unset, .unset]) rfl ?_
    show Steps p.tables e below (s₁.setTop (mkF m 40 #[.val (.long q1), .second, .val (.long q2), .second, .val (.int p3), .val (.long q1), .second, .val (.long (t0_0 p3)), .second, .val (.int (p3 &&& (3 : Int32))), .unset, .unset] [])) _
    refine XS.goto X0.here hx rfl (pc0 := 40) (pc' := 76) rfl (hb hby at_40) (by decide) (by decide) ?_
    show Steps p.tables e below (s₁.setTop (mkF m 76 #[.val (.long q1), .second, .val (.long q2), .second, .val (.int p3), .val (.long q1), .second, .val (.long (t0_0 p3)), .second, .val (.int (p3 &&& (3 : Int32))), .unset, .unset] [])) _
    refine XS.lload X0.here hx rfl (hb hby at_76) rfl ?_
    show Steps p.tables e below (s₁.setTop (mkF m 78 #[.val (.long q1), .second, .val (.long q2), .second, .val (.int p3), .val (.long q1), .second, .val (.long (t0_0 p3)), .second, .val (.int (p3 &&& (3 : Int32))), .unset, .unset] [(.long q1)])) _
    refine XS.lload X0.here hx rfl (hb hby at_78) rfl ?_
    show Steps p.tables e below (s₁.setTop (mkF m 80 #[.val (.long q1), .second, .val (.long q2), .second, .val (.int p3), .val (.long q1), .second, .val (.long (t0_0 p3)), .second, .val (.int (p3 &&& (3 : Int32))), .unset, .unset] [(.long (t0_0 p3)), (.long q1)])) _
    refine st4 _ ?_
    show Steps p.tables e below (T4.setTop (mkF m 83 #[.val (.long q1), .second, .val (.long q2), .second, .val (.int p3), .val (.long q1), .second, .val (.long (t0_0 p3)), .second, .val (.int (p3 &&& (3 : Int32))), .unset, .unset] [(.long (F1 q1 (t0_0 p3)))])) _
    refine XS.lstore X4.here hx rfl (hb hby at_83) rfl (l' := #[.val (.long q1), .second, .val (.long q2), .second, .val (.int p3), .val (.long q1), .second, .val (.long (t0_0 p3)), .second, .val (.int (p3 &&& (3 : Int32))), .val (.long (F1 q1 (t0_0 p3))), .second]) rfl ?_
    show Steps p.tables e below (T4.setTop (mkF m 85 #[.val (.long q1), .second, .val (.long q2), .second, .val (.int p3), .val (.long q1), .second, .val (.long (t0_0 p3)), .second, .val (.int (p3 &&& (3 : Int32))), .val (.long (F1 q1 (t0_0 p3))), .second] [])) _
    refine XS.lload X4.here hx rfl (hb hby at_85) rfl ?_
    show Steps p.tables e below (T4.setTop (mkF m 87 #[.val (.long q1), .second, .val (.long q2), .second, .val (.int p3), .val (.long q1), .second, .val (.long (t0_0 p3)), .second, .val (.int (p3 &&& (3 : Int32))), .val (.long (F1 q1 (t0_0 p3))), .second] [(.long (F1 q1 (t0_0 p3)))])) _
    refine XS.lload X4.here hx rfl (hb hby at_87) rfl ?_
    show Steps p.tables e below (T4.setTop (mkF m 89 #[.val (.long q1), .second, .val (.long q2), .second, .val (.int p3), .val (.long q1), .second, .val (.long (t0_0 p3)), .second, .val (.int (p3 &&& (3 : Int32))), .val (.long (F1 q1 (t0_0 p3))), .second] [(.long q1), (.long (F1 q1 (t0_0 p3)))])) _
    refine XS.lload X4.here hx rfl (hb hby at_89) rfl ?_
    show Steps p.tables e below (T4.setTop (mkF m 91 #[.val (.long q1), .second, .val (.long q2), .second, .val (.int p3), .val (.long q1), .second, .val (.long (t0_0 p3)), .second, .val (.int (p3 &&& (3 : Int32))), .val (.long (F1 q1 (t0_0 p3))), .second] [(.long (t0_0 p3)), (.long q1), (.long (F1 q1 (t0_0 p3)))])) _
    refine st5 _ ?_
    show Steps p.tables e below (T5.setTop (mkF m 94 #[.val (.long q1), .second, .val (.long q2), .second, .val (.int p3), .val (.long q1), .second, .val (.long (t0_0 p3)), .second, .val (.int (p3 &&& (3 : Int32))), .val (.long (F1 q1 (t0_0 p3))), .second] [(.long (F4 q1 (t0_0 p3))), (.long (F1 q1 (t0_0 p3)))])) _
    refine XS.lcmp X5.here hx rfl (hb hby at_94) rfl ?_
    show Steps p.tables e below (T5.setTop (mkF m 95 #[.val (.long q1), .second, .val (.long q2), .second, .val (.int p3), .val (.long q1), .second, .val (.long (t0_0 p3)), .second, .val (.int (p3 &&& (3 : Int32))), .val (.long (F1 q1 (t0_0 p3))), .second] [(.int (lcmpW (F1 q1 (t0_0 p3)) (F4 q1 (t0_0 p3))))])) _
    refine XS.ifNo X5.here hx rfl (hb hby at_95) rfl ((if0 _ _).trans (teq (show (lcmpW (F1 q1 (t0_0 p3)) (F4 q1 (t0_0 p3))) = (0 : Int32) from own_eq _ _)).2) ?_
    show Steps p.tables e below (T5.setTop (mkF m 98 #[.val (.long q1), .second, .val (.long q2), .second, .val (.int p3), .val (.long q1), .second, .val (.long (t0_0 p3)), .second, .val (.int (p3 &&& (3 : Int32))), .val (.long (F1 q1 (t0_0 p3))), .second] [])) _
    refine XS.iconst X5.here hx rfl (hb hby at_98) ?_
    show Steps p.tables e below (T5.setTop (mkF m 99 #[.val (.long q1), .second, .val (.long q2), .second, .val (.int p3), .val (.long q1), .second, .val (.long (t0_0 p3)), .second, .val (.int (p3 &&& (3 : Int32))), .val (.long (F1 q1 (t0_0 p3))), .second] [(.int (1 : Int32))])) _
    refine XS.goto X5.here hx rfl (pc0 := 99) (pc' := 103) rfl (hb hby at_99) (by decide) (by decide) ?_
    show Steps p.tables e below (T5.setTop (mkF m 103 #[.val (.long q1), .second, .val (.long q2), .second, .val (.int p3), .val (.long q1), .second, .val (.long (t0_0 p3)), .second, .val (.int (p3 &&& (3 : Int32))), .val (.long (F1 q1 (t0_0 p3))), .second] [(.int (1 : Int32))])) _
    exact retN X5 hx (t := .boolean) Bd.returns (by simp) (hb hby at_103) hr
  · show Q_rm0 Z q1 q2 p3 h0 n0 _ T5.heap _
    exact ⟨rfl, N5⟩
set_option maxRecDepth 65536 in
set_option maxHeartbeats 40000000 in
theorem rm0_ttf (l : Launch) (Z : State) (a0 : Array Value) (hw : ∀ d ∈ tables_1, d.before a0 Z = true) (ws : List Jvm.Cond) (q1 : Int64) (q2 : Int64) (p3 : Int32) (h0 : Heap) (n0 : Nat) (Z0 : n0 ≤ h0.size) (hc14 : ¬ ((p3 &&& (3 : Int32)) = (0 : Int32))) (hc26 : ¬ ((p3 &&& (3 : Int32)) = (2 : Int32))) (hc46 : (p3 &&& (3 : Int32)) = (3 : Int32)) :
    MetFree l x (head1 (Jvm.Cond.code x code maxLocals ret :: ws) room_1) (fun a U => a = #[(.long q1), (.long q2), (.int p3)] ∧ Z.Warmed39 U.vm ∧ U.heap = h0) (fun _ _ _ _ _ => True) (fun _ U o U' => ∃ v L, o = .returned v ∧ Q_rm0 Z q1 q2 p3 h0 n0 v U'.heap L ∧ FrameEnd U o U' L room_1.cells room_1.slots) := by
  refine MetFree.of_bodySF (plainFor_of_name pn_0) hisR ?_
  intro p e s m args below meth c s₁ Bd hml0 hP hK
  obtain ⟨rfl, hZ, hh⟩ := hP
  have hx := Bd.exec
  have hby := Bd.bytes
  have hml : c.maxLocals = 12 := hml0
  have hown : s.vm.findClass "dev/driftline/HeapReserveBytesPinLaw" = some m.cls := findClass_of_methodNamed Bd.named
  have hnm := (name_of_methodNamed Bd.named Bd.method).1
  have X0 : Stand p l e room_1 s m #[(.long q1), (.long q2), (.int p3)] below meth c s₁ [] 0 0 := Stand.of_body Bd
  have e0 : s₁.heap = h0 := by rw [← hh, Bd.state]; rfl
  have N0 := Fr.nil n0
  have pre0 : ∀ t, Steps p.tables e below (s₁.setTop (mkF m 0 #[.val (.long q1), .second, .val (.long q2), .second, .val (.int p3), .unset, .unset, .unset, .unset, .unset, .unset, .unset] [])) t → Steps p.tables e below (s₁.setTop (entryFrame m #[(.long q1), (.long q2), (.int p3)] maxLocals)) t := fun t k => castTop (ef_0 m q1 q2 p3) k
  obtain ⟨_, _, ⟨T4, L4, k4, n4⟩, -, X4, ⟨Lc4, hQ4, l4, y4, z4⟩, st4⟩ := Jvm.LawKit.callS X0 hx (y := (⟨"dev/driftline/HeapReserve", "bytes", "(JJ)J"⟩ : MethodName)) hown (mvT hZ (hw _ (List.mem_of_getElem? (i := 0) rfl))) (mvT hZ (hw _ (List.mem_of_getElem? (i := 1) rfl))) (mvT hZ (hw _ (List.mem_of_getElem? (i := 2) rfl))) (mvT hZ (hw _ (List.mem_of_getElem? (i := 3) rfl))) (by decide) (backOf (W := 0) (rm1 l Z a0 hw [] (t0_1 q1 p3) (t0_0 p3) h0 n0 Z0 ) hZ (hw _ (List.mem_of_getElem? (i := 3) rfl)) (hw _ (List.mem_of_getElem? (i := 2) rfl)) (by decide) (by decide)) (g := (mkF m 80 #[.val (.long q1), .second, .val (.long q2), .second, .val (.int p3), .val (.long (t0_1 q1 p3)), .second, .val (.long (t0_0 p3)), .second, .val (.int (p3 &&& (3 : Int32))), .unset, .unset] [(.long (t0_0 p3)), (.long (t0_1 q1 p3))])) rfl (by rw [hml]; rfl) (argsL := [(.long (t0_1 q1 p3)), (.long (t0_0 p3))]) (rest := []) (lenOf pd__28JJ_29J rfl) rfl (by show 2 * 0 + _ ≤ _; exact Nat.le_of_eq rfl) (hb hby at_80) (fun _ _ => ⟨rfl, e0, (by decide : 0 + 0 ≤ _), (by decide : 0 + 0 ≤ _)⟩)
  dsimp only [Pt.U, Pt.locs, Pt.cells, Pt.slots] at X4 l4 y4 z4 st4 hQ4
  subst l4 y4 z4
  obtain ⟨rfl, N4q, e4⟩ := hQ4
  have N4 := Fr.app N0 N4q
  obtain ⟨_, _, ⟨T5, L5, k5, n5⟩, -, X5, ⟨Lc5, hQ5, l5, y5, z5⟩, st5⟩ := Jvm.LawKit.callS X4 hx (y := (⟨"dev/driftline/HeapReserveBytesPinLaw", "expected", "(JJ)J"⟩ : MethodName)) hown (mvT hZ (hw _ (List.mem_of_getElem? (i := 15) rfl))) (mvT hZ (hw _ (List.mem_of_getElem? (i := 16) rfl))) (mvT hZ (hw _ (List.mem_of_getElem? (i := 17) rfl))) (mvT hZ (hw _ (List.mem_of_getElem? (i := 18) rfl))) (by decide) (backOf (W := 2) (rm4 l Z a0 hw [] (t0_1 q1 p3) (t0_0 p3) h0 n0 Z0 ) hZ (hw _ (List.mem_of_getElem? (i := 18) rfl)) (hw _ (List.mem_of_getElem? (i := 17) rfl)) (by decide) (by decide)) (g := (mkF m 91 #[.val (.long q1), .second, .val (.long q2), .second, .val (.int p3), .val (.long (t0_1 q1 p3)), .second, .val (.long (t0_0 p3)), .second, .val (.int (p3 &&& (3 : Int32))), .val (.long (F1 (t0_1 q1 p3) (t0_0 p3))), .second] [(.long (t0_0 p3)), (.long (t0_1 q1 p3)), (.long (F1 (t0_1 q1 p3) (t0_0 p3)))])) rfl (by rw [hml]; rfl) (argsL := [(.long (t0_1 q1 p3)), (.long (t0_0 p3))]) (rest := [(.long (F1 (t0_1 q1 p3) (t0_0 p3)))]) (lenOf pd__28JJ_29J rfl) rfl (by show 2 * 0 + _ ≤ _; exact Nat.le_of_eq rfl) (hb hby at_91) (fun _ _ => ⟨rfl, e4, (by decide : 0 + 0 ≤ _), (by decide : 0 + 0 ≤ _)⟩)
  dsimp only [Pt.U, Pt.locs, Pt.cells, Pt.slots] at X5 l5 y5 z5 st5 hQ5
  subst l5 y5 z5
  obtain ⟨rfl, N5q, e5⟩ := hQ5
  have N5 := Fr.app N4 N5q
  obtain ⟨fs, hr, hrun, hended, hW, hsame⟩ := X5.leave (v := some (.int (1 : Int32))) (fun h => by rw [Bd.returns] at h; cases h)
  refine ⟨_, _, pre0 _ ?_, hrun, hended, _, _, rfl, ?_, ⟨_, rfl⟩, hW, hsame.mono (by decide) (by decide)⟩
  · show Steps p.tables e below (s₁.setTop (mkF m 0 #[.val (.long q1), .second, .val (.long q2), .second, .val (.int p3), .unset, .unset, .unset, .unset, .unset, .unset, .unset] [])) _
    refine XS.lloadN X0.here hx rfl (hb hby at_0) rfl ?_
    show Steps p.tables e below (s₁.setTop (mkF m 1 #[.val (.long q1), .second, .val (.long q2), .second, .val (.int p3), .unset, .unset, .unset, .unset, .unset, .unset, .unset] [(.long q1)])) _
    refine XS.lstore X0.here hx rfl (hb hby at_1) rfl (l' := #[.val (.long q1), .second, .val (.long q2), .second, .val (.int p3), .val (.long q1), .second, .unset, .unset, .unset, .unset, .unset]) rfl ?_
    show Steps p.tables e below (s₁.setTop (mkF m 3 #[.val (.long q1), .second, .val (.long q2), .second, .val (.int p3), .val (.long q1), .second, .unset, .unset, .unset, .unset, .unset] [])) _
    refine XS.lloadN X0.here hx rfl (hb hby at_3) rfl ?_
    show Steps p.tables e below (s₁.setTop (mkF m 4 #[.val (.long q1), .second, .val (.long q2), .second, .val (.int p3), .val (.long q1), .second, .unset, .unset, .unset, .unset, .unset] [(.long q2)])) _
    refine XS.lstore X0.here hx rfl (hb hby at_4) rfl (l' := #[.val (.long q1), .second, .val (.long q2), .second, .val (.int p3), .val (.long q1), .second, .val (.long q2), .second, .unset, .unset, .unset]) rfl ?_
    show Steps p.tables e below (s₁.setTop (mkF m 6 #[.val (.long q1), .second, .val (.long q2), .second, .val (.int p3), .val (.long q1), .second, .val (.long q2), .second, .unset, .unset, .unset] [])) _
    refine XS.iload X0.here hx rfl (hb hby at_6) rfl ?_
    show Steps p.tables e below (s₁.setTop (mkF m 8 #[.val (.long q1), .second, .val (.long q2), .second, .val (.int p3), .val (.long q1), .second, .val (.long q2), .second, .unset, .unset, .unset] [(.int p3)])) _
    refine XS.iconst X0.here hx rfl (hb hby at_8) ?_
    show Steps p.tables e below (s₁.setTop (mkF m 9 #[.val (.long q1), .second, .val (.long q2), .second, .val (.int p3), .val (.long q1), .second, .val (.long q2), .second, .unset, .unset, .unset] [(.int (3 : Int32)), (.int p3)])) _
    refine XS.iand X0.here hx rfl (hb hby at_9) rfl ?_
    show Steps p.tables e below (s₁.setTop (mkF m 10 #[.val (.long q1), .second, .val (.long q2), .second, .val (.int p3), .val (.long q1), .second, .val (.long q2), .second, .unset, .unset, .unset] [(.int (p3 &&& (3 : Int32)))])) _
    refine XS.istore X0.here hx rfl (hb hby at_10) rfl (l' := #[.val (.long q1), .second, .val (.long q2), .second, .val (.int p3), .val (.long q1), .second, .val (.long q2), .second, .val (.int (p3 &&& (3 : Int32))), .unset, .unset]) rfl ?_
    show Steps p.tables e below (s₁.setTop (mkF m 12 #[.val (.long q1), .second, .val (.long q2), .second, .val (.int p3), .val (.long q1), .second, .val (.long q2), .second, .val (.int (p3 &&& (3 : Int32))), .unset, .unset] [])) _
    refine XS.iload X0.here hx rfl (hb hby at_12) rfl ?_
    show Steps p.tables e below (s₁.setTop (mkF m 14 #[.val (.long q1), .second, .val (.long q2), .second, .val (.int p3), .val (.long q1), .second, .val (.long q2), .second, .val (.int (p3 &&& (3 : Int32))), .unset, .unset] [(.int (p3 &&& (3 : Int32)))])) _
    refine XS.ifYes X0.here hx rfl (pc0 := 14) (pc' := 23) rfl (hb hby at_14) rfl ((if0 _ _).trans (feq hc14).2) (by decide) (by decide) ?_
    show Steps p.tables e below (s₁.setTop (mkF m 23 #[.val (.long q1), .second, .val (.long q2), .second, .val (.int p3), .val (.long q1), .second, .val (.long q2), .second, .val (.int (p3 &&& (3 : Int32))), .unset, .unset] [])) _
    refine XS.iload X0.here hx rfl (hb hby at_23) rfl ?_
    show Steps p.tables e below (s₁.setTop (mkF m 25 #[.val (.long q1), .second, .val (.long q2), .second, .val (.int p3), .val (.long q1), .second, .val (.long q2), .second, .val (.int (p3 &&& (3 : Int32))), .unset, .unset] [(.int (p3 &&& (3 : Int32)))])) _
    refine XS.iconst X0.here hx rfl (hb hby at_25) ?_
    show Steps p.tables e below (s₁.setTop (mkF m 26 #[.val (.long q1), .second, .val (.long q2), .second, .val (.int p3), .val (.long q1), .second, .val (.long q2), .second, .val (.int (p3 &&& (3 : Int32))), .unset, .unset] [(.int (2 : Int32)), (.int (p3 &&& (3 : Int32)))])) _
    refine XS.icmpYes X0.here hx rfl (pc0 := 26) (pc' := 43) rfl (hb hby at_26) rfl (feq hc26).2 (by decide) (by decide) ?_
    show Steps p.tables e below (s₁.setTop (mkF m 43 #[.val (.long q1), .second, .val (.long q2), .second, .val (.int p3), .val (.long q1), .second, .val (.long q2), .second, .val (.int (p3 &&& (3 : Int32))), .unset, .unset] [])) _
    refine XS.iload X0.here hx rfl (hb hby at_43) rfl ?_
    show Steps p.tables e below (s₁.setTop (mkF m 45 #[.val (.long q1), .second, .val (.long q2), .second, .val (.int p3), .val (.long q1), .second, .val (.long q2), .second, .val (.int (p3 &&& (3 : Int32))), .unset, .unset] [(.int (p3 &&& (3 : Int32)))])) _
    refine XS.iconst X0.here hx rfl (hb hby at_45) ?_
    show Steps p.tables e below (s₁.setTop (mkF m 46 #[.val (.long q1), .second, .val (.long q2), .second, .val (.int p3), .val (.long q1), .second, .val (.long q2), .second, .val (.int (p3 &&& (3 : Int32))), .unset, .unset] [(.int (3 : Int32)), (.int (p3 &&& (3 : Int32)))])) _
    refine XS.icmpNo X0.here hx rfl (hb hby at_46) rfl (teq hc46).2 ?_
    show Steps p.tables e below (s₁.setTop (mkF m 49 #[.val (.long q1), .second, .val (.long q2), .second, .val (.int p3), .val (.long q1), .second, .val (.long q2), .second, .val (.int (p3 &&& (3 : Int32))), .unset, .unset] [])) _
    refine XS.lconst X0.here hx rfl (hb hby at_49) ?_
    show Steps p.tables e below (s₁.setTop (mkF m 50 #[.val (.long q1), .second, .val (.long q2), .second, .val (.int p3), .val (.long q1), .second, .val (.long q2), .second, .val (.int (p3 &&& (3 : Int32))), .unset, .unset] [(.long (1 : Int64))])) _
    refine XS.iload X0.here hx rfl (hb hby at_50) rfl ?_
    show Steps p.tables e below (s₁.setTop (mkF m 52 #[.val (.long q1), .second, .val (.long q2), .second, .val (.int p3), .val (.long q1), .second, .val (.long q2), .second, .val (.int (p3 &&& (3 : Int32))), .unset, .unset] [(.int p3), (.long (1 : Int64))])) _
    refine XS.iconst X0.here hx rfl (hb hby at_52) ?_
    show Steps p.tables e below (s₁.setTop (mkF m 53 #[.val (.long q1), .second, .val (.long q2), .second, .val (.int p3), .val (.long q1), .second, .val (.long q2), .second, .val (.int (p3 &&& (3 : Int32))), .unset, .unset] [(.int (2 : Int32)), (.int p3), (.long (1 : Int64))])) _
    refine XS.iushr X0.here hx rfl (hb hby at_53) rfl ?_
    show Steps p.tables e below (s₁.setTop (mkF m 54 #[.val (.long q1), .second, .val (.long q2), .second, .val (.int p3), .val (.long q1), .second, .val (.long q2), .second, .val (.int (p3 &&& (3 : Int32))), .unset, .unset] [(.int ((p3.toUInt32 >>> ((2 : Int32) &&& 31).toUInt32).toInt32)), (.long (1 : Int64))])) _
    refine XS.bipush X0.here hx rfl (hb hby at_54) ?_
    show Steps p.tables e below (s₁.setTop (mkF m 56 #[.val (.long q1), .second, .val (.long q2), .second, .val (.int p3), .val (.long q1), .second, .val (.long q2), .second, .val (.int (p3 &&& (3 : Int32))), .unset, .unset] [(.int (31 : Int32)), (.int ((p3.toUInt32 >>> ((2 : Int32) &&& 31).toUInt32).toInt32)), (.long (1 : Int64))])) _
    refine XS.iand X0.here hx rfl (hb hby at_56) rfl ?_
    show Steps p.tables e below (s₁.setTop (mkF m 57 #[.val (.long q1), .second, .val (.long q2), .second, .val (.int p3), .val (.long q1), .second, .val (.long q2), .second, .val (.int (p3 &&& (3 : Int32))), .unset, .unset] [(.int (((p3.toUInt32 >>> ((2 : Int32) &&& 31).toUInt32).toInt32) &&& (31 : Int32))), (.long (1 : Int64))])) _
    refine XS.lshl X0.here hx rfl (hb hby at_57) rfl ?_
    show Steps p.tables e below (s₁.setTop (mkF m 58 #[.val (.long q1), .second, .val (.long q2), .second, .val (.int p3), .val (.long q1), .second, .val (.long q2), .second, .val (.int (p3 &&& (3 : Int32))), .unset, .unset] [(.long ((1 : Int64) <<< ((((p3.toUInt32 >>> ((2 : Int32) &&& 31).toUInt32).toInt32) &&& (31 : Int32)) &&& 0x3f).toInt64))])) _
    refine XS.lstore X0.here hx rfl (hb hby at_58) rfl (l' := #[.val (.long q1), .second, .val (.long q2), .second, .val (.int p3), .val (.long q1), .second, .val (.long (t0_0 p3)), .second, .val (.int (p3 &&& (3 : Int32))), .unset, .unset]) rfl ?_
    show Steps p.tables e below (s₁.setTop (mkF m 60 #[.val (.long q1), .second, .val (.long q2), .second, .val (.int p3), .val (.long q1), .second, .val (.long (t0_0 p3)), .second, .val (.int (p3 &&& (3 : Int32))), .unset, .unset] [])) _
    refine XS.lload X0.here hx rfl (hb hby at_60) rfl ?_
    show Steps p.tables e below (s₁.setTop (mkF m 62 #[.val (.long q1), .second, .val (.long q2), .second, .val (.int p3), .val (.long q1), .second, .val (.long (t0_0 p3)), .second, .val (.int (p3 &&& (3 : Int32))), .unset, .unset] [(.long (t0_0 p3))])) _
    refine X0.ldc2Long hx hown (mvT hZ (hw _ (List.mem_of_getElem? (i := 22) rfl))) (g := (mkF m 62 #[.val (.long q1), .second, .val (.long q2), .second, .val (.int p3), .val (.long q1), .second, .val (.long (t0_0 p3)), .second, .val (.int (p3 &&& (3 : Int32))), .unset, .unset] [(.long (t0_0 p3))])) rfl (hb hby at_62) _ ?_
    show Steps p.tables e below (s₁.setTop (mkF m 65 #[.val (.long q1), .second, .val (.long q2), .second, .val (.int p3), .val (.long q1), .second, .val (.long (t0_0 p3)), .second, .val (.int (p3 &&& (3 : Int32))), .unset, .unset] [(.long (8 : Int64)), (.long (t0_0 p3))])) _
    refine XS.lmul X0.here hx rfl (hb hby at_65) rfl ?_
    show Steps p.tables e below (s₁.setTop (mkF m 66 #[.val (.long q1), .second, .val (.long q2), .second, .val (.int p3), .val (.long q1), .second, .val (.long (t0_0 p3)), .second, .val (.int (p3 &&& (3 : Int32))), .unset, .unset] [(.long ((t0_0 p3) * (8 : Int64)))])) _
    refine XS.lloadN X0.here hx rfl (hb hby at_66) rfl ?_
    show Steps p.tables e below (s₁.setTop (mkF m 67 #[.val (.long q1), .second, .val (.long q2), .second, .val (.int p3), .val (.long q1), .second, .val (.long (t0_0 p3)), .second, .val (.int (p3 &&& (3 : Int32))), .unset, .unset] [(.long q1), (.long ((t0_0 p3) * (8 : Int64)))])) _
    refine X0.ldc2Long hx hown (mvT hZ (hw _ (List.mem_of_getElem? (i := 23) rfl))) (g := (mkF m 67 #[.val (.long q1), .second, .val (.long q2), .second, .val (.int p3), .val (.long q1), .second, .val (.long (t0_0 p3)), .second, .val (.int (p3 &&& (3 : Int32))), .unset, .unset] [(.long q1), (.long ((t0_0 p3) * (8 : Int64)))])) rfl (hb hby at_67) _ ?_
    show Steps p.tables e below (s₁.setTop (mkF m 70 #[.val (.long q1), .second, .val (.long q2), .second, .val (.int p3), .val (.long q1), .second, .val (.long (t0_0 p3)), .second, .val (.int (p3 &&& (3 : Int32))), .unset, .unset] [(.long (3 : Int64)), (.long q1), (.long ((t0_0 p3) * (8 : Int64)))])) _
    refine XS.lrem X0.here hx rfl (hb hby at_70) rfl (by decide) ?_
    show Steps p.tables e below (s₁.setTop (mkF m 71 #[.val (.long q1), .second, .val (.long q2), .second, .val (.int p3), .val (.long q1), .second, .val (.long (t0_0 p3)), .second, .val (.int (p3 &&& (3 : Int32))), .unset, .unset] [(.long (q1 - (q1 / (3 : Int64)) * (3 : Int64))), (.long ((t0_0 p3) * (8 : Int64)))])) _
    refine XS.ladd X0.here hx rfl (hb hby at_71) rfl ?_
    show Steps p.tables e below (s₁.setTop (mkF m 72 #[.val (.long q1), .second, .val (.long q2), .second, .val (.int p3), .val (.long q1), .second, .val (.long (t0_0 p3)), .second, .val (.int (p3 &&& (3 : Int32))), .unset, .unset] [(.long (((t0_0 p3) * (8 : Int64)) + (q1 - (q1 / (3 : Int64)) * (3 : Int64))))])) _
    refine XS.lconst X0.here hx rfl (hb hby at_72) ?_
    show Steps p.tables e below (s₁.setTop (mkF m 73 #[.val (.long q1), .second, .val (.long q2), .second, .val (.int p3), .val (.long q1), .second, .val (.long (t0_0 p3)), .second, .val (.int (p3 &&& (3 : Int32))), .unset, .unset] [(.long (1 : Int64)), (.long (((t0_0 p3) * (8 : Int64)) + (q1 - (q1 / (3 : Int64)) * (3 : Int64))))])) _
    refine XS.lsub X0.here hx rfl (hb hby at_73) rfl ?_
    show Steps p.tables e below (s₁.setTop (mkF m 74 #[.val (.long q1), .second, .val (.long q2), .second, .val (.int p3), .val (.long q1), .second, .val (.long (t0_0 p3)), .second, .val (.int (p3 &&& (3 : Int32))), .unset, .unset] [(.long ((((t0_0 p3) * (8 : Int64)) + (q1 - (q1 / (3 : Int64)) * (3 : Int64))) - (1 : Int64)))])) _
    refine XS.lstore X0.here hx rfl (hb hby at_74) rfl (l' := #[.val (.long q1), .second, .val (.long q2), .second, .val (.int p3), .val (.long (t0_1 q1 p3)), .second, .val (.long (t0_0 p3)), .second, .val (.int (p3 &&& (3 : Int32))), .unset, .unset]) rfl ?_
    show Steps p.tables e below (s₁.setTop (mkF m 76 #[.val (.long q1), .second, .val (.long q2), .second, .val (.int p3), .val (.long (t0_1 q1 p3)), .second, .val (.long (t0_0 p3)), .second, .val (.int (p3 &&& (3 : Int32))), .unset, .unset] [])) _
    refine XS.lload X0.here hx rfl (hb hby at_76) rfl ?_
    show Steps p.tables e below (s₁.setTop (mkF m 78 #[.val (.long q1), .second, .val (.long q2), .second, .val (.int p3), .val (.long (t0_1 q1 p3)), .second, .val (.long (t0_0 p3)), .second, .val (.int (p3 &&& (3 : Int32))), .unset, .unset] [(.long (t0_1 q1 p3))])) _
    refine XS.lload X0.here hx rfl (hb hby at_78) rfl ?_
    show Steps p.tables e below (s₁.setTop (mkF m 80 #[.val (.long q1), .second, .val (.long q2), .second, .val (.int p3), .val (.long (t0_1 q1 p3)), .second, .val (.long (t0_0 p3)), .second, .val (.int (p3 &&& (3 : Int32))), .unset, .unset] [(.long (t0_0 p3)), (.long (t0_1 q1 p3))])) _
    refine st4 _ ?_
    show Steps p.tables e below (T4.setTop (mkF m 83 #[.val (.long q1), .second, .val (.long q2), .second, .val (.int p3), .val (.long (t0_1 q1 p3)), .second, .val (.long (t0_0 p3)), .second, .val (.int (p3 &&& (3 : Int32))), .unset, .unset] [(.long (F1 (t0_1 q1 p3) (t0_0 p3)))])) _
    refine XS.lstore X4.here hx rfl (hb hby at_83) rfl (l' := #[.val (.long q1), .second, .val (.long q2), .second, .val (.int p3), .val (.long (t0_1 q1 p3)), .second, .val (.long (t0_0 p3)), .second, .val (.int (p3 &&& (3 : Int32))), .val (.long (F1 (t0_1 q1 p3) (t0_0 p3))), .second]) rfl ?_
    show Steps p.tables e below (T4.setTop (mkF m 85 #[.val (.long q1), .second, .val (.long q2), .second, .val (.int p3), .val (.long (t0_1 q1 p3)), .second, .val (.long (t0_0 p3)), .second, .val (.int (p3 &&& (3 : Int32))), .val (.long (F1 (t0_1 q1 p3) (t0_0 p3))), .second] [])) _
    refine XS.lload X4.here hx rfl (hb hby at_85) rfl ?_
    show Steps p.tables e below (T4.setTop (mkF m 87 #[.val (.long q1), .second, .val (.long q2), .second, .val (.int p3), .val (.long (t0_1 q1 p3)), .second, .val (.long (t0_0 p3)), .second, .val (.int (p3 &&& (3 : Int32))), .val (.long (F1 (t0_1 q1 p3) (t0_0 p3))), .second] [(.long (F1 (t0_1 q1 p3) (t0_0 p3)))])) _
    refine XS.lload X4.here hx rfl (hb hby at_87) rfl ?_
    show Steps p.tables e below (T4.setTop (mkF m 89 #[.val (.long q1), .second, .val (.long q2), .second, .val (.int p3), .val (.long (t0_1 q1 p3)), .second, .val (.long (t0_0 p3)), .second, .val (.int (p3 &&& (3 : Int32))), .val (.long (F1 (t0_1 q1 p3) (t0_0 p3))), .second] [(.long (t0_1 q1 p3)), (.long (F1 (t0_1 q1 p3) (t0_0 p3)))])) _
    refine XS.lload X4.here hx rfl (hb hby at_89) rfl ?_
    show Steps p.tables e below (T4.setTop (mkF m 91 #[.val (.long q1), .second, .val (.long q2), .second, .val (.int p3), .val (.long (t0_1 q1 p3)), .second, .val (.long (t0_0 p3)), .second, .val (.int (p3 &&& (3 : Int32))), .val (.long (F1 (t0_1 q1 p3) (t0_0 p3))), .second] [(.long (t0_0 p3)), (.long (t0_1 q1 p3)), (.long (F1 (t0_1 q1 p3) (t0_0 p3)))])) _
    refine st5 _ ?_
    show Steps p.tables e below (T5.setTop (mkF m 94 #[.val (.long q1), .second, .val (.long q2), .second, .val (.int p3), .val (.long (t0_1 q1 p3)), .second, .val (.long (t0_0 p3)), .second, .val (.int (p3 &&& (3 : Int32))), .val (.long (F1 (t0_1 q1 p3) (t0_0 p3))), .second] [(.long (F4 (t0_1 q1 p3) (t0_0 p3))), (.long (F1 (t0_1 q1 p3) (t0_0 p3)))])) _
    refine XS.lcmp X5.here hx rfl (hb hby at_94) rfl ?_
    show Steps p.tables e below (T5.setTop (mkF m 95 #[.val (.long q1), .second, .val (.long q2), .second, .val (.int p3), .val (.long (t0_1 q1 p3)), .second, .val (.long (t0_0 p3)), .second, .val (.int (p3 &&& (3 : Int32))), .val (.long (F1 (t0_1 q1 p3) (t0_0 p3))), .second] [(.int (lcmpW (F1 (t0_1 q1 p3) (t0_0 p3)) (F4 (t0_1 q1 p3) (t0_0 p3))))])) _
    refine XS.ifNo X5.here hx rfl (hb hby at_95) rfl ((if0 _ _).trans (teq (show (lcmpW (F1 (t0_1 q1 p3) (t0_0 p3)) (F4 (t0_1 q1 p3) (t0_0 p3))) = (0 : Int32) from own_eq _ _)).2) ?_
    show Steps p.tables e below (T5.setTop (mkF m 98 #[.val (.long q1), .second, .val (.long q2), .second, .val (.int p3), .val (.long (t0_1 q1 p3)), .second, .val (.long (t0_0 p3)), .second, .val (.int (p3 &&& (3 : Int32))), .val (.long (F1 (t0_1 q1 p3) (t0_0 p3))), .second] [])) _
    refine XS.iconst X5.here hx rfl (hb hby at_98) ?_
    show Steps p.tables e below (T5.setTop (mkF m 99 #[.val (.long q1), .second, .val (.long q2), .second, .val (.int p3), .val (.long (t0_1 q1 p3)), .second, .val (.long (t0_0 p3)), .second, .val (.int (p3 &&& (3 : Int32))), .val (.long (F1 (t0_1 q1 p3) (t0_0 p3))), .second] [(.int (1 : Int32))])) _
    refine XS.goto X5.here hx rfl (pc0 := 99) (pc' := 103) rfl (hb hby at_99) (by decide) (by decide) ?_
    show Steps p.tables e below (T5.setTop (mkF m 103 #[.val (.long q1), .second, .val (.long q2), .second, .val (.int p3), .val (.long (t0_1 q1 p3)), .second, .val (.long (t0_0 p3)), .second, .val (.int (p3 &&& (3 : Int32))), .val (.long (F1 (t0_1 q1 p3) (t0_0 p3))), .second] [(.int (1 : Int32))])) _
    exact retN X5 hx (t := .boolean) Bd.returns (by simp) (hb hby at_103) hr
  · show Q_rm0 Z q1 q2 p3 h0 n0 _ T5.heap _
    exact ⟨rfl, N5⟩
set_option maxRecDepth 65536 in
set_option maxHeartbeats 40000000 in
theorem rm0_ttt (l : Launch) (Z : State) (a0 : Array Value) (hw : ∀ d ∈ tables_1, d.before a0 Z = true) (ws : List Jvm.Cond) (q1 : Int64) (q2 : Int64) (p3 : Int32) (h0 : Heap) (n0 : Nat) (Z0 : n0 ≤ h0.size) (hc14 : ¬ ((p3 &&& (3 : Int32)) = (0 : Int32))) (hc26 : ¬ ((p3 &&& (3 : Int32)) = (2 : Int32))) (hc46 : ¬ ((p3 &&& (3 : Int32)) = (3 : Int32))) :
    MetFree l x (head1 (Jvm.Cond.code x code maxLocals ret :: ws) room_1) (fun a U => a = #[(.long q1), (.long q2), (.int p3)] ∧ Z.Warmed39 U.vm ∧ U.heap = h0) (fun _ _ _ _ _ => True) (fun _ U o U' => ∃ v L, o = .returned v ∧ Q_rm0 Z q1 q2 p3 h0 n0 v U'.heap L ∧ FrameEnd U o U' L room_1.cells room_1.slots) := by
  refine MetFree.of_bodySF (plainFor_of_name pn_0) hisR ?_
  intro p e s m args below meth c s₁ Bd hml0 hP hK
  obtain ⟨rfl, hZ, hh⟩ := hP
  have hx := Bd.exec
  have hby := Bd.bytes
  have hml : c.maxLocals = 12 := hml0
  have hown : s.vm.findClass "dev/driftline/HeapReserveBytesPinLaw" = some m.cls := findClass_of_methodNamed Bd.named
  have hnm := (name_of_methodNamed Bd.named Bd.method).1
  have X0 : Stand p l e room_1 s m #[(.long q1), (.long q2), (.int p3)] below meth c s₁ [] 0 0 := Stand.of_body Bd
  have e0 : s₁.heap = h0 := by rw [← hh, Bd.state]; rfl
  have N0 := Fr.nil n0
  have pre0 : ∀ t, Steps p.tables e below (s₁.setTop (mkF m 0 #[.val (.long q1), .second, .val (.long q2), .second, .val (.int p3), .unset, .unset, .unset, .unset, .unset, .unset, .unset] [])) t → Steps p.tables e below (s₁.setTop (entryFrame m #[(.long q1), (.long q2), (.int p3)] maxLocals)) t := fun t k => castTop (ef_0 m q1 q2 p3) k
  obtain ⟨_, _, ⟨T4, L4, k4, n4⟩, -, X4, ⟨Lc4, hQ4, l4, y4, z4⟩, st4⟩ := Jvm.LawKit.callS X0 hx (y := (⟨"dev/driftline/HeapReserve", "bytes", "(JJ)J"⟩ : MethodName)) hown (mvT hZ (hw _ (List.mem_of_getElem? (i := 0) rfl))) (mvT hZ (hw _ (List.mem_of_getElem? (i := 1) rfl))) (mvT hZ (hw _ (List.mem_of_getElem? (i := 2) rfl))) (mvT hZ (hw _ (List.mem_of_getElem? (i := 3) rfl))) (by decide) (backOf (W := 0) (rm1 l Z a0 hw [] q1 q2 h0 n0 Z0 ) hZ (hw _ (List.mem_of_getElem? (i := 3) rfl)) (hw _ (List.mem_of_getElem? (i := 2) rfl)) (by decide) (by decide)) (g := (mkF m 80 #[.val (.long q1), .second, .val (.long q2), .second, .val (.int p3), .val (.long q1), .second, .val (.long q2), .second, .val (.int (p3 &&& (3 : Int32))), .unset, .unset] [(.long q2), (.long q1)])) rfl (by rw [hml]; rfl) (argsL := [(.long q1), (.long q2)]) (rest := []) (lenOf pd__28JJ_29J rfl) rfl (by show 2 * 0 + _ ≤ _; exact Nat.le_of_eq rfl) (hb hby at_80) (fun _ _ => ⟨rfl, e0, (by decide : 0 + 0 ≤ _), (by decide : 0 + 0 ≤ _)⟩)
  dsimp only [Pt.U, Pt.locs, Pt.cells, Pt.slots] at X4 l4 y4 z4 st4 hQ4
  subst l4 y4 z4
  obtain ⟨rfl, N4q, e4⟩ := hQ4
  have N4 := Fr.app N0 N4q
  obtain ⟨_, _, ⟨T5, L5, k5, n5⟩, -, X5, ⟨Lc5, hQ5, l5, y5, z5⟩, st5⟩ := Jvm.LawKit.callS X4 hx (y := (⟨"dev/driftline/HeapReserveBytesPinLaw", "expected", "(JJ)J"⟩ : MethodName)) hown (mvT hZ (hw _ (List.mem_of_getElem? (i := 15) rfl))) (mvT hZ (hw _ (List.mem_of_getElem? (i := 16) rfl))) (mvT hZ (hw _ (List.mem_of_getElem? (i := 17) rfl))) (mvT hZ (hw _ (List.mem_of_getElem? (i := 18) rfl))) (by decide) (backOf (W := 2) (rm4 l Z a0 hw [] q1 q2 h0 n0 Z0 ) hZ (hw _ (List.mem_of_getElem? (i := 18) rfl)) (hw _ (List.mem_of_getElem? (i := 17) rfl)) (by decide) (by decide)) (g := (mkF m 91 #[.val (.long q1), .second, .val (.long q2), .second, .val (.int p3), .val (.long q1), .second, .val (.long q2), .second, .val (.int (p3 &&& (3 : Int32))), .val (.long (F1 q1 q2)), .second] [(.long q2), (.long q1), (.long (F1 q1 q2))])) rfl (by rw [hml]; rfl) (argsL := [(.long q1), (.long q2)]) (rest := [(.long (F1 q1 q2))]) (lenOf pd__28JJ_29J rfl) rfl (by show 2 * 0 + _ ≤ _; exact Nat.le_of_eq rfl) (hb hby at_91) (fun _ _ => ⟨rfl, e4, (by decide : 0 + 0 ≤ _), (by decide : 0 + 0 ≤ _)⟩)
  dsimp only [Pt.U, Pt.locs, Pt.cells, Pt.slots] at X5 l5 y5 z5 st5 hQ5
  subst l5 y5 z5
  obtain ⟨rfl, N5q, e5⟩ := hQ5
  have N5 := Fr.app N4 N5q
  obtain ⟨fs, hr, hrun, hended, hW, hsame⟩ := X5.leave (v := some (.int (1 : Int32))) (fun h => by rw [Bd.returns] at h; cases h)
  refine ⟨_, _, pre0 _ ?_, hrun, hended, _, _, rfl, ?_, ⟨_, rfl⟩, hW, hsame.mono (by decide) (by decide)⟩
  · show Steps p.tables e below (s₁.setTop (mkF m 0 #[.val (.long q1), .second, .val (.long q2), .second, .val (.int p3), .unset, .unset, .unset, .unset, .unset, .unset, .unset] [])) _
    refine XS.lloadN X0.here hx rfl (hb hby at_0) rfl ?_
    show Steps p.tables e below (s₁.setTop (mkF m 1 #[.val (.long q1), .second, .val (.long q2), .second, .val (.int p3), .unset, .unset, .unset, .unset, .unset, .unset, .unset] [(.long q1)])) _
    refine XS.lstore X0.here hx rfl (hb hby at_1) rfl (l' := #[.val (.long q1), .second, .val (.long q2), .second, .val (.int p3), .val (.long q1), .second, .unset, .unset, .unset, .unset, .unset]) rfl ?_
    show Steps p.tables e below (s₁.setTop (mkF m 3 #[.val (.long q1), .second, .val (.long q2), .second, .val (.int p3), .val (.long q1), .second, .unset, .unset, .unset, .unset, .unset] [])) _
    refine XS.lloadN X0.here hx rfl (hb hby at_3) rfl ?_
    show Steps p.tables e below (s₁.setTop (mkF m 4 #[.val (.long q1), .second, .val (.long q2), .second, .val (.int p3), .val (.long q1), .second, .unset, .unset, .unset, .unset, .unset] [(.long q2)])) _
    refine XS.lstore X0.here hx rfl (hb hby at_4) rfl (l' := #[.val (.long q1), .second, .val (.long q2), .second, .val (.int p3), .val (.long q1), .second, .val (.long q2), .second, .unset, .unset, .unset]) rfl ?_
    show Steps p.tables e below (s₁.setTop (mkF m 6 #[.val (.long q1), .second, .val (.long q2), .second, .val (.int p3), .val (.long q1), .second, .val (.long q2), .second, .unset, .unset, .unset] [])) _
    refine XS.iload X0.here hx rfl (hb hby at_6) rfl ?_
    show Steps p.tables e below (s₁.setTop (mkF m 8 #[.val (.long q1), .second, .val (.long q2), .second, .val (.int p3), .val (.long q1), .second, .val (.long q2), .second, .unset, .unset, .unset] [(.int p3)])) _
    refine XS.iconst X0.here hx rfl (hb hby at_8) ?_
    show Steps p.tables e below (s₁.setTop (mkF m 9 #[.val (.long q1), .second, .val (.long q2), .second, .val (.int p3), .val (.long q1), .second, .val (.long q2), .second, .unset, .unset, .unset] [(.int (3 : Int32)), (.int p3)])) _
    refine XS.iand X0.here hx rfl (hb hby at_9) rfl ?_
    show Steps p.tables e below (s₁.setTop (mkF m 10 #[.val (.long q1), .second, .val (.long q2), .second, .val (.int p3), .val (.long q1), .second, .val (.long q2), .second, .unset, .unset, .unset] [(.int (p3 &&& (3 : Int32)))])) _
    refine XS.istore X0.here hx rfl (hb hby at_10) rfl (l' := #[.val (.long q1), .second, .val (.long q2), .second, .val (.int p3), .val (.long q1), .second, .val (.long q2), .second, .val (.int (p3 &&& (3 : Int32))), .unset, .unset]) rfl ?_
    show Steps p.tables e below (s₁.setTop (mkF m 12 #[.val (.long q1), .second, .val (.long q2), .second, .val (.int p3), .val (.long q1), .second, .val (.long q2), .second, .val (.int (p3 &&& (3 : Int32))), .unset, .unset] [])) _
    refine XS.iload X0.here hx rfl (hb hby at_12) rfl ?_
    show Steps p.tables e below (s₁.setTop (mkF m 14 #[.val (.long q1), .second, .val (.long q2), .second, .val (.int p3), .val (.long q1), .second, .val (.long q2), .second, .val (.int (p3 &&& (3 : Int32))), .unset, .unset] [(.int (p3 &&& (3 : Int32)))])) _
    refine XS.ifYes X0.here hx rfl (pc0 := 14) (pc' := 23) rfl (hb hby at_14) rfl ((if0 _ _).trans (feq hc14).2) (by decide) (by decide) ?_
    show Steps p.tables e below (s₁.setTop (mkF m 23 #[.val (.long q1), .second, .val (.long q2), .second, .val (.int p3), .val (.long q1), .second, .val (.long q2), .second, .val (.int (p3 &&& (3 : Int32))), .unset, .unset] [])) _
    refine XS.iload X0.here hx rfl (hb hby at_23) rfl ?_
    show Steps p.tables e below (s₁.setTop (mkF m 25 #[.val (.long q1), .second, .val (.long q2), .second, .val (.int p3), .val (.long q1), .second, .val (.long q2), .second, .val (.int (p3 &&& (3 : Int32))), .unset, .unset] [(.int (p3 &&& (3 : Int32)))])) _
    refine XS.iconst X0.here hx rfl (hb hby at_25) ?_
    show Steps p.tables e below (s₁.setTop (mkF m 26 #[.val (.long q1), .second, .val (.long q2), .second, .val (.int p3), .val (.long q1), .second, .val (.long q2), .second, .val (.int (p3 &&& (3 : Int32))), .unset, .unset] [(.int (2 : Int32)), (.int (p3 &&& (3 : Int32)))])) _
    refine XS.icmpYes X0.here hx rfl (pc0 := 26) (pc' := 43) rfl (hb hby at_26) rfl (feq hc26).2 (by decide) (by decide) ?_
    show Steps p.tables e below (s₁.setTop (mkF m 43 #[.val (.long q1), .second, .val (.long q2), .second, .val (.int p3), .val (.long q1), .second, .val (.long q2), .second, .val (.int (p3 &&& (3 : Int32))), .unset, .unset] [])) _
    refine XS.iload X0.here hx rfl (hb hby at_43) rfl ?_
    show Steps p.tables e below (s₁.setTop (mkF m 45 #[.val (.long q1), .second, .val (.long q2), .second, .val (.int p3), .val (.long q1), .second, .val (.long q2), .second, .val (.int (p3 &&& (3 : Int32))), .unset, .unset] [(.int (p3 &&& (3 : Int32)))])) _
    refine XS.iconst X0.here hx rfl (hb hby at_45) ?_
    show Steps p.tables e below (s₁.setTop (mkF m 46 #[.val (.long q1), .second, .val (.long q2), .second, .val (.int p3), .val (.long q1), .second, .val (.long q2), .second, .val (.int (p3 &&& (3 : Int32))), .unset, .unset] [(.int (3 : Int32)), (.int (p3 &&& (3 : Int32)))])) _
    refine XS.icmpYes X0.here hx rfl (pc0 := 46) (pc' := 76) rfl (hb hby at_46) rfl (feq hc46).2 (by decide) (by decide) ?_
    show Steps p.tables e below (s₁.setTop (mkF m 76 #[.val (.long q1), .second, .val (.long q2), .second, .val (.int p3), .val (.long q1), .second, .val (.long q2), .second, .val (.int (p3 &&& (3 : Int32))), .unset, .unset] [])) _
    refine XS.lload X0.here hx rfl (hb hby at_76) rfl ?_
    show Steps p.tables e below (s₁.setTop (mkF m 78 #[.val (.long q1), .second, .val (.long q2), .second, .val (.int p3), .val (.long q1), .second, .val (.long q2), .second, .val (.int (p3 &&& (3 : Int32))), .unset, .unset] [(.long q1)])) _
    refine XS.lload X0.here hx rfl (hb hby at_78) rfl ?_
    show Steps p.tables e below (s₁.setTop (mkF m 80 #[.val (.long q1), .second, .val (.long q2), .second, .val (.int p3), .val (.long q1), .second, .val (.long q2), .second, .val (.int (p3 &&& (3 : Int32))), .unset, .unset] [(.long q2), (.long q1)])) _
    refine st4 _ ?_
    show Steps p.tables e below (T4.setTop (mkF m 83 #[.val (.long q1), .second, .val (.long q2), .second, .val (.int p3), .val (.long q1), .second, .val (.long q2), .second, .val (.int (p3 &&& (3 : Int32))), .unset, .unset] [(.long (F1 q1 q2))])) _
    refine XS.lstore X4.here hx rfl (hb hby at_83) rfl (l' := #[.val (.long q1), .second, .val (.long q2), .second, .val (.int p3), .val (.long q1), .second, .val (.long q2), .second, .val (.int (p3 &&& (3 : Int32))), .val (.long (F1 q1 q2)), .second]) rfl ?_
    show Steps p.tables e below (T4.setTop (mkF m 85 #[.val (.long q1), .second, .val (.long q2), .second, .val (.int p3), .val (.long q1), .second, .val (.long q2), .second, .val (.int (p3 &&& (3 : Int32))), .val (.long (F1 q1 q2)), .second] [])) _
    refine XS.lload X4.here hx rfl (hb hby at_85) rfl ?_
    show Steps p.tables e below (T4.setTop (mkF m 87 #[.val (.long q1), .second, .val (.long q2), .second, .val (.int p3), .val (.long q1), .second, .val (.long q2), .second, .val (.int (p3 &&& (3 : Int32))), .val (.long (F1 q1 q2)), .second] [(.long (F1 q1 q2))])) _
    refine XS.lload X4.here hx rfl (hb hby at_87) rfl ?_
    show Steps p.tables e below (T4.setTop (mkF m 89 #[.val (.long q1), .second, .val (.long q2), .second, .val (.int p3), .val (.long q1), .second, .val (.long q2), .second, .val (.int (p3 &&& (3 : Int32))), .val (.long (F1 q1 q2)), .second] [(.long q1), (.long (F1 q1 q2))])) _
    refine XS.lload X4.here hx rfl (hb hby at_89) rfl ?_
    show Steps p.tables e below (T4.setTop (mkF m 91 #[.val (.long q1), .second, .val (.long q2), .second, .val (.int p3), .val (.long q1), .second, .val (.long q2), .second, .val (.int (p3 &&& (3 : Int32))), .val (.long (F1 q1 q2)), .second] [(.long q2), (.long q1), (.long (F1 q1 q2))])) _
    refine st5 _ ?_
    show Steps p.tables e below (T5.setTop (mkF m 94 #[.val (.long q1), .second, .val (.long q2), .second, .val (.int p3), .val (.long q1), .second, .val (.long q2), .second, .val (.int (p3 &&& (3 : Int32))), .val (.long (F1 q1 q2)), .second] [(.long (F4 q1 q2)), (.long (F1 q1 q2))])) _
    refine XS.lcmp X5.here hx rfl (hb hby at_94) rfl ?_
    show Steps p.tables e below (T5.setTop (mkF m 95 #[.val (.long q1), .second, .val (.long q2), .second, .val (.int p3), .val (.long q1), .second, .val (.long q2), .second, .val (.int (p3 &&& (3 : Int32))), .val (.long (F1 q1 q2)), .second] [(.int (lcmpW (F1 q1 q2) (F4 q1 q2)))])) _
    refine XS.ifNo X5.here hx rfl (hb hby at_95) rfl ((if0 _ _).trans (teq (show (lcmpW (F1 q1 q2) (F4 q1 q2)) = (0 : Int32) from own_eq _ _)).2) ?_
    show Steps p.tables e below (T5.setTop (mkF m 98 #[.val (.long q1), .second, .val (.long q2), .second, .val (.int p3), .val (.long q1), .second, .val (.long q2), .second, .val (.int (p3 &&& (3 : Int32))), .val (.long (F1 q1 q2)), .second] [])) _
    refine XS.iconst X5.here hx rfl (hb hby at_98) ?_
    show Steps p.tables e below (T5.setTop (mkF m 99 #[.val (.long q1), .second, .val (.long q2), .second, .val (.int p3), .val (.long q1), .second, .val (.long q2), .second, .val (.int (p3 &&& (3 : Int32))), .val (.long (F1 q1 q2)), .second] [(.int (1 : Int32))])) _
    refine XS.goto X5.here hx rfl (pc0 := 99) (pc' := 103) rfl (hb hby at_99) (by decide) (by decide) ?_
    show Steps p.tables e below (T5.setTop (mkF m 103 #[.val (.long q1), .second, .val (.long q2), .second, .val (.int p3), .val (.long q1), .second, .val (.long q2), .second, .val (.int (p3 &&& (3 : Int32))), .val (.long (F1 q1 q2)), .second] [(.int (1 : Int32))])) _
    exact retN X5 hx (t := .boolean) Bd.returns (by simp) (hb hby at_103) hr
  · show Q_rm0 Z q1 q2 p3 h0 n0 _ T5.heap _
    exact ⟨rfl, N5⟩
set_option maxHeartbeats 4000000 in
theorem rm0 (l : Launch) (Z : State) (a0 : Array Value) (hw : ∀ d ∈ tables_1, d.before a0 Z = true) (ws : List Jvm.Cond) (q1 : Int64) (q2 : Int64) (p3 : Int32) (h0 : Heap) (n0 : Nat) (Z0 : n0 ≤ h0.size) :
    MetFree l x (head1 (Jvm.Cond.code x code maxLocals ret :: ws) room_1) (fun a U => a = #[(.long q1), (.long q2), (.int p3)] ∧ Z.Warmed39 U.vm ∧ U.heap = h0) (fun _ _ _ _ _ => True) (fun _ U o U' => ∃ v L, o = .returned v ∧ Q_rm0 Z q1 q2 p3 h0 n0 v U'.heap L ∧ FrameEnd U o U' L room_1.cells room_1.slots) := by
  by_cases hc14 : (p3 &&& (3 : Int32)) = (0 : Int32)
  · skip
    exact rm0_f l Z a0 hw ws q1 q2 p3 h0 n0 Z0 hc14
  · skip
    by_cases hc26 : (p3 &&& (3 : Int32)) = (2 : Int32)
    · skip
      exact rm0_tf l Z a0 hw ws q1 q2 p3 h0 n0 Z0 hc14 hc26
    · skip
      by_cases hc46 : (p3 &&& (3 : Int32)) = (3 : Int32)
      · skip
        exact rm0_ttf l Z a0 hw ws q1 q2 p3 h0 n0 Z0 hc14 hc26 hc46
      · skip
        exact rm0_ttt l Z a0 hw ws q1 q2 p3 h0 n0 Z0 hc14 hc26 hc46
set_option maxRecDepth 65536 in
set_option maxHeartbeats 40000000 in
theorem comes_1 {Post : Tables → Env → Array Value → State → Outcome → State → Prop} (hpost : ∀ tb e args s v u, (limb_1_1.after args s (.returned v) u = true ∧ limb_1_2.after args s (.returned v) u = true ∧ True) → FrameEnd s (.returned v) u (Jvm.fieldLocs frame_1_writes args s ++ Jvm.arrayLocs frame_1_arrays args s ++ Jvm.staticLocs frame_1_statics s) 0 0 → Post tb e args s (.returned v) u) :
    ArmFor flags0 classFile x code maxLocals ret World_1 tables_1 room_1 Calls_1 rest_1 Pre_1 Post := by
  intro l hfl _ _ p e ha hc hk s m args below hf hA hF happ hP
  obtain ⟨hcalls, hrest, hpre⟩ := hP
  obtain ⟨-, -, -, hnamed, -, -, -, hat⟩ := (Spec.applies_iff hf).mp happ
  obtain ⟨hg, hn⟩ := and_e (Cond.before_iff.mp (show (Jvm.Cond.and given_1 narrow_1).before args s = true from hpre))
  obtain ⟨g1, g2⟩ := and_e hg
  obtain ⟨g3, g4⟩ := and_e g2
  obtain ⟨g5, g6⟩ := and_e g4
  obtain ⟨w0, w1, w2, rfl⟩ : ∃ w0 w1 w2 : Value, args = #[w0, w1, w2] := by
    have hs : args.size = 3 := by simpa [Cond.value, given_1] using g1
    obtain ⟨L⟩ := args
    match L, hs with
    | [w0, w1, w2], _ => exact ⟨w0, w1, w2, rfl⟩
  have hw := fun d (hd : d ∈ tables_1) => atoms_spec (ws := Jvm.Cond.code x code maxLocals ret :: tables_1) hat d (List.mem_cons_of_mem _ hd)
  have hfit : Fit s := fun {y c} hc i hi => by
    obtain ⟨ha, rfl⟩ := Array.getElem?_eq_some_iff.mp hc
    have q := List.all_eq_true.mp ((Array.all_eq_true_iff_forall_mem.mp hF) _ (Array.getElem_mem ha)) i (List.mem_range.mpr hi)
    simpa [Array.getElem?_eq_getElem hi] using q
  obtain ⟨i0, ei0⟩ := isL_v g3
  obtain rfl : w0 = (.long i0) := Option.some.inj ei0
  obtain ⟨i1, ei1⟩ := isL_v g5
  obtain rfl : w1 = (.long i1) := Option.some.inj ei1
  obtain ⟨i2, ei2⟩ := is_v g6
  obtain rfl : w2 = (.int i2) := Option.some.inj ei2
  obtain ⟨n, o, h1, h2, h3, _, L, rfl, ⟨rfl, N⟩, hq⟩ := rm0 l s _ hw tables_1 i0 i1 i2 s.heap s.heap.size (Nat.le_refl _)  p e ha hc hk s m _ below hf ((Spec.applies_iff_loose hf).mp happ).1 ⟨rfl, State.Warmed39.refl s, rfl⟩ trivial
  refine ⟨n, _, h1, h2, h3, hpost _ _ _ _ _ _ ⟨Cond.after_iff.mpr rfl, Cond.after_iff.mpr (eq_i res_at (Term.int_eval (1)) rfl), trivial⟩ ⟨hq.1, hq.2.1, (hq.2.2.sift fun y hy => Or.inr (N y hy)).mono (by decide) (by decide)⟩⟩
theorem main_1_1 : Claimed_1_1 := comes_1 fun _ _ _ _ _ _ h hF => ⟨h.1, hF⟩
theorem main_1_2 : Claimed_1_2 := comes_1 fun _ _ _ _ _ _ h hF => ⟨h.2.1, hF⟩
end Jvm.Pilot.@@N@@
namespace Jvm.Pilot.@@N@@
open Jvm Jvm.ClassFile Sem Op Lib Jvm.Free Jvm.Stand Jvm.Pilot.@@N@@.Jvm.D
/-! MADE BY PROGRAM (witnessworld.py) out of the Statement's table words and the real class files: 11 classes; the members and pool entries that the words name. The judged class is class 1, her method 1. -/
namespace start1
open Jvm.ClassFile
def u (s : String) : CpInfo := .utf8 (stringToUtf16 s)
/-- a pool by its gaps: so many unusable entries, then the entry; so many at the end -/
def gap : Nat → List CpInfo → List CpInfo
  | 0, r => r
  | n + 1, r => .unusable :: gap n r
def poolList (es : List (Nat × CpInfo)) (last : Nat) : List CpInfo := es.foldr (fun e r => gap e.1 (e.2 :: r)) (gap last [])
def pool (es : List (Nat × CpInfo)) (last : Nat) : Array CpInfo := ⟨poolList es last⟩
def fileOf (pool : Array CpInfo) (this : Nat) (attrs : Array Attribute := #[]) (ms : Array MethodInfo := #[]) (fl : Nat := 33) (sup : Nat := 0) (ifs : Array Nat := #[]) (fds : Array FieldInfo := #[]) : ClassFile where
  minorVersion := 0
  majorVersion := 65
  constantPool := pool
  accessFlags := fl
  thisClass := this
  superClass := sup
  interfaces := ifs
  fields := fds
  methods := ms
  attributes := attrs
def plain (name : String) (sup : Option ClassId) : Class where
  name := name
  kind := .ordinary
  loader := none
  accessFlags := 33
  super := sup
  interfaces := #[]
  cf := none
  fields := #[]
  methods := #[]
  instanceTypes := #[]
  staticTypes := #[]
  resolved := #[]
  callSites := []
  init := .initialized
  statics := none
  mirror := none

def pool0 : Array CpInfo := pool [(5, u "<init>"), (0, u "()V"), (1, .class_ 10), (1, u "java/lang/Object")] 113

def k0m0 : Method := { name := "<init>", desc := "()V", sig := { parameters := [], returnType := none }, accessFlags := 1, code := none }
/-- java/lang/Object -/
def k0 : Class := { plain "java/lang/Object" none with
  accessFlags := 33
  interfaces := #[]
  cf := some (fileOf pool0 8 #[] #[{ accessFlags := 1, nameIndex := 5, descriptorIndex := 6, attributes := #[] }] 33 0 #[] #[])
  fields := #[]
  methods := #[k0m0]
  instanceTypes := #[]
  staticTypes := #[]
  resolved := Array.replicate 124 none
  statics := none }

def pool1 : Array CpInfo := pool [(2, .class_ 4), (1, u "java/lang/Object"), (0, u "<init>"), (0, u "()V"), (0, .long 8), (1, .long 3), (1, .methodref 12 13), (0, .class_ 14), (0, .nameAndType 15 16), (0, u "dev/driftline/HeapReserve"), (0, u "bytes"), (0, u "(JJ)J"), (0, .methodref 18 19), (0, .class_ 20), (0, .nameAndType 21 16), (0, u "dev/driftline/HeapReserveBytesPinLaw"), (0, u "expected"), (2, .long 1152921504606846975), (1, .long 256), (1, .long 524288), (1, .long 16777216), (1, .long 2), (3, u "law"), (0, u "(JJI)Z")] 3

def k1m0 : Method := { name := "<init>", desc := "()V", sig := { parameters := [], returnType := none }, accessFlags := 1, code := none }
def k1c1 : Code := { maxStack := 6, maxLocals := 12, code := code, exceptionTable := #[], attributes := #[] }
def k1m1 : Method := { name := "law", desc := "(JJI)Z", sig := { parameters := [.long, .long, .int], returnType := some .boolean }, accessFlags := 9, code := some k1c1 }
def k1c2 : Code := { maxStack := 6, maxLocals := 11, code := method_3_code, exceptionTable := #[], attributes := #[] }
def k1m2 : Method := { name := "expected", desc := "(JJ)J", sig := { parameters := [.long, .long], returnType := some .long }, accessFlags := 10, code := some k1c2 }
/-- dev/driftline/HeapReserveBytesPinLaw -/
def k1 : Class := { plain "dev/driftline/HeapReserveBytesPinLaw" (some 0) with
  accessFlags := 49
  interfaces := #[]
  cf := some (fileOf pool1 18 #[] #[{ accessFlags := 1, nameIndex := 5, descriptorIndex := 6, attributes := #[] }, { accessFlags := 9, nameIndex := 36, descriptorIndex := 37, attributes := #[] }, { accessFlags := 10, nameIndex := 21, descriptorIndex := 16, attributes := #[] }] 49 2 #[] #[])
  fields := #[]
  methods := #[k1m0, k1m1, k1m2]
  instanceTypes := #[]
  staticTypes := #[]
  resolved := Array.replicate 41 none
  statics := none }

def pool2 : Array CpInfo := pool [(1, u "java/lang/Thread$UncaughtExceptionHandler"), (0, .class_ 1), (0, u "java/lang/Object"), (0, .class_ 3)] 3

/-- java/lang/Thread$UncaughtExceptionHandler -/
def k2 : Class := { plain "java/lang/Thread$UncaughtExceptionHandler" (some 0) with
  accessFlags := 1537
  interfaces := #[]
  cf := some (fileOf pool2 2 #[] #[] 1537 4 #[] #[])
  fields := #[]
  methods := #[]
  instanceTypes := #[]
  staticTypes := #[]
  resolved := Array.replicate 8 none
  statics := none }

def pool3 : Array CpInfo := pool [(2, .class_ 4), (1, u "java/lang/Object"), (9, .class_ 16), (1, u "dev/driftline/HeapReserve"), (0, u "threads"), (0, u "Ljava/lang/management/ThreadMXBean;"), (2, u "heapPools"), (3, u "[Ljava/lang/management/MemoryPoolMXBean;"), (2, u "end"), (0, u "Ljava/lang/Runnable;"), (6, u "region"), (0, u "J"), (14, u "paged"), (0, u "Z"), (11, u "bytes"), (0, u "(JJ)J"), (2, u "arrays"), (0, u "I"), (2, .methodref 74 75), (0, .class_ 76), (0, .nameAndType 77 66), (0, u "java/lang/Math"), (0, u "min"), (2, .long 8), (3, u "length"), (8, u "fullCollector"), (0, u "Ljava/lang/management/GarbageCollectorMXBean;"), (8, u "shutdown"), (0, u "Ljava/lang/Class;"), (4, u "hooks"), (4, u "held"), (0, u "[[J"), (10, u "dispatcherClass"), (0, u "Ljava/lang/String;"), (4, u "dispatcherMethod"), (79, .long 524288), (1, .long 256), (1, .long 16777216), (1, .methodref 74 219), (0, .nameAndType 220 66), (0, u "max"), (0, .long 2), (56, u "tried"), (0, u "Ljava/lang/Object;"), (22, u "ended"), (0, u "Ldev/driftline/HeapReserve;"), (1, .class_ 307), (1, u "dev/driftline/HeapReserve$Halt"), (8, u "noPiece"), (0, u "Ljava/lang/OutOfMemoryError;"), (2, u "scraps"), (0, u "[Ljava/lang/Object;"), (2, u "noScrap"), (2, u "WALKER"), (0, u "Ljava/lang/StackWalker;"), (0, .class_ 330), (0, u "dev/driftline/HeapReserve$Bottom"), (28, .class_ 360), (0, u "java/lang/Thread$UncaughtExceptionHandler"), (0, u "LEAST"), (1, u "MOST"), (0, u "FEWEST_REGIONS"), (0, u "HEADER"), (0, u "PIECES"), (1, u "SMALLEST"), (1, u "G1_FULL"), (14, .class_ 386), (0, u "dev/driftline/HeapReserve$Probe")] 6

def k3c0 : Code := { maxStack := 6, maxLocals := 4, code := prog_5_method_5_code, exceptionTable := #[], attributes := #[] }
def k3m0 : Method := { name := "bytes", desc := "(JJ)J", sig := { parameters := [.long, .long], returnType := some .long }, accessFlags := 8, code := some k3c0 }
/-- dev/driftline/HeapReserve -/
def k3 : Class := { plain "dev/driftline/HeapReserve" (some 0) with
  accessFlags := 48
  interfaces := #[2]
  cf := some (fileOf pool3 14 #[.nestMembers #[385, 305, 329]] #[{ accessFlags := 8, nameIndex := 65, descriptorIndex := 66, attributes := #[] }] 48 2 #[359] #[{ accessFlags := 26, nameIndex := 361, descriptorIndex := 37, attributes := #[] }, { accessFlags := 26, nameIndex := 363, descriptorIndex := 37, attributes := #[] }, { accessFlags := 26, nameIndex := 364, descriptorIndex := 37, attributes := #[] }, { accessFlags := 26, nameIndex := 365, descriptorIndex := 37, attributes := #[] }, { accessFlags := 26, nameIndex := 366, descriptorIndex := 70, attributes := #[] }, { accessFlags := 26, nameIndex := 368, descriptorIndex := 70, attributes := #[] }, { accessFlags := 26, nameIndex := 370, descriptorIndex := 127, attributes := #[] }, { accessFlags := 26, nameIndex := 327, descriptorIndex := 328, attributes := #[] }, { accessFlags := 10, nameIndex := 302, descriptorIndex := 303, attributes := #[] }, { accessFlags := 18, nameIndex := 28, descriptorIndex := 29, attributes := #[] }, { accessFlags := 18, nameIndex := 17, descriptorIndex := 18, attributes := #[] }, { accessFlags := 18, nameIndex := 21, descriptorIndex := 25, attributes := #[] }, { accessFlags := 18, nameIndex := 36, descriptorIndex := 37, attributes := #[] }, { accessFlags := 18, nameIndex := 52, descriptorIndex := 53, attributes := #[] }, { accessFlags := 18, nameIndex := 93, descriptorIndex := 94, attributes := #[] }, { accessFlags := 18, nameIndex := 103, descriptorIndex := 104, attributes := #[] }, { accessFlags := 18, nameIndex := 109, descriptorIndex := 104, attributes := #[] }, { accessFlags := 18, nameIndex := 114, descriptorIndex := 115, attributes := #[] }, { accessFlags := 2, nameIndex := 320, descriptorIndex := 321, attributes := #[] }, { accessFlags := 2, nameIndex := 316, descriptorIndex := 317, attributes := #[] }, { accessFlags := 2, nameIndex := 324, descriptorIndex := 317, attributes := #[] }, { accessFlags := 2, nameIndex := 278, descriptorIndex := 279, attributes := #[] }, { accessFlags := 18, nameIndex := 69, descriptorIndex := 70, attributes := #[] }, { accessFlags := 18, nameIndex := 84, descriptorIndex := 70, attributes := #[] }, { accessFlags := 18, nameIndex := 126, descriptorIndex := 127, attributes := #[] }, { accessFlags := 18, nameIndex := 132, descriptorIndex := 127, attributes := #[] }])
  fields := #[{ name := "LEAST", type := .long, accessFlags := 26, slot := 0, constantValue := 0 }, { name := "MOST", type := .long, accessFlags := 26, slot := 1, constantValue := 0 }, { name := "FEWEST_REGIONS", type := .long, accessFlags := 26, slot := 2, constantValue := 0 }, { name := "HEADER", type := .long, accessFlags := 26, slot := 3, constantValue := 0 }, { name := "PIECES", type := .int, accessFlags := 26, slot := 4, constantValue := 0 }, { name := "SMALLEST", type := .int, accessFlags := 26, slot := 5, constantValue := 0 }, { name := "G1_FULL", type := (.object "java/lang/String"), accessFlags := 26, slot := 6, constantValue := 0 }, { name := "WALKER", type := (.object "java/lang/StackWalker"), accessFlags := 26, slot := 7, constantValue := 0 }, { name := "ended", type := (.object "dev/driftline/HeapReserve"), accessFlags := 10, slot := 8, constantValue := 0 }, { name := "end", type := (.object "java/lang/Runnable"), accessFlags := 18, slot := 0, constantValue := 0 }, { name := "threads", type := (.object "java/lang/management/ThreadMXBean"), accessFlags := 18, slot := 1, constantValue := 0 }, { name := "heapPools", type := (.array (.object "java/lang/management/MemoryPoolMXBean")), accessFlags := 18, slot := 2, constantValue := 0 }, { name := "region", type := .long, accessFlags := 18, slot := 3, constantValue := 0 }, { name := "paged", type := .boolean, accessFlags := 18, slot := 4, constantValue := 0 }, { name := "fullCollector", type := (.object "java/lang/management/GarbageCollectorMXBean"), accessFlags := 18, slot := 5, constantValue := 0 }, { name := "shutdown", type := (.object "java/lang/Class"), accessFlags := 18, slot := 6, constantValue := 0 }, { name := "hooks", type := (.object "java/lang/Class"), accessFlags := 18, slot := 7, constantValue := 0 }, { name := "held", type := (.array (.array .long)), accessFlags := 18, slot := 8, constantValue := 0 }, { name := "scraps", type := (.array (.object "java/lang/Object")), accessFlags := 2, slot := 9, constantValue := 0 }, { name := "noPiece", type := (.object "java/lang/OutOfMemoryError"), accessFlags := 2, slot := 10, constantValue := 0 }, { name := "noScrap", type := (.object "java/lang/OutOfMemoryError"), accessFlags := 2, slot := 11, constantValue := 0 }, { name := "tried", type := (.object "java/lang/Object"), accessFlags := 2, slot := 12, constantValue := 0 }, { name := "arrays", type := .int, accessFlags := 18, slot := 13, constantValue := 0 }, { name := "length", type := .int, accessFlags := 18, slot := 14, constantValue := 0 }, { name := "dispatcherClass", type := (.object "java/lang/String"), accessFlags := 18, slot := 15, constantValue := 0 }, { name := "dispatcherMethod", type := (.object "java/lang/String"), accessFlags := 18, slot := 16, constantValue := 0 }]
  methods := #[k3m0]
  instanceTypes := #[(.object "java/lang/Runnable"), (.object "java/lang/management/ThreadMXBean"), (.array (.object "java/lang/management/MemoryPoolMXBean")), .long, .boolean, (.object "java/lang/management/GarbageCollectorMXBean"), (.object "java/lang/Class"), (.object "java/lang/Class"), (.array (.array .long)), (.array (.object "java/lang/Object")), (.object "java/lang/OutOfMemoryError"), (.object "java/lang/OutOfMemoryError"), (.object "java/lang/Object"), .int, .int, (.object "java/lang/String"), (.object "java/lang/String")]
  staticTypes := #[.long, .long, .long, .long, .int, .int, (.object "java/lang/String"), (.object "java/lang/StackWalker"), (.object "dev/driftline/HeapReserve")]
  resolved := Array.replicate 393 none
  statics := none }

def pool4 : Array CpInfo := pool [(1, .class_ 2), (0, u "java/lang/Math"), (1, .class_ 6), (1, u "java/lang/Object"), (0, u "<init>"), (0, u "()V"), (89, .class_ 100), (1, u "java/lang/Math$RandomNumberGeneratorHolder"), (20, u "(JJ)J"), (50, u "negativeZeroFloatBits"), (0, u "J"), (2, u "negativeZeroDoubleBits"), (21, u "max"), (2, u "min"), (43, u "$assertionsDisabled"), (0, u "Z"), (91, u "twoToTheDoubleScaleDown"), (0, u "D"), (4, u "twoToTheDoubleScaleUp"), (9, u "E"), (3, u "PI"), (2, u "TAU"), (2, u "DEGREES_TO_RADIANS"), (0, u "RADIANS_TO_DEGREES")] 94

def k4m0 : Method := { name := "<init>", desc := "()V", sig := { parameters := [], returnType := none }, accessFlags := 2, code := none }
def k4c1 : Code := { maxStack := 4, maxLocals := 4, code := jdk_29_method_66_code, exceptionTable := #[], attributes := #[] }
def k4m1 : Method := { name := "max", desc := "(JJ)J", sig := { parameters := [.long, .long], returnType := some .long }, accessFlags := 9, code := some k4c1 }
def k4c2 : Code := { maxStack := 4, maxLocals := 4, code := jdk_29_method_70_code, exceptionTable := #[], attributes := #[] }
def k4m2 : Method := { name := "min", desc := "(JJ)J", sig := { parameters := [.long, .long], returnType := some .long }, accessFlags := 9, code := some k4c2 }
/-- java/lang/Math -/
def k4 : Class := { plain "java/lang/Math" (some 0) with
  accessFlags := 49
  interfaces := #[]
  cf := some (fileOf pool4 1 #[.nestMembers #[98]] #[{ accessFlags := 2, nameIndex := 7, descriptorIndex := 8, attributes := #[] }, { accessFlags := 9, nameIndex := 198, descriptorIndex := 121, attributes := #[] }, { accessFlags := 9, nameIndex := 201, descriptorIndex := 121, attributes := #[] }] 49 4 #[] #[{ accessFlags := 25, nameIndex := 354, descriptorIndex := 339, attributes := #[] }, { accessFlags := 25, nameIndex := 358, descriptorIndex := 339, attributes := #[] }, { accessFlags := 25, nameIndex := 361, descriptorIndex := 339, attributes := #[] }, { accessFlags := 26, nameIndex := 364, descriptorIndex := 339, attributes := #[] }, { accessFlags := 26, nameIndex := 365, descriptorIndex := 339, attributes := #[] }, { accessFlags := 26, nameIndex := 172, descriptorIndex := 173, attributes := #[] }, { accessFlags := 26, nameIndex := 176, descriptorIndex := 173, attributes := #[] }, { accessFlags := 8, nameIndex := 344, descriptorIndex := 339, attributes := #[] }, { accessFlags := 8, nameIndex := 338, descriptorIndex := 339, attributes := #[] }, { accessFlags := 4120, nameIndex := 245, descriptorIndex := 246, attributes := #[] }])
  fields := #[{ name := "E", type := .double, accessFlags := 25, slot := 0, constantValue := 0 }, { name := "PI", type := .double, accessFlags := 25, slot := 1, constantValue := 0 }, { name := "TAU", type := .double, accessFlags := 25, slot := 2, constantValue := 0 }, { name := "DEGREES_TO_RADIANS", type := .double, accessFlags := 26, slot := 3, constantValue := 0 }, { name := "RADIANS_TO_DEGREES", type := .double, accessFlags := 26, slot := 4, constantValue := 0 }, { name := "negativeZeroFloatBits", type := .long, accessFlags := 26, slot := 5, constantValue := 0 }, { name := "negativeZeroDoubleBits", type := .long, accessFlags := 26, slot := 6, constantValue := 0 }, { name := "twoToTheDoubleScaleUp", type := .double, accessFlags := 8, slot := 7, constantValue := 0 }, { name := "twoToTheDoubleScaleDown", type := .double, accessFlags := 8, slot := 8, constantValue := 0 }, { name := "$assertionsDisabled", type := .boolean, accessFlags := 4120, slot := 9, constantValue := 0 }]
  methods := #[k4m0, k4m1, k4m2]
  instanceTypes := #[]
  staticTypes := #[.double, .double, .double, .double, .double, .long, .long, .double, .double, .boolean]
  resolved := Array.replicate 460 none
  statics := none }

def pool5 : Array CpInfo := pool [(1, u "java/lang/Cloneable"), (0, .class_ 1), (0, u "java/lang/Object"), (0, .class_ 3)] 3

/-- java/lang/Cloneable -/
def k5 : Class := { plain "java/lang/Cloneable" (some 0) with
  accessFlags := 1537
  interfaces := #[]
  cf := some (fileOf pool5 2 #[] #[] 1537 4 #[] #[])
  fields := #[]
  methods := #[]
  instanceTypes := #[]
  staticTypes := #[]
  resolved := Array.replicate 8 none
  statics := none }

def pool6 : Array CpInfo := pool [(1, u "java/io/Serializable"), (0, .class_ 1), (0, u "java/lang/Object"), (0, .class_ 3)] 3

/-- java/io/Serializable -/
def k6 : Class := { plain "java/io/Serializable" (some 0) with
  accessFlags := 1537
  interfaces := #[]
  cf := some (fileOf pool6 2 #[] #[] 1537 4 #[] #[])
  fields := #[]
  methods := #[]
  instanceTypes := #[]
  staticTypes := #[]
  resolved := Array.replicate 8 none
  statics := none }

/-- the primitive byte -/
def k7 : Class := { plain "byte" none with kind := .primitive 'B', accessFlags := 0x411 }
/-- [B -/
def k8 : Class := { plain "[B" (some 0) with kind := .array 7 .byte, interfaces := #[5, 6], accessFlags := 1041 }

/-- the primitive int -/
def k9 : Class := { plain "int" none with kind := .primitive 'I', accessFlags := 0x411 }
/-- [I -/
def k10 : Class := { plain "[I" (some 0) with kind := .array 9 .int, interfaces := #[5, 6], accessFlags := 1041 }

def heap : Heap := #[]
def classes : Array Class := #[k0, k1, k2, k3, k4, k5, k6, k7, k8, k9, k10]
def interned : List (Array UInt16 × Addr) := []
def slotsUsed : Nat := 0
def theMethod : MethodId := ⟨1, 1⟩
def args0 : Array Value := #[.long 5, .long 3, .int 2]
def aboutOver (below : List Frame) : State where
  vm := { classes := classes, interned := interned.toArray }
  heap := heap
  slotsUsed := slotsUsed
  threads := #[{ frames := .invoking theMethod args0 :: below }]
def below0 : List Frame := [.native { method := ⟨0, 0⟩, args := #[] }]
def about1 : State := aboutOver below0
def p0 : Program := .bare "" "" ""
def e0 : Env := launch0.env 0 0 0
theorem w_frames : about1.frames = Frame.invoking theMethod args0 :: below0 := rfl
set_option maxRecDepth 65536 in
theorem w_args : argsFit about1.vm theMethod args0 = true := by decide +kernel
set_option maxRecDepth 65536 in
theorem w_heap : heapFits about1 = true := by decide +kernel
set_option maxRecDepth 65536 in
theorem w_runnable : about1.curStatus? = some .runnable := by decide +kernel
set_option maxRecDepth 65536 in
theorem w_alone : about1.alone = true := by decide +kernel
set_option maxRecDepth 65536 in
theorem w_named : about1.methodNamed? x = some theMethod := by decide +kernel
set_option maxRecDepth 65536 in
theorem w_hears : about1.hears theMethod below0 = true := by decide +kernel
set_option maxRecDepth 65536 in
theorem w_ripe : about1.ripe theMethod args0 below0 = true := by decide +kernel
theorem w_running : about1.status = .running := rfl
set_option maxRecDepth 65536 in
theorem w_room : about1.hasRoom e0.platform room_1 = true :=
  launch0.hasRoom_least _ room_1 (by decide +kernel) (by decide +kernel) (by decide +kernel) (by decide +kernel) (by decide +kernel) (by decide +kernel)
theorem allAtoms_all (ts : List Jvm.Cond) (a : Array Jvm.Value) (st : Jvm.State) : (allAtoms ts).before a st = ts.all (fun c => c.before a st) := by
  induction ts with
  | nil => rfl
  | cons c t ih =>
    show (Jvm.Cond.and c (allAtoms t)).before a st = _
    rw [Jvm.Cond.before_and, ih, List.all_cons]
def words1 : List Jvm.Cond := Jvm.Cond.code x code maxLocals ret :: tables_1
/-- a 'code' word, met by the world's own term for the bytes: nothing is compared byte by byte -/
theorem code_word {y : MethodName} {bytes : ByteArray} {mx : Nat} {rt : Option FieldType} {a : Array Value} {s : State} {m : MethodId} {meth : Method} {c : Code} (h1 : s.methodNamed? y = some m) (h2 : s.vm.method? m = some meth) (h3 : meth.code = some c) (h4 : c.code = bytes)
    (h5 : (c.maxLocals == mx && c.exceptionTable.isEmpty && decide (c.maxStack ≤ mostOperands) && decide (meth.sig.returnType = rt) && !meth.locks && decide (parseMethodDescriptor y.desc = some meth.sig)) = true) : (Jvm.Cond.code y bytes mx rt).before a s = true := by
  simp only [Bool.and_eq_true, beq_iff_eq, Bool.not_eq_true', decide_eq_true_eq] at h5
  obtain ⟨⟨⟨⟨⟨g1, g2⟩, g3⟩, g4⟩, g5⟩, g6⟩ := h5
  simp [Cond.before, Cond.holds, Cond.value, h1, h2, h3, h4, g1, g2, g3, g4, g5, g6]
def isCode : Jvm.Cond → Bool
  | .code _ _ _ _ => true
  | _ => false
theorem all_split {L : List Jvm.Cond} {P : Jvm.Cond → Bool} (h1 : L.all (fun c => isCode c || P c) = true) (h2 : ∀ c ∈ L.filter isCode, P c = true) : L.all P = true := by
  refine List.all_eq_true.mpr fun c hc => ?_
  have h := List.all_eq_true.mp h1 c hc
  rcases Bool.eq_false_or_eq_true (isCode c) with hi | hi
  · exact h2 c (List.mem_filter.mpr ⟨hc, hi⟩)
  · simpa [hi] using h
set_option maxRecDepth 65536 in
theorem w_c0 : (Jvm.Cond.code x code maxLocals ret).before args0 about1 = true := code_word (m := ⟨1, 1⟩) (meth := k1m1) (c := k1c1) (by decide +kernel) rfl rfl rfl (by decide +kernel)
set_option maxRecDepth 65536 in
theorem w_c1 : (Jvm.Cond.code ({ cls := "dev/driftline/HeapReserve", name := "bytes", desc := "(JJ)J" } : Jvm.MethodName) prog_5_method_5_code (4 : Nat) (Option.some Jvm.ClassFile.FieldType.long)).before args0 about1 = true := code_word (m := ⟨3, 0⟩) (meth := k3m0) (c := k3c0) (by decide +kernel) rfl rfl rfl (by decide +kernel)
set_option maxRecDepth 65536 in
theorem w_c2 : (Jvm.Cond.code ({ cls := "java/lang/Math", name := "min", desc := "(JJ)J" } : Jvm.MethodName) jdk_29_method_70_code (4 : Nat) (Option.some Jvm.ClassFile.FieldType.long)).before args0 about1 = true := code_word (m := ⟨4, 2⟩) (meth := k4m2) (c := k4c2) (by decide +kernel) rfl rfl rfl (by decide +kernel)
set_option maxRecDepth 65536 in
theorem w_c3 : (Jvm.Cond.code ({ cls := "java/lang/Math", name := "max", desc := "(JJ)J" } : Jvm.MethodName) jdk_29_method_66_code (4 : Nat) (Option.some Jvm.ClassFile.FieldType.long)).before args0 about1 = true := code_word (m := ⟨4, 1⟩) (meth := k4m1) (c := k4c1) (by decide +kernel) rfl rfl rfl (by decide +kernel)
set_option maxRecDepth 65536 in
theorem w_c4 : (Jvm.Cond.code ({ cls := "dev/driftline/HeapReserveBytesPinLaw", name := "expected", desc := "(JJ)J" } : Jvm.MethodName) method_3_code (11 : Nat) (Option.some Jvm.ClassFile.FieldType.long)).before args0 about1 = true := code_word (m := ⟨1, 2⟩) (meth := k1m2) (c := k1c2) (by decide +kernel) rfl rfl rfl (by decide +kernel)
def codes1 : List Jvm.Cond := [Jvm.Cond.code x code maxLocals ret, Jvm.Cond.code ({ cls := "dev/driftline/HeapReserve", name := "bytes", desc := "(JJ)J" } : Jvm.MethodName) prog_5_method_5_code (4 : Nat) (Option.some Jvm.ClassFile.FieldType.long), Jvm.Cond.code ({ cls := "java/lang/Math", name := "min", desc := "(JJ)J" } : Jvm.MethodName) jdk_29_method_70_code (4 : Nat) (Option.some Jvm.ClassFile.FieldType.long), Jvm.Cond.code ({ cls := "java/lang/Math", name := "max", desc := "(JJ)J" } : Jvm.MethodName) jdk_29_method_66_code (4 : Nat) (Option.some Jvm.ClassFile.FieldType.long), Jvm.Cond.code ({ cls := "dev/driftline/HeapReserveBytesPinLaw", name := "expected", desc := "(JJ)J" } : Jvm.MethodName) method_3_code (11 : Nat) (Option.some Jvm.ClassFile.FieldType.long)]
set_option maxRecDepth 65536 in
theorem codes_eq : words1.filter isCode = codes1 := rfl
theorem w_codes : ∀ c ∈ words1.filter isCode, c.before args0 about1 = true := by
  rw [codes_eq]
  intro c hc
  simp only [codes1, List.mem_cons, List.not_mem_nil, or_false] at hc
  rcases hc with rfl | rfl | rfl | rfl | rfl
  · exact w_c0
  · exact w_c1
  · exact w_c2
  · exact w_c3
  · exact w_c4
set_option maxRecDepth 65536 in
theorem w_t1 : (words1.take 24).all (fun c => isCode c || c.before args0 about1) = true := by decide +kernel
set_option maxRecDepth 65536 in
theorem w_t2 : (words1.drop 24).all (fun c => isCode c || c.before args0 about1) = true := by decide +kernel
theorem w_tables : (allAtoms (Jvm.Cond.code x code maxLocals ret :: tables_1)).before args0 about1 = true := by
  rw [allAtoms_all]
  show words1.all (fun c => c.before args0 about1) = true
  refine all_split ?_ w_codes
  rw [← List.take_append_drop 24 words1, List.all_append, w_t1, w_t2]
  rfl
set_option maxRecDepth 65536 in
theorem w_case : (Jvm.Cond.and given_1 narrow_1).before args0 about1 = true := by decide +kernel
theorem w_applies : (headSpec (Jvm.Cond.code x code maxLocals ret :: tables_1) room_1).applies x e0.platform about1 = true :=
  (Spec.applies_iff w_frames).mpr ⟨w_running, w_runnable, w_alone, w_named, w_hears, w_ripe, w_room, w_tables⟩
theorem atStart : AtStart classFile x code maxLocals ret World_1 tables_1 room_1 Calls_1 rest_1 Pre_1 launch0 p0 e0 about1 theMethod args0 below0 :=
  ⟨lists_1, trivial, launch0.admits_env _ _ _, launch0.least_env, fairChoices_fair.cas, fairChoices_fair.clock, w_frames, w_args, w_heap, w_applies, trivial, trivial, w_case⟩
end start1
theorem witness_1 : WitnessClaimed_1 := ⟨start1.p0, start1.e0, start1.about1, start1.theMethod, start1.args0, start1.below0, start1.atStart⟩
end Jvm.Pilot.@@N@@
