import JvmDerived
import JvmDerived.Pilot.@@N@@Statement
import JvmDerived.Pilot.@@N@@Code
set_option linter.unusedVariables false
set_option linter.unusedSimpArgs false
namespace Jvm.RoadKit
open Sem ClassFile Op Lib Jvm.Stand Jvm.Free Jvm.LawKit
section New
variable {p : Program} {l : Launch} {e : Env} {R : Room} {s : State} {m : MethodId} {args : Array Value} {below : List Frame} {meth : Method} {c : Code} {T : State} {locs : List Loc} {cells slots : Nat}
theorem retI (X : Stand p l e R s m args below meth c T locs cells slots) (hx : p.tables.exec = Jvm.exec) {pc : Nat} {Ls : Array Slot} {z : Int32} {rest : List Value} (hret : meth.sig.returnType = some .int) (hd : decode c.code pc = .ok (.ireturn, 1)) {fs : List Frame}
    (hl : ∀ (f : JFrame) (acts : List Action), f.method = m → f.locked = none → f.entered = [] → (doReturn e (T.setTop f) acts (some (.int z))).1 = T.setFrames fs) : Steps p.tables e below (T.setTop (mkF m pc Ls (.int z :: rest))) (T.setFrames fs) := by
  have hm' : T.vm.method? m = some meth := X.method'
  have hn : narrow .int (.int z) = .int z := rfl
  show Steps p.tables e below (T.setTop { method := m, pc := pc, locals := Ls, stack := _ :: rest, locked := none }) _
  jvm_step X.here [X.here.top, hx, hd, hm', hret, hn]
  first | (intro acts; rw [hl _ acts rfl rfl rfl]) | rw [hl _ _ rfl rfl rfl]
  exact Steps.refl _
end New
end Jvm.RoadKit
namespace Jvm.Pilot.@@N@@
open Jvm Jvm.ClassFile Sem Op Lib Jvm.Free Jvm.Stand Jvm.LawKit Jvm.RoadKit Bundle Jvm.Pilot.@@N@@.Jvm.D
theorem own_nm {a b : Addr} {l : List Addr} (h : a ≠ b) (r : a ∉ l) : a ∉ b :: l := fun q => (List.mem_cons.mp q).elim h r
theorem own_n0 {a : Addr} : a ∉ ([] : List Addr) := fun q => nomatch q
theorem own_nst {Z : State} {h : Heap} {a : Addr} {C : String} (F : Exa Z h a C) : ∃ c : Cell, h[a]? = some c ∧ c.vm.isStatics = false := by obtain ⟨c, k, h1, -, -, h4, -⟩ := F; exact ⟨c, h1, h4⟩
theorem own_nstV {Z : State} {h : Heap} {a : Addr} {k : ClassId} {ty : FieldType} {z : Int32} {vs : List Value} {dv : Value} (F : Arv Z h a k ty z vs dv) : ∃ c : Cell, h[a]? = some c ∧ c.vm.isStatics = false := by
  obtain ⟨c, A, -⟩ := F
  refine ⟨c, A.1, ?_⟩
  have q := A.2.1.1
  cases e : c.vm <;> first | rfl | exact absurd e (q _)
theorem own_q0 {h : Heap} : ∀ x ∈ ([] : List Addr), ∃ c : Cell, h[x]? = some c ∧ c.vm.isStatics = false := fun _ q => nomatch q
theorem own_qc {h : Heap} {a : Addr} {l : List Addr} (p : ∃ c : Cell, h[a]? = some c ∧ c.vm.isStatics = false) (r : ∀ x ∈ l, ∃ c : Cell, h[x]? = some c ∧ c.vm.isStatics = false) : ∀ x ∈ a :: l, ∃ c : Cell, h[x]? = some c ∧ c.vm.isStatics = false := fun x q => (List.mem_cons.mp q).elim (fun e => e ▸ p) (r x)
theorem own_sta_keep {Z : State} {h h' : Heap} {ws : List Addr} {C n d : String} {v : Value} (F : Sta Z h C n d v) (K : Keep h h' ws) (q : ∀ x ∈ ws, ∃ c : Cell, h[x]? = some c ∧ c.vm.isStatics = false) : Sta Z h' C n d v := by
  obtain ⟨cf, i, k, f, st, cell, h1, h2, h3, h4, h5, h6, h7⟩ := F
  refine ⟨cf, i, k, f, st, cell, h1, h2, h3, h4, K.2.1 _ _ h5 fun z => ?_, h6, h7⟩
  obtain ⟨c, g1, g2⟩ := q _ z
  cases h5.symm.trans g1; rw [h6] at g2; cases g2
theorem own_eqI {a b : Term} {args : Array Value} {first s : State} {o : Option Outcome} {idx : List Nat} {k : Int32} (h : (Jvm.Cond.eq a b).value args first o s idx = some true) (hb : b.eval args first o idx s = some (.int k)) : a.eval args first o idx s = some (.int k) := by
  obtain ⟨x, y, ha, hb', K, K'⟩ := cmp_v (Or.inl h)
  cases hb.symm.trans hb'
  obtain ⟨z, rfl⟩ := K'
  simp [Cond.value, ha, hb] at h
  rw [ha, h]
theorem own_eqR {a b : Term} {args : Array Value} {first s : State} {o : Option Outcome} {idx : List Nat} {k : Addr} (h : (Jvm.Cond.eq a b).value args first o s idx = some true) (hb : b.eval args first o idx s = some (.ref k)) : a.eval args first o idx s = some (.ref k) := by
  obtain ⟨x, y, ha, hb', K, K'⟩ := cmp_v (Or.inl h)
  cases hb.symm.trans hb'
  have q := gotT (eq_R ha hb K'.2 rfl) h
  rw [ha, q]
theorem own_len {t : Term} {args : Array Value} {first s : State} {o : Option Outcome} {idx : List Nat} {k : Int32} {x : Addr} {cl : Cell} (h : (Term.length t).eval args first o idx s = some (.int k)) (ev : t.eval args first o idx s = some (.ref x)) (hc : s.heap[x]? = some cl) : cl.slots.size < 2 ^ 31 ∧ cl.slots.size.toInt32 = k := by
  obtain ⟨a', cell, ha', hat, hv⟩ := Term.length_spec h
  cases ev.symm.trans ha'
  cases hc.symm.trans (State.arrayAt?_spec hat).1
  refine ⟨?_, by cases hv; rfl⟩
  by_cases q : cl.slots.size < 2147483648
  · exact q
  · simp [Term.eval, ev, hat, q] at h
theorem own_sz {n : Nat} {k : Int32} (q : n < 2 ^ 31) (e : n.toInt32 = k) : n = k.toNatClampNeg := by
  rw [← e]; simp only [Int32.toNatClampNeg, len_toInt q]; rfl
theorem own_some {c : Cell} {i : Nat} (h : i < c.slots.size) : ∃ v, c.slots[i]? = some v := ⟨c.slots[i], Array.getElem?_eq_getElem h⟩
theorem own_i32 (x : Int32) : x.toInt = if x.toUInt32.toNat < 2^31 then (x.toUInt32.toNat : Int) else (x.toUInt32.toNat : Int) - 2^32 := by
  have h : x.toInt = x.toBitVec.toInt := rfl
  have h2 : x.toUInt32.toNat = x.toBitVec.toNat := rfl
  rw [h, h2, BitVec.toInt_eq_toNat_cond]
  split <;> split <;> omega
theorem own_mask (x m : Int32) (k : Nat) (hk : k ≤ 31) (hm : m.toUInt32.toNat = 2 ^ k - 1) : (x &&& m).toInt = x.toInt % 2 ^ k := by
  have e : (x &&& m).toUInt32.toNat = x.toUInt32.toNat % 2 ^ k := by
    rw [Int32.toUInt32_and, UInt32.toNat_and, hm, Nat.and_two_pow_sub_one_eq_mod]
  have hp : (2 ^ k : Nat) ≤ 2 ^ 31 := Nat.pow_le_pow_right (by decide) hk
  have hd : (2 ^ k : Nat) ∣ 2 ^ 32 := Nat.pow_dvd_pow 2 (by omega)
  have hpos : 0 < (2 ^ k : Nat) := Nat.pow_pos (by decide)
  have hlt : x.toUInt32.toNat % 2 ^ k < 2 ^ k := Nat.mod_lt _ hpos
  rw [own_i32 (x &&& m), e, if_pos (by omega), own_i32 x]
  have hc : ((2 : Int) ^ k) = ((2 ^ k : Nat) : Int) := by simp
  rw [hc]
  split
  · exact (Int.natCast_emod _ _)
  · obtain ⟨c, hc2⟩ := hd
    have : ((x.toUInt32.toNat : Int) - 2 ^ 32) = (x.toUInt32.toNat : Int) + ((2 ^ k : Nat) : Int) * (-(c : Int)) := by
      have : ((2 : Int) ^ 32) = ((2 ^ k : Nat) : Int) * (c : Int) := by exact_mod_cast hc2
      rw [this, Int.mul_neg]; rfl
    rw [this, Int.add_mul_emod_self_left]
    exact (Int.natCast_emod _ _)
theorem own_mod (y n : Int32) (hy : 0 ≤ y.toInt) (hn : 0 < n.toInt) : (y - y / n * n).toInt = y.toInt % n.toInt := by
  have b1 := y.toInt_lt; have b2 := n.toInt_lt
  have hd : (y / n).toInt = y.toInt / n.toInt := by
    rw [Int32.toInt_div_of_ne_right y n (by intro h; rw [h] at hn; exact absurd hn (by decide)), Int.tdiv_eq_ediv_of_nonneg hy]
  have h1 : 0 ≤ y.toInt / n.toInt := Int.ediv_nonneg hy (by omega)
  have h2 : y.toInt / n.toInt * n.toInt ≤ y.toInt := Int.ediv_mul_le _ (by omega)
  have h3 : 0 ≤ y.toInt / n.toInt * n.toInt := Int.mul_nonneg h1 (by omega)
  have hmul : (y / n * n).toInt = y.toInt / n.toInt * n.toInt := by
    rw [Int32.toInt_mul, hd]; apply Int.bmod_eq_of_le <;> omega
  rw [Int32.toInt_sub, hmul]
  have h4 := Int.emod_def y.toInt n.toInt
  rw [Int.mul_comm] at h4
  rw [h4]; apply Int.bmod_eq_of_le <;> omega
theorem own_pos (x : Int32) : 0 ≤ (x &&& 2147483647).toInt := by
  rw [own_mask x 2147483647 31 (by decide) (by decide)]; exact Int.emod_nonneg _ (by decide)
theorem own_add (x y : Int32) (h1 : -2147483648 ≤ x.toInt + y.toInt) (h2 : x.toInt + y.toInt < 2147483648) : (x + y).toInt = x.toInt + y.toInt := by
  rw [Int32.toInt_add]; apply Int.bmod_eq_of_le <;> omega
theorem own_and3 (x : Int32) : x &&& 3 = 0 ∨ x &&& 3 = 1 ∨ x &&& 3 = 2 ∨ x &&& 3 = 3 := by
  have h := own_mask x 3 2 (by decide) (by decide)
  have h2 : x.toInt % 2 ^ 2 = 0 ∨ x.toInt % 2 ^ 2 = 1 ∨ x.toInt % 2 ^ 2 = 2 ∨ x.toInt % 2 ^ 2 = 3 := by omega
  rcases h2 with q | q | q | q
  · exact Or.inl (Int32.toInt_inj.mp (by rw [h, q]; rfl))
  · exact Or.inr (Or.inl (Int32.toInt_inj.mp (by rw [h, q]; rfl)))
  · exact Or.inr (Or.inr (Or.inl (Int32.toInt_inj.mp (by rw [h, q]; rfl))))
  · exact Or.inr (Or.inr (Or.inr (Int32.toInt_inj.mp (by rw [h, q]; rfl))))
def F1 (a1 : Addr) (s_OTHERS : Addr) (s_WEAKNESS : Addr) : Int32 := (if a1 = s_OTHERS then (1 : Int32) else (if a1 = s_WEAKNESS then (1 : Int32) else (0 : Int32)))
theorem d1_0 : decode prog_13_method_5_code 0 = .ok (.aload_n 0, 1) := by decide +kernel
theorem d1_1 : decode prog_13_method_5_code 1 = .ok (.getstatic 19, 3) := by decide +kernel
theorem d1_4 : decode prog_13_method_5_code 4 = .ok (.if_acmp .eq 10, 3) := by decide +kernel
theorem d1_7 : decode prog_13_method_5_code 7 = .ok (.aload_n 0, 1) := by decide +kernel
theorem d1_8 : decode prog_13_method_5_code 8 = .ok (.getstatic 28, 3) := by decide +kernel
theorem d1_11 : decode prog_13_method_5_code 11 = .ok (.if_acmp .ne 7, 3) := by decide +kernel
theorem d1_14 : decode prog_13_method_5_code 14 = .ok (.iconst 1, 1) := by decide +kernel
theorem d1_15 : decode prog_13_method_5_code 15 = .ok (.goto 4, 3) := by decide +kernel
theorem d1_19 : decode prog_13_method_5_code 19 = .ok (.ireturn, 1) := by decide +kernel
theorem pn_1 : plainName "com/example/coldsleep/coldsleep/game/Aim" = true := by first | (simp [plainName, overriddenIn]; done) | decide +kernel
theorem ef_1 (m : MethodId) (x0 : Addr) : entryFrame m #[(.ref x0)] 1 = mkF m 0 #[.val (.ref x0)] [] := by first | (simp [entryFrame, mkF, argsToLocals, Value.category]; done) | rfl
theorem d1_18 : decode prog_13_method_5_code 18 = .ok (.iconst 0, 1) := by decide +kernel
def Q_rm1 (Z : State) (a1 : Addr) (s_OTHERS : Addr) (s_WEAKNESS : Addr) (h0 : Heap) (n0 : Nat) (v : Option Value) (h : Heap) (L : List Loc) : Prop := v = some (.int (F1 a1 s_OTHERS s_WEAKNESS)) ∧ Fr n0 L ∧ h = h0
set_option maxRecDepth 65536 in
set_option maxHeartbeats 40000000 in
theorem rm1_ff (l : Launch) (Z : State) (a0 : Array Value) (hw : ∀ d ∈ tables_1, d.before a0 Z = true) (ws : List Jvm.Cond) (a1 : Addr) (s_OTHERS : Addr) (s_WEAKNESS : Addr) (h0 : Heap) (n0 : Nat) (Z0 : n0 ≤ h0.size) (S_OTHERS : Sta Z h0 "com/example/coldsleep/coldsleep/game/Aim" "OTHERS" "Lcom/example/coldsleep/coldsleep/game/Aim;" (.ref s_OTHERS)) (S_WEAKNESS : Sta Z h0 "com/example/coldsleep/coldsleep/game/Aim" "WEAKNESS" "Lcom/example/coldsleep/coldsleep/game/Aim;" (.ref s_WEAKNESS)) (ha4 : ¬ (a1 = s_OTHERS)) (ha11 : a1 = s_WEAKNESS) :
    MetFree l (⟨"com/example/coldsleep/coldsleep/game/Aim", "counts", "()Z"⟩ : MethodName) (head1 (Jvm.Cond.code (⟨"com/example/coldsleep/coldsleep/game/Aim", "counts", "()Z"⟩ : MethodName) prog_13_method_5_code 1 (some .boolean) :: ws) ({ frames := 0, cells := 0, slots := 0, locals := 0 } : Room)) (fun a U => a = #[(.ref a1)] ∧ Z.Warmed39 U.vm ∧ U.heap = h0) (fun _ _ _ _ _ => True) (fun _ U o U' => ∃ v L, o = .returned v ∧ Q_rm1 Z a1 s_OTHERS s_WEAKNESS h0 n0 v U'.heap L ∧ FrameEnd U o U' L ({ frames := 0, cells := 0, slots := 0, locals := 0 } : Room).cells ({ frames := 0, cells := 0, slots := 0, locals := 0 } : Room).slots) := by
  refine MetFree.of_bodySF (plainFor_of_name pn_1) hisR ?_
  intro p e s m args below meth c s₁ Bd hml0 hP hK
  obtain ⟨rfl, hZ, hh⟩ := hP
  have hx := Bd.exec
  have hby := Bd.bytes
  have hml : c.maxLocals = 1 := hml0
  have hown : s.vm.findClass "com/example/coldsleep/coldsleep/game/Aim" = some m.cls := findClass_of_methodNamed Bd.named
  have hnm := (name_of_methodNamed Bd.named Bd.method).1
  have X0 : Stand p l e ({ frames := 0, cells := 0, slots := 0, locals := 0 } : Room) s m #[(.ref a1)] below meth c s₁ [] 0 0 := Stand.of_body Bd
  have e0 : s₁.heap = h0 := by rw [← hh, Bd.state]; rfl
  have N0 := Fr.nil n0
  have pre0 : ∀ t, Steps p.tables e below (s₁.setTop (mkF m 0 #[.val (.ref a1)] [])) t → Steps p.tables e below (s₁.setTop (entryFrame m #[(.ref a1)] 1)) t := fun t k => castTop (ef_1 m a1) k
  obtain ⟨T2, X2, e2, st2⟩ := getS2 X0 hx hZ hown (host := "") (Or.inl (hw _ (List.mem_of_getElem? (i := 36) rfl))) Via.refl e0 S_OTHERS (g := (mkF m 1 #[.val (.ref a1)] [(.ref a1)])) rfl (hb hby d1_1)
  obtain ⟨T3, X3, e3, st3⟩ := getS2 X2 hx hZ hown (host := "") (Or.inl (hw _ (List.mem_of_getElem? (i := 37) rfl))) Via.refl e2 S_WEAKNESS (g := (mkF m 8 #[.val (.ref a1)] [(.ref a1)])) rfl (hb hby d1_8)
  obtain ⟨fs, hr, hrun, hended, hW, hsame⟩ := X3.leave (v := some (.int (1 : Int32))) (fun h => by rw [Bd.returns] at h; cases h)
  refine ⟨_, _, pre0 _ ?_, hrun, hended, _, _, rfl, ?_, ⟨_, rfl⟩, hW, hsame.mono (by decide) (by decide)⟩
  · show Steps p.tables e below (s₁.setTop (mkF m 0 #[.val (.ref a1)] [])) _
    refine XS.aloadN X0.here hx rfl (hb hby d1_0) rfl rfl ?_
    show Steps p.tables e below (s₁.setTop (mkF m 1 #[.val (.ref a1)] [(.ref a1)])) _
    refine st2 _ ?_
    show Steps p.tables e below (T2.setTop (mkF m 4 #[.val (.ref a1)] [(.ref s_OTHERS), (.ref a1)])) _
    refine Jvm.RoadKit.acmp (g := (mkF m 4 #[.val (.ref a1)] [(.ref s_OTHERS), (.ref a1)])) X2 hx rfl rfl rfl (pc0 := 4) (pc' := 7) (same := false) rfl (hb hby d1_4) rfl (decide_eq_false fun q => ha4 (Value.ref.inj q)) (by decide) (by decide) ?_
    show Steps p.tables e below (T2.setTop (mkF m 7 #[.val (.ref a1)] [])) _
    refine XS.aloadN X2.here hx rfl (hb hby d1_7) rfl rfl ?_
    show Steps p.tables e below (T2.setTop (mkF m 8 #[.val (.ref a1)] [(.ref a1)])) _
    refine st3 _ ?_
    show Steps p.tables e below (T3.setTop (mkF m 11 #[.val (.ref a1)] [(.ref s_WEAKNESS), (.ref a1)])) _
    refine Jvm.RoadKit.acmp (g := (mkF m 11 #[.val (.ref a1)] [(.ref s_WEAKNESS), (.ref a1)])) X3 hx rfl rfl rfl (pc0 := 11) (pc' := 14) (same := true) rfl (hb hby d1_11) rfl (decide_eq_true (congrArg Value.ref ha11)) (by decide) (by decide) ?_
    show Steps p.tables e below (T3.setTop (mkF m 14 #[.val (.ref a1)] [])) _
    refine XS.iconst X3.here hx rfl (hb hby d1_14) ?_
    show Steps p.tables e below (T3.setTop (mkF m 15 #[.val (.ref a1)] [(.int (1 : Int32))])) _
    refine XS.goto X3.here hx rfl (pc0 := 15) (pc' := 19) rfl (hb hby d1_15) (by decide) (by decide) ?_
    show Steps p.tables e below (T3.setTop (mkF m 19 #[.val (.ref a1)] [(.int (1 : Int32))])) _
    exact retN X3 hx (t := .boolean) Bd.returns (by simp) (hb hby d1_19) hr
  · show Q_rm1 Z a1 s_OTHERS s_WEAKNESS h0 n0 _ T3.heap _
    exact ⟨by rw [F1, if_neg ha4, if_pos ha11], N0, e3⟩
set_option maxRecDepth 65536 in
set_option maxHeartbeats 40000000 in
theorem rm1_ft (l : Launch) (Z : State) (a0 : Array Value) (hw : ∀ d ∈ tables_1, d.before a0 Z = true) (ws : List Jvm.Cond) (a1 : Addr) (s_OTHERS : Addr) (s_WEAKNESS : Addr) (h0 : Heap) (n0 : Nat) (Z0 : n0 ≤ h0.size) (S_OTHERS : Sta Z h0 "com/example/coldsleep/coldsleep/game/Aim" "OTHERS" "Lcom/example/coldsleep/coldsleep/game/Aim;" (.ref s_OTHERS)) (S_WEAKNESS : Sta Z h0 "com/example/coldsleep/coldsleep/game/Aim" "WEAKNESS" "Lcom/example/coldsleep/coldsleep/game/Aim;" (.ref s_WEAKNESS)) (ha4 : ¬ (a1 = s_OTHERS)) (ha11 : ¬ (a1 = s_WEAKNESS)) :
    MetFree l (⟨"com/example/coldsleep/coldsleep/game/Aim", "counts", "()Z"⟩ : MethodName) (head1 (Jvm.Cond.code (⟨"com/example/coldsleep/coldsleep/game/Aim", "counts", "()Z"⟩ : MethodName) prog_13_method_5_code 1 (some .boolean) :: ws) ({ frames := 0, cells := 0, slots := 0, locals := 0 } : Room)) (fun a U => a = #[(.ref a1)] ∧ Z.Warmed39 U.vm ∧ U.heap = h0) (fun _ _ _ _ _ => True) (fun _ U o U' => ∃ v L, o = .returned v ∧ Q_rm1 Z a1 s_OTHERS s_WEAKNESS h0 n0 v U'.heap L ∧ FrameEnd U o U' L ({ frames := 0, cells := 0, slots := 0, locals := 0 } : Room).cells ({ frames := 0, cells := 0, slots := 0, locals := 0 } : Room).slots) := by
  refine MetFree.of_bodySF (plainFor_of_name pn_1) hisR ?_
  intro p e s m args below meth c s₁ Bd hml0 hP hK
  obtain ⟨rfl, hZ, hh⟩ := hP
  have hx := Bd.exec
  have hby := Bd.bytes
  have hml : c.maxLocals = 1 := hml0
  have hown : s.vm.findClass "com/example/coldsleep/coldsleep/game/Aim" = some m.cls := findClass_of_methodNamed Bd.named
  have hnm := (name_of_methodNamed Bd.named Bd.method).1
  have X0 : Stand p l e ({ frames := 0, cells := 0, slots := 0, locals := 0 } : Room) s m #[(.ref a1)] below meth c s₁ [] 0 0 := Stand.of_body Bd
  have e0 : s₁.heap = h0 := by rw [← hh, Bd.state]; rfl
  have N0 := Fr.nil n0
  have pre0 : ∀ t, Steps p.tables e below (s₁.setTop (mkF m 0 #[.val (.ref a1)] [])) t → Steps p.tables e below (s₁.setTop (entryFrame m #[(.ref a1)] 1)) t := fun t k => castTop (ef_1 m a1) k
  obtain ⟨T2, X2, e2, st2⟩ := getS2 X0 hx hZ hown (host := "") (Or.inl (hw _ (List.mem_of_getElem? (i := 36) rfl))) Via.refl e0 S_OTHERS (g := (mkF m 1 #[.val (.ref a1)] [(.ref a1)])) rfl (hb hby d1_1)
  obtain ⟨T3, X3, e3, st3⟩ := getS2 X2 hx hZ hown (host := "") (Or.inl (hw _ (List.mem_of_getElem? (i := 37) rfl))) Via.refl e2 S_WEAKNESS (g := (mkF m 8 #[.val (.ref a1)] [(.ref a1)])) rfl (hb hby d1_8)
  obtain ⟨fs, hr, hrun, hended, hW, hsame⟩ := X3.leave (v := some (.int (0 : Int32))) (fun h => by rw [Bd.returns] at h; cases h)
  refine ⟨_, _, pre0 _ ?_, hrun, hended, _, _, rfl, ?_, ⟨_, rfl⟩, hW, hsame.mono (by decide) (by decide)⟩
  · show Steps p.tables e below (s₁.setTop (mkF m 0 #[.val (.ref a1)] [])) _
    refine XS.aloadN X0.here hx rfl (hb hby d1_0) rfl rfl ?_
    show Steps p.tables e below (s₁.setTop (mkF m 1 #[.val (.ref a1)] [(.ref a1)])) _
    refine st2 _ ?_
    show Steps p.tables e below (T2.setTop (mkF m 4 #[.val (.ref a1)] [(.ref s_OTHERS), (.ref a1)])) _
    refine Jvm.RoadKit.acmp (g := (mkF m 4 #[.val (.ref a1)] [(.ref s_OTHERS), (.ref a1)])) X2 hx rfl rfl rfl (pc0 := 4) (pc' := 7) (same := false) rfl (hb hby d1_4) rfl (decide_eq_false fun q => ha4 (Value.ref.inj q)) (by decide) (by decide) ?_
    show Steps p.tables e below (T2.setTop (mkF m 7 #[.val (.ref a1)] [])) _
    refine XS.aloadN X2.here hx rfl (hb hby d1_7) rfl rfl ?_
    show Steps p.tables e below (T2.setTop (mkF m 8 #[.val (.ref a1)] [(.ref a1)])) _
    refine st3 _ ?_
    show Steps p.tables e below (T3.setTop (mkF m 11 #[.val (.ref a1)] [(.ref s_WEAKNESS), (.ref a1)])) _
    refine Jvm.RoadKit.acmp (g := (mkF m 11 #[.val (.ref a1)] [(.ref s_WEAKNESS), (.ref a1)])) X3 hx rfl rfl rfl (pc0 := 11) (pc' := 18) (same := false) rfl (hb hby d1_11) rfl (decide_eq_false fun q => ha11 (Value.ref.inj q)) (by decide) (by decide) ?_
    show Steps p.tables e below (T3.setTop (mkF m 18 #[.val (.ref a1)] [])) _
    refine XS.iconst X3.here hx rfl (hb hby d1_18) ?_
    show Steps p.tables e below (T3.setTop (mkF m 19 #[.val (.ref a1)] [(.int (0 : Int32))])) _
    exact retN X3 hx (t := .boolean) Bd.returns (by simp) (hb hby d1_19) hr
  · show Q_rm1 Z a1 s_OTHERS s_WEAKNESS h0 n0 _ T3.heap _
    exact ⟨by rw [F1, if_neg ha4, if_neg ha11], N0, e3⟩
set_option maxRecDepth 65536 in
set_option maxHeartbeats 40000000 in
theorem rm1_t (l : Launch) (Z : State) (a0 : Array Value) (hw : ∀ d ∈ tables_1, d.before a0 Z = true) (ws : List Jvm.Cond) (a1 : Addr) (s_OTHERS : Addr) (s_WEAKNESS : Addr) (h0 : Heap) (n0 : Nat) (Z0 : n0 ≤ h0.size) (S_OTHERS : Sta Z h0 "com/example/coldsleep/coldsleep/game/Aim" "OTHERS" "Lcom/example/coldsleep/coldsleep/game/Aim;" (.ref s_OTHERS)) (S_WEAKNESS : Sta Z h0 "com/example/coldsleep/coldsleep/game/Aim" "WEAKNESS" "Lcom/example/coldsleep/coldsleep/game/Aim;" (.ref s_WEAKNESS)) (ha4 : a1 = s_OTHERS) :
    MetFree l (⟨"com/example/coldsleep/coldsleep/game/Aim", "counts", "()Z"⟩ : MethodName) (head1 (Jvm.Cond.code (⟨"com/example/coldsleep/coldsleep/game/Aim", "counts", "()Z"⟩ : MethodName) prog_13_method_5_code 1 (some .boolean) :: ws) ({ frames := 0, cells := 0, slots := 0, locals := 0 } : Room)) (fun a U => a = #[(.ref a1)] ∧ Z.Warmed39 U.vm ∧ U.heap = h0) (fun _ _ _ _ _ => True) (fun _ U o U' => ∃ v L, o = .returned v ∧ Q_rm1 Z a1 s_OTHERS s_WEAKNESS h0 n0 v U'.heap L ∧ FrameEnd U o U' L ({ frames := 0, cells := 0, slots := 0, locals := 0 } : Room).cells ({ frames := 0, cells := 0, slots := 0, locals := 0 } : Room).slots) := by
  refine MetFree.of_bodySF (plainFor_of_name pn_1) hisR ?_
  intro p e s m args below meth c s₁ Bd hml0 hP hK
  obtain ⟨rfl, hZ, hh⟩ := hP
  have hx := Bd.exec
  have hby := Bd.bytes
  have hml : c.maxLocals = 1 := hml0
  have hown : s.vm.findClass "com/example/coldsleep/coldsleep/game/Aim" = some m.cls := findClass_of_methodNamed Bd.named
  have hnm := (name_of_methodNamed Bd.named Bd.method).1
  have X0 : Stand p l e ({ frames := 0, cells := 0, slots := 0, locals := 0 } : Room) s m #[(.ref a1)] below meth c s₁ [] 0 0 := Stand.of_body Bd
  have e0 : s₁.heap = h0 := by rw [← hh, Bd.state]; rfl
  have N0 := Fr.nil n0
  have pre0 : ∀ t, Steps p.tables e below (s₁.setTop (mkF m 0 #[.val (.ref a1)] [])) t → Steps p.tables e below (s₁.setTop (entryFrame m #[(.ref a1)] 1)) t := fun t k => castTop (ef_1 m a1) k
  obtain ⟨T2, X2, e2, st2⟩ := getS2 X0 hx hZ hown (host := "") (Or.inl (hw _ (List.mem_of_getElem? (i := 36) rfl))) Via.refl e0 S_OTHERS (g := (mkF m 1 #[.val (.ref a1)] [(.ref a1)])) rfl (hb hby d1_1)
  obtain ⟨fs, hr, hrun, hended, hW, hsame⟩ := X2.leave (v := some (.int (1 : Int32))) (fun h => by rw [Bd.returns] at h; cases h)
  refine ⟨_, _, pre0 _ ?_, hrun, hended, _, _, rfl, ?_, ⟨_, rfl⟩, hW, hsame.mono (by decide) (by decide)⟩
  · show Steps p.tables e below (s₁.setTop (mkF m 0 #[.val (.ref a1)] [])) _
    refine XS.aloadN X0.here hx rfl (hb hby d1_0) rfl rfl ?_
    show Steps p.tables e below (s₁.setTop (mkF m 1 #[.val (.ref a1)] [(.ref a1)])) _
    refine st2 _ ?_
    show Steps p.tables e below (T2.setTop (mkF m 4 #[.val (.ref a1)] [(.ref s_OTHERS), (.ref a1)])) _
    refine Jvm.RoadKit.acmp (g := (mkF m 4 #[.val (.ref a1)] [(.ref s_OTHERS), (.ref a1)])) X2 hx rfl rfl rfl (pc0 := 4) (pc' := 14) (same := true) rfl (hb hby d1_4) rfl (decide_eq_true (congrArg Value.ref ha4)) (by decide) (by decide) ?_
    show Steps p.tables e below (T2.setTop (mkF m 14 #[.val (.ref a1)] [])) _
    refine XS.iconst X2.here hx rfl (hb hby d1_14) ?_
    show Steps p.tables e below (T2.setTop (mkF m 15 #[.val (.ref a1)] [(.int (1 : Int32))])) _
    refine XS.goto X2.here hx rfl (pc0 := 15) (pc' := 19) rfl (hb hby d1_15) (by decide) (by decide) ?_
    show Steps p.tables e below (T2.setTop (mkF m 19 #[.val (.ref a1)] [(.int (1 : Int32))])) _
    exact retN X2 hx (t := .boolean) Bd.returns (by simp) (hb hby d1_19) hr
  · show Q_rm1 Z a1 s_OTHERS s_WEAKNESS h0 n0 _ T2.heap _
    exact ⟨by rw [F1, if_pos ha4], N0, e2⟩
set_option maxHeartbeats 4000000 in
theorem rm1 (l : Launch) (Z : State) (a0 : Array Value) (hw : ∀ d ∈ tables_1, d.before a0 Z = true) (ws : List Jvm.Cond) (a1 : Addr) (s_OTHERS : Addr) (s_WEAKNESS : Addr) (h0 : Heap) (n0 : Nat) (Z0 : n0 ≤ h0.size) (S_OTHERS : Sta Z h0 "com/example/coldsleep/coldsleep/game/Aim" "OTHERS" "Lcom/example/coldsleep/coldsleep/game/Aim;" (.ref s_OTHERS)) (S_WEAKNESS : Sta Z h0 "com/example/coldsleep/coldsleep/game/Aim" "WEAKNESS" "Lcom/example/coldsleep/coldsleep/game/Aim;" (.ref s_WEAKNESS)) :
    MetFree l (⟨"com/example/coldsleep/coldsleep/game/Aim", "counts", "()Z"⟩ : MethodName) (head1 (Jvm.Cond.code (⟨"com/example/coldsleep/coldsleep/game/Aim", "counts", "()Z"⟩ : MethodName) prog_13_method_5_code 1 (some .boolean) :: ws) ({ frames := 0, cells := 0, slots := 0, locals := 0 } : Room)) (fun a U => a = #[(.ref a1)] ∧ Z.Warmed39 U.vm ∧ U.heap = h0) (fun _ _ _ _ _ => True) (fun _ U o U' => ∃ v L, o = .returned v ∧ Q_rm1 Z a1 s_OTHERS s_WEAKNESS h0 n0 v U'.heap L ∧ FrameEnd U o U' L ({ frames := 0, cells := 0, slots := 0, locals := 0 } : Room).cells ({ frames := 0, cells := 0, slots := 0, locals := 0 } : Room).slots) := by
  by_cases ha4 : a1 = s_OTHERS
  · skip
    exact rm1_t l Z a0 hw ws a1 s_OTHERS s_WEAKNESS h0 n0 Z0 S_OTHERS S_WEAKNESS ha4
  · skip
    by_cases ha11 : a1 = s_WEAKNESS
    · skip
      exact rm1_ff l Z a0 hw ws a1 s_OTHERS s_WEAKNESS h0 n0 Z0 S_OTHERS S_WEAKNESS ha4 ha11
    · skip
      exact rm1_ft l Z a0 hw ws a1 s_OTHERS s_WEAKNESS h0 n0 Z0 S_OTHERS S_WEAKNESS ha4 ha11
theorem pd__28_29Z : parseMethodDescriptor "()Z" = some ⟨[], some .boolean⟩ := by decide +kernel
def t0_0 (p1 : Int32) : Int32 := ((p1 &&& (2147483647 : Int32)) - ((p1 &&& (2147483647 : Int32)) / (13 : Int32)) * (13 : Int32))
theorem pn_0 : plainName "com/example/coldsleep/coldsleep/game/AimCountsPinLaw" = true := by first | (simp [plainName, overriddenIn]; done) | decide +kernel
theorem ef_0 (m : MethodId) (x0 : Int32) : entryFrame m #[(.int x0)] maxLocals = mkF m 0 #[.val (.int x0), .unset, .unset, .unset, .unset] [] := by first | (simp [entryFrame, mkF, argsToLocals, Value.category, maxLocals]; done) | rfl
def Q_rm0 (Z : State) (p1 : Int32) (s_REACH_EARTH : Addr) (s_REACH_MARS : Addr) (s_DEAD_NEXT : Addr) (s_DEAD_PREVIOUS : Addr) (s_ALONE : Addr) (s_OTHERS : Addr) (s_SURVIVE_POD : Addr) (s_SURVIVE_HIBERNATED : Addr) (s_WEAKNESS : Addr) (s_NEST : Addr) (s_QUEEN : Addr) (s_BREEDER : Addr) (s_SIGNAL : Addr) (w101 : Addr) (h0 : Heap) (n0 : Nat) (v : Option Value) (h : Heap) (L : List Loc) : Prop := v = some (.int (1 : Int32)) ∧ Fr n0 L
set_option maxRecDepth 65536 in
set_option maxHeartbeats 40000000 in
theorem rm0_ff (l : Launch) (Z : State) (a0 : Array Value) (hw : ∀ d ∈ tables_1, d.before a0 Z = true) (ws : List Jvm.Cond) (p1 : Int32) (s_REACH_EARTH : Addr) (s_REACH_MARS : Addr) (s_DEAD_NEXT : Addr) (s_DEAD_PREVIOUS : Addr) (s_ALONE : Addr) (s_OTHERS : Addr) (s_SURVIVE_POD : Addr) (s_SURVIVE_HIBERNATED : Addr) (s_WEAKNESS : Addr) (s_NEST : Addr) (s_QUEEN : Addr) (s_BREEDER : Addr) (s_SIGNAL : Addr) (w101 : Addr) (h0 : Heap) (n0 : Nat) (Z0 : n0 ≤ h0.size) (hrel : (F1 w101 s_OTHERS s_WEAKNESS) = if (t0_0 p1) = (5 : Int32) then (1 : Int32) else if (t0_0 p1) = (8 : Int32) then (1 : Int32) else (0 : Int32)) (S_REACH_EARTH : Sta Z h0 "com/example/coldsleep/coldsleep/game/Aim" "REACH_EARTH" "Lcom/example/coldsleep/coldsleep/game/Aim;" (.ref s_REACH_EARTH)) (E_s_REACH_EARTH : Exa Z h0 s_REACH_EARTH "com/example/coldsleep/coldsleep/game/Aim") (S_REACH_MARS : Sta Z h0 "com/example/coldsleep/coldsleep/game/Aim" "REACH_MARS" "Lcom/example/coldsleep/coldsleep/game/Aim;" (.ref s_REACH_MARS)) (E_s_REACH_MARS : Exa Z h0 s_REACH_MARS "com/example/coldsleep/coldsleep/game/Aim") (S_DEAD_NEXT : Sta Z h0 "com/example/coldsleep/coldsleep/game/Aim" "DEAD_NEXT" "Lcom/example/coldsleep/coldsleep/game/Aim;" (.ref s_DEAD_NEXT)) (E_s_DEAD_NEXT : Exa Z h0 s_DEAD_NEXT "com/example/coldsleep/coldsleep/game/Aim") (S_DEAD_PREVIOUS : Sta Z h0 "com/example/coldsleep/coldsleep/game/Aim" "DEAD_PREVIOUS" "Lcom/example/coldsleep/coldsleep/game/Aim;" (.ref s_DEAD_PREVIOUS)) (E_s_DEAD_PREVIOUS : Exa Z h0 s_DEAD_PREVIOUS "com/example/coldsleep/coldsleep/game/Aim") (S_ALONE : Sta Z h0 "com/example/coldsleep/coldsleep/game/Aim" "ALONE" "Lcom/example/coldsleep/coldsleep/game/Aim;" (.ref s_ALONE)) (E_s_ALONE : Exa Z h0 s_ALONE "com/example/coldsleep/coldsleep/game/Aim") (S_OTHERS : Sta Z h0 "com/example/coldsleep/coldsleep/game/Aim" "OTHERS" "Lcom/example/coldsleep/coldsleep/game/Aim;" (.ref s_OTHERS)) (E_s_OTHERS : Exa Z h0 s_OTHERS "com/example/coldsleep/coldsleep/game/Aim") (S_SURVIVE_POD : Sta Z h0 "com/example/coldsleep/coldsleep/game/Aim" "SURVIVE_POD" "Lcom/example/coldsleep/coldsleep/game/Aim;" (.ref s_SURVIVE_POD)) (E_s_SURVIVE_POD : Exa Z h0 s_SURVIVE_POD "com/example/coldsleep/coldsleep/game/Aim") (S_SURVIVE_HIBERNATED : Sta Z h0 "com/example/coldsleep/coldsleep/game/Aim" "SURVIVE_HIBERNATED" "Lcom/example/coldsleep/coldsleep/game/Aim;" (.ref s_SURVIVE_HIBERNATED)) (E_s_SURVIVE_HIBERNATED : Exa Z h0 s_SURVIVE_HIBERNATED "com/example/coldsleep/coldsleep/game/Aim") (S_WEAKNESS : Sta Z h0 "com/example/coldsleep/coldsleep/game/Aim" "WEAKNESS" "Lcom/example/coldsleep/coldsleep/game/Aim;" (.ref s_WEAKNESS)) (E_s_WEAKNESS : Exa Z h0 s_WEAKNESS "com/example/coldsleep/coldsleep/game/Aim") (S_NEST : Sta Z h0 "com/example/coldsleep/coldsleep/game/Aim" "NEST" "Lcom/example/coldsleep/coldsleep/game/Aim;" (.ref s_NEST)) (E_s_NEST : Exa Z h0 s_NEST "com/example/coldsleep/coldsleep/game/Aim") (S_QUEEN : Sta Z h0 "com/example/coldsleep/coldsleep/game/Aim" "QUEEN" "Lcom/example/coldsleep/coldsleep/game/Aim;" (.ref s_QUEEN)) (E_s_QUEEN : Exa Z h0 s_QUEEN "com/example/coldsleep/coldsleep/game/Aim") (S_BREEDER : Sta Z h0 "com/example/coldsleep/coldsleep/game/Aim" "BREEDER" "Lcom/example/coldsleep/coldsleep/game/Aim;" (.ref s_BREEDER)) (E_s_BREEDER : Exa Z h0 s_BREEDER "com/example/coldsleep/coldsleep/game/Aim") (S_SIGNAL : Sta Z h0 "com/example/coldsleep/coldsleep/game/Aim" "SIGNAL" "Lcom/example/coldsleep/coldsleep/game/Aim;" (.ref s_SIGNAL)) (E_s_SIGNAL : Exa Z h0 s_SIGNAL "com/example/coldsleep/coldsleep/game/Aim") (E_w101 : Exa Z h0 w101 "com/example/coldsleep/coldsleep/game/Aim") (hi101 : ¬ (t0_0 p1) < 0 ∧ (t0_0 p1) < (13 : Int32)) (hs101 : (([(.ref s_REACH_EARTH), (.ref s_REACH_MARS), (.ref s_DEAD_NEXT), (.ref s_DEAD_PREVIOUS), (.ref s_ALONE), (.ref s_OTHERS), (.ref s_SURVIVE_POD), (.ref s_SURVIVE_HIBERNATED), (.ref s_WEAKNESS), (.ref s_NEST), (.ref s_QUEEN), (.ref s_BREEDER), (.ref s_SIGNAL)] : List Value)).getD ((t0_0 p1)).toNatClampNeg .null = (.ref w101)) (hc108 : (t0_0 p1) = (5 : Int32)) (hc117 : (t0_0 p1) = (8 : Int32)) :
    MetFree l x (head1 (Jvm.Cond.code x code maxLocals ret :: ws) room_1) (fun a U => a = #[(.int p1)] ∧ Z.Warmed39 U.vm ∧ U.heap = h0) (fun _ _ _ _ _ => True) (fun _ U o U' => ∃ v L, o = .returned v ∧ Q_rm0 Z p1 s_REACH_EARTH s_REACH_MARS s_DEAD_NEXT s_DEAD_PREVIOUS s_ALONE s_OTHERS s_SURVIVE_POD s_SURVIVE_HIBERNATED s_WEAKNESS s_NEST s_QUEEN s_BREEDER s_SIGNAL w101 h0 n0 v U'.heap L ∧ FrameEnd U o U' L room_1.cells room_1.slots) := by
  refine MetFree.of_bodySF (plainFor_of_name pn_0) hisR ?_
  intro p e s m args below meth c s₁ Bd hml0 hP hK
  obtain ⟨rfl, hZ, hh⟩ := hP
  have hx := Bd.exec
  have hby := Bd.bytes
  have hml : c.maxLocals = 5 := hml0
  have hown : s.vm.findClass "com/example/coldsleep/coldsleep/game/AimCountsPinLaw" = some m.cls := findClass_of_methodNamed Bd.named
  have hnm := (name_of_methodNamed Bd.named Bd.method).1
  have X0 : Stand p l e room_1 s m #[(.int p1)] below meth c s₁ [] 0 0 := Stand.of_body Bd
  have e0 : s₁.heap = h0 := by rw [← hh, Bd.state]; rfl
  have N0 := Fr.nil n0
  have pre0 : ∀ t, Steps p.tables e below (s₁.setTop (mkF m 0 #[.val (.int p1), .unset, .unset, .unset, .unset] [])) t → Steps p.tables e below (s₁.setTop (entryFrame m #[(.int p1)] maxLocals)) t := fun t k => castTop (ef_0 m p1) k
  obtain ⟨T2, h2, k2, X2, e2, E2, A2, O2, st2⟩ := newR X0 hx hZ hown (hw _ (List.mem_of_getElem? (i := 0) rfl)) (hw _ (List.mem_of_getElem? (i := 1) rfl)) e0 (g := (mkF m 2 #[.val (.int p1), .unset, .unset, .unset, .unset] [(.int (13 : Int32))])) rfl (hb hby at_2) rfl (by decide) (cap := 13) (by decide) (by decide) (by decide) (by decide)
  obtain ⟨b2, g2⟩ : ∃ z, z = h0.size := ⟨_, rfl⟩
  rw [← g2] at A2 st2
  have g_b2 : n0 ≤ b2 := Nat.le_trans Z0 (Nat.le_of_eq g2.symm)
  have sz_b2 : h0.size ≤ b2 := Nat.le_trans (Nat.le_refl h0.size) (Nat.le_of_eq g2.symm)
  have V_b2 : Arv Z h2 b2 k2 (.object "com/example/coldsleep/coldsleep/game/Aim") (13 : Int32) (List.replicate 13 .null) .null := (Arv.new A2 (by decide)).pad (pad_rep [] .null 13)
  have f0 := (S_REACH_EARTH.ext E2)
  obtain ⟨T3, X3, e3, st3⟩ := getS2 X2 hx hZ hown (host := "") (Or.inl (hw _ (List.mem_of_getElem? (i := 2) rfl))) Via.refl e2 f0 (g := (mkF m 7 #[.val (.int p1), .unset, .unset, .unset, .unset] [(.int (0 : Int32)), (.ref b2), (.ref b2)])) rfl (hb hby at_7)
  have f1 := (E_s_REACH_EARTH.ext E2)
  obtain ⟨cl_b2_2, Ar_b2_2, q_b2_2, Sz_b2_2, Ng_b2_2, Ha_b2_2, Gt_b2_2⟩ := id V_b2
  have hin_b2_2 : ¬ ((0 : Int32) < 0 ∨ cl_b2_2.slots.size ≤ ((0 : Int32)).toNatClampNeg) := inb_of Sz_b2_2 ⟨by decide, by decide⟩
  obtain ⟨T4, h4, X4, e4, W4, st4⟩ := stR X3 hx hZ e3 Ar_b2_2 (j := (0 : Int32)) hin_b2_2 rfl (Sto.ofV Ar_b2_2 q_b2_2 O2 (Ins.self f1)) (g := (mkF m 10 #[.val (.int p1), .unset, .unset, .unset, .unset] [(.ref s_REACH_EARTH), (.int (0 : Int32)), (.ref b2), (.ref b2)])) rfl rfl (hb hby at_10)
  have V4 : Arv Z h4 b2 k2 (.object "com/example/coldsleep/coldsleep/game/Aim") (13 : Int32) [(.ref s_REACH_EARTH), .null, .null, .null, .null, .null, .null, .null, .null, .null, .null, .null, .null] .null := Arv.set Ar_b2_2 q_b2_2 Sz_b2_2 Ng_b2_2 Ha_b2_2 Gt_b2_2 rfl W4 0 rfl (Nat.le_of_ble_eq_true rfl)
  have N4 := Fr.snoc X4 N0 g_b2
  have f3 := ((S_REACH_MARS.ext E2).wr W4)
  obtain ⟨T5, X5, e5, st5⟩ := getS2 X4 hx hZ hown (host := "") (Or.inl (hw _ (List.mem_of_getElem? (i := 6) rfl))) Via.refl e4 f3 (g := (mkF m 13 #[.val (.int p1), .unset, .unset, .unset, .unset] [(.int (1 : Int32)), (.ref b2), (.ref b2)])) rfl (hb hby at_13)
  have f4 := ((E_s_REACH_MARS.ext E2).wr W4)
  obtain ⟨cl_b2_5, Ar_b2_5, q_b2_5, Sz_b2_5, Ng_b2_5, Ha_b2_5, Gt_b2_5⟩ := id V4
  have hin_b2_5 : ¬ ((1 : Int32) < 0 ∨ cl_b2_5.slots.size ≤ ((1 : Int32)).toNatClampNeg) := inb_of Sz_b2_5 ⟨by decide, by decide⟩
  obtain ⟨T6, h6, X6, e6, W6, st6⟩ := stR X5 hx hZ e5 Ar_b2_5 (j := (1 : Int32)) hin_b2_5 rfl (Sto.ofV Ar_b2_5 q_b2_5 O2 (Ins.self f4)) (g := (mkF m 16 #[.val (.int p1), .unset, .unset, .unset, .unset] [(.ref s_REACH_MARS), (.int (1 : Int32)), (.ref b2), (.ref b2)])) rfl rfl (hb hby at_16)
  have V6 : Arv Z h6 b2 k2 (.object "com/example/coldsleep/coldsleep/game/Aim") (13 : Int32) [(.ref s_REACH_EARTH), (.ref s_REACH_MARS), .null, .null, .null, .null, .null, .null, .null, .null, .null, .null, .null] .null := Arv.set Ar_b2_5 q_b2_5 Sz_b2_5 Ng_b2_5 Ha_b2_5 Gt_b2_5 rfl W6 1 rfl (Nat.le_of_ble_eq_true rfl)
  have N6 := Fr.snoc X6 N4 g_b2
  have f6 := (((S_DEAD_NEXT.ext E2).wr W4).wr W6)
  obtain ⟨T7, X7, e7, st7⟩ := getS2 X6 hx hZ hown (host := "") (Or.inl (hw _ (List.mem_of_getElem? (i := 8) rfl))) Via.refl e6 f6 (g := (mkF m 19 #[.val (.int p1), .unset, .unset, .unset, .unset] [(.int (2 : Int32)), (.ref b2), (.ref b2)])) rfl (hb hby at_19)
  have f7 := (((E_s_DEAD_NEXT.ext E2).wr W4).wr W6)
  obtain ⟨cl_b2_8, Ar_b2_8, q_b2_8, Sz_b2_8, Ng_b2_8, Ha_b2_8, Gt_b2_8⟩ := id V6
  have hin_b2_8 : ¬ ((2 : Int32) < 0 ∨ cl_b2_8.slots.size ≤ ((2 : Int32)).toNatClampNeg) := inb_of Sz_b2_8 ⟨by decide, by decide⟩
  obtain ⟨T8, h8, X8, e8, W8, st8⟩ := stR X7 hx hZ e7 Ar_b2_8 (j := (2 : Int32)) hin_b2_8 rfl (Sto.ofV Ar_b2_8 q_b2_8 O2 (Ins.self f7)) (g := (mkF m 22 #[.val (.int p1), .unset, .unset, .unset, .unset] [(.ref s_DEAD_NEXT), (.int (2 : Int32)), (.ref b2), (.ref b2)])) rfl rfl (hb hby at_22)
  have V8 : Arv Z h8 b2 k2 (.object "com/example/coldsleep/coldsleep/game/Aim") (13 : Int32) [(.ref s_REACH_EARTH), (.ref s_REACH_MARS), (.ref s_DEAD_NEXT), .null, .null, .null, .null, .null, .null, .null, .null, .null, .null] .null := Arv.set Ar_b2_8 q_b2_8 Sz_b2_8 Ng_b2_8 Ha_b2_8 Gt_b2_8 rfl W8 2 rfl (Nat.le_of_ble_eq_true rfl)
  have N8 := Fr.snoc X8 N6 g_b2
  have f9 := ((((S_DEAD_PREVIOUS.ext E2).wr W4).wr W6).wr W8)
  obtain ⟨T9, X9, e9, st9⟩ := getS2 X8 hx hZ hown (host := "") (Or.inl (hw _ (List.mem_of_getElem? (i := 10) rfl))) Via.refl e8 f9 (g := (mkF m 25 #[.val (.int p1), .unset, .unset, .unset, .unset] [(.int (3 : Int32)), (.ref b2), (.ref b2)])) rfl (hb hby at_25)
  have f10 := ((((E_s_DEAD_PREVIOUS.ext E2).wr W4).wr W6).wr W8)
  obtain ⟨cl_b2_11, Ar_b2_11, q_b2_11, Sz_b2_11, Ng_b2_11, Ha_b2_11, Gt_b2_11⟩ := id V8
  have hin_b2_11 : ¬ ((3 : Int32) < 0 ∨ cl_b2_11.slots.size ≤ ((3 : Int32)).toNatClampNeg) := inb_of Sz_b2_11 ⟨by decide, by decide⟩
  obtain ⟨T10, h10, X10, e10, W10, st10⟩ := stR X9 hx hZ e9 Ar_b2_11 (j := (3 : Int32)) hin_b2_11 rfl (Sto.ofV Ar_b2_11 q_b2_11 O2 (Ins.self f10)) (g := (mkF m 28 #[.val (.int p1), .unset, .unset, .unset, .unset] [(.ref s_DEAD_PREVIOUS), (.int (3 : Int32)), (.ref b2), (.ref b2)])) rfl rfl (hb hby at_28)
  have V10 : Arv Z h10 b2 k2 (.object "com/example/coldsleep/coldsleep/game/Aim") (13 : Int32) [(.ref s_REACH_EARTH), (.ref s_REACH_MARS), (.ref s_DEAD_NEXT), (.ref s_DEAD_PREVIOUS), .null, .null, .null, .null, .null, .null, .null, .null, .null] .null := Arv.set Ar_b2_11 q_b2_11 Sz_b2_11 Ng_b2_11 Ha_b2_11 Gt_b2_11 rfl W10 3 rfl (Nat.le_of_ble_eq_true rfl)
  have N10 := Fr.snoc X10 N8 g_b2
  have f12 := (((((S_ALONE.ext E2).wr W4).wr W6).wr W8).wr W10)
  obtain ⟨T11, X11, e11, st11⟩ := getS2 X10 hx hZ hown (host := "") (Or.inl (hw _ (List.mem_of_getElem? (i := 12) rfl))) Via.refl e10 f12 (g := (mkF m 31 #[.val (.int p1), .unset, .unset, .unset, .unset] [(.int (4 : Int32)), (.ref b2), (.ref b2)])) rfl (hb hby at_31)
  have f13 := (((((E_s_ALONE.ext E2).wr W4).wr W6).wr W8).wr W10)
  obtain ⟨cl_b2_14, Ar_b2_14, q_b2_14, Sz_b2_14, Ng_b2_14, Ha_b2_14, Gt_b2_14⟩ := id V10
  have hin_b2_14 : ¬ ((4 : Int32) < 0 ∨ cl_b2_14.slots.size ≤ ((4 : Int32)).toNatClampNeg) := inb_of Sz_b2_14 ⟨by decide, by decide⟩
  obtain ⟨T12, h12, X12, e12, W12, st12⟩ := stR X11 hx hZ e11 Ar_b2_14 (j := (4 : Int32)) hin_b2_14 rfl (Sto.ofV Ar_b2_14 q_b2_14 O2 (Ins.self f13)) (g := (mkF m 34 #[.val (.int p1), .unset, .unset, .unset, .unset] [(.ref s_ALONE), (.int (4 : Int32)), (.ref b2), (.ref b2)])) rfl rfl (hb hby at_34)
  have V12 : Arv Z h12 b2 k2 (.object "com/example/coldsleep/coldsleep/game/Aim") (13 : Int32) [(.ref s_REACH_EARTH), (.ref s_REACH_MARS), (.ref s_DEAD_NEXT), (.ref s_DEAD_PREVIOUS), (.ref s_ALONE), .null, .null, .null, .null, .null, .null, .null, .null] .null := Arv.set Ar_b2_14 q_b2_14 Sz_b2_14 Ng_b2_14 Ha_b2_14 Gt_b2_14 rfl W12 4 rfl (Nat.le_of_ble_eq_true rfl)
  have N12 := Fr.snoc X12 N10 g_b2
  have f15 := ((((((S_OTHERS.ext E2).wr W4).wr W6).wr W8).wr W10).wr W12)
  obtain ⟨T13, X13, e13, st13⟩ := getS2 X12 hx hZ hown (host := "") (Or.inl (hw _ (List.mem_of_getElem? (i := 14) rfl))) Via.refl e12 f15 (g := (mkF m 37 #[.val (.int p1), .unset, .unset, .unset, .unset] [(.int (5 : Int32)), (.ref b2), (.ref b2)])) rfl (hb hby at_37)
  have f16 := ((((((E_s_OTHERS.ext E2).wr W4).wr W6).wr W8).wr W10).wr W12)
  obtain ⟨cl_b2_17, Ar_b2_17, q_b2_17, Sz_b2_17, Ng_b2_17, Ha_b2_17, Gt_b2_17⟩ := id V12
  have hin_b2_17 : ¬ ((5 : Int32) < 0 ∨ cl_b2_17.slots.size ≤ ((5 : Int32)).toNatClampNeg) := inb_of Sz_b2_17 ⟨by decide, by decide⟩
  obtain ⟨T14, h14, X14, e14, W14, st14⟩ := stR X13 hx hZ e13 Ar_b2_17 (j := (5 : Int32)) hin_b2_17 rfl (Sto.ofV Ar_b2_17 q_b2_17 O2 (Ins.self f16)) (g := (mkF m 40 #[.val (.int p1), .unset, .unset, .unset, .unset] [(.ref s_OTHERS), (.int (5 : Int32)), (.ref b2), (.ref b2)])) rfl rfl (hb hby at_40)
  have V14 : Arv Z h14 b2 k2 (.object "com/example/coldsleep/coldsleep/game/Aim") (13 : Int32) [(.ref s_REACH_EARTH), (.ref s_REACH_MARS), (.ref s_DEAD_NEXT), (.ref s_DEAD_PREVIOUS), (.ref s_ALONE), (.ref s_OTHERS), .null, .null, .null, .null, .null, .null, .null] .null := Arv.set Ar_b2_17 q_b2_17 Sz_b2_17 Ng_b2_17 Ha_b2_17 Gt_b2_17 rfl W14 5 rfl (Nat.le_of_ble_eq_true rfl)
  have N14 := Fr.snoc X14 N12 g_b2
  have f18 := (((((((S_SURVIVE_POD.ext E2).wr W4).wr W6).wr W8).wr W10).wr W12).wr W14)
  obtain ⟨T15, X15, e15, st15⟩ := getS2 X14 hx hZ hown (host := "") (Or.inl (hw _ (List.mem_of_getElem? (i := 16) rfl))) Via.refl e14 f18 (g := (mkF m 44 #[.val (.int p1), .unset, .unset, .unset, .unset] [(.int (6 : Int32)), (.ref b2), (.ref b2)])) rfl (hb hby at_44)
  have f19 := (((((((E_s_SURVIVE_POD.ext E2).wr W4).wr W6).wr W8).wr W10).wr W12).wr W14)
  obtain ⟨cl_b2_20, Ar_b2_20, q_b2_20, Sz_b2_20, Ng_b2_20, Ha_b2_20, Gt_b2_20⟩ := id V14
  have hin_b2_20 : ¬ ((6 : Int32) < 0 ∨ cl_b2_20.slots.size ≤ ((6 : Int32)).toNatClampNeg) := inb_of Sz_b2_20 ⟨by decide, by decide⟩
  obtain ⟨T16, h16, X16, e16, W16, st16⟩ := stR X15 hx hZ e15 Ar_b2_20 (j := (6 : Int32)) hin_b2_20 rfl (Sto.ofV Ar_b2_20 q_b2_20 O2 (Ins.self f19)) (g := (mkF m 47 #[.val (.int p1), .unset, .unset, .unset, .unset] [(.ref s_SURVIVE_POD), (.int (6 : Int32)), (.ref b2), (.ref b2)])) rfl rfl (hb hby at_47)
  have V16 : Arv Z h16 b2 k2 (.object "com/example/coldsleep/coldsleep/game/Aim") (13 : Int32) [(.ref s_REACH_EARTH), (.ref s_REACH_MARS), (.ref s_DEAD_NEXT), (.ref s_DEAD_PREVIOUS), (.ref s_ALONE), (.ref s_OTHERS), (.ref s_SURVIVE_POD), .null, .null, .null, .null, .null, .null] .null := Arv.set Ar_b2_20 q_b2_20 Sz_b2_20 Ng_b2_20 Ha_b2_20 Gt_b2_20 rfl W16 6 rfl (Nat.le_of_ble_eq_true rfl)
  have N16 := Fr.snoc X16 N14 g_b2
  have f21 := ((((((((S_SURVIVE_HIBERNATED.ext E2).wr W4).wr W6).wr W8).wr W10).wr W12).wr W14).wr W16)
  obtain ⟨T17, X17, e17, st17⟩ := getS2 X16 hx hZ hown (host := "") (Or.inl (hw _ (List.mem_of_getElem? (i := 18) rfl))) Via.refl e16 f21 (g := (mkF m 51 #[.val (.int p1), .unset, .unset, .unset, .unset] [(.int (7 : Int32)), (.ref b2), (.ref b2)])) rfl (hb hby at_51)
  have f22 := ((((((((E_s_SURVIVE_HIBERNATED.ext E2).wr W4).wr W6).wr W8).wr W10).wr W12).wr W14).wr W16)
  obtain ⟨cl_b2_23, Ar_b2_23, q_b2_23, Sz_b2_23, Ng_b2_23, Ha_b2_23, Gt_b2_23⟩ := id V16
  have hin_b2_23 : ¬ ((7 : Int32) < 0 ∨ cl_b2_23.slots.size ≤ ((7 : Int32)).toNatClampNeg) := inb_of Sz_b2_23 ⟨by decide, by decide⟩
  obtain ⟨T18, h18, X18, e18, W18, st18⟩ := stR X17 hx hZ e17 Ar_b2_23 (j := (7 : Int32)) hin_b2_23 rfl (Sto.ofV Ar_b2_23 q_b2_23 O2 (Ins.self f22)) (g := (mkF m 54 #[.val (.int p1), .unset, .unset, .unset, .unset] [(.ref s_SURVIVE_HIBERNATED), (.int (7 : Int32)), (.ref b2), (.ref b2)])) rfl rfl (hb hby at_54)
  have V18 : Arv Z h18 b2 k2 (.object "com/example/coldsleep/coldsleep/game/Aim") (13 : Int32) [(.ref s_REACH_EARTH), (.ref s_REACH_MARS), (.ref s_DEAD_NEXT), (.ref s_DEAD_PREVIOUS), (.ref s_ALONE), (.ref s_OTHERS), (.ref s_SURVIVE_POD), (.ref s_SURVIVE_HIBERNATED), .null, .null, .null, .null, .null] .null := Arv.set Ar_b2_23 q_b2_23 Sz_b2_23 Ng_b2_23 Ha_b2_23 Gt_b2_23 rfl W18 7 rfl (Nat.le_of_ble_eq_true rfl)
  have N18 := Fr.snoc X18 N16 g_b2
  have f24 := (((((((((S_WEAKNESS.ext E2).wr W4).wr W6).wr W8).wr W10).wr W12).wr W14).wr W16).wr W18)
  obtain ⟨T19, X19, e19, st19⟩ := getS2 X18 hx hZ hown (host := "") (Or.inl (hw _ (List.mem_of_getElem? (i := 20) rfl))) Via.refl e18 f24 (g := (mkF m 58 #[.val (.int p1), .unset, .unset, .unset, .unset] [(.int (8 : Int32)), (.ref b2), (.ref b2)])) rfl (hb hby at_58)
  have f25 := (((((((((E_s_WEAKNESS.ext E2).wr W4).wr W6).wr W8).wr W10).wr W12).wr W14).wr W16).wr W18)
  obtain ⟨cl_b2_26, Ar_b2_26, q_b2_26, Sz_b2_26, Ng_b2_26, Ha_b2_26, Gt_b2_26⟩ := id V18
  have hin_b2_26 : ¬ ((8 : Int32) < 0 ∨ cl_b2_26.slots.size ≤ ((8 : Int32)).toNatClampNeg) := inb_of Sz_b2_26 ⟨by decide, by decide⟩
  obtain ⟨T20, h20, X20, e20, W20, st20⟩ := stR X19 hx hZ e19 Ar_b2_26 (j := (8 : Int32)) hin_b2_26 rfl (Sto.ofV Ar_b2_26 q_b2_26 O2 (Ins.self f25)) (g := (mkF m 61 #[.val (.int p1), .unset, .unset, .unset, .unset] [(.ref s_WEAKNESS), (.int (8 : Int32)), (.ref b2), (.ref b2)])) rfl rfl (hb hby at_61)
  have V20 : Arv Z h20 b2 k2 (.object "com/example/coldsleep/coldsleep/game/Aim") (13 : Int32) [(.ref s_REACH_EARTH), (.ref s_REACH_MARS), (.ref s_DEAD_NEXT), (.ref s_DEAD_PREVIOUS), (.ref s_ALONE), (.ref s_OTHERS), (.ref s_SURVIVE_POD), (.ref s_SURVIVE_HIBERNATED), (.ref s_WEAKNESS), .null, .null, .null, .null] .null := Arv.set Ar_b2_26 q_b2_26 Sz_b2_26 Ng_b2_26 Ha_b2_26 Gt_b2_26 rfl W20 8 rfl (Nat.le_of_ble_eq_true rfl)
  have N20 := Fr.snoc X20 N18 g_b2
  have f27 := ((((((((((S_NEST.ext E2).wr W4).wr W6).wr W8).wr W10).wr W12).wr W14).wr W16).wr W18).wr W20)
  obtain ⟨T21, X21, e21, st21⟩ := getS2 X20 hx hZ hown (host := "") (Or.inl (hw _ (List.mem_of_getElem? (i := 22) rfl))) Via.refl e20 f27 (g := (mkF m 65 #[.val (.int p1), .unset, .unset, .unset, .unset] [(.int (9 : Int32)), (.ref b2), (.ref b2)])) rfl (hb hby at_65)
  have f28 := ((((((((((E_s_NEST.ext E2).wr W4).wr W6).wr W8).wr W10).wr W12).wr W14).wr W16).wr W18).wr W20)
  obtain ⟨cl_b2_29, Ar_b2_29, q_b2_29, Sz_b2_29, Ng_b2_29, Ha_b2_29, Gt_b2_29⟩ := id V20
  have hin_b2_29 : ¬ ((9 : Int32) < 0 ∨ cl_b2_29.slots.size ≤ ((9 : Int32)).toNatClampNeg) := inb_of Sz_b2_29 ⟨by decide, by decide⟩
  obtain ⟨T22, h22, X22, e22, W22, st22⟩ := stR X21 hx hZ e21 Ar_b2_29 (j := (9 : Int32)) hin_b2_29 rfl (Sto.ofV Ar_b2_29 q_b2_29 O2 (Ins.self f28)) (g := (mkF m 68 #[.val (.int p1), .unset, .unset, .unset, .unset] [(.ref s_NEST), (.int (9 : Int32)), (.ref b2), (.ref b2)])) rfl rfl (hb hby at_68)
  have V22 : Arv Z h22 b2 k2 (.object "com/example/coldsleep/coldsleep/game/Aim") (13 : Int32) [(.ref s_REACH_EARTH), (.ref s_REACH_MARS), (.ref s_DEAD_NEXT), (.ref s_DEAD_PREVIOUS), (.ref s_ALONE), (.ref s_OTHERS), (.ref s_SURVIVE_POD), (.ref s_SURVIVE_HIBERNATED), (.ref s_WEAKNESS), (.ref s_NEST), .null, .null, .null] .null := Arv.set Ar_b2_29 q_b2_29 Sz_b2_29 Ng_b2_29 Ha_b2_29 Gt_b2_29 rfl W22 9 rfl (Nat.le_of_ble_eq_true rfl)
  have N22 := Fr.snoc X22 N20 g_b2
  have f30 := (((((((((((S_QUEEN.ext E2).wr W4).wr W6).wr W8).wr W10).wr W12).wr W14).wr W16).wr W18).wr W20).wr W22)
  obtain ⟨T23, X23, e23, st23⟩ := getS2 X22 hx hZ hown (host := "") (Or.inl (hw _ (List.mem_of_getElem? (i := 24) rfl))) Via.refl e22 f30 (g := (mkF m 72 #[.val (.int p1), .unset, .unset, .unset, .unset] [(.int (10 : Int32)), (.ref b2), (.ref b2)])) rfl (hb hby at_72)
  have f31 := (((((((((((E_s_QUEEN.ext E2).wr W4).wr W6).wr W8).wr W10).wr W12).wr W14).wr W16).wr W18).wr W20).wr W22)
  obtain ⟨cl_b2_32, Ar_b2_32, q_b2_32, Sz_b2_32, Ng_b2_32, Ha_b2_32, Gt_b2_32⟩ := id V22
  have hin_b2_32 : ¬ ((10 : Int32) < 0 ∨ cl_b2_32.slots.size ≤ ((10 : Int32)).toNatClampNeg) := inb_of Sz_b2_32 ⟨by decide, by decide⟩
  obtain ⟨T24, h24, X24, e24, W24, st24⟩ := stR X23 hx hZ e23 Ar_b2_32 (j := (10 : Int32)) hin_b2_32 rfl (Sto.ofV Ar_b2_32 q_b2_32 O2 (Ins.self f31)) (g := (mkF m 75 #[.val (.int p1), .unset, .unset, .unset, .unset] [(.ref s_QUEEN), (.int (10 : Int32)), (.ref b2), (.ref b2)])) rfl rfl (hb hby at_75)
  have V24 : Arv Z h24 b2 k2 (.object "com/example/coldsleep/coldsleep/game/Aim") (13 : Int32) [(.ref s_REACH_EARTH), (.ref s_REACH_MARS), (.ref s_DEAD_NEXT), (.ref s_DEAD_PREVIOUS), (.ref s_ALONE), (.ref s_OTHERS), (.ref s_SURVIVE_POD), (.ref s_SURVIVE_HIBERNATED), (.ref s_WEAKNESS), (.ref s_NEST), (.ref s_QUEEN), .null, .null] .null := Arv.set Ar_b2_32 q_b2_32 Sz_b2_32 Ng_b2_32 Ha_b2_32 Gt_b2_32 rfl W24 10 rfl (Nat.le_of_ble_eq_true rfl)
  have N24 := Fr.snoc X24 N22 g_b2
  have f33 := ((((((((((((S_BREEDER.ext E2).wr W4).wr W6).wr W8).wr W10).wr W12).wr W14).wr W16).wr W18).wr W20).wr W22).wr W24)
  obtain ⟨T25, X25, e25, st25⟩ := getS2 X24 hx hZ hown (host := "") (Or.inl (hw _ (List.mem_of_getElem? (i := 26) rfl))) Via.refl e24 f33 (g := (mkF m 79 #[.val (.int p1), .unset, .unset, .unset, .unset] [(.int (11 : Int32)), (.ref b2), (.ref b2)])) rfl (hb hby at_79)
  have f34 := ((((((((((((E_s_BREEDER.ext E2).wr W4).wr W6).wr W8).wr W10).wr W12).wr W14).wr W16).wr W18).wr W20).wr W22).wr W24)
  obtain ⟨cl_b2_35, Ar_b2_35, q_b2_35, Sz_b2_35, Ng_b2_35, Ha_b2_35, Gt_b2_35⟩ := id V24
  have hin_b2_35 : ¬ ((11 : Int32) < 0 ∨ cl_b2_35.slots.size ≤ ((11 : Int32)).toNatClampNeg) := inb_of Sz_b2_35 ⟨by decide, by decide⟩
  obtain ⟨T26, h26, X26, e26, W26, st26⟩ := stR X25 hx hZ e25 Ar_b2_35 (j := (11 : Int32)) hin_b2_35 rfl (Sto.ofV Ar_b2_35 q_b2_35 O2 (Ins.self f34)) (g := (mkF m 82 #[.val (.int p1), .unset, .unset, .unset, .unset] [(.ref s_BREEDER), (.int (11 : Int32)), (.ref b2), (.ref b2)])) rfl rfl (hb hby at_82)
  have V26 : Arv Z h26 b2 k2 (.object "com/example/coldsleep/coldsleep/game/Aim") (13 : Int32) [(.ref s_REACH_EARTH), (.ref s_REACH_MARS), (.ref s_DEAD_NEXT), (.ref s_DEAD_PREVIOUS), (.ref s_ALONE), (.ref s_OTHERS), (.ref s_SURVIVE_POD), (.ref s_SURVIVE_HIBERNATED), (.ref s_WEAKNESS), (.ref s_NEST), (.ref s_QUEEN), (.ref s_BREEDER), .null] .null := Arv.set Ar_b2_35 q_b2_35 Sz_b2_35 Ng_b2_35 Ha_b2_35 Gt_b2_35 rfl W26 11 rfl (Nat.le_of_ble_eq_true rfl)
  have N26 := Fr.snoc X26 N24 g_b2
  have f36 := (((((((((((((S_SIGNAL.ext E2).wr W4).wr W6).wr W8).wr W10).wr W12).wr W14).wr W16).wr W18).wr W20).wr W22).wr W24).wr W26)
  obtain ⟨T27, X27, e27, st27⟩ := getS2 X26 hx hZ hown (host := "") (Or.inl (hw _ (List.mem_of_getElem? (i := 28) rfl))) Via.refl e26 f36 (g := (mkF m 86 #[.val (.int p1), .unset, .unset, .unset, .unset] [(.int (12 : Int32)), (.ref b2), (.ref b2)])) rfl (hb hby at_86)
  have f37 := (((((((((((((E_s_SIGNAL.ext E2).wr W4).wr W6).wr W8).wr W10).wr W12).wr W14).wr W16).wr W18).wr W20).wr W22).wr W24).wr W26)
  obtain ⟨cl_b2_38, Ar_b2_38, q_b2_38, Sz_b2_38, Ng_b2_38, Ha_b2_38, Gt_b2_38⟩ := id V26
  have hin_b2_38 : ¬ ((12 : Int32) < 0 ∨ cl_b2_38.slots.size ≤ ((12 : Int32)).toNatClampNeg) := inb_of Sz_b2_38 ⟨by decide, by decide⟩
  obtain ⟨T28, h28, X28, e28, W28, st28⟩ := stR X27 hx hZ e27 Ar_b2_38 (j := (12 : Int32)) hin_b2_38 rfl (Sto.ofV Ar_b2_38 q_b2_38 O2 (Ins.self f37)) (g := (mkF m 89 #[.val (.int p1), .unset, .unset, .unset, .unset] [(.ref s_SIGNAL), (.int (12 : Int32)), (.ref b2), (.ref b2)])) rfl rfl (hb hby at_89)
  have V28 : Arv Z h28 b2 k2 (.object "com/example/coldsleep/coldsleep/game/Aim") (13 : Int32) [(.ref s_REACH_EARTH), (.ref s_REACH_MARS), (.ref s_DEAD_NEXT), (.ref s_DEAD_PREVIOUS), (.ref s_ALONE), (.ref s_OTHERS), (.ref s_SURVIVE_POD), (.ref s_SURVIVE_HIBERNATED), (.ref s_WEAKNESS), (.ref s_NEST), (.ref s_QUEEN), (.ref s_BREEDER), (.ref s_SIGNAL)] .null := Arv.set Ar_b2_38 q_b2_38 Sz_b2_38 Ng_b2_38 Ha_b2_38 Gt_b2_38 rfl W28 12 rfl (Nat.le_of_ble_eq_true rfl)
  have N28 := Fr.snoc X28 N26 g_b2
  obtain ⟨cl_b2_39, Ar_b2_39, q_b2_39, Sz_b2_39, Ng_b2_39, Ha_b2_39, Gt_b2_39⟩ := id V28
  have hin_b2_39 : ¬ ((t0_0 p1) < 0 ∨ cl_b2_39.slots.size ≤ ((t0_0 p1)).toNatClampNeg) := inb_of Sz_b2_39 hi101
  have hat_b2_39 : cl_b2_39.slots[((t0_0 p1)).toNatClampNeg]? = some (.ref w101) := (Ha_b2_39 _ (Nat.lt_of_not_le fun q => hin_b2_39 (Or.inr q))).trans (congrArg some (hs101 : (([(.ref s_REACH_EARTH), (.ref s_REACH_MARS), (.ref s_DEAD_NEXT), (.ref s_DEAD_PREVIOUS), (.ref s_ALONE), (.ref s_OTHERS), (.ref s_SURVIVE_POD), (.ref s_SURVIVE_HIBERNATED), (.ref s_WEAKNESS), (.ref s_NEST), (.ref s_QUEEN), (.ref s_BREEDER), (.ref s_SIGNAL)] : List Value)).getD ((t0_0 p1)).toNatClampNeg .null = (.ref w101)))
  have f40 := ((((((((f15.wr W14).wr W16).wr W18).wr W20).wr W22).wr W24).wr W26).wr W28)
  have f41 := (((((f24.wr W20).wr W22).wr W24).wr W26).wr W28)
  have f42 := ((((((((((((((E_w101.ext E2).wr W4).wr W6).wr W8).wr W10).wr W12).wr W14).wr W16).wr W18).wr W20).wr W22).wr W24).wr W26).wr W28)
  obtain ⟨cq29, kq29, q29a, q29b, q29c⟩ := isOf hZ e28 f42
  obtain ⟨_, _, ⟨T29, L29, k29, n29⟩, -, X29, ⟨Lc29, hQ29, l29, y29, z29⟩, st29⟩ := X28.virtualBack hx (y := (⟨"com/example/coldsleep/coldsleep/game/Aim", "counts", "()Z"⟩ : MethodName)) (z := (⟨"com/example/coldsleep/coldsleep/game/Aim", "counts", "()Z"⟩ : MethodName)) hown (mvT hZ (hw _ (List.mem_of_getElem? (i := 31) rfl))) (mvT hZ (hw _ (List.mem_of_getElem? (i := 32) rfl))) (notFace_of_selects (args := #[]) (mvT hZ (hw _ (List.mem_of_getElem? (i := 34) rfl)))) (mvT hZ (hw _ (List.mem_of_getElem? (i := 34) rfl))) (mvT hZ (hw _ (List.mem_of_getElem? (i := 33) rfl))) (by decide) (backOf (W := 0) (rm1 l Z a0 hw [] w101 s_OTHERS s_WEAKNESS h28 n0 (Nat.le_trans (Nat.le_trans (Nat.le_trans (Nat.le_trans (Nat.le_trans (Nat.le_trans (Nat.le_trans (Nat.le_trans (Nat.le_trans (Nat.le_trans (Nat.le_trans (Nat.le_trans (Nat.le_trans (Nat.le_trans Z0 E2.1) (Keep.of_wr W4).1) (Keep.of_wr W6).1) (Keep.of_wr W8).1) (Keep.of_wr W10).1) (Keep.of_wr W12).1) (Keep.of_wr W14).1) (Keep.of_wr W16).1) (Keep.of_wr W18).1) (Keep.of_wr W20).1) (Keep.of_wr W22).1) (Keep.of_wr W24).1) (Keep.of_wr W26).1) (Keep.of_wr W28).1) f40 f41) hZ (hw _ (List.mem_of_getElem? (i := 35) rfl)) (hw _ (List.mem_of_getElem? (i := 3) rfl)) (by decide) (by decide)) q29a q29c (g := (mkF m 124 #[.val (.int p1), .val (.ref b2), .val (.int (t0_0 p1)), .val (.ref w101), .val (.int (1 : Int32))] [(.ref w101)])) rfl (by rw [hml]; rfl) (Steps.refl _) (argsL := []) (rest := []) (lenOf pd__28_29Z rfl) rfl (by show 2 * 0 + _ ≤ _; exact Nat.le_of_eq rfl) (hb hby at_124) (fun _ _ => ⟨rfl, e28, (by decide : 1 + 0 ≤ _), (by decide : 13 + 0 ≤ _)⟩)
  dsimp only [Pt.U, Pt.locs, Pt.cells, Pt.slots] at X29 l29 y29 z29 st29 hQ29
  subst l29 y29 z29
  obtain ⟨rfl, N29q, e29⟩ := hQ29
  have N29 := Fr.app N28 N29q
  obtain ⟨fs, hr, hrun, hended, hW, hsame⟩ := X29.leave (v := some (.int (1 : Int32))) (fun h => by rw [Bd.returns] at h; cases h)
  refine ⟨_, _, pre0 _ ?_, hrun, hended, _, _, rfl, ?_, ⟨_, rfl⟩, hW, hsame.mono (by decide) (by decide)⟩
  · show Steps p.tables e below (s₁.setTop (mkF m 0 #[.val (.int p1), .unset, .unset, .unset, .unset] [])) _
    refine XS.bipush X0.here hx rfl (hb hby at_0) ?_
    show Steps p.tables e below (s₁.setTop (mkF m 2 #[.val (.int p1), .unset, .unset, .unset, .unset] [(.int (13 : Int32))])) _
    refine st2 _ ?_
    show Steps p.tables e below (T2.setTop (mkF m 5 #[.val (.int p1), .unset, .unset, .unset, .unset] [(.ref b2)])) _
    refine XS.dup X2.here hx rfl (hb hby at_5) rfl rfl ?_
    show Steps p.tables e below (T2.setTop (mkF m 6 #[.val (.int p1), .unset, .unset, .unset, .unset] [(.ref b2), (.ref b2)])) _
    refine XS.iconst X2.here hx rfl (hb hby at_6) ?_
    show Steps p.tables e below (T2.setTop (mkF m 7 #[.val (.int p1), .unset, .unset, .unset, .unset] [(.int (0 : Int32)), (.ref b2), (.ref b2)])) _
    refine st3 _ ?_
    show Steps p.tables e below (T3.setTop (mkF m 10 #[.val (.int p1), .unset, .unset, .unset, .unset] [(.ref s_REACH_EARTH), (.int (0 : Int32)), (.ref b2), (.ref b2)])) _
    refine st4 _ ?_
    show Steps p.tables e below (T4.setTop (mkF m 11 #[.val (.int p1), .unset, .unset, .unset, .unset] [(.ref b2)])) _
    refine XS.dup X4.here hx rfl (hb hby at_11) rfl rfl ?_
    show Steps p.tables e below (T4.setTop (mkF m 12 #[.val (.int p1), .unset, .unset, .unset, .unset] [(.ref b2), (.ref b2)])) _
    refine XS.iconst X4.here hx rfl (hb hby at_12) ?_
    show Steps p.tables e below (T4.setTop (mkF m 13 #[.val (.int p1), .unset, .unset, .unset, .unset] [(.int (1 : Int32)), (.ref b2), (.ref b2)])) _
    refine st5 _ ?_
    show Steps p.tables e below (T5.setTop (mkF m 16 #[.val (.int p1), .unset, .unset, .unset, .unset] [(.ref s_REACH_MARS), (.int (1 : Int32)), (.ref b2), (.ref b2)])) _
    refine st6 _ ?_
    show Steps p.tables e below (T6.setTop (mkF m 17 #[.val (.int p1), .unset, .unset, .unset, .unset] [(.ref b2)])) _
    refine XS.dup X6.here hx rfl (hb hby at_17) rfl rfl ?_
    show Steps p.tables e below (T6.setTop (mkF m 18 #[.val (.int p1), .unset, .unset, .unset, .unset] [(.ref b2), (.ref b2)])) _
    refine XS.iconst X6.here hx rfl (hb hby at_18) ?_
    show Steps p.tables e below (T6.setTop (mkF m 19 #[.val (.int p1), .unset, .unset, .unset, .unset] [(.int (2 : Int32)), (.ref b2), (.ref b2)])) _
    refine st7 _ ?_
    show Steps p.tables e below (T7.setTop (mkF m 22 #[.val (.int p1), .unset, .unset, .unset, .unset] [(.ref s_DEAD_NEXT), (.int (2 : Int32)), (.ref b2), (.ref b2)])) _
    refine st8 _ ?_
    show Steps p.tables e below (T8.setTop (mkF m 23 #[.val (.int p1), .unset, .unset, .unset, .unset] [(.ref b2)])) _
    refine XS.dup X8.here hx rfl (hb hby at_23) rfl rfl ?_
    show Steps p.tables e below (T8.setTop (mkF m 24 #[.val (.int p1), .unset, .unset, .unset, .unset] [(.ref b2), (.ref b2)])) _
    refine XS.iconst X8.here hx rfl (hb hby at_24) ?_
    show Steps p.tables e below (T8.setTop (mkF m 25 #[.val (.int p1), .unset, .unset, .unset, .unset] [(.int (3 : Int32)), (.ref b2), (.ref b2)])) _
    refine st9 _ ?_
    show Steps p.tables e below (T9.setTop (mkF m 28 #[.val (.int p1), .unset, .unset, .unset, .unset] [(.ref s_DEAD_PREVIOUS), (.int (3 : Int32)), (.ref b2), (.ref b2)])) _
    refine st10 _ ?_
    show Steps p.tables e below (T10.setTop (mkF m 29 #[.val (.int p1), .unset, .unset, .unset, .unset] [(.ref b2)])) _
    refine XS.dup X10.here hx rfl (hb hby at_29) rfl rfl ?_
    show Steps p.tables e below (T10.setTop (mkF m 30 #[.val (.int p1), .unset, .unset, .unset, .unset] [(.ref b2), (.ref b2)])) _
    refine XS.iconst X10.here hx rfl (hb hby at_30) ?_
    show Steps p.tables e below (T10.setTop (mkF m 31 #[.val (.int p1), .unset, .unset, .unset, .unset] [(.int (4 : Int32)), (.ref b2), (.ref b2)])) _
    refine st11 _ ?_
    show Steps p.tables e below (T11.setTop (mkF m 34 #[.val (.int p1), .unset, .unset, .unset, .unset] [(.ref s_ALONE), (.int (4 : Int32)), (.ref b2), (.ref b2)])) _
    refine st12 _ ?_
    show Steps p.tables e below (T12.setTop (mkF m 35 #[.val (.int p1), .unset, .unset, .unset, .unset] [(.ref b2)])) _
    refine XS.dup X12.here hx rfl (hb hby at_35) rfl rfl ?_
    show Steps p.tables e below (T12.setTop (mkF m 36 #[.val (.int p1), .unset, .unset, .unset, .unset] [(.ref b2), (.ref b2)])) _
    refine XS.iconst X12.here hx rfl (hb hby at_36) ?_
    show Steps p.tables e below (T12.setTop (mkF m 37 #[.val (.int p1), .unset, .unset, .unset, .unset] [(.int (5 : Int32)), (.ref b2), (.ref b2)])) _
    refine st13 _ ?_
    show Steps p.tables e below (T13.setTop (mkF m 40 #[.val (.int p1), .unset, .unset, .unset, .unset] [(.ref s_OTHERS), (.int (5 : Int32)), (.ref b2), (.ref b2)])) _
    refine st14 _ ?_
    show Steps p.tables e below (T14.setTop (mkF m 41 #[.val (.int p1), .unset, .unset, .unset, .unset] [(.ref b2)])) _
    refine XS.dup X14.here hx rfl (hb hby at_41) rfl rfl ?_
    show Steps p.tables e below (T14.setTop (mkF m 42 #[.val (.int p1), .unset, .unset, .unset, .unset] [(.ref b2), (.ref b2)])) _
    refine XS.bipush X14.here hx rfl (hb hby at_42) ?_
    show Steps p.tables e below (T14.setTop (mkF m 44 #[.val (.int p1), .unset, .unset, .unset, .unset] [(.int (6 : Int32)), (.ref b2), (.ref b2)])) _
    refine st15 _ ?_
    show Steps p.tables e below (T15.setTop (mkF m 47 #[.val (.int p1), .unset, .unset, .unset, .unset] [(.ref s_SURVIVE_POD), (.int (6 : Int32)), (.ref b2), (.ref b2)])) _
    refine st16 _ ?_
    show Steps p.tables e below (T16.setTop (mkF m 48 #[.val (.int p1), .unset, .unset, .unset, .unset] [(.ref b2)])) _
    refine XS.dup X16.here hx rfl (hb hby at_48) rfl rfl ?_
    show Steps p.tables e below (T16.setTop (mkF m 49 #[.val (.int p1), .unset, .unset, .unset, .unset] [(.ref b2), (.ref b2)])) _
    refine XS.bipush X16.here hx rfl (hb hby at_49) ?_
    show Steps p.tables e below (T16.setTop (mkF m 51 #[.val (.int p1), .unset, .unset, .unset, .unset] [(.int (7 : Int32)), (.ref b2), (.ref b2)])) _
    refine st17 _ ?_
    show Steps p.tables e below (T17.setTop (mkF m 54 #[.val (.int p1), .unset, .unset, .unset, .unset] [(.ref s_SURVIVE_HIBERNATED), (.int (7 : Int32)), (.ref b2), (.ref b2)])) _
    refine st18 _ ?_
    show Steps p.tables e below (T18.setTop (mkF m 55 #[.val (.int p1), .unset, .unset, .unset, .unset] [(.ref b2)])) _
    refine XS.dup X18.here hx rfl (hb hby at_55) rfl rfl ?_
    show Steps p.tables e below (T18.setTop (mkF m 56 #[.val (.int p1), .unset, .unset, .unset, .unset] [(.ref b2), (.ref b2)])) _
    refine XS.bipush X18.here hx rfl (hb hby at_56) ?_
    show Steps p.tables e below (T18.setTop (mkF m 58 #[.val (.int p1), .unset, .unset, .unset, .unset] [(.int (8 : Int32)), (.ref b2), (.ref b2)])) _
    refine st19 _ ?_
    show Steps p.tables e below (T19.setTop (mkF m 61 #[.val (.int p1), .unset, .unset, .unset, .unset] [(.ref s_WEAKNESS), (.int (8 : Int32)), (.ref b2), (.ref b2)])) _
    refine st20 _ ?_
    show Steps p.tables e below (T20.setTop (mkF m 62 #[.val (.int p1), .unset, .unset, .unset, .unset] [(.ref b2)])) _
    refine XS.dup X20.here hx rfl (hb hby at_62) rfl rfl ?_
    show Steps p.tables e below (T20.setTop (mkF m 63 #[.val (.int p1), .unset, .unset, .unset, .unset] [(.ref b2), (.ref b2)])) _
    refine XS.bipush X20.here hx rfl (hb hby at_63) ?_
    show Steps p.tables e below (T20.setTop (mkF m 65 #[.val (.int p1), .unset, .unset, .unset, .unset] [(.int (9 : Int32)), (.ref b2), (.ref b2)])) _
    refine st21 _ ?_
    show Steps p.tables e below (T21.setTop (mkF m 68 #[.val (.int p1), .unset, .unset, .unset, .unset] [(.ref s_NEST), (.int (9 : Int32)), (.ref b2), (.ref b2)])) _
    refine st22 _ ?_
    show Steps p.tables e below (T22.setTop (mkF m 69 #[.val (.int p1), .unset, .unset, .unset, .unset] [(.ref b2)])) _
    refine XS.dup X22.here hx rfl (hb hby at_69) rfl rfl ?_
    show Steps p.tables e below (T22.setTop (mkF m 70 #[.val (.int p1), .unset, .unset, .unset, .unset] [(.ref b2), (.ref b2)])) _
    refine XS.bipush X22.here hx rfl (hb hby at_70) ?_
    show Steps p.tables e below (T22.setTop (mkF m 72 #[.val (.int p1), .unset, .unset, .unset, .unset] [(.int (10 : Int32)), (.ref b2), (.ref b2)])) _
    refine st23 _ ?_
    show Steps p.tables e below (T23.setTop (mkF m 75 #[.val (.int p1), .unset, .unset, .unset, .unset] [(.ref s_QUEEN), (.int (10 : Int32)), (.ref b2), (.ref b2)])) _
    refine st24 _ ?_
    show Steps p.tables e below (T24.setTop (mkF m 76 #[.val (.int p1), .unset, .unset, .unset, .unset] [(.ref b2)])) _
    refine XS.dup X24.here hx rfl (hb hby at_76) rfl rfl ?_
    show Steps p.tables e below (T24.setTop (mkF m 77 #[.val (.int p1), .unset, .unset, .unset, .unset] [(.ref b2), (.ref b2)])) _
    refine XS.bipush X24.here hx rfl (hb hby at_77) ?_
    show Steps p.tables e below (T24.setTop (mkF m 79 #[.val (.int p1), .unset, .unset, .unset, .unset] [(.int (11 : Int32)), (.ref b2), (.ref b2)])) _
    refine st25 _ ?_
    show Steps p.tables e below (T25.setTop (mkF m 82 #[.val (.int p1), .unset, .unset, .unset, .unset] [(.ref s_BREEDER), (.int (11 : Int32)), (.ref b2), (.ref b2)])) _
    refine st26 _ ?_
    show Steps p.tables e below (T26.setTop (mkF m 83 #[.val (.int p1), .unset, .unset, .unset, .unset] [(.ref b2)])) _
    refine XS.dup X26.here hx rfl (hb hby at_83) rfl rfl ?_
    show Steps p.tables e below (T26.setTop (mkF m 84 #[.val (.int p1), .unset, .unset, .unset, .unset] [(.ref b2), (.ref b2)])) _
    refine XS.bipush X26.here hx rfl (hb hby at_84) ?_
    show Steps p.tables e below (T26.setTop (mkF m 86 #[.val (.int p1), .unset, .unset, .unset, .unset] [(.int (12 : Int32)), (.ref b2), (.ref b2)])) _
    refine st27 _ ?_
    show Steps p.tables e below (T27.setTop (mkF m 89 #[.val (.int p1), .unset, .unset, .unset, .unset] [(.ref s_SIGNAL), (.int (12 : Int32)), (.ref b2), (.ref b2)])) _
    refine st28 _ ?_
    show Steps p.tables e below (T28.setTop (mkF m 90 #[.val (.int p1), .unset, .unset, .unset, .unset] [(.ref b2)])) _
    refine XS.astoreN X28.here hx rfl (hb hby at_90) rfl rfl (l' := #[.val (.int p1), .val (.ref b2), .unset, .unset, .unset]) rfl ?_
    show Steps p.tables e below (T28.setTop (mkF m 91 #[.val (.int p1), .val (.ref b2), .unset, .unset, .unset] [])) _
    refine XS.iloadN X28.here hx rfl (hb hby at_91) rfl ?_
    show Steps p.tables e below (T28.setTop (mkF m 92 #[.val (.int p1), .val (.ref b2), .unset, .unset, .unset] [(.int p1)])) _
    refine X28.ldcInt hx hown (mvT hZ (hw _ (List.mem_of_getElem? (i := 30) rfl))) (g := (mkF m 92 #[.val (.int p1), .val (.ref b2), .unset, .unset, .unset] [(.int p1)])) rfl (hb hby at_92) _ ?_
    show Steps p.tables e below (T28.setTop (mkF m 94 #[.val (.int p1), .val (.ref b2), .unset, .unset, .unset] [(.int (2147483647 : Int32)), (.int p1)])) _
    refine XS.iand X28.here hx rfl (hb hby at_94) rfl ?_
    show Steps p.tables e below (T28.setTop (mkF m 95 #[.val (.int p1), .val (.ref b2), .unset, .unset, .unset] [(.int (p1 &&& (2147483647 : Int32)))])) _
    refine XS.bipush X28.here hx rfl (hb hby at_95) ?_
    show Steps p.tables e below (T28.setTop (mkF m 97 #[.val (.int p1), .val (.ref b2), .unset, .unset, .unset] [(.int (13 : Int32)), (.int (p1 &&& (2147483647 : Int32)))])) _
    refine XS.irem X28.here hx rfl (hb hby at_97) rfl (by decide) ?_
    show Steps p.tables e below (T28.setTop (mkF m 98 #[.val (.int p1), .val (.ref b2), .unset, .unset, .unset] [(.int ((p1 &&& (2147483647 : Int32)) - ((p1 &&& (2147483647 : Int32)) / (13 : Int32)) * (13 : Int32)))])) _
    refine XS.istoreN X28.here hx rfl (hb hby at_98) rfl (l' := #[.val (.int p1), .val (.ref b2), .val (.int (t0_0 p1)), .unset, .unset]) rfl ?_
    show Steps p.tables e below (T28.setTop (mkF m 99 #[.val (.int p1), .val (.ref b2), .val (.int (t0_0 p1)), .unset, .unset] [])) _
    refine XS.aloadN X28.here hx rfl (hb hby at_99) rfl rfl ?_
    show Steps p.tables e below (T28.setTop (mkF m 100 #[.val (.int p1), .val (.ref b2), .val (.int (t0_0 p1)), .unset, .unset] [(.ref b2)])) _
    refine XS.iloadN X28.here hx rfl (hb hby at_100) rfl ?_
    show Steps p.tables e below (T28.setTop (mkF m 101 #[.val (.int p1), .val (.ref b2), .val (.int (t0_0 p1)), .unset, .unset] [(.int (t0_0 p1)), (.ref b2)])) _
    refine X28.aaload hx (j := (t0_0 p1)) (v := (.ref w101)) (by rw [e28]; exact Ar_b2_39.1) (State.isArrayOf_alike hZ.alike Ar_b2_39.2.1) rfl Ar_b2_39.2.2 hin_b2_39 hat_b2_39 (g := (mkF m 101 #[.val (.int p1), .val (.ref b2), .val (.int (t0_0 p1)), .unset, .unset] [(.int (t0_0 p1)), (.ref b2)])) rfl rfl (hb hby at_101) _ ?_
    show Steps p.tables e below (T28.setTop (mkF m 102 #[.val (.int p1), .val (.ref b2), .val (.int (t0_0 p1)), .unset, .unset] [(.ref w101)])) _
    refine XS.astoreN X28.here hx rfl (hb hby at_102) rfl rfl (l' := #[.val (.int p1), .val (.ref b2), .val (.int (t0_0 p1)), .val (.ref w101), .unset]) rfl ?_
    show Steps p.tables e below (T28.setTop (mkF m 103 #[.val (.int p1), .val (.ref b2), .val (.int (t0_0 p1)), .val (.ref w101), .unset] [])) _
    refine XS.iconst X28.here hx rfl (hb hby at_103) ?_
    show Steps p.tables e below (T28.setTop (mkF m 104 #[.val (.int p1), .val (.ref b2), .val (.int (t0_0 p1)), .val (.ref w101), .unset] [(.int (0 : Int32))])) _
    refine XS.istore X28.here hx rfl (hb hby at_104) rfl (l' := #[.val (.int p1), .val (.ref b2), .val (.int (t0_0 p1)), .val (.ref w101), .val (.int (0 : Int32))]) rfl ?_
    show Steps p.tables e below (T28.setTop (mkF m 106 #[.val (.int p1), .val (.ref b2), .val (.int (t0_0 p1)), .val (.ref w101), .val (.int (0 : Int32))] [])) _
    refine XS.iloadN X28.here hx rfl (hb hby at_106) rfl ?_
    show Steps p.tables e below (T28.setTop (mkF m 107 #[.val (.int p1), .val (.ref b2), .val (.int (t0_0 p1)), .val (.ref w101), .val (.int (0 : Int32))] [(.int (t0_0 p1))])) _
    refine XS.iconst X28.here hx rfl (hb hby at_107) ?_
    show Steps p.tables e below (T28.setTop (mkF m 108 #[.val (.int p1), .val (.ref b2), .val (.int (t0_0 p1)), .val (.ref w101), .val (.int (0 : Int32))] [(.int (5 : Int32)), (.int (t0_0 p1))])) _
    refine XS.icmpNo X28.here hx rfl (hb hby at_108) rfl (teq hc108).2 ?_
    show Steps p.tables e below (T28.setTop (mkF m 111 #[.val (.int p1), .val (.ref b2), .val (.int (t0_0 p1)), .val (.ref w101), .val (.int (0 : Int32))] [])) _
    refine XS.iconst X28.here hx rfl (hb hby at_111) ?_
    show Steps p.tables e below (T28.setTop (mkF m 112 #[.val (.int p1), .val (.ref b2), .val (.int (t0_0 p1)), .val (.ref w101), .val (.int (0 : Int32))] [(.int (1 : Int32))])) _
    refine XS.istore X28.here hx rfl (hb hby at_112) rfl (l' := #[.val (.int p1), .val (.ref b2), .val (.int (t0_0 p1)), .val (.ref w101), .val (.int (1 : Int32))]) rfl ?_
    show Steps p.tables e below (T28.setTop (mkF m 114 #[.val (.int p1), .val (.ref b2), .val (.int (t0_0 p1)), .val (.ref w101), .val (.int (1 : Int32))] [])) _
    refine XS.iloadN X28.here hx rfl (hb hby at_114) rfl ?_
    show Steps p.tables e below (T28.setTop (mkF m 115 #[.val (.int p1), .val (.ref b2), .val (.int (t0_0 p1)), .val (.ref w101), .val (.int (1 : Int32))] [(.int (t0_0 p1))])) _
    refine XS.bipush X28.here hx rfl (hb hby at_115) ?_
    show Steps p.tables e below (T28.setTop (mkF m 117 #[.val (.int p1), .val (.ref b2), .val (.int (t0_0 p1)), .val (.ref w101), .val (.int (1 : Int32))] [(.int (8 : Int32)), (.int (t0_0 p1))])) _
    refine XS.icmpNo X28.here hx rfl (hb hby at_117) rfl (teq hc117).2 ?_
    show Steps p.tables e below (T28.setTop (mkF m 120 #[.val (.int p1), .val (.ref b2), .val (.int (t0_0 p1)), .val (.ref w101), .val (.int (1 : Int32))] [])) _
    refine XS.iconst X28.here hx rfl (hb hby at_120) ?_
    show Steps p.tables e below (T28.setTop (mkF m 121 #[.val (.int p1), .val (.ref b2), .val (.int (t0_0 p1)), .val (.ref w101), .val (.int (1 : Int32))] [(.int (1 : Int32))])) _
    refine XS.istore X28.here hx rfl (hb hby at_121) rfl (l' := #[.val (.int p1), .val (.ref b2), .val (.int (t0_0 p1)), .val (.ref w101), .val (.int (1 : Int32))]) rfl ?_
    show Steps p.tables e below (T28.setTop (mkF m 123 #[.val (.int p1), .val (.ref b2), .val (.int (t0_0 p1)), .val (.ref w101), .val (.int (1 : Int32))] [])) _
    refine XS.aloadN X28.here hx rfl (hb hby at_123) rfl rfl ?_
    show Steps p.tables e below (T28.setTop (mkF m 124 #[.val (.int p1), .val (.ref b2), .val (.int (t0_0 p1)), .val (.ref w101), .val (.int (1 : Int32))] [(.ref w101)])) _
    refine st29.trans ?_
    show Steps p.tables e below (T29.setTop (mkF m 127 #[.val (.int p1), .val (.ref b2), .val (.int (t0_0 p1)), .val (.ref w101), .val (.int (1 : Int32))] [(.int (F1 w101 s_OTHERS s_WEAKNESS))])) _
    refine XS.iload X29.here hx rfl (hb hby at_127) rfl ?_
    show Steps p.tables e below (T29.setTop (mkF m 129 #[.val (.int p1), .val (.ref b2), .val (.int (t0_0 p1)), .val (.ref w101), .val (.int (1 : Int32))] [(.int (1 : Int32)), (.int (F1 w101 s_OTHERS s_WEAKNESS))])) _
    refine XS.icmpNo X29.here hx rfl (hb hby at_129) rfl (teq (show (F1 w101 s_OTHERS s_WEAKNESS) = (1 : Int32) from by rw [hrel]; first | rw [if_pos hc108] | rw [if_neg hc108, if_pos hc117] | rw [if_neg hc108, if_neg hc117])).2 ?_
    show Steps p.tables e below (T29.setTop (mkF m 132 #[.val (.int p1), .val (.ref b2), .val (.int (t0_0 p1)), .val (.ref w101), .val (.int (1 : Int32))] [])) _
    refine XS.iconst X29.here hx rfl (hb hby at_132) ?_
    show Steps p.tables e below (T29.setTop (mkF m 133 #[.val (.int p1), .val (.ref b2), .val (.int (t0_0 p1)), .val (.ref w101), .val (.int (1 : Int32))] [(.int (1 : Int32))])) _
    refine XS.goto X29.here hx rfl (pc0 := 133) (pc' := 137) rfl (hb hby at_133) (by decide) (by decide) ?_
    show Steps p.tables e below (T29.setTop (mkF m 137 #[.val (.int p1), .val (.ref b2), .val (.int (t0_0 p1)), .val (.ref w101), .val (.int (1 : Int32))] [(.int (1 : Int32))])) _
    exact retN X29 hx (t := .boolean) Bd.returns (by simp) (hb hby at_137) hr
  · show Q_rm0 Z p1 s_REACH_EARTH s_REACH_MARS s_DEAD_NEXT s_DEAD_PREVIOUS s_ALONE s_OTHERS s_SURVIVE_POD s_SURVIVE_HIBERNATED s_WEAKNESS s_NEST s_QUEEN s_BREEDER s_SIGNAL w101 h0 n0 _ T29.heap _
    exact ⟨rfl, N29⟩
set_option maxRecDepth 65536 in
set_option maxHeartbeats 40000000 in
theorem rm0_ft (l : Launch) (Z : State) (a0 : Array Value) (hw : ∀ d ∈ tables_1, d.before a0 Z = true) (ws : List Jvm.Cond) (p1 : Int32) (s_REACH_EARTH : Addr) (s_REACH_MARS : Addr) (s_DEAD_NEXT : Addr) (s_DEAD_PREVIOUS : Addr) (s_ALONE : Addr) (s_OTHERS : Addr) (s_SURVIVE_POD : Addr) (s_SURVIVE_HIBERNATED : Addr) (s_WEAKNESS : Addr) (s_NEST : Addr) (s_QUEEN : Addr) (s_BREEDER : Addr) (s_SIGNAL : Addr) (w101 : Addr) (h0 : Heap) (n0 : Nat) (Z0 : n0 ≤ h0.size) (hrel : (F1 w101 s_OTHERS s_WEAKNESS) = if (t0_0 p1) = (5 : Int32) then (1 : Int32) else if (t0_0 p1) = (8 : Int32) then (1 : Int32) else (0 : Int32)) (S_REACH_EARTH : Sta Z h0 "com/example/coldsleep/coldsleep/game/Aim" "REACH_EARTH" "Lcom/example/coldsleep/coldsleep/game/Aim;" (.ref s_REACH_EARTH)) (E_s_REACH_EARTH : Exa Z h0 s_REACH_EARTH "com/example/coldsleep/coldsleep/game/Aim") (S_REACH_MARS : Sta Z h0 "com/example/coldsleep/coldsleep/game/Aim" "REACH_MARS" "Lcom/example/coldsleep/coldsleep/game/Aim;" (.ref s_REACH_MARS)) (E_s_REACH_MARS : Exa Z h0 s_REACH_MARS "com/example/coldsleep/coldsleep/game/Aim") (S_DEAD_NEXT : Sta Z h0 "com/example/coldsleep/coldsleep/game/Aim" "DEAD_NEXT" "Lcom/example/coldsleep/coldsleep/game/Aim;" (.ref s_DEAD_NEXT)) (E_s_DEAD_NEXT : Exa Z h0 s_DEAD_NEXT "com/example/coldsleep/coldsleep/game/Aim") (S_DEAD_PREVIOUS : Sta Z h0 "com/example/coldsleep/coldsleep/game/Aim" "DEAD_PREVIOUS" "Lcom/example/coldsleep/coldsleep/game/Aim;" (.ref s_DEAD_PREVIOUS)) (E_s_DEAD_PREVIOUS : Exa Z h0 s_DEAD_PREVIOUS "com/example/coldsleep/coldsleep/game/Aim") (S_ALONE : Sta Z h0 "com/example/coldsleep/coldsleep/game/Aim" "ALONE" "Lcom/example/coldsleep/coldsleep/game/Aim;" (.ref s_ALONE)) (E_s_ALONE : Exa Z h0 s_ALONE "com/example/coldsleep/coldsleep/game/Aim") (S_OTHERS : Sta Z h0 "com/example/coldsleep/coldsleep/game/Aim" "OTHERS" "Lcom/example/coldsleep/coldsleep/game/Aim;" (.ref s_OTHERS)) (E_s_OTHERS : Exa Z h0 s_OTHERS "com/example/coldsleep/coldsleep/game/Aim") (S_SURVIVE_POD : Sta Z h0 "com/example/coldsleep/coldsleep/game/Aim" "SURVIVE_POD" "Lcom/example/coldsleep/coldsleep/game/Aim;" (.ref s_SURVIVE_POD)) (E_s_SURVIVE_POD : Exa Z h0 s_SURVIVE_POD "com/example/coldsleep/coldsleep/game/Aim") (S_SURVIVE_HIBERNATED : Sta Z h0 "com/example/coldsleep/coldsleep/game/Aim" "SURVIVE_HIBERNATED" "Lcom/example/coldsleep/coldsleep/game/Aim;" (.ref s_SURVIVE_HIBERNATED)) (E_s_SURVIVE_HIBERNATED : Exa Z h0 s_SURVIVE_HIBERNATED "com/example/coldsleep/coldsleep/game/Aim") (S_WEAKNESS : Sta Z h0 "com/example/coldsleep/coldsleep/game/Aim" "WEAKNESS" "Lcom/example/coldsleep/coldsleep/game/Aim;" (.ref s_WEAKNESS)) (E_s_WEAKNESS : Exa Z h0 s_WEAKNESS "com/example/coldsleep/coldsleep/game/Aim") (S_NEST : Sta Z h0 "com/example/coldsleep/coldsleep/game/Aim" "NEST" "Lcom/example/coldsleep/coldsleep/game/Aim;" (.ref s_NEST)) (E_s_NEST : Exa Z h0 s_NEST "com/example/coldsleep/coldsleep/game/Aim") (S_QUEEN : Sta Z h0 "com/example/coldsleep/coldsleep/game/Aim" "QUEEN" "Lcom/example/coldsleep/coldsleep/game/Aim;" (.ref s_QUEEN)) (E_s_QUEEN : Exa Z h0 s_QUEEN "com/example/coldsleep/coldsleep/game/Aim") (S_BREEDER : Sta Z h0 "com/example/coldsleep/coldsleep/game/Aim" "BREEDER" "Lcom/example/coldsleep/coldsleep/game/Aim;" (.ref s_BREEDER)) (E_s_BREEDER : Exa Z h0 s_BREEDER "com/example/coldsleep/coldsleep/game/Aim") (S_SIGNAL : Sta Z h0 "com/example/coldsleep/coldsleep/game/Aim" "SIGNAL" "Lcom/example/coldsleep/coldsleep/game/Aim;" (.ref s_SIGNAL)) (E_s_SIGNAL : Exa Z h0 s_SIGNAL "com/example/coldsleep/coldsleep/game/Aim") (E_w101 : Exa Z h0 w101 "com/example/coldsleep/coldsleep/game/Aim") (hi101 : ¬ (t0_0 p1) < 0 ∧ (t0_0 p1) < (13 : Int32)) (hs101 : (([(.ref s_REACH_EARTH), (.ref s_REACH_MARS), (.ref s_DEAD_NEXT), (.ref s_DEAD_PREVIOUS), (.ref s_ALONE), (.ref s_OTHERS), (.ref s_SURVIVE_POD), (.ref s_SURVIVE_HIBERNATED), (.ref s_WEAKNESS), (.ref s_NEST), (.ref s_QUEEN), (.ref s_BREEDER), (.ref s_SIGNAL)] : List Value)).getD ((t0_0 p1)).toNatClampNeg .null = (.ref w101)) (hc108 : (t0_0 p1) = (5 : Int32)) (hc117 : ¬ ((t0_0 p1) = (8 : Int32))) :
    MetFree l x (head1 (Jvm.Cond.code x code maxLocals ret :: ws) room_1) (fun a U => a = #[(.int p1)] ∧ Z.Warmed39 U.vm ∧ U.heap = h0) (fun _ _ _ _ _ => True) (fun _ U o U' => ∃ v L, o = .returned v ∧ Q_rm0 Z p1 s_REACH_EARTH s_REACH_MARS s_DEAD_NEXT s_DEAD_PREVIOUS s_ALONE s_OTHERS s_SURVIVE_POD s_SURVIVE_HIBERNATED s_WEAKNESS s_NEST s_QUEEN s_BREEDER s_SIGNAL w101 h0 n0 v U'.heap L ∧ FrameEnd U o U' L room_1.cells room_1.slots) := by
  refine MetFree.of_bodySF (plainFor_of_name pn_0) hisR ?_
  intro p e s m args below meth c s₁ Bd hml0 hP hK
  obtain ⟨rfl, hZ, hh⟩ := hP
  have hx := Bd.exec
  have hby := Bd.bytes
  have hml : c.maxLocals = 5 := hml0
  have hown : s.vm.findClass "com/example/coldsleep/coldsleep/game/AimCountsPinLaw" = some m.cls := findClass_of_methodNamed Bd.named
  have hnm := (name_of_methodNamed Bd.named Bd.method).1
  have X0 : Stand p l e room_1 s m #[(.int p1)] below meth c s₁ [] 0 0 := Stand.of_body Bd
  have e0 : s₁.heap = h0 := by rw [← hh, Bd.state]; rfl
  have N0 := Fr.nil n0
  have pre0 : ∀ t, Steps p.tables e below (s₁.setTop (mkF m 0 #[.val (.int p1), .unset, .unset, .unset, .unset] [])) t → Steps p.tables e below (s₁.setTop (entryFrame m #[(.int p1)] maxLocals)) t := fun t k => castTop (ef_0 m p1) k
  obtain ⟨T2, h2, k2, X2, e2, E2, A2, O2, st2⟩ := newR X0 hx hZ hown (hw _ (List.mem_of_getElem? (i := 0) rfl)) (hw _ (List.mem_of_getElem? (i := 1) rfl)) e0 (g := (mkF m 2 #[.val (.int p1), .unset, .unset, .unset, .unset] [(.int (13 : Int32))])) rfl (hb hby at_2) rfl (by decide) (cap := 13) (by decide) (by decide) (by decide) (by decide)
  obtain ⟨b2, g2⟩ : ∃ z, z = h0.size := ⟨_, rfl⟩
  rw [← g2] at A2 st2
  have g_b2 : n0 ≤ b2 := Nat.le_trans Z0 (Nat.le_of_eq g2.symm)
  have sz_b2 : h0.size ≤ b2 := Nat.le_trans (Nat.le_refl h0.size) (Nat.le_of_eq g2.symm)
  have V_b2 : Arv Z h2 b2 k2 (.object "com/example/coldsleep/coldsleep/game/Aim") (13 : Int32) (List.replicate 13 .null) .null := (Arv.new A2 (by decide)).pad (pad_rep [] .null 13)
  have f0 := (S_REACH_EARTH.ext E2)
  obtain ⟨T3, X3, e3, st3⟩ := getS2 X2 hx hZ hown (host := "") (Or.inl (hw _ (List.mem_of_getElem? (i := 2) rfl))) Via.refl e2 f0 (g := (mkF m 7 #[.val (.int p1), .unset, .unset, .unset, .unset] [(.int (0 : Int32)), (.ref b2), (.ref b2)])) rfl (hb hby at_7)
  have f1 := (E_s_REACH_EARTH.ext E2)
  obtain ⟨cl_b2_2, Ar_b2_2, q_b2_2, Sz_b2_2, Ng_b2_2, Ha_b2_2, Gt_b2_2⟩ := id V_b2
  have hin_b2_2 : ¬ ((0 : Int32) < 0 ∨ cl_b2_2.slots.size ≤ ((0 : Int32)).toNatClampNeg) := inb_of Sz_b2_2 ⟨by decide, by decide⟩
  obtain ⟨T4, h4, X4, e4, W4, st4⟩ := stR X3 hx hZ e3 Ar_b2_2 (j := (0 : Int32)) hin_b2_2 rfl (Sto.ofV Ar_b2_2 q_b2_2 O2 (Ins.self f1)) (g := (mkF m 10 #[.val (.int p1), .unset, .unset, .unset, .unset] [(.ref s_REACH_EARTH), (.int (0 : Int32)), (.ref b2), (.ref b2)])) rfl rfl (hb hby at_10)
  have V4 : Arv Z h4 b2 k2 (.object "com/example/coldsleep/coldsleep/game/Aim") (13 : Int32) [(.ref s_REACH_EARTH), .null, .null, .null, .null, .null, .null, .null, .null, .null, .null, .null, .null] .null := Arv.set Ar_b2_2 q_b2_2 Sz_b2_2 Ng_b2_2 Ha_b2_2 Gt_b2_2 rfl W4 0 rfl (Nat.le_of_ble_eq_true rfl)
  have N4 := Fr.snoc X4 N0 g_b2
  have f3 := ((S_REACH_MARS.ext E2).wr W4)
  obtain ⟨T5, X5, e5, st5⟩ := getS2 X4 hx hZ hown (host := "") (Or.inl (hw _ (List.mem_of_getElem? (i := 6) rfl))) Via.refl e4 f3 (g := (mkF m 13 #[.val (.int p1), .unset, .unset, .unset, .unset] [(.int (1 : Int32)), (.ref b2), (.ref b2)])) rfl (hb hby at_13)
  have f4 := ((E_s_REACH_MARS.ext E2).wr W4)
  obtain ⟨cl_b2_5, Ar_b2_5, q_b2_5, Sz_b2_5, Ng_b2_5, Ha_b2_5, Gt_b2_5⟩ := id V4
  have hin_b2_5 : ¬ ((1 : Int32) < 0 ∨ cl_b2_5.slots.size ≤ ((1 : Int32)).toNatClampNeg) := inb_of Sz_b2_5 ⟨by decide, by decide⟩
  obtain ⟨T6, h6, X6, e6, W6, st6⟩ := stR X5 hx hZ e5 Ar_b2_5 (j := (1 : Int32)) hin_b2_5 rfl (Sto.ofV Ar_b2_5 q_b2_5 O2 (Ins.self f4)) (g := (mkF m 16 #[.val (.int p1), .unset, .unset, .unset, .unset] [(.ref s_REACH_MARS), (.int (1 : Int32)), (.ref b2), (.ref b2)])) rfl rfl (hb hby at_16)
  have V6 : Arv Z h6 b2 k2 (.object "com/example/coldsleep/coldsleep/game/Aim") (13 : Int32) [(.ref s_REACH_EARTH), (.ref s_REACH_MARS), .null, .null, .null, .null, .null, .null, .null, .null, .null, .null, .null] .null := Arv.set Ar_b2_5 q_b2_5 Sz_b2_5 Ng_b2_5 Ha_b2_5 Gt_b2_5 rfl W6 1 rfl (Nat.le_of_ble_eq_true rfl)
  have N6 := Fr.snoc X6 N4 g_b2
  have f6 := (((S_DEAD_NEXT.ext E2).wr W4).wr W6)
  obtain ⟨T7, X7, e7, st7⟩ := getS2 X6 hx hZ hown (host := "") (Or.inl (hw _ (List.mem_of_getElem? (i := 8) rfl))) Via.refl e6 f6 (g := (mkF m 19 #[.val (.int p1), .unset, .unset, .unset, .unset] [(.int (2 : Int32)), (.ref b2), (.ref b2)])) rfl (hb hby at_19)
  have f7 := (((E_s_DEAD_NEXT.ext E2).wr W4).wr W6)
  obtain ⟨cl_b2_8, Ar_b2_8, q_b2_8, Sz_b2_8, Ng_b2_8, Ha_b2_8, Gt_b2_8⟩ := id V6
  have hin_b2_8 : ¬ ((2 : Int32) < 0 ∨ cl_b2_8.slots.size ≤ ((2 : Int32)).toNatClampNeg) := inb_of Sz_b2_8 ⟨by decide, by decide⟩
  obtain ⟨T8, h8, X8, e8, W8, st8⟩ := stR X7 hx hZ e7 Ar_b2_8 (j := (2 : Int32)) hin_b2_8 rfl (Sto.ofV Ar_b2_8 q_b2_8 O2 (Ins.self f7)) (g := (mkF m 22 #[.val (.int p1), .unset, .unset, .unset, .unset] [(.ref s_DEAD_NEXT), (.int (2 : Int32)), (.ref b2), (.ref b2)])) rfl rfl (hb hby at_22)
  have V8 : Arv Z h8 b2 k2 (.object "com/example/coldsleep/coldsleep/game/Aim") (13 : Int32) [(.ref s_REACH_EARTH), (.ref s_REACH_MARS), (.ref s_DEAD_NEXT), .null, .null, .null, .null, .null, .null, .null, .null, .null, .null] .null := Arv.set Ar_b2_8 q_b2_8 Sz_b2_8 Ng_b2_8 Ha_b2_8 Gt_b2_8 rfl W8 2 rfl (Nat.le_of_ble_eq_true rfl)
  have N8 := Fr.snoc X8 N6 g_b2
  have f9 := ((((S_DEAD_PREVIOUS.ext E2).wr W4).wr W6).wr W8)
  obtain ⟨T9, X9, e9, st9⟩ := getS2 X8 hx hZ hown (host := "") (Or.inl (hw _ (List.mem_of_getElem? (i := 10) rfl))) Via.refl e8 f9 (g := (mkF m 25 #[.val (.int p1), .unset, .unset, .unset, .unset] [(.int (3 : Int32)), (.ref b2), (.ref b2)])) rfl (hb hby at_25)
  have f10 := ((((E_s_DEAD_PREVIOUS.ext E2).wr W4).wr W6).wr W8)
  obtain ⟨cl_b2_11, Ar_b2_11, q_b2_11, Sz_b2_11, Ng_b2_11, Ha_b2_11, Gt_b2_11⟩ := id V8
  have hin_b2_11 : ¬ ((3 : Int32) < 0 ∨ cl_b2_11.slots.size ≤ ((3 : Int32)).toNatClampNeg) := inb_of Sz_b2_11 ⟨by decide, by decide⟩
  obtain ⟨T10, h10, X10, e10, W10, st10⟩ := stR X9 hx hZ e9 Ar_b2_11 (j := (3 : Int32)) hin_b2_11 rfl (Sto.ofV Ar_b2_11 q_b2_11 O2 (Ins.self f10)) (g := (mkF m 28 #[.val (.int p1), .unset, .unset, .unset, .unset] [(.ref s_DEAD_PREVIOUS), (.int (3 : Int32)), (.ref b2), (.ref b2)])) rfl rfl (hb hby at_28)
  have V10 : Arv Z h10 b2 k2 (.object "com/example/coldsleep/coldsleep/game/Aim") (13 : Int32) [(.ref s_REACH_EARTH), (.ref s_REACH_MARS), (.ref s_DEAD_NEXT), (.ref s_DEAD_PREVIOUS), .null, .null, .null, .null, .null, .null, .null, .null, .null] .null := Arv.set Ar_b2_11 q_b2_11 Sz_b2_11 Ng_b2_11 Ha_b2_11 Gt_b2_11 rfl W10 3 rfl (Nat.le_of_ble_eq_true rfl)
  have N10 := Fr.snoc X10 N8 g_b2
  have f12 := (((((S_ALONE.ext E2).wr W4).wr W6).wr W8).wr W10)
  obtain ⟨T11, X11, e11, st11⟩ := getS2 X10 hx hZ hown (host := "") (Or.inl (hw _ (List.mem_of_getElem? (i := 12) rfl))) Via.refl e10 f12 (g := (mkF m 31 #[.val (.int p1), .unset, .unset, .unset, .unset] [(.int (4 : Int32)), (.ref b2), (.ref b2)])) rfl (hb hby at_31)
  have f13 := (((((E_s_ALONE.ext E2).wr W4).wr W6).wr W8).wr W10)
  obtain ⟨cl_b2_14, Ar_b2_14, q_b2_14, Sz_b2_14, Ng_b2_14, Ha_b2_14, Gt_b2_14⟩ := id V10
  have hin_b2_14 : ¬ ((4 : Int32) < 0 ∨ cl_b2_14.slots.size ≤ ((4 : Int32)).toNatClampNeg) := inb_of Sz_b2_14 ⟨by decide, by decide⟩
  obtain ⟨T12, h12, X12, e12, W12, st12⟩ := stR X11 hx hZ e11 Ar_b2_14 (j := (4 : Int32)) hin_b2_14 rfl (Sto.ofV Ar_b2_14 q_b2_14 O2 (Ins.self f13)) (g := (mkF m 34 #[.val (.int p1), .unset, .unset, .unset, .unset] [(.ref s_ALONE), (.int (4 : Int32)), (.ref b2), (.ref b2)])) rfl rfl (hb hby at_34)
  have V12 : Arv Z h12 b2 k2 (.object "com/example/coldsleep/coldsleep/game/Aim") (13 : Int32) [(.ref s_REACH_EARTH), (.ref s_REACH_MARS), (.ref s_DEAD_NEXT), (.ref s_DEAD_PREVIOUS), (.ref s_ALONE), .null, .null, .null, .null, .null, .null, .null, .null] .null := Arv.set Ar_b2_14 q_b2_14 Sz_b2_14 Ng_b2_14 Ha_b2_14 Gt_b2_14 rfl W12 4 rfl (Nat.le_of_ble_eq_true rfl)
  have N12 := Fr.snoc X12 N10 g_b2
  have f15 := ((((((S_OTHERS.ext E2).wr W4).wr W6).wr W8).wr W10).wr W12)
  obtain ⟨T13, X13, e13, st13⟩ := getS2 X12 hx hZ hown (host := "") (Or.inl (hw _ (List.mem_of_getElem? (i := 14) rfl))) Via.refl e12 f15 (g := (mkF m 37 #[.val (.int p1), .unset, .unset, .unset, .unset] [(.int (5 : Int32)), (.ref b2), (.ref b2)])) rfl (hb hby at_37)
  have f16 := ((((((E_s_OTHERS.ext E2).wr W4).wr W6).wr W8).wr W10).wr W12)
  obtain ⟨cl_b2_17, Ar_b2_17, q_b2_17, Sz_b2_17, Ng_b2_17, Ha_b2_17, Gt_b2_17⟩ := id V12
  have hin_b2_17 : ¬ ((5 : Int32) < 0 ∨ cl_b2_17.slots.size ≤ ((5 : Int32)).toNatClampNeg) := inb_of Sz_b2_17 ⟨by decide, by decide⟩
  obtain ⟨T14, h14, X14, e14, W14, st14⟩ := stR X13 hx hZ e13 Ar_b2_17 (j := (5 : Int32)) hin_b2_17 rfl (Sto.ofV Ar_b2_17 q_b2_17 O2 (Ins.self f16)) (g := (mkF m 40 #[.val (.int p1), .unset, .unset, .unset, .unset] [(.ref s_OTHERS), (.int (5 : Int32)), (.ref b2), (.ref b2)])) rfl rfl (hb hby at_40)
  have V14 : Arv Z h14 b2 k2 (.object "com/example/coldsleep/coldsleep/game/Aim") (13 : Int32) [(.ref s_REACH_EARTH), (.ref s_REACH_MARS), (.ref s_DEAD_NEXT), (.ref s_DEAD_PREVIOUS), (.ref s_ALONE), (.ref s_OTHERS), .null, .null, .null, .null, .null, .null, .null] .null := Arv.set Ar_b2_17 q_b2_17 Sz_b2_17 Ng_b2_17 Ha_b2_17 Gt_b2_17 rfl W14 5 rfl (Nat.le_of_ble_eq_true rfl)
  have N14 := Fr.snoc X14 N12 g_b2
  have f18 := (((((((S_SURVIVE_POD.ext E2).wr W4).wr W6).wr W8).wr W10).wr W12).wr W14)
  obtain ⟨T15, X15, e15, st15⟩ := getS2 X14 hx hZ hown (host := "") (Or.inl (hw _ (List.mem_of_getElem? (i := 16) rfl))) Via.refl e14 f18 (g := (mkF m 44 #[.val (.int p1), .unset, .unset, .unset, .unset] [(.int (6 : Int32)), (.ref b2), (.ref b2)])) rfl (hb hby at_44)
  have f19 := (((((((E_s_SURVIVE_POD.ext E2).wr W4).wr W6).wr W8).wr W10).wr W12).wr W14)
  obtain ⟨cl_b2_20, Ar_b2_20, q_b2_20, Sz_b2_20, Ng_b2_20, Ha_b2_20, Gt_b2_20⟩ := id V14
  have hin_b2_20 : ¬ ((6 : Int32) < 0 ∨ cl_b2_20.slots.size ≤ ((6 : Int32)).toNatClampNeg) := inb_of Sz_b2_20 ⟨by decide, by decide⟩
  obtain ⟨T16, h16, X16, e16, W16, st16⟩ := stR X15 hx hZ e15 Ar_b2_20 (j := (6 : Int32)) hin_b2_20 rfl (Sto.ofV Ar_b2_20 q_b2_20 O2 (Ins.self f19)) (g := (mkF m 47 #[.val (.int p1), .unset, .unset, .unset, .unset] [(.ref s_SURVIVE_POD), (.int (6 : Int32)), (.ref b2), (.ref b2)])) rfl rfl (hb hby at_47)
  have V16 : Arv Z h16 b2 k2 (.object "com/example/coldsleep/coldsleep/game/Aim") (13 : Int32) [(.ref s_REACH_EARTH), (.ref s_REACH_MARS), (.ref s_DEAD_NEXT), (.ref s_DEAD_PREVIOUS), (.ref s_ALONE), (.ref s_OTHERS), (.ref s_SURVIVE_POD), .null, .null, .null, .null, .null, .null] .null := Arv.set Ar_b2_20 q_b2_20 Sz_b2_20 Ng_b2_20 Ha_b2_20 Gt_b2_20 rfl W16 6 rfl (Nat.le_of_ble_eq_true rfl)
  have N16 := Fr.snoc X16 N14 g_b2
  have f21 := ((((((((S_SURVIVE_HIBERNATED.ext E2).wr W4).wr W6).wr W8).wr W10).wr W12).wr W14).wr W16)
  obtain ⟨T17, X17, e17, st17⟩ := getS2 X16 hx hZ hown (host := "") (Or.inl (hw _ (List.mem_of_getElem? (i := 18) rfl))) Via.refl e16 f21 (g := (mkF m 51 #[.val (.int p1), .unset, .unset, .unset, .unset] [(.int (7 : Int32)), (.ref b2), (.ref b2)])) rfl (hb hby at_51)
  have f22 := ((((((((E_s_SURVIVE_HIBERNATED.ext E2).wr W4).wr W6).wr W8).wr W10).wr W12).wr W14).wr W16)
  obtain ⟨cl_b2_23, Ar_b2_23, q_b2_23, Sz_b2_23, Ng_b2_23, Ha_b2_23, Gt_b2_23⟩ := id V16
  have hin_b2_23 : ¬ ((7 : Int32) < 0 ∨ cl_b2_23.slots.size ≤ ((7 : Int32)).toNatClampNeg) := inb_of Sz_b2_23 ⟨by decide, by decide⟩
  obtain ⟨T18, h18, X18, e18, W18, st18⟩ := stR X17 hx hZ e17 Ar_b2_23 (j := (7 : Int32)) hin_b2_23 rfl (Sto.ofV Ar_b2_23 q_b2_23 O2 (Ins.self f22)) (g := (mkF m 54 #[.val (.int p1), .unset, .unset, .unset, .unset] [(.ref s_SURVIVE_HIBERNATED), (.int (7 : Int32)), (.ref b2), (.ref b2)])) rfl rfl (hb hby at_54)
  have V18 : Arv Z h18 b2 k2 (.object "com/example/coldsleep/coldsleep/game/Aim") (13 : Int32) [(.ref s_REACH_EARTH), (.ref s_REACH_MARS), (.ref s_DEAD_NEXT), (.ref s_DEAD_PREVIOUS), (.ref s_ALONE), (.ref s_OTHERS), (.ref s_SURVIVE_POD), (.ref s_SURVIVE_HIBERNATED), .null, .null, .null, .null, .null] .null := Arv.set Ar_b2_23 q_b2_23 Sz_b2_23 Ng_b2_23 Ha_b2_23 Gt_b2_23 rfl W18 7 rfl (Nat.le_of_ble_eq_true rfl)
  have N18 := Fr.snoc X18 N16 g_b2
  have f24 := (((((((((S_WEAKNESS.ext E2).wr W4).wr W6).wr W8).wr W10).wr W12).wr W14).wr W16).wr W18)
  obtain ⟨T19, X19, e19, st19⟩ := getS2 X18 hx hZ hown (host := "") (Or.inl (hw _ (List.mem_of_getElem? (i := 20) rfl))) Via.refl e18 f24 (g := (mkF m 58 #[.val (.int p1), .unset, .unset, .unset, .unset] [(.int (8 : Int32)), (.ref b2), (.ref b2)])) rfl (hb hby at_58)
  have f25 := (((((((((E_s_WEAKNESS.ext E2).wr W4).wr W6).wr W8).wr W10).wr W12).wr W14).wr W16).wr W18)
  obtain ⟨cl_b2_26, Ar_b2_26, q_b2_26, Sz_b2_26, Ng_b2_26, Ha_b2_26, Gt_b2_26⟩ := id V18
  have hin_b2_26 : ¬ ((8 : Int32) < 0 ∨ cl_b2_26.slots.size ≤ ((8 : Int32)).toNatClampNeg) := inb_of Sz_b2_26 ⟨by decide, by decide⟩
  obtain ⟨T20, h20, X20, e20, W20, st20⟩ := stR X19 hx hZ e19 Ar_b2_26 (j := (8 : Int32)) hin_b2_26 rfl (Sto.ofV Ar_b2_26 q_b2_26 O2 (Ins.self f25)) (g := (mkF m 61 #[.val (.int p1), .unset, .unset, .unset, .unset] [(.ref s_WEAKNESS), (.int (8 : Int32)), (.ref b2), (.ref b2)])) rfl rfl (hb hby at_61)
  have V20 : Arv Z h20 b2 k2 (.object "com/example/coldsleep/coldsleep/game/Aim") (13 : Int32) [(.ref s_REACH_EARTH), (.ref s_REACH_MARS), (.ref s_DEAD_NEXT), (.ref s_DEAD_PREVIOUS), (.ref s_ALONE), (.ref s_OTHERS), (.ref s_SURVIVE_POD), (.ref s_SURVIVE_HIBERNATED), (.ref s_WEAKNESS), .null, .null, .null, .null] .null := Arv.set Ar_b2_26 q_b2_26 Sz_b2_26 Ng_b2_26 Ha_b2_26 Gt_b2_26 rfl W20 8 rfl (Nat.le_of_ble_eq_true rfl)
  have N20 := Fr.snoc X20 N18 g_b2
  have f27 := ((((((((((S_NEST.ext E2).wr W4).wr W6).wr W8).wr W10).wr W12).wr W14).wr W16).wr W18).wr W20)
  obtain ⟨T21, X21, e21, st21⟩ := getS2 X20 hx hZ hown (host := "") (Or.inl (hw _ (List.mem_of_getElem? (i := 22) rfl))) Via.refl e20 f27 (g := (mkF m 65 #[.val (.int p1), .unset, .unset, .unset, .unset] [(.int (9 : Int32)), (.ref b2), (.ref b2)])) rfl (hb hby at_65)
  have f28 := ((((((((((E_s_NEST.ext E2).wr W4).wr W6).wr W8).wr W10).wr W12).wr W14).wr W16).wr W18).wr W20)
  obtain ⟨cl_b2_29, Ar_b2_29, q_b2_29, Sz_b2_29, Ng_b2_29, Ha_b2_29, Gt_b2_29⟩ := id V20
  have hin_b2_29 : ¬ ((9 : Int32) < 0 ∨ cl_b2_29.slots.size ≤ ((9 : Int32)).toNatClampNeg) := inb_of Sz_b2_29 ⟨by decide, by decide⟩
  obtain ⟨T22, h22, X22, e22, W22, st22⟩ := stR X21 hx hZ e21 Ar_b2_29 (j := (9 : Int32)) hin_b2_29 rfl (Sto.ofV Ar_b2_29 q_b2_29 O2 (Ins.self f28)) (g := (mkF m 68 #[.val (.int p1), .unset, .unset, .unset, .unset] [(.ref s_NEST), (.int (9 : Int32)), (.ref b2), (.ref b2)])) rfl rfl (hb hby at_68)
  have V22 : Arv Z h22 b2 k2 (.object "com/example/coldsleep/coldsleep/game/Aim") (13 : Int32) [(.ref s_REACH_EARTH), (.ref s_REACH_MARS), (.ref s_DEAD_NEXT), (.ref s_DEAD_PREVIOUS), (.ref s_ALONE), (.ref s_OTHERS), (.ref s_SURVIVE_POD), (.ref s_SURVIVE_HIBERNATED), (.ref s_WEAKNESS), (.ref s_NEST), .null, .null, .null] .null := Arv.set Ar_b2_29 q_b2_29 Sz_b2_29 Ng_b2_29 Ha_b2_29 Gt_b2_29 rfl W22 9 rfl (Nat.le_of_ble_eq_true rfl)
  have N22 := Fr.snoc X22 N20 g_b2
  have f30 := (((((((((((S_QUEEN.ext E2).wr W4).wr W6).wr W8).wr W10).wr W12).wr W14).wr W16).wr W18).wr W20).wr W22)
  obtain ⟨T23, X23, e23, st23⟩ := getS2 X22 hx hZ hown (host := "") (Or.inl (hw _ (List.mem_of_getElem? (i := 24) rfl))) Via.refl e22 f30 (g := (mkF m 72 #[.val (.int p1), .unset, .unset, .unset, .unset] [(.int (10 : Int32)), (.ref b2), (.ref b2)])) rfl (hb hby at_72)
  have f31 := (((((((((((E_s_QUEEN.ext E2).wr W4).wr W6).wr W8).wr W10).wr W12).wr W14).wr W16).wr W18).wr W20).wr W22)
  obtain ⟨cl_b2_32, Ar_b2_32, q_b2_32, Sz_b2_32, Ng_b2_32, Ha_b2_32, Gt_b2_32⟩ := id V22
  have hin_b2_32 : ¬ ((10 : Int32) < 0 ∨ cl_b2_32.slots.size ≤ ((10 : Int32)).toNatClampNeg) := inb_of Sz_b2_32 ⟨by decide, by decide⟩
  obtain ⟨T24, h24, X24, e24, W24, st24⟩ := stR X23 hx hZ e23 Ar_b2_32 (j := (10 : Int32)) hin_b2_32 rfl (Sto.ofV Ar_b2_32 q_b2_32 O2 (Ins.self f31)) (g := (mkF m 75 #[.val (.int p1), .unset, .unset, .unset, .unset] [(.ref s_QUEEN), (.int (10 : Int32)), (.ref b2), (.ref b2)])) rfl rfl (hb hby at_75)
  have V24 : Arv Z h24 b2 k2 (.object "com/example/coldsleep/coldsleep/game/Aim") (13 : Int32) [(.ref s_REACH_EARTH), (.ref s_REACH_MARS), (.ref s_DEAD_NEXT), (.ref s_DEAD_PREVIOUS), (.ref s_ALONE), (.ref s_OTHERS), (.ref s_SURVIVE_POD), (.ref s_SURVIVE_HIBERNATED), (.ref s_WEAKNESS), (.ref s_NEST), (.ref s_QUEEN), .null, .null] .null := Arv.set Ar_b2_32 q_b2_32 Sz_b2_32 Ng_b2_32 Ha_b2_32 Gt_b2_32 rfl W24 10 rfl (Nat.le_of_ble_eq_true rfl)
  have N24 := Fr.snoc X24 N22 g_b2
  have f33 := ((((((((((((S_BREEDER.ext E2).wr W4).wr W6).wr W8).wr W10).wr W12).wr W14).wr W16).wr W18).wr W20).wr W22).wr W24)
  obtain ⟨T25, X25, e25, st25⟩ := getS2 X24 hx hZ hown (host := "") (Or.inl (hw _ (List.mem_of_getElem? (i := 26) rfl))) Via.refl e24 f33 (g := (mkF m 79 #[.val (.int p1), .unset, .unset, .unset, .unset] [(.int (11 : Int32)), (.ref b2), (.ref b2)])) rfl (hb hby at_79)
  have f34 := ((((((((((((E_s_BREEDER.ext E2).wr W4).wr W6).wr W8).wr W10).wr W12).wr W14).wr W16).wr W18).wr W20).wr W22).wr W24)
  obtain ⟨cl_b2_35, Ar_b2_35, q_b2_35, Sz_b2_35, Ng_b2_35, Ha_b2_35, Gt_b2_35⟩ := id V24
  have hin_b2_35 : ¬ ((11 : Int32) < 0 ∨ cl_b2_35.slots.size ≤ ((11 : Int32)).toNatClampNeg) := inb_of Sz_b2_35 ⟨by decide, by decide⟩
  obtain ⟨T26, h26, X26, e26, W26, st26⟩ := stR X25 hx hZ e25 Ar_b2_35 (j := (11 : Int32)) hin_b2_35 rfl (Sto.ofV Ar_b2_35 q_b2_35 O2 (Ins.self f34)) (g := (mkF m 82 #[.val (.int p1), .unset, .unset, .unset, .unset] [(.ref s_BREEDER), (.int (11 : Int32)), (.ref b2), (.ref b2)])) rfl rfl (hb hby at_82)
  have V26 : Arv Z h26 b2 k2 (.object "com/example/coldsleep/coldsleep/game/Aim") (13 : Int32) [(.ref s_REACH_EARTH), (.ref s_REACH_MARS), (.ref s_DEAD_NEXT), (.ref s_DEAD_PREVIOUS), (.ref s_ALONE), (.ref s_OTHERS), (.ref s_SURVIVE_POD), (.ref s_SURVIVE_HIBERNATED), (.ref s_WEAKNESS), (.ref s_NEST), (.ref s_QUEEN), (.ref s_BREEDER), .null] .null := Arv.set Ar_b2_35 q_b2_35 Sz_b2_35 Ng_b2_35 Ha_b2_35 Gt_b2_35 rfl W26 11 rfl (Nat.le_of_ble_eq_true rfl)
  have N26 := Fr.snoc X26 N24 g_b2
  have f36 := (((((((((((((S_SIGNAL.ext E2).wr W4).wr W6).wr W8).wr W10).wr W12).wr W14).wr W16).wr W18).wr W20).wr W22).wr W24).wr W26)
  obtain ⟨T27, X27, e27, st27⟩ := getS2 X26 hx hZ hown (host := "") (Or.inl (hw _ (List.mem_of_getElem? (i := 28) rfl))) Via.refl e26 f36 (g := (mkF m 86 #[.val (.int p1), .unset, .unset, .unset, .unset] [(.int (12 : Int32)), (.ref b2), (.ref b2)])) rfl (hb hby at_86)
  have f37 := (((((((((((((E_s_SIGNAL.ext E2).wr W4).wr W6).wr W8).wr W10).wr W12).wr W14).wr W16).wr W18).wr W20).wr W22).wr W24).wr W26)
  obtain ⟨cl_b2_38, Ar_b2_38, q_b2_38, Sz_b2_38, Ng_b2_38, Ha_b2_38, Gt_b2_38⟩ := id V26
  have hin_b2_38 : ¬ ((12 : Int32) < 0 ∨ cl_b2_38.slots.size ≤ ((12 : Int32)).toNatClampNeg) := inb_of Sz_b2_38 ⟨by decide, by decide⟩
  obtain ⟨T28, h28, X28, e28, W28, st28⟩ := stR X27 hx hZ e27 Ar_b2_38 (j := (12 : Int32)) hin_b2_38 rfl (Sto.ofV Ar_b2_38 q_b2_38 O2 (Ins.self f37)) (g := (mkF m 89 #[.val (.int p1), .unset, .unset, .unset, .unset] [(.ref s_SIGNAL), (.int (12 : Int32)), (.ref b2), (.ref b2)])) rfl rfl (hb hby at_89)
  have V28 : Arv Z h28 b2 k2 (.object "com/example/coldsleep/coldsleep/game/Aim") (13 : Int32) [(.ref s_REACH_EARTH), (.ref s_REACH_MARS), (.ref s_DEAD_NEXT), (.ref s_DEAD_PREVIOUS), (.ref s_ALONE), (.ref s_OTHERS), (.ref s_SURVIVE_POD), (.ref s_SURVIVE_HIBERNATED), (.ref s_WEAKNESS), (.ref s_NEST), (.ref s_QUEEN), (.ref s_BREEDER), (.ref s_SIGNAL)] .null := Arv.set Ar_b2_38 q_b2_38 Sz_b2_38 Ng_b2_38 Ha_b2_38 Gt_b2_38 rfl W28 12 rfl (Nat.le_of_ble_eq_true rfl)
  have N28 := Fr.snoc X28 N26 g_b2
  obtain ⟨cl_b2_39, Ar_b2_39, q_b2_39, Sz_b2_39, Ng_b2_39, Ha_b2_39, Gt_b2_39⟩ := id V28
  have hin_b2_39 : ¬ ((t0_0 p1) < 0 ∨ cl_b2_39.slots.size ≤ ((t0_0 p1)).toNatClampNeg) := inb_of Sz_b2_39 hi101
  have hat_b2_39 : cl_b2_39.slots[((t0_0 p1)).toNatClampNeg]? = some (.ref w101) := (Ha_b2_39 _ (Nat.lt_of_not_le fun q => hin_b2_39 (Or.inr q))).trans (congrArg some (hs101 : (([(.ref s_REACH_EARTH), (.ref s_REACH_MARS), (.ref s_DEAD_NEXT), (.ref s_DEAD_PREVIOUS), (.ref s_ALONE), (.ref s_OTHERS), (.ref s_SURVIVE_POD), (.ref s_SURVIVE_HIBERNATED), (.ref s_WEAKNESS), (.ref s_NEST), (.ref s_QUEEN), (.ref s_BREEDER), (.ref s_SIGNAL)] : List Value)).getD ((t0_0 p1)).toNatClampNeg .null = (.ref w101)))
  have f40 := ((((((((f15.wr W14).wr W16).wr W18).wr W20).wr W22).wr W24).wr W26).wr W28)
  have f41 := (((((f24.wr W20).wr W22).wr W24).wr W26).wr W28)
  have f42 := ((((((((((((((E_w101.ext E2).wr W4).wr W6).wr W8).wr W10).wr W12).wr W14).wr W16).wr W18).wr W20).wr W22).wr W24).wr W26).wr W28)
  obtain ⟨cq29, kq29, q29a, q29b, q29c⟩ := isOf hZ e28 f42
  obtain ⟨_, _, ⟨T29, L29, k29, n29⟩, -, X29, ⟨Lc29, hQ29, l29, y29, z29⟩, st29⟩ := X28.virtualBack hx (y := (⟨"com/example/coldsleep/coldsleep/game/Aim", "counts", "()Z"⟩ : MethodName)) (z := (⟨"com/example/coldsleep/coldsleep/game/Aim", "counts", "()Z"⟩ : MethodName)) hown (mvT hZ (hw _ (List.mem_of_getElem? (i := 31) rfl))) (mvT hZ (hw _ (List.mem_of_getElem? (i := 32) rfl))) (notFace_of_selects (args := #[]) (mvT hZ (hw _ (List.mem_of_getElem? (i := 34) rfl)))) (mvT hZ (hw _ (List.mem_of_getElem? (i := 34) rfl))) (mvT hZ (hw _ (List.mem_of_getElem? (i := 33) rfl))) (by decide) (backOf (W := 0) (rm1 l Z a0 hw [] w101 s_OTHERS s_WEAKNESS h28 n0 (Nat.le_trans (Nat.le_trans (Nat.le_trans (Nat.le_trans (Nat.le_trans (Nat.le_trans (Nat.le_trans (Nat.le_trans (Nat.le_trans (Nat.le_trans (Nat.le_trans (Nat.le_trans (Nat.le_trans (Nat.le_trans Z0 E2.1) (Keep.of_wr W4).1) (Keep.of_wr W6).1) (Keep.of_wr W8).1) (Keep.of_wr W10).1) (Keep.of_wr W12).1) (Keep.of_wr W14).1) (Keep.of_wr W16).1) (Keep.of_wr W18).1) (Keep.of_wr W20).1) (Keep.of_wr W22).1) (Keep.of_wr W24).1) (Keep.of_wr W26).1) (Keep.of_wr W28).1) f40 f41) hZ (hw _ (List.mem_of_getElem? (i := 35) rfl)) (hw _ (List.mem_of_getElem? (i := 3) rfl)) (by decide) (by decide)) q29a q29c (g := (mkF m 124 #[.val (.int p1), .val (.ref b2), .val (.int (t0_0 p1)), .val (.ref w101), .val (.int (1 : Int32))] [(.ref w101)])) rfl (by rw [hml]; rfl) (Steps.refl _) (argsL := []) (rest := []) (lenOf pd__28_29Z rfl) rfl (by show 2 * 0 + _ ≤ _; exact Nat.le_of_eq rfl) (hb hby at_124) (fun _ _ => ⟨rfl, e28, (by decide : 1 + 0 ≤ _), (by decide : 13 + 0 ≤ _)⟩)
  dsimp only [Pt.U, Pt.locs, Pt.cells, Pt.slots] at X29 l29 y29 z29 st29 hQ29
  subst l29 y29 z29
  obtain ⟨rfl, N29q, e29⟩ := hQ29
  have N29 := Fr.app N28 N29q
  obtain ⟨fs, hr, hrun, hended, hW, hsame⟩ := X29.leave (v := some (.int (1 : Int32))) (fun h => by rw [Bd.returns] at h; cases h)
  refine ⟨_, _, pre0 _ ?_, hrun, hended, _, _, rfl, ?_, ⟨_, rfl⟩, hW, hsame.mono (by decide) (by decide)⟩
  · show Steps p.tables e below (s₁.setTop (mkF m 0 #[.val (.int p1), .unset, .unset, .unset, .unset] [])) _
    refine XS.bipush X0.here hx rfl (hb hby at_0) ?_
    show Steps p.tables e below (s₁.setTop (mkF m 2 #[.val (.int p1), .unset, .unset, .unset, .unset] [(.int (13 : Int32))])) _
    refine st2 _ ?_
    show Steps p.tables e below (T2.setTop (mkF m 5 #[.val (.int p1), .unset, .unset, .unset, .unset] [(.ref b2)])) _
    refine XS.dup X2.here hx rfl (hb hby at_5) rfl rfl ?_
    show Steps p.tables e below (T2.setTop (mkF m 6 #[.val (.int p1), .unset, .unset, .unset, .unset] [(.ref b2), (.ref b2)])) _
    refine XS.iconst X2.here hx rfl (hb hby at_6) ?_
    show Steps p.tables e below (T2.setTop (mkF m 7 #[.val (.int p1), .unset, .unset, .unset, .unset] [(.int (0 : Int32)), (.ref b2), (.ref b2)])) _
    refine st3 _ ?_
    show Steps p.tables e below (T3.setTop (mkF m 10 #[.val (.int p1), .unset, .unset, .unset, .unset] [(.ref s_REACH_EARTH), (.int (0 : Int32)), (.ref b2), (.ref b2)])) _
    refine st4 _ ?_
    show Steps p.tables e below (T4.setTop (mkF m 11 #[.val (.int p1), .unset, .unset, .unset, .unset] [(.ref b2)])) _
    refine XS.dup X4.here hx rfl (hb hby at_11) rfl rfl ?_
    show Steps p.tables e below (T4.setTop (mkF m 12 #[.val (.int p1), .unset, .unset, .unset, .unset] [(.ref b2), (.ref b2)])) _
    refine XS.iconst X4.here hx rfl (hb hby at_12) ?_
    show Steps p.tables e below (T4.setTop (mkF m 13 #[.val (.int p1), .unset, .unset, .unset, .unset] [(.int (1 : Int32)), (.ref b2), (.ref b2)])) _
    refine st5 _ ?_
    show Steps p.tables e below (T5.setTop (mkF m 16 #[.val (.int p1), .unset, .unset, .unset, .unset] [(.ref s_REACH_MARS), (.int (1 : Int32)), (.ref b2), (.ref b2)])) _
    refine st6 _ ?_
    show Steps p.tables e below (T6.setTop (mkF m 17 #[.val (.int p1), .unset, .unset, .unset, .unset] [(.ref b2)])) _
    refine XS.dup X6.here hx rfl (hb hby at_17) rfl rfl ?_
    show Steps p.tables e below (T6.setTop (mkF m 18 #[.val (.int p1), .unset, .unset, .unset, .unset] [(.ref b2), (.ref b2)])) _
    refine XS.iconst X6.here hx rfl (hb hby at_18) ?_
    show Steps p.tables e below (T6.setTop (mkF m 19 #[.val (.int p1), .unset, .unset, .unset, .unset] [(.int (2 : Int32)), (.ref b2), (.ref b2)])) _
    refine st7 _ ?_
    show Steps p.tables e below (T7.setTop (mkF m 22 #[.val (.int p1), .unset, .unset, .unset, .unset] [(.ref s_DEAD_NEXT), (.int (2 : Int32)), (.ref b2), (.ref b2)])) _
    refine st8 _ ?_
    show Steps p.tables e below (T8.setTop (mkF m 23 #[.val (.int p1), .unset, .unset, .unset, .unset] [(.ref b2)])) _
    refine XS.dup X8.here hx rfl (hb hby at_23) rfl rfl ?_
    show Steps p.tables e below (T8.setTop (mkF m 24 #[.val (.int p1), .unset, .unset, .unset, .unset] [(.ref b2), (.ref b2)])) _
    refine XS.iconst X8.here hx rfl (hb hby at_24) ?_
    show Steps p.tables e below (T8.setTop (mkF m 25 #[.val (.int p1), .unset, .unset, .unset, .unset] [(.int (3 : Int32)), (.ref b2), (.ref b2)])) _
    refine st9 _ ?_
    show Steps p.tables e below (T9.setTop (mkF m 28 #[.val (.int p1), .unset, .unset, .unset, .unset] [(.ref s_DEAD_PREVIOUS), (.int (3 : Int32)), (.ref b2), (.ref b2)])) _
    refine st10 _ ?_
    show Steps p.tables e below (T10.setTop (mkF m 29 #[.val (.int p1), .unset, .unset, .unset, .unset] [(.ref b2)])) _
    refine XS.dup X10.here hx rfl (hb hby at_29) rfl rfl ?_
    show Steps p.tables e below (T10.setTop (mkF m 30 #[.val (.int p1), .unset, .unset, .unset, .unset] [(.ref b2), (.ref b2)])) _
    refine XS.iconst X10.here hx rfl (hb hby at_30) ?_
    show Steps p.tables e below (T10.setTop (mkF m 31 #[.val (.int p1), .unset, .unset, .unset, .unset] [(.int (4 : Int32)), (.ref b2), (.ref b2)])) _
    refine st11 _ ?_
    show Steps p.tables e below (T11.setTop (mkF m 34 #[.val (.int p1), .unset, .unset, .unset, .unset] [(.ref s_ALONE), (.int (4 : Int32)), (.ref b2), (.ref b2)])) _
    refine st12 _ ?_
    show Steps p.tables e below (T12.setTop (mkF m 35 #[.val (.int p1), .unset, .unset, .unset, .unset] [(.ref b2)])) _
    refine XS.dup X12.here hx rfl (hb hby at_35) rfl rfl ?_
    show Steps p.tables e below (T12.setTop (mkF m 36 #[.val (.int p1), .unset, .unset, .unset, .unset] [(.ref b2), (.ref b2)])) _
    refine XS.iconst X12.here hx rfl (hb hby at_36) ?_
    show Steps p.tables e below (T12.setTop (mkF m 37 #[.val (.int p1), .unset, .unset, .unset, .unset] [(.int (5 : Int32)), (.ref b2), (.ref b2)])) _
    refine st13 _ ?_
    show Steps p.tables e below (T13.setTop (mkF m 40 #[.val (.int p1), .unset, .unset, .unset, .unset] [(.ref s_OTHERS), (.int (5 : Int32)), (.ref b2), (.ref b2)])) _
    refine st14 _ ?_
    show Steps p.tables e below (T14.setTop (mkF m 41 #[.val (.int p1), .unset, .unset, .unset, .unset] [(.ref b2)])) _
    refine XS.dup X14.here hx rfl (hb hby at_41) rfl rfl ?_
    show Steps p.tables e below (T14.setTop (mkF m 42 #[.val (.int p1), .unset, .unset, .unset, .unset] [(.ref b2), (.ref b2)])) _
    refine XS.bipush X14.here hx rfl (hb hby at_42) ?_
    show Steps p.tables e below (T14.setTop (mkF m 44 #[.val (.int p1), .unset, .unset, .unset, .unset] [(.int (6 : Int32)), (.ref b2), (.ref b2)])) _
    refine st15 _ ?_
    show Steps p.tables e below (T15.setTop (mkF m 47 #[.val (.int p1), .unset, .unset, .unset, .unset] [(.ref s_SURVIVE_POD), (.int (6 : Int32)), (.ref b2), (.ref b2)])) _
    refine st16 _ ?_
    show Steps p.tables e below (T16.setTop (mkF m 48 #[.val (.int p1), .unset, .unset, .unset, .unset] [(.ref b2)])) _
    refine XS.dup X16.here hx rfl (hb hby at_48) rfl rfl ?_
    show Steps p.tables e below (T16.setTop (mkF m 49 #[.val (.int p1), .unset, .unset, .unset, .unset] [(.ref b2), (.ref b2)])) _
    refine XS.bipush X16.here hx rfl (hb hby at_49) ?_
    show Steps p.tables e below (T16.setTop (mkF m 51 #[.val (.int p1), .unset, .unset, .unset, .unset] [(.int (7 : Int32)), (.ref b2), (.ref b2)])) _
    refine st17 _ ?_
    show Steps p.tables e below (T17.setTop (mkF m 54 #[.val (.int p1), .unset, .unset, .unset, .unset] [(.ref s_SURVIVE_HIBERNATED), (.int (7 : Int32)), (.ref b2), (.ref b2)])) _
    refine st18 _ ?_
    show Steps p.tables e below (T18.setTop (mkF m 55 #[.val (.int p1), .unset, .unset, .unset, .unset] [(.ref b2)])) _
    refine XS.dup X18.here hx rfl (hb hby at_55) rfl rfl ?_
    show Steps p.tables e below (T18.setTop (mkF m 56 #[.val (.int p1), .unset, .unset, .unset, .unset] [(.ref b2), (.ref b2)])) _
    refine XS.bipush X18.here hx rfl (hb hby at_56) ?_
    show Steps p.tables e below (T18.setTop (mkF m 58 #[.val (.int p1), .unset, .unset, .unset, .unset] [(.int (8 : Int32)), (.ref b2), (.ref b2)])) _
    refine st19 _ ?_
    show Steps p.tables e below (T19.setTop (mkF m 61 #[.val (.int p1), .unset, .unset, .unset, .unset] [(.ref s_WEAKNESS), (.int (8 : Int32)), (.ref b2), (.ref b2)])) _
    refine st20 _ ?_
    show Steps p.tables e below (T20.setTop (mkF m 62 #[.val (.int p1), .unset, .unset, .unset, .unset] [(.ref b2)])) _
    refine XS.dup X20.here hx rfl (hb hby at_62) rfl rfl ?_
    show Steps p.tables e below (T20.setTop (mkF m 63 #[.val (.int p1), .unset, .unset, .unset, .unset] [(.ref b2), (.ref b2)])) _
    refine XS.bipush X20.here hx rfl (hb hby at_63) ?_
    show Steps p.tables e below (T20.setTop (mkF m 65 #[.val (.int p1), .unset, .unset, .unset, .unset] [(.int (9 : Int32)), (.ref b2), (.ref b2)])) _
    refine st21 _ ?_
    show Steps p.tables e below (T21.setTop (mkF m 68 #[.val (.int p1), .unset, .unset, .unset, .unset] [(.ref s_NEST), (.int (9 : Int32)), (.ref b2), (.ref b2)])) _
    refine st22 _ ?_
    show Steps p.tables e below (T22.setTop (mkF m 69 #[.val (.int p1), .unset, .unset, .unset, .unset] [(.ref b2)])) _
    refine XS.dup X22.here hx rfl (hb hby at_69) rfl rfl ?_
    show Steps p.tables e below (T22.setTop (mkF m 70 #[.val (.int p1), .unset, .unset, .unset, .unset] [(.ref b2), (.ref b2)])) _
    refine XS.bipush X22.here hx rfl (hb hby at_70) ?_
    show Steps p.tables e below (T22.setTop (mkF m 72 #[.val (.int p1), .unset, .unset, .unset, .unset] [(.int (10 : Int32)), (.ref b2), (.ref b2)])) _
    refine st23 _ ?_
    show Steps p.tables e below (T23.setTop (mkF m 75 #[.val (.int p1), .unset, .unset, .unset, .unset] [(.ref s_QUEEN), (.int (10 : Int32)), (.ref b2), (.ref b2)])) _
    refine st24 _ ?_
    show Steps p.tables e below (T24.setTop (mkF m 76 #[.val (.int p1), .unset, .unset, .unset, .unset] [(.ref b2)])) _
    refine XS.dup X24.here hx rfl (hb hby at_76) rfl rfl ?_
    show Steps p.tables e below (T24.setTop (mkF m 77 #[.val (.int p1), .unset, .unset, .unset, .unset] [(.ref b2), (.ref b2)])) _
    refine XS.bipush X24.here hx rfl (hb hby at_77) ?_
    show Steps p.tables e below (T24.setTop (mkF m 79 #[.val (.int p1), .unset, .unset, .unset, .unset] [(.int (11 : Int32)), (.ref b2), (.ref b2)])) _
    refine st25 _ ?_
    show Steps p.tables e below (T25.setTop (mkF m 82 #[.val (.int p1), .unset, .unset, .unset, .unset] [(.ref s_BREEDER), (.int (11 : Int32)), (.ref b2), (.ref b2)])) _
    refine st26 _ ?_
    show Steps p.tables e below (T26.setTop (mkF m 83 #[.val (.int p1), .unset, .unset, .unset, .unset] [(.ref b2)])) _
    refine XS.dup X26.here hx rfl (hb hby at_83) rfl rfl ?_
    show Steps p.tables e below (T26.setTop (mkF m 84 #[.val (.int p1), .unset, .unset, .unset, .unset] [(.ref b2), (.ref b2)])) _
    refine XS.bipush X26.here hx rfl (hb hby at_84) ?_
    show Steps p.tables e below (T26.setTop (mkF m 86 #[.val (.int p1), .unset, .unset, .unset, .unset] [(.int (12 : Int32)), (.ref b2), (.ref b2)])) _
    refine st27 _ ?_
    show Steps p.tables e below (T27.setTop (mkF m 89 #[.val (.int p1), .unset, .unset, .unset, .unset] [(.ref s_SIGNAL), (.int (12 : Int32)), (.ref b2), (.ref b2)])) _
    refine st28 _ ?_
    show Steps p.tables e below (T28.setTop (mkF m 90 #[.val (.int p1), .unset, .unset, .unset, .unset] [(.ref b2)])) _
    refine XS.astoreN X28.here hx rfl (hb hby at_90) rfl rfl (l' := #[.val (.int p1), .val (.ref b2), .unset, .unset, .unset]) rfl ?_
    show Steps p.tables e below (T28.setTop (mkF m 91 #[.val (.int p1), .val (.ref b2), .unset, .unset, .unset] [])) _
    refine XS.iloadN X28.here hx rfl (hb hby at_91) rfl ?_
    show Steps p.tables e below (T28.setTop (mkF m 92 #[.val (.int p1), .val (.ref b2), .unset, .unset, .unset] [(.int p1)])) _
    refine X28.ldcInt hx hown (mvT hZ (hw _ (List.mem_of_getElem? (i := 30) rfl))) (g := (mkF m 92 #[.val (.int p1), .val (.ref b2), .unset, .unset, .unset] [(.int p1)])) rfl (hb hby at_92) _ ?_
    show Steps p.tables e below (T28.setTop (mkF m 94 #[.val (.int p1), .val (.ref b2), .unset, .unset, .unset] [(.int (2147483647 : Int32)), (.int p1)])) _
    refine XS.iand X28.here hx rfl (hb hby at_94) rfl ?_
    show Steps p.tables e below (T28.setTop (mkF m 95 #[.val (.int p1), .val (.ref b2), .unset, .unset, .unset] [(.int (p1 &&& (2147483647 : Int32)))])) _
    refine XS.bipush X28.here hx rfl (hb hby at_95) ?_
    show Steps p.tables e below (T28.setTop (mkF m 97 #[.val (.int p1), .val (.ref b2), .unset, .unset, .unset] [(.int (13 : Int32)), (.int (p1 &&& (2147483647 : Int32)))])) _
    refine XS.irem X28.here hx rfl (hb hby at_97) rfl (by decide) ?_
    show Steps p.tables e below (T28.setTop (mkF m 98 #[.val (.int p1), .val (.ref b2), .unset, .unset, .unset] [(.int ((p1 &&& (2147483647 : Int32)) - ((p1 &&& (2147483647 : Int32)) / (13 : Int32)) * (13 : Int32)))])) _
    refine XS.istoreN X28.here hx rfl (hb hby at_98) rfl (l' := #[.val (.int p1), .val (.ref b2), .val (.int (t0_0 p1)), .unset, .unset]) rfl ?_
    show Steps p.tables e below (T28.setTop (mkF m 99 #[.val (.int p1), .val (.ref b2), .val (.int (t0_0 p1)), .unset, .unset] [])) _
    refine XS.aloadN X28.here hx rfl (hb hby at_99) rfl rfl ?_
    show Steps p.tables e below (T28.setTop (mkF m 100 #[.val (.int p1), .val (.ref b2), .val (.int (t0_0 p1)), .unset, .unset] [(.ref b2)])) _
    refine XS.iloadN X28.here hx rfl (hb hby at_100) rfl ?_
    show Steps p.tables e below (T28.setTop (mkF m 101 #[.val (.int p1), .val (.ref b2), .val (.int (t0_0 p1)), .unset, .unset] [(.int (t0_0 p1)), (.ref b2)])) _
    refine X28.aaload hx (j := (t0_0 p1)) (v := (.ref w101)) (by rw [e28]; exact Ar_b2_39.1) (State.isArrayOf_alike hZ.alike Ar_b2_39.2.1) rfl Ar_b2_39.2.2 hin_b2_39 hat_b2_39 (g := (mkF m 101 #[.val (.int p1), .val (.ref b2), .val (.int (t0_0 p1)), .unset, .unset] [(.int (t0_0 p1)), (.ref b2)])) rfl rfl (hb hby at_101) _ ?_
    show Steps p.tables e below (T28.setTop (mkF m 102 #[.val (.int p1), .val (.ref b2), .val (.int (t0_0 p1)), .unset, .unset] [(.ref w101)])) _
    refine XS.astoreN X28.here hx rfl (hb hby at_102) rfl rfl (l' := #[.val (.int p1), .val (.ref b2), .val (.int (t0_0 p1)), .val (.ref w101), .unset]) rfl ?_
    show Steps p.tables e below (T28.setTop (mkF m 103 #[.val (.int p1), .val (.ref b2), .val (.int (t0_0 p1)), .val (.ref w101), .unset] [])) _
    refine XS.iconst X28.here hx rfl (hb hby at_103) ?_
    show Steps p.tables e below (T28.setTop (mkF m 104 #[.val (.int p1), .val (.ref b2), .val (.int (t0_0 p1)), .val (.ref w101), .unset] [(.int (0 : Int32))])) _
    refine XS.istore X28.here hx rfl (hb hby at_104) rfl (l' := #[.val (.int p1), .val (.ref b2), .val (.int (t0_0 p1)), .val (.ref w101), .val (.int (0 : Int32))]) rfl ?_
    show Steps p.tables e below (T28.setTop (mkF m 106 #[.val (.int p1), .val (.ref b2), .val (.int (t0_0 p1)), .val (.ref w101), .val (.int (0 : Int32))] [])) _
    refine XS.iloadN X28.here hx rfl (hb hby at_106) rfl ?_
    show Steps p.tables e below (T28.setTop (mkF m 107 #[.val (.int p1), .val (.ref b2), .val (.int (t0_0 p1)), .val (.ref w101), .val (.int (0 : Int32))] [(.int (t0_0 p1))])) _
    refine XS.iconst X28.here hx rfl (hb hby at_107) ?_
    show Steps p.tables e below (T28.setTop (mkF m 108 #[.val (.int p1), .val (.ref b2), .val (.int (t0_0 p1)), .val (.ref w101), .val (.int (0 : Int32))] [(.int (5 : Int32)), (.int (t0_0 p1))])) _
    refine XS.icmpNo X28.here hx rfl (hb hby at_108) rfl (teq hc108).2 ?_
    show Steps p.tables e below (T28.setTop (mkF m 111 #[.val (.int p1), .val (.ref b2), .val (.int (t0_0 p1)), .val (.ref w101), .val (.int (0 : Int32))] [])) _
    refine XS.iconst X28.here hx rfl (hb hby at_111) ?_
    show Steps p.tables e below (T28.setTop (mkF m 112 #[.val (.int p1), .val (.ref b2), .val (.int (t0_0 p1)), .val (.ref w101), .val (.int (0 : Int32))] [(.int (1 : Int32))])) _
    refine XS.istore X28.here hx rfl (hb hby at_112) rfl (l' := #[.val (.int p1), .val (.ref b2), .val (.int (t0_0 p1)), .val (.ref w101), .val (.int (1 : Int32))]) rfl ?_
    show Steps p.tables e below (T28.setTop (mkF m 114 #[.val (.int p1), .val (.ref b2), .val (.int (t0_0 p1)), .val (.ref w101), .val (.int (1 : Int32))] [])) _
    refine XS.iloadN X28.here hx rfl (hb hby at_114) rfl ?_
    show Steps p.tables e below (T28.setTop (mkF m 115 #[.val (.int p1), .val (.ref b2), .val (.int (t0_0 p1)), .val (.ref w101), .val (.int (1 : Int32))] [(.int (t0_0 p1))])) _
    refine XS.bipush X28.here hx rfl (hb hby at_115) ?_
    show Steps p.tables e below (T28.setTop (mkF m 117 #[.val (.int p1), .val (.ref b2), .val (.int (t0_0 p1)), .val (.ref w101), .val (.int (1 : Int32))] [(.int (8 : Int32)), (.int (t0_0 p1))])) _
    refine XS.icmpYes X28.here hx rfl (pc0 := 117) (pc' := 123) rfl (hb hby at_117) rfl (feq hc117).2 (by decide) (by decide) ?_
    show Steps p.tables e below (T28.setTop (mkF m 123 #[.val (.int p1), .val (.ref b2), .val (.int (t0_0 p1)), .val (.ref w101), .val (.int (1 : Int32))] [])) _
    refine XS.aloadN X28.here hx rfl (hb hby at_123) rfl rfl ?_
    show Steps p.tables e below (T28.setTop (mkF m 124 #[.val (.int p1), .val (.ref b2), .val (.int (t0_0 p1)), .val (.ref w101), .val (.int (1 : Int32))] [(.ref w101)])) _
    refine st29.trans ?_
    show Steps p.tables e below (T29.setTop (mkF m 127 #[.val (.int p1), .val (.ref b2), .val (.int (t0_0 p1)), .val (.ref w101), .val (.int (1 : Int32))] [(.int (F1 w101 s_OTHERS s_WEAKNESS))])) _
    refine XS.iload X29.here hx rfl (hb hby at_127) rfl ?_
    show Steps p.tables e below (T29.setTop (mkF m 129 #[.val (.int p1), .val (.ref b2), .val (.int (t0_0 p1)), .val (.ref w101), .val (.int (1 : Int32))] [(.int (1 : Int32)), (.int (F1 w101 s_OTHERS s_WEAKNESS))])) _
    refine XS.icmpNo X29.here hx rfl (hb hby at_129) rfl (teq (show (F1 w101 s_OTHERS s_WEAKNESS) = (1 : Int32) from by rw [hrel]; first | rw [if_pos hc108] | rw [if_neg hc108, if_pos hc117] | rw [if_neg hc108, if_neg hc117])).2 ?_
    show Steps p.tables e below (T29.setTop (mkF m 132 #[.val (.int p1), .val (.ref b2), .val (.int (t0_0 p1)), .val (.ref w101), .val (.int (1 : Int32))] [])) _
    refine XS.iconst X29.here hx rfl (hb hby at_132) ?_
    show Steps p.tables e below (T29.setTop (mkF m 133 #[.val (.int p1), .val (.ref b2), .val (.int (t0_0 p1)), .val (.ref w101), .val (.int (1 : Int32))] [(.int (1 : Int32))])) _
    refine XS.goto X29.here hx rfl (pc0 := 133) (pc' := 137) rfl (hb hby at_133) (by decide) (by decide) ?_
    show Steps p.tables e below (T29.setTop (mkF m 137 #[.val (.int p1), .val (.ref b2), .val (.int (t0_0 p1)), .val (.ref w101), .val (.int (1 : Int32))] [(.int (1 : Int32))])) _
    exact retN X29 hx (t := .boolean) Bd.returns (by simp) (hb hby at_137) hr
  · show Q_rm0 Z p1 s_REACH_EARTH s_REACH_MARS s_DEAD_NEXT s_DEAD_PREVIOUS s_ALONE s_OTHERS s_SURVIVE_POD s_SURVIVE_HIBERNATED s_WEAKNESS s_NEST s_QUEEN s_BREEDER s_SIGNAL w101 h0 n0 _ T29.heap _
    exact ⟨rfl, N29⟩
set_option maxRecDepth 65536 in
set_option maxHeartbeats 40000000 in
theorem rm0_tf (l : Launch) (Z : State) (a0 : Array Value) (hw : ∀ d ∈ tables_1, d.before a0 Z = true) (ws : List Jvm.Cond) (p1 : Int32) (s_REACH_EARTH : Addr) (s_REACH_MARS : Addr) (s_DEAD_NEXT : Addr) (s_DEAD_PREVIOUS : Addr) (s_ALONE : Addr) (s_OTHERS : Addr) (s_SURVIVE_POD : Addr) (s_SURVIVE_HIBERNATED : Addr) (s_WEAKNESS : Addr) (s_NEST : Addr) (s_QUEEN : Addr) (s_BREEDER : Addr) (s_SIGNAL : Addr) (w101 : Addr) (h0 : Heap) (n0 : Nat) (Z0 : n0 ≤ h0.size) (hrel : (F1 w101 s_OTHERS s_WEAKNESS) = if (t0_0 p1) = (5 : Int32) then (1 : Int32) else if (t0_0 p1) = (8 : Int32) then (1 : Int32) else (0 : Int32)) (S_REACH_EARTH : Sta Z h0 "com/example/coldsleep/coldsleep/game/Aim" "REACH_EARTH" "Lcom/example/coldsleep/coldsleep/game/Aim;" (.ref s_REACH_EARTH)) (E_s_REACH_EARTH : Exa Z h0 s_REACH_EARTH "com/example/coldsleep/coldsleep/game/Aim") (S_REACH_MARS : Sta Z h0 "com/example/coldsleep/coldsleep/game/Aim" "REACH_MARS" "Lcom/example/coldsleep/coldsleep/game/Aim;" (.ref s_REACH_MARS)) (E_s_REACH_MARS : Exa Z h0 s_REACH_MARS "com/example/coldsleep/coldsleep/game/Aim") (S_DEAD_NEXT : Sta Z h0 "com/example/coldsleep/coldsleep/game/Aim" "DEAD_NEXT" "Lcom/example/coldsleep/coldsleep/game/Aim;" (.ref s_DEAD_NEXT)) (E_s_DEAD_NEXT : Exa Z h0 s_DEAD_NEXT "com/example/coldsleep/coldsleep/game/Aim") (S_DEAD_PREVIOUS : Sta Z h0 "com/example/coldsleep/coldsleep/game/Aim" "DEAD_PREVIOUS" "Lcom/example/coldsleep/coldsleep/game/Aim;" (.ref s_DEAD_PREVIOUS)) (E_s_DEAD_PREVIOUS : Exa Z h0 s_DEAD_PREVIOUS "com/example/coldsleep/coldsleep/game/Aim") (S_ALONE : Sta Z h0 "com/example/coldsleep/coldsleep/game/Aim" "ALONE" "Lcom/example/coldsleep/coldsleep/game/Aim;" (.ref s_ALONE)) (E_s_ALONE : Exa Z h0 s_ALONE "com/example/coldsleep/coldsleep/game/Aim") (S_OTHERS : Sta Z h0 "com/example/coldsleep/coldsleep/game/Aim" "OTHERS" "Lcom/example/coldsleep/coldsleep/game/Aim;" (.ref s_OTHERS)) (E_s_OTHERS : Exa Z h0 s_OTHERS "com/example/coldsleep/coldsleep/game/Aim") (S_SURVIVE_POD : Sta Z h0 "com/example/coldsleep/coldsleep/game/Aim" "SURVIVE_POD" "Lcom/example/coldsleep/coldsleep/game/Aim;" (.ref s_SURVIVE_POD)) (E_s_SURVIVE_POD : Exa Z h0 s_SURVIVE_POD "com/example/coldsleep/coldsleep/game/Aim") (S_SURVIVE_HIBERNATED : Sta Z h0 "com/example/coldsleep/coldsleep/game/Aim" "SURVIVE_HIBERNATED" "Lcom/example/coldsleep/coldsleep/game/Aim;" (.ref s_SURVIVE_HIBERNATED)) (E_s_SURVIVE_HIBERNATED : Exa Z h0 s_SURVIVE_HIBERNATED "com/example/coldsleep/coldsleep/game/Aim") (S_WEAKNESS : Sta Z h0 "com/example/coldsleep/coldsleep/game/Aim" "WEAKNESS" "Lcom/example/coldsleep/coldsleep/game/Aim;" (.ref s_WEAKNESS)) (E_s_WEAKNESS : Exa Z h0 s_WEAKNESS "com/example/coldsleep/coldsleep/game/Aim") (S_NEST : Sta Z h0 "com/example/coldsleep/coldsleep/game/Aim" "NEST" "Lcom/example/coldsleep/coldsleep/game/Aim;" (.ref s_NEST)) (E_s_NEST : Exa Z h0 s_NEST "com/example/coldsleep/coldsleep/game/Aim") (S_QUEEN : Sta Z h0 "com/example/coldsleep/coldsleep/game/Aim" "QUEEN" "Lcom/example/coldsleep/coldsleep/game/Aim;" (.ref s_QUEEN)) (E_s_QUEEN : Exa Z h0 s_QUEEN "com/example/coldsleep/coldsleep/game/Aim") (S_BREEDER : Sta Z h0 "com/example/coldsleep/coldsleep/game/Aim" "BREEDER" "Lcom/example/coldsleep/coldsleep/game/Aim;" (.ref s_BREEDER)) (E_s_BREEDER : Exa Z h0 s_BREEDER "com/example/coldsleep/coldsleep/game/Aim") (S_SIGNAL : Sta Z h0 "com/example/coldsleep/coldsleep/game/Aim" "SIGNAL" "Lcom/example/coldsleep/coldsleep/game/Aim;" (.ref s_SIGNAL)) (E_s_SIGNAL : Exa Z h0 s_SIGNAL "com/example/coldsleep/coldsleep/game/Aim") (E_w101 : Exa Z h0 w101 "com/example/coldsleep/coldsleep/game/Aim") (hi101 : ¬ (t0_0 p1) < 0 ∧ (t0_0 p1) < (13 : Int32)) (hs101 : (([(.ref s_REACH_EARTH), (.ref s_REACH_MARS), (.ref s_DEAD_NEXT), (.ref s_DEAD_PREVIOUS), (.ref s_ALONE), (.ref s_OTHERS), (.ref s_SURVIVE_POD), (.ref s_SURVIVE_HIBERNATED), (.ref s_WEAKNESS), (.ref s_NEST), (.ref s_QUEEN), (.ref s_BREEDER), (.ref s_SIGNAL)] : List Value)).getD ((t0_0 p1)).toNatClampNeg .null = (.ref w101)) (hc108 : ¬ ((t0_0 p1) = (5 : Int32))) (hc117 : (t0_0 p1) = (8 : Int32)) :
    MetFree l x (head1 (Jvm.Cond.code x code maxLocals ret :: ws) room_1) (fun a U => a = #[(.int p1)] ∧ Z.Warmed39 U.vm ∧ U.heap = h0) (fun _ _ _ _ _ => True) (fun _ U o U' => ∃ v L, o = .returned v ∧ Q_rm0 Z p1 s_REACH_EARTH s_REACH_MARS s_DEAD_NEXT s_DEAD_PREVIOUS s_ALONE s_OTHERS s_SURVIVE_POD s_SURVIVE_HIBERNATED s_WEAKNESS s_NEST s_QUEEN s_BREEDER s_SIGNAL w101 h0 n0 v U'.heap L ∧ FrameEnd U o U' L room_1.cells room_1.slots) := by
  refine MetFree.of_bodySF (plainFor_of_name pn_0) hisR ?_
  intro p e s m args below meth c s₁ Bd hml0 hP hK
  obtain ⟨rfl, hZ, hh⟩ := hP
  have hx := Bd.exec
  have hby := Bd.bytes
  have hml : c.maxLocals = 5 := hml0
  have hown : s.vm.findClass "com/example/coldsleep/coldsleep/game/AimCountsPinLaw" = some m.cls := findClass_of_methodNamed Bd.named
  have hnm := (name_of_methodNamed Bd.named Bd.method).1
  have X0 : Stand p l e room_1 s m #[(.int p1)] below meth c s₁ [] 0 0 := Stand.of_body Bd
  have e0 : s₁.heap = h0 := by rw [← hh, Bd.state]; rfl
  have N0 := Fr.nil n0
  have pre0 : ∀ t, Steps p.tables e below (s₁.setTop (mkF m 0 #[.val (.int p1), .unset, .unset, .unset, .unset] [])) t → Steps p.tables e below (s₁.setTop (entryFrame m #[(.int p1)] maxLocals)) t := fun t k => castTop (ef_0 m p1) k
  obtain ⟨T2, h2, k2, X2, e2, E2, A2, O2, st2⟩ := newR X0 hx hZ hown (hw _ (List.mem_of_getElem? (i := 0) rfl)) (hw _ (List.mem_of_getElem? (i := 1) rfl)) e0 (g := (mkF m 2 #[.val (.int p1), .unset, .unset, .unset, .unset] [(.int (13 : Int32))])) rfl (hb hby at_2) rfl (by decide) (cap := 13) (by decide) (by decide) (by decide) (by decide)
  obtain ⟨b2, g2⟩ : ∃ z, z = h0.size := ⟨_, rfl⟩
  rw [← g2] at A2 st2
  have g_b2 : n0 ≤ b2 := Nat.le_trans Z0 (Nat.le_of_eq g2.symm)
  have sz_b2 : h0.size ≤ b2 := Nat.le_trans (Nat.le_refl h0.size) (Nat.le_of_eq g2.symm)
  have V_b2 : Arv Z h2 b2 k2 (.object "com/example/coldsleep/coldsleep/game/Aim") (13 : Int32) (List.replicate 13 .null) .null := (Arv.new A2 (by decide)).pad (pad_rep [] .null 13)
  have f0 := (S_REACH_EARTH.ext E2)
  obtain ⟨T3, X3, e3, st3⟩ := getS2 X2 hx hZ hown (host := "") (Or.inl (hw _ (List.mem_of_getElem? (i := 2) rfl))) Via.refl e2 f0 (g := (mkF m 7 #[.val (.int p1), .unset, .unset, .unset, .unset] [(.int (0 : Int32)), (.ref b2), (.ref b2)])) rfl (hb hby at_7)
  have f1 := (E_s_REACH_EARTH.ext E2)
  obtain ⟨cl_b2_2, Ar_b2_2, q_b2_2, Sz_b2_2, Ng_b2_2, Ha_b2_2, Gt_b2_2⟩ := id V_b2
  have hin_b2_2 : ¬ ((0 : Int32) < 0 ∨ cl_b2_2.slots.size ≤ ((0 : Int32)).toNatClampNeg) := inb_of Sz_b2_2 ⟨by decide, by decide⟩
  obtain ⟨T4, h4, X4, e4, W4, st4⟩ := stR X3 hx hZ e3 Ar_b2_2 (j := (0 : Int32)) hin_b2_2 rfl (Sto.ofV Ar_b2_2 q_b2_2 O2 (Ins.self f1)) (g := (mkF m 10 #[.val (.int p1), .unset, .unset, .unset, .unset] [(.ref s_REACH_EARTH), (.int (0 : Int32)), (.ref b2), (.ref b2)])) rfl rfl (hb hby at_10)
  have V4 : Arv Z h4 b2 k2 (.object "com/example/coldsleep/coldsleep/game/Aim") (13 : Int32) [(.ref s_REACH_EARTH), .null, .null, .null, .null, .null, .null, .null, .null, .null, .null, .null, .null] .null := Arv.set Ar_b2_2 q_b2_2 Sz_b2_2 Ng_b2_2 Ha_b2_2 Gt_b2_2 rfl W4 0 rfl (Nat.le_of_ble_eq_true rfl)
  have N4 := Fr.snoc X4 N0 g_b2
  have f3 := ((S_REACH_MARS.ext E2).wr W4)
  obtain ⟨T5, X5, e5, st5⟩ := getS2 X4 hx hZ hown (host := "") (Or.inl (hw _ (List.mem_of_getElem? (i := 6) rfl))) Via.refl e4 f3 (g := (mkF m 13 #[.val (.int p1), .unset, .unset, .unset, .unset] [(.int (1 : Int32)), (.ref b2), (.ref b2)])) rfl (hb hby at_13)
  have f4 := ((E_s_REACH_MARS.ext E2).wr W4)
  obtain ⟨cl_b2_5, Ar_b2_5, q_b2_5, Sz_b2_5, Ng_b2_5, Ha_b2_5, Gt_b2_5⟩ := id V4
  have hin_b2_5 : ¬ ((1 : Int32) < 0 ∨ cl_b2_5.slots.size ≤ ((1 : Int32)).toNatClampNeg) := inb_of Sz_b2_5 ⟨by decide, by decide⟩
  obtain ⟨T6, h6, X6, e6, W6, st6⟩ := stR X5 hx hZ e5 Ar_b2_5 (j := (1 : Int32)) hin_b2_5 rfl (Sto.ofV Ar_b2_5 q_b2_5 O2 (Ins.self f4)) (g := (mkF m 16 #[.val (.int p1), .unset, .unset, .unset, .unset] [(.ref s_REACH_MARS), (.int (1 : Int32)), (.ref b2), (.ref b2)])) rfl rfl (hb hby at_16)
  have V6 : Arv Z h6 b2 k2 (.object "com/example/coldsleep/coldsleep/game/Aim") (13 : Int32) [(.ref s_REACH_EARTH), (.ref s_REACH_MARS), .null, .null, .null, .null, .null, .null, .null, .null, .null, .null, .null] .null := Arv.set Ar_b2_5 q_b2_5 Sz_b2_5 Ng_b2_5 Ha_b2_5 Gt_b2_5 rfl W6 1 rfl (Nat.le_of_ble_eq_true rfl)
  have N6 := Fr.snoc X6 N4 g_b2
  have f6 := (((S_DEAD_NEXT.ext E2).wr W4).wr W6)
  obtain ⟨T7, X7, e7, st7⟩ := getS2 X6 hx hZ hown (host := "") (Or.inl (hw _ (List.mem_of_getElem? (i := 8) rfl))) Via.refl e6 f6 (g := (mkF m 19 #[.val (.int p1), .unset, .unset, .unset, .unset] [(.int (2 : Int32)), (.ref b2), (.ref b2)])) rfl (hb hby at_19)
  have f7 := (((E_s_DEAD_NEXT.ext E2).wr W4).wr W6)
  obtain ⟨cl_b2_8, Ar_b2_8, q_b2_8, Sz_b2_8, Ng_b2_8, Ha_b2_8, Gt_b2_8⟩ := id V6
  have hin_b2_8 : ¬ ((2 : Int32) < 0 ∨ cl_b2_8.slots.size ≤ ((2 : Int32)).toNatClampNeg) := inb_of Sz_b2_8 ⟨by decide, by decide⟩
  obtain ⟨T8, h8, X8, e8, W8, st8⟩ := stR X7 hx hZ e7 Ar_b2_8 (j := (2 : Int32)) hin_b2_8 rfl (Sto.ofV Ar_b2_8 q_b2_8 O2 (Ins.self f7)) (g := (mkF m 22 #[.val (.int p1), .unset, .unset, .unset, .unset] [(.ref s_DEAD_NEXT), (.int (2 : Int32)), (.ref b2), (.ref b2)])) rfl rfl (hb hby at_22)
  have V8 : Arv Z h8 b2 k2 (.object "com/example/coldsleep/coldsleep/game/Aim") (13 : Int32) [(.ref s_REACH_EARTH), (.ref s_REACH_MARS), (.ref s_DEAD_NEXT), .null, .null, .null, .null, .null, .null, .null, .null, .null, .null] .null := Arv.set Ar_b2_8 q_b2_8 Sz_b2_8 Ng_b2_8 Ha_b2_8 Gt_b2_8 rfl W8 2 rfl (Nat.le_of_ble_eq_true rfl)
  have N8 := Fr.snoc X8 N6 g_b2
  have f9 := ((((S_DEAD_PREVIOUS.ext E2).wr W4).wr W6).wr W8)
  obtain ⟨T9, X9, e9, st9⟩ := getS2 X8 hx hZ hown (host := "") (Or.inl (hw _ (List.mem_of_getElem? (i := 10) rfl))) Via.refl e8 f9 (g := (mkF m 25 #[.val (.int p1), .unset, .unset, .unset, .unset] [(.int (3 : Int32)), (.ref b2), (.ref b2)])) rfl (hb hby at_25)
  have f10 := ((((E_s_DEAD_PREVIOUS.ext E2).wr W4).wr W6).wr W8)
  obtain ⟨cl_b2_11, Ar_b2_11, q_b2_11, Sz_b2_11, Ng_b2_11, Ha_b2_11, Gt_b2_11⟩ := id V8
  have hin_b2_11 : ¬ ((3 : Int32) < 0 ∨ cl_b2_11.slots.size ≤ ((3 : Int32)).toNatClampNeg) := inb_of Sz_b2_11 ⟨by decide, by decide⟩
  obtain ⟨T10, h10, X10, e10, W10, st10⟩ := stR X9 hx hZ e9 Ar_b2_11 (j := (3 : Int32)) hin_b2_11 rfl (Sto.ofV Ar_b2_11 q_b2_11 O2 (Ins.self f10)) (g := (mkF m 28 #[.val (.int p1), .unset, .unset, .unset, .unset] [(.ref s_DEAD_PREVIOUS), (.int (3 : Int32)), (.ref b2), (.ref b2)])) rfl rfl (hb hby at_28)
  have V10 : Arv Z h10 b2 k2 (.object "com/example/coldsleep/coldsleep/game/Aim") (13 : Int32) [(.ref s_REACH_EARTH), (.ref s_REACH_MARS), (.ref s_DEAD_NEXT), (.ref s_DEAD_PREVIOUS), .null, .null, .null, .null, .null, .null, .null, .null, .null] .null := Arv.set Ar_b2_11 q_b2_11 Sz_b2_11 Ng_b2_11 Ha_b2_11 Gt_b2_11 rfl W10 3 rfl (Nat.le_of_ble_eq_true rfl)
  have N10 := Fr.snoc X10 N8 g_b2
  have f12 := (((((S_ALONE.ext E2).wr W4).wr W6).wr W8).wr W10)
  obtain ⟨T11, X11, e11, st11⟩ := getS2 X10 hx hZ hown (host := "") (Or.inl (hw _ (List.mem_of_getElem? (i := 12) rfl))) Via.refl e10 f12 (g := (mkF m 31 #[.val (.int p1), .unset, .unset, .unset, .unset] [(.int (4 : Int32)), (.ref b2), (.ref b2)])) rfl (hb hby at_31)
  have f13 := (((((E_s_ALONE.ext E2).wr W4).wr W6).wr W8).wr W10)
  obtain ⟨cl_b2_14, Ar_b2_14, q_b2_14, Sz_b2_14, Ng_b2_14, Ha_b2_14, Gt_b2_14⟩ := id V10
  have hin_b2_14 : ¬ ((4 : Int32) < 0 ∨ cl_b2_14.slots.size ≤ ((4 : Int32)).toNatClampNeg) := inb_of Sz_b2_14 ⟨by decide, by decide⟩
  obtain ⟨T12, h12, X12, e12, W12, st12⟩ := stR X11 hx hZ e11 Ar_b2_14 (j := (4 : Int32)) hin_b2_14 rfl (Sto.ofV Ar_b2_14 q_b2_14 O2 (Ins.self f13)) (g := (mkF m 34 #[.val (.int p1), .unset, .unset, .unset, .unset] [(.ref s_ALONE), (.int (4 : Int32)), (.ref b2), (.ref b2)])) rfl rfl (hb hby at_34)
  have V12 : Arv Z h12 b2 k2 (.object "com/example/coldsleep/coldsleep/game/Aim") (13 : Int32) [(.ref s_REACH_EARTH), (.ref s_REACH_MARS), (.ref s_DEAD_NEXT), (.ref s_DEAD_PREVIOUS), (.ref s_ALONE), .null, .null, .null, .null, .null, .null, .null, .null] .null := Arv.set Ar_b2_14 q_b2_14 Sz_b2_14 Ng_b2_14 Ha_b2_14 Gt_b2_14 rfl W12 4 rfl (Nat.le_of_ble_eq_true rfl)
  have N12 := Fr.snoc X12 N10 g_b2
  have f15 := ((((((S_OTHERS.ext E2).wr W4).wr W6).wr W8).wr W10).wr W12)
  obtain ⟨T13, X13, e13, st13⟩ := getS2 X12 hx hZ hown (host := "") (Or.inl (hw _ (List.mem_of_getElem? (i := 14) rfl))) Via.refl e12 f15 (g := (mkF m 37 #[.val (.int p1), .unset, .unset, .unset, .unset] [(.int (5 : Int32)), (.ref b2), (.ref b2)])) rfl (hb hby at_37)
  have f16 := ((((((E_s_OTHERS.ext E2).wr W4).wr W6).wr W8).wr W10).wr W12)
  obtain ⟨cl_b2_17, Ar_b2_17, q_b2_17, Sz_b2_17, Ng_b2_17, Ha_b2_17, Gt_b2_17⟩ := id V12
  have hin_b2_17 : ¬ ((5 : Int32) < 0 ∨ cl_b2_17.slots.size ≤ ((5 : Int32)).toNatClampNeg) := inb_of Sz_b2_17 ⟨by decide, by decide⟩
  obtain ⟨T14, h14, X14, e14, W14, st14⟩ := stR X13 hx hZ e13 Ar_b2_17 (j := (5 : Int32)) hin_b2_17 rfl (Sto.ofV Ar_b2_17 q_b2_17 O2 (Ins.self f16)) (g := (mkF m 40 #[.val (.int p1), .unset, .unset, .unset, .unset] [(.ref s_OTHERS), (.int (5 : Int32)), (.ref b2), (.ref b2)])) rfl rfl (hb hby at_40)
  have V14 : Arv Z h14 b2 k2 (.object "com/example/coldsleep/coldsleep/game/Aim") (13 : Int32) [(.ref s_REACH_EARTH), (.ref s_REACH_MARS), (.ref s_DEAD_NEXT), (.ref s_DEAD_PREVIOUS), (.ref s_ALONE), (.ref s_OTHERS), .null, .null, .null, .null, .null, .null, .null] .null := Arv.set Ar_b2_17 q_b2_17 Sz_b2_17 Ng_b2_17 Ha_b2_17 Gt_b2_17 rfl W14 5 rfl (Nat.le_of_ble_eq_true rfl)
  have N14 := Fr.snoc X14 N12 g_b2
  have f18 := (((((((S_SURVIVE_POD.ext E2).wr W4).wr W6).wr W8).wr W10).wr W12).wr W14)
  obtain ⟨T15, X15, e15, st15⟩ := getS2 X14 hx hZ hown (host := "") (Or.inl (hw _ (List.mem_of_getElem? (i := 16) rfl))) Via.refl e14 f18 (g := (mkF m 44 #[.val (.int p1), .unset, .unset, .unset, .unset] [(.int (6 : Int32)), (.ref b2), (.ref b2)])) rfl (hb hby at_44)
  have f19 := (((((((E_s_SURVIVE_POD.ext E2).wr W4).wr W6).wr W8).wr W10).wr W12).wr W14)
  obtain ⟨cl_b2_20, Ar_b2_20, q_b2_20, Sz_b2_20, Ng_b2_20, Ha_b2_20, Gt_b2_20⟩ := id V14
  have hin_b2_20 : ¬ ((6 : Int32) < 0 ∨ cl_b2_20.slots.size ≤ ((6 : Int32)).toNatClampNeg) := inb_of Sz_b2_20 ⟨by decide, by decide⟩
  obtain ⟨T16, h16, X16, e16, W16, st16⟩ := stR X15 hx hZ e15 Ar_b2_20 (j := (6 : Int32)) hin_b2_20 rfl (Sto.ofV Ar_b2_20 q_b2_20 O2 (Ins.self f19)) (g := (mkF m 47 #[.val (.int p1), .unset, .unset, .unset, .unset] [(.ref s_SURVIVE_POD), (.int (6 : Int32)), (.ref b2), (.ref b2)])) rfl rfl (hb hby at_47)
  have V16 : Arv Z h16 b2 k2 (.object "com/example/coldsleep/coldsleep/game/Aim") (13 : Int32) [(.ref s_REACH_EARTH), (.ref s_REACH_MARS), (.ref s_DEAD_NEXT), (.ref s_DEAD_PREVIOUS), (.ref s_ALONE), (.ref s_OTHERS), (.ref s_SURVIVE_POD), .null, .null, .null, .null, .null, .null] .null := Arv.set Ar_b2_20 q_b2_20 Sz_b2_20 Ng_b2_20 Ha_b2_20 Gt_b2_20 rfl W16 6 rfl (Nat.le_of_ble_eq_true rfl)
  have N16 := Fr.snoc X16 N14 g_b2
  have f21 := ((((((((S_SURVIVE_HIBERNATED.ext E2).wr W4).wr W6).wr W8).wr W10).wr W12).wr W14).wr W16)
  obtain ⟨T17, X17, e17, st17⟩ := getS2 X16 hx hZ hown (host := "") (Or.inl (hw _ (List.mem_of_getElem? (i := 18) rfl))) Via.refl e16 f21 (g := (mkF m 51 #[.val (.int p1), .unset, .unset, .unset, .unset] [(.int (7 : Int32)), (.ref b2), (.ref b2)])) rfl (hb hby at_51)
  have f22 := ((((((((E_s_SURVIVE_HIBERNATED.ext E2).wr W4).wr W6).wr W8).wr W10).wr W12).wr W14).wr W16)
  obtain ⟨cl_b2_23, Ar_b2_23, q_b2_23, Sz_b2_23, Ng_b2_23, Ha_b2_23, Gt_b2_23⟩ := id V16
  have hin_b2_23 : ¬ ((7 : Int32) < 0 ∨ cl_b2_23.slots.size ≤ ((7 : Int32)).toNatClampNeg) := inb_of Sz_b2_23 ⟨by decide, by decide⟩
  obtain ⟨T18, h18, X18, e18, W18, st18⟩ := stR X17 hx hZ e17 Ar_b2_23 (j := (7 : Int32)) hin_b2_23 rfl (Sto.ofV Ar_b2_23 q_b2_23 O2 (Ins.self f22)) (g := (mkF m 54 #[.val (.int p1), .unset, .unset, .unset, .unset] [(.ref s_SURVIVE_HIBERNATED), (.int (7 : Int32)), (.ref b2), (.ref b2)])) rfl rfl (hb hby at_54)
  have V18 : Arv Z h18 b2 k2 (.object "com/example/coldsleep/coldsleep/game/Aim") (13 : Int32) [(.ref s_REACH_EARTH), (.ref s_REACH_MARS), (.ref s_DEAD_NEXT), (.ref s_DEAD_PREVIOUS), (.ref s_ALONE), (.ref s_OTHERS), (.ref s_SURVIVE_POD), (.ref s_SURVIVE_HIBERNATED), .null, .null, .null, .null, .null] .null := Arv.set Ar_b2_23 q_b2_23 Sz_b2_23 Ng_b2_23 Ha_b2_23 Gt_b2_23 rfl W18 7 rfl (Nat.le_of_ble_eq_true rfl)
  have N18 := Fr.snoc X18 N16 g_b2
  have f24 := (((((((((S_WEAKNESS.ext E2).wr W4).wr W6).wr W8).wr W10).wr W12).wr W14).wr W16).wr W18)
  obtain ⟨T19, X19, e19, st19⟩ := getS2 X18 hx hZ hown (host := "") (Or.inl (hw _ (List.mem_of_getElem? (i := 20) rfl))) Via.refl e18 f24 (g := (mkF m 58 #[.val (.int p1), .unset, .unset, .unset, .unset] [(.int (8 : Int32)), (.ref b2), (.ref b2)])) rfl (hb hby at_58)
  have f25 := (((((((((E_s_WEAKNESS.ext E2).wr W4).wr W6).wr W8).wr W10).wr W12).wr W14).wr W16).wr W18)
  obtain ⟨cl_b2_26, Ar_b2_26, q_b2_26, Sz_b2_26, Ng_b2_26, Ha_b2_26, Gt_b2_26⟩ := id V18
  have hin_b2_26 : ¬ ((8 : Int32) < 0 ∨ cl_b2_26.slots.size ≤ ((8 : Int32)).toNatClampNeg) := inb_of Sz_b2_26 ⟨by decide, by decide⟩
  obtain ⟨T20, h20, X20, e20, W20, st20⟩ := stR X19 hx hZ e19 Ar_b2_26 (j := (8 : Int32)) hin_b2_26 rfl (Sto.ofV Ar_b2_26 q_b2_26 O2 (Ins.self f25)) (g := (mkF m 61 #[.val (.int p1), .unset, .unset, .unset, .unset] [(.ref s_WEAKNESS), (.int (8 : Int32)), (.ref b2), (.ref b2)])) rfl rfl (hb hby at_61)
  have V20 : Arv Z h20 b2 k2 (.object "com/example/coldsleep/coldsleep/game/Aim") (13 : Int32) [(.ref s_REACH_EARTH), (.ref s_REACH_MARS), (.ref s_DEAD_NEXT), (.ref s_DEAD_PREVIOUS), (.ref s_ALONE), (.ref s_OTHERS), (.ref s_SURVIVE_POD), (.ref s_SURVIVE_HIBERNATED), (.ref s_WEAKNESS), .null, .null, .null, .null] .null := Arv.set Ar_b2_26 q_b2_26 Sz_b2_26 Ng_b2_26 Ha_b2_26 Gt_b2_26 rfl W20 8 rfl (Nat.le_of_ble_eq_true rfl)
  have N20 := Fr.snoc X20 N18 g_b2
  have f27 := ((((((((((S_NEST.ext E2).wr W4).wr W6).wr W8).wr W10).wr W12).wr W14).wr W16).wr W18).wr W20)
  obtain ⟨T21, X21, e21, st21⟩ := getS2 X20 hx hZ hown (host := "") (Or.inl (hw _ (List.mem_of_getElem? (i := 22) rfl))) Via.refl e20 f27 (g := (mkF m 65 #[.val (.int p1), .unset, .unset, .unset, .unset] [(.int (9 : Int32)), (.ref b2), (.ref b2)])) rfl (hb hby at_65)
  have f28 := ((((((((((E_s_NEST.ext E2).wr W4).wr W6).wr W8).wr W10).wr W12).wr W14).wr W16).wr W18).wr W20)
  obtain ⟨cl_b2_29, Ar_b2_29, q_b2_29, Sz_b2_29, Ng_b2_29, Ha_b2_29, Gt_b2_29⟩ := id V20
  have hin_b2_29 : ¬ ((9 : Int32) < 0 ∨ cl_b2_29.slots.size ≤ ((9 : Int32)).toNatClampNeg) := inb_of Sz_b2_29 ⟨by decide, by decide⟩
  obtain ⟨T22, h22, X22, e22, W22, st22⟩ := stR X21 hx hZ e21 Ar_b2_29 (j := (9 : Int32)) hin_b2_29 rfl (Sto.ofV Ar_b2_29 q_b2_29 O2 (Ins.self f28)) (g := (mkF m 68 #[.val (.int p1), .unset, .unset, .unset, .unset] [(.ref s_NEST), (.int (9 : Int32)), (.ref b2), (.ref b2)])) rfl rfl (hb hby at_68)
  have V22 : Arv Z h22 b2 k2 (.object "com/example/coldsleep/coldsleep/game/Aim") (13 : Int32) [(.ref s_REACH_EARTH), (.ref s_REACH_MARS), (.ref s_DEAD_NEXT), (.ref s_DEAD_PREVIOUS), (.ref s_ALONE), (.ref s_OTHERS), (.ref s_SURVIVE_POD), (.ref s_SURVIVE_HIBERNATED), (.ref s_WEAKNESS), (.ref s_NEST), .null, .null, .null] .null := Arv.set Ar_b2_29 q_b2_29 Sz_b2_29 Ng_b2_29 Ha_b2_29 Gt_b2_29 rfl W22 9 rfl (Nat.le_of_ble_eq_true rfl)
  have N22 := Fr.snoc X22 N20 g_b2
  have f30 := (((((((((((S_QUEEN.ext E2).wr W4).wr W6).wr W8).wr W10).wr W12).wr W14).wr W16).wr W18).wr W20).wr W22)
  obtain ⟨T23, X23, e23, st23⟩ := getS2 X22 hx hZ hown (host := "") (Or.inl (hw _ (List.mem_of_getElem? (i := 24) rfl))) Via.refl e22 f30 (g := (mkF m 72 #[.val (.int p1), .unset, .unset, .unset, .unset] [(.int (10 : Int32)), (.ref b2), (.ref b2)])) rfl (hb hby at_72)
  have f31 := (((((((((((E_s_QUEEN.ext E2).wr W4).wr W6).wr W8).wr W10).wr W12).wr W14).wr W16).wr W18).wr W20).wr W22)
  obtain ⟨cl_b2_32, Ar_b2_32, q_b2_32, Sz_b2_32, Ng_b2_32, Ha_b2_32, Gt_b2_32⟩ := id V22
  have hin_b2_32 : ¬ ((10 : Int32) < 0 ∨ cl_b2_32.slots.size ≤ ((10 : Int32)).toNatClampNeg) := inb_of Sz_b2_32 ⟨by decide, by decide⟩
  obtain ⟨T24, h24, X24, e24, W24, st24⟩ := stR X23 hx hZ e23 Ar_b2_32 (j := (10 : Int32)) hin_b2_32 rfl (Sto.ofV Ar_b2_32 q_b2_32 O2 (Ins.self f31)) (g := (mkF m 75 #[.val (.int p1), .unset, .unset, .unset, .unset] [(.ref s_QUEEN), (.int (10 : Int32)), (.ref b2), (.ref b2)])) rfl rfl (hb hby at_75)
  have V24 : Arv Z h24 b2 k2 (.object "com/example/coldsleep/coldsleep/game/Aim") (13 : Int32) [(.ref s_REACH_EARTH), (.ref s_REACH_MARS), (.ref s_DEAD_NEXT), (.ref s_DEAD_PREVIOUS), (.ref s_ALONE), (.ref s_OTHERS), (.ref s_SURVIVE_POD), (.ref s_SURVIVE_HIBERNATED), (.ref s_WEAKNESS), (.ref s_NEST), (.ref s_QUEEN), .null, .null] .null := Arv.set Ar_b2_32 q_b2_32 Sz_b2_32 Ng_b2_32 Ha_b2_32 Gt_b2_32 rfl W24 10 rfl (Nat.le_of_ble_eq_true rfl)
  have N24 := Fr.snoc X24 N22 g_b2
  have f33 := ((((((((((((S_BREEDER.ext E2).wr W4).wr W6).wr W8).wr W10).wr W12).wr W14).wr W16).wr W18).wr W20).wr W22).wr W24)
  obtain ⟨T25, X25, e25, st25⟩ := getS2 X24 hx hZ hown (host := "") (Or.inl (hw _ (List.mem_of_getElem? (i := 26) rfl))) Via.refl e24 f33 (g := (mkF m 79 #[.val (.int p1), .unset, .unset, .unset, .unset] [(.int (11 : Int32)), (.ref b2), (.ref b2)])) rfl (hb hby at_79)
  have f34 := ((((((((((((E_s_BREEDER.ext E2).wr W4).wr W6).wr W8).wr W10).wr W12).wr W14).wr W16).wr W18).wr W20).wr W22).wr W24)
  obtain ⟨cl_b2_35, Ar_b2_35, q_b2_35, Sz_b2_35, Ng_b2_35, Ha_b2_35, Gt_b2_35⟩ := id V24
  have hin_b2_35 : ¬ ((11 : Int32) < 0 ∨ cl_b2_35.slots.size ≤ ((11 : Int32)).toNatClampNeg) := inb_of Sz_b2_35 ⟨by decide, by decide⟩
  obtain ⟨T26, h26, X26, e26, W26, st26⟩ := stR X25 hx hZ e25 Ar_b2_35 (j := (11 : Int32)) hin_b2_35 rfl (Sto.ofV Ar_b2_35 q_b2_35 O2 (Ins.self f34)) (g := (mkF m 82 #[.val (.int p1), .unset, .unset, .unset, .unset] [(.ref s_BREEDER), (.int (11 : Int32)), (.ref b2), (.ref b2)])) rfl rfl (hb hby at_82)
  have V26 : Arv Z h26 b2 k2 (.object "com/example/coldsleep/coldsleep/game/Aim") (13 : Int32) [(.ref s_REACH_EARTH), (.ref s_REACH_MARS), (.ref s_DEAD_NEXT), (.ref s_DEAD_PREVIOUS), (.ref s_ALONE), (.ref s_OTHERS), (.ref s_SURVIVE_POD), (.ref s_SURVIVE_HIBERNATED), (.ref s_WEAKNESS), (.ref s_NEST), (.ref s_QUEEN), (.ref s_BREEDER), .null] .null := Arv.set Ar_b2_35 q_b2_35 Sz_b2_35 Ng_b2_35 Ha_b2_35 Gt_b2_35 rfl W26 11 rfl (Nat.le_of_ble_eq_true rfl)
  have N26 := Fr.snoc X26 N24 g_b2
  have f36 := (((((((((((((S_SIGNAL.ext E2).wr W4).wr W6).wr W8).wr W10).wr W12).wr W14).wr W16).wr W18).wr W20).wr W22).wr W24).wr W26)
  obtain ⟨T27, X27, e27, st27⟩ := getS2 X26 hx hZ hown (host := "") (Or.inl (hw _ (List.mem_of_getElem? (i := 28) rfl))) Via.refl e26 f36 (g := (mkF m 86 #[.val (.int p1), .unset, .unset, .unset, .unset] [(.int (12 : Int32)), (.ref b2), (.ref b2)])) rfl (hb hby at_86)
  have f37 := (((((((((((((E_s_SIGNAL.ext E2).wr W4).wr W6).wr W8).wr W10).wr W12).wr W14).wr W16).wr W18).wr W20).wr W22).wr W24).wr W26)
  obtain ⟨cl_b2_38, Ar_b2_38, q_b2_38, Sz_b2_38, Ng_b2_38, Ha_b2_38, Gt_b2_38⟩ := id V26
  have hin_b2_38 : ¬ ((12 : Int32) < 0 ∨ cl_b2_38.slots.size ≤ ((12 : Int32)).toNatClampNeg) := inb_of Sz_b2_38 ⟨by decide, by decide⟩
  obtain ⟨T28, h28, X28, e28, W28, st28⟩ := stR X27 hx hZ e27 Ar_b2_38 (j := (12 : Int32)) hin_b2_38 rfl (Sto.ofV Ar_b2_38 q_b2_38 O2 (Ins.self f37)) (g := (mkF m 89 #[.val (.int p1), .unset, .unset, .unset, .unset] [(.ref s_SIGNAL), (.int (12 : Int32)), (.ref b2), (.ref b2)])) rfl rfl (hb hby at_89)
  have V28 : Arv Z h28 b2 k2 (.object "com/example/coldsleep/coldsleep/game/Aim") (13 : Int32) [(.ref s_REACH_EARTH), (.ref s_REACH_MARS), (.ref s_DEAD_NEXT), (.ref s_DEAD_PREVIOUS), (.ref s_ALONE), (.ref s_OTHERS), (.ref s_SURVIVE_POD), (.ref s_SURVIVE_HIBERNATED), (.ref s_WEAKNESS), (.ref s_NEST), (.ref s_QUEEN), (.ref s_BREEDER), (.ref s_SIGNAL)] .null := Arv.set Ar_b2_38 q_b2_38 Sz_b2_38 Ng_b2_38 Ha_b2_38 Gt_b2_38 rfl W28 12 rfl (Nat.le_of_ble_eq_true rfl)
  have N28 := Fr.snoc X28 N26 g_b2
  obtain ⟨cl_b2_39, Ar_b2_39, q_b2_39, Sz_b2_39, Ng_b2_39, Ha_b2_39, Gt_b2_39⟩ := id V28
  have hin_b2_39 : ¬ ((t0_0 p1) < 0 ∨ cl_b2_39.slots.size ≤ ((t0_0 p1)).toNatClampNeg) := inb_of Sz_b2_39 hi101
  have hat_b2_39 : cl_b2_39.slots[((t0_0 p1)).toNatClampNeg]? = some (.ref w101) := (Ha_b2_39 _ (Nat.lt_of_not_le fun q => hin_b2_39 (Or.inr q))).trans (congrArg some (hs101 : (([(.ref s_REACH_EARTH), (.ref s_REACH_MARS), (.ref s_DEAD_NEXT), (.ref s_DEAD_PREVIOUS), (.ref s_ALONE), (.ref s_OTHERS), (.ref s_SURVIVE_POD), (.ref s_SURVIVE_HIBERNATED), (.ref s_WEAKNESS), (.ref s_NEST), (.ref s_QUEEN), (.ref s_BREEDER), (.ref s_SIGNAL)] : List Value)).getD ((t0_0 p1)).toNatClampNeg .null = (.ref w101)))
  have f40 := ((((((((f15.wr W14).wr W16).wr W18).wr W20).wr W22).wr W24).wr W26).wr W28)
  have f41 := (((((f24.wr W20).wr W22).wr W24).wr W26).wr W28)
  have f42 := ((((((((((((((E_w101.ext E2).wr W4).wr W6).wr W8).wr W10).wr W12).wr W14).wr W16).wr W18).wr W20).wr W22).wr W24).wr W26).wr W28)
  obtain ⟨cq29, kq29, q29a, q29b, q29c⟩ := isOf hZ e28 f42
  obtain ⟨_, _, ⟨T29, L29, k29, n29⟩, -, X29, ⟨Lc29, hQ29, l29, y29, z29⟩, st29⟩ := X28.virtualBack hx (y := (⟨"com/example/coldsleep/coldsleep/game/Aim", "counts", "()Z"⟩ : MethodName)) (z := (⟨"com/example/coldsleep/coldsleep/game/Aim", "counts", "()Z"⟩ : MethodName)) hown (mvT hZ (hw _ (List.mem_of_getElem? (i := 31) rfl))) (mvT hZ (hw _ (List.mem_of_getElem? (i := 32) rfl))) (notFace_of_selects (args := #[]) (mvT hZ (hw _ (List.mem_of_getElem? (i := 34) rfl)))) (mvT hZ (hw _ (List.mem_of_getElem? (i := 34) rfl))) (mvT hZ (hw _ (List.mem_of_getElem? (i := 33) rfl))) (by decide) (backOf (W := 0) (rm1 l Z a0 hw [] w101 s_OTHERS s_WEAKNESS h28 n0 (Nat.le_trans (Nat.le_trans (Nat.le_trans (Nat.le_trans (Nat.le_trans (Nat.le_trans (Nat.le_trans (Nat.le_trans (Nat.le_trans (Nat.le_trans (Nat.le_trans (Nat.le_trans (Nat.le_trans (Nat.le_trans Z0 E2.1) (Keep.of_wr W4).1) (Keep.of_wr W6).1) (Keep.of_wr W8).1) (Keep.of_wr W10).1) (Keep.of_wr W12).1) (Keep.of_wr W14).1) (Keep.of_wr W16).1) (Keep.of_wr W18).1) (Keep.of_wr W20).1) (Keep.of_wr W22).1) (Keep.of_wr W24).1) (Keep.of_wr W26).1) (Keep.of_wr W28).1) f40 f41) hZ (hw _ (List.mem_of_getElem? (i := 35) rfl)) (hw _ (List.mem_of_getElem? (i := 3) rfl)) (by decide) (by decide)) q29a q29c (g := (mkF m 124 #[.val (.int p1), .val (.ref b2), .val (.int (t0_0 p1)), .val (.ref w101), .val (.int (1 : Int32))] [(.ref w101)])) rfl (by rw [hml]; rfl) (Steps.refl _) (argsL := []) (rest := []) (lenOf pd__28_29Z rfl) rfl (by show 2 * 0 + _ ≤ _; exact Nat.le_of_eq rfl) (hb hby at_124) (fun _ _ => ⟨rfl, e28, (by decide : 1 + 0 ≤ _), (by decide : 13 + 0 ≤ _)⟩)
  dsimp only [Pt.U, Pt.locs, Pt.cells, Pt.slots] at X29 l29 y29 z29 st29 hQ29
  subst l29 y29 z29
  obtain ⟨rfl, N29q, e29⟩ := hQ29
  have N29 := Fr.app N28 N29q
  obtain ⟨fs, hr, hrun, hended, hW, hsame⟩ := X29.leave (v := some (.int (1 : Int32))) (fun h => by rw [Bd.returns] at h; cases h)
  refine ⟨_, _, pre0 _ ?_, hrun, hended, _, _, rfl, ?_, ⟨_, rfl⟩, hW, hsame.mono (by decide) (by decide)⟩
  · show Steps p.tables e below (s₁.setTop (mkF m 0 #[.val (.int p1), .unset, .unset, .unset, .unset] [])) _
    refine XS.bipush X0.here hx rfl (hb hby at_0) ?_
    show Steps p.tables e below (s₁.setTop (mkF m 2 #[.val (.int p1), .unset, .unset, .unset, .unset] [(.int (13 : Int32))])) _
    refine st2 _ ?_
    show Steps p.tables e below (T2.setTop (mkF m 5 #[.val (.int p1), .unset, .unset, .unset, .unset] [(.ref b2)])) _
    refine XS.dup X2.here hx rfl (hb hby at_5) rfl rfl ?_
    show Steps p.tables e below (T2.setTop (mkF m 6 #[.val (.int p1), .unset, .unset, .unset, .unset] [(.ref b2), (.ref b2)])) _
    refine XS.iconst X2.here hx rfl (hb hby at_6) ?_
    show Steps p.tables e below (T2.setTop (mkF m 7 #[.val (.int p1), .unset, .unset, .unset, .unset] [(.int (0 : Int32)), (.ref b2), (.ref b2)])) _
    refine st3 _ ?_
    show Steps p.tables e below (T3.setTop (mkF m 10 #[.val (.int p1), .unset, .unset, .unset, .unset] [(.ref s_REACH_EARTH), (.int (0 : Int32)), (.ref b2), (.ref b2)])) _
    refine st4 _ ?_
    show Steps p.tables e below (T4.setTop (mkF m 11 #[.val (.int p1), .unset, .unset, .unset, .unset] [(.ref b2)])) _
    refine XS.dup X4.here hx rfl (hb hby at_11) rfl rfl ?_
    show Steps p.tables e below (T4.setTop (mkF m 12 #[.val (.int p1), .unset, .unset, .unset, .unset] [(.ref b2), (.ref b2)])) _
    refine XS.iconst X4.here hx rfl (hb hby at_12) ?_
    show Steps p.tables e below (T4.setTop (mkF m 13 #[.val (.int p1), .unset, .unset, .unset, .unset] [(.int (1 : Int32)), (.ref b2), (.ref b2)])) _
    refine st5 _ ?_
    show Steps p.tables e below (T5.setTop (mkF m 16 #[.val (.int p1), .unset, .unset, .unset, .unset] [(.ref s_REACH_MARS), (.int (1 : Int32)), (.ref b2), (.ref b2)])) _
    refine st6 _ ?_
    show Steps p.tables e below (T6.setTop (mkF m 17 #[.val (.int p1), .unset, .unset, .unset, .unset] [(.ref b2)])) _
    refine XS.dup X6.here hx rfl (hb hby at_17) rfl rfl ?_
    show Steps p.tables e below (T6.setTop (mkF m 18 #[.val (.int p1), .unset, .unset, .unset, .unset] [(.ref b2), (.ref b2)])) _
    refine XS.iconst X6.here hx rfl (hb hby at_18) ?_
    show Steps p.tables e below (T6.setTop (mkF m 19 #[.val (.int p1), .unset, .unset, .unset, .unset] [(.int (2 : Int32)), (.ref b2), (.ref b2)])) _
    refine st7 _ ?_
    show Steps p.tables e below (T7.setTop (mkF m 22 #[.val (.int p1), .unset, .unset, .unset, .unset] [(.ref s_DEAD_NEXT), (.int (2 : Int32)), (.ref b2), (.ref b2)])) _
    refine st8 _ ?_
    show Steps p.tables e below (T8.setTop (mkF m 23 #[.val (.int p1), .unset, .unset, .unset, .unset] [(.ref b2)])) _
    refine XS.dup X8.here hx rfl (hb hby at_23) rfl rfl ?_
    show Steps p.tables e below (T8.setTop (mkF m 24 #[.val (.int p1), .unset, .unset, .unset, .unset] [(.ref b2), (.ref b2)])) _
    refine XS.iconst X8.here hx rfl (hb hby at_24) ?_
    show Steps p.tables e below (T8.setTop (mkF m 25 #[.val (.int p1), .unset, .unset, .unset, .unset] [(.int (3 : Int32)), (.ref b2), (.ref b2)])) _
    refine st9 _ ?_
    show Steps p.tables e below (T9.setTop (mkF m 28 #[.val (.int p1), .unset, .unset, .unset, .unset] [(.ref s_DEAD_PREVIOUS), (.int (3 : Int32)), (.ref b2), (.ref b2)])) _
    refine st10 _ ?_
    show Steps p.tables e below (T10.setTop (mkF m 29 #[.val (.int p1), .unset, .unset, .unset, .unset] [(.ref b2)])) _
    refine XS.dup X10.here hx rfl (hb hby at_29) rfl rfl ?_
    show Steps p.tables e below (T10.setTop (mkF m 30 #[.val (.int p1), .unset, .unset, .unset, .unset] [(.ref b2), (.ref b2)])) _
    refine XS.iconst X10.here hx rfl (hb hby at_30) ?_
    show Steps p.tables e below (T10.setTop (mkF m 31 #[.val (.int p1), .unset, .unset, .unset, .unset] [(.int (4 : Int32)), (.ref b2), (.ref b2)])) _
    refine st11 _ ?_
    show Steps p.tables e below (T11.setTop (mkF m 34 #[.val (.int p1), .unset, .unset, .unset, .unset] [(.ref s_ALONE), (.int (4 : Int32)), (.ref b2), (.ref b2)])) _
    refine st12 _ ?_
    show Steps p.tables e below (T12.setTop (mkF m 35 #[.val (.int p1), .unset, .unset, .unset, .unset] [(.ref b2)])) _
    refine XS.dup X12.here hx rfl (hb hby at_35) rfl rfl ?_
    show Steps p.tables e below (T12.setTop (mkF m 36 #[.val (.int p1), .unset, .unset, .unset, .unset] [(.ref b2), (.ref b2)])) _
    refine XS.iconst X12.here hx rfl (hb hby at_36) ?_
    show Steps p.tables e below (T12.setTop (mkF m 37 #[.val (.int p1), .unset, .unset, .unset, .unset] [(.int (5 : Int32)), (.ref b2), (.ref b2)])) _
    refine st13 _ ?_
    show Steps p.tables e below (T13.setTop (mkF m 40 #[.val (.int p1), .unset, .unset, .unset, .unset] [(.ref s_OTHERS), (.int (5 : Int32)), (.ref b2), (.ref b2)])) _
    refine st14 _ ?_
    show Steps p.tables e below (T14.setTop (mkF m 41 #[.val (.int p1), .unset, .unset, .unset, .unset] [(.ref b2)])) _
    refine XS.dup X14.here hx rfl (hb hby at_41) rfl rfl ?_
    show Steps p.tables e below (T14.setTop (mkF m 42 #[.val (.int p1), .unset, .unset, .unset, .unset] [(.ref b2), (.ref b2)])) _
    refine XS.bipush X14.here hx rfl (hb hby at_42) ?_
    show Steps p.tables e below (T14.setTop (mkF m 44 #[.val (.int p1), .unset, .unset, .unset, .unset] [(.int (6 : Int32)), (.ref b2), (.ref b2)])) _
    refine st15 _ ?_
    show Steps p.tables e below (T15.setTop (mkF m 47 #[.val (.int p1), .unset, .unset, .unset, .unset] [(.ref s_SURVIVE_POD), (.int (6 : Int32)), (.ref b2), (.ref b2)])) _
    refine st16 _ ?_
    show Steps p.tables e below (T16.setTop (mkF m 48 #[.val (.int p1), .unset, .unset, .unset, .unset] [(.ref b2)])) _
    refine XS.dup X16.here hx rfl (hb hby at_48) rfl rfl ?_
    show Steps p.tables e below (T16.setTop (mkF m 49 #[.val (.int p1), .unset, .unset, .unset, .unset] [(.ref b2), (.ref b2)])) _
    refine XS.bipush X16.here hx rfl (hb hby at_49) ?_
    show Steps p.tables e below (T16.setTop (mkF m 51 #[.val (.int p1), .unset, .unset, .unset, .unset] [(.int (7 : Int32)), (.ref b2), (.ref b2)])) _
    refine st17 _ ?_
    show Steps p.tables e below (T17.setTop (mkF m 54 #[.val (.int p1), .unset, .unset, .unset, .unset] [(.ref s_SURVIVE_HIBERNATED), (.int (7 : Int32)), (.ref b2), (.ref b2)])) _
    refine st18 _ ?_
    show Steps p.tables e below (T18.setTop (mkF m 55 #[.val (.int p1), .unset, .unset, .unset, .unset] [(.ref b2)])) _
    refine XS.dup X18.here hx rfl (hb hby at_55) rfl rfl ?_
    show Steps p.tables e below (T18.setTop (mkF m 56 #[.val (.int p1), .unset, .unset, .unset, .unset] [(.ref b2), (.ref b2)])) _
    refine XS.bipush X18.here hx rfl (hb hby at_56) ?_
    show Steps p.tables e below (T18.setTop (mkF m 58 #[.val (.int p1), .unset, .unset, .unset, .unset] [(.int (8 : Int32)), (.ref b2), (.ref b2)])) _
    refine st19 _ ?_
    show Steps p.tables e below (T19.setTop (mkF m 61 #[.val (.int p1), .unset, .unset, .unset, .unset] [(.ref s_WEAKNESS), (.int (8 : Int32)), (.ref b2), (.ref b2)])) _
    refine st20 _ ?_
    show Steps p.tables e below (T20.setTop (mkF m 62 #[.val (.int p1), .unset, .unset, .unset, .unset] [(.ref b2)])) _
    refine XS.dup X20.here hx rfl (hb hby at_62) rfl rfl ?_
    show Steps p.tables e below (T20.setTop (mkF m 63 #[.val (.int p1), .unset, .unset, .unset, .unset] [(.ref b2), (.ref b2)])) _
    refine XS.bipush X20.here hx rfl (hb hby at_63) ?_
    show Steps p.tables e below (T20.setTop (mkF m 65 #[.val (.int p1), .unset, .unset, .unset, .unset] [(.int (9 : Int32)), (.ref b2), (.ref b2)])) _
    refine st21 _ ?_
    show Steps p.tables e below (T21.setTop (mkF m 68 #[.val (.int p1), .unset, .unset, .unset, .unset] [(.ref s_NEST), (.int (9 : Int32)), (.ref b2), (.ref b2)])) _
    refine st22 _ ?_
    show Steps p.tables e below (T22.setTop (mkF m 69 #[.val (.int p1), .unset, .unset, .unset, .unset] [(.ref b2)])) _
    refine XS.dup X22.here hx rfl (hb hby at_69) rfl rfl ?_
    show Steps p.tables e below (T22.setTop (mkF m 70 #[.val (.int p1), .unset, .unset, .unset, .unset] [(.ref b2), (.ref b2)])) _
    refine XS.bipush X22.here hx rfl (hb hby at_70) ?_
    show Steps p.tables e below (T22.setTop (mkF m 72 #[.val (.int p1), .unset, .unset, .unset, .unset] [(.int (10 : Int32)), (.ref b2), (.ref b2)])) _
    refine st23 _ ?_
    show Steps p.tables e below (T23.setTop (mkF m 75 #[.val (.int p1), .unset, .unset, .unset, .unset] [(.ref s_QUEEN), (.int (10 : Int32)), (.ref b2), (.ref b2)])) _
    refine st24 _ ?_
    show Steps p.tables e below (T24.setTop (mkF m 76 #[.val (.int p1), .unset, .unset, .unset, .unset] [(.ref b2)])) _
    refine XS.dup X24.here hx rfl (hb hby at_76) rfl rfl ?_
    show Steps p.tables e below (T24.setTop (mkF m 77 #[.val (.int p1), .unset, .unset, .unset, .unset] [(.ref b2), (.ref b2)])) _
    refine XS.bipush X24.here hx rfl (hb hby at_77) ?_
    show Steps p.tables e below (T24.setTop (mkF m 79 #[.val (.int p1), .unset, .unset, .unset, .unset] [(.int (11 : Int32)), (.ref b2), (.ref b2)])) _
    refine st25 _ ?_
    show Steps p.tables e below (T25.setTop (mkF m 82 #[.val (.int p1), .unset, .unset, .unset, .unset] [(.ref s_BREEDER), (.int (11 : Int32)), (.ref b2), (.ref b2)])) _
    refine st26 _ ?_
    show Steps p.tables e below (T26.setTop (mkF m 83 #[.val (.int p1), .unset, .unset, .unset, .unset] [(.ref b2)])) _
    refine XS.dup X26.here hx rfl (hb hby at_83) rfl rfl ?_
    show Steps p.tables e below (T26.setTop (mkF m 84 #[.val (.int p1), .unset, .unset, .unset, .unset] [(.ref b2), (.ref b2)])) _
    refine XS.bipush X26.here hx rfl (hb hby at_84) ?_
    show Steps p.tables e below (T26.setTop (mkF m 86 #[.val (.int p1), .unset, .unset, .unset, .unset] [(.int (12 : Int32)), (.ref b2), (.ref b2)])) _
    refine st27 _ ?_
    show Steps p.tables e below (T27.setTop (mkF m 89 #[.val (.int p1), .unset, .unset, .unset, .unset] [(.ref s_SIGNAL), (.int (12 : Int32)), (.ref b2), (.ref b2)])) _
    refine st28 _ ?_
    show Steps p.tables e below (T28.setTop (mkF m 90 #[.val (.int p1), .unset, .unset, .unset, .unset] [(.ref b2)])) _
    refine XS.astoreN X28.here hx rfl (hb hby at_90) rfl rfl (l' := #[.val (.int p1), .val (.ref b2), .unset, .unset, .unset]) rfl ?_
    show Steps p.tables e below (T28.setTop (mkF m 91 #[.val (.int p1), .val (.ref b2), .unset, .unset, .unset] [])) _
    refine XS.iloadN X28.here hx rfl (hb hby at_91) rfl ?_
    show Steps p.tables e below (T28.setTop (mkF m 92 #[.val (.int p1), .val (.ref b2), .unset, .unset, .unset] [(.int p1)])) _
    refine X28.ldcInt hx hown (mvT hZ (hw _ (List.mem_of_getElem? (i := 30) rfl))) (g := (mkF m 92 #[.val (.int p1), .val (.ref b2), .unset, .unset, .unset] [(.int p1)])) rfl (hb hby at_92) _ ?_
    show Steps p.tables e below (T28.setTop (mkF m 94 #[.val (.int p1), .val (.ref b2), .unset, .unset, .unset] [(.int (2147483647 : Int32)), (.int p1)])) _
    refine XS.iand X28.here hx rfl (hb hby at_94) rfl ?_
    show Steps p.tables e below (T28.setTop (mkF m 95 #[.val (.int p1), .val (.ref b2), .unset, .unset, .unset] [(.int (p1 &&& (2147483647 : Int32)))])) _
    refine XS.bipush X28.here hx rfl (hb hby at_95) ?_
    show Steps p.tables e below (T28.setTop (mkF m 97 #[.val (.int p1), .val (.ref b2), .unset, .unset, .unset] [(.int (13 : Int32)), (.int (p1 &&& (2147483647 : Int32)))])) _
    refine XS.irem X28.here hx rfl (hb hby at_97) rfl (by decide) ?_
    show Steps p.tables e below (T28.setTop (mkF m 98 #[.val (.int p1), .val (.ref b2), .unset, .unset, .unset] [(.int ((p1 &&& (2147483647 : Int32)) - ((p1 &&& (2147483647 : Int32)) / (13 : Int32)) * (13 : Int32)))])) _
    refine XS.istoreN X28.here hx rfl (hb hby at_98) rfl (l' := #[.val (.int p1), .val (.ref b2), .val (.int (t0_0 p1)), .unset, .unset]) rfl ?_
    show Steps p.tables e below (T28.setTop (mkF m 99 #[.val (.int p1), .val (.ref b2), .val (.int (t0_0 p1)), .unset, .unset] [])) _
    refine XS.aloadN X28.here hx rfl (hb hby at_99) rfl rfl ?_
    show Steps p.tables e below (T28.setTop (mkF m 100 #[.val (.int p1), .val (.ref b2), .val (.int (t0_0 p1)), .unset, .unset] [(.ref b2)])) _
    refine XS.iloadN X28.here hx rfl (hb hby at_100) rfl ?_
    show Steps p.tables e below (T28.setTop (mkF m 101 #[.val (.int p1), .val (.ref b2), .val (.int (t0_0 p1)), .unset, .unset] [(.int (t0_0 p1)), (.ref b2)])) _
    refine X28.aaload hx (j := (t0_0 p1)) (v := (.ref w101)) (by rw [e28]; exact Ar_b2_39.1) (State.isArrayOf_alike hZ.alike Ar_b2_39.2.1) rfl Ar_b2_39.2.2 hin_b2_39 hat_b2_39 (g := (mkF m 101 #[.val (.int p1), .val (.ref b2), .val (.int (t0_0 p1)), .unset, .unset] [(.int (t0_0 p1)), (.ref b2)])) rfl rfl (hb hby at_101) _ ?_
    show Steps p.tables e below (T28.setTop (mkF m 102 #[.val (.int p1), .val (.ref b2), .val (.int (t0_0 p1)), .unset, .unset] [(.ref w101)])) _
    refine XS.astoreN X28.here hx rfl (hb hby at_102) rfl rfl (l' := #[.val (.int p1), .val (.ref b2), .val (.int (t0_0 p1)), .val (.ref w101), .unset]) rfl ?_
    show Steps p.tables e below (T28.setTop (mkF m 103 #[.val (.int p1), .val (.ref b2), .val (.int (t0_0 p1)), .val (.ref w101), .unset] [])) _
    refine XS.iconst X28.here hx rfl (hb hby at_103) ?_
    show Steps p.tables e below (T28.setTop (mkF m 104 #[.val (.int p1), .val (.ref b2), .val (.int (t0_0 p1)), .val (.ref w101), .unset] [(.int (0 : Int32))])) _
    refine XS.istore X28.here hx rfl (hb hby at_104) rfl (l' := #[.val (.int p1), .val (.ref b2), .val (.int (t0_0 p1)), .val (.ref w101), .val (.int (0 : Int32))]) rfl ?_
    show Steps p.tables e below (T28.setTop (mkF m 106 #[.val (.int p1), .val (.ref b2), .val (.int (t0_0 p1)), .val (.ref w101), .val (.int (0 : Int32))] [])) _
    refine XS.iloadN X28.here hx rfl (hb hby at_106) rfl ?_
    show Steps p.tables e below (T28.setTop (mkF m 107 #[.val (.int p1), .val (.ref b2), .val (.int (t0_0 p1)), .val (.ref w101), .val (.int (0 : Int32))] [(.int (t0_0 p1))])) _
    refine XS.iconst X28.here hx rfl (hb hby at_107) ?_
    show Steps p.tables e below (T28.setTop (mkF m 108 #[.val (.int p1), .val (.ref b2), .val (.int (t0_0 p1)), .val (.ref w101), .val (.int (0 : Int32))] [(.int (5 : Int32)), (.int (t0_0 p1))])) _
    refine XS.icmpYes X28.here hx rfl (pc0 := 108) (pc' := 114) rfl (hb hby at_108) rfl (feq hc108).2 (by decide) (by decide) ?_
    show Steps p.tables e below (T28.setTop (mkF m 114 #[.val (.int p1), .val (.ref b2), .val (.int (t0_0 p1)), .val (.ref w101), .val (.int (0 : Int32))] [])) _
    refine XS.iloadN X28.here hx rfl (hb hby at_114) rfl ?_
    show Steps p.tables e below (T28.setTop (mkF m 115 #[.val (.int p1), .val (.ref b2), .val (.int (t0_0 p1)), .val (.ref w101), .val (.int (0 : Int32))] [(.int (t0_0 p1))])) _
    refine XS.bipush X28.here hx rfl (hb hby at_115) ?_
    show Steps p.tables e below (T28.setTop (mkF m 117 #[.val (.int p1), .val (.ref b2), .val (.int (t0_0 p1)), .val (.ref w101), .val (.int (0 : Int32))] [(.int (8 : Int32)), (.int (t0_0 p1))])) _
    refine XS.icmpNo X28.here hx rfl (hb hby at_117) rfl (teq hc117).2 ?_
    show Steps p.tables e below (T28.setTop (mkF m 120 #[.val (.int p1), .val (.ref b2), .val (.int (t0_0 p1)), .val (.ref w101), .val (.int (0 : Int32))] [])) _
    refine XS.iconst X28.here hx rfl (hb hby at_120) ?_
    show Steps p.tables e below (T28.setTop (mkF m 121 #[.val (.int p1), .val (.ref b2), .val (.int (t0_0 p1)), .val (.ref w101), .val (.int (0 : Int32))] [(.int (1 : Int32))])) _
    refine XS.istore X28.here hx rfl (hb hby at_121) rfl (l' := #[.val (.int p1), .val (.ref b2), .val (.int (t0_0 p1)), .val (.ref w101), .val (.int (1 : Int32))]) rfl ?_
    show Steps p.tables e below (T28.setTop (mkF m 123 #[.val (.int p1), .val (.ref b2), .val (.int (t0_0 p1)), .val (.ref w101), .val (.int (1 : Int32))] [])) _
    refine XS.aloadN X28.here hx rfl (hb hby at_123) rfl rfl ?_
    show Steps p.tables e below (T28.setTop (mkF m 124 #[.val (.int p1), .val (.ref b2), .val (.int (t0_0 p1)), .val (.ref w101), .val (.int (1 : Int32))] [(.ref w101)])) _
    refine st29.trans ?_
    show Steps p.tables e below (T29.setTop (mkF m 127 #[.val (.int p1), .val (.ref b2), .val (.int (t0_0 p1)), .val (.ref w101), .val (.int (1 : Int32))] [(.int (F1 w101 s_OTHERS s_WEAKNESS))])) _
    refine XS.iload X29.here hx rfl (hb hby at_127) rfl ?_
    show Steps p.tables e below (T29.setTop (mkF m 129 #[.val (.int p1), .val (.ref b2), .val (.int (t0_0 p1)), .val (.ref w101), .val (.int (1 : Int32))] [(.int (1 : Int32)), (.int (F1 w101 s_OTHERS s_WEAKNESS))])) _
    refine XS.icmpNo X29.here hx rfl (hb hby at_129) rfl (teq (show (F1 w101 s_OTHERS s_WEAKNESS) = (1 : Int32) from by rw [hrel]; first | rw [if_pos hc108] | rw [if_neg hc108, if_pos hc117] | rw [if_neg hc108, if_neg hc117])).2 ?_
    show Steps p.tables e below (T29.setTop (mkF m 132 #[.val (.int p1), .val (.ref b2), .val (.int (t0_0 p1)), .val (.ref w101), .val (.int (1 : Int32))] [])) _
    refine XS.iconst X29.here hx rfl (hb hby at_132) ?_
    show Steps p.tables e below (T29.setTop (mkF m 133 #[.val (.int p1), .val (.ref b2), .val (.int (t0_0 p1)), .val (.ref w101), .val (.int (1 : Int32))] [(.int (1 : Int32))])) _
    refine XS.goto X29.here hx rfl (pc0 := 133) (pc' := 137) rfl (hb hby at_133) (by decide) (by decide) ?_
    show Steps p.tables e below (T29.setTop (mkF m 137 #[.val (.int p1), .val (.ref b2), .val (.int (t0_0 p1)), .val (.ref w101), .val (.int (1 : Int32))] [(.int (1 : Int32))])) _
    exact retN X29 hx (t := .boolean) Bd.returns (by simp) (hb hby at_137) hr
  · show Q_rm0 Z p1 s_REACH_EARTH s_REACH_MARS s_DEAD_NEXT s_DEAD_PREVIOUS s_ALONE s_OTHERS s_SURVIVE_POD s_SURVIVE_HIBERNATED s_WEAKNESS s_NEST s_QUEEN s_BREEDER s_SIGNAL w101 h0 n0 _ T29.heap _
    exact ⟨rfl, N29⟩
set_option maxRecDepth 65536 in
set_option maxHeartbeats 40000000 in
theorem rm0_tt (l : Launch) (Z : State) (a0 : Array Value) (hw : ∀ d ∈ tables_1, d.before a0 Z = true) (ws : List Jvm.Cond) (p1 : Int32) (s_REACH_EARTH : Addr) (s_REACH_MARS : Addr) (s_DEAD_NEXT : Addr) (s_DEAD_PREVIOUS : Addr) (s_ALONE : Addr) (s_OTHERS : Addr) (s_SURVIVE_POD : Addr) (s_SURVIVE_HIBERNATED : Addr) (s_WEAKNESS : Addr) (s_NEST : Addr) (s_QUEEN : Addr) (s_BREEDER : Addr) (s_SIGNAL : Addr) (w101 : Addr) (h0 : Heap) (n0 : Nat) (Z0 : n0 ≤ h0.size) (hrel : (F1 w101 s_OTHERS s_WEAKNESS) = if (t0_0 p1) = (5 : Int32) then (1 : Int32) else if (t0_0 p1) = (8 : Int32) then (1 : Int32) else (0 : Int32)) (S_REACH_EARTH : Sta Z h0 "com/example/coldsleep/coldsleep/game/Aim" "REACH_EARTH" "Lcom/example/coldsleep/coldsleep/game/Aim;" (.ref s_REACH_EARTH)) (E_s_REACH_EARTH : Exa Z h0 s_REACH_EARTH "com/example/coldsleep/coldsleep/game/Aim") (S_REACH_MARS : Sta Z h0 "com/example/coldsleep/coldsleep/game/Aim" "REACH_MARS" "Lcom/example/coldsleep/coldsleep/game/Aim;" (.ref s_REACH_MARS)) (E_s_REACH_MARS : Exa Z h0 s_REACH_MARS "com/example/coldsleep/coldsleep/game/Aim") (S_DEAD_NEXT : Sta Z h0 "com/example/coldsleep/coldsleep/game/Aim" "DEAD_NEXT" "Lcom/example/coldsleep/coldsleep/game/Aim;" (.ref s_DEAD_NEXT)) (E_s_DEAD_NEXT : Exa Z h0 s_DEAD_NEXT "com/example/coldsleep/coldsleep/game/Aim") (S_DEAD_PREVIOUS : Sta Z h0 "com/example/coldsleep/coldsleep/game/Aim" "DEAD_PREVIOUS" "Lcom/example/coldsleep/coldsleep/game/Aim;" (.ref s_DEAD_PREVIOUS)) (E_s_DEAD_PREVIOUS : Exa Z h0 s_DEAD_PREVIOUS "com/example/coldsleep/coldsleep/game/Aim") (S_ALONE : Sta Z h0 "com/example/coldsleep/coldsleep/game/Aim" "ALONE" "Lcom/example/coldsleep/coldsleep/game/Aim;" (.ref s_ALONE)) (E_s_ALONE : Exa Z h0 s_ALONE "com/example/coldsleep/coldsleep/game/Aim") (S_OTHERS : Sta Z h0 "com/example/coldsleep/coldsleep/game/Aim" "OTHERS" "Lcom/example/coldsleep/coldsleep/game/Aim;" (.ref s_OTHERS)) (E_s_OTHERS : Exa Z h0 s_OTHERS "com/example/coldsleep/coldsleep/game/Aim") (S_SURVIVE_POD : Sta Z h0 "com/example/coldsleep/coldsleep/game/Aim" "SURVIVE_POD" "Lcom/example/coldsleep/coldsleep/game/Aim;" (.ref s_SURVIVE_POD)) (E_s_SURVIVE_POD : Exa Z h0 s_SURVIVE_POD "com/example/coldsleep/coldsleep/game/Aim") (S_SURVIVE_HIBERNATED : Sta Z h0 "com/example/coldsleep/coldsleep/game/Aim" "SURVIVE_HIBERNATED" "Lcom/example/coldsleep/coldsleep/game/Aim;" (.ref s_SURVIVE_HIBERNATED)) (E_s_SURVIVE_HIBERNATED : Exa Z h0 s_SURVIVE_HIBERNATED "com/example/coldsleep/coldsleep/game/Aim") (S_WEAKNESS : Sta Z h0 "com/example/coldsleep/coldsleep/game/Aim" "WEAKNESS" "Lcom/example/coldsleep/coldsleep/game/Aim;" (.ref s_WEAKNESS)) (E_s_WEAKNESS : Exa Z h0 s_WEAKNESS "com/example/coldsleep/coldsleep/game/Aim") (S_NEST : Sta Z h0 "com/example/coldsleep/coldsleep/game/Aim" "NEST" "Lcom/example/coldsleep/coldsleep/game/Aim;" (.ref s_NEST)) (E_s_NEST : Exa Z h0 s_NEST "com/example/coldsleep/coldsleep/game/Aim") (S_QUEEN : Sta Z h0 "com/example/coldsleep/coldsleep/game/Aim" "QUEEN" "Lcom/example/coldsleep/coldsleep/game/Aim;" (.ref s_QUEEN)) (E_s_QUEEN : Exa Z h0 s_QUEEN "com/example/coldsleep/coldsleep/game/Aim") (S_BREEDER : Sta Z h0 "com/example/coldsleep/coldsleep/game/Aim" "BREEDER" "Lcom/example/coldsleep/coldsleep/game/Aim;" (.ref s_BREEDER)) (E_s_BREEDER : Exa Z h0 s_BREEDER "com/example/coldsleep/coldsleep/game/Aim") (S_SIGNAL : Sta Z h0 "com/example/coldsleep/coldsleep/game/Aim" "SIGNAL" "Lcom/example/coldsleep/coldsleep/game/Aim;" (.ref s_SIGNAL)) (E_s_SIGNAL : Exa Z h0 s_SIGNAL "com/example/coldsleep/coldsleep/game/Aim") (E_w101 : Exa Z h0 w101 "com/example/coldsleep/coldsleep/game/Aim") (hi101 : ¬ (t0_0 p1) < 0 ∧ (t0_0 p1) < (13 : Int32)) (hs101 : (([(.ref s_REACH_EARTH), (.ref s_REACH_MARS), (.ref s_DEAD_NEXT), (.ref s_DEAD_PREVIOUS), (.ref s_ALONE), (.ref s_OTHERS), (.ref s_SURVIVE_POD), (.ref s_SURVIVE_HIBERNATED), (.ref s_WEAKNESS), (.ref s_NEST), (.ref s_QUEEN), (.ref s_BREEDER), (.ref s_SIGNAL)] : List Value)).getD ((t0_0 p1)).toNatClampNeg .null = (.ref w101)) (hc108 : ¬ ((t0_0 p1) = (5 : Int32))) (hc117 : ¬ ((t0_0 p1) = (8 : Int32))) :
    MetFree l x (head1 (Jvm.Cond.code x code maxLocals ret :: ws) room_1) (fun a U => a = #[(.int p1)] ∧ Z.Warmed39 U.vm ∧ U.heap = h0) (fun _ _ _ _ _ => True) (fun _ U o U' => ∃ v L, o = .returned v ∧ Q_rm0 Z p1 s_REACH_EARTH s_REACH_MARS s_DEAD_NEXT s_DEAD_PREVIOUS s_ALONE s_OTHERS s_SURVIVE_POD s_SURVIVE_HIBERNATED s_WEAKNESS s_NEST s_QUEEN s_BREEDER s_SIGNAL w101 h0 n0 v U'.heap L ∧ FrameEnd U o U' L room_1.cells room_1.slots) := by
  refine MetFree.of_bodySF (plainFor_of_name pn_0) hisR ?_
  intro p e s m args below meth c s₁ Bd hml0 hP hK
  obtain ⟨rfl, hZ, hh⟩ := hP
  have hx := Bd.exec
  have hby := Bd.bytes
  have hml : c.maxLocals = 5 := hml0
  have hown : s.vm.findClass "com/example/coldsleep/coldsleep/game/AimCountsPinLaw" = some m.cls := findClass_of_methodNamed Bd.named
  have hnm := (name_of_methodNamed Bd.named Bd.method).1
  have X0 : Stand p l e room_1 s m #[(.int p1)] below meth c s₁ [] 0 0 := Stand.of_body Bd
  have e0 : s₁.heap = h0 := by rw [← hh, Bd.state]; rfl
  have N0 := Fr.nil n0
  have pre0 : ∀ t, Steps p.tables e below (s₁.setTop (mkF m 0 #[.val (.int p1), .unset, .unset, .unset, .unset] [])) t → Steps p.tables e below (s₁.setTop (entryFrame m #[(.int p1)] maxLocals)) t := fun t k => castTop (ef_0 m p1) k
  obtain ⟨T2, h2, k2, X2, e2, E2, A2, O2, st2⟩ := newR X0 hx hZ hown (hw _ (List.mem_of_getElem? (i := 0) rfl)) (hw _ (List.mem_of_getElem? (i := 1) rfl)) e0 (g := (mkF m 2 #[.val (.int p1), .unset, .unset, .unset, .unset] [(.int (13 : Int32))])) rfl (hb hby at_2) rfl (by decide) (cap := 13) (by decide) (by decide) (by decide) (by decide)
  obtain ⟨b2, g2⟩ : ∃ z, z = h0.size := ⟨_, rfl⟩
  rw [← g2] at A2 st2
  have g_b2 : n0 ≤ b2 := Nat.le_trans Z0 (Nat.le_of_eq g2.symm)
  have sz_b2 : h0.size ≤ b2 := Nat.le_trans (Nat.le_refl h0.size) (Nat.le_of_eq g2.symm)
  have V_b2 : Arv Z h2 b2 k2 (.object "com/example/coldsleep/coldsleep/game/Aim") (13 : Int32) (List.replicate 13 .null) .null := (Arv.new A2 (by decide)).pad (pad_rep [] .null 13)
  have f0 := (S_REACH_EARTH.ext E2)
  obtain ⟨T3, X3, e3, st3⟩ := getS2 X2 hx hZ hown (host := "") (Or.inl (hw _ (List.mem_of_getElem? (i := 2) rfl))) Via.refl e2 f0 (g := (mkF m 7 #[.val (.int p1), .unset, .unset, .unset, .unset] [(.int (0 : Int32)), (.ref b2), (.ref b2)])) rfl (hb hby at_7)
  have f1 := (E_s_REACH_EARTH.ext E2)
  obtain ⟨cl_b2_2, Ar_b2_2, q_b2_2, Sz_b2_2, Ng_b2_2, Ha_b2_2, Gt_b2_2⟩ := id V_b2
  have hin_b2_2 : ¬ ((0 : Int32) < 0 ∨ cl_b2_2.slots.size ≤ ((0 : Int32)).toNatClampNeg) := inb_of Sz_b2_2 ⟨by decide, by decide⟩
  obtain ⟨T4, h4, X4, e4, W4, st4⟩ := stR X3 hx hZ e3 Ar_b2_2 (j := (0 : Int32)) hin_b2_2 rfl (Sto.ofV Ar_b2_2 q_b2_2 O2 (Ins.self f1)) (g := (mkF m 10 #[.val (.int p1), .unset, .unset, .unset, .unset] [(.ref s_REACH_EARTH), (.int (0 : Int32)), (.ref b2), (.ref b2)])) rfl rfl (hb hby at_10)
  have V4 : Arv Z h4 b2 k2 (.object "com/example/coldsleep/coldsleep/game/Aim") (13 : Int32) [(.ref s_REACH_EARTH), .null, .null, .null, .null, .null, .null, .null, .null, .null, .null, .null, .null] .null := Arv.set Ar_b2_2 q_b2_2 Sz_b2_2 Ng_b2_2 Ha_b2_2 Gt_b2_2 rfl W4 0 rfl (Nat.le_of_ble_eq_true rfl)
  have N4 := Fr.snoc X4 N0 g_b2
  have f3 := ((S_REACH_MARS.ext E2).wr W4)
  obtain ⟨T5, X5, e5, st5⟩ := getS2 X4 hx hZ hown (host := "") (Or.inl (hw _ (List.mem_of_getElem? (i := 6) rfl))) Via.refl e4 f3 (g := (mkF m 13 #[.val (.int p1), .unset, .unset, .unset, .unset] [(.int (1 : Int32)), (.ref b2), (.ref b2)])) rfl (hb hby at_13)
  have f4 := ((E_s_REACH_MARS.ext E2).wr W4)
  obtain ⟨cl_b2_5, Ar_b2_5, q_b2_5, Sz_b2_5, Ng_b2_5, Ha_b2_5, Gt_b2_5⟩ := id V4
  have hin_b2_5 : ¬ ((1 : Int32) < 0 ∨ cl_b2_5.slots.size ≤ ((1 : Int32)).toNatClampNeg) := inb_of Sz_b2_5 ⟨by decide, by decide⟩
  obtain ⟨T6, h6, X6, e6, W6, st6⟩ := stR X5 hx hZ e5 Ar_b2_5 (j := (1 : Int32)) hin_b2_5 rfl (Sto.ofV Ar_b2_5 q_b2_5 O2 (Ins.self f4)) (g := (mkF m 16 #[.val (.int p1), .unset, .unset, .unset, .unset] [(.ref s_REACH_MARS), (.int (1 : Int32)), (.ref b2), (.ref b2)])) rfl rfl (hb hby at_16)
  have V6 : Arv Z h6 b2 k2 (.object "com/example/coldsleep/coldsleep/game/Aim") (13 : Int32) [(.ref s_REACH_EARTH), (.ref s_REACH_MARS), .null, .null, .null, .null, .null, .null, .null, .null, .null, .null, .null] .null := Arv.set Ar_b2_5 q_b2_5 Sz_b2_5 Ng_b2_5 Ha_b2_5 Gt_b2_5 rfl W6 1 rfl (Nat.le_of_ble_eq_true rfl)
  have N6 := Fr.snoc X6 N4 g_b2
  have f6 := (((S_DEAD_NEXT.ext E2).wr W4).wr W6)
  obtain ⟨T7, X7, e7, st7⟩ := getS2 X6 hx hZ hown (host := "") (Or.inl (hw _ (List.mem_of_getElem? (i := 8) rfl))) Via.refl e6 f6 (g := (mkF m 19 #[.val (.int p1), .unset, .unset, .unset, .unset] [(.int (2 : Int32)), (.ref b2), (.ref b2)])) rfl (hb hby at_19)
  have f7 := (((E_s_DEAD_NEXT.ext E2).wr W4).wr W6)
  obtain ⟨cl_b2_8, Ar_b2_8, q_b2_8, Sz_b2_8, Ng_b2_8, Ha_b2_8, Gt_b2_8⟩ := id V6
  have hin_b2_8 : ¬ ((2 : Int32) < 0 ∨ cl_b2_8.slots.size ≤ ((2 : Int32)).toNatClampNeg) := inb_of Sz_b2_8 ⟨by decide, by decide⟩
  obtain ⟨T8, h8, X8, e8, W8, st8⟩ := stR X7 hx hZ e7 Ar_b2_8 (j := (2 : Int32)) hin_b2_8 rfl (Sto.ofV Ar_b2_8 q_b2_8 O2 (Ins.self f7)) (g := (mkF m 22 #[.val (.int p1), .unset, .unset, .unset, .unset] [(.ref s_DEAD_NEXT), (.int (2 : Int32)), (.ref b2), (.ref b2)])) rfl rfl (hb hby at_22)
  have V8 : Arv Z h8 b2 k2 (.object "com/example/coldsleep/coldsleep/game/Aim") (13 : Int32) [(.ref s_REACH_EARTH), (.ref s_REACH_MARS), (.ref s_DEAD_NEXT), .null, .null, .null, .null, .null, .null, .null, .null, .null, .null] .null := Arv.set Ar_b2_8 q_b2_8 Sz_b2_8 Ng_b2_8 Ha_b2_8 Gt_b2_8 rfl W8 2 rfl (Nat.le_of_ble_eq_true rfl)
  have N8 := Fr.snoc X8 N6 g_b2
  have f9 := ((((S_DEAD_PREVIOUS.ext E2).wr W4).wr W6).wr W8)
  obtain ⟨T9, X9, e9, st9⟩ := getS2 X8 hx hZ hown (host := "") (Or.inl (hw _ (List.mem_of_getElem? (i := 10) rfl))) Via.refl e8 f9 (g := (mkF m 25 #[.val (.int p1), .unset, .unset, .unset, .unset] [(.int (3 : Int32)), (.ref b2), (.ref b2)])) rfl (hb hby at_25)
  have f10 := ((((E_s_DEAD_PREVIOUS.ext E2).wr W4).wr W6).wr W8)
  obtain ⟨cl_b2_11, Ar_b2_11, q_b2_11, Sz_b2_11, Ng_b2_11, Ha_b2_11, Gt_b2_11⟩ := id V8
  have hin_b2_11 : ¬ ((3 : Int32) < 0 ∨ cl_b2_11.slots.size ≤ ((3 : Int32)).toNatClampNeg) := inb_of Sz_b2_11 ⟨by decide, by decide⟩
  obtain ⟨T10, h10, X10, e10, W10, st10⟩ := stR X9 hx hZ e9 Ar_b2_11 (j := (3 : Int32)) hin_b2_11 rfl (Sto.ofV Ar_b2_11 q_b2_11 O2 (Ins.self f10)) (g := (mkF m 28 #[.val (.int p1), .unset, .unset, .unset, .unset] [(.ref s_DEAD_PREVIOUS), (.int (3 : Int32)), (.ref b2), (.ref b2)])) rfl rfl (hb hby at_28)
  have V10 : Arv Z h10 b2 k2 (.object "com/example/coldsleep/coldsleep/game/Aim") (13 : Int32) [(.ref s_REACH_EARTH), (.ref s_REACH_MARS), (.ref s_DEAD_NEXT), (.ref s_DEAD_PREVIOUS), .null, .null, .null, .null, .null, .null, .null, .null, .null] .null := Arv.set Ar_b2_11 q_b2_11 Sz_b2_11 Ng_b2_11 Ha_b2_11 Gt_b2_11 rfl W10 3 rfl (Nat.le_of_ble_eq_true rfl)
  have N10 := Fr.snoc X10 N8 g_b2
  have f12 := (((((S_ALONE.ext E2).wr W4).wr W6).wr W8).wr W10)
  obtain ⟨T11, X11, e11, st11⟩ := getS2 X10 hx hZ hown (host := "") (Or.inl (hw _ (List.mem_of_getElem? (i := 12) rfl))) Via.refl e10 f12 (g := (mkF m 31 #[.val (.int p1), .unset, .unset, .unset, .unset] [(.int (4 : Int32)), (.ref b2), (.ref b2)])) rfl (hb hby at_31)
  have f13 := (((((E_s_ALONE.ext E2).wr W4).wr W6).wr W8).wr W10)
  obtain ⟨cl_b2_14, Ar_b2_14, q_b2_14, Sz_b2_14, Ng_b2_14, Ha_b2_14, Gt_b2_14⟩ := id V10
  have hin_b2_14 : ¬ ((4 : Int32) < 0 ∨ cl_b2_14.slots.size ≤ ((4 : Int32)).toNatClampNeg) := inb_of Sz_b2_14 ⟨by decide, by decide⟩
  obtain ⟨T12, h12, X12, e12, W12, st12⟩ := stR X11 hx hZ e11 Ar_b2_14 (j := (4 : Int32)) hin_b2_14 rfl (Sto.ofV Ar_b2_14 q_b2_14 O2 (Ins.self f13)) (g := (mkF m 34 #[.val (.int p1), .unset, .unset, .unset, .unset] [(.ref s_ALONE), (.int (4 : Int32)), (.ref b2), (.ref b2)])) rfl rfl (hb hby at_34)
  have V12 : Arv Z h12 b2 k2 (.object "com/example/coldsleep/coldsleep/game/Aim") (13 : Int32) [(.ref s_REACH_EARTH), (.ref s_REACH_MARS), (.ref s_DEAD_NEXT), (.ref s_DEAD_PREVIOUS), (.ref s_ALONE), .null, .null, .null, .null, .null, .null, .null, .null] .null := Arv.set Ar_b2_14 q_b2_14 Sz_b2_14 Ng_b2_14 Ha_b2_14 Gt_b2_14 rfl W12 4 rfl (Nat.le_of_ble_eq_true rfl)
  have N12 := Fr.snoc X12 N10 g_b2
  have f15 := ((((((S_OTHERS.ext E2).wr W4).wr W6).wr W8).wr W10).wr W12)
  obtain ⟨T13, X13, e13, st13⟩ := getS2 X12 hx hZ hown (host := "") (Or.inl (hw _ (List.mem_of_getElem? (i := 14) rfl))) Via.refl e12 f15 (g := (mkF m 37 #[.val (.int p1), .unset, .unset, .unset, .unset] [(.int (5 : Int32)), (.ref b2), (.ref b2)])) rfl (hb hby at_37)
  have f16 := ((((((E_s_OTHERS.ext E2).wr W4).wr W6).wr W8).wr W10).wr W12)
  obtain ⟨cl_b2_17, Ar_b2_17, q_b2_17, Sz_b2_17, Ng_b2_17, Ha_b2_17, Gt_b2_17⟩ := id V12
  have hin_b2_17 : ¬ ((5 : Int32) < 0 ∨ cl_b2_17.slots.size ≤ ((5 : Int32)).toNatClampNeg) := inb_of Sz_b2_17 ⟨by decide, by decide⟩
  obtain ⟨T14, h14, X14, e14, W14, st14⟩ := stR X13 hx hZ e13 Ar_b2_17 (j := (5 : Int32)) hin_b2_17 rfl (Sto.ofV Ar_b2_17 q_b2_17 O2 (Ins.self f16)) (g := (mkF m 40 #[.val (.int p1), .unset, .unset, .unset, .unset] [(.ref s_OTHERS), (.int (5 : Int32)), (.ref b2), (.ref b2)])) rfl rfl (hb hby at_40)
  have V14 : Arv Z h14 b2 k2 (.object "com/example/coldsleep/coldsleep/game/Aim") (13 : Int32) [(.ref s_REACH_EARTH), (.ref s_REACH_MARS), (.ref s_DEAD_NEXT), (.ref s_DEAD_PREVIOUS), (.ref s_ALONE), (.ref s_OTHERS), .null, .null, .null, .null, .null, .null, .null] .null := Arv.set Ar_b2_17 q_b2_17 Sz_b2_17 Ng_b2_17 Ha_b2_17 Gt_b2_17 rfl W14 5 rfl (Nat.le_of_ble_eq_true rfl)
  have N14 := Fr.snoc X14 N12 g_b2
  have f18 := (((((((S_SURVIVE_POD.ext E2).wr W4).wr W6).wr W8).wr W10).wr W12).wr W14)
  obtain ⟨T15, X15, e15, st15⟩ := getS2 X14 hx hZ hown (host := "") (Or.inl (hw _ (List.mem_of_getElem? (i := 16) rfl))) Via.refl e14 f18 (g := (mkF m 44 #[.val (.int p1), .unset, .unset, .unset, .unset] [(.int (6 : Int32)), (.ref b2), (.ref b2)])) rfl (hb hby at_44)
  have f19 := (((((((E_s_SURVIVE_POD.ext E2).wr W4).wr W6).wr W8).wr W10).wr W12).wr W14)
  obtain ⟨cl_b2_20, Ar_b2_20, q_b2_20, Sz_b2_20, Ng_b2_20, Ha_b2_20, Gt_b2_20⟩ := id V14
  have hin_b2_20 : ¬ ((6 : Int32) < 0 ∨ cl_b2_20.slots.size ≤ ((6 : Int32)).toNatClampNeg) := inb_of Sz_b2_20 ⟨by decide, by decide⟩
  obtain ⟨T16, h16, X16, e16, W16, st16⟩ := stR X15 hx hZ e15 Ar_b2_20 (j := (6 : Int32)) hin_b2_20 rfl (Sto.ofV Ar_b2_20 q_b2_20 O2 (Ins.self f19)) (g := (mkF m 47 #[.val (.int p1), .unset, .unset, .unset, .unset] [(.ref s_SURVIVE_POD), (.int (6 : Int32)), (.ref b2), (.ref b2)])) rfl rfl (hb hby at_47)
  have V16 : Arv Z h16 b2 k2 (.object "com/example/coldsleep/coldsleep/game/Aim") (13 : Int32) [(.ref s_REACH_EARTH), (.ref s_REACH_MARS), (.ref s_DEAD_NEXT), (.ref s_DEAD_PREVIOUS), (.ref s_ALONE), (.ref s_OTHERS), (.ref s_SURVIVE_POD), .null, .null, .null, .null, .null, .null] .null := Arv.set Ar_b2_20 q_b2_20 Sz_b2_20 Ng_b2_20 Ha_b2_20 Gt_b2_20 rfl W16 6 rfl (Nat.le_of_ble_eq_true rfl)
  have N16 := Fr.snoc X16 N14 g_b2
  have f21 := ((((((((S_SURVIVE_HIBERNATED.ext E2).wr W4).wr W6).wr W8).wr W10).wr W12).wr W14).wr W16)
  obtain ⟨T17, X17, e17, st17⟩ := getS2 X16 hx hZ hown (host := "") (Or.inl (hw _ (List.mem_of_getElem? (i := 18) rfl))) Via.refl e16 f21 (g := (mkF m 51 #[.val (.int p1), .unset, .unset, .unset, .unset] [(.int (7 : Int32)), (.ref b2), (.ref b2)])) rfl (hb hby at_51)
  have f22 := ((((((((E_s_SURVIVE_HIBERNATED.ext E2).wr W4).wr W6).wr W8).wr W10).wr W12).wr W14).wr W16)
  obtain ⟨cl_b2_23, Ar_b2_23, q_b2_23, Sz_b2_23, Ng_b2_23, Ha_b2_23, Gt_b2_23⟩ := id V16
  have hin_b2_23 : ¬ ((7 : Int32) < 0 ∨ cl_b2_23.slots.size ≤ ((7 : Int32)).toNatClampNeg) := inb_of Sz_b2_23 ⟨by decide, by decide⟩
  obtain ⟨T18, h18, X18, e18, W18, st18⟩ := stR X17 hx hZ e17 Ar_b2_23 (j := (7 : Int32)) hin_b2_23 rfl (Sto.ofV Ar_b2_23 q_b2_23 O2 (Ins.self f22)) (g := (mkF m 54 #[.val (.int p1), .unset, .unset, .unset, .unset] [(.ref s_SURVIVE_HIBERNATED), (.int (7 : Int32)), (.ref b2), (.ref b2)])) rfl rfl (hb hby at_54)
  have V18 : Arv Z h18 b2 k2 (.object "com/example/coldsleep/coldsleep/game/Aim") (13 : Int32) [(.ref s_REACH_EARTH), (.ref s_REACH_MARS), (.ref s_DEAD_NEXT), (.ref s_DEAD_PREVIOUS), (.ref s_ALONE), (.ref s_OTHERS), (.ref s_SURVIVE_POD), (.ref s_SURVIVE_HIBERNATED), .null, .null, .null, .null, .null] .null := Arv.set Ar_b2_23 q_b2_23 Sz_b2_23 Ng_b2_23 Ha_b2_23 Gt_b2_23 rfl W18 7 rfl (Nat.le_of_ble_eq_true rfl)
  have N18 := Fr.snoc X18 N16 g_b2
  have f24 := (((((((((S_WEAKNESS.ext E2).wr W4).wr W6).wr W8).wr W10).wr W12).wr W14).wr W16).wr W18)
  obtain ⟨T19, X19, e19, st19⟩ := getS2 X18 hx hZ hown (host := "") (Or.inl (hw _ (List.mem_of_getElem? (i := 20) rfl))) Via.refl e18 f24 (g := (mkF m 58 #[.val (.int p1), .unset, .unset, .unset, .unset] [(.int (8 : Int32)), (.ref b2), (.ref b2)])) rfl (hb hby at_58)
  have f25 := (((((((((E_s_WEAKNESS.ext E2).wr W4).wr W6).wr W8).wr W10).wr W12).wr W14).wr W16).wr W18)
  obtain ⟨cl_b2_26, Ar_b2_26, q_b2_26, Sz_b2_26, Ng_b2_26, Ha_b2_26, Gt_b2_26⟩ := id V18
  have hin_b2_26 : ¬ ((8 : Int32) < 0 ∨ cl_b2_26.slots.size ≤ ((8 : Int32)).toNatClampNeg) := inb_of Sz_b2_26 ⟨by decide, by decide⟩
  obtain ⟨T20, h20, X20, e20, W20, st20⟩ := stR X19 hx hZ e19 Ar_b2_26 (j := (8 : Int32)) hin_b2_26 rfl (Sto.ofV Ar_b2_26 q_b2_26 O2 (Ins.self f25)) (g := (mkF m 61 #[.val (.int p1), .unset, .unset, .unset, .unset] [(.ref s_WEAKNESS), (.int (8 : Int32)), (.ref b2), (.ref b2)])) rfl rfl (hb hby at_61)
  have V20 : Arv Z h20 b2 k2 (.object "com/example/coldsleep/coldsleep/game/Aim") (13 : Int32) [(.ref s_REACH_EARTH), (.ref s_REACH_MARS), (.ref s_DEAD_NEXT), (.ref s_DEAD_PREVIOUS), (.ref s_ALONE), (.ref s_OTHERS), (.ref s_SURVIVE_POD), (.ref s_SURVIVE_HIBERNATED), (.ref s_WEAKNESS), .null, .null, .null, .null] .null := Arv.set Ar_b2_26 q_b2_26 Sz_b2_26 Ng_b2_26 Ha_b2_26 Gt_b2_26 rfl W20 8 rfl (Nat.le_of_ble_eq_true rfl)
  have N20 := Fr.snoc X20 N18 g_b2
  have f27 := ((((((((((S_NEST.ext E2).wr W4).wr W6).wr W8).wr W10).wr W12).wr W14).wr W16).wr W18).wr W20)
  obtain ⟨T21, X21, e21, st21⟩ := getS2 X20 hx hZ hown (host := "") (Or.inl (hw _ (List.mem_of_getElem? (i := 22) rfl))) Via.refl e20 f27 (g := (mkF m 65 #[.val (.int p1), .unset, .unset, .unset, .unset] [(.int (9 : Int32)), (.ref b2), (.ref b2)])) rfl (hb hby at_65)
  have f28 := ((((((((((E_s_NEST.ext E2).wr W4).wr W6).wr W8).wr W10).wr W12).wr W14).wr W16).wr W18).wr W20)
  obtain ⟨cl_b2_29, Ar_b2_29, q_b2_29, Sz_b2_29, Ng_b2_29, Ha_b2_29, Gt_b2_29⟩ := id V20
  have hin_b2_29 : ¬ ((9 : Int32) < 0 ∨ cl_b2_29.slots.size ≤ ((9 : Int32)).toNatClampNeg) := inb_of Sz_b2_29 ⟨by decide, by decide⟩
  obtain ⟨T22, h22, X22, e22, W22, st22⟩ := stR X21 hx hZ e21 Ar_b2_29 (j := (9 : Int32)) hin_b2_29 rfl (Sto.ofV Ar_b2_29 q_b2_29 O2 (Ins.self f28)) (g := (mkF m 68 #[.val (.int p1), .unset, .unset, .unset, .unset] [(.ref s_NEST), (.int (9 : Int32)), (.ref b2), (.ref b2)])) rfl rfl (hb hby at_68)
  have V22 : Arv Z h22 b2 k2 (.object "com/example/coldsleep/coldsleep/game/Aim") (13 : Int32) [(.ref s_REACH_EARTH), (.ref s_REACH_MARS), (.ref s_DEAD_NEXT), (.ref s_DEAD_PREVIOUS), (.ref s_ALONE), (.ref s_OTHERS), (.ref s_SURVIVE_POD), (.ref s_SURVIVE_HIBERNATED), (.ref s_WEAKNESS), (.ref s_NEST), .null, .null, .null] .null := Arv.set Ar_b2_29 q_b2_29 Sz_b2_29 Ng_b2_29 Ha_b2_29 Gt_b2_29 rfl W22 9 rfl (Nat.le_of_ble_eq_true rfl)
  have N22 := Fr.snoc X22 N20 g_b2
  have f30 := (((((((((((S_QUEEN.ext E2).wr W4).wr W6).wr W8).wr W10).wr W12).wr W14).wr W16).wr W18).wr W20).wr W22)
  obtain ⟨T23, X23, e23, st23⟩ := getS2 X22 hx hZ hown (host := "") (Or.inl (hw _ (List.mem_of_getElem? (i := 24) rfl))) Via.refl e22 f30 (g := (mkF m 72 #[.val (.int p1), .unset, .unset, .unset, .unset] [(.int (10 : Int32)), (.ref b2), (.ref b2)])) rfl (hb hby at_72)
  have f31 := (((((((((((E_s_QUEEN.ext E2).wr W4).wr W6).wr W8).wr W10).wr W12).wr W14).wr W16).wr W18).wr W20).wr W22)
  obtain ⟨cl_b2_32, Ar_b2_32, q_b2_32, Sz_b2_32, Ng_b2_32, Ha_b2_32, Gt_b2_32⟩ := id V22
  have hin_b2_32 : ¬ ((10 : Int32) < 0 ∨ cl_b2_32.slots.size ≤ ((10 : Int32)).toNatClampNeg) := inb_of Sz_b2_32 ⟨by decide, by decide⟩
  obtain ⟨T24, h24, X24, e24, W24, st24⟩ := stR X23 hx hZ e23 Ar_b2_32 (j := (10 : Int32)) hin_b2_32 rfl (Sto.ofV Ar_b2_32 q_b2_32 O2 (Ins.self f31)) (g := (mkF m 75 #[.val (.int p1), .unset, .unset, .unset, .unset] [(.ref s_QUEEN), (.int (10 : Int32)), (.ref b2), (.ref b2)])) rfl rfl (hb hby at_75)
  have V24 : Arv Z h24 b2 k2 (.object "com/example/coldsleep/coldsleep/game/Aim") (13 : Int32) [(.ref s_REACH_EARTH), (.ref s_REACH_MARS), (.ref s_DEAD_NEXT), (.ref s_DEAD_PREVIOUS), (.ref s_ALONE), (.ref s_OTHERS), (.ref s_SURVIVE_POD), (.ref s_SURVIVE_HIBERNATED), (.ref s_WEAKNESS), (.ref s_NEST), (.ref s_QUEEN), .null, .null] .null := Arv.set Ar_b2_32 q_b2_32 Sz_b2_32 Ng_b2_32 Ha_b2_32 Gt_b2_32 rfl W24 10 rfl (Nat.le_of_ble_eq_true rfl)
  have N24 := Fr.snoc X24 N22 g_b2
  have f33 := ((((((((((((S_BREEDER.ext E2).wr W4).wr W6).wr W8).wr W10).wr W12).wr W14).wr W16).wr W18).wr W20).wr W22).wr W24)
  obtain ⟨T25, X25, e25, st25⟩ := getS2 X24 hx hZ hown (host := "") (Or.inl (hw _ (List.mem_of_getElem? (i := 26) rfl))) Via.refl e24 f33 (g := (mkF m 79 #[.val (.int p1), .unset, .unset, .unset, .unset] [(.int (11 : Int32)), (.ref b2), (.ref b2)])) rfl (hb hby at_79)
  have f34 := ((((((((((((E_s_BREEDER.ext E2).wr W4).wr W6).wr W8).wr W10).wr W12).wr W14).wr W16).wr W18).wr W20).wr W22).wr W24)
  obtain ⟨cl_b2_35, Ar_b2_35, q_b2_35, Sz_b2_35, Ng_b2_35, Ha_b2_35, Gt_b2_35⟩ := id V24
  have hin_b2_35 : ¬ ((11 : Int32) < 0 ∨ cl_b2_35.slots.size ≤ ((11 : Int32)).toNatClampNeg) := inb_of Sz_b2_35 ⟨by decide, by decide⟩
  obtain ⟨T26, h26, X26, e26, W26, st26⟩ := stR X25 hx hZ e25 Ar_b2_35 (j := (11 : Int32)) hin_b2_35 rfl (Sto.ofV Ar_b2_35 q_b2_35 O2 (Ins.self f34)) (g := (mkF m 82 #[.val (.int p1), .unset, .unset, .unset, .unset] [(.ref s_BREEDER), (.int (11 : Int32)), (.ref b2), (.ref b2)])) rfl rfl (hb hby at_82)
  have V26 : Arv Z h26 b2 k2 (.object "com/example/coldsleep/coldsleep/game/Aim") (13 : Int32) [(.ref s_REACH_EARTH), (.ref s_REACH_MARS), (.ref s_DEAD_NEXT), (.ref s_DEAD_PREVIOUS), (.ref s_ALONE), (.ref s_OTHERS), (.ref s_SURVIVE_POD), (.ref s_SURVIVE_HIBERNATED), (.ref s_WEAKNESS), (.ref s_NEST), (.ref s_QUEEN), (.ref s_BREEDER), .null] .null := Arv.set Ar_b2_35 q_b2_35 Sz_b2_35 Ng_b2_35 Ha_b2_35 Gt_b2_35 rfl W26 11 rfl (Nat.le_of_ble_eq_true rfl)
  have N26 := Fr.snoc X26 N24 g_b2
  have f36 := (((((((((((((S_SIGNAL.ext E2).wr W4).wr W6).wr W8).wr W10).wr W12).wr W14).wr W16).wr W18).wr W20).wr W22).wr W24).wr W26)
  obtain ⟨T27, X27, e27, st27⟩ := getS2 X26 hx hZ hown (host := "") (Or.inl (hw _ (List.mem_of_getElem? (i := 28) rfl))) Via.refl e26 f36 (g := (mkF m 86 #[.val (.int p1), .unset, .unset, .unset, .unset] [(.int (12 : Int32)), (.ref b2), (.ref b2)])) rfl (hb hby at_86)
  have f37 := (((((((((((((E_s_SIGNAL.ext E2).wr W4).wr W6).wr W8).wr W10).wr W12).wr W14).wr W16).wr W18).wr W20).wr W22).wr W24).wr W26)
  obtain ⟨cl_b2_38, Ar_b2_38, q_b2_38, Sz_b2_38, Ng_b2_38, Ha_b2_38, Gt_b2_38⟩ := id V26
  have hin_b2_38 : ¬ ((12 : Int32) < 0 ∨ cl_b2_38.slots.size ≤ ((12 : Int32)).toNatClampNeg) := inb_of Sz_b2_38 ⟨by decide, by decide⟩
  obtain ⟨T28, h28, X28, e28, W28, st28⟩ := stR X27 hx hZ e27 Ar_b2_38 (j := (12 : Int32)) hin_b2_38 rfl (Sto.ofV Ar_b2_38 q_b2_38 O2 (Ins.self f37)) (g := (mkF m 89 #[.val (.int p1), .unset, .unset, .unset, .unset] [(.ref s_SIGNAL), (.int (12 : Int32)), (.ref b2), (.ref b2)])) rfl rfl (hb hby at_89)
  have V28 : Arv Z h28 b2 k2 (.object "com/example/coldsleep/coldsleep/game/Aim") (13 : Int32) [(.ref s_REACH_EARTH), (.ref s_REACH_MARS), (.ref s_DEAD_NEXT), (.ref s_DEAD_PREVIOUS), (.ref s_ALONE), (.ref s_OTHERS), (.ref s_SURVIVE_POD), (.ref s_SURVIVE_HIBERNATED), (.ref s_WEAKNESS), (.ref s_NEST), (.ref s_QUEEN), (.ref s_BREEDER), (.ref s_SIGNAL)] .null := Arv.set Ar_b2_38 q_b2_38 Sz_b2_38 Ng_b2_38 Ha_b2_38 Gt_b2_38 rfl W28 12 rfl (Nat.le_of_ble_eq_true rfl)
  have N28 := Fr.snoc X28 N26 g_b2
  obtain ⟨cl_b2_39, Ar_b2_39, q_b2_39, Sz_b2_39, Ng_b2_39, Ha_b2_39, Gt_b2_39⟩ := id V28
  have hin_b2_39 : ¬ ((t0_0 p1) < 0 ∨ cl_b2_39.slots.size ≤ ((t0_0 p1)).toNatClampNeg) := inb_of Sz_b2_39 hi101
  have hat_b2_39 : cl_b2_39.slots[((t0_0 p1)).toNatClampNeg]? = some (.ref w101) := (Ha_b2_39 _ (Nat.lt_of_not_le fun q => hin_b2_39 (Or.inr q))).trans (congrArg some (hs101 : (([(.ref s_REACH_EARTH), (.ref s_REACH_MARS), (.ref s_DEAD_NEXT), (.ref s_DEAD_PREVIOUS), (.ref s_ALONE), (.ref s_OTHERS), (.ref s_SURVIVE_POD), (.ref s_SURVIVE_HIBERNATED), (.ref s_WEAKNESS), (.ref s_NEST), (.ref s_QUEEN), (.ref s_BREEDER), (.ref s_SIGNAL)] : List Value)).getD ((t0_0 p1)).toNatClampNeg .null = (.ref w101)))
  have f40 := ((((((((f15.wr W14).wr W16).wr W18).wr W20).wr W22).wr W24).wr W26).wr W28)
  have f41 := (((((f24.wr W20).wr W22).wr W24).wr W26).wr W28)
  have f42 := ((((((((((((((E_w101.ext E2).wr W4).wr W6).wr W8).wr W10).wr W12).wr W14).wr W16).wr W18).wr W20).wr W22).wr W24).wr W26).wr W28)
  obtain ⟨cq29, kq29, q29a, q29b, q29c⟩ := isOf hZ e28 f42
  obtain ⟨_, _, ⟨T29, L29, k29, n29⟩, -, X29, ⟨Lc29, hQ29, l29, y29, z29⟩, st29⟩ := X28.virtualBack hx (y := (⟨"com/example/coldsleep/coldsleep/game/Aim", "counts", "()Z"⟩ : MethodName)) (z := (⟨"com/example/coldsleep/coldsleep/game/Aim", "counts", "()Z"⟩ : MethodName)) hown (mvT hZ (hw _ (List.mem_of_getElem? (i := 31) rfl))) (mvT hZ (hw _ (List.mem_of_getElem? (i := 32) rfl))) (notFace_of_selects (args := #[]) (mvT hZ (hw _ (List.mem_of_getElem? (i := 34) rfl)))) (mvT hZ (hw _ (List.mem_of_getElem? (i := 34) rfl))) (mvT hZ (hw _ (List.mem_of_getElem? (i := 33) rfl))) (by decide) (backOf (W := 0) (rm1 l Z a0 hw [] w101 s_OTHERS s_WEAKNESS h28 n0 (Nat.le_trans (Nat.le_trans (Nat.le_trans (Nat.le_trans (Nat.le_trans (Nat.le_trans (Nat.le_trans (Nat.le_trans (Nat.le_trans (Nat.le_trans (Nat.le_trans (Nat.le_trans (Nat.le_trans (Nat.le_trans Z0 E2.1) (Keep.of_wr W4).1) (Keep.of_wr W6).1) (Keep.of_wr W8).1) (Keep.of_wr W10).1) (Keep.of_wr W12).1) (Keep.of_wr W14).1) (Keep.of_wr W16).1) (Keep.of_wr W18).1) (Keep.of_wr W20).1) (Keep.of_wr W22).1) (Keep.of_wr W24).1) (Keep.of_wr W26).1) (Keep.of_wr W28).1) f40 f41) hZ (hw _ (List.mem_of_getElem? (i := 35) rfl)) (hw _ (List.mem_of_getElem? (i := 3) rfl)) (by decide) (by decide)) q29a q29c (g := (mkF m 124 #[.val (.int p1), .val (.ref b2), .val (.int (t0_0 p1)), .val (.ref w101), .val (.int (0 : Int32))] [(.ref w101)])) rfl (by rw [hml]; rfl) (Steps.refl _) (argsL := []) (rest := []) (lenOf pd__28_29Z rfl) rfl (by show 2 * 0 + _ ≤ _; exact Nat.le_of_eq rfl) (hb hby at_124) (fun _ _ => ⟨rfl, e28, (by decide : 1 + 0 ≤ _), (by decide : 13 + 0 ≤ _)⟩)
  dsimp only [Pt.U, Pt.locs, Pt.cells, Pt.slots] at X29 l29 y29 z29 st29 hQ29
  subst l29 y29 z29
  obtain ⟨rfl, N29q, e29⟩ := hQ29
  have N29 := Fr.app N28 N29q
  obtain ⟨fs, hr, hrun, hended, hW, hsame⟩ := X29.leave (v := some (.int (1 : Int32))) (fun h => by rw [Bd.returns] at h; cases h)
  refine ⟨_, _, pre0 _ ?_, hrun, hended, _, _, rfl, ?_, ⟨_, rfl⟩, hW, hsame.mono (by decide) (by decide)⟩
  · show Steps p.tables e below (s₁.setTop (mkF m 0 #[.val (.int p1), .unset, .unset, .unset, .unset] [])) _
    refine XS.bipush X0.here hx rfl (hb hby at_0) ?_
    show Steps p.tables e below (s₁.setTop (mkF m 2 #[.val (.int p1), .unset, .unset, .unset, .unset] [(.int (13 : Int32))])) _
    refine st2 _ ?_
    show Steps p.tables e below (T2.setTop (mkF m 5 #[.val (.int p1), .unset, .unset, .unset, .unset] [(.ref b2)])) _
    refine XS.dup X2.here hx rfl (hb hby at_5) rfl rfl ?_
    show Steps p.tables e below (T2.setTop (mkF m 6 #[.val (.int p1), .unset, .unset, .unset, .unset] [(.ref b2), (.ref b2)])) _
    refine XS.iconst X2.here hx rfl (hb hby at_6) ?_
    show Steps p.tables e below (T2.setTop (mkF m 7 #[.val (.int p1), .unset, .unset, .unset, .unset] [(.int (0 : Int32)), (.ref b2), (.ref b2)])) _
    refine st3 _ ?_
    show Steps p.tables e below (T3.setTop (mkF m 10 #[.val (.int p1), .unset, .unset, .unset, .unset] [(.ref s_REACH_EARTH), (.int (0 : Int32)), (.ref b2), (.ref b2)])) _
    refine st4 _ ?_
    show Steps p.tables e below (T4.setTop (mkF m 11 #[.val (.int p1), .unset, .unset, .unset, .unset] [(.ref b2)])) _
    refine XS.dup X4.here hx rfl (hb hby at_11) rfl rfl ?_
    show Steps p.tables e below (T4.setTop (mkF m 12 #[.val (.int p1), .unset, .unset, .unset, .unset] [(.ref b2), (.ref b2)])) _
    refine XS.iconst X4.here hx rfl (hb hby at_12) ?_
    show Steps p.tables e below (T4.setTop (mkF m 13 #[.val (.int p1), .unset, .unset, .unset, .unset] [(.int (1 : Int32)), (.ref b2), (.ref b2)])) _
    refine st5 _ ?_
    show Steps p.tables e below (T5.setTop (mkF m 16 #[.val (.int p1), .unset, .unset, .unset, .unset] [(.ref s_REACH_MARS), (.int (1 : Int32)), (.ref b2), (.ref b2)])) _
    refine st6 _ ?_
    show Steps p.tables e below (T6.setTop (mkF m 17 #[.val (.int p1), .unset, .unset, .unset, .unset] [(.ref b2)])) _
    refine XS.dup X6.here hx rfl (hb hby at_17) rfl rfl ?_
    show Steps p.tables e below (T6.setTop (mkF m 18 #[.val (.int p1), .unset, .unset, .unset, .unset] [(.ref b2), (.ref b2)])) _
    refine XS.iconst X6.here hx rfl (hb hby at_18) ?_
    show Steps p.tables e below (T6.setTop (mkF m 19 #[.val (.int p1), .unset, .unset, .unset, .unset] [(.int (2 : Int32)), (.ref b2), (.ref b2)])) _
    refine st7 _ ?_
    show Steps p.tables e below (T7.setTop (mkF m 22 #[.val (.int p1), .unset, .unset, .unset, .unset] [(.ref s_DEAD_NEXT), (.int (2 : Int32)), (.ref b2), (.ref b2)])) _
    refine st8 _ ?_
    show Steps p.tables e below (T8.setTop (mkF m 23 #[.val (.int p1), .unset, .unset, .unset, .unset] [(.ref b2)])) _
    refine XS.dup X8.here hx rfl (hb hby at_23) rfl rfl ?_
    show Steps p.tables e below (T8.setTop (mkF m 24 #[.val (.int p1), .unset, .unset, .unset, .unset] [(.ref b2), (.ref b2)])) _
    refine XS.iconst X8.here hx rfl (hb hby at_24) ?_
    show Steps p.tables e below (T8.setTop (mkF m 25 #[.val (.int p1), .unset, .unset, .unset, .unset] [(.int (3 : Int32)), (.ref b2), (.ref b2)])) _
    refine st9 _ ?_
    show Steps p.tables e below (T9.setTop (mkF m 28 #[.val (.int p1), .unset, .unset, .unset, .unset] [(.ref s_DEAD_PREVIOUS), (.int (3 : Int32)), (.ref b2), (.ref b2)])) _
    refine st10 _ ?_
    show Steps p.tables e below (T10.setTop (mkF m 29 #[.val (.int p1), .unset, .unset, .unset, .unset] [(.ref b2)])) _
    refine XS.dup X10.here hx rfl (hb hby at_29) rfl rfl ?_
    show Steps p.tables e below (T10.setTop (mkF m 30 #[.val (.int p1), .unset, .unset, .unset, .unset] [(.ref b2), (.ref b2)])) _
    refine XS.iconst X10.here hx rfl (hb hby at_30) ?_
    show Steps p.tables e below (T10.setTop (mkF m 31 #[.val (.int p1), .unset, .unset, .unset, .unset] [(.int (4 : Int32)), (.ref b2), (.ref b2)])) _
    refine st11 _ ?_
    show Steps p.tables e below (T11.setTop (mkF m 34 #[.val (.int p1), .unset, .unset, .unset, .unset] [(.ref s_ALONE), (.int (4 : Int32)), (.ref b2), (.ref b2)])) _
    refine st12 _ ?_
    show Steps p.tables e below (T12.setTop (mkF m 35 #[.val (.int p1), .unset, .unset, .unset, .unset] [(.ref b2)])) _
    refine XS.dup X12.here hx rfl (hb hby at_35) rfl rfl ?_
    show Steps p.tables e below (T12.setTop (mkF m 36 #[.val (.int p1), .unset, .unset, .unset, .unset] [(.ref b2), (.ref b2)])) _
    refine XS.iconst X12.here hx rfl (hb hby at_36) ?_
    show Steps p.tables e below (T12.setTop (mkF m 37 #[.val (.int p1), .unset, .unset, .unset, .unset] [(.int (5 : Int32)), (.ref b2), (.ref b2)])) _
    refine st13 _ ?_
    show Steps p.tables e below (T13.setTop (mkF m 40 #[.val (.int p1), .unset, .unset, .unset, .unset] [(.ref s_OTHERS), (.int (5 : Int32)), (.ref b2), (.ref b2)])) _
    refine st14 _ ?_
    show Steps p.tables e below (T14.setTop (mkF m 41 #[.val (.int p1), .unset, .unset, .unset, .unset] [(.ref b2)])) _
    refine XS.dup X14.here hx rfl (hb hby at_41) rfl rfl ?_
    show Steps p.tables e below (T14.setTop (mkF m 42 #[.val (.int p1), .unset, .unset, .unset, .unset] [(.ref b2), (.ref b2)])) _
    refine XS.bipush X14.here hx rfl (hb hby at_42) ?_
    show Steps p.tables e below (T14.setTop (mkF m 44 #[.val (.int p1), .unset, .unset, .unset, .unset] [(.int (6 : Int32)), (.ref b2), (.ref b2)])) _
    refine st15 _ ?_
    show Steps p.tables e below (T15.setTop (mkF m 47 #[.val (.int p1), .unset, .unset, .unset, .unset] [(.ref s_SURVIVE_POD), (.int (6 : Int32)), (.ref b2), (.ref b2)])) _
    refine st16 _ ?_
    show Steps p.tables e below (T16.setTop (mkF m 48 #[.val (.int p1), .unset, .unset, .unset, .unset] [(.ref b2)])) _
    refine XS.dup X16.here hx rfl (hb hby at_48) rfl rfl ?_
    show Steps p.tables e below (T16.setTop (mkF m 49 #[.val (.int p1), .unset, .unset, .unset, .unset] [(.ref b2), (.ref b2)])) _
    refine XS.bipush X16.here hx rfl (hb hby at_49) ?_
    show Steps p.tables e below (T16.setTop (mkF m 51 #[.val (.int p1), .unset, .unset, .unset, .unset] [(.int (7 : Int32)), (.ref b2), (.ref b2)])) _
    refine st17 _ ?_
    show Steps p.tables e below (T17.setTop (mkF m 54 #[.val (.int p1), .unset, .unset, .unset, .unset] [(.ref s_SURVIVE_HIBERNATED), (.int (7 : Int32)), (.ref b2), (.ref b2)])) _
    refine st18 _ ?_
    show Steps p.tables e below (T18.setTop (mkF m 55 #[.val (.int p1), .unset, .unset, .unset, .unset] [(.ref b2)])) _
    refine XS.dup X18.here hx rfl (hb hby at_55) rfl rfl ?_
    show Steps p.tables e below (T18.setTop (mkF m 56 #[.val (.int p1), .unset, .unset, .unset, .unset] [(.ref b2), (.ref b2)])) _
    refine XS.bipush X18.here hx rfl (hb hby at_56) ?_
    show Steps p.tables e below (T18.setTop (mkF m 58 #[.val (.int p1), .unset, .unset, .unset, .unset] [(.int (8 : Int32)), (.ref b2), (.ref b2)])) _
    refine st19 _ ?_
    show Steps p.tables e below (T19.setTop (mkF m 61 #[.val (.int p1), .unset, .unset, .unset, .unset] [(.ref s_WEAKNESS), (.int (8 : Int32)), (.ref b2), (.ref b2)])) _
    refine st20 _ ?_
    show Steps p.tables e below (T20.setTop (mkF m 62 #[.val (.int p1), .unset, .unset, .unset, .unset] [(.ref b2)])) _
    refine XS.dup X20.here hx rfl (hb hby at_62) rfl rfl ?_
    show Steps p.tables e below (T20.setTop (mkF m 63 #[.val (.int p1), .unset, .unset, .unset, .unset] [(.ref b2), (.ref b2)])) _
    refine XS.bipush X20.here hx rfl (hb hby at_63) ?_
    show Steps p.tables e below (T20.setTop (mkF m 65 #[.val (.int p1), .unset, .unset, .unset, .unset] [(.int (9 : Int32)), (.ref b2), (.ref b2)])) _
    refine st21 _ ?_
    show Steps p.tables e below (T21.setTop (mkF m 68 #[.val (.int p1), .unset, .unset, .unset, .unset] [(.ref s_NEST), (.int (9 : Int32)), (.ref b2), (.ref b2)])) _
    refine st22 _ ?_
    show Steps p.tables e below (T22.setTop (mkF m 69 #[.val (.int p1), .unset, .unset, .unset, .unset] [(.ref b2)])) _
    refine XS.dup X22.here hx rfl (hb hby at_69) rfl rfl ?_
    show Steps p.tables e below (T22.setTop (mkF m 70 #[.val (.int p1), .unset, .unset, .unset, .unset] [(.ref b2), (.ref b2)])) _
    refine XS.bipush X22.here hx rfl (hb hby at_70) ?_
    show Steps p.tables e below (T22.setTop (mkF m 72 #[.val (.int p1), .unset, .unset, .unset, .unset] [(.int (10 : Int32)), (.ref b2), (.ref b2)])) _
    refine st23 _ ?_
    show Steps p.tables e below (T23.setTop (mkF m 75 #[.val (.int p1), .unset, .unset, .unset, .unset] [(.ref s_QUEEN), (.int (10 : Int32)), (.ref b2), (.ref b2)])) _
    refine st24 _ ?_
    show Steps p.tables e below (T24.setTop (mkF m 76 #[.val (.int p1), .unset, .unset, .unset, .unset] [(.ref b2)])) _
    refine XS.dup X24.here hx rfl (hb hby at_76) rfl rfl ?_
    show Steps p.tables e below (T24.setTop (mkF m 77 #[.val (.int p1), .unset, .unset, .unset, .unset] [(.ref b2), (.ref b2)])) _
    refine XS.bipush X24.here hx rfl (hb hby at_77) ?_
    show Steps p.tables e below (T24.setTop (mkF m 79 #[.val (.int p1), .unset, .unset, .unset, .unset] [(.int (11 : Int32)), (.ref b2), (.ref b2)])) _
    refine st25 _ ?_
    show Steps p.tables e below (T25.setTop (mkF m 82 #[.val (.int p1), .unset, .unset, .unset, .unset] [(.ref s_BREEDER), (.int (11 : Int32)), (.ref b2), (.ref b2)])) _
    refine st26 _ ?_
    show Steps p.tables e below (T26.setTop (mkF m 83 #[.val (.int p1), .unset, .unset, .unset, .unset] [(.ref b2)])) _
    refine XS.dup X26.here hx rfl (hb hby at_83) rfl rfl ?_
    show Steps p.tables e below (T26.setTop (mkF m 84 #[.val (.int p1), .unset, .unset, .unset, .unset] [(.ref b2), (.ref b2)])) _
    refine XS.bipush X26.here hx rfl (hb hby at_84) ?_
    show Steps p.tables e below (T26.setTop (mkF m 86 #[.val (.int p1), .unset, .unset, .unset, .unset] [(.int (12 : Int32)), (.ref b2), (.ref b2)])) _
    refine st27 _ ?_
    show Steps p.tables e below (T27.setTop (mkF m 89 #[.val (.int p1), .unset, .unset, .unset, .unset] [(.ref s_SIGNAL), (.int (12 : Int32)), (.ref b2), (.ref b2)])) _
    refine st28 _ ?_
    show Steps p.tables e below (T28.setTop (mkF m 90 #[.val (.int p1), .unset, .unset, .unset, .unset] [(.ref b2)])) _
    refine XS.astoreN X28.here hx rfl (hb hby at_90) rfl rfl (l' := #[.val (.int p1), .val (.ref b2), .unset, .unset, .unset]) rfl ?_
    show Steps p.tables e below (T28.setTop (mkF m 91 #[.val (.int p1), .val (.ref b2), .unset, .unset, .unset] [])) _
    refine XS.iloadN X28.here hx rfl (hb hby at_91) rfl ?_
    show Steps p.tables e below (T28.setTop (mkF m 92 #[.val (.int p1), .val (.ref b2), .unset, .unset, .unset] [(.int p1)])) _
    refine X28.ldcInt hx hown (mvT hZ (hw _ (List.mem_of_getElem? (i := 30) rfl))) (g := (mkF m 92 #[.val (.int p1), .val (.ref b2), .unset, .unset, .unset] [(.int p1)])) rfl (hb hby at_92) _ ?_
    show Steps p.tables e below (T28.setTop (mkF m 94 #[.val (.int p1), .val (.ref b2), .unset, .unset, .unset] [(.int (2147483647 : Int32)), (.int p1)])) _
    refine XS.iand X28.here hx rfl (hb hby at_94) rfl ?_
    show Steps p.tables e below (T28.setTop (mkF m 95 #[.val (.int p1), .val (.ref b2), .unset, .unset, .unset] [(.int (p1 &&& (2147483647 : Int32)))])) _
    refine XS.bipush X28.here hx rfl (hb hby at_95) ?_
    show Steps p.tables e below (T28.setTop (mkF m 97 #[.val (.int p1), .val (.ref b2), .unset, .unset, .unset] [(.int (13 : Int32)), (.int (p1 &&& (2147483647 : Int32)))])) _
    refine XS.irem X28.here hx rfl (hb hby at_97) rfl (by decide) ?_
    show Steps p.tables e below (T28.setTop (mkF m 98 #[.val (.int p1), .val (.ref b2), .unset, .unset, .unset] [(.int ((p1 &&& (2147483647 : Int32)) - ((p1 &&& (2147483647 : Int32)) / (13 : Int32)) * (13 : Int32)))])) _
    refine XS.istoreN X28.here hx rfl (hb hby at_98) rfl (l' := #[.val (.int p1), .val (.ref b2), .val (.int (t0_0 p1)), .unset, .unset]) rfl ?_
    show Steps p.tables e below (T28.setTop (mkF m 99 #[.val (.int p1), .val (.ref b2), .val (.int (t0_0 p1)), .unset, .unset] [])) _
    refine XS.aloadN X28.here hx rfl (hb hby at_99) rfl rfl ?_
    show Steps p.tables e below (T28.setTop (mkF m 100 #[.val (.int p1), .val (.ref b2), .val (.int (t0_0 p1)), .unset, .unset] [(.ref b2)])) _
    refine XS.iloadN X28.here hx rfl (hb hby at_100) rfl ?_
    show Steps p.tables e below (T28.setTop (mkF m 101 #[.val (.int p1), .val (.ref b2), .val (.int (t0_0 p1)), .unset, .unset] [(.int (t0_0 p1)), (.ref b2)])) _
    refine X28.aaload hx (j := (t0_0 p1)) (v := (.ref w101)) (by rw [e28]; exact Ar_b2_39.1) (State.isArrayOf_alike hZ.alike Ar_b2_39.2.1) rfl Ar_b2_39.2.2 hin_b2_39 hat_b2_39 (g := (mkF m 101 #[.val (.int p1), .val (.ref b2), .val (.int (t0_0 p1)), .unset, .unset] [(.int (t0_0 p1)), (.ref b2)])) rfl rfl (hb hby at_101) _ ?_
    show Steps p.tables e below (T28.setTop (mkF m 102 #[.val (.int p1), .val (.ref b2), .val (.int (t0_0 p1)), .unset, .unset] [(.ref w101)])) _
    refine XS.astoreN X28.here hx rfl (hb hby at_102) rfl rfl (l' := #[.val (.int p1), .val (.ref b2), .val (.int (t0_0 p1)), .val (.ref w101), .unset]) rfl ?_
    show Steps p.tables e below (T28.setTop (mkF m 103 #[.val (.int p1), .val (.ref b2), .val (.int (t0_0 p1)), .val (.ref w101), .unset] [])) _
    refine XS.iconst X28.here hx rfl (hb hby at_103) ?_
    show Steps p.tables e below (T28.setTop (mkF m 104 #[.val (.int p1), .val (.ref b2), .val (.int (t0_0 p1)), .val (.ref w101), .unset] [(.int (0 : Int32))])) _
    refine XS.istore X28.here hx rfl (hb hby at_104) rfl (l' := #[.val (.int p1), .val (.ref b2), .val (.int (t0_0 p1)), .val (.ref w101), .val (.int (0 : Int32))]) rfl ?_
    show Steps p.tables e below (T28.setTop (mkF m 106 #[.val (.int p1), .val (.ref b2), .val (.int (t0_0 p1)), .val (.ref w101), .val (.int (0 : Int32))] [])) _
    refine XS.iloadN X28.here hx rfl (hb hby at_106) rfl ?_
    show Steps p.tables e below (T28.setTop (mkF m 107 #[.val (.int p1), .val (.ref b2), .val (.int (t0_0 p1)), .val (.ref w101), .val (.int (0 : Int32))] [(.int (t0_0 p1))])) _
    refine XS.iconst X28.here hx rfl (hb hby at_107) ?_
    show Steps p.tables e below (T28.setTop (mkF m 108 #[.val (.int p1), .val (.ref b2), .val (.int (t0_0 p1)), .val (.ref w101), .val (.int (0 : Int32))] [(.int (5 : Int32)), (.int (t0_0 p1))])) _
    refine XS.icmpYes X28.here hx rfl (pc0 := 108) (pc' := 114) rfl (hb hby at_108) rfl (feq hc108).2 (by decide) (by decide) ?_
    show Steps p.tables e below (T28.setTop (mkF m 114 #[.val (.int p1), .val (.ref b2), .val (.int (t0_0 p1)), .val (.ref w101), .val (.int (0 : Int32))] [])) _
    refine XS.iloadN X28.here hx rfl (hb hby at_114) rfl ?_
    show Steps p.tables e below (T28.setTop (mkF m 115 #[.val (.int p1), .val (.ref b2), .val (.int (t0_0 p1)), .val (.ref w101), .val (.int (0 : Int32))] [(.int (t0_0 p1))])) _
    refine XS.bipush X28.here hx rfl (hb hby at_115) ?_
    show Steps p.tables e below (T28.setTop (mkF m 117 #[.val (.int p1), .val (.ref b2), .val (.int (t0_0 p1)), .val (.ref w101), .val (.int (0 : Int32))] [(.int (8 : Int32)), (.int (t0_0 p1))])) _
    refine XS.icmpYes X28.here hx rfl (pc0 := 117) (pc' := 123) rfl (hb hby at_117) rfl (feq hc117).2 (by decide) (by decide) ?_
    show Steps p.tables e below (T28.setTop (mkF m 123 #[.val (.int p1), .val (.ref b2), .val (.int (t0_0 p1)), .val (.ref w101), .val (.int (0 : Int32))] [])) _
    refine XS.aloadN X28.here hx rfl (hb hby at_123) rfl rfl ?_
    show Steps p.tables e below (T28.setTop (mkF m 124 #[.val (.int p1), .val (.ref b2), .val (.int (t0_0 p1)), .val (.ref w101), .val (.int (0 : Int32))] [(.ref w101)])) _
    refine st29.trans ?_
    show Steps p.tables e below (T29.setTop (mkF m 127 #[.val (.int p1), .val (.ref b2), .val (.int (t0_0 p1)), .val (.ref w101), .val (.int (0 : Int32))] [(.int (F1 w101 s_OTHERS s_WEAKNESS))])) _
    refine XS.iload X29.here hx rfl (hb hby at_127) rfl ?_
    show Steps p.tables e below (T29.setTop (mkF m 129 #[.val (.int p1), .val (.ref b2), .val (.int (t0_0 p1)), .val (.ref w101), .val (.int (0 : Int32))] [(.int (0 : Int32)), (.int (F1 w101 s_OTHERS s_WEAKNESS))])) _
    refine XS.icmpNo X29.here hx rfl (hb hby at_129) rfl (teq (show (F1 w101 s_OTHERS s_WEAKNESS) = (0 : Int32) from by rw [hrel]; first | rw [if_pos hc108] | rw [if_neg hc108, if_pos hc117] | rw [if_neg hc108, if_neg hc117])).2 ?_
    show Steps p.tables e below (T29.setTop (mkF m 132 #[.val (.int p1), .val (.ref b2), .val (.int (t0_0 p1)), .val (.ref w101), .val (.int (0 : Int32))] [])) _
    refine XS.iconst X29.here hx rfl (hb hby at_132) ?_
    show Steps p.tables e below (T29.setTop (mkF m 133 #[.val (.int p1), .val (.ref b2), .val (.int (t0_0 p1)), .val (.ref w101), .val (.int (0 : Int32))] [(.int (1 : Int32))])) _
    refine XS.goto X29.here hx rfl (pc0 := 133) (pc' := 137) rfl (hb hby at_133) (by decide) (by decide) ?_
    show Steps p.tables e below (T29.setTop (mkF m 137 #[.val (.int p1), .val (.ref b2), .val (.int (t0_0 p1)), .val (.ref w101), .val (.int (0 : Int32))] [(.int (1 : Int32))])) _
    exact retN X29 hx (t := .boolean) Bd.returns (by simp) (hb hby at_137) hr
  · show Q_rm0 Z p1 s_REACH_EARTH s_REACH_MARS s_DEAD_NEXT s_DEAD_PREVIOUS s_ALONE s_OTHERS s_SURVIVE_POD s_SURVIVE_HIBERNATED s_WEAKNESS s_NEST s_QUEEN s_BREEDER s_SIGNAL w101 h0 n0 _ T29.heap _
    exact ⟨rfl, N29⟩
set_option maxHeartbeats 4000000 in
theorem rm0 (l : Launch) (Z : State) (a0 : Array Value) (hw : ∀ d ∈ tables_1, d.before a0 Z = true) (ws : List Jvm.Cond) (p1 : Int32) (s_REACH_EARTH : Addr) (s_REACH_MARS : Addr) (s_DEAD_NEXT : Addr) (s_DEAD_PREVIOUS : Addr) (s_ALONE : Addr) (s_OTHERS : Addr) (s_SURVIVE_POD : Addr) (s_SURVIVE_HIBERNATED : Addr) (s_WEAKNESS : Addr) (s_NEST : Addr) (s_QUEEN : Addr) (s_BREEDER : Addr) (s_SIGNAL : Addr) (w101 : Addr) (h0 : Heap) (n0 : Nat) (Z0 : n0 ≤ h0.size) (hrel : (F1 w101 s_OTHERS s_WEAKNESS) = if (t0_0 p1) = (5 : Int32) then (1 : Int32) else if (t0_0 p1) = (8 : Int32) then (1 : Int32) else (0 : Int32)) (S_REACH_EARTH : Sta Z h0 "com/example/coldsleep/coldsleep/game/Aim" "REACH_EARTH" "Lcom/example/coldsleep/coldsleep/game/Aim;" (.ref s_REACH_EARTH)) (E_s_REACH_EARTH : Exa Z h0 s_REACH_EARTH "com/example/coldsleep/coldsleep/game/Aim") (S_REACH_MARS : Sta Z h0 "com/example/coldsleep/coldsleep/game/Aim" "REACH_MARS" "Lcom/example/coldsleep/coldsleep/game/Aim;" (.ref s_REACH_MARS)) (E_s_REACH_MARS : Exa Z h0 s_REACH_MARS "com/example/coldsleep/coldsleep/game/Aim") (S_DEAD_NEXT : Sta Z h0 "com/example/coldsleep/coldsleep/game/Aim" "DEAD_NEXT" "Lcom/example/coldsleep/coldsleep/game/Aim;" (.ref s_DEAD_NEXT)) (E_s_DEAD_NEXT : Exa Z h0 s_DEAD_NEXT "com/example/coldsleep/coldsleep/game/Aim") (S_DEAD_PREVIOUS : Sta Z h0 "com/example/coldsleep/coldsleep/game/Aim" "DEAD_PREVIOUS" "Lcom/example/coldsleep/coldsleep/game/Aim;" (.ref s_DEAD_PREVIOUS)) (E_s_DEAD_PREVIOUS : Exa Z h0 s_DEAD_PREVIOUS "com/example/coldsleep/coldsleep/game/Aim") (S_ALONE : Sta Z h0 "com/example/coldsleep/coldsleep/game/Aim" "ALONE" "Lcom/example/coldsleep/coldsleep/game/Aim;" (.ref s_ALONE)) (E_s_ALONE : Exa Z h0 s_ALONE "com/example/coldsleep/coldsleep/game/Aim") (S_OTHERS : Sta Z h0 "com/example/coldsleep/coldsleep/game/Aim" "OTHERS" "Lcom/example/coldsleep/coldsleep/game/Aim;" (.ref s_OTHERS)) (E_s_OTHERS : Exa Z h0 s_OTHERS "com/example/coldsleep/coldsleep/game/Aim") (S_SURVIVE_POD : Sta Z h0 "com/example/coldsleep/coldsleep/game/Aim" "SURVIVE_POD" "Lcom/example/coldsleep/coldsleep/game/Aim;" (.ref s_SURVIVE_POD)) (E_s_SURVIVE_POD : Exa Z h0 s_SURVIVE_POD "com/example/coldsleep/coldsleep/game/Aim") (S_SURVIVE_HIBERNATED : Sta Z h0 "com/example/coldsleep/coldsleep/game/Aim" "SURVIVE_HIBERNATED" "Lcom/example/coldsleep/coldsleep/game/Aim;" (.ref s_SURVIVE_HIBERNATED)) (E_s_SURVIVE_HIBERNATED : Exa Z h0 s_SURVIVE_HIBERNATED "com/example/coldsleep/coldsleep/game/Aim") (S_WEAKNESS : Sta Z h0 "com/example/coldsleep/coldsleep/game/Aim" "WEAKNESS" "Lcom/example/coldsleep/coldsleep/game/Aim;" (.ref s_WEAKNESS)) (E_s_WEAKNESS : Exa Z h0 s_WEAKNESS "com/example/coldsleep/coldsleep/game/Aim") (S_NEST : Sta Z h0 "com/example/coldsleep/coldsleep/game/Aim" "NEST" "Lcom/example/coldsleep/coldsleep/game/Aim;" (.ref s_NEST)) (E_s_NEST : Exa Z h0 s_NEST "com/example/coldsleep/coldsleep/game/Aim") (S_QUEEN : Sta Z h0 "com/example/coldsleep/coldsleep/game/Aim" "QUEEN" "Lcom/example/coldsleep/coldsleep/game/Aim;" (.ref s_QUEEN)) (E_s_QUEEN : Exa Z h0 s_QUEEN "com/example/coldsleep/coldsleep/game/Aim") (S_BREEDER : Sta Z h0 "com/example/coldsleep/coldsleep/game/Aim" "BREEDER" "Lcom/example/coldsleep/coldsleep/game/Aim;" (.ref s_BREEDER)) (E_s_BREEDER : Exa Z h0 s_BREEDER "com/example/coldsleep/coldsleep/game/Aim") (S_SIGNAL : Sta Z h0 "com/example/coldsleep/coldsleep/game/Aim" "SIGNAL" "Lcom/example/coldsleep/coldsleep/game/Aim;" (.ref s_SIGNAL)) (E_s_SIGNAL : Exa Z h0 s_SIGNAL "com/example/coldsleep/coldsleep/game/Aim") (E_w101 : Exa Z h0 w101 "com/example/coldsleep/coldsleep/game/Aim") (hi101 : ¬ (t0_0 p1) < 0 ∧ (t0_0 p1) < (13 : Int32)) (hs101 : (([(.ref s_REACH_EARTH), (.ref s_REACH_MARS), (.ref s_DEAD_NEXT), (.ref s_DEAD_PREVIOUS), (.ref s_ALONE), (.ref s_OTHERS), (.ref s_SURVIVE_POD), (.ref s_SURVIVE_HIBERNATED), (.ref s_WEAKNESS), (.ref s_NEST), (.ref s_QUEEN), (.ref s_BREEDER), (.ref s_SIGNAL)] : List Value)).getD ((t0_0 p1)).toNatClampNeg .null = (.ref w101)) :
    MetFree l x (head1 (Jvm.Cond.code x code maxLocals ret :: ws) room_1) (fun a U => a = #[(.int p1)] ∧ Z.Warmed39 U.vm ∧ U.heap = h0) (fun _ _ _ _ _ => True) (fun _ U o U' => ∃ v L, o = .returned v ∧ Q_rm0 Z p1 s_REACH_EARTH s_REACH_MARS s_DEAD_NEXT s_DEAD_PREVIOUS s_ALONE s_OTHERS s_SURVIVE_POD s_SURVIVE_HIBERNATED s_WEAKNESS s_NEST s_QUEEN s_BREEDER s_SIGNAL w101 h0 n0 v U'.heap L ∧ FrameEnd U o U' L room_1.cells room_1.slots) := by
  by_cases hc108 : (t0_0 p1) = (5 : Int32)
  · skip
    by_cases hc117 : (t0_0 p1) = (8 : Int32)
    · skip
      exact rm0_ff l Z a0 hw ws p1 s_REACH_EARTH s_REACH_MARS s_DEAD_NEXT s_DEAD_PREVIOUS s_ALONE s_OTHERS s_SURVIVE_POD s_SURVIVE_HIBERNATED s_WEAKNESS s_NEST s_QUEEN s_BREEDER s_SIGNAL w101 h0 n0 Z0 hrel S_REACH_EARTH E_s_REACH_EARTH S_REACH_MARS E_s_REACH_MARS S_DEAD_NEXT E_s_DEAD_NEXT S_DEAD_PREVIOUS E_s_DEAD_PREVIOUS S_ALONE E_s_ALONE S_OTHERS E_s_OTHERS S_SURVIVE_POD E_s_SURVIVE_POD S_SURVIVE_HIBERNATED E_s_SURVIVE_HIBERNATED S_WEAKNESS E_s_WEAKNESS S_NEST E_s_NEST S_QUEEN E_s_QUEEN S_BREEDER E_s_BREEDER S_SIGNAL E_s_SIGNAL E_w101 hi101 hs101 hc108 hc117
    · skip
      exact rm0_ft l Z a0 hw ws p1 s_REACH_EARTH s_REACH_MARS s_DEAD_NEXT s_DEAD_PREVIOUS s_ALONE s_OTHERS s_SURVIVE_POD s_SURVIVE_HIBERNATED s_WEAKNESS s_NEST s_QUEEN s_BREEDER s_SIGNAL w101 h0 n0 Z0 hrel S_REACH_EARTH E_s_REACH_EARTH S_REACH_MARS E_s_REACH_MARS S_DEAD_NEXT E_s_DEAD_NEXT S_DEAD_PREVIOUS E_s_DEAD_PREVIOUS S_ALONE E_s_ALONE S_OTHERS E_s_OTHERS S_SURVIVE_POD E_s_SURVIVE_POD S_SURVIVE_HIBERNATED E_s_SURVIVE_HIBERNATED S_WEAKNESS E_s_WEAKNESS S_NEST E_s_NEST S_QUEEN E_s_QUEEN S_BREEDER E_s_BREEDER S_SIGNAL E_s_SIGNAL E_w101 hi101 hs101 hc108 hc117
  · skip
    by_cases hc117 : (t0_0 p1) = (8 : Int32)
    · skip
      exact rm0_tf l Z a0 hw ws p1 s_REACH_EARTH s_REACH_MARS s_DEAD_NEXT s_DEAD_PREVIOUS s_ALONE s_OTHERS s_SURVIVE_POD s_SURVIVE_HIBERNATED s_WEAKNESS s_NEST s_QUEEN s_BREEDER s_SIGNAL w101 h0 n0 Z0 hrel S_REACH_EARTH E_s_REACH_EARTH S_REACH_MARS E_s_REACH_MARS S_DEAD_NEXT E_s_DEAD_NEXT S_DEAD_PREVIOUS E_s_DEAD_PREVIOUS S_ALONE E_s_ALONE S_OTHERS E_s_OTHERS S_SURVIVE_POD E_s_SURVIVE_POD S_SURVIVE_HIBERNATED E_s_SURVIVE_HIBERNATED S_WEAKNESS E_s_WEAKNESS S_NEST E_s_NEST S_QUEEN E_s_QUEEN S_BREEDER E_s_BREEDER S_SIGNAL E_s_SIGNAL E_w101 hi101 hs101 hc108 hc117
    · skip
      exact rm0_tt l Z a0 hw ws p1 s_REACH_EARTH s_REACH_MARS s_DEAD_NEXT s_DEAD_PREVIOUS s_ALONE s_OTHERS s_SURVIVE_POD s_SURVIVE_HIBERNATED s_WEAKNESS s_NEST s_QUEEN s_BREEDER s_SIGNAL w101 h0 n0 Z0 hrel S_REACH_EARTH E_s_REACH_EARTH S_REACH_MARS E_s_REACH_MARS S_DEAD_NEXT E_s_DEAD_NEXT S_DEAD_PREVIOUS E_s_DEAD_PREVIOUS S_ALONE E_s_ALONE S_OTHERS E_s_OTHERS S_SURVIVE_POD E_s_SURVIVE_POD S_SURVIVE_HIBERNATED E_s_SURVIVE_HIBERNATED S_WEAKNESS E_s_WEAKNESS S_NEST E_s_NEST S_QUEEN E_s_QUEEN S_BREEDER E_s_BREEDER S_SIGNAL E_s_SIGNAL E_w101 hi101 hs101 hc108 hc117
theorem own_c13 (x : Int32) (h1 : 0 ≤ x.toInt) (h2 : x.toInt ≤ 12) : x = (0 : Int32) ∨ x = (1 : Int32) ∨ x = (2 : Int32) ∨ x = (3 : Int32) ∨ x = (4 : Int32) ∨ x = (5 : Int32) ∨ x = (6 : Int32) ∨ x = (7 : Int32) ∨ x = (8 : Int32) ∨ x = (9 : Int32) ∨ x = (10 : Int32) ∨ x = (11 : Int32) ∨ x = (12 : Int32) := by
  have h : x.toInt = 0 ∨ x.toInt = 1 ∨ x.toInt = 2 ∨ x.toInt = 3 ∨ x.toInt = 4 ∨ x.toInt = 5 ∨ x.toInt = 6 ∨ x.toInt = 7 ∨ x.toInt = 8 ∨ x.toInt = 9 ∨ x.toInt = 10 ∨ x.toInt = 11 ∨ x.toInt = 12 := by omega
  rcases h with q | q | q | q | q | q | q | q | q | q | q | q | q
  · exact Or.inl (Int32.toInt_inj.mp (by rw [q]; rfl))
  · exact Or.inr (Or.inl (Int32.toInt_inj.mp (by rw [q]; rfl)))
  · exact Or.inr (Or.inr (Or.inl (Int32.toInt_inj.mp (by rw [q]; rfl))))
  · exact Or.inr (Or.inr (Or.inr (Or.inl (Int32.toInt_inj.mp (by rw [q]; rfl)))))
  · exact Or.inr (Or.inr (Or.inr (Or.inr (Or.inl (Int32.toInt_inj.mp (by rw [q]; rfl))))))
  · exact Or.inr (Or.inr (Or.inr (Or.inr (Or.inr (Or.inl (Int32.toInt_inj.mp (by rw [q]; rfl)))))))
  · exact Or.inr (Or.inr (Or.inr (Or.inr (Or.inr (Or.inr (Or.inl (Int32.toInt_inj.mp (by rw [q]; rfl))))))))
  · exact Or.inr (Or.inr (Or.inr (Or.inr (Or.inr (Or.inr (Or.inr (Or.inl (Int32.toInt_inj.mp (by rw [q]; rfl)))))))))
  · exact Or.inr (Or.inr (Or.inr (Or.inr (Or.inr (Or.inr (Or.inr (Or.inr (Or.inl (Int32.toInt_inj.mp (by rw [q]; rfl))))))))))
  · exact Or.inr (Or.inr (Or.inr (Or.inr (Or.inr (Or.inr (Or.inr (Or.inr (Or.inr (Or.inl (Int32.toInt_inj.mp (by rw [q]; rfl)))))))))))
  · exact Or.inr (Or.inr (Or.inr (Or.inr (Or.inr (Or.inr (Or.inr (Or.inr (Or.inr (Or.inr (Or.inl (Int32.toInt_inj.mp (by rw [q]; rfl))))))))))))
  · exact Or.inr (Or.inr (Or.inr (Or.inr (Or.inr (Or.inr (Or.inr (Or.inr (Or.inr (Or.inr (Or.inr (Or.inl (Int32.toInt_inj.mp (by rw [q]; rfl)))))))))))))
  · exact Or.inr (Or.inr (Or.inr (Or.inr (Or.inr (Or.inr (Or.inr (Or.inr (Or.inr (Or.inr (Or.inr (Or.inr (Int32.toInt_inj.mp (by rw [q]; rfl)))))))))))))
theorem own_t0 (x : Int32) : 0 ≤ (t0_0 x).toInt ∧ (t0_0 x).toInt ≤ 12 := by
  have h := own_mod (x &&& 2147483647) 13 (own_pos x) (by decide)
  have e13 : (13 : Int32).toInt = 13 := by decide
  rw [e13] at h
  unfold t0_0
  rw [h]
  omega
set_option maxRecDepth 65536 in
set_option maxHeartbeats 40000000 in
theorem comes_1 {Post : Tables → Env → Array Value → State → Outcome → State → Prop} (hpost : ∀ tb e args s v u, (limb_1_1.after args s (.returned v) u = true ∧ limb_1_2.after args s (.returned v) u = true ∧ True) → FrameEnd s (.returned v) u (Jvm.fieldLocs frame_1_writes args s ++ Jvm.arrayLocs frame_1_arrays args s ++ Jvm.staticLocs frame_1_statics s) 16 128 → Post tb e args s (.returned v) u) :
    ArmFor flags0 classFile x code maxLocals ret World_1 tables_1 room_1 Calls_1 rest_1 Pre_1 Post := by
  intro l hfl _ _ p e ha hc hk s m args below hf hA hF happ hP
  obtain ⟨hcalls, hrest, hpre⟩ := hP
  obtain ⟨-, -, -, hnamed, -, -, -, hat⟩ := (Spec.applies_iff hf).mp happ
  obtain ⟨hg, hn⟩ := and_e (Cond.before_iff.mp (show (Jvm.Cond.and given_1 narrow_1).before args s = true from hpre))
  obtain ⟨g1, g2⟩ := and_e hg
  obtain ⟨w0, rfl⟩ : ∃ w0 : Value, args = #[w0] := by
    have hs : args.size = 1 := by simpa [Cond.value, given_1] using g1
    obtain ⟨L⟩ := args
    match L, hs with
    | [w0], _ => exact ⟨w0, rfl⟩
  have hw := fun d (hd : d ∈ tables_1) => atoms_spec (ws := Jvm.Cond.code x code maxLocals ret :: tables_1) hat d (List.mem_cons_of_mem _ hd)
  have hfit : Fit s := fun {y c} hc i hi => by
    obtain ⟨ha, rfl⟩ := Array.getElem?_eq_some_iff.mp hc
    have q := List.all_eq_true.mp ((Array.all_eq_true_iff_forall_mem.mp hF) _ (Array.getElem_mem ha)) i (List.mem_range.mpr hi)
    simpa [Array.getElem?_eq_getElem hi] using q
  obtain ⟨i0, ei0⟩ := is_v g2
  obtain rfl : w0 = (.int i0) := Option.some.inj ei0
  obtain ⟨na1, na2⟩ := and_e hn
  obtain ⟨na3, na4⟩ := and_e na2
  obtain ⟨na5, na6⟩ := and_e na4
  obtain ⟨na7, na8⟩ := and_e na6
  obtain ⟨na9, na10⟩ := and_e na8
  obtain ⟨na11, na12⟩ := and_e na10
  obtain ⟨na13, na14⟩ := and_e na12
  obtain ⟨na15, na16⟩ := and_e na14
  obtain ⟨na17, na18⟩ := and_e na16
  obtain ⟨na19, na20⟩ := and_e na18
  obtain ⟨na21, na22⟩ := and_e na20
  obtain ⟨na23, na24⟩ := and_e na22
  obtain ⟨na25, na26⟩ := and_e na24
  obtain ⟨na27, na28⟩ := and_e na26
  obtain ⟨na29, na30⟩ := and_e na28
  obtain ⟨na31, na32⟩ := and_e na30
  obtain ⟨na33, na34⟩ := and_e na32
  obtain ⟨na35, na36⟩ := and_e na34
  obtain ⟨na37, na38⟩ := and_e na36
  obtain ⟨na39, na40⟩ := and_e na38
  obtain ⟨na41, na42⟩ := and_e na40
  obtain ⟨na43, na44⟩ := and_e na42
  obtain ⟨na45, na46⟩ := and_e na44
  obtain ⟨na47, na48⟩ := and_e na46
  obtain ⟨na49, na50⟩ := and_e na48
  obtain ⟨a_REACH_EARTH, ev_REACH_EARTH⟩ := exa_v na1
  have E_REACH_EARTH : Exa s s.heap a_REACH_EARTH "com/example/coldsleep/coldsleep/game/Aim" := Exa.start ev_REACH_EARTH na1
  have S_REACH_EARTH : Sta s s.heap "com/example/coldsleep/coldsleep/game/Aim" "REACH_EARTH" "Lcom/example/coldsleep/coldsleep/game/Aim;" (.ref a_REACH_EARTH) := Sta.start ev_REACH_EARTH (Or.inr ⟨(hw _ (List.mem_of_getElem? (i := 3) rfl)), (hw _ (List.mem_of_getElem? (i := 4) rfl))⟩)
  obtain ⟨a_REACH_MARS, ev_REACH_MARS⟩ := exa_v na3
  have E_REACH_MARS : Exa s s.heap a_REACH_MARS "com/example/coldsleep/coldsleep/game/Aim" := Exa.start ev_REACH_MARS na3
  have S_REACH_MARS : Sta s s.heap "com/example/coldsleep/coldsleep/game/Aim" "REACH_MARS" "Lcom/example/coldsleep/coldsleep/game/Aim;" (.ref a_REACH_MARS) := Sta.start ev_REACH_MARS (Or.inr ⟨(hw _ (List.mem_of_getElem? (i := 3) rfl)), (hw _ (List.mem_of_getElem? (i := 7) rfl))⟩)
  obtain ⟨a_DEAD_NEXT, ev_DEAD_NEXT⟩ := exa_v na5
  have E_DEAD_NEXT : Exa s s.heap a_DEAD_NEXT "com/example/coldsleep/coldsleep/game/Aim" := Exa.start ev_DEAD_NEXT na5
  have S_DEAD_NEXT : Sta s s.heap "com/example/coldsleep/coldsleep/game/Aim" "DEAD_NEXT" "Lcom/example/coldsleep/coldsleep/game/Aim;" (.ref a_DEAD_NEXT) := Sta.start ev_DEAD_NEXT (Or.inr ⟨(hw _ (List.mem_of_getElem? (i := 3) rfl)), (hw _ (List.mem_of_getElem? (i := 9) rfl))⟩)
  obtain ⟨a_DEAD_PREVIOUS, ev_DEAD_PREVIOUS⟩ := exa_v na7
  have E_DEAD_PREVIOUS : Exa s s.heap a_DEAD_PREVIOUS "com/example/coldsleep/coldsleep/game/Aim" := Exa.start ev_DEAD_PREVIOUS na7
  have S_DEAD_PREVIOUS : Sta s s.heap "com/example/coldsleep/coldsleep/game/Aim" "DEAD_PREVIOUS" "Lcom/example/coldsleep/coldsleep/game/Aim;" (.ref a_DEAD_PREVIOUS) := Sta.start ev_DEAD_PREVIOUS (Or.inr ⟨(hw _ (List.mem_of_getElem? (i := 3) rfl)), (hw _ (List.mem_of_getElem? (i := 11) rfl))⟩)
  obtain ⟨a_ALONE, ev_ALONE⟩ := exa_v na9
  have E_ALONE : Exa s s.heap a_ALONE "com/example/coldsleep/coldsleep/game/Aim" := Exa.start ev_ALONE na9
  have S_ALONE : Sta s s.heap "com/example/coldsleep/coldsleep/game/Aim" "ALONE" "Lcom/example/coldsleep/coldsleep/game/Aim;" (.ref a_ALONE) := Sta.start ev_ALONE (Or.inr ⟨(hw _ (List.mem_of_getElem? (i := 3) rfl)), (hw _ (List.mem_of_getElem? (i := 13) rfl))⟩)
  obtain ⟨a_OTHERS, ev_OTHERS⟩ := exa_v na11
  have E_OTHERS : Exa s s.heap a_OTHERS "com/example/coldsleep/coldsleep/game/Aim" := Exa.start ev_OTHERS na11
  have S_OTHERS : Sta s s.heap "com/example/coldsleep/coldsleep/game/Aim" "OTHERS" "Lcom/example/coldsleep/coldsleep/game/Aim;" (.ref a_OTHERS) := Sta.start ev_OTHERS (Or.inr ⟨(hw _ (List.mem_of_getElem? (i := 3) rfl)), (hw _ (List.mem_of_getElem? (i := 15) rfl))⟩)
  obtain ⟨a_SURVIVE_POD, ev_SURVIVE_POD⟩ := exa_v na13
  have E_SURVIVE_POD : Exa s s.heap a_SURVIVE_POD "com/example/coldsleep/coldsleep/game/Aim" := Exa.start ev_SURVIVE_POD na13
  have S_SURVIVE_POD : Sta s s.heap "com/example/coldsleep/coldsleep/game/Aim" "SURVIVE_POD" "Lcom/example/coldsleep/coldsleep/game/Aim;" (.ref a_SURVIVE_POD) := Sta.start ev_SURVIVE_POD (Or.inr ⟨(hw _ (List.mem_of_getElem? (i := 3) rfl)), (hw _ (List.mem_of_getElem? (i := 17) rfl))⟩)
  obtain ⟨a_SURVIVE_HIBERNATED, ev_SURVIVE_HIBERNATED⟩ := exa_v na15
  have E_SURVIVE_HIBERNATED : Exa s s.heap a_SURVIVE_HIBERNATED "com/example/coldsleep/coldsleep/game/Aim" := Exa.start ev_SURVIVE_HIBERNATED na15
  have S_SURVIVE_HIBERNATED : Sta s s.heap "com/example/coldsleep/coldsleep/game/Aim" "SURVIVE_HIBERNATED" "Lcom/example/coldsleep/coldsleep/game/Aim;" (.ref a_SURVIVE_HIBERNATED) := Sta.start ev_SURVIVE_HIBERNATED (Or.inr ⟨(hw _ (List.mem_of_getElem? (i := 3) rfl)), (hw _ (List.mem_of_getElem? (i := 19) rfl))⟩)
  obtain ⟨a_WEAKNESS, ev_WEAKNESS⟩ := exa_v na17
  have E_WEAKNESS : Exa s s.heap a_WEAKNESS "com/example/coldsleep/coldsleep/game/Aim" := Exa.start ev_WEAKNESS na17
  have S_WEAKNESS : Sta s s.heap "com/example/coldsleep/coldsleep/game/Aim" "WEAKNESS" "Lcom/example/coldsleep/coldsleep/game/Aim;" (.ref a_WEAKNESS) := Sta.start ev_WEAKNESS (Or.inr ⟨(hw _ (List.mem_of_getElem? (i := 3) rfl)), (hw _ (List.mem_of_getElem? (i := 21) rfl))⟩)
  obtain ⟨a_NEST, ev_NEST⟩ := exa_v na19
  have E_NEST : Exa s s.heap a_NEST "com/example/coldsleep/coldsleep/game/Aim" := Exa.start ev_NEST na19
  have S_NEST : Sta s s.heap "com/example/coldsleep/coldsleep/game/Aim" "NEST" "Lcom/example/coldsleep/coldsleep/game/Aim;" (.ref a_NEST) := Sta.start ev_NEST (Or.inr ⟨(hw _ (List.mem_of_getElem? (i := 3) rfl)), (hw _ (List.mem_of_getElem? (i := 23) rfl))⟩)
  obtain ⟨a_QUEEN, ev_QUEEN⟩ := exa_v na21
  have E_QUEEN : Exa s s.heap a_QUEEN "com/example/coldsleep/coldsleep/game/Aim" := Exa.start ev_QUEEN na21
  have S_QUEEN : Sta s s.heap "com/example/coldsleep/coldsleep/game/Aim" "QUEEN" "Lcom/example/coldsleep/coldsleep/game/Aim;" (.ref a_QUEEN) := Sta.start ev_QUEEN (Or.inr ⟨(hw _ (List.mem_of_getElem? (i := 3) rfl)), (hw _ (List.mem_of_getElem? (i := 25) rfl))⟩)
  obtain ⟨a_BREEDER, ev_BREEDER⟩ := exa_v na23
  have E_BREEDER : Exa s s.heap a_BREEDER "com/example/coldsleep/coldsleep/game/Aim" := Exa.start ev_BREEDER na23
  have S_BREEDER : Sta s s.heap "com/example/coldsleep/coldsleep/game/Aim" "BREEDER" "Lcom/example/coldsleep/coldsleep/game/Aim;" (.ref a_BREEDER) := Sta.start ev_BREEDER (Or.inr ⟨(hw _ (List.mem_of_getElem? (i := 3) rfl)), (hw _ (List.mem_of_getElem? (i := 27) rfl))⟩)
  obtain ⟨a_SIGNAL, ev_SIGNAL⟩ := exa_v na25
  have E_SIGNAL : Exa s s.heap a_SIGNAL "com/example/coldsleep/coldsleep/game/Aim" := Exa.start ev_SIGNAL na25
  have S_SIGNAL : Sta s s.heap "com/example/coldsleep/coldsleep/game/Aim" "SIGNAL" "Lcom/example/coldsleep/coldsleep/game/Aim;" (.ref a_SIGNAL) := Sta.start ev_SIGNAL (Or.inr ⟨(hw _ (List.mem_of_getElem? (i := 3) rfl)), (hw _ (List.mem_of_getElem? (i := 29) rfl))⟩)
  have F_ordinal_REACH_EARTH : Fld s s.heap a_REACH_EARTH "java/lang/Enum" "ordinal" "I" (.int (0 : Int32)) := Fld.start ((fld_at ev_REACH_EARTH).symm.trans (own_eqI na27 (Term.int_eval (0))))
  have F_ordinal_OTHERS : Fld s s.heap a_OTHERS "java/lang/Enum" "ordinal" "I" (.int (5 : Int32)) := Fld.start ((fld_at ev_OTHERS).symm.trans (own_eqI na29 (Term.int_eval (5))))
  have F_ordinal_WEAKNESS : Fld s s.heap a_WEAKNESS "java/lang/Enum" "ordinal" "I" (.int (8 : Int32)) := Fld.start ((fld_at ev_WEAKNESS).symm.trans (own_eqI na31 (Term.int_eval (8))))
  have F_ordinal_DEAD_PREVIOUS : Fld s s.heap a_DEAD_PREVIOUS "java/lang/Enum" "ordinal" "I" (.int (3 : Int32)) := Fld.start ((fld_at ev_DEAD_PREVIOUS).symm.trans (own_eqI na33 (Term.int_eval (3))))
  have F_ordinal_SURVIVE_POD : Fld s s.heap a_SURVIVE_POD "java/lang/Enum" "ordinal" "I" (.int (6 : Int32)) := Fld.start ((fld_at ev_SURVIVE_POD).symm.trans (own_eqI na35 (Term.int_eval (6))))
  have F_ordinal_SURVIVE_HIBERNATED : Fld s s.heap a_SURVIVE_HIBERNATED "java/lang/Enum" "ordinal" "I" (.int (7 : Int32)) := Fld.start ((fld_at ev_SURVIVE_HIBERNATED).symm.trans (own_eqI na37 (Term.int_eval (7))))
  have F_ordinal_NEST : Fld s s.heap a_NEST "java/lang/Enum" "ordinal" "I" (.int (9 : Int32)) := Fld.start ((fld_at ev_NEST).symm.trans (own_eqI na39 (Term.int_eval (9))))
  have F_ordinal_DEAD_NEXT : Fld s s.heap a_DEAD_NEXT "java/lang/Enum" "ordinal" "I" (.int (2 : Int32)) := Fld.start ((fld_at ev_DEAD_NEXT).symm.trans (own_eqI na41 (Term.int_eval (2))))
  have F_ordinal_BREEDER : Fld s s.heap a_BREEDER "java/lang/Enum" "ordinal" "I" (.int (11 : Int32)) := Fld.start ((fld_at ev_BREEDER).symm.trans (own_eqI na43 (Term.int_eval (11))))
  have F_ordinal_REACH_MARS : Fld s s.heap a_REACH_MARS "java/lang/Enum" "ordinal" "I" (.int (1 : Int32)) := Fld.start ((fld_at ev_REACH_MARS).symm.trans (own_eqI na45 (Term.int_eval (1))))
  have F_ordinal_QUEEN : Fld s s.heap a_QUEEN "java/lang/Enum" "ordinal" "I" (.int (10 : Int32)) := Fld.start ((fld_at ev_QUEEN).symm.trans (own_eqI na47 (Term.int_eval (10))))
  have F_ordinal_SIGNAL : Fld s s.heap a_SIGNAL "java/lang/Enum" "ordinal" "I" (.int (12 : Int32)) := Fld.start ((fld_at ev_SIGNAL).symm.trans (own_eqI na49 (Term.int_eval (12))))
  have F_ordinal_ALONE : Fld s s.heap a_ALONE "java/lang/Enum" "ordinal" "I" (.int (4 : Int32)) := Fld.start ((fld_at ev_ALONE).symm.trans (own_eqI na50 (Term.int_eval (4))))
  have n_REACH_EARTH_OTHERS : a_REACH_EARTH ≠ a_OTHERS := Fld.ne F_ordinal_REACH_EARTH F_ordinal_OTHERS (fun h => absurd (Value.int.inj h) (by decide))
  have n_REACH_EARTH_WEAKNESS : a_REACH_EARTH ≠ a_WEAKNESS := Fld.ne F_ordinal_REACH_EARTH F_ordinal_WEAKNESS (fun h => absurd (Value.int.inj h) (by decide))
  have n_REACH_MARS_OTHERS : a_REACH_MARS ≠ a_OTHERS := Fld.ne F_ordinal_REACH_MARS F_ordinal_OTHERS (fun h => absurd (Value.int.inj h) (by decide))
  have n_REACH_MARS_WEAKNESS : a_REACH_MARS ≠ a_WEAKNESS := Fld.ne F_ordinal_REACH_MARS F_ordinal_WEAKNESS (fun h => absurd (Value.int.inj h) (by decide))
  have n_DEAD_NEXT_OTHERS : a_DEAD_NEXT ≠ a_OTHERS := Fld.ne F_ordinal_DEAD_NEXT F_ordinal_OTHERS (fun h => absurd (Value.int.inj h) (by decide))
  have n_DEAD_NEXT_WEAKNESS : a_DEAD_NEXT ≠ a_WEAKNESS := Fld.ne F_ordinal_DEAD_NEXT F_ordinal_WEAKNESS (fun h => absurd (Value.int.inj h) (by decide))
  have n_DEAD_PREVIOUS_OTHERS : a_DEAD_PREVIOUS ≠ a_OTHERS := Fld.ne F_ordinal_DEAD_PREVIOUS F_ordinal_OTHERS (fun h => absurd (Value.int.inj h) (by decide))
  have n_DEAD_PREVIOUS_WEAKNESS : a_DEAD_PREVIOUS ≠ a_WEAKNESS := Fld.ne F_ordinal_DEAD_PREVIOUS F_ordinal_WEAKNESS (fun h => absurd (Value.int.inj h) (by decide))
  have n_ALONE_OTHERS : a_ALONE ≠ a_OTHERS := Fld.ne F_ordinal_ALONE F_ordinal_OTHERS (fun h => absurd (Value.int.inj h) (by decide))
  have n_ALONE_WEAKNESS : a_ALONE ≠ a_WEAKNESS := Fld.ne F_ordinal_ALONE F_ordinal_WEAKNESS (fun h => absurd (Value.int.inj h) (by decide))
  have n_OTHERS_WEAKNESS : a_OTHERS ≠ a_WEAKNESS := Fld.ne F_ordinal_OTHERS F_ordinal_WEAKNESS (fun h => absurd (Value.int.inj h) (by decide))
  have n_SURVIVE_POD_OTHERS : a_SURVIVE_POD ≠ a_OTHERS := Fld.ne F_ordinal_SURVIVE_POD F_ordinal_OTHERS (fun h => absurd (Value.int.inj h) (by decide))
  have n_SURVIVE_POD_WEAKNESS : a_SURVIVE_POD ≠ a_WEAKNESS := Fld.ne F_ordinal_SURVIVE_POD F_ordinal_WEAKNESS (fun h => absurd (Value.int.inj h) (by decide))
  have n_SURVIVE_HIBERNATED_OTHERS : a_SURVIVE_HIBERNATED ≠ a_OTHERS := Fld.ne F_ordinal_SURVIVE_HIBERNATED F_ordinal_OTHERS (fun h => absurd (Value.int.inj h) (by decide))
  have n_SURVIVE_HIBERNATED_WEAKNESS : a_SURVIVE_HIBERNATED ≠ a_WEAKNESS := Fld.ne F_ordinal_SURVIVE_HIBERNATED F_ordinal_WEAKNESS (fun h => absurd (Value.int.inj h) (by decide))
  have n_WEAKNESS_OTHERS : a_WEAKNESS ≠ a_OTHERS := Fld.ne F_ordinal_WEAKNESS F_ordinal_OTHERS (fun h => absurd (Value.int.inj h) (by decide))
  have n_NEST_OTHERS : a_NEST ≠ a_OTHERS := Fld.ne F_ordinal_NEST F_ordinal_OTHERS (fun h => absurd (Value.int.inj h) (by decide))
  have n_NEST_WEAKNESS : a_NEST ≠ a_WEAKNESS := Fld.ne F_ordinal_NEST F_ordinal_WEAKNESS (fun h => absurd (Value.int.inj h) (by decide))
  have n_QUEEN_OTHERS : a_QUEEN ≠ a_OTHERS := Fld.ne F_ordinal_QUEEN F_ordinal_OTHERS (fun h => absurd (Value.int.inj h) (by decide))
  have n_QUEEN_WEAKNESS : a_QUEEN ≠ a_WEAKNESS := Fld.ne F_ordinal_QUEEN F_ordinal_WEAKNESS (fun h => absurd (Value.int.inj h) (by decide))
  have n_BREEDER_OTHERS : a_BREEDER ≠ a_OTHERS := Fld.ne F_ordinal_BREEDER F_ordinal_OTHERS (fun h => absurd (Value.int.inj h) (by decide))
  have n_BREEDER_WEAKNESS : a_BREEDER ≠ a_WEAKNESS := Fld.ne F_ordinal_BREEDER F_ordinal_WEAKNESS (fun h => absurd (Value.int.inj h) (by decide))
  have n_SIGNAL_OTHERS : a_SIGNAL ≠ a_OTHERS := Fld.ne F_ordinal_SIGNAL F_ordinal_OTHERS (fun h => absurd (Value.int.inj h) (by decide))
  have n_SIGNAL_WEAKNESS : a_SIGNAL ≠ a_WEAKNESS := Fld.ne F_ordinal_SIGNAL F_ordinal_WEAKNESS (fun h => absurd (Value.int.inj h) (by decide))
  obtain ⟨w, hE, hi, hs, hrel⟩ : ∃ (w : Addr), Exa s s.heap w "com/example/coldsleep/coldsleep/game/Aim" ∧ (¬ ((t0_0 i0) < (0 : Int32)) ∧ (t0_0 i0) < (13 : Int32)) ∧ ([(.ref a_REACH_EARTH), (.ref a_REACH_MARS), (.ref a_DEAD_NEXT), (.ref a_DEAD_PREVIOUS), (.ref a_ALONE), (.ref a_OTHERS), (.ref a_SURVIVE_POD), (.ref a_SURVIVE_HIBERNATED), (.ref a_WEAKNESS), (.ref a_NEST), (.ref a_QUEEN), (.ref a_BREEDER), (.ref a_SIGNAL)] : List Value).getD (t0_0 i0).toNatClampNeg .null = (.ref w) ∧ (F1 w a_OTHERS a_WEAKNESS) = if (t0_0 i0) = (5 : Int32) then (1 : Int32) else if (t0_0 i0) = (8 : Int32) then (1 : Int32) else (0 : Int32) := by
    rcases own_c13 (t0_0 i0) (own_t0 i0).1 (own_t0 i0).2 with h | h | h | h | h | h | h | h | h | h | h | h | h <;> rw [h]
    · exact ⟨a_REACH_EARTH, E_REACH_EARTH, by decide, rfl, by rw [F1, if_neg n_REACH_EARTH_OTHERS, if_neg n_REACH_EARTH_WEAKNESS]; decide⟩
    · exact ⟨a_REACH_MARS, E_REACH_MARS, by decide, rfl, by rw [F1, if_neg n_REACH_MARS_OTHERS, if_neg n_REACH_MARS_WEAKNESS]; decide⟩
    · exact ⟨a_DEAD_NEXT, E_DEAD_NEXT, by decide, rfl, by rw [F1, if_neg n_DEAD_NEXT_OTHERS, if_neg n_DEAD_NEXT_WEAKNESS]; decide⟩
    · exact ⟨a_DEAD_PREVIOUS, E_DEAD_PREVIOUS, by decide, rfl, by rw [F1, if_neg n_DEAD_PREVIOUS_OTHERS, if_neg n_DEAD_PREVIOUS_WEAKNESS]; decide⟩
    · exact ⟨a_ALONE, E_ALONE, by decide, rfl, by rw [F1, if_neg n_ALONE_OTHERS, if_neg n_ALONE_WEAKNESS]; decide⟩
    · exact ⟨a_OTHERS, E_OTHERS, by decide, rfl, by rw [F1, if_pos rfl]; decide⟩
    · exact ⟨a_SURVIVE_POD, E_SURVIVE_POD, by decide, rfl, by rw [F1, if_neg n_SURVIVE_POD_OTHERS, if_neg n_SURVIVE_POD_WEAKNESS]; decide⟩
    · exact ⟨a_SURVIVE_HIBERNATED, E_SURVIVE_HIBERNATED, by decide, rfl, by rw [F1, if_neg n_SURVIVE_HIBERNATED_OTHERS, if_neg n_SURVIVE_HIBERNATED_WEAKNESS]; decide⟩
    · exact ⟨a_WEAKNESS, E_WEAKNESS, by decide, rfl, by rw [F1, if_neg n_WEAKNESS_OTHERS, if_pos rfl]; decide⟩
    · exact ⟨a_NEST, E_NEST, by decide, rfl, by rw [F1, if_neg n_NEST_OTHERS, if_neg n_NEST_WEAKNESS]; decide⟩
    · exact ⟨a_QUEEN, E_QUEEN, by decide, rfl, by rw [F1, if_neg n_QUEEN_OTHERS, if_neg n_QUEEN_WEAKNESS]; decide⟩
    · exact ⟨a_BREEDER, E_BREEDER, by decide, rfl, by rw [F1, if_neg n_BREEDER_OTHERS, if_neg n_BREEDER_WEAKNESS]; decide⟩
    · exact ⟨a_SIGNAL, E_SIGNAL, by decide, rfl, by rw [F1, if_neg n_SIGNAL_OTHERS, if_neg n_SIGNAL_WEAKNESS]; decide⟩
  obtain ⟨n, o, h1, h2, h3, _, L, rfl, ⟨rfl, N⟩, hq⟩ := rm0 l s _ hw tables_1 i0 a_REACH_EARTH a_REACH_MARS a_DEAD_NEXT a_DEAD_PREVIOUS a_ALONE a_OTHERS a_SURVIVE_POD a_SURVIVE_HIBERNATED a_WEAKNESS a_NEST a_QUEEN a_BREEDER a_SIGNAL w s.heap s.heap.size (Nat.le_refl _) hrel S_REACH_EARTH E_REACH_EARTH S_REACH_MARS E_REACH_MARS S_DEAD_NEXT E_DEAD_NEXT S_DEAD_PREVIOUS E_DEAD_PREVIOUS S_ALONE E_ALONE S_OTHERS E_OTHERS S_SURVIVE_POD E_SURVIVE_POD S_SURVIVE_HIBERNATED E_SURVIVE_HIBERNATED S_WEAKNESS E_WEAKNESS S_NEST E_NEST S_QUEEN E_QUEEN S_BREEDER E_BREEDER S_SIGNAL E_SIGNAL hE hi hs p e ha hc hk s m _ below hf ((Spec.applies_iff_loose hf).mp happ).1 ⟨rfl, State.Warmed39.refl s, rfl⟩ trivial
  refine ⟨n, _, h1, h2, h3, hpost _ _ _ _ _ _ ⟨Cond.after_iff.mpr rfl, Cond.after_iff.mpr (eq_i res_at (Term.int_eval (1)) rfl), trivial⟩ ⟨hq.1, hq.2.1, (hq.2.2.sift fun y hy => Or.inr (N y hy)).mono (by decide) (by decide)⟩⟩
theorem main_1_1 : Claimed_1_1 := comes_1 fun _ _ _ _ _ _ h hF => ⟨h.1, hF⟩
theorem main_1_2 : Claimed_1_2 := comes_1 fun _ _ _ _ _ _ h hF => ⟨h.2.1, hF⟩
end Jvm.Pilot.@@N@@
namespace Jvm.Pilot.@@N@@
open Jvm Jvm.ClassFile Sem Op Lib Jvm.Free Jvm.Stand Jvm.Pilot.@@N@@.Jvm.D
/-! MADE BY PROGRAM (witnessworld.py) out of the Statement's table words and the real class files: 14 classes; the members and pool entries that the words name. The judged class is class 1, her method 1. -/
namespace start1
open Jvm.ClassFile
def u (s : String) : CpInfo := .utf8 (stringToUtf16 s)
/-- a pool by its gaps: so many unusable entries, then the entry; so many at the end -/
def gap : Nat → List CpInfo → List CpInfo
  | 0, r => r
  | n + 1, r => .unusable :: gap n r
def poolList (es : List (Nat × CpInfo)) (last : Nat) : List CpInfo := es.foldr (fun e r => gap e.1 (e.2 :: r)) (gap last [])
def pool (es : List (Nat × CpInfo)) (last : Nat) : Array CpInfo := ⟨poolList es last⟩
def fileOf (pool : Array CpInfo) (this : Nat) (attrs : Array Attribute := #[]) (ms : Array MethodInfo := #[]) (fl : Nat := 33) (sup : Nat := 0) (ifs : Array Nat := #[]) (fds : Array FieldInfo := #[]) : ClassFile where
  minorVersion := 0
  majorVersion := 65
  constantPool := pool
  accessFlags := fl
  thisClass := this
  superClass := sup
  interfaces := ifs
  fields := fds
  methods := ms
  attributes := attrs
def plain (name : String) (sup : Option ClassId) : Class where
  name := name
  kind := .ordinary
  loader := none
  accessFlags := 33
  super := sup
  interfaces := #[]
  cf := none
  fields := #[]
  methods := #[]
  instanceTypes := #[]
  staticTypes := #[]
  resolved := #[]
  callSites := []
  init := .initialized
  statics := none
  mirror := none

def pool0 : Array CpInfo := pool [(5, u "<init>"), (0, u "()V"), (1, .class_ 10), (1, u "java/lang/Object")] 113

def k0m0 : Method := { name := "<init>", desc := "()V", sig := { parameters := [], returnType := none }, accessFlags := 1, code := none }
/-- java/lang/Object -/
def k0 : Class := { plain "java/lang/Object" none with
  accessFlags := 33
  interfaces := #[]
  cf := some (fileOf pool0 8 #[] #[{ accessFlags := 1, nameIndex := 5, descriptorIndex := 6, attributes := #[] }] 33 0 #[] #[])
  fields := #[]
  methods := #[k0m0]
  instanceTypes := #[]
  staticTypes := #[]
  resolved := Array.replicate 124 none
  statics := none }

def pool1 : Array CpInfo := pool [(2, .class_ 4), (1, u "java/lang/Object"), (0, u "<init>"), (0, u "()V"), (0, .class_ 8), (0, u "com/example/coldsleep/coldsleep/game/Aim"), (0, .fieldref 7 10), (0, .nameAndType 11 12), (0, u "REACH_EARTH"), (0, u "Lcom/example/coldsleep/coldsleep/game/Aim;"), (0, .fieldref 7 14), (0, .nameAndType 15 12), (0, u "REACH_MARS"), (0, .fieldref 7 17), (0, .nameAndType 18 12), (0, u "DEAD_NEXT"), (0, .fieldref 7 20), (0, .nameAndType 21 12), (0, u "DEAD_PREVIOUS"), (0, .fieldref 7 23), (0, .nameAndType 24 12), (0, u "ALONE"), (0, .fieldref 7 26), (0, .nameAndType 27 12), (0, u "OTHERS"), (0, .fieldref 7 29), (0, .nameAndType 30 12), (0, u "SURVIVE_POD"), (0, .fieldref 7 32), (0, .nameAndType 33 12), (0, u "SURVIVE_HIBERNATED"), (0, .fieldref 7 35), (0, .nameAndType 36 12), (0, u "WEAKNESS"), (0, .fieldref 7 38), (0, .nameAndType 39 12), (0, u "NEST"), (0, .fieldref 7 41), (0, .nameAndType 42 12), (0, u "QUEEN"), (0, .fieldref 7 44), (0, .nameAndType 45 12), (0, u "BREEDER"), (0, .fieldref 7 47), (0, .nameAndType 48 12), (0, u "SIGNAL"), (0, .integer 2147483647), (0, .methodref 7 51), (0, .nameAndType 52 53), (0, u "counts"), (0, u "()Z"), (0, .class_ 55), (0, u "com/example/coldsleep/coldsleep/game/AimCountsPinLaw"), (2, u "law"), (0, u "(I)Z")] 5

def k1m0 : Method := { name := "<init>", desc := "()V", sig := { parameters := [], returnType := none }, accessFlags := 2, code := none }
def k1c1 : Code := { maxStack := 4, maxLocals := 5, code := code, exceptionTable := #[], attributes := #[] }
def k1m1 : Method := { name := "law", desc := "(I)Z", sig := { parameters := [.int], returnType := some .boolean }, accessFlags := 9, code := some k1c1 }
/-- com/example/coldsleep/coldsleep/game/AimCountsPinLaw -/
def k1 : Class := { plain "com/example/coldsleep/coldsleep/game/AimCountsPinLaw" (some 0) with
  accessFlags := 49
  interfaces := #[]
  cf := some (fileOf pool1 54 #[] #[{ accessFlags := 2, nameIndex := 5, descriptorIndex := 6, attributes := #[] }, { accessFlags := 9, nameIndex := 58, descriptorIndex := 59, attributes := #[] }] 49 2 #[] #[])
  fields := #[]
  methods := #[k1m0, k1m1]
  instanceTypes := #[]
  staticTypes := #[]
  resolved := Array.replicate 65 none
  statics := none }

def pool2 : Array CpInfo := pool [(1, .class_ 2), (0, u "java/lang/constant/Constable"), (0, .class_ 4), (0, u "java/lang/Object")] 6

/-- java/lang/constant/Constable -/
def k2 : Class := { plain "java/lang/constant/Constable" (some 0) with
  accessFlags := 1537
  interfaces := #[]
  cf := some (fileOf pool2 1 #[] #[] 1537 3 #[] #[])
  fields := #[]
  methods := #[]
  instanceTypes := #[]
  staticTypes := #[]
  resolved := Array.replicate 11 none
  statics := none }

def pool3 : Array CpInfo := pool [(1, .class_ 2), (0, u "java/lang/Comparable"), (0, .class_ 4), (0, u "java/lang/Object")] 7

/-- java/lang/Comparable -/
def k3 : Class := { plain "java/lang/Comparable" (some 0) with
  accessFlags := 1537
  interfaces := #[]
  cf := some (fileOf pool3 1 #[] #[] 1537 3 #[] #[])
  fields := #[]
  methods := #[]
  instanceTypes := #[]
  staticTypes := #[]
  resolved := Array.replicate 12 none
  statics := none }

def pool4 : Array CpInfo := pool [(1, .class_ 2), (0, u "java/io/Serializable"), (0, .class_ 4), (0, u "java/lang/Object")] 2

/-- java/io/Serializable -/
def k4 : Class := { plain "java/io/Serializable" (some 0) with
  accessFlags := 1537
  interfaces := #[]
  cf := some (fileOf pool4 1 #[] #[] 1537 3 #[] #[])
  fields := #[]
  methods := #[]
  instanceTypes := #[]
  staticTypes := #[]
  resolved := Array.replicate 7 none
  statics := none }

def pool5 : Array CpInfo := pool [(2, .class_ 4), (1, u "java/lang/Enum"), (0, u "name"), (0, u "Ljava/lang/String;"), (2, u "ordinal"), (0, u "I"), (1, .class_ 14), (1, u "java/lang/Object"), (4, u "hash"), (86, .class_ 108), (1, u "java/lang/Enum$EnumDesc"), (2, .class_ 112), (0, u "java/lang/constant/Constable"), (0, .class_ 114), (0, u "java/lang/Comparable"), (0, .class_ 116), (0, u "java/io/Serializable")] 87

/-- java/lang/Enum -/
def k5 : Class := { plain "java/lang/Enum" (some 0) with
  accessFlags := 1057
  interfaces := #[2, 3, 4]
  cf := some (fileOf pool5 2 #[.nestMembers #[106]] #[] 1057 12 #[111, 113, 115] #[{ accessFlags := 18, nameIndex := 5, descriptorIndex := 6, attributes := #[] }, { accessFlags := 18, nameIndex := 9, descriptorIndex := 10, attributes := #[] }, { accessFlags := 2, nameIndex := 19, descriptorIndex := 10, attributes := #[] }])
  fields := #[{ name := "name", type := (.object "java/lang/String"), accessFlags := 18, slot := 0, constantValue := 0 }, { name := "ordinal", type := .int, accessFlags := 18, slot := 1, constantValue := 0 }, { name := "hash", type := .int, accessFlags := 2, slot := 2, constantValue := 0 }]
  methods := #[]
  instanceTypes := #[(.object "java/lang/String"), .int, .int]
  staticTypes := #[]
  resolved := Array.replicate 204 none
  statics := none }

def pool6 : Array CpInfo := pool [(2, .class_ 4), (1, u "com/example/coldsleep/coldsleep/game/Keyword"), (85, .class_ 91), (0, u "java/lang/Object")] 48

/-- com/example/coldsleep/coldsleep/game/Keyword -/
def k6 : Class := { plain "com/example/coldsleep/coldsleep/game/Keyword" (some 0) with
  accessFlags := 1537
  interfaces := #[]
  cf := some (fileOf pool6 2 #[] #[] 1537 90 #[] #[])
  fields := #[]
  methods := #[]
  instanceTypes := #[]
  staticTypes := #[]
  resolved := Array.replicate 140 none
  statics := none }

def pool7 : Array CpInfo := pool [(1, .class_ 2), (0, u "com/example/coldsleep/coldsleep/game/Aim"), (2, u "REACH_EARTH"), (0, u "Lcom/example/coldsleep/coldsleep/game/Aim;"), (2, u "REACH_MARS"), (2, u "DEAD_NEXT"), (2, u "DEAD_PREVIOUS"), (2, u "ALONE"), (0, .fieldref 1 20), (0, .nameAndType 21 6), (0, u "OTHERS"), (2, u "SURVIVE_POD"), (2, u "SURVIVE_HIBERNATED"), (0, .fieldref 1 29), (0, .nameAndType 30 6), (0, u "WEAKNESS"), (2, u "NEST"), (2, u "QUEEN"), (2, u "BREEDER"), (2, u "SIGNAL"), (2, u "$VALUES"), (0, u "[Lcom/example/coldsleep/coldsleep/game/Aim;"), (6, .class_ 55), (1, u "java/lang/Enum"), (8, u "written"), (0, u "Ljava/lang/String;"), (46, .class_ 113), (0, u "com/example/coldsleep/coldsleep/game/Keyword"), (9, u "counts"), (0, u "()Z")] 6

def k7c0 : Code := { maxStack := 2, maxLocals := 1, code := prog_13_method_5_code, exceptionTable := #[], attributes := #[] }
def k7m0 : Method := { name := "counts", desc := "()Z", sig := { parameters := [], returnType := some .boolean }, accessFlags := 1, code := some k7c0 }
/-- com/example/coldsleep/coldsleep/game/Aim -/
def k7 : Class := { plain "com/example/coldsleep/coldsleep/game/Aim" (some 5) with
  accessFlags := 16433
  interfaces := #[6]
  cf := some (fileOf pool7 1 #[] #[{ accessFlags := 1, nameIndex := 123, descriptorIndex := 124, attributes := #[] }] 16433 53 #[112] #[{ accessFlags := 16409, nameIndex := 5, descriptorIndex := 6, attributes := #[] }, { accessFlags := 16409, nameIndex := 9, descriptorIndex := 6, attributes := #[] }, { accessFlags := 16409, nameIndex := 12, descriptorIndex := 6, attributes := #[] }, { accessFlags := 16409, nameIndex := 15, descriptorIndex := 6, attributes := #[] }, { accessFlags := 16409, nameIndex := 18, descriptorIndex := 6, attributes := #[] }, { accessFlags := 16409, nameIndex := 21, descriptorIndex := 6, attributes := #[] }, { accessFlags := 16409, nameIndex := 24, descriptorIndex := 6, attributes := #[] }, { accessFlags := 16409, nameIndex := 27, descriptorIndex := 6, attributes := #[] }, { accessFlags := 16409, nameIndex := 30, descriptorIndex := 6, attributes := #[] }, { accessFlags := 16409, nameIndex := 33, descriptorIndex := 6, attributes := #[] }, { accessFlags := 16409, nameIndex := 36, descriptorIndex := 6, attributes := #[] }, { accessFlags := 16409, nameIndex := 39, descriptorIndex := 6, attributes := #[] }, { accessFlags := 16409, nameIndex := 42, descriptorIndex := 6, attributes := #[] }, { accessFlags := 18, nameIndex := 64, descriptorIndex := 65, attributes := #[] }, { accessFlags := 4122, nameIndex := 45, descriptorIndex := 46, attributes := #[] }])
  fields := #[{ name := "REACH_EARTH", type := (.object "com/example/coldsleep/coldsleep/game/Aim"), accessFlags := 16409, slot := 0, constantValue := 0 }, { name := "REACH_MARS", type := (.object "com/example/coldsleep/coldsleep/game/Aim"), accessFlags := 16409, slot := 1, constantValue := 0 }, { name := "DEAD_NEXT", type := (.object "com/example/coldsleep/coldsleep/game/Aim"), accessFlags := 16409, slot := 2, constantValue := 0 }, { name := "DEAD_PREVIOUS", type := (.object "com/example/coldsleep/coldsleep/game/Aim"), accessFlags := 16409, slot := 3, constantValue := 0 }, { name := "ALONE", type := (.object "com/example/coldsleep/coldsleep/game/Aim"), accessFlags := 16409, slot := 4, constantValue := 0 }, { name := "OTHERS", type := (.object "com/example/coldsleep/coldsleep/game/Aim"), accessFlags := 16409, slot := 5, constantValue := 0 }, { name := "SURVIVE_POD", type := (.object "com/example/coldsleep/coldsleep/game/Aim"), accessFlags := 16409, slot := 6, constantValue := 0 }, { name := "SURVIVE_HIBERNATED", type := (.object "com/example/coldsleep/coldsleep/game/Aim"), accessFlags := 16409, slot := 7, constantValue := 0 }, { name := "WEAKNESS", type := (.object "com/example/coldsleep/coldsleep/game/Aim"), accessFlags := 16409, slot := 8, constantValue := 0 }, { name := "NEST", type := (.object "com/example/coldsleep/coldsleep/game/Aim"), accessFlags := 16409, slot := 9, constantValue := 0 }, { name := "QUEEN", type := (.object "com/example/coldsleep/coldsleep/game/Aim"), accessFlags := 16409, slot := 10, constantValue := 0 }, { name := "BREEDER", type := (.object "com/example/coldsleep/coldsleep/game/Aim"), accessFlags := 16409, slot := 11, constantValue := 0 }, { name := "SIGNAL", type := (.object "com/example/coldsleep/coldsleep/game/Aim"), accessFlags := 16409, slot := 12, constantValue := 0 }, { name := "written", type := (.object "java/lang/String"), accessFlags := 18, slot := 3, constantValue := 0 }, { name := "$VALUES", type := (.array (.object "com/example/coldsleep/coldsleep/game/Aim")), accessFlags := 4122, slot := 13, constantValue := 0 }]
  methods := #[k7m0]
  instanceTypes := #[(.object "java/lang/String"), .int, .int, (.object "java/lang/String")]
  staticTypes := #[(.object "com/example/coldsleep/coldsleep/game/Aim"), (.object "com/example/coldsleep/coldsleep/game/Aim"), (.object "com/example/coldsleep/coldsleep/game/Aim"), (.object "com/example/coldsleep/coldsleep/game/Aim"), (.object "com/example/coldsleep/coldsleep/game/Aim"), (.object "com/example/coldsleep/coldsleep/game/Aim"), (.object "com/example/coldsleep/coldsleep/game/Aim"), (.object "com/example/coldsleep/coldsleep/game/Aim"), (.object "com/example/coldsleep/coldsleep/game/Aim"), (.object "com/example/coldsleep/coldsleep/game/Aim"), (.object "com/example/coldsleep/coldsleep/game/Aim"), (.object "com/example/coldsleep/coldsleep/game/Aim"), (.object "com/example/coldsleep/coldsleep/game/Aim"), (.array (.object "com/example/coldsleep/coldsleep/game/Aim"))]
  resolved := Array.replicate 131 none
  statics := some 0 }

def pool8 : Array CpInfo := pool [(1, u "java/lang/Cloneable"), (0, .class_ 1), (0, u "java/lang/Object"), (0, .class_ 3)] 3

/-- java/lang/Cloneable -/
def k8 : Class := { plain "java/lang/Cloneable" (some 0) with
  accessFlags := 1537
  interfaces := #[]
  cf := some (fileOf pool8 2 #[] #[] 1537 4 #[] #[])
  fields := #[]
  methods := #[]
  instanceTypes := #[]
  staticTypes := #[]
  resolved := Array.replicate 8 none
  statics := none }

/-- the primitive byte -/
def k9 : Class := { plain "byte" none with kind := .primitive 'B', accessFlags := 0x411 }
/-- [B -/
def k10 : Class := { plain "[B" (some 0) with kind := .array 9 .byte, interfaces := #[8, 4], accessFlags := 1041 }

/-- the primitive int -/
def k11 : Class := { plain "int" none with kind := .primitive 'I', accessFlags := 0x411 }
/-- [I -/
def k12 : Class := { plain "[I" (some 0) with kind := .array 11 .int, interfaces := #[8, 4], accessFlags := 1041 }

/-- [Lcom/example/coldsleep/coldsleep/game/Aim; -/
def k13 : Class := { plain "[Lcom/example/coldsleep/coldsleep/game/Aim;" (some 0) with kind := .array 7 (.object "com/example/coldsleep/coldsleep/game/Aim"), interfaces := #[8, 4], accessFlags := 1041 }

def heap : Heap := #[{ cls := 7, slots := #[.ref 1, .ref 2, .ref 3, .ref 4, .ref 5, .ref 6, .ref 7, .ref 8, .ref 9, .ref 10, .ref 11, .ref 12, .ref 13, .null], vm := .statics 7 },
  { cls := 7, slots := #[.null, .int 0, .int 0, .null], vm := .none },
  { cls := 7, slots := #[.null, .int 1, .int 0, .null], vm := .none },
  { cls := 7, slots := #[.null, .int 2, .int 0, .null], vm := .none },
  { cls := 7, slots := #[.null, .int 3, .int 0, .null], vm := .none },
  { cls := 7, slots := #[.null, .int 4, .int 0, .null], vm := .none },
  { cls := 7, slots := #[.null, .int 5, .int 0, .null], vm := .none },
  { cls := 7, slots := #[.null, .int 6, .int 0, .null], vm := .none },
  { cls := 7, slots := #[.null, .int 7, .int 0, .null], vm := .none },
  { cls := 7, slots := #[.null, .int 8, .int 0, .null], vm := .none },
  { cls := 7, slots := #[.null, .int 9, .int 0, .null], vm := .none },
  { cls := 7, slots := #[.null, .int 10, .int 0, .null], vm := .none },
  { cls := 7, slots := #[.null, .int 11, .int 0, .null], vm := .none },
  { cls := 7, slots := #[.null, .int 12, .int 0, .null], vm := .none }]
def classes : Array Class := #[k0, k1, k2, k3, k4, k5, k6, k7, k8, k9, k10, k11, k12, k13]
def interned : List (Array UInt16 × Addr) := []
def slotsUsed : Nat := 66
def theMethod : MethodId := ⟨1, 1⟩
def args0 : Array Value := #[.int 3]
def aboutOver (below : List Frame) : State where
  vm := { classes := classes, interned := interned.toArray }
  heap := heap
  slotsUsed := slotsUsed
  threads := #[{ frames := .invoking theMethod args0 :: below }]
def below0 : List Frame := [.native { method := ⟨0, 0⟩, args := #[] }]
def about1 : State := aboutOver below0
def p0 : Program := .bare "" "" ""
def e0 : Env := launch0.env 0 0 0
theorem w_frames : about1.frames = Frame.invoking theMethod args0 :: below0 := rfl
set_option maxRecDepth 65536 in
theorem w_args : argsFit about1.vm theMethod args0 = true := by decide +kernel
set_option maxRecDepth 65536 in
theorem w_heap : heapFits about1 = true := by decide +kernel
set_option maxRecDepth 65536 in
theorem w_runnable : about1.curStatus? = some .runnable := by decide +kernel
set_option maxRecDepth 65536 in
theorem w_alone : about1.alone = true := by decide +kernel
set_option maxRecDepth 65536 in
theorem w_named : about1.methodNamed? x = some theMethod := by decide +kernel
set_option maxRecDepth 65536 in
theorem w_hears : about1.hears theMethod below0 = true := by decide +kernel
set_option maxRecDepth 65536 in
theorem w_ripe : about1.ripe theMethod args0 below0 = true := by decide +kernel
theorem w_running : about1.status = .running := rfl
set_option maxRecDepth 65536 in
theorem w_room : about1.hasRoom e0.platform room_1 = true :=
  launch0.hasRoom_least _ room_1 (by decide +kernel) (by decide +kernel) (by decide +kernel) (by decide +kernel) (by decide +kernel) (by decide +kernel)
theorem allAtoms_all (ts : List Jvm.Cond) (a : Array Jvm.Value) (st : Jvm.State) : (allAtoms ts).before a st = ts.all (fun c => c.before a st) := by
  induction ts with
  | nil => rfl
  | cons c t ih =>
    show (Jvm.Cond.and c (allAtoms t)).before a st = _
    rw [Jvm.Cond.before_and, ih, List.all_cons]
def words1 : List Jvm.Cond := Jvm.Cond.code x code maxLocals ret :: tables_1
/-- a 'code' word, met by the world's own term for the bytes: nothing is compared byte by byte -/
theorem code_word {y : MethodName} {bytes : ByteArray} {mx : Nat} {rt : Option FieldType} {a : Array Value} {s : State} {m : MethodId} {meth : Method} {c : Code} (h1 : s.methodNamed? y = some m) (h2 : s.vm.method? m = some meth) (h3 : meth.code = some c) (h4 : c.code = bytes)
    (h5 : (c.maxLocals == mx && c.exceptionTable.isEmpty && decide (c.maxStack ≤ mostOperands) && decide (meth.sig.returnType = rt) && !meth.locks && decide (parseMethodDescriptor y.desc = some meth.sig)) = true) : (Jvm.Cond.code y bytes mx rt).before a s = true := by
  simp only [Bool.and_eq_true, beq_iff_eq, Bool.not_eq_true', decide_eq_true_eq] at h5
  obtain ⟨⟨⟨⟨⟨g1, g2⟩, g3⟩, g4⟩, g5⟩, g6⟩ := h5
  simp [Cond.before, Cond.holds, Cond.value, h1, h2, h3, h4, g1, g2, g3, g4, g5, g6]
def isCode : Jvm.Cond → Bool
  | .code _ _ _ _ => true
  | _ => false
theorem all_split {L : List Jvm.Cond} {P : Jvm.Cond → Bool} (h1 : L.all (fun c => isCode c || P c) = true) (h2 : ∀ c ∈ L.filter isCode, P c = true) : L.all P = true := by
  refine List.all_eq_true.mpr fun c hc => ?_
  have h := List.all_eq_true.mp h1 c hc
  rcases Bool.eq_false_or_eq_true (isCode c) with hi | hi
  · exact h2 c (List.mem_filter.mpr ⟨hc, hi⟩)
  · simpa [hi] using h
set_option maxRecDepth 65536 in
theorem w_c0 : (Jvm.Cond.code x code maxLocals ret).before args0 about1 = true := code_word (m := ⟨1, 1⟩) (meth := k1m1) (c := k1c1) (by decide +kernel) rfl rfl rfl (by decide +kernel)
set_option maxRecDepth 65536 in
theorem w_c1 : (Jvm.Cond.code ({ cls := "com/example/coldsleep/coldsleep/game/Aim", name := "counts", desc := "()Z" } : Jvm.MethodName) prog_13_method_5_code (1 : Nat) (Option.some Jvm.ClassFile.FieldType.boolean)).before args0 about1 = true := code_word (m := ⟨7, 0⟩) (meth := k7m0) (c := k7c0) (by decide +kernel) rfl rfl rfl (by decide +kernel)
def codes1 : List Jvm.Cond := [Jvm.Cond.code x code maxLocals ret, Jvm.Cond.code ({ cls := "com/example/coldsleep/coldsleep/game/Aim", name := "counts", desc := "()Z" } : Jvm.MethodName) prog_13_method_5_code (1 : Nat) (Option.some Jvm.ClassFile.FieldType.boolean)]
set_option maxRecDepth 65536 in
theorem codes_eq : words1.filter isCode = codes1 := rfl
theorem w_codes : ∀ c ∈ words1.filter isCode, c.before args0 about1 = true := by
  rw [codes_eq]
  intro c hc
  simp only [codes1, List.mem_cons, List.not_mem_nil, or_false] at hc
  rcases hc with rfl | rfl
  · exact w_c0
  · exact w_c1
set_option maxRecDepth 65536 in
theorem w_t1 : (words1.take 24).all (fun c => isCode c || c.before args0 about1) = true := by decide +kernel
set_option maxRecDepth 65536 in
theorem w_t2 : (words1.drop 24).all (fun c => isCode c || c.before args0 about1) = true := by decide +kernel
theorem w_tables : (allAtoms (Jvm.Cond.code x code maxLocals ret :: tables_1)).before args0 about1 = true := by
  rw [allAtoms_all]
  show words1.all (fun c => c.before args0 about1) = true
  refine all_split ?_ w_codes
  rw [← List.take_append_drop 24 words1, List.all_append, w_t1, w_t2]
  rfl
set_option maxRecDepth 65536 in
theorem w_case : (Jvm.Cond.and given_1 narrow_1).before args0 about1 = true := by decide +kernel
theorem w_applies : (headSpec (Jvm.Cond.code x code maxLocals ret :: tables_1) room_1).applies x e0.platform about1 = true :=
  (Spec.applies_iff w_frames).mpr ⟨w_running, w_runnable, w_alone, w_named, w_hears, w_ripe, w_room, w_tables⟩
theorem atStart : AtStart classFile x code maxLocals ret World_1 tables_1 room_1 Calls_1 rest_1 Pre_1 launch0 p0 e0 about1 theMethod args0 below0 :=
  ⟨lists_1, trivial, launch0.admits_env _ _ _, launch0.least_env, fairChoices_fair.cas, fairChoices_fair.clock, w_frames, w_args, w_heap, w_applies, trivial, trivial, w_case⟩
end start1
theorem witness_1 : WitnessClaimed_1 := ⟨start1.p0, start1.e0, start1.about1, start1.theMethod, start1.args0, start1.below0, start1.atStart⟩
end Jvm.Pilot.@@N@@
