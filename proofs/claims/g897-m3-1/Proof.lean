import JvmDerived
import JvmDerived.Pilot.@@N@@Statement
import JvmDerived.Pilot.@@N@@Code
set_option linter.unusedVariables false
set_option linter.unusedSimpArgs false
namespace Jvm.RoadKit
open Sem ClassFile Op Lib Jvm.Stand Jvm.Free Jvm.LawKit
section New
variable {p : Program} {l : Launch} {e : Env} {R : Room} {s : State} {m : MethodId} {args : Array Value} {below : List Frame} {meth : Method} {c : Code} {T : State} {locs : List Loc} {cells slots : Nat}
theorem retI (X : Stand p l e R s m args below meth c T locs cells slots) (hx : p.tables.exec = Jvm.exec) {pc : Nat} {Ls : Array Slot} {z : Int32} {rest : List Value} (hret : meth.sig.returnType = some .int) (hd : decode c.code pc = .ok (.ireturn, 1)) {fs : List Frame}
    (hl : ∀ (f : JFrame) (acts : List Action), f.method = m → f.locked = none → f.entered = [] → (doReturn e (T.setTop f) acts (some (.int z))).1 = T.setFrames fs) : Steps p.tables e below (T.setTop (mkF m pc Ls (.int z :: rest))) (T.setFrames fs) := by
  have hm' : T.vm.method? m = some meth := X.method'
  have hn : narrow .int (.int z) = .int z := rfl
  show Steps p.tables e below (T.setTop { method := m, pc := pc, locals := Ls, stack := _ :: rest, locked := none }) _
  jvm_step X.here [X.here.top, hx, hd, hm', hret, hn]
  first | (intro acts; rw [hl _ acts rfl rfl rfl]) | rw [hl _ _ rfl rfl rfl]
  exact Steps.refl _
end New
end Jvm.RoadKit
namespace Jvm.Pilot.@@N@@
open Jvm Jvm.ClassFile Sem Op Lib Jvm.Free Jvm.Stand Jvm.LawKit Jvm.RoadKit Bundle Jvm.Pilot.@@N@@.Jvm.D
theorem own_nm {a b : Addr} {l : List Addr} (h : a ≠ b) (r : a ∉ l) : a ∉ b :: l := fun q => (List.mem_cons.mp q).elim h r
theorem own_n0 {a : Addr} : a ∉ ([] : List Addr) := fun q => nomatch q
theorem own_nst {Z : State} {h : Heap} {a : Addr} {C : String} (F : Exa Z h a C) : ∃ c : Cell, h[a]? = some c ∧ c.vm.isStatics = false := by obtain ⟨c, k, h1, -, -, h4, -⟩ := F; exact ⟨c, h1, h4⟩
theorem own_nstV {Z : State} {h : Heap} {a : Addr} {k : ClassId} {ty : FieldType} {z : Int32} {vs : List Value} {dv : Value} (F : Arv Z h a k ty z vs dv) : ∃ c : Cell, h[a]? = some c ∧ c.vm.isStatics = false := by
  obtain ⟨c, A, -⟩ := F
  refine ⟨c, A.1, ?_⟩
  have q := A.2.1.1
  cases e : c.vm <;> first | rfl | exact absurd e (q _)
theorem own_q0 {h : Heap} : ∀ x ∈ ([] : List Addr), ∃ c : Cell, h[x]? = some c ∧ c.vm.isStatics = false := fun _ q => nomatch q
theorem own_qc {h : Heap} {a : Addr} {l : List Addr} (p : ∃ c : Cell, h[a]? = some c ∧ c.vm.isStatics = false) (r : ∀ x ∈ l, ∃ c : Cell, h[x]? = some c ∧ c.vm.isStatics = false) : ∀ x ∈ a :: l, ∃ c : Cell, h[x]? = some c ∧ c.vm.isStatics = false := fun x q => (List.mem_cons.mp q).elim (fun e => e ▸ p) (r x)
theorem own_sta_keep {Z : State} {h h' : Heap} {ws : List Addr} {C n d : String} {v : Value} (F : Sta Z h C n d v) (K : Keep h h' ws) (q : ∀ x ∈ ws, ∃ c : Cell, h[x]? = some c ∧ c.vm.isStatics = false) : Sta Z h' C n d v := by
  obtain ⟨cf, i, k, f, st, cell, h1, h2, h3, h4, h5, h6, h7⟩ := F
  refine ⟨cf, i, k, f, st, cell, h1, h2, h3, h4, K.2.1 _ _ h5 fun z => ?_, h6, h7⟩
  obtain ⟨c, g1, g2⟩ := q _ z
  cases h5.symm.trans g1; rw [h6] at g2; cases g2
theorem own_eqI {a b : Term} {args : Array Value} {first s : State} {o : Option Outcome} {idx : List Nat} {k : Int32} (h : (Jvm.Cond.eq a b).value args first o s idx = some true) (hb : b.eval args first o idx s = some (.int k)) : a.eval args first o idx s = some (.int k) := by
  obtain ⟨x, y, ha, hb', K, K'⟩ := cmp_v (Or.inl h)
  cases hb.symm.trans hb'
  obtain ⟨z, rfl⟩ := K'
  simp [Cond.value, ha, hb] at h
  rw [ha, h]
theorem own_eqR {a b : Term} {args : Array Value} {first s : State} {o : Option Outcome} {idx : List Nat} {k : Addr} (h : (Jvm.Cond.eq a b).value args first o s idx = some true) (hb : b.eval args first o idx s = some (.ref k)) : a.eval args first o idx s = some (.ref k) := by
  obtain ⟨x, y, ha, hb', K, K'⟩ := cmp_v (Or.inl h)
  cases hb.symm.trans hb'
  have q := gotT (eq_R ha hb K'.2 rfl) h
  rw [ha, q]
abbrev mN0 : MethodName := ⟨"java/lang/AbstractStringBuilder", "<init>", "(I)V"⟩
abbrev mN1 : MethodName := ⟨"java/lang/AbstractStringBuilder", "append", "(Ljava/lang/String;)Ljava/lang/AbstractStringBuilder;"⟩
abbrev mN2 : MethodName := ⟨"java/lang/AbstractStringBuilder", "ensureCapacityInternal", "(I)V"⟩
abbrev mN3 : MethodName := ⟨"java/lang/AbstractStringBuilder", "getValue", "()[B"⟩
abbrev mN4 : MethodName := ⟨"java/lang/AbstractStringBuilder", "inflateIfNeededFor", "(Ljava/lang/String;)V"⟩
abbrev mN5 : MethodName := ⟨"java/lang/AbstractStringBuilder", "isLatin1", "()Z"⟩
abbrev mN6 : MethodName := ⟨"java/lang/AbstractStringBuilder", "length", "()I"⟩
abbrev mN7 : MethodName := ⟨"java/lang/AbstractStringBuilder", "newCapacity", "(I)I"⟩
abbrev mN8 : MethodName := ⟨"java/lang/AbstractStringBuilder", "putStringAt", "(ILjava/lang/String;)V"⟩
abbrev mN9 : MethodName := ⟨"java/lang/Math", "max", "(II)I"⟩
abbrev mN10 : MethodName := ⟨"java/lang/Math", "min", "(II)I"⟩
abbrev mN11 : MethodName := ⟨"java/lang/String", "<init>", "(Ljava/lang/AbstractStringBuilder;Ljava/lang/Void;)V"⟩
abbrev mN12 : MethodName := ⟨"java/lang/String", "<init>", "(Ljava/lang/StringBuilder;)V"⟩
abbrev mN13 : MethodName := ⟨"java/lang/String", "<init>", "([BB)V"⟩
abbrev mN14 : MethodName := ⟨"java/lang/String", "<init>", "([C)V"⟩
abbrev mN15 : MethodName := ⟨"java/lang/String", "<init>", "([CIILjava/lang/Void;)V"⟩
abbrev mN16 : MethodName := ⟨"java/lang/String", "charAt", "(I)C"⟩
abbrev mN17 : MethodName := ⟨"java/lang/String", "checkIndex", "(II)V"⟩
abbrev mN18 : MethodName := ⟨"java/lang/String", "coder", "()B"⟩
abbrev mN19 : MethodName := ⟨"java/lang/String", "getBytes", "([BIB)V"⟩
abbrev mN20 : MethodName := ⟨"java/lang/String", "isLatin1", "()Z"⟩
abbrev mN21 : MethodName := ⟨"java/lang/String", "length", "()I"⟩
abbrev mN22 : MethodName := ⟨"java/lang/String", "valueOf", "(C)Ljava/lang/String;"⟩
abbrev mN23 : MethodName := ⟨"java/lang/StringBuilder", "<init>", "()V"⟩
abbrev mN24 : MethodName := ⟨"java/lang/StringBuilder", "append", "(Ljava/lang/String;)Ljava/lang/StringBuilder;"⟩
abbrev mN25 : MethodName := ⟨"java/lang/StringBuilder", "length", "()I"⟩
abbrev mN26 : MethodName := ⟨"java/lang/StringBuilder", "toString", "()Ljava/lang/String;"⟩
abbrev mN27 : MethodName := ⟨"java/lang/StringLatin1", "canEncode", "(C)Z"⟩
abbrev mN28 : MethodName := ⟨"java/lang/StringLatin1", "charAt", "([BI)C"⟩
abbrev mN29 : MethodName := ⟨"java/lang/StringLatin1", "toBytes", "(C)[B"⟩
abbrev mN30 : MethodName := ⟨"java/lang/StringUTF16", "coderFromArrayLen", "([BI)B"⟩
abbrev mN31 : MethodName := ⟨"java/lang/StringUTF16", "compress", "([CII)[B"⟩
abbrev mN32 : MethodName := ⟨"java/lang/StringUTF16", "compress", "([CI[BII)I"⟩
abbrev mN33 : MethodName := ⟨"java/util/AbstractCollection", "<init>", "()V"⟩
abbrev mN34 : MethodName := ⟨"java/util/AbstractList", "<init>", "()V"⟩
abbrev mN35 : MethodName := ⟨"java/util/AbstractMap", "<init>", "()V"⟩
abbrev mN36 : MethodName := ⟨"java/util/AbstractSet", "<init>", "()V"⟩
abbrev mN37 : MethodName := ⟨"java/util/ArrayList", "<init>", "()V"⟩
abbrev mN38 : MethodName := ⟨"java/util/ArrayList", "isEmpty", "()Z"⟩
abbrev mN39 : MethodName := ⟨"java/util/Arrays", "checkLength", "(II)V"⟩
abbrev mN40 : MethodName := ⟨"java/util/Arrays", "copyOf", "([BI)[B"⟩
abbrev mN41 : MethodName := ⟨"java/util/Arrays", "copyOfRange", "([BII)[B"⟩
abbrev mN42 : MethodName := ⟨"java/util/Arrays", "copyOfRangeByte", "([BII)[B"⟩
abbrev mN43 : MethodName := ⟨"java/util/HashMap", "<init>", "()V"⟩
abbrev mN44 : MethodName := ⟨"java/util/HashSet", "<init>", "()V"⟩
abbrev mN46 : MethodName := ⟨"jdk/internal/util/ArraysSupport", "newLength", "(III)I"⟩
abbrev mN47 : MethodName := ⟨"jdk/internal/util/Preconditions", "checkIndex", "(IILjava/util/function/BiFunction;)I"⟩
abbrev mN48 : MethodName := ⟨"underdeck/deck/Dialect", "defaultsOnly", "()Ljava/lang/String;"⟩
abbrev mN49 : MethodName := ⟨"underdeck/deck/SqlText", "<init>", "(Lunderdeck/deck/Dialect;)V"⟩
abbrev mN50 : MethodName := ⟨"underdeck/deck/SqlText", "defaultsOnly", "()Lunderdeck/deck/SqlText;"⟩
abbrev mN51 : MethodName := ⟨"underdeck/deck/SqlText", "plain", "()Ljava/lang/String;"⟩
abbrev mN52 : MethodName := ⟨"underdeck/deck/SqlText", "sql", "(Ljava/lang/String;)Lunderdeck/deck/SqlText;"⟩
abbrev mN53 : MethodName := ⟨"underdeck/deck/SqlTextDefaultsOnlyPinLaw", "at", "(Ljava/lang/String;ILjava/lang/String;I)Z"⟩
abbrev mN54 : MethodName := ⟨"underdeck/deck/SqlTextDefaultsOnlyPinLaw", "tail", "(Ljava/lang/String;ILjava/lang/String;)Z"⟩
abbrev vI (x : Int32) : Slot := .val (.int x)
abbrev vL (x : Int64) : Slot := .val (.long x)
abbrev vA (x : Addr) : Slot := .val (.ref x)
abbrev vD (x : UInt64) : Slot := .val (.double x)
abbrev vU : Slot := .unset
abbrev vS : Slot := .second

theorem own_i32 (x : Int32) : x.toInt = if x.toUInt32.toNat < 2^31 then (x.toUInt32.toNat : Int) else (x.toUInt32.toNat : Int) - 2^32 := by
  have h : x.toInt = x.toBitVec.toInt := rfl
  have h2 : x.toUInt32.toNat = x.toBitVec.toNat := rfl
  rw [h, h2, BitVec.toInt_eq_toNat_cond]
  split <;> split <;> omega
theorem own_mask (x m : Int32) (k : Nat) (hk : k ≤ 31) (hm : m.toUInt32.toNat = 2 ^ k - 1) : (x &&& m).toInt = x.toInt % 2 ^ k := by
  have e : (x &&& m).toUInt32.toNat = x.toUInt32.toNat % 2 ^ k := by
    rw [Int32.toUInt32_and, UInt32.toNat_and, hm, Nat.and_two_pow_sub_one_eq_mod]
  have hp : (2 ^ k : Nat) ≤ 2 ^ 31 := Nat.pow_le_pow_right (by decide) hk
  have hd : (2 ^ k : Nat) ∣ 2 ^ 32 := Nat.pow_dvd_pow 2 (by omega)
  have hpos : 0 < (2 ^ k : Nat) := Nat.pow_pos (by decide)
  have hlt : x.toUInt32.toNat % 2 ^ k < 2 ^ k := Nat.mod_lt _ hpos
  rw [own_i32 (x &&& m), e, if_pos (by omega), own_i32 x]
  have hc : ((2 : Int) ^ k) = ((2 ^ k : Nat) : Int) := by simp
  rw [hc]
  split
  · exact (Int.natCast_emod _ _)
  · obtain ⟨c, hc2⟩ := hd
    have : ((x.toUInt32.toNat : Int) - 2 ^ 32) = (x.toUInt32.toNat : Int) + ((2 ^ k : Nat) : Int) * (-(c : Int)) := by
      have : ((2 : Int) ^ 32) = ((2 ^ k : Nat) : Int) * (c : Int) := by exact_mod_cast hc2
      rw [this, Int.mul_neg]; rfl
    rw [this, Int.add_mul_emod_self_left]
    exact (Int.natCast_emod _ _)
theorem own_mod (y n : Int32) (hy : 0 ≤ y.toInt) (hn : 0 < n.toInt) : (y - y / n * n).toInt = y.toInt % n.toInt := by
  have b1 := y.toInt_lt; have b2 := n.toInt_lt
  have hd : (y / n).toInt = y.toInt / n.toInt := by
    rw [Int32.toInt_div_of_ne_right y n (by intro h; rw [h] at hn; exact absurd hn (by decide)), Int.tdiv_eq_ediv_of_nonneg hy]
  have h1 : 0 ≤ y.toInt / n.toInt := Int.ediv_nonneg hy (by omega)
  have h2 : y.toInt / n.toInt * n.toInt ≤ y.toInt := Int.ediv_mul_le _ (by omega)
  have h3 : 0 ≤ y.toInt / n.toInt * n.toInt := Int.mul_nonneg h1 (by omega)
  have hmul : (y / n * n).toInt = y.toInt / n.toInt * n.toInt := by
    rw [Int32.toInt_mul, hd]; apply Int.bmod_eq_of_le <;> omega
  rw [Int32.toInt_sub, hmul]
  have h4 := Int.emod_def y.toInt n.toInt
  rw [Int.mul_comm] at h4
  rw [h4]; apply Int.bmod_eq_of_le <;> omega
theorem own_pos (x : Int32) : 0 ≤ (x &&& 2147483647).toInt := by
  rw [own_mask x 2147483647 31 (by decide) (by decide)]; exact Int.emod_nonneg _ (by decide)
theorem own_add (x y : Int32) (h1 : -2147483648 ≤ x.toInt + y.toInt) (h2 : x.toInt + y.toInt < 2147483648) : (x + y).toInt = x.toInt + y.toInt := by
  rw [Int32.toInt_add]; apply Int.bmod_eq_of_le <;> omega
theorem own_and3 (x : Int32) : x &&& 3 = 0 ∨ x &&& 3 = 1 ∨ x &&& 3 = 2 ∨ x &&& 3 = 3 := by
  have h := own_mask x 3 2 (by decide) (by decide)
  have h2 : x.toInt % 2 ^ 2 = 0 ∨ x.toInt % 2 ^ 2 = 1 ∨ x.toInt % 2 ^ 2 = 2 ∨ x.toInt % 2 ^ 2 = 3 := by omega
  rcases h2 with q | q | q | q
  · exact Or.inl (Int32.toInt_inj.mp (by rw [h, q]; rfl))
  · exact Or.inr (Or.inl (Int32.toInt_inj.mp (by rw [h, q]; rfl)))
  · exact Or.inr (Or.inr (Or.inl (Int32.toInt_inj.mp (by rw [h, q]; rfl))))
  · exact Or.inr (Or.inr (Or.inr (Int32.toInt_inj.mp (by rw [h, q]; rfl))))
theorem d5_0 : decode jdk_22_method_1_code 0 = .ok (.aload_n 0, 1) := by decide +kernel
theorem d5_1 : decode jdk_22_method_1_code 1 = .ok (.invokespecial 1, 3) := by decide +kernel
theorem d5_4 : decode jdk_22_method_1_code 4 = .ok (.return_, 1) := by decide +kernel
theorem pn_5 : plainName "java/util/AbstractCollection" = true := by first | (simp [plainName, overriddenIn]; done) | decide +kernel
theorem ef_5 (m : MethodId) (x0 : Addr) : entryFrame m #[(.ref x0)] 1 = mkF m 0 #[.val (.ref x0)] [] := by first | (simp [entryFrame, mkF, argsToLocals, Value.category]; done) | rfl
def Q_rm5 (Z : State) (a1 : Addr) (h0 : Heap) (n0 : Nat) (v : Option Value) (h : Heap) (L : List Loc) : Prop := v = none ∧ Fr n0 L ∧ h = h0
set_option maxRecDepth 65536 in
set_option maxHeartbeats 40000000 in
theorem rm5 (l : Launch) (Z : State) (a0 : Array Value) (hw : ∀ d ∈ tables_1, d.before a0 Z = true) (ws : List Jvm.Cond) (a1 : Addr) (h0 : Heap) (n0 : Nat) (Z0 : n0 ≤ h0.size) :
    MetFree l mN33 (head1 (Jvm.Cond.code mN33 jdk_22_method_1_code 1 none :: ws) ({ frames := 1, cells := 0, slots := 0, locals := 12 } : Room)) (fun a U => a = #[(.ref a1)] ∧ Z.Warmed39 U.vm ∧ U.heap = h0) (fun _ _ _ _ _ => True) (fun _ U o U' => ∃ v L, o = .returned v ∧ Q_rm5 Z a1 h0 n0 v U'.heap L ∧ FrameEnd U o U' L ({ frames := 1, cells := 0, slots := 0, locals := 12 } : Room).cells ({ frames := 1, cells := 0, slots := 0, locals := 12 } : Room).slots) := by
  have hi : ∀ (i : Nat) {d : Jvm.Cond}, tables_1[i]? = some d → d.before a0 Z = true := fun i d h => hw d (List.mem_of_getElem? h)
  refine MetFree.of_bodySF (plainFor_of_name pn_5) hisR ?_
  intro p e s m args below meth c s₁ Bd hml0 hP hK
  obtain ⟨rfl, hZ, hh⟩ := hP
  have hx := Bd.exec
  have hby := Bd.bytes
  have hml : c.maxLocals = 1 := hml0
  have hown : s.vm.findClass "java/util/AbstractCollection" = some m.cls := findClass_of_methodNamed Bd.named
  have hnm := (name_of_methodNamed Bd.named Bd.method).1
  have X0 : Stand p l e ({ frames := 1, cells := 0, slots := 0, locals := 12 } : Room) s m #[(.ref a1)] below meth c s₁ [] 0 0 := Stand.of_body Bd
  have e0 : s₁.heap = h0 := by rw [← hh, Bd.state]; rfl
  have N0 := Fr.nil n0
  obtain ⟨T2, X2, e2, st2⟩ := initO X0 hx hZ hown (hi 41 rfl) (hi 21 rfl) (hi 22 rfl) e0 (g := (mkF m 1 #[vA a1] [(.ref a1)])) rfl (by rw [hml]; rfl) rfl (hb hby d5_1) (by decide) (W := 0) (by show 2 * 0 + _ ≤ _; exact Nat.le_of_eq rfl) (by decide)
  obtain ⟨fs, hr, hrun, hended, hW, hsame⟩ := X2.leave (v := none) (fun _ => rfl)
  refine ⟨_, _, castTop (ef_5 m a1) ?_, hrun, hended, _, _, rfl, ?_, ⟨_, rfl⟩, hW, hsame.mono (by decide) (by decide)⟩
  · show Steps p.tables e below (s₁.setTop (mkF m 0 #[vA a1] [])) _
    refine XS.aloadN X0.here hx rfl (hb hby d5_0) rfl rfl ?_
    refine st2 _ ?_
    show Steps p.tables e below (T2.setTop (mkF m 4 #[vA a1] [])) _
    exact X2.returnOut hx Bd.returns (hb hby d5_4) hr
  · show Q_rm5 Z a1 h0 n0 _ T2.heap _
    exact ⟨rfl, N0, e2⟩
theorem ydr_ : parseMethodDescriptor "()V" = some ⟨[], none⟩ := by decide +kernel
theorem d4_0 : decode jdk_39_method_1_code 0 = .ok (.aload_n 0, 1) := by decide +kernel
theorem d4_1 : decode jdk_39_method_1_code 1 = .ok (.invokespecial 1, 3) := by decide +kernel
theorem d4_4 : decode jdk_39_method_1_code 4 = .ok (.aload_n 0, 1) := by decide +kernel
theorem d4_5 : decode jdk_39_method_1_code 5 = .ok (.iconst 0, 1) := by decide +kernel
theorem d4_6 : decode jdk_39_method_1_code 6 = .ok (.putfield 7, 3) := by decide +kernel
theorem d4_9 : decode jdk_39_method_1_code 9 = .ok (.return_, 1) := by decide +kernel
theorem pn_4 : plainName "java/util/AbstractList" = true := by first | (simp [plainName, overriddenIn]; done) | decide +kernel
theorem ef_4 (m : MethodId) (x0 : Addr) : entryFrame m #[(.ref x0)] 1 = mkF m 0 #[.val (.ref x0)] [] := by first | (simp [entryFrame, mkF, argsToLocals, Value.category]; done) | rfl
def Q_rm4 (Z : State) (a1 : Addr) (ycm_ : Value) (ydw_ : Int32) (ydm_ : Int32) (h0 : Heap) (n0 : Nat) (v : Option Value) (h : Heap) (L : List Loc) : Prop := v = none ∧ Fr n0 L ∧ Keep h0 h [a1] ∧ Exa Z h a1 "java/util/ArrayList" ∧ Fld Z h a1 "java/util/ArrayList" "elementData" "[Ljava/lang/Object;" ycm_ ∧ Fld Z h a1 "java/util/ArrayList" "size" "I" (.int ydw_) ∧ Fld Z h a1 "java/util/AbstractList" "modCount" "I" (.int (0 : Int32))
set_option maxRecDepth 65536 in
set_option maxHeartbeats 40000000 in
theorem rm4 (l : Launch) (Z : State) (a0 : Array Value) (hw : ∀ d ∈ tables_1, d.before a0 Z = true) (ws : List Jvm.Cond) (a1 : Addr) (ycm_ : Value) (ydw_ : Int32) (ydm_ : Int32) (h0 : Heap) (n0 : Nat) (Z0 : n0 ≤ h0.size) (yhb_ : Fld Z h0 a1 "java/util/ArrayList" "elementData" "[Ljava/lang/Object;" ycm_) (yiv_ : Fld Z h0 a1 "java/util/ArrayList" "size" "I" (.int ydw_)) (E_a1 : Exa Z h0 a1 "java/util/ArrayList") (yha_ : Fld Z h0 a1 "java/util/AbstractList" "modCount" "I" (.int ydm_)) (g_a1 : n0 ≤ a1) :
    MetFree l mN34 (head1 (Jvm.Cond.code mN34 jdk_39_method_1_code 1 none :: ws) ({ frames := 2, cells := 0, slots := 0, locals := 24 } : Room)) (fun a U => a = #[(.ref a1)] ∧ Z.Warmed39 U.vm ∧ U.heap = h0) (fun _ _ _ _ _ => True) (fun _ U o U' => ∃ v L, o = .returned v ∧ Q_rm4 Z a1 ycm_ ydw_ ydm_ h0 n0 v U'.heap L ∧ FrameEnd U o U' L ({ frames := 2, cells := 0, slots := 0, locals := 24 } : Room).cells ({ frames := 2, cells := 0, slots := 0, locals := 24 } : Room).slots) := by
  have hi : ∀ (i : Nat) {d : Jvm.Cond}, tables_1[i]? = some d → d.before a0 Z = true := fun i d h => hw d (List.mem_of_getElem? h)
  refine MetFree.of_bodySF (plainFor_of_name pn_4) hisR ?_
  intro p e s m args below meth c s₁ Bd hml0 hP hK
  obtain ⟨rfl, hZ, hh⟩ := hP
  have hx := Bd.exec
  have hby := Bd.bytes
  have hml : c.maxLocals = 1 := hml0
  have hown : s.vm.findClass "java/util/AbstractList" = some m.cls := findClass_of_methodNamed Bd.named
  have hnm := (name_of_methodNamed Bd.named Bd.method).1
  have X0 : Stand p l e ({ frames := 2, cells := 0, slots := 0, locals := 24 } : Room) s m #[(.ref a1)] below meth c s₁ [] 0 0 := Stand.of_body Bd
  have e0 : s₁.heap = h0 := by rw [← hh, Bd.state]; rfl
  have N0 := Fr.nil n0
  obtain ⟨_, _, ⟨T2, L2, k2, n2⟩, -, X2, ⟨Lc2, hQ2, l2, y2, z2⟩, st2⟩ := X0.specialBack hx (y := mN33) rfl hown (mvT hZ (hi 35 rfl)) (mvT hZ (hi 36 rfl)) (mvT hZ (hi 40 rfl)) (by decide) (backOf (W := 0) (rm5 l Z a0 hw [] a1 h0 n0 Z0 ) hZ (hi 40 rfl) (hi 39 rfl) (by decide) (by decide)) (g := (mkF m 1 #[vA a1] [(.ref a1)])) rfl (by rw [hml]; rfl) (Steps.refl _) (a := a1) (argsL := []) (rest := []) (lenOf ydr_ rfl) rfl (by show 2 * 0 + _ ≤ _; exact Nat.le_of_eq rfl) (hb hby d4_1) (fun _ _ => ⟨rfl, e0, (by decide : 0 + 0 ≤ _), (by decide : 0 + 0 ≤ _)⟩)
  dsimp only [Pt.U, Pt.locs, Pt.cells, Pt.slots] at X2 l2 y2 z2 st2 hQ2
  subst l2 y2 z2
  obtain ⟨rfl, N2q, e2⟩ := hQ2
  have N2 := Fr.app N0 N2q
  obtain ⟨T3, h3, X3, e3, W3, st3⟩ := putF X2 hx hZ hown (host := "") (Or.inl (hi 42 rfl)) Via.refl e2 yha_ E_a1 (Or.inl (hi 43 rfl)) (hi 24 rfl) (ty := .int) (by decide) rfl rfl (g := (mkF m 6 #[vA a1] [(.int (0 : Int32)), (.ref a1)])) rfl rfl (hb hby d4_6)
  have Fw3 := yha_.same W3
  have N3 := Fr.snoc X3 N2 g_a1
  have f0 := (E_a1.wr W3)
  have f1 := (yhb_.other W3 (Or.inr (slot_ne (Or.inl (hi 46 rfl)) (Or.inl (hi 43 rfl)) (by decide) (t := (.array (.object "java/lang/Object"))) (t' := .int) (by decide) (by decide))))
  have f2 := (yiv_.other W3 (Or.inr (slot_ne (Or.inl (hi 197 rfl)) (Or.inl (hi 43 rfl)) (by decide) (t := .int) (t' := .int) (by decide) (by decide))))
  obtain ⟨fs, hr, hrun, hended, hW, hsame⟩ := X3.leave (v := none) (fun _ => rfl)
  refine ⟨_, _, castTop (ef_4 m a1) ?_, hrun, hended, _, _, rfl, ?_, ⟨_, rfl⟩, hW, hsame.mono (by decide) (by decide)⟩
  · show Steps p.tables e below (s₁.setTop (mkF m 0 #[vA a1] [])) _
    refine XS.aloadN X0.here hx rfl (hb hby d4_0) rfl rfl ?_
    refine st2.trans ?_
    refine XS.aloadN X2.here hx rfl (hb hby d4_4) rfl rfl ?_
    refine XS.iconst X2.here hx rfl (hb hby d4_5) ?_
    refine st3 _ ?_
    show Steps p.tables e below (T3.setTop (mkF m 9 #[vA a1] [])) _
    exact X3.returnOut hx Bd.returns (hb hby d4_9) hr
  · show Q_rm4 Z a1 ycm_ ydw_ ydm_ h0 n0 _ T3.heap _
    rw [e3]
    exact ⟨rfl, N3, ((Keep.refl h0 [a1]).wr W3 (Or.inl (List.mem_of_getElem? (i := 0) rfl))), f0, f1, f2, Fw3⟩
theorem d3_0 : decode jdk_38_method_2_code 0 = .ok (.aload_n 0, 1) := by decide +kernel
theorem d3_1 : decode jdk_38_method_2_code 1 = .ok (.invokespecial 1, 3) := by decide +kernel
theorem d3_4 : decode jdk_38_method_2_code 4 = .ok (.aload_n 0, 1) := by decide +kernel
theorem d3_5 : decode jdk_38_method_2_code 5 = .ok (.getstatic 39, 3) := by decide +kernel
theorem d3_8 : decode jdk_38_method_2_code 8 = .ok (.putfield 9, 3) := by decide +kernel
theorem d3_11 : decode jdk_38_method_2_code 11 = .ok (.return_, 1) := by decide +kernel
theorem pn_3 : plainName "java/util/ArrayList" = true := by first | (simp [plainName, overriddenIn]; done) | decide +kernel
theorem ef_3 (m : MethodId) (x0 : Addr) : entryFrame m #[(.ref x0)] 1 = mkF m 0 #[.val (.ref x0)] [] := by first | (simp [entryFrame, mkF, argsToLocals, Value.category]; done) | rfl
def Q_rm3 (Z : State) (a1 : Addr) (ycm_ : Value) (ydw_ : Int32) (ydm_ : Int32) (yg_ : Addr) (h0 : Heap) (n0 : Nat) (v : Option Value) (h : Heap) (L : List Loc) : Prop := v = none ∧ Fr n0 L ∧ Keep h0 h [a1] ∧ Exa Z h a1 "java/util/ArrayList" ∧ Fld Z h a1 "java/util/ArrayList" "elementData" "[Ljava/lang/Object;" (.ref yg_) ∧ Fld Z h a1 "java/util/ArrayList" "size" "I" (.int ydw_) ∧ Fld Z h a1 "java/util/AbstractList" "modCount" "I" (.int (0 : Int32))
set_option maxRecDepth 65536 in
set_option maxHeartbeats 40000000 in
theorem rm3 (l : Launch) (Z : State) (a0 : Array Value) (hw : ∀ d ∈ tables_1, d.before a0 Z = true) (ws : List Jvm.Cond) (a1 : Addr) (ycm_ : Value) (ydw_ : Int32) (ydm_ : Int32) (yg_ : Addr) (h0 : Heap) (n0 : Nat) (Z0 : n0 ≤ h0.size) (yhb_ : Fld Z h0 a1 "java/util/ArrayList" "elementData" "[Ljava/lang/Object;" ycm_) (yiv_ : Fld Z h0 a1 "java/util/ArrayList" "size" "I" (.int ydw_)) (yha_ : Fld Z h0 a1 "java/util/AbstractList" "modCount" "I" (.int ydm_)) (E_a1 : Exa Z h0 a1 "java/util/ArrayList") (g_a1 : n0 ≤ a1) (yaj_ : Sta Z h0 "java/util/ArrayList" "DEFAULTCAPACITY_EMPTY_ELEMENTDATA" "[Ljava/lang/Object;" (.ref yg_)) :
    MetFree l mN37 (head1 (Jvm.Cond.code mN37 jdk_38_method_2_code 1 none :: ws) ({ frames := 3, cells := 0, slots := 0, locals := 36 } : Room)) (fun a U => a = #[(.ref a1)] ∧ Z.Warmed39 U.vm ∧ U.heap = h0) (fun _ _ _ _ _ => True) (fun _ U o U' => ∃ v L, o = .returned v ∧ Q_rm3 Z a1 ycm_ ydw_ ydm_ yg_ h0 n0 v U'.heap L ∧ FrameEnd U o U' L ({ frames := 3, cells := 0, slots := 0, locals := 36 } : Room).cells ({ frames := 3, cells := 0, slots := 0, locals := 36 } : Room).slots) := by
  have hi : ∀ (i : Nat) {d : Jvm.Cond}, tables_1[i]? = some d → d.before a0 Z = true := fun i d h => hw d (List.mem_of_getElem? h)
  refine MetFree.of_bodySF (plainFor_of_name pn_3) hisR ?_
  intro p e s m args below meth c s₁ Bd hml0 hP hK
  obtain ⟨rfl, hZ, hh⟩ := hP
  have hx := Bd.exec
  have hby := Bd.bytes
  have hml : c.maxLocals = 1 := hml0
  have hown : s.vm.findClass "java/util/ArrayList" = some m.cls := findClass_of_methodNamed Bd.named
  have hnm := (name_of_methodNamed Bd.named Bd.method).1
  have X0 : Stand p l e ({ frames := 3, cells := 0, slots := 0, locals := 36 } : Room) s m #[(.ref a1)] below meth c s₁ [] 0 0 := Stand.of_body Bd
  have e0 : s₁.heap = h0 := by rw [← hh, Bd.state]; rfl
  have N0 := Fr.nil n0
  obtain ⟨_, _, ⟨T2, L2, k2, n2⟩, -, X2, ⟨Lc2, hQ2, l2, y2, z2⟩, st2⟩ := X0.specialBack hx (y := mN34) rfl hown (mvT hZ (hi 29 rfl)) (mvT hZ (hi 30 rfl)) (mvT hZ (hi 34 rfl)) (by decide) (backOf (W := 0) (rm4 l Z a0 hw [] a1 ycm_ ydw_ ydm_ h0 n0 Z0 yhb_ yiv_ E_a1 yha_ g_a1) hZ (hi 34 rfl) (hi 33 rfl) (by decide) (by decide)) (g := (mkF m 1 #[vA a1] [(.ref a1)])) rfl (by rw [hml]; rfl) (Steps.refl _) (a := a1) (argsL := []) (rest := []) (lenOf ydr_ rfl) rfl (by show 2 * 0 + _ ≤ _; exact Nat.le_of_eq rfl) (hb hby d3_1) (fun _ _ => ⟨rfl, e0, (by decide : 0 + 0 ≤ _), (by decide : 0 + 0 ≤ _)⟩)
  dsimp only [Pt.U, Pt.locs, Pt.cells, Pt.slots] at X2 l2 y2 z2 st2 hQ2
  subst l2 y2 z2
  obtain ⟨rfl, N2q, K2, i2_0, i2_1, i2_2, i2_3⟩ := hQ2
  have N2 := Fr.app N0 N2q
  have f0 := (own_sta_keep yaj_ K2 (own_qc (own_nst E_a1) own_q0))
  obtain ⟨T3, X3, e3, st3⟩ := getS2 X2 hx hZ hown (host := "") (Or.inl (hi 44 rfl)) Via.refl rfl f0 (g := (mkF m 5 #[vA a1] [(.ref a1)])) rfl (hb hby d3_5)
  obtain ⟨T4, h4, X4, e4, W4, st4⟩ := putF X3 hx hZ hown (host := "") (Or.inl (hi 45 rfl)) Via.refl e3 i2_1 i2_0 (Or.inl (hi 46 rfl)) (hi 24 rfl) (ty := (.array (.object "java/lang/Object"))) (by decide) rfl rfl (g := (mkF m 8 #[vA a1] [(.ref yg_), (.ref a1)])) rfl rfl (hb hby d3_8)
  have Fw4 := i2_1.same W4
  have N4 := Fr.snoc X4 N2 g_a1
  have f1 := (i2_0.wr W4)
  have f2 := (i2_2.other W4 (Or.inr (slot_ne (Or.inl (hi 197 rfl)) (Or.inl (hi 46 rfl)) (by decide) (t := .int) (t' := (.array (.object "java/lang/Object"))) (by decide) (by decide))))
  have f3 := (i2_3.other W4 (Or.inr (slot_ne (Or.inl (hi 43 rfl)) (Or.inl (hi 46 rfl)) (by decide) (t := .int) (t' := (.array (.object "java/lang/Object"))) (by decide) (by decide))))
  obtain ⟨fs, hr, hrun, hended, hW, hsame⟩ := X4.leave (v := none) (fun _ => rfl)
  refine ⟨_, _, castTop (ef_3 m a1) ?_, hrun, hended, _, _, rfl, ?_, ⟨_, rfl⟩, hW, hsame.mono (by decide) (by decide)⟩
  · show Steps p.tables e below (s₁.setTop (mkF m 0 #[vA a1] [])) _
    refine XS.aloadN X0.here hx rfl (hb hby d3_0) rfl rfl ?_
    refine st2.trans ?_
    refine XS.aloadN X2.here hx rfl (hb hby d3_4) rfl rfl ?_
    refine st3 _ ?_
    refine st4 _ ?_
    show Steps p.tables e below (T4.setTop (mkF m 11 #[vA a1] [])) _
    exact X4.returnOut hx Bd.returns (hb hby d3_11) hr
  · show Q_rm3 Z a1 ycm_ ydw_ ydm_ yg_ h0 n0 _ T4.heap _
    rw [e4]
    exact ⟨rfl, N4, (((Keep.refl h0 [a1]).trans K2 (fun x q => (List.mem_cons.mp q).elim (fun r => by subst r; exact (Or.inl (List.mem_of_getElem? (i := 0) rfl))) (fun q => nomatch q))).wr W4 (Or.inl (List.mem_of_getElem? (i := 0) rfl))), f1, Fw4, f2, f3⟩
theorem d9_0 : decode jdk_71_method_1_code 0 = .ok (.aload_n 0, 1) := by decide +kernel
theorem d9_1 : decode jdk_71_method_1_code 1 = .ok (.invokespecial 1, 3) := by decide +kernel
theorem d9_4 : decode jdk_71_method_1_code 4 = .ok (.return_, 1) := by decide +kernel
theorem pn_9 : plainName "java/util/AbstractMap" = true := by first | (simp [plainName, overriddenIn]; done) | decide +kernel
theorem ef_9 (m : MethodId) (x0 : Addr) : entryFrame m #[(.ref x0)] 1 = mkF m 0 #[.val (.ref x0)] [] := by first | (simp [entryFrame, mkF, argsToLocals, Value.category]; done) | rfl
def Q_rm9 (Z : State) (a1 : Addr) (h0 : Heap) (n0 : Nat) (v : Option Value) (h : Heap) (L : List Loc) : Prop := v = none ∧ Fr n0 L ∧ h = h0
set_option maxRecDepth 65536 in
set_option maxHeartbeats 40000000 in
theorem rm9 (l : Launch) (Z : State) (a0 : Array Value) (hw : ∀ d ∈ tables_1, d.before a0 Z = true) (ws : List Jvm.Cond) (a1 : Addr) (h0 : Heap) (n0 : Nat) (Z0 : n0 ≤ h0.size) :
    MetFree l mN35 (head1 (Jvm.Cond.code mN35 jdk_71_method_1_code 1 none :: ws) ({ frames := 1, cells := 0, slots := 0, locals := 12 } : Room)) (fun a U => a = #[(.ref a1)] ∧ Z.Warmed39 U.vm ∧ U.heap = h0) (fun _ _ _ _ _ => True) (fun _ U o U' => ∃ v L, o = .returned v ∧ Q_rm9 Z a1 h0 n0 v U'.heap L ∧ FrameEnd U o U' L ({ frames := 1, cells := 0, slots := 0, locals := 12 } : Room).cells ({ frames := 1, cells := 0, slots := 0, locals := 12 } : Room).slots) := by
  have hi : ∀ (i : Nat) {d : Jvm.Cond}, tables_1[i]? = some d → d.before a0 Z = true := fun i d h => hw d (List.mem_of_getElem? h)
  refine MetFree.of_bodySF (plainFor_of_name pn_9) hisR ?_
  intro p e s m args below meth c s₁ Bd hml0 hP hK
  obtain ⟨rfl, hZ, hh⟩ := hP
  have hx := Bd.exec
  have hby := Bd.bytes
  have hml : c.maxLocals = 1 := hml0
  have hown : s.vm.findClass "java/util/AbstractMap" = some m.cls := findClass_of_methodNamed Bd.named
  have hnm := (name_of_methodNamed Bd.named Bd.method).1
  have X0 : Stand p l e ({ frames := 1, cells := 0, slots := 0, locals := 12 } : Room) s m #[(.ref a1)] below meth c s₁ [] 0 0 := Stand.of_body Bd
  have e0 : s₁.heap = h0 := by rw [← hh, Bd.state]; rfl
  have N0 := Fr.nil n0
  obtain ⟨T2, X2, e2, st2⟩ := initO X0 hx hZ hown (hi 83 rfl) (hi 21 rfl) (hi 22 rfl) e0 (g := (mkF m 1 #[vA a1] [(.ref a1)])) rfl (by rw [hml]; rfl) rfl (hb hby d9_1) (by decide) (W := 0) (by show 2 * 0 + _ ≤ _; exact Nat.le_of_eq rfl) (by decide)
  obtain ⟨fs, hr, hrun, hended, hW, hsame⟩ := X2.leave (v := none) (fun _ => rfl)
  refine ⟨_, _, castTop (ef_9 m a1) ?_, hrun, hended, _, _, rfl, ?_, ⟨_, rfl⟩, hW, hsame.mono (by decide) (by decide)⟩
  · show Steps p.tables e below (s₁.setTop (mkF m 0 #[vA a1] [])) _
    refine XS.aloadN X0.here hx rfl (hb hby d9_0) rfl rfl ?_
    refine st2 _ ?_
    show Steps p.tables e below (T2.setTop (mkF m 4 #[vA a1] [])) _
    exact X2.returnOut hx Bd.returns (hb hby d9_4) hr
  · show Q_rm9 Z a1 h0 n0 _ T2.heap _
    exact ⟨rfl, N0, e2⟩
theorem d8_0 : decode jdk_69_method_7_code 0 = .ok (.aload_n 0, 1) := by decide +kernel
theorem d8_1 : decode jdk_69_method_7_code 1 = .ok (.invokespecial 43, 3) := by decide +kernel
theorem d8_4 : decode jdk_69_method_7_code 4 = .ok (.aload_n 0, 1) := by decide +kernel
theorem d8_5 : decode jdk_69_method_7_code 5 = .ok (.ldc 92, 2) := by decide +kernel
theorem d8_7 : decode jdk_69_method_7_code 7 = .ok (.putfield 81, 3) := by decide +kernel
theorem d8_10 : decode jdk_69_method_7_code 10 = .ok (.return_, 1) := by decide +kernel
theorem pn_8 : plainName "java/util/HashMap" = true := by first | (simp [plainName, overriddenIn]; done) | decide +kernel
theorem ef_8 (m : MethodId) (x0 : Addr) : entryFrame m #[(.ref x0)] 1 = mkF m 0 #[.val (.ref x0)] [] := by first | (simp [entryFrame, mkF, argsToLocals, Value.category]; done) | rfl
def Q_rm8 (Z : State) (a1 : Addr) (ygh_ : UInt32) (h0 : Heap) (n0 : Nat) (v : Option Value) (h : Heap) (L : List Loc) : Prop := v = none ∧ Fr n0 L ∧ Keep h0 h [a1] ∧ Exa Z h a1 "java/util/HashMap" ∧ Fld Z h a1 "java/util/HashMap" "loadFactor" "F" (.float (1061158912 : UInt32))
set_option maxRecDepth 65536 in
set_option maxHeartbeats 40000000 in
theorem rm8 (l : Launch) (Z : State) (a0 : Array Value) (hw : ∀ d ∈ tables_1, d.before a0 Z = true) (ws : List Jvm.Cond) (a1 : Addr) (ygh_ : UInt32) (h0 : Heap) (n0 : Nat) (Z0 : n0 ≤ h0.size) (E_a1 : Exa Z h0 a1 "java/util/HashMap") (yju_ : Fld Z h0 a1 "java/util/HashMap" "loadFactor" "F" (.float ygh_)) (g_a1 : n0 ≤ a1) :
    MetFree l mN43 (head1 (Jvm.Cond.code mN43 jdk_69_method_7_code 1 none :: ws) ({ frames := 2, cells := 0, slots := 0, locals := 24 } : Room)) (fun a U => a = #[(.ref a1)] ∧ Z.Warmed39 U.vm ∧ U.heap = h0) (fun _ _ _ _ _ => True) (fun _ U o U' => ∃ v L, o = .returned v ∧ Q_rm8 Z a1 ygh_ h0 n0 v U'.heap L ∧ FrameEnd U o U' L ({ frames := 2, cells := 0, slots := 0, locals := 24 } : Room).cells ({ frames := 2, cells := 0, slots := 0, locals := 24 } : Room).slots) := by
  have hi : ∀ (i : Nat) {d : Jvm.Cond}, tables_1[i]? = some d → d.before a0 Z = true := fun i d h => hw d (List.mem_of_getElem? h)
  refine MetFree.of_bodySF (plainFor_of_name pn_8) hisR ?_
  intro p e s m args below meth c s₁ Bd hml0 hP hK
  obtain ⟨rfl, hZ, hh⟩ := hP
  have hx := Bd.exec
  have hby := Bd.bytes
  have hml : c.maxLocals = 1 := hml0
  have hown : s.vm.findClass "java/util/HashMap" = some m.cls := findClass_of_methodNamed Bd.named
  have hnm := (name_of_methodNamed Bd.named Bd.method).1
  have X0 : Stand p l e ({ frames := 2, cells := 0, slots := 0, locals := 24 } : Room) s m #[(.ref a1)] below meth c s₁ [] 0 0 := Stand.of_body Bd
  have e0 : s₁.heap = h0 := by rw [← hh, Bd.state]; rfl
  have N0 := Fr.nil n0
  obtain ⟨_, _, ⟨T2, L2, k2, n2⟩, -, X2, ⟨Lc2, hQ2, l2, y2, z2⟩, st2⟩ := X0.specialBack hx (y := mN35) rfl hown (mvT hZ (hi 77 rfl)) (mvT hZ (hi 78 rfl)) (mvT hZ (hi 82 rfl)) (by decide) (backOf (W := 0) (rm9 l Z a0 hw [] a1 h0 n0 Z0 ) hZ (hi 82 rfl) (hi 81 rfl) (by decide) (by decide)) (g := (mkF m 1 #[vA a1] [(.ref a1)])) rfl (by rw [hml]; rfl) (Steps.refl _) (a := a1) (argsL := []) (rest := []) (lenOf ydr_ rfl) rfl (by show 2 * 0 + _ ≤ _; exact Nat.le_of_eq rfl) (hb hby d8_1) (fun _ _ => ⟨rfl, e0, (by decide : 0 + 0 ≤ _), (by decide : 0 + 0 ≤ _)⟩)
  dsimp only [Pt.U, Pt.locs, Pt.cells, Pt.slots] at X2 l2 y2 z2 st2 hQ2
  subst l2 y2 z2
  obtain ⟨rfl, N2q, e2⟩ := hQ2
  have N2 := Fr.app N0 N2q
  obtain ⟨T3, h3, X3, e3, W3, st3⟩ := putF X2 hx hZ hown (host := "") (Or.inl (hi 85 rfl)) Via.refl e2 yju_ E_a1 (Or.inr ⟨(hi 86 rfl), rfl, hnm⟩) (hi 72 rfl) (ty := .float) (by decide) rfl rfl (g := (mkF m 7 #[vA a1] [(.float (1061158912 : UInt32)), (.ref a1)])) rfl rfl (hb hby d8_7)
  have Fw3 := yju_.same W3
  have N3 := Fr.snoc X3 N2 g_a1
  have f0 := (E_a1.wr W3)
  obtain ⟨fs, hr, hrun, hended, hW, hsame⟩ := X3.leave (v := none) (fun _ => rfl)
  refine ⟨_, _, castTop (ef_8 m a1) ?_, hrun, hended, _, _, rfl, ?_, ⟨_, rfl⟩, hW, hsame.mono (by decide) (by decide)⟩
  · show Steps p.tables e below (s₁.setTop (mkF m 0 #[vA a1] [])) _
    refine XS.aloadN X0.here hx rfl (hb hby d8_0) rfl rfl ?_
    refine st2.trans ?_
    refine XS.aloadN X2.here hx rfl (hb hby d8_4) rfl rfl ?_
    refine X2.ldcFloatC hx hown (mvT hZ (hi 84 rfl)) (g := (mkF m 5 #[vA a1] [(.ref a1)])) rfl (hb hby d8_5) _ ?_
    refine st3 _ ?_
    show Steps p.tables e below (T3.setTop (mkF m 10 #[vA a1] [])) _
    exact X3.returnOut hx Bd.returns (hb hby d8_10) hr
  · show Q_rm8 Z a1 ygh_ h0 n0 _ T3.heap _
    rw [e3]
    exact ⟨rfl, N3, ((Keep.refl h0 [a1]).wr W3 (Or.inl (List.mem_of_getElem? (i := 0) rfl))), f0, Fw3⟩
def Q_rm5s (Z : State) (a1 : Addr) (h0 : Heap) (n0 : Nat) (v : Option Value) (h : Heap) (L : List Loc) : Prop := v = none ∧ Fr n0 L ∧ h = h0
set_option maxRecDepth 65536 in
set_option maxHeartbeats 40000000 in
theorem rm5s (l : Launch) (Z : State) (a0 : Array Value) (hw : ∀ d ∈ tables_1, d.before a0 Z = true) (ws : List Jvm.Cond) (a1 : Addr) (h0 : Heap) (n0 : Nat) (Z0 : n0 ≤ h0.size) :
    MetFree l mN33 (head1 (Jvm.Cond.code mN33 jdk_22_method_1_code 1 none :: ws) ({ frames := 1, cells := 0, slots := 0, locals := 12 } : Room)) (fun a U => a = #[(.ref a1)] ∧ Z.Warmed39 U.vm ∧ U.heap = h0) (fun _ _ _ _ _ => True) (fun _ U o U' => ∃ v L, o = .returned v ∧ Q_rm5s Z a1 h0 n0 v U'.heap L ∧ FrameEnd U o U' L ({ frames := 1, cells := 0, slots := 0, locals := 12 } : Room).cells ({ frames := 1, cells := 0, slots := 0, locals := 12 } : Room).slots) := by
  have hi : ∀ (i : Nat) {d : Jvm.Cond}, tables_1[i]? = some d → d.before a0 Z = true := fun i d h => hw d (List.mem_of_getElem? h)
  refine MetFree.of_bodySF (plainFor_of_name pn_5) hisR ?_
  intro p e s m args below meth c s₁ Bd hml0 hP hK
  obtain ⟨rfl, hZ, hh⟩ := hP
  have hx := Bd.exec
  have hby := Bd.bytes
  have hml : c.maxLocals = 1 := hml0
  have hown : s.vm.findClass "java/util/AbstractCollection" = some m.cls := findClass_of_methodNamed Bd.named
  have hnm := (name_of_methodNamed Bd.named Bd.method).1
  have X0 : Stand p l e ({ frames := 1, cells := 0, slots := 0, locals := 12 } : Room) s m #[(.ref a1)] below meth c s₁ [] 0 0 := Stand.of_body Bd
  have e0 : s₁.heap = h0 := by rw [← hh, Bd.state]; rfl
  have N0 := Fr.nil n0
  obtain ⟨T2, X2, e2, st2⟩ := initO X0 hx hZ hown (hi 41 rfl) (hi 21 rfl) (hi 22 rfl) e0 (g := (mkF m 1 #[vA a1] [(.ref a1)])) rfl (by rw [hml]; rfl) rfl (hb hby d5_1) (by decide) (W := 0) (by show 2 * 0 + _ ≤ _; exact Nat.le_of_eq rfl) (by decide)
  obtain ⟨fs, hr, hrun, hended, hW, hsame⟩ := X2.leave (v := none) (fun _ => rfl)
  refine ⟨_, _, castTop (ef_5 m a1) ?_, hrun, hended, _, _, rfl, ?_, ⟨_, rfl⟩, hW, hsame.mono (by decide) (by decide)⟩
  · show Steps p.tables e below (s₁.setTop (mkF m 0 #[vA a1] [])) _
    refine XS.aloadN X0.here hx rfl (hb hby d5_0) rfl rfl ?_
    refine st2 _ ?_
    show Steps p.tables e below (T2.setTop (mkF m 4 #[vA a1] [])) _
    exact X2.returnOut hx Bd.returns (hb hby d5_4) hr
  · show Q_rm5s Z a1 h0 n0 _ T2.heap _
    exact ⟨rfl, N0, e2⟩
theorem d11_0 : decode jdk_91_method_1_code 0 = .ok (.aload_n 0, 1) := by decide +kernel
theorem d11_1 : decode jdk_91_method_1_code 1 = .ok (.invokespecial 1, 3) := by decide +kernel
theorem d11_4 : decode jdk_91_method_1_code 4 = .ok (.return_, 1) := by decide +kernel
theorem pn_11 : plainName "java/util/AbstractSet" = true := by first | (simp [plainName, overriddenIn]; done) | decide +kernel
theorem ef_11 (m : MethodId) (x0 : Addr) : entryFrame m #[(.ref x0)] 1 = mkF m 0 #[.val (.ref x0)] [] := by first | (simp [entryFrame, mkF, argsToLocals, Value.category]; done) | rfl
def Q_rm11 (Z : State) (a1 : Addr) (h0 : Heap) (n0 : Nat) (v : Option Value) (h : Heap) (L : List Loc) : Prop := v = none ∧ Fr n0 L ∧ h = h0
set_option maxRecDepth 65536 in
set_option maxHeartbeats 40000000 in
theorem rm11 (l : Launch) (Z : State) (a0 : Array Value) (hw : ∀ d ∈ tables_1, d.before a0 Z = true) (ws : List Jvm.Cond) (a1 : Addr) (h0 : Heap) (n0 : Nat) (Z0 : n0 ≤ h0.size) :
    MetFree l mN36 (head1 (Jvm.Cond.code mN36 jdk_91_method_1_code 1 none :: ws) ({ frames := 2, cells := 0, slots := 0, locals := 24 } : Room)) (fun a U => a = #[(.ref a1)] ∧ Z.Warmed39 U.vm ∧ U.heap = h0) (fun _ _ _ _ _ => True) (fun _ U o U' => ∃ v L, o = .returned v ∧ Q_rm11 Z a1 h0 n0 v U'.heap L ∧ FrameEnd U o U' L ({ frames := 2, cells := 0, slots := 0, locals := 24 } : Room).cells ({ frames := 2, cells := 0, slots := 0, locals := 24 } : Room).slots) := by
  have hi : ∀ (i : Nat) {d : Jvm.Cond}, tables_1[i]? = some d → d.before a0 Z = true := fun i d h => hw d (List.mem_of_getElem? h)
  refine MetFree.of_bodySF (plainFor_of_name pn_11) hisR ?_
  intro p e s m args below meth c s₁ Bd hml0 hP hK
  obtain ⟨rfl, hZ, hh⟩ := hP
  have hx := Bd.exec
  have hby := Bd.bytes
  have hml : c.maxLocals = 1 := hml0
  have hown : s.vm.findClass "java/util/AbstractSet" = some m.cls := findClass_of_methodNamed Bd.named
  have hnm := (name_of_methodNamed Bd.named Bd.method).1
  have X0 : Stand p l e ({ frames := 2, cells := 0, slots := 0, locals := 24 } : Room) s m #[(.ref a1)] below meth c s₁ [] 0 0 := Stand.of_body Bd
  have e0 : s₁.heap = h0 := by rw [← hh, Bd.state]; rfl
  have N0 := Fr.nil n0
  obtain ⟨_, _, ⟨T2, L2, k2, n2⟩, -, X2, ⟨Lc2, hQ2, l2, y2, z2⟩, st2⟩ := X0.specialBack hx (y := mN33) rfl hown (mvT hZ (hi 103 rfl)) (mvT hZ (hi 36 rfl)) (mvT hZ (hi 40 rfl)) (by decide) (backOf (W := 0) (rm5s l Z a0 hw [] a1 h0 n0 Z0 ) hZ (hi 40 rfl) (hi 39 rfl) (by decide) (by decide)) (g := (mkF m 1 #[vA a1] [(.ref a1)])) rfl (by rw [hml]; rfl) (Steps.refl _) (a := a1) (argsL := []) (rest := []) (lenOf ydr_ rfl) rfl (by show 2 * 0 + _ ≤ _; exact Nat.le_of_eq rfl) (hb hby d11_1) (fun _ _ => ⟨rfl, e0, (by decide : 0 + 0 ≤ _), (by decide : 0 + 0 ≤ _)⟩)
  dsimp only [Pt.U, Pt.locs, Pt.cells, Pt.slots] at X2 l2 y2 z2 st2 hQ2
  subst l2 y2 z2
  obtain ⟨rfl, N2q, e2⟩ := hQ2
  have N2 := Fr.app N0 N2q
  obtain ⟨fs, hr, hrun, hended, hW, hsame⟩ := X2.leave (v := none) (fun _ => rfl)
  refine ⟨_, _, castTop (ef_11 m a1) ?_, hrun, hended, _, _, rfl, ?_, ⟨_, rfl⟩, hW, hsame.mono (by decide) (by decide)⟩
  · show Steps p.tables e below (s₁.setTop (mkF m 0 #[vA a1] [])) _
    refine XS.aloadN X0.here hx rfl (hb hby d11_0) rfl rfl ?_
    refine st2.trans ?_
    show Steps p.tables e below (T2.setTop (mkF m 4 #[vA a1] [])) _
    exact X2.returnOut hx Bd.returns (hb hby d11_4) hr
  · show Q_rm11 Z a1 h0 n0 _ T2.heap _
    exact ⟨rfl, N2, e2⟩
theorem d10_0 : decode jdk_93_method_1_code 0 = .ok (.aload_n 0, 1) := by decide +kernel
theorem d10_1 : decode jdk_93_method_1_code 1 = .ok (.invokespecial 1, 3) := by decide +kernel
theorem d10_4 : decode jdk_93_method_1_code 4 = .ok (.aload_n 0, 1) := by decide +kernel
theorem d10_5 : decode jdk_93_method_1_code 5 = .ok (.new 7, 3) := by decide +kernel
theorem d10_8 : decode jdk_93_method_1_code 8 = .ok (.dup, 1) := by decide +kernel
theorem d10_9 : decode jdk_93_method_1_code 9 = .ok (.invokespecial 9, 3) := by decide +kernel
theorem d10_12 : decode jdk_93_method_1_code 12 = .ok (.putfield 10, 3) := by decide +kernel
theorem d10_15 : decode jdk_93_method_1_code 15 = .ok (.return_, 1) := by decide +kernel
theorem pn_10 : plainName "java/util/HashSet" = true := by first | (simp [plainName, overriddenIn]; done) | decide +kernel
theorem ef_10 (m : MethodId) (x0 : Addr) : entryFrame m #[(.ref x0)] 1 = mkF m 0 #[.val (.ref x0)] [] := by first | (simp [entryFrame, mkF, argsToLocals, Value.category]; done) | rfl
def Q_rm10 (Z : State) (a1 : Addr) (yko_ : Value) (h0 : Heap) (n0 : Nat) (v : Option Value) (h : Heap) (L : List Loc) : Prop := v = none ∧ Fr n0 L ∧ Keep h0 h [a1] ∧ Exa Z h a1 "java/util/HashSet"
set_option maxRecDepth 65536 in
set_option maxHeartbeats 40000000 in
theorem rm10 (l : Launch) (Z : State) (a0 : Array Value) (hw : ∀ d ∈ tables_1, d.before a0 Z = true) (ws : List Jvm.Cond) (a1 : Addr) (yko_ : Value) (h0 : Heap) (n0 : Nat) (Z0 : n0 ≤ h0.size) (E_a1 : Exa Z h0 a1 "java/util/HashSet") (yqp_ : Fld Z h0 a1 "java/util/HashSet" "map" "Ljava/util/HashMap;" yko_) (g_a1 : n0 ≤ a1) :
    MetFree l mN44 (head1 (Jvm.Cond.code mN44 jdk_93_method_1_code 1 none :: ws) ({ frames := 3, cells := 1, slots := 8, locals := 38 } : Room)) (fun a U => a = #[(.ref a1)] ∧ Z.Warmed39 U.vm ∧ U.heap = h0) (fun _ _ _ _ _ => True) (fun _ U o U' => ∃ v L, o = .returned v ∧ Q_rm10 Z a1 yko_ h0 n0 v U'.heap L ∧ FrameEnd U o U' L ({ frames := 3, cells := 1, slots := 8, locals := 38 } : Room).cells ({ frames := 3, cells := 1, slots := 8, locals := 38 } : Room).slots) := by
  have hi : ∀ (i : Nat) {d : Jvm.Cond}, tables_1[i]? = some d → d.before a0 Z = true := fun i d h => hw d (List.mem_of_getElem? h)
  refine MetFree.of_bodySF (plainFor_of_name pn_10) hisR ?_
  intro p e s m args below meth c s₁ Bd hml0 hP hK
  obtain ⟨rfl, hZ, hh⟩ := hP
  have hx := Bd.exec
  have hby := Bd.bytes
  have hml : c.maxLocals = 1 := hml0
  have hown : s.vm.findClass "java/util/HashSet" = some m.cls := findClass_of_methodNamed Bd.named
  have hnm := (name_of_methodNamed Bd.named Bd.method).1
  have X0 : Stand p l e ({ frames := 3, cells := 1, slots := 8, locals := 38 } : Room) s m #[(.ref a1)] below meth c s₁ [] 0 0 := Stand.of_body Bd
  have e0 : s₁.heap = h0 := by rw [← hh, Bd.state]; rfl
  have N0 := Fr.nil n0
  obtain ⟨_, _, ⟨T2, L2, k2, n2⟩, -, X2, ⟨Lc2, hQ2, l2, y2, z2⟩, st2⟩ := X0.specialBack hx (y := mN36) rfl hown (mvT hZ (hi 97 rfl)) (mvT hZ (hi 98 rfl)) (mvT hZ (hi 102 rfl)) (by decide) (backOf (W := 0) (rm11 l Z a0 hw [] a1 h0 n0 Z0 ) hZ (hi 102 rfl) (hi 101 rfl) (by decide) (by decide)) (g := (mkF m 1 #[vA a1] [(.ref a1)])) rfl (by rw [hml]; rfl) (Steps.refl _) (a := a1) (argsL := []) (rest := []) (lenOf ydr_ rfl) rfl (by show 2 * 0 + _ ≤ _; exact Nat.le_of_eq rfl) (hb hby d10_1) (fun _ _ => ⟨rfl, e0, (by decide : 0 + 0 ≤ _), (by decide : 0 + 0 ≤ _)⟩)
  dsimp only [Pt.U, Pt.locs, Pt.cells, Pt.slots] at X2 l2 y2 z2 st2 hQ2
  subst l2 y2 z2
  obtain ⟨rfl, N2q, e2⟩ := hQ2
  have N2 := Fr.app N0 N2q
  obtain ⟨T3, h3, X3, e3, E3, A3, D3, -, st3⟩ := newO X2 hx hZ hown (hi 105 rfl) (hi 72 rfl) (hi 73 rfl) e2 (g := (mkF m 5 #[vA a1] [(.ref a1)])) rfl (hb hby d10_5) (by decide) (by decide)
  obtain ⟨b3, g3⟩ : ∃ z, z = h0.size := ⟨_, rfl⟩
  rw [← g3] at A3 D3 st3
  have g_b3 : n0 ≤ b3 := Nat.le_trans Z0 (Nat.le_of_eq g3.symm)
  have sz_b3 : h0.size ≤ b3 := Nat.le_trans (Nat.le_refl h0.size) (Nat.le_of_eq g3.symm)
  have ynj_ : Fld Z h3 b3 "java/util/HashMap" "loadFactor" "F" (.float (0 : UInt32)) := D3 (Or.inr (hi 86 rfl)) (ty := .float) (by decide)
  obtain ⟨_, _, ⟨T4, L4, k4, n4⟩, -, X4, ⟨Lc4, hQ4, l4, y4, z4⟩, st4⟩ := X3.specialBack hx (y := mN43) rfl hown (mvT hZ (hi 106 rfl)) (mvT hZ (hi 75 rfl)) (mvT hZ (hi 76 rfl)) (by decide) (backOf (W := 2) (rm8 l Z a0 hw [] b3 (0 : UInt32) h3 n0 (Nat.le_trans Z0 E3.1) A3 ynj_ g_b3) hZ (hi 76 rfl) (hi 73 rfl) (by decide) (by decide)) (g := (mkF m 9 #[vA a1] [(.ref b3), (.ref b3), (.ref a1)])) rfl (by rw [hml]; rfl) (Steps.refl _) (a := b3) (argsL := []) (rest := [(.ref b3), (.ref a1)]) (lenOf ydr_ rfl) rfl (by show 2 * 0 + _ ≤ _; exact Nat.le_of_eq rfl) (hb hby d10_9) (fun _ _ => ⟨rfl, e3, (by decide : 1 + 0 ≤ _), (by decide : 8 + 0 ≤ _)⟩)
  dsimp only [Pt.U, Pt.locs, Pt.cells, Pt.slots] at X4 l4 y4 z4 st4 hQ4
  subst l4 y4 z4
  obtain ⟨rfl, N4q, K4, i4_0, i4_1⟩ := hQ4
  have N4 := Fr.app N2 N4q
  have f0 := ((E_a1.ext E3).keep K4)
  have f1 := ((yqp_.ext E3).keep K4 (own_nm (Nat.ne_of_lt (Nat.lt_of_lt_of_le E_a1.lt sz_b3)) own_n0))
  obtain ⟨T5, h5, X5, e5, W5, st5⟩ := putF X4 hx hZ hown (host := "") (Or.inl (hi 108 rfl)) Via.refl rfl f1 f0 (Or.inl (hi 109 rfl)) (hi 92 rfl) (ty := (.object "java/util/HashMap")) (by decide) rfl rfl (g := (mkF m 12 #[vA a1] [(.ref b3), (.ref a1)])) rfl rfl (hb hby d10_12)
  have Fw5 := f1.same W5
  have N5 := Fr.snoc X5 N4 g_a1
  have f2 := (f0.wr W5)
  obtain ⟨fs, hr, hrun, hended, hW, hsame⟩ := X5.leave (v := none) (fun _ => rfl)
  refine ⟨_, _, castTop (ef_10 m a1) ?_, hrun, hended, _, _, rfl, ?_, ⟨_, rfl⟩, hW, hsame.mono (by decide) (by decide)⟩
  · show Steps p.tables e below (s₁.setTop (mkF m 0 #[vA a1] [])) _
    refine XS.aloadN X0.here hx rfl (hb hby d10_0) rfl rfl ?_
    refine st2.trans ?_
    refine XS.aloadN X2.here hx rfl (hb hby d10_4) rfl rfl ?_
    refine st3 _ ?_
    refine XS.dup X3.here hx rfl (hb hby d10_8) rfl rfl ?_
    refine st4.trans ?_
    refine st5 _ ?_
    show Steps p.tables e below (T5.setTop (mkF m 15 #[vA a1] [])) _
    exact X5.returnOut hx Bd.returns (hb hby d10_15) hr
  · show Q_rm10 Z a1 yko_ h0 n0 _ T5.heap _
    rw [e5]
    exact ⟨rfl, N5, ((((Keep.refl h0 [a1]).ext E3).trans K4 (fun x q => (List.mem_cons.mp q).elim (fun r => by subst r; exact (Or.inr sz_b3)) (fun q => nomatch q))).wr W5 (Or.inl (List.mem_of_getElem? (i := 0) rfl))), f2⟩
theorem d7_0 : decode jdk_68_method_2_code 0 = .ok (.aload_n 0, 1) := by decide +kernel
theorem d7_1 : decode jdk_68_method_2_code 1 = .ok (.invokespecial 3, 3) := by decide +kernel
theorem d7_4 : decode jdk_68_method_2_code 4 = .ok (.getstatic 18, 3) := by decide +kernel
theorem d7_7 : decode jdk_68_method_2_code 7 = .ok (.ifCond .eq 18, 3) := by decide +kernel
theorem d7_10 : decode jdk_68_method_2_code 10 = .ok (.aload_n 0, 1) := by decide +kernel
theorem d7_11 : decode jdk_68_method_2_code 11 = .ok (.iload_n 1, 1) := by decide +kernel
theorem d7_12 : decode jdk_68_method_2_code 12 = .ok (.newarray .byte, 2) := by decide +kernel
theorem d7_14 : decode jdk_68_method_2_code 14 = .ok (.putfield 15, 3) := by decide +kernel
theorem d7_17 : decode jdk_68_method_2_code 17 = .ok (.aload_n 0, 1) := by decide +kernel
theorem d7_18 : decode jdk_68_method_2_code 18 = .ok (.iconst 0, 1) := by decide +kernel
theorem d7_19 : decode jdk_68_method_2_code 19 = .ok (.putfield 22, 3) := by decide +kernel
theorem d7_22 : decode jdk_68_method_2_code 22 = .ok (.goto 16, 3) := by decide +kernel
theorem d7_38 : decode jdk_68_method_2_code 38 = .ok (.return_, 1) := by decide +kernel
theorem pn_7 : plainName "java/lang/AbstractStringBuilder" = true := by first | (simp [plainName, overriddenIn]; done) | decide +kernel
theorem ef_7 (m : MethodId) (x0 : Addr) (x1 : Int32) : entryFrame m #[(.ref x0), (.int x1)] 2 = mkF m 0 #[.val (.ref x0), .val (.int x1)] [] := by first | (simp [entryFrame, mkF, argsToLocals, Value.category]; done) | rfl
def Q_rm7 (Z : State) (a1 : Addr) (yag_ : Int32) (ya_ : Int32) (yc_ : Value) (yaq_ : Int32) (h0 : Heap) (n0 : Nat) (v : Option Value) (h : Heap) (L : List Loc) : Prop := ∃ b4 : Addr, ∃ k4 : ClassId, v = none ∧ Fr n0 L ∧ Keep h0 h [a1] ∧ h0.size ≤ b4 ∧ Exa Z h a1 "java/lang/StringBuilder" ∧ Fld Z h a1 "java/lang/AbstractStringBuilder" "count" "I" (.int yag_) ∧ Fld Z h a1 "java/lang/AbstractStringBuilder" "value" "[B" (.ref b4) ∧ Fld Z h a1 "java/lang/AbstractStringBuilder" "coder" "B" (.int (0 : Int32)) ∧ Exa Z h b4 "[B" ∧ Arv Z h b4 k4 .byte (16 : Int32) (List.replicate 16 (Value.int (0 : Int32))) (.int (0 : Int32))
set_option maxRecDepth 65536 in
set_option maxHeartbeats 40000000 in
theorem rm7 (l : Launch) (Z : State) (a0 : Array Value) (hw : ∀ d ∈ tables_1, d.before a0 Z = true) (ws : List Jvm.Cond) (a1 : Addr) (yag_ : Int32) (ya_ : Int32) (yc_ : Value) (yaq_ : Int32) (h0 : Heap) (n0 : Nat) (Z0 : n0 ≤ h0.size) (hcs : ¬ (ya_ = (0 : Int32))) (ybp_ : Fld Z h0 a1 "java/lang/AbstractStringBuilder" "count" "I" (.int yag_)) (yf_ : Sta Z h0 "java/lang/String" "COMPACT_STRINGS" "Z" (.int ya_)) (E_a1 : Exa Z h0 a1 "java/lang/StringBuilder") (yae_ : Fld Z h0 a1 "java/lang/AbstractStringBuilder" "value" "[B" yc_) (g_a1 : n0 ≤ a1) (yac_ : Fld Z h0 a1 "java/lang/AbstractStringBuilder" "coder" "B" (.int yaq_)) :
    MetFree l mN0 (head1 (Jvm.Cond.code mN0 jdk_68_method_2_code 2 none :: ws) ({ frames := 1, cells := 1, slots := 16, locals := 12 } : Room)) (fun a U => a = #[(.ref a1), (.int (16 : Int32))] ∧ Z.Warmed39 U.vm ∧ U.heap = h0) (fun _ _ _ _ _ => True) (fun _ U o U' => ∃ v L, o = .returned v ∧ Q_rm7 Z a1 yag_ ya_ yc_ yaq_ h0 n0 v U'.heap L ∧ FrameEnd U o U' L ({ frames := 1, cells := 1, slots := 16, locals := 12 } : Room).cells ({ frames := 1, cells := 1, slots := 16, locals := 12 } : Room).slots) := by
  have hi : ∀ (i : Nat) {d : Jvm.Cond}, tables_1[i]? = some d → d.before a0 Z = true := fun i d h => hw d (List.mem_of_getElem? h)
  refine MetFree.of_bodySF (plainFor_of_name pn_7) hisR ?_
  intro p e s m args below meth c s₁ Bd hml0 hP hK
  obtain ⟨rfl, hZ, hh⟩ := hP
  have hx := Bd.exec
  have hby := Bd.bytes
  have hml : c.maxLocals = 2 := hml0
  have hown : s.vm.findClass "java/lang/AbstractStringBuilder" = some m.cls := findClass_of_methodNamed Bd.named
  have hnm := (name_of_methodNamed Bd.named Bd.method).1
  have X0 : Stand p l e ({ frames := 1, cells := 1, slots := 16, locals := 12 } : Room) s m #[(.ref a1), (.int (16 : Int32))] below meth c s₁ [] 0 0 := Stand.of_body Bd
  have e0 : s₁.heap = h0 := by rw [← hh, Bd.state]; rfl
  have N0 := Fr.nil n0
  obtain ⟨T2, X2, e2, st2⟩ := initO X0 hx hZ hown (hi 61 rfl) (hi 21 rfl) (hi 22 rfl) e0 (g := (mkF m 1 #[vA a1, vI (16 : Int32)] [(.ref a1)])) rfl (by rw [hml]; rfl) rfl (hb hby d7_1) (by decide) (W := 0) (by show 2 * 0 + _ ≤ _; exact Nat.le_of_eq rfl) (by decide)
  obtain ⟨T3, X3, e3, st3⟩ := getS2 X2 hx hZ hown (host := "") (Or.inl (hi 62 rfl)) Via.refl e2 yf_ (g := (mkF m 4 #[vA a1, vI (16 : Int32)] [])) rfl (hb hby d7_4)
  obtain ⟨T4, h4, k4, X4, e4, E4, A4, iE4, st4⟩ := newPE X3 hx hZ (hi 6 rfl) e3 (g := (mkF m 12 #[vA a1, vI (16 : Int32)] [(.int (16 : Int32)), (.ref a1)])) rfl (hb hby d7_12) rfl (by decide) (cap := 16) (by decide) (by decide) (by decide) (by decide) (ad := "[B") rfl
  obtain ⟨b4, g4⟩ : ∃ z, z = h0.size := ⟨_, rfl⟩
  rw [← g4] at A4 iE4 st4
  have g_b4 : n0 ≤ b4 := Nat.le_trans Z0 (Nat.le_of_eq g4.symm)
  have sz_b4 : h0.size ≤ b4 := Nat.le_trans (Nat.le_refl h0.size) (Nat.le_of_eq g4.symm)
  have V_b4 : Arv Z h4 b4 k4 .byte (16 : Int32) (List.replicate 16 (Value.int (0 : Int32))) (.int (0 : Int32)) := (Arv.new A4 (by decide)).pad (pad_rep [] (.int (0 : Int32)) 16)
  have f0 := (E_a1.ext E4)
  have f1 := (yae_.ext E4)
  obtain ⟨T5, h5, X5, e5, W5, st5⟩ := putF X4 hx hZ hown (host := "") (Or.inl (hi 63 rfl)) Via.refl e4 f1 f0 (Or.inl (hi 64 rfl)) (hi 50 rfl) (ty := (.array .byte)) (by decide) rfl rfl (g := (mkF m 14 #[vA a1, vI (16 : Int32)] [(.ref b4), (.ref a1)])) rfl rfl (hb hby d7_14)
  have Fw5 := f1.same W5
  have N5 := Fr.snoc X5 N0 g_a1
  have f2 := (f0.wr W5)
  have f3 := ((yac_.ext E4).other W5 (Or.inr (slot_ne (Or.inl (hi 66 rfl)) (Or.inl (hi 64 rfl)) (by decide) (t := .byte) (t' := (.array .byte)) (by decide) (by decide))))
  obtain ⟨T6, h6, X6, e6, W6, st6⟩ := putFN X5 hx hZ hown (hi 65 rfl) Via.refl e5 f3 f2 (Or.inl (hi 66 rfl)) (hi 50 rfl) (ty := .byte) (v' := (.int (0 : Int32))) (by decide) rfl rfl (g := (mkF m 19 #[vA a1, vI (16 : Int32)] [(.int (0 : Int32)), (.ref a1)])) rfl rfl (hb hby d7_19)
  have Fw6 := f3.same W6
  have N6 := Fr.snoc X6 N5 g_a1
  have f4 := (f2.wr W6)
  have f5 := (((ybp_.ext E4).other W5 (Or.inr (slot_ne (Or.inl (hi 143 rfl)) (Or.inl (hi 64 rfl)) (by decide) (t := .int) (t' := (.array .byte)) (by decide) (by decide)))).other W6 (Or.inr (slot_ne (Or.inl (hi 143 rfl)) (Or.inl (hi 66 rfl)) (by decide) (t := .int) (t' := .byte) (by decide) (by decide))))
  have f6 := (Fw5.other W6 (Or.inr (slot_ne (Or.inl (hi 64 rfl)) (Or.inl (hi 66 rfl)) (by decide) (t := (.array .byte)) (t' := .byte) (by decide) (by decide))))
  have f7 := ((iE4.wr W5).wr W6)
  have f8 := ((V_b4.other W5 (Ne.symm (Nat.ne_of_lt (Nat.lt_of_lt_of_le ybp_.lt sz_b4)))).other W6 (Ne.symm (Nat.ne_of_lt (Nat.lt_of_lt_of_le ybp_.lt sz_b4))))
  obtain ⟨fs, hr, hrun, hended, hW, hsame⟩ := X6.leave (v := none) (fun _ => rfl)
  refine ⟨_, _, castTop (ef_7 m a1 (16 : Int32)) ?_, hrun, hended, _, _, rfl, ?_, ⟨_, rfl⟩, hW, hsame.mono (by decide) (by decide)⟩
  · show Steps p.tables e below (s₁.setTop (mkF m 0 #[vA a1, vI (16 : Int32)] [])) _
    refine XS.aloadN X0.here hx rfl (hb hby d7_0) rfl rfl ?_
    refine st2 _ ?_
    refine st3 _ ?_
    refine XS.ifNo X3.here hx rfl (hb hby d7_7) rfl ((if0 _ _).trans (feq (show ¬ (ya_ = (0 : Int32)) from hcs)).1) ?_
    refine XS.aloadN X3.here hx rfl (hb hby d7_10) rfl rfl ?_
    refine XS.iloadN X3.here hx rfl (hb hby d7_11) rfl ?_
    refine st4 _ ?_
    refine st5 _ ?_
    refine XS.aloadN X5.here hx rfl (hb hby d7_17) rfl rfl ?_
    refine XS.iconst X5.here hx rfl (hb hby d7_18) ?_
    refine st6 _ ?_
    refine XS.goto X6.here hx rfl (pc0 := 22) (pc' := 38) rfl (hb hby d7_22) (by decide) (by decide) ?_
    show Steps p.tables e below (T6.setTop (mkF m 38 #[vA a1, vI (16 : Int32)] [])) _
    exact X6.returnOut hx Bd.returns (hb hby d7_38) hr
  · show Q_rm7 Z a1 yag_ ya_ yc_ yaq_ h0 n0 _ T6.heap _
    rw [e6]
    exact ⟨b4, ⟨k4, ⟨rfl, N6, ((((Keep.refl h0 [a1]).ext E4).wr W5 (Or.inl (List.mem_of_getElem? (i := 0) rfl))).wr W6 (Or.inl (List.mem_of_getElem? (i := 0) rfl))), sz_b4, f4, f5, f6, Fw6, f7, f8⟩⟩⟩
theorem yjy_ : parseMethodDescriptor "(I)V" = some ⟨[.int], none⟩ := by decide +kernel
theorem d6_0 : decode jdk_67_method_1_code 0 = .ok (.aload_n 0, 1) := by decide +kernel
theorem d6_1 : decode jdk_67_method_1_code 1 = .ok (.bipush 16, 2) := by decide +kernel
theorem d6_3 : decode jdk_67_method_1_code 3 = .ok (.invokespecial 1, 3) := by decide +kernel
theorem d6_6 : decode jdk_67_method_1_code 6 = .ok (.return_, 1) := by decide +kernel
theorem pn_6 : plainName "java/lang/StringBuilder" = true := by first | (simp [plainName, overriddenIn]; done) | decide +kernel
theorem ef_6 (m : MethodId) (x0 : Addr) : entryFrame m #[(.ref x0)] 1 = mkF m 0 #[.val (.ref x0)] [] := by first | (simp [entryFrame, mkF, argsToLocals, Value.category]; done) | rfl
def Q_rm6 (Z : State) (a1 : Addr) (yag_ : Int32) (ya_ : Int32) (yc_ : Value) (yaq_ : Int32) (h0 : Heap) (n0 : Nat) (v : Option Value) (h : Heap) (L : List Loc) : Prop := ∃ b4_2 : Addr, ∃ k4_2 : ClassId, v = none ∧ Fr n0 L ∧ Keep h0 h [a1] ∧ h0.size ≤ b4_2 ∧ Exa Z h a1 "java/lang/StringBuilder" ∧ Fld Z h a1 "java/lang/AbstractStringBuilder" "count" "I" (.int yag_) ∧ Fld Z h a1 "java/lang/AbstractStringBuilder" "value" "[B" (.ref b4_2) ∧ Fld Z h a1 "java/lang/AbstractStringBuilder" "coder" "B" (.int (0 : Int32)) ∧ Exa Z h b4_2 "[B" ∧ Arv Z h b4_2 k4_2 .byte (16 : Int32) (List.replicate 16 (Value.int (0 : Int32))) (.int (0 : Int32))
set_option maxRecDepth 65536 in
set_option maxHeartbeats 40000000 in
theorem rm6 (l : Launch) (Z : State) (a0 : Array Value) (hw : ∀ d ∈ tables_1, d.before a0 Z = true) (ws : List Jvm.Cond) (a1 : Addr) (yag_ : Int32) (ya_ : Int32) (yc_ : Value) (yaq_ : Int32) (h0 : Heap) (n0 : Nat) (Z0 : n0 ≤ h0.size) (hcs : ¬ (ya_ = (0 : Int32))) (ybp_ : Fld Z h0 a1 "java/lang/AbstractStringBuilder" "count" "I" (.int yag_)) (yf_ : Sta Z h0 "java/lang/String" "COMPACT_STRINGS" "Z" (.int ya_)) (yae_ : Fld Z h0 a1 "java/lang/AbstractStringBuilder" "value" "[B" yc_) (yac_ : Fld Z h0 a1 "java/lang/AbstractStringBuilder" "coder" "B" (.int yaq_)) (E_a1 : Exa Z h0 a1 "java/lang/StringBuilder") (g_a1 : n0 ≤ a1) :
    MetFree l mN23 (head1 (Jvm.Cond.code mN23 jdk_67_method_1_code 1 none :: ws) ({ frames := 2, cells := 1, slots := 16, locals := 25 } : Room)) (fun a U => a = #[(.ref a1)] ∧ Z.Warmed39 U.vm ∧ U.heap = h0) (fun _ _ _ _ _ => True) (fun _ U o U' => ∃ v L, o = .returned v ∧ Q_rm6 Z a1 yag_ ya_ yc_ yaq_ h0 n0 v U'.heap L ∧ FrameEnd U o U' L ({ frames := 2, cells := 1, slots := 16, locals := 25 } : Room).cells ({ frames := 2, cells := 1, slots := 16, locals := 25 } : Room).slots) := by
  have hi : ∀ (i : Nat) {d : Jvm.Cond}, tables_1[i]? = some d → d.before a0 Z = true := fun i d h => hw d (List.mem_of_getElem? h)
  refine MetFree.of_bodySF (plainFor_of_name pn_6) hisR ?_
  intro p e s m args below meth c s₁ Bd hml0 hP hK
  obtain ⟨rfl, hZ, hh⟩ := hP
  have hx := Bd.exec
  have hby := Bd.bytes
  have hml : c.maxLocals = 1 := hml0
  have hown : s.vm.findClass "java/lang/StringBuilder" = some m.cls := findClass_of_methodNamed Bd.named
  have hnm := (name_of_methodNamed Bd.named Bd.method).1
  have X0 : Stand p l e ({ frames := 2, cells := 1, slots := 16, locals := 25 } : Room) s m #[(.ref a1)] below meth c s₁ [] 0 0 := Stand.of_body Bd
  have e0 : s₁.heap = h0 := by rw [← hh, Bd.state]; rfl
  have N0 := Fr.nil n0
  obtain ⟨_, _, ⟨T2, L2, k2, n2⟩, -, X2, ⟨Lc2, hQ2, l2, y2, z2⟩, st2⟩ := X0.specialBack hx (y := mN0) rfl hown (mvT hZ (hi 55 rfl)) (mvT hZ (hi 56 rfl)) (mvT hZ (hi 60 rfl)) (by decide) (backOf (W := 0) (rm7 l Z a0 hw [] a1 yag_ ya_ yc_ yaq_ h0 n0 Z0 hcs ybp_ yf_ E_a1 yae_ g_a1 yac_) hZ (hi 60 rfl) (hi 59 rfl) (by decide) (by decide)) (g := (mkF m 3 #[vA a1] [(.int (16 : Int32)), (.ref a1)])) rfl (by rw [hml]; rfl) (Steps.refl _) (a := a1) (argsL := [(.int (16 : Int32))]) (rest := []) (lenOf yjy_ rfl) rfl (by show 2 * 0 + _ ≤ _; exact Nat.le_of_eq rfl) (hb hby d6_3) (fun _ _ => ⟨rfl, e0, (by decide : 0 + 1 ≤ _), (by decide : 0 + 16 ≤ _)⟩)
  dsimp only [Pt.U, Pt.locs, Pt.cells, Pt.slots] at X2 l2 y2 z2 st2 hQ2
  subst l2 y2 z2
  obtain ⟨b4_2, ⟨k4_2, ⟨rfl, N2q, K2, i2_0, i2_1, i2_2, i2_3, i2_4, i2_5, i2_6⟩⟩⟩ := hQ2
  have N2 := Fr.app N0 N2q
  have sz_b4_2 : h0.size ≤ b4_2 := Nat.le_trans (Nat.le_refl h0.size) i2_0
  have g_b4_2 : n0 ≤ b4_2 := Nat.le_trans Z0 sz_b4_2
  obtain ⟨fs, hr, hrun, hended, hW, hsame⟩ := X2.leave (v := none) (fun _ => rfl)
  refine ⟨_, _, castTop (ef_6 m a1) ?_, hrun, hended, _, _, rfl, ?_, ⟨_, rfl⟩, hW, hsame.mono (by decide) (by decide)⟩
  · show Steps p.tables e below (s₁.setTop (mkF m 0 #[vA a1] [])) _
    refine XS.aloadN X0.here hx rfl (hb hby d6_0) rfl rfl ?_
    refine XS.bipush X0.here hx rfl (hb hby d6_1) ?_
    refine st2.trans ?_
    show Steps p.tables e below (T2.setTop (mkF m 6 #[vA a1] [])) _
    exact X2.returnOut hx Bd.returns (hb hby d6_6) hr
  · show Q_rm6 Z a1 yag_ ya_ yc_ yaq_ h0 n0 _ T2.heap _
    exact ⟨b4_2, ⟨k4_2, ⟨rfl, N2, ((Keep.refl h0 [a1]).trans K2 (fun x q => (List.mem_cons.mp q).elim (fun r => by subst r; exact (Or.inl (List.mem_of_getElem? (i := 0) rfl))) (fun q => nomatch q))), sz_b4_2, i2_1, i2_2, i2_3, i2_4, i2_5, i2_6⟩⟩⟩
theorem d1_0 : decode prog_41_method_1_code 0 = .ok (.aload_n 0, 1) := by decide +kernel
theorem d1_1 : decode prog_41_method_1_code 1 = .ok (.invokespecial 1, 3) := by decide +kernel
theorem d1_4 : decode prog_41_method_1_code 4 = .ok (.aload_n 0, 1) := by decide +kernel
theorem d1_5 : decode prog_41_method_1_code 5 = .ok (.new 7, 3) := by decide +kernel
theorem d1_8 : decode prog_41_method_1_code 8 = .ok (.dup, 1) := by decide +kernel
theorem d1_9 : decode prog_41_method_1_code 9 = .ok (.invokespecial 9, 3) := by decide +kernel
theorem d1_12 : decode prog_41_method_1_code 12 = .ok (.putfield 10, 3) := by decide +kernel
theorem d1_15 : decode prog_41_method_1_code 15 = .ok (.aload_n 0, 1) := by decide +kernel
theorem d1_16 : decode prog_41_method_1_code 16 = .ok (.new 16, 3) := by decide +kernel
theorem d1_19 : decode prog_41_method_1_code 19 = .ok (.dup, 1) := by decide +kernel
theorem d1_20 : decode prog_41_method_1_code 20 = .ok (.invokespecial 18, 3) := by decide +kernel
theorem d1_23 : decode prog_41_method_1_code 23 = .ok (.putfield 19, 3) := by decide +kernel
theorem d1_26 : decode prog_41_method_1_code 26 = .ok (.aload_n 0, 1) := by decide +kernel
theorem d1_27 : decode prog_41_method_1_code 27 = .ok (.new 7, 3) := by decide +kernel
theorem d1_30 : decode prog_41_method_1_code 30 = .ok (.dup, 1) := by decide +kernel
theorem d1_31 : decode prog_41_method_1_code 31 = .ok (.invokespecial 9, 3) := by decide +kernel
theorem d1_34 : decode prog_41_method_1_code 34 = .ok (.putfield 23, 3) := by decide +kernel
theorem d1_37 : decode prog_41_method_1_code 37 = .ok (.aload_n 0, 1) := by decide +kernel
theorem d1_38 : decode prog_41_method_1_code 38 = .ok (.new 26, 3) := by decide +kernel
theorem d1_41 : decode prog_41_method_1_code 41 = .ok (.dup, 1) := by decide +kernel
theorem d1_42 : decode prog_41_method_1_code 42 = .ok (.invokespecial 28, 3) := by decide +kernel
theorem d1_45 : decode prog_41_method_1_code 45 = .ok (.putfield 29, 3) := by decide +kernel
theorem d1_48 : decode prog_41_method_1_code 48 = .ok (.aload_n 0, 1) := by decide +kernel
theorem d1_49 : decode prog_41_method_1_code 49 = .ok (.new 26, 3) := by decide +kernel
theorem d1_52 : decode prog_41_method_1_code 52 = .ok (.dup, 1) := by decide +kernel
theorem d1_53 : decode prog_41_method_1_code 53 = .ok (.invokespecial 28, 3) := by decide +kernel
theorem d1_56 : decode prog_41_method_1_code 56 = .ok (.putfield 33, 3) := by decide +kernel
theorem d1_59 : decode prog_41_method_1_code 59 = .ok (.aload_n 0, 1) := by decide +kernel
theorem d1_60 : decode prog_41_method_1_code 60 = .ok (.new 36, 3) := by decide +kernel
theorem d1_63 : decode prog_41_method_1_code 63 = .ok (.dup, 1) := by decide +kernel
theorem d1_64 : decode prog_41_method_1_code 64 = .ok (.invokespecial 38, 3) := by decide +kernel
theorem d1_67 : decode prog_41_method_1_code 67 = .ok (.putfield 39, 3) := by decide +kernel
theorem d1_70 : decode prog_41_method_1_code 70 = .ok (.aload_n 0, 1) := by decide +kernel
theorem d1_71 : decode prog_41_method_1_code 71 = .ok (.aload_n 1, 1) := by decide +kernel
theorem d1_72 : decode prog_41_method_1_code 72 = .ok (.putfield 43, 3) := by decide +kernel
theorem d1_75 : decode prog_41_method_1_code 75 = .ok (.return_, 1) := by decide +kernel
theorem pn_1 : plainName "underdeck/deck/SqlText" = true := by first | (simp [plainName, overriddenIn]; done) | decide +kernel
theorem ef_1 (m : MethodId) (x0 : Addr) (x1 : Addr) : entryFrame m #[(.ref x0), (.ref x1)] 2 = mkF m 0 #[.val (.ref x0), .val (.ref x1)] [] := by first | (simp [entryFrame, mkF, argsToLocals, Value.category]; done) | rfl
def Q_rm1 (Z : State) (a1 : Addr) (a2 : Addr) (yg_ : Addr) (yjb_ : Value) (ya_ : Int32) (ys_ : Value) (ybf_ : Value) (yjc_ : Value) (ygi_ : Value) (yjd_ : Value) (ybn_ : Value) (h0 : Heap) (n0 : Nat) (v : Option Value) (h : Heap) (L : List Loc) : Prop := ∃ b7 : Addr, ∃ b4_2_8 : Addr, ∃ b10 : Addr, ∃ k4_2_8 : ClassId, v = none ∧ Fr n0 L ∧ Keep h0 h [a1] ∧ h0.size ≤ b7 ∧ h0.size ≤ b4_2_8 ∧ h0.size ≤ b10 ∧ b7 ≠ b4_2_8 ∧ b7 ≠ b10 ∧ b4_2_8 ≠ b10 ∧ Exa Z h a1 "underdeck/deck/SqlText" ∧ Fld Z h a1 "underdeck/deck/SqlText" "current" "Ljava/lang/StringBuilder;" (.ref b7) ∧ Fld Z h a1 "underdeck/deck/SqlText" "placeholders" "Ljava/util/List;" (.ref b10) ∧ Fld Z h a1 "underdeck/deck/SqlText" "dialect" "Lunderdeck/deck/Dialect;" (.ref a2) ∧ Exa Z h b7 "java/lang/StringBuilder" ∧ Fld Z h b7 "java/lang/AbstractStringBuilder" "count" "I" (.int (0 : Int32)) ∧ Fld Z h b7 "java/lang/AbstractStringBuilder" "value" "[B" (.ref b4_2_8) ∧ Fld Z h b7 "java/lang/AbstractStringBuilder" "coder" "B" (.int (0 : Int32)) ∧ Exa Z h b4_2_8 "[B" ∧ Arv Z h b4_2_8 k4_2_8 .byte (16 : Int32) (List.replicate 16 (Value.int (0 : Int32))) (.int (0 : Int32)) ∧ Exa Z h b10 "java/util/ArrayList" ∧ Fld Z h b10 "java/util/ArrayList" "elementData" "[Ljava/lang/Object;" (.ref yg_) ∧ Fld Z h b10 "java/util/ArrayList" "size" "I" (.int (0 : Int32)) ∧ Fld Z h b10 "java/util/AbstractList" "modCount" "I" (.int (0 : Int32))
set_option maxRecDepth 65536 in
set_option maxHeartbeats 40000000 in
theorem rm1 (l : Launch) (Z : State) (a0 : Array Value) (hw : ∀ d ∈ tables_1, d.before a0 Z = true) (ws : List Jvm.Cond) (a1 : Addr) (a2 : Addr) (yg_ : Addr) (yjb_ : Value) (ya_ : Int32) (ys_ : Value) (ybf_ : Value) (yjc_ : Value) (ygi_ : Value) (yjd_ : Value) (ybn_ : Value) (h0 : Heap) (n0 : Nat) (Z0 : n0 ≤ h0.size) (hcs : ¬ (ya_ = (0 : Int32))) (yaj_ : Sta Z h0 "java/util/ArrayList" "DEFAULTCAPACITY_EMPTY_ELEMENTDATA" "[Ljava/lang/Object;" (.ref yg_)) (E_a1 : Exa Z h0 a1 "underdeck/deck/SqlText") (ypm_ : Fld Z h0 a1 "underdeck/deck/SqlText" "parts" "Ljava/util/List;" yjb_) (g_a1 : n0 ≤ a1) (yf_ : Sta Z h0 "java/lang/String" "COMPACT_STRINGS" "Z" (.int ya_)) (yda_ : Fld Z h0 a1 "underdeck/deck/SqlText" "current" "Ljava/lang/StringBuilder;" ys_) (yeg_ : Fld Z h0 a1 "underdeck/deck/SqlText" "placeholders" "Ljava/util/List;" ybf_) (ypn_ : Fld Z h0 a1 "underdeck/deck/SqlText" "types" "Ljava/util/Map;" yjc_) (ynk_ : Fld Z h0 a1 "underdeck/deck/SqlText" "groupLists" "Ljava/util/Map;" ygi_) (ypo_ : Fld Z h0 a1 "underdeck/deck/SqlText" "names" "Ljava/util/Set;" yjd_) (ygt_ : Fld Z h0 a1 "underdeck/deck/SqlText" "dialect" "Lunderdeck/deck/Dialect;" ybn_) :
    MetFree l mN49 (head1 (Jvm.Cond.code mN49 prog_41_method_1_code 2 none :: ws) ({ frames := 4, cells := 8, slots := 51, locals := 52 } : Room)) (fun a U => a = #[(.ref a1), (.ref a2)] ∧ Z.Warmed39 U.vm ∧ U.heap = h0) (fun _ _ _ _ _ => True) (fun _ U o U' => ∃ v L, o = .returned v ∧ Q_rm1 Z a1 a2 yg_ yjb_ ya_ ys_ ybf_ yjc_ ygi_ yjd_ ybn_ h0 n0 v U'.heap L ∧ FrameEnd U o U' L ({ frames := 4, cells := 8, slots := 51, locals := 52 } : Room).cells ({ frames := 4, cells := 8, slots := 51, locals := 52 } : Room).slots) := by
  have hi : ∀ (i : Nat) {d : Jvm.Cond}, tables_1[i]? = some d → d.before a0 Z = true := fun i d h => hw d (List.mem_of_getElem? h)
  refine MetFree.of_bodySF (plainFor_of_name pn_1) hisR ?_
  intro p e s m args below meth c s₁ Bd hml0 hP hK
  obtain ⟨rfl, hZ, hh⟩ := hP
  have hx := Bd.exec
  have hby := Bd.bytes
  have hml : c.maxLocals = 2 := hml0
  have hown : s.vm.findClass "underdeck/deck/SqlText" = some m.cls := findClass_of_methodNamed Bd.named
  have hnm := (name_of_methodNamed Bd.named Bd.method).1
  have X0 : Stand p l e ({ frames := 4, cells := 8, slots := 51, locals := 52 } : Room) s m #[(.ref a1), (.ref a2)] below meth c s₁ [] 0 0 := Stand.of_body Bd
  have e0 : s₁.heap = h0 := by rw [← hh, Bd.state]; rfl
  have N0 := Fr.nil n0
  obtain ⟨T3, X3, e3, st3⟩ := initO X0 hx hZ hown (hi 20 rfl) (hi 21 rfl) (hi 22 rfl) e0 (g := (mkF m 1 #[vA a1, vA a2] [(.ref a1)])) rfl (by rw [hml]; rfl) rfl (hb hby d1_1) (by decide) (W := 0) (by show 2 * 0 + _ ≤ _; exact Nat.le_of_eq rfl) (by decide)
  obtain ⟨T4, h4, X4, e4, E4, A4, D4, -, st4⟩ := newO X3 hx hZ hown (hi 23 rfl) (hi 24 rfl) (hi 25 rfl) e3 (g := (mkF m 5 #[vA a1, vA a2] [(.ref a1)])) rfl (hb hby d1_5) (by decide) (by decide)
  obtain ⟨b4, g4⟩ : ∃ z, z = h0.size := ⟨_, rfl⟩
  rw [← g4] at A4 D4 st4
  have g_b4 : n0 ≤ b4 := Nat.le_trans Z0 (Nat.le_of_eq g4.symm)
  have sz_b4 : h0.size ≤ b4 := Nat.le_trans (Nat.le_refl h0.size) (Nat.le_of_eq g4.symm)
  have yok_ : Fld Z h4 b4 "java/util/AbstractList" "modCount" "I" (.int (0 : Int32)) := D4 (Or.inl (hi 43 rfl)) (ty := .int) (by decide)
  have ymy_ : Fld Z h4 b4 "java/util/ArrayList" "elementData" "[Ljava/lang/Object;" .null := D4 (Or.inl (hi 46 rfl)) (ty := (.array (.object "java/lang/Object"))) (by decide)
  have yqh_ : Fld Z h4 b4 "java/util/ArrayList" "size" "I" (.int (0 : Int32)) := D4 (Or.inl (hi 197 rfl)) (ty := .int) (by decide)
  have f0 := (yaj_.ext E4)
  obtain ⟨_, _, ⟨T5, L5, k5, n5⟩, -, X5, ⟨Lc5, hQ5, l5, y5, z5⟩, st5⟩ := X4.specialBack hx (y := mN37) rfl hown (mvT hZ (hi 26 rfl)) (mvT hZ (hi 27 rfl)) (mvT hZ (hi 28 rfl)) (by decide) (backOf (W := 2) (rm3 l Z a0 hw [] b4 .null (0 : Int32) (0 : Int32) yg_ h4 n0 (Nat.le_trans Z0 E4.1) ymy_ yqh_ yok_ A4 g_b4 f0) hZ (hi 28 rfl) (hi 25 rfl) (by decide) (by decide)) (g := (mkF m 9 #[vA a1, vA a2] [(.ref b4), (.ref b4), (.ref a1)])) rfl (by rw [hml]; rfl) (Steps.refl _) (a := b4) (argsL := []) (rest := [(.ref b4), (.ref a1)]) (lenOf ydr_ rfl) rfl (by show 2 * 0 + _ ≤ _; exact Nat.le_of_eq rfl) (hb hby d1_9) (fun _ _ => ⟨rfl, e4, (by decide : 1 + 0 ≤ _), (by decide : 3 + 0 ≤ _)⟩)
  dsimp only [Pt.U, Pt.locs, Pt.cells, Pt.slots] at X5 l5 y5 z5 st5 hQ5
  subst l5 y5 z5
  obtain ⟨rfl, N5q, K5, i5_0, i5_1, i5_2, i5_3⟩ := hQ5
  have N5 := Fr.app N0 N5q
  have f1 := ((E_a1.ext E4).keep K5)
  have f2 := ((ypm_.ext E4).keep K5 (own_nm (Nat.ne_of_lt (Nat.lt_of_lt_of_le E_a1.lt sz_b4)) own_n0))
  obtain ⟨T6, h6, X6, e6, W6, st6⟩ := putF X5 hx hZ hown (host := "") (Or.inl (hi 47 rfl)) Via.refl rfl f2 f1 (Or.inr ⟨(hi 48 rfl), rfl, hnm⟩) (hi 15 rfl) (ty := (.object "java/util/List")) (by decide) rfl rfl (g := (mkF m 12 #[vA a1, vA a2] [(.ref b4), (.ref a1)])) rfl rfl (hb hby d1_12)
  have Fw6 := f2.same W6
  have N6 := Fr.snoc X6 N5 g_a1
  have f3 := (i5_0.wr W6)
  obtain ⟨T7, h7, X7, e7, E7, A7, D7, -, st7⟩ := newO X6 hx hZ hown (hi 49 rfl) (hi 50 rfl) (hi 51 rfl) e6 (g := (mkF m 16 #[vA a1, vA a2] [(.ref a1)])) rfl (hb hby d1_16) (by decide) (by decide)
  obtain ⟨b7, g7⟩ : ∃ z, z = h6.size := ⟨_, rfl⟩
  rw [← g7] at A7 D7 st7
  have g_b7 : n0 ≤ b7 := Nat.le_trans (Nat.le_trans (Nat.le_trans (Nat.le_trans Z0 E4.1) K5.1) (Keep.of_wr W6).1) (Nat.le_of_eq g7.symm)
  have sz_b7 : h0.size ≤ b7 := Nat.le_trans (Nat.le_trans (Nat.le_trans (Nat.le_trans (Nat.le_refl h0.size) E4.1) K5.1) (Keep.of_wr W6).1) (Nat.le_of_eq g7.symm)
  have ypp_ : Fld Z h7 b7 "java/lang/AbstractStringBuilder" "value" "[B" .null := D7 (Or.inl (hi 64 rfl)) (ty := (.array .byte)) (by decide)
  have ypq_ : Fld Z h7 b7 "java/lang/AbstractStringBuilder" "coder" "B" (.int (0 : Int32)) := D7 (Or.inl (hi 66 rfl)) (ty := .byte) (by decide)
  have ypr_ : Fld Z h7 b7 "java/lang/AbstractStringBuilder" "count" "I" (.int (0 : Int32)) := D7 (Or.inl (hi 143 rfl)) (ty := .int) (by decide)
  have f4 := (((own_sta_keep (yf_.ext E4) K5 (own_qc (own_nst A4) own_q0)).wr W6).ext E7)
  obtain ⟨_, _, ⟨T8, L8, k8, n8⟩, -, X8, ⟨Lc8, hQ8, l8, y8, z8⟩, st8⟩ := X7.specialBack hx (y := mN23) rfl hown (mvT hZ (hi 52 rfl)) (mvT hZ (hi 53 rfl)) (mvT hZ (hi 54 rfl)) (by decide) (backOf (W := 2) (rm6 l Z a0 hw [] b7 (0 : Int32) ya_ .null (0 : Int32) h7 n0 (Nat.le_trans (Nat.le_trans (Nat.le_trans (Nat.le_trans Z0 E4.1) K5.1) (Keep.of_wr W6).1) E7.1) hcs ypr_ f4 ypp_ ypq_ A7 g_b7) hZ (hi 54 rfl) (hi 51 rfl) (by decide) (by decide)) (g := (mkF m 20 #[vA a1, vA a2] [(.ref b7), (.ref b7), (.ref a1)])) rfl (by rw [hml]; rfl) (Steps.refl _) (a := b7) (argsL := []) (rest := [(.ref b7), (.ref a1)]) (lenOf ydr_ rfl) rfl (by show 2 * 0 + _ ≤ _; exact Nat.le_of_eq rfl) (hb hby d1_20) (fun _ _ => ⟨rfl, e7, (by decide : 2 + 1 ≤ _), (by decide : 7 + 16 ≤ _)⟩)
  dsimp only [Pt.U, Pt.locs, Pt.cells, Pt.slots] at X8 l8 y8 z8 st8 hQ8
  subst l8 y8 z8
  obtain ⟨b4_2_8, ⟨k4_2_8, ⟨rfl, N8q, K8, i8_0, i8_1, i8_2, i8_3, i8_4, i8_5, i8_6⟩⟩⟩ := hQ8
  have N8 := Fr.app N6 N8q
  have f5 := (f3.ext E7)
  have yfy_ : h0.size ≤ b4_2_8 := Nat.le_trans (Nat.le_trans (Nat.le_trans (Nat.le_trans (Nat.le_trans (Nat.le_refl h0.size) E4.1) K5.1) (Keep.of_wr W6).1) E7.1) i8_0
  have yrm_ : n0 ≤ b4_2_8 := Nat.le_trans Z0 yfy_
  have f6 := (((f1.wr W6).ext E7).keep K8)
  have f7 := (((((yda_.ext E4).keep K5 (own_nm (Nat.ne_of_lt (Nat.lt_of_lt_of_le E_a1.lt sz_b4)) own_n0)).other W6 (Or.inr (slot_ne (Or.inr (hi 68 rfl)) (Or.inr (hi 48 rfl)) (by decide) (t := (.object "java/lang/StringBuilder")) (t' := (.object "java/util/List")) (by decide) (by decide)))).ext E7).keep K8 (own_nm (Nat.ne_of_lt (Nat.lt_of_lt_of_le E_a1.lt sz_b7)) own_n0))
  obtain ⟨T9, h9, X9, e9, W9, st9⟩ := putF X8 hx hZ hown (host := "") (Or.inl (hi 67 rfl)) Via.refl rfl f7 f6 (Or.inr ⟨(hi 68 rfl), rfl, hnm⟩) (hi 15 rfl) (ty := (.object "java/lang/StringBuilder")) (by decide) rfl rfl (g := (mkF m 23 #[vA a1, vA a2] [(.ref b7), (.ref a1)])) rfl rfl (hb hby d1_23)
  have Fw9 := f7.same W9
  have N9 := Fr.snoc X9 N8 g_a1
  have f8 := ((f5.keep K8).wr W9)
  have f9 := (i8_1.wr W9)
  have f10 := (i8_5.wr W9)
  obtain ⟨T10, h10, X10, e10, E10, A10, D10, -, st10⟩ := newO X9 hx hZ hown (hi 23 rfl) (hi 24 rfl) (hi 25 rfl) e9 (g := (mkF m 27 #[vA a1, vA a2] [(.ref a1)])) rfl (hb hby d1_27) (by decide) (by decide)
  obtain ⟨b10, g10⟩ : ∃ z, z = h9.size := ⟨_, rfl⟩
  rw [← g10] at A10 D10 st10
  have g_b10 : n0 ≤ b10 := Nat.le_trans (Nat.le_trans (Nat.le_trans (Nat.le_trans (Nat.le_trans (Nat.le_trans (Nat.le_trans Z0 E4.1) K5.1) (Keep.of_wr W6).1) E7.1) K8.1) (Keep.of_wr W9).1) (Nat.le_of_eq g10.symm)
  have sz_b10 : h0.size ≤ b10 := Nat.le_trans (Nat.le_trans (Nat.le_trans (Nat.le_trans (Nat.le_trans (Nat.le_trans (Nat.le_trans (Nat.le_refl h0.size) E4.1) K5.1) (Keep.of_wr W6).1) E7.1) K8.1) (Keep.of_wr W9).1) (Nat.le_of_eq g10.symm)
  have yns_ : Fld Z h10 b10 "java/util/AbstractList" "modCount" "I" (.int (0 : Int32)) := D10 (Or.inl (hi 43 rfl)) (ty := .int) (by decide)
  have ylz_ : Fld Z h10 b10 "java/util/ArrayList" "elementData" "[Ljava/lang/Object;" .null := D10 (Or.inl (hi 46 rfl)) (ty := (.array (.object "java/lang/Object"))) (by decide)
  have yps_ : Fld Z h10 b10 "java/util/ArrayList" "size" "I" (.int (0 : Int32)) := D10 (Or.inl (hi 197 rfl)) (ty := .int) (by decide)
  have f11 := (((own_sta_keep (((own_sta_keep f0 K5 (own_qc (own_nst A4) own_q0)).wr W6).ext E7) K8 (own_qc (own_nst A7) own_q0)).wr W9).ext E10)
  obtain ⟨_, _, ⟨T11, L11, k11, n11⟩, -, X11, ⟨Lc11, hQ11, l11, y11, z11⟩, st11⟩ := X10.specialBack hx (y := mN37) rfl hown (mvT hZ (hi 26 rfl)) (mvT hZ (hi 27 rfl)) (mvT hZ (hi 28 rfl)) (by decide) (backOf (W := 2) (rm3 l Z a0 hw [] b10 .null (0 : Int32) (0 : Int32) yg_ h10 n0 (Nat.le_trans (Nat.le_trans (Nat.le_trans (Nat.le_trans (Nat.le_trans (Nat.le_trans (Nat.le_trans Z0 E4.1) K5.1) (Keep.of_wr W6).1) E7.1) K8.1) (Keep.of_wr W9).1) E10.1) ylz_ yps_ yns_ A10 g_b10 f11) hZ (hi 28 rfl) (hi 25 rfl) (by decide) (by decide)) (g := (mkF m 31 #[vA a1, vA a2] [(.ref b10), (.ref b10), (.ref a1)])) rfl (by rw [hml]; rfl) (Steps.refl _) (a := b10) (argsL := []) (rest := [(.ref b10), (.ref a1)]) (lenOf ydr_ rfl) rfl (by show 2 * 0 + _ ≤ _; exact Nat.le_of_eq rfl) (hb hby d1_31) (fun _ _ => ⟨rfl, e10, (by decide : 4 + 0 ≤ _), (by decide : 26 + 0 ≤ _)⟩)
  dsimp only [Pt.U, Pt.locs, Pt.cells, Pt.slots] at X11 l11 y11 z11 st11 hQ11
  subst l11 y11 z11
  obtain ⟨rfl, N11q, K11, i11_0, i11_1, i11_2, i11_3⟩ := hQ11
  have N11 := Fr.app N9 N11q
  have f12 := (((f6.wr W9).ext E10).keep K11)
  have f13 := ((((((((yeg_.ext E4).keep K5 (own_nm (Nat.ne_of_lt (Nat.lt_of_lt_of_le E_a1.lt sz_b4)) own_n0)).other W6 (Or.inr (slot_ne (Or.inr (hi 70 rfl)) (Or.inr (hi 48 rfl)) (by decide) (t := (.object "java/util/List")) (t' := (.object "java/util/List")) (by decide) (by decide)))).ext E7).keep K8 (own_nm (Nat.ne_of_lt (Nat.lt_of_lt_of_le E_a1.lt sz_b7)) own_n0)).other W9 (Or.inr (slot_ne (Or.inr (hi 70 rfl)) (Or.inr (hi 68 rfl)) (by decide) (t := (.object "java/util/List")) (t' := (.object "java/lang/StringBuilder")) (by decide) (by decide)))).ext E10).keep K11 (own_nm (Nat.ne_of_lt (Nat.lt_of_lt_of_le E_a1.lt sz_b10)) own_n0))
  obtain ⟨T12, h12, X12, e12, W12, st12⟩ := putF X11 hx hZ hown (host := "") (Or.inl (hi 69 rfl)) Via.refl rfl f13 f12 (Or.inr ⟨(hi 70 rfl), rfl, hnm⟩) (hi 15 rfl) (ty := (.object "java/util/List")) (by decide) rfl rfl (g := (mkF m 34 #[vA a1, vA a2] [(.ref b10), (.ref a1)])) rfl rfl (hb hby d1_34)
  have Fw12 := f13.same W12
  have N12 := Fr.snoc X12 N11 g_a1
  have f14 := (((f8.ext E10).keep K11).wr W12)
  have f15 := (((f9.ext E10).keep K11).wr W12)
  have f16 := (((f10.ext E10).keep K11).wr W12)
  have f17 := (i11_0.wr W12)
  obtain ⟨T13, h13, X13, e13, E13, A13, D13, -, st13⟩ := newO X12 hx hZ hown (hi 71 rfl) (hi 72 rfl) (hi 73 rfl) e12 (g := (mkF m 38 #[vA a1, vA a2] [(.ref a1)])) rfl (hb hby d1_38) (by decide) (by decide)
  obtain ⟨b13, g13⟩ : ∃ z, z = h12.size := ⟨_, rfl⟩
  rw [← g13] at A13 D13 st13
  have g_b13 : n0 ≤ b13 := Nat.le_trans (Nat.le_trans (Nat.le_trans (Nat.le_trans (Nat.le_trans (Nat.le_trans (Nat.le_trans (Nat.le_trans (Nat.le_trans (Nat.le_trans Z0 E4.1) K5.1) (Keep.of_wr W6).1) E7.1) K8.1) (Keep.of_wr W9).1) E10.1) K11.1) (Keep.of_wr W12).1) (Nat.le_of_eq g13.symm)
  have sz_b13 : h0.size ≤ b13 := Nat.le_trans (Nat.le_trans (Nat.le_trans (Nat.le_trans (Nat.le_trans (Nat.le_trans (Nat.le_trans (Nat.le_trans (Nat.le_trans (Nat.le_trans (Nat.le_refl h0.size) E4.1) K5.1) (Keep.of_wr W6).1) E7.1) K8.1) (Keep.of_wr W9).1) E10.1) K11.1) (Keep.of_wr W12).1) (Nat.le_of_eq g13.symm)
  have ymz_ : Fld Z h13 b13 "java/util/HashMap" "loadFactor" "F" (.float (0 : UInt32)) := D13 (Or.inr (hi 86 rfl)) (ty := .float) (by decide)
  obtain ⟨_, _, ⟨T14, L14, k14, n14⟩, -, X14, ⟨Lc14, hQ14, l14, y14, z14⟩, st14⟩ := X13.specialBack hx (y := mN43) rfl hown (mvT hZ (hi 74 rfl)) (mvT hZ (hi 75 rfl)) (mvT hZ (hi 76 rfl)) (by decide) (backOf (W := 2) (rm8 l Z a0 hw [] b13 (0 : UInt32) h13 n0 (Nat.le_trans (Nat.le_trans (Nat.le_trans (Nat.le_trans (Nat.le_trans (Nat.le_trans (Nat.le_trans (Nat.le_trans (Nat.le_trans (Nat.le_trans Z0 E4.1) K5.1) (Keep.of_wr W6).1) E7.1) K8.1) (Keep.of_wr W9).1) E10.1) K11.1) (Keep.of_wr W12).1) E13.1) A13 ymz_ g_b13) hZ (hi 76 rfl) (hi 73 rfl) (by decide) (by decide)) (g := (mkF m 42 #[vA a1, vA a2] [(.ref b13), (.ref b13), (.ref a1)])) rfl (by rw [hml]; rfl) (Steps.refl _) (a := b13) (argsL := []) (rest := [(.ref b13), (.ref a1)]) (lenOf ydr_ rfl) rfl (by show 2 * 0 + _ ≤ _; exact Nat.le_of_eq rfl) (hb hby d1_42) (fun _ _ => ⟨rfl, e13, (by decide : 5 + 0 ≤ _), (by decide : 34 + 0 ≤ _)⟩)
  dsimp only [Pt.U, Pt.locs, Pt.cells, Pt.slots] at X14 l14 y14 z14 st14 hQ14
  subst l14 y14 z14
  obtain ⟨rfl, N14q, K14, i14_0, i14_1⟩ := hQ14
  have N14 := Fr.app N12 N14q
  have f18 := (((f12.wr W12).ext E13).keep K14)
  have f19 := (((((((((((ypn_.ext E4).keep K5 (own_nm (Nat.ne_of_lt (Nat.lt_of_lt_of_le E_a1.lt sz_b4)) own_n0)).other W6 (Or.inr (slot_ne (Or.inr (hi 88 rfl)) (Or.inr (hi 48 rfl)) (by decide) (t := (.object "java/util/Map")) (t' := (.object "java/util/List")) (by decide) (by decide)))).ext E7).keep K8 (own_nm (Nat.ne_of_lt (Nat.lt_of_lt_of_le E_a1.lt sz_b7)) own_n0)).other W9 (Or.inr (slot_ne (Or.inr (hi 88 rfl)) (Or.inr (hi 68 rfl)) (by decide) (t := (.object "java/util/Map")) (t' := (.object "java/lang/StringBuilder")) (by decide) (by decide)))).ext E10).keep K11 (own_nm (Nat.ne_of_lt (Nat.lt_of_lt_of_le E_a1.lt sz_b10)) own_n0)).other W12 (Or.inr (slot_ne (Or.inr (hi 88 rfl)) (Or.inr (hi 70 rfl)) (by decide) (t := (.object "java/util/Map")) (t' := (.object "java/util/List")) (by decide) (by decide)))).ext E13).keep K14 (own_nm (Nat.ne_of_lt (Nat.lt_of_lt_of_le E_a1.lt sz_b13)) own_n0))
  obtain ⟨T15, h15, X15, e15, W15, st15⟩ := putF X14 hx hZ hown (host := "") (Or.inl (hi 87 rfl)) Via.refl rfl f19 f18 (Or.inr ⟨(hi 88 rfl), rfl, hnm⟩) (hi 15 rfl) (ty := (.object "java/util/Map")) (by decide) rfl rfl (g := (mkF m 45 #[vA a1, vA a2] [(.ref b13), (.ref a1)])) rfl rfl (hb hby d1_45)
  have Fw15 := f19.same W15
  have N15 := Fr.snoc X15 N14 g_a1
  have f20 := (((f14.ext E13).keep K14).wr W15)
  have f21 := (((f15.ext E13).keep K14).wr W15)
  have f22 := (((f16.ext E13).keep K14).wr W15)
  have f23 := (((f17.ext E13).keep K14).wr W15)
  have f24 := (i14_0.wr W15)
  obtain ⟨T16, h16, X16, e16, E16, A16, D16, -, st16⟩ := newO X15 hx hZ hown (hi 71 rfl) (hi 72 rfl) (hi 73 rfl) e15 (g := (mkF m 49 #[vA a1, vA a2] [(.ref a1)])) rfl (hb hby d1_49) (by decide) (by decide)
  obtain ⟨b16, g16⟩ : ∃ z, z = h15.size := ⟨_, rfl⟩
  rw [← g16] at A16 D16 st16
  have g_b16 : n0 ≤ b16 := Nat.le_trans (Nat.le_trans (Nat.le_trans (Nat.le_trans (Nat.le_trans (Nat.le_trans (Nat.le_trans (Nat.le_trans (Nat.le_trans (Nat.le_trans (Nat.le_trans (Nat.le_trans (Nat.le_trans Z0 E4.1) K5.1) (Keep.of_wr W6).1) E7.1) K8.1) (Keep.of_wr W9).1) E10.1) K11.1) (Keep.of_wr W12).1) E13.1) K14.1) (Keep.of_wr W15).1) (Nat.le_of_eq g16.symm)
  have sz_b16 : h0.size ≤ b16 := Nat.le_trans (Nat.le_trans (Nat.le_trans (Nat.le_trans (Nat.le_trans (Nat.le_trans (Nat.le_trans (Nat.le_trans (Nat.le_trans (Nat.le_trans (Nat.le_trans (Nat.le_trans (Nat.le_trans (Nat.le_refl h0.size) E4.1) K5.1) (Keep.of_wr W6).1) E7.1) K8.1) (Keep.of_wr W9).1) E10.1) K11.1) (Keep.of_wr W12).1) E13.1) K14.1) (Keep.of_wr W15).1) (Nat.le_of_eq g16.symm)
  have yna_ : Fld Z h16 b16 "java/util/HashMap" "loadFactor" "F" (.float (0 : UInt32)) := D16 (Or.inr (hi 86 rfl)) (ty := .float) (by decide)
  obtain ⟨_, _, ⟨T17, L17, k17, n17⟩, -, X17, ⟨Lc17, hQ17, l17, y17, z17⟩, st17⟩ := X16.specialBack hx (y := mN43) rfl hown (mvT hZ (hi 74 rfl)) (mvT hZ (hi 75 rfl)) (mvT hZ (hi 76 rfl)) (by decide) (backOf (W := 2) (rm8 l Z a0 hw [] b16 (0 : UInt32) h16 n0 (Nat.le_trans (Nat.le_trans (Nat.le_trans (Nat.le_trans (Nat.le_trans (Nat.le_trans (Nat.le_trans (Nat.le_trans (Nat.le_trans (Nat.le_trans (Nat.le_trans (Nat.le_trans (Nat.le_trans Z0 E4.1) K5.1) (Keep.of_wr W6).1) E7.1) K8.1) (Keep.of_wr W9).1) E10.1) K11.1) (Keep.of_wr W12).1) E13.1) K14.1) (Keep.of_wr W15).1) E16.1) A16 yna_ g_b16) hZ (hi 76 rfl) (hi 73 rfl) (by decide) (by decide)) (g := (mkF m 53 #[vA a1, vA a2] [(.ref b16), (.ref b16), (.ref a1)])) rfl (by rw [hml]; rfl) (Steps.refl _) (a := b16) (argsL := []) (rest := [(.ref b16), (.ref a1)]) (lenOf ydr_ rfl) rfl (by show 2 * 0 + _ ≤ _; exact Nat.le_of_eq rfl) (hb hby d1_53) (fun _ _ => ⟨rfl, e16, (by decide : 6 + 0 ≤ _), (by decide : 42 + 0 ≤ _)⟩)
  dsimp only [Pt.U, Pt.locs, Pt.cells, Pt.slots] at X17 l17 y17 z17 st17 hQ17
  subst l17 y17 z17
  obtain ⟨rfl, N17q, K17, i17_0, i17_1⟩ := hQ17
  have N17 := Fr.app N15 N17q
  have f25 := (((f18.wr W15).ext E16).keep K17)
  have f26 := ((((((((((((((ynk_.ext E4).keep K5 (own_nm (Nat.ne_of_lt (Nat.lt_of_lt_of_le E_a1.lt sz_b4)) own_n0)).other W6 (Or.inr (slot_ne (Or.inr (hi 90 rfl)) (Or.inr (hi 48 rfl)) (by decide) (t := (.object "java/util/Map")) (t' := (.object "java/util/List")) (by decide) (by decide)))).ext E7).keep K8 (own_nm (Nat.ne_of_lt (Nat.lt_of_lt_of_le E_a1.lt sz_b7)) own_n0)).other W9 (Or.inr (slot_ne (Or.inr (hi 90 rfl)) (Or.inr (hi 68 rfl)) (by decide) (t := (.object "java/util/Map")) (t' := (.object "java/lang/StringBuilder")) (by decide) (by decide)))).ext E10).keep K11 (own_nm (Nat.ne_of_lt (Nat.lt_of_lt_of_le E_a1.lt sz_b10)) own_n0)).other W12 (Or.inr (slot_ne (Or.inr (hi 90 rfl)) (Or.inr (hi 70 rfl)) (by decide) (t := (.object "java/util/Map")) (t' := (.object "java/util/List")) (by decide) (by decide)))).ext E13).keep K14 (own_nm (Nat.ne_of_lt (Nat.lt_of_lt_of_le E_a1.lt sz_b13)) own_n0)).other W15 (Or.inr (slot_ne (Or.inr (hi 90 rfl)) (Or.inr (hi 88 rfl)) (by decide) (t := (.object "java/util/Map")) (t' := (.object "java/util/Map")) (by decide) (by decide)))).ext E16).keep K17 (own_nm (Nat.ne_of_lt (Nat.lt_of_lt_of_le E_a1.lt sz_b16)) own_n0))
  obtain ⟨T18, h18, X18, e18, W18, st18⟩ := putF X17 hx hZ hown (host := "") (Or.inl (hi 89 rfl)) Via.refl rfl f26 f25 (Or.inr ⟨(hi 90 rfl), rfl, hnm⟩) (hi 15 rfl) (ty := (.object "java/util/Map")) (by decide) rfl rfl (g := (mkF m 56 #[vA a1, vA a2] [(.ref b16), (.ref a1)])) rfl rfl (hb hby d1_56)
  have Fw18 := f26.same W18
  have N18 := Fr.snoc X18 N17 g_a1
  have f27 := (((f20.ext E16).keep K17).wr W18)
  have f28 := (((f21.ext E16).keep K17).wr W18)
  have f29 := (((f22.ext E16).keep K17).wr W18)
  have f30 := (((f23.ext E16).keep K17).wr W18)
  have f31 := (((f24.ext E16).keep K17).wr W18)
  have f32 := (i17_0.wr W18)
  obtain ⟨T19, h19, X19, e19, E19, A19, D19, -, st19⟩ := newO X18 hx hZ hown (hi 91 rfl) (hi 92 rfl) (hi 93 rfl) e18 (g := (mkF m 60 #[vA a1, vA a2] [(.ref a1)])) rfl (hb hby d1_60) (by decide) (by decide)
  obtain ⟨b19, g19⟩ : ∃ z, z = h18.size := ⟨_, rfl⟩
  rw [← g19] at A19 D19 st19
  have g_b19 : n0 ≤ b19 := Nat.le_trans (Nat.le_trans (Nat.le_trans (Nat.le_trans (Nat.le_trans (Nat.le_trans (Nat.le_trans (Nat.le_trans (Nat.le_trans (Nat.le_trans (Nat.le_trans (Nat.le_trans (Nat.le_trans (Nat.le_trans (Nat.le_trans (Nat.le_trans Z0 E4.1) K5.1) (Keep.of_wr W6).1) E7.1) K8.1) (Keep.of_wr W9).1) E10.1) K11.1) (Keep.of_wr W12).1) E13.1) K14.1) (Keep.of_wr W15).1) E16.1) K17.1) (Keep.of_wr W18).1) (Nat.le_of_eq g19.symm)
  have sz_b19 : h0.size ≤ b19 := Nat.le_trans (Nat.le_trans (Nat.le_trans (Nat.le_trans (Nat.le_trans (Nat.le_trans (Nat.le_trans (Nat.le_trans (Nat.le_trans (Nat.le_trans (Nat.le_trans (Nat.le_trans (Nat.le_trans (Nat.le_trans (Nat.le_trans (Nat.le_trans (Nat.le_refl h0.size) E4.1) K5.1) (Keep.of_wr W6).1) E7.1) K8.1) (Keep.of_wr W9).1) E10.1) K11.1) (Keep.of_wr W12).1) E13.1) K14.1) (Keep.of_wr W15).1) E16.1) K17.1) (Keep.of_wr W18).1) (Nat.le_of_eq g19.symm)
  have yqi_ : Fld Z h19 b19 "java/util/HashSet" "map" "Ljava/util/HashMap;" .null := D19 (Or.inl (hi 109 rfl)) (ty := (.object "java/util/HashMap")) (by decide)
  obtain ⟨_, _, ⟨T20, L20, k20, n20⟩, -, X20, ⟨Lc20, hQ20, l20, y20, z20⟩, st20⟩ := X19.specialBack hx (y := mN44) rfl hown (mvT hZ (hi 94 rfl)) (mvT hZ (hi 95 rfl)) (mvT hZ (hi 96 rfl)) (by decide) (backOf (W := 2) (rm10 l Z a0 hw [] b19 .null h19 n0 (Nat.le_trans (Nat.le_trans (Nat.le_trans (Nat.le_trans (Nat.le_trans (Nat.le_trans (Nat.le_trans (Nat.le_trans (Nat.le_trans (Nat.le_trans (Nat.le_trans (Nat.le_trans (Nat.le_trans (Nat.le_trans (Nat.le_trans (Nat.le_trans Z0 E4.1) K5.1) (Keep.of_wr W6).1) E7.1) K8.1) (Keep.of_wr W9).1) E10.1) K11.1) (Keep.of_wr W12).1) E13.1) K14.1) (Keep.of_wr W15).1) E16.1) K17.1) (Keep.of_wr W18).1) E19.1) A19 yqi_ g_b19) hZ (hi 96 rfl) (hi 93 rfl) (by decide) (by decide)) (g := (mkF m 64 #[vA a1, vA a2] [(.ref b19), (.ref b19), (.ref a1)])) rfl (by rw [hml]; rfl) (Steps.refl _) (a := b19) (argsL := []) (rest := [(.ref b19), (.ref a1)]) (lenOf ydr_ rfl) rfl (by show 2 * 0 + _ ≤ _; exact Nat.le_of_eq rfl) (hb hby d1_64) (fun _ _ => ⟨rfl, e19, (by decide : 7 + 1 ≤ _), (by decide : 43 + 8 ≤ _)⟩)
  dsimp only [Pt.U, Pt.locs, Pt.cells, Pt.slots] at X20 l20 y20 z20 st20 hQ20
  subst l20 y20 z20
  obtain ⟨rfl, N20q, K20, i20_0⟩ := hQ20
  have N20 := Fr.app N18 N20q
  have f33 := (((f25.wr W18).ext E19).keep K20)
  have f34 := (((((((((((((((((ypo_.ext E4).keep K5 (own_nm (Nat.ne_of_lt (Nat.lt_of_lt_of_le E_a1.lt sz_b4)) own_n0)).other W6 (Or.inr (slot_ne (Or.inr (hi 111 rfl)) (Or.inr (hi 48 rfl)) (by decide) (t := (.object "java/util/Set")) (t' := (.object "java/util/List")) (by decide) (by decide)))).ext E7).keep K8 (own_nm (Nat.ne_of_lt (Nat.lt_of_lt_of_le E_a1.lt sz_b7)) own_n0)).other W9 (Or.inr (slot_ne (Or.inr (hi 111 rfl)) (Or.inr (hi 68 rfl)) (by decide) (t := (.object "java/util/Set")) (t' := (.object "java/lang/StringBuilder")) (by decide) (by decide)))).ext E10).keep K11 (own_nm (Nat.ne_of_lt (Nat.lt_of_lt_of_le E_a1.lt sz_b10)) own_n0)).other W12 (Or.inr (slot_ne (Or.inr (hi 111 rfl)) (Or.inr (hi 70 rfl)) (by decide) (t := (.object "java/util/Set")) (t' := (.object "java/util/List")) (by decide) (by decide)))).ext E13).keep K14 (own_nm (Nat.ne_of_lt (Nat.lt_of_lt_of_le E_a1.lt sz_b13)) own_n0)).other W15 (Or.inr (slot_ne (Or.inr (hi 111 rfl)) (Or.inr (hi 88 rfl)) (by decide) (t := (.object "java/util/Set")) (t' := (.object "java/util/Map")) (by decide) (by decide)))).ext E16).keep K17 (own_nm (Nat.ne_of_lt (Nat.lt_of_lt_of_le E_a1.lt sz_b16)) own_n0)).other W18 (Or.inr (slot_ne (Or.inr (hi 111 rfl)) (Or.inr (hi 90 rfl)) (by decide) (t := (.object "java/util/Set")) (t' := (.object "java/util/Map")) (by decide) (by decide)))).ext E19).keep K20 (own_nm (Nat.ne_of_lt (Nat.lt_of_lt_of_le E_a1.lt sz_b19)) own_n0))
  obtain ⟨T21, h21, X21, e21, W21, st21⟩ := putF X20 hx hZ hown (host := "") (Or.inl (hi 110 rfl)) Via.refl rfl f34 f33 (Or.inr ⟨(hi 111 rfl), rfl, hnm⟩) (hi 15 rfl) (ty := (.object "java/util/Set")) (by decide) rfl rfl (g := (mkF m 67 #[vA a1, vA a2] [(.ref b19), (.ref a1)])) rfl rfl (hb hby d1_67)
  have Fw21 := f34.same W21
  have N21 := Fr.snoc X21 N20 g_a1
  have f35 := (f33.wr W21)
  have f36 := ((((((((((((((((((ygt_.ext E4).keep K5 (own_nm (Nat.ne_of_lt (Nat.lt_of_lt_of_le E_a1.lt sz_b4)) own_n0)).other W6 (Or.inr (slot_ne (Or.inr (hi 113 rfl)) (Or.inr (hi 48 rfl)) (by decide) (t := (.object "underdeck/deck/Dialect")) (t' := (.object "java/util/List")) (by decide) (by decide)))).ext E7).keep K8 (own_nm (Nat.ne_of_lt (Nat.lt_of_lt_of_le E_a1.lt sz_b7)) own_n0)).other W9 (Or.inr (slot_ne (Or.inr (hi 113 rfl)) (Or.inr (hi 68 rfl)) (by decide) (t := (.object "underdeck/deck/Dialect")) (t' := (.object "java/lang/StringBuilder")) (by decide) (by decide)))).ext E10).keep K11 (own_nm (Nat.ne_of_lt (Nat.lt_of_lt_of_le E_a1.lt sz_b10)) own_n0)).other W12 (Or.inr (slot_ne (Or.inr (hi 113 rfl)) (Or.inr (hi 70 rfl)) (by decide) (t := (.object "underdeck/deck/Dialect")) (t' := (.object "java/util/List")) (by decide) (by decide)))).ext E13).keep K14 (own_nm (Nat.ne_of_lt (Nat.lt_of_lt_of_le E_a1.lt sz_b13)) own_n0)).other W15 (Or.inr (slot_ne (Or.inr (hi 113 rfl)) (Or.inr (hi 88 rfl)) (by decide) (t := (.object "underdeck/deck/Dialect")) (t' := (.object "java/util/Map")) (by decide) (by decide)))).ext E16).keep K17 (own_nm (Nat.ne_of_lt (Nat.lt_of_lt_of_le E_a1.lt sz_b16)) own_n0)).other W18 (Or.inr (slot_ne (Or.inr (hi 113 rfl)) (Or.inr (hi 90 rfl)) (by decide) (t := (.object "underdeck/deck/Dialect")) (t' := (.object "java/util/Map")) (by decide) (by decide)))).ext E19).keep K20 (own_nm (Nat.ne_of_lt (Nat.lt_of_lt_of_le E_a1.lt sz_b19)) own_n0)).other W21 (Or.inr (slot_ne (Or.inr (hi 113 rfl)) (Or.inr (hi 111 rfl)) (by decide) (t := (.object "underdeck/deck/Dialect")) (t' := (.object "java/util/Set")) (by decide) (by decide))))
  obtain ⟨T22, h22, X22, e22, W22, st22⟩ := putF X21 hx hZ hown (host := "") (Or.inl (hi 112 rfl)) Via.refl e21 f36 f35 (Or.inr ⟨(hi 113 rfl), rfl, hnm⟩) (hi 15 rfl) (ty := (.object "underdeck/deck/Dialect")) (by decide) rfl rfl (g := (mkF m 72 #[vA a1, vA a2] [(.ref a2), (.ref a1)])) rfl rfl (hb hby d1_72)
  have Fw22 := f36.same W22
  have N22 := Fr.snoc X22 N21 g_a1
  have f37 := (f35.wr W22)
  have f38 := (((((((((((((Fw9.ext E10).keep K11 (own_nm (Nat.ne_of_lt (Nat.lt_of_lt_of_le E_a1.lt sz_b10)) own_n0)).other W12 (Or.inr (slot_ne (Or.inr (hi 68 rfl)) (Or.inr (hi 70 rfl)) (by decide) (t := (.object "java/lang/StringBuilder")) (t' := (.object "java/util/List")) (by decide) (by decide)))).ext E13).keep K14 (own_nm (Nat.ne_of_lt (Nat.lt_of_lt_of_le E_a1.lt sz_b13)) own_n0)).other W15 (Or.inr (slot_ne (Or.inr (hi 68 rfl)) (Or.inr (hi 88 rfl)) (by decide) (t := (.object "java/lang/StringBuilder")) (t' := (.object "java/util/Map")) (by decide) (by decide)))).ext E16).keep K17 (own_nm (Nat.ne_of_lt (Nat.lt_of_lt_of_le E_a1.lt sz_b16)) own_n0)).other W18 (Or.inr (slot_ne (Or.inr (hi 68 rfl)) (Or.inr (hi 90 rfl)) (by decide) (t := (.object "java/lang/StringBuilder")) (t' := (.object "java/util/Map")) (by decide) (by decide)))).ext E19).keep K20 (own_nm (Nat.ne_of_lt (Nat.lt_of_lt_of_le E_a1.lt sz_b19)) own_n0)).other W21 (Or.inr (slot_ne (Or.inr (hi 68 rfl)) (Or.inr (hi 111 rfl)) (by decide) (t := (.object "java/lang/StringBuilder")) (t' := (.object "java/util/Set")) (by decide) (by decide)))).other W22 (Or.inr (slot_ne (Or.inr (hi 68 rfl)) (Or.inr (hi 113 rfl)) (by decide) (t := (.object "java/lang/StringBuilder")) (t' := (.object "underdeck/deck/Dialect")) (by decide) (by decide))))
  have f39 := ((((((((((Fw12.ext E13).keep K14 (own_nm (Nat.ne_of_lt (Nat.lt_of_lt_of_le E_a1.lt sz_b13)) own_n0)).other W15 (Or.inr (slot_ne (Or.inr (hi 70 rfl)) (Or.inr (hi 88 rfl)) (by decide) (t := (.object "java/util/List")) (t' := (.object "java/util/Map")) (by decide) (by decide)))).ext E16).keep K17 (own_nm (Nat.ne_of_lt (Nat.lt_of_lt_of_le E_a1.lt sz_b16)) own_n0)).other W18 (Or.inr (slot_ne (Or.inr (hi 70 rfl)) (Or.inr (hi 90 rfl)) (by decide) (t := (.object "java/util/List")) (t' := (.object "java/util/Map")) (by decide) (by decide)))).ext E19).keep K20 (own_nm (Nat.ne_of_lt (Nat.lt_of_lt_of_le E_a1.lt sz_b19)) own_n0)).other W21 (Or.inr (slot_ne (Or.inr (hi 70 rfl)) (Or.inr (hi 111 rfl)) (by decide) (t := (.object "java/util/List")) (t' := (.object "java/util/Set")) (by decide) (by decide)))).other W22 (Or.inr (slot_ne (Or.inr (hi 70 rfl)) (Or.inr (hi 113 rfl)) (by decide) (t := (.object "java/util/List")) (t' := (.object "underdeck/deck/Dialect")) (by decide) (by decide))))
  have f40 := ((((f28.ext E19).keep K20).wr W21).wr W22)
  have f41 := ((((((((((((((i8_2.other W9 (Or.inl (Ne.symm (Nat.ne_of_lt (Nat.lt_of_lt_of_le E_a1.lt sz_b7))))).ext E10).keep K11 (own_nm (Nat.ne_of_lt (Nat.lt_of_lt_of_le f9.lt (Nat.le_of_eq g10.symm))) own_n0)).other W12 (Or.inl (Ne.symm (Nat.ne_of_lt (Nat.lt_of_lt_of_le E_a1.lt sz_b7))))).ext E13).keep K14 (own_nm (Nat.ne_of_lt (Nat.lt_of_lt_of_le f15.lt (Nat.le_of_eq g13.symm))) own_n0)).other W15 (Or.inl (Ne.symm (Nat.ne_of_lt (Nat.lt_of_lt_of_le E_a1.lt sz_b7))))).ext E16).keep K17 (own_nm (Nat.ne_of_lt (Nat.lt_of_lt_of_le f21.lt (Nat.le_of_eq g16.symm))) own_n0)).other W18 (Or.inl (Ne.symm (Nat.ne_of_lt (Nat.lt_of_lt_of_le E_a1.lt sz_b7))))).ext E19).keep K20 (own_nm (Nat.ne_of_lt (Nat.lt_of_lt_of_le f28.lt (Nat.le_of_eq g19.symm))) own_n0)).other W21 (Or.inl (Ne.symm (Nat.ne_of_lt (Nat.lt_of_lt_of_le E_a1.lt sz_b7))))).other W22 (Or.inl (Ne.symm (Nat.ne_of_lt (Nat.lt_of_lt_of_le E_a1.lt sz_b7)))))
  have f42 := ((((((((((((((i8_3.other W9 (Or.inl (Ne.symm (Nat.ne_of_lt (Nat.lt_of_lt_of_le E_a1.lt sz_b7))))).ext E10).keep K11 (own_nm (Nat.ne_of_lt (Nat.lt_of_lt_of_le f9.lt (Nat.le_of_eq g10.symm))) own_n0)).other W12 (Or.inl (Ne.symm (Nat.ne_of_lt (Nat.lt_of_lt_of_le E_a1.lt sz_b7))))).ext E13).keep K14 (own_nm (Nat.ne_of_lt (Nat.lt_of_lt_of_le f15.lt (Nat.le_of_eq g13.symm))) own_n0)).other W15 (Or.inl (Ne.symm (Nat.ne_of_lt (Nat.lt_of_lt_of_le E_a1.lt sz_b7))))).ext E16).keep K17 (own_nm (Nat.ne_of_lt (Nat.lt_of_lt_of_le f21.lt (Nat.le_of_eq g16.symm))) own_n0)).other W18 (Or.inl (Ne.symm (Nat.ne_of_lt (Nat.lt_of_lt_of_le E_a1.lt sz_b7))))).ext E19).keep K20 (own_nm (Nat.ne_of_lt (Nat.lt_of_lt_of_le f28.lt (Nat.le_of_eq g19.symm))) own_n0)).other W21 (Or.inl (Ne.symm (Nat.ne_of_lt (Nat.lt_of_lt_of_le E_a1.lt sz_b7))))).other W22 (Or.inl (Ne.symm (Nat.ne_of_lt (Nat.lt_of_lt_of_le E_a1.lt sz_b7)))))
  have f43 := ((((((((((((((i8_4.other W9 (Or.inl (Ne.symm (Nat.ne_of_lt (Nat.lt_of_lt_of_le E_a1.lt sz_b7))))).ext E10).keep K11 (own_nm (Nat.ne_of_lt (Nat.lt_of_lt_of_le f9.lt (Nat.le_of_eq g10.symm))) own_n0)).other W12 (Or.inl (Ne.symm (Nat.ne_of_lt (Nat.lt_of_lt_of_le E_a1.lt sz_b7))))).ext E13).keep K14 (own_nm (Nat.ne_of_lt (Nat.lt_of_lt_of_le f15.lt (Nat.le_of_eq g13.symm))) own_n0)).other W15 (Or.inl (Ne.symm (Nat.ne_of_lt (Nat.lt_of_lt_of_le E_a1.lt sz_b7))))).ext E16).keep K17 (own_nm (Nat.ne_of_lt (Nat.lt_of_lt_of_le f21.lt (Nat.le_of_eq g16.symm))) own_n0)).other W18 (Or.inl (Ne.symm (Nat.ne_of_lt (Nat.lt_of_lt_of_le E_a1.lt sz_b7))))).ext E19).keep K20 (own_nm (Nat.ne_of_lt (Nat.lt_of_lt_of_le f28.lt (Nat.le_of_eq g19.symm))) own_n0)).other W21 (Or.inl (Ne.symm (Nat.ne_of_lt (Nat.lt_of_lt_of_le E_a1.lt sz_b7))))).other W22 (Or.inl (Ne.symm (Nat.ne_of_lt (Nat.lt_of_lt_of_le E_a1.lt sz_b7)))))
  have f44 := ((((f29.ext E19).keep K20).wr W21).wr W22)
  have f45 := ((((((((((((((i8_6.other W9 (Ne.symm (Nat.ne_of_lt (Nat.lt_of_lt_of_le E_a1.lt yfy_)))).ext E10).keep K11 (own_nm (Nat.ne_of_lt (Nat.lt_of_lt_of_le f10.lt (Nat.le_of_eq g10.symm))) own_n0)).other W12 (Ne.symm (Nat.ne_of_lt (Nat.lt_of_lt_of_le E_a1.lt yfy_)))).ext E13).keep K14 (own_nm (Nat.ne_of_lt (Nat.lt_of_lt_of_le f16.lt (Nat.le_of_eq g13.symm))) own_n0)).other W15 (Ne.symm (Nat.ne_of_lt (Nat.lt_of_lt_of_le E_a1.lt yfy_)))).ext E16).keep K17 (own_nm (Nat.ne_of_lt (Nat.lt_of_lt_of_le f22.lt (Nat.le_of_eq g16.symm))) own_n0)).other W18 (Ne.symm (Nat.ne_of_lt (Nat.lt_of_lt_of_le E_a1.lt yfy_)))).ext E19).keep K20 (own_nm (Nat.ne_of_lt (Nat.lt_of_lt_of_le f29.lt (Nat.le_of_eq g19.symm))) own_n0)).other W21 (Ne.symm (Nat.ne_of_lt (Nat.lt_of_lt_of_le E_a1.lt yfy_)))).other W22 (Ne.symm (Nat.ne_of_lt (Nat.lt_of_lt_of_le E_a1.lt yfy_))))
  have f46 := ((((f30.ext E19).keep K20).wr W21).wr W22)
  have f47 := (((((((((((i11_1.other W12 (Or.inl (Ne.symm (Nat.ne_of_lt (Nat.lt_of_lt_of_le E_a1.lt sz_b10))))).ext E13).keep K14 (own_nm (Nat.ne_of_lt (Nat.lt_of_lt_of_le f17.lt (Nat.le_of_eq g13.symm))) own_n0)).other W15 (Or.inl (Ne.symm (Nat.ne_of_lt (Nat.lt_of_lt_of_le E_a1.lt sz_b10))))).ext E16).keep K17 (own_nm (Nat.ne_of_lt (Nat.lt_of_lt_of_le f23.lt (Nat.le_of_eq g16.symm))) own_n0)).other W18 (Or.inl (Ne.symm (Nat.ne_of_lt (Nat.lt_of_lt_of_le E_a1.lt sz_b10))))).ext E19).keep K20 (own_nm (Nat.ne_of_lt (Nat.lt_of_lt_of_le f30.lt (Nat.le_of_eq g19.symm))) own_n0)).other W21 (Or.inl (Ne.symm (Nat.ne_of_lt (Nat.lt_of_lt_of_le E_a1.lt sz_b10))))).other W22 (Or.inl (Ne.symm (Nat.ne_of_lt (Nat.lt_of_lt_of_le E_a1.lt sz_b10)))))
  have f48 := (((((((((((i11_2.other W12 (Or.inl (Ne.symm (Nat.ne_of_lt (Nat.lt_of_lt_of_le E_a1.lt sz_b10))))).ext E13).keep K14 (own_nm (Nat.ne_of_lt (Nat.lt_of_lt_of_le f17.lt (Nat.le_of_eq g13.symm))) own_n0)).other W15 (Or.inl (Ne.symm (Nat.ne_of_lt (Nat.lt_of_lt_of_le E_a1.lt sz_b10))))).ext E16).keep K17 (own_nm (Nat.ne_of_lt (Nat.lt_of_lt_of_le f23.lt (Nat.le_of_eq g16.symm))) own_n0)).other W18 (Or.inl (Ne.symm (Nat.ne_of_lt (Nat.lt_of_lt_of_le E_a1.lt sz_b10))))).ext E19).keep K20 (own_nm (Nat.ne_of_lt (Nat.lt_of_lt_of_le f30.lt (Nat.le_of_eq g19.symm))) own_n0)).other W21 (Or.inl (Ne.symm (Nat.ne_of_lt (Nat.lt_of_lt_of_le E_a1.lt sz_b10))))).other W22 (Or.inl (Ne.symm (Nat.ne_of_lt (Nat.lt_of_lt_of_le E_a1.lt sz_b10)))))
  have f49 := (((((((((((i11_3.other W12 (Or.inl (Ne.symm (Nat.ne_of_lt (Nat.lt_of_lt_of_le E_a1.lt sz_b10))))).ext E13).keep K14 (own_nm (Nat.ne_of_lt (Nat.lt_of_lt_of_le f17.lt (Nat.le_of_eq g13.symm))) own_n0)).other W15 (Or.inl (Ne.symm (Nat.ne_of_lt (Nat.lt_of_lt_of_le E_a1.lt sz_b10))))).ext E16).keep K17 (own_nm (Nat.ne_of_lt (Nat.lt_of_lt_of_le f23.lt (Nat.le_of_eq g16.symm))) own_n0)).other W18 (Or.inl (Ne.symm (Nat.ne_of_lt (Nat.lt_of_lt_of_le E_a1.lt sz_b10))))).ext E19).keep K20 (own_nm (Nat.ne_of_lt (Nat.lt_of_lt_of_le f30.lt (Nat.le_of_eq g19.symm))) own_n0)).other W21 (Or.inl (Ne.symm (Nat.ne_of_lt (Nat.lt_of_lt_of_le E_a1.lt sz_b10))))).other W22 (Or.inl (Ne.symm (Nat.ne_of_lt (Nat.lt_of_lt_of_le E_a1.lt sz_b10)))))
  obtain ⟨fs, hr, hrun, hended, hW, hsame⟩ := X22.leave (v := none) (fun _ => rfl)
  refine ⟨_, _, castTop (ef_1 m a1 a2) ?_, hrun, hended, _, _, rfl, ?_, ⟨_, rfl⟩, hW, hsame.mono (by decide) (by decide)⟩
  · show Steps p.tables e below (s₁.setTop (mkF m 0 #[vA a1, vA a2] [])) _
    refine XS.aloadN X0.here hx rfl (hb hby d1_0) rfl rfl ?_
    refine st3 _ ?_
    refine XS.aloadN X3.here hx rfl (hb hby d1_4) rfl rfl ?_
    refine st4 _ ?_
    refine XS.dup X4.here hx rfl (hb hby d1_8) rfl rfl ?_
    refine st5.trans ?_
    refine st6 _ ?_
    refine XS.aloadN X6.here hx rfl (hb hby d1_15) rfl rfl ?_
    refine st7 _ ?_
    refine XS.dup X7.here hx rfl (hb hby d1_19) rfl rfl ?_
    refine st8.trans ?_
    refine st9 _ ?_
    refine XS.aloadN X9.here hx rfl (hb hby d1_26) rfl rfl ?_
    refine st10 _ ?_
    refine XS.dup X10.here hx rfl (hb hby d1_30) rfl rfl ?_
    refine st11.trans ?_
    refine st12 _ ?_
    refine XS.aloadN X12.here hx rfl (hb hby d1_37) rfl rfl ?_
    refine st13 _ ?_
    refine XS.dup X13.here hx rfl (hb hby d1_41) rfl rfl ?_
    refine st14.trans ?_
    refine st15 _ ?_
    refine XS.aloadN X15.here hx rfl (hb hby d1_48) rfl rfl ?_
    refine st16 _ ?_
    refine XS.dup X16.here hx rfl (hb hby d1_52) rfl rfl ?_
    refine st17.trans ?_
    refine st18 _ ?_
    refine XS.aloadN X18.here hx rfl (hb hby d1_59) rfl rfl ?_
    refine st19 _ ?_
    refine XS.dup X19.here hx rfl (hb hby d1_63) rfl rfl ?_
    refine st20.trans ?_
    refine st21 _ ?_
    refine XS.aloadN X21.here hx rfl (hb hby d1_70) rfl rfl ?_
    refine XS.aloadN X21.here hx rfl (hb hby d1_71) rfl rfl ?_
    refine st22 _ ?_
    show Steps p.tables e below (T22.setTop (mkF m 75 #[vA a1, vA a2] [])) _
    exact X22.returnOut hx Bd.returns (hb hby d1_75) hr
  · show Q_rm1 Z a1 a2 yg_ yjb_ ya_ ys_ ybf_ yjc_ ygi_ yjd_ ybn_ h0 n0 _ T22.heap _
    rw [e22]
    exact ⟨b7, ⟨b4_2_8, ⟨b10, ⟨k4_2_8, ⟨rfl, N22, ((((((((((((((((((((Keep.refl h0 [a1]).ext E4).trans K5 (fun x q => (List.mem_cons.mp q).elim (fun r => by subst r; exact (Or.inr sz_b4)) (fun q => nomatch q))).wr W6 (Or.inl (List.mem_of_getElem? (i := 0) rfl))).ext E7).trans K8 (fun x q => (List.mem_cons.mp q).elim (fun r => by subst r; exact (Or.inr sz_b7)) (fun q => nomatch q))).wr W9 (Or.inl (List.mem_of_getElem? (i := 0) rfl))).ext E10).trans K11 (fun x q => (List.mem_cons.mp q).elim (fun r => by subst r; exact (Or.inr sz_b10)) (fun q => nomatch q))).wr W12 (Or.inl (List.mem_of_getElem? (i := 0) rfl))).ext E13).trans K14 (fun x q => (List.mem_cons.mp q).elim (fun r => by subst r; exact (Or.inr sz_b13)) (fun q => nomatch q))).wr W15 (Or.inl (List.mem_of_getElem? (i := 0) rfl))).ext E16).trans K17 (fun x q => (List.mem_cons.mp q).elim (fun r => by subst r; exact (Or.inr sz_b16)) (fun q => nomatch q))).wr W18 (Or.inl (List.mem_of_getElem? (i := 0) rfl))).ext E19).trans K20 (fun x q => (List.mem_cons.mp q).elim (fun r => by subst r; exact (Or.inr sz_b19)) (fun q => nomatch q))).wr W21 (Or.inl (List.mem_of_getElem? (i := 0) rfl))).wr W22 (Or.inl (List.mem_of_getElem? (i := 0) rfl))), sz_b7, yfy_, sz_b10, (Nat.ne_of_lt (Nat.lt_of_lt_of_le A7.lt i8_0)), (Nat.ne_of_lt (Nat.lt_of_lt_of_le f9.lt (Nat.le_of_eq g10.symm))), (Nat.ne_of_lt (Nat.lt_of_lt_of_le f10.lt (Nat.le_of_eq g10.symm))), f37, f38, f39, Fw22, f40, f41, f42, f43, f44, f45, f46, f47, f48, f49⟩⟩⟩⟩⟩
theorem d16_0 : decode jdk_42_method_152_code 0 = .ok (.getstatic 38, 3) := by decide +kernel
theorem d16_3 : decode jdk_42_method_152_code 3 = .ok (.ifCond .eq 10, 3) := by decide +kernel
theorem d16_6 : decode jdk_42_method_152_code 6 = .ok (.aload_n 0, 1) := by decide +kernel
theorem d16_7 : decode jdk_42_method_152_code 7 = .ok (.getfield 15, 3) := by decide +kernel
theorem d16_10 : decode jdk_42_method_152_code 10 = .ok (.goto 4, 3) := by decide +kernel
theorem d16_14 : decode jdk_42_method_152_code 14 = .ok (.ireturn, 1) := by decide +kernel
theorem pn_16 : plainName "java/lang/String" = true := by first | (simp [plainName, overriddenIn]; done) | decide +kernel
theorem ef_16 (m : MethodId) (x0 : Addr) : entryFrame m #[(.ref x0)] 1 = mkF m 0 #[.val (.ref x0)] [] := by first | (simp [entryFrame, mkF, argsToLocals, Value.category]; done) | rfl
def Q_rm16 (Z : State) (a1 : Addr) (ya_ : Int32) (yaq_ : Int32) (h0 : Heap) (n0 : Nat) (v : Option Value) (h : Heap) (L : List Loc) : Prop := v = some (.int (nar .byte yaq_)) ∧ Fr n0 L ∧ h = h0
set_option maxRecDepth 65536 in
set_option maxHeartbeats 40000000 in
theorem rm16 (l : Launch) (Z : State) (a0 : Array Value) (hw : ∀ d ∈ tables_1, d.before a0 Z = true) (ws : List Jvm.Cond) (a1 : Addr) (ya_ : Int32) (yaq_ : Int32) (h0 : Heap) (n0 : Nat) (Z0 : n0 ≤ h0.size) (hcs : ¬ (ya_ = (0 : Int32))) (yf_ : Sta Z h0 "java/lang/String" "COMPACT_STRINGS" "Z" (.int ya_)) (yac_ : Fld Z h0 a1 "java/lang/String" "coder" "B" (.int yaq_)) :
    MetFree l mN18 (head1 (Jvm.Cond.code mN18 jdk_42_method_152_code 1 (some .byte) :: ws) ({ frames := 0, cells := 0, slots := 0, locals := 0 } : Room)) (fun a U => a = #[(.ref a1)] ∧ Z.Warmed39 U.vm ∧ U.heap = h0) (fun _ _ _ _ _ => True) (fun _ U o U' => ∃ v L, o = .returned v ∧ Q_rm16 Z a1 ya_ yaq_ h0 n0 v U'.heap L ∧ FrameEnd U o U' L ({ frames := 0, cells := 0, slots := 0, locals := 0 } : Room).cells ({ frames := 0, cells := 0, slots := 0, locals := 0 } : Room).slots) := by
  have hi : ∀ (i : Nat) {d : Jvm.Cond}, tables_1[i]? = some d → d.before a0 Z = true := fun i d h => hw d (List.mem_of_getElem? h)
  refine MetFree.of_bodySF (plainFor_of_name pn_16) hisR ?_
  intro p e s m args below meth c s₁ Bd hml0 hP hK
  obtain ⟨rfl, hZ, hh⟩ := hP
  have hx := Bd.exec
  have hby := Bd.bytes
  have hml : c.maxLocals = 1 := hml0
  have hown : s.vm.findClass "java/lang/String" = some m.cls := findClass_of_methodNamed Bd.named
  have hnm := (name_of_methodNamed Bd.named Bd.method).1
  have X0 : Stand p l e ({ frames := 0, cells := 0, slots := 0, locals := 0 } : Room) s m #[(.ref a1)] below meth c s₁ [] 0 0 := Stand.of_body Bd
  have e0 : s₁.heap = h0 := by rw [← hh, Bd.state]; rfl
  have N0 := Fr.nil n0
  obtain ⟨T2, X2, e2, st2⟩ := getS2 X0 hx hZ hown (host := "") (Or.inl (hi 140 rfl)) Via.refl e0 yf_ (g := (mkF m 0 #[vA a1] [])) rfl (hb hby d16_0)
  obtain ⟨T3, X3, e3, st3⟩ := getF X2 hx hZ hown (host := "") (Or.inl (hi 141 rfl)) Via.refl e2 yac_ (g := (mkF m 7 #[vA a1] [(.ref a1)])) rfl rfl (hb hby d16_7)
  obtain ⟨fs, hr, hrun, hended, hW, hsame⟩ := X3.leave (v := some (.int (nar .byte yaq_))) (fun h => by rw [Bd.returns] at h; cases h)
  refine ⟨_, _, castTop (ef_16 m a1) ?_, hrun, hended, _, _, rfl, ?_, ⟨_, rfl⟩, hW, hsame.mono (by decide) (by decide)⟩
  · show Steps p.tables e below (s₁.setTop (mkF m 0 #[vA a1] [])) _
    refine st2 _ ?_
    refine XS.ifNo X2.here hx rfl (hb hby d16_3) rfl ((if0 _ _).trans (feq (show ¬ (ya_ = (0 : Int32)) from hcs)).1) ?_
    refine XS.aloadN X2.here hx rfl (hb hby d16_6) rfl rfl ?_
    refine st3 _ ?_
    refine XS.goto X3.here hx rfl (pc0 := 10) (pc' := 14) rfl (hb hby d16_10) (by decide) (by decide) ?_
    show Steps p.tables e below (T3.setTop (mkF m 14 #[vA a1] [(.int yaq_)])) _
    exact retN X3 hx (t := .byte) Bd.returns (by simp) (hb hby d16_14) hr
  · show Q_rm16 Z a1 ya_ yaq_ h0 n0 _ T3.heap _
    exact ⟨rfl, N0, e3⟩
theorem ykq_ : parseMethodDescriptor "()B" = some ⟨[], some .byte⟩ := by decide +kernel
theorem d15_0 : decode jdk_42_method_54_code 0 = .ok (.aload_n 0, 1) := by decide +kernel
theorem d15_1 : decode jdk_42_method_54_code 1 = .ok (.getfield 9, 3) := by decide +kernel
theorem d15_4 : decode jdk_42_method_54_code 4 = .ok (.arraylength, 1) := by decide +kernel
theorem d15_5 : decode jdk_42_method_54_code 5 = .ok (.aload_n 0, 1) := by decide +kernel
theorem d15_6 : decode jdk_42_method_54_code 6 = .ok (.invokevirtual 335, 3) := by decide +kernel
theorem d15_9 : decode jdk_42_method_54_code 9 = .ok (.ishr, 1) := by decide +kernel
theorem d15_10 : decode jdk_42_method_54_code 10 = .ok (.ireturn, 1) := by decide +kernel
theorem pn_15 : plainName "java/lang/String" = true := by first | (simp [plainName, overriddenIn]; done) | decide +kernel
theorem ef_15 (m : MethodId) (x0 : Addr) : entryFrame m #[(.ref x0)] 1 = mkF m 0 #[.val (.ref x0)] [] := by first | (simp [entryFrame, mkF, argsToLocals, Value.category]; done) | rfl
def Q_rm15 (Z : State) (a1 : Addr) (yc_ : Addr) (yn_ : ClassId) (yd_ : Int32) (ye_ : List Value) (ya_ : Int32) (yaq_ : Int32) (h0 : Heap) (n0 : Nat) (v : Option Value) (h : Heap) (L : List Loc) : Prop := v = some (.int (yd_ >>> ((nar .byte yaq_) &&& 31))) ∧ Fr n0 L ∧ h = h0
set_option maxRecDepth 65536 in
set_option maxHeartbeats 40000000 in
theorem rm15 (l : Launch) (Z : State) (a0 : Array Value) (hw : ∀ d ∈ tables_1, d.before a0 Z = true) (ws : List Jvm.Cond) (a1 : Addr) (yc_ : Addr) (yn_ : ClassId) (yd_ : Int32) (ye_ : List Value) (ya_ : Int32) (yaq_ : Int32) (h0 : Heap) (n0 : Nat) (Z0 : n0 ≤ h0.size) (hcs : ¬ (ya_ = (0 : Int32))) (yae_ : Fld Z h0 a1 "java/lang/String" "value" "[B" (.ref yc_)) (yam_ : Arv Z h0 yc_ yn_ .byte yd_ ye_ (.int (0 : Int32))) (yf_ : Sta Z h0 "java/lang/String" "COMPACT_STRINGS" "Z" (.int ya_)) (yac_ : Fld Z h0 a1 "java/lang/String" "coder" "B" (.int yaq_)) (E_a1 : Exa Z h0 a1 "java/lang/String") :
    MetFree l mN21 (head1 (Jvm.Cond.code mN21 jdk_42_method_54_code 1 (some .int) :: ws) ({ frames := 1, cells := 0, slots := 0, locals := 13 } : Room)) (fun a U => a = #[(.ref a1)] ∧ Z.Warmed39 U.vm ∧ U.heap = h0) (fun _ _ _ _ _ => True) (fun _ U o U' => ∃ v L, o = .returned v ∧ Q_rm15 Z a1 yc_ yn_ yd_ ye_ ya_ yaq_ h0 n0 v U'.heap L ∧ FrameEnd U o U' L ({ frames := 1, cells := 0, slots := 0, locals := 13 } : Room).cells ({ frames := 1, cells := 0, slots := 0, locals := 13 } : Room).slots) := by
  have hi : ∀ (i : Nat) {d : Jvm.Cond}, tables_1[i]? = some d → d.before a0 Z = true := fun i d h => hw d (List.mem_of_getElem? h)
  refine MetFree.of_bodySF (plainFor_of_name pn_15) hisR ?_
  intro p e s m args below meth c s₁ Bd hml0 hP hK
  obtain ⟨rfl, hZ, hh⟩ := hP
  have hx := Bd.exec
  have hby := Bd.bytes
  have hml : c.maxLocals = 1 := hml0
  have hown : s.vm.findClass "java/lang/String" = some m.cls := findClass_of_methodNamed Bd.named
  have hnm := (name_of_methodNamed Bd.named Bd.method).1
  have X0 : Stand p l e ({ frames := 1, cells := 0, slots := 0, locals := 13 } : Room) s m #[(.ref a1)] below meth c s₁ [] 0 0 := Stand.of_body Bd
  have e0 : s₁.heap = h0 := by rw [← hh, Bd.state]; rfl
  have N0 := Fr.nil n0
  obtain ⟨T2, X2, e2, st2⟩ := getF X0 hx hZ hown (host := "") (Or.inl (hi 134 rfl)) Via.refl e0 yae_ (g := (mkF m 1 #[vA a1] [(.ref a1)])) rfl rfl (hb hby d15_1)
  obtain ⟨ygj_, ybz_, ygx_, yde_, ydf_, ygk_, ygl_⟩ := id yam_
  obtain ⟨cq3, kq3, q3a, q3b, q3c⟩ := isOf hZ e2 E_a1
  obtain ⟨_, _, ⟨T3, L3, k3, n3⟩, -, X3, ⟨Lc3, hQ3, l3, y3, z3⟩, st3⟩ := X2.virtualBack hx (y := mN18) (z := mN18) hown (mvT hZ (hi 135 rfl)) (mvT hZ (hi 136 rfl)) (notFace_of_selects (args := #[]) (mvT hZ (hi 138 rfl))) (mvT hZ (hi 138 rfl)) (mvT hZ (hi 137 rfl)) (by decide) (backOf (W := 1) (rm16 l Z a0 hw [] a1 ya_ yaq_ h0 n0 Z0 hcs yf_ yac_) hZ (hi 139 rfl) (hi 4 rfl) (by decide) (by decide)) q3a q3c (g := (mkF m 6 #[vA a1] [(.ref a1), (.int yd_)])) rfl (by rw [hml]; rfl) (Steps.refl _) (argsL := []) (rest := [(.int yd_)]) (lenOf ykq_ rfl) rfl (by show 2 * 0 + _ ≤ _; exact Nat.le_of_eq rfl) (hb hby d15_6) (fun _ _ => ⟨rfl, e2, (by decide : 0 + 0 ≤ _), (by decide : 0 + 0 ≤ _)⟩)
  dsimp only [Pt.U, Pt.locs, Pt.cells, Pt.slots] at X3 l3 y3 z3 st3 hQ3
  subst l3 y3 z3
  obtain ⟨rfl, N3q, e3⟩ := hQ3
  have N3 := Fr.app N0 N3q
  obtain ⟨fs, hr, hrun, hended, hW, hsame⟩ := X3.leave (v := some (.int (yd_ >>> ((nar .byte yaq_) &&& 31)))) (fun h => by rw [Bd.returns] at h; cases h)
  refine ⟨_, _, castTop (ef_15 m a1) ?_, hrun, hended, _, _, rfl, ?_, ⟨_, rfl⟩, hW, hsame.mono (by decide) (by decide)⟩
  · show Steps p.tables e below (s₁.setTop (mkF m 0 #[vA a1] [])) _
    refine XS.aloadN X0.here hx rfl (hb hby d15_0) rfl rfl ?_
    refine st2 _ ?_
    refine X2.arraylength hx (by rw [e2]; exact ybz_.1) (State.isArrayOf_alike hZ.alike ybz_.2.1) (g := (mkF m 4 #[vA a1] [(.ref yc_)])) rfl rfl (hb hby d15_4) _ ?_
    rw [len_of yde_ ydf_]
    refine XS.aloadN X2.here hx rfl (hb hby d15_5) rfl rfl ?_
    refine st3.trans ?_
    refine XS.ishr X3.here hx rfl (hb hby d15_9) rfl ?_
    show Steps p.tables e below (T3.setTop (mkF m 10 #[vA a1] [(.int (yd_ >>> ((nar .byte yaq_) &&& 31)))])) _
    exact retI X3 hx Bd.returns (hb hby d15_10) hr
  · show Q_rm15 Z a1 yc_ yn_ yd_ ye_ ya_ yaq_ h0 n0 _ T3.heap _
    exact ⟨rfl, N3, e3⟩
theorem d19_0 : decode jdk_68_method_71_code 0 = .ok (.getstatic 18, 3) := by decide +kernel
theorem d19_3 : decode jdk_68_method_71_code 3 = .ok (.ifCond .eq 18, 3) := by decide +kernel
theorem d19_6 : decode jdk_68_method_71_code 6 = .ok (.aload_n 0, 1) := by decide +kernel
theorem d19_7 : decode jdk_68_method_71_code 7 = .ok (.getfield 22, 3) := by decide +kernel
theorem d19_10 : decode jdk_68_method_71_code 10 = .ok (.aload_n 1, 1) := by decide +kernel
theorem d19_11 : decode jdk_68_method_71_code 11 = .ok (.invokevirtual 40, 3) := by decide +kernel
theorem d19_14 : decode jdk_68_method_71_code 14 = .ok (.if_icmp .eq 7, 3) := by decide +kernel
theorem d19_21 : decode jdk_68_method_71_code 21 = .ok (.return_, 1) := by decide +kernel
theorem pn_19 : plainName "java/lang/AbstractStringBuilder" = true := by first | (simp [plainName, overriddenIn]; done) | decide +kernel
theorem ef_19 (m : MethodId) (x0 : Addr) (x1 : Addr) : entryFrame m #[(.ref x0), (.ref x1)] 2 = mkF m 0 #[.val (.ref x0), .val (.ref x1)] [] := by first | (simp [entryFrame, mkF, argsToLocals, Value.category]; done) | rfl
def Q_rm19 (Z : State) (a1 : Addr) (a2 : Addr) (ya_ : Int32) (h0 : Heap) (n0 : Nat) (v : Option Value) (h : Heap) (L : List Loc) : Prop := v = none ∧ Fr n0 L ∧ h = h0
set_option maxRecDepth 65536 in
set_option maxHeartbeats 40000000 in
theorem rm19 (l : Launch) (Z : State) (a0 : Array Value) (hw : ∀ d ∈ tables_1, d.before a0 Z = true) (ws : List Jvm.Cond) (a1 : Addr) (a2 : Addr) (ya_ : Int32) (h0 : Heap) (n0 : Nat) (Z0 : n0 ≤ h0.size) (hcs : ¬ (ya_ = (0 : Int32))) (yf_ : Sta Z h0 "java/lang/String" "COMPACT_STRINGS" "Z" (.int ya_)) (yac_ : Fld Z h0 a1 "java/lang/AbstractStringBuilder" "coder" "B" (.int (0 : Int32))) (ybt_ : Fld Z h0 a2 "java/lang/String" "coder" "B" (.int (0 : Int32))) (E_a2 : Exa Z h0 a2 "java/lang/String") :
    MetFree l mN4 (head1 (Jvm.Cond.code mN4 jdk_68_method_71_code 2 none :: ws) ({ frames := 1, cells := 0, slots := 0, locals := 13 } : Room)) (fun a U => a = #[(.ref a1), (.ref a2)] ∧ Z.Warmed39 U.vm ∧ U.heap = h0) (fun _ _ _ _ _ => True) (fun _ U o U' => ∃ v L, o = .returned v ∧ Q_rm19 Z a1 a2 ya_ h0 n0 v U'.heap L ∧ FrameEnd U o U' L ({ frames := 1, cells := 0, slots := 0, locals := 13 } : Room).cells ({ frames := 1, cells := 0, slots := 0, locals := 13 } : Room).slots) := by
  have hi : ∀ (i : Nat) {d : Jvm.Cond}, tables_1[i]? = some d → d.before a0 Z = true := fun i d h => hw d (List.mem_of_getElem? h)
  refine MetFree.of_bodySF (plainFor_of_name pn_19) hisR ?_
  intro p e s m args below meth c s₁ Bd hml0 hP hK
  obtain ⟨rfl, hZ, hh⟩ := hP
  have hx := Bd.exec
  have hby := Bd.bytes
  have hml : c.maxLocals = 2 := hml0
  have hown : s.vm.findClass "java/lang/AbstractStringBuilder" = some m.cls := findClass_of_methodNamed Bd.named
  have hnm := (name_of_methodNamed Bd.named Bd.method).1
  have X0 : Stand p l e ({ frames := 1, cells := 0, slots := 0, locals := 13 } : Room) s m #[(.ref a1), (.ref a2)] below meth c s₁ [] 0 0 := Stand.of_body Bd
  have e0 : s₁.heap = h0 := by rw [← hh, Bd.state]; rfl
  have N0 := Fr.nil n0
  obtain ⟨T3, X3, e3, st3⟩ := getS2 X0 hx hZ hown (host := "") (Or.inl (hi 62 rfl)) Via.refl e0 yf_ (g := (mkF m 0 #[vA a1, vA a2] [])) rfl (hb hby d19_0)
  obtain ⟨T4, X4, e4, st4⟩ := getF X3 hx hZ hown (host := "") (Or.inl (hi 65 rfl)) Via.refl e3 yac_ (g := (mkF m 7 #[vA a1, vA a2] [(.ref a1)])) rfl rfl (hb hby d19_7)
  obtain ⟨cq5, kq5, q5a, q5b, q5c⟩ := isOf hZ e4 E_a2
  obtain ⟨_, _, ⟨T5, L5, k5, n5⟩, -, X5, ⟨Lc5, hQ5, l5, y5, z5⟩, st5⟩ := X4.virtualBack hx (y := mN18) (z := mN18) hown (mvT hZ (hi 159 rfl)) (mvT hZ (hi 136 rfl)) (notFace_of_selects (args := #[]) (mvT hZ (hi 138 rfl))) (mvT hZ (hi 138 rfl)) (mvT hZ (hi 137 rfl)) (by decide) (backOf (W := 1) (rm16 l Z a0 hw [] a2 ya_ (0 : Int32) h0 n0 Z0 hcs yf_ ybt_) hZ (hi 139 rfl) (hi 4 rfl) (by decide) (by decide)) q5a q5c (g := (mkF m 11 #[vA a1, vA a2] [(.ref a2), (.int (0 : Int32))])) rfl (by rw [hml]; rfl) (Steps.refl _) (argsL := []) (rest := [(.int (0 : Int32))]) (lenOf ykq_ rfl) rfl (by show 2 * 0 + _ ≤ _; exact Nat.le_of_eq rfl) (hb hby d19_11) (fun _ _ => ⟨rfl, e4, (by decide : 0 + 0 ≤ _), (by decide : 0 + 0 ≤ _)⟩)
  dsimp only [Pt.U, Pt.locs, Pt.cells, Pt.slots] at X5 l5 y5 z5 st5 hQ5
  subst l5 y5 z5
  obtain ⟨rfl, N5q, e5⟩ := hQ5
  have N5 := Fr.app N0 N5q
  obtain ⟨fs, hr, hrun, hended, hW, hsame⟩ := X5.leave (v := none) (fun _ => rfl)
  refine ⟨_, _, castTop (ef_19 m a1 a2) ?_, hrun, hended, _, _, rfl, ?_, ⟨_, rfl⟩, hW, hsame.mono (by decide) (by decide)⟩
  · show Steps p.tables e below (s₁.setTop (mkF m 0 #[vA a1, vA a2] [])) _
    refine st3 _ ?_
    refine XS.ifNo X3.here hx rfl (hb hby d19_3) rfl ((if0 _ _).trans (feq (show ¬ (ya_ = (0 : Int32)) from hcs)).1) ?_
    refine XS.aloadN X3.here hx rfl (hb hby d19_6) rfl rfl ?_
    refine st4 _ ?_
    refine XS.aloadN X4.here hx rfl (hb hby d19_10) rfl rfl ?_
    refine st5.trans ?_
    refine XS.icmpYes X5.here hx rfl (pc0 := 14) (pc' := 21) rfl (hb hby d19_14) rfl (teq (rfl : (0 : Int32) = (0 : Int32))).1 (by decide) (by decide) ?_
    show Steps p.tables e below (T5.setTop (mkF m 21 #[vA a1, vA a2] [])) _
    exact X5.returnOut hx Bd.returns (hb hby d19_21) hr
  · show Q_rm19 Z a1 a2 ya_ h0 n0 _ T5.heap _
    exact ⟨rfl, N5, e5⟩
def own_cp (vs vd : List Value) (dv : Value) (sp dp nn : Int32) : List Value := vd.take dp.toNatClampNeg ++ ((List.range nn.toNatClampNeg).map fun i => vs.getD (sp.toNatClampNeg + i) dv) ++ vd.drop (dp.toNatClampNeg + nn.toNatClampNeg)
theorem d20_0 : decode jdk_42_method_147_code 0 = .ok (.aload_n 0, 1) := by decide +kernel
theorem d20_1 : decode jdk_42_method_147_code 1 = .ok (.invokevirtual 335, 3) := by decide +kernel
theorem d20_4 : decode jdk_42_method_147_code 4 = .ok (.iload_n 3, 1) := by decide +kernel
theorem d20_5 : decode jdk_42_method_147_code 5 = .ok (.if_icmp .ne 23, 3) := by decide +kernel
theorem d20_8 : decode jdk_42_method_147_code 8 = .ok (.aload_n 0, 1) := by decide +kernel
theorem d20_9 : decode jdk_42_method_147_code 9 = .ok (.getfield 9, 3) := by decide +kernel
theorem d20_12 : decode jdk_42_method_147_code 12 = .ok (.iconst 0, 1) := by decide +kernel
theorem d20_13 : decode jdk_42_method_147_code 13 = .ok (.aload_n 1, 1) := by decide +kernel
theorem d20_14 : decode jdk_42_method_147_code 14 = .ok (.iload_n 2, 1) := by decide +kernel
theorem d20_15 : decode jdk_42_method_147_code 15 = .ok (.iload_n 3, 1) := by decide +kernel
theorem d20_16 : decode jdk_42_method_147_code 16 = .ok (.ishl, 1) := by decide +kernel
theorem d20_17 : decode jdk_42_method_147_code 17 = .ok (.aload_n 0, 1) := by decide +kernel
theorem d20_18 : decode jdk_42_method_147_code 18 = .ok (.getfield 9, 3) := by decide +kernel
theorem d20_21 : decode jdk_42_method_147_code 21 = .ok (.arraylength, 1) := by decide +kernel
theorem d20_22 : decode jdk_42_method_147_code 22 = .ok (.invokestatic 212, 3) := by decide +kernel
theorem d20_25 : decode jdk_42_method_147_code 25 = .ok (.goto 18, 3) := by decide +kernel
theorem d20_43 : decode jdk_42_method_147_code 43 = .ok (.return_, 1) := by decide +kernel
theorem pn_20 : plainName "java/lang/String" = true := by first | (simp [plainName, overriddenIn]; done) | decide +kernel
theorem ef_20 (m : MethodId) (x0 : Addr) (x1 : Addr) (x2 : Int32) (x3 : Int32) : entryFrame m #[(.ref x0), (.ref x1), (.int x2), (.int x3)] 4 = mkF m 0 #[.val (.ref x0), .val (.ref x1), .val (.int x2), .val (.int x3)] [] := by first | (simp [entryFrame, mkF, argsToLocals, Value.category]; done) | rfl
def Q_rm20 (Z : State) (a1 : Addr) (a2 : Addr) (p3 : Int32) (ya_ : Int32) (yc_ : Addr) (yn_ : ClassId) (yd_ : Int32) (ye_ : List Value) (k_a2 : ClassId) (z_a2 : Int32) (vs_a2 : List Value) (h0 : Heap) (n0 : Nat) (v : Option Value) (h : Heap) (L : List Loc) : Prop := v = none ∧ Fr n0 L ∧ Keep h0 h [a2] ∧ Arv Z h a2 k_a2 .byte z_a2 (own_cp ye_ vs_a2 (.int (0 : Int32)) (0 : Int32) (p3 <<< ((0 : Int32) &&& 31)) yd_) (.int (0 : Int32))
set_option maxRecDepth 65536 in
set_option maxHeartbeats 40000000 in
theorem rm20 (l : Launch) (Z : State) (a0 : Array Value) (hw : ∀ d ∈ tables_1, d.before a0 Z = true) (ws : List Jvm.Cond) (a1 : Addr) (a2 : Addr) (p3 : Int32) (ya_ : Int32) (yc_ : Addr) (yn_ : ClassId) (yd_ : Int32) (ye_ : List Value) (k_a2 : ClassId) (z_a2 : Int32) (vs_a2 : List Value) (h0 : Heap) (n0 : Nat) (Z0 : n0 ≤ h0.size) (hcs : ¬ (ya_ = (0 : Int32))) (yf_ : Sta Z h0 "java/lang/String" "COMPACT_STRINGS" "Z" (.int ya_)) (yac_ : Fld Z h0 a1 "java/lang/String" "coder" "B" (.int (0 : Int32))) (E_a1 : Exa Z h0 a1 "java/lang/String") (yae_ : Fld Z h0 a1 "java/lang/String" "value" "[B" (.ref yc_)) (yam_ : Arv Z h0 yc_ yn_ .byte yd_ ye_ (.int (0 : Int32))) (V_a2 : Arv Z h0 a2 k_a2 .byte z_a2 vs_a2 (.int (0 : Int32))) (g_a2 : n0 ≤ a2) (hb22_2 : ¬ (p3 <<< ((0 : Int32) &&& 31)) < 0) (hb22_3 : ¬ yd_ < 0) (hb22_4 : ((0 : Int32)).toNatClampNeg + (yd_).toNatClampNeg ≤ (yd_).toNatClampNeg) (hb22_5 : ((p3 <<< ((0 : Int32) &&& 31))).toNatClampNeg + (yd_).toNatClampNeg ≤ (z_a2).toNatClampNeg) (hl22 : ((p3 <<< ((0 : Int32) &&& 31))).toNatClampNeg + (yd_).toNatClampNeg ≤ (vs_a2).length) :
    MetFree l mN19 (head1 (Jvm.Cond.code mN19 jdk_42_method_147_code 4 none :: ws) ({ frames := 1, cells := 0, slots := 0, locals := 18 } : Room)) (fun a U => a = #[(.ref a1), (.ref a2), (.int p3), (.int (0 : Int32))] ∧ Z.Warmed39 U.vm ∧ U.heap = h0) (fun _ _ _ _ _ => True) (fun _ U o U' => ∃ v L, o = .returned v ∧ Q_rm20 Z a1 a2 p3 ya_ yc_ yn_ yd_ ye_ k_a2 z_a2 vs_a2 h0 n0 v U'.heap L ∧ FrameEnd U o U' L ({ frames := 1, cells := 0, slots := 0, locals := 18 } : Room).cells ({ frames := 1, cells := 0, slots := 0, locals := 18 } : Room).slots) := by
  have hi : ∀ (i : Nat) {d : Jvm.Cond}, tables_1[i]? = some d → d.before a0 Z = true := fun i d h => hw d (List.mem_of_getElem? h)
  refine MetFree.of_bodySF (plainFor_of_name pn_20) hisR ?_
  intro p e s m args below meth c s₁ Bd hml0 hP hK
  obtain ⟨rfl, hZ, hh⟩ := hP
  have hx := Bd.exec
  have hby := Bd.bytes
  have hml : c.maxLocals = 4 := hml0
  have hown : s.vm.findClass "java/lang/String" = some m.cls := findClass_of_methodNamed Bd.named
  have hnm := (name_of_methodNamed Bd.named Bd.method).1
  have X0 : Stand p l e ({ frames := 1, cells := 0, slots := 0, locals := 18 } : Room) s m #[(.ref a1), (.ref a2), (.int p3), (.int (0 : Int32))] below meth c s₁ [] 0 0 := Stand.of_body Bd
  have e0 : s₁.heap = h0 := by rw [← hh, Bd.state]; rfl
  have N0 := Fr.nil n0
  obtain ⟨cq4, kq4, q4a, q4b, q4c⟩ := isOf hZ e0 E_a1
  obtain ⟨_, _, ⟨T4, L4, k4, n4⟩, -, X4, ⟨Lc4, hQ4, l4, y4, z4⟩, st4⟩ := X0.virtualBack hx (y := mN18) (z := mN18) hown (mvT hZ (hi 135 rfl)) (mvT hZ (hi 136 rfl)) (notFace_of_selects (args := #[]) (mvT hZ (hi 138 rfl))) (mvT hZ (hi 138 rfl)) (mvT hZ (hi 137 rfl)) (by decide) (backOf (W := 0) (rm16 l Z a0 hw [] a1 ya_ (0 : Int32) h0 n0 Z0 hcs yf_ yac_) hZ (hi 139 rfl) (hi 4 rfl) (by decide) (by decide)) q4a q4c (g := (mkF m 1 #[vA a1, vA a2, vI p3, vI (0 : Int32)] [(.ref a1)])) rfl (by rw [hml]; rfl) (Steps.refl _) (argsL := []) (rest := []) (lenOf ykq_ rfl) rfl (by show 2 * 0 + _ ≤ _; exact Nat.le_of_eq rfl) (hb hby d20_1) (fun _ _ => ⟨rfl, e0, (by decide : 0 + 0 ≤ _), (by decide : 0 + 0 ≤ _)⟩)
  dsimp only [Pt.U, Pt.locs, Pt.cells, Pt.slots] at X4 l4 y4 z4 st4 hQ4
  subst l4 y4 z4
  obtain ⟨rfl, N4q, e4⟩ := hQ4
  have N4 := Fr.app N0 N4q
  obtain ⟨T5, X5, e5, st5⟩ := getF X4 hx hZ hown (host := "") (Or.inl (hi 134 rfl)) Via.refl e4 yae_ (g := (mkF m 9 #[vA a1, vA a2, vI p3, vI (0 : Int32)] [(.ref a1)])) rfl rfl (hb hby d20_9)
  obtain ⟨T6, X6, e6, st6⟩ := getF X5 hx hZ hown (host := "") (Or.inl (hi 134 rfl)) Via.refl e5 yae_ (g := (mkF m 18 #[vA a1, vA a2, vI p3, vI (0 : Int32)] [(.ref a1), (.int (p3 <<< ((0 : Int32) &&& 31))), (.ref a2), (.int (0 : Int32)), (.ref yc_)])) rfl rfl (hb hby d20_18)
  obtain ⟨ygj_, ybz_, ygx_, yde_, ydf_, ygk_, ygl_⟩ := id yam_
  obtain ⟨T7, h7, L7, X7, e7, N7, K7, V7, st7⟩ := cpA X6 hx hZ hown (hi 165 rfl) (hi 168 rfl) (hi 166 rfl) (hi 167 rfl) e6 yam_ V_a2 (Or.inl ⟨rfl, rfl⟩) (sp := (0 : Int32)) (dp := (p3 <<< ((0 : Int32) &&& 31))) (nn := yd_) (by decide) hb22_2 hb22_3 hb22_4 hb22_5 rfl hl22 N4 g_a2 (g := (mkF m 22 #[vA a1, vA a2, vI p3, vI (0 : Int32)] [(.int yd_), (.int (p3 <<< ((0 : Int32) &&& 31))), (.ref a2), (.int (0 : Int32)), (.ref yc_)])) rfl (by rw [hml]; rfl) (rest := []) rfl (hb hby d20_22) (by decide) (W := 0) (by show 2 * 0 + _ ≤ _; exact Nat.le_of_eq rfl) (by decide)
  have U7 : Arv Z h7 a2 k_a2 .byte z_a2 (own_cp ye_ vs_a2 (.int (0 : Int32)) (0 : Int32) (p3 <<< ((0 : Int32) &&& 31)) yd_) (.int (0 : Int32)) := V7
  obtain ⟨fs, hr, hrun, hended, hW, hsame⟩ := X7.leave (v := none) (fun _ => rfl)
  refine ⟨_, _, castTop (ef_20 m a1 a2 p3 (0 : Int32)) ?_, hrun, hended, _, _, rfl, ?_, ⟨_, rfl⟩, hW, hsame.mono (by decide) (by decide)⟩
  · show Steps p.tables e below (s₁.setTop (mkF m 0 #[vA a1, vA a2, vI p3, vI (0 : Int32)] [])) _
    refine XS.aloadN X0.here hx rfl (hb hby d20_0) rfl rfl ?_
    refine st4.trans ?_
    refine XS.iloadN X4.here hx rfl (hb hby d20_4) rfl ?_
    refine XS.icmpNo X4.here hx rfl (hb hby d20_5) rfl (teq (rfl : (0 : Int32) = (0 : Int32))).2 ?_
    refine XS.aloadN X4.here hx rfl (hb hby d20_8) rfl rfl ?_
    refine st5 _ ?_
    refine XS.iconst X5.here hx rfl (hb hby d20_12) ?_
    refine XS.aloadN X5.here hx rfl (hb hby d20_13) rfl rfl ?_
    refine XS.iloadN X5.here hx rfl (hb hby d20_14) rfl ?_
    refine XS.iloadN X5.here hx rfl (hb hby d20_15) rfl ?_
    refine XS.ishl X5.here hx rfl (hb hby d20_16) rfl ?_
    refine XS.aloadN X5.here hx rfl (hb hby d20_17) rfl rfl ?_
    refine st6 _ ?_
    refine X6.arraylength hx (by rw [e6]; exact ybz_.1) (State.isArrayOf_alike hZ.alike ybz_.2.1) (g := (mkF m 21 #[vA a1, vA a2, vI p3, vI (0 : Int32)] [(.ref yc_), (.int (p3 <<< ((0 : Int32) &&& 31))), (.ref a2), (.int (0 : Int32)), (.ref yc_)])) rfl rfl (hb hby d20_21) _ ?_
    rw [len_of yde_ ydf_]
    refine st7 _ ?_
    refine XS.goto X7.here hx rfl (pc0 := 25) (pc' := 43) rfl (hb hby d20_25) (by decide) (by decide) ?_
    show Steps p.tables e below (T7.setTop (mkF m 43 #[vA a1, vA a2, vI p3, vI (0 : Int32)] [])) _
    exact X7.returnOut hx Bd.returns (hb hby d20_43) hr
  · show Q_rm20 Z a1 a2 p3 ya_ yc_ yn_ yd_ ye_ k_a2 z_a2 vs_a2 h0 n0 _ T7.heap _
    rw [e7]
    exact ⟨rfl, N7, ((Keep.refl h0 [a2]).trans K7 (fun x q => (List.mem_cons.mp q).elim (fun r => by subst r; exact (Or.inl (List.mem_of_getElem? (i := 0) rfl))) (fun q => nomatch q))), U7⟩
theorem ygz_ : parseMethodDescriptor "(Ljava/lang/String;)V" = some ⟨[(.object "java/lang/String")], none⟩ := by decide +kernel
theorem own_selself {s : State} {args : Array Value} {C : String} {y : MethodName} (h : (Cond.selects C y y).before args s = true) (hpriv : s.PrivateAt y) (hinst : (Cond.instanceMethod y).before args s = true) (hy : y.cls ≠ "java/lang/invoke/MethodHandle" ∧ y.cls ≠ "java/lang/invoke/VarHandle") : (Cond.selects y.cls y y).before args s = true := by
  obtain ⟨c, r, m, -, -, h3, -, mk, h5, h6⟩ := Cond.selects_spec h
  exact selects_self_of_private (findClass_of_methodNamed h3) h5 h6 hpriv hinst hy
theorem ynb_ : parseMethodDescriptor "([BIB)V" = some ⟨[(.array .byte), .int, .byte], none⟩ := by decide +kernel
theorem d18_0 : decode jdk_68_method_73_code 0 = .ok (.aload_n 0, 1) := by decide +kernel
theorem d18_1 : decode jdk_68_method_73_code 1 = .ok (.aload_n 2, 1) := by decide +kernel
theorem d18_2 : decode jdk_68_method_73_code 2 = .ok (.invokevirtual 397, 3) := by decide +kernel
theorem d18_5 : decode jdk_68_method_73_code 5 = .ok (.aload_n 2, 1) := by decide +kernel
theorem d18_6 : decode jdk_68_method_73_code 6 = .ok (.aload_n 0, 1) := by decide +kernel
theorem d18_7 : decode jdk_68_method_73_code 7 = .ok (.getfield 15, 3) := by decide +kernel
theorem d18_10 : decode jdk_68_method_73_code 10 = .ok (.iload_n 1, 1) := by decide +kernel
theorem d18_11 : decode jdk_68_method_73_code 11 = .ok (.aload_n 0, 1) := by decide +kernel
theorem d18_12 : decode jdk_68_method_73_code 12 = .ok (.getfield 22, 3) := by decide +kernel
theorem d18_15 : decode jdk_68_method_73_code 15 = .ok (.invokevirtual 399, 3) := by decide +kernel
theorem d18_18 : decode jdk_68_method_73_code 18 = .ok (.return_, 1) := by decide +kernel
theorem pn_18 : plainName "java/lang/AbstractStringBuilder" = true := by first | (simp [plainName, overriddenIn]; done) | decide +kernel
theorem ef_18 (m : MethodId) (x0 : Addr) (x1 : Int32) (x2 : Addr) : entryFrame m #[(.ref x0), (.int x1), (.ref x2)] 3 = mkF m 0 #[.val (.ref x0), .val (.int x1), .val (.ref x2)] [] := by first | (simp [entryFrame, mkF, argsToLocals, Value.category]; done) | rfl
def Q_rm18 (Z : State) (a1 : Addr) (p2 : Int32) (a3 : Addr) (ya_ : Int32) (yc_ : Addr) (yar_ : Addr) (yao_ : ClassId) (ybi_ : Int32) (yv_ : List Value) (yn_ : ClassId) (yd_ : Int32) (ye_ : List Value) (h0 : Heap) (n0 : Nat) (v : Option Value) (h : Heap) (L : List Loc) : Prop := v = none ∧ Fr n0 L ∧ Keep h0 h [yc_] ∧ Arv Z h yc_ yn_ .byte yd_ (own_cp yv_ ye_ (.int (0 : Int32)) (0 : Int32) (p2 <<< ((0 : Int32) &&& 31)) ybi_) (.int (0 : Int32))
set_option maxRecDepth 65536 in
set_option maxHeartbeats 40000000 in
theorem rm18 (l : Launch) (Z : State) (a0 : Array Value) (hw : ∀ d ∈ tables_1, d.before a0 Z = true) (ws : List Jvm.Cond) (a1 : Addr) (p2 : Int32) (a3 : Addr) (ya_ : Int32) (yc_ : Addr) (yar_ : Addr) (yao_ : ClassId) (ybi_ : Int32) (yv_ : List Value) (yn_ : ClassId) (yd_ : Int32) (ye_ : List Value) (h0 : Heap) (n0 : Nat) (Z0 : n0 ≤ h0.size) (hcs : ¬ (ya_ = (0 : Int32))) (yf_ : Sta Z h0 "java/lang/String" "COMPACT_STRINGS" "Z" (.int ya_)) (yac_ : Fld Z h0 a1 "java/lang/AbstractStringBuilder" "coder" "B" (.int (0 : Int32))) (ybe_ : Fld Z h0 a3 "java/lang/String" "coder" "B" (.int (0 : Int32))) (E_a3 : Exa Z h0 a3 "java/lang/String") (E_a1 : Exa Z h0 a1 "java/lang/StringBuilder") (yae_ : Fld Z h0 a1 "java/lang/AbstractStringBuilder" "value" "[B" (.ref yc_)) (ybg_ : Fld Z h0 a3 "java/lang/String" "value" "[B" (.ref yar_)) (yaz_ : Arv Z h0 yar_ yao_ .byte ybi_ yv_ (.int (0 : Int32))) (yam_ : Arv Z h0 yc_ yn_ .byte yd_ ye_ (.int (0 : Int32))) (ygu_ : n0 ≤ yc_) (ypt_ : ¬ (p2 <<< ((0 : Int32) &&& 31)) < 0) (ypu_ : ¬ ybi_ < 0) (ypv_ : ((0 : Int32)).toNatClampNeg + (ybi_).toNatClampNeg ≤ (ybi_).toNatClampNeg) (ypw_ : ((p2 <<< ((0 : Int32) &&& 31))).toNatClampNeg + (ybi_).toNatClampNeg ≤ (yd_).toNatClampNeg) (yqq_ : ((p2 <<< ((0 : Int32) &&& 31))).toNatClampNeg + (ybi_).toNatClampNeg ≤ (ye_).length) :
    MetFree l mN8 (head1 (Jvm.Cond.code mN8 jdk_68_method_73_code 3 none :: ws) ({ frames := 2, cells := 0, slots := 0, locals := 33 } : Room)) (fun a U => a = #[(.ref a1), (.int p2), (.ref a3)] ∧ Z.Warmed39 U.vm ∧ U.heap = h0) (fun _ _ _ _ _ => True) (fun _ U o U' => ∃ v L, o = .returned v ∧ Q_rm18 Z a1 p2 a3 ya_ yc_ yar_ yao_ ybi_ yv_ yn_ yd_ ye_ h0 n0 v U'.heap L ∧ FrameEnd U o U' L ({ frames := 2, cells := 0, slots := 0, locals := 33 } : Room).cells ({ frames := 2, cells := 0, slots := 0, locals := 33 } : Room).slots) := by
  have hi : ∀ (i : Nat) {d : Jvm.Cond}, tables_1[i]? = some d → d.before a0 Z = true := fun i d h => hw d (List.mem_of_getElem? h)
  refine MetFree.of_bodySF (plainFor_of_name pn_18) hisR ?_
  intro p e s m args below meth c s₁ Bd hml0 hP hK
  obtain ⟨rfl, hZ, hh⟩ := hP
  have hx := Bd.exec
  have hby := Bd.bytes
  have hml : c.maxLocals = 3 := hml0
  have hown : s.vm.findClass "java/lang/AbstractStringBuilder" = some m.cls := findClass_of_methodNamed Bd.named
  have hnm := (name_of_methodNamed Bd.named Bd.method).1
  have X0 : Stand p l e ({ frames := 2, cells := 0, slots := 0, locals := 33 } : Room) s m #[(.ref a1), (.int p2), (.ref a3)] below meth c s₁ [] 0 0 := Stand.of_body Bd
  have e0 : s₁.heap = h0 := by rw [← hh, Bd.state]; rfl
  have N0 := Fr.nil n0
  obtain ⟨cq4, q4, q4'⟩ := E_a1.cell
  obtain ⟨_, _, ⟨T4, L4, k4, n4⟩, -, X4, ⟨Lc4, hQ4, l4, y4, z4⟩, st4⟩ := X0.privateBack hx (y := mN4) hown (mvT hZ (hi 154 rfl)) (mvT hZ (hi 155 rfl)) (own_selself (mvT hZ (hi 157 rfl)) (Cond.privateMethod_at (mvP hZ (hi 156 rfl) (args := #[]))) (mvT hZ (hi 155 rfl)) (by decide)) (Cond.privateMethod_at (mvP hZ (hi 156 rfl) (args := #[]))) (mvT hZ (hi 158 rfl)) (by decide) (backOf (W := 0) (rm19 l Z a0 hw [] a1 a3 ya_ h0 n0 Z0 hcs yf_ yac_ ybe_ E_a3) hZ (hi 158 rfl) (hi 59 rfl) (by decide) (by decide)) (g := (mkF m 2 #[vA a1, vI p2, vA a3] [(.ref a3), (.ref a1)])) rfl (by rw [hml]; rfl) (Steps.refl _) (a := a1) (by rw [e0]; exact q4) q4' (argsL := [(.ref a3)]) (rest := []) (lenOf ygz_ rfl) rfl (by show 2 * 0 + _ ≤ _; exact Nat.le_of_eq rfl) (hb hby d18_2) (fun _ _ => ⟨rfl, e0, (by decide : 0 + 0 ≤ _), (by decide : 0 + 0 ≤ _)⟩)
  dsimp only [Pt.U, Pt.locs, Pt.cells, Pt.slots] at X4 l4 y4 z4 st4 hQ4
  subst l4 y4 z4
  obtain ⟨rfl, N4q, e4⟩ := hQ4
  have N4 := Fr.app N0 N4q
  obtain ⟨T5, X5, e5, st5⟩ := getF X4 hx hZ hown (host := "") (Or.inl (hi 63 rfl)) Via.refl e4 yae_ (g := (mkF m 7 #[vA a1, vI p2, vA a3] [(.ref a1), (.ref a3)])) rfl rfl (hb hby d18_7)
  obtain ⟨T6, X6, e6, st6⟩ := getF X5 hx hZ hown (host := "") (Or.inl (hi 65 rfl)) Via.refl e5 yac_ (g := (mkF m 12 #[vA a1, vI p2, vA a3] [(.ref a1), (.int p2), (.ref yc_), (.ref a3)])) rfl rfl (hb hby d18_12)
  obtain ⟨cq7, kq7, q7a, q7b, q7c⟩ := isOf hZ e6 E_a3
  obtain ⟨_, _, ⟨T7, L7, k7, n7⟩, -, X7, ⟨Lc7, hQ7, l7, y7, z7⟩, st7⟩ := X6.virtualBack hx (y := mN19) (z := mN19) hown (mvT hZ (hi 160 rfl)) (mvT hZ (hi 161 rfl)) (notFace_of_selects (args := #[]) (mvT hZ (hi 163 rfl))) (mvT hZ (hi 163 rfl)) (mvT hZ (hi 162 rfl)) (by decide) (backOf (W := 0) (rm20 l Z a0 hw [] a3 yc_ p2 ya_ yar_ yao_ ybi_ yv_ yn_ yd_ ye_ h0 n0 Z0 hcs yf_ ybe_ E_a3 ybg_ yaz_ yam_ ygu_ ypt_ ypu_ ypv_ ypw_ yqq_) hZ (hi 164 rfl) (hi 4 rfl) (by decide) (by decide)) q7a q7c (g := (mkF m 15 #[vA a1, vI p2, vA a3] [(.int (0 : Int32)), (.int p2), (.ref yc_), (.ref a3)])) rfl (by rw [hml]; rfl) (Steps.refl _) (argsL := [(.ref yc_), (.int p2), (.int (0 : Int32))]) (rest := []) (lenOf ynb_ rfl) rfl (by show 2 * 0 + _ ≤ _; exact Nat.le_of_eq rfl) (hb hby d18_15) (fun _ _ => ⟨rfl, e6, (by decide : 0 + 0 ≤ _), (by decide : 0 + 0 ≤ _)⟩)
  dsimp only [Pt.U, Pt.locs, Pt.cells, Pt.slots] at X7 l7 y7 z7 st7 hQ7
  subst l7 y7 z7
  obtain ⟨rfl, N7q, K7, i7_0⟩ := hQ7
  have N7 := Fr.app N4 N7q
  obtain ⟨fs, hr, hrun, hended, hW, hsame⟩ := X7.leave (v := none) (fun _ => rfl)
  refine ⟨_, _, castTop (ef_18 m a1 p2 a3) ?_, hrun, hended, _, _, rfl, ?_, ⟨_, rfl⟩, hW, hsame.mono (by decide) (by decide)⟩
  · show Steps p.tables e below (s₁.setTop (mkF m 0 #[vA a1, vI p2, vA a3] [])) _
    refine XS.aloadN X0.here hx rfl (hb hby d18_0) rfl rfl ?_
    refine XS.aloadN X0.here hx rfl (hb hby d18_1) rfl rfl ?_
    refine st4.trans ?_
    refine XS.aloadN X4.here hx rfl (hb hby d18_5) rfl rfl ?_
    refine XS.aloadN X4.here hx rfl (hb hby d18_6) rfl rfl ?_
    refine st5 _ ?_
    refine XS.iloadN X5.here hx rfl (hb hby d18_10) rfl ?_
    refine XS.aloadN X5.here hx rfl (hb hby d18_11) rfl rfl ?_
    refine st6 _ ?_
    refine st7.trans ?_
    show Steps p.tables e below (T7.setTop (mkF m 18 #[vA a1, vI p2, vA a3] [])) _
    exact X7.returnOut hx Bd.returns (hb hby d18_18) hr
  · show Q_rm18 Z a1 p2 a3 ya_ yc_ yar_ yao_ ybi_ yv_ yn_ yd_ ye_ h0 n0 _ T7.heap _
    exact ⟨rfl, N7, ((Keep.refl h0 [yc_]).trans K7 (fun x q => (List.mem_cons.mp q).elim (fun r => by subst r; exact (Or.inl (List.mem_of_getElem? (i := 0) rfl))) (fun q => nomatch q))), i7_0⟩
theorem d17_0 : decode jdk_68_method_9_code 0 = .ok (.aload_n 0, 1) := by decide +kernel
theorem d17_1 : decode jdk_68_method_9_code 1 = .ok (.getfield 15, 3) := by decide +kernel
theorem d17_4 : decode jdk_68_method_9_code 4 = .ok (.arraylength, 1) := by decide +kernel
theorem d17_5 : decode jdk_68_method_9_code 5 = .ok (.aload_n 0, 1) := by decide +kernel
theorem d17_6 : decode jdk_68_method_9_code 6 = .ok (.getfield 22, 3) := by decide +kernel
theorem d17_9 : decode jdk_68_method_9_code 9 = .ok (.ishr, 1) := by decide +kernel
theorem d17_10 : decode jdk_68_method_9_code 10 = .ok (.istore_n 2, 1) := by decide +kernel
theorem d17_11 : decode jdk_68_method_9_code 11 = .ok (.iload_n 1, 1) := by decide +kernel
theorem d17_12 : decode jdk_68_method_9_code 12 = .ok (.iload_n 2, 1) := by decide +kernel
theorem d17_13 : decode jdk_68_method_9_code 13 = .ok (.isub, 1) := by decide +kernel
theorem d17_14 : decode jdk_68_method_9_code 14 = .ok (.ifCond .le 24, 3) := by decide +kernel
theorem d17_38 : decode jdk_68_method_9_code 38 = .ok (.return_, 1) := by decide +kernel
theorem pn_17 : plainName "java/lang/AbstractStringBuilder" = true := by first | (simp [plainName, overriddenIn]; done) | decide +kernel
theorem ef_17 (m : MethodId) (x0 : Addr) (x1 : Int32) : entryFrame m #[(.ref x0), (.int x1)] 3 = mkF m 0 #[.val (.ref x0), .val (.int x1), .unset] [] := by first | (simp [entryFrame, mkF, argsToLocals, Value.category]; done) | rfl
def Q_rm17 (Z : State) (a1 : Addr) (p2 : Int32) (yc_ : Addr) (yn_ : ClassId) (yd_ : Int32) (ye_ : List Value) (h0 : Heap) (n0 : Nat) (v : Option Value) (h : Heap) (L : List Loc) : Prop := v = none ∧ Fr n0 L ∧ h = h0
set_option maxRecDepth 65536 in
set_option maxHeartbeats 40000000 in
theorem rm17 (l : Launch) (Z : State) (a0 : Array Value) (hw : ∀ d ∈ tables_1, d.before a0 Z = true) (ws : List Jvm.Cond) (a1 : Addr) (p2 : Int32) (yc_ : Addr) (yn_ : ClassId) (yd_ : Int32) (ye_ : List Value) (h0 : Heap) (n0 : Nat) (Z0 : n0 ≤ h0.size) (hcs : ¬ (ya_ = (0 : Int32))) (yae_ : Fld Z h0 a1 "java/lang/AbstractStringBuilder" "value" "[B" (.ref yc_)) (yam_ : Arv Z h0 yc_ yn_ .byte yd_ ye_ (.int (0 : Int32))) (yac_ : Fld Z h0 a1 "java/lang/AbstractStringBuilder" "coder" "B" (.int (0 : Int32))) (hc14 : ¬ ((0 : Int32) < (p2 - (yd_ >>> ((0 : Int32) &&& 31))))) :
    MetFree l mN2 (head1 (Jvm.Cond.code mN2 jdk_68_method_9_code 3 none :: ws) ({ frames := 0, cells := 0, slots := 0, locals := 0 } : Room)) (fun a U => a = #[(.ref a1), (.int p2)] ∧ Z.Warmed39 U.vm ∧ U.heap = h0) (fun _ _ _ _ _ => True) (fun _ U o U' => ∃ v L, o = .returned v ∧ Q_rm17 Z a1 p2 yc_ yn_ yd_ ye_ h0 n0 v U'.heap L ∧ FrameEnd U o U' L ({ frames := 0, cells := 0, slots := 0, locals := 0 } : Room).cells ({ frames := 0, cells := 0, slots := 0, locals := 0 } : Room).slots) := by
  have hi : ∀ (i : Nat) {d : Jvm.Cond}, tables_1[i]? = some d → d.before a0 Z = true := fun i d h => hw d (List.mem_of_getElem? h)
  refine MetFree.of_bodySF (plainFor_of_name pn_17) hisR ?_
  intro p e s m args below meth c s₁ Bd hml0 hP hK
  obtain ⟨rfl, hZ, hh⟩ := hP
  have hx := Bd.exec
  have hby := Bd.bytes
  have hml : c.maxLocals = 3 := hml0
  have hown : s.vm.findClass "java/lang/AbstractStringBuilder" = some m.cls := findClass_of_methodNamed Bd.named
  have hnm := (name_of_methodNamed Bd.named Bd.method).1
  have X0 : Stand p l e ({ frames := 0, cells := 0, slots := 0, locals := 0 } : Room) s m #[(.ref a1), (.int p2)] below meth c s₁ [] 0 0 := Stand.of_body Bd
  have e0 : s₁.heap = h0 := by rw [← hh, Bd.state]; rfl
  have N0 := Fr.nil n0
  obtain ⟨T3, X3, e3, st3⟩ := getF X0 hx hZ hown (host := "") (Or.inl (hi 63 rfl)) Via.refl e0 yae_ (g := (mkF m 1 #[vA a1, vI p2, vU] [(.ref a1)])) rfl rfl (hb hby d17_1)
  obtain ⟨ygj_, ybz_, ygx_, yde_, ydf_, ygk_, ygl_⟩ := id yam_
  obtain ⟨T4, X4, e4, st4⟩ := getF X3 hx hZ hown (host := "") (Or.inl (hi 65 rfl)) Via.refl e3 yac_ (g := (mkF m 6 #[vA a1, vI p2, vU] [(.ref a1), (.int yd_)])) rfl rfl (hb hby d17_6)
  obtain ⟨fs, hr, hrun, hended, hW, hsame⟩ := X4.leave (v := none) (fun _ => rfl)
  refine ⟨_, _, castTop (ef_17 m a1 p2) ?_, hrun, hended, _, _, rfl, ?_, ⟨_, rfl⟩, hW, hsame.mono (by decide) (by decide)⟩
  · show Steps p.tables e below (s₁.setTop (mkF m 0 #[vA a1, vI p2, vU] [])) _
    refine XS.aloadN X0.here hx rfl (hb hby d17_0) rfl rfl ?_
    refine st3 _ ?_
    refine X3.arraylength hx (by rw [e3]; exact ybz_.1) (State.isArrayOf_alike hZ.alike ybz_.2.1) (g := (mkF m 4 #[vA a1, vI p2, vU] [(.ref yc_)])) rfl rfl (hb hby d17_4) _ ?_
    rw [len_of yde_ ydf_]
    refine XS.aloadN X3.here hx rfl (hb hby d17_5) rfl rfl ?_
    refine st4 _ ?_
    refine XS.ishr X4.here hx rfl (hb hby d17_9) rfl ?_
    refine XS.istoreN X4.here hx rfl (hb hby d17_10) rfl (l' := #[vA a1, vI p2, vI (yd_ >>> ((0 : Int32) &&& 31))]) rfl ?_
    refine XS.iloadN X4.here hx rfl (hb hby d17_11) rfl ?_
    refine XS.iloadN X4.here hx rfl (hb hby d17_12) rfl ?_
    refine XS.isub X4.here hx rfl (hb hby d17_13) rfl ?_
    refine XS.ifYes X4.here hx rfl (pc0 := 14) (pc' := 38) rfl (hb hby d17_14) rfl ((if0 _ _).trans (flt hc14).2.2.2) (by decide) (by decide) ?_
    show Steps p.tables e below (T4.setTop (mkF m 38 #[vA a1, vI p2, vI (yd_ >>> ((0 : Int32) &&& 31))] [])) _
    exact X4.returnOut hx Bd.returns (hb hby d17_38) hr
  · show Q_rm17 Z a1 p2 yc_ yn_ yd_ ye_ h0 n0 _ T4.heap _
    exact ⟨rfl, N0, e4⟩
theorem ycf_ : parseMethodDescriptor "()I" = some ⟨[], some .int⟩ := by decide +kernel
theorem yed_ : parseMethodDescriptor "(ILjava/lang/String;)V" = some ⟨[.int, (.object "java/lang/String")], none⟩ := by decide +kernel
theorem d14_0 : decode jdk_68_method_22_code 0 = .ok (.aload_n 1, 1) := by decide +kernel
theorem d14_1 : decode jdk_68_method_22_code 1 = .ok (.ifnonnull 8, 3) := by decide +kernel
theorem d14_9 : decode jdk_68_method_22_code 9 = .ok (.aload_n 1, 1) := by decide +kernel
theorem d14_10 : decode jdk_68_method_22_code 10 = .ok (.invokevirtual 32, 3) := by decide +kernel
theorem d14_13 : decode jdk_68_method_22_code 13 = .ok (.istore_n 2, 1) := by decide +kernel
theorem d14_14 : decode jdk_68_method_22_code 14 = .ok (.aload_n 0, 1) := by decide +kernel
theorem d14_15 : decode jdk_68_method_22_code 15 = .ok (.aload_n 0, 1) := by decide +kernel
theorem d14_16 : decode jdk_68_method_22_code 16 = .ok (.getfield 79, 3) := by decide +kernel
theorem d14_19 : decode jdk_68_method_22_code 19 = .ok (.iload_n 2, 1) := by decide +kernel
theorem d14_20 : decode jdk_68_method_22_code 20 = .ok (.iadd, 1) := by decide +kernel
theorem d14_21 : decode jdk_68_method_22_code 21 = .ok (.invokevirtual 100, 3) := by decide +kernel
theorem d14_24 : decode jdk_68_method_22_code 24 = .ok (.aload_n 0, 1) := by decide +kernel
theorem d14_25 : decode jdk_68_method_22_code 25 = .ok (.aload_n 0, 1) := by decide +kernel
theorem d14_26 : decode jdk_68_method_22_code 26 = .ok (.getfield 79, 3) := by decide +kernel
theorem d14_29 : decode jdk_68_method_22_code 29 = .ok (.aload_n 1, 1) := by decide +kernel
theorem d14_30 : decode jdk_68_method_22_code 30 = .ok (.invokevirtual 208, 3) := by decide +kernel
theorem d14_33 : decode jdk_68_method_22_code 33 = .ok (.aload_n 0, 1) := by decide +kernel
theorem d14_34 : decode jdk_68_method_22_code 34 = .ok (.dup, 1) := by decide +kernel
theorem d14_35 : decode jdk_68_method_22_code 35 = .ok (.getfield 79, 3) := by decide +kernel
theorem d14_38 : decode jdk_68_method_22_code 38 = .ok (.iload_n 2, 1) := by decide +kernel
theorem d14_39 : decode jdk_68_method_22_code 39 = .ok (.iadd, 1) := by decide +kernel
theorem d14_40 : decode jdk_68_method_22_code 40 = .ok (.putfield 79, 3) := by decide +kernel
theorem d14_43 : decode jdk_68_method_22_code 43 = .ok (.aload_n 0, 1) := by decide +kernel
theorem d14_44 : decode jdk_68_method_22_code 44 = .ok (.areturn, 1) := by decide +kernel
theorem pn_14 : plainName "java/lang/AbstractStringBuilder" = true := by first | (simp [plainName, overriddenIn]; done) | decide +kernel
theorem ef_14 (m : MethodId) (x0 : Addr) (x1 : Addr) : entryFrame m #[(.ref x0), (.ref x1)] 3 = mkF m 0 #[.val (.ref x0), .val (.ref x1), .unset] [] := by first | (simp [entryFrame, mkF, argsToLocals, Value.category]; done) | rfl
def Q_rm14 (Z : State) (a1 : Addr) (a2 : Addr) (yc_ : Addr) (yz_ : Addr) (yak_ : ClassId) (yaf_ : Int32) (yad_ : List Value) (ya_ : Int32) (yag_ : Int32) (yn_ : ClassId) (yd_ : Int32) (ye_ : List Value) (h0 : Heap) (n0 : Nat) (v : Option Value) (h : Heap) (L : List Loc) : Prop := v = some (.ref a1) ∧ Fr n0 L ∧ Keep h0 h [yc_, a1] ∧ Arv Z h yc_ yn_ .byte yd_ (own_cp yad_ ye_ (.int (0 : Int32)) (0 : Int32) (yag_ <<< ((0 : Int32) &&& 31)) yaf_) (.int (0 : Int32)) ∧ Exa Z h a1 "java/lang/StringBuilder" ∧ Fld Z h a1 "java/lang/AbstractStringBuilder" "value" "[B" (.ref yc_) ∧ Fld Z h a1 "java/lang/AbstractStringBuilder" "coder" "B" (.int (0 : Int32)) ∧ Fld Z h a1 "java/lang/AbstractStringBuilder" "count" "I" (.int (yag_ + (yaf_ >>> ((0 : Int32) &&& 31))))
set_option maxRecDepth 65536 in
set_option maxHeartbeats 40000000 in
theorem rm14 (l : Launch) (Z : State) (a0 : Array Value) (hw : ∀ d ∈ tables_1, d.before a0 Z = true) (ws : List Jvm.Cond) (a1 : Addr) (a2 : Addr) (yc_ : Addr) (yz_ : Addr) (yak_ : ClassId) (yaf_ : Int32) (yad_ : List Value) (ya_ : Int32) (yag_ : Int32) (yn_ : ClassId) (yd_ : Int32) (ye_ : List Value) (h0 : Heap) (n0 : Nat) (Z0 : n0 ≤ h0.size) (hcs : ¬ (ya_ = (0 : Int32))) (yae_ : Fld Z h0 a1 "java/lang/AbstractStringBuilder" "value" "[B" (.ref yc_)) (yac_ : Fld Z h0 a1 "java/lang/AbstractStringBuilder" "coder" "B" (.int (0 : Int32))) (ycc_ : Fld Z h0 a2 "java/lang/String" "value" "[B" (.ref yz_)) (ybq_ : Arv Z h0 yz_ yak_ .byte yaf_ yad_ (.int (0 : Int32))) (yf_ : Sta Z h0 "java/lang/String" "COMPACT_STRINGS" "Z" (.int ya_)) (ybt_ : Fld Z h0 a2 "java/lang/String" "coder" "B" (.int (0 : Int32))) (E_a2 : Exa Z h0 a2 "java/lang/String") (ybp_ : Fld Z h0 a1 "java/lang/AbstractStringBuilder" "count" "I" (.int yag_)) (yam_ : Arv Z h0 yc_ yn_ .byte yd_ ye_ (.int (0 : Int32))) (E_a1 : Exa Z h0 a1 "java/lang/StringBuilder") (ygu_ : n0 ≤ yc_) (g_a1 : n0 ≤ a1) (yqr_ : ¬ ((0 : Int32) < ((yag_ + (yaf_ >>> ((0 : Int32) &&& 31))) - (yd_ >>> ((0 : Int32) &&& 31))))) (ynt_ : ¬ (yag_ <<< ((0 : Int32) &&& 31)) < 0) (ynu_ : ¬ yaf_ < 0) (ynv_ : ((0 : Int32)).toNatClampNeg + (yaf_).toNatClampNeg ≤ (yaf_).toNatClampNeg) (ynw_ : ((yag_ <<< ((0 : Int32) &&& 31))).toNatClampNeg + (yaf_).toNatClampNeg ≤ (yd_).toNatClampNeg) (yoy_ : ((yag_ <<< ((0 : Int32) &&& 31))).toNatClampNeg + (yaf_).toNatClampNeg ≤ (ye_).length) (yeq_ : a1 ≠ yc_) (yhc_ : yc_ ≠ a1) :
    MetFree l mN1 (head1 (Jvm.Cond.code mN1 jdk_68_method_22_code 3 (some (.object "java/lang/AbstractStringBuilder")) :: ws) ({ frames := 3, cells := 0, slots := 0, locals := 47 } : Room)) (fun a U => a = #[(.ref a1), (.ref a2)] ∧ Z.Warmed39 U.vm ∧ U.heap = h0) (fun _ _ _ _ _ => True) (fun _ U o U' => ∃ v L, o = .returned v ∧ Q_rm14 Z a1 a2 yc_ yz_ yak_ yaf_ yad_ ya_ yag_ yn_ yd_ ye_ h0 n0 v U'.heap L ∧ FrameEnd U o U' L ({ frames := 3, cells := 0, slots := 0, locals := 47 } : Room).cells ({ frames := 3, cells := 0, slots := 0, locals := 47 } : Room).slots) := by
  have hi : ∀ (i : Nat) {d : Jvm.Cond}, tables_1[i]? = some d → d.before a0 Z = true := fun i d h => hw d (List.mem_of_getElem? h)
  refine MetFree.of_bodySF (plainFor_of_name pn_14) hisR ?_
  intro p e s m args below meth c s₁ Bd hml0 hP hK
  obtain ⟨rfl, hZ, hh⟩ := hP
  have hx := Bd.exec
  have hby := Bd.bytes
  have hml : c.maxLocals = 3 := hml0
  have hown : s.vm.findClass "java/lang/AbstractStringBuilder" = some m.cls := findClass_of_methodNamed Bd.named
  have hnm := (name_of_methodNamed Bd.named Bd.method).1
  have X0 : Stand p l e ({ frames := 3, cells := 0, slots := 0, locals := 47 } : Room) s m #[(.ref a1), (.ref a2)] below meth c s₁ [] 0 0 := Stand.of_body Bd
  have e0 : s₁.heap = h0 := by rw [← hh, Bd.state]; rfl
  have N0 := Fr.nil n0
  obtain ⟨cq3, kq3, q3a, q3b, q3c⟩ := isOf hZ e0 E_a2
  obtain ⟨_, _, ⟨T3, L3, k3, n3⟩, -, X3, ⟨Lc3, hQ3, l3, y3, z3⟩, st3⟩ := X0.virtualBack hx (y := mN21) (z := mN21) hown (mvT hZ (hi 129 rfl)) (mvT hZ (hi 130 rfl)) (notFace_of_selects (args := #[]) (mvT hZ (hi 132 rfl))) (mvT hZ (hi 132 rfl)) (mvT hZ (hi 131 rfl)) (by decide) (backOf (W := 0) (rm15 l Z a0 hw [] a2 yz_ yak_ yaf_ yad_ ya_ (0 : Int32) h0 n0 Z0 hcs ycc_ ybq_ yf_ ybt_ E_a2) hZ (hi 133 rfl) (hi 4 rfl) (by decide) (by decide)) q3a q3c (g := (mkF m 10 #[vA a1, vA a2, vU] [(.ref a2)])) rfl (by rw [hml]; rfl) (Steps.refl _) (argsL := []) (rest := []) (lenOf ycf_ rfl) rfl (by show 2 * 0 + _ ≤ _; exact Nat.le_of_eq rfl) (hb hby d14_10) (fun _ _ => ⟨rfl, e0, (by decide : 0 + 0 ≤ _), (by decide : 0 + 0 ≤ _)⟩)
  dsimp only [Pt.U, Pt.locs, Pt.cells, Pt.slots] at X3 l3 y3 z3 st3 hQ3
  subst l3 y3 z3
  obtain ⟨rfl, N3q, e3⟩ := hQ3
  have N3 := Fr.app N0 N3q
  obtain ⟨T4, X4, e4, st4⟩ := getF X3 hx hZ hown (host := "") (Or.inl (hi 142 rfl)) Via.refl e3 ybp_ (g := (mkF m 16 #[vA a1, vA a2, vI (yaf_ >>> ((0 : Int32) &&& 31))] [(.ref a1), (.ref a1)])) rfl rfl (hb hby d14_16)
  obtain ⟨cq5, q5, q5'⟩ := E_a1.cell
  obtain ⟨_, _, ⟨T5, L5, k5, n5⟩, -, X5, ⟨Lc5, hQ5, l5, y5, z5⟩, st5⟩ := X4.privateBack hx (y := mN2) hown (mvT hZ (hi 144 rfl)) (mvT hZ (hi 145 rfl)) (own_selself (mvT hZ (hi 147 rfl)) (Cond.privateMethod_at (mvP hZ (hi 146 rfl) (args := #[]))) (mvT hZ (hi 145 rfl)) (by decide)) (Cond.privateMethod_at (mvP hZ (hi 146 rfl) (args := #[]))) (mvT hZ (hi 148 rfl)) (by decide) (backOf (W := 0) (rm17 l Z a0 hw [] a1 (yag_ + (yaf_ >>> ((0 : Int32) &&& 31))) yc_ yn_ yd_ ye_ h0 n0 Z0 hcs yae_ yam_ yac_ yqr_) hZ (hi 148 rfl) (hi 59 rfl) (by decide) (by decide)) (g := (mkF m 21 #[vA a1, vA a2, vI (yaf_ >>> ((0 : Int32) &&& 31))] [(.int (yag_ + (yaf_ >>> ((0 : Int32) &&& 31)))), (.ref a1)])) rfl (by rw [hml]; rfl) (Steps.refl _) (a := a1) (by rw [e4]; exact q5) q5' (argsL := [(.int (yag_ + (yaf_ >>> ((0 : Int32) &&& 31))))]) (rest := []) (lenOf yjy_ rfl) rfl (by show 2 * 0 + _ ≤ _; exact Nat.le_of_eq rfl) (hb hby d14_21) (fun _ _ => ⟨rfl, e4, (by decide : 0 + 0 ≤ _), (by decide : 0 + 0 ≤ _)⟩)
  dsimp only [Pt.U, Pt.locs, Pt.cells, Pt.slots] at X5 l5 y5 z5 st5 hQ5
  subst l5 y5 z5
  obtain ⟨rfl, N5q, e5⟩ := hQ5
  have N5 := Fr.app N3 N5q
  obtain ⟨T6, X6, e6, st6⟩ := getF X5 hx hZ hown (host := "") (Or.inl (hi 142 rfl)) Via.refl e5 ybp_ (g := (mkF m 26 #[vA a1, vA a2, vI (yaf_ >>> ((0 : Int32) &&& 31))] [(.ref a1), (.ref a1)])) rfl rfl (hb hby d14_26)
  obtain ⟨cq7, q7, q7'⟩ := E_a1.cell
  obtain ⟨_, _, ⟨T7, L7, k7, n7⟩, -, X7, ⟨Lc7, hQ7, l7, y7, z7⟩, st7⟩ := X6.privateBack hx (y := mN8) hown (mvT hZ (hi 149 rfl)) (mvT hZ (hi 150 rfl)) (own_selself (mvT hZ (hi 152 rfl)) (Cond.privateMethod_at (mvP hZ (hi 151 rfl) (args := #[]))) (mvT hZ (hi 150 rfl)) (by decide)) (Cond.privateMethod_at (mvP hZ (hi 151 rfl) (args := #[]))) (mvT hZ (hi 153 rfl)) (by decide) (backOf (W := 0) (rm18 l Z a0 hw [] a1 yag_ a2 ya_ yc_ yz_ yak_ yaf_ yad_ yn_ yd_ ye_ h0 n0 Z0 hcs yf_ yac_ ybt_ E_a2 E_a1 yae_ ycc_ ybq_ yam_ ygu_ ynt_ ynu_ ynv_ ynw_ yoy_) hZ (hi 153 rfl) (hi 59 rfl) (by decide) (by decide)) (g := (mkF m 30 #[vA a1, vA a2, vI (yaf_ >>> ((0 : Int32) &&& 31))] [(.ref a2), (.int yag_), (.ref a1)])) rfl (by rw [hml]; rfl) (Steps.refl _) (a := a1) (by rw [e6]; exact q7) q7' (argsL := [(.int yag_), (.ref a2)]) (rest := []) (lenOf yed_ rfl) rfl (by show 2 * 0 + _ ≤ _; exact Nat.le_of_eq rfl) (hb hby d14_30) (fun _ _ => ⟨rfl, e6, (by decide : 0 + 0 ≤ _), (by decide : 0 + 0 ≤ _)⟩)
  dsimp only [Pt.U, Pt.locs, Pt.cells, Pt.slots] at X7 l7 y7 z7 st7 hQ7
  subst l7 y7 z7
  obtain ⟨rfl, N7q, K7, i7_0⟩ := hQ7
  have N7 := Fr.app N5 N7q
  have f0 := (ybp_.keep K7 (own_nm yeq_ own_n0))
  obtain ⟨T8, X8, e8, st8⟩ := getF X7 hx hZ hown (host := "") (Or.inl (hi 142 rfl)) Via.refl rfl f0 (g := (mkF m 35 #[vA a1, vA a2, vI (yaf_ >>> ((0 : Int32) &&& 31))] [(.ref a1), (.ref a1)])) rfl rfl (hb hby d14_35)
  have f1 := (E_a1.keep K7)
  obtain ⟨T9, h9, X9, e9, W9, st9⟩ := putF X8 hx hZ hown (host := "") (Or.inl (hi 142 rfl)) Via.refl e8 f0 f1 (Or.inl (hi 143 rfl)) (hi 50 rfl) (ty := .int) (by decide) rfl rfl (g := (mkF m 40 #[vA a1, vA a2, vI (yaf_ >>> ((0 : Int32) &&& 31))] [(.int (yag_ + (yaf_ >>> ((0 : Int32) &&& 31)))), (.ref a1)])) rfl rfl (hb hby d14_40)
  have Fw9 := f0.same W9
  have N9 := Fr.snoc X9 N7 g_a1
  have f2 := (i7_0.other W9 yhc_)
  have f3 := (f1.wr W9)
  have f4 := ((yae_.keep K7 (own_nm yeq_ own_n0)).other W9 (Or.inr (slot_ne (Or.inl (hi 64 rfl)) (Or.inl (hi 143 rfl)) (by decide) (t := (.array .byte)) (t' := .int) (by decide) (by decide))))
  have f5 := ((yac_.keep K7 (own_nm yeq_ own_n0)).other W9 (Or.inr (slot_ne (Or.inl (hi 66 rfl)) (Or.inl (hi 143 rfl)) (by decide) (t := .byte) (t' := .int) (by decide) (by decide))))
  obtain ⟨fs, hr, hrun, hended, hW, hsame⟩ := X9.leave (v := some (.ref a1)) (fun h => by rw [Bd.returns] at h; cases h)
  refine ⟨_, _, castTop (ef_14 m a1 a2) ?_, hrun, hended, _, _, rfl, ?_, ⟨_, rfl⟩, hW, hsame.mono (by decide) (by decide)⟩
  · show Steps p.tables e below (s₁.setTop (mkF m 0 #[vA a1, vA a2, vU] [])) _
    refine XS.aloadN X0.here hx rfl (hb hby d14_0) rfl rfl ?_
    refine XS.ifnonnullYes X0.here hx rfl (pc0 := 1) (pc' := 9) rfl (hb hby d14_1) rfl (by decide) (by decide) ?_
    refine XS.aloadN X0.here hx rfl (hb hby d14_9) rfl rfl ?_
    refine st3.trans ?_
    refine XS.istoreN X3.here hx rfl (hb hby d14_13) rfl (l' := #[vA a1, vA a2, vI (yaf_ >>> ((0 : Int32) &&& 31))]) rfl ?_
    refine XS.aloadN X3.here hx rfl (hb hby d14_14) rfl rfl ?_
    refine XS.aloadN X3.here hx rfl (hb hby d14_15) rfl rfl ?_
    refine st4 _ ?_
    refine XS.iloadN X4.here hx rfl (hb hby d14_19) rfl ?_
    refine XS.iadd X4.here hx rfl (hb hby d14_20) rfl ?_
    refine st5.trans ?_
    refine XS.aloadN X5.here hx rfl (hb hby d14_24) rfl rfl ?_
    refine XS.aloadN X5.here hx rfl (hb hby d14_25) rfl rfl ?_
    refine st6 _ ?_
    refine XS.aloadN X6.here hx rfl (hb hby d14_29) rfl rfl ?_
    refine st7.trans ?_
    refine XS.aloadN X7.here hx rfl (hb hby d14_33) rfl rfl ?_
    refine XS.dup X7.here hx rfl (hb hby d14_34) rfl rfl ?_
    refine st8 _ ?_
    refine XS.iloadN X8.here hx rfl (hb hby d14_38) rfl ?_
    refine XS.iadd X8.here hx rfl (hb hby d14_39) rfl ?_
    refine st9 _ ?_
    refine XS.aloadN X9.here hx rfl (hb hby d14_43) rfl rfl ?_
    show Steps p.tables e below (T9.setTop (mkF m 44 #[vA a1, vA a2, vI (yaf_ >>> ((0 : Int32) &&& 31))] [(.ref a1)])) _
    jvm_step X9.here [X9.here.top, hx, (hb hby d14_44), X9.method', Bd.returns, Value.isRef, FieldType.isReference]
    first | (intro acts; rw [hr _ acts rfl rfl rfl]) | rw [hr _ _ rfl rfl rfl]
    exact Steps.refl _
  · show Q_rm14 Z a1 a2 yc_ yz_ yak_ yaf_ yad_ ya_ yag_ yn_ yd_ ye_ h0 n0 _ T9.heap _
    rw [e9]
    exact ⟨rfl, N9, (((Keep.refl h0 [yc_, a1]).trans K7 (fun x q => (List.mem_cons.mp q).elim (fun r => by subst r; exact (Or.inl (List.mem_of_getElem? (i := 0) rfl))) (fun q => nomatch q))).wr W9 (Or.inl (List.mem_of_getElem? (i := 1) rfl))), f2, f3, f4, f5, Fw9⟩
theorem ycd_ : parseMethodDescriptor "(Ljava/lang/String;)Ljava/lang/AbstractStringBuilder;" = some ⟨[(.object "java/lang/String")], some (.object "java/lang/AbstractStringBuilder")⟩ := by decide +kernel
theorem own_same {s : State} {args : Array Value} {C : String} {y y' : MethodName} (h : (Cond.selects C y' y').before args s = true) (e : y'.cls = y.cls) (hinst : (Cond.instanceMethod y).before args s = true) (hy : y.cls ≠ "java/lang/invoke/MethodHandle" ∧ y.cls ≠ "java/lang/invoke/VarHandle") : (Cond.sameMethod y.cls y.cls y.name y.desc).before args s = true := by
  obtain ⟨c, r, m, -, -, h3, -, mk, h5, h6⟩ := Cond.selects_spec h
  obtain ⟨mm, methM, hnamed, hmethM, -, -⟩ := Cond.instanceMethod_spec hinst
  have hf := State.methodFound?_of_named hnamed hy
  have hc := findClass_of_methodNamed hnamed
  have hc' := findClass_of_methodNamed h3
  rw [e] at hc'
  have q : m.cls = mm.cls := Option.some.inj (hc'.symm.trans hc)
  have hn : s.methodNamed? ⟨y.cls, y.name, y.desc⟩ = some mm := hnamed
  rw [q] at h5
  simp [Cond.before, Cond.holds, Cond.value, hc, hf, hn, h5, h6]
theorem d13_0 : decode jdk_67_method_7_code 0 = .ok (.aload_n 0, 1) := by decide +kernel
theorem d13_1 : decode jdk_67_method_7_code 1 = .ok (.aload_n 1, 1) := by decide +kernel
theorem d13_2 : decode jdk_67_method_7_code 2 = .ok (.invokespecial 29, 3) := by decide +kernel
theorem d13_5 : decode jdk_67_method_7_code 5 = .ok (.pop, 1) := by decide +kernel
theorem d13_6 : decode jdk_67_method_7_code 6 = .ok (.aload_n 0, 1) := by decide +kernel
theorem d13_7 : decode jdk_67_method_7_code 7 = .ok (.areturn, 1) := by decide +kernel
theorem pn_13 : plainName "java/lang/StringBuilder" = true := by first | (simp [plainName, overriddenIn]; done) | decide +kernel
theorem ef_13 (m : MethodId) (x0 : Addr) (x1 : Addr) : entryFrame m #[(.ref x0), (.ref x1)] 2 = mkF m 0 #[.val (.ref x0), .val (.ref x1)] [] := by first | (simp [entryFrame, mkF, argsToLocals, Value.category]; done) | rfl
def Q_rm13 (Z : State) (a1 : Addr) (a2 : Addr) (yc_ : Addr) (yz_ : Addr) (yak_ : ClassId) (yaf_ : Int32) (yad_ : List Value) (ya_ : Int32) (yag_ : Int32) (yn_ : ClassId) (yd_ : Int32) (ye_ : List Value) (h0 : Heap) (n0 : Nat) (v : Option Value) (h : Heap) (L : List Loc) : Prop := v = some (.ref a1) ∧ Fr n0 L ∧ Keep h0 h [yc_, a1] ∧ Arv Z h yc_ yn_ .byte yd_ (own_cp yad_ ye_ (.int (0 : Int32)) (0 : Int32) (yag_ <<< ((0 : Int32) &&& 31)) yaf_) (.int (0 : Int32)) ∧ Exa Z h a1 "java/lang/StringBuilder" ∧ Fld Z h a1 "java/lang/AbstractStringBuilder" "value" "[B" (.ref yc_) ∧ Fld Z h a1 "java/lang/AbstractStringBuilder" "coder" "B" (.int (0 : Int32)) ∧ Fld Z h a1 "java/lang/AbstractStringBuilder" "count" "I" (.int (yag_ + (yaf_ >>> ((0 : Int32) &&& 31))))
set_option maxRecDepth 65536 in
set_option maxHeartbeats 40000000 in
theorem rm13 (l : Launch) (Z : State) (a0 : Array Value) (hw : ∀ d ∈ tables_1, d.before a0 Z = true) (ws : List Jvm.Cond) (a1 : Addr) (a2 : Addr) (yc_ : Addr) (yz_ : Addr) (yak_ : ClassId) (yaf_ : Int32) (yad_ : List Value) (ya_ : Int32) (yag_ : Int32) (yn_ : ClassId) (yd_ : Int32) (ye_ : List Value) (h0 : Heap) (n0 : Nat) (Z0 : n0 ≤ h0.size) (hcs : ¬ (ya_ = (0 : Int32))) (yae_ : Fld Z h0 a1 "java/lang/AbstractStringBuilder" "value" "[B" (.ref yc_)) (yac_ : Fld Z h0 a1 "java/lang/AbstractStringBuilder" "coder" "B" (.int (0 : Int32))) (ycc_ : Fld Z h0 a2 "java/lang/String" "value" "[B" (.ref yz_)) (ybq_ : Arv Z h0 yz_ yak_ .byte yaf_ yad_ (.int (0 : Int32))) (yf_ : Sta Z h0 "java/lang/String" "COMPACT_STRINGS" "Z" (.int ya_)) (ybp_ : Fld Z h0 a1 "java/lang/AbstractStringBuilder" "count" "I" (.int yag_)) (yam_ : Arv Z h0 yc_ yn_ .byte yd_ ye_ (.int (0 : Int32))) (ybt_ : Fld Z h0 a2 "java/lang/String" "coder" "B" (.int (0 : Int32))) (E_a2 : Exa Z h0 a2 "java/lang/String") (E_a1 : Exa Z h0 a1 "java/lang/StringBuilder") (ygu_ : n0 ≤ yc_) (g_a1 : n0 ≤ a1) (ypc_ : ¬ ((0 : Int32) < ((yag_ + (yaf_ >>> ((0 : Int32) &&& 31))) - (yd_ >>> ((0 : Int32) &&& 31))))) (yma_ : ¬ (yag_ <<< ((0 : Int32) &&& 31)) < 0) (ymb_ : ¬ yaf_ < 0) (ymc_ : ((0 : Int32)).toNatClampNeg + (yaf_).toNatClampNeg ≤ (yaf_).toNatClampNeg) (ymd_ : ((yag_ <<< ((0 : Int32) &&& 31))).toNatClampNeg + (yaf_).toNatClampNeg ≤ (yd_).toNatClampNeg) (ynl_ : ((yag_ <<< ((0 : Int32) &&& 31))).toNatClampNeg + (yaf_).toNatClampNeg ≤ (ye_).length) (yeq_ : a1 ≠ yc_) (yhc_ : yc_ ≠ a1) :
    MetFree l mN24 (head1 (Jvm.Cond.code mN24 jdk_67_method_7_code 2 (some (.object "java/lang/StringBuilder")) :: ws) ({ frames := 4, cells := 0, slots := 0, locals := 61 } : Room)) (fun a U => a = #[(.ref a1), (.ref a2)] ∧ Z.Warmed39 U.vm ∧ U.heap = h0) (fun _ _ _ _ _ => True) (fun _ U o U' => ∃ v L, o = .returned v ∧ Q_rm13 Z a1 a2 yc_ yz_ yak_ yaf_ yad_ ya_ yag_ yn_ yd_ ye_ h0 n0 v U'.heap L ∧ FrameEnd U o U' L ({ frames := 4, cells := 0, slots := 0, locals := 61 } : Room).cells ({ frames := 4, cells := 0, slots := 0, locals := 61 } : Room).slots) := by
  have hi : ∀ (i : Nat) {d : Jvm.Cond}, tables_1[i]? = some d → d.before a0 Z = true := fun i d h => hw d (List.mem_of_getElem? h)
  refine MetFree.of_bodySF (plainFor_of_name pn_13) hisR ?_
  intro p e s m args below meth c s₁ Bd hml0 hP hK
  obtain ⟨rfl, hZ, hh⟩ := hP
  have hx := Bd.exec
  have hby := Bd.bytes
  have hml : c.maxLocals = 2 := hml0
  have hown : s.vm.findClass "java/lang/StringBuilder" = some m.cls := findClass_of_methodNamed Bd.named
  have hnm := (name_of_methodNamed Bd.named Bd.method).1
  have X0 : Stand p l e ({ frames := 4, cells := 0, slots := 0, locals := 61 } : Room) s m #[(.ref a1), (.ref a2)] below meth c s₁ [] 0 0 := Stand.of_body Bd
  have e0 : s₁.heap = h0 := by rw [← hh, Bd.state]; rfl
  have N0 := Fr.nil n0
  obtain ⟨_, _, ⟨T3, L3, k3, n3⟩, -, X3, ⟨Lc3, hQ3, l3, y3, z3⟩, st3⟩ := superBack X0 hx hZ (y := mN1) hown (hi 124 rfl) (own_same (hi 147 rfl) rfl (hi 125 rfl) (by decide)) (hi 125 rfl) (hi 126 rfl) (by decide) (backOf (W := 0) (rm14 l Z a0 hw [] a1 a2 yc_ yz_ yak_ yaf_ yad_ ya_ yag_ yn_ yd_ ye_ h0 n0 Z0 hcs yae_ yac_ ycc_ ybq_ yf_ ybt_ E_a2 ybp_ yam_ E_a1 ygu_ g_a1 ypc_ yma_ ymb_ ymc_ ymd_ ynl_ yeq_ yhc_) hZ (hi 128 rfl) (hi 59 rfl) (by decide) (by decide)) e0 (Ins.self E_a1) (g := (mkF m 2 #[vA a1, vA a2] [(.ref a2), (.ref a1)])) rfl (by rw [hml]; rfl) (hi 128 rfl) (argsL := [(.ref a2)]) (rest := []) (lenOf ycd_ rfl) rfl (by show 2 * 0 + _ ≤ _; exact Nat.le_of_eq rfl) (hb hby d13_2) (fun _ _ => ⟨rfl, e0, (by decide : 0 + 0 ≤ _), (by decide : 0 + 0 ≤ _)⟩)
  dsimp only [Pt.U, Pt.locs, Pt.cells, Pt.slots] at X3 l3 y3 z3 st3 hQ3
  subst l3 y3 z3
  obtain ⟨rfl, N3q, K3, i3_0, i3_1, i3_2, i3_3, i3_4⟩ := hQ3
  have N3 := Fr.app N0 N3q
  obtain ⟨fs, hr, hrun, hended, hW, hsame⟩ := X3.leave (v := some (.ref a1)) (fun h => by rw [Bd.returns] at h; cases h)
  refine ⟨_, _, castTop (ef_13 m a1 a2) ?_, hrun, hended, _, _, rfl, ?_, ⟨_, rfl⟩, hW, hsame.mono (by decide) (by decide)⟩
  · show Steps p.tables e below (s₁.setTop (mkF m 0 #[vA a1, vA a2] [])) _
    refine XS.aloadN X0.here hx rfl (hb hby d13_0) rfl rfl ?_
    refine XS.aloadN X0.here hx rfl (hb hby d13_1) rfl rfl ?_
    refine st3.trans ?_
    refine XS.pop X3.here hx rfl (hb hby d13_5) rfl rfl ?_
    refine XS.aloadN X3.here hx rfl (hb hby d13_6) rfl rfl ?_
    show Steps p.tables e below (T3.setTop (mkF m 7 #[vA a1, vA a2] [(.ref a1)])) _
    jvm_step X3.here [X3.here.top, hx, (hb hby d13_7), X3.method', Bd.returns, Value.isRef, FieldType.isReference]
    first | (intro acts; rw [hr _ acts rfl rfl rfl]) | rw [hr _ _ rfl rfl rfl]
    exact Steps.refl _
  · show Q_rm13 Z a1 a2 yc_ yz_ yak_ yaf_ yad_ ya_ yag_ yn_ yd_ ye_ h0 n0 _ T3.heap _
    exact ⟨rfl, N3, ((Keep.refl h0 [yc_, a1]).trans K3 (fun x q => (List.mem_cons.mp q).elim (fun r => by subst r; exact (Or.inl (List.mem_of_getElem? (i := 0) rfl))) (fun q => (List.mem_cons.mp q).elim (fun r => by subst r; exact (Or.inl (List.mem_of_getElem? (i := 1) rfl))) (fun q => nomatch q)))), i3_0, i3_1, i3_2, i3_3, i3_4⟩
theorem yco_ : parseMethodDescriptor "(Ljava/lang/String;)Ljava/lang/StringBuilder;" = some ⟨[(.object "java/lang/String")], some (.object "java/lang/StringBuilder")⟩ := by decide +kernel
theorem d12_0 : decode prog_41_method_2_code 0 = .ok (.aload_n 0, 1) := by decide +kernel
theorem d12_1 : decode prog_41_method_2_code 1 = .ok (.getfield 19, 3) := by decide +kernel
theorem d12_4 : decode prog_41_method_2_code 4 = .ok (.aload_n 1, 1) := by decide +kernel
theorem d12_5 : decode prog_41_method_2_code 5 = .ok (.invokevirtual 47, 3) := by decide +kernel
theorem d12_8 : decode prog_41_method_2_code 8 = .ok (.pop, 1) := by decide +kernel
theorem d12_9 : decode prog_41_method_2_code 9 = .ok (.aload_n 0, 1) := by decide +kernel
theorem d12_10 : decode prog_41_method_2_code 10 = .ok (.areturn, 1) := by decide +kernel
theorem pn_12 : plainName "underdeck/deck/SqlText" = true := by first | (simp [plainName, overriddenIn]; done) | decide +kernel
theorem ef_12 (m : MethodId) (x0 : Addr) (x1 : Addr) : entryFrame m #[(.ref x0), (.ref x1)] 2 = mkF m 0 #[.val (.ref x0), .val (.ref x1)] [] := by first | (simp [entryFrame, mkF, argsToLocals, Value.category]; done) | rfl
def Q_rm12 (Z : State) (a1 : Addr) (a2 : Addr) (ys_ : Addr) (yw_ : Addr) (yz_ : Addr) (yak_ : ClassId) (yaf_ : Int32) (yad_ : List Value) (ya_ : Int32) (yaa_ : Int32) (yai_ : ClassId) (yas_ : Int32) (yab_ : List Value) (h0 : Heap) (n0 : Nat) (v : Option Value) (h : Heap) (L : List Loc) : Prop := v = some (.ref a1) ∧ Fr n0 L ∧ Keep h0 h [yw_, ys_] ∧ Arv Z h yw_ yai_ .byte yas_ (own_cp yad_ yab_ (.int (0 : Int32)) (0 : Int32) (yaa_ <<< ((0 : Int32) &&& 31)) yaf_) (.int (0 : Int32)) ∧ Exa Z h ys_ "java/lang/StringBuilder" ∧ Fld Z h ys_ "java/lang/AbstractStringBuilder" "value" "[B" (.ref yw_) ∧ Fld Z h ys_ "java/lang/AbstractStringBuilder" "coder" "B" (.int (0 : Int32)) ∧ Fld Z h ys_ "java/lang/AbstractStringBuilder" "count" "I" (.int (yaa_ + (yaf_ >>> ((0 : Int32) &&& 31))))
set_option maxRecDepth 65536 in
set_option maxHeartbeats 40000000 in
theorem rm12 (l : Launch) (Z : State) (a0 : Array Value) (hw : ∀ d ∈ tables_1, d.before a0 Z = true) (ws : List Jvm.Cond) (a1 : Addr) (a2 : Addr) (ys_ : Addr) (yw_ : Addr) (yz_ : Addr) (yak_ : ClassId) (yaf_ : Int32) (yad_ : List Value) (ya_ : Int32) (yaa_ : Int32) (yai_ : ClassId) (yas_ : Int32) (yab_ : List Value) (h0 : Heap) (n0 : Nat) (Z0 : n0 ≤ h0.size) (hcs : ¬ (ya_ = (0 : Int32))) (yda_ : Fld Z h0 a1 "underdeck/deck/SqlText" "current" "Ljava/lang/StringBuilder;" (.ref ys_)) (ybv_ : Fld Z h0 ys_ "java/lang/AbstractStringBuilder" "value" "[B" (.ref yw_)) (ycc_ : Fld Z h0 a2 "java/lang/String" "value" "[B" (.ref yz_)) (ybq_ : Arv Z h0 yz_ yak_ .byte yaf_ yad_ (.int (0 : Int32))) (yf_ : Sta Z h0 "java/lang/String" "COMPACT_STRINGS" "Z" (.int ya_)) (ybw_ : Fld Z h0 ys_ "java/lang/AbstractStringBuilder" "count" "I" (.int yaa_)) (ybr_ : Arv Z h0 yw_ yai_ .byte yas_ yab_ (.int (0 : Int32))) (ybx_ : Fld Z h0 ys_ "java/lang/AbstractStringBuilder" "coder" "B" (.int (0 : Int32))) (ybt_ : Fld Z h0 a2 "java/lang/String" "coder" "B" (.int (0 : Int32))) (E_a2 : Exa Z h0 a2 "java/lang/String") (yca_ : Exa Z h0 ys_ "java/lang/StringBuilder") (yey_ : n0 ≤ yw_) (ydz_ : n0 ≤ ys_) (ynx_ : ¬ ((0 : Int32) < ((yaa_ + (yaf_ >>> ((0 : Int32) &&& 31))) - (yas_ >>> ((0 : Int32) &&& 31))))) (yky_ : ¬ (yaa_ <<< ((0 : Int32) &&& 31)) < 0) (ykz_ : ¬ yaf_ < 0) (yla_ : ((0 : Int32)).toNatClampNeg + (yaf_).toNatClampNeg ≤ (yaf_).toNatClampNeg) (ylb_ : ((yaa_ <<< ((0 : Int32) &&& 31))).toNatClampNeg + (yaf_).toNatClampNeg ≤ (yas_).toNatClampNeg) (ylt_ : ((yaa_ <<< ((0 : Int32) &&& 31))).toNatClampNeg + (yaf_).toNatClampNeg ≤ (yab_).length) (ydk_ : ys_ ≠ yw_) (ydl_ : yw_ ≠ ys_) :
    MetFree l mN52 (head1 (Jvm.Cond.code mN52 prog_41_method_2_code 2 (some (.object "underdeck/deck/SqlText")) :: ws) ({ frames := 5, cells := 0, slots := 0, locals := 74 } : Room)) (fun a U => a = #[(.ref a1), (.ref a2)] ∧ Z.Warmed39 U.vm ∧ U.heap = h0) (fun _ _ _ _ _ => True) (fun _ U o U' => ∃ v L, o = .returned v ∧ Q_rm12 Z a1 a2 ys_ yw_ yz_ yak_ yaf_ yad_ ya_ yaa_ yai_ yas_ yab_ h0 n0 v U'.heap L ∧ FrameEnd U o U' L ({ frames := 5, cells := 0, slots := 0, locals := 74 } : Room).cells ({ frames := 5, cells := 0, slots := 0, locals := 74 } : Room).slots) := by
  have hi : ∀ (i : Nat) {d : Jvm.Cond}, tables_1[i]? = some d → d.before a0 Z = true := fun i d h => hw d (List.mem_of_getElem? h)
  refine MetFree.of_bodySF (plainFor_of_name pn_12) hisR ?_
  intro p e s m args below meth c s₁ Bd hml0 hP hK
  obtain ⟨rfl, hZ, hh⟩ := hP
  have hx := Bd.exec
  have hby := Bd.bytes
  have hml : c.maxLocals = 2 := hml0
  have hown : s.vm.findClass "underdeck/deck/SqlText" = some m.cls := findClass_of_methodNamed Bd.named
  have hnm := (name_of_methodNamed Bd.named Bd.method).1
  have X0 : Stand p l e ({ frames := 5, cells := 0, slots := 0, locals := 74 } : Room) s m #[(.ref a1), (.ref a2)] below meth c s₁ [] 0 0 := Stand.of_body Bd
  have e0 : s₁.heap = h0 := by rw [← hh, Bd.state]; rfl
  have N0 := Fr.nil n0
  obtain ⟨T3, X3, e3, st3⟩ := getF X0 hx hZ hown (host := "") (Or.inl (hi 67 rfl)) Via.refl e0 yda_ (g := (mkF m 1 #[vA a1, vA a2] [(.ref a1)])) rfl rfl (hb hby d12_1)
  obtain ⟨cq4, kq4, q4a, q4b, q4c⟩ := isOf hZ e3 yca_
  obtain ⟨_, _, ⟨T4, L4, k4, n4⟩, -, X4, ⟨Lc4, hQ4, l4, y4, z4⟩, st4⟩ := X3.virtualBack hx (y := mN24) (z := mN24) hown (mvT hZ (hi 119 rfl)) (mvT hZ (hi 120 rfl)) (notFace_of_selects (args := #[]) (mvT hZ (hi 122 rfl))) (mvT hZ (hi 122 rfl)) (mvT hZ (hi 121 rfl)) (by decide) (backOf (W := 0) (rm13 l Z a0 hw [] ys_ a2 yw_ yz_ yak_ yaf_ yad_ ya_ yaa_ yai_ yas_ yab_ h0 n0 Z0 hcs ybv_ ybx_ ycc_ ybq_ yf_ ybw_ ybr_ ybt_ E_a2 yca_ yey_ ydz_ ynx_ yky_ ykz_ yla_ ylb_ ylt_ ydk_ ydl_) hZ (hi 123 rfl) (hi 51 rfl) (by decide) (by decide)) q4a q4c (g := (mkF m 5 #[vA a1, vA a2] [(.ref a2), (.ref ys_)])) rfl (by rw [hml]; rfl) (Steps.refl _) (argsL := [(.ref a2)]) (rest := []) (lenOf yco_ rfl) rfl (by show 2 * 0 + _ ≤ _; exact Nat.le_of_eq rfl) (hb hby d12_5) (fun _ _ => ⟨rfl, e3, (by decide : 0 + 0 ≤ _), (by decide : 0 + 0 ≤ _)⟩)
  dsimp only [Pt.U, Pt.locs, Pt.cells, Pt.slots] at X4 l4 y4 z4 st4 hQ4
  subst l4 y4 z4
  obtain ⟨rfl, N4q, K4, i4_0, i4_1, i4_2, i4_3, i4_4⟩ := hQ4
  have N4 := Fr.app N0 N4q
  obtain ⟨fs, hr, hrun, hended, hW, hsame⟩ := X4.leave (v := some (.ref a1)) (fun h => by rw [Bd.returns] at h; cases h)
  refine ⟨_, _, castTop (ef_12 m a1 a2) ?_, hrun, hended, _, _, rfl, ?_, ⟨_, rfl⟩, hW, hsame.mono (by decide) (by decide)⟩
  · show Steps p.tables e below (s₁.setTop (mkF m 0 #[vA a1, vA a2] [])) _
    refine XS.aloadN X0.here hx rfl (hb hby d12_0) rfl rfl ?_
    refine st3 _ ?_
    refine XS.aloadN X3.here hx rfl (hb hby d12_4) rfl rfl ?_
    refine st4.trans ?_
    refine XS.pop X4.here hx rfl (hb hby d12_8) rfl rfl ?_
    refine XS.aloadN X4.here hx rfl (hb hby d12_9) rfl rfl ?_
    show Steps p.tables e below (T4.setTop (mkF m 10 #[vA a1, vA a2] [(.ref a1)])) _
    jvm_step X4.here [X4.here.top, hx, (hb hby d12_10), X4.method', Bd.returns, Value.isRef, FieldType.isReference]
    first | (intro acts; rw [hr _ acts rfl rfl rfl]) | rw [hr _ _ rfl rfl rfl]
    exact Steps.refl _
  · show Q_rm12 Z a1 a2 ys_ yw_ yz_ yak_ yaf_ yad_ ya_ yaa_ yai_ yas_ yab_ h0 n0 _ T4.heap _
    exact ⟨rfl, N4, ((Keep.refl h0 [yw_, ys_]).trans K4 (fun x q => (List.mem_cons.mp q).elim (fun r => by subst r; exact (Or.inl (List.mem_of_getElem? (i := 0) rfl))) (fun q => (List.mem_cons.mp q).elim (fun r => by subst r; exact (Or.inl (List.mem_of_getElem? (i := 1) rfl))) (fun q => nomatch q)))), i4_0, i4_1, i4_2, i4_3, i4_4⟩
theorem d22_0 : decode prog_25_method_10_code 0 = .ok (.aload_n 0, 1) := by decide +kernel
theorem d22_1 : decode prog_25_method_10_code 1 = .ok (.getfield 56, 3) := by decide +kernel
theorem d22_4 : decode prog_25_method_10_code 4 = .ok (.areturn, 1) := by decide +kernel
theorem pn_22 : plainName "underdeck/deck/Dialect" = true := by first | (simp [plainName, overriddenIn]; done) | decide +kernel
theorem ef_22 (m : MethodId) (x0 : Addr) : entryFrame m #[(.ref x0)] 1 = mkF m 0 #[.val (.ref x0)] [] := by first | (simp [entryFrame, mkF, argsToLocals, Value.category]; done) | rfl
def Q_rm22 (Z : State) (a1 : Addr) (ydp_ : Addr) (h0 : Heap) (n0 : Nat) (v : Option Value) (h : Heap) (L : List Loc) : Prop := v = some (.ref ydp_) ∧ Fr n0 L ∧ h = h0
set_option maxRecDepth 65536 in
set_option maxHeartbeats 40000000 in
theorem rm22 (l : Launch) (Z : State) (a0 : Array Value) (hw : ∀ d ∈ tables_1, d.before a0 Z = true) (ws : List Jvm.Cond) (a1 : Addr) (ydp_ : Addr) (h0 : Heap) (n0 : Nat) (Z0 : n0 ≤ h0.size) (yme_ : Fld Z h0 a1 "underdeck/deck/Dialect" "defaultsOnly" "Ljava/lang/String;" (.ref ydp_)) :
    MetFree l mN48 (head1 (Jvm.Cond.code mN48 prog_25_method_10_code 1 (some (.object "java/lang/String")) :: ws) ({ frames := 0, cells := 0, slots := 0, locals := 0 } : Room)) (fun a U => a = #[(.ref a1)] ∧ Z.Warmed39 U.vm ∧ U.heap = h0) (fun _ _ _ _ _ => True) (fun _ U o U' => ∃ v L, o = .returned v ∧ Q_rm22 Z a1 ydp_ h0 n0 v U'.heap L ∧ FrameEnd U o U' L ({ frames := 0, cells := 0, slots := 0, locals := 0 } : Room).cells ({ frames := 0, cells := 0, slots := 0, locals := 0 } : Room).slots) := by
  have hi : ∀ (i : Nat) {d : Jvm.Cond}, tables_1[i]? = some d → d.before a0 Z = true := fun i d h => hw d (List.mem_of_getElem? h)
  refine MetFree.of_bodySF (plainFor_of_name pn_22) hisR ?_
  intro p e s m args below meth c s₁ Bd hml0 hP hK
  obtain ⟨rfl, hZ, hh⟩ := hP
  have hx := Bd.exec
  have hby := Bd.bytes
  have hml : c.maxLocals = 1 := hml0
  have hown : s.vm.findClass "underdeck/deck/Dialect" = some m.cls := findClass_of_methodNamed Bd.named
  have hnm := (name_of_methodNamed Bd.named Bd.method).1
  have X0 : Stand p l e ({ frames := 0, cells := 0, slots := 0, locals := 0 } : Room) s m #[(.ref a1)] below meth c s₁ [] 0 0 := Stand.of_body Bd
  have e0 : s₁.heap = h0 := by rw [← hh, Bd.state]; rfl
  have N0 := Fr.nil n0
  obtain ⟨T2, X2, e2, st2⟩ := getF X0 hx hZ hown (host := "") (Or.inl (hi 179 rfl)) Via.refl e0 yme_ (g := (mkF m 1 #[vA a1] [(.ref a1)])) rfl rfl (hb hby d22_1)
  obtain ⟨fs, hr, hrun, hended, hW, hsame⟩ := X2.leave (v := some (.ref ydp_)) (fun h => by rw [Bd.returns] at h; cases h)
  refine ⟨_, _, castTop (ef_22 m a1) ?_, hrun, hended, _, _, rfl, ?_, ⟨_, rfl⟩, hW, hsame.mono (by decide) (by decide)⟩
  · show Steps p.tables e below (s₁.setTop (mkF m 0 #[vA a1] [])) _
    refine XS.aloadN X0.here hx rfl (hb hby d22_0) rfl rfl ?_
    refine st2 _ ?_
    show Steps p.tables e below (T2.setTop (mkF m 4 #[vA a1] [(.ref ydp_)])) _
    jvm_step X2.here [X2.here.top, hx, (hb hby d22_4), X2.method', Bd.returns, Value.isRef, FieldType.isReference]
    first | (intro acts; rw [hr _ acts rfl rfl rfl]) | rw [hr _ _ rfl rfl rfl]
    exact Steps.refl _
  · show Q_rm22 Z a1 ydp_ h0 n0 _ T2.heap _
    exact ⟨rfl, N0, e2⟩
theorem ybh_ : parseMethodDescriptor "()Ljava/lang/String;" = some ⟨[], some (.object "java/lang/String")⟩ := by decide +kernel
theorem yat_ : parseMethodDescriptor "(Ljava/lang/String;)Lunderdeck/deck/SqlText;" = some ⟨[(.object "java/lang/String")], some (.object "underdeck/deck/SqlText")⟩ := by decide +kernel
theorem d21_0 : decode prog_41_method_14_code 0 = .ok (.aload_n 0, 1) := by decide +kernel
theorem d21_1 : decode prog_41_method_14_code 1 = .ok (.aload_n 0, 1) := by decide +kernel
theorem d21_2 : decode prog_41_method_14_code 2 = .ok (.getfield 43, 3) := by decide +kernel
theorem d21_5 : decode prog_41_method_14_code 5 = .ok (.invokevirtual 207, 3) := by decide +kernel
theorem d21_8 : decode prog_41_method_14_code 8 = .ok (.invokevirtual 51, 3) := by decide +kernel
theorem d21_11 : decode prog_41_method_14_code 11 = .ok (.areturn, 1) := by decide +kernel
theorem pn_21 : plainName "underdeck/deck/SqlText" = true := by first | (simp [plainName, overriddenIn]; done) | decide +kernel
theorem ef_21 (m : MethodId) (x0 : Addr) : entryFrame m #[(.ref x0)] 1 = mkF m 0 #[.val (.ref x0)] [] := by first | (simp [entryFrame, mkF, argsToLocals, Value.category]; done) | rfl
def Q_rm21 (Z : State) (a1 : Addr) (ybn_ : Addr) (yap_ : Addr) (ys_ : Addr) (yw_ : Addr) (yaw_ : Addr) (ybb_ : ClassId) (yax_ : Int32) (yav_ : List Value) (ya_ : Int32) (yaa_ : Int32) (yai_ : ClassId) (yas_ : Int32) (yab_ : List Value) (h0 : Heap) (n0 : Nat) (v : Option Value) (h : Heap) (L : List Loc) : Prop := v = some (.ref a1) ∧ Fr n0 L ∧ Keep h0 h [yw_, ys_] ∧ Arv Z h yw_ yai_ .byte yas_ (own_cp yav_ yab_ (.int (0 : Int32)) (0 : Int32) (yaa_ <<< ((0 : Int32) &&& 31)) yax_) (.int (0 : Int32)) ∧ Exa Z h ys_ "java/lang/StringBuilder" ∧ Fld Z h ys_ "java/lang/AbstractStringBuilder" "value" "[B" (.ref yw_) ∧ Fld Z h ys_ "java/lang/AbstractStringBuilder" "coder" "B" (.int (0 : Int32)) ∧ Fld Z h ys_ "java/lang/AbstractStringBuilder" "count" "I" (.int (yaa_ + (yax_ >>> ((0 : Int32) &&& 31))))
set_option maxRecDepth 65536 in
set_option maxHeartbeats 40000000 in
theorem rm21 (l : Launch) (Z : State) (a0 : Array Value) (hw : ∀ d ∈ tables_1, d.before a0 Z = true) (ws : List Jvm.Cond) (a1 : Addr) (ybn_ : Addr) (yap_ : Addr) (ys_ : Addr) (yw_ : Addr) (yaw_ : Addr) (ybb_ : ClassId) (yax_ : Int32) (yav_ : List Value) (ya_ : Int32) (yaa_ : Int32) (yai_ : ClassId) (yas_ : Int32) (yab_ : List Value) (h0 : Heap) (n0 : Nat) (Z0 : n0 ≤ h0.size) (hcs : ¬ (ya_ = (0 : Int32))) (ygt_ : Fld Z h0 a1 "underdeck/deck/SqlText" "dialect" "Lunderdeck/deck/Dialect;" (.ref ybn_)) (yec_ : Fld Z h0 ybn_ "underdeck/deck/Dialect" "defaultsOnly" "Ljava/lang/String;" (.ref yap_)) (yiq_ : Exa Z h0 ybn_ "underdeck/deck/Dialect") (yda_ : Fld Z h0 a1 "underdeck/deck/SqlText" "current" "Ljava/lang/StringBuilder;" (.ref ys_)) (ybv_ : Fld Z h0 ys_ "java/lang/AbstractStringBuilder" "value" "[B" (.ref yw_)) (ydn_ : Fld Z h0 yap_ "java/lang/String" "value" "[B" (.ref yaw_)) (ydg_ : Arv Z h0 yaw_ ybb_ .byte yax_ yav_ (.int (0 : Int32))) (yf_ : Sta Z h0 "java/lang/String" "COMPACT_STRINGS" "Z" (.int ya_)) (ybw_ : Fld Z h0 ys_ "java/lang/AbstractStringBuilder" "count" "I" (.int yaa_)) (ybr_ : Arv Z h0 yw_ yai_ .byte yas_ yab_ (.int (0 : Int32))) (ybx_ : Fld Z h0 ys_ "java/lang/AbstractStringBuilder" "coder" "B" (.int (0 : Int32))) (ydo_ : Fld Z h0 yap_ "java/lang/String" "coder" "B" (.int (0 : Int32))) (ydx_ : Exa Z h0 yap_ "java/lang/String") (yca_ : Exa Z h0 ys_ "java/lang/StringBuilder") (yey_ : n0 ≤ yw_) (ydz_ : n0 ≤ ys_) (E_a1 : Exa Z h0 a1 "underdeck/deck/SqlText") (ymf_ : ¬ ((0 : Int32) < ((yaa_ + (yax_ >>> ((0 : Int32) &&& 31))) - (yas_ >>> ((0 : Int32) &&& 31))))) (yjq_ : ¬ (yaa_ <<< ((0 : Int32) &&& 31)) < 0) (yjr_ : ¬ yax_ < 0) (yjs_ : ((0 : Int32)).toNatClampNeg + (yax_).toNatClampNeg ≤ (yax_).toNatClampNeg) (yjt_ : ((yaa_ <<< ((0 : Int32) &&& 31))).toNatClampNeg + (yax_).toNatClampNeg ≤ (yas_).toNatClampNeg) (ykl_ : ((yaa_ <<< ((0 : Int32) &&& 31))).toNatClampNeg + (yax_).toNatClampNeg ≤ (yab_).length) (ydk_ : ys_ ≠ yw_) (ydl_ : yw_ ≠ ys_) :
    MetFree l mN50 (head1 (Jvm.Cond.code mN50 prog_41_method_14_code 1 (some (.object "underdeck/deck/SqlText")) :: ws) ({ frames := 6, cells := 0, slots := 0, locals := 87 } : Room)) (fun a U => a = #[(.ref a1)] ∧ Z.Warmed39 U.vm ∧ U.heap = h0) (fun _ _ _ _ _ => True) (fun _ U o U' => ∃ v L, o = .returned v ∧ Q_rm21 Z a1 ybn_ yap_ ys_ yw_ yaw_ ybb_ yax_ yav_ ya_ yaa_ yai_ yas_ yab_ h0 n0 v U'.heap L ∧ FrameEnd U o U' L ({ frames := 6, cells := 0, slots := 0, locals := 87 } : Room).cells ({ frames := 6, cells := 0, slots := 0, locals := 87 } : Room).slots) := by
  have hi : ∀ (i : Nat) {d : Jvm.Cond}, tables_1[i]? = some d → d.before a0 Z = true := fun i d h => hw d (List.mem_of_getElem? h)
  refine MetFree.of_bodySF (plainFor_of_name pn_21) hisR ?_
  intro p e s m args below meth c s₁ Bd hml0 hP hK
  obtain ⟨rfl, hZ, hh⟩ := hP
  have hx := Bd.exec
  have hby := Bd.bytes
  have hml : c.maxLocals = 1 := hml0
  have hown : s.vm.findClass "underdeck/deck/SqlText" = some m.cls := findClass_of_methodNamed Bd.named
  have hnm := (name_of_methodNamed Bd.named Bd.method).1
  have X0 : Stand p l e ({ frames := 6, cells := 0, slots := 0, locals := 87 } : Room) s m #[(.ref a1)] below meth c s₁ [] 0 0 := Stand.of_body Bd
  have e0 : s₁.heap = h0 := by rw [← hh, Bd.state]; rfl
  have N0 := Fr.nil n0
  obtain ⟨T2, X2, e2, st2⟩ := getF X0 hx hZ hown (host := "") (Or.inl (hi 112 rfl)) Via.refl e0 ygt_ (g := (mkF m 2 #[vA a1] [(.ref a1), (.ref a1)])) rfl rfl (hb hby d21_2)
  obtain ⟨cq3, kq3, q3a, q3b, q3c⟩ := isOf hZ e2 yiq_
  obtain ⟨_, _, ⟨T3, L3, k3, n3⟩, -, X3, ⟨Lc3, hQ3, l3, y3, z3⟩, st3⟩ := X2.virtualBack hx (y := mN48) (z := mN48) hown (mvT hZ (hi 174 rfl)) (mvT hZ (hi 175 rfl)) (notFace_of_selects (args := #[]) (mvT hZ (hi 177 rfl))) (mvT hZ (hi 177 rfl)) (mvT hZ (hi 176 rfl)) (by decide) (backOf (W := 1) (rm22 l Z a0 hw [] ybn_ yap_ h0 n0 Z0 yec_) hZ (hi 178 rfl) (hi 1 rfl) (by decide) (by decide)) q3a q3c (g := (mkF m 5 #[vA a1] [(.ref ybn_), (.ref a1)])) rfl (by rw [hml]; rfl) (Steps.refl _) (argsL := []) (rest := [(.ref a1)]) (lenOf ybh_ rfl) rfl (by show 2 * 0 + _ ≤ _; exact Nat.le_of_eq rfl) (hb hby d21_5) (fun _ _ => ⟨rfl, e2, (by decide : 0 + 0 ≤ _), (by decide : 0 + 0 ≤ _)⟩)
  dsimp only [Pt.U, Pt.locs, Pt.cells, Pt.slots] at X3 l3 y3 z3 st3 hQ3
  subst l3 y3 z3
  obtain ⟨rfl, N3q, e3⟩ := hQ3
  have N3 := Fr.app N0 N3q
  obtain ⟨cq4, kq4, q4a, q4b, q4c⟩ := isOf hZ e3 E_a1
  obtain ⟨_, _, ⟨T4, L4, k4, n4⟩, -, X4, ⟨Lc4, hQ4, l4, y4, z4⟩, st4⟩ := X3.virtualBack hx (y := mN52) (z := mN52) hown (mvT hZ (hi 181 rfl)) (mvT hZ (hi 115 rfl)) (notFace_of_selects (args := #[]) (mvT hZ (hi 117 rfl))) (mvT hZ (hi 117 rfl)) (mvT hZ (hi 116 rfl)) (by decide) (backOf (W := 0) (rm12 l Z a0 hw [] a1 yap_ ys_ yw_ yaw_ ybb_ yax_ yav_ ya_ yaa_ yai_ yas_ yab_ h0 n0 Z0 hcs yda_ ybv_ ydn_ ydg_ yf_ ybw_ ybr_ ybx_ ydo_ ydx_ yca_ yey_ ydz_ ymf_ yjq_ yjr_ yjs_ yjt_ ykl_ ydk_ ydl_) hZ (hi 118 rfl) (hi 16 rfl) (by decide) (by decide)) q4a q4c (g := (mkF m 8 #[vA a1] [(.ref yap_), (.ref a1)])) rfl (by rw [hml]; rfl) (Steps.refl _) (argsL := [(.ref yap_)]) (rest := []) (lenOf yat_ rfl) rfl (by show 2 * 0 + _ ≤ _; exact Nat.le_of_eq rfl) (hb hby d21_8) (fun _ _ => ⟨rfl, e3, (by decide : 0 + 0 ≤ _), (by decide : 0 + 0 ≤ _)⟩)
  dsimp only [Pt.U, Pt.locs, Pt.cells, Pt.slots] at X4 l4 y4 z4 st4 hQ4
  subst l4 y4 z4
  obtain ⟨rfl, N4q, K4, i4_0, i4_1, i4_2, i4_3, i4_4⟩ := hQ4
  have N4 := Fr.app N3 N4q
  obtain ⟨fs, hr, hrun, hended, hW, hsame⟩ := X4.leave (v := some (.ref a1)) (fun h => by rw [Bd.returns] at h; cases h)
  refine ⟨_, _, castTop (ef_21 m a1) ?_, hrun, hended, _, _, rfl, ?_, ⟨_, rfl⟩, hW, hsame.mono (by decide) (by decide)⟩
  · show Steps p.tables e below (s₁.setTop (mkF m 0 #[vA a1] [])) _
    refine XS.aloadN X0.here hx rfl (hb hby d21_0) rfl rfl ?_
    refine XS.aloadN X0.here hx rfl (hb hby d21_1) rfl rfl ?_
    refine st2 _ ?_
    refine st3.trans ?_
    refine st4.trans ?_
    show Steps p.tables e below (T4.setTop (mkF m 11 #[vA a1] [(.ref a1)])) _
    jvm_step X4.here [X4.here.top, hx, (hb hby d21_11), X4.method', Bd.returns, Value.isRef, FieldType.isReference]
    first | (intro acts; rw [hr _ acts rfl rfl rfl]) | rw [hr _ _ rfl rfl rfl]
    exact Steps.refl _
  · show Q_rm21 Z a1 ybn_ yap_ ys_ yw_ yaw_ ybb_ yax_ yav_ ya_ yaa_ yai_ yas_ yab_ h0 n0 _ T4.heap _
    exact ⟨rfl, N4, ((Keep.refl h0 [yw_, ys_]).trans K4 (fun x q => (List.mem_cons.mp q).elim (fun r => by subst r; exact (Or.inl (List.mem_of_getElem? (i := 0) rfl))) (fun q => (List.mem_cons.mp q).elim (fun r => by subst r; exact (Or.inl (List.mem_of_getElem? (i := 1) rfl))) (fun q => nomatch q)))), i4_0, i4_1, i4_2, i4_3, i4_4⟩
theorem d28_0 : decode jdk_68_method_64_code 0 = .ok (.aload_n 0, 1) := by decide +kernel
theorem d28_1 : decode jdk_68_method_64_code 1 = .ok (.getfield 15, 3) := by decide +kernel
theorem d28_4 : decode jdk_68_method_64_code 4 = .ok (.areturn, 1) := by decide +kernel
theorem pn_28 : plainName "java/lang/AbstractStringBuilder" = true := by first | (simp [plainName, overriddenIn]; done) | decide +kernel
theorem ef_28 (m : MethodId) (x0 : Addr) : entryFrame m #[(.ref x0)] 1 = mkF m 0 #[.val (.ref x0)] [] := by first | (simp [entryFrame, mkF, argsToLocals, Value.category]; done) | rfl
def Q_rm28 (Z : State) (a1 : Addr) (yc_ : Addr) (h0 : Heap) (n0 : Nat) (v : Option Value) (h : Heap) (L : List Loc) : Prop := v = some (.ref yc_) ∧ Fr n0 L ∧ h = h0
set_option maxRecDepth 65536 in
set_option maxHeartbeats 40000000 in
theorem rm28 (l : Launch) (Z : State) (a0 : Array Value) (hw : ∀ d ∈ tables_1, d.before a0 Z = true) (ws : List Jvm.Cond) (a1 : Addr) (yc_ : Addr) (h0 : Heap) (n0 : Nat) (Z0 : n0 ≤ h0.size) (yae_ : Fld Z h0 a1 "java/lang/AbstractStringBuilder" "value" "[B" (.ref yc_)) :
    MetFree l mN3 (head1 (Jvm.Cond.code mN3 jdk_68_method_64_code 1 (some (.array .byte)) :: ws) ({ frames := 0, cells := 0, slots := 0, locals := 0 } : Room)) (fun a U => a = #[(.ref a1)] ∧ Z.Warmed39 U.vm ∧ U.heap = h0) (fun _ _ _ _ _ => True) (fun _ U o U' => ∃ v L, o = .returned v ∧ Q_rm28 Z a1 yc_ h0 n0 v U'.heap L ∧ FrameEnd U o U' L ({ frames := 0, cells := 0, slots := 0, locals := 0 } : Room).cells ({ frames := 0, cells := 0, slots := 0, locals := 0 } : Room).slots) := by
  have hi : ∀ (i : Nat) {d : Jvm.Cond}, tables_1[i]? = some d → d.before a0 Z = true := fun i d h => hw d (List.mem_of_getElem? h)
  refine MetFree.of_bodySF (plainFor_of_name pn_28) hisR ?_
  intro p e s m args below meth c s₁ Bd hml0 hP hK
  obtain ⟨rfl, hZ, hh⟩ := hP
  have hx := Bd.exec
  have hby := Bd.bytes
  have hml : c.maxLocals = 1 := hml0
  have hown : s.vm.findClass "java/lang/AbstractStringBuilder" = some m.cls := findClass_of_methodNamed Bd.named
  have hnm := (name_of_methodNamed Bd.named Bd.method).1
  have X0 : Stand p l e ({ frames := 0, cells := 0, slots := 0, locals := 0 } : Room) s m #[(.ref a1)] below meth c s₁ [] 0 0 := Stand.of_body Bd
  have e0 : s₁.heap = h0 := by rw [← hh, Bd.state]; rfl
  have N0 := Fr.nil n0
  obtain ⟨T2, X2, e2, st2⟩ := getF X0 hx hZ hown (host := "") (Or.inl (hi 63 rfl)) Via.refl e0 yae_ (g := (mkF m 1 #[vA a1] [(.ref a1)])) rfl rfl (hb hby d28_1)
  obtain ⟨fs, hr, hrun, hended, hW, hsame⟩ := X2.leave (v := some (.ref yc_)) (fun h => by rw [Bd.returns] at h; cases h)
  refine ⟨_, _, castTop (ef_28 m a1) ?_, hrun, hended, _, _, rfl, ?_, ⟨_, rfl⟩, hW, hsame.mono (by decide) (by decide)⟩
  · show Steps p.tables e below (s₁.setTop (mkF m 0 #[vA a1] [])) _
    refine XS.aloadN X0.here hx rfl (hb hby d28_0) rfl rfl ?_
    refine st2 _ ?_
    show Steps p.tables e below (T2.setTop (mkF m 4 #[vA a1] [(.ref yc_)])) _
    jvm_step X2.here [X2.here.top, hx, (hb hby d28_4), X2.method', Bd.returns, Value.isRef, FieldType.isReference]
    first | (intro acts; rw [hr _ acts rfl rfl rfl]) | rw [hr _ _ rfl rfl rfl]
    exact Steps.refl _
  · show Q_rm28 Z a1 yc_ h0 n0 _ T2.heap _
    exact ⟨rfl, N0, e2⟩
theorem d30_0 : decode jdk_68_method_6_code 0 = .ok (.aload_n 0, 1) := by decide +kernel
theorem d30_1 : decode jdk_68_method_6_code 1 = .ok (.getfield 79, 3) := by decide +kernel
theorem d30_4 : decode jdk_68_method_6_code 4 = .ok (.ireturn, 1) := by decide +kernel
theorem pn_30 : plainName "java/lang/AbstractStringBuilder" = true := by first | (simp [plainName, overriddenIn]; done) | decide +kernel
theorem ef_30 (m : MethodId) (x0 : Addr) : entryFrame m #[(.ref x0)] 1 = mkF m 0 #[.val (.ref x0)] [] := by first | (simp [entryFrame, mkF, argsToLocals, Value.category]; done) | rfl
def Q_rm30 (Z : State) (a1 : Addr) (yag_ : Int32) (h0 : Heap) (n0 : Nat) (v : Option Value) (h : Heap) (L : List Loc) : Prop := v = some (.int yag_) ∧ Fr n0 L ∧ h = h0
set_option maxRecDepth 65536 in
set_option maxHeartbeats 40000000 in
theorem rm30 (l : Launch) (Z : State) (a0 : Array Value) (hw : ∀ d ∈ tables_1, d.before a0 Z = true) (ws : List Jvm.Cond) (a1 : Addr) (yag_ : Int32) (h0 : Heap) (n0 : Nat) (Z0 : n0 ≤ h0.size) (ybp_ : Fld Z h0 a1 "java/lang/AbstractStringBuilder" "count" "I" (.int yag_)) :
    MetFree l mN6 (head1 (Jvm.Cond.code mN6 jdk_68_method_6_code 1 (some .int) :: ws) ({ frames := 0, cells := 0, slots := 0, locals := 0 } : Room)) (fun a U => a = #[(.ref a1)] ∧ Z.Warmed39 U.vm ∧ U.heap = h0) (fun _ _ _ _ _ => True) (fun _ U o U' => ∃ v L, o = .returned v ∧ Q_rm30 Z a1 yag_ h0 n0 v U'.heap L ∧ FrameEnd U o U' L ({ frames := 0, cells := 0, slots := 0, locals := 0 } : Room).cells ({ frames := 0, cells := 0, slots := 0, locals := 0 } : Room).slots) := by
  have hi : ∀ (i : Nat) {d : Jvm.Cond}, tables_1[i]? = some d → d.before a0 Z = true := fun i d h => hw d (List.mem_of_getElem? h)
  refine MetFree.of_bodySF (plainFor_of_name pn_30) hisR ?_
  intro p e s m args below meth c s₁ Bd hml0 hP hK
  obtain ⟨rfl, hZ, hh⟩ := hP
  have hx := Bd.exec
  have hby := Bd.bytes
  have hml : c.maxLocals = 1 := hml0
  have hown : s.vm.findClass "java/lang/AbstractStringBuilder" = some m.cls := findClass_of_methodNamed Bd.named
  have hnm := (name_of_methodNamed Bd.named Bd.method).1
  have X0 : Stand p l e ({ frames := 0, cells := 0, slots := 0, locals := 0 } : Room) s m #[(.ref a1)] below meth c s₁ [] 0 0 := Stand.of_body Bd
  have e0 : s₁.heap = h0 := by rw [← hh, Bd.state]; rfl
  have N0 := Fr.nil n0
  obtain ⟨T2, X2, e2, st2⟩ := getF X0 hx hZ hown (host := "") (Or.inl (hi 142 rfl)) Via.refl e0 ybp_ (g := (mkF m 1 #[vA a1] [(.ref a1)])) rfl rfl (hb hby d30_1)
  obtain ⟨fs, hr, hrun, hended, hW, hsame⟩ := X2.leave (v := some (.int yag_)) (fun h => by rw [Bd.returns] at h; cases h)
  refine ⟨_, _, castTop (ef_30 m a1) ?_, hrun, hended, _, _, rfl, ?_, ⟨_, rfl⟩, hW, hsame.mono (by decide) (by decide)⟩
  · show Steps p.tables e below (s₁.setTop (mkF m 0 #[vA a1] [])) _
    refine XS.aloadN X0.here hx rfl (hb hby d30_0) rfl rfl ?_
    refine st2 _ ?_
    show Steps p.tables e below (T2.setTop (mkF m 4 #[vA a1] [(.int yag_)])) _
    exact retI X2 hx Bd.returns (hb hby d30_4) hr
  · show Q_rm30 Z a1 yag_ h0 n0 _ T2.heap _
    exact ⟨rfl, N0, e2⟩
theorem d29_0 : decode jdk_67_method_93_code 0 = .ok (.aload_n 0, 1) := by decide +kernel
theorem d29_1 : decode jdk_67_method_93_code 1 = .ok (.invokespecial 343, 3) := by decide +kernel
theorem d29_4 : decode jdk_67_method_93_code 4 = .ok (.ireturn, 1) := by decide +kernel
theorem pn_29 : plainName "java/lang/StringBuilder" = true := by first | (simp [plainName, overriddenIn]; done) | decide +kernel
theorem ef_29 (m : MethodId) (x0 : Addr) : entryFrame m #[(.ref x0)] 1 = mkF m 0 #[.val (.ref x0)] [] := by first | (simp [entryFrame, mkF, argsToLocals, Value.category]; done) | rfl
def Q_rm29 (Z : State) (a1 : Addr) (yag_ : Int32) (h0 : Heap) (n0 : Nat) (v : Option Value) (h : Heap) (L : List Loc) : Prop := v = some (.int yag_) ∧ Fr n0 L ∧ h = h0
set_option maxRecDepth 65536 in
set_option maxHeartbeats 40000000 in
theorem rm29 (l : Launch) (Z : State) (a0 : Array Value) (hw : ∀ d ∈ tables_1, d.before a0 Z = true) (ws : List Jvm.Cond) (a1 : Addr) (yag_ : Int32) (h0 : Heap) (n0 : Nat) (Z0 : n0 ≤ h0.size) (ybp_ : Fld Z h0 a1 "java/lang/AbstractStringBuilder" "count" "I" (.int yag_)) (E_a1 : Exa Z h0 a1 "java/lang/StringBuilder") :
    MetFree l mN25 (head1 (Jvm.Cond.code mN25 jdk_67_method_93_code 1 (some .int) :: ws) ({ frames := 1, cells := 0, slots := 0, locals := 12 } : Room)) (fun a U => a = #[(.ref a1)] ∧ Z.Warmed39 U.vm ∧ U.heap = h0) (fun _ _ _ _ _ => True) (fun _ U o U' => ∃ v L, o = .returned v ∧ Q_rm29 Z a1 yag_ h0 n0 v U'.heap L ∧ FrameEnd U o U' L ({ frames := 1, cells := 0, slots := 0, locals := 12 } : Room).cells ({ frames := 1, cells := 0, slots := 0, locals := 12 } : Room).slots) := by
  have hi : ∀ (i : Nat) {d : Jvm.Cond}, tables_1[i]? = some d → d.before a0 Z = true := fun i d h => hw d (List.mem_of_getElem? h)
  refine MetFree.of_bodySF (plainFor_of_name pn_29) hisR ?_
  intro p e s m args below meth c s₁ Bd hml0 hP hK
  obtain ⟨rfl, hZ, hh⟩ := hP
  have hx := Bd.exec
  have hby := Bd.bytes
  have hml : c.maxLocals = 1 := hml0
  have hown : s.vm.findClass "java/lang/StringBuilder" = some m.cls := findClass_of_methodNamed Bd.named
  have hnm := (name_of_methodNamed Bd.named Bd.method).1
  have X0 : Stand p l e ({ frames := 1, cells := 0, slots := 0, locals := 12 } : Room) s m #[(.ref a1)] below meth c s₁ [] 0 0 := Stand.of_body Bd
  have e0 : s₁.heap = h0 := by rw [← hh, Bd.state]; rfl
  have N0 := Fr.nil n0
  obtain ⟨_, _, ⟨T2, L2, k2, n2⟩, -, X2, ⟨Lc2, hQ2, l2, y2, z2⟩, st2⟩ := superBack X0 hx hZ (y := mN6) hown (hi 223 rfl) (own_same (hi 147 rfl) rfl (hi 219 rfl) (by decide)) (hi 219 rfl) (hi 126 rfl) (by decide) (backOf (W := 0) (rm30 l Z a0 hw [] a1 yag_ h0 n0 Z0 ybp_) hZ (hi 224 rfl) (hi 59 rfl) (by decide) (by decide)) e0 (Ins.self E_a1) (g := (mkF m 1 #[vA a1] [(.ref a1)])) rfl (by rw [hml]; rfl) (hi 224 rfl) (argsL := []) (rest := []) (lenOf ycf_ rfl) rfl (by show 2 * 0 + _ ≤ _; exact Nat.le_of_eq rfl) (hb hby d29_1) (fun _ _ => ⟨rfl, e0, (by decide : 0 + 0 ≤ _), (by decide : 0 + 0 ≤ _)⟩)
  dsimp only [Pt.U, Pt.locs, Pt.cells, Pt.slots] at X2 l2 y2 z2 st2 hQ2
  subst l2 y2 z2
  obtain ⟨rfl, N2q, e2⟩ := hQ2
  have N2 := Fr.app N0 N2q
  obtain ⟨fs, hr, hrun, hended, hW, hsame⟩ := X2.leave (v := some (.int yag_)) (fun h => by rw [Bd.returns] at h; cases h)
  refine ⟨_, _, castTop (ef_29 m a1) ?_, hrun, hended, _, _, rfl, ?_, ⟨_, rfl⟩, hW, hsame.mono (by decide) (by decide)⟩
  · show Steps p.tables e below (s₁.setTop (mkF m 0 #[vA a1] [])) _
    refine XS.aloadN X0.here hx rfl (hb hby d29_0) rfl rfl ?_
    refine st2.trans ?_
    show Steps p.tables e below (T2.setTop (mkF m 4 #[vA a1] [(.int yag_)])) _
    exact retI X2 hx Bd.returns (hb hby d29_4) hr
  · show Q_rm29 Z a1 yag_ h0 n0 _ T2.heap _
    exact ⟨rfl, N2, e2⟩
theorem d24_0 : decode jdk_38_method_9_code 0 = .ok (.aload_n 0, 1) := by decide +kernel
theorem d24_1 : decode jdk_38_method_9_code 1 = .ok (.getfield 48, 3) := by decide +kernel
theorem d24_4 : decode jdk_38_method_9_code 4 = .ok (.ifCond .ne 7, 3) := by decide +kernel
theorem d24_7 : decode jdk_38_method_9_code 7 = .ok (.iconst 1, 1) := by decide +kernel
theorem d24_8 : decode jdk_38_method_9_code 8 = .ok (.goto 4, 3) := by decide +kernel
theorem d24_12 : decode jdk_38_method_9_code 12 = .ok (.ireturn, 1) := by decide +kernel
theorem pn_24 : plainName "java/util/ArrayList" = true := by first | (simp [plainName, overriddenIn]; done) | decide +kernel
theorem ef_24 (m : MethodId) (x0 : Addr) : entryFrame m #[(.ref x0)] 1 = mkF m 0 #[.val (.ref x0)] [] := by first | (simp [entryFrame, mkF, argsToLocals, Value.category]; done) | rfl
def Q_rm24 (Z : State) (a1 : Addr) (h0 : Heap) (n0 : Nat) (v : Option Value) (h : Heap) (L : List Loc) : Prop := v = some (.int (1 : Int32)) ∧ Fr n0 L ∧ h = h0
set_option maxRecDepth 65536 in
set_option maxHeartbeats 40000000 in
theorem rm24 (l : Launch) (Z : State) (a0 : Array Value) (hw : ∀ d ∈ tables_1, d.before a0 Z = true) (ws : List Jvm.Cond) (a1 : Addr) (h0 : Heap) (n0 : Nat) (Z0 : n0 ≤ h0.size) (yiv_ : Fld Z h0 a1 "java/util/ArrayList" "size" "I" (.int (0 : Int32))) :
    MetFree l mN38 (head1 (Jvm.Cond.code mN38 jdk_38_method_9_code 1 (some .boolean) :: ws) ({ frames := 0, cells := 0, slots := 0, locals := 0 } : Room)) (fun a U => a = #[(.ref a1)] ∧ Z.Warmed39 U.vm ∧ U.heap = h0) (fun _ _ _ _ _ => True) (fun _ U o U' => ∃ v L, o = .returned v ∧ Q_rm24 Z a1 h0 n0 v U'.heap L ∧ FrameEnd U o U' L ({ frames := 0, cells := 0, slots := 0, locals := 0 } : Room).cells ({ frames := 0, cells := 0, slots := 0, locals := 0 } : Room).slots) := by
  have hi : ∀ (i : Nat) {d : Jvm.Cond}, tables_1[i]? = some d → d.before a0 Z = true := fun i d h => hw d (List.mem_of_getElem? h)
  refine MetFree.of_bodySF (plainFor_of_name pn_24) hisR ?_
  intro p e s m args below meth c s₁ Bd hml0 hP hK
  obtain ⟨rfl, hZ, hh⟩ := hP
  have hx := Bd.exec
  have hby := Bd.bytes
  have hml : c.maxLocals = 1 := hml0
  have hown : s.vm.findClass "java/util/ArrayList" = some m.cls := findClass_of_methodNamed Bd.named
  have hnm := (name_of_methodNamed Bd.named Bd.method).1
  have X0 : Stand p l e ({ frames := 0, cells := 0, slots := 0, locals := 0 } : Room) s m #[(.ref a1)] below meth c s₁ [] 0 0 := Stand.of_body Bd
  have e0 : s₁.heap = h0 := by rw [← hh, Bd.state]; rfl
  have N0 := Fr.nil n0
  obtain ⟨T2, X2, e2, st2⟩ := getF X0 hx hZ hown (host := "") (Or.inl (hi 196 rfl)) Via.refl e0 yiv_ (g := (mkF m 1 #[vA a1] [(.ref a1)])) rfl rfl (hb hby d24_1)
  obtain ⟨fs, hr, hrun, hended, hW, hsame⟩ := X2.leave (v := some (.int (1 : Int32))) (fun h => by rw [Bd.returns] at h; cases h)
  refine ⟨_, _, castTop (ef_24 m a1) ?_, hrun, hended, _, _, rfl, ?_, ⟨_, rfl⟩, hW, hsame.mono (by decide) (by decide)⟩
  · show Steps p.tables e below (s₁.setTop (mkF m 0 #[vA a1] [])) _
    refine XS.aloadN X0.here hx rfl (hb hby d24_0) rfl rfl ?_
    refine st2 _ ?_
    refine XS.ifNo X2.here hx rfl (hb hby d24_4) rfl ((if0 _ _).trans (teq (rfl : (0 : Int32) = (0 : Int32))).2) ?_
    refine XS.iconst X2.here hx rfl (hb hby d24_7) ?_
    refine XS.goto X2.here hx rfl (pc0 := 8) (pc' := 12) rfl (hb hby d24_8) (by decide) (by decide) ?_
    show Steps p.tables e below (T2.setTop (mkF m 12 #[vA a1] [(.int (1 : Int32))])) _
    exact retN X2 hx (t := .boolean) Bd.returns (by simp) (hb hby d24_12) hr
  · show Q_rm24 Z a1 h0 n0 _ T2.heap _
    exact ⟨rfl, N0, e2⟩
theorem d31_0 : decode jdk_68_method_68_code 0 = .ok (.getstatic 18, 3) := by decide +kernel
theorem d31_3 : decode jdk_68_method_68_code 3 = .ok (.ifCond .eq 14, 3) := by decide +kernel
theorem d31_6 : decode jdk_68_method_68_code 6 = .ok (.aload_n 0, 1) := by decide +kernel
theorem d31_7 : decode jdk_68_method_68_code 7 = .ok (.getfield 22, 3) := by decide +kernel
theorem d31_10 : decode jdk_68_method_68_code 10 = .ok (.ifCond .ne 7, 3) := by decide +kernel
theorem d31_13 : decode jdk_68_method_68_code 13 = .ok (.iconst 1, 1) := by decide +kernel
theorem d31_14 : decode jdk_68_method_68_code 14 = .ok (.goto 4, 3) := by decide +kernel
theorem d31_18 : decode jdk_68_method_68_code 18 = .ok (.ireturn, 1) := by decide +kernel
theorem pn_31 : plainName "java/lang/AbstractStringBuilder" = true := by first | (simp [plainName, overriddenIn]; done) | decide +kernel
theorem ef_31 (m : MethodId) (x0 : Addr) : entryFrame m #[(.ref x0)] 1 = mkF m 0 #[.val (.ref x0)] [] := by first | (simp [entryFrame, mkF, argsToLocals, Value.category]; done) | rfl
def Q_rm31 (Z : State) (a1 : Addr) (ya_ : Int32) (h0 : Heap) (n0 : Nat) (v : Option Value) (h : Heap) (L : List Loc) : Prop := v = some (.int (1 : Int32)) ∧ Fr n0 L ∧ h = h0
set_option maxRecDepth 65536 in
set_option maxHeartbeats 40000000 in
theorem rm31 (l : Launch) (Z : State) (a0 : Array Value) (hw : ∀ d ∈ tables_1, d.before a0 Z = true) (ws : List Jvm.Cond) (a1 : Addr) (ya_ : Int32) (h0 : Heap) (n0 : Nat) (Z0 : n0 ≤ h0.size) (hcs : ¬ (ya_ = (0 : Int32))) (yf_ : Sta Z h0 "java/lang/String" "COMPACT_STRINGS" "Z" (.int ya_)) (yac_ : Fld Z h0 a1 "java/lang/AbstractStringBuilder" "coder" "B" (.int (0 : Int32))) :
    MetFree l mN5 (head1 (Jvm.Cond.code mN5 jdk_68_method_68_code 1 (some .boolean) :: ws) ({ frames := 0, cells := 0, slots := 0, locals := 0 } : Room)) (fun a U => a = #[(.ref a1)] ∧ Z.Warmed39 U.vm ∧ U.heap = h0) (fun _ _ _ _ _ => True) (fun _ U o U' => ∃ v L, o = .returned v ∧ Q_rm31 Z a1 ya_ h0 n0 v U'.heap L ∧ FrameEnd U o U' L ({ frames := 0, cells := 0, slots := 0, locals := 0 } : Room).cells ({ frames := 0, cells := 0, slots := 0, locals := 0 } : Room).slots) := by
  have hi : ∀ (i : Nat) {d : Jvm.Cond}, tables_1[i]? = some d → d.before a0 Z = true := fun i d h => hw d (List.mem_of_getElem? h)
  refine MetFree.of_bodySF (plainFor_of_name pn_31) hisR ?_
  intro p e s m args below meth c s₁ Bd hml0 hP hK
  obtain ⟨rfl, hZ, hh⟩ := hP
  have hx := Bd.exec
  have hby := Bd.bytes
  have hml : c.maxLocals = 1 := hml0
  have hown : s.vm.findClass "java/lang/AbstractStringBuilder" = some m.cls := findClass_of_methodNamed Bd.named
  have hnm := (name_of_methodNamed Bd.named Bd.method).1
  have X0 : Stand p l e ({ frames := 0, cells := 0, slots := 0, locals := 0 } : Room) s m #[(.ref a1)] below meth c s₁ [] 0 0 := Stand.of_body Bd
  have e0 : s₁.heap = h0 := by rw [← hh, Bd.state]; rfl
  have N0 := Fr.nil n0
  obtain ⟨T2, X2, e2, st2⟩ := getS2 X0 hx hZ hown (host := "") (Or.inl (hi 62 rfl)) Via.refl e0 yf_ (g := (mkF m 0 #[vA a1] [])) rfl (hb hby d31_0)
  obtain ⟨T3, X3, e3, st3⟩ := getF X2 hx hZ hown (host := "") (Or.inl (hi 65 rfl)) Via.refl e2 yac_ (g := (mkF m 7 #[vA a1] [(.ref a1)])) rfl rfl (hb hby d31_7)
  obtain ⟨fs, hr, hrun, hended, hW, hsame⟩ := X3.leave (v := some (.int (1 : Int32))) (fun h => by rw [Bd.returns] at h; cases h)
  refine ⟨_, _, castTop (ef_31 m a1) ?_, hrun, hended, _, _, rfl, ?_, ⟨_, rfl⟩, hW, hsame.mono (by decide) (by decide)⟩
  · show Steps p.tables e below (s₁.setTop (mkF m 0 #[vA a1] [])) _
    refine st2 _ ?_
    refine XS.ifNo X2.here hx rfl (hb hby d31_3) rfl ((if0 _ _).trans (feq (show ¬ (ya_ = (0 : Int32)) from hcs)).1) ?_
    refine XS.aloadN X2.here hx rfl (hb hby d31_6) rfl rfl ?_
    refine st3 _ ?_
    refine XS.ifNo X3.here hx rfl (hb hby d31_10) rfl ((if0 _ _).trans (teq (rfl : (0 : Int32) = (0 : Int32))).2) ?_
    refine XS.iconst X3.here hx rfl (hb hby d31_13) ?_
    refine XS.goto X3.here hx rfl (pc0 := 14) (pc' := 18) rfl (hb hby d31_14) (by decide) (by decide) ?_
    show Steps p.tables e below (T3.setTop (mkF m 18 #[vA a1] [(.int (1 : Int32))])) _
    exact retN X3 hx (t := .boolean) Bd.returns (by simp) (hb hby d31_18) hr
  · show Q_rm31 Z a1 ya_ h0 n0 _ T3.heap _
    exact ⟨rfl, N0, e3⟩
theorem d42_0 : decode jdk_41_method_11_code 0 = .ok (.iload_n 0, 1) := by decide +kernel
theorem d42_1 : decode jdk_41_method_11_code 1 = .ok (.ifCond .lt 8, 3) := by decide +kernel
theorem d42_4 : decode jdk_41_method_11_code 4 = .ok (.iload_n 0, 1) := by decide +kernel
theorem d42_5 : decode jdk_41_method_11_code 5 = .ok (.iload_n 1, 1) := by decide +kernel
theorem d42_6 : decode jdk_41_method_11_code 6 = .ok (.if_icmp .lt 10, 3) := by decide +kernel
theorem d42_16 : decode jdk_41_method_11_code 16 = .ok (.iload_n 0, 1) := by decide +kernel
theorem d42_17 : decode jdk_41_method_11_code 17 = .ok (.ireturn, 1) := by decide +kernel
theorem pn_42 : plainName "jdk/internal/util/Preconditions" = true := by first | (simp [plainName, overriddenIn]; done) | decide +kernel
theorem ef_42 (m : MethodId) (x0 : Int32) (x1 : Int32) (x2 : Addr) : entryFrame m #[(.int x0), (.int x1), (.ref x2)] 3 = mkF m 0 #[.val (.int x0), .val (.int x1), .val (.ref x2)] [] := by first | (simp [entryFrame, mkF, argsToLocals, Value.category]; done) | rfl
def Q_rm42r (Z : State) (p1 : Int32) (p2 : Int32) (a3 : Addr) (h0 : Heap) (n0 : Nat) (v : Option Value) (h : Heap) (L : List Loc) : Prop := v = some (.int p1) ∧ Fr n0 L ∧ h = h0
set_option maxRecDepth 65536 in
set_option maxHeartbeats 40000000 in
theorem rm42r (l : Launch) (Z : State) (a0 : Array Value) (hw : ∀ d ∈ tables_1, d.before a0 Z = true) (ws : List Jvm.Cond) (p1 : Int32) (p2 : Int32) (a3 : Addr) (h0 : Heap) (n0 : Nat) (Z0 : n0 ≤ h0.size) (hc1 : ¬ (p1 < (0 : Int32))) (hc6 : p1 < p2) :
    MetFree l mN47 (head1 (Jvm.Cond.code mN47 jdk_41_method_11_code 3 (some .int) :: ws) ({ frames := 0, cells := 0, slots := 0, locals := 0 } : Room)) (fun a U => a = #[(.int p1), (.int p2), (.ref a3)] ∧ Z.Warmed39 U.vm ∧ U.heap = h0) (fun _ _ _ _ _ => True) (fun _ U o U' => ∃ v L, o = .returned v ∧ Q_rm42r Z p1 p2 a3 h0 n0 v U'.heap L ∧ FrameEnd U o U' L ({ frames := 0, cells := 0, slots := 0, locals := 0 } : Room).cells ({ frames := 0, cells := 0, slots := 0, locals := 0 } : Room).slots) := by
  have hi : ∀ (i : Nat) {d : Jvm.Cond}, tables_1[i]? = some d → d.before a0 Z = true := fun i d h => hw d (List.mem_of_getElem? h)
  refine MetFree.of_bodySF (plainFor_of_name pn_42) hisR ?_
  intro p e s m args below meth c s₁ Bd hml0 hP hK
  obtain ⟨rfl, hZ, hh⟩ := hP
  have hx := Bd.exec
  have hby := Bd.bytes
  have hml : c.maxLocals = 3 := hml0
  have hown : s.vm.findClass "jdk/internal/util/Preconditions" = some m.cls := findClass_of_methodNamed Bd.named
  have hnm := (name_of_methodNamed Bd.named Bd.method).1
  have X0 : Stand p l e ({ frames := 0, cells := 0, slots := 0, locals := 0 } : Room) s m #[(.int p1), (.int p2), (.ref a3)] below meth c s₁ [] 0 0 := Stand.of_body Bd
  have e0 : s₁.heap = h0 := by rw [← hh, Bd.state]; rfl
  have N0 := Fr.nil n0
  obtain ⟨fs, hr, hrun, hended, hW, hsame⟩ := X0.leave (v := some (.int p1)) (fun h => by rw [Bd.returns] at h; cases h)
  refine ⟨_, _, castTop (ef_42 m p1 p2 a3) ?_, hrun, hended, _, _, rfl, ?_, ⟨_, rfl⟩, hW, hsame.mono (by decide) (by decide)⟩
  · show Steps p.tables e below (s₁.setTop (mkF m 0 #[vI p1, vI p2, vA a3] [])) _
    refine XS.iloadN X0.here hx rfl (hb hby d42_0) rfl ?_
    refine XS.ifNo X0.here hx rfl (hb hby d42_1) rfl ((if0 _ _).trans (flt hc1).1) ?_
    refine XS.iloadN X0.here hx rfl (hb hby d42_4) rfl ?_
    refine XS.iloadN X0.here hx rfl (hb hby d42_5) rfl ?_
    refine XS.icmpYes X0.here hx rfl (pc0 := 6) (pc' := 16) rfl (hb hby d42_6) rfl (tlt hc6).1 (by decide) (by decide) ?_
    refine XS.iloadN X0.here hx rfl (hb hby d42_16) rfl ?_
    show Steps p.tables e below (s₁.setTop (mkF m 17 #[vI p1, vI p2, vA a3] [(.int p1)])) _
    exact retI X0 hx Bd.returns (hb hby d42_17) hr
  · show Q_rm42r Z p1 p2 a3 h0 n0 _ s₁.heap _
    exact ⟨rfl, N0, e0⟩
theorem ef_42n2 (m : MethodId) (x0 : Int32) (x1 : Int32) : entryFrame m #[(.int x0), (.int x1), .null] 3 = mkF m 0 #[.val (.int x0), .val (.int x1), .val .null] [] := by first | (simp [entryFrame, mkF, argsToLocals, Value.category]; done) | rfl
def Q_rm42n (Z : State) (p1 : Int32) (p2 : Int32) (h0 : Heap) (n0 : Nat) (v : Option Value) (h : Heap) (L : List Loc) : Prop := v = some (.int p1) ∧ Fr n0 L ∧ h = h0
set_option maxRecDepth 65536 in
set_option maxHeartbeats 40000000 in
theorem rm42n (l : Launch) (Z : State) (a0 : Array Value) (hw : ∀ d ∈ tables_1, d.before a0 Z = true) (ws : List Jvm.Cond) (p1 : Int32) (p2 : Int32) (h0 : Heap) (n0 : Nat) (Z0 : n0 ≤ h0.size) (hc1 : ¬ (p1 < (0 : Int32))) (hc6 : p1 < p2) :
    MetFree l mN47 (head1 (Jvm.Cond.code mN47 jdk_41_method_11_code 3 (some .int) :: ws) ({ frames := 0, cells := 0, slots := 0, locals := 0 } : Room)) (fun a U => a = #[(.int p1), (.int p2), .null] ∧ Z.Warmed39 U.vm ∧ U.heap = h0) (fun _ _ _ _ _ => True) (fun _ U o U' => ∃ v L, o = .returned v ∧ Q_rm42n Z p1 p2 h0 n0 v U'.heap L ∧ FrameEnd U o U' L ({ frames := 0, cells := 0, slots := 0, locals := 0 } : Room).cells ({ frames := 0, cells := 0, slots := 0, locals := 0 } : Room).slots) := by
  have hi : ∀ (i : Nat) {d : Jvm.Cond}, tables_1[i]? = some d → d.before a0 Z = true := fun i d h => hw d (List.mem_of_getElem? h)
  refine MetFree.of_bodySF (plainFor_of_name pn_42) hisR ?_
  intro p e s m args below meth c s₁ Bd hml0 hP hK
  obtain ⟨rfl, hZ, hh⟩ := hP
  have hx := Bd.exec
  have hby := Bd.bytes
  have hml : c.maxLocals = 3 := hml0
  have hown : s.vm.findClass "jdk/internal/util/Preconditions" = some m.cls := findClass_of_methodNamed Bd.named
  have hnm := (name_of_methodNamed Bd.named Bd.method).1
  have X0 : Stand p l e ({ frames := 0, cells := 0, slots := 0, locals := 0 } : Room) s m #[(.int p1), (.int p2), .null] below meth c s₁ [] 0 0 := Stand.of_body Bd
  have e0 : s₁.heap = h0 := by rw [← hh, Bd.state]; rfl
  have N0 := Fr.nil n0
  obtain ⟨fs, hr, hrun, hended, hW, hsame⟩ := X0.leave (v := some (.int p1)) (fun h => by rw [Bd.returns] at h; cases h)
  refine ⟨_, _, castTop (ef_42n2 m p1 p2) ?_, hrun, hended, _, _, rfl, ?_, ⟨_, rfl⟩, hW, hsame.mono (by decide) (by decide)⟩
  · show Steps p.tables e below (s₁.setTop (mkF m 0 #[vI p1, vI p2, .val .null] [])) _
    refine XS.iloadN X0.here hx rfl (hb hby d42_0) rfl ?_
    refine XS.ifNo X0.here hx rfl (hb hby d42_1) rfl ((if0 _ _).trans (flt hc1).1) ?_
    refine XS.iloadN X0.here hx rfl (hb hby d42_4) rfl ?_
    refine XS.iloadN X0.here hx rfl (hb hby d42_5) rfl ?_
    refine XS.icmpYes X0.here hx rfl (pc0 := 6) (pc' := 16) rfl (hb hby d42_6) rfl (tlt hc6).1 (by decide) (by decide) ?_
    refine XS.iloadN X0.here hx rfl (hb hby d42_16) rfl ?_
    show Steps p.tables e below (s₁.setTop (mkF m 17 #[vI p1, vI p2, .val .null] [(.int p1)])) _
    exact retI X0 hx Bd.returns (hb hby d42_17) hr
  · show Q_rm42n Z p1 p2 h0 n0 _ s₁.heap _
    exact ⟨rfl, N0, e0⟩
theorem ydd_ : parseMethodDescriptor "(IILjava/util/function/BiFunction;)I" = some ⟨[.int, .int, (.object "java/util/function/BiFunction")], some .int⟩ := by decide +kernel
theorem d41_0 : decode jdk_42_method_155_code 0 = .ok (.iload_n 0, 1) := by decide +kernel
theorem d41_1 : decode jdk_42_method_155_code 1 = .ok (.iload_n 1, 1) := by decide +kernel
theorem d41_2 : decode jdk_42_method_155_code 2 = .ok (.getstatic 1053, 3) := by decide +kernel
theorem d41_5 : decode jdk_42_method_155_code 5 = .ok (.invokestatic 1059, 3) := by decide +kernel
theorem d41_8 : decode jdk_42_method_155_code 8 = .ok (.pop, 1) := by decide +kernel
theorem d41_9 : decode jdk_42_method_155_code 9 = .ok (.return_, 1) := by decide +kernel
theorem pn_41 : plainName "java/lang/String" = true := by first | (simp [plainName, overriddenIn]; done) | decide +kernel
theorem ef_41 (m : MethodId) (x0 : Int32) (x1 : Int32) : entryFrame m #[(.int x0), (.int x1)] 2 = mkF m 0 #[.val (.int x0), .val (.int x1)] [] := by first | (simp [entryFrame, mkF, argsToLocals, Value.category]; done) | rfl
def Q_rm41r (Z : State) (p1 : Int32) (p2 : Int32) (yb_ : Addr) (h0 : Heap) (n0 : Nat) (v : Option Value) (h : Heap) (L : List Loc) : Prop := v = none ∧ Fr n0 L ∧ h = h0
set_option maxRecDepth 65536 in
set_option maxHeartbeats 40000000 in
theorem rm41r (l : Launch) (Z : State) (a0 : Array Value) (hw : ∀ d ∈ tables_1, d.before a0 Z = true) (ws : List Jvm.Cond) (p1 : Int32) (p2 : Int32) (yb_ : Addr) (h0 : Heap) (n0 : Nat) (Z0 : n0 ≤ h0.size) (yx_ : Sta Z h0 "jdk/internal/util/Preconditions" "SIOOBE_FORMATTER" "Ljava/util/function/BiFunction;" (.ref yb_)) (hhc1_5 : ¬ (p1 < (0 : Int32))) (hhc6_5 : p1 < p2) :
    MetFree l mN17 (head1 (Jvm.Cond.code mN17 jdk_42_method_155_code 2 none :: ws) ({ frames := 1, cells := 0, slots := 0, locals := 14 } : Room)) (fun a U => a = #[(.int p1), (.int p2)] ∧ Z.Warmed39 U.vm ∧ U.heap = h0) (fun _ _ _ _ _ => True) (fun _ U o U' => ∃ v L, o = .returned v ∧ Q_rm41r Z p1 p2 yb_ h0 n0 v U'.heap L ∧ FrameEnd U o U' L ({ frames := 1, cells := 0, slots := 0, locals := 14 } : Room).cells ({ frames := 1, cells := 0, slots := 0, locals := 14 } : Room).slots) := by
  have hi : ∀ (i : Nat) {d : Jvm.Cond}, tables_1[i]? = some d → d.before a0 Z = true := fun i d h => hw d (List.mem_of_getElem? h)
  refine MetFree.of_bodySF (plainFor_of_name pn_41) hisR ?_
  intro p e s m args below meth c s₁ Bd hml0 hP hK
  obtain ⟨rfl, hZ, hh⟩ := hP
  have hx := Bd.exec
  have hby := Bd.bytes
  have hml : c.maxLocals = 2 := hml0
  have hown : s.vm.findClass "java/lang/String" = some m.cls := findClass_of_methodNamed Bd.named
  have hnm := (name_of_methodNamed Bd.named Bd.method).1
  have X0 : Stand p l e ({ frames := 1, cells := 0, slots := 0, locals := 14 } : Room) s m #[(.int p1), (.int p2)] below meth c s₁ [] 0 0 := Stand.of_body Bd
  have e0 : s₁.heap = h0 := by rw [← hh, Bd.state]; rfl
  have N0 := Fr.nil n0
  obtain ⟨T3, X3, e3, st3⟩ := getS2 X0 hx hZ hown (host := "") (Or.inl (hi 270 rfl)) Via.refl e0 yx_ (g := (mkF m 2 #[vI p1, vI p2] [(.int p2), (.int p1)])) rfl (hb hby d41_2)
  obtain ⟨_, _, ⟨T4, L4, k4, n4⟩, -, X4, ⟨Lc4, hQ4, l4, y4, z4⟩, st4⟩ := Jvm.LawKit.callS X3 hx (y := mN47) hown (mvT hZ (hi 272 rfl)) (mvT hZ (hi 273 rfl)) (mvT hZ (hi 271 rfl)) (mvT hZ (hi 274 rfl)) (by decide) (backOf (W := 0) (rm42r l Z a0 hw [] p1 p2 yb_ h0 n0 Z0 hhc1_5 hhc6_5) hZ (hi 274 rfl) (hi 271 rfl) (by decide) (by decide)) (g := (mkF m 5 #[vI p1, vI p2] [(.ref yb_), (.int p2), (.int p1)])) rfl (by rw [hml]; rfl) (argsL := [(.int p1), (.int p2), (.ref yb_)]) (rest := []) (lenOf ydd_ rfl) rfl (by show 2 * 0 + _ ≤ _; exact Nat.le_of_eq rfl) (hb hby d41_5) (fun _ _ => ⟨rfl, e3, (by decide : 0 + 0 ≤ _), (by decide : 0 + 0 ≤ _)⟩)
  dsimp only [Pt.U, Pt.locs, Pt.cells, Pt.slots] at X4 l4 y4 z4 st4 hQ4
  subst l4 y4 z4
  obtain ⟨rfl, N4q, e4⟩ := hQ4
  have N4 := Fr.app N0 N4q
  obtain ⟨fs, hr, hrun, hended, hW, hsame⟩ := X4.leave (v := none) (fun _ => rfl)
  refine ⟨_, _, castTop (ef_41 m p1 p2) ?_, hrun, hended, _, _, rfl, ?_, ⟨_, rfl⟩, hW, hsame.mono (by decide) (by decide)⟩
  · show Steps p.tables e below (s₁.setTop (mkF m 0 #[vI p1, vI p2] [])) _
    refine XS.iloadN X0.here hx rfl (hb hby d41_0) rfl ?_
    refine XS.iloadN X0.here hx rfl (hb hby d41_1) rfl ?_
    refine st3 _ ?_
    refine st4 _ ?_
    refine XS.pop X4.here hx rfl (hb hby d41_8) rfl rfl ?_
    show Steps p.tables e below (T4.setTop (mkF m 9 #[vI p1, vI p2] [])) _
    exact X4.returnOut hx Bd.returns (hb hby d41_9) hr
  · show Q_rm41r Z p1 p2 yb_ h0 n0 _ T4.heap _
    exact ⟨rfl, N4, e4⟩
def Q_rm41n (Z : State) (p1 : Int32) (p2 : Int32) (h0 : Heap) (n0 : Nat) (v : Option Value) (h : Heap) (L : List Loc) : Prop := v = none ∧ Fr n0 L ∧ h = h0
set_option maxRecDepth 65536 in
set_option maxHeartbeats 40000000 in
theorem rm41n (l : Launch) (Z : State) (a0 : Array Value) (hw : ∀ d ∈ tables_1, d.before a0 Z = true) (ws : List Jvm.Cond) (p1 : Int32) (p2 : Int32) (h0 : Heap) (n0 : Nat) (Z0 : n0 ≤ h0.size) (yx_ : Sta Z h0 "jdk/internal/util/Preconditions" "SIOOBE_FORMATTER" "Ljava/util/function/BiFunction;" .null) (hhc1_5 : ¬ (p1 < (0 : Int32))) (hhc6_5 : p1 < p2) :
    MetFree l mN17 (head1 (Jvm.Cond.code mN17 jdk_42_method_155_code 2 none :: ws) ({ frames := 1, cells := 0, slots := 0, locals := 14 } : Room)) (fun a U => a = #[(.int p1), (.int p2)] ∧ Z.Warmed39 U.vm ∧ U.heap = h0) (fun _ _ _ _ _ => True) (fun _ U o U' => ∃ v L, o = .returned v ∧ Q_rm41n Z p1 p2 h0 n0 v U'.heap L ∧ FrameEnd U o U' L ({ frames := 1, cells := 0, slots := 0, locals := 14 } : Room).cells ({ frames := 1, cells := 0, slots := 0, locals := 14 } : Room).slots) := by
  have hi : ∀ (i : Nat) {d : Jvm.Cond}, tables_1[i]? = some d → d.before a0 Z = true := fun i d h => hw d (List.mem_of_getElem? h)
  refine MetFree.of_bodySF (plainFor_of_name pn_41) hisR ?_
  intro p e s m args below meth c s₁ Bd hml0 hP hK
  obtain ⟨rfl, hZ, hh⟩ := hP
  have hx := Bd.exec
  have hby := Bd.bytes
  have hml : c.maxLocals = 2 := hml0
  have hown : s.vm.findClass "java/lang/String" = some m.cls := findClass_of_methodNamed Bd.named
  have hnm := (name_of_methodNamed Bd.named Bd.method).1
  have X0 : Stand p l e ({ frames := 1, cells := 0, slots := 0, locals := 14 } : Room) s m #[(.int p1), (.int p2)] below meth c s₁ [] 0 0 := Stand.of_body Bd
  have e0 : s₁.heap = h0 := by rw [← hh, Bd.state]; rfl
  have N0 := Fr.nil n0
  obtain ⟨T3, X3, e3, st3⟩ := getS2 X0 hx hZ hown (host := "") (Or.inl (hi 270 rfl)) Via.refl e0 yx_ (g := (mkF m 2 #[vI p1, vI p2] [(.int p2), (.int p1)])) rfl (hb hby d41_2)
  obtain ⟨_, _, ⟨T4, L4, k4, n4⟩, -, X4, ⟨Lc4, hQ4, l4, y4, z4⟩, st4⟩ := Jvm.LawKit.callS X3 hx (y := mN47) hown (mvT hZ (hi 272 rfl)) (mvT hZ (hi 273 rfl)) (mvT hZ (hi 271 rfl)) (mvT hZ (hi 274 rfl)) (by decide) (backOf (W := 0) (rm42n l Z a0 hw [] p1 p2 h0 n0 Z0 hhc1_5 hhc6_5) hZ (hi 274 rfl) (hi 271 rfl) (by decide) (by decide)) (g := (mkF m 5 #[vI p1, vI p2] [.null, (.int p2), (.int p1)])) rfl (by rw [hml]; rfl) (argsL := [(.int p1), (.int p2), .null]) (rest := []) (lenOf ydd_ rfl) rfl (by show 2 * 0 + _ ≤ _; exact Nat.le_of_eq rfl) (hb hby d41_5) (fun _ _ => ⟨rfl, e3, (by decide : 0 + 0 ≤ _), (by decide : 0 + 0 ≤ _)⟩)
  dsimp only [Pt.U, Pt.locs, Pt.cells, Pt.slots] at X4 l4 y4 z4 st4 hQ4
  subst l4 y4 z4
  obtain ⟨rfl, N4q, e4⟩ := hQ4
  have N4 := Fr.app N0 N4q
  obtain ⟨fs, hr, hrun, hended, hW, hsame⟩ := X4.leave (v := none) (fun _ => rfl)
  refine ⟨_, _, castTop (ef_41 m p1 p2) ?_, hrun, hended, _, _, rfl, ?_, ⟨_, rfl⟩, hW, hsame.mono (by decide) (by decide)⟩
  · show Steps p.tables e below (s₁.setTop (mkF m 0 #[vI p1, vI p2] [])) _
    refine XS.iloadN X0.here hx rfl (hb hby d41_0) rfl ?_
    refine XS.iloadN X0.here hx rfl (hb hby d41_1) rfl ?_
    refine st3 _ ?_
    refine st4 _ ?_
    refine XS.pop X4.here hx rfl (hb hby d41_8) rfl rfl ?_
    show Steps p.tables e below (T4.setTop (mkF m 9 #[vI p1, vI p2] [])) _
    exact X4.returnOut hx Bd.returns (hb hby d41_9) hr
  · show Q_rm41n Z p1 p2 h0 n0 _ T4.heap _
    exact ⟨rfl, N4, e4⟩
def Q_rm41 (Z : State) (p1 : Int32) (p2 : Int32) (yb_ : Value) (h0 : Heap) (n0 : Nat) (v : Option Value) (h : Heap) (L : List Loc) : Prop := v = none ∧ Fr n0 L ∧ h = h0
theorem rm41 (l : Launch) (Z : State) (a0 : Array Value) (hw : ∀ d ∈ tables_1, d.before a0 Z = true) (ws : List Jvm.Cond) (p1 : Int32) (p2 : Int32) (yb_ : Value) (h0 : Heap) (n0 : Nat) (Z0 : n0 ≤ h0.size) (hsv : yb_.isRef = true) (yx_ : Sta Z h0 "jdk/internal/util/Preconditions" "SIOOBE_FORMATTER" "Ljava/util/function/BiFunction;" yb_) (hhc1_5 : ¬ (p1 < (0 : Int32))) (hhc6_5 : p1 < p2) :
    MetFree l mN17 (head1 (Jvm.Cond.code mN17 jdk_42_method_155_code 2 none :: ws) ({ frames := 1, cells := 0, slots := 0, locals := 14 } : Room)) (fun a U => a = #[(.int p1), (.int p2)] ∧ Z.Warmed39 U.vm ∧ U.heap = h0) (fun _ _ _ _ _ => True) (fun _ U o U' => ∃ v L, o = .returned v ∧ Q_rm41 Z p1 p2 yb_ h0 n0 v U'.heap L ∧ FrameEnd U o U' L ({ frames := 1, cells := 0, slots := 0, locals := 14 } : Room).cells ({ frames := 1, cells := 0, slots := 0, locals := 14 } : Room).slots) := by
  rcases ref_cases hsv with rfl | ⟨sx, rfl⟩
  · exact rm41n l Z a0 hw ws p1 p2 h0 n0 Z0 yx_ hhc1_5 hhc6_5
  · exact rm41r l Z a0 hw ws p1 p2 sx h0 n0 Z0 yx_ hhc1_5 hhc6_5
theorem ylr_ : parseMethodDescriptor "(II)V" = some ⟨[.int, .int], none⟩ := by decide +kernel
theorem d40_0 : decode jdk_43_method_2_code 0 = .ok (.iload_n 1, 1) := by decide +kernel
theorem d40_1 : decode jdk_43_method_2_code 1 = .ok (.aload_n 0, 1) := by decide +kernel
theorem d40_2 : decode jdk_43_method_2_code 2 = .ok (.arraylength, 1) := by decide +kernel
theorem d40_3 : decode jdk_43_method_2_code 3 = .ok (.invokestatic 9, 3) := by decide +kernel
theorem d40_6 : decode jdk_43_method_2_code 6 = .ok (.aload_n 0, 1) := by decide +kernel
theorem d40_7 : decode jdk_43_method_2_code 7 = .ok (.iload_n 1, 1) := by decide +kernel
theorem d40_8 : decode jdk_43_method_2_code 8 = .ok (.baload, 1) := by decide +kernel
theorem d40_9 : decode jdk_43_method_2_code 9 = .ok (.sipush 255, 3) := by decide +kernel
theorem d40_12 : decode jdk_43_method_2_code 12 = .ok (.iand, 1) := by decide +kernel
theorem d40_13 : decode jdk_43_method_2_code 13 = .ok (.i2c, 1) := by decide +kernel
theorem d40_14 : decode jdk_43_method_2_code 14 = .ok (.ireturn, 1) := by decide +kernel
theorem pn_40 : plainName "java/lang/StringLatin1" = true := by first | (simp [plainName, overriddenIn]; done) | decide +kernel
theorem ef_40 (m : MethodId) (x0 : Addr) (x1 : Int32) : entryFrame m #[(.ref x0), (.int x1)] 2 = mkF m 0 #[.val (.ref x0), .val (.int x1)] [] := by first | (simp [entryFrame, mkF, argsToLocals, Value.category]; done) | rfl
def Q_rm40 (Z : State) (a1 : Addr) (p2 : Int32) (k_a1 : ClassId) (z_a1 : Int32) (vs_a1 : List Value) (yb_ : Value) (w8 : Int32) (h0 : Heap) (n0 : Nat) (v : Option Value) (h : Heap) (L : List Loc) : Prop := v = some (.int (nar .char ((w8 &&& (255 : Int32)).toUInt32.toUInt16.toUInt32.toInt32))) ∧ Fr n0 L ∧ h = h0
set_option maxRecDepth 65536 in
set_option maxHeartbeats 40000000 in
theorem rm40 (l : Launch) (Z : State) (a0 : Array Value) (hw : ∀ d ∈ tables_1, d.before a0 Z = true) (ws : List Jvm.Cond) (a1 : Addr) (p2 : Int32) (k_a1 : ClassId) (z_a1 : Int32) (vs_a1 : List Value) (yb_ : Value) (w8 : Int32) (h0 : Heap) (n0 : Nat) (Z0 : n0 ≤ h0.size) (hsv : yb_.isRef = true) (V_a1 : Arv Z h0 a1 k_a1 .byte z_a1 vs_a1 (.int (0 : Int32))) (yx_ : Sta Z h0 "jdk/internal/util/Preconditions" "SIOOBE_FORMATTER" "Ljava/util/function/BiFunction;" yb_) (yqj_ : ¬ (p2 < (0 : Int32))) (yqk_ : p2 < z_a1) (hi8 : ¬ p2 < 0 ∧ p2 < z_a1) (hs8 : (vs_a1).getD (p2).toNatClampNeg (.int (0 : Int32)) = (.int w8)) :
    MetFree l mN28 (head1 (Jvm.Cond.code mN28 jdk_43_method_2_code 2 (some .char) :: ws) ({ frames := 2, cells := 0, slots := 0, locals := 27 } : Room)) (fun a U => a = #[(.ref a1), (.int p2)] ∧ Z.Warmed39 U.vm ∧ U.heap = h0) (fun _ _ _ _ _ => True) (fun _ U o U' => ∃ v L, o = .returned v ∧ Q_rm40 Z a1 p2 k_a1 z_a1 vs_a1 yb_ w8 h0 n0 v U'.heap L ∧ FrameEnd U o U' L ({ frames := 2, cells := 0, slots := 0, locals := 27 } : Room).cells ({ frames := 2, cells := 0, slots := 0, locals := 27 } : Room).slots) := by
  have hi : ∀ (i : Nat) {d : Jvm.Cond}, tables_1[i]? = some d → d.before a0 Z = true := fun i d h => hw d (List.mem_of_getElem? h)
  refine MetFree.of_bodySF (plainFor_of_name pn_40) hisR ?_
  intro p e s m args below meth c s₁ Bd hml0 hP hK
  obtain ⟨rfl, hZ, hh⟩ := hP
  have hx := Bd.exec
  have hby := Bd.bytes
  have hml : c.maxLocals = 2 := hml0
  have hown : s.vm.findClass "java/lang/StringLatin1" = some m.cls := findClass_of_methodNamed Bd.named
  have hnm := (name_of_methodNamed Bd.named Bd.method).1
  have X0 : Stand p l e ({ frames := 2, cells := 0, slots := 0, locals := 27 } : Room) s m #[(.ref a1), (.int p2)] below meth c s₁ [] 0 0 := Stand.of_body Bd
  have e0 : s₁.heap = h0 := by rw [← hh, Bd.state]; rfl
  have N0 := Fr.nil n0
  obtain ⟨cl_a1_0, Ar_a1_0, q_a1_0, Sz_a1_0, Ng_a1_0, Ha_a1_0, Gt_a1_0⟩ := id V_a1
  obtain ⟨_, _, ⟨T3, L3, k3, n3⟩, -, X3, ⟨Lc3, hQ3, l3, y3, z3⟩, st3⟩ := Jvm.LawKit.callS X0 hx (y := mN17) hown (mvT hZ (hi 267 rfl)) (mvT hZ (hi 268 rfl)) (mvT hZ (hi 4 rfl)) (mvT hZ (hi 269 rfl)) (by decide) (backOf (W := 0) (rm41 l Z a0 hw [] p2 z_a1 yb_ h0 n0 Z0 hsv yx_ yqj_ yqk_) hZ (hi 269 rfl) (hi 4 rfl) (by decide) (by decide)) (g := (mkF m 3 #[vA a1, vI p2] [(.int z_a1), (.int p2)])) rfl (by rw [hml]; rfl) (argsL := [(.int p2), (.int z_a1)]) (rest := []) (lenOf ylr_ rfl) rfl (by show 2 * 0 + _ ≤ _; exact Nat.le_of_eq rfl) (hb hby d40_3) (fun _ _ => ⟨rfl, e0, (by decide : 0 + 0 ≤ _), (by decide : 0 + 0 ≤ _)⟩)
  dsimp only [Pt.U, Pt.locs, Pt.cells, Pt.slots] at X3 l3 y3 z3 st3 hQ3
  subst l3 y3 z3
  obtain ⟨rfl, N3q, e3⟩ := hQ3
  have N3 := Fr.app N0 N3q
  obtain ⟨cl_a1_1, Ar_a1_1, q_a1_1, Sz_a1_1, Ng_a1_1, Ha_a1_1, Gt_a1_1⟩ := id V_a1
  have yoq_ : ¬ (p2 < 0 ∨ cl_a1_1.slots.size ≤ (p2).toNatClampNeg) := inb_of Sz_a1_1 hi8
  have yqs_ : cl_a1_1.slots[(p2).toNatClampNeg]? = some (.int w8) := (Ha_a1_1 _ (Nat.lt_of_not_le fun q => yoq_ (Or.inr q))).trans (congrArg some (hs8 : (vs_a1).getD (p2).toNatClampNeg (.int (0 : Int32)) = (.int w8)))
  obtain ⟨fs, hr, hrun, hended, hW, hsame⟩ := X3.leave (v := some (.int (nar .char ((w8 &&& (255 : Int32)).toUInt32.toUInt16.toUInt32.toInt32)))) (fun h => by rw [Bd.returns] at h; cases h)
  refine ⟨_, _, castTop (ef_40 m a1 p2) ?_, hrun, hended, _, _, rfl, ?_, ⟨_, rfl⟩, hW, hsame.mono (by decide) (by decide)⟩
  · show Steps p.tables e below (s₁.setTop (mkF m 0 #[vA a1, vI p2] [])) _
    refine XS.iloadN X0.here hx rfl (hb hby d40_0) rfl ?_
    refine XS.aloadN X0.here hx rfl (hb hby d40_1) rfl rfl ?_
    refine X0.arraylength hx (by rw [e0]; exact Ar_a1_0.1) (State.isArrayOf_alike hZ.alike Ar_a1_0.2.1) (g := (mkF m 2 #[vA a1, vI p2] [(.ref a1), (.int p2)])) rfl rfl (hb hby d40_2) _ ?_
    rw [len_of Sz_a1_0 Ng_a1_0]
    refine st3 _ ?_
    refine XS.aloadN X3.here hx rfl (hb hby d40_6) rfl rfl ?_
    refine XS.iloadN X3.here hx rfl (hb hby d40_7) rfl ?_
    refine X3.baloadBytes hx (j := p2) (v := (.int w8)) (by rw [e3]; exact Ar_a1_1.1) (State.isArrayOf_alike hZ.alike Ar_a1_1.2.1) Ar_a1_1.2.2 yoq_ yqs_ (g := (mkF m 8 #[vA a1, vI p2] [(.int p2), (.ref a1)])) rfl rfl (hb hby d40_8) _ ?_
    refine XS.sipush X3.here hx rfl (hb hby d40_9) ?_
    refine XS.iand X3.here hx rfl (hb hby d40_12) rfl ?_
    refine XS.i2c X3.here hx rfl (hb hby d40_13) rfl ?_
    show Steps p.tables e below (T3.setTop (mkF m 14 #[vA a1, vI p2] [(.int ((w8 &&& (255 : Int32)).toUInt32.toUInt16.toUInt32.toInt32))])) _
    exact retN X3 hx (t := .char) Bd.returns (by simp) (hb hby d40_14) hr
  · show Q_rm40 Z a1 p2 k_a1 z_a1 vs_a1 yb_ w8 h0 n0 _ T3.heap _
    exact ⟨rfl, N3, e3⟩
theorem d39_0 : decode jdk_42_method_154_code 0 = .ok (.getstatic 38, 3) := by decide +kernel
theorem d39_3 : decode jdk_42_method_154_code 3 = .ok (.ifCond .eq 14, 3) := by decide +kernel
theorem d39_6 : decode jdk_42_method_154_code 6 = .ok (.aload_n 0, 1) := by decide +kernel
theorem d39_7 : decode jdk_42_method_154_code 7 = .ok (.getfield 15, 3) := by decide +kernel
theorem d39_10 : decode jdk_42_method_154_code 10 = .ok (.ifCond .ne 7, 3) := by decide +kernel
theorem d39_13 : decode jdk_42_method_154_code 13 = .ok (.iconst 1, 1) := by decide +kernel
theorem d39_14 : decode jdk_42_method_154_code 14 = .ok (.goto 4, 3) := by decide +kernel
theorem d39_18 : decode jdk_42_method_154_code 18 = .ok (.ireturn, 1) := by decide +kernel
theorem pn_39 : plainName "java/lang/String" = true := by first | (simp [plainName, overriddenIn]; done) | decide +kernel
theorem ef_39 (m : MethodId) (x0 : Addr) : entryFrame m #[(.ref x0)] 1 = mkF m 0 #[.val (.ref x0)] [] := by first | (simp [entryFrame, mkF, argsToLocals, Value.category]; done) | rfl
def Q_rm39 (Z : State) (a1 : Addr) (ya_ : Int32) (h0 : Heap) (n0 : Nat) (v : Option Value) (h : Heap) (L : List Loc) : Prop := v = some (.int (1 : Int32)) ∧ Fr n0 L ∧ h = h0
set_option maxRecDepth 65536 in
set_option maxHeartbeats 40000000 in
theorem rm39 (l : Launch) (Z : State) (a0 : Array Value) (hw : ∀ d ∈ tables_1, d.before a0 Z = true) (ws : List Jvm.Cond) (a1 : Addr) (ya_ : Int32) (h0 : Heap) (n0 : Nat) (Z0 : n0 ≤ h0.size) (hcs : ¬ (ya_ = (0 : Int32))) (yf_ : Sta Z h0 "java/lang/String" "COMPACT_STRINGS" "Z" (.int ya_)) (yac_ : Fld Z h0 a1 "java/lang/String" "coder" "B" (.int (0 : Int32))) :
    MetFree l mN20 (head1 (Jvm.Cond.code mN20 jdk_42_method_154_code 1 (some .boolean) :: ws) ({ frames := 0, cells := 0, slots := 0, locals := 0 } : Room)) (fun a U => a = #[(.ref a1)] ∧ Z.Warmed39 U.vm ∧ U.heap = h0) (fun _ _ _ _ _ => True) (fun _ U o U' => ∃ v L, o = .returned v ∧ Q_rm39 Z a1 ya_ h0 n0 v U'.heap L ∧ FrameEnd U o U' L ({ frames := 0, cells := 0, slots := 0, locals := 0 } : Room).cells ({ frames := 0, cells := 0, slots := 0, locals := 0 } : Room).slots) := by
  have hi : ∀ (i : Nat) {d : Jvm.Cond}, tables_1[i]? = some d → d.before a0 Z = true := fun i d h => hw d (List.mem_of_getElem? h)
  refine MetFree.of_bodySF (plainFor_of_name pn_39) hisR ?_
  intro p e s m args below meth c s₁ Bd hml0 hP hK
  obtain ⟨rfl, hZ, hh⟩ := hP
  have hx := Bd.exec
  have hby := Bd.bytes
  have hml : c.maxLocals = 1 := hml0
  have hown : s.vm.findClass "java/lang/String" = some m.cls := findClass_of_methodNamed Bd.named
  have hnm := (name_of_methodNamed Bd.named Bd.method).1
  have X0 : Stand p l e ({ frames := 0, cells := 0, slots := 0, locals := 0 } : Room) s m #[(.ref a1)] below meth c s₁ [] 0 0 := Stand.of_body Bd
  have e0 : s₁.heap = h0 := by rw [← hh, Bd.state]; rfl
  have N0 := Fr.nil n0
  obtain ⟨T2, X2, e2, st2⟩ := getS2 X0 hx hZ hown (host := "") (Or.inl (hi 140 rfl)) Via.refl e0 yf_ (g := (mkF m 0 #[vA a1] [])) rfl (hb hby d39_0)
  obtain ⟨T3, X3, e3, st3⟩ := getF X2 hx hZ hown (host := "") (Or.inl (hi 141 rfl)) Via.refl e2 yac_ (g := (mkF m 7 #[vA a1] [(.ref a1)])) rfl rfl (hb hby d39_7)
  obtain ⟨fs, hr, hrun, hended, hW, hsame⟩ := X3.leave (v := some (.int (1 : Int32))) (fun h => by rw [Bd.returns] at h; cases h)
  refine ⟨_, _, castTop (ef_39 m a1) ?_, hrun, hended, _, _, rfl, ?_, ⟨_, rfl⟩, hW, hsame.mono (by decide) (by decide)⟩
  · show Steps p.tables e below (s₁.setTop (mkF m 0 #[vA a1] [])) _
    refine st2 _ ?_
    refine XS.ifNo X2.here hx rfl (hb hby d39_3) rfl ((if0 _ _).trans (feq (show ¬ (ya_ = (0 : Int32)) from hcs)).1) ?_
    refine XS.aloadN X2.here hx rfl (hb hby d39_6) rfl rfl ?_
    refine st3 _ ?_
    refine XS.ifNo X3.here hx rfl (hb hby d39_10) rfl ((if0 _ _).trans (teq (rfl : (0 : Int32) = (0 : Int32))).2) ?_
    refine XS.iconst X3.here hx rfl (hb hby d39_13) ?_
    refine XS.goto X3.here hx rfl (pc0 := 14) (pc' := 18) rfl (hb hby d39_14) (by decide) (by decide) ?_
    show Steps p.tables e below (T3.setTop (mkF m 18 #[vA a1] [(.int (1 : Int32))])) _
    exact retN X3 hx (t := .boolean) Bd.returns (by simp) (hb hby d39_18) hr
  · show Q_rm39 Z a1 ya_ h0 n0 _ T3.heap _
    exact ⟨rfl, N0, e3⟩
theorem yhn_ : parseMethodDescriptor "()Z" = some ⟨[], some .boolean⟩ := by decide +kernel
theorem ynm_ : parseMethodDescriptor "([BI)C" = some ⟨[(.array .byte), .int], some .char⟩ := by decide +kernel
def t38_0 (w8_12 : Int32) : Int32 := (nar .char ((w8_12 &&& (255 : Int32)).toUInt32.toUInt16.toUInt32.toInt32))
theorem d38_0 : decode jdk_42_method_56_code 0 = .ok (.aload_n 0, 1) := by decide +kernel
theorem d38_1 : decode jdk_42_method_56_code 1 = .ok (.invokevirtual 492, 3) := by decide +kernel
theorem d38_4 : decode jdk_42_method_56_code 4 = .ok (.ifCond .eq 12, 3) := by decide +kernel
theorem d38_7 : decode jdk_42_method_56_code 7 = .ok (.aload_n 0, 1) := by decide +kernel
theorem d38_8 : decode jdk_42_method_56_code 8 = .ok (.getfield 9, 3) := by decide +kernel
theorem d38_11 : decode jdk_42_method_56_code 11 = .ok (.iload_n 1, 1) := by decide +kernel
theorem d38_12 : decode jdk_42_method_56_code 12 = .ok (.invokestatic 495, 3) := by decide +kernel
theorem d38_15 : decode jdk_42_method_56_code 15 = .ok (.ireturn, 1) := by decide +kernel
theorem pn_38 : plainName "java/lang/String" = true := by first | (simp [plainName, overriddenIn]; done) | decide +kernel
theorem ef_38 (m : MethodId) (x0 : Addr) (x1 : Int32) : entryFrame m #[(.ref x0), (.int x1)] 2 = mkF m 0 #[.val (.ref x0), .val (.int x1)] [] := by first | (simp [entryFrame, mkF, argsToLocals, Value.category]; done) | rfl
def Q_rm38 (Z : State) (a1 : Addr) (p2 : Int32) (ya_ : Int32) (yc_ : Addr) (yn_ : ClassId) (yd_ : Int32) (ye_ : List Value) (yb_ : Value) (w8_12 : Int32) (h0 : Heap) (n0 : Nat) (v : Option Value) (h : Heap) (L : List Loc) : Prop := v = some (.int (nar .char (t38_0 w8_12))) ∧ Fr n0 L ∧ h = h0
set_option maxRecDepth 65536 in
set_option maxHeartbeats 40000000 in
theorem rm38 (l : Launch) (Z : State) (a0 : Array Value) (hw : ∀ d ∈ tables_1, d.before a0 Z = true) (ws : List Jvm.Cond) (a1 : Addr) (p2 : Int32) (ya_ : Int32) (yc_ : Addr) (yn_ : ClassId) (yd_ : Int32) (ye_ : List Value) (yb_ : Value) (w8_12 : Int32) (h0 : Heap) (n0 : Nat) (Z0 : n0 ≤ h0.size) (hcs : ¬ (ya_ = (0 : Int32))) (hsv : yb_.isRef = true) (yf_ : Sta Z h0 "java/lang/String" "COMPACT_STRINGS" "Z" (.int ya_)) (yac_ : Fld Z h0 a1 "java/lang/String" "coder" "B" (.int (0 : Int32))) (E_a1 : Exa Z h0 a1 "java/lang/String") (yae_ : Fld Z h0 a1 "java/lang/String" "value" "[B" (.ref yc_)) (yam_ : Arv Z h0 yc_ yn_ .byte yd_ ye_ (.int (0 : Int32))) (yx_ : Sta Z h0 "jdk/internal/util/Preconditions" "SIOOBE_FORMATTER" "Ljava/util/function/BiFunction;" yb_) (yol_ : ¬ (p2 < (0 : Int32))) (yom_ : p2 < yd_) (hhi8_12 : ¬ p2 < 0 ∧ p2 < yd_) (hhs8_12 : (ye_).getD (p2).toNatClampNeg (.int (0 : Int32)) = (.int w8_12)) :
    MetFree l mN16 (head1 (Jvm.Cond.code mN16 jdk_42_method_56_code 2 (some .char) :: ws) ({ frames := 3, cells := 0, slots := 0, locals := 40 } : Room)) (fun a U => a = #[(.ref a1), (.int p2)] ∧ Z.Warmed39 U.vm ∧ U.heap = h0) (fun _ _ _ _ _ => True) (fun _ U o U' => ∃ v L, o = .returned v ∧ Q_rm38 Z a1 p2 ya_ yc_ yn_ yd_ ye_ yb_ w8_12 h0 n0 v U'.heap L ∧ FrameEnd U o U' L ({ frames := 3, cells := 0, slots := 0, locals := 40 } : Room).cells ({ frames := 3, cells := 0, slots := 0, locals := 40 } : Room).slots) := by
  have hi : ∀ (i : Nat) {d : Jvm.Cond}, tables_1[i]? = some d → d.before a0 Z = true := fun i d h => hw d (List.mem_of_getElem? h)
  refine MetFree.of_bodySF (plainFor_of_name pn_38) hisR ?_
  intro p e s m args below meth c s₁ Bd hml0 hP hK
  obtain ⟨rfl, hZ, hh⟩ := hP
  have hx := Bd.exec
  have hby := Bd.bytes
  have hml : c.maxLocals = 2 := hml0
  have hown : s.vm.findClass "java/lang/String" = some m.cls := findClass_of_methodNamed Bd.named
  have hnm := (name_of_methodNamed Bd.named Bd.method).1
  have X0 : Stand p l e ({ frames := 3, cells := 0, slots := 0, locals := 40 } : Room) s m #[(.ref a1), (.int p2)] below meth c s₁ [] 0 0 := Stand.of_body Bd
  have e0 : s₁.heap = h0 := by rw [← hh, Bd.state]; rfl
  have N0 := Fr.nil n0
  obtain ⟨cq3, kq3, q3a, q3b, q3c⟩ := isOf hZ e0 E_a1
  obtain ⟨_, _, ⟨T3, L3, k3, n3⟩, -, X3, ⟨Lc3, hQ3, l3, y3, z3⟩, st3⟩ := X0.virtualBack hx (y := mN20) (z := mN20) hown (mvT hZ (hi 258 rfl)) (mvT hZ (hi 259 rfl)) (notFace_of_selects (args := #[]) (mvT hZ (hi 261 rfl))) (mvT hZ (hi 261 rfl)) (mvT hZ (hi 260 rfl)) (by decide) (backOf (W := 0) (rm39 l Z a0 hw [] a1 ya_ h0 n0 Z0 hcs yf_ yac_) hZ (hi 262 rfl) (hi 4 rfl) (by decide) (by decide)) q3a q3c (g := (mkF m 1 #[vA a1, vI p2] [(.ref a1)])) rfl (by rw [hml]; rfl) (Steps.refl _) (argsL := []) (rest := []) (lenOf yhn_ rfl) rfl (by show 2 * 0 + _ ≤ _; exact Nat.le_of_eq rfl) (hb hby d38_1) (fun _ _ => ⟨rfl, e0, (by decide : 0 + 0 ≤ _), (by decide : 0 + 0 ≤ _)⟩)
  dsimp only [Pt.U, Pt.locs, Pt.cells, Pt.slots] at X3 l3 y3 z3 st3 hQ3
  subst l3 y3 z3
  obtain ⟨rfl, N3q, e3⟩ := hQ3
  have N3 := Fr.app N0 N3q
  obtain ⟨T4, X4, e4, st4⟩ := getF X3 hx hZ hown (host := "") (Or.inl (hi 134 rfl)) Via.refl e3 yae_ (g := (mkF m 8 #[vA a1, vI p2] [(.ref a1)])) rfl rfl (hb hby d38_8)
  obtain ⟨_, _, ⟨T5, L5, k5, n5⟩, -, X5, ⟨Lc5, hQ5, l5, y5, z5⟩, st5⟩ := Jvm.LawKit.callS X4 hx (y := mN28) hown (mvT hZ (hi 263 rfl)) (mvT hZ (hi 264 rfl)) (mvT hZ (hi 265 rfl)) (mvT hZ (hi 266 rfl)) (by decide) (backOf (W := 0) (rm40 l Z a0 hw [] yc_ p2 yn_ yd_ ye_ yb_ w8_12 h0 n0 Z0 hsv yam_ yx_ yol_ yom_ hhi8_12 hhs8_12) hZ (hi 266 rfl) (hi 265 rfl) (by decide) (by decide)) (g := (mkF m 12 #[vA a1, vI p2] [(.int p2), (.ref yc_)])) rfl (by rw [hml]; rfl) (argsL := [(.ref yc_), (.int p2)]) (rest := []) (lenOf ynm_ rfl) rfl (by show 2 * 0 + _ ≤ _; exact Nat.le_of_eq rfl) (hb hby d38_12) (fun _ _ => ⟨rfl, e4, (by decide : 0 + 0 ≤ _), (by decide : 0 + 0 ≤ _)⟩)
  dsimp only [Pt.U, Pt.locs, Pt.cells, Pt.slots] at X5 l5 y5 z5 st5 hQ5
  subst l5 y5 z5
  obtain ⟨rfl, N5q, e5⟩ := hQ5
  have N5 := Fr.app N3 N5q
  obtain ⟨fs, hr, hrun, hended, hW, hsame⟩ := X5.leave (v := some (.int (nar .char (t38_0 w8_12)))) (fun h => by rw [Bd.returns] at h; cases h)
  refine ⟨_, _, castTop (ef_38 m a1 p2) ?_, hrun, hended, _, _, rfl, ?_, ⟨_, rfl⟩, hW, hsame.mono (by decide) (by decide)⟩
  · show Steps p.tables e below (s₁.setTop (mkF m 0 #[vA a1, vI p2] [])) _
    refine XS.aloadN X0.here hx rfl (hb hby d38_0) rfl rfl ?_
    refine st3.trans ?_
    refine XS.ifNo X3.here hx rfl (hb hby d38_4) rfl ((if0 _ _).trans (feq (by decide : ¬ ((1 : Int32) = (0 : Int32)))).1) ?_
    refine XS.aloadN X3.here hx rfl (hb hby d38_7) rfl rfl ?_
    refine st4 _ ?_
    refine XS.iloadN X4.here hx rfl (hb hby d38_11) rfl ?_
    refine st5 _ ?_
    show Steps p.tables e below (T5.setTop (mkF m 15 #[vA a1, vI p2] [(.int (t38_0 w8_12))])) _
    exact retN X5 hx (t := .char) Bd.returns (by simp) (hb hby d38_15) hr
  · show Q_rm38 Z a1 p2 ya_ yc_ yn_ yd_ ye_ yb_ w8_12 h0 n0 _ T5.heap _
    exact ⟨rfl, N5, e5⟩
theorem d37_0 : decode method_4_code 0 = .ok (.iload_n 3, 1) := by decide +kernel
theorem d37_1 : decode method_4_code 1 = .ok (.aload_n 2, 1) := by decide +kernel
theorem d37_2 : decode method_4_code 2 = .ok (.invokevirtual 49, 3) := by decide +kernel
theorem d37_5 : decode method_4_code 5 = .ok (.if_icmp .ge 18, 3) := by decide +kernel
theorem d37_23 : decode method_4_code 23 = .ok (.iconst 1, 1) := by decide +kernel
theorem d37_24 : decode method_4_code 24 = .ok (.goto 4, 3) := by decide +kernel
theorem d37_28 : decode method_4_code 28 = .ok (.ireturn, 1) := by decide +kernel
theorem pn_37 : plainName "underdeck/deck/SqlTextDefaultsOnlyPinLaw" = true := by first | (simp [plainName, overriddenIn]; done) | decide +kernel
theorem ef_37 (m : MethodId) (x0 : Addr) (x1 : Int32) (x2 : Addr) (x3 : Int32) : entryFrame m #[(.ref x0), (.int x1), (.ref x2), (.int x3)] 4 = mkF m 0 #[.val (.ref x0), .val (.int x1), .val (.ref x2), .val (.int x3)] [] := by first | (simp [entryFrame, mkF, argsToLocals, Value.category]; done) | rfl
def Q_rm37o (Z : State) (a1 : Addr) (p2 : Int32) (a3 : Addr) (p4 : Int32) (yar_ : Addr) (yao_ : ClassId) (ybi_ : Int32) (yv_ : List Value) (ya_ : Int32) (h0 : Heap) (n0 : Nat) (v : Option Value) (h : Heap) (L : List Loc) : Prop := v = some (.int (1 : Int32)) ∧ Fr n0 L ∧ h = h0
set_option maxRecDepth 65536 in
set_option maxHeartbeats 40000000 in
theorem rm37o (l : Launch) (Z : State) (a0 : Array Value) (hw : ∀ d ∈ tables_1, d.before a0 Z = true) (ws : List Jvm.Cond) (a1 : Addr) (p2 : Int32) (a3 : Addr) (p4 : Int32) (yar_ : Addr) (yao_ : ClassId) (ybi_ : Int32) (yv_ : List Value) (ya_ : Int32) (h0 : Heap) (n0 : Nat) (Z0 : n0 ≤ h0.size) (hcs : ¬ (ya_ = (0 : Int32))) (ybg_ : Fld Z h0 a3 "java/lang/String" "value" "[B" (.ref yar_)) (yaz_ : Arv Z h0 yar_ yao_ .byte ybi_ yv_ (.int (0 : Int32))) (yf_ : Sta Z h0 "java/lang/String" "COMPACT_STRINGS" "Z" (.int ya_)) (ybe_ : Fld Z h0 a3 "java/lang/String" "coder" "B" (.int (0 : Int32))) (E_a3 : Exa Z h0 a3 "java/lang/String") (hc5 : ¬ (p4 < (ybi_ >>> ((0 : Int32) &&& 31)))) :
    MetFree l mN53 (head1 (Jvm.Cond.code mN53 method_4_code 4 (some .boolean) :: ws) ({ frames := 2, cells := 0, slots := 0, locals := 26 } : Room)) (fun a U => a = #[(.ref a1), (.int p2), (.ref a3), (.int p4)] ∧ Z.Warmed39 U.vm ∧ U.heap = h0) (fun _ _ _ _ _ => True) (fun _ U o U' => ∃ v L, o = .returned v ∧ Q_rm37o Z a1 p2 a3 p4 yar_ yao_ ybi_ yv_ ya_ h0 n0 v U'.heap L ∧ FrameEnd U o U' L ({ frames := 2, cells := 0, slots := 0, locals := 26 } : Room).cells ({ frames := 2, cells := 0, slots := 0, locals := 26 } : Room).slots) := by
  have hi : ∀ (i : Nat) {d : Jvm.Cond}, tables_1[i]? = some d → d.before a0 Z = true := fun i d h => hw d (List.mem_of_getElem? h)
  refine MetFree.of_bodySF (plainFor_of_name pn_37) hisR ?_
  intro p e s m args below meth c s₁ Bd hml0 hP hK
  obtain ⟨rfl, hZ, hh⟩ := hP
  have hx := Bd.exec
  have hby := Bd.bytes
  have hml : c.maxLocals = 4 := hml0
  have hown : s.vm.findClass "underdeck/deck/SqlTextDefaultsOnlyPinLaw" = some m.cls := findClass_of_methodNamed Bd.named
  have hnm := (name_of_methodNamed Bd.named Bd.method).1
  have X0 : Stand p l e ({ frames := 2, cells := 0, slots := 0, locals := 26 } : Room) s m #[(.ref a1), (.int p2), (.ref a3), (.int p4)] below meth c s₁ [] 0 0 := Stand.of_body Bd
  have e0 : s₁.heap = h0 := by rw [← hh, Bd.state]; rfl
  have N0 := Fr.nil n0
  obtain ⟨cq5, kq5, q5a, q5b, q5c⟩ := isOf hZ e0 E_a3
  obtain ⟨_, _, ⟨T5, L5, k5, n5⟩, -, X5, ⟨Lc5, hQ5, l5, y5, z5⟩, st5⟩ := X0.virtualBack hx (y := mN21) (z := mN21) hown (mvT hZ (hi 245 rfl)) (mvT hZ (hi 130 rfl)) (notFace_of_selects (args := #[]) (mvT hZ (hi 132 rfl))) (mvT hZ (hi 132 rfl)) (mvT hZ (hi 131 rfl)) (by decide) (backOf (W := 1) (rm15 l Z a0 hw [] a3 yar_ yao_ ybi_ yv_ ya_ (0 : Int32) h0 n0 Z0 hcs ybg_ yaz_ yf_ ybe_ E_a3) hZ (hi 133 rfl) (hi 4 rfl) (by decide) (by decide)) q5a q5c (g := (mkF m 2 #[vA a1, vI p2, vA a3, vI p4] [(.ref a3), (.int p4)])) rfl (by rw [hml]; rfl) (Steps.refl _) (argsL := []) (rest := [(.int p4)]) (lenOf ycf_ rfl) rfl (by show 2 * 0 + _ ≤ _; exact Nat.le_of_eq rfl) (hb hby d37_2) (fun _ _ => ⟨rfl, e0, (by decide : 0 + 0 ≤ _), (by decide : 0 + 0 ≤ _)⟩)
  dsimp only [Pt.U, Pt.locs, Pt.cells, Pt.slots] at X5 l5 y5 z5 st5 hQ5
  subst l5 y5 z5
  obtain ⟨rfl, N5q, e5⟩ := hQ5
  have N5 := Fr.app N0 N5q
  obtain ⟨fs, hr, hrun, hended, hW, hsame⟩ := X5.leave (v := some (.int (1 : Int32))) (fun h => by rw [Bd.returns] at h; cases h)
  refine ⟨_, _, castTop (ef_37 m a1 p2 a3 p4) ?_, hrun, hended, _, _, rfl, ?_, ⟨_, rfl⟩, hW, hsame.mono (by decide) (by decide)⟩
  · show Steps p.tables e below (s₁.setTop (mkF m 0 #[vA a1, vI p2, vA a3, vI p4] [])) _
    refine XS.iloadN X0.here hx rfl (hb hby d37_0) rfl ?_
    refine XS.aloadN X0.here hx rfl (hb hby d37_1) rfl rfl ?_
    refine st5.trans ?_
    refine XS.icmpYes X5.here hx rfl (pc0 := 5) (pc' := 23) rfl (hb hby d37_5) rfl (flt hc5).2.1 (by decide) (by decide) ?_
    refine XS.iconst X5.here hx rfl (hb hby d37_23) ?_
    refine XS.goto X5.here hx rfl (pc0 := 24) (pc' := 28) rfl (hb hby d37_24) (by decide) (by decide) ?_
    show Steps p.tables e below (T5.setTop (mkF m 28 #[vA a1, vI p2, vA a3, vI p4] [(.int (1 : Int32))])) _
    exact retN X5 hx (t := .boolean) Bd.returns (by simp) (hb hby d37_28) hr
  · show Q_rm37o Z a1 p2 a3 p4 yar_ yao_ ybi_ yv_ ya_ h0 n0 _ T5.heap _
    exact ⟨rfl, N5, e5⟩
theorem yel_ : parseMethodDescriptor "(I)C" = some ⟨[.int], some .char⟩ := by decide +kernel
theorem d37_8 : decode method_4_code 8 = .ok (.aload_n 0, 1) := by decide +kernel
theorem d37_9 : decode method_4_code 9 = .ok (.iload_n 1, 1) := by decide +kernel
theorem d37_10 : decode method_4_code 10 = .ok (.iload_n 3, 1) := by decide +kernel
theorem d37_11 : decode method_4_code 11 = .ok (.iadd, 1) := by decide +kernel
theorem d37_12 : decode method_4_code 12 = .ok (.invokevirtual 53, 3) := by decide +kernel
theorem d37_15 : decode method_4_code 15 = .ok (.aload_n 2, 1) := by decide +kernel
theorem d37_16 : decode method_4_code 16 = .ok (.iload_n 3, 1) := by decide +kernel
theorem d37_17 : decode method_4_code 17 = .ok (.invokevirtual 53, 3) := by decide +kernel
theorem d37_20 : decode method_4_code 20 = .ok (.if_icmp .ne 7, 3) := by decide +kernel
def Q_rm37e (Z : State) (a1 : Addr) (p2 : Int32) (a3 : Addr) (p4 : Int32) (yar_ : Addr) (yao_ : ClassId) (ybi_ : Int32) (yv_ : List Value) (ya_ : Int32) (yc_ : Addr) (yn_ : ClassId) (yd_ : Int32) (ye_ : List Value) (yb_ : Value) (ygn_ : Int32) (yip_ : Int32) (h0 : Heap) (n0 : Nat) (v : Option Value) (h : Heap) (L : List Loc) : Prop := v = some (.int (1 : Int32)) ∧ Fr n0 L ∧ h = h0
set_option maxRecDepth 65536 in
set_option maxHeartbeats 40000000 in
theorem rm37e (l : Launch) (Z : State) (a0 : Array Value) (hw : ∀ d ∈ tables_1, d.before a0 Z = true) (ws : List Jvm.Cond) (a1 : Addr) (p2 : Int32) (a3 : Addr) (p4 : Int32) (yar_ : Addr) (yao_ : ClassId) (ybi_ : Int32) (yv_ : List Value) (ya_ : Int32) (yc_ : Addr) (yn_ : ClassId) (yd_ : Int32) (ye_ : List Value) (yb_ : Value) (ygn_ : Int32) (yip_ : Int32) (h0 : Heap) (n0 : Nat) (Z0 : n0 ≤ h0.size) (hcs : ¬ (ya_ = (0 : Int32))) (hsv : yb_.isRef = true) (ybg_ : Fld Z h0 a3 "java/lang/String" "value" "[B" (.ref yar_)) (yaz_ : Arv Z h0 yar_ yao_ .byte ybi_ yv_ (.int (0 : Int32))) (yf_ : Sta Z h0 "java/lang/String" "COMPACT_STRINGS" "Z" (.int ya_)) (ybe_ : Fld Z h0 a3 "java/lang/String" "coder" "B" (.int (0 : Int32))) (E_a3 : Exa Z h0 a3 "java/lang/String") (yae_ : Fld Z h0 a1 "java/lang/String" "value" "[B" (.ref yc_)) (yam_ : Arv Z h0 yc_ yn_ .byte yd_ ye_ (.int (0 : Int32))) (yx_ : Sta Z h0 "jdk/internal/util/Preconditions" "SIOOBE_FORMATTER" "Ljava/util/function/BiFunction;" yb_) (yac_ : Fld Z h0 a1 "java/lang/String" "coder" "B" (.int (0 : Int32))) (E_a1 : Exa Z h0 a1 "java/lang/String") (hc5 : p4 < (ybi_ >>> ((0 : Int32) &&& 31))) (ymg_ : ¬ ((p2 + p4) < (0 : Int32))) (ymh_ : (p2 + p4) < yd_) (ypd_ : ¬ (p2 + p4) < 0 ∧ (p2 + p4) < yd_) (ype_ : (ye_).getD ((p2 + p4)).toNatClampNeg (.int (0 : Int32)) = (.int ygn_)) (ymi_ : ¬ (p4 < (0 : Int32))) (ymj_ : p4 < ybi_) (ypf_ : ¬ p4 < 0 ∧ p4 < ybi_) (ypg_ : (yv_).getD (p4).toNatClampNeg (.int (0 : Int32)) = (.int yip_)) (hc20 : (nar .char (t38_0 ygn_)) = (nar .char (t38_0 yip_))) :
    MetFree l mN53 (head1 (Jvm.Cond.code mN53 method_4_code 4 (some .boolean) :: ws) ({ frames := 4, cells := 0, slots := 0, locals := 54 } : Room)) (fun a U => a = #[(.ref a1), (.int p2), (.ref a3), (.int p4)] ∧ Z.Warmed39 U.vm ∧ U.heap = h0) (fun _ _ _ _ _ => True) (fun _ U o U' => ∃ v L, o = .returned v ∧ Q_rm37e Z a1 p2 a3 p4 yar_ yao_ ybi_ yv_ ya_ yc_ yn_ yd_ ye_ yb_ ygn_ yip_ h0 n0 v U'.heap L ∧ FrameEnd U o U' L ({ frames := 4, cells := 0, slots := 0, locals := 54 } : Room).cells ({ frames := 4, cells := 0, slots := 0, locals := 54 } : Room).slots) := by
  have hi : ∀ (i : Nat) {d : Jvm.Cond}, tables_1[i]? = some d → d.before a0 Z = true := fun i d h => hw d (List.mem_of_getElem? h)
  refine MetFree.of_bodySF (plainFor_of_name pn_37) hisR ?_
  intro p e s m args below meth c s₁ Bd hml0 hP hK
  obtain ⟨rfl, hZ, hh⟩ := hP
  have hx := Bd.exec
  have hby := Bd.bytes
  have hml : c.maxLocals = 4 := hml0
  have hown : s.vm.findClass "underdeck/deck/SqlTextDefaultsOnlyPinLaw" = some m.cls := findClass_of_methodNamed Bd.named
  have hnm := (name_of_methodNamed Bd.named Bd.method).1
  have X0 : Stand p l e ({ frames := 4, cells := 0, slots := 0, locals := 54 } : Room) s m #[(.ref a1), (.int p2), (.ref a3), (.int p4)] below meth c s₁ [] 0 0 := Stand.of_body Bd
  have e0 : s₁.heap = h0 := by rw [← hh, Bd.state]; rfl
  have N0 := Fr.nil n0
  obtain ⟨cq5, kq5, q5a, q5b, q5c⟩ := isOf hZ e0 E_a3
  obtain ⟨_, _, ⟨T5, L5, k5, n5⟩, -, X5, ⟨Lc5, hQ5, l5, y5, z5⟩, st5⟩ := X0.virtualBack hx (y := mN21) (z := mN21) hown (mvT hZ (hi 245 rfl)) (mvT hZ (hi 130 rfl)) (notFace_of_selects (args := #[]) (mvT hZ (hi 132 rfl))) (mvT hZ (hi 132 rfl)) (mvT hZ (hi 131 rfl)) (by decide) (backOf (W := 1) (rm15 l Z a0 hw [] a3 yar_ yao_ ybi_ yv_ ya_ (0 : Int32) h0 n0 Z0 hcs ybg_ yaz_ yf_ ybe_ E_a3) hZ (hi 133 rfl) (hi 4 rfl) (by decide) (by decide)) q5a q5c (g := (mkF m 2 #[vA a1, vI p2, vA a3, vI p4] [(.ref a3), (.int p4)])) rfl (by rw [hml]; rfl) (Steps.refl _) (argsL := []) (rest := [(.int p4)]) (lenOf ycf_ rfl) rfl (by show 2 * 0 + _ ≤ _; exact Nat.le_of_eq rfl) (hb hby d37_2) (fun _ _ => ⟨rfl, e0, (by decide : 0 + 0 ≤ _), (by decide : 0 + 0 ≤ _)⟩)
  dsimp only [Pt.U, Pt.locs, Pt.cells, Pt.slots] at X5 l5 y5 z5 st5 hQ5
  subst l5 y5 z5
  obtain ⟨rfl, N5q, e5⟩ := hQ5
  have N5 := Fr.app N0 N5q
  obtain ⟨cq6, kq6, q6a, q6b, q6c⟩ := isOf hZ e5 E_a1
  obtain ⟨_, _, ⟨T6, L6, k6, n6⟩, -, X6, ⟨Lc6, hQ6, l6, y6, z6⟩, st6⟩ := X5.virtualBack hx (y := mN16) (z := mN16) hown (mvT hZ (hi 253 rfl)) (mvT hZ (hi 254 rfl)) (notFace_of_selects (args := #[]) (mvT hZ (hi 256 rfl))) (mvT hZ (hi 256 rfl)) (mvT hZ (hi 255 rfl)) (by decide) (backOf (W := 0) (rm38 l Z a0 hw [] a1 (p2 + p4) ya_ yc_ yn_ yd_ ye_ yb_ ygn_ h0 n0 Z0 hcs hsv yf_ yac_ E_a1 yae_ yam_ yx_ ymg_ ymh_ ypd_ ype_) hZ (hi 257 rfl) (hi 4 rfl) (by decide) (by decide)) q6a q6c (g := (mkF m 12 #[vA a1, vI p2, vA a3, vI p4] [(.int (p2 + p4)), (.ref a1)])) rfl (by rw [hml]; rfl) (Steps.refl _) (argsL := [(.int (p2 + p4))]) (rest := []) (lenOf yel_ rfl) rfl (by show 2 * 0 + _ ≤ _; exact Nat.le_of_eq rfl) (hb hby d37_12) (fun _ _ => ⟨rfl, e5, (by decide : 0 + 0 ≤ _), (by decide : 0 + 0 ≤ _)⟩)
  dsimp only [Pt.U, Pt.locs, Pt.cells, Pt.slots] at X6 l6 y6 z6 st6 hQ6
  subst l6 y6 z6
  obtain ⟨rfl, N6q, e6⟩ := hQ6
  have N6 := Fr.app N5 N6q
  obtain ⟨cq7, kq7, q7a, q7b, q7c⟩ := isOf hZ e6 E_a3
  obtain ⟨_, _, ⟨T7, L7, k7, n7⟩, -, X7, ⟨Lc7, hQ7, l7, y7, z7⟩, st7⟩ := X6.virtualBack hx (y := mN16) (z := mN16) hown (mvT hZ (hi 253 rfl)) (mvT hZ (hi 254 rfl)) (notFace_of_selects (args := #[]) (mvT hZ (hi 256 rfl))) (mvT hZ (hi 256 rfl)) (mvT hZ (hi 255 rfl)) (by decide) (backOf (W := 1) (rm38 l Z a0 hw [] a3 p4 ya_ yar_ yao_ ybi_ yv_ yb_ yip_ h0 n0 Z0 hcs hsv yf_ ybe_ E_a3 ybg_ yaz_ yx_ ymi_ ymj_ ypf_ ypg_) hZ (hi 257 rfl) (hi 4 rfl) (by decide) (by decide)) q7a q7c (g := (mkF m 17 #[vA a1, vI p2, vA a3, vI p4] [(.int p4), (.ref a3), (.int (nar .char (t38_0 ygn_)))])) rfl (by rw [hml]; rfl) (Steps.refl _) (argsL := [(.int p4)]) (rest := [(.int (nar .char (t38_0 ygn_)))]) (lenOf yel_ rfl) rfl (by show 2 * 0 + _ ≤ _; exact Nat.le_of_eq rfl) (hb hby d37_17) (fun _ _ => ⟨rfl, e6, (by decide : 0 + 0 ≤ _), (by decide : 0 + 0 ≤ _)⟩)
  dsimp only [Pt.U, Pt.locs, Pt.cells, Pt.slots] at X7 l7 y7 z7 st7 hQ7
  subst l7 y7 z7
  obtain ⟨rfl, N7q, e7⟩ := hQ7
  have N7 := Fr.app N6 N7q
  obtain ⟨fs, hr, hrun, hended, hW, hsame⟩ := X7.leave (v := some (.int (1 : Int32))) (fun h => by rw [Bd.returns] at h; cases h)
  refine ⟨_, _, castTop (ef_37 m a1 p2 a3 p4) ?_, hrun, hended, _, _, rfl, ?_, ⟨_, rfl⟩, hW, hsame.mono (by decide) (by decide)⟩
  · show Steps p.tables e below (s₁.setTop (mkF m 0 #[vA a1, vI p2, vA a3, vI p4] [])) _
    refine XS.iloadN X0.here hx rfl (hb hby d37_0) rfl ?_
    refine XS.aloadN X0.here hx rfl (hb hby d37_1) rfl rfl ?_
    refine st5.trans ?_
    refine XS.icmpNo X5.here hx rfl (hb hby d37_5) rfl (tlt hc5).2.1 ?_
    refine XS.aloadN X5.here hx rfl (hb hby d37_8) rfl rfl ?_
    refine XS.iloadN X5.here hx rfl (hb hby d37_9) rfl ?_
    refine XS.iloadN X5.here hx rfl (hb hby d37_10) rfl ?_
    refine XS.iadd X5.here hx rfl (hb hby d37_11) rfl ?_
    refine st6.trans ?_
    refine XS.aloadN X6.here hx rfl (hb hby d37_15) rfl rfl ?_
    refine XS.iloadN X6.here hx rfl (hb hby d37_16) rfl ?_
    refine st7.trans ?_
    refine XS.icmpNo X7.here hx rfl (hb hby d37_20) rfl (teq hc20).2 ?_
    refine XS.iconst X7.here hx rfl (hb hby d37_23) ?_
    refine XS.goto X7.here hx rfl (pc0 := 24) (pc' := 28) rfl (hb hby d37_24) (by decide) (by decide) ?_
    show Steps p.tables e below (T7.setTop (mkF m 28 #[vA a1, vI p2, vA a3, vI p4] [(.int (1 : Int32))])) _
    exact retN X7 hx (t := .boolean) Bd.returns (by simp) (hb hby d37_28) hr
  · show Q_rm37e Z a1 p2 a3 p4 yar_ yao_ ybi_ yv_ ya_ yc_ yn_ yd_ ye_ yb_ ygn_ yip_ h0 n0 _ T7.heap _
    exact ⟨rfl, N7, e7⟩
theorem d44_0 : decode jdk_43_method_3_code 0 = .ok (.iload_n 0, 1) := by decide +kernel
theorem d44_1 : decode jdk_43_method_3_code 1 = .ok (.sipush 255, 3) := by decide +kernel
theorem d44_4 : decode jdk_43_method_3_code 4 = .ok (.if_icmp .gt 7, 3) := by decide +kernel
theorem d44_7 : decode jdk_43_method_3_code 7 = .ok (.iconst 1, 1) := by decide +kernel
theorem d44_8 : decode jdk_43_method_3_code 8 = .ok (.goto 4, 3) := by decide +kernel
theorem d44_12 : decode jdk_43_method_3_code 12 = .ok (.ireturn, 1) := by decide +kernel
theorem pn_44 : plainName "java/lang/StringLatin1" = true := by first | (simp [plainName, overriddenIn]; done) | decide +kernel
theorem ef_44 (m : MethodId) (x0 : Int32) : entryFrame m #[(.int x0)] 1 = mkF m 0 #[.val (.int x0)] [] := by first | (simp [entryFrame, mkF, argsToLocals, Value.category]; done) | rfl
def Q_rm44 (Z : State) (p1 : Int32) (h0 : Heap) (n0 : Nat) (v : Option Value) (h : Heap) (L : List Loc) : Prop := v = some (.int (1 : Int32)) ∧ Fr n0 L ∧ h = h0
set_option maxRecDepth 65536 in
set_option maxHeartbeats 40000000 in
theorem rm44 (l : Launch) (Z : State) (a0 : Array Value) (hw : ∀ d ∈ tables_1, d.before a0 Z = true) (ws : List Jvm.Cond) (p1 : Int32) (h0 : Heap) (n0 : Nat) (Z0 : n0 ≤ h0.size) (hc4 : ¬ ((255 : Int32) < p1)) :
    MetFree l mN27 (head1 (Jvm.Cond.code mN27 jdk_43_method_3_code 1 (some .boolean) :: ws) ({ frames := 0, cells := 0, slots := 0, locals := 0 } : Room)) (fun a U => a = #[(.int p1)] ∧ Z.Warmed39 U.vm ∧ U.heap = h0) (fun _ _ _ _ _ => True) (fun _ U o U' => ∃ v L, o = .returned v ∧ Q_rm44 Z p1 h0 n0 v U'.heap L ∧ FrameEnd U o U' L ({ frames := 0, cells := 0, slots := 0, locals := 0 } : Room).cells ({ frames := 0, cells := 0, slots := 0, locals := 0 } : Room).slots) := by
  have hi : ∀ (i : Nat) {d : Jvm.Cond}, tables_1[i]? = some d → d.before a0 Z = true := fun i d h => hw d (List.mem_of_getElem? h)
  refine MetFree.of_bodySF (plainFor_of_name pn_44) hisR ?_
  intro p e s m args below meth c s₁ Bd hml0 hP hK
  obtain ⟨rfl, hZ, hh⟩ := hP
  have hx := Bd.exec
  have hby := Bd.bytes
  have hml : c.maxLocals = 1 := hml0
  have hown : s.vm.findClass "java/lang/StringLatin1" = some m.cls := findClass_of_methodNamed Bd.named
  have hnm := (name_of_methodNamed Bd.named Bd.method).1
  have X0 : Stand p l e ({ frames := 0, cells := 0, slots := 0, locals := 0 } : Room) s m #[(.int p1)] below meth c s₁ [] 0 0 := Stand.of_body Bd
  have e0 : s₁.heap = h0 := by rw [← hh, Bd.state]; rfl
  have N0 := Fr.nil n0
  obtain ⟨fs, hr, hrun, hended, hW, hsame⟩ := X0.leave (v := some (.int (1 : Int32))) (fun h => by rw [Bd.returns] at h; cases h)
  refine ⟨_, _, castTop (ef_44 m p1) ?_, hrun, hended, _, _, rfl, ?_, ⟨_, rfl⟩, hW, hsame.mono (by decide) (by decide)⟩
  · show Steps p.tables e below (s₁.setTop (mkF m 0 #[vI p1] [])) _
    refine XS.iloadN X0.here hx rfl (hb hby d44_0) rfl ?_
    refine XS.sipush X0.here hx rfl (hb hby d44_1) ?_
    refine XS.icmpNo X0.here hx rfl (hb hby d44_4) rfl (flt hc4).2.2.1 ?_
    refine XS.iconst X0.here hx rfl (hb hby d44_7) ?_
    refine XS.goto X0.here hx rfl (pc0 := 8) (pc' := 12) rfl (hb hby d44_8) (by decide) (by decide) ?_
    show Steps p.tables e below (s₁.setTop (mkF m 12 #[vI p1] [(.int (1 : Int32))])) _
    exact retN X0 hx (t := .boolean) Bd.returns (by simp) (hb hby d44_12) hr
  · show Q_rm44 Z p1 h0 n0 _ s₁.heap _
    exact ⟨rfl, N0, e0⟩
theorem d45_0 : decode jdk_43_method_46_code 0 = .ok (.iconst 1, 1) := by decide +kernel
theorem d45_1 : decode jdk_43_method_46_code 1 = .ok (.newarray .byte, 2) := by decide +kernel
theorem d45_3 : decode jdk_43_method_46_code 3 = .ok (.dup, 1) := by decide +kernel
theorem d45_4 : decode jdk_43_method_46_code 4 = .ok (.iconst 0, 1) := by decide +kernel
theorem d45_5 : decode jdk_43_method_46_code 5 = .ok (.iload_n 0, 1) := by decide +kernel
theorem d45_6 : decode jdk_43_method_46_code 6 = .ok (.i2b, 1) := by decide +kernel
theorem d45_7 : decode jdk_43_method_46_code 7 = .ok (.bastore, 1) := by decide +kernel
theorem d45_8 : decode jdk_43_method_46_code 8 = .ok (.areturn, 1) := by decide +kernel
theorem pn_45 : plainName "java/lang/StringLatin1" = true := by first | (simp [plainName, overriddenIn]; done) | decide +kernel
theorem ef_45 (m : MethodId) (x0 : Int32) : entryFrame m #[(.int x0)] 1 = mkF m 0 #[.val (.int x0)] [] := by first | (simp [entryFrame, mkF, argsToLocals, Value.category]; done) | rfl
def Q_rm45 (Z : State) (p1 : Int32) (h0 : Heap) (n0 : Nat) (v : Option Value) (h : Heap) (L : List Loc) : Prop := ∃ b2 : Addr, ∃ k2 : ClassId, v = some (.ref b2) ∧ Fr n0 L ∧ Keep h0 h [] ∧ h0.size ≤ b2 ∧ Exa Z h b2 "[B" ∧ Arv Z h b2 k2 .byte (1 : Int32) [(.int (nar .byte (p1.toInt8.toInt32)))] (.int (0 : Int32))
set_option maxRecDepth 65536 in
set_option maxHeartbeats 40000000 in
theorem rm45 (l : Launch) (Z : State) (a0 : Array Value) (hw : ∀ d ∈ tables_1, d.before a0 Z = true) (ws : List Jvm.Cond) (p1 : Int32) (h0 : Heap) (n0 : Nat) (Z0 : n0 ≤ h0.size) :
    MetFree l mN29 (head1 (Jvm.Cond.code mN29 jdk_43_method_46_code 1 (some (.array .byte)) :: ws) ({ frames := 0, cells := 1, slots := 1, locals := 0 } : Room)) (fun a U => a = #[(.int p1)] ∧ Z.Warmed39 U.vm ∧ U.heap = h0) (fun _ _ _ _ _ => True) (fun _ U o U' => ∃ v L, o = .returned v ∧ Q_rm45 Z p1 h0 n0 v U'.heap L ∧ FrameEnd U o U' L ({ frames := 0, cells := 1, slots := 1, locals := 0 } : Room).cells ({ frames := 0, cells := 1, slots := 1, locals := 0 } : Room).slots) := by
  have hi : ∀ (i : Nat) {d : Jvm.Cond}, tables_1[i]? = some d → d.before a0 Z = true := fun i d h => hw d (List.mem_of_getElem? h)
  refine MetFree.of_bodySF (plainFor_of_name pn_45) hisR ?_
  intro p e s m args below meth c s₁ Bd hml0 hP hK
  obtain ⟨rfl, hZ, hh⟩ := hP
  have hx := Bd.exec
  have hby := Bd.bytes
  have hml : c.maxLocals = 1 := hml0
  have hown : s.vm.findClass "java/lang/StringLatin1" = some m.cls := findClass_of_methodNamed Bd.named
  have hnm := (name_of_methodNamed Bd.named Bd.method).1
  have X0 : Stand p l e ({ frames := 0, cells := 1, slots := 1, locals := 0 } : Room) s m #[(.int p1)] below meth c s₁ [] 0 0 := Stand.of_body Bd
  have e0 : s₁.heap = h0 := by rw [← hh, Bd.state]; rfl
  have N0 := Fr.nil n0
  obtain ⟨T2, h2, k2, X2, e2, E2, A2, iE2, st2⟩ := newPE X0 hx hZ (hi 6 rfl) e0 (g := (mkF m 1 #[vI p1] [(.int (1 : Int32))])) rfl (hb hby d45_1) rfl (by decide) (cap := 1) (by decide) (by decide) (by decide) (by decide) (ad := "[B") rfl
  obtain ⟨b2, g2⟩ : ∃ z, z = h0.size := ⟨_, rfl⟩
  rw [← g2] at A2 iE2 st2
  have g_b2 : n0 ≤ b2 := Nat.le_trans Z0 (Nat.le_of_eq g2.symm)
  have sz_b2 : h0.size ≤ b2 := Nat.le_trans (Nat.le_refl h0.size) (Nat.le_of_eq g2.symm)
  have V_b2 : Arv Z h2 b2 k2 .byte (1 : Int32) [(.int (0 : Int32))] (.int (0 : Int32)) := (Arv.new A2 (by decide)).pad (pad_rep [] (.int (0 : Int32)) 1)
  obtain ⟨cl_b2_0, Ar_b2_0, q_b2_0, Sz_b2_0, Ng_b2_0, Ha_b2_0, Gt_b2_0⟩ := id V_b2
  have yqt_ : ¬ ((0 : Int32) < 0 ∨ cl_b2_0.slots.size ≤ ((0 : Int32)).toNatClampNeg) := inb_of Sz_b2_0 ⟨by decide, by decide⟩
  obtain ⟨T3, h3, X3, e3, W3, st3⟩ := stB X2 hx hZ e2 Ar_b2_0 (j := (0 : Int32)) yqt_ (g := (mkF m 7 #[vI p1] [(.int (p1.toInt8.toInt32)), (.int (0 : Int32)), (.ref b2), (.ref b2)])) rfl rfl (hb hby d45_7)
  have V3 : Arv Z h3 b2 k2 .byte (1 : Int32) [(.int (nar .byte (p1.toInt8.toInt32)))] (.int (0 : Int32)) := Arv.set Ar_b2_0 q_b2_0 Sz_b2_0 Ng_b2_0 Ha_b2_0 Gt_b2_0 (fits_nar_byte _) W3 0 rfl (Nat.le_of_ble_eq_true rfl)
  have N3 := Fr.snoc X3 N0 g_b2
  have f1 := (iE2.wr W3)
  obtain ⟨fs, hr, hrun, hended, hW, hsame⟩ := X3.leave (v := some (.ref b2)) (fun h => by rw [Bd.returns] at h; cases h)
  refine ⟨_, _, castTop (ef_45 m p1) ?_, hrun, hended, _, _, rfl, ?_, ⟨_, rfl⟩, hW, hsame.mono (by decide) (by decide)⟩
  · show Steps p.tables e below (s₁.setTop (mkF m 0 #[vI p1] [])) _
    refine XS.iconst X0.here hx rfl (hb hby d45_0) ?_
    refine st2 _ ?_
    refine XS.dup X2.here hx rfl (hb hby d45_3) rfl rfl ?_
    refine XS.iconst X2.here hx rfl (hb hby d45_4) ?_
    refine XS.iloadN X2.here hx rfl (hb hby d45_5) rfl ?_
    refine XS.i2b X2.here hx rfl (hb hby d45_6) rfl ?_
    refine st3 _ ?_
    show Steps p.tables e below (T3.setTop (mkF m 8 #[vI p1] [(.ref b2)])) _
    jvm_step X3.here [X3.here.top, hx, (hb hby d45_8), X3.method', Bd.returns, Value.isRef, FieldType.isReference]
    first | (intro acts; rw [hr _ acts rfl rfl rfl]) | rw [hr _ _ rfl rfl rfl]
    exact Steps.refl _
  · show Q_rm45 Z p1 h0 n0 _ T3.heap _
    rw [e3]
    exact ⟨b2, ⟨k2, ⟨rfl, N3, (((Keep.refl h0 []).ext E2).wr W3 (Or.inr sz_b2)), sz_b2, f1, V3⟩⟩⟩
theorem d46_0 : decode jdk_42_method_151_code 0 = .ok (.aload_n 0, 1) := by decide +kernel
theorem d46_1 : decode jdk_42_method_151_code 1 = .ok (.invokespecial 1, 3) := by decide +kernel
theorem d46_4 : decode jdk_42_method_151_code 4 = .ok (.aload_n 0, 1) := by decide +kernel
theorem d46_5 : decode jdk_42_method_151_code 5 = .ok (.aload_n 1, 1) := by decide +kernel
theorem d46_6 : decode jdk_42_method_151_code 6 = .ok (.putfield 9, 3) := by decide +kernel
theorem d46_9 : decode jdk_42_method_151_code 9 = .ok (.aload_n 0, 1) := by decide +kernel
theorem d46_10 : decode jdk_42_method_151_code 10 = .ok (.iload_n 2, 1) := by decide +kernel
theorem d46_11 : decode jdk_42_method_151_code 11 = .ok (.putfield 15, 3) := by decide +kernel
theorem d46_14 : decode jdk_42_method_151_code 14 = .ok (.return_, 1) := by decide +kernel
theorem pn_46 : plainName "java/lang/String" = true := by first | (simp [plainName, overriddenIn]; done) | decide +kernel
theorem ef_46 (m : MethodId) (x0 : Addr) (x1 : Addr) (x2 : Int32) : entryFrame m #[(.ref x0), (.ref x1), (.int x2)] 3 = mkF m 0 #[.val (.ref x0), .val (.ref x1), .val (.int x2)] [] := by first | (simp [entryFrame, mkF, argsToLocals, Value.category]; done) | rfl
def Q_rm46 (Z : State) (a1 : Addr) (a2 : Addr) (yc_ : Value) (yaq_ : Int32) (h0 : Heap) (n0 : Nat) (v : Option Value) (h : Heap) (L : List Loc) : Prop := v = none ∧ Fr n0 L ∧ Keep h0 h [a1] ∧ Exa Z h a1 "java/lang/String" ∧ Fld Z h a1 "java/lang/String" "value" "[B" (.ref a2) ∧ Fld Z h a1 "java/lang/String" "coder" "B" (.int (0 : Int32))
set_option maxRecDepth 65536 in
set_option maxHeartbeats 40000000 in
theorem rm46 (l : Launch) (Z : State) (a0 : Array Value) (hw : ∀ d ∈ tables_1, d.before a0 Z = true) (ws : List Jvm.Cond) (a1 : Addr) (a2 : Addr) (yc_ : Value) (yaq_ : Int32) (h0 : Heap) (n0 : Nat) (Z0 : n0 ≤ h0.size) (E_a1 : Exa Z h0 a1 "java/lang/String") (yae_ : Fld Z h0 a1 "java/lang/String" "value" "[B" yc_) (g_a1 : n0 ≤ a1) (yac_ : Fld Z h0 a1 "java/lang/String" "coder" "B" (.int yaq_)) :
    MetFree l mN13 (head1 (Jvm.Cond.code mN13 jdk_42_method_151_code 3 none :: ws) ({ frames := 1, cells := 0, slots := 0, locals := 12 } : Room)) (fun a U => a = #[(.ref a1), (.ref a2), (.int (0 : Int32))] ∧ Z.Warmed39 U.vm ∧ U.heap = h0) (fun _ _ _ _ _ => True) (fun _ U o U' => ∃ v L, o = .returned v ∧ Q_rm46 Z a1 a2 yc_ yaq_ h0 n0 v U'.heap L ∧ FrameEnd U o U' L ({ frames := 1, cells := 0, slots := 0, locals := 12 } : Room).cells ({ frames := 1, cells := 0, slots := 0, locals := 12 } : Room).slots) := by
  have hi : ∀ (i : Nat) {d : Jvm.Cond}, tables_1[i]? = some d → d.before a0 Z = true := fun i d h => hw d (List.mem_of_getElem? h)
  refine MetFree.of_bodySF (plainFor_of_name pn_46) hisR ?_
  intro p e s m args below meth c s₁ Bd hml0 hP hK
  obtain ⟨rfl, hZ, hh⟩ := hP
  have hx := Bd.exec
  have hby := Bd.bytes
  have hml : c.maxLocals = 3 := hml0
  have hown : s.vm.findClass "java/lang/String" = some m.cls := findClass_of_methodNamed Bd.named
  have hnm := (name_of_methodNamed Bd.named Bd.method).1
  have X0 : Stand p l e ({ frames := 1, cells := 0, slots := 0, locals := 12 } : Room) s m #[(.ref a1), (.ref a2), (.int (0 : Int32))] below meth c s₁ [] 0 0 := Stand.of_body Bd
  have e0 : s₁.heap = h0 := by rw [← hh, Bd.state]; rfl
  have N0 := Fr.nil n0
  obtain ⟨T3, X3, e3, st3⟩ := initO X0 hx hZ hown (hi 211 rfl) (hi 21 rfl) (hi 22 rfl) e0 (g := (mkF m 1 #[vA a1, vA a2, vI (0 : Int32)] [(.ref a1)])) rfl (by rw [hml]; rfl) rfl (hb hby d46_1) (by decide) (W := 0) (by show 2 * 0 + _ ≤ _; exact Nat.le_of_eq rfl) (by decide)
  obtain ⟨T4, h4, X4, e4, W4, st4⟩ := putF X3 hx hZ hown (host := "") (Or.inl (hi 134 rfl)) Via.refl e3 yae_ E_a1 (Or.inr ⟨(hi 7 rfl), rfl, hnm⟩) (hi 5 rfl) (ty := (.array .byte)) (by decide) rfl rfl (g := (mkF m 6 #[vA a1, vA a2, vI (0 : Int32)] [(.ref a2), (.ref a1)])) rfl rfl (hb hby d46_6)
  have Fw4 := yae_.same W4
  have N4 := Fr.snoc X4 N0 g_a1
  have f0 := (E_a1.wr W4)
  have f1 := (yac_.other W4 (Or.inr (slot_ne (Or.inr (hi 8 rfl)) (Or.inr (hi 7 rfl)) (by decide) (t := .byte) (t' := (.array .byte)) (by decide) (by decide))))
  obtain ⟨T5, h5, X5, e5, W5, st5⟩ := putFN X4 hx hZ hown (hi 141 rfl) Via.refl e4 f1 f0 (Or.inr ⟨(hi 8 rfl), rfl, hnm⟩) (hi 5 rfl) (ty := .byte) (v' := (.int (0 : Int32))) (by decide) rfl rfl (g := (mkF m 11 #[vA a1, vA a2, vI (0 : Int32)] [(.int (0 : Int32)), (.ref a1)])) rfl rfl (hb hby d46_11)
  have Fw5 := f1.same W5
  have N5 := Fr.snoc X5 N4 g_a1
  have f2 := (f0.wr W5)
  have f3 := (Fw4.other W5 (Or.inr (slot_ne (Or.inr (hi 7 rfl)) (Or.inr (hi 8 rfl)) (by decide) (t := (.array .byte)) (t' := .byte) (by decide) (by decide))))
  obtain ⟨fs, hr, hrun, hended, hW, hsame⟩ := X5.leave (v := none) (fun _ => rfl)
  refine ⟨_, _, castTop (ef_46 m a1 a2 (0 : Int32)) ?_, hrun, hended, _, _, rfl, ?_, ⟨_, rfl⟩, hW, hsame.mono (by decide) (by decide)⟩
  · show Steps p.tables e below (s₁.setTop (mkF m 0 #[vA a1, vA a2, vI (0 : Int32)] [])) _
    refine XS.aloadN X0.here hx rfl (hb hby d46_0) rfl rfl ?_
    refine st3 _ ?_
    refine XS.aloadN X3.here hx rfl (hb hby d46_4) rfl rfl ?_
    refine XS.aloadN X3.here hx rfl (hb hby d46_5) rfl rfl ?_
    refine st4 _ ?_
    refine XS.aloadN X4.here hx rfl (hb hby d46_9) rfl rfl ?_
    refine XS.iloadN X4.here hx rfl (hb hby d46_10) rfl ?_
    refine st5 _ ?_
    show Steps p.tables e below (T5.setTop (mkF m 14 #[vA a1, vA a2, vI (0 : Int32)] [])) _
    exact X5.returnOut hx Bd.returns (hb hby d46_14) hr
  · show Q_rm46 Z a1 a2 yc_ yaq_ h0 n0 _ T5.heap _
    rw [e5]
    exact ⟨rfl, N5, (((Keep.refl h0 [a1]).wr W4 (Or.inl (List.mem_of_getElem? (i := 0) rfl))).wr W5 (Or.inl (List.mem_of_getElem? (i := 0) rfl))), f2, f3, Fw5⟩
theorem yph_ : parseMethodDescriptor "(C)Z" = some ⟨[.char], some .boolean⟩ := by decide +kernel
theorem yny_ : parseMethodDescriptor "(C)[B" = some ⟨[.char], some (.array .byte)⟩ := by decide +kernel
theorem ynn_ : parseMethodDescriptor "([BB)V" = some ⟨[(.array .byte), .byte], none⟩ := by decide +kernel
theorem d43_0 : decode jdk_42_method_139_code 0 = .ok (.getstatic 38, 3) := by decide +kernel
theorem d43_3 : decode jdk_42_method_139_code 3 = .ok (.ifCond .eq 23, 3) := by decide +kernel
theorem d43_6 : decode jdk_42_method_139_code 6 = .ok (.iload_n 0, 1) := by decide +kernel
theorem d43_7 : decode jdk_42_method_139_code 7 = .ok (.invokestatic 1015, 3) := by decide +kernel
theorem d43_10 : decode jdk_42_method_139_code 10 = .ok (.ifCond .eq 16, 3) := by decide +kernel
theorem d43_13 : decode jdk_42_method_139_code 13 = .ok (.new 10, 3) := by decide +kernel
theorem d43_16 : decode jdk_42_method_139_code 16 = .ok (.dup, 1) := by decide +kernel
theorem d43_17 : decode jdk_42_method_139_code 17 = .ok (.iload_n 0, 1) := by decide +kernel
theorem d43_18 : decode jdk_42_method_139_code 18 = .ok (.invokestatic 1018, 3) := by decide +kernel
theorem d43_21 : decode jdk_42_method_139_code 21 = .ok (.iconst 0, 1) := by decide +kernel
theorem d43_22 : decode jdk_42_method_139_code 22 = .ok (.invokespecial 209, 3) := by decide +kernel
theorem d43_25 : decode jdk_42_method_139_code 25 = .ok (.areturn, 1) := by decide +kernel
theorem pn_43 : plainName "java/lang/String" = true := by first | (simp [plainName, overriddenIn]; done) | decide +kernel
theorem ef_43 (m : MethodId) (x0 : Int32) : entryFrame m #[(.int x0)] 1 = mkF m 0 #[.val (.int x0)] [] := by first | (simp [entryFrame, mkF, argsToLocals, Value.category]; done) | rfl
def Q_rm43 (Z : State) (p1 : Int32) (ya_ : Int32) (h0 : Heap) (n0 : Nat) (v : Option Value) (h : Heap) (L : List Loc) : Prop := ∃ b4 : Addr, ∃ b2_5 : Addr, ∃ k2_5 : ClassId, v = some (.ref b4) ∧ Fr n0 L ∧ Keep h0 h [] ∧ h0.size ≤ b4 ∧ h0.size ≤ b2_5 ∧ b4 ≠ b2_5 ∧ Exa Z h b4 "java/lang/String" ∧ Fld Z h b4 "java/lang/String" "value" "[B" (.ref b2_5) ∧ Fld Z h b4 "java/lang/String" "coder" "B" (.int (0 : Int32)) ∧ Exa Z h b2_5 "[B" ∧ Arv Z h b2_5 k2_5 .byte (1 : Int32) [(.int (nar .byte (p1.toInt8.toInt32)))] (.int (0 : Int32))
set_option maxRecDepth 65536 in
set_option maxHeartbeats 40000000 in
theorem rm43 (l : Launch) (Z : State) (a0 : Array Value) (hw : ∀ d ∈ tables_1, d.before a0 Z = true) (ws : List Jvm.Cond) (p1 : Int32) (ya_ : Int32) (h0 : Heap) (n0 : Nat) (Z0 : n0 ≤ h0.size) (hcs : ¬ (ya_ = (0 : Int32))) (yf_ : Sta Z h0 "java/lang/String" "COMPACT_STRINGS" "Z" (.int ya_)) (hhc4_7 : ¬ ((255 : Int32) < p1)) :
    MetFree l mN22 (head1 (Jvm.Cond.code mN22 jdk_42_method_139_code 1 (some (.object "java/lang/String")) :: ws) ({ frames := 2, cells := 2, slots := 5, locals := 27 } : Room)) (fun a U => a = #[(.int p1)] ∧ Z.Warmed39 U.vm ∧ U.heap = h0) (fun _ _ _ _ _ => True) (fun _ U o U' => ∃ v L, o = .returned v ∧ Q_rm43 Z p1 ya_ h0 n0 v U'.heap L ∧ FrameEnd U o U' L ({ frames := 2, cells := 2, slots := 5, locals := 27 } : Room).cells ({ frames := 2, cells := 2, slots := 5, locals := 27 } : Room).slots) := by
  have hi : ∀ (i : Nat) {d : Jvm.Cond}, tables_1[i]? = some d → d.before a0 Z = true := fun i d h => hw d (List.mem_of_getElem? h)
  refine MetFree.of_bodySF (plainFor_of_name pn_43) hisR ?_
  intro p e s m args below meth c s₁ Bd hml0 hP hK
  obtain ⟨rfl, hZ, hh⟩ := hP
  have hx := Bd.exec
  have hby := Bd.bytes
  have hml : c.maxLocals = 1 := hml0
  have hown : s.vm.findClass "java/lang/String" = some m.cls := findClass_of_methodNamed Bd.named
  have hnm := (name_of_methodNamed Bd.named Bd.method).1
  have X0 : Stand p l e ({ frames := 2, cells := 2, slots := 5, locals := 27 } : Room) s m #[(.int p1)] below meth c s₁ [] 0 0 := Stand.of_body Bd
  have e0 : s₁.heap = h0 := by rw [← hh, Bd.state]; rfl
  have N0 := Fr.nil n0
  obtain ⟨T2, X2, e2, st2⟩ := getS2 X0 hx hZ hown (host := "") (Or.inl (hi 140 rfl)) Via.refl e0 yf_ (g := (mkF m 0 #[vI p1] [])) rfl (hb hby d43_0)
  obtain ⟨_, _, ⟨T3, L3, k3, n3⟩, -, X3, ⟨Lc3, hQ3, l3, y3, z3⟩, st3⟩ := Jvm.LawKit.callS X2 hx (y := mN27) hown (mvT hZ (hi 281 rfl)) (mvT hZ (hi 282 rfl)) (mvT hZ (hi 265 rfl)) (mvT hZ (hi 283 rfl)) (by decide) (backOf (W := 0) (rm44 l Z a0 hw [] p1 h0 n0 Z0 hhc4_7) hZ (hi 283 rfl) (hi 265 rfl) (by decide) (by decide)) (g := (mkF m 7 #[vI p1] [(.int p1)])) rfl (by rw [hml]; rfl) (argsL := [(.int p1)]) (rest := []) (lenOf yph_ rfl) rfl (by show 2 * 0 + _ ≤ _; exact Nat.le_of_eq rfl) (hb hby d43_7) (fun _ _ => ⟨rfl, e2, (by decide : 0 + 0 ≤ _), (by decide : 0 + 0 ≤ _)⟩)
  dsimp only [Pt.U, Pt.locs, Pt.cells, Pt.slots] at X3 l3 y3 z3 st3 hQ3
  subst l3 y3 z3
  obtain ⟨rfl, N3q, e3⟩ := hQ3
  have N3 := Fr.app N0 N3q
  obtain ⟨T4, h4, X4, e4, E4, A4, D4, -, st4⟩ := newO X3 hx hZ hown (hi 284 rfl) (hi 5 rfl) (hi 4 rfl) e3 (g := (mkF m 13 #[vI p1] [])) rfl (hb hby d43_13) (by decide) (by decide)
  obtain ⟨b4, g4⟩ : ∃ z, z = h0.size := ⟨_, rfl⟩
  rw [← g4] at A4 D4 st4
  have g_b4 : n0 ≤ b4 := Nat.le_trans Z0 (Nat.le_of_eq g4.symm)
  have sz_b4 : h0.size ≤ b4 := Nat.le_trans (Nat.le_refl h0.size) (Nat.le_of_eq g4.symm)
  have ypx_ : Fld Z h4 b4 "java/lang/String" "value" "[B" .null := D4 (Or.inr (hi 7 rfl)) (ty := (.array .byte)) (by decide)
  have ypy_ : Fld Z h4 b4 "java/lang/String" "coder" "B" (.int (0 : Int32)) := D4 (Or.inr (hi 8 rfl)) (ty := .byte) (by decide)
  obtain ⟨_, _, ⟨T5, L5, k5, n5⟩, -, X5, ⟨Lc5, hQ5, l5, y5, z5⟩, st5⟩ := Jvm.LawKit.callS X4 hx (y := mN29) hown (mvT hZ (hi 285 rfl)) (mvT hZ (hi 286 rfl)) (mvT hZ (hi 265 rfl)) (mvT hZ (hi 287 rfl)) (by decide) (backOf (W := 2) (rm45 l Z a0 hw [] p1 h4 n0 (Nat.le_trans Z0 E4.1) ) hZ (hi 287 rfl) (hi 265 rfl) (by decide) (by decide)) (g := (mkF m 18 #[vI p1] [(.int p1), (.ref b4), (.ref b4)])) rfl (by rw [hml]; rfl) (argsL := [(.int p1)]) (rest := [(.ref b4), (.ref b4)]) (lenOf yny_ rfl) rfl (by show 2 * 0 + _ ≤ _; exact Nat.le_of_eq rfl) (hb hby d43_18) (fun _ _ => ⟨rfl, e4, (by decide : 1 + 1 ≤ _), (by decide : 4 + 1 ≤ _)⟩)
  dsimp only [Pt.U, Pt.locs, Pt.cells, Pt.slots] at X5 l5 y5 z5 st5 hQ5
  subst l5 y5 z5
  obtain ⟨b2_5, ⟨k2_5, ⟨rfl, N5q, K5, i5_0, i5_1, i5_2⟩⟩⟩ := hQ5
  have N5 := Fr.app N3 N5q
  have sz_b2_5 : h0.size ≤ b2_5 := Nat.le_trans (Nat.le_trans (Nat.le_refl h0.size) E4.1) i5_0
  have g_b2_5 : n0 ≤ b2_5 := Nat.le_trans Z0 sz_b2_5
  have f0 := (ypx_.keep K5 own_n0)
  have f1 := (ypy_.keep K5 own_n0)
  have f2 := (A4.keep K5)
  obtain ⟨_, _, ⟨T6, L6, k6, n6⟩, -, X6, ⟨Lc6, hQ6, l6, y6, z6⟩, st6⟩ := X5.specialBack hx (y := mN13) rfl hown (mvT hZ (hi 288 rfl)) (mvT hZ (hi 289 rfl)) (mvT hZ (hi 290 rfl)) (by decide) (backOf (W := 1) (rm46 l Z a0 hw [] b4 b2_5 .null (0 : Int32) T5.heap n0 (Nat.le_trans (Nat.le_trans Z0 E4.1) K5.1) f2 f0 g_b4 f1) hZ (hi 290 rfl) (hi 4 rfl) (by decide) (by decide)) (g := (mkF m 22 #[vI p1] [(.int (0 : Int32)), (.ref b2_5), (.ref b4), (.ref b4)])) rfl (by rw [hml]; rfl) (Steps.refl _) (a := b4) (argsL := [(.ref b2_5), (.int (0 : Int32))]) (rest := [(.ref b4)]) (lenOf ynn_ rfl) rfl (by show 2 * 0 + _ ≤ _; exact Nat.le_of_eq rfl) (hb hby d43_22) (fun _ _ => ⟨rfl, rfl, (by decide : 2 + 0 ≤ _), (by decide : 5 + 0 ≤ _)⟩)
  dsimp only [Pt.U, Pt.locs, Pt.cells, Pt.slots] at X6 l6 y6 z6 st6 hQ6
  subst l6 y6 z6
  obtain ⟨rfl, N6q, K6, i6_0, i6_1, i6_2⟩ := hQ6
  have N6 := Fr.app N5 N6q
  have f3 := (i5_1.keep K6)
  have f4 := (i5_2.keep K6 (own_nm (Ne.symm (Nat.ne_of_lt (Nat.lt_of_lt_of_le A4.lt i5_0))) own_n0))
  obtain ⟨fs, hr, hrun, hended, hW, hsame⟩ := X6.leave (v := some (.ref b4)) (fun h => by rw [Bd.returns] at h; cases h)
  refine ⟨_, _, castTop (ef_43 m p1) ?_, hrun, hended, _, _, rfl, ?_, ⟨_, rfl⟩, hW, hsame.mono (by decide) (by decide)⟩
  · show Steps p.tables e below (s₁.setTop (mkF m 0 #[vI p1] [])) _
    refine st2 _ ?_
    refine XS.ifNo X2.here hx rfl (hb hby d43_3) rfl ((if0 _ _).trans (feq (show ¬ (ya_ = (0 : Int32)) from hcs)).1) ?_
    refine XS.iloadN X2.here hx rfl (hb hby d43_6) rfl ?_
    refine st3 _ ?_
    refine XS.ifNo X3.here hx rfl (hb hby d43_10) rfl ((if0 _ _).trans (feq (by decide : ¬ ((1 : Int32) = (0 : Int32)))).1) ?_
    refine st4 _ ?_
    refine XS.dup X4.here hx rfl (hb hby d43_16) rfl rfl ?_
    refine XS.iloadN X4.here hx rfl (hb hby d43_17) rfl ?_
    refine st5 _ ?_
    refine XS.iconst X5.here hx rfl (hb hby d43_21) ?_
    refine st6.trans ?_
    show Steps p.tables e below (T6.setTop (mkF m 25 #[vI p1] [(.ref b4)])) _
    jvm_step X6.here [X6.here.top, hx, (hb hby d43_25), X6.method', Bd.returns, Value.isRef, FieldType.isReference]
    first | (intro acts; rw [hr _ acts rfl rfl rfl]) | rw [hr _ _ rfl rfl rfl]
    exact Steps.refl _
  · show Q_rm43 Z p1 ya_ h0 n0 _ T6.heap _
    exact ⟨b4, ⟨b2_5, ⟨k2_5, ⟨rfl, N6, ((((Keep.refl h0 []).ext E4).trans K5 (fun x q => nomatch q)).trans K6 (fun x q => (List.mem_cons.mp q).elim (fun r => by subst r; exact (Or.inr sz_b4)) (fun q => nomatch q))), sz_b4, sz_b2_5, (Nat.ne_of_lt (Nat.lt_of_lt_of_le A4.lt i5_0)), i6_0, i6_1, i6_2, f3, f4⟩⟩⟩⟩
theorem d51_0 : decode jdk_52_method_15_code 0 = .ok (.iload_n 1, 1) := by decide +kernel
theorem d51_1 : decode jdk_52_method_15_code 1 = .ok (.aload_n 0, 1) := by decide +kernel
theorem d51_2 : decode jdk_52_method_15_code 2 = .ok (.arraylength, 1) := by decide +kernel
theorem d51_3 : decode jdk_52_method_15_code 3 = .ok (.isub, 1) := by decide +kernel
theorem d51_4 : decode jdk_52_method_15_code 4 = .ok (.bipush 31, 2) := by decide +kernel
theorem d51_6 : decode jdk_52_method_15_code 6 = .ok (.iushr, 1) := by decide +kernel
theorem d51_7 : decode jdk_52_method_15_code 7 = .ok (.i2b, 1) := by decide +kernel
theorem d51_8 : decode jdk_52_method_15_code 8 = .ok (.ireturn, 1) := by decide +kernel
theorem pn_51 : plainName "java/lang/StringUTF16" = true := by first | (simp [plainName, overriddenIn]; done) | decide +kernel
theorem ef_51 (m : MethodId) (x0 : Addr) (x1 : Int32) : entryFrame m #[(.ref x0), (.int x1)] 2 = mkF m 0 #[.val (.ref x0), .val (.int x1)] [] := by first | (simp [entryFrame, mkF, argsToLocals, Value.category]; done) | rfl
def Q_rm51 (Z : State) (a1 : Addr) (k_a1 : ClassId) (vs_a1 : List Value) (h0 : Heap) (n0 : Nat) (v : Option Value) (h : Heap) (L : List Loc) : Prop := v = some (.int (nar .byte (0 : Int32))) ∧ Fr n0 L ∧ h = h0
set_option maxRecDepth 65536 in
set_option maxHeartbeats 40000000 in
theorem rm51 (l : Launch) (Z : State) (a0 : Array Value) (hw : ∀ d ∈ tables_1, d.before a0 Z = true) (ws : List Jvm.Cond) (a1 : Addr) (k_a1 : ClassId) (vs_a1 : List Value) (h0 : Heap) (n0 : Nat) (Z0 : n0 ≤ h0.size) (V_a1 : Arv Z h0 a1 k_a1 .byte (2 : Int32) vs_a1 (.int (0 : Int32))) :
    MetFree l mN30 (head1 (Jvm.Cond.code mN30 jdk_52_method_15_code 2 (some .byte) :: ws) ({ frames := 0, cells := 0, slots := 0, locals := 0 } : Room)) (fun a U => a = #[(.ref a1), (.int (2 : Int32))] ∧ Z.Warmed39 U.vm ∧ U.heap = h0) (fun _ _ _ _ _ => True) (fun _ U o U' => ∃ v L, o = .returned v ∧ Q_rm51 Z a1 k_a1 vs_a1 h0 n0 v U'.heap L ∧ FrameEnd U o U' L ({ frames := 0, cells := 0, slots := 0, locals := 0 } : Room).cells ({ frames := 0, cells := 0, slots := 0, locals := 0 } : Room).slots) := by
  have hi : ∀ (i : Nat) {d : Jvm.Cond}, tables_1[i]? = some d → d.before a0 Z = true := fun i d h => hw d (List.mem_of_getElem? h)
  refine MetFree.of_bodySF (plainFor_of_name pn_51) hisR ?_
  intro p e s m args below meth c s₁ Bd hml0 hP hK
  obtain ⟨rfl, hZ, hh⟩ := hP
  have hx := Bd.exec
  have hby := Bd.bytes
  have hml : c.maxLocals = 2 := hml0
  have hown : s.vm.findClass "java/lang/StringUTF16" = some m.cls := findClass_of_methodNamed Bd.named
  have hnm := (name_of_methodNamed Bd.named Bd.method).1
  have X0 : Stand p l e ({ frames := 0, cells := 0, slots := 0, locals := 0 } : Room) s m #[(.ref a1), (.int (2 : Int32))] below meth c s₁ [] 0 0 := Stand.of_body Bd
  have e0 : s₁.heap = h0 := by rw [← hh, Bd.state]; rfl
  have N0 := Fr.nil n0
  obtain ⟨cl_a1_0, Ar_a1_0, q_a1_0, Sz_a1_0, Ng_a1_0, Ha_a1_0, Gt_a1_0⟩ := id V_a1
  obtain ⟨fs, hr, hrun, hended, hW, hsame⟩ := X0.leave (v := some (.int (nar .byte (0 : Int32)))) (fun h => by rw [Bd.returns] at h; cases h)
  refine ⟨_, _, castTop (ef_51 m a1 (2 : Int32)) ?_, hrun, hended, _, _, rfl, ?_, ⟨_, rfl⟩, hW, hsame.mono (by decide) (by decide)⟩
  · show Steps p.tables e below (s₁.setTop (mkF m 0 #[vA a1, vI (2 : Int32)] [])) _
    refine XS.iloadN X0.here hx rfl (hb hby d51_0) rfl ?_
    refine XS.aloadN X0.here hx rfl (hb hby d51_1) rfl rfl ?_
    refine X0.arraylength hx (by rw [e0]; exact Ar_a1_0.1) (State.isArrayOf_alike hZ.alike Ar_a1_0.2.1) (g := (mkF m 2 #[vA a1, vI (2 : Int32)] [(.ref a1), (.int (2 : Int32))])) rfl rfl (hb hby d51_2) _ ?_
    rw [len_of Sz_a1_0 Ng_a1_0]
    refine XS.isub X0.here hx rfl (hb hby d51_3) rfl ?_
    refine XS.bipush X0.here hx rfl (hb hby d51_4) ?_
    refine XS.iushr X0.here hx rfl (hb hby d51_6) rfl ?_
    refine XS.i2b X0.here hx rfl (hb hby d51_7) rfl ?_
    show Steps p.tables e below (s₁.setTop (mkF m 8 #[vA a1, vI (2 : Int32)] [(.int (0 : Int32))])) _
    exact retN X0 hx (t := .byte) Bd.returns (by simp) (hb hby d51_8) hr
  · show Q_rm51 Z a1 k_a1 vs_a1 h0 n0 _ s₁.heap _
    exact ⟨rfl, N0, e0⟩
theorem d50_0 : decode jdk_52_method_21_code 0 = .ok (.iconst 0, 1) := by decide +kernel
theorem d50_1 : decode jdk_52_method_21_code 1 = .ok (.istore 5, 2) := by decide +kernel
theorem d50_3 : decode jdk_52_method_21_code 3 = .ok (.iload 5, 2) := by decide +kernel
theorem d50_5 : decode jdk_52_method_21_code 5 = .ok (.iload 4, 2) := by decide +kernel
theorem d50_7 : decode jdk_52_method_21_code 7 = .ok (.if_icmp .ge 37, 3) := by decide +kernel
theorem d50_10 : decode jdk_52_method_21_code 10 = .ok (.aload_n 0, 1) := by decide +kernel
theorem d50_11 : decode jdk_52_method_21_code 11 = .ok (.iload_n 1, 1) := by decide +kernel
theorem d50_12 : decode jdk_52_method_21_code 12 = .ok (.caload, 1) := by decide +kernel
theorem d50_13 : decode jdk_52_method_21_code 13 = .ok (.istore 6, 2) := by decide +kernel
theorem d50_15 : decode jdk_52_method_21_code 15 = .ok (.iload 6, 2) := by decide +kernel
theorem d50_17 : decode jdk_52_method_21_code 17 = .ok (.sipush 255, 3) := by decide +kernel
theorem d50_20 : decode jdk_52_method_21_code 20 = .ok (.if_icmp .le 6, 3) := by decide +kernel
theorem d50_26 : decode jdk_52_method_21_code 26 = .ok (.aload_n 2, 1) := by decide +kernel
theorem d50_27 : decode jdk_52_method_21_code 27 = .ok (.iload_n 3, 1) := by decide +kernel
theorem d50_28 : decode jdk_52_method_21_code 28 = .ok (.iload 6, 2) := by decide +kernel
theorem d50_30 : decode jdk_52_method_21_code 30 = .ok (.i2b, 1) := by decide +kernel
theorem d50_31 : decode jdk_52_method_21_code 31 = .ok (.bastore, 1) := by decide +kernel
theorem d50_32 : decode jdk_52_method_21_code 32 = .ok (.iinc 1 1, 3) := by decide +kernel
theorem d50_35 : decode jdk_52_method_21_code 35 = .ok (.iinc 3 1, 3) := by decide +kernel
theorem d50_38 : decode jdk_52_method_21_code 38 = .ok (.iinc 5 1, 3) := by decide +kernel
theorem d50_41 : decode jdk_52_method_21_code 41 = .ok (.goto (-38), 3) := by decide +kernel
theorem d50_44 : decode jdk_52_method_21_code 44 = .ok (.iload 4, 2) := by decide +kernel
theorem d50_46 : decode jdk_52_method_21_code 46 = .ok (.ireturn, 1) := by decide +kernel
theorem pn_50 : plainName "java/lang/StringUTF16" = true := by first | (simp [plainName, overriddenIn]; done) | decide +kernel
theorem ef_50 (m : MethodId) (x0 : Addr) (x1 : Int32) (x2 : Addr) (x3 : Int32) (x4 : Int32) : entryFrame m #[(.ref x0), (.int x1), (.ref x2), (.int x3), (.int x4)] 7 = mkF m 0 #[.val (.ref x0), .val (.int x1), .val (.ref x2), .val (.int x3), .val (.int x4), .unset, .unset] [] := by first | (simp [entryFrame, mkF, argsToLocals, Value.category]; done) | rfl
def Q_rm50 (Z : State) (a1 : Addr) (a2 : Addr) (k_a1 : ClassId) (x_a1_0 : Int32) (x_a1_1 : Int32) (k_a2 : ClassId) (x_a2_0 : Int32) (x_a2_1 : Int32) (h0 : Heap) (n0 : Nat) (v : Option Value) (h : Heap) (L : List Loc) : Prop := v = some (.int (2 : Int32)) ∧ Fr n0 L ∧ Keep h0 h [a2] ∧ Arv Z h a2 k_a2 .byte (2 : Int32) [(.int (nar .byte (x_a1_0.toInt8.toInt32))), (.int (nar .byte (x_a1_1.toInt8.toInt32)))] (.int (0 : Int32))
set_option maxRecDepth 65536 in
set_option maxHeartbeats 40000000 in
theorem rm50 (l : Launch) (Z : State) (a0 : Array Value) (hw : ∀ d ∈ tables_1, d.before a0 Z = true) (ws : List Jvm.Cond) (a1 : Addr) (a2 : Addr) (k_a1 : ClassId) (x_a1_0 : Int32) (x_a1_1 : Int32) (k_a2 : ClassId) (x_a2_0 : Int32) (x_a2_1 : Int32) (h0 : Heap) (n0 : Nat) (Z0 : n0 ≤ h0.size) (g_a2 : n0 ≤ a2) (V_a1 : Arv Z h0 a1 k_a1 .char (2 : Int32) [(.int x_a1_0), (.int x_a1_1)] (.int (0 : Int32))) (V_a2 : Arv Z h0 a2 k_a2 .byte (2 : Int32) [(.int x_a2_0), (.int x_a2_1)] (.int (0 : Int32))) (hc20 : ¬ ((255 : Int32) < x_a1_0)) (yqu_ : a1 ≠ a2) (hc20' : ¬ ((255 : Int32) < x_a1_1)) :
    MetFree l mN32 (head1 (Jvm.Cond.code mN32 jdk_52_method_21_code 7 (some .int) :: ws) ({ frames := 0, cells := 0, slots := 0, locals := 0 } : Room)) (fun a U => a = #[(.ref a1), (.int (0 : Int32)), (.ref a2), (.int (0 : Int32)), (.int (2 : Int32))] ∧ Z.Warmed39 U.vm ∧ U.heap = h0) (fun _ _ _ _ _ => True) (fun _ U o U' => ∃ v L, o = .returned v ∧ Q_rm50 Z a1 a2 k_a1 x_a1_0 x_a1_1 k_a2 x_a2_0 x_a2_1 h0 n0 v U'.heap L ∧ FrameEnd U o U' L ({ frames := 0, cells := 0, slots := 0, locals := 0 } : Room).cells ({ frames := 0, cells := 0, slots := 0, locals := 0 } : Room).slots) := by
  have hi : ∀ (i : Nat) {d : Jvm.Cond}, tables_1[i]? = some d → d.before a0 Z = true := fun i d h => hw d (List.mem_of_getElem? h)
  refine MetFree.of_bodySF (plainFor_of_name pn_50) hisR ?_
  intro p e s m args below meth c s₁ Bd hml0 hP hK
  obtain ⟨rfl, hZ, hh⟩ := hP
  have hx := Bd.exec
  have hby := Bd.bytes
  have hml : c.maxLocals = 7 := hml0
  have hown : s.vm.findClass "java/lang/StringUTF16" = some m.cls := findClass_of_methodNamed Bd.named
  have hnm := (name_of_methodNamed Bd.named Bd.method).1
  have X0 : Stand p l e ({ frames := 0, cells := 0, slots := 0, locals := 0 } : Room) s m #[(.ref a1), (.int (0 : Int32)), (.ref a2), (.int (0 : Int32)), (.int (2 : Int32))] below meth c s₁ [] 0 0 := Stand.of_body Bd
  have e0 : s₁.heap = h0 := by rw [← hh, Bd.state]; rfl
  have N0 := Fr.nil n0
  obtain ⟨cl_a1_0, Ar_a1_0, q_a1_0, Sz_a1_0, Ng_a1_0, Ha_a1_0, Gt_a1_0⟩ := id V_a1
  have yor_ : ¬ ((0 : Int32) < 0 ∨ cl_a1_0.slots.size ≤ ((0 : Int32)).toNatClampNeg) := inb_of Sz_a1_0 ⟨by decide, by decide⟩
  have yqv_ : cl_a1_0.slots[((0 : Int32)).toNatClampNeg]? = some (.int x_a1_0) := (Ha_a1_0 _ (Nat.lt_of_not_le fun q => yor_ (Or.inr q))).trans (congrArg some (rfl : (([(.int x_a1_0), (.int x_a1_1)] : List Value)).getD ((0 : Int32)).toNatClampNeg (.int (0 : Int32)) = (.int x_a1_0)))
  obtain ⟨cl_a2_1, Ar_a2_1, q_a2_1, Sz_a2_1, Ng_a2_1, Ha_a2_1, Gt_a2_1⟩ := id V_a2
  have yqw_ : ¬ ((0 : Int32) < 0 ∨ cl_a2_1.slots.size ≤ ((0 : Int32)).toNatClampNeg) := inb_of Sz_a2_1 ⟨by decide, by decide⟩
  obtain ⟨T3, h3, X3, e3, W3, st3⟩ := stB X0 hx hZ e0 Ar_a2_1 (j := (0 : Int32)) yqw_ (g := (mkF m 31 #[vA a1, vI (0 : Int32), vA a2, vI (0 : Int32), vI (2 : Int32), vI (0 : Int32), vI x_a1_0] [(.int (x_a1_0.toInt8.toInt32)), (.int (0 : Int32)), (.ref a2)])) rfl rfl (hb hby d50_31)
  have V3 : Arv Z h3 a2 k_a2 .byte (2 : Int32) [(.int (nar .byte (x_a1_0.toInt8.toInt32))), (.int x_a2_1)] (.int (0 : Int32)) := Arv.set Ar_a2_1 q_a2_1 Sz_a2_1 Ng_a2_1 Ha_a2_1 Gt_a2_1 (fits_nar_byte _) W3 0 rfl (Nat.le_of_ble_eq_true rfl)
  have N3 := Fr.snoc X3 N0 g_a2
  have f2 := (V_a1.other W3 yqu_)
  obtain ⟨cl_a1_3, Ar_a1_3, q_a1_3, Sz_a1_3, Ng_a1_3, Ha_a1_3, Gt_a1_3⟩ := id f2
  have yos_ : ¬ ((1 : Int32) < 0 ∨ cl_a1_3.slots.size ≤ ((1 : Int32)).toNatClampNeg) := inb_of Sz_a1_3 ⟨by decide, by decide⟩
  have yqx_ : cl_a1_3.slots[((1 : Int32)).toNatClampNeg]? = some (.int x_a1_1) := (Ha_a1_3 _ (Nat.lt_of_not_le fun q => yos_ (Or.inr q))).trans (congrArg some (rfl : (([(.int x_a1_0), (.int x_a1_1)] : List Value)).getD ((1 : Int32)).toNatClampNeg (.int (0 : Int32)) = (.int x_a1_1)))
  obtain ⟨cl_a2_4, Ar_a2_4, q_a2_4, Sz_a2_4, Ng_a2_4, Ha_a2_4, Gt_a2_4⟩ := id V3
  have yqy_ : ¬ ((1 : Int32) < 0 ∨ cl_a2_4.slots.size ≤ ((1 : Int32)).toNatClampNeg) := inb_of Sz_a2_4 ⟨by decide, by decide⟩
  obtain ⟨T4, h4, X4, e4, W4, st4⟩ := stB X3 hx hZ e3 Ar_a2_4 (j := (1 : Int32)) yqy_ (g := (mkF m 31 #[vA a1, vI (1 : Int32), vA a2, vI (1 : Int32), vI (2 : Int32), vI (1 : Int32), vI x_a1_1] [(.int (x_a1_1.toInt8.toInt32)), (.int (1 : Int32)), (.ref a2)])) rfl rfl (hb hby d50_31)
  have V4 : Arv Z h4 a2 k_a2 .byte (2 : Int32) [(.int (nar .byte (x_a1_0.toInt8.toInt32))), (.int (nar .byte (x_a1_1.toInt8.toInt32)))] (.int (0 : Int32)) := Arv.set Ar_a2_4 q_a2_4 Sz_a2_4 Ng_a2_4 Ha_a2_4 Gt_a2_4 (fits_nar_byte _) W4 1 rfl (Nat.le_of_ble_eq_true rfl)
  have N4 := Fr.snoc X4 N3 g_a2
  obtain ⟨fs, hr, hrun, hended, hW, hsame⟩ := X4.leave (v := some (.int (2 : Int32))) (fun h => by rw [Bd.returns] at h; cases h)
  refine ⟨_, _, castTop (ef_50 m a1 (0 : Int32) a2 (0 : Int32) (2 : Int32)) ?_, hrun, hended, _, _, rfl, ?_, ⟨_, rfl⟩, hW, hsame.mono (by decide) (by decide)⟩
  · show Steps p.tables e below (s₁.setTop (mkF m 0 #[vA a1, vI (0 : Int32), vA a2, vI (0 : Int32), vI (2 : Int32), vU, vU] [])) _
    refine XS.iconst X0.here hx rfl (hb hby d50_0) ?_
    refine XS.istore X0.here hx rfl (hb hby d50_1) rfl (l' := #[vA a1, vI (0 : Int32), vA a2, vI (0 : Int32), vI (2 : Int32), vI (0 : Int32), vU]) rfl ?_
    refine XS.iload X0.here hx rfl (hb hby d50_3) rfl ?_
    refine XS.iload X0.here hx rfl (hb hby d50_5) rfl ?_
    refine XS.icmpNo X0.here hx rfl (hb hby d50_7) rfl (tlt (by decide : (0 : Int32) < (2 : Int32))).2.1 ?_
    refine XS.aloadN X0.here hx rfl (hb hby d50_10) rfl rfl ?_
    refine XS.iloadN X0.here hx rfl (hb hby d50_11) rfl ?_
    refine X0.caload hx (j := (0 : Int32)) (v := (.int x_a1_0)) (by rw [e0]; exact Ar_a1_0.1) (State.isArrayOf_alike hZ.alike Ar_a1_0.2.1) Ar_a1_0.2.2 yor_ yqv_ (g := (mkF m 12 #[vA a1, vI (0 : Int32), vA a2, vI (0 : Int32), vI (2 : Int32), vI (0 : Int32), vU] [(.int (0 : Int32)), (.ref a1)])) rfl rfl (hb hby d50_12) _ ?_
    refine XS.istore X0.here hx rfl (hb hby d50_13) rfl (l' := #[vA a1, vI (0 : Int32), vA a2, vI (0 : Int32), vI (2 : Int32), vI (0 : Int32), vI x_a1_0]) rfl ?_
    refine XS.iload X0.here hx rfl (hb hby d50_15) rfl ?_
    refine XS.sipush X0.here hx rfl (hb hby d50_17) ?_
    refine XS.icmpYes X0.here hx rfl (pc0 := 20) (pc' := 26) rfl (hb hby d50_20) rfl (flt hc20).2.2.2 (by decide) (by decide) ?_
    refine XS.aloadN X0.here hx rfl (hb hby d50_26) rfl rfl ?_
    refine XS.iloadN X0.here hx rfl (hb hby d50_27) rfl ?_
    refine XS.iload X0.here hx rfl (hb hby d50_28) rfl ?_
    refine XS.i2b X0.here hx rfl (hb hby d50_30) rfl ?_
    refine st3 _ ?_
    refine XS.iinc X3.here hx rfl (hb hby d50_32) rfl (l' := #[vA a1, vI (1 : Int32), vA a2, vI (0 : Int32), vI (2 : Int32), vI (0 : Int32), vI x_a1_0]) rfl ?_
    refine XS.iinc X3.here hx rfl (hb hby d50_35) rfl (l' := #[vA a1, vI (1 : Int32), vA a2, vI (1 : Int32), vI (2 : Int32), vI (0 : Int32), vI x_a1_0]) rfl ?_
    refine XS.iinc X3.here hx rfl (hb hby d50_38) rfl (l' := #[vA a1, vI (1 : Int32), vA a2, vI (1 : Int32), vI (2 : Int32), vI (1 : Int32), vI x_a1_0]) rfl ?_
    refine XS.goto X3.here hx rfl (pc0 := 41) (pc' := 3) rfl (hb hby d50_41) (by decide) (by decide) ?_
    refine XS.iload X3.here hx rfl (hb hby d50_3) rfl ?_
    refine XS.iload X3.here hx rfl (hb hby d50_5) rfl ?_
    refine XS.icmpNo X3.here hx rfl (hb hby d50_7) rfl (tlt (by decide : (1 : Int32) < (2 : Int32))).2.1 ?_
    refine XS.aloadN X3.here hx rfl (hb hby d50_10) rfl rfl ?_
    refine XS.iloadN X3.here hx rfl (hb hby d50_11) rfl ?_
    refine X3.caload hx (j := (1 : Int32)) (v := (.int x_a1_1)) (by rw [e3]; exact Ar_a1_3.1) (State.isArrayOf_alike hZ.alike Ar_a1_3.2.1) Ar_a1_3.2.2 yos_ yqx_ (g := (mkF m 12 #[vA a1, vI (1 : Int32), vA a2, vI (1 : Int32), vI (2 : Int32), vI (1 : Int32), vI x_a1_0] [(.int (1 : Int32)), (.ref a1)])) rfl rfl (hb hby d50_12) _ ?_
    refine XS.istore X3.here hx rfl (hb hby d50_13) rfl (l' := #[vA a1, vI (1 : Int32), vA a2, vI (1 : Int32), vI (2 : Int32), vI (1 : Int32), vI x_a1_1]) rfl ?_
    refine XS.iload X3.here hx rfl (hb hby d50_15) rfl ?_
    refine XS.sipush X3.here hx rfl (hb hby d50_17) ?_
    refine XS.icmpYes X3.here hx rfl (pc0 := 20) (pc' := 26) rfl (hb hby d50_20) rfl (flt hc20').2.2.2 (by decide) (by decide) ?_
    refine XS.aloadN X3.here hx rfl (hb hby d50_26) rfl rfl ?_
    refine XS.iloadN X3.here hx rfl (hb hby d50_27) rfl ?_
    refine XS.iload X3.here hx rfl (hb hby d50_28) rfl ?_
    refine XS.i2b X3.here hx rfl (hb hby d50_30) rfl ?_
    refine st4 _ ?_
    refine XS.iinc X4.here hx rfl (hb hby d50_32) rfl (l' := #[vA a1, vI (2 : Int32), vA a2, vI (1 : Int32), vI (2 : Int32), vI (1 : Int32), vI x_a1_1]) rfl ?_
    refine XS.iinc X4.here hx rfl (hb hby d50_35) rfl (l' := #[vA a1, vI (2 : Int32), vA a2, vI (2 : Int32), vI (2 : Int32), vI (1 : Int32), vI x_a1_1]) rfl ?_
    refine XS.iinc X4.here hx rfl (hb hby d50_38) rfl (l' := #[vA a1, vI (2 : Int32), vA a2, vI (2 : Int32), vI (2 : Int32), vI (2 : Int32), vI x_a1_1]) rfl ?_
    refine XS.goto X4.here hx rfl (pc0 := 41) (pc' := 3) rfl (hb hby d50_41) (by decide) (by decide) ?_
    refine XS.iload X4.here hx rfl (hb hby d50_3) rfl ?_
    refine XS.iload X4.here hx rfl (hb hby d50_5) rfl ?_
    refine XS.icmpYes X4.here hx rfl (pc0 := 7) (pc' := 44) rfl (hb hby d50_7) rfl (flt (fun q => Int32.lt_irrefl q : ¬ ((2 : Int32) < (2 : Int32)))).2.1 (by decide) (by decide) ?_
    refine XS.iload X4.here hx rfl (hb hby d50_44) rfl ?_
    show Steps p.tables e below (T4.setTop (mkF m 46 #[vA a1, vI (2 : Int32), vA a2, vI (2 : Int32), vI (2 : Int32), vI (2 : Int32), vI x_a1_1] [(.int (2 : Int32))])) _
    exact retI X4 hx Bd.returns (hb hby d50_46) hr
  · show Q_rm50 Z a1 a2 k_a1 x_a1_0 x_a1_1 k_a2 x_a2_0 x_a2_1 h0 n0 _ T4.heap _
    rw [e4]
    exact ⟨rfl, N4, (((Keep.refl h0 [a2]).wr W3 (Or.inl (List.mem_of_getElem? (i := 0) rfl))).wr W4 (Or.inl (List.mem_of_getElem? (i := 0) rfl))), V4⟩
theorem ykm_ : parseMethodDescriptor "([CI[BII)I" = some ⟨[(.array .char), .int, (.array .byte), .int, .int], some .int⟩ := by decide +kernel
theorem d49_0 : decode jdk_52_method_16_code 0 = .ok (.iload_n 2, 1) := by decide +kernel
theorem d49_1 : decode jdk_52_method_16_code 1 = .ok (.newarray .byte, 2) := by decide +kernel
theorem d49_3 : decode jdk_52_method_16_code 3 = .ok (.astore_n 3, 1) := by decide +kernel
theorem d49_4 : decode jdk_52_method_16_code 4 = .ok (.aload_n 0, 1) := by decide +kernel
theorem d49_5 : decode jdk_52_method_16_code 5 = .ok (.iload_n 1, 1) := by decide +kernel
theorem d49_6 : decode jdk_52_method_16_code 6 = .ok (.aload_n 3, 1) := by decide +kernel
theorem d49_7 : decode jdk_52_method_16_code 7 = .ok (.iconst 0, 1) := by decide +kernel
theorem d49_8 : decode jdk_52_method_16_code 8 = .ok (.iload_n 2, 1) := by decide +kernel
theorem d49_9 : decode jdk_52_method_16_code 9 = .ok (.invokestatic 115, 3) := by decide +kernel
theorem d49_12 : decode jdk_52_method_16_code 12 = .ok (.istore 4, 2) := by decide +kernel
theorem d49_14 : decode jdk_52_method_16_code 14 = .ok (.iload 4, 2) := by decide +kernel
theorem d49_16 : decode jdk_52_method_16_code 16 = .ok (.iload_n 2, 1) := by decide +kernel
theorem d49_17 : decode jdk_52_method_16_code 17 = .ok (.if_icmp .eq 40, 3) := by decide +kernel
theorem d49_57 : decode jdk_52_method_16_code 57 = .ok (.aload_n 3, 1) := by decide +kernel
theorem d49_58 : decode jdk_52_method_16_code 58 = .ok (.areturn, 1) := by decide +kernel
theorem pn_49 : plainName "java/lang/StringUTF16" = true := by first | (simp [plainName, overriddenIn]; done) | decide +kernel
theorem ef_49 (m : MethodId) (x0 : Addr) (x1 : Int32) (x2 : Int32) : entryFrame m #[(.ref x0), (.int x1), (.int x2)] 6 = mkF m 0 #[.val (.ref x0), .val (.int x1), .val (.int x2), .unset, .unset, .unset] [] := by first | (simp [entryFrame, mkF, argsToLocals, Value.category]; done) | rfl
def Q_rm49 (Z : State) (a1 : Addr) (k_a1 : ClassId) (x_a1_0 : Int32) (x_a1_1 : Int32) (h0 : Heap) (n0 : Nat) (v : Option Value) (h : Heap) (L : List Loc) : Prop := ∃ b2 : Addr, ∃ k2 : ClassId, v = some (.ref b2) ∧ Fr n0 L ∧ Keep h0 h [] ∧ h0.size ≤ b2 ∧ Exa Z h b2 "[B" ∧ Arv Z h b2 k2 .byte (2 : Int32) [(.int (nar .byte (x_a1_0.toInt8.toInt32))), (.int (nar .byte (x_a1_1.toInt8.toInt32)))] (.int (0 : Int32))
set_option maxRecDepth 65536 in
set_option maxHeartbeats 40000000 in
theorem rm49 (l : Launch) (Z : State) (a0 : Array Value) (hw : ∀ d ∈ tables_1, d.before a0 Z = true) (ws : List Jvm.Cond) (a1 : Addr) (k_a1 : ClassId) (x_a1_0 : Int32) (x_a1_1 : Int32) (h0 : Heap) (n0 : Nat) (Z0 : n0 ≤ h0.size) (V_a1 : Arv Z h0 a1 k_a1 .char (2 : Int32) [(.int x_a1_0), (.int x_a1_1)] (.int (0 : Int32))) (hhc20_9 : ¬ ((255 : Int32) < x_a1_0)) (yqz_ : ¬ ((255 : Int32) < x_a1_1)) :
    MetFree l mN31 (head1 (Jvm.Cond.code mN31 jdk_52_method_16_code 6 (some (.array .byte)) :: ws) ({ frames := 1, cells := 1, slots := 2, locals := 18 } : Room)) (fun a U => a = #[(.ref a1), (.int (0 : Int32)), (.int (2 : Int32))] ∧ Z.Warmed39 U.vm ∧ U.heap = h0) (fun _ _ _ _ _ => True) (fun _ U o U' => ∃ v L, o = .returned v ∧ Q_rm49 Z a1 k_a1 x_a1_0 x_a1_1 h0 n0 v U'.heap L ∧ FrameEnd U o U' L ({ frames := 1, cells := 1, slots := 2, locals := 18 } : Room).cells ({ frames := 1, cells := 1, slots := 2, locals := 18 } : Room).slots) := by
  have hi : ∀ (i : Nat) {d : Jvm.Cond}, tables_1[i]? = some d → d.before a0 Z = true := fun i d h => hw d (List.mem_of_getElem? h)
  refine MetFree.of_bodySF (plainFor_of_name pn_49) hisR ?_
  intro p e s m args below meth c s₁ Bd hml0 hP hK
  obtain ⟨rfl, hZ, hh⟩ := hP
  have hx := Bd.exec
  have hby := Bd.bytes
  have hml : c.maxLocals = 6 := hml0
  have hown : s.vm.findClass "java/lang/StringUTF16" = some m.cls := findClass_of_methodNamed Bd.named
  have hnm := (name_of_methodNamed Bd.named Bd.method).1
  have X0 : Stand p l e ({ frames := 1, cells := 1, slots := 2, locals := 18 } : Room) s m #[(.ref a1), (.int (0 : Int32)), (.int (2 : Int32))] below meth c s₁ [] 0 0 := Stand.of_body Bd
  have e0 : s₁.heap = h0 := by rw [← hh, Bd.state]; rfl
  have N0 := Fr.nil n0
  obtain ⟨T2, h2, k2, X2, e2, E2, A2, iE2, st2⟩ := newPE X0 hx hZ (hi 6 rfl) e0 (g := (mkF m 1 #[vA a1, vI (0 : Int32), vI (2 : Int32), vU, vU, vU] [(.int (2 : Int32))])) rfl (hb hby d49_1) rfl (by decide) (cap := 2) (by decide) (by decide) (by decide) (by decide) (ad := "[B") rfl
  obtain ⟨b2, g2⟩ : ∃ z, z = h0.size := ⟨_, rfl⟩
  rw [← g2] at A2 iE2 st2
  have g_b2 : n0 ≤ b2 := Nat.le_trans Z0 (Nat.le_of_eq g2.symm)
  have sz_b2 : h0.size ≤ b2 := Nat.le_trans (Nat.le_refl h0.size) (Nat.le_of_eq g2.symm)
  have V_b2 : Arv Z h2 b2 k2 .byte (2 : Int32) [(.int (0 : Int32)), (.int (0 : Int32))] (.int (0 : Int32)) := (Arv.new A2 (by decide)).pad (pad_rep [] (.int (0 : Int32)) 2)
  have f0 := (V_a1.ext E2)
  obtain ⟨_, _, ⟨T3, L3, k3, n3⟩, -, X3, ⟨Lc3, hQ3, l3, y3, z3⟩, st3⟩ := Jvm.LawKit.callS X2 hx (y := mN32) hown (mvT hZ (hi 311 rfl)) (mvT hZ (hi 312 rfl)) (mvT hZ (hi 309 rfl)) (mvT hZ (hi 313 rfl)) (by decide) (backOf (W := 0) (rm50 l Z a0 hw [] a1 b2 k_a1 x_a1_0 x_a1_1 k2 (0 : Int32) (0 : Int32) h2 n0 (Nat.le_trans Z0 E2.1) g_b2 f0 V_b2 hhc20_9 (Nat.ne_of_lt (Nat.lt_of_lt_of_le V_a1.lt sz_b2)) yqz_) hZ (hi 313 rfl) (hi 309 rfl) (by decide) (by decide)) (g := (mkF m 9 #[vA a1, vI (0 : Int32), vI (2 : Int32), vA b2, vU, vU] [(.int (2 : Int32)), (.int (0 : Int32)), (.ref b2), (.int (0 : Int32)), (.ref a1)])) rfl (by rw [hml]; rfl) (argsL := [(.ref a1), (.int (0 : Int32)), (.ref b2), (.int (0 : Int32)), (.int (2 : Int32))]) (rest := []) (lenOf ykm_ rfl) rfl (by show 2 * 0 + _ ≤ _; exact Nat.le_of_eq rfl) (hb hby d49_9) (fun _ _ => ⟨rfl, e2, (by decide : 1 + 0 ≤ _), (by decide : 2 + 0 ≤ _)⟩)
  dsimp only [Pt.U, Pt.locs, Pt.cells, Pt.slots] at X3 l3 y3 z3 st3 hQ3
  subst l3 y3 z3
  obtain ⟨rfl, N3q, K3, i3_0⟩ := hQ3
  have N3 := Fr.app N0 N3q
  have f1 := (iE2.keep K3)
  obtain ⟨fs, hr, hrun, hended, hW, hsame⟩ := X3.leave (v := some (.ref b2)) (fun h => by rw [Bd.returns] at h; cases h)
  refine ⟨_, _, castTop (ef_49 m a1 (0 : Int32) (2 : Int32)) ?_, hrun, hended, _, _, rfl, ?_, ⟨_, rfl⟩, hW, hsame.mono (by decide) (by decide)⟩
  · show Steps p.tables e below (s₁.setTop (mkF m 0 #[vA a1, vI (0 : Int32), vI (2 : Int32), vU, vU, vU] [])) _
    refine XS.iloadN X0.here hx rfl (hb hby d49_0) rfl ?_
    refine st2 _ ?_
    refine XS.astoreN X2.here hx rfl (hb hby d49_3) rfl rfl (l' := #[vA a1, vI (0 : Int32), vI (2 : Int32), vA b2, vU, vU]) rfl ?_
    refine XS.aloadN X2.here hx rfl (hb hby d49_4) rfl rfl ?_
    refine XS.iloadN X2.here hx rfl (hb hby d49_5) rfl ?_
    refine XS.aloadN X2.here hx rfl (hb hby d49_6) rfl rfl ?_
    refine XS.iconst X2.here hx rfl (hb hby d49_7) ?_
    refine XS.iloadN X2.here hx rfl (hb hby d49_8) rfl ?_
    refine st3 _ ?_
    refine XS.istore X3.here hx rfl (hb hby d49_12) rfl (l' := #[vA a1, vI (0 : Int32), vI (2 : Int32), vA b2, vI (2 : Int32), vU]) rfl ?_
    refine XS.iload X3.here hx rfl (hb hby d49_14) rfl ?_
    refine XS.iloadN X3.here hx rfl (hb hby d49_16) rfl ?_
    refine XS.icmpYes X3.here hx rfl (pc0 := 17) (pc' := 57) rfl (hb hby d49_17) rfl (teq (rfl : (2 : Int32) = (2 : Int32))).1 (by decide) (by decide) ?_
    refine XS.aloadN X3.here hx rfl (hb hby d49_57) rfl rfl ?_
    show Steps p.tables e below (T3.setTop (mkF m 58 #[vA a1, vI (0 : Int32), vI (2 : Int32), vA b2, vI (2 : Int32), vU] [(.ref b2)])) _
    jvm_step X3.here [X3.here.top, hx, (hb hby d49_58), X3.method', Bd.returns, Value.isRef, FieldType.isReference]
    first | (intro acts; rw [hr _ acts rfl rfl rfl]) | rw [hr _ _ rfl rfl rfl]
    exact Steps.refl _
  · show Q_rm49 Z a1 k_a1 x_a1_0 x_a1_1 h0 n0 _ T3.heap _
    exact ⟨b2, ⟨k2, ⟨rfl, N3, (((Keep.refl h0 []).ext E2).trans K3 (fun x q => (List.mem_cons.mp q).elim (fun r => by subst r; exact (Or.inr sz_b2)) (fun q => nomatch q))), sz_b2, f1, i3_0⟩⟩⟩
theorem ylm_ : parseMethodDescriptor "([CII)[B" = some ⟨[(.array .char), .int, .int], some (.array .byte)⟩ := by decide +kernel
theorem yno_ : parseMethodDescriptor "([BI)B" = some ⟨[(.array .byte), .int], some .byte⟩ := by decide +kernel
theorem d48_0 : decode jdk_42_method_149_code 0 = .ok (.aload_n 0, 1) := by decide +kernel
theorem d48_1 : decode jdk_42_method_149_code 1 = .ok (.invokespecial 1, 3) := by decide +kernel
theorem d48_4 : decode jdk_42_method_149_code 4 = .ok (.iload_n 3, 1) := by decide +kernel
theorem d48_5 : decode jdk_42_method_149_code 5 = .ok (.ifCond .ne 22, 3) := by decide +kernel
theorem d48_27 : decode jdk_42_method_149_code 27 = .ok (.getstatic 38, 3) := by decide +kernel
theorem d48_30 : decode jdk_42_method_149_code 30 = .ok (.ifCond .eq 28, 3) := by decide +kernel
theorem d48_33 : decode jdk_42_method_149_code 33 = .ok (.aload_n 1, 1) := by decide +kernel
theorem d48_34 : decode jdk_42_method_149_code 34 = .ok (.iload_n 2, 1) := by decide +kernel
theorem d48_35 : decode jdk_42_method_149_code 35 = .ok (.iload_n 3, 1) := by decide +kernel
theorem d48_36 : decode jdk_42_method_149_code 36 = .ok (.invokestatic 177, 3) := by decide +kernel
theorem d48_39 : decode jdk_42_method_149_code 39 = .ok (.astore 5, 2) := by decide +kernel
theorem d48_41 : decode jdk_42_method_149_code 41 = .ok (.aload_n 0, 1) := by decide +kernel
theorem d48_42 : decode jdk_42_method_149_code 42 = .ok (.aload 5, 2) := by decide +kernel
theorem d48_44 : decode jdk_42_method_149_code 44 = .ok (.iload_n 3, 1) := by decide +kernel
theorem d48_45 : decode jdk_42_method_149_code 45 = .ok (.invokestatic 47, 3) := by decide +kernel
theorem d48_48 : decode jdk_42_method_149_code 48 = .ok (.putfield 15, 3) := by decide +kernel
theorem d48_51 : decode jdk_42_method_149_code 51 = .ok (.aload_n 0, 1) := by decide +kernel
theorem d48_52 : decode jdk_42_method_149_code 52 = .ok (.aload 5, 2) := by decide +kernel
theorem d48_54 : decode jdk_42_method_149_code 54 = .ok (.putfield 9, 3) := by decide +kernel
theorem d48_57 : decode jdk_42_method_149_code 57 = .ok (.return_, 1) := by decide +kernel
theorem pn_48 : plainName "java/lang/String" = true := by first | (simp [plainName, overriddenIn]; done) | decide +kernel
theorem ef_48n4 (m : MethodId) (x0 : Addr) (x1 : Addr) (x2 : Int32) (x3 : Int32) : entryFrame m #[(.ref x0), (.ref x1), (.int x2), (.int x3), .null] 6 = mkF m 0 #[.val (.ref x0), .val (.ref x1), .val (.int x2), .val (.int x3), .val .null, .unset] [] := by first | (simp [entryFrame, mkF, argsToLocals, Value.category]; done) | rfl
def Q_rm48 (Z : State) (a1 : Addr) (a2 : Addr) (ya_ : Int32) (yaq_ : Int32) (yc_ : Value) (k_a2 : ClassId) (x_a2_0 : Int32) (x_a2_1 : Int32) (h0 : Heap) (n0 : Nat) (v : Option Value) (h : Heap) (L : List Loc) : Prop := ∃ b2_5 : Addr, ∃ k2_5 : ClassId, v = none ∧ Fr n0 L ∧ Keep h0 h [a1] ∧ h0.size ≤ b2_5 ∧ Exa Z h a1 "java/lang/String" ∧ Fld Z h a1 "java/lang/String" "coder" "B" (.int (0 : Int32)) ∧ Fld Z h a1 "java/lang/String" "value" "[B" (.ref b2_5) ∧ Exa Z h b2_5 "[B" ∧ Arv Z h b2_5 k2_5 .byte (2 : Int32) [(.int (nar .byte (x_a2_0.toInt8.toInt32))), (.int (nar .byte (x_a2_1.toInt8.toInt32)))] (.int (0 : Int32))
set_option maxRecDepth 65536 in
set_option maxHeartbeats 40000000 in
theorem rm48 (l : Launch) (Z : State) (a0 : Array Value) (hw : ∀ d ∈ tables_1, d.before a0 Z = true) (ws : List Jvm.Cond) (a1 : Addr) (a2 : Addr) (ya_ : Int32) (yaq_ : Int32) (yc_ : Value) (k_a2 : ClassId) (x_a2_0 : Int32) (x_a2_1 : Int32) (h0 : Heap) (n0 : Nat) (Z0 : n0 ≤ h0.size) (hcs : ¬ (ya_ = (0 : Int32))) (yf_ : Sta Z h0 "java/lang/String" "COMPACT_STRINGS" "Z" (.int ya_)) (E_a1 : Exa Z h0 a1 "java/lang/String") (yac_ : Fld Z h0 a1 "java/lang/String" "coder" "B" (.int yaq_)) (g_a1 : n0 ≤ a1) (yae_ : Fld Z h0 a1 "java/lang/String" "value" "[B" yc_) (V_a2 : Arv Z h0 a2 k_a2 .char (2 : Int32) [(.int x_a2_0), (.int x_a2_1)] (.int (0 : Int32))) (ypi_ : ¬ ((255 : Int32) < x_a2_0)) (yoz_ : ¬ ((255 : Int32) < x_a2_1)) :
    MetFree l mN15 (head1 (Jvm.Cond.code mN15 jdk_42_method_149_code 6 none :: ws) ({ frames := 2, cells := 1, slots := 2, locals := 35 } : Room)) (fun a U => a = #[(.ref a1), (.ref a2), (.int (0 : Int32)), (.int (2 : Int32)), .null] ∧ Z.Warmed39 U.vm ∧ U.heap = h0) (fun _ _ _ _ _ => True) (fun _ U o U' => ∃ v L, o = .returned v ∧ Q_rm48 Z a1 a2 ya_ yaq_ yc_ k_a2 x_a2_0 x_a2_1 h0 n0 v U'.heap L ∧ FrameEnd U o U' L ({ frames := 2, cells := 1, slots := 2, locals := 35 } : Room).cells ({ frames := 2, cells := 1, slots := 2, locals := 35 } : Room).slots) := by
  have hi : ∀ (i : Nat) {d : Jvm.Cond}, tables_1[i]? = some d → d.before a0 Z = true := fun i d h => hw d (List.mem_of_getElem? h)
  refine MetFree.of_bodySF (plainFor_of_name pn_48) hisR ?_
  intro p e s m args below meth c s₁ Bd hml0 hP hK
  obtain ⟨rfl, hZ, hh⟩ := hP
  have hx := Bd.exec
  have hby := Bd.bytes
  have hml : c.maxLocals = 6 := hml0
  have hown : s.vm.findClass "java/lang/String" = some m.cls := findClass_of_methodNamed Bd.named
  have hnm := (name_of_methodNamed Bd.named Bd.method).1
  have X0 : Stand p l e ({ frames := 2, cells := 1, slots := 2, locals := 35 } : Room) s m #[(.ref a1), (.ref a2), (.int (0 : Int32)), (.int (2 : Int32)), .null] below meth c s₁ [] 0 0 := Stand.of_body Bd
  have e0 : s₁.heap = h0 := by rw [← hh, Bd.state]; rfl
  have N0 := Fr.nil n0
  obtain ⟨T3, X3, e3, st3⟩ := initO X0 hx hZ hown (hi 211 rfl) (hi 21 rfl) (hi 22 rfl) e0 (g := (mkF m 1 #[vA a1, vA a2, vI (0 : Int32), vI (2 : Int32), .val .null, vU] [(.ref a1)])) rfl (by rw [hml]; rfl) rfl (hb hby d48_1) (by decide) (W := 0) (by show 2 * 0 + _ ≤ _; exact Nat.le_of_eq rfl) (by decide)
  obtain ⟨T4, X4, e4, st4⟩ := getS2 X3 hx hZ hown (host := "") (Or.inl (hi 140 rfl)) Via.refl e3 yf_ (g := (mkF m 27 #[vA a1, vA a2, vI (0 : Int32), vI (2 : Int32), .val .null, vU] [])) rfl (hb hby d48_27)
  obtain ⟨_, _, ⟨T5, L5, k5, n5⟩, -, X5, ⟨Lc5, hQ5, l5, y5, z5⟩, st5⟩ := Jvm.LawKit.callS X4 hx (y := mN31) hown (mvT hZ (hi 307 rfl)) (mvT hZ (hi 308 rfl)) (mvT hZ (hi 309 rfl)) (mvT hZ (hi 310 rfl)) (by decide) (backOf (W := 0) (rm49 l Z a0 hw [] a2 k_a2 x_a2_0 x_a2_1 h0 n0 Z0 V_a2 ypi_ yoz_) hZ (hi 310 rfl) (hi 309 rfl) (by decide) (by decide)) (g := (mkF m 36 #[vA a1, vA a2, vI (0 : Int32), vI (2 : Int32), .val .null, vU] [(.int (2 : Int32)), (.int (0 : Int32)), (.ref a2)])) rfl (by rw [hml]; rfl) (argsL := [(.ref a2), (.int (0 : Int32)), (.int (2 : Int32))]) (rest := []) (lenOf ylm_ rfl) rfl (by show 2 * 0 + _ ≤ _; exact Nat.le_of_eq rfl) (hb hby d48_36) (fun _ _ => ⟨rfl, e4, (by decide : 0 + 1 ≤ _), (by decide : 0 + 2 ≤ _)⟩)
  dsimp only [Pt.U, Pt.locs, Pt.cells, Pt.slots] at X5 l5 y5 z5 st5 hQ5
  subst l5 y5 z5
  obtain ⟨b2_5, ⟨k2_5, ⟨rfl, N5q, K5, i5_0, i5_1, i5_2⟩⟩⟩ := hQ5
  have N5 := Fr.app N0 N5q
  have sz_b2_5 : h0.size ≤ b2_5 := Nat.le_trans (Nat.le_refl h0.size) i5_0
  have g_b2_5 : n0 ≤ b2_5 := Nat.le_trans Z0 sz_b2_5
  obtain ⟨_, _, ⟨T6, L6, k6, n6⟩, -, X6, ⟨Lc6, hQ6, l6, y6, z6⟩, st6⟩ := Jvm.LawKit.callS X5 hx (y := mN30) hown (mvT hZ (hi 314 rfl)) (mvT hZ (hi 315 rfl)) (mvT hZ (hi 309 rfl)) (mvT hZ (hi 316 rfl)) (by decide) (backOf (W := 1) (rm51 l Z a0 hw [] b2_5 k2_5 ([(.int (nar .byte (x_a2_0.toInt8.toInt32))), (.int (nar .byte (x_a2_1.toInt8.toInt32)))] : List Value) T5.heap n0 (Nat.le_trans Z0 K5.1) i5_2) hZ (hi 316 rfl) (hi 309 rfl) (by decide) (by decide)) (g := (mkF m 45 #[vA a1, vA a2, vI (0 : Int32), vI (2 : Int32), .val .null, vA b2_5] [(.int (2 : Int32)), (.ref b2_5), (.ref a1)])) rfl (by rw [hml]; rfl) (argsL := [(.ref b2_5), (.int (2 : Int32))]) (rest := [(.ref a1)]) (lenOf yno_ rfl) rfl (by show 2 * 0 + _ ≤ _; exact Nat.le_of_eq rfl) (hb hby d48_45) (fun _ _ => ⟨rfl, rfl, (by decide : 1 + 0 ≤ _), (by decide : 2 + 0 ≤ _)⟩)
  dsimp only [Pt.U, Pt.locs, Pt.cells, Pt.slots] at X6 l6 y6 z6 st6 hQ6
  subst l6 y6 z6
  obtain ⟨rfl, N6q, e6⟩ := hQ6
  have N6 := Fr.app N5 N6q
  have f0 := (E_a1.keep K5)
  have f1 := (yac_.keep K5 own_n0)
  obtain ⟨T7, h7, X7, e7, W7, st7⟩ := putFN X6 hx hZ hown (hi 141 rfl) Via.refl e6 f1 f0 (Or.inr ⟨(hi 8 rfl), rfl, hnm⟩) (hi 5 rfl) (ty := .byte) (v' := (.int (0 : Int32))) (by decide) rfl rfl (g := (mkF m 48 #[vA a1, vA a2, vI (0 : Int32), vI (2 : Int32), .val .null, vA b2_5] [(.int (0 : Int32)), (.ref a1)])) rfl rfl (hb hby d48_48)
  have Fw7 := f1.same W7
  have N7 := Fr.snoc X7 N6 g_a1
  have f2 := (f0.wr W7)
  have f3 := ((yae_.keep K5 own_n0).other W7 (Or.inr (slot_ne (Or.inr (hi 7 rfl)) (Or.inr (hi 8 rfl)) (by decide) (t := (.array .byte)) (t' := .byte) (by decide) (by decide))))
  obtain ⟨T8, h8, X8, e8, W8, st8⟩ := putF X7 hx hZ hown (host := "") (Or.inl (hi 134 rfl)) Via.refl e7 f3 f2 (Or.inr ⟨(hi 7 rfl), rfl, hnm⟩) (hi 5 rfl) (ty := (.array .byte)) (by decide) rfl rfl (g := (mkF m 54 #[vA a1, vA a2, vI (0 : Int32), vI (2 : Int32), .val .null, vA b2_5] [(.ref b2_5), (.ref a1)])) rfl rfl (hb hby d48_54)
  have Fw8 := f3.same W8
  have N8 := Fr.snoc X8 N7 g_a1
  have f4 := (f2.wr W8)
  have f5 := (Fw7.other W8 (Or.inr (slot_ne (Or.inr (hi 8 rfl)) (Or.inr (hi 7 rfl)) (by decide) (t := .byte) (t' := (.array .byte)) (by decide) (by decide))))
  have f6 := ((i5_1.wr W7).wr W8)
  have f7 := ((i5_2.other W7 (Ne.symm (Nat.ne_of_lt (Nat.lt_of_lt_of_le E_a1.lt sz_b2_5)))).other W8 (Ne.symm (Nat.ne_of_lt (Nat.lt_of_lt_of_le E_a1.lt sz_b2_5))))
  obtain ⟨fs, hr, hrun, hended, hW, hsame⟩ := X8.leave (v := none) (fun _ => rfl)
  refine ⟨_, _, castTop (ef_48n4 m a1 a2 (0 : Int32) (2 : Int32)) ?_, hrun, hended, _, _, rfl, ?_, ⟨_, rfl⟩, hW, hsame.mono (by decide) (by decide)⟩
  · show Steps p.tables e below (s₁.setTop (mkF m 0 #[vA a1, vA a2, vI (0 : Int32), vI (2 : Int32), .val .null, vU] [])) _
    refine XS.aloadN X0.here hx rfl (hb hby d48_0) rfl rfl ?_
    refine st3 _ ?_
    refine XS.iloadN X3.here hx rfl (hb hby d48_4) rfl ?_
    refine XS.ifYes X3.here hx rfl (pc0 := 5) (pc' := 27) rfl (hb hby d48_5) rfl ((if0 _ _).trans (feq (by decide : ¬ ((2 : Int32) = (0 : Int32)))).2) (by decide) (by decide) ?_
    refine st4 _ ?_
    refine XS.ifNo X4.here hx rfl (hb hby d48_30) rfl ((if0 _ _).trans (feq (show ¬ (ya_ = (0 : Int32)) from hcs)).1) ?_
    refine XS.aloadN X4.here hx rfl (hb hby d48_33) rfl rfl ?_
    refine XS.iloadN X4.here hx rfl (hb hby d48_34) rfl ?_
    refine XS.iloadN X4.here hx rfl (hb hby d48_35) rfl ?_
    refine st5 _ ?_
    refine XS.astore X5.here hx rfl (hb hby d48_39) rfl rfl (l' := #[vA a1, vA a2, vI (0 : Int32), vI (2 : Int32), .val .null, vA b2_5]) rfl ?_
    refine XS.aloadN X5.here hx rfl (hb hby d48_41) rfl rfl ?_
    refine XS.aload X5.here hx rfl (hb hby d48_42) rfl rfl ?_
    refine XS.iloadN X5.here hx rfl (hb hby d48_44) rfl ?_
    refine st6 _ ?_
    refine st7 _ ?_
    refine XS.aloadN X7.here hx rfl (hb hby d48_51) rfl rfl ?_
    refine XS.aload X7.here hx rfl (hb hby d48_52) rfl rfl ?_
    refine st8 _ ?_
    show Steps p.tables e below (T8.setTop (mkF m 57 #[vA a1, vA a2, vI (0 : Int32), vI (2 : Int32), .val .null, vA b2_5] [])) _
    exact X8.returnOut hx Bd.returns (hb hby d48_57) hr
  · show Q_rm48 Z a1 a2 ya_ yaq_ yc_ k_a2 x_a2_0 x_a2_1 h0 n0 _ T8.heap _
    rw [e8]
    exact ⟨b2_5, ⟨k2_5, ⟨rfl, N8, ((((Keep.refl h0 [a1]).trans K5 (fun x q => nomatch q)).wr W7 (Or.inl (List.mem_of_getElem? (i := 0) rfl))).wr W8 (Or.inl (List.mem_of_getElem? (i := 0) rfl))), sz_b2_5, f4, f5, Fw8, f6, f7⟩⟩⟩
theorem ygg_ : parseMethodDescriptor "([CIILjava/lang/Void;)V" = some ⟨[(.array .char), .int, .int, (.object "java/lang/Void")], none⟩ := by decide +kernel
theorem d47_0 : decode jdk_42_method_3_code 0 = .ok (.aload_n 0, 1) := by decide +kernel
theorem d47_1 : decode jdk_42_method_3_code 1 = .ok (.aload_n 1, 1) := by decide +kernel
theorem d47_2 : decode jdk_42_method_3_code 2 = .ok (.iconst 0, 1) := by decide +kernel
theorem d47_3 : decode jdk_42_method_3_code 3 = .ok (.aload_n 1, 1) := by decide +kernel
theorem d47_4 : decode jdk_42_method_3_code 4 = .ok (.arraylength, 1) := by decide +kernel
theorem d47_5 : decode jdk_42_method_3_code 5 = .ok (.aconst_null, 1) := by decide +kernel
theorem d47_6 : decode jdk_42_method_3_code 6 = .ok (.invokespecial 27, 3) := by decide +kernel
theorem d47_9 : decode jdk_42_method_3_code 9 = .ok (.return_, 1) := by decide +kernel
theorem pn_47 : plainName "java/lang/String" = true := by first | (simp [plainName, overriddenIn]; done) | decide +kernel
theorem ef_47 (m : MethodId) (x0 : Addr) (x1 : Addr) : entryFrame m #[(.ref x0), (.ref x1)] 2 = mkF m 0 #[.val (.ref x0), .val (.ref x1)] [] := by first | (simp [entryFrame, mkF, argsToLocals, Value.category]; done) | rfl
def Q_rm47 (Z : State) (a1 : Addr) (a2 : Addr) (ya_ : Int32) (yaq_ : Int32) (yc_ : Value) (k_a2 : ClassId) (x_a2_0 : Int32) (x_a2_1 : Int32) (h0 : Heap) (n0 : Nat) (v : Option Value) (h : Heap) (L : List Loc) : Prop := ∃ b2_5_3 : Addr, ∃ k2_5_3 : ClassId, v = none ∧ Fr n0 L ∧ Keep h0 h [a1] ∧ h0.size ≤ b2_5_3 ∧ Exa Z h a1 "java/lang/String" ∧ Fld Z h a1 "java/lang/String" "coder" "B" (.int (0 : Int32)) ∧ Fld Z h a1 "java/lang/String" "value" "[B" (.ref b2_5_3) ∧ Exa Z h b2_5_3 "[B" ∧ Arv Z h b2_5_3 k2_5_3 .byte (2 : Int32) [(.int (nar .byte (x_a2_0.toInt8.toInt32))), (.int (nar .byte (x_a2_1.toInt8.toInt32)))] (.int (0 : Int32))
set_option maxRecDepth 65536 in
set_option maxHeartbeats 40000000 in
theorem rm47 (l : Launch) (Z : State) (a0 : Array Value) (hw : ∀ d ∈ tables_1, d.before a0 Z = true) (ws : List Jvm.Cond) (a1 : Addr) (a2 : Addr) (ya_ : Int32) (yaq_ : Int32) (yc_ : Value) (k_a2 : ClassId) (x_a2_0 : Int32) (x_a2_1 : Int32) (h0 : Heap) (n0 : Nat) (Z0 : n0 ≤ h0.size) (hcs : ¬ (ya_ = (0 : Int32))) (yf_ : Sta Z h0 "java/lang/String" "COMPACT_STRINGS" "Z" (.int ya_)) (yac_ : Fld Z h0 a1 "java/lang/String" "coder" "B" (.int yaq_)) (yae_ : Fld Z h0 a1 "java/lang/String" "value" "[B" yc_) (E_a1 : Exa Z h0 a1 "java/lang/String") (g_a1 : n0 ≤ a1) (V_a2 : Arv Z h0 a2 k_a2 .char (2 : Int32) [(.int x_a2_0), (.int x_a2_1)] (.int (0 : Int32))) (ynz_ : ¬ ((255 : Int32) < x_a2_0)) (ynp_ : ¬ ((255 : Int32) < x_a2_1)) :
    MetFree l mN14 (head1 (Jvm.Cond.code mN14 jdk_42_method_3_code 2 none :: ws) ({ frames := 3, cells := 1, slots := 2, locals := 52 } : Room)) (fun a U => a = #[(.ref a1), (.ref a2)] ∧ Z.Warmed39 U.vm ∧ U.heap = h0) (fun _ _ _ _ _ => True) (fun _ U o U' => ∃ v L, o = .returned v ∧ Q_rm47 Z a1 a2 ya_ yaq_ yc_ k_a2 x_a2_0 x_a2_1 h0 n0 v U'.heap L ∧ FrameEnd U o U' L ({ frames := 3, cells := 1, slots := 2, locals := 52 } : Room).cells ({ frames := 3, cells := 1, slots := 2, locals := 52 } : Room).slots) := by
  have hi : ∀ (i : Nat) {d : Jvm.Cond}, tables_1[i]? = some d → d.before a0 Z = true := fun i d h => hw d (List.mem_of_getElem? h)
  refine MetFree.of_bodySF (plainFor_of_name pn_47) hisR ?_
  intro p e s m args below meth c s₁ Bd hml0 hP hK
  obtain ⟨rfl, hZ, hh⟩ := hP
  have hx := Bd.exec
  have hby := Bd.bytes
  have hml : c.maxLocals = 2 := hml0
  have hown : s.vm.findClass "java/lang/String" = some m.cls := findClass_of_methodNamed Bd.named
  have hnm := (name_of_methodNamed Bd.named Bd.method).1
  have X0 : Stand p l e ({ frames := 3, cells := 1, slots := 2, locals := 52 } : Room) s m #[(.ref a1), (.ref a2)] below meth c s₁ [] 0 0 := Stand.of_body Bd
  have e0 : s₁.heap = h0 := by rw [← hh, Bd.state]; rfl
  have N0 := Fr.nil n0
  obtain ⟨cl_a2_0, Ar_a2_0, q_a2_0, Sz_a2_0, Ng_a2_0, Ha_a2_0, Gt_a2_0⟩ := id V_a2
  obtain ⟨_, _, ⟨T3, L3, k3, n3⟩, -, X3, ⟨Lc3, hQ3, l3, y3, z3⟩, st3⟩ := X0.specialBack hx (y := mN15) rfl hown (mvT hZ (hi 304 rfl)) (mvT hZ (hi 305 rfl)) (mvT hZ (hi 306 rfl)) (by decide) (backOf (W := 0) (rm48 l Z a0 hw [] a1 a2 ya_ yaq_ yc_ k_a2 x_a2_0 x_a2_1 h0 n0 Z0 hcs yf_ E_a1 yac_ g_a1 yae_ V_a2 ynz_ ynp_) hZ (hi 306 rfl) (hi 4 rfl) (by decide) (by decide)) (g := (mkF m 6 #[vA a1, vA a2] [.null, (.int (2 : Int32)), (.int (0 : Int32)), (.ref a2), (.ref a1)])) rfl (by rw [hml]; rfl) (Steps.refl _) (a := a1) (argsL := [(.ref a2), (.int (0 : Int32)), (.int (2 : Int32)), .null]) (rest := []) (lenOf ygg_ rfl) rfl (by show 2 * 0 + _ ≤ _; exact Nat.le_of_eq rfl) (hb hby d47_6) (fun _ _ => ⟨rfl, e0, (by decide : 0 + 1 ≤ _), (by decide : 0 + 2 ≤ _)⟩)
  dsimp only [Pt.U, Pt.locs, Pt.cells, Pt.slots] at X3 l3 y3 z3 st3 hQ3
  subst l3 y3 z3
  obtain ⟨b2_5_3, ⟨k2_5_3, ⟨rfl, N3q, K3, i3_0, i3_1, i3_2, i3_3, i3_4, i3_5⟩⟩⟩ := hQ3
  have N3 := Fr.app N0 N3q
  have yog_ : h0.size ≤ b2_5_3 := Nat.le_trans (Nat.le_refl h0.size) i3_0
  have yrn_ : n0 ≤ b2_5_3 := Nat.le_trans Z0 yog_
  obtain ⟨fs, hr, hrun, hended, hW, hsame⟩ := X3.leave (v := none) (fun _ => rfl)
  refine ⟨_, _, castTop (ef_47 m a1 a2) ?_, hrun, hended, _, _, rfl, ?_, ⟨_, rfl⟩, hW, hsame.mono (by decide) (by decide)⟩
  · show Steps p.tables e below (s₁.setTop (mkF m 0 #[vA a1, vA a2] [])) _
    refine XS.aloadN X0.here hx rfl (hb hby d47_0) rfl rfl ?_
    refine XS.aloadN X0.here hx rfl (hb hby d47_1) rfl rfl ?_
    refine XS.iconst X0.here hx rfl (hb hby d47_2) ?_
    refine XS.aloadN X0.here hx rfl (hb hby d47_3) rfl rfl ?_
    refine X0.arraylength hx (by rw [e0]; exact Ar_a2_0.1) (State.isArrayOf_alike hZ.alike Ar_a2_0.2.1) (g := (mkF m 4 #[vA a1, vA a2] [(.ref a2), (.int (0 : Int32)), (.ref a2), (.ref a1)])) rfl rfl (hb hby d47_4) _ ?_
    rw [len_of Sz_a2_0 Ng_a2_0]
    refine XS.aconstNull X0.here hx rfl (hb hby d47_5) ?_
    refine st3.trans ?_
    show Steps p.tables e below (T3.setTop (mkF m 9 #[vA a1, vA a2] [])) _
    exact X3.returnOut hx Bd.returns (hb hby d47_9) hr
  · show Q_rm47 Z a1 a2 ya_ yaq_ yc_ k_a2 x_a2_0 x_a2_1 h0 n0 _ T3.heap _
    exact ⟨b2_5_3, ⟨k2_5_3, ⟨rfl, N3, ((Keep.refl h0 [a1]).trans K3 (fun x q => (List.mem_cons.mp q).elim (fun r => by subst r; exact (Or.inl (List.mem_of_getElem? (i := 0) rfl))) (fun q => nomatch q))), yog_, i3_1, i3_2, i3_3, i3_4, i3_5⟩⟩⟩
theorem d54_0 : decode jdk_29_method_65_code 0 = .ok (.iload_n 0, 1) := by decide +kernel
theorem d54_1 : decode jdk_29_method_65_code 1 = .ok (.iload_n 1, 1) := by decide +kernel
theorem d54_2 : decode jdk_29_method_65_code 2 = .ok (.if_icmp .lt 7, 3) := by decide +kernel
theorem d54_9 : decode jdk_29_method_65_code 9 = .ok (.iload_n 1, 1) := by decide +kernel
theorem d54_10 : decode jdk_29_method_65_code 10 = .ok (.ireturn, 1) := by decide +kernel
theorem ef_54 (m : MethodId) (x0 : Int32) (x1 : Int32) : entryFrame m #[(.int x0), (.int x1)] 2 = mkF m 0 #[.val (.int x0), .val (.int x1)] [] := by first | (simp [entryFrame, mkF, argsToLocals, Value.category]; done) | rfl
def Q_rm54 (Z : State)  (h0 : Heap) (n0 : Nat) (v : Option Value) (h : Heap) (L : List Loc) : Prop := v = some (.int (18 : Int32)) ∧ Fr n0 L ∧ h = h0
set_option maxRecDepth 65536 in
set_option maxHeartbeats 40000000 in
theorem rm54 (l : Launch) (Z : State) (a0 : Array Value) (hw : ∀ d ∈ tables_1, d.before a0 Z = true) (ws : List Jvm.Cond)  (h0 : Heap) (n0 : Nat) (Z0 : n0 ≤ h0.size) :
    MetFree l mN9 (head1 (Jvm.Cond.code mN9 jdk_29_method_65_code 2 (some .int) :: ws) ({ frames := 0, cells := 0, slots := 0, locals := 0 } : Room)) (fun a U => a = #[(.int (1 : Int32)), (.int (18 : Int32))] ∧ Z.Warmed39 U.vm ∧ U.heap = h0) (fun _ _ _ _ _ => True) (fun _ U o U' => ∃ v L, o = .returned v ∧ Q_rm54 Z  h0 n0 v U'.heap L ∧ FrameEnd U o U' L ({ frames := 0, cells := 0, slots := 0, locals := 0 } : Room).cells ({ frames := 0, cells := 0, slots := 0, locals := 0 } : Room).slots) := by
  have hi : ∀ (i : Nat) {d : Jvm.Cond}, tables_1[i]? = some d → d.before a0 Z = true := fun i d h => hw d (List.mem_of_getElem? h)
  refine MetFree.of_bodySF (Jvm.Free.JP.mathPlain rfl (by decide +kernel)) hisR ?_
  intro p e s m args below meth c s₁ Bd hml0 hP hK
  obtain ⟨rfl, hZ, hh⟩ := hP
  have hx := Bd.exec
  have hby := Bd.bytes
  have hml : c.maxLocals = 2 := hml0
  have hown : s.vm.findClass "java/lang/Math" = some m.cls := findClass_of_methodNamed Bd.named
  have hnm := (name_of_methodNamed Bd.named Bd.method).1
  have X0 : Stand p l e ({ frames := 0, cells := 0, slots := 0, locals := 0 } : Room) s m #[(.int (1 : Int32)), (.int (18 : Int32))] below meth c s₁ [] 0 0 := Stand.of_body Bd
  have e0 : s₁.heap = h0 := by rw [← hh, Bd.state]; rfl
  have N0 := Fr.nil n0
  obtain ⟨fs, hr, hrun, hended, hW, hsame⟩ := X0.leave (v := some (.int (18 : Int32))) (fun h => by rw [Bd.returns] at h; cases h)
  refine ⟨_, _, castTop (ef_54 m (1 : Int32) (18 : Int32)) ?_, hrun, hended, _, _, rfl, ?_, ⟨_, rfl⟩, hW, hsame.mono (by decide) (by decide)⟩
  · show Steps p.tables e below (s₁.setTop (mkF m 0 #[vI (1 : Int32), vI (18 : Int32)] [])) _
    refine XS.iloadN X0.here hx rfl (hb hby d54_0) rfl ?_
    refine XS.iloadN X0.here hx rfl (hb hby d54_1) rfl ?_
    refine XS.icmpYes X0.here hx rfl (pc0 := 2) (pc' := 9) rfl (hb hby d54_2) rfl (tlt (by decide : (1 : Int32) < (18 : Int32))).1 (by decide) (by decide) ?_
    refine XS.iloadN X0.here hx rfl (hb hby d54_9) rfl ?_
    show Steps p.tables e below (s₁.setTop (mkF m 10 #[vI (1 : Int32), vI (18 : Int32)] [(.int (18 : Int32))])) _
    exact retI X0 hx Bd.returns (hb hby d54_10) hr
  · show Q_rm54 Z  h0 n0 _ s₁.heap _
    exact ⟨rfl, N0, e0⟩
theorem yjf_ : parseMethodDescriptor "(II)I" = some ⟨[.int, .int], some .int⟩ := by decide +kernel
theorem d53_0 : decode jdk_48_method_27_code 0 = .ok (.iload_n 0, 1) := by decide +kernel
theorem d53_1 : decode jdk_48_method_27_code 1 = .ok (.iload_n 1, 1) := by decide +kernel
theorem d53_2 : decode jdk_48_method_27_code 2 = .ok (.iload_n 2, 1) := by decide +kernel
theorem d53_3 : decode jdk_48_method_27_code 3 = .ok (.invokestatic 194, 3) := by decide +kernel
theorem d53_6 : decode jdk_48_method_27_code 6 = .ok (.iadd, 1) := by decide +kernel
theorem d53_7 : decode jdk_48_method_27_code 7 = .ok (.istore_n 3, 1) := by decide +kernel
theorem d53_8 : decode jdk_48_method_27_code 8 = .ok (.iconst 0, 1) := by decide +kernel
theorem d53_9 : decode jdk_48_method_27_code 9 = .ok (.iload_n 3, 1) := by decide +kernel
theorem d53_10 : decode jdk_48_method_27_code 10 = .ok (.if_icmp .ge 11, 3) := by decide +kernel
theorem d53_13 : decode jdk_48_method_27_code 13 = .ok (.iload_n 3, 1) := by decide +kernel
theorem d53_14 : decode jdk_48_method_27_code 14 = .ok (.ldc 200, 2) := by decide +kernel
theorem d53_16 : decode jdk_48_method_27_code 16 = .ok (.if_icmp .gt 5, 3) := by decide +kernel
theorem d53_19 : decode jdk_48_method_27_code 19 = .ok (.iload_n 3, 1) := by decide +kernel
theorem d53_20 : decode jdk_48_method_27_code 20 = .ok (.ireturn, 1) := by decide +kernel
theorem pn_53 : plainName "jdk/internal/util/ArraysSupport" = true := by first | (simp [plainName, overriddenIn]; done) | decide +kernel
theorem ef_53 (m : MethodId) (x0 : Int32) (x1 : Int32) (x2 : Int32) : entryFrame m #[(.int x0), (.int x1), (.int x2)] 4 = mkF m 0 #[.val (.int x0), .val (.int x1), .val (.int x2), .unset] [] := by first | (simp [entryFrame, mkF, argsToLocals, Value.category]; done) | rfl
def Q_rm53 (Z : State)  (h0 : Heap) (n0 : Nat) (v : Option Value) (h : Heap) (L : List Loc) : Prop := v = some (.int (34 : Int32)) ∧ Fr n0 L ∧ h = h0
set_option maxRecDepth 65536 in
set_option maxHeartbeats 40000000 in
theorem rm53 (l : Launch) (Z : State) (a0 : Array Value) (hw : ∀ d ∈ tables_1, d.before a0 Z = true) (ws : List Jvm.Cond)  (h0 : Heap) (n0 : Nat) (Z0 : n0 ≤ h0.size) :
    MetFree l mN46 (head1 (Jvm.Cond.code mN46 jdk_48_method_27_code 4 (some .int) :: ws) ({ frames := 1, cells := 0, slots := 0, locals := 14 } : Room)) (fun a U => a = #[(.int (16 : Int32)), (.int (1 : Int32)), (.int (18 : Int32))] ∧ Z.Warmed39 U.vm ∧ U.heap = h0) (fun _ _ _ _ _ => True) (fun _ U o U' => ∃ v L, o = .returned v ∧ Q_rm53 Z  h0 n0 v U'.heap L ∧ FrameEnd U o U' L ({ frames := 1, cells := 0, slots := 0, locals := 14 } : Room).cells ({ frames := 1, cells := 0, slots := 0, locals := 14 } : Room).slots) := by
  have hi : ∀ (i : Nat) {d : Jvm.Cond}, tables_1[i]? = some d → d.before a0 Z = true := fun i d h => hw d (List.mem_of_getElem? h)
  refine MetFree.of_bodySF (plainFor_of_name pn_53) hisR ?_
  intro p e s m args below meth c s₁ Bd hml0 hP hK
  obtain ⟨rfl, hZ, hh⟩ := hP
  have hx := Bd.exec
  have hby := Bd.bytes
  have hml : c.maxLocals = 4 := hml0
  have hown : s.vm.findClass "jdk/internal/util/ArraysSupport" = some m.cls := findClass_of_methodNamed Bd.named
  have hnm := (name_of_methodNamed Bd.named Bd.method).1
  have X0 : Stand p l e ({ frames := 1, cells := 0, slots := 0, locals := 14 } : Room) s m #[(.int (16 : Int32)), (.int (1 : Int32)), (.int (18 : Int32))] below meth c s₁ [] 0 0 := Stand.of_body Bd
  have e0 : s₁.heap = h0 := by rw [← hh, Bd.state]; rfl
  have N0 := Fr.nil n0
  obtain ⟨_, _, ⟨T1, L1, k1, n1⟩, -, X1, ⟨Lc1, hQ1, l1, y1, z1⟩, st1⟩ := Jvm.LawKit.callS X0 hx (y := mN9) hown (mvT hZ (hi 326 rfl)) (mvT hZ (hi 327 rfl)) (mvT hZ (hi 242 rfl)) (mvT hZ (hi 328 rfl)) (by decide) (backOf (W := 1) (rm54 l Z a0 hw []  h0 n0 Z0 ) hZ (hi 328 rfl) (hi 242 rfl) (by decide) (by decide)) (g := (mkF m 3 #[vI (16 : Int32), vI (1 : Int32), vI (18 : Int32), vU] [(.int (18 : Int32)), (.int (1 : Int32)), (.int (16 : Int32))])) rfl (by rw [hml]; rfl) (argsL := [(.int (1 : Int32)), (.int (18 : Int32))]) (rest := [(.int (16 : Int32))]) (lenOf yjf_ rfl) rfl (by show 2 * 0 + _ ≤ _; exact Nat.le_of_eq rfl) (hb hby d53_3) (fun _ _ => ⟨rfl, e0, (by decide : 0 + 0 ≤ _), (by decide : 0 + 0 ≤ _)⟩)
  dsimp only [Pt.U, Pt.locs, Pt.cells, Pt.slots] at X1 l1 y1 z1 st1 hQ1
  subst l1 y1 z1
  obtain ⟨rfl, N1q, e1⟩ := hQ1
  have N1 := Fr.app N0 N1q
  obtain ⟨fs, hr, hrun, hended, hW, hsame⟩ := X1.leave (v := some (.int (34 : Int32))) (fun h => by rw [Bd.returns] at h; cases h)
  refine ⟨_, _, castTop (ef_53 m (16 : Int32) (1 : Int32) (18 : Int32)) ?_, hrun, hended, _, _, rfl, ?_, ⟨_, rfl⟩, hW, hsame.mono (by decide) (by decide)⟩
  · show Steps p.tables e below (s₁.setTop (mkF m 0 #[vI (16 : Int32), vI (1 : Int32), vI (18 : Int32), vU] [])) _
    refine XS.iloadN X0.here hx rfl (hb hby d53_0) rfl ?_
    refine XS.iloadN X0.here hx rfl (hb hby d53_1) rfl ?_
    refine XS.iloadN X0.here hx rfl (hb hby d53_2) rfl ?_
    refine st1 _ ?_
    refine XS.iadd X1.here hx rfl (hb hby d53_6) rfl ?_
    refine XS.istoreN X1.here hx rfl (hb hby d53_7) rfl (l' := #[vI (16 : Int32), vI (1 : Int32), vI (18 : Int32), vI (34 : Int32)]) rfl ?_
    refine XS.iconst X1.here hx rfl (hb hby d53_8) ?_
    refine XS.iloadN X1.here hx rfl (hb hby d53_9) rfl ?_
    refine XS.icmpNo X1.here hx rfl (hb hby d53_10) rfl (tlt (by decide : (0 : Int32) < (34 : Int32))).2.1 ?_
    refine XS.iloadN X1.here hx rfl (hb hby d53_13) rfl ?_
    refine X1.ldcInt hx hown (mvT hZ (hi 329 rfl)) (g := (mkF m 14 #[vI (16 : Int32), vI (1 : Int32), vI (18 : Int32), vI (34 : Int32)] [(.int (34 : Int32))])) rfl (hb hby d53_14) _ ?_
    refine XS.icmpNo X1.here hx rfl (hb hby d53_16) rfl (flt (by decide : ¬ ((2147483639 : Int32) < (34 : Int32)))).2.2.1 ?_
    refine XS.iloadN X1.here hx rfl (hb hby d53_19) rfl ?_
    show Steps p.tables e below (T1.setTop (mkF m 20 #[vI (16 : Int32), vI (1 : Int32), vI (18 : Int32), vI (34 : Int32)] [(.int (34 : Int32))])) _
    exact retI X1 hx Bd.returns (hb hby d53_20) hr
  · show Q_rm53 Z  h0 n0 _ T1.heap _
    exact ⟨rfl, N1, e1⟩
theorem yon_ : parseMethodDescriptor "(III)I" = some ⟨[.int, .int, .int], some .int⟩ := by decide +kernel
theorem d52_0 : decode jdk_68_method_10_code 0 = .ok (.aload_n 0, 1) := by decide +kernel
theorem d52_1 : decode jdk_68_method_10_code 1 = .ok (.getfield 15, 3) := by decide +kernel
theorem d52_4 : decode jdk_68_method_10_code 4 = .ok (.arraylength, 1) := by decide +kernel
theorem d52_5 : decode jdk_68_method_10_code 5 = .ok (.istore_n 2, 1) := by decide +kernel
theorem d52_6 : decode jdk_68_method_10_code 6 = .ok (.iload_n 1, 1) := by decide +kernel
theorem d52_7 : decode jdk_68_method_10_code 7 = .ok (.aload_n 0, 1) := by decide +kernel
theorem d52_8 : decode jdk_68_method_10_code 8 = .ok (.getfield 22, 3) := by decide +kernel
theorem d52_11 : decode jdk_68_method_10_code 11 = .ok (.ishl, 1) := by decide +kernel
theorem d52_12 : decode jdk_68_method_10_code 12 = .ok (.istore_n 3, 1) := by decide +kernel
theorem d52_13 : decode jdk_68_method_10_code 13 = .ok (.iload_n 3, 1) := by decide +kernel
theorem d52_14 : decode jdk_68_method_10_code 14 = .ok (.iload_n 2, 1) := by decide +kernel
theorem d52_15 : decode jdk_68_method_10_code 15 = .ok (.isub, 1) := by decide +kernel
theorem d52_16 : decode jdk_68_method_10_code 16 = .ok (.istore 4, 2) := by decide +kernel
theorem d52_18 : decode jdk_68_method_10_code 18 = .ok (.iload_n 2, 1) := by decide +kernel
theorem d52_19 : decode jdk_68_method_10_code 19 = .ok (.iload 4, 2) := by decide +kernel
theorem d52_21 : decode jdk_68_method_10_code 21 = .ok (.iload_n 2, 1) := by decide +kernel
theorem d52_22 : decode jdk_68_method_10_code 22 = .ok (.iconst 2, 1) := by decide +kernel
theorem d52_23 : decode jdk_68_method_10_code 23 = .ok (.aload_n 0, 1) := by decide +kernel
theorem d52_24 : decode jdk_68_method_10_code 24 = .ok (.getfield 22, 3) := by decide +kernel
theorem d52_27 : decode jdk_68_method_10_code 27 = .ok (.ishl, 1) := by decide +kernel
theorem d52_28 : decode jdk_68_method_10_code 28 = .ok (.iadd, 1) := by decide +kernel
theorem d52_29 : decode jdk_68_method_10_code 29 = .ok (.invokestatic 114, 3) := by decide +kernel
theorem d52_32 : decode jdk_68_method_10_code 32 = .ok (.istore 5, 2) := by decide +kernel
theorem d52_34 : decode jdk_68_method_10_code 34 = .ok (.iload 5, 2) := by decide +kernel
theorem d52_36 : decode jdk_68_method_10_code 36 = .ok (.ldc 39, 2) := by decide +kernel
theorem d52_38 : decode jdk_68_method_10_code 38 = .ok (.if_icmp .ne 13, 3) := by decide +kernel
theorem d52_51 : decode jdk_68_method_10_code 51 = .ok (.iload 5, 2) := by decide +kernel
theorem d52_53 : decode jdk_68_method_10_code 53 = .ok (.aload_n 0, 1) := by decide +kernel
theorem d52_54 : decode jdk_68_method_10_code 54 = .ok (.getfield 22, 3) := by decide +kernel
theorem d52_57 : decode jdk_68_method_10_code 57 = .ok (.ishr, 1) := by decide +kernel
theorem d52_58 : decode jdk_68_method_10_code 58 = .ok (.ireturn, 1) := by decide +kernel
theorem pn_52 : plainName "java/lang/AbstractStringBuilder" = true := by first | (simp [plainName, overriddenIn]; done) | decide +kernel
theorem ef_52 (m : MethodId) (x0 : Addr) (x1 : Int32) : entryFrame m #[(.ref x0), (.int x1)] 6 = mkF m 0 #[.val (.ref x0), .val (.int x1), .unset, .unset, .unset, .unset] [] := by first | (simp [entryFrame, mkF, argsToLocals, Value.category]; done) | rfl
def Q_rm52 (Z : State) (a1 : Addr) (yc_ : Addr) (yn_ : ClassId) (ye_ : List Value) (h0 : Heap) (n0 : Nat) (v : Option Value) (h : Heap) (L : List Loc) : Prop := v = some (.int (34 : Int32)) ∧ Fr n0 L ∧ h = h0
set_option maxRecDepth 65536 in
set_option maxHeartbeats 40000000 in
theorem rm52 (l : Launch) (Z : State) (a0 : Array Value) (hw : ∀ d ∈ tables_1, d.before a0 Z = true) (ws : List Jvm.Cond) (a1 : Addr) (yc_ : Addr) (yn_ : ClassId) (ye_ : List Value) (h0 : Heap) (n0 : Nat) (Z0 : n0 ≤ h0.size) (yae_ : Fld Z h0 a1 "java/lang/AbstractStringBuilder" "value" "[B" (.ref yc_)) (yac_ : Fld Z h0 a1 "java/lang/AbstractStringBuilder" "coder" "B" (.int (0 : Int32))) (yam_ : Arv Z h0 yc_ yn_ .byte (16 : Int32) ye_ (.int (0 : Int32))) :
    MetFree l mN7 (head1 (Jvm.Cond.code mN7 jdk_68_method_10_code 6 (some .int) :: ws) ({ frames := 2, cells := 0, slots := 0, locals := 29 } : Room)) (fun a U => a = #[(.ref a1), (.int (17 : Int32))] ∧ Z.Warmed39 U.vm ∧ U.heap = h0) (fun _ _ _ _ _ => True) (fun _ U o U' => ∃ v L, o = .returned v ∧ Q_rm52 Z a1 yc_ yn_ ye_ h0 n0 v U'.heap L ∧ FrameEnd U o U' L ({ frames := 2, cells := 0, slots := 0, locals := 29 } : Room).cells ({ frames := 2, cells := 0, slots := 0, locals := 29 } : Room).slots) := by
  have hi : ∀ (i : Nat) {d : Jvm.Cond}, tables_1[i]? = some d → d.before a0 Z = true := fun i d h => hw d (List.mem_of_getElem? h)
  refine MetFree.of_bodySF (plainFor_of_name pn_52) hisR ?_
  intro p e s m args below meth c s₁ Bd hml0 hP hK
  obtain ⟨rfl, hZ, hh⟩ := hP
  have hx := Bd.exec
  have hby := Bd.bytes
  have hml : c.maxLocals = 6 := hml0
  have hown : s.vm.findClass "java/lang/AbstractStringBuilder" = some m.cls := findClass_of_methodNamed Bd.named
  have hnm := (name_of_methodNamed Bd.named Bd.method).1
  have X0 : Stand p l e ({ frames := 2, cells := 0, slots := 0, locals := 29 } : Room) s m #[(.ref a1), (.int (17 : Int32))] below meth c s₁ [] 0 0 := Stand.of_body Bd
  have e0 : s₁.heap = h0 := by rw [← hh, Bd.state]; rfl
  have N0 := Fr.nil n0
  obtain ⟨T2, X2, e2, st2⟩ := getF X0 hx hZ hown (host := "") (Or.inl (hi 63 rfl)) Via.refl e0 yae_ (g := (mkF m 1 #[vA a1, vI (17 : Int32), vU, vU, vU, vU] [(.ref a1)])) rfl rfl (hb hby d52_1)
  obtain ⟨ygj_, ybz_, ygx_, yde_, ydf_, ygk_, ygl_⟩ := id yam_
  obtain ⟨T3, X3, e3, st3⟩ := getF X2 hx hZ hown (host := "") (Or.inl (hi 65 rfl)) Via.refl e2 yac_ (g := (mkF m 8 #[vA a1, vI (17 : Int32), vI (16 : Int32), vU, vU, vU] [(.ref a1), (.int (17 : Int32))])) rfl rfl (hb hby d52_8)
  obtain ⟨T4, X4, e4, st4⟩ := getF X3 hx hZ hown (host := "") (Or.inl (hi 65 rfl)) Via.refl e3 yac_ (g := (mkF m 24 #[vA a1, vI (17 : Int32), vI (16 : Int32), vI (17 : Int32), vI (1 : Int32), vU] [(.ref a1), (.int (2 : Int32)), (.int (16 : Int32)), (.int (1 : Int32)), (.int (16 : Int32))])) rfl rfl (hb hby d52_24)
  obtain ⟨_, _, ⟨T5, L5, k5, n5⟩, -, X5, ⟨Lc5, hQ5, l5, y5, z5⟩, st5⟩ := Jvm.LawKit.callS X4 hx (y := mN46) hown (mvT hZ (hi 322 rfl)) (mvT hZ (hi 323 rfl)) (mvT hZ (hi 324 rfl)) (mvT hZ (hi 325 rfl)) (by decide) (backOf (W := 0) (rm53 l Z a0 hw []  h0 n0 Z0 ) hZ (hi 325 rfl) (hi 324 rfl) (by decide) (by decide)) (g := (mkF m 29 #[vA a1, vI (17 : Int32), vI (16 : Int32), vI (17 : Int32), vI (1 : Int32), vU] [(.int (18 : Int32)), (.int (1 : Int32)), (.int (16 : Int32))])) rfl (by rw [hml]; rfl) (argsL := [(.int (16 : Int32)), (.int (1 : Int32)), (.int (18 : Int32))]) (rest := []) (lenOf yon_ rfl) rfl (by show 2 * 0 + _ ≤ _; exact Nat.le_of_eq rfl) (hb hby d52_29) (fun _ _ => ⟨rfl, e4, (by decide : 0 + 0 ≤ _), (by decide : 0 + 0 ≤ _)⟩)
  dsimp only [Pt.U, Pt.locs, Pt.cells, Pt.slots] at X5 l5 y5 z5 st5 hQ5
  subst l5 y5 z5
  obtain ⟨rfl, N5q, e5⟩ := hQ5
  have N5 := Fr.app N0 N5q
  obtain ⟨T6, X6, e6, st6⟩ := getF X5 hx hZ hown (host := "") (Or.inl (hi 65 rfl)) Via.refl e5 yac_ (g := (mkF m 54 #[vA a1, vI (17 : Int32), vI (16 : Int32), vI (17 : Int32), vI (1 : Int32), vI (34 : Int32)] [(.ref a1), (.int (34 : Int32))])) rfl rfl (hb hby d52_54)
  obtain ⟨fs, hr, hrun, hended, hW, hsame⟩ := X6.leave (v := some (.int (34 : Int32))) (fun h => by rw [Bd.returns] at h; cases h)
  refine ⟨_, _, castTop (ef_52 m a1 (17 : Int32)) ?_, hrun, hended, _, _, rfl, ?_, ⟨_, rfl⟩, hW, hsame.mono (by decide) (by decide)⟩
  · show Steps p.tables e below (s₁.setTop (mkF m 0 #[vA a1, vI (17 : Int32), vU, vU, vU, vU] [])) _
    refine XS.aloadN X0.here hx rfl (hb hby d52_0) rfl rfl ?_
    refine st2 _ ?_
    refine X2.arraylength hx (by rw [e2]; exact ybz_.1) (State.isArrayOf_alike hZ.alike ybz_.2.1) (g := (mkF m 4 #[vA a1, vI (17 : Int32), vU, vU, vU, vU] [(.ref yc_)])) rfl rfl (hb hby d52_4) _ ?_
    rw [len_of yde_ ydf_]
    refine XS.istoreN X2.here hx rfl (hb hby d52_5) rfl (l' := #[vA a1, vI (17 : Int32), vI (16 : Int32), vU, vU, vU]) rfl ?_
    refine XS.iloadN X2.here hx rfl (hb hby d52_6) rfl ?_
    refine XS.aloadN X2.here hx rfl (hb hby d52_7) rfl rfl ?_
    refine st3 _ ?_
    refine XS.ishl X3.here hx rfl (hb hby d52_11) rfl ?_
    refine XS.istoreN X3.here hx rfl (hb hby d52_12) rfl (l' := #[vA a1, vI (17 : Int32), vI (16 : Int32), vI (17 : Int32), vU, vU]) rfl ?_
    refine XS.iloadN X3.here hx rfl (hb hby d52_13) rfl ?_
    refine XS.iloadN X3.here hx rfl (hb hby d52_14) rfl ?_
    refine XS.isub X3.here hx rfl (hb hby d52_15) rfl ?_
    refine XS.istore X3.here hx rfl (hb hby d52_16) rfl (l' := #[vA a1, vI (17 : Int32), vI (16 : Int32), vI (17 : Int32), vI (1 : Int32), vU]) rfl ?_
    refine XS.iloadN X3.here hx rfl (hb hby d52_18) rfl ?_
    refine XS.iload X3.here hx rfl (hb hby d52_19) rfl ?_
    refine XS.iloadN X3.here hx rfl (hb hby d52_21) rfl ?_
    refine XS.iconst X3.here hx rfl (hb hby d52_22) ?_
    refine XS.aloadN X3.here hx rfl (hb hby d52_23) rfl rfl ?_
    refine st4 _ ?_
    refine XS.ishl X4.here hx rfl (hb hby d52_27) rfl ?_
    refine XS.iadd X4.here hx rfl (hb hby d52_28) rfl ?_
    refine st5 _ ?_
    refine XS.istore X5.here hx rfl (hb hby d52_32) rfl (l' := #[vA a1, vI (17 : Int32), vI (16 : Int32), vI (17 : Int32), vI (1 : Int32), vI (34 : Int32)]) rfl ?_
    refine XS.iload X5.here hx rfl (hb hby d52_34) rfl ?_
    refine X5.ldcInt hx hown (mvT hZ (hi 330 rfl)) (g := (mkF m 36 #[vA a1, vI (17 : Int32), vI (16 : Int32), vI (17 : Int32), vI (1 : Int32), vI (34 : Int32)] [(.int (34 : Int32))])) rfl (hb hby d52_36) _ ?_
    refine XS.icmpYes X5.here hx rfl (pc0 := 38) (pc' := 51) rfl (hb hby d52_38) rfl (feq (by decide : ¬ ((34 : Int32) = (2147483647 : Int32)))).2 (by decide) (by decide) ?_
    refine XS.iload X5.here hx rfl (hb hby d52_51) rfl ?_
    refine XS.aloadN X5.here hx rfl (hb hby d52_53) rfl rfl ?_
    refine st6 _ ?_
    refine XS.ishr X6.here hx rfl (hb hby d52_57) rfl ?_
    show Steps p.tables e below (T6.setTop (mkF m 58 #[vA a1, vI (17 : Int32), vI (16 : Int32), vI (17 : Int32), vI (1 : Int32), vI (34 : Int32)] [(.int (34 : Int32))])) _
    exact retI X6 hx Bd.returns (hb hby d52_58) hr
  · show Q_rm52 Z a1 yc_ yn_ ye_ h0 n0 _ T6.heap _
    exact ⟨rfl, N5, e6⟩
theorem d35_0 : decode jdk_29_method_69_code 0 = .ok (.iload_n 0, 1) := by decide +kernel
theorem d35_1 : decode jdk_29_method_69_code 1 = .ok (.iload_n 1, 1) := by decide +kernel
theorem d35_2 : decode jdk_29_method_69_code 2 = .ok (.if_icmp .gt 7, 3) := by decide +kernel
theorem d35_5 : decode jdk_29_method_69_code 5 = .ok (.iload_n 0, 1) := by decide +kernel
theorem d35_6 : decode jdk_29_method_69_code 6 = .ok (.goto 4, 3) := by decide +kernel
theorem d35_10 : decode jdk_29_method_69_code 10 = .ok (.ireturn, 1) := by decide +kernel
theorem ef_35 (m : MethodId) (x0 : Int32) (x1 : Int32) : entryFrame m #[(.int x0), (.int x1)] 2 = mkF m 0 #[.val (.int x0), .val (.int x1)] [] := by first | (simp [entryFrame, mkF, argsToLocals, Value.category]; done) | rfl
def Q_rm35g (Z : State)  (h0 : Heap) (n0 : Nat) (v : Option Value) (h : Heap) (L : List Loc) : Prop := v = some (.int (16 : Int32)) ∧ Fr n0 L ∧ h = h0
set_option maxRecDepth 65536 in
set_option maxHeartbeats 40000000 in
theorem rm35g (l : Launch) (Z : State) (a0 : Array Value) (hw : ∀ d ∈ tables_1, d.before a0 Z = true) (ws : List Jvm.Cond)  (h0 : Heap) (n0 : Nat) (Z0 : n0 ≤ h0.size) :
    MetFree l mN10 (head1 (Jvm.Cond.code mN10 jdk_29_method_69_code 2 (some .int) :: ws) ({ frames := 0, cells := 0, slots := 0, locals := 0 } : Room)) (fun a U => a = #[(.int (16 : Int32)), (.int (34 : Int32))] ∧ Z.Warmed39 U.vm ∧ U.heap = h0) (fun _ _ _ _ _ => True) (fun _ U o U' => ∃ v L, o = .returned v ∧ Q_rm35g Z  h0 n0 v U'.heap L ∧ FrameEnd U o U' L ({ frames := 0, cells := 0, slots := 0, locals := 0 } : Room).cells ({ frames := 0, cells := 0, slots := 0, locals := 0 } : Room).slots) := by
  have hi : ∀ (i : Nat) {d : Jvm.Cond}, tables_1[i]? = some d → d.before a0 Z = true := fun i d h => hw d (List.mem_of_getElem? h)
  refine MetFree.of_bodySF (Jvm.Free.JP.mathPlain rfl (by decide +kernel)) hisR ?_
  intro p e s m args below meth c s₁ Bd hml0 hP hK
  obtain ⟨rfl, hZ, hh⟩ := hP
  have hx := Bd.exec
  have hby := Bd.bytes
  have hml : c.maxLocals = 2 := hml0
  have hown : s.vm.findClass "java/lang/Math" = some m.cls := findClass_of_methodNamed Bd.named
  have hnm := (name_of_methodNamed Bd.named Bd.method).1
  have X0 : Stand p l e ({ frames := 0, cells := 0, slots := 0, locals := 0 } : Room) s m #[(.int (16 : Int32)), (.int (34 : Int32))] below meth c s₁ [] 0 0 := Stand.of_body Bd
  have e0 : s₁.heap = h0 := by rw [← hh, Bd.state]; rfl
  have N0 := Fr.nil n0
  obtain ⟨fs, hr, hrun, hended, hW, hsame⟩ := X0.leave (v := some (.int (16 : Int32))) (fun h => by rw [Bd.returns] at h; cases h)
  refine ⟨_, _, castTop (ef_35 m (16 : Int32) (34 : Int32)) ?_, hrun, hended, _, _, rfl, ?_, ⟨_, rfl⟩, hW, hsame.mono (by decide) (by decide)⟩
  · show Steps p.tables e below (s₁.setTop (mkF m 0 #[vI (16 : Int32), vI (34 : Int32)] [])) _
    refine XS.iloadN X0.here hx rfl (hb hby d35_0) rfl ?_
    refine XS.iloadN X0.here hx rfl (hb hby d35_1) rfl ?_
    refine XS.icmpNo X0.here hx rfl (hb hby d35_2) rfl (flt (by decide : ¬ ((34 : Int32) < (16 : Int32)))).2.2.1 ?_
    refine XS.iloadN X0.here hx rfl (hb hby d35_5) rfl ?_
    refine XS.goto X0.here hx rfl (pc0 := 6) (pc' := 10) rfl (hb hby d35_6) (by decide) (by decide) ?_
    show Steps p.tables e below (s₁.setTop (mkF m 10 #[vI (16 : Int32), vI (34 : Int32)] [(.int (16 : Int32))])) _
    exact retI X0 hx Bd.returns (hb hby d35_10) hr
  · show Q_rm35g Z  h0 n0 _ s₁.heap _
    exact ⟨rfl, N0, e0⟩
theorem d55_0 : decode jdk_65_method_121_code 0 = .ok (.iload_n 1, 1) := by decide +kernel
theorem d55_1 : decode jdk_65_method_121_code 1 = .ok (.aload_n 0, 1) := by decide +kernel
theorem d55_2 : decode jdk_65_method_121_code 2 = .ok (.arraylength, 1) := by decide +kernel
theorem d55_3 : decode jdk_65_method_121_code 3 = .ok (.if_icmp .ne 11, 3) := by decide +kernel
theorem d55_14 : decode jdk_65_method_121_code 14 = .ok (.iload_n 1, 1) := by decide +kernel
theorem d55_15 : decode jdk_65_method_121_code 15 = .ok (.newarray .byte, 2) := by decide +kernel
theorem d55_17 : decode jdk_65_method_121_code 17 = .ok (.astore_n 2, 1) := by decide +kernel
theorem d55_18 : decode jdk_65_method_121_code 18 = .ok (.aload_n 0, 1) := by decide +kernel
theorem d55_19 : decode jdk_65_method_121_code 19 = .ok (.iconst 0, 1) := by decide +kernel
theorem d55_20 : decode jdk_65_method_121_code 20 = .ok (.aload_n 2, 1) := by decide +kernel
theorem d55_21 : decode jdk_65_method_121_code 21 = .ok (.iconst 0, 1) := by decide +kernel
theorem d55_22 : decode jdk_65_method_121_code 22 = .ok (.aload_n 0, 1) := by decide +kernel
theorem d55_23 : decode jdk_65_method_121_code 23 = .ok (.arraylength, 1) := by decide +kernel
theorem d55_24 : decode jdk_65_method_121_code 24 = .ok (.iload_n 1, 1) := by decide +kernel
theorem d55_25 : decode jdk_65_method_121_code 25 = .ok (.invokestatic 304, 3) := by decide +kernel
theorem d55_28 : decode jdk_65_method_121_code 28 = .ok (.invokestatic 150, 3) := by decide +kernel
theorem d55_31 : decode jdk_65_method_121_code 31 = .ok (.aload_n 2, 1) := by decide +kernel
theorem d55_32 : decode jdk_65_method_121_code 32 = .ok (.areturn, 1) := by decide +kernel
theorem pn_55 : plainName "java/util/Arrays" = true := by first | (simp [plainName, overriddenIn]; done) | decide +kernel
theorem ef_55 (m : MethodId) (x0 : Addr) (x1 : Int32) : entryFrame m #[(.ref x0), (.int x1)] 3 = mkF m 0 #[.val (.ref x0), .val (.int x1), .unset] [] := by first | (simp [entryFrame, mkF, argsToLocals, Value.category]; done) | rfl
def Q_rm55 (Z : State) (a1 : Addr) (k_a1 : ClassId) (vs_a1 : List Value) (h0 : Heap) (n0 : Nat) (v : Option Value) (h : Heap) (L : List Loc) : Prop := ∃ b2 : Addr, ∃ k2 : ClassId, v = some (.ref b2) ∧ Fr n0 L ∧ Keep h0 h [] ∧ h0.size ≤ b2 ∧ Exa Z h b2 "[B" ∧ Arv Z h b2 k2 .byte (34 : Int32) (own_cp vs_a1 (List.replicate 34 (Value.int (0 : Int32))) (.int (0 : Int32)) (0 : Int32) (0 : Int32) (16 : Int32)) (.int (0 : Int32))
set_option maxRecDepth 65536 in
set_option maxHeartbeats 40000000 in
theorem rm55 (l : Launch) (Z : State) (a0 : Array Value) (hw : ∀ d ∈ tables_1, d.before a0 Z = true) (ws : List Jvm.Cond) (a1 : Addr) (k_a1 : ClassId) (vs_a1 : List Value) (h0 : Heap) (n0 : Nat) (Z0 : n0 ≤ h0.size) (V_a1 : Arv Z h0 a1 k_a1 .byte (16 : Int32) vs_a1 (.int (0 : Int32))) :
    MetFree l mN40 (head1 (Jvm.Cond.code mN40 jdk_65_method_121_code 3 (some (.array .byte)) :: ws) ({ frames := 1, cells := 1, slots := 34, locals := 18 } : Room)) (fun a U => a = #[(.ref a1), (.int (34 : Int32))] ∧ Z.Warmed39 U.vm ∧ U.heap = h0) (fun _ _ _ _ _ => True) (fun _ U o U' => ∃ v L, o = .returned v ∧ Q_rm55 Z a1 k_a1 vs_a1 h0 n0 v U'.heap L ∧ FrameEnd U o U' L ({ frames := 1, cells := 1, slots := 34, locals := 18 } : Room).cells ({ frames := 1, cells := 1, slots := 34, locals := 18 } : Room).slots) := by
  have hi : ∀ (i : Nat) {d : Jvm.Cond}, tables_1[i]? = some d → d.before a0 Z = true := fun i d h => hw d (List.mem_of_getElem? h)
  refine MetFree.of_bodySF (plainFor_of_name pn_55) hisR ?_
  intro p e s m args below meth c s₁ Bd hml0 hP hK
  obtain ⟨rfl, hZ, hh⟩ := hP
  have hx := Bd.exec
  have hby := Bd.bytes
  have hml : c.maxLocals = 3 := hml0
  have hown : s.vm.findClass "java/util/Arrays" = some m.cls := findClass_of_methodNamed Bd.named
  have hnm := (name_of_methodNamed Bd.named Bd.method).1
  have X0 : Stand p l e ({ frames := 1, cells := 1, slots := 34, locals := 18 } : Room) s m #[(.ref a1), (.int (34 : Int32))] below meth c s₁ [] 0 0 := Stand.of_body Bd
  have e0 : s₁.heap = h0 := by rw [← hh, Bd.state]; rfl
  have N0 := Fr.nil n0
  obtain ⟨cl_a1_0, Ar_a1_0, q_a1_0, Sz_a1_0, Ng_a1_0, Ha_a1_0, Gt_a1_0⟩ := id V_a1
  obtain ⟨T2, h2, k2, X2, e2, E2, A2, iE2, st2⟩ := newPE X0 hx hZ (hi 6 rfl) e0 (g := (mkF m 15 #[vA a1, vI (34 : Int32), vU] [(.int (34 : Int32))])) rfl (hb hby d55_15) rfl (by decide) (cap := 34) (by decide) (by decide) (by decide) (by decide) (ad := "[B") rfl
  obtain ⟨b2, g2⟩ : ∃ z, z = h0.size := ⟨_, rfl⟩
  rw [← g2] at A2 iE2 st2
  have g_b2 : n0 ≤ b2 := Nat.le_trans Z0 (Nat.le_of_eq g2.symm)
  have sz_b2 : h0.size ≤ b2 := Nat.le_trans (Nat.le_refl h0.size) (Nat.le_of_eq g2.symm)
  have V_b2 : Arv Z h2 b2 k2 .byte (34 : Int32) (List.replicate 34 (Value.int (0 : Int32))) (.int (0 : Int32)) := (Arv.new A2 (by decide)).pad (pad_rep [] (.int (0 : Int32)) 34)
  have f1 := (V_a1.ext E2)
  obtain ⟨cl_a1_2, Ar_a1_2, q_a1_2, Sz_a1_2, Ng_a1_2, Ha_a1_2, Gt_a1_2⟩ := id f1
  obtain ⟨_, _, ⟨T3, L3, k3, n3⟩, -, X3, ⟨Lc3, hQ3, l3, y3, z3⟩, st3⟩ := Jvm.LawKit.callS X2 hx (y := mN10) hown (mvT hZ (hi 240 rfl)) (mvT hZ (hi 241 rfl)) (mvT hZ (hi 242 rfl)) (mvT hZ (hi 243 rfl)) (by decide) (backOf (W := 4) (rm35g l Z a0 hw []  h2 n0 (Nat.le_trans Z0 E2.1) ) hZ (hi 243 rfl) (hi 242 rfl) (by decide) (by decide)) (g := (mkF m 25 #[vA a1, vI (34 : Int32), vA b2] [(.int (34 : Int32)), (.int (16 : Int32)), (.int (0 : Int32)), (.ref b2), (.int (0 : Int32)), (.ref a1)])) rfl (by rw [hml]; rfl) (argsL := [(.int (16 : Int32)), (.int (34 : Int32))]) (rest := [(.int (0 : Int32)), (.ref b2), (.int (0 : Int32)), (.ref a1)]) (lenOf yjf_ rfl) rfl (by show 2 * 0 + _ ≤ _; exact Nat.le_of_eq rfl) (hb hby d55_25) (fun _ _ => ⟨rfl, e2, (by decide : 1 + 0 ≤ _), (by decide : 34 + 0 ≤ _)⟩)
  dsimp only [Pt.U, Pt.locs, Pt.cells, Pt.slots] at X3 l3 y3 z3 st3 hQ3
  subst l3 y3 z3
  obtain ⟨rfl, N3q, e3⟩ := hQ3
  have N3 := Fr.app N0 N3q
  obtain ⟨T4, h4, L4, X4, e4, N4, K4, V4, st4⟩ := cpA X3 hx hZ hown (hi 244 rfl) (hi 168 rfl) (hi 166 rfl) (hi 167 rfl) e3 f1 V_b2 (Or.inl ⟨rfl, rfl⟩) (sp := (0 : Int32)) (dp := (0 : Int32)) (nn := (16 : Int32)) (by decide) (by decide) (by decide) (by decide) (by decide) rfl (Nat.le_of_ble_eq_true rfl) N3 g_b2 (g := (mkF m 28 #[vA a1, vI (34 : Int32), vA b2] [(.int (16 : Int32)), (.int (0 : Int32)), (.ref b2), (.int (0 : Int32)), (.ref a1)])) rfl (by rw [hml]; rfl) (rest := []) rfl (hb hby d55_28) (by decide) (W := 0) (by show 2 * 0 + _ ≤ _; exact Nat.le_of_eq rfl) (by decide)
  have U4 : Arv Z h4 b2 k2 .byte (34 : Int32) (own_cp vs_a1 (List.replicate 34 (Value.int (0 : Int32))) (.int (0 : Int32)) (0 : Int32) (0 : Int32) (16 : Int32)) (.int (0 : Int32)) := V4
  have f3 := (iE2.keep K4)
  obtain ⟨fs, hr, hrun, hended, hW, hsame⟩ := X4.leave (v := some (.ref b2)) (fun h => by rw [Bd.returns] at h; cases h)
  refine ⟨_, _, castTop (ef_55 m a1 (34 : Int32)) ?_, hrun, hended, _, _, rfl, ?_, ⟨_, rfl⟩, hW, hsame.mono (by decide) (by decide)⟩
  · show Steps p.tables e below (s₁.setTop (mkF m 0 #[vA a1, vI (34 : Int32), vU] [])) _
    refine XS.iloadN X0.here hx rfl (hb hby d55_0) rfl ?_
    refine XS.aloadN X0.here hx rfl (hb hby d55_1) rfl rfl ?_
    refine X0.arraylength hx (by rw [e0]; exact Ar_a1_0.1) (State.isArrayOf_alike hZ.alike Ar_a1_0.2.1) (g := (mkF m 2 #[vA a1, vI (34 : Int32), vU] [(.ref a1), (.int (34 : Int32))])) rfl rfl (hb hby d55_2) _ ?_
    rw [len_of Sz_a1_0 Ng_a1_0]
    refine XS.icmpYes X0.here hx rfl (pc0 := 3) (pc' := 14) rfl (hb hby d55_3) rfl (feq (by decide : ¬ ((34 : Int32) = (16 : Int32)))).2 (by decide) (by decide) ?_
    refine XS.iloadN X0.here hx rfl (hb hby d55_14) rfl ?_
    refine st2 _ ?_
    refine XS.astoreN X2.here hx rfl (hb hby d55_17) rfl rfl (l' := #[vA a1, vI (34 : Int32), vA b2]) rfl ?_
    refine XS.aloadN X2.here hx rfl (hb hby d55_18) rfl rfl ?_
    refine XS.iconst X2.here hx rfl (hb hby d55_19) ?_
    refine XS.aloadN X2.here hx rfl (hb hby d55_20) rfl rfl ?_
    refine XS.iconst X2.here hx rfl (hb hby d55_21) ?_
    refine XS.aloadN X2.here hx rfl (hb hby d55_22) rfl rfl ?_
    refine X2.arraylength hx (by rw [e2]; exact Ar_a1_2.1) (State.isArrayOf_alike hZ.alike Ar_a1_2.2.1) (g := (mkF m 23 #[vA a1, vI (34 : Int32), vA b2] [(.ref a1), (.int (0 : Int32)), (.ref b2), (.int (0 : Int32)), (.ref a1)])) rfl rfl (hb hby d55_23) _ ?_
    rw [len_of Sz_a1_2 Ng_a1_2]
    refine XS.iloadN X2.here hx rfl (hb hby d55_24) rfl ?_
    refine st3 _ ?_
    refine st4 _ ?_
    refine XS.aloadN X4.here hx rfl (hb hby d55_31) rfl rfl ?_
    show Steps p.tables e below (T4.setTop (mkF m 32 #[vA a1, vI (34 : Int32), vA b2] [(.ref b2)])) _
    jvm_step X4.here [X4.here.top, hx, (hb hby d55_32), X4.method', Bd.returns, Value.isRef, FieldType.isReference]
    first | (intro acts; rw [hr _ acts rfl rfl rfl]) | rw [hr _ _ rfl rfl rfl]
    exact Steps.refl _
  · show Q_rm55 Z a1 k_a1 vs_a1 h0 n0 _ T4.heap _
    rw [e4]
    exact ⟨b2, ⟨k2, ⟨rfl, N4, (((Keep.refl h0 []).ext E2).trans K4 (fun x q => (List.mem_cons.mp q).elim (fun r => by subst r; exact (Or.inr sz_b2)) (fun q => nomatch q))), sz_b2, f3, U4⟩⟩⟩
theorem ypj_ : parseMethodDescriptor "(I)I" = some ⟨[.int], some .int⟩ := by decide +kernel
theorem ylu_ : parseMethodDescriptor "([BI)[B" = some ⟨[(.array .byte), .int], some (.array .byte)⟩ := by decide +kernel
theorem d17_17 : decode jdk_68_method_9_code 17 = .ok (.aload_n 0, 1) := by decide +kernel
theorem d17_18 : decode jdk_68_method_9_code 18 = .ok (.aload_n 0, 1) := by decide +kernel
theorem d17_19 : decode jdk_68_method_9_code 19 = .ok (.getfield 15, 3) := by decide +kernel
theorem d17_22 : decode jdk_68_method_9_code 22 = .ok (.aload_n 0, 1) := by decide +kernel
theorem d17_23 : decode jdk_68_method_9_code 23 = .ok (.iload_n 1, 1) := by decide +kernel
theorem d17_24 : decode jdk_68_method_9_code 24 = .ok (.invokevirtual 104, 3) := by decide +kernel
theorem d17_27 : decode jdk_68_method_9_code 27 = .ok (.aload_n 0, 1) := by decide +kernel
theorem d17_28 : decode jdk_68_method_9_code 28 = .ok (.getfield 22, 3) := by decide +kernel
theorem d17_31 : decode jdk_68_method_9_code 31 = .ok (.ishl, 1) := by decide +kernel
theorem d17_32 : decode jdk_68_method_9_code 32 = .ok (.invokestatic 108, 3) := by decide +kernel
theorem d17_35 : decode jdk_68_method_9_code 35 = .ok (.putfield 15, 3) := by decide +kernel
def yot_ (Z : State) (a1 : Addr) (yc_ : Addr) (yn_ : ClassId) (ye_ : List Value) (h0 : Heap) (n0 : Nat) (v : Option Value) (h : Heap) (L : List Loc) : Prop := ∃ b2_7 : Addr, ∃ k2_7 : ClassId, v = none ∧ Fr n0 L ∧ Keep h0 h [a1] ∧ h0.size ≤ b2_7 ∧ Exa Z h a1 "java/lang/StringBuilder" ∧ Fld Z h a1 "java/lang/AbstractStringBuilder" "coder" "B" (.int (0 : Int32)) ∧ Fld Z h a1 "java/lang/AbstractStringBuilder" "count" "I" (.int (2 : Int32)) ∧ Fld Z h a1 "java/lang/AbstractStringBuilder" "value" "[B" (.ref b2_7) ∧ Exa Z h b2_7 "[B" ∧ Arv Z h b2_7 k2_7 .byte (34 : Int32) (own_cp ye_ (List.replicate 34 (Value.int (0 : Int32))) (.int (0 : Int32)) (0 : Int32) (0 : Int32) (16 : Int32)) (.int (0 : Int32))
set_option maxRecDepth 65536 in
set_option maxHeartbeats 40000000 in
theorem rm17_g (l : Launch) (Z : State) (a0 : Array Value) (hw : ∀ d ∈ tables_1, d.before a0 Z = true) (ws : List Jvm.Cond) (a1 : Addr) (yc_ : Addr) (yn_ : ClassId) (ye_ : List Value) (h0 : Heap) (n0 : Nat) (Z0 : n0 ≤ h0.size) (hcs : ¬ (ya_ = (0 : Int32))) (yac_ : Fld Z h0 a1 "java/lang/AbstractStringBuilder" "coder" "B" (.int (0 : Int32))) (ybp_ : Fld Z h0 a1 "java/lang/AbstractStringBuilder" "count" "I" (.int (2 : Int32))) (yae_ : Fld Z h0 a1 "java/lang/AbstractStringBuilder" "value" "[B" (.ref yc_)) (E_a1 : Exa Z h0 a1 "java/lang/StringBuilder") (g_a1 : n0 ≤ a1) (yam_ : Arv Z h0 yc_ yn_ .byte (16 : Int32) ye_ (.int (0 : Int32))) :
    MetFree l mN2 (head1 (Jvm.Cond.code mN2 jdk_68_method_9_code 3 none :: ws) ({ frames := 3, cells := 1, slots := 34, locals := 48 } : Room)) (fun a U => a = #[(.ref a1), (.int (17 : Int32))] ∧ Z.Warmed39 U.vm ∧ U.heap = h0) (fun _ _ _ _ _ => True) (fun _ U o U' => ∃ v L, o = .returned v ∧ yot_ Z a1 yc_ yn_ ye_ h0 n0 v U'.heap L ∧ FrameEnd U o U' L ({ frames := 3, cells := 1, slots := 34, locals := 48 } : Room).cells ({ frames := 3, cells := 1, slots := 34, locals := 48 } : Room).slots) := by
  have hi : ∀ (i : Nat) {d : Jvm.Cond}, tables_1[i]? = some d → d.before a0 Z = true := fun i d h => hw d (List.mem_of_getElem? h)
  refine MetFree.of_bodySF (plainFor_of_name pn_17) hisR ?_
  intro p e s m args below meth c s₁ Bd hml0 hP hK
  obtain ⟨rfl, hZ, hh⟩ := hP
  have hx := Bd.exec
  have hby := Bd.bytes
  have hml : c.maxLocals = 3 := hml0
  have hown : s.vm.findClass "java/lang/AbstractStringBuilder" = some m.cls := findClass_of_methodNamed Bd.named
  have hnm := (name_of_methodNamed Bd.named Bd.method).1
  have X0 : Stand p l e ({ frames := 3, cells := 1, slots := 34, locals := 48 } : Room) s m #[(.ref a1), (.int (17 : Int32))] below meth c s₁ [] 0 0 := Stand.of_body Bd
  have e0 : s₁.heap = h0 := by rw [← hh, Bd.state]; rfl
  have N0 := Fr.nil n0
  obtain ⟨T2, X2, e2, st2⟩ := getF X0 hx hZ hown (host := "") (Or.inl (hi 63 rfl)) Via.refl e0 yae_ (g := (mkF m 1 #[vA a1, vI (17 : Int32), vU] [(.ref a1)])) rfl rfl (hb hby d17_1)
  obtain ⟨ygj_, ybz_, ygx_, yde_, ydf_, ygk_, ygl_⟩ := id yam_
  obtain ⟨T3, X3, e3, st3⟩ := getF X2 hx hZ hown (host := "") (Or.inl (hi 65 rfl)) Via.refl e2 yac_ (g := (mkF m 6 #[vA a1, vI (17 : Int32), vU] [(.ref a1), (.int (16 : Int32))])) rfl rfl (hb hby d17_6)
  obtain ⟨T4, X4, e4, st4⟩ := getF X3 hx hZ hown (host := "") (Or.inl (hi 63 rfl)) Via.refl e3 yae_ (g := (mkF m 19 #[vA a1, vI (17 : Int32), vI (16 : Int32)] [(.ref a1), (.ref a1)])) rfl rfl (hb hby d17_19)
  obtain ⟨cq5, q5, q5'⟩ := E_a1.cell
  obtain ⟨_, _, ⟨T5, L5, k5, n5⟩, -, X5, ⟨Lc5, hQ5, l5, y5, z5⟩, st5⟩ := X4.privateBack hx (y := mN7) hown (mvT hZ (hi 317 rfl)) (mvT hZ (hi 318 rfl)) (own_selself (mvT hZ (hi 320 rfl)) (Cond.privateMethod_at (mvP hZ (hi 319 rfl) (args := #[]))) (mvT hZ (hi 318 rfl)) (by decide)) (Cond.privateMethod_at (mvP hZ (hi 319 rfl) (args := #[]))) (mvT hZ (hi 321 rfl)) (by decide) (backOf (W := 2) (rm52 l Z a0 hw [] a1 yc_ yn_ ye_ h0 n0 Z0 yae_ yac_ yam_) hZ (hi 321 rfl) (hi 59 rfl) (by decide) (by decide)) (g := (mkF m 24 #[vA a1, vI (17 : Int32), vI (16 : Int32)] [(.int (17 : Int32)), (.ref a1), (.ref yc_), (.ref a1)])) rfl (by rw [hml]; rfl) (Steps.refl _) (a := a1) (by rw [e4]; exact q5) q5' (argsL := [(.int (17 : Int32))]) (rest := [(.ref yc_), (.ref a1)]) (lenOf ypj_ rfl) rfl (by show 2 * 0 + _ ≤ _; exact Nat.le_of_eq rfl) (hb hby d17_24) (fun _ _ => ⟨rfl, e4, (by decide : 0 + 0 ≤ _), (by decide : 0 + 0 ≤ _)⟩)
  dsimp only [Pt.U, Pt.locs, Pt.cells, Pt.slots] at X5 l5 y5 z5 st5 hQ5
  subst l5 y5 z5
  obtain ⟨rfl, N5q, e5⟩ := hQ5
  have N5 := Fr.app N0 N5q
  obtain ⟨T6, X6, e6, st6⟩ := getF X5 hx hZ hown (host := "") (Or.inl (hi 65 rfl)) Via.refl e5 yac_ (g := (mkF m 28 #[vA a1, vI (17 : Int32), vI (16 : Int32)] [(.ref a1), (.int (34 : Int32)), (.ref yc_), (.ref a1)])) rfl rfl (hb hby d17_28)
  obtain ⟨_, _, ⟨T7, L7, k7, n7⟩, -, X7, ⟨Lc7, hQ7, l7, y7, z7⟩, st7⟩ := Jvm.LawKit.callS X6 hx (y := mN40) hown (mvT hZ (hi 331 rfl)) (mvT hZ (hi 332 rfl)) (mvT hZ (hi 232 rfl)) (mvT hZ (hi 333 rfl)) (by decide) (backOf (W := 1) (rm55 l Z a0 hw [] yc_ yn_ ye_ h0 n0 Z0 yam_) hZ (hi 333 rfl) (hi 232 rfl) (by decide) (by decide)) (g := (mkF m 32 #[vA a1, vI (17 : Int32), vI (16 : Int32)] [(.int (34 : Int32)), (.ref yc_), (.ref a1)])) rfl (by rw [hml]; rfl) (argsL := [(.ref yc_), (.int (34 : Int32))]) (rest := [(.ref a1)]) (lenOf ylu_ rfl) rfl (by show 2 * 0 + _ ≤ _; exact Nat.le_of_eq rfl) (hb hby d17_32) (fun _ _ => ⟨rfl, e6, (by decide : 0 + 1 ≤ _), (by decide : 0 + 34 ≤ _)⟩)
  dsimp only [Pt.U, Pt.locs, Pt.cells, Pt.slots] at X7 l7 y7 z7 st7 hQ7
  subst l7 y7 z7
  obtain ⟨b2_7, ⟨k2_7, ⟨rfl, N7q, K7, i7_0, i7_1, i7_2⟩⟩⟩ := hQ7
  have N7 := Fr.app N5 N7q
  have sz_b2_7 : h0.size ≤ b2_7 := Nat.le_trans (Nat.le_refl h0.size) i7_0
  have g_b2_7 : n0 ≤ b2_7 := Nat.le_trans Z0 sz_b2_7
  have f1 := (E_a1.keep K7)
  have f2 := (yae_.keep K7 own_n0)
  obtain ⟨T8, h8, X8, e8, W8, st8⟩ := putF X7 hx hZ hown (host := "") (Or.inl (hi 63 rfl)) Via.refl rfl f2 f1 (Or.inl (hi 64 rfl)) (hi 50 rfl) (ty := (.array .byte)) (by decide) rfl rfl (g := (mkF m 35 #[vA a1, vI (17 : Int32), vI (16 : Int32)] [(.ref b2_7), (.ref a1)])) rfl rfl (hb hby d17_35)
  have Fw8 := f2.same W8
  have N8 := Fr.snoc X8 N7 g_a1
  have f3 := (f1.wr W8)
  have f4 := ((yac_.keep K7 own_n0).other W8 (Or.inr (slot_ne (Or.inl (hi 66 rfl)) (Or.inl (hi 64 rfl)) (by decide) (t := .byte) (t' := (.array .byte)) (by decide) (by decide))))
  have f5 := ((ybp_.keep K7 own_n0).other W8 (Or.inr (slot_ne (Or.inl (hi 143 rfl)) (Or.inl (hi 64 rfl)) (by decide) (t := .int) (t' := (.array .byte)) (by decide) (by decide))))
  have f6 := (i7_1.wr W8)
  have f7 := (i7_2.other W8 (Ne.symm (Nat.ne_of_lt (Nat.lt_of_lt_of_le yac_.lt sz_b2_7))))
  obtain ⟨fs, hr, hrun, hended, hW, hsame⟩ := X8.leave (v := none) (fun _ => rfl)
  refine ⟨_, _, castTop (ef_17 m a1 (17 : Int32)) ?_, hrun, hended, _, _, rfl, ?_, ⟨_, rfl⟩, hW, hsame.mono (by decide) (by decide)⟩
  · show Steps p.tables e below (s₁.setTop (mkF m 0 #[vA a1, vI (17 : Int32), vU] [])) _
    refine XS.aloadN X0.here hx rfl (hb hby d17_0) rfl rfl ?_
    refine st2 _ ?_
    refine X2.arraylength hx (by rw [e2]; exact ybz_.1) (State.isArrayOf_alike hZ.alike ybz_.2.1) (g := (mkF m 4 #[vA a1, vI (17 : Int32), vU] [(.ref yc_)])) rfl rfl (hb hby d17_4) _ ?_
    rw [len_of yde_ ydf_]
    refine XS.aloadN X2.here hx rfl (hb hby d17_5) rfl rfl ?_
    refine st3 _ ?_
    refine XS.ishr X3.here hx rfl (hb hby d17_9) rfl ?_
    refine XS.istoreN X3.here hx rfl (hb hby d17_10) rfl (l' := #[vA a1, vI (17 : Int32), vI (16 : Int32)]) rfl ?_
    refine XS.iloadN X3.here hx rfl (hb hby d17_11) rfl ?_
    refine XS.iloadN X3.here hx rfl (hb hby d17_12) rfl ?_
    refine XS.isub X3.here hx rfl (hb hby d17_13) rfl ?_
    refine XS.ifNo X3.here hx rfl (hb hby d17_14) rfl ((if0 _ _).trans (tlt (by decide : (0 : Int32) < (1 : Int32))).2.2.2) ?_
    refine XS.aloadN X3.here hx rfl (hb hby d17_17) rfl rfl ?_
    refine XS.aloadN X3.here hx rfl (hb hby d17_18) rfl rfl ?_
    refine st4 _ ?_
    refine XS.aloadN X4.here hx rfl (hb hby d17_22) rfl rfl ?_
    refine XS.iloadN X4.here hx rfl (hb hby d17_23) rfl ?_
    refine st5.trans ?_
    refine XS.aloadN X5.here hx rfl (hb hby d17_27) rfl rfl ?_
    refine st6 _ ?_
    refine XS.ishl X6.here hx rfl (hb hby d17_31) rfl ?_
    refine st7 _ ?_
    refine st8 _ ?_
    show Steps p.tables e below (T8.setTop (mkF m 38 #[vA a1, vI (17 : Int32), vI (16 : Int32)] [])) _
    exact X8.returnOut hx Bd.returns (hb hby d17_38) hr
  · show yot_ Z a1 yc_ yn_ ye_ h0 n0 _ T8.heap _
    rw [e8]
    exact ⟨b2_7, ⟨k2_7, ⟨rfl, N8, (((Keep.refl h0 [a1]).trans K7 (fun x q => nomatch q)).wr W8 (Or.inl (List.mem_of_getElem? (i := 0) rfl))), sz_b2_7, f3, f4, f5, Fw8, f6, f7⟩⟩⟩
def you_ (Z : State) (a1 : Addr) (a2 : Addr) (yc_ : Addr) (yz_ : Addr) (ya_ : Int32) (yak_ : ClassId) (yad_ : List Value) (yn_ : ClassId) (ye_ : List Value) (h0 : Heap) (n0 : Nat) (v : Option Value) (h : Heap) (L : List Loc) : Prop := ∃ b2_7_5 : Addr, ∃ k2_7_5 : ClassId, v = some (.ref a1) ∧ Fr n0 L ∧ Keep h0 h [a1] ∧ h0.size ≤ b2_7_5 ∧ Exa Z h a1 "java/lang/StringBuilder" ∧ Fld Z h a1 "java/lang/AbstractStringBuilder" "coder" "B" (.int (0 : Int32)) ∧ Fld Z h a1 "java/lang/AbstractStringBuilder" "count" "I" (.int (17 : Int32)) ∧ Fld Z h a1 "java/lang/AbstractStringBuilder" "value" "[B" (.ref b2_7_5) ∧ Exa Z h b2_7_5 "[B" ∧ Arv Z h b2_7_5 k2_7_5 .byte (34 : Int32) (own_cp yad_ (own_cp ye_ (List.replicate 34 (Value.int (0 : Int32))) (.int (0 : Int32)) (0 : Int32) (0 : Int32) (16 : Int32)) (.int (0 : Int32)) (0 : Int32) ((2 : Int32) <<< ((0 : Int32) &&& 31)) (15 : Int32)) (.int (0 : Int32))
set_option maxRecDepth 65536 in
set_option maxHeartbeats 40000000 in
theorem rm14_g (l : Launch) (Z : State) (a0 : Array Value) (hw : ∀ d ∈ tables_1, d.before a0 Z = true) (ws : List Jvm.Cond) (a1 : Addr) (a2 : Addr) (yc_ : Addr) (yz_ : Addr) (ya_ : Int32) (yak_ : ClassId) (yad_ : List Value) (yn_ : ClassId) (ye_ : List Value) (h0 : Heap) (n0 : Nat) (Z0 : n0 ≤ h0.size) (hcs : ¬ (ya_ = (0 : Int32))) (yae_ : Fld Z h0 a1 "java/lang/AbstractStringBuilder" "value" "[B" (.ref yc_)) (yac_ : Fld Z h0 a1 "java/lang/AbstractStringBuilder" "coder" "B" (.int (0 : Int32))) (ycc_ : Fld Z h0 a2 "java/lang/String" "value" "[B" (.ref yz_)) (yf_ : Sta Z h0 "java/lang/String" "COMPACT_STRINGS" "Z" (.int ya_)) (ybt_ : Fld Z h0 a2 "java/lang/String" "coder" "B" (.int (0 : Int32))) (E_a2 : Exa Z h0 a2 "java/lang/String") (ybp_ : Fld Z h0 a1 "java/lang/AbstractStringBuilder" "count" "I" (.int (2 : Int32))) (E_a1 : Exa Z h0 a1 "java/lang/StringBuilder") (g_a1 : n0 ≤ a1) (ybq_ : Arv Z h0 yz_ yak_ .byte (15 : Int32) yad_ (.int (0 : Int32))) (yam_ : Arv Z h0 yc_ yn_ .byte (16 : Int32) ye_ (.int (0 : Int32))) (ykp_ : a2 ≠ a1) (ycn_ : yz_ ≠ a1) :
    MetFree l mN1 (head1 (Jvm.Cond.code mN1 jdk_68_method_22_code 3 (some (.object "java/lang/AbstractStringBuilder")) :: ws) ({ frames := 4, cells := 1, slots := 34, locals := 62 } : Room)) (fun a U => a = #[(.ref a1), (.ref a2)] ∧ Z.Warmed39 U.vm ∧ U.heap = h0) (fun _ _ _ _ _ => True) (fun _ U o U' => ∃ v L, o = .returned v ∧ you_ Z a1 a2 yc_ yz_ ya_ yak_ yad_ yn_ ye_ h0 n0 v U'.heap L ∧ FrameEnd U o U' L ({ frames := 4, cells := 1, slots := 34, locals := 62 } : Room).cells ({ frames := 4, cells := 1, slots := 34, locals := 62 } : Room).slots) := by
  have hi : ∀ (i : Nat) {d : Jvm.Cond}, tables_1[i]? = some d → d.before a0 Z = true := fun i d h => hw d (List.mem_of_getElem? h)
  refine MetFree.of_bodySF (plainFor_of_name pn_14) hisR ?_
  intro p e s m args below meth c s₁ Bd hml0 hP hK
  obtain ⟨rfl, hZ, hh⟩ := hP
  have hx := Bd.exec
  have hby := Bd.bytes
  have hml : c.maxLocals = 3 := hml0
  have hown : s.vm.findClass "java/lang/AbstractStringBuilder" = some m.cls := findClass_of_methodNamed Bd.named
  have hnm := (name_of_methodNamed Bd.named Bd.method).1
  have X0 : Stand p l e ({ frames := 4, cells := 1, slots := 34, locals := 62 } : Room) s m #[(.ref a1), (.ref a2)] below meth c s₁ [] 0 0 := Stand.of_body Bd
  have e0 : s₁.heap = h0 := by rw [← hh, Bd.state]; rfl
  have N0 := Fr.nil n0
  obtain ⟨cq3, kq3, q3a, q3b, q3c⟩ := isOf hZ e0 E_a2
  obtain ⟨_, _, ⟨T3, L3, k3, n3⟩, -, X3, ⟨Lc3, hQ3, l3, y3, z3⟩, st3⟩ := X0.virtualBack hx (y := mN21) (z := mN21) hown (mvT hZ (hi 129 rfl)) (mvT hZ (hi 130 rfl)) (notFace_of_selects (args := #[]) (mvT hZ (hi 132 rfl))) (mvT hZ (hi 132 rfl)) (mvT hZ (hi 131 rfl)) (by decide) (backOf (W := 0) (rm15 l Z a0 hw [] a2 yz_ yak_ (15 : Int32) yad_ ya_ (0 : Int32) h0 n0 Z0 hcs ycc_ ybq_ yf_ ybt_ E_a2) hZ (hi 133 rfl) (hi 4 rfl) (by decide) (by decide)) q3a q3c (g := (mkF m 10 #[vA a1, vA a2, vU] [(.ref a2)])) rfl (by rw [hml]; rfl) (Steps.refl _) (argsL := []) (rest := []) (lenOf ycf_ rfl) rfl (by show 2 * 0 + _ ≤ _; exact Nat.le_of_eq rfl) (hb hby d14_10) (fun _ _ => ⟨rfl, e0, (by decide : 0 + 0 ≤ _), (by decide : 0 + 0 ≤ _)⟩)
  dsimp only [Pt.U, Pt.locs, Pt.cells, Pt.slots] at X3 l3 y3 z3 st3 hQ3
  subst l3 y3 z3
  obtain ⟨rfl, N3q, e3⟩ := hQ3
  have N3 := Fr.app N0 N3q
  obtain ⟨T4, X4, e4, st4⟩ := getF X3 hx hZ hown (host := "") (Or.inl (hi 142 rfl)) Via.refl e3 ybp_ (g := (mkF m 16 #[vA a1, vA a2, vI (15 : Int32)] [(.ref a1), (.ref a1)])) rfl rfl (hb hby d14_16)
  obtain ⟨cq5, q5, q5'⟩ := E_a1.cell
  obtain ⟨_, _, ⟨T5, L5, k5, n5⟩, -, X5, ⟨Lc5, hQ5, l5, y5, z5⟩, st5⟩ := X4.privateBack hx (y := mN2) hown (mvT hZ (hi 144 rfl)) (mvT hZ (hi 145 rfl)) (own_selself (mvT hZ (hi 147 rfl)) (Cond.privateMethod_at (mvP hZ (hi 146 rfl) (args := #[]))) (mvT hZ (hi 145 rfl)) (by decide)) (Cond.privateMethod_at (mvP hZ (hi 146 rfl) (args := #[]))) (mvT hZ (hi 148 rfl)) (by decide) (backOf (W := 0) (rm17_g l Z a0 hw [] a1 yc_ yn_ ye_ h0 n0 Z0 hcs yac_ ybp_ yae_ E_a1 g_a1 yam_) hZ (hi 148 rfl) (hi 59 rfl) (by decide) (by decide)) (g := (mkF m 21 #[vA a1, vA a2, vI (15 : Int32)] [(.int (17 : Int32)), (.ref a1)])) rfl (by rw [hml]; rfl) (Steps.refl _) (a := a1) (by rw [e4]; exact q5) q5' (argsL := [(.int (17 : Int32))]) (rest := []) (lenOf yjy_ rfl) rfl (by show 2 * 0 + _ ≤ _; exact Nat.le_of_eq rfl) (hb hby d14_21) (fun _ _ => ⟨rfl, e4, (by decide : 0 + 1 ≤ _), (by decide : 0 + 34 ≤ _)⟩)
  dsimp only [Pt.U, Pt.locs, Pt.cells, Pt.slots] at X5 l5 y5 z5 st5 hQ5
  subst l5 y5 z5
  obtain ⟨b2_7_5, ⟨k2_7_5, ⟨rfl, N5q, K5, i5_0, i5_1, i5_2, i5_3, i5_4, i5_5, i5_6⟩⟩⟩ := hQ5
  have N5 := Fr.app N3 N5q
  have ygq_ : h0.size ≤ b2_7_5 := Nat.le_trans (Nat.le_refl h0.size) i5_0
  have yra_ : n0 ≤ b2_7_5 := Nat.le_trans Z0 ygq_
  obtain ⟨T6, X6, e6, st6⟩ := getF X5 hx hZ hown (host := "") (Or.inl (hi 142 rfl)) Via.refl rfl i5_3 (g := (mkF m 26 #[vA a1, vA a2, vI (15 : Int32)] [(.ref a1), (.ref a1)])) rfl rfl (hb hby d14_26)
  have f0 := (own_sta_keep yf_ K5 (own_qc (own_nst E_a1) own_q0))
  have f1 := (ycc_.keep K5 (own_nm ykp_ own_n0))
  have f2 := (ybq_.keep K5 (own_nm ycn_ own_n0))
  have f3 := (ybt_.keep K5 (own_nm ykp_ own_n0))
  have f4 := (E_a2.keep K5)
  obtain ⟨cq7, q7, q7'⟩ := i5_1.cell
  obtain ⟨_, _, ⟨T7, L7, k7, n7⟩, -, X7, ⟨Lc7, hQ7, l7, y7, z7⟩, st7⟩ := X6.privateBack hx (y := mN8) hown (mvT hZ (hi 149 rfl)) (mvT hZ (hi 150 rfl)) (own_selself (mvT hZ (hi 152 rfl)) (Cond.privateMethod_at (mvP hZ (hi 151 rfl) (args := #[]))) (mvT hZ (hi 150 rfl)) (by decide)) (Cond.privateMethod_at (mvP hZ (hi 151 rfl) (args := #[]))) (mvT hZ (hi 153 rfl)) (by decide) (backOf (W := 0) (rm18 l Z a0 hw [] a1 (2 : Int32) a2 ya_ b2_7_5 yz_ yak_ (15 : Int32) yad_ k2_7_5 (34 : Int32) (own_cp ye_ (List.replicate 34 (Value.int (0 : Int32))) (.int (0 : Int32)) (0 : Int32) (0 : Int32) (16 : Int32)) T5.heap n0 (Nat.le_trans Z0 K5.1) hcs f0 i5_2 f3 f4 i5_1 i5_4 f1 f2 i5_6 yra_ (by decide) (by decide) (by decide) (by decide) (Nat.le_of_ble_eq_true rfl)) hZ (hi 153 rfl) (hi 59 rfl) (by decide) (by decide)) (g := (mkF m 30 #[vA a1, vA a2, vI (15 : Int32)] [(.ref a2), (.int (2 : Int32)), (.ref a1)])) rfl (by rw [hml]; rfl) (Steps.refl _) (a := a1) (by rw [e6]; exact q7) q7' (argsL := [(.int (2 : Int32)), (.ref a2)]) (rest := []) (lenOf yed_ rfl) rfl (by show 2 * 0 + _ ≤ _; exact Nat.le_of_eq rfl) (hb hby d14_30) (fun _ _ => ⟨rfl, e6, (by decide : 1 + 0 ≤ _), (by decide : 34 + 0 ≤ _)⟩)
  dsimp only [Pt.U, Pt.locs, Pt.cells, Pt.slots] at X7 l7 y7 z7 st7 hQ7
  subst l7 y7 z7
  obtain ⟨rfl, N7q, K7, i7_0⟩ := hQ7
  have N7 := Fr.app N5 N7q
  have f5 := (i5_3.keep K7 (own_nm (Nat.ne_of_lt (Nat.lt_of_lt_of_le yae_.lt ygq_)) own_n0))
  obtain ⟨T8, X8, e8, st8⟩ := getF X7 hx hZ hown (host := "") (Or.inl (hi 142 rfl)) Via.refl rfl f5 (g := (mkF m 35 #[vA a1, vA a2, vI (15 : Int32)] [(.ref a1), (.ref a1)])) rfl rfl (hb hby d14_35)
  have f6 := (i5_1.keep K7)
  obtain ⟨T9, h9, X9, e9, W9, st9⟩ := putF X8 hx hZ hown (host := "") (Or.inl (hi 142 rfl)) Via.refl e8 f5 f6 (Or.inl (hi 143 rfl)) (hi 50 rfl) (ty := .int) (by decide) rfl rfl (g := (mkF m 40 #[vA a1, vA a2, vI (15 : Int32)] [(.int (17 : Int32)), (.ref a1)])) rfl rfl (hb hby d14_40)
  have Fw9 := f5.same W9
  have N9 := Fr.snoc X9 N7 g_a1
  have f7 := (f6.wr W9)
  have f8 := ((i5_2.keep K7 (own_nm (Nat.ne_of_lt (Nat.lt_of_lt_of_le yae_.lt ygq_)) own_n0)).other W9 (Or.inr (slot_ne (Or.inl (hi 66 rfl)) (Or.inl (hi 143 rfl)) (by decide) (t := .byte) (t' := .int) (by decide) (by decide))))
  have f9 := ((i5_4.keep K7 (own_nm (Nat.ne_of_lt (Nat.lt_of_lt_of_le yae_.lt ygq_)) own_n0)).other W9 (Or.inr (slot_ne (Or.inl (hi 64 rfl)) (Or.inl (hi 143 rfl)) (by decide) (t := (.array .byte)) (t' := .int) (by decide) (by decide))))
  have f10 := ((i5_5.keep K7).wr W9)
  have f11 := (i7_0.other W9 (Ne.symm (Nat.ne_of_lt (Nat.lt_of_lt_of_le yae_.lt ygq_))))
  obtain ⟨fs, hr, hrun, hended, hW, hsame⟩ := X9.leave (v := some (.ref a1)) (fun h => by rw [Bd.returns] at h; cases h)
  refine ⟨_, _, castTop (ef_14 m a1 a2) ?_, hrun, hended, _, _, rfl, ?_, ⟨_, rfl⟩, hW, hsame.mono (by decide) (by decide)⟩
  · show Steps p.tables e below (s₁.setTop (mkF m 0 #[vA a1, vA a2, vU] [])) _
    refine XS.aloadN X0.here hx rfl (hb hby d14_0) rfl rfl ?_
    refine XS.ifnonnullYes X0.here hx rfl (pc0 := 1) (pc' := 9) rfl (hb hby d14_1) rfl (by decide) (by decide) ?_
    refine XS.aloadN X0.here hx rfl (hb hby d14_9) rfl rfl ?_
    refine st3.trans ?_
    refine XS.istoreN X3.here hx rfl (hb hby d14_13) rfl (l' := #[vA a1, vA a2, vI (15 : Int32)]) rfl ?_
    refine XS.aloadN X3.here hx rfl (hb hby d14_14) rfl rfl ?_
    refine XS.aloadN X3.here hx rfl (hb hby d14_15) rfl rfl ?_
    refine st4 _ ?_
    refine XS.iloadN X4.here hx rfl (hb hby d14_19) rfl ?_
    refine XS.iadd X4.here hx rfl (hb hby d14_20) rfl ?_
    refine st5.trans ?_
    refine XS.aloadN X5.here hx rfl (hb hby d14_24) rfl rfl ?_
    refine XS.aloadN X5.here hx rfl (hb hby d14_25) rfl rfl ?_
    refine st6 _ ?_
    refine XS.aloadN X6.here hx rfl (hb hby d14_29) rfl rfl ?_
    refine st7.trans ?_
    refine XS.aloadN X7.here hx rfl (hb hby d14_33) rfl rfl ?_
    refine XS.dup X7.here hx rfl (hb hby d14_34) rfl rfl ?_
    refine st8 _ ?_
    refine XS.iloadN X8.here hx rfl (hb hby d14_38) rfl ?_
    refine XS.iadd X8.here hx rfl (hb hby d14_39) rfl ?_
    refine st9 _ ?_
    refine XS.aloadN X9.here hx rfl (hb hby d14_43) rfl rfl ?_
    show Steps p.tables e below (T9.setTop (mkF m 44 #[vA a1, vA a2, vI (15 : Int32)] [(.ref a1)])) _
    jvm_step X9.here [X9.here.top, hx, (hb hby d14_44), X9.method', Bd.returns, Value.isRef, FieldType.isReference]
    first | (intro acts; rw [hr _ acts rfl rfl rfl]) | rw [hr _ _ rfl rfl rfl]
    exact Steps.refl _
  · show you_ Z a1 a2 yc_ yz_ ya_ yak_ yad_ yn_ ye_ h0 n0 _ T9.heap _
    rw [e9]
    exact ⟨b2_7_5, ⟨k2_7_5, ⟨rfl, N9, ((((Keep.refl h0 [a1]).trans K5 (fun x q => (List.mem_cons.mp q).elim (fun r => by subst r; exact (Or.inl (List.mem_of_getElem? (i := 0) rfl))) (fun q => nomatch q))).trans K7 (fun x q => (List.mem_cons.mp q).elim (fun r => by subst r; exact (Or.inr ygq_)) (fun q => nomatch q))).wr W9 (Or.inl (List.mem_of_getElem? (i := 0) rfl))), ygq_, f7, f8, Fw9, f9, f10, f11⟩⟩⟩
def yov_ (Z : State) (a1 : Addr) (a2 : Addr) (yc_ : Addr) (yz_ : Addr) (ya_ : Int32) (yak_ : ClassId) (yad_ : List Value) (yn_ : ClassId) (ye_ : List Value) (h0 : Heap) (n0 : Nat) (v : Option Value) (h : Heap) (L : List Loc) : Prop := ∃ ygo_ : Addr, ∃ ymu_ : ClassId, v = some (.ref a1) ∧ Fr n0 L ∧ Keep h0 h [a1] ∧ h0.size ≤ ygo_ ∧ Exa Z h a1 "java/lang/StringBuilder" ∧ Fld Z h a1 "java/lang/AbstractStringBuilder" "coder" "B" (.int (0 : Int32)) ∧ Fld Z h a1 "java/lang/AbstractStringBuilder" "count" "I" (.int (17 : Int32)) ∧ Fld Z h a1 "java/lang/AbstractStringBuilder" "value" "[B" (.ref ygo_) ∧ Exa Z h ygo_ "[B" ∧ Arv Z h ygo_ ymu_ .byte (34 : Int32) (own_cp yad_ (own_cp ye_ (List.replicate 34 (Value.int (0 : Int32))) (.int (0 : Int32)) (0 : Int32) (0 : Int32) (16 : Int32)) (.int (0 : Int32)) (0 : Int32) ((2 : Int32) <<< ((0 : Int32) &&& 31)) (15 : Int32)) (.int (0 : Int32))
set_option maxRecDepth 65536 in
set_option maxHeartbeats 40000000 in
theorem rm13_g (l : Launch) (Z : State) (a0 : Array Value) (hw : ∀ d ∈ tables_1, d.before a0 Z = true) (ws : List Jvm.Cond) (a1 : Addr) (a2 : Addr) (yc_ : Addr) (yz_ : Addr) (ya_ : Int32) (yak_ : ClassId) (yad_ : List Value) (yn_ : ClassId) (ye_ : List Value) (h0 : Heap) (n0 : Nat) (Z0 : n0 ≤ h0.size) (hcs : ¬ (ya_ = (0 : Int32))) (yae_ : Fld Z h0 a1 "java/lang/AbstractStringBuilder" "value" "[B" (.ref yc_)) (yac_ : Fld Z h0 a1 "java/lang/AbstractStringBuilder" "coder" "B" (.int (0 : Int32))) (ycc_ : Fld Z h0 a2 "java/lang/String" "value" "[B" (.ref yz_)) (yf_ : Sta Z h0 "java/lang/String" "COMPACT_STRINGS" "Z" (.int ya_)) (ybt_ : Fld Z h0 a2 "java/lang/String" "coder" "B" (.int (0 : Int32))) (E_a2 : Exa Z h0 a2 "java/lang/String") (ybp_ : Fld Z h0 a1 "java/lang/AbstractStringBuilder" "count" "I" (.int (2 : Int32))) (E_a1 : Exa Z h0 a1 "java/lang/StringBuilder") (g_a1 : n0 ≤ a1) (ybq_ : Arv Z h0 yz_ yak_ .byte (15 : Int32) yad_ (.int (0 : Int32))) (yam_ : Arv Z h0 yc_ yn_ .byte (16 : Int32) ye_ (.int (0 : Int32))) (ykp_ : a2 ≠ a1) (ycn_ : yz_ ≠ a1) :
    MetFree l mN24 (head1 (Jvm.Cond.code mN24 jdk_67_method_7_code 2 (some (.object "java/lang/StringBuilder")) :: ws) ({ frames := 5, cells := 1, slots := 34, locals := 76 } : Room)) (fun a U => a = #[(.ref a1), (.ref a2)] ∧ Z.Warmed39 U.vm ∧ U.heap = h0) (fun _ _ _ _ _ => True) (fun _ U o U' => ∃ v L, o = .returned v ∧ yov_ Z a1 a2 yc_ yz_ ya_ yak_ yad_ yn_ ye_ h0 n0 v U'.heap L ∧ FrameEnd U o U' L ({ frames := 5, cells := 1, slots := 34, locals := 76 } : Room).cells ({ frames := 5, cells := 1, slots := 34, locals := 76 } : Room).slots) := by
  have hi : ∀ (i : Nat) {d : Jvm.Cond}, tables_1[i]? = some d → d.before a0 Z = true := fun i d h => hw d (List.mem_of_getElem? h)
  refine MetFree.of_bodySF (plainFor_of_name pn_13) hisR ?_
  intro p e s m args below meth c s₁ Bd hml0 hP hK
  obtain ⟨rfl, hZ, hh⟩ := hP
  have hx := Bd.exec
  have hby := Bd.bytes
  have hml : c.maxLocals = 2 := hml0
  have hown : s.vm.findClass "java/lang/StringBuilder" = some m.cls := findClass_of_methodNamed Bd.named
  have hnm := (name_of_methodNamed Bd.named Bd.method).1
  have X0 : Stand p l e ({ frames := 5, cells := 1, slots := 34, locals := 76 } : Room) s m #[(.ref a1), (.ref a2)] below meth c s₁ [] 0 0 := Stand.of_body Bd
  have e0 : s₁.heap = h0 := by rw [← hh, Bd.state]; rfl
  have N0 := Fr.nil n0
  obtain ⟨_, _, ⟨T3, L3, k3, n3⟩, -, X3, ⟨Lc3, hQ3, l3, y3, z3⟩, st3⟩ := superBack X0 hx hZ (y := mN1) hown (hi 124 rfl) (own_same (hi 147 rfl) rfl (hi 125 rfl) (by decide)) (hi 125 rfl) (hi 126 rfl) (by decide) (backOf (W := 0) (rm14_g l Z a0 hw [] a1 a2 yc_ yz_ ya_ yak_ yad_ yn_ ye_ h0 n0 Z0 hcs yae_ yac_ ycc_ yf_ ybt_ E_a2 ybp_ E_a1 g_a1 ybq_ yam_ ykp_ ycn_) hZ (hi 128 rfl) (hi 59 rfl) (by decide) (by decide)) e0 (Ins.self E_a1) (g := (mkF m 2 #[vA a1, vA a2] [(.ref a2), (.ref a1)])) rfl (by rw [hml]; rfl) (hi 128 rfl) (argsL := [(.ref a2)]) (rest := []) (lenOf ycd_ rfl) rfl (by show 2 * 0 + _ ≤ _; exact Nat.le_of_eq rfl) (hb hby d13_2) (fun _ _ => ⟨rfl, e0, (by decide : 0 + 1 ≤ _), (by decide : 0 + 34 ≤ _)⟩)
  dsimp only [Pt.U, Pt.locs, Pt.cells, Pt.slots] at X3 l3 y3 z3 st3 hQ3
  subst l3 y3 z3
  obtain ⟨ygo_, ⟨ymu_, ⟨rfl, N3q, K3, i3_0, i3_1, i3_2, i3_3, i3_4, i3_5, i3_6⟩⟩⟩ := hQ3
  have N3 := Fr.app N0 N3q
  have ymr_ : h0.size ≤ ygo_ := Nat.le_trans (Nat.le_refl h0.size) i3_0
  have yrj_ : n0 ≤ ygo_ := Nat.le_trans Z0 ymr_
  obtain ⟨fs, hr, hrun, hended, hW, hsame⟩ := X3.leave (v := some (.ref a1)) (fun h => by rw [Bd.returns] at h; cases h)
  refine ⟨_, _, castTop (ef_13 m a1 a2) ?_, hrun, hended, _, _, rfl, ?_, ⟨_, rfl⟩, hW, hsame.mono (by decide) (by decide)⟩
  · show Steps p.tables e below (s₁.setTop (mkF m 0 #[vA a1, vA a2] [])) _
    refine XS.aloadN X0.here hx rfl (hb hby d13_0) rfl rfl ?_
    refine XS.aloadN X0.here hx rfl (hb hby d13_1) rfl rfl ?_
    refine st3.trans ?_
    refine XS.pop X3.here hx rfl (hb hby d13_5) rfl rfl ?_
    refine XS.aloadN X3.here hx rfl (hb hby d13_6) rfl rfl ?_
    show Steps p.tables e below (T3.setTop (mkF m 7 #[vA a1, vA a2] [(.ref a1)])) _
    jvm_step X3.here [X3.here.top, hx, (hb hby d13_7), X3.method', Bd.returns, Value.isRef, FieldType.isReference]
    first | (intro acts; rw [hr _ acts rfl rfl rfl]) | rw [hr _ _ rfl rfl rfl]
    exact Steps.refl _
  · show yov_ Z a1 a2 yc_ yz_ ya_ yak_ yad_ yn_ ye_ h0 n0 _ T3.heap _
    exact ⟨ygo_, ⟨ymu_, ⟨rfl, N3, ((Keep.refl h0 [a1]).trans K3 (fun x q => (List.mem_cons.mp q).elim (fun r => by subst r; exact (Or.inl (List.mem_of_getElem? (i := 0) rfl))) (fun q => nomatch q))), ymr_, i3_1, i3_2, i3_3, i3_4, i3_5, i3_6⟩⟩⟩
def yow_ (Z : State) (a1 : Addr) (a2 : Addr) (ys_ : Addr) (yw_ : Addr) (yz_ : Addr) (ya_ : Int32) (yak_ : ClassId) (yad_ : List Value) (yai_ : ClassId) (yab_ : List Value) (h0 : Heap) (n0 : Nat) (v : Option Value) (h : Heap) (L : List Loc) : Prop := ∃ yeu_ : Addr, ∃ ykr_ : ClassId, v = some (.ref a1) ∧ Fr n0 L ∧ Keep h0 h [ys_] ∧ h0.size ≤ yeu_ ∧ Exa Z h ys_ "java/lang/StringBuilder" ∧ Fld Z h ys_ "java/lang/AbstractStringBuilder" "coder" "B" (.int (0 : Int32)) ∧ Fld Z h ys_ "java/lang/AbstractStringBuilder" "count" "I" (.int (17 : Int32)) ∧ Fld Z h ys_ "java/lang/AbstractStringBuilder" "value" "[B" (.ref yeu_) ∧ Exa Z h yeu_ "[B" ∧ Arv Z h yeu_ ykr_ .byte (34 : Int32) (own_cp yad_ (own_cp yab_ (List.replicate 34 (Value.int (0 : Int32))) (.int (0 : Int32)) (0 : Int32) (0 : Int32) (16 : Int32)) (.int (0 : Int32)) (0 : Int32) ((2 : Int32) <<< ((0 : Int32) &&& 31)) (15 : Int32)) (.int (0 : Int32))
set_option maxRecDepth 65536 in
set_option maxHeartbeats 40000000 in
theorem rm12_g (l : Launch) (Z : State) (a0 : Array Value) (hw : ∀ d ∈ tables_1, d.before a0 Z = true) (ws : List Jvm.Cond) (a1 : Addr) (a2 : Addr) (ys_ : Addr) (yw_ : Addr) (yz_ : Addr) (ya_ : Int32) (yak_ : ClassId) (yad_ : List Value) (yai_ : ClassId) (yab_ : List Value) (h0 : Heap) (n0 : Nat) (Z0 : n0 ≤ h0.size) (hcs : ¬ (ya_ = (0 : Int32))) (yda_ : Fld Z h0 a1 "underdeck/deck/SqlText" "current" "Ljava/lang/StringBuilder;" (.ref ys_)) (ybv_ : Fld Z h0 ys_ "java/lang/AbstractStringBuilder" "value" "[B" (.ref yw_)) (ycc_ : Fld Z h0 a2 "java/lang/String" "value" "[B" (.ref yz_)) (yf_ : Sta Z h0 "java/lang/String" "COMPACT_STRINGS" "Z" (.int ya_)) (ybx_ : Fld Z h0 ys_ "java/lang/AbstractStringBuilder" "coder" "B" (.int (0 : Int32))) (ybt_ : Fld Z h0 a2 "java/lang/String" "coder" "B" (.int (0 : Int32))) (E_a2 : Exa Z h0 a2 "java/lang/String") (ybw_ : Fld Z h0 ys_ "java/lang/AbstractStringBuilder" "count" "I" (.int (2 : Int32))) (yca_ : Exa Z h0 ys_ "java/lang/StringBuilder") (ydz_ : n0 ≤ ys_) (ybq_ : Arv Z h0 yz_ yak_ .byte (15 : Int32) yad_ (.int (0 : Int32))) (ybr_ : Arv Z h0 yw_ yai_ .byte (16 : Int32) yab_ (.int (0 : Int32))) (ylv_ : a2 ≠ ys_) (yiz_ : yz_ ≠ ys_) :
    MetFree l mN52 (head1 (Jvm.Cond.code mN52 prog_41_method_2_code 2 (some (.object "underdeck/deck/SqlText")) :: ws) ({ frames := 6, cells := 1, slots := 34, locals := 89 } : Room)) (fun a U => a = #[(.ref a1), (.ref a2)] ∧ Z.Warmed39 U.vm ∧ U.heap = h0) (fun _ _ _ _ _ => True) (fun _ U o U' => ∃ v L, o = .returned v ∧ yow_ Z a1 a2 ys_ yw_ yz_ ya_ yak_ yad_ yai_ yab_ h0 n0 v U'.heap L ∧ FrameEnd U o U' L ({ frames := 6, cells := 1, slots := 34, locals := 89 } : Room).cells ({ frames := 6, cells := 1, slots := 34, locals := 89 } : Room).slots) := by
  have hi : ∀ (i : Nat) {d : Jvm.Cond}, tables_1[i]? = some d → d.before a0 Z = true := fun i d h => hw d (List.mem_of_getElem? h)
  refine MetFree.of_bodySF (plainFor_of_name pn_12) hisR ?_
  intro p e s m args below meth c s₁ Bd hml0 hP hK
  obtain ⟨rfl, hZ, hh⟩ := hP
  have hx := Bd.exec
  have hby := Bd.bytes
  have hml : c.maxLocals = 2 := hml0
  have hown : s.vm.findClass "underdeck/deck/SqlText" = some m.cls := findClass_of_methodNamed Bd.named
  have hnm := (name_of_methodNamed Bd.named Bd.method).1
  have X0 : Stand p l e ({ frames := 6, cells := 1, slots := 34, locals := 89 } : Room) s m #[(.ref a1), (.ref a2)] below meth c s₁ [] 0 0 := Stand.of_body Bd
  have e0 : s₁.heap = h0 := by rw [← hh, Bd.state]; rfl
  have N0 := Fr.nil n0
  obtain ⟨T3, X3, e3, st3⟩ := getF X0 hx hZ hown (host := "") (Or.inl (hi 67 rfl)) Via.refl e0 yda_ (g := (mkF m 1 #[vA a1, vA a2] [(.ref a1)])) rfl rfl (hb hby d12_1)
  obtain ⟨cq4, kq4, q4a, q4b, q4c⟩ := isOf hZ e3 yca_
  obtain ⟨_, _, ⟨T4, L4, k4, n4⟩, -, X4, ⟨Lc4, hQ4, l4, y4, z4⟩, st4⟩ := X3.virtualBack hx (y := mN24) (z := mN24) hown (mvT hZ (hi 119 rfl)) (mvT hZ (hi 120 rfl)) (notFace_of_selects (args := #[]) (mvT hZ (hi 122 rfl))) (mvT hZ (hi 122 rfl)) (mvT hZ (hi 121 rfl)) (by decide) (backOf (W := 0) (rm13_g l Z a0 hw [] ys_ a2 yw_ yz_ ya_ yak_ yad_ yai_ yab_ h0 n0 Z0 hcs ybv_ ybx_ ycc_ yf_ ybt_ E_a2 ybw_ yca_ ydz_ ybq_ ybr_ ylv_ yiz_) hZ (hi 123 rfl) (hi 51 rfl) (by decide) (by decide)) q4a q4c (g := (mkF m 5 #[vA a1, vA a2] [(.ref a2), (.ref ys_)])) rfl (by rw [hml]; rfl) (Steps.refl _) (argsL := [(.ref a2)]) (rest := []) (lenOf yco_ rfl) rfl (by show 2 * 0 + _ ≤ _; exact Nat.le_of_eq rfl) (hb hby d12_5) (fun _ _ => ⟨rfl, e3, (by decide : 0 + 1 ≤ _), (by decide : 0 + 34 ≤ _)⟩)
  dsimp only [Pt.U, Pt.locs, Pt.cells, Pt.slots] at X4 l4 y4 z4 st4 hQ4
  subst l4 y4 z4
  obtain ⟨yeu_, ⟨ykr_, ⟨rfl, N4q, K4, i4_0, i4_1, i4_2, i4_3, i4_4, i4_5, i4_6⟩⟩⟩ := hQ4
  have N4 := Fr.app N0 N4q
  have yli_ : h0.size ≤ yeu_ := Nat.le_trans (Nat.le_refl h0.size) i4_0
  have yrg_ : n0 ≤ yeu_ := Nat.le_trans Z0 yli_
  obtain ⟨fs, hr, hrun, hended, hW, hsame⟩ := X4.leave (v := some (.ref a1)) (fun h => by rw [Bd.returns] at h; cases h)
  refine ⟨_, _, castTop (ef_12 m a1 a2) ?_, hrun, hended, _, _, rfl, ?_, ⟨_, rfl⟩, hW, hsame.mono (by decide) (by decide)⟩
  · show Steps p.tables e below (s₁.setTop (mkF m 0 #[vA a1, vA a2] [])) _
    refine XS.aloadN X0.here hx rfl (hb hby d12_0) rfl rfl ?_
    refine st3 _ ?_
    refine XS.aloadN X3.here hx rfl (hb hby d12_4) rfl rfl ?_
    refine st4.trans ?_
    refine XS.pop X4.here hx rfl (hb hby d12_8) rfl rfl ?_
    refine XS.aloadN X4.here hx rfl (hb hby d12_9) rfl rfl ?_
    show Steps p.tables e below (T4.setTop (mkF m 10 #[vA a1, vA a2] [(.ref a1)])) _
    jvm_step X4.here [X4.here.top, hx, (hb hby d12_10), X4.method', Bd.returns, Value.isRef, FieldType.isReference]
    first | (intro acts; rw [hr _ acts rfl rfl rfl]) | rw [hr _ _ rfl rfl rfl]
    exact Steps.refl _
  · show yow_ Z a1 a2 ys_ yw_ yz_ ya_ yak_ yad_ yai_ yab_ h0 n0 _ T4.heap _
    exact ⟨yeu_, ⟨ykr_, ⟨rfl, N4, ((Keep.refl h0 [ys_]).trans K4 (fun x q => (List.mem_cons.mp q).elim (fun r => by subst r; exact (Or.inl (List.mem_of_getElem? (i := 0) rfl))) (fun q => nomatch q))), yli_, i4_1, i4_2, i4_3, i4_4, i4_5, i4_6⟩⟩⟩
def yox_ (Z : State) (a1 : Addr) (ybn_ : Addr) (yap_ : Addr) (ys_ : Addr) (yw_ : Addr) (yaw_ : Addr) (ya_ : Int32) (ybb_ : ClassId) (yav_ : List Value) (yai_ : ClassId) (yab_ : List Value) (h0 : Heap) (n0 : Nat) (v : Option Value) (h : Heap) (L : List Loc) : Prop := ∃ yea_ : Addr, ∃ yjg_ : ClassId, v = some (.ref a1) ∧ Fr n0 L ∧ Keep h0 h [ys_] ∧ h0.size ≤ yea_ ∧ Exa Z h ys_ "java/lang/StringBuilder" ∧ Fld Z h ys_ "java/lang/AbstractStringBuilder" "coder" "B" (.int (0 : Int32)) ∧ Fld Z h ys_ "java/lang/AbstractStringBuilder" "count" "I" (.int (17 : Int32)) ∧ Fld Z h ys_ "java/lang/AbstractStringBuilder" "value" "[B" (.ref yea_) ∧ Exa Z h yea_ "[B" ∧ Arv Z h yea_ yjg_ .byte (34 : Int32) (own_cp yav_ (own_cp yab_ (List.replicate 34 (Value.int (0 : Int32))) (.int (0 : Int32)) (0 : Int32) (0 : Int32) (16 : Int32)) (.int (0 : Int32)) (0 : Int32) ((2 : Int32) <<< ((0 : Int32) &&& 31)) (15 : Int32)) (.int (0 : Int32))
set_option maxRecDepth 65536 in
set_option maxHeartbeats 40000000 in
theorem rm21_g (l : Launch) (Z : State) (a0 : Array Value) (hw : ∀ d ∈ tables_1, d.before a0 Z = true) (ws : List Jvm.Cond) (a1 : Addr) (ybn_ : Addr) (yap_ : Addr) (ys_ : Addr) (yw_ : Addr) (yaw_ : Addr) (ya_ : Int32) (ybb_ : ClassId) (yav_ : List Value) (yai_ : ClassId) (yab_ : List Value) (h0 : Heap) (n0 : Nat) (Z0 : n0 ≤ h0.size) (hcs : ¬ (ya_ = (0 : Int32))) (ygt_ : Fld Z h0 a1 "underdeck/deck/SqlText" "dialect" "Lunderdeck/deck/Dialect;" (.ref ybn_)) (yec_ : Fld Z h0 ybn_ "underdeck/deck/Dialect" "defaultsOnly" "Ljava/lang/String;" (.ref yap_)) (yiq_ : Exa Z h0 ybn_ "underdeck/deck/Dialect") (yda_ : Fld Z h0 a1 "underdeck/deck/SqlText" "current" "Ljava/lang/StringBuilder;" (.ref ys_)) (ybv_ : Fld Z h0 ys_ "java/lang/AbstractStringBuilder" "value" "[B" (.ref yw_)) (ydn_ : Fld Z h0 yap_ "java/lang/String" "value" "[B" (.ref yaw_)) (yf_ : Sta Z h0 "java/lang/String" "COMPACT_STRINGS" "Z" (.int ya_)) (ybx_ : Fld Z h0 ys_ "java/lang/AbstractStringBuilder" "coder" "B" (.int (0 : Int32))) (ydo_ : Fld Z h0 yap_ "java/lang/String" "coder" "B" (.int (0 : Int32))) (ydx_ : Exa Z h0 yap_ "java/lang/String") (ybw_ : Fld Z h0 ys_ "java/lang/AbstractStringBuilder" "count" "I" (.int (2 : Int32))) (yca_ : Exa Z h0 ys_ "java/lang/StringBuilder") (ydz_ : n0 ≤ ys_) (E_a1 : Exa Z h0 a1 "underdeck/deck/SqlText") (ydg_ : Arv Z h0 yaw_ ybb_ .byte (15 : Int32) yav_ (.int (0 : Int32))) (ybr_ : Arv Z h0 yw_ yai_ .byte (16 : Int32) yab_ (.int (0 : Int32))) (yff_ : yap_ ≠ ys_) (yei_ : yaw_ ≠ ys_) :
    MetFree l mN50 (head1 (Jvm.Cond.code mN50 prog_41_method_14_code 1 (some (.object "underdeck/deck/SqlText")) :: ws) ({ frames := 7, cells := 1, slots := 34, locals := 102 } : Room)) (fun a U => a = #[(.ref a1)] ∧ Z.Warmed39 U.vm ∧ U.heap = h0) (fun _ _ _ _ _ => True) (fun _ U o U' => ∃ v L, o = .returned v ∧ yox_ Z a1 ybn_ yap_ ys_ yw_ yaw_ ya_ ybb_ yav_ yai_ yab_ h0 n0 v U'.heap L ∧ FrameEnd U o U' L ({ frames := 7, cells := 1, slots := 34, locals := 102 } : Room).cells ({ frames := 7, cells := 1, slots := 34, locals := 102 } : Room).slots) := by
  have hi : ∀ (i : Nat) {d : Jvm.Cond}, tables_1[i]? = some d → d.before a0 Z = true := fun i d h => hw d (List.mem_of_getElem? h)
  refine MetFree.of_bodySF (plainFor_of_name pn_21) hisR ?_
  intro p e s m args below meth c s₁ Bd hml0 hP hK
  obtain ⟨rfl, hZ, hh⟩ := hP
  have hx := Bd.exec
  have hby := Bd.bytes
  have hml : c.maxLocals = 1 := hml0
  have hown : s.vm.findClass "underdeck/deck/SqlText" = some m.cls := findClass_of_methodNamed Bd.named
  have hnm := (name_of_methodNamed Bd.named Bd.method).1
  have X0 : Stand p l e ({ frames := 7, cells := 1, slots := 34, locals := 102 } : Room) s m #[(.ref a1)] below meth c s₁ [] 0 0 := Stand.of_body Bd
  have e0 : s₁.heap = h0 := by rw [← hh, Bd.state]; rfl
  have N0 := Fr.nil n0
  obtain ⟨T2, X2, e2, st2⟩ := getF X0 hx hZ hown (host := "") (Or.inl (hi 112 rfl)) Via.refl e0 ygt_ (g := (mkF m 2 #[vA a1] [(.ref a1), (.ref a1)])) rfl rfl (hb hby d21_2)
  obtain ⟨cq3, kq3, q3a, q3b, q3c⟩ := isOf hZ e2 yiq_
  obtain ⟨_, _, ⟨T3, L3, k3, n3⟩, -, X3, ⟨Lc3, hQ3, l3, y3, z3⟩, st3⟩ := X2.virtualBack hx (y := mN48) (z := mN48) hown (mvT hZ (hi 174 rfl)) (mvT hZ (hi 175 rfl)) (notFace_of_selects (args := #[]) (mvT hZ (hi 177 rfl))) (mvT hZ (hi 177 rfl)) (mvT hZ (hi 176 rfl)) (by decide) (backOf (W := 1) (rm22 l Z a0 hw [] ybn_ yap_ h0 n0 Z0 yec_) hZ (hi 178 rfl) (hi 1 rfl) (by decide) (by decide)) q3a q3c (g := (mkF m 5 #[vA a1] [(.ref ybn_), (.ref a1)])) rfl (by rw [hml]; rfl) (Steps.refl _) (argsL := []) (rest := [(.ref a1)]) (lenOf ybh_ rfl) rfl (by show 2 * 0 + _ ≤ _; exact Nat.le_of_eq rfl) (hb hby d21_5) (fun _ _ => ⟨rfl, e2, (by decide : 0 + 0 ≤ _), (by decide : 0 + 0 ≤ _)⟩)
  dsimp only [Pt.U, Pt.locs, Pt.cells, Pt.slots] at X3 l3 y3 z3 st3 hQ3
  subst l3 y3 z3
  obtain ⟨rfl, N3q, e3⟩ := hQ3
  have N3 := Fr.app N0 N3q
  obtain ⟨cq4, kq4, q4a, q4b, q4c⟩ := isOf hZ e3 E_a1
  obtain ⟨_, _, ⟨T4, L4, k4, n4⟩, -, X4, ⟨Lc4, hQ4, l4, y4, z4⟩, st4⟩ := X3.virtualBack hx (y := mN52) (z := mN52) hown (mvT hZ (hi 181 rfl)) (mvT hZ (hi 115 rfl)) (notFace_of_selects (args := #[]) (mvT hZ (hi 117 rfl))) (mvT hZ (hi 117 rfl)) (mvT hZ (hi 116 rfl)) (by decide) (backOf (W := 0) (rm12_g l Z a0 hw [] a1 yap_ ys_ yw_ yaw_ ya_ ybb_ yav_ yai_ yab_ h0 n0 Z0 hcs yda_ ybv_ ydn_ yf_ ybx_ ydo_ ydx_ ybw_ yca_ ydz_ ydg_ ybr_ yff_ yei_) hZ (hi 118 rfl) (hi 16 rfl) (by decide) (by decide)) q4a q4c (g := (mkF m 8 #[vA a1] [(.ref yap_), (.ref a1)])) rfl (by rw [hml]; rfl) (Steps.refl _) (argsL := [(.ref yap_)]) (rest := []) (lenOf yat_ rfl) rfl (by show 2 * 0 + _ ≤ _; exact Nat.le_of_eq rfl) (hb hby d21_8) (fun _ _ => ⟨rfl, e3, (by decide : 0 + 1 ≤ _), (by decide : 0 + 34 ≤ _)⟩)
  dsimp only [Pt.U, Pt.locs, Pt.cells, Pt.slots] at X4 l4 y4 z4 st4 hQ4
  subst l4 y4 z4
  obtain ⟨yea_, ⟨yjg_, ⟨rfl, N4q, K4, i4_0, i4_1, i4_2, i4_3, i4_4, i4_5, i4_6⟩⟩⟩ := hQ4
  have N4 := Fr.app N3 N4q
  have yjv_ : h0.size ≤ yea_ := Nat.le_trans (Nat.le_refl h0.size) i4_0
  have yre_ : n0 ≤ yea_ := Nat.le_trans Z0 yjv_
  obtain ⟨fs, hr, hrun, hended, hW, hsame⟩ := X4.leave (v := some (.ref a1)) (fun h => by rw [Bd.returns] at h; cases h)
  refine ⟨_, _, castTop (ef_21 m a1) ?_, hrun, hended, _, _, rfl, ?_, ⟨_, rfl⟩, hW, hsame.mono (by decide) (by decide)⟩
  · show Steps p.tables e below (s₁.setTop (mkF m 0 #[vA a1] [])) _
    refine XS.aloadN X0.here hx rfl (hb hby d21_0) rfl rfl ?_
    refine XS.aloadN X0.here hx rfl (hb hby d21_1) rfl rfl ?_
    refine st2 _ ?_
    refine st3.trans ?_
    refine st4.trans ?_
    show Steps p.tables e below (T4.setTop (mkF m 11 #[vA a1] [(.ref a1)])) _
    jvm_step X4.here [X4.here.top, hx, (hb hby d21_11), X4.method', Bd.returns, Value.isRef, FieldType.isReference]
    first | (intro acts; rw [hr _ acts rfl rfl rfl]) | rw [hr _ _ rfl rfl rfl]
    exact Steps.refl _
  · show yox_ Z a1 ybn_ yap_ ys_ yw_ yaw_ ya_ ybb_ yav_ yai_ yab_ h0 n0 _ T4.heap _
    exact ⟨yea_, ⟨yjg_, ⟨rfl, N4, ((Keep.refl h0 [ys_]).trans K4 (fun x q => (List.mem_cons.mp q).elim (fun r => by subst r; exact (Or.inl (List.mem_of_getElem? (i := 0) rfl))) (fun q => nomatch q))), yjv_, i4_1, i4_2, i4_3, i4_4, i4_5, i4_6⟩⟩⟩
theorem d34_0 : decode jdk_65_method_131_code 0 = .ok (.iload_n 1, 1) := by decide +kernel
theorem d34_1 : decode jdk_65_method_131_code 1 = .ok (.iload_n 0, 1) := by decide +kernel
theorem d34_2 : decode jdk_65_method_131_code 2 = .ok (.if_icmp .ge 35, 3) := by decide +kernel
theorem d34_37 : decode jdk_65_method_131_code 37 = .ok (.return_, 1) := by decide +kernel
theorem pn_34 : plainName "java/util/Arrays" = true := by first | (simp [plainName, overriddenIn]; done) | decide +kernel
theorem ef_34 (m : MethodId) (x0 : Int32) (x1 : Int32) : entryFrame m #[(.int x0), (.int x1)] 2 = mkF m 0 #[.val (.int x0), .val (.int x1)] [] := by first | (simp [entryFrame, mkF, argsToLocals, Value.category]; done) | rfl
def Q_rm34 (Z : State) (p1 : Int32) (p2 : Int32) (h0 : Heap) (n0 : Nat) (v : Option Value) (h : Heap) (L : List Loc) : Prop := v = none ∧ Fr n0 L ∧ h = h0
set_option maxRecDepth 65536 in
set_option maxHeartbeats 40000000 in
theorem rm34 (l : Launch) (Z : State) (a0 : Array Value) (hw : ∀ d ∈ tables_1, d.before a0 Z = true) (ws : List Jvm.Cond) (p1 : Int32) (p2 : Int32) (h0 : Heap) (n0 : Nat) (Z0 : n0 ≤ h0.size) (hc2 : ¬ (p2 < p1)) :
    MetFree l mN39 (head1 (Jvm.Cond.code mN39 jdk_65_method_131_code 2 none :: ws) ({ frames := 0, cells := 0, slots := 0, locals := 0 } : Room)) (fun a U => a = #[(.int p1), (.int p2)] ∧ Z.Warmed39 U.vm ∧ U.heap = h0) (fun _ _ _ _ _ => True) (fun _ U o U' => ∃ v L, o = .returned v ∧ Q_rm34 Z p1 p2 h0 n0 v U'.heap L ∧ FrameEnd U o U' L ({ frames := 0, cells := 0, slots := 0, locals := 0 } : Room).cells ({ frames := 0, cells := 0, slots := 0, locals := 0 } : Room).slots) := by
  have hi : ∀ (i : Nat) {d : Jvm.Cond}, tables_1[i]? = some d → d.before a0 Z = true := fun i d h => hw d (List.mem_of_getElem? h)
  refine MetFree.of_bodySF (plainFor_of_name pn_34) hisR ?_
  intro p e s m args below meth c s₁ Bd hml0 hP hK
  obtain ⟨rfl, hZ, hh⟩ := hP
  have hx := Bd.exec
  have hby := Bd.bytes
  have hml : c.maxLocals = 2 := hml0
  have hown : s.vm.findClass "java/util/Arrays" = some m.cls := findClass_of_methodNamed Bd.named
  have hnm := (name_of_methodNamed Bd.named Bd.method).1
  have X0 : Stand p l e ({ frames := 0, cells := 0, slots := 0, locals := 0 } : Room) s m #[(.int p1), (.int p2)] below meth c s₁ [] 0 0 := Stand.of_body Bd
  have e0 : s₁.heap = h0 := by rw [← hh, Bd.state]; rfl
  have N0 := Fr.nil n0
  obtain ⟨fs, hr, hrun, hended, hW, hsame⟩ := X0.leave (v := none) (fun _ => rfl)
  refine ⟨_, _, castTop (ef_34 m p1 p2) ?_, hrun, hended, _, _, rfl, ?_, ⟨_, rfl⟩, hW, hsame.mono (by decide) (by decide)⟩
  · show Steps p.tables e below (s₁.setTop (mkF m 0 #[vI p1, vI p2] [])) _
    refine XS.iloadN X0.here hx rfl (hb hby d34_0) rfl ?_
    refine XS.iloadN X0.here hx rfl (hb hby d34_1) rfl ?_
    refine XS.icmpYes X0.here hx rfl (pc0 := 2) (pc' := 37) rfl (hb hby d34_2) rfl (flt hc2).2.1 (by decide) (by decide) ?_
    show Steps p.tables e below (s₁.setTop (mkF m 37 #[vI p1, vI p2] [])) _
    exact X0.returnOut hx Bd.returns (hb hby d34_37) hr
  · show Q_rm34 Z p1 p2 h0 n0 _ s₁.heap _
    exact ⟨rfl, N0, e0⟩
theorem d35_9 : decode jdk_29_method_69_code 9 = .ok (.iload_n 1, 1) := by decide +kernel
def Q_rm35 (Z : State) (p1 : Int32) (p2 : Int32) (h0 : Heap) (n0 : Nat) (v : Option Value) (h : Heap) (L : List Loc) : Prop := v = some (.int p2) ∧ Fr n0 L ∧ h = h0
set_option maxRecDepth 65536 in
set_option maxHeartbeats 40000000 in
theorem rm35 (l : Launch) (Z : State) (a0 : Array Value) (hw : ∀ d ∈ tables_1, d.before a0 Z = true) (ws : List Jvm.Cond) (p1 : Int32) (p2 : Int32) (h0 : Heap) (n0 : Nat) (Z0 : n0 ≤ h0.size) (hc2 : p2 < p1) :
    MetFree l mN10 (head1 (Jvm.Cond.code mN10 jdk_29_method_69_code 2 (some .int) :: ws) ({ frames := 0, cells := 0, slots := 0, locals := 0 } : Room)) (fun a U => a = #[(.int p1), (.int p2)] ∧ Z.Warmed39 U.vm ∧ U.heap = h0) (fun _ _ _ _ _ => True) (fun _ U o U' => ∃ v L, o = .returned v ∧ Q_rm35 Z p1 p2 h0 n0 v U'.heap L ∧ FrameEnd U o U' L ({ frames := 0, cells := 0, slots := 0, locals := 0 } : Room).cells ({ frames := 0, cells := 0, slots := 0, locals := 0 } : Room).slots) := by
  have hi : ∀ (i : Nat) {d : Jvm.Cond}, tables_1[i]? = some d → d.before a0 Z = true := fun i d h => hw d (List.mem_of_getElem? h)
  refine MetFree.of_bodySF (Jvm.Free.JP.mathPlain rfl (by decide +kernel)) hisR ?_
  intro p e s m args below meth c s₁ Bd hml0 hP hK
  obtain ⟨rfl, hZ, hh⟩ := hP
  have hx := Bd.exec
  have hby := Bd.bytes
  have hml : c.maxLocals = 2 := hml0
  have hown : s.vm.findClass "java/lang/Math" = some m.cls := findClass_of_methodNamed Bd.named
  have hnm := (name_of_methodNamed Bd.named Bd.method).1
  have X0 : Stand p l e ({ frames := 0, cells := 0, slots := 0, locals := 0 } : Room) s m #[(.int p1), (.int p2)] below meth c s₁ [] 0 0 := Stand.of_body Bd
  have e0 : s₁.heap = h0 := by rw [← hh, Bd.state]; rfl
  have N0 := Fr.nil n0
  obtain ⟨fs, hr, hrun, hended, hW, hsame⟩ := X0.leave (v := some (.int p2)) (fun h => by rw [Bd.returns] at h; cases h)
  refine ⟨_, _, castTop (ef_35 m p1 p2) ?_, hrun, hended, _, _, rfl, ?_, ⟨_, rfl⟩, hW, hsame.mono (by decide) (by decide)⟩
  · show Steps p.tables e below (s₁.setTop (mkF m 0 #[vI p1, vI p2] [])) _
    refine XS.iloadN X0.here hx rfl (hb hby d35_0) rfl ?_
    refine XS.iloadN X0.here hx rfl (hb hby d35_1) rfl ?_
    refine XS.icmpYes X0.here hx rfl (pc0 := 2) (pc' := 9) rfl (hb hby d35_2) rfl (tlt hc2).2.2.1 (by decide) (by decide) ?_
    refine XS.iloadN X0.here hx rfl (hb hby d35_9) rfl ?_
    show Steps p.tables e below (s₁.setTop (mkF m 10 #[vI p1, vI p2] [(.int p2)])) _
    exact retI X0 hx Bd.returns (hb hby d35_10) hr
  · show Q_rm35 Z p1 p2 h0 n0 _ s₁.heap _
    exact ⟨rfl, N0, e0⟩
theorem d33_0 : decode jdk_65_method_133_code 0 = .ok (.iload_n 1, 1) := by decide +kernel
theorem d33_1 : decode jdk_65_method_133_code 1 = .ok (.iload_n 2, 1) := by decide +kernel
theorem d33_2 : decode jdk_65_method_133_code 2 = .ok (.invokestatic 343, 3) := by decide +kernel
theorem d33_5 : decode jdk_65_method_133_code 5 = .ok (.iload_n 2, 1) := by decide +kernel
theorem d33_6 : decode jdk_65_method_133_code 6 = .ok (.iload_n 1, 1) := by decide +kernel
theorem d33_7 : decode jdk_65_method_133_code 7 = .ok (.isub, 1) := by decide +kernel
theorem d33_8 : decode jdk_65_method_133_code 8 = .ok (.istore_n 3, 1) := by decide +kernel
theorem d33_9 : decode jdk_65_method_133_code 9 = .ok (.iload_n 3, 1) := by decide +kernel
theorem d33_10 : decode jdk_65_method_133_code 10 = .ok (.newarray .byte, 2) := by decide +kernel
theorem d33_12 : decode jdk_65_method_133_code 12 = .ok (.astore 4, 2) := by decide +kernel
theorem d33_14 : decode jdk_65_method_133_code 14 = .ok (.aload_n 0, 1) := by decide +kernel
theorem d33_15 : decode jdk_65_method_133_code 15 = .ok (.iload_n 1, 1) := by decide +kernel
theorem d33_16 : decode jdk_65_method_133_code 16 = .ok (.aload 4, 2) := by decide +kernel
theorem d33_18 : decode jdk_65_method_133_code 18 = .ok (.iconst 0, 1) := by decide +kernel
theorem d33_19 : decode jdk_65_method_133_code 19 = .ok (.aload_n 0, 1) := by decide +kernel
theorem d33_20 : decode jdk_65_method_133_code 20 = .ok (.arraylength, 1) := by decide +kernel
theorem d33_21 : decode jdk_65_method_133_code 21 = .ok (.iload_n 1, 1) := by decide +kernel
theorem d33_22 : decode jdk_65_method_133_code 22 = .ok (.isub, 1) := by decide +kernel
theorem d33_23 : decode jdk_65_method_133_code 23 = .ok (.iload_n 3, 1) := by decide +kernel
theorem d33_24 : decode jdk_65_method_133_code 24 = .ok (.invokestatic 304, 3) := by decide +kernel
theorem d33_27 : decode jdk_65_method_133_code 27 = .ok (.invokestatic 150, 3) := by decide +kernel
theorem d33_30 : decode jdk_65_method_133_code 30 = .ok (.aload 4, 2) := by decide +kernel
theorem d33_32 : decode jdk_65_method_133_code 32 = .ok (.areturn, 1) := by decide +kernel
theorem pn_33 : plainName "java/util/Arrays" = true := by first | (simp [plainName, overriddenIn]; done) | decide +kernel
theorem ef_33 (m : MethodId) (x0 : Addr) (x1 : Int32) (x2 : Int32) : entryFrame m #[(.ref x0), (.int x1), (.int x2)] 5 = mkF m 0 #[.val (.ref x0), .val (.int x1), .val (.int x2), .unset, .unset] [] := by first | (simp [entryFrame, mkF, argsToLocals, Value.category]; done) | rfl
def Q_rm33 (Z : State) (a1 : Addr) (p2 : Int32) (k_a1 : ClassId) (z_a1 : Int32) (vs_a1 : List Value) (h0 : Heap) (n0 : Nat) (v : Option Value) (h : Heap) (L : List Loc) : Prop := ∃ b4 : Addr, ∃ k4 : ClassId, v = some (.ref b4) ∧ Fr n0 L ∧ Keep h0 h [] ∧ h0.size ≤ b4 ∧ Exa Z h b4 "[B" ∧ Arv Z h b4 k4 .byte (p2 - (0 : Int32)) (own_cp vs_a1 (List.replicate ((p2 - (0 : Int32))).toNatClampNeg (Value.int (0 : Int32))) (.int (0 : Int32)) (0 : Int32) (0 : Int32) (p2 - (0 : Int32))) (.int (0 : Int32))
set_option maxRecDepth 65536 in
set_option maxHeartbeats 40000000 in
theorem rm33 (l : Launch) (Z : State) (a0 : Array Value) (hw : ∀ d ∈ tables_1, d.before a0 Z = true) (ws : List Jvm.Cond) (a1 : Addr) (p2 : Int32) (k_a1 : ClassId) (z_a1 : Int32) (vs_a1 : List Value) (h0 : Heap) (n0 : Nat) (Z0 : n0 ≤ h0.size) (V_a1 : Arv Z h0 a1 k_a1 .byte z_a1 vs_a1 (.int (0 : Int32))) (hhc2_2 : ¬ (p2 < (0 : Int32))) (hm10_1 : ¬ (p2 - (0 : Int32)) < 0) (hm10_2 : ((p2 - (0 : Int32))).toNatClampNeg ≤ 17) (hhc2_24 : (p2 - (0 : Int32)) < (z_a1 - (0 : Int32))) (hb27_3 : ¬ (p2 - (0 : Int32)) < 0) (hb27_4 : ((0 : Int32)).toNatClampNeg + ((p2 - (0 : Int32))).toNatClampNeg ≤ (z_a1).toNatClampNeg) (hb27_5 : ((0 : Int32)).toNatClampNeg + ((p2 - (0 : Int32))).toNatClampNeg ≤ ((p2 - (0 : Int32))).toNatClampNeg) (hl27 : ((0 : Int32)).toNatClampNeg + ((p2 - (0 : Int32))).toNatClampNeg ≤ ((List.replicate ((p2 - (0 : Int32))).toNatClampNeg (Value.int (0 : Int32)))).length) :
    MetFree l mN42 (head1 (Jvm.Cond.code mN42 jdk_65_method_133_code 5 (some (.array .byte)) :: ws) ({ frames := 1, cells := 1, slots := 17, locals := 18 } : Room)) (fun a U => a = #[(.ref a1), (.int (0 : Int32)), (.int p2)] ∧ Z.Warmed39 U.vm ∧ U.heap = h0) (fun _ _ _ _ _ => True) (fun _ U o U' => ∃ v L, o = .returned v ∧ Q_rm33 Z a1 p2 k_a1 z_a1 vs_a1 h0 n0 v U'.heap L ∧ FrameEnd U o U' L ({ frames := 1, cells := 1, slots := 17, locals := 18 } : Room).cells ({ frames := 1, cells := 1, slots := 17, locals := 18 } : Room).slots) := by
  have hi : ∀ (i : Nat) {d : Jvm.Cond}, tables_1[i]? = some d → d.before a0 Z = true := fun i d h => hw d (List.mem_of_getElem? h)
  refine MetFree.of_bodySF (plainFor_of_name pn_33) hisR ?_
  intro p e s m args below meth c s₁ Bd hml0 hP hK
  obtain ⟨rfl, hZ, hh⟩ := hP
  have hx := Bd.exec
  have hby := Bd.bytes
  have hml : c.maxLocals = 5 := hml0
  have hown : s.vm.findClass "java/util/Arrays" = some m.cls := findClass_of_methodNamed Bd.named
  have hnm := (name_of_methodNamed Bd.named Bd.method).1
  have X0 : Stand p l e ({ frames := 1, cells := 1, slots := 17, locals := 18 } : Room) s m #[(.ref a1), (.int (0 : Int32)), (.int p2)] below meth c s₁ [] 0 0 := Stand.of_body Bd
  have e0 : s₁.heap = h0 := by rw [← hh, Bd.state]; rfl
  have N0 := Fr.nil n0
  obtain ⟨_, _, ⟨T3, L3, k3, n3⟩, -, X3, ⟨Lc3, hQ3, l3, y3, z3⟩, st3⟩ := Jvm.LawKit.callS X0 hx (y := mN39) hown (mvT hZ (hi 237 rfl)) (mvT hZ (hi 238 rfl)) (mvT hZ (hi 232 rfl)) (mvT hZ (hi 239 rfl)) (by decide) (backOf (W := 0) (rm34 l Z a0 hw [] (0 : Int32) p2 h0 n0 Z0 hhc2_2) hZ (hi 239 rfl) (hi 232 rfl) (by decide) (by decide)) (g := (mkF m 2 #[vA a1, vI (0 : Int32), vI p2, vU, vU] [(.int p2), (.int (0 : Int32))])) rfl (by rw [hml]; rfl) (argsL := [(.int (0 : Int32)), (.int p2)]) (rest := []) (lenOf ylr_ rfl) rfl (by show 2 * 0 + _ ≤ _; exact Nat.le_of_eq rfl) (hb hby d33_2) (fun _ _ => ⟨rfl, e0, (by decide : 0 + 0 ≤ _), (by decide : 0 + 0 ≤ _)⟩)
  dsimp only [Pt.U, Pt.locs, Pt.cells, Pt.slots] at X3 l3 y3 z3 st3 hQ3
  subst l3 y3 z3
  obtain ⟨rfl, N3q, e3⟩ := hQ3
  have N3 := Fr.app N0 N3q
  obtain ⟨T4, h4, k4, X4, e4, E4, A4, iE4, st4⟩ := newPE X3 hx hZ (hi 6 rfl) e3 (g := (mkF m 10 #[vA a1, vI (0 : Int32), vI p2, vI (p2 - (0 : Int32)), vU] [(.int (p2 - (0 : Int32)))])) rfl (hb hby d33_10) rfl hm10_1 (cap := 17) hm10_2 (by decide) (by decide) (by decide) (ad := "[B") rfl
  obtain ⟨b4, g4⟩ : ∃ z, z = h0.size := ⟨_, rfl⟩
  rw [← g4] at A4 iE4 st4
  have g_b4 : n0 ≤ b4 := Nat.le_trans Z0 (Nat.le_of_eq g4.symm)
  have sz_b4 : h0.size ≤ b4 := Nat.le_trans (Nat.le_refl h0.size) (Nat.le_of_eq g4.symm)
  have V_b4 : Arv Z h4 b4 k4 .byte (p2 - (0 : Int32)) (List.replicate ((p2 - (0 : Int32))).toNatClampNeg (.int (0 : Int32))) (.int (0 : Int32)) := (Arv.new A4 hm10_1).pad (pad_rep [] (.int (0 : Int32)) ((p2 - (0 : Int32))).toNatClampNeg)
  have f0 := (V_a1.ext E4)
  obtain ⟨cl_a1_1, Ar_a1_1, q_a1_1, Sz_a1_1, Ng_a1_1, Ha_a1_1, Gt_a1_1⟩ := id f0
  obtain ⟨_, _, ⟨T5, L5, k5, n5⟩, -, X5, ⟨Lc5, hQ5, l5, y5, z5⟩, st5⟩ := Jvm.LawKit.callS X4 hx (y := mN10) hown (mvT hZ (hi 240 rfl)) (mvT hZ (hi 241 rfl)) (mvT hZ (hi 242 rfl)) (mvT hZ (hi 243 rfl)) (by decide) (backOf (W := 4) (rm35 l Z a0 hw [] (z_a1 - (0 : Int32)) (p2 - (0 : Int32)) h4 n0 (Nat.le_trans Z0 E4.1) hhc2_24) hZ (hi 243 rfl) (hi 242 rfl) (by decide) (by decide)) (g := (mkF m 24 #[vA a1, vI (0 : Int32), vI p2, vI (p2 - (0 : Int32)), vA b4] [(.int (p2 - (0 : Int32))), (.int (z_a1 - (0 : Int32))), (.int (0 : Int32)), (.ref b4), (.int (0 : Int32)), (.ref a1)])) rfl (by rw [hml]; rfl) (argsL := [(.int (z_a1 - (0 : Int32))), (.int (p2 - (0 : Int32)))]) (rest := [(.int (0 : Int32)), (.ref b4), (.int (0 : Int32)), (.ref a1)]) (lenOf yjf_ rfl) rfl (by show 2 * 0 + _ ≤ _; exact Nat.le_of_eq rfl) (hb hby d33_24) (fun _ _ => ⟨rfl, e4, (by decide : 1 + 0 ≤ _), (by decide : 17 + 0 ≤ _)⟩)
  dsimp only [Pt.U, Pt.locs, Pt.cells, Pt.slots] at X5 l5 y5 z5 st5 hQ5
  subst l5 y5 z5
  obtain ⟨rfl, N5q, e5⟩ := hQ5
  have N5 := Fr.app N3 N5q
  obtain ⟨T6, h6, L6, X6, e6, N6, K6, V6, st6⟩ := cpA X5 hx hZ hown (hi 244 rfl) (hi 168 rfl) (hi 166 rfl) (hi 167 rfl) e5 f0 V_b4 (Or.inl ⟨rfl, rfl⟩) (sp := (0 : Int32)) (dp := (0 : Int32)) (nn := (p2 - (0 : Int32))) (by decide) (by decide) hb27_3 hb27_4 hb27_5 rfl hl27 N5 g_b4 (g := (mkF m 27 #[vA a1, vI (0 : Int32), vI p2, vI (p2 - (0 : Int32)), vA b4] [(.int (p2 - (0 : Int32))), (.int (0 : Int32)), (.ref b4), (.int (0 : Int32)), (.ref a1)])) rfl (by rw [hml]; rfl) (rest := []) rfl (hb hby d33_27) (by decide) (W := 0) (by show 2 * 0 + _ ≤ _; exact Nat.le_of_eq rfl) (by decide)
  have U6 : Arv Z h6 b4 k4 .byte (p2 - (0 : Int32)) (own_cp vs_a1 (List.replicate ((p2 - (0 : Int32))).toNatClampNeg (Value.int (0 : Int32))) (.int (0 : Int32)) (0 : Int32) (0 : Int32) (p2 - (0 : Int32))) (.int (0 : Int32)) := V6
  have f2 := (iE4.keep K6)
  obtain ⟨fs, hr, hrun, hended, hW, hsame⟩ := X6.leave (v := some (.ref b4)) (fun h => by rw [Bd.returns] at h; cases h)
  refine ⟨_, _, castTop (ef_33 m a1 (0 : Int32) p2) ?_, hrun, hended, _, _, rfl, ?_, ⟨_, rfl⟩, hW, hsame.mono (by decide) (by decide)⟩
  · show Steps p.tables e below (s₁.setTop (mkF m 0 #[vA a1, vI (0 : Int32), vI p2, vU, vU] [])) _
    refine XS.iloadN X0.here hx rfl (hb hby d33_0) rfl ?_
    refine XS.iloadN X0.here hx rfl (hb hby d33_1) rfl ?_
    refine st3 _ ?_
    refine XS.iloadN X3.here hx rfl (hb hby d33_5) rfl ?_
    refine XS.iloadN X3.here hx rfl (hb hby d33_6) rfl ?_
    refine XS.isub X3.here hx rfl (hb hby d33_7) rfl ?_
    refine XS.istoreN X3.here hx rfl (hb hby d33_8) rfl (l' := #[vA a1, vI (0 : Int32), vI p2, vI (p2 - (0 : Int32)), vU]) rfl ?_
    refine XS.iloadN X3.here hx rfl (hb hby d33_9) rfl ?_
    refine st4 _ ?_
    refine XS.astore X4.here hx rfl (hb hby d33_12) rfl rfl (l' := #[vA a1, vI (0 : Int32), vI p2, vI (p2 - (0 : Int32)), vA b4]) rfl ?_
    refine XS.aloadN X4.here hx rfl (hb hby d33_14) rfl rfl ?_
    refine XS.iloadN X4.here hx rfl (hb hby d33_15) rfl ?_
    refine XS.aload X4.here hx rfl (hb hby d33_16) rfl rfl ?_
    refine XS.iconst X4.here hx rfl (hb hby d33_18) ?_
    refine XS.aloadN X4.here hx rfl (hb hby d33_19) rfl rfl ?_
    refine X4.arraylength hx (by rw [e4]; exact Ar_a1_1.1) (State.isArrayOf_alike hZ.alike Ar_a1_1.2.1) (g := (mkF m 20 #[vA a1, vI (0 : Int32), vI p2, vI (p2 - (0 : Int32)), vA b4] [(.ref a1), (.int (0 : Int32)), (.ref b4), (.int (0 : Int32)), (.ref a1)])) rfl rfl (hb hby d33_20) _ ?_
    rw [len_of Sz_a1_1 Ng_a1_1]
    refine XS.iloadN X4.here hx rfl (hb hby d33_21) rfl ?_
    refine XS.isub X4.here hx rfl (hb hby d33_22) rfl ?_
    refine XS.iloadN X4.here hx rfl (hb hby d33_23) rfl ?_
    refine st5 _ ?_
    refine st6 _ ?_
    refine XS.aload X6.here hx rfl (hb hby d33_30) rfl rfl ?_
    show Steps p.tables e below (T6.setTop (mkF m 32 #[vA a1, vI (0 : Int32), vI p2, vI (p2 - (0 : Int32)), vA b4] [(.ref b4)])) _
    jvm_step X6.here [X6.here.top, hx, (hb hby d33_32), X6.method', Bd.returns, Value.isRef, FieldType.isReference]
    first | (intro acts; rw [hr _ acts rfl rfl rfl]) | rw [hr _ _ rfl rfl rfl]
    exact Steps.refl _
  · show Q_rm33 Z a1 p2 k_a1 z_a1 vs_a1 h0 n0 _ T6.heap _
    rw [e6]
    exact ⟨b4, ⟨k4, ⟨rfl, N6, (((Keep.refl h0 []).ext E4).trans K6 (fun x q => (List.mem_cons.mp q).elim (fun r => by subst r; exact (Or.inr sz_b4)) (fun q => nomatch q))), sz_b4, f2, U6⟩⟩⟩
theorem yge_ : parseMethodDescriptor "([BII)[B" = some ⟨[(.array .byte), .int, .int], some (.array .byte)⟩ := by decide +kernel
theorem d32_0 : decode jdk_65_method_132_code 0 = .ok (.iload_n 1, 1) := by decide +kernel
theorem d32_1 : decode jdk_65_method_132_code 1 = .ok (.ifCond .ne 9, 3) := by decide +kernel
theorem d32_4 : decode jdk_65_method_132_code 4 = .ok (.iload_n 2, 1) := by decide +kernel
theorem d32_5 : decode jdk_65_method_132_code 5 = .ok (.aload_n 0, 1) := by decide +kernel
theorem d32_6 : decode jdk_65_method_132_code 6 = .ok (.arraylength, 1) := by decide +kernel
theorem d32_7 : decode jdk_65_method_132_code 7 = .ok (.if_icmp .eq 10, 3) := by decide +kernel
theorem d32_10 : decode jdk_65_method_132_code 10 = .ok (.aload_n 0, 1) := by decide +kernel
theorem d32_11 : decode jdk_65_method_132_code 11 = .ok (.iload_n 1, 1) := by decide +kernel
theorem d32_12 : decode jdk_65_method_132_code 12 = .ok (.iload_n 2, 1) := by decide +kernel
theorem d32_13 : decode jdk_65_method_132_code 13 = .ok (.invokestatic 339, 3) := by decide +kernel
theorem d32_16 : decode jdk_65_method_132_code 16 = .ok (.areturn, 1) := by decide +kernel
theorem pn_32 : plainName "java/util/Arrays" = true := by first | (simp [plainName, overriddenIn]; done) | decide +kernel
theorem ef_32 (m : MethodId) (x0 : Addr) (x1 : Int32) (x2 : Int32) : entryFrame m #[(.ref x0), (.int x1), (.int x2)] 3 = mkF m 0 #[.val (.ref x0), .val (.int x1), .val (.int x2)] [] := by first | (simp [entryFrame, mkF, argsToLocals, Value.category]; done) | rfl
def Q_rm32c (Z : State) (a1 : Addr) (p2 : Int32) (k_a1 : ClassId) (z_a1 : Int32) (vs_a1 : List Value) (h0 : Heap) (n0 : Nat) (v : Option Value) (h : Heap) (L : List Loc) : Prop := ∃ b4_3 : Addr, ∃ k4_3 : ClassId, v = some (.ref b4_3) ∧ Fr n0 L ∧ Keep h0 h [] ∧ h0.size ≤ b4_3 ∧ Exa Z h b4_3 "[B" ∧ Arv Z h b4_3 k4_3 .byte (p2 - (0 : Int32)) (own_cp vs_a1 (List.replicate ((p2 - (0 : Int32))).toNatClampNeg (Value.int (0 : Int32))) (.int (0 : Int32)) (0 : Int32) (0 : Int32) (p2 - (0 : Int32))) (.int (0 : Int32))
set_option maxRecDepth 65536 in
set_option maxHeartbeats 40000000 in
theorem rm32c (l : Launch) (Z : State) (a0 : Array Value) (hw : ∀ d ∈ tables_1, d.before a0 Z = true) (ws : List Jvm.Cond) (a1 : Addr) (p2 : Int32) (k_a1 : ClassId) (z_a1 : Int32) (vs_a1 : List Value) (h0 : Heap) (n0 : Nat) (Z0 : n0 ≤ h0.size) (V_a1 : Arv Z h0 a1 k_a1 .byte z_a1 vs_a1 (.int (0 : Int32))) (hc7 : ¬ (p2 = z_a1)) (ypz_ : ¬ (p2 < (0 : Int32))) (yqa_ : ¬ (p2 - (0 : Int32)) < 0) (yqb_ : ((p2 - (0 : Int32))).toNatClampNeg ≤ 17) (ypk_ : (p2 - (0 : Int32)) < (z_a1 - (0 : Int32))) (yqc_ : ¬ (p2 - (0 : Int32)) < 0) (yqd_ : ((0 : Int32)).toNatClampNeg + ((p2 - (0 : Int32))).toNatClampNeg ≤ (z_a1).toNatClampNeg) (yqe_ : ((0 : Int32)).toNatClampNeg + ((p2 - (0 : Int32))).toNatClampNeg ≤ ((p2 - (0 : Int32))).toNatClampNeg) (yrb_ : ((0 : Int32)).toNatClampNeg + ((p2 - (0 : Int32))).toNatClampNeg ≤ ((List.replicate ((p2 - (0 : Int32))).toNatClampNeg (Value.int (0 : Int32)))).length) :
    MetFree l mN41 (head1 (Jvm.Cond.code mN41 jdk_65_method_132_code 3 (some (.array .byte)) :: ws) ({ frames := 2, cells := 1, slots := 17, locals := 34 } : Room)) (fun a U => a = #[(.ref a1), (.int (0 : Int32)), (.int p2)] ∧ Z.Warmed39 U.vm ∧ U.heap = h0) (fun _ _ _ _ _ => True) (fun _ U o U' => ∃ v L, o = .returned v ∧ Q_rm32c Z a1 p2 k_a1 z_a1 vs_a1 h0 n0 v U'.heap L ∧ FrameEnd U o U' L ({ frames := 2, cells := 1, slots := 17, locals := 34 } : Room).cells ({ frames := 2, cells := 1, slots := 17, locals := 34 } : Room).slots) := by
  have hi : ∀ (i : Nat) {d : Jvm.Cond}, tables_1[i]? = some d → d.before a0 Z = true := fun i d h => hw d (List.mem_of_getElem? h)
  refine MetFree.of_bodySF (plainFor_of_name pn_32) hisR ?_
  intro p e s m args below meth c s₁ Bd hml0 hP hK
  obtain ⟨rfl, hZ, hh⟩ := hP
  have hx := Bd.exec
  have hby := Bd.bytes
  have hml : c.maxLocals = 3 := hml0
  have hown : s.vm.findClass "java/util/Arrays" = some m.cls := findClass_of_methodNamed Bd.named
  have hnm := (name_of_methodNamed Bd.named Bd.method).1
  have X0 : Stand p l e ({ frames := 2, cells := 1, slots := 17, locals := 34 } : Room) s m #[(.ref a1), (.int (0 : Int32)), (.int p2)] below meth c s₁ [] 0 0 := Stand.of_body Bd
  have e0 : s₁.heap = h0 := by rw [← hh, Bd.state]; rfl
  have N0 := Fr.nil n0
  obtain ⟨cl_a1_0, Ar_a1_0, q_a1_0, Sz_a1_0, Ng_a1_0, Ha_a1_0, Gt_a1_0⟩ := id V_a1
  obtain ⟨_, _, ⟨T3, L3, k3, n3⟩, -, X3, ⟨Lc3, hQ3, l3, y3, z3⟩, st3⟩ := Jvm.LawKit.callS X0 hx (y := mN42) hown (mvT hZ (hi 234 rfl)) (mvT hZ (hi 235 rfl)) (mvT hZ (hi 232 rfl)) (mvT hZ (hi 236 rfl)) (by decide) (backOf (W := 0) (rm33 l Z a0 hw [] a1 p2 k_a1 z_a1 vs_a1 h0 n0 Z0 V_a1 ypz_ yqa_ yqb_ ypk_ yqc_ yqd_ yqe_ yrb_) hZ (hi 236 rfl) (hi 232 rfl) (by decide) (by decide)) (g := (mkF m 13 #[vA a1, vI (0 : Int32), vI p2] [(.int p2), (.int (0 : Int32)), (.ref a1)])) rfl (by rw [hml]; rfl) (argsL := [(.ref a1), (.int (0 : Int32)), (.int p2)]) (rest := []) (lenOf yge_ rfl) rfl (by show 2 * 0 + _ ≤ _; exact Nat.le_of_eq rfl) (hb hby d32_13) (fun _ _ => ⟨rfl, e0, (by decide : 0 + 1 ≤ _), (by decide : 0 + 17 ≤ _)⟩)
  dsimp only [Pt.U, Pt.locs, Pt.cells, Pt.slots] at X3 l3 y3 z3 st3 hQ3
  subst l3 y3 z3
  obtain ⟨b4_3, ⟨k4_3, ⟨rfl, N3q, K3, i3_0, i3_1, i3_2⟩⟩⟩ := hQ3
  have N3 := Fr.app N0 N3q
  have sz_b4_3 : h0.size ≤ b4_3 := Nat.le_trans (Nat.le_refl h0.size) i3_0
  have g_b4_3 : n0 ≤ b4_3 := Nat.le_trans Z0 sz_b4_3
  obtain ⟨fs, hr, hrun, hended, hW, hsame⟩ := X3.leave (v := some (.ref b4_3)) (fun h => by rw [Bd.returns] at h; cases h)
  refine ⟨_, _, castTop (ef_32 m a1 (0 : Int32) p2) ?_, hrun, hended, _, _, rfl, ?_, ⟨_, rfl⟩, hW, hsame.mono (by decide) (by decide)⟩
  · show Steps p.tables e below (s₁.setTop (mkF m 0 #[vA a1, vI (0 : Int32), vI p2] [])) _
    refine XS.iloadN X0.here hx rfl (hb hby d32_0) rfl ?_
    refine XS.ifNo X0.here hx rfl (hb hby d32_1) rfl ((if0 _ _).trans (teq (rfl : (0 : Int32) = (0 : Int32))).2) ?_
    refine XS.iloadN X0.here hx rfl (hb hby d32_4) rfl ?_
    refine XS.aloadN X0.here hx rfl (hb hby d32_5) rfl rfl ?_
    refine X0.arraylength hx (by rw [e0]; exact Ar_a1_0.1) (State.isArrayOf_alike hZ.alike Ar_a1_0.2.1) (g := (mkF m 6 #[vA a1, vI (0 : Int32), vI p2] [(.ref a1), (.int p2)])) rfl rfl (hb hby d32_6) _ ?_
    rw [len_of Sz_a1_0 Ng_a1_0]
    refine XS.icmpNo X0.here hx rfl (hb hby d32_7) rfl (feq hc7).1 ?_
    refine XS.aloadN X0.here hx rfl (hb hby d32_10) rfl rfl ?_
    refine XS.iloadN X0.here hx rfl (hb hby d32_11) rfl ?_
    refine XS.iloadN X0.here hx rfl (hb hby d32_12) rfl ?_
    refine st3 _ ?_
    show Steps p.tables e below (T3.setTop (mkF m 16 #[vA a1, vI (0 : Int32), vI p2] [(.ref b4_3)])) _
    jvm_step X3.here [X3.here.top, hx, (hb hby d32_16), X3.method', Bd.returns, Value.isRef, FieldType.isReference]
    first | (intro acts; rw [hr _ acts rfl rfl rfl]) | rw [hr _ _ rfl rfl rfl]
    exact Steps.refl _
  · show Q_rm32c Z a1 p2 k_a1 z_a1 vs_a1 h0 n0 _ T3.heap _
    exact ⟨b4_3, ⟨k4_3, ⟨rfl, N3, ((Keep.refl h0 []).trans K3 (fun x q => nomatch q)), sz_b4_3, i3_1, i3_2⟩⟩⟩
theorem ylj_ : parseMethodDescriptor "()[B" = some ⟨[], some (.array .byte)⟩ := by decide +kernel
theorem own_face {s : State} {args : Array Value} {C : String} {y y' : MethodName} (h : (Cond.selects C y' y').before args s = true) (e : y'.cls = y.cls) : NotFace s y := fun r0 h0 => by
  obtain ⟨c, r, m, -, -, h3, -, mk, h5, h6⟩ := Cond.selects_spec h
  have hc := findClass_of_methodNamed h3
  rw [e] at hc
  have q : m.cls = r0.cls := Option.some.inj (hc.symm.trans (findClass_of_methodNamed h0))
  exact ⟨mk, q ▸ h5, h6⟩
theorem d27_0 : decode jdk_42_method_150_code 0 = .ok (.aload_n 0, 1) := by decide +kernel
theorem d27_1 : decode jdk_42_method_150_code 1 = .ok (.invokespecial 1, 3) := by decide +kernel
theorem d27_4 : decode jdk_42_method_150_code 4 = .ok (.aload_n 1, 1) := by decide +kernel
theorem d27_5 : decode jdk_42_method_150_code 5 = .ok (.invokevirtual 552, 3) := by decide +kernel
theorem d27_8 : decode jdk_42_method_150_code 8 = .ok (.astore_n 3, 1) := by decide +kernel
theorem d27_9 : decode jdk_42_method_150_code 9 = .ok (.aload_n 1, 1) := by decide +kernel
theorem d27_10 : decode jdk_42_method_150_code 10 = .ok (.invokevirtual 549, 3) := by decide +kernel
theorem d27_13 : decode jdk_42_method_150_code 13 = .ok (.istore 4, 2) := by decide +kernel
theorem d27_15 : decode jdk_42_method_150_code 15 = .ok (.aload_n 1, 1) := by decide +kernel
theorem d27_16 : decode jdk_42_method_150_code 16 = .ok (.invokevirtual 1047, 3) := by decide +kernel
theorem d27_19 : decode jdk_42_method_150_code 19 = .ok (.ifCond .eq 22, 3) := by decide +kernel
theorem d27_22 : decode jdk_42_method_150_code 22 = .ok (.aload_n 0, 1) := by decide +kernel
theorem d27_23 : decode jdk_42_method_150_code 23 = .ok (.iconst 0, 1) := by decide +kernel
theorem d27_24 : decode jdk_42_method_150_code 24 = .ok (.putfield 15, 3) := by decide +kernel
theorem d27_27 : decode jdk_42_method_150_code 27 = .ok (.aload_n 0, 1) := by decide +kernel
theorem d27_28 : decode jdk_42_method_150_code 28 = .ok (.aload_n 3, 1) := by decide +kernel
theorem d27_29 : decode jdk_42_method_150_code 29 = .ok (.iconst 0, 1) := by decide +kernel
theorem d27_30 : decode jdk_42_method_150_code 30 = .ok (.iload 4, 2) := by decide +kernel
theorem d27_32 : decode jdk_42_method_150_code 32 = .ok (.invokestatic 54, 3) := by decide +kernel
theorem d27_35 : decode jdk_42_method_150_code 35 = .ok (.putfield 9, 3) := by decide +kernel
theorem d27_38 : decode jdk_42_method_150_code 38 = .ok (.goto 59, 3) := by decide +kernel
theorem d27_97 : decode jdk_42_method_150_code 97 = .ok (.return_, 1) := by decide +kernel
theorem pn_27 : plainName "java/lang/String" = true := by first | (simp [plainName, overriddenIn]; done) | decide +kernel
theorem ef_27n2 (m : MethodId) (x0 : Addr) (x1 : Addr) : entryFrame m #[(.ref x0), (.ref x1), .null] 5 = mkF m 0 #[.val (.ref x0), .val (.ref x1), .val .null, .unset, .unset] [] := by first | (simp [entryFrame, mkF, argsToLocals, Value.category]; done) | rfl
def Q_rm27c (Z : State) (a1 : Addr) (a2 : Addr) (yz_ : Addr) (yan_ : Int32) (ya_ : Int32) (yaq_ : Int32) (yak_ : ClassId) (yaf_ : Int32) (yad_ : List Value) (yc_ : Value) (h0 : Heap) (n0 : Nat) (v : Option Value) (h : Heap) (L : List Loc) : Prop := ∃ b4_3_8 : Addr, ∃ k4_3_8 : ClassId, v = none ∧ Fr n0 L ∧ Keep h0 h [a1] ∧ h0.size ≤ b4_3_8 ∧ Exa Z h a1 "java/lang/String" ∧ Fld Z h a1 "java/lang/String" "coder" "B" (.int (0 : Int32)) ∧ Fld Z h a1 "java/lang/String" "value" "[B" (.ref b4_3_8) ∧ Exa Z h b4_3_8 "[B" ∧ Arv Z h b4_3_8 k4_3_8 .byte (yan_ - (0 : Int32)) (own_cp yad_ (List.replicate ((yan_ - (0 : Int32))).toNatClampNeg (Value.int (0 : Int32))) (.int (0 : Int32)) (0 : Int32) (0 : Int32) (yan_ - (0 : Int32))) (.int (0 : Int32))
set_option maxRecDepth 65536 in
set_option maxHeartbeats 40000000 in
theorem rm27c (l : Launch) (Z : State) (a0 : Array Value) (hw : ∀ d ∈ tables_1, d.before a0 Z = true) (ws : List Jvm.Cond) (a1 : Addr) (a2 : Addr) (yz_ : Addr) (yan_ : Int32) (ya_ : Int32) (yaq_ : Int32) (yak_ : ClassId) (yaf_ : Int32) (yad_ : List Value) (yc_ : Value) (h0 : Heap) (n0 : Nat) (Z0 : n0 ≤ h0.size) (hcs : ¬ (ya_ = (0 : Int32))) (ycc_ : Fld Z h0 a2 "java/lang/AbstractStringBuilder" "value" "[B" (.ref yz_)) (E_a2 : Exa Z h0 a2 "java/lang/StringBuilder") (yga_ : Fld Z h0 a2 "java/lang/AbstractStringBuilder" "count" "I" (.int yan_)) (yf_ : Sta Z h0 "java/lang/String" "COMPACT_STRINGS" "Z" (.int ya_)) (ybt_ : Fld Z h0 a2 "java/lang/AbstractStringBuilder" "coder" "B" (.int (0 : Int32))) (E_a1 : Exa Z h0 a1 "java/lang/String") (yac_ : Fld Z h0 a1 "java/lang/String" "coder" "B" (.int yaq_)) (g_a1 : n0 ≤ a1) (ybq_ : Arv Z h0 yz_ yak_ .byte yaf_ yad_ (.int (0 : Int32))) (yae_ : Fld Z h0 a1 "java/lang/String" "value" "[B" yc_) (ycn_ : yz_ ≠ a1) (hhc7_32 : ¬ (yan_ = yaf_)) (yoa_ : ¬ (yan_ < (0 : Int32))) (yob_ : ¬ (yan_ - (0 : Int32)) < 0) (yoc_ : ((yan_ - (0 : Int32))).toNatClampNeg ≤ 17) (ynq_ : (yan_ - (0 : Int32)) < (yaf_ - (0 : Int32))) (yod_ : ¬ (yan_ - (0 : Int32)) < 0) (yoe_ : ((0 : Int32)).toNatClampNeg + ((yan_ - (0 : Int32))).toNatClampNeg ≤ (yaf_).toNatClampNeg) (yof_ : ((0 : Int32)).toNatClampNeg + ((yan_ - (0 : Int32))).toNatClampNeg ≤ ((yan_ - (0 : Int32))).toNatClampNeg) (ypa_ : ((0 : Int32)).toNatClampNeg + ((yan_ - (0 : Int32))).toNatClampNeg ≤ ((List.replicate ((yan_ - (0 : Int32))).toNatClampNeg (Value.int (0 : Int32)))).length) :
    MetFree l mN11 (head1 (Jvm.Cond.code mN11 jdk_42_method_150_code 5 none :: ws) ({ frames := 3, cells := 1, slots := 17, locals := 49 } : Room)) (fun a U => a = #[(.ref a1), (.ref a2), .null] ∧ Z.Warmed39 U.vm ∧ U.heap = h0) (fun _ _ _ _ _ => True) (fun _ U o U' => ∃ v L, o = .returned v ∧ Q_rm27c Z a1 a2 yz_ yan_ ya_ yaq_ yak_ yaf_ yad_ yc_ h0 n0 v U'.heap L ∧ FrameEnd U o U' L ({ frames := 3, cells := 1, slots := 17, locals := 49 } : Room).cells ({ frames := 3, cells := 1, slots := 17, locals := 49 } : Room).slots) := by
  have hi : ∀ (i : Nat) {d : Jvm.Cond}, tables_1[i]? = some d → d.before a0 Z = true := fun i d h => hw d (List.mem_of_getElem? h)
  refine MetFree.of_bodySF (plainFor_of_name pn_27) hisR ?_
  intro p e s m args below meth c s₁ Bd hml0 hP hK
  obtain ⟨rfl, hZ, hh⟩ := hP
  have hx := Bd.exec
  have hby := Bd.bytes
  have hml : c.maxLocals = 5 := hml0
  have hown : s.vm.findClass "java/lang/String" = some m.cls := findClass_of_methodNamed Bd.named
  have hnm := (name_of_methodNamed Bd.named Bd.method).1
  have X0 : Stand p l e ({ frames := 3, cells := 1, slots := 17, locals := 49 } : Room) s m #[(.ref a1), (.ref a2), .null] below meth c s₁ [] 0 0 := Stand.of_body Bd
  have e0 : s₁.heap = h0 := by rw [← hh, Bd.state]; rfl
  have N0 := Fr.nil n0
  obtain ⟨T3, X3, e3, st3⟩ := initO X0 hx hZ hown (hi 211 rfl) (hi 21 rfl) (hi 22 rfl) e0 (g := (mkF m 1 #[vA a1, vA a2, .val .null, vU, vU] [(.ref a1)])) rfl (by rw [hml]; rfl) rfl (hb hby d27_1) (by decide) (W := 0) (by show 2 * 0 + _ ≤ _; exact Nat.le_of_eq rfl) (by decide)
  obtain ⟨cq4, kq4, q4a, q4b, q4c⟩ := isOf hZ e3 E_a2
  obtain ⟨_, _, ⟨T4, L4, k4, n4⟩, -, X4, ⟨Lc4, hQ4, l4, y4, z4⟩, st4⟩ := X3.virtualBack hx (y := mN3) (z := mN3) hown (mvT hZ (hi 212 rfl)) (mvT hZ (hi 213 rfl)) (notFace_of_selects (args := #[]) (mvT hZ (hi 215 rfl))) (mvT hZ (hi 215 rfl)) (mvT hZ (hi 214 rfl)) (by decide) (backOf (W := 0) (rm28 l Z a0 hw [] a2 yz_ h0 n0 Z0 ycc_) hZ (hi 216 rfl) (hi 59 rfl) (by decide) (by decide)) q4a q4c (g := (mkF m 5 #[vA a1, vA a2, .val .null, vU, vU] [(.ref a2)])) rfl (by rw [hml]; rfl) (Steps.refl _) (argsL := []) (rest := []) (lenOf ylj_ rfl) rfl (by show 2 * 0 + _ ≤ _; exact Nat.le_of_eq rfl) (hb hby d27_5) (fun _ _ => ⟨rfl, e3, (by decide : 0 + 0 ≤ _), (by decide : 0 + 0 ≤ _)⟩)
  dsimp only [Pt.U, Pt.locs, Pt.cells, Pt.slots] at X4 l4 y4 z4 st4 hQ4
  subst l4 y4 z4
  obtain ⟨rfl, N4q, e4⟩ := hQ4
  have N4 := Fr.app N0 N4q
  obtain ⟨cq5, kq5, q5a, q5b, q5c⟩ := isOf hZ e4 E_a2
  obtain ⟨_, _, ⟨T5, L5, k5, n5⟩, -, X5, ⟨Lc5, hQ5, l5, y5, z5⟩, st5⟩ := X4.virtualBack hx (y := mN6) (z := mN25) hown (mvT hZ (hi 217 rfl)) (mvT hZ (hi 218 rfl)) (own_face (args := #[]) (mvT hZ (hi 147 rfl)) rfl) (mvT hZ (hi 220 rfl)) (mvT hZ (hi 221 rfl)) (by decide) (backOf (W := 0) (rm29 l Z a0 hw [] a2 yan_ h0 n0 Z0 yga_ E_a2) hZ (hi 222 rfl) (hi 51 rfl) (by decide) (by decide)) q5a q5c (g := (mkF m 10 #[vA a1, vA a2, .val .null, vA yz_, vU] [(.ref a2)])) rfl (by rw [hml]; rfl) (Steps.refl _) (argsL := []) (rest := []) (lenOf ycf_ rfl) rfl (by show 2 * 0 + _ ≤ _; exact Nat.le_of_eq rfl) (hb hby d27_10) (fun _ _ => ⟨rfl, e4, (by decide : 0 + 0 ≤ _), (by decide : 0 + 0 ≤ _)⟩)
  dsimp only [Pt.U, Pt.locs, Pt.cells, Pt.slots] at X5 l5 y5 z5 st5 hQ5
  subst l5 y5 z5
  obtain ⟨rfl, N5q, e5⟩ := hQ5
  have N5 := Fr.app N4 N5q
  obtain ⟨cq6, kq6, q6a, q6b, q6c⟩ := isOf hZ e5 E_a2
  obtain ⟨_, _, ⟨T6, L6, k6, n6⟩, -, X6, ⟨Lc6, hQ6, l6, y6, z6⟩, st6⟩ := X5.virtualBack hx (y := mN5) (z := mN5) hown (mvT hZ (hi 225 rfl)) (mvT hZ (hi 226 rfl)) (notFace_of_selects (args := #[]) (mvT hZ (hi 228 rfl))) (mvT hZ (hi 228 rfl)) (mvT hZ (hi 227 rfl)) (by decide) (backOf (W := 0) (rm31 l Z a0 hw [] a2 ya_ h0 n0 Z0 hcs yf_ ybt_) hZ (hi 229 rfl) (hi 59 rfl) (by decide) (by decide)) q6a q6c (g := (mkF m 16 #[vA a1, vA a2, .val .null, vA yz_, vI yan_] [(.ref a2)])) rfl (by rw [hml]; rfl) (Steps.refl _) (argsL := []) (rest := []) (lenOf yhn_ rfl) rfl (by show 2 * 0 + _ ≤ _; exact Nat.le_of_eq rfl) (hb hby d27_16) (fun _ _ => ⟨rfl, e5, (by decide : 0 + 0 ≤ _), (by decide : 0 + 0 ≤ _)⟩)
  dsimp only [Pt.U, Pt.locs, Pt.cells, Pt.slots] at X6 l6 y6 z6 st6 hQ6
  subst l6 y6 z6
  obtain ⟨rfl, N6q, e6⟩ := hQ6
  have N6 := Fr.app N5 N6q
  obtain ⟨T7, h7, X7, e7, W7, st7⟩ := putFN X6 hx hZ hown (hi 141 rfl) Via.refl e6 yac_ E_a1 (Or.inr ⟨(hi 8 rfl), rfl, hnm⟩) (hi 5 rfl) (ty := .byte) (v' := (.int (0 : Int32))) (by decide) rfl rfl (g := (mkF m 24 #[vA a1, vA a2, .val .null, vA yz_, vI yan_] [(.int (0 : Int32)), (.ref a1)])) rfl rfl (hb hby d27_24)
  have Fw7 := yac_.same W7
  have N7 := Fr.snoc X7 N6 g_a1
  have f0 := (ybq_.other W7 ycn_)
  obtain ⟨_, _, ⟨T8, L8, k8, n8⟩, -, X8, ⟨Lc8, hQ8, l8, y8, z8⟩, st8⟩ := Jvm.LawKit.callS X7 hx (y := mN41) hown (mvT hZ (hi 230 rfl)) (mvT hZ (hi 231 rfl)) (mvT hZ (hi 232 rfl)) (mvT hZ (hi 233 rfl)) (by decide) (backOf (W := 1) (rm32c l Z a0 hw [] yz_ yan_ yak_ yaf_ yad_ h7 n0 (Nat.le_trans Z0 (Keep.of_wr W7).1) f0 hhc7_32 yoa_ yob_ yoc_ ynq_ yod_ yoe_ yof_ ypa_) hZ (hi 233 rfl) (hi 232 rfl) (by decide) (by decide)) (g := (mkF m 32 #[vA a1, vA a2, .val .null, vA yz_, vI yan_] [(.int yan_), (.int (0 : Int32)), (.ref yz_), (.ref a1)])) rfl (by rw [hml]; rfl) (argsL := [(.ref yz_), (.int (0 : Int32)), (.int yan_)]) (rest := [(.ref a1)]) (lenOf yge_ rfl) rfl (by show 2 * 0 + _ ≤ _; exact Nat.le_of_eq rfl) (hb hby d27_32) (fun _ _ => ⟨rfl, e7, (by decide : 0 + 1 ≤ _), (by decide : 0 + 17 ≤ _)⟩)
  dsimp only [Pt.U, Pt.locs, Pt.cells, Pt.slots] at X8 l8 y8 z8 st8 hQ8
  subst l8 y8 z8
  obtain ⟨b4_3_8, ⟨k4_3_8, ⟨rfl, N8q, K8, i8_0, i8_1, i8_2⟩⟩⟩ := hQ8
  have N8 := Fr.app N7 N8q
  have yln_ : h0.size ≤ b4_3_8 := Nat.le_trans (Nat.le_trans (Nat.le_refl h0.size) (Keep.of_wr W7).1) i8_0
  have yro_ : n0 ≤ b4_3_8 := Nat.le_trans Z0 yln_
  have f1 := ((E_a1.wr W7).keep K8)
  have f2 := ((yae_.other W7 (Or.inr (slot_ne (Or.inr (hi 7 rfl)) (Or.inr (hi 8 rfl)) (by decide) (t := (.array .byte)) (t' := .byte) (by decide) (by decide)))).keep K8 own_n0)
  obtain ⟨T9, h9, X9, e9, W9, st9⟩ := putF X8 hx hZ hown (host := "") (Or.inl (hi 134 rfl)) Via.refl rfl f2 f1 (Or.inr ⟨(hi 7 rfl), rfl, hnm⟩) (hi 5 rfl) (ty := (.array .byte)) (by decide) rfl rfl (g := (mkF m 35 #[vA a1, vA a2, .val .null, vA yz_, vI yan_] [(.ref b4_3_8), (.ref a1)])) rfl rfl (hb hby d27_35)
  have Fw9 := f2.same W9
  have N9 := Fr.snoc X9 N8 g_a1
  have f3 := (f1.wr W9)
  have f4 := ((Fw7.keep K8 own_n0).other W9 (Or.inr (slot_ne (Or.inr (hi 8 rfl)) (Or.inr (hi 7 rfl)) (by decide) (t := .byte) (t' := (.array .byte)) (by decide) (by decide))))
  have f5 := (i8_1.wr W9)
  have f6 := (i8_2.other W9 (Ne.symm (Nat.ne_of_lt (Nat.lt_of_lt_of_le E_a1.lt yln_))))
  obtain ⟨fs, hr, hrun, hended, hW, hsame⟩ := X9.leave (v := none) (fun _ => rfl)
  refine ⟨_, _, castTop (ef_27n2 m a1 a2) ?_, hrun, hended, _, _, rfl, ?_, ⟨_, rfl⟩, hW, hsame.mono (by decide) (by decide)⟩
  · show Steps p.tables e below (s₁.setTop (mkF m 0 #[vA a1, vA a2, .val .null, vU, vU] [])) _
    refine XS.aloadN X0.here hx rfl (hb hby d27_0) rfl rfl ?_
    refine st3 _ ?_
    refine XS.aloadN X3.here hx rfl (hb hby d27_4) rfl rfl ?_
    refine st4.trans ?_
    refine XS.astoreN X4.here hx rfl (hb hby d27_8) rfl rfl (l' := #[vA a1, vA a2, .val .null, vA yz_, vU]) rfl ?_
    refine XS.aloadN X4.here hx rfl (hb hby d27_9) rfl rfl ?_
    refine st5.trans ?_
    refine XS.istore X5.here hx rfl (hb hby d27_13) rfl (l' := #[vA a1, vA a2, .val .null, vA yz_, vI yan_]) rfl ?_
    refine XS.aloadN X5.here hx rfl (hb hby d27_15) rfl rfl ?_
    refine st6.trans ?_
    refine XS.ifNo X6.here hx rfl (hb hby d27_19) rfl ((if0 _ _).trans (feq (by decide : ¬ ((1 : Int32) = (0 : Int32)))).1) ?_
    refine XS.aloadN X6.here hx rfl (hb hby d27_22) rfl rfl ?_
    refine XS.iconst X6.here hx rfl (hb hby d27_23) ?_
    refine st7 _ ?_
    refine XS.aloadN X7.here hx rfl (hb hby d27_27) rfl rfl ?_
    refine XS.aloadN X7.here hx rfl (hb hby d27_28) rfl rfl ?_
    refine XS.iconst X7.here hx rfl (hb hby d27_29) ?_
    refine XS.iload X7.here hx rfl (hb hby d27_30) rfl ?_
    refine st8 _ ?_
    refine st9 _ ?_
    refine XS.goto X9.here hx rfl (pc0 := 38) (pc' := 97) rfl (hb hby d27_38) (by decide) (by decide) ?_
    show Steps p.tables e below (T9.setTop (mkF m 97 #[vA a1, vA a2, .val .null, vA yz_, vI yan_] [])) _
    exact X9.returnOut hx Bd.returns (hb hby d27_97) hr
  · show Q_rm27c Z a1 a2 yz_ yan_ ya_ yaq_ yak_ yaf_ yad_ yc_ h0 n0 _ T9.heap _
    rw [e9]
    exact ⟨b4_3_8, ⟨k4_3_8, ⟨rfl, N9, ((((Keep.refl h0 [a1]).wr W7 (Or.inl (List.mem_of_getElem? (i := 0) rfl))).trans K8 (fun x q => nomatch q)).wr W9 (Or.inl (List.mem_of_getElem? (i := 0) rfl))), yln_, f3, f4, Fw9, f5, f6⟩⟩⟩
theorem yce_ : parseMethodDescriptor "(Ljava/lang/AbstractStringBuilder;Ljava/lang/Void;)V" = some ⟨[(.object "java/lang/AbstractStringBuilder"), (.object "java/lang/Void")], none⟩ := by decide +kernel
theorem d26_0 : decode jdk_42_method_53_code 0 = .ok (.aload_n 0, 1) := by decide +kernel
theorem d26_1 : decode jdk_42_method_53_code 1 = .ok (.aload_n 1, 1) := by decide +kernel
theorem d26_2 : decode jdk_42_method_53_code 2 = .ok (.aconst_null, 1) := by decide +kernel
theorem d26_3 : decode jdk_42_method_53_code 3 = .ok (.invokespecial 489, 3) := by decide +kernel
theorem d26_6 : decode jdk_42_method_53_code 6 = .ok (.return_, 1) := by decide +kernel
theorem pn_26 : plainName "java/lang/String" = true := by first | (simp [plainName, overriddenIn]; done) | decide +kernel
theorem ef_26 (m : MethodId) (x0 : Addr) (x1 : Addr) : entryFrame m #[(.ref x0), (.ref x1)] 2 = mkF m 0 #[.val (.ref x0), .val (.ref x1)] [] := by first | (simp [entryFrame, mkF, argsToLocals, Value.category]; done) | rfl
def Q_rm26c (Z : State) (a1 : Addr) (a2 : Addr) (yz_ : Addr) (yan_ : Int32) (ya_ : Int32) (yaq_ : Int32) (yak_ : ClassId) (yaf_ : Int32) (yad_ : List Value) (yc_ : Value) (h0 : Heap) (n0 : Nat) (v : Option Value) (h : Heap) (L : List Loc) : Prop := ∃ ygp_ : Addr, ∃ ymv_ : ClassId, v = none ∧ Fr n0 L ∧ Keep h0 h [a1] ∧ h0.size ≤ ygp_ ∧ Exa Z h a1 "java/lang/String" ∧ Fld Z h a1 "java/lang/String" "coder" "B" (.int (0 : Int32)) ∧ Fld Z h a1 "java/lang/String" "value" "[B" (.ref ygp_) ∧ Exa Z h ygp_ "[B" ∧ Arv Z h ygp_ ymv_ .byte (yan_ - (0 : Int32)) (own_cp yad_ (List.replicate ((yan_ - (0 : Int32))).toNatClampNeg (Value.int (0 : Int32))) (.int (0 : Int32)) (0 : Int32) (0 : Int32) (yan_ - (0 : Int32))) (.int (0 : Int32))
set_option maxRecDepth 65536 in
set_option maxHeartbeats 40000000 in
theorem rm26c (l : Launch) (Z : State) (a0 : Array Value) (hw : ∀ d ∈ tables_1, d.before a0 Z = true) (ws : List Jvm.Cond) (a1 : Addr) (a2 : Addr) (yz_ : Addr) (yan_ : Int32) (ya_ : Int32) (yaq_ : Int32) (yak_ : ClassId) (yaf_ : Int32) (yad_ : List Value) (yc_ : Value) (h0 : Heap) (n0 : Nat) (Z0 : n0 ≤ h0.size) (hcs : ¬ (ya_ = (0 : Int32))) (ycc_ : Fld Z h0 a2 "java/lang/AbstractStringBuilder" "value" "[B" (.ref yz_)) (yga_ : Fld Z h0 a2 "java/lang/AbstractStringBuilder" "count" "I" (.int yan_)) (yf_ : Sta Z h0 "java/lang/String" "COMPACT_STRINGS" "Z" (.int ya_)) (yac_ : Fld Z h0 a1 "java/lang/String" "coder" "B" (.int yaq_)) (ybq_ : Arv Z h0 yz_ yak_ .byte yaf_ yad_ (.int (0 : Int32))) (yae_ : Fld Z h0 a1 "java/lang/String" "value" "[B" yc_) (E_a2 : Exa Z h0 a2 "java/lang/StringBuilder") (ybt_ : Fld Z h0 a2 "java/lang/AbstractStringBuilder" "coder" "B" (.int (0 : Int32))) (E_a1 : Exa Z h0 a1 "java/lang/String") (g_a1 : n0 ≤ a1) (ycn_ : yz_ ≠ a1) (yks_ : ¬ (yan_ = yaf_)) (ymk_ : ¬ (yan_ < (0 : Int32))) (yml_ : ¬ (yan_ - (0 : Int32)) < 0) (ymm_ : ((yan_ - (0 : Int32))).toNatClampNeg ≤ 17) (ylw_ : (yan_ - (0 : Int32)) < (yaf_ - (0 : Int32))) (ymn_ : ¬ (yan_ - (0 : Int32)) < 0) (ymo_ : ((0 : Int32)).toNatClampNeg + ((yan_ - (0 : Int32))).toNatClampNeg ≤ (yaf_).toNatClampNeg) (ymp_ : ((0 : Int32)).toNatClampNeg + ((yan_ - (0 : Int32))).toNatClampNeg ≤ ((yan_ - (0 : Int32))).toNatClampNeg) (ynr_ : ((0 : Int32)).toNatClampNeg + ((yan_ - (0 : Int32))).toNatClampNeg ≤ ((List.replicate ((yan_ - (0 : Int32))).toNatClampNeg (Value.int (0 : Int32)))).length) :
    MetFree l mN12 (head1 (Jvm.Cond.code mN12 jdk_42_method_53_code 2 none :: ws) ({ frames := 4, cells := 1, slots := 17, locals := 65 } : Room)) (fun a U => a = #[(.ref a1), (.ref a2)] ∧ Z.Warmed39 U.vm ∧ U.heap = h0) (fun _ _ _ _ _ => True) (fun _ U o U' => ∃ v L, o = .returned v ∧ Q_rm26c Z a1 a2 yz_ yan_ ya_ yaq_ yak_ yaf_ yad_ yc_ h0 n0 v U'.heap L ∧ FrameEnd U o U' L ({ frames := 4, cells := 1, slots := 17, locals := 65 } : Room).cells ({ frames := 4, cells := 1, slots := 17, locals := 65 } : Room).slots) := by
  have hi : ∀ (i : Nat) {d : Jvm.Cond}, tables_1[i]? = some d → d.before a0 Z = true := fun i d h => hw d (List.mem_of_getElem? h)
  refine MetFree.of_bodySF (plainFor_of_name pn_26) hisR ?_
  intro p e s m args below meth c s₁ Bd hml0 hP hK
  obtain ⟨rfl, hZ, hh⟩ := hP
  have hx := Bd.exec
  have hby := Bd.bytes
  have hml : c.maxLocals = 2 := hml0
  have hown : s.vm.findClass "java/lang/String" = some m.cls := findClass_of_methodNamed Bd.named
  have hnm := (name_of_methodNamed Bd.named Bd.method).1
  have X0 : Stand p l e ({ frames := 4, cells := 1, slots := 17, locals := 65 } : Room) s m #[(.ref a1), (.ref a2)] below meth c s₁ [] 0 0 := Stand.of_body Bd
  have e0 : s₁.heap = h0 := by rw [← hh, Bd.state]; rfl
  have N0 := Fr.nil n0
  obtain ⟨_, _, ⟨T3, L3, k3, n3⟩, -, X3, ⟨Lc3, hQ3, l3, y3, z3⟩, st3⟩ := X0.specialBack hx (y := mN11) rfl hown (mvT hZ (hi 208 rfl)) (mvT hZ (hi 209 rfl)) (mvT hZ (hi 210 rfl)) (by decide) (backOf (W := 0) (rm27c l Z a0 hw [] a1 a2 yz_ yan_ ya_ yaq_ yak_ yaf_ yad_ yc_ h0 n0 Z0 hcs ycc_ E_a2 yga_ yf_ ybt_ E_a1 yac_ g_a1 ybq_ yae_ ycn_ yks_ ymk_ yml_ ymm_ ylw_ ymn_ ymo_ ymp_ ynr_) hZ (hi 210 rfl) (hi 4 rfl) (by decide) (by decide)) (g := (mkF m 3 #[vA a1, vA a2] [.null, (.ref a2), (.ref a1)])) rfl (by rw [hml]; rfl) (Steps.refl _) (a := a1) (argsL := [(.ref a2), .null]) (rest := []) (lenOf yce_ rfl) rfl (by show 2 * 0 + _ ≤ _; exact Nat.le_of_eq rfl) (hb hby d26_3) (fun _ _ => ⟨rfl, e0, (by decide : 0 + 1 ≤ _), (by decide : 0 + 17 ≤ _)⟩)
  dsimp only [Pt.U, Pt.locs, Pt.cells, Pt.slots] at X3 l3 y3 z3 st3 hQ3
  subst l3 y3 z3
  obtain ⟨ygp_, ⟨ymv_, ⟨rfl, N3q, K3, i3_0, i3_1, i3_2, i3_3, i3_4, i3_5⟩⟩⟩ := hQ3
  have N3 := Fr.app N0 N3q
  have yms_ : h0.size ≤ ygp_ := Nat.le_trans (Nat.le_refl h0.size) i3_0
  have yrk_ : n0 ≤ ygp_ := Nat.le_trans Z0 yms_
  obtain ⟨fs, hr, hrun, hended, hW, hsame⟩ := X3.leave (v := none) (fun _ => rfl)
  refine ⟨_, _, castTop (ef_26 m a1 a2) ?_, hrun, hended, _, _, rfl, ?_, ⟨_, rfl⟩, hW, hsame.mono (by decide) (by decide)⟩
  · show Steps p.tables e below (s₁.setTop (mkF m 0 #[vA a1, vA a2] [])) _
    refine XS.aloadN X0.here hx rfl (hb hby d26_0) rfl rfl ?_
    refine XS.aloadN X0.here hx rfl (hb hby d26_1) rfl rfl ?_
    refine XS.aconstNull X0.here hx rfl (hb hby d26_2) ?_
    refine st3.trans ?_
    show Steps p.tables e below (T3.setTop (mkF m 6 #[vA a1, vA a2] [])) _
    exact X3.returnOut hx Bd.returns (hb hby d26_6) hr
  · show Q_rm26c Z a1 a2 yz_ yan_ ya_ yaq_ yak_ yaf_ yad_ yc_ h0 n0 _ T3.heap _
    exact ⟨ygp_, ⟨ymv_, ⟨rfl, N3, ((Keep.refl h0 [a1]).trans K3 (fun x q => (List.mem_cons.mp q).elim (fun r => by subst r; exact (Or.inl (List.mem_of_getElem? (i := 0) rfl))) (fun q => nomatch q))), yms_, i3_1, i3_2, i3_3, i3_4, i3_5⟩⟩⟩
theorem ydu_ : parseMethodDescriptor "(Ljava/lang/StringBuilder;)V" = some ⟨[(.object "java/lang/StringBuilder")], none⟩ := by decide +kernel
theorem d25_0 : decode jdk_67_method_42_code 0 = .ok (.new 18, 3) := by decide +kernel
theorem d25_3 : decode jdk_67_method_42_code 3 = .ok (.dup, 1) := by decide +kernel
theorem d25_4 : decode jdk_67_method_42_code 4 = .ok (.aload_n 0, 1) := by decide +kernel
theorem d25_5 : decode jdk_67_method_42_code 5 = .ok (.invokespecial 137, 3) := by decide +kernel
theorem d25_8 : decode jdk_67_method_42_code 8 = .ok (.areturn, 1) := by decide +kernel
theorem pn_25 : plainName "java/lang/StringBuilder" = true := by first | (simp [plainName, overriddenIn]; done) | decide +kernel
theorem ef_25 (m : MethodId) (x0 : Addr) : entryFrame m #[(.ref x0)] 1 = mkF m 0 #[.val (.ref x0)] [] := by first | (simp [entryFrame, mkF, argsToLocals, Value.category]; done) | rfl
def Q_rm25c (Z : State) (a1 : Addr) (yc_ : Addr) (yag_ : Int32) (ya_ : Int32) (yn_ : ClassId) (yd_ : Int32) (ye_ : List Value) (h0 : Heap) (n0 : Nat) (v : Option Value) (h : Heap) (L : List Loc) : Prop := ∃ b2 : Addr, ∃ yej_ : Addr, ∃ ykt_ : ClassId, v = some (.ref b2) ∧ Fr n0 L ∧ Keep h0 h [] ∧ h0.size ≤ b2 ∧ h0.size ≤ yej_ ∧ b2 ≠ yej_ ∧ Exa Z h b2 "java/lang/String" ∧ Fld Z h b2 "java/lang/String" "coder" "B" (.int (0 : Int32)) ∧ Fld Z h b2 "java/lang/String" "value" "[B" (.ref yej_) ∧ Exa Z h yej_ "[B" ∧ Arv Z h yej_ ykt_ .byte (yag_ - (0 : Int32)) (own_cp ye_ (List.replicate ((yag_ - (0 : Int32))).toNatClampNeg (Value.int (0 : Int32))) (.int (0 : Int32)) (0 : Int32) (0 : Int32) (yag_ - (0 : Int32))) (.int (0 : Int32))
set_option maxRecDepth 65536 in
set_option maxHeartbeats 40000000 in
theorem rm25c (l : Launch) (Z : State) (a0 : Array Value) (hw : ∀ d ∈ tables_1, d.before a0 Z = true) (ws : List Jvm.Cond) (a1 : Addr) (yc_ : Addr) (yag_ : Int32) (ya_ : Int32) (yn_ : ClassId) (yd_ : Int32) (ye_ : List Value) (h0 : Heap) (n0 : Nat) (Z0 : n0 ≤ h0.size) (hcs : ¬ (ya_ = (0 : Int32))) (yae_ : Fld Z h0 a1 "java/lang/AbstractStringBuilder" "value" "[B" (.ref yc_)) (ybp_ : Fld Z h0 a1 "java/lang/AbstractStringBuilder" "count" "I" (.int yag_)) (yf_ : Sta Z h0 "java/lang/String" "COMPACT_STRINGS" "Z" (.int ya_)) (yam_ : Arv Z h0 yc_ yn_ .byte yd_ ye_ (.int (0 : Int32))) (E_a1 : Exa Z h0 a1 "java/lang/StringBuilder") (yac_ : Fld Z h0 a1 "java/lang/AbstractStringBuilder" "coder" "B" (.int (0 : Int32))) (yiw_ : ¬ (yag_ = yd_)) (ylc_ : ¬ (yag_ < (0 : Int32))) (yld_ : ¬ (yag_ - (0 : Int32)) < 0) (yle_ : ((yag_ - (0 : Int32))).toNatClampNeg ≤ 17) (ykn_ : (yag_ - (0 : Int32)) < (yd_ - (0 : Int32))) (ylf_ : ¬ (yag_ - (0 : Int32)) < 0) (ylg_ : ((0 : Int32)).toNatClampNeg + ((yag_ - (0 : Int32))).toNatClampNeg ≤ (yd_).toNatClampNeg) (ylh_ : ((0 : Int32)).toNatClampNeg + ((yag_ - (0 : Int32))).toNatClampNeg ≤ ((yag_ - (0 : Int32))).toNatClampNeg) (ylx_ : ((0 : Int32)).toNatClampNeg + ((yag_ - (0 : Int32))).toNatClampNeg ≤ ((List.replicate ((yag_ - (0 : Int32))).toNatClampNeg (Value.int (0 : Int32)))).length) :
    MetFree l mN26 (head1 (Jvm.Cond.code mN26 jdk_67_method_42_code 1 (some (.object "java/lang/String")) :: ws) ({ frames := 5, cells := 2, slots := 21, locals := 79 } : Room)) (fun a U => a = #[(.ref a1)] ∧ Z.Warmed39 U.vm ∧ U.heap = h0) (fun _ _ _ _ _ => True) (fun _ U o U' => ∃ v L, o = .returned v ∧ Q_rm25c Z a1 yc_ yag_ ya_ yn_ yd_ ye_ h0 n0 v U'.heap L ∧ FrameEnd U o U' L ({ frames := 5, cells := 2, slots := 21, locals := 79 } : Room).cells ({ frames := 5, cells := 2, slots := 21, locals := 79 } : Room).slots) := by
  have hi : ∀ (i : Nat) {d : Jvm.Cond}, tables_1[i]? = some d → d.before a0 Z = true := fun i d h => hw d (List.mem_of_getElem? h)
  refine MetFree.of_bodySF (plainFor_of_name pn_25) hisR ?_
  intro p e s m args below meth c s₁ Bd hml0 hP hK
  obtain ⟨rfl, hZ, hh⟩ := hP
  have hx := Bd.exec
  have hby := Bd.bytes
  have hml : c.maxLocals = 1 := hml0
  have hown : s.vm.findClass "java/lang/StringBuilder" = some m.cls := findClass_of_methodNamed Bd.named
  have hnm := (name_of_methodNamed Bd.named Bd.method).1
  have X0 : Stand p l e ({ frames := 5, cells := 2, slots := 21, locals := 79 } : Room) s m #[(.ref a1)] below meth c s₁ [] 0 0 := Stand.of_body Bd
  have e0 : s₁.heap = h0 := by rw [← hh, Bd.state]; rfl
  have N0 := Fr.nil n0
  obtain ⟨T2, h2, X2, e2, E2, A2, D2, -, st2⟩ := newO X0 hx hZ hown (hi 203 rfl) (hi 5 rfl) (hi 4 rfl) e0 (g := (mkF m 0 #[vA a1] [])) rfl (hb hby d25_0) (by decide) (by decide)
  obtain ⟨b2, g2⟩ : ∃ z, z = h0.size := ⟨_, rfl⟩
  rw [← g2] at A2 D2 st2
  have g_b2 : n0 ≤ b2 := Nat.le_trans Z0 (Nat.le_of_eq g2.symm)
  have sz_b2 : h0.size ≤ b2 := Nat.le_trans (Nat.le_refl h0.size) (Nat.le_of_eq g2.symm)
  have yku_ : Fld Z h2 b2 "java/lang/String" "value" "[B" .null := D2 (Or.inr (hi 7 rfl)) (ty := (.array .byte)) (by decide)
  have ykv_ : Fld Z h2 b2 "java/lang/String" "coder" "B" (.int (0 : Int32)) := D2 (Or.inr (hi 8 rfl)) (ty := .byte) (by decide)
  have f0 := (yae_.ext E2)
  have f1 := (ybp_.ext E2)
  have f2 := (yf_.ext E2)
  have f3 := (yam_.ext E2)
  have f4 := (E_a1.ext E2)
  have f5 := (yac_.ext E2)
  obtain ⟨_, _, ⟨T3, L3, k3, n3⟩, -, X3, ⟨Lc3, hQ3, l3, y3, z3⟩, st3⟩ := X2.specialBack hx (y := mN12) rfl hown (mvT hZ (hi 204 rfl)) (mvT hZ (hi 205 rfl)) (mvT hZ (hi 207 rfl)) (by decide) (backOf (W := 1) (rm26c l Z a0 hw [] b2 a1 yc_ yag_ ya_ (0 : Int32) yn_ yd_ ye_ .null h2 n0 (Nat.le_trans Z0 E2.1) hcs f0 f1 f2 ykv_ f3 yku_ f4 f5 A2 g_b2 (Nat.ne_of_lt (Nat.lt_of_lt_of_le yam_.lt sz_b2)) yiw_ ylc_ yld_ yle_ ykn_ ylf_ ylg_ ylh_ ylx_) hZ (hi 207 rfl) (hi 4 rfl) (by decide) (by decide)) (g := (mkF m 5 #[vA a1] [(.ref a1), (.ref b2), (.ref b2)])) rfl (by rw [hml]; rfl) (Steps.refl _) (a := b2) (argsL := [(.ref a1)]) (rest := [(.ref b2)]) (lenOf ydu_ rfl) rfl (by show 2 * 0 + _ ≤ _; exact Nat.le_of_eq rfl) (hb hby d25_5) (fun _ _ => ⟨rfl, e2, (by decide : 1 + 1 ≤ _), (by decide : 4 + 17 ≤ _)⟩)
  dsimp only [Pt.U, Pt.locs, Pt.cells, Pt.slots] at X3 l3 y3 z3 st3 hQ3
  subst l3 y3 z3
  obtain ⟨yej_, ⟨ykt_, ⟨rfl, N3q, K3, i3_0, i3_1, i3_2, i3_3, i3_4, i3_5⟩⟩⟩ := hQ3
  have N3 := Fr.app N0 N3q
  have ylk_ : h0.size ≤ yej_ := Nat.le_trans (Nat.le_trans (Nat.le_refl h0.size) E2.1) i3_0
  have yrh_ : n0 ≤ yej_ := Nat.le_trans Z0 ylk_
  obtain ⟨fs, hr, hrun, hended, hW, hsame⟩ := X3.leave (v := some (.ref b2)) (fun h => by rw [Bd.returns] at h; cases h)
  refine ⟨_, _, castTop (ef_25 m a1) ?_, hrun, hended, _, _, rfl, ?_, ⟨_, rfl⟩, hW, hsame.mono (by decide) (by decide)⟩
  · show Steps p.tables e below (s₁.setTop (mkF m 0 #[vA a1] [])) _
    refine st2 _ ?_
    refine XS.dup X2.here hx rfl (hb hby d25_3) rfl rfl ?_
    refine XS.aloadN X2.here hx rfl (hb hby d25_4) rfl rfl ?_
    refine st3.trans ?_
    show Steps p.tables e below (T3.setTop (mkF m 8 #[vA a1] [(.ref b2)])) _
    jvm_step X3.here [X3.here.top, hx, (hb hby d25_8), X3.method', Bd.returns, Value.isRef, FieldType.isReference]
    first | (intro acts; rw [hr _ acts rfl rfl rfl]) | rw [hr _ _ rfl rfl rfl]
    exact Steps.refl _
  · show Q_rm25c Z a1 yc_ yag_ ya_ yn_ yd_ ye_ h0 n0 _ T3.heap _
    exact ⟨b2, ⟨yej_, ⟨ykt_, ⟨rfl, N3, (((Keep.refl h0 []).ext E2).trans K3 (fun x q => (List.mem_cons.mp q).elim (fun r => by subst r; exact (Or.inr sz_b2)) (fun q => nomatch q))), sz_b2, ylk_, (Nat.ne_of_lt (Nat.lt_of_lt_of_le A2.lt i3_0)), i3_1, i3_2, i3_3, i3_4, i3_5⟩⟩⟩⟩
theorem d23_0 : decode prog_41_method_18_code 0 = .ok (.aload_n 0, 1) := by decide +kernel
theorem d23_1 : decode prog_41_method_18_code 1 = .ok (.getfield 23, 3) := by decide +kernel
theorem d23_4 : decode prog_41_method_18_code 4 = .ok (.invokeinterface 234 1, 5) := by decide +kernel
theorem d23_9 : decode prog_41_method_18_code 9 = .ok (.ifCond .ne 23, 3) := by decide +kernel
theorem d23_32 : decode prog_41_method_18_code 32 = .ok (.aload_n 0, 1) := by decide +kernel
theorem d23_33 : decode prog_41_method_18_code 33 = .ok (.getfield 19, 3) := by decide +kernel
theorem d23_36 : decode prog_41_method_18_code 36 = .ok (.invokevirtual 138, 3) := by decide +kernel
theorem d23_39 : decode prog_41_method_18_code 39 = .ok (.areturn, 1) := by decide +kernel
theorem pn_23 : plainName "underdeck/deck/SqlText" = true := by first | (simp [plainName, overriddenIn]; done) | decide +kernel
theorem ef_23 (m : MethodId) (x0 : Addr) : entryFrame m #[(.ref x0)] 1 = mkF m 0 #[.val (.ref x0)] [] := by first | (simp [entryFrame, mkF, argsToLocals, Value.category]; done) | rfl
def Q_rm23c (Z : State) (a1 : Addr) (ybf_ : Addr) (ys_ : Addr) (yw_ : Addr) (yaa_ : Int32) (ya_ : Int32) (yai_ : ClassId) (yas_ : Int32) (yab_ : List Value) (h0 : Heap) (n0 : Nat) (v : Option Value) (h : Heap) (L : List Loc) : Prop := ∃ b2_5 : Addr, ∃ ydv_ : Addr, ∃ yjh_ : ClassId, v = some (.ref b2_5) ∧ Fr n0 L ∧ Keep h0 h [] ∧ h0.size ≤ b2_5 ∧ h0.size ≤ ydv_ ∧ b2_5 ≠ ydv_ ∧ Exa Z h b2_5 "java/lang/String" ∧ Fld Z h b2_5 "java/lang/String" "coder" "B" (.int (0 : Int32)) ∧ Fld Z h b2_5 "java/lang/String" "value" "[B" (.ref ydv_) ∧ Exa Z h ydv_ "[B" ∧ Arv Z h ydv_ yjh_ .byte (yaa_ - (0 : Int32)) (own_cp yab_ (List.replicate ((yaa_ - (0 : Int32))).toNatClampNeg (Value.int (0 : Int32))) (.int (0 : Int32)) (0 : Int32) (0 : Int32) (yaa_ - (0 : Int32))) (.int (0 : Int32))
set_option maxRecDepth 65536 in
set_option maxHeartbeats 40000000 in
theorem rm23c (l : Launch) (Z : State) (a0 : Array Value) (hw : ∀ d ∈ tables_1, d.before a0 Z = true) (ws : List Jvm.Cond) (a1 : Addr) (ybf_ : Addr) (ys_ : Addr) (yw_ : Addr) (yaa_ : Int32) (ya_ : Int32) (yai_ : ClassId) (yas_ : Int32) (yab_ : List Value) (h0 : Heap) (n0 : Nat) (Z0 : n0 ≤ h0.size) (hcs : ¬ (ya_ = (0 : Int32))) (yeg_ : Fld Z h0 a1 "underdeck/deck/SqlText" "placeholders" "Ljava/util/List;" (.ref ybf_)) (yer_ : Fld Z h0 ybf_ "java/util/ArrayList" "size" "I" (.int (0 : Int32))) (ygf_ : Exa Z h0 ybf_ "java/util/ArrayList") (yda_ : Fld Z h0 a1 "underdeck/deck/SqlText" "current" "Ljava/lang/StringBuilder;" (.ref ys_)) (ybv_ : Fld Z h0 ys_ "java/lang/AbstractStringBuilder" "value" "[B" (.ref yw_)) (ybw_ : Fld Z h0 ys_ "java/lang/AbstractStringBuilder" "count" "I" (.int yaa_)) (yf_ : Sta Z h0 "java/lang/String" "COMPACT_STRINGS" "Z" (.int ya_)) (ybr_ : Arv Z h0 yw_ yai_ .byte yas_ yab_ (.int (0 : Int32))) (yca_ : Exa Z h0 ys_ "java/lang/StringBuilder") (ybx_ : Fld Z h0 ys_ "java/lang/AbstractStringBuilder" "coder" "B" (.int (0 : Int32))) (ygy_ : ¬ (yaa_ = yas_)) (yjk_ : ¬ (yaa_ < (0 : Int32))) (yjl_ : ¬ (yaa_ - (0 : Int32)) < 0) (yjm_ : ((yaa_ - (0 : Int32))).toNatClampNeg ≤ 17) (yje_ : (yaa_ - (0 : Int32)) < (yas_ - (0 : Int32))) (yjn_ : ¬ (yaa_ - (0 : Int32)) < 0) (yjo_ : ((0 : Int32)).toNatClampNeg + ((yaa_ - (0 : Int32))).toNatClampNeg ≤ (yas_).toNatClampNeg) (yjp_ : ((0 : Int32)).toNatClampNeg + ((yaa_ - (0 : Int32))).toNatClampNeg ≤ ((yaa_ - (0 : Int32))).toNatClampNeg) (yke_ : ((0 : Int32)).toNatClampNeg + ((yaa_ - (0 : Int32))).toNatClampNeg ≤ ((List.replicate ((yaa_ - (0 : Int32))).toNatClampNeg (Value.int (0 : Int32)))).length) :
    MetFree l mN51 (head1 (Jvm.Cond.code mN51 prog_41_method_18_code 1 (some (.object "java/lang/String")) :: ws) ({ frames := 6, cells := 2, slots := 21, locals := 91 } : Room)) (fun a U => a = #[(.ref a1)] ∧ Z.Warmed39 U.vm ∧ U.heap = h0) (fun _ _ _ _ _ => True) (fun _ U o U' => ∃ v L, o = .returned v ∧ Q_rm23c Z a1 ybf_ ys_ yw_ yaa_ ya_ yai_ yas_ yab_ h0 n0 v U'.heap L ∧ FrameEnd U o U' L ({ frames := 6, cells := 2, slots := 21, locals := 91 } : Room).cells ({ frames := 6, cells := 2, slots := 21, locals := 91 } : Room).slots) := by
  have hi : ∀ (i : Nat) {d : Jvm.Cond}, tables_1[i]? = some d → d.before a0 Z = true := fun i d h => hw d (List.mem_of_getElem? h)
  refine MetFree.of_bodySF (plainFor_of_name pn_23) hisR ?_
  intro p e s m args below meth c s₁ Bd hml0 hP hK
  obtain ⟨rfl, hZ, hh⟩ := hP
  have hx := Bd.exec
  have hby := Bd.bytes
  have hml : c.maxLocals = 1 := hml0
  have hown : s.vm.findClass "underdeck/deck/SqlText" = some m.cls := findClass_of_methodNamed Bd.named
  have hnm := (name_of_methodNamed Bd.named Bd.method).1
  have X0 : Stand p l e ({ frames := 6, cells := 2, slots := 21, locals := 91 } : Room) s m #[(.ref a1)] below meth c s₁ [] 0 0 := Stand.of_body Bd
  have e0 : s₁.heap = h0 := by rw [← hh, Bd.state]; rfl
  have N0 := Fr.nil n0
  obtain ⟨T2, X2, e2, st2⟩ := getF X0 hx hZ hown (host := "") (Or.inl (hi 69 rfl)) Via.refl e0 yeg_ (g := (mkF m 1 #[vA a1] [(.ref a1)])) rfl rfl (hb hby d23_1)
  obtain ⟨cq3, kq3, q3a, q3b, q3c⟩ := isOf hZ e2 ygf_
  obtain ⟨_, _, ⟨T3, L3, k3, n3⟩, -, X3, ⟨Lc3, hQ3, l3, y3, z3⟩, st3⟩ := X2.interfaceBack hx (xi := (⟨"java/util/List", "isEmpty", "()Z"⟩ : MethodName)) (y := mN38) hown (mvT hZ (hi 187 rfl)) (mvT hZ (hi 188 rfl)) (mvT hZ (hi 189 rfl)) (mvT hZ (hi 190 rfl)) (mvT hZ (hi 191 rfl)) (mvT hZ (hi 192 rfl)) (mvT hZ (hi 193 rfl)) (mvT hZ (hi 194 rfl)) (by decide) (backOf (W := 0) (rm24 l Z a0 hw [] ybf_ h0 n0 Z0 yer_) hZ (hi 195 rfl) (hi 25 rfl) (by decide) (by decide)) q3a q3b q3c (g := (mkF m 4 #[vA a1] [(.ref ybf_)])) rfl (by rw [hml]; rfl) (Steps.refl _) (argsL := []) (rest := []) (lenOf yhn_ rfl) rfl (by show 2 * 0 + _ ≤ _; exact Nat.le_of_eq rfl) (hb hby d23_4) (fun _ _ => ⟨rfl, e2, (by decide : 0 + 0 ≤ _), (by decide : 0 + 0 ≤ _)⟩)
  dsimp only [Pt.U, Pt.locs, Pt.cells, Pt.slots] at X3 l3 y3 z3 st3 hQ3
  subst l3 y3 z3
  obtain ⟨rfl, N3q, e3⟩ := hQ3
  have N3 := Fr.app N0 N3q
  obtain ⟨T4, X4, e4, st4⟩ := getF X3 hx hZ hown (host := "") (Or.inl (hi 67 rfl)) Via.refl e3 yda_ (g := (mkF m 33 #[vA a1] [(.ref a1)])) rfl rfl (hb hby d23_33)
  obtain ⟨cq5, kq5, q5a, q5b, q5c⟩ := isOf hZ e4 yca_
  obtain ⟨_, _, ⟨T5, L5, k5, n5⟩, -, X5, ⟨Lc5, hQ5, l5, y5, z5⟩, st5⟩ := X4.virtualBack hx (y := mN26) (z := mN26) hown (mvT hZ (hi 198 rfl)) (mvT hZ (hi 199 rfl)) (notFace_of_selects (args := #[]) (mvT hZ (hi 201 rfl))) (mvT hZ (hi 201 rfl)) (mvT hZ (hi 200 rfl)) (by decide) (backOf (W := 0) (rm25c l Z a0 hw [] ys_ yw_ yaa_ ya_ yai_ yas_ yab_ h0 n0 Z0 hcs ybv_ ybw_ yf_ ybr_ yca_ ybx_ ygy_ yjk_ yjl_ yjm_ yje_ yjn_ yjo_ yjp_ yke_) hZ (hi 202 rfl) (hi 51 rfl) (by decide) (by decide)) q5a q5c (g := (mkF m 36 #[vA a1] [(.ref ys_)])) rfl (by rw [hml]; rfl) (Steps.refl _) (argsL := []) (rest := []) (lenOf ybh_ rfl) rfl (by show 2 * 0 + _ ≤ _; exact Nat.le_of_eq rfl) (hb hby d23_36) (fun _ _ => ⟨rfl, e4, (by decide : 0 + 2 ≤ _), (by decide : 0 + 21 ≤ _)⟩)
  dsimp only [Pt.U, Pt.locs, Pt.cells, Pt.slots] at X5 l5 y5 z5 st5 hQ5
  subst l5 y5 z5
  obtain ⟨b2_5, ⟨ydv_, ⟨yjh_, ⟨rfl, N5q, K5, i5_0, i5_1, i5_2, i5_3, i5_4, i5_5, i5_6, i5_7⟩⟩⟩⟩ := hQ5
  have N5 := Fr.app N3 N5q
  have sz_b2_5 : h0.size ≤ b2_5 := Nat.le_trans (Nat.le_refl h0.size) i5_0
  have g_b2_5 : n0 ≤ b2_5 := Nat.le_trans Z0 sz_b2_5
  have yjw_ : h0.size ≤ ydv_ := Nat.le_trans (Nat.le_refl h0.size) i5_1
  have yrf_ : n0 ≤ ydv_ := Nat.le_trans Z0 yjw_
  obtain ⟨fs, hr, hrun, hended, hW, hsame⟩ := X5.leave (v := some (.ref b2_5)) (fun h => by rw [Bd.returns] at h; cases h)
  refine ⟨_, _, castTop (ef_23 m a1) ?_, hrun, hended, _, _, rfl, ?_, ⟨_, rfl⟩, hW, hsame.mono (by decide) (by decide)⟩
  · show Steps p.tables e below (s₁.setTop (mkF m 0 #[vA a1] [])) _
    refine XS.aloadN X0.here hx rfl (hb hby d23_0) rfl rfl ?_
    refine st2 _ ?_
    refine st3.trans ?_
    refine XS.ifYes X3.here hx rfl (pc0 := 9) (pc' := 32) rfl (hb hby d23_9) rfl ((if0 _ _).trans (feq (by decide : ¬ ((1 : Int32) = (0 : Int32)))).2) (by decide) (by decide) ?_
    refine XS.aloadN X3.here hx rfl (hb hby d23_32) rfl rfl ?_
    refine st4 _ ?_
    refine st5.trans ?_
    show Steps p.tables e below (T5.setTop (mkF m 39 #[vA a1] [(.ref b2_5)])) _
    jvm_step X5.here [X5.here.top, hx, (hb hby d23_39), X5.method', Bd.returns, Value.isRef, FieldType.isReference]
    first | (intro acts; rw [hr _ acts rfl rfl rfl]) | rw [hr _ _ rfl rfl rfl]
    exact Steps.refl _
  · show Q_rm23c Z a1 ybf_ ys_ yw_ yaa_ ya_ yai_ yas_ yab_ h0 n0 _ T5.heap _
    exact ⟨b2_5, ⟨ydv_, ⟨yjh_, ⟨rfl, N5, ((Keep.refl h0 []).trans K5 (fun x q => nomatch q)), sz_b2_5, yjw_, i5_2, i5_3, i5_4, i5_5, i5_6, i5_7⟩⟩⟩⟩
theorem own_cloneV {p : Program} {l : Launch} {e : Env} {R : Room} {s : State} {m : MethodId} {args : Array Value} {below : List Frame} {meth : Method} {c : Code} {T : State} {locs : List Loc} {cells slots : Nat} {Z : State} {a : Addr} {h : Heap} {ty : FieldType} (X : Stand p l e R s m args below meth c T locs cells slots) (hx : p.tables.exec = Jvm.exec) (hZ : Z.Warmed39 s.vm) {a0 : Array Value} {own ad : String} {index : Nat} (hown : s.vm.findClass own = some m.cls)
    (w1 : (Cond.methodLink own index ⟨ad, "clone", "()Ljava/lang/Object;"⟩).before a0 Z = true) (w2 : (Cond.sameMethod ad "java/lang/Object" "clone" "()Ljava/lang/Object;").before a0 Z = true) (w3 : (Cond.native ⟨"java/lang/Object", "clone", "()Ljava/lang/Object;"⟩).before a0 Z = true)
    (w4 : (Cond.instanceMethod ⟨"java/lang/Object", "clone", "()Ljava/lang/Object;"⟩).before a0 Z = true) (w5 : (Cond.selects ad ⟨ad, "clone", "()Ljava/lang/Object;"⟩ ⟨"java/lang/Object", "clone", "()Ljava/lang/Object;"⟩).before a0 Z = true) (w6 : (Cond.castable ad "java/lang/Cloneable").before a0 Z = true)
    (eT : T.heap = h) {k : ClassId} {z : Int32} {vs : List Value} {dv : Value} (F : Arv Z h a k ty z vs dv) (E : Exa Z h a ad) {g : JFrame} (hg : g.method = m) (hsize : g.locals.size = c.maxLocals) {rest : List Value} (hst : g.stack = .ref a :: rest) (hd : decode c.code g.pc = .ok (.invokevirtual index, 3))
    (hf : 1 ≤ R.frames) {W cap : Nat} (hW : 2 * g.monitorRoom + (rest.map fun v => v.category).sum ≤ W) (hl : W + 14 ≤ R.locals) (hcap : z.toNatClampNeg ≤ cap) (hc : cells + 1 ≤ R.cells) (hsl : slots + cap ≤ R.slots) :
    ∃ T' h', Stand p l e R s m args below meth c T' locs (cells + 1) (slots + cap) ∧ T'.heap = h' ∧ Ext h h' ∧ Arv Z h' h.size k ty z vs dv ∧ Exa Z h' h.size ad ∧
      ∀ target, Steps p.tables e below (T'.setTop { g with pc := g.pc + 3, stack := .ref h.size :: rest }) target → Steps p.tables e below (T.setTop g) target := by
  obtain ⟨cl, A, q1, S, q3, H, G⟩ := F
  have FC : FitC Z cl := fitC_of A fun i hi v hv => by rw [H i hi] at hv; cases hv; exact G i hi
  obtain ⟨T', h', X', e', ex, A', E', st⟩ := cloneA X hx hZ hown w1 w2 w3 w4 w5 w6 eT A E FC hg hsize hst hd hf hW hl (by rw [S]; exact hcap) hc hsl
  exact ⟨T', h', X', e', ex, ⟨cloneOf cl, A', q1, S, q3, H, G⟩, E', st⟩
theorem d32_17 : decode jdk_65_method_132_code 17 = .ok (.aload_n 0, 1) := by decide +kernel
theorem d32_18 : decode jdk_65_method_132_code 18 = .ok (.invokevirtual 310, 3) := by decide +kernel
theorem d32_21 : decode jdk_65_method_132_code 21 = .ok (.checkcast 311, 3) := by decide +kernel
theorem d32_24 : decode jdk_65_method_132_code 24 = .ok (.areturn, 1) := by decide +kernel
def Q_rm32k (Z : State) (a1 : Addr) (p2 : Int32) (k_a1 : ClassId) (vs_a1 : List Value) (h0 : Heap) (n0 : Nat) (v : Option Value) (h : Heap) (L : List Loc) : Prop := ∃ b3 : Addr, v = some (.ref b3) ∧ Fr n0 L ∧ Keep h0 h [] ∧ h0.size ≤ b3 ∧ Exa Z h b3 "[B" ∧ Arv Z h b3 k_a1 .byte (16 : Int32) vs_a1 (.int (0 : Int32))
set_option maxRecDepth 65536 in
set_option maxHeartbeats 40000000 in
theorem rm32k (l : Launch) (Z : State) (a0 : Array Value) (hw : ∀ d ∈ tables_1, d.before a0 Z = true) (ws : List Jvm.Cond) (a1 : Addr) (p2 : Int32) (k_a1 : ClassId) (vs_a1 : List Value) (h0 : Heap) (n0 : Nat) (Z0 : n0 ≤ h0.size) (E_a1 : Exa Z h0 a1 "[B") (V_a1 : Arv Z h0 a1 k_a1 .byte (16 : Int32) vs_a1 (.int (0 : Int32))) (hc7 : p2 = (16 : Int32)) :
    MetFree l mN41 (head1 (Jvm.Cond.code mN41 jdk_65_method_132_code 3 (some (.array .byte)) :: ws) ({ frames := 1, cells := 1, slots := 16, locals := 14 } : Room)) (fun a U => a = #[(.ref a1), (.int (0 : Int32)), (.int p2)] ∧ Z.Warmed39 U.vm ∧ U.heap = h0) (fun _ _ _ _ _ => True) (fun _ U o U' => ∃ v L, o = .returned v ∧ Q_rm32k Z a1 p2 k_a1 vs_a1 h0 n0 v U'.heap L ∧ FrameEnd U o U' L ({ frames := 1, cells := 1, slots := 16, locals := 14 } : Room).cells ({ frames := 1, cells := 1, slots := 16, locals := 14 } : Room).slots) := by
  have hi : ∀ (i : Nat) {d : Jvm.Cond}, tables_1[i]? = some d → d.before a0 Z = true := fun i d h => hw d (List.mem_of_getElem? h)
  refine MetFree.of_bodySF (plainFor_of_name pn_32) hisR ?_
  intro p e s m args below meth c s₁ Bd hml0 hP hK
  obtain ⟨rfl, hZ, hh⟩ := hP
  have hx := Bd.exec
  have hby := Bd.bytes
  have hml : c.maxLocals = 3 := hml0
  have hown : s.vm.findClass "java/util/Arrays" = some m.cls := findClass_of_methodNamed Bd.named
  have hnm := (name_of_methodNamed Bd.named Bd.method).1
  have X0 : Stand p l e ({ frames := 1, cells := 1, slots := 16, locals := 14 } : Room) s m #[(.ref a1), (.int (0 : Int32)), (.int p2)] below meth c s₁ [] 0 0 := Stand.of_body Bd
  have e0 : s₁.heap = h0 := by rw [← hh, Bd.state]; rfl
  have N0 := Fr.nil n0
  obtain ⟨cl_a1_0, Ar_a1_0, q_a1_0, Sz_a1_0, Ng_a1_0, Ha_a1_0, Gt_a1_0⟩ := id V_a1
  obtain ⟨T3, h3, X3, e3, E3, V3, iE3, st3⟩ := own_cloneV X0 hx hZ hown (hi 291 rfl) (hi 292 rfl) (hi 296 rfl) (hi 294 rfl) (hi 295 rfl) (hi 297 rfl) e0 V_a1 E_a1 (g := (mkF m 18 #[vA a1, vI (0 : Int32), vI p2] [(.ref a1)])) rfl (by rw [hml]; rfl) (rest := []) rfl (hb hby d32_18) (by decide) (W := 0) (cap := 16) (by show 2 * 0 + _ ≤ _; exact Nat.le_of_eq rfl) (by decide) (by decide) (by decide) (by decide)
  obtain ⟨b3, g3⟩ : ∃ z, z = h0.size := ⟨_, rfl⟩
  rw [← g3] at V3 iE3 st3
  have g_b3 : n0 ≤ b3 := Nat.le_trans Z0 (Nat.le_of_eq g3.symm)
  have sz_b3 : h0.size ≤ b3 := Nat.le_trans (Nat.le_refl h0.size) (Nat.le_of_eq g3.symm)
  obtain ⟨T4, X4, e4, st4⟩ := castY X3 hx hZ hown (hi 298 rfl) e3 (Ins.of_exa iE3 (hi 299 rfl)) (g := (mkF m 21 #[vA a1, vI (0 : Int32), vI p2] [(.ref b3)])) rfl (rest := []) rfl (hb hby d32_21)
  obtain ⟨fs, hr, hrun, hended, hW, hsame⟩ := X4.leave (v := some (.ref b3)) (fun h => by rw [Bd.returns] at h; cases h)
  refine ⟨_, _, castTop (ef_32 m a1 (0 : Int32) p2) ?_, hrun, hended, _, _, rfl, ?_, ⟨_, rfl⟩, hW, hsame.mono (by decide) (by decide)⟩
  · show Steps p.tables e below (s₁.setTop (mkF m 0 #[vA a1, vI (0 : Int32), vI p2] [])) _
    refine XS.iloadN X0.here hx rfl (hb hby d32_0) rfl ?_
    refine XS.ifNo X0.here hx rfl (hb hby d32_1) rfl ((if0 _ _).trans (teq (rfl : (0 : Int32) = (0 : Int32))).2) ?_
    refine XS.iloadN X0.here hx rfl (hb hby d32_4) rfl ?_
    refine XS.aloadN X0.here hx rfl (hb hby d32_5) rfl rfl ?_
    refine X0.arraylength hx (by rw [e0]; exact Ar_a1_0.1) (State.isArrayOf_alike hZ.alike Ar_a1_0.2.1) (g := (mkF m 6 #[vA a1, vI (0 : Int32), vI p2] [(.ref a1), (.int p2)])) rfl rfl (hb hby d32_6) _ ?_
    rw [len_of Sz_a1_0 Ng_a1_0]
    refine XS.icmpYes X0.here hx rfl (pc0 := 7) (pc' := 17) rfl (hb hby d32_7) rfl (teq hc7).1 (by decide) (by decide) ?_
    refine XS.aloadN X0.here hx rfl (hb hby d32_17) rfl rfl ?_
    refine st3 _ ?_
    refine st4 _ ?_
    show Steps p.tables e below (T4.setTop (mkF m 24 #[vA a1, vI (0 : Int32), vI p2] [(.ref b3)])) _
    jvm_step X4.here [X4.here.top, hx, (hb hby d32_24), X4.method', Bd.returns, Value.isRef, FieldType.isReference]
    first | (intro acts; rw [hr _ acts rfl rfl rfl]) | rw [hr _ _ rfl rfl rfl]
    exact Steps.refl _
  · show Q_rm32k Z a1 p2 k_a1 vs_a1 h0 n0 _ T4.heap _
    rw [e4]
    exact ⟨b3, ⟨rfl, N0, ((Keep.refl h0 []).ext E3), sz_b3, iE3, V3⟩⟩
def Q_rm27k (Z : State) (a1 : Addr) (a2 : Addr) (yz_ : Addr) (yan_ : Int32) (ya_ : Int32) (yaq_ : Int32) (yc_ : Value) (yak_ : ClassId) (yad_ : List Value) (h0 : Heap) (n0 : Nat) (v : Option Value) (h : Heap) (L : List Loc) : Prop := ∃ b3_8 : Addr, v = none ∧ Fr n0 L ∧ Keep h0 h [a1] ∧ h0.size ≤ b3_8 ∧ Exa Z h a1 "java/lang/String" ∧ Fld Z h a1 "java/lang/String" "coder" "B" (.int (0 : Int32)) ∧ Fld Z h a1 "java/lang/String" "value" "[B" (.ref b3_8) ∧ Exa Z h b3_8 "[B" ∧ Arv Z h b3_8 yak_ .byte (16 : Int32) yad_ (.int (0 : Int32))
set_option maxRecDepth 65536 in
set_option maxHeartbeats 40000000 in
theorem rm27k (l : Launch) (Z : State) (a0 : Array Value) (hw : ∀ d ∈ tables_1, d.before a0 Z = true) (ws : List Jvm.Cond) (a1 : Addr) (a2 : Addr) (yz_ : Addr) (yan_ : Int32) (ya_ : Int32) (yaq_ : Int32) (yc_ : Value) (yak_ : ClassId) (yad_ : List Value) (h0 : Heap) (n0 : Nat) (Z0 : n0 ≤ h0.size) (hcs : ¬ (ya_ = (0 : Int32))) (ycc_ : Fld Z h0 a2 "java/lang/AbstractStringBuilder" "value" "[B" (.ref yz_)) (E_a2 : Exa Z h0 a2 "java/lang/StringBuilder") (yga_ : Fld Z h0 a2 "java/lang/AbstractStringBuilder" "count" "I" (.int yan_)) (yf_ : Sta Z h0 "java/lang/String" "COMPACT_STRINGS" "Z" (.int ya_)) (ybt_ : Fld Z h0 a2 "java/lang/AbstractStringBuilder" "coder" "B" (.int (0 : Int32))) (E_a1 : Exa Z h0 a1 "java/lang/String") (yac_ : Fld Z h0 a1 "java/lang/String" "coder" "B" (.int yaq_)) (g_a1 : n0 ≤ a1) (yji_ : Exa Z h0 yz_ "[B") (yae_ : Fld Z h0 a1 "java/lang/String" "value" "[B" yc_) (ybq_ : Arv Z h0 yz_ yak_ .byte (16 : Int32) yad_ (.int (0 : Int32))) (ycn_ : yz_ ≠ a1) (hhc7_32 : yan_ = (16 : Int32)) :
    MetFree l mN11 (head1 (Jvm.Cond.code mN11 jdk_42_method_150_code 5 none :: ws) ({ frames := 2, cells := 1, slots := 16, locals := 29 } : Room)) (fun a U => a = #[(.ref a1), (.ref a2), .null] ∧ Z.Warmed39 U.vm ∧ U.heap = h0) (fun _ _ _ _ _ => True) (fun _ U o U' => ∃ v L, o = .returned v ∧ Q_rm27k Z a1 a2 yz_ yan_ ya_ yaq_ yc_ yak_ yad_ h0 n0 v U'.heap L ∧ FrameEnd U o U' L ({ frames := 2, cells := 1, slots := 16, locals := 29 } : Room).cells ({ frames := 2, cells := 1, slots := 16, locals := 29 } : Room).slots) := by
  have hi : ∀ (i : Nat) {d : Jvm.Cond}, tables_1[i]? = some d → d.before a0 Z = true := fun i d h => hw d (List.mem_of_getElem? h)
  refine MetFree.of_bodySF (plainFor_of_name pn_27) hisR ?_
  intro p e s m args below meth c s₁ Bd hml0 hP hK
  obtain ⟨rfl, hZ, hh⟩ := hP
  have hx := Bd.exec
  have hby := Bd.bytes
  have hml : c.maxLocals = 5 := hml0
  have hown : s.vm.findClass "java/lang/String" = some m.cls := findClass_of_methodNamed Bd.named
  have hnm := (name_of_methodNamed Bd.named Bd.method).1
  have X0 : Stand p l e ({ frames := 2, cells := 1, slots := 16, locals := 29 } : Room) s m #[(.ref a1), (.ref a2), .null] below meth c s₁ [] 0 0 := Stand.of_body Bd
  have e0 : s₁.heap = h0 := by rw [← hh, Bd.state]; rfl
  have N0 := Fr.nil n0
  obtain ⟨T3, X3, e3, st3⟩ := initO X0 hx hZ hown (hi 211 rfl) (hi 21 rfl) (hi 22 rfl) e0 (g := (mkF m 1 #[vA a1, vA a2, .val .null, vU, vU] [(.ref a1)])) rfl (by rw [hml]; rfl) rfl (hb hby d27_1) (by decide) (W := 0) (by show 2 * 0 + _ ≤ _; exact Nat.le_of_eq rfl) (by decide)
  obtain ⟨cq4, kq4, q4a, q4b, q4c⟩ := isOf hZ e3 E_a2
  obtain ⟨_, _, ⟨T4, L4, k4, n4⟩, -, X4, ⟨Lc4, hQ4, l4, y4, z4⟩, st4⟩ := X3.virtualBack hx (y := mN3) (z := mN3) hown (mvT hZ (hi 212 rfl)) (mvT hZ (hi 213 rfl)) (notFace_of_selects (args := #[]) (mvT hZ (hi 215 rfl))) (mvT hZ (hi 215 rfl)) (mvT hZ (hi 214 rfl)) (by decide) (backOf (W := 0) (rm28 l Z a0 hw [] a2 yz_ h0 n0 Z0 ycc_) hZ (hi 216 rfl) (hi 59 rfl) (by decide) (by decide)) q4a q4c (g := (mkF m 5 #[vA a1, vA a2, .val .null, vU, vU] [(.ref a2)])) rfl (by rw [hml]; rfl) (Steps.refl _) (argsL := []) (rest := []) (lenOf ylj_ rfl) rfl (by show 2 * 0 + _ ≤ _; exact Nat.le_of_eq rfl) (hb hby d27_5) (fun _ _ => ⟨rfl, e3, (by decide : 0 + 0 ≤ _), (by decide : 0 + 0 ≤ _)⟩)
  dsimp only [Pt.U, Pt.locs, Pt.cells, Pt.slots] at X4 l4 y4 z4 st4 hQ4
  subst l4 y4 z4
  obtain ⟨rfl, N4q, e4⟩ := hQ4
  have N4 := Fr.app N0 N4q
  obtain ⟨cq5, kq5, q5a, q5b, q5c⟩ := isOf hZ e4 E_a2
  obtain ⟨_, _, ⟨T5, L5, k5, n5⟩, -, X5, ⟨Lc5, hQ5, l5, y5, z5⟩, st5⟩ := X4.virtualBack hx (y := mN6) (z := mN25) hown (mvT hZ (hi 217 rfl)) (mvT hZ (hi 218 rfl)) (own_face (args := #[]) (mvT hZ (hi 147 rfl)) rfl) (mvT hZ (hi 220 rfl)) (mvT hZ (hi 221 rfl)) (by decide) (backOf (W := 0) (rm29 l Z a0 hw [] a2 yan_ h0 n0 Z0 yga_ E_a2) hZ (hi 222 rfl) (hi 51 rfl) (by decide) (by decide)) q5a q5c (g := (mkF m 10 #[vA a1, vA a2, .val .null, vA yz_, vU] [(.ref a2)])) rfl (by rw [hml]; rfl) (Steps.refl _) (argsL := []) (rest := []) (lenOf ycf_ rfl) rfl (by show 2 * 0 + _ ≤ _; exact Nat.le_of_eq rfl) (hb hby d27_10) (fun _ _ => ⟨rfl, e4, (by decide : 0 + 0 ≤ _), (by decide : 0 + 0 ≤ _)⟩)
  dsimp only [Pt.U, Pt.locs, Pt.cells, Pt.slots] at X5 l5 y5 z5 st5 hQ5
  subst l5 y5 z5
  obtain ⟨rfl, N5q, e5⟩ := hQ5
  have N5 := Fr.app N4 N5q
  obtain ⟨cq6, kq6, q6a, q6b, q6c⟩ := isOf hZ e5 E_a2
  obtain ⟨_, _, ⟨T6, L6, k6, n6⟩, -, X6, ⟨Lc6, hQ6, l6, y6, z6⟩, st6⟩ := X5.virtualBack hx (y := mN5) (z := mN5) hown (mvT hZ (hi 225 rfl)) (mvT hZ (hi 226 rfl)) (notFace_of_selects (args := #[]) (mvT hZ (hi 228 rfl))) (mvT hZ (hi 228 rfl)) (mvT hZ (hi 227 rfl)) (by decide) (backOf (W := 0) (rm31 l Z a0 hw [] a2 ya_ h0 n0 Z0 hcs yf_ ybt_) hZ (hi 229 rfl) (hi 59 rfl) (by decide) (by decide)) q6a q6c (g := (mkF m 16 #[vA a1, vA a2, .val .null, vA yz_, vI yan_] [(.ref a2)])) rfl (by rw [hml]; rfl) (Steps.refl _) (argsL := []) (rest := []) (lenOf yhn_ rfl) rfl (by show 2 * 0 + _ ≤ _; exact Nat.le_of_eq rfl) (hb hby d27_16) (fun _ _ => ⟨rfl, e5, (by decide : 0 + 0 ≤ _), (by decide : 0 + 0 ≤ _)⟩)
  dsimp only [Pt.U, Pt.locs, Pt.cells, Pt.slots] at X6 l6 y6 z6 st6 hQ6
  subst l6 y6 z6
  obtain ⟨rfl, N6q, e6⟩ := hQ6
  have N6 := Fr.app N5 N6q
  obtain ⟨T7, h7, X7, e7, W7, st7⟩ := putFN X6 hx hZ hown (hi 141 rfl) Via.refl e6 yac_ E_a1 (Or.inr ⟨(hi 8 rfl), rfl, hnm⟩) (hi 5 rfl) (ty := .byte) (v' := (.int (0 : Int32))) (by decide) rfl rfl (g := (mkF m 24 #[vA a1, vA a2, .val .null, vA yz_, vI yan_] [(.int (0 : Int32)), (.ref a1)])) rfl rfl (hb hby d27_24)
  have Fw7 := yac_.same W7
  have N7 := Fr.snoc X7 N6 g_a1
  have f0 := (yji_.wr W7)
  have f1 := (ybq_.other W7 ycn_)
  obtain ⟨_, _, ⟨T8, L8, k8, n8⟩, -, X8, ⟨Lc8, hQ8, l8, y8, z8⟩, st8⟩ := Jvm.LawKit.callS X7 hx (y := mN41) hown (mvT hZ (hi 230 rfl)) (mvT hZ (hi 231 rfl)) (mvT hZ (hi 232 rfl)) (mvT hZ (hi 233 rfl)) (by decide) (backOf (W := 1) (rm32k l Z a0 hw [] yz_ yan_ yak_ yad_ h7 n0 (Nat.le_trans Z0 (Keep.of_wr W7).1) f0 f1 hhc7_32) hZ (hi 233 rfl) (hi 232 rfl) (by decide) (by decide)) (g := (mkF m 32 #[vA a1, vA a2, .val .null, vA yz_, vI yan_] [(.int yan_), (.int (0 : Int32)), (.ref yz_), (.ref a1)])) rfl (by rw [hml]; rfl) (argsL := [(.ref yz_), (.int (0 : Int32)), (.int yan_)]) (rest := [(.ref a1)]) (lenOf yge_ rfl) rfl (by show 2 * 0 + _ ≤ _; exact Nat.le_of_eq rfl) (hb hby d27_32) (fun _ _ => ⟨rfl, e7, (by decide : 0 + 1 ≤ _), (by decide : 0 + 16 ≤ _)⟩)
  dsimp only [Pt.U, Pt.locs, Pt.cells, Pt.slots] at X8 l8 y8 z8 st8 hQ8
  subst l8 y8 z8
  obtain ⟨b3_8, ⟨rfl, N8q, K8, i8_0, i8_1, i8_2⟩⟩ := hQ8
  have N8 := Fr.app N7 N8q
  have sz_b3_8 : h0.size ≤ b3_8 := Nat.le_trans (Nat.le_trans (Nat.le_refl h0.size) (Keep.of_wr W7).1) i8_0
  have g_b3_8 : n0 ≤ b3_8 := Nat.le_trans Z0 sz_b3_8
  have f2 := ((E_a1.wr W7).keep K8)
  have f3 := ((yae_.other W7 (Or.inr (slot_ne (Or.inr (hi 7 rfl)) (Or.inr (hi 8 rfl)) (by decide) (t := (.array .byte)) (t' := .byte) (by decide) (by decide)))).keep K8 own_n0)
  obtain ⟨T9, h9, X9, e9, W9, st9⟩ := putF X8 hx hZ hown (host := "") (Or.inl (hi 134 rfl)) Via.refl rfl f3 f2 (Or.inr ⟨(hi 7 rfl), rfl, hnm⟩) (hi 5 rfl) (ty := (.array .byte)) (by decide) rfl rfl (g := (mkF m 35 #[vA a1, vA a2, .val .null, vA yz_, vI yan_] [(.ref b3_8), (.ref a1)])) rfl rfl (hb hby d27_35)
  have Fw9 := f3.same W9
  have N9 := Fr.snoc X9 N8 g_a1
  have f4 := (f2.wr W9)
  have f5 := ((Fw7.keep K8 own_n0).other W9 (Or.inr (slot_ne (Or.inr (hi 8 rfl)) (Or.inr (hi 7 rfl)) (by decide) (t := .byte) (t' := (.array .byte)) (by decide) (by decide))))
  have f6 := (i8_1.wr W9)
  have f7 := (i8_2.other W9 (Ne.symm (Nat.ne_of_lt (Nat.lt_of_lt_of_le E_a1.lt sz_b3_8))))
  obtain ⟨fs, hr, hrun, hended, hW, hsame⟩ := X9.leave (v := none) (fun _ => rfl)
  refine ⟨_, _, castTop (ef_27n2 m a1 a2) ?_, hrun, hended, _, _, rfl, ?_, ⟨_, rfl⟩, hW, hsame.mono (by decide) (by decide)⟩
  · show Steps p.tables e below (s₁.setTop (mkF m 0 #[vA a1, vA a2, .val .null, vU, vU] [])) _
    refine XS.aloadN X0.here hx rfl (hb hby d27_0) rfl rfl ?_
    refine st3 _ ?_
    refine XS.aloadN X3.here hx rfl (hb hby d27_4) rfl rfl ?_
    refine st4.trans ?_
    refine XS.astoreN X4.here hx rfl (hb hby d27_8) rfl rfl (l' := #[vA a1, vA a2, .val .null, vA yz_, vU]) rfl ?_
    refine XS.aloadN X4.here hx rfl (hb hby d27_9) rfl rfl ?_
    refine st5.trans ?_
    refine XS.istore X5.here hx rfl (hb hby d27_13) rfl (l' := #[vA a1, vA a2, .val .null, vA yz_, vI yan_]) rfl ?_
    refine XS.aloadN X5.here hx rfl (hb hby d27_15) rfl rfl ?_
    refine st6.trans ?_
    refine XS.ifNo X6.here hx rfl (hb hby d27_19) rfl ((if0 _ _).trans (feq (by decide : ¬ ((1 : Int32) = (0 : Int32)))).1) ?_
    refine XS.aloadN X6.here hx rfl (hb hby d27_22) rfl rfl ?_
    refine XS.iconst X6.here hx rfl (hb hby d27_23) ?_
    refine st7 _ ?_
    refine XS.aloadN X7.here hx rfl (hb hby d27_27) rfl rfl ?_
    refine XS.aloadN X7.here hx rfl (hb hby d27_28) rfl rfl ?_
    refine XS.iconst X7.here hx rfl (hb hby d27_29) ?_
    refine XS.iload X7.here hx rfl (hb hby d27_30) rfl ?_
    refine st8 _ ?_
    refine st9 _ ?_
    refine XS.goto X9.here hx rfl (pc0 := 38) (pc' := 97) rfl (hb hby d27_38) (by decide) (by decide) ?_
    show Steps p.tables e below (T9.setTop (mkF m 97 #[vA a1, vA a2, .val .null, vA yz_, vI yan_] [])) _
    exact X9.returnOut hx Bd.returns (hb hby d27_97) hr
  · show Q_rm27k Z a1 a2 yz_ yan_ ya_ yaq_ yc_ yak_ yad_ h0 n0 _ T9.heap _
    rw [e9]
    exact ⟨b3_8, ⟨rfl, N9, ((((Keep.refl h0 [a1]).wr W7 (Or.inl (List.mem_of_getElem? (i := 0) rfl))).trans K8 (fun x q => nomatch q)).wr W9 (Or.inl (List.mem_of_getElem? (i := 0) rfl))), sz_b3_8, f4, f5, Fw9, f6, f7⟩⟩
def Q_rm26k (Z : State) (a1 : Addr) (a2 : Addr) (yz_ : Addr) (yan_ : Int32) (ya_ : Int32) (yaq_ : Int32) (yc_ : Value) (yak_ : ClassId) (yad_ : List Value) (h0 : Heap) (n0 : Nat) (v : Option Value) (h : Heap) (L : List Loc) : Prop := ∃ b3_8_3 : Addr, v = none ∧ Fr n0 L ∧ Keep h0 h [a1] ∧ h0.size ≤ b3_8_3 ∧ Exa Z h a1 "java/lang/String" ∧ Fld Z h a1 "java/lang/String" "coder" "B" (.int (0 : Int32)) ∧ Fld Z h a1 "java/lang/String" "value" "[B" (.ref b3_8_3) ∧ Exa Z h b3_8_3 "[B" ∧ Arv Z h b3_8_3 yak_ .byte (16 : Int32) yad_ (.int (0 : Int32))
set_option maxRecDepth 65536 in
set_option maxHeartbeats 40000000 in
theorem rm26k (l : Launch) (Z : State) (a0 : Array Value) (hw : ∀ d ∈ tables_1, d.before a0 Z = true) (ws : List Jvm.Cond) (a1 : Addr) (a2 : Addr) (yz_ : Addr) (yan_ : Int32) (ya_ : Int32) (yaq_ : Int32) (yc_ : Value) (yak_ : ClassId) (yad_ : List Value) (h0 : Heap) (n0 : Nat) (Z0 : n0 ≤ h0.size) (hcs : ¬ (ya_ = (0 : Int32))) (ycc_ : Fld Z h0 a2 "java/lang/AbstractStringBuilder" "value" "[B" (.ref yz_)) (yga_ : Fld Z h0 a2 "java/lang/AbstractStringBuilder" "count" "I" (.int yan_)) (yf_ : Sta Z h0 "java/lang/String" "COMPACT_STRINGS" "Z" (.int ya_)) (yac_ : Fld Z h0 a1 "java/lang/String" "coder" "B" (.int yaq_)) (yae_ : Fld Z h0 a1 "java/lang/String" "value" "[B" yc_) (E_a2 : Exa Z h0 a2 "java/lang/StringBuilder") (ybt_ : Fld Z h0 a2 "java/lang/AbstractStringBuilder" "coder" "B" (.int (0 : Int32))) (E_a1 : Exa Z h0 a1 "java/lang/String") (g_a1 : n0 ≤ a1) (yji_ : Exa Z h0 yz_ "[B") (ybq_ : Arv Z h0 yz_ yak_ .byte (16 : Int32) yad_ (.int (0 : Int32))) (ycn_ : yz_ ≠ a1) (yks_ : yan_ = (16 : Int32)) :
    MetFree l mN12 (head1 (Jvm.Cond.code mN12 jdk_42_method_53_code 2 none :: ws) ({ frames := 3, cells := 1, slots := 16, locals := 45 } : Room)) (fun a U => a = #[(.ref a1), (.ref a2)] ∧ Z.Warmed39 U.vm ∧ U.heap = h0) (fun _ _ _ _ _ => True) (fun _ U o U' => ∃ v L, o = .returned v ∧ Q_rm26k Z a1 a2 yz_ yan_ ya_ yaq_ yc_ yak_ yad_ h0 n0 v U'.heap L ∧ FrameEnd U o U' L ({ frames := 3, cells := 1, slots := 16, locals := 45 } : Room).cells ({ frames := 3, cells := 1, slots := 16, locals := 45 } : Room).slots) := by
  have hi : ∀ (i : Nat) {d : Jvm.Cond}, tables_1[i]? = some d → d.before a0 Z = true := fun i d h => hw d (List.mem_of_getElem? h)
  refine MetFree.of_bodySF (plainFor_of_name pn_26) hisR ?_
  intro p e s m args below meth c s₁ Bd hml0 hP hK
  obtain ⟨rfl, hZ, hh⟩ := hP
  have hx := Bd.exec
  have hby := Bd.bytes
  have hml : c.maxLocals = 2 := hml0
  have hown : s.vm.findClass "java/lang/String" = some m.cls := findClass_of_methodNamed Bd.named
  have hnm := (name_of_methodNamed Bd.named Bd.method).1
  have X0 : Stand p l e ({ frames := 3, cells := 1, slots := 16, locals := 45 } : Room) s m #[(.ref a1), (.ref a2)] below meth c s₁ [] 0 0 := Stand.of_body Bd
  have e0 : s₁.heap = h0 := by rw [← hh, Bd.state]; rfl
  have N0 := Fr.nil n0
  obtain ⟨_, _, ⟨T3, L3, k3, n3⟩, -, X3, ⟨Lc3, hQ3, l3, y3, z3⟩, st3⟩ := X0.specialBack hx (y := mN11) rfl hown (mvT hZ (hi 208 rfl)) (mvT hZ (hi 209 rfl)) (mvT hZ (hi 210 rfl)) (by decide) (backOf (W := 0) (rm27k l Z a0 hw [] a1 a2 yz_ yan_ ya_ yaq_ yc_ yak_ yad_ h0 n0 Z0 hcs ycc_ E_a2 yga_ yf_ ybt_ E_a1 yac_ g_a1 yji_ yae_ ybq_ ycn_ yks_) hZ (hi 210 rfl) (hi 4 rfl) (by decide) (by decide)) (g := (mkF m 3 #[vA a1, vA a2] [.null, (.ref a2), (.ref a1)])) rfl (by rw [hml]; rfl) (Steps.refl _) (a := a1) (argsL := [(.ref a2), .null]) (rest := []) (lenOf yce_ rfl) rfl (by show 2 * 0 + _ ≤ _; exact Nat.le_of_eq rfl) (hb hby d26_3) (fun _ _ => ⟨rfl, e0, (by decide : 0 + 1 ≤ _), (by decide : 0 + 16 ≤ _)⟩)
  dsimp only [Pt.U, Pt.locs, Pt.cells, Pt.slots] at X3 l3 y3 z3 st3 hQ3
  subst l3 y3 z3
  obtain ⟨b3_8_3, ⟨rfl, N3q, K3, i3_0, i3_1, i3_2, i3_3, i3_4, i3_5⟩⟩ := hQ3
  have N3 := Fr.app N0 N3q
  have yoh_ : h0.size ≤ b3_8_3 := Nat.le_trans (Nat.le_refl h0.size) i3_0
  have yrp_ : n0 ≤ b3_8_3 := Nat.le_trans Z0 yoh_
  obtain ⟨fs, hr, hrun, hended, hW, hsame⟩ := X3.leave (v := none) (fun _ => rfl)
  refine ⟨_, _, castTop (ef_26 m a1 a2) ?_, hrun, hended, _, _, rfl, ?_, ⟨_, rfl⟩, hW, hsame.mono (by decide) (by decide)⟩
  · show Steps p.tables e below (s₁.setTop (mkF m 0 #[vA a1, vA a2] [])) _
    refine XS.aloadN X0.here hx rfl (hb hby d26_0) rfl rfl ?_
    refine XS.aloadN X0.here hx rfl (hb hby d26_1) rfl rfl ?_
    refine XS.aconstNull X0.here hx rfl (hb hby d26_2) ?_
    refine st3.trans ?_
    show Steps p.tables e below (T3.setTop (mkF m 6 #[vA a1, vA a2] [])) _
    exact X3.returnOut hx Bd.returns (hb hby d26_6) hr
  · show Q_rm26k Z a1 a2 yz_ yan_ ya_ yaq_ yc_ yak_ yad_ h0 n0 _ T3.heap _
    exact ⟨b3_8_3, ⟨rfl, N3, ((Keep.refl h0 [a1]).trans K3 (fun x q => (List.mem_cons.mp q).elim (fun r => by subst r; exact (Or.inl (List.mem_of_getElem? (i := 0) rfl))) (fun q => nomatch q))), yoh_, i3_1, i3_2, i3_3, i3_4, i3_5⟩⟩
def Q_rm25k (Z : State) (a1 : Addr) (yc_ : Addr) (yag_ : Int32) (ya_ : Int32) (yn_ : ClassId) (ye_ : List Value) (h0 : Heap) (n0 : Nat) (v : Option Value) (h : Heap) (L : List Loc) : Prop := ∃ b2 : Addr, ∃ yfz_ : Addr, v = some (.ref b2) ∧ Fr n0 L ∧ Keep h0 h [] ∧ h0.size ≤ b2 ∧ h0.size ≤ yfz_ ∧ b2 ≠ yfz_ ∧ Exa Z h b2 "java/lang/String" ∧ Fld Z h b2 "java/lang/String" "coder" "B" (.int (0 : Int32)) ∧ Fld Z h b2 "java/lang/String" "value" "[B" (.ref yfz_) ∧ Exa Z h yfz_ "[B" ∧ Arv Z h yfz_ yn_ .byte (16 : Int32) ye_ (.int (0 : Int32))
set_option maxRecDepth 65536 in
set_option maxHeartbeats 40000000 in
theorem rm25k (l : Launch) (Z : State) (a0 : Array Value) (hw : ∀ d ∈ tables_1, d.before a0 Z = true) (ws : List Jvm.Cond) (a1 : Addr) (yc_ : Addr) (yag_ : Int32) (ya_ : Int32) (yn_ : ClassId) (ye_ : List Value) (h0 : Heap) (n0 : Nat) (Z0 : n0 ≤ h0.size) (hcs : ¬ (ya_ = (0 : Int32))) (yae_ : Fld Z h0 a1 "java/lang/AbstractStringBuilder" "value" "[B" (.ref yc_)) (ybp_ : Fld Z h0 a1 "java/lang/AbstractStringBuilder" "count" "I" (.int yag_)) (yf_ : Sta Z h0 "java/lang/String" "COMPACT_STRINGS" "Z" (.int ya_)) (E_a1 : Exa Z h0 a1 "java/lang/StringBuilder") (yac_ : Fld Z h0 a1 "java/lang/AbstractStringBuilder" "coder" "B" (.int (0 : Int32))) (yls_ : Exa Z h0 yc_ "[B") (yam_ : Arv Z h0 yc_ yn_ .byte (16 : Int32) ye_ (.int (0 : Int32))) (yiw_ : yag_ = (16 : Int32)) :
    MetFree l mN26 (head1 (Jvm.Cond.code mN26 jdk_67_method_42_code 1 (some (.object "java/lang/String")) :: ws) ({ frames := 4, cells := 2, slots := 20, locals := 59 } : Room)) (fun a U => a = #[(.ref a1)] ∧ Z.Warmed39 U.vm ∧ U.heap = h0) (fun _ _ _ _ _ => True) (fun _ U o U' => ∃ v L, o = .returned v ∧ Q_rm25k Z a1 yc_ yag_ ya_ yn_ ye_ h0 n0 v U'.heap L ∧ FrameEnd U o U' L ({ frames := 4, cells := 2, slots := 20, locals := 59 } : Room).cells ({ frames := 4, cells := 2, slots := 20, locals := 59 } : Room).slots) := by
  have hi : ∀ (i : Nat) {d : Jvm.Cond}, tables_1[i]? = some d → d.before a0 Z = true := fun i d h => hw d (List.mem_of_getElem? h)
  refine MetFree.of_bodySF (plainFor_of_name pn_25) hisR ?_
  intro p e s m args below meth c s₁ Bd hml0 hP hK
  obtain ⟨rfl, hZ, hh⟩ := hP
  have hx := Bd.exec
  have hby := Bd.bytes
  have hml : c.maxLocals = 1 := hml0
  have hown : s.vm.findClass "java/lang/StringBuilder" = some m.cls := findClass_of_methodNamed Bd.named
  have hnm := (name_of_methodNamed Bd.named Bd.method).1
  have X0 : Stand p l e ({ frames := 4, cells := 2, slots := 20, locals := 59 } : Room) s m #[(.ref a1)] below meth c s₁ [] 0 0 := Stand.of_body Bd
  have e0 : s₁.heap = h0 := by rw [← hh, Bd.state]; rfl
  have N0 := Fr.nil n0
  obtain ⟨T2, h2, X2, e2, E2, A2, D2, -, st2⟩ := newO X0 hx hZ hown (hi 203 rfl) (hi 5 rfl) (hi 4 rfl) e0 (g := (mkF m 0 #[vA a1] [])) rfl (hb hby d25_0) (by decide) (by decide)
  obtain ⟨b2, g2⟩ : ∃ z, z = h0.size := ⟨_, rfl⟩
  rw [← g2] at A2 D2 st2
  have g_b2 : n0 ≤ b2 := Nat.le_trans Z0 (Nat.le_of_eq g2.symm)
  have sz_b2 : h0.size ≤ b2 := Nat.le_trans (Nat.le_refl h0.size) (Nat.le_of_eq g2.symm)
  have yku_ : Fld Z h2 b2 "java/lang/String" "value" "[B" .null := D2 (Or.inr (hi 7 rfl)) (ty := (.array .byte)) (by decide)
  have ykv_ : Fld Z h2 b2 "java/lang/String" "coder" "B" (.int (0 : Int32)) := D2 (Or.inr (hi 8 rfl)) (ty := .byte) (by decide)
  have f0 := (yae_.ext E2)
  have f1 := (ybp_.ext E2)
  have f2 := (yf_.ext E2)
  have f3 := (E_a1.ext E2)
  have f4 := (yac_.ext E2)
  have f5 := (yls_.ext E2)
  have f6 := (yam_.ext E2)
  obtain ⟨_, _, ⟨T3, L3, k3, n3⟩, -, X3, ⟨Lc3, hQ3, l3, y3, z3⟩, st3⟩ := X2.specialBack hx (y := mN12) rfl hown (mvT hZ (hi 204 rfl)) (mvT hZ (hi 205 rfl)) (mvT hZ (hi 207 rfl)) (by decide) (backOf (W := 1) (rm26k l Z a0 hw [] b2 a1 yc_ yag_ ya_ (0 : Int32) .null yn_ ye_ h2 n0 (Nat.le_trans Z0 E2.1) hcs f0 f1 f2 ykv_ yku_ f3 f4 A2 g_b2 f5 f6 (Nat.ne_of_lt (Nat.lt_of_lt_of_le yls_.lt sz_b2)) yiw_) hZ (hi 207 rfl) (hi 4 rfl) (by decide) (by decide)) (g := (mkF m 5 #[vA a1] [(.ref a1), (.ref b2), (.ref b2)])) rfl (by rw [hml]; rfl) (Steps.refl _) (a := b2) (argsL := [(.ref a1)]) (rest := [(.ref b2)]) (lenOf ydu_ rfl) rfl (by show 2 * 0 + _ ≤ _; exact Nat.le_of_eq rfl) (hb hby d25_5) (fun _ _ => ⟨rfl, e2, (by decide : 1 + 1 ≤ _), (by decide : 4 + 16 ≤ _)⟩)
  dsimp only [Pt.U, Pt.locs, Pt.cells, Pt.slots] at X3 l3 y3 z3 st3 hQ3
  subst l3 y3 z3
  obtain ⟨yfz_, ⟨rfl, N3q, K3, i3_0, i3_1, i3_2, i3_3, i3_4, i3_5⟩⟩ := hQ3
  have N3 := Fr.app N0 N3q
  have ymt_ : h0.size ≤ yfz_ := Nat.le_trans (Nat.le_trans (Nat.le_refl h0.size) E2.1) i3_0
  have yrl_ : n0 ≤ yfz_ := Nat.le_trans Z0 ymt_
  obtain ⟨fs, hr, hrun, hended, hW, hsame⟩ := X3.leave (v := some (.ref b2)) (fun h => by rw [Bd.returns] at h; cases h)
  refine ⟨_, _, castTop (ef_25 m a1) ?_, hrun, hended, _, _, rfl, ?_, ⟨_, rfl⟩, hW, hsame.mono (by decide) (by decide)⟩
  · show Steps p.tables e below (s₁.setTop (mkF m 0 #[vA a1] [])) _
    refine st2 _ ?_
    refine XS.dup X2.here hx rfl (hb hby d25_3) rfl rfl ?_
    refine XS.aloadN X2.here hx rfl (hb hby d25_4) rfl rfl ?_
    refine st3.trans ?_
    show Steps p.tables e below (T3.setTop (mkF m 8 #[vA a1] [(.ref b2)])) _
    jvm_step X3.here [X3.here.top, hx, (hb hby d25_8), X3.method', Bd.returns, Value.isRef, FieldType.isReference]
    first | (intro acts; rw [hr _ acts rfl rfl rfl]) | rw [hr _ _ rfl rfl rfl]
    exact Steps.refl _
  · show Q_rm25k Z a1 yc_ yag_ ya_ yn_ ye_ h0 n0 _ T3.heap _
    exact ⟨b2, ⟨yfz_, ⟨rfl, N3, (((Keep.refl h0 []).ext E2).trans K3 (fun x q => (List.mem_cons.mp q).elim (fun r => by subst r; exact (Or.inr sz_b2)) (fun q => nomatch q))), sz_b2, ymt_, (Nat.ne_of_lt (Nat.lt_of_lt_of_le A2.lt i3_0)), i3_1, i3_2, i3_3, i3_4, i3_5⟩⟩⟩
def Q_rm23k (Z : State) (a1 : Addr) (ybf_ : Addr) (ys_ : Addr) (yw_ : Addr) (yaa_ : Int32) (ya_ : Int32) (yai_ : ClassId) (yab_ : List Value) (h0 : Heap) (n0 : Nat) (v : Option Value) (h : Heap) (L : List Loc) : Prop := ∃ b2_5 : Addr, ∃ yek_ : Addr, v = some (.ref b2_5) ∧ Fr n0 L ∧ Keep h0 h [] ∧ h0.size ≤ b2_5 ∧ h0.size ≤ yek_ ∧ b2_5 ≠ yek_ ∧ Exa Z h b2_5 "java/lang/String" ∧ Fld Z h b2_5 "java/lang/String" "coder" "B" (.int (0 : Int32)) ∧ Fld Z h b2_5 "java/lang/String" "value" "[B" (.ref yek_) ∧ Exa Z h yek_ "[B" ∧ Arv Z h yek_ yai_ .byte (16 : Int32) yab_ (.int (0 : Int32))
set_option maxRecDepth 65536 in
set_option maxHeartbeats 40000000 in
theorem rm23k (l : Launch) (Z : State) (a0 : Array Value) (hw : ∀ d ∈ tables_1, d.before a0 Z = true) (ws : List Jvm.Cond) (a1 : Addr) (ybf_ : Addr) (ys_ : Addr) (yw_ : Addr) (yaa_ : Int32) (ya_ : Int32) (yai_ : ClassId) (yab_ : List Value) (h0 : Heap) (n0 : Nat) (Z0 : n0 ≤ h0.size) (hcs : ¬ (ya_ = (0 : Int32))) (yeg_ : Fld Z h0 a1 "underdeck/deck/SqlText" "placeholders" "Ljava/util/List;" (.ref ybf_)) (yer_ : Fld Z h0 ybf_ "java/util/ArrayList" "size" "I" (.int (0 : Int32))) (ygf_ : Exa Z h0 ybf_ "java/util/ArrayList") (yda_ : Fld Z h0 a1 "underdeck/deck/SqlText" "current" "Ljava/lang/StringBuilder;" (.ref ys_)) (ybv_ : Fld Z h0 ys_ "java/lang/AbstractStringBuilder" "value" "[B" (.ref yw_)) (ybw_ : Fld Z h0 ys_ "java/lang/AbstractStringBuilder" "count" "I" (.int yaa_)) (yf_ : Sta Z h0 "java/lang/String" "COMPACT_STRINGS" "Z" (.int ya_)) (yca_ : Exa Z h0 ys_ "java/lang/StringBuilder") (ybx_ : Fld Z h0 ys_ "java/lang/AbstractStringBuilder" "coder" "B" (.int (0 : Int32))) (ykf_ : Exa Z h0 yw_ "[B") (ybr_ : Arv Z h0 yw_ yai_ .byte (16 : Int32) yab_ (.int (0 : Int32))) (ygy_ : yaa_ = (16 : Int32)) :
    MetFree l mN51 (head1 (Jvm.Cond.code mN51 prog_41_method_18_code 1 (some (.object "java/lang/String")) :: ws) ({ frames := 5, cells := 2, slots := 20, locals := 71 } : Room)) (fun a U => a = #[(.ref a1)] ∧ Z.Warmed39 U.vm ∧ U.heap = h0) (fun _ _ _ _ _ => True) (fun _ U o U' => ∃ v L, o = .returned v ∧ Q_rm23k Z a1 ybf_ ys_ yw_ yaa_ ya_ yai_ yab_ h0 n0 v U'.heap L ∧ FrameEnd U o U' L ({ frames := 5, cells := 2, slots := 20, locals := 71 } : Room).cells ({ frames := 5, cells := 2, slots := 20, locals := 71 } : Room).slots) := by
  have hi : ∀ (i : Nat) {d : Jvm.Cond}, tables_1[i]? = some d → d.before a0 Z = true := fun i d h => hw d (List.mem_of_getElem? h)
  refine MetFree.of_bodySF (plainFor_of_name pn_23) hisR ?_
  intro p e s m args below meth c s₁ Bd hml0 hP hK
  obtain ⟨rfl, hZ, hh⟩ := hP
  have hx := Bd.exec
  have hby := Bd.bytes
  have hml : c.maxLocals = 1 := hml0
  have hown : s.vm.findClass "underdeck/deck/SqlText" = some m.cls := findClass_of_methodNamed Bd.named
  have hnm := (name_of_methodNamed Bd.named Bd.method).1
  have X0 : Stand p l e ({ frames := 5, cells := 2, slots := 20, locals := 71 } : Room) s m #[(.ref a1)] below meth c s₁ [] 0 0 := Stand.of_body Bd
  have e0 : s₁.heap = h0 := by rw [← hh, Bd.state]; rfl
  have N0 := Fr.nil n0
  obtain ⟨T2, X2, e2, st2⟩ := getF X0 hx hZ hown (host := "") (Or.inl (hi 69 rfl)) Via.refl e0 yeg_ (g := (mkF m 1 #[vA a1] [(.ref a1)])) rfl rfl (hb hby d23_1)
  obtain ⟨cq3, kq3, q3a, q3b, q3c⟩ := isOf hZ e2 ygf_
  obtain ⟨_, _, ⟨T3, L3, k3, n3⟩, -, X3, ⟨Lc3, hQ3, l3, y3, z3⟩, st3⟩ := X2.interfaceBack hx (xi := (⟨"java/util/List", "isEmpty", "()Z"⟩ : MethodName)) (y := mN38) hown (mvT hZ (hi 187 rfl)) (mvT hZ (hi 188 rfl)) (mvT hZ (hi 189 rfl)) (mvT hZ (hi 190 rfl)) (mvT hZ (hi 191 rfl)) (mvT hZ (hi 192 rfl)) (mvT hZ (hi 193 rfl)) (mvT hZ (hi 194 rfl)) (by decide) (backOf (W := 0) (rm24 l Z a0 hw [] ybf_ h0 n0 Z0 yer_) hZ (hi 195 rfl) (hi 25 rfl) (by decide) (by decide)) q3a q3b q3c (g := (mkF m 4 #[vA a1] [(.ref ybf_)])) rfl (by rw [hml]; rfl) (Steps.refl _) (argsL := []) (rest := []) (lenOf yhn_ rfl) rfl (by show 2 * 0 + _ ≤ _; exact Nat.le_of_eq rfl) (hb hby d23_4) (fun _ _ => ⟨rfl, e2, (by decide : 0 + 0 ≤ _), (by decide : 0 + 0 ≤ _)⟩)
  dsimp only [Pt.U, Pt.locs, Pt.cells, Pt.slots] at X3 l3 y3 z3 st3 hQ3
  subst l3 y3 z3
  obtain ⟨rfl, N3q, e3⟩ := hQ3
  have N3 := Fr.app N0 N3q
  obtain ⟨T4, X4, e4, st4⟩ := getF X3 hx hZ hown (host := "") (Or.inl (hi 67 rfl)) Via.refl e3 yda_ (g := (mkF m 33 #[vA a1] [(.ref a1)])) rfl rfl (hb hby d23_33)
  obtain ⟨cq5, kq5, q5a, q5b, q5c⟩ := isOf hZ e4 yca_
  obtain ⟨_, _, ⟨T5, L5, k5, n5⟩, -, X5, ⟨Lc5, hQ5, l5, y5, z5⟩, st5⟩ := X4.virtualBack hx (y := mN26) (z := mN26) hown (mvT hZ (hi 198 rfl)) (mvT hZ (hi 199 rfl)) (notFace_of_selects (args := #[]) (mvT hZ (hi 201 rfl))) (mvT hZ (hi 201 rfl)) (mvT hZ (hi 200 rfl)) (by decide) (backOf (W := 0) (rm25k l Z a0 hw [] ys_ yw_ yaa_ ya_ yai_ yab_ h0 n0 Z0 hcs ybv_ ybw_ yf_ yca_ ybx_ ykf_ ybr_ ygy_) hZ (hi 202 rfl) (hi 51 rfl) (by decide) (by decide)) q5a q5c (g := (mkF m 36 #[vA a1] [(.ref ys_)])) rfl (by rw [hml]; rfl) (Steps.refl _) (argsL := []) (rest := []) (lenOf ybh_ rfl) rfl (by show 2 * 0 + _ ≤ _; exact Nat.le_of_eq rfl) (hb hby d23_36) (fun _ _ => ⟨rfl, e4, (by decide : 0 + 2 ≤ _), (by decide : 0 + 20 ≤ _)⟩)
  dsimp only [Pt.U, Pt.locs, Pt.cells, Pt.slots] at X5 l5 y5 z5 st5 hQ5
  subst l5 y5 z5
  obtain ⟨b2_5, ⟨yek_, ⟨rfl, N5q, K5, i5_0, i5_1, i5_2, i5_3, i5_4, i5_5, i5_6, i5_7⟩⟩⟩ := hQ5
  have N5 := Fr.app N3 N5q
  have sz_b2_5 : h0.size ≤ b2_5 := Nat.le_trans (Nat.le_refl h0.size) i5_0
  have g_b2_5 : n0 ≤ b2_5 := Nat.le_trans Z0 sz_b2_5
  have yll_ : h0.size ≤ yek_ := Nat.le_trans (Nat.le_refl h0.size) i5_1
  have yri_ : n0 ≤ yek_ := Nat.le_trans Z0 yll_
  obtain ⟨fs, hr, hrun, hended, hW, hsame⟩ := X5.leave (v := some (.ref b2_5)) (fun h => by rw [Bd.returns] at h; cases h)
  refine ⟨_, _, castTop (ef_23 m a1) ?_, hrun, hended, _, _, rfl, ?_, ⟨_, rfl⟩, hW, hsame.mono (by decide) (by decide)⟩
  · show Steps p.tables e below (s₁.setTop (mkF m 0 #[vA a1] [])) _
    refine XS.aloadN X0.here hx rfl (hb hby d23_0) rfl rfl ?_
    refine st2 _ ?_
    refine st3.trans ?_
    refine XS.ifYes X3.here hx rfl (pc0 := 9) (pc' := 32) rfl (hb hby d23_9) rfl ((if0 _ _).trans (feq (by decide : ¬ ((1 : Int32) = (0 : Int32)))).2) (by decide) (by decide) ?_
    refine XS.aloadN X3.here hx rfl (hb hby d23_32) rfl rfl ?_
    refine st4 _ ?_
    refine st5.trans ?_
    show Steps p.tables e below (T5.setTop (mkF m 39 #[vA a1] [(.ref b2_5)])) _
    jvm_step X5.here [X5.here.top, hx, (hb hby d23_39), X5.method', Bd.returns, Value.isRef, FieldType.isReference]
    first | (intro acts; rw [hr _ acts rfl rfl rfl]) | rw [hr _ _ rfl rfl rfl]
    exact Steps.refl _
  · show Q_rm23k Z a1 ybf_ ys_ yw_ yaa_ ya_ yai_ yab_ h0 n0 _ T5.heap _
    exact ⟨b2_5, ⟨yek_, ⟨rfl, N5, ((Keep.refl h0 []).trans K5 (fun x q => nomatch q)), sz_b2_5, yll_, i5_2, i5_3, i5_4, i5_5, i5_6, i5_7⟩⟩⟩
theorem yh_ : parseMethodDescriptor "(Ljava/lang/String;ILjava/lang/String;I)Z" = some ⟨[(.object "java/lang/String"), .int, (.object "java/lang/String"), .int], some .boolean⟩ := by decide +kernel
theorem d36_0 : decode method_3_code 0 = .ok (.aload_n 0, 1) := by decide +kernel
theorem d36_1 : decode method_3_code 1 = .ok (.iload_n 1, 1) := by decide +kernel
theorem d36_2 : decode method_3_code 2 = .ok (.aload_n 2, 1) := by decide +kernel
theorem d36_3 : decode method_3_code 3 = .ok (.iconst 0, 1) := by decide +kernel
theorem d36_4 : decode method_3_code 4 = .ok (.invokestatic 63, 3) := by decide +kernel
theorem d36_7 : decode method_3_code 7 = .ok (.ifCond .eq 156, 3) := by decide +kernel
theorem d36_10 : decode method_3_code 10 = .ok (.aload_n 0, 1) := by decide +kernel
theorem d36_11 : decode method_3_code 11 = .ok (.iload_n 1, 1) := by decide +kernel
theorem d36_12 : decode method_3_code 12 = .ok (.aload_n 2, 1) := by decide +kernel
theorem d36_13 : decode method_3_code 13 = .ok (.iconst 1, 1) := by decide +kernel
theorem d36_14 : decode method_3_code 14 = .ok (.invokestatic 63, 3) := by decide +kernel
theorem d36_17 : decode method_3_code 17 = .ok (.ifCond .eq 146, 3) := by decide +kernel
theorem d36_20 : decode method_3_code 20 = .ok (.aload_n 0, 1) := by decide +kernel
theorem d36_21 : decode method_3_code 21 = .ok (.iload_n 1, 1) := by decide +kernel
theorem d36_22 : decode method_3_code 22 = .ok (.aload_n 2, 1) := by decide +kernel
theorem d36_23 : decode method_3_code 23 = .ok (.iconst 2, 1) := by decide +kernel
theorem d36_24 : decode method_3_code 24 = .ok (.invokestatic 63, 3) := by decide +kernel
theorem d36_27 : decode method_3_code 27 = .ok (.ifCond .eq 136, 3) := by decide +kernel
theorem d36_30 : decode method_3_code 30 = .ok (.aload_n 0, 1) := by decide +kernel
theorem d36_31 : decode method_3_code 31 = .ok (.iload_n 1, 1) := by decide +kernel
theorem d36_32 : decode method_3_code 32 = .ok (.aload_n 2, 1) := by decide +kernel
theorem d36_33 : decode method_3_code 33 = .ok (.iconst 3, 1) := by decide +kernel
theorem d36_34 : decode method_3_code 34 = .ok (.invokestatic 63, 3) := by decide +kernel
theorem d36_37 : decode method_3_code 37 = .ok (.ifCond .eq 126, 3) := by decide +kernel
theorem d36_40 : decode method_3_code 40 = .ok (.aload_n 0, 1) := by decide +kernel
theorem d36_41 : decode method_3_code 41 = .ok (.iload_n 1, 1) := by decide +kernel
theorem d36_42 : decode method_3_code 42 = .ok (.aload_n 2, 1) := by decide +kernel
theorem d36_43 : decode method_3_code 43 = .ok (.iconst 4, 1) := by decide +kernel
theorem d36_44 : decode method_3_code 44 = .ok (.invokestatic 63, 3) := by decide +kernel
theorem d36_47 : decode method_3_code 47 = .ok (.ifCond .eq 116, 3) := by decide +kernel
theorem d36_50 : decode method_3_code 50 = .ok (.aload_n 0, 1) := by decide +kernel
theorem d36_51 : decode method_3_code 51 = .ok (.iload_n 1, 1) := by decide +kernel
theorem d36_52 : decode method_3_code 52 = .ok (.aload_n 2, 1) := by decide +kernel
theorem d36_53 : decode method_3_code 53 = .ok (.iconst 5, 1) := by decide +kernel
theorem d36_54 : decode method_3_code 54 = .ok (.invokestatic 63, 3) := by decide +kernel
theorem d36_57 : decode method_3_code 57 = .ok (.ifCond .eq 106, 3) := by decide +kernel
theorem d36_60 : decode method_3_code 60 = .ok (.aload_n 0, 1) := by decide +kernel
theorem d36_61 : decode method_3_code 61 = .ok (.iload_n 1, 1) := by decide +kernel
theorem d36_62 : decode method_3_code 62 = .ok (.aload_n 2, 1) := by decide +kernel
theorem d36_63 : decode method_3_code 63 = .ok (.bipush 6, 2) := by decide +kernel
theorem d36_65 : decode method_3_code 65 = .ok (.invokestatic 63, 3) := by decide +kernel
theorem d36_68 : decode method_3_code 68 = .ok (.ifCond .eq 95, 3) := by decide +kernel
theorem d36_71 : decode method_3_code 71 = .ok (.aload_n 0, 1) := by decide +kernel
theorem d36_72 : decode method_3_code 72 = .ok (.iload_n 1, 1) := by decide +kernel
theorem d36_73 : decode method_3_code 73 = .ok (.aload_n 2, 1) := by decide +kernel
theorem d36_74 : decode method_3_code 74 = .ok (.bipush 7, 2) := by decide +kernel
theorem d36_76 : decode method_3_code 76 = .ok (.invokestatic 63, 3) := by decide +kernel
theorem d36_79 : decode method_3_code 79 = .ok (.ifCond .eq 84, 3) := by decide +kernel
theorem d36_82 : decode method_3_code 82 = .ok (.aload_n 0, 1) := by decide +kernel
theorem d36_83 : decode method_3_code 83 = .ok (.iload_n 1, 1) := by decide +kernel
theorem d36_84 : decode method_3_code 84 = .ok (.aload_n 2, 1) := by decide +kernel
theorem d36_85 : decode method_3_code 85 = .ok (.bipush 8, 2) := by decide +kernel
theorem d36_87 : decode method_3_code 87 = .ok (.invokestatic 63, 3) := by decide +kernel
theorem d36_90 : decode method_3_code 90 = .ok (.ifCond .eq 73, 3) := by decide +kernel
theorem d36_93 : decode method_3_code 93 = .ok (.aload_n 0, 1) := by decide +kernel
theorem d36_94 : decode method_3_code 94 = .ok (.iload_n 1, 1) := by decide +kernel
theorem d36_95 : decode method_3_code 95 = .ok (.aload_n 2, 1) := by decide +kernel
theorem d36_96 : decode method_3_code 96 = .ok (.bipush 9, 2) := by decide +kernel
theorem d36_98 : decode method_3_code 98 = .ok (.invokestatic 63, 3) := by decide +kernel
theorem d36_101 : decode method_3_code 101 = .ok (.ifCond .eq 62, 3) := by decide +kernel
theorem d36_104 : decode method_3_code 104 = .ok (.aload_n 0, 1) := by decide +kernel
theorem d36_105 : decode method_3_code 105 = .ok (.iload_n 1, 1) := by decide +kernel
theorem d36_106 : decode method_3_code 106 = .ok (.aload_n 2, 1) := by decide +kernel
theorem d36_107 : decode method_3_code 107 = .ok (.bipush 10, 2) := by decide +kernel
theorem d36_109 : decode method_3_code 109 = .ok (.invokestatic 63, 3) := by decide +kernel
theorem d36_112 : decode method_3_code 112 = .ok (.ifCond .eq 51, 3) := by decide +kernel
theorem d36_115 : decode method_3_code 115 = .ok (.aload_n 0, 1) := by decide +kernel
theorem d36_116 : decode method_3_code 116 = .ok (.iload_n 1, 1) := by decide +kernel
theorem d36_117 : decode method_3_code 117 = .ok (.aload_n 2, 1) := by decide +kernel
theorem d36_118 : decode method_3_code 118 = .ok (.bipush 11, 2) := by decide +kernel
theorem d36_120 : decode method_3_code 120 = .ok (.invokestatic 63, 3) := by decide +kernel
theorem d36_123 : decode method_3_code 123 = .ok (.ifCond .eq 40, 3) := by decide +kernel
theorem d36_126 : decode method_3_code 126 = .ok (.aload_n 0, 1) := by decide +kernel
theorem d36_127 : decode method_3_code 127 = .ok (.iload_n 1, 1) := by decide +kernel
theorem d36_128 : decode method_3_code 128 = .ok (.aload_n 2, 1) := by decide +kernel
theorem d36_129 : decode method_3_code 129 = .ok (.bipush 12, 2) := by decide +kernel
theorem d36_131 : decode method_3_code 131 = .ok (.invokestatic 63, 3) := by decide +kernel
theorem d36_134 : decode method_3_code 134 = .ok (.ifCond .eq 29, 3) := by decide +kernel
theorem d36_137 : decode method_3_code 137 = .ok (.aload_n 0, 1) := by decide +kernel
theorem d36_138 : decode method_3_code 138 = .ok (.iload_n 1, 1) := by decide +kernel
theorem d36_139 : decode method_3_code 139 = .ok (.aload_n 2, 1) := by decide +kernel
theorem d36_140 : decode method_3_code 140 = .ok (.bipush 13, 2) := by decide +kernel
theorem d36_142 : decode method_3_code 142 = .ok (.invokestatic 63, 3) := by decide +kernel
theorem d36_145 : decode method_3_code 145 = .ok (.ifCond .eq 18, 3) := by decide +kernel
theorem d36_148 : decode method_3_code 148 = .ok (.aload_n 0, 1) := by decide +kernel
theorem d36_149 : decode method_3_code 149 = .ok (.iload_n 1, 1) := by decide +kernel
theorem d36_150 : decode method_3_code 150 = .ok (.aload_n 2, 1) := by decide +kernel
theorem d36_151 : decode method_3_code 151 = .ok (.bipush 14, 2) := by decide +kernel
theorem d36_153 : decode method_3_code 153 = .ok (.invokestatic 63, 3) := by decide +kernel
theorem d36_156 : decode method_3_code 156 = .ok (.ifCond .eq 7, 3) := by decide +kernel
theorem d36_159 : decode method_3_code 159 = .ok (.iconst 1, 1) := by decide +kernel
theorem d36_160 : decode method_3_code 160 = .ok (.goto 4, 3) := by decide +kernel
theorem d36_164 : decode method_3_code 164 = .ok (.ireturn, 1) := by decide +kernel
theorem pn_36 : plainName "underdeck/deck/SqlTextDefaultsOnlyPinLaw" = true := by first | (simp [plainName, overriddenIn]; done) | decide +kernel
theorem ef_36 (m : MethodId) (x0 : Addr) (x1 : Int32) (x2 : Addr) : entryFrame m #[(.ref x0), (.int x1), (.ref x2)] 3 = mkF m 0 #[.val (.ref x0), .val (.int x1), .val (.ref x2)] [] := by first | (simp [entryFrame, mkF, argsToLocals, Value.category]; done) | rfl
def yoi_ (Z : State) (a1 : Addr) (p2 : Int32) (a3 : Addr) (yar_ : Addr) (ya_ : Int32) (yc_ : Addr) (yn_ : ClassId) (yd_ : Int32) (ye_ : List Value) (yb_ : Value) (yao_ : ClassId) (yv_ : List Value) (ydb_ : Int32) (ycq_ : Int32) (ycr_ : Int32) (ycs_ : Int32) (yct_ : Int32) (ycu_ : Int32) (ycv_ : Int32) (ycw_ : Int32) (ycx_ : Int32) (ycy_ : Int32) (yci_ : Int32) (ycj_ : Int32) (yck_ : Int32) (h0 : Heap) (n0 : Nat) (v : Option Value) (h : Heap) (L : List Loc) : Prop := v = some (.int (1 : Int32)) ∧ Fr n0 L ∧ h = h0
set_option maxRecDepth 65536 in
set_option maxHeartbeats 40000000 in
theorem rm36_13 (l : Launch) (Z : State) (a0 : Array Value) (hw : ∀ d ∈ tables_1, d.before a0 Z = true) (ws : List Jvm.Cond) (a1 : Addr) (p2 : Int32) (a3 : Addr) (yar_ : Addr) (ya_ : Int32) (yc_ : Addr) (yn_ : ClassId) (yd_ : Int32) (ye_ : List Value) (yb_ : Value) (yao_ : ClassId) (yv_ : List Value) (ydb_ : Int32) (ycq_ : Int32) (ycr_ : Int32) (ycs_ : Int32) (yct_ : Int32) (ycu_ : Int32) (ycv_ : Int32) (ycw_ : Int32) (ycx_ : Int32) (ycy_ : Int32) (yci_ : Int32) (ycj_ : Int32) (yck_ : Int32) (h0 : Heap) (n0 : Nat) (Z0 : n0 ≤ h0.size) (hcs : ¬ (ya_ = (0 : Int32))) (hsv : yb_.isRef = true) (ybg_ : Fld Z h0 a3 "java/lang/String" "value" "[B" (.ref yar_)) (yf_ : Sta Z h0 "java/lang/String" "COMPACT_STRINGS" "Z" (.int ya_)) (yae_ : Fld Z h0 a1 "java/lang/String" "value" "[B" (.ref yc_)) (yam_ : Arv Z h0 yc_ yn_ .byte yd_ ye_ (.int (0 : Int32))) (yx_ : Sta Z h0 "jdk/internal/util/Preconditions" "SIOOBE_FORMATTER" "Ljava/util/function/BiFunction;" yb_) (ybe_ : Fld Z h0 a3 "java/lang/String" "coder" "B" (.int (0 : Int32))) (E_a3 : Exa Z h0 a3 "java/lang/String") (yac_ : Fld Z h0 a1 "java/lang/String" "coder" "B" (.int (0 : Int32))) (E_a1 : Exa Z h0 a1 "java/lang/String") (yaz_ : Arv Z h0 yar_ yao_ .byte (13 : Int32) yv_ (.int (0 : Int32))) (ygc_ : ¬ ((p2 + (0 : Int32)) < (0 : Int32))) (ygd_ : (p2 + (0 : Int32)) < yd_) (yir_ : ¬ (p2 + (0 : Int32)) < 0 ∧ (p2 + (0 : Int32)) < yd_) (yis_ : (ye_).getD ((p2 + (0 : Int32))).toNatClampNeg (.int (0 : Int32)) = (.int ydb_)) (yit_ : (yv_).getD ((0 : Int32)).toNatClampNeg (.int (0 : Int32)) = (.int ydb_)) (yfg_ : ¬ ((p2 + (1 : Int32)) < (0 : Int32))) (yfh_ : (p2 + (1 : Int32)) < yd_) (yho_ : ¬ (p2 + (1 : Int32)) < 0 ∧ (p2 + (1 : Int32)) < yd_) (yhp_ : (ye_).getD ((p2 + (1 : Int32))).toNatClampNeg (.int (0 : Int32)) = (.int ycq_)) (yhq_ : (yv_).getD ((1 : Int32)).toNatClampNeg (.int (0 : Int32)) = (.int ycq_)) (yfi_ : ¬ ((p2 + (2 : Int32)) < (0 : Int32))) (yfj_ : (p2 + (2 : Int32)) < yd_) (yhr_ : ¬ (p2 + (2 : Int32)) < 0 ∧ (p2 + (2 : Int32)) < yd_) (yhs_ : (ye_).getD ((p2 + (2 : Int32))).toNatClampNeg (.int (0 : Int32)) = (.int ycr_)) (yht_ : (yv_).getD ((2 : Int32)).toNatClampNeg (.int (0 : Int32)) = (.int ycr_)) (yfk_ : ¬ ((p2 + (3 : Int32)) < (0 : Int32))) (yfl_ : (p2 + (3 : Int32)) < yd_) (yhu_ : ¬ (p2 + (3 : Int32)) < 0 ∧ (p2 + (3 : Int32)) < yd_) (yhv_ : (ye_).getD ((p2 + (3 : Int32))).toNatClampNeg (.int (0 : Int32)) = (.int ycs_)) (yhw_ : (yv_).getD ((3 : Int32)).toNatClampNeg (.int (0 : Int32)) = (.int ycs_)) (yfm_ : ¬ ((p2 + (4 : Int32)) < (0 : Int32))) (yfn_ : (p2 + (4 : Int32)) < yd_) (yhx_ : ¬ (p2 + (4 : Int32)) < 0 ∧ (p2 + (4 : Int32)) < yd_) (yhy_ : (ye_).getD ((p2 + (4 : Int32))).toNatClampNeg (.int (0 : Int32)) = (.int yct_)) (yhz_ : (yv_).getD ((4 : Int32)).toNatClampNeg (.int (0 : Int32)) = (.int yct_)) (yfo_ : ¬ ((p2 + (5 : Int32)) < (0 : Int32))) (yfp_ : (p2 + (5 : Int32)) < yd_) (yia_ : ¬ (p2 + (5 : Int32)) < 0 ∧ (p2 + (5 : Int32)) < yd_) (yib_ : (ye_).getD ((p2 + (5 : Int32))).toNatClampNeg (.int (0 : Int32)) = (.int ycu_)) (yic_ : (yv_).getD ((5 : Int32)).toNatClampNeg (.int (0 : Int32)) = (.int ycu_)) (yfq_ : ¬ ((p2 + (6 : Int32)) < (0 : Int32))) (yfr_ : (p2 + (6 : Int32)) < yd_) (yid_ : ¬ (p2 + (6 : Int32)) < 0 ∧ (p2 + (6 : Int32)) < yd_) (yie_ : (ye_).getD ((p2 + (6 : Int32))).toNatClampNeg (.int (0 : Int32)) = (.int ycv_)) (yif_ : (yv_).getD ((6 : Int32)).toNatClampNeg (.int (0 : Int32)) = (.int ycv_)) (yfs_ : ¬ ((p2 + (7 : Int32)) < (0 : Int32))) (yft_ : (p2 + (7 : Int32)) < yd_) (yig_ : ¬ (p2 + (7 : Int32)) < 0 ∧ (p2 + (7 : Int32)) < yd_) (yih_ : (ye_).getD ((p2 + (7 : Int32))).toNatClampNeg (.int (0 : Int32)) = (.int ycw_)) (yii_ : (yv_).getD ((7 : Int32)).toNatClampNeg (.int (0 : Int32)) = (.int ycw_)) (yfu_ : ¬ ((p2 + (8 : Int32)) < (0 : Int32))) (yfv_ : (p2 + (8 : Int32)) < yd_) (yij_ : ¬ (p2 + (8 : Int32)) < 0 ∧ (p2 + (8 : Int32)) < yd_) (yik_ : (ye_).getD ((p2 + (8 : Int32))).toNatClampNeg (.int (0 : Int32)) = (.int ycx_)) (yil_ : (yv_).getD ((8 : Int32)).toNatClampNeg (.int (0 : Int32)) = (.int ycx_)) (yfw_ : ¬ ((p2 + (9 : Int32)) < (0 : Int32))) (yfx_ : (p2 + (9 : Int32)) < yd_) (yim_ : ¬ (p2 + (9 : Int32)) < 0 ∧ (p2 + (9 : Int32)) < yd_) (yin_ : (ye_).getD ((p2 + (9 : Int32))).toNatClampNeg (.int (0 : Int32)) = (.int ycy_)) (yio_ : (yv_).getD ((9 : Int32)).toNatClampNeg (.int (0 : Int32)) = (.int ycy_)) (yez_ : ¬ ((p2 + (10 : Int32)) < (0 : Int32))) (yfa_ : (p2 + (10 : Int32)) < yd_) (yhd_ : ¬ (p2 + (10 : Int32)) < 0 ∧ (p2 + (10 : Int32)) < yd_) (yhe_ : (ye_).getD ((p2 + (10 : Int32))).toNatClampNeg (.int (0 : Int32)) = (.int yci_)) (yhf_ : (yv_).getD ((10 : Int32)).toNatClampNeg (.int (0 : Int32)) = (.int yci_)) (yfb_ : ¬ ((p2 + (11 : Int32)) < (0 : Int32))) (yfc_ : (p2 + (11 : Int32)) < yd_) (yhg_ : ¬ (p2 + (11 : Int32)) < 0 ∧ (p2 + (11 : Int32)) < yd_) (yhh_ : (ye_).getD ((p2 + (11 : Int32))).toNatClampNeg (.int (0 : Int32)) = (.int ycj_)) (yhi_ : (yv_).getD ((11 : Int32)).toNatClampNeg (.int (0 : Int32)) = (.int ycj_)) (yfd_ : ¬ ((p2 + (12 : Int32)) < (0 : Int32))) (yfe_ : (p2 + (12 : Int32)) < yd_) (yhj_ : ¬ (p2 + (12 : Int32)) < 0 ∧ (p2 + (12 : Int32)) < yd_) (yhk_ : (ye_).getD ((p2 + (12 : Int32))).toNatClampNeg (.int (0 : Int32)) = (.int yck_)) (yhl_ : (yv_).getD ((12 : Int32)).toNatClampNeg (.int (0 : Int32)) = (.int yck_)) :
    MetFree l mN54 (head1 (Jvm.Cond.code mN54 method_3_code 3 (some .boolean) :: ws) ({ frames := 5, cells := 0, slots := 0, locals := 69 } : Room)) (fun a U => a = #[(.ref a1), (.int p2), (.ref a3)] ∧ Z.Warmed39 U.vm ∧ U.heap = h0) (fun _ _ _ _ _ => True) (fun _ U o U' => ∃ v L, o = .returned v ∧ yoi_ Z a1 p2 a3 yar_ ya_ yc_ yn_ yd_ ye_ yb_ yao_ yv_ ydb_ ycq_ ycr_ ycs_ yct_ ycu_ ycv_ ycw_ ycx_ ycy_ yci_ ycj_ yck_ h0 n0 v U'.heap L ∧ FrameEnd U o U' L ({ frames := 5, cells := 0, slots := 0, locals := 69 } : Room).cells ({ frames := 5, cells := 0, slots := 0, locals := 69 } : Room).slots) := by
  have hi : ∀ (i : Nat) {d : Jvm.Cond}, tables_1[i]? = some d → d.before a0 Z = true := fun i d h => hw d (List.mem_of_getElem? h)
  refine MetFree.of_bodySF (plainFor_of_name pn_36) hisR ?_
  intro p e s m args below meth c s₁ Bd hml0 hP hK
  obtain ⟨rfl, hZ, hh⟩ := hP
  have hx := Bd.exec
  have hby := Bd.bytes
  have hml : c.maxLocals = 3 := hml0
  have hown : s.vm.findClass "underdeck/deck/SqlTextDefaultsOnlyPinLaw" = some m.cls := findClass_of_methodNamed Bd.named
  have hnm := (name_of_methodNamed Bd.named Bd.method).1
  have X0 : Stand p l e ({ frames := 5, cells := 0, slots := 0, locals := 69 } : Room) s m #[(.ref a1), (.int p2), (.ref a3)] below meth c s₁ [] 0 0 := Stand.of_body Bd
  have e0 : s₁.heap = h0 := by rw [← hh, Bd.state]; rfl
  have N0 := Fr.nil n0
  obtain ⟨_, _, ⟨T4, L4, k4, n4⟩, -, X4, ⟨Lc4, hQ4, l4, y4, z4⟩, st4⟩ := Jvm.LawKit.callS X0 hx (y := mN53) hown (mvT hZ (hi 250 rfl)) (mvT hZ (hi 251 rfl)) (mvT hZ (hi 248 rfl)) (mvT hZ (hi 252 rfl)) (by decide) (backOf (W := 0) (rm37e l Z a0 hw [] a1 p2 a3 (0 : Int32) yar_ yao_ (13 : Int32) yv_ ya_ yc_ yn_ yd_ ye_ yb_ ydb_ ydb_ h0 n0 Z0 hcs hsv ybg_ yaz_ yf_ ybe_ E_a3 yae_ yam_ yx_ yac_ E_a1 (by decide) ygc_ ygd_ yir_ yis_ (by decide) (by decide) (by decide) yit_ rfl) hZ (hi 252 rfl) (hi 248 rfl) (by decide) (by decide)) (g := (mkF m 4 #[vA a1, vI p2, vA a3] [(.int (0 : Int32)), (.ref a3), (.int p2), (.ref a1)])) rfl (by rw [hml]; rfl) (argsL := [(.ref a1), (.int p2), (.ref a3), (.int (0 : Int32))]) (rest := []) (lenOf yh_ rfl) rfl (by show 2 * 0 + _ ≤ _; exact Nat.le_of_eq rfl) (hb hby d36_4) (fun _ _ => ⟨rfl, e0, (by decide : 0 + 0 ≤ _), (by decide : 0 + 0 ≤ _)⟩)
  dsimp only [Pt.U, Pt.locs, Pt.cells, Pt.slots] at X4 l4 y4 z4 st4 hQ4
  subst l4 y4 z4
  obtain ⟨rfl, N4q, e4⟩ := hQ4
  have N4 := Fr.app N0 N4q
  obtain ⟨_, _, ⟨T5, L5, k5, n5⟩, -, X5, ⟨Lc5, hQ5, l5, y5, z5⟩, st5⟩ := Jvm.LawKit.callS X4 hx (y := mN53) hown (mvT hZ (hi 250 rfl)) (mvT hZ (hi 251 rfl)) (mvT hZ (hi 248 rfl)) (mvT hZ (hi 252 rfl)) (by decide) (backOf (W := 0) (rm37e l Z a0 hw [] a1 p2 a3 (1 : Int32) yar_ yao_ (13 : Int32) yv_ ya_ yc_ yn_ yd_ ye_ yb_ ycq_ ycq_ h0 n0 Z0 hcs hsv ybg_ yaz_ yf_ ybe_ E_a3 yae_ yam_ yx_ yac_ E_a1 (by decide) yfg_ yfh_ yho_ yhp_ (by decide) (by decide) (by decide) yhq_ rfl) hZ (hi 252 rfl) (hi 248 rfl) (by decide) (by decide)) (g := (mkF m 14 #[vA a1, vI p2, vA a3] [(.int (1 : Int32)), (.ref a3), (.int p2), (.ref a1)])) rfl (by rw [hml]; rfl) (argsL := [(.ref a1), (.int p2), (.ref a3), (.int (1 : Int32))]) (rest := []) (lenOf yh_ rfl) rfl (by show 2 * 0 + _ ≤ _; exact Nat.le_of_eq rfl) (hb hby d36_14) (fun _ _ => ⟨rfl, e4, (by decide : 0 + 0 ≤ _), (by decide : 0 + 0 ≤ _)⟩)
  dsimp only [Pt.U, Pt.locs, Pt.cells, Pt.slots] at X5 l5 y5 z5 st5 hQ5
  subst l5 y5 z5
  obtain ⟨rfl, N5q, e5⟩ := hQ5
  have N5 := Fr.app N4 N5q
  obtain ⟨_, _, ⟨T6, L6, k6, n6⟩, -, X6, ⟨Lc6, hQ6, l6, y6, z6⟩, st6⟩ := Jvm.LawKit.callS X5 hx (y := mN53) hown (mvT hZ (hi 250 rfl)) (mvT hZ (hi 251 rfl)) (mvT hZ (hi 248 rfl)) (mvT hZ (hi 252 rfl)) (by decide) (backOf (W := 0) (rm37e l Z a0 hw [] a1 p2 a3 (2 : Int32) yar_ yao_ (13 : Int32) yv_ ya_ yc_ yn_ yd_ ye_ yb_ ycr_ ycr_ h0 n0 Z0 hcs hsv ybg_ yaz_ yf_ ybe_ E_a3 yae_ yam_ yx_ yac_ E_a1 (by decide) yfi_ yfj_ yhr_ yhs_ (by decide) (by decide) (by decide) yht_ rfl) hZ (hi 252 rfl) (hi 248 rfl) (by decide) (by decide)) (g := (mkF m 24 #[vA a1, vI p2, vA a3] [(.int (2 : Int32)), (.ref a3), (.int p2), (.ref a1)])) rfl (by rw [hml]; rfl) (argsL := [(.ref a1), (.int p2), (.ref a3), (.int (2 : Int32))]) (rest := []) (lenOf yh_ rfl) rfl (by show 2 * 0 + _ ≤ _; exact Nat.le_of_eq rfl) (hb hby d36_24) (fun _ _ => ⟨rfl, e5, (by decide : 0 + 0 ≤ _), (by decide : 0 + 0 ≤ _)⟩)
  dsimp only [Pt.U, Pt.locs, Pt.cells, Pt.slots] at X6 l6 y6 z6 st6 hQ6
  subst l6 y6 z6
  obtain ⟨rfl, N6q, e6⟩ := hQ6
  have N6 := Fr.app N5 N6q
  obtain ⟨_, _, ⟨T7, L7, k7, n7⟩, -, X7, ⟨Lc7, hQ7, l7, y7, z7⟩, st7⟩ := Jvm.LawKit.callS X6 hx (y := mN53) hown (mvT hZ (hi 250 rfl)) (mvT hZ (hi 251 rfl)) (mvT hZ (hi 248 rfl)) (mvT hZ (hi 252 rfl)) (by decide) (backOf (W := 0) (rm37e l Z a0 hw [] a1 p2 a3 (3 : Int32) yar_ yao_ (13 : Int32) yv_ ya_ yc_ yn_ yd_ ye_ yb_ ycs_ ycs_ h0 n0 Z0 hcs hsv ybg_ yaz_ yf_ ybe_ E_a3 yae_ yam_ yx_ yac_ E_a1 (by decide) yfk_ yfl_ yhu_ yhv_ (by decide) (by decide) (by decide) yhw_ rfl) hZ (hi 252 rfl) (hi 248 rfl) (by decide) (by decide)) (g := (mkF m 34 #[vA a1, vI p2, vA a3] [(.int (3 : Int32)), (.ref a3), (.int p2), (.ref a1)])) rfl (by rw [hml]; rfl) (argsL := [(.ref a1), (.int p2), (.ref a3), (.int (3 : Int32))]) (rest := []) (lenOf yh_ rfl) rfl (by show 2 * 0 + _ ≤ _; exact Nat.le_of_eq rfl) (hb hby d36_34) (fun _ _ => ⟨rfl, e6, (by decide : 0 + 0 ≤ _), (by decide : 0 + 0 ≤ _)⟩)
  dsimp only [Pt.U, Pt.locs, Pt.cells, Pt.slots] at X7 l7 y7 z7 st7 hQ7
  subst l7 y7 z7
  obtain ⟨rfl, N7q, e7⟩ := hQ7
  have N7 := Fr.app N6 N7q
  obtain ⟨_, _, ⟨T8, L8, k8, n8⟩, -, X8, ⟨Lc8, hQ8, l8, y8, z8⟩, st8⟩ := Jvm.LawKit.callS X7 hx (y := mN53) hown (mvT hZ (hi 250 rfl)) (mvT hZ (hi 251 rfl)) (mvT hZ (hi 248 rfl)) (mvT hZ (hi 252 rfl)) (by decide) (backOf (W := 0) (rm37e l Z a0 hw [] a1 p2 a3 (4 : Int32) yar_ yao_ (13 : Int32) yv_ ya_ yc_ yn_ yd_ ye_ yb_ yct_ yct_ h0 n0 Z0 hcs hsv ybg_ yaz_ yf_ ybe_ E_a3 yae_ yam_ yx_ yac_ E_a1 (by decide) yfm_ yfn_ yhx_ yhy_ (by decide) (by decide) (by decide) yhz_ rfl) hZ (hi 252 rfl) (hi 248 rfl) (by decide) (by decide)) (g := (mkF m 44 #[vA a1, vI p2, vA a3] [(.int (4 : Int32)), (.ref a3), (.int p2), (.ref a1)])) rfl (by rw [hml]; rfl) (argsL := [(.ref a1), (.int p2), (.ref a3), (.int (4 : Int32))]) (rest := []) (lenOf yh_ rfl) rfl (by show 2 * 0 + _ ≤ _; exact Nat.le_of_eq rfl) (hb hby d36_44) (fun _ _ => ⟨rfl, e7, (by decide : 0 + 0 ≤ _), (by decide : 0 + 0 ≤ _)⟩)
  dsimp only [Pt.U, Pt.locs, Pt.cells, Pt.slots] at X8 l8 y8 z8 st8 hQ8
  subst l8 y8 z8
  obtain ⟨rfl, N8q, e8⟩ := hQ8
  have N8 := Fr.app N7 N8q
  obtain ⟨_, _, ⟨T9, L9, k9, n9⟩, -, X9, ⟨Lc9, hQ9, l9, y9, z9⟩, st9⟩ := Jvm.LawKit.callS X8 hx (y := mN53) hown (mvT hZ (hi 250 rfl)) (mvT hZ (hi 251 rfl)) (mvT hZ (hi 248 rfl)) (mvT hZ (hi 252 rfl)) (by decide) (backOf (W := 0) (rm37e l Z a0 hw [] a1 p2 a3 (5 : Int32) yar_ yao_ (13 : Int32) yv_ ya_ yc_ yn_ yd_ ye_ yb_ ycu_ ycu_ h0 n0 Z0 hcs hsv ybg_ yaz_ yf_ ybe_ E_a3 yae_ yam_ yx_ yac_ E_a1 (by decide) yfo_ yfp_ yia_ yib_ (by decide) (by decide) (by decide) yic_ rfl) hZ (hi 252 rfl) (hi 248 rfl) (by decide) (by decide)) (g := (mkF m 54 #[vA a1, vI p2, vA a3] [(.int (5 : Int32)), (.ref a3), (.int p2), (.ref a1)])) rfl (by rw [hml]; rfl) (argsL := [(.ref a1), (.int p2), (.ref a3), (.int (5 : Int32))]) (rest := []) (lenOf yh_ rfl) rfl (by show 2 * 0 + _ ≤ _; exact Nat.le_of_eq rfl) (hb hby d36_54) (fun _ _ => ⟨rfl, e8, (by decide : 0 + 0 ≤ _), (by decide : 0 + 0 ≤ _)⟩)
  dsimp only [Pt.U, Pt.locs, Pt.cells, Pt.slots] at X9 l9 y9 z9 st9 hQ9
  subst l9 y9 z9
  obtain ⟨rfl, N9q, e9⟩ := hQ9
  have N9 := Fr.app N8 N9q
  obtain ⟨_, _, ⟨T10, L10, k10, n10⟩, -, X10, ⟨Lc10, hQ10, l10, y10, z10⟩, st10⟩ := Jvm.LawKit.callS X9 hx (y := mN53) hown (mvT hZ (hi 250 rfl)) (mvT hZ (hi 251 rfl)) (mvT hZ (hi 248 rfl)) (mvT hZ (hi 252 rfl)) (by decide) (backOf (W := 0) (rm37e l Z a0 hw [] a1 p2 a3 (6 : Int32) yar_ yao_ (13 : Int32) yv_ ya_ yc_ yn_ yd_ ye_ yb_ ycv_ ycv_ h0 n0 Z0 hcs hsv ybg_ yaz_ yf_ ybe_ E_a3 yae_ yam_ yx_ yac_ E_a1 (by decide) yfq_ yfr_ yid_ yie_ (by decide) (by decide) (by decide) yif_ rfl) hZ (hi 252 rfl) (hi 248 rfl) (by decide) (by decide)) (g := (mkF m 65 #[vA a1, vI p2, vA a3] [(.int (6 : Int32)), (.ref a3), (.int p2), (.ref a1)])) rfl (by rw [hml]; rfl) (argsL := [(.ref a1), (.int p2), (.ref a3), (.int (6 : Int32))]) (rest := []) (lenOf yh_ rfl) rfl (by show 2 * 0 + _ ≤ _; exact Nat.le_of_eq rfl) (hb hby d36_65) (fun _ _ => ⟨rfl, e9, (by decide : 0 + 0 ≤ _), (by decide : 0 + 0 ≤ _)⟩)
  dsimp only [Pt.U, Pt.locs, Pt.cells, Pt.slots] at X10 l10 y10 z10 st10 hQ10
  subst l10 y10 z10
  obtain ⟨rfl, N10q, e10⟩ := hQ10
  have N10 := Fr.app N9 N10q
  obtain ⟨_, _, ⟨T11, L11, k11, n11⟩, -, X11, ⟨Lc11, hQ11, l11, y11, z11⟩, st11⟩ := Jvm.LawKit.callS X10 hx (y := mN53) hown (mvT hZ (hi 250 rfl)) (mvT hZ (hi 251 rfl)) (mvT hZ (hi 248 rfl)) (mvT hZ (hi 252 rfl)) (by decide) (backOf (W := 0) (rm37e l Z a0 hw [] a1 p2 a3 (7 : Int32) yar_ yao_ (13 : Int32) yv_ ya_ yc_ yn_ yd_ ye_ yb_ ycw_ ycw_ h0 n0 Z0 hcs hsv ybg_ yaz_ yf_ ybe_ E_a3 yae_ yam_ yx_ yac_ E_a1 (by decide) yfs_ yft_ yig_ yih_ (by decide) (by decide) (by decide) yii_ rfl) hZ (hi 252 rfl) (hi 248 rfl) (by decide) (by decide)) (g := (mkF m 76 #[vA a1, vI p2, vA a3] [(.int (7 : Int32)), (.ref a3), (.int p2), (.ref a1)])) rfl (by rw [hml]; rfl) (argsL := [(.ref a1), (.int p2), (.ref a3), (.int (7 : Int32))]) (rest := []) (lenOf yh_ rfl) rfl (by show 2 * 0 + _ ≤ _; exact Nat.le_of_eq rfl) (hb hby d36_76) (fun _ _ => ⟨rfl, e10, (by decide : 0 + 0 ≤ _), (by decide : 0 + 0 ≤ _)⟩)
  dsimp only [Pt.U, Pt.locs, Pt.cells, Pt.slots] at X11 l11 y11 z11 st11 hQ11
  subst l11 y11 z11
  obtain ⟨rfl, N11q, e11⟩ := hQ11
  have N11 := Fr.app N10 N11q
  obtain ⟨_, _, ⟨T12, L12, k12, n12⟩, -, X12, ⟨Lc12, hQ12, l12, y12, z12⟩, st12⟩ := Jvm.LawKit.callS X11 hx (y := mN53) hown (mvT hZ (hi 250 rfl)) (mvT hZ (hi 251 rfl)) (mvT hZ (hi 248 rfl)) (mvT hZ (hi 252 rfl)) (by decide) (backOf (W := 0) (rm37e l Z a0 hw [] a1 p2 a3 (8 : Int32) yar_ yao_ (13 : Int32) yv_ ya_ yc_ yn_ yd_ ye_ yb_ ycx_ ycx_ h0 n0 Z0 hcs hsv ybg_ yaz_ yf_ ybe_ E_a3 yae_ yam_ yx_ yac_ E_a1 (by decide) yfu_ yfv_ yij_ yik_ (by decide) (by decide) (by decide) yil_ rfl) hZ (hi 252 rfl) (hi 248 rfl) (by decide) (by decide)) (g := (mkF m 87 #[vA a1, vI p2, vA a3] [(.int (8 : Int32)), (.ref a3), (.int p2), (.ref a1)])) rfl (by rw [hml]; rfl) (argsL := [(.ref a1), (.int p2), (.ref a3), (.int (8 : Int32))]) (rest := []) (lenOf yh_ rfl) rfl (by show 2 * 0 + _ ≤ _; exact Nat.le_of_eq rfl) (hb hby d36_87) (fun _ _ => ⟨rfl, e11, (by decide : 0 + 0 ≤ _), (by decide : 0 + 0 ≤ _)⟩)
  dsimp only [Pt.U, Pt.locs, Pt.cells, Pt.slots] at X12 l12 y12 z12 st12 hQ12
  subst l12 y12 z12
  obtain ⟨rfl, N12q, e12⟩ := hQ12
  have N12 := Fr.app N11 N12q
  obtain ⟨_, _, ⟨T13, L13, k13, n13⟩, -, X13, ⟨Lc13, hQ13, l13, y13, z13⟩, st13⟩ := Jvm.LawKit.callS X12 hx (y := mN53) hown (mvT hZ (hi 250 rfl)) (mvT hZ (hi 251 rfl)) (mvT hZ (hi 248 rfl)) (mvT hZ (hi 252 rfl)) (by decide) (backOf (W := 0) (rm37e l Z a0 hw [] a1 p2 a3 (9 : Int32) yar_ yao_ (13 : Int32) yv_ ya_ yc_ yn_ yd_ ye_ yb_ ycy_ ycy_ h0 n0 Z0 hcs hsv ybg_ yaz_ yf_ ybe_ E_a3 yae_ yam_ yx_ yac_ E_a1 (by decide) yfw_ yfx_ yim_ yin_ (by decide) (by decide) (by decide) yio_ rfl) hZ (hi 252 rfl) (hi 248 rfl) (by decide) (by decide)) (g := (mkF m 98 #[vA a1, vI p2, vA a3] [(.int (9 : Int32)), (.ref a3), (.int p2), (.ref a1)])) rfl (by rw [hml]; rfl) (argsL := [(.ref a1), (.int p2), (.ref a3), (.int (9 : Int32))]) (rest := []) (lenOf yh_ rfl) rfl (by show 2 * 0 + _ ≤ _; exact Nat.le_of_eq rfl) (hb hby d36_98) (fun _ _ => ⟨rfl, e12, (by decide : 0 + 0 ≤ _), (by decide : 0 + 0 ≤ _)⟩)
  dsimp only [Pt.U, Pt.locs, Pt.cells, Pt.slots] at X13 l13 y13 z13 st13 hQ13
  subst l13 y13 z13
  obtain ⟨rfl, N13q, e13⟩ := hQ13
  have N13 := Fr.app N12 N13q
  obtain ⟨_, _, ⟨T14, L14, k14, n14⟩, -, X14, ⟨Lc14, hQ14, l14, y14, z14⟩, st14⟩ := Jvm.LawKit.callS X13 hx (y := mN53) hown (mvT hZ (hi 250 rfl)) (mvT hZ (hi 251 rfl)) (mvT hZ (hi 248 rfl)) (mvT hZ (hi 252 rfl)) (by decide) (backOf (W := 0) (rm37e l Z a0 hw [] a1 p2 a3 (10 : Int32) yar_ yao_ (13 : Int32) yv_ ya_ yc_ yn_ yd_ ye_ yb_ yci_ yci_ h0 n0 Z0 hcs hsv ybg_ yaz_ yf_ ybe_ E_a3 yae_ yam_ yx_ yac_ E_a1 (by decide) yez_ yfa_ yhd_ yhe_ (by decide) (by decide) (by decide) yhf_ rfl) hZ (hi 252 rfl) (hi 248 rfl) (by decide) (by decide)) (g := (mkF m 109 #[vA a1, vI p2, vA a3] [(.int (10 : Int32)), (.ref a3), (.int p2), (.ref a1)])) rfl (by rw [hml]; rfl) (argsL := [(.ref a1), (.int p2), (.ref a3), (.int (10 : Int32))]) (rest := []) (lenOf yh_ rfl) rfl (by show 2 * 0 + _ ≤ _; exact Nat.le_of_eq rfl) (hb hby d36_109) (fun _ _ => ⟨rfl, e13, (by decide : 0 + 0 ≤ _), (by decide : 0 + 0 ≤ _)⟩)
  dsimp only [Pt.U, Pt.locs, Pt.cells, Pt.slots] at X14 l14 y14 z14 st14 hQ14
  subst l14 y14 z14
  obtain ⟨rfl, N14q, e14⟩ := hQ14
  have N14 := Fr.app N13 N14q
  obtain ⟨_, _, ⟨T15, L15, k15, n15⟩, -, X15, ⟨Lc15, hQ15, l15, y15, z15⟩, st15⟩ := Jvm.LawKit.callS X14 hx (y := mN53) hown (mvT hZ (hi 250 rfl)) (mvT hZ (hi 251 rfl)) (mvT hZ (hi 248 rfl)) (mvT hZ (hi 252 rfl)) (by decide) (backOf (W := 0) (rm37e l Z a0 hw [] a1 p2 a3 (11 : Int32) yar_ yao_ (13 : Int32) yv_ ya_ yc_ yn_ yd_ ye_ yb_ ycj_ ycj_ h0 n0 Z0 hcs hsv ybg_ yaz_ yf_ ybe_ E_a3 yae_ yam_ yx_ yac_ E_a1 (by decide) yfb_ yfc_ yhg_ yhh_ (by decide) (by decide) (by decide) yhi_ rfl) hZ (hi 252 rfl) (hi 248 rfl) (by decide) (by decide)) (g := (mkF m 120 #[vA a1, vI p2, vA a3] [(.int (11 : Int32)), (.ref a3), (.int p2), (.ref a1)])) rfl (by rw [hml]; rfl) (argsL := [(.ref a1), (.int p2), (.ref a3), (.int (11 : Int32))]) (rest := []) (lenOf yh_ rfl) rfl (by show 2 * 0 + _ ≤ _; exact Nat.le_of_eq rfl) (hb hby d36_120) (fun _ _ => ⟨rfl, e14, (by decide : 0 + 0 ≤ _), (by decide : 0 + 0 ≤ _)⟩)
  dsimp only [Pt.U, Pt.locs, Pt.cells, Pt.slots] at X15 l15 y15 z15 st15 hQ15
  subst l15 y15 z15
  obtain ⟨rfl, N15q, e15⟩ := hQ15
  have N15 := Fr.app N14 N15q
  obtain ⟨_, _, ⟨T16, L16, k16, n16⟩, -, X16, ⟨Lc16, hQ16, l16, y16, z16⟩, st16⟩ := Jvm.LawKit.callS X15 hx (y := mN53) hown (mvT hZ (hi 250 rfl)) (mvT hZ (hi 251 rfl)) (mvT hZ (hi 248 rfl)) (mvT hZ (hi 252 rfl)) (by decide) (backOf (W := 0) (rm37e l Z a0 hw [] a1 p2 a3 (12 : Int32) yar_ yao_ (13 : Int32) yv_ ya_ yc_ yn_ yd_ ye_ yb_ yck_ yck_ h0 n0 Z0 hcs hsv ybg_ yaz_ yf_ ybe_ E_a3 yae_ yam_ yx_ yac_ E_a1 (by decide) yfd_ yfe_ yhj_ yhk_ (by decide) (by decide) (by decide) yhl_ rfl) hZ (hi 252 rfl) (hi 248 rfl) (by decide) (by decide)) (g := (mkF m 131 #[vA a1, vI p2, vA a3] [(.int (12 : Int32)), (.ref a3), (.int p2), (.ref a1)])) rfl (by rw [hml]; rfl) (argsL := [(.ref a1), (.int p2), (.ref a3), (.int (12 : Int32))]) (rest := []) (lenOf yh_ rfl) rfl (by show 2 * 0 + _ ≤ _; exact Nat.le_of_eq rfl) (hb hby d36_131) (fun _ _ => ⟨rfl, e15, (by decide : 0 + 0 ≤ _), (by decide : 0 + 0 ≤ _)⟩)
  dsimp only [Pt.U, Pt.locs, Pt.cells, Pt.slots] at X16 l16 y16 z16 st16 hQ16
  subst l16 y16 z16
  obtain ⟨rfl, N16q, e16⟩ := hQ16
  have N16 := Fr.app N15 N16q
  obtain ⟨_, _, ⟨T17, L17, k17, n17⟩, -, X17, ⟨Lc17, hQ17, l17, y17, z17⟩, st17⟩ := Jvm.LawKit.callS X16 hx (y := mN53) hown (mvT hZ (hi 250 rfl)) (mvT hZ (hi 251 rfl)) (mvT hZ (hi 248 rfl)) (mvT hZ (hi 252 rfl)) (by decide) (backOf (W := 0) (rm37o l Z a0 hw [] a1 p2 a3 (13 : Int32) yar_ yao_ (13 : Int32) yv_ ya_ h0 n0 Z0 hcs ybg_ yaz_ yf_ ybe_ E_a3 (by decide)) hZ (hi 252 rfl) (hi 248 rfl) (by decide) (by decide)) (g := (mkF m 142 #[vA a1, vI p2, vA a3] [(.int (13 : Int32)), (.ref a3), (.int p2), (.ref a1)])) rfl (by rw [hml]; rfl) (argsL := [(.ref a1), (.int p2), (.ref a3), (.int (13 : Int32))]) (rest := []) (lenOf yh_ rfl) rfl (by show 2 * 0 + _ ≤ _; exact Nat.le_of_eq rfl) (hb hby d36_142) (fun _ _ => ⟨rfl, e16, (by decide : 0 + 0 ≤ _), (by decide : 0 + 0 ≤ _)⟩)
  dsimp only [Pt.U, Pt.locs, Pt.cells, Pt.slots] at X17 l17 y17 z17 st17 hQ17
  subst l17 y17 z17
  obtain ⟨rfl, N17q, e17⟩ := hQ17
  have N17 := Fr.app N16 N17q
  obtain ⟨_, _, ⟨T18, L18, k18, n18⟩, -, X18, ⟨Lc18, hQ18, l18, y18, z18⟩, st18⟩ := Jvm.LawKit.callS X17 hx (y := mN53) hown (mvT hZ (hi 250 rfl)) (mvT hZ (hi 251 rfl)) (mvT hZ (hi 248 rfl)) (mvT hZ (hi 252 rfl)) (by decide) (backOf (W := 0) (rm37o l Z a0 hw [] a1 p2 a3 (14 : Int32) yar_ yao_ (13 : Int32) yv_ ya_ h0 n0 Z0 hcs ybg_ yaz_ yf_ ybe_ E_a3 (by decide)) hZ (hi 252 rfl) (hi 248 rfl) (by decide) (by decide)) (g := (mkF m 153 #[vA a1, vI p2, vA a3] [(.int (14 : Int32)), (.ref a3), (.int p2), (.ref a1)])) rfl (by rw [hml]; rfl) (argsL := [(.ref a1), (.int p2), (.ref a3), (.int (14 : Int32))]) (rest := []) (lenOf yh_ rfl) rfl (by show 2 * 0 + _ ≤ _; exact Nat.le_of_eq rfl) (hb hby d36_153) (fun _ _ => ⟨rfl, e17, (by decide : 0 + 0 ≤ _), (by decide : 0 + 0 ≤ _)⟩)
  dsimp only [Pt.U, Pt.locs, Pt.cells, Pt.slots] at X18 l18 y18 z18 st18 hQ18
  subst l18 y18 z18
  obtain ⟨rfl, N18q, e18⟩ := hQ18
  have N18 := Fr.app N17 N18q
  obtain ⟨fs, hr, hrun, hended, hW, hsame⟩ := X18.leave (v := some (.int (1 : Int32))) (fun h => by rw [Bd.returns] at h; cases h)
  refine ⟨_, _, castTop (ef_36 m a1 p2 a3) ?_, hrun, hended, _, _, rfl, ?_, ⟨_, rfl⟩, hW, hsame.mono (by decide) (by decide)⟩
  · show Steps p.tables e below (s₁.setTop (mkF m 0 #[vA a1, vI p2, vA a3] [])) _
    refine XS.aloadN X0.here hx rfl (hb hby d36_0) rfl rfl ?_
    refine XS.iloadN X0.here hx rfl (hb hby d36_1) rfl ?_
    refine XS.aloadN X0.here hx rfl (hb hby d36_2) rfl rfl ?_
    refine XS.iconst X0.here hx rfl (hb hby d36_3) ?_
    refine st4 _ ?_
    refine XS.ifNo X4.here hx rfl (hb hby d36_7) rfl ((if0 _ _).trans (feq (by decide : ¬ ((1 : Int32) = (0 : Int32)))).1) ?_
    refine XS.aloadN X4.here hx rfl (hb hby d36_10) rfl rfl ?_
    refine XS.iloadN X4.here hx rfl (hb hby d36_11) rfl ?_
    refine XS.aloadN X4.here hx rfl (hb hby d36_12) rfl rfl ?_
    refine XS.iconst X4.here hx rfl (hb hby d36_13) ?_
    refine st5 _ ?_
    refine XS.ifNo X5.here hx rfl (hb hby d36_17) rfl ((if0 _ _).trans (feq (by decide : ¬ ((1 : Int32) = (0 : Int32)))).1) ?_
    refine XS.aloadN X5.here hx rfl (hb hby d36_20) rfl rfl ?_
    refine XS.iloadN X5.here hx rfl (hb hby d36_21) rfl ?_
    refine XS.aloadN X5.here hx rfl (hb hby d36_22) rfl rfl ?_
    refine XS.iconst X5.here hx rfl (hb hby d36_23) ?_
    refine st6 _ ?_
    refine XS.ifNo X6.here hx rfl (hb hby d36_27) rfl ((if0 _ _).trans (feq (by decide : ¬ ((1 : Int32) = (0 : Int32)))).1) ?_
    refine XS.aloadN X6.here hx rfl (hb hby d36_30) rfl rfl ?_
    refine XS.iloadN X6.here hx rfl (hb hby d36_31) rfl ?_
    refine XS.aloadN X6.here hx rfl (hb hby d36_32) rfl rfl ?_
    refine XS.iconst X6.here hx rfl (hb hby d36_33) ?_
    refine st7 _ ?_
    refine XS.ifNo X7.here hx rfl (hb hby d36_37) rfl ((if0 _ _).trans (feq (by decide : ¬ ((1 : Int32) = (0 : Int32)))).1) ?_
    refine XS.aloadN X7.here hx rfl (hb hby d36_40) rfl rfl ?_
    refine XS.iloadN X7.here hx rfl (hb hby d36_41) rfl ?_
    refine XS.aloadN X7.here hx rfl (hb hby d36_42) rfl rfl ?_
    refine XS.iconst X7.here hx rfl (hb hby d36_43) ?_
    refine st8 _ ?_
    refine XS.ifNo X8.here hx rfl (hb hby d36_47) rfl ((if0 _ _).trans (feq (by decide : ¬ ((1 : Int32) = (0 : Int32)))).1) ?_
    refine XS.aloadN X8.here hx rfl (hb hby d36_50) rfl rfl ?_
    refine XS.iloadN X8.here hx rfl (hb hby d36_51) rfl ?_
    refine XS.aloadN X8.here hx rfl (hb hby d36_52) rfl rfl ?_
    refine XS.iconst X8.here hx rfl (hb hby d36_53) ?_
    refine st9 _ ?_
    refine XS.ifNo X9.here hx rfl (hb hby d36_57) rfl ((if0 _ _).trans (feq (by decide : ¬ ((1 : Int32) = (0 : Int32)))).1) ?_
    refine XS.aloadN X9.here hx rfl (hb hby d36_60) rfl rfl ?_
    refine XS.iloadN X9.here hx rfl (hb hby d36_61) rfl ?_
    refine XS.aloadN X9.here hx rfl (hb hby d36_62) rfl rfl ?_
    refine XS.bipush X9.here hx rfl (hb hby d36_63) ?_
    refine st10 _ ?_
    refine XS.ifNo X10.here hx rfl (hb hby d36_68) rfl ((if0 _ _).trans (feq (by decide : ¬ ((1 : Int32) = (0 : Int32)))).1) ?_
    refine XS.aloadN X10.here hx rfl (hb hby d36_71) rfl rfl ?_
    refine XS.iloadN X10.here hx rfl (hb hby d36_72) rfl ?_
    refine XS.aloadN X10.here hx rfl (hb hby d36_73) rfl rfl ?_
    refine XS.bipush X10.here hx rfl (hb hby d36_74) ?_
    refine st11 _ ?_
    refine XS.ifNo X11.here hx rfl (hb hby d36_79) rfl ((if0 _ _).trans (feq (by decide : ¬ ((1 : Int32) = (0 : Int32)))).1) ?_
    refine XS.aloadN X11.here hx rfl (hb hby d36_82) rfl rfl ?_
    refine XS.iloadN X11.here hx rfl (hb hby d36_83) rfl ?_
    refine XS.aloadN X11.here hx rfl (hb hby d36_84) rfl rfl ?_
    refine XS.bipush X11.here hx rfl (hb hby d36_85) ?_
    refine st12 _ ?_
    refine XS.ifNo X12.here hx rfl (hb hby d36_90) rfl ((if0 _ _).trans (feq (by decide : ¬ ((1 : Int32) = (0 : Int32)))).1) ?_
    refine XS.aloadN X12.here hx rfl (hb hby d36_93) rfl rfl ?_
    refine XS.iloadN X12.here hx rfl (hb hby d36_94) rfl ?_
    refine XS.aloadN X12.here hx rfl (hb hby d36_95) rfl rfl ?_
    refine XS.bipush X12.here hx rfl (hb hby d36_96) ?_
    refine st13 _ ?_
    refine XS.ifNo X13.here hx rfl (hb hby d36_101) rfl ((if0 _ _).trans (feq (by decide : ¬ ((1 : Int32) = (0 : Int32)))).1) ?_
    refine XS.aloadN X13.here hx rfl (hb hby d36_104) rfl rfl ?_
    refine XS.iloadN X13.here hx rfl (hb hby d36_105) rfl ?_
    refine XS.aloadN X13.here hx rfl (hb hby d36_106) rfl rfl ?_
    refine XS.bipush X13.here hx rfl (hb hby d36_107) ?_
    refine st14 _ ?_
    refine XS.ifNo X14.here hx rfl (hb hby d36_112) rfl ((if0 _ _).trans (feq (by decide : ¬ ((1 : Int32) = (0 : Int32)))).1) ?_
    refine XS.aloadN X14.here hx rfl (hb hby d36_115) rfl rfl ?_
    refine XS.iloadN X14.here hx rfl (hb hby d36_116) rfl ?_
    refine XS.aloadN X14.here hx rfl (hb hby d36_117) rfl rfl ?_
    refine XS.bipush X14.here hx rfl (hb hby d36_118) ?_
    refine st15 _ ?_
    refine XS.ifNo X15.here hx rfl (hb hby d36_123) rfl ((if0 _ _).trans (feq (by decide : ¬ ((1 : Int32) = (0 : Int32)))).1) ?_
    refine XS.aloadN X15.here hx rfl (hb hby d36_126) rfl rfl ?_
    refine XS.iloadN X15.here hx rfl (hb hby d36_127) rfl ?_
    refine XS.aloadN X15.here hx rfl (hb hby d36_128) rfl rfl ?_
    refine XS.bipush X15.here hx rfl (hb hby d36_129) ?_
    refine st16 _ ?_
    refine XS.ifNo X16.here hx rfl (hb hby d36_134) rfl ((if0 _ _).trans (feq (by decide : ¬ ((1 : Int32) = (0 : Int32)))).1) ?_
    refine XS.aloadN X16.here hx rfl (hb hby d36_137) rfl rfl ?_
    refine XS.iloadN X16.here hx rfl (hb hby d36_138) rfl ?_
    refine XS.aloadN X16.here hx rfl (hb hby d36_139) rfl rfl ?_
    refine XS.bipush X16.here hx rfl (hb hby d36_140) ?_
    refine st17 _ ?_
    refine XS.ifNo X17.here hx rfl (hb hby d36_145) rfl ((if0 _ _).trans (feq (by decide : ¬ ((1 : Int32) = (0 : Int32)))).1) ?_
    refine XS.aloadN X17.here hx rfl (hb hby d36_148) rfl rfl ?_
    refine XS.iloadN X17.here hx rfl (hb hby d36_149) rfl ?_
    refine XS.aloadN X17.here hx rfl (hb hby d36_150) rfl rfl ?_
    refine XS.bipush X17.here hx rfl (hb hby d36_151) ?_
    refine st18 _ ?_
    refine XS.ifNo X18.here hx rfl (hb hby d36_156) rfl ((if0 _ _).trans (feq (by decide : ¬ ((1 : Int32) = (0 : Int32)))).1) ?_
    refine XS.iconst X18.here hx rfl (hb hby d36_159) ?_
    refine XS.goto X18.here hx rfl (pc0 := 160) (pc' := 164) rfl (hb hby d36_160) (by decide) (by decide) ?_
    show Steps p.tables e below (T18.setTop (mkF m 164 #[vA a1, vI p2, vA a3] [(.int (1 : Int32))])) _
    exact retN X18 hx (t := .boolean) Bd.returns (by simp) (hb hby d36_164) hr
  · show yoi_ Z a1 p2 a3 yar_ ya_ yc_ yn_ yd_ ye_ yb_ yao_ yv_ ydb_ ycq_ ycr_ ycs_ yct_ ycu_ ycv_ ycw_ ycx_ ycy_ yci_ ycj_ yck_ h0 n0 _ T18.heap _
    exact ⟨rfl, N18, e18⟩
def yoj_ (Z : State) (a1 : Addr) (p2 : Int32) (a3 : Addr) (yar_ : Addr) (ya_ : Int32) (yc_ : Addr) (yn_ : ClassId) (yd_ : Int32) (ye_ : List Value) (yb_ : Value) (yao_ : ClassId) (yv_ : List Value) (ydb_ : Int32) (ycq_ : Int32) (ycr_ : Int32) (ycs_ : Int32) (yct_ : Int32) (ycu_ : Int32) (ycv_ : Int32) (ycw_ : Int32) (ycx_ : Int32) (ycy_ : Int32) (yci_ : Int32) (ycj_ : Int32) (yck_ : Int32) (yeo_ : Int32) (yep_ : Int32) (h0 : Heap) (n0 : Nat) (v : Option Value) (h : Heap) (L : List Loc) : Prop := v = some (.int (1 : Int32)) ∧ Fr n0 L ∧ h = h0
set_option maxRecDepth 65536 in
set_option maxHeartbeats 40000000 in
theorem rm36_15 (l : Launch) (Z : State) (a0 : Array Value) (hw : ∀ d ∈ tables_1, d.before a0 Z = true) (ws : List Jvm.Cond) (a1 : Addr) (p2 : Int32) (a3 : Addr) (yar_ : Addr) (ya_ : Int32) (yc_ : Addr) (yn_ : ClassId) (yd_ : Int32) (ye_ : List Value) (yb_ : Value) (yao_ : ClassId) (yv_ : List Value) (ydb_ : Int32) (ycq_ : Int32) (ycr_ : Int32) (ycs_ : Int32) (yct_ : Int32) (ycu_ : Int32) (ycv_ : Int32) (ycw_ : Int32) (ycx_ : Int32) (ycy_ : Int32) (yci_ : Int32) (ycj_ : Int32) (yck_ : Int32) (yeo_ : Int32) (yep_ : Int32) (h0 : Heap) (n0 : Nat) (Z0 : n0 ≤ h0.size) (hcs : ¬ (ya_ = (0 : Int32))) (hsv : yb_.isRef = true) (ybg_ : Fld Z h0 a3 "java/lang/String" "value" "[B" (.ref yar_)) (yf_ : Sta Z h0 "java/lang/String" "COMPACT_STRINGS" "Z" (.int ya_)) (yae_ : Fld Z h0 a1 "java/lang/String" "value" "[B" (.ref yc_)) (yam_ : Arv Z h0 yc_ yn_ .byte yd_ ye_ (.int (0 : Int32))) (yx_ : Sta Z h0 "jdk/internal/util/Preconditions" "SIOOBE_FORMATTER" "Ljava/util/function/BiFunction;" yb_) (ybe_ : Fld Z h0 a3 "java/lang/String" "coder" "B" (.int (0 : Int32))) (E_a3 : Exa Z h0 a3 "java/lang/String") (yac_ : Fld Z h0 a1 "java/lang/String" "coder" "B" (.int (0 : Int32))) (E_a1 : Exa Z h0 a1 "java/lang/String") (yaz_ : Arv Z h0 yar_ yao_ .byte (15 : Int32) yv_ (.int (0 : Int32))) (ygc_ : ¬ ((p2 + (0 : Int32)) < (0 : Int32))) (ygd_ : (p2 + (0 : Int32)) < yd_) (yir_ : ¬ (p2 + (0 : Int32)) < 0 ∧ (p2 + (0 : Int32)) < yd_) (yis_ : (ye_).getD ((p2 + (0 : Int32))).toNatClampNeg (.int (0 : Int32)) = (.int ydb_)) (yit_ : (yv_).getD ((0 : Int32)).toNatClampNeg (.int (0 : Int32)) = (.int ydb_)) (yfg_ : ¬ ((p2 + (1 : Int32)) < (0 : Int32))) (yfh_ : (p2 + (1 : Int32)) < yd_) (yho_ : ¬ (p2 + (1 : Int32)) < 0 ∧ (p2 + (1 : Int32)) < yd_) (yhp_ : (ye_).getD ((p2 + (1 : Int32))).toNatClampNeg (.int (0 : Int32)) = (.int ycq_)) (yhq_ : (yv_).getD ((1 : Int32)).toNatClampNeg (.int (0 : Int32)) = (.int ycq_)) (yfi_ : ¬ ((p2 + (2 : Int32)) < (0 : Int32))) (yfj_ : (p2 + (2 : Int32)) < yd_) (yhr_ : ¬ (p2 + (2 : Int32)) < 0 ∧ (p2 + (2 : Int32)) < yd_) (yhs_ : (ye_).getD ((p2 + (2 : Int32))).toNatClampNeg (.int (0 : Int32)) = (.int ycr_)) (yht_ : (yv_).getD ((2 : Int32)).toNatClampNeg (.int (0 : Int32)) = (.int ycr_)) (yfk_ : ¬ ((p2 + (3 : Int32)) < (0 : Int32))) (yfl_ : (p2 + (3 : Int32)) < yd_) (yhu_ : ¬ (p2 + (3 : Int32)) < 0 ∧ (p2 + (3 : Int32)) < yd_) (yhv_ : (ye_).getD ((p2 + (3 : Int32))).toNatClampNeg (.int (0 : Int32)) = (.int ycs_)) (yhw_ : (yv_).getD ((3 : Int32)).toNatClampNeg (.int (0 : Int32)) = (.int ycs_)) (yfm_ : ¬ ((p2 + (4 : Int32)) < (0 : Int32))) (yfn_ : (p2 + (4 : Int32)) < yd_) (yhx_ : ¬ (p2 + (4 : Int32)) < 0 ∧ (p2 + (4 : Int32)) < yd_) (yhy_ : (ye_).getD ((p2 + (4 : Int32))).toNatClampNeg (.int (0 : Int32)) = (.int yct_)) (yhz_ : (yv_).getD ((4 : Int32)).toNatClampNeg (.int (0 : Int32)) = (.int yct_)) (yfo_ : ¬ ((p2 + (5 : Int32)) < (0 : Int32))) (yfp_ : (p2 + (5 : Int32)) < yd_) (yia_ : ¬ (p2 + (5 : Int32)) < 0 ∧ (p2 + (5 : Int32)) < yd_) (yib_ : (ye_).getD ((p2 + (5 : Int32))).toNatClampNeg (.int (0 : Int32)) = (.int ycu_)) (yic_ : (yv_).getD ((5 : Int32)).toNatClampNeg (.int (0 : Int32)) = (.int ycu_)) (yfq_ : ¬ ((p2 + (6 : Int32)) < (0 : Int32))) (yfr_ : (p2 + (6 : Int32)) < yd_) (yid_ : ¬ (p2 + (6 : Int32)) < 0 ∧ (p2 + (6 : Int32)) < yd_) (yie_ : (ye_).getD ((p2 + (6 : Int32))).toNatClampNeg (.int (0 : Int32)) = (.int ycv_)) (yif_ : (yv_).getD ((6 : Int32)).toNatClampNeg (.int (0 : Int32)) = (.int ycv_)) (yfs_ : ¬ ((p2 + (7 : Int32)) < (0 : Int32))) (yft_ : (p2 + (7 : Int32)) < yd_) (yig_ : ¬ (p2 + (7 : Int32)) < 0 ∧ (p2 + (7 : Int32)) < yd_) (yih_ : (ye_).getD ((p2 + (7 : Int32))).toNatClampNeg (.int (0 : Int32)) = (.int ycw_)) (yii_ : (yv_).getD ((7 : Int32)).toNatClampNeg (.int (0 : Int32)) = (.int ycw_)) (yfu_ : ¬ ((p2 + (8 : Int32)) < (0 : Int32))) (yfv_ : (p2 + (8 : Int32)) < yd_) (yij_ : ¬ (p2 + (8 : Int32)) < 0 ∧ (p2 + (8 : Int32)) < yd_) (yik_ : (ye_).getD ((p2 + (8 : Int32))).toNatClampNeg (.int (0 : Int32)) = (.int ycx_)) (yil_ : (yv_).getD ((8 : Int32)).toNatClampNeg (.int (0 : Int32)) = (.int ycx_)) (yfw_ : ¬ ((p2 + (9 : Int32)) < (0 : Int32))) (yfx_ : (p2 + (9 : Int32)) < yd_) (yim_ : ¬ (p2 + (9 : Int32)) < 0 ∧ (p2 + (9 : Int32)) < yd_) (yin_ : (ye_).getD ((p2 + (9 : Int32))).toNatClampNeg (.int (0 : Int32)) = (.int ycy_)) (yio_ : (yv_).getD ((9 : Int32)).toNatClampNeg (.int (0 : Int32)) = (.int ycy_)) (yez_ : ¬ ((p2 + (10 : Int32)) < (0 : Int32))) (yfa_ : (p2 + (10 : Int32)) < yd_) (yhd_ : ¬ (p2 + (10 : Int32)) < 0 ∧ (p2 + (10 : Int32)) < yd_) (yhe_ : (ye_).getD ((p2 + (10 : Int32))).toNatClampNeg (.int (0 : Int32)) = (.int yci_)) (yhf_ : (yv_).getD ((10 : Int32)).toNatClampNeg (.int (0 : Int32)) = (.int yci_)) (yfb_ : ¬ ((p2 + (11 : Int32)) < (0 : Int32))) (yfc_ : (p2 + (11 : Int32)) < yd_) (yhg_ : ¬ (p2 + (11 : Int32)) < 0 ∧ (p2 + (11 : Int32)) < yd_) (yhh_ : (ye_).getD ((p2 + (11 : Int32))).toNatClampNeg (.int (0 : Int32)) = (.int ycj_)) (yhi_ : (yv_).getD ((11 : Int32)).toNatClampNeg (.int (0 : Int32)) = (.int ycj_)) (yfd_ : ¬ ((p2 + (12 : Int32)) < (0 : Int32))) (yfe_ : (p2 + (12 : Int32)) < yd_) (yhj_ : ¬ (p2 + (12 : Int32)) < 0 ∧ (p2 + (12 : Int32)) < yd_) (yhk_ : (ye_).getD ((p2 + (12 : Int32))).toNatClampNeg (.int (0 : Int32)) = (.int yck_)) (yhl_ : (yv_).getD ((12 : Int32)).toNatClampNeg (.int (0 : Int32)) = (.int yck_)) (ykg_ : ¬ ((p2 + (13 : Int32)) < (0 : Int32))) (ykh_ : (p2 + (13 : Int32)) < yd_) (ync_ : ¬ (p2 + (13 : Int32)) < 0 ∧ (p2 + (13 : Int32)) < yd_) (ynd_ : (ye_).getD ((p2 + (13 : Int32))).toNatClampNeg (.int (0 : Int32)) = (.int yeo_)) (yne_ : (yv_).getD ((13 : Int32)).toNatClampNeg (.int (0 : Int32)) = (.int yeo_)) (yki_ : ¬ ((p2 + (14 : Int32)) < (0 : Int32))) (ykj_ : (p2 + (14 : Int32)) < yd_) (ynf_ : ¬ (p2 + (14 : Int32)) < 0 ∧ (p2 + (14 : Int32)) < yd_) (yng_ : (ye_).getD ((p2 + (14 : Int32))).toNatClampNeg (.int (0 : Int32)) = (.int yep_)) (ynh_ : (yv_).getD ((14 : Int32)).toNatClampNeg (.int (0 : Int32)) = (.int yep_)) :
    MetFree l mN54 (head1 (Jvm.Cond.code mN54 method_3_code 3 (some .boolean) :: ws) ({ frames := 5, cells := 0, slots := 0, locals := 69 } : Room)) (fun a U => a = #[(.ref a1), (.int p2), (.ref a3)] ∧ Z.Warmed39 U.vm ∧ U.heap = h0) (fun _ _ _ _ _ => True) (fun _ U o U' => ∃ v L, o = .returned v ∧ yoj_ Z a1 p2 a3 yar_ ya_ yc_ yn_ yd_ ye_ yb_ yao_ yv_ ydb_ ycq_ ycr_ ycs_ yct_ ycu_ ycv_ ycw_ ycx_ ycy_ yci_ ycj_ yck_ yeo_ yep_ h0 n0 v U'.heap L ∧ FrameEnd U o U' L ({ frames := 5, cells := 0, slots := 0, locals := 69 } : Room).cells ({ frames := 5, cells := 0, slots := 0, locals := 69 } : Room).slots) := by
  have hi : ∀ (i : Nat) {d : Jvm.Cond}, tables_1[i]? = some d → d.before a0 Z = true := fun i d h => hw d (List.mem_of_getElem? h)
  refine MetFree.of_bodySF (plainFor_of_name pn_36) hisR ?_
  intro p e s m args below meth c s₁ Bd hml0 hP hK
  obtain ⟨rfl, hZ, hh⟩ := hP
  have hx := Bd.exec
  have hby := Bd.bytes
  have hml : c.maxLocals = 3 := hml0
  have hown : s.vm.findClass "underdeck/deck/SqlTextDefaultsOnlyPinLaw" = some m.cls := findClass_of_methodNamed Bd.named
  have hnm := (name_of_methodNamed Bd.named Bd.method).1
  have X0 : Stand p l e ({ frames := 5, cells := 0, slots := 0, locals := 69 } : Room) s m #[(.ref a1), (.int p2), (.ref a3)] below meth c s₁ [] 0 0 := Stand.of_body Bd
  have e0 : s₁.heap = h0 := by rw [← hh, Bd.state]; rfl
  have N0 := Fr.nil n0
  obtain ⟨_, _, ⟨T4, L4, k4, n4⟩, -, X4, ⟨Lc4, hQ4, l4, y4, z4⟩, st4⟩ := Jvm.LawKit.callS X0 hx (y := mN53) hown (mvT hZ (hi 250 rfl)) (mvT hZ (hi 251 rfl)) (mvT hZ (hi 248 rfl)) (mvT hZ (hi 252 rfl)) (by decide) (backOf (W := 0) (rm37e l Z a0 hw [] a1 p2 a3 (0 : Int32) yar_ yao_ (15 : Int32) yv_ ya_ yc_ yn_ yd_ ye_ yb_ ydb_ ydb_ h0 n0 Z0 hcs hsv ybg_ yaz_ yf_ ybe_ E_a3 yae_ yam_ yx_ yac_ E_a1 (by decide) ygc_ ygd_ yir_ yis_ (by decide) (by decide) (by decide) yit_ rfl) hZ (hi 252 rfl) (hi 248 rfl) (by decide) (by decide)) (g := (mkF m 4 #[vA a1, vI p2, vA a3] [(.int (0 : Int32)), (.ref a3), (.int p2), (.ref a1)])) rfl (by rw [hml]; rfl) (argsL := [(.ref a1), (.int p2), (.ref a3), (.int (0 : Int32))]) (rest := []) (lenOf yh_ rfl) rfl (by show 2 * 0 + _ ≤ _; exact Nat.le_of_eq rfl) (hb hby d36_4) (fun _ _ => ⟨rfl, e0, (by decide : 0 + 0 ≤ _), (by decide : 0 + 0 ≤ _)⟩)
  dsimp only [Pt.U, Pt.locs, Pt.cells, Pt.slots] at X4 l4 y4 z4 st4 hQ4
  subst l4 y4 z4
  obtain ⟨rfl, N4q, e4⟩ := hQ4
  have N4 := Fr.app N0 N4q
  obtain ⟨_, _, ⟨T5, L5, k5, n5⟩, -, X5, ⟨Lc5, hQ5, l5, y5, z5⟩, st5⟩ := Jvm.LawKit.callS X4 hx (y := mN53) hown (mvT hZ (hi 250 rfl)) (mvT hZ (hi 251 rfl)) (mvT hZ (hi 248 rfl)) (mvT hZ (hi 252 rfl)) (by decide) (backOf (W := 0) (rm37e l Z a0 hw [] a1 p2 a3 (1 : Int32) yar_ yao_ (15 : Int32) yv_ ya_ yc_ yn_ yd_ ye_ yb_ ycq_ ycq_ h0 n0 Z0 hcs hsv ybg_ yaz_ yf_ ybe_ E_a3 yae_ yam_ yx_ yac_ E_a1 (by decide) yfg_ yfh_ yho_ yhp_ (by decide) (by decide) (by decide) yhq_ rfl) hZ (hi 252 rfl) (hi 248 rfl) (by decide) (by decide)) (g := (mkF m 14 #[vA a1, vI p2, vA a3] [(.int (1 : Int32)), (.ref a3), (.int p2), (.ref a1)])) rfl (by rw [hml]; rfl) (argsL := [(.ref a1), (.int p2), (.ref a3), (.int (1 : Int32))]) (rest := []) (lenOf yh_ rfl) rfl (by show 2 * 0 + _ ≤ _; exact Nat.le_of_eq rfl) (hb hby d36_14) (fun _ _ => ⟨rfl, e4, (by decide : 0 + 0 ≤ _), (by decide : 0 + 0 ≤ _)⟩)
  dsimp only [Pt.U, Pt.locs, Pt.cells, Pt.slots] at X5 l5 y5 z5 st5 hQ5
  subst l5 y5 z5
  obtain ⟨rfl, N5q, e5⟩ := hQ5
  have N5 := Fr.app N4 N5q
  obtain ⟨_, _, ⟨T6, L6, k6, n6⟩, -, X6, ⟨Lc6, hQ6, l6, y6, z6⟩, st6⟩ := Jvm.LawKit.callS X5 hx (y := mN53) hown (mvT hZ (hi 250 rfl)) (mvT hZ (hi 251 rfl)) (mvT hZ (hi 248 rfl)) (mvT hZ (hi 252 rfl)) (by decide) (backOf (W := 0) (rm37e l Z a0 hw [] a1 p2 a3 (2 : Int32) yar_ yao_ (15 : Int32) yv_ ya_ yc_ yn_ yd_ ye_ yb_ ycr_ ycr_ h0 n0 Z0 hcs hsv ybg_ yaz_ yf_ ybe_ E_a3 yae_ yam_ yx_ yac_ E_a1 (by decide) yfi_ yfj_ yhr_ yhs_ (by decide) (by decide) (by decide) yht_ rfl) hZ (hi 252 rfl) (hi 248 rfl) (by decide) (by decide)) (g := (mkF m 24 #[vA a1, vI p2, vA a3] [(.int (2 : Int32)), (.ref a3), (.int p2), (.ref a1)])) rfl (by rw [hml]; rfl) (argsL := [(.ref a1), (.int p2), (.ref a3), (.int (2 : Int32))]) (rest := []) (lenOf yh_ rfl) rfl (by show 2 * 0 + _ ≤ _; exact Nat.le_of_eq rfl) (hb hby d36_24) (fun _ _ => ⟨rfl, e5, (by decide : 0 + 0 ≤ _), (by decide : 0 + 0 ≤ _)⟩)
  dsimp only [Pt.U, Pt.locs, Pt.cells, Pt.slots] at X6 l6 y6 z6 st6 hQ6
  subst l6 y6 z6
  obtain ⟨rfl, N6q, e6⟩ := hQ6
  have N6 := Fr.app N5 N6q
  obtain ⟨_, _, ⟨T7, L7, k7, n7⟩, -, X7, ⟨Lc7, hQ7, l7, y7, z7⟩, st7⟩ := Jvm.LawKit.callS X6 hx (y := mN53) hown (mvT hZ (hi 250 rfl)) (mvT hZ (hi 251 rfl)) (mvT hZ (hi 248 rfl)) (mvT hZ (hi 252 rfl)) (by decide) (backOf (W := 0) (rm37e l Z a0 hw [] a1 p2 a3 (3 : Int32) yar_ yao_ (15 : Int32) yv_ ya_ yc_ yn_ yd_ ye_ yb_ ycs_ ycs_ h0 n0 Z0 hcs hsv ybg_ yaz_ yf_ ybe_ E_a3 yae_ yam_ yx_ yac_ E_a1 (by decide) yfk_ yfl_ yhu_ yhv_ (by decide) (by decide) (by decide) yhw_ rfl) hZ (hi 252 rfl) (hi 248 rfl) (by decide) (by decide)) (g := (mkF m 34 #[vA a1, vI p2, vA a3] [(.int (3 : Int32)), (.ref a3), (.int p2), (.ref a1)])) rfl (by rw [hml]; rfl) (argsL := [(.ref a1), (.int p2), (.ref a3), (.int (3 : Int32))]) (rest := []) (lenOf yh_ rfl) rfl (by show 2 * 0 + _ ≤ _; exact Nat.le_of_eq rfl) (hb hby d36_34) (fun _ _ => ⟨rfl, e6, (by decide : 0 + 0 ≤ _), (by decide : 0 + 0 ≤ _)⟩)
  dsimp only [Pt.U, Pt.locs, Pt.cells, Pt.slots] at X7 l7 y7 z7 st7 hQ7
  subst l7 y7 z7
  obtain ⟨rfl, N7q, e7⟩ := hQ7
  have N7 := Fr.app N6 N7q
  obtain ⟨_, _, ⟨T8, L8, k8, n8⟩, -, X8, ⟨Lc8, hQ8, l8, y8, z8⟩, st8⟩ := Jvm.LawKit.callS X7 hx (y := mN53) hown (mvT hZ (hi 250 rfl)) (mvT hZ (hi 251 rfl)) (mvT hZ (hi 248 rfl)) (mvT hZ (hi 252 rfl)) (by decide) (backOf (W := 0) (rm37e l Z a0 hw [] a1 p2 a3 (4 : Int32) yar_ yao_ (15 : Int32) yv_ ya_ yc_ yn_ yd_ ye_ yb_ yct_ yct_ h0 n0 Z0 hcs hsv ybg_ yaz_ yf_ ybe_ E_a3 yae_ yam_ yx_ yac_ E_a1 (by decide) yfm_ yfn_ yhx_ yhy_ (by decide) (by decide) (by decide) yhz_ rfl) hZ (hi 252 rfl) (hi 248 rfl) (by decide) (by decide)) (g := (mkF m 44 #[vA a1, vI p2, vA a3] [(.int (4 : Int32)), (.ref a3), (.int p2), (.ref a1)])) rfl (by rw [hml]; rfl) (argsL := [(.ref a1), (.int p2), (.ref a3), (.int (4 : Int32))]) (rest := []) (lenOf yh_ rfl) rfl (by show 2 * 0 + _ ≤ _; exact Nat.le_of_eq rfl) (hb hby d36_44) (fun _ _ => ⟨rfl, e7, (by decide : 0 + 0 ≤ _), (by decide : 0 + 0 ≤ _)⟩)
  dsimp only [Pt.U, Pt.locs, Pt.cells, Pt.slots] at X8 l8 y8 z8 st8 hQ8
  subst l8 y8 z8
  obtain ⟨rfl, N8q, e8⟩ := hQ8
  have N8 := Fr.app N7 N8q
  obtain ⟨_, _, ⟨T9, L9, k9, n9⟩, -, X9, ⟨Lc9, hQ9, l9, y9, z9⟩, st9⟩ := Jvm.LawKit.callS X8 hx (y := mN53) hown (mvT hZ (hi 250 rfl)) (mvT hZ (hi 251 rfl)) (mvT hZ (hi 248 rfl)) (mvT hZ (hi 252 rfl)) (by decide) (backOf (W := 0) (rm37e l Z a0 hw [] a1 p2 a3 (5 : Int32) yar_ yao_ (15 : Int32) yv_ ya_ yc_ yn_ yd_ ye_ yb_ ycu_ ycu_ h0 n0 Z0 hcs hsv ybg_ yaz_ yf_ ybe_ E_a3 yae_ yam_ yx_ yac_ E_a1 (by decide) yfo_ yfp_ yia_ yib_ (by decide) (by decide) (by decide) yic_ rfl) hZ (hi 252 rfl) (hi 248 rfl) (by decide) (by decide)) (g := (mkF m 54 #[vA a1, vI p2, vA a3] [(.int (5 : Int32)), (.ref a3), (.int p2), (.ref a1)])) rfl (by rw [hml]; rfl) (argsL := [(.ref a1), (.int p2), (.ref a3), (.int (5 : Int32))]) (rest := []) (lenOf yh_ rfl) rfl (by show 2 * 0 + _ ≤ _; exact Nat.le_of_eq rfl) (hb hby d36_54) (fun _ _ => ⟨rfl, e8, (by decide : 0 + 0 ≤ _), (by decide : 0 + 0 ≤ _)⟩)
  dsimp only [Pt.U, Pt.locs, Pt.cells, Pt.slots] at X9 l9 y9 z9 st9 hQ9
  subst l9 y9 z9
  obtain ⟨rfl, N9q, e9⟩ := hQ9
  have N9 := Fr.app N8 N9q
  obtain ⟨_, _, ⟨T10, L10, k10, n10⟩, -, X10, ⟨Lc10, hQ10, l10, y10, z10⟩, st10⟩ := Jvm.LawKit.callS X9 hx (y := mN53) hown (mvT hZ (hi 250 rfl)) (mvT hZ (hi 251 rfl)) (mvT hZ (hi 248 rfl)) (mvT hZ (hi 252 rfl)) (by decide) (backOf (W := 0) (rm37e l Z a0 hw [] a1 p2 a3 (6 : Int32) yar_ yao_ (15 : Int32) yv_ ya_ yc_ yn_ yd_ ye_ yb_ ycv_ ycv_ h0 n0 Z0 hcs hsv ybg_ yaz_ yf_ ybe_ E_a3 yae_ yam_ yx_ yac_ E_a1 (by decide) yfq_ yfr_ yid_ yie_ (by decide) (by decide) (by decide) yif_ rfl) hZ (hi 252 rfl) (hi 248 rfl) (by decide) (by decide)) (g := (mkF m 65 #[vA a1, vI p2, vA a3] [(.int (6 : Int32)), (.ref a3), (.int p2), (.ref a1)])) rfl (by rw [hml]; rfl) (argsL := [(.ref a1), (.int p2), (.ref a3), (.int (6 : Int32))]) (rest := []) (lenOf yh_ rfl) rfl (by show 2 * 0 + _ ≤ _; exact Nat.le_of_eq rfl) (hb hby d36_65) (fun _ _ => ⟨rfl, e9, (by decide : 0 + 0 ≤ _), (by decide : 0 + 0 ≤ _)⟩)
  dsimp only [Pt.U, Pt.locs, Pt.cells, Pt.slots] at X10 l10 y10 z10 st10 hQ10
  subst l10 y10 z10
  obtain ⟨rfl, N10q, e10⟩ := hQ10
  have N10 := Fr.app N9 N10q
  obtain ⟨_, _, ⟨T11, L11, k11, n11⟩, -, X11, ⟨Lc11, hQ11, l11, y11, z11⟩, st11⟩ := Jvm.LawKit.callS X10 hx (y := mN53) hown (mvT hZ (hi 250 rfl)) (mvT hZ (hi 251 rfl)) (mvT hZ (hi 248 rfl)) (mvT hZ (hi 252 rfl)) (by decide) (backOf (W := 0) (rm37e l Z a0 hw [] a1 p2 a3 (7 : Int32) yar_ yao_ (15 : Int32) yv_ ya_ yc_ yn_ yd_ ye_ yb_ ycw_ ycw_ h0 n0 Z0 hcs hsv ybg_ yaz_ yf_ ybe_ E_a3 yae_ yam_ yx_ yac_ E_a1 (by decide) yfs_ yft_ yig_ yih_ (by decide) (by decide) (by decide) yii_ rfl) hZ (hi 252 rfl) (hi 248 rfl) (by decide) (by decide)) (g := (mkF m 76 #[vA a1, vI p2, vA a3] [(.int (7 : Int32)), (.ref a3), (.int p2), (.ref a1)])) rfl (by rw [hml]; rfl) (argsL := [(.ref a1), (.int p2), (.ref a3), (.int (7 : Int32))]) (rest := []) (lenOf yh_ rfl) rfl (by show 2 * 0 + _ ≤ _; exact Nat.le_of_eq rfl) (hb hby d36_76) (fun _ _ => ⟨rfl, e10, (by decide : 0 + 0 ≤ _), (by decide : 0 + 0 ≤ _)⟩)
  dsimp only [Pt.U, Pt.locs, Pt.cells, Pt.slots] at X11 l11 y11 z11 st11 hQ11
  subst l11 y11 z11
  obtain ⟨rfl, N11q, e11⟩ := hQ11
  have N11 := Fr.app N10 N11q
  obtain ⟨_, _, ⟨T12, L12, k12, n12⟩, -, X12, ⟨Lc12, hQ12, l12, y12, z12⟩, st12⟩ := Jvm.LawKit.callS X11 hx (y := mN53) hown (mvT hZ (hi 250 rfl)) (mvT hZ (hi 251 rfl)) (mvT hZ (hi 248 rfl)) (mvT hZ (hi 252 rfl)) (by decide) (backOf (W := 0) (rm37e l Z a0 hw [] a1 p2 a3 (8 : Int32) yar_ yao_ (15 : Int32) yv_ ya_ yc_ yn_ yd_ ye_ yb_ ycx_ ycx_ h0 n0 Z0 hcs hsv ybg_ yaz_ yf_ ybe_ E_a3 yae_ yam_ yx_ yac_ E_a1 (by decide) yfu_ yfv_ yij_ yik_ (by decide) (by decide) (by decide) yil_ rfl) hZ (hi 252 rfl) (hi 248 rfl) (by decide) (by decide)) (g := (mkF m 87 #[vA a1, vI p2, vA a3] [(.int (8 : Int32)), (.ref a3), (.int p2), (.ref a1)])) rfl (by rw [hml]; rfl) (argsL := [(.ref a1), (.int p2), (.ref a3), (.int (8 : Int32))]) (rest := []) (lenOf yh_ rfl) rfl (by show 2 * 0 + _ ≤ _; exact Nat.le_of_eq rfl) (hb hby d36_87) (fun _ _ => ⟨rfl, e11, (by decide : 0 + 0 ≤ _), (by decide : 0 + 0 ≤ _)⟩)
  dsimp only [Pt.U, Pt.locs, Pt.cells, Pt.slots] at X12 l12 y12 z12 st12 hQ12
  subst l12 y12 z12
  obtain ⟨rfl, N12q, e12⟩ := hQ12
  have N12 := Fr.app N11 N12q
  obtain ⟨_, _, ⟨T13, L13, k13, n13⟩, -, X13, ⟨Lc13, hQ13, l13, y13, z13⟩, st13⟩ := Jvm.LawKit.callS X12 hx (y := mN53) hown (mvT hZ (hi 250 rfl)) (mvT hZ (hi 251 rfl)) (mvT hZ (hi 248 rfl)) (mvT hZ (hi 252 rfl)) (by decide) (backOf (W := 0) (rm37e l Z a0 hw [] a1 p2 a3 (9 : Int32) yar_ yao_ (15 : Int32) yv_ ya_ yc_ yn_ yd_ ye_ yb_ ycy_ ycy_ h0 n0 Z0 hcs hsv ybg_ yaz_ yf_ ybe_ E_a3 yae_ yam_ yx_ yac_ E_a1 (by decide) yfw_ yfx_ yim_ yin_ (by decide) (by decide) (by decide) yio_ rfl) hZ (hi 252 rfl) (hi 248 rfl) (by decide) (by decide)) (g := (mkF m 98 #[vA a1, vI p2, vA a3] [(.int (9 : Int32)), (.ref a3), (.int p2), (.ref a1)])) rfl (by rw [hml]; rfl) (argsL := [(.ref a1), (.int p2), (.ref a3), (.int (9 : Int32))]) (rest := []) (lenOf yh_ rfl) rfl (by show 2 * 0 + _ ≤ _; exact Nat.le_of_eq rfl) (hb hby d36_98) (fun _ _ => ⟨rfl, e12, (by decide : 0 + 0 ≤ _), (by decide : 0 + 0 ≤ _)⟩)
  dsimp only [Pt.U, Pt.locs, Pt.cells, Pt.slots] at X13 l13 y13 z13 st13 hQ13
  subst l13 y13 z13
  obtain ⟨rfl, N13q, e13⟩ := hQ13
  have N13 := Fr.app N12 N13q
  obtain ⟨_, _, ⟨T14, L14, k14, n14⟩, -, X14, ⟨Lc14, hQ14, l14, y14, z14⟩, st14⟩ := Jvm.LawKit.callS X13 hx (y := mN53) hown (mvT hZ (hi 250 rfl)) (mvT hZ (hi 251 rfl)) (mvT hZ (hi 248 rfl)) (mvT hZ (hi 252 rfl)) (by decide) (backOf (W := 0) (rm37e l Z a0 hw [] a1 p2 a3 (10 : Int32) yar_ yao_ (15 : Int32) yv_ ya_ yc_ yn_ yd_ ye_ yb_ yci_ yci_ h0 n0 Z0 hcs hsv ybg_ yaz_ yf_ ybe_ E_a3 yae_ yam_ yx_ yac_ E_a1 (by decide) yez_ yfa_ yhd_ yhe_ (by decide) (by decide) (by decide) yhf_ rfl) hZ (hi 252 rfl) (hi 248 rfl) (by decide) (by decide)) (g := (mkF m 109 #[vA a1, vI p2, vA a3] [(.int (10 : Int32)), (.ref a3), (.int p2), (.ref a1)])) rfl (by rw [hml]; rfl) (argsL := [(.ref a1), (.int p2), (.ref a3), (.int (10 : Int32))]) (rest := []) (lenOf yh_ rfl) rfl (by show 2 * 0 + _ ≤ _; exact Nat.le_of_eq rfl) (hb hby d36_109) (fun _ _ => ⟨rfl, e13, (by decide : 0 + 0 ≤ _), (by decide : 0 + 0 ≤ _)⟩)
  dsimp only [Pt.U, Pt.locs, Pt.cells, Pt.slots] at X14 l14 y14 z14 st14 hQ14
  subst l14 y14 z14
  obtain ⟨rfl, N14q, e14⟩ := hQ14
  have N14 := Fr.app N13 N14q
  obtain ⟨_, _, ⟨T15, L15, k15, n15⟩, -, X15, ⟨Lc15, hQ15, l15, y15, z15⟩, st15⟩ := Jvm.LawKit.callS X14 hx (y := mN53) hown (mvT hZ (hi 250 rfl)) (mvT hZ (hi 251 rfl)) (mvT hZ (hi 248 rfl)) (mvT hZ (hi 252 rfl)) (by decide) (backOf (W := 0) (rm37e l Z a0 hw [] a1 p2 a3 (11 : Int32) yar_ yao_ (15 : Int32) yv_ ya_ yc_ yn_ yd_ ye_ yb_ ycj_ ycj_ h0 n0 Z0 hcs hsv ybg_ yaz_ yf_ ybe_ E_a3 yae_ yam_ yx_ yac_ E_a1 (by decide) yfb_ yfc_ yhg_ yhh_ (by decide) (by decide) (by decide) yhi_ rfl) hZ (hi 252 rfl) (hi 248 rfl) (by decide) (by decide)) (g := (mkF m 120 #[vA a1, vI p2, vA a3] [(.int (11 : Int32)), (.ref a3), (.int p2), (.ref a1)])) rfl (by rw [hml]; rfl) (argsL := [(.ref a1), (.int p2), (.ref a3), (.int (11 : Int32))]) (rest := []) (lenOf yh_ rfl) rfl (by show 2 * 0 + _ ≤ _; exact Nat.le_of_eq rfl) (hb hby d36_120) (fun _ _ => ⟨rfl, e14, (by decide : 0 + 0 ≤ _), (by decide : 0 + 0 ≤ _)⟩)
  dsimp only [Pt.U, Pt.locs, Pt.cells, Pt.slots] at X15 l15 y15 z15 st15 hQ15
  subst l15 y15 z15
  obtain ⟨rfl, N15q, e15⟩ := hQ15
  have N15 := Fr.app N14 N15q
  obtain ⟨_, _, ⟨T16, L16, k16, n16⟩, -, X16, ⟨Lc16, hQ16, l16, y16, z16⟩, st16⟩ := Jvm.LawKit.callS X15 hx (y := mN53) hown (mvT hZ (hi 250 rfl)) (mvT hZ (hi 251 rfl)) (mvT hZ (hi 248 rfl)) (mvT hZ (hi 252 rfl)) (by decide) (backOf (W := 0) (rm37e l Z a0 hw [] a1 p2 a3 (12 : Int32) yar_ yao_ (15 : Int32) yv_ ya_ yc_ yn_ yd_ ye_ yb_ yck_ yck_ h0 n0 Z0 hcs hsv ybg_ yaz_ yf_ ybe_ E_a3 yae_ yam_ yx_ yac_ E_a1 (by decide) yfd_ yfe_ yhj_ yhk_ (by decide) (by decide) (by decide) yhl_ rfl) hZ (hi 252 rfl) (hi 248 rfl) (by decide) (by decide)) (g := (mkF m 131 #[vA a1, vI p2, vA a3] [(.int (12 : Int32)), (.ref a3), (.int p2), (.ref a1)])) rfl (by rw [hml]; rfl) (argsL := [(.ref a1), (.int p2), (.ref a3), (.int (12 : Int32))]) (rest := []) (lenOf yh_ rfl) rfl (by show 2 * 0 + _ ≤ _; exact Nat.le_of_eq rfl) (hb hby d36_131) (fun _ _ => ⟨rfl, e15, (by decide : 0 + 0 ≤ _), (by decide : 0 + 0 ≤ _)⟩)
  dsimp only [Pt.U, Pt.locs, Pt.cells, Pt.slots] at X16 l16 y16 z16 st16 hQ16
  subst l16 y16 z16
  obtain ⟨rfl, N16q, e16⟩ := hQ16
  have N16 := Fr.app N15 N16q
  obtain ⟨_, _, ⟨T17, L17, k17, n17⟩, -, X17, ⟨Lc17, hQ17, l17, y17, z17⟩, st17⟩ := Jvm.LawKit.callS X16 hx (y := mN53) hown (mvT hZ (hi 250 rfl)) (mvT hZ (hi 251 rfl)) (mvT hZ (hi 248 rfl)) (mvT hZ (hi 252 rfl)) (by decide) (backOf (W := 0) (rm37e l Z a0 hw [] a1 p2 a3 (13 : Int32) yar_ yao_ (15 : Int32) yv_ ya_ yc_ yn_ yd_ ye_ yb_ yeo_ yeo_ h0 n0 Z0 hcs hsv ybg_ yaz_ yf_ ybe_ E_a3 yae_ yam_ yx_ yac_ E_a1 (by decide) ykg_ ykh_ ync_ ynd_ (by decide) (by decide) (by decide) yne_ rfl) hZ (hi 252 rfl) (hi 248 rfl) (by decide) (by decide)) (g := (mkF m 142 #[vA a1, vI p2, vA a3] [(.int (13 : Int32)), (.ref a3), (.int p2), (.ref a1)])) rfl (by rw [hml]; rfl) (argsL := [(.ref a1), (.int p2), (.ref a3), (.int (13 : Int32))]) (rest := []) (lenOf yh_ rfl) rfl (by show 2 * 0 + _ ≤ _; exact Nat.le_of_eq rfl) (hb hby d36_142) (fun _ _ => ⟨rfl, e16, (by decide : 0 + 0 ≤ _), (by decide : 0 + 0 ≤ _)⟩)
  dsimp only [Pt.U, Pt.locs, Pt.cells, Pt.slots] at X17 l17 y17 z17 st17 hQ17
  subst l17 y17 z17
  obtain ⟨rfl, N17q, e17⟩ := hQ17
  have N17 := Fr.app N16 N17q
  obtain ⟨_, _, ⟨T18, L18, k18, n18⟩, -, X18, ⟨Lc18, hQ18, l18, y18, z18⟩, st18⟩ := Jvm.LawKit.callS X17 hx (y := mN53) hown (mvT hZ (hi 250 rfl)) (mvT hZ (hi 251 rfl)) (mvT hZ (hi 248 rfl)) (mvT hZ (hi 252 rfl)) (by decide) (backOf (W := 0) (rm37e l Z a0 hw [] a1 p2 a3 (14 : Int32) yar_ yao_ (15 : Int32) yv_ ya_ yc_ yn_ yd_ ye_ yb_ yep_ yep_ h0 n0 Z0 hcs hsv ybg_ yaz_ yf_ ybe_ E_a3 yae_ yam_ yx_ yac_ E_a1 (by decide) yki_ ykj_ ynf_ yng_ (by decide) (by decide) (by decide) ynh_ rfl) hZ (hi 252 rfl) (hi 248 rfl) (by decide) (by decide)) (g := (mkF m 153 #[vA a1, vI p2, vA a3] [(.int (14 : Int32)), (.ref a3), (.int p2), (.ref a1)])) rfl (by rw [hml]; rfl) (argsL := [(.ref a1), (.int p2), (.ref a3), (.int (14 : Int32))]) (rest := []) (lenOf yh_ rfl) rfl (by show 2 * 0 + _ ≤ _; exact Nat.le_of_eq rfl) (hb hby d36_153) (fun _ _ => ⟨rfl, e17, (by decide : 0 + 0 ≤ _), (by decide : 0 + 0 ≤ _)⟩)
  dsimp only [Pt.U, Pt.locs, Pt.cells, Pt.slots] at X18 l18 y18 z18 st18 hQ18
  subst l18 y18 z18
  obtain ⟨rfl, N18q, e18⟩ := hQ18
  have N18 := Fr.app N17 N18q
  obtain ⟨fs, hr, hrun, hended, hW, hsame⟩ := X18.leave (v := some (.int (1 : Int32))) (fun h => by rw [Bd.returns] at h; cases h)
  refine ⟨_, _, castTop (ef_36 m a1 p2 a3) ?_, hrun, hended, _, _, rfl, ?_, ⟨_, rfl⟩, hW, hsame.mono (by decide) (by decide)⟩
  · show Steps p.tables e below (s₁.setTop (mkF m 0 #[vA a1, vI p2, vA a3] [])) _
    refine XS.aloadN X0.here hx rfl (hb hby d36_0) rfl rfl ?_
    refine XS.iloadN X0.here hx rfl (hb hby d36_1) rfl ?_
    refine XS.aloadN X0.here hx rfl (hb hby d36_2) rfl rfl ?_
    refine XS.iconst X0.here hx rfl (hb hby d36_3) ?_
    refine st4 _ ?_
    refine XS.ifNo X4.here hx rfl (hb hby d36_7) rfl ((if0 _ _).trans (feq (by decide : ¬ ((1 : Int32) = (0 : Int32)))).1) ?_
    refine XS.aloadN X4.here hx rfl (hb hby d36_10) rfl rfl ?_
    refine XS.iloadN X4.here hx rfl (hb hby d36_11) rfl ?_
    refine XS.aloadN X4.here hx rfl (hb hby d36_12) rfl rfl ?_
    refine XS.iconst X4.here hx rfl (hb hby d36_13) ?_
    refine st5 _ ?_
    refine XS.ifNo X5.here hx rfl (hb hby d36_17) rfl ((if0 _ _).trans (feq (by decide : ¬ ((1 : Int32) = (0 : Int32)))).1) ?_
    refine XS.aloadN X5.here hx rfl (hb hby d36_20) rfl rfl ?_
    refine XS.iloadN X5.here hx rfl (hb hby d36_21) rfl ?_
    refine XS.aloadN X5.here hx rfl (hb hby d36_22) rfl rfl ?_
    refine XS.iconst X5.here hx rfl (hb hby d36_23) ?_
    refine st6 _ ?_
    refine XS.ifNo X6.here hx rfl (hb hby d36_27) rfl ((if0 _ _).trans (feq (by decide : ¬ ((1 : Int32) = (0 : Int32)))).1) ?_
    refine XS.aloadN X6.here hx rfl (hb hby d36_30) rfl rfl ?_
    refine XS.iloadN X6.here hx rfl (hb hby d36_31) rfl ?_
    refine XS.aloadN X6.here hx rfl (hb hby d36_32) rfl rfl ?_
    refine XS.iconst X6.here hx rfl (hb hby d36_33) ?_
    refine st7 _ ?_
    refine XS.ifNo X7.here hx rfl (hb hby d36_37) rfl ((if0 _ _).trans (feq (by decide : ¬ ((1 : Int32) = (0 : Int32)))).1) ?_
    refine XS.aloadN X7.here hx rfl (hb hby d36_40) rfl rfl ?_
    refine XS.iloadN X7.here hx rfl (hb hby d36_41) rfl ?_
    refine XS.aloadN X7.here hx rfl (hb hby d36_42) rfl rfl ?_
    refine XS.iconst X7.here hx rfl (hb hby d36_43) ?_
    refine st8 _ ?_
    refine XS.ifNo X8.here hx rfl (hb hby d36_47) rfl ((if0 _ _).trans (feq (by decide : ¬ ((1 : Int32) = (0 : Int32)))).1) ?_
    refine XS.aloadN X8.here hx rfl (hb hby d36_50) rfl rfl ?_
    refine XS.iloadN X8.here hx rfl (hb hby d36_51) rfl ?_
    refine XS.aloadN X8.here hx rfl (hb hby d36_52) rfl rfl ?_
    refine XS.iconst X8.here hx rfl (hb hby d36_53) ?_
    refine st9 _ ?_
    refine XS.ifNo X9.here hx rfl (hb hby d36_57) rfl ((if0 _ _).trans (feq (by decide : ¬ ((1 : Int32) = (0 : Int32)))).1) ?_
    refine XS.aloadN X9.here hx rfl (hb hby d36_60) rfl rfl ?_
    refine XS.iloadN X9.here hx rfl (hb hby d36_61) rfl ?_
    refine XS.aloadN X9.here hx rfl (hb hby d36_62) rfl rfl ?_
    refine XS.bipush X9.here hx rfl (hb hby d36_63) ?_
    refine st10 _ ?_
    refine XS.ifNo X10.here hx rfl (hb hby d36_68) rfl ((if0 _ _).trans (feq (by decide : ¬ ((1 : Int32) = (0 : Int32)))).1) ?_
    refine XS.aloadN X10.here hx rfl (hb hby d36_71) rfl rfl ?_
    refine XS.iloadN X10.here hx rfl (hb hby d36_72) rfl ?_
    refine XS.aloadN X10.here hx rfl (hb hby d36_73) rfl rfl ?_
    refine XS.bipush X10.here hx rfl (hb hby d36_74) ?_
    refine st11 _ ?_
    refine XS.ifNo X11.here hx rfl (hb hby d36_79) rfl ((if0 _ _).trans (feq (by decide : ¬ ((1 : Int32) = (0 : Int32)))).1) ?_
    refine XS.aloadN X11.here hx rfl (hb hby d36_82) rfl rfl ?_
    refine XS.iloadN X11.here hx rfl (hb hby d36_83) rfl ?_
    refine XS.aloadN X11.here hx rfl (hb hby d36_84) rfl rfl ?_
    refine XS.bipush X11.here hx rfl (hb hby d36_85) ?_
    refine st12 _ ?_
    refine XS.ifNo X12.here hx rfl (hb hby d36_90) rfl ((if0 _ _).trans (feq (by decide : ¬ ((1 : Int32) = (0 : Int32)))).1) ?_
    refine XS.aloadN X12.here hx rfl (hb hby d36_93) rfl rfl ?_
    refine XS.iloadN X12.here hx rfl (hb hby d36_94) rfl ?_
    refine XS.aloadN X12.here hx rfl (hb hby d36_95) rfl rfl ?_
    refine XS.bipush X12.here hx rfl (hb hby d36_96) ?_
    refine st13 _ ?_
    refine XS.ifNo X13.here hx rfl (hb hby d36_101) rfl ((if0 _ _).trans (feq (by decide : ¬ ((1 : Int32) = (0 : Int32)))).1) ?_
    refine XS.aloadN X13.here hx rfl (hb hby d36_104) rfl rfl ?_
    refine XS.iloadN X13.here hx rfl (hb hby d36_105) rfl ?_
    refine XS.aloadN X13.here hx rfl (hb hby d36_106) rfl rfl ?_
    refine XS.bipush X13.here hx rfl (hb hby d36_107) ?_
    refine st14 _ ?_
    refine XS.ifNo X14.here hx rfl (hb hby d36_112) rfl ((if0 _ _).trans (feq (by decide : ¬ ((1 : Int32) = (0 : Int32)))).1) ?_
    refine XS.aloadN X14.here hx rfl (hb hby d36_115) rfl rfl ?_
    refine XS.iloadN X14.here hx rfl (hb hby d36_116) rfl ?_
    refine XS.aloadN X14.here hx rfl (hb hby d36_117) rfl rfl ?_
    refine XS.bipush X14.here hx rfl (hb hby d36_118) ?_
    refine st15 _ ?_
    refine XS.ifNo X15.here hx rfl (hb hby d36_123) rfl ((if0 _ _).trans (feq (by decide : ¬ ((1 : Int32) = (0 : Int32)))).1) ?_
    refine XS.aloadN X15.here hx rfl (hb hby d36_126) rfl rfl ?_
    refine XS.iloadN X15.here hx rfl (hb hby d36_127) rfl ?_
    refine XS.aloadN X15.here hx rfl (hb hby d36_128) rfl rfl ?_
    refine XS.bipush X15.here hx rfl (hb hby d36_129) ?_
    refine st16 _ ?_
    refine XS.ifNo X16.here hx rfl (hb hby d36_134) rfl ((if0 _ _).trans (feq (by decide : ¬ ((1 : Int32) = (0 : Int32)))).1) ?_
    refine XS.aloadN X16.here hx rfl (hb hby d36_137) rfl rfl ?_
    refine XS.iloadN X16.here hx rfl (hb hby d36_138) rfl ?_
    refine XS.aloadN X16.here hx rfl (hb hby d36_139) rfl rfl ?_
    refine XS.bipush X16.here hx rfl (hb hby d36_140) ?_
    refine st17 _ ?_
    refine XS.ifNo X17.here hx rfl (hb hby d36_145) rfl ((if0 _ _).trans (feq (by decide : ¬ ((1 : Int32) = (0 : Int32)))).1) ?_
    refine XS.aloadN X17.here hx rfl (hb hby d36_148) rfl rfl ?_
    refine XS.iloadN X17.here hx rfl (hb hby d36_149) rfl ?_
    refine XS.aloadN X17.here hx rfl (hb hby d36_150) rfl rfl ?_
    refine XS.bipush X17.here hx rfl (hb hby d36_151) ?_
    refine st18 _ ?_
    refine XS.ifNo X18.here hx rfl (hb hby d36_156) rfl ((if0 _ _).trans (feq (by decide : ¬ ((1 : Int32) = (0 : Int32)))).1) ?_
    refine XS.iconst X18.here hx rfl (hb hby d36_159) ?_
    refine XS.goto X18.here hx rfl (pc0 := 160) (pc' := 164) rfl (hb hby d36_160) (by decide) (by decide) ?_
    show Steps p.tables e below (T18.setTop (mkF m 164 #[vA a1, vI p2, vA a3] [(.int (1 : Int32))])) _
    exact retN X18 hx (t := .boolean) Bd.returns (by simp) (hb hby d36_164) hr
  · show yoj_ Z a1 p2 a3 yar_ ya_ yc_ yn_ yd_ ye_ yb_ yao_ yv_ ydb_ ycq_ ycr_ ycs_ yct_ ycu_ ycv_ ycw_ ycx_ ycy_ yci_ ycj_ yck_ yeo_ yep_ h0 n0 _ T18.heap _
    exact ⟨rfl, N18, e18⟩
theorem own_m255 (x : Int32) : (x &&& 255).toUInt32.toNat < 256 := by
  rw [Int32.toUInt32_and, UInt32.toNat_and, show (255 : Int32).toUInt32.toNat = 2 ^ 8 - 1 from by decide, Nat.and_two_pow_sub_one_eq_mod]
  exact Nat.mod_lt _ (by decide)
theorem own_cc (y : Int32) (h : y.toUInt32.toNat < 256) : (y.toUInt32.toUInt16.toUInt32.toInt32).toUInt32.toNat < 256 := by
  show (y.toUInt32.toUInt16.toUInt32).toNat < 256
  rw [UInt16.toNat_toUInt32, UInt32.toNat_toUInt16]
  omega
theorem own_le255 (y : Int32) (h : y.toUInt32.toNat < 256) : ¬ ((255 : Int32) < y) := by
  rw [Int32.lt_iff_toInt_lt, show (255 : Int32).toInt = 255 from by decide, own_i32 y, if_pos (by omega)]
  omega
theorem own_g255 (i : Nat) : (255#32).getLsbD i = decide (i < 8) := by
  rw [show (255#32) = BitVec.ofNat 32 (2 ^ 8 - 1) from rfl, BitVec.getLsbD_ofNat, Nat.testBit_two_pow_sub_one]
  by_cases h : i < 8
  · simp [h]; omega
  · simp [h]
theorem own_m16 (x : BitVec 32) : x % 65536#32 = x &&& 65535#32 := by
  apply BitVec.eq_of_toNat_eq
  rw [BitVec.toNat_umod, BitVec.toNat_and, show (65535#32).toNat = 2 ^ 16 - 1 from rfl, Nat.and_two_pow_sub_one_eq_mod]; rfl
theorem own_g65535 (i : Nat) : (65535#32).getLsbD i = decide (i < 16) := by
  rw [show (65535#32) = BitVec.ofNat 32 (2 ^ 16 - 1) from rfl, BitVec.getLsbD_ofNat, Nat.testBit_two_pow_sub_one]
  by_cases h : i < 16
  · simp [h]; omega
  · simp [h]
theorem own_chr (y : Int32) (h : y.toUInt32.toNat < 256) : ((((y.toInt8.toInt32).toInt8.toInt32) &&& (255 : Int32)).toUInt32.toUInt16.toUInt32.toInt32).toUInt32.toUInt16.toUInt32.toInt32 = y := by
  apply Int32.toBitVec_inj.mp
  simp
  simp only [own_m16]
  have h' : y.toBitVec.toNat < 2 ^ 8 := h
  generalize y.toBitVec = b at h'
  apply BitVec.eq_of_getLsbD_eq
  intro i hi
  simp [BitVec.getLsbD_signExtend, own_g255, own_g65535]
  by_cases h8 : i < 8
  · have h16 : i < 16 := by omega
    simp [h8, h16, hi]
  · have q : b.getLsbD i = false := Nat.testBit_lt_two_pow (Nat.lt_of_lt_of_le h' (Nat.pow_le_pow_right (by decide) (by omega)))
    simp [h8, q]
theorem own_cc2 (y : Int32) : nar .char (nar .char y) = nar .char y := by
  show ((y.toUInt32.toUInt16.toUInt32).toUInt16).toUInt32.toInt32 = y.toUInt32.toUInt16.toUInt32.toInt32
  rw [UInt16.toUInt16_toUInt32]
theorem own_chr1 (p : Int32) : nar .char (nar .char ((((nar .byte (((p &&& (255 : Int32)).toUInt32.toUInt16.toUInt32.toInt32).toInt8.toInt32)) &&& (255 : Int32)).toUInt32.toUInt16.toUInt32.toInt32))) = (p &&& (255 : Int32)).toUInt32.toUInt16.toUInt32.toInt32 := by
  rw [own_cc2]; exact own_chr _ (own_cc _ (own_m255 _))
theorem own_chr2 (p : Int32) : nar .char (nar .char ((((nar .byte ((nar .char ((p &&& (255 : Int32)).toUInt32.toUInt16.toUInt32.toInt32)).toInt8.toInt32)) &&& (255 : Int32)).toUInt32.toUInt16.toUInt32.toInt32))) = (p &&& (255 : Int32)).toUInt32.toUInt16.toUInt32.toInt32 := by
  rw [own_cc2]; exact (own_chr _ (own_cc _ (own_cc _ (own_m255 _)))).trans (own_cc2 (p &&& (255 : Int32)))
theorem own_t3 (p1 : Int32) (h0 : ¬ (((p1 &&& (2147483647 : Int32)) - ((p1 &&& (2147483647 : Int32)) / (3 : Int32)) * (3 : Int32)) = (0 : Int32))) (h1 : ¬ (((p1 &&& (2147483647 : Int32)) - ((p1 &&& (2147483647 : Int32)) / (3 : Int32)) * (3 : Int32)) = (1 : Int32))) : ((p1 &&& (2147483647 : Int32)) - ((p1 &&& (2147483647 : Int32)) / (3 : Int32)) * (3 : Int32)) = (2 : Int32) := by
  have hm := own_mod (p1 &&& 2147483647) 3 (own_pos p1) (by decide)
  have h5 : (3 : Int32).toInt = 3 := by decide
  rw [h5] at hm
  generalize ((p1 &&& (2147483647 : Int32)) - ((p1 &&& (2147483647 : Int32)) / (3 : Int32)) * (3 : Int32)) = t at *
  have h : t.toInt = 0 ∨ t.toInt = 1 ∨ t.toInt = 2 := by omega
  rcases h with q | q | q
  · exact absurd (Int32.toInt_inj.mp (by rw [q]; rfl)) h0
  · exact absurd (Int32.toInt_inj.mp (by rw [q]; rfl)) h1
  · exact Int32.toInt_inj.mp (by rw [q]; rfl)
def ls_0 : List Value := [(.int (32 : Int32)), (.int (40 : Int32)), (.int (41 : Int32)), (.int (32 : Int32)), (.int (118 : Int32)), (.int (97 : Int32)), (.int (108 : Int32)), (.int (117 : Int32)), (.int (101 : Int32)), (.int (115 : Int32)), (.int (32 : Int32)), (.int (40 : Int32)), (.int (41 : Int32))]
theorem own_strs {Z : State} {a0 : Array Value} (hw : ∀ d ∈ tables_1, d.before a0 Z = true) : ∀ a ∈ Bundle.stringAtoms, a.before a0 Z = true := fun d hd => by
  simp only [Bundle.stringAtoms, Bundle.sN, List.mem_cons, List.not_mem_nil, or_false] at hd
  rcases hd with rfl | rfl | rfl | rfl | rfl | rfl | rfl
  · exact (hw _ (List.mem_of_getElem? (i := 4) rfl))
  · exact (hw _ (List.mem_of_getElem? (i := 5) rfl))
  · exact (hw _ (List.mem_of_getElem? (i := 6) rfl))
  · exact (hw _ (List.mem_of_getElem? (i := 7) rfl))
  · exact (hw _ (List.mem_of_getElem? (i := 8) rfl))
  · exact (hw _ (List.mem_of_getElem? (i := 9) rfl))
  · exact (hw _ (List.mem_of_getElem? (i := 10) rfl))
theorem own_EW {Z : State} {a0 : Array Value} (hw : ∀ d ∈ tables_1, d.before a0 Z = true) : EW Z a0 consts_1 := (EW.cons (hw _ (List.mem_of_getElem? (i := 3) rfl)) (by decide) (EW.cons (hw _ (List.mem_of_getElem? (i := 277) rfl)) (by decide) (EW.cons (hw _ (List.mem_of_getElem? (i := 13) rfl)) (by decide) EW.nil)))
theorem ybm_ : parseMethodDescriptor "(Lunderdeck/deck/Dialect;)V" = some ⟨[(.object "underdeck/deck/Dialect")], none⟩ := by decide +kernel
theorem ybo_ : parseMethodDescriptor "()Lunderdeck/deck/SqlText;" = some ⟨[], some (.object "underdeck/deck/SqlText")⟩ := by decide +kernel
def ls_1 : List Value := [(.int (32 : Int32)), (.int (40 : Int32)), (.int (41 : Int32)), (.int (32 : Int32)), (.int (118 : Int32)), (.int (97 : Int32)), (.int (108 : Int32)), (.int (117 : Int32)), (.int (101 : Int32)), (.int (115 : Int32)), (.int (32 : Int32)), (.int (40 : Int32)), (.int (41 : Int32)), (.int (0 : Int32)), (.int (0 : Int32)), (.int (0 : Int32))]
theorem ybd_ : parseMethodDescriptor "(Ljava/lang/String;ILjava/lang/String;)Z" = some ⟨[(.object "java/lang/String"), .int, (.object "java/lang/String")], some .boolean⟩ := by decide +kernel
theorem yeh_ : parseMethodDescriptor "(C)Ljava/lang/String;" = some ⟨[.char], some (.object "java/lang/String")⟩ := by decide +kernel
def ls_2 (p3 : Int32) : List Value := [(.int (nar .byte (((p3 &&& (255 : Int32)).toUInt32.toUInt16.toUInt32.toInt32).toInt8.toInt32))), (.int (0 : Int32)), (.int (0 : Int32)), (.int (0 : Int32)), (.int (0 : Int32)), (.int (0 : Int32)), (.int (0 : Int32)), (.int (0 : Int32)), (.int (0 : Int32)), (.int (0 : Int32)), (.int (0 : Int32)), (.int (0 : Int32)), (.int (0 : Int32)), (.int (0 : Int32)), (.int (0 : Int32)), (.int (0 : Int32))]
def ls_3 (p3 : Int32) : List Value := [(.int (nar .byte (((p3 &&& (255 : Int32)).toUInt32.toUInt16.toUInt32.toInt32).toInt8.toInt32))), (.int (32 : Int32)), (.int (40 : Int32)), (.int (41 : Int32)), (.int (32 : Int32)), (.int (118 : Int32)), (.int (97 : Int32)), (.int (108 : Int32)), (.int (117 : Int32)), (.int (101 : Int32)), (.int (115 : Int32)), (.int (32 : Int32)), (.int (40 : Int32)), (.int (41 : Int32)), (.int (0 : Int32)), (.int (0 : Int32))]
def ls_4 (p3 : Int32) : List Value := [(.int (nar .byte (((p3 &&& (255 : Int32)).toUInt32.toUInt16.toUInt32.toInt32).toInt8.toInt32))), (.int (32 : Int32)), (.int (40 : Int32)), (.int (41 : Int32)), (.int (32 : Int32)), (.int (118 : Int32)), (.int (97 : Int32)), (.int (108 : Int32)), (.int (117 : Int32)), (.int (101 : Int32)), (.int (115 : Int32)), (.int (32 : Int32)), (.int (40 : Int32)), (.int (41 : Int32))]
theorem ykk_ : parseMethodDescriptor "([C)V" = some ⟨[(.array .char)], none⟩ := by decide +kernel
def ls_5 (p3 : Int32) (p4 : Int32) : List Value := [(.int (nar .byte ((nar .char ((p3 &&& (255 : Int32)).toUInt32.toUInt16.toUInt32.toInt32)).toInt8.toInt32))), (.int (nar .byte ((nar .char ((p4 &&& (255 : Int32)).toUInt32.toUInt16.toUInt32.toInt32)).toInt8.toInt32))), (.int (0 : Int32)), (.int (0 : Int32)), (.int (0 : Int32)), (.int (0 : Int32)), (.int (0 : Int32)), (.int (0 : Int32)), (.int (0 : Int32)), (.int (0 : Int32)), (.int (0 : Int32)), (.int (0 : Int32)), (.int (0 : Int32)), (.int (0 : Int32)), (.int (0 : Int32)), (.int (0 : Int32))]
def ls_6 (p3 : Int32) (p4 : Int32) : List Value := [(.int (nar .byte ((nar .char ((p3 &&& (255 : Int32)).toUInt32.toUInt16.toUInt32.toInt32)).toInt8.toInt32))), (.int (nar .byte ((nar .char ((p4 &&& (255 : Int32)).toUInt32.toUInt16.toUInt32.toInt32)).toInt8.toInt32))), (.int (32 : Int32)), (.int (40 : Int32)), (.int (41 : Int32)), (.int (32 : Int32)), (.int (118 : Int32)), (.int (97 : Int32)), (.int (108 : Int32)), (.int (117 : Int32)), (.int (101 : Int32)), (.int (115 : Int32)), (.int (32 : Int32)), (.int (40 : Int32)), (.int (41 : Int32)), (.int (0 : Int32))]
def ls_7 (p3 : Int32) (p4 : Int32) : List Value := [(.int (nar .byte ((nar .char ((p3 &&& (255 : Int32)).toUInt32.toUInt16.toUInt32.toInt32)).toInt8.toInt32))), (.int (nar .byte ((nar .char ((p4 &&& (255 : Int32)).toUInt32.toUInt16.toUInt32.toInt32)).toInt8.toInt32))), (.int (32 : Int32)), (.int (40 : Int32)), (.int (41 : Int32)), (.int (32 : Int32)), (.int (118 : Int32)), (.int (97 : Int32)), (.int (108 : Int32)), (.int (117 : Int32)), (.int (101 : Int32)), (.int (115 : Int32)), (.int (32 : Int32)), (.int (40 : Int32)), (.int (41 : Int32))]
def ls_8 : List Value := [(.int (32 : Int32)), (.int (100 : Int32)), (.int (101 : Int32)), (.int (102 : Int32)), (.int (97 : Int32)), (.int (117 : Int32)), (.int (108 : Int32)), (.int (116 : Int32)), (.int (32 : Int32)), (.int (118 : Int32)), (.int (97 : Int32)), (.int (108 : Int32)), (.int (117 : Int32)), (.int (101 : Int32)), (.int (115 : Int32))]
def ls_9 : List Value := [(.int (32 : Int32)), (.int (100 : Int32)), (.int (101 : Int32)), (.int (102 : Int32)), (.int (97 : Int32)), (.int (117 : Int32)), (.int (108 : Int32)), (.int (116 : Int32)), (.int (32 : Int32)), (.int (118 : Int32)), (.int (97 : Int32)), (.int (108 : Int32)), (.int (117 : Int32)), (.int (101 : Int32)), (.int (115 : Int32)), (.int (0 : Int32))]
def ls_10 (p3 : Int32) : List Value := [(.int (nar .byte (((p3 &&& (255 : Int32)).toUInt32.toUInt16.toUInt32.toInt32).toInt8.toInt32))), (.int (32 : Int32)), (.int (100 : Int32)), (.int (101 : Int32)), (.int (102 : Int32)), (.int (97 : Int32)), (.int (117 : Int32)), (.int (108 : Int32)), (.int (116 : Int32)), (.int (32 : Int32)), (.int (118 : Int32)), (.int (97 : Int32)), (.int (108 : Int32)), (.int (117 : Int32)), (.int (101 : Int32)), (.int (115 : Int32))]
def ls_11 (p3 : Int32) (p4 : Int32) : List Value := [(.int (nar .byte ((nar .char ((p3 &&& (255 : Int32)).toUInt32.toUInt16.toUInt32.toInt32)).toInt8.toInt32))), (.int (nar .byte ((nar .char ((p4 &&& (255 : Int32)).toUInt32.toUInt16.toUInt32.toInt32)).toInt8.toInt32))), (.int (32 : Int32)), (.int (100 : Int32)), (.int (101 : Int32)), (.int (102 : Int32)), (.int (97 : Int32)), (.int (117 : Int32)), (.int (108 : Int32)), (.int (116 : Int32)), (.int (32 : Int32)), (.int (118 : Int32)), (.int (97 : Int32)), (.int (108 : Int32)), (.int (117 : Int32)), (.int (101 : Int32)), (.int (115 : Int32)), (.int (0 : Int32)), (.int (0 : Int32)), (.int (0 : Int32)), (.int (0 : Int32)), (.int (0 : Int32)), (.int (0 : Int32)), (.int (0 : Int32)), (.int (0 : Int32)), (.int (0 : Int32)), (.int (0 : Int32)), (.int (0 : Int32)), (.int (0 : Int32)), (.int (0 : Int32)), (.int (0 : Int32)), (.int (0 : Int32)), (.int (0 : Int32)), (.int (0 : Int32))]
def ls_12 (p3 : Int32) (p4 : Int32) : List Value := [(.int (nar .byte ((nar .char ((p3 &&& (255 : Int32)).toUInt32.toUInt16.toUInt32.toInt32)).toInt8.toInt32))), (.int (nar .byte ((nar .char ((p4 &&& (255 : Int32)).toUInt32.toUInt16.toUInt32.toInt32)).toInt8.toInt32))), (.int (32 : Int32)), (.int (100 : Int32)), (.int (101 : Int32)), (.int (102 : Int32)), (.int (97 : Int32)), (.int (117 : Int32)), (.int (108 : Int32)), (.int (116 : Int32)), (.int (32 : Int32)), (.int (118 : Int32)), (.int (97 : Int32)), (.int (108 : Int32)), (.int (117 : Int32)), (.int (101 : Int32)), (.int (115 : Int32))]
def t0_0 (p2 : Int32) : Int32 := ((p2 &&& (2147483647 : Int32)) - ((p2 &&& (2147483647 : Int32)) / (3 : Int32)) * (3 : Int32))
theorem pn_0 : plainName "underdeck/deck/SqlTextDefaultsOnlyPinLaw" = true := by first | (simp [plainName, overriddenIn]; done) | decide +kernel
theorem ef_0 (m : MethodId) (x0 : Int32) (x1 : Int32) (x2 : Int32) (x3 : Int32) : entryFrame m #[(.int x0), (.int x1), (.int x2), (.int x3)] maxLocals = mkF m 0 #[.val (.int x0), .val (.int x1), .val (.int x2), .val (.int x3), .unset, .unset, .unset, .unset, .unset, .unset, .unset, .unset, .unset, .unset, .unset, .unset] [] := by first | (simp [entryFrame, mkF, argsToLocals, Value.category, maxLocals]; done) | rfl
def t0_1 (p3 : Int32) : Int32 := (nar .char (t38_0 (nar .byte (((p3 &&& (255 : Int32)).toUInt32.toUInt16.toUInt32.toInt32).toInt8.toInt32))))
def t0_2 (p3 : Int32) : Int32 := (nar .char (t38_0 (nar .byte ((nar .char ((p3 &&& (255 : Int32)).toUInt32.toUInt16.toUInt32.toInt32)).toInt8.toInt32))))
def t0_3 (p4 : Int32) : Int32 := (nar .char (t38_0 (nar .byte ((nar .char ((p4 &&& (255 : Int32)).toUInt32.toUInt16.toUInt32.toInt32)).toInt8.toInt32))))
def Q_rm0 (Z : State) (p1 : Int32) (p2 : Int32) (p3 : Int32) (p4 : Int32) (yr_ : Addr) (yg_ : Addr) (ya_ : Int32) (yp_ : Addr) (yo_ : Addr) (yb_ : Value) (yt_ : ClassId) (yi_ : Addr) (yk_ : Addr) (yl_ : Addr) (yq_ : ClassId) (h0 : Heap) (n0 : Nat) (v : Option Value) (h : Heap) (L : List Loc) : Prop := v = some (.int (1 : Int32)) ∧ Fr n0 L
set_option maxRecDepth 65536 in
set_option maxHeartbeats 40000000 in
theorem rm0_tf (l : Launch) (Z : State) (a0 : Array Value) (hw : ∀ d ∈ tables_1, d.before a0 Z = true) (ws : List Jvm.Cond) (p1 : Int32) (p2 : Int32) (p3 : Int32) (p4 : Int32) (yr_ : Addr) (yg_ : Addr) (ya_ : Int32) (yp_ : Addr) (yo_ : Addr) (yb_ : Value) (yt_ : ClassId) (yi_ : Addr) (yk_ : Addr) (yl_ : Addr) (yq_ : ClassId) (h0 : Heap) (n0 : Nat) (Z0 : n0 ≤ h0.size) (hcs : ¬ (ya_ = (0 : Int32))) (hsv : yb_.isRef = true) (ydh_ : Sta Z h0 "underdeck/deck/Dialect" "MARIADB" "Lunderdeck/deck/Dialect;" (.ref yr_)) (yaj_ : Sta Z h0 "java/util/ArrayList" "DEFAULTCAPACITY_EMPTY_ELEMENTDATA" "[Ljava/lang/Object;" (.ref yg_)) (yf_ : Sta Z h0 "java/lang/String" "COMPACT_STRINGS" "Z" (.int ya_)) (yal_ : Fld Z h0 yr_ "underdeck/deck/Dialect" "defaultsOnly" "Ljava/lang/String;" (.ref yp_)) (ym_ : Fld Z h0 yp_ "java/lang/String" "value" "[B" (.ref yo_)) (ycz_ : Exa Z h0 yr_ "underdeck/deck/Dialect") (yay_ : Fld Z h0 yp_ "java/lang/String" "coder" "B" (.int (0 : Int32))) (ybc_ : Exa Z h0 yp_ "java/lang/String") (yx_ : Sta Z h0 "jdk/internal/util/Preconditions" "SIOOBE_FORMATTER" "Ljava/util/function/BiFunction;" yb_) (yy_ : Arv Z h0 yo_ yt_ .byte (13 : Int32) (ls_0) (.int (0 : Int32))) (ycl_ : Sta Z h0 "underdeck/deck/Dialect" "POSTGRESQL" "Lunderdeck/deck/Dialect;" (.ref yi_)) (yah_ : Fld Z h0 yi_ "underdeck/deck/Dialect" "defaultsOnly" "Ljava/lang/String;" (.ref yk_)) (yj_ : Fld Z h0 yk_ "java/lang/String" "value" "[B" (.ref yl_)) (ycb_ : Exa Z h0 yi_ "underdeck/deck/Dialect") (yau_ : Fld Z h0 yk_ "java/lang/String" "coder" "B" (.int (0 : Int32))) (yba_ : Exa Z h0 yk_ "java/lang/String") (yu_ : Arv Z h0 yl_ yq_ .byte (15 : Int32) (ls_8) (.int (0 : Int32))) (hc3 : ¬ ((p1 &&& (1 : Int32)) = (0 : Int32))) (hc86 : (t0_0 p2) = (0 : Int32)) :
    MetFree l x (head1 (Jvm.Cond.code x code maxLocals ret :: ws) room_1) (fun a U => a = #[(.int p1), (.int p2), (.int p3), (.int p4)] ∧ Z.Warmed39 U.vm ∧ U.heap = h0 ∧ CHv Z consts_1 U.vm h0) (fun _ _ _ _ _ => True) (fun _ U o U' => ∃ v L, o = .returned v ∧ Q_rm0 Z p1 p2 p3 p4 yr_ yg_ ya_ yp_ yo_ yb_ yt_ yi_ yk_ yl_ yq_ h0 n0 v U'.heap L ∧ ReturnedEndW U o U' L room_1.cells room_1.slots) := by
  have hi : ∀ (i : Nat) {d : Jvm.Cond}, tables_1[i]? = some d → d.before a0 Z = true := fun i d h => hw d (List.mem_of_getElem? h)
  refine MetFree.of_bodySF (plainFor_of_name pn_0) hisR ?_
  intro p e s m args below meth c s₁ Bd hml0 hP hK
  obtain ⟨rfl, hZ, hh, hCH⟩ := hP
  have hx := Bd.exec
  have hby := Bd.bytes
  have hml : c.maxLocals = 16 := hml0
  have hown : s.vm.findClass "underdeck/deck/SqlTextDefaultsOnlyPinLaw" = some m.cls := findClass_of_methodNamed Bd.named
  have hnm := (name_of_methodNamed Bd.named Bd.method).1
  have X0 : Stand p l e room_1 (s.setVm s.vm) m #[(.int p1), (.int p2), (.int p3), (.int p4)] below meth c s₁ [] 0 0 := Stand.of_body Bd
  have e0 : s₁.heap = h0 := by rw [← hh, Bd.state]; rfl
  have N0 := Fr.nil n0
  have hS0 : s.Since s.vm h0.size := (State.WarmedH.refl s).since _
  obtain ⟨T5, X5, e5, st5⟩ := getS2 X0 hx hZ hown (host := "") (Or.inl (hi 275 rfl)) Via.refl e0 ydh_ (g := (mkF m 24 #[vI p1, vI p2, vI p3, vI p4, vI (0 : Int32), vU, vU, vU, vU, vU, vU, vU, vU, vU, vU, vU] [])) rfl (hb hby at_24)
  obtain ⟨c6, T6, h6, k6, b6, kb6, X6, e6, E6, hS6, hk6, hZ6, hown6, iE6, iC6, iV6, iA6, -, -, hC6, hL6, -, st6⟩ := ldcCH (s := s) X5 hx hZ hown (hi 277 rfl) (own_strs hw) e5 hS0 (Nat.le_refl h0.size) (own_EW hw) (by simp [consts_1]) hCH (vs := [(.int (32 : Int32)), (.int (40 : Int32)), (.int (41 : Int32)), (.int (32 : Int32)), (.int (118 : Int32)), (.int (97 : Int32)), (.int (108 : Int32)), (.int (117 : Int32)), (.int (101 : Int32)), (.int (115 : Int32)), (.int (32 : Int32)), (.int (40 : Int32)), (.int (41 : Int32))]) (z := (13 : Int32)) ⟨by decide, rfl⟩ (by decide) rfl (g := (mkF m 39 #[vI p1, vI p2, vI p3, vI p4, vI (0 : Int32), vA yr_, vU, vU, vU, vU, vU, vU, vU, vU, vU, vU] [])) rfl (hb hby at_39) (n := 52) (by decide) (by decide) (by decide) (by decide)
  obtain ⟨T7, h7, k7, X7, e7, E7, A7, iE7, st7⟩ := newPE X6 hx hZ6 (hi 12 rfl) e6 (g := (mkF m 68 #[vI p1, vI p2, vI p3, vI p4, vI (0 : Int32), vA yr_, vA c6, vI (t0_0 p2), vI ((p3 &&& (255 : Int32)).toUInt32.toUInt16.toUInt32.toInt32), vI ((p4 &&& (255 : Int32)).toUInt32.toUInt16.toUInt32.toInt32), vU, vU, vU, vU, vU, vU] [(.int (2 : Int32))])) rfl (hb hby at_68) rfl (by decide) (cap := 2) (by decide) (by decide) (by decide) (by decide) (ad := "[C") rfl
  obtain ⟨b7, g7⟩ : ∃ z, z = h6.size := ⟨_, rfl⟩
  rw [← g7] at A7 iE7 st7
  have g_b7 : n0 ≤ b7 := Nat.le_trans (Nat.le_trans Z0 E6.1) (Nat.le_of_eq g7.symm)
  have sz_b7 : h0.size ≤ b7 := Nat.le_trans (Nat.le_trans (Nat.le_refl h0.size) E6.1) (Nat.le_of_eq g7.symm)
  have V_b7 : Arv Z h7 b7 k7 .char (2 : Int32) [(.int (0 : Int32)), (.int (0 : Int32))] (.int (0 : Int32)) := (Arv.new A7 (by decide)).pad (pad_rep [] (.int (0 : Int32)) 2)
  obtain ⟨cl_b7_0, Ar_b7_0, q_b7_0, Sz_b7_0, Ng_b7_0, Ha_b7_0, Gt_b7_0⟩ := id V_b7
  have yem_ : ¬ ((0 : Int32) < 0 ∨ cl_b7_0.slots.size ≤ ((0 : Int32)).toNatClampNeg) := inb_of Sz_b7_0 ⟨by decide, by decide⟩
  obtain ⟨T8, h8, X8, e8, W8, st8⟩ := stC X7 hx hZ6 e7 Ar_b7_0 (j := (0 : Int32)) yem_ (g := (mkF m 77 #[vI p1, vI p2, vI p3, vI p4, vI (0 : Int32), vA yr_, vA c6, vI (t0_0 p2), vI ((p3 &&& (255 : Int32)).toUInt32.toUInt16.toUInt32.toInt32), vI ((p4 &&& (255 : Int32)).toUInt32.toUInt16.toUInt32.toInt32), vA b7, vU, vU, vU, vU, vU] [(.int ((p3 &&& (255 : Int32)).toUInt32.toUInt16.toUInt32.toInt32)), (.int (0 : Int32)), (.ref b7)])) rfl rfl (hb hby at_77)
  have V8 : Arv Z h8 b7 k7 .char (2 : Int32) [(.int (nar .char ((p3 &&& (255 : Int32)).toUInt32.toUInt16.toUInt32.toInt32))), (.int (0 : Int32))] (.int (0 : Int32)) := Arv.set Ar_b7_0 q_b7_0 Sz_b7_0 Ng_b7_0 Ha_b7_0 Gt_b7_0 (fits_nar_char _) W8 0 rfl (Nat.le_of_ble_eq_true rfl)
  have N8 := Fr.snoc X8 N0 g_b7
  obtain ⟨cl_b7_1, Ar_b7_1, q_b7_1, Sz_b7_1, Ng_b7_1, Ha_b7_1, Gt_b7_1⟩ := id V8
  have yen_ : ¬ ((1 : Int32) < 0 ∨ cl_b7_1.slots.size ≤ ((1 : Int32)).toNatClampNeg) := inb_of Sz_b7_1 ⟨by decide, by decide⟩
  obtain ⟨T9, h9, X9, e9, W9, st9⟩ := stC X8 hx hZ6 e8 Ar_b7_1 (j := (1 : Int32)) yen_ (g := (mkF m 83 #[vI p1, vI p2, vI p3, vI p4, vI (0 : Int32), vA yr_, vA c6, vI (t0_0 p2), vI ((p3 &&& (255 : Int32)).toUInt32.toUInt16.toUInt32.toInt32), vI ((p4 &&& (255 : Int32)).toUInt32.toUInt16.toUInt32.toInt32), vA b7, vU, vU, vU, vU, vU] [(.int ((p4 &&& (255 : Int32)).toUInt32.toUInt16.toUInt32.toInt32)), (.int (1 : Int32)), (.ref b7)])) rfl rfl (hb hby at_83)
  have V9 : Arv Z h9 b7 k7 .char (2 : Int32) [(.int (nar .char ((p3 &&& (255 : Int32)).toUInt32.toUInt16.toUInt32.toInt32))), (.int (nar .char ((p4 &&& (255 : Int32)).toUInt32.toUInt16.toUInt32.toInt32)))] (.int (0 : Int32)) := Arv.set Ar_b7_1 q_b7_1 Sz_b7_1 Ng_b7_1 Ha_b7_1 Gt_b7_1 (fits_nar_char _) W9 1 rfl (Nat.le_of_ble_eq_true rfl)
  have N9 := Fr.snoc X9 N8 g_b7
  obtain ⟨c10, T10, h10, k10, b10, kb10, X10, e10, E10, hS10, hk10, hZ10, hown10, iE10, iC10, iV10, iA10, -, -, hC10, hL10, -, st10⟩ := ldcCH (s := s) X9 hx hZ6 hown6 (hi 13 rfl) (own_strs hw) e9 hS6 (Nat.le_trans (Nat.le_trans (Nat.le_trans hk6 E7.1) (Keep.of_wr W8).1) (Keep.of_wr W9).1) (own_EW hw) (by simp [consts_1]) (CHv.wr W9 (Safe.arv hZ6.alike V8 (by decide)) (CHv.wr W8 (Safe.arv hZ6.alike V_b7 (by decide)) (CHv.ext E7 hC6.1))) (vs := []) (z := (0 : Int32)) ⟨by decide, rfl⟩ (by decide) rfl (g := (mkF m 89 #[vI p1, vI p2, vI p3, vI p4, vI (0 : Int32), vA yr_, vA c6, vI (0 : Int32), vI ((p3 &&& (255 : Int32)).toUInt32.toUInt16.toUInt32.toInt32), vI ((p4 &&& (255 : Int32)).toUInt32.toUInt16.toUInt32.toInt32), vA b7, vU, vU, vU, vU, vU] [])) rfl (hb hby at_89) (n := 0) (by decide) (by decide) (by decide) (by decide)
  have f2 := ((((iE6.ext E7).wr W8).wr W9).ext E10)
  have f3 := (((iE7.wr W8).wr W9).ext E10)
  have f4 := ((((iA6.ext E7).other W8 (Nat.ne_of_lt (Nat.lt_of_lt_of_le iA6.lt (Nat.le_of_eq g7.symm)))).other W9 (Nat.ne_of_lt (Nat.lt_of_lt_of_le iA6.lt (Nat.le_of_eq g7.symm)))).ext E10)
  obtain ⟨T11, h11, X11, e11, E11, A11, D11, -, st11⟩ := newO X10 hx hZ10 hown10 (hi 14 rfl) (hi 15 rfl) (hi 16 rfl) e10 (g := (mkF m 119 #[vI p1, vI p2, vI p3, vI p4, vI (0 : Int32), vA yr_, vA c6, vI (0 : Int32), vI ((p3 &&& (255 : Int32)).toUInt32.toUInt16.toUInt32.toInt32), vI ((p4 &&& (255 : Int32)).toUInt32.toUInt16.toUInt32.toInt32), vA b7, vA c10, vU, vU, vU, vU] [])) rfl (hb hby at_119) (by decide) (by decide)
  obtain ⟨b11, g11⟩ : ∃ z, z = h10.size := ⟨_, rfl⟩
  rw [← g11] at A11 D11 st11
  have g_b11 : n0 ≤ b11 := Nat.le_trans (Nat.le_trans (Nat.le_trans (Nat.le_trans (Nat.le_trans (Nat.le_trans Z0 E6.1) E7.1) (Keep.of_wr W8).1) (Keep.of_wr W9).1) E10.1) (Nat.le_of_eq g11.symm)
  have sz_b11 : h0.size ≤ b11 := Nat.le_trans (Nat.le_trans (Nat.le_trans (Nat.le_trans (Nat.le_trans (Nat.le_trans (Nat.le_refl h0.size) E6.1) E7.1) (Keep.of_wr W8).1) (Keep.of_wr W9).1) E10.1) (Nat.le_of_eq g11.symm)
  have yev_ : Fld Z h11 b11 "underdeck/deck/SqlText" "parts" "Ljava/util/List;" .null := D11 (Or.inr (hi 48 rfl)) (ty := (.object "java/util/List")) (by decide)
  have yee_ : Fld Z h11 b11 "underdeck/deck/SqlText" "current" "Ljava/lang/StringBuilder;" .null := D11 (Or.inr (hi 68 rfl)) (ty := (.object "java/lang/StringBuilder")) (by decide)
  have ydj_ : Fld Z h11 b11 "underdeck/deck/SqlText" "placeholders" "Ljava/util/List;" .null := D11 (Or.inr (hi 70 rfl)) (ty := (.object "java/util/List")) (by decide)
  have yew_ : Fld Z h11 b11 "underdeck/deck/SqlText" "types" "Ljava/util/Map;" .null := D11 (Or.inr (hi 88 rfl)) (ty := (.object "java/util/Map")) (by decide)
  have yds_ : Fld Z h11 b11 "underdeck/deck/SqlText" "groupLists" "Ljava/util/Map;" .null := D11 (Or.inr (hi 90 rfl)) (ty := (.object "java/util/Map")) (by decide)
  have yex_ : Fld Z h11 b11 "underdeck/deck/SqlText" "names" "Ljava/util/Set;" .null := D11 (Or.inr (hi 111 rfl)) (ty := (.object "java/util/Set")) (by decide)
  have yef_ : Fld Z h11 b11 "underdeck/deck/SqlText" "dialect" "Lunderdeck/deck/Dialect;" .null := D11 (Or.inr (hi 113 rfl)) (ty := (.object "underdeck/deck/Dialect")) (by decide)
  have f5 := ((((((yaj_.ext E6).ext E7).wr W8).wr W9).ext E10).ext E11)
  have f6 := ((((((yf_.ext E6).ext E7).wr W8).wr W9).ext E10).ext E11)
  obtain ⟨_, _, ⟨T12, L12, k12, n12⟩, -, X12, ⟨Lc12, hQ12, l12, y12, z12⟩, st12⟩ := X11.specialBack hx (y := mN49) rfl hown10 (mvT hZ10 (hi 17 rfl)) (mvT hZ10 (hi 18 rfl)) (mvT hZ10 (hi 19 rfl)) (by decide) (backOf (W := 1) (rm1 l Z a0 hw [] b11 yr_ yg_ .null ya_ .null .null .null .null .null .null h11 n0 (Nat.le_trans (Nat.le_trans (Nat.le_trans (Nat.le_trans (Nat.le_trans (Nat.le_trans Z0 E6.1) E7.1) (Keep.of_wr W8).1) (Keep.of_wr W9).1) E10.1) E11.1) hcs f5 A11 yev_ g_b11 f6 yee_ ydj_ yew_ yds_ yex_ yef_) hZ10 (hi 19 rfl) (hi 16 rfl) (by decide) (by decide)) (g := (mkF m 125 #[vI p1, vI p2, vI p3, vI p4, vI (0 : Int32), vA yr_, vA c6, vI (0 : Int32), vI ((p3 &&& (255 : Int32)).toUInt32.toUInt16.toUInt32.toInt32), vI ((p4 &&& (255 : Int32)).toUInt32.toUInt16.toUInt32.toInt32), vA b7, vA c10, vU, vU, vU, vU] [(.ref yr_), (.ref b11), (.ref b11)])) rfl (by rw [hml]; rfl) (Steps.refl _) (a := b11) (argsL := [(.ref yr_)]) (rest := [(.ref b11)]) (lenOf ybm_ rfl) rfl (by show 2 * 0 + _ ≤ _; exact Nat.le_of_eq rfl) (hb hby at_125) (fun _ _ => ⟨rfl, e11, (by decide : 6 + 8 ≤ _), (by decide : 69 + 51 ≤ _)⟩)
  dsimp only [Pt.U, Pt.locs, Pt.cells, Pt.slots] at X12 l12 y12 z12 st12 hQ12
  subst l12 y12 z12
  obtain ⟨b7_12, ⟨ybj_, ⟨b10_12, ⟨ybs_, ⟨rfl, N12q, K12, i12_0, i12_1, i12_2, i12_3, i12_4, i12_5, i12_6, i12_7, i12_8, i12_9, i12_10, i12_11, i12_12, i12_13, i12_14, i12_15, i12_16, i12_17, i12_18, i12_19⟩⟩⟩⟩⟩ := hQ12
  have N12 := Fr.app N9 N12q
  have f7 := (f2.ext E11)
  have f8 := (f3.ext E11)
  have f9 := (iE10.ext E11)
  have f10 := (f4.ext E11)
  have f11 := (iA10.ext E11)
  have ych_ : h0.size ≤ b7_12 := Nat.le_trans (Nat.le_trans (Nat.le_trans (Nat.le_trans (Nat.le_trans (Nat.le_trans (Nat.le_trans (Nat.le_refl h0.size) E6.1) E7.1) (Keep.of_wr W8).1) (Keep.of_wr W9).1) E10.1) E11.1) i12_0
  have g_b7_12 : n0 ≤ b7_12 := Nat.le_trans Z0 ych_
  have ybk_ : h0.size ≤ ybj_ := Nat.le_trans (Nat.le_trans (Nat.le_trans (Nat.le_trans (Nat.le_trans (Nat.le_trans (Nat.le_trans (Nat.le_refl h0.size) E6.1) E7.1) (Keep.of_wr W8).1) (Keep.of_wr W9).1) E10.1) E11.1) i12_1
  have ydq_ : n0 ≤ ybj_ := Nat.le_trans Z0 ybk_
  have ygr_ : h0.size ≤ b10_12 := Nat.le_trans (Nat.le_trans (Nat.le_trans (Nat.le_trans (Nat.le_trans (Nat.le_trans (Nat.le_trans (Nat.le_refl h0.size) E6.1) E7.1) (Keep.of_wr W8).1) (Keep.of_wr W9).1) E10.1) E11.1) i12_2
  have ymw_ : n0 ≤ b10_12 := Nat.le_trans Z0 ygr_
  have f12 := ((iV10.ext E11).keep K12 (own_nm (Nat.ne_of_lt (Nat.lt_of_lt_of_le iE10.lt (Nat.le_of_eq g11.symm))) own_n0))
  have f13 := (f11.keep K12 (own_nm (Nat.ne_of_lt (Nat.lt_of_lt_of_le iA10.lt (Nat.le_of_eq g11.symm))) own_n0))
  have f14 := (own_sta_keep f6 K12 (own_qc (own_nst A11) own_q0))
  have f15 := ((iC10.ext E11).keep K12 (own_nm (Nat.ne_of_lt (Nat.lt_of_lt_of_le iE10.lt (Nat.le_of_eq g11.symm))) own_n0))
  have f16 := (f9.keep K12)
  obtain ⟨cq13, kq13, q13a, q13b, q13c⟩ := isOf hZ10 rfl i12_6
  obtain ⟨_, _, ⟨T13, L13, k13, n13⟩, -, X13, ⟨Lc13, hQ13, l13, y13, z13⟩, st13⟩ := X12.virtualBack hx (y := mN52) (z := mN52) hown10 (mvT hZ10 (hi 114 rfl)) (mvT hZ10 (hi 115 rfl)) (notFace_of_selects (args := #[]) (mvT hZ10 (hi 117 rfl))) (mvT hZ10 (hi 117 rfl)) (mvT hZ10 (hi 116 rfl)) (by decide) (backOf (W := 0) (rm12 l Z a0 hw [] b11 c10 b7_12 ybj_ b10 kb10 (0 : Int32) ([] : List Value) ya_ (0 : Int32) ybs_ (16 : Int32) ((List.replicate 16 (Value.int (0 : Int32))) : List Value) T12.heap n0 (Nat.le_trans (Nat.le_trans (Nat.le_trans (Nat.le_trans (Nat.le_trans (Nat.le_trans (Nat.le_trans Z0 E6.1) E7.1) (Keep.of_wr W8).1) (Keep.of_wr W9).1) E10.1) E11.1) K12.1) hcs i12_7 i12_12 f12 f13 f14 i12_11 i12_15 i12_13 f15 f16 i12_10 ydq_ g_b7_12 (by decide) (by decide) (by decide) (by decide) (by decide) (Nat.le_of_ble_eq_true rfl) i12_3 (Ne.symm i12_3)) hZ10 (hi 118 rfl) (hi 16 rfl) (by decide) (by decide)) q13a q13c (g := (mkF m 134 #[vI p1, vI p2, vI p3, vI p4, vI (0 : Int32), vA yr_, vA c6, vI (0 : Int32), vI ((p3 &&& (255 : Int32)).toUInt32.toUInt16.toUInt32.toInt32), vI ((p4 &&& (255 : Int32)).toUInt32.toUInt16.toUInt32.toInt32), vA b7, vA c10, vA b11, vU, vU, vU] [(.ref c10), (.ref b11)])) rfl (by rw [hml]; rfl) (Steps.refl _) (argsL := [(.ref c10)]) (rest := []) (lenOf yat_ rfl) rfl (by show 2 * 0 + _ ≤ _; exact Nat.le_of_eq rfl) (hb hby at_134) (fun _ _ => ⟨rfl, rfl, (by decide : 14 + 0 ≤ _), (by decide : 120 + 0 ≤ _)⟩)
  dsimp only [Pt.U, Pt.locs, Pt.cells, Pt.slots] at X13 l13 y13 z13 st13 hQ13
  subst l13 y13 z13
  obtain ⟨rfl, N13q, K13, i13_0, i13_1, i13_2, i13_3, i13_4⟩ := hQ13
  have N13 := Fr.app N12 N13q
  have Ui13_0 : Arv Z T13.heap ybj_ ybs_ .byte (16 : Int32) (List.replicate 16 (Value.int (0 : Int32))) (.int (0 : Int32)) := i13_0
  have Ui13_4 : Fld Z T13.heap b7_12 "java/lang/AbstractStringBuilder" "count" "I" (.int (0 : Int32)) := i13_4
  have f17 := (i12_9.keep K13 (own_nm (Nat.ne_of_lt (Nat.lt_of_lt_of_le A11.lt i12_1)) (own_nm (Nat.ne_of_lt (Nat.lt_of_lt_of_le A11.lt i12_0)) own_n0)))
  have f18 := ((((((((yal_.ext E6).ext E7).other W8 (Or.inl (Nat.ne_of_lt (Nat.lt_of_lt_of_le yal_.lt sz_b7)))).other W9 (Or.inl (Nat.ne_of_lt (Nat.lt_of_lt_of_le yal_.lt sz_b7)))).ext E10).ext E11).keep K12 (own_nm (Nat.ne_of_lt (Nat.lt_of_lt_of_le yal_.lt sz_b11)) own_n0)).keep K13 (own_nm (Nat.ne_of_lt (Nat.lt_of_lt_of_le yal_.lt ybk_)) (own_nm (Nat.ne_of_lt (Nat.lt_of_lt_of_le yal_.lt ych_)) own_n0)))
  have f19 := (i12_7.keep K13 (own_nm (Nat.ne_of_lt (Nat.lt_of_lt_of_le A11.lt i12_1)) (own_nm (Nat.ne_of_lt (Nat.lt_of_lt_of_le A11.lt i12_0)) own_n0)))
  have f20 := ((((((((ym_.ext E6).ext E7).other W8 (Or.inl (Nat.ne_of_lt (Nat.lt_of_lt_of_le ym_.lt sz_b7)))).other W9 (Or.inl (Nat.ne_of_lt (Nat.lt_of_lt_of_le ym_.lt sz_b7)))).ext E10).ext E11).keep K12 (own_nm (Nat.ne_of_lt (Nat.lt_of_lt_of_le ym_.lt sz_b11)) own_n0)).keep K13 (own_nm (Nat.ne_of_lt (Nat.lt_of_lt_of_le ym_.lt ybk_)) (own_nm (Nat.ne_of_lt (Nat.lt_of_lt_of_le ym_.lt ych_)) own_n0)))
  have f21 := ((((((((yy_.ext E6).ext E7).other W8 (Nat.ne_of_lt (Nat.lt_of_lt_of_le yy_.lt sz_b7))).other W9 (Nat.ne_of_lt (Nat.lt_of_lt_of_le yy_.lt sz_b7))).ext E10).ext E11).keep K12 (own_nm (Nat.ne_of_lt (Nat.lt_of_lt_of_le yy_.lt sz_b11)) own_n0)).keep K13 (own_nm (Nat.ne_of_lt (Nat.lt_of_lt_of_le yy_.lt ybk_)) (own_nm (Nat.ne_of_lt (Nat.lt_of_lt_of_le yy_.lt ych_)) own_n0)))
  have f22 := (own_sta_keep f14 K13 (own_qc (own_nst i12_14) (own_qc (own_nst i12_10) own_q0)))
  have f23 := ((((((((ycz_.ext E6).ext E7).wr W8).wr W9).ext E10).ext E11).keep K12).keep K13)
  have f24 := ((((((((yay_.ext E6).ext E7).other W8 (Or.inl (Nat.ne_of_lt (Nat.lt_of_lt_of_le ym_.lt sz_b7)))).other W9 (Or.inl (Nat.ne_of_lt (Nat.lt_of_lt_of_le ym_.lt sz_b7)))).ext E10).ext E11).keep K12 (own_nm (Nat.ne_of_lt (Nat.lt_of_lt_of_le ym_.lt sz_b11)) own_n0)).keep K13 (own_nm (Nat.ne_of_lt (Nat.lt_of_lt_of_le ym_.lt ybk_)) (own_nm (Nat.ne_of_lt (Nat.lt_of_lt_of_le ym_.lt ych_)) own_n0)))
  have f25 := ((((((((ybc_.ext E6).ext E7).wr W8).wr W9).ext E10).ext E11).keep K12).keep K13)
  have f26 := (i12_6.keep K13)
  obtain ⟨cq14, kq14, q14a, q14b, q14c⟩ := isOf hZ10 rfl f26
  obtain ⟨_, _, ⟨T14, L14, k14, n14⟩, -, X14, ⟨Lc14, hQ14, l14, y14, z14⟩, st14⟩ := X13.virtualBack hx (y := mN50) (z := mN50) hown10 (mvT hZ10 (hi 169 rfl)) (mvT hZ10 (hi 170 rfl)) (notFace_of_selects (args := #[]) (mvT hZ10 (hi 172 rfl))) (mvT hZ10 (hi 172 rfl)) (mvT hZ10 (hi 171 rfl)) (by decide) (backOf (W := 0) (rm21 l Z a0 hw [] b11 yr_ yp_ b7_12 ybj_ yo_ yt_ (13 : Int32) ((ls_0) : List Value) ya_ (0 : Int32) ybs_ (16 : Int32) ((List.replicate 16 (Value.int (0 : Int32))) : List Value) T13.heap n0 (Nat.le_trans (Nat.le_trans (Nat.le_trans (Nat.le_trans (Nat.le_trans (Nat.le_trans (Nat.le_trans (Nat.le_trans Z0 E6.1) E7.1) (Keep.of_wr W8).1) (Keep.of_wr W9).1) E10.1) E11.1) K12.1) K13.1) hcs f17 f18 f23 f19 i13_2 f20 f21 f22 Ui13_4 Ui13_0 i13_3 f24 f25 i13_1 ydq_ g_b7_12 f26 (by decide) (by decide) (by decide) (by decide) (by decide) (Nat.le_of_ble_eq_true rfl) i12_3 (Ne.symm i12_3)) hZ10 (hi 173 rfl) (hi 16 rfl) (by decide) (by decide)) q14a q14c (g := (mkF m 141 #[vI p1, vI p2, vI p3, vI p4, vI (0 : Int32), vA yr_, vA c6, vI (0 : Int32), vI ((p3 &&& (255 : Int32)).toUInt32.toUInt16.toUInt32.toInt32), vI ((p4 &&& (255 : Int32)).toUInt32.toUInt16.toUInt32.toInt32), vA b7, vA c10, vA b11, vA b11, vU, vU] [(.ref b11)])) rfl (by rw [hml]; rfl) (Steps.refl _) (argsL := []) (rest := []) (lenOf ybo_ rfl) rfl (by show 2 * 0 + _ ≤ _; exact Nat.le_of_eq rfl) (hb hby at_141) (fun _ _ => ⟨rfl, rfl, (by decide : 14 + 0 ≤ _), (by decide : 120 + 0 ≤ _)⟩)
  dsimp only [Pt.U, Pt.locs, Pt.cells, Pt.slots] at X14 l14 y14 z14 st14 hQ14
  subst l14 y14 z14
  obtain ⟨rfl, N14q, K14, i14_0, i14_1, i14_2, i14_3, i14_4⟩ := hQ14
  have N14 := Fr.app N13 N14q
  have f27 := (i12_14.keep K13)
  have Ui14_0 : Arv Z T14.heap ybj_ ybs_ .byte (16 : Int32) (ls_1) (.int (0 : Int32)) := i14_0
  have Ui14_4 : Fld Z T14.heap b7_12 "java/lang/AbstractStringBuilder" "count" "I" (.int (13 : Int32)) := i14_4
  have f28 := ((i12_8.keep K13 (own_nm (Nat.ne_of_lt (Nat.lt_of_lt_of_le A11.lt i12_1)) (own_nm (Nat.ne_of_lt (Nat.lt_of_lt_of_le A11.lt i12_0)) own_n0))).keep K14 (own_nm (Nat.ne_of_lt (Nat.lt_of_lt_of_le A11.lt i12_1)) (own_nm (Nat.ne_of_lt (Nat.lt_of_lt_of_le A11.lt i12_0)) own_n0)))
  have f29 := (f19.keep K14 (own_nm (Nat.ne_of_lt (Nat.lt_of_lt_of_le A11.lt i12_1)) (own_nm (Nat.ne_of_lt (Nat.lt_of_lt_of_le A11.lt i12_0)) own_n0)))
  have f30 := (own_sta_keep f22 K14 (own_qc (own_nst f27) (own_qc (own_nst i13_1) own_q0)))
  have f31 := ((i12_18.keep K13 (own_nm (Ne.symm i12_5) (own_nm (Ne.symm i12_4) own_n0))).keep K14 (own_nm (Ne.symm i12_5) (own_nm (Ne.symm i12_4) own_n0)))
  have f32 := ((i12_16.keep K13).keep K14)
  have f33 := (f26.keep K14)
  obtain ⟨cq15, kq15, q15a, q15b, q15c⟩ := isOf hZ10 rfl f33
  obtain ⟨_, _, ⟨T15, L15, k15, n15⟩, -, X15, ⟨Lc15, hQ15, l15, y15, z15⟩, st15⟩ := X14.virtualBack hx (y := mN51) (z := mN51) hown10 (mvT hZ10 (hi 182 rfl)) (mvT hZ10 (hi 183 rfl)) (notFace_of_selects (args := #[]) (mvT hZ10 (hi 185 rfl))) (mvT hZ10 (hi 185 rfl)) (mvT hZ10 (hi 184 rfl)) (by decide) (backOf (W := 0) (rm23c l Z a0 hw [] b11 b10_12 b7_12 ybj_ (13 : Int32) ya_ ybs_ (16 : Int32) ((ls_1) : List Value) T14.heap n0 (Nat.le_trans (Nat.le_trans (Nat.le_trans (Nat.le_trans (Nat.le_trans (Nat.le_trans (Nat.le_trans (Nat.le_trans (Nat.le_trans Z0 E6.1) E7.1) (Keep.of_wr W8).1) (Keep.of_wr W9).1) E10.1) E11.1) K12.1) K13.1) K14.1) hcs f28 f31 f32 f29 i14_2 Ui14_4 f30 Ui14_0 i14_1 i14_3 (by decide) (by decide) (by decide) (by decide) (by decide) (by decide) (by decide) (by decide) (Nat.le_of_ble_eq_true rfl)) hZ10 (hi 186 rfl) (hi 16 rfl) (by decide) (by decide)) q15a q15c (g := (mkF m 148 #[vI p1, vI p2, vI p3, vI p4, vI (0 : Int32), vA yr_, vA c6, vI (0 : Int32), vI ((p3 &&& (255 : Int32)).toUInt32.toUInt16.toUInt32.toInt32), vI ((p4 &&& (255 : Int32)).toUInt32.toUInt16.toUInt32.toInt32), vA b7, vA c10, vA b11, vA b11, vA b11, vU] [(.ref b11)])) rfl (by rw [hml]; rfl) (Steps.refl _) (argsL := []) (rest := []) (lenOf ybh_ rfl) rfl (by show 2 * 0 + _ ≤ _; exact Nat.le_of_eq rfl) (hb hby at_148) (fun _ _ => ⟨rfl, rfl, (by decide : 14 + 2 ≤ _), (by decide : 120 + 21 ≤ _)⟩)
  dsimp only [Pt.U, Pt.locs, Pt.cells, Pt.slots] at X15 l15 y15 z15 st15 hQ15
  subst l15 y15 z15
  obtain ⟨b2_5_15, ⟨ybl_, ⟨ycg_, ⟨rfl, N15q, K15, i15_0, i15_1, i15_2, i15_3, i15_4, i15_5, i15_6, i15_7⟩⟩⟩⟩ := hQ15
  have N15 := Fr.app N14 N15q
  have f34 := (((f7.keep K12).keep K13).keep K14)
  have f35 := (((f8.keep K12).keep K13).keep K14)
  have f36 := ((f16.keep K13).keep K14)
  have f37 := (f27.keep K14)
  have f38 := (((f10.keep K12 (own_nm (Nat.ne_of_lt (Nat.lt_of_lt_of_le f4.lt (Nat.le_of_eq g11.symm))) own_n0)).keep K13 (own_nm (Nat.ne_of_lt (Nat.lt_of_lt_of_le f10.lt i12_1)) (own_nm (Nat.ne_of_lt (Nat.lt_of_lt_of_le f10.lt i12_0)) own_n0))).keep K14 (own_nm (Nat.ne_of_lt (Nat.lt_of_lt_of_le f10.lt i12_1)) (own_nm (Nat.ne_of_lt (Nat.lt_of_lt_of_le f10.lt i12_0)) own_n0)))
  have f39 := ((f13.keep K13 (own_nm (Nat.ne_of_lt (Nat.lt_of_lt_of_le f11.lt i12_1)) (own_nm (Nat.ne_of_lt (Nat.lt_of_lt_of_le f11.lt i12_0)) own_n0))).keep K14 (own_nm (Nat.ne_of_lt (Nat.lt_of_lt_of_le f11.lt i12_1)) (own_nm (Nat.ne_of_lt (Nat.lt_of_lt_of_le f11.lt i12_0)) own_n0)))
  have ygb_ : h0.size ≤ b2_5_15 := Nat.le_trans (Nat.le_trans (Nat.le_trans (Nat.le_trans (Nat.le_trans (Nat.le_trans (Nat.le_trans (Nat.le_trans (Nat.le_trans (Nat.le_trans (Nat.le_refl h0.size) E6.1) E7.1) (Keep.of_wr W8).1) (Keep.of_wr W9).1) E10.1) E11.1) K12.1) K13.1) K14.1) i15_0
  have ylo_ : n0 ≤ b2_5_15 := Nat.le_trans Z0 ygb_
  have yeb_ : h0.size ≤ ybl_ := Nat.le_trans (Nat.le_trans (Nat.le_trans (Nat.le_trans (Nat.le_trans (Nat.le_trans (Nat.le_trans (Nat.le_trans (Nat.le_trans (Nat.le_trans (Nat.le_refl h0.size) E6.1) E7.1) (Keep.of_wr W8).1) (Keep.of_wr W9).1) E10.1) E11.1) K12.1) K13.1) K14.1) i15_1
  have yja_ : n0 ≤ ybl_ := Nat.le_trans Z0 yeb_
  have Ui15_7 : Arv Z T15.heap ybl_ ycg_ .byte (13 : Int32) (ls_0) (.int (0 : Int32)) := i15_7
  have f40 := (own_sta_keep f30 K15 own_q0)
  obtain ⟨cq16, kq16, q16a, q16b, q16c⟩ := isOf hZ10 rfl i15_3
  obtain ⟨_, _, ⟨T16, L16, k16, n16⟩, -, X16, ⟨Lc16, hQ16, l16, y16, z16⟩, st16⟩ := X15.virtualBack hx (y := mN21) (z := mN21) hown10 (mvT hZ10 (hi 245 rfl)) (mvT hZ10 (hi 130 rfl)) (notFace_of_selects (args := #[]) (mvT hZ10 (hi 132 rfl))) (mvT hZ10 (hi 132 rfl)) (mvT hZ10 (hi 131 rfl)) (by decide) (backOf (W := 0) (rm15 l Z a0 hw [] b2_5_15 ybl_ ycg_ (13 : Int32) ((ls_0) : List Value) ya_ (0 : Int32) T15.heap n0 (Nat.le_trans (Nat.le_trans (Nat.le_trans (Nat.le_trans (Nat.le_trans (Nat.le_trans (Nat.le_trans (Nat.le_trans (Nat.le_trans (Nat.le_trans Z0 E6.1) E7.1) (Keep.of_wr W8).1) (Keep.of_wr W9).1) E10.1) E11.1) K12.1) K13.1) K14.1) K15.1) hcs i15_5 Ui15_7 f40 i15_4 i15_3) hZ10 (hi 133 rfl) (hi 4 rfl) (by decide) (by decide)) q16a q16c (g := (mkF m 169 #[vI p1, vI p2, vI p3, vI p4, vI (0 : Int32), vA yr_, vA c6, vI (0 : Int32), vI ((p3 &&& (255 : Int32)).toUInt32.toUInt16.toUInt32.toInt32), vI ((p4 &&& (255 : Int32)).toUInt32.toUInt16.toUInt32.toInt32), vA b7, vA c10, vA b11, vA b11, vA b11, vA b2_5_15] [(.ref b2_5_15)])) rfl (by rw [hml]; rfl) (Steps.refl _) (argsL := []) (rest := []) (lenOf ycf_ rfl) rfl (by show 2 * 0 + _ ≤ _; exact Nat.le_of_eq rfl) (hb hby at_169) (fun _ _ => ⟨rfl, rfl, (by decide : 16 + 0 ≤ _), (by decide : 141 + 0 ≤ _)⟩)
  dsimp only [Pt.U, Pt.locs, Pt.cells, Pt.slots] at X16 l16 y16 z16 st16 hQ16
  subst l16 y16 z16
  obtain ⟨rfl, N16q, e16⟩ := hQ16
  have N16 := Fr.app N15 N16q
  have f41 := (((((((((iV6.ext E7).other W8 (Or.inl (Nat.ne_of_lt (Nat.lt_of_lt_of_le iE6.lt (Nat.le_of_eq g7.symm))))).other W9 (Or.inl (Nat.ne_of_lt (Nat.lt_of_lt_of_le iE6.lt (Nat.le_of_eq g7.symm))))).ext E10).ext E11).keep K12 (own_nm (Nat.ne_of_lt (Nat.lt_of_lt_of_le f2.lt (Nat.le_of_eq g11.symm))) own_n0)).keep K13 (own_nm (Nat.ne_of_lt (Nat.lt_of_lt_of_le f7.lt i12_1)) (own_nm (Nat.ne_of_lt (Nat.lt_of_lt_of_le f7.lt i12_0)) own_n0))).keep K14 (own_nm (Nat.ne_of_lt (Nat.lt_of_lt_of_le f7.lt i12_1)) (own_nm (Nat.ne_of_lt (Nat.lt_of_lt_of_le f7.lt i12_0)) own_n0))).keep K15 own_n0)
  have f42 := (f38.keep K15 own_n0)
  have f43 := (((((((((iC6.ext E7).other W8 (Or.inl (Nat.ne_of_lt (Nat.lt_of_lt_of_le iE6.lt (Nat.le_of_eq g7.symm))))).other W9 (Or.inl (Nat.ne_of_lt (Nat.lt_of_lt_of_le iE6.lt (Nat.le_of_eq g7.symm))))).ext E10).ext E11).keep K12 (own_nm (Nat.ne_of_lt (Nat.lt_of_lt_of_le f2.lt (Nat.le_of_eq g11.symm))) own_n0)).keep K13 (own_nm (Nat.ne_of_lt (Nat.lt_of_lt_of_le f7.lt i12_1)) (own_nm (Nat.ne_of_lt (Nat.lt_of_lt_of_le f7.lt i12_0)) own_n0))).keep K14 (own_nm (Nat.ne_of_lt (Nat.lt_of_lt_of_le f7.lt i12_1)) (own_nm (Nat.ne_of_lt (Nat.lt_of_lt_of_le f7.lt i12_0)) own_n0))).keep K15 own_n0)
  have f44 := (f34.keep K15)
  obtain ⟨cq17, kq17, q17a, q17b, q17c⟩ := isOf hZ10 e16 f44
  obtain ⟨_, _, ⟨T17, L17, k17, n17⟩, -, X17, ⟨Lc17, hQ17, l17, y17, z17⟩, st17⟩ := X16.virtualBack hx (y := mN21) (z := mN21) hown10 (mvT hZ10 (hi 245 rfl)) (mvT hZ10 (hi 130 rfl)) (notFace_of_selects (args := #[]) (mvT hZ10 (hi 132 rfl))) (mvT hZ10 (hi 132 rfl)) (mvT hZ10 (hi 131 rfl)) (by decide) (backOf (W := 2) (rm15 l Z a0 hw [] c6 b6 kb6 (13 : Int32) ((ls_0) : List Value) ya_ (0 : Int32) T15.heap n0 (Nat.le_trans (Nat.le_trans (Nat.le_trans (Nat.le_trans (Nat.le_trans (Nat.le_trans (Nat.le_trans (Nat.le_trans (Nat.le_trans (Nat.le_trans Z0 E6.1) E7.1) (Keep.of_wr W8).1) (Keep.of_wr W9).1) E10.1) E11.1) K12.1) K13.1) K14.1) K15.1) hcs f41 f42 f40 f43 f44) hZ10 (hi 133 rfl) (hi 4 rfl) (by decide) (by decide)) q17a q17c (g := (mkF m 176 #[vI p1, vI p2, vI p3, vI p4, vI (0 : Int32), vA yr_, vA c6, vI (0 : Int32), vI ((p3 &&& (255 : Int32)).toUInt32.toUInt16.toUInt32.toInt32), vI ((p4 &&& (255 : Int32)).toUInt32.toUInt16.toUInt32.toInt32), vA b7, vA c10, vA b11, vA b11, vA b11, vA b2_5_15] [(.ref c6), (.int (0 : Int32)), (.int (13 : Int32))])) rfl (by rw [hml]; rfl) (Steps.refl _) (argsL := []) (rest := [(.int (0 : Int32)), (.int (13 : Int32))]) (lenOf ycf_ rfl) rfl (by show 2 * 0 + _ ≤ _; exact Nat.le_of_eq rfl) (hb hby at_176) (fun _ _ => ⟨rfl, e16, (by decide : 16 + 0 ≤ _), (by decide : 141 + 0 ≤ _)⟩)
  dsimp only [Pt.U, Pt.locs, Pt.cells, Pt.slots] at X17 l17 y17 z17 st17 hQ17
  subst l17 y17 z17
  obtain ⟨rfl, N17q, e17⟩ := hQ17
  have N17 := Fr.app N16 N17q
  have f45 := (own_sta_keep (own_sta_keep (own_sta_keep (own_sta_keep ((((((yx_.ext E6).ext E7).wr W8).wr W9).ext E10).ext E11) K12 (own_qc (own_nst A11) own_q0)) K13 (own_qc (own_nst i12_14) (own_qc (own_nst i12_10) own_q0))) K14 (own_qc (own_nst f27) (own_qc (own_nst i13_1) own_q0))) K15 own_q0)
  obtain ⟨_, _, ⟨T18, L18, k18, n18⟩, -, X18, ⟨Lc18, hQ18, l18, y18, z18⟩, st18⟩ := Jvm.LawKit.callS X17 hx (y := mN54) hown10 (mvT hZ10 (hi 246 rfl)) (mvT hZ10 (hi 247 rfl)) (mvT hZ10 (hi 248 rfl)) (mvT hZ10 (hi 249 rfl)) (by decide) (backOf (W := 0) (rm36_13 l Z a0 hw [] b2_5_15 (0 : Int32) c6 b6 ya_ ybl_ ycg_ (13 : Int32) ((ls_0) : List Value) yb_ kb6 ((ls_0) : List Value) (32 : Int32) (40 : Int32) (41 : Int32) (32 : Int32) (118 : Int32) (97 : Int32) (108 : Int32) (117 : Int32) (101 : Int32) (115 : Int32) (32 : Int32) (40 : Int32) (41 : Int32) T15.heap n0 (Nat.le_trans (Nat.le_trans (Nat.le_trans (Nat.le_trans (Nat.le_trans (Nat.le_trans (Nat.le_trans (Nat.le_trans (Nat.le_trans (Nat.le_trans Z0 E6.1) E7.1) (Keep.of_wr W8).1) (Keep.of_wr W9).1) E10.1) E11.1) K12.1) K13.1) K14.1) K15.1) hcs hsv f41 f40 i15_5 Ui15_7 f45 f43 f44 i15_4 i15_3 f42 (by decide) (by decide) (by decide) rfl rfl (by decide) (by decide) (by decide) rfl rfl (by decide) (by decide) (by decide) rfl rfl (by decide) (by decide) (by decide) rfl rfl (by decide) (by decide) (by decide) rfl rfl (by decide) (by decide) (by decide) rfl rfl (by decide) (by decide) (by decide) rfl rfl (by decide) (by decide) (by decide) rfl rfl (by decide) (by decide) (by decide) rfl rfl (by decide) (by decide) (by decide) rfl rfl (by decide) (by decide) (by decide) rfl rfl (by decide) (by decide) (by decide) rfl rfl (by decide) (by decide) (by decide) rfl rfl) hZ10 (hi 249 rfl) (hi 248 rfl) (by decide) (by decide)) (g := (mkF m 223 #[vI p1, vI p2, vI p3, vI p4, vI (0 : Int32), vA yr_, vA c6, vI (0 : Int32), vI ((p3 &&& (255 : Int32)).toUInt32.toUInt16.toUInt32.toInt32), vI ((p4 &&& (255 : Int32)).toUInt32.toUInt16.toUInt32.toInt32), vA b7, vA c10, vA b11, vA b11, vA b11, vA b2_5_15] [(.ref c6), (.int (0 : Int32)), (.ref b2_5_15)])) rfl (by rw [hml]; rfl) (argsL := [(.ref b2_5_15), (.int (0 : Int32)), (.ref c6)]) (rest := []) (lenOf ybd_ rfl) rfl (by show 2 * 0 + _ ≤ _; exact Nat.le_of_eq rfl) (hb hby at_223) (fun _ _ => ⟨rfl, e17, (by decide : 16 + 0 ≤ _), (by decide : 141 + 0 ≤ _)⟩)
  dsimp only [Pt.U, Pt.locs, Pt.cells, Pt.slots] at X18 l18 y18 z18 st18 hQ18
  subst l18 y18 z18
  obtain ⟨rfl, N18q, e18⟩ := hQ18
  have N18 := Fr.app N17 N18q
  obtain ⟨fs, hr, hrun, hended, hw1, hw2, hw3, hw4⟩ := X18.leaveW hS10 (show _ ≤ T18.heap.size from by rw [e18]; exact (Nat.le_trans (Nat.le_trans (Nat.le_trans (Nat.le_trans (Nat.le_trans hk10 E11.1) K12.1) K13.1) K14.1) K15.1)) (v := some (.int (1 : Int32))) (fun h => by rw [Bd.returns] at h; cases h)
  refine ⟨_, _, castTop (ef_0 m p1 p2 p3 p4) ?_, hrun, hended, _, _, rfl, ?_, hw1, hw2, hw3, hw4.mono (by decide) (by decide)⟩
  · show Steps p.tables e below (s₁.setTop (mkF m 0 #[vI p1, vI p2, vI p3, vI p4, vU, vU, vU, vU, vU, vU, vU, vU, vU, vU, vU, vU] [])) _
    refine XS.iloadN X0.here hx rfl (hb hby at_0) rfl ?_
    refine XS.iconst X0.here hx rfl (hb hby at_1) ?_
    refine XS.iand X0.here hx rfl (hb hby at_2) rfl ?_
    refine XS.ifYes X0.here hx rfl (pc0 := 3) (pc' := 10) rfl (hb hby at_3) rfl ((if0 _ _).trans (feq hc3).2) (by decide) (by decide) ?_
    refine XS.iconst X0.here hx rfl (hb hby at_10) ?_
    refine XS.istore X0.here hx rfl (hb hby at_11) rfl (l' := #[vI p1, vI p2, vI p3, vI p4, vI (0 : Int32), vU, vU, vU, vU, vU, vU, vU, vU, vU, vU, vU]) rfl ?_
    refine XS.iload X0.here hx rfl (hb hby at_13) rfl ?_
    refine XS.ifYes X0.here hx rfl (pc0 := 15) (pc' := 24) rfl (hb hby at_15) rfl ((if0 _ _).trans (teq (rfl : (0 : Int32) = (0 : Int32))).1) (by decide) (by decide) ?_
    refine st5 _ ?_
    refine XS.astore X5.here hx rfl (hb hby at_27) rfl rfl (l' := #[vI p1, vI p2, vI p3, vI p4, vI (0 : Int32), vA yr_, vU, vU, vU, vU, vU, vU, vU, vU, vU, vU]) rfl ?_
    refine XS.iload X5.here hx rfl (hb hby at_29) rfl ?_
    refine XS.ifYes X5.here hx rfl (pc0 := 31) (pc' := 39) rfl (hb hby at_31) rfl ((if0 _ _).trans (teq (rfl : (0 : Int32) = (0 : Int32))).1) (by decide) (by decide) ?_
    refine st6 _ ?_
    refine XS.astore X6.here hx rfl (hb hby at_41) rfl rfl (l' := #[vI p1, vI p2, vI p3, vI p4, vI (0 : Int32), vA yr_, vA c6, vU, vU, vU, vU, vU, vU, vU, vU, vU]) rfl ?_
    refine XS.iloadN X6.here hx rfl (hb hby at_43) rfl ?_
    refine X6.ldcInt hx hown6 (mvT hZ6 (hi 11 rfl)) (g := (mkF m 44 #[vI p1, vI p2, vI p3, vI p4, vI (0 : Int32), vA yr_, vA c6, vU, vU, vU, vU, vU, vU, vU, vU, vU] [(.int p2)])) rfl (hb hby at_44) _ ?_
    refine XS.iand X6.here hx rfl (hb hby at_46) rfl ?_
    refine XS.iconst X6.here hx rfl (hb hby at_47) ?_
    refine XS.irem X6.here hx rfl (hb hby at_48) rfl (by decide) ?_
    refine XS.istore X6.here hx rfl (hb hby at_49) rfl (l' := #[vI p1, vI p2, vI p3, vI p4, vI (0 : Int32), vA yr_, vA c6, vI (t0_0 p2), vU, vU, vU, vU, vU, vU, vU, vU]) rfl ?_
    refine XS.iloadN X6.here hx rfl (hb hby at_51) rfl ?_
    refine XS.sipush X6.here hx rfl (hb hby at_52) ?_
    refine XS.iand X6.here hx rfl (hb hby at_55) rfl ?_
    refine XS.i2c X6.here hx rfl (hb hby at_56) rfl ?_
    refine XS.istore X6.here hx rfl (hb hby at_57) rfl (l' := #[vI p1, vI p2, vI p3, vI p4, vI (0 : Int32), vA yr_, vA c6, vI (t0_0 p2), vI ((p3 &&& (255 : Int32)).toUInt32.toUInt16.toUInt32.toInt32), vU, vU, vU, vU, vU, vU, vU]) rfl ?_
    refine XS.iloadN X6.here hx rfl (hb hby at_59) rfl ?_
    refine XS.sipush X6.here hx rfl (hb hby at_60) ?_
    refine XS.iand X6.here hx rfl (hb hby at_63) rfl ?_
    refine XS.i2c X6.here hx rfl (hb hby at_64) rfl ?_
    refine XS.istore X6.here hx rfl (hb hby at_65) rfl (l' := #[vI p1, vI p2, vI p3, vI p4, vI (0 : Int32), vA yr_, vA c6, vI (t0_0 p2), vI ((p3 &&& (255 : Int32)).toUInt32.toUInt16.toUInt32.toInt32), vI ((p4 &&& (255 : Int32)).toUInt32.toUInt16.toUInt32.toInt32), vU, vU, vU, vU, vU, vU]) rfl ?_
    refine XS.iconst X6.here hx rfl (hb hby at_67) ?_
    refine st7 _ ?_
    refine XS.astore X7.here hx rfl (hb hby at_70) rfl rfl (l' := #[vI p1, vI p2, vI p3, vI p4, vI (0 : Int32), vA yr_, vA c6, vI (t0_0 p2), vI ((p3 &&& (255 : Int32)).toUInt32.toUInt16.toUInt32.toInt32), vI ((p4 &&& (255 : Int32)).toUInt32.toUInt16.toUInt32.toInt32), vA b7, vU, vU, vU, vU, vU]) rfl ?_
    refine XS.aload X7.here hx rfl (hb hby at_72) rfl rfl ?_
    refine XS.iconst X7.here hx rfl (hb hby at_74) ?_
    refine XS.iload X7.here hx rfl (hb hby at_75) rfl ?_
    refine st8 _ ?_
    refine XS.aload X8.here hx rfl (hb hby at_78) rfl rfl ?_
    refine XS.iconst X8.here hx rfl (hb hby at_80) ?_
    refine XS.iload X8.here hx rfl (hb hby at_81) rfl ?_
    refine st9 _ ?_
    refine XS.iload X9.here hx rfl (hb hby at_84) rfl ?_
    refine XS.ifNo X9.here hx rfl (hb hby at_86) rfl ((if0 _ _).trans (teq hc86).2) ?_
    show Steps p.tables e below (T9.setTop (mkF m 89 #[vI p1, vI p2, vI p3, vI p4, vI (0 : Int32), vA yr_, vA c6, vI (t0_0 p2), vI ((p3 &&& (255 : Int32)).toUInt32.toUInt16.toUInt32.toInt32), vI ((p4 &&& (255 : Int32)).toUInt32.toUInt16.toUInt32.toInt32), vA b7, vU, vU, vU, vU, vU] [])) _
    rw [show (t0_0 p2) = (0 : Int32) from hc86]
    refine st10 _ ?_
    refine XS.goto X10.here hx rfl (pc0 := 91) (pc' := 117) rfl (hb hby at_91) (by decide) (by decide) ?_
    refine XS.astore X10.here hx rfl (hb hby at_117) rfl rfl (l' := #[vI p1, vI p2, vI p3, vI p4, vI (0 : Int32), vA yr_, vA c6, vI (0 : Int32), vI ((p3 &&& (255 : Int32)).toUInt32.toUInt16.toUInt32.toInt32), vI ((p4 &&& (255 : Int32)).toUInt32.toUInt16.toUInt32.toInt32), vA b7, vA c10, vU, vU, vU, vU]) rfl ?_
    refine st11 _ ?_
    refine XS.dup X11.here hx rfl (hb hby at_122) rfl rfl ?_
    refine XS.aload X11.here hx rfl (hb hby at_123) rfl rfl ?_
    refine st12.trans ?_
    refine XS.astore X12.here hx rfl (hb hby at_128) rfl rfl (l' := #[vI p1, vI p2, vI p3, vI p4, vI (0 : Int32), vA yr_, vA c6, vI (0 : Int32), vI ((p3 &&& (255 : Int32)).toUInt32.toUInt16.toUInt32.toInt32), vI ((p4 &&& (255 : Int32)).toUInt32.toUInt16.toUInt32.toInt32), vA b7, vA c10, vA b11, vU, vU, vU]) rfl ?_
    refine XS.aload X12.here hx rfl (hb hby at_130) rfl rfl ?_
    refine XS.aload X12.here hx rfl (hb hby at_132) rfl rfl ?_
    refine st13.trans ?_
    refine XS.astore X13.here hx rfl (hb hby at_137) rfl rfl (l' := #[vI p1, vI p2, vI p3, vI p4, vI (0 : Int32), vA yr_, vA c6, vI (0 : Int32), vI ((p3 &&& (255 : Int32)).toUInt32.toUInt16.toUInt32.toInt32), vI ((p4 &&& (255 : Int32)).toUInt32.toUInt16.toUInt32.toInt32), vA b7, vA c10, vA b11, vA b11, vU, vU]) rfl ?_
    refine XS.aload X13.here hx rfl (hb hby at_139) rfl rfl ?_
    refine st14.trans ?_
    refine XS.astore X14.here hx rfl (hb hby at_144) rfl rfl (l' := #[vI p1, vI p2, vI p3, vI p4, vI (0 : Int32), vA yr_, vA c6, vI (0 : Int32), vI ((p3 &&& (255 : Int32)).toUInt32.toUInt16.toUInt32.toInt32), vI ((p4 &&& (255 : Int32)).toUInt32.toUInt16.toUInt32.toInt32), vA b7, vA c10, vA b11, vA b11, vA b11, vU]) rfl ?_
    refine XS.aload X14.here hx rfl (hb hby at_146) rfl rfl ?_
    refine st15.trans ?_
    refine XS.astore X15.here hx rfl (hb hby at_151) rfl rfl (l' := #[vI p1, vI p2, vI p3, vI p4, vI (0 : Int32), vA yr_, vA c6, vI (0 : Int32), vI ((p3 &&& (255 : Int32)).toUInt32.toUInt16.toUInt32.toInt32), vI ((p4 &&& (255 : Int32)).toUInt32.toUInt16.toUInt32.toInt32), vA b7, vA c10, vA b11, vA b11, vA b11, vA b2_5_15]) rfl ?_
    refine XS.aload X15.here hx rfl (hb hby at_153) rfl rfl ?_
    refine XS.aload X15.here hx rfl (hb hby at_155) rfl rfl ?_
    refine Jvm.RoadKit.acmp (g := (mkF m 157 #[vI p1, vI p2, vI p3, vI p4, vI (0 : Int32), vA yr_, vA c6, vI (0 : Int32), vI ((p3 &&& (255 : Int32)).toUInt32.toUInt16.toUInt32.toInt32), vI ((p4 &&& (255 : Int32)).toUInt32.toUInt16.toUInt32.toInt32), vA b7, vA c10, vA b11, vA b11, vA b11, vA b2_5_15] [(.ref b11), (.ref b11)])) X15 hx rfl rfl rfl (pc0 := 157) (pc' := 160) (same := true) rfl (hb hby at_157) rfl (decide_eq_true rfl) (by decide) (by decide) ?_
    refine XS.aload X15.here hx rfl (hb hby at_160) rfl rfl ?_
    refine XS.aload X15.here hx rfl (hb hby at_162) rfl rfl ?_
    refine Jvm.RoadKit.acmp (g := (mkF m 164 #[vI p1, vI p2, vI p3, vI p4, vI (0 : Int32), vA yr_, vA c6, vI (0 : Int32), vI ((p3 &&& (255 : Int32)).toUInt32.toUInt16.toUInt32.toInt32), vI ((p4 &&& (255 : Int32)).toUInt32.toUInt16.toUInt32.toInt32), vA b7, vA c10, vA b11, vA b11, vA b11, vA b2_5_15] [(.ref b11), (.ref b11)])) X15 hx rfl rfl rfl (pc0 := 164) (pc' := 167) (same := true) rfl (hb hby at_164) rfl (decide_eq_true rfl) (by decide) (by decide) ?_
    refine XS.aload X15.here hx rfl (hb hby at_167) rfl rfl ?_
    refine st16.trans ?_
    refine XS.iload X16.here hx rfl (hb hby at_172) rfl ?_
    refine XS.aload X16.here hx rfl (hb hby at_174) rfl rfl ?_
    refine st17.trans ?_
    refine XS.iadd X17.here hx rfl (hb hby at_179) rfl ?_
    refine XS.icmpNo X17.here hx rfl (hb hby at_180) rfl (teq (rfl : (13 : Int32) = (13 : Int32))).2 ?_
    refine XS.iload X17.here hx rfl (hb hby at_183) rfl ?_
    refine XS.iconst X17.here hx rfl (hb hby at_185) ?_
    refine XS.icmpYes X17.here hx rfl (pc0 := 186) (pc' := 200) rfl (hb hby at_186) rfl (tlt (by decide : (0 : Int32) < (1 : Int32))).1 (by decide) (by decide) ?_
    refine XS.iload X17.here hx rfl (hb hby at_200) rfl ?_
    refine XS.iconst X17.here hx rfl (hb hby at_202) ?_
    refine XS.icmpYes X17.here hx rfl (pc0 := 203) (pc' := 217) rfl (hb hby at_203) rfl (tlt (by decide : (0 : Int32) < (2 : Int32))).1 (by decide) (by decide) ?_
    refine XS.aload X17.here hx rfl (hb hby at_217) rfl rfl ?_
    refine XS.iload X17.here hx rfl (hb hby at_219) rfl ?_
    refine XS.aload X17.here hx rfl (hb hby at_221) rfl rfl ?_
    refine st18 _ ?_
    refine XS.ifNo X18.here hx rfl (hb hby at_226) rfl ((if0 _ _).trans (feq (by decide : ¬ ((1 : Int32) = (0 : Int32)))).1) ?_
    refine XS.iconst X18.here hx rfl (hb hby at_229) ?_
    refine XS.goto X18.here hx rfl (pc0 := 230) (pc' := 234) rfl (hb hby at_230) (by decide) (by decide) ?_
    show Steps p.tables e below (T18.setTop (mkF m 234 #[vI p1, vI p2, vI p3, vI p4, vI (0 : Int32), vA yr_, vA c6, vI (0 : Int32), vI ((p3 &&& (255 : Int32)).toUInt32.toUInt16.toUInt32.toInt32), vI ((p4 &&& (255 : Int32)).toUInt32.toUInt16.toUInt32.toInt32), vA b7, vA c10, vA b11, vA b11, vA b11, vA b2_5_15] [(.int (1 : Int32))])) _
    exact retN X18 hx (t := .boolean) Bd.returns (by simp) (hb hby at_234) hr
  · show Q_rm0 Z p1 p2 p3 p4 yr_ yg_ ya_ yp_ yo_ yb_ yt_ yi_ yk_ yl_ yq_ h0 n0 _ T18.heap _
    exact ⟨rfl, N18⟩
set_option maxRecDepth 65536 in
set_option maxHeartbeats 40000000 in
theorem rm0_ttf (l : Launch) (Z : State) (a0 : Array Value) (hw : ∀ d ∈ tables_1, d.before a0 Z = true) (ws : List Jvm.Cond) (p1 : Int32) (p2 : Int32) (p3 : Int32) (p4 : Int32) (yr_ : Addr) (yg_ : Addr) (ya_ : Int32) (yp_ : Addr) (yo_ : Addr) (yb_ : Value) (yt_ : ClassId) (yi_ : Addr) (yk_ : Addr) (yl_ : Addr) (yq_ : ClassId) (h0 : Heap) (n0 : Nat) (Z0 : n0 ≤ h0.size) (hcs : ¬ (ya_ = (0 : Int32))) (hsv : yb_.isRef = true) (ydh_ : Sta Z h0 "underdeck/deck/Dialect" "MARIADB" "Lunderdeck/deck/Dialect;" (.ref yr_)) (yaj_ : Sta Z h0 "java/util/ArrayList" "DEFAULTCAPACITY_EMPTY_ELEMENTDATA" "[Ljava/lang/Object;" (.ref yg_)) (yf_ : Sta Z h0 "java/lang/String" "COMPACT_STRINGS" "Z" (.int ya_)) (yal_ : Fld Z h0 yr_ "underdeck/deck/Dialect" "defaultsOnly" "Ljava/lang/String;" (.ref yp_)) (ym_ : Fld Z h0 yp_ "java/lang/String" "value" "[B" (.ref yo_)) (ycz_ : Exa Z h0 yr_ "underdeck/deck/Dialect") (yay_ : Fld Z h0 yp_ "java/lang/String" "coder" "B" (.int (0 : Int32))) (ybc_ : Exa Z h0 yp_ "java/lang/String") (yx_ : Sta Z h0 "jdk/internal/util/Preconditions" "SIOOBE_FORMATTER" "Ljava/util/function/BiFunction;" yb_) (yy_ : Arv Z h0 yo_ yt_ .byte (13 : Int32) (ls_0) (.int (0 : Int32))) (ycl_ : Sta Z h0 "underdeck/deck/Dialect" "POSTGRESQL" "Lunderdeck/deck/Dialect;" (.ref yi_)) (yah_ : Fld Z h0 yi_ "underdeck/deck/Dialect" "defaultsOnly" "Ljava/lang/String;" (.ref yk_)) (yj_ : Fld Z h0 yk_ "java/lang/String" "value" "[B" (.ref yl_)) (ycb_ : Exa Z h0 yi_ "underdeck/deck/Dialect") (yau_ : Fld Z h0 yk_ "java/lang/String" "coder" "B" (.int (0 : Int32))) (yba_ : Exa Z h0 yk_ "java/lang/String") (yu_ : Arv Z h0 yl_ yq_ .byte (15 : Int32) (ls_8) (.int (0 : Int32))) (hc3 : ¬ ((p1 &&& (1 : Int32)) = (0 : Int32))) (hc86 : ¬ ((t0_0 p2) = (0 : Int32))) (hc97 : (t0_0 p2) = (1 : Int32)) :
    MetFree l x (head1 (Jvm.Cond.code x code maxLocals ret :: ws) room_1) (fun a U => a = #[(.int p1), (.int p2), (.int p3), (.int p4)] ∧ Z.Warmed39 U.vm ∧ U.heap = h0 ∧ CHv Z consts_1 U.vm h0) (fun _ _ _ _ _ => True) (fun _ U o U' => ∃ v L, o = .returned v ∧ Q_rm0 Z p1 p2 p3 p4 yr_ yg_ ya_ yp_ yo_ yb_ yt_ yi_ yk_ yl_ yq_ h0 n0 v U'.heap L ∧ ReturnedEndW U o U' L room_1.cells room_1.slots) := by
  have hi : ∀ (i : Nat) {d : Jvm.Cond}, tables_1[i]? = some d → d.before a0 Z = true := fun i d h => hw d (List.mem_of_getElem? h)
  refine MetFree.of_bodySF (plainFor_of_name pn_0) hisR ?_
  intro p e s m args below meth c s₁ Bd hml0 hP hK
  obtain ⟨rfl, hZ, hh, hCH⟩ := hP
  have hx := Bd.exec
  have hby := Bd.bytes
  have hml : c.maxLocals = 16 := hml0
  have hown : s.vm.findClass "underdeck/deck/SqlTextDefaultsOnlyPinLaw" = some m.cls := findClass_of_methodNamed Bd.named
  have hnm := (name_of_methodNamed Bd.named Bd.method).1
  have X0 : Stand p l e room_1 (s.setVm s.vm) m #[(.int p1), (.int p2), (.int p3), (.int p4)] below meth c s₁ [] 0 0 := Stand.of_body Bd
  have e0 : s₁.heap = h0 := by rw [← hh, Bd.state]; rfl
  have N0 := Fr.nil n0
  have hS0 : s.Since s.vm h0.size := (State.WarmedH.refl s).since _
  obtain ⟨T5, X5, e5, st5⟩ := getS2 X0 hx hZ hown (host := "") (Or.inl (hi 275 rfl)) Via.refl e0 ydh_ (g := (mkF m 24 #[vI p1, vI p2, vI p3, vI p4, vI (0 : Int32), vU, vU, vU, vU, vU, vU, vU, vU, vU, vU, vU] [])) rfl (hb hby at_24)
  obtain ⟨c6, T6, h6, k6, b6, kb6, X6, e6, E6, hS6, hk6, hZ6, hown6, iE6, iC6, iV6, iA6, -, -, hC6, hL6, -, st6⟩ := ldcCH (s := s) X5 hx hZ hown (hi 277 rfl) (own_strs hw) e5 hS0 (Nat.le_refl h0.size) (own_EW hw) (by simp [consts_1]) hCH (vs := [(.int (32 : Int32)), (.int (40 : Int32)), (.int (41 : Int32)), (.int (32 : Int32)), (.int (118 : Int32)), (.int (97 : Int32)), (.int (108 : Int32)), (.int (117 : Int32)), (.int (101 : Int32)), (.int (115 : Int32)), (.int (32 : Int32)), (.int (40 : Int32)), (.int (41 : Int32))]) (z := (13 : Int32)) ⟨by decide, rfl⟩ (by decide) rfl (g := (mkF m 39 #[vI p1, vI p2, vI p3, vI p4, vI (0 : Int32), vA yr_, vU, vU, vU, vU, vU, vU, vU, vU, vU, vU] [])) rfl (hb hby at_39) (n := 52) (by decide) (by decide) (by decide) (by decide)
  obtain ⟨T7, h7, k7, X7, e7, E7, A7, iE7, st7⟩ := newPE X6 hx hZ6 (hi 12 rfl) e6 (g := (mkF m 68 #[vI p1, vI p2, vI p3, vI p4, vI (0 : Int32), vA yr_, vA c6, vI (t0_0 p2), vI ((p3 &&& (255 : Int32)).toUInt32.toUInt16.toUInt32.toInt32), vI ((p4 &&& (255 : Int32)).toUInt32.toUInt16.toUInt32.toInt32), vU, vU, vU, vU, vU, vU] [(.int (2 : Int32))])) rfl (hb hby at_68) rfl (by decide) (cap := 2) (by decide) (by decide) (by decide) (by decide) (ad := "[C") rfl
  obtain ⟨b7, g7⟩ : ∃ z, z = h6.size := ⟨_, rfl⟩
  rw [← g7] at A7 iE7 st7
  have g_b7 : n0 ≤ b7 := Nat.le_trans (Nat.le_trans Z0 E6.1) (Nat.le_of_eq g7.symm)
  have sz_b7 : h0.size ≤ b7 := Nat.le_trans (Nat.le_trans (Nat.le_refl h0.size) E6.1) (Nat.le_of_eq g7.symm)
  have V_b7 : Arv Z h7 b7 k7 .char (2 : Int32) [(.int (0 : Int32)), (.int (0 : Int32))] (.int (0 : Int32)) := (Arv.new A7 (by decide)).pad (pad_rep [] (.int (0 : Int32)) 2)
  obtain ⟨cl_b7_0, Ar_b7_0, q_b7_0, Sz_b7_0, Ng_b7_0, Ha_b7_0, Gt_b7_0⟩ := id V_b7
  have yem_ : ¬ ((0 : Int32) < 0 ∨ cl_b7_0.slots.size ≤ ((0 : Int32)).toNatClampNeg) := inb_of Sz_b7_0 ⟨by decide, by decide⟩
  obtain ⟨T8, h8, X8, e8, W8, st8⟩ := stC X7 hx hZ6 e7 Ar_b7_0 (j := (0 : Int32)) yem_ (g := (mkF m 77 #[vI p1, vI p2, vI p3, vI p4, vI (0 : Int32), vA yr_, vA c6, vI (t0_0 p2), vI ((p3 &&& (255 : Int32)).toUInt32.toUInt16.toUInt32.toInt32), vI ((p4 &&& (255 : Int32)).toUInt32.toUInt16.toUInt32.toInt32), vA b7, vU, vU, vU, vU, vU] [(.int ((p3 &&& (255 : Int32)).toUInt32.toUInt16.toUInt32.toInt32)), (.int (0 : Int32)), (.ref b7)])) rfl rfl (hb hby at_77)
  have V8 : Arv Z h8 b7 k7 .char (2 : Int32) [(.int (nar .char ((p3 &&& (255 : Int32)).toUInt32.toUInt16.toUInt32.toInt32))), (.int (0 : Int32))] (.int (0 : Int32)) := Arv.set Ar_b7_0 q_b7_0 Sz_b7_0 Ng_b7_0 Ha_b7_0 Gt_b7_0 (fits_nar_char _) W8 0 rfl (Nat.le_of_ble_eq_true rfl)
  have N8 := Fr.snoc X8 N0 g_b7
  obtain ⟨cl_b7_1, Ar_b7_1, q_b7_1, Sz_b7_1, Ng_b7_1, Ha_b7_1, Gt_b7_1⟩ := id V8
  have yen_ : ¬ ((1 : Int32) < 0 ∨ cl_b7_1.slots.size ≤ ((1 : Int32)).toNatClampNeg) := inb_of Sz_b7_1 ⟨by decide, by decide⟩
  obtain ⟨T9, h9, X9, e9, W9, st9⟩ := stC X8 hx hZ6 e8 Ar_b7_1 (j := (1 : Int32)) yen_ (g := (mkF m 83 #[vI p1, vI p2, vI p3, vI p4, vI (0 : Int32), vA yr_, vA c6, vI (t0_0 p2), vI ((p3 &&& (255 : Int32)).toUInt32.toUInt16.toUInt32.toInt32), vI ((p4 &&& (255 : Int32)).toUInt32.toUInt16.toUInt32.toInt32), vA b7, vU, vU, vU, vU, vU] [(.int ((p4 &&& (255 : Int32)).toUInt32.toUInt16.toUInt32.toInt32)), (.int (1 : Int32)), (.ref b7)])) rfl rfl (hb hby at_83)
  have V9 : Arv Z h9 b7 k7 .char (2 : Int32) [(.int (nar .char ((p3 &&& (255 : Int32)).toUInt32.toUInt16.toUInt32.toInt32))), (.int (nar .char ((p4 &&& (255 : Int32)).toUInt32.toUInt16.toUInt32.toInt32)))] (.int (0 : Int32)) := Arv.set Ar_b7_1 q_b7_1 Sz_b7_1 Ng_b7_1 Ha_b7_1 Gt_b7_1 (fits_nar_char _) W9 1 rfl (Nat.le_of_ble_eq_true rfl)
  have N9 := Fr.snoc X9 N8 g_b7
  have f2 := ((((yf_.ext E6).ext E7).wr W8).wr W9)
  obtain ⟨_, _, ⟨T10, L10, k10, n10⟩, -, X10, ⟨Lc10, hQ10, l10, y10, z10⟩, st10⟩ := Jvm.LawKit.callS X9 hx (y := mN22) hown6 (mvT hZ6 (hi 278 rfl)) (mvT hZ6 (hi 279 rfl)) (mvT hZ6 (hi 4 rfl)) (mvT hZ6 (hi 280 rfl)) (by decide) (backOf (W := 0) (rm43 l Z a0 hw [] ((p3 &&& (255 : Int32)).toUInt32.toUInt16.toUInt32.toInt32) ya_ h9 n0 (Nat.le_trans (Nat.le_trans (Nat.le_trans (Nat.le_trans Z0 E6.1) E7.1) (Keep.of_wr W8).1) (Keep.of_wr W9).1) hcs f2 (own_le255 _ (own_cc _ (own_m255 _)))) hZ6 (hi 280 rfl) (hi 4 rfl) (by decide) (by decide)) (g := (mkF m 102 #[vI p1, vI p2, vI p3, vI p4, vI (0 : Int32), vA yr_, vA c6, vI (1 : Int32), vI ((p3 &&& (255 : Int32)).toUInt32.toUInt16.toUInt32.toInt32), vI ((p4 &&& (255 : Int32)).toUInt32.toUInt16.toUInt32.toInt32), vA b7, vU, vU, vU, vU, vU] [(.int ((p3 &&& (255 : Int32)).toUInt32.toUInt16.toUInt32.toInt32))])) rfl (by rw [hml]; rfl) (argsL := [(.int ((p3 &&& (255 : Int32)).toUInt32.toUInt16.toUInt32.toInt32))]) (rest := []) (lenOf yeh_ rfl) rfl (by show 2 * 0 + _ ≤ _; exact Nat.le_of_eq rfl) (hb hby at_102) (fun _ _ => ⟨rfl, e9, (by decide : 3 + 2 ≤ _), (by decide : 58 + 5 ≤ _)⟩)
  dsimp only [Pt.U, Pt.locs, Pt.cells, Pt.slots] at X10 l10 y10 z10 st10 hQ10
  subst l10 y10 z10
  obtain ⟨b4_10, ⟨b2_5_10, ⟨k2_5_10, ⟨rfl, N10q, K10, i10_0, i10_1, i10_2, i10_3, i10_4, i10_5, i10_6, i10_7⟩⟩⟩⟩ := hQ10
  have N10 := Fr.app N9 N10q
  have f3 := (((iE6.ext E7).wr W8).wr W9)
  have f4 := ((iE7.wr W8).wr W9)
  have f5 := (((iA6.ext E7).other W8 (Nat.ne_of_lt (Nat.lt_of_lt_of_le iA6.lt (Nat.le_of_eq g7.symm)))).other W9 (Nat.ne_of_lt (Nat.lt_of_lt_of_le iA6.lt (Nat.le_of_eq g7.symm))))
  have ymx_ : h0.size ≤ b4_10 := Nat.le_trans (Nat.le_trans (Nat.le_trans (Nat.le_trans (Nat.le_trans (Nat.le_refl h0.size) E6.1) E7.1) (Keep.of_wr W8).1) (Keep.of_wr W9).1) i10_0
  have g_b4_10 : n0 ≤ b4_10 := Nat.le_trans Z0 ymx_
  have ykw_ : h0.size ≤ b2_5_10 := Nat.le_trans (Nat.le_trans (Nat.le_trans (Nat.le_trans (Nat.le_trans (Nat.le_refl h0.size) E6.1) E7.1) (Keep.of_wr W8).1) (Keep.of_wr W9).1) i10_1
  have yql_ : n0 ≤ b2_5_10 := Nat.le_trans Z0 ykw_
  have f6 := (f3.keep K10)
  have f7 := (f4.keep K10)
  have f8 := (f5.keep K10 own_n0)
  obtain ⟨T11, h11, X11, e11, E11, A11, D11, -, st11⟩ := newO X10 hx hZ6 hown6 (hi 14 rfl) (hi 15 rfl) (hi 16 rfl) rfl (g := (mkF m 119 #[vI p1, vI p2, vI p3, vI p4, vI (0 : Int32), vA yr_, vA c6, vI (1 : Int32), vI ((p3 &&& (255 : Int32)).toUInt32.toUInt16.toUInt32.toInt32), vI ((p4 &&& (255 : Int32)).toUInt32.toUInt16.toUInt32.toInt32), vA b7, vA b4_10, vU, vU, vU, vU] [])) rfl (hb hby at_119) (by decide) (by decide)
  obtain ⟨b11, g11⟩ : ∃ z, z = T10.heap.size := ⟨_, rfl⟩
  rw [← g11] at A11 D11 st11
  have g_b11 : n0 ≤ b11 := Nat.le_trans (Nat.le_trans (Nat.le_trans (Nat.le_trans (Nat.le_trans (Nat.le_trans Z0 E6.1) E7.1) (Keep.of_wr W8).1) (Keep.of_wr W9).1) K10.1) (Nat.le_of_eq g11.symm)
  have sz_b11 : h0.size ≤ b11 := Nat.le_trans (Nat.le_trans (Nat.le_trans (Nat.le_trans (Nat.le_trans (Nat.le_trans (Nat.le_refl h0.size) E6.1) E7.1) (Keep.of_wr W8).1) (Keep.of_wr W9).1) K10.1) (Nat.le_of_eq g11.symm)
  have yev_ : Fld Z h11 b11 "underdeck/deck/SqlText" "parts" "Ljava/util/List;" .null := D11 (Or.inr (hi 48 rfl)) (ty := (.object "java/util/List")) (by decide)
  have yee_ : Fld Z h11 b11 "underdeck/deck/SqlText" "current" "Ljava/lang/StringBuilder;" .null := D11 (Or.inr (hi 68 rfl)) (ty := (.object "java/lang/StringBuilder")) (by decide)
  have ydj_ : Fld Z h11 b11 "underdeck/deck/SqlText" "placeholders" "Ljava/util/List;" .null := D11 (Or.inr (hi 70 rfl)) (ty := (.object "java/util/List")) (by decide)
  have yew_ : Fld Z h11 b11 "underdeck/deck/SqlText" "types" "Ljava/util/Map;" .null := D11 (Or.inr (hi 88 rfl)) (ty := (.object "java/util/Map")) (by decide)
  have yds_ : Fld Z h11 b11 "underdeck/deck/SqlText" "groupLists" "Ljava/util/Map;" .null := D11 (Or.inr (hi 90 rfl)) (ty := (.object "java/util/Map")) (by decide)
  have yex_ : Fld Z h11 b11 "underdeck/deck/SqlText" "names" "Ljava/util/Set;" .null := D11 (Or.inr (hi 111 rfl)) (ty := (.object "java/util/Set")) (by decide)
  have yef_ : Fld Z h11 b11 "underdeck/deck/SqlText" "dialect" "Lunderdeck/deck/Dialect;" .null := D11 (Or.inr (hi 113 rfl)) (ty := (.object "underdeck/deck/Dialect")) (by decide)
  have f9 := ((own_sta_keep ((((yaj_.ext E6).ext E7).wr W8).wr W9) K10 own_q0).ext E11)
  have f10 := ((own_sta_keep f2 K10 own_q0).ext E11)
  obtain ⟨_, _, ⟨T12, L12, k12, n12⟩, -, X12, ⟨Lc12, hQ12, l12, y12, z12⟩, st12⟩ := X11.specialBack hx (y := mN49) rfl hown6 (mvT hZ6 (hi 17 rfl)) (mvT hZ6 (hi 18 rfl)) (mvT hZ6 (hi 19 rfl)) (by decide) (backOf (W := 1) (rm1 l Z a0 hw [] b11 yr_ yg_ .null ya_ .null .null .null .null .null .null h11 n0 (Nat.le_trans (Nat.le_trans (Nat.le_trans (Nat.le_trans (Nat.le_trans (Nat.le_trans Z0 E6.1) E7.1) (Keep.of_wr W8).1) (Keep.of_wr W9).1) K10.1) E11.1) hcs f9 A11 yev_ g_b11 f10 yee_ ydj_ yew_ yds_ yex_ yef_) hZ6 (hi 19 rfl) (hi 16 rfl) (by decide) (by decide)) (g := (mkF m 125 #[vI p1, vI p2, vI p3, vI p4, vI (0 : Int32), vA yr_, vA c6, vI (1 : Int32), vI ((p3 &&& (255 : Int32)).toUInt32.toUInt16.toUInt32.toInt32), vI ((p4 &&& (255 : Int32)).toUInt32.toUInt16.toUInt32.toInt32), vA b7, vA b4_10, vU, vU, vU, vU] [(.ref yr_), (.ref b11), (.ref b11)])) rfl (by rw [hml]; rfl) (Steps.refl _) (a := b11) (argsL := [(.ref yr_)]) (rest := [(.ref b11)]) (lenOf ybm_ rfl) rfl (by show 2 * 0 + _ ≤ _; exact Nat.le_of_eq rfl) (hb hby at_125) (fun _ _ => ⟨rfl, e11, (by decide : 6 + 8 ≤ _), (by decide : 70 + 51 ≤ _)⟩)
  dsimp only [Pt.U, Pt.locs, Pt.cells, Pt.slots] at X12 l12 y12 z12 st12 hQ12
  subst l12 y12 z12
  obtain ⟨b7_12, ⟨ybj_, ⟨b10_12, ⟨ybs_, ⟨rfl, N12q, K12, i12_0, i12_1, i12_2, i12_3, i12_4, i12_5, i12_6, i12_7, i12_8, i12_9, i12_10, i12_11, i12_12, i12_13, i12_14, i12_15, i12_16, i12_17, i12_18, i12_19⟩⟩⟩⟩⟩ := hQ12
  have N12 := Fr.app N10 N12q
  have f11 := (f6.ext E11)
  have f12 := (f7.ext E11)
  have f13 := (i10_3.ext E11)
  have f14 := (i10_6.ext E11)
  have f15 := (f8.ext E11)
  have ych_ : h0.size ≤ b7_12 := Nat.le_trans (Nat.le_trans (Nat.le_trans (Nat.le_trans (Nat.le_trans (Nat.le_trans (Nat.le_trans (Nat.le_refl h0.size) E6.1) E7.1) (Keep.of_wr W8).1) (Keep.of_wr W9).1) K10.1) E11.1) i12_0
  have g_b7_12 : n0 ≤ b7_12 := Nat.le_trans Z0 ych_
  have ybk_ : h0.size ≤ ybj_ := Nat.le_trans (Nat.le_trans (Nat.le_trans (Nat.le_trans (Nat.le_trans (Nat.le_trans (Nat.le_trans (Nat.le_refl h0.size) E6.1) E7.1) (Keep.of_wr W8).1) (Keep.of_wr W9).1) K10.1) E11.1) i12_1
  have ydq_ : n0 ≤ ybj_ := Nat.le_trans Z0 ybk_
  have ygr_ : h0.size ≤ b10_12 := Nat.le_trans (Nat.le_trans (Nat.le_trans (Nat.le_trans (Nat.le_trans (Nat.le_trans (Nat.le_trans (Nat.le_refl h0.size) E6.1) E7.1) (Keep.of_wr W8).1) (Keep.of_wr W9).1) K10.1) E11.1) i12_2
  have ymw_ : n0 ≤ b10_12 := Nat.le_trans Z0 ygr_
  have f16 := ((i10_4.ext E11).keep K12 (own_nm (Nat.ne_of_lt (Nat.lt_of_lt_of_le i10_3.lt (Nat.le_of_eq g11.symm))) own_n0))
  have f17 := ((i10_7.ext E11).keep K12 (own_nm (Nat.ne_of_lt (Nat.lt_of_lt_of_le i10_6.lt (Nat.le_of_eq g11.symm))) own_n0))
  have f18 := (own_sta_keep f10 K12 (own_qc (own_nst A11) own_q0))
  have f19 := ((i10_5.ext E11).keep K12 (own_nm (Nat.ne_of_lt (Nat.lt_of_lt_of_le i10_3.lt (Nat.le_of_eq g11.symm))) own_n0))
  have f20 := (f13.keep K12)
  obtain ⟨cq13, kq13, q13a, q13b, q13c⟩ := isOf hZ6 rfl i12_6
  obtain ⟨_, _, ⟨T13, L13, k13, n13⟩, -, X13, ⟨Lc13, hQ13, l13, y13, z13⟩, st13⟩ := X12.virtualBack hx (y := mN52) (z := mN52) hown6 (mvT hZ6 (hi 114 rfl)) (mvT hZ6 (hi 115 rfl)) (notFace_of_selects (args := #[]) (mvT hZ6 (hi 117 rfl))) (mvT hZ6 (hi 117 rfl)) (mvT hZ6 (hi 116 rfl)) (by decide) (backOf (W := 0) (rm12 l Z a0 hw [] b11 b4_10 b7_12 ybj_ b2_5_10 k2_5_10 (1 : Int32) ([(.int (nar .byte (((p3 &&& (255 : Int32)).toUInt32.toUInt16.toUInt32.toInt32).toInt8.toInt32)))] : List Value) ya_ (0 : Int32) ybs_ (16 : Int32) ((List.replicate 16 (Value.int (0 : Int32))) : List Value) T12.heap n0 (Nat.le_trans (Nat.le_trans (Nat.le_trans (Nat.le_trans (Nat.le_trans (Nat.le_trans (Nat.le_trans Z0 E6.1) E7.1) (Keep.of_wr W8).1) (Keep.of_wr W9).1) K10.1) E11.1) K12.1) hcs i12_7 i12_12 f16 f17 f18 i12_11 i12_15 i12_13 f19 f20 i12_10 ydq_ g_b7_12 (by decide) (by decide) (by decide) (by decide) (by decide) (Nat.le_of_ble_eq_true rfl) i12_3 (Ne.symm i12_3)) hZ6 (hi 118 rfl) (hi 16 rfl) (by decide) (by decide)) q13a q13c (g := (mkF m 134 #[vI p1, vI p2, vI p3, vI p4, vI (0 : Int32), vA yr_, vA c6, vI (1 : Int32), vI ((p3 &&& (255 : Int32)).toUInt32.toUInt16.toUInt32.toInt32), vI ((p4 &&& (255 : Int32)).toUInt32.toUInt16.toUInt32.toInt32), vA b7, vA b4_10, vA b11, vU, vU, vU] [(.ref b4_10), (.ref b11)])) rfl (by rw [hml]; rfl) (Steps.refl _) (argsL := [(.ref b4_10)]) (rest := []) (lenOf yat_ rfl) rfl (by show 2 * 0 + _ ≤ _; exact Nat.le_of_eq rfl) (hb hby at_134) (fun _ _ => ⟨rfl, rfl, (by decide : 14 + 0 ≤ _), (by decide : 121 + 0 ≤ _)⟩)
  dsimp only [Pt.U, Pt.locs, Pt.cells, Pt.slots] at X13 l13 y13 z13 st13 hQ13
  subst l13 y13 z13
  obtain ⟨rfl, N13q, K13, i13_0, i13_1, i13_2, i13_3, i13_4⟩ := hQ13
  have N13 := Fr.app N12 N13q
  have Ui13_0 : Arv Z T13.heap ybj_ ybs_ .byte (16 : Int32) (ls_2 p3) (.int (0 : Int32)) := i13_0
  have Ui13_4 : Fld Z T13.heap b7_12 "java/lang/AbstractStringBuilder" "count" "I" (.int (1 : Int32)) := i13_4
  have f21 := (i12_9.keep K13 (own_nm (Nat.ne_of_lt (Nat.lt_of_lt_of_le A11.lt i12_1)) (own_nm (Nat.ne_of_lt (Nat.lt_of_lt_of_le A11.lt i12_0)) own_n0)))
  have f22 := ((((((((yal_.ext E6).ext E7).other W8 (Or.inl (Nat.ne_of_lt (Nat.lt_of_lt_of_le yal_.lt sz_b7)))).other W9 (Or.inl (Nat.ne_of_lt (Nat.lt_of_lt_of_le yal_.lt sz_b7)))).keep K10 own_n0).ext E11).keep K12 (own_nm (Nat.ne_of_lt (Nat.lt_of_lt_of_le yal_.lt sz_b11)) own_n0)).keep K13 (own_nm (Nat.ne_of_lt (Nat.lt_of_lt_of_le yal_.lt ybk_)) (own_nm (Nat.ne_of_lt (Nat.lt_of_lt_of_le yal_.lt ych_)) own_n0)))
  have f23 := (i12_7.keep K13 (own_nm (Nat.ne_of_lt (Nat.lt_of_lt_of_le A11.lt i12_1)) (own_nm (Nat.ne_of_lt (Nat.lt_of_lt_of_le A11.lt i12_0)) own_n0)))
  have f24 := ((((((((ym_.ext E6).ext E7).other W8 (Or.inl (Nat.ne_of_lt (Nat.lt_of_lt_of_le ym_.lt sz_b7)))).other W9 (Or.inl (Nat.ne_of_lt (Nat.lt_of_lt_of_le ym_.lt sz_b7)))).keep K10 own_n0).ext E11).keep K12 (own_nm (Nat.ne_of_lt (Nat.lt_of_lt_of_le ym_.lt sz_b11)) own_n0)).keep K13 (own_nm (Nat.ne_of_lt (Nat.lt_of_lt_of_le ym_.lt ybk_)) (own_nm (Nat.ne_of_lt (Nat.lt_of_lt_of_le ym_.lt ych_)) own_n0)))
  have f25 := ((((((((yy_.ext E6).ext E7).other W8 (Nat.ne_of_lt (Nat.lt_of_lt_of_le yy_.lt sz_b7))).other W9 (Nat.ne_of_lt (Nat.lt_of_lt_of_le yy_.lt sz_b7))).keep K10 own_n0).ext E11).keep K12 (own_nm (Nat.ne_of_lt (Nat.lt_of_lt_of_le yy_.lt sz_b11)) own_n0)).keep K13 (own_nm (Nat.ne_of_lt (Nat.lt_of_lt_of_le yy_.lt ybk_)) (own_nm (Nat.ne_of_lt (Nat.lt_of_lt_of_le yy_.lt ych_)) own_n0)))
  have f26 := (own_sta_keep f18 K13 (own_qc (own_nst i12_14) (own_qc (own_nst i12_10) own_q0)))
  have f27 := ((((((((ycz_.ext E6).ext E7).wr W8).wr W9).keep K10).ext E11).keep K12).keep K13)
  have f28 := ((((((((yay_.ext E6).ext E7).other W8 (Or.inl (Nat.ne_of_lt (Nat.lt_of_lt_of_le ym_.lt sz_b7)))).other W9 (Or.inl (Nat.ne_of_lt (Nat.lt_of_lt_of_le ym_.lt sz_b7)))).keep K10 own_n0).ext E11).keep K12 (own_nm (Nat.ne_of_lt (Nat.lt_of_lt_of_le ym_.lt sz_b11)) own_n0)).keep K13 (own_nm (Nat.ne_of_lt (Nat.lt_of_lt_of_le ym_.lt ybk_)) (own_nm (Nat.ne_of_lt (Nat.lt_of_lt_of_le ym_.lt ych_)) own_n0)))
  have f29 := ((((((((ybc_.ext E6).ext E7).wr W8).wr W9).keep K10).ext E11).keep K12).keep K13)
  have f30 := (i12_6.keep K13)
  obtain ⟨cq14, kq14, q14a, q14b, q14c⟩ := isOf hZ6 rfl f30
  obtain ⟨_, _, ⟨T14, L14, k14, n14⟩, -, X14, ⟨Lc14, hQ14, l14, y14, z14⟩, st14⟩ := X13.virtualBack hx (y := mN50) (z := mN50) hown6 (mvT hZ6 (hi 169 rfl)) (mvT hZ6 (hi 170 rfl)) (notFace_of_selects (args := #[]) (mvT hZ6 (hi 172 rfl))) (mvT hZ6 (hi 172 rfl)) (mvT hZ6 (hi 171 rfl)) (by decide) (backOf (W := 0) (rm21 l Z a0 hw [] b11 yr_ yp_ b7_12 ybj_ yo_ yt_ (13 : Int32) ((ls_0) : List Value) ya_ (1 : Int32) ybs_ (16 : Int32) ((ls_2 p3) : List Value) T13.heap n0 (Nat.le_trans (Nat.le_trans (Nat.le_trans (Nat.le_trans (Nat.le_trans (Nat.le_trans (Nat.le_trans (Nat.le_trans Z0 E6.1) E7.1) (Keep.of_wr W8).1) (Keep.of_wr W9).1) K10.1) E11.1) K12.1) K13.1) hcs f21 f22 f27 f23 i13_2 f24 f25 f26 Ui13_4 Ui13_0 i13_3 f28 f29 i13_1 ydq_ g_b7_12 f30 (by decide) (by decide) (by decide) (by decide) (by decide) (Nat.le_of_ble_eq_true rfl) i12_3 (Ne.symm i12_3)) hZ6 (hi 173 rfl) (hi 16 rfl) (by decide) (by decide)) q14a q14c (g := (mkF m 141 #[vI p1, vI p2, vI p3, vI p4, vI (0 : Int32), vA yr_, vA c6, vI (1 : Int32), vI ((p3 &&& (255 : Int32)).toUInt32.toUInt16.toUInt32.toInt32), vI ((p4 &&& (255 : Int32)).toUInt32.toUInt16.toUInt32.toInt32), vA b7, vA b4_10, vA b11, vA b11, vU, vU] [(.ref b11)])) rfl (by rw [hml]; rfl) (Steps.refl _) (argsL := []) (rest := []) (lenOf ybo_ rfl) rfl (by show 2 * 0 + _ ≤ _; exact Nat.le_of_eq rfl) (hb hby at_141) (fun _ _ => ⟨rfl, rfl, (by decide : 14 + 0 ≤ _), (by decide : 121 + 0 ≤ _)⟩)
  dsimp only [Pt.U, Pt.locs, Pt.cells, Pt.slots] at X14 l14 y14 z14 st14 hQ14
  subst l14 y14 z14
  obtain ⟨rfl, N14q, K14, i14_0, i14_1, i14_2, i14_3, i14_4⟩ := hQ14
  have N14 := Fr.app N13 N14q
  have f31 := (i12_14.keep K13)
  have Ui14_0 : Arv Z T14.heap ybj_ ybs_ .byte (16 : Int32) (ls_3 p3) (.int (0 : Int32)) := i14_0
  have Ui14_4 : Fld Z T14.heap b7_12 "java/lang/AbstractStringBuilder" "count" "I" (.int (14 : Int32)) := i14_4
  have f32 := ((i12_8.keep K13 (own_nm (Nat.ne_of_lt (Nat.lt_of_lt_of_le A11.lt i12_1)) (own_nm (Nat.ne_of_lt (Nat.lt_of_lt_of_le A11.lt i12_0)) own_n0))).keep K14 (own_nm (Nat.ne_of_lt (Nat.lt_of_lt_of_le A11.lt i12_1)) (own_nm (Nat.ne_of_lt (Nat.lt_of_lt_of_le A11.lt i12_0)) own_n0)))
  have f33 := (f23.keep K14 (own_nm (Nat.ne_of_lt (Nat.lt_of_lt_of_le A11.lt i12_1)) (own_nm (Nat.ne_of_lt (Nat.lt_of_lt_of_le A11.lt i12_0)) own_n0)))
  have f34 := (own_sta_keep f26 K14 (own_qc (own_nst f31) (own_qc (own_nst i13_1) own_q0)))
  have f35 := ((i12_18.keep K13 (own_nm (Ne.symm i12_5) (own_nm (Ne.symm i12_4) own_n0))).keep K14 (own_nm (Ne.symm i12_5) (own_nm (Ne.symm i12_4) own_n0)))
  have f36 := ((i12_16.keep K13).keep K14)
  have f37 := (f30.keep K14)
  obtain ⟨cq15, kq15, q15a, q15b, q15c⟩ := isOf hZ6 rfl f37
  obtain ⟨_, _, ⟨T15, L15, k15, n15⟩, -, X15, ⟨Lc15, hQ15, l15, y15, z15⟩, st15⟩ := X14.virtualBack hx (y := mN51) (z := mN51) hown6 (mvT hZ6 (hi 182 rfl)) (mvT hZ6 (hi 183 rfl)) (notFace_of_selects (args := #[]) (mvT hZ6 (hi 185 rfl))) (mvT hZ6 (hi 185 rfl)) (mvT hZ6 (hi 184 rfl)) (by decide) (backOf (W := 0) (rm23c l Z a0 hw [] b11 b10_12 b7_12 ybj_ (14 : Int32) ya_ ybs_ (16 : Int32) ((ls_3 p3) : List Value) T14.heap n0 (Nat.le_trans (Nat.le_trans (Nat.le_trans (Nat.le_trans (Nat.le_trans (Nat.le_trans (Nat.le_trans (Nat.le_trans (Nat.le_trans Z0 E6.1) E7.1) (Keep.of_wr W8).1) (Keep.of_wr W9).1) K10.1) E11.1) K12.1) K13.1) K14.1) hcs f32 f35 f36 f33 i14_2 Ui14_4 f34 Ui14_0 i14_1 i14_3 (by decide) (by decide) (by decide) (by decide) (by decide) (by decide) (by decide) (by decide) (Nat.le_of_ble_eq_true rfl)) hZ6 (hi 186 rfl) (hi 16 rfl) (by decide) (by decide)) q15a q15c (g := (mkF m 148 #[vI p1, vI p2, vI p3, vI p4, vI (0 : Int32), vA yr_, vA c6, vI (1 : Int32), vI ((p3 &&& (255 : Int32)).toUInt32.toUInt16.toUInt32.toInt32), vI ((p4 &&& (255 : Int32)).toUInt32.toUInt16.toUInt32.toInt32), vA b7, vA b4_10, vA b11, vA b11, vA b11, vU] [(.ref b11)])) rfl (by rw [hml]; rfl) (Steps.refl _) (argsL := []) (rest := []) (lenOf ybh_ rfl) rfl (by show 2 * 0 + _ ≤ _; exact Nat.le_of_eq rfl) (hb hby at_148) (fun _ _ => ⟨rfl, rfl, (by decide : 14 + 2 ≤ _), (by decide : 121 + 21 ≤ _)⟩)
  dsimp only [Pt.U, Pt.locs, Pt.cells, Pt.slots] at X15 l15 y15 z15 st15 hQ15
  subst l15 y15 z15
  obtain ⟨b2_5_15, ⟨ybl_, ⟨ycg_, ⟨rfl, N15q, K15, i15_0, i15_1, i15_2, i15_3, i15_4, i15_5, i15_6, i15_7⟩⟩⟩⟩ := hQ15
  have N15 := Fr.app N14 N15q
  have f38 := (((f11.keep K12).keep K13).keep K14)
  have f39 := (((f12.keep K12).keep K13).keep K14)
  have f40 := ((f20.keep K13).keep K14)
  have f41 := (((f14.keep K12).keep K13).keep K14)
  have f42 := (f31.keep K14)
  have f43 := (((f15.keep K12 (own_nm (Nat.ne_of_lt (Nat.lt_of_lt_of_le f8.lt (Nat.le_of_eq g11.symm))) own_n0)).keep K13 (own_nm (Nat.ne_of_lt (Nat.lt_of_lt_of_le f15.lt i12_1)) (own_nm (Nat.ne_of_lt (Nat.lt_of_lt_of_le f15.lt i12_0)) own_n0))).keep K14 (own_nm (Nat.ne_of_lt (Nat.lt_of_lt_of_le f15.lt i12_1)) (own_nm (Nat.ne_of_lt (Nat.lt_of_lt_of_le f15.lt i12_0)) own_n0)))
  have ygb_ : h0.size ≤ b2_5_15 := Nat.le_trans (Nat.le_trans (Nat.le_trans (Nat.le_trans (Nat.le_trans (Nat.le_trans (Nat.le_trans (Nat.le_trans (Nat.le_trans (Nat.le_trans (Nat.le_refl h0.size) E6.1) E7.1) (Keep.of_wr W8).1) (Keep.of_wr W9).1) K10.1) E11.1) K12.1) K13.1) K14.1) i15_0
  have ylo_ : n0 ≤ b2_5_15 := Nat.le_trans Z0 ygb_
  have yeb_ : h0.size ≤ ybl_ := Nat.le_trans (Nat.le_trans (Nat.le_trans (Nat.le_trans (Nat.le_trans (Nat.le_trans (Nat.le_trans (Nat.le_trans (Nat.le_trans (Nat.le_trans (Nat.le_refl h0.size) E6.1) E7.1) (Keep.of_wr W8).1) (Keep.of_wr W9).1) K10.1) E11.1) K12.1) K13.1) K14.1) i15_1
  have yja_ : n0 ≤ ybl_ := Nat.le_trans Z0 yeb_
  have Ui15_7 : Arv Z T15.heap ybl_ ycg_ .byte (14 : Int32) (ls_4 p3) (.int (0 : Int32)) := i15_7
  have f44 := (own_sta_keep f34 K15 own_q0)
  obtain ⟨cq16, kq16, q16a, q16b, q16c⟩ := isOf hZ6 rfl i15_3
  obtain ⟨_, _, ⟨T16, L16, k16, n16⟩, -, X16, ⟨Lc16, hQ16, l16, y16, z16⟩, st16⟩ := X15.virtualBack hx (y := mN21) (z := mN21) hown6 (mvT hZ6 (hi 245 rfl)) (mvT hZ6 (hi 130 rfl)) (notFace_of_selects (args := #[]) (mvT hZ6 (hi 132 rfl))) (mvT hZ6 (hi 132 rfl)) (mvT hZ6 (hi 131 rfl)) (by decide) (backOf (W := 0) (rm15 l Z a0 hw [] b2_5_15 ybl_ ycg_ (14 : Int32) ((ls_4 p3) : List Value) ya_ (0 : Int32) T15.heap n0 (Nat.le_trans (Nat.le_trans (Nat.le_trans (Nat.le_trans (Nat.le_trans (Nat.le_trans (Nat.le_trans (Nat.le_trans (Nat.le_trans (Nat.le_trans Z0 E6.1) E7.1) (Keep.of_wr W8).1) (Keep.of_wr W9).1) K10.1) E11.1) K12.1) K13.1) K14.1) K15.1) hcs i15_5 Ui15_7 f44 i15_4 i15_3) hZ6 (hi 133 rfl) (hi 4 rfl) (by decide) (by decide)) q16a q16c (g := (mkF m 169 #[vI p1, vI p2, vI p3, vI p4, vI (0 : Int32), vA yr_, vA c6, vI (1 : Int32), vI ((p3 &&& (255 : Int32)).toUInt32.toUInt16.toUInt32.toInt32), vI ((p4 &&& (255 : Int32)).toUInt32.toUInt16.toUInt32.toInt32), vA b7, vA b4_10, vA b11, vA b11, vA b11, vA b2_5_15] [(.ref b2_5_15)])) rfl (by rw [hml]; rfl) (Steps.refl _) (argsL := []) (rest := []) (lenOf ycf_ rfl) rfl (by show 2 * 0 + _ ≤ _; exact Nat.le_of_eq rfl) (hb hby at_169) (fun _ _ => ⟨rfl, rfl, (by decide : 16 + 0 ≤ _), (by decide : 142 + 0 ≤ _)⟩)
  dsimp only [Pt.U, Pt.locs, Pt.cells, Pt.slots] at X16 l16 y16 z16 st16 hQ16
  subst l16 y16 z16
  obtain ⟨rfl, N16q, e16⟩ := hQ16
  have N16 := Fr.app N15 N16q
  have f45 := (((((((((iV6.ext E7).other W8 (Or.inl (Nat.ne_of_lt (Nat.lt_of_lt_of_le iE6.lt (Nat.le_of_eq g7.symm))))).other W9 (Or.inl (Nat.ne_of_lt (Nat.lt_of_lt_of_le iE6.lt (Nat.le_of_eq g7.symm))))).keep K10 own_n0).ext E11).keep K12 (own_nm (Nat.ne_of_lt (Nat.lt_of_lt_of_le f6.lt (Nat.le_of_eq g11.symm))) own_n0)).keep K13 (own_nm (Nat.ne_of_lt (Nat.lt_of_lt_of_le f11.lt i12_1)) (own_nm (Nat.ne_of_lt (Nat.lt_of_lt_of_le f11.lt i12_0)) own_n0))).keep K14 (own_nm (Nat.ne_of_lt (Nat.lt_of_lt_of_le f11.lt i12_1)) (own_nm (Nat.ne_of_lt (Nat.lt_of_lt_of_le f11.lt i12_0)) own_n0))).keep K15 own_n0)
  have f46 := (f43.keep K15 own_n0)
  have f47 := (((((((((iC6.ext E7).other W8 (Or.inl (Nat.ne_of_lt (Nat.lt_of_lt_of_le iE6.lt (Nat.le_of_eq g7.symm))))).other W9 (Or.inl (Nat.ne_of_lt (Nat.lt_of_lt_of_le iE6.lt (Nat.le_of_eq g7.symm))))).keep K10 own_n0).ext E11).keep K12 (own_nm (Nat.ne_of_lt (Nat.lt_of_lt_of_le f6.lt (Nat.le_of_eq g11.symm))) own_n0)).keep K13 (own_nm (Nat.ne_of_lt (Nat.lt_of_lt_of_le f11.lt i12_1)) (own_nm (Nat.ne_of_lt (Nat.lt_of_lt_of_le f11.lt i12_0)) own_n0))).keep K14 (own_nm (Nat.ne_of_lt (Nat.lt_of_lt_of_le f11.lt i12_1)) (own_nm (Nat.ne_of_lt (Nat.lt_of_lt_of_le f11.lt i12_0)) own_n0))).keep K15 own_n0)
  have f48 := (f38.keep K15)
  obtain ⟨cq17, kq17, q17a, q17b, q17c⟩ := isOf hZ6 e16 f48
  obtain ⟨_, _, ⟨T17, L17, k17, n17⟩, -, X17, ⟨Lc17, hQ17, l17, y17, z17⟩, st17⟩ := X16.virtualBack hx (y := mN21) (z := mN21) hown6 (mvT hZ6 (hi 245 rfl)) (mvT hZ6 (hi 130 rfl)) (notFace_of_selects (args := #[]) (mvT hZ6 (hi 132 rfl))) (mvT hZ6 (hi 132 rfl)) (mvT hZ6 (hi 131 rfl)) (by decide) (backOf (W := 2) (rm15 l Z a0 hw [] c6 b6 kb6 (13 : Int32) ((ls_0) : List Value) ya_ (0 : Int32) T15.heap n0 (Nat.le_trans (Nat.le_trans (Nat.le_trans (Nat.le_trans (Nat.le_trans (Nat.le_trans (Nat.le_trans (Nat.le_trans (Nat.le_trans (Nat.le_trans Z0 E6.1) E7.1) (Keep.of_wr W8).1) (Keep.of_wr W9).1) K10.1) E11.1) K12.1) K13.1) K14.1) K15.1) hcs f45 f46 f44 f47 f48) hZ6 (hi 133 rfl) (hi 4 rfl) (by decide) (by decide)) q17a q17c (g := (mkF m 176 #[vI p1, vI p2, vI p3, vI p4, vI (0 : Int32), vA yr_, vA c6, vI (1 : Int32), vI ((p3 &&& (255 : Int32)).toUInt32.toUInt16.toUInt32.toInt32), vI ((p4 &&& (255 : Int32)).toUInt32.toUInt16.toUInt32.toInt32), vA b7, vA b4_10, vA b11, vA b11, vA b11, vA b2_5_15] [(.ref c6), (.int (1 : Int32)), (.int (14 : Int32))])) rfl (by rw [hml]; rfl) (Steps.refl _) (argsL := []) (rest := [(.int (1 : Int32)), (.int (14 : Int32))]) (lenOf ycf_ rfl) rfl (by show 2 * 0 + _ ≤ _; exact Nat.le_of_eq rfl) (hb hby at_176) (fun _ _ => ⟨rfl, e16, (by decide : 16 + 0 ≤ _), (by decide : 142 + 0 ≤ _)⟩)
  dsimp only [Pt.U, Pt.locs, Pt.cells, Pt.slots] at X17 l17 y17 z17 st17 hQ17
  subst l17 y17 z17
  obtain ⟨rfl, N17q, e17⟩ := hQ17
  have N17 := Fr.app N16 N17q
  have f49 := (own_sta_keep (own_sta_keep (own_sta_keep (own_sta_keep ((own_sta_keep ((((yx_.ext E6).ext E7).wr W8).wr W9) K10 own_q0).ext E11) K12 (own_qc (own_nst A11) own_q0)) K13 (own_qc (own_nst i12_14) (own_qc (own_nst i12_10) own_q0))) K14 (own_qc (own_nst f31) (own_qc (own_nst i13_1) own_q0))) K15 own_q0)
  obtain ⟨cq18, kq18, q18a, q18b, q18c⟩ := isOf hZ6 e17 i15_3
  obtain ⟨_, _, ⟨T18, L18, k18, n18⟩, -, X18, ⟨Lc18, hQ18, l18, y18, z18⟩, st18⟩ := X17.virtualBack hx (y := mN16) (z := mN16) hown6 (mvT hZ6 (hi 253 rfl)) (mvT hZ6 (hi 254 rfl)) (notFace_of_selects (args := #[]) (mvT hZ6 (hi 256 rfl))) (mvT hZ6 (hi 256 rfl)) (mvT hZ6 (hi 255 rfl)) (by decide) (backOf (W := 0) (rm38 l Z a0 hw [] b2_5_15 (0 : Int32) ya_ ybl_ ycg_ (14 : Int32) ((ls_4 p3) : List Value) yb_ (nar .byte (((p3 &&& (255 : Int32)).toUInt32.toUInt16.toUInt32.toInt32).toInt8.toInt32)) T15.heap n0 (Nat.le_trans (Nat.le_trans (Nat.le_trans (Nat.le_trans (Nat.le_trans (Nat.le_trans (Nat.le_trans (Nat.le_trans (Nat.le_trans (Nat.le_trans Z0 E6.1) E7.1) (Keep.of_wr W8).1) (Keep.of_wr W9).1) K10.1) E11.1) K12.1) K13.1) K14.1) K15.1) hcs hsv f44 i15_4 i15_3 i15_5 Ui15_7 f49 (by decide) (by decide) (by decide) rfl) hZ6 (hi 257 rfl) (hi 4 rfl) (by decide) (by decide)) q18a q18c (g := (mkF m 192 #[vI p1, vI p2, vI p3, vI p4, vI (0 : Int32), vA yr_, vA c6, vI (1 : Int32), vI ((p3 &&& (255 : Int32)).toUInt32.toUInt16.toUInt32.toInt32), vI ((p4 &&& (255 : Int32)).toUInt32.toUInt16.toUInt32.toInt32), vA b7, vA b4_10, vA b11, vA b11, vA b11, vA b2_5_15] [(.int (0 : Int32)), (.ref b2_5_15)])) rfl (by rw [hml]; rfl) (Steps.refl _) (argsL := [(.int (0 : Int32))]) (rest := []) (lenOf yel_ rfl) rfl (by show 2 * 0 + _ ≤ _; exact Nat.le_of_eq rfl) (hb hby at_192) (fun _ _ => ⟨rfl, e17, (by decide : 16 + 0 ≤ _), (by decide : 142 + 0 ≤ _)⟩)
  dsimp only [Pt.U, Pt.locs, Pt.cells, Pt.slots] at X18 l18 y18 z18 st18 hQ18
  subst l18 y18 z18
  obtain ⟨rfl, N18q, e18⟩ := hQ18
  have N18 := Fr.app N17 N18q
  obtain ⟨_, _, ⟨T19, L19, k19, n19⟩, -, X19, ⟨Lc19, hQ19, l19, y19, z19⟩, st19⟩ := Jvm.LawKit.callS X18 hx (y := mN54) hown6 (mvT hZ6 (hi 246 rfl)) (mvT hZ6 (hi 247 rfl)) (mvT hZ6 (hi 248 rfl)) (mvT hZ6 (hi 249 rfl)) (by decide) (backOf (W := 0) (rm36_13 l Z a0 hw [] b2_5_15 (1 : Int32) c6 b6 ya_ ybl_ ycg_ (14 : Int32) ((ls_4 p3) : List Value) yb_ kb6 ((ls_0) : List Value) (32 : Int32) (40 : Int32) (41 : Int32) (32 : Int32) (118 : Int32) (97 : Int32) (108 : Int32) (117 : Int32) (101 : Int32) (115 : Int32) (32 : Int32) (40 : Int32) (41 : Int32) T15.heap n0 (Nat.le_trans (Nat.le_trans (Nat.le_trans (Nat.le_trans (Nat.le_trans (Nat.le_trans (Nat.le_trans (Nat.le_trans (Nat.le_trans (Nat.le_trans Z0 E6.1) E7.1) (Keep.of_wr W8).1) (Keep.of_wr W9).1) K10.1) E11.1) K12.1) K13.1) K14.1) K15.1) hcs hsv f45 f44 i15_5 Ui15_7 f49 f47 f48 i15_4 i15_3 f46 (by decide) (by decide) (by decide) rfl rfl (by decide) (by decide) (by decide) rfl rfl (by decide) (by decide) (by decide) rfl rfl (by decide) (by decide) (by decide) rfl rfl (by decide) (by decide) (by decide) rfl rfl (by decide) (by decide) (by decide) rfl rfl (by decide) (by decide) (by decide) rfl rfl (by decide) (by decide) (by decide) rfl rfl (by decide) (by decide) (by decide) rfl rfl (by decide) (by decide) (by decide) rfl rfl (by decide) (by decide) (by decide) rfl rfl (by decide) (by decide) (by decide) rfl rfl (by decide) (by decide) (by decide) rfl rfl) hZ6 (hi 249 rfl) (hi 248 rfl) (by decide) (by decide)) (g := (mkF m 223 #[vI p1, vI p2, vI p3, vI p4, vI (0 : Int32), vA yr_, vA c6, vI (1 : Int32), vI ((p3 &&& (255 : Int32)).toUInt32.toUInt16.toUInt32.toInt32), vI ((p4 &&& (255 : Int32)).toUInt32.toUInt16.toUInt32.toInt32), vA b7, vA b4_10, vA b11, vA b11, vA b11, vA b2_5_15] [(.ref c6), (.int (1 : Int32)), (.ref b2_5_15)])) rfl (by rw [hml]; rfl) (argsL := [(.ref b2_5_15), (.int (1 : Int32)), (.ref c6)]) (rest := []) (lenOf ybd_ rfl) rfl (by show 2 * 0 + _ ≤ _; exact Nat.le_of_eq rfl) (hb hby at_223) (fun _ _ => ⟨rfl, e18, (by decide : 16 + 0 ≤ _), (by decide : 142 + 0 ≤ _)⟩)
  dsimp only [Pt.U, Pt.locs, Pt.cells, Pt.slots] at X19 l19 y19 z19 st19 hQ19
  subst l19 y19 z19
  obtain ⟨rfl, N19q, e19⟩ := hQ19
  have N19 := Fr.app N18 N19q
  obtain ⟨fs, hr, hrun, hended, hw1, hw2, hw3, hw4⟩ := X19.leaveW hS6 (show _ ≤ T19.heap.size from by rw [e19]; exact (Nat.le_trans (Nat.le_trans (Nat.le_trans (Nat.le_trans (Nat.le_trans (Nat.le_trans (Nat.le_trans (Nat.le_trans (Nat.le_trans hk6 E7.1) (Keep.of_wr W8).1) (Keep.of_wr W9).1) K10.1) E11.1) K12.1) K13.1) K14.1) K15.1)) (v := some (.int (1 : Int32))) (fun h => by rw [Bd.returns] at h; cases h)
  refine ⟨_, _, castTop (ef_0 m p1 p2 p3 p4) ?_, hrun, hended, _, _, rfl, ?_, hw1, hw2, hw3, hw4.mono (by decide) (by decide)⟩
  · show Steps p.tables e below (s₁.setTop (mkF m 0 #[vI p1, vI p2, vI p3, vI p4, vU, vU, vU, vU, vU, vU, vU, vU, vU, vU, vU, vU] [])) _
    refine XS.iloadN X0.here hx rfl (hb hby at_0) rfl ?_
    refine XS.iconst X0.here hx rfl (hb hby at_1) ?_
    refine XS.iand X0.here hx rfl (hb hby at_2) rfl ?_
    refine XS.ifYes X0.here hx rfl (pc0 := 3) (pc' := 10) rfl (hb hby at_3) rfl ((if0 _ _).trans (feq hc3).2) (by decide) (by decide) ?_
    refine XS.iconst X0.here hx rfl (hb hby at_10) ?_
    refine XS.istore X0.here hx rfl (hb hby at_11) rfl (l' := #[vI p1, vI p2, vI p3, vI p4, vI (0 : Int32), vU, vU, vU, vU, vU, vU, vU, vU, vU, vU, vU]) rfl ?_
    refine XS.iload X0.here hx rfl (hb hby at_13) rfl ?_
    refine XS.ifYes X0.here hx rfl (pc0 := 15) (pc' := 24) rfl (hb hby at_15) rfl ((if0 _ _).trans (teq (rfl : (0 : Int32) = (0 : Int32))).1) (by decide) (by decide) ?_
    refine st5 _ ?_
    refine XS.astore X5.here hx rfl (hb hby at_27) rfl rfl (l' := #[vI p1, vI p2, vI p3, vI p4, vI (0 : Int32), vA yr_, vU, vU, vU, vU, vU, vU, vU, vU, vU, vU]) rfl ?_
    refine XS.iload X5.here hx rfl (hb hby at_29) rfl ?_
    refine XS.ifYes X5.here hx rfl (pc0 := 31) (pc' := 39) rfl (hb hby at_31) rfl ((if0 _ _).trans (teq (rfl : (0 : Int32) = (0 : Int32))).1) (by decide) (by decide) ?_
    refine st6 _ ?_
    refine XS.astore X6.here hx rfl (hb hby at_41) rfl rfl (l' := #[vI p1, vI p2, vI p3, vI p4, vI (0 : Int32), vA yr_, vA c6, vU, vU, vU, vU, vU, vU, vU, vU, vU]) rfl ?_
    refine XS.iloadN X6.here hx rfl (hb hby at_43) rfl ?_
    refine X6.ldcInt hx hown6 (mvT hZ6 (hi 11 rfl)) (g := (mkF m 44 #[vI p1, vI p2, vI p3, vI p4, vI (0 : Int32), vA yr_, vA c6, vU, vU, vU, vU, vU, vU, vU, vU, vU] [(.int p2)])) rfl (hb hby at_44) _ ?_
    refine XS.iand X6.here hx rfl (hb hby at_46) rfl ?_
    refine XS.iconst X6.here hx rfl (hb hby at_47) ?_
    refine XS.irem X6.here hx rfl (hb hby at_48) rfl (by decide) ?_
    refine XS.istore X6.here hx rfl (hb hby at_49) rfl (l' := #[vI p1, vI p2, vI p3, vI p4, vI (0 : Int32), vA yr_, vA c6, vI (t0_0 p2), vU, vU, vU, vU, vU, vU, vU, vU]) rfl ?_
    refine XS.iloadN X6.here hx rfl (hb hby at_51) rfl ?_
    refine XS.sipush X6.here hx rfl (hb hby at_52) ?_
    refine XS.iand X6.here hx rfl (hb hby at_55) rfl ?_
    refine XS.i2c X6.here hx rfl (hb hby at_56) rfl ?_
    refine XS.istore X6.here hx rfl (hb hby at_57) rfl (l' := #[vI p1, vI p2, vI p3, vI p4, vI (0 : Int32), vA yr_, vA c6, vI (t0_0 p2), vI ((p3 &&& (255 : Int32)).toUInt32.toUInt16.toUInt32.toInt32), vU, vU, vU, vU, vU, vU, vU]) rfl ?_
    refine XS.iloadN X6.here hx rfl (hb hby at_59) rfl ?_
    refine XS.sipush X6.here hx rfl (hb hby at_60) ?_
    refine XS.iand X6.here hx rfl (hb hby at_63) rfl ?_
    refine XS.i2c X6.here hx rfl (hb hby at_64) rfl ?_
    refine XS.istore X6.here hx rfl (hb hby at_65) rfl (l' := #[vI p1, vI p2, vI p3, vI p4, vI (0 : Int32), vA yr_, vA c6, vI (t0_0 p2), vI ((p3 &&& (255 : Int32)).toUInt32.toUInt16.toUInt32.toInt32), vI ((p4 &&& (255 : Int32)).toUInt32.toUInt16.toUInt32.toInt32), vU, vU, vU, vU, vU, vU]) rfl ?_
    refine XS.iconst X6.here hx rfl (hb hby at_67) ?_
    refine st7 _ ?_
    refine XS.astore X7.here hx rfl (hb hby at_70) rfl rfl (l' := #[vI p1, vI p2, vI p3, vI p4, vI (0 : Int32), vA yr_, vA c6, vI (t0_0 p2), vI ((p3 &&& (255 : Int32)).toUInt32.toUInt16.toUInt32.toInt32), vI ((p4 &&& (255 : Int32)).toUInt32.toUInt16.toUInt32.toInt32), vA b7, vU, vU, vU, vU, vU]) rfl ?_
    refine XS.aload X7.here hx rfl (hb hby at_72) rfl rfl ?_
    refine XS.iconst X7.here hx rfl (hb hby at_74) ?_
    refine XS.iload X7.here hx rfl (hb hby at_75) rfl ?_
    refine st8 _ ?_
    refine XS.aload X8.here hx rfl (hb hby at_78) rfl rfl ?_
    refine XS.iconst X8.here hx rfl (hb hby at_80) ?_
    refine XS.iload X8.here hx rfl (hb hby at_81) rfl ?_
    refine st9 _ ?_
    refine XS.iload X9.here hx rfl (hb hby at_84) rfl ?_
    refine XS.ifYes X9.here hx rfl (pc0 := 86) (pc' := 94) rfl (hb hby at_86) rfl ((if0 _ _).trans (feq hc86).2) (by decide) (by decide) ?_
    refine XS.iload X9.here hx rfl (hb hby at_94) rfl ?_
    refine XS.iconst X9.here hx rfl (hb hby at_96) ?_
    refine XS.icmpNo X9.here hx rfl (hb hby at_97) rfl (teq hc97).2 ?_
    show Steps p.tables e below (T9.setTop (mkF m 100 #[vI p1, vI p2, vI p3, vI p4, vI (0 : Int32), vA yr_, vA c6, vI (t0_0 p2), vI ((p3 &&& (255 : Int32)).toUInt32.toUInt16.toUInt32.toInt32), vI ((p4 &&& (255 : Int32)).toUInt32.toUInt16.toUInt32.toInt32), vA b7, vU, vU, vU, vU, vU] [])) _
    rw [show (t0_0 p2) = (1 : Int32) from hc97]
    refine XS.iload X9.here hx rfl (hb hby at_100) rfl ?_
    refine st10 _ ?_
    refine XS.goto X10.here hx rfl (pc0 := 105) (pc' := 117) rfl (hb hby at_105) (by decide) (by decide) ?_
    refine XS.astore X10.here hx rfl (hb hby at_117) rfl rfl (l' := #[vI p1, vI p2, vI p3, vI p4, vI (0 : Int32), vA yr_, vA c6, vI (1 : Int32), vI ((p3 &&& (255 : Int32)).toUInt32.toUInt16.toUInt32.toInt32), vI ((p4 &&& (255 : Int32)).toUInt32.toUInt16.toUInt32.toInt32), vA b7, vA b4_10, vU, vU, vU, vU]) rfl ?_
    refine st11 _ ?_
    refine XS.dup X11.here hx rfl (hb hby at_122) rfl rfl ?_
    refine XS.aload X11.here hx rfl (hb hby at_123) rfl rfl ?_
    refine st12.trans ?_
    refine XS.astore X12.here hx rfl (hb hby at_128) rfl rfl (l' := #[vI p1, vI p2, vI p3, vI p4, vI (0 : Int32), vA yr_, vA c6, vI (1 : Int32), vI ((p3 &&& (255 : Int32)).toUInt32.toUInt16.toUInt32.toInt32), vI ((p4 &&& (255 : Int32)).toUInt32.toUInt16.toUInt32.toInt32), vA b7, vA b4_10, vA b11, vU, vU, vU]) rfl ?_
    refine XS.aload X12.here hx rfl (hb hby at_130) rfl rfl ?_
    refine XS.aload X12.here hx rfl (hb hby at_132) rfl rfl ?_
    refine st13.trans ?_
    refine XS.astore X13.here hx rfl (hb hby at_137) rfl rfl (l' := #[vI p1, vI p2, vI p3, vI p4, vI (0 : Int32), vA yr_, vA c6, vI (1 : Int32), vI ((p3 &&& (255 : Int32)).toUInt32.toUInt16.toUInt32.toInt32), vI ((p4 &&& (255 : Int32)).toUInt32.toUInt16.toUInt32.toInt32), vA b7, vA b4_10, vA b11, vA b11, vU, vU]) rfl ?_
    refine XS.aload X13.here hx rfl (hb hby at_139) rfl rfl ?_
    refine st14.trans ?_
    refine XS.astore X14.here hx rfl (hb hby at_144) rfl rfl (l' := #[vI p1, vI p2, vI p3, vI p4, vI (0 : Int32), vA yr_, vA c6, vI (1 : Int32), vI ((p3 &&& (255 : Int32)).toUInt32.toUInt16.toUInt32.toInt32), vI ((p4 &&& (255 : Int32)).toUInt32.toUInt16.toUInt32.toInt32), vA b7, vA b4_10, vA b11, vA b11, vA b11, vU]) rfl ?_
    refine XS.aload X14.here hx rfl (hb hby at_146) rfl rfl ?_
    refine st15.trans ?_
    refine XS.astore X15.here hx rfl (hb hby at_151) rfl rfl (l' := #[vI p1, vI p2, vI p3, vI p4, vI (0 : Int32), vA yr_, vA c6, vI (1 : Int32), vI ((p3 &&& (255 : Int32)).toUInt32.toUInt16.toUInt32.toInt32), vI ((p4 &&& (255 : Int32)).toUInt32.toUInt16.toUInt32.toInt32), vA b7, vA b4_10, vA b11, vA b11, vA b11, vA b2_5_15]) rfl ?_
    refine XS.aload X15.here hx rfl (hb hby at_153) rfl rfl ?_
    refine XS.aload X15.here hx rfl (hb hby at_155) rfl rfl ?_
    refine Jvm.RoadKit.acmp (g := (mkF m 157 #[vI p1, vI p2, vI p3, vI p4, vI (0 : Int32), vA yr_, vA c6, vI (1 : Int32), vI ((p3 &&& (255 : Int32)).toUInt32.toUInt16.toUInt32.toInt32), vI ((p4 &&& (255 : Int32)).toUInt32.toUInt16.toUInt32.toInt32), vA b7, vA b4_10, vA b11, vA b11, vA b11, vA b2_5_15] [(.ref b11), (.ref b11)])) X15 hx rfl rfl rfl (pc0 := 157) (pc' := 160) (same := true) rfl (hb hby at_157) rfl (decide_eq_true rfl) (by decide) (by decide) ?_
    refine XS.aload X15.here hx rfl (hb hby at_160) rfl rfl ?_
    refine XS.aload X15.here hx rfl (hb hby at_162) rfl rfl ?_
    refine Jvm.RoadKit.acmp (g := (mkF m 164 #[vI p1, vI p2, vI p3, vI p4, vI (0 : Int32), vA yr_, vA c6, vI (1 : Int32), vI ((p3 &&& (255 : Int32)).toUInt32.toUInt16.toUInt32.toInt32), vI ((p4 &&& (255 : Int32)).toUInt32.toUInt16.toUInt32.toInt32), vA b7, vA b4_10, vA b11, vA b11, vA b11, vA b2_5_15] [(.ref b11), (.ref b11)])) X15 hx rfl rfl rfl (pc0 := 164) (pc' := 167) (same := true) rfl (hb hby at_164) rfl (decide_eq_true rfl) (by decide) (by decide) ?_
    refine XS.aload X15.here hx rfl (hb hby at_167) rfl rfl ?_
    refine st16.trans ?_
    refine XS.iload X16.here hx rfl (hb hby at_172) rfl ?_
    refine XS.aload X16.here hx rfl (hb hby at_174) rfl rfl ?_
    refine st17.trans ?_
    refine XS.iadd X17.here hx rfl (hb hby at_179) rfl ?_
    refine XS.icmpNo X17.here hx rfl (hb hby at_180) rfl (teq (rfl : (14 : Int32) = (14 : Int32))).2 ?_
    refine XS.iload X17.here hx rfl (hb hby at_183) rfl ?_
    refine XS.iconst X17.here hx rfl (hb hby at_185) ?_
    refine XS.icmpNo X17.here hx rfl (hb hby at_186) rfl (flt (fun q => Int32.lt_irrefl q : ¬ ((1 : Int32) < (1 : Int32)))).1 ?_
    refine XS.aload X17.here hx rfl (hb hby at_189) rfl rfl ?_
    refine XS.iconst X17.here hx rfl (hb hby at_191) ?_
    refine st18.trans ?_
    refine XS.iload X18.here hx rfl (hb hby at_195) rfl ?_
    refine XS.icmpNo X18.here hx rfl (hb hby at_197) rfl (teq (show (t0_1 p3) = ((p3 &&& (255 : Int32)).toUInt32.toUInt16.toUInt32.toInt32) from own_chr1 p3)).2 ?_
    refine XS.iload X18.here hx rfl (hb hby at_200) rfl ?_
    refine XS.iconst X18.here hx rfl (hb hby at_202) ?_
    refine XS.icmpYes X18.here hx rfl (pc0 := 203) (pc' := 217) rfl (hb hby at_203) rfl (tlt (by decide : (1 : Int32) < (2 : Int32))).1 (by decide) (by decide) ?_
    refine XS.aload X18.here hx rfl (hb hby at_217) rfl rfl ?_
    refine XS.iload X18.here hx rfl (hb hby at_219) rfl ?_
    refine XS.aload X18.here hx rfl (hb hby at_221) rfl rfl ?_
    refine st19 _ ?_
    refine XS.ifNo X19.here hx rfl (hb hby at_226) rfl ((if0 _ _).trans (feq (by decide : ¬ ((1 : Int32) = (0 : Int32)))).1) ?_
    refine XS.iconst X19.here hx rfl (hb hby at_229) ?_
    refine XS.goto X19.here hx rfl (pc0 := 230) (pc' := 234) rfl (hb hby at_230) (by decide) (by decide) ?_
    show Steps p.tables e below (T19.setTop (mkF m 234 #[vI p1, vI p2, vI p3, vI p4, vI (0 : Int32), vA yr_, vA c6, vI (1 : Int32), vI ((p3 &&& (255 : Int32)).toUInt32.toUInt16.toUInt32.toInt32), vI ((p4 &&& (255 : Int32)).toUInt32.toUInt16.toUInt32.toInt32), vA b7, vA b4_10, vA b11, vA b11, vA b11, vA b2_5_15] [(.int (1 : Int32))])) _
    exact retN X19 hx (t := .boolean) Bd.returns (by simp) (hb hby at_234) hr
  · show Q_rm0 Z p1 p2 p3 p4 yr_ yg_ ya_ yp_ yo_ yb_ yt_ yi_ yk_ yl_ yq_ h0 n0 _ T19.heap _
    exact ⟨rfl, N19⟩
set_option maxRecDepth 65536 in
set_option maxHeartbeats 40000000 in
theorem rm0_ttt (l : Launch) (Z : State) (a0 : Array Value) (hw : ∀ d ∈ tables_1, d.before a0 Z = true) (ws : List Jvm.Cond) (p1 : Int32) (p2 : Int32) (p3 : Int32) (p4 : Int32) (yr_ : Addr) (yg_ : Addr) (ya_ : Int32) (yp_ : Addr) (yo_ : Addr) (yb_ : Value) (yt_ : ClassId) (yi_ : Addr) (yk_ : Addr) (yl_ : Addr) (yq_ : ClassId) (h0 : Heap) (n0 : Nat) (Z0 : n0 ≤ h0.size) (hcs : ¬ (ya_ = (0 : Int32))) (hsv : yb_.isRef = true) (ydh_ : Sta Z h0 "underdeck/deck/Dialect" "MARIADB" "Lunderdeck/deck/Dialect;" (.ref yr_)) (yaj_ : Sta Z h0 "java/util/ArrayList" "DEFAULTCAPACITY_EMPTY_ELEMENTDATA" "[Ljava/lang/Object;" (.ref yg_)) (yf_ : Sta Z h0 "java/lang/String" "COMPACT_STRINGS" "Z" (.int ya_)) (yal_ : Fld Z h0 yr_ "underdeck/deck/Dialect" "defaultsOnly" "Ljava/lang/String;" (.ref yp_)) (ym_ : Fld Z h0 yp_ "java/lang/String" "value" "[B" (.ref yo_)) (ycz_ : Exa Z h0 yr_ "underdeck/deck/Dialect") (yay_ : Fld Z h0 yp_ "java/lang/String" "coder" "B" (.int (0 : Int32))) (ybc_ : Exa Z h0 yp_ "java/lang/String") (yx_ : Sta Z h0 "jdk/internal/util/Preconditions" "SIOOBE_FORMATTER" "Ljava/util/function/BiFunction;" yb_) (yy_ : Arv Z h0 yo_ yt_ .byte (13 : Int32) (ls_0) (.int (0 : Int32))) (ycl_ : Sta Z h0 "underdeck/deck/Dialect" "POSTGRESQL" "Lunderdeck/deck/Dialect;" (.ref yi_)) (yah_ : Fld Z h0 yi_ "underdeck/deck/Dialect" "defaultsOnly" "Ljava/lang/String;" (.ref yk_)) (yj_ : Fld Z h0 yk_ "java/lang/String" "value" "[B" (.ref yl_)) (ycb_ : Exa Z h0 yi_ "underdeck/deck/Dialect") (yau_ : Fld Z h0 yk_ "java/lang/String" "coder" "B" (.int (0 : Int32))) (yba_ : Exa Z h0 yk_ "java/lang/String") (yu_ : Arv Z h0 yl_ yq_ .byte (15 : Int32) (ls_8) (.int (0 : Int32))) (hc3 : ¬ ((p1 &&& (1 : Int32)) = (0 : Int32))) (hc86 : ¬ ((t0_0 p2) = (0 : Int32))) (hc97 : ¬ ((t0_0 p2) = (1 : Int32))) :
    MetFree l x (head1 (Jvm.Cond.code x code maxLocals ret :: ws) room_1) (fun a U => a = #[(.int p1), (.int p2), (.int p3), (.int p4)] ∧ Z.Warmed39 U.vm ∧ U.heap = h0 ∧ CHv Z consts_1 U.vm h0) (fun _ _ _ _ _ => True) (fun _ U o U' => ∃ v L, o = .returned v ∧ Q_rm0 Z p1 p2 p3 p4 yr_ yg_ ya_ yp_ yo_ yb_ yt_ yi_ yk_ yl_ yq_ h0 n0 v U'.heap L ∧ ReturnedEndW U o U' L room_1.cells room_1.slots) := by
  have hi : ∀ (i : Nat) {d : Jvm.Cond}, tables_1[i]? = some d → d.before a0 Z = true := fun i d h => hw d (List.mem_of_getElem? h)
  refine MetFree.of_bodySF (plainFor_of_name pn_0) hisR ?_
  intro p e s m args below meth c s₁ Bd hml0 hP hK
  obtain ⟨rfl, hZ, hh, hCH⟩ := hP
  have hx := Bd.exec
  have hby := Bd.bytes
  have hml : c.maxLocals = 16 := hml0
  have hown : s.vm.findClass "underdeck/deck/SqlTextDefaultsOnlyPinLaw" = some m.cls := findClass_of_methodNamed Bd.named
  have hnm := (name_of_methodNamed Bd.named Bd.method).1
  have X0 : Stand p l e room_1 (s.setVm s.vm) m #[(.int p1), (.int p2), (.int p3), (.int p4)] below meth c s₁ [] 0 0 := Stand.of_body Bd
  have e0 : s₁.heap = h0 := by rw [← hh, Bd.state]; rfl
  have N0 := Fr.nil n0
  have hS0 : s.Since s.vm h0.size := (State.WarmedH.refl s).since _
  obtain ⟨T5, X5, e5, st5⟩ := getS2 X0 hx hZ hown (host := "") (Or.inl (hi 275 rfl)) Via.refl e0 ydh_ (g := (mkF m 24 #[vI p1, vI p2, vI p3, vI p4, vI (0 : Int32), vU, vU, vU, vU, vU, vU, vU, vU, vU, vU, vU] [])) rfl (hb hby at_24)
  obtain ⟨c6, T6, h6, k6, b6, kb6, X6, e6, E6, hS6, hk6, hZ6, hown6, iE6, iC6, iV6, iA6, -, -, hC6, hL6, -, st6⟩ := ldcCH (s := s) X5 hx hZ hown (hi 277 rfl) (own_strs hw) e5 hS0 (Nat.le_refl h0.size) (own_EW hw) (by simp [consts_1]) hCH (vs := [(.int (32 : Int32)), (.int (40 : Int32)), (.int (41 : Int32)), (.int (32 : Int32)), (.int (118 : Int32)), (.int (97 : Int32)), (.int (108 : Int32)), (.int (117 : Int32)), (.int (101 : Int32)), (.int (115 : Int32)), (.int (32 : Int32)), (.int (40 : Int32)), (.int (41 : Int32))]) (z := (13 : Int32)) ⟨by decide, rfl⟩ (by decide) rfl (g := (mkF m 39 #[vI p1, vI p2, vI p3, vI p4, vI (0 : Int32), vA yr_, vU, vU, vU, vU, vU, vU, vU, vU, vU, vU] [])) rfl (hb hby at_39) (n := 52) (by decide) (by decide) (by decide) (by decide)
  obtain ⟨T7, h7, k7, X7, e7, E7, A7, iE7, st7⟩ := newPE X6 hx hZ6 (hi 12 rfl) e6 (g := (mkF m 68 #[vI p1, vI p2, vI p3, vI p4, vI (0 : Int32), vA yr_, vA c6, vI (t0_0 p2), vI ((p3 &&& (255 : Int32)).toUInt32.toUInt16.toUInt32.toInt32), vI ((p4 &&& (255 : Int32)).toUInt32.toUInt16.toUInt32.toInt32), vU, vU, vU, vU, vU, vU] [(.int (2 : Int32))])) rfl (hb hby at_68) rfl (by decide) (cap := 2) (by decide) (by decide) (by decide) (by decide) (ad := "[C") rfl
  obtain ⟨b7, g7⟩ : ∃ z, z = h6.size := ⟨_, rfl⟩
  rw [← g7] at A7 iE7 st7
  have g_b7 : n0 ≤ b7 := Nat.le_trans (Nat.le_trans Z0 E6.1) (Nat.le_of_eq g7.symm)
  have sz_b7 : h0.size ≤ b7 := Nat.le_trans (Nat.le_trans (Nat.le_refl h0.size) E6.1) (Nat.le_of_eq g7.symm)
  have V_b7 : Arv Z h7 b7 k7 .char (2 : Int32) [(.int (0 : Int32)), (.int (0 : Int32))] (.int (0 : Int32)) := (Arv.new A7 (by decide)).pad (pad_rep [] (.int (0 : Int32)) 2)
  obtain ⟨cl_b7_0, Ar_b7_0, q_b7_0, Sz_b7_0, Ng_b7_0, Ha_b7_0, Gt_b7_0⟩ := id V_b7
  have yem_ : ¬ ((0 : Int32) < 0 ∨ cl_b7_0.slots.size ≤ ((0 : Int32)).toNatClampNeg) := inb_of Sz_b7_0 ⟨by decide, by decide⟩
  obtain ⟨T8, h8, X8, e8, W8, st8⟩ := stC X7 hx hZ6 e7 Ar_b7_0 (j := (0 : Int32)) yem_ (g := (mkF m 77 #[vI p1, vI p2, vI p3, vI p4, vI (0 : Int32), vA yr_, vA c6, vI (t0_0 p2), vI ((p3 &&& (255 : Int32)).toUInt32.toUInt16.toUInt32.toInt32), vI ((p4 &&& (255 : Int32)).toUInt32.toUInt16.toUInt32.toInt32), vA b7, vU, vU, vU, vU, vU] [(.int ((p3 &&& (255 : Int32)).toUInt32.toUInt16.toUInt32.toInt32)), (.int (0 : Int32)), (.ref b7)])) rfl rfl (hb hby at_77)
  have V8 : Arv Z h8 b7 k7 .char (2 : Int32) [(.int (nar .char ((p3 &&& (255 : Int32)).toUInt32.toUInt16.toUInt32.toInt32))), (.int (0 : Int32))] (.int (0 : Int32)) := Arv.set Ar_b7_0 q_b7_0 Sz_b7_0 Ng_b7_0 Ha_b7_0 Gt_b7_0 (fits_nar_char _) W8 0 rfl (Nat.le_of_ble_eq_true rfl)
  have N8 := Fr.snoc X8 N0 g_b7
  obtain ⟨cl_b7_1, Ar_b7_1, q_b7_1, Sz_b7_1, Ng_b7_1, Ha_b7_1, Gt_b7_1⟩ := id V8
  have yen_ : ¬ ((1 : Int32) < 0 ∨ cl_b7_1.slots.size ≤ ((1 : Int32)).toNatClampNeg) := inb_of Sz_b7_1 ⟨by decide, by decide⟩
  obtain ⟨T9, h9, X9, e9, W9, st9⟩ := stC X8 hx hZ6 e8 Ar_b7_1 (j := (1 : Int32)) yen_ (g := (mkF m 83 #[vI p1, vI p2, vI p3, vI p4, vI (0 : Int32), vA yr_, vA c6, vI (t0_0 p2), vI ((p3 &&& (255 : Int32)).toUInt32.toUInt16.toUInt32.toInt32), vI ((p4 &&& (255 : Int32)).toUInt32.toUInt16.toUInt32.toInt32), vA b7, vU, vU, vU, vU, vU] [(.int ((p4 &&& (255 : Int32)).toUInt32.toUInt16.toUInt32.toInt32)), (.int (1 : Int32)), (.ref b7)])) rfl rfl (hb hby at_83)
  have V9 : Arv Z h9 b7 k7 .char (2 : Int32) [(.int (nar .char ((p3 &&& (255 : Int32)).toUInt32.toUInt16.toUInt32.toInt32))), (.int (nar .char ((p4 &&& (255 : Int32)).toUInt32.toUInt16.toUInt32.toInt32)))] (.int (0 : Int32)) := Arv.set Ar_b7_1 q_b7_1 Sz_b7_1 Ng_b7_1 Ha_b7_1 Gt_b7_1 (fits_nar_char _) W9 1 rfl (Nat.le_of_ble_eq_true rfl)
  have N9 := Fr.snoc X9 N8 g_b7
  have f2 := (((iE6.ext E7).wr W8).wr W9)
  have f3 := ((iE7.wr W8).wr W9)
  have f4 := (((iA6.ext E7).other W8 (Nat.ne_of_lt (Nat.lt_of_lt_of_le iA6.lt (Nat.le_of_eq g7.symm)))).other W9 (Nat.ne_of_lt (Nat.lt_of_lt_of_le iA6.lt (Nat.le_of_eq g7.symm))))
  obtain ⟨T10, h10, X10, e10, E10, A10, D10, -, st10⟩ := newO X9 hx hZ6 hown6 (hi 300 rfl) (hi 5 rfl) (hi 4 rfl) e9 (g := (mkF m 108 #[vI p1, vI p2, vI p3, vI p4, vI (0 : Int32), vA yr_, vA c6, vI (2 : Int32), vI ((p3 &&& (255 : Int32)).toUInt32.toUInt16.toUInt32.toInt32), vI ((p4 &&& (255 : Int32)).toUInt32.toUInt16.toUInt32.toInt32), vA b7, vU, vU, vU, vU, vU] [])) rfl (hb hby at_108) (by decide) (by decide)
  obtain ⟨b10, g10⟩ : ∃ z, z = h9.size := ⟨_, rfl⟩
  rw [← g10] at A10 D10 st10
  have g_b10 : n0 ≤ b10 := Nat.le_trans (Nat.le_trans (Nat.le_trans (Nat.le_trans (Nat.le_trans Z0 E6.1) E7.1) (Keep.of_wr W8).1) (Keep.of_wr W9).1) (Nat.le_of_eq g10.symm)
  have sz_b10 : h0.size ≤ b10 := Nat.le_trans (Nat.le_trans (Nat.le_trans (Nat.le_trans (Nat.le_trans (Nat.le_refl h0.size) E6.1) E7.1) (Keep.of_wr W8).1) (Keep.of_wr W9).1) (Nat.le_of_eq g10.symm)
  have yjz_ : Fld Z h10 b10 "java/lang/String" "value" "[B" .null := D10 (Or.inr (hi 7 rfl)) (ty := (.array .byte)) (by decide)
  have yka_ : Fld Z h10 b10 "java/lang/String" "coder" "B" (.int (0 : Int32)) := D10 (Or.inr (hi 8 rfl)) (ty := .byte) (by decide)
  have f5 := (((((yf_.ext E6).ext E7).wr W8).wr W9).ext E10)
  have f6 := (V9.ext E10)
  obtain ⟨_, _, ⟨T11, L11, k11, n11⟩, -, X11, ⟨Lc11, hQ11, l11, y11, z11⟩, st11⟩ := X10.specialBack hx (y := mN14) rfl hown6 (mvT hZ6 (hi 301 rfl)) (mvT hZ6 (hi 302 rfl)) (mvT hZ6 (hi 303 rfl)) (by decide) (backOf (W := 1) (rm47 l Z a0 hw [] b10 b7 ya_ (0 : Int32) .null k7 (nar .char ((p3 &&& (255 : Int32)).toUInt32.toUInt16.toUInt32.toInt32)) (nar .char ((p4 &&& (255 : Int32)).toUInt32.toUInt16.toUInt32.toInt32)) h10 n0 (Nat.le_trans (Nat.le_trans (Nat.le_trans (Nat.le_trans (Nat.le_trans Z0 E6.1) E7.1) (Keep.of_wr W8).1) (Keep.of_wr W9).1) E10.1) hcs f5 yka_ yjz_ A10 g_b10 f6 (own_le255 _ (own_cc _ (own_cc _ (own_m255 _)))) (own_le255 _ (own_cc _ (own_cc _ (own_m255 _))))) hZ6 (hi 303 rfl) (hi 4 rfl) (by decide) (by decide)) (g := (mkF m 114 #[vI p1, vI p2, vI p3, vI p4, vI (0 : Int32), vA yr_, vA c6, vI (2 : Int32), vI ((p3 &&& (255 : Int32)).toUInt32.toUInt16.toUInt32.toInt32), vI ((p4 &&& (255 : Int32)).toUInt32.toUInt16.toUInt32.toInt32), vA b7, vU, vU, vU, vU, vU] [(.ref b7), (.ref b10), (.ref b10)])) rfl (by rw [hml]; rfl) (Steps.refl _) (a := b10) (argsL := [(.ref b7)]) (rest := [(.ref b10)]) (lenOf ykk_ rfl) rfl (by show 2 * 0 + _ ≤ _; exact Nat.le_of_eq rfl) (hb hby at_114) (fun _ _ => ⟨rfl, e10, (by decide : 4 + 1 ≤ _), (by decide : 62 + 2 ≤ _)⟩)
  dsimp only [Pt.U, Pt.locs, Pt.cells, Pt.slots] at X11 l11 y11 z11 st11 hQ11
  subst l11 y11 z11
  obtain ⟨ygs_, ⟨ylp_, ⟨rfl, N11q, K11, i11_0, i11_1, i11_2, i11_3, i11_4, i11_5⟩⟩⟩ := hQ11
  have N11 := Fr.app N9 N11q
  have f7 := (f2.ext E10)
  have f8 := (f3.ext E10)
  have f9 := (f4.ext E10)
  have yjj_ : h0.size ≤ ygs_ := Nat.le_trans (Nat.le_trans (Nat.le_trans (Nat.le_trans (Nat.le_trans (Nat.le_trans (Nat.le_refl h0.size) E6.1) E7.1) (Keep.of_wr W8).1) (Keep.of_wr W9).1) E10.1) i11_0
  have ypl_ : n0 ≤ ygs_ := Nat.le_trans Z0 yjj_
  have f10 := (f7.keep K11)
  have f11 := (f8.keep K11)
  have f12 := (f9.keep K11 (own_nm (Nat.ne_of_lt (Nat.lt_of_lt_of_le f4.lt (Nat.le_of_eq g10.symm))) own_n0))
  obtain ⟨T12, h12, X12, e12, E12, A12, D12, -, st12⟩ := newO X11 hx hZ6 hown6 (hi 14 rfl) (hi 15 rfl) (hi 16 rfl) rfl (g := (mkF m 119 #[vI p1, vI p2, vI p3, vI p4, vI (0 : Int32), vA yr_, vA c6, vI (2 : Int32), vI ((p3 &&& (255 : Int32)).toUInt32.toUInt16.toUInt32.toInt32), vI ((p4 &&& (255 : Int32)).toUInt32.toUInt16.toUInt32.toInt32), vA b7, vA b10, vU, vU, vU, vU] [])) rfl (hb hby at_119) (by decide) (by decide)
  obtain ⟨b12, g12⟩ : ∃ z, z = T11.heap.size := ⟨_, rfl⟩
  rw [← g12] at A12 D12 st12
  have g_b12 : n0 ≤ b12 := Nat.le_trans (Nat.le_trans (Nat.le_trans (Nat.le_trans (Nat.le_trans (Nat.le_trans (Nat.le_trans Z0 E6.1) E7.1) (Keep.of_wr W8).1) (Keep.of_wr W9).1) E10.1) K11.1) (Nat.le_of_eq g12.symm)
  have sz_b12 : h0.size ≤ b12 := Nat.le_trans (Nat.le_trans (Nat.le_trans (Nat.le_trans (Nat.le_trans (Nat.le_trans (Nat.le_trans (Nat.le_refl h0.size) E6.1) E7.1) (Keep.of_wr W8).1) (Keep.of_wr W9).1) E10.1) K11.1) (Nat.le_of_eq g12.symm)
  have ykb_ : Fld Z h12 b12 "underdeck/deck/SqlText" "parts" "Ljava/util/List;" .null := D12 (Or.inr (hi 48 rfl)) (ty := (.object "java/util/List")) (by decide)
  have yix_ : Fld Z h12 b12 "underdeck/deck/SqlText" "current" "Ljava/lang/StringBuilder;" .null := D12 (Or.inr (hi 68 rfl)) (ty := (.object "java/lang/StringBuilder")) (by decide)
  have ygv_ : Fld Z h12 b12 "underdeck/deck/SqlText" "placeholders" "Ljava/util/List;" .null := D12 (Or.inr (hi 70 rfl)) (ty := (.object "java/util/List")) (by decide)
  have ykc_ : Fld Z h12 b12 "underdeck/deck/SqlText" "types" "Ljava/util/Map;" .null := D12 (Or.inr (hi 88 rfl)) (ty := (.object "java/util/Map")) (by decide)
  have yhm_ : Fld Z h12 b12 "underdeck/deck/SqlText" "groupLists" "Ljava/util/Map;" .null := D12 (Or.inr (hi 90 rfl)) (ty := (.object "java/util/Map")) (by decide)
  have ykd_ : Fld Z h12 b12 "underdeck/deck/SqlText" "names" "Ljava/util/Set;" .null := D12 (Or.inr (hi 111 rfl)) (ty := (.object "java/util/Set")) (by decide)
  have yiy_ : Fld Z h12 b12 "underdeck/deck/SqlText" "dialect" "Lunderdeck/deck/Dialect;" .null := D12 (Or.inr (hi 113 rfl)) (ty := (.object "underdeck/deck/Dialect")) (by decide)
  have f13 := ((own_sta_keep (((((yaj_.ext E6).ext E7).wr W8).wr W9).ext E10) K11 (own_qc (own_nst A10) own_q0)).ext E12)
  have f14 := ((own_sta_keep f5 K11 (own_qc (own_nst A10) own_q0)).ext E12)
  obtain ⟨_, _, ⟨T13, L13, k13, n13⟩, -, X13, ⟨Lc13, hQ13, l13, y13, z13⟩, st13⟩ := X12.specialBack hx (y := mN49) rfl hown6 (mvT hZ6 (hi 17 rfl)) (mvT hZ6 (hi 18 rfl)) (mvT hZ6 (hi 19 rfl)) (by decide) (backOf (W := 1) (rm1 l Z a0 hw [] b12 yr_ yg_ .null ya_ .null .null .null .null .null .null h12 n0 (Nat.le_trans (Nat.le_trans (Nat.le_trans (Nat.le_trans (Nat.le_trans (Nat.le_trans (Nat.le_trans Z0 E6.1) E7.1) (Keep.of_wr W8).1) (Keep.of_wr W9).1) E10.1) K11.1) E12.1) hcs f13 A12 ykb_ g_b12 f14 yix_ ygv_ ykc_ yhm_ ykd_ yiy_) hZ6 (hi 19 rfl) (hi 16 rfl) (by decide) (by decide)) (g := (mkF m 125 #[vI p1, vI p2, vI p3, vI p4, vI (0 : Int32), vA yr_, vA c6, vI (2 : Int32), vI ((p3 &&& (255 : Int32)).toUInt32.toUInt16.toUInt32.toInt32), vI ((p4 &&& (255 : Int32)).toUInt32.toUInt16.toUInt32.toInt32), vA b7, vA b10, vU, vU, vU, vU] [(.ref yr_), (.ref b12), (.ref b12)])) rfl (by rw [hml]; rfl) (Steps.refl _) (a := b12) (argsL := [(.ref yr_)]) (rest := [(.ref b12)]) (lenOf ybm_ rfl) rfl (by show 2 * 0 + _ ≤ _; exact Nat.le_of_eq rfl) (hb hby at_125) (fun _ _ => ⟨rfl, e12, (by decide : 6 + 8 ≤ _), (by decide : 71 + 51 ≤ _)⟩)
  dsimp only [Pt.U, Pt.locs, Pt.cells, Pt.slots] at X13 l13 y13 z13 st13 hQ13
  subst l13 y13 z13
  obtain ⟨b7_13, ⟨ydt_, ⟨b10_13, ⟨yet_, ⟨rfl, N13q, K13, i13_0, i13_1, i13_2, i13_3, i13_4, i13_5, i13_6, i13_7, i13_8, i13_9, i13_10, i13_11, i13_12, i13_13, i13_14, i13_15, i13_16, i13_17, i13_18, i13_19⟩⟩⟩⟩⟩ := hQ13
  have N13 := Fr.app N11 N13q
  have f15 := (f10.ext E12)
  have f16 := (f11.ext E12)
  have f17 := (i11_1.ext E12)
  have f18 := (i11_4.ext E12)
  have f19 := (f12.ext E12)
  have ydy_ : h0.size ≤ b7_13 := Nat.le_trans (Nat.le_trans (Nat.le_trans (Nat.le_trans (Nat.le_trans (Nat.le_trans (Nat.le_trans (Nat.le_trans (Nat.le_refl h0.size) E6.1) E7.1) (Keep.of_wr W8).1) (Keep.of_wr W9).1) E10.1) K11.1) E12.1) i13_0
  have g_b7_13 : n0 ≤ b7_13 := Nat.le_trans Z0 ydy_
  have ydi_ : h0.size ≤ ydt_ := Nat.le_trans (Nat.le_trans (Nat.le_trans (Nat.le_trans (Nat.le_trans (Nat.le_trans (Nat.le_trans (Nat.le_trans (Nat.le_refl h0.size) E6.1) E7.1) (Keep.of_wr W8).1) (Keep.of_wr W9).1) E10.1) K11.1) E12.1) i13_1
  have yiu_ : n0 ≤ ydt_ := Nat.le_trans Z0 ydi_
  have ylq_ : h0.size ≤ b10_13 := Nat.le_trans (Nat.le_trans (Nat.le_trans (Nat.le_trans (Nat.le_trans (Nat.le_trans (Nat.le_trans (Nat.le_trans (Nat.le_refl h0.size) E6.1) E7.1) (Keep.of_wr W8).1) (Keep.of_wr W9).1) E10.1) K11.1) E12.1) i13_2
  have yrc_ : n0 ≤ b10_13 := Nat.le_trans Z0 ylq_
  have f20 := ((i11_3.ext E12).keep K13 (own_nm (Nat.ne_of_lt (Nat.lt_of_lt_of_le i11_1.lt (Nat.le_of_eq g12.symm))) own_n0))
  have f21 := ((i11_5.ext E12).keep K13 (own_nm (Nat.ne_of_lt (Nat.lt_of_lt_of_le i11_4.lt (Nat.le_of_eq g12.symm))) own_n0))
  have f22 := (own_sta_keep f14 K13 (own_qc (own_nst A12) own_q0))
  have f23 := ((i11_2.ext E12).keep K13 (own_nm (Nat.ne_of_lt (Nat.lt_of_lt_of_le i11_1.lt (Nat.le_of_eq g12.symm))) own_n0))
  have f24 := (f17.keep K13)
  obtain ⟨cq14, kq14, q14a, q14b, q14c⟩ := isOf hZ6 rfl i13_6
  obtain ⟨_, _, ⟨T14, L14, k14, n14⟩, -, X14, ⟨Lc14, hQ14, l14, y14, z14⟩, st14⟩ := X13.virtualBack hx (y := mN52) (z := mN52) hown6 (mvT hZ6 (hi 114 rfl)) (mvT hZ6 (hi 115 rfl)) (notFace_of_selects (args := #[]) (mvT hZ6 (hi 117 rfl))) (mvT hZ6 (hi 117 rfl)) (mvT hZ6 (hi 116 rfl)) (by decide) (backOf (W := 0) (rm12 l Z a0 hw [] b12 b10 b7_13 ydt_ ygs_ ylp_ (2 : Int32) ([(.int (nar .byte ((nar .char ((p3 &&& (255 : Int32)).toUInt32.toUInt16.toUInt32.toInt32)).toInt8.toInt32))), (.int (nar .byte ((nar .char ((p4 &&& (255 : Int32)).toUInt32.toUInt16.toUInt32.toInt32)).toInt8.toInt32)))] : List Value) ya_ (0 : Int32) yet_ (16 : Int32) ((List.replicate 16 (Value.int (0 : Int32))) : List Value) T13.heap n0 (Nat.le_trans (Nat.le_trans (Nat.le_trans (Nat.le_trans (Nat.le_trans (Nat.le_trans (Nat.le_trans (Nat.le_trans Z0 E6.1) E7.1) (Keep.of_wr W8).1) (Keep.of_wr W9).1) E10.1) K11.1) E12.1) K13.1) hcs i13_7 i13_12 f20 f21 f22 i13_11 i13_15 i13_13 f23 f24 i13_10 yiu_ g_b7_13 (by decide) (by decide) (by decide) (by decide) (by decide) (Nat.le_of_ble_eq_true rfl) i13_3 (Ne.symm i13_3)) hZ6 (hi 118 rfl) (hi 16 rfl) (by decide) (by decide)) q14a q14c (g := (mkF m 134 #[vI p1, vI p2, vI p3, vI p4, vI (0 : Int32), vA yr_, vA c6, vI (2 : Int32), vI ((p3 &&& (255 : Int32)).toUInt32.toUInt16.toUInt32.toInt32), vI ((p4 &&& (255 : Int32)).toUInt32.toUInt16.toUInt32.toInt32), vA b7, vA b10, vA b12, vU, vU, vU] [(.ref b10), (.ref b12)])) rfl (by rw [hml]; rfl) (Steps.refl _) (argsL := [(.ref b10)]) (rest := []) (lenOf yat_ rfl) rfl (by show 2 * 0 + _ ≤ _; exact Nat.le_of_eq rfl) (hb hby at_134) (fun _ _ => ⟨rfl, rfl, (by decide : 14 + 0 ≤ _), (by decide : 122 + 0 ≤ _)⟩)
  dsimp only [Pt.U, Pt.locs, Pt.cells, Pt.slots] at X14 l14 y14 z14 st14 hQ14
  subst l14 y14 z14
  obtain ⟨rfl, N14q, K14, i14_0, i14_1, i14_2, i14_3, i14_4⟩ := hQ14
  have N14 := Fr.app N13 N14q
  have Ui14_0 : Arv Z T14.heap ydt_ yet_ .byte (16 : Int32) (ls_5 p3 p4) (.int (0 : Int32)) := i14_0
  have Ui14_4 : Fld Z T14.heap b7_13 "java/lang/AbstractStringBuilder" "count" "I" (.int (2 : Int32)) := i14_4
  have f25 := (i13_9.keep K14 (own_nm (Nat.ne_of_lt (Nat.lt_of_lt_of_le A12.lt i13_1)) (own_nm (Nat.ne_of_lt (Nat.lt_of_lt_of_le A12.lt i13_0)) own_n0)))
  have f26 := (((((((((yal_.ext E6).ext E7).other W8 (Or.inl (Nat.ne_of_lt (Nat.lt_of_lt_of_le yal_.lt sz_b7)))).other W9 (Or.inl (Nat.ne_of_lt (Nat.lt_of_lt_of_le yal_.lt sz_b7)))).ext E10).keep K11 (own_nm (Nat.ne_of_lt (Nat.lt_of_lt_of_le yal_.lt sz_b10)) own_n0)).ext E12).keep K13 (own_nm (Nat.ne_of_lt (Nat.lt_of_lt_of_le yal_.lt sz_b12)) own_n0)).keep K14 (own_nm (Nat.ne_of_lt (Nat.lt_of_lt_of_le yal_.lt ydi_)) (own_nm (Nat.ne_of_lt (Nat.lt_of_lt_of_le yal_.lt ydy_)) own_n0)))
  have f27 := (i13_7.keep K14 (own_nm (Nat.ne_of_lt (Nat.lt_of_lt_of_le A12.lt i13_1)) (own_nm (Nat.ne_of_lt (Nat.lt_of_lt_of_le A12.lt i13_0)) own_n0)))
  have f28 := (((((((((ym_.ext E6).ext E7).other W8 (Or.inl (Nat.ne_of_lt (Nat.lt_of_lt_of_le ym_.lt sz_b7)))).other W9 (Or.inl (Nat.ne_of_lt (Nat.lt_of_lt_of_le ym_.lt sz_b7)))).ext E10).keep K11 (own_nm (Nat.ne_of_lt (Nat.lt_of_lt_of_le ym_.lt sz_b10)) own_n0)).ext E12).keep K13 (own_nm (Nat.ne_of_lt (Nat.lt_of_lt_of_le ym_.lt sz_b12)) own_n0)).keep K14 (own_nm (Nat.ne_of_lt (Nat.lt_of_lt_of_le ym_.lt ydi_)) (own_nm (Nat.ne_of_lt (Nat.lt_of_lt_of_le ym_.lt ydy_)) own_n0)))
  have f29 := (((((((((yy_.ext E6).ext E7).other W8 (Nat.ne_of_lt (Nat.lt_of_lt_of_le yy_.lt sz_b7))).other W9 (Nat.ne_of_lt (Nat.lt_of_lt_of_le yy_.lt sz_b7))).ext E10).keep K11 (own_nm (Nat.ne_of_lt (Nat.lt_of_lt_of_le yy_.lt sz_b10)) own_n0)).ext E12).keep K13 (own_nm (Nat.ne_of_lt (Nat.lt_of_lt_of_le yy_.lt sz_b12)) own_n0)).keep K14 (own_nm (Nat.ne_of_lt (Nat.lt_of_lt_of_le yy_.lt ydi_)) (own_nm (Nat.ne_of_lt (Nat.lt_of_lt_of_le yy_.lt ydy_)) own_n0)))
  have f30 := (own_sta_keep f22 K14 (own_qc (own_nst i13_14) (own_qc (own_nst i13_10) own_q0)))
  have f31 := (((((((((ycz_.ext E6).ext E7).wr W8).wr W9).ext E10).keep K11).ext E12).keep K13).keep K14)
  have f32 := (((((((((yay_.ext E6).ext E7).other W8 (Or.inl (Nat.ne_of_lt (Nat.lt_of_lt_of_le ym_.lt sz_b7)))).other W9 (Or.inl (Nat.ne_of_lt (Nat.lt_of_lt_of_le ym_.lt sz_b7)))).ext E10).keep K11 (own_nm (Nat.ne_of_lt (Nat.lt_of_lt_of_le ym_.lt sz_b10)) own_n0)).ext E12).keep K13 (own_nm (Nat.ne_of_lt (Nat.lt_of_lt_of_le ym_.lt sz_b12)) own_n0)).keep K14 (own_nm (Nat.ne_of_lt (Nat.lt_of_lt_of_le ym_.lt ydi_)) (own_nm (Nat.ne_of_lt (Nat.lt_of_lt_of_le ym_.lt ydy_)) own_n0)))
  have f33 := (((((((((ybc_.ext E6).ext E7).wr W8).wr W9).ext E10).keep K11).ext E12).keep K13).keep K14)
  have f34 := (i13_6.keep K14)
  obtain ⟨cq15, kq15, q15a, q15b, q15c⟩ := isOf hZ6 rfl f34
  obtain ⟨_, _, ⟨T15, L15, k15, n15⟩, -, X15, ⟨Lc15, hQ15, l15, y15, z15⟩, st15⟩ := X14.virtualBack hx (y := mN50) (z := mN50) hown6 (mvT hZ6 (hi 169 rfl)) (mvT hZ6 (hi 170 rfl)) (notFace_of_selects (args := #[]) (mvT hZ6 (hi 172 rfl))) (mvT hZ6 (hi 172 rfl)) (mvT hZ6 (hi 171 rfl)) (by decide) (backOf (W := 0) (rm21 l Z a0 hw [] b12 yr_ yp_ b7_13 ydt_ yo_ yt_ (13 : Int32) ((ls_0) : List Value) ya_ (2 : Int32) yet_ (16 : Int32) ((ls_5 p3 p4) : List Value) T14.heap n0 (Nat.le_trans (Nat.le_trans (Nat.le_trans (Nat.le_trans (Nat.le_trans (Nat.le_trans (Nat.le_trans (Nat.le_trans (Nat.le_trans Z0 E6.1) E7.1) (Keep.of_wr W8).1) (Keep.of_wr W9).1) E10.1) K11.1) E12.1) K13.1) K14.1) hcs f25 f26 f31 f27 i14_2 f28 f29 f30 Ui14_4 Ui14_0 i14_3 f32 f33 i14_1 yiu_ g_b7_13 f34 (by decide) (by decide) (by decide) (by decide) (by decide) (Nat.le_of_ble_eq_true rfl) i13_3 (Ne.symm i13_3)) hZ6 (hi 173 rfl) (hi 16 rfl) (by decide) (by decide)) q15a q15c (g := (mkF m 141 #[vI p1, vI p2, vI p3, vI p4, vI (0 : Int32), vA yr_, vA c6, vI (2 : Int32), vI ((p3 &&& (255 : Int32)).toUInt32.toUInt16.toUInt32.toInt32), vI ((p4 &&& (255 : Int32)).toUInt32.toUInt16.toUInt32.toInt32), vA b7, vA b10, vA b12, vA b12, vU, vU] [(.ref b12)])) rfl (by rw [hml]; rfl) (Steps.refl _) (argsL := []) (rest := []) (lenOf ybo_ rfl) rfl (by show 2 * 0 + _ ≤ _; exact Nat.le_of_eq rfl) (hb hby at_141) (fun _ _ => ⟨rfl, rfl, (by decide : 14 + 0 ≤ _), (by decide : 122 + 0 ≤ _)⟩)
  dsimp only [Pt.U, Pt.locs, Pt.cells, Pt.slots] at X15 l15 y15 z15 st15 hQ15
  subst l15 y15 z15
  obtain ⟨rfl, N15q, K15, i15_0, i15_1, i15_2, i15_3, i15_4⟩ := hQ15
  have N15 := Fr.app N14 N15q
  have f35 := (i13_14.keep K14)
  have Ui15_0 : Arv Z T15.heap ydt_ yet_ .byte (16 : Int32) (ls_6 p3 p4) (.int (0 : Int32)) := i15_0
  have Ui15_4 : Fld Z T15.heap b7_13 "java/lang/AbstractStringBuilder" "count" "I" (.int (15 : Int32)) := i15_4
  have f36 := ((i13_8.keep K14 (own_nm (Nat.ne_of_lt (Nat.lt_of_lt_of_le A12.lt i13_1)) (own_nm (Nat.ne_of_lt (Nat.lt_of_lt_of_le A12.lt i13_0)) own_n0))).keep K15 (own_nm (Nat.ne_of_lt (Nat.lt_of_lt_of_le A12.lt i13_1)) (own_nm (Nat.ne_of_lt (Nat.lt_of_lt_of_le A12.lt i13_0)) own_n0)))
  have f37 := (f27.keep K15 (own_nm (Nat.ne_of_lt (Nat.lt_of_lt_of_le A12.lt i13_1)) (own_nm (Nat.ne_of_lt (Nat.lt_of_lt_of_le A12.lt i13_0)) own_n0)))
  have f38 := (own_sta_keep f30 K15 (own_qc (own_nst f35) (own_qc (own_nst i14_1) own_q0)))
  have f39 := ((i13_18.keep K14 (own_nm (Ne.symm i13_5) (own_nm (Ne.symm i13_4) own_n0))).keep K15 (own_nm (Ne.symm i13_5) (own_nm (Ne.symm i13_4) own_n0)))
  have f40 := ((i13_16.keep K14).keep K15)
  have f41 := (f34.keep K15)
  obtain ⟨cq16, kq16, q16a, q16b, q16c⟩ := isOf hZ6 rfl f41
  obtain ⟨_, _, ⟨T16, L16, k16, n16⟩, -, X16, ⟨Lc16, hQ16, l16, y16, z16⟩, st16⟩ := X15.virtualBack hx (y := mN51) (z := mN51) hown6 (mvT hZ6 (hi 182 rfl)) (mvT hZ6 (hi 183 rfl)) (notFace_of_selects (args := #[]) (mvT hZ6 (hi 185 rfl))) (mvT hZ6 (hi 185 rfl)) (mvT hZ6 (hi 184 rfl)) (by decide) (backOf (W := 0) (rm23c l Z a0 hw [] b12 b10_13 b7_13 ydt_ (15 : Int32) ya_ yet_ (16 : Int32) ((ls_6 p3 p4) : List Value) T15.heap n0 (Nat.le_trans (Nat.le_trans (Nat.le_trans (Nat.le_trans (Nat.le_trans (Nat.le_trans (Nat.le_trans (Nat.le_trans (Nat.le_trans (Nat.le_trans Z0 E6.1) E7.1) (Keep.of_wr W8).1) (Keep.of_wr W9).1) E10.1) K11.1) E12.1) K13.1) K14.1) K15.1) hcs f36 f39 f40 f37 i15_2 Ui15_4 f38 Ui15_0 i15_1 i15_3 (by decide) (by decide) (by decide) (by decide) (by decide) (by decide) (by decide) (by decide) (Nat.le_of_ble_eq_true rfl)) hZ6 (hi 186 rfl) (hi 16 rfl) (by decide) (by decide)) q16a q16c (g := (mkF m 148 #[vI p1, vI p2, vI p3, vI p4, vI (0 : Int32), vA yr_, vA c6, vI (2 : Int32), vI ((p3 &&& (255 : Int32)).toUInt32.toUInt16.toUInt32.toInt32), vI ((p4 &&& (255 : Int32)).toUInt32.toUInt16.toUInt32.toInt32), vA b7, vA b10, vA b12, vA b12, vA b12, vU] [(.ref b12)])) rfl (by rw [hml]; rfl) (Steps.refl _) (argsL := []) (rest := []) (lenOf ybh_ rfl) rfl (by show 2 * 0 + _ ≤ _; exact Nat.le_of_eq rfl) (hb hby at_148) (fun _ _ => ⟨rfl, rfl, (by decide : 14 + 2 ≤ _), (by decide : 122 + 21 ≤ _)⟩)
  dsimp only [Pt.U, Pt.locs, Pt.cells, Pt.slots] at X16 l16 y16 z16 st16 hQ16
  subst l16 y16 z16
  obtain ⟨b2_5_16, ⟨ybu_, ⟨ycp_, ⟨rfl, N16q, K16, i16_0, i16_1, i16_2, i16_3, i16_4, i16_5, i16_6, i16_7⟩⟩⟩⟩ := hQ16
  have N16 := Fr.app N15 N16q
  have f42 := (((f15.keep K13).keep K14).keep K15)
  have f43 := (((f16.keep K13).keep K14).keep K15)
  have f44 := ((f24.keep K14).keep K15)
  have f45 := (((f18.keep K13).keep K14).keep K15)
  have f46 := (f35.keep K15)
  have f47 := (((f19.keep K13 (own_nm (Nat.ne_of_lt (Nat.lt_of_lt_of_le f12.lt (Nat.le_of_eq g12.symm))) own_n0)).keep K14 (own_nm (Nat.ne_of_lt (Nat.lt_of_lt_of_le f19.lt i13_1)) (own_nm (Nat.ne_of_lt (Nat.lt_of_lt_of_le f19.lt i13_0)) own_n0))).keep K15 (own_nm (Nat.ne_of_lt (Nat.lt_of_lt_of_le f19.lt i13_1)) (own_nm (Nat.ne_of_lt (Nat.lt_of_lt_of_le f19.lt i13_0)) own_n0)))
  have ykx_ : h0.size ≤ b2_5_16 := Nat.le_trans (Nat.le_trans (Nat.le_trans (Nat.le_trans (Nat.le_trans (Nat.le_trans (Nat.le_trans (Nat.le_trans (Nat.le_trans (Nat.le_trans (Nat.le_trans (Nat.le_refl h0.size) E6.1) E7.1) (Keep.of_wr W8).1) (Keep.of_wr W9).1) E10.1) K11.1) E12.1) K13.1) K14.1) K15.1) i16_0
  have yqm_ : n0 ≤ b2_5_16 := Nat.le_trans Z0 ykx_
  have ygw_ : h0.size ≤ ybu_ := Nat.le_trans (Nat.le_trans (Nat.le_trans (Nat.le_trans (Nat.le_trans (Nat.le_trans (Nat.le_trans (Nat.le_trans (Nat.le_trans (Nat.le_trans (Nat.le_trans (Nat.le_refl h0.size) E6.1) E7.1) (Keep.of_wr W8).1) (Keep.of_wr W9).1) E10.1) K11.1) E12.1) K13.1) K14.1) K15.1) i16_1
  have ymq_ : n0 ≤ ybu_ := Nat.le_trans Z0 ygw_
  have Ui16_7 : Arv Z T16.heap ybu_ ycp_ .byte (15 : Int32) (ls_7 p3 p4) (.int (0 : Int32)) := i16_7
  have f48 := (own_sta_keep f38 K16 own_q0)
  obtain ⟨cq17, kq17, q17a, q17b, q17c⟩ := isOf hZ6 rfl i16_3
  obtain ⟨_, _, ⟨T17, L17, k17, n17⟩, -, X17, ⟨Lc17, hQ17, l17, y17, z17⟩, st17⟩ := X16.virtualBack hx (y := mN21) (z := mN21) hown6 (mvT hZ6 (hi 245 rfl)) (mvT hZ6 (hi 130 rfl)) (notFace_of_selects (args := #[]) (mvT hZ6 (hi 132 rfl))) (mvT hZ6 (hi 132 rfl)) (mvT hZ6 (hi 131 rfl)) (by decide) (backOf (W := 0) (rm15 l Z a0 hw [] b2_5_16 ybu_ ycp_ (15 : Int32) ((ls_7 p3 p4) : List Value) ya_ (0 : Int32) T16.heap n0 (Nat.le_trans (Nat.le_trans (Nat.le_trans (Nat.le_trans (Nat.le_trans (Nat.le_trans (Nat.le_trans (Nat.le_trans (Nat.le_trans (Nat.le_trans (Nat.le_trans Z0 E6.1) E7.1) (Keep.of_wr W8).1) (Keep.of_wr W9).1) E10.1) K11.1) E12.1) K13.1) K14.1) K15.1) K16.1) hcs i16_5 Ui16_7 f48 i16_4 i16_3) hZ6 (hi 133 rfl) (hi 4 rfl) (by decide) (by decide)) q17a q17c (g := (mkF m 169 #[vI p1, vI p2, vI p3, vI p4, vI (0 : Int32), vA yr_, vA c6, vI (2 : Int32), vI ((p3 &&& (255 : Int32)).toUInt32.toUInt16.toUInt32.toInt32), vI ((p4 &&& (255 : Int32)).toUInt32.toUInt16.toUInt32.toInt32), vA b7, vA b10, vA b12, vA b12, vA b12, vA b2_5_16] [(.ref b2_5_16)])) rfl (by rw [hml]; rfl) (Steps.refl _) (argsL := []) (rest := []) (lenOf ycf_ rfl) rfl (by show 2 * 0 + _ ≤ _; exact Nat.le_of_eq rfl) (hb hby at_169) (fun _ _ => ⟨rfl, rfl, (by decide : 16 + 0 ≤ _), (by decide : 143 + 0 ≤ _)⟩)
  dsimp only [Pt.U, Pt.locs, Pt.cells, Pt.slots] at X17 l17 y17 z17 st17 hQ17
  subst l17 y17 z17
  obtain ⟨rfl, N17q, e17⟩ := hQ17
  have N17 := Fr.app N16 N17q
  have f49 := ((((((((((iV6.ext E7).other W8 (Or.inl (Nat.ne_of_lt (Nat.lt_of_lt_of_le iE6.lt (Nat.le_of_eq g7.symm))))).other W9 (Or.inl (Nat.ne_of_lt (Nat.lt_of_lt_of_le iE6.lt (Nat.le_of_eq g7.symm))))).ext E10).keep K11 (own_nm (Nat.ne_of_lt (Nat.lt_of_lt_of_le f2.lt (Nat.le_of_eq g10.symm))) own_n0)).ext E12).keep K13 (own_nm (Nat.ne_of_lt (Nat.lt_of_lt_of_le f10.lt (Nat.le_of_eq g12.symm))) own_n0)).keep K14 (own_nm (Nat.ne_of_lt (Nat.lt_of_lt_of_le f15.lt i13_1)) (own_nm (Nat.ne_of_lt (Nat.lt_of_lt_of_le f15.lt i13_0)) own_n0))).keep K15 (own_nm (Nat.ne_of_lt (Nat.lt_of_lt_of_le f15.lt i13_1)) (own_nm (Nat.ne_of_lt (Nat.lt_of_lt_of_le f15.lt i13_0)) own_n0))).keep K16 own_n0)
  have f50 := (f47.keep K16 own_n0)
  have f51 := ((((((((((iC6.ext E7).other W8 (Or.inl (Nat.ne_of_lt (Nat.lt_of_lt_of_le iE6.lt (Nat.le_of_eq g7.symm))))).other W9 (Or.inl (Nat.ne_of_lt (Nat.lt_of_lt_of_le iE6.lt (Nat.le_of_eq g7.symm))))).ext E10).keep K11 (own_nm (Nat.ne_of_lt (Nat.lt_of_lt_of_le f2.lt (Nat.le_of_eq g10.symm))) own_n0)).ext E12).keep K13 (own_nm (Nat.ne_of_lt (Nat.lt_of_lt_of_le f10.lt (Nat.le_of_eq g12.symm))) own_n0)).keep K14 (own_nm (Nat.ne_of_lt (Nat.lt_of_lt_of_le f15.lt i13_1)) (own_nm (Nat.ne_of_lt (Nat.lt_of_lt_of_le f15.lt i13_0)) own_n0))).keep K15 (own_nm (Nat.ne_of_lt (Nat.lt_of_lt_of_le f15.lt i13_1)) (own_nm (Nat.ne_of_lt (Nat.lt_of_lt_of_le f15.lt i13_0)) own_n0))).keep K16 own_n0)
  have f52 := (f42.keep K16)
  obtain ⟨cq18, kq18, q18a, q18b, q18c⟩ := isOf hZ6 e17 f52
  obtain ⟨_, _, ⟨T18, L18, k18, n18⟩, -, X18, ⟨Lc18, hQ18, l18, y18, z18⟩, st18⟩ := X17.virtualBack hx (y := mN21) (z := mN21) hown6 (mvT hZ6 (hi 245 rfl)) (mvT hZ6 (hi 130 rfl)) (notFace_of_selects (args := #[]) (mvT hZ6 (hi 132 rfl))) (mvT hZ6 (hi 132 rfl)) (mvT hZ6 (hi 131 rfl)) (by decide) (backOf (W := 2) (rm15 l Z a0 hw [] c6 b6 kb6 (13 : Int32) ((ls_0) : List Value) ya_ (0 : Int32) T16.heap n0 (Nat.le_trans (Nat.le_trans (Nat.le_trans (Nat.le_trans (Nat.le_trans (Nat.le_trans (Nat.le_trans (Nat.le_trans (Nat.le_trans (Nat.le_trans (Nat.le_trans Z0 E6.1) E7.1) (Keep.of_wr W8).1) (Keep.of_wr W9).1) E10.1) K11.1) E12.1) K13.1) K14.1) K15.1) K16.1) hcs f49 f50 f48 f51 f52) hZ6 (hi 133 rfl) (hi 4 rfl) (by decide) (by decide)) q18a q18c (g := (mkF m 176 #[vI p1, vI p2, vI p3, vI p4, vI (0 : Int32), vA yr_, vA c6, vI (2 : Int32), vI ((p3 &&& (255 : Int32)).toUInt32.toUInt16.toUInt32.toInt32), vI ((p4 &&& (255 : Int32)).toUInt32.toUInt16.toUInt32.toInt32), vA b7, vA b10, vA b12, vA b12, vA b12, vA b2_5_16] [(.ref c6), (.int (2 : Int32)), (.int (15 : Int32))])) rfl (by rw [hml]; rfl) (Steps.refl _) (argsL := []) (rest := [(.int (2 : Int32)), (.int (15 : Int32))]) (lenOf ycf_ rfl) rfl (by show 2 * 0 + _ ≤ _; exact Nat.le_of_eq rfl) (hb hby at_176) (fun _ _ => ⟨rfl, e17, (by decide : 16 + 0 ≤ _), (by decide : 143 + 0 ≤ _)⟩)
  dsimp only [Pt.U, Pt.locs, Pt.cells, Pt.slots] at X18 l18 y18 z18 st18 hQ18
  subst l18 y18 z18
  obtain ⟨rfl, N18q, e18⟩ := hQ18
  have N18 := Fr.app N17 N18q
  have f53 := (own_sta_keep (own_sta_keep (own_sta_keep (own_sta_keep ((own_sta_keep (((((yx_.ext E6).ext E7).wr W8).wr W9).ext E10) K11 (own_qc (own_nst A10) own_q0)).ext E12) K13 (own_qc (own_nst A12) own_q0)) K14 (own_qc (own_nst i13_14) (own_qc (own_nst i13_10) own_q0))) K15 (own_qc (own_nst f35) (own_qc (own_nst i14_1) own_q0))) K16 own_q0)
  obtain ⟨cq19, kq19, q19a, q19b, q19c⟩ := isOf hZ6 e18 i16_3
  obtain ⟨_, _, ⟨T19, L19, k19, n19⟩, -, X19, ⟨Lc19, hQ19, l19, y19, z19⟩, st19⟩ := X18.virtualBack hx (y := mN16) (z := mN16) hown6 (mvT hZ6 (hi 253 rfl)) (mvT hZ6 (hi 254 rfl)) (notFace_of_selects (args := #[]) (mvT hZ6 (hi 256 rfl))) (mvT hZ6 (hi 256 rfl)) (mvT hZ6 (hi 255 rfl)) (by decide) (backOf (W := 0) (rm38 l Z a0 hw [] b2_5_16 (0 : Int32) ya_ ybu_ ycp_ (15 : Int32) ((ls_7 p3 p4) : List Value) yb_ (nar .byte ((nar .char ((p3 &&& (255 : Int32)).toUInt32.toUInt16.toUInt32.toInt32)).toInt8.toInt32)) T16.heap n0 (Nat.le_trans (Nat.le_trans (Nat.le_trans (Nat.le_trans (Nat.le_trans (Nat.le_trans (Nat.le_trans (Nat.le_trans (Nat.le_trans (Nat.le_trans (Nat.le_trans Z0 E6.1) E7.1) (Keep.of_wr W8).1) (Keep.of_wr W9).1) E10.1) K11.1) E12.1) K13.1) K14.1) K15.1) K16.1) hcs hsv f48 i16_4 i16_3 i16_5 Ui16_7 f53 (by decide) (by decide) (by decide) rfl) hZ6 (hi 257 rfl) (hi 4 rfl) (by decide) (by decide)) q19a q19c (g := (mkF m 192 #[vI p1, vI p2, vI p3, vI p4, vI (0 : Int32), vA yr_, vA c6, vI (2 : Int32), vI ((p3 &&& (255 : Int32)).toUInt32.toUInt16.toUInt32.toInt32), vI ((p4 &&& (255 : Int32)).toUInt32.toUInt16.toUInt32.toInt32), vA b7, vA b10, vA b12, vA b12, vA b12, vA b2_5_16] [(.int (0 : Int32)), (.ref b2_5_16)])) rfl (by rw [hml]; rfl) (Steps.refl _) (argsL := [(.int (0 : Int32))]) (rest := []) (lenOf yel_ rfl) rfl (by show 2 * 0 + _ ≤ _; exact Nat.le_of_eq rfl) (hb hby at_192) (fun _ _ => ⟨rfl, e18, (by decide : 16 + 0 ≤ _), (by decide : 143 + 0 ≤ _)⟩)
  dsimp only [Pt.U, Pt.locs, Pt.cells, Pt.slots] at X19 l19 y19 z19 st19 hQ19
  subst l19 y19 z19
  obtain ⟨rfl, N19q, e19⟩ := hQ19
  have N19 := Fr.app N18 N19q
  obtain ⟨cq20, kq20, q20a, q20b, q20c⟩ := isOf hZ6 e19 i16_3
  obtain ⟨_, _, ⟨T20, L20, k20, n20⟩, -, X20, ⟨Lc20, hQ20, l20, y20, z20⟩, st20⟩ := X19.virtualBack hx (y := mN16) (z := mN16) hown6 (mvT hZ6 (hi 253 rfl)) (mvT hZ6 (hi 254 rfl)) (notFace_of_selects (args := #[]) (mvT hZ6 (hi 256 rfl))) (mvT hZ6 (hi 256 rfl)) (mvT hZ6 (hi 255 rfl)) (by decide) (backOf (W := 0) (rm38 l Z a0 hw [] b2_5_16 (1 : Int32) ya_ ybu_ ycp_ (15 : Int32) ((ls_7 p3 p4) : List Value) yb_ (nar .byte ((nar .char ((p4 &&& (255 : Int32)).toUInt32.toUInt16.toUInt32.toInt32)).toInt8.toInt32)) T16.heap n0 (Nat.le_trans (Nat.le_trans (Nat.le_trans (Nat.le_trans (Nat.le_trans (Nat.le_trans (Nat.le_trans (Nat.le_trans (Nat.le_trans (Nat.le_trans (Nat.le_trans Z0 E6.1) E7.1) (Keep.of_wr W8).1) (Keep.of_wr W9).1) E10.1) K11.1) E12.1) K13.1) K14.1) K15.1) K16.1) hcs hsv f48 i16_4 i16_3 i16_5 Ui16_7 f53 (by decide) (by decide) (by decide) rfl) hZ6 (hi 257 rfl) (hi 4 rfl) (by decide) (by decide)) q20a q20c (g := (mkF m 209 #[vI p1, vI p2, vI p3, vI p4, vI (0 : Int32), vA yr_, vA c6, vI (2 : Int32), vI ((p3 &&& (255 : Int32)).toUInt32.toUInt16.toUInt32.toInt32), vI ((p4 &&& (255 : Int32)).toUInt32.toUInt16.toUInt32.toInt32), vA b7, vA b10, vA b12, vA b12, vA b12, vA b2_5_16] [(.int (1 : Int32)), (.ref b2_5_16)])) rfl (by rw [hml]; rfl) (Steps.refl _) (argsL := [(.int (1 : Int32))]) (rest := []) (lenOf yel_ rfl) rfl (by show 2 * 0 + _ ≤ _; exact Nat.le_of_eq rfl) (hb hby at_209) (fun _ _ => ⟨rfl, e19, (by decide : 16 + 0 ≤ _), (by decide : 143 + 0 ≤ _)⟩)
  dsimp only [Pt.U, Pt.locs, Pt.cells, Pt.slots] at X20 l20 y20 z20 st20 hQ20
  subst l20 y20 z20
  obtain ⟨rfl, N20q, e20⟩ := hQ20
  have N20 := Fr.app N19 N20q
  obtain ⟨_, _, ⟨T21, L21, k21, n21⟩, -, X21, ⟨Lc21, hQ21, l21, y21, z21⟩, st21⟩ := Jvm.LawKit.callS X20 hx (y := mN54) hown6 (mvT hZ6 (hi 246 rfl)) (mvT hZ6 (hi 247 rfl)) (mvT hZ6 (hi 248 rfl)) (mvT hZ6 (hi 249 rfl)) (by decide) (backOf (W := 0) (rm36_13 l Z a0 hw [] b2_5_16 (2 : Int32) c6 b6 ya_ ybu_ ycp_ (15 : Int32) ((ls_7 p3 p4) : List Value) yb_ kb6 ((ls_0) : List Value) (32 : Int32) (40 : Int32) (41 : Int32) (32 : Int32) (118 : Int32) (97 : Int32) (108 : Int32) (117 : Int32) (101 : Int32) (115 : Int32) (32 : Int32) (40 : Int32) (41 : Int32) T16.heap n0 (Nat.le_trans (Nat.le_trans (Nat.le_trans (Nat.le_trans (Nat.le_trans (Nat.le_trans (Nat.le_trans (Nat.le_trans (Nat.le_trans (Nat.le_trans (Nat.le_trans Z0 E6.1) E7.1) (Keep.of_wr W8).1) (Keep.of_wr W9).1) E10.1) K11.1) E12.1) K13.1) K14.1) K15.1) K16.1) hcs hsv f49 f48 i16_5 Ui16_7 f53 f51 f52 i16_4 i16_3 f50 (by decide) (by decide) (by decide) rfl rfl (by decide) (by decide) (by decide) rfl rfl (by decide) (by decide) (by decide) rfl rfl (by decide) (by decide) (by decide) rfl rfl (by decide) (by decide) (by decide) rfl rfl (by decide) (by decide) (by decide) rfl rfl (by decide) (by decide) (by decide) rfl rfl (by decide) (by decide) (by decide) rfl rfl (by decide) (by decide) (by decide) rfl rfl (by decide) (by decide) (by decide) rfl rfl (by decide) (by decide) (by decide) rfl rfl (by decide) (by decide) (by decide) rfl rfl (by decide) (by decide) (by decide) rfl rfl) hZ6 (hi 249 rfl) (hi 248 rfl) (by decide) (by decide)) (g := (mkF m 223 #[vI p1, vI p2, vI p3, vI p4, vI (0 : Int32), vA yr_, vA c6, vI (2 : Int32), vI ((p3 &&& (255 : Int32)).toUInt32.toUInt16.toUInt32.toInt32), vI ((p4 &&& (255 : Int32)).toUInt32.toUInt16.toUInt32.toInt32), vA b7, vA b10, vA b12, vA b12, vA b12, vA b2_5_16] [(.ref c6), (.int (2 : Int32)), (.ref b2_5_16)])) rfl (by rw [hml]; rfl) (argsL := [(.ref b2_5_16), (.int (2 : Int32)), (.ref c6)]) (rest := []) (lenOf ybd_ rfl) rfl (by show 2 * 0 + _ ≤ _; exact Nat.le_of_eq rfl) (hb hby at_223) (fun _ _ => ⟨rfl, e20, (by decide : 16 + 0 ≤ _), (by decide : 143 + 0 ≤ _)⟩)
  dsimp only [Pt.U, Pt.locs, Pt.cells, Pt.slots] at X21 l21 y21 z21 st21 hQ21
  subst l21 y21 z21
  obtain ⟨rfl, N21q, e21⟩ := hQ21
  have N21 := Fr.app N20 N21q
  obtain ⟨fs, hr, hrun, hended, hw1, hw2, hw3, hw4⟩ := X21.leaveW hS6 (show _ ≤ T21.heap.size from by rw [e21]; exact (Nat.le_trans (Nat.le_trans (Nat.le_trans (Nat.le_trans (Nat.le_trans (Nat.le_trans (Nat.le_trans (Nat.le_trans (Nat.le_trans (Nat.le_trans hk6 E7.1) (Keep.of_wr W8).1) (Keep.of_wr W9).1) E10.1) K11.1) E12.1) K13.1) K14.1) K15.1) K16.1)) (v := some (.int (1 : Int32))) (fun h => by rw [Bd.returns] at h; cases h)
  refine ⟨_, _, castTop (ef_0 m p1 p2 p3 p4) ?_, hrun, hended, _, _, rfl, ?_, hw1, hw2, hw3, hw4.mono (by decide) (by decide)⟩
  · show Steps p.tables e below (s₁.setTop (mkF m 0 #[vI p1, vI p2, vI p3, vI p4, vU, vU, vU, vU, vU, vU, vU, vU, vU, vU, vU, vU] [])) _
    refine XS.iloadN X0.here hx rfl (hb hby at_0) rfl ?_
    refine XS.iconst X0.here hx rfl (hb hby at_1) ?_
    refine XS.iand X0.here hx rfl (hb hby at_2) rfl ?_
    refine XS.ifYes X0.here hx rfl (pc0 := 3) (pc' := 10) rfl (hb hby at_3) rfl ((if0 _ _).trans (feq hc3).2) (by decide) (by decide) ?_
    refine XS.iconst X0.here hx rfl (hb hby at_10) ?_
    refine XS.istore X0.here hx rfl (hb hby at_11) rfl (l' := #[vI p1, vI p2, vI p3, vI p4, vI (0 : Int32), vU, vU, vU, vU, vU, vU, vU, vU, vU, vU, vU]) rfl ?_
    refine XS.iload X0.here hx rfl (hb hby at_13) rfl ?_
    refine XS.ifYes X0.here hx rfl (pc0 := 15) (pc' := 24) rfl (hb hby at_15) rfl ((if0 _ _).trans (teq (rfl : (0 : Int32) = (0 : Int32))).1) (by decide) (by decide) ?_
    refine st5 _ ?_
    refine XS.astore X5.here hx rfl (hb hby at_27) rfl rfl (l' := #[vI p1, vI p2, vI p3, vI p4, vI (0 : Int32), vA yr_, vU, vU, vU, vU, vU, vU, vU, vU, vU, vU]) rfl ?_
    refine XS.iload X5.here hx rfl (hb hby at_29) rfl ?_
    refine XS.ifYes X5.here hx rfl (pc0 := 31) (pc' := 39) rfl (hb hby at_31) rfl ((if0 _ _).trans (teq (rfl : (0 : Int32) = (0 : Int32))).1) (by decide) (by decide) ?_
    refine st6 _ ?_
    refine XS.astore X6.here hx rfl (hb hby at_41) rfl rfl (l' := #[vI p1, vI p2, vI p3, vI p4, vI (0 : Int32), vA yr_, vA c6, vU, vU, vU, vU, vU, vU, vU, vU, vU]) rfl ?_
    refine XS.iloadN X6.here hx rfl (hb hby at_43) rfl ?_
    refine X6.ldcInt hx hown6 (mvT hZ6 (hi 11 rfl)) (g := (mkF m 44 #[vI p1, vI p2, vI p3, vI p4, vI (0 : Int32), vA yr_, vA c6, vU, vU, vU, vU, vU, vU, vU, vU, vU] [(.int p2)])) rfl (hb hby at_44) _ ?_
    refine XS.iand X6.here hx rfl (hb hby at_46) rfl ?_
    refine XS.iconst X6.here hx rfl (hb hby at_47) ?_
    refine XS.irem X6.here hx rfl (hb hby at_48) rfl (by decide) ?_
    refine XS.istore X6.here hx rfl (hb hby at_49) rfl (l' := #[vI p1, vI p2, vI p3, vI p4, vI (0 : Int32), vA yr_, vA c6, vI (t0_0 p2), vU, vU, vU, vU, vU, vU, vU, vU]) rfl ?_
    refine XS.iloadN X6.here hx rfl (hb hby at_51) rfl ?_
    refine XS.sipush X6.here hx rfl (hb hby at_52) ?_
    refine XS.iand X6.here hx rfl (hb hby at_55) rfl ?_
    refine XS.i2c X6.here hx rfl (hb hby at_56) rfl ?_
    refine XS.istore X6.here hx rfl (hb hby at_57) rfl (l' := #[vI p1, vI p2, vI p3, vI p4, vI (0 : Int32), vA yr_, vA c6, vI (t0_0 p2), vI ((p3 &&& (255 : Int32)).toUInt32.toUInt16.toUInt32.toInt32), vU, vU, vU, vU, vU, vU, vU]) rfl ?_
    refine XS.iloadN X6.here hx rfl (hb hby at_59) rfl ?_
    refine XS.sipush X6.here hx rfl (hb hby at_60) ?_
    refine XS.iand X6.here hx rfl (hb hby at_63) rfl ?_
    refine XS.i2c X6.here hx rfl (hb hby at_64) rfl ?_
    refine XS.istore X6.here hx rfl (hb hby at_65) rfl (l' := #[vI p1, vI p2, vI p3, vI p4, vI (0 : Int32), vA yr_, vA c6, vI (t0_0 p2), vI ((p3 &&& (255 : Int32)).toUInt32.toUInt16.toUInt32.toInt32), vI ((p4 &&& (255 : Int32)).toUInt32.toUInt16.toUInt32.toInt32), vU, vU, vU, vU, vU, vU]) rfl ?_
    refine XS.iconst X6.here hx rfl (hb hby at_67) ?_
    refine st7 _ ?_
    refine XS.astore X7.here hx rfl (hb hby at_70) rfl rfl (l' := #[vI p1, vI p2, vI p3, vI p4, vI (0 : Int32), vA yr_, vA c6, vI (t0_0 p2), vI ((p3 &&& (255 : Int32)).toUInt32.toUInt16.toUInt32.toInt32), vI ((p4 &&& (255 : Int32)).toUInt32.toUInt16.toUInt32.toInt32), vA b7, vU, vU, vU, vU, vU]) rfl ?_
    refine XS.aload X7.here hx rfl (hb hby at_72) rfl rfl ?_
    refine XS.iconst X7.here hx rfl (hb hby at_74) ?_
    refine XS.iload X7.here hx rfl (hb hby at_75) rfl ?_
    refine st8 _ ?_
    refine XS.aload X8.here hx rfl (hb hby at_78) rfl rfl ?_
    refine XS.iconst X8.here hx rfl (hb hby at_80) ?_
    refine XS.iload X8.here hx rfl (hb hby at_81) rfl ?_
    refine st9 _ ?_
    refine XS.iload X9.here hx rfl (hb hby at_84) rfl ?_
    refine XS.ifYes X9.here hx rfl (pc0 := 86) (pc' := 94) rfl (hb hby at_86) rfl ((if0 _ _).trans (feq hc86).2) (by decide) (by decide) ?_
    refine XS.iload X9.here hx rfl (hb hby at_94) rfl ?_
    refine XS.iconst X9.here hx rfl (hb hby at_96) ?_
    refine XS.icmpYes X9.here hx rfl (pc0 := 97) (pc' := 108) rfl (hb hby at_97) rfl (feq hc97).2 (by decide) (by decide) ?_
    show Steps p.tables e below (T9.setTop (mkF m 108 #[vI p1, vI p2, vI p3, vI p4, vI (0 : Int32), vA yr_, vA c6, vI (t0_0 p2), vI ((p3 &&& (255 : Int32)).toUInt32.toUInt16.toUInt32.toInt32), vI ((p4 &&& (255 : Int32)).toUInt32.toUInt16.toUInt32.toInt32), vA b7, vU, vU, vU, vU, vU] [])) _
    rw [show (t0_0 p2) = (2 : Int32) from (own_t3 p2 hc86 hc97)]
    refine st10 _ ?_
    refine XS.dup X10.here hx rfl (hb hby at_111) rfl rfl ?_
    refine XS.aload X10.here hx rfl (hb hby at_112) rfl rfl ?_
    refine st11.trans ?_
    refine XS.astore X11.here hx rfl (hb hby at_117) rfl rfl (l' := #[vI p1, vI p2, vI p3, vI p4, vI (0 : Int32), vA yr_, vA c6, vI (2 : Int32), vI ((p3 &&& (255 : Int32)).toUInt32.toUInt16.toUInt32.toInt32), vI ((p4 &&& (255 : Int32)).toUInt32.toUInt16.toUInt32.toInt32), vA b7, vA b10, vU, vU, vU, vU]) rfl ?_
    refine st12 _ ?_
    refine XS.dup X12.here hx rfl (hb hby at_122) rfl rfl ?_
    refine XS.aload X12.here hx rfl (hb hby at_123) rfl rfl ?_
    refine st13.trans ?_
    refine XS.astore X13.here hx rfl (hb hby at_128) rfl rfl (l' := #[vI p1, vI p2, vI p3, vI p4, vI (0 : Int32), vA yr_, vA c6, vI (2 : Int32), vI ((p3 &&& (255 : Int32)).toUInt32.toUInt16.toUInt32.toInt32), vI ((p4 &&& (255 : Int32)).toUInt32.toUInt16.toUInt32.toInt32), vA b7, vA b10, vA b12, vU, vU, vU]) rfl ?_
    refine XS.aload X13.here hx rfl (hb hby at_130) rfl rfl ?_
    refine XS.aload X13.here hx rfl (hb hby at_132) rfl rfl ?_
    refine st14.trans ?_
    refine XS.astore X14.here hx rfl (hb hby at_137) rfl rfl (l' := #[vI p1, vI p2, vI p3, vI p4, vI (0 : Int32), vA yr_, vA c6, vI (2 : Int32), vI ((p3 &&& (255 : Int32)).toUInt32.toUInt16.toUInt32.toInt32), vI ((p4 &&& (255 : Int32)).toUInt32.toUInt16.toUInt32.toInt32), vA b7, vA b10, vA b12, vA b12, vU, vU]) rfl ?_
    refine XS.aload X14.here hx rfl (hb hby at_139) rfl rfl ?_
    refine st15.trans ?_
    refine XS.astore X15.here hx rfl (hb hby at_144) rfl rfl (l' := #[vI p1, vI p2, vI p3, vI p4, vI (0 : Int32), vA yr_, vA c6, vI (2 : Int32), vI ((p3 &&& (255 : Int32)).toUInt32.toUInt16.toUInt32.toInt32), vI ((p4 &&& (255 : Int32)).toUInt32.toUInt16.toUInt32.toInt32), vA b7, vA b10, vA b12, vA b12, vA b12, vU]) rfl ?_
    refine XS.aload X15.here hx rfl (hb hby at_146) rfl rfl ?_
    refine st16.trans ?_
    refine XS.astore X16.here hx rfl (hb hby at_151) rfl rfl (l' := #[vI p1, vI p2, vI p3, vI p4, vI (0 : Int32), vA yr_, vA c6, vI (2 : Int32), vI ((p3 &&& (255 : Int32)).toUInt32.toUInt16.toUInt32.toInt32), vI ((p4 &&& (255 : Int32)).toUInt32.toUInt16.toUInt32.toInt32), vA b7, vA b10, vA b12, vA b12, vA b12, vA b2_5_16]) rfl ?_
    refine XS.aload X16.here hx rfl (hb hby at_153) rfl rfl ?_
    refine XS.aload X16.here hx rfl (hb hby at_155) rfl rfl ?_
    refine Jvm.RoadKit.acmp (g := (mkF m 157 #[vI p1, vI p2, vI p3, vI p4, vI (0 : Int32), vA yr_, vA c6, vI (2 : Int32), vI ((p3 &&& (255 : Int32)).toUInt32.toUInt16.toUInt32.toInt32), vI ((p4 &&& (255 : Int32)).toUInt32.toUInt16.toUInt32.toInt32), vA b7, vA b10, vA b12, vA b12, vA b12, vA b2_5_16] [(.ref b12), (.ref b12)])) X16 hx rfl rfl rfl (pc0 := 157) (pc' := 160) (same := true) rfl (hb hby at_157) rfl (decide_eq_true rfl) (by decide) (by decide) ?_
    refine XS.aload X16.here hx rfl (hb hby at_160) rfl rfl ?_
    refine XS.aload X16.here hx rfl (hb hby at_162) rfl rfl ?_
    refine Jvm.RoadKit.acmp (g := (mkF m 164 #[vI p1, vI p2, vI p3, vI p4, vI (0 : Int32), vA yr_, vA c6, vI (2 : Int32), vI ((p3 &&& (255 : Int32)).toUInt32.toUInt16.toUInt32.toInt32), vI ((p4 &&& (255 : Int32)).toUInt32.toUInt16.toUInt32.toInt32), vA b7, vA b10, vA b12, vA b12, vA b12, vA b2_5_16] [(.ref b12), (.ref b12)])) X16 hx rfl rfl rfl (pc0 := 164) (pc' := 167) (same := true) rfl (hb hby at_164) rfl (decide_eq_true rfl) (by decide) (by decide) ?_
    refine XS.aload X16.here hx rfl (hb hby at_167) rfl rfl ?_
    refine st17.trans ?_
    refine XS.iload X17.here hx rfl (hb hby at_172) rfl ?_
    refine XS.aload X17.here hx rfl (hb hby at_174) rfl rfl ?_
    refine st18.trans ?_
    refine XS.iadd X18.here hx rfl (hb hby at_179) rfl ?_
    refine XS.icmpNo X18.here hx rfl (hb hby at_180) rfl (teq (rfl : (15 : Int32) = (15 : Int32))).2 ?_
    refine XS.iload X18.here hx rfl (hb hby at_183) rfl ?_
    refine XS.iconst X18.here hx rfl (hb hby at_185) ?_
    refine XS.icmpNo X18.here hx rfl (hb hby at_186) rfl (flt (by decide : ¬ ((2 : Int32) < (1 : Int32)))).1 ?_
    refine XS.aload X18.here hx rfl (hb hby at_189) rfl rfl ?_
    refine XS.iconst X18.here hx rfl (hb hby at_191) ?_
    refine st19.trans ?_
    refine XS.iload X19.here hx rfl (hb hby at_195) rfl ?_
    refine XS.icmpNo X19.here hx rfl (hb hby at_197) rfl (teq (show (t0_2 p3) = ((p3 &&& (255 : Int32)).toUInt32.toUInt16.toUInt32.toInt32) from own_chr2 p3)).2 ?_
    refine XS.iload X19.here hx rfl (hb hby at_200) rfl ?_
    refine XS.iconst X19.here hx rfl (hb hby at_202) ?_
    refine XS.icmpNo X19.here hx rfl (hb hby at_203) rfl (flt (fun q => Int32.lt_irrefl q : ¬ ((2 : Int32) < (2 : Int32)))).1 ?_
    refine XS.aload X19.here hx rfl (hb hby at_206) rfl rfl ?_
    refine XS.iconst X19.here hx rfl (hb hby at_208) ?_
    refine st20.trans ?_
    refine XS.iload X20.here hx rfl (hb hby at_212) rfl ?_
    refine XS.icmpNo X20.here hx rfl (hb hby at_214) rfl (teq (show (t0_3 p4) = ((p4 &&& (255 : Int32)).toUInt32.toUInt16.toUInt32.toInt32) from own_chr2 p4)).2 ?_
    refine XS.aload X20.here hx rfl (hb hby at_217) rfl rfl ?_
    refine XS.iload X20.here hx rfl (hb hby at_219) rfl ?_
    refine XS.aload X20.here hx rfl (hb hby at_221) rfl rfl ?_
    refine st21 _ ?_
    refine XS.ifNo X21.here hx rfl (hb hby at_226) rfl ((if0 _ _).trans (feq (by decide : ¬ ((1 : Int32) = (0 : Int32)))).1) ?_
    refine XS.iconst X21.here hx rfl (hb hby at_229) ?_
    refine XS.goto X21.here hx rfl (pc0 := 230) (pc' := 234) rfl (hb hby at_230) (by decide) (by decide) ?_
    show Steps p.tables e below (T21.setTop (mkF m 234 #[vI p1, vI p2, vI p3, vI p4, vI (0 : Int32), vA yr_, vA c6, vI (2 : Int32), vI ((p3 &&& (255 : Int32)).toUInt32.toUInt16.toUInt32.toInt32), vI ((p4 &&& (255 : Int32)).toUInt32.toUInt16.toUInt32.toInt32), vA b7, vA b10, vA b12, vA b12, vA b12, vA b2_5_16] [(.int (1 : Int32))])) _
    exact retN X21 hx (t := .boolean) Bd.returns (by simp) (hb hby at_234) hr
  · show Q_rm0 Z p1 p2 p3 p4 yr_ yg_ ya_ yp_ yo_ yb_ yt_ yi_ yk_ yl_ yq_ h0 n0 _ T21.heap _
    exact ⟨rfl, N21⟩
set_option maxRecDepth 65536 in
set_option maxHeartbeats 40000000 in
theorem rm0_ff (l : Launch) (Z : State) (a0 : Array Value) (hw : ∀ d ∈ tables_1, d.before a0 Z = true) (ws : List Jvm.Cond) (p1 : Int32) (p2 : Int32) (p3 : Int32) (p4 : Int32) (yr_ : Addr) (yg_ : Addr) (ya_ : Int32) (yp_ : Addr) (yo_ : Addr) (yb_ : Value) (yt_ : ClassId) (yi_ : Addr) (yk_ : Addr) (yl_ : Addr) (yq_ : ClassId) (h0 : Heap) (n0 : Nat) (Z0 : n0 ≤ h0.size) (hcs : ¬ (ya_ = (0 : Int32))) (hsv : yb_.isRef = true) (ydh_ : Sta Z h0 "underdeck/deck/Dialect" "MARIADB" "Lunderdeck/deck/Dialect;" (.ref yr_)) (yaj_ : Sta Z h0 "java/util/ArrayList" "DEFAULTCAPACITY_EMPTY_ELEMENTDATA" "[Ljava/lang/Object;" (.ref yg_)) (yf_ : Sta Z h0 "java/lang/String" "COMPACT_STRINGS" "Z" (.int ya_)) (yal_ : Fld Z h0 yr_ "underdeck/deck/Dialect" "defaultsOnly" "Ljava/lang/String;" (.ref yp_)) (ym_ : Fld Z h0 yp_ "java/lang/String" "value" "[B" (.ref yo_)) (ycz_ : Exa Z h0 yr_ "underdeck/deck/Dialect") (yay_ : Fld Z h0 yp_ "java/lang/String" "coder" "B" (.int (0 : Int32))) (ybc_ : Exa Z h0 yp_ "java/lang/String") (yx_ : Sta Z h0 "jdk/internal/util/Preconditions" "SIOOBE_FORMATTER" "Ljava/util/function/BiFunction;" yb_) (yy_ : Arv Z h0 yo_ yt_ .byte (13 : Int32) (ls_0) (.int (0 : Int32))) (ycl_ : Sta Z h0 "underdeck/deck/Dialect" "POSTGRESQL" "Lunderdeck/deck/Dialect;" (.ref yi_)) (yah_ : Fld Z h0 yi_ "underdeck/deck/Dialect" "defaultsOnly" "Ljava/lang/String;" (.ref yk_)) (yj_ : Fld Z h0 yk_ "java/lang/String" "value" "[B" (.ref yl_)) (ycb_ : Exa Z h0 yi_ "underdeck/deck/Dialect") (yau_ : Fld Z h0 yk_ "java/lang/String" "coder" "B" (.int (0 : Int32))) (yba_ : Exa Z h0 yk_ "java/lang/String") (yu_ : Arv Z h0 yl_ yq_ .byte (15 : Int32) (ls_8) (.int (0 : Int32))) (hc3 : (p1 &&& (1 : Int32)) = (0 : Int32)) (hc86 : (t0_0 p2) = (0 : Int32)) :
    MetFree l x (head1 (Jvm.Cond.code x code maxLocals ret :: ws) room_1) (fun a U => a = #[(.int p1), (.int p2), (.int p3), (.int p4)] ∧ Z.Warmed39 U.vm ∧ U.heap = h0 ∧ CHv Z consts_1 U.vm h0) (fun _ _ _ _ _ => True) (fun _ U o U' => ∃ v L, o = .returned v ∧ Q_rm0 Z p1 p2 p3 p4 yr_ yg_ ya_ yp_ yo_ yb_ yt_ yi_ yk_ yl_ yq_ h0 n0 v U'.heap L ∧ ReturnedEndW U o U' L room_1.cells room_1.slots) := by
  have hi : ∀ (i : Nat) {d : Jvm.Cond}, tables_1[i]? = some d → d.before a0 Z = true := fun i d h => hw d (List.mem_of_getElem? h)
  refine MetFree.of_bodySF (plainFor_of_name pn_0) hisR ?_
  intro p e s m args below meth c s₁ Bd hml0 hP hK
  obtain ⟨rfl, hZ, hh, hCH⟩ := hP
  have hx := Bd.exec
  have hby := Bd.bytes
  have hml : c.maxLocals = 16 := hml0
  have hown : s.vm.findClass "underdeck/deck/SqlTextDefaultsOnlyPinLaw" = some m.cls := findClass_of_methodNamed Bd.named
  have hnm := (name_of_methodNamed Bd.named Bd.method).1
  have X0 : Stand p l e room_1 (s.setVm s.vm) m #[(.int p1), (.int p2), (.int p3), (.int p4)] below meth c s₁ [] 0 0 := Stand.of_body Bd
  have e0 : s₁.heap = h0 := by rw [← hh, Bd.state]; rfl
  have N0 := Fr.nil n0
  have hS0 : s.Since s.vm h0.size := (State.WarmedH.refl s).since _
  obtain ⟨T5, X5, e5, st5⟩ := getS2 X0 hx hZ hown (host := "") (Or.inl (hi 0 rfl)) Via.refl e0 ycl_ (g := (mkF m 18 #[vI p1, vI p2, vI p3, vI p4, vI (1 : Int32), vU, vU, vU, vU, vU, vU, vU, vU, vU, vU, vU] [])) rfl (hb hby at_18)
  obtain ⟨c6, T6, h6, k6, b6, kb6, X6, e6, E6, hS6, hk6, hZ6, hown6, iE6, iC6, iV6, iA6, -, -, hC6, hL6, -, st6⟩ := ldcCH (s := s) X5 hx hZ hown (hi 3 rfl) (own_strs hw) e5 hS0 (Nat.le_refl h0.size) (own_EW hw) (by simp [consts_1]) hCH (vs := [(.int (32 : Int32)), (.int (100 : Int32)), (.int (101 : Int32)), (.int (102 : Int32)), (.int (97 : Int32)), (.int (117 : Int32)), (.int (108 : Int32)), (.int (116 : Int32)), (.int (32 : Int32)), (.int (118 : Int32)), (.int (97 : Int32)), (.int (108 : Int32)), (.int (117 : Int32)), (.int (101 : Int32)), (.int (115 : Int32))]) (z := (15 : Int32)) ⟨by decide, rfl⟩ (by decide) rfl (g := (mkF m 34 #[vI p1, vI p2, vI p3, vI p4, vI (1 : Int32), vA yi_, vU, vU, vU, vU, vU, vU, vU, vU, vU, vU] [])) rfl (hb hby at_34) (n := 60) (by decide) (by decide) (by decide) (by decide)
  obtain ⟨T7, h7, k7, X7, e7, E7, A7, iE7, st7⟩ := newPE X6 hx hZ6 (hi 12 rfl) e6 (g := (mkF m 68 #[vI p1, vI p2, vI p3, vI p4, vI (1 : Int32), vA yi_, vA c6, vI (t0_0 p2), vI ((p3 &&& (255 : Int32)).toUInt32.toUInt16.toUInt32.toInt32), vI ((p4 &&& (255 : Int32)).toUInt32.toUInt16.toUInt32.toInt32), vU, vU, vU, vU, vU, vU] [(.int (2 : Int32))])) rfl (hb hby at_68) rfl (by decide) (cap := 2) (by decide) (by decide) (by decide) (by decide) (ad := "[C") rfl
  obtain ⟨b7, g7⟩ : ∃ z, z = h6.size := ⟨_, rfl⟩
  rw [← g7] at A7 iE7 st7
  have g_b7 : n0 ≤ b7 := Nat.le_trans (Nat.le_trans Z0 E6.1) (Nat.le_of_eq g7.symm)
  have sz_b7 : h0.size ≤ b7 := Nat.le_trans (Nat.le_trans (Nat.le_refl h0.size) E6.1) (Nat.le_of_eq g7.symm)
  have V_b7 : Arv Z h7 b7 k7 .char (2 : Int32) [(.int (0 : Int32)), (.int (0 : Int32))] (.int (0 : Int32)) := (Arv.new A7 (by decide)).pad (pad_rep [] (.int (0 : Int32)) 2)
  obtain ⟨cl_b7_0, Ar_b7_0, q_b7_0, Sz_b7_0, Ng_b7_0, Ha_b7_0, Gt_b7_0⟩ := id V_b7
  have yem_ : ¬ ((0 : Int32) < 0 ∨ cl_b7_0.slots.size ≤ ((0 : Int32)).toNatClampNeg) := inb_of Sz_b7_0 ⟨by decide, by decide⟩
  obtain ⟨T8, h8, X8, e8, W8, st8⟩ := stC X7 hx hZ6 e7 Ar_b7_0 (j := (0 : Int32)) yem_ (g := (mkF m 77 #[vI p1, vI p2, vI p3, vI p4, vI (1 : Int32), vA yi_, vA c6, vI (t0_0 p2), vI ((p3 &&& (255 : Int32)).toUInt32.toUInt16.toUInt32.toInt32), vI ((p4 &&& (255 : Int32)).toUInt32.toUInt16.toUInt32.toInt32), vA b7, vU, vU, vU, vU, vU] [(.int ((p3 &&& (255 : Int32)).toUInt32.toUInt16.toUInt32.toInt32)), (.int (0 : Int32)), (.ref b7)])) rfl rfl (hb hby at_77)
  have V8 : Arv Z h8 b7 k7 .char (2 : Int32) [(.int (nar .char ((p3 &&& (255 : Int32)).toUInt32.toUInt16.toUInt32.toInt32))), (.int (0 : Int32))] (.int (0 : Int32)) := Arv.set Ar_b7_0 q_b7_0 Sz_b7_0 Ng_b7_0 Ha_b7_0 Gt_b7_0 (fits_nar_char _) W8 0 rfl (Nat.le_of_ble_eq_true rfl)
  have N8 := Fr.snoc X8 N0 g_b7
  obtain ⟨cl_b7_1, Ar_b7_1, q_b7_1, Sz_b7_1, Ng_b7_1, Ha_b7_1, Gt_b7_1⟩ := id V8
  have yen_ : ¬ ((1 : Int32) < 0 ∨ cl_b7_1.slots.size ≤ ((1 : Int32)).toNatClampNeg) := inb_of Sz_b7_1 ⟨by decide, by decide⟩
  obtain ⟨T9, h9, X9, e9, W9, st9⟩ := stC X8 hx hZ6 e8 Ar_b7_1 (j := (1 : Int32)) yen_ (g := (mkF m 83 #[vI p1, vI p2, vI p3, vI p4, vI (1 : Int32), vA yi_, vA c6, vI (t0_0 p2), vI ((p3 &&& (255 : Int32)).toUInt32.toUInt16.toUInt32.toInt32), vI ((p4 &&& (255 : Int32)).toUInt32.toUInt16.toUInt32.toInt32), vA b7, vU, vU, vU, vU, vU] [(.int ((p4 &&& (255 : Int32)).toUInt32.toUInt16.toUInt32.toInt32)), (.int (1 : Int32)), (.ref b7)])) rfl rfl (hb hby at_83)
  have V9 : Arv Z h9 b7 k7 .char (2 : Int32) [(.int (nar .char ((p3 &&& (255 : Int32)).toUInt32.toUInt16.toUInt32.toInt32))), (.int (nar .char ((p4 &&& (255 : Int32)).toUInt32.toUInt16.toUInt32.toInt32)))] (.int (0 : Int32)) := Arv.set Ar_b7_1 q_b7_1 Sz_b7_1 Ng_b7_1 Ha_b7_1 Gt_b7_1 (fits_nar_char _) W9 1 rfl (Nat.le_of_ble_eq_true rfl)
  have N9 := Fr.snoc X9 N8 g_b7
  obtain ⟨c10, T10, h10, k10, b10, kb10, X10, e10, E10, hS10, hk10, hZ10, hown10, iE10, iC10, iV10, iA10, -, -, hC10, hL10, -, st10⟩ := ldcCH (s := s) X9 hx hZ6 hown6 (hi 13 rfl) (own_strs hw) e9 hS6 (Nat.le_trans (Nat.le_trans (Nat.le_trans hk6 E7.1) (Keep.of_wr W8).1) (Keep.of_wr W9).1) (own_EW hw) (by simp [consts_1]) (CHv.wr W9 (Safe.arv hZ6.alike V8 (by decide)) (CHv.wr W8 (Safe.arv hZ6.alike V_b7 (by decide)) (CHv.ext E7 hC6.1))) (vs := []) (z := (0 : Int32)) ⟨by decide, rfl⟩ (by decide) rfl (g := (mkF m 89 #[vI p1, vI p2, vI p3, vI p4, vI (1 : Int32), vA yi_, vA c6, vI (0 : Int32), vI ((p3 &&& (255 : Int32)).toUInt32.toUInt16.toUInt32.toInt32), vI ((p4 &&& (255 : Int32)).toUInt32.toUInt16.toUInt32.toInt32), vA b7, vU, vU, vU, vU, vU] [])) rfl (hb hby at_89) (n := 0) (by decide) (by decide) (by decide) (by decide)
  have f2 := ((((iE6.ext E7).wr W8).wr W9).ext E10)
  have f3 := (((iE7.wr W8).wr W9).ext E10)
  have f4 := ((((iA6.ext E7).other W8 (Nat.ne_of_lt (Nat.lt_of_lt_of_le iA6.lt (Nat.le_of_eq g7.symm)))).other W9 (Nat.ne_of_lt (Nat.lt_of_lt_of_le iA6.lt (Nat.le_of_eq g7.symm)))).ext E10)
  obtain ⟨T11, h11, X11, e11, E11, A11, D11, -, st11⟩ := newO X10 hx hZ10 hown10 (hi 14 rfl) (hi 15 rfl) (hi 16 rfl) e10 (g := (mkF m 119 #[vI p1, vI p2, vI p3, vI p4, vI (1 : Int32), vA yi_, vA c6, vI (0 : Int32), vI ((p3 &&& (255 : Int32)).toUInt32.toUInt16.toUInt32.toInt32), vI ((p4 &&& (255 : Int32)).toUInt32.toUInt16.toUInt32.toInt32), vA b7, vA c10, vU, vU, vU, vU] [])) rfl (hb hby at_119) (by decide) (by decide)
  obtain ⟨b11, g11⟩ : ∃ z, z = h10.size := ⟨_, rfl⟩
  rw [← g11] at A11 D11 st11
  have g_b11 : n0 ≤ b11 := Nat.le_trans (Nat.le_trans (Nat.le_trans (Nat.le_trans (Nat.le_trans (Nat.le_trans Z0 E6.1) E7.1) (Keep.of_wr W8).1) (Keep.of_wr W9).1) E10.1) (Nat.le_of_eq g11.symm)
  have sz_b11 : h0.size ≤ b11 := Nat.le_trans (Nat.le_trans (Nat.le_trans (Nat.le_trans (Nat.le_trans (Nat.le_trans (Nat.le_refl h0.size) E6.1) E7.1) (Keep.of_wr W8).1) (Keep.of_wr W9).1) E10.1) (Nat.le_of_eq g11.symm)
  have yev_ : Fld Z h11 b11 "underdeck/deck/SqlText" "parts" "Ljava/util/List;" .null := D11 (Or.inr (hi 48 rfl)) (ty := (.object "java/util/List")) (by decide)
  have yee_ : Fld Z h11 b11 "underdeck/deck/SqlText" "current" "Ljava/lang/StringBuilder;" .null := D11 (Or.inr (hi 68 rfl)) (ty := (.object "java/lang/StringBuilder")) (by decide)
  have ydj_ : Fld Z h11 b11 "underdeck/deck/SqlText" "placeholders" "Ljava/util/List;" .null := D11 (Or.inr (hi 70 rfl)) (ty := (.object "java/util/List")) (by decide)
  have yew_ : Fld Z h11 b11 "underdeck/deck/SqlText" "types" "Ljava/util/Map;" .null := D11 (Or.inr (hi 88 rfl)) (ty := (.object "java/util/Map")) (by decide)
  have yds_ : Fld Z h11 b11 "underdeck/deck/SqlText" "groupLists" "Ljava/util/Map;" .null := D11 (Or.inr (hi 90 rfl)) (ty := (.object "java/util/Map")) (by decide)
  have yex_ : Fld Z h11 b11 "underdeck/deck/SqlText" "names" "Ljava/util/Set;" .null := D11 (Or.inr (hi 111 rfl)) (ty := (.object "java/util/Set")) (by decide)
  have yef_ : Fld Z h11 b11 "underdeck/deck/SqlText" "dialect" "Lunderdeck/deck/Dialect;" .null := D11 (Or.inr (hi 113 rfl)) (ty := (.object "underdeck/deck/Dialect")) (by decide)
  have f5 := ((((((yaj_.ext E6).ext E7).wr W8).wr W9).ext E10).ext E11)
  have f6 := ((((((yf_.ext E6).ext E7).wr W8).wr W9).ext E10).ext E11)
  obtain ⟨_, _, ⟨T12, L12, k12, n12⟩, -, X12, ⟨Lc12, hQ12, l12, y12, z12⟩, st12⟩ := X11.specialBack hx (y := mN49) rfl hown10 (mvT hZ10 (hi 17 rfl)) (mvT hZ10 (hi 18 rfl)) (mvT hZ10 (hi 19 rfl)) (by decide) (backOf (W := 1) (rm1 l Z a0 hw [] b11 yi_ yg_ .null ya_ .null .null .null .null .null .null h11 n0 (Nat.le_trans (Nat.le_trans (Nat.le_trans (Nat.le_trans (Nat.le_trans (Nat.le_trans Z0 E6.1) E7.1) (Keep.of_wr W8).1) (Keep.of_wr W9).1) E10.1) E11.1) hcs f5 A11 yev_ g_b11 f6 yee_ ydj_ yew_ yds_ yex_ yef_) hZ10 (hi 19 rfl) (hi 16 rfl) (by decide) (by decide)) (g := (mkF m 125 #[vI p1, vI p2, vI p3, vI p4, vI (1 : Int32), vA yi_, vA c6, vI (0 : Int32), vI ((p3 &&& (255 : Int32)).toUInt32.toUInt16.toUInt32.toInt32), vI ((p4 &&& (255 : Int32)).toUInt32.toUInt16.toUInt32.toInt32), vA b7, vA c10, vU, vU, vU, vU] [(.ref yi_), (.ref b11), (.ref b11)])) rfl (by rw [hml]; rfl) (Steps.refl _) (a := b11) (argsL := [(.ref yi_)]) (rest := [(.ref b11)]) (lenOf ybm_ rfl) rfl (by show 2 * 0 + _ ≤ _; exact Nat.le_of_eq rfl) (hb hby at_125) (fun _ _ => ⟨rfl, e11, (by decide : 6 + 8 ≤ _), (by decide : 77 + 51 ≤ _)⟩)
  dsimp only [Pt.U, Pt.locs, Pt.cells, Pt.slots] at X12 l12 y12 z12 st12 hQ12
  subst l12 y12 z12
  obtain ⟨b7_12, ⟨ybj_, ⟨b10_12, ⟨ybs_, ⟨rfl, N12q, K12, i12_0, i12_1, i12_2, i12_3, i12_4, i12_5, i12_6, i12_7, i12_8, i12_9, i12_10, i12_11, i12_12, i12_13, i12_14, i12_15, i12_16, i12_17, i12_18, i12_19⟩⟩⟩⟩⟩ := hQ12
  have N12 := Fr.app N9 N12q
  have f7 := (f2.ext E11)
  have f8 := (f3.ext E11)
  have f9 := (iE10.ext E11)
  have f10 := (f4.ext E11)
  have f11 := (iA10.ext E11)
  have ych_ : h0.size ≤ b7_12 := Nat.le_trans (Nat.le_trans (Nat.le_trans (Nat.le_trans (Nat.le_trans (Nat.le_trans (Nat.le_trans (Nat.le_refl h0.size) E6.1) E7.1) (Keep.of_wr W8).1) (Keep.of_wr W9).1) E10.1) E11.1) i12_0
  have g_b7_12 : n0 ≤ b7_12 := Nat.le_trans Z0 ych_
  have ybk_ : h0.size ≤ ybj_ := Nat.le_trans (Nat.le_trans (Nat.le_trans (Nat.le_trans (Nat.le_trans (Nat.le_trans (Nat.le_trans (Nat.le_refl h0.size) E6.1) E7.1) (Keep.of_wr W8).1) (Keep.of_wr W9).1) E10.1) E11.1) i12_1
  have ydq_ : n0 ≤ ybj_ := Nat.le_trans Z0 ybk_
  have ygr_ : h0.size ≤ b10_12 := Nat.le_trans (Nat.le_trans (Nat.le_trans (Nat.le_trans (Nat.le_trans (Nat.le_trans (Nat.le_trans (Nat.le_refl h0.size) E6.1) E7.1) (Keep.of_wr W8).1) (Keep.of_wr W9).1) E10.1) E11.1) i12_2
  have ymw_ : n0 ≤ b10_12 := Nat.le_trans Z0 ygr_
  have f12 := ((iV10.ext E11).keep K12 (own_nm (Nat.ne_of_lt (Nat.lt_of_lt_of_le iE10.lt (Nat.le_of_eq g11.symm))) own_n0))
  have f13 := (f11.keep K12 (own_nm (Nat.ne_of_lt (Nat.lt_of_lt_of_le iA10.lt (Nat.le_of_eq g11.symm))) own_n0))
  have f14 := (own_sta_keep f6 K12 (own_qc (own_nst A11) own_q0))
  have f15 := ((iC10.ext E11).keep K12 (own_nm (Nat.ne_of_lt (Nat.lt_of_lt_of_le iE10.lt (Nat.le_of_eq g11.symm))) own_n0))
  have f16 := (f9.keep K12)
  obtain ⟨cq13, kq13, q13a, q13b, q13c⟩ := isOf hZ10 rfl i12_6
  obtain ⟨_, _, ⟨T13, L13, k13, n13⟩, -, X13, ⟨Lc13, hQ13, l13, y13, z13⟩, st13⟩ := X12.virtualBack hx (y := mN52) (z := mN52) hown10 (mvT hZ10 (hi 114 rfl)) (mvT hZ10 (hi 115 rfl)) (notFace_of_selects (args := #[]) (mvT hZ10 (hi 117 rfl))) (mvT hZ10 (hi 117 rfl)) (mvT hZ10 (hi 116 rfl)) (by decide) (backOf (W := 0) (rm12 l Z a0 hw [] b11 c10 b7_12 ybj_ b10 kb10 (0 : Int32) ([] : List Value) ya_ (0 : Int32) ybs_ (16 : Int32) ((List.replicate 16 (Value.int (0 : Int32))) : List Value) T12.heap n0 (Nat.le_trans (Nat.le_trans (Nat.le_trans (Nat.le_trans (Nat.le_trans (Nat.le_trans (Nat.le_trans Z0 E6.1) E7.1) (Keep.of_wr W8).1) (Keep.of_wr W9).1) E10.1) E11.1) K12.1) hcs i12_7 i12_12 f12 f13 f14 i12_11 i12_15 i12_13 f15 f16 i12_10 ydq_ g_b7_12 (by decide) (by decide) (by decide) (by decide) (by decide) (Nat.le_of_ble_eq_true rfl) i12_3 (Ne.symm i12_3)) hZ10 (hi 118 rfl) (hi 16 rfl) (by decide) (by decide)) q13a q13c (g := (mkF m 134 #[vI p1, vI p2, vI p3, vI p4, vI (1 : Int32), vA yi_, vA c6, vI (0 : Int32), vI ((p3 &&& (255 : Int32)).toUInt32.toUInt16.toUInt32.toInt32), vI ((p4 &&& (255 : Int32)).toUInt32.toUInt16.toUInt32.toInt32), vA b7, vA c10, vA b11, vU, vU, vU] [(.ref c10), (.ref b11)])) rfl (by rw [hml]; rfl) (Steps.refl _) (argsL := [(.ref c10)]) (rest := []) (lenOf yat_ rfl) rfl (by show 2 * 0 + _ ≤ _; exact Nat.le_of_eq rfl) (hb hby at_134) (fun _ _ => ⟨rfl, rfl, (by decide : 14 + 0 ≤ _), (by decide : 128 + 0 ≤ _)⟩)
  dsimp only [Pt.U, Pt.locs, Pt.cells, Pt.slots] at X13 l13 y13 z13 st13 hQ13
  subst l13 y13 z13
  obtain ⟨rfl, N13q, K13, i13_0, i13_1, i13_2, i13_3, i13_4⟩ := hQ13
  have N13 := Fr.app N12 N13q
  have Ui13_0 : Arv Z T13.heap ybj_ ybs_ .byte (16 : Int32) (List.replicate 16 (Value.int (0 : Int32))) (.int (0 : Int32)) := i13_0
  have Ui13_4 : Fld Z T13.heap b7_12 "java/lang/AbstractStringBuilder" "count" "I" (.int (0 : Int32)) := i13_4
  have f17 := (i12_9.keep K13 (own_nm (Nat.ne_of_lt (Nat.lt_of_lt_of_le A11.lt i12_1)) (own_nm (Nat.ne_of_lt (Nat.lt_of_lt_of_le A11.lt i12_0)) own_n0)))
  have f18 := ((((((((yah_.ext E6).ext E7).other W8 (Or.inl (Nat.ne_of_lt (Nat.lt_of_lt_of_le yah_.lt sz_b7)))).other W9 (Or.inl (Nat.ne_of_lt (Nat.lt_of_lt_of_le yah_.lt sz_b7)))).ext E10).ext E11).keep K12 (own_nm (Nat.ne_of_lt (Nat.lt_of_lt_of_le yah_.lt sz_b11)) own_n0)).keep K13 (own_nm (Nat.ne_of_lt (Nat.lt_of_lt_of_le yah_.lt ybk_)) (own_nm (Nat.ne_of_lt (Nat.lt_of_lt_of_le yah_.lt ych_)) own_n0)))
  have f19 := (i12_7.keep K13 (own_nm (Nat.ne_of_lt (Nat.lt_of_lt_of_le A11.lt i12_1)) (own_nm (Nat.ne_of_lt (Nat.lt_of_lt_of_le A11.lt i12_0)) own_n0)))
  have f20 := ((((((((yj_.ext E6).ext E7).other W8 (Or.inl (Nat.ne_of_lt (Nat.lt_of_lt_of_le yj_.lt sz_b7)))).other W9 (Or.inl (Nat.ne_of_lt (Nat.lt_of_lt_of_le yj_.lt sz_b7)))).ext E10).ext E11).keep K12 (own_nm (Nat.ne_of_lt (Nat.lt_of_lt_of_le yj_.lt sz_b11)) own_n0)).keep K13 (own_nm (Nat.ne_of_lt (Nat.lt_of_lt_of_le yj_.lt ybk_)) (own_nm (Nat.ne_of_lt (Nat.lt_of_lt_of_le yj_.lt ych_)) own_n0)))
  have f21 := ((((((((yu_.ext E6).ext E7).other W8 (Nat.ne_of_lt (Nat.lt_of_lt_of_le yu_.lt sz_b7))).other W9 (Nat.ne_of_lt (Nat.lt_of_lt_of_le yu_.lt sz_b7))).ext E10).ext E11).keep K12 (own_nm (Nat.ne_of_lt (Nat.lt_of_lt_of_le yu_.lt sz_b11)) own_n0)).keep K13 (own_nm (Nat.ne_of_lt (Nat.lt_of_lt_of_le yu_.lt ybk_)) (own_nm (Nat.ne_of_lt (Nat.lt_of_lt_of_le yu_.lt ych_)) own_n0)))
  have f22 := (own_sta_keep f14 K13 (own_qc (own_nst i12_14) (own_qc (own_nst i12_10) own_q0)))
  have f23 := ((((((((ycb_.ext E6).ext E7).wr W8).wr W9).ext E10).ext E11).keep K12).keep K13)
  have f24 := ((((((((yau_.ext E6).ext E7).other W8 (Or.inl (Nat.ne_of_lt (Nat.lt_of_lt_of_le yj_.lt sz_b7)))).other W9 (Or.inl (Nat.ne_of_lt (Nat.lt_of_lt_of_le yj_.lt sz_b7)))).ext E10).ext E11).keep K12 (own_nm (Nat.ne_of_lt (Nat.lt_of_lt_of_le yj_.lt sz_b11)) own_n0)).keep K13 (own_nm (Nat.ne_of_lt (Nat.lt_of_lt_of_le yj_.lt ybk_)) (own_nm (Nat.ne_of_lt (Nat.lt_of_lt_of_le yj_.lt ych_)) own_n0)))
  have f25 := ((((((((yba_.ext E6).ext E7).wr W8).wr W9).ext E10).ext E11).keep K12).keep K13)
  have f26 := (i12_6.keep K13)
  obtain ⟨cq14, kq14, q14a, q14b, q14c⟩ := isOf hZ10 rfl f26
  obtain ⟨_, _, ⟨T14, L14, k14, n14⟩, -, X14, ⟨Lc14, hQ14, l14, y14, z14⟩, st14⟩ := X13.virtualBack hx (y := mN50) (z := mN50) hown10 (mvT hZ10 (hi 169 rfl)) (mvT hZ10 (hi 170 rfl)) (notFace_of_selects (args := #[]) (mvT hZ10 (hi 172 rfl))) (mvT hZ10 (hi 172 rfl)) (mvT hZ10 (hi 171 rfl)) (by decide) (backOf (W := 0) (rm21 l Z a0 hw [] b11 yi_ yk_ b7_12 ybj_ yl_ yq_ (15 : Int32) ((ls_8) : List Value) ya_ (0 : Int32) ybs_ (16 : Int32) ((List.replicate 16 (Value.int (0 : Int32))) : List Value) T13.heap n0 (Nat.le_trans (Nat.le_trans (Nat.le_trans (Nat.le_trans (Nat.le_trans (Nat.le_trans (Nat.le_trans (Nat.le_trans Z0 E6.1) E7.1) (Keep.of_wr W8).1) (Keep.of_wr W9).1) E10.1) E11.1) K12.1) K13.1) hcs f17 f18 f23 f19 i13_2 f20 f21 f22 Ui13_4 Ui13_0 i13_3 f24 f25 i13_1 ydq_ g_b7_12 f26 (by decide) (by decide) (by decide) (by decide) (by decide) (Nat.le_of_ble_eq_true rfl) i12_3 (Ne.symm i12_3)) hZ10 (hi 173 rfl) (hi 16 rfl) (by decide) (by decide)) q14a q14c (g := (mkF m 141 #[vI p1, vI p2, vI p3, vI p4, vI (1 : Int32), vA yi_, vA c6, vI (0 : Int32), vI ((p3 &&& (255 : Int32)).toUInt32.toUInt16.toUInt32.toInt32), vI ((p4 &&& (255 : Int32)).toUInt32.toUInt16.toUInt32.toInt32), vA b7, vA c10, vA b11, vA b11, vU, vU] [(.ref b11)])) rfl (by rw [hml]; rfl) (Steps.refl _) (argsL := []) (rest := []) (lenOf ybo_ rfl) rfl (by show 2 * 0 + _ ≤ _; exact Nat.le_of_eq rfl) (hb hby at_141) (fun _ _ => ⟨rfl, rfl, (by decide : 14 + 0 ≤ _), (by decide : 128 + 0 ≤ _)⟩)
  dsimp only [Pt.U, Pt.locs, Pt.cells, Pt.slots] at X14 l14 y14 z14 st14 hQ14
  subst l14 y14 z14
  obtain ⟨rfl, N14q, K14, i14_0, i14_1, i14_2, i14_3, i14_4⟩ := hQ14
  have N14 := Fr.app N13 N14q
  have f27 := (i12_14.keep K13)
  have Ui14_0 : Arv Z T14.heap ybj_ ybs_ .byte (16 : Int32) (ls_9) (.int (0 : Int32)) := i14_0
  have Ui14_4 : Fld Z T14.heap b7_12 "java/lang/AbstractStringBuilder" "count" "I" (.int (15 : Int32)) := i14_4
  have f28 := ((i12_8.keep K13 (own_nm (Nat.ne_of_lt (Nat.lt_of_lt_of_le A11.lt i12_1)) (own_nm (Nat.ne_of_lt (Nat.lt_of_lt_of_le A11.lt i12_0)) own_n0))).keep K14 (own_nm (Nat.ne_of_lt (Nat.lt_of_lt_of_le A11.lt i12_1)) (own_nm (Nat.ne_of_lt (Nat.lt_of_lt_of_le A11.lt i12_0)) own_n0)))
  have f29 := (f19.keep K14 (own_nm (Nat.ne_of_lt (Nat.lt_of_lt_of_le A11.lt i12_1)) (own_nm (Nat.ne_of_lt (Nat.lt_of_lt_of_le A11.lt i12_0)) own_n0)))
  have f30 := (own_sta_keep f22 K14 (own_qc (own_nst f27) (own_qc (own_nst i13_1) own_q0)))
  have f31 := ((i12_18.keep K13 (own_nm (Ne.symm i12_5) (own_nm (Ne.symm i12_4) own_n0))).keep K14 (own_nm (Ne.symm i12_5) (own_nm (Ne.symm i12_4) own_n0)))
  have f32 := ((i12_16.keep K13).keep K14)
  have f33 := (f26.keep K14)
  obtain ⟨cq15, kq15, q15a, q15b, q15c⟩ := isOf hZ10 rfl f33
  obtain ⟨_, _, ⟨T15, L15, k15, n15⟩, -, X15, ⟨Lc15, hQ15, l15, y15, z15⟩, st15⟩ := X14.virtualBack hx (y := mN51) (z := mN51) hown10 (mvT hZ10 (hi 182 rfl)) (mvT hZ10 (hi 183 rfl)) (notFace_of_selects (args := #[]) (mvT hZ10 (hi 185 rfl))) (mvT hZ10 (hi 185 rfl)) (mvT hZ10 (hi 184 rfl)) (by decide) (backOf (W := 0) (rm23c l Z a0 hw [] b11 b10_12 b7_12 ybj_ (15 : Int32) ya_ ybs_ (16 : Int32) ((ls_9) : List Value) T14.heap n0 (Nat.le_trans (Nat.le_trans (Nat.le_trans (Nat.le_trans (Nat.le_trans (Nat.le_trans (Nat.le_trans (Nat.le_trans (Nat.le_trans Z0 E6.1) E7.1) (Keep.of_wr W8).1) (Keep.of_wr W9).1) E10.1) E11.1) K12.1) K13.1) K14.1) hcs f28 f31 f32 f29 i14_2 Ui14_4 f30 Ui14_0 i14_1 i14_3 (by decide) (by decide) (by decide) (by decide) (by decide) (by decide) (by decide) (by decide) (Nat.le_of_ble_eq_true rfl)) hZ10 (hi 186 rfl) (hi 16 rfl) (by decide) (by decide)) q15a q15c (g := (mkF m 148 #[vI p1, vI p2, vI p3, vI p4, vI (1 : Int32), vA yi_, vA c6, vI (0 : Int32), vI ((p3 &&& (255 : Int32)).toUInt32.toUInt16.toUInt32.toInt32), vI ((p4 &&& (255 : Int32)).toUInt32.toUInt16.toUInt32.toInt32), vA b7, vA c10, vA b11, vA b11, vA b11, vU] [(.ref b11)])) rfl (by rw [hml]; rfl) (Steps.refl _) (argsL := []) (rest := []) (lenOf ybh_ rfl) rfl (by show 2 * 0 + _ ≤ _; exact Nat.le_of_eq rfl) (hb hby at_148) (fun _ _ => ⟨rfl, rfl, (by decide : 14 + 2 ≤ _), (by decide : 128 + 21 ≤ _)⟩)
  dsimp only [Pt.U, Pt.locs, Pt.cells, Pt.slots] at X15 l15 y15 z15 st15 hQ15
  subst l15 y15 z15
  obtain ⟨b2_5_15, ⟨ybl_, ⟨ycg_, ⟨rfl, N15q, K15, i15_0, i15_1, i15_2, i15_3, i15_4, i15_5, i15_6, i15_7⟩⟩⟩⟩ := hQ15
  have N15 := Fr.app N14 N15q
  have f34 := (((f7.keep K12).keep K13).keep K14)
  have f35 := (((f8.keep K12).keep K13).keep K14)
  have f36 := ((f16.keep K13).keep K14)
  have f37 := (f27.keep K14)
  have f38 := (((f10.keep K12 (own_nm (Nat.ne_of_lt (Nat.lt_of_lt_of_le f4.lt (Nat.le_of_eq g11.symm))) own_n0)).keep K13 (own_nm (Nat.ne_of_lt (Nat.lt_of_lt_of_le f10.lt i12_1)) (own_nm (Nat.ne_of_lt (Nat.lt_of_lt_of_le f10.lt i12_0)) own_n0))).keep K14 (own_nm (Nat.ne_of_lt (Nat.lt_of_lt_of_le f10.lt i12_1)) (own_nm (Nat.ne_of_lt (Nat.lt_of_lt_of_le f10.lt i12_0)) own_n0)))
  have f39 := ((f13.keep K13 (own_nm (Nat.ne_of_lt (Nat.lt_of_lt_of_le f11.lt i12_1)) (own_nm (Nat.ne_of_lt (Nat.lt_of_lt_of_le f11.lt i12_0)) own_n0))).keep K14 (own_nm (Nat.ne_of_lt (Nat.lt_of_lt_of_le f11.lt i12_1)) (own_nm (Nat.ne_of_lt (Nat.lt_of_lt_of_le f11.lt i12_0)) own_n0)))
  have ygb_ : h0.size ≤ b2_5_15 := Nat.le_trans (Nat.le_trans (Nat.le_trans (Nat.le_trans (Nat.le_trans (Nat.le_trans (Nat.le_trans (Nat.le_trans (Nat.le_trans (Nat.le_trans (Nat.le_refl h0.size) E6.1) E7.1) (Keep.of_wr W8).1) (Keep.of_wr W9).1) E10.1) E11.1) K12.1) K13.1) K14.1) i15_0
  have ylo_ : n0 ≤ b2_5_15 := Nat.le_trans Z0 ygb_
  have yeb_ : h0.size ≤ ybl_ := Nat.le_trans (Nat.le_trans (Nat.le_trans (Nat.le_trans (Nat.le_trans (Nat.le_trans (Nat.le_trans (Nat.le_trans (Nat.le_trans (Nat.le_trans (Nat.le_refl h0.size) E6.1) E7.1) (Keep.of_wr W8).1) (Keep.of_wr W9).1) E10.1) E11.1) K12.1) K13.1) K14.1) i15_1
  have yja_ : n0 ≤ ybl_ := Nat.le_trans Z0 yeb_
  have Ui15_7 : Arv Z T15.heap ybl_ ycg_ .byte (15 : Int32) (ls_8) (.int (0 : Int32)) := i15_7
  have f40 := (own_sta_keep f30 K15 own_q0)
  obtain ⟨cq16, kq16, q16a, q16b, q16c⟩ := isOf hZ10 rfl i15_3
  obtain ⟨_, _, ⟨T16, L16, k16, n16⟩, -, X16, ⟨Lc16, hQ16, l16, y16, z16⟩, st16⟩ := X15.virtualBack hx (y := mN21) (z := mN21) hown10 (mvT hZ10 (hi 245 rfl)) (mvT hZ10 (hi 130 rfl)) (notFace_of_selects (args := #[]) (mvT hZ10 (hi 132 rfl))) (mvT hZ10 (hi 132 rfl)) (mvT hZ10 (hi 131 rfl)) (by decide) (backOf (W := 0) (rm15 l Z a0 hw [] b2_5_15 ybl_ ycg_ (15 : Int32) ((ls_8) : List Value) ya_ (0 : Int32) T15.heap n0 (Nat.le_trans (Nat.le_trans (Nat.le_trans (Nat.le_trans (Nat.le_trans (Nat.le_trans (Nat.le_trans (Nat.le_trans (Nat.le_trans (Nat.le_trans Z0 E6.1) E7.1) (Keep.of_wr W8).1) (Keep.of_wr W9).1) E10.1) E11.1) K12.1) K13.1) K14.1) K15.1) hcs i15_5 Ui15_7 f40 i15_4 i15_3) hZ10 (hi 133 rfl) (hi 4 rfl) (by decide) (by decide)) q16a q16c (g := (mkF m 169 #[vI p1, vI p2, vI p3, vI p4, vI (1 : Int32), vA yi_, vA c6, vI (0 : Int32), vI ((p3 &&& (255 : Int32)).toUInt32.toUInt16.toUInt32.toInt32), vI ((p4 &&& (255 : Int32)).toUInt32.toUInt16.toUInt32.toInt32), vA b7, vA c10, vA b11, vA b11, vA b11, vA b2_5_15] [(.ref b2_5_15)])) rfl (by rw [hml]; rfl) (Steps.refl _) (argsL := []) (rest := []) (lenOf ycf_ rfl) rfl (by show 2 * 0 + _ ≤ _; exact Nat.le_of_eq rfl) (hb hby at_169) (fun _ _ => ⟨rfl, rfl, (by decide : 16 + 0 ≤ _), (by decide : 149 + 0 ≤ _)⟩)
  dsimp only [Pt.U, Pt.locs, Pt.cells, Pt.slots] at X16 l16 y16 z16 st16 hQ16
  subst l16 y16 z16
  obtain ⟨rfl, N16q, e16⟩ := hQ16
  have N16 := Fr.app N15 N16q
  have f41 := (((((((((iV6.ext E7).other W8 (Or.inl (Nat.ne_of_lt (Nat.lt_of_lt_of_le iE6.lt (Nat.le_of_eq g7.symm))))).other W9 (Or.inl (Nat.ne_of_lt (Nat.lt_of_lt_of_le iE6.lt (Nat.le_of_eq g7.symm))))).ext E10).ext E11).keep K12 (own_nm (Nat.ne_of_lt (Nat.lt_of_lt_of_le f2.lt (Nat.le_of_eq g11.symm))) own_n0)).keep K13 (own_nm (Nat.ne_of_lt (Nat.lt_of_lt_of_le f7.lt i12_1)) (own_nm (Nat.ne_of_lt (Nat.lt_of_lt_of_le f7.lt i12_0)) own_n0))).keep K14 (own_nm (Nat.ne_of_lt (Nat.lt_of_lt_of_le f7.lt i12_1)) (own_nm (Nat.ne_of_lt (Nat.lt_of_lt_of_le f7.lt i12_0)) own_n0))).keep K15 own_n0)
  have f42 := (f38.keep K15 own_n0)
  have f43 := (((((((((iC6.ext E7).other W8 (Or.inl (Nat.ne_of_lt (Nat.lt_of_lt_of_le iE6.lt (Nat.le_of_eq g7.symm))))).other W9 (Or.inl (Nat.ne_of_lt (Nat.lt_of_lt_of_le iE6.lt (Nat.le_of_eq g7.symm))))).ext E10).ext E11).keep K12 (own_nm (Nat.ne_of_lt (Nat.lt_of_lt_of_le f2.lt (Nat.le_of_eq g11.symm))) own_n0)).keep K13 (own_nm (Nat.ne_of_lt (Nat.lt_of_lt_of_le f7.lt i12_1)) (own_nm (Nat.ne_of_lt (Nat.lt_of_lt_of_le f7.lt i12_0)) own_n0))).keep K14 (own_nm (Nat.ne_of_lt (Nat.lt_of_lt_of_le f7.lt i12_1)) (own_nm (Nat.ne_of_lt (Nat.lt_of_lt_of_le f7.lt i12_0)) own_n0))).keep K15 own_n0)
  have f44 := (f34.keep K15)
  obtain ⟨cq17, kq17, q17a, q17b, q17c⟩ := isOf hZ10 e16 f44
  obtain ⟨_, _, ⟨T17, L17, k17, n17⟩, -, X17, ⟨Lc17, hQ17, l17, y17, z17⟩, st17⟩ := X16.virtualBack hx (y := mN21) (z := mN21) hown10 (mvT hZ10 (hi 245 rfl)) (mvT hZ10 (hi 130 rfl)) (notFace_of_selects (args := #[]) (mvT hZ10 (hi 132 rfl))) (mvT hZ10 (hi 132 rfl)) (mvT hZ10 (hi 131 rfl)) (by decide) (backOf (W := 2) (rm15 l Z a0 hw [] c6 b6 kb6 (15 : Int32) ((ls_8) : List Value) ya_ (0 : Int32) T15.heap n0 (Nat.le_trans (Nat.le_trans (Nat.le_trans (Nat.le_trans (Nat.le_trans (Nat.le_trans (Nat.le_trans (Nat.le_trans (Nat.le_trans (Nat.le_trans Z0 E6.1) E7.1) (Keep.of_wr W8).1) (Keep.of_wr W9).1) E10.1) E11.1) K12.1) K13.1) K14.1) K15.1) hcs f41 f42 f40 f43 f44) hZ10 (hi 133 rfl) (hi 4 rfl) (by decide) (by decide)) q17a q17c (g := (mkF m 176 #[vI p1, vI p2, vI p3, vI p4, vI (1 : Int32), vA yi_, vA c6, vI (0 : Int32), vI ((p3 &&& (255 : Int32)).toUInt32.toUInt16.toUInt32.toInt32), vI ((p4 &&& (255 : Int32)).toUInt32.toUInt16.toUInt32.toInt32), vA b7, vA c10, vA b11, vA b11, vA b11, vA b2_5_15] [(.ref c6), (.int (0 : Int32)), (.int (15 : Int32))])) rfl (by rw [hml]; rfl) (Steps.refl _) (argsL := []) (rest := [(.int (0 : Int32)), (.int (15 : Int32))]) (lenOf ycf_ rfl) rfl (by show 2 * 0 + _ ≤ _; exact Nat.le_of_eq rfl) (hb hby at_176) (fun _ _ => ⟨rfl, e16, (by decide : 16 + 0 ≤ _), (by decide : 149 + 0 ≤ _)⟩)
  dsimp only [Pt.U, Pt.locs, Pt.cells, Pt.slots] at X17 l17 y17 z17 st17 hQ17
  subst l17 y17 z17
  obtain ⟨rfl, N17q, e17⟩ := hQ17
  have N17 := Fr.app N16 N17q
  have f45 := (own_sta_keep (own_sta_keep (own_sta_keep (own_sta_keep ((((((yx_.ext E6).ext E7).wr W8).wr W9).ext E10).ext E11) K12 (own_qc (own_nst A11) own_q0)) K13 (own_qc (own_nst i12_14) (own_qc (own_nst i12_10) own_q0))) K14 (own_qc (own_nst f27) (own_qc (own_nst i13_1) own_q0))) K15 own_q0)
  obtain ⟨_, _, ⟨T18, L18, k18, n18⟩, -, X18, ⟨Lc18, hQ18, l18, y18, z18⟩, st18⟩ := Jvm.LawKit.callS X17 hx (y := mN54) hown10 (mvT hZ10 (hi 246 rfl)) (mvT hZ10 (hi 247 rfl)) (mvT hZ10 (hi 248 rfl)) (mvT hZ10 (hi 249 rfl)) (by decide) (backOf (W := 0) (rm36_15 l Z a0 hw [] b2_5_15 (0 : Int32) c6 b6 ya_ ybl_ ycg_ (15 : Int32) ((ls_8) : List Value) yb_ kb6 ((ls_8) : List Value) (32 : Int32) (100 : Int32) (101 : Int32) (102 : Int32) (97 : Int32) (117 : Int32) (108 : Int32) (116 : Int32) (32 : Int32) (118 : Int32) (97 : Int32) (108 : Int32) (117 : Int32) (101 : Int32) (115 : Int32) T15.heap n0 (Nat.le_trans (Nat.le_trans (Nat.le_trans (Nat.le_trans (Nat.le_trans (Nat.le_trans (Nat.le_trans (Nat.le_trans (Nat.le_trans (Nat.le_trans Z0 E6.1) E7.1) (Keep.of_wr W8).1) (Keep.of_wr W9).1) E10.1) E11.1) K12.1) K13.1) K14.1) K15.1) hcs hsv f41 f40 i15_5 Ui15_7 f45 f43 f44 i15_4 i15_3 f42 (by decide) (by decide) (by decide) rfl rfl (by decide) (by decide) (by decide) rfl rfl (by decide) (by decide) (by decide) rfl rfl (by decide) (by decide) (by decide) rfl rfl (by decide) (by decide) (by decide) rfl rfl (by decide) (by decide) (by decide) rfl rfl (by decide) (by decide) (by decide) rfl rfl (by decide) (by decide) (by decide) rfl rfl (by decide) (by decide) (by decide) rfl rfl (by decide) (by decide) (by decide) rfl rfl (by decide) (by decide) (by decide) rfl rfl (by decide) (by decide) (by decide) rfl rfl (by decide) (by decide) (by decide) rfl rfl (by decide) (by decide) (by decide) rfl rfl (by decide) (by decide) (by decide) rfl rfl) hZ10 (hi 249 rfl) (hi 248 rfl) (by decide) (by decide)) (g := (mkF m 223 #[vI p1, vI p2, vI p3, vI p4, vI (1 : Int32), vA yi_, vA c6, vI (0 : Int32), vI ((p3 &&& (255 : Int32)).toUInt32.toUInt16.toUInt32.toInt32), vI ((p4 &&& (255 : Int32)).toUInt32.toUInt16.toUInt32.toInt32), vA b7, vA c10, vA b11, vA b11, vA b11, vA b2_5_15] [(.ref c6), (.int (0 : Int32)), (.ref b2_5_15)])) rfl (by rw [hml]; rfl) (argsL := [(.ref b2_5_15), (.int (0 : Int32)), (.ref c6)]) (rest := []) (lenOf ybd_ rfl) rfl (by show 2 * 0 + _ ≤ _; exact Nat.le_of_eq rfl) (hb hby at_223) (fun _ _ => ⟨rfl, e17, (by decide : 16 + 0 ≤ _), (by decide : 149 + 0 ≤ _)⟩)
  dsimp only [Pt.U, Pt.locs, Pt.cells, Pt.slots] at X18 l18 y18 z18 st18 hQ18
  subst l18 y18 z18
  obtain ⟨rfl, N18q, e18⟩ := hQ18
  have N18 := Fr.app N17 N18q
  obtain ⟨fs, hr, hrun, hended, hw1, hw2, hw3, hw4⟩ := X18.leaveW hS10 (show _ ≤ T18.heap.size from by rw [e18]; exact (Nat.le_trans (Nat.le_trans (Nat.le_trans (Nat.le_trans (Nat.le_trans hk10 E11.1) K12.1) K13.1) K14.1) K15.1)) (v := some (.int (1 : Int32))) (fun h => by rw [Bd.returns] at h; cases h)
  refine ⟨_, _, castTop (ef_0 m p1 p2 p3 p4) ?_, hrun, hended, _, _, rfl, ?_, hw1, hw2, hw3, hw4.mono (by decide) (by decide)⟩
  · show Steps p.tables e below (s₁.setTop (mkF m 0 #[vI p1, vI p2, vI p3, vI p4, vU, vU, vU, vU, vU, vU, vU, vU, vU, vU, vU, vU] [])) _
    refine XS.iloadN X0.here hx rfl (hb hby at_0) rfl ?_
    refine XS.iconst X0.here hx rfl (hb hby at_1) ?_
    refine XS.iand X0.here hx rfl (hb hby at_2) rfl ?_
    refine XS.ifNo X0.here hx rfl (hb hby at_3) rfl ((if0 _ _).trans (teq hc3).2) ?_
    refine XS.iconst X0.here hx rfl (hb hby at_6) ?_
    refine XS.goto X0.here hx rfl (pc0 := 7) (pc' := 11) rfl (hb hby at_7) (by decide) (by decide) ?_
    refine XS.istore X0.here hx rfl (hb hby at_11) rfl (l' := #[vI p1, vI p2, vI p3, vI p4, vI (1 : Int32), vU, vU, vU, vU, vU, vU, vU, vU, vU, vU, vU]) rfl ?_
    refine XS.iload X0.here hx rfl (hb hby at_13) rfl ?_
    refine XS.ifNo X0.here hx rfl (hb hby at_15) rfl ((if0 _ _).trans (feq (by decide : ¬ ((1 : Int32) = (0 : Int32)))).1) ?_
    refine st5 _ ?_
    refine XS.goto X5.here hx rfl (pc0 := 21) (pc' := 27) rfl (hb hby at_21) (by decide) (by decide) ?_
    refine XS.astore X5.here hx rfl (hb hby at_27) rfl rfl (l' := #[vI p1, vI p2, vI p3, vI p4, vI (1 : Int32), vA yi_, vU, vU, vU, vU, vU, vU, vU, vU, vU, vU]) rfl ?_
    refine XS.iload X5.here hx rfl (hb hby at_29) rfl ?_
    refine XS.ifNo X5.here hx rfl (hb hby at_31) rfl ((if0 _ _).trans (feq (by decide : ¬ ((1 : Int32) = (0 : Int32)))).1) ?_
    refine st6 _ ?_
    refine XS.goto X6.here hx rfl (pc0 := 36) (pc' := 41) rfl (hb hby at_36) (by decide) (by decide) ?_
    refine XS.astore X6.here hx rfl (hb hby at_41) rfl rfl (l' := #[vI p1, vI p2, vI p3, vI p4, vI (1 : Int32), vA yi_, vA c6, vU, vU, vU, vU, vU, vU, vU, vU, vU]) rfl ?_
    refine XS.iloadN X6.here hx rfl (hb hby at_43) rfl ?_
    refine X6.ldcInt hx hown6 (mvT hZ6 (hi 11 rfl)) (g := (mkF m 44 #[vI p1, vI p2, vI p3, vI p4, vI (1 : Int32), vA yi_, vA c6, vU, vU, vU, vU, vU, vU, vU, vU, vU] [(.int p2)])) rfl (hb hby at_44) _ ?_
    refine XS.iand X6.here hx rfl (hb hby at_46) rfl ?_
    refine XS.iconst X6.here hx rfl (hb hby at_47) ?_
    refine XS.irem X6.here hx rfl (hb hby at_48) rfl (by decide) ?_
    refine XS.istore X6.here hx rfl (hb hby at_49) rfl (l' := #[vI p1, vI p2, vI p3, vI p4, vI (1 : Int32), vA yi_, vA c6, vI (t0_0 p2), vU, vU, vU, vU, vU, vU, vU, vU]) rfl ?_
    refine XS.iloadN X6.here hx rfl (hb hby at_51) rfl ?_
    refine XS.sipush X6.here hx rfl (hb hby at_52) ?_
    refine XS.iand X6.here hx rfl (hb hby at_55) rfl ?_
    refine XS.i2c X6.here hx rfl (hb hby at_56) rfl ?_
    refine XS.istore X6.here hx rfl (hb hby at_57) rfl (l' := #[vI p1, vI p2, vI p3, vI p4, vI (1 : Int32), vA yi_, vA c6, vI (t0_0 p2), vI ((p3 &&& (255 : Int32)).toUInt32.toUInt16.toUInt32.toInt32), vU, vU, vU, vU, vU, vU, vU]) rfl ?_
    refine XS.iloadN X6.here hx rfl (hb hby at_59) rfl ?_
    refine XS.sipush X6.here hx rfl (hb hby at_60) ?_
    refine XS.iand X6.here hx rfl (hb hby at_63) rfl ?_
    refine XS.i2c X6.here hx rfl (hb hby at_64) rfl ?_
    refine XS.istore X6.here hx rfl (hb hby at_65) rfl (l' := #[vI p1, vI p2, vI p3, vI p4, vI (1 : Int32), vA yi_, vA c6, vI (t0_0 p2), vI ((p3 &&& (255 : Int32)).toUInt32.toUInt16.toUInt32.toInt32), vI ((p4 &&& (255 : Int32)).toUInt32.toUInt16.toUInt32.toInt32), vU, vU, vU, vU, vU, vU]) rfl ?_
    refine XS.iconst X6.here hx rfl (hb hby at_67) ?_
    refine st7 _ ?_
    refine XS.astore X7.here hx rfl (hb hby at_70) rfl rfl (l' := #[vI p1, vI p2, vI p3, vI p4, vI (1 : Int32), vA yi_, vA c6, vI (t0_0 p2), vI ((p3 &&& (255 : Int32)).toUInt32.toUInt16.toUInt32.toInt32), vI ((p4 &&& (255 : Int32)).toUInt32.toUInt16.toUInt32.toInt32), vA b7, vU, vU, vU, vU, vU]) rfl ?_
    refine XS.aload X7.here hx rfl (hb hby at_72) rfl rfl ?_
    refine XS.iconst X7.here hx rfl (hb hby at_74) ?_
    refine XS.iload X7.here hx rfl (hb hby at_75) rfl ?_
    refine st8 _ ?_
    refine XS.aload X8.here hx rfl (hb hby at_78) rfl rfl ?_
    refine XS.iconst X8.here hx rfl (hb hby at_80) ?_
    refine XS.iload X8.here hx rfl (hb hby at_81) rfl ?_
    refine st9 _ ?_
    refine XS.iload X9.here hx rfl (hb hby at_84) rfl ?_
    refine XS.ifNo X9.here hx rfl (hb hby at_86) rfl ((if0 _ _).trans (teq hc86).2) ?_
    show Steps p.tables e below (T9.setTop (mkF m 89 #[vI p1, vI p2, vI p3, vI p4, vI (1 : Int32), vA yi_, vA c6, vI (t0_0 p2), vI ((p3 &&& (255 : Int32)).toUInt32.toUInt16.toUInt32.toInt32), vI ((p4 &&& (255 : Int32)).toUInt32.toUInt16.toUInt32.toInt32), vA b7, vU, vU, vU, vU, vU] [])) _
    rw [show (t0_0 p2) = (0 : Int32) from hc86]
    refine st10 _ ?_
    refine XS.goto X10.here hx rfl (pc0 := 91) (pc' := 117) rfl (hb hby at_91) (by decide) (by decide) ?_
    refine XS.astore X10.here hx rfl (hb hby at_117) rfl rfl (l' := #[vI p1, vI p2, vI p3, vI p4, vI (1 : Int32), vA yi_, vA c6, vI (0 : Int32), vI ((p3 &&& (255 : Int32)).toUInt32.toUInt16.toUInt32.toInt32), vI ((p4 &&& (255 : Int32)).toUInt32.toUInt16.toUInt32.toInt32), vA b7, vA c10, vU, vU, vU, vU]) rfl ?_
    refine st11 _ ?_
    refine XS.dup X11.here hx rfl (hb hby at_122) rfl rfl ?_
    refine XS.aload X11.here hx rfl (hb hby at_123) rfl rfl ?_
    refine st12.trans ?_
    refine XS.astore X12.here hx rfl (hb hby at_128) rfl rfl (l' := #[vI p1, vI p2, vI p3, vI p4, vI (1 : Int32), vA yi_, vA c6, vI (0 : Int32), vI ((p3 &&& (255 : Int32)).toUInt32.toUInt16.toUInt32.toInt32), vI ((p4 &&& (255 : Int32)).toUInt32.toUInt16.toUInt32.toInt32), vA b7, vA c10, vA b11, vU, vU, vU]) rfl ?_
    refine XS.aload X12.here hx rfl (hb hby at_130) rfl rfl ?_
    refine XS.aload X12.here hx rfl (hb hby at_132) rfl rfl ?_
    refine st13.trans ?_
    refine XS.astore X13.here hx rfl (hb hby at_137) rfl rfl (l' := #[vI p1, vI p2, vI p3, vI p4, vI (1 : Int32), vA yi_, vA c6, vI (0 : Int32), vI ((p3 &&& (255 : Int32)).toUInt32.toUInt16.toUInt32.toInt32), vI ((p4 &&& (255 : Int32)).toUInt32.toUInt16.toUInt32.toInt32), vA b7, vA c10, vA b11, vA b11, vU, vU]) rfl ?_
    refine XS.aload X13.here hx rfl (hb hby at_139) rfl rfl ?_
    refine st14.trans ?_
    refine XS.astore X14.here hx rfl (hb hby at_144) rfl rfl (l' := #[vI p1, vI p2, vI p3, vI p4, vI (1 : Int32), vA yi_, vA c6, vI (0 : Int32), vI ((p3 &&& (255 : Int32)).toUInt32.toUInt16.toUInt32.toInt32), vI ((p4 &&& (255 : Int32)).toUInt32.toUInt16.toUInt32.toInt32), vA b7, vA c10, vA b11, vA b11, vA b11, vU]) rfl ?_
    refine XS.aload X14.here hx rfl (hb hby at_146) rfl rfl ?_
    refine st15.trans ?_
    refine XS.astore X15.here hx rfl (hb hby at_151) rfl rfl (l' := #[vI p1, vI p2, vI p3, vI p4, vI (1 : Int32), vA yi_, vA c6, vI (0 : Int32), vI ((p3 &&& (255 : Int32)).toUInt32.toUInt16.toUInt32.toInt32), vI ((p4 &&& (255 : Int32)).toUInt32.toUInt16.toUInt32.toInt32), vA b7, vA c10, vA b11, vA b11, vA b11, vA b2_5_15]) rfl ?_
    refine XS.aload X15.here hx rfl (hb hby at_153) rfl rfl ?_
    refine XS.aload X15.here hx rfl (hb hby at_155) rfl rfl ?_
    refine Jvm.RoadKit.acmp (g := (mkF m 157 #[vI p1, vI p2, vI p3, vI p4, vI (1 : Int32), vA yi_, vA c6, vI (0 : Int32), vI ((p3 &&& (255 : Int32)).toUInt32.toUInt16.toUInt32.toInt32), vI ((p4 &&& (255 : Int32)).toUInt32.toUInt16.toUInt32.toInt32), vA b7, vA c10, vA b11, vA b11, vA b11, vA b2_5_15] [(.ref b11), (.ref b11)])) X15 hx rfl rfl rfl (pc0 := 157) (pc' := 160) (same := true) rfl (hb hby at_157) rfl (decide_eq_true rfl) (by decide) (by decide) ?_
    refine XS.aload X15.here hx rfl (hb hby at_160) rfl rfl ?_
    refine XS.aload X15.here hx rfl (hb hby at_162) rfl rfl ?_
    refine Jvm.RoadKit.acmp (g := (mkF m 164 #[vI p1, vI p2, vI p3, vI p4, vI (1 : Int32), vA yi_, vA c6, vI (0 : Int32), vI ((p3 &&& (255 : Int32)).toUInt32.toUInt16.toUInt32.toInt32), vI ((p4 &&& (255 : Int32)).toUInt32.toUInt16.toUInt32.toInt32), vA b7, vA c10, vA b11, vA b11, vA b11, vA b2_5_15] [(.ref b11), (.ref b11)])) X15 hx rfl rfl rfl (pc0 := 164) (pc' := 167) (same := true) rfl (hb hby at_164) rfl (decide_eq_true rfl) (by decide) (by decide) ?_
    refine XS.aload X15.here hx rfl (hb hby at_167) rfl rfl ?_
    refine st16.trans ?_
    refine XS.iload X16.here hx rfl (hb hby at_172) rfl ?_
    refine XS.aload X16.here hx rfl (hb hby at_174) rfl rfl ?_
    refine st17.trans ?_
    refine XS.iadd X17.here hx rfl (hb hby at_179) rfl ?_
    refine XS.icmpNo X17.here hx rfl (hb hby at_180) rfl (teq (rfl : (15 : Int32) = (15 : Int32))).2 ?_
    refine XS.iload X17.here hx rfl (hb hby at_183) rfl ?_
    refine XS.iconst X17.here hx rfl (hb hby at_185) ?_
    refine XS.icmpYes X17.here hx rfl (pc0 := 186) (pc' := 200) rfl (hb hby at_186) rfl (tlt (by decide : (0 : Int32) < (1 : Int32))).1 (by decide) (by decide) ?_
    refine XS.iload X17.here hx rfl (hb hby at_200) rfl ?_
    refine XS.iconst X17.here hx rfl (hb hby at_202) ?_
    refine XS.icmpYes X17.here hx rfl (pc0 := 203) (pc' := 217) rfl (hb hby at_203) rfl (tlt (by decide : (0 : Int32) < (2 : Int32))).1 (by decide) (by decide) ?_
    refine XS.aload X17.here hx rfl (hb hby at_217) rfl rfl ?_
    refine XS.iload X17.here hx rfl (hb hby at_219) rfl ?_
    refine XS.aload X17.here hx rfl (hb hby at_221) rfl rfl ?_
    refine st18 _ ?_
    refine XS.ifNo X18.here hx rfl (hb hby at_226) rfl ((if0 _ _).trans (feq (by decide : ¬ ((1 : Int32) = (0 : Int32)))).1) ?_
    refine XS.iconst X18.here hx rfl (hb hby at_229) ?_
    refine XS.goto X18.here hx rfl (pc0 := 230) (pc' := 234) rfl (hb hby at_230) (by decide) (by decide) ?_
    show Steps p.tables e below (T18.setTop (mkF m 234 #[vI p1, vI p2, vI p3, vI p4, vI (1 : Int32), vA yi_, vA c6, vI (0 : Int32), vI ((p3 &&& (255 : Int32)).toUInt32.toUInt16.toUInt32.toInt32), vI ((p4 &&& (255 : Int32)).toUInt32.toUInt16.toUInt32.toInt32), vA b7, vA c10, vA b11, vA b11, vA b11, vA b2_5_15] [(.int (1 : Int32))])) _
    exact retN X18 hx (t := .boolean) Bd.returns (by simp) (hb hby at_234) hr
  · show Q_rm0 Z p1 p2 p3 p4 yr_ yg_ ya_ yp_ yo_ yb_ yt_ yi_ yk_ yl_ yq_ h0 n0 _ T18.heap _
    exact ⟨rfl, N18⟩
set_option maxRecDepth 65536 in
set_option maxHeartbeats 40000000 in
theorem rm0_ftf (l : Launch) (Z : State) (a0 : Array Value) (hw : ∀ d ∈ tables_1, d.before a0 Z = true) (ws : List Jvm.Cond) (p1 : Int32) (p2 : Int32) (p3 : Int32) (p4 : Int32) (yr_ : Addr) (yg_ : Addr) (ya_ : Int32) (yp_ : Addr) (yo_ : Addr) (yb_ : Value) (yt_ : ClassId) (yi_ : Addr) (yk_ : Addr) (yl_ : Addr) (yq_ : ClassId) (h0 : Heap) (n0 : Nat) (Z0 : n0 ≤ h0.size) (hcs : ¬ (ya_ = (0 : Int32))) (hsv : yb_.isRef = true) (ydh_ : Sta Z h0 "underdeck/deck/Dialect" "MARIADB" "Lunderdeck/deck/Dialect;" (.ref yr_)) (yaj_ : Sta Z h0 "java/util/ArrayList" "DEFAULTCAPACITY_EMPTY_ELEMENTDATA" "[Ljava/lang/Object;" (.ref yg_)) (yf_ : Sta Z h0 "java/lang/String" "COMPACT_STRINGS" "Z" (.int ya_)) (yal_ : Fld Z h0 yr_ "underdeck/deck/Dialect" "defaultsOnly" "Ljava/lang/String;" (.ref yp_)) (ym_ : Fld Z h0 yp_ "java/lang/String" "value" "[B" (.ref yo_)) (ycz_ : Exa Z h0 yr_ "underdeck/deck/Dialect") (yay_ : Fld Z h0 yp_ "java/lang/String" "coder" "B" (.int (0 : Int32))) (ybc_ : Exa Z h0 yp_ "java/lang/String") (yx_ : Sta Z h0 "jdk/internal/util/Preconditions" "SIOOBE_FORMATTER" "Ljava/util/function/BiFunction;" yb_) (yy_ : Arv Z h0 yo_ yt_ .byte (13 : Int32) (ls_0) (.int (0 : Int32))) (ycl_ : Sta Z h0 "underdeck/deck/Dialect" "POSTGRESQL" "Lunderdeck/deck/Dialect;" (.ref yi_)) (yah_ : Fld Z h0 yi_ "underdeck/deck/Dialect" "defaultsOnly" "Ljava/lang/String;" (.ref yk_)) (yj_ : Fld Z h0 yk_ "java/lang/String" "value" "[B" (.ref yl_)) (ycb_ : Exa Z h0 yi_ "underdeck/deck/Dialect") (yau_ : Fld Z h0 yk_ "java/lang/String" "coder" "B" (.int (0 : Int32))) (yba_ : Exa Z h0 yk_ "java/lang/String") (yu_ : Arv Z h0 yl_ yq_ .byte (15 : Int32) (ls_8) (.int (0 : Int32))) (hc3 : (p1 &&& (1 : Int32)) = (0 : Int32)) (hc86 : ¬ ((t0_0 p2) = (0 : Int32))) (hc97 : (t0_0 p2) = (1 : Int32)) :
    MetFree l x (head1 (Jvm.Cond.code x code maxLocals ret :: ws) room_1) (fun a U => a = #[(.int p1), (.int p2), (.int p3), (.int p4)] ∧ Z.Warmed39 U.vm ∧ U.heap = h0 ∧ CHv Z consts_1 U.vm h0) (fun _ _ _ _ _ => True) (fun _ U o U' => ∃ v L, o = .returned v ∧ Q_rm0 Z p1 p2 p3 p4 yr_ yg_ ya_ yp_ yo_ yb_ yt_ yi_ yk_ yl_ yq_ h0 n0 v U'.heap L ∧ ReturnedEndW U o U' L room_1.cells room_1.slots) := by
  have hi : ∀ (i : Nat) {d : Jvm.Cond}, tables_1[i]? = some d → d.before a0 Z = true := fun i d h => hw d (List.mem_of_getElem? h)
  refine MetFree.of_bodySF (plainFor_of_name pn_0) hisR ?_
  intro p e s m args below meth c s₁ Bd hml0 hP hK
  obtain ⟨rfl, hZ, hh, hCH⟩ := hP
  have hx := Bd.exec
  have hby := Bd.bytes
  have hml : c.maxLocals = 16 := hml0
  have hown : s.vm.findClass "underdeck/deck/SqlTextDefaultsOnlyPinLaw" = some m.cls := findClass_of_methodNamed Bd.named
  have hnm := (name_of_methodNamed Bd.named Bd.method).1
  have X0 : Stand p l e room_1 (s.setVm s.vm) m #[(.int p1), (.int p2), (.int p3), (.int p4)] below meth c s₁ [] 0 0 := Stand.of_body Bd
  have e0 : s₁.heap = h0 := by rw [← hh, Bd.state]; rfl
  have N0 := Fr.nil n0
  have hS0 : s.Since s.vm h0.size := (State.WarmedH.refl s).since _
  obtain ⟨T5, X5, e5, st5⟩ := getS2 X0 hx hZ hown (host := "") (Or.inl (hi 0 rfl)) Via.refl e0 ycl_ (g := (mkF m 18 #[vI p1, vI p2, vI p3, vI p4, vI (1 : Int32), vU, vU, vU, vU, vU, vU, vU, vU, vU, vU, vU] [])) rfl (hb hby at_18)
  obtain ⟨c6, T6, h6, k6, b6, kb6, X6, e6, E6, hS6, hk6, hZ6, hown6, iE6, iC6, iV6, iA6, -, -, hC6, hL6, -, st6⟩ := ldcCH (s := s) X5 hx hZ hown (hi 3 rfl) (own_strs hw) e5 hS0 (Nat.le_refl h0.size) (own_EW hw) (by simp [consts_1]) hCH (vs := [(.int (32 : Int32)), (.int (100 : Int32)), (.int (101 : Int32)), (.int (102 : Int32)), (.int (97 : Int32)), (.int (117 : Int32)), (.int (108 : Int32)), (.int (116 : Int32)), (.int (32 : Int32)), (.int (118 : Int32)), (.int (97 : Int32)), (.int (108 : Int32)), (.int (117 : Int32)), (.int (101 : Int32)), (.int (115 : Int32))]) (z := (15 : Int32)) ⟨by decide, rfl⟩ (by decide) rfl (g := (mkF m 34 #[vI p1, vI p2, vI p3, vI p4, vI (1 : Int32), vA yi_, vU, vU, vU, vU, vU, vU, vU, vU, vU, vU] [])) rfl (hb hby at_34) (n := 60) (by decide) (by decide) (by decide) (by decide)
  obtain ⟨T7, h7, k7, X7, e7, E7, A7, iE7, st7⟩ := newPE X6 hx hZ6 (hi 12 rfl) e6 (g := (mkF m 68 #[vI p1, vI p2, vI p3, vI p4, vI (1 : Int32), vA yi_, vA c6, vI (t0_0 p2), vI ((p3 &&& (255 : Int32)).toUInt32.toUInt16.toUInt32.toInt32), vI ((p4 &&& (255 : Int32)).toUInt32.toUInt16.toUInt32.toInt32), vU, vU, vU, vU, vU, vU] [(.int (2 : Int32))])) rfl (hb hby at_68) rfl (by decide) (cap := 2) (by decide) (by decide) (by decide) (by decide) (ad := "[C") rfl
  obtain ⟨b7, g7⟩ : ∃ z, z = h6.size := ⟨_, rfl⟩
  rw [← g7] at A7 iE7 st7
  have g_b7 : n0 ≤ b7 := Nat.le_trans (Nat.le_trans Z0 E6.1) (Nat.le_of_eq g7.symm)
  have sz_b7 : h0.size ≤ b7 := Nat.le_trans (Nat.le_trans (Nat.le_refl h0.size) E6.1) (Nat.le_of_eq g7.symm)
  have V_b7 : Arv Z h7 b7 k7 .char (2 : Int32) [(.int (0 : Int32)), (.int (0 : Int32))] (.int (0 : Int32)) := (Arv.new A7 (by decide)).pad (pad_rep [] (.int (0 : Int32)) 2)
  obtain ⟨cl_b7_0, Ar_b7_0, q_b7_0, Sz_b7_0, Ng_b7_0, Ha_b7_0, Gt_b7_0⟩ := id V_b7
  have yem_ : ¬ ((0 : Int32) < 0 ∨ cl_b7_0.slots.size ≤ ((0 : Int32)).toNatClampNeg) := inb_of Sz_b7_0 ⟨by decide, by decide⟩
  obtain ⟨T8, h8, X8, e8, W8, st8⟩ := stC X7 hx hZ6 e7 Ar_b7_0 (j := (0 : Int32)) yem_ (g := (mkF m 77 #[vI p1, vI p2, vI p3, vI p4, vI (1 : Int32), vA yi_, vA c6, vI (t0_0 p2), vI ((p3 &&& (255 : Int32)).toUInt32.toUInt16.toUInt32.toInt32), vI ((p4 &&& (255 : Int32)).toUInt32.toUInt16.toUInt32.toInt32), vA b7, vU, vU, vU, vU, vU] [(.int ((p3 &&& (255 : Int32)).toUInt32.toUInt16.toUInt32.toInt32)), (.int (0 : Int32)), (.ref b7)])) rfl rfl (hb hby at_77)
  have V8 : Arv Z h8 b7 k7 .char (2 : Int32) [(.int (nar .char ((p3 &&& (255 : Int32)).toUInt32.toUInt16.toUInt32.toInt32))), (.int (0 : Int32))] (.int (0 : Int32)) := Arv.set Ar_b7_0 q_b7_0 Sz_b7_0 Ng_b7_0 Ha_b7_0 Gt_b7_0 (fits_nar_char _) W8 0 rfl (Nat.le_of_ble_eq_true rfl)
  have N8 := Fr.snoc X8 N0 g_b7
  obtain ⟨cl_b7_1, Ar_b7_1, q_b7_1, Sz_b7_1, Ng_b7_1, Ha_b7_1, Gt_b7_1⟩ := id V8
  have yen_ : ¬ ((1 : Int32) < 0 ∨ cl_b7_1.slots.size ≤ ((1 : Int32)).toNatClampNeg) := inb_of Sz_b7_1 ⟨by decide, by decide⟩
  obtain ⟨T9, h9, X9, e9, W9, st9⟩ := stC X8 hx hZ6 e8 Ar_b7_1 (j := (1 : Int32)) yen_ (g := (mkF m 83 #[vI p1, vI p2, vI p3, vI p4, vI (1 : Int32), vA yi_, vA c6, vI (t0_0 p2), vI ((p3 &&& (255 : Int32)).toUInt32.toUInt16.toUInt32.toInt32), vI ((p4 &&& (255 : Int32)).toUInt32.toUInt16.toUInt32.toInt32), vA b7, vU, vU, vU, vU, vU] [(.int ((p4 &&& (255 : Int32)).toUInt32.toUInt16.toUInt32.toInt32)), (.int (1 : Int32)), (.ref b7)])) rfl rfl (hb hby at_83)
  have V9 : Arv Z h9 b7 k7 .char (2 : Int32) [(.int (nar .char ((p3 &&& (255 : Int32)).toUInt32.toUInt16.toUInt32.toInt32))), (.int (nar .char ((p4 &&& (255 : Int32)).toUInt32.toUInt16.toUInt32.toInt32)))] (.int (0 : Int32)) := Arv.set Ar_b7_1 q_b7_1 Sz_b7_1 Ng_b7_1 Ha_b7_1 Gt_b7_1 (fits_nar_char _) W9 1 rfl (Nat.le_of_ble_eq_true rfl)
  have N9 := Fr.snoc X9 N8 g_b7
  have f2 := ((((yf_.ext E6).ext E7).wr W8).wr W9)
  obtain ⟨_, _, ⟨T10, L10, k10, n10⟩, -, X10, ⟨Lc10, hQ10, l10, y10, z10⟩, st10⟩ := Jvm.LawKit.callS X9 hx (y := mN22) hown6 (mvT hZ6 (hi 278 rfl)) (mvT hZ6 (hi 279 rfl)) (mvT hZ6 (hi 4 rfl)) (mvT hZ6 (hi 280 rfl)) (by decide) (backOf (W := 0) (rm43 l Z a0 hw [] ((p3 &&& (255 : Int32)).toUInt32.toUInt16.toUInt32.toInt32) ya_ h9 n0 (Nat.le_trans (Nat.le_trans (Nat.le_trans (Nat.le_trans Z0 E6.1) E7.1) (Keep.of_wr W8).1) (Keep.of_wr W9).1) hcs f2 (own_le255 _ (own_cc _ (own_m255 _)))) hZ6 (hi 280 rfl) (hi 4 rfl) (by decide) (by decide)) (g := (mkF m 102 #[vI p1, vI p2, vI p3, vI p4, vI (1 : Int32), vA yi_, vA c6, vI (1 : Int32), vI ((p3 &&& (255 : Int32)).toUInt32.toUInt16.toUInt32.toInt32), vI ((p4 &&& (255 : Int32)).toUInt32.toUInt16.toUInt32.toInt32), vA b7, vU, vU, vU, vU, vU] [(.int ((p3 &&& (255 : Int32)).toUInt32.toUInt16.toUInt32.toInt32))])) rfl (by rw [hml]; rfl) (argsL := [(.int ((p3 &&& (255 : Int32)).toUInt32.toUInt16.toUInt32.toInt32))]) (rest := []) (lenOf yeh_ rfl) rfl (by show 2 * 0 + _ ≤ _; exact Nat.le_of_eq rfl) (hb hby at_102) (fun _ _ => ⟨rfl, e9, (by decide : 3 + 2 ≤ _), (by decide : 66 + 5 ≤ _)⟩)
  dsimp only [Pt.U, Pt.locs, Pt.cells, Pt.slots] at X10 l10 y10 z10 st10 hQ10
  subst l10 y10 z10
  obtain ⟨b4_10, ⟨b2_5_10, ⟨k2_5_10, ⟨rfl, N10q, K10, i10_0, i10_1, i10_2, i10_3, i10_4, i10_5, i10_6, i10_7⟩⟩⟩⟩ := hQ10
  have N10 := Fr.app N9 N10q
  have f3 := (((iE6.ext E7).wr W8).wr W9)
  have f4 := ((iE7.wr W8).wr W9)
  have f5 := (((iA6.ext E7).other W8 (Nat.ne_of_lt (Nat.lt_of_lt_of_le iA6.lt (Nat.le_of_eq g7.symm)))).other W9 (Nat.ne_of_lt (Nat.lt_of_lt_of_le iA6.lt (Nat.le_of_eq g7.symm))))
  have ymx_ : h0.size ≤ b4_10 := Nat.le_trans (Nat.le_trans (Nat.le_trans (Nat.le_trans (Nat.le_trans (Nat.le_refl h0.size) E6.1) E7.1) (Keep.of_wr W8).1) (Keep.of_wr W9).1) i10_0
  have g_b4_10 : n0 ≤ b4_10 := Nat.le_trans Z0 ymx_
  have ykw_ : h0.size ≤ b2_5_10 := Nat.le_trans (Nat.le_trans (Nat.le_trans (Nat.le_trans (Nat.le_trans (Nat.le_refl h0.size) E6.1) E7.1) (Keep.of_wr W8).1) (Keep.of_wr W9).1) i10_1
  have yql_ : n0 ≤ b2_5_10 := Nat.le_trans Z0 ykw_
  have f6 := (f3.keep K10)
  have f7 := (f4.keep K10)
  have f8 := (f5.keep K10 own_n0)
  obtain ⟨T11, h11, X11, e11, E11, A11, D11, -, st11⟩ := newO X10 hx hZ6 hown6 (hi 14 rfl) (hi 15 rfl) (hi 16 rfl) rfl (g := (mkF m 119 #[vI p1, vI p2, vI p3, vI p4, vI (1 : Int32), vA yi_, vA c6, vI (1 : Int32), vI ((p3 &&& (255 : Int32)).toUInt32.toUInt16.toUInt32.toInt32), vI ((p4 &&& (255 : Int32)).toUInt32.toUInt16.toUInt32.toInt32), vA b7, vA b4_10, vU, vU, vU, vU] [])) rfl (hb hby at_119) (by decide) (by decide)
  obtain ⟨b11, g11⟩ : ∃ z, z = T10.heap.size := ⟨_, rfl⟩
  rw [← g11] at A11 D11 st11
  have g_b11 : n0 ≤ b11 := Nat.le_trans (Nat.le_trans (Nat.le_trans (Nat.le_trans (Nat.le_trans (Nat.le_trans Z0 E6.1) E7.1) (Keep.of_wr W8).1) (Keep.of_wr W9).1) K10.1) (Nat.le_of_eq g11.symm)
  have sz_b11 : h0.size ≤ b11 := Nat.le_trans (Nat.le_trans (Nat.le_trans (Nat.le_trans (Nat.le_trans (Nat.le_trans (Nat.le_refl h0.size) E6.1) E7.1) (Keep.of_wr W8).1) (Keep.of_wr W9).1) K10.1) (Nat.le_of_eq g11.symm)
  have yev_ : Fld Z h11 b11 "underdeck/deck/SqlText" "parts" "Ljava/util/List;" .null := D11 (Or.inr (hi 48 rfl)) (ty := (.object "java/util/List")) (by decide)
  have yee_ : Fld Z h11 b11 "underdeck/deck/SqlText" "current" "Ljava/lang/StringBuilder;" .null := D11 (Or.inr (hi 68 rfl)) (ty := (.object "java/lang/StringBuilder")) (by decide)
  have ydj_ : Fld Z h11 b11 "underdeck/deck/SqlText" "placeholders" "Ljava/util/List;" .null := D11 (Or.inr (hi 70 rfl)) (ty := (.object "java/util/List")) (by decide)
  have yew_ : Fld Z h11 b11 "underdeck/deck/SqlText" "types" "Ljava/util/Map;" .null := D11 (Or.inr (hi 88 rfl)) (ty := (.object "java/util/Map")) (by decide)
  have yds_ : Fld Z h11 b11 "underdeck/deck/SqlText" "groupLists" "Ljava/util/Map;" .null := D11 (Or.inr (hi 90 rfl)) (ty := (.object "java/util/Map")) (by decide)
  have yex_ : Fld Z h11 b11 "underdeck/deck/SqlText" "names" "Ljava/util/Set;" .null := D11 (Or.inr (hi 111 rfl)) (ty := (.object "java/util/Set")) (by decide)
  have yef_ : Fld Z h11 b11 "underdeck/deck/SqlText" "dialect" "Lunderdeck/deck/Dialect;" .null := D11 (Or.inr (hi 113 rfl)) (ty := (.object "underdeck/deck/Dialect")) (by decide)
  have f9 := ((own_sta_keep ((((yaj_.ext E6).ext E7).wr W8).wr W9) K10 own_q0).ext E11)
  have f10 := ((own_sta_keep f2 K10 own_q0).ext E11)
  obtain ⟨_, _, ⟨T12, L12, k12, n12⟩, -, X12, ⟨Lc12, hQ12, l12, y12, z12⟩, st12⟩ := X11.specialBack hx (y := mN49) rfl hown6 (mvT hZ6 (hi 17 rfl)) (mvT hZ6 (hi 18 rfl)) (mvT hZ6 (hi 19 rfl)) (by decide) (backOf (W := 1) (rm1 l Z a0 hw [] b11 yi_ yg_ .null ya_ .null .null .null .null .null .null h11 n0 (Nat.le_trans (Nat.le_trans (Nat.le_trans (Nat.le_trans (Nat.le_trans (Nat.le_trans Z0 E6.1) E7.1) (Keep.of_wr W8).1) (Keep.of_wr W9).1) K10.1) E11.1) hcs f9 A11 yev_ g_b11 f10 yee_ ydj_ yew_ yds_ yex_ yef_) hZ6 (hi 19 rfl) (hi 16 rfl) (by decide) (by decide)) (g := (mkF m 125 #[vI p1, vI p2, vI p3, vI p4, vI (1 : Int32), vA yi_, vA c6, vI (1 : Int32), vI ((p3 &&& (255 : Int32)).toUInt32.toUInt16.toUInt32.toInt32), vI ((p4 &&& (255 : Int32)).toUInt32.toUInt16.toUInt32.toInt32), vA b7, vA b4_10, vU, vU, vU, vU] [(.ref yi_), (.ref b11), (.ref b11)])) rfl (by rw [hml]; rfl) (Steps.refl _) (a := b11) (argsL := [(.ref yi_)]) (rest := [(.ref b11)]) (lenOf ybm_ rfl) rfl (by show 2 * 0 + _ ≤ _; exact Nat.le_of_eq rfl) (hb hby at_125) (fun _ _ => ⟨rfl, e11, (by decide : 6 + 8 ≤ _), (by decide : 78 + 51 ≤ _)⟩)
  dsimp only [Pt.U, Pt.locs, Pt.cells, Pt.slots] at X12 l12 y12 z12 st12 hQ12
  subst l12 y12 z12
  obtain ⟨b7_12, ⟨ybj_, ⟨b10_12, ⟨ybs_, ⟨rfl, N12q, K12, i12_0, i12_1, i12_2, i12_3, i12_4, i12_5, i12_6, i12_7, i12_8, i12_9, i12_10, i12_11, i12_12, i12_13, i12_14, i12_15, i12_16, i12_17, i12_18, i12_19⟩⟩⟩⟩⟩ := hQ12
  have N12 := Fr.app N10 N12q
  have f11 := (f6.ext E11)
  have f12 := (f7.ext E11)
  have f13 := (i10_3.ext E11)
  have f14 := (i10_6.ext E11)
  have f15 := (f8.ext E11)
  have ych_ : h0.size ≤ b7_12 := Nat.le_trans (Nat.le_trans (Nat.le_trans (Nat.le_trans (Nat.le_trans (Nat.le_trans (Nat.le_trans (Nat.le_refl h0.size) E6.1) E7.1) (Keep.of_wr W8).1) (Keep.of_wr W9).1) K10.1) E11.1) i12_0
  have g_b7_12 : n0 ≤ b7_12 := Nat.le_trans Z0 ych_
  have ybk_ : h0.size ≤ ybj_ := Nat.le_trans (Nat.le_trans (Nat.le_trans (Nat.le_trans (Nat.le_trans (Nat.le_trans (Nat.le_trans (Nat.le_refl h0.size) E6.1) E7.1) (Keep.of_wr W8).1) (Keep.of_wr W9).1) K10.1) E11.1) i12_1
  have ydq_ : n0 ≤ ybj_ := Nat.le_trans Z0 ybk_
  have ygr_ : h0.size ≤ b10_12 := Nat.le_trans (Nat.le_trans (Nat.le_trans (Nat.le_trans (Nat.le_trans (Nat.le_trans (Nat.le_trans (Nat.le_refl h0.size) E6.1) E7.1) (Keep.of_wr W8).1) (Keep.of_wr W9).1) K10.1) E11.1) i12_2
  have ymw_ : n0 ≤ b10_12 := Nat.le_trans Z0 ygr_
  have f16 := ((i10_4.ext E11).keep K12 (own_nm (Nat.ne_of_lt (Nat.lt_of_lt_of_le i10_3.lt (Nat.le_of_eq g11.symm))) own_n0))
  have f17 := ((i10_7.ext E11).keep K12 (own_nm (Nat.ne_of_lt (Nat.lt_of_lt_of_le i10_6.lt (Nat.le_of_eq g11.symm))) own_n0))
  have f18 := (own_sta_keep f10 K12 (own_qc (own_nst A11) own_q0))
  have f19 := ((i10_5.ext E11).keep K12 (own_nm (Nat.ne_of_lt (Nat.lt_of_lt_of_le i10_3.lt (Nat.le_of_eq g11.symm))) own_n0))
  have f20 := (f13.keep K12)
  obtain ⟨cq13, kq13, q13a, q13b, q13c⟩ := isOf hZ6 rfl i12_6
  obtain ⟨_, _, ⟨T13, L13, k13, n13⟩, -, X13, ⟨Lc13, hQ13, l13, y13, z13⟩, st13⟩ := X12.virtualBack hx (y := mN52) (z := mN52) hown6 (mvT hZ6 (hi 114 rfl)) (mvT hZ6 (hi 115 rfl)) (notFace_of_selects (args := #[]) (mvT hZ6 (hi 117 rfl))) (mvT hZ6 (hi 117 rfl)) (mvT hZ6 (hi 116 rfl)) (by decide) (backOf (W := 0) (rm12 l Z a0 hw [] b11 b4_10 b7_12 ybj_ b2_5_10 k2_5_10 (1 : Int32) ([(.int (nar .byte (((p3 &&& (255 : Int32)).toUInt32.toUInt16.toUInt32.toInt32).toInt8.toInt32)))] : List Value) ya_ (0 : Int32) ybs_ (16 : Int32) ((List.replicate 16 (Value.int (0 : Int32))) : List Value) T12.heap n0 (Nat.le_trans (Nat.le_trans (Nat.le_trans (Nat.le_trans (Nat.le_trans (Nat.le_trans (Nat.le_trans Z0 E6.1) E7.1) (Keep.of_wr W8).1) (Keep.of_wr W9).1) K10.1) E11.1) K12.1) hcs i12_7 i12_12 f16 f17 f18 i12_11 i12_15 i12_13 f19 f20 i12_10 ydq_ g_b7_12 (by decide) (by decide) (by decide) (by decide) (by decide) (Nat.le_of_ble_eq_true rfl) i12_3 (Ne.symm i12_3)) hZ6 (hi 118 rfl) (hi 16 rfl) (by decide) (by decide)) q13a q13c (g := (mkF m 134 #[vI p1, vI p2, vI p3, vI p4, vI (1 : Int32), vA yi_, vA c6, vI (1 : Int32), vI ((p3 &&& (255 : Int32)).toUInt32.toUInt16.toUInt32.toInt32), vI ((p4 &&& (255 : Int32)).toUInt32.toUInt16.toUInt32.toInt32), vA b7, vA b4_10, vA b11, vU, vU, vU] [(.ref b4_10), (.ref b11)])) rfl (by rw [hml]; rfl) (Steps.refl _) (argsL := [(.ref b4_10)]) (rest := []) (lenOf yat_ rfl) rfl (by show 2 * 0 + _ ≤ _; exact Nat.le_of_eq rfl) (hb hby at_134) (fun _ _ => ⟨rfl, rfl, (by decide : 14 + 0 ≤ _), (by decide : 129 + 0 ≤ _)⟩)
  dsimp only [Pt.U, Pt.locs, Pt.cells, Pt.slots] at X13 l13 y13 z13 st13 hQ13
  subst l13 y13 z13
  obtain ⟨rfl, N13q, K13, i13_0, i13_1, i13_2, i13_3, i13_4⟩ := hQ13
  have N13 := Fr.app N12 N13q
  have Ui13_0 : Arv Z T13.heap ybj_ ybs_ .byte (16 : Int32) (ls_2 p3) (.int (0 : Int32)) := i13_0
  have Ui13_4 : Fld Z T13.heap b7_12 "java/lang/AbstractStringBuilder" "count" "I" (.int (1 : Int32)) := i13_4
  have f21 := (i12_9.keep K13 (own_nm (Nat.ne_of_lt (Nat.lt_of_lt_of_le A11.lt i12_1)) (own_nm (Nat.ne_of_lt (Nat.lt_of_lt_of_le A11.lt i12_0)) own_n0)))
  have f22 := ((((((((yah_.ext E6).ext E7).other W8 (Or.inl (Nat.ne_of_lt (Nat.lt_of_lt_of_le yah_.lt sz_b7)))).other W9 (Or.inl (Nat.ne_of_lt (Nat.lt_of_lt_of_le yah_.lt sz_b7)))).keep K10 own_n0).ext E11).keep K12 (own_nm (Nat.ne_of_lt (Nat.lt_of_lt_of_le yah_.lt sz_b11)) own_n0)).keep K13 (own_nm (Nat.ne_of_lt (Nat.lt_of_lt_of_le yah_.lt ybk_)) (own_nm (Nat.ne_of_lt (Nat.lt_of_lt_of_le yah_.lt ych_)) own_n0)))
  have f23 := (i12_7.keep K13 (own_nm (Nat.ne_of_lt (Nat.lt_of_lt_of_le A11.lt i12_1)) (own_nm (Nat.ne_of_lt (Nat.lt_of_lt_of_le A11.lt i12_0)) own_n0)))
  have f24 := ((((((((yj_.ext E6).ext E7).other W8 (Or.inl (Nat.ne_of_lt (Nat.lt_of_lt_of_le yj_.lt sz_b7)))).other W9 (Or.inl (Nat.ne_of_lt (Nat.lt_of_lt_of_le yj_.lt sz_b7)))).keep K10 own_n0).ext E11).keep K12 (own_nm (Nat.ne_of_lt (Nat.lt_of_lt_of_le yj_.lt sz_b11)) own_n0)).keep K13 (own_nm (Nat.ne_of_lt (Nat.lt_of_lt_of_le yj_.lt ybk_)) (own_nm (Nat.ne_of_lt (Nat.lt_of_lt_of_le yj_.lt ych_)) own_n0)))
  have f25 := ((((((((yu_.ext E6).ext E7).other W8 (Nat.ne_of_lt (Nat.lt_of_lt_of_le yu_.lt sz_b7))).other W9 (Nat.ne_of_lt (Nat.lt_of_lt_of_le yu_.lt sz_b7))).keep K10 own_n0).ext E11).keep K12 (own_nm (Nat.ne_of_lt (Nat.lt_of_lt_of_le yu_.lt sz_b11)) own_n0)).keep K13 (own_nm (Nat.ne_of_lt (Nat.lt_of_lt_of_le yu_.lt ybk_)) (own_nm (Nat.ne_of_lt (Nat.lt_of_lt_of_le yu_.lt ych_)) own_n0)))
  have f26 := (own_sta_keep f18 K13 (own_qc (own_nst i12_14) (own_qc (own_nst i12_10) own_q0)))
  have f27 := ((((((((ycb_.ext E6).ext E7).wr W8).wr W9).keep K10).ext E11).keep K12).keep K13)
  have f28 := ((((((((yau_.ext E6).ext E7).other W8 (Or.inl (Nat.ne_of_lt (Nat.lt_of_lt_of_le yj_.lt sz_b7)))).other W9 (Or.inl (Nat.ne_of_lt (Nat.lt_of_lt_of_le yj_.lt sz_b7)))).keep K10 own_n0).ext E11).keep K12 (own_nm (Nat.ne_of_lt (Nat.lt_of_lt_of_le yj_.lt sz_b11)) own_n0)).keep K13 (own_nm (Nat.ne_of_lt (Nat.lt_of_lt_of_le yj_.lt ybk_)) (own_nm (Nat.ne_of_lt (Nat.lt_of_lt_of_le yj_.lt ych_)) own_n0)))
  have f29 := ((((((((yba_.ext E6).ext E7).wr W8).wr W9).keep K10).ext E11).keep K12).keep K13)
  have f30 := (i12_6.keep K13)
  obtain ⟨cq14, kq14, q14a, q14b, q14c⟩ := isOf hZ6 rfl f30
  obtain ⟨_, _, ⟨T14, L14, k14, n14⟩, -, X14, ⟨Lc14, hQ14, l14, y14, z14⟩, st14⟩ := X13.virtualBack hx (y := mN50) (z := mN50) hown6 (mvT hZ6 (hi 169 rfl)) (mvT hZ6 (hi 170 rfl)) (notFace_of_selects (args := #[]) (mvT hZ6 (hi 172 rfl))) (mvT hZ6 (hi 172 rfl)) (mvT hZ6 (hi 171 rfl)) (by decide) (backOf (W := 0) (rm21 l Z a0 hw [] b11 yi_ yk_ b7_12 ybj_ yl_ yq_ (15 : Int32) ((ls_8) : List Value) ya_ (1 : Int32) ybs_ (16 : Int32) ((ls_2 p3) : List Value) T13.heap n0 (Nat.le_trans (Nat.le_trans (Nat.le_trans (Nat.le_trans (Nat.le_trans (Nat.le_trans (Nat.le_trans (Nat.le_trans Z0 E6.1) E7.1) (Keep.of_wr W8).1) (Keep.of_wr W9).1) K10.1) E11.1) K12.1) K13.1) hcs f21 f22 f27 f23 i13_2 f24 f25 f26 Ui13_4 Ui13_0 i13_3 f28 f29 i13_1 ydq_ g_b7_12 f30 (by decide) (by decide) (by decide) (by decide) (by decide) (Nat.le_of_ble_eq_true rfl) i12_3 (Ne.symm i12_3)) hZ6 (hi 173 rfl) (hi 16 rfl) (by decide) (by decide)) q14a q14c (g := (mkF m 141 #[vI p1, vI p2, vI p3, vI p4, vI (1 : Int32), vA yi_, vA c6, vI (1 : Int32), vI ((p3 &&& (255 : Int32)).toUInt32.toUInt16.toUInt32.toInt32), vI ((p4 &&& (255 : Int32)).toUInt32.toUInt16.toUInt32.toInt32), vA b7, vA b4_10, vA b11, vA b11, vU, vU] [(.ref b11)])) rfl (by rw [hml]; rfl) (Steps.refl _) (argsL := []) (rest := []) (lenOf ybo_ rfl) rfl (by show 2 * 0 + _ ≤ _; exact Nat.le_of_eq rfl) (hb hby at_141) (fun _ _ => ⟨rfl, rfl, (by decide : 14 + 0 ≤ _), (by decide : 129 + 0 ≤ _)⟩)
  dsimp only [Pt.U, Pt.locs, Pt.cells, Pt.slots] at X14 l14 y14 z14 st14 hQ14
  subst l14 y14 z14
  obtain ⟨rfl, N14q, K14, i14_0, i14_1, i14_2, i14_3, i14_4⟩ := hQ14
  have N14 := Fr.app N13 N14q
  have f31 := (i12_14.keep K13)
  have Ui14_0 : Arv Z T14.heap ybj_ ybs_ .byte (16 : Int32) (ls_10 p3) (.int (0 : Int32)) := i14_0
  have Ui14_4 : Fld Z T14.heap b7_12 "java/lang/AbstractStringBuilder" "count" "I" (.int (16 : Int32)) := i14_4
  have f32 := ((i12_8.keep K13 (own_nm (Nat.ne_of_lt (Nat.lt_of_lt_of_le A11.lt i12_1)) (own_nm (Nat.ne_of_lt (Nat.lt_of_lt_of_le A11.lt i12_0)) own_n0))).keep K14 (own_nm (Nat.ne_of_lt (Nat.lt_of_lt_of_le A11.lt i12_1)) (own_nm (Nat.ne_of_lt (Nat.lt_of_lt_of_le A11.lt i12_0)) own_n0)))
  have f33 := (f23.keep K14 (own_nm (Nat.ne_of_lt (Nat.lt_of_lt_of_le A11.lt i12_1)) (own_nm (Nat.ne_of_lt (Nat.lt_of_lt_of_le A11.lt i12_0)) own_n0)))
  have f34 := (own_sta_keep f26 K14 (own_qc (own_nst f31) (own_qc (own_nst i13_1) own_q0)))
  have f35 := ((i12_18.keep K13 (own_nm (Ne.symm i12_5) (own_nm (Ne.symm i12_4) own_n0))).keep K14 (own_nm (Ne.symm i12_5) (own_nm (Ne.symm i12_4) own_n0)))
  have f36 := ((i12_16.keep K13).keep K14)
  have f37 := (f31.keep K14)
  have f38 := (f30.keep K14)
  obtain ⟨cq15, kq15, q15a, q15b, q15c⟩ := isOf hZ6 rfl f38
  obtain ⟨_, _, ⟨T15, L15, k15, n15⟩, -, X15, ⟨Lc15, hQ15, l15, y15, z15⟩, st15⟩ := X14.virtualBack hx (y := mN51) (z := mN51) hown6 (mvT hZ6 (hi 182 rfl)) (mvT hZ6 (hi 183 rfl)) (notFace_of_selects (args := #[]) (mvT hZ6 (hi 185 rfl))) (mvT hZ6 (hi 185 rfl)) (mvT hZ6 (hi 184 rfl)) (by decide) (backOf (W := 0) (rm23k l Z a0 hw [] b11 b10_12 b7_12 ybj_ (16 : Int32) ya_ ybs_ ((ls_10 p3) : List Value) T14.heap n0 (Nat.le_trans (Nat.le_trans (Nat.le_trans (Nat.le_trans (Nat.le_trans (Nat.le_trans (Nat.le_trans (Nat.le_trans (Nat.le_trans Z0 E6.1) E7.1) (Keep.of_wr W8).1) (Keep.of_wr W9).1) K10.1) E11.1) K12.1) K13.1) K14.1) hcs f32 f35 f36 f33 i14_2 Ui14_4 f34 i14_1 i14_3 f37 Ui14_0 (by decide)) hZ6 (hi 186 rfl) (hi 16 rfl) (by decide) (by decide)) q15a q15c (g := (mkF m 148 #[vI p1, vI p2, vI p3, vI p4, vI (1 : Int32), vA yi_, vA c6, vI (1 : Int32), vI ((p3 &&& (255 : Int32)).toUInt32.toUInt16.toUInt32.toInt32), vI ((p4 &&& (255 : Int32)).toUInt32.toUInt16.toUInt32.toInt32), vA b7, vA b4_10, vA b11, vA b11, vA b11, vU] [(.ref b11)])) rfl (by rw [hml]; rfl) (Steps.refl _) (argsL := []) (rest := []) (lenOf ybh_ rfl) rfl (by show 2 * 0 + _ ≤ _; exact Nat.le_of_eq rfl) (hb hby at_148) (fun _ _ => ⟨rfl, rfl, (by decide : 14 + 2 ≤ _), (by decide : 129 + 20 ≤ _)⟩)
  dsimp only [Pt.U, Pt.locs, Pt.cells, Pt.slots] at X15 l15 y15 z15 st15 hQ15
  subst l15 y15 z15
  obtain ⟨b2_5_15, ⟨yes_, ⟨rfl, N15q, K15, i15_0, i15_1, i15_2, i15_3, i15_4, i15_5, i15_6, i15_7⟩⟩⟩ := hQ15
  have N15 := Fr.app N14 N15q
  have f39 := (((f11.keep K12).keep K13).keep K14)
  have f40 := (((f12.keep K12).keep K13).keep K14)
  have f41 := ((f20.keep K13).keep K14)
  have f42 := (((f14.keep K12).keep K13).keep K14)
  have f43 := (((f15.keep K12 (own_nm (Nat.ne_of_lt (Nat.lt_of_lt_of_le f8.lt (Nat.le_of_eq g11.symm))) own_n0)).keep K13 (own_nm (Nat.ne_of_lt (Nat.lt_of_lt_of_le f15.lt i12_1)) (own_nm (Nat.ne_of_lt (Nat.lt_of_lt_of_le f15.lt i12_0)) own_n0))).keep K14 (own_nm (Nat.ne_of_lt (Nat.lt_of_lt_of_le f15.lt i12_1)) (own_nm (Nat.ne_of_lt (Nat.lt_of_lt_of_le f15.lt i12_0)) own_n0)))
  have ygb_ : h0.size ≤ b2_5_15 := Nat.le_trans (Nat.le_trans (Nat.le_trans (Nat.le_trans (Nat.le_trans (Nat.le_trans (Nat.le_trans (Nat.le_trans (Nat.le_trans (Nat.le_trans (Nat.le_refl h0.size) E6.1) E7.1) (Keep.of_wr W8).1) (Keep.of_wr W9).1) K10.1) E11.1) K12.1) K13.1) K14.1) i15_0
  have ylo_ : n0 ≤ b2_5_15 := Nat.le_trans Z0 ygb_
  have yni_ : h0.size ≤ yes_ := Nat.le_trans (Nat.le_trans (Nat.le_trans (Nat.le_trans (Nat.le_trans (Nat.le_trans (Nat.le_trans (Nat.le_trans (Nat.le_trans (Nat.le_trans (Nat.le_refl h0.size) E6.1) E7.1) (Keep.of_wr W8).1) (Keep.of_wr W9).1) K10.1) E11.1) K12.1) K13.1) K14.1) i15_1
  have yrd_ : n0 ≤ yes_ := Nat.le_trans Z0 yni_
  have Ui15_7 : Arv Z T15.heap yes_ ybs_ .byte (16 : Int32) (ls_10 p3) (.int (0 : Int32)) := i15_7
  have f44 := (own_sta_keep f34 K15 own_q0)
  obtain ⟨cq16, kq16, q16a, q16b, q16c⟩ := isOf hZ6 rfl i15_3
  obtain ⟨_, _, ⟨T16, L16, k16, n16⟩, -, X16, ⟨Lc16, hQ16, l16, y16, z16⟩, st16⟩ := X15.virtualBack hx (y := mN21) (z := mN21) hown6 (mvT hZ6 (hi 245 rfl)) (mvT hZ6 (hi 130 rfl)) (notFace_of_selects (args := #[]) (mvT hZ6 (hi 132 rfl))) (mvT hZ6 (hi 132 rfl)) (mvT hZ6 (hi 131 rfl)) (by decide) (backOf (W := 0) (rm15 l Z a0 hw [] b2_5_15 yes_ ybs_ (16 : Int32) ((ls_10 p3) : List Value) ya_ (0 : Int32) T15.heap n0 (Nat.le_trans (Nat.le_trans (Nat.le_trans (Nat.le_trans (Nat.le_trans (Nat.le_trans (Nat.le_trans (Nat.le_trans (Nat.le_trans (Nat.le_trans Z0 E6.1) E7.1) (Keep.of_wr W8).1) (Keep.of_wr W9).1) K10.1) E11.1) K12.1) K13.1) K14.1) K15.1) hcs i15_5 Ui15_7 f44 i15_4 i15_3) hZ6 (hi 133 rfl) (hi 4 rfl) (by decide) (by decide)) q16a q16c (g := (mkF m 169 #[vI p1, vI p2, vI p3, vI p4, vI (1 : Int32), vA yi_, vA c6, vI (1 : Int32), vI ((p3 &&& (255 : Int32)).toUInt32.toUInt16.toUInt32.toInt32), vI ((p4 &&& (255 : Int32)).toUInt32.toUInt16.toUInt32.toInt32), vA b7, vA b4_10, vA b11, vA b11, vA b11, vA b2_5_15] [(.ref b2_5_15)])) rfl (by rw [hml]; rfl) (Steps.refl _) (argsL := []) (rest := []) (lenOf ycf_ rfl) rfl (by show 2 * 0 + _ ≤ _; exact Nat.le_of_eq rfl) (hb hby at_169) (fun _ _ => ⟨rfl, rfl, (by decide : 16 + 0 ≤ _), (by decide : 149 + 0 ≤ _)⟩)
  dsimp only [Pt.U, Pt.locs, Pt.cells, Pt.slots] at X16 l16 y16 z16 st16 hQ16
  subst l16 y16 z16
  obtain ⟨rfl, N16q, e16⟩ := hQ16
  have N16 := Fr.app N15 N16q
  have f45 := (((((((((iV6.ext E7).other W8 (Or.inl (Nat.ne_of_lt (Nat.lt_of_lt_of_le iE6.lt (Nat.le_of_eq g7.symm))))).other W9 (Or.inl (Nat.ne_of_lt (Nat.lt_of_lt_of_le iE6.lt (Nat.le_of_eq g7.symm))))).keep K10 own_n0).ext E11).keep K12 (own_nm (Nat.ne_of_lt (Nat.lt_of_lt_of_le f6.lt (Nat.le_of_eq g11.symm))) own_n0)).keep K13 (own_nm (Nat.ne_of_lt (Nat.lt_of_lt_of_le f11.lt i12_1)) (own_nm (Nat.ne_of_lt (Nat.lt_of_lt_of_le f11.lt i12_0)) own_n0))).keep K14 (own_nm (Nat.ne_of_lt (Nat.lt_of_lt_of_le f11.lt i12_1)) (own_nm (Nat.ne_of_lt (Nat.lt_of_lt_of_le f11.lt i12_0)) own_n0))).keep K15 own_n0)
  have f46 := (f43.keep K15 own_n0)
  have f47 := (((((((((iC6.ext E7).other W8 (Or.inl (Nat.ne_of_lt (Nat.lt_of_lt_of_le iE6.lt (Nat.le_of_eq g7.symm))))).other W9 (Or.inl (Nat.ne_of_lt (Nat.lt_of_lt_of_le iE6.lt (Nat.le_of_eq g7.symm))))).keep K10 own_n0).ext E11).keep K12 (own_nm (Nat.ne_of_lt (Nat.lt_of_lt_of_le f6.lt (Nat.le_of_eq g11.symm))) own_n0)).keep K13 (own_nm (Nat.ne_of_lt (Nat.lt_of_lt_of_le f11.lt i12_1)) (own_nm (Nat.ne_of_lt (Nat.lt_of_lt_of_le f11.lt i12_0)) own_n0))).keep K14 (own_nm (Nat.ne_of_lt (Nat.lt_of_lt_of_le f11.lt i12_1)) (own_nm (Nat.ne_of_lt (Nat.lt_of_lt_of_le f11.lt i12_0)) own_n0))).keep K15 own_n0)
  have f48 := (f39.keep K15)
  obtain ⟨cq17, kq17, q17a, q17b, q17c⟩ := isOf hZ6 e16 f48
  obtain ⟨_, _, ⟨T17, L17, k17, n17⟩, -, X17, ⟨Lc17, hQ17, l17, y17, z17⟩, st17⟩ := X16.virtualBack hx (y := mN21) (z := mN21) hown6 (mvT hZ6 (hi 245 rfl)) (mvT hZ6 (hi 130 rfl)) (notFace_of_selects (args := #[]) (mvT hZ6 (hi 132 rfl))) (mvT hZ6 (hi 132 rfl)) (mvT hZ6 (hi 131 rfl)) (by decide) (backOf (W := 2) (rm15 l Z a0 hw [] c6 b6 kb6 (15 : Int32) ((ls_8) : List Value) ya_ (0 : Int32) T15.heap n0 (Nat.le_trans (Nat.le_trans (Nat.le_trans (Nat.le_trans (Nat.le_trans (Nat.le_trans (Nat.le_trans (Nat.le_trans (Nat.le_trans (Nat.le_trans Z0 E6.1) E7.1) (Keep.of_wr W8).1) (Keep.of_wr W9).1) K10.1) E11.1) K12.1) K13.1) K14.1) K15.1) hcs f45 f46 f44 f47 f48) hZ6 (hi 133 rfl) (hi 4 rfl) (by decide) (by decide)) q17a q17c (g := (mkF m 176 #[vI p1, vI p2, vI p3, vI p4, vI (1 : Int32), vA yi_, vA c6, vI (1 : Int32), vI ((p3 &&& (255 : Int32)).toUInt32.toUInt16.toUInt32.toInt32), vI ((p4 &&& (255 : Int32)).toUInt32.toUInt16.toUInt32.toInt32), vA b7, vA b4_10, vA b11, vA b11, vA b11, vA b2_5_15] [(.ref c6), (.int (1 : Int32)), (.int (16 : Int32))])) rfl (by rw [hml]; rfl) (Steps.refl _) (argsL := []) (rest := [(.int (1 : Int32)), (.int (16 : Int32))]) (lenOf ycf_ rfl) rfl (by show 2 * 0 + _ ≤ _; exact Nat.le_of_eq rfl) (hb hby at_176) (fun _ _ => ⟨rfl, e16, (by decide : 16 + 0 ≤ _), (by decide : 149 + 0 ≤ _)⟩)
  dsimp only [Pt.U, Pt.locs, Pt.cells, Pt.slots] at X17 l17 y17 z17 st17 hQ17
  subst l17 y17 z17
  obtain ⟨rfl, N17q, e17⟩ := hQ17
  have N17 := Fr.app N16 N17q
  have f49 := (own_sta_keep (own_sta_keep (own_sta_keep (own_sta_keep ((own_sta_keep ((((yx_.ext E6).ext E7).wr W8).wr W9) K10 own_q0).ext E11) K12 (own_qc (own_nst A11) own_q0)) K13 (own_qc (own_nst i12_14) (own_qc (own_nst i12_10) own_q0))) K14 (own_qc (own_nst f31) (own_qc (own_nst i13_1) own_q0))) K15 own_q0)
  obtain ⟨cq18, kq18, q18a, q18b, q18c⟩ := isOf hZ6 e17 i15_3
  obtain ⟨_, _, ⟨T18, L18, k18, n18⟩, -, X18, ⟨Lc18, hQ18, l18, y18, z18⟩, st18⟩ := X17.virtualBack hx (y := mN16) (z := mN16) hown6 (mvT hZ6 (hi 253 rfl)) (mvT hZ6 (hi 254 rfl)) (notFace_of_selects (args := #[]) (mvT hZ6 (hi 256 rfl))) (mvT hZ6 (hi 256 rfl)) (mvT hZ6 (hi 255 rfl)) (by decide) (backOf (W := 0) (rm38 l Z a0 hw [] b2_5_15 (0 : Int32) ya_ yes_ ybs_ (16 : Int32) ((ls_10 p3) : List Value) yb_ (nar .byte (((p3 &&& (255 : Int32)).toUInt32.toUInt16.toUInt32.toInt32).toInt8.toInt32)) T15.heap n0 (Nat.le_trans (Nat.le_trans (Nat.le_trans (Nat.le_trans (Nat.le_trans (Nat.le_trans (Nat.le_trans (Nat.le_trans (Nat.le_trans (Nat.le_trans Z0 E6.1) E7.1) (Keep.of_wr W8).1) (Keep.of_wr W9).1) K10.1) E11.1) K12.1) K13.1) K14.1) K15.1) hcs hsv f44 i15_4 i15_3 i15_5 Ui15_7 f49 (by decide) (by decide) (by decide) rfl) hZ6 (hi 257 rfl) (hi 4 rfl) (by decide) (by decide)) q18a q18c (g := (mkF m 192 #[vI p1, vI p2, vI p3, vI p4, vI (1 : Int32), vA yi_, vA c6, vI (1 : Int32), vI ((p3 &&& (255 : Int32)).toUInt32.toUInt16.toUInt32.toInt32), vI ((p4 &&& (255 : Int32)).toUInt32.toUInt16.toUInt32.toInt32), vA b7, vA b4_10, vA b11, vA b11, vA b11, vA b2_5_15] [(.int (0 : Int32)), (.ref b2_5_15)])) rfl (by rw [hml]; rfl) (Steps.refl _) (argsL := [(.int (0 : Int32))]) (rest := []) (lenOf yel_ rfl) rfl (by show 2 * 0 + _ ≤ _; exact Nat.le_of_eq rfl) (hb hby at_192) (fun _ _ => ⟨rfl, e17, (by decide : 16 + 0 ≤ _), (by decide : 149 + 0 ≤ _)⟩)
  dsimp only [Pt.U, Pt.locs, Pt.cells, Pt.slots] at X18 l18 y18 z18 st18 hQ18
  subst l18 y18 z18
  obtain ⟨rfl, N18q, e18⟩ := hQ18
  have N18 := Fr.app N17 N18q
  obtain ⟨_, _, ⟨T19, L19, k19, n19⟩, -, X19, ⟨Lc19, hQ19, l19, y19, z19⟩, st19⟩ := Jvm.LawKit.callS X18 hx (y := mN54) hown6 (mvT hZ6 (hi 246 rfl)) (mvT hZ6 (hi 247 rfl)) (mvT hZ6 (hi 248 rfl)) (mvT hZ6 (hi 249 rfl)) (by decide) (backOf (W := 0) (rm36_15 l Z a0 hw [] b2_5_15 (1 : Int32) c6 b6 ya_ yes_ ybs_ (16 : Int32) ((ls_10 p3) : List Value) yb_ kb6 ((ls_8) : List Value) (32 : Int32) (100 : Int32) (101 : Int32) (102 : Int32) (97 : Int32) (117 : Int32) (108 : Int32) (116 : Int32) (32 : Int32) (118 : Int32) (97 : Int32) (108 : Int32) (117 : Int32) (101 : Int32) (115 : Int32) T15.heap n0 (Nat.le_trans (Nat.le_trans (Nat.le_trans (Nat.le_trans (Nat.le_trans (Nat.le_trans (Nat.le_trans (Nat.le_trans (Nat.le_trans (Nat.le_trans Z0 E6.1) E7.1) (Keep.of_wr W8).1) (Keep.of_wr W9).1) K10.1) E11.1) K12.1) K13.1) K14.1) K15.1) hcs hsv f45 f44 i15_5 Ui15_7 f49 f47 f48 i15_4 i15_3 f46 (by decide) (by decide) (by decide) rfl rfl (by decide) (by decide) (by decide) rfl rfl (by decide) (by decide) (by decide) rfl rfl (by decide) (by decide) (by decide) rfl rfl (by decide) (by decide) (by decide) rfl rfl (by decide) (by decide) (by decide) rfl rfl (by decide) (by decide) (by decide) rfl rfl (by decide) (by decide) (by decide) rfl rfl (by decide) (by decide) (by decide) rfl rfl (by decide) (by decide) (by decide) rfl rfl (by decide) (by decide) (by decide) rfl rfl (by decide) (by decide) (by decide) rfl rfl (by decide) (by decide) (by decide) rfl rfl (by decide) (by decide) (by decide) rfl rfl (by decide) (by decide) (by decide) rfl rfl) hZ6 (hi 249 rfl) (hi 248 rfl) (by decide) (by decide)) (g := (mkF m 223 #[vI p1, vI p2, vI p3, vI p4, vI (1 : Int32), vA yi_, vA c6, vI (1 : Int32), vI ((p3 &&& (255 : Int32)).toUInt32.toUInt16.toUInt32.toInt32), vI ((p4 &&& (255 : Int32)).toUInt32.toUInt16.toUInt32.toInt32), vA b7, vA b4_10, vA b11, vA b11, vA b11, vA b2_5_15] [(.ref c6), (.int (1 : Int32)), (.ref b2_5_15)])) rfl (by rw [hml]; rfl) (argsL := [(.ref b2_5_15), (.int (1 : Int32)), (.ref c6)]) (rest := []) (lenOf ybd_ rfl) rfl (by show 2 * 0 + _ ≤ _; exact Nat.le_of_eq rfl) (hb hby at_223) (fun _ _ => ⟨rfl, e18, (by decide : 16 + 0 ≤ _), (by decide : 149 + 0 ≤ _)⟩)
  dsimp only [Pt.U, Pt.locs, Pt.cells, Pt.slots] at X19 l19 y19 z19 st19 hQ19
  subst l19 y19 z19
  obtain ⟨rfl, N19q, e19⟩ := hQ19
  have N19 := Fr.app N18 N19q
  obtain ⟨fs, hr, hrun, hended, hw1, hw2, hw3, hw4⟩ := X19.leaveW hS6 (show _ ≤ T19.heap.size from by rw [e19]; exact (Nat.le_trans (Nat.le_trans (Nat.le_trans (Nat.le_trans (Nat.le_trans (Nat.le_trans (Nat.le_trans (Nat.le_trans (Nat.le_trans hk6 E7.1) (Keep.of_wr W8).1) (Keep.of_wr W9).1) K10.1) E11.1) K12.1) K13.1) K14.1) K15.1)) (v := some (.int (1 : Int32))) (fun h => by rw [Bd.returns] at h; cases h)
  refine ⟨_, _, castTop (ef_0 m p1 p2 p3 p4) ?_, hrun, hended, _, _, rfl, ?_, hw1, hw2, hw3, hw4.mono (by decide) (by decide)⟩
  · show Steps p.tables e below (s₁.setTop (mkF m 0 #[vI p1, vI p2, vI p3, vI p4, vU, vU, vU, vU, vU, vU, vU, vU, vU, vU, vU, vU] [])) _
    refine XS.iloadN X0.here hx rfl (hb hby at_0) rfl ?_
    refine XS.iconst X0.here hx rfl (hb hby at_1) ?_
    refine XS.iand X0.here hx rfl (hb hby at_2) rfl ?_
    refine XS.ifNo X0.here hx rfl (hb hby at_3) rfl ((if0 _ _).trans (teq hc3).2) ?_
    refine XS.iconst X0.here hx rfl (hb hby at_6) ?_
    refine XS.goto X0.here hx rfl (pc0 := 7) (pc' := 11) rfl (hb hby at_7) (by decide) (by decide) ?_
    refine XS.istore X0.here hx rfl (hb hby at_11) rfl (l' := #[vI p1, vI p2, vI p3, vI p4, vI (1 : Int32), vU, vU, vU, vU, vU, vU, vU, vU, vU, vU, vU]) rfl ?_
    refine XS.iload X0.here hx rfl (hb hby at_13) rfl ?_
    refine XS.ifNo X0.here hx rfl (hb hby at_15) rfl ((if0 _ _).trans (feq (by decide : ¬ ((1 : Int32) = (0 : Int32)))).1) ?_
    refine st5 _ ?_
    refine XS.goto X5.here hx rfl (pc0 := 21) (pc' := 27) rfl (hb hby at_21) (by decide) (by decide) ?_
    refine XS.astore X5.here hx rfl (hb hby at_27) rfl rfl (l' := #[vI p1, vI p2, vI p3, vI p4, vI (1 : Int32), vA yi_, vU, vU, vU, vU, vU, vU, vU, vU, vU, vU]) rfl ?_
    refine XS.iload X5.here hx rfl (hb hby at_29) rfl ?_
    refine XS.ifNo X5.here hx rfl (hb hby at_31) rfl ((if0 _ _).trans (feq (by decide : ¬ ((1 : Int32) = (0 : Int32)))).1) ?_
    refine st6 _ ?_
    refine XS.goto X6.here hx rfl (pc0 := 36) (pc' := 41) rfl (hb hby at_36) (by decide) (by decide) ?_
    refine XS.astore X6.here hx rfl (hb hby at_41) rfl rfl (l' := #[vI p1, vI p2, vI p3, vI p4, vI (1 : Int32), vA yi_, vA c6, vU, vU, vU, vU, vU, vU, vU, vU, vU]) rfl ?_
    refine XS.iloadN X6.here hx rfl (hb hby at_43) rfl ?_
    refine X6.ldcInt hx hown6 (mvT hZ6 (hi 11 rfl)) (g := (mkF m 44 #[vI p1, vI p2, vI p3, vI p4, vI (1 : Int32), vA yi_, vA c6, vU, vU, vU, vU, vU, vU, vU, vU, vU] [(.int p2)])) rfl (hb hby at_44) _ ?_
    refine XS.iand X6.here hx rfl (hb hby at_46) rfl ?_
    refine XS.iconst X6.here hx rfl (hb hby at_47) ?_
    refine XS.irem X6.here hx rfl (hb hby at_48) rfl (by decide) ?_
    refine XS.istore X6.here hx rfl (hb hby at_49) rfl (l' := #[vI p1, vI p2, vI p3, vI p4, vI (1 : Int32), vA yi_, vA c6, vI (t0_0 p2), vU, vU, vU, vU, vU, vU, vU, vU]) rfl ?_
    refine XS.iloadN X6.here hx rfl (hb hby at_51) rfl ?_
    refine XS.sipush X6.here hx rfl (hb hby at_52) ?_
    refine XS.iand X6.here hx rfl (hb hby at_55) rfl ?_
    refine XS.i2c X6.here hx rfl (hb hby at_56) rfl ?_
    refine XS.istore X6.here hx rfl (hb hby at_57) rfl (l' := #[vI p1, vI p2, vI p3, vI p4, vI (1 : Int32), vA yi_, vA c6, vI (t0_0 p2), vI ((p3 &&& (255 : Int32)).toUInt32.toUInt16.toUInt32.toInt32), vU, vU, vU, vU, vU, vU, vU]) rfl ?_
    refine XS.iloadN X6.here hx rfl (hb hby at_59) rfl ?_
    refine XS.sipush X6.here hx rfl (hb hby at_60) ?_
    refine XS.iand X6.here hx rfl (hb hby at_63) rfl ?_
    refine XS.i2c X6.here hx rfl (hb hby at_64) rfl ?_
    refine XS.istore X6.here hx rfl (hb hby at_65) rfl (l' := #[vI p1, vI p2, vI p3, vI p4, vI (1 : Int32), vA yi_, vA c6, vI (t0_0 p2), vI ((p3 &&& (255 : Int32)).toUInt32.toUInt16.toUInt32.toInt32), vI ((p4 &&& (255 : Int32)).toUInt32.toUInt16.toUInt32.toInt32), vU, vU, vU, vU, vU, vU]) rfl ?_
    refine XS.iconst X6.here hx rfl (hb hby at_67) ?_
    refine st7 _ ?_
    refine XS.astore X7.here hx rfl (hb hby at_70) rfl rfl (l' := #[vI p1, vI p2, vI p3, vI p4, vI (1 : Int32), vA yi_, vA c6, vI (t0_0 p2), vI ((p3 &&& (255 : Int32)).toUInt32.toUInt16.toUInt32.toInt32), vI ((p4 &&& (255 : Int32)).toUInt32.toUInt16.toUInt32.toInt32), vA b7, vU, vU, vU, vU, vU]) rfl ?_
    refine XS.aload X7.here hx rfl (hb hby at_72) rfl rfl ?_
    refine XS.iconst X7.here hx rfl (hb hby at_74) ?_
    refine XS.iload X7.here hx rfl (hb hby at_75) rfl ?_
    refine st8 _ ?_
    refine XS.aload X8.here hx rfl (hb hby at_78) rfl rfl ?_
    refine XS.iconst X8.here hx rfl (hb hby at_80) ?_
    refine XS.iload X8.here hx rfl (hb hby at_81) rfl ?_
    refine st9 _ ?_
    refine XS.iload X9.here hx rfl (hb hby at_84) rfl ?_
    refine XS.ifYes X9.here hx rfl (pc0 := 86) (pc' := 94) rfl (hb hby at_86) rfl ((if0 _ _).trans (feq hc86).2) (by decide) (by decide) ?_
    refine XS.iload X9.here hx rfl (hb hby at_94) rfl ?_
    refine XS.iconst X9.here hx rfl (hb hby at_96) ?_
    refine XS.icmpNo X9.here hx rfl (hb hby at_97) rfl (teq hc97).2 ?_
    show Steps p.tables e below (T9.setTop (mkF m 100 #[vI p1, vI p2, vI p3, vI p4, vI (1 : Int32), vA yi_, vA c6, vI (t0_0 p2), vI ((p3 &&& (255 : Int32)).toUInt32.toUInt16.toUInt32.toInt32), vI ((p4 &&& (255 : Int32)).toUInt32.toUInt16.toUInt32.toInt32), vA b7, vU, vU, vU, vU, vU] [])) _
    rw [show (t0_0 p2) = (1 : Int32) from hc97]
    refine XS.iload X9.here hx rfl (hb hby at_100) rfl ?_
    refine st10 _ ?_
    refine XS.goto X10.here hx rfl (pc0 := 105) (pc' := 117) rfl (hb hby at_105) (by decide) (by decide) ?_
    refine XS.astore X10.here hx rfl (hb hby at_117) rfl rfl (l' := #[vI p1, vI p2, vI p3, vI p4, vI (1 : Int32), vA yi_, vA c6, vI (1 : Int32), vI ((p3 &&& (255 : Int32)).toUInt32.toUInt16.toUInt32.toInt32), vI ((p4 &&& (255 : Int32)).toUInt32.toUInt16.toUInt32.toInt32), vA b7, vA b4_10, vU, vU, vU, vU]) rfl ?_
    refine st11 _ ?_
    refine XS.dup X11.here hx rfl (hb hby at_122) rfl rfl ?_
    refine XS.aload X11.here hx rfl (hb hby at_123) rfl rfl ?_
    refine st12.trans ?_
    refine XS.astore X12.here hx rfl (hb hby at_128) rfl rfl (l' := #[vI p1, vI p2, vI p3, vI p4, vI (1 : Int32), vA yi_, vA c6, vI (1 : Int32), vI ((p3 &&& (255 : Int32)).toUInt32.toUInt16.toUInt32.toInt32), vI ((p4 &&& (255 : Int32)).toUInt32.toUInt16.toUInt32.toInt32), vA b7, vA b4_10, vA b11, vU, vU, vU]) rfl ?_
    refine XS.aload X12.here hx rfl (hb hby at_130) rfl rfl ?_
    refine XS.aload X12.here hx rfl (hb hby at_132) rfl rfl ?_
    refine st13.trans ?_
    refine XS.astore X13.here hx rfl (hb hby at_137) rfl rfl (l' := #[vI p1, vI p2, vI p3, vI p4, vI (1 : Int32), vA yi_, vA c6, vI (1 : Int32), vI ((p3 &&& (255 : Int32)).toUInt32.toUInt16.toUInt32.toInt32), vI ((p4 &&& (255 : Int32)).toUInt32.toUInt16.toUInt32.toInt32), vA b7, vA b4_10, vA b11, vA b11, vU, vU]) rfl ?_
    refine XS.aload X13.here hx rfl (hb hby at_139) rfl rfl ?_
    refine st14.trans ?_
    refine XS.astore X14.here hx rfl (hb hby at_144) rfl rfl (l' := #[vI p1, vI p2, vI p3, vI p4, vI (1 : Int32), vA yi_, vA c6, vI (1 : Int32), vI ((p3 &&& (255 : Int32)).toUInt32.toUInt16.toUInt32.toInt32), vI ((p4 &&& (255 : Int32)).toUInt32.toUInt16.toUInt32.toInt32), vA b7, vA b4_10, vA b11, vA b11, vA b11, vU]) rfl ?_
    refine XS.aload X14.here hx rfl (hb hby at_146) rfl rfl ?_
    refine st15.trans ?_
    refine XS.astore X15.here hx rfl (hb hby at_151) rfl rfl (l' := #[vI p1, vI p2, vI p3, vI p4, vI (1 : Int32), vA yi_, vA c6, vI (1 : Int32), vI ((p3 &&& (255 : Int32)).toUInt32.toUInt16.toUInt32.toInt32), vI ((p4 &&& (255 : Int32)).toUInt32.toUInt16.toUInt32.toInt32), vA b7, vA b4_10, vA b11, vA b11, vA b11, vA b2_5_15]) rfl ?_
    refine XS.aload X15.here hx rfl (hb hby at_153) rfl rfl ?_
    refine XS.aload X15.here hx rfl (hb hby at_155) rfl rfl ?_
    refine Jvm.RoadKit.acmp (g := (mkF m 157 #[vI p1, vI p2, vI p3, vI p4, vI (1 : Int32), vA yi_, vA c6, vI (1 : Int32), vI ((p3 &&& (255 : Int32)).toUInt32.toUInt16.toUInt32.toInt32), vI ((p4 &&& (255 : Int32)).toUInt32.toUInt16.toUInt32.toInt32), vA b7, vA b4_10, vA b11, vA b11, vA b11, vA b2_5_15] [(.ref b11), (.ref b11)])) X15 hx rfl rfl rfl (pc0 := 157) (pc' := 160) (same := true) rfl (hb hby at_157) rfl (decide_eq_true rfl) (by decide) (by decide) ?_
    refine XS.aload X15.here hx rfl (hb hby at_160) rfl rfl ?_
    refine XS.aload X15.here hx rfl (hb hby at_162) rfl rfl ?_
    refine Jvm.RoadKit.acmp (g := (mkF m 164 #[vI p1, vI p2, vI p3, vI p4, vI (1 : Int32), vA yi_, vA c6, vI (1 : Int32), vI ((p3 &&& (255 : Int32)).toUInt32.toUInt16.toUInt32.toInt32), vI ((p4 &&& (255 : Int32)).toUInt32.toUInt16.toUInt32.toInt32), vA b7, vA b4_10, vA b11, vA b11, vA b11, vA b2_5_15] [(.ref b11), (.ref b11)])) X15 hx rfl rfl rfl (pc0 := 164) (pc' := 167) (same := true) rfl (hb hby at_164) rfl (decide_eq_true rfl) (by decide) (by decide) ?_
    refine XS.aload X15.here hx rfl (hb hby at_167) rfl rfl ?_
    refine st16.trans ?_
    refine XS.iload X16.here hx rfl (hb hby at_172) rfl ?_
    refine XS.aload X16.here hx rfl (hb hby at_174) rfl rfl ?_
    refine st17.trans ?_
    refine XS.iadd X17.here hx rfl (hb hby at_179) rfl ?_
    refine XS.icmpNo X17.here hx rfl (hb hby at_180) rfl (teq (rfl : (16 : Int32) = (16 : Int32))).2 ?_
    refine XS.iload X17.here hx rfl (hb hby at_183) rfl ?_
    refine XS.iconst X17.here hx rfl (hb hby at_185) ?_
    refine XS.icmpNo X17.here hx rfl (hb hby at_186) rfl (flt (fun q => Int32.lt_irrefl q : ¬ ((1 : Int32) < (1 : Int32)))).1 ?_
    refine XS.aload X17.here hx rfl (hb hby at_189) rfl rfl ?_
    refine XS.iconst X17.here hx rfl (hb hby at_191) ?_
    refine st18.trans ?_
    refine XS.iload X18.here hx rfl (hb hby at_195) rfl ?_
    refine XS.icmpNo X18.here hx rfl (hb hby at_197) rfl (teq (show (t0_1 p3) = ((p3 &&& (255 : Int32)).toUInt32.toUInt16.toUInt32.toInt32) from own_chr1 p3)).2 ?_
    refine XS.iload X18.here hx rfl (hb hby at_200) rfl ?_
    refine XS.iconst X18.here hx rfl (hb hby at_202) ?_
    refine XS.icmpYes X18.here hx rfl (pc0 := 203) (pc' := 217) rfl (hb hby at_203) rfl (tlt (by decide : (1 : Int32) < (2 : Int32))).1 (by decide) (by decide) ?_
    refine XS.aload X18.here hx rfl (hb hby at_217) rfl rfl ?_
    refine XS.iload X18.here hx rfl (hb hby at_219) rfl ?_
    refine XS.aload X18.here hx rfl (hb hby at_221) rfl rfl ?_
    refine st19 _ ?_
    refine XS.ifNo X19.here hx rfl (hb hby at_226) rfl ((if0 _ _).trans (feq (by decide : ¬ ((1 : Int32) = (0 : Int32)))).1) ?_
    refine XS.iconst X19.here hx rfl (hb hby at_229) ?_
    refine XS.goto X19.here hx rfl (pc0 := 230) (pc' := 234) rfl (hb hby at_230) (by decide) (by decide) ?_
    show Steps p.tables e below (T19.setTop (mkF m 234 #[vI p1, vI p2, vI p3, vI p4, vI (1 : Int32), vA yi_, vA c6, vI (1 : Int32), vI ((p3 &&& (255 : Int32)).toUInt32.toUInt16.toUInt32.toInt32), vI ((p4 &&& (255 : Int32)).toUInt32.toUInt16.toUInt32.toInt32), vA b7, vA b4_10, vA b11, vA b11, vA b11, vA b2_5_15] [(.int (1 : Int32))])) _
    exact retN X19 hx (t := .boolean) Bd.returns (by simp) (hb hby at_234) hr
  · show Q_rm0 Z p1 p2 p3 p4 yr_ yg_ ya_ yp_ yo_ yb_ yt_ yi_ yk_ yl_ yq_ h0 n0 _ T19.heap _
    exact ⟨rfl, N19⟩
set_option maxRecDepth 65536 in
set_option maxHeartbeats 40000000 in
theorem rm0_ftt (l : Launch) (Z : State) (a0 : Array Value) (hw : ∀ d ∈ tables_1, d.before a0 Z = true) (ws : List Jvm.Cond) (p1 : Int32) (p2 : Int32) (p3 : Int32) (p4 : Int32) (yr_ : Addr) (yg_ : Addr) (ya_ : Int32) (yp_ : Addr) (yo_ : Addr) (yb_ : Value) (yt_ : ClassId) (yi_ : Addr) (yk_ : Addr) (yl_ : Addr) (yq_ : ClassId) (h0 : Heap) (n0 : Nat) (Z0 : n0 ≤ h0.size) (hcs : ¬ (ya_ = (0 : Int32))) (hsv : yb_.isRef = true) (ydh_ : Sta Z h0 "underdeck/deck/Dialect" "MARIADB" "Lunderdeck/deck/Dialect;" (.ref yr_)) (yaj_ : Sta Z h0 "java/util/ArrayList" "DEFAULTCAPACITY_EMPTY_ELEMENTDATA" "[Ljava/lang/Object;" (.ref yg_)) (yf_ : Sta Z h0 "java/lang/String" "COMPACT_STRINGS" "Z" (.int ya_)) (yal_ : Fld Z h0 yr_ "underdeck/deck/Dialect" "defaultsOnly" "Ljava/lang/String;" (.ref yp_)) (ym_ : Fld Z h0 yp_ "java/lang/String" "value" "[B" (.ref yo_)) (ycz_ : Exa Z h0 yr_ "underdeck/deck/Dialect") (yay_ : Fld Z h0 yp_ "java/lang/String" "coder" "B" (.int (0 : Int32))) (ybc_ : Exa Z h0 yp_ "java/lang/String") (yx_ : Sta Z h0 "jdk/internal/util/Preconditions" "SIOOBE_FORMATTER" "Ljava/util/function/BiFunction;" yb_) (yy_ : Arv Z h0 yo_ yt_ .byte (13 : Int32) (ls_0) (.int (0 : Int32))) (ycl_ : Sta Z h0 "underdeck/deck/Dialect" "POSTGRESQL" "Lunderdeck/deck/Dialect;" (.ref yi_)) (yah_ : Fld Z h0 yi_ "underdeck/deck/Dialect" "defaultsOnly" "Ljava/lang/String;" (.ref yk_)) (yj_ : Fld Z h0 yk_ "java/lang/String" "value" "[B" (.ref yl_)) (ycb_ : Exa Z h0 yi_ "underdeck/deck/Dialect") (yau_ : Fld Z h0 yk_ "java/lang/String" "coder" "B" (.int (0 : Int32))) (yba_ : Exa Z h0 yk_ "java/lang/String") (yu_ : Arv Z h0 yl_ yq_ .byte (15 : Int32) (ls_8) (.int (0 : Int32))) (hc3 : (p1 &&& (1 : Int32)) = (0 : Int32)) (hc86 : ¬ ((t0_0 p2) = (0 : Int32))) (hc97 : ¬ ((t0_0 p2) = (1 : Int32))) :
    MetFree l x (head1 (Jvm.Cond.code x code maxLocals ret :: ws) room_1) (fun a U => a = #[(.int p1), (.int p2), (.int p3), (.int p4)] ∧ Z.Warmed39 U.vm ∧ U.heap = h0 ∧ CHv Z consts_1 U.vm h0) (fun _ _ _ _ _ => True) (fun _ U o U' => ∃ v L, o = .returned v ∧ Q_rm0 Z p1 p2 p3 p4 yr_ yg_ ya_ yp_ yo_ yb_ yt_ yi_ yk_ yl_ yq_ h0 n0 v U'.heap L ∧ ReturnedEndW U o U' L room_1.cells room_1.slots) := by
  have hi : ∀ (i : Nat) {d : Jvm.Cond}, tables_1[i]? = some d → d.before a0 Z = true := fun i d h => hw d (List.mem_of_getElem? h)
  refine MetFree.of_bodySF (plainFor_of_name pn_0) hisR ?_
  intro p e s m args below meth c s₁ Bd hml0 hP hK
  obtain ⟨rfl, hZ, hh, hCH⟩ := hP
  have hx := Bd.exec
  have hby := Bd.bytes
  have hml : c.maxLocals = 16 := hml0
  have hown : s.vm.findClass "underdeck/deck/SqlTextDefaultsOnlyPinLaw" = some m.cls := findClass_of_methodNamed Bd.named
  have hnm := (name_of_methodNamed Bd.named Bd.method).1
  have X0 : Stand p l e room_1 (s.setVm s.vm) m #[(.int p1), (.int p2), (.int p3), (.int p4)] below meth c s₁ [] 0 0 := Stand.of_body Bd
  have e0 : s₁.heap = h0 := by rw [← hh, Bd.state]; rfl
  have N0 := Fr.nil n0
  have hS0 : s.Since s.vm h0.size := (State.WarmedH.refl s).since _
  obtain ⟨T5, X5, e5, st5⟩ := getS2 X0 hx hZ hown (host := "") (Or.inl (hi 0 rfl)) Via.refl e0 ycl_ (g := (mkF m 18 #[vI p1, vI p2, vI p3, vI p4, vI (1 : Int32), vU, vU, vU, vU, vU, vU, vU, vU, vU, vU, vU] [])) rfl (hb hby at_18)
  obtain ⟨c6, T6, h6, k6, b6, kb6, X6, e6, E6, hS6, hk6, hZ6, hown6, iE6, iC6, iV6, iA6, -, -, hC6, hL6, -, st6⟩ := ldcCH (s := s) X5 hx hZ hown (hi 3 rfl) (own_strs hw) e5 hS0 (Nat.le_refl h0.size) (own_EW hw) (by simp [consts_1]) hCH (vs := [(.int (32 : Int32)), (.int (100 : Int32)), (.int (101 : Int32)), (.int (102 : Int32)), (.int (97 : Int32)), (.int (117 : Int32)), (.int (108 : Int32)), (.int (116 : Int32)), (.int (32 : Int32)), (.int (118 : Int32)), (.int (97 : Int32)), (.int (108 : Int32)), (.int (117 : Int32)), (.int (101 : Int32)), (.int (115 : Int32))]) (z := (15 : Int32)) ⟨by decide, rfl⟩ (by decide) rfl (g := (mkF m 34 #[vI p1, vI p2, vI p3, vI p4, vI (1 : Int32), vA yi_, vU, vU, vU, vU, vU, vU, vU, vU, vU, vU] [])) rfl (hb hby at_34) (n := 60) (by decide) (by decide) (by decide) (by decide)
  obtain ⟨T7, h7, k7, X7, e7, E7, A7, iE7, st7⟩ := newPE X6 hx hZ6 (hi 12 rfl) e6 (g := (mkF m 68 #[vI p1, vI p2, vI p3, vI p4, vI (1 : Int32), vA yi_, vA c6, vI (t0_0 p2), vI ((p3 &&& (255 : Int32)).toUInt32.toUInt16.toUInt32.toInt32), vI ((p4 &&& (255 : Int32)).toUInt32.toUInt16.toUInt32.toInt32), vU, vU, vU, vU, vU, vU] [(.int (2 : Int32))])) rfl (hb hby at_68) rfl (by decide) (cap := 2) (by decide) (by decide) (by decide) (by decide) (ad := "[C") rfl
  obtain ⟨b7, g7⟩ : ∃ z, z = h6.size := ⟨_, rfl⟩
  rw [← g7] at A7 iE7 st7
  have g_b7 : n0 ≤ b7 := Nat.le_trans (Nat.le_trans Z0 E6.1) (Nat.le_of_eq g7.symm)
  have sz_b7 : h0.size ≤ b7 := Nat.le_trans (Nat.le_trans (Nat.le_refl h0.size) E6.1) (Nat.le_of_eq g7.symm)
  have V_b7 : Arv Z h7 b7 k7 .char (2 : Int32) [(.int (0 : Int32)), (.int (0 : Int32))] (.int (0 : Int32)) := (Arv.new A7 (by decide)).pad (pad_rep [] (.int (0 : Int32)) 2)
  obtain ⟨cl_b7_0, Ar_b7_0, q_b7_0, Sz_b7_0, Ng_b7_0, Ha_b7_0, Gt_b7_0⟩ := id V_b7
  have yem_ : ¬ ((0 : Int32) < 0 ∨ cl_b7_0.slots.size ≤ ((0 : Int32)).toNatClampNeg) := inb_of Sz_b7_0 ⟨by decide, by decide⟩
  obtain ⟨T8, h8, X8, e8, W8, st8⟩ := stC X7 hx hZ6 e7 Ar_b7_0 (j := (0 : Int32)) yem_ (g := (mkF m 77 #[vI p1, vI p2, vI p3, vI p4, vI (1 : Int32), vA yi_, vA c6, vI (t0_0 p2), vI ((p3 &&& (255 : Int32)).toUInt32.toUInt16.toUInt32.toInt32), vI ((p4 &&& (255 : Int32)).toUInt32.toUInt16.toUInt32.toInt32), vA b7, vU, vU, vU, vU, vU] [(.int ((p3 &&& (255 : Int32)).toUInt32.toUInt16.toUInt32.toInt32)), (.int (0 : Int32)), (.ref b7)])) rfl rfl (hb hby at_77)
  have V8 : Arv Z h8 b7 k7 .char (2 : Int32) [(.int (nar .char ((p3 &&& (255 : Int32)).toUInt32.toUInt16.toUInt32.toInt32))), (.int (0 : Int32))] (.int (0 : Int32)) := Arv.set Ar_b7_0 q_b7_0 Sz_b7_0 Ng_b7_0 Ha_b7_0 Gt_b7_0 (fits_nar_char _) W8 0 rfl (Nat.le_of_ble_eq_true rfl)
  have N8 := Fr.snoc X8 N0 g_b7
  obtain ⟨cl_b7_1, Ar_b7_1, q_b7_1, Sz_b7_1, Ng_b7_1, Ha_b7_1, Gt_b7_1⟩ := id V8
  have yen_ : ¬ ((1 : Int32) < 0 ∨ cl_b7_1.slots.size ≤ ((1 : Int32)).toNatClampNeg) := inb_of Sz_b7_1 ⟨by decide, by decide⟩
  obtain ⟨T9, h9, X9, e9, W9, st9⟩ := stC X8 hx hZ6 e8 Ar_b7_1 (j := (1 : Int32)) yen_ (g := (mkF m 83 #[vI p1, vI p2, vI p3, vI p4, vI (1 : Int32), vA yi_, vA c6, vI (t0_0 p2), vI ((p3 &&& (255 : Int32)).toUInt32.toUInt16.toUInt32.toInt32), vI ((p4 &&& (255 : Int32)).toUInt32.toUInt16.toUInt32.toInt32), vA b7, vU, vU, vU, vU, vU] [(.int ((p4 &&& (255 : Int32)).toUInt32.toUInt16.toUInt32.toInt32)), (.int (1 : Int32)), (.ref b7)])) rfl rfl (hb hby at_83)
  have V9 : Arv Z h9 b7 k7 .char (2 : Int32) [(.int (nar .char ((p3 &&& (255 : Int32)).toUInt32.toUInt16.toUInt32.toInt32))), (.int (nar .char ((p4 &&& (255 : Int32)).toUInt32.toUInt16.toUInt32.toInt32)))] (.int (0 : Int32)) := Arv.set Ar_b7_1 q_b7_1 Sz_b7_1 Ng_b7_1 Ha_b7_1 Gt_b7_1 (fits_nar_char _) W9 1 rfl (Nat.le_of_ble_eq_true rfl)
  have N9 := Fr.snoc X9 N8 g_b7
  have f2 := (((iE6.ext E7).wr W8).wr W9)
  have f3 := ((iE7.wr W8).wr W9)
  have f4 := (((iA6.ext E7).other W8 (Nat.ne_of_lt (Nat.lt_of_lt_of_le iA6.lt (Nat.le_of_eq g7.symm)))).other W9 (Nat.ne_of_lt (Nat.lt_of_lt_of_le iA6.lt (Nat.le_of_eq g7.symm))))
  obtain ⟨T10, h10, X10, e10, E10, A10, D10, -, st10⟩ := newO X9 hx hZ6 hown6 (hi 300 rfl) (hi 5 rfl) (hi 4 rfl) e9 (g := (mkF m 108 #[vI p1, vI p2, vI p3, vI p4, vI (1 : Int32), vA yi_, vA c6, vI (2 : Int32), vI ((p3 &&& (255 : Int32)).toUInt32.toUInt16.toUInt32.toInt32), vI ((p4 &&& (255 : Int32)).toUInt32.toUInt16.toUInt32.toInt32), vA b7, vU, vU, vU, vU, vU] [])) rfl (hb hby at_108) (by decide) (by decide)
  obtain ⟨b10, g10⟩ : ∃ z, z = h9.size := ⟨_, rfl⟩
  rw [← g10] at A10 D10 st10
  have g_b10 : n0 ≤ b10 := Nat.le_trans (Nat.le_trans (Nat.le_trans (Nat.le_trans (Nat.le_trans Z0 E6.1) E7.1) (Keep.of_wr W8).1) (Keep.of_wr W9).1) (Nat.le_of_eq g10.symm)
  have sz_b10 : h0.size ≤ b10 := Nat.le_trans (Nat.le_trans (Nat.le_trans (Nat.le_trans (Nat.le_trans (Nat.le_refl h0.size) E6.1) E7.1) (Keep.of_wr W8).1) (Keep.of_wr W9).1) (Nat.le_of_eq g10.symm)
  have yjz_ : Fld Z h10 b10 "java/lang/String" "value" "[B" .null := D10 (Or.inr (hi 7 rfl)) (ty := (.array .byte)) (by decide)
  have yka_ : Fld Z h10 b10 "java/lang/String" "coder" "B" (.int (0 : Int32)) := D10 (Or.inr (hi 8 rfl)) (ty := .byte) (by decide)
  have f5 := (((((yf_.ext E6).ext E7).wr W8).wr W9).ext E10)
  have f6 := (V9.ext E10)
  obtain ⟨_, _, ⟨T11, L11, k11, n11⟩, -, X11, ⟨Lc11, hQ11, l11, y11, z11⟩, st11⟩ := X10.specialBack hx (y := mN14) rfl hown6 (mvT hZ6 (hi 301 rfl)) (mvT hZ6 (hi 302 rfl)) (mvT hZ6 (hi 303 rfl)) (by decide) (backOf (W := 1) (rm47 l Z a0 hw [] b10 b7 ya_ (0 : Int32) .null k7 (nar .char ((p3 &&& (255 : Int32)).toUInt32.toUInt16.toUInt32.toInt32)) (nar .char ((p4 &&& (255 : Int32)).toUInt32.toUInt16.toUInt32.toInt32)) h10 n0 (Nat.le_trans (Nat.le_trans (Nat.le_trans (Nat.le_trans (Nat.le_trans Z0 E6.1) E7.1) (Keep.of_wr W8).1) (Keep.of_wr W9).1) E10.1) hcs f5 yka_ yjz_ A10 g_b10 f6 (own_le255 _ (own_cc _ (own_cc _ (own_m255 _)))) (own_le255 _ (own_cc _ (own_cc _ (own_m255 _))))) hZ6 (hi 303 rfl) (hi 4 rfl) (by decide) (by decide)) (g := (mkF m 114 #[vI p1, vI p2, vI p3, vI p4, vI (1 : Int32), vA yi_, vA c6, vI (2 : Int32), vI ((p3 &&& (255 : Int32)).toUInt32.toUInt16.toUInt32.toInt32), vI ((p4 &&& (255 : Int32)).toUInt32.toUInt16.toUInt32.toInt32), vA b7, vU, vU, vU, vU, vU] [(.ref b7), (.ref b10), (.ref b10)])) rfl (by rw [hml]; rfl) (Steps.refl _) (a := b10) (argsL := [(.ref b7)]) (rest := [(.ref b10)]) (lenOf ykk_ rfl) rfl (by show 2 * 0 + _ ≤ _; exact Nat.le_of_eq rfl) (hb hby at_114) (fun _ _ => ⟨rfl, e10, (by decide : 4 + 1 ≤ _), (by decide : 70 + 2 ≤ _)⟩)
  dsimp only [Pt.U, Pt.locs, Pt.cells, Pt.slots] at X11 l11 y11 z11 st11 hQ11
  subst l11 y11 z11
  obtain ⟨ygs_, ⟨ylp_, ⟨rfl, N11q, K11, i11_0, i11_1, i11_2, i11_3, i11_4, i11_5⟩⟩⟩ := hQ11
  have N11 := Fr.app N9 N11q
  have f7 := (f2.ext E10)
  have f8 := (f3.ext E10)
  have f9 := (f4.ext E10)
  have yjj_ : h0.size ≤ ygs_ := Nat.le_trans (Nat.le_trans (Nat.le_trans (Nat.le_trans (Nat.le_trans (Nat.le_trans (Nat.le_refl h0.size) E6.1) E7.1) (Keep.of_wr W8).1) (Keep.of_wr W9).1) E10.1) i11_0
  have ypl_ : n0 ≤ ygs_ := Nat.le_trans Z0 yjj_
  have f10 := (f7.keep K11)
  have f11 := (f8.keep K11)
  have f12 := (f9.keep K11 (own_nm (Nat.ne_of_lt (Nat.lt_of_lt_of_le f4.lt (Nat.le_of_eq g10.symm))) own_n0))
  obtain ⟨T12, h12, X12, e12, E12, A12, D12, -, st12⟩ := newO X11 hx hZ6 hown6 (hi 14 rfl) (hi 15 rfl) (hi 16 rfl) rfl (g := (mkF m 119 #[vI p1, vI p2, vI p3, vI p4, vI (1 : Int32), vA yi_, vA c6, vI (2 : Int32), vI ((p3 &&& (255 : Int32)).toUInt32.toUInt16.toUInt32.toInt32), vI ((p4 &&& (255 : Int32)).toUInt32.toUInt16.toUInt32.toInt32), vA b7, vA b10, vU, vU, vU, vU] [])) rfl (hb hby at_119) (by decide) (by decide)
  obtain ⟨b12, g12⟩ : ∃ z, z = T11.heap.size := ⟨_, rfl⟩
  rw [← g12] at A12 D12 st12
  have g_b12 : n0 ≤ b12 := Nat.le_trans (Nat.le_trans (Nat.le_trans (Nat.le_trans (Nat.le_trans (Nat.le_trans (Nat.le_trans Z0 E6.1) E7.1) (Keep.of_wr W8).1) (Keep.of_wr W9).1) E10.1) K11.1) (Nat.le_of_eq g12.symm)
  have sz_b12 : h0.size ≤ b12 := Nat.le_trans (Nat.le_trans (Nat.le_trans (Nat.le_trans (Nat.le_trans (Nat.le_trans (Nat.le_trans (Nat.le_refl h0.size) E6.1) E7.1) (Keep.of_wr W8).1) (Keep.of_wr W9).1) E10.1) K11.1) (Nat.le_of_eq g12.symm)
  have ykb_ : Fld Z h12 b12 "underdeck/deck/SqlText" "parts" "Ljava/util/List;" .null := D12 (Or.inr (hi 48 rfl)) (ty := (.object "java/util/List")) (by decide)
  have yix_ : Fld Z h12 b12 "underdeck/deck/SqlText" "current" "Ljava/lang/StringBuilder;" .null := D12 (Or.inr (hi 68 rfl)) (ty := (.object "java/lang/StringBuilder")) (by decide)
  have ygv_ : Fld Z h12 b12 "underdeck/deck/SqlText" "placeholders" "Ljava/util/List;" .null := D12 (Or.inr (hi 70 rfl)) (ty := (.object "java/util/List")) (by decide)
  have ykc_ : Fld Z h12 b12 "underdeck/deck/SqlText" "types" "Ljava/util/Map;" .null := D12 (Or.inr (hi 88 rfl)) (ty := (.object "java/util/Map")) (by decide)
  have yhm_ : Fld Z h12 b12 "underdeck/deck/SqlText" "groupLists" "Ljava/util/Map;" .null := D12 (Or.inr (hi 90 rfl)) (ty := (.object "java/util/Map")) (by decide)
  have ykd_ : Fld Z h12 b12 "underdeck/deck/SqlText" "names" "Ljava/util/Set;" .null := D12 (Or.inr (hi 111 rfl)) (ty := (.object "java/util/Set")) (by decide)
  have yiy_ : Fld Z h12 b12 "underdeck/deck/SqlText" "dialect" "Lunderdeck/deck/Dialect;" .null := D12 (Or.inr (hi 113 rfl)) (ty := (.object "underdeck/deck/Dialect")) (by decide)
  have f13 := ((own_sta_keep (((((yaj_.ext E6).ext E7).wr W8).wr W9).ext E10) K11 (own_qc (own_nst A10) own_q0)).ext E12)
  have f14 := ((own_sta_keep f5 K11 (own_qc (own_nst A10) own_q0)).ext E12)
  obtain ⟨_, _, ⟨T13, L13, k13, n13⟩, -, X13, ⟨Lc13, hQ13, l13, y13, z13⟩, st13⟩ := X12.specialBack hx (y := mN49) rfl hown6 (mvT hZ6 (hi 17 rfl)) (mvT hZ6 (hi 18 rfl)) (mvT hZ6 (hi 19 rfl)) (by decide) (backOf (W := 1) (rm1 l Z a0 hw [] b12 yi_ yg_ .null ya_ .null .null .null .null .null .null h12 n0 (Nat.le_trans (Nat.le_trans (Nat.le_trans (Nat.le_trans (Nat.le_trans (Nat.le_trans (Nat.le_trans Z0 E6.1) E7.1) (Keep.of_wr W8).1) (Keep.of_wr W9).1) E10.1) K11.1) E12.1) hcs f13 A12 ykb_ g_b12 f14 yix_ ygv_ ykc_ yhm_ ykd_ yiy_) hZ6 (hi 19 rfl) (hi 16 rfl) (by decide) (by decide)) (g := (mkF m 125 #[vI p1, vI p2, vI p3, vI p4, vI (1 : Int32), vA yi_, vA c6, vI (2 : Int32), vI ((p3 &&& (255 : Int32)).toUInt32.toUInt16.toUInt32.toInt32), vI ((p4 &&& (255 : Int32)).toUInt32.toUInt16.toUInt32.toInt32), vA b7, vA b10, vU, vU, vU, vU] [(.ref yi_), (.ref b12), (.ref b12)])) rfl (by rw [hml]; rfl) (Steps.refl _) (a := b12) (argsL := [(.ref yi_)]) (rest := [(.ref b12)]) (lenOf ybm_ rfl) rfl (by show 2 * 0 + _ ≤ _; exact Nat.le_of_eq rfl) (hb hby at_125) (fun _ _ => ⟨rfl, e12, (by decide : 6 + 8 ≤ _), (by decide : 79 + 51 ≤ _)⟩)
  dsimp only [Pt.U, Pt.locs, Pt.cells, Pt.slots] at X13 l13 y13 z13 st13 hQ13
  subst l13 y13 z13
  obtain ⟨b7_13, ⟨ydt_, ⟨b10_13, ⟨yet_, ⟨rfl, N13q, K13, i13_0, i13_1, i13_2, i13_3, i13_4, i13_5, i13_6, i13_7, i13_8, i13_9, i13_10, i13_11, i13_12, i13_13, i13_14, i13_15, i13_16, i13_17, i13_18, i13_19⟩⟩⟩⟩⟩ := hQ13
  have N13 := Fr.app N11 N13q
  have f15 := (f10.ext E12)
  have f16 := (f11.ext E12)
  have f17 := (i11_1.ext E12)
  have f18 := (i11_4.ext E12)
  have f19 := (f12.ext E12)
  have ydy_ : h0.size ≤ b7_13 := Nat.le_trans (Nat.le_trans (Nat.le_trans (Nat.le_trans (Nat.le_trans (Nat.le_trans (Nat.le_trans (Nat.le_trans (Nat.le_refl h0.size) E6.1) E7.1) (Keep.of_wr W8).1) (Keep.of_wr W9).1) E10.1) K11.1) E12.1) i13_0
  have g_b7_13 : n0 ≤ b7_13 := Nat.le_trans Z0 ydy_
  have ydi_ : h0.size ≤ ydt_ := Nat.le_trans (Nat.le_trans (Nat.le_trans (Nat.le_trans (Nat.le_trans (Nat.le_trans (Nat.le_trans (Nat.le_trans (Nat.le_refl h0.size) E6.1) E7.1) (Keep.of_wr W8).1) (Keep.of_wr W9).1) E10.1) K11.1) E12.1) i13_1
  have yiu_ : n0 ≤ ydt_ := Nat.le_trans Z0 ydi_
  have ylq_ : h0.size ≤ b10_13 := Nat.le_trans (Nat.le_trans (Nat.le_trans (Nat.le_trans (Nat.le_trans (Nat.le_trans (Nat.le_trans (Nat.le_trans (Nat.le_refl h0.size) E6.1) E7.1) (Keep.of_wr W8).1) (Keep.of_wr W9).1) E10.1) K11.1) E12.1) i13_2
  have yrc_ : n0 ≤ b10_13 := Nat.le_trans Z0 ylq_
  have f20 := ((i11_3.ext E12).keep K13 (own_nm (Nat.ne_of_lt (Nat.lt_of_lt_of_le i11_1.lt (Nat.le_of_eq g12.symm))) own_n0))
  have f21 := ((i11_5.ext E12).keep K13 (own_nm (Nat.ne_of_lt (Nat.lt_of_lt_of_le i11_4.lt (Nat.le_of_eq g12.symm))) own_n0))
  have f22 := (own_sta_keep f14 K13 (own_qc (own_nst A12) own_q0))
  have f23 := ((i11_2.ext E12).keep K13 (own_nm (Nat.ne_of_lt (Nat.lt_of_lt_of_le i11_1.lt (Nat.le_of_eq g12.symm))) own_n0))
  have f24 := (f17.keep K13)
  obtain ⟨cq14, kq14, q14a, q14b, q14c⟩ := isOf hZ6 rfl i13_6
  obtain ⟨_, _, ⟨T14, L14, k14, n14⟩, -, X14, ⟨Lc14, hQ14, l14, y14, z14⟩, st14⟩ := X13.virtualBack hx (y := mN52) (z := mN52) hown6 (mvT hZ6 (hi 114 rfl)) (mvT hZ6 (hi 115 rfl)) (notFace_of_selects (args := #[]) (mvT hZ6 (hi 117 rfl))) (mvT hZ6 (hi 117 rfl)) (mvT hZ6 (hi 116 rfl)) (by decide) (backOf (W := 0) (rm12 l Z a0 hw [] b12 b10 b7_13 ydt_ ygs_ ylp_ (2 : Int32) ([(.int (nar .byte ((nar .char ((p3 &&& (255 : Int32)).toUInt32.toUInt16.toUInt32.toInt32)).toInt8.toInt32))), (.int (nar .byte ((nar .char ((p4 &&& (255 : Int32)).toUInt32.toUInt16.toUInt32.toInt32)).toInt8.toInt32)))] : List Value) ya_ (0 : Int32) yet_ (16 : Int32) ((List.replicate 16 (Value.int (0 : Int32))) : List Value) T13.heap n0 (Nat.le_trans (Nat.le_trans (Nat.le_trans (Nat.le_trans (Nat.le_trans (Nat.le_trans (Nat.le_trans (Nat.le_trans Z0 E6.1) E7.1) (Keep.of_wr W8).1) (Keep.of_wr W9).1) E10.1) K11.1) E12.1) K13.1) hcs i13_7 i13_12 f20 f21 f22 i13_11 i13_15 i13_13 f23 f24 i13_10 yiu_ g_b7_13 (by decide) (by decide) (by decide) (by decide) (by decide) (Nat.le_of_ble_eq_true rfl) i13_3 (Ne.symm i13_3)) hZ6 (hi 118 rfl) (hi 16 rfl) (by decide) (by decide)) q14a q14c (g := (mkF m 134 #[vI p1, vI p2, vI p3, vI p4, vI (1 : Int32), vA yi_, vA c6, vI (2 : Int32), vI ((p3 &&& (255 : Int32)).toUInt32.toUInt16.toUInt32.toInt32), vI ((p4 &&& (255 : Int32)).toUInt32.toUInt16.toUInt32.toInt32), vA b7, vA b10, vA b12, vU, vU, vU] [(.ref b10), (.ref b12)])) rfl (by rw [hml]; rfl) (Steps.refl _) (argsL := [(.ref b10)]) (rest := []) (lenOf yat_ rfl) rfl (by show 2 * 0 + _ ≤ _; exact Nat.le_of_eq rfl) (hb hby at_134) (fun _ _ => ⟨rfl, rfl, (by decide : 14 + 0 ≤ _), (by decide : 130 + 0 ≤ _)⟩)
  dsimp only [Pt.U, Pt.locs, Pt.cells, Pt.slots] at X14 l14 y14 z14 st14 hQ14
  subst l14 y14 z14
  obtain ⟨rfl, N14q, K14, i14_0, i14_1, i14_2, i14_3, i14_4⟩ := hQ14
  have N14 := Fr.app N13 N14q
  have Ui14_0 : Arv Z T14.heap ydt_ yet_ .byte (16 : Int32) (ls_5 p3 p4) (.int (0 : Int32)) := i14_0
  have Ui14_4 : Fld Z T14.heap b7_13 "java/lang/AbstractStringBuilder" "count" "I" (.int (2 : Int32)) := i14_4
  have f25 := (i13_9.keep K14 (own_nm (Nat.ne_of_lt (Nat.lt_of_lt_of_le A12.lt i13_1)) (own_nm (Nat.ne_of_lt (Nat.lt_of_lt_of_le A12.lt i13_0)) own_n0)))
  have f26 := (((((((((yah_.ext E6).ext E7).other W8 (Or.inl (Nat.ne_of_lt (Nat.lt_of_lt_of_le yah_.lt sz_b7)))).other W9 (Or.inl (Nat.ne_of_lt (Nat.lt_of_lt_of_le yah_.lt sz_b7)))).ext E10).keep K11 (own_nm (Nat.ne_of_lt (Nat.lt_of_lt_of_le yah_.lt sz_b10)) own_n0)).ext E12).keep K13 (own_nm (Nat.ne_of_lt (Nat.lt_of_lt_of_le yah_.lt sz_b12)) own_n0)).keep K14 (own_nm (Nat.ne_of_lt (Nat.lt_of_lt_of_le yah_.lt ydi_)) (own_nm (Nat.ne_of_lt (Nat.lt_of_lt_of_le yah_.lt ydy_)) own_n0)))
  have f27 := (i13_7.keep K14 (own_nm (Nat.ne_of_lt (Nat.lt_of_lt_of_le A12.lt i13_1)) (own_nm (Nat.ne_of_lt (Nat.lt_of_lt_of_le A12.lt i13_0)) own_n0)))
  have f28 := (((((((((yj_.ext E6).ext E7).other W8 (Or.inl (Nat.ne_of_lt (Nat.lt_of_lt_of_le yj_.lt sz_b7)))).other W9 (Or.inl (Nat.ne_of_lt (Nat.lt_of_lt_of_le yj_.lt sz_b7)))).ext E10).keep K11 (own_nm (Nat.ne_of_lt (Nat.lt_of_lt_of_le yj_.lt sz_b10)) own_n0)).ext E12).keep K13 (own_nm (Nat.ne_of_lt (Nat.lt_of_lt_of_le yj_.lt sz_b12)) own_n0)).keep K14 (own_nm (Nat.ne_of_lt (Nat.lt_of_lt_of_le yj_.lt ydi_)) (own_nm (Nat.ne_of_lt (Nat.lt_of_lt_of_le yj_.lt ydy_)) own_n0)))
  have f29 := (own_sta_keep f22 K14 (own_qc (own_nst i13_14) (own_qc (own_nst i13_10) own_q0)))
  have f30 := (((((((((ycb_.ext E6).ext E7).wr W8).wr W9).ext E10).keep K11).ext E12).keep K13).keep K14)
  have f31 := (((((((((yau_.ext E6).ext E7).other W8 (Or.inl (Nat.ne_of_lt (Nat.lt_of_lt_of_le yj_.lt sz_b7)))).other W9 (Or.inl (Nat.ne_of_lt (Nat.lt_of_lt_of_le yj_.lt sz_b7)))).ext E10).keep K11 (own_nm (Nat.ne_of_lt (Nat.lt_of_lt_of_le yj_.lt sz_b10)) own_n0)).ext E12).keep K13 (own_nm (Nat.ne_of_lt (Nat.lt_of_lt_of_le yj_.lt sz_b12)) own_n0)).keep K14 (own_nm (Nat.ne_of_lt (Nat.lt_of_lt_of_le yj_.lt ydi_)) (own_nm (Nat.ne_of_lt (Nat.lt_of_lt_of_le yj_.lt ydy_)) own_n0)))
  have f32 := (((((((((yba_.ext E6).ext E7).wr W8).wr W9).ext E10).keep K11).ext E12).keep K13).keep K14)
  have f33 := (i13_6.keep K14)
  have f34 := (((((((((yu_.ext E6).ext E7).other W8 (Nat.ne_of_lt (Nat.lt_of_lt_of_le yu_.lt sz_b7))).other W9 (Nat.ne_of_lt (Nat.lt_of_lt_of_le yu_.lt sz_b7))).ext E10).keep K11 (own_nm (Nat.ne_of_lt (Nat.lt_of_lt_of_le yu_.lt sz_b10)) own_n0)).ext E12).keep K13 (own_nm (Nat.ne_of_lt (Nat.lt_of_lt_of_le yu_.lt sz_b12)) own_n0)).keep K14 (own_nm (Nat.ne_of_lt (Nat.lt_of_lt_of_le yu_.lt ydi_)) (own_nm (Nat.ne_of_lt (Nat.lt_of_lt_of_le yu_.lt ydy_)) own_n0)))
  obtain ⟨cq15, kq15, q15a, q15b, q15c⟩ := isOf hZ6 rfl f33
  obtain ⟨_, _, ⟨T15, L15, k15, n15⟩, -, X15, ⟨Lc15, hQ15, l15, y15, z15⟩, st15⟩ := X14.virtualBack hx (y := mN50) (z := mN50) hown6 (mvT hZ6 (hi 169 rfl)) (mvT hZ6 (hi 170 rfl)) (notFace_of_selects (args := #[]) (mvT hZ6 (hi 172 rfl))) (mvT hZ6 (hi 172 rfl)) (mvT hZ6 (hi 171 rfl)) (by decide) (backOf (W := 0) (rm21_g l Z a0 hw [] b12 yi_ yk_ b7_13 ydt_ yl_ ya_ yq_ ((ls_8) : List Value) yet_ ((ls_5 p3 p4) : List Value) T14.heap n0 (Nat.le_trans (Nat.le_trans (Nat.le_trans (Nat.le_trans (Nat.le_trans (Nat.le_trans (Nat.le_trans (Nat.le_trans (Nat.le_trans Z0 E6.1) E7.1) (Keep.of_wr W8).1) (Keep.of_wr W9).1) E10.1) K11.1) E12.1) K13.1) K14.1) hcs f25 f26 f30 f27 i14_2 f28 f29 i14_3 f31 f32 Ui14_4 i14_1 g_b7_13 f33 f34 Ui14_0 (Nat.ne_of_lt (Nat.lt_of_lt_of_le yj_.lt ydy_)) (Nat.ne_of_lt (Nat.lt_of_lt_of_le yu_.lt ydy_))) hZ6 (hi 173 rfl) (hi 16 rfl) (by decide) (by decide)) q15a q15c (g := (mkF m 141 #[vI p1, vI p2, vI p3, vI p4, vI (1 : Int32), vA yi_, vA c6, vI (2 : Int32), vI ((p3 &&& (255 : Int32)).toUInt32.toUInt16.toUInt32.toInt32), vI ((p4 &&& (255 : Int32)).toUInt32.toUInt16.toUInt32.toInt32), vA b7, vA b10, vA b12, vA b12, vU, vU] [(.ref b12)])) rfl (by rw [hml]; rfl) (Steps.refl _) (argsL := []) (rest := []) (lenOf ybo_ rfl) rfl (by show 2 * 0 + _ ≤ _; exact Nat.le_of_eq rfl) (hb hby at_141) (fun _ _ => ⟨rfl, rfl, (by decide : 14 + 1 ≤ _), (by decide : 130 + 34 ≤ _)⟩)
  dsimp only [Pt.U, Pt.locs, Pt.cells, Pt.slots] at X15 l15 y15 z15 st15 hQ15
  subst l15 y15 z15
  obtain ⟨ygm_, ⟨yjx_, ⟨rfl, N15q, K15, i15_0, i15_1, i15_2, i15_3, i15_4, i15_5, i15_6⟩⟩⟩ := hQ15
  have N15 := Fr.app N14 N15q
  have f35 := ((f15.keep K13).keep K14)
  have f36 := ((f16.keep K13).keep K14)
  have f37 := (f24.keep K14)
  have f38 := ((f18.keep K13).keep K14)
  have f39 := (i13_14.keep K14)
  have f40 := (i13_16.keep K14)
  have f41 := ((f19.keep K13 (own_nm (Nat.ne_of_lt (Nat.lt_of_lt_of_le f12.lt (Nat.le_of_eq g12.symm))) own_n0)).keep K14 (own_nm (Nat.ne_of_lt (Nat.lt_of_lt_of_le f19.lt i13_1)) (own_nm (Nat.ne_of_lt (Nat.lt_of_lt_of_le f19.lt i13_0)) own_n0)))
  have yly_ : h0.size ≤ ygm_ := Nat.le_trans (Nat.le_trans (Nat.le_trans (Nat.le_trans (Nat.le_trans (Nat.le_trans (Nat.le_trans (Nat.le_trans (Nat.le_trans (Nat.le_trans (Nat.le_refl h0.size) E6.1) E7.1) (Keep.of_wr W8).1) (Keep.of_wr W9).1) E10.1) K11.1) E12.1) K13.1) K14.1) i15_0
  have yqo_ : n0 ≤ ygm_ := Nat.le_trans Z0 yly_
  have Ui15_6 : Arv Z T15.heap ygm_ yjx_ .byte (34 : Int32) (ls_11 p3 p4) (.int (0 : Int32)) := i15_6
  have f42 := ((i13_8.keep K14 (own_nm (Nat.ne_of_lt (Nat.lt_of_lt_of_le A12.lt i13_1)) (own_nm (Nat.ne_of_lt (Nat.lt_of_lt_of_le A12.lt i13_0)) own_n0))).keep K15 (own_nm (Nat.ne_of_lt (Nat.lt_of_lt_of_le A12.lt i13_0)) own_n0))
  have f43 := (f27.keep K15 (own_nm (Nat.ne_of_lt (Nat.lt_of_lt_of_le A12.lt i13_0)) own_n0))
  have f44 := (own_sta_keep f29 K15 (own_qc (own_nst i14_1) own_q0))
  have f45 := ((i13_18.keep K14 (own_nm (Ne.symm i13_5) (own_nm (Ne.symm i13_4) own_n0))).keep K15 (own_nm (Ne.symm i13_4) own_n0))
  have f46 := (f40.keep K15)
  have f47 := (f33.keep K15)
  obtain ⟨cq16, kq16, q16a, q16b, q16c⟩ := isOf hZ6 rfl f47
  obtain ⟨_, _, ⟨T16, L16, k16, n16⟩, -, X16, ⟨Lc16, hQ16, l16, y16, z16⟩, st16⟩ := X15.virtualBack hx (y := mN51) (z := mN51) hown6 (mvT hZ6 (hi 182 rfl)) (mvT hZ6 (hi 183 rfl)) (notFace_of_selects (args := #[]) (mvT hZ6 (hi 185 rfl))) (mvT hZ6 (hi 185 rfl)) (mvT hZ6 (hi 184 rfl)) (by decide) (backOf (W := 0) (rm23c l Z a0 hw [] b12 b10_13 b7_13 ygm_ (17 : Int32) ya_ yjx_ (34 : Int32) ((ls_11 p3 p4) : List Value) T15.heap n0 (Nat.le_trans (Nat.le_trans (Nat.le_trans (Nat.le_trans (Nat.le_trans (Nat.le_trans (Nat.le_trans (Nat.le_trans (Nat.le_trans (Nat.le_trans Z0 E6.1) E7.1) (Keep.of_wr W8).1) (Keep.of_wr W9).1) E10.1) K11.1) E12.1) K13.1) K14.1) K15.1) hcs f42 f45 f46 f43 i15_4 i15_3 f44 Ui15_6 i15_1 i15_2 (by decide) (by decide) (by decide) (by decide) (by decide) (by decide) (by decide) (by decide) (Nat.le_of_ble_eq_true rfl)) hZ6 (hi 186 rfl) (hi 16 rfl) (by decide) (by decide)) q16a q16c (g := (mkF m 148 #[vI p1, vI p2, vI p3, vI p4, vI (1 : Int32), vA yi_, vA c6, vI (2 : Int32), vI ((p3 &&& (255 : Int32)).toUInt32.toUInt16.toUInt32.toInt32), vI ((p4 &&& (255 : Int32)).toUInt32.toUInt16.toUInt32.toInt32), vA b7, vA b10, vA b12, vA b12, vA b12, vU] [(.ref b12)])) rfl (by rw [hml]; rfl) (Steps.refl _) (argsL := []) (rest := []) (lenOf ybh_ rfl) rfl (by show 2 * 0 + _ ≤ _; exact Nat.le_of_eq rfl) (hb hby at_148) (fun _ _ => ⟨rfl, rfl, (by decide : 15 + 2 ≤ _), (by decide : 164 + 21 ≤ _)⟩)
  dsimp only [Pt.U, Pt.locs, Pt.cells, Pt.slots] at X16 l16 y16 z16 st16 hQ16
  subst l16 y16 z16
  obtain ⟨b2_5_16, ⟨ybu_, ⟨ycp_, ⟨rfl, N16q, K16, i16_0, i16_1, i16_2, i16_3, i16_4, i16_5, i16_6, i16_7⟩⟩⟩⟩ := hQ16
  have N16 := Fr.app N15 N16q
  have f48 := (f35.keep K15)
  have f49 := (f36.keep K15)
  have f50 := (f37.keep K15)
  have f51 := (f38.keep K15)
  have f52 := (f39.keep K15)
  have f53 := (f41.keep K15 (own_nm (Nat.ne_of_lt (Nat.lt_of_lt_of_le f19.lt i13_0)) own_n0))
  have ykx_ : h0.size ≤ b2_5_16 := Nat.le_trans (Nat.le_trans (Nat.le_trans (Nat.le_trans (Nat.le_trans (Nat.le_trans (Nat.le_trans (Nat.le_trans (Nat.le_trans (Nat.le_trans (Nat.le_trans (Nat.le_refl h0.size) E6.1) E7.1) (Keep.of_wr W8).1) (Keep.of_wr W9).1) E10.1) K11.1) E12.1) K13.1) K14.1) K15.1) i16_0
  have yqm_ : n0 ≤ b2_5_16 := Nat.le_trans Z0 ykx_
  have ygw_ : h0.size ≤ ybu_ := Nat.le_trans (Nat.le_trans (Nat.le_trans (Nat.le_trans (Nat.le_trans (Nat.le_trans (Nat.le_trans (Nat.le_trans (Nat.le_trans (Nat.le_trans (Nat.le_trans (Nat.le_refl h0.size) E6.1) E7.1) (Keep.of_wr W8).1) (Keep.of_wr W9).1) E10.1) K11.1) E12.1) K13.1) K14.1) K15.1) i16_1
  have ymq_ : n0 ≤ ybu_ := Nat.le_trans Z0 ygw_
  have Ui16_7 : Arv Z T16.heap ybu_ ycp_ .byte (17 : Int32) (ls_12 p3 p4) (.int (0 : Int32)) := i16_7
  have f54 := (own_sta_keep f44 K16 own_q0)
  obtain ⟨cq17, kq17, q17a, q17b, q17c⟩ := isOf hZ6 rfl i16_3
  obtain ⟨_, _, ⟨T17, L17, k17, n17⟩, -, X17, ⟨Lc17, hQ17, l17, y17, z17⟩, st17⟩ := X16.virtualBack hx (y := mN21) (z := mN21) hown6 (mvT hZ6 (hi 245 rfl)) (mvT hZ6 (hi 130 rfl)) (notFace_of_selects (args := #[]) (mvT hZ6 (hi 132 rfl))) (mvT hZ6 (hi 132 rfl)) (mvT hZ6 (hi 131 rfl)) (by decide) (backOf (W := 0) (rm15 l Z a0 hw [] b2_5_16 ybu_ ycp_ (17 : Int32) ((ls_12 p3 p4) : List Value) ya_ (0 : Int32) T16.heap n0 (Nat.le_trans (Nat.le_trans (Nat.le_trans (Nat.le_trans (Nat.le_trans (Nat.le_trans (Nat.le_trans (Nat.le_trans (Nat.le_trans (Nat.le_trans (Nat.le_trans Z0 E6.1) E7.1) (Keep.of_wr W8).1) (Keep.of_wr W9).1) E10.1) K11.1) E12.1) K13.1) K14.1) K15.1) K16.1) hcs i16_5 Ui16_7 f54 i16_4 i16_3) hZ6 (hi 133 rfl) (hi 4 rfl) (by decide) (by decide)) q17a q17c (g := (mkF m 169 #[vI p1, vI p2, vI p3, vI p4, vI (1 : Int32), vA yi_, vA c6, vI (2 : Int32), vI ((p3 &&& (255 : Int32)).toUInt32.toUInt16.toUInt32.toInt32), vI ((p4 &&& (255 : Int32)).toUInt32.toUInt16.toUInt32.toInt32), vA b7, vA b10, vA b12, vA b12, vA b12, vA b2_5_16] [(.ref b2_5_16)])) rfl (by rw [hml]; rfl) (Steps.refl _) (argsL := []) (rest := []) (lenOf ycf_ rfl) rfl (by show 2 * 0 + _ ≤ _; exact Nat.le_of_eq rfl) (hb hby at_169) (fun _ _ => ⟨rfl, rfl, (by decide : 17 + 0 ≤ _), (by decide : 185 + 0 ≤ _)⟩)
  dsimp only [Pt.U, Pt.locs, Pt.cells, Pt.slots] at X17 l17 y17 z17 st17 hQ17
  subst l17 y17 z17
  obtain ⟨rfl, N17q, e17⟩ := hQ17
  have N17 := Fr.app N16 N17q
  have f55 := ((((((((((iV6.ext E7).other W8 (Or.inl (Nat.ne_of_lt (Nat.lt_of_lt_of_le iE6.lt (Nat.le_of_eq g7.symm))))).other W9 (Or.inl (Nat.ne_of_lt (Nat.lt_of_lt_of_le iE6.lt (Nat.le_of_eq g7.symm))))).ext E10).keep K11 (own_nm (Nat.ne_of_lt (Nat.lt_of_lt_of_le f2.lt (Nat.le_of_eq g10.symm))) own_n0)).ext E12).keep K13 (own_nm (Nat.ne_of_lt (Nat.lt_of_lt_of_le f10.lt (Nat.le_of_eq g12.symm))) own_n0)).keep K14 (own_nm (Nat.ne_of_lt (Nat.lt_of_lt_of_le f15.lt i13_1)) (own_nm (Nat.ne_of_lt (Nat.lt_of_lt_of_le f15.lt i13_0)) own_n0))).keep K15 (own_nm (Nat.ne_of_lt (Nat.lt_of_lt_of_le f15.lt i13_0)) own_n0)).keep K16 own_n0)
  have f56 := (f53.keep K16 own_n0)
  have f57 := ((((((((((iC6.ext E7).other W8 (Or.inl (Nat.ne_of_lt (Nat.lt_of_lt_of_le iE6.lt (Nat.le_of_eq g7.symm))))).other W9 (Or.inl (Nat.ne_of_lt (Nat.lt_of_lt_of_le iE6.lt (Nat.le_of_eq g7.symm))))).ext E10).keep K11 (own_nm (Nat.ne_of_lt (Nat.lt_of_lt_of_le f2.lt (Nat.le_of_eq g10.symm))) own_n0)).ext E12).keep K13 (own_nm (Nat.ne_of_lt (Nat.lt_of_lt_of_le f10.lt (Nat.le_of_eq g12.symm))) own_n0)).keep K14 (own_nm (Nat.ne_of_lt (Nat.lt_of_lt_of_le f15.lt i13_1)) (own_nm (Nat.ne_of_lt (Nat.lt_of_lt_of_le f15.lt i13_0)) own_n0))).keep K15 (own_nm (Nat.ne_of_lt (Nat.lt_of_lt_of_le f15.lt i13_0)) own_n0)).keep K16 own_n0)
  have f58 := (f48.keep K16)
  obtain ⟨cq18, kq18, q18a, q18b, q18c⟩ := isOf hZ6 e17 f58
  obtain ⟨_, _, ⟨T18, L18, k18, n18⟩, -, X18, ⟨Lc18, hQ18, l18, y18, z18⟩, st18⟩ := X17.virtualBack hx (y := mN21) (z := mN21) hown6 (mvT hZ6 (hi 245 rfl)) (mvT hZ6 (hi 130 rfl)) (notFace_of_selects (args := #[]) (mvT hZ6 (hi 132 rfl))) (mvT hZ6 (hi 132 rfl)) (mvT hZ6 (hi 131 rfl)) (by decide) (backOf (W := 2) (rm15 l Z a0 hw [] c6 b6 kb6 (15 : Int32) ((ls_8) : List Value) ya_ (0 : Int32) T16.heap n0 (Nat.le_trans (Nat.le_trans (Nat.le_trans (Nat.le_trans (Nat.le_trans (Nat.le_trans (Nat.le_trans (Nat.le_trans (Nat.le_trans (Nat.le_trans (Nat.le_trans Z0 E6.1) E7.1) (Keep.of_wr W8).1) (Keep.of_wr W9).1) E10.1) K11.1) E12.1) K13.1) K14.1) K15.1) K16.1) hcs f55 f56 f54 f57 f58) hZ6 (hi 133 rfl) (hi 4 rfl) (by decide) (by decide)) q18a q18c (g := (mkF m 176 #[vI p1, vI p2, vI p3, vI p4, vI (1 : Int32), vA yi_, vA c6, vI (2 : Int32), vI ((p3 &&& (255 : Int32)).toUInt32.toUInt16.toUInt32.toInt32), vI ((p4 &&& (255 : Int32)).toUInt32.toUInt16.toUInt32.toInt32), vA b7, vA b10, vA b12, vA b12, vA b12, vA b2_5_16] [(.ref c6), (.int (2 : Int32)), (.int (17 : Int32))])) rfl (by rw [hml]; rfl) (Steps.refl _) (argsL := []) (rest := [(.int (2 : Int32)), (.int (17 : Int32))]) (lenOf ycf_ rfl) rfl (by show 2 * 0 + _ ≤ _; exact Nat.le_of_eq rfl) (hb hby at_176) (fun _ _ => ⟨rfl, e17, (by decide : 17 + 0 ≤ _), (by decide : 185 + 0 ≤ _)⟩)
  dsimp only [Pt.U, Pt.locs, Pt.cells, Pt.slots] at X18 l18 y18 z18 st18 hQ18
  subst l18 y18 z18
  obtain ⟨rfl, N18q, e18⟩ := hQ18
  have N18 := Fr.app N17 N18q
  have f59 := (own_sta_keep (own_sta_keep (own_sta_keep (own_sta_keep ((own_sta_keep (((((yx_.ext E6).ext E7).wr W8).wr W9).ext E10) K11 (own_qc (own_nst A10) own_q0)).ext E12) K13 (own_qc (own_nst A12) own_q0)) K14 (own_qc (own_nst i13_14) (own_qc (own_nst i13_10) own_q0))) K15 (own_qc (own_nst i14_1) own_q0)) K16 own_q0)
  obtain ⟨cq19, kq19, q19a, q19b, q19c⟩ := isOf hZ6 e18 i16_3
  obtain ⟨_, _, ⟨T19, L19, k19, n19⟩, -, X19, ⟨Lc19, hQ19, l19, y19, z19⟩, st19⟩ := X18.virtualBack hx (y := mN16) (z := mN16) hown6 (mvT hZ6 (hi 253 rfl)) (mvT hZ6 (hi 254 rfl)) (notFace_of_selects (args := #[]) (mvT hZ6 (hi 256 rfl))) (mvT hZ6 (hi 256 rfl)) (mvT hZ6 (hi 255 rfl)) (by decide) (backOf (W := 0) (rm38 l Z a0 hw [] b2_5_16 (0 : Int32) ya_ ybu_ ycp_ (17 : Int32) ((ls_12 p3 p4) : List Value) yb_ (nar .byte ((nar .char ((p3 &&& (255 : Int32)).toUInt32.toUInt16.toUInt32.toInt32)).toInt8.toInt32)) T16.heap n0 (Nat.le_trans (Nat.le_trans (Nat.le_trans (Nat.le_trans (Nat.le_trans (Nat.le_trans (Nat.le_trans (Nat.le_trans (Nat.le_trans (Nat.le_trans (Nat.le_trans Z0 E6.1) E7.1) (Keep.of_wr W8).1) (Keep.of_wr W9).1) E10.1) K11.1) E12.1) K13.1) K14.1) K15.1) K16.1) hcs hsv f54 i16_4 i16_3 i16_5 Ui16_7 f59 (by decide) (by decide) (by decide) rfl) hZ6 (hi 257 rfl) (hi 4 rfl) (by decide) (by decide)) q19a q19c (g := (mkF m 192 #[vI p1, vI p2, vI p3, vI p4, vI (1 : Int32), vA yi_, vA c6, vI (2 : Int32), vI ((p3 &&& (255 : Int32)).toUInt32.toUInt16.toUInt32.toInt32), vI ((p4 &&& (255 : Int32)).toUInt32.toUInt16.toUInt32.toInt32), vA b7, vA b10, vA b12, vA b12, vA b12, vA b2_5_16] [(.int (0 : Int32)), (.ref b2_5_16)])) rfl (by rw [hml]; rfl) (Steps.refl _) (argsL := [(.int (0 : Int32))]) (rest := []) (lenOf yel_ rfl) rfl (by show 2 * 0 + _ ≤ _; exact Nat.le_of_eq rfl) (hb hby at_192) (fun _ _ => ⟨rfl, e18, (by decide : 17 + 0 ≤ _), (by decide : 185 + 0 ≤ _)⟩)
  dsimp only [Pt.U, Pt.locs, Pt.cells, Pt.slots] at X19 l19 y19 z19 st19 hQ19
  subst l19 y19 z19
  obtain ⟨rfl, N19q, e19⟩ := hQ19
  have N19 := Fr.app N18 N19q
  obtain ⟨cq20, kq20, q20a, q20b, q20c⟩ := isOf hZ6 e19 i16_3
  obtain ⟨_, _, ⟨T20, L20, k20, n20⟩, -, X20, ⟨Lc20, hQ20, l20, y20, z20⟩, st20⟩ := X19.virtualBack hx (y := mN16) (z := mN16) hown6 (mvT hZ6 (hi 253 rfl)) (mvT hZ6 (hi 254 rfl)) (notFace_of_selects (args := #[]) (mvT hZ6 (hi 256 rfl))) (mvT hZ6 (hi 256 rfl)) (mvT hZ6 (hi 255 rfl)) (by decide) (backOf (W := 0) (rm38 l Z a0 hw [] b2_5_16 (1 : Int32) ya_ ybu_ ycp_ (17 : Int32) ((ls_12 p3 p4) : List Value) yb_ (nar .byte ((nar .char ((p4 &&& (255 : Int32)).toUInt32.toUInt16.toUInt32.toInt32)).toInt8.toInt32)) T16.heap n0 (Nat.le_trans (Nat.le_trans (Nat.le_trans (Nat.le_trans (Nat.le_trans (Nat.le_trans (Nat.le_trans (Nat.le_trans (Nat.le_trans (Nat.le_trans (Nat.le_trans Z0 E6.1) E7.1) (Keep.of_wr W8).1) (Keep.of_wr W9).1) E10.1) K11.1) E12.1) K13.1) K14.1) K15.1) K16.1) hcs hsv f54 i16_4 i16_3 i16_5 Ui16_7 f59 (by decide) (by decide) (by decide) rfl) hZ6 (hi 257 rfl) (hi 4 rfl) (by decide) (by decide)) q20a q20c (g := (mkF m 209 #[vI p1, vI p2, vI p3, vI p4, vI (1 : Int32), vA yi_, vA c6, vI (2 : Int32), vI ((p3 &&& (255 : Int32)).toUInt32.toUInt16.toUInt32.toInt32), vI ((p4 &&& (255 : Int32)).toUInt32.toUInt16.toUInt32.toInt32), vA b7, vA b10, vA b12, vA b12, vA b12, vA b2_5_16] [(.int (1 : Int32)), (.ref b2_5_16)])) rfl (by rw [hml]; rfl) (Steps.refl _) (argsL := [(.int (1 : Int32))]) (rest := []) (lenOf yel_ rfl) rfl (by show 2 * 0 + _ ≤ _; exact Nat.le_of_eq rfl) (hb hby at_209) (fun _ _ => ⟨rfl, e19, (by decide : 17 + 0 ≤ _), (by decide : 185 + 0 ≤ _)⟩)
  dsimp only [Pt.U, Pt.locs, Pt.cells, Pt.slots] at X20 l20 y20 z20 st20 hQ20
  subst l20 y20 z20
  obtain ⟨rfl, N20q, e20⟩ := hQ20
  have N20 := Fr.app N19 N20q
  obtain ⟨_, _, ⟨T21, L21, k21, n21⟩, -, X21, ⟨Lc21, hQ21, l21, y21, z21⟩, st21⟩ := Jvm.LawKit.callS X20 hx (y := mN54) hown6 (mvT hZ6 (hi 246 rfl)) (mvT hZ6 (hi 247 rfl)) (mvT hZ6 (hi 248 rfl)) (mvT hZ6 (hi 249 rfl)) (by decide) (backOf (W := 0) (rm36_15 l Z a0 hw [] b2_5_16 (2 : Int32) c6 b6 ya_ ybu_ ycp_ (17 : Int32) ((ls_12 p3 p4) : List Value) yb_ kb6 ((ls_8) : List Value) (32 : Int32) (100 : Int32) (101 : Int32) (102 : Int32) (97 : Int32) (117 : Int32) (108 : Int32) (116 : Int32) (32 : Int32) (118 : Int32) (97 : Int32) (108 : Int32) (117 : Int32) (101 : Int32) (115 : Int32) T16.heap n0 (Nat.le_trans (Nat.le_trans (Nat.le_trans (Nat.le_trans (Nat.le_trans (Nat.le_trans (Nat.le_trans (Nat.le_trans (Nat.le_trans (Nat.le_trans (Nat.le_trans Z0 E6.1) E7.1) (Keep.of_wr W8).1) (Keep.of_wr W9).1) E10.1) K11.1) E12.1) K13.1) K14.1) K15.1) K16.1) hcs hsv f55 f54 i16_5 Ui16_7 f59 f57 f58 i16_4 i16_3 f56 (by decide) (by decide) (by decide) rfl rfl (by decide) (by decide) (by decide) rfl rfl (by decide) (by decide) (by decide) rfl rfl (by decide) (by decide) (by decide) rfl rfl (by decide) (by decide) (by decide) rfl rfl (by decide) (by decide) (by decide) rfl rfl (by decide) (by decide) (by decide) rfl rfl (by decide) (by decide) (by decide) rfl rfl (by decide) (by decide) (by decide) rfl rfl (by decide) (by decide) (by decide) rfl rfl (by decide) (by decide) (by decide) rfl rfl (by decide) (by decide) (by decide) rfl rfl (by decide) (by decide) (by decide) rfl rfl (by decide) (by decide) (by decide) rfl rfl (by decide) (by decide) (by decide) rfl rfl) hZ6 (hi 249 rfl) (hi 248 rfl) (by decide) (by decide)) (g := (mkF m 223 #[vI p1, vI p2, vI p3, vI p4, vI (1 : Int32), vA yi_, vA c6, vI (2 : Int32), vI ((p3 &&& (255 : Int32)).toUInt32.toUInt16.toUInt32.toInt32), vI ((p4 &&& (255 : Int32)).toUInt32.toUInt16.toUInt32.toInt32), vA b7, vA b10, vA b12, vA b12, vA b12, vA b2_5_16] [(.ref c6), (.int (2 : Int32)), (.ref b2_5_16)])) rfl (by rw [hml]; rfl) (argsL := [(.ref b2_5_16), (.int (2 : Int32)), (.ref c6)]) (rest := []) (lenOf ybd_ rfl) rfl (by show 2 * 0 + _ ≤ _; exact Nat.le_of_eq rfl) (hb hby at_223) (fun _ _ => ⟨rfl, e20, (by decide : 17 + 0 ≤ _), (by decide : 185 + 0 ≤ _)⟩)
  dsimp only [Pt.U, Pt.locs, Pt.cells, Pt.slots] at X21 l21 y21 z21 st21 hQ21
  subst l21 y21 z21
  obtain ⟨rfl, N21q, e21⟩ := hQ21
  have N21 := Fr.app N20 N21q
  obtain ⟨fs, hr, hrun, hended, hw1, hw2, hw3, hw4⟩ := X21.leaveW hS6 (show _ ≤ T21.heap.size from by rw [e21]; exact (Nat.le_trans (Nat.le_trans (Nat.le_trans (Nat.le_trans (Nat.le_trans (Nat.le_trans (Nat.le_trans (Nat.le_trans (Nat.le_trans (Nat.le_trans hk6 E7.1) (Keep.of_wr W8).1) (Keep.of_wr W9).1) E10.1) K11.1) E12.1) K13.1) K14.1) K15.1) K16.1)) (v := some (.int (1 : Int32))) (fun h => by rw [Bd.returns] at h; cases h)
  refine ⟨_, _, castTop (ef_0 m p1 p2 p3 p4) ?_, hrun, hended, _, _, rfl, ?_, hw1, hw2, hw3, hw4.mono (by decide) (by decide)⟩
  · show Steps p.tables e below (s₁.setTop (mkF m 0 #[vI p1, vI p2, vI p3, vI p4, vU, vU, vU, vU, vU, vU, vU, vU, vU, vU, vU, vU] [])) _
    refine XS.iloadN X0.here hx rfl (hb hby at_0) rfl ?_
    refine XS.iconst X0.here hx rfl (hb hby at_1) ?_
    refine XS.iand X0.here hx rfl (hb hby at_2) rfl ?_
    refine XS.ifNo X0.here hx rfl (hb hby at_3) rfl ((if0 _ _).trans (teq hc3).2) ?_
    refine XS.iconst X0.here hx rfl (hb hby at_6) ?_
    refine XS.goto X0.here hx rfl (pc0 := 7) (pc' := 11) rfl (hb hby at_7) (by decide) (by decide) ?_
    refine XS.istore X0.here hx rfl (hb hby at_11) rfl (l' := #[vI p1, vI p2, vI p3, vI p4, vI (1 : Int32), vU, vU, vU, vU, vU, vU, vU, vU, vU, vU, vU]) rfl ?_
    refine XS.iload X0.here hx rfl (hb hby at_13) rfl ?_
    refine XS.ifNo X0.here hx rfl (hb hby at_15) rfl ((if0 _ _).trans (feq (by decide : ¬ ((1 : Int32) = (0 : Int32)))).1) ?_
    refine st5 _ ?_
    refine XS.goto X5.here hx rfl (pc0 := 21) (pc' := 27) rfl (hb hby at_21) (by decide) (by decide) ?_
    refine XS.astore X5.here hx rfl (hb hby at_27) rfl rfl (l' := #[vI p1, vI p2, vI p3, vI p4, vI (1 : Int32), vA yi_, vU, vU, vU, vU, vU, vU, vU, vU, vU, vU]) rfl ?_
    refine XS.iload X5.here hx rfl (hb hby at_29) rfl ?_
    refine XS.ifNo X5.here hx rfl (hb hby at_31) rfl ((if0 _ _).trans (feq (by decide : ¬ ((1 : Int32) = (0 : Int32)))).1) ?_
    refine st6 _ ?_
    refine XS.goto X6.here hx rfl (pc0 := 36) (pc' := 41) rfl (hb hby at_36) (by decide) (by decide) ?_
    refine XS.astore X6.here hx rfl (hb hby at_41) rfl rfl (l' := #[vI p1, vI p2, vI p3, vI p4, vI (1 : Int32), vA yi_, vA c6, vU, vU, vU, vU, vU, vU, vU, vU, vU]) rfl ?_
    refine XS.iloadN X6.here hx rfl (hb hby at_43) rfl ?_
    refine X6.ldcInt hx hown6 (mvT hZ6 (hi 11 rfl)) (g := (mkF m 44 #[vI p1, vI p2, vI p3, vI p4, vI (1 : Int32), vA yi_, vA c6, vU, vU, vU, vU, vU, vU, vU, vU, vU] [(.int p2)])) rfl (hb hby at_44) _ ?_
    refine XS.iand X6.here hx rfl (hb hby at_46) rfl ?_
    refine XS.iconst X6.here hx rfl (hb hby at_47) ?_
    refine XS.irem X6.here hx rfl (hb hby at_48) rfl (by decide) ?_
    refine XS.istore X6.here hx rfl (hb hby at_49) rfl (l' := #[vI p1, vI p2, vI p3, vI p4, vI (1 : Int32), vA yi_, vA c6, vI (t0_0 p2), vU, vU, vU, vU, vU, vU, vU, vU]) rfl ?_
    refine XS.iloadN X6.here hx rfl (hb hby at_51) rfl ?_
    refine XS.sipush X6.here hx rfl (hb hby at_52) ?_
    refine XS.iand X6.here hx rfl (hb hby at_55) rfl ?_
    refine XS.i2c X6.here hx rfl (hb hby at_56) rfl ?_
    refine XS.istore X6.here hx rfl (hb hby at_57) rfl (l' := #[vI p1, vI p2, vI p3, vI p4, vI (1 : Int32), vA yi_, vA c6, vI (t0_0 p2), vI ((p3 &&& (255 : Int32)).toUInt32.toUInt16.toUInt32.toInt32), vU, vU, vU, vU, vU, vU, vU]) rfl ?_
    refine XS.iloadN X6.here hx rfl (hb hby at_59) rfl ?_
    refine XS.sipush X6.here hx rfl (hb hby at_60) ?_
    refine XS.iand X6.here hx rfl (hb hby at_63) rfl ?_
    refine XS.i2c X6.here hx rfl (hb hby at_64) rfl ?_
    refine XS.istore X6.here hx rfl (hb hby at_65) rfl (l' := #[vI p1, vI p2, vI p3, vI p4, vI (1 : Int32), vA yi_, vA c6, vI (t0_0 p2), vI ((p3 &&& (255 : Int32)).toUInt32.toUInt16.toUInt32.toInt32), vI ((p4 &&& (255 : Int32)).toUInt32.toUInt16.toUInt32.toInt32), vU, vU, vU, vU, vU, vU]) rfl ?_
    refine XS.iconst X6.here hx rfl (hb hby at_67) ?_
    refine st7 _ ?_
    refine XS.astore X7.here hx rfl (hb hby at_70) rfl rfl (l' := #[vI p1, vI p2, vI p3, vI p4, vI (1 : Int32), vA yi_, vA c6, vI (t0_0 p2), vI ((p3 &&& (255 : Int32)).toUInt32.toUInt16.toUInt32.toInt32), vI ((p4 &&& (255 : Int32)).toUInt32.toUInt16.toUInt32.toInt32), vA b7, vU, vU, vU, vU, vU]) rfl ?_
    refine XS.aload X7.here hx rfl (hb hby at_72) rfl rfl ?_
    refine XS.iconst X7.here hx rfl (hb hby at_74) ?_
    refine XS.iload X7.here hx rfl (hb hby at_75) rfl ?_
    refine st8 _ ?_
    refine XS.aload X8.here hx rfl (hb hby at_78) rfl rfl ?_
    refine XS.iconst X8.here hx rfl (hb hby at_80) ?_
    refine XS.iload X8.here hx rfl (hb hby at_81) rfl ?_
    refine st9 _ ?_
    refine XS.iload X9.here hx rfl (hb hby at_84) rfl ?_
    refine XS.ifYes X9.here hx rfl (pc0 := 86) (pc' := 94) rfl (hb hby at_86) rfl ((if0 _ _).trans (feq hc86).2) (by decide) (by decide) ?_
    refine XS.iload X9.here hx rfl (hb hby at_94) rfl ?_
    refine XS.iconst X9.here hx rfl (hb hby at_96) ?_
    refine XS.icmpYes X9.here hx rfl (pc0 := 97) (pc' := 108) rfl (hb hby at_97) rfl (feq hc97).2 (by decide) (by decide) ?_
    show Steps p.tables e below (T9.setTop (mkF m 108 #[vI p1, vI p2, vI p3, vI p4, vI (1 : Int32), vA yi_, vA c6, vI (t0_0 p2), vI ((p3 &&& (255 : Int32)).toUInt32.toUInt16.toUInt32.toInt32), vI ((p4 &&& (255 : Int32)).toUInt32.toUInt16.toUInt32.toInt32), vA b7, vU, vU, vU, vU, vU] [])) _
    rw [show (t0_0 p2) = (2 : Int32) from (own_t3 p2 hc86 hc97)]
    refine st10 _ ?_
    refine XS.dup X10.here hx rfl (hb hby at_111) rfl rfl ?_
    refine XS.aload X10.here hx rfl (hb hby at_112) rfl rfl ?_
    refine st11.trans ?_
    refine XS.astore X11.here hx rfl (hb hby at_117) rfl rfl (l' := #[vI p1, vI p2, vI p3, vI p4, vI (1 : Int32), vA yi_, vA c6, vI (2 : Int32), vI ((p3 &&& (255 : Int32)).toUInt32.toUInt16.toUInt32.toInt32), vI ((p4 &&& (255 : Int32)).toUInt32.toUInt16.toUInt32.toInt32), vA b7, vA b10, vU, vU, vU, vU]) rfl ?_
    refine st12 _ ?_
    refine XS.dup X12.here hx rfl (hb hby at_122) rfl rfl ?_
    refine XS.aload X12.here hx rfl (hb hby at_123) rfl rfl ?_
    refine st13.trans ?_
    refine XS.astore X13.here hx rfl (hb hby at_128) rfl rfl (l' := #[vI p1, vI p2, vI p3, vI p4, vI (1 : Int32), vA yi_, vA c6, vI (2 : Int32), vI ((p3 &&& (255 : Int32)).toUInt32.toUInt16.toUInt32.toInt32), vI ((p4 &&& (255 : Int32)).toUInt32.toUInt16.toUInt32.toInt32), vA b7, vA b10, vA b12, vU, vU, vU]) rfl ?_
    refine XS.aload X13.here hx rfl (hb hby at_130) rfl rfl ?_
    refine XS.aload X13.here hx rfl (hb hby at_132) rfl rfl ?_
    refine st14.trans ?_
    refine XS.astore X14.here hx rfl (hb hby at_137) rfl rfl (l' := #[vI p1, vI p2, vI p3, vI p4, vI (1 : Int32), vA yi_, vA c6, vI (2 : Int32), vI ((p3 &&& (255 : Int32)).toUInt32.toUInt16.toUInt32.toInt32), vI ((p4 &&& (255 : Int32)).toUInt32.toUInt16.toUInt32.toInt32), vA b7, vA b10, vA b12, vA b12, vU, vU]) rfl ?_
    refine XS.aload X14.here hx rfl (hb hby at_139) rfl rfl ?_
    refine st15.trans ?_
    refine XS.astore X15.here hx rfl (hb hby at_144) rfl rfl (l' := #[vI p1, vI p2, vI p3, vI p4, vI (1 : Int32), vA yi_, vA c6, vI (2 : Int32), vI ((p3 &&& (255 : Int32)).toUInt32.toUInt16.toUInt32.toInt32), vI ((p4 &&& (255 : Int32)).toUInt32.toUInt16.toUInt32.toInt32), vA b7, vA b10, vA b12, vA b12, vA b12, vU]) rfl ?_
    refine XS.aload X15.here hx rfl (hb hby at_146) rfl rfl ?_
    refine st16.trans ?_
    refine XS.astore X16.here hx rfl (hb hby at_151) rfl rfl (l' := #[vI p1, vI p2, vI p3, vI p4, vI (1 : Int32), vA yi_, vA c6, vI (2 : Int32), vI ((p3 &&& (255 : Int32)).toUInt32.toUInt16.toUInt32.toInt32), vI ((p4 &&& (255 : Int32)).toUInt32.toUInt16.toUInt32.toInt32), vA b7, vA b10, vA b12, vA b12, vA b12, vA b2_5_16]) rfl ?_
    refine XS.aload X16.here hx rfl (hb hby at_153) rfl rfl ?_
    refine XS.aload X16.here hx rfl (hb hby at_155) rfl rfl ?_
    refine Jvm.RoadKit.acmp (g := (mkF m 157 #[vI p1, vI p2, vI p3, vI p4, vI (1 : Int32), vA yi_, vA c6, vI (2 : Int32), vI ((p3 &&& (255 : Int32)).toUInt32.toUInt16.toUInt32.toInt32), vI ((p4 &&& (255 : Int32)).toUInt32.toUInt16.toUInt32.toInt32), vA b7, vA b10, vA b12, vA b12, vA b12, vA b2_5_16] [(.ref b12), (.ref b12)])) X16 hx rfl rfl rfl (pc0 := 157) (pc' := 160) (same := true) rfl (hb hby at_157) rfl (decide_eq_true rfl) (by decide) (by decide) ?_
    refine XS.aload X16.here hx rfl (hb hby at_160) rfl rfl ?_
    refine XS.aload X16.here hx rfl (hb hby at_162) rfl rfl ?_
    refine Jvm.RoadKit.acmp (g := (mkF m 164 #[vI p1, vI p2, vI p3, vI p4, vI (1 : Int32), vA yi_, vA c6, vI (2 : Int32), vI ((p3 &&& (255 : Int32)).toUInt32.toUInt16.toUInt32.toInt32), vI ((p4 &&& (255 : Int32)).toUInt32.toUInt16.toUInt32.toInt32), vA b7, vA b10, vA b12, vA b12, vA b12, vA b2_5_16] [(.ref b12), (.ref b12)])) X16 hx rfl rfl rfl (pc0 := 164) (pc' := 167) (same := true) rfl (hb hby at_164) rfl (decide_eq_true rfl) (by decide) (by decide) ?_
    refine XS.aload X16.here hx rfl (hb hby at_167) rfl rfl ?_
    refine st17.trans ?_
    refine XS.iload X17.here hx rfl (hb hby at_172) rfl ?_
    refine XS.aload X17.here hx rfl (hb hby at_174) rfl rfl ?_
    refine st18.trans ?_
    refine XS.iadd X18.here hx rfl (hb hby at_179) rfl ?_
    refine XS.icmpNo X18.here hx rfl (hb hby at_180) rfl (teq (rfl : (17 : Int32) = (17 : Int32))).2 ?_
    refine XS.iload X18.here hx rfl (hb hby at_183) rfl ?_
    refine XS.iconst X18.here hx rfl (hb hby at_185) ?_
    refine XS.icmpNo X18.here hx rfl (hb hby at_186) rfl (flt (by decide : ¬ ((2 : Int32) < (1 : Int32)))).1 ?_
    refine XS.aload X18.here hx rfl (hb hby at_189) rfl rfl ?_
    refine XS.iconst X18.here hx rfl (hb hby at_191) ?_
    refine st19.trans ?_
    refine XS.iload X19.here hx rfl (hb hby at_195) rfl ?_
    refine XS.icmpNo X19.here hx rfl (hb hby at_197) rfl (teq (show (t0_2 p3) = ((p3 &&& (255 : Int32)).toUInt32.toUInt16.toUInt32.toInt32) from own_chr2 p3)).2 ?_
    refine XS.iload X19.here hx rfl (hb hby at_200) rfl ?_
    refine XS.iconst X19.here hx rfl (hb hby at_202) ?_
    refine XS.icmpNo X19.here hx rfl (hb hby at_203) rfl (flt (fun q => Int32.lt_irrefl q : ¬ ((2 : Int32) < (2 : Int32)))).1 ?_
    refine XS.aload X19.here hx rfl (hb hby at_206) rfl rfl ?_
    refine XS.iconst X19.here hx rfl (hb hby at_208) ?_
    refine st20.trans ?_
    refine XS.iload X20.here hx rfl (hb hby at_212) rfl ?_
    refine XS.icmpNo X20.here hx rfl (hb hby at_214) rfl (teq (show (t0_3 p4) = ((p4 &&& (255 : Int32)).toUInt32.toUInt16.toUInt32.toInt32) from own_chr2 p4)).2 ?_
    refine XS.aload X20.here hx rfl (hb hby at_217) rfl rfl ?_
    refine XS.iload X20.here hx rfl (hb hby at_219) rfl ?_
    refine XS.aload X20.here hx rfl (hb hby at_221) rfl rfl ?_
    refine st21 _ ?_
    refine XS.ifNo X21.here hx rfl (hb hby at_226) rfl ((if0 _ _).trans (feq (by decide : ¬ ((1 : Int32) = (0 : Int32)))).1) ?_
    refine XS.iconst X21.here hx rfl (hb hby at_229) ?_
    refine XS.goto X21.here hx rfl (pc0 := 230) (pc' := 234) rfl (hb hby at_230) (by decide) (by decide) ?_
    show Steps p.tables e below (T21.setTop (mkF m 234 #[vI p1, vI p2, vI p3, vI p4, vI (1 : Int32), vA yi_, vA c6, vI (2 : Int32), vI ((p3 &&& (255 : Int32)).toUInt32.toUInt16.toUInt32.toInt32), vI ((p4 &&& (255 : Int32)).toUInt32.toUInt16.toUInt32.toInt32), vA b7, vA b10, vA b12, vA b12, vA b12, vA b2_5_16] [(.int (1 : Int32))])) _
    exact retN X21 hx (t := .boolean) Bd.returns (by simp) (hb hby at_234) hr
  · show Q_rm0 Z p1 p2 p3 p4 yr_ yg_ ya_ yp_ yo_ yb_ yt_ yi_ yk_ yl_ yq_ h0 n0 _ T21.heap _
    exact ⟨rfl, N21⟩
set_option maxHeartbeats 4000000 in
theorem rm0 (l : Launch) (Z : State) (a0 : Array Value) (hw : ∀ d ∈ tables_1, d.before a0 Z = true) (ws : List Jvm.Cond) (p1 : Int32) (p2 : Int32) (p3 : Int32) (p4 : Int32) (yr_ : Addr) (yg_ : Addr) (ya_ : Int32) (yp_ : Addr) (yo_ : Addr) (yb_ : Value) (yt_ : ClassId) (yi_ : Addr) (yk_ : Addr) (yl_ : Addr) (yq_ : ClassId) (h0 : Heap) (n0 : Nat) (Z0 : n0 ≤ h0.size) (hcs : ¬ (ya_ = (0 : Int32))) (hsv : yb_.isRef = true) (ydh_ : Sta Z h0 "underdeck/deck/Dialect" "MARIADB" "Lunderdeck/deck/Dialect;" (.ref yr_)) (yaj_ : Sta Z h0 "java/util/ArrayList" "DEFAULTCAPACITY_EMPTY_ELEMENTDATA" "[Ljava/lang/Object;" (.ref yg_)) (yf_ : Sta Z h0 "java/lang/String" "COMPACT_STRINGS" "Z" (.int ya_)) (yal_ : Fld Z h0 yr_ "underdeck/deck/Dialect" "defaultsOnly" "Ljava/lang/String;" (.ref yp_)) (ym_ : Fld Z h0 yp_ "java/lang/String" "value" "[B" (.ref yo_)) (ycz_ : Exa Z h0 yr_ "underdeck/deck/Dialect") (yay_ : Fld Z h0 yp_ "java/lang/String" "coder" "B" (.int (0 : Int32))) (ybc_ : Exa Z h0 yp_ "java/lang/String") (yx_ : Sta Z h0 "jdk/internal/util/Preconditions" "SIOOBE_FORMATTER" "Ljava/util/function/BiFunction;" yb_) (yy_ : Arv Z h0 yo_ yt_ .byte (13 : Int32) (ls_0) (.int (0 : Int32))) (ycl_ : Sta Z h0 "underdeck/deck/Dialect" "POSTGRESQL" "Lunderdeck/deck/Dialect;" (.ref yi_)) (yah_ : Fld Z h0 yi_ "underdeck/deck/Dialect" "defaultsOnly" "Ljava/lang/String;" (.ref yk_)) (yj_ : Fld Z h0 yk_ "java/lang/String" "value" "[B" (.ref yl_)) (ycb_ : Exa Z h0 yi_ "underdeck/deck/Dialect") (yau_ : Fld Z h0 yk_ "java/lang/String" "coder" "B" (.int (0 : Int32))) (yba_ : Exa Z h0 yk_ "java/lang/String") (yu_ : Arv Z h0 yl_ yq_ .byte (15 : Int32) (ls_8) (.int (0 : Int32))) :
    MetFree l x (head1 (Jvm.Cond.code x code maxLocals ret :: ws) room_1) (fun a U => a = #[(.int p1), (.int p2), (.int p3), (.int p4)] ∧ Z.Warmed39 U.vm ∧ U.heap = h0 ∧ CHv Z consts_1 U.vm h0) (fun _ _ _ _ _ => True) (fun _ U o U' => ∃ v L, o = .returned v ∧ Q_rm0 Z p1 p2 p3 p4 yr_ yg_ ya_ yp_ yo_ yb_ yt_ yi_ yk_ yl_ yq_ h0 n0 v U'.heap L ∧ ReturnedEndW U o U' L room_1.cells room_1.slots) := by
  by_cases hc3 : (p1 &&& (1 : Int32)) = (0 : Int32)
  · skip
    by_cases hc86 : (t0_0 p2) = (0 : Int32)
    · skip
      exact rm0_ff l Z a0 hw ws p1 p2 p3 p4 yr_ yg_ ya_ yp_ yo_ yb_ yt_ yi_ yk_ yl_ yq_ h0 n0 Z0 hcs hsv ydh_ yaj_ yf_ yal_ ym_ ycz_ yay_ ybc_ yx_ yy_ ycl_ yah_ yj_ ycb_ yau_ yba_ yu_ hc3 hc86
    · skip
      by_cases hc97 : (t0_0 p2) = (1 : Int32)
      · skip
        exact rm0_ftf l Z a0 hw ws p1 p2 p3 p4 yr_ yg_ ya_ yp_ yo_ yb_ yt_ yi_ yk_ yl_ yq_ h0 n0 Z0 hcs hsv ydh_ yaj_ yf_ yal_ ym_ ycz_ yay_ ybc_ yx_ yy_ ycl_ yah_ yj_ ycb_ yau_ yba_ yu_ hc3 hc86 hc97
      · skip
        exact rm0_ftt l Z a0 hw ws p1 p2 p3 p4 yr_ yg_ ya_ yp_ yo_ yb_ yt_ yi_ yk_ yl_ yq_ h0 n0 Z0 hcs hsv ydh_ yaj_ yf_ yal_ ym_ ycz_ yay_ ybc_ yx_ yy_ ycl_ yah_ yj_ ycb_ yau_ yba_ yu_ hc3 hc86 hc97
  · skip
    by_cases hc86 : (t0_0 p2) = (0 : Int32)
    · skip
      exact rm0_tf l Z a0 hw ws p1 p2 p3 p4 yr_ yg_ ya_ yp_ yo_ yb_ yt_ yi_ yk_ yl_ yq_ h0 n0 Z0 hcs hsv ydh_ yaj_ yf_ yal_ ym_ ycz_ yay_ ybc_ yx_ yy_ ycl_ yah_ yj_ ycb_ yau_ yba_ yu_ hc3 hc86
    · skip
      by_cases hc97 : (t0_0 p2) = (1 : Int32)
      · skip
        exact rm0_ttf l Z a0 hw ws p1 p2 p3 p4 yr_ yg_ ya_ yp_ yo_ yb_ yt_ yi_ yk_ yl_ yq_ h0 n0 Z0 hcs hsv ydh_ yaj_ yf_ yal_ ym_ ycz_ yay_ ybc_ yx_ yy_ ycl_ yah_ yj_ ycb_ yau_ yba_ yu_ hc3 hc86 hc97
      · skip
        exact rm0_ttt l Z a0 hw ws p1 p2 p3 p4 yr_ yg_ ya_ yp_ yo_ yb_ yt_ yi_ yk_ yl_ yq_ h0 n0 Z0 hcs hsv ydh_ yaj_ yf_ yal_ ym_ ycz_ yay_ ybc_ yx_ yy_ ycl_ yah_ yj_ ycb_ yau_ yba_ yu_ hc3 hc86 hc97
theorem own_len {t : Term} {args : Array Value} {first s : State} {o : Option Outcome} {idx : List Nat} {k : Int32} {x : Addr} {cl : Cell} (h : (Term.length t).eval args first o idx s = some (.int k)) (ev : t.eval args first o idx s = some (.ref x)) (hc : s.heap[x]? = some cl) : cl.slots.size < 2 ^ 31 ∧ cl.slots.size.toInt32 = k := by
  obtain ⟨a', cell, ha', hat, hv⟩ := Term.length_spec h
  cases ev.symm.trans ha'
  cases hc.symm.trans (State.arrayAt?_spec hat).1
  refine ⟨?_, by cases hv; rfl⟩
  by_cases q : cl.slots.size < 2147483648
  · exact q
  · simp [Term.eval, ev, hat, q] at h
theorem own_sz {n : Nat} {k : Int32} (q : n < 2 ^ 31) (e : n.toInt32 = k) : n = k.toNatClampNeg := by
  rw [← e]; simp only [Int32.toNatClampNeg, len_toInt q]; rfl
theorem own_some {c : Cell} {i : Nat} (h : i < c.slots.size) : ∃ v, c.slots[i]? = some v := ⟨c.slots[i], Array.getElem?_eq_getElem h⟩
set_option maxRecDepth 65536 in
set_option maxHeartbeats 40000000 in
theorem comes_1 {Post : Tables → Env → Array Value → State → Outcome → State → Prop} (hpost : ∀ tb e args s v u, (limb_1_1.after args s (.returned v) u = true ∧ limb_1_2.after args s (.returned v) u = true ∧ True) → ReturnedEndW s (.returned v) u (Jvm.fieldLocs frame_1_writes args s ++ Jvm.arrayLocs frame_1_arrays args s ++ Jvm.staticLocs frame_1_statics s) 48 3392 → Post tb e args s (.returned v) u) :
    ArmFor flags0 classFile x code maxLocals ret World_1 tables_1 room_1 Calls_1 rest_1 Pre_1 Post := by
  intro l hfl _ _ p e ha hc hk s m args below hf hA hF happ hP
  obtain ⟨hcalls, hrest, hpre⟩ := hP
  obtain ⟨-, -, -, hnamed, -, -, -, hat⟩ := (Spec.applies_iff hf).mp happ
  obtain ⟨hg, hn⟩ := and_e (Cond.before_iff.mp (show (Jvm.Cond.and given_1 narrow_1).before args s = true from hpre))
  obtain ⟨g1, g2⟩ := and_e hg
  obtain ⟨g3, g4⟩ := and_e g2
  obtain ⟨g5, g6⟩ := and_e g4
  obtain ⟨g7, g8⟩ := and_e g6
  obtain ⟨w0, w1, w2, w3, rfl⟩ : ∃ w0 w1 w2 w3 : Value, args = #[w0, w1, w2, w3] := by
    have hs : args.size = 4 := by simpa [Cond.value, given_1] using g1
    obtain ⟨L⟩ := args
    match L, hs with
    | [w0, w1, w2, w3], _ => exact ⟨w0, w1, w2, w3, rfl⟩
  have hw := fun d (hd : d ∈ tables_1) => atoms_spec (ws := Jvm.Cond.code x code maxLocals ret :: tables_1) hat d (List.mem_cons_of_mem _ hd)
  have hfit : Fit s := fun {y c} hc i hi => by
    obtain ⟨ha, rfl⟩ := Array.getElem?_eq_some_iff.mp hc
    have q := List.all_eq_true.mp ((Array.all_eq_true_iff_forall_mem.mp hF) _ (Array.getElem_mem ha)) i (List.mem_range.mpr hi)
    simpa [Array.getElem?_eq_getElem hi] using q
  obtain ⟨hsets, hown0⟩ := atoms_of _ (rest_1_c_eq ▸ (show rest_1_c.before _ s = true from hrest))
  have hr0 := Cond.before_iff.mp hown0
  obtain ⟨i0, ei0⟩ := is_v g3
  obtain rfl : w0 = (.int i0) := Option.some.inj ei0
  obtain ⟨i1, ei1⟩ := is_v g5
  obtain rfl : w1 = (.int i1) := Option.some.inj ei1
  obtain ⟨i2, ei2⟩ := is_v g7
  obtain rfl : w2 = (.int i2) := Option.some.inj ei2
  obtain ⟨i3, ei3⟩ := is_v g8
  obtain rfl : w3 = (.int i3) := Option.some.inj ei3
  obtain ⟨na1, na2⟩ := and_e hn
  obtain ⟨na3, na4⟩ := and_e na2
  obtain ⟨na5, na6⟩ := and_e na4
  obtain ⟨na7, na8⟩ := and_e na6
  obtain ⟨na9, na10⟩ := and_e na8
  obtain ⟨na11, na12⟩ := and_e na10
  obtain ⟨na13, na14⟩ := and_e na12
  obtain ⟨na15, na16⟩ := and_e na14
  obtain ⟨na17, na18⟩ := and_e na16
  obtain ⟨na19, na20⟩ := and_e na18
  obtain ⟨na21, na22⟩ := and_e na20
  obtain ⟨na23, na24⟩ := and_e na22
  obtain ⟨na25, na26⟩ := and_e na24
  obtain ⟨na27, na28⟩ := and_e na26
  obtain ⟨na29, na30⟩ := and_e na28
  obtain ⟨na31, na32⟩ := and_e na30
  obtain ⟨na33, na34⟩ := and_e na32
  obtain ⟨na35, na36⟩ := and_e na34
  obtain ⟨na37, na38⟩ := and_e na36
  obtain ⟨na39, na40⟩ := and_e na38
  obtain ⟨na41, na42⟩ := and_e na40
  obtain ⟨na43, na44⟩ := and_e na42
  obtain ⟨na45, na46⟩ := and_e na44
  obtain ⟨na47, na48⟩ := and_e na46
  obtain ⟨na49, na50⟩ := and_e na48
  obtain ⟨na51, na52⟩ := and_e na50
  obtain ⟨na53, na54⟩ := and_e na52
  obtain ⟨na55, na56⟩ := and_e na54
  obtain ⟨na57, na58⟩ := and_e na56
  obtain ⟨na59, na60⟩ := and_e na58
  obtain ⟨na61, na62⟩ := and_e na60
  obtain ⟨na63, na64⟩ := and_e na62
  obtain ⟨na65, na66⟩ := and_e na64
  obtain ⟨na67, na68⟩ := and_e na66
  obtain ⟨na69, na70⟩ := and_e na68
  obtain ⟨na71, na72⟩ := and_e na70
  obtain ⟨na73, na74⟩ := and_e na72
  obtain ⟨na75, na76⟩ := and_e na74
  obtain ⟨na77, na78⟩ := and_e na76
  obtain ⟨s_cs, e_cs⟩ := is_v (Cond.before_iff.mp (hsets _ (List.mem_of_getElem? (i := 10) rfl)))
  have S_cs : Sta s s.heap "java/lang/String" "COMPACT_STRINGS" "Z" (.int s_cs) := Sta.start e_cs (Or.inl (hsets _ (List.mem_of_getElem? (i := 9) rfl)))
  have hcs : ¬ (s_cs = (0 : Int32)) := gotF (Cond.eq_ints e_cs (Term.int_eval (0))) (not_v (Cond.before_iff.mp (hsets _ (List.mem_of_getElem? (i := 11) rfl))))
  obtain ⟨a_dc, e_dc⟩ := exa_v (Cond.before_iff.mp (hsets _ (List.mem_of_getElem? (i := 7) rfl)))
  have S_dc : Sta s s.heap "java/util/ArrayList" "DEFAULTCAPACITY_EMPTY_ELEMENTDATA" "[Ljava/lang/Object;" (.ref a_dc) := Sta.start e_dc (Or.inr ⟨(hw _ (List.mem_of_getElem? (i := 25) rfl)), (hsets _ (List.mem_of_getElem? (i := 2) rfl))⟩)
  obtain ⟨s_si, e_si, hsv⟩ := isR_v (Cond.before_iff.mp (hsets _ (List.mem_of_getElem? (i := 17) rfl)))
  have S_si : Sta s s.heap "jdk/internal/util/Preconditions" "SIOOBE_FORMATTER" "Ljava/util/function/BiFunction;" s_si := Sta.start e_si (Or.inl (hsets _ (List.mem_of_getElem? (i := 16) rfl)))
  obtain ⟨a1_POSTGRESQL, ev1_POSTGRESQL⟩ := exa_v na1
  have E1_POSTGRESQL : Exa s s.heap a1_POSTGRESQL "underdeck/deck/Dialect" := Exa.start ev1_POSTGRESQL na1
  have S1_POSTGRESQL : Sta s s.heap "underdeck/deck/Dialect" "POSTGRESQL" "Lunderdeck/deck/Dialect;" (.ref a1_POSTGRESQL) := Sta.start ev1_POSTGRESQL (Or.inr ⟨(hw _ (List.mem_of_getElem? (i := 1) rfl)), (hw _ (List.mem_of_getElem? (i := 2) rfl))⟩)
  obtain ⟨a2_POSTGRESQL, ev2_POSTGRESQL⟩ := exa_v na3
  have E2_POSTGRESQL : Exa s s.heap a2_POSTGRESQL "java/lang/String" := Exa.start ev2_POSTGRESQL na3
  have F1_POSTGRESQL : Fld s s.heap a1_POSTGRESQL "underdeck/deck/Dialect" "defaultsOnly" "Ljava/lang/String;" (.ref a2_POSTGRESQL) := Fld.start ((fld_at ev1_POSTGRESQL).symm.trans ev2_POSTGRESQL)
  obtain ⟨a3_POSTGRESQL, ev3_POSTGRESQL⟩ := arr_v na5
  obtain ⟨yoo_, yby_⟩ := Arr.start ev3_POSTGRESQL na5
  have F2_POSTGRESQL : Fld s s.heap a2_POSTGRESQL "java/lang/String" "value" "[B" (.ref a3_POSTGRESQL) := Fld.start ((fld_at ev2_POSTGRESQL).symm.trans ev3_POSTGRESQL)
  have F3_POSTGRESQL : Fld s s.heap a2_POSTGRESQL "java/lang/String" "coder" "B" (.int (0 : Int32)) := Fld.start ((fld_at ev2_POSTGRESQL).symm.trans (own_eqI na11 (Term.int_eval (0))))
  have len_POSTGRESQL := own_eqI na9 (Term.int_eval (15))
  obtain ⟨lt_POSTGRESQL, yop_⟩ := own_len len_POSTGRESQL ev3_POSTGRESQL yby_.1
  have el_POSTGRESQL_0 := elem_in (own_eqI na25 (Term.int_eval (32))) ev3_POSTGRESQL (Term.int_eval (0)) yby_.1
  have el_POSTGRESQL_1 := elem_in (own_eqI na27 (Term.int_eval (100))) ev3_POSTGRESQL (Term.int_eval (1)) yby_.1
  have el_POSTGRESQL_2 := elem_in (own_eqI na29 (Term.int_eval (101))) ev3_POSTGRESQL (Term.int_eval (2)) yby_.1
  have el_POSTGRESQL_3 := elem_in (own_eqI na31 (Term.int_eval (102))) ev3_POSTGRESQL (Term.int_eval (3)) yby_.1
  have el_POSTGRESQL_4 := elem_in (own_eqI na33 (Term.int_eval (97))) ev3_POSTGRESQL (Term.int_eval (4)) yby_.1
  have el_POSTGRESQL_5 := elem_in (own_eqI na35 (Term.int_eval (117))) ev3_POSTGRESQL (Term.int_eval (5)) yby_.1
  have el_POSTGRESQL_6 := elem_in (own_eqI na37 (Term.int_eval (108))) ev3_POSTGRESQL (Term.int_eval (6)) yby_.1
  have el_POSTGRESQL_7 := elem_in (own_eqI na39 (Term.int_eval (116))) ev3_POSTGRESQL (Term.int_eval (7)) yby_.1
  have el_POSTGRESQL_8 := elem_in (own_eqI na41 (Term.int_eval (32))) ev3_POSTGRESQL (Term.int_eval (8)) yby_.1
  have el_POSTGRESQL_9 := elem_in (own_eqI na43 (Term.int_eval (118))) ev3_POSTGRESQL (Term.int_eval (9)) yby_.1
  have el_POSTGRESQL_10 := elem_in (own_eqI na45 (Term.int_eval (97))) ev3_POSTGRESQL (Term.int_eval (10)) yby_.1
  have el_POSTGRESQL_11 := elem_in (own_eqI na47 (Term.int_eval (108))) ev3_POSTGRESQL (Term.int_eval (11)) yby_.1
  have el_POSTGRESQL_12 := elem_in (own_eqI na49 (Term.int_eval (117))) ev3_POSTGRESQL (Term.int_eval (12)) yby_.1
  have el_POSTGRESQL_13 := elem_in (own_eqI na51 (Term.int_eval (101))) ev3_POSTGRESQL (Term.int_eval (13)) yby_.1
  have el_POSTGRESQL_14 := elem_in (own_eqI na53 (Term.int_eval (115))) ev3_POSTGRESQL (Term.int_eval (14)) yby_.1
  have ypb_ : Arv s s.heap a3_POSTGRESQL yoo_.cls .byte (15 : Int32) [(.int (32 : Int32)), (.int (100 : Int32)), (.int (101 : Int32)), (.int (102 : Int32)), (.int (97 : Int32)), (.int (117 : Int32)), (.int (108 : Int32)), (.int (116 : Int32)), (.int (32 : Int32)), (.int (118 : Int32)), (.int (97 : Int32)), (.int (108 : Int32)), (.int (117 : Int32)), (.int (101 : Int32)), (.int (115 : Int32))] (.int (0 : Int32)) := Arv.start hfit yby_ lt_POSTGRESQL yop_ (by decide) rfl ⟨el_POSTGRESQL_0.2, el_POSTGRESQL_1.2, el_POSTGRESQL_2.2, el_POSTGRESQL_3.2, el_POSTGRESQL_4.2, el_POSTGRESQL_5.2, el_POSTGRESQL_6.2, el_POSTGRESQL_7.2, el_POSTGRESQL_8.2, el_POSTGRESQL_9.2, el_POSTGRESQL_10.2, el_POSTGRESQL_11.2, el_POSTGRESQL_12.2, el_POSTGRESQL_13.2, el_POSTGRESQL_14.2, trivial⟩
  obtain ⟨a1_MARIADB, ev1_MARIADB⟩ := exa_v na13
  have E1_MARIADB : Exa s s.heap a1_MARIADB "underdeck/deck/Dialect" := Exa.start ev1_MARIADB na13
  have S1_MARIADB : Sta s s.heap "underdeck/deck/Dialect" "MARIADB" "Lunderdeck/deck/Dialect;" (.ref a1_MARIADB) := Sta.start ev1_MARIADB (Or.inr ⟨(hw _ (List.mem_of_getElem? (i := 1) rfl)), (hw _ (List.mem_of_getElem? (i := 276) rfl))⟩)
  obtain ⟨a2_MARIADB, ev2_MARIADB⟩ := exa_v na15
  have E2_MARIADB : Exa s s.heap a2_MARIADB "java/lang/String" := Exa.start ev2_MARIADB na15
  have F1_MARIADB : Fld s s.heap a1_MARIADB "underdeck/deck/Dialect" "defaultsOnly" "Ljava/lang/String;" (.ref a2_MARIADB) := Fld.start ((fld_at ev1_MARIADB).symm.trans ev2_MARIADB)
  obtain ⟨a3_MARIADB, ev3_MARIADB⟩ := arr_v na17
  obtain ⟨yqf_, ydc_⟩ := Arr.start ev3_MARIADB na17
  have F2_MARIADB : Fld s s.heap a2_MARIADB "java/lang/String" "value" "[B" (.ref a3_MARIADB) := Fld.start ((fld_at ev2_MARIADB).symm.trans ev3_MARIADB)
  have F3_MARIADB : Fld s s.heap a2_MARIADB "java/lang/String" "coder" "B" (.int (0 : Int32)) := Fld.start ((fld_at ev2_MARIADB).symm.trans (own_eqI na23 (Term.int_eval (0))))
  have len_MARIADB := own_eqI na21 (Term.int_eval (13))
  obtain ⟨lt_MARIADB, yqg_⟩ := own_len len_MARIADB ev3_MARIADB ydc_.1
  have el_MARIADB_0 := elem_in (own_eqI na55 (Term.int_eval (32))) ev3_MARIADB (Term.int_eval (0)) ydc_.1
  have el_MARIADB_1 := elem_in (own_eqI na57 (Term.int_eval (40))) ev3_MARIADB (Term.int_eval (1)) ydc_.1
  have el_MARIADB_2 := elem_in (own_eqI na59 (Term.int_eval (41))) ev3_MARIADB (Term.int_eval (2)) ydc_.1
  have el_MARIADB_3 := elem_in (own_eqI na61 (Term.int_eval (32))) ev3_MARIADB (Term.int_eval (3)) ydc_.1
  have el_MARIADB_4 := elem_in (own_eqI na63 (Term.int_eval (118))) ev3_MARIADB (Term.int_eval (4)) ydc_.1
  have el_MARIADB_5 := elem_in (own_eqI na65 (Term.int_eval (97))) ev3_MARIADB (Term.int_eval (5)) ydc_.1
  have el_MARIADB_6 := elem_in (own_eqI na67 (Term.int_eval (108))) ev3_MARIADB (Term.int_eval (6)) ydc_.1
  have el_MARIADB_7 := elem_in (own_eqI na69 (Term.int_eval (117))) ev3_MARIADB (Term.int_eval (7)) ydc_.1
  have el_MARIADB_8 := elem_in (own_eqI na71 (Term.int_eval (101))) ev3_MARIADB (Term.int_eval (8)) ydc_.1
  have el_MARIADB_9 := elem_in (own_eqI na73 (Term.int_eval (115))) ev3_MARIADB (Term.int_eval (9)) ydc_.1
  have el_MARIADB_10 := elem_in (own_eqI na75 (Term.int_eval (32))) ev3_MARIADB (Term.int_eval (10)) ydc_.1
  have el_MARIADB_11 := elem_in (own_eqI na77 (Term.int_eval (40))) ev3_MARIADB (Term.int_eval (11)) ydc_.1
  have el_MARIADB_12 := elem_in (own_eqI na78 (Term.int_eval (41))) ev3_MARIADB (Term.int_eval (12)) ydc_.1
  have yqn_ : Arv s s.heap a3_MARIADB yqf_.cls .byte (13 : Int32) [(.int (32 : Int32)), (.int (40 : Int32)), (.int (41 : Int32)), (.int (32 : Int32)), (.int (118 : Int32)), (.int (97 : Int32)), (.int (108 : Int32)), (.int (117 : Int32)), (.int (101 : Int32)), (.int (115 : Int32)), (.int (32 : Int32)), (.int (40 : Int32)), (.int (41 : Int32))] (.int (0 : Int32)) := Arv.start hfit ydc_ lt_MARIADB yqg_ (by decide) rfl ⟨el_MARIADB_0.2, el_MARIADB_1.2, el_MARIADB_2.2, el_MARIADB_3.2, el_MARIADB_4.2, el_MARIADB_5.2, el_MARIADB_6.2, el_MARIADB_7.2, el_MARIADB_8.2, el_MARIADB_9.2, el_MARIADB_10.2, el_MARIADB_11.2, el_MARIADB_12.2, trivial⟩
  have hCH : CHv s consts_1 s.vm s.heap := CHv.start (own_EW hw) hcalls.1 (hsets _ (List.mem_of_getElem? (i := 11) rfl)) (hw _ (List.mem_of_getElem? (i := 6) rfl)) (hw _ (List.mem_of_getElem? (i := 5) rfl))
  obtain ⟨n, o, h1, h2, h3, _, L, rfl, ⟨rfl, N⟩, hq⟩ := rm0 l s _ hw tables_1 i0 i1 i2 i3 a1_MARIADB a_dc s_cs a2_MARIADB a3_MARIADB s_si _ a1_POSTGRESQL a2_POSTGRESQL a3_POSTGRESQL _ s.heap s.heap.size (Nat.le_refl _) hcs hsv S1_MARIADB S_dc S_cs F1_MARIADB F2_MARIADB E1_MARIADB F3_MARIADB E2_MARIADB S_si yqn_ S1_POSTGRESQL F1_POSTGRESQL F2_POSTGRESQL E1_POSTGRESQL F3_POSTGRESQL E2_POSTGRESQL ypb_ p e ha hc hk s m _ below hf ((Spec.applies_iff_loose hf).mp happ).1 ⟨rfl, State.Warmed39.refl s, rfl, hCH⟩ trivial
  refine ⟨n, _, h1, h2, h3, hpost _ _ _ _ _ _ ⟨Cond.after_iff.mpr rfl, Cond.after_iff.mpr (eq_i res_at (Term.int_eval (1)) rfl), trivial⟩ ⟨hq.1, hq.2.1, hq.2.2.1, (hq.2.2.2.sift fun y hy => Or.inr (N y hy)).mono (by decide) (by decide)⟩⟩
theorem main_1_1 : Claimed_1_1 := comes_1 fun _ _ _ _ _ _ h hF => ⟨h.1, hF⟩
theorem main_1_2 : Claimed_1_2 := comes_1 fun _ _ _ _ _ _ h hF => ⟨h.2.1, hF⟩
end Jvm.Pilot.@@N@@
namespace Jvm.Pilot.@@N@@
open Jvm Jvm.ClassFile Sem Op Lib Jvm.Free Jvm.Stand Jvm.Pilot.@@N@@.Jvm.D
/-! MADE BY PROGRAM (witnessworld.py) out of the Statement's table words and the real class files: 43 classes; the members and pool entries that the words name. The judged class is class 1, her method 1. -/
namespace start1
open Jvm.ClassFile
def u (s : String) : CpInfo := .utf8 (stringToUtf16 s)
/-- a pool by its gaps: so many unusable entries, then the entry; so many at the end -/
def gap : Nat → List CpInfo → List CpInfo
  | 0, r => r
  | n + 1, r => .unusable :: gap n r
def poolList (es : List (Nat × CpInfo)) (last : Nat) : List CpInfo := es.foldr (fun e r => gap e.1 (e.2 :: r)) (gap last [])
def pool (es : List (Nat × CpInfo)) (last : Nat) : Array CpInfo := ⟨poolList es last⟩
def fileOf (pool : Array CpInfo) (this : Nat) (attrs : Array Attribute := #[]) (ms : Array MethodInfo := #[]) (fl : Nat := 33) (sup : Nat := 0) (ifs : Array Nat := #[]) (fds : Array FieldInfo := #[]) : ClassFile where
  minorVersion := 0
  majorVersion := 65
  constantPool := pool
  accessFlags := fl
  thisClass := this
  superClass := sup
  interfaces := ifs
  fields := fds
  methods := ms
  attributes := attrs
def plain (name : String) (sup : Option ClassId) : Class where
  name := name
  kind := .ordinary
  loader := none
  accessFlags := 33
  super := sup
  interfaces := #[]
  cf := none
  fields := #[]
  methods := #[]
  instanceTypes := #[]
  staticTypes := #[]
  resolved := #[]
  callSites := []
  init := .initialized
  statics := none
  mirror := none

def pool0 : Array CpInfo := pool [(5, u "<init>"), (0, u "()V"), (1, .class_ 10), (1, u "java/lang/Object"), (85, u "clone"), (0, u "()Ljava/lang/Object;")] 26

def k0c0 : Code := { maxStack := 0, maxLocals := 1, code := object_method_1_code, exceptionTable := #[], attributes := #[] }
def k0m0 : Method := { name := "<init>", desc := "()V", sig := { parameters := [], returnType := none }, accessFlags := 1, code := some k0c0 }
def k0m1 : Method := { name := "clone", desc := "()Ljava/lang/Object;", sig := { parameters := [], returnType := some (.object "java/lang/Object") }, accessFlags := 260, code := none }
/-- java/lang/Object -/
def k0 : Class := { plain "java/lang/Object" none with
  accessFlags := 33
  interfaces := #[]
  cf := some (fileOf pool0 8 #[] #[{ accessFlags := 1, nameIndex := 5, descriptorIndex := 6, attributes := #[] }, { accessFlags := 260, nameIndex := 96, descriptorIndex := 97, attributes := #[] }] 33 0 #[] #[])
  fields := #[]
  methods := #[k0m0, k0m1]
  instanceTypes := #[]
  staticTypes := #[]
  resolved := Array.replicate 124 none
  statics := none }

def pool1 : Array CpInfo := pool [(2, .class_ 4), (1, u "java/lang/Object"), (0, u "<init>"), (0, u "()V"), (0, .fieldref 8 9), (0, .class_ 10), (0, .nameAndType 11 12), (0, u "underdeck/deck/Dialect"), (0, u "POSTGRESQL"), (0, u "Lunderdeck/deck/Dialect;"), (0, .fieldref 8 14), (0, .nameAndType 15 12), (0, u "MARIADB"), (0, .string 17), (0, u " default values"), (0, .string 19), (0, u " () values ()"), (0, .integer 2147483647), (0, .string 22), (0, u ""), (0, .methodref 24 25), (0, .class_ 26), (0, .nameAndType 27 28), (0, u "java/lang/String"), (0, u "valueOf"), (0, u "(C)Ljava/lang/String;"), (0, .methodref 24 30), (0, .nameAndType 5 31), (0, u "([C)V"), (0, .class_ 33), (0, u "underdeck/deck/SqlText"), (0, .methodref 32 35), (0, .nameAndType 5 36), (0, u "(Lunderdeck/deck/Dialect;)V"), (0, .methodref 32 38), (0, .nameAndType 39 40), (0, u "sql"), (0, u "(Ljava/lang/String;)Lunderdeck/deck/SqlText;"), (0, .methodref 32 42), (0, .nameAndType 43 44), (0, u "defaultsOnly"), (0, u "()Lunderdeck/deck/SqlText;"), (0, .methodref 32 46), (0, .nameAndType 47 48), (0, u "plain"), (0, u "()Ljava/lang/String;"), (0, .methodref 24 50), (0, .nameAndType 51 52), (0, u "length"), (0, u "()I"), (0, .methodref 24 54), (0, .nameAndType 55 56), (0, u "charAt"), (0, u "(I)C"), (0, .methodref 58 59), (0, .class_ 60), (0, .nameAndType 61 62), (0, u "underdeck/deck/SqlTextDefaultsOnlyPinLaw"), (0, u "tail"), (0, u "(Ljava/lang/String;ILjava/lang/String;)Z"), (0, .methodref 58 64), (0, .nameAndType 65 66), (0, u "at"), (0, u "(Ljava/lang/String;ILjava/lang/String;I)Z"), (2, u "law"), (0, u "(IIII)Z")] 5

def k1m0 : Method := { name := "<init>", desc := "()V", sig := { parameters := [], returnType := none }, accessFlags := 1, code := none }
def k1c1 : Code := { maxStack := 3, maxLocals := 16, code := code, exceptionTable := #[], attributes := #[] }
def k1m1 : Method := { name := "law", desc := "(IIII)Z", sig := { parameters := [.int, .int, .int, .int], returnType := some .boolean }, accessFlags := 9, code := some k1c1 }
def k1c2 : Code := { maxStack := 4, maxLocals := 3, code := method_3_code, exceptionTable := #[], attributes := #[] }
def k1m2 : Method := { name := "tail", desc := "(Ljava/lang/String;ILjava/lang/String;)Z", sig := { parameters := [(.object "java/lang/String"), .int, (.object "java/lang/String")], returnType := some .boolean }, accessFlags := 10, code := some k1c2 }
def k1c3 : Code := { maxStack := 3, maxLocals := 4, code := method_4_code, exceptionTable := #[], attributes := #[] }
def k1m3 : Method := { name := "at", desc := "(Ljava/lang/String;ILjava/lang/String;I)Z", sig := { parameters := [(.object "java/lang/String"), .int, (.object "java/lang/String"), .int], returnType := some .boolean }, accessFlags := 10, code := some k1c3 }
/-- underdeck/deck/SqlTextDefaultsOnlyPinLaw -/
def k1 : Class := { plain "underdeck/deck/SqlTextDefaultsOnlyPinLaw" (some 0) with
  accessFlags := 49
  interfaces := #[]
  cf := some (fileOf pool1 58 #[] #[{ accessFlags := 1, nameIndex := 5, descriptorIndex := 6, attributes := #[] }, { accessFlags := 9, nameIndex := 69, descriptorIndex := 70, attributes := #[] }, { accessFlags := 10, nameIndex := 61, descriptorIndex := 62, attributes := #[] }, { accessFlags := 10, nameIndex := 65, descriptorIndex := 66, attributes := #[] }] 49 2 #[] #[])
  fields := #[]
  methods := #[k1m0, k1m1, k1m2, k1m3]
  instanceTypes := #[]
  staticTypes := #[]
  resolved := Array.replicate 76 none
  statics := none }

def pool2 : Array CpInfo := pool [(1, .class_ 2), (0, u "java/lang/constant/Constable"), (0, .class_ 4), (0, u "java/lang/Object")] 6

/-- java/lang/constant/Constable -/
def k2 : Class := { plain "java/lang/constant/Constable" (some 0) with
  accessFlags := 1537
  interfaces := #[]
  cf := some (fileOf pool2 1 #[] #[] 1537 3 #[] #[])
  fields := #[]
  methods := #[]
  instanceTypes := #[]
  staticTypes := #[]
  resolved := Array.replicate 11 none
  statics := none }

def pool3 : Array CpInfo := pool [(1, .class_ 2), (0, u "java/lang/Comparable"), (0, .class_ 4), (0, u "java/lang/Object")] 7

/-- java/lang/Comparable -/
def k3 : Class := { plain "java/lang/Comparable" (some 0) with
  accessFlags := 1537
  interfaces := #[]
  cf := some (fileOf pool3 1 #[] #[] 1537 3 #[] #[])
  fields := #[]
  methods := #[]
  instanceTypes := #[]
  staticTypes := #[]
  resolved := Array.replicate 12 none
  statics := none }

def pool4 : Array CpInfo := pool [(1, .class_ 2), (0, u "java/io/Serializable"), (0, .class_ 4), (0, u "java/lang/Object")] 2

/-- java/io/Serializable -/
def k4 : Class := { plain "java/io/Serializable" (some 0) with
  accessFlags := 1537
  interfaces := #[]
  cf := some (fileOf pool4 1 #[] #[] 1537 3 #[] #[])
  fields := #[]
  methods := #[]
  instanceTypes := #[]
  staticTypes := #[]
  resolved := Array.replicate 7 none
  statics := none }

def pool5 : Array CpInfo := pool [(2, .class_ 4), (1, u "java/lang/Enum"), (0, u "name"), (0, u "Ljava/lang/String;"), (2, u "ordinal"), (0, u "I"), (1, .class_ 14), (1, u "java/lang/Object"), (4, u "hash"), (86, .class_ 108), (1, u "java/lang/Enum$EnumDesc"), (2, .class_ 112), (0, u "java/lang/constant/Constable"), (0, .class_ 114), (0, u "java/lang/Comparable"), (0, .class_ 116), (0, u "java/io/Serializable")] 87

/-- java/lang/Enum -/
def k5 : Class := { plain "java/lang/Enum" (some 0) with
  accessFlags := 1057
  interfaces := #[2, 3, 4]
  cf := some (fileOf pool5 2 #[.nestMembers #[106]] #[] 1057 12 #[111, 113, 115] #[{ accessFlags := 18, nameIndex := 5, descriptorIndex := 6, attributes := #[] }, { accessFlags := 18, nameIndex := 9, descriptorIndex := 10, attributes := #[] }, { accessFlags := 2, nameIndex := 19, descriptorIndex := 10, attributes := #[] }])
  fields := #[{ name := "name", type := (.object "java/lang/String"), accessFlags := 18, slot := 0, constantValue := 0 }, { name := "ordinal", type := .int, accessFlags := 18, slot := 1, constantValue := 0 }, { name := "hash", type := .int, accessFlags := 2, slot := 2, constantValue := 0 }]
  methods := #[]
  instanceTypes := #[(.object "java/lang/String"), .int, .int]
  staticTypes := #[]
  resolved := Array.replicate 204 none
  statics := none }

def pool6 : Array CpInfo := pool [(1, .class_ 2), (0, u "underdeck/deck/Dialect"), (2, u "POSTGRESQL"), (0, u "Lunderdeck/deck/Dialect;"), (2, u "MARIADB"), (2, u "$VALUES"), (0, u "[Lunderdeck/deck/Dialect;"), (6, .class_ 22), (1, u "java/lang/Enum"), (8, u "quote"), (0, u "C"), (2, u "text"), (0, u "Lunderdeck/deck/Dialect$Wrap;"), (2, u "exact"), (2, u "exactSinglePrecision"), (2, u "exactDoublePrecision"), (2, u "exactBitString"), (2, u "exactZerofill"), (2, u "notDistinct"), (0, u "Ljava/lang/String;"), (0, .fieldref 1 57), (0, .nameAndType 58 55), (0, u "defaultsOnly"), (2, u "parameterReading"), (0, u "Lunderdeck/deck/SqlReading;"), (2, u "questionMark"), (19, u "()Ljava/lang/String;"), (36, .class_ 123), (0, u "underdeck/deck/Dialect$Wrap"), (49, u "MARIADB_URL"), (1, u "MARIADB_PRODUCT")] 42

def k6c0 : Code := { maxStack := 1, maxLocals := 1, code := prog_25_method_10_code, exceptionTable := #[], attributes := #[] }
def k6m0 : Method := { name := "defaultsOnly", desc := "()Ljava/lang/String;", sig := { parameters := [], returnType := some (.object "java/lang/String") }, accessFlags := 0, code := some k6c0 }
/-- underdeck/deck/Dialect -/
def k6 : Class := { plain "underdeck/deck/Dialect" (some 5) with
  accessFlags := 16433
  interfaces := #[]
  cf := some (fileOf pool6 1 #[.nestMembers #[122]] #[{ accessFlags := 0, nameIndex := 58, descriptorIndex := 85, attributes := #[] }] 16433 20 #[] #[{ accessFlags := 16409, nameIndex := 5, descriptorIndex := 6, attributes := #[] }, { accessFlags := 16409, nameIndex := 9, descriptorIndex := 6, attributes := #[] }, { accessFlags := 26, nameIndex := 173, descriptorIndex := 55, attributes := #[] }, { accessFlags := 26, nameIndex := 175, descriptorIndex := 55, attributes := #[] }, { accessFlags := 18, nameIndex := 31, descriptorIndex := 32, attributes := #[] }, { accessFlags := 18, nameIndex := 35, descriptorIndex := 36, attributes := #[] }, { accessFlags := 18, nameIndex := 39, descriptorIndex := 36, attributes := #[] }, { accessFlags := 18, nameIndex := 42, descriptorIndex := 36, attributes := #[] }, { accessFlags := 18, nameIndex := 45, descriptorIndex := 36, attributes := #[] }, { accessFlags := 18, nameIndex := 48, descriptorIndex := 36, attributes := #[] }, { accessFlags := 18, nameIndex := 51, descriptorIndex := 36, attributes := #[] }, { accessFlags := 18, nameIndex := 54, descriptorIndex := 55, attributes := #[] }, { accessFlags := 18, nameIndex := 58, descriptorIndex := 55, attributes := #[] }, { accessFlags := 18, nameIndex := 61, descriptorIndex := 62, attributes := #[] }, { accessFlags := 18, nameIndex := 65, descriptorIndex := 55, attributes := #[] }, { accessFlags := 4122, nameIndex := 12, descriptorIndex := 13, attributes := #[] }])
  fields := #[{ name := "POSTGRESQL", type := (.object "underdeck/deck/Dialect"), accessFlags := 16409, slot := 0, constantValue := 0 }, { name := "MARIADB", type := (.object "underdeck/deck/Dialect"), accessFlags := 16409, slot := 1, constantValue := 0 }, { name := "MARIADB_URL", type := (.object "java/lang/String"), accessFlags := 26, slot := 2, constantValue := 0 }, { name := "MARIADB_PRODUCT", type := (.object "java/lang/String"), accessFlags := 26, slot := 3, constantValue := 0 }, { name := "quote", type := .char, accessFlags := 18, slot := 3, constantValue := 0 }, { name := "text", type := (.object "underdeck/deck/Dialect$Wrap"), accessFlags := 18, slot := 4, constantValue := 0 }, { name := "exact", type := (.object "underdeck/deck/Dialect$Wrap"), accessFlags := 18, slot := 5, constantValue := 0 }, { name := "exactSinglePrecision", type := (.object "underdeck/deck/Dialect$Wrap"), accessFlags := 18, slot := 6, constantValue := 0 }, { name := "exactDoublePrecision", type := (.object "underdeck/deck/Dialect$Wrap"), accessFlags := 18, slot := 7, constantValue := 0 }, { name := "exactBitString", type := (.object "underdeck/deck/Dialect$Wrap"), accessFlags := 18, slot := 8, constantValue := 0 }, { name := "exactZerofill", type := (.object "underdeck/deck/Dialect$Wrap"), accessFlags := 18, slot := 9, constantValue := 0 }, { name := "notDistinct", type := (.object "java/lang/String"), accessFlags := 18, slot := 10, constantValue := 0 }, { name := "defaultsOnly", type := (.object "java/lang/String"), accessFlags := 18, slot := 11, constantValue := 0 }, { name := "parameterReading", type := (.object "underdeck/deck/SqlReading"), accessFlags := 18, slot := 12, constantValue := 0 }, { name := "questionMark", type := (.object "java/lang/String"), accessFlags := 18, slot := 13, constantValue := 0 }, { name := "$VALUES", type := (.array (.object "underdeck/deck/Dialect")), accessFlags := 4122, slot := 4, constantValue := 0 }]
  methods := #[k6m0]
  instanceTypes := #[(.object "java/lang/String"), .int, .int, .char, (.object "underdeck/deck/Dialect$Wrap"), (.object "underdeck/deck/Dialect$Wrap"), (.object "underdeck/deck/Dialect$Wrap"), (.object "underdeck/deck/Dialect$Wrap"), (.object "underdeck/deck/Dialect$Wrap"), (.object "underdeck/deck/Dialect$Wrap"), (.object "java/lang/String"), (.object "java/lang/String"), (.object "underdeck/deck/SqlReading"), (.object "java/lang/String")]
  staticTypes := #[(.object "underdeck/deck/Dialect"), (.object "underdeck/deck/Dialect"), (.object "java/lang/String"), (.object "java/lang/String"), (.array (.object "underdeck/deck/Dialect"))]
  resolved := Array.replicate 218 none
  statics := some 0 }

def pool7 : Array CpInfo := pool [(2, .class_ 4), (1, u "java/lang/CharSequence"), (42, .class_ 48), (0, u "java/lang/CharSequence$1CodePointIterator"), (10, .class_ 60), (0, u "java/lang/CharSequence$1CharIterator"), (5, .class_ 67), (0, u "java/lang/Object")] 63

/-- java/lang/CharSequence -/
def k7 : Class := { plain "java/lang/CharSequence" (some 0) with
  accessFlags := 1537
  interfaces := #[]
  cf := some (fileOf pool7 2 #[.nestMembers #[47, 59]] #[] 1537 66 #[] #[])
  fields := #[]
  methods := #[]
  instanceTypes := #[]
  staticTypes := #[]
  resolved := Array.replicate 131 none
  statics := none }

def pool8 : Array CpInfo := pool [(1, .class_ 2), (0, u "java/lang/constant/ConstantDesc"), (0, .class_ 4), (0, u "java/lang/Object")] 32

/-- java/lang/constant/ConstantDesc -/
def k8 : Class := { plain "java/lang/constant/ConstantDesc" (some 0) with
  accessFlags := 1537
  interfaces := #[]
  cf := some (fileOf pool8 1 #[] #[] 1537 3 #[] #[])
  fields := #[]
  methods := #[]
  instanceTypes := #[]
  staticTypes := #[]
  resolved := Array.replicate 37 none
  statics := none }

def pool9 : Array CpInfo := pool [(1, .methodref 2 3), (0, .class_ 4), (0, .nameAndType 5 6), (0, u "java/lang/Object"), (0, u "<init>"), (0, u "()V"), (2, .fieldref 10 11), (0, .class_ 12), (0, .nameAndType 13 14), (0, u "java/lang/String"), (0, u "value"), (0, u "[B"), (0, .fieldref 10 16), (0, .nameAndType 17 18), (0, u "coder"), (0, u "B"), (2, u "hash"), (0, u "I"), (2, u "hashIsZero"), (0, u "Z"), (0, .methodref 10 28), (0, .nameAndType 5 29), (0, u "([CIILjava/lang/Void;)V"), (8, .fieldref 10 39), (0, .nameAndType 40 26), (0, u "COMPACT_STRINGS"), (1, .class_ 44), (1, u "java/lang/StringUTF16"), (0, u "compress"), (1, .methodref 42 48), (0, .nameAndType 49 50), (0, u "coderFromArrayLen"), (0, u "([BI)B"), (2, u "toBytes"), (0, .methodref 55 56), (0, .class_ 57), (0, .nameAndType 58 59), (0, u "java/util/Arrays"), (0, u "copyOfRange"), (0, u "([BII)[B"), (47, .class_ 109), (1, u "java/lang/StringLatin1"), (32, u "()Z"), (34, .methodref 42 178), (0, .nameAndType 45 179), (0, u "([CII)[B"), (13, .class_ 195), (1, u "java/lang/System"), (13, .methodref 10 210), (0, .nameAndType 5 211), (0, u "([BB)V"), (0, .methodref 193 213), (0, .nameAndType 214 215), (0, u "arraycopy"), (0, u "(Ljava/lang/Object;ILjava/lang/Object;II)V"), (118, u "()I"), (0, .methodref 10 336), (0, .nameAndType 17 337), (0, u "()B"), (2, u "()[B"), (22, u "([BI)C"), (5, u "(C)Z"), (21, u "(II)V"), (35, u "(I)C"), (61, .methodref 10 490), (0, .nameAndType 5 491), (0, u "(Ljava/lang/AbstractStringBuilder;Ljava/lang/Void;)V"), (0, .methodref 10 493), (0, .nameAndType 494 142), (0, u "isLatin1"), (0, .methodref 107 496), (0, .nameAndType 497 363), (0, u "charAt"), (3, u "checkIndex"), (4, .nameAndType 507 334), (0, u "length"), (24, u "getBytes"), (16, .methodref 550 506), (0, .class_ 551), (0, u "java/lang/AbstractStringBuilder"), (0, .methodref 550 553), (0, .nameAndType 554 340), (0, u "getValue"), (20, .class_ 576), (0, u "java/lang/CharSequence"), (22, u "CASE_INSENSITIVE_ORDER"), (0, u "Ljava/util/Comparator;"), (181, u "valueOf"), (0, u "(C)Ljava/lang/String;"), (37, u "([BIB)V"), (188, u "([C)V"), (4, .methodref 107 1016), (0, .nameAndType 1017 369), (0, u "canEncode"), (0, .methodref 107 1019), (0, .nameAndType 53 1020), (0, u "(C)[B"), (26, .methodref 550 493), (5, .fieldref 1054 1055), (0, .class_ 1056), (0, .nameAndType 1057 1058), (0, u "jdk/internal/util/Preconditions"), (0, u "SIOOBE_FORMATTER"), (0, u "Ljava/util/function/BiFunction;"), (0, .methodref 1054 1060), (0, .nameAndType 501 1061), (0, u "(IILjava/util/function/BiFunction;)I"), (39, u "serialPersistentFields"), (0, u "[Ljava/io/ObjectStreamField;"), (0, .class_ 1104), (0, u "java/lang/String$CaseInsensitiveComparator"), (1, .class_ 1107), (0, u "java/io/Serializable"), (0, .class_ 1109), (0, u "java/lang/Comparable"), (0, .class_ 1111), (0, u "java/lang/constant/Constable"), (0, .class_ 1113), (0, u "java/lang/constant/ConstantDesc"), (2, u "serialVersionUID"), (0, u "J"), (3, u "REPL"), (0, u "C"), (2, u "LATIN1"), (1, u "UTF16"), (105, u "(Ljava/lang/StringBuilder;)V")] 217

def k9m0 : Method := { name := "<init>", desc := "()V", sig := { parameters := [], returnType := none }, accessFlags := 1, code := none }
def k9c1 : Code := { maxStack := 5, maxLocals := 2, code := jdk_42_method_3_code, exceptionTable := #[], attributes := #[] }
def k9m1 : Method := { name := "<init>", desc := "([C)V", sig := { parameters := [(.array .char)], returnType := none }, accessFlags := 1, code := some k9c1 }
def k9c2 : Code := { maxStack := 3, maxLocals := 2, code := jdk_42_method_53_code, exceptionTable := #[], attributes := #[] }
def k9m2 : Method := { name := "<init>", desc := "(Ljava/lang/StringBuilder;)V", sig := { parameters := [(.object "java/lang/StringBuilder")], returnType := none }, accessFlags := 1, code := some k9c2 }
def k9c3 : Code := { maxStack := 2, maxLocals := 1, code := jdk_42_method_54_code, exceptionTable := #[], attributes := #[] }
def k9m3 : Method := { name := "length", desc := "()I", sig := { parameters := [], returnType := some .int }, accessFlags := 1, code := some k9c3 }
def k9c4 : Code := { maxStack := 2, maxLocals := 2, code := jdk_42_method_56_code, exceptionTable := #[], attributes := #[] }
def k9m4 : Method := { name := "charAt", desc := "(I)C", sig := { parameters := [.int], returnType := some .char }, accessFlags := 1, code := some k9c4 }
def k9c5 : Code := { maxStack := 4, maxLocals := 1, code := jdk_42_method_139_code, exceptionTable := #[], attributes := #[] }
def k9m5 : Method := { name := "valueOf", desc := "(C)Ljava/lang/String;", sig := { parameters := [.char], returnType := some (.object "java/lang/String") }, accessFlags := 9, code := some k9c5 }
def k9c6 : Code := { maxStack := 5, maxLocals := 4, code := jdk_42_method_147_code, exceptionTable := #[], attributes := #[] }
def k9m6 : Method := { name := "getBytes", desc := "([BIB)V", sig := { parameters := [(.array .byte), .int, .byte], returnType := none }, accessFlags := 0, code := some k9c6 }
def k9c7 : Code := { maxStack := 4, maxLocals := 6, code := jdk_42_method_149_code, exceptionTable := #[], attributes := #[] }
def k9m7 : Method := { name := "<init>", desc := "([CIILjava/lang/Void;)V", sig := { parameters := [(.array .char), .int, .int, (.object "java/lang/Void")], returnType := none }, accessFlags := 2, code := some k9c7 }
def k9c8 : Code := { maxStack := 5, maxLocals := 5, code := jdk_42_method_150_code, exceptionTable := #[], attributes := #[] }
def k9m8 : Method := { name := "<init>", desc := "(Ljava/lang/AbstractStringBuilder;Ljava/lang/Void;)V", sig := { parameters := [(.object "java/lang/AbstractStringBuilder"), (.object "java/lang/Void")], returnType := none }, accessFlags := 0, code := some k9c8 }
def k9c9 : Code := { maxStack := 2, maxLocals := 3, code := jdk_42_method_151_code, exceptionTable := #[], attributes := #[] }
def k9m9 : Method := { name := "<init>", desc := "([BB)V", sig := { parameters := [(.array .byte), .byte], returnType := none }, accessFlags := 0, code := some k9c9 }
def k9c10 : Code := { maxStack := 1, maxLocals := 1, code := jdk_42_method_152_code, exceptionTable := #[], attributes := #[] }
def k9m10 : Method := { name := "coder", desc := "()B", sig := { parameters := [], returnType := some .byte }, accessFlags := 0, code := some k9c10 }
def k9c11 : Code := { maxStack := 1, maxLocals := 1, code := jdk_42_method_154_code, exceptionTable := #[], attributes := #[] }
def k9m11 : Method := { name := "isLatin1", desc := "()Z", sig := { parameters := [], returnType := some .boolean }, accessFlags := 0, code := some k9c11 }
def k9c12 : Code := { maxStack := 3, maxLocals := 2, code := jdk_42_method_155_code, exceptionTable := #[], attributes := #[] }
def k9m12 : Method := { name := "checkIndex", desc := "(II)V", sig := { parameters := [.int, .int], returnType := none }, accessFlags := 8, code := some k9c12 }
/-- java/lang/String -/
def k9 : Class := { plain "java/lang/String" (some 0) with
  accessFlags := 49
  interfaces := #[4, 3, 7, 2, 8]
  cf := some (fileOf pool9 10 #[.nestMembers #[1103]] #[{ accessFlags := 1, nameIndex := 5, descriptorIndex := 6, attributes := #[] }, { accessFlags := 1, nameIndex := 5, descriptorIndex := 1010, attributes := #[] }, { accessFlags := 1, nameIndex := 5, descriptorIndex := 1233, attributes := #[] }, { accessFlags := 1, nameIndex := 507, descriptorIndex := 334, attributes := #[] }, { accessFlags := 1, nameIndex := 497, descriptorIndex := 427, attributes := #[] }, { accessFlags := 9, nameIndex := 782, descriptorIndex := 783, attributes := #[] }, { accessFlags := 0, nameIndex := 532, descriptorIndex := 821, attributes := #[] }, { accessFlags := 2, nameIndex := 5, descriptorIndex := 29, attributes := #[] }, { accessFlags := 0, nameIndex := 5, descriptorIndex := 491, attributes := #[] }, { accessFlags := 0, nameIndex := 5, descriptorIndex := 211, attributes := #[] }, { accessFlags := 0, nameIndex := 17, descriptorIndex := 337, attributes := #[] }, { accessFlags := 0, nameIndex := 494, descriptorIndex := 142, attributes := #[] }, { accessFlags := 8, nameIndex := 501, descriptorIndex := 391, attributes := #[] }] 49 2 #[1106, 1108, 575, 1110, 1112] #[{ accessFlags := 18, nameIndex := 13, descriptorIndex := 14, attributes := #[] }, { accessFlags := 18, nameIndex := 17, descriptorIndex := 18, attributes := #[] }, { accessFlags := 2, nameIndex := 21, descriptorIndex := 22, attributes := #[] }, { accessFlags := 2, nameIndex := 25, descriptorIndex := 26, attributes := #[] }, { accessFlags := 26, nameIndex := 1116, descriptorIndex := 1117, attributes := #[] }, { accessFlags := 24, nameIndex := 40, descriptorIndex := 26, attributes := #[] }, { accessFlags := 26, nameIndex := 1101, descriptorIndex := 1102, attributes := #[] }, { accessFlags := 26, nameIndex := 1121, descriptorIndex := 1122, attributes := #[] }, { accessFlags := 25, nameIndex := 599, descriptorIndex := 600, attributes := #[] }, { accessFlags := 24, nameIndex := 1125, descriptorIndex := 18, attributes := #[] }, { accessFlags := 24, nameIndex := 1127, descriptorIndex := 18, attributes := #[] }])
  fields := #[{ name := "value", type := (.array .byte), accessFlags := 18, slot := 0, constantValue := 0 }, { name := "coder", type := .byte, accessFlags := 18, slot := 1, constantValue := 0 }, { name := "hash", type := .int, accessFlags := 2, slot := 2, constantValue := 0 }, { name := "hashIsZero", type := .boolean, accessFlags := 2, slot := 3, constantValue := 0 }, { name := "serialVersionUID", type := .long, accessFlags := 26, slot := 0, constantValue := 0 }, { name := "COMPACT_STRINGS", type := .boolean, accessFlags := 24, slot := 1, constantValue := 0 }, { name := "serialPersistentFields", type := (.array (.object "java/io/ObjectStreamField")), accessFlags := 26, slot := 2, constantValue := 0 }, { name := "REPL", type := .char, accessFlags := 26, slot := 3, constantValue := 0 }, { name := "CASE_INSENSITIVE_ORDER", type := (.object "java/util/Comparator"), accessFlags := 25, slot := 4, constantValue := 0 }, { name := "LATIN1", type := .byte, accessFlags := 24, slot := 5, constantValue := 0 }, { name := "UTF16", type := .byte, accessFlags := 24, slot := 6, constantValue := 0 }]
  methods := #[k9m0, k9m1, k9m2, k9m3, k9m4, k9m5, k9m6, k9m7, k9m8, k9m9, k9m10, k9m11, k9m12]
  instanceTypes := #[(.array .byte), .byte, .int, .boolean]
  staticTypes := #[.long, .boolean, (.array (.object "java/io/ObjectStreamField")), .char, (.object "java/util/Comparator"), .byte, .byte]
  resolved := Array.replicate 1451 none
  statics := some 1 }

def pool10 : Array CpInfo := pool [(1, .methodref 2 3), (0, .class_ 4), (0, .nameAndType 5 6), (0, u "java/lang/Object"), (0, u "<init>"), (0, u "()V"), (0, .class_ 8), (0, u "java/util/ArrayList"), (0, .methodref 7 3), (0, .fieldref 11 12), (0, .class_ 13), (0, .nameAndType 14 15), (0, u "underdeck/deck/SqlText"), (0, u "parts"), (0, u "Ljava/util/List;"), (0, .class_ 17), (0, u "java/lang/StringBuilder"), (0, .methodref 16 3), (0, .fieldref 11 20), (0, .nameAndType 21 22), (0, u "current"), (0, u "Ljava/lang/StringBuilder;"), (0, .fieldref 11 24), (0, .nameAndType 25 15), (0, u "placeholders"), (0, .class_ 27), (0, u "java/util/HashMap"), (0, .methodref 26 3), (0, .fieldref 11 30), (0, .nameAndType 31 32), (0, u "types"), (0, u "Ljava/util/Map;"), (0, .fieldref 11 34), (0, .nameAndType 35 32), (0, u "groupLists"), (0, .class_ 37), (0, u "java/util/HashSet"), (0, .methodref 36 3), (0, .fieldref 11 40), (0, .nameAndType 41 42), (0, u "names"), (0, u "Ljava/util/Set;"), (0, .fieldref 11 44), (0, .nameAndType 45 46), (0, u "dialect"), (0, u "Lunderdeck/deck/Dialect;"), (0, .methodref 16 48), (0, .nameAndType 49 50), (0, u "append"), (0, u "(Ljava/lang/String;)Ljava/lang/StringBuilder;"), (0, .methodref 11 52), (0, .nameAndType 53 54), (0, u "sql"), (0, u "(Ljava/lang/String;)Lunderdeck/deck/SqlText;"), (7, .class_ 64), (1, u "underdeck/deck/Dialect"), (3, .class_ 70), (1, u "java/util/List"), (33, u "()Ljava/lang/String;"), (33, .methodref 16 139), (0, .nameAndType 140 104), (0, u "toString"), (49, u "()Z"), (16, .methodref 62 208), (0, .nameAndType 209 104), (0, u "defaultsOnly"), (24, .interfaceMethodref 68 235), (0, .nameAndType 236 190), (0, u "isEmpty"), (81, u "(Lunderdeck/deck/Dialect;)V"), (8, u "()Lunderdeck/deck/SqlText;"), (4, u "plain")] 66

def k10c0 : Code := { maxStack := 3, maxLocals := 2, code := prog_41_method_1_code, exceptionTable := #[], attributes := #[] }
def k10m0 : Method := { name := "<init>", desc := "(Lunderdeck/deck/Dialect;)V", sig := { parameters := [(.object "underdeck/deck/Dialect")], returnType := none }, accessFlags := 0, code := some k10c0 }
def k10c1 : Code := { maxStack := 2, maxLocals := 2, code := prog_41_method_2_code, exceptionTable := #[], attributes := #[] }
def k10m1 : Method := { name := "sql", desc := "(Ljava/lang/String;)Lunderdeck/deck/SqlText;", sig := { parameters := [(.object "java/lang/String")], returnType := some (.object "underdeck/deck/SqlText") }, accessFlags := 0, code := some k10c1 }
def k10c2 : Code := { maxStack := 2, maxLocals := 1, code := prog_41_method_14_code, exceptionTable := #[], attributes := #[] }
def k10m2 : Method := { name := "defaultsOnly", desc := "()Lunderdeck/deck/SqlText;", sig := { parameters := [], returnType := some (.object "underdeck/deck/SqlText") }, accessFlags := 0, code := some k10c2 }
def k10c3 : Code := { maxStack := 3, maxLocals := 1, code := prog_41_method_18_code, exceptionTable := #[], attributes := #[] }
def k10m3 : Method := { name := "plain", desc := "()Ljava/lang/String;", sig := { parameters := [], returnType := some (.object "java/lang/String") }, accessFlags := 0, code := some k10c3 }
/-- underdeck/deck/SqlText -/
def k10 : Class := { plain "underdeck/deck/SqlText" (some 0) with
  accessFlags := 48
  interfaces := #[]
  cf := some (fileOf pool10 11 #[] #[{ accessFlags := 0, nameIndex := 5, descriptorIndex := 318, attributes := #[] }, { accessFlags := 0, nameIndex := 53, descriptorIndex := 54, attributes := #[] }, { accessFlags := 0, nameIndex := 209, descriptorIndex := 327, attributes := #[] }, { accessFlags := 0, nameIndex := 332, descriptorIndex := 104, attributes := #[] }] 48 2 #[] #[{ accessFlags := 18, nameIndex := 45, descriptorIndex := 46, attributes := #[] }, { accessFlags := 18, nameIndex := 14, descriptorIndex := 15, attributes := #[] }, { accessFlags := 18, nameIndex := 21, descriptorIndex := 22, attributes := #[] }, { accessFlags := 18, nameIndex := 25, descriptorIndex := 15, attributes := #[] }, { accessFlags := 18, nameIndex := 31, descriptorIndex := 32, attributes := #[] }, { accessFlags := 18, nameIndex := 35, descriptorIndex := 32, attributes := #[] }, { accessFlags := 18, nameIndex := 41, descriptorIndex := 42, attributes := #[] }])
  fields := #[{ name := "dialect", type := (.object "underdeck/deck/Dialect"), accessFlags := 18, slot := 0, constantValue := 0 }, { name := "parts", type := (.object "java/util/List"), accessFlags := 18, slot := 1, constantValue := 0 }, { name := "current", type := (.object "java/lang/StringBuilder"), accessFlags := 18, slot := 2, constantValue := 0 }, { name := "placeholders", type := (.object "java/util/List"), accessFlags := 18, slot := 3, constantValue := 0 }, { name := "types", type := (.object "java/util/Map"), accessFlags := 18, slot := 4, constantValue := 0 }, { name := "groupLists", type := (.object "java/util/Map"), accessFlags := 18, slot := 5, constantValue := 0 }, { name := "names", type := (.object "java/util/Set"), accessFlags := 18, slot := 6, constantValue := 0 }]
  methods := #[k10m0, k10m1, k10m2, k10m3]
  instanceTypes := #[(.object "underdeck/deck/Dialect"), (.object "java/util/List"), (.object "java/lang/StringBuilder"), (.object "java/util/List"), (.object "java/util/Map"), (.object "java/util/Map"), (.object "java/util/Set")]
  staticTypes := #[]
  resolved := Array.replicate 399 none
  statics := none }

def pool11 : Array CpInfo := pool [(8, .class_ 10), (1, u "java/lang/Iterable"), (24, .class_ 36), (0, u "java/lang/Object")] 25

/-- java/lang/Iterable -/
def k11 : Class := { plain "java/lang/Iterable" (some 0) with
  accessFlags := 1537
  interfaces := #[]
  cf := some (fileOf pool11 8 #[] #[] 1537 35 #[] #[])
  fields := #[]
  methods := #[]
  instanceTypes := #[]
  staticTypes := #[]
  resolved := Array.replicate 62 none
  statics := none }

def pool12 : Array CpInfo := pool [(10, .class_ 12), (1, u "java/util/Collection"), (47, .class_ 61), (0, u "java/lang/Object"), (0, .class_ 63), (0, u "java/lang/Iterable")] 51

/-- java/util/Collection -/
def k12 : Class := { plain "java/util/Collection" (some 0) with
  accessFlags := 1537
  interfaces := #[11]
  cf := some (fileOf pool12 10 #[] #[] 1537 60 #[62] #[])
  fields := #[]
  methods := #[]
  instanceTypes := #[]
  staticTypes := #[]
  resolved := Array.replicate 115 none
  statics := none }

def pool13 : Array CpInfo := pool [(1, .methodref 2 3), (0, .class_ 4), (0, .nameAndType 5 6), (0, u "java/lang/Object"), (0, u "<init>"), (0, u "()V"), (1, .class_ 10), (1, u "java/util/AbstractCollection"), (66, .class_ 78), (0, u "java/util/Collection")] 81

def k13c0 : Code := { maxStack := 1, maxLocals := 1, code := jdk_22_method_1_code, exceptionTable := #[], attributes := #[] }
def k13m0 : Method := { name := "<init>", desc := "()V", sig := { parameters := [], returnType := none }, accessFlags := 4, code := some k13c0 }
/-- java/util/AbstractCollection -/
def k13 : Class := { plain "java/util/AbstractCollection" (some 0) with
  accessFlags := 1057
  interfaces := #[12]
  cf := some (fileOf pool13 8 #[] #[{ accessFlags := 4, nameIndex := 5, descriptorIndex := 6, attributes := #[] }] 1057 2 #[77] #[])
  fields := #[]
  methods := #[k13m0]
  instanceTypes := #[]
  staticTypes := #[]
  resolved := Array.replicate 160 none
  statics := none }

def pool14 : Array CpInfo := pool [(8, .class_ 10), (1, u "java/util/SequencedCollection"), (15, .class_ 27), (0, u "java/lang/Object"), (0, .class_ 29), (0, u "java/util/Collection")] 27

/-- java/util/SequencedCollection -/
def k14 : Class := { plain "java/util/SequencedCollection" (some 0) with
  accessFlags := 1537
  interfaces := #[12]
  cf := some (fileOf pool14 8 #[] #[] 1537 26 #[28] #[])
  fields := #[]
  methods := #[]
  instanceTypes := #[]
  staticTypes := #[]
  resolved := Array.replicate 57 none
  statics := none }

def pool15 : Array CpInfo := pool [(8, .class_ 10), (1, u "java/util/List"), (7, u "()Z"), (48, u "isEmpty"), (35, .class_ 104), (0, u "java/lang/Object"), (15, .class_ 121), (0, u "java/util/SequencedCollection")] 129

def k15m0 : Method := { name := "isEmpty", desc := "()Z", sig := { parameters := [], returnType := some .boolean }, accessFlags := 1025, code := none }
/-- java/util/List -/
def k15 : Class := { plain "java/util/List" (some 0) with
  accessFlags := 1537
  interfaces := #[14]
  cf := some (fileOf pool15 8 #[] #[{ accessFlags := 1025, nameIndex := 67, descriptorIndex := 18, attributes := #[] }] 1537 103 #[120] #[])
  fields := #[]
  methods := #[k15m0]
  instanceTypes := #[]
  staticTypes := #[]
  resolved := Array.replicate 251 none
  statics := none }

def pool16 : Array CpInfo := pool [(1, .methodref 2 3), (0, .class_ 4), (0, .nameAndType 5 6), (0, u "java/util/AbstractCollection"), (0, u "<init>"), (0, u "()V"), (0, .fieldref 8 9), (0, .class_ 10), (0, .nameAndType 11 12), (0, u "java/util/AbstractList"), (0, u "modCount"), (0, u "I"), (64, .class_ 78), (0, u "java/util/AbstractList$Itr"), (3, .class_ 83), (0, u "java/util/AbstractList$ListItr"), (9, .class_ 94), (0, u "java/util/AbstractList$RandomAccessSubList"), (3, .class_ 99), (0, u "java/util/AbstractList$SubList"), (33, .class_ 134), (0, u "java/util/List"), (73, .class_ 209), (0, u "java/util/AbstractList$SubList$1"), (0, .class_ 211), (0, u "java/util/AbstractList$RandomAccessSpliterator")] 6

def k16c0 : Code := { maxStack := 2, maxLocals := 1, code := jdk_39_method_1_code, exceptionTable := #[], attributes := #[] }
def k16m0 : Method := { name := "<init>", desc := "()V", sig := { parameters := [], returnType := none }, accessFlags := 4, code := some k16c0 }
/-- java/util/AbstractList -/
def k16 : Class := { plain "java/util/AbstractList" (some 13) with
  accessFlags := 1057
  interfaces := #[15]
  cf := some (fileOf pool16 8 #[.nestMembers #[93, 98, 208, 210, 82, 77]] #[{ accessFlags := 4, nameIndex := 5, descriptorIndex := 6, attributes := #[] }] 1057 2 #[133] #[{ accessFlags := 132, nameIndex := 11, descriptorIndex := 12, attributes := #[] }])
  fields := #[{ name := "modCount", type := .int, accessFlags := 132, slot := 0, constantValue := 0 }]
  methods := #[k16m0]
  instanceTypes := #[.int]
  staticTypes := #[]
  resolved := Array.replicate 218 none
  statics := none }

def pool17 : Array CpInfo := pool [(1, .class_ 2), (0, u "java/util/RandomAccess"), (0, .class_ 4), (0, u "java/lang/Object")] 2

/-- java/util/RandomAccess -/
def k17 : Class := { plain "java/util/RandomAccess" (some 0) with
  accessFlags := 1537
  interfaces := #[]
  cf := some (fileOf pool17 1 #[] #[] 1537 3 #[] #[])
  fields := #[]
  methods := #[]
  instanceTypes := #[]
  staticTypes := #[]
  resolved := Array.replicate 7 none
  statics := none }

def pool18 : Array CpInfo := pool [(1, .class_ 2), (0, u "java/lang/Cloneable"), (0, .class_ 4), (0, u "java/lang/Object")] 2

/-- java/lang/Cloneable -/
def k18 : Class := { plain "java/lang/Cloneable" (some 0) with
  accessFlags := 1537
  interfaces := #[]
  cf := some (fileOf pool18 1 #[] #[] 1537 3 #[] #[])
  fields := #[]
  methods := #[]
  instanceTypes := #[]
  staticTypes := #[]
  resolved := Array.replicate 7 none
  statics := none }

def pool19 : Array CpInfo := pool [(1, .methodref 2 3), (0, .class_ 4), (0, .nameAndType 5 6), (0, u "java/util/AbstractList"), (0, u "<init>"), (0, u "()V"), (2, .fieldref 10 11), (0, .class_ 12), (0, .nameAndType 13 14), (0, u "java/util/ArrayList"), (0, u "elementData"), (0, u "[Ljava/lang/Object;"), (2, u "EMPTY_ELEMENTDATA"), (21, .fieldref 10 40), (0, .nameAndType 41 14), (0, u "DEFAULTCAPACITY_EMPTY_ELEMENTDATA"), (6, .fieldref 10 49), (0, .nameAndType 50 51), (0, u "size"), (0, u "I"), (96, .class_ 149), (0, u "java/util/List"), (23, u "()Z"), (88, .class_ 263), (0, u "java/util/ArrayList$ListItr"), (3, .class_ 268), (0, u "java/util/ArrayList$Itr"), (7, .class_ 277), (0, u "java/util/ArrayList$SubList"), (12, .class_ 291), (0, u "java/util/ArrayList$ArrayListSpliterator"), (37, .class_ 330), (0, u "java/util/RandomAccess"), (0, .class_ 332), (0, u "java/lang/Cloneable"), (0, .class_ 334), (0, u "java/io/Serializable"), (0, u "serialVersionUID"), (0, u "J"), (3, u "DEFAULT_CAPACITY"), (22, u "isEmpty"), (136, .class_ 501), (0, u "java/util/ArrayList$SubList$2"), (0, .class_ 503), (0, u "java/util/ArrayList$SubList$1")] 5

def k19c0 : Code := { maxStack := 2, maxLocals := 1, code := jdk_38_method_2_code, exceptionTable := #[], attributes := #[] }
def k19m0 : Method := { name := "<init>", desc := "()V", sig := { parameters := [], returnType := none }, accessFlags := 1, code := some k19c0 }
def k19c1 : Code := { maxStack := 1, maxLocals := 1, code := jdk_38_method_9_code, exceptionTable := #[], attributes := #[] }
def k19m1 : Method := { name := "isEmpty", desc := "()Z", sig := { parameters := [], returnType := some .boolean }, accessFlags := 1, code := some k19c1 }
/-- java/util/ArrayList -/
def k19 : Class := { plain "java/util/ArrayList" (some 16) with
  accessFlags := 33
  interfaces := #[15, 17, 18, 4]
  cf := some (fileOf pool19 10 #[.nestMembers #[290, 276, 500, 502, 262, 267]] #[{ accessFlags := 1, nameIndex := 5, descriptorIndex := 6, attributes := #[] }, { accessFlags := 1, nameIndex := 363, descriptorIndex := 173, attributes := #[] }] 33 2 #[148, 329, 331, 333] #[{ accessFlags := 26, nameIndex := 335, descriptorIndex := 336, attributes := #[] }, { accessFlags := 26, nameIndex := 340, descriptorIndex := 51, attributes := #[] }, { accessFlags := 26, nameIndex := 17, descriptorIndex := 14, attributes := #[] }, { accessFlags := 26, nameIndex := 41, descriptorIndex := 14, attributes := #[] }, { accessFlags := 128, nameIndex := 13, descriptorIndex := 14, attributes := #[] }, { accessFlags := 2, nameIndex := 50, descriptorIndex := 51, attributes := #[] }])
  fields := #[{ name := "serialVersionUID", type := .long, accessFlags := 26, slot := 0, constantValue := 0 }, { name := "DEFAULT_CAPACITY", type := .int, accessFlags := 26, slot := 1, constantValue := 0 }, { name := "EMPTY_ELEMENTDATA", type := (.array (.object "java/lang/Object")), accessFlags := 26, slot := 2, constantValue := 0 }, { name := "DEFAULTCAPACITY_EMPTY_ELEMENTDATA", type := (.array (.object "java/lang/Object")), accessFlags := 26, slot := 3, constantValue := 0 }, { name := "elementData", type := (.array (.object "java/lang/Object")), accessFlags := 128, slot := 1, constantValue := 0 }, { name := "size", type := .int, accessFlags := 2, slot := 2, constantValue := 0 }]
  methods := #[k19m0, k19m1]
  instanceTypes := #[.int, (.array (.object "java/lang/Object")), .int]
  staticTypes := #[.long, .int, (.array (.object "java/lang/Object")), (.array (.object "java/lang/Object"))]
  resolved := Array.replicate 509 none
  statics := some 2 }

def pool20 : Array CpInfo := pool [(1, .class_ 2), (0, u "java/lang/Appendable"), (0, .class_ 4), (0, u "java/lang/Object")] 9

/-- java/lang/Appendable -/
def k20 : Class := { plain "java/lang/Appendable" (some 0) with
  accessFlags := 1537
  interfaces := #[]
  cf := some (fileOf pool20 1 #[] #[] 1537 3 #[] #[])
  fields := #[]
  methods := #[]
  instanceTypes := #[]
  staticTypes := #[]
  resolved := Array.replicate 14 none
  statics := none }

def pool21 : Array CpInfo := pool [(1, .class_ 2), (0, u "java/lang/String"), (0, .methodref 4 5), (0, .class_ 6), (0, .nameAndType 7 8), (0, u "java/lang/Object"), (0, u "<init>"), (0, u "()V"), (1, .class_ 12), (1, u "java/lang/AbstractStringBuilder"), (0, u "EMPTYVALUE"), (0, u "[B"), (0, .fieldref 10 16), (0, .nameAndType 17 14), (0, u "value"), (0, .fieldref 1 19), (0, .nameAndType 20 21), (0, u "COMPACT_STRINGS"), (0, u "Z"), (0, .fieldref 10 23), (0, .nameAndType 24 25), (0, u "coder"), (0, u "B"), (6, .methodref 1 33), (0, .nameAndType 34 35), (0, u "length"), (0, u "()I"), (3, .integer 2147483647), (0, .methodref 1 41), (0, .nameAndType 24 42), (0, u "()B"), (2, u "append"), (0, u "(Ljava/lang/String;)Ljava/lang/AbstractStringBuilder;"), (1, .class_ 49), (0, u "java/lang/CharSequence"), (19, u "(Ljava/lang/String;)V"), (5, u "maybeLatin1"), (3, .fieldref 10 80), (0, .nameAndType 81 82), (0, u "count"), (0, u "I"), (2, u "isLatin1"), (0, u "()Z"), (13, .methodref 10 101), (0, .nameAndType 102 103), (0, u "ensureCapacityInternal"), (0, u "(I)V"), (0, .methodref 10 105), (0, .nameAndType 106 107), (0, u "newCapacity"), (0, u "(I)I"), (0, .methodref 109 110), (0, .class_ 111), (0, .nameAndType 112 113), (0, u "java/util/Arrays"), (0, u "copyOf"), (0, u "([BI)[B"), (0, .methodref 115 116), (0, .class_ 117), (0, .nameAndType 118 119), (0, u "jdk/internal/util/ArraysSupport"), (0, u "newLength"), (0, u "(III)I"), (88, .methodref 10 209), (0, .nameAndType 210 211), (0, u "putStringAt"), (0, u "(ILjava/lang/String;)V"), (5, u "inflateIfNeededFor"), (2, .nameAndType 221 222), (0, u "getBytes"), (0, u "([BIB)V"), (174, .methodref 10 398), (0, .nameAndType 217 69), (0, .methodref 1 220), (3, u "()[B"), (40, .class_ 445), (0, u "java/lang/Appendable"), (106, u "getValue")] 56

def k21m0 : Method := { name := "<init>", desc := "()V", sig := { parameters := [], returnType := none }, accessFlags := 0, code := none }
def k21c1 : Code := { maxStack := 2, maxLocals := 2, code := jdk_68_method_2_code, exceptionTable := #[], attributes := #[] }
def k21m1 : Method := { name := "<init>", desc := "(I)V", sig := { parameters := [.int], returnType := none }, accessFlags := 0, code := some k21c1 }
def k21c2 : Code := { maxStack := 1, maxLocals := 1, code := jdk_68_method_6_code, exceptionTable := #[], attributes := #[] }
def k21m2 : Method := { name := "length", desc := "()I", sig := { parameters := [], returnType := some .int }, accessFlags := 1, code := some k21c2 }
def k21c3 : Code := { maxStack := 4, maxLocals := 3, code := jdk_68_method_9_code, exceptionTable := #[], attributes := #[] }
def k21m3 : Method := { name := "ensureCapacityInternal", desc := "(I)V", sig := { parameters := [.int], returnType := none }, accessFlags := 2, code := some k21c3 }
def k21c4 : Code := { maxStack := 5, maxLocals := 6, code := jdk_68_method_10_code, exceptionTable := #[], attributes := #[] }
def k21m4 : Method := { name := "newCapacity", desc := "(I)I", sig := { parameters := [.int], returnType := some .int }, accessFlags := 2, code := some k21c4 }
def k21c5 : Code := { maxStack := 3, maxLocals := 3, code := jdk_68_method_22_code, exceptionTable := #[], attributes := #[] }
def k21m5 : Method := { name := "append", desc := "(Ljava/lang/String;)Ljava/lang/AbstractStringBuilder;", sig := { parameters := [(.object "java/lang/String")], returnType := some (.object "java/lang/AbstractStringBuilder") }, accessFlags := 1, code := some k21c5 }
def k21c6 : Code := { maxStack := 1, maxLocals := 1, code := jdk_68_method_64_code, exceptionTable := #[], attributes := #[] }
def k21m6 : Method := { name := "getValue", desc := "()[B", sig := { parameters := [], returnType := some (.array .byte) }, accessFlags := 16, code := some k21c6 }
def k21c7 : Code := { maxStack := 1, maxLocals := 1, code := jdk_68_method_68_code, exceptionTable := #[], attributes := #[] }
def k21m7 : Method := { name := "isLatin1", desc := "()Z", sig := { parameters := [], returnType := some .boolean }, accessFlags := 16, code := some k21c7 }
def k21c8 : Code := { maxStack := 2, maxLocals := 2, code := jdk_68_method_71_code, exceptionTable := #[], attributes := #[] }
def k21m8 : Method := { name := "inflateIfNeededFor", desc := "(Ljava/lang/String;)V", sig := { parameters := [(.object "java/lang/String")], returnType := none }, accessFlags := 2, code := some k21c8 }
def k21c9 : Code := { maxStack := 4, maxLocals := 3, code := jdk_68_method_73_code, exceptionTable := #[], attributes := #[] }
def k21m9 : Method := { name := "putStringAt", desc := "(ILjava/lang/String;)V", sig := { parameters := [.int, (.object "java/lang/String")], returnType := none }, accessFlags := 2, code := some k21c9 }
/-- java/lang/AbstractStringBuilder -/
def k21 : Class := { plain "java/lang/AbstractStringBuilder" (some 0) with
  accessFlags := 1056
  interfaces := #[20, 7]
  cf := some (fileOf pool21 10 #[] #[{ accessFlags := 0, nameIndex := 7, descriptorIndex := 8, attributes := #[] }, { accessFlags := 0, nameIndex := 7, descriptorIndex := 103, attributes := #[] }, { accessFlags := 1, nameIndex := 34, descriptorIndex := 35, attributes := #[] }, { accessFlags := 2, nameIndex := 102, descriptorIndex := 103, attributes := #[] }, { accessFlags := 2, nameIndex := 106, descriptorIndex := 107, attributes := #[] }, { accessFlags := 1, nameIndex := 45, descriptorIndex := 46, attributes := #[] }, { accessFlags := 16, nameIndex := 552, descriptorIndex := 403, attributes := #[] }, { accessFlags := 16, nameIndex := 85, descriptorIndex := 86, attributes := #[] }, { accessFlags := 2, nameIndex := 217, descriptorIndex := 69, attributes := #[] }, { accessFlags := 2, nameIndex := 210, descriptorIndex := 211, attributes := #[] }] 1056 4 #[444, 48] #[{ accessFlags := 0, nameIndex := 17, descriptorIndex := 14, attributes := #[] }, { accessFlags := 0, nameIndex := 24, descriptorIndex := 25, attributes := #[] }, { accessFlags := 0, nameIndex := 75, descriptorIndex := 21, attributes := #[] }, { accessFlags := 0, nameIndex := 81, descriptorIndex := 82, attributes := #[] }, { accessFlags := 26, nameIndex := 13, descriptorIndex := 14, attributes := #[] }])
  fields := #[{ name := "value", type := (.array .byte), accessFlags := 0, slot := 0, constantValue := 0 }, { name := "coder", type := .byte, accessFlags := 0, slot := 1, constantValue := 0 }, { name := "maybeLatin1", type := .boolean, accessFlags := 0, slot := 2, constantValue := 0 }, { name := "count", type := .int, accessFlags := 0, slot := 3, constantValue := 0 }, { name := "EMPTYVALUE", type := (.array .byte), accessFlags := 26, slot := 0, constantValue := 0 }]
  methods := #[k21m0, k21m1, k21m2, k21m3, k21m4, k21m5, k21m6, k21m7, k21m8, k21m9]
  instanceTypes := #[(.array .byte), .byte, .boolean, .int]
  staticTypes := #[(.array .byte)]
  resolved := Array.replicate 609 none
  statics := none }

def pool22 : Array CpInfo := pool [(1, .methodref 2 3), (0, .class_ 4), (0, .nameAndType 5 6), (0, u "java/lang/AbstractStringBuilder"), (0, u "<init>"), (0, u "(I)V"), (11, .class_ 20), (1, u "java/lang/String"), (3, .class_ 26), (1, u "java/lang/StringBuilder"), (0, u "append"), (0, u "(Ljava/lang/String;)Ljava/lang/StringBuilder;"), (0, .methodref 2 30), (0, .nameAndType 27 31), (0, u "(Ljava/lang/String;)Ljava/lang/AbstractStringBuilder;"), (105, .methodref 18 138), (0, .nameAndType 5 139), (0, u "(Ljava/lang/StringBuilder;)V"), (5, u "()V"), (10, u "()I"), (186, .methodref 2 344), (0, .nameAndType 345 156), (0, u "length"), (3, .class_ 350), (0, u "java/lang/Appendable"), (0, .class_ 352), (0, u "java/io/Serializable"), (0, .class_ 354), (0, u "java/lang/Comparable"), (0, .class_ 356), (0, u "java/lang/CharSequence"), (0, u "serialVersionUID"), (0, u "J"), (40, u "toString"), (0, u "()Ljava/lang/String;")] 21

def k22c0 : Code := { maxStack := 2, maxLocals := 1, code := jdk_67_method_1_code, exceptionTable := #[], attributes := #[] }
def k22m0 : Method := { name := "<init>", desc := "()V", sig := { parameters := [], returnType := none }, accessFlags := 1, code := some k22c0 }
def k22c1 : Code := { maxStack := 2, maxLocals := 2, code := jdk_67_method_7_code, exceptionTable := #[], attributes := #[] }
def k22m1 : Method := { name := "append", desc := "(Ljava/lang/String;)Ljava/lang/StringBuilder;", sig := { parameters := [(.object "java/lang/String")], returnType := some (.object "java/lang/StringBuilder") }, accessFlags := 1, code := some k22c1 }
def k22c2 : Code := { maxStack := 3, maxLocals := 1, code := jdk_67_method_42_code, exceptionTable := #[], attributes := #[] }
def k22m2 : Method := { name := "toString", desc := "()Ljava/lang/String;", sig := { parameters := [], returnType := some (.object "java/lang/String") }, accessFlags := 1, code := some k22c2 }
def k22c3 : Code := { maxStack := 1, maxLocals := 1, code := jdk_67_method_93_code, exceptionTable := #[], attributes := #[] }
def k22m3 : Method := { name := "length", desc := "()I", sig := { parameters := [], returnType := some .int }, accessFlags := 4161, code := some k22c3 }
/-- java/lang/StringBuilder -/
def k22 : Class := { plain "java/lang/StringBuilder" (some 21) with
  accessFlags := 49
  interfaces := #[20, 4, 3, 7]
  cf := some (fileOf pool22 24 #[] #[{ accessFlags := 1, nameIndex := 5, descriptorIndex := 145, attributes := #[] }, { accessFlags := 1, nameIndex := 27, descriptorIndex := 28, attributes := #[] }, { accessFlags := 1, nameIndex := 399, descriptorIndex := 400, attributes := #[] }, { accessFlags := 4161, nameIndex := 345, descriptorIndex := 156, attributes := #[] }] 49 2 #[349, 351, 353, 355] #[{ accessFlags := 24, nameIndex := 357, descriptorIndex := 358, attributes := #[] }])
  fields := #[{ name := "serialVersionUID", type := .long, accessFlags := 24, slot := 0, constantValue := 0 }]
  methods := #[k22m0, k22m1, k22m2, k22m3]
  instanceTypes := #[(.array .byte), .byte, .boolean, .int]
  staticTypes := #[.long]
  resolved := Array.replicate 422 none
  statics := none }

def pool23 : Array CpInfo := pool [(2, .class_ 4), (1, u "java/util/Map"), (31, .class_ 37), (0, u "java/util/Map$Entry"), (55, .class_ 94), (0, u "java/lang/Object")] 168

/-- java/util/Map -/
def k23 : Class := { plain "java/util/Map" (some 0) with
  accessFlags := 1537
  interfaces := #[]
  cf := some (fileOf pool23 2 #[.nestMembers #[36]] #[] 1537 93 #[] #[])
  fields := #[]
  methods := #[]
  instanceTypes := #[]
  staticTypes := #[]
  resolved := Array.replicate 263 none
  statics := none }

def pool24 : Array CpInfo := pool [(1, .methodref 2 3), (0, .class_ 4), (0, .nameAndType 5 6), (0, u "java/lang/Object"), (0, u "<init>"), (0, u "()V"), (1, .class_ 10), (1, u "java/util/AbstractMap"), (42, .class_ 54), (0, u "java/util/Map"), (9, u "keySet"), (0, u "Ljava/util/Set;"), (0, .class_ 67), (0, u "java/util/AbstractMap$1"), (5, u "values"), (0, u "Ljava/util/Collection;"), (0, .class_ 76), (0, u "java/util/AbstractMap$2"), (104, .class_ 182), (0, u "java/util/AbstractMap$ViewCollection"), (0, .class_ 184), (0, u "java/util/AbstractMap$SimpleImmutableEntry"), (0, .class_ 186), (0, u "java/util/AbstractMap$SimpleEntry"), (0, .class_ 188), (0, u "java/util/AbstractMap$2$1"), (0, .class_ 190), (0, u "java/util/AbstractMap$1$1")] 5

def k24c0 : Code := { maxStack := 1, maxLocals := 1, code := jdk_71_method_1_code, exceptionTable := #[], attributes := #[] }
def k24m0 : Method := { name := "<init>", desc := "()V", sig := { parameters := [], returnType := none }, accessFlags := 4, code := some k24c0 }
/-- java/util/AbstractMap -/
def k24 : Class := { plain "java/util/AbstractMap" (some 0) with
  accessFlags := 1057
  interfaces := #[23]
  cf := some (fileOf pool24 8 #[.nestMembers #[181, 183, 185, 75, 187, 66, 189]] #[{ accessFlags := 4, nameIndex := 5, descriptorIndex := 6, attributes := #[] }] 1057 2 #[53] #[{ accessFlags := 128, nameIndex := 64, descriptorIndex := 65, attributes := #[] }, { accessFlags := 128, nameIndex := 73, descriptorIndex := 74, attributes := #[] }])
  fields := #[{ name := "keySet", type := (.object "java/util/Set"), accessFlags := 128, slot := 0, constantValue := 0 }, { name := "values", type := (.object "java/util/Collection"), accessFlags := 128, slot := 1, constantValue := 0 }]
  methods := #[k24m0]
  instanceTypes := #[(.object "java/util/Set"), (.object "java/util/Collection")]
  staticTypes := #[]
  resolved := Array.replicate 196 none
  statics := none }

def pool25 : Array CpInfo := pool [(40, .class_ 41), (0, u "java/util/HashMap"), (1, .methodref 44 45), (0, .class_ 46), (0, .nameAndType 47 48), (0, u "java/util/AbstractMap"), (0, u "<init>"), (0, u "()V"), (32, .fieldref 40 82), (0, .nameAndType 83 84), (0, u "loadFactor"), (0, u "F"), (5, u "threshold"), (0, u "I"), (0, .float 1061158912), (8, .class_ 103), (1, u "java/util/Map"), (0, u "size"), (2, u "table"), (0, u "[Ljava/util/HashMap$Node;"), (14, u "entrySet"), (39, .class_ 165), (1, u "java/util/HashMap$Node"), (14, .class_ 181), (0, u "java/util/HashMap$TreeNode"), (22, u "modCount"), (37, u "Ljava/util/Set;"), (0, .class_ 244), (0, u "java/util/HashMap$KeySet"), (18, .class_ 264), (0, u "java/util/HashMap$Values"), (3, .class_ 269), (0, u "java/util/HashMap$EntrySet"), (76, .class_ 348), (1, u "java/util/HashMap$UnsafeHolder"), (43, .class_ 393), (0, u "java/lang/Cloneable"), (0, .class_ 395), (0, u "java/io/Serializable"), (0, u "serialVersionUID"), (0, u "J"), (3, u "DEFAULT_INITIAL_CAPACITY"), (1, u "MAXIMUM_CAPACITY"), (0, u "DEFAULT_LOAD_FACTOR"), (0, u "TREEIFY_THRESHOLD"), (1, u "UNTREEIFY_THRESHOLD"), (1, u "MIN_TREEIFY_CAPACITY"), (186, .class_ 597), (0, u "java/util/HashMap$EntrySpliterator"), (0, .class_ 599), (0, u "java/util/HashMap$ValueSpliterator"), (0, .class_ 601), (0, u "java/util/HashMap$KeySpliterator"), (0, .class_ 603), (0, u "java/util/HashMap$HashMapSpliterator"), (0, .class_ 605), (0, u "java/util/HashMap$EntryIterator"), (0, .class_ 607), (0, u "java/util/HashMap$ValueIterator"), (0, .class_ 609), (0, u "java/util/HashMap$KeyIterator"), (0, .class_ 611), (0, u "java/util/HashMap$HashIterator")] 17

def k25c0 : Code := { maxStack := 2, maxLocals := 1, code := jdk_69_method_7_code, exceptionTable := #[], attributes := #[] }
def k25m0 : Method := { name := "<init>", desc := "()V", sig := { parameters := [], returnType := none }, accessFlags := 1, code := some k25c0 }
/-- java/util/HashMap -/
def k25 : Class := { plain "java/util/HashMap" (some 24) with
  accessFlags := 33
  interfaces := #[23, 18, 4]
  cf := some (fileOf pool25 40 #[.nestMembers #[180, 596, 598, 600, 602, 604, 606, 608, 610, 346, 268, 263, 243, 163]] #[{ accessFlags := 1, nameIndex := 47, descriptorIndex := 48, attributes := #[] }] 33 44 #[101, 392, 394] #[{ accessFlags := 26, nameIndex := 396, descriptorIndex := 397, attributes := #[] }, { accessFlags := 24, nameIndex := 401, descriptorIndex := 91, attributes := #[] }, { accessFlags := 24, nameIndex := 403, descriptorIndex := 91, attributes := #[] }, { accessFlags := 24, nameIndex := 404, descriptorIndex := 84, attributes := #[] }, { accessFlags := 24, nameIndex := 405, descriptorIndex := 91, attributes := #[] }, { accessFlags := 24, nameIndex := 407, descriptorIndex := 91, attributes := #[] }, { accessFlags := 24, nameIndex := 409, descriptorIndex := 91, attributes := #[] }, { accessFlags := 128, nameIndex := 107, descriptorIndex := 108, attributes := #[] }, { accessFlags := 128, nameIndex := 123, descriptorIndex := 242, attributes := #[] }, { accessFlags := 128, nameIndex := 104, descriptorIndex := 91, attributes := #[] }, { accessFlags := 128, nameIndex := 204, descriptorIndex := 91, attributes := #[] }, { accessFlags := 0, nameIndex := 90, descriptorIndex := 91, attributes := #[] }, { accessFlags := 16, nameIndex := 83, descriptorIndex := 84, attributes := #[] }])
  fields := #[{ name := "serialVersionUID", type := .long, accessFlags := 26, slot := 0, constantValue := 0 }, { name := "DEFAULT_INITIAL_CAPACITY", type := .int, accessFlags := 24, slot := 1, constantValue := 0 }, { name := "MAXIMUM_CAPACITY", type := .int, accessFlags := 24, slot := 2, constantValue := 0 }, { name := "DEFAULT_LOAD_FACTOR", type := .float, accessFlags := 24, slot := 3, constantValue := 0 }, { name := "TREEIFY_THRESHOLD", type := .int, accessFlags := 24, slot := 4, constantValue := 0 }, { name := "UNTREEIFY_THRESHOLD", type := .int, accessFlags := 24, slot := 5, constantValue := 0 }, { name := "MIN_TREEIFY_CAPACITY", type := .int, accessFlags := 24, slot := 6, constantValue := 0 }, { name := "table", type := (.array (.object "java/util/HashMap$Node")), accessFlags := 128, slot := 2, constantValue := 0 }, { name := "entrySet", type := (.object "java/util/Set"), accessFlags := 128, slot := 3, constantValue := 0 }, { name := "size", type := .int, accessFlags := 128, slot := 4, constantValue := 0 }, { name := "modCount", type := .int, accessFlags := 128, slot := 5, constantValue := 0 }, { name := "threshold", type := .int, accessFlags := 0, slot := 6, constantValue := 0 }, { name := "loadFactor", type := .float, accessFlags := 16, slot := 7, constantValue := 0 }]
  methods := #[k25m0]
  instanceTypes := #[(.object "java/util/Set"), (.object "java/util/Collection"), (.array (.object "java/util/HashMap$Node")), (.object "java/util/Set"), .int, .int, .int, .float]
  staticTypes := #[.long, .int, .int, .float, .int, .int, .int]
  resolved := Array.replicate 629 none
  statics := none }

def pool26 : Array CpInfo := pool [(26, .class_ 27), (0, u "java/lang/Object"), (5, .class_ 34), (0, u "java/util/Set"), (1, .class_ 38), (1, u "java/util/Collection")] 105

/-- java/util/Set -/
def k26 : Class := { plain "java/util/Set" (some 0) with
  accessFlags := 1537
  interfaces := #[12]
  cf := some (fileOf pool26 33 #[] #[] 1537 26 #[36] #[])
  fields := #[]
  methods := #[]
  instanceTypes := #[]
  staticTypes := #[]
  resolved := Array.replicate 144 none
  statics := none }

def pool27 : Array CpInfo := pool [(1, .methodref 2 3), (0, .class_ 4), (0, .nameAndType 5 6), (0, u "java/util/AbstractCollection"), (0, u "<init>"), (0, u "()V"), (0, .class_ 8), (0, u "java/util/Set"), (7, .class_ 17), (0, u "java/util/AbstractSet")] 78

def k27c0 : Code := { maxStack := 1, maxLocals := 1, code := jdk_91_method_1_code, exceptionTable := #[], attributes := #[] }
def k27m0 : Method := { name := "<init>", desc := "()V", sig := { parameters := [], returnType := none }, accessFlags := 4, code := some k27c0 }
/-- java/util/AbstractSet -/
def k27 : Class := { plain "java/util/AbstractSet" (some 13) with
  accessFlags := 1057
  interfaces := #[26]
  cf := some (fileOf pool27 16 #[] #[{ accessFlags := 4, nameIndex := 5, descriptorIndex := 6, attributes := #[] }] 1057 2 #[7] #[])
  fields := #[]
  methods := #[k27m0]
  instanceTypes := #[]
  staticTypes := #[]
  resolved := Array.replicate 96 none
  statics := none }

def pool28 : Array CpInfo := pool [(1, .methodref 2 3), (0, .class_ 4), (0, .nameAndType 5 6), (0, u "java/util/AbstractSet"), (0, u "<init>"), (0, u "()V"), (0, .class_ 8), (0, u "java/util/HashMap"), (0, .methodref 7 3), (0, .fieldref 11 12), (0, .class_ 13), (0, .nameAndType 14 15), (0, u "java/util/HashSet"), (0, u "map"), (0, u "Ljava/util/HashMap;"), (34, .class_ 52), (1, u "java/util/Set"), (13, u "PRESENT"), (0, u "Ljava/lang/Object;"), (158, .class_ 227), (0, u "java/lang/Cloneable"), (0, .class_ 229), (0, u "java/io/Serializable"), (0, u "serialVersionUID"), (0, u "J")] 71

def k28c0 : Code := { maxStack := 3, maxLocals := 1, code := jdk_93_method_1_code, exceptionTable := #[], attributes := #[] }
def k28m0 : Method := { name := "<init>", desc := "()V", sig := { parameters := [], returnType := none }, accessFlags := 1, code := some k28c0 }
/-- java/util/HashSet -/
def k28 : Class := { plain "java/util/HashSet" (some 27) with
  accessFlags := 33
  interfaces := #[26, 18, 4]
  cf := some (fileOf pool28 11 #[] #[{ accessFlags := 1, nameIndex := 5, descriptorIndex := 6, attributes := #[] }] 33 2 #[50, 226, 228] #[{ accessFlags := 24, nameIndex := 230, descriptorIndex := 231, attributes := #[] }, { accessFlags := 128, nameIndex := 14, descriptorIndex := 15, attributes := #[] }, { accessFlags := 24, nameIndex := 66, descriptorIndex := 67, attributes := #[] }])
  fields := #[{ name := "serialVersionUID", type := .long, accessFlags := 24, slot := 0, constantValue := 0 }, { name := "map", type := (.object "java/util/HashMap"), accessFlags := 128, slot := 0, constantValue := 0 }, { name := "PRESENT", type := (.object "java/lang/Object"), accessFlags := 24, slot := 1, constantValue := 0 }]
  methods := #[k28m0]
  instanceTypes := #[(.object "java/util/HashMap")]
  staticTypes := #[.long, (.object "java/lang/Object")]
  resolved := Array.replicate 303 none
  statics := none }

def pool29 : Array CpInfo := pool [(2, .class_ 4), (1, u "java/lang/Object"), (0, u "<init>"), (0, u "()V"), (1, .class_ 10), (1, u "java/lang/System"), (0, u "allowSecurityManager"), (0, u "I"), (16, u "cons"), (0, u "Ljava/io/Console;"), (77, .class_ 110), (1, u "java/lang/System$CallersHolder"), (43, u "initialErrStream"), (0, u "Ljava/io/PrintStream;"), (19, u "security"), (0, u "Ljava/lang/SecurityManager;"), (31, .class_ 209), (0, u "java/lang/System$1"), (7, u "props"), (0, u "Ljava/util/Properties;"), (2, u "lineSeparator"), (0, u "Ljava/lang/String;"), (96, .class_ 321), (1, u "java/lang/System$LoggerFinder"), (5, .class_ 328), (0, u "java/lang/System$Logger"), (67, u "err"), (2, u "out"), (91, u "notSupportedJnuEncoding"), (15, u "in"), (17, u "initialIn"), (0, u "Ljava/io/InputStream;"), (35, u "bootLayer"), (0, u "Ljava/lang/ModuleLayer;"), (99, .class_ 664), (0, u "java/lang/System$2"), (9, u "NEVER"), (2, u "MAYBE"), (49, u "arraycopy"), (0, u "(Ljava/lang/Object;ILjava/lang/Object;II)V"), (72, .class_ 802), (0, u "java/lang/System$Logger$Level")] 31

def k29m0 : Method := { name := "<init>", desc := "()V", sig := { parameters := [], returnType := none }, accessFlags := 2, code := none }
def k29m1 : Method := { name := "arraycopy", desc := "(Ljava/lang/Object;ILjava/lang/Object;II)V", sig := { parameters := [(.object "java/lang/Object"), .int, (.object "java/lang/Object"), .int, .int], returnType := none }, accessFlags := 265, code := none }
/-- java/lang/System -/
def k29 : Class := { plain "java/lang/System" (some 0) with
  accessFlags := 49
  interfaces := #[]
  cf := some (fileOf pool29 8 #[.nestMembers #[319, 327, 801, 108, 663, 208]] #[{ accessFlags := 2, nameIndex := 5, descriptorIndex := 6, attributes := #[] }, { accessFlags := 265, nameIndex := 727, descriptorIndex := 728, attributes := #[] }] 49 2 #[] #[{ accessFlags := 25, nameIndex := 507, descriptorIndex := 526, attributes := #[] }, { accessFlags := 25, nameIndex := 399, descriptorIndex := 155, attributes := #[] }, { accessFlags := 25, nameIndex := 396, descriptorIndex := 155, attributes := #[] }, { accessFlags := 10, nameIndex := 525, descriptorIndex := 526, attributes := #[] }, { accessFlags := 26, nameIndex := 674, descriptorIndex := 12, attributes := #[] }, { accessFlags := 26, nameIndex := 677, descriptorIndex := 12, attributes := #[] }, { accessFlags := 10, nameIndex := 11, descriptorIndex := 12, attributes := #[] }, { accessFlags := 74, nameIndex := 175, descriptorIndex := 176, attributes := #[] }, { accessFlags := 10, nameIndex := 491, descriptorIndex := 222, attributes := #[] }, { accessFlags := 74, nameIndex := 29, descriptorIndex := 30, attributes := #[] }, { accessFlags := 74, nameIndex := 154, descriptorIndex := 155, attributes := #[] }, { accessFlags := 10, nameIndex := 217, descriptorIndex := 218, attributes := #[] }, { accessFlags := 10, nameIndex := 221, descriptorIndex := 222, attributes := #[] }, { accessFlags := 8, nameIndex := 562, descriptorIndex := 563, attributes := #[] }])
  fields := #[{ name := "in", type := (.object "java/io/InputStream"), accessFlags := 25, slot := 0, constantValue := 0 }, { name := "out", type := (.object "java/io/PrintStream"), accessFlags := 25, slot := 1, constantValue := 0 }, { name := "err", type := (.object "java/io/PrintStream"), accessFlags := 25, slot := 2, constantValue := 0 }, { name := "initialIn", type := (.object "java/io/InputStream"), accessFlags := 10, slot := 3, constantValue := 0 }, { name := "NEVER", type := .int, accessFlags := 26, slot := 4, constantValue := 0 }, { name := "MAYBE", type := .int, accessFlags := 26, slot := 5, constantValue := 0 }, { name := "allowSecurityManager", type := .int, accessFlags := 10, slot := 6, constantValue := 0 }, { name := "security", type := (.object "java/lang/SecurityManager"), accessFlags := 74, slot := 7, constantValue := 0 }, { name := "notSupportedJnuEncoding", type := (.object "java/lang/String"), accessFlags := 10, slot := 8, constantValue := 0 }, { name := "cons", type := (.object "java/io/Console"), accessFlags := 74, slot := 9, constantValue := 0 }, { name := "initialErrStream", type := (.object "java/io/PrintStream"), accessFlags := 74, slot := 10, constantValue := 0 }, { name := "props", type := (.object "java/util/Properties"), accessFlags := 10, slot := 11, constantValue := 0 }, { name := "lineSeparator", type := (.object "java/lang/String"), accessFlags := 10, slot := 12, constantValue := 0 }, { name := "bootLayer", type := (.object "java/lang/ModuleLayer"), accessFlags := 8, slot := 13, constantValue := 0 }]
  methods := #[k29m0, k29m1]
  instanceTypes := #[]
  staticTypes := #[(.object "java/io/InputStream"), (.object "java/io/PrintStream"), (.object "java/io/PrintStream"), (.object "java/io/InputStream"), .int, .int, .int, (.object "java/lang/SecurityManager"), (.object "java/lang/String"), (.object "java/io/Console"), (.object "java/io/PrintStream"), (.object "java/util/Properties"), (.object "java/lang/String"), (.object "java/lang/ModuleLayer")]
  resolved := Array.replicate 834 none
  statics := none }

def pool30 : Array CpInfo := pool [(2, .class_ 4), (1, u "java/lang/Object"), (0, u "<init>"), (0, u "()V"), (7, .class_ 16), (1, u "java/util/Arrays"), (57, .class_ 76), (1, u "java/util/Arrays$NaturalOrder"), (32, u "()Ljava/lang/Object;"), (3, .class_ 115), (1, u "java/util/Arrays$LegacyMergeSort"), (1, u "Z"), (10, .nameAndType 129 109), (0, u "clone"), (9, u "copyOfRange"), (10, .methodref 151 152), (0, .class_ 153), (0, .nameAndType 154 155), (0, u "java/lang/System"), (0, u "arraycopy"), (0, u "(Ljava/lang/Object;ILjava/lang/Object;II)V"), (146, u "copyOf"), (1, .methodref 305 306), (0, .class_ 307), (0, .nameAndType 308 309), (0, u "java/lang/Math"), (0, u "min"), (0, u "(II)I"), (0, .methodref 311 128), (0, .class_ 312), (0, u "[B"), (26, .methodref 14 340), (0, .nameAndType 341 342), (0, u "copyOfRangeByte"), (0, u "([BII)[B"), (0, .methodref 14 344), (0, .nameAndType 345 346), (0, u "checkLength"), (0, u "(II)V"), (28, .class_ 376), (0, u "java/util/Arrays$ArrayList"), (68, u "$assertionsDisabled"), (269, u "MIN_ARRAY_SORT_GRAN"), (0, u "I"), (2, u "INSERTIONSORT_THRESHOLD"), (149, u "([BI)[B"), (105, .class_ 976), (0, u "java/util/Arrays$ArrayItr")] 52

def k30m0 : Method := { name := "<init>", desc := "()V", sig := { parameters := [], returnType := none }, accessFlags := 2, code := none }
def k30c1 : Code := { maxStack := 6, maxLocals := 3, code := jdk_65_method_121_code, exceptionTable := #[], attributes := #[] }
def k30m1 : Method := { name := "copyOf", desc := "([BI)[B", sig := { parameters := [(.array .byte), .int], returnType := some (.array .byte) }, accessFlags := 9, code := some k30c1 }
def k30c2 : Code := { maxStack := 4, maxLocals := 2, code := jdk_65_method_131_code, exceptionTable := #[], attributes := #[] }
def k30m2 : Method := { name := "checkLength", desc := "(II)V", sig := { parameters := [.int, .int], returnType := none }, accessFlags := 10, code := some k30c2 }
def k30c3 : Code := { maxStack := 3, maxLocals := 3, code := jdk_65_method_132_code, exceptionTable := #[], attributes := #[] }
def k30m3 : Method := { name := "copyOfRange", desc := "([BII)[B", sig := { parameters := [(.array .byte), .int, .int], returnType := some (.array .byte) }, accessFlags := 9, code := some k30c3 }
def k30c4 : Code := { maxStack := 6, maxLocals := 5, code := jdk_65_method_133_code, exceptionTable := #[], attributes := #[] }
def k30m4 : Method := { name := "copyOfRangeByte", desc := "([BII)[B", sig := { parameters := [(.array .byte), .int, .int], returnType := some (.array .byte) }, accessFlags := 10, code := some k30c4 }
/-- java/util/Arrays -/
def k30 : Class := { plain "java/util/Arrays" (some 0) with
  accessFlags := 49
  interfaces := #[]
  cf := some (fileOf pool30 14 #[.nestMembers #[975, 375, 113, 74]] #[{ accessFlags := 2, nameIndex := 5, descriptorIndex := 6, attributes := #[] }, { accessFlags := 9, nameIndex := 302, descriptorIndex := 869, attributes := #[] }, { accessFlags := 10, nameIndex := 345, descriptorIndex := 346, attributes := #[] }, { accessFlags := 9, nameIndex := 139, descriptorIndex := 342, attributes := #[] }, { accessFlags := 10, nameIndex := 341, descriptorIndex := 342, attributes := #[] }] 49 2 #[] #[{ accessFlags := 26, nameIndex := 715, descriptorIndex := 716, attributes := #[] }, { accessFlags := 26, nameIndex := 719, descriptorIndex := 716, attributes := #[] }, { accessFlags := 4120, nameIndex := 445, descriptorIndex := 117, attributes := #[] }])
  fields := #[{ name := "MIN_ARRAY_SORT_GRAN", type := .int, accessFlags := 26, slot := 0, constantValue := 0 }, { name := "INSERTIONSORT_THRESHOLD", type := .int, accessFlags := 26, slot := 1, constantValue := 0 }, { name := "$assertionsDisabled", type := .boolean, accessFlags := 4120, slot := 2, constantValue := 0 }]
  methods := #[k30m0, k30m1, k30m2, k30m3, k30m4]
  instanceTypes := #[]
  staticTypes := #[.int, .int, .boolean]
  resolved := Array.replicate 1029 none
  statics := none }

def pool31 : Array CpInfo := pool [(1, .class_ 2), (0, u "java/lang/Math"), (1, .class_ 6), (1, u "java/lang/Object"), (0, u "<init>"), (0, u "()V"), (89, .class_ 100), (1, u "java/lang/Math$RandomNumberGeneratorHolder"), (71, u "negativeZeroFloatBits"), (0, u "J"), (2, u "negativeZeroDoubleBits"), (21, u "max"), (2, u "min"), (43, u "$assertionsDisabled"), (0, u "Z"), (88, u "(II)I"), (2, u "twoToTheDoubleScaleDown"), (0, u "D"), (4, u "twoToTheDoubleScaleUp"), (9, u "E"), (3, u "PI"), (2, u "TAU"), (2, u "DEGREES_TO_RADIANS"), (0, u "RADIANS_TO_DEGREES")] 94

def k31m0 : Method := { name := "<init>", desc := "()V", sig := { parameters := [], returnType := none }, accessFlags := 2, code := none }
def k31c1 : Code := { maxStack := 2, maxLocals := 2, code := jdk_29_method_65_code, exceptionTable := #[], attributes := #[] }
def k31m1 : Method := { name := "max", desc := "(II)I", sig := { parameters := [.int, .int], returnType := some .int }, accessFlags := 9, code := some k31c1 }
def k31c2 : Code := { maxStack := 2, maxLocals := 2, code := jdk_29_method_69_code, exceptionTable := #[], attributes := #[] }
def k31m2 : Method := { name := "min", desc := "(II)I", sig := { parameters := [.int, .int], returnType := some .int }, accessFlags := 9, code := some k31c2 }
/-- java/lang/Math -/
def k31 : Class := { plain "java/lang/Math" (some 0) with
  accessFlags := 49
  interfaces := #[]
  cf := some (fileOf pool31 1 #[.nestMembers #[98]] #[{ accessFlags := 2, nameIndex := 7, descriptorIndex := 8, attributes := #[] }, { accessFlags := 9, nameIndex := 198, descriptorIndex := 335, attributes := #[] }, { accessFlags := 9, nameIndex := 201, descriptorIndex := 335, attributes := #[] }] 49 4 #[] #[{ accessFlags := 25, nameIndex := 354, descriptorIndex := 339, attributes := #[] }, { accessFlags := 25, nameIndex := 358, descriptorIndex := 339, attributes := #[] }, { accessFlags := 25, nameIndex := 361, descriptorIndex := 339, attributes := #[] }, { accessFlags := 26, nameIndex := 364, descriptorIndex := 339, attributes := #[] }, { accessFlags := 26, nameIndex := 365, descriptorIndex := 339, attributes := #[] }, { accessFlags := 26, nameIndex := 172, descriptorIndex := 173, attributes := #[] }, { accessFlags := 26, nameIndex := 176, descriptorIndex := 173, attributes := #[] }, { accessFlags := 8, nameIndex := 344, descriptorIndex := 339, attributes := #[] }, { accessFlags := 8, nameIndex := 338, descriptorIndex := 339, attributes := #[] }, { accessFlags := 4120, nameIndex := 245, descriptorIndex := 246, attributes := #[] }])
  fields := #[{ name := "E", type := .double, accessFlags := 25, slot := 0, constantValue := 0 }, { name := "PI", type := .double, accessFlags := 25, slot := 1, constantValue := 0 }, { name := "TAU", type := .double, accessFlags := 25, slot := 2, constantValue := 0 }, { name := "DEGREES_TO_RADIANS", type := .double, accessFlags := 26, slot := 3, constantValue := 0 }, { name := "RADIANS_TO_DEGREES", type := .double, accessFlags := 26, slot := 4, constantValue := 0 }, { name := "negativeZeroFloatBits", type := .long, accessFlags := 26, slot := 5, constantValue := 0 }, { name := "negativeZeroDoubleBits", type := .long, accessFlags := 26, slot := 6, constantValue := 0 }, { name := "twoToTheDoubleScaleUp", type := .double, accessFlags := 8, slot := 7, constantValue := 0 }, { name := "twoToTheDoubleScaleDown", type := .double, accessFlags := 8, slot := 8, constantValue := 0 }, { name := "$assertionsDisabled", type := .boolean, accessFlags := 4120, slot := 9, constantValue := 0 }]
  methods := #[k31m0, k31m1, k31m2]
  instanceTypes := #[]
  staticTypes := #[.double, .double, .double, .double, .double, .long, .long, .double, .double, .boolean]
  resolved := Array.replicate 460 none
  statics := none }

def pool32 : Array CpInfo := pool [(1, .class_ 2), (0, u "java/lang/String"), (1, .class_ 6), (1, u "java/lang/Object"), (0, u "<init>"), (0, u "()V"), (0, .methodref 1 10), (0, .nameAndType 11 12), (0, u "checkIndex"), (0, u "(II)V"), (1, .class_ 16), (1, u "java/lang/StringLatin1"), (36, u "([BI)C"), (36, u "canEncode"), (14, u "(C)Z"), (15, u "$assertionsDisabled"), (0, u "Z"), (98, .class_ 223), (1, u "java/lang/StringLatin1$LinesSpliterator"), (28, u "charAt"), (127, u "toBytes"), (1, u "(C)[B"), (7, .class_ 391), (0, u "java/lang/StringLatin1$CharsSpliterator")] 3

def k32m0 : Method := { name := "<init>", desc := "()V", sig := { parameters := [], returnType := none }, accessFlags := 0, code := none }
def k32c1 : Code := { maxStack := 2, maxLocals := 2, code := jdk_43_method_2_code, exceptionTable := #[], attributes := #[] }
def k32m1 : Method := { name := "charAt", desc := "([BI)C", sig := { parameters := [(.array .byte), .int], returnType := some .char }, accessFlags := 9, code := some k32c1 }
def k32c2 : Code := { maxStack := 2, maxLocals := 1, code := jdk_43_method_3_code, exceptionTable := #[], attributes := #[] }
def k32m2 : Method := { name := "canEncode", desc := "(C)Z", sig := { parameters := [.char], returnType := some .boolean }, accessFlags := 9, code := some k32c2 }
def k32c3 : Code := { maxStack := 4, maxLocals := 1, code := jdk_43_method_46_code, exceptionTable := #[], attributes := #[] }
def k32m3 : Method := { name := "toBytes", desc := "(C)[B", sig := { parameters := [.char], returnType := some (.array .byte) }, accessFlags := 9, code := some k32c3 }
/-- java/lang/StringLatin1 -/
def k32 : Class := { plain "java/lang/StringLatin1" (some 0) with
  accessFlags := 48
  interfaces := #[]
  cf := some (fileOf pool32 14 #[.nestMembers #[390, 221]] #[{ accessFlags := 0, nameIndex := 7, descriptorIndex := 8, attributes := #[] }, { accessFlags := 9, nameIndex := 252, descriptorIndex := 53, attributes := #[] }, { accessFlags := 9, nameIndex := 90, descriptorIndex := 105, attributes := #[] }, { accessFlags := 9, nameIndex := 380, descriptorIndex := 382, attributes := #[] }] 48 4 #[] #[{ accessFlags := 4120, nameIndex := 121, descriptorIndex := 122, attributes := #[] }])
  fields := #[{ name := "$assertionsDisabled", type := .boolean, accessFlags := 4120, slot := 0, constantValue := 0 }]
  methods := #[k32m0, k32m1, k32m2, k32m3]
  instanceTypes := #[]
  staticTypes := #[.boolean]
  resolved := Array.replicate 395 none
  statics := none }

def pool33 : Array CpInfo := pool [(2, .class_ 4), (1, u "java/lang/Object"), (0, u "<init>"), (0, u "()V"), (17, .class_ 26), (1, u "jdk/internal/util/Preconditions"), (6, u "checkIndex"), (21, .class_ 56), (0, u "jdk/internal/util/Preconditions$4"), (57, .class_ 115), (0, u "jdk/internal/util/Preconditions$1"), (7, u "SIOOBE_FORMATTER"), (0, u "Ljava/util/function/BiFunction;"), (0, .class_ 126), (0, u "jdk/internal/util/Preconditions$2"), (3, u "AIOOBE_FORMATTER"), (0, .class_ 132), (0, u "jdk/internal/util/Preconditions$3"), (3, u "IOOBE_FORMATTER"), (41, u "(IILjava/util/function/BiFunction;)I")] 15

def k33m0 : Method := { name := "<init>", desc := "()V", sig := { parameters := [], returnType := none }, accessFlags := 1, code := none }
def k33c1 : Code := { maxStack := 3, maxLocals := 3, code := jdk_41_method_11_code, exceptionTable := #[], attributes := #[] }
def k33m1 : Method := { name := "checkIndex", desc := "(IILjava/util/function/BiFunction;)I", sig := { parameters := [.int, .int, (.object "java/util/function/BiFunction")], returnType := some .int }, accessFlags := 9, code := some k33c1 }
/-- jdk/internal/util/Preconditions -/
def k33 : Class := { plain "jdk/internal/util/Preconditions" (some 0) with
  accessFlags := 33
  interfaces := #[]
  cf := some (fileOf pool33 24 #[.nestMembers #[55, 131, 125, 114]] #[{ accessFlags := 1, nameIndex := 5, descriptorIndex := 6, attributes := #[] }, { accessFlags := 9, nameIndex := 33, descriptorIndex := 178, attributes := #[] }] 33 2 #[] #[{ accessFlags := 25, nameIndex := 123, descriptorIndex := 124, attributes := #[] }, { accessFlags := 25, nameIndex := 130, descriptorIndex := 124, attributes := #[] }, { accessFlags := 25, nameIndex := 136, descriptorIndex := 124, attributes := #[] }])
  fields := #[{ name := "SIOOBE_FORMATTER", type := (.object "java/util/function/BiFunction"), accessFlags := 25, slot := 0, constantValue := 0 }, { name := "AIOOBE_FORMATTER", type := (.object "java/util/function/BiFunction"), accessFlags := 25, slot := 1, constantValue := 0 }, { name := "IOOBE_FORMATTER", type := (.object "java/util/function/BiFunction"), accessFlags := 25, slot := 2, constantValue := 0 }]
  methods := #[k33m0, k33m1]
  instanceTypes := #[]
  staticTypes := #[(.object "java/util/function/BiFunction"), (.object "java/util/function/BiFunction"), (.object "java/util/function/BiFunction")]
  resolved := Array.replicate 194 none
  statics := some 3 }

def pool34 : Array CpInfo := pool [(6, .class_ 8), (1, u "java/lang/Object"), (0, u "<init>"), (0, u "()V"), (1, .class_ 14), (1, u "java/lang/StringUTF16"), (31, u "$assertionsDisabled"), (0, u "Z"), (13, u "HI_BYTE_SHIFT"), (0, u "I"), (2, u "LO_BYTE_SHIFT"), (49, .methodref 12 116), (0, .nameAndType 117 118), (0, u "compress"), (0, u "([CI[BII)I"), (3, u "([CII)[B"), (138, u "coderFromArrayLen"), (0, u "([BI)B"), (106, .class_ 371), (1, u "java/lang/StringUTF16$LinesSpliterator"), (58, u "MAX_LENGTH"), (196, .class_ 628), (0, u "java/lang/StringUTF16$CodePointsSpliterator"), (0, .class_ 630), (0, u "java/lang/StringUTF16$CharsSpliterator")] 4

def k34m0 : Method := { name := "<init>", desc := "()V", sig := { parameters := [], returnType := none }, accessFlags := 0, code := none }
def k34c1 : Code := { maxStack := 2, maxLocals := 2, code := jdk_52_method_15_code, exceptionTable := #[], attributes := #[] }
def k34m1 : Method := { name := "coderFromArrayLen", desc := "([BI)B", sig := { parameters := [(.array .byte), .int], returnType := some .byte }, accessFlags := 8, code := some k34c1 }
def k34c2 : Code := { maxStack := 5, maxLocals := 6, code := jdk_52_method_16_code, exceptionTable := #[], attributes := #[] }
def k34m2 : Method := { name := "compress", desc := "([CII)[B", sig := { parameters := [(.array .char), .int, .int], returnType := some (.array .byte) }, accessFlags := 9, code := some k34c2 }
def k34c3 : Code := { maxStack := 3, maxLocals := 7, code := jdk_52_method_21_code, exceptionTable := #[], attributes := #[] }
def k34m3 : Method := { name := "compress", desc := "([CI[BII)I", sig := { parameters := [(.array .char), .int, (.array .byte), .int, .int], returnType := some .int }, accessFlags := 9, code := some k34c3 }
/-- java/lang/StringUTF16 -/
def k34 : Class := { plain "java/lang/StringUTF16" (some 0) with
  accessFlags := 48
  interfaces := #[]
  cf := some (fileOf pool34 12 #[.nestMembers #[627, 629, 369]] #[{ accessFlags := 0, nameIndex := 9, descriptorIndex := 10, attributes := #[] }, { accessFlags := 8, nameIndex := 261, descriptorIndex := 262, attributes := #[] }, { accessFlags := 9, nameIndex := 117, descriptorIndex := 122, attributes := #[] }, { accessFlags := 9, nameIndex := 117, descriptorIndex := 118, attributes := #[] }] 48 6 #[] #[{ accessFlags := 26, nameIndex := 61, descriptorIndex := 62, attributes := #[] }, { accessFlags := 26, nameIndex := 65, descriptorIndex := 62, attributes := #[] }, { accessFlags := 24, nameIndex := 430, descriptorIndex := 62, attributes := #[] }, { accessFlags := 4120, nameIndex := 46, descriptorIndex := 47, attributes := #[] }])
  fields := #[{ name := "HI_BYTE_SHIFT", type := .int, accessFlags := 26, slot := 0, constantValue := 0 }, { name := "LO_BYTE_SHIFT", type := .int, accessFlags := 26, slot := 1, constantValue := 0 }, { name := "MAX_LENGTH", type := .int, accessFlags := 24, slot := 2, constantValue := 0 }, { name := "$assertionsDisabled", type := .boolean, accessFlags := 4120, slot := 3, constantValue := 0 }]
  methods := #[k34m0, k34m1, k34m2, k34m3]
  instanceTypes := #[]
  staticTypes := #[.int, .int, .int, .boolean]
  resolved := Array.replicate 635 none
  statics := none }

def pool35 : Array CpInfo := pool [(9, u "<init>"), (6, .class_ 18), (1, u "java/lang/Object"), (0, u "()V"), (1, .class_ 23), (1, u "jdk/internal/util/ArraysSupport"), (0, u "LOG2_ARRAY_LONG_INDEX_SCALE"), (0, u "I"), (2, u "U"), (0, u "Ljdk/internal/misc/Unsafe;"), (8, u "BIG_ENDIAN"), (0, u "Z"), (8, u "LOG2_BYTE_BIT_SIZE"), (4, u "LOG2_ARRAY_INT_INDEX_SCALE"), (54, u "JLA"), (0, u "Ljdk/internal/access/JavaLangAccess;"), (11, u "LOG2_ARRAY_BOOLEAN_INDEX_SCALE"), (9, u "LOG2_ARRAY_BYTE_INDEX_SCALE"), (5, u "LOG2_ARRAY_CHAR_INDEX_SCALE"), (5, u "LOG2_ARRAY_SHORT_INDEX_SCALE"), (18, u "LOG2_ARRAY_FLOAT_INDEX_SCALE"), (24, u "LOG2_ARRAY_DOUBLE_INDEX_SCALE"), (6, .methodref 195 196), (0, .class_ 197), (0, .nameAndType 198 199), (0, u "java/lang/Math"), (0, u "max"), (0, u "(II)I"), (0, .integer 2147483639), (76, u "T_BOOLEAN"), (2, u "T_CHAR"), (1, u "T_FLOAT"), (1, u "T_DOUBLE"), (1, u "T_BYTE"), (1, u "T_SHORT"), (1, u "T_INT"), (1, u "T_LONG"), (1, u "SOFT_MAX_ARRAY_LENGTH"), (56, u "newLength"), (0, u "(III)I")] 25

def k35m0 : Method := { name := "<init>", desc := "()V", sig := { parameters := [], returnType := none }, accessFlags := 2, code := none }
def k35c1 : Code := { maxStack := 3, maxLocals := 4, code := jdk_48_method_27_code, exceptionTable := #[], attributes := #[] }
def k35m1 : Method := { name := "newLength", desc := "(III)I", sig := { parameters := [.int, .int, .int], returnType := some .int }, accessFlags := 9, code := some k35c1 }
/-- jdk/internal/util/ArraysSupport -/
def k35 : Class := { plain "jdk/internal/util/ArraysSupport" (some 0) with
  accessFlags := 33
  interfaces := #[]
  cf := some (fileOf pool35 21 #[] #[{ accessFlags := 2, nameIndex := 9, descriptorIndex := 19, attributes := #[] }, { accessFlags := 9, nameIndex := 351, descriptorIndex := 352, attributes := #[] }] 33 16 #[] #[{ accessFlags := 24, nameIndex := 28, descriptorIndex := 29, attributes := #[] }, { accessFlags := 26, nameIndex := 38, descriptorIndex := 39, attributes := #[] }, { accessFlags := 25, nameIndex := 121, descriptorIndex := 25, attributes := #[] }, { accessFlags := 25, nameIndex := 131, descriptorIndex := 25, attributes := #[] }, { accessFlags := 25, nameIndex := 137, descriptorIndex := 25, attributes := #[] }, { accessFlags := 25, nameIndex := 143, descriptorIndex := 25, attributes := #[] }, { accessFlags := 25, nameIndex := 53, descriptorIndex := 25, attributes := #[] }, { accessFlags := 25, nameIndex := 24, descriptorIndex := 25, attributes := #[] }, { accessFlags := 25, nameIndex := 162, descriptorIndex := 25, attributes := #[] }, { accessFlags := 25, nameIndex := 187, descriptorIndex := 25, attributes := #[] }, { accessFlags := 26, nameIndex := 48, descriptorIndex := 25, attributes := #[] }, { accessFlags := 25, nameIndex := 277, descriptorIndex := 25, attributes := #[] }, { accessFlags := 25, nameIndex := 280, descriptorIndex := 25, attributes := #[] }, { accessFlags := 25, nameIndex := 282, descriptorIndex := 25, attributes := #[] }, { accessFlags := 25, nameIndex := 284, descriptorIndex := 25, attributes := #[] }, { accessFlags := 25, nameIndex := 286, descriptorIndex := 25, attributes := #[] }, { accessFlags := 25, nameIndex := 288, descriptorIndex := 25, attributes := #[] }, { accessFlags := 25, nameIndex := 290, descriptorIndex := 25, attributes := #[] }, { accessFlags := 25, nameIndex := 292, descriptorIndex := 25, attributes := #[] }, { accessFlags := 26, nameIndex := 108, descriptorIndex := 109, attributes := #[] }, { accessFlags := 25, nameIndex := 294, descriptorIndex := 25, attributes := #[] }])
  fields := #[{ name := "U", type := (.object "jdk/internal/misc/Unsafe"), accessFlags := 24, slot := 0, constantValue := 0 }, { name := "BIG_ENDIAN", type := .boolean, accessFlags := 26, slot := 1, constantValue := 0 }, { name := "LOG2_ARRAY_BOOLEAN_INDEX_SCALE", type := .int, accessFlags := 25, slot := 2, constantValue := 0 }, { name := "LOG2_ARRAY_BYTE_INDEX_SCALE", type := .int, accessFlags := 25, slot := 3, constantValue := 0 }, { name := "LOG2_ARRAY_CHAR_INDEX_SCALE", type := .int, accessFlags := 25, slot := 4, constantValue := 0 }, { name := "LOG2_ARRAY_SHORT_INDEX_SCALE", type := .int, accessFlags := 25, slot := 5, constantValue := 0 }, { name := "LOG2_ARRAY_INT_INDEX_SCALE", type := .int, accessFlags := 25, slot := 6, constantValue := 0 }, { name := "LOG2_ARRAY_LONG_INDEX_SCALE", type := .int, accessFlags := 25, slot := 7, constantValue := 0 }, { name := "LOG2_ARRAY_FLOAT_INDEX_SCALE", type := .int, accessFlags := 25, slot := 8, constantValue := 0 }, { name := "LOG2_ARRAY_DOUBLE_INDEX_SCALE", type := .int, accessFlags := 25, slot := 9, constantValue := 0 }, { name := "LOG2_BYTE_BIT_SIZE", type := .int, accessFlags := 26, slot := 10, constantValue := 0 }, { name := "T_BOOLEAN", type := .int, accessFlags := 25, slot := 11, constantValue := 0 }, { name := "T_CHAR", type := .int, accessFlags := 25, slot := 12, constantValue := 0 }, { name := "T_FLOAT", type := .int, accessFlags := 25, slot := 13, constantValue := 0 }, { name := "T_DOUBLE", type := .int, accessFlags := 25, slot := 14, constantValue := 0 }, { name := "T_BYTE", type := .int, accessFlags := 25, slot := 15, constantValue := 0 }, { name := "T_SHORT", type := .int, accessFlags := 25, slot := 16, constantValue := 0 }, { name := "T_INT", type := .int, accessFlags := 25, slot := 17, constantValue := 0 }, { name := "T_LONG", type := .int, accessFlags := 25, slot := 18, constantValue := 0 }, { name := "JLA", type := (.object "jdk/internal/access/JavaLangAccess"), accessFlags := 26, slot := 19, constantValue := 0 }, { name := "SOFT_MAX_ARRAY_LENGTH", type := .int, accessFlags := 25, slot := 20, constantValue := 0 }]
  methods := #[k35m0, k35m1]
  instanceTypes := #[]
  staticTypes := #[(.object "jdk/internal/misc/Unsafe"), .boolean, .int, .int, .int, .int, .int, .int, .int, .int, .int, .int, .int, .int, .int, .int, .int, .int, .int, (.object "jdk/internal/access/JavaLangAccess"), .int]
  resolved := Array.replicate 378 none
  statics := none }

/-- the primitive byte -/
def k36 : Class := { plain "byte" none with kind := .primitive 'B', accessFlags := 0x411 }
/-- [B -/
def k37 : Class := { plain "[B" (some 0) with kind := .array 36 .byte, interfaces := #[18, 4], accessFlags := 1041 }

/-- the primitive char -/
def k38 : Class := { plain "char" none with kind := .primitive 'C', accessFlags := 0x411 }
/-- [C -/
def k39 : Class := { plain "[C" (some 0) with kind := .array 38 .char, interfaces := #[18, 4], accessFlags := 1041 }

/-- the primitive int -/
def k40 : Class := { plain "int" none with kind := .primitive 'I', accessFlags := 0x411 }
/-- [I -/
def k41 : Class := { plain "[I" (some 0) with kind := .array 40 .int, interfaces := #[18, 4], accessFlags := 1041 }

/-- [Ljava/lang/Object; -/
def k42 : Class := { plain "[Ljava/lang/Object;" (some 0) with kind := .array 0 (.object "java/lang/Object"), interfaces := #[18, 4], accessFlags := 1041 }

def heap : Heap := #[{ cls := 6, slots := #[.ref 4, .ref 7, .null, .null, .null], vm := .statics 6 },
  { cls := 9, slots := #[.long 0, .int 1, .null, .int 0, .null, .int 0, .int 0], vm := .statics 9 },
  { cls := 19, slots := #[.long 0, .int 0, .ref 10, .ref 11], vm := .statics 19 },
  { cls := 33, slots := #[.null, .null, .null], vm := .statics 33 },
  { cls := 6, slots := #[.null, .int 0, .int 0, .int 0, .null, .null, .null, .null, .null, .null, .null, .ref 5, .null, .null], vm := .none },
  { cls := 9, slots := #[.ref 6, .int 0, .int 0, .int 0], vm := .none },
  { cls := 37, slots := #[.int 32, .int 100, .int 101, .int 102, .int 97, .int 117, .int 108, .int 116, .int 32, .int 118, .int 97, .int 108, .int 117, .int 101, .int 115], vm := .none },
  { cls := 6, slots := #[.null, .int 0, .int 0, .int 0, .null, .null, .null, .null, .null, .null, .null, .ref 8, .null, .null], vm := .none },
  { cls := 9, slots := #[.ref 9, .int 0, .int 0, .int 0], vm := .none },
  { cls := 37, slots := #[.int 32, .int 40, .int 41, .int 32, .int 118, .int 97, .int 108, .int 117, .int 101, .int 115, .int 32, .int 40, .int 41], vm := .none },
  { cls := 42, slots := #[], vm := .none },
  { cls := 42, slots := #[], vm := .none }]
def classes : Array Class := #[k0, k1, k2, k3, k4, k5, k6, k7, k8, k9, k10, k11, k12, k13, k14, k15, k16, k17, k18, k19, k20, k21, k22, k23, k24, k25, k26, k27, k28, k29, k30, k31, k32, k33, k34, k35, k36, k37, k38, k39, k40, k41, k42]
def interned : List (Array UInt16 × Addr) := []
def slotsUsed : Nat := 83
def theMethod : MethodId := ⟨1, 1⟩
def args0 : Array Value := #[.int 1, .int 2, .int 3, .int 4]
def aboutOver (below : List Frame) : State where
  vm := { classes := classes, interned := interned.toArray }
  heap := heap
  slotsUsed := slotsUsed
  threads := #[{ frames := .invoking theMethod args0 :: below }]
def below0 : List Frame := [.native { method := ⟨0, 0⟩, args := #[] }]
def about1 : State := aboutOver below0
def p0 : Program := .bare "" "" ""
def e0 : Env := launch0.env 0 0 0
theorem w_frames : about1.frames = Frame.invoking theMethod args0 :: below0 := rfl
set_option maxRecDepth 65536 in
theorem w_args : argsFit about1.vm theMethod args0 = true := by decide +kernel
set_option maxRecDepth 65536 in
theorem w_heap : heapFits about1 = true := by decide +kernel
set_option maxRecDepth 65536 in
theorem w_runnable : about1.curStatus? = some .runnable := by decide +kernel
set_option maxRecDepth 65536 in
theorem w_alone : about1.alone = true := by decide +kernel
set_option maxRecDepth 65536 in
theorem w_named : about1.methodNamed? x = some theMethod := by decide +kernel
set_option maxRecDepth 65536 in
theorem w_hears : about1.hears theMethod below0 = true := by decide +kernel
set_option maxRecDepth 65536 in
theorem w_ripe : about1.ripe theMethod args0 below0 = true := by decide +kernel
theorem w_running : about1.status = .running := rfl
set_option maxRecDepth 65536 in
theorem w_room : about1.hasRoom e0.platform room_1 = true :=
  launch0.hasRoom_least _ room_1 (by decide +kernel) (by decide +kernel) (by decide +kernel) (by decide +kernel) (by decide +kernel) (by decide +kernel)
theorem allAtoms_all (ts : List Jvm.Cond) (a : Array Jvm.Value) (st : Jvm.State) : (allAtoms ts).before a st = ts.all (fun c => c.before a st) := by
  induction ts with
  | nil => rfl
  | cons c t ih =>
    show (Jvm.Cond.and c (allAtoms t)).before a st = _
    rw [Jvm.Cond.before_and, ih, List.all_cons]
def words1 : List Jvm.Cond := Jvm.Cond.code x code maxLocals ret :: tables_1
/-- a 'code' word, met by the world's own term for the bytes: nothing is compared byte by byte -/
theorem code_word {y : MethodName} {bytes : ByteArray} {mx : Nat} {rt : Option FieldType} {a : Array Value} {s : State} {m : MethodId} {meth : Method} {c : Code} (h1 : s.methodNamed? y = some m) (h2 : s.vm.method? m = some meth) (h3 : meth.code = some c) (h4 : c.code = bytes)
    (h5 : (c.maxLocals == mx && c.exceptionTable.isEmpty && decide (c.maxStack ≤ mostOperands) && decide (meth.sig.returnType = rt) && !meth.locks && decide (parseMethodDescriptor y.desc = some meth.sig)) = true) : (Jvm.Cond.code y bytes mx rt).before a s = true := by
  simp only [Bool.and_eq_true, beq_iff_eq, Bool.not_eq_true', decide_eq_true_eq] at h5
  obtain ⟨⟨⟨⟨⟨g1, g2⟩, g3⟩, g4⟩, g5⟩, g6⟩ := h5
  simp [Cond.before, Cond.holds, Cond.value, h1, h2, h3, h4, g1, g2, g3, g4, g5, g6]
def isCode : Jvm.Cond → Bool
  | .code _ _ _ _ => true
  | _ => false
theorem all_split {L : List Jvm.Cond} {P : Jvm.Cond → Bool} (h1 : L.all (fun c => isCode c || P c) = true) (h2 : ∀ c ∈ L.filter isCode, P c = true) : L.all P = true := by
  refine List.all_eq_true.mpr fun c hc => ?_
  have h := List.all_eq_true.mp h1 c hc
  rcases Bool.eq_false_or_eq_true (isCode c) with hi | hi
  · exact h2 c (List.mem_filter.mpr ⟨hc, hi⟩)
  · simpa [hi] using h
set_option maxRecDepth 65536 in
theorem w_c0 : (Jvm.Cond.code x code maxLocals ret).before args0 about1 = true := code_word (m := ⟨1, 1⟩) (meth := k1m1) (c := k1c1) (by decide +kernel) rfl rfl rfl (by decide +kernel)
set_option maxRecDepth 65536 in
theorem w_c1 : (Jvm.Cond.code ({ cls := "underdeck/deck/SqlText", name := "<init>", desc := "(Lunderdeck/deck/Dialect;)V" } : Jvm.MethodName) prog_41_method_1_code (2 : Nat) (Option.none : Option Jvm.ClassFile.FieldType)).before args0 about1 = true := code_word (m := ⟨10, 0⟩) (meth := k10m0) (c := k10c0) (by decide +kernel) rfl rfl rfl (by decide +kernel)
set_option maxRecDepth 65536 in
theorem w_c2 : (Jvm.Cond.code ({ cls := "java/lang/Object", name := "<init>", desc := "()V" } : Jvm.MethodName) object_method_1_code (1 : Nat) (Option.none : Option Jvm.ClassFile.FieldType)).before args0 about1 = true := code_word (m := ⟨0, 0⟩) (meth := k0m0) (c := k0c0) (by decide +kernel) rfl rfl rfl (by decide +kernel)
set_option maxRecDepth 65536 in
theorem w_c3 : (Jvm.Cond.code ({ cls := "java/util/ArrayList", name := "<init>", desc := "()V" } : Jvm.MethodName) jdk_38_method_2_code (1 : Nat) (Option.none : Option Jvm.ClassFile.FieldType)).before args0 about1 = true := code_word (m := ⟨19, 0⟩) (meth := k19m0) (c := k19c0) (by decide +kernel) rfl rfl rfl (by decide +kernel)
set_option maxRecDepth 65536 in
theorem w_c4 : (Jvm.Cond.code ({ cls := "java/util/AbstractList", name := "<init>", desc := "()V" } : Jvm.MethodName) jdk_39_method_1_code (1 : Nat) (Option.none : Option Jvm.ClassFile.FieldType)).before args0 about1 = true := code_word (m := ⟨16, 0⟩) (meth := k16m0) (c := k16c0) (by decide +kernel) rfl rfl rfl (by decide +kernel)
set_option maxRecDepth 65536 in
theorem w_c5 : (Jvm.Cond.code ({ cls := "java/util/AbstractCollection", name := "<init>", desc := "()V" } : Jvm.MethodName) jdk_22_method_1_code (1 : Nat) (Option.none : Option Jvm.ClassFile.FieldType)).before args0 about1 = true := code_word (m := ⟨13, 0⟩) (meth := k13m0) (c := k13c0) (by decide +kernel) rfl rfl rfl (by decide +kernel)
set_option maxRecDepth 65536 in
theorem w_c6 : (Jvm.Cond.code ({ cls := "java/lang/StringBuilder", name := "<init>", desc := "()V" } : Jvm.MethodName) jdk_67_method_1_code (1 : Nat) (Option.none : Option Jvm.ClassFile.FieldType)).before args0 about1 = true := code_word (m := ⟨22, 0⟩) (meth := k22m0) (c := k22c0) (by decide +kernel) rfl rfl rfl (by decide +kernel)
set_option maxRecDepth 65536 in
theorem w_c7 : (Jvm.Cond.code ({ cls := "java/lang/AbstractStringBuilder", name := "<init>", desc := "(I)V" } : Jvm.MethodName) jdk_68_method_2_code (2 : Nat) (Option.none : Option Jvm.ClassFile.FieldType)).before args0 about1 = true := code_word (m := ⟨21, 1⟩) (meth := k21m1) (c := k21c1) (by decide +kernel) rfl rfl rfl (by decide +kernel)
set_option maxRecDepth 65536 in
theorem w_c8 : (Jvm.Cond.code ({ cls := "java/util/HashMap", name := "<init>", desc := "()V" } : Jvm.MethodName) jdk_69_method_7_code (1 : Nat) (Option.none : Option Jvm.ClassFile.FieldType)).before args0 about1 = true := code_word (m := ⟨25, 0⟩) (meth := k25m0) (c := k25c0) (by decide +kernel) rfl rfl rfl (by decide +kernel)
set_option maxRecDepth 65536 in
theorem w_c9 : (Jvm.Cond.code ({ cls := "java/util/AbstractMap", name := "<init>", desc := "()V" } : Jvm.MethodName) jdk_71_method_1_code (1 : Nat) (Option.none : Option Jvm.ClassFile.FieldType)).before args0 about1 = true := code_word (m := ⟨24, 0⟩) (meth := k24m0) (c := k24c0) (by decide +kernel) rfl rfl rfl (by decide +kernel)
set_option maxRecDepth 65536 in
theorem w_c10 : (Jvm.Cond.code ({ cls := "java/util/HashSet", name := "<init>", desc := "()V" } : Jvm.MethodName) jdk_93_method_1_code (1 : Nat) (Option.none : Option Jvm.ClassFile.FieldType)).before args0 about1 = true := code_word (m := ⟨28, 0⟩) (meth := k28m0) (c := k28c0) (by decide +kernel) rfl rfl rfl (by decide +kernel)
set_option maxRecDepth 65536 in
theorem w_c11 : (Jvm.Cond.code ({ cls := "java/util/AbstractSet", name := "<init>", desc := "()V" } : Jvm.MethodName) jdk_91_method_1_code (1 : Nat) (Option.none : Option Jvm.ClassFile.FieldType)).before args0 about1 = true := code_word (m := ⟨27, 0⟩) (meth := k27m0) (c := k27c0) (by decide +kernel) rfl rfl rfl (by decide +kernel)
set_option maxRecDepth 65536 in
theorem w_c12 : (Jvm.Cond.code ({ cls := "underdeck/deck/SqlText", name := "sql", desc := "(Ljava/lang/String;)Lunderdeck/deck/SqlText;" } : Jvm.MethodName) prog_41_method_2_code (2 : Nat) (Option.some (Jvm.ClassFile.FieldType.object "underdeck/deck/SqlText"))).before args0 about1 = true := code_word (m := ⟨10, 1⟩) (meth := k10m1) (c := k10c1) (by decide +kernel) rfl rfl rfl (by decide +kernel)
set_option maxRecDepth 65536 in
theorem w_c13 : (Jvm.Cond.code ({ cls := "java/lang/StringBuilder", name := "append", desc := "(Ljava/lang/String;)Ljava/lang/StringBuilder;" } : Jvm.MethodName) jdk_67_method_7_code (2 : Nat) (Option.some (Jvm.ClassFile.FieldType.object "java/lang/StringBuilder"))).before args0 about1 = true := code_word (m := ⟨22, 1⟩) (meth := k22m1) (c := k22c1) (by decide +kernel) rfl rfl rfl (by decide +kernel)
set_option maxRecDepth 65536 in
theorem w_c14 : (Jvm.Cond.code ({ cls := "java/lang/AbstractStringBuilder", name := "append", desc := "(Ljava/lang/String;)Ljava/lang/AbstractStringBuilder;" } : Jvm.MethodName) jdk_68_method_22_code (3 : Nat) (Option.some (Jvm.ClassFile.FieldType.object "java/lang/AbstractStringBuilder"))).before args0 about1 = true := code_word (m := ⟨21, 5⟩) (meth := k21m5) (c := k21c5) (by decide +kernel) rfl rfl rfl (by decide +kernel)
set_option maxRecDepth 65536 in
theorem w_c15 : (Jvm.Cond.code ({ cls := "java/lang/String", name := "length", desc := "()I" } : Jvm.MethodName) jdk_42_method_54_code (1 : Nat) (Option.some Jvm.ClassFile.FieldType.int)).before args0 about1 = true := code_word (m := ⟨9, 3⟩) (meth := k9m3) (c := k9c3) (by decide +kernel) rfl rfl rfl (by decide +kernel)
set_option maxRecDepth 65536 in
theorem w_c16 : (Jvm.Cond.code ({ cls := "java/lang/String", name := "coder", desc := "()B" } : Jvm.MethodName) jdk_42_method_152_code (1 : Nat) (Option.some Jvm.ClassFile.FieldType.byte)).before args0 about1 = true := code_word (m := ⟨9, 10⟩) (meth := k9m10) (c := k9c10) (by decide +kernel) rfl rfl rfl (by decide +kernel)
set_option maxRecDepth 65536 in
theorem w_c17 : (Jvm.Cond.code ({ cls := "java/lang/AbstractStringBuilder", name := "ensureCapacityInternal", desc := "(I)V" } : Jvm.MethodName) jdk_68_method_9_code (3 : Nat) (Option.none : Option Jvm.ClassFile.FieldType)).before args0 about1 = true := code_word (m := ⟨21, 3⟩) (meth := k21m3) (c := k21c3) (by decide +kernel) rfl rfl rfl (by decide +kernel)
set_option maxRecDepth 65536 in
theorem w_c18 : (Jvm.Cond.code ({ cls := "java/lang/AbstractStringBuilder", name := "putStringAt", desc := "(ILjava/lang/String;)V" } : Jvm.MethodName) jdk_68_method_73_code (3 : Nat) (Option.none : Option Jvm.ClassFile.FieldType)).before args0 about1 = true := code_word (m := ⟨21, 9⟩) (meth := k21m9) (c := k21c9) (by decide +kernel) rfl rfl rfl (by decide +kernel)
set_option maxRecDepth 65536 in
theorem w_c19 : (Jvm.Cond.code ({ cls := "java/lang/AbstractStringBuilder", name := "inflateIfNeededFor", desc := "(Ljava/lang/String;)V" } : Jvm.MethodName) jdk_68_method_71_code (2 : Nat) (Option.none : Option Jvm.ClassFile.FieldType)).before args0 about1 = true := code_word (m := ⟨21, 8⟩) (meth := k21m8) (c := k21c8) (by decide +kernel) rfl rfl rfl (by decide +kernel)
set_option maxRecDepth 65536 in
theorem w_c20 : (Jvm.Cond.code ({ cls := "java/lang/String", name := "getBytes", desc := "([BIB)V" } : Jvm.MethodName) jdk_42_method_147_code (4 : Nat) (Option.none : Option Jvm.ClassFile.FieldType)).before args0 about1 = true := code_word (m := ⟨9, 6⟩) (meth := k9m6) (c := k9c6) (by decide +kernel) rfl rfl rfl (by decide +kernel)
set_option maxRecDepth 65536 in
theorem w_c21 : (Jvm.Cond.code ({ cls := "underdeck/deck/SqlText", name := "defaultsOnly", desc := "()Lunderdeck/deck/SqlText;" } : Jvm.MethodName) prog_41_method_14_code (1 : Nat) (Option.some (Jvm.ClassFile.FieldType.object "underdeck/deck/SqlText"))).before args0 about1 = true := code_word (m := ⟨10, 2⟩) (meth := k10m2) (c := k10c2) (by decide +kernel) rfl rfl rfl (by decide +kernel)
set_option maxRecDepth 65536 in
theorem w_c22 : (Jvm.Cond.code ({ cls := "underdeck/deck/Dialect", name := "defaultsOnly", desc := "()Ljava/lang/String;" } : Jvm.MethodName) prog_25_method_10_code (1 : Nat) (Option.some (Jvm.ClassFile.FieldType.object "java/lang/String"))).before args0 about1 = true := code_word (m := ⟨6, 0⟩) (meth := k6m0) (c := k6c0) (by decide +kernel) rfl rfl rfl (by decide +kernel)
set_option maxRecDepth 65536 in
theorem w_c23 : (Jvm.Cond.code ({ cls := "underdeck/deck/SqlText", name := "plain", desc := "()Ljava/lang/String;" } : Jvm.MethodName) prog_41_method_18_code (1 : Nat) (Option.some (Jvm.ClassFile.FieldType.object "java/lang/String"))).before args0 about1 = true := code_word (m := ⟨10, 3⟩) (meth := k10m3) (c := k10c3) (by decide +kernel) rfl rfl rfl (by decide +kernel)
set_option maxRecDepth 65536 in
theorem w_c24 : (Jvm.Cond.code ({ cls := "java/util/ArrayList", name := "isEmpty", desc := "()Z" } : Jvm.MethodName) jdk_38_method_9_code (1 : Nat) (Option.some Jvm.ClassFile.FieldType.boolean)).before args0 about1 = true := code_word (m := ⟨19, 1⟩) (meth := k19m1) (c := k19c1) (by decide +kernel) rfl rfl rfl (by decide +kernel)
set_option maxRecDepth 65536 in
theorem w_c25 : (Jvm.Cond.code ({ cls := "java/lang/StringBuilder", name := "toString", desc := "()Ljava/lang/String;" } : Jvm.MethodName) jdk_67_method_42_code (1 : Nat) (Option.some (Jvm.ClassFile.FieldType.object "java/lang/String"))).before args0 about1 = true := code_word (m := ⟨22, 2⟩) (meth := k22m2) (c := k22c2) (by decide +kernel) rfl rfl rfl (by decide +kernel)
set_option maxRecDepth 65536 in
theorem w_c26 : (Jvm.Cond.code ({ cls := "java/lang/String", name := "<init>", desc := "(Ljava/lang/StringBuilder;)V" } : Jvm.MethodName) jdk_42_method_53_code (2 : Nat) (Option.none : Option Jvm.ClassFile.FieldType)).before args0 about1 = true := code_word (m := ⟨9, 2⟩) (meth := k9m2) (c := k9c2) (by decide +kernel) rfl rfl rfl (by decide +kernel)
set_option maxRecDepth 65536 in
theorem w_c27 : (Jvm.Cond.code ({ cls := "java/lang/String", name := "<init>", desc := "(Ljava/lang/AbstractStringBuilder;Ljava/lang/Void;)V" } : Jvm.MethodName) jdk_42_method_150_code (5 : Nat) (Option.none : Option Jvm.ClassFile.FieldType)).before args0 about1 = true := code_word (m := ⟨9, 8⟩) (meth := k9m8) (c := k9c8) (by decide +kernel) rfl rfl rfl (by decide +kernel)
set_option maxRecDepth 65536 in
theorem w_c28 : (Jvm.Cond.code ({ cls := "java/lang/AbstractStringBuilder", name := "getValue", desc := "()[B" } : Jvm.MethodName) jdk_68_method_64_code (1 : Nat) (Option.some (Jvm.ClassFile.FieldType.array Jvm.ClassFile.FieldType.byte))).before args0 about1 = true := code_word (m := ⟨21, 6⟩) (meth := k21m6) (c := k21c6) (by decide +kernel) rfl rfl rfl (by decide +kernel)
set_option maxRecDepth 65536 in
theorem w_c29 : (Jvm.Cond.code ({ cls := "java/lang/StringBuilder", name := "length", desc := "()I" } : Jvm.MethodName) jdk_67_method_93_code (1 : Nat) (Option.some Jvm.ClassFile.FieldType.int)).before args0 about1 = true := code_word (m := ⟨22, 3⟩) (meth := k22m3) (c := k22c3) (by decide +kernel) rfl rfl rfl (by decide +kernel)
set_option maxRecDepth 65536 in
theorem w_c30 : (Jvm.Cond.code ({ cls := "java/lang/AbstractStringBuilder", name := "length", desc := "()I" } : Jvm.MethodName) jdk_68_method_6_code (1 : Nat) (Option.some Jvm.ClassFile.FieldType.int)).before args0 about1 = true := code_word (m := ⟨21, 2⟩) (meth := k21m2) (c := k21c2) (by decide +kernel) rfl rfl rfl (by decide +kernel)
set_option maxRecDepth 65536 in
theorem w_c31 : (Jvm.Cond.code ({ cls := "java/lang/AbstractStringBuilder", name := "isLatin1", desc := "()Z" } : Jvm.MethodName) jdk_68_method_68_code (1 : Nat) (Option.some Jvm.ClassFile.FieldType.boolean)).before args0 about1 = true := code_word (m := ⟨21, 7⟩) (meth := k21m7) (c := k21c7) (by decide +kernel) rfl rfl rfl (by decide +kernel)
set_option maxRecDepth 65536 in
theorem w_c32 : (Jvm.Cond.code ({ cls := "java/util/Arrays", name := "copyOfRange", desc := "([BII)[B" } : Jvm.MethodName) jdk_65_method_132_code (3 : Nat) (Option.some (Jvm.ClassFile.FieldType.array Jvm.ClassFile.FieldType.byte))).before args0 about1 = true := code_word (m := ⟨30, 3⟩) (meth := k30m3) (c := k30c3) (by decide +kernel) rfl rfl rfl (by decide +kernel)
set_option maxRecDepth 65536 in
theorem w_c33 : (Jvm.Cond.code ({ cls := "java/util/Arrays", name := "copyOfRangeByte", desc := "([BII)[B" } : Jvm.MethodName) jdk_65_method_133_code (5 : Nat) (Option.some (Jvm.ClassFile.FieldType.array Jvm.ClassFile.FieldType.byte))).before args0 about1 = true := code_word (m := ⟨30, 4⟩) (meth := k30m4) (c := k30c4) (by decide +kernel) rfl rfl rfl (by decide +kernel)
set_option maxRecDepth 65536 in
theorem w_c34 : (Jvm.Cond.code ({ cls := "java/util/Arrays", name := "checkLength", desc := "(II)V" } : Jvm.MethodName) jdk_65_method_131_code (2 : Nat) (Option.none : Option Jvm.ClassFile.FieldType)).before args0 about1 = true := code_word (m := ⟨30, 2⟩) (meth := k30m2) (c := k30c2) (by decide +kernel) rfl rfl rfl (by decide +kernel)
set_option maxRecDepth 65536 in
theorem w_c35 : (Jvm.Cond.code ({ cls := "java/lang/Math", name := "min", desc := "(II)I" } : Jvm.MethodName) jdk_29_method_69_code (2 : Nat) (Option.some Jvm.ClassFile.FieldType.int)).before args0 about1 = true := code_word (m := ⟨31, 2⟩) (meth := k31m2) (c := k31c2) (by decide +kernel) rfl rfl rfl (by decide +kernel)
set_option maxRecDepth 65536 in
theorem w_c36 : (Jvm.Cond.code ({ cls := "underdeck/deck/SqlTextDefaultsOnlyPinLaw", name := "tail", desc := "(Ljava/lang/String;ILjava/lang/String;)Z" } : Jvm.MethodName) method_3_code (3 : Nat) (Option.some Jvm.ClassFile.FieldType.boolean)).before args0 about1 = true := code_word (m := ⟨1, 2⟩) (meth := k1m2) (c := k1c2) (by decide +kernel) rfl rfl rfl (by decide +kernel)
set_option maxRecDepth 65536 in
theorem w_c37 : (Jvm.Cond.code ({ cls := "underdeck/deck/SqlTextDefaultsOnlyPinLaw", name := "at", desc := "(Ljava/lang/String;ILjava/lang/String;I)Z" } : Jvm.MethodName) method_4_code (4 : Nat) (Option.some Jvm.ClassFile.FieldType.boolean)).before args0 about1 = true := code_word (m := ⟨1, 3⟩) (meth := k1m3) (c := k1c3) (by decide +kernel) rfl rfl rfl (by decide +kernel)
set_option maxRecDepth 65536 in
theorem w_c38 : (Jvm.Cond.code ({ cls := "java/lang/String", name := "charAt", desc := "(I)C" } : Jvm.MethodName) jdk_42_method_56_code (2 : Nat) (Option.some Jvm.ClassFile.FieldType.char)).before args0 about1 = true := code_word (m := ⟨9, 4⟩) (meth := k9m4) (c := k9c4) (by decide +kernel) rfl rfl rfl (by decide +kernel)
set_option maxRecDepth 65536 in
theorem w_c39 : (Jvm.Cond.code ({ cls := "java/lang/String", name := "isLatin1", desc := "()Z" } : Jvm.MethodName) jdk_42_method_154_code (1 : Nat) (Option.some Jvm.ClassFile.FieldType.boolean)).before args0 about1 = true := code_word (m := ⟨9, 11⟩) (meth := k9m11) (c := k9c11) (by decide +kernel) rfl rfl rfl (by decide +kernel)
set_option maxRecDepth 65536 in
theorem w_c40 : (Jvm.Cond.code ({ cls := "java/lang/StringLatin1", name := "charAt", desc := "([BI)C" } : Jvm.MethodName) jdk_43_method_2_code (2 : Nat) (Option.some Jvm.ClassFile.FieldType.char)).before args0 about1 = true := code_word (m := ⟨32, 1⟩) (meth := k32m1) (c := k32c1) (by decide +kernel) rfl rfl rfl (by decide +kernel)
set_option maxRecDepth 65536 in
theorem w_c41 : (Jvm.Cond.code ({ cls := "java/lang/String", name := "checkIndex", desc := "(II)V" } : Jvm.MethodName) jdk_42_method_155_code (2 : Nat) (Option.none : Option Jvm.ClassFile.FieldType)).before args0 about1 = true := code_word (m := ⟨9, 12⟩) (meth := k9m12) (c := k9c12) (by decide +kernel) rfl rfl rfl (by decide +kernel)
set_option maxRecDepth 65536 in
theorem w_c42 : (Jvm.Cond.code ({ cls := "jdk/internal/util/Preconditions", name := "checkIndex", desc := "(IILjava/util/function/BiFunction;)I" } : Jvm.MethodName) jdk_41_method_11_code (3 : Nat) (Option.some Jvm.ClassFile.FieldType.int)).before args0 about1 = true := code_word (m := ⟨33, 1⟩) (meth := k33m1) (c := k33c1) (by decide +kernel) rfl rfl rfl (by decide +kernel)
set_option maxRecDepth 65536 in
theorem w_c43 : (Jvm.Cond.code ({ cls := "java/lang/String", name := "valueOf", desc := "(C)Ljava/lang/String;" } : Jvm.MethodName) jdk_42_method_139_code (1 : Nat) (Option.some (Jvm.ClassFile.FieldType.object "java/lang/String"))).before args0 about1 = true := code_word (m := ⟨9, 5⟩) (meth := k9m5) (c := k9c5) (by decide +kernel) rfl rfl rfl (by decide +kernel)
set_option maxRecDepth 65536 in
theorem w_c44 : (Jvm.Cond.code ({ cls := "java/lang/StringLatin1", name := "canEncode", desc := "(C)Z" } : Jvm.MethodName) jdk_43_method_3_code (1 : Nat) (Option.some Jvm.ClassFile.FieldType.boolean)).before args0 about1 = true := code_word (m := ⟨32, 2⟩) (meth := k32m2) (c := k32c2) (by decide +kernel) rfl rfl rfl (by decide +kernel)
set_option maxRecDepth 65536 in
theorem w_c45 : (Jvm.Cond.code ({ cls := "java/lang/StringLatin1", name := "toBytes", desc := "(C)[B" } : Jvm.MethodName) jdk_43_method_46_code (1 : Nat) (Option.some (Jvm.ClassFile.FieldType.array Jvm.ClassFile.FieldType.byte))).before args0 about1 = true := code_word (m := ⟨32, 3⟩) (meth := k32m3) (c := k32c3) (by decide +kernel) rfl rfl rfl (by decide +kernel)
set_option maxRecDepth 65536 in
theorem w_c46 : (Jvm.Cond.code ({ cls := "java/lang/String", name := "<init>", desc := "([BB)V" } : Jvm.MethodName) jdk_42_method_151_code (3 : Nat) (Option.none : Option Jvm.ClassFile.FieldType)).before args0 about1 = true := code_word (m := ⟨9, 9⟩) (meth := k9m9) (c := k9c9) (by decide +kernel) rfl rfl rfl (by decide +kernel)
set_option maxRecDepth 65536 in
theorem w_c47 : (Jvm.Cond.code ({ cls := "java/lang/String", name := "<init>", desc := "([C)V" } : Jvm.MethodName) jdk_42_method_3_code (2 : Nat) (Option.none : Option Jvm.ClassFile.FieldType)).before args0 about1 = true := code_word (m := ⟨9, 1⟩) (meth := k9m1) (c := k9c1) (by decide +kernel) rfl rfl rfl (by decide +kernel)
set_option maxRecDepth 65536 in
theorem w_c48 : (Jvm.Cond.code ({ cls := "java/lang/String", name := "<init>", desc := "([CIILjava/lang/Void;)V" } : Jvm.MethodName) jdk_42_method_149_code (6 : Nat) (Option.none : Option Jvm.ClassFile.FieldType)).before args0 about1 = true := code_word (m := ⟨9, 7⟩) (meth := k9m7) (c := k9c7) (by decide +kernel) rfl rfl rfl (by decide +kernel)
set_option maxRecDepth 65536 in
theorem w_c49 : (Jvm.Cond.code ({ cls := "java/lang/StringUTF16", name := "compress", desc := "([CII)[B" } : Jvm.MethodName) jdk_52_method_16_code (6 : Nat) (Option.some (Jvm.ClassFile.FieldType.array Jvm.ClassFile.FieldType.byte))).before args0 about1 = true := code_word (m := ⟨34, 2⟩) (meth := k34m2) (c := k34c2) (by decide +kernel) rfl rfl rfl (by decide +kernel)
set_option maxRecDepth 65536 in
theorem w_c50 : (Jvm.Cond.code ({ cls := "java/lang/StringUTF16", name := "compress", desc := "([CI[BII)I" } : Jvm.MethodName) jdk_52_method_21_code (7 : Nat) (Option.some Jvm.ClassFile.FieldType.int)).before args0 about1 = true := code_word (m := ⟨34, 3⟩) (meth := k34m3) (c := k34c3) (by decide +kernel) rfl rfl rfl (by decide +kernel)
set_option maxRecDepth 65536 in
theorem w_c51 : (Jvm.Cond.code ({ cls := "java/lang/StringUTF16", name := "coderFromArrayLen", desc := "([BI)B" } : Jvm.MethodName) jdk_52_method_15_code (2 : Nat) (Option.some Jvm.ClassFile.FieldType.byte)).before args0 about1 = true := code_word (m := ⟨34, 1⟩) (meth := k34m1) (c := k34c1) (by decide +kernel) rfl rfl rfl (by decide +kernel)
set_option maxRecDepth 65536 in
theorem w_c52 : (Jvm.Cond.code ({ cls := "java/lang/AbstractStringBuilder", name := "newCapacity", desc := "(I)I" } : Jvm.MethodName) jdk_68_method_10_code (6 : Nat) (Option.some Jvm.ClassFile.FieldType.int)).before args0 about1 = true := code_word (m := ⟨21, 4⟩) (meth := k21m4) (c := k21c4) (by decide +kernel) rfl rfl rfl (by decide +kernel)
set_option maxRecDepth 65536 in
theorem w_c53 : (Jvm.Cond.code ({ cls := "jdk/internal/util/ArraysSupport", name := "newLength", desc := "(III)I" } : Jvm.MethodName) jdk_48_method_27_code (4 : Nat) (Option.some Jvm.ClassFile.FieldType.int)).before args0 about1 = true := code_word (m := ⟨35, 1⟩) (meth := k35m1) (c := k35c1) (by decide +kernel) rfl rfl rfl (by decide +kernel)
set_option maxRecDepth 65536 in
theorem w_c54 : (Jvm.Cond.code ({ cls := "java/lang/Math", name := "max", desc := "(II)I" } : Jvm.MethodName) jdk_29_method_65_code (2 : Nat) (Option.some Jvm.ClassFile.FieldType.int)).before args0 about1 = true := code_word (m := ⟨31, 1⟩) (meth := k31m1) (c := k31c1) (by decide +kernel) rfl rfl rfl (by decide +kernel)
set_option maxRecDepth 65536 in
theorem w_c55 : (Jvm.Cond.code ({ cls := "java/util/Arrays", name := "copyOf", desc := "([BI)[B" } : Jvm.MethodName) jdk_65_method_121_code (3 : Nat) (Option.some (Jvm.ClassFile.FieldType.array Jvm.ClassFile.FieldType.byte))).before args0 about1 = true := code_word (m := ⟨30, 1⟩) (meth := k30m1) (c := k30c1) (by decide +kernel) rfl rfl rfl (by decide +kernel)
def codes1 : List Jvm.Cond := [Jvm.Cond.code x code maxLocals ret, Jvm.Cond.code ({ cls := "underdeck/deck/SqlText", name := "<init>", desc := "(Lunderdeck/deck/Dialect;)V" } : Jvm.MethodName) prog_41_method_1_code (2 : Nat) (Option.none : Option Jvm.ClassFile.FieldType), Jvm.Cond.code ({ cls := "java/lang/Object", name := "<init>", desc := "()V" } : Jvm.MethodName) object_method_1_code (1 : Nat) (Option.none : Option Jvm.ClassFile.FieldType), Jvm.Cond.code ({ cls := "java/util/ArrayList", name := "<init>", desc := "()V" } : Jvm.MethodName) jdk_38_method_2_code (1 : Nat) (Option.none : Option Jvm.ClassFile.FieldType), Jvm.Cond.code ({ cls := "java/util/AbstractList", name := "<init>", desc := "()V" } : Jvm.MethodName) jdk_39_method_1_code (1 : Nat) (Option.none : Option Jvm.ClassFile.FieldType), Jvm.Cond.code ({ cls := "java/util/AbstractCollection", name := "<init>", desc := "()V" } : Jvm.MethodName) jdk_22_method_1_code (1 : Nat) (Option.none : Option Jvm.ClassFile.FieldType), Jvm.Cond.code ({ cls := "java/lang/StringBuilder", name := "<init>", desc := "()V" } : Jvm.MethodName) jdk_67_method_1_code (1 : Nat) (Option.none : Option Jvm.ClassFile.FieldType), Jvm.Cond.code ({ cls := "java/lang/AbstractStringBuilder", name := "<init>", desc := "(I)V" } : Jvm.MethodName) jdk_68_method_2_code (2 : Nat) (Option.none : Option Jvm.ClassFile.FieldType), Jvm.Cond.code ({ cls := "java/util/HashMap", name := "<init>", desc := "()V" } : Jvm.MethodName) jdk_69_method_7_code (1 : Nat) (Option.none : Option Jvm.ClassFile.FieldType), Jvm.Cond.code ({ cls := "java/util/AbstractMap", name := "<init>", desc := "()V" } : Jvm.MethodName) jdk_71_method_1_code (1 : Nat) (Option.none : Option Jvm.ClassFile.FieldType), Jvm.Cond.code ({ cls := "java/util/HashSet", name := "<init>", desc := "()V" } : Jvm.MethodName) jdk_93_method_1_code (1 : Nat) (Option.none : Option Jvm.ClassFile.FieldType), Jvm.Cond.code ({ cls := "java/util/AbstractSet", name := "<init>", desc := "()V" } : Jvm.MethodName) jdk_91_method_1_code (1 : Nat) (Option.none : Option Jvm.ClassFile.FieldType), Jvm.Cond.code ({ cls := "underdeck/deck/SqlText", name := "sql", desc := "(Ljava/lang/String;)Lunderdeck/deck/SqlText;" } : Jvm.MethodName) prog_41_method_2_code (2 : Nat) (Option.some (Jvm.ClassFile.FieldType.object "underdeck/deck/SqlText")), Jvm.Cond.code ({ cls := "java/lang/StringBuilder", name := "append", desc := "(Ljava/lang/String;)Ljava/lang/StringBuilder;" } : Jvm.MethodName) jdk_67_method_7_code (2 : Nat) (Option.some (Jvm.ClassFile.FieldType.object "java/lang/StringBuilder")), Jvm.Cond.code ({ cls := "java/lang/AbstractStringBuilder", name := "append", desc := "(Ljava/lang/String;)Ljava/lang/AbstractStringBuilder;" } : Jvm.MethodName) jdk_68_method_22_code (3 : Nat) (Option.some (Jvm.ClassFile.FieldType.object "java/lang/AbstractStringBuilder")), Jvm.Cond.code ({ cls := "java/lang/String", name := "length", desc := "()I" } : Jvm.MethodName) jdk_42_method_54_code (1 : Nat) (Option.some Jvm.ClassFile.FieldType.int), Jvm.Cond.code ({ cls := "java/lang/String", name := "coder", desc := "()B" } : Jvm.MethodName) jdk_42_method_152_code (1 : Nat) (Option.some Jvm.ClassFile.FieldType.byte), Jvm.Cond.code ({ cls := "java/lang/AbstractStringBuilder", name := "ensureCapacityInternal", desc := "(I)V" } : Jvm.MethodName) jdk_68_method_9_code (3 : Nat) (Option.none : Option Jvm.ClassFile.FieldType), Jvm.Cond.code ({ cls := "java/lang/AbstractStringBuilder", name := "putStringAt", desc := "(ILjava/lang/String;)V" } : Jvm.MethodName) jdk_68_method_73_code (3 : Nat) (Option.none : Option Jvm.ClassFile.FieldType), Jvm.Cond.code ({ cls := "java/lang/AbstractStringBuilder", name := "inflateIfNeededFor", desc := "(Ljava/lang/String;)V" } : Jvm.MethodName) jdk_68_method_71_code (2 : Nat) (Option.none : Option Jvm.ClassFile.FieldType), Jvm.Cond.code ({ cls := "java/lang/String", name := "getBytes", desc := "([BIB)V" } : Jvm.MethodName) jdk_42_method_147_code (4 : Nat) (Option.none : Option Jvm.ClassFile.FieldType), Jvm.Cond.code ({ cls := "underdeck/deck/SqlText", name := "defaultsOnly", desc := "()Lunderdeck/deck/SqlText;" } : Jvm.MethodName) prog_41_method_14_code (1 : Nat) (Option.some (Jvm.ClassFile.FieldType.object "underdeck/deck/SqlText")), Jvm.Cond.code ({ cls := "underdeck/deck/Dialect", name := "defaultsOnly", desc := "()Ljava/lang/String;" } : Jvm.MethodName) prog_25_method_10_code (1 : Nat) (Option.some (Jvm.ClassFile.FieldType.object "java/lang/String")), Jvm.Cond.code ({ cls := "underdeck/deck/SqlText", name := "plain", desc := "()Ljava/lang/String;" } : Jvm.MethodName) prog_41_method_18_code (1 : Nat) (Option.some (Jvm.ClassFile.FieldType.object "java/lang/String")), Jvm.Cond.code ({ cls := "java/util/ArrayList", name := "isEmpty", desc := "()Z" } : Jvm.MethodName) jdk_38_method_9_code (1 : Nat) (Option.some Jvm.ClassFile.FieldType.boolean), Jvm.Cond.code ({ cls := "java/lang/StringBuilder", name := "toString", desc := "()Ljava/lang/String;" } : Jvm.MethodName) jdk_67_method_42_code (1 : Nat) (Option.some (Jvm.ClassFile.FieldType.object "java/lang/String")), Jvm.Cond.code ({ cls := "java/lang/String", name := "<init>", desc := "(Ljava/lang/StringBuilder;)V" } : Jvm.MethodName) jdk_42_method_53_code (2 : Nat) (Option.none : Option Jvm.ClassFile.FieldType), Jvm.Cond.code ({ cls := "java/lang/String", name := "<init>", desc := "(Ljava/lang/AbstractStringBuilder;Ljava/lang/Void;)V" } : Jvm.MethodName) jdk_42_method_150_code (5 : Nat) (Option.none : Option Jvm.ClassFile.FieldType), Jvm.Cond.code ({ cls := "java/lang/AbstractStringBuilder", name := "getValue", desc := "()[B" } : Jvm.MethodName) jdk_68_method_64_code (1 : Nat) (Option.some (Jvm.ClassFile.FieldType.array Jvm.ClassFile.FieldType.byte)), Jvm.Cond.code ({ cls := "java/lang/StringBuilder", name := "length", desc := "()I" } : Jvm.MethodName) jdk_67_method_93_code (1 : Nat) (Option.some Jvm.ClassFile.FieldType.int), Jvm.Cond.code ({ cls := "java/lang/AbstractStringBuilder", name := "length", desc := "()I" } : Jvm.MethodName) jdk_68_method_6_code (1 : Nat) (Option.some Jvm.ClassFile.FieldType.int), Jvm.Cond.code ({ cls := "java/lang/AbstractStringBuilder", name := "isLatin1", desc := "()Z" } : Jvm.MethodName) jdk_68_method_68_code (1 : Nat) (Option.some Jvm.ClassFile.FieldType.boolean), Jvm.Cond.code ({ cls := "java/util/Arrays", name := "copyOfRange", desc := "([BII)[B" } : Jvm.MethodName) jdk_65_method_132_code (3 : Nat) (Option.some (Jvm.ClassFile.FieldType.array Jvm.ClassFile.FieldType.byte)), Jvm.Cond.code ({ cls := "java/util/Arrays", name := "copyOfRangeByte", desc := "([BII)[B" } : Jvm.MethodName) jdk_65_method_133_code (5 : Nat) (Option.some (Jvm.ClassFile.FieldType.array Jvm.ClassFile.FieldType.byte)), Jvm.Cond.code ({ cls := "java/util/Arrays", name := "checkLength", desc := "(II)V" } : Jvm.MethodName) jdk_65_method_131_code (2 : Nat) (Option.none : Option Jvm.ClassFile.FieldType), Jvm.Cond.code ({ cls := "java/lang/Math", name := "min", desc := "(II)I" } : Jvm.MethodName) jdk_29_method_69_code (2 : Nat) (Option.some Jvm.ClassFile.FieldType.int), Jvm.Cond.code ({ cls := "underdeck/deck/SqlTextDefaultsOnlyPinLaw", name := "tail", desc := "(Ljava/lang/String;ILjava/lang/String;)Z" } : Jvm.MethodName) method_3_code (3 : Nat) (Option.some Jvm.ClassFile.FieldType.boolean), Jvm.Cond.code ({ cls := "underdeck/deck/SqlTextDefaultsOnlyPinLaw", name := "at", desc := "(Ljava/lang/String;ILjava/lang/String;I)Z" } : Jvm.MethodName) method_4_code (4 : Nat) (Option.some Jvm.ClassFile.FieldType.boolean), Jvm.Cond.code ({ cls := "java/lang/String", name := "charAt", desc := "(I)C" } : Jvm.MethodName) jdk_42_method_56_code (2 : Nat) (Option.some Jvm.ClassFile.FieldType.char), Jvm.Cond.code ({ cls := "java/lang/String", name := "isLatin1", desc := "()Z" } : Jvm.MethodName) jdk_42_method_154_code (1 : Nat) (Option.some Jvm.ClassFile.FieldType.boolean), Jvm.Cond.code ({ cls := "java/lang/StringLatin1", name := "charAt", desc := "([BI)C" } : Jvm.MethodName) jdk_43_method_2_code (2 : Nat) (Option.some Jvm.ClassFile.FieldType.char), Jvm.Cond.code ({ cls := "java/lang/String", name := "checkIndex", desc := "(II)V" } : Jvm.MethodName) jdk_42_method_155_code (2 : Nat) (Option.none : Option Jvm.ClassFile.FieldType), Jvm.Cond.code ({ cls := "jdk/internal/util/Preconditions", name := "checkIndex", desc := "(IILjava/util/function/BiFunction;)I" } : Jvm.MethodName) jdk_41_method_11_code (3 : Nat) (Option.some Jvm.ClassFile.FieldType.int), Jvm.Cond.code ({ cls := "java/lang/String", name := "valueOf", desc := "(C)Ljava/lang/String;" } : Jvm.MethodName) jdk_42_method_139_code (1 : Nat) (Option.some (Jvm.ClassFile.FieldType.object "java/lang/String")), Jvm.Cond.code ({ cls := "java/lang/StringLatin1", name := "canEncode", desc := "(C)Z" } : Jvm.MethodName) jdk_43_method_3_code (1 : Nat) (Option.some Jvm.ClassFile.FieldType.boolean), Jvm.Cond.code ({ cls := "java/lang/StringLatin1", name := "toBytes", desc := "(C)[B" } : Jvm.MethodName) jdk_43_method_46_code (1 : Nat) (Option.some (Jvm.ClassFile.FieldType.array Jvm.ClassFile.FieldType.byte)), Jvm.Cond.code ({ cls := "java/lang/String", name := "<init>", desc := "([BB)V" } : Jvm.MethodName) jdk_42_method_151_code (3 : Nat) (Option.none : Option Jvm.ClassFile.FieldType), Jvm.Cond.code ({ cls := "java/lang/String", name := "<init>", desc := "([C)V" } : Jvm.MethodName) jdk_42_method_3_code (2 : Nat) (Option.none : Option Jvm.ClassFile.FieldType), Jvm.Cond.code ({ cls := "java/lang/String", name := "<init>", desc := "([CIILjava/lang/Void;)V" } : Jvm.MethodName) jdk_42_method_149_code (6 : Nat) (Option.none : Option Jvm.ClassFile.FieldType), Jvm.Cond.code ({ cls := "java/lang/StringUTF16", name := "compress", desc := "([CII)[B" } : Jvm.MethodName) jdk_52_method_16_code (6 : Nat) (Option.some (Jvm.ClassFile.FieldType.array Jvm.ClassFile.FieldType.byte)), Jvm.Cond.code ({ cls := "java/lang/StringUTF16", name := "compress", desc := "([CI[BII)I" } : Jvm.MethodName) jdk_52_method_21_code (7 : Nat) (Option.some Jvm.ClassFile.FieldType.int), Jvm.Cond.code ({ cls := "java/lang/StringUTF16", name := "coderFromArrayLen", desc := "([BI)B" } : Jvm.MethodName) jdk_52_method_15_code (2 : Nat) (Option.some Jvm.ClassFile.FieldType.byte), Jvm.Cond.code ({ cls := "java/lang/AbstractStringBuilder", name := "newCapacity", desc := "(I)I" } : Jvm.MethodName) jdk_68_method_10_code (6 : Nat) (Option.some Jvm.ClassFile.FieldType.int), Jvm.Cond.code ({ cls := "jdk/internal/util/ArraysSupport", name := "newLength", desc := "(III)I" } : Jvm.MethodName) jdk_48_method_27_code (4 : Nat) (Option.some Jvm.ClassFile.FieldType.int), Jvm.Cond.code ({ cls := "java/lang/Math", name := "max", desc := "(II)I" } : Jvm.MethodName) jdk_29_method_65_code (2 : Nat) (Option.some Jvm.ClassFile.FieldType.int), Jvm.Cond.code ({ cls := "java/util/Arrays", name := "copyOf", desc := "([BI)[B" } : Jvm.MethodName) jdk_65_method_121_code (3 : Nat) (Option.some (Jvm.ClassFile.FieldType.array Jvm.ClassFile.FieldType.byte))]
set_option maxRecDepth 65536 in
theorem codes_eq : words1.filter isCode = codes1 := rfl
theorem w_codes : ∀ c ∈ words1.filter isCode, c.before args0 about1 = true := by
  rw [codes_eq]
  intro c hc
  simp only [codes1, List.mem_cons, List.not_mem_nil, or_false] at hc
  rcases hc with rfl | rfl | rfl | rfl | rfl | rfl | rfl | rfl | rfl | rfl | rfl | rfl | rfl | rfl | rfl | rfl | rfl | rfl | rfl | rfl | rfl | rfl | rfl | rfl | rfl | rfl | rfl | rfl | rfl | rfl | rfl | rfl | rfl | rfl | rfl | rfl | rfl | rfl | rfl | rfl | rfl | rfl | rfl | rfl | rfl | rfl | rfl | rfl | rfl | rfl | rfl | rfl | rfl | rfl | rfl | rfl
  · exact w_c0
  · exact w_c1
  · exact w_c2
  · exact w_c3
  · exact w_c4
  · exact w_c5
  · exact w_c6
  · exact w_c7
  · exact w_c8
  · exact w_c9
  · exact w_c10
  · exact w_c11
  · exact w_c12
  · exact w_c13
  · exact w_c14
  · exact w_c15
  · exact w_c16
  · exact w_c17
  · exact w_c18
  · exact w_c19
  · exact w_c20
  · exact w_c21
  · exact w_c22
  · exact w_c23
  · exact w_c24
  · exact w_c25
  · exact w_c26
  · exact w_c27
  · exact w_c28
  · exact w_c29
  · exact w_c30
  · exact w_c31
  · exact w_c32
  · exact w_c33
  · exact w_c34
  · exact w_c35
  · exact w_c36
  · exact w_c37
  · exact w_c38
  · exact w_c39
  · exact w_c40
  · exact w_c41
  · exact w_c42
  · exact w_c43
  · exact w_c44
  · exact w_c45
  · exact w_c46
  · exact w_c47
  · exact w_c48
  · exact w_c49
  · exact w_c50
  · exact w_c51
  · exact w_c52
  · exact w_c53
  · exact w_c54
  · exact w_c55
set_option maxRecDepth 65536 in
theorem w_t1 : (words1.take 24).all (fun c => isCode c || c.before args0 about1) = true := by decide +kernel
set_option maxRecDepth 65536 in
theorem w_t2 : ((words1.drop 24).take 24).all (fun c => isCode c || c.before args0 about1) = true := by decide +kernel
set_option maxRecDepth 65536 in
theorem w_t3 : (((words1.drop 24).drop 24).take 24).all (fun c => isCode c || c.before args0 about1) = true := by decide +kernel
set_option maxRecDepth 65536 in
theorem w_t4 : ((((words1.drop 24).drop 24).drop 24).take 24).all (fun c => isCode c || c.before args0 about1) = true := by decide +kernel
set_option maxRecDepth 65536 in
theorem w_t5 : (((((words1.drop 24).drop 24).drop 24).drop 24).take 24).all (fun c => isCode c || c.before args0 about1) = true := by decide +kernel
set_option maxRecDepth 65536 in
theorem w_t6 : ((((((words1.drop 24).drop 24).drop 24).drop 24).drop 24).take 24).all (fun c => isCode c || c.before args0 about1) = true := by decide +kernel
set_option maxRecDepth 65536 in
theorem w_t7 : (((((((words1.drop 24).drop 24).drop 24).drop 24).drop 24).drop 24).take 24).all (fun c => isCode c || c.before args0 about1) = true := by decide +kernel
set_option maxRecDepth 65536 in
theorem w_t8 : ((((((((words1.drop 24).drop 24).drop 24).drop 24).drop 24).drop 24).drop 24).take 24).all (fun c => isCode c || c.before args0 about1) = true := by decide +kernel
set_option maxRecDepth 65536 in
theorem w_t9 : (((((((((words1.drop 24).drop 24).drop 24).drop 24).drop 24).drop 24).drop 24).drop 24).take 24).all (fun c => isCode c || c.before args0 about1) = true := by decide +kernel
set_option maxRecDepth 65536 in
theorem w_t10 : ((((((((((words1.drop 24).drop 24).drop 24).drop 24).drop 24).drop 24).drop 24).drop 24).drop 24).take 24).all (fun c => isCode c || c.before args0 about1) = true := by decide +kernel
set_option maxRecDepth 65536 in
theorem w_t11 : (((((((((((words1.drop 24).drop 24).drop 24).drop 24).drop 24).drop 24).drop 24).drop 24).drop 24).drop 24).take 24).all (fun c => isCode c || c.before args0 about1) = true := by decide +kernel
set_option maxRecDepth 65536 in
theorem w_t12 : ((((((((((((words1.drop 24).drop 24).drop 24).drop 24).drop 24).drop 24).drop 24).drop 24).drop 24).drop 24).drop 24).take 24).all (fun c => isCode c || c.before args0 about1) = true := by decide +kernel
set_option maxRecDepth 65536 in
theorem w_t13 : (((((((((((((words1.drop 24).drop 24).drop 24).drop 24).drop 24).drop 24).drop 24).drop 24).drop 24).drop 24).drop 24).drop 24).take 24).all (fun c => isCode c || c.before args0 about1) = true := by decide +kernel
set_option maxRecDepth 65536 in
theorem w_t14 : (((((((((((((words1.drop 24).drop 24).drop 24).drop 24).drop 24).drop 24).drop 24).drop 24).drop 24).drop 24).drop 24).drop 24).drop 24).all (fun c => isCode c || c.before args0 about1) = true := by decide +kernel
theorem w_tables : (allAtoms (Jvm.Cond.code x code maxLocals ret :: tables_1)).before args0 about1 = true := by
  rw [allAtoms_all]
  show words1.all (fun c => c.before args0 about1) = true
  refine all_split ?_ w_codes
  rw [← List.take_append_drop 24 words1, List.all_append, w_t1, ← List.take_append_drop 24 (words1.drop 24), List.all_append, w_t2, ← List.take_append_drop 24 ((words1.drop 24).drop 24), List.all_append, w_t3, ← List.take_append_drop 24 (((words1.drop 24).drop 24).drop 24), List.all_append, w_t4, ← List.take_append_drop 24 ((((words1.drop 24).drop 24).drop 24).drop 24), List.all_append, w_t5, ← List.take_append_drop 24 (((((words1.drop 24).drop 24).drop 24).drop 24).drop 24), List.all_append, w_t6, ← List.take_append_drop 24 ((((((words1.drop 24).drop 24).drop 24).drop 24).drop 24).drop 24), List.all_append, w_t7, ← List.take_append_drop 24 (((((((words1.drop 24).drop 24).drop 24).drop 24).drop 24).drop 24).drop 24), List.all_append, w_t8, ← List.take_append_drop 24 ((((((((words1.drop 24).drop 24).drop 24).drop 24).drop 24).drop 24).drop 24).drop 24), List.all_append, w_t9, ← List.take_append_drop 24 (((((((((words1.drop 24).drop 24).drop 24).drop 24).drop 24).drop 24).drop 24).drop 24).drop 24), List.all_append, w_t10, ← List.take_append_drop 24 ((((((((((words1.drop 24).drop 24).drop 24).drop 24).drop 24).drop 24).drop 24).drop 24).drop 24).drop 24), List.all_append, w_t11, ← List.take_append_drop 24 (((((((((((words1.drop 24).drop 24).drop 24).drop 24).drop 24).drop 24).drop 24).drop 24).drop 24).drop 24).drop 24), List.all_append, w_t12, ← List.take_append_drop 24 ((((((((((((words1.drop 24).drop 24).drop 24).drop 24).drop 24).drop 24).drop 24).drop 24).drop 24).drop 24).drop 24).drop 24), List.all_append, w_t13, w_t14]
  rfl
set_option maxRecDepth 65536 in
theorem w_rest : rest_1_c.before args0 about1 = true := by decide +kernel
set_option maxRecDepth 65536 in
theorem w_case : (Jvm.Cond.and given_1 narrow_1).before args0 about1 = true := by decide +kernel
set_option maxRecDepth 65536 in
theorem w_consts : constsHeld consts_1 about1 := Jvm.Lit.constsHeldB_iff.mp (by decide +kernel)
theorem w_applies : (headSpec (Jvm.Cond.code x code maxLocals ret :: tables_1) room_1).applies x e0.platform about1 = true :=
  (Spec.applies_iff w_frames).mpr ⟨w_running, w_runnable, w_alone, w_named, w_hears, w_ripe, w_room, w_tables⟩
theorem atStart : AtStart classFile x code maxLocals ret World_1 tables_1 room_1 Calls_1 rest_1 Pre_1 launch0 p0 e0 about1 theMethod args0 below0 :=
  ⟨lists_1, trivial, launch0.admits_env _ _ _, launch0.least_env, fairChoices_fair.cas, fairChoices_fair.clock, w_frames, w_args, w_heap, w_applies, ⟨w_consts, trivial⟩, w_rest, w_case⟩
end start1
theorem witness_1 : WitnessClaimed_1 := ⟨start1.p0, start1.e0, start1.about1, start1.theMethod, start1.args0, start1.below0, start1.atStart⟩
end Jvm.Pilot.@@N@@
