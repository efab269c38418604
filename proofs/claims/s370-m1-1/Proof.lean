import JvmDerived
import JvmDerived.Pilot.@@N@@Statement
import JvmDerived.Pilot.@@N@@Code
set_option linter.unusedVariables false
set_option linter.unusedSimpArgs false
namespace Jvm.RoadKit
open Sem ClassFile Op Lib Jvm.Stand Jvm.Free Jvm.LawKit
section New
variable {p : Program} {l : Launch} {e : Env} {R : Room} {s : State} {m : MethodId} {args : Array Value} {below : List Frame} {meth : Method} {c : Code} {T : State} {locs : List Loc} {cells slots : Nat}
theorem retI (X : Stand p l e R s m args below meth c T locs cells slots) (hx : p.tables.exec = Jvm.exec) {pc : Nat} {Ls : Array Slot} {z : Int32} {rest : List Value} (hret : meth.sig.returnType = some .int) (hd : decode c.code pc = .ok (.ireturn, 1)) {fs : List Frame}
    (hl : ∀ (f : JFrame) (acts : List Action), f.method = m → f.locked = none → f.entered = [] → (doReturn e (T.setTop f) acts (some (.int z))).1 = T.setFrames fs) : Steps p.tables e below (T.setTop (mkF m pc Ls (.int z :: rest))) (T.setFrames fs) := by
  have hm' : T.vm.method? m = some meth := X.method'
  have hn : narrow .int (.int z) = .int z := rfl
  show Steps p.tables e below (T.setTop { method := m, pc := pc, locals := Ls, stack := _ :: rest, locked := none }) _
  jvm_step X.here [X.here.top, hx, hd, hm', hret, hn]
  first | (intro acts; rw [hl _ acts rfl rfl rfl]) | rw [hl _ _ rfl rfl rfl]
  exact Steps.refl _
end New
end Jvm.RoadKit
namespace Jvm.Pilot.@@N@@
open Jvm Jvm.ClassFile Sem Op Lib Jvm.Free Jvm.Stand Jvm.LawKit Jvm.RoadKit Bundle Jvm.Pilot.@@N@@.Jvm.D
theorem own_sa {Z : State} {a0 : Array Value} (hw : ∀ d ∈ tables_1, d.before a0 Z = true) : ∀ a ∈ Bundle.stringAtoms, a.before a0 Z = true := fun a h => by
  simp only [Bundle.stringAtoms, List.mem_cons, List.not_mem_nil, or_false] at h
  rcases h with rfl | rfl | rfl | rfl | rfl | rfl | rfl
  · exact (hw _ (List.mem_of_getElem? (i := 3) rfl))
  · exact (hw _ (List.mem_of_getElem? (i := 11) rfl))
  · exact (hw _ (List.mem_of_getElem? (i := 15) rfl))
  · exact (hw _ (List.mem_of_getElem? (i := 24) rfl))
  · exact (hw _ (List.mem_of_getElem? (i := 26) rfl))
  · exact (hw _ (List.mem_of_getElem? (i := 40) rfl))
  · exact (hw _ (List.mem_of_getElem? (i := 41) rfl))
theorem own_rmono {s t : State} {o : Outcome} {L : List Loc} {k n k' n' : Nat} (h : ReturnedEndW s o t L k n) (hk : k ≤ k') (hn : n ≤ n') : ReturnedEndW s o t L k' n' := ⟨h.1, h.2.1, h.2.2.1, h.2.2.2.mono hk hn⟩
theorem own_c1 (x : Int32) : ¬ ((255 : Int32) < (x &&& (255 : Int32)).toUInt32.toUInt16.toUInt32.toInt32) := by
  rw [i2c_mask, Int32.lt_iff_toInt_lt]
  have e : (x &&& (255 : Int32)).toInt = x.toInt % ((2 ^ 8 : Nat) : Int) := c_mask x _ 8 (by decide) (by decide)
  have n : (255 : Int32).toInt = 255 := by decide
  omega
theorem own_nn (x : Int32) : ¬ ((x &&& (1073741823 : Int32)) < (0 : Int32)) := by
  have e : (x &&& (1073741823 : Int32)).toInt = x.toInt % ((2 ^ 30 : Nat) : Int) := c_mask x _ 30 (by decide) (by decide)
  have n : (0 : Int32).toInt = 0 := by decide
  rw [Int32.lt_iff_toInt_lt]; omega
def own_holds (po pl wo wl : Int32) : Int32 := if wo < po then (0 : Int32) else if (po + pl) < (wo + wl) then (0 : Int32) else (1 : Int32)
theorem own_sum {x y : Int32} (hx : 0 ≤ x.toInt ∧ x.toInt < 1073741824) (hy : 0 ≤ y.toInt ∧ y.toInt < 1073741824) : (x + y).toInt = x.toInt + y.toInt ∧ (x.toInt64 + y.toInt64).toInt = x.toInt + y.toInt := by
  have q := c_iadd x y; have r := rng32 (x + y); have q2 := c_ladd x.toInt64 y.toInt64; have r2 := rng64 (x.toInt64 + y.toInt64)
  have a := c_i2l x; have b := c_i2l y
  omega
theorem own_m (x : Int32) : 0 ≤ (x &&& (1073741823 : Int32)).toInt ∧ (x &&& (1073741823 : Int32)).toInt < 1073741824 := by
  have e : (x &&& (1073741823 : Int32)).toInt = x.toInt % ((2 ^ 30 : Nat) : Int) := c_mask x _ 30 (by decide) (by decide)
  omega
theorem own_s {x y : Int32} : x.toInt64 < y.toInt64 ↔ x < y := by
  rw [Int64.lt_iff_toInt_lt, Int32.lt_iff_toInt_lt, c_i2l, c_i2l]
theorem own_e {a b d e : Int32} : ((a &&& (1073741823 : Int32)).toInt64 + (b &&& (1073741823 : Int32)).toInt64) < ((d &&& (1073741823 : Int32)).toInt64 + (e &&& (1073741823 : Int32)).toInt64) ↔ ((a &&& (1073741823 : Int32)) + (b &&& (1073741823 : Int32))) < ((d &&& (1073741823 : Int32)) + (e &&& (1073741823 : Int32))) := by
  have p := own_sum (own_m a) (own_m b); have q := own_sum (own_m d) (own_m e)
  rw [Int64.lt_iff_toInt_lt, Int32.lt_iff_toInt_lt]; omega
theorem pn_0 : plainName "java/lang/StringLatin1" = true := by first | (simp [plainName, overriddenIn]; done) | decide +kernel
theorem ef_2 (m : MethodId) (x0 : Int32) : entryFrame m #[(.int x0)] 1 = mkF m 0 #[.val (.int x0)] [] := by first | (simp [entryFrame, mkF, argsToLocals, Value.category]; done) | rfl
theorem d2_0 : decode jdk_43_method_3_code 0 = .ok (.iload_n 0, 1) := by decide +kernel
theorem d2_1 : decode jdk_43_method_3_code 1 = .ok (.sipush 255, 3) := by decide +kernel
theorem d2_4 : decode jdk_43_method_3_code 4 = .ok (.if_icmp .gt 7, 3) := by decide +kernel
theorem d2_7 : decode jdk_43_method_3_code 7 = .ok (.iconst 1, 1) := by decide +kernel
theorem d2_8 : decode jdk_43_method_3_code 8 = .ok (.goto 4, 3) := by decide +kernel
theorem d2_12 : decode jdk_43_method_3_code 12 = .ok (.ireturn, 1) := by decide +kernel
def Q2 (Z : State) (p1 : Int32) (h0 : Heap) (n0 : Nat) (v : Option Value) (h : Heap) (L : List Loc) : Prop := v = some (.int (1 : Int32)) ∧ Fr n0 L ∧ (h = h0)
set_option maxRecDepth 65536 in
set_option maxHeartbeats 40000000 in
theorem rm2 (l : Launch) (Z : State) (a0 : Array Value) (hw : ∀ d ∈ tables_1, d.before a0 Z = true) (ws : List Jvm.Cond) (p1 : Int32) (h0 : Heap) (n0 : Nat) (Z0 : n0 ≤ h0.size) (h1 : ¬ ((255 : Int32) < p1)) :
    MetFree l (⟨"java/lang/StringLatin1", "canEncode", "(C)Z"⟩ : MethodName) (head1 (Jvm.Cond.code (⟨"java/lang/StringLatin1", "canEncode", "(C)Z"⟩ : MethodName) jdk_43_method_3_code 1 (some .boolean) :: ws) ({ frames := 0, cells := 0, slots := 0, locals := 0 } : Room)) (fun a U => a = #[(.int p1)] ∧ Z.Warmed39 U.vm ∧ U.heap = h0) (fun _ _ _ _ _ => True) (fun _ U o U' => ∃ v L, o = .returned v ∧ Q2 Z p1 h0 n0 v U'.heap L ∧ FrameEnd U o U' L ({ frames := 0, cells := 0, slots := 0, locals := 0 } : Room).cells ({ frames := 0, cells := 0, slots := 0, locals := 0 } : Room).slots) := by
  refine MetFree.of_bodySF (plainFor_of_name pn_0) hisR ?_
  intro p e s m args below meth c s₁ Bd hml0 hP hK
  obtain ⟨rfl, hZ0, hh⟩ := hP
  have hx := Bd.exec
  have hby := Bd.bytes
  have hml : c.maxLocals = 1 := hml0
  have hown0 : s.vm.findClass "java/lang/StringLatin1" = some m.cls := findClass_of_methodNamed Bd.named
  have hnm := (name_of_methodNamed Bd.named Bd.method).1
  have hlk : meth.locks = false := by first | exact BodyLoose.notSynchronized Bd | exact Body.notSynchronized Bd
  have X0 : Stand p l e ({ frames := 0, cells := 0, slots := 0, locals := 0 } : Room) s m #[(.int p1)] below meth c s₁ [] 0 0 := Stand.of_body Bd
  have e0 : s₁.heap = h0 := by rw [← hh, Bd.state]; rfl
  have N0 := Fr.nil n0
  have pre0 : ∀ t, Steps p.tables e below (s₁.setTop (mkF m 0 #[.val (.int p1)] [])) t → Steps p.tables e below (s₁.setTop (entryFrame m #[(.int p1)] 1)) t := fun t k => castTop (ef_2 m p1) k
  obtain ⟨fs, hr, hrun, hended, hW, hsame⟩ := X0.leave (v := some (.int (1 : Int32))) (fun h => by rw [Bd.returns] at h; cases h) hlk
  refine ⟨_, _, pre0 _ ?_, hrun, hended, _, _, rfl, ?_, ⟨_, rfl⟩, hW, hsame.mono (by decide) (by decide)⟩
  · show Steps p.tables e below (s₁.setTop (mkF m 0 #[.val (.int p1)] [])) _
    refine XS.iloadN X0.here hx rfl (hb hby d2_0) rfl ?_
    show Steps p.tables e below (s₁.setTop (mkF m 1 #[.val (.int p1)] [(.int p1)])) _
    refine XS.sipush X0.here hx rfl (hb hby d2_1) ?_
    show Steps p.tables e below (s₁.setTop (mkF m 4 #[.val (.int p1)] [(.int (255 : Int32)), (.int p1)])) _
    refine XS.icmpNo X0.here hx rfl (hb hby d2_4) rfl (flt h1).2.2.1 ?_
    show Steps p.tables e below (s₁.setTop (mkF m 7 #[.val (.int p1)] [])) _
    refine XS.iconst X0.here hx rfl (hb hby d2_7) ?_
    show Steps p.tables e below (s₁.setTop (mkF m 8 #[.val (.int p1)] [(.int (1 : Int32))])) _
    refine XS.goto X0.here hx rfl (pc0 := 8) (pc' := 12) rfl (hb hby d2_8) (by decide) (by decide) ?_
    show Steps p.tables e below (s₁.setTop (mkF m 12 #[.val (.int p1)] [(.int (1 : Int32))])) _
    exact retN X0 hx (t := .boolean) Bd.returns (by simp) (hb hby d2_12) hr
  · show Q2 Z p1 h0 n0 _ s₁.heap _
    rw [e0]
    exact ⟨rfl, N0, rfl⟩
theorem ef_3 (m : MethodId) (x0 : Int32) : entryFrame m #[(.int x0)] 1 = mkF m 0 #[.val (.int x0)] [] := by first | (simp [entryFrame, mkF, argsToLocals, Value.category]; done) | rfl
theorem d3_0 : decode jdk_43_method_46_code 0 = .ok (.iconst 1, 1) := by decide +kernel
theorem d3_1 : decode jdk_43_method_46_code 1 = .ok (.newarray .byte, 2) := by decide +kernel
theorem d3_3 : decode jdk_43_method_46_code 3 = .ok (.dup, 1) := by decide +kernel
theorem d3_4 : decode jdk_43_method_46_code 4 = .ok (.iconst 0, 1) := by decide +kernel
theorem d3_5 : decode jdk_43_method_46_code 5 = .ok (.iload_n 0, 1) := by decide +kernel
theorem d3_6 : decode jdk_43_method_46_code 6 = .ok (.i2b, 1) := by decide +kernel
theorem d3_7 : decode jdk_43_method_46_code 7 = .ok (.bastore, 1) := by decide +kernel
theorem d3_8 : decode jdk_43_method_46_code 8 = .ok (.areturn, 1) := by decide +kernel
def Q3 (Z : State) (p1 : Int32) (h0 : Heap) (n0 : Nat) (v : Option Value) (h : Heap) (L : List Loc) : Prop := ∃ b : Addr, v = some (.ref b) ∧ Fr n0 L ∧ (Keep h0 h [])
set_option maxRecDepth 65536 in
set_option maxHeartbeats 40000000 in
theorem rm3 (l : Launch) (Z : State) (a0 : Array Value) (hw : ∀ d ∈ tables_1, d.before a0 Z = true) (ws : List Jvm.Cond) (p1 : Int32) (h0 : Heap) (n0 : Nat) (Z0 : n0 ≤ h0.size) :
    MetFree l (⟨"java/lang/StringLatin1", "toBytes", "(C)[B"⟩ : MethodName) (head1 (Jvm.Cond.code (⟨"java/lang/StringLatin1", "toBytes", "(C)[B"⟩ : MethodName) jdk_43_method_46_code 1 (some (.array .byte)) :: ws) ({ frames := 0, cells := 1, slots := 1, locals := 0 } : Room)) (fun a U => a = #[(.int p1)] ∧ Z.Warmed39 U.vm ∧ U.heap = h0) (fun _ _ _ _ _ => True) (fun _ U o U' => ∃ v L, o = .returned v ∧ Q3 Z p1 h0 n0 v U'.heap L ∧ FrameEnd U o U' L ({ frames := 0, cells := 1, slots := 1, locals := 0 } : Room).cells ({ frames := 0, cells := 1, slots := 1, locals := 0 } : Room).slots) := by
  refine MetFree.of_bodySF (plainFor_of_name pn_0) hisR ?_
  intro p e s m args below meth c s₁ Bd hml0 hP hK
  obtain ⟨rfl, hZ0, hh⟩ := hP
  have hx := Bd.exec
  have hby := Bd.bytes
  have hml : c.maxLocals = 1 := hml0
  have hown0 : s.vm.findClass "java/lang/StringLatin1" = some m.cls := findClass_of_methodNamed Bd.named
  have hnm := (name_of_methodNamed Bd.named Bd.method).1
  have hlk : meth.locks = false := by first | exact BodyLoose.notSynchronized Bd | exact Body.notSynchronized Bd
  have X0 : Stand p l e ({ frames := 0, cells := 1, slots := 1, locals := 0 } : Room) s m #[(.int p1)] below meth c s₁ [] 0 0 := Stand.of_body Bd
  have e0 : s₁.heap = h0 := by rw [← hh, Bd.state]; rfl
  have N0 := Fr.nil n0
  have pre0 : ∀ t, Steps p.tables e below (s₁.setTop (mkF m 0 #[.val (.int p1)] [])) t → Steps p.tables e below (s₁.setTop (entryFrame m #[(.int p1)] 1)) t := fun t k => castTop (ef_3 m p1) k
  obtain ⟨T101, h101, k101, X101, e101, E101, A101, st101⟩ := newP X0 hx hZ0 (hw _ (List.mem_of_getElem? (i := 15) rfl)) e0 (g := (mkF m 1 #[.val (.int p1)] [(.int (1 : Int32))])) rfl (hb hby d3_1) rfl (by decide) (cap := 1) (by decide) (by decide) (by decide) (by decide)
  obtain ⟨b101, g101⟩ : ∃ z, z = h0.size := ⟨_, rfl⟩
  rw [← g101] at A101 st101
  have gn_b101 : n0 ≤ b101 := Nat.le_trans Z0 (Nat.le_of_eq g101.symm)
  have sz_b101 : h0.size ≤ b101 := Nat.le_trans (Keep.refl h0 []).1 (Nat.le_of_eq g101.symm)
  have Zs101 : n0 ≤ h101.size := Nat.le_trans Z0 E101.1
  have K101 : Keep h0 h101 [] := (Keep.refl h0 []).ext E101
  obtain ⟨T102, h102, X102, e102, W102, st102⟩ := stB X101 hx hZ0 e101 A101 (j := (0 : Int32)) (inb_of (z := (1 : Int32)) (sz_new _ _ _) ⟨by decide, by decide⟩) (g := (mkF m 7 #[.val (.int p1)] [(.int (p1.toInt8.toInt32)), (.int (0 : Int32)), (.ref b101), (.ref b101)])) rfl rfl (hb hby d3_7)
  have Zs102 : n0 ≤ h102.size := Nat.le_trans Zs101 (Keep.of_wr W102).1
  have N102 := Fr.snoc X102 N0 gn_b101
  have K102 : Keep h0 h102 [] := K101.wr W102 (Or.inr sz_b101)
  obtain ⟨fs, hr, hrun, hended, hW, hsame⟩ := X102.leave (v := some (.ref b101)) (fun h => by rw [Bd.returns] at h; cases h) hlk
  refine ⟨_, _, pre0 _ ?_, hrun, hended, _, _, rfl, ?_, ⟨_, rfl⟩, hW, hsame.mono (by decide) (by decide)⟩
  · show Steps p.tables e below (s₁.setTop (mkF m 0 #[.val (.int p1)] [])) _
    refine XS.iconst X0.here hx rfl (hb hby d3_0) ?_
    show Steps p.tables e below (s₁.setTop (mkF m 1 #[.val (.int p1)] [(.int (1 : Int32))])) _
    refine st101 _ ?_
    show Steps p.tables e below (T101.setTop (mkF m 3 #[.val (.int p1)] [(.ref b101)])) _
    refine XS.dup X101.here hx rfl (hb hby d3_3) rfl rfl ?_
    show Steps p.tables e below (T101.setTop (mkF m 4 #[.val (.int p1)] [(.ref b101), (.ref b101)])) _
    refine XS.iconst X101.here hx rfl (hb hby d3_4) ?_
    show Steps p.tables e below (T101.setTop (mkF m 5 #[.val (.int p1)] [(.int (0 : Int32)), (.ref b101), (.ref b101)])) _
    refine XS.iloadN X101.here hx rfl (hb hby d3_5) rfl ?_
    show Steps p.tables e below (T101.setTop (mkF m 6 #[.val (.int p1)] [(.int p1), (.int (0 : Int32)), (.ref b101), (.ref b101)])) _
    refine XS.i2b X101.here hx rfl (hb hby d3_6) rfl ?_
    show Steps p.tables e below (T101.setTop (mkF m 7 #[.val (.int p1)] [(.int (p1.toInt8.toInt32)), (.int (0 : Int32)), (.ref b101), (.ref b101)])) _
    refine st102 _ ?_
    show Steps p.tables e below (T102.setTop (mkF m 8 #[.val (.int p1)] [(.ref b101)])) _
    jvm_step X102.here [X102.here.top, hx, (hb hby d3_8), X102.method', Bd.returns, Value.isRef, FieldType.isReference]
    first | (intro acts; rw [hr _ acts rfl rfl rfl]) | rw [hr _ _ rfl rfl rfl]
    exact Steps.refl _
  · show Q3 Z p1 h0 n0 _ T102.heap _
    rw [e102]
    exact ⟨b101, rfl, N102, K102⟩
theorem pn_1 : plainName "java/lang/String" = true := by first | (simp [plainName, overriddenIn]; done) | decide +kernel
theorem ef_4 (m : MethodId) (x0 : Addr) (x1 : Addr) (x2 : Int32) : entryFrame m #[(.ref x0), (.ref x1), (.int x2)] 3 = mkF m 0 #[.val (.ref x0), .val (.ref x1), .val (.int x2)] [] := by first | (simp [entryFrame, mkF, argsToLocals, Value.category]; done) | rfl
theorem d4_0 : decode jdk_42_method_151_code 0 = .ok (.aload_n 0, 1) := by decide +kernel
theorem d4_1 : decode jdk_42_method_151_code 1 = .ok (.invokespecial 1, 3) := by decide +kernel
theorem d4_4 : decode jdk_42_method_151_code 4 = .ok (.aload_n 0, 1) := by decide +kernel
theorem d4_5 : decode jdk_42_method_151_code 5 = .ok (.aload_n 1, 1) := by decide +kernel
theorem d4_6 : decode jdk_42_method_151_code 6 = .ok (.putfield 9, 3) := by decide +kernel
theorem d4_9 : decode jdk_42_method_151_code 9 = .ok (.aload_n 0, 1) := by decide +kernel
theorem d4_10 : decode jdk_42_method_151_code 10 = .ok (.iload_n 2, 1) := by decide +kernel
theorem d4_11 : decode jdk_42_method_151_code 11 = .ok (.putfield 15, 3) := by decide +kernel
theorem d4_14 : decode jdk_42_method_151_code 14 = .ok (.return_, 1) := by decide +kernel
def Q4 (Z : State) (a1 : Addr) (a2 : Addr) (p3 : Int32) (h0 : Heap) (n0 : Nat) (v : Option Value) (h : Heap) (L : List Loc) : Prop := v = none ∧ Fr n0 L ∧ (Keep h0 h [a1])
set_option maxRecDepth 65536 in
set_option maxHeartbeats 40000000 in
theorem rm4 (l : Launch) (Z : State) (a0 : Array Value) (hw : ∀ d ∈ tables_1, d.before a0 Z = true) (ws : List Jvm.Cond) (a1 : Addr) (a2 : Addr) (p3 : Int32) (h0 : Heap) (n0 : Nat) (Z0 : n0 ≤ h0.size) (E1 : Exa Z h0 a1 "java/lang/String") (g1 : n0 ≤ a1) (F1 : Fld Z h0 a1 "java/lang/String" "value" "[B" .null) (F2 : Fld Z h0 a1 "java/lang/String" "coder" "B" (.int (0 : Int32))) :
    MetFree l (⟨"java/lang/String", "<init>", "([BB)V"⟩ : MethodName) (head1 (Jvm.Cond.code (⟨"java/lang/String", "<init>", "([BB)V"⟩ : MethodName) jdk_42_method_151_code 3 none :: ws) ({ frames := 1, cells := 0, slots := 0, locals := 12 } : Room)) (fun a U => a = #[(.ref a1), (.ref a2), (.int p3)] ∧ Z.Warmed39 U.vm ∧ U.heap = h0) (fun _ _ _ _ _ => True) (fun _ U o U' => ∃ v L, o = .returned v ∧ Q4 Z a1 a2 p3 h0 n0 v U'.heap L ∧ FrameEnd U o U' L ({ frames := 1, cells := 0, slots := 0, locals := 12 } : Room).cells ({ frames := 1, cells := 0, slots := 0, locals := 12 } : Room).slots) := by
  refine MetFree.of_bodySF (plainFor_of_name pn_1) hisR ?_
  intro p e s m args below meth c s₁ Bd hml0 hP hK
  obtain ⟨rfl, hZ0, hh⟩ := hP
  have hx := Bd.exec
  have hby := Bd.bytes
  have hml : c.maxLocals = 3 := hml0
  have hown0 : s.vm.findClass "java/lang/String" = some m.cls := findClass_of_methodNamed Bd.named
  have hnm := (name_of_methodNamed Bd.named Bd.method).1
  have hlk : meth.locks = false := by first | exact BodyLoose.notSynchronized Bd | exact Body.notSynchronized Bd
  have X0 : Stand p l e ({ frames := 1, cells := 0, slots := 0, locals := 12 } : Room) s m #[(.ref a1), (.ref a2), (.int p3)] below meth c s₁ [] 0 0 := Stand.of_body Bd
  have e0 : s₁.heap = h0 := by rw [← hh, Bd.state]; rfl
  have N0 := Fr.nil n0
  have pre0 : ∀ t, Steps p.tables e below (s₁.setTop (mkF m 0 #[.val (.ref a1), .val (.ref a2), .val (.int p3)] [])) t → Steps p.tables e below (s₁.setTop (entryFrame m #[(.ref a1), (.ref a2), (.int p3)] 3)) t := fun t k => castTop (ef_4 m a1 a2 p3) k
  obtain ⟨T101, X101, e101, st101⟩ := initO X0 hx hZ0 hown0 (hw _ (List.mem_of_getElem? (i := 20) rfl)) (hw _ (List.mem_of_getElem? (i := 21) rfl)) (hw _ (List.mem_of_getElem? (i := 22) rfl)) e0 (g := (mkF m 1 #[.val (.ref a1), .val (.ref a2), .val (.int p3)] [(.ref a1)])) rfl (by rw [hml]; rfl) rfl (hb hby d4_1) (by decide) (W := 0) (by show 2 * 0 + _ ≤ _; exact Nat.le_of_eq rfl) (by decide)
  obtain ⟨T102, h102, X102, e102, W102, st102⟩ := putF X101 hx hZ0 hown0 (host := "") (Or.inl (hw _ (List.mem_of_getElem? (i := 23) rfl))) Via.refl e101 F1 E1 (Or.inr ⟨(hw _ (List.mem_of_getElem? (i := 24) rfl)), rfl, hnm⟩) (hw _ (List.mem_of_getElem? (i := 11) rfl)) (ty := (.array .byte)) (by decide) rfl rfl (g := (mkF m 6 #[.val (.ref a1), .val (.ref a2), .val (.int p3)] [(.ref a2), (.ref a1)])) rfl rfl (hb hby d4_6)
  have f103 : Exa Z h102 a1 "java/lang/String" := Exa.wr W102 E1
  have f104 : Fld Z h102 a1 "java/lang/String" "coder" "B" (.int (0 : Int32)) := Fld.other W102 F2 (Or.inr (slot_ne (Or.inr (hw _ (List.mem_of_getElem? (i := 26) rfl))) (Or.inr (hw _ (List.mem_of_getElem? (i := 24) rfl))) (by decide) (t := .byte) (t' := (.array .byte)) (by decide) (by decide)))
  have f105 : Fld Z h102 a1 "java/lang/String" "value" "[B" (.ref a2) := F1.same W102
  have Zs102 : n0 ≤ h102.size := Nat.le_trans Z0 (Keep.of_wr W102).1
  have N102 := Fr.snoc X102 N0 g1
  have K102 : Keep h0 h102 [a1] := (Keep.refl h0 [a1]).wr W102 (Or.inl (List.mem_of_getElem? (i := 0) rfl))
  obtain ⟨T106, h106, X106, e106, W106, st106⟩ := putFN X102 hx hZ0 hown0 (hw _ (List.mem_of_getElem? (i := 25) rfl)) Via.refl e102 f104 f103 (Or.inr ⟨(hw _ (List.mem_of_getElem? (i := 26) rfl)), rfl, hnm⟩) (hw _ (List.mem_of_getElem? (i := 11) rfl)) (ty := .byte) (v' := (.int (p3.toInt8.toInt32))) (by decide) rfl (fits_nar_byte _) (g := (mkF m 11 #[.val (.ref a1), .val (.ref a2), .val (.int p3)] [(.int p3), (.ref a1)])) rfl rfl (hb hby d4_11)
  have f107 : Exa Z h106 a1 "java/lang/String" := Exa.wr W106 f103
  have f108 : Fld Z h106 a1 "java/lang/String" "value" "[B" (.ref a2) := Fld.other W106 f105 (Or.inr (slot_ne (Or.inr (hw _ (List.mem_of_getElem? (i := 24) rfl))) (Or.inr (hw _ (List.mem_of_getElem? (i := 26) rfl))) (by decide) (t := (.array .byte)) (t' := .byte) (by decide) (by decide)))
  have f109 : Fld Z h106 a1 "java/lang/String" "coder" "B" (.int (p3.toInt8.toInt32)) := f104.same W106
  have Zs106 : n0 ≤ h106.size := Nat.le_trans Zs102 (Keep.of_wr W106).1
  have N106 := Fr.snoc X106 N102 g1
  have K106 : Keep h0 h106 [a1] := K102.wr W106 (Or.inl (List.mem_of_getElem? (i := 0) rfl))
  obtain ⟨fs, hr, hrun, hended, hW, hsame⟩ := X106.leave (v := none) (fun _ => rfl) hlk
  refine ⟨_, _, pre0 _ ?_, hrun, hended, _, _, rfl, ?_, ⟨_, rfl⟩, hW, hsame.mono (by decide) (by decide)⟩
  · show Steps p.tables e below (s₁.setTop (mkF m 0 #[.val (.ref a1), .val (.ref a2), .val (.int p3)] [])) _
    refine XS.aloadN X0.here hx rfl (hb hby d4_0) rfl rfl ?_
    show Steps p.tables e below (s₁.setTop (mkF m 1 #[.val (.ref a1), .val (.ref a2), .val (.int p3)] [(.ref a1)])) _
    refine st101 _ ?_
    show Steps p.tables e below (T101.setTop (mkF m 4 #[.val (.ref a1), .val (.ref a2), .val (.int p3)] [])) _
    refine XS.aloadN X101.here hx rfl (hb hby d4_4) rfl rfl ?_
    show Steps p.tables e below (T101.setTop (mkF m 5 #[.val (.ref a1), .val (.ref a2), .val (.int p3)] [(.ref a1)])) _
    refine XS.aloadN X101.here hx rfl (hb hby d4_5) rfl rfl ?_
    show Steps p.tables e below (T101.setTop (mkF m 6 #[.val (.ref a1), .val (.ref a2), .val (.int p3)] [(.ref a2), (.ref a1)])) _
    refine st102 _ ?_
    show Steps p.tables e below (T102.setTop (mkF m 9 #[.val (.ref a1), .val (.ref a2), .val (.int p3)] [])) _
    refine XS.aloadN X102.here hx rfl (hb hby d4_9) rfl rfl ?_
    show Steps p.tables e below (T102.setTop (mkF m 10 #[.val (.ref a1), .val (.ref a2), .val (.int p3)] [(.ref a1)])) _
    refine XS.iloadN X102.here hx rfl (hb hby d4_10) rfl ?_
    show Steps p.tables e below (T102.setTop (mkF m 11 #[.val (.ref a1), .val (.ref a2), .val (.int p3)] [(.int p3), (.ref a1)])) _
    refine st106 _ ?_
    show Steps p.tables e below (T106.setTop (mkF m 14 #[.val (.ref a1), .val (.ref a2), .val (.int p3)] [])) _
    exact X106.returnOut hx Bd.returns (hb hby d4_14) hr
  · show Q4 Z a1 a2 p3 h0 n0 _ T106.heap _
    rw [e106]
    exact ⟨rfl, N106, K106⟩
theorem ef_1 (m : MethodId) (x0 : Int32) : entryFrame m #[(.int x0)] 1 = mkF m 0 #[.val (.int x0)] [] := by first | (simp [entryFrame, mkF, argsToLocals, Value.category]; done) | rfl
theorem d1_0 : decode jdk_42_method_139_code 0 = .ok (.getstatic 38, 3) := by decide +kernel
theorem d1_3 : decode jdk_42_method_139_code 3 = .ok (.ifCond .eq 23, 3) := by decide +kernel
theorem d1_6 : decode jdk_42_method_139_code 6 = .ok (.iload_n 0, 1) := by decide +kernel
theorem d1_7 : decode jdk_42_method_139_code 7 = .ok (.invokestatic 1015, 3) := by decide +kernel
theorem pd_0 : parseMethodDescriptor "(C)Z" = some ⟨[.char], some .boolean⟩ := by decide +kernel
theorem d1_10 : decode jdk_42_method_139_code 10 = .ok (.ifCond .eq 16, 3) := by decide +kernel
theorem d1_13 : decode jdk_42_method_139_code 13 = .ok (.new 10, 3) := by decide +kernel
theorem d1_16 : decode jdk_42_method_139_code 16 = .ok (.dup, 1) := by decide +kernel
theorem d1_17 : decode jdk_42_method_139_code 17 = .ok (.iload_n 0, 1) := by decide +kernel
theorem d1_18 : decode jdk_42_method_139_code 18 = .ok (.invokestatic 1018, 3) := by decide +kernel
theorem pd_1 : parseMethodDescriptor "(C)[B" = some ⟨[.char], some (.array .byte)⟩ := by decide +kernel
theorem d1_21 : decode jdk_42_method_139_code 21 = .ok (.iconst 0, 1) := by decide +kernel
theorem d1_22 : decode jdk_42_method_139_code 22 = .ok (.invokespecial 209, 3) := by decide +kernel
theorem pd_2 : parseMethodDescriptor "([BB)V" = some ⟨[(.array .byte), .byte], none⟩ := by decide +kernel
theorem d1_25 : decode jdk_42_method_139_code 25 = .ok (.areturn, 1) := by decide +kernel
def Q1 (Z : State) (p1 : Int32) (w : Int32) (h0 : Heap) (n0 : Nat) (v : Option Value) (h : Heap) (L : List Loc) : Prop := ∃ b : Addr, v = some (.ref b) ∧ Fr n0 L ∧ (Keep h0 h [])
set_option maxRecDepth 65536 in
set_option maxHeartbeats 40000000 in
theorem rm1 (l : Launch) (Z : State) (a0 : Array Value) (hw : ∀ d ∈ tables_1, d.before a0 Z = true) (ws : List Jvm.Cond) (p1 : Int32) (w : Int32) (h0 : Heap) (n0 : Nat) (Z0 : n0 ≤ h0.size) (O0 : Old Z n0 h0) (S0 : Sta Z Z.heap "java/lang/String" "COMPACT_STRINGS" "Z" (.int w)) (hw0 : ¬ (w = (0 : Int32))) (h1 : ¬ ((255 : Int32) < p1)) :
    MetFree l (⟨"java/lang/String", "valueOf", "(C)Ljava/lang/String;"⟩ : MethodName) (head1 (Jvm.Cond.code (⟨"java/lang/String", "valueOf", "(C)Ljava/lang/String;"⟩ : MethodName) jdk_42_method_139_code 1 (some (.object "java/lang/String")) :: ws) ({ frames := 2, cells := 2, slots := 5, locals := 27 } : Room)) (fun a U => a = #[(.int p1)] ∧ Z.Warmed39 U.vm ∧ U.heap = h0) (fun _ _ _ _ _ => True) (fun _ U o U' => ∃ v L, o = .returned v ∧ Q1 Z p1 w h0 n0 v U'.heap L ∧ FrameEnd U o U' L ({ frames := 2, cells := 2, slots := 5, locals := 27 } : Room).cells ({ frames := 2, cells := 2, slots := 5, locals := 27 } : Room).slots) := by
  refine MetFree.of_bodySF (plainFor_of_name pn_1) hisR ?_
  intro p e s m args below meth c s₁ Bd hml0 hP hK
  obtain ⟨rfl, hZ0, hh⟩ := hP
  have hx := Bd.exec
  have hby := Bd.bytes
  have hml : c.maxLocals = 1 := hml0
  have hown0 : s.vm.findClass "java/lang/String" = some m.cls := findClass_of_methodNamed Bd.named
  have hnm := (name_of_methodNamed Bd.named Bd.method).1
  have hlk : meth.locks = false := by first | exact BodyLoose.notSynchronized Bd | exact Body.notSynchronized Bd
  have X0 : Stand p l e ({ frames := 2, cells := 2, slots := 5, locals := 27 } : Room) s m #[(.int p1)] below meth c s₁ [] 0 0 := Stand.of_body Bd
  have e0 : s₁.heap = h0 := by rw [← hh, Bd.state]; rfl
  have N0 := Fr.nil n0
  have pre0 : ∀ t, Steps p.tables e below (s₁.setTop (mkF m 0 #[.val (.int p1)] [])) t → Steps p.tables e below (s₁.setTop (entryFrame m #[(.int p1)] 1)) t := fun t k => castTop (ef_1 m p1) k
  obtain ⟨T101, X101, e101, st101⟩ := getS2 X0 hx hZ0 hown0 (host := "") (Or.inl (hw _ (List.mem_of_getElem? (i := 5) rfl))) Via.refl e0 (Sta.ext O0.2 S0) (g := (mkF m 0 #[.val (.int p1)] [])) rfl (hb hby d1_0)
  obtain ⟨_, _, ⟨T102, L102, k102, n102⟩, -, X102, ⟨Lc102, hQ102, l102, y102, z102⟩, st102⟩ := Jvm.LawKit.callS X101 hx (y := (⟨"java/lang/StringLatin1", "canEncode", "(C)Z"⟩ : MethodName)) hown0 (mvT hZ0 (hw _ (List.mem_of_getElem? (i := 6) rfl))) (mvT hZ0 (hw _ (List.mem_of_getElem? (i := 7) rfl))) (mvT hZ0 (hw _ (List.mem_of_getElem? (i := 8) rfl))) (mvT hZ0 (hw _ (List.mem_of_getElem? (i := 9) rfl))) (by decide) (backOf (W := 0) (rm2 l Z a0 hw [] p1 h0 n0 Z0 h1) hZ0 (hw _ (List.mem_of_getElem? (i := 9) rfl)) (hw _ (List.mem_of_getElem? (i := 8) rfl)) (by decide) (by decide)) (g := (mkF m 7 #[.val (.int p1)] [(.int p1)])) rfl (by rw [hml]; rfl) (argsL := [(.int p1)]) (rest := []) (lenOf pd_0 rfl) rfl (by show 2 * 0 + _ ≤ _; exact Nat.le_of_eq rfl) (hb hby d1_7) (fun _ _ => ⟨rfl, e101, (by decide : 0 + 0 ≤ _), (by decide : 0 + 0 ≤ _)⟩)
  dsimp only [Pt.U, Pt.locs, Pt.cells, Pt.slots] at X102 l102 y102 z102 st102 hQ102
  subst l102 y102 z102
  obtain ⟨rfl, N102q, P102_0⟩ := hQ102
  have N102 := Fr.app N0 N102q
  obtain ⟨T103, h103, X103, e103, E103, A103, D103, -, st103⟩ := newO X102 hx hZ0 hown0 (hw _ (List.mem_of_getElem? (i := 10) rfl)) (hw _ (List.mem_of_getElem? (i := 11) rfl)) (hw _ (List.mem_of_getElem? (i := 3) rfl)) P102_0 (g := (mkF m 13 #[.val (.int p1)] [])) rfl (hb hby d1_13) (by decide) (by decide)
  obtain ⟨b103, g103⟩ : ∃ z, z = h0.size := ⟨_, rfl⟩
  rw [← g103] at A103 D103 st103
  have gn_b103 : n0 ≤ b103 := Nat.le_trans Z0 (Nat.le_of_eq g103.symm)
  have sz_b103 : h0.size ≤ b103 := Nat.le_trans (Keep.refl h0 []).1 (Nat.le_of_eq g103.symm)
  have f104 : Old Z n0 h103 := O0.ext E103
  have Zs103 : n0 ≤ h103.size := Nat.le_trans Z0 E103.1
  have K103 : Keep h0 h103 [] := (Keep.refl h0 []).ext E103
  have f105 : Fld Z h103 b103 "java/lang/String" "value" "[B" .null := D103 (Or.inr (hw _ (List.mem_of_getElem? (i := 24) rfl))) (ty := (.array .byte)) (by decide)
  have f106 : Fld Z h103 b103 "java/lang/String" "coder" "B" (.int (0 : Int32)) := D103 (Or.inr (hw _ (List.mem_of_getElem? (i := 26) rfl))) (ty := .byte) (by decide)
  obtain ⟨_, _, ⟨T107, L107, k107, n107⟩, -, X107, ⟨Lc107, hQ107, l107, y107, z107⟩, st107⟩ := Jvm.LawKit.callS X103 hx (y := (⟨"java/lang/StringLatin1", "toBytes", "(C)[B"⟩ : MethodName)) hown0 (mvT hZ0 (hw _ (List.mem_of_getElem? (i := 12) rfl))) (mvT hZ0 (hw _ (List.mem_of_getElem? (i := 13) rfl))) (mvT hZ0 (hw _ (List.mem_of_getElem? (i := 8) rfl))) (mvT hZ0 (hw _ (List.mem_of_getElem? (i := 14) rfl))) (by decide) (backOf (W := 2) (rm3 l Z a0 hw [] p1 h103 n0 Zs103 ) hZ0 (hw _ (List.mem_of_getElem? (i := 14) rfl)) (hw _ (List.mem_of_getElem? (i := 8) rfl)) (by decide) (by decide)) (g := (mkF m 18 #[.val (.int p1)] [(.int p1), (.ref b103), (.ref b103)])) rfl (by rw [hml]; rfl) (argsL := [(.int p1)]) (rest := [(.ref b103), (.ref b103)]) (lenOf pd_1 rfl) rfl (by show 2 * 0 + _ ≤ _; exact Nat.le_of_eq rfl) (hb hby d1_18) (fun _ _ => ⟨rfl, e103, (by decide : 1 + 1 ≤ _), (by decide : 4 + 1 ≤ _)⟩)
  dsimp only [Pt.U, Pt.locs, Pt.cells, Pt.slots] at X107 l107 y107 z107 st107 hQ107
  subst l107 y107 z107
  obtain ⟨b_107, rfl, N107q, P107_0⟩ := hQ107
  have N107 := Fr.app N102 N107q
  have f108 : Old Z n0 T107.heap := f104.keep P107_0 all0
  have f109 : Exa Z T107.heap b103 "java/lang/String" := A103.keep P107_0
  have f110 : Fld Z T107.heap b103 "java/lang/String" "value" "[B" .null := f105.keep P107_0 nin0
  have f111 : Fld Z T107.heap b103 "java/lang/String" "coder" "B" (.int (0 : Int32)) := f106.keep P107_0 nin0
  have Zs107 : n0 ≤ T107.heap.size := Nat.le_trans Zs103 P107_0.1
  have K107 : Keep h0 T107.heap [] := K103.trans P107_0 all0
  obtain ⟨_, _, ⟨T112, L112, k112, n112⟩, -, X112, ⟨Lc112, hQ112, l112, y112, z112⟩, st112⟩ := X107.specialBack hx (y := (⟨"java/lang/String", "<init>", "([BB)V"⟩ : MethodName)) rfl hown0 (mvT hZ0 (hw _ (List.mem_of_getElem? (i := 16) rfl))) (mvT hZ0 (hw _ (List.mem_of_getElem? (i := 17) rfl))) (mvT hZ0 (hw _ (List.mem_of_getElem? (i := 19) rfl))) (by decide) (backOf (W := 1) (rm4 l Z a0 hw [] b103 b_107 (0 : Int32) T107.heap n0 Zs107 f109 gn_b103 f110 f111) hZ0 (hw _ (List.mem_of_getElem? (i := 19) rfl)) (hw _ (List.mem_of_getElem? (i := 3) rfl)) (by decide) (by decide)) (g := (mkF m 22 #[.val (.int p1)] [(.int (0 : Int32)), (.ref b_107), (.ref b103), (.ref b103)])) rfl (by rw [hml]; rfl) (Steps.refl _) (a := b103) (argsL := [(.ref b_107), (.int (0 : Int32))]) (rest := [(.ref b103)]) (lenOf pd_2 rfl) rfl (by show 2 * 0 + _ ≤ _; exact Nat.le_of_eq rfl) (hb hby d1_22) (fun _ _ => ⟨rfl, rfl, (by decide : 2 + 0 ≤ _), (by decide : 5 + 0 ≤ _)⟩)
  dsimp only [Pt.U, Pt.locs, Pt.cells, Pt.slots] at X112 l112 y112 z112 st112 hQ112
  subst l112 y112 z112
  obtain ⟨rfl, N112q, P112_0⟩ := hQ112
  have N112 := Fr.app N107 N112q
  have f113 : Old Z n0 T112.heap := f108.keep P112_0 (allS gn_b103 all0)
  have f114 : Exa Z T112.heap b103 "java/lang/String" := f109.keep P112_0
  have Zs112 : n0 ≤ T112.heap.size := Nat.le_trans Zs107 P112_0.1
  have K112 : Keep h0 T112.heap [] := K107.trans P112_0 (allS (Or.inr sz_b103) all0)
  obtain ⟨fs, hr, hrun, hended, hW, hsame⟩ := X112.leave (v := some (.ref b103)) (fun h => by rw [Bd.returns] at h; cases h) hlk
  refine ⟨_, _, pre0 _ ?_, hrun, hended, _, _, rfl, ?_, ⟨_, rfl⟩, hW, hsame.mono (by decide) (by decide)⟩
  · show Steps p.tables e below (s₁.setTop (mkF m 0 #[.val (.int p1)] [])) _
    refine st101 _ ?_
    show Steps p.tables e below (T101.setTop (mkF m 3 #[.val (.int p1)] [(.int w)])) _
    refine XS.ifNo X101.here hx rfl (hb hby d1_3) rfl ((if0 _ _).trans (feq hw0).1) ?_
    show Steps p.tables e below (T101.setTop (mkF m 6 #[.val (.int p1)] [])) _
    refine XS.iloadN X101.here hx rfl (hb hby d1_6) rfl ?_
    show Steps p.tables e below (T101.setTop (mkF m 7 #[.val (.int p1)] [(.int p1)])) _
    refine st102 _ ?_
    show Steps p.tables e below (T102.setTop (mkF m 10 #[.val (.int p1)] [(.int (1 : Int32))])) _
    refine XS.ifNo X102.here hx rfl (hb hby d1_10) rfl ((if0 _ _).trans (feq (by decide : ¬ ((1 : Int32) = (0 : Int32)))).1) ?_
    show Steps p.tables e below (T102.setTop (mkF m 13 #[.val (.int p1)] [])) _
    refine st103 _ ?_
    show Steps p.tables e below (T103.setTop (mkF m 16 #[.val (.int p1)] [(.ref b103)])) _
    refine XS.dup X103.here hx rfl (hb hby d1_16) rfl rfl ?_
    show Steps p.tables e below (T103.setTop (mkF m 17 #[.val (.int p1)] [(.ref b103), (.ref b103)])) _
    refine XS.iloadN X103.here hx rfl (hb hby d1_17) rfl ?_
    show Steps p.tables e below (T103.setTop (mkF m 18 #[.val (.int p1)] [(.int p1), (.ref b103), (.ref b103)])) _
    refine st107 _ ?_
    show Steps p.tables e below (T107.setTop (mkF m 21 #[.val (.int p1)] [(.ref b_107), (.ref b103), (.ref b103)])) _
    refine XS.iconst X107.here hx rfl (hb hby d1_21) ?_
    show Steps p.tables e below (T107.setTop (mkF m 22 #[.val (.int p1)] [(.int (0 : Int32)), (.ref b_107), (.ref b103), (.ref b103)])) _
    refine st112.trans ?_
    show Steps p.tables e below (T112.setTop (mkF m 25 #[.val (.int p1)] [(.ref b103)])) _
    jvm_step X112.here [X112.here.top, hx, (hb hby d1_25), X112.method', Bd.returns, Value.isRef, FieldType.isReference]
    first | (intro acts; rw [hr _ acts rfl rfl rfl]) | rw [hr _ _ rfl rfl rfl]
    exact Steps.refl _
  · show Q1 Z p1 w h0 n0 _ T112.heap _
    exact ⟨b103, rfl, N112, K112⟩
theorem pn_2 : plainName "java/lang/Record" = true := by first | (simp [plainName, overriddenIn]; done) | decide +kernel
theorem ef_7 (m : MethodId) (x0 : Addr) : entryFrame m #[(.ref x0)] 1 = mkF m 0 #[.val (.ref x0)] [] := by first | (simp [entryFrame, mkF, argsToLocals, Value.category]; done) | rfl
theorem d7_0 : decode jdk_30_method_1_code 0 = .ok (.aload_n 0, 1) := by decide +kernel
theorem d7_1 : decode jdk_30_method_1_code 1 = .ok (.invokespecial 1, 3) := by decide +kernel
theorem d7_4 : decode jdk_30_method_1_code 4 = .ok (.return_, 1) := by decide +kernel
def Q7 (Z : State) (a1 : Addr) (h0 : Heap) (n0 : Nat) (v : Option Value) (h : Heap) (L : List Loc) : Prop := v = none ∧ Fr n0 L ∧ (h = h0)
set_option maxRecDepth 65536 in
set_option maxHeartbeats 40000000 in
theorem rm7 (l : Launch) (Z : State) (a0 : Array Value) (hw : ∀ d ∈ tables_1, d.before a0 Z = true) (ws : List Jvm.Cond) (a1 : Addr) (h0 : Heap) (n0 : Nat) (Z0 : n0 ≤ h0.size) :
    MetFree l (⟨"java/lang/Record", "<init>", "()V"⟩ : MethodName) (head1 (Jvm.Cond.code (⟨"java/lang/Record", "<init>", "()V"⟩ : MethodName) jdk_30_method_1_code 1 none :: ws) ({ frames := 1, cells := 0, slots := 0, locals := 12 } : Room)) (fun a U => a = #[(.ref a1)] ∧ Z.Warmed39 U.vm ∧ U.heap = h0) (fun _ _ _ _ _ => True) (fun _ U o U' => ∃ v L, o = .returned v ∧ Q7 Z a1 h0 n0 v U'.heap L ∧ FrameEnd U o U' L ({ frames := 1, cells := 0, slots := 0, locals := 12 } : Room).cells ({ frames := 1, cells := 0, slots := 0, locals := 12 } : Room).slots) := by
  refine MetFree.of_bodySF (plainFor_of_name pn_2) hisR ?_
  intro p e s m args below meth c s₁ Bd hml0 hP hK
  obtain ⟨rfl, hZ0, hh⟩ := hP
  have hx := Bd.exec
  have hby := Bd.bytes
  have hml : c.maxLocals = 1 := hml0
  have hown0 : s.vm.findClass "java/lang/Record" = some m.cls := findClass_of_methodNamed Bd.named
  have hnm := (name_of_methodNamed Bd.named Bd.method).1
  have hlk : meth.locks = false := by first | exact BodyLoose.notSynchronized Bd | exact Body.notSynchronized Bd
  have X0 : Stand p l e ({ frames := 1, cells := 0, slots := 0, locals := 12 } : Room) s m #[(.ref a1)] below meth c s₁ [] 0 0 := Stand.of_body Bd
  have e0 : s₁.heap = h0 := by rw [← hh, Bd.state]; rfl
  have N0 := Fr.nil n0
  have pre0 : ∀ t, Steps p.tables e below (s₁.setTop (mkF m 0 #[.val (.ref a1)] [])) t → Steps p.tables e below (s₁.setTop (entryFrame m #[(.ref a1)] 1)) t := fun t k => castTop (ef_7 m a1) k
  obtain ⟨T101, X101, e101, st101⟩ := initO X0 hx hZ0 hown0 (hw _ (List.mem_of_getElem? (i := 38) rfl)) (hw _ (List.mem_of_getElem? (i := 21) rfl)) (hw _ (List.mem_of_getElem? (i := 22) rfl)) e0 (g := (mkF m 1 #[.val (.ref a1)] [(.ref a1)])) rfl (by rw [hml]; rfl) rfl (hb hby d7_1) (by decide) (W := 0) (by show 2 * 0 + _ ≤ _; exact Nat.le_of_eq rfl) (by decide)
  obtain ⟨fs, hr, hrun, hended, hW, hsame⟩ := X101.leave (v := none) (fun _ => rfl) hlk
  refine ⟨_, _, pre0 _ ?_, hrun, hended, _, _, rfl, ?_, ⟨_, rfl⟩, hW, hsame.mono (by decide) (by decide)⟩
  · show Steps p.tables e below (s₁.setTop (mkF m 0 #[.val (.ref a1)] [])) _
    refine XS.aloadN X0.here hx rfl (hb hby d7_0) rfl rfl ?_
    show Steps p.tables e below (s₁.setTop (mkF m 1 #[.val (.ref a1)] [(.ref a1)])) _
    refine st101 _ ?_
    show Steps p.tables e below (T101.setTop (mkF m 4 #[.val (.ref a1)] [])) _
    exact X101.returnOut hx Bd.returns (hb hby d7_4) hr
  · show Q7 Z a1 h0 n0 _ T101.heap _
    rw [e101]
    exact ⟨rfl, N0, rfl⟩
theorem pn_3 : plainName "java/util/Objects" = true := by first | (simp [plainName, overriddenIn]; done) | decide +kernel
theorem ef_8 (m : MethodId) (x0 : Addr) (x1 : Addr) : entryFrame m #[(.ref x0), (.ref x1)] 2 = mkF m 0 #[.val (.ref x0), .val (.ref x1)] [] := by first | (simp [entryFrame, mkF, argsToLocals, Value.category]; done) | rfl
theorem d8_0 : decode jdk_31_method_11_code 0 = .ok (.aload_n 0, 1) := by decide +kernel
theorem d8_1 : decode jdk_31_method_11_code 1 = .ok (.ifnonnull 12, 3) := by decide +kernel
theorem d8_13 : decode jdk_31_method_11_code 13 = .ok (.aload_n 0, 1) := by decide +kernel
theorem d8_14 : decode jdk_31_method_11_code 14 = .ok (.areturn, 1) := by decide +kernel
def Q8 (Z : State) (a1 : Addr) (a2 : Addr) (h0 : Heap) (n0 : Nat) (v : Option Value) (h : Heap) (L : List Loc) : Prop := v = some (.ref a1) ∧ Fr n0 L ∧ (h = h0)
set_option maxRecDepth 65536 in
set_option maxHeartbeats 40000000 in
theorem rm8 (l : Launch) (Z : State) (a0 : Array Value) (hw : ∀ d ∈ tables_1, d.before a0 Z = true) (ws : List Jvm.Cond) (a1 : Addr) (a2 : Addr) (h0 : Heap) (n0 : Nat) (Z0 : n0 ≤ h0.size) :
    MetFree l (⟨"java/util/Objects", "requireNonNull", "(Ljava/lang/Object;Ljava/lang/String;)Ljava/lang/Object;"⟩ : MethodName) (head1 (Jvm.Cond.code (⟨"java/util/Objects", "requireNonNull", "(Ljava/lang/Object;Ljava/lang/String;)Ljava/lang/Object;"⟩ : MethodName) jdk_31_method_11_code 2 (some (.object "java/lang/Object")) :: ws) ({ frames := 0, cells := 0, slots := 0, locals := 0 } : Room)) (fun a U => a = #[(.ref a1), (.ref a2)] ∧ Z.Warmed39 U.vm ∧ U.heap = h0) (fun _ _ _ _ _ => True) (fun _ U o U' => ∃ v L, o = .returned v ∧ Q8 Z a1 a2 h0 n0 v U'.heap L ∧ FrameEnd U o U' L ({ frames := 0, cells := 0, slots := 0, locals := 0 } : Room).cells ({ frames := 0, cells := 0, slots := 0, locals := 0 } : Room).slots) := by
  refine MetFree.of_bodySF (plainFor_of_name pn_3) hisR ?_
  intro p e s m args below meth c s₁ Bd hml0 hP hK
  obtain ⟨rfl, hZ0, hh⟩ := hP
  have hx := Bd.exec
  have hby := Bd.bytes
  have hml : c.maxLocals = 2 := hml0
  have hown0 : s.vm.findClass "java/util/Objects" = some m.cls := findClass_of_methodNamed Bd.named
  have hnm := (name_of_methodNamed Bd.named Bd.method).1
  have hlk : meth.locks = false := by first | exact BodyLoose.notSynchronized Bd | exact Body.notSynchronized Bd
  have X0 : Stand p l e ({ frames := 0, cells := 0, slots := 0, locals := 0 } : Room) s m #[(.ref a1), (.ref a2)] below meth c s₁ [] 0 0 := Stand.of_body Bd
  have e0 : s₁.heap = h0 := by rw [← hh, Bd.state]; rfl
  have N0 := Fr.nil n0
  have pre0 : ∀ t, Steps p.tables e below (s₁.setTop (mkF m 0 #[.val (.ref a1), .val (.ref a2)] [])) t → Steps p.tables e below (s₁.setTop (entryFrame m #[(.ref a1), (.ref a2)] 2)) t := fun t k => castTop (ef_8 m a1 a2) k
  obtain ⟨fs, hr, hrun, hended, hW, hsame⟩ := X0.leave (v := some (.ref a1)) (fun h => by rw [Bd.returns] at h; cases h) hlk
  refine ⟨_, _, pre0 _ ?_, hrun, hended, _, _, rfl, ?_, ⟨_, rfl⟩, hW, hsame.mono (by decide) (by decide)⟩
  · show Steps p.tables e below (s₁.setTop (mkF m 0 #[.val (.ref a1), .val (.ref a2)] [])) _
    refine XS.aloadN X0.here hx rfl (hb hby d8_0) rfl rfl ?_
    show Steps p.tables e below (s₁.setTop (mkF m 1 #[.val (.ref a1), .val (.ref a2)] [(.ref a1)])) _
    refine XS.ifnonnullYes X0.here hx rfl (pc0 := 1) (pc' := 13) rfl (hb hby d8_1) rfl (by decide) (by decide) ?_
    show Steps p.tables e below (s₁.setTop (mkF m 13 #[.val (.ref a1), .val (.ref a2)] [])) _
    refine XS.aloadN X0.here hx rfl (hb hby d8_13) rfl rfl ?_
    show Steps p.tables e below (s₁.setTop (mkF m 14 #[.val (.ref a1), .val (.ref a2)] [(.ref a1)])) _
    jvm_step X0.here [X0.here.top, hx, (hb hby d8_14), X0.method', Bd.returns, Value.isRef, FieldType.isReference]
    first | (intro acts; rw [hr _ acts rfl rfl rfl]) | rw [hr _ _ rfl rfl rfl]
    exact Steps.refl _
  · show Q8 Z a1 a2 h0 n0 _ s₁.heap _
    rw [e0]
    exact ⟨rfl, N0, rfl⟩
theorem pn_4 : plainName "com/example/lexiform/lexiform/logicalform/Phrase" = true := by first | (simp [plainName, overriddenIn]; done) | decide +kernel
theorem ef_6 (m : MethodId) (x0 : Addr) (x1 : Addr) (x2 : Int32) (x3 : Int32) : entryFrame m #[(.ref x0), (.ref x1), (.int x2), (.int x3)] 4 = mkF m 0 #[.val (.ref x0), .val (.ref x1), .val (.int x2), .val (.int x3)] [] := by first | (simp [entryFrame, mkF, argsToLocals, Value.category]; done) | rfl
theorem d6_0 : decode prog_23_method_1_code 0 = .ok (.aload_n 0, 1) := by decide +kernel
theorem d6_1 : decode prog_23_method_1_code 1 = .ok (.invokespecial 1, 3) := by decide +kernel
theorem pd_3 : parseMethodDescriptor "()V" = some ⟨[], none⟩ := by decide +kernel
theorem d6_4 : decode prog_23_method_1_code 4 = .ok (.aload_n 1, 1) := by decide +kernel
theorem d6_5 : decode prog_23_method_1_code 5 = .ok (.ldc 7, 2) := by decide +kernel
theorem d6_7 : decode prog_23_method_1_code 7 = .ok (.invokestatic 9, 3) := by decide +kernel
theorem pd_4 : parseMethodDescriptor "(Ljava/lang/Object;Ljava/lang/String;)Ljava/lang/Object;" = some ⟨[(.object "java/lang/Object"), (.object "java/lang/String")], some (.object "java/lang/Object")⟩ := by decide +kernel
theorem d6_10 : decode prog_23_method_1_code 10 = .ok (.pop, 1) := by decide +kernel
theorem d6_11 : decode prog_23_method_1_code 11 = .ok (.iload_n 2, 1) := by decide +kernel
theorem d6_12 : decode prog_23_method_1_code 12 = .ok (.ifCond .lt 7, 3) := by decide +kernel
theorem d6_15 : decode prog_23_method_1_code 15 = .ok (.iload_n 3, 1) := by decide +kernel
theorem d6_16 : decode prog_23_method_1_code 16 = .ok (.ifCond .ge 18, 3) := by decide +kernel
theorem d6_34 : decode prog_23_method_1_code 34 = .ok (.aload_n 0, 1) := by decide +kernel
theorem d6_35 : decode prog_23_method_1_code 35 = .ok (.aload_n 1, 1) := by decide +kernel
theorem d6_36 : decode prog_23_method_1_code 36 = .ok (.putfield 24, 3) := by decide +kernel
theorem d6_39 : decode prog_23_method_1_code 39 = .ok (.aload_n 0, 1) := by decide +kernel
theorem d6_40 : decode prog_23_method_1_code 40 = .ok (.iload_n 2, 1) := by decide +kernel
theorem d6_41 : decode prog_23_method_1_code 41 = .ok (.putfield 29, 3) := by decide +kernel
theorem d6_44 : decode prog_23_method_1_code 44 = .ok (.aload_n 0, 1) := by decide +kernel
theorem d6_45 : decode prog_23_method_1_code 45 = .ok (.iload_n 3, 1) := by decide +kernel
theorem d6_46 : decode prog_23_method_1_code 46 = .ok (.putfield 33, 3) := by decide +kernel
theorem d6_49 : decode prog_23_method_1_code 49 = .ok (.return_, 1) := by decide +kernel
def Q6 (Z : State) (a1 : Addr) (a2 : Addr) (p3 : Int32) (p4 : Int32) (h0 : Heap) (n0 : Nat) (v : Option Value) (h : Heap) (L : List Loc) : Prop := v = none ∧ Fr n0 L ∧ (Keep h0 h [a1]) ∧ (Fld Z h a1 "com/example/lexiform/lexiform/logicalform/Phrase" "offset" "I" (.int p3)) ∧ (Fld Z h a1 "com/example/lexiform/lexiform/logicalform/Phrase" "length" "I" (.int p4))
set_option maxRecDepth 65536 in
set_option maxHeartbeats 40000000 in
theorem rm6 (l : Launch) (Z : State) (a0 : Array Value) (hw : ∀ d ∈ tables_1, d.before a0 Z = true) (ws : List Jvm.Cond) (a1 : Addr) (a2 : Addr) (p3 : Int32) (p4 : Int32) (h0 : Heap) (n0 : Nat) (Z0 : n0 ≤ h0.size) (E1 : Exa Z h0 a1 "com/example/lexiform/lexiform/logicalform/Phrase") (g1 : n0 ≤ a1) (F1 : Fld Z h0 a1 "com/example/lexiform/lexiform/logicalform/Phrase" "role" "Ljava/lang/String;" .null) (F2 : Fld Z h0 a1 "com/example/lexiform/lexiform/logicalform/Phrase" "offset" "I" (.int (0 : Int32))) (F3 : Fld Z h0 a1 "com/example/lexiform/lexiform/logicalform/Phrase" "length" "I" (.int (0 : Int32))) (h1 : ¬ (p3 < (0 : Int32))) (h2 : ¬ (p4 < (0 : Int32))) :
    MetFree l (⟨"com/example/lexiform/lexiform/logicalform/Phrase", "<init>", "(Ljava/lang/String;II)V"⟩ : MethodName) (head1 (Jvm.Cond.code (⟨"com/example/lexiform/lexiform/logicalform/Phrase", "<init>", "(Ljava/lang/String;II)V"⟩ : MethodName) prog_23_method_1_code 4 none :: ws) ({ frames := 2, cells := 2, slots := 20, locals := 24 } : Room)) (fun a U => a = #[(.ref a1), (.ref a2), (.int p3), (.int p4)] ∧ Z.Warmed39 U.vm ∧ U.heap = h0) (fun _ _ _ _ _ => True) (fun _ U o U' => ∃ v L, o = .returned v ∧ Q6 Z a1 a2 p3 p4 h0 n0 v U'.heap L ∧ ReturnedEndW U o U' L ({ frames := 2, cells := 2, slots := 20, locals := 24 } : Room).cells ({ frames := 2, cells := 2, slots := 20, locals := 24 } : Room).slots) := by
  refine MetFree.of_bodySF (plainFor_of_name pn_4) hisR ?_
  intro p e s m args below meth c s₁ Bd hml0 hP hK
  obtain ⟨rfl, hZ0, hh⟩ := hP
  have hx := Bd.exec
  have hby := Bd.bytes
  have hml : c.maxLocals = 4 := hml0
  have hown0 : s.vm.findClass "com/example/lexiform/lexiform/logicalform/Phrase" = some m.cls := findClass_of_methodNamed Bd.named
  have hnm := (name_of_methodNamed Bd.named Bd.method).1
  have hlk : meth.locks = false := by first | exact BodyLoose.notSynchronized Bd | exact Body.notSynchronized Bd
  have X0 : Stand p l e ({ frames := 2, cells := 2, slots := 20, locals := 24 } : Room) s m #[(.ref a1), (.ref a2), (.int p3), (.int p4)] below meth c s₁ [] 0 0 := Stand.of_body Bd
  have e0 : s₁.heap = h0 := by rw [← hh, Bd.state]; rfl
  have N0 := Fr.nil n0
  have pre0 : ∀ t, Steps p.tables e below (s₁.setTop (mkF m 0 #[.val (.ref a1), .val (.ref a2), .val (.int p3), .val (.int p4)] [])) t → Steps p.tables e below (s₁.setTop (entryFrame m #[(.ref a1), (.ref a2), (.int p3), (.int p4)] 4)) t := fun t k => castTop (ef_6 m a1 a2 p3 p4) k
  obtain ⟨_, _, ⟨T101, L101, k101, n101⟩, -, X101, ⟨Lc101, hQ101, l101, y101, z101⟩, st101⟩ := X0.specialBack hx (y := (⟨"java/lang/Record", "<init>", "()V"⟩ : MethodName)) rfl hown0 (mvT hZ0 (hw _ (List.mem_of_getElem? (i := 33) rfl))) (mvT hZ0 (hw _ (List.mem_of_getElem? (i := 34) rfl))) (mvT hZ0 (hw _ (List.mem_of_getElem? (i := 37) rfl))) (by decide) (backOf (W := 0) (rm7 l Z a0 hw [] a1 h0 n0 Z0 ) hZ0 (hw _ (List.mem_of_getElem? (i := 37) rfl)) (hw _ (List.mem_of_getElem? (i := 36) rfl)) (by decide) (by decide)) (g := (mkF m 1 #[.val (.ref a1), .val (.ref a2), .val (.int p3), .val (.int p4)] [(.ref a1)])) rfl (by rw [hml]; rfl) (Steps.refl _) (a := a1) (argsL := []) (rest := []) (lenOf pd_3 rfl) rfl (by show 2 * 0 + _ ≤ _; exact Nat.le_of_eq rfl) (hb hby d6_1) (fun _ _ => ⟨rfl, e0, (by decide : 0 + 0 ≤ _), (by decide : 0 + 0 ≤ _)⟩)
  dsimp only [Pt.U, Pt.locs, Pt.cells, Pt.slots] at X101 l101 y101 z101 st101 hQ101
  subst l101 y101 z101
  obtain ⟨rfl, N101q, P101_0⟩ := hQ101
  have N101 := Fr.app N0 N101q
  obtain ⟨sa102, T102, h102, k102, X102, e102, E102, S102, ks102, hZ102, ho102, st102⟩ := ldcS (s := s) (vm0 := s.vm) X101 hx hZ0 hown0 (hw _ (List.mem_of_getElem? (i := 39) rfl)) (own_sa hw) P101_0 ((State.WarmedH.refl s).since 0) (Nat.zero_le _) (g := (mkF m 5 #[.val (.ref a1), .val (.ref a2), .val (.int p3), .val (.int p4)] [(.ref a2)])) rfl (hb hby d6_5) (n := 16) (by decide) (by decide) (by decide) (by decide)
  have f103 : Exa Z h102 a1 "com/example/lexiform/lexiform/logicalform/Phrase" := Exa.ext E102 E1
  have f104 : Fld Z h102 a1 "com/example/lexiform/lexiform/logicalform/Phrase" "role" "Ljava/lang/String;" .null := Fld.ext E102 F1
  have f105 : Fld Z h102 a1 "com/example/lexiform/lexiform/logicalform/Phrase" "offset" "I" (.int (0 : Int32)) := Fld.ext E102 F2
  have f106 : Fld Z h102 a1 "com/example/lexiform/lexiform/logicalform/Phrase" "length" "I" (.int (0 : Int32)) := Fld.ext E102 F3
  have Zs102 : n0 ≤ h102.size := Nat.le_trans Z0 E102.1
  have K102 : Keep h0 h102 [a1] := (Keep.refl h0 [a1]).ext E102
  obtain ⟨_, _, ⟨T107, L107, k107, n107⟩, -, X107, ⟨Lc107, hQ107, l107, y107, z107⟩, st107⟩ := Jvm.LawKit.callS X102 hx (y := (⟨"java/util/Objects", "requireNonNull", "(Ljava/lang/Object;Ljava/lang/String;)Ljava/lang/Object;"⟩ : MethodName)) ho102 (mvT hZ102 (hw _ (List.mem_of_getElem? (i := 42) rfl))) (mvT hZ102 (hw _ (List.mem_of_getElem? (i := 43) rfl))) (mvT hZ102 (hw _ (List.mem_of_getElem? (i := 44) rfl))) (mvT hZ102 (hw _ (List.mem_of_getElem? (i := 45) rfl))) (by decide) (backOf (W := 0) (rm8 l Z a0 hw [] a2 sa102 h102 n0 Zs102 ) hZ102 (hw _ (List.mem_of_getElem? (i := 45) rfl)) (hw _ (List.mem_of_getElem? (i := 44) rfl)) (by decide) (by decide)) (g := (mkF m 7 #[.val (.ref a1), .val (.ref a2), .val (.int p3), .val (.int p4)] [(.ref sa102), (.ref a2)])) rfl (by rw [hml]; rfl) (argsL := [(.ref a2), (.ref sa102)]) (rest := []) (lenOf pd_4 rfl) rfl (by show 2 * 0 + _ ≤ _; exact Nat.le_of_eq rfl) (hb hby d6_7) (fun _ _ => ⟨rfl, e102, (by decide : 2 + 0 ≤ _), (by decide : 20 + 0 ≤ _)⟩)
  dsimp only [Pt.U, Pt.locs, Pt.cells, Pt.slots] at X107 l107 y107 z107 st107 hQ107
  subst l107 y107 z107
  obtain ⟨rfl, N107q, P107_0⟩ := hQ107
  have N107 := Fr.app N101 N107q
  obtain ⟨T108, h108, X108, e108, W108, st108⟩ := putF X107 hx hZ102 ho102 (host := "") (Or.inl (hw _ (List.mem_of_getElem? (i := 46) rfl))) Via.refl P107_0 f104 f103 (Or.inr ⟨(hw _ (List.mem_of_getElem? (i := 47) rfl)), rfl, hnm⟩) (hw _ (List.mem_of_getElem? (i := 28) rfl)) (ty := (.object "java/lang/String")) (by decide) rfl rfl (g := (mkF m 36 #[.val (.ref a1), .val (.ref a2), .val (.int p3), .val (.int p4)] [(.ref a2), (.ref a1)])) rfl rfl (hb hby d6_36)
  have f109 : Exa Z h108 a1 "com/example/lexiform/lexiform/logicalform/Phrase" := Exa.wr W108 f103
  have f110 : Fld Z h108 a1 "com/example/lexiform/lexiform/logicalform/Phrase" "offset" "I" (.int (0 : Int32)) := Fld.other W108 f105 (Or.inr (slot_ne (Or.inr (hw _ (List.mem_of_getElem? (i := 49) rfl))) (Or.inr (hw _ (List.mem_of_getElem? (i := 47) rfl))) (by decide) (t := .int) (t' := (.object "java/lang/String")) (by decide) (by decide)))
  have f111 : Fld Z h108 a1 "com/example/lexiform/lexiform/logicalform/Phrase" "length" "I" (.int (0 : Int32)) := Fld.other W108 f106 (Or.inr (slot_ne (Or.inr (hw _ (List.mem_of_getElem? (i := 51) rfl))) (Or.inr (hw _ (List.mem_of_getElem? (i := 47) rfl))) (by decide) (t := .int) (t' := (.object "java/lang/String")) (by decide) (by decide)))
  have f112 : Fld Z h108 a1 "com/example/lexiform/lexiform/logicalform/Phrase" "role" "Ljava/lang/String;" (.ref a2) := f104.same W108
  have kt108 : k102 ≤ h108.size := Nat.le_trans ks102 (Keep.of_wr W108).1
  have Zs108 : n0 ≤ h108.size := Nat.le_trans Zs102 (Keep.of_wr W108).1
  have N108 := Fr.snoc X108 N107 g1
  have K108 : Keep h0 h108 [a1] := K102.wr W108 (Or.inl (List.mem_of_getElem? (i := 0) rfl))
  obtain ⟨T113, h113, X113, e113, W113, st113⟩ := putF X108 hx hZ102 ho102 (host := "") (Or.inl (hw _ (List.mem_of_getElem? (i := 48) rfl))) Via.refl e108 f110 f109 (Or.inr ⟨(hw _ (List.mem_of_getElem? (i := 49) rfl)), rfl, hnm⟩) (hw _ (List.mem_of_getElem? (i := 28) rfl)) (ty := .int) (by decide) rfl rfl (g := (mkF m 41 #[.val (.ref a1), .val (.ref a2), .val (.int p3), .val (.int p4)] [(.int p3), (.ref a1)])) rfl rfl (hb hby d6_41)
  have f114 : Exa Z h113 a1 "com/example/lexiform/lexiform/logicalform/Phrase" := Exa.wr W113 f109
  have f115 : Fld Z h113 a1 "com/example/lexiform/lexiform/logicalform/Phrase" "length" "I" (.int (0 : Int32)) := Fld.other W113 f111 (Or.inr (slot_ne (Or.inr (hw _ (List.mem_of_getElem? (i := 51) rfl))) (Or.inr (hw _ (List.mem_of_getElem? (i := 49) rfl))) (by decide) (t := .int) (t' := .int) (by decide) (by decide)))
  have f116 : Fld Z h113 a1 "com/example/lexiform/lexiform/logicalform/Phrase" "role" "Ljava/lang/String;" (.ref a2) := Fld.other W113 f112 (Or.inr (slot_ne (Or.inr (hw _ (List.mem_of_getElem? (i := 47) rfl))) (Or.inr (hw _ (List.mem_of_getElem? (i := 49) rfl))) (by decide) (t := (.object "java/lang/String")) (t' := .int) (by decide) (by decide)))
  have f117 : Fld Z h113 a1 "com/example/lexiform/lexiform/logicalform/Phrase" "offset" "I" (.int p3) := f110.same W113
  have kt113 : k102 ≤ h113.size := Nat.le_trans kt108 (Keep.of_wr W113).1
  have Zs113 : n0 ≤ h113.size := Nat.le_trans Zs108 (Keep.of_wr W113).1
  have N113 := Fr.snoc X113 N108 g1
  have K113 : Keep h0 h113 [a1] := K108.wr W113 (Or.inl (List.mem_of_getElem? (i := 0) rfl))
  obtain ⟨T118, h118, X118, e118, W118, st118⟩ := putF X113 hx hZ102 ho102 (host := "") (Or.inl (hw _ (List.mem_of_getElem? (i := 50) rfl))) Via.refl e113 f115 f114 (Or.inr ⟨(hw _ (List.mem_of_getElem? (i := 51) rfl)), rfl, hnm⟩) (hw _ (List.mem_of_getElem? (i := 28) rfl)) (ty := .int) (by decide) rfl rfl (g := (mkF m 46 #[.val (.ref a1), .val (.ref a2), .val (.int p3), .val (.int p4)] [(.int p4), (.ref a1)])) rfl rfl (hb hby d6_46)
  have f119 : Exa Z h118 a1 "com/example/lexiform/lexiform/logicalform/Phrase" := Exa.wr W118 f114
  have f120 : Fld Z h118 a1 "com/example/lexiform/lexiform/logicalform/Phrase" "role" "Ljava/lang/String;" (.ref a2) := Fld.other W118 f116 (Or.inr (slot_ne (Or.inr (hw _ (List.mem_of_getElem? (i := 47) rfl))) (Or.inr (hw _ (List.mem_of_getElem? (i := 51) rfl))) (by decide) (t := (.object "java/lang/String")) (t' := .int) (by decide) (by decide)))
  have f121 : Fld Z h118 a1 "com/example/lexiform/lexiform/logicalform/Phrase" "offset" "I" (.int p3) := Fld.other W118 f117 (Or.inr (slot_ne (Or.inr (hw _ (List.mem_of_getElem? (i := 49) rfl))) (Or.inr (hw _ (List.mem_of_getElem? (i := 51) rfl))) (by decide) (t := .int) (t' := .int) (by decide) (by decide)))
  have f122 : Fld Z h118 a1 "com/example/lexiform/lexiform/logicalform/Phrase" "length" "I" (.int p4) := f115.same W118
  have kt118 : k102 ≤ h118.size := Nat.le_trans kt113 (Keep.of_wr W118).1
  have Zs118 : n0 ≤ h118.size := Nat.le_trans Zs113 (Keep.of_wr W118).1
  have N118 := Fr.snoc X118 N113 g1
  have K118 : Keep h0 h118 [a1] := K113.wr W118 (Or.inl (List.mem_of_getElem? (i := 0) rfl))
  obtain ⟨fs, hr, hrun, hended, hRW⟩ := Stand.leaveW (s := s) (vm₁ := T102.vm) X118 S102 (by rw [e118]; exact kt118) (v := none) (fun _ => rfl) hlk
  refine ⟨_, _, pre0 _ ?_, hrun, hended, _, _, rfl, ?_, own_rmono hRW (by decide) (by decide)⟩
  · show Steps p.tables e below (s₁.setTop (mkF m 0 #[.val (.ref a1), .val (.ref a2), .val (.int p3), .val (.int p4)] [])) _
    refine XS.aloadN X0.here hx rfl (hb hby d6_0) rfl rfl ?_
    show Steps p.tables e below (s₁.setTop (mkF m 1 #[.val (.ref a1), .val (.ref a2), .val (.int p3), .val (.int p4)] [(.ref a1)])) _
    refine st101.trans ?_
    show Steps p.tables e below (T101.setTop (mkF m 4 #[.val (.ref a1), .val (.ref a2), .val (.int p3), .val (.int p4)] [])) _
    refine XS.aloadN X101.here hx rfl (hb hby d6_4) rfl rfl ?_
    show Steps p.tables e below (T101.setTop (mkF m 5 #[.val (.ref a1), .val (.ref a2), .val (.int p3), .val (.int p4)] [(.ref a2)])) _
    refine st102 _ ?_
    show Steps p.tables e below (T102.setTop (mkF m 7 #[.val (.ref a1), .val (.ref a2), .val (.int p3), .val (.int p4)] [(.ref sa102), (.ref a2)])) _
    refine st107 _ ?_
    show Steps p.tables e below (T107.setTop (mkF m 10 #[.val (.ref a1), .val (.ref a2), .val (.int p3), .val (.int p4)] [(.ref a2)])) _
    refine XS.pop X107.here hx rfl (hb hby d6_10) rfl rfl ?_
    show Steps p.tables e below (T107.setTop (mkF m 11 #[.val (.ref a1), .val (.ref a2), .val (.int p3), .val (.int p4)] [])) _
    refine XS.iloadN X107.here hx rfl (hb hby d6_11) rfl ?_
    show Steps p.tables e below (T107.setTop (mkF m 12 #[.val (.ref a1), .val (.ref a2), .val (.int p3), .val (.int p4)] [(.int p3)])) _
    refine XS.ifNo X107.here hx rfl (hb hby d6_12) rfl ((if0 _ _).trans (flt h1).1) ?_
    show Steps p.tables e below (T107.setTop (mkF m 15 #[.val (.ref a1), .val (.ref a2), .val (.int p3), .val (.int p4)] [])) _
    refine XS.iloadN X107.here hx rfl (hb hby d6_15) rfl ?_
    show Steps p.tables e below (T107.setTop (mkF m 16 #[.val (.ref a1), .val (.ref a2), .val (.int p3), .val (.int p4)] [(.int p4)])) _
    refine XS.ifYes X107.here hx rfl (pc0 := 16) (pc' := 34) rfl (hb hby d6_16) rfl ((if0 _ _).trans (flt h2).2.1) (by decide) (by decide) ?_
    show Steps p.tables e below (T107.setTop (mkF m 34 #[.val (.ref a1), .val (.ref a2), .val (.int p3), .val (.int p4)] [])) _
    refine XS.aloadN X107.here hx rfl (hb hby d6_34) rfl rfl ?_
    show Steps p.tables e below (T107.setTop (mkF m 35 #[.val (.ref a1), .val (.ref a2), .val (.int p3), .val (.int p4)] [(.ref a1)])) _
    refine XS.aloadN X107.here hx rfl (hb hby d6_35) rfl rfl ?_
    show Steps p.tables e below (T107.setTop (mkF m 36 #[.val (.ref a1), .val (.ref a2), .val (.int p3), .val (.int p4)] [(.ref a2), (.ref a1)])) _
    refine st108 _ ?_
    show Steps p.tables e below (T108.setTop (mkF m 39 #[.val (.ref a1), .val (.ref a2), .val (.int p3), .val (.int p4)] [])) _
    refine XS.aloadN X108.here hx rfl (hb hby d6_39) rfl rfl ?_
    show Steps p.tables e below (T108.setTop (mkF m 40 #[.val (.ref a1), .val (.ref a2), .val (.int p3), .val (.int p4)] [(.ref a1)])) _
    refine XS.iloadN X108.here hx rfl (hb hby d6_40) rfl ?_
    show Steps p.tables e below (T108.setTop (mkF m 41 #[.val (.ref a1), .val (.ref a2), .val (.int p3), .val (.int p4)] [(.int p3), (.ref a1)])) _
    refine st113 _ ?_
    show Steps p.tables e below (T113.setTop (mkF m 44 #[.val (.ref a1), .val (.ref a2), .val (.int p3), .val (.int p4)] [])) _
    refine XS.aloadN X113.here hx rfl (hb hby d6_44) rfl rfl ?_
    show Steps p.tables e below (T113.setTop (mkF m 45 #[.val (.ref a1), .val (.ref a2), .val (.int p3), .val (.int p4)] [(.ref a1)])) _
    refine XS.iloadN X113.here hx rfl (hb hby d6_45) rfl ?_
    show Steps p.tables e below (T113.setTop (mkF m 46 #[.val (.ref a1), .val (.ref a2), .val (.int p3), .val (.int p4)] [(.int p4), (.ref a1)])) _
    refine st118 _ ?_
    show Steps p.tables e below (T118.setTop (mkF m 49 #[.val (.ref a1), .val (.ref a2), .val (.int p3), .val (.int p4)] [])) _
    exact X118.returnOut hx Bd.returns (hb hby d6_49) hr
  · show Q6 Z a1 a2 p3 p4 h0 n0 _ T118.heap _
    rw [e118]
    exact ⟨rfl, N118, K118, f121, f122⟩
theorem pn_5 : plainName "com/example/lexiform/lexiform/logicalform/WordRole" = true := by first | (simp [plainName, overriddenIn]; done) | decide +kernel
theorem ef_9 (m : MethodId) (x0 : Addr) (x1 : Addr) (x2 : Addr) (x3 : Int32) (x4 : Int32) : entryFrame m #[(.ref x0), (.ref x1), (.ref x2), (.int x3), (.int x4)] 5 = mkF m 0 #[.val (.ref x0), .val (.ref x1), .val (.ref x2), .val (.int x3), .val (.int x4)] [] := by first | (simp [entryFrame, mkF, argsToLocals, Value.category]; done) | rfl
theorem d9_0 : decode prog_33_method_1_code 0 = .ok (.aload_n 0, 1) := by decide +kernel
theorem d9_1 : decode prog_33_method_1_code 1 = .ok (.invokespecial 1, 3) := by decide +kernel
theorem d9_4 : decode prog_33_method_1_code 4 = .ok (.aload_n 1, 1) := by decide +kernel
theorem d9_5 : decode prog_33_method_1_code 5 = .ok (.ldc 7, 2) := by decide +kernel
theorem d9_7 : decode prog_33_method_1_code 7 = .ok (.invokestatic 9, 3) := by decide +kernel
theorem d9_10 : decode prog_33_method_1_code 10 = .ok (.pop, 1) := by decide +kernel
theorem d9_11 : decode prog_33_method_1_code 11 = .ok (.aload_n 2, 1) := by decide +kernel
theorem d9_12 : decode prog_33_method_1_code 12 = .ok (.ldc 15, 2) := by decide +kernel
theorem d9_14 : decode prog_33_method_1_code 14 = .ok (.invokestatic 9, 3) := by decide +kernel
theorem d9_17 : decode prog_33_method_1_code 17 = .ok (.pop, 1) := by decide +kernel
theorem d9_18 : decode prog_33_method_1_code 18 = .ok (.iload_n 3, 1) := by decide +kernel
theorem d9_19 : decode prog_33_method_1_code 19 = .ok (.ifCond .lt 8, 3) := by decide +kernel
theorem d9_22 : decode prog_33_method_1_code 22 = .ok (.iload 4, 2) := by decide +kernel
theorem d9_24 : decode prog_33_method_1_code 24 = .ok (.ifCond .ge 19, 3) := by decide +kernel
theorem d9_43 : decode prog_33_method_1_code 43 = .ok (.aload_n 0, 1) := by decide +kernel
theorem d9_44 : decode prog_33_method_1_code 44 = .ok (.aload_n 1, 1) := by decide +kernel
theorem d9_45 : decode prog_33_method_1_code 45 = .ok (.putfield 26, 3) := by decide +kernel
theorem d9_48 : decode prog_33_method_1_code 48 = .ok (.aload_n 0, 1) := by decide +kernel
theorem d9_49 : decode prog_33_method_1_code 49 = .ok (.aload_n 2, 1) := by decide +kernel
theorem d9_50 : decode prog_33_method_1_code 50 = .ok (.putfield 31, 3) := by decide +kernel
theorem d9_53 : decode prog_33_method_1_code 53 = .ok (.aload_n 0, 1) := by decide +kernel
theorem d9_54 : decode prog_33_method_1_code 54 = .ok (.iload_n 3, 1) := by decide +kernel
theorem d9_55 : decode prog_33_method_1_code 55 = .ok (.putfield 33, 3) := by decide +kernel
theorem d9_58 : decode prog_33_method_1_code 58 = .ok (.aload_n 0, 1) := by decide +kernel
theorem d9_59 : decode prog_33_method_1_code 59 = .ok (.iload 4, 2) := by decide +kernel
theorem d9_61 : decode prog_33_method_1_code 61 = .ok (.putfield 37, 3) := by decide +kernel
theorem d9_64 : decode prog_33_method_1_code 64 = .ok (.return_, 1) := by decide +kernel
def Q9 (Z : State) (a1 : Addr) (a2 : Addr) (a3 : Addr) (p4 : Int32) (p5 : Int32) (h0 : Heap) (n0 : Nat) (v : Option Value) (h : Heap) (L : List Loc) : Prop := v = none ∧ Fr n0 L ∧ (Keep h0 h [a1]) ∧ (Fld Z h a1 "com/example/lexiform/lexiform/logicalform/WordRole" "offset" "I" (.int p4)) ∧ (Fld Z h a1 "com/example/lexiform/lexiform/logicalform/WordRole" "length" "I" (.int p5))
set_option maxRecDepth 65536 in
set_option maxHeartbeats 40000000 in
theorem rm9 (l : Launch) (Z : State) (a0 : Array Value) (hw : ∀ d ∈ tables_1, d.before a0 Z = true) (ws : List Jvm.Cond) (a1 : Addr) (a2 : Addr) (a3 : Addr) (p4 : Int32) (p5 : Int32) (h0 : Heap) (n0 : Nat) (Z0 : n0 ≤ h0.size) (E1 : Exa Z h0 a1 "com/example/lexiform/lexiform/logicalform/WordRole") (g1 : n0 ≤ a1) (F0 : Fld Z h0 a1 "com/example/lexiform/lexiform/logicalform/WordRole" "term" "Ljava/lang/String;" .null) (F1 : Fld Z h0 a1 "com/example/lexiform/lexiform/logicalform/WordRole" "role" "Ljava/lang/String;" .null) (F2 : Fld Z h0 a1 "com/example/lexiform/lexiform/logicalform/WordRole" "offset" "I" (.int (0 : Int32))) (F3 : Fld Z h0 a1 "com/example/lexiform/lexiform/logicalform/WordRole" "length" "I" (.int (0 : Int32))) (h1 : ¬ (p4 < (0 : Int32))) (h2 : ¬ (p5 < (0 : Int32))) :
    MetFree l (⟨"com/example/lexiform/lexiform/logicalform/WordRole", "<init>", "(Ljava/lang/String;Ljava/lang/String;II)V"⟩ : MethodName) (head1 (Jvm.Cond.code (⟨"com/example/lexiform/lexiform/logicalform/WordRole", "<init>", "(Ljava/lang/String;Ljava/lang/String;II)V"⟩ : MethodName) prog_33_method_1_code 5 none :: ws) ({ frames := 2, cells := 4, slots := 40, locals := 24 } : Room)) (fun a U => a = #[(.ref a1), (.ref a2), (.ref a3), (.int p4), (.int p5)] ∧ Z.Warmed39 U.vm ∧ U.heap = h0) (fun _ _ _ _ _ => True) (fun _ U o U' => ∃ v L, o = .returned v ∧ Q9 Z a1 a2 a3 p4 p5 h0 n0 v U'.heap L ∧ ReturnedEndW U o U' L ({ frames := 2, cells := 4, slots := 40, locals := 24 } : Room).cells ({ frames := 2, cells := 4, slots := 40, locals := 24 } : Room).slots) := by
  refine MetFree.of_bodySF (plainFor_of_name pn_5) hisR ?_
  intro p e s m args below meth c s₁ Bd hml0 hP hK
  obtain ⟨rfl, hZ0, hh⟩ := hP
  have hx := Bd.exec
  have hby := Bd.bytes
  have hml : c.maxLocals = 5 := hml0
  have hown0 : s.vm.findClass "com/example/lexiform/lexiform/logicalform/WordRole" = some m.cls := findClass_of_methodNamed Bd.named
  have hnm := (name_of_methodNamed Bd.named Bd.method).1
  have hlk : meth.locks = false := by first | exact BodyLoose.notSynchronized Bd | exact Body.notSynchronized Bd
  have X0 : Stand p l e ({ frames := 2, cells := 4, slots := 40, locals := 24 } : Room) s m #[(.ref a1), (.ref a2), (.ref a3), (.int p4), (.int p5)] below meth c s₁ [] 0 0 := Stand.of_body Bd
  have e0 : s₁.heap = h0 := by rw [← hh, Bd.state]; rfl
  have N0 := Fr.nil n0
  have pre0 : ∀ t, Steps p.tables e below (s₁.setTop (mkF m 0 #[.val (.ref a1), .val (.ref a2), .val (.ref a3), .val (.int p4), .val (.int p5)] [])) t → Steps p.tables e below (s₁.setTop (entryFrame m #[(.ref a1), (.ref a2), (.ref a3), (.int p4), (.int p5)] 5)) t := fun t k => castTop (ef_9 m a1 a2 a3 p4 p5) k
  obtain ⟨_, _, ⟨T101, L101, k101, n101⟩, -, X101, ⟨Lc101, hQ101, l101, y101, z101⟩, st101⟩ := X0.specialBack hx (y := (⟨"java/lang/Record", "<init>", "()V"⟩ : MethodName)) rfl hown0 (mvT hZ0 (hw _ (List.mem_of_getElem? (i := 58) rfl))) (mvT hZ0 (hw _ (List.mem_of_getElem? (i := 34) rfl))) (mvT hZ0 (hw _ (List.mem_of_getElem? (i := 37) rfl))) (by decide) (backOf (W := 0) (rm7 l Z a0 hw [] a1 h0 n0 Z0 ) hZ0 (hw _ (List.mem_of_getElem? (i := 37) rfl)) (hw _ (List.mem_of_getElem? (i := 36) rfl)) (by decide) (by decide)) (g := (mkF m 1 #[.val (.ref a1), .val (.ref a2), .val (.ref a3), .val (.int p4), .val (.int p5)] [(.ref a1)])) rfl (by rw [hml]; rfl) (Steps.refl _) (a := a1) (argsL := []) (rest := []) (lenOf pd_3 rfl) rfl (by show 2 * 0 + _ ≤ _; exact Nat.le_of_eq rfl) (hb hby d9_1) (fun _ _ => ⟨rfl, e0, (by decide : 0 + 0 ≤ _), (by decide : 0 + 0 ≤ _)⟩)
  dsimp only [Pt.U, Pt.locs, Pt.cells, Pt.slots] at X101 l101 y101 z101 st101 hQ101
  subst l101 y101 z101
  obtain ⟨rfl, N101q, P101_0⟩ := hQ101
  have N101 := Fr.app N0 N101q
  obtain ⟨sa102, T102, h102, k102, X102, e102, E102, S102, ks102, hZ102, ho102, st102⟩ := ldcS (s := s) (vm0 := s.vm) X101 hx hZ0 hown0 (hw _ (List.mem_of_getElem? (i := 59) rfl)) (own_sa hw) P101_0 ((State.WarmedH.refl s).since 0) (Nat.zero_le _) (g := (mkF m 5 #[.val (.ref a1), .val (.ref a2), .val (.ref a3), .val (.int p4), .val (.int p5)] [(.ref a2)])) rfl (hb hby d9_5) (n := 16) (by decide) (by decide) (by decide) (by decide)
  have f103 : Exa Z h102 a1 "com/example/lexiform/lexiform/logicalform/WordRole" := Exa.ext E102 E1
  have f104 : Fld Z h102 a1 "com/example/lexiform/lexiform/logicalform/WordRole" "term" "Ljava/lang/String;" .null := Fld.ext E102 F0
  have f105 : Fld Z h102 a1 "com/example/lexiform/lexiform/logicalform/WordRole" "role" "Ljava/lang/String;" .null := Fld.ext E102 F1
  have f106 : Fld Z h102 a1 "com/example/lexiform/lexiform/logicalform/WordRole" "offset" "I" (.int (0 : Int32)) := Fld.ext E102 F2
  have f107 : Fld Z h102 a1 "com/example/lexiform/lexiform/logicalform/WordRole" "length" "I" (.int (0 : Int32)) := Fld.ext E102 F3
  have Zs102 : n0 ≤ h102.size := Nat.le_trans Z0 E102.1
  have K102 : Keep h0 h102 [a1] := (Keep.refl h0 [a1]).ext E102
  obtain ⟨_, _, ⟨T108, L108, k108, n108⟩, -, X108, ⟨Lc108, hQ108, l108, y108, z108⟩, st108⟩ := Jvm.LawKit.callS X102 hx (y := (⟨"java/util/Objects", "requireNonNull", "(Ljava/lang/Object;Ljava/lang/String;)Ljava/lang/Object;"⟩ : MethodName)) ho102 (mvT hZ102 (hw _ (List.mem_of_getElem? (i := 60) rfl))) (mvT hZ102 (hw _ (List.mem_of_getElem? (i := 43) rfl))) (mvT hZ102 (hw _ (List.mem_of_getElem? (i := 44) rfl))) (mvT hZ102 (hw _ (List.mem_of_getElem? (i := 45) rfl))) (by decide) (backOf (W := 0) (rm8 l Z a0 hw [] a2 sa102 h102 n0 Zs102 ) hZ102 (hw _ (List.mem_of_getElem? (i := 45) rfl)) (hw _ (List.mem_of_getElem? (i := 44) rfl)) (by decide) (by decide)) (g := (mkF m 7 #[.val (.ref a1), .val (.ref a2), .val (.ref a3), .val (.int p4), .val (.int p5)] [(.ref sa102), (.ref a2)])) rfl (by rw [hml]; rfl) (argsL := [(.ref a2), (.ref sa102)]) (rest := []) (lenOf pd_4 rfl) rfl (by show 2 * 0 + _ ≤ _; exact Nat.le_of_eq rfl) (hb hby d9_7) (fun _ _ => ⟨rfl, e102, (by decide : 2 + 0 ≤ _), (by decide : 20 + 0 ≤ _)⟩)
  dsimp only [Pt.U, Pt.locs, Pt.cells, Pt.slots] at X108 l108 y108 z108 st108 hQ108
  subst l108 y108 z108
  obtain ⟨rfl, N108q, P108_0⟩ := hQ108
  have N108 := Fr.app N101 N108q
  obtain ⟨sa109, T109, h109, k109, X109, e109, E109, S109, ks109, hZ109, ho109, st109⟩ := ldcS (s := s) (vm0 := T102.vm) X108 hx hZ102 ho102 (hw _ (List.mem_of_getElem? (i := 61) rfl)) (own_sa hw) P108_0 S102 ks102 (g := (mkF m 12 #[.val (.ref a1), .val (.ref a2), .val (.ref a3), .val (.int p4), .val (.int p5)] [(.ref a3)])) rfl (hb hby d9_12) (n := 16) (by decide) (by decide) (by decide) (by decide)
  have f110 : Exa Z h109 a1 "com/example/lexiform/lexiform/logicalform/WordRole" := Exa.ext E109 f103
  have f111 : Fld Z h109 a1 "com/example/lexiform/lexiform/logicalform/WordRole" "term" "Ljava/lang/String;" .null := Fld.ext E109 f104
  have f112 : Fld Z h109 a1 "com/example/lexiform/lexiform/logicalform/WordRole" "role" "Ljava/lang/String;" .null := Fld.ext E109 f105
  have f113 : Fld Z h109 a1 "com/example/lexiform/lexiform/logicalform/WordRole" "offset" "I" (.int (0 : Int32)) := Fld.ext E109 f106
  have f114 : Fld Z h109 a1 "com/example/lexiform/lexiform/logicalform/WordRole" "length" "I" (.int (0 : Int32)) := Fld.ext E109 f107
  have Zs109 : n0 ≤ h109.size := Nat.le_trans Zs102 E109.1
  have K109 : Keep h0 h109 [a1] := K102.ext E109
  have kt109 : k102 ≤ h109.size := Nat.le_trans ks102 E109.1
  obtain ⟨_, _, ⟨T115, L115, k115, n115⟩, -, X115, ⟨Lc115, hQ115, l115, y115, z115⟩, st115⟩ := Jvm.LawKit.callS X109 hx (y := (⟨"java/util/Objects", "requireNonNull", "(Ljava/lang/Object;Ljava/lang/String;)Ljava/lang/Object;"⟩ : MethodName)) ho109 (mvT hZ109 (hw _ (List.mem_of_getElem? (i := 60) rfl))) (mvT hZ109 (hw _ (List.mem_of_getElem? (i := 43) rfl))) (mvT hZ109 (hw _ (List.mem_of_getElem? (i := 44) rfl))) (mvT hZ109 (hw _ (List.mem_of_getElem? (i := 45) rfl))) (by decide) (backOf (W := 0) (rm8 l Z a0 hw [] a3 sa109 h109 n0 Zs109 ) hZ109 (hw _ (List.mem_of_getElem? (i := 45) rfl)) (hw _ (List.mem_of_getElem? (i := 44) rfl)) (by decide) (by decide)) (g := (mkF m 14 #[.val (.ref a1), .val (.ref a2), .val (.ref a3), .val (.int p4), .val (.int p5)] [(.ref sa109), (.ref a3)])) rfl (by rw [hml]; rfl) (argsL := [(.ref a3), (.ref sa109)]) (rest := []) (lenOf pd_4 rfl) rfl (by show 2 * 0 + _ ≤ _; exact Nat.le_of_eq rfl) (hb hby d9_14) (fun _ _ => ⟨rfl, e109, (by decide : 4 + 0 ≤ _), (by decide : 40 + 0 ≤ _)⟩)
  dsimp only [Pt.U, Pt.locs, Pt.cells, Pt.slots] at X115 l115 y115 z115 st115 hQ115
  subst l115 y115 z115
  obtain ⟨rfl, N115q, P115_0⟩ := hQ115
  have N115 := Fr.app N108 N115q
  obtain ⟨T116, h116, X116, e116, W116, st116⟩ := putF X115 hx hZ109 ho109 (host := "") (Or.inl (hw _ (List.mem_of_getElem? (i := 62) rfl))) Via.refl P115_0 f111 f110 (Or.inr ⟨(hw _ (List.mem_of_getElem? (i := 63) rfl)), rfl, hnm⟩) (hw _ (List.mem_of_getElem? (i := 53) rfl)) (ty := (.object "java/lang/String")) (by decide) rfl rfl (g := (mkF m 45 #[.val (.ref a1), .val (.ref a2), .val (.ref a3), .val (.int p4), .val (.int p5)] [(.ref a2), (.ref a1)])) rfl rfl (hb hby d9_45)
  have f117 : Exa Z h116 a1 "com/example/lexiform/lexiform/logicalform/WordRole" := Exa.wr W116 f110
  have f118 : Fld Z h116 a1 "com/example/lexiform/lexiform/logicalform/WordRole" "role" "Ljava/lang/String;" .null := Fld.other W116 f112 (Or.inr (slot_ne (Or.inr (hw _ (List.mem_of_getElem? (i := 65) rfl))) (Or.inr (hw _ (List.mem_of_getElem? (i := 63) rfl))) (by decide) (t := (.object "java/lang/String")) (t' := (.object "java/lang/String")) (by decide) (by decide)))
  have f119 : Fld Z h116 a1 "com/example/lexiform/lexiform/logicalform/WordRole" "offset" "I" (.int (0 : Int32)) := Fld.other W116 f113 (Or.inr (slot_ne (Or.inr (hw _ (List.mem_of_getElem? (i := 67) rfl))) (Or.inr (hw _ (List.mem_of_getElem? (i := 63) rfl))) (by decide) (t := .int) (t' := (.object "java/lang/String")) (by decide) (by decide)))
  have f120 : Fld Z h116 a1 "com/example/lexiform/lexiform/logicalform/WordRole" "length" "I" (.int (0 : Int32)) := Fld.other W116 f114 (Or.inr (slot_ne (Or.inr (hw _ (List.mem_of_getElem? (i := 69) rfl))) (Or.inr (hw _ (List.mem_of_getElem? (i := 63) rfl))) (by decide) (t := .int) (t' := (.object "java/lang/String")) (by decide) (by decide)))
  have f121 : Fld Z h116 a1 "com/example/lexiform/lexiform/logicalform/WordRole" "term" "Ljava/lang/String;" (.ref a2) := f111.same W116
  have kt116 : k109 ≤ h116.size := Nat.le_trans ks109 (Keep.of_wr W116).1
  have Zs116 : n0 ≤ h116.size := Nat.le_trans Zs109 (Keep.of_wr W116).1
  have N116 := Fr.snoc X116 N115 g1
  have K116 : Keep h0 h116 [a1] := K109.wr W116 (Or.inl (List.mem_of_getElem? (i := 0) rfl))
  obtain ⟨T122, h122, X122, e122, W122, st122⟩ := putF X116 hx hZ109 ho109 (host := "") (Or.inl (hw _ (List.mem_of_getElem? (i := 64) rfl))) Via.refl e116 f118 f117 (Or.inr ⟨(hw _ (List.mem_of_getElem? (i := 65) rfl)), rfl, hnm⟩) (hw _ (List.mem_of_getElem? (i := 53) rfl)) (ty := (.object "java/lang/String")) (by decide) rfl rfl (g := (mkF m 50 #[.val (.ref a1), .val (.ref a2), .val (.ref a3), .val (.int p4), .val (.int p5)] [(.ref a3), (.ref a1)])) rfl rfl (hb hby d9_50)
  have f123 : Exa Z h122 a1 "com/example/lexiform/lexiform/logicalform/WordRole" := Exa.wr W122 f117
  have f124 : Fld Z h122 a1 "com/example/lexiform/lexiform/logicalform/WordRole" "offset" "I" (.int (0 : Int32)) := Fld.other W122 f119 (Or.inr (slot_ne (Or.inr (hw _ (List.mem_of_getElem? (i := 67) rfl))) (Or.inr (hw _ (List.mem_of_getElem? (i := 65) rfl))) (by decide) (t := .int) (t' := (.object "java/lang/String")) (by decide) (by decide)))
  have f125 : Fld Z h122 a1 "com/example/lexiform/lexiform/logicalform/WordRole" "length" "I" (.int (0 : Int32)) := Fld.other W122 f120 (Or.inr (slot_ne (Or.inr (hw _ (List.mem_of_getElem? (i := 69) rfl))) (Or.inr (hw _ (List.mem_of_getElem? (i := 65) rfl))) (by decide) (t := .int) (t' := (.object "java/lang/String")) (by decide) (by decide)))
  have f126 : Fld Z h122 a1 "com/example/lexiform/lexiform/logicalform/WordRole" "term" "Ljava/lang/String;" (.ref a2) := Fld.other W122 f121 (Or.inr (slot_ne (Or.inr (hw _ (List.mem_of_getElem? (i := 63) rfl))) (Or.inr (hw _ (List.mem_of_getElem? (i := 65) rfl))) (by decide) (t := (.object "java/lang/String")) (t' := (.object "java/lang/String")) (by decide) (by decide)))
  have f127 : Fld Z h122 a1 "com/example/lexiform/lexiform/logicalform/WordRole" "role" "Ljava/lang/String;" (.ref a3) := f118.same W122
  have kt122 : k109 ≤ h122.size := Nat.le_trans kt116 (Keep.of_wr W122).1
  have Zs122 : n0 ≤ h122.size := Nat.le_trans Zs116 (Keep.of_wr W122).1
  have N122 := Fr.snoc X122 N116 g1
  have K122 : Keep h0 h122 [a1] := K116.wr W122 (Or.inl (List.mem_of_getElem? (i := 0) rfl))
  obtain ⟨T128, h128, X128, e128, W128, st128⟩ := putF X122 hx hZ109 ho109 (host := "") (Or.inl (hw _ (List.mem_of_getElem? (i := 66) rfl))) Via.refl e122 f124 f123 (Or.inr ⟨(hw _ (List.mem_of_getElem? (i := 67) rfl)), rfl, hnm⟩) (hw _ (List.mem_of_getElem? (i := 53) rfl)) (ty := .int) (by decide) rfl rfl (g := (mkF m 55 #[.val (.ref a1), .val (.ref a2), .val (.ref a3), .val (.int p4), .val (.int p5)] [(.int p4), (.ref a1)])) rfl rfl (hb hby d9_55)
  have f129 : Exa Z h128 a1 "com/example/lexiform/lexiform/logicalform/WordRole" := Exa.wr W128 f123
  have f130 : Fld Z h128 a1 "com/example/lexiform/lexiform/logicalform/WordRole" "length" "I" (.int (0 : Int32)) := Fld.other W128 f125 (Or.inr (slot_ne (Or.inr (hw _ (List.mem_of_getElem? (i := 69) rfl))) (Or.inr (hw _ (List.mem_of_getElem? (i := 67) rfl))) (by decide) (t := .int) (t' := .int) (by decide) (by decide)))
  have f131 : Fld Z h128 a1 "com/example/lexiform/lexiform/logicalform/WordRole" "term" "Ljava/lang/String;" (.ref a2) := Fld.other W128 f126 (Or.inr (slot_ne (Or.inr (hw _ (List.mem_of_getElem? (i := 63) rfl))) (Or.inr (hw _ (List.mem_of_getElem? (i := 67) rfl))) (by decide) (t := (.object "java/lang/String")) (t' := .int) (by decide) (by decide)))
  have f132 : Fld Z h128 a1 "com/example/lexiform/lexiform/logicalform/WordRole" "role" "Ljava/lang/String;" (.ref a3) := Fld.other W128 f127 (Or.inr (slot_ne (Or.inr (hw _ (List.mem_of_getElem? (i := 65) rfl))) (Or.inr (hw _ (List.mem_of_getElem? (i := 67) rfl))) (by decide) (t := (.object "java/lang/String")) (t' := .int) (by decide) (by decide)))
  have f133 : Fld Z h128 a1 "com/example/lexiform/lexiform/logicalform/WordRole" "offset" "I" (.int p4) := f124.same W128
  have kt128 : k109 ≤ h128.size := Nat.le_trans kt122 (Keep.of_wr W128).1
  have Zs128 : n0 ≤ h128.size := Nat.le_trans Zs122 (Keep.of_wr W128).1
  have N128 := Fr.snoc X128 N122 g1
  have K128 : Keep h0 h128 [a1] := K122.wr W128 (Or.inl (List.mem_of_getElem? (i := 0) rfl))
  obtain ⟨T134, h134, X134, e134, W134, st134⟩ := putF X128 hx hZ109 ho109 (host := "") (Or.inl (hw _ (List.mem_of_getElem? (i := 68) rfl))) Via.refl e128 f130 f129 (Or.inr ⟨(hw _ (List.mem_of_getElem? (i := 69) rfl)), rfl, hnm⟩) (hw _ (List.mem_of_getElem? (i := 53) rfl)) (ty := .int) (by decide) rfl rfl (g := (mkF m 61 #[.val (.ref a1), .val (.ref a2), .val (.ref a3), .val (.int p4), .val (.int p5)] [(.int p5), (.ref a1)])) rfl rfl (hb hby d9_61)
  have f135 : Exa Z h134 a1 "com/example/lexiform/lexiform/logicalform/WordRole" := Exa.wr W134 f129
  have f136 : Fld Z h134 a1 "com/example/lexiform/lexiform/logicalform/WordRole" "term" "Ljava/lang/String;" (.ref a2) := Fld.other W134 f131 (Or.inr (slot_ne (Or.inr (hw _ (List.mem_of_getElem? (i := 63) rfl))) (Or.inr (hw _ (List.mem_of_getElem? (i := 69) rfl))) (by decide) (t := (.object "java/lang/String")) (t' := .int) (by decide) (by decide)))
  have f137 : Fld Z h134 a1 "com/example/lexiform/lexiform/logicalform/WordRole" "role" "Ljava/lang/String;" (.ref a3) := Fld.other W134 f132 (Or.inr (slot_ne (Or.inr (hw _ (List.mem_of_getElem? (i := 65) rfl))) (Or.inr (hw _ (List.mem_of_getElem? (i := 69) rfl))) (by decide) (t := (.object "java/lang/String")) (t' := .int) (by decide) (by decide)))
  have f138 : Fld Z h134 a1 "com/example/lexiform/lexiform/logicalform/WordRole" "offset" "I" (.int p4) := Fld.other W134 f133 (Or.inr (slot_ne (Or.inr (hw _ (List.mem_of_getElem? (i := 67) rfl))) (Or.inr (hw _ (List.mem_of_getElem? (i := 69) rfl))) (by decide) (t := .int) (t' := .int) (by decide) (by decide)))
  have f139 : Fld Z h134 a1 "com/example/lexiform/lexiform/logicalform/WordRole" "length" "I" (.int p5) := f130.same W134
  have kt134 : k109 ≤ h134.size := Nat.le_trans kt128 (Keep.of_wr W134).1
  have Zs134 : n0 ≤ h134.size := Nat.le_trans Zs128 (Keep.of_wr W134).1
  have N134 := Fr.snoc X134 N128 g1
  have K134 : Keep h0 h134 [a1] := K128.wr W134 (Or.inl (List.mem_of_getElem? (i := 0) rfl))
  obtain ⟨fs, hr, hrun, hended, hRW⟩ := Stand.leaveW (s := s) (vm₁ := T109.vm) X134 S109 (by rw [e134]; exact kt134) (v := none) (fun _ => rfl) hlk
  refine ⟨_, _, pre0 _ ?_, hrun, hended, _, _, rfl, ?_, own_rmono hRW (by decide) (by decide)⟩
  · show Steps p.tables e below (s₁.setTop (mkF m 0 #[.val (.ref a1), .val (.ref a2), .val (.ref a3), .val (.int p4), .val (.int p5)] [])) _
    refine XS.aloadN X0.here hx rfl (hb hby d9_0) rfl rfl ?_
    show Steps p.tables e below (s₁.setTop (mkF m 1 #[.val (.ref a1), .val (.ref a2), .val (.ref a3), .val (.int p4), .val (.int p5)] [(.ref a1)])) _
    refine st101.trans ?_
    show Steps p.tables e below (T101.setTop (mkF m 4 #[.val (.ref a1), .val (.ref a2), .val (.ref a3), .val (.int p4), .val (.int p5)] [])) _
    refine XS.aloadN X101.here hx rfl (hb hby d9_4) rfl rfl ?_
    show Steps p.tables e below (T101.setTop (mkF m 5 #[.val (.ref a1), .val (.ref a2), .val (.ref a3), .val (.int p4), .val (.int p5)] [(.ref a2)])) _
    refine st102 _ ?_
    show Steps p.tables e below (T102.setTop (mkF m 7 #[.val (.ref a1), .val (.ref a2), .val (.ref a3), .val (.int p4), .val (.int p5)] [(.ref sa102), (.ref a2)])) _
    refine st108 _ ?_
    show Steps p.tables e below (T108.setTop (mkF m 10 #[.val (.ref a1), .val (.ref a2), .val (.ref a3), .val (.int p4), .val (.int p5)] [(.ref a2)])) _
    refine XS.pop X108.here hx rfl (hb hby d9_10) rfl rfl ?_
    show Steps p.tables e below (T108.setTop (mkF m 11 #[.val (.ref a1), .val (.ref a2), .val (.ref a3), .val (.int p4), .val (.int p5)] [])) _
    refine XS.aloadN X108.here hx rfl (hb hby d9_11) rfl rfl ?_
    show Steps p.tables e below (T108.setTop (mkF m 12 #[.val (.ref a1), .val (.ref a2), .val (.ref a3), .val (.int p4), .val (.int p5)] [(.ref a3)])) _
    refine st109 _ ?_
    show Steps p.tables e below (T109.setTop (mkF m 14 #[.val (.ref a1), .val (.ref a2), .val (.ref a3), .val (.int p4), .val (.int p5)] [(.ref sa109), (.ref a3)])) _
    refine st115 _ ?_
    show Steps p.tables e below (T115.setTop (mkF m 17 #[.val (.ref a1), .val (.ref a2), .val (.ref a3), .val (.int p4), .val (.int p5)] [(.ref a3)])) _
    refine XS.pop X115.here hx rfl (hb hby d9_17) rfl rfl ?_
    show Steps p.tables e below (T115.setTop (mkF m 18 #[.val (.ref a1), .val (.ref a2), .val (.ref a3), .val (.int p4), .val (.int p5)] [])) _
    refine XS.iloadN X115.here hx rfl (hb hby d9_18) rfl ?_
    show Steps p.tables e below (T115.setTop (mkF m 19 #[.val (.ref a1), .val (.ref a2), .val (.ref a3), .val (.int p4), .val (.int p5)] [(.int p4)])) _
    refine XS.ifNo X115.here hx rfl (hb hby d9_19) rfl ((if0 _ _).trans (flt h1).1) ?_
    show Steps p.tables e below (T115.setTop (mkF m 22 #[.val (.ref a1), .val (.ref a2), .val (.ref a3), .val (.int p4), .val (.int p5)] [])) _
    refine XS.iload X115.here hx rfl (hb hby d9_22) rfl ?_
    show Steps p.tables e below (T115.setTop (mkF m 24 #[.val (.ref a1), .val (.ref a2), .val (.ref a3), .val (.int p4), .val (.int p5)] [(.int p5)])) _
    refine XS.ifYes X115.here hx rfl (pc0 := 24) (pc' := 43) rfl (hb hby d9_24) rfl ((if0 _ _).trans (flt h2).2.1) (by decide) (by decide) ?_
    show Steps p.tables e below (T115.setTop (mkF m 43 #[.val (.ref a1), .val (.ref a2), .val (.ref a3), .val (.int p4), .val (.int p5)] [])) _
    refine XS.aloadN X115.here hx rfl (hb hby d9_43) rfl rfl ?_
    show Steps p.tables e below (T115.setTop (mkF m 44 #[.val (.ref a1), .val (.ref a2), .val (.ref a3), .val (.int p4), .val (.int p5)] [(.ref a1)])) _
    refine XS.aloadN X115.here hx rfl (hb hby d9_44) rfl rfl ?_
    show Steps p.tables e below (T115.setTop (mkF m 45 #[.val (.ref a1), .val (.ref a2), .val (.ref a3), .val (.int p4), .val (.int p5)] [(.ref a2), (.ref a1)])) _
    refine st116 _ ?_
    show Steps p.tables e below (T116.setTop (mkF m 48 #[.val (.ref a1), .val (.ref a2), .val (.ref a3), .val (.int p4), .val (.int p5)] [])) _
    refine XS.aloadN X116.here hx rfl (hb hby d9_48) rfl rfl ?_
    show Steps p.tables e below (T116.setTop (mkF m 49 #[.val (.ref a1), .val (.ref a2), .val (.ref a3), .val (.int p4), .val (.int p5)] [(.ref a1)])) _
    refine XS.aloadN X116.here hx rfl (hb hby d9_49) rfl rfl ?_
    show Steps p.tables e below (T116.setTop (mkF m 50 #[.val (.ref a1), .val (.ref a2), .val (.ref a3), .val (.int p4), .val (.int p5)] [(.ref a3), (.ref a1)])) _
    refine st122 _ ?_
    show Steps p.tables e below (T122.setTop (mkF m 53 #[.val (.ref a1), .val (.ref a2), .val (.ref a3), .val (.int p4), .val (.int p5)] [])) _
    refine XS.aloadN X122.here hx rfl (hb hby d9_53) rfl rfl ?_
    show Steps p.tables e below (T122.setTop (mkF m 54 #[.val (.ref a1), .val (.ref a2), .val (.ref a3), .val (.int p4), .val (.int p5)] [(.ref a1)])) _
    refine XS.iloadN X122.here hx rfl (hb hby d9_54) rfl ?_
    show Steps p.tables e below (T122.setTop (mkF m 55 #[.val (.ref a1), .val (.ref a2), .val (.ref a3), .val (.int p4), .val (.int p5)] [(.int p4), (.ref a1)])) _
    refine st128 _ ?_
    show Steps p.tables e below (T128.setTop (mkF m 58 #[.val (.ref a1), .val (.ref a2), .val (.ref a3), .val (.int p4), .val (.int p5)] [])) _
    refine XS.aloadN X128.here hx rfl (hb hby d9_58) rfl rfl ?_
    show Steps p.tables e below (T128.setTop (mkF m 59 #[.val (.ref a1), .val (.ref a2), .val (.ref a3), .val (.int p4), .val (.int p5)] [(.ref a1)])) _
    refine XS.iload X128.here hx rfl (hb hby d9_59) rfl ?_
    show Steps p.tables e below (T128.setTop (mkF m 61 #[.val (.ref a1), .val (.ref a2), .val (.ref a3), .val (.int p4), .val (.int p5)] [(.int p5), (.ref a1)])) _
    refine st134 _ ?_
    show Steps p.tables e below (T134.setTop (mkF m 64 #[.val (.ref a1), .val (.ref a2), .val (.ref a3), .val (.int p4), .val (.int p5)] [])) _
    exact X134.returnOut hx Bd.returns (hb hby d9_64) hr
  · show Q9 Z a1 a2 a3 p4 p5 h0 n0 _ T134.heap _
    rw [e134]
    exact ⟨rfl, N134, K134, f138, f139⟩
theorem ef_11 (m : MethodId) (x0 : Addr) : entryFrame m #[(.ref x0)] 1 = mkF m 0 #[.val (.ref x0)] [] := by first | (simp [entryFrame, mkF, argsToLocals, Value.category]; done) | rfl
theorem d11_0 : decode prog_33_method_8_code 0 = .ok (.aload_n 0, 1) := by decide +kernel
theorem d11_1 : decode prog_33_method_8_code 1 = .ok (.getfield 33, 3) := by decide +kernel
theorem d11_4 : decode prog_33_method_8_code 4 = .ok (.ireturn, 1) := by decide +kernel
def Q11 (Z : State) (a1 : Addr) (w : Int32) (h0 : Heap) (n0 : Nat) (v : Option Value) (h : Heap) (L : List Loc) : Prop := v = some (.int w) ∧ Fr n0 L ∧ (h = h0)
set_option maxRecDepth 65536 in
set_option maxHeartbeats 40000000 in
theorem rm11 (l : Launch) (Z : State) (a0 : Array Value) (hw : ∀ d ∈ tables_1, d.before a0 Z = true) (ws : List Jvm.Cond) (a1 : Addr) (w : Int32) (h0 : Heap) (n0 : Nat) (Z0 : n0 ≤ h0.size) (F1 : Fld Z h0 a1 "com/example/lexiform/lexiform/logicalform/WordRole" "offset" "I" (.int w)) :
    MetFree l (⟨"com/example/lexiform/lexiform/logicalform/WordRole", "offset", "()I"⟩ : MethodName) (head1 (Jvm.Cond.code (⟨"com/example/lexiform/lexiform/logicalform/WordRole", "offset", "()I"⟩ : MethodName) prog_33_method_8_code 1 (some .int) :: ws) ({ frames := 0, cells := 0, slots := 0, locals := 0 } : Room)) (fun a U => a = #[(.ref a1)] ∧ Z.Warmed39 U.vm ∧ U.heap = h0) (fun _ _ _ _ _ => True) (fun _ U o U' => ∃ v L, o = .returned v ∧ Q11 Z a1 w h0 n0 v U'.heap L ∧ FrameEnd U o U' L ({ frames := 0, cells := 0, slots := 0, locals := 0 } : Room).cells ({ frames := 0, cells := 0, slots := 0, locals := 0 } : Room).slots) := by
  refine MetFree.of_bodySF (plainFor_of_name pn_5) hisR ?_
  intro p e s m args below meth c s₁ Bd hml0 hP hK
  obtain ⟨rfl, hZ0, hh⟩ := hP
  have hx := Bd.exec
  have hby := Bd.bytes
  have hml : c.maxLocals = 1 := hml0
  have hown0 : s.vm.findClass "com/example/lexiform/lexiform/logicalform/WordRole" = some m.cls := findClass_of_methodNamed Bd.named
  have hnm := (name_of_methodNamed Bd.named Bd.method).1
  have hlk : meth.locks = false := by first | exact BodyLoose.notSynchronized Bd | exact Body.notSynchronized Bd
  have X0 : Stand p l e ({ frames := 0, cells := 0, slots := 0, locals := 0 } : Room) s m #[(.ref a1)] below meth c s₁ [] 0 0 := Stand.of_body Bd
  have e0 : s₁.heap = h0 := by rw [← hh, Bd.state]; rfl
  have N0 := Fr.nil n0
  have pre0 : ∀ t, Steps p.tables e below (s₁.setTop (mkF m 0 #[.val (.ref a1)] [])) t → Steps p.tables e below (s₁.setTop (entryFrame m #[(.ref a1)] 1)) t := fun t k => castTop (ef_11 m a1) k
  obtain ⟨T101, X101, e101, st101⟩ := getF X0 hx hZ0 hown0 (host := "") (Or.inl (hw _ (List.mem_of_getElem? (i := 66) rfl))) Via.refl e0 F1 (g := (mkF m 1 #[.val (.ref a1)] [(.ref a1)])) rfl rfl (hb hby d11_1)
  obtain ⟨fs, hr, hrun, hended, hW, hsame⟩ := X101.leave (v := some (.int w)) (fun h => by rw [Bd.returns] at h; cases h) hlk
  refine ⟨_, _, pre0 _ ?_, hrun, hended, _, _, rfl, ?_, ⟨_, rfl⟩, hW, hsame.mono (by decide) (by decide)⟩
  · show Steps p.tables e below (s₁.setTop (mkF m 0 #[.val (.ref a1)] [])) _
    refine XS.aloadN X0.here hx rfl (hb hby d11_0) rfl rfl ?_
    show Steps p.tables e below (s₁.setTop (mkF m 1 #[.val (.ref a1)] [(.ref a1)])) _
    refine st101 _ ?_
    show Steps p.tables e below (T101.setTop (mkF m 4 #[.val (.ref a1)] [(.int w)])) _
    exact retI X101 hx Bd.returns (hb hby d11_4) hr
  · show Q11 Z a1 w h0 n0 _ T101.heap _
    rw [e101]
    exact ⟨rfl, N0, rfl⟩
theorem ef_12 (m : MethodId) (x0 : Addr) : entryFrame m #[(.ref x0)] 1 = mkF m 0 #[.val (.ref x0)] [] := by first | (simp [entryFrame, mkF, argsToLocals, Value.category]; done) | rfl
theorem d12_0 : decode prog_33_method_9_code 0 = .ok (.aload_n 0, 1) := by decide +kernel
theorem d12_1 : decode prog_33_method_9_code 1 = .ok (.getfield 37, 3) := by decide +kernel
theorem d12_4 : decode prog_33_method_9_code 4 = .ok (.ireturn, 1) := by decide +kernel
def Q12 (Z : State) (a1 : Addr) (w : Int32) (h0 : Heap) (n0 : Nat) (v : Option Value) (h : Heap) (L : List Loc) : Prop := v = some (.int w) ∧ Fr n0 L ∧ (h = h0)
set_option maxRecDepth 65536 in
set_option maxHeartbeats 40000000 in
theorem rm12 (l : Launch) (Z : State) (a0 : Array Value) (hw : ∀ d ∈ tables_1, d.before a0 Z = true) (ws : List Jvm.Cond) (a1 : Addr) (w : Int32) (h0 : Heap) (n0 : Nat) (Z0 : n0 ≤ h0.size) (F1 : Fld Z h0 a1 "com/example/lexiform/lexiform/logicalform/WordRole" "length" "I" (.int w)) :
    MetFree l (⟨"com/example/lexiform/lexiform/logicalform/WordRole", "length", "()I"⟩ : MethodName) (head1 (Jvm.Cond.code (⟨"com/example/lexiform/lexiform/logicalform/WordRole", "length", "()I"⟩ : MethodName) prog_33_method_9_code 1 (some .int) :: ws) ({ frames := 0, cells := 0, slots := 0, locals := 0 } : Room)) (fun a U => a = #[(.ref a1)] ∧ Z.Warmed39 U.vm ∧ U.heap = h0) (fun _ _ _ _ _ => True) (fun _ U o U' => ∃ v L, o = .returned v ∧ Q12 Z a1 w h0 n0 v U'.heap L ∧ FrameEnd U o U' L ({ frames := 0, cells := 0, slots := 0, locals := 0 } : Room).cells ({ frames := 0, cells := 0, slots := 0, locals := 0 } : Room).slots) := by
  refine MetFree.of_bodySF (plainFor_of_name pn_5) hisR ?_
  intro p e s m args below meth c s₁ Bd hml0 hP hK
  obtain ⟨rfl, hZ0, hh⟩ := hP
  have hx := Bd.exec
  have hby := Bd.bytes
  have hml : c.maxLocals = 1 := hml0
  have hown0 : s.vm.findClass "com/example/lexiform/lexiform/logicalform/WordRole" = some m.cls := findClass_of_methodNamed Bd.named
  have hnm := (name_of_methodNamed Bd.named Bd.method).1
  have hlk : meth.locks = false := by first | exact BodyLoose.notSynchronized Bd | exact Body.notSynchronized Bd
  have X0 : Stand p l e ({ frames := 0, cells := 0, slots := 0, locals := 0 } : Room) s m #[(.ref a1)] below meth c s₁ [] 0 0 := Stand.of_body Bd
  have e0 : s₁.heap = h0 := by rw [← hh, Bd.state]; rfl
  have N0 := Fr.nil n0
  have pre0 : ∀ t, Steps p.tables e below (s₁.setTop (mkF m 0 #[.val (.ref a1)] [])) t → Steps p.tables e below (s₁.setTop (entryFrame m #[(.ref a1)] 1)) t := fun t k => castTop (ef_12 m a1) k
  obtain ⟨T101, X101, e101, st101⟩ := getF X0 hx hZ0 hown0 (host := "") (Or.inl (hw _ (List.mem_of_getElem? (i := 68) rfl))) Via.refl e0 F1 (g := (mkF m 1 #[.val (.ref a1)] [(.ref a1)])) rfl rfl (hb hby d12_1)
  obtain ⟨fs, hr, hrun, hended, hW, hsame⟩ := X101.leave (v := some (.int w)) (fun h => by rw [Bd.returns] at h; cases h) hlk
  refine ⟨_, _, pre0 _ ?_, hrun, hended, _, _, rfl, ?_, ⟨_, rfl⟩, hW, hsame.mono (by decide) (by decide)⟩
  · show Steps p.tables e below (s₁.setTop (mkF m 0 #[.val (.ref a1)] [])) _
    refine XS.aloadN X0.here hx rfl (hb hby d12_0) rfl rfl ?_
    show Steps p.tables e below (s₁.setTop (mkF m 1 #[.val (.ref a1)] [(.ref a1)])) _
    refine st101 _ ?_
    show Steps p.tables e below (T101.setTop (mkF m 4 #[.val (.ref a1)] [(.int w)])) _
    exact retI X101 hx Bd.returns (hb hby d12_4) hr
  · show Q12 Z a1 w h0 n0 _ T101.heap _
    rw [e101]
    exact ⟨rfl, N0, rfl⟩
theorem ef_10 (m : MethodId) (x0 : Addr) (x1 : Addr) : entryFrame m #[(.ref x0), (.ref x1)] 2 = mkF m 0 #[.val (.ref x0), .val (.ref x1)] [] := by first | (simp [entryFrame, mkF, argsToLocals, Value.category]; done) | rfl
theorem d10_0 : decode prog_23_method_3_code 0 = .ok (.aload_n 1, 1) := by decide +kernel
theorem d10_1 : decode prog_23_method_3_code 1 = .ok (.invokevirtual 41, 3) := by decide +kernel
theorem pd_5 : parseMethodDescriptor "()I" = some ⟨[], some .int⟩ := by decide +kernel
theorem d10_4 : decode prog_23_method_3_code 4 = .ok (.aload_n 0, 1) := by decide +kernel
theorem d10_5 : decode prog_23_method_3_code 5 = .ok (.getfield 29, 3) := by decide +kernel
theorem d10_8 : decode prog_23_method_3_code 8 = .ok (.if_icmp .lt 28, 3) := by decide +kernel
theorem d10_36 : decode prog_23_method_3_code 36 = .ok (.iconst 0, 1) := by decide +kernel
theorem d10_37 : decode prog_23_method_3_code 37 = .ok (.ireturn, 1) := by decide +kernel
theorem d10_11 : decode prog_23_method_3_code 11 = .ok (.aload_n 1, 1) := by decide +kernel
theorem d10_12 : decode prog_23_method_3_code 12 = .ok (.invokevirtual 41, 3) := by decide +kernel
theorem d10_15 : decode prog_23_method_3_code 15 = .ok (.aload_n 1, 1) := by decide +kernel
theorem d10_16 : decode prog_23_method_3_code 16 = .ok (.invokevirtual 46, 3) := by decide +kernel
theorem d10_19 : decode prog_23_method_3_code 19 = .ok (.iadd, 1) := by decide +kernel
theorem d10_20 : decode prog_23_method_3_code 20 = .ok (.aload_n 0, 1) := by decide +kernel
theorem d10_21 : decode prog_23_method_3_code 21 = .ok (.getfield 29, 3) := by decide +kernel
theorem d10_24 : decode prog_23_method_3_code 24 = .ok (.aload_n 0, 1) := by decide +kernel
theorem d10_25 : decode prog_23_method_3_code 25 = .ok (.getfield 33, 3) := by decide +kernel
theorem d10_28 : decode prog_23_method_3_code 28 = .ok (.iadd, 1) := by decide +kernel
theorem d10_29 : decode prog_23_method_3_code 29 = .ok (.if_icmp .gt 7, 3) := by decide +kernel
theorem d10_32 : decode prog_23_method_3_code 32 = .ok (.iconst 1, 1) := by decide +kernel
theorem d10_33 : decode prog_23_method_3_code 33 = .ok (.goto 4, 3) := by decide +kernel
def Q10 (Z : State) (a1 : Addr) (a2 : Addr) (po : Int32) (pl : Int32) (wo : Int32) (wl : Int32) (h0 : Heap) (n0 : Nat) (v : Option Value) (h : Heap) (L : List Loc) : Prop := v = some (.int (own_holds po pl wo wl)) ∧ Fr n0 L ∧ (h = h0)
set_option maxRecDepth 65536 in
set_option maxHeartbeats 40000000 in
theorem rm10 (l : Launch) (Z : State) (a0 : Array Value) (hw : ∀ d ∈ tables_1, d.before a0 Z = true) (ws : List Jvm.Cond) (a1 : Addr) (a2 : Addr) (po : Int32) (pl : Int32) (wo : Int32) (wl : Int32) (h0 : Heap) (n0 : Nat) (Z0 : n0 ≤ h0.size) (E2 : Exa Z h0 a2 "com/example/lexiform/lexiform/logicalform/WordRole") (F1 : Fld Z h0 a1 "com/example/lexiform/lexiform/logicalform/Phrase" "offset" "I" (.int po)) (F2 : Fld Z h0 a1 "com/example/lexiform/lexiform/logicalform/Phrase" "length" "I" (.int pl)) (F3 : Fld Z h0 a2 "com/example/lexiform/lexiform/logicalform/WordRole" "offset" "I" (.int wo)) (F4 : Fld Z h0 a2 "com/example/lexiform/lexiform/logicalform/WordRole" "length" "I" (.int wl)) :
    MetFree l (⟨"com/example/lexiform/lexiform/logicalform/Phrase", "holds", "(Lcom/example/lexiform/lexiform/logicalform/WordRole;)Z"⟩ : MethodName) (head1 (Jvm.Cond.code (⟨"com/example/lexiform/lexiform/logicalform/Phrase", "holds", "(Lcom/example/lexiform/lexiform/logicalform/WordRole;)Z"⟩ : MethodName) prog_23_method_3_code 2 (some .boolean) :: ws) ({ frames := 1, cells := 0, slots := 0, locals := 13 } : Room)) (fun a U => a = #[(.ref a1), (.ref a2)] ∧ Z.Warmed39 U.vm ∧ U.heap = h0) (fun _ _ _ _ _ => True) (fun _ U o U' => ∃ v L, o = .returned v ∧ Q10 Z a1 a2 po pl wo wl h0 n0 v U'.heap L ∧ FrameEnd U o U' L ({ frames := 1, cells := 0, slots := 0, locals := 13 } : Room).cells ({ frames := 1, cells := 0, slots := 0, locals := 13 } : Room).slots) := by
  refine MetFree.of_bodySF (plainFor_of_name pn_4) hisR ?_
  intro p e s m args below meth c s₁ Bd hml0 hP hK
  obtain ⟨rfl, hZ0, hh⟩ := hP
  have hx := Bd.exec
  have hby := Bd.bytes
  have hml : c.maxLocals = 2 := hml0
  have hown0 : s.vm.findClass "com/example/lexiform/lexiform/logicalform/Phrase" = some m.cls := findClass_of_methodNamed Bd.named
  have hnm := (name_of_methodNamed Bd.named Bd.method).1
  have hlk : meth.locks = false := by first | exact BodyLoose.notSynchronized Bd | exact Body.notSynchronized Bd
  have X0 : Stand p l e ({ frames := 1, cells := 0, slots := 0, locals := 13 } : Room) s m #[(.ref a1), (.ref a2)] below meth c s₁ [] 0 0 := Stand.of_body Bd
  have e0 : s₁.heap = h0 := by rw [← hh, Bd.state]; rfl
  have N0 := Fr.nil n0
  have pre0 : ∀ t, Steps p.tables e below (s₁.setTop (mkF m 0 #[.val (.ref a1), .val (.ref a2)] [])) t → Steps p.tables e below (s₁.setTop (entryFrame m #[(.ref a1), (.ref a2)] 2)) t := fun t k => castTop (ef_10 m a1 a2) k
  obtain ⟨cq101, kq101, q101a, q101b, q101c⟩ := isOf hZ0 e0 E2
  obtain ⟨_, _, ⟨T101, L101, k101, n101⟩, -, X101, ⟨Lc101, hQ101, l101, y101, z101⟩, st101⟩ := X0.virtualBack hx (y := (⟨"com/example/lexiform/lexiform/logicalform/WordRole", "offset", "()I"⟩ : MethodName)) (z := (⟨"com/example/lexiform/lexiform/logicalform/WordRole", "offset", "()I"⟩ : MethodName)) hown0 (mvT hZ0 (hw _ (List.mem_of_getElem? (i := 75) rfl))) (mvT hZ0 (hw _ (List.mem_of_getElem? (i := 76) rfl))) (notFace_of_selects (args := #[]) (mvT hZ0 (hw _ (List.mem_of_getElem? (i := 78) rfl)))) (mvT hZ0 (hw _ (List.mem_of_getElem? (i := 78) rfl))) (mvT hZ0 (hw _ (List.mem_of_getElem? (i := 77) rfl))) (by decide) (backOf (W := 0) (rm11 l Z a0 hw [] a2 wo h0 n0 Z0 F3) hZ0 (hw _ (List.mem_of_getElem? (i := 79) rfl)) (hw _ (List.mem_of_getElem? (i := 54) rfl)) (by decide) (by decide)) q101a q101c (g := (mkF m 1 #[.val (.ref a1), .val (.ref a2)] [(.ref a2)])) rfl (by rw [hml]; rfl) (Steps.refl _) (argsL := []) (rest := []) (lenOf pd_5 rfl) rfl (by show 2 * 0 + _ ≤ _; exact Nat.le_of_eq rfl) (hb hby d10_1) (fun _ _ => ⟨rfl, e0, (by decide : 0 + 0 ≤ _), (by decide : 0 + 0 ≤ _)⟩)
  dsimp only [Pt.U, Pt.locs, Pt.cells, Pt.slots] at X101 l101 y101 z101 st101 hQ101
  subst l101 y101 z101
  obtain ⟨rfl, N101q, P101_0⟩ := hQ101
  have N101 := Fr.app N0 N101q
  obtain ⟨T102, X102, e102, st102⟩ := getF X101 hx hZ0 hown0 (host := "") (Or.inl (hw _ (List.mem_of_getElem? (i := 48) rfl))) Via.refl P101_0 F1 (g := (mkF m 5 #[.val (.ref a1), .val (.ref a2)] [(.ref a1), (.int wo)])) rfl rfl (hb hby d10_5)
  have pr103 : ∀ t, Steps p.tables e below (T102.setTop (mkF m 8 #[.val (.ref a1), .val (.ref a2)] [(.int po), (.int wo)])) t → Steps p.tables e below (s₁.setTop (mkF m 0 #[.val (.ref a1), .val (.ref a2)] [])) t := fun t kt => by
    show Steps p.tables e below (s₁.setTop (mkF m 0 #[.val (.ref a1), .val (.ref a2)] [])) _
    refine XS.aloadN X0.here hx rfl (hb hby d10_0) rfl rfl ?_
    show Steps p.tables e below (s₁.setTop (mkF m 1 #[.val (.ref a1), .val (.ref a2)] [(.ref a2)])) _
    refine st101.trans ?_
    show Steps p.tables e below (T101.setTop (mkF m 4 #[.val (.ref a1), .val (.ref a2)] [(.int wo)])) _
    refine XS.aloadN X101.here hx rfl (hb hby d10_4) rfl rfl ?_
    show Steps p.tables e below (T101.setTop (mkF m 5 #[.val (.ref a1), .val (.ref a2)] [(.ref a1), (.int wo)])) _
    refine st102 _ ?_
    exact kt
  by_cases hc104 : wo < po
  · obtain ⟨fs, hr, hrun, hended, hW, hsame⟩ := X102.leave (v := some (.int (0 : Int32))) (fun h => by rw [Bd.returns] at h; cases h) hlk
    refine ⟨_, _, pre0 _ ?_, hrun, hended, _, _, rfl, ?_, ⟨_, rfl⟩, hW, hsame.mono (by decide) (by decide)⟩
    · refine pr103 _ ?_
      show Steps p.tables e below (T102.setTop (mkF m 8 #[.val (.ref a1), .val (.ref a2)] [(.int po), (.int wo)])) _
      refine XS.icmpYes X102.here hx rfl (pc0 := 8) (pc' := 36) rfl (hb hby d10_8) rfl (tlt hc104).1 (by decide) (by decide) ?_
      show Steps p.tables e below (T102.setTop (mkF m 36 #[.val (.ref a1), .val (.ref a2)] [])) _
      refine XS.iconst X102.here hx rfl (hb hby d10_36) ?_
      show Steps p.tables e below (T102.setTop (mkF m 37 #[.val (.ref a1), .val (.ref a2)] [(.int (0 : Int32))])) _
      exact retN X102 hx (t := .boolean) Bd.returns (by simp) (hb hby d10_37) hr
    · show Q10 Z a1 a2 po pl wo wl h0 n0 _ T102.heap _
      rw [e102]
      exact ⟨(congrArg (fun z => some (Value.int z)) (by simp [own_holds, hc104] : (0 : Int32) = (own_holds po pl wo wl))), N101, rfl⟩
  · obtain ⟨cq105, kq105, q105a, q105b, q105c⟩ := isOf hZ0 e102 E2
    obtain ⟨_, _, ⟨T105, L105, k105, n105⟩, -, X105, ⟨Lc105, hQ105, l105, y105, z105⟩, st105⟩ := X102.virtualBack hx (y := (⟨"com/example/lexiform/lexiform/logicalform/WordRole", "offset", "()I"⟩ : MethodName)) (z := (⟨"com/example/lexiform/lexiform/logicalform/WordRole", "offset", "()I"⟩ : MethodName)) hown0 (mvT hZ0 (hw _ (List.mem_of_getElem? (i := 75) rfl))) (mvT hZ0 (hw _ (List.mem_of_getElem? (i := 76) rfl))) (notFace_of_selects (args := #[]) (mvT hZ0 (hw _ (List.mem_of_getElem? (i := 78) rfl)))) (mvT hZ0 (hw _ (List.mem_of_getElem? (i := 78) rfl))) (mvT hZ0 (hw _ (List.mem_of_getElem? (i := 77) rfl))) (by decide) (backOf (W := 0) (rm11 l Z a0 hw [] a2 wo h0 n0 Z0 F3) hZ0 (hw _ (List.mem_of_getElem? (i := 79) rfl)) (hw _ (List.mem_of_getElem? (i := 54) rfl)) (by decide) (by decide)) q105a q105c (g := (mkF m 12 #[.val (.ref a1), .val (.ref a2)] [(.ref a2)])) rfl (by rw [hml]; rfl) (Steps.refl _) (argsL := []) (rest := []) (lenOf pd_5 rfl) rfl (by show 2 * 0 + _ ≤ _; exact Nat.le_of_eq rfl) (hb hby d10_12) (fun _ _ => ⟨rfl, e102, (by decide : 0 + 0 ≤ _), (by decide : 0 + 0 ≤ _)⟩)
    dsimp only [Pt.U, Pt.locs, Pt.cells, Pt.slots] at X105 l105 y105 z105 st105 hQ105
    subst l105 y105 z105
    obtain ⟨rfl, N105q, P105_0⟩ := hQ105
    have N105 := Fr.app N101 N105q
    obtain ⟨cq106, kq106, q106a, q106b, q106c⟩ := isOf hZ0 P105_0 E2
    obtain ⟨_, _, ⟨T106, L106, k106, n106⟩, -, X106, ⟨Lc106, hQ106, l106, y106, z106⟩, st106⟩ := X105.virtualBack hx (y := (⟨"com/example/lexiform/lexiform/logicalform/WordRole", "length", "()I"⟩ : MethodName)) (z := (⟨"com/example/lexiform/lexiform/logicalform/WordRole", "length", "()I"⟩ : MethodName)) hown0 (mvT hZ0 (hw _ (List.mem_of_getElem? (i := 80) rfl))) (mvT hZ0 (hw _ (List.mem_of_getElem? (i := 81) rfl))) (notFace_of_selects (args := #[]) (mvT hZ0 (hw _ (List.mem_of_getElem? (i := 83) rfl)))) (mvT hZ0 (hw _ (List.mem_of_getElem? (i := 83) rfl))) (mvT hZ0 (hw _ (List.mem_of_getElem? (i := 82) rfl))) (by decide) (backOf (W := 1) (rm12 l Z a0 hw [] a2 wl h0 n0 Z0 F4) hZ0 (hw _ (List.mem_of_getElem? (i := 84) rfl)) (hw _ (List.mem_of_getElem? (i := 54) rfl)) (by decide) (by decide)) q106a q106c (g := (mkF m 16 #[.val (.ref a1), .val (.ref a2)] [(.ref a2), (.int wo)])) rfl (by rw [hml]; rfl) (Steps.refl _) (argsL := []) (rest := [(.int wo)]) (lenOf pd_5 rfl) rfl (by show 2 * 0 + _ ≤ _; exact Nat.le_of_eq rfl) (hb hby d10_16) (fun _ _ => ⟨rfl, P105_0, (by decide : 0 + 0 ≤ _), (by decide : 0 + 0 ≤ _)⟩)
    dsimp only [Pt.U, Pt.locs, Pt.cells, Pt.slots] at X106 l106 y106 z106 st106 hQ106
    subst l106 y106 z106
    obtain ⟨rfl, N106q, P106_0⟩ := hQ106
    have N106 := Fr.app N105 N106q
    obtain ⟨T107, X107, e107, st107⟩ := getF X106 hx hZ0 hown0 (host := "") (Or.inl (hw _ (List.mem_of_getElem? (i := 48) rfl))) Via.refl P106_0 F1 (g := (mkF m 21 #[.val (.ref a1), .val (.ref a2)] [(.ref a1), (.int (wo + wl))])) rfl rfl (hb hby d10_21)
    obtain ⟨T108, X108, e108, st108⟩ := getF X107 hx hZ0 hown0 (host := "") (Or.inl (hw _ (List.mem_of_getElem? (i := 50) rfl))) Via.refl e107 F2 (g := (mkF m 25 #[.val (.ref a1), .val (.ref a2)] [(.ref a1), (.int po), (.int (wo + wl))])) rfl rfl (hb hby d10_25)
    have pr109 : ∀ t, Steps p.tables e below (T108.setTop (mkF m 29 #[.val (.ref a1), .val (.ref a2)] [(.int (po + pl)), (.int (wo + wl))])) t → Steps p.tables e below (s₁.setTop (mkF m 0 #[.val (.ref a1), .val (.ref a2)] [])) t := fun t kt => by
      refine pr103 _ ?_
      show Steps p.tables e below (T102.setTop (mkF m 8 #[.val (.ref a1), .val (.ref a2)] [(.int po), (.int wo)])) _
      refine XS.icmpNo X102.here hx rfl (hb hby d10_8) rfl (flt hc104).1 ?_
      show Steps p.tables e below (T102.setTop (mkF m 11 #[.val (.ref a1), .val (.ref a2)] [])) _
      refine XS.aloadN X102.here hx rfl (hb hby d10_11) rfl rfl ?_
      show Steps p.tables e below (T102.setTop (mkF m 12 #[.val (.ref a1), .val (.ref a2)] [(.ref a2)])) _
      refine st105.trans ?_
      show Steps p.tables e below (T105.setTop (mkF m 15 #[.val (.ref a1), .val (.ref a2)] [(.int wo)])) _
      refine XS.aloadN X105.here hx rfl (hb hby d10_15) rfl rfl ?_
      show Steps p.tables e below (T105.setTop (mkF m 16 #[.val (.ref a1), .val (.ref a2)] [(.ref a2), (.int wo)])) _
      refine st106.trans ?_
      show Steps p.tables e below (T106.setTop (mkF m 19 #[.val (.ref a1), .val (.ref a2)] [(.int wl), (.int wo)])) _
      refine XS.iadd X106.here hx rfl (hb hby d10_19) rfl ?_
      show Steps p.tables e below (T106.setTop (mkF m 20 #[.val (.ref a1), .val (.ref a2)] [(.int (wo + wl))])) _
      refine XS.aloadN X106.here hx rfl (hb hby d10_20) rfl rfl ?_
      show Steps p.tables e below (T106.setTop (mkF m 21 #[.val (.ref a1), .val (.ref a2)] [(.ref a1), (.int (wo + wl))])) _
      refine st107 _ ?_
      show Steps p.tables e below (T107.setTop (mkF m 24 #[.val (.ref a1), .val (.ref a2)] [(.int po), (.int (wo + wl))])) _
      refine XS.aloadN X107.here hx rfl (hb hby d10_24) rfl rfl ?_
      show Steps p.tables e below (T107.setTop (mkF m 25 #[.val (.ref a1), .val (.ref a2)] [(.ref a1), (.int po), (.int (wo + wl))])) _
      refine st108 _ ?_
      show Steps p.tables e below (T108.setTop (mkF m 28 #[.val (.ref a1), .val (.ref a2)] [(.int pl), (.int po), (.int (wo + wl))])) _
      refine XS.iadd X108.here hx rfl (hb hby d10_28) rfl ?_
      exact kt
    by_cases hc110 : (po + pl) < (wo + wl)
    · obtain ⟨fs, hr, hrun, hended, hW, hsame⟩ := X108.leave (v := some (.int (0 : Int32))) (fun h => by rw [Bd.returns] at h; cases h) hlk
      refine ⟨_, _, pre0 _ ?_, hrun, hended, _, _, rfl, ?_, ⟨_, rfl⟩, hW, hsame.mono (by decide) (by decide)⟩
      · refine pr109 _ ?_
        show Steps p.tables e below (T108.setTop (mkF m 29 #[.val (.ref a1), .val (.ref a2)] [(.int (po + pl)), (.int (wo + wl))])) _
        refine XS.icmpYes X108.here hx rfl (pc0 := 29) (pc' := 36) rfl (hb hby d10_29) rfl (tlt hc110).2.2.1 (by decide) (by decide) ?_
        show Steps p.tables e below (T108.setTop (mkF m 36 #[.val (.ref a1), .val (.ref a2)] [])) _
        refine XS.iconst X108.here hx rfl (hb hby d10_36) ?_
        show Steps p.tables e below (T108.setTop (mkF m 37 #[.val (.ref a1), .val (.ref a2)] [(.int (0 : Int32))])) _
        exact retN X108 hx (t := .boolean) Bd.returns (by simp) (hb hby d10_37) hr
      · show Q10 Z a1 a2 po pl wo wl h0 n0 _ T108.heap _
        rw [e108]
        exact ⟨(congrArg (fun z => some (Value.int z)) (by simp [own_holds, hc104, hc110] : (0 : Int32) = (own_holds po pl wo wl))), N106, rfl⟩
    · obtain ⟨fs, hr, hrun, hended, hW, hsame⟩ := X108.leave (v := some (.int (1 : Int32))) (fun h => by rw [Bd.returns] at h; cases h) hlk
      refine ⟨_, _, pre0 _ ?_, hrun, hended, _, _, rfl, ?_, ⟨_, rfl⟩, hW, hsame.mono (by decide) (by decide)⟩
      · refine pr109 _ ?_
        show Steps p.tables e below (T108.setTop (mkF m 29 #[.val (.ref a1), .val (.ref a2)] [(.int (po + pl)), (.int (wo + wl))])) _
        refine XS.icmpNo X108.here hx rfl (hb hby d10_29) rfl (flt hc110).2.2.1 ?_
        show Steps p.tables e below (T108.setTop (mkF m 32 #[.val (.ref a1), .val (.ref a2)] [])) _
        refine XS.iconst X108.here hx rfl (hb hby d10_32) ?_
        show Steps p.tables e below (T108.setTop (mkF m 33 #[.val (.ref a1), .val (.ref a2)] [(.int (1 : Int32))])) _
        refine XS.goto X108.here hx rfl (pc0 := 33) (pc' := 37) rfl (hb hby d10_33) (by decide) (by decide) ?_
        show Steps p.tables e below (T108.setTop (mkF m 37 #[.val (.ref a1), .val (.ref a2)] [(.int (1 : Int32))])) _
        exact retN X108 hx (t := .boolean) Bd.returns (by simp) (hb hby d10_37) hr
      · show Q10 Z a1 a2 po pl wo wl h0 n0 _ T108.heap _
        rw [e108]
        exact ⟨(congrArg (fun z => some (Value.int z)) (by simp [own_holds, hc104, hc110] : (1 : Int32) = (own_holds po pl wo wl))), N106, rfl⟩
theorem pn_6 : plainName "com/example/lexiform/lexiform/logicalform/PhraseHoldsPinLaw" = true := by first | (simp [plainName, overriddenIn]; done) | decide +kernel
theorem ef_0 (m : MethodId) (x0 : Int32) (x1 : Int32) (x2 : Int32) (x3 : Int32) (x4 : Int32) : entryFrame m #[(.int x0), (.int x1), (.int x2), (.int x3), (.int x4)] maxLocals = mkF m 0 #[.val (.int x0), .val (.int x1), .val (.int x2), .val (.int x3), .val (.int x4), .unset, .unset, .unset, .unset, .unset, .unset, .unset, .unset, .unset, .unset, .unset, .unset, .unset, .unset, .unset, .unset, .unset, .unset, .unset, .unset, .unset] [] := by first | (simp [entryFrame, mkF, argsToLocals, Value.category, maxLocals]; done) | rfl
theorem pd_6 : parseMethodDescriptor "(C)Ljava/lang/String;" = some ⟨[.char], some (.object "java/lang/String")⟩ := by decide +kernel
theorem pd_7 : parseMethodDescriptor "(Ljava/lang/String;II)V" = some ⟨[(.object "java/lang/String"), .int, .int], none⟩ := by decide +kernel
theorem pd_8 : parseMethodDescriptor "(Ljava/lang/String;Ljava/lang/String;II)V" = some ⟨[(.object "java/lang/String"), (.object "java/lang/String"), .int, .int], none⟩ := by decide +kernel
theorem pd_9 : parseMethodDescriptor "(Lcom/example/lexiform/lexiform/logicalform/WordRole;)Z" = some ⟨[(.object "com/example/lexiform/lexiform/logicalform/WordRole")], some .boolean⟩ := by decide +kernel
def Q0 (Z : State) (p1 : Int32) (p2 : Int32) (p3 : Int32) (p4 : Int32) (p5 : Int32) (w : Int32) (h0 : Heap) (n0 : Nat) (v : Option Value) (h : Heap) (L : List Loc) : Prop := v = some (.int (1 : Int32)) ∧ Fr n0 L
set_option maxRecDepth 65536 in
set_option maxHeartbeats 40000000 in
theorem rm0 (l : Launch) (Z : State) (a0 : Array Value) (hw : ∀ d ∈ tables_1, d.before a0 Z = true) (ws : List Jvm.Cond) (p1 : Int32) (p2 : Int32) (p3 : Int32) (p4 : Int32) (p5 : Int32) (w : Int32) (h0 : Heap) (n0 : Nat) (Z0 : n0 ≤ h0.size) (O0 : Old Z n0 h0) (S0 : Sta Z Z.heap "java/lang/String" "COMPACT_STRINGS" "Z" (.int w)) (hw0 : ¬ (w = (0 : Int32))) :
    MetFree l x (head1 (Jvm.Cond.code x code maxLocals ret :: ws) room_1) (fun a U => a = #[(.int p1), (.int p2), (.int p3), (.int p4), (.int p5)] ∧ Z.Warmed39 U.vm ∧ U.heap = h0) (fun _ _ _ _ _ => True) (fun _ U o U' => ∃ v L, o = .returned v ∧ Q0 Z p1 p2 p3 p4 p5 w h0 n0 v U'.heap L ∧ ReturnedEndW U o U' L room_1.cells room_1.slots) := by
  refine MetFree.of_bodySF (plainFor_of_name pn_6) hisR ?_
  intro p e s m args below meth c s₁ Bd hml0 hP hK
  obtain ⟨rfl, hZ0, hh⟩ := hP
  have hx := Bd.exec
  have hby := Bd.bytes
  have hml : c.maxLocals = 26 := hml0
  have hown0 : s.vm.findClass "com/example/lexiform/lexiform/logicalform/PhraseHoldsPinLaw" = some m.cls := findClass_of_methodNamed Bd.named
  have hnm := (name_of_methodNamed Bd.named Bd.method).1
  have hlk : meth.locks = false := by first | exact BodyLoose.notSynchronized Bd | exact Body.notSynchronized Bd
  have X0 : Stand p l e room_1 s m #[(.int p1), (.int p2), (.int p3), (.int p4), (.int p5)] below meth c s₁ [] 0 0 := Stand.of_body Bd
  have e0 : s₁.heap = h0 := by rw [← hh, Bd.state]; rfl
  have N0 := Fr.nil n0
  have pre0 : ∀ t, Steps p.tables e below (s₁.setTop (mkF m 0 #[.val (.int p1), .val (.int p2), .val (.int p3), .val (.int p4), .val (.int p5), .unset, .unset, .unset, .unset, .unset, .unset, .unset, .unset, .unset, .unset, .unset, .unset, .unset, .unset, .unset, .unset, .unset, .unset, .unset, .unset, .unset] [])) t → Steps p.tables e below (s₁.setTop (entryFrame m #[(.int p1), (.int p2), (.int p3), (.int p4), (.int p5)] maxLocals)) t := fun t k => castTop (ef_0 m p1 p2 p3 p4 p5) k
  obtain ⟨_, _, ⟨T101, L101, k101, n101⟩, -, X101, ⟨Lc101, hQ101, l101, y101, z101⟩, st101⟩ := Jvm.LawKit.callS X0 hx (y := (⟨"java/lang/String", "valueOf", "(C)Ljava/lang/String;"⟩ : MethodName)) hown0 (mvT hZ0 (hw _ (List.mem_of_getElem? (i := 1) rfl))) (mvT hZ0 (hw _ (List.mem_of_getElem? (i := 2) rfl))) (mvT hZ0 (hw _ (List.mem_of_getElem? (i := 3) rfl))) (mvT hZ0 (hw _ (List.mem_of_getElem? (i := 4) rfl))) (by decide) (backOf (W := 0) (rm1 l Z a0 hw [] ((p5 &&& (255 : Int32)).toUInt32.toUInt16.toUInt32.toInt32) w h0 n0 Z0 O0 S0 hw0 (own_c1 _)) hZ0 (hw _ (List.mem_of_getElem? (i := 4) rfl)) (hw _ (List.mem_of_getElem? (i := 3) rfl)) (by decide) (by decide)) (g := (mkF m 31 #[.val (.int p1), .val (.int p2), .val (.int p3), .val (.int p4), .val (.int p5), .val (.int (p1 &&& (1073741823 : Int32))), .val (.int (p2 &&& (1073741823 : Int32))), .val (.int (p3 &&& (1073741823 : Int32))), .val (.int (p4 &&& (1073741823 : Int32))), .unset, .unset, .unset, .unset, .unset, .unset, .unset, .unset, .unset, .unset, .unset, .unset, .unset, .unset, .unset, .unset, .unset] [(.int ((p5 &&& (255 : Int32)).toUInt32.toUInt16.toUInt32.toInt32))])) rfl (by rw [hml]; rfl) (argsL := [(.int ((p5 &&& (255 : Int32)).toUInt32.toUInt16.toUInt32.toInt32))]) (rest := []) (lenOf pd_6 rfl) rfl (by show 2 * 0 + _ ≤ _; exact Nat.le_of_eq rfl) (hb hby at_31) (fun _ _ => ⟨rfl, e0, (by decide : 0 + 2 ≤ _), (by decide : 0 + 5 ≤ _)⟩)
  dsimp only [Pt.U, Pt.locs, Pt.cells, Pt.slots] at X101 l101 y101 z101 st101 hQ101
  subst l101 y101 z101
  obtain ⟨b_101, rfl, N101q, P101_0⟩ := hQ101
  have N101 := Fr.app N0 N101q
  have f102 : Old Z n0 T101.heap := O0.keep P101_0 all0
  have Zs101 : n0 ≤ T101.heap.size := Nat.le_trans Z0 P101_0.1
  obtain ⟨_, _, ⟨T103, L103, k103, n103⟩, -, X103, ⟨Lc103, hQ103, l103, y103, z103⟩, st103⟩ := Jvm.LawKit.callS X101 hx (y := (⟨"java/lang/String", "valueOf", "(C)Ljava/lang/String;"⟩ : MethodName)) hown0 (mvT hZ0 (hw _ (List.mem_of_getElem? (i := 1) rfl))) (mvT hZ0 (hw _ (List.mem_of_getElem? (i := 2) rfl))) (mvT hZ0 (hw _ (List.mem_of_getElem? (i := 3) rfl))) (mvT hZ0 (hw _ (List.mem_of_getElem? (i := 4) rfl))) (by decide) (backOf (W := 0) (rm1 l Z a0 hw [] ((((p5.toUInt32 >>> ((8 : Int32) &&& 31).toUInt32).toInt32) &&& (255 : Int32)).toUInt32.toUInt16.toUInt32.toInt32) w T101.heap n0 Zs101 f102 S0 hw0 (own_c1 _)) hZ0 (hw _ (List.mem_of_getElem? (i := 4) rfl)) (hw _ (List.mem_of_getElem? (i := 3) rfl)) (by decide) (by decide)) (g := (mkF m 46 #[.val (.int p1), .val (.int p2), .val (.int p3), .val (.int p4), .val (.int p5), .val (.int (p1 &&& (1073741823 : Int32))), .val (.int (p2 &&& (1073741823 : Int32))), .val (.int (p3 &&& (1073741823 : Int32))), .val (.int (p4 &&& (1073741823 : Int32))), .val (.ref b_101), .unset, .unset, .unset, .unset, .unset, .unset, .unset, .unset, .unset, .unset, .unset, .unset, .unset, .unset, .unset, .unset] [(.int ((((p5.toUInt32 >>> ((8 : Int32) &&& 31).toUInt32).toInt32) &&& (255 : Int32)).toUInt32.toUInt16.toUInt32.toInt32))])) rfl (by rw [hml]; rfl) (argsL := [(.int ((((p5.toUInt32 >>> ((8 : Int32) &&& 31).toUInt32).toInt32) &&& (255 : Int32)).toUInt32.toUInt16.toUInt32.toInt32))]) (rest := []) (lenOf pd_6 rfl) rfl (by show 2 * 0 + _ ≤ _; exact Nat.le_of_eq rfl) (hb hby at_46) (fun _ _ => ⟨rfl, rfl, (by decide : 2 + 2 ≤ _), (by decide : 5 + 5 ≤ _)⟩)
  dsimp only [Pt.U, Pt.locs, Pt.cells, Pt.slots] at X103 l103 y103 z103 st103 hQ103
  subst l103 y103 z103
  obtain ⟨b_103, rfl, N103q, P103_0⟩ := hQ103
  have N103 := Fr.app N101 N103q
  have f104 : Old Z n0 T103.heap := f102.keep P103_0 all0
  have Zs103 : n0 ≤ T103.heap.size := Nat.le_trans Zs101 P103_0.1
  obtain ⟨_, _, ⟨T105, L105, k105, n105⟩, -, X105, ⟨Lc105, hQ105, l105, y105, z105⟩, st105⟩ := Jvm.LawKit.callS X103 hx (y := (⟨"java/lang/String", "valueOf", "(C)Ljava/lang/String;"⟩ : MethodName)) hown0 (mvT hZ0 (hw _ (List.mem_of_getElem? (i := 1) rfl))) (mvT hZ0 (hw _ (List.mem_of_getElem? (i := 2) rfl))) (mvT hZ0 (hw _ (List.mem_of_getElem? (i := 3) rfl))) (mvT hZ0 (hw _ (List.mem_of_getElem? (i := 4) rfl))) (by decide) (backOf (W := 0) (rm1 l Z a0 hw [] ((((p5.toUInt32 >>> ((16 : Int32) &&& 31).toUInt32).toInt32) &&& (255 : Int32)).toUInt32.toUInt16.toUInt32.toInt32) w T103.heap n0 Zs103 f104 S0 hw0 (own_c1 _)) hZ0 (hw _ (List.mem_of_getElem? (i := 4) rfl)) (hw _ (List.mem_of_getElem? (i := 3) rfl)) (by decide) (by decide)) (g := (mkF m 61 #[.val (.int p1), .val (.int p2), .val (.int p3), .val (.int p4), .val (.int p5), .val (.int (p1 &&& (1073741823 : Int32))), .val (.int (p2 &&& (1073741823 : Int32))), .val (.int (p3 &&& (1073741823 : Int32))), .val (.int (p4 &&& (1073741823 : Int32))), .val (.ref b_101), .val (.ref b_103), .unset, .unset, .unset, .unset, .unset, .unset, .unset, .unset, .unset, .unset, .unset, .unset, .unset, .unset, .unset] [(.int ((((p5.toUInt32 >>> ((16 : Int32) &&& 31).toUInt32).toInt32) &&& (255 : Int32)).toUInt32.toUInt16.toUInt32.toInt32))])) rfl (by rw [hml]; rfl) (argsL := [(.int ((((p5.toUInt32 >>> ((16 : Int32) &&& 31).toUInt32).toInt32) &&& (255 : Int32)).toUInt32.toUInt16.toUInt32.toInt32))]) (rest := []) (lenOf pd_6 rfl) rfl (by show 2 * 0 + _ ≤ _; exact Nat.le_of_eq rfl) (hb hby at_61) (fun _ _ => ⟨rfl, rfl, (by decide : 4 + 2 ≤ _), (by decide : 10 + 5 ≤ _)⟩)
  dsimp only [Pt.U, Pt.locs, Pt.cells, Pt.slots] at X105 l105 y105 z105 st105 hQ105
  subst l105 y105 z105
  obtain ⟨b_105, rfl, N105q, P105_0⟩ := hQ105
  have N105 := Fr.app N103 N105q
  have f106 : Old Z n0 T105.heap := f104.keep P105_0 all0
  have Zs105 : n0 ≤ T105.heap.size := Nat.le_trans Zs103 P105_0.1
  obtain ⟨T107, h107, X107, e107, E107, A107, D107, -, st107⟩ := newO X105 hx hZ0 hown0 (hw _ (List.mem_of_getElem? (i := 27) rfl)) (hw _ (List.mem_of_getElem? (i := 28) rfl)) (hw _ (List.mem_of_getElem? (i := 29) rfl)) rfl (g := (mkF m 66 #[.val (.int p1), .val (.int p2), .val (.int p3), .val (.int p4), .val (.int p5), .val (.int (p1 &&& (1073741823 : Int32))), .val (.int (p2 &&& (1073741823 : Int32))), .val (.int (p3 &&& (1073741823 : Int32))), .val (.int (p4 &&& (1073741823 : Int32))), .val (.ref b_101), .val (.ref b_103), .val (.ref b_105), .unset, .unset, .unset, .unset, .unset, .unset, .unset, .unset, .unset, .unset, .unset, .unset, .unset, .unset] [])) rfl (hb hby at_66) (by decide) (by decide)
  obtain ⟨b107, g107⟩ : ∃ z, z = T105.heap.size := ⟨_, rfl⟩
  rw [← g107] at A107 D107 st107
  have gn_b107 : n0 ≤ b107 := Nat.le_trans Zs105 (Nat.le_of_eq g107.symm)
  have f108 : Old Z n0 h107 := f106.ext E107
  have Zs107 : n0 ≤ h107.size := Nat.le_trans Zs105 E107.1
  have f109 : Fld Z h107 b107 "com/example/lexiform/lexiform/logicalform/Phrase" "role" "Ljava/lang/String;" .null := D107 (Or.inr (hw _ (List.mem_of_getElem? (i := 47) rfl))) (ty := (.object "java/lang/String")) (by decide)
  have f110 : Fld Z h107 b107 "com/example/lexiform/lexiform/logicalform/Phrase" "offset" "I" (.int (0 : Int32)) := D107 (Or.inr (hw _ (List.mem_of_getElem? (i := 49) rfl))) (ty := .int) (by decide)
  have f111 : Fld Z h107 b107 "com/example/lexiform/lexiform/logicalform/Phrase" "length" "I" (.int (0 : Int32)) := D107 (Or.inr (hw _ (List.mem_of_getElem? (i := 51) rfl))) (ty := .int) (by decide)
  obtain ⟨_, _, ⟨T112, L112, k112, n112⟩, -, X112, hS112, hg112, ⟨Lc112, hQ112, l112, y112, z112⟩, st112⟩ := X107.specialBackS hx (y := (⟨"com/example/lexiform/lexiform/logicalform/Phrase", "<init>", "(Ljava/lang/String;II)V"⟩ : MethodName)) rfl hown0 (mvT hZ0 (hw _ (List.mem_of_getElem? (i := 30) rfl))) (mvT hZ0 (hw _ (List.mem_of_getElem? (i := 31) rfl))) (mvT hZ0 (hw _ (List.mem_of_getElem? (i := 32) rfl))) (by decide) (backOfS (W := 1) (rm6 l Z a0 hw [] b107 b_105 (p1 &&& (1073741823 : Int32)) (p2 &&& (1073741823 : Int32)) h107 n0 Zs107 A107 gn_b107 f109 f110 f111 (own_nn _) (own_nn _)) hZ0 (hw _ (List.mem_of_getElem? (i := 32) rfl)) (hw _ (List.mem_of_getElem? (i := 29) rfl)) (by decide) (by decide)) (g := (mkF m 76 #[.val (.int p1), .val (.int p2), .val (.int p3), .val (.int p4), .val (.int p5), .val (.int (p1 &&& (1073741823 : Int32))), .val (.int (p2 &&& (1073741823 : Int32))), .val (.int (p3 &&& (1073741823 : Int32))), .val (.int (p4 &&& (1073741823 : Int32))), .val (.ref b_101), .val (.ref b_103), .val (.ref b_105), .unset, .unset, .unset, .unset, .unset, .unset, .unset, .unset, .unset, .unset, .unset, .unset, .unset, .unset] [(.int (p2 &&& (1073741823 : Int32))), (.int (p1 &&& (1073741823 : Int32))), (.ref b_105), (.ref b107), (.ref b107)])) rfl (by rw [hml]; rfl) (Steps.refl _) (a := b107) (argsL := [(.ref b_105), (.int (p1 &&& (1073741823 : Int32))), (.int (p2 &&& (1073741823 : Int32)))]) (rest := [(.ref b107)]) (lenOf pd_7 rfl) rfl (by show 2 * 0 + _ ≤ _; exact Nat.le_of_eq rfl) (hb hby at_76) (fun _ _ => ⟨rfl, e107, (by decide : 7 + 2 ≤ _), (by decide : 18 + 20 ≤ _)⟩)
  dsimp only [Pt.U, Pt.locs, Pt.cells, Pt.slots] at X112 l112 y112 z112 st112 hQ112 hS112 hg112
  subst l112 y112 z112
  obtain ⟨rfl, N112q, P112_0, P112_1, P112_2⟩ := hQ112
  have N112 := Fr.app N105 N112q
  have Sn112 : s.Since T112.vm T112.heap.size := foldS (s := s) (vm0 := s.vm) (T := T107) ((State.WarmedH.refl s).since 0) (Nat.zero_le _) hS112 hg112
  have hZ112 : Z.Warmed39 T112.vm := State.Warmed39.trans (t := s.setVm s.vm) hZ0 hS112.1
  have ho112 : T112.vm.findClass "com/example/lexiform/lexiform/logicalform/PhraseHoldsPinLaw" = some m.cls := by rw [hS112.1.alike.findClass]; exact hown0
  have f113 : Old Z n0 T112.heap := f108.keep P112_0 (allS gn_b107 all0)
  have f114 : Exa Z T112.heap b107 "com/example/lexiform/lexiform/logicalform/Phrase" := A107.keep P112_0
  have Zs112 : n0 ≤ T112.heap.size := Nat.le_trans Zs107 P112_0.1
  obtain ⟨T115, h115, X115, e115, E115, A115, D115, -, st115⟩ := newO X112 hx hZ112 ho112 (hw _ (List.mem_of_getElem? (i := 52) rfl)) (hw _ (List.mem_of_getElem? (i := 53) rfl)) (hw _ (List.mem_of_getElem? (i := 54) rfl)) rfl (g := (mkF m 81 #[.val (.int p1), .val (.int p2), .val (.int p3), .val (.int p4), .val (.int p5), .val (.int (p1 &&& (1073741823 : Int32))), .val (.int (p2 &&& (1073741823 : Int32))), .val (.int (p3 &&& (1073741823 : Int32))), .val (.int (p4 &&& (1073741823 : Int32))), .val (.ref b_101), .val (.ref b_103), .val (.ref b_105), .val (.ref b107), .unset, .unset, .unset, .unset, .unset, .unset, .unset, .unset, .unset, .unset, .unset, .unset, .unset] [])) rfl (hb hby at_81) (by decide) (by decide)
  obtain ⟨b115, g115⟩ : ∃ z, z = T112.heap.size := ⟨_, rfl⟩
  rw [← g115] at A115 D115 st115
  have ne_b107_b115 : b107 ≠ b115 := Nat.ne_of_lt (Nat.lt_of_lt_of_le f114.lt (Nat.le_of_eq g115.symm))
  have gn_b115 : n0 ≤ b115 := Nat.le_trans Zs112 (Nat.le_of_eq g115.symm)
  have f116 : Old Z n0 h115 := f113.ext E115
  have f117 : Exa Z h115 b107 "com/example/lexiform/lexiform/logicalform/Phrase" := Exa.ext E115 f114
  have f118 : Fld Z h115 b107 "com/example/lexiform/lexiform/logicalform/Phrase" "offset" "I" (.int (p1 &&& (1073741823 : Int32))) := Fld.ext E115 P112_1
  have f119 : Fld Z h115 b107 "com/example/lexiform/lexiform/logicalform/Phrase" "length" "I" (.int (p2 &&& (1073741823 : Int32))) := Fld.ext E115 P112_2
  have Zs115 : n0 ≤ h115.size := Nat.le_trans Zs112 E115.1
  have kt115 : T112.heap.size ≤ h115.size := Nat.le_trans (Nat.le_refl _) E115.1
  have f120 : Fld Z h115 b115 "com/example/lexiform/lexiform/logicalform/WordRole" "term" "Ljava/lang/String;" .null := D115 (Or.inr (hw _ (List.mem_of_getElem? (i := 63) rfl))) (ty := (.object "java/lang/String")) (by decide)
  have f121 : Fld Z h115 b115 "com/example/lexiform/lexiform/logicalform/WordRole" "role" "Ljava/lang/String;" .null := D115 (Or.inr (hw _ (List.mem_of_getElem? (i := 65) rfl))) (ty := (.object "java/lang/String")) (by decide)
  have f122 : Fld Z h115 b115 "com/example/lexiform/lexiform/logicalform/WordRole" "offset" "I" (.int (0 : Int32)) := D115 (Or.inr (hw _ (List.mem_of_getElem? (i := 67) rfl))) (ty := .int) (by decide)
  have f123 : Fld Z h115 b115 "com/example/lexiform/lexiform/logicalform/WordRole" "length" "I" (.int (0 : Int32)) := D115 (Or.inr (hw _ (List.mem_of_getElem? (i := 69) rfl))) (ty := .int) (by decide)
  obtain ⟨_, _, ⟨T124, L124, k124, n124⟩, -, X124, hS124, hg124, ⟨Lc124, hQ124, l124, y124, z124⟩, st124⟩ := X115.specialBackS hx (y := (⟨"com/example/lexiform/lexiform/logicalform/WordRole", "<init>", "(Ljava/lang/String;Ljava/lang/String;II)V"⟩ : MethodName)) rfl ho112 (mvT hZ112 (hw _ (List.mem_of_getElem? (i := 55) rfl))) (mvT hZ112 (hw _ (List.mem_of_getElem? (i := 56) rfl))) (mvT hZ112 (hw _ (List.mem_of_getElem? (i := 57) rfl))) (by decide) (backOfS (W := 1) (rm9 l Z a0 hw [] b115 b_101 b_103 (p3 &&& (1073741823 : Int32)) (p4 &&& (1073741823 : Int32)) h115 n0 Zs115 A115 gn_b115 f120 f121 f122 f123 (own_nn _) (own_nn _)) hZ112 (hw _ (List.mem_of_getElem? (i := 57) rfl)) (hw _ (List.mem_of_getElem? (i := 54) rfl)) (by decide) (by decide)) (g := (mkF m 93 #[.val (.int p1), .val (.int p2), .val (.int p3), .val (.int p4), .val (.int p5), .val (.int (p1 &&& (1073741823 : Int32))), .val (.int (p2 &&& (1073741823 : Int32))), .val (.int (p3 &&& (1073741823 : Int32))), .val (.int (p4 &&& (1073741823 : Int32))), .val (.ref b_101), .val (.ref b_103), .val (.ref b_105), .val (.ref b107), .unset, .unset, .unset, .unset, .unset, .unset, .unset, .unset, .unset, .unset, .unset, .unset, .unset] [(.int (p4 &&& (1073741823 : Int32))), (.int (p3 &&& (1073741823 : Int32))), (.ref b_103), (.ref b_101), (.ref b115), (.ref b115)])) rfl (by rw [hml]; rfl) (Steps.refl _) (a := b115) (argsL := [(.ref b_101), (.ref b_103), (.int (p3 &&& (1073741823 : Int32))), (.int (p4 &&& (1073741823 : Int32)))]) (rest := [(.ref b115)]) (lenOf pd_8 rfl) rfl (by show 2 * 0 + _ ≤ _; exact Nat.le_of_eq rfl) (hb hby at_93) (fun _ _ => ⟨rfl, e115, (by decide : 10 + 4 ≤ _), (by decide : 42 + 40 ≤ _)⟩)
  dsimp only [Pt.U, Pt.locs, Pt.cells, Pt.slots] at X124 l124 y124 z124 st124 hQ124 hS124 hg124
  subst l124 y124 z124
  obtain ⟨rfl, N124q, P124_0, P124_1, P124_2⟩ := hQ124
  have N124 := Fr.app N112 N124q
  have Sn124 : s.Since T124.vm T124.heap.size := foldS (s := s) (vm0 := T112.vm) (T := T115) Sn112 (by rw [e115]; exact kt115) hS124 hg124
  have hZ124 : Z.Warmed39 T124.vm := State.Warmed39.trans (t := s.setVm T112.vm) hZ112 hS124.1
  have ho124 : T124.vm.findClass "com/example/lexiform/lexiform/logicalform/PhraseHoldsPinLaw" = some m.cls := by rw [hS124.1.alike.findClass]; exact ho112
  have f125 : Old Z n0 T124.heap := f116.keep P124_0 (allS gn_b115 all0)
  have f126 : Exa Z T124.heap b107 "com/example/lexiform/lexiform/logicalform/Phrase" := f117.keep P124_0
  have f127 : Fld Z T124.heap b107 "com/example/lexiform/lexiform/logicalform/Phrase" "offset" "I" (.int (p1 &&& (1073741823 : Int32))) := f118.keep P124_0 (ninS ne_b107_b115 nin0)
  have f128 : Fld Z T124.heap b107 "com/example/lexiform/lexiform/logicalform/Phrase" "length" "I" (.int (p2 &&& (1073741823 : Int32))) := f119.keep P124_0 (ninS ne_b107_b115 nin0)
  have f129 : Exa Z T124.heap b115 "com/example/lexiform/lexiform/logicalform/WordRole" := A115.keep P124_0
  have Zs124 : n0 ≤ T124.heap.size := Nat.le_trans Zs115 P124_0.1
  obtain ⟨cq130, kq130, q130a, q130b, q130c⟩ := isOf hZ124 rfl f126
  obtain ⟨_, _, ⟨T130, L130, k130, n130⟩, -, X130, ⟨Lc130, hQ130, l130, y130, z130⟩, st130⟩ := X124.virtualBack hx (y := (⟨"com/example/lexiform/lexiform/logicalform/Phrase", "holds", "(Lcom/example/lexiform/lexiform/logicalform/WordRole;)Z"⟩ : MethodName)) (z := (⟨"com/example/lexiform/lexiform/logicalform/Phrase", "holds", "(Lcom/example/lexiform/lexiform/logicalform/WordRole;)Z"⟩ : MethodName)) ho124 (mvT hZ124 (hw _ (List.mem_of_getElem? (i := 70) rfl))) (mvT hZ124 (hw _ (List.mem_of_getElem? (i := 71) rfl))) (notFace_of_selects (args := #[]) (mvT hZ124 (hw _ (List.mem_of_getElem? (i := 73) rfl)))) (mvT hZ124 (hw _ (List.mem_of_getElem? (i := 73) rfl))) (mvT hZ124 (hw _ (List.mem_of_getElem? (i := 72) rfl))) (by decide) (backOf (W := 0) (rm10 l Z a0 hw [] b107 b115 (p1 &&& (1073741823 : Int32)) (p2 &&& (1073741823 : Int32)) (p3 &&& (1073741823 : Int32)) (p4 &&& (1073741823 : Int32)) T124.heap n0 Zs124 f129 f127 f128 P124_1 P124_2) hZ124 (hw _ (List.mem_of_getElem? (i := 74) rfl)) (hw _ (List.mem_of_getElem? (i := 29) rfl)) (by decide) (by decide)) q130a q130c (g := (mkF m 102 #[.val (.int p1), .val (.int p2), .val (.int p3), .val (.int p4), .val (.int p5), .val (.int (p1 &&& (1073741823 : Int32))), .val (.int (p2 &&& (1073741823 : Int32))), .val (.int (p3 &&& (1073741823 : Int32))), .val (.int (p4 &&& (1073741823 : Int32))), .val (.ref b_101), .val (.ref b_103), .val (.ref b_105), .val (.ref b107), .val (.ref b115), .unset, .unset, .unset, .unset, .unset, .unset, .unset, .unset, .unset, .unset, .unset, .unset] [(.ref b115), (.ref b107)])) rfl (by rw [hml]; rfl) (Steps.refl _) (argsL := [(.ref b115)]) (rest := []) (lenOf pd_9 rfl) rfl (by show 2 * 0 + _ ≤ _; exact Nat.le_of_eq rfl) (hb hby at_102) (fun _ _ => ⟨rfl, rfl, (by decide : 14 + 0 ≤ _), (by decide : 82 + 0 ≤ _)⟩)
  dsimp only [Pt.U, Pt.locs, Pt.cells, Pt.slots] at X130 l130 y130 z130 st130 hQ130
  subst l130 y130 z130
  obtain ⟨rfl, N130q, P130_0⟩ := hQ130
  have N130 := Fr.app N124 N130q
  have pr131 : ∀ t, Steps p.tables e below (T130.setTop (mkF m 138 #[.val (.int p1), .val (.int p2), .val (.int p3), .val (.int p4), .val (.int p5), .val (.int (p1 &&& (1073741823 : Int32))), .val (.int (p2 &&& (1073741823 : Int32))), .val (.int (p3 &&& (1073741823 : Int32))), .val (.int (p4 &&& (1073741823 : Int32))), .val (.ref b_101), .val (.ref b_103), .val (.ref b_105), .val (.ref b107), .val (.ref b115), .val (.int (own_holds (p1 &&& (1073741823 : Int32)) (p2 &&& (1073741823 : Int32)) (p3 &&& (1073741823 : Int32)) (p4 &&& (1073741823 : Int32)))), .val (.long ((p1 &&& (1073741823 : Int32)).toInt64)), .second, .val (.long (((p1 &&& (1073741823 : Int32)).toInt64) + ((p2 &&& (1073741823 : Int32)).toInt64))), .second, .val (.long ((p3 &&& (1073741823 : Int32)).toInt64)), .second, .val (.long (((p3 &&& (1073741823 : Int32)).toInt64) + ((p4 &&& (1073741823 : Int32)).toInt64))), .second, .unset, .unset, .unset] [(.int (lcmpW ((p3 &&& (1073741823 : Int32)).toInt64) ((p1 &&& (1073741823 : Int32)).toInt64)))])) t → Steps p.tables e below (s₁.setTop (mkF m 0 #[.val (.int p1), .val (.int p2), .val (.int p3), .val (.int p4), .val (.int p5), .unset, .unset, .unset, .unset, .unset, .unset, .unset, .unset, .unset, .unset, .unset, .unset, .unset, .unset, .unset, .unset, .unset, .unset, .unset, .unset, .unset] [])) t := fun t kt => by
    show Steps p.tables e below (s₁.setTop (mkF m 0 #[.val (.int p1), .val (.int p2), .val (.int p3), .val (.int p4), .val (.int p5), .unset, .unset, .unset, .unset, .unset, .unset, .unset, .unset, .unset, .unset, .unset, .unset, .unset, .unset, .unset, .unset, .unset, .unset, .unset, .unset, .unset] [])) _
    refine XS.iloadN X0.here hx rfl (hb hby at_0) rfl ?_
    show Steps p.tables e below (s₁.setTop (mkF m 1 #[.val (.int p1), .val (.int p2), .val (.int p3), .val (.int p4), .val (.int p5), .unset, .unset, .unset, .unset, .unset, .unset, .unset, .unset, .unset, .unset, .unset, .unset, .unset, .unset, .unset, .unset, .unset, .unset, .unset, .unset, .unset] [(.int p1)])) _
    refine X0.ldcI hx hown0 (mvT hZ0 (hw _ (List.mem_of_getElem? (i := 0) rfl))) (g := (mkF m 1 #[.val (.int p1), .val (.int p2), .val (.int p3), .val (.int p4), .val (.int p5), .unset, .unset, .unset, .unset, .unset, .unset, .unset, .unset, .unset, .unset, .unset, .unset, .unset, .unset, .unset, .unset, .unset, .unset, .unset, .unset, .unset] [(.int p1)])) rfl (hb hby at_1) ?_
    show Steps p.tables e below (s₁.setTop (mkF m 3 #[.val (.int p1), .val (.int p2), .val (.int p3), .val (.int p4), .val (.int p5), .unset, .unset, .unset, .unset, .unset, .unset, .unset, .unset, .unset, .unset, .unset, .unset, .unset, .unset, .unset, .unset, .unset, .unset, .unset, .unset, .unset] [(.int (1073741823 : Int32)), (.int p1)])) _
    refine XS.iand X0.here hx rfl (hb hby at_3) rfl ?_
    show Steps p.tables e below (s₁.setTop (mkF m 4 #[.val (.int p1), .val (.int p2), .val (.int p3), .val (.int p4), .val (.int p5), .unset, .unset, .unset, .unset, .unset, .unset, .unset, .unset, .unset, .unset, .unset, .unset, .unset, .unset, .unset, .unset, .unset, .unset, .unset, .unset, .unset] [(.int (p1 &&& (1073741823 : Int32)))])) _
    refine XS.istore X0.here hx rfl (hb hby at_4) rfl (l' := #[.val (.int p1), .val (.int p2), .val (.int p3), .val (.int p4), .val (.int p5), .val (.int (p1 &&& (1073741823 : Int32))), .unset, .unset, .unset, .unset, .unset, .unset, .unset, .unset, .unset, .unset, .unset, .unset, .unset, .unset, .unset, .unset, .unset, .unset, .unset, .unset]) rfl ?_
    show Steps p.tables e below (s₁.setTop (mkF m 6 #[.val (.int p1), .val (.int p2), .val (.int p3), .val (.int p4), .val (.int p5), .val (.int (p1 &&& (1073741823 : Int32))), .unset, .unset, .unset, .unset, .unset, .unset, .unset, .unset, .unset, .unset, .unset, .unset, .unset, .unset, .unset, .unset, .unset, .unset, .unset, .unset] [])) _
    refine XS.iloadN X0.here hx rfl (hb hby at_6) rfl ?_
    show Steps p.tables e below (s₁.setTop (mkF m 7 #[.val (.int p1), .val (.int p2), .val (.int p3), .val (.int p4), .val (.int p5), .val (.int (p1 &&& (1073741823 : Int32))), .unset, .unset, .unset, .unset, .unset, .unset, .unset, .unset, .unset, .unset, .unset, .unset, .unset, .unset, .unset, .unset, .unset, .unset, .unset, .unset] [(.int p2)])) _
    refine X0.ldcI hx hown0 (mvT hZ0 (hw _ (List.mem_of_getElem? (i := 0) rfl))) (g := (mkF m 7 #[.val (.int p1), .val (.int p2), .val (.int p3), .val (.int p4), .val (.int p5), .val (.int (p1 &&& (1073741823 : Int32))), .unset, .unset, .unset, .unset, .unset, .unset, .unset, .unset, .unset, .unset, .unset, .unset, .unset, .unset, .unset, .unset, .unset, .unset, .unset, .unset] [(.int p2)])) rfl (hb hby at_7) ?_
    show Steps p.tables e below (s₁.setTop (mkF m 9 #[.val (.int p1), .val (.int p2), .val (.int p3), .val (.int p4), .val (.int p5), .val (.int (p1 &&& (1073741823 : Int32))), .unset, .unset, .unset, .unset, .unset, .unset, .unset, .unset, .unset, .unset, .unset, .unset, .unset, .unset, .unset, .unset, .unset, .unset, .unset, .unset] [(.int (1073741823 : Int32)), (.int p2)])) _
    refine XS.iand X0.here hx rfl (hb hby at_9) rfl ?_
    show Steps p.tables e below (s₁.setTop (mkF m 10 #[.val (.int p1), .val (.int p2), .val (.int p3), .val (.int p4), .val (.int p5), .val (.int (p1 &&& (1073741823 : Int32))), .unset, .unset, .unset, .unset, .unset, .unset, .unset, .unset, .unset, .unset, .unset, .unset, .unset, .unset, .unset, .unset, .unset, .unset, .unset, .unset] [(.int (p2 &&& (1073741823 : Int32)))])) _
    refine XS.istore X0.here hx rfl (hb hby at_10) rfl (l' := #[.val (.int p1), .val (.int p2), .val (.int p3), .val (.int p4), .val (.int p5), .val (.int (p1 &&& (1073741823 : Int32))), .val (.int (p2 &&& (1073741823 : Int32))), .unset, .unset, .unset, .unset, .unset, .unset, .unset, .unset, .unset, .unset, .unset, .unset, .unset, .unset, .unset, .unset, .unset, .unset, .unset]) rfl ?_
    show Steps p.tables e below (s₁.setTop (mkF m 12 #[.val (.int p1), .val (.int p2), .val (.int p3), .val (.int p4), .val (.int p5), .val (.int (p1 &&& (1073741823 : Int32))), .val (.int (p2 &&& (1073741823 : Int32))), .unset, .unset, .unset, .unset, .unset, .unset, .unset, .unset, .unset, .unset, .unset, .unset, .unset, .unset, .unset, .unset, .unset, .unset, .unset] [])) _
    refine XS.iloadN X0.here hx rfl (hb hby at_12) rfl ?_
    show Steps p.tables e below (s₁.setTop (mkF m 13 #[.val (.int p1), .val (.int p2), .val (.int p3), .val (.int p4), .val (.int p5), .val (.int (p1 &&& (1073741823 : Int32))), .val (.int (p2 &&& (1073741823 : Int32))), .unset, .unset, .unset, .unset, .unset, .unset, .unset, .unset, .unset, .unset, .unset, .unset, .unset, .unset, .unset, .unset, .unset, .unset, .unset] [(.int p3)])) _
    refine X0.ldcI hx hown0 (mvT hZ0 (hw _ (List.mem_of_getElem? (i := 0) rfl))) (g := (mkF m 13 #[.val (.int p1), .val (.int p2), .val (.int p3), .val (.int p4), .val (.int p5), .val (.int (p1 &&& (1073741823 : Int32))), .val (.int (p2 &&& (1073741823 : Int32))), .unset, .unset, .unset, .unset, .unset, .unset, .unset, .unset, .unset, .unset, .unset, .unset, .unset, .unset, .unset, .unset, .unset, .unset, .unset] [(.int p3)])) rfl (hb hby at_13) ?_
    show Steps p.tables e below (s₁.setTop (mkF m 15 #[.val (.int p1), .val (.int p2), .val (.int p3), .val (.int p4), .val (.int p5), .val (.int (p1 &&& (1073741823 : Int32))), .val (.int (p2 &&& (1073741823 : Int32))), .unset, .unset, .unset, .unset, .unset, .unset, .unset, .unset, .unset, .unset, .unset, .unset, .unset, .unset, .unset, .unset, .unset, .unset, .unset] [(.int (1073741823 : Int32)), (.int p3)])) _
    refine XS.iand X0.here hx rfl (hb hby at_15) rfl ?_
    show Steps p.tables e below (s₁.setTop (mkF m 16 #[.val (.int p1), .val (.int p2), .val (.int p3), .val (.int p4), .val (.int p5), .val (.int (p1 &&& (1073741823 : Int32))), .val (.int (p2 &&& (1073741823 : Int32))), .unset, .unset, .unset, .unset, .unset, .unset, .unset, .unset, .unset, .unset, .unset, .unset, .unset, .unset, .unset, .unset, .unset, .unset, .unset] [(.int (p3 &&& (1073741823 : Int32)))])) _
    refine XS.istore X0.here hx rfl (hb hby at_16) rfl (l' := #[.val (.int p1), .val (.int p2), .val (.int p3), .val (.int p4), .val (.int p5), .val (.int (p1 &&& (1073741823 : Int32))), .val (.int (p2 &&& (1073741823 : Int32))), .val (.int (p3 &&& (1073741823 : Int32))), .unset, .unset, .unset, .unset, .unset, .unset, .unset, .unset, .unset, .unset, .unset, .unset, .unset, .unset, .unset, .unset, .unset, .unset]) rfl ?_
    show Steps p.tables e below (s₁.setTop (mkF m 18 #[.val (.int p1), .val (.int p2), .val (.int p3), .val (.int p4), .val (.int p5), .val (.int (p1 &&& (1073741823 : Int32))), .val (.int (p2 &&& (1073741823 : Int32))), .val (.int (p3 &&& (1073741823 : Int32))), .unset, .unset, .unset, .unset, .unset, .unset, .unset, .unset, .unset, .unset, .unset, .unset, .unset, .unset, .unset, .unset, .unset, .unset] [])) _
    refine XS.iloadN X0.here hx rfl (hb hby at_18) rfl ?_
    show Steps p.tables e below (s₁.setTop (mkF m 19 #[.val (.int p1), .val (.int p2), .val (.int p3), .val (.int p4), .val (.int p5), .val (.int (p1 &&& (1073741823 : Int32))), .val (.int (p2 &&& (1073741823 : Int32))), .val (.int (p3 &&& (1073741823 : Int32))), .unset, .unset, .unset, .unset, .unset, .unset, .unset, .unset, .unset, .unset, .unset, .unset, .unset, .unset, .unset, .unset, .unset, .unset] [(.int p4)])) _
    refine X0.ldcI hx hown0 (mvT hZ0 (hw _ (List.mem_of_getElem? (i := 0) rfl))) (g := (mkF m 19 #[.val (.int p1), .val (.int p2), .val (.int p3), .val (.int p4), .val (.int p5), .val (.int (p1 &&& (1073741823 : Int32))), .val (.int (p2 &&& (1073741823 : Int32))), .val (.int (p3 &&& (1073741823 : Int32))), .unset, .unset, .unset, .unset, .unset, .unset, .unset, .unset, .unset, .unset, .unset, .unset, .unset, .unset, .unset, .unset, .unset, .unset] [(.int p4)])) rfl (hb hby at_19) ?_
    show Steps p.tables e below (s₁.setTop (mkF m 21 #[.val (.int p1), .val (.int p2), .val (.int p3), .val (.int p4), .val (.int p5), .val (.int (p1 &&& (1073741823 : Int32))), .val (.int (p2 &&& (1073741823 : Int32))), .val (.int (p3 &&& (1073741823 : Int32))), .unset, .unset, .unset, .unset, .unset, .unset, .unset, .unset, .unset, .unset, .unset, .unset, .unset, .unset, .unset, .unset, .unset, .unset] [(.int (1073741823 : Int32)), (.int p4)])) _
    refine XS.iand X0.here hx rfl (hb hby at_21) rfl ?_
    show Steps p.tables e below (s₁.setTop (mkF m 22 #[.val (.int p1), .val (.int p2), .val (.int p3), .val (.int p4), .val (.int p5), .val (.int (p1 &&& (1073741823 : Int32))), .val (.int (p2 &&& (1073741823 : Int32))), .val (.int (p3 &&& (1073741823 : Int32))), .unset, .unset, .unset, .unset, .unset, .unset, .unset, .unset, .unset, .unset, .unset, .unset, .unset, .unset, .unset, .unset, .unset, .unset] [(.int (p4 &&& (1073741823 : Int32)))])) _
    refine XS.istore X0.here hx rfl (hb hby at_22) rfl (l' := #[.val (.int p1), .val (.int p2), .val (.int p3), .val (.int p4), .val (.int p5), .val (.int (p1 &&& (1073741823 : Int32))), .val (.int (p2 &&& (1073741823 : Int32))), .val (.int (p3 &&& (1073741823 : Int32))), .val (.int (p4 &&& (1073741823 : Int32))), .unset, .unset, .unset, .unset, .unset, .unset, .unset, .unset, .unset, .unset, .unset, .unset, .unset, .unset, .unset, .unset, .unset]) rfl ?_
    show Steps p.tables e below (s₁.setTop (mkF m 24 #[.val (.int p1), .val (.int p2), .val (.int p3), .val (.int p4), .val (.int p5), .val (.int (p1 &&& (1073741823 : Int32))), .val (.int (p2 &&& (1073741823 : Int32))), .val (.int (p3 &&& (1073741823 : Int32))), .val (.int (p4 &&& (1073741823 : Int32))), .unset, .unset, .unset, .unset, .unset, .unset, .unset, .unset, .unset, .unset, .unset, .unset, .unset, .unset, .unset, .unset, .unset] [])) _
    refine XS.iload X0.here hx rfl (hb hby at_24) rfl ?_
    show Steps p.tables e below (s₁.setTop (mkF m 26 #[.val (.int p1), .val (.int p2), .val (.int p3), .val (.int p4), .val (.int p5), .val (.int (p1 &&& (1073741823 : Int32))), .val (.int (p2 &&& (1073741823 : Int32))), .val (.int (p3 &&& (1073741823 : Int32))), .val (.int (p4 &&& (1073741823 : Int32))), .unset, .unset, .unset, .unset, .unset, .unset, .unset, .unset, .unset, .unset, .unset, .unset, .unset, .unset, .unset, .unset, .unset] [(.int p5)])) _
    refine XS.sipush X0.here hx rfl (hb hby at_26) ?_
    show Steps p.tables e below (s₁.setTop (mkF m 29 #[.val (.int p1), .val (.int p2), .val (.int p3), .val (.int p4), .val (.int p5), .val (.int (p1 &&& (1073741823 : Int32))), .val (.int (p2 &&& (1073741823 : Int32))), .val (.int (p3 &&& (1073741823 : Int32))), .val (.int (p4 &&& (1073741823 : Int32))), .unset, .unset, .unset, .unset, .unset, .unset, .unset, .unset, .unset, .unset, .unset, .unset, .unset, .unset, .unset, .unset, .unset] [(.int (255 : Int32)), (.int p5)])) _
    refine XS.iand X0.here hx rfl (hb hby at_29) rfl ?_
    show Steps p.tables e below (s₁.setTop (mkF m 30 #[.val (.int p1), .val (.int p2), .val (.int p3), .val (.int p4), .val (.int p5), .val (.int (p1 &&& (1073741823 : Int32))), .val (.int (p2 &&& (1073741823 : Int32))), .val (.int (p3 &&& (1073741823 : Int32))), .val (.int (p4 &&& (1073741823 : Int32))), .unset, .unset, .unset, .unset, .unset, .unset, .unset, .unset, .unset, .unset, .unset, .unset, .unset, .unset, .unset, .unset, .unset] [(.int (p5 &&& (255 : Int32)))])) _
    refine XS.i2c X0.here hx rfl (hb hby at_30) rfl ?_
    show Steps p.tables e below (s₁.setTop (mkF m 31 #[.val (.int p1), .val (.int p2), .val (.int p3), .val (.int p4), .val (.int p5), .val (.int (p1 &&& (1073741823 : Int32))), .val (.int (p2 &&& (1073741823 : Int32))), .val (.int (p3 &&& (1073741823 : Int32))), .val (.int (p4 &&& (1073741823 : Int32))), .unset, .unset, .unset, .unset, .unset, .unset, .unset, .unset, .unset, .unset, .unset, .unset, .unset, .unset, .unset, .unset, .unset] [(.int ((p5 &&& (255 : Int32)).toUInt32.toUInt16.toUInt32.toInt32))])) _
    refine st101 _ ?_
    show Steps p.tables e below (T101.setTop (mkF m 34 #[.val (.int p1), .val (.int p2), .val (.int p3), .val (.int p4), .val (.int p5), .val (.int (p1 &&& (1073741823 : Int32))), .val (.int (p2 &&& (1073741823 : Int32))), .val (.int (p3 &&& (1073741823 : Int32))), .val (.int (p4 &&& (1073741823 : Int32))), .unset, .unset, .unset, .unset, .unset, .unset, .unset, .unset, .unset, .unset, .unset, .unset, .unset, .unset, .unset, .unset, .unset] [(.ref b_101)])) _
    refine XS.astore X101.here hx rfl (hb hby at_34) rfl rfl (l' := #[.val (.int p1), .val (.int p2), .val (.int p3), .val (.int p4), .val (.int p5), .val (.int (p1 &&& (1073741823 : Int32))), .val (.int (p2 &&& (1073741823 : Int32))), .val (.int (p3 &&& (1073741823 : Int32))), .val (.int (p4 &&& (1073741823 : Int32))), .val (.ref b_101), .unset, .unset, .unset, .unset, .unset, .unset, .unset, .unset, .unset, .unset, .unset, .unset, .unset, .unset, .unset, .unset]) rfl ?_
    show Steps p.tables e below (T101.setTop (mkF m 36 #[.val (.int p1), .val (.int p2), .val (.int p3), .val (.int p4), .val (.int p5), .val (.int (p1 &&& (1073741823 : Int32))), .val (.int (p2 &&& (1073741823 : Int32))), .val (.int (p3 &&& (1073741823 : Int32))), .val (.int (p4 &&& (1073741823 : Int32))), .val (.ref b_101), .unset, .unset, .unset, .unset, .unset, .unset, .unset, .unset, .unset, .unset, .unset, .unset, .unset, .unset, .unset, .unset] [])) _
    refine XS.iload X101.here hx rfl (hb hby at_36) rfl ?_
    show Steps p.tables e below (T101.setTop (mkF m 38 #[.val (.int p1), .val (.int p2), .val (.int p3), .val (.int p4), .val (.int p5), .val (.int (p1 &&& (1073741823 : Int32))), .val (.int (p2 &&& (1073741823 : Int32))), .val (.int (p3 &&& (1073741823 : Int32))), .val (.int (p4 &&& (1073741823 : Int32))), .val (.ref b_101), .unset, .unset, .unset, .unset, .unset, .unset, .unset, .unset, .unset, .unset, .unset, .unset, .unset, .unset, .unset, .unset] [(.int p5)])) _
    refine XS.bipush X101.here hx rfl (hb hby at_38) ?_
    show Steps p.tables e below (T101.setTop (mkF m 40 #[.val (.int p1), .val (.int p2), .val (.int p3), .val (.int p4), .val (.int p5), .val (.int (p1 &&& (1073741823 : Int32))), .val (.int (p2 &&& (1073741823 : Int32))), .val (.int (p3 &&& (1073741823 : Int32))), .val (.int (p4 &&& (1073741823 : Int32))), .val (.ref b_101), .unset, .unset, .unset, .unset, .unset, .unset, .unset, .unset, .unset, .unset, .unset, .unset, .unset, .unset, .unset, .unset] [(.int (8 : Int32)), (.int p5)])) _
    refine XS.iushr X101.here hx rfl (hb hby at_40) rfl ?_
    show Steps p.tables e below (T101.setTop (mkF m 41 #[.val (.int p1), .val (.int p2), .val (.int p3), .val (.int p4), .val (.int p5), .val (.int (p1 &&& (1073741823 : Int32))), .val (.int (p2 &&& (1073741823 : Int32))), .val (.int (p3 &&& (1073741823 : Int32))), .val (.int (p4 &&& (1073741823 : Int32))), .val (.ref b_101), .unset, .unset, .unset, .unset, .unset, .unset, .unset, .unset, .unset, .unset, .unset, .unset, .unset, .unset, .unset, .unset] [(.int ((p5.toUInt32 >>> ((8 : Int32) &&& 31).toUInt32).toInt32))])) _
    refine XS.sipush X101.here hx rfl (hb hby at_41) ?_
    show Steps p.tables e below (T101.setTop (mkF m 44 #[.val (.int p1), .val (.int p2), .val (.int p3), .val (.int p4), .val (.int p5), .val (.int (p1 &&& (1073741823 : Int32))), .val (.int (p2 &&& (1073741823 : Int32))), .val (.int (p3 &&& (1073741823 : Int32))), .val (.int (p4 &&& (1073741823 : Int32))), .val (.ref b_101), .unset, .unset, .unset, .unset, .unset, .unset, .unset, .unset, .unset, .unset, .unset, .unset, .unset, .unset, .unset, .unset] [(.int (255 : Int32)), (.int ((p5.toUInt32 >>> ((8 : Int32) &&& 31).toUInt32).toInt32))])) _
    refine XS.iand X101.here hx rfl (hb hby at_44) rfl ?_
    show Steps p.tables e below (T101.setTop (mkF m 45 #[.val (.int p1), .val (.int p2), .val (.int p3), .val (.int p4), .val (.int p5), .val (.int (p1 &&& (1073741823 : Int32))), .val (.int (p2 &&& (1073741823 : Int32))), .val (.int (p3 &&& (1073741823 : Int32))), .val (.int (p4 &&& (1073741823 : Int32))), .val (.ref b_101), .unset, .unset, .unset, .unset, .unset, .unset, .unset, .unset, .unset, .unset, .unset, .unset, .unset, .unset, .unset, .unset] [(.int (((p5.toUInt32 >>> ((8 : Int32) &&& 31).toUInt32).toInt32) &&& (255 : Int32)))])) _
    refine XS.i2c X101.here hx rfl (hb hby at_45) rfl ?_
    show Steps p.tables e below (T101.setTop (mkF m 46 #[.val (.int p1), .val (.int p2), .val (.int p3), .val (.int p4), .val (.int p5), .val (.int (p1 &&& (1073741823 : Int32))), .val (.int (p2 &&& (1073741823 : Int32))), .val (.int (p3 &&& (1073741823 : Int32))), .val (.int (p4 &&& (1073741823 : Int32))), .val (.ref b_101), .unset, .unset, .unset, .unset, .unset, .unset, .unset, .unset, .unset, .unset, .unset, .unset, .unset, .unset, .unset, .unset] [(.int ((((p5.toUInt32 >>> ((8 : Int32) &&& 31).toUInt32).toInt32) &&& (255 : Int32)).toUInt32.toUInt16.toUInt32.toInt32))])) _
    refine st103 _ ?_
    show Steps p.tables e below (T103.setTop (mkF m 49 #[.val (.int p1), .val (.int p2), .val (.int p3), .val (.int p4), .val (.int p5), .val (.int (p1 &&& (1073741823 : Int32))), .val (.int (p2 &&& (1073741823 : Int32))), .val (.int (p3 &&& (1073741823 : Int32))), .val (.int (p4 &&& (1073741823 : Int32))), .val (.ref b_101), .unset, .unset, .unset, .unset, .unset, .unset, .unset, .unset, .unset, .unset, .unset, .unset, .unset, .unset, .unset, .unset] [(.ref b_103)])) _
    refine XS.astore X103.here hx rfl (hb hby at_49) rfl rfl (l' := #[.val (.int p1), .val (.int p2), .val (.int p3), .val (.int p4), .val (.int p5), .val (.int (p1 &&& (1073741823 : Int32))), .val (.int (p2 &&& (1073741823 : Int32))), .val (.int (p3 &&& (1073741823 : Int32))), .val (.int (p4 &&& (1073741823 : Int32))), .val (.ref b_101), .val (.ref b_103), .unset, .unset, .unset, .unset, .unset, .unset, .unset, .unset, .unset, .unset, .unset, .unset, .unset, .unset, .unset]) rfl ?_
    show Steps p.tables e below (T103.setTop (mkF m 51 #[.val (.int p1), .val (.int p2), .val (.int p3), .val (.int p4), .val (.int p5), .val (.int (p1 &&& (1073741823 : Int32))), .val (.int (p2 &&& (1073741823 : Int32))), .val (.int (p3 &&& (1073741823 : Int32))), .val (.int (p4 &&& (1073741823 : Int32))), .val (.ref b_101), .val (.ref b_103), .unset, .unset, .unset, .unset, .unset, .unset, .unset, .unset, .unset, .unset, .unset, .unset, .unset, .unset, .unset] [])) _
    refine XS.iload X103.here hx rfl (hb hby at_51) rfl ?_
    show Steps p.tables e below (T103.setTop (mkF m 53 #[.val (.int p1), .val (.int p2), .val (.int p3), .val (.int p4), .val (.int p5), .val (.int (p1 &&& (1073741823 : Int32))), .val (.int (p2 &&& (1073741823 : Int32))), .val (.int (p3 &&& (1073741823 : Int32))), .val (.int (p4 &&& (1073741823 : Int32))), .val (.ref b_101), .val (.ref b_103), .unset, .unset, .unset, .unset, .unset, .unset, .unset, .unset, .unset, .unset, .unset, .unset, .unset, .unset, .unset] [(.int p5)])) _
    refine XS.bipush X103.here hx rfl (hb hby at_53) ?_
    show Steps p.tables e below (T103.setTop (mkF m 55 #[.val (.int p1), .val (.int p2), .val (.int p3), .val (.int p4), .val (.int p5), .val (.int (p1 &&& (1073741823 : Int32))), .val (.int (p2 &&& (1073741823 : Int32))), .val (.int (p3 &&& (1073741823 : Int32))), .val (.int (p4 &&& (1073741823 : Int32))), .val (.ref b_101), .val (.ref b_103), .unset, .unset, .unset, .unset, .unset, .unset, .unset, .unset, .unset, .unset, .unset, .unset, .unset, .unset, .unset] [(.int (16 : Int32)), (.int p5)])) _
    refine XS.iushr X103.here hx rfl (hb hby at_55) rfl ?_
    show Steps p.tables e below (T103.setTop (mkF m 56 #[.val (.int p1), .val (.int p2), .val (.int p3), .val (.int p4), .val (.int p5), .val (.int (p1 &&& (1073741823 : Int32))), .val (.int (p2 &&& (1073741823 : Int32))), .val (.int (p3 &&& (1073741823 : Int32))), .val (.int (p4 &&& (1073741823 : Int32))), .val (.ref b_101), .val (.ref b_103), .unset, .unset, .unset, .unset, .unset, .unset, .unset, .unset, .unset, .unset, .unset, .unset, .unset, .unset, .unset] [(.int ((p5.toUInt32 >>> ((16 : Int32) &&& 31).toUInt32).toInt32))])) _
    refine XS.sipush X103.here hx rfl (hb hby at_56) ?_
    show Steps p.tables e below (T103.setTop (mkF m 59 #[.val (.int p1), .val (.int p2), .val (.int p3), .val (.int p4), .val (.int p5), .val (.int (p1 &&& (1073741823 : Int32))), .val (.int (p2 &&& (1073741823 : Int32))), .val (.int (p3 &&& (1073741823 : Int32))), .val (.int (p4 &&& (1073741823 : Int32))), .val (.ref b_101), .val (.ref b_103), .unset, .unset, .unset, .unset, .unset, .unset, .unset, .unset, .unset, .unset, .unset, .unset, .unset, .unset, .unset] [(.int (255 : Int32)), (.int ((p5.toUInt32 >>> ((16 : Int32) &&& 31).toUInt32).toInt32))])) _
    refine XS.iand X103.here hx rfl (hb hby at_59) rfl ?_
    show Steps p.tables e below (T103.setTop (mkF m 60 #[.val (.int p1), .val (.int p2), .val (.int p3), .val (.int p4), .val (.int p5), .val (.int (p1 &&& (1073741823 : Int32))), .val (.int (p2 &&& (1073741823 : Int32))), .val (.int (p3 &&& (1073741823 : Int32))), .val (.int (p4 &&& (1073741823 : Int32))), .val (.ref b_101), .val (.ref b_103), .unset, .unset, .unset, .unset, .unset, .unset, .unset, .unset, .unset, .unset, .unset, .unset, .unset, .unset, .unset] [(.int (((p5.toUInt32 >>> ((16 : Int32) &&& 31).toUInt32).toInt32) &&& (255 : Int32)))])) _
    refine XS.i2c X103.here hx rfl (hb hby at_60) rfl ?_
    show Steps p.tables e below (T103.setTop (mkF m 61 #[.val (.int p1), .val (.int p2), .val (.int p3), .val (.int p4), .val (.int p5), .val (.int (p1 &&& (1073741823 : Int32))), .val (.int (p2 &&& (1073741823 : Int32))), .val (.int (p3 &&& (1073741823 : Int32))), .val (.int (p4 &&& (1073741823 : Int32))), .val (.ref b_101), .val (.ref b_103), .unset, .unset, .unset, .unset, .unset, .unset, .unset, .unset, .unset, .unset, .unset, .unset, .unset, .unset, .unset] [(.int ((((p5.toUInt32 >>> ((16 : Int32) &&& 31).toUInt32).toInt32) &&& (255 : Int32)).toUInt32.toUInt16.toUInt32.toInt32))])) _
    refine st105 _ ?_
    show Steps p.tables e below (T105.setTop (mkF m 64 #[.val (.int p1), .val (.int p2), .val (.int p3), .val (.int p4), .val (.int p5), .val (.int (p1 &&& (1073741823 : Int32))), .val (.int (p2 &&& (1073741823 : Int32))), .val (.int (p3 &&& (1073741823 : Int32))), .val (.int (p4 &&& (1073741823 : Int32))), .val (.ref b_101), .val (.ref b_103), .unset, .unset, .unset, .unset, .unset, .unset, .unset, .unset, .unset, .unset, .unset, .unset, .unset, .unset, .unset] [(.ref b_105)])) _
    refine XS.astore X105.here hx rfl (hb hby at_64) rfl rfl (l' := #[.val (.int p1), .val (.int p2), .val (.int p3), .val (.int p4), .val (.int p5), .val (.int (p1 &&& (1073741823 : Int32))), .val (.int (p2 &&& (1073741823 : Int32))), .val (.int (p3 &&& (1073741823 : Int32))), .val (.int (p4 &&& (1073741823 : Int32))), .val (.ref b_101), .val (.ref b_103), .val (.ref b_105), .unset, .unset, .unset, .unset, .unset, .unset, .unset, .unset, .unset, .unset, .unset, .unset, .unset, .unset]) rfl ?_
    show Steps p.tables e below (T105.setTop (mkF m 66 #[.val (.int p1), .val (.int p2), .val (.int p3), .val (.int p4), .val (.int p5), .val (.int (p1 &&& (1073741823 : Int32))), .val (.int (p2 &&& (1073741823 : Int32))), .val (.int (p3 &&& (1073741823 : Int32))), .val (.int (p4 &&& (1073741823 : Int32))), .val (.ref b_101), .val (.ref b_103), .val (.ref b_105), .unset, .unset, .unset, .unset, .unset, .unset, .unset, .unset, .unset, .unset, .unset, .unset, .unset, .unset] [])) _
    refine st107 _ ?_
    show Steps p.tables e below (T107.setTop (mkF m 69 #[.val (.int p1), .val (.int p2), .val (.int p3), .val (.int p4), .val (.int p5), .val (.int (p1 &&& (1073741823 : Int32))), .val (.int (p2 &&& (1073741823 : Int32))), .val (.int (p3 &&& (1073741823 : Int32))), .val (.int (p4 &&& (1073741823 : Int32))), .val (.ref b_101), .val (.ref b_103), .val (.ref b_105), .unset, .unset, .unset, .unset, .unset, .unset, .unset, .unset, .unset, .unset, .unset, .unset, .unset, .unset] [(.ref b107)])) _
    refine XS.dup X107.here hx rfl (hb hby at_69) rfl rfl ?_
    show Steps p.tables e below (T107.setTop (mkF m 70 #[.val (.int p1), .val (.int p2), .val (.int p3), .val (.int p4), .val (.int p5), .val (.int (p1 &&& (1073741823 : Int32))), .val (.int (p2 &&& (1073741823 : Int32))), .val (.int (p3 &&& (1073741823 : Int32))), .val (.int (p4 &&& (1073741823 : Int32))), .val (.ref b_101), .val (.ref b_103), .val (.ref b_105), .unset, .unset, .unset, .unset, .unset, .unset, .unset, .unset, .unset, .unset, .unset, .unset, .unset, .unset] [(.ref b107), (.ref b107)])) _
    refine XS.aload X107.here hx rfl (hb hby at_70) rfl rfl ?_
    show Steps p.tables e below (T107.setTop (mkF m 72 #[.val (.int p1), .val (.int p2), .val (.int p3), .val (.int p4), .val (.int p5), .val (.int (p1 &&& (1073741823 : Int32))), .val (.int (p2 &&& (1073741823 : Int32))), .val (.int (p3 &&& (1073741823 : Int32))), .val (.int (p4 &&& (1073741823 : Int32))), .val (.ref b_101), .val (.ref b_103), .val (.ref b_105), .unset, .unset, .unset, .unset, .unset, .unset, .unset, .unset, .unset, .unset, .unset, .unset, .unset, .unset] [(.ref b_105), (.ref b107), (.ref b107)])) _
    refine XS.iload X107.here hx rfl (hb hby at_72) rfl ?_
    show Steps p.tables e below (T107.setTop (mkF m 74 #[.val (.int p1), .val (.int p2), .val (.int p3), .val (.int p4), .val (.int p5), .val (.int (p1 &&& (1073741823 : Int32))), .val (.int (p2 &&& (1073741823 : Int32))), .val (.int (p3 &&& (1073741823 : Int32))), .val (.int (p4 &&& (1073741823 : Int32))), .val (.ref b_101), .val (.ref b_103), .val (.ref b_105), .unset, .unset, .unset, .unset, .unset, .unset, .unset, .unset, .unset, .unset, .unset, .unset, .unset, .unset] [(.int (p1 &&& (1073741823 : Int32))), (.ref b_105), (.ref b107), (.ref b107)])) _
    refine XS.iload X107.here hx rfl (hb hby at_74) rfl ?_
    show Steps p.tables e below (T107.setTop (mkF m 76 #[.val (.int p1), .val (.int p2), .val (.int p3), .val (.int p4), .val (.int p5), .val (.int (p1 &&& (1073741823 : Int32))), .val (.int (p2 &&& (1073741823 : Int32))), .val (.int (p3 &&& (1073741823 : Int32))), .val (.int (p4 &&& (1073741823 : Int32))), .val (.ref b_101), .val (.ref b_103), .val (.ref b_105), .unset, .unset, .unset, .unset, .unset, .unset, .unset, .unset, .unset, .unset, .unset, .unset, .unset, .unset] [(.int (p2 &&& (1073741823 : Int32))), (.int (p1 &&& (1073741823 : Int32))), (.ref b_105), (.ref b107), (.ref b107)])) _
    refine st112.trans ?_
    show Steps p.tables e below (T112.setTop (mkF m 79 #[.val (.int p1), .val (.int p2), .val (.int p3), .val (.int p4), .val (.int p5), .val (.int (p1 &&& (1073741823 : Int32))), .val (.int (p2 &&& (1073741823 : Int32))), .val (.int (p3 &&& (1073741823 : Int32))), .val (.int (p4 &&& (1073741823 : Int32))), .val (.ref b_101), .val (.ref b_103), .val (.ref b_105), .unset, .unset, .unset, .unset, .unset, .unset, .unset, .unset, .unset, .unset, .unset, .unset, .unset, .unset] [(.ref b107)])) _
    refine XS.astore X112.here hx rfl (hb hby at_79) rfl rfl (l' := #[.val (.int p1), .val (.int p2), .val (.int p3), .val (.int p4), .val (.int p5), .val (.int (p1 &&& (1073741823 : Int32))), .val (.int (p2 &&& (1073741823 : Int32))), .val (.int (p3 &&& (1073741823 : Int32))), .val (.int (p4 &&& (1073741823 : Int32))), .val (.ref b_101), .val (.ref b_103), .val (.ref b_105), .val (.ref b107), .unset, .unset, .unset, .unset, .unset, .unset, .unset, .unset, .unset, .unset, .unset, .unset, .unset]) rfl ?_
    show Steps p.tables e below (T112.setTop (mkF m 81 #[.val (.int p1), .val (.int p2), .val (.int p3), .val (.int p4), .val (.int p5), .val (.int (p1 &&& (1073741823 : Int32))), .val (.int (p2 &&& (1073741823 : Int32))), .val (.int (p3 &&& (1073741823 : Int32))), .val (.int (p4 &&& (1073741823 : Int32))), .val (.ref b_101), .val (.ref b_103), .val (.ref b_105), .val (.ref b107), .unset, .unset, .unset, .unset, .unset, .unset, .unset, .unset, .unset, .unset, .unset, .unset, .unset] [])) _
    refine st115 _ ?_
    show Steps p.tables e below (T115.setTop (mkF m 84 #[.val (.int p1), .val (.int p2), .val (.int p3), .val (.int p4), .val (.int p5), .val (.int (p1 &&& (1073741823 : Int32))), .val (.int (p2 &&& (1073741823 : Int32))), .val (.int (p3 &&& (1073741823 : Int32))), .val (.int (p4 &&& (1073741823 : Int32))), .val (.ref b_101), .val (.ref b_103), .val (.ref b_105), .val (.ref b107), .unset, .unset, .unset, .unset, .unset, .unset, .unset, .unset, .unset, .unset, .unset, .unset, .unset] [(.ref b115)])) _
    refine XS.dup X115.here hx rfl (hb hby at_84) rfl rfl ?_
    show Steps p.tables e below (T115.setTop (mkF m 85 #[.val (.int p1), .val (.int p2), .val (.int p3), .val (.int p4), .val (.int p5), .val (.int (p1 &&& (1073741823 : Int32))), .val (.int (p2 &&& (1073741823 : Int32))), .val (.int (p3 &&& (1073741823 : Int32))), .val (.int (p4 &&& (1073741823 : Int32))), .val (.ref b_101), .val (.ref b_103), .val (.ref b_105), .val (.ref b107), .unset, .unset, .unset, .unset, .unset, .unset, .unset, .unset, .unset, .unset, .unset, .unset, .unset] [(.ref b115), (.ref b115)])) _
    refine XS.aload X115.here hx rfl (hb hby at_85) rfl rfl ?_
    show Steps p.tables e below (T115.setTop (mkF m 87 #[.val (.int p1), .val (.int p2), .val (.int p3), .val (.int p4), .val (.int p5), .val (.int (p1 &&& (1073741823 : Int32))), .val (.int (p2 &&& (1073741823 : Int32))), .val (.int (p3 &&& (1073741823 : Int32))), .val (.int (p4 &&& (1073741823 : Int32))), .val (.ref b_101), .val (.ref b_103), .val (.ref b_105), .val (.ref b107), .unset, .unset, .unset, .unset, .unset, .unset, .unset, .unset, .unset, .unset, .unset, .unset, .unset] [(.ref b_101), (.ref b115), (.ref b115)])) _
    refine XS.aload X115.here hx rfl (hb hby at_87) rfl rfl ?_
    show Steps p.tables e below (T115.setTop (mkF m 89 #[.val (.int p1), .val (.int p2), .val (.int p3), .val (.int p4), .val (.int p5), .val (.int (p1 &&& (1073741823 : Int32))), .val (.int (p2 &&& (1073741823 : Int32))), .val (.int (p3 &&& (1073741823 : Int32))), .val (.int (p4 &&& (1073741823 : Int32))), .val (.ref b_101), .val (.ref b_103), .val (.ref b_105), .val (.ref b107), .unset, .unset, .unset, .unset, .unset, .unset, .unset, .unset, .unset, .unset, .unset, .unset, .unset] [(.ref b_103), (.ref b_101), (.ref b115), (.ref b115)])) _
    refine XS.iload X115.here hx rfl (hb hby at_89) rfl ?_
    show Steps p.tables e below (T115.setTop (mkF m 91 #[.val (.int p1), .val (.int p2), .val (.int p3), .val (.int p4), .val (.int p5), .val (.int (p1 &&& (1073741823 : Int32))), .val (.int (p2 &&& (1073741823 : Int32))), .val (.int (p3 &&& (1073741823 : Int32))), .val (.int (p4 &&& (1073741823 : Int32))), .val (.ref b_101), .val (.ref b_103), .val (.ref b_105), .val (.ref b107), .unset, .unset, .unset, .unset, .unset, .unset, .unset, .unset, .unset, .unset, .unset, .unset, .unset] [(.int (p3 &&& (1073741823 : Int32))), (.ref b_103), (.ref b_101), (.ref b115), (.ref b115)])) _
    refine XS.iload X115.here hx rfl (hb hby at_91) rfl ?_
    show Steps p.tables e below (T115.setTop (mkF m 93 #[.val (.int p1), .val (.int p2), .val (.int p3), .val (.int p4), .val (.int p5), .val (.int (p1 &&& (1073741823 : Int32))), .val (.int (p2 &&& (1073741823 : Int32))), .val (.int (p3 &&& (1073741823 : Int32))), .val (.int (p4 &&& (1073741823 : Int32))), .val (.ref b_101), .val (.ref b_103), .val (.ref b_105), .val (.ref b107), .unset, .unset, .unset, .unset, .unset, .unset, .unset, .unset, .unset, .unset, .unset, .unset, .unset] [(.int (p4 &&& (1073741823 : Int32))), (.int (p3 &&& (1073741823 : Int32))), (.ref b_103), (.ref b_101), (.ref b115), (.ref b115)])) _
    refine st124.trans ?_
    show Steps p.tables e below (T124.setTop (mkF m 96 #[.val (.int p1), .val (.int p2), .val (.int p3), .val (.int p4), .val (.int p5), .val (.int (p1 &&& (1073741823 : Int32))), .val (.int (p2 &&& (1073741823 : Int32))), .val (.int (p3 &&& (1073741823 : Int32))), .val (.int (p4 &&& (1073741823 : Int32))), .val (.ref b_101), .val (.ref b_103), .val (.ref b_105), .val (.ref b107), .unset, .unset, .unset, .unset, .unset, .unset, .unset, .unset, .unset, .unset, .unset, .unset, .unset] [(.ref b115)])) _
    refine XS.astore X124.here hx rfl (hb hby at_96) rfl rfl (l' := #[.val (.int p1), .val (.int p2), .val (.int p3), .val (.int p4), .val (.int p5), .val (.int (p1 &&& (1073741823 : Int32))), .val (.int (p2 &&& (1073741823 : Int32))), .val (.int (p3 &&& (1073741823 : Int32))), .val (.int (p4 &&& (1073741823 : Int32))), .val (.ref b_101), .val (.ref b_103), .val (.ref b_105), .val (.ref b107), .val (.ref b115), .unset, .unset, .unset, .unset, .unset, .unset, .unset, .unset, .unset, .unset, .unset, .unset]) rfl ?_
    show Steps p.tables e below (T124.setTop (mkF m 98 #[.val (.int p1), .val (.int p2), .val (.int p3), .val (.int p4), .val (.int p5), .val (.int (p1 &&& (1073741823 : Int32))), .val (.int (p2 &&& (1073741823 : Int32))), .val (.int (p3 &&& (1073741823 : Int32))), .val (.int (p4 &&& (1073741823 : Int32))), .val (.ref b_101), .val (.ref b_103), .val (.ref b_105), .val (.ref b107), .val (.ref b115), .unset, .unset, .unset, .unset, .unset, .unset, .unset, .unset, .unset, .unset, .unset, .unset] [])) _
    refine XS.aload X124.here hx rfl (hb hby at_98) rfl rfl ?_
    show Steps p.tables e below (T124.setTop (mkF m 100 #[.val (.int p1), .val (.int p2), .val (.int p3), .val (.int p4), .val (.int p5), .val (.int (p1 &&& (1073741823 : Int32))), .val (.int (p2 &&& (1073741823 : Int32))), .val (.int (p3 &&& (1073741823 : Int32))), .val (.int (p4 &&& (1073741823 : Int32))), .val (.ref b_101), .val (.ref b_103), .val (.ref b_105), .val (.ref b107), .val (.ref b115), .unset, .unset, .unset, .unset, .unset, .unset, .unset, .unset, .unset, .unset, .unset, .unset] [(.ref b107)])) _
    refine XS.aload X124.here hx rfl (hb hby at_100) rfl rfl ?_
    show Steps p.tables e below (T124.setTop (mkF m 102 #[.val (.int p1), .val (.int p2), .val (.int p3), .val (.int p4), .val (.int p5), .val (.int (p1 &&& (1073741823 : Int32))), .val (.int (p2 &&& (1073741823 : Int32))), .val (.int (p3 &&& (1073741823 : Int32))), .val (.int (p4 &&& (1073741823 : Int32))), .val (.ref b_101), .val (.ref b_103), .val (.ref b_105), .val (.ref b107), .val (.ref b115), .unset, .unset, .unset, .unset, .unset, .unset, .unset, .unset, .unset, .unset, .unset, .unset] [(.ref b115), (.ref b107)])) _
    refine st130.trans ?_
    show Steps p.tables e below (T130.setTop (mkF m 105 #[.val (.int p1), .val (.int p2), .val (.int p3), .val (.int p4), .val (.int p5), .val (.int (p1 &&& (1073741823 : Int32))), .val (.int (p2 &&& (1073741823 : Int32))), .val (.int (p3 &&& (1073741823 : Int32))), .val (.int (p4 &&& (1073741823 : Int32))), .val (.ref b_101), .val (.ref b_103), .val (.ref b_105), .val (.ref b107), .val (.ref b115), .unset, .unset, .unset, .unset, .unset, .unset, .unset, .unset, .unset, .unset, .unset, .unset] [(.int (own_holds (p1 &&& (1073741823 : Int32)) (p2 &&& (1073741823 : Int32)) (p3 &&& (1073741823 : Int32)) (p4 &&& (1073741823 : Int32))))])) _
    refine XS.istore X130.here hx rfl (hb hby at_105) rfl (l' := #[.val (.int p1), .val (.int p2), .val (.int p3), .val (.int p4), .val (.int p5), .val (.int (p1 &&& (1073741823 : Int32))), .val (.int (p2 &&& (1073741823 : Int32))), .val (.int (p3 &&& (1073741823 : Int32))), .val (.int (p4 &&& (1073741823 : Int32))), .val (.ref b_101), .val (.ref b_103), .val (.ref b_105), .val (.ref b107), .val (.ref b115), .val (.int (own_holds (p1 &&& (1073741823 : Int32)) (p2 &&& (1073741823 : Int32)) (p3 &&& (1073741823 : Int32)) (p4 &&& (1073741823 : Int32)))), .unset, .unset, .unset, .unset, .unset, .unset, .unset, .unset, .unset, .unset, .unset]) rfl ?_
    show Steps p.tables e below (T130.setTop (mkF m 107 #[.val (.int p1), .val (.int p2), .val (.int p3), .val (.int p4), .val (.int p5), .val (.int (p1 &&& (1073741823 : Int32))), .val (.int (p2 &&& (1073741823 : Int32))), .val (.int (p3 &&& (1073741823 : Int32))), .val (.int (p4 &&& (1073741823 : Int32))), .val (.ref b_101), .val (.ref b_103), .val (.ref b_105), .val (.ref b107), .val (.ref b115), .val (.int (own_holds (p1 &&& (1073741823 : Int32)) (p2 &&& (1073741823 : Int32)) (p3 &&& (1073741823 : Int32)) (p4 &&& (1073741823 : Int32)))), .unset, .unset, .unset, .unset, .unset, .unset, .unset, .unset, .unset, .unset, .unset] [])) _
    refine XS.iload X130.here hx rfl (hb hby at_107) rfl ?_
    show Steps p.tables e below (T130.setTop (mkF m 109 #[.val (.int p1), .val (.int p2), .val (.int p3), .val (.int p4), .val (.int p5), .val (.int (p1 &&& (1073741823 : Int32))), .val (.int (p2 &&& (1073741823 : Int32))), .val (.int (p3 &&& (1073741823 : Int32))), .val (.int (p4 &&& (1073741823 : Int32))), .val (.ref b_101), .val (.ref b_103), .val (.ref b_105), .val (.ref b107), .val (.ref b115), .val (.int (own_holds (p1 &&& (1073741823 : Int32)) (p2 &&& (1073741823 : Int32)) (p3 &&& (1073741823 : Int32)) (p4 &&& (1073741823 : Int32)))), .unset, .unset, .unset, .unset, .unset, .unset, .unset, .unset, .unset, .unset, .unset] [(.int (p1 &&& (1073741823 : Int32)))])) _
    refine XS.i2l X130.here hx rfl (hb hby at_109) rfl ?_
    show Steps p.tables e below (T130.setTop (mkF m 110 #[.val (.int p1), .val (.int p2), .val (.int p3), .val (.int p4), .val (.int p5), .val (.int (p1 &&& (1073741823 : Int32))), .val (.int (p2 &&& (1073741823 : Int32))), .val (.int (p3 &&& (1073741823 : Int32))), .val (.int (p4 &&& (1073741823 : Int32))), .val (.ref b_101), .val (.ref b_103), .val (.ref b_105), .val (.ref b107), .val (.ref b115), .val (.int (own_holds (p1 &&& (1073741823 : Int32)) (p2 &&& (1073741823 : Int32)) (p3 &&& (1073741823 : Int32)) (p4 &&& (1073741823 : Int32)))), .unset, .unset, .unset, .unset, .unset, .unset, .unset, .unset, .unset, .unset, .unset] [(.long ((p1 &&& (1073741823 : Int32)).toInt64))])) _
    refine XS.lstore X130.here hx rfl (hb hby at_110) rfl (l' := #[.val (.int p1), .val (.int p2), .val (.int p3), .val (.int p4), .val (.int p5), .val (.int (p1 &&& (1073741823 : Int32))), .val (.int (p2 &&& (1073741823 : Int32))), .val (.int (p3 &&& (1073741823 : Int32))), .val (.int (p4 &&& (1073741823 : Int32))), .val (.ref b_101), .val (.ref b_103), .val (.ref b_105), .val (.ref b107), .val (.ref b115), .val (.int (own_holds (p1 &&& (1073741823 : Int32)) (p2 &&& (1073741823 : Int32)) (p3 &&& (1073741823 : Int32)) (p4 &&& (1073741823 : Int32)))), .val (.long ((p1 &&& (1073741823 : Int32)).toInt64)), .second, .unset, .unset, .unset, .unset, .unset, .unset, .unset, .unset, .unset]) rfl ?_
    show Steps p.tables e below (T130.setTop (mkF m 112 #[.val (.int p1), .val (.int p2), .val (.int p3), .val (.int p4), .val (.int p5), .val (.int (p1 &&& (1073741823 : Int32))), .val (.int (p2 &&& (1073741823 : Int32))), .val (.int (p3 &&& (1073741823 : Int32))), .val (.int (p4 &&& (1073741823 : Int32))), .val (.ref b_101), .val (.ref b_103), .val (.ref b_105), .val (.ref b107), .val (.ref b115), .val (.int (own_holds (p1 &&& (1073741823 : Int32)) (p2 &&& (1073741823 : Int32)) (p3 &&& (1073741823 : Int32)) (p4 &&& (1073741823 : Int32)))), .val (.long ((p1 &&& (1073741823 : Int32)).toInt64)), .second, .unset, .unset, .unset, .unset, .unset, .unset, .unset, .unset, .unset] [])) _
    refine XS.lload X130.here hx rfl (hb hby at_112) rfl ?_
    show Steps p.tables e below (T130.setTop (mkF m 114 #[.val (.int p1), .val (.int p2), .val (.int p3), .val (.int p4), .val (.int p5), .val (.int (p1 &&& (1073741823 : Int32))), .val (.int (p2 &&& (1073741823 : Int32))), .val (.int (p3 &&& (1073741823 : Int32))), .val (.int (p4 &&& (1073741823 : Int32))), .val (.ref b_101), .val (.ref b_103), .val (.ref b_105), .val (.ref b107), .val (.ref b115), .val (.int (own_holds (p1 &&& (1073741823 : Int32)) (p2 &&& (1073741823 : Int32)) (p3 &&& (1073741823 : Int32)) (p4 &&& (1073741823 : Int32)))), .val (.long ((p1 &&& (1073741823 : Int32)).toInt64)), .second, .unset, .unset, .unset, .unset, .unset, .unset, .unset, .unset, .unset] [(.long ((p1 &&& (1073741823 : Int32)).toInt64))])) _
    refine XS.iload X130.here hx rfl (hb hby at_114) rfl ?_
    show Steps p.tables e below (T130.setTop (mkF m 116 #[.val (.int p1), .val (.int p2), .val (.int p3), .val (.int p4), .val (.int p5), .val (.int (p1 &&& (1073741823 : Int32))), .val (.int (p2 &&& (1073741823 : Int32))), .val (.int (p3 &&& (1073741823 : Int32))), .val (.int (p4 &&& (1073741823 : Int32))), .val (.ref b_101), .val (.ref b_103), .val (.ref b_105), .val (.ref b107), .val (.ref b115), .val (.int (own_holds (p1 &&& (1073741823 : Int32)) (p2 &&& (1073741823 : Int32)) (p3 &&& (1073741823 : Int32)) (p4 &&& (1073741823 : Int32)))), .val (.long ((p1 &&& (1073741823 : Int32)).toInt64)), .second, .unset, .unset, .unset, .unset, .unset, .unset, .unset, .unset, .unset] [(.int (p2 &&& (1073741823 : Int32))), (.long ((p1 &&& (1073741823 : Int32)).toInt64))])) _
    refine XS.i2l X130.here hx rfl (hb hby at_116) rfl ?_
    show Steps p.tables e below (T130.setTop (mkF m 117 #[.val (.int p1), .val (.int p2), .val (.int p3), .val (.int p4), .val (.int p5), .val (.int (p1 &&& (1073741823 : Int32))), .val (.int (p2 &&& (1073741823 : Int32))), .val (.int (p3 &&& (1073741823 : Int32))), .val (.int (p4 &&& (1073741823 : Int32))), .val (.ref b_101), .val (.ref b_103), .val (.ref b_105), .val (.ref b107), .val (.ref b115), .val (.int (own_holds (p1 &&& (1073741823 : Int32)) (p2 &&& (1073741823 : Int32)) (p3 &&& (1073741823 : Int32)) (p4 &&& (1073741823 : Int32)))), .val (.long ((p1 &&& (1073741823 : Int32)).toInt64)), .second, .unset, .unset, .unset, .unset, .unset, .unset, .unset, .unset, .unset] [(.long ((p2 &&& (1073741823 : Int32)).toInt64)), (.long ((p1 &&& (1073741823 : Int32)).toInt64))])) _
    refine XS.ladd X130.here hx rfl (hb hby at_117) rfl ?_
    show Steps p.tables e below (T130.setTop (mkF m 118 #[.val (.int p1), .val (.int p2), .val (.int p3), .val (.int p4), .val (.int p5), .val (.int (p1 &&& (1073741823 : Int32))), .val (.int (p2 &&& (1073741823 : Int32))), .val (.int (p3 &&& (1073741823 : Int32))), .val (.int (p4 &&& (1073741823 : Int32))), .val (.ref b_101), .val (.ref b_103), .val (.ref b_105), .val (.ref b107), .val (.ref b115), .val (.int (own_holds (p1 &&& (1073741823 : Int32)) (p2 &&& (1073741823 : Int32)) (p3 &&& (1073741823 : Int32)) (p4 &&& (1073741823 : Int32)))), .val (.long ((p1 &&& (1073741823 : Int32)).toInt64)), .second, .unset, .unset, .unset, .unset, .unset, .unset, .unset, .unset, .unset] [(.long (((p1 &&& (1073741823 : Int32)).toInt64) + ((p2 &&& (1073741823 : Int32)).toInt64)))])) _
    refine XS.lstore X130.here hx rfl (hb hby at_118) rfl (l' := #[.val (.int p1), .val (.int p2), .val (.int p3), .val (.int p4), .val (.int p5), .val (.int (p1 &&& (1073741823 : Int32))), .val (.int (p2 &&& (1073741823 : Int32))), .val (.int (p3 &&& (1073741823 : Int32))), .val (.int (p4 &&& (1073741823 : Int32))), .val (.ref b_101), .val (.ref b_103), .val (.ref b_105), .val (.ref b107), .val (.ref b115), .val (.int (own_holds (p1 &&& (1073741823 : Int32)) (p2 &&& (1073741823 : Int32)) (p3 &&& (1073741823 : Int32)) (p4 &&& (1073741823 : Int32)))), .val (.long ((p1 &&& (1073741823 : Int32)).toInt64)), .second, .val (.long (((p1 &&& (1073741823 : Int32)).toInt64) + ((p2 &&& (1073741823 : Int32)).toInt64))), .second, .unset, .unset, .unset, .unset, .unset, .unset, .unset]) rfl ?_
    show Steps p.tables e below (T130.setTop (mkF m 120 #[.val (.int p1), .val (.int p2), .val (.int p3), .val (.int p4), .val (.int p5), .val (.int (p1 &&& (1073741823 : Int32))), .val (.int (p2 &&& (1073741823 : Int32))), .val (.int (p3 &&& (1073741823 : Int32))), .val (.int (p4 &&& (1073741823 : Int32))), .val (.ref b_101), .val (.ref b_103), .val (.ref b_105), .val (.ref b107), .val (.ref b115), .val (.int (own_holds (p1 &&& (1073741823 : Int32)) (p2 &&& (1073741823 : Int32)) (p3 &&& (1073741823 : Int32)) (p4 &&& (1073741823 : Int32)))), .val (.long ((p1 &&& (1073741823 : Int32)).toInt64)), .second, .val (.long (((p1 &&& (1073741823 : Int32)).toInt64) + ((p2 &&& (1073741823 : Int32)).toInt64))), .second, .unset, .unset, .unset, .unset, .unset, .unset, .unset] [])) _
    refine XS.iload X130.here hx rfl (hb hby at_120) rfl ?_
    show Steps p.tables e below (T130.setTop (mkF m 122 #[.val (.int p1), .val (.int p2), .val (.int p3), .val (.int p4), .val (.int p5), .val (.int (p1 &&& (1073741823 : Int32))), .val (.int (p2 &&& (1073741823 : Int32))), .val (.int (p3 &&& (1073741823 : Int32))), .val (.int (p4 &&& (1073741823 : Int32))), .val (.ref b_101), .val (.ref b_103), .val (.ref b_105), .val (.ref b107), .val (.ref b115), .val (.int (own_holds (p1 &&& (1073741823 : Int32)) (p2 &&& (1073741823 : Int32)) (p3 &&& (1073741823 : Int32)) (p4 &&& (1073741823 : Int32)))), .val (.long ((p1 &&& (1073741823 : Int32)).toInt64)), .second, .val (.long (((p1 &&& (1073741823 : Int32)).toInt64) + ((p2 &&& (1073741823 : Int32)).toInt64))), .second, .unset, .unset, .unset, .unset, .unset, .unset, .unset] [(.int (p3 &&& (1073741823 : Int32)))])) _
    refine XS.i2l X130.here hx rfl (hb hby at_122) rfl ?_
    show Steps p.tables e below (T130.setTop (mkF m 123 #[.val (.int p1), .val (.int p2), .val (.int p3), .val (.int p4), .val (.int p5), .val (.int (p1 &&& (1073741823 : Int32))), .val (.int (p2 &&& (1073741823 : Int32))), .val (.int (p3 &&& (1073741823 : Int32))), .val (.int (p4 &&& (1073741823 : Int32))), .val (.ref b_101), .val (.ref b_103), .val (.ref b_105), .val (.ref b107), .val (.ref b115), .val (.int (own_holds (p1 &&& (1073741823 : Int32)) (p2 &&& (1073741823 : Int32)) (p3 &&& (1073741823 : Int32)) (p4 &&& (1073741823 : Int32)))), .val (.long ((p1 &&& (1073741823 : Int32)).toInt64)), .second, .val (.long (((p1 &&& (1073741823 : Int32)).toInt64) + ((p2 &&& (1073741823 : Int32)).toInt64))), .second, .unset, .unset, .unset, .unset, .unset, .unset, .unset] [(.long ((p3 &&& (1073741823 : Int32)).toInt64))])) _
    refine XS.lstore X130.here hx rfl (hb hby at_123) rfl (l' := #[.val (.int p1), .val (.int p2), .val (.int p3), .val (.int p4), .val (.int p5), .val (.int (p1 &&& (1073741823 : Int32))), .val (.int (p2 &&& (1073741823 : Int32))), .val (.int (p3 &&& (1073741823 : Int32))), .val (.int (p4 &&& (1073741823 : Int32))), .val (.ref b_101), .val (.ref b_103), .val (.ref b_105), .val (.ref b107), .val (.ref b115), .val (.int (own_holds (p1 &&& (1073741823 : Int32)) (p2 &&& (1073741823 : Int32)) (p3 &&& (1073741823 : Int32)) (p4 &&& (1073741823 : Int32)))), .val (.long ((p1 &&& (1073741823 : Int32)).toInt64)), .second, .val (.long (((p1 &&& (1073741823 : Int32)).toInt64) + ((p2 &&& (1073741823 : Int32)).toInt64))), .second, .val (.long ((p3 &&& (1073741823 : Int32)).toInt64)), .second, .unset, .unset, .unset, .unset, .unset]) rfl ?_
    show Steps p.tables e below (T130.setTop (mkF m 125 #[.val (.int p1), .val (.int p2), .val (.int p3), .val (.int p4), .val (.int p5), .val (.int (p1 &&& (1073741823 : Int32))), .val (.int (p2 &&& (1073741823 : Int32))), .val (.int (p3 &&& (1073741823 : Int32))), .val (.int (p4 &&& (1073741823 : Int32))), .val (.ref b_101), .val (.ref b_103), .val (.ref b_105), .val (.ref b107), .val (.ref b115), .val (.int (own_holds (p1 &&& (1073741823 : Int32)) (p2 &&& (1073741823 : Int32)) (p3 &&& (1073741823 : Int32)) (p4 &&& (1073741823 : Int32)))), .val (.long ((p1 &&& (1073741823 : Int32)).toInt64)), .second, .val (.long (((p1 &&& (1073741823 : Int32)).toInt64) + ((p2 &&& (1073741823 : Int32)).toInt64))), .second, .val (.long ((p3 &&& (1073741823 : Int32)).toInt64)), .second, .unset, .unset, .unset, .unset, .unset] [])) _
    refine XS.lload X130.here hx rfl (hb hby at_125) rfl ?_
    show Steps p.tables e below (T130.setTop (mkF m 127 #[.val (.int p1), .val (.int p2), .val (.int p3), .val (.int p4), .val (.int p5), .val (.int (p1 &&& (1073741823 : Int32))), .val (.int (p2 &&& (1073741823 : Int32))), .val (.int (p3 &&& (1073741823 : Int32))), .val (.int (p4 &&& (1073741823 : Int32))), .val (.ref b_101), .val (.ref b_103), .val (.ref b_105), .val (.ref b107), .val (.ref b115), .val (.int (own_holds (p1 &&& (1073741823 : Int32)) (p2 &&& (1073741823 : Int32)) (p3 &&& (1073741823 : Int32)) (p4 &&& (1073741823 : Int32)))), .val (.long ((p1 &&& (1073741823 : Int32)).toInt64)), .second, .val (.long (((p1 &&& (1073741823 : Int32)).toInt64) + ((p2 &&& (1073741823 : Int32)).toInt64))), .second, .val (.long ((p3 &&& (1073741823 : Int32)).toInt64)), .second, .unset, .unset, .unset, .unset, .unset] [(.long ((p3 &&& (1073741823 : Int32)).toInt64))])) _
    refine XS.iload X130.here hx rfl (hb hby at_127) rfl ?_
    show Steps p.tables e below (T130.setTop (mkF m 129 #[.val (.int p1), .val (.int p2), .val (.int p3), .val (.int p4), .val (.int p5), .val (.int (p1 &&& (1073741823 : Int32))), .val (.int (p2 &&& (1073741823 : Int32))), .val (.int (p3 &&& (1073741823 : Int32))), .val (.int (p4 &&& (1073741823 : Int32))), .val (.ref b_101), .val (.ref b_103), .val (.ref b_105), .val (.ref b107), .val (.ref b115), .val (.int (own_holds (p1 &&& (1073741823 : Int32)) (p2 &&& (1073741823 : Int32)) (p3 &&& (1073741823 : Int32)) (p4 &&& (1073741823 : Int32)))), .val (.long ((p1 &&& (1073741823 : Int32)).toInt64)), .second, .val (.long (((p1 &&& (1073741823 : Int32)).toInt64) + ((p2 &&& (1073741823 : Int32)).toInt64))), .second, .val (.long ((p3 &&& (1073741823 : Int32)).toInt64)), .second, .unset, .unset, .unset, .unset, .unset] [(.int (p4 &&& (1073741823 : Int32))), (.long ((p3 &&& (1073741823 : Int32)).toInt64))])) _
    refine XS.i2l X130.here hx rfl (hb hby at_129) rfl ?_
    show Steps p.tables e below (T130.setTop (mkF m 130 #[.val (.int p1), .val (.int p2), .val (.int p3), .val (.int p4), .val (.int p5), .val (.int (p1 &&& (1073741823 : Int32))), .val (.int (p2 &&& (1073741823 : Int32))), .val (.int (p3 &&& (1073741823 : Int32))), .val (.int (p4 &&& (1073741823 : Int32))), .val (.ref b_101), .val (.ref b_103), .val (.ref b_105), .val (.ref b107), .val (.ref b115), .val (.int (own_holds (p1 &&& (1073741823 : Int32)) (p2 &&& (1073741823 : Int32)) (p3 &&& (1073741823 : Int32)) (p4 &&& (1073741823 : Int32)))), .val (.long ((p1 &&& (1073741823 : Int32)).toInt64)), .second, .val (.long (((p1 &&& (1073741823 : Int32)).toInt64) + ((p2 &&& (1073741823 : Int32)).toInt64))), .second, .val (.long ((p3 &&& (1073741823 : Int32)).toInt64)), .second, .unset, .unset, .unset, .unset, .unset] [(.long ((p4 &&& (1073741823 : Int32)).toInt64)), (.long ((p3 &&& (1073741823 : Int32)).toInt64))])) _
    refine XS.ladd X130.here hx rfl (hb hby at_130) rfl ?_
    show Steps p.tables e below (T130.setTop (mkF m 131 #[.val (.int p1), .val (.int p2), .val (.int p3), .val (.int p4), .val (.int p5), .val (.int (p1 &&& (1073741823 : Int32))), .val (.int (p2 &&& (1073741823 : Int32))), .val (.int (p3 &&& (1073741823 : Int32))), .val (.int (p4 &&& (1073741823 : Int32))), .val (.ref b_101), .val (.ref b_103), .val (.ref b_105), .val (.ref b107), .val (.ref b115), .val (.int (own_holds (p1 &&& (1073741823 : Int32)) (p2 &&& (1073741823 : Int32)) (p3 &&& (1073741823 : Int32)) (p4 &&& (1073741823 : Int32)))), .val (.long ((p1 &&& (1073741823 : Int32)).toInt64)), .second, .val (.long (((p1 &&& (1073741823 : Int32)).toInt64) + ((p2 &&& (1073741823 : Int32)).toInt64))), .second, .val (.long ((p3 &&& (1073741823 : Int32)).toInt64)), .second, .unset, .unset, .unset, .unset, .unset] [(.long (((p3 &&& (1073741823 : Int32)).toInt64) + ((p4 &&& (1073741823 : Int32)).toInt64)))])) _
    refine XS.lstore X130.here hx rfl (hb hby at_131) rfl (l' := #[.val (.int p1), .val (.int p2), .val (.int p3), .val (.int p4), .val (.int p5), .val (.int (p1 &&& (1073741823 : Int32))), .val (.int (p2 &&& (1073741823 : Int32))), .val (.int (p3 &&& (1073741823 : Int32))), .val (.int (p4 &&& (1073741823 : Int32))), .val (.ref b_101), .val (.ref b_103), .val (.ref b_105), .val (.ref b107), .val (.ref b115), .val (.int (own_holds (p1 &&& (1073741823 : Int32)) (p2 &&& (1073741823 : Int32)) (p3 &&& (1073741823 : Int32)) (p4 &&& (1073741823 : Int32)))), .val (.long ((p1 &&& (1073741823 : Int32)).toInt64)), .second, .val (.long (((p1 &&& (1073741823 : Int32)).toInt64) + ((p2 &&& (1073741823 : Int32)).toInt64))), .second, .val (.long ((p3 &&& (1073741823 : Int32)).toInt64)), .second, .val (.long (((p3 &&& (1073741823 : Int32)).toInt64) + ((p4 &&& (1073741823 : Int32)).toInt64))), .second, .unset, .unset, .unset]) rfl ?_
    show Steps p.tables e below (T130.setTop (mkF m 133 #[.val (.int p1), .val (.int p2), .val (.int p3), .val (.int p4), .val (.int p5), .val (.int (p1 &&& (1073741823 : Int32))), .val (.int (p2 &&& (1073741823 : Int32))), .val (.int (p3 &&& (1073741823 : Int32))), .val (.int (p4 &&& (1073741823 : Int32))), .val (.ref b_101), .val (.ref b_103), .val (.ref b_105), .val (.ref b107), .val (.ref b115), .val (.int (own_holds (p1 &&& (1073741823 : Int32)) (p2 &&& (1073741823 : Int32)) (p3 &&& (1073741823 : Int32)) (p4 &&& (1073741823 : Int32)))), .val (.long ((p1 &&& (1073741823 : Int32)).toInt64)), .second, .val (.long (((p1 &&& (1073741823 : Int32)).toInt64) + ((p2 &&& (1073741823 : Int32)).toInt64))), .second, .val (.long ((p3 &&& (1073741823 : Int32)).toInt64)), .second, .val (.long (((p3 &&& (1073741823 : Int32)).toInt64) + ((p4 &&& (1073741823 : Int32)).toInt64))), .second, .unset, .unset, .unset] [])) _
    refine XS.lload X130.here hx rfl (hb hby at_133) rfl ?_
    show Steps p.tables e below (T130.setTop (mkF m 135 #[.val (.int p1), .val (.int p2), .val (.int p3), .val (.int p4), .val (.int p5), .val (.int (p1 &&& (1073741823 : Int32))), .val (.int (p2 &&& (1073741823 : Int32))), .val (.int (p3 &&& (1073741823 : Int32))), .val (.int (p4 &&& (1073741823 : Int32))), .val (.ref b_101), .val (.ref b_103), .val (.ref b_105), .val (.ref b107), .val (.ref b115), .val (.int (own_holds (p1 &&& (1073741823 : Int32)) (p2 &&& (1073741823 : Int32)) (p3 &&& (1073741823 : Int32)) (p4 &&& (1073741823 : Int32)))), .val (.long ((p1 &&& (1073741823 : Int32)).toInt64)), .second, .val (.long (((p1 &&& (1073741823 : Int32)).toInt64) + ((p2 &&& (1073741823 : Int32)).toInt64))), .second, .val (.long ((p3 &&& (1073741823 : Int32)).toInt64)), .second, .val (.long (((p3 &&& (1073741823 : Int32)).toInt64) + ((p4 &&& (1073741823 : Int32)).toInt64))), .second, .unset, .unset, .unset] [(.long ((p3 &&& (1073741823 : Int32)).toInt64))])) _
    refine XS.lload X130.here hx rfl (hb hby at_135) rfl ?_
    show Steps p.tables e below (T130.setTop (mkF m 137 #[.val (.int p1), .val (.int p2), .val (.int p3), .val (.int p4), .val (.int p5), .val (.int (p1 &&& (1073741823 : Int32))), .val (.int (p2 &&& (1073741823 : Int32))), .val (.int (p3 &&& (1073741823 : Int32))), .val (.int (p4 &&& (1073741823 : Int32))), .val (.ref b_101), .val (.ref b_103), .val (.ref b_105), .val (.ref b107), .val (.ref b115), .val (.int (own_holds (p1 &&& (1073741823 : Int32)) (p2 &&& (1073741823 : Int32)) (p3 &&& (1073741823 : Int32)) (p4 &&& (1073741823 : Int32)))), .val (.long ((p1 &&& (1073741823 : Int32)).toInt64)), .second, .val (.long (((p1 &&& (1073741823 : Int32)).toInt64) + ((p2 &&& (1073741823 : Int32)).toInt64))), .second, .val (.long ((p3 &&& (1073741823 : Int32)).toInt64)), .second, .val (.long (((p3 &&& (1073741823 : Int32)).toInt64) + ((p4 &&& (1073741823 : Int32)).toInt64))), .second, .unset, .unset, .unset] [(.long ((p1 &&& (1073741823 : Int32)).toInt64)), (.long ((p3 &&& (1073741823 : Int32)).toInt64))])) _
    refine XS.lcmp X130.here hx rfl (hb hby at_137) rfl ?_
    exact kt
  by_cases hc132 : ((p3 &&& (1073741823 : Int32)).toInt64) < ((p1 &&& (1073741823 : Int32)).toInt64)
  · have pr133 : ∀ t, Steps p.tables e below (T130.setTop (mkF m 153 #[.val (.int p1), .val (.int p2), .val (.int p3), .val (.int p4), .val (.int p5), .val (.int (p1 &&& (1073741823 : Int32))), .val (.int (p2 &&& (1073741823 : Int32))), .val (.int (p3 &&& (1073741823 : Int32))), .val (.int (p4 &&& (1073741823 : Int32))), .val (.ref b_101), .val (.ref b_103), .val (.ref b_105), .val (.ref b107), .val (.ref b115), .val (.int (own_holds (p1 &&& (1073741823 : Int32)) (p2 &&& (1073741823 : Int32)) (p3 &&& (1073741823 : Int32)) (p4 &&& (1073741823 : Int32)))), .val (.long ((p1 &&& (1073741823 : Int32)).toInt64)), .second, .val (.long (((p1 &&& (1073741823 : Int32)).toInt64) + ((p2 &&& (1073741823 : Int32)).toInt64))), .second, .val (.long ((p3 &&& (1073741823 : Int32)).toInt64)), .second, .val (.long (((p3 &&& (1073741823 : Int32)).toInt64) + ((p4 &&& (1073741823 : Int32)).toInt64))), .second, .val (.int (0 : Int32)), .unset, .unset] [(.int (lcmpW (((p3 &&& (1073741823 : Int32)).toInt64) + ((p4 &&& (1073741823 : Int32)).toInt64)) (((p1 &&& (1073741823 : Int32)).toInt64) + ((p2 &&& (1073741823 : Int32)).toInt64))))])) t → Steps p.tables e below (s₁.setTop (mkF m 0 #[.val (.int p1), .val (.int p2), .val (.int p3), .val (.int p4), .val (.int p5), .unset, .unset, .unset, .unset, .unset, .unset, .unset, .unset, .unset, .unset, .unset, .unset, .unset, .unset, .unset, .unset, .unset, .unset, .unset, .unset, .unset] [])) t := fun t kt => by
      refine pr131 _ ?_
      show Steps p.tables e below (T130.setTop (mkF m 138 #[.val (.int p1), .val (.int p2), .val (.int p3), .val (.int p4), .val (.int p5), .val (.int (p1 &&& (1073741823 : Int32))), .val (.int (p2 &&& (1073741823 : Int32))), .val (.int (p3 &&& (1073741823 : Int32))), .val (.int (p4 &&& (1073741823 : Int32))), .val (.ref b_101), .val (.ref b_103), .val (.ref b_105), .val (.ref b107), .val (.ref b115), .val (.int (own_holds (p1 &&& (1073741823 : Int32)) (p2 &&& (1073741823 : Int32)) (p3 &&& (1073741823 : Int32)) (p4 &&& (1073741823 : Int32)))), .val (.long ((p1 &&& (1073741823 : Int32)).toInt64)), .second, .val (.long (((p1 &&& (1073741823 : Int32)).toInt64) + ((p2 &&& (1073741823 : Int32)).toInt64))), .second, .val (.long ((p3 &&& (1073741823 : Int32)).toInt64)), .second, .val (.long (((p3 &&& (1073741823 : Int32)).toInt64) + ((p4 &&& (1073741823 : Int32)).toInt64))), .second, .unset, .unset, .unset] [(.int (lcmpW ((p3 &&& (1073741823 : Int32)).toInt64) ((p1 &&& (1073741823 : Int32)).toInt64)))])) _
      refine XS.ifYes X130.here hx rfl (pc0 := 138) (pc' := 145) rfl (hb hby at_138) rfl ((if0 _ _).trans (tlt ((lw_lt _ _).mpr hc132)).1) (by decide) (by decide) ?_
      show Steps p.tables e below (T130.setTop (mkF m 145 #[.val (.int p1), .val (.int p2), .val (.int p3), .val (.int p4), .val (.int p5), .val (.int (p1 &&& (1073741823 : Int32))), .val (.int (p2 &&& (1073741823 : Int32))), .val (.int (p3 &&& (1073741823 : Int32))), .val (.int (p4 &&& (1073741823 : Int32))), .val (.ref b_101), .val (.ref b_103), .val (.ref b_105), .val (.ref b107), .val (.ref b115), .val (.int (own_holds (p1 &&& (1073741823 : Int32)) (p2 &&& (1073741823 : Int32)) (p3 &&& (1073741823 : Int32)) (p4 &&& (1073741823 : Int32)))), .val (.long ((p1 &&& (1073741823 : Int32)).toInt64)), .second, .val (.long (((p1 &&& (1073741823 : Int32)).toInt64) + ((p2 &&& (1073741823 : Int32)).toInt64))), .second, .val (.long ((p3 &&& (1073741823 : Int32)).toInt64)), .second, .val (.long (((p3 &&& (1073741823 : Int32)).toInt64) + ((p4 &&& (1073741823 : Int32)).toInt64))), .second, .unset, .unset, .unset] [])) _
      refine XS.iconst X130.here hx rfl (hb hby at_145) ?_
      show Steps p.tables e below (T130.setTop (mkF m 146 #[.val (.int p1), .val (.int p2), .val (.int p3), .val (.int p4), .val (.int p5), .val (.int (p1 &&& (1073741823 : Int32))), .val (.int (p2 &&& (1073741823 : Int32))), .val (.int (p3 &&& (1073741823 : Int32))), .val (.int (p4 &&& (1073741823 : Int32))), .val (.ref b_101), .val (.ref b_103), .val (.ref b_105), .val (.ref b107), .val (.ref b115), .val (.int (own_holds (p1 &&& (1073741823 : Int32)) (p2 &&& (1073741823 : Int32)) (p3 &&& (1073741823 : Int32)) (p4 &&& (1073741823 : Int32)))), .val (.long ((p1 &&& (1073741823 : Int32)).toInt64)), .second, .val (.long (((p1 &&& (1073741823 : Int32)).toInt64) + ((p2 &&& (1073741823 : Int32)).toInt64))), .second, .val (.long ((p3 &&& (1073741823 : Int32)).toInt64)), .second, .val (.long (((p3 &&& (1073741823 : Int32)).toInt64) + ((p4 &&& (1073741823 : Int32)).toInt64))), .second, .unset, .unset, .unset] [(.int (0 : Int32))])) _
      refine XS.istore X130.here hx rfl (hb hby at_146) rfl (l' := #[.val (.int p1), .val (.int p2), .val (.int p3), .val (.int p4), .val (.int p5), .val (.int (p1 &&& (1073741823 : Int32))), .val (.int (p2 &&& (1073741823 : Int32))), .val (.int (p3 &&& (1073741823 : Int32))), .val (.int (p4 &&& (1073741823 : Int32))), .val (.ref b_101), .val (.ref b_103), .val (.ref b_105), .val (.ref b107), .val (.ref b115), .val (.int (own_holds (p1 &&& (1073741823 : Int32)) (p2 &&& (1073741823 : Int32)) (p3 &&& (1073741823 : Int32)) (p4 &&& (1073741823 : Int32)))), .val (.long ((p1 &&& (1073741823 : Int32)).toInt64)), .second, .val (.long (((p1 &&& (1073741823 : Int32)).toInt64) + ((p2 &&& (1073741823 : Int32)).toInt64))), .second, .val (.long ((p3 &&& (1073741823 : Int32)).toInt64)), .second, .val (.long (((p3 &&& (1073741823 : Int32)).toInt64) + ((p4 &&& (1073741823 : Int32)).toInt64))), .second, .val (.int (0 : Int32)), .unset, .unset]) rfl ?_
      show Steps p.tables e below (T130.setTop (mkF m 148 #[.val (.int p1), .val (.int p2), .val (.int p3), .val (.int p4), .val (.int p5), .val (.int (p1 &&& (1073741823 : Int32))), .val (.int (p2 &&& (1073741823 : Int32))), .val (.int (p3 &&& (1073741823 : Int32))), .val (.int (p4 &&& (1073741823 : Int32))), .val (.ref b_101), .val (.ref b_103), .val (.ref b_105), .val (.ref b107), .val (.ref b115), .val (.int (own_holds (p1 &&& (1073741823 : Int32)) (p2 &&& (1073741823 : Int32)) (p3 &&& (1073741823 : Int32)) (p4 &&& (1073741823 : Int32)))), .val (.long ((p1 &&& (1073741823 : Int32)).toInt64)), .second, .val (.long (((p1 &&& (1073741823 : Int32)).toInt64) + ((p2 &&& (1073741823 : Int32)).toInt64))), .second, .val (.long ((p3 &&& (1073741823 : Int32)).toInt64)), .second, .val (.long (((p3 &&& (1073741823 : Int32)).toInt64) + ((p4 &&& (1073741823 : Int32)).toInt64))), .second, .val (.int (0 : Int32)), .unset, .unset] [])) _
      refine XS.lload X130.here hx rfl (hb hby at_148) rfl ?_
      show Steps p.tables e below (T130.setTop (mkF m 150 #[.val (.int p1), .val (.int p2), .val (.int p3), .val (.int p4), .val (.int p5), .val (.int (p1 &&& (1073741823 : Int32))), .val (.int (p2 &&& (1073741823 : Int32))), .val (.int (p3 &&& (1073741823 : Int32))), .val (.int (p4 &&& (1073741823 : Int32))), .val (.ref b_101), .val (.ref b_103), .val (.ref b_105), .val (.ref b107), .val (.ref b115), .val (.int (own_holds (p1 &&& (1073741823 : Int32)) (p2 &&& (1073741823 : Int32)) (p3 &&& (1073741823 : Int32)) (p4 &&& (1073741823 : Int32)))), .val (.long ((p1 &&& (1073741823 : Int32)).toInt64)), .second, .val (.long (((p1 &&& (1073741823 : Int32)).toInt64) + ((p2 &&& (1073741823 : Int32)).toInt64))), .second, .val (.long ((p3 &&& (1073741823 : Int32)).toInt64)), .second, .val (.long (((p3 &&& (1073741823 : Int32)).toInt64) + ((p4 &&& (1073741823 : Int32)).toInt64))), .second, .val (.int (0 : Int32)), .unset, .unset] [(.long (((p3 &&& (1073741823 : Int32)).toInt64) + ((p4 &&& (1073741823 : Int32)).toInt64)))])) _
      refine XS.lload X130.here hx rfl (hb hby at_150) rfl ?_
      show Steps p.tables e below (T130.setTop (mkF m 152 #[.val (.int p1), .val (.int p2), .val (.int p3), .val (.int p4), .val (.int p5), .val (.int (p1 &&& (1073741823 : Int32))), .val (.int (p2 &&& (1073741823 : Int32))), .val (.int (p3 &&& (1073741823 : Int32))), .val (.int (p4 &&& (1073741823 : Int32))), .val (.ref b_101), .val (.ref b_103), .val (.ref b_105), .val (.ref b107), .val (.ref b115), .val (.int (own_holds (p1 &&& (1073741823 : Int32)) (p2 &&& (1073741823 : Int32)) (p3 &&& (1073741823 : Int32)) (p4 &&& (1073741823 : Int32)))), .val (.long ((p1 &&& (1073741823 : Int32)).toInt64)), .second, .val (.long (((p1 &&& (1073741823 : Int32)).toInt64) + ((p2 &&& (1073741823 : Int32)).toInt64))), .second, .val (.long ((p3 &&& (1073741823 : Int32)).toInt64)), .second, .val (.long (((p3 &&& (1073741823 : Int32)).toInt64) + ((p4 &&& (1073741823 : Int32)).toInt64))), .second, .val (.int (0 : Int32)), .unset, .unset] [(.long (((p1 &&& (1073741823 : Int32)).toInt64) + ((p2 &&& (1073741823 : Int32)).toInt64))), (.long (((p3 &&& (1073741823 : Int32)).toInt64) + ((p4 &&& (1073741823 : Int32)).toInt64)))])) _
      refine XS.lcmp X130.here hx rfl (hb hby at_152) rfl ?_
      exact kt
    by_cases hc134 : (((p1 &&& (1073741823 : Int32)).toInt64) + ((p2 &&& (1073741823 : Int32)).toInt64)) < (((p3 &&& (1073741823 : Int32)).toInt64) + ((p4 &&& (1073741823 : Int32)).toInt64))
    · obtain ⟨fs, hr, hrun, hended, hRW⟩ := Stand.leaveW (s := s) (vm₁ := T124.vm) X130 Sn124 (by rw [P130_0]; exact (Nat.le_refl _)) (v := some (.int (1 : Int32))) (fun h => by rw [Bd.returns] at h; cases h) hlk
      refine ⟨_, _, pre0 _ ?_, hrun, hended, _, _, rfl, ?_, own_rmono hRW (by decide) (by decide)⟩
      · refine pr133 _ ?_
        show Steps p.tables e below (T130.setTop (mkF m 153 #[.val (.int p1), .val (.int p2), .val (.int p3), .val (.int p4), .val (.int p5), .val (.int (p1 &&& (1073741823 : Int32))), .val (.int (p2 &&& (1073741823 : Int32))), .val (.int (p3 &&& (1073741823 : Int32))), .val (.int (p4 &&& (1073741823 : Int32))), .val (.ref b_101), .val (.ref b_103), .val (.ref b_105), .val (.ref b107), .val (.ref b115), .val (.int (own_holds (p1 &&& (1073741823 : Int32)) (p2 &&& (1073741823 : Int32)) (p3 &&& (1073741823 : Int32)) (p4 &&& (1073741823 : Int32)))), .val (.long ((p1 &&& (1073741823 : Int32)).toInt64)), .second, .val (.long (((p1 &&& (1073741823 : Int32)).toInt64) + ((p2 &&& (1073741823 : Int32)).toInt64))), .second, .val (.long ((p3 &&& (1073741823 : Int32)).toInt64)), .second, .val (.long (((p3 &&& (1073741823 : Int32)).toInt64) + ((p4 &&& (1073741823 : Int32)).toInt64))), .second, .val (.int (0 : Int32)), .unset, .unset] [(.int (lcmpW (((p3 &&& (1073741823 : Int32)).toInt64) + ((p4 &&& (1073741823 : Int32)).toInt64)) (((p1 &&& (1073741823 : Int32)).toInt64) + ((p2 &&& (1073741823 : Int32)).toInt64))))])) _
        refine XS.ifYes X130.here hx rfl (pc0 := 153) (pc' := 160) rfl (hb hby at_153) rfl ((if0 _ _).trans (tlt ((lw_gt _ _).mpr hc134)).2.2.1) (by decide) (by decide) ?_
        show Steps p.tables e below (T130.setTop (mkF m 160 #[.val (.int p1), .val (.int p2), .val (.int p3), .val (.int p4), .val (.int p5), .val (.int (p1 &&& (1073741823 : Int32))), .val (.int (p2 &&& (1073741823 : Int32))), .val (.int (p3 &&& (1073741823 : Int32))), .val (.int (p4 &&& (1073741823 : Int32))), .val (.ref b_101), .val (.ref b_103), .val (.ref b_105), .val (.ref b107), .val (.ref b115), .val (.int (own_holds (p1 &&& (1073741823 : Int32)) (p2 &&& (1073741823 : Int32)) (p3 &&& (1073741823 : Int32)) (p4 &&& (1073741823 : Int32)))), .val (.long ((p1 &&& (1073741823 : Int32)).toInt64)), .second, .val (.long (((p1 &&& (1073741823 : Int32)).toInt64) + ((p2 &&& (1073741823 : Int32)).toInt64))), .second, .val (.long ((p3 &&& (1073741823 : Int32)).toInt64)), .second, .val (.long (((p3 &&& (1073741823 : Int32)).toInt64) + ((p4 &&& (1073741823 : Int32)).toInt64))), .second, .val (.int (0 : Int32)), .unset, .unset] [])) _
        refine XS.iconst X130.here hx rfl (hb hby at_160) ?_
        show Steps p.tables e below (T130.setTop (mkF m 161 #[.val (.int p1), .val (.int p2), .val (.int p3), .val (.int p4), .val (.int p5), .val (.int (p1 &&& (1073741823 : Int32))), .val (.int (p2 &&& (1073741823 : Int32))), .val (.int (p3 &&& (1073741823 : Int32))), .val (.int (p4 &&& (1073741823 : Int32))), .val (.ref b_101), .val (.ref b_103), .val (.ref b_105), .val (.ref b107), .val (.ref b115), .val (.int (own_holds (p1 &&& (1073741823 : Int32)) (p2 &&& (1073741823 : Int32)) (p3 &&& (1073741823 : Int32)) (p4 &&& (1073741823 : Int32)))), .val (.long ((p1 &&& (1073741823 : Int32)).toInt64)), .second, .val (.long (((p1 &&& (1073741823 : Int32)).toInt64) + ((p2 &&& (1073741823 : Int32)).toInt64))), .second, .val (.long ((p3 &&& (1073741823 : Int32)).toInt64)), .second, .val (.long (((p3 &&& (1073741823 : Int32)).toInt64) + ((p4 &&& (1073741823 : Int32)).toInt64))), .second, .val (.int (0 : Int32)), .unset, .unset] [(.int (0 : Int32))])) _
        refine XS.istore X130.here hx rfl (hb hby at_161) rfl (l' := #[.val (.int p1), .val (.int p2), .val (.int p3), .val (.int p4), .val (.int p5), .val (.int (p1 &&& (1073741823 : Int32))), .val (.int (p2 &&& (1073741823 : Int32))), .val (.int (p3 &&& (1073741823 : Int32))), .val (.int (p4 &&& (1073741823 : Int32))), .val (.ref b_101), .val (.ref b_103), .val (.ref b_105), .val (.ref b107), .val (.ref b115), .val (.int (own_holds (p1 &&& (1073741823 : Int32)) (p2 &&& (1073741823 : Int32)) (p3 &&& (1073741823 : Int32)) (p4 &&& (1073741823 : Int32)))), .val (.long ((p1 &&& (1073741823 : Int32)).toInt64)), .second, .val (.long (((p1 &&& (1073741823 : Int32)).toInt64) + ((p2 &&& (1073741823 : Int32)).toInt64))), .second, .val (.long ((p3 &&& (1073741823 : Int32)).toInt64)), .second, .val (.long (((p3 &&& (1073741823 : Int32)).toInt64) + ((p4 &&& (1073741823 : Int32)).toInt64))), .second, .val (.int (0 : Int32)), .val (.int (0 : Int32)), .unset]) rfl ?_
        show Steps p.tables e below (T130.setTop (mkF m 163 #[.val (.int p1), .val (.int p2), .val (.int p3), .val (.int p4), .val (.int p5), .val (.int (p1 &&& (1073741823 : Int32))), .val (.int (p2 &&& (1073741823 : Int32))), .val (.int (p3 &&& (1073741823 : Int32))), .val (.int (p4 &&& (1073741823 : Int32))), .val (.ref b_101), .val (.ref b_103), .val (.ref b_105), .val (.ref b107), .val (.ref b115), .val (.int (own_holds (p1 &&& (1073741823 : Int32)) (p2 &&& (1073741823 : Int32)) (p3 &&& (1073741823 : Int32)) (p4 &&& (1073741823 : Int32)))), .val (.long ((p1 &&& (1073741823 : Int32)).toInt64)), .second, .val (.long (((p1 &&& (1073741823 : Int32)).toInt64) + ((p2 &&& (1073741823 : Int32)).toInt64))), .second, .val (.long ((p3 &&& (1073741823 : Int32)).toInt64)), .second, .val (.long (((p3 &&& (1073741823 : Int32)).toInt64) + ((p4 &&& (1073741823 : Int32)).toInt64))), .second, .val (.int (0 : Int32)), .val (.int (0 : Int32)), .unset] [])) _
        refine XS.iload X130.here hx rfl (hb hby at_163) rfl ?_
        show Steps p.tables e below (T130.setTop (mkF m 165 #[.val (.int p1), .val (.int p2), .val (.int p3), .val (.int p4), .val (.int p5), .val (.int (p1 &&& (1073741823 : Int32))), .val (.int (p2 &&& (1073741823 : Int32))), .val (.int (p3 &&& (1073741823 : Int32))), .val (.int (p4 &&& (1073741823 : Int32))), .val (.ref b_101), .val (.ref b_103), .val (.ref b_105), .val (.ref b107), .val (.ref b115), .val (.int (own_holds (p1 &&& (1073741823 : Int32)) (p2 &&& (1073741823 : Int32)) (p3 &&& (1073741823 : Int32)) (p4 &&& (1073741823 : Int32)))), .val (.long ((p1 &&& (1073741823 : Int32)).toInt64)), .second, .val (.long (((p1 &&& (1073741823 : Int32)).toInt64) + ((p2 &&& (1073741823 : Int32)).toInt64))), .second, .val (.long ((p3 &&& (1073741823 : Int32)).toInt64)), .second, .val (.long (((p3 &&& (1073741823 : Int32)).toInt64) + ((p4 &&& (1073741823 : Int32)).toInt64))), .second, .val (.int (0 : Int32)), .val (.int (0 : Int32)), .unset] [(.int (0 : Int32))])) _
        refine XS.ifYes X130.here hx rfl (pc0 := 165) (pc' := 177) rfl (hb hby at_165) rfl ((if0 _ _).trans (teq (by decide : (0 : Int32) = (0 : Int32))).1) (by decide) (by decide) ?_
        show Steps p.tables e below (T130.setTop (mkF m 177 #[.val (.int p1), .val (.int p2), .val (.int p3), .val (.int p4), .val (.int p5), .val (.int (p1 &&& (1073741823 : Int32))), .val (.int (p2 &&& (1073741823 : Int32))), .val (.int (p3 &&& (1073741823 : Int32))), .val (.int (p4 &&& (1073741823 : Int32))), .val (.ref b_101), .val (.ref b_103), .val (.ref b_105), .val (.ref b107), .val (.ref b115), .val (.int (own_holds (p1 &&& (1073741823 : Int32)) (p2 &&& (1073741823 : Int32)) (p3 &&& (1073741823 : Int32)) (p4 &&& (1073741823 : Int32)))), .val (.long ((p1 &&& (1073741823 : Int32)).toInt64)), .second, .val (.long (((p1 &&& (1073741823 : Int32)).toInt64) + ((p2 &&& (1073741823 : Int32)).toInt64))), .second, .val (.long ((p3 &&& (1073741823 : Int32)).toInt64)), .second, .val (.long (((p3 &&& (1073741823 : Int32)).toInt64) + ((p4 &&& (1073741823 : Int32)).toInt64))), .second, .val (.int (0 : Int32)), .val (.int (0 : Int32)), .unset] [])) _
        refine XS.iconst X130.here hx rfl (hb hby at_177) ?_
        show Steps p.tables e below (T130.setTop (mkF m 178 #[.val (.int p1), .val (.int p2), .val (.int p3), .val (.int p4), .val (.int p5), .val (.int (p1 &&& (1073741823 : Int32))), .val (.int (p2 &&& (1073741823 : Int32))), .val (.int (p3 &&& (1073741823 : Int32))), .val (.int (p4 &&& (1073741823 : Int32))), .val (.ref b_101), .val (.ref b_103), .val (.ref b_105), .val (.ref b107), .val (.ref b115), .val (.int (own_holds (p1 &&& (1073741823 : Int32)) (p2 &&& (1073741823 : Int32)) (p3 &&& (1073741823 : Int32)) (p4 &&& (1073741823 : Int32)))), .val (.long ((p1 &&& (1073741823 : Int32)).toInt64)), .second, .val (.long (((p1 &&& (1073741823 : Int32)).toInt64) + ((p2 &&& (1073741823 : Int32)).toInt64))), .second, .val (.long ((p3 &&& (1073741823 : Int32)).toInt64)), .second, .val (.long (((p3 &&& (1073741823 : Int32)).toInt64) + ((p4 &&& (1073741823 : Int32)).toInt64))), .second, .val (.int (0 : Int32)), .val (.int (0 : Int32)), .unset] [(.int (0 : Int32))])) _
        refine XS.istore X130.here hx rfl (hb hby at_178) rfl (l' := #[.val (.int p1), .val (.int p2), .val (.int p3), .val (.int p4), .val (.int p5), .val (.int (p1 &&& (1073741823 : Int32))), .val (.int (p2 &&& (1073741823 : Int32))), .val (.int (p3 &&& (1073741823 : Int32))), .val (.int (p4 &&& (1073741823 : Int32))), .val (.ref b_101), .val (.ref b_103), .val (.ref b_105), .val (.ref b107), .val (.ref b115), .val (.int (own_holds (p1 &&& (1073741823 : Int32)) (p2 &&& (1073741823 : Int32)) (p3 &&& (1073741823 : Int32)) (p4 &&& (1073741823 : Int32)))), .val (.long ((p1 &&& (1073741823 : Int32)).toInt64)), .second, .val (.long (((p1 &&& (1073741823 : Int32)).toInt64) + ((p2 &&& (1073741823 : Int32)).toInt64))), .second, .val (.long ((p3 &&& (1073741823 : Int32)).toInt64)), .second, .val (.long (((p3 &&& (1073741823 : Int32)).toInt64) + ((p4 &&& (1073741823 : Int32)).toInt64))), .second, .val (.int (0 : Int32)), .val (.int (0 : Int32)), .val (.int (0 : Int32))]) rfl ?_
        show Steps p.tables e below (T130.setTop (mkF m 180 #[.val (.int p1), .val (.int p2), .val (.int p3), .val (.int p4), .val (.int p5), .val (.int (p1 &&& (1073741823 : Int32))), .val (.int (p2 &&& (1073741823 : Int32))), .val (.int (p3 &&& (1073741823 : Int32))), .val (.int (p4 &&& (1073741823 : Int32))), .val (.ref b_101), .val (.ref b_103), .val (.ref b_105), .val (.ref b107), .val (.ref b115), .val (.int (own_holds (p1 &&& (1073741823 : Int32)) (p2 &&& (1073741823 : Int32)) (p3 &&& (1073741823 : Int32)) (p4 &&& (1073741823 : Int32)))), .val (.long ((p1 &&& (1073741823 : Int32)).toInt64)), .second, .val (.long (((p1 &&& (1073741823 : Int32)).toInt64) + ((p2 &&& (1073741823 : Int32)).toInt64))), .second, .val (.long ((p3 &&& (1073741823 : Int32)).toInt64)), .second, .val (.long (((p3 &&& (1073741823 : Int32)).toInt64) + ((p4 &&& (1073741823 : Int32)).toInt64))), .second, .val (.int (0 : Int32)), .val (.int (0 : Int32)), .val (.int (0 : Int32))] [])) _
        refine XS.iload X130.here hx rfl (hb hby at_180) rfl ?_
        show Steps p.tables e below (T130.setTop (mkF m 182 #[.val (.int p1), .val (.int p2), .val (.int p3), .val (.int p4), .val (.int p5), .val (.int (p1 &&& (1073741823 : Int32))), .val (.int (p2 &&& (1073741823 : Int32))), .val (.int (p3 &&& (1073741823 : Int32))), .val (.int (p4 &&& (1073741823 : Int32))), .val (.ref b_101), .val (.ref b_103), .val (.ref b_105), .val (.ref b107), .val (.ref b115), .val (.int (own_holds (p1 &&& (1073741823 : Int32)) (p2 &&& (1073741823 : Int32)) (p3 &&& (1073741823 : Int32)) (p4 &&& (1073741823 : Int32)))), .val (.long ((p1 &&& (1073741823 : Int32)).toInt64)), .second, .val (.long (((p1 &&& (1073741823 : Int32)).toInt64) + ((p2 &&& (1073741823 : Int32)).toInt64))), .second, .val (.long ((p3 &&& (1073741823 : Int32)).toInt64)), .second, .val (.long (((p3 &&& (1073741823 : Int32)).toInt64) + ((p4 &&& (1073741823 : Int32)).toInt64))), .second, .val (.int (0 : Int32)), .val (.int (0 : Int32)), .val (.int (0 : Int32))] [(.int (own_holds (p1 &&& (1073741823 : Int32)) (p2 &&& (1073741823 : Int32)) (p3 &&& (1073741823 : Int32)) (p4 &&& (1073741823 : Int32))))])) _
        refine XS.iload X130.here hx rfl (hb hby at_182) rfl ?_
        show Steps p.tables e below (T130.setTop (mkF m 184 #[.val (.int p1), .val (.int p2), .val (.int p3), .val (.int p4), .val (.int p5), .val (.int (p1 &&& (1073741823 : Int32))), .val (.int (p2 &&& (1073741823 : Int32))), .val (.int (p3 &&& (1073741823 : Int32))), .val (.int (p4 &&& (1073741823 : Int32))), .val (.ref b_101), .val (.ref b_103), .val (.ref b_105), .val (.ref b107), .val (.ref b115), .val (.int (own_holds (p1 &&& (1073741823 : Int32)) (p2 &&& (1073741823 : Int32)) (p3 &&& (1073741823 : Int32)) (p4 &&& (1073741823 : Int32)))), .val (.long ((p1 &&& (1073741823 : Int32)).toInt64)), .second, .val (.long (((p1 &&& (1073741823 : Int32)).toInt64) + ((p2 &&& (1073741823 : Int32)).toInt64))), .second, .val (.long ((p3 &&& (1073741823 : Int32)).toInt64)), .second, .val (.long (((p3 &&& (1073741823 : Int32)).toInt64) + ((p4 &&& (1073741823 : Int32)).toInt64))), .second, .val (.int (0 : Int32)), .val (.int (0 : Int32)), .val (.int (0 : Int32))] [(.int (0 : Int32)), (.int (own_holds (p1 &&& (1073741823 : Int32)) (p2 &&& (1073741823 : Int32)) (p3 &&& (1073741823 : Int32)) (p4 &&& (1073741823 : Int32))))])) _
        refine XS.icmpNo X130.here hx rfl (hb hby at_184) rfl (teq (if_pos (own_s.mp hc132) : (own_holds (p1 &&& (1073741823 : Int32)) (p2 &&& (1073741823 : Int32)) (p3 &&& (1073741823 : Int32)) (p4 &&& (1073741823 : Int32))) = (0 : Int32))).2 ?_
        show Steps p.tables e below (T130.setTop (mkF m 187 #[.val (.int p1), .val (.int p2), .val (.int p3), .val (.int p4), .val (.int p5), .val (.int (p1 &&& (1073741823 : Int32))), .val (.int (p2 &&& (1073741823 : Int32))), .val (.int (p3 &&& (1073741823 : Int32))), .val (.int (p4 &&& (1073741823 : Int32))), .val (.ref b_101), .val (.ref b_103), .val (.ref b_105), .val (.ref b107), .val (.ref b115), .val (.int (own_holds (p1 &&& (1073741823 : Int32)) (p2 &&& (1073741823 : Int32)) (p3 &&& (1073741823 : Int32)) (p4 &&& (1073741823 : Int32)))), .val (.long ((p1 &&& (1073741823 : Int32)).toInt64)), .second, .val (.long (((p1 &&& (1073741823 : Int32)).toInt64) + ((p2 &&& (1073741823 : Int32)).toInt64))), .second, .val (.long ((p3 &&& (1073741823 : Int32)).toInt64)), .second, .val (.long (((p3 &&& (1073741823 : Int32)).toInt64) + ((p4 &&& (1073741823 : Int32)).toInt64))), .second, .val (.int (0 : Int32)), .val (.int (0 : Int32)), .val (.int (0 : Int32))] [])) _
        refine XS.iconst X130.here hx rfl (hb hby at_187) ?_
        show Steps p.tables e below (T130.setTop (mkF m 188 #[.val (.int p1), .val (.int p2), .val (.int p3), .val (.int p4), .val (.int p5), .val (.int (p1 &&& (1073741823 : Int32))), .val (.int (p2 &&& (1073741823 : Int32))), .val (.int (p3 &&& (1073741823 : Int32))), .val (.int (p4 &&& (1073741823 : Int32))), .val (.ref b_101), .val (.ref b_103), .val (.ref b_105), .val (.ref b107), .val (.ref b115), .val (.int (own_holds (p1 &&& (1073741823 : Int32)) (p2 &&& (1073741823 : Int32)) (p3 &&& (1073741823 : Int32)) (p4 &&& (1073741823 : Int32)))), .val (.long ((p1 &&& (1073741823 : Int32)).toInt64)), .second, .val (.long (((p1 &&& (1073741823 : Int32)).toInt64) + ((p2 &&& (1073741823 : Int32)).toInt64))), .second, .val (.long ((p3 &&& (1073741823 : Int32)).toInt64)), .second, .val (.long (((p3 &&& (1073741823 : Int32)).toInt64) + ((p4 &&& (1073741823 : Int32)).toInt64))), .second, .val (.int (0 : Int32)), .val (.int (0 : Int32)), .val (.int (0 : Int32))] [(.int (1 : Int32))])) _
        refine XS.goto X130.here hx rfl (pc0 := 188) (pc' := 192) rfl (hb hby at_188) (by decide) (by decide) ?_
        show Steps p.tables e below (T130.setTop (mkF m 192 #[.val (.int p1), .val (.int p2), .val (.int p3), .val (.int p4), .val (.int p5), .val (.int (p1 &&& (1073741823 : Int32))), .val (.int (p2 &&& (1073741823 : Int32))), .val (.int (p3 &&& (1073741823 : Int32))), .val (.int (p4 &&& (1073741823 : Int32))), .val (.ref b_101), .val (.ref b_103), .val (.ref b_105), .val (.ref b107), .val (.ref b115), .val (.int (own_holds (p1 &&& (1073741823 : Int32)) (p2 &&& (1073741823 : Int32)) (p3 &&& (1073741823 : Int32)) (p4 &&& (1073741823 : Int32)))), .val (.long ((p1 &&& (1073741823 : Int32)).toInt64)), .second, .val (.long (((p1 &&& (1073741823 : Int32)).toInt64) + ((p2 &&& (1073741823 : Int32)).toInt64))), .second, .val (.long ((p3 &&& (1073741823 : Int32)).toInt64)), .second, .val (.long (((p3 &&& (1073741823 : Int32)).toInt64) + ((p4 &&& (1073741823 : Int32)).toInt64))), .second, .val (.int (0 : Int32)), .val (.int (0 : Int32)), .val (.int (0 : Int32))] [(.int (1 : Int32))])) _
        exact retN X130 hx (t := .boolean) Bd.returns (by simp) (hb hby at_192) hr
      · show Q0 Z p1 p2 p3 p4 p5 w h0 n0 _ T130.heap _
        rw [P130_0]
        exact ⟨rfl, N130⟩
    · obtain ⟨fs, hr, hrun, hended, hRW⟩ := Stand.leaveW (s := s) (vm₁ := T124.vm) X130 Sn124 (by rw [P130_0]; exact (Nat.le_refl _)) (v := some (.int (1 : Int32))) (fun h => by rw [Bd.returns] at h; cases h) hlk
      refine ⟨_, _, pre0 _ ?_, hrun, hended, _, _, rfl, ?_, own_rmono hRW (by decide) (by decide)⟩
      · refine pr133 _ ?_
        show Steps p.tables e below (T130.setTop (mkF m 153 #[.val (.int p1), .val (.int p2), .val (.int p3), .val (.int p4), .val (.int p5), .val (.int (p1 &&& (1073741823 : Int32))), .val (.int (p2 &&& (1073741823 : Int32))), .val (.int (p3 &&& (1073741823 : Int32))), .val (.int (p4 &&& (1073741823 : Int32))), .val (.ref b_101), .val (.ref b_103), .val (.ref b_105), .val (.ref b107), .val (.ref b115), .val (.int (own_holds (p1 &&& (1073741823 : Int32)) (p2 &&& (1073741823 : Int32)) (p3 &&& (1073741823 : Int32)) (p4 &&& (1073741823 : Int32)))), .val (.long ((p1 &&& (1073741823 : Int32)).toInt64)), .second, .val (.long (((p1 &&& (1073741823 : Int32)).toInt64) + ((p2 &&& (1073741823 : Int32)).toInt64))), .second, .val (.long ((p3 &&& (1073741823 : Int32)).toInt64)), .second, .val (.long (((p3 &&& (1073741823 : Int32)).toInt64) + ((p4 &&& (1073741823 : Int32)).toInt64))), .second, .val (.int (0 : Int32)), .unset, .unset] [(.int (lcmpW (((p3 &&& (1073741823 : Int32)).toInt64) + ((p4 &&& (1073741823 : Int32)).toInt64)) (((p1 &&& (1073741823 : Int32)).toInt64) + ((p2 &&& (1073741823 : Int32)).toInt64))))])) _
        refine XS.ifNo X130.here hx rfl (hb hby at_153) rfl ((if0 _ _).trans (flt (fun q => hc134 ((lw_gt _ _).mp q))).2.2.1) ?_
        show Steps p.tables e below (T130.setTop (mkF m 156 #[.val (.int p1), .val (.int p2), .val (.int p3), .val (.int p4), .val (.int p5), .val (.int (p1 &&& (1073741823 : Int32))), .val (.int (p2 &&& (1073741823 : Int32))), .val (.int (p3 &&& (1073741823 : Int32))), .val (.int (p4 &&& (1073741823 : Int32))), .val (.ref b_101), .val (.ref b_103), .val (.ref b_105), .val (.ref b107), .val (.ref b115), .val (.int (own_holds (p1 &&& (1073741823 : Int32)) (p2 &&& (1073741823 : Int32)) (p3 &&& (1073741823 : Int32)) (p4 &&& (1073741823 : Int32)))), .val (.long ((p1 &&& (1073741823 : Int32)).toInt64)), .second, .val (.long (((p1 &&& (1073741823 : Int32)).toInt64) + ((p2 &&& (1073741823 : Int32)).toInt64))), .second, .val (.long ((p3 &&& (1073741823 : Int32)).toInt64)), .second, .val (.long (((p3 &&& (1073741823 : Int32)).toInt64) + ((p4 &&& (1073741823 : Int32)).toInt64))), .second, .val (.int (0 : Int32)), .unset, .unset] [])) _
        refine XS.iconst X130.here hx rfl (hb hby at_156) ?_
        show Steps p.tables e below (T130.setTop (mkF m 157 #[.val (.int p1), .val (.int p2), .val (.int p3), .val (.int p4), .val (.int p5), .val (.int (p1 &&& (1073741823 : Int32))), .val (.int (p2 &&& (1073741823 : Int32))), .val (.int (p3 &&& (1073741823 : Int32))), .val (.int (p4 &&& (1073741823 : Int32))), .val (.ref b_101), .val (.ref b_103), .val (.ref b_105), .val (.ref b107), .val (.ref b115), .val (.int (own_holds (p1 &&& (1073741823 : Int32)) (p2 &&& (1073741823 : Int32)) (p3 &&& (1073741823 : Int32)) (p4 &&& (1073741823 : Int32)))), .val (.long ((p1 &&& (1073741823 : Int32)).toInt64)), .second, .val (.long (((p1 &&& (1073741823 : Int32)).toInt64) + ((p2 &&& (1073741823 : Int32)).toInt64))), .second, .val (.long ((p3 &&& (1073741823 : Int32)).toInt64)), .second, .val (.long (((p3 &&& (1073741823 : Int32)).toInt64) + ((p4 &&& (1073741823 : Int32)).toInt64))), .second, .val (.int (0 : Int32)), .unset, .unset] [(.int (1 : Int32))])) _
        refine XS.goto X130.here hx rfl (pc0 := 157) (pc' := 161) rfl (hb hby at_157) (by decide) (by decide) ?_
        show Steps p.tables e below (T130.setTop (mkF m 161 #[.val (.int p1), .val (.int p2), .val (.int p3), .val (.int p4), .val (.int p5), .val (.int (p1 &&& (1073741823 : Int32))), .val (.int (p2 &&& (1073741823 : Int32))), .val (.int (p3 &&& (1073741823 : Int32))), .val (.int (p4 &&& (1073741823 : Int32))), .val (.ref b_101), .val (.ref b_103), .val (.ref b_105), .val (.ref b107), .val (.ref b115), .val (.int (own_holds (p1 &&& (1073741823 : Int32)) (p2 &&& (1073741823 : Int32)) (p3 &&& (1073741823 : Int32)) (p4 &&& (1073741823 : Int32)))), .val (.long ((p1 &&& (1073741823 : Int32)).toInt64)), .second, .val (.long (((p1 &&& (1073741823 : Int32)).toInt64) + ((p2 &&& (1073741823 : Int32)).toInt64))), .second, .val (.long ((p3 &&& (1073741823 : Int32)).toInt64)), .second, .val (.long (((p3 &&& (1073741823 : Int32)).toInt64) + ((p4 &&& (1073741823 : Int32)).toInt64))), .second, .val (.int (0 : Int32)), .unset, .unset] [(.int (1 : Int32))])) _
        refine XS.istore X130.here hx rfl (hb hby at_161) rfl (l' := #[.val (.int p1), .val (.int p2), .val (.int p3), .val (.int p4), .val (.int p5), .val (.int (p1 &&& (1073741823 : Int32))), .val (.int (p2 &&& (1073741823 : Int32))), .val (.int (p3 &&& (1073741823 : Int32))), .val (.int (p4 &&& (1073741823 : Int32))), .val (.ref b_101), .val (.ref b_103), .val (.ref b_105), .val (.ref b107), .val (.ref b115), .val (.int (own_holds (p1 &&& (1073741823 : Int32)) (p2 &&& (1073741823 : Int32)) (p3 &&& (1073741823 : Int32)) (p4 &&& (1073741823 : Int32)))), .val (.long ((p1 &&& (1073741823 : Int32)).toInt64)), .second, .val (.long (((p1 &&& (1073741823 : Int32)).toInt64) + ((p2 &&& (1073741823 : Int32)).toInt64))), .second, .val (.long ((p3 &&& (1073741823 : Int32)).toInt64)), .second, .val (.long (((p3 &&& (1073741823 : Int32)).toInt64) + ((p4 &&& (1073741823 : Int32)).toInt64))), .second, .val (.int (0 : Int32)), .val (.int (1 : Int32)), .unset]) rfl ?_
        show Steps p.tables e below (T130.setTop (mkF m 163 #[.val (.int p1), .val (.int p2), .val (.int p3), .val (.int p4), .val (.int p5), .val (.int (p1 &&& (1073741823 : Int32))), .val (.int (p2 &&& (1073741823 : Int32))), .val (.int (p3 &&& (1073741823 : Int32))), .val (.int (p4 &&& (1073741823 : Int32))), .val (.ref b_101), .val (.ref b_103), .val (.ref b_105), .val (.ref b107), .val (.ref b115), .val (.int (own_holds (p1 &&& (1073741823 : Int32)) (p2 &&& (1073741823 : Int32)) (p3 &&& (1073741823 : Int32)) (p4 &&& (1073741823 : Int32)))), .val (.long ((p1 &&& (1073741823 : Int32)).toInt64)), .second, .val (.long (((p1 &&& (1073741823 : Int32)).toInt64) + ((p2 &&& (1073741823 : Int32)).toInt64))), .second, .val (.long ((p3 &&& (1073741823 : Int32)).toInt64)), .second, .val (.long (((p3 &&& (1073741823 : Int32)).toInt64) + ((p4 &&& (1073741823 : Int32)).toInt64))), .second, .val (.int (0 : Int32)), .val (.int (1 : Int32)), .unset] [])) _
        refine XS.iload X130.here hx rfl (hb hby at_163) rfl ?_
        show Steps p.tables e below (T130.setTop (mkF m 165 #[.val (.int p1), .val (.int p2), .val (.int p3), .val (.int p4), .val (.int p5), .val (.int (p1 &&& (1073741823 : Int32))), .val (.int (p2 &&& (1073741823 : Int32))), .val (.int (p3 &&& (1073741823 : Int32))), .val (.int (p4 &&& (1073741823 : Int32))), .val (.ref b_101), .val (.ref b_103), .val (.ref b_105), .val (.ref b107), .val (.ref b115), .val (.int (own_holds (p1 &&& (1073741823 : Int32)) (p2 &&& (1073741823 : Int32)) (p3 &&& (1073741823 : Int32)) (p4 &&& (1073741823 : Int32)))), .val (.long ((p1 &&& (1073741823 : Int32)).toInt64)), .second, .val (.long (((p1 &&& (1073741823 : Int32)).toInt64) + ((p2 &&& (1073741823 : Int32)).toInt64))), .second, .val (.long ((p3 &&& (1073741823 : Int32)).toInt64)), .second, .val (.long (((p3 &&& (1073741823 : Int32)).toInt64) + ((p4 &&& (1073741823 : Int32)).toInt64))), .second, .val (.int (0 : Int32)), .val (.int (1 : Int32)), .unset] [(.int (0 : Int32))])) _
        refine XS.ifYes X130.here hx rfl (pc0 := 165) (pc' := 177) rfl (hb hby at_165) rfl ((if0 _ _).trans (teq (by decide : (0 : Int32) = (0 : Int32))).1) (by decide) (by decide) ?_
        show Steps p.tables e below (T130.setTop (mkF m 177 #[.val (.int p1), .val (.int p2), .val (.int p3), .val (.int p4), .val (.int p5), .val (.int (p1 &&& (1073741823 : Int32))), .val (.int (p2 &&& (1073741823 : Int32))), .val (.int (p3 &&& (1073741823 : Int32))), .val (.int (p4 &&& (1073741823 : Int32))), .val (.ref b_101), .val (.ref b_103), .val (.ref b_105), .val (.ref b107), .val (.ref b115), .val (.int (own_holds (p1 &&& (1073741823 : Int32)) (p2 &&& (1073741823 : Int32)) (p3 &&& (1073741823 : Int32)) (p4 &&& (1073741823 : Int32)))), .val (.long ((p1 &&& (1073741823 : Int32)).toInt64)), .second, .val (.long (((p1 &&& (1073741823 : Int32)).toInt64) + ((p2 &&& (1073741823 : Int32)).toInt64))), .second, .val (.long ((p3 &&& (1073741823 : Int32)).toInt64)), .second, .val (.long (((p3 &&& (1073741823 : Int32)).toInt64) + ((p4 &&& (1073741823 : Int32)).toInt64))), .second, .val (.int (0 : Int32)), .val (.int (1 : Int32)), .unset] [])) _
        refine XS.iconst X130.here hx rfl (hb hby at_177) ?_
        show Steps p.tables e below (T130.setTop (mkF m 178 #[.val (.int p1), .val (.int p2), .val (.int p3), .val (.int p4), .val (.int p5), .val (.int (p1 &&& (1073741823 : Int32))), .val (.int (p2 &&& (1073741823 : Int32))), .val (.int (p3 &&& (1073741823 : Int32))), .val (.int (p4 &&& (1073741823 : Int32))), .val (.ref b_101), .val (.ref b_103), .val (.ref b_105), .val (.ref b107), .val (.ref b115), .val (.int (own_holds (p1 &&& (1073741823 : Int32)) (p2 &&& (1073741823 : Int32)) (p3 &&& (1073741823 : Int32)) (p4 &&& (1073741823 : Int32)))), .val (.long ((p1 &&& (1073741823 : Int32)).toInt64)), .second, .val (.long (((p1 &&& (1073741823 : Int32)).toInt64) + ((p2 &&& (1073741823 : Int32)).toInt64))), .second, .val (.long ((p3 &&& (1073741823 : Int32)).toInt64)), .second, .val (.long (((p3 &&& (1073741823 : Int32)).toInt64) + ((p4 &&& (1073741823 : Int32)).toInt64))), .second, .val (.int (0 : Int32)), .val (.int (1 : Int32)), .unset] [(.int (0 : Int32))])) _
        refine XS.istore X130.here hx rfl (hb hby at_178) rfl (l' := #[.val (.int p1), .val (.int p2), .val (.int p3), .val (.int p4), .val (.int p5), .val (.int (p1 &&& (1073741823 : Int32))), .val (.int (p2 &&& (1073741823 : Int32))), .val (.int (p3 &&& (1073741823 : Int32))), .val (.int (p4 &&& (1073741823 : Int32))), .val (.ref b_101), .val (.ref b_103), .val (.ref b_105), .val (.ref b107), .val (.ref b115), .val (.int (own_holds (p1 &&& (1073741823 : Int32)) (p2 &&& (1073741823 : Int32)) (p3 &&& (1073741823 : Int32)) (p4 &&& (1073741823 : Int32)))), .val (.long ((p1 &&& (1073741823 : Int32)).toInt64)), .second, .val (.long (((p1 &&& (1073741823 : Int32)).toInt64) + ((p2 &&& (1073741823 : Int32)).toInt64))), .second, .val (.long ((p3 &&& (1073741823 : Int32)).toInt64)), .second, .val (.long (((p3 &&& (1073741823 : Int32)).toInt64) + ((p4 &&& (1073741823 : Int32)).toInt64))), .second, .val (.int (0 : Int32)), .val (.int (1 : Int32)), .val (.int (0 : Int32))]) rfl ?_
        show Steps p.tables e below (T130.setTop (mkF m 180 #[.val (.int p1), .val (.int p2), .val (.int p3), .val (.int p4), .val (.int p5), .val (.int (p1 &&& (1073741823 : Int32))), .val (.int (p2 &&& (1073741823 : Int32))), .val (.int (p3 &&& (1073741823 : Int32))), .val (.int (p4 &&& (1073741823 : Int32))), .val (.ref b_101), .val (.ref b_103), .val (.ref b_105), .val (.ref b107), .val (.ref b115), .val (.int (own_holds (p1 &&& (1073741823 : Int32)) (p2 &&& (1073741823 : Int32)) (p3 &&& (1073741823 : Int32)) (p4 &&& (1073741823 : Int32)))), .val (.long ((p1 &&& (1073741823 : Int32)).toInt64)), .second, .val (.long (((p1 &&& (1073741823 : Int32)).toInt64) + ((p2 &&& (1073741823 : Int32)).toInt64))), .second, .val (.long ((p3 &&& (1073741823 : Int32)).toInt64)), .second, .val (.long (((p3 &&& (1073741823 : Int32)).toInt64) + ((p4 &&& (1073741823 : Int32)).toInt64))), .second, .val (.int (0 : Int32)), .val (.int (1 : Int32)), .val (.int (0 : Int32))] [])) _
        refine XS.iload X130.here hx rfl (hb hby at_180) rfl ?_
        show Steps p.tables e below (T130.setTop (mkF m 182 #[.val (.int p1), .val (.int p2), .val (.int p3), .val (.int p4), .val (.int p5), .val (.int (p1 &&& (1073741823 : Int32))), .val (.int (p2 &&& (1073741823 : Int32))), .val (.int (p3 &&& (1073741823 : Int32))), .val (.int (p4 &&& (1073741823 : Int32))), .val (.ref b_101), .val (.ref b_103), .val (.ref b_105), .val (.ref b107), .val (.ref b115), .val (.int (own_holds (p1 &&& (1073741823 : Int32)) (p2 &&& (1073741823 : Int32)) (p3 &&& (1073741823 : Int32)) (p4 &&& (1073741823 : Int32)))), .val (.long ((p1 &&& (1073741823 : Int32)).toInt64)), .second, .val (.long (((p1 &&& (1073741823 : Int32)).toInt64) + ((p2 &&& (1073741823 : Int32)).toInt64))), .second, .val (.long ((p3 &&& (1073741823 : Int32)).toInt64)), .second, .val (.long (((p3 &&& (1073741823 : Int32)).toInt64) + ((p4 &&& (1073741823 : Int32)).toInt64))), .second, .val (.int (0 : Int32)), .val (.int (1 : Int32)), .val (.int (0 : Int32))] [(.int (own_holds (p1 &&& (1073741823 : Int32)) (p2 &&& (1073741823 : Int32)) (p3 &&& (1073741823 : Int32)) (p4 &&& (1073741823 : Int32))))])) _
        refine XS.iload X130.here hx rfl (hb hby at_182) rfl ?_
        show Steps p.tables e below (T130.setTop (mkF m 184 #[.val (.int p1), .val (.int p2), .val (.int p3), .val (.int p4), .val (.int p5), .val (.int (p1 &&& (1073741823 : Int32))), .val (.int (p2 &&& (1073741823 : Int32))), .val (.int (p3 &&& (1073741823 : Int32))), .val (.int (p4 &&& (1073741823 : Int32))), .val (.ref b_101), .val (.ref b_103), .val (.ref b_105), .val (.ref b107), .val (.ref b115), .val (.int (own_holds (p1 &&& (1073741823 : Int32)) (p2 &&& (1073741823 : Int32)) (p3 &&& (1073741823 : Int32)) (p4 &&& (1073741823 : Int32)))), .val (.long ((p1 &&& (1073741823 : Int32)).toInt64)), .second, .val (.long (((p1 &&& (1073741823 : Int32)).toInt64) + ((p2 &&& (1073741823 : Int32)).toInt64))), .second, .val (.long ((p3 &&& (1073741823 : Int32)).toInt64)), .second, .val (.long (((p3 &&& (1073741823 : Int32)).toInt64) + ((p4 &&& (1073741823 : Int32)).toInt64))), .second, .val (.int (0 : Int32)), .val (.int (1 : Int32)), .val (.int (0 : Int32))] [(.int (0 : Int32)), (.int (own_holds (p1 &&& (1073741823 : Int32)) (p2 &&& (1073741823 : Int32)) (p3 &&& (1073741823 : Int32)) (p4 &&& (1073741823 : Int32))))])) _
        refine XS.icmpNo X130.here hx rfl (hb hby at_184) rfl (teq (if_pos (own_s.mp hc132) : (own_holds (p1 &&& (1073741823 : Int32)) (p2 &&& (1073741823 : Int32)) (p3 &&& (1073741823 : Int32)) (p4 &&& (1073741823 : Int32))) = (0 : Int32))).2 ?_
        show Steps p.tables e below (T130.setTop (mkF m 187 #[.val (.int p1), .val (.int p2), .val (.int p3), .val (.int p4), .val (.int p5), .val (.int (p1 &&& (1073741823 : Int32))), .val (.int (p2 &&& (1073741823 : Int32))), .val (.int (p3 &&& (1073741823 : Int32))), .val (.int (p4 &&& (1073741823 : Int32))), .val (.ref b_101), .val (.ref b_103), .val (.ref b_105), .val (.ref b107), .val (.ref b115), .val (.int (own_holds (p1 &&& (1073741823 : Int32)) (p2 &&& (1073741823 : Int32)) (p3 &&& (1073741823 : Int32)) (p4 &&& (1073741823 : Int32)))), .val (.long ((p1 &&& (1073741823 : Int32)).toInt64)), .second, .val (.long (((p1 &&& (1073741823 : Int32)).toInt64) + ((p2 &&& (1073741823 : Int32)).toInt64))), .second, .val (.long ((p3 &&& (1073741823 : Int32)).toInt64)), .second, .val (.long (((p3 &&& (1073741823 : Int32)).toInt64) + ((p4 &&& (1073741823 : Int32)).toInt64))), .second, .val (.int (0 : Int32)), .val (.int (1 : Int32)), .val (.int (0 : Int32))] [])) _
        refine XS.iconst X130.here hx rfl (hb hby at_187) ?_
        show Steps p.tables e below (T130.setTop (mkF m 188 #[.val (.int p1), .val (.int p2), .val (.int p3), .val (.int p4), .val (.int p5), .val (.int (p1 &&& (1073741823 : Int32))), .val (.int (p2 &&& (1073741823 : Int32))), .val (.int (p3 &&& (1073741823 : Int32))), .val (.int (p4 &&& (1073741823 : Int32))), .val (.ref b_101), .val (.ref b_103), .val (.ref b_105), .val (.ref b107), .val (.ref b115), .val (.int (own_holds (p1 &&& (1073741823 : Int32)) (p2 &&& (1073741823 : Int32)) (p3 &&& (1073741823 : Int32)) (p4 &&& (1073741823 : Int32)))), .val (.long ((p1 &&& (1073741823 : Int32)).toInt64)), .second, .val (.long (((p1 &&& (1073741823 : Int32)).toInt64) + ((p2 &&& (1073741823 : Int32)).toInt64))), .second, .val (.long ((p3 &&& (1073741823 : Int32)).toInt64)), .second, .val (.long (((p3 &&& (1073741823 : Int32)).toInt64) + ((p4 &&& (1073741823 : Int32)).toInt64))), .second, .val (.int (0 : Int32)), .val (.int (1 : Int32)), .val (.int (0 : Int32))] [(.int (1 : Int32))])) _
        refine XS.goto X130.here hx rfl (pc0 := 188) (pc' := 192) rfl (hb hby at_188) (by decide) (by decide) ?_
        show Steps p.tables e below (T130.setTop (mkF m 192 #[.val (.int p1), .val (.int p2), .val (.int p3), .val (.int p4), .val (.int p5), .val (.int (p1 &&& (1073741823 : Int32))), .val (.int (p2 &&& (1073741823 : Int32))), .val (.int (p3 &&& (1073741823 : Int32))), .val (.int (p4 &&& (1073741823 : Int32))), .val (.ref b_101), .val (.ref b_103), .val (.ref b_105), .val (.ref b107), .val (.ref b115), .val (.int (own_holds (p1 &&& (1073741823 : Int32)) (p2 &&& (1073741823 : Int32)) (p3 &&& (1073741823 : Int32)) (p4 &&& (1073741823 : Int32)))), .val (.long ((p1 &&& (1073741823 : Int32)).toInt64)), .second, .val (.long (((p1 &&& (1073741823 : Int32)).toInt64) + ((p2 &&& (1073741823 : Int32)).toInt64))), .second, .val (.long ((p3 &&& (1073741823 : Int32)).toInt64)), .second, .val (.long (((p3 &&& (1073741823 : Int32)).toInt64) + ((p4 &&& (1073741823 : Int32)).toInt64))), .second, .val (.int (0 : Int32)), .val (.int (1 : Int32)), .val (.int (0 : Int32))] [(.int (1 : Int32))])) _
        exact retN X130 hx (t := .boolean) Bd.returns (by simp) (hb hby at_192) hr
      · show Q0 Z p1 p2 p3 p4 p5 w h0 n0 _ T130.heap _
        rw [P130_0]
        exact ⟨rfl, N130⟩
  · have pr135 : ∀ t, Steps p.tables e below (T130.setTop (mkF m 153 #[.val (.int p1), .val (.int p2), .val (.int p3), .val (.int p4), .val (.int p5), .val (.int (p1 &&& (1073741823 : Int32))), .val (.int (p2 &&& (1073741823 : Int32))), .val (.int (p3 &&& (1073741823 : Int32))), .val (.int (p4 &&& (1073741823 : Int32))), .val (.ref b_101), .val (.ref b_103), .val (.ref b_105), .val (.ref b107), .val (.ref b115), .val (.int (own_holds (p1 &&& (1073741823 : Int32)) (p2 &&& (1073741823 : Int32)) (p3 &&& (1073741823 : Int32)) (p4 &&& (1073741823 : Int32)))), .val (.long ((p1 &&& (1073741823 : Int32)).toInt64)), .second, .val (.long (((p1 &&& (1073741823 : Int32)).toInt64) + ((p2 &&& (1073741823 : Int32)).toInt64))), .second, .val (.long ((p3 &&& (1073741823 : Int32)).toInt64)), .second, .val (.long (((p3 &&& (1073741823 : Int32)).toInt64) + ((p4 &&& (1073741823 : Int32)).toInt64))), .second, .val (.int (1 : Int32)), .unset, .unset] [(.int (lcmpW (((p3 &&& (1073741823 : Int32)).toInt64) + ((p4 &&& (1073741823 : Int32)).toInt64)) (((p1 &&& (1073741823 : Int32)).toInt64) + ((p2 &&& (1073741823 : Int32)).toInt64))))])) t → Steps p.tables e below (s₁.setTop (mkF m 0 #[.val (.int p1), .val (.int p2), .val (.int p3), .val (.int p4), .val (.int p5), .unset, .unset, .unset, .unset, .unset, .unset, .unset, .unset, .unset, .unset, .unset, .unset, .unset, .unset, .unset, .unset, .unset, .unset, .unset, .unset, .unset] [])) t := fun t kt => by
      refine pr131 _ ?_
      show Steps p.tables e below (T130.setTop (mkF m 138 #[.val (.int p1), .val (.int p2), .val (.int p3), .val (.int p4), .val (.int p5), .val (.int (p1 &&& (1073741823 : Int32))), .val (.int (p2 &&& (1073741823 : Int32))), .val (.int (p3 &&& (1073741823 : Int32))), .val (.int (p4 &&& (1073741823 : Int32))), .val (.ref b_101), .val (.ref b_103), .val (.ref b_105), .val (.ref b107), .val (.ref b115), .val (.int (own_holds (p1 &&& (1073741823 : Int32)) (p2 &&& (1073741823 : Int32)) (p3 &&& (1073741823 : Int32)) (p4 &&& (1073741823 : Int32)))), .val (.long ((p1 &&& (1073741823 : Int32)).toInt64)), .second, .val (.long (((p1 &&& (1073741823 : Int32)).toInt64) + ((p2 &&& (1073741823 : Int32)).toInt64))), .second, .val (.long ((p3 &&& (1073741823 : Int32)).toInt64)), .second, .val (.long (((p3 &&& (1073741823 : Int32)).toInt64) + ((p4 &&& (1073741823 : Int32)).toInt64))), .second, .unset, .unset, .unset] [(.int (lcmpW ((p3 &&& (1073741823 : Int32)).toInt64) ((p1 &&& (1073741823 : Int32)).toInt64)))])) _
      refine XS.ifNo X130.here hx rfl (hb hby at_138) rfl ((if0 _ _).trans (flt (fun q => hc132 ((lw_lt _ _).mp q))).1) ?_
      show Steps p.tables e below (T130.setTop (mkF m 141 #[.val (.int p1), .val (.int p2), .val (.int p3), .val (.int p4), .val (.int p5), .val (.int (p1 &&& (1073741823 : Int32))), .val (.int (p2 &&& (1073741823 : Int32))), .val (.int (p3 &&& (1073741823 : Int32))), .val (.int (p4 &&& (1073741823 : Int32))), .val (.ref b_101), .val (.ref b_103), .val (.ref b_105), .val (.ref b107), .val (.ref b115), .val (.int (own_holds (p1 &&& (1073741823 : Int32)) (p2 &&& (1073741823 : Int32)) (p3 &&& (1073741823 : Int32)) (p4 &&& (1073741823 : Int32)))), .val (.long ((p1 &&& (1073741823 : Int32)).toInt64)), .second, .val (.long (((p1 &&& (1073741823 : Int32)).toInt64) + ((p2 &&& (1073741823 : Int32)).toInt64))), .second, .val (.long ((p3 &&& (1073741823 : Int32)).toInt64)), .second, .val (.long (((p3 &&& (1073741823 : Int32)).toInt64) + ((p4 &&& (1073741823 : Int32)).toInt64))), .second, .unset, .unset, .unset] [])) _
      refine XS.iconst X130.here hx rfl (hb hby at_141) ?_
      show Steps p.tables e below (T130.setTop (mkF m 142 #[.val (.int p1), .val (.int p2), .val (.int p3), .val (.int p4), .val (.int p5), .val (.int (p1 &&& (1073741823 : Int32))), .val (.int (p2 &&& (1073741823 : Int32))), .val (.int (p3 &&& (1073741823 : Int32))), .val (.int (p4 &&& (1073741823 : Int32))), .val (.ref b_101), .val (.ref b_103), .val (.ref b_105), .val (.ref b107), .val (.ref b115), .val (.int (own_holds (p1 &&& (1073741823 : Int32)) (p2 &&& (1073741823 : Int32)) (p3 &&& (1073741823 : Int32)) (p4 &&& (1073741823 : Int32)))), .val (.long ((p1 &&& (1073741823 : Int32)).toInt64)), .second, .val (.long (((p1 &&& (1073741823 : Int32)).toInt64) + ((p2 &&& (1073741823 : Int32)).toInt64))), .second, .val (.long ((p3 &&& (1073741823 : Int32)).toInt64)), .second, .val (.long (((p3 &&& (1073741823 : Int32)).toInt64) + ((p4 &&& (1073741823 : Int32)).toInt64))), .second, .unset, .unset, .unset] [(.int (1 : Int32))])) _
      refine XS.goto X130.here hx rfl (pc0 := 142) (pc' := 146) rfl (hb hby at_142) (by decide) (by decide) ?_
      show Steps p.tables e below (T130.setTop (mkF m 146 #[.val (.int p1), .val (.int p2), .val (.int p3), .val (.int p4), .val (.int p5), .val (.int (p1 &&& (1073741823 : Int32))), .val (.int (p2 &&& (1073741823 : Int32))), .val (.int (p3 &&& (1073741823 : Int32))), .val (.int (p4 &&& (1073741823 : Int32))), .val (.ref b_101), .val (.ref b_103), .val (.ref b_105), .val (.ref b107), .val (.ref b115), .val (.int (own_holds (p1 &&& (1073741823 : Int32)) (p2 &&& (1073741823 : Int32)) (p3 &&& (1073741823 : Int32)) (p4 &&& (1073741823 : Int32)))), .val (.long ((p1 &&& (1073741823 : Int32)).toInt64)), .second, .val (.long (((p1 &&& (1073741823 : Int32)).toInt64) + ((p2 &&& (1073741823 : Int32)).toInt64))), .second, .val (.long ((p3 &&& (1073741823 : Int32)).toInt64)), .second, .val (.long (((p3 &&& (1073741823 : Int32)).toInt64) + ((p4 &&& (1073741823 : Int32)).toInt64))), .second, .unset, .unset, .unset] [(.int (1 : Int32))])) _
      refine XS.istore X130.here hx rfl (hb hby at_146) rfl (l' := #[.val (.int p1), .val (.int p2), .val (.int p3), .val (.int p4), .val (.int p5), .val (.int (p1 &&& (1073741823 : Int32))), .val (.int (p2 &&& (1073741823 : Int32))), .val (.int (p3 &&& (1073741823 : Int32))), .val (.int (p4 &&& (1073741823 : Int32))), .val (.ref b_101), .val (.ref b_103), .val (.ref b_105), .val (.ref b107), .val (.ref b115), .val (.int (own_holds (p1 &&& (1073741823 : Int32)) (p2 &&& (1073741823 : Int32)) (p3 &&& (1073741823 : Int32)) (p4 &&& (1073741823 : Int32)))), .val (.long ((p1 &&& (1073741823 : Int32)).toInt64)), .second, .val (.long (((p1 &&& (1073741823 : Int32)).toInt64) + ((p2 &&& (1073741823 : Int32)).toInt64))), .second, .val (.long ((p3 &&& (1073741823 : Int32)).toInt64)), .second, .val (.long (((p3 &&& (1073741823 : Int32)).toInt64) + ((p4 &&& (1073741823 : Int32)).toInt64))), .second, .val (.int (1 : Int32)), .unset, .unset]) rfl ?_
      show Steps p.tables e below (T130.setTop (mkF m 148 #[.val (.int p1), .val (.int p2), .val (.int p3), .val (.int p4), .val (.int p5), .val (.int (p1 &&& (1073741823 : Int32))), .val (.int (p2 &&& (1073741823 : Int32))), .val (.int (p3 &&& (1073741823 : Int32))), .val (.int (p4 &&& (1073741823 : Int32))), .val (.ref b_101), .val (.ref b_103), .val (.ref b_105), .val (.ref b107), .val (.ref b115), .val (.int (own_holds (p1 &&& (1073741823 : Int32)) (p2 &&& (1073741823 : Int32)) (p3 &&& (1073741823 : Int32)) (p4 &&& (1073741823 : Int32)))), .val (.long ((p1 &&& (1073741823 : Int32)).toInt64)), .second, .val (.long (((p1 &&& (1073741823 : Int32)).toInt64) + ((p2 &&& (1073741823 : Int32)).toInt64))), .second, .val (.long ((p3 &&& (1073741823 : Int32)).toInt64)), .second, .val (.long (((p3 &&& (1073741823 : Int32)).toInt64) + ((p4 &&& (1073741823 : Int32)).toInt64))), .second, .val (.int (1 : Int32)), .unset, .unset] [])) _
      refine XS.lload X130.here hx rfl (hb hby at_148) rfl ?_
      show Steps p.tables e below (T130.setTop (mkF m 150 #[.val (.int p1), .val (.int p2), .val (.int p3), .val (.int p4), .val (.int p5), .val (.int (p1 &&& (1073741823 : Int32))), .val (.int (p2 &&& (1073741823 : Int32))), .val (.int (p3 &&& (1073741823 : Int32))), .val (.int (p4 &&& (1073741823 : Int32))), .val (.ref b_101), .val (.ref b_103), .val (.ref b_105), .val (.ref b107), .val (.ref b115), .val (.int (own_holds (p1 &&& (1073741823 : Int32)) (p2 &&& (1073741823 : Int32)) (p3 &&& (1073741823 : Int32)) (p4 &&& (1073741823 : Int32)))), .val (.long ((p1 &&& (1073741823 : Int32)).toInt64)), .second, .val (.long (((p1 &&& (1073741823 : Int32)).toInt64) + ((p2 &&& (1073741823 : Int32)).toInt64))), .second, .val (.long ((p3 &&& (1073741823 : Int32)).toInt64)), .second, .val (.long (((p3 &&& (1073741823 : Int32)).toInt64) + ((p4 &&& (1073741823 : Int32)).toInt64))), .second, .val (.int (1 : Int32)), .unset, .unset] [(.long (((p3 &&& (1073741823 : Int32)).toInt64) + ((p4 &&& (1073741823 : Int32)).toInt64)))])) _
      refine XS.lload X130.here hx rfl (hb hby at_150) rfl ?_
      show Steps p.tables e below (T130.setTop (mkF m 152 #[.val (.int p1), .val (.int p2), .val (.int p3), .val (.int p4), .val (.int p5), .val (.int (p1 &&& (1073741823 : Int32))), .val (.int (p2 &&& (1073741823 : Int32))), .val (.int (p3 &&& (1073741823 : Int32))), .val (.int (p4 &&& (1073741823 : Int32))), .val (.ref b_101), .val (.ref b_103), .val (.ref b_105), .val (.ref b107), .val (.ref b115), .val (.int (own_holds (p1 &&& (1073741823 : Int32)) (p2 &&& (1073741823 : Int32)) (p3 &&& (1073741823 : Int32)) (p4 &&& (1073741823 : Int32)))), .val (.long ((p1 &&& (1073741823 : Int32)).toInt64)), .second, .val (.long (((p1 &&& (1073741823 : Int32)).toInt64) + ((p2 &&& (1073741823 : Int32)).toInt64))), .second, .val (.long ((p3 &&& (1073741823 : Int32)).toInt64)), .second, .val (.long (((p3 &&& (1073741823 : Int32)).toInt64) + ((p4 &&& (1073741823 : Int32)).toInt64))), .second, .val (.int (1 : Int32)), .unset, .unset] [(.long (((p1 &&& (1073741823 : Int32)).toInt64) + ((p2 &&& (1073741823 : Int32)).toInt64))), (.long (((p3 &&& (1073741823 : Int32)).toInt64) + ((p4 &&& (1073741823 : Int32)).toInt64)))])) _
      refine XS.lcmp X130.here hx rfl (hb hby at_152) rfl ?_
      exact kt
    by_cases hc136 : (((p1 &&& (1073741823 : Int32)).toInt64) + ((p2 &&& (1073741823 : Int32)).toInt64)) < (((p3 &&& (1073741823 : Int32)).toInt64) + ((p4 &&& (1073741823 : Int32)).toInt64))
    · obtain ⟨fs, hr, hrun, hended, hRW⟩ := Stand.leaveW (s := s) (vm₁ := T124.vm) X130 Sn124 (by rw [P130_0]; exact (Nat.le_refl _)) (v := some (.int (1 : Int32))) (fun h => by rw [Bd.returns] at h; cases h) hlk
      refine ⟨_, _, pre0 _ ?_, hrun, hended, _, _, rfl, ?_, own_rmono hRW (by decide) (by decide)⟩
      · refine pr135 _ ?_
        show Steps p.tables e below (T130.setTop (mkF m 153 #[.val (.int p1), .val (.int p2), .val (.int p3), .val (.int p4), .val (.int p5), .val (.int (p1 &&& (1073741823 : Int32))), .val (.int (p2 &&& (1073741823 : Int32))), .val (.int (p3 &&& (1073741823 : Int32))), .val (.int (p4 &&& (1073741823 : Int32))), .val (.ref b_101), .val (.ref b_103), .val (.ref b_105), .val (.ref b107), .val (.ref b115), .val (.int (own_holds (p1 &&& (1073741823 : Int32)) (p2 &&& (1073741823 : Int32)) (p3 &&& (1073741823 : Int32)) (p4 &&& (1073741823 : Int32)))), .val (.long ((p1 &&& (1073741823 : Int32)).toInt64)), .second, .val (.long (((p1 &&& (1073741823 : Int32)).toInt64) + ((p2 &&& (1073741823 : Int32)).toInt64))), .second, .val (.long ((p3 &&& (1073741823 : Int32)).toInt64)), .second, .val (.long (((p3 &&& (1073741823 : Int32)).toInt64) + ((p4 &&& (1073741823 : Int32)).toInt64))), .second, .val (.int (1 : Int32)), .unset, .unset] [(.int (lcmpW (((p3 &&& (1073741823 : Int32)).toInt64) + ((p4 &&& (1073741823 : Int32)).toInt64)) (((p1 &&& (1073741823 : Int32)).toInt64) + ((p2 &&& (1073741823 : Int32)).toInt64))))])) _
        refine XS.ifYes X130.here hx rfl (pc0 := 153) (pc' := 160) rfl (hb hby at_153) rfl ((if0 _ _).trans (tlt ((lw_gt _ _).mpr hc136)).2.2.1) (by decide) (by decide) ?_
        show Steps p.tables e below (T130.setTop (mkF m 160 #[.val (.int p1), .val (.int p2), .val (.int p3), .val (.int p4), .val (.int p5), .val (.int (p1 &&& (1073741823 : Int32))), .val (.int (p2 &&& (1073741823 : Int32))), .val (.int (p3 &&& (1073741823 : Int32))), .val (.int (p4 &&& (1073741823 : Int32))), .val (.ref b_101), .val (.ref b_103), .val (.ref b_105), .val (.ref b107), .val (.ref b115), .val (.int (own_holds (p1 &&& (1073741823 : Int32)) (p2 &&& (1073741823 : Int32)) (p3 &&& (1073741823 : Int32)) (p4 &&& (1073741823 : Int32)))), .val (.long ((p1 &&& (1073741823 : Int32)).toInt64)), .second, .val (.long (((p1 &&& (1073741823 : Int32)).toInt64) + ((p2 &&& (1073741823 : Int32)).toInt64))), .second, .val (.long ((p3 &&& (1073741823 : Int32)).toInt64)), .second, .val (.long (((p3 &&& (1073741823 : Int32)).toInt64) + ((p4 &&& (1073741823 : Int32)).toInt64))), .second, .val (.int (1 : Int32)), .unset, .unset] [])) _
        refine XS.iconst X130.here hx rfl (hb hby at_160) ?_
        show Steps p.tables e below (T130.setTop (mkF m 161 #[.val (.int p1), .val (.int p2), .val (.int p3), .val (.int p4), .val (.int p5), .val (.int (p1 &&& (1073741823 : Int32))), .val (.int (p2 &&& (1073741823 : Int32))), .val (.int (p3 &&& (1073741823 : Int32))), .val (.int (p4 &&& (1073741823 : Int32))), .val (.ref b_101), .val (.ref b_103), .val (.ref b_105), .val (.ref b107), .val (.ref b115), .val (.int (own_holds (p1 &&& (1073741823 : Int32)) (p2 &&& (1073741823 : Int32)) (p3 &&& (1073741823 : Int32)) (p4 &&& (1073741823 : Int32)))), .val (.long ((p1 &&& (1073741823 : Int32)).toInt64)), .second, .val (.long (((p1 &&& (1073741823 : Int32)).toInt64) + ((p2 &&& (1073741823 : Int32)).toInt64))), .second, .val (.long ((p3 &&& (1073741823 : Int32)).toInt64)), .second, .val (.long (((p3 &&& (1073741823 : Int32)).toInt64) + ((p4 &&& (1073741823 : Int32)).toInt64))), .second, .val (.int (1 : Int32)), .unset, .unset] [(.int (0 : Int32))])) _
        refine XS.istore X130.here hx rfl (hb hby at_161) rfl (l' := #[.val (.int p1), .val (.int p2), .val (.int p3), .val (.int p4), .val (.int p5), .val (.int (p1 &&& (1073741823 : Int32))), .val (.int (p2 &&& (1073741823 : Int32))), .val (.int (p3 &&& (1073741823 : Int32))), .val (.int (p4 &&& (1073741823 : Int32))), .val (.ref b_101), .val (.ref b_103), .val (.ref b_105), .val (.ref b107), .val (.ref b115), .val (.int (own_holds (p1 &&& (1073741823 : Int32)) (p2 &&& (1073741823 : Int32)) (p3 &&& (1073741823 : Int32)) (p4 &&& (1073741823 : Int32)))), .val (.long ((p1 &&& (1073741823 : Int32)).toInt64)), .second, .val (.long (((p1 &&& (1073741823 : Int32)).toInt64) + ((p2 &&& (1073741823 : Int32)).toInt64))), .second, .val (.long ((p3 &&& (1073741823 : Int32)).toInt64)), .second, .val (.long (((p3 &&& (1073741823 : Int32)).toInt64) + ((p4 &&& (1073741823 : Int32)).toInt64))), .second, .val (.int (1 : Int32)), .val (.int (0 : Int32)), .unset]) rfl ?_
        show Steps p.tables e below (T130.setTop (mkF m 163 #[.val (.int p1), .val (.int p2), .val (.int p3), .val (.int p4), .val (.int p5), .val (.int (p1 &&& (1073741823 : Int32))), .val (.int (p2 &&& (1073741823 : Int32))), .val (.int (p3 &&& (1073741823 : Int32))), .val (.int (p4 &&& (1073741823 : Int32))), .val (.ref b_101), .val (.ref b_103), .val (.ref b_105), .val (.ref b107), .val (.ref b115), .val (.int (own_holds (p1 &&& (1073741823 : Int32)) (p2 &&& (1073741823 : Int32)) (p3 &&& (1073741823 : Int32)) (p4 &&& (1073741823 : Int32)))), .val (.long ((p1 &&& (1073741823 : Int32)).toInt64)), .second, .val (.long (((p1 &&& (1073741823 : Int32)).toInt64) + ((p2 &&& (1073741823 : Int32)).toInt64))), .second, .val (.long ((p3 &&& (1073741823 : Int32)).toInt64)), .second, .val (.long (((p3 &&& (1073741823 : Int32)).toInt64) + ((p4 &&& (1073741823 : Int32)).toInt64))), .second, .val (.int (1 : Int32)), .val (.int (0 : Int32)), .unset] [])) _
        refine XS.iload X130.here hx rfl (hb hby at_163) rfl ?_
        show Steps p.tables e below (T130.setTop (mkF m 165 #[.val (.int p1), .val (.int p2), .val (.int p3), .val (.int p4), .val (.int p5), .val (.int (p1 &&& (1073741823 : Int32))), .val (.int (p2 &&& (1073741823 : Int32))), .val (.int (p3 &&& (1073741823 : Int32))), .val (.int (p4 &&& (1073741823 : Int32))), .val (.ref b_101), .val (.ref b_103), .val (.ref b_105), .val (.ref b107), .val (.ref b115), .val (.int (own_holds (p1 &&& (1073741823 : Int32)) (p2 &&& (1073741823 : Int32)) (p3 &&& (1073741823 : Int32)) (p4 &&& (1073741823 : Int32)))), .val (.long ((p1 &&& (1073741823 : Int32)).toInt64)), .second, .val (.long (((p1 &&& (1073741823 : Int32)).toInt64) + ((p2 &&& (1073741823 : Int32)).toInt64))), .second, .val (.long ((p3 &&& (1073741823 : Int32)).toInt64)), .second, .val (.long (((p3 &&& (1073741823 : Int32)).toInt64) + ((p4 &&& (1073741823 : Int32)).toInt64))), .second, .val (.int (1 : Int32)), .val (.int (0 : Int32)), .unset] [(.int (1 : Int32))])) _
        refine XS.ifNo X130.here hx rfl (hb hby at_165) rfl ((if0 _ _).trans (feq (by decide : ¬ ((1 : Int32) = (0 : Int32)))).1) ?_
        show Steps p.tables e below (T130.setTop (mkF m 168 #[.val (.int p1), .val (.int p2), .val (.int p3), .val (.int p4), .val (.int p5), .val (.int (p1 &&& (1073741823 : Int32))), .val (.int (p2 &&& (1073741823 : Int32))), .val (.int (p3 &&& (1073741823 : Int32))), .val (.int (p4 &&& (1073741823 : Int32))), .val (.ref b_101), .val (.ref b_103), .val (.ref b_105), .val (.ref b107), .val (.ref b115), .val (.int (own_holds (p1 &&& (1073741823 : Int32)) (p2 &&& (1073741823 : Int32)) (p3 &&& (1073741823 : Int32)) (p4 &&& (1073741823 : Int32)))), .val (.long ((p1 &&& (1073741823 : Int32)).toInt64)), .second, .val (.long (((p1 &&& (1073741823 : Int32)).toInt64) + ((p2 &&& (1073741823 : Int32)).toInt64))), .second, .val (.long ((p3 &&& (1073741823 : Int32)).toInt64)), .second, .val (.long (((p3 &&& (1073741823 : Int32)).toInt64) + ((p4 &&& (1073741823 : Int32)).toInt64))), .second, .val (.int (1 : Int32)), .val (.int (0 : Int32)), .unset] [])) _
        refine XS.iload X130.here hx rfl (hb hby at_168) rfl ?_
        show Steps p.tables e below (T130.setTop (mkF m 170 #[.val (.int p1), .val (.int p2), .val (.int p3), .val (.int p4), .val (.int p5), .val (.int (p1 &&& (1073741823 : Int32))), .val (.int (p2 &&& (1073741823 : Int32))), .val (.int (p3 &&& (1073741823 : Int32))), .val (.int (p4 &&& (1073741823 : Int32))), .val (.ref b_101), .val (.ref b_103), .val (.ref b_105), .val (.ref b107), .val (.ref b115), .val (.int (own_holds (p1 &&& (1073741823 : Int32)) (p2 &&& (1073741823 : Int32)) (p3 &&& (1073741823 : Int32)) (p4 &&& (1073741823 : Int32)))), .val (.long ((p1 &&& (1073741823 : Int32)).toInt64)), .second, .val (.long (((p1 &&& (1073741823 : Int32)).toInt64) + ((p2 &&& (1073741823 : Int32)).toInt64))), .second, .val (.long ((p3 &&& (1073741823 : Int32)).toInt64)), .second, .val (.long (((p3 &&& (1073741823 : Int32)).toInt64) + ((p4 &&& (1073741823 : Int32)).toInt64))), .second, .val (.int (1 : Int32)), .val (.int (0 : Int32)), .unset] [(.int (0 : Int32))])) _
        refine XS.ifYes X130.here hx rfl (pc0 := 170) (pc' := 177) rfl (hb hby at_170) rfl ((if0 _ _).trans (teq (by decide : (0 : Int32) = (0 : Int32))).1) (by decide) (by decide) ?_
        show Steps p.tables e below (T130.setTop (mkF m 177 #[.val (.int p1), .val (.int p2), .val (.int p3), .val (.int p4), .val (.int p5), .val (.int (p1 &&& (1073741823 : Int32))), .val (.int (p2 &&& (1073741823 : Int32))), .val (.int (p3 &&& (1073741823 : Int32))), .val (.int (p4 &&& (1073741823 : Int32))), .val (.ref b_101), .val (.ref b_103), .val (.ref b_105), .val (.ref b107), .val (.ref b115), .val (.int (own_holds (p1 &&& (1073741823 : Int32)) (p2 &&& (1073741823 : Int32)) (p3 &&& (1073741823 : Int32)) (p4 &&& (1073741823 : Int32)))), .val (.long ((p1 &&& (1073741823 : Int32)).toInt64)), .second, .val (.long (((p1 &&& (1073741823 : Int32)).toInt64) + ((p2 &&& (1073741823 : Int32)).toInt64))), .second, .val (.long ((p3 &&& (1073741823 : Int32)).toInt64)), .second, .val (.long (((p3 &&& (1073741823 : Int32)).toInt64) + ((p4 &&& (1073741823 : Int32)).toInt64))), .second, .val (.int (1 : Int32)), .val (.int (0 : Int32)), .unset] [])) _
        refine XS.iconst X130.here hx rfl (hb hby at_177) ?_
        show Steps p.tables e below (T130.setTop (mkF m 178 #[.val (.int p1), .val (.int p2), .val (.int p3), .val (.int p4), .val (.int p5), .val (.int (p1 &&& (1073741823 : Int32))), .val (.int (p2 &&& (1073741823 : Int32))), .val (.int (p3 &&& (1073741823 : Int32))), .val (.int (p4 &&& (1073741823 : Int32))), .val (.ref b_101), .val (.ref b_103), .val (.ref b_105), .val (.ref b107), .val (.ref b115), .val (.int (own_holds (p1 &&& (1073741823 : Int32)) (p2 &&& (1073741823 : Int32)) (p3 &&& (1073741823 : Int32)) (p4 &&& (1073741823 : Int32)))), .val (.long ((p1 &&& (1073741823 : Int32)).toInt64)), .second, .val (.long (((p1 &&& (1073741823 : Int32)).toInt64) + ((p2 &&& (1073741823 : Int32)).toInt64))), .second, .val (.long ((p3 &&& (1073741823 : Int32)).toInt64)), .second, .val (.long (((p3 &&& (1073741823 : Int32)).toInt64) + ((p4 &&& (1073741823 : Int32)).toInt64))), .second, .val (.int (1 : Int32)), .val (.int (0 : Int32)), .unset] [(.int (0 : Int32))])) _
        refine XS.istore X130.here hx rfl (hb hby at_178) rfl (l' := #[.val (.int p1), .val (.int p2), .val (.int p3), .val (.int p4), .val (.int p5), .val (.int (p1 &&& (1073741823 : Int32))), .val (.int (p2 &&& (1073741823 : Int32))), .val (.int (p3 &&& (1073741823 : Int32))), .val (.int (p4 &&& (1073741823 : Int32))), .val (.ref b_101), .val (.ref b_103), .val (.ref b_105), .val (.ref b107), .val (.ref b115), .val (.int (own_holds (p1 &&& (1073741823 : Int32)) (p2 &&& (1073741823 : Int32)) (p3 &&& (1073741823 : Int32)) (p4 &&& (1073741823 : Int32)))), .val (.long ((p1 &&& (1073741823 : Int32)).toInt64)), .second, .val (.long (((p1 &&& (1073741823 : Int32)).toInt64) + ((p2 &&& (1073741823 : Int32)).toInt64))), .second, .val (.long ((p3 &&& (1073741823 : Int32)).toInt64)), .second, .val (.long (((p3 &&& (1073741823 : Int32)).toInt64) + ((p4 &&& (1073741823 : Int32)).toInt64))), .second, .val (.int (1 : Int32)), .val (.int (0 : Int32)), .val (.int (0 : Int32))]) rfl ?_
        show Steps p.tables e below (T130.setTop (mkF m 180 #[.val (.int p1), .val (.int p2), .val (.int p3), .val (.int p4), .val (.int p5), .val (.int (p1 &&& (1073741823 : Int32))), .val (.int (p2 &&& (1073741823 : Int32))), .val (.int (p3 &&& (1073741823 : Int32))), .val (.int (p4 &&& (1073741823 : Int32))), .val (.ref b_101), .val (.ref b_103), .val (.ref b_105), .val (.ref b107), .val (.ref b115), .val (.int (own_holds (p1 &&& (1073741823 : Int32)) (p2 &&& (1073741823 : Int32)) (p3 &&& (1073741823 : Int32)) (p4 &&& (1073741823 : Int32)))), .val (.long ((p1 &&& (1073741823 : Int32)).toInt64)), .second, .val (.long (((p1 &&& (1073741823 : Int32)).toInt64) + ((p2 &&& (1073741823 : Int32)).toInt64))), .second, .val (.long ((p3 &&& (1073741823 : Int32)).toInt64)), .second, .val (.long (((p3 &&& (1073741823 : Int32)).toInt64) + ((p4 &&& (1073741823 : Int32)).toInt64))), .second, .val (.int (1 : Int32)), .val (.int (0 : Int32)), .val (.int (0 : Int32))] [])) _
        refine XS.iload X130.here hx rfl (hb hby at_180) rfl ?_
        show Steps p.tables e below (T130.setTop (mkF m 182 #[.val (.int p1), .val (.int p2), .val (.int p3), .val (.int p4), .val (.int p5), .val (.int (p1 &&& (1073741823 : Int32))), .val (.int (p2 &&& (1073741823 : Int32))), .val (.int (p3 &&& (1073741823 : Int32))), .val (.int (p4 &&& (1073741823 : Int32))), .val (.ref b_101), .val (.ref b_103), .val (.ref b_105), .val (.ref b107), .val (.ref b115), .val (.int (own_holds (p1 &&& (1073741823 : Int32)) (p2 &&& (1073741823 : Int32)) (p3 &&& (1073741823 : Int32)) (p4 &&& (1073741823 : Int32)))), .val (.long ((p1 &&& (1073741823 : Int32)).toInt64)), .second, .val (.long (((p1 &&& (1073741823 : Int32)).toInt64) + ((p2 &&& (1073741823 : Int32)).toInt64))), .second, .val (.long ((p3 &&& (1073741823 : Int32)).toInt64)), .second, .val (.long (((p3 &&& (1073741823 : Int32)).toInt64) + ((p4 &&& (1073741823 : Int32)).toInt64))), .second, .val (.int (1 : Int32)), .val (.int (0 : Int32)), .val (.int (0 : Int32))] [(.int (own_holds (p1 &&& (1073741823 : Int32)) (p2 &&& (1073741823 : Int32)) (p3 &&& (1073741823 : Int32)) (p4 &&& (1073741823 : Int32))))])) _
        refine XS.iload X130.here hx rfl (hb hby at_182) rfl ?_
        show Steps p.tables e below (T130.setTop (mkF m 184 #[.val (.int p1), .val (.int p2), .val (.int p3), .val (.int p4), .val (.int p5), .val (.int (p1 &&& (1073741823 : Int32))), .val (.int (p2 &&& (1073741823 : Int32))), .val (.int (p3 &&& (1073741823 : Int32))), .val (.int (p4 &&& (1073741823 : Int32))), .val (.ref b_101), .val (.ref b_103), .val (.ref b_105), .val (.ref b107), .val (.ref b115), .val (.int (own_holds (p1 &&& (1073741823 : Int32)) (p2 &&& (1073741823 : Int32)) (p3 &&& (1073741823 : Int32)) (p4 &&& (1073741823 : Int32)))), .val (.long ((p1 &&& (1073741823 : Int32)).toInt64)), .second, .val (.long (((p1 &&& (1073741823 : Int32)).toInt64) + ((p2 &&& (1073741823 : Int32)).toInt64))), .second, .val (.long ((p3 &&& (1073741823 : Int32)).toInt64)), .second, .val (.long (((p3 &&& (1073741823 : Int32)).toInt64) + ((p4 &&& (1073741823 : Int32)).toInt64))), .second, .val (.int (1 : Int32)), .val (.int (0 : Int32)), .val (.int (0 : Int32))] [(.int (0 : Int32)), (.int (own_holds (p1 &&& (1073741823 : Int32)) (p2 &&& (1073741823 : Int32)) (p3 &&& (1073741823 : Int32)) (p4 &&& (1073741823 : Int32))))])) _
        refine XS.icmpNo X130.here hx rfl (hb hby at_184) rfl (teq ((if_neg (fun q => hc132 (own_s.mpr q))).trans (if_pos (own_e.mp hc136)) : (own_holds (p1 &&& (1073741823 : Int32)) (p2 &&& (1073741823 : Int32)) (p3 &&& (1073741823 : Int32)) (p4 &&& (1073741823 : Int32))) = (0 : Int32))).2 ?_
        show Steps p.tables e below (T130.setTop (mkF m 187 #[.val (.int p1), .val (.int p2), .val (.int p3), .val (.int p4), .val (.int p5), .val (.int (p1 &&& (1073741823 : Int32))), .val (.int (p2 &&& (1073741823 : Int32))), .val (.int (p3 &&& (1073741823 : Int32))), .val (.int (p4 &&& (1073741823 : Int32))), .val (.ref b_101), .val (.ref b_103), .val (.ref b_105), .val (.ref b107), .val (.ref b115), .val (.int (own_holds (p1 &&& (1073741823 : Int32)) (p2 &&& (1073741823 : Int32)) (p3 &&& (1073741823 : Int32)) (p4 &&& (1073741823 : Int32)))), .val (.long ((p1 &&& (1073741823 : Int32)).toInt64)), .second, .val (.long (((p1 &&& (1073741823 : Int32)).toInt64) + ((p2 &&& (1073741823 : Int32)).toInt64))), .second, .val (.long ((p3 &&& (1073741823 : Int32)).toInt64)), .second, .val (.long (((p3 &&& (1073741823 : Int32)).toInt64) + ((p4 &&& (1073741823 : Int32)).toInt64))), .second, .val (.int (1 : Int32)), .val (.int (0 : Int32)), .val (.int (0 : Int32))] [])) _
        refine XS.iconst X130.here hx rfl (hb hby at_187) ?_
        show Steps p.tables e below (T130.setTop (mkF m 188 #[.val (.int p1), .val (.int p2), .val (.int p3), .val (.int p4), .val (.int p5), .val (.int (p1 &&& (1073741823 : Int32))), .val (.int (p2 &&& (1073741823 : Int32))), .val (.int (p3 &&& (1073741823 : Int32))), .val (.int (p4 &&& (1073741823 : Int32))), .val (.ref b_101), .val (.ref b_103), .val (.ref b_105), .val (.ref b107), .val (.ref b115), .val (.int (own_holds (p1 &&& (1073741823 : Int32)) (p2 &&& (1073741823 : Int32)) (p3 &&& (1073741823 : Int32)) (p4 &&& (1073741823 : Int32)))), .val (.long ((p1 &&& (1073741823 : Int32)).toInt64)), .second, .val (.long (((p1 &&& (1073741823 : Int32)).toInt64) + ((p2 &&& (1073741823 : Int32)).toInt64))), .second, .val (.long ((p3 &&& (1073741823 : Int32)).toInt64)), .second, .val (.long (((p3 &&& (1073741823 : Int32)).toInt64) + ((p4 &&& (1073741823 : Int32)).toInt64))), .second, .val (.int (1 : Int32)), .val (.int (0 : Int32)), .val (.int (0 : Int32))] [(.int (1 : Int32))])) _
        refine XS.goto X130.here hx rfl (pc0 := 188) (pc' := 192) rfl (hb hby at_188) (by decide) (by decide) ?_
        show Steps p.tables e below (T130.setTop (mkF m 192 #[.val (.int p1), .val (.int p2), .val (.int p3), .val (.int p4), .val (.int p5), .val (.int (p1 &&& (1073741823 : Int32))), .val (.int (p2 &&& (1073741823 : Int32))), .val (.int (p3 &&& (1073741823 : Int32))), .val (.int (p4 &&& (1073741823 : Int32))), .val (.ref b_101), .val (.ref b_103), .val (.ref b_105), .val (.ref b107), .val (.ref b115), .val (.int (own_holds (p1 &&& (1073741823 : Int32)) (p2 &&& (1073741823 : Int32)) (p3 &&& (1073741823 : Int32)) (p4 &&& (1073741823 : Int32)))), .val (.long ((p1 &&& (1073741823 : Int32)).toInt64)), .second, .val (.long (((p1 &&& (1073741823 : Int32)).toInt64) + ((p2 &&& (1073741823 : Int32)).toInt64))), .second, .val (.long ((p3 &&& (1073741823 : Int32)).toInt64)), .second, .val (.long (((p3 &&& (1073741823 : Int32)).toInt64) + ((p4 &&& (1073741823 : Int32)).toInt64))), .second, .val (.int (1 : Int32)), .val (.int (0 : Int32)), .val (.int (0 : Int32))] [(.int (1 : Int32))])) _
        exact retN X130 hx (t := .boolean) Bd.returns (by simp) (hb hby at_192) hr
      · show Q0 Z p1 p2 p3 p4 p5 w h0 n0 _ T130.heap _
        rw [P130_0]
        exact ⟨rfl, N130⟩
    · obtain ⟨fs, hr, hrun, hended, hRW⟩ := Stand.leaveW (s := s) (vm₁ := T124.vm) X130 Sn124 (by rw [P130_0]; exact (Nat.le_refl _)) (v := some (.int (1 : Int32))) (fun h => by rw [Bd.returns] at h; cases h) hlk
      refine ⟨_, _, pre0 _ ?_, hrun, hended, _, _, rfl, ?_, own_rmono hRW (by decide) (by decide)⟩
      · refine pr135 _ ?_
        show Steps p.tables e below (T130.setTop (mkF m 153 #[.val (.int p1), .val (.int p2), .val (.int p3), .val (.int p4), .val (.int p5), .val (.int (p1 &&& (1073741823 : Int32))), .val (.int (p2 &&& (1073741823 : Int32))), .val (.int (p3 &&& (1073741823 : Int32))), .val (.int (p4 &&& (1073741823 : Int32))), .val (.ref b_101), .val (.ref b_103), .val (.ref b_105), .val (.ref b107), .val (.ref b115), .val (.int (own_holds (p1 &&& (1073741823 : Int32)) (p2 &&& (1073741823 : Int32)) (p3 &&& (1073741823 : Int32)) (p4 &&& (1073741823 : Int32)))), .val (.long ((p1 &&& (1073741823 : Int32)).toInt64)), .second, .val (.long (((p1 &&& (1073741823 : Int32)).toInt64) + ((p2 &&& (1073741823 : Int32)).toInt64))), .second, .val (.long ((p3 &&& (1073741823 : Int32)).toInt64)), .second, .val (.long (((p3 &&& (1073741823 : Int32)).toInt64) + ((p4 &&& (1073741823 : Int32)).toInt64))), .second, .val (.int (1 : Int32)), .unset, .unset] [(.int (lcmpW (((p3 &&& (1073741823 : Int32)).toInt64) + ((p4 &&& (1073741823 : Int32)).toInt64)) (((p1 &&& (1073741823 : Int32)).toInt64) + ((p2 &&& (1073741823 : Int32)).toInt64))))])) _
        refine XS.ifNo X130.here hx rfl (hb hby at_153) rfl ((if0 _ _).trans (flt (fun q => hc136 ((lw_gt _ _).mp q))).2.2.1) ?_
        show Steps p.tables e below (T130.setTop (mkF m 156 #[.val (.int p1), .val (.int p2), .val (.int p3), .val (.int p4), .val (.int p5), .val (.int (p1 &&& (1073741823 : Int32))), .val (.int (p2 &&& (1073741823 : Int32))), .val (.int (p3 &&& (1073741823 : Int32))), .val (.int (p4 &&& (1073741823 : Int32))), .val (.ref b_101), .val (.ref b_103), .val (.ref b_105), .val (.ref b107), .val (.ref b115), .val (.int (own_holds (p1 &&& (1073741823 : Int32)) (p2 &&& (1073741823 : Int32)) (p3 &&& (1073741823 : Int32)) (p4 &&& (1073741823 : Int32)))), .val (.long ((p1 &&& (1073741823 : Int32)).toInt64)), .second, .val (.long (((p1 &&& (1073741823 : Int32)).toInt64) + ((p2 &&& (1073741823 : Int32)).toInt64))), .second, .val (.long ((p3 &&& (1073741823 : Int32)).toInt64)), .second, .val (.long (((p3 &&& (1073741823 : Int32)).toInt64) + ((p4 &&& (1073741823 : Int32)).toInt64))), .second, .val (.int (1 : Int32)), .unset, .unset] [])) _
        refine XS.iconst X130.here hx rfl (hb hby at_156) ?_
        show Steps p.tables e below (T130.setTop (mkF m 157 #[.val (.int p1), .val (.int p2), .val (.int p3), .val (.int p4), .val (.int p5), .val (.int (p1 &&& (1073741823 : Int32))), .val (.int (p2 &&& (1073741823 : Int32))), .val (.int (p3 &&& (1073741823 : Int32))), .val (.int (p4 &&& (1073741823 : Int32))), .val (.ref b_101), .val (.ref b_103), .val (.ref b_105), .val (.ref b107), .val (.ref b115), .val (.int (own_holds (p1 &&& (1073741823 : Int32)) (p2 &&& (1073741823 : Int32)) (p3 &&& (1073741823 : Int32)) (p4 &&& (1073741823 : Int32)))), .val (.long ((p1 &&& (1073741823 : Int32)).toInt64)), .second, .val (.long (((p1 &&& (1073741823 : Int32)).toInt64) + ((p2 &&& (1073741823 : Int32)).toInt64))), .second, .val (.long ((p3 &&& (1073741823 : Int32)).toInt64)), .second, .val (.long (((p3 &&& (1073741823 : Int32)).toInt64) + ((p4 &&& (1073741823 : Int32)).toInt64))), .second, .val (.int (1 : Int32)), .unset, .unset] [(.int (1 : Int32))])) _
        refine XS.goto X130.here hx rfl (pc0 := 157) (pc' := 161) rfl (hb hby at_157) (by decide) (by decide) ?_
        show Steps p.tables e below (T130.setTop (mkF m 161 #[.val (.int p1), .val (.int p2), .val (.int p3), .val (.int p4), .val (.int p5), .val (.int (p1 &&& (1073741823 : Int32))), .val (.int (p2 &&& (1073741823 : Int32))), .val (.int (p3 &&& (1073741823 : Int32))), .val (.int (p4 &&& (1073741823 : Int32))), .val (.ref b_101), .val (.ref b_103), .val (.ref b_105), .val (.ref b107), .val (.ref b115), .val (.int (own_holds (p1 &&& (1073741823 : Int32)) (p2 &&& (1073741823 : Int32)) (p3 &&& (1073741823 : Int32)) (p4 &&& (1073741823 : Int32)))), .val (.long ((p1 &&& (1073741823 : Int32)).toInt64)), .second, .val (.long (((p1 &&& (1073741823 : Int32)).toInt64) + ((p2 &&& (1073741823 : Int32)).toInt64))), .second, .val (.long ((p3 &&& (1073741823 : Int32)).toInt64)), .second, .val (.long (((p3 &&& (1073741823 : Int32)).toInt64) + ((p4 &&& (1073741823 : Int32)).toInt64))), .second, .val (.int (1 : Int32)), .unset, .unset] [(.int (1 : Int32))])) _
        refine XS.istore X130.here hx rfl (hb hby at_161) rfl (l' := #[.val (.int p1), .val (.int p2), .val (.int p3), .val (.int p4), .val (.int p5), .val (.int (p1 &&& (1073741823 : Int32))), .val (.int (p2 &&& (1073741823 : Int32))), .val (.int (p3 &&& (1073741823 : Int32))), .val (.int (p4 &&& (1073741823 : Int32))), .val (.ref b_101), .val (.ref b_103), .val (.ref b_105), .val (.ref b107), .val (.ref b115), .val (.int (own_holds (p1 &&& (1073741823 : Int32)) (p2 &&& (1073741823 : Int32)) (p3 &&& (1073741823 : Int32)) (p4 &&& (1073741823 : Int32)))), .val (.long ((p1 &&& (1073741823 : Int32)).toInt64)), .second, .val (.long (((p1 &&& (1073741823 : Int32)).toInt64) + ((p2 &&& (1073741823 : Int32)).toInt64))), .second, .val (.long ((p3 &&& (1073741823 : Int32)).toInt64)), .second, .val (.long (((p3 &&& (1073741823 : Int32)).toInt64) + ((p4 &&& (1073741823 : Int32)).toInt64))), .second, .val (.int (1 : Int32)), .val (.int (1 : Int32)), .unset]) rfl ?_
        show Steps p.tables e below (T130.setTop (mkF m 163 #[.val (.int p1), .val (.int p2), .val (.int p3), .val (.int p4), .val (.int p5), .val (.int (p1 &&& (1073741823 : Int32))), .val (.int (p2 &&& (1073741823 : Int32))), .val (.int (p3 &&& (1073741823 : Int32))), .val (.int (p4 &&& (1073741823 : Int32))), .val (.ref b_101), .val (.ref b_103), .val (.ref b_105), .val (.ref b107), .val (.ref b115), .val (.int (own_holds (p1 &&& (1073741823 : Int32)) (p2 &&& (1073741823 : Int32)) (p3 &&& (1073741823 : Int32)) (p4 &&& (1073741823 : Int32)))), .val (.long ((p1 &&& (1073741823 : Int32)).toInt64)), .second, .val (.long (((p1 &&& (1073741823 : Int32)).toInt64) + ((p2 &&& (1073741823 : Int32)).toInt64))), .second, .val (.long ((p3 &&& (1073741823 : Int32)).toInt64)), .second, .val (.long (((p3 &&& (1073741823 : Int32)).toInt64) + ((p4 &&& (1073741823 : Int32)).toInt64))), .second, .val (.int (1 : Int32)), .val (.int (1 : Int32)), .unset] [])) _
        refine XS.iload X130.here hx rfl (hb hby at_163) rfl ?_
        show Steps p.tables e below (T130.setTop (mkF m 165 #[.val (.int p1), .val (.int p2), .val (.int p3), .val (.int p4), .val (.int p5), .val (.int (p1 &&& (1073741823 : Int32))), .val (.int (p2 &&& (1073741823 : Int32))), .val (.int (p3 &&& (1073741823 : Int32))), .val (.int (p4 &&& (1073741823 : Int32))), .val (.ref b_101), .val (.ref b_103), .val (.ref b_105), .val (.ref b107), .val (.ref b115), .val (.int (own_holds (p1 &&& (1073741823 : Int32)) (p2 &&& (1073741823 : Int32)) (p3 &&& (1073741823 : Int32)) (p4 &&& (1073741823 : Int32)))), .val (.long ((p1 &&& (1073741823 : Int32)).toInt64)), .second, .val (.long (((p1 &&& (1073741823 : Int32)).toInt64) + ((p2 &&& (1073741823 : Int32)).toInt64))), .second, .val (.long ((p3 &&& (1073741823 : Int32)).toInt64)), .second, .val (.long (((p3 &&& (1073741823 : Int32)).toInt64) + ((p4 &&& (1073741823 : Int32)).toInt64))), .second, .val (.int (1 : Int32)), .val (.int (1 : Int32)), .unset] [(.int (1 : Int32))])) _
        refine XS.ifNo X130.here hx rfl (hb hby at_165) rfl ((if0 _ _).trans (feq (by decide : ¬ ((1 : Int32) = (0 : Int32)))).1) ?_
        show Steps p.tables e below (T130.setTop (mkF m 168 #[.val (.int p1), .val (.int p2), .val (.int p3), .val (.int p4), .val (.int p5), .val (.int (p1 &&& (1073741823 : Int32))), .val (.int (p2 &&& (1073741823 : Int32))), .val (.int (p3 &&& (1073741823 : Int32))), .val (.int (p4 &&& (1073741823 : Int32))), .val (.ref b_101), .val (.ref b_103), .val (.ref b_105), .val (.ref b107), .val (.ref b115), .val (.int (own_holds (p1 &&& (1073741823 : Int32)) (p2 &&& (1073741823 : Int32)) (p3 &&& (1073741823 : Int32)) (p4 &&& (1073741823 : Int32)))), .val (.long ((p1 &&& (1073741823 : Int32)).toInt64)), .second, .val (.long (((p1 &&& (1073741823 : Int32)).toInt64) + ((p2 &&& (1073741823 : Int32)).toInt64))), .second, .val (.long ((p3 &&& (1073741823 : Int32)).toInt64)), .second, .val (.long (((p3 &&& (1073741823 : Int32)).toInt64) + ((p4 &&& (1073741823 : Int32)).toInt64))), .second, .val (.int (1 : Int32)), .val (.int (1 : Int32)), .unset] [])) _
        refine XS.iload X130.here hx rfl (hb hby at_168) rfl ?_
        show Steps p.tables e below (T130.setTop (mkF m 170 #[.val (.int p1), .val (.int p2), .val (.int p3), .val (.int p4), .val (.int p5), .val (.int (p1 &&& (1073741823 : Int32))), .val (.int (p2 &&& (1073741823 : Int32))), .val (.int (p3 &&& (1073741823 : Int32))), .val (.int (p4 &&& (1073741823 : Int32))), .val (.ref b_101), .val (.ref b_103), .val (.ref b_105), .val (.ref b107), .val (.ref b115), .val (.int (own_holds (p1 &&& (1073741823 : Int32)) (p2 &&& (1073741823 : Int32)) (p3 &&& (1073741823 : Int32)) (p4 &&& (1073741823 : Int32)))), .val (.long ((p1 &&& (1073741823 : Int32)).toInt64)), .second, .val (.long (((p1 &&& (1073741823 : Int32)).toInt64) + ((p2 &&& (1073741823 : Int32)).toInt64))), .second, .val (.long ((p3 &&& (1073741823 : Int32)).toInt64)), .second, .val (.long (((p3 &&& (1073741823 : Int32)).toInt64) + ((p4 &&& (1073741823 : Int32)).toInt64))), .second, .val (.int (1 : Int32)), .val (.int (1 : Int32)), .unset] [(.int (1 : Int32))])) _
        refine XS.ifNo X130.here hx rfl (hb hby at_170) rfl ((if0 _ _).trans (feq (by decide : ¬ ((1 : Int32) = (0 : Int32)))).1) ?_
        show Steps p.tables e below (T130.setTop (mkF m 173 #[.val (.int p1), .val (.int p2), .val (.int p3), .val (.int p4), .val (.int p5), .val (.int (p1 &&& (1073741823 : Int32))), .val (.int (p2 &&& (1073741823 : Int32))), .val (.int (p3 &&& (1073741823 : Int32))), .val (.int (p4 &&& (1073741823 : Int32))), .val (.ref b_101), .val (.ref b_103), .val (.ref b_105), .val (.ref b107), .val (.ref b115), .val (.int (own_holds (p1 &&& (1073741823 : Int32)) (p2 &&& (1073741823 : Int32)) (p3 &&& (1073741823 : Int32)) (p4 &&& (1073741823 : Int32)))), .val (.long ((p1 &&& (1073741823 : Int32)).toInt64)), .second, .val (.long (((p1 &&& (1073741823 : Int32)).toInt64) + ((p2 &&& (1073741823 : Int32)).toInt64))), .second, .val (.long ((p3 &&& (1073741823 : Int32)).toInt64)), .second, .val (.long (((p3 &&& (1073741823 : Int32)).toInt64) + ((p4 &&& (1073741823 : Int32)).toInt64))), .second, .val (.int (1 : Int32)), .val (.int (1 : Int32)), .unset] [])) _
        refine XS.iconst X130.here hx rfl (hb hby at_173) ?_
        show Steps p.tables e below (T130.setTop (mkF m 174 #[.val (.int p1), .val (.int p2), .val (.int p3), .val (.int p4), .val (.int p5), .val (.int (p1 &&& (1073741823 : Int32))), .val (.int (p2 &&& (1073741823 : Int32))), .val (.int (p3 &&& (1073741823 : Int32))), .val (.int (p4 &&& (1073741823 : Int32))), .val (.ref b_101), .val (.ref b_103), .val (.ref b_105), .val (.ref b107), .val (.ref b115), .val (.int (own_holds (p1 &&& (1073741823 : Int32)) (p2 &&& (1073741823 : Int32)) (p3 &&& (1073741823 : Int32)) (p4 &&& (1073741823 : Int32)))), .val (.long ((p1 &&& (1073741823 : Int32)).toInt64)), .second, .val (.long (((p1 &&& (1073741823 : Int32)).toInt64) + ((p2 &&& (1073741823 : Int32)).toInt64))), .second, .val (.long ((p3 &&& (1073741823 : Int32)).toInt64)), .second, .val (.long (((p3 &&& (1073741823 : Int32)).toInt64) + ((p4 &&& (1073741823 : Int32)).toInt64))), .second, .val (.int (1 : Int32)), .val (.int (1 : Int32)), .unset] [(.int (1 : Int32))])) _
        refine XS.goto X130.here hx rfl (pc0 := 174) (pc' := 178) rfl (hb hby at_174) (by decide) (by decide) ?_
        show Steps p.tables e below (T130.setTop (mkF m 178 #[.val (.int p1), .val (.int p2), .val (.int p3), .val (.int p4), .val (.int p5), .val (.int (p1 &&& (1073741823 : Int32))), .val (.int (p2 &&& (1073741823 : Int32))), .val (.int (p3 &&& (1073741823 : Int32))), .val (.int (p4 &&& (1073741823 : Int32))), .val (.ref b_101), .val (.ref b_103), .val (.ref b_105), .val (.ref b107), .val (.ref b115), .val (.int (own_holds (p1 &&& (1073741823 : Int32)) (p2 &&& (1073741823 : Int32)) (p3 &&& (1073741823 : Int32)) (p4 &&& (1073741823 : Int32)))), .val (.long ((p1 &&& (1073741823 : Int32)).toInt64)), .second, .val (.long (((p1 &&& (1073741823 : Int32)).toInt64) + ((p2 &&& (1073741823 : Int32)).toInt64))), .second, .val (.long ((p3 &&& (1073741823 : Int32)).toInt64)), .second, .val (.long (((p3 &&& (1073741823 : Int32)).toInt64) + ((p4 &&& (1073741823 : Int32)).toInt64))), .second, .val (.int (1 : Int32)), .val (.int (1 : Int32)), .unset] [(.int (1 : Int32))])) _
        refine XS.istore X130.here hx rfl (hb hby at_178) rfl (l' := #[.val (.int p1), .val (.int p2), .val (.int p3), .val (.int p4), .val (.int p5), .val (.int (p1 &&& (1073741823 : Int32))), .val (.int (p2 &&& (1073741823 : Int32))), .val (.int (p3 &&& (1073741823 : Int32))), .val (.int (p4 &&& (1073741823 : Int32))), .val (.ref b_101), .val (.ref b_103), .val (.ref b_105), .val (.ref b107), .val (.ref b115), .val (.int (own_holds (p1 &&& (1073741823 : Int32)) (p2 &&& (1073741823 : Int32)) (p3 &&& (1073741823 : Int32)) (p4 &&& (1073741823 : Int32)))), .val (.long ((p1 &&& (1073741823 : Int32)).toInt64)), .second, .val (.long (((p1 &&& (1073741823 : Int32)).toInt64) + ((p2 &&& (1073741823 : Int32)).toInt64))), .second, .val (.long ((p3 &&& (1073741823 : Int32)).toInt64)), .second, .val (.long (((p3 &&& (1073741823 : Int32)).toInt64) + ((p4 &&& (1073741823 : Int32)).toInt64))), .second, .val (.int (1 : Int32)), .val (.int (1 : Int32)), .val (.int (1 : Int32))]) rfl ?_
        show Steps p.tables e below (T130.setTop (mkF m 180 #[.val (.int p1), .val (.int p2), .val (.int p3), .val (.int p4), .val (.int p5), .val (.int (p1 &&& (1073741823 : Int32))), .val (.int (p2 &&& (1073741823 : Int32))), .val (.int (p3 &&& (1073741823 : Int32))), .val (.int (p4 &&& (1073741823 : Int32))), .val (.ref b_101), .val (.ref b_103), .val (.ref b_105), .val (.ref b107), .val (.ref b115), .val (.int (own_holds (p1 &&& (1073741823 : Int32)) (p2 &&& (1073741823 : Int32)) (p3 &&& (1073741823 : Int32)) (p4 &&& (1073741823 : Int32)))), .val (.long ((p1 &&& (1073741823 : Int32)).toInt64)), .second, .val (.long (((p1 &&& (1073741823 : Int32)).toInt64) + ((p2 &&& (1073741823 : Int32)).toInt64))), .second, .val (.long ((p3 &&& (1073741823 : Int32)).toInt64)), .second, .val (.long (((p3 &&& (1073741823 : Int32)).toInt64) + ((p4 &&& (1073741823 : Int32)).toInt64))), .second, .val (.int (1 : Int32)), .val (.int (1 : Int32)), .val (.int (1 : Int32))] [])) _
        refine XS.iload X130.here hx rfl (hb hby at_180) rfl ?_
        show Steps p.tables e below (T130.setTop (mkF m 182 #[.val (.int p1), .val (.int p2), .val (.int p3), .val (.int p4), .val (.int p5), .val (.int (p1 &&& (1073741823 : Int32))), .val (.int (p2 &&& (1073741823 : Int32))), .val (.int (p3 &&& (1073741823 : Int32))), .val (.int (p4 &&& (1073741823 : Int32))), .val (.ref b_101), .val (.ref b_103), .val (.ref b_105), .val (.ref b107), .val (.ref b115), .val (.int (own_holds (p1 &&& (1073741823 : Int32)) (p2 &&& (1073741823 : Int32)) (p3 &&& (1073741823 : Int32)) (p4 &&& (1073741823 : Int32)))), .val (.long ((p1 &&& (1073741823 : Int32)).toInt64)), .second, .val (.long (((p1 &&& (1073741823 : Int32)).toInt64) + ((p2 &&& (1073741823 : Int32)).toInt64))), .second, .val (.long ((p3 &&& (1073741823 : Int32)).toInt64)), .second, .val (.long (((p3 &&& (1073741823 : Int32)).toInt64) + ((p4 &&& (1073741823 : Int32)).toInt64))), .second, .val (.int (1 : Int32)), .val (.int (1 : Int32)), .val (.int (1 : Int32))] [(.int (own_holds (p1 &&& (1073741823 : Int32)) (p2 &&& (1073741823 : Int32)) (p3 &&& (1073741823 : Int32)) (p4 &&& (1073741823 : Int32))))])) _
        refine XS.iload X130.here hx rfl (hb hby at_182) rfl ?_
        show Steps p.tables e below (T130.setTop (mkF m 184 #[.val (.int p1), .val (.int p2), .val (.int p3), .val (.int p4), .val (.int p5), .val (.int (p1 &&& (1073741823 : Int32))), .val (.int (p2 &&& (1073741823 : Int32))), .val (.int (p3 &&& (1073741823 : Int32))), .val (.int (p4 &&& (1073741823 : Int32))), .val (.ref b_101), .val (.ref b_103), .val (.ref b_105), .val (.ref b107), .val (.ref b115), .val (.int (own_holds (p1 &&& (1073741823 : Int32)) (p2 &&& (1073741823 : Int32)) (p3 &&& (1073741823 : Int32)) (p4 &&& (1073741823 : Int32)))), .val (.long ((p1 &&& (1073741823 : Int32)).toInt64)), .second, .val (.long (((p1 &&& (1073741823 : Int32)).toInt64) + ((p2 &&& (1073741823 : Int32)).toInt64))), .second, .val (.long ((p3 &&& (1073741823 : Int32)).toInt64)), .second, .val (.long (((p3 &&& (1073741823 : Int32)).toInt64) + ((p4 &&& (1073741823 : Int32)).toInt64))), .second, .val (.int (1 : Int32)), .val (.int (1 : Int32)), .val (.int (1 : Int32))] [(.int (1 : Int32)), (.int (own_holds (p1 &&& (1073741823 : Int32)) (p2 &&& (1073741823 : Int32)) (p3 &&& (1073741823 : Int32)) (p4 &&& (1073741823 : Int32))))])) _
        refine XS.icmpNo X130.here hx rfl (hb hby at_184) rfl (teq ((if_neg (fun q => hc132 (own_s.mpr q))).trans (if_neg (fun q => hc136 (own_e.mpr q))) : (own_holds (p1 &&& (1073741823 : Int32)) (p2 &&& (1073741823 : Int32)) (p3 &&& (1073741823 : Int32)) (p4 &&& (1073741823 : Int32))) = (1 : Int32))).2 ?_
        show Steps p.tables e below (T130.setTop (mkF m 187 #[.val (.int p1), .val (.int p2), .val (.int p3), .val (.int p4), .val (.int p5), .val (.int (p1 &&& (1073741823 : Int32))), .val (.int (p2 &&& (1073741823 : Int32))), .val (.int (p3 &&& (1073741823 : Int32))), .val (.int (p4 &&& (1073741823 : Int32))), .val (.ref b_101), .val (.ref b_103), .val (.ref b_105), .val (.ref b107), .val (.ref b115), .val (.int (own_holds (p1 &&& (1073741823 : Int32)) (p2 &&& (1073741823 : Int32)) (p3 &&& (1073741823 : Int32)) (p4 &&& (1073741823 : Int32)))), .val (.long ((p1 &&& (1073741823 : Int32)).toInt64)), .second, .val (.long (((p1 &&& (1073741823 : Int32)).toInt64) + ((p2 &&& (1073741823 : Int32)).toInt64))), .second, .val (.long ((p3 &&& (1073741823 : Int32)).toInt64)), .second, .val (.long (((p3 &&& (1073741823 : Int32)).toInt64) + ((p4 &&& (1073741823 : Int32)).toInt64))), .second, .val (.int (1 : Int32)), .val (.int (1 : Int32)), .val (.int (1 : Int32))] [])) _
        refine XS.iconst X130.here hx rfl (hb hby at_187) ?_
        show Steps p.tables e below (T130.setTop (mkF m 188 #[.val (.int p1), .val (.int p2), .val (.int p3), .val (.int p4), .val (.int p5), .val (.int (p1 &&& (1073741823 : Int32))), .val (.int (p2 &&& (1073741823 : Int32))), .val (.int (p3 &&& (1073741823 : Int32))), .val (.int (p4 &&& (1073741823 : Int32))), .val (.ref b_101), .val (.ref b_103), .val (.ref b_105), .val (.ref b107), .val (.ref b115), .val (.int (own_holds (p1 &&& (1073741823 : Int32)) (p2 &&& (1073741823 : Int32)) (p3 &&& (1073741823 : Int32)) (p4 &&& (1073741823 : Int32)))), .val (.long ((p1 &&& (1073741823 : Int32)).toInt64)), .second, .val (.long (((p1 &&& (1073741823 : Int32)).toInt64) + ((p2 &&& (1073741823 : Int32)).toInt64))), .second, .val (.long ((p3 &&& (1073741823 : Int32)).toInt64)), .second, .val (.long (((p3 &&& (1073741823 : Int32)).toInt64) + ((p4 &&& (1073741823 : Int32)).toInt64))), .second, .val (.int (1 : Int32)), .val (.int (1 : Int32)), .val (.int (1 : Int32))] [(.int (1 : Int32))])) _
        refine XS.goto X130.here hx rfl (pc0 := 188) (pc' := 192) rfl (hb hby at_188) (by decide) (by decide) ?_
        show Steps p.tables e below (T130.setTop (mkF m 192 #[.val (.int p1), .val (.int p2), .val (.int p3), .val (.int p4), .val (.int p5), .val (.int (p1 &&& (1073741823 : Int32))), .val (.int (p2 &&& (1073741823 : Int32))), .val (.int (p3 &&& (1073741823 : Int32))), .val (.int (p4 &&& (1073741823 : Int32))), .val (.ref b_101), .val (.ref b_103), .val (.ref b_105), .val (.ref b107), .val (.ref b115), .val (.int (own_holds (p1 &&& (1073741823 : Int32)) (p2 &&& (1073741823 : Int32)) (p3 &&& (1073741823 : Int32)) (p4 &&& (1073741823 : Int32)))), .val (.long ((p1 &&& (1073741823 : Int32)).toInt64)), .second, .val (.long (((p1 &&& (1073741823 : Int32)).toInt64) + ((p2 &&& (1073741823 : Int32)).toInt64))), .second, .val (.long ((p3 &&& (1073741823 : Int32)).toInt64)), .second, .val (.long (((p3 &&& (1073741823 : Int32)).toInt64) + ((p4 &&& (1073741823 : Int32)).toInt64))), .second, .val (.int (1 : Int32)), .val (.int (1 : Int32)), .val (.int (1 : Int32))] [(.int (1 : Int32))])) _
        exact retN X130 hx (t := .boolean) Bd.returns (by simp) (hb hby at_192) hr
      · show Q0 Z p1 p2 p3 p4 p5 w h0 n0 _ T130.heap _
        rw [P130_0]
        exact ⟨rfl, N130⟩
set_option maxRecDepth 65536 in
set_option maxHeartbeats 40000000 in
theorem comes_1 {Post : Tables → Env → Array Value → State → Outcome → State → Prop} (hpost : ∀ tb e args s v u, (limb_1_1.after args s (.returned v) u = true ∧ limb_1_2.after args s (.returned v) u = true ∧ True) → ReturnedEndW s (.returned v) u (Jvm.fieldLocs frame_1_writes args s ++ Jvm.arrayLocs frame_1_arrays args s ++ Jvm.staticLocs frame_1_statics s) 32 3200 → Post tb e args s (.returned v) u) :
    ArmFor flags0 classFile x code maxLocals ret World_1 tables_1 room_1 Calls_1 rest_1 Pre_1 Post := by
  intro l hfl _ _ p e ha hc hk s m args below hf hA hF happ hP
  obtain ⟨hcalls, hrest, hpre⟩ := hP
  obtain ⟨-, -, -, hnamed, -, -, -, hat⟩ := (Spec.applies_iff hf).mp happ
  obtain ⟨hg, hn⟩ := and_e (Cond.before_iff.mp (show (Jvm.Cond.and given_1 narrow_1).before args s = true from hpre))
  obtain ⟨gg1, gg2⟩ := and_e hg
  obtain ⟨gg3, gg4⟩ := and_e gg2
  obtain ⟨gg5, gg6⟩ := and_e gg4
  obtain ⟨gg7, gg8⟩ := and_e gg6
  obtain ⟨gg9, gg10⟩ := and_e gg8
  obtain ⟨w0, w1, w2, w3, w4, rfl⟩ : ∃ w0 w1 w2 w3 w4 : Value, args = #[w0, w1, w2, w3, w4] := by
    have hs : args.size = 5 := by simpa [Cond.value, given_1] using gg1
    obtain ⟨L⟩ := args
    match L, hs with
    | [w0, w1, w2, w3, w4], _ => exact ⟨w0, w1, w2, w3, w4, rfl⟩
  have hw := fun d (hd : d ∈ tables_1) => atoms_spec (ws := Jvm.Cond.code x code maxLocals ret :: tables_1) hat d (List.mem_cons_of_mem _ hd)
  have hfit : Fit s := fun {y c} hc i hi => by
    obtain ⟨ha, rfl⟩ := Array.getElem?_eq_some_iff.mp hc
    have q := List.all_eq_true.mp ((Array.all_eq_true_iff_forall_mem.mp hF) _ (Array.getElem_mem ha)) i (List.mem_range.mpr hi)
    simpa [Array.getElem?_eq_getElem hi] using q
  obtain ⟨hsets, hown0⟩ := atoms_of _ (rest_1_c_eq ▸ (show rest_1_c.before _ s = true from hrest))
  have hr0 := Cond.before_iff.mp hown0
  obtain ⟨i0, ei0⟩ := is_v gg3
  obtain rfl : w0 = (.int i0) := Option.some.inj ei0
  obtain ⟨i1, ei1⟩ := is_v gg5
  obtain rfl : w1 = (.int i1) := Option.some.inj ei1
  obtain ⟨i2, ei2⟩ := is_v gg7
  obtain rfl : w2 = (.int i2) := Option.some.inj ei2
  obtain ⟨i3, ei3⟩ := is_v gg9
  obtain rfl : w3 = (.int i3) := Option.some.inj ei3
  obtain ⟨i4, ei4⟩ := is_v gg10
  obtain rfl : w4 = (.int i4) := Option.some.inj ei4
  have ecs := Cond.before_iff.mp (hsets _ (List.mem_of_getElem? (i := 1) rfl))
  obtain ⟨cs, evs⟩ := is_v ecs
  have SS1 : Sta s s.heap "java/lang/String" "COMPACT_STRINGS" "Z" (.int cs) := Sta.start evs (Or.inl (hsets _ (List.mem_of_getElem? (i := 0) rfl)))
  have enz := not_v (Cond.before_iff.mp (hsets _ (List.mem_of_getElem? (i := 2) rfl)))
  have hnz : ¬ (cs = (0 : Int32)) := fun q => by subst q; exact absurd enz (by rw [eq_i evs (Term.int_eval 0) rfl]; decide)
  obtain ⟨n, o, h1, h2, h3, _, L, rfl, ⟨rfl, N⟩, hq⟩ := rm0 l s _ hw tables_1 i0 i1 i2 i3 i4 cs s.heap s.heap.size (Nat.le_refl _) (Old.start s) SS1 hnz p e ha hc hk s m _ below hf ((Spec.applies_iff_loose hf).mp happ).1 ⟨rfl, State.Warmed39.refl s, rfl⟩ trivial
  refine ⟨n, _, h1, h2, h3, hpost _ _ _ _ _ _ ⟨Cond.after_iff.mpr rfl, Cond.after_iff.mpr (eq_i res_at (Term.int_eval (1)) rfl), trivial⟩ ⟨hq.1, hq.2.1, hq.2.2.1, (hq.2.2.2.sift fun y hy => Or.inr (N y hy)).mono (by decide) (by decide)⟩⟩
theorem main_1_1 : Claimed_1_1 := comes_1 fun _ _ _ _ _ _ h hF => ⟨h.1, hF⟩
theorem main_1_2 : Claimed_1_2 := comes_1 fun _ _ _ _ _ _ h hF => ⟨h.2.1, hF⟩
end Jvm.Pilot.@@N@@
namespace Jvm.Pilot.@@N@@
open Jvm Jvm.ClassFile Sem Op Lib Jvm.Free Jvm.Stand Jvm.Pilot.@@N@@.Jvm.D
/-! MADE BY PROGRAM (witnessworld.py) out of the Statement's table words and the real class files: 20 classes; the members and pool entries that the words name. The judged class is class 1, her method 1. -/
namespace start1
open Jvm.ClassFile
def u (s : String) : CpInfo := .utf8 (stringToUtf16 s)
/-- a pool by its gaps: so many unusable entries, then the entry; so many at the end -/
def gap : Nat → List CpInfo → List CpInfo
  | 0, r => r
  | n + 1, r => .unusable :: gap n r
def poolList (es : List (Nat × CpInfo)) (last : Nat) : List CpInfo := es.foldr (fun e r => gap e.1 (e.2 :: r)) (gap last [])
def pool (es : List (Nat × CpInfo)) (last : Nat) : Array CpInfo := ⟨poolList es last⟩
def fileOf (pool : Array CpInfo) (this : Nat) (attrs : Array Attribute := #[]) (ms : Array MethodInfo := #[]) (fl : Nat := 33) (sup : Nat := 0) (ifs : Array Nat := #[]) (fds : Array FieldInfo := #[]) : ClassFile where
  minorVersion := 0
  majorVersion := 65
  constantPool := pool
  accessFlags := fl
  thisClass := this
  superClass := sup
  interfaces := ifs
  fields := fds
  methods := ms
  attributes := attrs
def plain (name : String) (sup : Option ClassId) : Class where
  name := name
  kind := .ordinary
  loader := none
  accessFlags := 33
  super := sup
  interfaces := #[]
  cf := none
  fields := #[]
  methods := #[]
  instanceTypes := #[]
  staticTypes := #[]
  resolved := #[]
  callSites := []
  init := .initialized
  statics := none
  mirror := none

def pool0 : Array CpInfo := pool [(5, u "<init>"), (0, u "()V"), (1, .class_ 10), (1, u "java/lang/Object")] 113

def k0c0 : Code := { maxStack := 0, maxLocals := 1, code := object_method_1_code, exceptionTable := #[], attributes := #[] }
def k0m0 : Method := { name := "<init>", desc := "()V", sig := { parameters := [], returnType := none }, accessFlags := 1, code := some k0c0 }
/-- java/lang/Object -/
def k0 : Class := { plain "java/lang/Object" none with
  accessFlags := 33
  interfaces := #[]
  cf := some (fileOf pool0 8 #[] #[{ accessFlags := 1, nameIndex := 5, descriptorIndex := 6, attributes := #[] }] 33 0 #[] #[])
  fields := #[]
  methods := #[k0m0]
  instanceTypes := #[]
  staticTypes := #[]
  resolved := Array.replicate 124 none
  statics := none }

def pool1 : Array CpInfo := pool [(2, .class_ 4), (1, u "java/lang/Object"), (0, u "<init>"), (0, u "()V"), (0, .integer 1073741823), (0, .methodref 9 10), (0, .class_ 11), (0, .nameAndType 12 13), (0, u "java/lang/String"), (0, u "valueOf"), (0, u "(C)Ljava/lang/String;"), (0, .class_ 15), (0, u "com/example/lexiform/lexiform/logicalform/Phrase"), (0, .methodref 14 17), (0, .nameAndType 5 18), (0, u "(Ljava/lang/String;II)V"), (0, .class_ 20), (0, u "com/example/lexiform/lexiform/logicalform/WordRole"), (0, .methodref 19 22), (0, .nameAndType 5 23), (0, u "(Ljava/lang/String;Ljava/lang/String;II)V"), (0, .methodref 14 25), (0, .nameAndType 26 27), (0, u "holds"), (0, u "(Lcom/example/lexiform/lexiform/logicalform/WordRole;)Z"), (0, .class_ 29), (0, u "com/example/lexiform/lexiform/logicalform/PhraseHoldsPinLaw"), (2, u "law"), (0, u "(IIIII)Z")] 3

def k1m0 : Method := { name := "<init>", desc := "()V", sig := { parameters := [], returnType := none }, accessFlags := 1, code := none }
def k1c1 : Code := { maxStack := 6, maxLocals := 26, code := code, exceptionTable := #[], attributes := #[] }
def k1m1 : Method := { name := "law", desc := "(IIIII)Z", sig := { parameters := [.int, .int, .int, .int, .int], returnType := some .boolean }, accessFlags := 9, code := some k1c1 }
/-- com/example/lexiform/lexiform/logicalform/PhraseHoldsPinLaw -/
def k1 : Class := { plain "com/example/lexiform/lexiform/logicalform/PhraseHoldsPinLaw" (some 0) with
  accessFlags := 49
  interfaces := #[]
  cf := some (fileOf pool1 28 #[] #[{ accessFlags := 1, nameIndex := 5, descriptorIndex := 6, attributes := #[] }, { accessFlags := 9, nameIndex := 32, descriptorIndex := 33, attributes := #[] }] 49 2 #[] #[])
  fields := #[]
  methods := #[k1m0, k1m1]
  instanceTypes := #[]
  staticTypes := #[]
  resolved := Array.replicate 37 none
  statics := none }

def pool2 : Array CpInfo := pool [(1, .class_ 2), (0, u "java/io/Serializable"), (0, .class_ 4), (0, u "java/lang/Object")] 2

/-- java/io/Serializable -/
def k2 : Class := { plain "java/io/Serializable" (some 0) with
  accessFlags := 1537
  interfaces := #[]
  cf := some (fileOf pool2 1 #[] #[] 1537 3 #[] #[])
  fields := #[]
  methods := #[]
  instanceTypes := #[]
  staticTypes := #[]
  resolved := Array.replicate 7 none
  statics := none }

def pool3 : Array CpInfo := pool [(1, .class_ 2), (0, u "java/lang/Comparable"), (0, .class_ 4), (0, u "java/lang/Object")] 7

/-- java/lang/Comparable -/
def k3 : Class := { plain "java/lang/Comparable" (some 0) with
  accessFlags := 1537
  interfaces := #[]
  cf := some (fileOf pool3 1 #[] #[] 1537 3 #[] #[])
  fields := #[]
  methods := #[]
  instanceTypes := #[]
  staticTypes := #[]
  resolved := Array.replicate 12 none
  statics := none }

def pool4 : Array CpInfo := pool [(2, .class_ 4), (1, u "java/lang/CharSequence"), (42, .class_ 48), (0, u "java/lang/CharSequence$1CodePointIterator"), (10, .class_ 60), (0, u "java/lang/CharSequence$1CharIterator"), (5, .class_ 67), (0, u "java/lang/Object")] 63

/-- java/lang/CharSequence -/
def k4 : Class := { plain "java/lang/CharSequence" (some 0) with
  accessFlags := 1537
  interfaces := #[]
  cf := some (fileOf pool4 2 #[.nestMembers #[47, 59]] #[] 1537 66 #[] #[])
  fields := #[]
  methods := #[]
  instanceTypes := #[]
  staticTypes := #[]
  resolved := Array.replicate 131 none
  statics := none }

def pool5 : Array CpInfo := pool [(1, .class_ 2), (0, u "java/lang/constant/Constable"), (0, .class_ 4), (0, u "java/lang/Object")] 6

/-- java/lang/constant/Constable -/
def k5 : Class := { plain "java/lang/constant/Constable" (some 0) with
  accessFlags := 1537
  interfaces := #[]
  cf := some (fileOf pool5 1 #[] #[] 1537 3 #[] #[])
  fields := #[]
  methods := #[]
  instanceTypes := #[]
  staticTypes := #[]
  resolved := Array.replicate 11 none
  statics := none }

def pool6 : Array CpInfo := pool [(1, .class_ 2), (0, u "java/lang/constant/ConstantDesc"), (0, .class_ 4), (0, u "java/lang/Object")] 32

/-- java/lang/constant/ConstantDesc -/
def k6 : Class := { plain "java/lang/constant/ConstantDesc" (some 0) with
  accessFlags := 1537
  interfaces := #[]
  cf := some (fileOf pool6 1 #[] #[] 1537 3 #[] #[])
  fields := #[]
  methods := #[]
  instanceTypes := #[]
  staticTypes := #[]
  resolved := Array.replicate 37 none
  statics := none }

def pool7 : Array CpInfo := pool [(1, .methodref 2 3), (0, .class_ 4), (0, .nameAndType 5 6), (0, u "java/lang/Object"), (0, u "<init>"), (0, u "()V"), (2, .fieldref 10 11), (0, .class_ 12), (0, .nameAndType 13 14), (0, u "java/lang/String"), (0, u "value"), (0, u "[B"), (0, .fieldref 10 16), (0, .nameAndType 17 18), (0, u "coder"), (0, u "B"), (2, u "hash"), (0, u "I"), (2, u "hashIsZero"), (0, u "Z"), (11, .fieldref 10 39), (0, .nameAndType 40 26), (0, u "COMPACT_STRINGS"), (12, u "toBytes"), (53, .class_ 109), (1, u "java/lang/StringLatin1"), (99, .methodref 10 210), (0, .nameAndType 5 211), (0, u "([BB)V"), (157, u "(C)Z"), (205, .class_ 576), (0, u "java/lang/CharSequence"), (22, u "CASE_INSENSITIVE_ORDER"), (0, u "Ljava/util/Comparator;"), (181, u "valueOf"), (0, u "(C)Ljava/lang/String;"), (231, .methodref 107 1016), (0, .nameAndType 1017 369), (0, u "canEncode"), (0, .methodref 107 1019), (0, .nameAndType 53 1020), (0, u "(C)[B"), (80, u "serialPersistentFields"), (0, u "[Ljava/io/ObjectStreamField;"), (0, .class_ 1104), (0, u "java/lang/String$CaseInsensitiveComparator"), (1, .class_ 1107), (0, u "java/io/Serializable"), (0, .class_ 1109), (0, u "java/lang/Comparable"), (0, .class_ 1111), (0, u "java/lang/constant/Constable"), (0, .class_ 1113), (0, u "java/lang/constant/ConstantDesc"), (2, u "serialVersionUID"), (0, u "J"), (3, u "REPL"), (0, u "C"), (2, u "LATIN1"), (1, u "UTF16")] 323

def k7m0 : Method := { name := "<init>", desc := "()V", sig := { parameters := [], returnType := none }, accessFlags := 1, code := none }
def k7c1 : Code := { maxStack := 4, maxLocals := 1, code := jdk_42_method_139_code, exceptionTable := #[], attributes := #[] }
def k7m1 : Method := { name := "valueOf", desc := "(C)Ljava/lang/String;", sig := { parameters := [.char], returnType := some (.object "java/lang/String") }, accessFlags := 9, code := some k7c1 }
def k7c2 : Code := { maxStack := 2, maxLocals := 3, code := jdk_42_method_151_code, exceptionTable := #[], attributes := #[] }
def k7m2 : Method := { name := "<init>", desc := "([BB)V", sig := { parameters := [(.array .byte), .byte], returnType := none }, accessFlags := 0, code := some k7c2 }
/-- java/lang/String -/
def k7 : Class := { plain "java/lang/String" (some 0) with
  accessFlags := 49
  interfaces := #[2, 3, 4, 5, 6]
  cf := some (fileOf pool7 10 #[.nestMembers #[1103]] #[{ accessFlags := 1, nameIndex := 5, descriptorIndex := 6, attributes := #[] }, { accessFlags := 9, nameIndex := 782, descriptorIndex := 783, attributes := #[] }, { accessFlags := 0, nameIndex := 5, descriptorIndex := 211, attributes := #[] }] 49 2 #[1106, 1108, 575, 1110, 1112] #[{ accessFlags := 18, nameIndex := 13, descriptorIndex := 14, attributes := #[] }, { accessFlags := 18, nameIndex := 17, descriptorIndex := 18, attributes := #[] }, { accessFlags := 2, nameIndex := 21, descriptorIndex := 22, attributes := #[] }, { accessFlags := 2, nameIndex := 25, descriptorIndex := 26, attributes := #[] }, { accessFlags := 26, nameIndex := 1116, descriptorIndex := 1117, attributes := #[] }, { accessFlags := 24, nameIndex := 40, descriptorIndex := 26, attributes := #[] }, { accessFlags := 26, nameIndex := 1101, descriptorIndex := 1102, attributes := #[] }, { accessFlags := 26, nameIndex := 1121, descriptorIndex := 1122, attributes := #[] }, { accessFlags := 25, nameIndex := 599, descriptorIndex := 600, attributes := #[] }, { accessFlags := 24, nameIndex := 1125, descriptorIndex := 18, attributes := #[] }, { accessFlags := 24, nameIndex := 1127, descriptorIndex := 18, attributes := #[] }])
  fields := #[{ name := "value", type := (.array .byte), accessFlags := 18, slot := 0, constantValue := 0 }, { name := "coder", type := .byte, accessFlags := 18, slot := 1, constantValue := 0 }, { name := "hash", type := .int, accessFlags := 2, slot := 2, constantValue := 0 }, { name := "hashIsZero", type := .boolean, accessFlags := 2, slot := 3, constantValue := 0 }, { name := "serialVersionUID", type := .long, accessFlags := 26, slot := 0, constantValue := 0 }, { name := "COMPACT_STRINGS", type := .boolean, accessFlags := 24, slot := 1, constantValue := 0 }, { name := "serialPersistentFields", type := (.array (.object "java/io/ObjectStreamField")), accessFlags := 26, slot := 2, constantValue := 0 }, { name := "REPL", type := .char, accessFlags := 26, slot := 3, constantValue := 0 }, { name := "CASE_INSENSITIVE_ORDER", type := (.object "java/util/Comparator"), accessFlags := 25, slot := 4, constantValue := 0 }, { name := "LATIN1", type := .byte, accessFlags := 24, slot := 5, constantValue := 0 }, { name := "UTF16", type := .byte, accessFlags := 24, slot := 6, constantValue := 0 }]
  methods := #[k7m0, k7m1, k7m2]
  instanceTypes := #[(.array .byte), .byte, .int, .boolean]
  staticTypes := #[.long, .boolean, (.array (.object "java/io/ObjectStreamField")), .char, (.object "java/util/Comparator"), .byte, .byte]
  resolved := Array.replicate 1451 none
  statics := some 0 }

def pool8 : Array CpInfo := pool [(4, .class_ 6), (1, u "java/lang/Object"), (0, u "<init>"), (0, u "()V"), (5, .class_ 16), (1, u "java/lang/StringLatin1"), (73, u "canEncode"), (14, u "(C)Z"), (15, u "$assertionsDisabled"), (0, u "Z"), (98, .class_ 223), (1, u "java/lang/StringLatin1$LinesSpliterator"), (156, u "toBytes"), (1, u "(C)[B"), (7, .class_ 391), (0, u "java/lang/StringLatin1$CharsSpliterator")] 3

def k8m0 : Method := { name := "<init>", desc := "()V", sig := { parameters := [], returnType := none }, accessFlags := 0, code := none }
def k8c1 : Code := { maxStack := 2, maxLocals := 1, code := jdk_43_method_3_code, exceptionTable := #[], attributes := #[] }
def k8m1 : Method := { name := "canEncode", desc := "(C)Z", sig := { parameters := [.char], returnType := some .boolean }, accessFlags := 9, code := some k8c1 }
def k8c2 : Code := { maxStack := 4, maxLocals := 1, code := jdk_43_method_46_code, exceptionTable := #[], attributes := #[] }
def k8m2 : Method := { name := "toBytes", desc := "(C)[B", sig := { parameters := [.char], returnType := some (.array .byte) }, accessFlags := 9, code := some k8c2 }
/-- java/lang/StringLatin1 -/
def k8 : Class := { plain "java/lang/StringLatin1" (some 0) with
  accessFlags := 48
  interfaces := #[]
  cf := some (fileOf pool8 14 #[.nestMembers #[390, 221]] #[{ accessFlags := 0, nameIndex := 7, descriptorIndex := 8, attributes := #[] }, { accessFlags := 9, nameIndex := 90, descriptorIndex := 105, attributes := #[] }, { accessFlags := 9, nameIndex := 380, descriptorIndex := 382, attributes := #[] }] 48 4 #[] #[{ accessFlags := 4120, nameIndex := 121, descriptorIndex := 122, attributes := #[] }])
  fields := #[{ name := "$assertionsDisabled", type := .boolean, accessFlags := 4120, slot := 0, constantValue := 0 }]
  methods := #[k8m0, k8m1, k8m2]
  instanceTypes := #[]
  staticTypes := #[.boolean]
  resolved := Array.replicate 395 none
  statics := none }

def pool9 : Array CpInfo := pool [(1, .methodref 2 3), (0, .class_ 4), (0, .nameAndType 5 6), (0, u "java/lang/Object"), (0, u "<init>"), (0, u "()V"), (0, .class_ 8), (0, u "java/lang/Record")] 13

def k9c0 : Code := { maxStack := 1, maxLocals := 1, code := jdk_30_method_1_code, exceptionTable := #[], attributes := #[] }
def k9m0 : Method := { name := "<init>", desc := "()V", sig := { parameters := [], returnType := none }, accessFlags := 4, code := some k9c0 }
/-- java/lang/Record -/
def k9 : Class := { plain "java/lang/Record" (some 0) with
  accessFlags := 1057
  interfaces := #[]
  cf := some (fileOf pool9 7 #[] #[{ accessFlags := 4, nameIndex := 5, descriptorIndex := 6, attributes := #[] }] 1057 2 #[] #[])
  fields := #[]
  methods := #[k9m0]
  instanceTypes := #[]
  staticTypes := #[]
  resolved := Array.replicate 22 none
  statics := none }

def pool10 : Array CpInfo := pool [(1, .methodref 2 3), (0, .class_ 4), (0, .nameAndType 5 6), (0, u "java/lang/Record"), (0, u "<init>"), (0, u "()V"), (0, .string 8), (0, u "role"), (0, .methodref 10 11), (0, .class_ 12), (0, .nameAndType 13 14), (0, u "java/util/Objects"), (0, u "requireNonNull"), (0, u "(Ljava/lang/Object;Ljava/lang/String;)Ljava/lang/Object;"), (9, .fieldref 25 26), (0, .class_ 27), (0, .nameAndType 8 28), (0, u "com/example/lexiform/lexiform/logicalform/Phrase"), (0, u "Ljava/lang/String;"), (0, .fieldref 25 30), (0, .nameAndType 31 32), (0, u "offset"), (0, u "I"), (0, .fieldref 25 34), (0, .nameAndType 35 32), (0, u "length"), (5, .methodref 42 43), (0, .class_ 44), (0, .nameAndType 31 45), (0, u "com/example/lexiform/lexiform/logicalform/WordRole"), (0, u "()I"), (0, .methodref 42 47), (0, .nameAndType 35 45), (12, u "(Ljava/lang/String;II)V"), (6, u "holds"), (0, u "(Lcom/example/lexiform/lexiform/logicalform/WordRole;)Z")] 32

def k10c0 : Code := { maxStack := 4, maxLocals := 4, code := prog_23_method_1_code, exceptionTable := #[], attributes := #[] }
def k10m0 : Method := { name := "<init>", desc := "(Ljava/lang/String;II)V", sig := { parameters := [(.object "java/lang/String"), .int, .int], returnType := none }, accessFlags := 1, code := some k10c0 }
def k10c1 : Code := { maxStack := 3, maxLocals := 2, code := prog_23_method_3_code, exceptionTable := #[], attributes := #[] }
def k10m1 : Method := { name := "holds", desc := "(Lcom/example/lexiform/lexiform/logicalform/WordRole;)Z", sig := { parameters := [(.object "com/example/lexiform/lexiform/logicalform/WordRole")], returnType := some .boolean }, accessFlags := 1, code := some k10c1 }
/-- com/example/lexiform/lexiform/logicalform/Phrase -/
def k10 : Class := { plain "com/example/lexiform/lexiform/logicalform/Phrase" (some 9) with
  accessFlags := 49
  interfaces := #[]
  cf := some (fileOf pool10 25 #[] #[{ accessFlags := 1, nameIndex := 5, descriptorIndex := 60, attributes := #[] }, { accessFlags := 1, nameIndex := 67, descriptorIndex := 68, attributes := #[] }] 49 2 #[] #[{ accessFlags := 18, nameIndex := 8, descriptorIndex := 28, attributes := #[] }, { accessFlags := 18, nameIndex := 31, descriptorIndex := 32, attributes := #[] }, { accessFlags := 18, nameIndex := 35, descriptorIndex := 32, attributes := #[] }])
  fields := #[{ name := "role", type := (.object "java/lang/String"), accessFlags := 18, slot := 0, constantValue := 0 }, { name := "offset", type := .int, accessFlags := 18, slot := 1, constantValue := 0 }, { name := "length", type := .int, accessFlags := 18, slot := 2, constantValue := 0 }]
  methods := #[k10m0, k10m1]
  instanceTypes := #[(.object "java/lang/String"), .int, .int]
  staticTypes := #[]
  resolved := Array.replicate 101 none
  statics := none }

def pool11 : Array CpInfo := pool [(2, .class_ 4), (1, u "java/lang/Object"), (0, u "<init>"), (0, u "()V"), (35, .class_ 44), (1, u "java/util/Objects"), (0, u "requireNonNull"), (48, u "(Ljava/lang/Object;Ljava/lang/String;)Ljava/lang/Object;")] 89

def k11m0 : Method := { name := "<init>", desc := "()V", sig := { parameters := [], returnType := none }, accessFlags := 2, code := none }
def k11c1 : Code := { maxStack := 3, maxLocals := 2, code := jdk_31_method_11_code, exceptionTable := #[], attributes := #[] }
def k11m1 : Method := { name := "requireNonNull", desc := "(Ljava/lang/Object;Ljava/lang/String;)Ljava/lang/Object;", sig := { parameters := [(.object "java/lang/Object"), (.object "java/lang/String")], returnType := some (.object "java/lang/Object") }, accessFlags := 9, code := some k11c1 }
/-- java/util/Objects -/
def k11 : Class := { plain "java/util/Objects" (some 0) with
  accessFlags := 49
  interfaces := #[]
  cf := some (fileOf pool11 42 #[] #[{ accessFlags := 2, nameIndex := 5, descriptorIndex := 6, attributes := #[] }, { accessFlags := 9, nameIndex := 45, descriptorIndex := 94, attributes := #[] }] 49 2 #[] #[])
  fields := #[]
  methods := #[k11m0, k11m1]
  instanceTypes := #[]
  staticTypes := #[]
  resolved := Array.replicate 184 none
  statics := none }

def pool12 : Array CpInfo := pool [(1, .methodref 2 3), (0, .class_ 4), (0, .nameAndType 5 6), (0, u "java/lang/Record"), (0, u "<init>"), (0, u "()V"), (0, .string 8), (0, u "term"), (0, .methodref 10 11), (0, .class_ 12), (0, .nameAndType 13 14), (0, u "java/util/Objects"), (0, u "requireNonNull"), (0, u "(Ljava/lang/Object;Ljava/lang/String;)Ljava/lang/Object;"), (0, .string 16), (0, u "role"), (9, .fieldref 27 28), (0, .class_ 29), (0, .nameAndType 8 30), (0, u "com/example/lexiform/lexiform/logicalform/WordRole"), (0, u "Ljava/lang/String;"), (0, .fieldref 27 32), (0, .nameAndType 16 30), (0, .fieldref 27 34), (0, .nameAndType 35 36), (0, u "offset"), (0, u "I"), (0, .fieldref 27 38), (0, .nameAndType 39 36), (0, u "length"), (17, u "(Ljava/lang/String;Ljava/lang/String;II)V"), (7, u "()I")] 32

def k12c0 : Code := { maxStack := 4, maxLocals := 5, code := prog_33_method_1_code, exceptionTable := #[], attributes := #[] }
def k12m0 : Method := { name := "<init>", desc := "(Ljava/lang/String;Ljava/lang/String;II)V", sig := { parameters := [(.object "java/lang/String"), (.object "java/lang/String"), .int, .int], returnType := none }, accessFlags := 1, code := some k12c0 }
def k12c1 : Code := { maxStack := 1, maxLocals := 1, code := prog_33_method_8_code, exceptionTable := #[], attributes := #[] }
def k12m1 : Method := { name := "offset", desc := "()I", sig := { parameters := [], returnType := some .int }, accessFlags := 1, code := some k12c1 }
def k12c2 : Code := { maxStack := 1, maxLocals := 1, code := prog_33_method_9_code, exceptionTable := #[], attributes := #[] }
def k12m2 : Method := { name := "length", desc := "()I", sig := { parameters := [], returnType := some .int }, accessFlags := 1, code := some k12c2 }
/-- com/example/lexiform/lexiform/logicalform/WordRole -/
def k12 : Class := { plain "com/example/lexiform/lexiform/logicalform/WordRole" (some 9) with
  accessFlags := 49
  interfaces := #[]
  cf := some (fileOf pool12 27 #[] #[{ accessFlags := 1, nameIndex := 5, descriptorIndex := 57, attributes := #[] }, { accessFlags := 1, nameIndex := 35, descriptorIndex := 65, attributes := #[] }, { accessFlags := 1, nameIndex := 39, descriptorIndex := 65, attributes := #[] }] 49 2 #[] #[{ accessFlags := 18, nameIndex := 8, descriptorIndex := 30, attributes := #[] }, { accessFlags := 18, nameIndex := 16, descriptorIndex := 30, attributes := #[] }, { accessFlags := 18, nameIndex := 35, descriptorIndex := 36, attributes := #[] }, { accessFlags := 18, nameIndex := 39, descriptorIndex := 36, attributes := #[] }])
  fields := #[{ name := "term", type := (.object "java/lang/String"), accessFlags := 18, slot := 0, constantValue := 0 }, { name := "role", type := (.object "java/lang/String"), accessFlags := 18, slot := 1, constantValue := 0 }, { name := "offset", type := .int, accessFlags := 18, slot := 2, constantValue := 0 }, { name := "length", type := .int, accessFlags := 18, slot := 3, constantValue := 0 }]
  methods := #[k12m0, k12m1, k12m2]
  instanceTypes := #[(.object "java/lang/String"), (.object "java/lang/String"), .int, .int]
  staticTypes := #[]
  resolved := Array.replicate 98 none
  statics := none }

def pool13 : Array CpInfo := pool [(2, .class_ 4), (1, u "java/lang/Object"), (0, u "<init>"), (0, u "()V"), (17, .class_ 26), (1, u "jdk/internal/util/Preconditions"), (28, .class_ 56), (0, u "jdk/internal/util/Preconditions$4"), (57, .class_ 115), (0, u "jdk/internal/util/Preconditions$1"), (7, u "SIOOBE_FORMATTER"), (0, u "Ljava/util/function/BiFunction;"), (0, .class_ 126), (0, u "jdk/internal/util/Preconditions$2"), (3, u "AIOOBE_FORMATTER"), (0, .class_ 132), (0, u "jdk/internal/util/Preconditions$3"), (3, u "IOOBE_FORMATTER")] 57

def k13m0 : Method := { name := "<init>", desc := "()V", sig := { parameters := [], returnType := none }, accessFlags := 1, code := none }
/-- jdk/internal/util/Preconditions -/
def k13 : Class := { plain "jdk/internal/util/Preconditions" (some 0) with
  accessFlags := 33
  interfaces := #[]
  cf := some (fileOf pool13 24 #[.nestMembers #[55, 131, 125, 114]] #[{ accessFlags := 1, nameIndex := 5, descriptorIndex := 6, attributes := #[] }] 33 2 #[] #[{ accessFlags := 25, nameIndex := 123, descriptorIndex := 124, attributes := #[] }, { accessFlags := 25, nameIndex := 130, descriptorIndex := 124, attributes := #[] }, { accessFlags := 25, nameIndex := 136, descriptorIndex := 124, attributes := #[] }])
  fields := #[{ name := "SIOOBE_FORMATTER", type := (.object "java/util/function/BiFunction"), accessFlags := 25, slot := 0, constantValue := 0 }, { name := "AIOOBE_FORMATTER", type := (.object "java/util/function/BiFunction"), accessFlags := 25, slot := 1, constantValue := 0 }, { name := "IOOBE_FORMATTER", type := (.object "java/util/function/BiFunction"), accessFlags := 25, slot := 2, constantValue := 0 }]
  methods := #[k13m0]
  instanceTypes := #[]
  staticTypes := #[(.object "java/util/function/BiFunction"), (.object "java/util/function/BiFunction"), (.object "java/util/function/BiFunction")]
  resolved := Array.replicate 194 none
  statics := some 1 }

def pool14 : Array CpInfo := pool [(9, u "<init>"), (6, .class_ 18), (1, u "java/lang/Object"), (0, u "()V"), (1, .class_ 23), (1, u "jdk/internal/util/ArraysSupport"), (0, u "LOG2_ARRAY_LONG_INDEX_SCALE"), (0, u "I"), (2, u "U"), (0, u "Ljdk/internal/misc/Unsafe;"), (8, u "BIG_ENDIAN"), (0, u "Z"), (8, u "LOG2_BYTE_BIT_SIZE"), (4, u "LOG2_ARRAY_INT_INDEX_SCALE"), (54, u "JLA"), (0, u "Ljdk/internal/access/JavaLangAccess;"), (11, u "LOG2_ARRAY_BOOLEAN_INDEX_SCALE"), (9, u "LOG2_ARRAY_BYTE_INDEX_SCALE"), (5, u "LOG2_ARRAY_CHAR_INDEX_SCALE"), (5, u "LOG2_ARRAY_SHORT_INDEX_SCALE"), (18, u "LOG2_ARRAY_FLOAT_INDEX_SCALE"), (24, u "LOG2_ARRAY_DOUBLE_INDEX_SCALE"), (89, u "T_BOOLEAN"), (2, u "T_CHAR"), (1, u "T_FLOAT"), (1, u "T_DOUBLE"), (1, u "T_BYTE"), (1, u "T_SHORT"), (1, u "T_INT"), (1, u "T_LONG"), (1, u "SOFT_MAX_ARRAY_LENGTH")] 83

def k14m0 : Method := { name := "<init>", desc := "()V", sig := { parameters := [], returnType := none }, accessFlags := 2, code := none }
/-- jdk/internal/util/ArraysSupport -/
def k14 : Class := { plain "jdk/internal/util/ArraysSupport" (some 0) with
  accessFlags := 33
  interfaces := #[]
  cf := some (fileOf pool14 21 #[] #[{ accessFlags := 2, nameIndex := 9, descriptorIndex := 19, attributes := #[] }] 33 16 #[] #[{ accessFlags := 24, nameIndex := 28, descriptorIndex := 29, attributes := #[] }, { accessFlags := 26, nameIndex := 38, descriptorIndex := 39, attributes := #[] }, { accessFlags := 25, nameIndex := 121, descriptorIndex := 25, attributes := #[] }, { accessFlags := 25, nameIndex := 131, descriptorIndex := 25, attributes := #[] }, { accessFlags := 25, nameIndex := 137, descriptorIndex := 25, attributes := #[] }, { accessFlags := 25, nameIndex := 143, descriptorIndex := 25, attributes := #[] }, { accessFlags := 25, nameIndex := 53, descriptorIndex := 25, attributes := #[] }, { accessFlags := 25, nameIndex := 24, descriptorIndex := 25, attributes := #[] }, { accessFlags := 25, nameIndex := 162, descriptorIndex := 25, attributes := #[] }, { accessFlags := 25, nameIndex := 187, descriptorIndex := 25, attributes := #[] }, { accessFlags := 26, nameIndex := 48, descriptorIndex := 25, attributes := #[] }, { accessFlags := 25, nameIndex := 277, descriptorIndex := 25, attributes := #[] }, { accessFlags := 25, nameIndex := 280, descriptorIndex := 25, attributes := #[] }, { accessFlags := 25, nameIndex := 282, descriptorIndex := 25, attributes := #[] }, { accessFlags := 25, nameIndex := 284, descriptorIndex := 25, attributes := #[] }, { accessFlags := 25, nameIndex := 286, descriptorIndex := 25, attributes := #[] }, { accessFlags := 25, nameIndex := 288, descriptorIndex := 25, attributes := #[] }, { accessFlags := 25, nameIndex := 290, descriptorIndex := 25, attributes := #[] }, { accessFlags := 25, nameIndex := 292, descriptorIndex := 25, attributes := #[] }, { accessFlags := 26, nameIndex := 108, descriptorIndex := 109, attributes := #[] }, { accessFlags := 25, nameIndex := 294, descriptorIndex := 25, attributes := #[] }])
  fields := #[{ name := "U", type := (.object "jdk/internal/misc/Unsafe"), accessFlags := 24, slot := 0, constantValue := 0 }, { name := "BIG_ENDIAN", type := .boolean, accessFlags := 26, slot := 1, constantValue := 0 }, { name := "LOG2_ARRAY_BOOLEAN_INDEX_SCALE", type := .int, accessFlags := 25, slot := 2, constantValue := 0 }, { name := "LOG2_ARRAY_BYTE_INDEX_SCALE", type := .int, accessFlags := 25, slot := 3, constantValue := 0 }, { name := "LOG2_ARRAY_CHAR_INDEX_SCALE", type := .int, accessFlags := 25, slot := 4, constantValue := 0 }, { name := "LOG2_ARRAY_SHORT_INDEX_SCALE", type := .int, accessFlags := 25, slot := 5, constantValue := 0 }, { name := "LOG2_ARRAY_INT_INDEX_SCALE", type := .int, accessFlags := 25, slot := 6, constantValue := 0 }, { name := "LOG2_ARRAY_LONG_INDEX_SCALE", type := .int, accessFlags := 25, slot := 7, constantValue := 0 }, { name := "LOG2_ARRAY_FLOAT_INDEX_SCALE", type := .int, accessFlags := 25, slot := 8, constantValue := 0 }, { name := "LOG2_ARRAY_DOUBLE_INDEX_SCALE", type := .int, accessFlags := 25, slot := 9, constantValue := 0 }, { name := "LOG2_BYTE_BIT_SIZE", type := .int, accessFlags := 26, slot := 10, constantValue := 0 }, { name := "T_BOOLEAN", type := .int, accessFlags := 25, slot := 11, constantValue := 0 }, { name := "T_CHAR", type := .int, accessFlags := 25, slot := 12, constantValue := 0 }, { name := "T_FLOAT", type := .int, accessFlags := 25, slot := 13, constantValue := 0 }, { name := "T_DOUBLE", type := .int, accessFlags := 25, slot := 14, constantValue := 0 }, { name := "T_BYTE", type := .int, accessFlags := 25, slot := 15, constantValue := 0 }, { name := "T_SHORT", type := .int, accessFlags := 25, slot := 16, constantValue := 0 }, { name := "T_INT", type := .int, accessFlags := 25, slot := 17, constantValue := 0 }, { name := "T_LONG", type := .int, accessFlags := 25, slot := 18, constantValue := 0 }, { name := "JLA", type := (.object "jdk/internal/access/JavaLangAccess"), accessFlags := 26, slot := 19, constantValue := 0 }, { name := "SOFT_MAX_ARRAY_LENGTH", type := .int, accessFlags := 25, slot := 20, constantValue := 0 }]
  methods := #[k14m0]
  instanceTypes := #[]
  staticTypes := #[(.object "jdk/internal/misc/Unsafe"), .boolean, .int, .int, .int, .int, .int, .int, .int, .int, .int, .int, .int, .int, .int, .int, .int, .int, .int, (.object "jdk/internal/access/JavaLangAccess"), .int]
  resolved := Array.replicate 378 none
  statics := none }

def pool15 : Array CpInfo := pool [(1, u "java/lang/Cloneable"), (0, .class_ 1), (0, u "java/lang/Object"), (0, .class_ 3)] 3

/-- java/lang/Cloneable -/
def k15 : Class := { plain "java/lang/Cloneable" (some 0) with
  accessFlags := 1537
  interfaces := #[]
  cf := some (fileOf pool15 2 #[] #[] 1537 4 #[] #[])
  fields := #[]
  methods := #[]
  instanceTypes := #[]
  staticTypes := #[]
  resolved := Array.replicate 8 none
  statics := none }

/-- the primitive byte -/
def k16 : Class := { plain "byte" none with kind := .primitive 'B', accessFlags := 0x411 }
/-- [B -/
def k17 : Class := { plain "[B" (some 0) with kind := .array 16 .byte, interfaces := #[15, 2], accessFlags := 1041 }

/-- the primitive int -/
def k18 : Class := { plain "int" none with kind := .primitive 'I', accessFlags := 0x411 }
/-- [I -/
def k19 : Class := { plain "[I" (some 0) with kind := .array 18 .int, interfaces := #[15, 2], accessFlags := 1041 }

def heap : Heap := #[{ cls := 7, slots := #[.long 0, .int 1, .null, .int 0, .null, .int 0, .int 0], vm := .statics 7 },
  { cls := 13, slots := #[.null, .null, .null], vm := .statics 13 }]
def classes : Array Class := #[k0, k1, k2, k3, k4, k5, k6, k7, k8, k9, k10, k11, k12, k13, k14, k15, k16, k17, k18, k19]
def interned : List (Array UInt16 × Addr) := []
def slotsUsed : Nat := 10
def theMethod : MethodId := ⟨1, 1⟩
def args0 : Array Value := #[.int 5, .int 7, .int 3, .int 1, .int 65]
def aboutOver (below : List Frame) : State where
  vm := { classes := classes, interned := interned.toArray }
  heap := heap
  slotsUsed := slotsUsed
  threads := #[{ frames := .invoking theMethod args0 :: below }]
def below0 : List Frame := [.native { method := ⟨0, 0⟩, args := #[] }]
def about1 : State := aboutOver below0
def p0 : Program := .bare "" "" ""
def e0 : Env := launch0.env 0 0 0
theorem w_frames : about1.frames = Frame.invoking theMethod args0 :: below0 := rfl
set_option maxRecDepth 65536 in
theorem w_args : argsFit about1.vm theMethod args0 = true := by decide +kernel
set_option maxRecDepth 65536 in
theorem w_heap : heapFits about1 = true := by decide +kernel
set_option maxRecDepth 65536 in
theorem w_runnable : about1.curStatus? = some .runnable := by decide +kernel
set_option maxRecDepth 65536 in
theorem w_alone : about1.alone = true := by decide +kernel
set_option maxRecDepth 65536 in
theorem w_named : about1.methodNamed? x = some theMethod := by decide +kernel
set_option maxRecDepth 65536 in
theorem w_hears : about1.hears theMethod below0 = true := by decide +kernel
set_option maxRecDepth 65536 in
theorem w_ripe : about1.ripe theMethod args0 below0 = true := by decide +kernel
theorem w_running : about1.status = .running := rfl
set_option maxRecDepth 65536 in
theorem w_room : about1.hasRoom e0.platform room_1 = true :=
  launch0.hasRoom_least _ room_1 (by decide +kernel) (by decide +kernel) (by decide +kernel) (by decide +kernel) (by decide +kernel) (by decide +kernel)
theorem allAtoms_all (ts : List Jvm.Cond) (a : Array Jvm.Value) (st : Jvm.State) : (allAtoms ts).before a st = ts.all (fun c => c.before a st) := by
  induction ts with
  | nil => rfl
  | cons c t ih =>
    show (Jvm.Cond.and c (allAtoms t)).before a st = _
    rw [Jvm.Cond.before_and, ih, List.all_cons]
def words1 : List Jvm.Cond := Jvm.Cond.code x code maxLocals ret :: tables_1
/-- a 'code' word, met by the world's own term for the bytes: nothing is compared byte by byte -/
theorem code_word {y : MethodName} {bytes : ByteArray} {mx : Nat} {rt : Option FieldType} {a : Array Value} {s : State} {m : MethodId} {meth : Method} {c : Code} (h1 : s.methodNamed? y = some m) (h2 : s.vm.method? m = some meth) (h3 : meth.code = some c) (h4 : c.code = bytes)
    (h5 : (c.maxLocals == mx && c.exceptionTable.isEmpty && decide (c.maxStack ≤ mostOperands) && decide (meth.sig.returnType = rt) && !meth.locks && decide (parseMethodDescriptor y.desc = some meth.sig)) = true) : (Jvm.Cond.code y bytes mx rt).before a s = true := by
  simp only [Bool.and_eq_true, beq_iff_eq, Bool.not_eq_true', decide_eq_true_eq] at h5
  obtain ⟨⟨⟨⟨⟨g1, g2⟩, g3⟩, g4⟩, g5⟩, g6⟩ := h5
  simp [Cond.before, Cond.holds, Cond.value, h1, h2, h3, h4, g1, g2, g3, g4, g5, g6]
def isCode : Jvm.Cond → Bool
  | .code _ _ _ _ => true
  | _ => false
theorem all_split {L : List Jvm.Cond} {P : Jvm.Cond → Bool} (h1 : L.all (fun c => isCode c || P c) = true) (h2 : ∀ c ∈ L.filter isCode, P c = true) : L.all P = true := by
  refine List.all_eq_true.mpr fun c hc => ?_
  have h := List.all_eq_true.mp h1 c hc
  rcases Bool.eq_false_or_eq_true (isCode c) with hi | hi
  · exact h2 c (List.mem_filter.mpr ⟨hc, hi⟩)
  · simpa [hi] using h
set_option maxRecDepth 65536 in
theorem w_c0 : (Jvm.Cond.code x code maxLocals ret).before args0 about1 = true := code_word (m := ⟨1, 1⟩) (meth := k1m1) (c := k1c1) (by decide +kernel) rfl rfl rfl (by decide +kernel)
set_option maxRecDepth 65536 in
theorem w_c1 : (Jvm.Cond.code ({ cls := "java/lang/String", name := "valueOf", desc := "(C)Ljava/lang/String;" } : Jvm.MethodName) jdk_42_method_139_code (1 : Nat) (Option.some (Jvm.ClassFile.FieldType.object "java/lang/String"))).before args0 about1 = true := code_word (m := ⟨7, 1⟩) (meth := k7m1) (c := k7c1) (by decide +kernel) rfl rfl rfl (by decide +kernel)
set_option maxRecDepth 65536 in
theorem w_c2 : (Jvm.Cond.code ({ cls := "java/lang/StringLatin1", name := "canEncode", desc := "(C)Z" } : Jvm.MethodName) jdk_43_method_3_code (1 : Nat) (Option.some Jvm.ClassFile.FieldType.boolean)).before args0 about1 = true := code_word (m := ⟨8, 1⟩) (meth := k8m1) (c := k8c1) (by decide +kernel) rfl rfl rfl (by decide +kernel)
set_option maxRecDepth 65536 in
theorem w_c3 : (Jvm.Cond.code ({ cls := "java/lang/StringLatin1", name := "toBytes", desc := "(C)[B" } : Jvm.MethodName) jdk_43_method_46_code (1 : Nat) (Option.some (Jvm.ClassFile.FieldType.array Jvm.ClassFile.FieldType.byte))).before args0 about1 = true := code_word (m := ⟨8, 2⟩) (meth := k8m2) (c := k8c2) (by decide +kernel) rfl rfl rfl (by decide +kernel)
set_option maxRecDepth 65536 in
theorem w_c4 : (Jvm.Cond.code ({ cls := "java/lang/String", name := "<init>", desc := "([BB)V" } : Jvm.MethodName) jdk_42_method_151_code (3 : Nat) (Option.none : Option Jvm.ClassFile.FieldType)).before args0 about1 = true := code_word (m := ⟨7, 2⟩) (meth := k7m2) (c := k7c2) (by decide +kernel) rfl rfl rfl (by decide +kernel)
set_option maxRecDepth 65536 in
theorem w_c5 : (Jvm.Cond.code ({ cls := "java/lang/Object", name := "<init>", desc := "()V" } : Jvm.MethodName) object_method_1_code (1 : Nat) (Option.none : Option Jvm.ClassFile.FieldType)).before args0 about1 = true := code_word (m := ⟨0, 0⟩) (meth := k0m0) (c := k0c0) (by decide +kernel) rfl rfl rfl (by decide +kernel)
set_option maxRecDepth 65536 in
theorem w_c6 : (Jvm.Cond.code ({ cls := "com/example/lexiform/lexiform/logicalform/Phrase", name := "<init>", desc := "(Ljava/lang/String;II)V" } : Jvm.MethodName) prog_23_method_1_code (4 : Nat) (Option.none : Option Jvm.ClassFile.FieldType)).before args0 about1 = true := code_word (m := ⟨10, 0⟩) (meth := k10m0) (c := k10c0) (by decide +kernel) rfl rfl rfl (by decide +kernel)
set_option maxRecDepth 65536 in
theorem w_c7 : (Jvm.Cond.code ({ cls := "java/lang/Record", name := "<init>", desc := "()V" } : Jvm.MethodName) jdk_30_method_1_code (1 : Nat) (Option.none : Option Jvm.ClassFile.FieldType)).before args0 about1 = true := code_word (m := ⟨9, 0⟩) (meth := k9m0) (c := k9c0) (by decide +kernel) rfl rfl rfl (by decide +kernel)
set_option maxRecDepth 65536 in
theorem w_c8 : (Jvm.Cond.code ({ cls := "java/util/Objects", name := "requireNonNull", desc := "(Ljava/lang/Object;Ljava/lang/String;)Ljava/lang/Object;" } : Jvm.MethodName) jdk_31_method_11_code (2 : Nat) (Option.some (Jvm.ClassFile.FieldType.object "java/lang/Object"))).before args0 about1 = true := code_word (m := ⟨11, 1⟩) (meth := k11m1) (c := k11c1) (by decide +kernel) rfl rfl rfl (by decide +kernel)
set_option maxRecDepth 65536 in
theorem w_c9 : (Jvm.Cond.code ({ cls := "com/example/lexiform/lexiform/logicalform/WordRole", name := "<init>", desc := "(Ljava/lang/String;Ljava/lang/String;II)V" } : Jvm.MethodName) prog_33_method_1_code (5 : Nat) (Option.none : Option Jvm.ClassFile.FieldType)).before args0 about1 = true := code_word (m := ⟨12, 0⟩) (meth := k12m0) (c := k12c0) (by decide +kernel) rfl rfl rfl (by decide +kernel)
set_option maxRecDepth 65536 in
theorem w_c10 : (Jvm.Cond.code ({ cls := "com/example/lexiform/lexiform/logicalform/Phrase", name := "holds", desc := "(Lcom/example/lexiform/lexiform/logicalform/WordRole;)Z" } : Jvm.MethodName) prog_23_method_3_code (2 : Nat) (Option.some Jvm.ClassFile.FieldType.boolean)).before args0 about1 = true := code_word (m := ⟨10, 1⟩) (meth := k10m1) (c := k10c1) (by decide +kernel) rfl rfl rfl (by decide +kernel)
set_option maxRecDepth 65536 in
theorem w_c11 : (Jvm.Cond.code ({ cls := "com/example/lexiform/lexiform/logicalform/WordRole", name := "offset", desc := "()I" } : Jvm.MethodName) prog_33_method_8_code (1 : Nat) (Option.some Jvm.ClassFile.FieldType.int)).before args0 about1 = true := code_word (m := ⟨12, 1⟩) (meth := k12m1) (c := k12c1) (by decide +kernel) rfl rfl rfl (by decide +kernel)
set_option maxRecDepth 65536 in
theorem w_c12 : (Jvm.Cond.code ({ cls := "com/example/lexiform/lexiform/logicalform/WordRole", name := "length", desc := "()I" } : Jvm.MethodName) prog_33_method_9_code (1 : Nat) (Option.some Jvm.ClassFile.FieldType.int)).before args0 about1 = true := code_word (m := ⟨12, 2⟩) (meth := k12m2) (c := k12c2) (by decide +kernel) rfl rfl rfl (by decide +kernel)
def codes1 : List Jvm.Cond := [Jvm.Cond.code x code maxLocals ret, Jvm.Cond.code ({ cls := "java/lang/String", name := "valueOf", desc := "(C)Ljava/lang/String;" } : Jvm.MethodName) jdk_42_method_139_code (1 : Nat) (Option.some (Jvm.ClassFile.FieldType.object "java/lang/String")), Jvm.Cond.code ({ cls := "java/lang/StringLatin1", name := "canEncode", desc := "(C)Z" } : Jvm.MethodName) jdk_43_method_3_code (1 : Nat) (Option.some Jvm.ClassFile.FieldType.boolean), Jvm.Cond.code ({ cls := "java/lang/StringLatin1", name := "toBytes", desc := "(C)[B" } : Jvm.MethodName) jdk_43_method_46_code (1 : Nat) (Option.some (Jvm.ClassFile.FieldType.array Jvm.ClassFile.FieldType.byte)), Jvm.Cond.code ({ cls := "java/lang/String", name := "<init>", desc := "([BB)V" } : Jvm.MethodName) jdk_42_method_151_code (3 : Nat) (Option.none : Option Jvm.ClassFile.FieldType), Jvm.Cond.code ({ cls := "java/lang/Object", name := "<init>", desc := "()V" } : Jvm.MethodName) object_method_1_code (1 : Nat) (Option.none : Option Jvm.ClassFile.FieldType), Jvm.Cond.code ({ cls := "com/example/lexiform/lexiform/logicalform/Phrase", name := "<init>", desc := "(Ljava/lang/String;II)V" } : Jvm.MethodName) prog_23_method_1_code (4 : Nat) (Option.none : Option Jvm.ClassFile.FieldType), Jvm.Cond.code ({ cls := "java/lang/Record", name := "<init>", desc := "()V" } : Jvm.MethodName) jdk_30_method_1_code (1 : Nat) (Option.none : Option Jvm.ClassFile.FieldType), Jvm.Cond.code ({ cls := "java/util/Objects", name := "requireNonNull", desc := "(Ljava/lang/Object;Ljava/lang/String;)Ljava/lang/Object;" } : Jvm.MethodName) jdk_31_method_11_code (2 : Nat) (Option.some (Jvm.ClassFile.FieldType.object "java/lang/Object")), Jvm.Cond.code ({ cls := "com/example/lexiform/lexiform/logicalform/WordRole", name := "<init>", desc := "(Ljava/lang/String;Ljava/lang/String;II)V" } : Jvm.MethodName) prog_33_method_1_code (5 : Nat) (Option.none : Option Jvm.ClassFile.FieldType), Jvm.Cond.code ({ cls := "com/example/lexiform/lexiform/logicalform/Phrase", name := "holds", desc := "(Lcom/example/lexiform/lexiform/logicalform/WordRole;)Z" } : Jvm.MethodName) prog_23_method_3_code (2 : Nat) (Option.some Jvm.ClassFile.FieldType.boolean), Jvm.Cond.code ({ cls := "com/example/lexiform/lexiform/logicalform/WordRole", name := "offset", desc := "()I" } : Jvm.MethodName) prog_33_method_8_code (1 : Nat) (Option.some Jvm.ClassFile.FieldType.int), Jvm.Cond.code ({ cls := "com/example/lexiform/lexiform/logicalform/WordRole", name := "length", desc := "()I" } : Jvm.MethodName) prog_33_method_9_code (1 : Nat) (Option.some Jvm.ClassFile.FieldType.int)]
set_option maxRecDepth 65536 in
theorem codes_eq : words1.filter isCode = codes1 := rfl
theorem w_codes : ∀ c ∈ words1.filter isCode, c.before args0 about1 = true := by
  rw [codes_eq]
  intro c hc
  simp only [codes1, List.mem_cons, List.not_mem_nil, or_false] at hc
  rcases hc with rfl | rfl | rfl | rfl | rfl | rfl | rfl | rfl | rfl | rfl | rfl | rfl | rfl
  · exact w_c0
  · exact w_c1
  · exact w_c2
  · exact w_c3
  · exact w_c4
  · exact w_c5
  · exact w_c6
  · exact w_c7
  · exact w_c8
  · exact w_c9
  · exact w_c10
  · exact w_c11
  · exact w_c12
set_option maxRecDepth 65536 in
theorem w_t1 : (words1.take 24).all (fun c => isCode c || c.before args0 about1) = true := by decide +kernel
set_option maxRecDepth 65536 in
theorem w_t2 : ((words1.drop 24).take 24).all (fun c => isCode c || c.before args0 about1) = true := by decide +kernel
set_option maxRecDepth 65536 in
theorem w_t3 : (((words1.drop 24).drop 24).take 24).all (fun c => isCode c || c.before args0 about1) = true := by decide +kernel
set_option maxRecDepth 65536 in
theorem w_t4 : (((words1.drop 24).drop 24).drop 24).all (fun c => isCode c || c.before args0 about1) = true := by decide +kernel
theorem w_tables : (allAtoms (Jvm.Cond.code x code maxLocals ret :: tables_1)).before args0 about1 = true := by
  rw [allAtoms_all]
  show words1.all (fun c => c.before args0 about1) = true
  refine all_split ?_ w_codes
  rw [← List.take_append_drop 24 words1, List.all_append, w_t1, ← List.take_append_drop 24 (words1.drop 24), List.all_append, w_t2, ← List.take_append_drop 24 ((words1.drop 24).drop 24), List.all_append, w_t3, w_t4]
  rfl
set_option maxRecDepth 65536 in
theorem w_rest : rest_1_c.before args0 about1 = true := by decide +kernel
set_option maxRecDepth 65536 in
theorem w_case : (Jvm.Cond.and given_1 narrow_1).before args0 about1 = true := by decide +kernel
theorem w_applies : (headSpec (Jvm.Cond.code x code maxLocals ret :: tables_1) room_1).applies x e0.platform about1 = true :=
  (Spec.applies_iff w_frames).mpr ⟨w_running, w_runnable, w_alone, w_named, w_hears, w_ripe, w_room, w_tables⟩
theorem atStart : AtStart classFile x code maxLocals ret World_1 tables_1 room_1 Calls_1 rest_1 Pre_1 launch0 p0 e0 about1 theMethod args0 below0 :=
  ⟨lists_1, trivial, launch0.admits_env _ _ _, launch0.least_env, fairChoices_fair.cas, fairChoices_fair.clock, w_frames, w_args, w_heap, w_applies, trivial, w_rest, w_case⟩
end start1
theorem witness_1 : WitnessClaimed_1 := ⟨start1.p0, start1.e0, start1.about1, start1.theMethod, start1.args0, start1.below0, start1.atStart⟩
end Jvm.Pilot.@@N@@
