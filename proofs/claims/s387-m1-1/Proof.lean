import JvmDerived
import JvmDerived.Pilot.@@N@@Statement
import JvmDerived.Pilot.@@N@@Code
set_option linter.unusedVariables false
set_option linter.unusedSimpArgs false
namespace Jvm.RoadKit
open Sem ClassFile Op Lib Jvm.Stand Jvm.Free Jvm.LawKit
section New
variable {p : Program} {l : Launch} {e : Env} {R : Room} {s : State} {m : MethodId} {args : Array Value} {below : List Frame} {meth : Method} {c : Code} {T : State} {locs : List Loc} {cells slots : Nat}
theorem retI (X : Stand p l e R s m args below meth c T locs cells slots) (hx : p.tables.exec = Jvm.exec) {pc : Nat} {Ls : Array Slot} {z : Int32} {rest : List Value} (hret : meth.sig.returnType = some .int) (hd : decode c.code pc = .ok (.ireturn, 1)) {fs : List Frame}
    (hl : ∀ (f : JFrame) (acts : List Action), f.method = m → f.locked = none → f.entered = [] → (doReturn e (T.setTop f) acts (some (.int z))).1 = T.setFrames fs) : Steps p.tables e below (T.setTop (mkF m pc Ls (.int z :: rest))) (T.setFrames fs) := by
  have hm' : T.vm.method? m = some meth := X.method'
  have hn : narrow .int (.int z) = .int z := rfl
  show Steps p.tables e below (T.setTop { method := m, pc := pc, locals := Ls, stack := _ :: rest, locked := none }) _
  jvm_step X.here [X.here.top, hx, hd, hm', hret, hn]
  first | (intro acts; rw [hl _ acts rfl rfl rfl]) | rw [hl _ _ rfl rfl rfl]
  exact Steps.refl _
end New
end Jvm.RoadKit
namespace Jvm.Pilot.@@N@@
open Jvm Jvm.ClassFile Sem Op Lib Jvm.Free Jvm.Stand Jvm.LawKit Jvm.RoadKit Bundle Jvm.Pilot.@@N@@.Jvm.D
theorem own_eqI {args : Array Value} {s : State} {t : Term} {k : Int32} (h : (Jvm.Cond.eq t (Jvm.Term.int k)).value args s none s [] = some true) : t.eval args s none [] s = some (.int k) := by
  obtain ⟨x, y, hx, hy, k1, k2⟩ := cmp_v (Or.inl h)
  obtain rfl : Value.int k = y := Option.some.inj ((Term.int_eval k).symm.trans hy)
  cases x <;> first | (rw [hx]; exact congrArg (fun z => some (Value.int z)) (by simpa [Cond.value, hx, hy] using h)) | (obtain ⟨z, hz⟩ := k1; cases hz; done) | (exact absurd k1.2 (by decide))
theorem own_eqL {args : Array Value} {s : State} {t : Term} {k : Int64} (h : (Jvm.Cond.eq t (Jvm.Term.long k)).value args s none s [] = some true) : t.eval args s none [] s = some (.long k) := by
  obtain ⟨x, y, hx, hy, k1, k2⟩ := cmp_v (Or.inl h)
  obtain rfl : Value.long k = y := Option.some.inj ((long_at k).symm.trans hy)
  cases x <;> first | (rw [hx]; exact congrArg (fun z => some (Value.long z)) (by simpa [Cond.value, hx, hy] using h)) | (obtain ⟨z, hz⟩ := k1; cases hz; done) | (exact absurd k1.2 (by decide))
theorem own_nn1 (c : Int32) : 0 ≤ (c &&& (3 : Int32)).toInt := by
  have e : (c &&& (3 : Int32)).toInt = c.toInt % ((2 ^ 2 : Nat) : Int) := c_mask c _ 2 (by decide) (by decide)
  omega
theorem own_nn2 (c : Int32) : 0 ≤ (c &&& (2147483647 : Int32)).toInt := by
  have e : (c &&& (2147483647 : Int32)).toInt = c.toInt % ((2 ^ 31 : Nat) : Int) := c_mask c _ 31 (by decide) (by decide)
  omega
theorem own_gt1 {n : Int32} (h : 0 ≤ n.toInt) (h0 : ¬ (n = (0 : Int32))) (h1 : ¬ (n = (1 : Int32))) : (1 : Int32) < n := by
  rw [← Int32.toInt_inj] at h0 h1; rw [Int32.lt_iff_toInt_lt]
  have a : (0 : Int32).toInt = 0 := by decide
  have b : (1 : Int32).toInt = 1 := by decide
  omega
def own_e (n : Int32) : Int32 := if n = (1 : Int32) then (1 : Int32) else (0 : Int32)
def own_m (n : Int32) : Int32 := if (1 : Int32) < n then (0 : Int32) else (1 : Int32)
theorem pn_0 : plainName "com/example/strict_sasl/strictsasl/mechanism/digestmd5/DigestMd5Directives$Occurrence" = true := by first | (simp [plainName, overriddenIn]; done) | decide +kernel
theorem ef_1E (m : MethodId) (x0 : Addr) (x1 : Int32) : entryFrame m #[(.ref x0), (.int x1)] 3 = mkF m 0 #[.val (.ref x0), .val (.int x1), .unset] [] := by first | (simp [entryFrame, mkF, argsToLocals, Value.category]; done) | rfl
theorem d1_0 : decode prog_44_method_5_code 0 = .ok (.aload_n 0, 1) := by decide +kernel
theorem d1_1 : decode prog_44_method_5_code 1 = .ok (.getstatic 10, 3) := by decide +kernel
theorem d1_4 : decode prog_44_method_5_code 4 = .ok (.if_acmp .ne 17, 3) := by decide +kernel
theorem d1_7 : decode prog_44_method_5_code 7 = .ok (.iload_n 1, 1) := by decide +kernel
theorem d1_8 : decode prog_44_method_5_code 8 = .ok (.iconst 1, 1) := by decide +kernel
theorem d1_9 : decode prog_44_method_5_code 9 = .ok (.if_icmp .ne 7, 3) := by decide +kernel
theorem d1_12 : decode prog_44_method_5_code 12 = .ok (.iconst 1, 1) := by decide +kernel
theorem d1_13 : decode prog_44_method_5_code 13 = .ok (.goto 4, 3) := by decide +kernel
theorem d1_17 : decode prog_44_method_5_code 17 = .ok (.istore_n 2, 1) := by decide +kernel
theorem d1_18 : decode prog_44_method_5_code 18 = .ok (.goto 26, 3) := by decide +kernel
theorem d1_44 : decode prog_44_method_5_code 44 = .ok (.iload_n 2, 1) := by decide +kernel
theorem d1_45 : decode prog_44_method_5_code 45 = .ok (.ireturn, 1) := by decide +kernel
theorem d1_16 : decode prog_44_method_5_code 16 = .ok (.iconst 0, 1) := by decide +kernel
def Q1E (Z : State) (wE : Addr) (p1 : Int32) (h0 : Heap) (n0 : Nat) (v : Option Value) (h : Heap) (L : List Loc) : Prop := v = some (.int (own_e p1)) ∧ Fr n0 L ∧ (h = h0)
set_option maxRecDepth 65536 in
set_option maxHeartbeats 40000000 in
theorem rm1E (l : Launch) (Z : State) (a0 : Array Value) (hw : ∀ d ∈ tables_1, d.before a0 Z = true) (ws : List Jvm.Cond) (wE : Addr) (p1 : Int32) (h0 : Heap) (n0 : Nat) (Z0 : n0 ≤ h0.size) (S1 : Sta Z h0 "com/example/strict_sasl/strictsasl/mechanism/digestmd5/DigestMd5Directives$Occurrence" "EXACTLY_ONCE" "Lcom/example/strict_sasl/strictsasl/mechanism/digestmd5/DigestMd5Directives$Occurrence;" (.ref wE)) :
    MetFree l (⟨"com/example/strict_sasl/strictsasl/mechanism/digestmd5/DigestMd5Directives$Occurrence", "allows", "(I)Z"⟩ : MethodName) (head1 (Jvm.Cond.code (⟨"com/example/strict_sasl/strictsasl/mechanism/digestmd5/DigestMd5Directives$Occurrence", "allows", "(I)Z"⟩ : MethodName) prog_44_method_5_code 3 (some .boolean) :: ws) ({ frames := 0, cells := 0, slots := 0, locals := 0 } : Room)) (fun a U => a = #[(.ref wE), (.int p1)] ∧ Z.Warmed39 U.vm ∧ U.heap = h0) (fun _ _ _ _ _ => True) (fun _ U o U' => ∃ v L, o = .returned v ∧ Q1E Z wE p1 h0 n0 v U'.heap L ∧ FrameEnd U o U' L ({ frames := 0, cells := 0, slots := 0, locals := 0 } : Room).cells ({ frames := 0, cells := 0, slots := 0, locals := 0 } : Room).slots) := by
  refine MetFree.of_bodySF (plainFor_of_name pn_0) hisR ?_
  intro p e s m args below meth c s₁ Bd hml0 hP hK
  obtain ⟨rfl, hZ, hh⟩ := hP
  have hx := Bd.exec
  have hby := Bd.bytes
  have hml : c.maxLocals = 3 := hml0
  have hown : s.vm.findClass "com/example/strict_sasl/strictsasl/mechanism/digestmd5/DigestMd5Directives$Occurrence" = some m.cls := findClass_of_methodNamed Bd.named
  have hnm := (name_of_methodNamed Bd.named Bd.method).1
  have hlk : meth.locks = false := by first | exact BodyLoose.notSynchronized Bd | exact Body.notSynchronized Bd
  have X0 : Stand p l e ({ frames := 0, cells := 0, slots := 0, locals := 0 } : Room) s m #[(.ref wE), (.int p1)] below meth c s₁ [] 0 0 := Stand.of_body Bd
  have e0 : s₁.heap = h0 := by rw [← hh, Bd.state]; rfl
  have N0 := Fr.nil n0
  have pre0 : ∀ t, Steps p.tables e below (s₁.setTop (mkF m 0 #[.val (.ref wE), .val (.int p1), .unset] [])) t → Steps p.tables e below (s₁.setTop (entryFrame m #[(.ref wE), (.int p1)] 3)) t := fun t k => castTop (ef_1E m wE p1) k
  obtain ⟨T101, X101, e101, st101⟩ := getS2 X0 hx hZ hown (host := "") (Or.inl (hw _ (List.mem_of_getElem? (i := 9) rfl))) Via.refl e0 S1 (g := (mkF m 1 #[.val (.ref wE), .val (.int p1), .unset] [(.ref wE)])) rfl (hb hby d1_1)
  have pr102 : ∀ t, Steps p.tables e below (T101.setTop (mkF m 9 #[.val (.ref wE), .val (.int p1), .unset] [(.int (1 : Int32)), (.int p1)])) t → Steps p.tables e below (s₁.setTop (mkF m 0 #[.val (.ref wE), .val (.int p1), .unset] [])) t := fun t kt => by
    show Steps p.tables e below (s₁.setTop (mkF m 0 #[.val (.ref wE), .val (.int p1), .unset] [])) _
    refine XS.aloadN X0.here hx rfl (hb hby d1_0) rfl rfl ?_
    show Steps p.tables e below (s₁.setTop (mkF m 1 #[.val (.ref wE), .val (.int p1), .unset] [(.ref wE)])) _
    refine st101 _ ?_
    show Steps p.tables e below (T101.setTop (mkF m 4 #[.val (.ref wE), .val (.int p1), .unset] [(.ref wE), (.ref wE)])) _
    refine Jvm.RoadKit.acmp (g := (mkF m 4 #[.val (.ref wE), .val (.int p1), .unset] [(.ref wE), (.ref wE)])) X101 hx rfl rfl rfl (pc0 := 4) (pc' := 7) (same := true) rfl (hb hby d1_4) rfl (decide_eq_true rfl) (by decide) (by decide) ?_
    show Steps p.tables e below (T101.setTop (mkF m 7 #[.val (.ref wE), .val (.int p1), .unset] [])) _
    refine XS.iloadN X101.here hx rfl (hb hby d1_7) rfl ?_
    show Steps p.tables e below (T101.setTop (mkF m 8 #[.val (.ref wE), .val (.int p1), .unset] [(.int p1)])) _
    refine XS.iconst X101.here hx rfl (hb hby d1_8) ?_
    exact kt
  by_cases hc103 : p1 = (1 : Int32)
  · obtain ⟨fs, hr, hrun, hended, hW, hsame⟩ := X101.leave (v := some (.int (1 : Int32))) (fun h => by rw [Bd.returns] at h; cases h) hlk
    refine ⟨_, _, pre0 _ ?_, hrun, hended, _, _, rfl, ?_, ⟨_, rfl⟩, hW, hsame.mono (by decide) (by decide)⟩
    · refine pr102 _ ?_
      show Steps p.tables e below (T101.setTop (mkF m 9 #[.val (.ref wE), .val (.int p1), .unset] [(.int (1 : Int32)), (.int p1)])) _
      refine XS.icmpNo X101.here hx rfl (hb hby d1_9) rfl (teq hc103).2 ?_
      show Steps p.tables e below (T101.setTop (mkF m 12 #[.val (.ref wE), .val (.int p1), .unset] [])) _
      refine XS.iconst X101.here hx rfl (hb hby d1_12) ?_
      show Steps p.tables e below (T101.setTop (mkF m 13 #[.val (.ref wE), .val (.int p1), .unset] [(.int (1 : Int32))])) _
      refine XS.goto X101.here hx rfl (pc0 := 13) (pc' := 17) rfl (hb hby d1_13) (by decide) (by decide) ?_
      show Steps p.tables e below (T101.setTop (mkF m 17 #[.val (.ref wE), .val (.int p1), .unset] [(.int (1 : Int32))])) _
      refine XS.istoreN X101.here hx rfl (hb hby d1_17) rfl (l' := #[.val (.ref wE), .val (.int p1), .val (.int (1 : Int32))]) rfl ?_
      show Steps p.tables e below (T101.setTop (mkF m 18 #[.val (.ref wE), .val (.int p1), .val (.int (1 : Int32))] [])) _
      refine XS.goto X101.here hx rfl (pc0 := 18) (pc' := 44) rfl (hb hby d1_18) (by decide) (by decide) ?_
      show Steps p.tables e below (T101.setTop (mkF m 44 #[.val (.ref wE), .val (.int p1), .val (.int (1 : Int32))] [])) _
      refine XS.iloadN X101.here hx rfl (hb hby d1_44) rfl ?_
      show Steps p.tables e below (T101.setTop (mkF m 45 #[.val (.ref wE), .val (.int p1), .val (.int (1 : Int32))] [(.int (1 : Int32))])) _
      exact retN X101 hx (t := .boolean) Bd.returns (by simp) (hb hby d1_45) hr
    · show Q1E Z wE p1 h0 n0 _ T101.heap _
      rw [e101]
      exact ⟨(congrArg (fun z => some (Value.int z)) (by simp [own_e, hc103] : (1 : Int32) = (own_e p1))), N0, rfl⟩
  · obtain ⟨fs, hr, hrun, hended, hW, hsame⟩ := X101.leave (v := some (.int (0 : Int32))) (fun h => by rw [Bd.returns] at h; cases h) hlk
    refine ⟨_, _, pre0 _ ?_, hrun, hended, _, _, rfl, ?_, ⟨_, rfl⟩, hW, hsame.mono (by decide) (by decide)⟩
    · refine pr102 _ ?_
      show Steps p.tables e below (T101.setTop (mkF m 9 #[.val (.ref wE), .val (.int p1), .unset] [(.int (1 : Int32)), (.int p1)])) _
      refine XS.icmpYes X101.here hx rfl (pc0 := 9) (pc' := 16) rfl (hb hby d1_9) rfl (feq hc103).2 (by decide) (by decide) ?_
      show Steps p.tables e below (T101.setTop (mkF m 16 #[.val (.ref wE), .val (.int p1), .unset] [])) _
      refine XS.iconst X101.here hx rfl (hb hby d1_16) ?_
      show Steps p.tables e below (T101.setTop (mkF m 17 #[.val (.ref wE), .val (.int p1), .unset] [(.int (0 : Int32))])) _
      refine XS.istoreN X101.here hx rfl (hb hby d1_17) rfl (l' := #[.val (.ref wE), .val (.int p1), .val (.int (0 : Int32))]) rfl ?_
      show Steps p.tables e below (T101.setTop (mkF m 18 #[.val (.ref wE), .val (.int p1), .val (.int (0 : Int32))] [])) _
      refine XS.goto X101.here hx rfl (pc0 := 18) (pc' := 44) rfl (hb hby d1_18) (by decide) (by decide) ?_
      show Steps p.tables e below (T101.setTop (mkF m 44 #[.val (.ref wE), .val (.int p1), .val (.int (0 : Int32))] [])) _
      refine XS.iloadN X101.here hx rfl (hb hby d1_44) rfl ?_
      show Steps p.tables e below (T101.setTop (mkF m 45 #[.val (.ref wE), .val (.int p1), .val (.int (0 : Int32))] [(.int (0 : Int32))])) _
      exact retN X101 hx (t := .boolean) Bd.returns (by simp) (hb hby d1_45) hr
    · show Q1E Z wE p1 h0 n0 _ T101.heap _
      rw [e101]
      exact ⟨(congrArg (fun z => some (Value.int z)) (by simp [own_e, hc103] : (0 : Int32) = (own_e p1))), N0, rfl⟩
theorem ef_1M (m : MethodId) (x0 : Addr) (x1 : Int32) : entryFrame m #[(.ref x0), (.int x1)] 3 = mkF m 0 #[.val (.ref x0), .val (.int x1), .unset] [] := by first | (simp [entryFrame, mkF, argsToLocals, Value.category]; done) | rfl
theorem d1_21 : decode prog_44_method_5_code 21 = .ok (.aload_n 0, 1) := by decide +kernel
theorem d1_22 : decode prog_44_method_5_code 22 = .ok (.getstatic 7, 3) := by decide +kernel
theorem d1_25 : decode prog_44_method_5_code 25 = .ok (.if_acmp .ne 17, 3) := by decide +kernel
theorem d1_28 : decode prog_44_method_5_code 28 = .ok (.iload_n 1, 1) := by decide +kernel
theorem d1_29 : decode prog_44_method_5_code 29 = .ok (.iconst 1, 1) := by decide +kernel
theorem d1_30 : decode prog_44_method_5_code 30 = .ok (.if_icmp .gt 7, 3) := by decide +kernel
theorem d1_37 : decode prog_44_method_5_code 37 = .ok (.iconst 0, 1) := by decide +kernel
theorem d1_38 : decode prog_44_method_5_code 38 = .ok (.istore_n 2, 1) := by decide +kernel
theorem d1_39 : decode prog_44_method_5_code 39 = .ok (.goto 5, 3) := by decide +kernel
theorem d1_33 : decode prog_44_method_5_code 33 = .ok (.iconst 1, 1) := by decide +kernel
theorem d1_34 : decode prog_44_method_5_code 34 = .ok (.goto 4, 3) := by decide +kernel
def Q1M (Z : State) (wM : Addr) (p1 : Int32) (wE : Addr) (h0 : Heap) (n0 : Nat) (v : Option Value) (h : Heap) (L : List Loc) : Prop := v = some (.int (own_m p1)) ∧ Fr n0 L ∧ (h = h0)
set_option maxRecDepth 65536 in
set_option maxHeartbeats 40000000 in
theorem rm1M (l : Launch) (Z : State) (a0 : Array Value) (hw : ∀ d ∈ tables_1, d.before a0 Z = true) (ws : List Jvm.Cond) (wM : Addr) (p1 : Int32) (wE : Addr) (h0 : Heap) (n0 : Nat) (Z0 : n0 ≤ h0.size) (S1 : Sta Z h0 "com/example/strict_sasl/strictsasl/mechanism/digestmd5/DigestMd5Directives$Occurrence" "EXACTLY_ONCE" "Lcom/example/strict_sasl/strictsasl/mechanism/digestmd5/DigestMd5Directives$Occurrence;" (.ref wE)) (S2 : Sta Z h0 "com/example/strict_sasl/strictsasl/mechanism/digestmd5/DigestMd5Directives$Occurrence" "AT_MOST_ONCE" "Lcom/example/strict_sasl/strictsasl/mechanism/digestmd5/DigestMd5Directives$Occurrence;" (.ref wM)) (n1 : wM ≠ wE) :
    MetFree l (⟨"com/example/strict_sasl/strictsasl/mechanism/digestmd5/DigestMd5Directives$Occurrence", "allows", "(I)Z"⟩ : MethodName) (head1 (Jvm.Cond.code (⟨"com/example/strict_sasl/strictsasl/mechanism/digestmd5/DigestMd5Directives$Occurrence", "allows", "(I)Z"⟩ : MethodName) prog_44_method_5_code 3 (some .boolean) :: ws) ({ frames := 0, cells := 0, slots := 0, locals := 0 } : Room)) (fun a U => a = #[(.ref wM), (.int p1)] ∧ Z.Warmed39 U.vm ∧ U.heap = h0) (fun _ _ _ _ _ => True) (fun _ U o U' => ∃ v L, o = .returned v ∧ Q1M Z wM p1 wE h0 n0 v U'.heap L ∧ FrameEnd U o U' L ({ frames := 0, cells := 0, slots := 0, locals := 0 } : Room).cells ({ frames := 0, cells := 0, slots := 0, locals := 0 } : Room).slots) := by
  refine MetFree.of_bodySF (plainFor_of_name pn_0) hisR ?_
  intro p e s m args below meth c s₁ Bd hml0 hP hK
  obtain ⟨rfl, hZ, hh⟩ := hP
  have hx := Bd.exec
  have hby := Bd.bytes
  have hml : c.maxLocals = 3 := hml0
  have hown : s.vm.findClass "com/example/strict_sasl/strictsasl/mechanism/digestmd5/DigestMd5Directives$Occurrence" = some m.cls := findClass_of_methodNamed Bd.named
  have hnm := (name_of_methodNamed Bd.named Bd.method).1
  have hlk : meth.locks = false := by first | exact BodyLoose.notSynchronized Bd | exact Body.notSynchronized Bd
  have X0 : Stand p l e ({ frames := 0, cells := 0, slots := 0, locals := 0 } : Room) s m #[(.ref wM), (.int p1)] below meth c s₁ [] 0 0 := Stand.of_body Bd
  have e0 : s₁.heap = h0 := by rw [← hh, Bd.state]; rfl
  have N0 := Fr.nil n0
  have pre0 : ∀ t, Steps p.tables e below (s₁.setTop (mkF m 0 #[.val (.ref wM), .val (.int p1), .unset] [])) t → Steps p.tables e below (s₁.setTop (entryFrame m #[(.ref wM), (.int p1)] 3)) t := fun t k => castTop (ef_1M m wM p1) k
  obtain ⟨T101, X101, e101, st101⟩ := getS2 X0 hx hZ hown (host := "") (Or.inl (hw _ (List.mem_of_getElem? (i := 9) rfl))) Via.refl e0 S1 (g := (mkF m 1 #[.val (.ref wM), .val (.int p1), .unset] [(.ref wM)])) rfl (hb hby d1_1)
  obtain ⟨T102, X102, e102, st102⟩ := getS2 X101 hx hZ hown (host := "") (Or.inl (hw _ (List.mem_of_getElem? (i := 11) rfl))) Via.refl e101 S2 (g := (mkF m 22 #[.val (.ref wM), .val (.int p1), .unset] [(.ref wM)])) rfl (hb hby d1_22)
  have pr103 : ∀ t, Steps p.tables e below (T102.setTop (mkF m 30 #[.val (.ref wM), .val (.int p1), .unset] [(.int (1 : Int32)), (.int p1)])) t → Steps p.tables e below (s₁.setTop (mkF m 0 #[.val (.ref wM), .val (.int p1), .unset] [])) t := fun t kt => by
    show Steps p.tables e below (s₁.setTop (mkF m 0 #[.val (.ref wM), .val (.int p1), .unset] [])) _
    refine XS.aloadN X0.here hx rfl (hb hby d1_0) rfl rfl ?_
    show Steps p.tables e below (s₁.setTop (mkF m 1 #[.val (.ref wM), .val (.int p1), .unset] [(.ref wM)])) _
    refine st101 _ ?_
    show Steps p.tables e below (T101.setTop (mkF m 4 #[.val (.ref wM), .val (.int p1), .unset] [(.ref wE), (.ref wM)])) _
    refine Jvm.RoadKit.acmp (g := (mkF m 4 #[.val (.ref wM), .val (.int p1), .unset] [(.ref wE), (.ref wM)])) X101 hx rfl rfl rfl (pc0 := 4) (pc' := 21) (same := false) rfl (hb hby d1_4) rfl (decide_eq_false fun q => n1 (Value.ref.inj q)) (by decide) (by decide) ?_
    show Steps p.tables e below (T101.setTop (mkF m 21 #[.val (.ref wM), .val (.int p1), .unset] [])) _
    refine XS.aloadN X101.here hx rfl (hb hby d1_21) rfl rfl ?_
    show Steps p.tables e below (T101.setTop (mkF m 22 #[.val (.ref wM), .val (.int p1), .unset] [(.ref wM)])) _
    refine st102 _ ?_
    show Steps p.tables e below (T102.setTop (mkF m 25 #[.val (.ref wM), .val (.int p1), .unset] [(.ref wM), (.ref wM)])) _
    refine Jvm.RoadKit.acmp (g := (mkF m 25 #[.val (.ref wM), .val (.int p1), .unset] [(.ref wM), (.ref wM)])) X102 hx rfl rfl rfl (pc0 := 25) (pc' := 28) (same := true) rfl (hb hby d1_25) rfl (decide_eq_true rfl) (by decide) (by decide) ?_
    show Steps p.tables e below (T102.setTop (mkF m 28 #[.val (.ref wM), .val (.int p1), .unset] [])) _
    refine XS.iloadN X102.here hx rfl (hb hby d1_28) rfl ?_
    show Steps p.tables e below (T102.setTop (mkF m 29 #[.val (.ref wM), .val (.int p1), .unset] [(.int p1)])) _
    refine XS.iconst X102.here hx rfl (hb hby d1_29) ?_
    exact kt
  by_cases hc104 : (1 : Int32) < p1
  · obtain ⟨fs, hr, hrun, hended, hW, hsame⟩ := X102.leave (v := some (.int (0 : Int32))) (fun h => by rw [Bd.returns] at h; cases h) hlk
    refine ⟨_, _, pre0 _ ?_, hrun, hended, _, _, rfl, ?_, ⟨_, rfl⟩, hW, hsame.mono (by decide) (by decide)⟩
    · refine pr103 _ ?_
      show Steps p.tables e below (T102.setTop (mkF m 30 #[.val (.ref wM), .val (.int p1), .unset] [(.int (1 : Int32)), (.int p1)])) _
      refine XS.icmpYes X102.here hx rfl (pc0 := 30) (pc' := 37) rfl (hb hby d1_30) rfl (tlt hc104).2.2.1 (by decide) (by decide) ?_
      show Steps p.tables e below (T102.setTop (mkF m 37 #[.val (.ref wM), .val (.int p1), .unset] [])) _
      refine XS.iconst X102.here hx rfl (hb hby d1_37) ?_
      show Steps p.tables e below (T102.setTop (mkF m 38 #[.val (.ref wM), .val (.int p1), .unset] [(.int (0 : Int32))])) _
      refine XS.istoreN X102.here hx rfl (hb hby d1_38) rfl (l' := #[.val (.ref wM), .val (.int p1), .val (.int (0 : Int32))]) rfl ?_
      show Steps p.tables e below (T102.setTop (mkF m 39 #[.val (.ref wM), .val (.int p1), .val (.int (0 : Int32))] [])) _
      refine XS.goto X102.here hx rfl (pc0 := 39) (pc' := 44) rfl (hb hby d1_39) (by decide) (by decide) ?_
      show Steps p.tables e below (T102.setTop (mkF m 44 #[.val (.ref wM), .val (.int p1), .val (.int (0 : Int32))] [])) _
      refine XS.iloadN X102.here hx rfl (hb hby d1_44) rfl ?_
      show Steps p.tables e below (T102.setTop (mkF m 45 #[.val (.ref wM), .val (.int p1), .val (.int (0 : Int32))] [(.int (0 : Int32))])) _
      exact retN X102 hx (t := .boolean) Bd.returns (by simp) (hb hby d1_45) hr
    · show Q1M Z wM p1 wE h0 n0 _ T102.heap _
      rw [e102]
      exact ⟨(congrArg (fun z => some (Value.int z)) (by simp [own_m, hc104] : (0 : Int32) = (own_m p1))), N0, rfl⟩
  · obtain ⟨fs, hr, hrun, hended, hW, hsame⟩ := X102.leave (v := some (.int (1 : Int32))) (fun h => by rw [Bd.returns] at h; cases h) hlk
    refine ⟨_, _, pre0 _ ?_, hrun, hended, _, _, rfl, ?_, ⟨_, rfl⟩, hW, hsame.mono (by decide) (by decide)⟩
    · refine pr103 _ ?_
      show Steps p.tables e below (T102.setTop (mkF m 30 #[.val (.ref wM), .val (.int p1), .unset] [(.int (1 : Int32)), (.int p1)])) _
      refine XS.icmpNo X102.here hx rfl (hb hby d1_30) rfl (flt hc104).2.2.1 ?_
      show Steps p.tables e below (T102.setTop (mkF m 33 #[.val (.ref wM), .val (.int p1), .unset] [])) _
      refine XS.iconst X102.here hx rfl (hb hby d1_33) ?_
      show Steps p.tables e below (T102.setTop (mkF m 34 #[.val (.ref wM), .val (.int p1), .unset] [(.int (1 : Int32))])) _
      refine XS.goto X102.here hx rfl (pc0 := 34) (pc' := 38) rfl (hb hby d1_34) (by decide) (by decide) ?_
      show Steps p.tables e below (T102.setTop (mkF m 38 #[.val (.ref wM), .val (.int p1), .unset] [(.int (1 : Int32))])) _
      refine XS.istoreN X102.here hx rfl (hb hby d1_38) rfl (l' := #[.val (.ref wM), .val (.int p1), .val (.int (1 : Int32))]) rfl ?_
      show Steps p.tables e below (T102.setTop (mkF m 39 #[.val (.ref wM), .val (.int p1), .val (.int (1 : Int32))] [])) _
      refine XS.goto X102.here hx rfl (pc0 := 39) (pc' := 44) rfl (hb hby d1_39) (by decide) (by decide) ?_
      show Steps p.tables e below (T102.setTop (mkF m 44 #[.val (.ref wM), .val (.int p1), .val (.int (1 : Int32))] [])) _
      refine XS.iloadN X102.here hx rfl (hb hby d1_44) rfl ?_
      show Steps p.tables e below (T102.setTop (mkF m 45 #[.val (.ref wM), .val (.int p1), .val (.int (1 : Int32))] [(.int (1 : Int32))])) _
      exact retN X102 hx (t := .boolean) Bd.returns (by simp) (hb hby d1_45) hr
    · show Q1M Z wM p1 wE h0 n0 _ T102.heap _
      rw [e102]
      exact ⟨(congrArg (fun z => some (Value.int z)) (by simp [own_m, hc104] : (1 : Int32) = (own_m p1))), N0, rfl⟩
theorem ef_1A (m : MethodId) (x0 : Addr) (x1 : Int32) : entryFrame m #[(.ref x0), (.int x1)] 3 = mkF m 0 #[.val (.ref x0), .val (.int x1), .unset] [] := by first | (simp [entryFrame, mkF, argsToLocals, Value.category]; done) | rfl
theorem d1_42 : decode prog_44_method_5_code 42 = .ok (.iconst 1, 1) := by decide +kernel
theorem d1_43 : decode prog_44_method_5_code 43 = .ok (.istore_n 2, 1) := by decide +kernel
def Q1A (Z : State) (wA : Addr) (p1 : Int32) (wE : Addr) (wM : Addr) (h0 : Heap) (n0 : Nat) (v : Option Value) (h : Heap) (L : List Loc) : Prop := v = some (.int (1 : Int32)) ∧ Fr n0 L ∧ (h = h0)
set_option maxRecDepth 65536 in
set_option maxHeartbeats 40000000 in
theorem rm1A (l : Launch) (Z : State) (a0 : Array Value) (hw : ∀ d ∈ tables_1, d.before a0 Z = true) (ws : List Jvm.Cond) (wA : Addr) (p1 : Int32) (wE : Addr) (wM : Addr) (h0 : Heap) (n0 : Nat) (Z0 : n0 ≤ h0.size) (S1 : Sta Z h0 "com/example/strict_sasl/strictsasl/mechanism/digestmd5/DigestMd5Directives$Occurrence" "EXACTLY_ONCE" "Lcom/example/strict_sasl/strictsasl/mechanism/digestmd5/DigestMd5Directives$Occurrence;" (.ref wE)) (S2 : Sta Z h0 "com/example/strict_sasl/strictsasl/mechanism/digestmd5/DigestMd5Directives$Occurrence" "AT_MOST_ONCE" "Lcom/example/strict_sasl/strictsasl/mechanism/digestmd5/DigestMd5Directives$Occurrence;" (.ref wM)) (n1 : wA ≠ wE) (n2 : wA ≠ wM) :
    MetFree l (⟨"com/example/strict_sasl/strictsasl/mechanism/digestmd5/DigestMd5Directives$Occurrence", "allows", "(I)Z"⟩ : MethodName) (head1 (Jvm.Cond.code (⟨"com/example/strict_sasl/strictsasl/mechanism/digestmd5/DigestMd5Directives$Occurrence", "allows", "(I)Z"⟩ : MethodName) prog_44_method_5_code 3 (some .boolean) :: ws) ({ frames := 0, cells := 0, slots := 0, locals := 0 } : Room)) (fun a U => a = #[(.ref wA), (.int p1)] ∧ Z.Warmed39 U.vm ∧ U.heap = h0) (fun _ _ _ _ _ => True) (fun _ U o U' => ∃ v L, o = .returned v ∧ Q1A Z wA p1 wE wM h0 n0 v U'.heap L ∧ FrameEnd U o U' L ({ frames := 0, cells := 0, slots := 0, locals := 0 } : Room).cells ({ frames := 0, cells := 0, slots := 0, locals := 0 } : Room).slots) := by
  refine MetFree.of_bodySF (plainFor_of_name pn_0) hisR ?_
  intro p e s m args below meth c s₁ Bd hml0 hP hK
  obtain ⟨rfl, hZ, hh⟩ := hP
  have hx := Bd.exec
  have hby := Bd.bytes
  have hml : c.maxLocals = 3 := hml0
  have hown : s.vm.findClass "com/example/strict_sasl/strictsasl/mechanism/digestmd5/DigestMd5Directives$Occurrence" = some m.cls := findClass_of_methodNamed Bd.named
  have hnm := (name_of_methodNamed Bd.named Bd.method).1
  have hlk : meth.locks = false := by first | exact BodyLoose.notSynchronized Bd | exact Body.notSynchronized Bd
  have X0 : Stand p l e ({ frames := 0, cells := 0, slots := 0, locals := 0 } : Room) s m #[(.ref wA), (.int p1)] below meth c s₁ [] 0 0 := Stand.of_body Bd
  have e0 : s₁.heap = h0 := by rw [← hh, Bd.state]; rfl
  have N0 := Fr.nil n0
  have pre0 : ∀ t, Steps p.tables e below (s₁.setTop (mkF m 0 #[.val (.ref wA), .val (.int p1), .unset] [])) t → Steps p.tables e below (s₁.setTop (entryFrame m #[(.ref wA), (.int p1)] 3)) t := fun t k => castTop (ef_1A m wA p1) k
  obtain ⟨T101, X101, e101, st101⟩ := getS2 X0 hx hZ hown (host := "") (Or.inl (hw _ (List.mem_of_getElem? (i := 9) rfl))) Via.refl e0 S1 (g := (mkF m 1 #[.val (.ref wA), .val (.int p1), .unset] [(.ref wA)])) rfl (hb hby d1_1)
  obtain ⟨T102, X102, e102, st102⟩ := getS2 X101 hx hZ hown (host := "") (Or.inl (hw _ (List.mem_of_getElem? (i := 11) rfl))) Via.refl e101 S2 (g := (mkF m 22 #[.val (.ref wA), .val (.int p1), .unset] [(.ref wA)])) rfl (hb hby d1_22)
  obtain ⟨fs, hr, hrun, hended, hW, hsame⟩ := X102.leave (v := some (.int (1 : Int32))) (fun h => by rw [Bd.returns] at h; cases h) hlk
  refine ⟨_, _, pre0 _ ?_, hrun, hended, _, _, rfl, ?_, ⟨_, rfl⟩, hW, hsame.mono (by decide) (by decide)⟩
  · show Steps p.tables e below (s₁.setTop (mkF m 0 #[.val (.ref wA), .val (.int p1), .unset] [])) _
    refine XS.aloadN X0.here hx rfl (hb hby d1_0) rfl rfl ?_
    show Steps p.tables e below (s₁.setTop (mkF m 1 #[.val (.ref wA), .val (.int p1), .unset] [(.ref wA)])) _
    refine st101 _ ?_
    show Steps p.tables e below (T101.setTop (mkF m 4 #[.val (.ref wA), .val (.int p1), .unset] [(.ref wE), (.ref wA)])) _
    refine Jvm.RoadKit.acmp (g := (mkF m 4 #[.val (.ref wA), .val (.int p1), .unset] [(.ref wE), (.ref wA)])) X101 hx rfl rfl rfl (pc0 := 4) (pc' := 21) (same := false) rfl (hb hby d1_4) rfl (decide_eq_false fun q => n1 (Value.ref.inj q)) (by decide) (by decide) ?_
    show Steps p.tables e below (T101.setTop (mkF m 21 #[.val (.ref wA), .val (.int p1), .unset] [])) _
    refine XS.aloadN X101.here hx rfl (hb hby d1_21) rfl rfl ?_
    show Steps p.tables e below (T101.setTop (mkF m 22 #[.val (.ref wA), .val (.int p1), .unset] [(.ref wA)])) _
    refine st102 _ ?_
    show Steps p.tables e below (T102.setTop (mkF m 25 #[.val (.ref wA), .val (.int p1), .unset] [(.ref wM), (.ref wA)])) _
    refine Jvm.RoadKit.acmp (g := (mkF m 25 #[.val (.ref wA), .val (.int p1), .unset] [(.ref wM), (.ref wA)])) X102 hx rfl rfl rfl (pc0 := 25) (pc' := 42) (same := false) rfl (hb hby d1_25) rfl (decide_eq_false fun q => n2 (Value.ref.inj q)) (by decide) (by decide) ?_
    show Steps p.tables e below (T102.setTop (mkF m 42 #[.val (.ref wA), .val (.int p1), .unset] [])) _
    refine XS.iconst X102.here hx rfl (hb hby d1_42) ?_
    show Steps p.tables e below (T102.setTop (mkF m 43 #[.val (.ref wA), .val (.int p1), .unset] [(.int (1 : Int32))])) _
    refine XS.istoreN X102.here hx rfl (hb hby d1_43) rfl (l' := #[.val (.ref wA), .val (.int p1), .val (.int (1 : Int32))]) rfl ?_
    show Steps p.tables e below (T102.setTop (mkF m 44 #[.val (.ref wA), .val (.int p1), .val (.int (1 : Int32))] [])) _
    refine XS.iloadN X102.here hx rfl (hb hby d1_44) rfl ?_
    show Steps p.tables e below (T102.setTop (mkF m 45 #[.val (.ref wA), .val (.int p1), .val (.int (1 : Int32))] [(.int (1 : Int32))])) _
    exact retN X102 hx (t := .boolean) Bd.returns (by simp) (hb hby d1_45) hr
  · show Q1A Z wA p1 wE wM h0 n0 _ T102.heap _
    rw [e102]
    exact ⟨rfl, N0, rfl⟩
theorem pn_1 : plainName "com/example/strict_sasl/strictsasl/mechanism/digestmd5/OccurrenceAllowsPinLaw" = true := by first | (simp [plainName, overriddenIn]; done) | decide +kernel
theorem ef_0 (m : MethodId) (x0 : Int32) (x1 : Int32) (x2 : Int32) : entryFrame m #[(.int x0), (.int x1), (.int x2)] maxLocals = mkF m 0 #[.val (.int x0), .val (.int x1), .val (.int x2), .unset, .unset, .unset, .unset] [] := by first | (simp [entryFrame, mkF, argsToLocals, Value.category, maxLocals]; done) | rfl
theorem pd_0 : parseMethodDescriptor "(I)Z" = some ⟨[.int], some .boolean⟩ := by decide +kernel
def Q0 (Z : State) (p1 : Int32) (p2 : Int32) (p3 : Int32) (wr11 : Addr) (wr15 : Addr) (wr19 : Addr) (h0 : Heap) (n0 : Nat) (v : Option Value) (h : Heap) (L : List Loc) : Prop := v = some (.int (1 : Int32)) ∧ Fr n0 L
set_option maxRecDepth 65536 in
set_option maxHeartbeats 40000000 in
theorem rm0 (l : Launch) (Z : State) (a0 : Array Value) (hw : ∀ d ∈ tables_1, d.before a0 Z = true) (ws : List Jvm.Cond) (p1 : Int32) (p2 : Int32) (p3 : Int32) (wr11 : Addr) (wr15 : Addr) (wr19 : Addr) (h0 : Heap) (n0 : Nat) (Z0 : n0 ≤ h0.size) (O0 : Old Z n0 h0) (pf0 : Exa Z Z.heap wr11 "com/example/strict_sasl/strictsasl/mechanism/digestmd5/DigestMd5Directives$Occurrence") (pf1 : Sta Z Z.heap "com/example/strict_sasl/strictsasl/mechanism/digestmd5/DigestMd5Directives$Occurrence" "ANY_NUMBER" "Lcom/example/strict_sasl/strictsasl/mechanism/digestmd5/DigestMd5Directives$Occurrence;" (.ref wr11)) (pf2 : Exa Z Z.heap wr15 "com/example/strict_sasl/strictsasl/mechanism/digestmd5/DigestMd5Directives$Occurrence") (pf3 : Sta Z Z.heap "com/example/strict_sasl/strictsasl/mechanism/digestmd5/DigestMd5Directives$Occurrence" "EXACTLY_ONCE" "Lcom/example/strict_sasl/strictsasl/mechanism/digestmd5/DigestMd5Directives$Occurrence;" (.ref wr15)) (pf4 : Exa Z Z.heap wr19 "com/example/strict_sasl/strictsasl/mechanism/digestmd5/DigestMd5Directives$Occurrence") (pf5 : Sta Z Z.heap "com/example/strict_sasl/strictsasl/mechanism/digestmd5/DigestMd5Directives$Occurrence" "AT_MOST_ONCE" "Lcom/example/strict_sasl/strictsasl/mechanism/digestmd5/DigestMd5Directives$Occurrence;" (.ref wr19)) (pf6 : Fld Z Z.heap wr11 "java/lang/Enum" "ordinal" "I" (.int (0 : Int32))) (pf7 : Fld Z Z.heap wr15 "java/lang/Enum" "ordinal" "I" (.int (2 : Int32))) (pf8 : Fld Z Z.heap wr19 "java/lang/Enum" "ordinal" "I" (.int (1 : Int32))) (nAE : wr11 ≠ wr15) (nAM : wr11 ≠ wr19) (nME : wr19 ≠ wr15) :
    MetFree l x (head1 (Jvm.Cond.code x code maxLocals ret :: ws) room_1) (fun a U => a = #[(.int p1), (.int p2), (.int p3)] ∧ Z.Warmed39 U.vm ∧ U.heap = h0) (fun _ _ _ _ _ => True) (fun _ U o U' => ∃ v L, o = .returned v ∧ Q0 Z p1 p2 p3 wr11 wr15 wr19 h0 n0 v U'.heap L ∧ FrameEnd U o U' L room_1.cells room_1.slots) := by
  refine MetFree.of_bodySF (plainFor_of_name pn_1) hisR ?_
  intro p e s m args below meth c s₁ Bd hml0 hP hK
  obtain ⟨rfl, hZ, hh⟩ := hP
  have hx := Bd.exec
  have hby := Bd.bytes
  have hml : c.maxLocals = 7 := hml0
  have hown : s.vm.findClass "com/example/strict_sasl/strictsasl/mechanism/digestmd5/OccurrenceAllowsPinLaw" = some m.cls := findClass_of_methodNamed Bd.named
  have hnm := (name_of_methodNamed Bd.named Bd.method).1
  have hlk : meth.locks = false := by first | exact BodyLoose.notSynchronized Bd | exact Body.notSynchronized Bd
  have X0 : Stand p l e room_1 s m #[(.int p1), (.int p2), (.int p3)] below meth c s₁ [] 0 0 := Stand.of_body Bd
  have e0 : s₁.heap = h0 := by rw [← hh, Bd.state]; rfl
  have N0 := Fr.nil n0
  have pre0 : ∀ t, Steps p.tables e below (s₁.setTop (mkF m 0 #[.val (.int p1), .val (.int p2), .val (.int p3), .unset, .unset, .unset, .unset] [])) t → Steps p.tables e below (s₁.setTop (entryFrame m #[(.int p1), (.int p2), (.int p3)] maxLocals)) t := fun t k => castTop (ef_0 m p1 p2 p3) k
  have pr101 : ∀ t, Steps p.tables e below (s₁.setTop (mkF m 10 #[.val (.int p1), .val (.int p2), .val (.int p3), .val (.int ((p1 &&& (2147483647 : Int32)) % (3 : Int32))), .unset, .unset, .unset] [(.int (p3 &&& (1 : Int32)))])) t → Steps p.tables e below (s₁.setTop (mkF m 0 #[.val (.int p1), .val (.int p2), .val (.int p3), .unset, .unset, .unset, .unset] [])) t := fun t kt => by
    show Steps p.tables e below (s₁.setTop (mkF m 0 #[.val (.int p1), .val (.int p2), .val (.int p3), .unset, .unset, .unset, .unset] [])) _
    refine XS.iloadN X0.here hx rfl (hb hby at_0) rfl ?_
    show Steps p.tables e below (s₁.setTop (mkF m 1 #[.val (.int p1), .val (.int p2), .val (.int p3), .unset, .unset, .unset, .unset] [(.int p1)])) _
    refine X0.ldcI hx hown (mvT hZ (hw _ (List.mem_of_getElem? (i := 0) rfl))) (g := (mkF m 1 #[.val (.int p1), .val (.int p2), .val (.int p3), .unset, .unset, .unset, .unset] [(.int p1)])) rfl (hb hby at_1) ?_
    show Steps p.tables e below (s₁.setTop (mkF m 3 #[.val (.int p1), .val (.int p2), .val (.int p3), .unset, .unset, .unset, .unset] [(.int (2147483647 : Int32)), (.int p1)])) _
    refine XS.iand X0.here hx rfl (hb hby at_3) rfl ?_
    show Steps p.tables e below (s₁.setTop (mkF m 4 #[.val (.int p1), .val (.int p2), .val (.int p3), .unset, .unset, .unset, .unset] [(.int (p1 &&& (2147483647 : Int32)))])) _
    refine XS.iconst X0.here hx rfl (hb hby at_4) ?_
    show Steps p.tables e below (s₁.setTop (mkF m 5 #[.val (.int p1), .val (.int p2), .val (.int p3), .unset, .unset, .unset, .unset] [(.int (3 : Int32)), (.int (p1 &&& (2147483647 : Int32)))])) _
    refine iremM X0 hx rfl (hb hby at_5) rfl (by decide) ?_
    show Steps p.tables e below (s₁.setTop (mkF m 6 #[.val (.int p1), .val (.int p2), .val (.int p3), .unset, .unset, .unset, .unset] [(.int ((p1 &&& (2147483647 : Int32)) % (3 : Int32)))])) _
    refine XS.istoreN X0.here hx rfl (hb hby at_6) rfl (l' := #[.val (.int p1), .val (.int p2), .val (.int p3), .val (.int ((p1 &&& (2147483647 : Int32)) % (3 : Int32))), .unset, .unset, .unset]) rfl ?_
    show Steps p.tables e below (s₁.setTop (mkF m 7 #[.val (.int p1), .val (.int p2), .val (.int p3), .val (.int ((p1 &&& (2147483647 : Int32)) % (3 : Int32))), .unset, .unset, .unset] [])) _
    refine XS.iloadN X0.here hx rfl (hb hby at_7) rfl ?_
    show Steps p.tables e below (s₁.setTop (mkF m 8 #[.val (.int p1), .val (.int p2), .val (.int p3), .val (.int ((p1 &&& (2147483647 : Int32)) % (3 : Int32))), .unset, .unset, .unset] [(.int p3)])) _
    refine XS.iconst X0.here hx rfl (hb hby at_8) ?_
    show Steps p.tables e below (s₁.setTop (mkF m 9 #[.val (.int p1), .val (.int p2), .val (.int p3), .val (.int ((p1 &&& (2147483647 : Int32)) % (3 : Int32))), .unset, .unset, .unset] [(.int (1 : Int32)), (.int p3)])) _
    refine XS.iand X0.here hx rfl (hb hby at_9) rfl ?_
    exact kt
  by_cases hc102 : (p3 &&& (1 : Int32)) = (0 : Int32)
  · have pr103 : ∀ t, Steps p.tables e below (s₁.setTop (mkF m 28 #[.val (.int p1), .val (.int p2), .val (.int p3), .val (.int ((p1 &&& (2147483647 : Int32)) % (3 : Int32))), .val (.int (p2 &&& (2147483647 : Int32))), .unset, .unset] [(.int ((p1 &&& (2147483647 : Int32)) % (3 : Int32)))])) t → Steps p.tables e below (s₁.setTop (mkF m 0 #[.val (.int p1), .val (.int p2), .val (.int p3), .unset, .unset, .unset, .unset] [])) t := fun t kt => by
      refine pr101 _ ?_
      show Steps p.tables e below (s₁.setTop (mkF m 10 #[.val (.int p1), .val (.int p2), .val (.int p3), .val (.int ((p1 &&& (2147483647 : Int32)) % (3 : Int32))), .unset, .unset, .unset] [(.int (p3 &&& (1 : Int32)))])) _
      refine XS.ifYes X0.here hx rfl (pc0 := 10) (pc' := 21) rfl (hb hby at_10) rfl ((if0 _ _).trans (teq hc102).1) (by decide) (by decide) ?_
      show Steps p.tables e below (s₁.setTop (mkF m 21 #[.val (.int p1), .val (.int p2), .val (.int p3), .val (.int ((p1 &&& (2147483647 : Int32)) % (3 : Int32))), .unset, .unset, .unset] [])) _
      refine XS.iloadN X0.here hx rfl (hb hby at_21) rfl ?_
      show Steps p.tables e below (s₁.setTop (mkF m 22 #[.val (.int p1), .val (.int p2), .val (.int p3), .val (.int ((p1 &&& (2147483647 : Int32)) % (3 : Int32))), .unset, .unset, .unset] [(.int p2)])) _
      refine X0.ldcI hx hown (mvT hZ (hw _ (List.mem_of_getElem? (i := 0) rfl))) (g := (mkF m 22 #[.val (.int p1), .val (.int p2), .val (.int p3), .val (.int ((p1 &&& (2147483647 : Int32)) % (3 : Int32))), .unset, .unset, .unset] [(.int p2)])) rfl (hb hby at_22) ?_
      show Steps p.tables e below (s₁.setTop (mkF m 24 #[.val (.int p1), .val (.int p2), .val (.int p3), .val (.int ((p1 &&& (2147483647 : Int32)) % (3 : Int32))), .unset, .unset, .unset] [(.int (2147483647 : Int32)), (.int p2)])) _
      refine XS.iand X0.here hx rfl (hb hby at_24) rfl ?_
      show Steps p.tables e below (s₁.setTop (mkF m 25 #[.val (.int p1), .val (.int p2), .val (.int p3), .val (.int ((p1 &&& (2147483647 : Int32)) % (3 : Int32))), .unset, .unset, .unset] [(.int (p2 &&& (2147483647 : Int32)))])) _
      refine XS.istore X0.here hx rfl (hb hby at_25) rfl (l' := #[.val (.int p1), .val (.int p2), .val (.int p3), .val (.int ((p1 &&& (2147483647 : Int32)) % (3 : Int32))), .val (.int (p2 &&& (2147483647 : Int32))), .unset, .unset]) rfl ?_
      show Steps p.tables e below (s₁.setTop (mkF m 27 #[.val (.int p1), .val (.int p2), .val (.int p3), .val (.int ((p1 &&& (2147483647 : Int32)) % (3 : Int32))), .val (.int (p2 &&& (2147483647 : Int32))), .unset, .unset] [])) _
      refine XS.iloadN X0.here hx rfl (hb hby at_27) rfl ?_
      exact kt
    by_cases hc104 : ((p1 &&& (2147483647 : Int32)) % (3 : Int32)) = (0 : Int32)
    · obtain ⟨T105, X105, e105, st105⟩ := getS2 X0 hx hZ hown (host := "") (Or.inl (hw _ (List.mem_of_getElem? (i := 1) rfl))) Via.refl e0 (Sta.ext O0.2 pf1) (g := (mkF m 31 #[.val (.int p1), .val (.int p2), .val (.int p3), .val (.int ((p1 &&& (2147483647 : Int32)) % (3 : Int32))), .val (.int (p2 &&& (2147483647 : Int32))), .unset, .unset] [])) rfl (hb hby at_31)
      obtain ⟨cq106, kq106, q106a, q106b, q106c⟩ := isOf hZ e105 (Exa.ext O0.2 pf0)
      obtain ⟨_, _, ⟨T106, L106, k106, n106⟩, -, X106, ⟨Lc106, hQ106, l106, y106, z106⟩, st106⟩ := X105.virtualBack hx (y := (⟨"com/example/strict_sasl/strictsasl/mechanism/digestmd5/DigestMd5Directives$Occurrence", "allows", "(I)Z"⟩ : MethodName)) (z := (⟨"com/example/strict_sasl/strictsasl/mechanism/digestmd5/DigestMd5Directives$Occurrence", "allows", "(I)Z"⟩ : MethodName)) hown (mvT hZ (hw _ (List.mem_of_getElem? (i := 4) rfl))) (mvT hZ (hw _ (List.mem_of_getElem? (i := 5) rfl))) (notFace_of_selects (args := #[]) (mvT hZ (hw _ (List.mem_of_getElem? (i := 7) rfl)))) (mvT hZ (hw _ (List.mem_of_getElem? (i := 7) rfl))) (mvT hZ (hw _ (List.mem_of_getElem? (i := 6) rfl))) (by decide) (backOf (W := 0) (rm1A l Z a0 hw [] wr11 (p2 &&& (2147483647 : Int32)) wr15 wr19 h0 n0 Z0 (Sta.ext O0.2 pf3) (Sta.ext O0.2 pf5) nAE nAM) hZ (hw _ (List.mem_of_getElem? (i := 8) rfl)) (hw _ (List.mem_of_getElem? (i := 2) rfl)) (by decide) (by decide)) q106a q106c (g := (mkF m 95 #[.val (.int p1), .val (.int p2), .val (.int p3), .val (.int ((p1 &&& (2147483647 : Int32)) % (3 : Int32))), .val (.int (p2 &&& (2147483647 : Int32))), .val (.ref wr11), .val (.int (1 : Int32))] [(.int (p2 &&& (2147483647 : Int32))), (.ref wr11)])) rfl (by rw [hml]; rfl) (Steps.refl _) (argsL := [(.int (p2 &&& (2147483647 : Int32)))]) (rest := []) (lenOf pd_0 rfl) rfl (by show 2 * 0 + _ ≤ _; exact Nat.le_of_eq rfl) (hb hby at_95) (fun _ _ => ⟨rfl, e105, (by decide : 0 + 0 ≤ _), (by decide : 0 + 0 ≤ _)⟩)
      dsimp only [Pt.U, Pt.locs, Pt.cells, Pt.slots] at X106 l106 y106 z106 st106 hQ106
      subst l106 y106 z106
      obtain ⟨rfl, N106q, P106_0⟩ := hQ106
      have N106 := Fr.app N0 N106q
      obtain ⟨fs, hr, hrun, hended, hW, hsame⟩ := X106.leave (v := some (.int (1 : Int32))) (fun h => by rw [Bd.returns] at h; cases h) hlk
      refine ⟨_, _, pre0 _ ?_, hrun, hended, _, _, rfl, ?_, ⟨_, rfl⟩, hW, hsame.mono (by decide) (by decide)⟩
      · refine pr103 _ ?_
        show Steps p.tables e below (s₁.setTop (mkF m 28 #[.val (.int p1), .val (.int p2), .val (.int p3), .val (.int ((p1 &&& (2147483647 : Int32)) % (3 : Int32))), .val (.int (p2 &&& (2147483647 : Int32))), .unset, .unset] [(.int ((p1 &&& (2147483647 : Int32)) % (3 : Int32)))])) _
        refine XS.ifNo X0.here hx rfl (hb hby at_28) rfl ((if0 _ _).trans (teq hc104).2) ?_
        show Steps p.tables e below (s₁.setTop (mkF m 31 #[.val (.int p1), .val (.int p2), .val (.int p3), .val (.int ((p1 &&& (2147483647 : Int32)) % (3 : Int32))), .val (.int (p2 &&& (2147483647 : Int32))), .unset, .unset] [])) _
        refine st105 _ ?_
        show Steps p.tables e below (T105.setTop (mkF m 34 #[.val (.int p1), .val (.int p2), .val (.int p3), .val (.int ((p1 &&& (2147483647 : Int32)) % (3 : Int32))), .val (.int (p2 &&& (2147483647 : Int32))), .unset, .unset] [(.ref wr11)])) _
        refine XS.astore X105.here hx rfl (hb hby at_34) rfl rfl (l' := #[.val (.int p1), .val (.int p2), .val (.int p3), .val (.int ((p1 &&& (2147483647 : Int32)) % (3 : Int32))), .val (.int (p2 &&& (2147483647 : Int32))), .val (.ref wr11), .unset]) rfl ?_
        show Steps p.tables e below (T105.setTop (mkF m 36 #[.val (.int p1), .val (.int p2), .val (.int p3), .val (.int ((p1 &&& (2147483647 : Int32)) % (3 : Int32))), .val (.int (p2 &&& (2147483647 : Int32))), .val (.ref wr11), .unset] [])) _
        refine XS.iconst X105.here hx rfl (hb hby at_36) ?_
        show Steps p.tables e below (T105.setTop (mkF m 37 #[.val (.int p1), .val (.int p2), .val (.int p3), .val (.int ((p1 &&& (2147483647 : Int32)) % (3 : Int32))), .val (.int (p2 &&& (2147483647 : Int32))), .val (.ref wr11), .unset] [(.int (1 : Int32))])) _
        refine XS.istore X105.here hx rfl (hb hby at_37) rfl (l' := #[.val (.int p1), .val (.int p2), .val (.int p3), .val (.int ((p1 &&& (2147483647 : Int32)) % (3 : Int32))), .val (.int (p2 &&& (2147483647 : Int32))), .val (.ref wr11), .val (.int (1 : Int32))]) rfl ?_
        show Steps p.tables e below (T105.setTop (mkF m 39 #[.val (.int p1), .val (.int p2), .val (.int p3), .val (.int ((p1 &&& (2147483647 : Int32)) % (3 : Int32))), .val (.int (p2 &&& (2147483647 : Int32))), .val (.ref wr11), .val (.int (1 : Int32))] [])) _
        refine XS.goto X105.here hx rfl (pc0 := 39) (pc' := 91) rfl (hb hby at_39) (by decide) (by decide) ?_
        show Steps p.tables e below (T105.setTop (mkF m 91 #[.val (.int p1), .val (.int p2), .val (.int p3), .val (.int ((p1 &&& (2147483647 : Int32)) % (3 : Int32))), .val (.int (p2 &&& (2147483647 : Int32))), .val (.ref wr11), .val (.int (1 : Int32))] [])) _
        refine XS.aload X105.here hx rfl (hb hby at_91) rfl rfl ?_
        show Steps p.tables e below (T105.setTop (mkF m 93 #[.val (.int p1), .val (.int p2), .val (.int p3), .val (.int ((p1 &&& (2147483647 : Int32)) % (3 : Int32))), .val (.int (p2 &&& (2147483647 : Int32))), .val (.ref wr11), .val (.int (1 : Int32))] [(.ref wr11)])) _
        refine XS.iload X105.here hx rfl (hb hby at_93) rfl ?_
        show Steps p.tables e below (T105.setTop (mkF m 95 #[.val (.int p1), .val (.int p2), .val (.int p3), .val (.int ((p1 &&& (2147483647 : Int32)) % (3 : Int32))), .val (.int (p2 &&& (2147483647 : Int32))), .val (.ref wr11), .val (.int (1 : Int32))] [(.int (p2 &&& (2147483647 : Int32))), (.ref wr11)])) _
        refine st106.trans ?_
        show Steps p.tables e below (T106.setTop (mkF m 98 #[.val (.int p1), .val (.int p2), .val (.int p3), .val (.int ((p1 &&& (2147483647 : Int32)) % (3 : Int32))), .val (.int (p2 &&& (2147483647 : Int32))), .val (.ref wr11), .val (.int (1 : Int32))] [(.int (1 : Int32))])) _
        refine XS.iload X106.here hx rfl (hb hby at_98) rfl ?_
        show Steps p.tables e below (T106.setTop (mkF m 100 #[.val (.int p1), .val (.int p2), .val (.int p3), .val (.int ((p1 &&& (2147483647 : Int32)) % (3 : Int32))), .val (.int (p2 &&& (2147483647 : Int32))), .val (.ref wr11), .val (.int (1 : Int32))] [(.int (1 : Int32)), (.int (1 : Int32))])) _
        refine XS.icmpNo X106.here hx rfl (hb hby at_100) rfl (teq (by decide : (1 : Int32) = (1 : Int32))).2 ?_
        show Steps p.tables e below (T106.setTop (mkF m 103 #[.val (.int p1), .val (.int p2), .val (.int p3), .val (.int ((p1 &&& (2147483647 : Int32)) % (3 : Int32))), .val (.int (p2 &&& (2147483647 : Int32))), .val (.ref wr11), .val (.int (1 : Int32))] [])) _
        refine XS.iconst X106.here hx rfl (hb hby at_103) ?_
        show Steps p.tables e below (T106.setTop (mkF m 104 #[.val (.int p1), .val (.int p2), .val (.int p3), .val (.int ((p1 &&& (2147483647 : Int32)) % (3 : Int32))), .val (.int (p2 &&& (2147483647 : Int32))), .val (.ref wr11), .val (.int (1 : Int32))] [(.int (1 : Int32))])) _
        refine XS.goto X106.here hx rfl (pc0 := 104) (pc' := 108) rfl (hb hby at_104) (by decide) (by decide) ?_
        show Steps p.tables e below (T106.setTop (mkF m 108 #[.val (.int p1), .val (.int p2), .val (.int p3), .val (.int ((p1 &&& (2147483647 : Int32)) % (3 : Int32))), .val (.int (p2 &&& (2147483647 : Int32))), .val (.ref wr11), .val (.int (1 : Int32))] [(.int (1 : Int32))])) _
        exact retN X106 hx (t := .boolean) Bd.returns (by simp) (hb hby at_108) hr
      · show Q0 Z p1 p2 p3 wr11 wr15 wr19 h0 n0 _ T106.heap _
        rw [P106_0]
        exact ⟨rfl, N106⟩
    · have pr107 : ∀ t, Steps p.tables e below (s₁.setTop (mkF m 44 #[.val (.int p1), .val (.int p2), .val (.int p3), .val (.int ((p1 &&& (2147483647 : Int32)) % (3 : Int32))), .val (.int (p2 &&& (2147483647 : Int32))), .unset, .unset] [(.int (1 : Int32)), (.int ((p1 &&& (2147483647 : Int32)) % (3 : Int32)))])) t → Steps p.tables e below (s₁.setTop (mkF m 0 #[.val (.int p1), .val (.int p2), .val (.int p3), .unset, .unset, .unset, .unset] [])) t := fun t kt => by
        refine pr103 _ ?_
        show Steps p.tables e below (s₁.setTop (mkF m 28 #[.val (.int p1), .val (.int p2), .val (.int p3), .val (.int ((p1 &&& (2147483647 : Int32)) % (3 : Int32))), .val (.int (p2 &&& (2147483647 : Int32))), .unset, .unset] [(.int ((p1 &&& (2147483647 : Int32)) % (3 : Int32)))])) _
        refine XS.ifYes X0.here hx rfl (pc0 := 28) (pc' := 42) rfl (hb hby at_28) rfl ((if0 _ _).trans (feq hc104).2) (by decide) (by decide) ?_
        show Steps p.tables e below (s₁.setTop (mkF m 42 #[.val (.int p1), .val (.int p2), .val (.int p3), .val (.int ((p1 &&& (2147483647 : Int32)) % (3 : Int32))), .val (.int (p2 &&& (2147483647 : Int32))), .unset, .unset] [])) _
        refine XS.iloadN X0.here hx rfl (hb hby at_42) rfl ?_
        show Steps p.tables e below (s₁.setTop (mkF m 43 #[.val (.int p1), .val (.int p2), .val (.int p3), .val (.int ((p1 &&& (2147483647 : Int32)) % (3 : Int32))), .val (.int (p2 &&& (2147483647 : Int32))), .unset, .unset] [(.int ((p1 &&& (2147483647 : Int32)) % (3 : Int32)))])) _
        refine XS.iconst X0.here hx rfl (hb hby at_43) ?_
        exact kt
      by_cases hc108 : ((p1 &&& (2147483647 : Int32)) % (3 : Int32)) = (1 : Int32)
      · obtain ⟨T109, X109, e109, st109⟩ := getS2 X0 hx hZ hown (host := "") (Or.inl (hw _ (List.mem_of_getElem? (i := 13) rfl))) Via.refl e0 (Sta.ext O0.2 pf5) (g := (mkF m 47 #[.val (.int p1), .val (.int p2), .val (.int p3), .val (.int ((p1 &&& (2147483647 : Int32)) % (3 : Int32))), .val (.int (p2 &&& (2147483647 : Int32))), .unset, .unset] [])) rfl (hb hby at_47)
        have pr110 : ∀ t, Steps p.tables e below (T109.setTop (mkF m 54 #[.val (.int p1), .val (.int p2), .val (.int p3), .val (.int ((p1 &&& (2147483647 : Int32)) % (3 : Int32))), .val (.int (p2 &&& (2147483647 : Int32))), .val (.ref wr19), .unset] [(.int (p2 &&& (2147483647 : Int32)))])) t → Steps p.tables e below (s₁.setTop (mkF m 0 #[.val (.int p1), .val (.int p2), .val (.int p3), .unset, .unset, .unset, .unset] [])) t := fun t kt => by
          refine pr107 _ ?_
          show Steps p.tables e below (s₁.setTop (mkF m 44 #[.val (.int p1), .val (.int p2), .val (.int p3), .val (.int ((p1 &&& (2147483647 : Int32)) % (3 : Int32))), .val (.int (p2 &&& (2147483647 : Int32))), .unset, .unset] [(.int (1 : Int32)), (.int ((p1 &&& (2147483647 : Int32)) % (3 : Int32)))])) _
          refine XS.icmpNo X0.here hx rfl (hb hby at_44) rfl (teq hc108).2 ?_
          show Steps p.tables e below (s₁.setTop (mkF m 47 #[.val (.int p1), .val (.int p2), .val (.int p3), .val (.int ((p1 &&& (2147483647 : Int32)) % (3 : Int32))), .val (.int (p2 &&& (2147483647 : Int32))), .unset, .unset] [])) _
          refine st109 _ ?_
          show Steps p.tables e below (T109.setTop (mkF m 50 #[.val (.int p1), .val (.int p2), .val (.int p3), .val (.int ((p1 &&& (2147483647 : Int32)) % (3 : Int32))), .val (.int (p2 &&& (2147483647 : Int32))), .unset, .unset] [(.ref wr19)])) _
          refine XS.astore X109.here hx rfl (hb hby at_50) rfl rfl (l' := #[.val (.int p1), .val (.int p2), .val (.int p3), .val (.int ((p1 &&& (2147483647 : Int32)) % (3 : Int32))), .val (.int (p2 &&& (2147483647 : Int32))), .val (.ref wr19), .unset]) rfl ?_
          show Steps p.tables e below (T109.setTop (mkF m 52 #[.val (.int p1), .val (.int p2), .val (.int p3), .val (.int ((p1 &&& (2147483647 : Int32)) % (3 : Int32))), .val (.int (p2 &&& (2147483647 : Int32))), .val (.ref wr19), .unset] [])) _
          refine XS.iload X109.here hx rfl (hb hby at_52) rfl ?_
          exact kt
        by_cases hc111 : (p2 &&& (2147483647 : Int32)) = (0 : Int32)
        · obtain ⟨cq112, kq112, q112a, q112b, q112c⟩ := isOf hZ e109 (Exa.ext O0.2 pf4)
          obtain ⟨_, _, ⟨T112, L112, k112, n112⟩, -, X112, ⟨Lc112, hQ112, l112, y112, z112⟩, st112⟩ := X109.virtualBack hx (y := (⟨"com/example/strict_sasl/strictsasl/mechanism/digestmd5/DigestMd5Directives$Occurrence", "allows", "(I)Z"⟩ : MethodName)) (z := (⟨"com/example/strict_sasl/strictsasl/mechanism/digestmd5/DigestMd5Directives$Occurrence", "allows", "(I)Z"⟩ : MethodName)) hown (mvT hZ (hw _ (List.mem_of_getElem? (i := 4) rfl))) (mvT hZ (hw _ (List.mem_of_getElem? (i := 5) rfl))) (notFace_of_selects (args := #[]) (mvT hZ (hw _ (List.mem_of_getElem? (i := 7) rfl)))) (mvT hZ (hw _ (List.mem_of_getElem? (i := 7) rfl))) (mvT hZ (hw _ (List.mem_of_getElem? (i := 6) rfl))) (by decide) (backOf (W := 0) (rm1M l Z a0 hw [] wr19 (p2 &&& (2147483647 : Int32)) wr15 h0 n0 Z0 (Sta.ext O0.2 pf3) (Sta.ext O0.2 pf5) nME) hZ (hw _ (List.mem_of_getElem? (i := 8) rfl)) (hw _ (List.mem_of_getElem? (i := 2) rfl)) (by decide) (by decide)) q112a q112c (g := (mkF m 95 #[.val (.int p1), .val (.int p2), .val (.int p3), .val (.int ((p1 &&& (2147483647 : Int32)) % (3 : Int32))), .val (.int (p2 &&& (2147483647 : Int32))), .val (.ref wr19), .val (.int (1 : Int32))] [(.int (p2 &&& (2147483647 : Int32))), (.ref wr19)])) rfl (by rw [hml]; rfl) (Steps.refl _) (argsL := [(.int (p2 &&& (2147483647 : Int32)))]) (rest := []) (lenOf pd_0 rfl) rfl (by show 2 * 0 + _ ≤ _; exact Nat.le_of_eq rfl) (hb hby at_95) (fun _ _ => ⟨rfl, e109, (by decide : 0 + 0 ≤ _), (by decide : 0 + 0 ≤ _)⟩)
          dsimp only [Pt.U, Pt.locs, Pt.cells, Pt.slots] at X112 l112 y112 z112 st112 hQ112
          subst l112 y112 z112
          obtain ⟨hv112, N112q, P112_0⟩ := hQ112
          obtain rfl := hv112.trans (congrArg (fun z => some (Value.int z)) (by rw [hc111]; decide : (own_m (p2 &&& (2147483647 : Int32))) = (1 : Int32)))
          have N112 := Fr.app N0 N112q
          obtain ⟨fs, hr, hrun, hended, hW, hsame⟩ := X112.leave (v := some (.int (1 : Int32))) (fun h => by rw [Bd.returns] at h; cases h) hlk
          refine ⟨_, _, pre0 _ ?_, hrun, hended, _, _, rfl, ?_, ⟨_, rfl⟩, hW, hsame.mono (by decide) (by decide)⟩
          · refine pr110 _ ?_
            show Steps p.tables e below (T109.setTop (mkF m 54 #[.val (.int p1), .val (.int p2), .val (.int p3), .val (.int ((p1 &&& (2147483647 : Int32)) % (3 : Int32))), .val (.int (p2 &&& (2147483647 : Int32))), .val (.ref wr19), .unset] [(.int (p2 &&& (2147483647 : Int32)))])) _
            refine XS.ifYes X109.here hx rfl (pc0 := 54) (pc' := 63) rfl (hb hby at_54) rfl ((if0 _ _).trans (teq hc111).1) (by decide) (by decide) ?_
            show Steps p.tables e below (T109.setTop (mkF m 63 #[.val (.int p1), .val (.int p2), .val (.int p3), .val (.int ((p1 &&& (2147483647 : Int32)) % (3 : Int32))), .val (.int (p2 &&& (2147483647 : Int32))), .val (.ref wr19), .unset] [])) _
            refine XS.iconst X109.here hx rfl (hb hby at_63) ?_
            show Steps p.tables e below (T109.setTop (mkF m 64 #[.val (.int p1), .val (.int p2), .val (.int p3), .val (.int ((p1 &&& (2147483647 : Int32)) % (3 : Int32))), .val (.int (p2 &&& (2147483647 : Int32))), .val (.ref wr19), .unset] [(.int (1 : Int32))])) _
            refine XS.goto X109.here hx rfl (pc0 := 64) (pc' := 68) rfl (hb hby at_64) (by decide) (by decide) ?_
            show Steps p.tables e below (T109.setTop (mkF m 68 #[.val (.int p1), .val (.int p2), .val (.int p3), .val (.int ((p1 &&& (2147483647 : Int32)) % (3 : Int32))), .val (.int (p2 &&& (2147483647 : Int32))), .val (.ref wr19), .unset] [(.int (1 : Int32))])) _
            refine XS.istore X109.here hx rfl (hb hby at_68) rfl (l' := #[.val (.int p1), .val (.int p2), .val (.int p3), .val (.int ((p1 &&& (2147483647 : Int32)) % (3 : Int32))), .val (.int (p2 &&& (2147483647 : Int32))), .val (.ref wr19), .val (.int (1 : Int32))]) rfl ?_
            show Steps p.tables e below (T109.setTop (mkF m 70 #[.val (.int p1), .val (.int p2), .val (.int p3), .val (.int ((p1 &&& (2147483647 : Int32)) % (3 : Int32))), .val (.int (p2 &&& (2147483647 : Int32))), .val (.ref wr19), .val (.int (1 : Int32))] [])) _
            refine XS.goto X109.here hx rfl (pc0 := 70) (pc' := 91) rfl (hb hby at_70) (by decide) (by decide) ?_
            show Steps p.tables e below (T109.setTop (mkF m 91 #[.val (.int p1), .val (.int p2), .val (.int p3), .val (.int ((p1 &&& (2147483647 : Int32)) % (3 : Int32))), .val (.int (p2 &&& (2147483647 : Int32))), .val (.ref wr19), .val (.int (1 : Int32))] [])) _
            refine XS.aload X109.here hx rfl (hb hby at_91) rfl rfl ?_
            show Steps p.tables e below (T109.setTop (mkF m 93 #[.val (.int p1), .val (.int p2), .val (.int p3), .val (.int ((p1 &&& (2147483647 : Int32)) % (3 : Int32))), .val (.int (p2 &&& (2147483647 : Int32))), .val (.ref wr19), .val (.int (1 : Int32))] [(.ref wr19)])) _
            refine XS.iload X109.here hx rfl (hb hby at_93) rfl ?_
            show Steps p.tables e below (T109.setTop (mkF m 95 #[.val (.int p1), .val (.int p2), .val (.int p3), .val (.int ((p1 &&& (2147483647 : Int32)) % (3 : Int32))), .val (.int (p2 &&& (2147483647 : Int32))), .val (.ref wr19), .val (.int (1 : Int32))] [(.int (p2 &&& (2147483647 : Int32))), (.ref wr19)])) _
            refine st112.trans ?_
            show Steps p.tables e below (T112.setTop (mkF m 98 #[.val (.int p1), .val (.int p2), .val (.int p3), .val (.int ((p1 &&& (2147483647 : Int32)) % (3 : Int32))), .val (.int (p2 &&& (2147483647 : Int32))), .val (.ref wr19), .val (.int (1 : Int32))] [(.int (1 : Int32))])) _
            refine XS.iload X112.here hx rfl (hb hby at_98) rfl ?_
            show Steps p.tables e below (T112.setTop (mkF m 100 #[.val (.int p1), .val (.int p2), .val (.int p3), .val (.int ((p1 &&& (2147483647 : Int32)) % (3 : Int32))), .val (.int (p2 &&& (2147483647 : Int32))), .val (.ref wr19), .val (.int (1 : Int32))] [(.int (1 : Int32)), (.int (1 : Int32))])) _
            refine XS.icmpNo X112.here hx rfl (hb hby at_100) rfl (teq (by decide : (1 : Int32) = (1 : Int32))).2 ?_
            show Steps p.tables e below (T112.setTop (mkF m 103 #[.val (.int p1), .val (.int p2), .val (.int p3), .val (.int ((p1 &&& (2147483647 : Int32)) % (3 : Int32))), .val (.int (p2 &&& (2147483647 : Int32))), .val (.ref wr19), .val (.int (1 : Int32))] [])) _
            refine XS.iconst X112.here hx rfl (hb hby at_103) ?_
            show Steps p.tables e below (T112.setTop (mkF m 104 #[.val (.int p1), .val (.int p2), .val (.int p3), .val (.int ((p1 &&& (2147483647 : Int32)) % (3 : Int32))), .val (.int (p2 &&& (2147483647 : Int32))), .val (.ref wr19), .val (.int (1 : Int32))] [(.int (1 : Int32))])) _
            refine XS.goto X112.here hx rfl (pc0 := 104) (pc' := 108) rfl (hb hby at_104) (by decide) (by decide) ?_
            show Steps p.tables e below (T112.setTop (mkF m 108 #[.val (.int p1), .val (.int p2), .val (.int p3), .val (.int ((p1 &&& (2147483647 : Int32)) % (3 : Int32))), .val (.int (p2 &&& (2147483647 : Int32))), .val (.ref wr19), .val (.int (1 : Int32))] [(.int (1 : Int32))])) _
            exact retN X112 hx (t := .boolean) Bd.returns (by simp) (hb hby at_108) hr
          · show Q0 Z p1 p2 p3 wr11 wr15 wr19 h0 n0 _ T112.heap _
            rw [P112_0]
            exact ⟨rfl, N112⟩
        · have pr113 : ∀ t, Steps p.tables e below (T109.setTop (mkF m 60 #[.val (.int p1), .val (.int p2), .val (.int p3), .val (.int ((p1 &&& (2147483647 : Int32)) % (3 : Int32))), .val (.int (p2 &&& (2147483647 : Int32))), .val (.ref wr19), .unset] [(.int (1 : Int32)), (.int (p2 &&& (2147483647 : Int32)))])) t → Steps p.tables e below (s₁.setTop (mkF m 0 #[.val (.int p1), .val (.int p2), .val (.int p3), .unset, .unset, .unset, .unset] [])) t := fun t kt => by
            refine pr110 _ ?_
            show Steps p.tables e below (T109.setTop (mkF m 54 #[.val (.int p1), .val (.int p2), .val (.int p3), .val (.int ((p1 &&& (2147483647 : Int32)) % (3 : Int32))), .val (.int (p2 &&& (2147483647 : Int32))), .val (.ref wr19), .unset] [(.int (p2 &&& (2147483647 : Int32)))])) _
            refine XS.ifNo X109.here hx rfl (hb hby at_54) rfl ((if0 _ _).trans (feq hc111).1) ?_
            show Steps p.tables e below (T109.setTop (mkF m 57 #[.val (.int p1), .val (.int p2), .val (.int p3), .val (.int ((p1 &&& (2147483647 : Int32)) % (3 : Int32))), .val (.int (p2 &&& (2147483647 : Int32))), .val (.ref wr19), .unset] [])) _
            refine XS.iload X109.here hx rfl (hb hby at_57) rfl ?_
            show Steps p.tables e below (T109.setTop (mkF m 59 #[.val (.int p1), .val (.int p2), .val (.int p3), .val (.int ((p1 &&& (2147483647 : Int32)) % (3 : Int32))), .val (.int (p2 &&& (2147483647 : Int32))), .val (.ref wr19), .unset] [(.int (p2 &&& (2147483647 : Int32)))])) _
            refine XS.iconst X109.here hx rfl (hb hby at_59) ?_
            exact kt
          by_cases hc114 : (p2 &&& (2147483647 : Int32)) = (1 : Int32)
          · obtain ⟨cq115, kq115, q115a, q115b, q115c⟩ := isOf hZ e109 (Exa.ext O0.2 pf4)
            obtain ⟨_, _, ⟨T115, L115, k115, n115⟩, -, X115, ⟨Lc115, hQ115, l115, y115, z115⟩, st115⟩ := X109.virtualBack hx (y := (⟨"com/example/strict_sasl/strictsasl/mechanism/digestmd5/DigestMd5Directives$Occurrence", "allows", "(I)Z"⟩ : MethodName)) (z := (⟨"com/example/strict_sasl/strictsasl/mechanism/digestmd5/DigestMd5Directives$Occurrence", "allows", "(I)Z"⟩ : MethodName)) hown (mvT hZ (hw _ (List.mem_of_getElem? (i := 4) rfl))) (mvT hZ (hw _ (List.mem_of_getElem? (i := 5) rfl))) (notFace_of_selects (args := #[]) (mvT hZ (hw _ (List.mem_of_getElem? (i := 7) rfl)))) (mvT hZ (hw _ (List.mem_of_getElem? (i := 7) rfl))) (mvT hZ (hw _ (List.mem_of_getElem? (i := 6) rfl))) (by decide) (backOf (W := 0) (rm1M l Z a0 hw [] wr19 (p2 &&& (2147483647 : Int32)) wr15 h0 n0 Z0 (Sta.ext O0.2 pf3) (Sta.ext O0.2 pf5) nME) hZ (hw _ (List.mem_of_getElem? (i := 8) rfl)) (hw _ (List.mem_of_getElem? (i := 2) rfl)) (by decide) (by decide)) q115a q115c (g := (mkF m 95 #[.val (.int p1), .val (.int p2), .val (.int p3), .val (.int ((p1 &&& (2147483647 : Int32)) % (3 : Int32))), .val (.int (p2 &&& (2147483647 : Int32))), .val (.ref wr19), .val (.int (1 : Int32))] [(.int (p2 &&& (2147483647 : Int32))), (.ref wr19)])) rfl (by rw [hml]; rfl) (Steps.refl _) (argsL := [(.int (p2 &&& (2147483647 : Int32)))]) (rest := []) (lenOf pd_0 rfl) rfl (by show 2 * 0 + _ ≤ _; exact Nat.le_of_eq rfl) (hb hby at_95) (fun _ _ => ⟨rfl, e109, (by decide : 0 + 0 ≤ _), (by decide : 0 + 0 ≤ _)⟩)
            dsimp only [Pt.U, Pt.locs, Pt.cells, Pt.slots] at X115 l115 y115 z115 st115 hQ115
            subst l115 y115 z115
            obtain ⟨hv115, N115q, P115_0⟩ := hQ115
            obtain rfl := hv115.trans (congrArg (fun z => some (Value.int z)) (by rw [hc114]; decide : (own_m (p2 &&& (2147483647 : Int32))) = (1 : Int32)))
            have N115 := Fr.app N0 N115q
            obtain ⟨fs, hr, hrun, hended, hW, hsame⟩ := X115.leave (v := some (.int (1 : Int32))) (fun h => by rw [Bd.returns] at h; cases h) hlk
            refine ⟨_, _, pre0 _ ?_, hrun, hended, _, _, rfl, ?_, ⟨_, rfl⟩, hW, hsame.mono (by decide) (by decide)⟩
            · refine pr113 _ ?_
              show Steps p.tables e below (T109.setTop (mkF m 60 #[.val (.int p1), .val (.int p2), .val (.int p3), .val (.int ((p1 &&& (2147483647 : Int32)) % (3 : Int32))), .val (.int (p2 &&& (2147483647 : Int32))), .val (.ref wr19), .unset] [(.int (1 : Int32)), (.int (p2 &&& (2147483647 : Int32)))])) _
              refine XS.icmpNo X109.here hx rfl (hb hby at_60) rfl (teq hc114).2 ?_
              show Steps p.tables e below (T109.setTop (mkF m 63 #[.val (.int p1), .val (.int p2), .val (.int p3), .val (.int ((p1 &&& (2147483647 : Int32)) % (3 : Int32))), .val (.int (p2 &&& (2147483647 : Int32))), .val (.ref wr19), .unset] [])) _
              refine XS.iconst X109.here hx rfl (hb hby at_63) ?_
              show Steps p.tables e below (T109.setTop (mkF m 64 #[.val (.int p1), .val (.int p2), .val (.int p3), .val (.int ((p1 &&& (2147483647 : Int32)) % (3 : Int32))), .val (.int (p2 &&& (2147483647 : Int32))), .val (.ref wr19), .unset] [(.int (1 : Int32))])) _
              refine XS.goto X109.here hx rfl (pc0 := 64) (pc' := 68) rfl (hb hby at_64) (by decide) (by decide) ?_
              show Steps p.tables e below (T109.setTop (mkF m 68 #[.val (.int p1), .val (.int p2), .val (.int p3), .val (.int ((p1 &&& (2147483647 : Int32)) % (3 : Int32))), .val (.int (p2 &&& (2147483647 : Int32))), .val (.ref wr19), .unset] [(.int (1 : Int32))])) _
              refine XS.istore X109.here hx rfl (hb hby at_68) rfl (l' := #[.val (.int p1), .val (.int p2), .val (.int p3), .val (.int ((p1 &&& (2147483647 : Int32)) % (3 : Int32))), .val (.int (p2 &&& (2147483647 : Int32))), .val (.ref wr19), .val (.int (1 : Int32))]) rfl ?_
              show Steps p.tables e below (T109.setTop (mkF m 70 #[.val (.int p1), .val (.int p2), .val (.int p3), .val (.int ((p1 &&& (2147483647 : Int32)) % (3 : Int32))), .val (.int (p2 &&& (2147483647 : Int32))), .val (.ref wr19), .val (.int (1 : Int32))] [])) _
              refine XS.goto X109.here hx rfl (pc0 := 70) (pc' := 91) rfl (hb hby at_70) (by decide) (by decide) ?_
              show Steps p.tables e below (T109.setTop (mkF m 91 #[.val (.int p1), .val (.int p2), .val (.int p3), .val (.int ((p1 &&& (2147483647 : Int32)) % (3 : Int32))), .val (.int (p2 &&& (2147483647 : Int32))), .val (.ref wr19), .val (.int (1 : Int32))] [])) _
              refine XS.aload X109.here hx rfl (hb hby at_91) rfl rfl ?_
              show Steps p.tables e below (T109.setTop (mkF m 93 #[.val (.int p1), .val (.int p2), .val (.int p3), .val (.int ((p1 &&& (2147483647 : Int32)) % (3 : Int32))), .val (.int (p2 &&& (2147483647 : Int32))), .val (.ref wr19), .val (.int (1 : Int32))] [(.ref wr19)])) _
              refine XS.iload X109.here hx rfl (hb hby at_93) rfl ?_
              show Steps p.tables e below (T109.setTop (mkF m 95 #[.val (.int p1), .val (.int p2), .val (.int p3), .val (.int ((p1 &&& (2147483647 : Int32)) % (3 : Int32))), .val (.int (p2 &&& (2147483647 : Int32))), .val (.ref wr19), .val (.int (1 : Int32))] [(.int (p2 &&& (2147483647 : Int32))), (.ref wr19)])) _
              refine st115.trans ?_
              show Steps p.tables e below (T115.setTop (mkF m 98 #[.val (.int p1), .val (.int p2), .val (.int p3), .val (.int ((p1 &&& (2147483647 : Int32)) % (3 : Int32))), .val (.int (p2 &&& (2147483647 : Int32))), .val (.ref wr19), .val (.int (1 : Int32))] [(.int (1 : Int32))])) _
              refine XS.iload X115.here hx rfl (hb hby at_98) rfl ?_
              show Steps p.tables e below (T115.setTop (mkF m 100 #[.val (.int p1), .val (.int p2), .val (.int p3), .val (.int ((p1 &&& (2147483647 : Int32)) % (3 : Int32))), .val (.int (p2 &&& (2147483647 : Int32))), .val (.ref wr19), .val (.int (1 : Int32))] [(.int (1 : Int32)), (.int (1 : Int32))])) _
              refine XS.icmpNo X115.here hx rfl (hb hby at_100) rfl (teq (by decide : (1 : Int32) = (1 : Int32))).2 ?_
              show Steps p.tables e below (T115.setTop (mkF m 103 #[.val (.int p1), .val (.int p2), .val (.int p3), .val (.int ((p1 &&& (2147483647 : Int32)) % (3 : Int32))), .val (.int (p2 &&& (2147483647 : Int32))), .val (.ref wr19), .val (.int (1 : Int32))] [])) _
              refine XS.iconst X115.here hx rfl (hb hby at_103) ?_
              show Steps p.tables e below (T115.setTop (mkF m 104 #[.val (.int p1), .val (.int p2), .val (.int p3), .val (.int ((p1 &&& (2147483647 : Int32)) % (3 : Int32))), .val (.int (p2 &&& (2147483647 : Int32))), .val (.ref wr19), .val (.int (1 : Int32))] [(.int (1 : Int32))])) _
              refine XS.goto X115.here hx rfl (pc0 := 104) (pc' := 108) rfl (hb hby at_104) (by decide) (by decide) ?_
              show Steps p.tables e below (T115.setTop (mkF m 108 #[.val (.int p1), .val (.int p2), .val (.int p3), .val (.int ((p1 &&& (2147483647 : Int32)) % (3 : Int32))), .val (.int (p2 &&& (2147483647 : Int32))), .val (.ref wr19), .val (.int (1 : Int32))] [(.int (1 : Int32))])) _
              exact retN X115 hx (t := .boolean) Bd.returns (by simp) (hb hby at_108) hr
            · show Q0 Z p1 p2 p3 wr11 wr15 wr19 h0 n0 _ T115.heap _
              rw [P115_0]
              exact ⟨rfl, N115⟩
          · obtain ⟨cq116, kq116, q116a, q116b, q116c⟩ := isOf hZ e109 (Exa.ext O0.2 pf4)
            obtain ⟨_, _, ⟨T116, L116, k116, n116⟩, -, X116, ⟨Lc116, hQ116, l116, y116, z116⟩, st116⟩ := X109.virtualBack hx (y := (⟨"com/example/strict_sasl/strictsasl/mechanism/digestmd5/DigestMd5Directives$Occurrence", "allows", "(I)Z"⟩ : MethodName)) (z := (⟨"com/example/strict_sasl/strictsasl/mechanism/digestmd5/DigestMd5Directives$Occurrence", "allows", "(I)Z"⟩ : MethodName)) hown (mvT hZ (hw _ (List.mem_of_getElem? (i := 4) rfl))) (mvT hZ (hw _ (List.mem_of_getElem? (i := 5) rfl))) (notFace_of_selects (args := #[]) (mvT hZ (hw _ (List.mem_of_getElem? (i := 7) rfl)))) (mvT hZ (hw _ (List.mem_of_getElem? (i := 7) rfl))) (mvT hZ (hw _ (List.mem_of_getElem? (i := 6) rfl))) (by decide) (backOf (W := 0) (rm1M l Z a0 hw [] wr19 (p2 &&& (2147483647 : Int32)) wr15 h0 n0 Z0 (Sta.ext O0.2 pf3) (Sta.ext O0.2 pf5) nME) hZ (hw _ (List.mem_of_getElem? (i := 8) rfl)) (hw _ (List.mem_of_getElem? (i := 2) rfl)) (by decide) (by decide)) q116a q116c (g := (mkF m 95 #[.val (.int p1), .val (.int p2), .val (.int p3), .val (.int ((p1 &&& (2147483647 : Int32)) % (3 : Int32))), .val (.int (p2 &&& (2147483647 : Int32))), .val (.ref wr19), .val (.int (0 : Int32))] [(.int (p2 &&& (2147483647 : Int32))), (.ref wr19)])) rfl (by rw [hml]; rfl) (Steps.refl _) (argsL := [(.int (p2 &&& (2147483647 : Int32)))]) (rest := []) (lenOf pd_0 rfl) rfl (by show 2 * 0 + _ ≤ _; exact Nat.le_of_eq rfl) (hb hby at_95) (fun _ _ => ⟨rfl, e109, (by decide : 0 + 0 ≤ _), (by decide : 0 + 0 ≤ _)⟩)
            dsimp only [Pt.U, Pt.locs, Pt.cells, Pt.slots] at X116 l116 y116 z116 st116 hQ116
            subst l116 y116 z116
            obtain ⟨hv116, N116q, P116_0⟩ := hQ116
            obtain rfl := hv116.trans (congrArg (fun z => some (Value.int z)) (if_pos (own_gt1 (own_nn2 p2) hc111 hc114) : (own_m (p2 &&& (2147483647 : Int32))) = (0 : Int32)))
            have N116 := Fr.app N0 N116q
            obtain ⟨fs, hr, hrun, hended, hW, hsame⟩ := X116.leave (v := some (.int (1 : Int32))) (fun h => by rw [Bd.returns] at h; cases h) hlk
            refine ⟨_, _, pre0 _ ?_, hrun, hended, _, _, rfl, ?_, ⟨_, rfl⟩, hW, hsame.mono (by decide) (by decide)⟩
            · refine pr113 _ ?_
              show Steps p.tables e below (T109.setTop (mkF m 60 #[.val (.int p1), .val (.int p2), .val (.int p3), .val (.int ((p1 &&& (2147483647 : Int32)) % (3 : Int32))), .val (.int (p2 &&& (2147483647 : Int32))), .val (.ref wr19), .unset] [(.int (1 : Int32)), (.int (p2 &&& (2147483647 : Int32)))])) _
              refine XS.icmpYes X109.here hx rfl (pc0 := 60) (pc' := 67) rfl (hb hby at_60) rfl (feq hc114).2 (by decide) (by decide) ?_
              show Steps p.tables e below (T109.setTop (mkF m 67 #[.val (.int p1), .val (.int p2), .val (.int p3), .val (.int ((p1 &&& (2147483647 : Int32)) % (3 : Int32))), .val (.int (p2 &&& (2147483647 : Int32))), .val (.ref wr19), .unset] [])) _
              refine XS.iconst X109.here hx rfl (hb hby at_67) ?_
              show Steps p.tables e below (T109.setTop (mkF m 68 #[.val (.int p1), .val (.int p2), .val (.int p3), .val (.int ((p1 &&& (2147483647 : Int32)) % (3 : Int32))), .val (.int (p2 &&& (2147483647 : Int32))), .val (.ref wr19), .unset] [(.int (0 : Int32))])) _
              refine XS.istore X109.here hx rfl (hb hby at_68) rfl (l' := #[.val (.int p1), .val (.int p2), .val (.int p3), .val (.int ((p1 &&& (2147483647 : Int32)) % (3 : Int32))), .val (.int (p2 &&& (2147483647 : Int32))), .val (.ref wr19), .val (.int (0 : Int32))]) rfl ?_
              show Steps p.tables e below (T109.setTop (mkF m 70 #[.val (.int p1), .val (.int p2), .val (.int p3), .val (.int ((p1 &&& (2147483647 : Int32)) % (3 : Int32))), .val (.int (p2 &&& (2147483647 : Int32))), .val (.ref wr19), .val (.int (0 : Int32))] [])) _
              refine XS.goto X109.here hx rfl (pc0 := 70) (pc' := 91) rfl (hb hby at_70) (by decide) (by decide) ?_
              show Steps p.tables e below (T109.setTop (mkF m 91 #[.val (.int p1), .val (.int p2), .val (.int p3), .val (.int ((p1 &&& (2147483647 : Int32)) % (3 : Int32))), .val (.int (p2 &&& (2147483647 : Int32))), .val (.ref wr19), .val (.int (0 : Int32))] [])) _
              refine XS.aload X109.here hx rfl (hb hby at_91) rfl rfl ?_
              show Steps p.tables e below (T109.setTop (mkF m 93 #[.val (.int p1), .val (.int p2), .val (.int p3), .val (.int ((p1 &&& (2147483647 : Int32)) % (3 : Int32))), .val (.int (p2 &&& (2147483647 : Int32))), .val (.ref wr19), .val (.int (0 : Int32))] [(.ref wr19)])) _
              refine XS.iload X109.here hx rfl (hb hby at_93) rfl ?_
              show Steps p.tables e below (T109.setTop (mkF m 95 #[.val (.int p1), .val (.int p2), .val (.int p3), .val (.int ((p1 &&& (2147483647 : Int32)) % (3 : Int32))), .val (.int (p2 &&& (2147483647 : Int32))), .val (.ref wr19), .val (.int (0 : Int32))] [(.int (p2 &&& (2147483647 : Int32))), (.ref wr19)])) _
              refine st116.trans ?_
              show Steps p.tables e below (T116.setTop (mkF m 98 #[.val (.int p1), .val (.int p2), .val (.int p3), .val (.int ((p1 &&& (2147483647 : Int32)) % (3 : Int32))), .val (.int (p2 &&& (2147483647 : Int32))), .val (.ref wr19), .val (.int (0 : Int32))] [(.int (0 : Int32))])) _
              refine XS.iload X116.here hx rfl (hb hby at_98) rfl ?_
              show Steps p.tables e below (T116.setTop (mkF m 100 #[.val (.int p1), .val (.int p2), .val (.int p3), .val (.int ((p1 &&& (2147483647 : Int32)) % (3 : Int32))), .val (.int (p2 &&& (2147483647 : Int32))), .val (.ref wr19), .val (.int (0 : Int32))] [(.int (0 : Int32)), (.int (0 : Int32))])) _
              refine XS.icmpNo X116.here hx rfl (hb hby at_100) rfl (teq (by decide : (0 : Int32) = (0 : Int32))).2 ?_
              show Steps p.tables e below (T116.setTop (mkF m 103 #[.val (.int p1), .val (.int p2), .val (.int p3), .val (.int ((p1 &&& (2147483647 : Int32)) % (3 : Int32))), .val (.int (p2 &&& (2147483647 : Int32))), .val (.ref wr19), .val (.int (0 : Int32))] [])) _
              refine XS.iconst X116.here hx rfl (hb hby at_103) ?_
              show Steps p.tables e below (T116.setTop (mkF m 104 #[.val (.int p1), .val (.int p2), .val (.int p3), .val (.int ((p1 &&& (2147483647 : Int32)) % (3 : Int32))), .val (.int (p2 &&& (2147483647 : Int32))), .val (.ref wr19), .val (.int (0 : Int32))] [(.int (1 : Int32))])) _
              refine XS.goto X116.here hx rfl (pc0 := 104) (pc' := 108) rfl (hb hby at_104) (by decide) (by decide) ?_
              show Steps p.tables e below (T116.setTop (mkF m 108 #[.val (.int p1), .val (.int p2), .val (.int p3), .val (.int ((p1 &&& (2147483647 : Int32)) % (3 : Int32))), .val (.int (p2 &&& (2147483647 : Int32))), .val (.ref wr19), .val (.int (0 : Int32))] [(.int (1 : Int32))])) _
              exact retN X116 hx (t := .boolean) Bd.returns (by simp) (hb hby at_108) hr
            · show Q0 Z p1 p2 p3 wr11 wr15 wr19 h0 n0 _ T116.heap _
              rw [P116_0]
              exact ⟨rfl, N116⟩
      · obtain ⟨T117, X117, e117, st117⟩ := getS2 X0 hx hZ hown (host := "") (Or.inl (hw _ (List.mem_of_getElem? (i := 14) rfl))) Via.refl e0 (Sta.ext O0.2 pf3) (g := (mkF m 73 #[.val (.int p1), .val (.int p2), .val (.int p3), .val (.int ((p1 &&& (2147483647 : Int32)) % (3 : Int32))), .val (.int (p2 &&& (2147483647 : Int32))), .unset, .unset] [])) rfl (hb hby at_73)
        have pr118 : ∀ t, Steps p.tables e below (T117.setTop (mkF m 81 #[.val (.int p1), .val (.int p2), .val (.int p3), .val (.int ((p1 &&& (2147483647 : Int32)) % (3 : Int32))), .val (.int (p2 &&& (2147483647 : Int32))), .val (.ref wr15), .unset] [(.int (1 : Int32)), (.int (p2 &&& (2147483647 : Int32)))])) t → Steps p.tables e below (s₁.setTop (mkF m 0 #[.val (.int p1), .val (.int p2), .val (.int p3), .unset, .unset, .unset, .unset] [])) t := fun t kt => by
          refine pr107 _ ?_
          show Steps p.tables e below (s₁.setTop (mkF m 44 #[.val (.int p1), .val (.int p2), .val (.int p3), .val (.int ((p1 &&& (2147483647 : Int32)) % (3 : Int32))), .val (.int (p2 &&& (2147483647 : Int32))), .unset, .unset] [(.int (1 : Int32)), (.int ((p1 &&& (2147483647 : Int32)) % (3 : Int32)))])) _
          refine XS.icmpYes X0.here hx rfl (pc0 := 44) (pc' := 73) rfl (hb hby at_44) rfl (feq hc108).2 (by decide) (by decide) ?_
          show Steps p.tables e below (s₁.setTop (mkF m 73 #[.val (.int p1), .val (.int p2), .val (.int p3), .val (.int ((p1 &&& (2147483647 : Int32)) % (3 : Int32))), .val (.int (p2 &&& (2147483647 : Int32))), .unset, .unset] [])) _
          refine st117 _ ?_
          show Steps p.tables e below (T117.setTop (mkF m 76 #[.val (.int p1), .val (.int p2), .val (.int p3), .val (.int ((p1 &&& (2147483647 : Int32)) % (3 : Int32))), .val (.int (p2 &&& (2147483647 : Int32))), .unset, .unset] [(.ref wr15)])) _
          refine XS.astore X117.here hx rfl (hb hby at_76) rfl rfl (l' := #[.val (.int p1), .val (.int p2), .val (.int p3), .val (.int ((p1 &&& (2147483647 : Int32)) % (3 : Int32))), .val (.int (p2 &&& (2147483647 : Int32))), .val (.ref wr15), .unset]) rfl ?_
          show Steps p.tables e below (T117.setTop (mkF m 78 #[.val (.int p1), .val (.int p2), .val (.int p3), .val (.int ((p1 &&& (2147483647 : Int32)) % (3 : Int32))), .val (.int (p2 &&& (2147483647 : Int32))), .val (.ref wr15), .unset] [])) _
          refine XS.iload X117.here hx rfl (hb hby at_78) rfl ?_
          show Steps p.tables e below (T117.setTop (mkF m 80 #[.val (.int p1), .val (.int p2), .val (.int p3), .val (.int ((p1 &&& (2147483647 : Int32)) % (3 : Int32))), .val (.int (p2 &&& (2147483647 : Int32))), .val (.ref wr15), .unset] [(.int (p2 &&& (2147483647 : Int32)))])) _
          refine XS.iconst X117.here hx rfl (hb hby at_80) ?_
          exact kt
        by_cases hc119 : (p2 &&& (2147483647 : Int32)) = (1 : Int32)
        · obtain ⟨cq120, kq120, q120a, q120b, q120c⟩ := isOf hZ e117 (Exa.ext O0.2 pf2)
          obtain ⟨_, _, ⟨T120, L120, k120, n120⟩, -, X120, ⟨Lc120, hQ120, l120, y120, z120⟩, st120⟩ := X117.virtualBack hx (y := (⟨"com/example/strict_sasl/strictsasl/mechanism/digestmd5/DigestMd5Directives$Occurrence", "allows", "(I)Z"⟩ : MethodName)) (z := (⟨"com/example/strict_sasl/strictsasl/mechanism/digestmd5/DigestMd5Directives$Occurrence", "allows", "(I)Z"⟩ : MethodName)) hown (mvT hZ (hw _ (List.mem_of_getElem? (i := 4) rfl))) (mvT hZ (hw _ (List.mem_of_getElem? (i := 5) rfl))) (notFace_of_selects (args := #[]) (mvT hZ (hw _ (List.mem_of_getElem? (i := 7) rfl)))) (mvT hZ (hw _ (List.mem_of_getElem? (i := 7) rfl))) (mvT hZ (hw _ (List.mem_of_getElem? (i := 6) rfl))) (by decide) (backOf (W := 0) (rm1E l Z a0 hw [] wr15 (p2 &&& (2147483647 : Int32)) h0 n0 Z0 (Sta.ext O0.2 pf3)) hZ (hw _ (List.mem_of_getElem? (i := 8) rfl)) (hw _ (List.mem_of_getElem? (i := 2) rfl)) (by decide) (by decide)) q120a q120c (g := (mkF m 95 #[.val (.int p1), .val (.int p2), .val (.int p3), .val (.int ((p1 &&& (2147483647 : Int32)) % (3 : Int32))), .val (.int (p2 &&& (2147483647 : Int32))), .val (.ref wr15), .val (.int (1 : Int32))] [(.int (p2 &&& (2147483647 : Int32))), (.ref wr15)])) rfl (by rw [hml]; rfl) (Steps.refl _) (argsL := [(.int (p2 &&& (2147483647 : Int32)))]) (rest := []) (lenOf pd_0 rfl) rfl (by show 2 * 0 + _ ≤ _; exact Nat.le_of_eq rfl) (hb hby at_95) (fun _ _ => ⟨rfl, e117, (by decide : 0 + 0 ≤ _), (by decide : 0 + 0 ≤ _)⟩)
          dsimp only [Pt.U, Pt.locs, Pt.cells, Pt.slots] at X120 l120 y120 z120 st120 hQ120
          subst l120 y120 z120
          obtain ⟨hv120, N120q, P120_0⟩ := hQ120
          obtain rfl := hv120.trans (congrArg (fun z => some (Value.int z)) (if_pos hc119 : (own_e (p2 &&& (2147483647 : Int32))) = (1 : Int32)))
          have N120 := Fr.app N0 N120q
          obtain ⟨fs, hr, hrun, hended, hW, hsame⟩ := X120.leave (v := some (.int (1 : Int32))) (fun h => by rw [Bd.returns] at h; cases h) hlk
          refine ⟨_, _, pre0 _ ?_, hrun, hended, _, _, rfl, ?_, ⟨_, rfl⟩, hW, hsame.mono (by decide) (by decide)⟩
          · refine pr118 _ ?_
            show Steps p.tables e below (T117.setTop (mkF m 81 #[.val (.int p1), .val (.int p2), .val (.int p3), .val (.int ((p1 &&& (2147483647 : Int32)) % (3 : Int32))), .val (.int (p2 &&& (2147483647 : Int32))), .val (.ref wr15), .unset] [(.int (1 : Int32)), (.int (p2 &&& (2147483647 : Int32)))])) _
            refine XS.icmpNo X117.here hx rfl (hb hby at_81) rfl (teq hc119).2 ?_
            show Steps p.tables e below (T117.setTop (mkF m 84 #[.val (.int p1), .val (.int p2), .val (.int p3), .val (.int ((p1 &&& (2147483647 : Int32)) % (3 : Int32))), .val (.int (p2 &&& (2147483647 : Int32))), .val (.ref wr15), .unset] [])) _
            refine XS.iconst X117.here hx rfl (hb hby at_84) ?_
            show Steps p.tables e below (T117.setTop (mkF m 85 #[.val (.int p1), .val (.int p2), .val (.int p3), .val (.int ((p1 &&& (2147483647 : Int32)) % (3 : Int32))), .val (.int (p2 &&& (2147483647 : Int32))), .val (.ref wr15), .unset] [(.int (1 : Int32))])) _
            refine XS.goto X117.here hx rfl (pc0 := 85) (pc' := 89) rfl (hb hby at_85) (by decide) (by decide) ?_
            show Steps p.tables e below (T117.setTop (mkF m 89 #[.val (.int p1), .val (.int p2), .val (.int p3), .val (.int ((p1 &&& (2147483647 : Int32)) % (3 : Int32))), .val (.int (p2 &&& (2147483647 : Int32))), .val (.ref wr15), .unset] [(.int (1 : Int32))])) _
            refine XS.istore X117.here hx rfl (hb hby at_89) rfl (l' := #[.val (.int p1), .val (.int p2), .val (.int p3), .val (.int ((p1 &&& (2147483647 : Int32)) % (3 : Int32))), .val (.int (p2 &&& (2147483647 : Int32))), .val (.ref wr15), .val (.int (1 : Int32))]) rfl ?_
            show Steps p.tables e below (T117.setTop (mkF m 91 #[.val (.int p1), .val (.int p2), .val (.int p3), .val (.int ((p1 &&& (2147483647 : Int32)) % (3 : Int32))), .val (.int (p2 &&& (2147483647 : Int32))), .val (.ref wr15), .val (.int (1 : Int32))] [])) _
            refine XS.aload X117.here hx rfl (hb hby at_91) rfl rfl ?_
            show Steps p.tables e below (T117.setTop (mkF m 93 #[.val (.int p1), .val (.int p2), .val (.int p3), .val (.int ((p1 &&& (2147483647 : Int32)) % (3 : Int32))), .val (.int (p2 &&& (2147483647 : Int32))), .val (.ref wr15), .val (.int (1 : Int32))] [(.ref wr15)])) _
            refine XS.iload X117.here hx rfl (hb hby at_93) rfl ?_
            show Steps p.tables e below (T117.setTop (mkF m 95 #[.val (.int p1), .val (.int p2), .val (.int p3), .val (.int ((p1 &&& (2147483647 : Int32)) % (3 : Int32))), .val (.int (p2 &&& (2147483647 : Int32))), .val (.ref wr15), .val (.int (1 : Int32))] [(.int (p2 &&& (2147483647 : Int32))), (.ref wr15)])) _
            refine st120.trans ?_
            show Steps p.tables e below (T120.setTop (mkF m 98 #[.val (.int p1), .val (.int p2), .val (.int p3), .val (.int ((p1 &&& (2147483647 : Int32)) % (3 : Int32))), .val (.int (p2 &&& (2147483647 : Int32))), .val (.ref wr15), .val (.int (1 : Int32))] [(.int (1 : Int32))])) _
            refine XS.iload X120.here hx rfl (hb hby at_98) rfl ?_
            show Steps p.tables e below (T120.setTop (mkF m 100 #[.val (.int p1), .val (.int p2), .val (.int p3), .val (.int ((p1 &&& (2147483647 : Int32)) % (3 : Int32))), .val (.int (p2 &&& (2147483647 : Int32))), .val (.ref wr15), .val (.int (1 : Int32))] [(.int (1 : Int32)), (.int (1 : Int32))])) _
            refine XS.icmpNo X120.here hx rfl (hb hby at_100) rfl (teq (by decide : (1 : Int32) = (1 : Int32))).2 ?_
            show Steps p.tables e below (T120.setTop (mkF m 103 #[.val (.int p1), .val (.int p2), .val (.int p3), .val (.int ((p1 &&& (2147483647 : Int32)) % (3 : Int32))), .val (.int (p2 &&& (2147483647 : Int32))), .val (.ref wr15), .val (.int (1 : Int32))] [])) _
            refine XS.iconst X120.here hx rfl (hb hby at_103) ?_
            show Steps p.tables e below (T120.setTop (mkF m 104 #[.val (.int p1), .val (.int p2), .val (.int p3), .val (.int ((p1 &&& (2147483647 : Int32)) % (3 : Int32))), .val (.int (p2 &&& (2147483647 : Int32))), .val (.ref wr15), .val (.int (1 : Int32))] [(.int (1 : Int32))])) _
            refine XS.goto X120.here hx rfl (pc0 := 104) (pc' := 108) rfl (hb hby at_104) (by decide) (by decide) ?_
            show Steps p.tables e below (T120.setTop (mkF m 108 #[.val (.int p1), .val (.int p2), .val (.int p3), .val (.int ((p1 &&& (2147483647 : Int32)) % (3 : Int32))), .val (.int (p2 &&& (2147483647 : Int32))), .val (.ref wr15), .val (.int (1 : Int32))] [(.int (1 : Int32))])) _
            exact retN X120 hx (t := .boolean) Bd.returns (by simp) (hb hby at_108) hr
          · show Q0 Z p1 p2 p3 wr11 wr15 wr19 h0 n0 _ T120.heap _
            rw [P120_0]
            exact ⟨rfl, N120⟩
        · obtain ⟨cq121, kq121, q121a, q121b, q121c⟩ := isOf hZ e117 (Exa.ext O0.2 pf2)
          obtain ⟨_, _, ⟨T121, L121, k121, n121⟩, -, X121, ⟨Lc121, hQ121, l121, y121, z121⟩, st121⟩ := X117.virtualBack hx (y := (⟨"com/example/strict_sasl/strictsasl/mechanism/digestmd5/DigestMd5Directives$Occurrence", "allows", "(I)Z"⟩ : MethodName)) (z := (⟨"com/example/strict_sasl/strictsasl/mechanism/digestmd5/DigestMd5Directives$Occurrence", "allows", "(I)Z"⟩ : MethodName)) hown (mvT hZ (hw _ (List.mem_of_getElem? (i := 4) rfl))) (mvT hZ (hw _ (List.mem_of_getElem? (i := 5) rfl))) (notFace_of_selects (args := #[]) (mvT hZ (hw _ (List.mem_of_getElem? (i := 7) rfl)))) (mvT hZ (hw _ (List.mem_of_getElem? (i := 7) rfl))) (mvT hZ (hw _ (List.mem_of_getElem? (i := 6) rfl))) (by decide) (backOf (W := 0) (rm1E l Z a0 hw [] wr15 (p2 &&& (2147483647 : Int32)) h0 n0 Z0 (Sta.ext O0.2 pf3)) hZ (hw _ (List.mem_of_getElem? (i := 8) rfl)) (hw _ (List.mem_of_getElem? (i := 2) rfl)) (by decide) (by decide)) q121a q121c (g := (mkF m 95 #[.val (.int p1), .val (.int p2), .val (.int p3), .val (.int ((p1 &&& (2147483647 : Int32)) % (3 : Int32))), .val (.int (p2 &&& (2147483647 : Int32))), .val (.ref wr15), .val (.int (0 : Int32))] [(.int (p2 &&& (2147483647 : Int32))), (.ref wr15)])) rfl (by rw [hml]; rfl) (Steps.refl _) (argsL := [(.int (p2 &&& (2147483647 : Int32)))]) (rest := []) (lenOf pd_0 rfl) rfl (by show 2 * 0 + _ ≤ _; exact Nat.le_of_eq rfl) (hb hby at_95) (fun _ _ => ⟨rfl, e117, (by decide : 0 + 0 ≤ _), (by decide : 0 + 0 ≤ _)⟩)
          dsimp only [Pt.U, Pt.locs, Pt.cells, Pt.slots] at X121 l121 y121 z121 st121 hQ121
          subst l121 y121 z121
          obtain ⟨hv121, N121q, P121_0⟩ := hQ121
          obtain rfl := hv121.trans (congrArg (fun z => some (Value.int z)) (if_neg hc119 : (own_e (p2 &&& (2147483647 : Int32))) = (0 : Int32)))
          have N121 := Fr.app N0 N121q
          obtain ⟨fs, hr, hrun, hended, hW, hsame⟩ := X121.leave (v := some (.int (1 : Int32))) (fun h => by rw [Bd.returns] at h; cases h) hlk
          refine ⟨_, _, pre0 _ ?_, hrun, hended, _, _, rfl, ?_, ⟨_, rfl⟩, hW, hsame.mono (by decide) (by decide)⟩
          · refine pr118 _ ?_
            show Steps p.tables e below (T117.setTop (mkF m 81 #[.val (.int p1), .val (.int p2), .val (.int p3), .val (.int ((p1 &&& (2147483647 : Int32)) % (3 : Int32))), .val (.int (p2 &&& (2147483647 : Int32))), .val (.ref wr15), .unset] [(.int (1 : Int32)), (.int (p2 &&& (2147483647 : Int32)))])) _
            refine XS.icmpYes X117.here hx rfl (pc0 := 81) (pc' := 88) rfl (hb hby at_81) rfl (feq hc119).2 (by decide) (by decide) ?_
            show Steps p.tables e below (T117.setTop (mkF m 88 #[.val (.int p1), .val (.int p2), .val (.int p3), .val (.int ((p1 &&& (2147483647 : Int32)) % (3 : Int32))), .val (.int (p2 &&& (2147483647 : Int32))), .val (.ref wr15), .unset] [])) _
            refine XS.iconst X117.here hx rfl (hb hby at_88) ?_
            show Steps p.tables e below (T117.setTop (mkF m 89 #[.val (.int p1), .val (.int p2), .val (.int p3), .val (.int ((p1 &&& (2147483647 : Int32)) % (3 : Int32))), .val (.int (p2 &&& (2147483647 : Int32))), .val (.ref wr15), .unset] [(.int (0 : Int32))])) _
            refine XS.istore X117.here hx rfl (hb hby at_89) rfl (l' := #[.val (.int p1), .val (.int p2), .val (.int p3), .val (.int ((p1 &&& (2147483647 : Int32)) % (3 : Int32))), .val (.int (p2 &&& (2147483647 : Int32))), .val (.ref wr15), .val (.int (0 : Int32))]) rfl ?_
            show Steps p.tables e below (T117.setTop (mkF m 91 #[.val (.int p1), .val (.int p2), .val (.int p3), .val (.int ((p1 &&& (2147483647 : Int32)) % (3 : Int32))), .val (.int (p2 &&& (2147483647 : Int32))), .val (.ref wr15), .val (.int (0 : Int32))] [])) _
            refine XS.aload X117.here hx rfl (hb hby at_91) rfl rfl ?_
            show Steps p.tables e below (T117.setTop (mkF m 93 #[.val (.int p1), .val (.int p2), .val (.int p3), .val (.int ((p1 &&& (2147483647 : Int32)) % (3 : Int32))), .val (.int (p2 &&& (2147483647 : Int32))), .val (.ref wr15), .val (.int (0 : Int32))] [(.ref wr15)])) _
            refine XS.iload X117.here hx rfl (hb hby at_93) rfl ?_
            show Steps p.tables e below (T117.setTop (mkF m 95 #[.val (.int p1), .val (.int p2), .val (.int p3), .val (.int ((p1 &&& (2147483647 : Int32)) % (3 : Int32))), .val (.int (p2 &&& (2147483647 : Int32))), .val (.ref wr15), .val (.int (0 : Int32))] [(.int (p2 &&& (2147483647 : Int32))), (.ref wr15)])) _
            refine st121.trans ?_
            show Steps p.tables e below (T121.setTop (mkF m 98 #[.val (.int p1), .val (.int p2), .val (.int p3), .val (.int ((p1 &&& (2147483647 : Int32)) % (3 : Int32))), .val (.int (p2 &&& (2147483647 : Int32))), .val (.ref wr15), .val (.int (0 : Int32))] [(.int (0 : Int32))])) _
            refine XS.iload X121.here hx rfl (hb hby at_98) rfl ?_
            show Steps p.tables e below (T121.setTop (mkF m 100 #[.val (.int p1), .val (.int p2), .val (.int p3), .val (.int ((p1 &&& (2147483647 : Int32)) % (3 : Int32))), .val (.int (p2 &&& (2147483647 : Int32))), .val (.ref wr15), .val (.int (0 : Int32))] [(.int (0 : Int32)), (.int (0 : Int32))])) _
            refine XS.icmpNo X121.here hx rfl (hb hby at_100) rfl (teq (by decide : (0 : Int32) = (0 : Int32))).2 ?_
            show Steps p.tables e below (T121.setTop (mkF m 103 #[.val (.int p1), .val (.int p2), .val (.int p3), .val (.int ((p1 &&& (2147483647 : Int32)) % (3 : Int32))), .val (.int (p2 &&& (2147483647 : Int32))), .val (.ref wr15), .val (.int (0 : Int32))] [])) _
            refine XS.iconst X121.here hx rfl (hb hby at_103) ?_
            show Steps p.tables e below (T121.setTop (mkF m 104 #[.val (.int p1), .val (.int p2), .val (.int p3), .val (.int ((p1 &&& (2147483647 : Int32)) % (3 : Int32))), .val (.int (p2 &&& (2147483647 : Int32))), .val (.ref wr15), .val (.int (0 : Int32))] [(.int (1 : Int32))])) _
            refine XS.goto X121.here hx rfl (pc0 := 104) (pc' := 108) rfl (hb hby at_104) (by decide) (by decide) ?_
            show Steps p.tables e below (T121.setTop (mkF m 108 #[.val (.int p1), .val (.int p2), .val (.int p3), .val (.int ((p1 &&& (2147483647 : Int32)) % (3 : Int32))), .val (.int (p2 &&& (2147483647 : Int32))), .val (.ref wr15), .val (.int (0 : Int32))] [(.int (1 : Int32))])) _
            exact retN X121 hx (t := .boolean) Bd.returns (by simp) (hb hby at_108) hr
          · show Q0 Z p1 p2 p3 wr11 wr15 wr19 h0 n0 _ T121.heap _
            rw [P121_0]
            exact ⟨rfl, N121⟩
  · have pr122 : ∀ t, Steps p.tables e below (s₁.setTop (mkF m 28 #[.val (.int p1), .val (.int p2), .val (.int p3), .val (.int ((p1 &&& (2147483647 : Int32)) % (3 : Int32))), .val (.int (p2 &&& (3 : Int32))), .unset, .unset] [(.int ((p1 &&& (2147483647 : Int32)) % (3 : Int32)))])) t → Steps p.tables e below (s₁.setTop (mkF m 0 #[.val (.int p1), .val (.int p2), .val (.int p3), .unset, .unset, .unset, .unset] [])) t := fun t kt => by
      refine pr101 _ ?_
      show Steps p.tables e below (s₁.setTop (mkF m 10 #[.val (.int p1), .val (.int p2), .val (.int p3), .val (.int ((p1 &&& (2147483647 : Int32)) % (3 : Int32))), .unset, .unset, .unset] [(.int (p3 &&& (1 : Int32)))])) _
      refine XS.ifNo X0.here hx rfl (hb hby at_10) rfl ((if0 _ _).trans (feq hc102).1) ?_
      show Steps p.tables e below (s₁.setTop (mkF m 13 #[.val (.int p1), .val (.int p2), .val (.int p3), .val (.int ((p1 &&& (2147483647 : Int32)) % (3 : Int32))), .unset, .unset, .unset] [])) _
      refine XS.iloadN X0.here hx rfl (hb hby at_13) rfl ?_
      show Steps p.tables e below (s₁.setTop (mkF m 14 #[.val (.int p1), .val (.int p2), .val (.int p3), .val (.int ((p1 &&& (2147483647 : Int32)) % (3 : Int32))), .unset, .unset, .unset] [(.int p2)])) _
      refine XS.iconst X0.here hx rfl (hb hby at_14) ?_
      show Steps p.tables e below (s₁.setTop (mkF m 15 #[.val (.int p1), .val (.int p2), .val (.int p3), .val (.int ((p1 &&& (2147483647 : Int32)) % (3 : Int32))), .unset, .unset, .unset] [(.int (3 : Int32)), (.int p2)])) _
      refine XS.iand X0.here hx rfl (hb hby at_15) rfl ?_
      show Steps p.tables e below (s₁.setTop (mkF m 16 #[.val (.int p1), .val (.int p2), .val (.int p3), .val (.int ((p1 &&& (2147483647 : Int32)) % (3 : Int32))), .unset, .unset, .unset] [(.int (p2 &&& (3 : Int32)))])) _
      refine XS.istore X0.here hx rfl (hb hby at_16) rfl (l' := #[.val (.int p1), .val (.int p2), .val (.int p3), .val (.int ((p1 &&& (2147483647 : Int32)) % (3 : Int32))), .val (.int (p2 &&& (3 : Int32))), .unset, .unset]) rfl ?_
      show Steps p.tables e below (s₁.setTop (mkF m 18 #[.val (.int p1), .val (.int p2), .val (.int p3), .val (.int ((p1 &&& (2147483647 : Int32)) % (3 : Int32))), .val (.int (p2 &&& (3 : Int32))), .unset, .unset] [])) _
      refine XS.goto X0.here hx rfl (pc0 := 18) (pc' := 27) rfl (hb hby at_18) (by decide) (by decide) ?_
      show Steps p.tables e below (s₁.setTop (mkF m 27 #[.val (.int p1), .val (.int p2), .val (.int p3), .val (.int ((p1 &&& (2147483647 : Int32)) % (3 : Int32))), .val (.int (p2 &&& (3 : Int32))), .unset, .unset] [])) _
      refine XS.iloadN X0.here hx rfl (hb hby at_27) rfl ?_
      exact kt
    by_cases hc123 : ((p1 &&& (2147483647 : Int32)) % (3 : Int32)) = (0 : Int32)
    · obtain ⟨T124, X124, e124, st124⟩ := getS2 X0 hx hZ hown (host := "") (Or.inl (hw _ (List.mem_of_getElem? (i := 1) rfl))) Via.refl e0 (Sta.ext O0.2 pf1) (g := (mkF m 31 #[.val (.int p1), .val (.int p2), .val (.int p3), .val (.int ((p1 &&& (2147483647 : Int32)) % (3 : Int32))), .val (.int (p2 &&& (3 : Int32))), .unset, .unset] [])) rfl (hb hby at_31)
      obtain ⟨cq125, kq125, q125a, q125b, q125c⟩ := isOf hZ e124 (Exa.ext O0.2 pf0)
      obtain ⟨_, _, ⟨T125, L125, k125, n125⟩, -, X125, ⟨Lc125, hQ125, l125, y125, z125⟩, st125⟩ := X124.virtualBack hx (y := (⟨"com/example/strict_sasl/strictsasl/mechanism/digestmd5/DigestMd5Directives$Occurrence", "allows", "(I)Z"⟩ : MethodName)) (z := (⟨"com/example/strict_sasl/strictsasl/mechanism/digestmd5/DigestMd5Directives$Occurrence", "allows", "(I)Z"⟩ : MethodName)) hown (mvT hZ (hw _ (List.mem_of_getElem? (i := 4) rfl))) (mvT hZ (hw _ (List.mem_of_getElem? (i := 5) rfl))) (notFace_of_selects (args := #[]) (mvT hZ (hw _ (List.mem_of_getElem? (i := 7) rfl)))) (mvT hZ (hw _ (List.mem_of_getElem? (i := 7) rfl))) (mvT hZ (hw _ (List.mem_of_getElem? (i := 6) rfl))) (by decide) (backOf (W := 0) (rm1A l Z a0 hw [] wr11 (p2 &&& (3 : Int32)) wr15 wr19 h0 n0 Z0 (Sta.ext O0.2 pf3) (Sta.ext O0.2 pf5) nAE nAM) hZ (hw _ (List.mem_of_getElem? (i := 8) rfl)) (hw _ (List.mem_of_getElem? (i := 2) rfl)) (by decide) (by decide)) q125a q125c (g := (mkF m 95 #[.val (.int p1), .val (.int p2), .val (.int p3), .val (.int ((p1 &&& (2147483647 : Int32)) % (3 : Int32))), .val (.int (p2 &&& (3 : Int32))), .val (.ref wr11), .val (.int (1 : Int32))] [(.int (p2 &&& (3 : Int32))), (.ref wr11)])) rfl (by rw [hml]; rfl) (Steps.refl _) (argsL := [(.int (p2 &&& (3 : Int32)))]) (rest := []) (lenOf pd_0 rfl) rfl (by show 2 * 0 + _ ≤ _; exact Nat.le_of_eq rfl) (hb hby at_95) (fun _ _ => ⟨rfl, e124, (by decide : 0 + 0 ≤ _), (by decide : 0 + 0 ≤ _)⟩)
      dsimp only [Pt.U, Pt.locs, Pt.cells, Pt.slots] at X125 l125 y125 z125 st125 hQ125
      subst l125 y125 z125
      obtain ⟨rfl, N125q, P125_0⟩ := hQ125
      have N125 := Fr.app N0 N125q
      obtain ⟨fs, hr, hrun, hended, hW, hsame⟩ := X125.leave (v := some (.int (1 : Int32))) (fun h => by rw [Bd.returns] at h; cases h) hlk
      refine ⟨_, _, pre0 _ ?_, hrun, hended, _, _, rfl, ?_, ⟨_, rfl⟩, hW, hsame.mono (by decide) (by decide)⟩
      · refine pr122 _ ?_
        show Steps p.tables e below (s₁.setTop (mkF m 28 #[.val (.int p1), .val (.int p2), .val (.int p3), .val (.int ((p1 &&& (2147483647 : Int32)) % (3 : Int32))), .val (.int (p2 &&& (3 : Int32))), .unset, .unset] [(.int ((p1 &&& (2147483647 : Int32)) % (3 : Int32)))])) _
        refine XS.ifNo X0.here hx rfl (hb hby at_28) rfl ((if0 _ _).trans (teq hc123).2) ?_
        show Steps p.tables e below (s₁.setTop (mkF m 31 #[.val (.int p1), .val (.int p2), .val (.int p3), .val (.int ((p1 &&& (2147483647 : Int32)) % (3 : Int32))), .val (.int (p2 &&& (3 : Int32))), .unset, .unset] [])) _
        refine st124 _ ?_
        show Steps p.tables e below (T124.setTop (mkF m 34 #[.val (.int p1), .val (.int p2), .val (.int p3), .val (.int ((p1 &&& (2147483647 : Int32)) % (3 : Int32))), .val (.int (p2 &&& (3 : Int32))), .unset, .unset] [(.ref wr11)])) _
        refine XS.astore X124.here hx rfl (hb hby at_34) rfl rfl (l' := #[.val (.int p1), .val (.int p2), .val (.int p3), .val (.int ((p1 &&& (2147483647 : Int32)) % (3 : Int32))), .val (.int (p2 &&& (3 : Int32))), .val (.ref wr11), .unset]) rfl ?_
        show Steps p.tables e below (T124.setTop (mkF m 36 #[.val (.int p1), .val (.int p2), .val (.int p3), .val (.int ((p1 &&& (2147483647 : Int32)) % (3 : Int32))), .val (.int (p2 &&& (3 : Int32))), .val (.ref wr11), .unset] [])) _
        refine XS.iconst X124.here hx rfl (hb hby at_36) ?_
        show Steps p.tables e below (T124.setTop (mkF m 37 #[.val (.int p1), .val (.int p2), .val (.int p3), .val (.int ((p1 &&& (2147483647 : Int32)) % (3 : Int32))), .val (.int (p2 &&& (3 : Int32))), .val (.ref wr11), .unset] [(.int (1 : Int32))])) _
        refine XS.istore X124.here hx rfl (hb hby at_37) rfl (l' := #[.val (.int p1), .val (.int p2), .val (.int p3), .val (.int ((p1 &&& (2147483647 : Int32)) % (3 : Int32))), .val (.int (p2 &&& (3 : Int32))), .val (.ref wr11), .val (.int (1 : Int32))]) rfl ?_
        show Steps p.tables e below (T124.setTop (mkF m 39 #[.val (.int p1), .val (.int p2), .val (.int p3), .val (.int ((p1 &&& (2147483647 : Int32)) % (3 : Int32))), .val (.int (p2 &&& (3 : Int32))), .val (.ref wr11), .val (.int (1 : Int32))] [])) _
        refine XS.goto X124.here hx rfl (pc0 := 39) (pc' := 91) rfl (hb hby at_39) (by decide) (by decide) ?_
        show Steps p.tables e below (T124.setTop (mkF m 91 #[.val (.int p1), .val (.int p2), .val (.int p3), .val (.int ((p1 &&& (2147483647 : Int32)) % (3 : Int32))), .val (.int (p2 &&& (3 : Int32))), .val (.ref wr11), .val (.int (1 : Int32))] [])) _
        refine XS.aload X124.here hx rfl (hb hby at_91) rfl rfl ?_
        show Steps p.tables e below (T124.setTop (mkF m 93 #[.val (.int p1), .val (.int p2), .val (.int p3), .val (.int ((p1 &&& (2147483647 : Int32)) % (3 : Int32))), .val (.int (p2 &&& (3 : Int32))), .val (.ref wr11), .val (.int (1 : Int32))] [(.ref wr11)])) _
        refine XS.iload X124.here hx rfl (hb hby at_93) rfl ?_
        show Steps p.tables e below (T124.setTop (mkF m 95 #[.val (.int p1), .val (.int p2), .val (.int p3), .val (.int ((p1 &&& (2147483647 : Int32)) % (3 : Int32))), .val (.int (p2 &&& (3 : Int32))), .val (.ref wr11), .val (.int (1 : Int32))] [(.int (p2 &&& (3 : Int32))), (.ref wr11)])) _
        refine st125.trans ?_
        show Steps p.tables e below (T125.setTop (mkF m 98 #[.val (.int p1), .val (.int p2), .val (.int p3), .val (.int ((p1 &&& (2147483647 : Int32)) % (3 : Int32))), .val (.int (p2 &&& (3 : Int32))), .val (.ref wr11), .val (.int (1 : Int32))] [(.int (1 : Int32))])) _
        refine XS.iload X125.here hx rfl (hb hby at_98) rfl ?_
        show Steps p.tables e below (T125.setTop (mkF m 100 #[.val (.int p1), .val (.int p2), .val (.int p3), .val (.int ((p1 &&& (2147483647 : Int32)) % (3 : Int32))), .val (.int (p2 &&& (3 : Int32))), .val (.ref wr11), .val (.int (1 : Int32))] [(.int (1 : Int32)), (.int (1 : Int32))])) _
        refine XS.icmpNo X125.here hx rfl (hb hby at_100) rfl (teq (by decide : (1 : Int32) = (1 : Int32))).2 ?_
        show Steps p.tables e below (T125.setTop (mkF m 103 #[.val (.int p1), .val (.int p2), .val (.int p3), .val (.int ((p1 &&& (2147483647 : Int32)) % (3 : Int32))), .val (.int (p2 &&& (3 : Int32))), .val (.ref wr11), .val (.int (1 : Int32))] [])) _
        refine XS.iconst X125.here hx rfl (hb hby at_103) ?_
        show Steps p.tables e below (T125.setTop (mkF m 104 #[.val (.int p1), .val (.int p2), .val (.int p3), .val (.int ((p1 &&& (2147483647 : Int32)) % (3 : Int32))), .val (.int (p2 &&& (3 : Int32))), .val (.ref wr11), .val (.int (1 : Int32))] [(.int (1 : Int32))])) _
        refine XS.goto X125.here hx rfl (pc0 := 104) (pc' := 108) rfl (hb hby at_104) (by decide) (by decide) ?_
        show Steps p.tables e below (T125.setTop (mkF m 108 #[.val (.int p1), .val (.int p2), .val (.int p3), .val (.int ((p1 &&& (2147483647 : Int32)) % (3 : Int32))), .val (.int (p2 &&& (3 : Int32))), .val (.ref wr11), .val (.int (1 : Int32))] [(.int (1 : Int32))])) _
        exact retN X125 hx (t := .boolean) Bd.returns (by simp) (hb hby at_108) hr
      · show Q0 Z p1 p2 p3 wr11 wr15 wr19 h0 n0 _ T125.heap _
        rw [P125_0]
        exact ⟨rfl, N125⟩
    · have pr126 : ∀ t, Steps p.tables e below (s₁.setTop (mkF m 44 #[.val (.int p1), .val (.int p2), .val (.int p3), .val (.int ((p1 &&& (2147483647 : Int32)) % (3 : Int32))), .val (.int (p2 &&& (3 : Int32))), .unset, .unset] [(.int (1 : Int32)), (.int ((p1 &&& (2147483647 : Int32)) % (3 : Int32)))])) t → Steps p.tables e below (s₁.setTop (mkF m 0 #[.val (.int p1), .val (.int p2), .val (.int p3), .unset, .unset, .unset, .unset] [])) t := fun t kt => by
        refine pr122 _ ?_
        show Steps p.tables e below (s₁.setTop (mkF m 28 #[.val (.int p1), .val (.int p2), .val (.int p3), .val (.int ((p1 &&& (2147483647 : Int32)) % (3 : Int32))), .val (.int (p2 &&& (3 : Int32))), .unset, .unset] [(.int ((p1 &&& (2147483647 : Int32)) % (3 : Int32)))])) _
        refine XS.ifYes X0.here hx rfl (pc0 := 28) (pc' := 42) rfl (hb hby at_28) rfl ((if0 _ _).trans (feq hc123).2) (by decide) (by decide) ?_
        show Steps p.tables e below (s₁.setTop (mkF m 42 #[.val (.int p1), .val (.int p2), .val (.int p3), .val (.int ((p1 &&& (2147483647 : Int32)) % (3 : Int32))), .val (.int (p2 &&& (3 : Int32))), .unset, .unset] [])) _
        refine XS.iloadN X0.here hx rfl (hb hby at_42) rfl ?_
        show Steps p.tables e below (s₁.setTop (mkF m 43 #[.val (.int p1), .val (.int p2), .val (.int p3), .val (.int ((p1 &&& (2147483647 : Int32)) % (3 : Int32))), .val (.int (p2 &&& (3 : Int32))), .unset, .unset] [(.int ((p1 &&& (2147483647 : Int32)) % (3 : Int32)))])) _
        refine XS.iconst X0.here hx rfl (hb hby at_43) ?_
        exact kt
      by_cases hc127 : ((p1 &&& (2147483647 : Int32)) % (3 : Int32)) = (1 : Int32)
      · obtain ⟨T128, X128, e128, st128⟩ := getS2 X0 hx hZ hown (host := "") (Or.inl (hw _ (List.mem_of_getElem? (i := 13) rfl))) Via.refl e0 (Sta.ext O0.2 pf5) (g := (mkF m 47 #[.val (.int p1), .val (.int p2), .val (.int p3), .val (.int ((p1 &&& (2147483647 : Int32)) % (3 : Int32))), .val (.int (p2 &&& (3 : Int32))), .unset, .unset] [])) rfl (hb hby at_47)
        have pr129 : ∀ t, Steps p.tables e below (T128.setTop (mkF m 54 #[.val (.int p1), .val (.int p2), .val (.int p3), .val (.int ((p1 &&& (2147483647 : Int32)) % (3 : Int32))), .val (.int (p2 &&& (3 : Int32))), .val (.ref wr19), .unset] [(.int (p2 &&& (3 : Int32)))])) t → Steps p.tables e below (s₁.setTop (mkF m 0 #[.val (.int p1), .val (.int p2), .val (.int p3), .unset, .unset, .unset, .unset] [])) t := fun t kt => by
          refine pr126 _ ?_
          show Steps p.tables e below (s₁.setTop (mkF m 44 #[.val (.int p1), .val (.int p2), .val (.int p3), .val (.int ((p1 &&& (2147483647 : Int32)) % (3 : Int32))), .val (.int (p2 &&& (3 : Int32))), .unset, .unset] [(.int (1 : Int32)), (.int ((p1 &&& (2147483647 : Int32)) % (3 : Int32)))])) _
          refine XS.icmpNo X0.here hx rfl (hb hby at_44) rfl (teq hc127).2 ?_
          show Steps p.tables e below (s₁.setTop (mkF m 47 #[.val (.int p1), .val (.int p2), .val (.int p3), .val (.int ((p1 &&& (2147483647 : Int32)) % (3 : Int32))), .val (.int (p2 &&& (3 : Int32))), .unset, .unset] [])) _
          refine st128 _ ?_
          show Steps p.tables e below (T128.setTop (mkF m 50 #[.val (.int p1), .val (.int p2), .val (.int p3), .val (.int ((p1 &&& (2147483647 : Int32)) % (3 : Int32))), .val (.int (p2 &&& (3 : Int32))), .unset, .unset] [(.ref wr19)])) _
          refine XS.astore X128.here hx rfl (hb hby at_50) rfl rfl (l' := #[.val (.int p1), .val (.int p2), .val (.int p3), .val (.int ((p1 &&& (2147483647 : Int32)) % (3 : Int32))), .val (.int (p2 &&& (3 : Int32))), .val (.ref wr19), .unset]) rfl ?_
          show Steps p.tables e below (T128.setTop (mkF m 52 #[.val (.int p1), .val (.int p2), .val (.int p3), .val (.int ((p1 &&& (2147483647 : Int32)) % (3 : Int32))), .val (.int (p2 &&& (3 : Int32))), .val (.ref wr19), .unset] [])) _
          refine XS.iload X128.here hx rfl (hb hby at_52) rfl ?_
          exact kt
        by_cases hc130 : (p2 &&& (3 : Int32)) = (0 : Int32)
        · obtain ⟨cq131, kq131, q131a, q131b, q131c⟩ := isOf hZ e128 (Exa.ext O0.2 pf4)
          obtain ⟨_, _, ⟨T131, L131, k131, n131⟩, -, X131, ⟨Lc131, hQ131, l131, y131, z131⟩, st131⟩ := X128.virtualBack hx (y := (⟨"com/example/strict_sasl/strictsasl/mechanism/digestmd5/DigestMd5Directives$Occurrence", "allows", "(I)Z"⟩ : MethodName)) (z := (⟨"com/example/strict_sasl/strictsasl/mechanism/digestmd5/DigestMd5Directives$Occurrence", "allows", "(I)Z"⟩ : MethodName)) hown (mvT hZ (hw _ (List.mem_of_getElem? (i := 4) rfl))) (mvT hZ (hw _ (List.mem_of_getElem? (i := 5) rfl))) (notFace_of_selects (args := #[]) (mvT hZ (hw _ (List.mem_of_getElem? (i := 7) rfl)))) (mvT hZ (hw _ (List.mem_of_getElem? (i := 7) rfl))) (mvT hZ (hw _ (List.mem_of_getElem? (i := 6) rfl))) (by decide) (backOf (W := 0) (rm1M l Z a0 hw [] wr19 (p2 &&& (3 : Int32)) wr15 h0 n0 Z0 (Sta.ext O0.2 pf3) (Sta.ext O0.2 pf5) nME) hZ (hw _ (List.mem_of_getElem? (i := 8) rfl)) (hw _ (List.mem_of_getElem? (i := 2) rfl)) (by decide) (by decide)) q131a q131c (g := (mkF m 95 #[.val (.int p1), .val (.int p2), .val (.int p3), .val (.int ((p1 &&& (2147483647 : Int32)) % (3 : Int32))), .val (.int (p2 &&& (3 : Int32))), .val (.ref wr19), .val (.int (1 : Int32))] [(.int (p2 &&& (3 : Int32))), (.ref wr19)])) rfl (by rw [hml]; rfl) (Steps.refl _) (argsL := [(.int (p2 &&& (3 : Int32)))]) (rest := []) (lenOf pd_0 rfl) rfl (by show 2 * 0 + _ ≤ _; exact Nat.le_of_eq rfl) (hb hby at_95) (fun _ _ => ⟨rfl, e128, (by decide : 0 + 0 ≤ _), (by decide : 0 + 0 ≤ _)⟩)
          dsimp only [Pt.U, Pt.locs, Pt.cells, Pt.slots] at X131 l131 y131 z131 st131 hQ131
          subst l131 y131 z131
          obtain ⟨hv131, N131q, P131_0⟩ := hQ131
          obtain rfl := hv131.trans (congrArg (fun z => some (Value.int z)) (by rw [hc130]; decide : (own_m (p2 &&& (3 : Int32))) = (1 : Int32)))
          have N131 := Fr.app N0 N131q
          obtain ⟨fs, hr, hrun, hended, hW, hsame⟩ := X131.leave (v := some (.int (1 : Int32))) (fun h => by rw [Bd.returns] at h; cases h) hlk
          refine ⟨_, _, pre0 _ ?_, hrun, hended, _, _, rfl, ?_, ⟨_, rfl⟩, hW, hsame.mono (by decide) (by decide)⟩
          · refine pr129 _ ?_
            show Steps p.tables e below (T128.setTop (mkF m 54 #[.val (.int p1), .val (.int p2), .val (.int p3), .val (.int ((p1 &&& (2147483647 : Int32)) % (3 : Int32))), .val (.int (p2 &&& (3 : Int32))), .val (.ref wr19), .unset] [(.int (p2 &&& (3 : Int32)))])) _
            refine XS.ifYes X128.here hx rfl (pc0 := 54) (pc' := 63) rfl (hb hby at_54) rfl ((if0 _ _).trans (teq hc130).1) (by decide) (by decide) ?_
            show Steps p.tables e below (T128.setTop (mkF m 63 #[.val (.int p1), .val (.int p2), .val (.int p3), .val (.int ((p1 &&& (2147483647 : Int32)) % (3 : Int32))), .val (.int (p2 &&& (3 : Int32))), .val (.ref wr19), .unset] [])) _
            refine XS.iconst X128.here hx rfl (hb hby at_63) ?_
            show Steps p.tables e below (T128.setTop (mkF m 64 #[.val (.int p1), .val (.int p2), .val (.int p3), .val (.int ((p1 &&& (2147483647 : Int32)) % (3 : Int32))), .val (.int (p2 &&& (3 : Int32))), .val (.ref wr19), .unset] [(.int (1 : Int32))])) _
            refine XS.goto X128.here hx rfl (pc0 := 64) (pc' := 68) rfl (hb hby at_64) (by decide) (by decide) ?_
            show Steps p.tables e below (T128.setTop (mkF m 68 #[.val (.int p1), .val (.int p2), .val (.int p3), .val (.int ((p1 &&& (2147483647 : Int32)) % (3 : Int32))), .val (.int (p2 &&& (3 : Int32))), .val (.ref wr19), .unset] [(.int (1 : Int32))])) _
            refine XS.istore X128.here hx rfl (hb hby at_68) rfl (l' := #[.val (.int p1), .val (.int p2), .val (.int p3), .val (.int ((p1 &&& (2147483647 : Int32)) % (3 : Int32))), .val (.int (p2 &&& (3 : Int32))), .val (.ref wr19), .val (.int (1 : Int32))]) rfl ?_
            show Steps p.tables e below (T128.setTop (mkF m 70 #[.val (.int p1), .val (.int p2), .val (.int p3), .val (.int ((p1 &&& (2147483647 : Int32)) % (3 : Int32))), .val (.int (p2 &&& (3 : Int32))), .val (.ref wr19), .val (.int (1 : Int32))] [])) _
            refine XS.goto X128.here hx rfl (pc0 := 70) (pc' := 91) rfl (hb hby at_70) (by decide) (by decide) ?_
            show Steps p.tables e below (T128.setTop (mkF m 91 #[.val (.int p1), .val (.int p2), .val (.int p3), .val (.int ((p1 &&& (2147483647 : Int32)) % (3 : Int32))), .val (.int (p2 &&& (3 : Int32))), .val (.ref wr19), .val (.int (1 : Int32))] [])) _
            refine XS.aload X128.here hx rfl (hb hby at_91) rfl rfl ?_
            show Steps p.tables e below (T128.setTop (mkF m 93 #[.val (.int p1), .val (.int p2), .val (.int p3), .val (.int ((p1 &&& (2147483647 : Int32)) % (3 : Int32))), .val (.int (p2 &&& (3 : Int32))), .val (.ref wr19), .val (.int (1 : Int32))] [(.ref wr19)])) _
            refine XS.iload X128.here hx rfl (hb hby at_93) rfl ?_
            show Steps p.tables e below (T128.setTop (mkF m 95 #[.val (.int p1), .val (.int p2), .val (.int p3), .val (.int ((p1 &&& (2147483647 : Int32)) % (3 : Int32))), .val (.int (p2 &&& (3 : Int32))), .val (.ref wr19), .val (.int (1 : Int32))] [(.int (p2 &&& (3 : Int32))), (.ref wr19)])) _
            refine st131.trans ?_
            show Steps p.tables e below (T131.setTop (mkF m 98 #[.val (.int p1), .val (.int p2), .val (.int p3), .val (.int ((p1 &&& (2147483647 : Int32)) % (3 : Int32))), .val (.int (p2 &&& (3 : Int32))), .val (.ref wr19), .val (.int (1 : Int32))] [(.int (1 : Int32))])) _
            refine XS.iload X131.here hx rfl (hb hby at_98) rfl ?_
            show Steps p.tables e below (T131.setTop (mkF m 100 #[.val (.int p1), .val (.int p2), .val (.int p3), .val (.int ((p1 &&& (2147483647 : Int32)) % (3 : Int32))), .val (.int (p2 &&& (3 : Int32))), .val (.ref wr19), .val (.int (1 : Int32))] [(.int (1 : Int32)), (.int (1 : Int32))])) _
            refine XS.icmpNo X131.here hx rfl (hb hby at_100) rfl (teq (by decide : (1 : Int32) = (1 : Int32))).2 ?_
            show Steps p.tables e below (T131.setTop (mkF m 103 #[.val (.int p1), .val (.int p2), .val (.int p3), .val (.int ((p1 &&& (2147483647 : Int32)) % (3 : Int32))), .val (.int (p2 &&& (3 : Int32))), .val (.ref wr19), .val (.int (1 : Int32))] [])) _
            refine XS.iconst X131.here hx rfl (hb hby at_103) ?_
            show Steps p.tables e below (T131.setTop (mkF m 104 #[.val (.int p1), .val (.int p2), .val (.int p3), .val (.int ((p1 &&& (2147483647 : Int32)) % (3 : Int32))), .val (.int (p2 &&& (3 : Int32))), .val (.ref wr19), .val (.int (1 : Int32))] [(.int (1 : Int32))])) _
            refine XS.goto X131.here hx rfl (pc0 := 104) (pc' := 108) rfl (hb hby at_104) (by decide) (by decide) ?_
            show Steps p.tables e below (T131.setTop (mkF m 108 #[.val (.int p1), .val (.int p2), .val (.int p3), .val (.int ((p1 &&& (2147483647 : Int32)) % (3 : Int32))), .val (.int (p2 &&& (3 : Int32))), .val (.ref wr19), .val (.int (1 : Int32))] [(.int (1 : Int32))])) _
            exact retN X131 hx (t := .boolean) Bd.returns (by simp) (hb hby at_108) hr
          · show Q0 Z p1 p2 p3 wr11 wr15 wr19 h0 n0 _ T131.heap _
            rw [P131_0]
            exact ⟨rfl, N131⟩
        · have pr132 : ∀ t, Steps p.tables e below (T128.setTop (mkF m 60 #[.val (.int p1), .val (.int p2), .val (.int p3), .val (.int ((p1 &&& (2147483647 : Int32)) % (3 : Int32))), .val (.int (p2 &&& (3 : Int32))), .val (.ref wr19), .unset] [(.int (1 : Int32)), (.int (p2 &&& (3 : Int32)))])) t → Steps p.tables e below (s₁.setTop (mkF m 0 #[.val (.int p1), .val (.int p2), .val (.int p3), .unset, .unset, .unset, .unset] [])) t := fun t kt => by
            refine pr129 _ ?_
            show Steps p.tables e below (T128.setTop (mkF m 54 #[.val (.int p1), .val (.int p2), .val (.int p3), .val (.int ((p1 &&& (2147483647 : Int32)) % (3 : Int32))), .val (.int (p2 &&& (3 : Int32))), .val (.ref wr19), .unset] [(.int (p2 &&& (3 : Int32)))])) _
            refine XS.ifNo X128.here hx rfl (hb hby at_54) rfl ((if0 _ _).trans (feq hc130).1) ?_
            show Steps p.tables e below (T128.setTop (mkF m 57 #[.val (.int p1), .val (.int p2), .val (.int p3), .val (.int ((p1 &&& (2147483647 : Int32)) % (3 : Int32))), .val (.int (p2 &&& (3 : Int32))), .val (.ref wr19), .unset] [])) _
            refine XS.iload X128.here hx rfl (hb hby at_57) rfl ?_
            show Steps p.tables e below (T128.setTop (mkF m 59 #[.val (.int p1), .val (.int p2), .val (.int p3), .val (.int ((p1 &&& (2147483647 : Int32)) % (3 : Int32))), .val (.int (p2 &&& (3 : Int32))), .val (.ref wr19), .unset] [(.int (p2 &&& (3 : Int32)))])) _
            refine XS.iconst X128.here hx rfl (hb hby at_59) ?_
            exact kt
          by_cases hc133 : (p2 &&& (3 : Int32)) = (1 : Int32)
          · obtain ⟨cq134, kq134, q134a, q134b, q134c⟩ := isOf hZ e128 (Exa.ext O0.2 pf4)
            obtain ⟨_, _, ⟨T134, L134, k134, n134⟩, -, X134, ⟨Lc134, hQ134, l134, y134, z134⟩, st134⟩ := X128.virtualBack hx (y := (⟨"com/example/strict_sasl/strictsasl/mechanism/digestmd5/DigestMd5Directives$Occurrence", "allows", "(I)Z"⟩ : MethodName)) (z := (⟨"com/example/strict_sasl/strictsasl/mechanism/digestmd5/DigestMd5Directives$Occurrence", "allows", "(I)Z"⟩ : MethodName)) hown (mvT hZ (hw _ (List.mem_of_getElem? (i := 4) rfl))) (mvT hZ (hw _ (List.mem_of_getElem? (i := 5) rfl))) (notFace_of_selects (args := #[]) (mvT hZ (hw _ (List.mem_of_getElem? (i := 7) rfl)))) (mvT hZ (hw _ (List.mem_of_getElem? (i := 7) rfl))) (mvT hZ (hw _ (List.mem_of_getElem? (i := 6) rfl))) (by decide) (backOf (W := 0) (rm1M l Z a0 hw [] wr19 (p2 &&& (3 : Int32)) wr15 h0 n0 Z0 (Sta.ext O0.2 pf3) (Sta.ext O0.2 pf5) nME) hZ (hw _ (List.mem_of_getElem? (i := 8) rfl)) (hw _ (List.mem_of_getElem? (i := 2) rfl)) (by decide) (by decide)) q134a q134c (g := (mkF m 95 #[.val (.int p1), .val (.int p2), .val (.int p3), .val (.int ((p1 &&& (2147483647 : Int32)) % (3 : Int32))), .val (.int (p2 &&& (3 : Int32))), .val (.ref wr19), .val (.int (1 : Int32))] [(.int (p2 &&& (3 : Int32))), (.ref wr19)])) rfl (by rw [hml]; rfl) (Steps.refl _) (argsL := [(.int (p2 &&& (3 : Int32)))]) (rest := []) (lenOf pd_0 rfl) rfl (by show 2 * 0 + _ ≤ _; exact Nat.le_of_eq rfl) (hb hby at_95) (fun _ _ => ⟨rfl, e128, (by decide : 0 + 0 ≤ _), (by decide : 0 + 0 ≤ _)⟩)
            dsimp only [Pt.U, Pt.locs, Pt.cells, Pt.slots] at X134 l134 y134 z134 st134 hQ134
            subst l134 y134 z134
            obtain ⟨hv134, N134q, P134_0⟩ := hQ134
            obtain rfl := hv134.trans (congrArg (fun z => some (Value.int z)) (by rw [hc133]; decide : (own_m (p2 &&& (3 : Int32))) = (1 : Int32)))
            have N134 := Fr.app N0 N134q
            obtain ⟨fs, hr, hrun, hended, hW, hsame⟩ := X134.leave (v := some (.int (1 : Int32))) (fun h => by rw [Bd.returns] at h; cases h) hlk
            refine ⟨_, _, pre0 _ ?_, hrun, hended, _, _, rfl, ?_, ⟨_, rfl⟩, hW, hsame.mono (by decide) (by decide)⟩
            · refine pr132 _ ?_
              show Steps p.tables e below (T128.setTop (mkF m 60 #[.val (.int p1), .val (.int p2), .val (.int p3), .val (.int ((p1 &&& (2147483647 : Int32)) % (3 : Int32))), .val (.int (p2 &&& (3 : Int32))), .val (.ref wr19), .unset] [(.int (1 : Int32)), (.int (p2 &&& (3 : Int32)))])) _
              refine XS.icmpNo X128.here hx rfl (hb hby at_60) rfl (teq hc133).2 ?_
              show Steps p.tables e below (T128.setTop (mkF m 63 #[.val (.int p1), .val (.int p2), .val (.int p3), .val (.int ((p1 &&& (2147483647 : Int32)) % (3 : Int32))), .val (.int (p2 &&& (3 : Int32))), .val (.ref wr19), .unset] [])) _
              refine XS.iconst X128.here hx rfl (hb hby at_63) ?_
              show Steps p.tables e below (T128.setTop (mkF m 64 #[.val (.int p1), .val (.int p2), .val (.int p3), .val (.int ((p1 &&& (2147483647 : Int32)) % (3 : Int32))), .val (.int (p2 &&& (3 : Int32))), .val (.ref wr19), .unset] [(.int (1 : Int32))])) _
              refine XS.goto X128.here hx rfl (pc0 := 64) (pc' := 68) rfl (hb hby at_64) (by decide) (by decide) ?_
              show Steps p.tables e below (T128.setTop (mkF m 68 #[.val (.int p1), .val (.int p2), .val (.int p3), .val (.int ((p1 &&& (2147483647 : Int32)) % (3 : Int32))), .val (.int (p2 &&& (3 : Int32))), .val (.ref wr19), .unset] [(.int (1 : Int32))])) _
              refine XS.istore X128.here hx rfl (hb hby at_68) rfl (l' := #[.val (.int p1), .val (.int p2), .val (.int p3), .val (.int ((p1 &&& (2147483647 : Int32)) % (3 : Int32))), .val (.int (p2 &&& (3 : Int32))), .val (.ref wr19), .val (.int (1 : Int32))]) rfl ?_
              show Steps p.tables e below (T128.setTop (mkF m 70 #[.val (.int p1), .val (.int p2), .val (.int p3), .val (.int ((p1 &&& (2147483647 : Int32)) % (3 : Int32))), .val (.int (p2 &&& (3 : Int32))), .val (.ref wr19), .val (.int (1 : Int32))] [])) _
              refine XS.goto X128.here hx rfl (pc0 := 70) (pc' := 91) rfl (hb hby at_70) (by decide) (by decide) ?_
              show Steps p.tables e below (T128.setTop (mkF m 91 #[.val (.int p1), .val (.int p2), .val (.int p3), .val (.int ((p1 &&& (2147483647 : Int32)) % (3 : Int32))), .val (.int (p2 &&& (3 : Int32))), .val (.ref wr19), .val (.int (1 : Int32))] [])) _
              refine XS.aload X128.here hx rfl (hb hby at_91) rfl rfl ?_
              show Steps p.tables e below (T128.setTop (mkF m 93 #[.val (.int p1), .val (.int p2), .val (.int p3), .val (.int ((p1 &&& (2147483647 : Int32)) % (3 : Int32))), .val (.int (p2 &&& (3 : Int32))), .val (.ref wr19), .val (.int (1 : Int32))] [(.ref wr19)])) _
              refine XS.iload X128.here hx rfl (hb hby at_93) rfl ?_
              show Steps p.tables e below (T128.setTop (mkF m 95 #[.val (.int p1), .val (.int p2), .val (.int p3), .val (.int ((p1 &&& (2147483647 : Int32)) % (3 : Int32))), .val (.int (p2 &&& (3 : Int32))), .val (.ref wr19), .val (.int (1 : Int32))] [(.int (p2 &&& (3 : Int32))), (.ref wr19)])) _
              refine st134.trans ?_
              show Steps p.tables e below (T134.setTop (mkF m 98 #[.val (.int p1), .val (.int p2), .val (.int p3), .val (.int ((p1 &&& (2147483647 : Int32)) % (3 : Int32))), .val (.int (p2 &&& (3 : Int32))), .val (.ref wr19), .val (.int (1 : Int32))] [(.int (1 : Int32))])) _
              refine XS.iload X134.here hx rfl (hb hby at_98) rfl ?_
              show Steps p.tables e below (T134.setTop (mkF m 100 #[.val (.int p1), .val (.int p2), .val (.int p3), .val (.int ((p1 &&& (2147483647 : Int32)) % (3 : Int32))), .val (.int (p2 &&& (3 : Int32))), .val (.ref wr19), .val (.int (1 : Int32))] [(.int (1 : Int32)), (.int (1 : Int32))])) _
              refine XS.icmpNo X134.here hx rfl (hb hby at_100) rfl (teq (by decide : (1 : Int32) = (1 : Int32))).2 ?_
              show Steps p.tables e below (T134.setTop (mkF m 103 #[.val (.int p1), .val (.int p2), .val (.int p3), .val (.int ((p1 &&& (2147483647 : Int32)) % (3 : Int32))), .val (.int (p2 &&& (3 : Int32))), .val (.ref wr19), .val (.int (1 : Int32))] [])) _
              refine XS.iconst X134.here hx rfl (hb hby at_103) ?_
              show Steps p.tables e below (T134.setTop (mkF m 104 #[.val (.int p1), .val (.int p2), .val (.int p3), .val (.int ((p1 &&& (2147483647 : Int32)) % (3 : Int32))), .val (.int (p2 &&& (3 : Int32))), .val (.ref wr19), .val (.int (1 : Int32))] [(.int (1 : Int32))])) _
              refine XS.goto X134.here hx rfl (pc0 := 104) (pc' := 108) rfl (hb hby at_104) (by decide) (by decide) ?_
              show Steps p.tables e below (T134.setTop (mkF m 108 #[.val (.int p1), .val (.int p2), .val (.int p3), .val (.int ((p1 &&& (2147483647 : Int32)) % (3 : Int32))), .val (.int (p2 &&& (3 : Int32))), .val (.ref wr19), .val (.int (1 : Int32))] [(.int (1 : Int32))])) _
              exact retN X134 hx (t := .boolean) Bd.returns (by simp) (hb hby at_108) hr
            · show Q0 Z p1 p2 p3 wr11 wr15 wr19 h0 n0 _ T134.heap _
              rw [P134_0]
              exact ⟨rfl, N134⟩
          · obtain ⟨cq135, kq135, q135a, q135b, q135c⟩ := isOf hZ e128 (Exa.ext O0.2 pf4)
            obtain ⟨_, _, ⟨T135, L135, k135, n135⟩, -, X135, ⟨Lc135, hQ135, l135, y135, z135⟩, st135⟩ := X128.virtualBack hx (y := (⟨"com/example/strict_sasl/strictsasl/mechanism/digestmd5/DigestMd5Directives$Occurrence", "allows", "(I)Z"⟩ : MethodName)) (z := (⟨"com/example/strict_sasl/strictsasl/mechanism/digestmd5/DigestMd5Directives$Occurrence", "allows", "(I)Z"⟩ : MethodName)) hown (mvT hZ (hw _ (List.mem_of_getElem? (i := 4) rfl))) (mvT hZ (hw _ (List.mem_of_getElem? (i := 5) rfl))) (notFace_of_selects (args := #[]) (mvT hZ (hw _ (List.mem_of_getElem? (i := 7) rfl)))) (mvT hZ (hw _ (List.mem_of_getElem? (i := 7) rfl))) (mvT hZ (hw _ (List.mem_of_getElem? (i := 6) rfl))) (by decide) (backOf (W := 0) (rm1M l Z a0 hw [] wr19 (p2 &&& (3 : Int32)) wr15 h0 n0 Z0 (Sta.ext O0.2 pf3) (Sta.ext O0.2 pf5) nME) hZ (hw _ (List.mem_of_getElem? (i := 8) rfl)) (hw _ (List.mem_of_getElem? (i := 2) rfl)) (by decide) (by decide)) q135a q135c (g := (mkF m 95 #[.val (.int p1), .val (.int p2), .val (.int p3), .val (.int ((p1 &&& (2147483647 : Int32)) % (3 : Int32))), .val (.int (p2 &&& (3 : Int32))), .val (.ref wr19), .val (.int (0 : Int32))] [(.int (p2 &&& (3 : Int32))), (.ref wr19)])) rfl (by rw [hml]; rfl) (Steps.refl _) (argsL := [(.int (p2 &&& (3 : Int32)))]) (rest := []) (lenOf pd_0 rfl) rfl (by show 2 * 0 + _ ≤ _; exact Nat.le_of_eq rfl) (hb hby at_95) (fun _ _ => ⟨rfl, e128, (by decide : 0 + 0 ≤ _), (by decide : 0 + 0 ≤ _)⟩)
            dsimp only [Pt.U, Pt.locs, Pt.cells, Pt.slots] at X135 l135 y135 z135 st135 hQ135
            subst l135 y135 z135
            obtain ⟨hv135, N135q, P135_0⟩ := hQ135
            obtain rfl := hv135.trans (congrArg (fun z => some (Value.int z)) (if_pos (own_gt1 (own_nn1 p2) hc130 hc133) : (own_m (p2 &&& (3 : Int32))) = (0 : Int32)))
            have N135 := Fr.app N0 N135q
            obtain ⟨fs, hr, hrun, hended, hW, hsame⟩ := X135.leave (v := some (.int (1 : Int32))) (fun h => by rw [Bd.returns] at h; cases h) hlk
            refine ⟨_, _, pre0 _ ?_, hrun, hended, _, _, rfl, ?_, ⟨_, rfl⟩, hW, hsame.mono (by decide) (by decide)⟩
            · refine pr132 _ ?_
              show Steps p.tables e below (T128.setTop (mkF m 60 #[.val (.int p1), .val (.int p2), .val (.int p3), .val (.int ((p1 &&& (2147483647 : Int32)) % (3 : Int32))), .val (.int (p2 &&& (3 : Int32))), .val (.ref wr19), .unset] [(.int (1 : Int32)), (.int (p2 &&& (3 : Int32)))])) _
              refine XS.icmpYes X128.here hx rfl (pc0 := 60) (pc' := 67) rfl (hb hby at_60) rfl (feq hc133).2 (by decide) (by decide) ?_
              show Steps p.tables e below (T128.setTop (mkF m 67 #[.val (.int p1), .val (.int p2), .val (.int p3), .val (.int ((p1 &&& (2147483647 : Int32)) % (3 : Int32))), .val (.int (p2 &&& (3 : Int32))), .val (.ref wr19), .unset] [])) _
              refine XS.iconst X128.here hx rfl (hb hby at_67) ?_
              show Steps p.tables e below (T128.setTop (mkF m 68 #[.val (.int p1), .val (.int p2), .val (.int p3), .val (.int ((p1 &&& (2147483647 : Int32)) % (3 : Int32))), .val (.int (p2 &&& (3 : Int32))), .val (.ref wr19), .unset] [(.int (0 : Int32))])) _
              refine XS.istore X128.here hx rfl (hb hby at_68) rfl (l' := #[.val (.int p1), .val (.int p2), .val (.int p3), .val (.int ((p1 &&& (2147483647 : Int32)) % (3 : Int32))), .val (.int (p2 &&& (3 : Int32))), .val (.ref wr19), .val (.int (0 : Int32))]) rfl ?_
              show Steps p.tables e below (T128.setTop (mkF m 70 #[.val (.int p1), .val (.int p2), .val (.int p3), .val (.int ((p1 &&& (2147483647 : Int32)) % (3 : Int32))), .val (.int (p2 &&& (3 : Int32))), .val (.ref wr19), .val (.int (0 : Int32))] [])) _
              refine XS.goto X128.here hx rfl (pc0 := 70) (pc' := 91) rfl (hb hby at_70) (by decide) (by decide) ?_
              show Steps p.tables e below (T128.setTop (mkF m 91 #[.val (.int p1), .val (.int p2), .val (.int p3), .val (.int ((p1 &&& (2147483647 : Int32)) % (3 : Int32))), .val (.int (p2 &&& (3 : Int32))), .val (.ref wr19), .val (.int (0 : Int32))] [])) _
              refine XS.aload X128.here hx rfl (hb hby at_91) rfl rfl ?_
              show Steps p.tables e below (T128.setTop (mkF m 93 #[.val (.int p1), .val (.int p2), .val (.int p3), .val (.int ((p1 &&& (2147483647 : Int32)) % (3 : Int32))), .val (.int (p2 &&& (3 : Int32))), .val (.ref wr19), .val (.int (0 : Int32))] [(.ref wr19)])) _
              refine XS.iload X128.here hx rfl (hb hby at_93) rfl ?_
              show Steps p.tables e below (T128.setTop (mkF m 95 #[.val (.int p1), .val (.int p2), .val (.int p3), .val (.int ((p1 &&& (2147483647 : Int32)) % (3 : Int32))), .val (.int (p2 &&& (3 : Int32))), .val (.ref wr19), .val (.int (0 : Int32))] [(.int (p2 &&& (3 : Int32))), (.ref wr19)])) _
              refine st135.trans ?_
              show Steps p.tables e below (T135.setTop (mkF m 98 #[.val (.int p1), .val (.int p2), .val (.int p3), .val (.int ((p1 &&& (2147483647 : Int32)) % (3 : Int32))), .val (.int (p2 &&& (3 : Int32))), .val (.ref wr19), .val (.int (0 : Int32))] [(.int (0 : Int32))])) _
              refine XS.iload X135.here hx rfl (hb hby at_98) rfl ?_
              show Steps p.tables e below (T135.setTop (mkF m 100 #[.val (.int p1), .val (.int p2), .val (.int p3), .val (.int ((p1 &&& (2147483647 : Int32)) % (3 : Int32))), .val (.int (p2 &&& (3 : Int32))), .val (.ref wr19), .val (.int (0 : Int32))] [(.int (0 : Int32)), (.int (0 : Int32))])) _
              refine XS.icmpNo X135.here hx rfl (hb hby at_100) rfl (teq (by decide : (0 : Int32) = (0 : Int32))).2 ?_
              show Steps p.tables e below (T135.setTop (mkF m 103 #[.val (.int p1), .val (.int p2), .val (.int p3), .val (.int ((p1 &&& (2147483647 : Int32)) % (3 : Int32))), .val (.int (p2 &&& (3 : Int32))), .val (.ref wr19), .val (.int (0 : Int32))] [])) _
              refine XS.iconst X135.here hx rfl (hb hby at_103) ?_
              show Steps p.tables e below (T135.setTop (mkF m 104 #[.val (.int p1), .val (.int p2), .val (.int p3), .val (.int ((p1 &&& (2147483647 : Int32)) % (3 : Int32))), .val (.int (p2 &&& (3 : Int32))), .val (.ref wr19), .val (.int (0 : Int32))] [(.int (1 : Int32))])) _
              refine XS.goto X135.here hx rfl (pc0 := 104) (pc' := 108) rfl (hb hby at_104) (by decide) (by decide) ?_
              show Steps p.tables e below (T135.setTop (mkF m 108 #[.val (.int p1), .val (.int p2), .val (.int p3), .val (.int ((p1 &&& (2147483647 : Int32)) % (3 : Int32))), .val (.int (p2 &&& (3 : Int32))), .val (.ref wr19), .val (.int (0 : Int32))] [(.int (1 : Int32))])) _
              exact retN X135 hx (t := .boolean) Bd.returns (by simp) (hb hby at_108) hr
            · show Q0 Z p1 p2 p3 wr11 wr15 wr19 h0 n0 _ T135.heap _
              rw [P135_0]
              exact ⟨rfl, N135⟩
      · obtain ⟨T136, X136, e136, st136⟩ := getS2 X0 hx hZ hown (host := "") (Or.inl (hw _ (List.mem_of_getElem? (i := 14) rfl))) Via.refl e0 (Sta.ext O0.2 pf3) (g := (mkF m 73 #[.val (.int p1), .val (.int p2), .val (.int p3), .val (.int ((p1 &&& (2147483647 : Int32)) % (3 : Int32))), .val (.int (p2 &&& (3 : Int32))), .unset, .unset] [])) rfl (hb hby at_73)
        have pr137 : ∀ t, Steps p.tables e below (T136.setTop (mkF m 81 #[.val (.int p1), .val (.int p2), .val (.int p3), .val (.int ((p1 &&& (2147483647 : Int32)) % (3 : Int32))), .val (.int (p2 &&& (3 : Int32))), .val (.ref wr15), .unset] [(.int (1 : Int32)), (.int (p2 &&& (3 : Int32)))])) t → Steps p.tables e below (s₁.setTop (mkF m 0 #[.val (.int p1), .val (.int p2), .val (.int p3), .unset, .unset, .unset, .unset] [])) t := fun t kt => by
          refine pr126 _ ?_
          show Steps p.tables e below (s₁.setTop (mkF m 44 #[.val (.int p1), .val (.int p2), .val (.int p3), .val (.int ((p1 &&& (2147483647 : Int32)) % (3 : Int32))), .val (.int (p2 &&& (3 : Int32))), .unset, .unset] [(.int (1 : Int32)), (.int ((p1 &&& (2147483647 : Int32)) % (3 : Int32)))])) _
          refine XS.icmpYes X0.here hx rfl (pc0 := 44) (pc' := 73) rfl (hb hby at_44) rfl (feq hc127).2 (by decide) (by decide) ?_
          show Steps p.tables e below (s₁.setTop (mkF m 73 #[.val (.int p1), .val (.int p2), .val (.int p3), .val (.int ((p1 &&& (2147483647 : Int32)) % (3 : Int32))), .val (.int (p2 &&& (3 : Int32))), .unset, .unset] [])) _
          refine st136 _ ?_
          show Steps p.tables e below (T136.setTop (mkF m 76 #[.val (.int p1), .val (.int p2), .val (.int p3), .val (.int ((p1 &&& (2147483647 : Int32)) % (3 : Int32))), .val (.int (p2 &&& (3 : Int32))), .unset, .unset] [(.ref wr15)])) _
          refine XS.astore X136.here hx rfl (hb hby at_76) rfl rfl (l' := #[.val (.int p1), .val (.int p2), .val (.int p3), .val (.int ((p1 &&& (2147483647 : Int32)) % (3 : Int32))), .val (.int (p2 &&& (3 : Int32))), .val (.ref wr15), .unset]) rfl ?_
          show Steps p.tables e below (T136.setTop (mkF m 78 #[.val (.int p1), .val (.int p2), .val (.int p3), .val (.int ((p1 &&& (2147483647 : Int32)) % (3 : Int32))), .val (.int (p2 &&& (3 : Int32))), .val (.ref wr15), .unset] [])) _
          refine XS.iload X136.here hx rfl (hb hby at_78) rfl ?_
          show Steps p.tables e below (T136.setTop (mkF m 80 #[.val (.int p1), .val (.int p2), .val (.int p3), .val (.int ((p1 &&& (2147483647 : Int32)) % (3 : Int32))), .val (.int (p2 &&& (3 : Int32))), .val (.ref wr15), .unset] [(.int (p2 &&& (3 : Int32)))])) _
          refine XS.iconst X136.here hx rfl (hb hby at_80) ?_
          exact kt
        by_cases hc138 : (p2 &&& (3 : Int32)) = (1 : Int32)
        · obtain ⟨cq139, kq139, q139a, q139b, q139c⟩ := isOf hZ e136 (Exa.ext O0.2 pf2)
          obtain ⟨_, _, ⟨T139, L139, k139, n139⟩, -, X139, ⟨Lc139, hQ139, l139, y139, z139⟩, st139⟩ := X136.virtualBack hx (y := (⟨"com/example/strict_sasl/strictsasl/mechanism/digestmd5/DigestMd5Directives$Occurrence", "allows", "(I)Z"⟩ : MethodName)) (z := (⟨"com/example/strict_sasl/strictsasl/mechanism/digestmd5/DigestMd5Directives$Occurrence", "allows", "(I)Z"⟩ : MethodName)) hown (mvT hZ (hw _ (List.mem_of_getElem? (i := 4) rfl))) (mvT hZ (hw _ (List.mem_of_getElem? (i := 5) rfl))) (notFace_of_selects (args := #[]) (mvT hZ (hw _ (List.mem_of_getElem? (i := 7) rfl)))) (mvT hZ (hw _ (List.mem_of_getElem? (i := 7) rfl))) (mvT hZ (hw _ (List.mem_of_getElem? (i := 6) rfl))) (by decide) (backOf (W := 0) (rm1E l Z a0 hw [] wr15 (p2 &&& (3 : Int32)) h0 n0 Z0 (Sta.ext O0.2 pf3)) hZ (hw _ (List.mem_of_getElem? (i := 8) rfl)) (hw _ (List.mem_of_getElem? (i := 2) rfl)) (by decide) (by decide)) q139a q139c (g := (mkF m 95 #[.val (.int p1), .val (.int p2), .val (.int p3), .val (.int ((p1 &&& (2147483647 : Int32)) % (3 : Int32))), .val (.int (p2 &&& (3 : Int32))), .val (.ref wr15), .val (.int (1 : Int32))] [(.int (p2 &&& (3 : Int32))), (.ref wr15)])) rfl (by rw [hml]; rfl) (Steps.refl _) (argsL := [(.int (p2 &&& (3 : Int32)))]) (rest := []) (lenOf pd_0 rfl) rfl (by show 2 * 0 + _ ≤ _; exact Nat.le_of_eq rfl) (hb hby at_95) (fun _ _ => ⟨rfl, e136, (by decide : 0 + 0 ≤ _), (by decide : 0 + 0 ≤ _)⟩)
          dsimp only [Pt.U, Pt.locs, Pt.cells, Pt.slots] at X139 l139 y139 z139 st139 hQ139
          subst l139 y139 z139
          obtain ⟨hv139, N139q, P139_0⟩ := hQ139
          obtain rfl := hv139.trans (congrArg (fun z => some (Value.int z)) (if_pos hc138 : (own_e (p2 &&& (3 : Int32))) = (1 : Int32)))
          have N139 := Fr.app N0 N139q
          obtain ⟨fs, hr, hrun, hended, hW, hsame⟩ := X139.leave (v := some (.int (1 : Int32))) (fun h => by rw [Bd.returns] at h; cases h) hlk
          refine ⟨_, _, pre0 _ ?_, hrun, hended, _, _, rfl, ?_, ⟨_, rfl⟩, hW, hsame.mono (by decide) (by decide)⟩
          · refine pr137 _ ?_
            show Steps p.tables e below (T136.setTop (mkF m 81 #[.val (.int p1), .val (.int p2), .val (.int p3), .val (.int ((p1 &&& (2147483647 : Int32)) % (3 : Int32))), .val (.int (p2 &&& (3 : Int32))), .val (.ref wr15), .unset] [(.int (1 : Int32)), (.int (p2 &&& (3 : Int32)))])) _
            refine XS.icmpNo X136.here hx rfl (hb hby at_81) rfl (teq hc138).2 ?_
            show Steps p.tables e below (T136.setTop (mkF m 84 #[.val (.int p1), .val (.int p2), .val (.int p3), .val (.int ((p1 &&& (2147483647 : Int32)) % (3 : Int32))), .val (.int (p2 &&& (3 : Int32))), .val (.ref wr15), .unset] [])) _
            refine XS.iconst X136.here hx rfl (hb hby at_84) ?_
            show Steps p.tables e below (T136.setTop (mkF m 85 #[.val (.int p1), .val (.int p2), .val (.int p3), .val (.int ((p1 &&& (2147483647 : Int32)) % (3 : Int32))), .val (.int (p2 &&& (3 : Int32))), .val (.ref wr15), .unset] [(.int (1 : Int32))])) _
            refine XS.goto X136.here hx rfl (pc0 := 85) (pc' := 89) rfl (hb hby at_85) (by decide) (by decide) ?_
            show Steps p.tables e below (T136.setTop (mkF m 89 #[.val (.int p1), .val (.int p2), .val (.int p3), .val (.int ((p1 &&& (2147483647 : Int32)) % (3 : Int32))), .val (.int (p2 &&& (3 : Int32))), .val (.ref wr15), .unset] [(.int (1 : Int32))])) _
            refine XS.istore X136.here hx rfl (hb hby at_89) rfl (l' := #[.val (.int p1), .val (.int p2), .val (.int p3), .val (.int ((p1 &&& (2147483647 : Int32)) % (3 : Int32))), .val (.int (p2 &&& (3 : Int32))), .val (.ref wr15), .val (.int (1 : Int32))]) rfl ?_
            show Steps p.tables e below (T136.setTop (mkF m 91 #[.val (.int p1), .val (.int p2), .val (.int p3), .val (.int ((p1 &&& (2147483647 : Int32)) % (3 : Int32))), .val (.int (p2 &&& (3 : Int32))), .val (.ref wr15), .val (.int (1 : Int32))] [])) _
            refine XS.aload X136.here hx rfl (hb hby at_91) rfl rfl ?_
            show Steps p.tables e below (T136.setTop (mkF m 93 #[.val (.int p1), .val (.int p2), .val (.int p3), .val (.int ((p1 &&& (2147483647 : Int32)) % (3 : Int32))), .val (.int (p2 &&& (3 : Int32))), .val (.ref wr15), .val (.int (1 : Int32))] [(.ref wr15)])) _
            refine XS.iload X136.here hx rfl (hb hby at_93) rfl ?_
            show Steps p.tables e below (T136.setTop (mkF m 95 #[.val (.int p1), .val (.int p2), .val (.int p3), .val (.int ((p1 &&& (2147483647 : Int32)) % (3 : Int32))), .val (.int (p2 &&& (3 : Int32))), .val (.ref wr15), .val (.int (1 : Int32))] [(.int (p2 &&& (3 : Int32))), (.ref wr15)])) _
            refine st139.trans ?_
            show Steps p.tables e below (T139.setTop (mkF m 98 #[.val (.int p1), .val (.int p2), .val (.int p3), .val (.int ((p1 &&& (2147483647 : Int32)) % (3 : Int32))), .val (.int (p2 &&& (3 : Int32))), .val (.ref wr15), .val (.int (1 : Int32))] [(.int (1 : Int32))])) _
            refine XS.iload X139.here hx rfl (hb hby at_98) rfl ?_
            show Steps p.tables e below (T139.setTop (mkF m 100 #[.val (.int p1), .val (.int p2), .val (.int p3), .val (.int ((p1 &&& (2147483647 : Int32)) % (3 : Int32))), .val (.int (p2 &&& (3 : Int32))), .val (.ref wr15), .val (.int (1 : Int32))] [(.int (1 : Int32)), (.int (1 : Int32))])) _
            refine XS.icmpNo X139.here hx rfl (hb hby at_100) rfl (teq (by decide : (1 : Int32) = (1 : Int32))).2 ?_
            show Steps p.tables e below (T139.setTop (mkF m 103 #[.val (.int p1), .val (.int p2), .val (.int p3), .val (.int ((p1 &&& (2147483647 : Int32)) % (3 : Int32))), .val (.int (p2 &&& (3 : Int32))), .val (.ref wr15), .val (.int (1 : Int32))] [])) _
            refine XS.iconst X139.here hx rfl (hb hby at_103) ?_
            show Steps p.tables e below (T139.setTop (mkF m 104 #[.val (.int p1), .val (.int p2), .val (.int p3), .val (.int ((p1 &&& (2147483647 : Int32)) % (3 : Int32))), .val (.int (p2 &&& (3 : Int32))), .val (.ref wr15), .val (.int (1 : Int32))] [(.int (1 : Int32))])) _
            refine XS.goto X139.here hx rfl (pc0 := 104) (pc' := 108) rfl (hb hby at_104) (by decide) (by decide) ?_
            show Steps p.tables e below (T139.setTop (mkF m 108 #[.val (.int p1), .val (.int p2), .val (.int p3), .val (.int ((p1 &&& (2147483647 : Int32)) % (3 : Int32))), .val (.int (p2 &&& (3 : Int32))), .val (.ref wr15), .val (.int (1 : Int32))] [(.int (1 : Int32))])) _
            exact retN X139 hx (t := .boolean) Bd.returns (by simp) (hb hby at_108) hr
          · show Q0 Z p1 p2 p3 wr11 wr15 wr19 h0 n0 _ T139.heap _
            rw [P139_0]
            exact ⟨rfl, N139⟩
        · obtain ⟨cq140, kq140, q140a, q140b, q140c⟩ := isOf hZ e136 (Exa.ext O0.2 pf2)
          obtain ⟨_, _, ⟨T140, L140, k140, n140⟩, -, X140, ⟨Lc140, hQ140, l140, y140, z140⟩, st140⟩ := X136.virtualBack hx (y := (⟨"com/example/strict_sasl/strictsasl/mechanism/digestmd5/DigestMd5Directives$Occurrence", "allows", "(I)Z"⟩ : MethodName)) (z := (⟨"com/example/strict_sasl/strictsasl/mechanism/digestmd5/DigestMd5Directives$Occurrence", "allows", "(I)Z"⟩ : MethodName)) hown (mvT hZ (hw _ (List.mem_of_getElem? (i := 4) rfl))) (mvT hZ (hw _ (List.mem_of_getElem? (i := 5) rfl))) (notFace_of_selects (args := #[]) (mvT hZ (hw _ (List.mem_of_getElem? (i := 7) rfl)))) (mvT hZ (hw _ (List.mem_of_getElem? (i := 7) rfl))) (mvT hZ (hw _ (List.mem_of_getElem? (i := 6) rfl))) (by decide) (backOf (W := 0) (rm1E l Z a0 hw [] wr15 (p2 &&& (3 : Int32)) h0 n0 Z0 (Sta.ext O0.2 pf3)) hZ (hw _ (List.mem_of_getElem? (i := 8) rfl)) (hw _ (List.mem_of_getElem? (i := 2) rfl)) (by decide) (by decide)) q140a q140c (g := (mkF m 95 #[.val (.int p1), .val (.int p2), .val (.int p3), .val (.int ((p1 &&& (2147483647 : Int32)) % (3 : Int32))), .val (.int (p2 &&& (3 : Int32))), .val (.ref wr15), .val (.int (0 : Int32))] [(.int (p2 &&& (3 : Int32))), (.ref wr15)])) rfl (by rw [hml]; rfl) (Steps.refl _) (argsL := [(.int (p2 &&& (3 : Int32)))]) (rest := []) (lenOf pd_0 rfl) rfl (by show 2 * 0 + _ ≤ _; exact Nat.le_of_eq rfl) (hb hby at_95) (fun _ _ => ⟨rfl, e136, (by decide : 0 + 0 ≤ _), (by decide : 0 + 0 ≤ _)⟩)
          dsimp only [Pt.U, Pt.locs, Pt.cells, Pt.slots] at X140 l140 y140 z140 st140 hQ140
          subst l140 y140 z140
          obtain ⟨hv140, N140q, P140_0⟩ := hQ140
          obtain rfl := hv140.trans (congrArg (fun z => some (Value.int z)) (if_neg hc138 : (own_e (p2 &&& (3 : Int32))) = (0 : Int32)))
          have N140 := Fr.app N0 N140q
          obtain ⟨fs, hr, hrun, hended, hW, hsame⟩ := X140.leave (v := some (.int (1 : Int32))) (fun h => by rw [Bd.returns] at h; cases h) hlk
          refine ⟨_, _, pre0 _ ?_, hrun, hended, _, _, rfl, ?_, ⟨_, rfl⟩, hW, hsame.mono (by decide) (by decide)⟩
          · refine pr137 _ ?_
            show Steps p.tables e below (T136.setTop (mkF m 81 #[.val (.int p1), .val (.int p2), .val (.int p3), .val (.int ((p1 &&& (2147483647 : Int32)) % (3 : Int32))), .val (.int (p2 &&& (3 : Int32))), .val (.ref wr15), .unset] [(.int (1 : Int32)), (.int (p2 &&& (3 : Int32)))])) _
            refine XS.icmpYes X136.here hx rfl (pc0 := 81) (pc' := 88) rfl (hb hby at_81) rfl (feq hc138).2 (by decide) (by decide) ?_
            show Steps p.tables e below (T136.setTop (mkF m 88 #[.val (.int p1), .val (.int p2), .val (.int p3), .val (.int ((p1 &&& (2147483647 : Int32)) % (3 : Int32))), .val (.int (p2 &&& (3 : Int32))), .val (.ref wr15), .unset] [])) _
            refine XS.iconst X136.here hx rfl (hb hby at_88) ?_
            show Steps p.tables e below (T136.setTop (mkF m 89 #[.val (.int p1), .val (.int p2), .val (.int p3), .val (.int ((p1 &&& (2147483647 : Int32)) % (3 : Int32))), .val (.int (p2 &&& (3 : Int32))), .val (.ref wr15), .unset] [(.int (0 : Int32))])) _
            refine XS.istore X136.here hx rfl (hb hby at_89) rfl (l' := #[.val (.int p1), .val (.int p2), .val (.int p3), .val (.int ((p1 &&& (2147483647 : Int32)) % (3 : Int32))), .val (.int (p2 &&& (3 : Int32))), .val (.ref wr15), .val (.int (0 : Int32))]) rfl ?_
            show Steps p.tables e below (T136.setTop (mkF m 91 #[.val (.int p1), .val (.int p2), .val (.int p3), .val (.int ((p1 &&& (2147483647 : Int32)) % (3 : Int32))), .val (.int (p2 &&& (3 : Int32))), .val (.ref wr15), .val (.int (0 : Int32))] [])) _
            refine XS.aload X136.here hx rfl (hb hby at_91) rfl rfl ?_
            show Steps p.tables e below (T136.setTop (mkF m 93 #[.val (.int p1), .val (.int p2), .val (.int p3), .val (.int ((p1 &&& (2147483647 : Int32)) % (3 : Int32))), .val (.int (p2 &&& (3 : Int32))), .val (.ref wr15), .val (.int (0 : Int32))] [(.ref wr15)])) _
            refine XS.iload X136.here hx rfl (hb hby at_93) rfl ?_
            show Steps p.tables e below (T136.setTop (mkF m 95 #[.val (.int p1), .val (.int p2), .val (.int p3), .val (.int ((p1 &&& (2147483647 : Int32)) % (3 : Int32))), .val (.int (p2 &&& (3 : Int32))), .val (.ref wr15), .val (.int (0 : Int32))] [(.int (p2 &&& (3 : Int32))), (.ref wr15)])) _
            refine st140.trans ?_
            show Steps p.tables e below (T140.setTop (mkF m 98 #[.val (.int p1), .val (.int p2), .val (.int p3), .val (.int ((p1 &&& (2147483647 : Int32)) % (3 : Int32))), .val (.int (p2 &&& (3 : Int32))), .val (.ref wr15), .val (.int (0 : Int32))] [(.int (0 : Int32))])) _
            refine XS.iload X140.here hx rfl (hb hby at_98) rfl ?_
            show Steps p.tables e below (T140.setTop (mkF m 100 #[.val (.int p1), .val (.int p2), .val (.int p3), .val (.int ((p1 &&& (2147483647 : Int32)) % (3 : Int32))), .val (.int (p2 &&& (3 : Int32))), .val (.ref wr15), .val (.int (0 : Int32))] [(.int (0 : Int32)), (.int (0 : Int32))])) _
            refine XS.icmpNo X140.here hx rfl (hb hby at_100) rfl (teq (by decide : (0 : Int32) = (0 : Int32))).2 ?_
            show Steps p.tables e below (T140.setTop (mkF m 103 #[.val (.int p1), .val (.int p2), .val (.int p3), .val (.int ((p1 &&& (2147483647 : Int32)) % (3 : Int32))), .val (.int (p2 &&& (3 : Int32))), .val (.ref wr15), .val (.int (0 : Int32))] [])) _
            refine XS.iconst X140.here hx rfl (hb hby at_103) ?_
            show Steps p.tables e below (T140.setTop (mkF m 104 #[.val (.int p1), .val (.int p2), .val (.int p3), .val (.int ((p1 &&& (2147483647 : Int32)) % (3 : Int32))), .val (.int (p2 &&& (3 : Int32))), .val (.ref wr15), .val (.int (0 : Int32))] [(.int (1 : Int32))])) _
            refine XS.goto X140.here hx rfl (pc0 := 104) (pc' := 108) rfl (hb hby at_104) (by decide) (by decide) ?_
            show Steps p.tables e below (T140.setTop (mkF m 108 #[.val (.int p1), .val (.int p2), .val (.int p3), .val (.int ((p1 &&& (2147483647 : Int32)) % (3 : Int32))), .val (.int (p2 &&& (3 : Int32))), .val (.ref wr15), .val (.int (0 : Int32))] [(.int (1 : Int32))])) _
            exact retN X140 hx (t := .boolean) Bd.returns (by simp) (hb hby at_108) hr
          · show Q0 Z p1 p2 p3 wr11 wr15 wr19 h0 n0 _ T140.heap _
            rw [P140_0]
            exact ⟨rfl, N140⟩
set_option maxRecDepth 65536 in
set_option maxHeartbeats 40000000 in
theorem comes_1 {Post : Tables → Env → Array Value → State → Outcome → State → Prop} (hpost : ∀ tb e args s v u, (limb_1_1.after args s (.returned v) u = true ∧ limb_1_2.after args s (.returned v) u = true ∧ True) → FrameEnd s (.returned v) u (Jvm.fieldLocs frame_1_writes args s ++ Jvm.arrayLocs frame_1_arrays args s ++ Jvm.staticLocs frame_1_statics s) 0 0 → Post tb e args s (.returned v) u) :
    ArmFor flags0 classFile x code maxLocals ret World_1 tables_1 room_1 Calls_1 rest_1 Pre_1 Post := by
  intro l hfl _ _ p e ha hc hk s m args below hf hA hF happ hP
  obtain ⟨hcalls, hrest, hpre⟩ := hP
  obtain ⟨-, -, -, hnamed, -, -, -, hat⟩ := (Spec.applies_iff hf).mp happ
  obtain ⟨hg, hn⟩ := and_e (Cond.before_iff.mp (show (Jvm.Cond.and given_1 narrow_1).before args s = true from hpre))
  obtain ⟨gg1, gg2⟩ := and_e hg
  obtain ⟨gg3, gg4⟩ := and_e gg2
  obtain ⟨gg5, gg6⟩ := and_e gg4
  obtain ⟨w0, w1, w2, rfl⟩ : ∃ w0 w1 w2 : Value, args = #[w0, w1, w2] := by
    have hs : args.size = 3 := by simpa [Cond.value, given_1] using gg1
    obtain ⟨L⟩ := args
    match L, hs with
    | [w0, w1, w2], _ => exact ⟨w0, w1, w2, rfl⟩
  have hw := fun d (hd : d ∈ tables_1) => atoms_spec (ws := Jvm.Cond.code x code maxLocals ret :: tables_1) hat d (List.mem_cons_of_mem _ hd)
  have hfit : Fit s := fun {y c} hc i hi => by
    obtain ⟨ha, rfl⟩ := Array.getElem?_eq_some_iff.mp hc
    have q := List.all_eq_true.mp ((Array.all_eq_true_iff_forall_mem.mp hF) _ (Array.getElem_mem ha)) i (List.mem_range.mpr hi)
    simpa [Array.getElem?_eq_getElem hi] using q
  obtain ⟨i0, ei0⟩ := is_v gg3
  obtain rfl : w0 = (.int i0) := Option.some.inj ei0
  obtain ⟨i1, ei1⟩ := is_v gg5
  obtain rfl : w1 = (.int i1) := Option.some.inj ei1
  obtain ⟨i2, ei2⟩ := is_v gg6
  obtain rfl : w2 = (.int i2) := Option.some.inj ei2
  obtain ⟨nn1, nn2⟩ := and_e hn
  obtain ⟨nn3, nn4⟩ := and_e nn2
  obtain ⟨nn5, nn6⟩ := and_e nn4
  obtain ⟨nn7, nn8⟩ := and_e nn6
  obtain ⟨nn9, nn10⟩ := and_e nn8
  obtain ⟨wr11, ev12⟩ := exa_v nn1
  have EE13 : Exa s s.heap wr11 "com/example/strict_sasl/strictsasl/mechanism/digestmd5/DigestMd5Directives$Occurrence" := Exa.start ev12 nn1
  have SS14 : Sta s s.heap "com/example/strict_sasl/strictsasl/mechanism/digestmd5/DigestMd5Directives$Occurrence" "ANY_NUMBER" "Lcom/example/strict_sasl/strictsasl/mechanism/digestmd5/DigestMd5Directives$Occurrence;" (.ref wr11) := Sta.start ev12 (Or.inr ⟨(hw _ (List.mem_of_getElem? (i := 2) rfl)), (hw _ (List.mem_of_getElem? (i := 3) rfl))⟩)
  obtain ⟨wr15, ev16⟩ := exa_v nn3
  have EE17 : Exa s s.heap wr15 "com/example/strict_sasl/strictsasl/mechanism/digestmd5/DigestMd5Directives$Occurrence" := Exa.start ev16 nn3
  have SS18 : Sta s s.heap "com/example/strict_sasl/strictsasl/mechanism/digestmd5/DigestMd5Directives$Occurrence" "EXACTLY_ONCE" "Lcom/example/strict_sasl/strictsasl/mechanism/digestmd5/DigestMd5Directives$Occurrence;" (.ref wr15) := Sta.start ev16 (Or.inr ⟨(hw _ (List.mem_of_getElem? (i := 2) rfl)), (hw _ (List.mem_of_getElem? (i := 10) rfl))⟩)
  obtain ⟨wr19, ev20⟩ := exa_v nn9
  have EE21 : Exa s s.heap wr19 "com/example/strict_sasl/strictsasl/mechanism/digestmd5/DigestMd5Directives$Occurrence" := Exa.start ev20 nn9
  have SS22 : Sta s s.heap "com/example/strict_sasl/strictsasl/mechanism/digestmd5/DigestMd5Directives$Occurrence" "AT_MOST_ONCE" "Lcom/example/strict_sasl/strictsasl/mechanism/digestmd5/DigestMd5Directives$Occurrence;" (.ref wr19) := Sta.start ev20 (Or.inr ⟨(hw _ (List.mem_of_getElem? (i := 2) rfl)), (hw _ (List.mem_of_getElem? (i := 12) rfl))⟩)
  have ev23 := own_eqI nn5
  have FF24 : Fld s s.heap wr11 "java/lang/Enum" "ordinal" "I" (.int (0 : Int32)) := Fld.start ((fld_at ev12).symm.trans ev23)
  have ev25 := own_eqI nn7
  have FF26 : Fld s s.heap wr15 "java/lang/Enum" "ordinal" "I" (.int (2 : Int32)) := Fld.start ((fld_at ev16).symm.trans ev25)
  have ev27 := own_eqI nn10
  have FF28 : Fld s s.heap wr19 "java/lang/Enum" "ordinal" "I" (.int (1 : Int32)) := Fld.start ((fld_at ev20).symm.trans ev27)
  obtain ⟨n, o, h1, h2, h3, _, L, rfl, ⟨rfl, N⟩, hq⟩ := rm0 l s _ hw tables_1 i0 i1 i2 wr11 wr15 wr19 s.heap s.heap.size (Nat.le_refl _) (Old.start s) EE13 SS14 EE17 SS18 EE21 SS22 FF24 FF26 FF28 (Fld.ne FF24 FF26 (by decide)) (Fld.ne FF24 FF28 (by decide)) (Fld.ne FF28 FF26 (by decide)) p e ha hc hk s m _ below hf ((Spec.applies_iff_loose hf).mp happ).1 ⟨rfl, State.Warmed39.refl s, rfl⟩ trivial
  refine ⟨n, _, h1, h2, h3, hpost _ _ _ _ _ _ ⟨Cond.after_iff.mpr rfl, Cond.after_iff.mpr (eq_i res_at (Term.int_eval (1)) rfl), trivial⟩ ⟨hq.1, hq.2.1, (hq.2.2.sift fun y hy => Or.inr (N y hy)).mono (by decide) (by decide)⟩⟩
theorem main_1_1 : Claimed_1_1 := comes_1 fun _ _ _ _ _ _ h hF => ⟨h.1, hF⟩
theorem main_1_2 : Claimed_1_2 := comes_1 fun _ _ _ _ _ _ h hF => ⟨h.2.1, hF⟩
end Jvm.Pilot.@@N@@
namespace Jvm.Pilot.@@N@@
open Jvm Jvm.ClassFile Sem Op Lib Jvm.Free Jvm.Stand Jvm.Pilot.@@N@@.Jvm.D
/-! MADE BY PROGRAM (witnessworld.py) out of the Statement's table words and the real class files: 12 classes; the members and pool entries that the words name. The judged class is class 1, her method 1. -/
namespace start1
open Jvm.ClassFile
def u (s : String) : CpInfo := .utf8 (stringToUtf16 s)
/-- a pool by its gaps: so many unusable entries, then the entry; so many at the end -/
def gap : Nat → List CpInfo → List CpInfo
  | 0, r => r
  | n + 1, r => .unusable :: gap n r
def poolList (es : List (Nat × CpInfo)) (last : Nat) : List CpInfo := es.foldr (fun e r => gap e.1 (e.2 :: r)) (gap last [])
def pool (es : List (Nat × CpInfo)) (last : Nat) : Array CpInfo := ⟨poolList es last⟩
def fileOf (pool : Array CpInfo) (this : Nat) (attrs : Array Attribute := #[]) (ms : Array MethodInfo := #[]) (fl : Nat := 33) (sup : Nat := 0) (ifs : Array Nat := #[]) (fds : Array FieldInfo := #[]) : ClassFile where
  minorVersion := 0
  majorVersion := 65
  constantPool := pool
  accessFlags := fl
  thisClass := this
  superClass := sup
  interfaces := ifs
  fields := fds
  methods := ms
  attributes := attrs
def plain (name : String) (sup : Option ClassId) : Class where
  name := name
  kind := .ordinary
  loader := none
  accessFlags := 33
  super := sup
  interfaces := #[]
  cf := none
  fields := #[]
  methods := #[]
  instanceTypes := #[]
  staticTypes := #[]
  resolved := #[]
  callSites := []
  init := .initialized
  statics := none
  mirror := none

def pool0 : Array CpInfo := pool [(5, u "<init>"), (0, u "()V"), (1, .class_ 10), (1, u "java/lang/Object")] 113

def k0m0 : Method := { name := "<init>", desc := "()V", sig := { parameters := [], returnType := none }, accessFlags := 1, code := none }
/-- java/lang/Object -/
def k0 : Class := { plain "java/lang/Object" none with
  accessFlags := 33
  interfaces := #[]
  cf := some (fileOf pool0 8 #[] #[{ accessFlags := 1, nameIndex := 5, descriptorIndex := 6, attributes := #[] }] 33 0 #[] #[])
  fields := #[]
  methods := #[k0m0]
  instanceTypes := #[]
  staticTypes := #[]
  resolved := Array.replicate 124 none
  statics := none }

def pool1 : Array CpInfo := pool [(2, .class_ 4), (1, u "java/lang/Object"), (0, u "<init>"), (0, u "()V"), (0, .integer 2147483647), (0, .fieldref 9 10), (0, .class_ 11), (0, .nameAndType 12 13), (0, u "com/example/strict_sasl/strictsasl/mechanism/digestmd5/DigestMd5Directives$Occurrence"), (0, u "ANY_NUMBER"), (0, u "Lcom/example/strict_sasl/strictsasl/mechanism/digestmd5/DigestMd5Directives$Occurrence;"), (0, .fieldref 9 15), (0, .nameAndType 16 13), (0, u "AT_MOST_ONCE"), (0, .fieldref 9 18), (0, .nameAndType 19 13), (0, u "EXACTLY_ONCE"), (0, .methodref 9 21), (0, .nameAndType 22 23), (0, u "allows"), (0, u "(I)Z"), (0, .class_ 25), (0, u "com/example/strict_sasl/strictsasl/mechanism/digestmd5/OccurrenceAllowsPinLaw"), (2, u "law"), (0, u "(III)Z")] 7

def k1m0 : Method := { name := "<init>", desc := "()V", sig := { parameters := [], returnType := none }, accessFlags := 1, code := none }
def k1c1 : Code := { maxStack := 2, maxLocals := 7, code := code, exceptionTable := #[], attributes := #[] }
def k1m1 : Method := { name := "law", desc := "(III)Z", sig := { parameters := [.int, .int, .int], returnType := some .boolean }, accessFlags := 9, code := some k1c1 }
/-- com/example/strict_sasl/strictsasl/mechanism/digestmd5/OccurrenceAllowsPinLaw -/
def k1 : Class := { plain "com/example/strict_sasl/strictsasl/mechanism/digestmd5/OccurrenceAllowsPinLaw" (some 0) with
  accessFlags := 49
  interfaces := #[]
  cf := some (fileOf pool1 24 #[] #[{ accessFlags := 1, nameIndex := 5, descriptorIndex := 6, attributes := #[] }, { accessFlags := 9, nameIndex := 28, descriptorIndex := 29, attributes := #[] }] 49 2 #[] #[])
  fields := #[]
  methods := #[k1m0, k1m1]
  instanceTypes := #[]
  staticTypes := #[]
  resolved := Array.replicate 37 none
  statics := none }

def pool2 : Array CpInfo := pool [(1, .class_ 2), (0, u "java/lang/constant/Constable"), (0, .class_ 4), (0, u "java/lang/Object")] 6

/-- java/lang/constant/Constable -/
def k2 : Class := { plain "java/lang/constant/Constable" (some 0) with
  accessFlags := 1537
  interfaces := #[]
  cf := some (fileOf pool2 1 #[] #[] 1537 3 #[] #[])
  fields := #[]
  methods := #[]
  instanceTypes := #[]
  staticTypes := #[]
  resolved := Array.replicate 11 none
  statics := none }

def pool3 : Array CpInfo := pool [(1, .class_ 2), (0, u "java/lang/Comparable"), (0, .class_ 4), (0, u "java/lang/Object")] 7

/-- java/lang/Comparable -/
def k3 : Class := { plain "java/lang/Comparable" (some 0) with
  accessFlags := 1537
  interfaces := #[]
  cf := some (fileOf pool3 1 #[] #[] 1537 3 #[] #[])
  fields := #[]
  methods := #[]
  instanceTypes := #[]
  staticTypes := #[]
  resolved := Array.replicate 12 none
  statics := none }

def pool4 : Array CpInfo := pool [(1, .class_ 2), (0, u "java/io/Serializable"), (0, .class_ 4), (0, u "java/lang/Object")] 2

/-- java/io/Serializable -/
def k4 : Class := { plain "java/io/Serializable" (some 0) with
  accessFlags := 1537
  interfaces := #[]
  cf := some (fileOf pool4 1 #[] #[] 1537 3 #[] #[])
  fields := #[]
  methods := #[]
  instanceTypes := #[]
  staticTypes := #[]
  resolved := Array.replicate 7 none
  statics := none }

def pool5 : Array CpInfo := pool [(2, .class_ 4), (1, u "java/lang/Enum"), (0, u "name"), (0, u "Ljava/lang/String;"), (2, u "ordinal"), (0, u "I"), (1, .class_ 14), (1, u "java/lang/Object"), (4, u "hash"), (86, .class_ 108), (1, u "java/lang/Enum$EnumDesc"), (2, .class_ 112), (0, u "java/lang/constant/Constable"), (0, .class_ 114), (0, u "java/lang/Comparable"), (0, .class_ 116), (0, u "java/io/Serializable")] 87

/-- java/lang/Enum -/
def k5 : Class := { plain "java/lang/Enum" (some 0) with
  accessFlags := 1057
  interfaces := #[2, 3, 4]
  cf := some (fileOf pool5 2 #[.nestMembers #[106]] #[] 1057 12 #[111, 113, 115] #[{ accessFlags := 18, nameIndex := 5, descriptorIndex := 6, attributes := #[] }, { accessFlags := 18, nameIndex := 9, descriptorIndex := 10, attributes := #[] }, { accessFlags := 2, nameIndex := 19, descriptorIndex := 10, attributes := #[] }])
  fields := #[{ name := "name", type := (.object "java/lang/String"), accessFlags := 18, slot := 0, constantValue := 0 }, { name := "ordinal", type := .int, accessFlags := 18, slot := 1, constantValue := 0 }, { name := "hash", type := .int, accessFlags := 2, slot := 2, constantValue := 0 }]
  methods := #[]
  instanceTypes := #[(.object "java/lang/String"), .int, .int]
  staticTypes := #[]
  resolved := Array.replicate 204 none
  statics := none }

def pool6 : Array CpInfo := pool [(1, .class_ 2), (0, u "com/example/strict_sasl/strictsasl/mechanism/digestmd5/DigestMd5Directives$Occurrence"), (2, u "ANY_NUMBER"), (0, u "Lcom/example/strict_sasl/strictsasl/mechanism/digestmd5/DigestMd5Directives$Occurrence;"), (0, .fieldref 1 8), (0, .nameAndType 9 6), (0, u "AT_MOST_ONCE"), (0, .fieldref 1 11), (0, .nameAndType 12 6), (0, u "EXACTLY_ONCE"), (2, u "$VALUES"), (0, u "[Lcom/example/strict_sasl/strictsasl/mechanism/digestmd5/DigestMd5Directives$Occurrence;"), (6, .class_ 25), (1, u "java/lang/Enum"), (8, u "description"), (0, u "Ljava/lang/String;"), (24, u "allows"), (0, u "(I)Z"), (7, .class_ 70), (0, u "com/example/strict_sasl/strictsasl/mechanism/digestmd5/DigestMd5Directives")] 2

def k6c0 : Code := { maxStack := 2, maxLocals := 3, code := prog_44_method_5_code, exceptionTable := #[], attributes := #[] }
def k6m0 : Method := { name := "allows", desc := "(I)Z", sig := { parameters := [.int], returnType := some .boolean }, accessFlags := 0, code := some k6c0 }
/-- com/example/strict_sasl/strictsasl/mechanism/digestmd5/DigestMd5Directives$Occurrence -/
def k6 : Class := { plain "com/example/strict_sasl/strictsasl/mechanism/digestmd5/DigestMd5Directives$Occurrence" (some 5) with
  accessFlags := 16432
  interfaces := #[]
  cf := some (fileOf pool6 1 #[.nestHost 69] #[{ accessFlags := 0, nameIndex := 60, descriptorIndex := 61, attributes := #[] }] 16432 23 #[] #[{ accessFlags := 16409, nameIndex := 5, descriptorIndex := 6, attributes := #[] }, { accessFlags := 16409, nameIndex := 9, descriptorIndex := 6, attributes := #[] }, { accessFlags := 16409, nameIndex := 12, descriptorIndex := 6, attributes := #[] }, { accessFlags := 18, nameIndex := 34, descriptorIndex := 35, attributes := #[] }, { accessFlags := 4122, nameIndex := 15, descriptorIndex := 16, attributes := #[] }])
  fields := #[{ name := "ANY_NUMBER", type := (.object "com/example/strict_sasl/strictsasl/mechanism/digestmd5/DigestMd5Directives$Occurrence"), accessFlags := 16409, slot := 0, constantValue := 0 }, { name := "AT_MOST_ONCE", type := (.object "com/example/strict_sasl/strictsasl/mechanism/digestmd5/DigestMd5Directives$Occurrence"), accessFlags := 16409, slot := 1, constantValue := 0 }, { name := "EXACTLY_ONCE", type := (.object "com/example/strict_sasl/strictsasl/mechanism/digestmd5/DigestMd5Directives$Occurrence"), accessFlags := 16409, slot := 2, constantValue := 0 }, { name := "description", type := (.object "java/lang/String"), accessFlags := 18, slot := 3, constantValue := 0 }, { name := "$VALUES", type := (.array (.object "com/example/strict_sasl/strictsasl/mechanism/digestmd5/DigestMd5Directives$Occurrence")), accessFlags := 4122, slot := 3, constantValue := 0 }]
  methods := #[k6m0]
  instanceTypes := #[(.object "java/lang/String"), .int, .int, (.object "java/lang/String")]
  staticTypes := #[(.object "com/example/strict_sasl/strictsasl/mechanism/digestmd5/DigestMd5Directives$Occurrence"), (.object "com/example/strict_sasl/strictsasl/mechanism/digestmd5/DigestMd5Directives$Occurrence"), (.object "com/example/strict_sasl/strictsasl/mechanism/digestmd5/DigestMd5Directives$Occurrence"), (.array (.object "com/example/strict_sasl/strictsasl/mechanism/digestmd5/DigestMd5Directives$Occurrence"))]
  resolved := Array.replicate 73 none
  statics := some 0 }

def pool7 : Array CpInfo := pool [(1, u "java/lang/Cloneable"), (0, .class_ 1), (0, u "java/lang/Object"), (0, .class_ 3)] 3

/-- java/lang/Cloneable -/
def k7 : Class := { plain "java/lang/Cloneable" (some 0) with
  accessFlags := 1537
  interfaces := #[]
  cf := some (fileOf pool7 2 #[] #[] 1537 4 #[] #[])
  fields := #[]
  methods := #[]
  instanceTypes := #[]
  staticTypes := #[]
  resolved := Array.replicate 8 none
  statics := none }

/-- the primitive byte -/
def k8 : Class := { plain "byte" none with kind := .primitive 'B', accessFlags := 0x411 }
/-- [B -/
def k9 : Class := { plain "[B" (some 0) with kind := .array 8 .byte, interfaces := #[7, 4], accessFlags := 1041 }

/-- the primitive int -/
def k10 : Class := { plain "int" none with kind := .primitive 'I', accessFlags := 0x411 }
/-- [I -/
def k11 : Class := { plain "[I" (some 0) with kind := .array 10 .int, interfaces := #[7, 4], accessFlags := 1041 }

def heap : Heap := #[{ cls := 6, slots := #[.ref 1, .ref 2, .ref 3, .null], vm := .statics 6 },
  { cls := 6, slots := #[.null, .int 0, .int 0, .null], vm := .none },
  { cls := 6, slots := #[.null, .int 1, .int 0, .null], vm := .none },
  { cls := 6, slots := #[.null, .int 2, .int 0, .null], vm := .none }]
def classes : Array Class := #[k0, k1, k2, k3, k4, k5, k6, k7, k8, k9, k10, k11]
def interned : List (Array UInt16 × Addr) := []
def slotsUsed : Nat := 16
def theMethod : MethodId := ⟨1, 1⟩
def args0 : Array Value := #[.int 5, .int 7, .int 3]
def aboutOver (below : List Frame) : State where
  vm := { classes := classes, interned := interned.toArray }
  heap := heap
  slotsUsed := slotsUsed
  threads := #[{ frames := .invoking theMethod args0 :: below }]
def below0 : List Frame := [.native { method := ⟨0, 0⟩, args := #[] }]
def about1 : State := aboutOver below0
def p0 : Program := .bare "" "" ""
def e0 : Env := launch0.env 0 0 0
theorem w_frames : about1.frames = Frame.invoking theMethod args0 :: below0 := rfl
set_option maxRecDepth 65536 in
theorem w_args : argsFit about1.vm theMethod args0 = true := by decide +kernel
set_option maxRecDepth 65536 in
theorem w_heap : heapFits about1 = true := by decide +kernel
set_option maxRecDepth 65536 in
theorem w_runnable : about1.curStatus? = some .runnable := by decide +kernel
set_option maxRecDepth 65536 in
theorem w_alone : about1.alone = true := by decide +kernel
set_option maxRecDepth 65536 in
theorem w_named : about1.methodNamed? x = some theMethod := by decide +kernel
set_option maxRecDepth 65536 in
theorem w_hears : about1.hears theMethod below0 = true := by decide +kernel
set_option maxRecDepth 65536 in
theorem w_ripe : about1.ripe theMethod args0 below0 = true := by decide +kernel
theorem w_running : about1.status = .running := rfl
set_option maxRecDepth 65536 in
theorem w_room : about1.hasRoom e0.platform room_1 = true :=
  launch0.hasRoom_least _ room_1 (by decide +kernel) (by decide +kernel) (by decide +kernel) (by decide +kernel) (by decide +kernel) (by decide +kernel)
theorem allAtoms_all (ts : List Jvm.Cond) (a : Array Jvm.Value) (st : Jvm.State) : (allAtoms ts).before a st = ts.all (fun c => c.before a st) := by
  induction ts with
  | nil => rfl
  | cons c t ih =>
    show (Jvm.Cond.and c (allAtoms t)).before a st = _
    rw [Jvm.Cond.before_and, ih, List.all_cons]
def words1 : List Jvm.Cond := Jvm.Cond.code x code maxLocals ret :: tables_1
/-- a 'code' word, met by the world's own term for the bytes: nothing is compared byte by byte -/
theorem code_word {y : MethodName} {bytes : ByteArray} {mx : Nat} {rt : Option FieldType} {a : Array Value} {s : State} {m : MethodId} {meth : Method} {c : Code} (h1 : s.methodNamed? y = some m) (h2 : s.vm.method? m = some meth) (h3 : meth.code = some c) (h4 : c.code = bytes)
    (h5 : (c.maxLocals == mx && c.exceptionTable.isEmpty && decide (c.maxStack ≤ mostOperands) && decide (meth.sig.returnType = rt) && !meth.locks && decide (parseMethodDescriptor y.desc = some meth.sig)) = true) : (Jvm.Cond.code y bytes mx rt).before a s = true := by
  simp only [Bool.and_eq_true, beq_iff_eq, Bool.not_eq_true', decide_eq_true_eq] at h5
  obtain ⟨⟨⟨⟨⟨g1, g2⟩, g3⟩, g4⟩, g5⟩, g6⟩ := h5
  simp [Cond.before, Cond.holds, Cond.value, h1, h2, h3, h4, g1, g2, g3, g4, g5, g6]
def isCode : Jvm.Cond → Bool
  | .code _ _ _ _ => true
  | _ => false
theorem all_split {L : List Jvm.Cond} {P : Jvm.Cond → Bool} (h1 : L.all (fun c => isCode c || P c) = true) (h2 : ∀ c ∈ L.filter isCode, P c = true) : L.all P = true := by
  refine List.all_eq_true.mpr fun c hc => ?_
  have h := List.all_eq_true.mp h1 c hc
  rcases Bool.eq_false_or_eq_true (isCode c) with hi | hi
  · exact h2 c (List.mem_filter.mpr ⟨hc, hi⟩)
  · simpa [hi] using h
set_option maxRecDepth 65536 in
theorem w_c0 : (Jvm.Cond.code x code maxLocals ret).before args0 about1 = true := code_word (m := ⟨1, 1⟩) (meth := k1m1) (c := k1c1) (by decide +kernel) rfl rfl rfl (by decide +kernel)
set_option maxRecDepth 65536 in
theorem w_c1 : (Jvm.Cond.code ({ cls := "com/example/strict_sasl/strictsasl/mechanism/digestmd5/DigestMd5Directives$Occurrence", name := "allows", desc := "(I)Z" } : Jvm.MethodName) prog_44_method_5_code (3 : Nat) (Option.some Jvm.ClassFile.FieldType.boolean)).before args0 about1 = true := code_word (m := ⟨6, 0⟩) (meth := k6m0) (c := k6c0) (by decide +kernel) rfl rfl rfl (by decide +kernel)
def codes1 : List Jvm.Cond := [Jvm.Cond.code x code maxLocals ret, Jvm.Cond.code ({ cls := "com/example/strict_sasl/strictsasl/mechanism/digestmd5/DigestMd5Directives$Occurrence", name := "allows", desc := "(I)Z" } : Jvm.MethodName) prog_44_method_5_code (3 : Nat) (Option.some Jvm.ClassFile.FieldType.boolean)]
set_option maxRecDepth 65536 in
theorem codes_eq : words1.filter isCode = codes1 := rfl
theorem w_codes : ∀ c ∈ words1.filter isCode, c.before args0 about1 = true := by
  rw [codes_eq]
  intro c hc
  simp only [codes1, List.mem_cons, List.not_mem_nil, or_false] at hc
  rcases hc with rfl | rfl
  · exact w_c0
  · exact w_c1
set_option maxRecDepth 65536 in
theorem w_t1 : words1.all (fun c => isCode c || c.before args0 about1) = true := by decide +kernel
theorem w_tables : (allAtoms (Jvm.Cond.code x code maxLocals ret :: tables_1)).before args0 about1 = true := by
  rw [allAtoms_all]
  show words1.all (fun c => c.before args0 about1) = true
  refine all_split ?_ w_codes
  rw [w_t1]
set_option maxRecDepth 65536 in
theorem w_case : (Jvm.Cond.and given_1 narrow_1).before args0 about1 = true := by decide +kernel
theorem w_applies : (headSpec (Jvm.Cond.code x code maxLocals ret :: tables_1) room_1).applies x e0.platform about1 = true :=
  (Spec.applies_iff w_frames).mpr ⟨w_running, w_runnable, w_alone, w_named, w_hears, w_ripe, w_room, w_tables⟩
theorem atStart : AtStart classFile x code maxLocals ret World_1 tables_1 room_1 Calls_1 rest_1 Pre_1 launch0 p0 e0 about1 theMethod args0 below0 :=
  ⟨lists_1, trivial, launch0.admits_env _ _ _, launch0.least_env, fairChoices_fair.cas, fairChoices_fair.clock, w_frames, w_args, w_heap, w_applies, trivial, trivial, w_case⟩
end start1
theorem witness_1 : WitnessClaimed_1 := ⟨start1.p0, start1.e0, start1.about1, start1.theMethod, start1.args0, start1.below0, start1.atStart⟩
end Jvm.Pilot.@@N@@
