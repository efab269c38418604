import JvmDerived
import JvmDerived.Pilot.@@N@@Statement
import JvmDerived.Pilot.@@N@@Code
set_option linter.unusedVariables false
set_option linter.unusedSimpArgs false
namespace Jvm.RoadKit
open Sem ClassFile Op Lib Jvm.Stand Jvm.Free Jvm.LawKit
section New
variable {p : Program} {l : Launch} {e : Env} {R : Room} {s : State} {m : MethodId} {args : Array Value} {below : List Frame} {meth : Method} {c : Code} {T : State} {locs : List Loc} {cells slots : Nat}
theorem retI (X : Stand p l e R s m args below meth c T locs cells slots) (hx : p.tables.exec = Jvm.exec) {pc : Nat} {Ls : Array Slot} {z : Int32} {rest : List Value} (hret : meth.sig.returnType = some .int) (hd : decode c.code pc = .ok (.ireturn, 1)) {fs : List Frame}
    (hl : ∀ (f : JFrame) (acts : List Action), f.method = m → f.locked = none → f.entered = [] → (doReturn e (T.setTop f) acts (some (.int z))).1 = T.setFrames fs) : Steps p.tables e below (T.setTop (mkF m pc Ls (.int z :: rest))) (T.setFrames fs) := by
  have hm' : T.vm.method? m = some meth := X.method'
  have hn : narrow .int (.int z) = .int z := rfl
  show Steps p.tables e below (T.setTop { method := m, pc := pc, locals := Ls, stack := _ :: rest, locked := none }) _
  jvm_step X.here [X.here.top, hx, hd, hm', hret, hn]
  first | (intro acts; rw [hl _ acts rfl rfl rfl]) | rw [hl _ _ rfl rfl rfl]
  exact Steps.refl _
end New
end Jvm.RoadKit
namespace Jvm.Pilot.@@N@@
open Jvm Jvm.ClassFile Sem Op Lib Jvm.Free Jvm.Stand Jvm.LawKit Jvm.RoadKit Bundle Jvm.Pilot.@@N@@.Jvm.D
def own_min (a b : Int64) : Int64 := if b < a then b else a
def own_max (a b : Int64) : Int64 := if a < b then b else a
def own_in (v s e : Int64) : Int32 := if v < s then (0 : Int32) else if v < e then (1 : Int32) else (0 : Int32)
theorem own_mm (a b : Int64) (h : ¬ (a = b)) : own_min a b < own_max a b := by
  unfold own_min own_max
  rw [← Int64.toInt_inj] at h
  simp only [Int64.lt_iff_toInt_lt]
  split <;> split <;> omega
theorem own_in1 {v s e : Int64} (h1 : s.toInt ≤ v.toInt) (h2 : v.toInt < e.toInt) : own_in v s e = (1 : Int32) := by
  unfold own_in; rw [if_neg (by rw [Int64.lt_iff_toInt_lt]; omega), if_pos (by rw [Int64.lt_iff_toInt_lt]; omega)]
theorem own_in0 {v s e : Int64} (h1 : v.toInt < s.toInt ∨ e.toInt ≤ v.toInt) : own_in v s e = (0 : Int32) := by
  unfold own_in
  by_cases h : v < s
  · rw [if_pos h]
  · rw [if_neg h, if_neg]; rw [Int64.lt_iff_toInt_lt] at h ⊢; omega
theorem own_ref {v s e : Int64} (h : s < e) : (((v - s) + (-9223372036854775808 : Int64)) < ((e - s) + (-9223372036854775808 : Int64))) ↔ (s.toInt ≤ v.toInt ∧ v.toInt < e.toInt) := by
  rw [Int64.lt_iff_toInt_lt] at h ⊢
  have n : (-9223372036854775808 : Int64).toInt = -9223372036854775808 := by decide
  have k : ∀ x y : Int64, (((x - y) + (-9223372036854775808 : Int64)).toInt - (x.toInt - y.toInt - 9223372036854775808)) % 18446744073709551616 = 0 := fun x y => by
    have q1 := c_lsub x y; have q3 := c_ladd (x - y) (-9223372036854775808 : Int64); rw [n] at q3; omega
  have q1 := k v s; have q2 := k e s
  have r1 := rng64 v; have r2 := rng64 s; have r3 := rng64 e; have r6 := rng64 ((v - s) + (-9223372036854775808 : Int64)); have r7 := rng64 ((e - s) + (-9223372036854775808 : Int64))
  generalize ((v - s) + (-9223372036854775808 : Int64)).toInt = A at *
  generalize ((e - s) + (-9223372036854775808 : Int64)).toInt = B at *
  generalize v.toInt = v' at *
  generalize s.toInt = s' at *
  generalize e.toInt = e' at *
  clear k n
  have hB : B = e' - s' - 9223372036854775808 := by omega
  by_cases hv : s' ≤ v'
  · have hA : A = v' - s' - 9223372036854775808 := by omega
    omega
  · have hA : A = v' - s' + 9223372036854775808 := by omega
    omega
theorem own_refT {v s e : Int64} (h : s < e) (g : ((v - s) + (-9223372036854775808 : Int64)) < ((e - s) + (-9223372036854775808 : Int64))) : own_in v s e = (1 : Int32) := own_in1 ((own_ref h).mp g).1 ((own_ref h).mp g).2
theorem own_refF {v s e : Int64} (h : s < e) (g : ¬ (((v - s) + (-9223372036854775808 : Int64)) < ((e - s) + (-9223372036854775808 : Int64)))) : own_in v s e = (0 : Int32) := own_in0 (by rw [own_ref h] at g; omega)
theorem own_s {s e : Int64} (h : s < e) : own_in s s e = (1 : Int32) := own_in1 (Int.le_refl _) (by rw [Int64.lt_iff_toInt_lt] at h; exact h)
theorem own_e {s e : Int64} : own_in e s e = (0 : Int32) := own_in0 (Or.inr (Int.le_refl _))
theorem own_e1 {s e : Int64} (h : s < e) : own_in (e - (1 : Int64)) s e = (1 : Int32) := by
  rw [Int64.lt_iff_toInt_lt] at h
  have q := c_lsub e (1 : Int64); have n : (1 : Int64).toInt = 1 := by decide
  have r := rng64 (e - (1 : Int64)); have r2 := rng64 s; have r3 := rng64 e
  exact own_in1 (by omega) (by omega)
theorem own_s1 {s e : Int64} (h : ¬ (s = (-9223372036854775808 : Int64))) : own_in (s - (1 : Int64)) s e = (0 : Int32) := by
  rw [← Int64.toInt_inj] at h
  have n' : (-9223372036854775808 : Int64).toInt = -9223372036854775808 := by decide
  have q := c_lsub s (1 : Int64); have n : (1 : Int64).toInt = 1 := by decide
  have r := rng64 (s - (1 : Int64)); have r2 := rng64 s
  exact own_in0 (by omega)
theorem own_e2 {s e : Int64} (h : ¬ (e = (9223372036854775807 : Int64))) : own_in (e + (1 : Int64)) s e = (0 : Int32) := by
  rw [← Int64.toInt_inj] at h
  have n' : (9223372036854775807 : Int64).toInt = 9223372036854775807 := by decide
  have q := c_ladd e (1 : Int64); have n : (1 : Int64).toInt = 1 := by decide
  have r := rng64 (e + (1 : Int64)); have r2 := rng64 e
  exact own_in0 (by omega)
theorem ef_1 (m : MethodId) (x0 : Int64) (x1 : Int64) : entryFrame m #[(.long x0), (.long x1)] 4 = mkF m 0 #[.val (.long x0), .second, .val (.long x1), .second] [] := by first | (simp [entryFrame, mkF, argsToLocals, Value.category]; done) | rfl
theorem d1_0 : decode jdk_29_method_70_code 0 = .ok (.lload_n 0, 1) := by decide +kernel
theorem d1_1 : decode jdk_29_method_70_code 1 = .ok (.lload_n 2, 1) := by decide +kernel
theorem d1_2 : decode jdk_29_method_70_code 2 = .ok (.lcmp, 1) := by decide +kernel
theorem d1_3 : decode jdk_29_method_70_code 3 = .ok (.ifCond .gt 7, 3) := by decide +kernel
theorem d1_10 : decode jdk_29_method_70_code 10 = .ok (.lload_n 2, 1) := by decide +kernel
theorem d1_11 : decode jdk_29_method_70_code 11 = .ok (.lreturn, 1) := by decide +kernel
theorem d1_6 : decode jdk_29_method_70_code 6 = .ok (.lload_n 0, 1) := by decide +kernel
theorem d1_7 : decode jdk_29_method_70_code 7 = .ok (.goto 4, 3) := by decide +kernel
def Q1 (Z : State) (q1 : Int64) (q2 : Int64) (h0 : Heap) (n0 : Nat) (v : Option Value) (h : Heap) (L : List Loc) : Prop := v = some (.long (own_min q1 q2)) ∧ Fr n0 L ∧ (h = h0)
set_option maxRecDepth 65536 in
set_option maxHeartbeats 40000000 in
theorem rm1 (l : Launch) (Z : State) (a0 : Array Value) (hw : ∀ d ∈ tables_1, d.before a0 Z = true) (ws : List Jvm.Cond) (q1 : Int64) (q2 : Int64) (h0 : Heap) (n0 : Nat) (Z0 : n0 ≤ h0.size) :
    MetFree l (⟨"java/lang/Math", "min", "(JJ)J"⟩ : MethodName) (head1 (Jvm.Cond.code (⟨"java/lang/Math", "min", "(JJ)J"⟩ : MethodName) jdk_29_method_70_code 4 (some .long) :: ws) ({ frames := 0, cells := 0, slots := 0, locals := 0 } : Room)) (fun a U => a = #[(.long q1), (.long q2)] ∧ Z.Warmed39 U.vm ∧ U.heap = h0) (fun _ _ _ _ _ => True) (fun _ U o U' => ∃ v L, o = .returned v ∧ Q1 Z q1 q2 h0 n0 v U'.heap L ∧ FrameEnd U o U' L ({ frames := 0, cells := 0, slots := 0, locals := 0 } : Room).cells ({ frames := 0, cells := 0, slots := 0, locals := 0 } : Room).slots) := by
  refine MetFree.of_bodySF (Jvm.Free.JP.mathPlain rfl (by decide +kernel)) hisR ?_
  intro p e s m args below meth c s₁ Bd hml0 hP hK
  obtain ⟨rfl, hZ, hh⟩ := hP
  have hx := Bd.exec
  have hby := Bd.bytes
  have hml : c.maxLocals = 4 := hml0
  have hown : s.vm.findClass "java/lang/Math" = some m.cls := findClass_of_methodNamed Bd.named
  have hnm := (name_of_methodNamed Bd.named Bd.method).1
  have hlk : meth.locks = false := by first | exact BodyLoose.notSynchronized Bd | exact Body.notSynchronized Bd
  have X0 : Stand p l e ({ frames := 0, cells := 0, slots := 0, locals := 0 } : Room) s m #[(.long q1), (.long q2)] below meth c s₁ [] 0 0 := Stand.of_body Bd
  have e0 : s₁.heap = h0 := by rw [← hh, Bd.state]; rfl
  have N0 := Fr.nil n0
  have pre0 : ∀ t, Steps p.tables e below (s₁.setTop (mkF m 0 #[.val (.long q1), .second, .val (.long q2), .second] [])) t → Steps p.tables e below (s₁.setTop (entryFrame m #[(.long q1), (.long q2)] 4)) t := fun t k => castTop (ef_1 m q1 q2) k
  have pr101 : ∀ t, Steps p.tables e below (s₁.setTop (mkF m 3 #[.val (.long q1), .second, .val (.long q2), .second] [(.int (lcmpW q1 q2))])) t → Steps p.tables e below (s₁.setTop (mkF m 0 #[.val (.long q1), .second, .val (.long q2), .second] [])) t := fun t kt => by
    show Steps p.tables e below (s₁.setTop (mkF m 0 #[.val (.long q1), .second, .val (.long q2), .second] [])) _
    refine XS.lloadN X0.here hx rfl (hb hby d1_0) rfl ?_
    show Steps p.tables e below (s₁.setTop (mkF m 1 #[.val (.long q1), .second, .val (.long q2), .second] [(.long q1)])) _
    refine XS.lloadN X0.here hx rfl (hb hby d1_1) rfl ?_
    show Steps p.tables e below (s₁.setTop (mkF m 2 #[.val (.long q1), .second, .val (.long q2), .second] [(.long q2), (.long q1)])) _
    refine XS.lcmp X0.here hx rfl (hb hby d1_2) rfl ?_
    exact kt
  by_cases hc102 : q2 < q1
  · obtain ⟨fs, hr, hrun, hended, hW, hsame⟩ := X0.leave (v := some (.long q2)) (fun h => by rw [Bd.returns] at h; cases h) hlk
    refine ⟨_, _, pre0 _ ?_, hrun, hended, _, _, rfl, ?_, ⟨_, rfl⟩, hW, hsame.mono (by decide) (by decide)⟩
    · refine pr101 _ ?_
      show Steps p.tables e below (s₁.setTop (mkF m 3 #[.val (.long q1), .second, .val (.long q2), .second] [(.int (lcmpW q1 q2))])) _
      refine XS.ifYes X0.here hx rfl (pc0 := 3) (pc' := 10) rfl (hb hby d1_3) rfl ((if0 _ _).trans (tlt ((lw_gt _ _).mpr hc102)).2.2.1) (by decide) (by decide) ?_
      show Steps p.tables e below (s₁.setTop (mkF m 10 #[.val (.long q1), .second, .val (.long q2), .second] [])) _
      refine XS.lloadN X0.here hx rfl (hb hby d1_10) rfl ?_
      show Steps p.tables e below (s₁.setTop (mkF m 11 #[.val (.long q1), .second, .val (.long q2), .second] [(.long q2)])) _
      exact X0.lreturnOut hx Bd.returns (hb hby d1_11) hr
    · show Q1 Z q1 q2 h0 n0 _ s₁.heap _
      rw [e0]
      exact ⟨(congrArg (fun z => some (Value.long z)) (by simp [own_min, hc102] : q2 = (own_min q1 q2))), N0, rfl⟩
  · obtain ⟨fs, hr, hrun, hended, hW, hsame⟩ := X0.leave (v := some (.long q1)) (fun h => by rw [Bd.returns] at h; cases h) hlk
    refine ⟨_, _, pre0 _ ?_, hrun, hended, _, _, rfl, ?_, ⟨_, rfl⟩, hW, hsame.mono (by decide) (by decide)⟩
    · refine pr101 _ ?_
      show Steps p.tables e below (s₁.setTop (mkF m 3 #[.val (.long q1), .second, .val (.long q2), .second] [(.int (lcmpW q1 q2))])) _
      refine XS.ifNo X0.here hx rfl (hb hby d1_3) rfl ((if0 _ _).trans (flt (fun q => hc102 ((lw_gt _ _).mp q))).2.2.1) ?_
      show Steps p.tables e below (s₁.setTop (mkF m 6 #[.val (.long q1), .second, .val (.long q2), .second] [])) _
      refine XS.lloadN X0.here hx rfl (hb hby d1_6) rfl ?_
      show Steps p.tables e below (s₁.setTop (mkF m 7 #[.val (.long q1), .second, .val (.long q2), .second] [(.long q1)])) _
      refine XS.goto X0.here hx rfl (pc0 := 7) (pc' := 11) rfl (hb hby d1_7) (by decide) (by decide) ?_
      show Steps p.tables e below (s₁.setTop (mkF m 11 #[.val (.long q1), .second, .val (.long q2), .second] [(.long q1)])) _
      exact X0.lreturnOut hx Bd.returns (hb hby d1_11) hr
    · show Q1 Z q1 q2 h0 n0 _ s₁.heap _
      rw [e0]
      exact ⟨(congrArg (fun z => some (Value.long z)) (by simp [own_min, hc102] : q1 = (own_min q1 q2))), N0, rfl⟩
theorem ef_2 (m : MethodId) (x0 : Int64) (x1 : Int64) : entryFrame m #[(.long x0), (.long x1)] 4 = mkF m 0 #[.val (.long x0), .second, .val (.long x1), .second] [] := by first | (simp [entryFrame, mkF, argsToLocals, Value.category]; done) | rfl
theorem d2_0 : decode jdk_29_method_66_code 0 = .ok (.lload_n 0, 1) := by decide +kernel
theorem d2_1 : decode jdk_29_method_66_code 1 = .ok (.lload_n 2, 1) := by decide +kernel
theorem d2_2 : decode jdk_29_method_66_code 2 = .ok (.lcmp, 1) := by decide +kernel
theorem d2_3 : decode jdk_29_method_66_code 3 = .ok (.ifCond .lt 7, 3) := by decide +kernel
theorem d2_10 : decode jdk_29_method_66_code 10 = .ok (.lload_n 2, 1) := by decide +kernel
theorem d2_11 : decode jdk_29_method_66_code 11 = .ok (.lreturn, 1) := by decide +kernel
theorem d2_6 : decode jdk_29_method_66_code 6 = .ok (.lload_n 0, 1) := by decide +kernel
theorem d2_7 : decode jdk_29_method_66_code 7 = .ok (.goto 4, 3) := by decide +kernel
def Q2 (Z : State) (q1 : Int64) (q2 : Int64) (h0 : Heap) (n0 : Nat) (v : Option Value) (h : Heap) (L : List Loc) : Prop := v = some (.long (own_max q1 q2)) ∧ Fr n0 L ∧ (h = h0)
set_option maxRecDepth 65536 in
set_option maxHeartbeats 40000000 in
theorem rm2 (l : Launch) (Z : State) (a0 : Array Value) (hw : ∀ d ∈ tables_1, d.before a0 Z = true) (ws : List Jvm.Cond) (q1 : Int64) (q2 : Int64) (h0 : Heap) (n0 : Nat) (Z0 : n0 ≤ h0.size) :
    MetFree l (⟨"java/lang/Math", "max", "(JJ)J"⟩ : MethodName) (head1 (Jvm.Cond.code (⟨"java/lang/Math", "max", "(JJ)J"⟩ : MethodName) jdk_29_method_66_code 4 (some .long) :: ws) ({ frames := 0, cells := 0, slots := 0, locals := 0 } : Room)) (fun a U => a = #[(.long q1), (.long q2)] ∧ Z.Warmed39 U.vm ∧ U.heap = h0) (fun _ _ _ _ _ => True) (fun _ U o U' => ∃ v L, o = .returned v ∧ Q2 Z q1 q2 h0 n0 v U'.heap L ∧ FrameEnd U o U' L ({ frames := 0, cells := 0, slots := 0, locals := 0 } : Room).cells ({ frames := 0, cells := 0, slots := 0, locals := 0 } : Room).slots) := by
  refine MetFree.of_bodySF (Jvm.Free.JP.mathPlain rfl (by decide +kernel)) hisR ?_
  intro p e s m args below meth c s₁ Bd hml0 hP hK
  obtain ⟨rfl, hZ, hh⟩ := hP
  have hx := Bd.exec
  have hby := Bd.bytes
  have hml : c.maxLocals = 4 := hml0
  have hown : s.vm.findClass "java/lang/Math" = some m.cls := findClass_of_methodNamed Bd.named
  have hnm := (name_of_methodNamed Bd.named Bd.method).1
  have hlk : meth.locks = false := by first | exact BodyLoose.notSynchronized Bd | exact Body.notSynchronized Bd
  have X0 : Stand p l e ({ frames := 0, cells := 0, slots := 0, locals := 0 } : Room) s m #[(.long q1), (.long q2)] below meth c s₁ [] 0 0 := Stand.of_body Bd
  have e0 : s₁.heap = h0 := by rw [← hh, Bd.state]; rfl
  have N0 := Fr.nil n0
  have pre0 : ∀ t, Steps p.tables e below (s₁.setTop (mkF m 0 #[.val (.long q1), .second, .val (.long q2), .second] [])) t → Steps p.tables e below (s₁.setTop (entryFrame m #[(.long q1), (.long q2)] 4)) t := fun t k => castTop (ef_2 m q1 q2) k
  have pr101 : ∀ t, Steps p.tables e below (s₁.setTop (mkF m 3 #[.val (.long q1), .second, .val (.long q2), .second] [(.int (lcmpW q1 q2))])) t → Steps p.tables e below (s₁.setTop (mkF m 0 #[.val (.long q1), .second, .val (.long q2), .second] [])) t := fun t kt => by
    show Steps p.tables e below (s₁.setTop (mkF m 0 #[.val (.long q1), .second, .val (.long q2), .second] [])) _
    refine XS.lloadN X0.here hx rfl (hb hby d2_0) rfl ?_
    show Steps p.tables e below (s₁.setTop (mkF m 1 #[.val (.long q1), .second, .val (.long q2), .second] [(.long q1)])) _
    refine XS.lloadN X0.here hx rfl (hb hby d2_1) rfl ?_
    show Steps p.tables e below (s₁.setTop (mkF m 2 #[.val (.long q1), .second, .val (.long q2), .second] [(.long q2), (.long q1)])) _
    refine XS.lcmp X0.here hx rfl (hb hby d2_2) rfl ?_
    exact kt
  by_cases hc102 : q1 < q2
  · obtain ⟨fs, hr, hrun, hended, hW, hsame⟩ := X0.leave (v := some (.long q2)) (fun h => by rw [Bd.returns] at h; cases h) hlk
    refine ⟨_, _, pre0 _ ?_, hrun, hended, _, _, rfl, ?_, ⟨_, rfl⟩, hW, hsame.mono (by decide) (by decide)⟩
    · refine pr101 _ ?_
      show Steps p.tables e below (s₁.setTop (mkF m 3 #[.val (.long q1), .second, .val (.long q2), .second] [(.int (lcmpW q1 q2))])) _
      refine XS.ifYes X0.here hx rfl (pc0 := 3) (pc' := 10) rfl (hb hby d2_3) rfl ((if0 _ _).trans (tlt ((lw_lt _ _).mpr hc102)).1) (by decide) (by decide) ?_
      show Steps p.tables e below (s₁.setTop (mkF m 10 #[.val (.long q1), .second, .val (.long q2), .second] [])) _
      refine XS.lloadN X0.here hx rfl (hb hby d2_10) rfl ?_
      show Steps p.tables e below (s₁.setTop (mkF m 11 #[.val (.long q1), .second, .val (.long q2), .second] [(.long q2)])) _
      exact X0.lreturnOut hx Bd.returns (hb hby d2_11) hr
    · show Q2 Z q1 q2 h0 n0 _ s₁.heap _
      rw [e0]
      exact ⟨(congrArg (fun z => some (Value.long z)) (by simp [own_max, hc102] : q2 = (own_max q1 q2))), N0, rfl⟩
  · obtain ⟨fs, hr, hrun, hended, hW, hsame⟩ := X0.leave (v := some (.long q1)) (fun h => by rw [Bd.returns] at h; cases h) hlk
    refine ⟨_, _, pre0 _ ?_, hrun, hended, _, _, rfl, ?_, ⟨_, rfl⟩, hW, hsame.mono (by decide) (by decide)⟩
    · refine pr101 _ ?_
      show Steps p.tables e below (s₁.setTop (mkF m 3 #[.val (.long q1), .second, .val (.long q2), .second] [(.int (lcmpW q1 q2))])) _
      refine XS.ifNo X0.here hx rfl (hb hby d2_3) rfl ((if0 _ _).trans (flt (fun q => hc102 ((lw_lt _ _).mp q))).1) ?_
      show Steps p.tables e below (s₁.setTop (mkF m 6 #[.val (.long q1), .second, .val (.long q2), .second] [])) _
      refine XS.lloadN X0.here hx rfl (hb hby d2_6) rfl ?_
      show Steps p.tables e below (s₁.setTop (mkF m 7 #[.val (.long q1), .second, .val (.long q2), .second] [(.long q1)])) _
      refine XS.goto X0.here hx rfl (pc0 := 7) (pc' := 11) rfl (hb hby d2_7) (by decide) (by decide) ?_
      show Steps p.tables e below (s₁.setTop (mkF m 11 #[.val (.long q1), .second, .val (.long q2), .second] [(.long q1)])) _
      exact X0.lreturnOut hx Bd.returns (hb hby d2_11) hr
    · show Q2 Z q1 q2 h0 n0 _ s₁.heap _
      rw [e0]
      exact ⟨(congrArg (fun z => some (Value.long z)) (by simp [own_max, hc102] : q1 = (own_max q1 q2))), N0, rfl⟩
theorem pn_0 : plainName "java/lang/Record" = true := by first | (simp [plainName, overriddenIn]; done) | decide +kernel
theorem ef_4 (m : MethodId) (x0 : Addr) : entryFrame m #[(.ref x0)] 1 = mkF m 0 #[.val (.ref x0)] [] := by first | (simp [entryFrame, mkF, argsToLocals, Value.category]; done) | rfl
theorem d4_0 : decode jdk_30_method_1_code 0 = .ok (.aload_n 0, 1) := by decide +kernel
theorem d4_1 : decode jdk_30_method_1_code 1 = .ok (.invokespecial 1, 3) := by decide +kernel
theorem d4_4 : decode jdk_30_method_1_code 4 = .ok (.return_, 1) := by decide +kernel
def Q4 (Z : State) (a1 : Addr) (h0 : Heap) (n0 : Nat) (v : Option Value) (h : Heap) (L : List Loc) : Prop := v = none ∧ Fr n0 L ∧ (h = h0)
set_option maxRecDepth 65536 in
set_option maxHeartbeats 40000000 in
theorem rm4 (l : Launch) (Z : State) (a0 : Array Value) (hw : ∀ d ∈ tables_1, d.before a0 Z = true) (ws : List Jvm.Cond) (a1 : Addr) (h0 : Heap) (n0 : Nat) (Z0 : n0 ≤ h0.size) :
    MetFree l (⟨"java/lang/Record", "<init>", "()V"⟩ : MethodName) (head1 (Jvm.Cond.code (⟨"java/lang/Record", "<init>", "()V"⟩ : MethodName) jdk_30_method_1_code 1 none :: ws) ({ frames := 1, cells := 0, slots := 0, locals := 12 } : Room)) (fun a U => a = #[(.ref a1)] ∧ Z.Warmed39 U.vm ∧ U.heap = h0) (fun _ _ _ _ _ => True) (fun _ U o U' => ∃ v L, o = .returned v ∧ Q4 Z a1 h0 n0 v U'.heap L ∧ FrameEnd U o U' L ({ frames := 1, cells := 0, slots := 0, locals := 12 } : Room).cells ({ frames := 1, cells := 0, slots := 0, locals := 12 } : Room).slots) := by
  refine MetFree.of_bodySF (plainFor_of_name pn_0) hisR ?_
  intro p e s m args below meth c s₁ Bd hml0 hP hK
  obtain ⟨rfl, hZ, hh⟩ := hP
  have hx := Bd.exec
  have hby := Bd.bytes
  have hml : c.maxLocals = 1 := hml0
  have hown : s.vm.findClass "java/lang/Record" = some m.cls := findClass_of_methodNamed Bd.named
  have hnm := (name_of_methodNamed Bd.named Bd.method).1
  have hlk : meth.locks = false := by first | exact BodyLoose.notSynchronized Bd | exact Body.notSynchronized Bd
  have X0 : Stand p l e ({ frames := 1, cells := 0, slots := 0, locals := 12 } : Room) s m #[(.ref a1)] below meth c s₁ [] 0 0 := Stand.of_body Bd
  have e0 : s₁.heap = h0 := by rw [← hh, Bd.state]; rfl
  have N0 := Fr.nil n0
  have pre0 : ∀ t, Steps p.tables e below (s₁.setTop (mkF m 0 #[.val (.ref a1)] [])) t → Steps p.tables e below (s₁.setTop (entryFrame m #[(.ref a1)] 1)) t := fun t k => castTop (ef_4 m a1) k
  obtain ⟨T101, X101, e101, st101⟩ := initO X0 hx hZ hown (hw _ (List.mem_of_getElem? (i := 18) rfl)) (hw _ (List.mem_of_getElem? (i := 19) rfl)) (hw _ (List.mem_of_getElem? (i := 20) rfl)) e0 (g := (mkF m 1 #[.val (.ref a1)] [(.ref a1)])) rfl (by rw [hml]; rfl) rfl (hb hby d4_1) (by decide) (W := 0) (by show 2 * 0 + _ ≤ _; exact Nat.le_of_eq rfl) (by decide)
  obtain ⟨fs, hr, hrun, hended, hW, hsame⟩ := X101.leave (v := none) (fun _ => rfl) hlk
  refine ⟨_, _, pre0 _ ?_, hrun, hended, _, _, rfl, ?_, ⟨_, rfl⟩, hW, hsame.mono (by decide) (by decide)⟩
  · show Steps p.tables e below (s₁.setTop (mkF m 0 #[.val (.ref a1)] [])) _
    refine XS.aloadN X0.here hx rfl (hb hby d4_0) rfl rfl ?_
    show Steps p.tables e below (s₁.setTop (mkF m 1 #[.val (.ref a1)] [(.ref a1)])) _
    refine st101 _ ?_
    show Steps p.tables e below (T101.setTop (mkF m 4 #[.val (.ref a1)] [])) _
    exact X101.returnOut hx Bd.returns (hb hby d4_4) hr
  · show Q4 Z a1 h0 n0 _ T101.heap _
    rw [e101]
    exact ⟨rfl, N0, rfl⟩
theorem pn_1 : plainName "com/example/colver/colver/service/TimeRange" = true := by first | (simp [plainName, overriddenIn]; done) | decide +kernel
theorem ef_3 (m : MethodId) (x0 : Addr) (x1 : Int64) (x2 : Int64) : entryFrame m #[(.ref x0), (.long x1), (.long x2)] 5 = mkF m 0 #[.val (.ref x0), .val (.long x1), .second, .val (.long x2), .second] [] := by first | (simp [entryFrame, mkF, argsToLocals, Value.category]; done) | rfl
theorem d3_0 : decode prog_54_method_1_code 0 = .ok (.aload_n 0, 1) := by decide +kernel
theorem d3_1 : decode prog_54_method_1_code 1 = .ok (.invokespecial 1, 3) := by decide +kernel
theorem pd_0 : parseMethodDescriptor "()V" = some ⟨[], none⟩ := by decide +kernel
theorem d3_4 : decode prog_54_method_1_code 4 = .ok (.lload_n 1, 1) := by decide +kernel
theorem d3_5 : decode prog_54_method_1_code 5 = .ok (.lload_n 3, 1) := by decide +kernel
theorem d3_6 : decode prog_54_method_1_code 6 = .ok (.lcmp, 1) := by decide +kernel
theorem d3_7 : decode prog_54_method_1_code 7 = .ok (.ifCond .lt 18, 3) := by decide +kernel
theorem d3_25 : decode prog_54_method_1_code 25 = .ok (.aload_n 0, 1) := by decide +kernel
theorem d3_26 : decode prog_54_method_1_code 26 = .ok (.lload_n 1, 1) := by decide +kernel
theorem d3_27 : decode prog_54_method_1_code 27 = .ok (.putfield 16, 3) := by decide +kernel
theorem d3_30 : decode prog_54_method_1_code 30 = .ok (.aload_n 0, 1) := by decide +kernel
theorem d3_31 : decode prog_54_method_1_code 31 = .ok (.lload_n 3, 1) := by decide +kernel
theorem d3_32 : decode prog_54_method_1_code 32 = .ok (.putfield 22, 3) := by decide +kernel
theorem d3_35 : decode prog_54_method_1_code 35 = .ok (.return_, 1) := by decide +kernel
def Q3 (Z : State) (a1 : Addr) (q2 : Int64) (q3 : Int64) (h0 : Heap) (n0 : Nat) (v : Option Value) (h : Heap) (L : List Loc) : Prop := v = none ∧ Fr n0 L ∧ (Keep h0 h [a1]) ∧ (Fld Z h a1 "com/example/colver/colver/service/TimeRange" "start" "J" (.long q2)) ∧ (Fld Z h a1 "com/example/colver/colver/service/TimeRange" "end" "J" (.long q3))
set_option maxRecDepth 65536 in
set_option maxHeartbeats 40000000 in
theorem rm3 (l : Launch) (Z : State) (a0 : Array Value) (hw : ∀ d ∈ tables_1, d.before a0 Z = true) (ws : List Jvm.Cond) (a1 : Addr) (q2 : Int64) (q3 : Int64) (h0 : Heap) (n0 : Nat) (Z0 : n0 ≤ h0.size) (E1 : Exa Z h0 a1 "com/example/colver/colver/service/TimeRange") (F1 : Fld Z h0 a1 "com/example/colver/colver/service/TimeRange" "start" "J" (.long (0 : Int64))) (F2 : Fld Z h0 a1 "com/example/colver/colver/service/TimeRange" "end" "J" (.long (0 : Int64))) (g1 : n0 ≤ a1) (hlt : q2 < q3) :
    MetFree l (⟨"com/example/colver/colver/service/TimeRange", "<init>", "(JJ)V"⟩ : MethodName) (head1 (Jvm.Cond.code (⟨"com/example/colver/colver/service/TimeRange", "<init>", "(JJ)V"⟩ : MethodName) prog_54_method_1_code 5 none :: ws) ({ frames := 2, cells := 0, slots := 0, locals := 24 } : Room)) (fun a U => a = #[(.ref a1), (.long q2), (.long q3)] ∧ Z.Warmed39 U.vm ∧ U.heap = h0) (fun _ _ _ _ _ => True) (fun _ U o U' => ∃ v L, o = .returned v ∧ Q3 Z a1 q2 q3 h0 n0 v U'.heap L ∧ FrameEnd U o U' L ({ frames := 2, cells := 0, slots := 0, locals := 24 } : Room).cells ({ frames := 2, cells := 0, slots := 0, locals := 24 } : Room).slots) := by
  refine MetFree.of_bodySF (plainFor_of_name pn_1) hisR ?_
  intro p e s m args below meth c s₁ Bd hml0 hP hK
  obtain ⟨rfl, hZ, hh⟩ := hP
  have hx := Bd.exec
  have hby := Bd.bytes
  have hml : c.maxLocals = 5 := hml0
  have hown : s.vm.findClass "com/example/colver/colver/service/TimeRange" = some m.cls := findClass_of_methodNamed Bd.named
  have hnm := (name_of_methodNamed Bd.named Bd.method).1
  have hlk : meth.locks = false := by first | exact BodyLoose.notSynchronized Bd | exact Body.notSynchronized Bd
  have X0 : Stand p l e ({ frames := 2, cells := 0, slots := 0, locals := 24 } : Room) s m #[(.ref a1), (.long q2), (.long q3)] below meth c s₁ [] 0 0 := Stand.of_body Bd
  have e0 : s₁.heap = h0 := by rw [← hh, Bd.state]; rfl
  have N0 := Fr.nil n0
  have pre0 : ∀ t, Steps p.tables e below (s₁.setTop (mkF m 0 #[.val (.ref a1), .val (.long q2), .second, .val (.long q3), .second] [])) t → Steps p.tables e below (s₁.setTop (entryFrame m #[(.ref a1), (.long q2), (.long q3)] 5)) t := fun t k => castTop (ef_3 m a1 q2 q3) k
  obtain ⟨_, _, ⟨T101, L101, k101, n101⟩, -, X101, ⟨Lc101, hQ101, l101, y101, z101⟩, st101⟩ := X0.specialBack hx (y := (⟨"java/lang/Record", "<init>", "()V"⟩ : MethodName)) rfl hown (mvT hZ (hw _ (List.mem_of_getElem? (i := 13) rfl))) (mvT hZ (hw _ (List.mem_of_getElem? (i := 14) rfl))) (mvT hZ (hw _ (List.mem_of_getElem? (i := 17) rfl))) (by decide) (backOf (W := 0) (rm4 l Z a0 hw [] a1 h0 n0 Z0 ) hZ (hw _ (List.mem_of_getElem? (i := 17) rfl)) (hw _ (List.mem_of_getElem? (i := 16) rfl)) (by decide) (by decide)) (g := (mkF m 1 #[.val (.ref a1), .val (.long q2), .second, .val (.long q3), .second] [(.ref a1)])) rfl (by rw [hml]; rfl) (Steps.refl _) (a := a1) (argsL := []) (rest := []) (lenOf pd_0 rfl) rfl (by show 2 * 0 + _ ≤ _; exact Nat.le_of_eq rfl) (hb hby d3_1) (fun _ _ => ⟨rfl, e0, (by decide : 0 + 0 ≤ _), (by decide : 0 + 0 ≤ _)⟩)
  dsimp only [Pt.U, Pt.locs, Pt.cells, Pt.slots] at X101 l101 y101 z101 st101 hQ101
  subst l101 y101 z101
  obtain ⟨rfl, N101q, P101_0⟩ := hQ101
  have N101 := Fr.app N0 N101q
  obtain ⟨T102, h102, X102, e102, W102, st102⟩ := putF X101 hx hZ hown (host := "") (Or.inl (hw _ (List.mem_of_getElem? (i := 21) rfl))) Via.refl P101_0 F1 E1 (Or.inr ⟨(hw _ (List.mem_of_getElem? (i := 22) rfl)), rfl, hnm⟩) (hw _ (List.mem_of_getElem? (i := 8) rfl)) (ty := .long) (by decide) rfl rfl (g := (mkF m 27 #[.val (.ref a1), .val (.long q2), .second, .val (.long q3), .second] [(.long q2), (.ref a1)])) rfl rfl (hb hby d3_27)
  have f103 : Exa Z h102 a1 "com/example/colver/colver/service/TimeRange" := Exa.wr W102 E1
  have f104 : Fld Z h102 a1 "com/example/colver/colver/service/TimeRange" "end" "J" (.long (0 : Int64)) := Fld.other W102 F2 (Or.inr (slot_ne (Or.inr (hw _ (List.mem_of_getElem? (i := 24) rfl))) (Or.inr (hw _ (List.mem_of_getElem? (i := 22) rfl))) (by decide) (t := .long) (t' := .long) (by decide) (by decide)))
  have f105 : Fld Z h102 a1 "com/example/colver/colver/service/TimeRange" "start" "J" (.long q2) := F1.same W102
  have Zs102 : n0 ≤ h102.size := Nat.le_trans Z0 (Keep.of_wr W102).1
  have N102 := Fr.snoc X102 N101 g1
  have K102 : Keep h0 h102 [a1] := (Keep.refl h0 [a1]).wr W102 (Or.inl (List.mem_of_getElem? (i := 0) rfl))
  obtain ⟨T106, h106, X106, e106, W106, st106⟩ := putF X102 hx hZ hown (host := "") (Or.inl (hw _ (List.mem_of_getElem? (i := 23) rfl))) Via.refl e102 f104 f103 (Or.inr ⟨(hw _ (List.mem_of_getElem? (i := 24) rfl)), rfl, hnm⟩) (hw _ (List.mem_of_getElem? (i := 8) rfl)) (ty := .long) (by decide) rfl rfl (g := (mkF m 32 #[.val (.ref a1), .val (.long q2), .second, .val (.long q3), .second] [(.long q3), (.ref a1)])) rfl rfl (hb hby d3_32)
  have f107 : Exa Z h106 a1 "com/example/colver/colver/service/TimeRange" := Exa.wr W106 f103
  have f108 : Fld Z h106 a1 "com/example/colver/colver/service/TimeRange" "start" "J" (.long q2) := Fld.other W106 f105 (Or.inr (slot_ne (Or.inr (hw _ (List.mem_of_getElem? (i := 22) rfl))) (Or.inr (hw _ (List.mem_of_getElem? (i := 24) rfl))) (by decide) (t := .long) (t' := .long) (by decide) (by decide)))
  have f109 : Fld Z h106 a1 "com/example/colver/colver/service/TimeRange" "end" "J" (.long q3) := f104.same W106
  have Zs106 : n0 ≤ h106.size := Nat.le_trans Zs102 (Keep.of_wr W106).1
  have N106 := Fr.snoc X106 N102 g1
  have K106 : Keep h0 h106 [a1] := K102.wr W106 (Or.inl (List.mem_of_getElem? (i := 0) rfl))
  obtain ⟨fs, hr, hrun, hended, hW, hsame⟩ := X106.leave (v := none) (fun _ => rfl) hlk
  refine ⟨_, _, pre0 _ ?_, hrun, hended, _, _, rfl, ?_, ⟨_, rfl⟩, hW, hsame.mono (by decide) (by decide)⟩
  · show Steps p.tables e below (s₁.setTop (mkF m 0 #[.val (.ref a1), .val (.long q2), .second, .val (.long q3), .second] [])) _
    refine XS.aloadN X0.here hx rfl (hb hby d3_0) rfl rfl ?_
    show Steps p.tables e below (s₁.setTop (mkF m 1 #[.val (.ref a1), .val (.long q2), .second, .val (.long q3), .second] [(.ref a1)])) _
    refine st101.trans ?_
    show Steps p.tables e below (T101.setTop (mkF m 4 #[.val (.ref a1), .val (.long q2), .second, .val (.long q3), .second] [])) _
    refine XS.lloadN X101.here hx rfl (hb hby d3_4) rfl ?_
    show Steps p.tables e below (T101.setTop (mkF m 5 #[.val (.ref a1), .val (.long q2), .second, .val (.long q3), .second] [(.long q2)])) _
    refine XS.lloadN X101.here hx rfl (hb hby d3_5) rfl ?_
    show Steps p.tables e below (T101.setTop (mkF m 6 #[.val (.ref a1), .val (.long q2), .second, .val (.long q3), .second] [(.long q3), (.long q2)])) _
    refine XS.lcmp X101.here hx rfl (hb hby d3_6) rfl ?_
    show Steps p.tables e below (T101.setTop (mkF m 7 #[.val (.ref a1), .val (.long q2), .second, .val (.long q3), .second] [(.int (lcmpW q2 q3))])) _
    refine XS.ifYes X101.here hx rfl (pc0 := 7) (pc' := 25) rfl (hb hby d3_7) rfl ((if0 _ _).trans (tlt ((lw_lt _ _).mpr hlt)).1) (by decide) (by decide) ?_
    show Steps p.tables e below (T101.setTop (mkF m 25 #[.val (.ref a1), .val (.long q2), .second, .val (.long q3), .second] [])) _
    refine XS.aloadN X101.here hx rfl (hb hby d3_25) rfl rfl ?_
    show Steps p.tables e below (T101.setTop (mkF m 26 #[.val (.ref a1), .val (.long q2), .second, .val (.long q3), .second] [(.ref a1)])) _
    refine XS.lloadN X101.here hx rfl (hb hby d3_26) rfl ?_
    show Steps p.tables e below (T101.setTop (mkF m 27 #[.val (.ref a1), .val (.long q2), .second, .val (.long q3), .second] [(.long q2), (.ref a1)])) _
    refine st102 _ ?_
    show Steps p.tables e below (T102.setTop (mkF m 30 #[.val (.ref a1), .val (.long q2), .second, .val (.long q3), .second] [])) _
    refine XS.aloadN X102.here hx rfl (hb hby d3_30) rfl rfl ?_
    show Steps p.tables e below (T102.setTop (mkF m 31 #[.val (.ref a1), .val (.long q2), .second, .val (.long q3), .second] [(.ref a1)])) _
    refine XS.lloadN X102.here hx rfl (hb hby d3_31) rfl ?_
    show Steps p.tables e below (T102.setTop (mkF m 32 #[.val (.ref a1), .val (.long q2), .second, .val (.long q3), .second] [(.long q3), (.ref a1)])) _
    refine st106 _ ?_
    show Steps p.tables e below (T106.setTop (mkF m 35 #[.val (.ref a1), .val (.long q2), .second, .val (.long q3), .second] [])) _
    exact X106.returnOut hx Bd.returns (hb hby d3_35) hr
  · show Q3 Z a1 q2 q3 h0 n0 _ T106.heap _
    rw [e106]
    exact ⟨rfl, N106, K106, f108, f109⟩
theorem ef_6 (m : MethodId) (x0 : Addr) (x1 : Int64) : entryFrame m #[(.ref x0), (.long x1)] 3 = mkF m 0 #[.val (.ref x0), .val (.long x1), .second] [] := by first | (simp [entryFrame, mkF, argsToLocals, Value.category]; done) | rfl
theorem d6_0 : decode prog_54_method_2_code 0 = .ok (.lload_n 1, 1) := by decide +kernel
theorem d6_1 : decode prog_54_method_2_code 1 = .ok (.aload_n 0, 1) := by decide +kernel
theorem d6_2 : decode prog_54_method_2_code 2 = .ok (.getfield 16, 3) := by decide +kernel
theorem d6_5 : decode prog_54_method_2_code 5 = .ok (.lcmp, 1) := by decide +kernel
theorem d6_6 : decode prog_54_method_2_code 6 = .ok (.ifCond .lt 16, 3) := by decide +kernel
theorem d6_22 : decode prog_54_method_2_code 22 = .ok (.iconst 0, 1) := by decide +kernel
theorem d6_23 : decode prog_54_method_2_code 23 = .ok (.ireturn, 1) := by decide +kernel
theorem d6_9 : decode prog_54_method_2_code 9 = .ok (.lload_n 1, 1) := by decide +kernel
theorem d6_10 : decode prog_54_method_2_code 10 = .ok (.aload_n 0, 1) := by decide +kernel
theorem d6_11 : decode prog_54_method_2_code 11 = .ok (.getfield 22, 3) := by decide +kernel
theorem d6_14 : decode prog_54_method_2_code 14 = .ok (.lcmp, 1) := by decide +kernel
theorem d6_15 : decode prog_54_method_2_code 15 = .ok (.ifCond .ge 7, 3) := by decide +kernel
theorem d6_18 : decode prog_54_method_2_code 18 = .ok (.iconst 1, 1) := by decide +kernel
theorem d6_19 : decode prog_54_method_2_code 19 = .ok (.goto 4, 3) := by decide +kernel
def Q6 (Z : State) (a1 : Addr) (q2 : Int64) (w3 : Int64) (w4 : Int64) (h0 : Heap) (n0 : Nat) (v : Option Value) (h : Heap) (L : List Loc) : Prop := v = some (.int (own_in q2 w3 w4)) ∧ Fr n0 L ∧ (h = h0)
set_option maxRecDepth 65536 in
set_option maxHeartbeats 40000000 in
theorem rm6 (l : Launch) (Z : State) (a0 : Array Value) (hw : ∀ d ∈ tables_1, d.before a0 Z = true) (ws : List Jvm.Cond) (a1 : Addr) (q2 : Int64) (w3 : Int64) (w4 : Int64) (h0 : Heap) (n0 : Nat) (Z0 : n0 ≤ h0.size) (F1 : Fld Z h0 a1 "com/example/colver/colver/service/TimeRange" "start" "J" (.long w3)) (F2 : Fld Z h0 a1 "com/example/colver/colver/service/TimeRange" "end" "J" (.long w4)) :
    MetFree l (⟨"com/example/colver/colver/service/TimeRange", "contains", "(J)Z"⟩ : MethodName) (head1 (Jvm.Cond.code (⟨"com/example/colver/colver/service/TimeRange", "contains", "(J)Z"⟩ : MethodName) prog_54_method_2_code 3 (some .boolean) :: ws) ({ frames := 0, cells := 0, slots := 0, locals := 0 } : Room)) (fun a U => a = #[(.ref a1), (.long q2)] ∧ Z.Warmed39 U.vm ∧ U.heap = h0) (fun _ _ _ _ _ => True) (fun _ U o U' => ∃ v L, o = .returned v ∧ Q6 Z a1 q2 w3 w4 h0 n0 v U'.heap L ∧ FrameEnd U o U' L ({ frames := 0, cells := 0, slots := 0, locals := 0 } : Room).cells ({ frames := 0, cells := 0, slots := 0, locals := 0 } : Room).slots) := by
  refine MetFree.of_bodySF (plainFor_of_name pn_1) hisR ?_
  intro p e s m args below meth c s₁ Bd hml0 hP hK
  obtain ⟨rfl, hZ, hh⟩ := hP
  have hx := Bd.exec
  have hby := Bd.bytes
  have hml : c.maxLocals = 3 := hml0
  have hown : s.vm.findClass "com/example/colver/colver/service/TimeRange" = some m.cls := findClass_of_methodNamed Bd.named
  have hnm := (name_of_methodNamed Bd.named Bd.method).1
  have hlk : meth.locks = false := by first | exact BodyLoose.notSynchronized Bd | exact Body.notSynchronized Bd
  have X0 : Stand p l e ({ frames := 0, cells := 0, slots := 0, locals := 0 } : Room) s m #[(.ref a1), (.long q2)] below meth c s₁ [] 0 0 := Stand.of_body Bd
  have e0 : s₁.heap = h0 := by rw [← hh, Bd.state]; rfl
  have N0 := Fr.nil n0
  have pre0 : ∀ t, Steps p.tables e below (s₁.setTop (mkF m 0 #[.val (.ref a1), .val (.long q2), .second] [])) t → Steps p.tables e below (s₁.setTop (entryFrame m #[(.ref a1), (.long q2)] 3)) t := fun t k => castTop (ef_6 m a1 q2) k
  obtain ⟨T101, X101, e101, st101⟩ := getF X0 hx hZ hown (host := "") (Or.inl (hw _ (List.mem_of_getElem? (i := 21) rfl))) Via.refl e0 F1 (g := (mkF m 2 #[.val (.ref a1), .val (.long q2), .second] [(.ref a1), (.long q2)])) rfl rfl (hb hby d6_2)
  have pr102 : ∀ t, Steps p.tables e below (T101.setTop (mkF m 6 #[.val (.ref a1), .val (.long q2), .second] [(.int (lcmpW q2 w3))])) t → Steps p.tables e below (s₁.setTop (mkF m 0 #[.val (.ref a1), .val (.long q2), .second] [])) t := fun t kt => by
    show Steps p.tables e below (s₁.setTop (mkF m 0 #[.val (.ref a1), .val (.long q2), .second] [])) _
    refine XS.lloadN X0.here hx rfl (hb hby d6_0) rfl ?_
    show Steps p.tables e below (s₁.setTop (mkF m 1 #[.val (.ref a1), .val (.long q2), .second] [(.long q2)])) _
    refine XS.aloadN X0.here hx rfl (hb hby d6_1) rfl rfl ?_
    show Steps p.tables e below (s₁.setTop (mkF m 2 #[.val (.ref a1), .val (.long q2), .second] [(.ref a1), (.long q2)])) _
    refine st101 _ ?_
    show Steps p.tables e below (T101.setTop (mkF m 5 #[.val (.ref a1), .val (.long q2), .second] [(.long w3), (.long q2)])) _
    refine XS.lcmp X101.here hx rfl (hb hby d6_5) rfl ?_
    exact kt
  by_cases hc103 : q2 < w3
  · obtain ⟨fs, hr, hrun, hended, hW, hsame⟩ := X101.leave (v := some (.int (0 : Int32))) (fun h => by rw [Bd.returns] at h; cases h) hlk
    refine ⟨_, _, pre0 _ ?_, hrun, hended, _, _, rfl, ?_, ⟨_, rfl⟩, hW, hsame.mono (by decide) (by decide)⟩
    · refine pr102 _ ?_
      show Steps p.tables e below (T101.setTop (mkF m 6 #[.val (.ref a1), .val (.long q2), .second] [(.int (lcmpW q2 w3))])) _
      refine XS.ifYes X101.here hx rfl (pc0 := 6) (pc' := 22) rfl (hb hby d6_6) rfl ((if0 _ _).trans (tlt ((lw_lt _ _).mpr hc103)).1) (by decide) (by decide) ?_
      show Steps p.tables e below (T101.setTop (mkF m 22 #[.val (.ref a1), .val (.long q2), .second] [])) _
      refine XS.iconst X101.here hx rfl (hb hby d6_22) ?_
      show Steps p.tables e below (T101.setTop (mkF m 23 #[.val (.ref a1), .val (.long q2), .second] [(.int (0 : Int32))])) _
      exact retN X101 hx (t := .boolean) Bd.returns (by simp) (hb hby d6_23) hr
    · show Q6 Z a1 q2 w3 w4 h0 n0 _ T101.heap _
      rw [e101]
      exact ⟨(congrArg (fun z => some (Value.int z)) (by simp [own_in, hc103] : (0 : Int32) = (own_in q2 w3 w4))), N0, rfl⟩
  · obtain ⟨T104, X104, e104, st104⟩ := getF X101 hx hZ hown (host := "") (Or.inl (hw _ (List.mem_of_getElem? (i := 23) rfl))) Via.refl e101 F2 (g := (mkF m 11 #[.val (.ref a1), .val (.long q2), .second] [(.ref a1), (.long q2)])) rfl rfl (hb hby d6_11)
    have pr105 : ∀ t, Steps p.tables e below (T104.setTop (mkF m 15 #[.val (.ref a1), .val (.long q2), .second] [(.int (lcmpW q2 w4))])) t → Steps p.tables e below (s₁.setTop (mkF m 0 #[.val (.ref a1), .val (.long q2), .second] [])) t := fun t kt => by
      refine pr102 _ ?_
      show Steps p.tables e below (T101.setTop (mkF m 6 #[.val (.ref a1), .val (.long q2), .second] [(.int (lcmpW q2 w3))])) _
      refine XS.ifNo X101.here hx rfl (hb hby d6_6) rfl ((if0 _ _).trans (flt (fun q => hc103 ((lw_lt _ _).mp q))).1) ?_
      show Steps p.tables e below (T101.setTop (mkF m 9 #[.val (.ref a1), .val (.long q2), .second] [])) _
      refine XS.lloadN X101.here hx rfl (hb hby d6_9) rfl ?_
      show Steps p.tables e below (T101.setTop (mkF m 10 #[.val (.ref a1), .val (.long q2), .second] [(.long q2)])) _
      refine XS.aloadN X101.here hx rfl (hb hby d6_10) rfl rfl ?_
      show Steps p.tables e below (T101.setTop (mkF m 11 #[.val (.ref a1), .val (.long q2), .second] [(.ref a1), (.long q2)])) _
      refine st104 _ ?_
      show Steps p.tables e below (T104.setTop (mkF m 14 #[.val (.ref a1), .val (.long q2), .second] [(.long w4), (.long q2)])) _
      refine XS.lcmp X104.here hx rfl (hb hby d6_14) rfl ?_
      exact kt
    by_cases hc106 : q2 < w4
    · obtain ⟨fs, hr, hrun, hended, hW, hsame⟩ := X104.leave (v := some (.int (1 : Int32))) (fun h => by rw [Bd.returns] at h; cases h) hlk
      refine ⟨_, _, pre0 _ ?_, hrun, hended, _, _, rfl, ?_, ⟨_, rfl⟩, hW, hsame.mono (by decide) (by decide)⟩
      · refine pr105 _ ?_
        show Steps p.tables e below (T104.setTop (mkF m 15 #[.val (.ref a1), .val (.long q2), .second] [(.int (lcmpW q2 w4))])) _
        refine XS.ifNo X104.here hx rfl (hb hby d6_15) rfl ((if0 _ _).trans (tlt ((lw_lt _ _).mpr hc106)).2.1) ?_
        show Steps p.tables e below (T104.setTop (mkF m 18 #[.val (.ref a1), .val (.long q2), .second] [])) _
        refine XS.iconst X104.here hx rfl (hb hby d6_18) ?_
        show Steps p.tables e below (T104.setTop (mkF m 19 #[.val (.ref a1), .val (.long q2), .second] [(.int (1 : Int32))])) _
        refine XS.goto X104.here hx rfl (pc0 := 19) (pc' := 23) rfl (hb hby d6_19) (by decide) (by decide) ?_
        show Steps p.tables e below (T104.setTop (mkF m 23 #[.val (.ref a1), .val (.long q2), .second] [(.int (1 : Int32))])) _
        exact retN X104 hx (t := .boolean) Bd.returns (by simp) (hb hby d6_23) hr
      · show Q6 Z a1 q2 w3 w4 h0 n0 _ T104.heap _
        rw [e104]
        exact ⟨(congrArg (fun z => some (Value.int z)) (by simp [own_in, hc103, hc106] : (1 : Int32) = (own_in q2 w3 w4))), N0, rfl⟩
    · obtain ⟨fs, hr, hrun, hended, hW, hsame⟩ := X104.leave (v := some (.int (0 : Int32))) (fun h => by rw [Bd.returns] at h; cases h) hlk
      refine ⟨_, _, pre0 _ ?_, hrun, hended, _, _, rfl, ?_, ⟨_, rfl⟩, hW, hsame.mono (by decide) (by decide)⟩
      · refine pr105 _ ?_
        show Steps p.tables e below (T104.setTop (mkF m 15 #[.val (.ref a1), .val (.long q2), .second] [(.int (lcmpW q2 w4))])) _
        refine XS.ifYes X104.here hx rfl (pc0 := 15) (pc' := 22) rfl (hb hby d6_15) rfl ((if0 _ _).trans (flt (fun q => hc106 ((lw_lt _ _).mp q))).2.1) (by decide) (by decide) ?_
        show Steps p.tables e below (T104.setTop (mkF m 22 #[.val (.ref a1), .val (.long q2), .second] [])) _
        refine XS.iconst X104.here hx rfl (hb hby d6_22) ?_
        show Steps p.tables e below (T104.setTop (mkF m 23 #[.val (.ref a1), .val (.long q2), .second] [(.int (0 : Int32))])) _
        exact retN X104 hx (t := .boolean) Bd.returns (by simp) (hb hby d6_23) hr
      · show Q6 Z a1 q2 w3 w4 h0 n0 _ T104.heap _
        rw [e104]
        exact ⟨(congrArg (fun z => some (Value.int z)) (by simp [own_in, hc103, hc106] : (0 : Int32) = (own_in q2 w3 w4))), N0, rfl⟩
theorem pn_2 : plainName "com/example/colver/colver/service/TimeRangeContainsPinLaw" = true := by first | (simp [plainName, overriddenIn]; done) | decide +kernel
theorem ef_0 (m : MethodId) (x0 : Int64) (x1 : Int64) (x2 : Int64) : entryFrame m #[(.long x0), (.long x1), (.long x2)] maxLocals = mkF m 0 #[.val (.long x0), .second, .val (.long x1), .second, .val (.long x2), .second, .unset, .unset, .unset, .unset, .unset, .unset] [] := by first | (simp [entryFrame, mkF, argsToLocals, Value.category, maxLocals]; done) | rfl
theorem pd_1 : parseMethodDescriptor "(JJ)J" = some ⟨[.long, .long], some .long⟩ := by decide +kernel
theorem pd_2 : parseMethodDescriptor "(JJ)V" = some ⟨[.long, .long], none⟩ := by decide +kernel
theorem pd_3 : parseMethodDescriptor "(J)Z" = some ⟨[.long], some .boolean⟩ := by decide +kernel
def Q0 (Z : State) (q1 : Int64) (q2 : Int64) (q3 : Int64) (h0 : Heap) (n0 : Nat) (v : Option Value) (h : Heap) (L : List Loc) : Prop := v = some (.int (1 : Int32)) ∧ Fr n0 L
set_option maxRecDepth 65536 in
set_option maxHeartbeats 40000000 in
theorem rm0 (l : Launch) (Z : State) (a0 : Array Value) (hw : ∀ d ∈ tables_1, d.before a0 Z = true) (ws : List Jvm.Cond) (q1 : Int64) (q2 : Int64) (q3 : Int64) (h0 : Heap) (n0 : Nat) (Z0 : n0 ≤ h0.size) :
    MetFree l x (head1 (Jvm.Cond.code x code maxLocals ret :: ws) room_1) (fun a U => a = #[(.long q1), (.long q2), (.long q3)] ∧ Z.Warmed39 U.vm ∧ U.heap = h0) (fun _ _ _ _ _ => True) (fun _ U o U' => ∃ v L, o = .returned v ∧ Q0 Z q1 q2 q3 h0 n0 v U'.heap L ∧ FrameEnd U o U' L room_1.cells room_1.slots) := by
  refine MetFree.of_bodySF (plainFor_of_name pn_2) hisR ?_
  intro p e s m args below meth c s₁ Bd hml0 hP hK
  obtain ⟨rfl, hZ, hh⟩ := hP
  have hx := Bd.exec
  have hby := Bd.bytes
  have hml : c.maxLocals = 12 := hml0
  have hown : s.vm.findClass "com/example/colver/colver/service/TimeRangeContainsPinLaw" = some m.cls := findClass_of_methodNamed Bd.named
  have hnm := (name_of_methodNamed Bd.named Bd.method).1
  have hlk : meth.locks = false := by first | exact BodyLoose.notSynchronized Bd | exact Body.notSynchronized Bd
  have X0 : Stand p l e room_1 s m #[(.long q1), (.long q2), (.long q3)] below meth c s₁ [] 0 0 := Stand.of_body Bd
  have e0 : s₁.heap = h0 := by rw [← hh, Bd.state]; rfl
  have N0 := Fr.nil n0
  have pre0 : ∀ t, Steps p.tables e below (s₁.setTop (mkF m 0 #[.val (.long q1), .second, .val (.long q2), .second, .val (.long q3), .second, .unset, .unset, .unset, .unset, .unset, .unset] [])) t → Steps p.tables e below (s₁.setTop (entryFrame m #[(.long q1), (.long q2), (.long q3)] maxLocals)) t := fun t k => castTop (ef_0 m q1 q2 q3) k
  have pr101 : ∀ t, Steps p.tables e below (s₁.setTop (mkF m 3 #[.val (.long q1), .second, .val (.long q2), .second, .val (.long q3), .second, .unset, .unset, .unset, .unset, .unset, .unset] [(.int (lcmpW q1 q2))])) t → Steps p.tables e below (s₁.setTop (mkF m 0 #[.val (.long q1), .second, .val (.long q2), .second, .val (.long q3), .second, .unset, .unset, .unset, .unset, .unset, .unset] [])) t := fun t kt => by
    show Steps p.tables e below (s₁.setTop (mkF m 0 #[.val (.long q1), .second, .val (.long q2), .second, .val (.long q3), .second, .unset, .unset, .unset, .unset, .unset, .unset] [])) _
    refine XS.lloadN X0.here hx rfl (hb hby at_0) rfl ?_
    show Steps p.tables e below (s₁.setTop (mkF m 1 #[.val (.long q1), .second, .val (.long q2), .second, .val (.long q3), .second, .unset, .unset, .unset, .unset, .unset, .unset] [(.long q1)])) _
    refine XS.lloadN X0.here hx rfl (hb hby at_1) rfl ?_
    show Steps p.tables e below (s₁.setTop (mkF m 2 #[.val (.long q1), .second, .val (.long q2), .second, .val (.long q3), .second, .unset, .unset, .unset, .unset, .unset, .unset] [(.long q2), (.long q1)])) _
    refine XS.lcmp X0.here hx rfl (hb hby at_2) rfl ?_
    exact kt
  by_cases hc102 : q1 = q2
  · obtain ⟨fs, hr, hrun, hended, hW, hsame⟩ := X0.leave (v := some (.int (1 : Int32))) (fun h => by rw [Bd.returns] at h; cases h) hlk
    refine ⟨_, _, pre0 _ ?_, hrun, hended, _, _, rfl, ?_, ⟨_, rfl⟩, hW, hsame.mono (by decide) (by decide)⟩
    · refine pr101 _ ?_
      show Steps p.tables e below (s₁.setTop (mkF m 3 #[.val (.long q1), .second, .val (.long q2), .second, .val (.long q3), .second, .unset, .unset, .unset, .unset, .unset, .unset] [(.int (lcmpW q1 q2))])) _
      refine XS.ifNo X0.here hx rfl (hb hby at_3) rfl ((if0 _ _).trans (teq ((lw_eq _ _).mpr hc102)).2) ?_
      show Steps p.tables e below (s₁.setTop (mkF m 6 #[.val (.long q1), .second, .val (.long q2), .second, .val (.long q3), .second, .unset, .unset, .unset, .unset, .unset, .unset] [])) _
      refine XS.iconst X0.here hx rfl (hb hby at_6) ?_
      show Steps p.tables e below (s₁.setTop (mkF m 7 #[.val (.long q1), .second, .val (.long q2), .second, .val (.long q3), .second, .unset, .unset, .unset, .unset, .unset, .unset] [(.int (1 : Int32))])) _
      exact retN X0 hx (t := .boolean) Bd.returns (by simp) (hb hby at_7) hr
    · show Q0 Z q1 q2 q3 h0 n0 _ s₁.heap _
      rw [e0]
      exact ⟨rfl, N0⟩
  · have hne : ¬ (q1 = q2) := hc102
    obtain ⟨_, _, ⟨T103, L103, k103, n103⟩, -, X103, ⟨Lc103, hQ103, l103, y103, z103⟩, st103⟩ := Jvm.LawKit.callS X0 hx (y := (⟨"java/lang/Math", "min", "(JJ)J"⟩ : MethodName)) hown (mvT hZ (hw _ (List.mem_of_getElem? (i := 0) rfl))) (mvT hZ (hw _ (List.mem_of_getElem? (i := 1) rfl))) (mvT hZ (hw _ (List.mem_of_getElem? (i := 2) rfl))) (mvT hZ (hw _ (List.mem_of_getElem? (i := 3) rfl))) (by decide) (backOf (W := 0) (rm1 l Z a0 hw [] q1 q2 h0 n0 Z0 ) hZ (hw _ (List.mem_of_getElem? (i := 3) rfl)) (hw _ (List.mem_of_getElem? (i := 2) rfl)) (by decide) (by decide)) (g := (mkF m 10 #[.val (.long q1), .second, .val (.long q2), .second, .val (.long q3), .second, .unset, .unset, .unset, .unset, .unset, .unset] [(.long q2), (.long q1)])) rfl (by rw [hml]; rfl) (argsL := [(.long q1), (.long q2)]) (rest := []) (lenOf pd_1 rfl) rfl (by show 2 * 0 + _ ≤ _; exact Nat.le_of_eq rfl) (hb hby at_10) (fun _ _ => ⟨rfl, e0, (by decide : 0 + 0 ≤ _), (by decide : 0 + 0 ≤ _)⟩)
    dsimp only [Pt.U, Pt.locs, Pt.cells, Pt.slots] at X103 l103 y103 z103 st103 hQ103
    subst l103 y103 z103
    obtain ⟨rfl, N103q, P103_0⟩ := hQ103
    have N103 := Fr.app N0 N103q
    obtain ⟨_, _, ⟨T104, L104, k104, n104⟩, -, X104, ⟨Lc104, hQ104, l104, y104, z104⟩, st104⟩ := Jvm.LawKit.callS X103 hx (y := (⟨"java/lang/Math", "max", "(JJ)J"⟩ : MethodName)) hown (mvT hZ (hw _ (List.mem_of_getElem? (i := 4) rfl))) (mvT hZ (hw _ (List.mem_of_getElem? (i := 5) rfl))) (mvT hZ (hw _ (List.mem_of_getElem? (i := 2) rfl))) (mvT hZ (hw _ (List.mem_of_getElem? (i := 6) rfl))) (by decide) (backOf (W := 0) (rm2 l Z a0 hw [] q1 q2 h0 n0 Z0 ) hZ (hw _ (List.mem_of_getElem? (i := 6) rfl)) (hw _ (List.mem_of_getElem? (i := 2) rfl)) (by decide) (by decide)) (g := (mkF m 17 #[.val (.long q1), .second, .val (.long q2), .second, .val (.long q3), .second, .val (.long (own_min q1 q2)), .second, .unset, .unset, .unset, .unset] [(.long q2), (.long q1)])) rfl (by rw [hml]; rfl) (argsL := [(.long q1), (.long q2)]) (rest := []) (lenOf pd_1 rfl) rfl (by show 2 * 0 + _ ≤ _; exact Nat.le_of_eq rfl) (hb hby at_17) (fun _ _ => ⟨rfl, P103_0, (by decide : 0 + 0 ≤ _), (by decide : 0 + 0 ≤ _)⟩)
    dsimp only [Pt.U, Pt.locs, Pt.cells, Pt.slots] at X104 l104 y104 z104 st104 hQ104
    subst l104 y104 z104
    obtain ⟨rfl, N104q, P104_0⟩ := hQ104
    have N104 := Fr.app N103 N104q
    obtain ⟨T105, h105, X105, e105, E105, A105, D105, -, st105⟩ := newO X104 hx hZ hown (hw _ (List.mem_of_getElem? (i := 7) rfl)) (hw _ (List.mem_of_getElem? (i := 8) rfl)) (hw _ (List.mem_of_getElem? (i := 9) rfl)) P104_0 (g := (mkF m 22 #[.val (.long q1), .second, .val (.long q2), .second, .val (.long q3), .second, .val (.long (own_min q1 q2)), .second, .val (.long (own_max q1 q2)), .second, .unset, .unset] [])) rfl (hb hby at_22) (by decide) (by decide)
    obtain ⟨b105, g105⟩ : ∃ z, z = h0.size := ⟨_, rfl⟩
    rw [← g105] at A105 D105 st105
    have gn_b105 : n0 ≤ b105 := Nat.le_trans Z0 (Nat.le_of_eq g105.symm)
    have Zs105 : n0 ≤ h105.size := Nat.le_trans Z0 E105.1
    have f106 : Fld Z h105 b105 "com/example/colver/colver/service/TimeRange" "start" "J" (.long (0 : Int64)) := D105 (Or.inr (hw _ (List.mem_of_getElem? (i := 22) rfl))) (ty := .long) (by decide)
    have f107 : Fld Z h105 b105 "com/example/colver/colver/service/TimeRange" "end" "J" (.long (0 : Int64)) := D105 (Or.inr (hw _ (List.mem_of_getElem? (i := 24) rfl))) (ty := .long) (by decide)
    obtain ⟨_, _, ⟨T108, L108, k108, n108⟩, -, X108, ⟨Lc108, hQ108, l108, y108, z108⟩, st108⟩ := X105.specialBack hx (y := (⟨"com/example/colver/colver/service/TimeRange", "<init>", "(JJ)V"⟩ : MethodName)) rfl hown (mvT hZ (hw _ (List.mem_of_getElem? (i := 10) rfl))) (mvT hZ (hw _ (List.mem_of_getElem? (i := 11) rfl))) (mvT hZ (hw _ (List.mem_of_getElem? (i := 12) rfl))) (by decide) (backOf (W := 1) (rm3 l Z a0 hw [] b105 (own_min q1 q2) (own_max q1 q2) h105 n0 Zs105 A105 f106 f107 gn_b105 (own_mm q1 q2 hne)) hZ (hw _ (List.mem_of_getElem? (i := 12) rfl)) (hw _ (List.mem_of_getElem? (i := 9) rfl)) (by decide) (by decide)) (g := (mkF m 30 #[.val (.long q1), .second, .val (.long q2), .second, .val (.long q3), .second, .val (.long (own_min q1 q2)), .second, .val (.long (own_max q1 q2)), .second, .unset, .unset] [(.long (own_max q1 q2)), (.long (own_min q1 q2)), (.ref b105), (.ref b105)])) rfl (by rw [hml]; rfl) (Steps.refl _) (a := b105) (argsL := [(.long (own_min q1 q2)), (.long (own_max q1 q2))]) (rest := [(.ref b105)]) (lenOf pd_2 rfl) rfl (by show 2 * 0 + _ ≤ _; exact Nat.le_of_eq rfl) (hb hby at_30) (fun _ _ => ⟨rfl, e105, (by decide : 1 + 0 ≤ _), (by decide : 2 + 0 ≤ _)⟩)
    dsimp only [Pt.U, Pt.locs, Pt.cells, Pt.slots] at X108 l108 y108 z108 st108 hQ108
    subst l108 y108 z108
    obtain ⟨rfl, N108q, P108_0, P108_1, P108_2⟩ := hQ108
    have N108 := Fr.app N104 N108q
    have f109 : Exa Z T108.heap b105 "com/example/colver/colver/service/TimeRange" := A105.keep P108_0
    have Zs108 : n0 ≤ T108.heap.size := Nat.le_trans Zs105 P108_0.1
    have pr110 : ∀ t, Steps p.tables e below (T108.setTop (mkF m 54 #[.val (.long q1), .second, .val (.long q2), .second, .val (.long q3), .second, .val (.long (own_min q1 q2)), .second, .val (.long (own_max q1 q2)), .second, .val (.ref b105), .unset] [(.int (lcmpW ((q3 - (own_min q1 q2)) + (-9223372036854775808 : Int64)) (((own_max q1 q2) - (own_min q1 q2)) + (-9223372036854775808 : Int64))))])) t → Steps p.tables e below (s₁.setTop (mkF m 0 #[.val (.long q1), .second, .val (.long q2), .second, .val (.long q3), .second, .unset, .unset, .unset, .unset, .unset, .unset] [])) t := fun t kt => by
      refine pr101 _ ?_
      show Steps p.tables e below (s₁.setTop (mkF m 3 #[.val (.long q1), .second, .val (.long q2), .second, .val (.long q3), .second, .unset, .unset, .unset, .unset, .unset, .unset] [(.int (lcmpW q1 q2))])) _
      refine XS.ifYes X0.here hx rfl (pc0 := 3) (pc' := 8) rfl (hb hby at_3) rfl ((if0 _ _).trans (feq (fun q => hc102 ((lw_eq _ _).mp q))).2) (by decide) (by decide) ?_
      show Steps p.tables e below (s₁.setTop (mkF m 8 #[.val (.long q1), .second, .val (.long q2), .second, .val (.long q3), .second, .unset, .unset, .unset, .unset, .unset, .unset] [])) _
      refine XS.lloadN X0.here hx rfl (hb hby at_8) rfl ?_
      show Steps p.tables e below (s₁.setTop (mkF m 9 #[.val (.long q1), .second, .val (.long q2), .second, .val (.long q3), .second, .unset, .unset, .unset, .unset, .unset, .unset] [(.long q1)])) _
      refine XS.lloadN X0.here hx rfl (hb hby at_9) rfl ?_
      show Steps p.tables e below (s₁.setTop (mkF m 10 #[.val (.long q1), .second, .val (.long q2), .second, .val (.long q3), .second, .unset, .unset, .unset, .unset, .unset, .unset] [(.long q2), (.long q1)])) _
      refine st103 _ ?_
      show Steps p.tables e below (T103.setTop (mkF m 13 #[.val (.long q1), .second, .val (.long q2), .second, .val (.long q3), .second, .unset, .unset, .unset, .unset, .unset, .unset] [(.long (own_min q1 q2))])) _
      refine XS.lstore X103.here hx rfl (hb hby at_13) rfl (l' := #[.val (.long q1), .second, .val (.long q2), .second, .val (.long q3), .second, .val (.long (own_min q1 q2)), .second, .unset, .unset, .unset, .unset]) rfl ?_
      show Steps p.tables e below (T103.setTop (mkF m 15 #[.val (.long q1), .second, .val (.long q2), .second, .val (.long q3), .second, .val (.long (own_min q1 q2)), .second, .unset, .unset, .unset, .unset] [])) _
      refine XS.lloadN X103.here hx rfl (hb hby at_15) rfl ?_
      show Steps p.tables e below (T103.setTop (mkF m 16 #[.val (.long q1), .second, .val (.long q2), .second, .val (.long q3), .second, .val (.long (own_min q1 q2)), .second, .unset, .unset, .unset, .unset] [(.long q1)])) _
      refine XS.lloadN X103.here hx rfl (hb hby at_16) rfl ?_
      show Steps p.tables e below (T103.setTop (mkF m 17 #[.val (.long q1), .second, .val (.long q2), .second, .val (.long q3), .second, .val (.long (own_min q1 q2)), .second, .unset, .unset, .unset, .unset] [(.long q2), (.long q1)])) _
      refine st104 _ ?_
      show Steps p.tables e below (T104.setTop (mkF m 20 #[.val (.long q1), .second, .val (.long q2), .second, .val (.long q3), .second, .val (.long (own_min q1 q2)), .second, .unset, .unset, .unset, .unset] [(.long (own_max q1 q2))])) _
      refine XS.lstore X104.here hx rfl (hb hby at_20) rfl (l' := #[.val (.long q1), .second, .val (.long q2), .second, .val (.long q3), .second, .val (.long (own_min q1 q2)), .second, .val (.long (own_max q1 q2)), .second, .unset, .unset]) rfl ?_
      show Steps p.tables e below (T104.setTop (mkF m 22 #[.val (.long q1), .second, .val (.long q2), .second, .val (.long q3), .second, .val (.long (own_min q1 q2)), .second, .val (.long (own_max q1 q2)), .second, .unset, .unset] [])) _
      refine st105 _ ?_
      show Steps p.tables e below (T105.setTop (mkF m 25 #[.val (.long q1), .second, .val (.long q2), .second, .val (.long q3), .second, .val (.long (own_min q1 q2)), .second, .val (.long (own_max q1 q2)), .second, .unset, .unset] [(.ref b105)])) _
      refine XS.dup X105.here hx rfl (hb hby at_25) rfl rfl ?_
      show Steps p.tables e below (T105.setTop (mkF m 26 #[.val (.long q1), .second, .val (.long q2), .second, .val (.long q3), .second, .val (.long (own_min q1 q2)), .second, .val (.long (own_max q1 q2)), .second, .unset, .unset] [(.ref b105), (.ref b105)])) _
      refine XS.lload X105.here hx rfl (hb hby at_26) rfl ?_
      show Steps p.tables e below (T105.setTop (mkF m 28 #[.val (.long q1), .second, .val (.long q2), .second, .val (.long q3), .second, .val (.long (own_min q1 q2)), .second, .val (.long (own_max q1 q2)), .second, .unset, .unset] [(.long (own_min q1 q2)), (.ref b105), (.ref b105)])) _
      refine XS.lload X105.here hx rfl (hb hby at_28) rfl ?_
      show Steps p.tables e below (T105.setTop (mkF m 30 #[.val (.long q1), .second, .val (.long q2), .second, .val (.long q3), .second, .val (.long (own_min q1 q2)), .second, .val (.long (own_max q1 q2)), .second, .unset, .unset] [(.long (own_max q1 q2)), (.long (own_min q1 q2)), (.ref b105), (.ref b105)])) _
      refine st108.trans ?_
      show Steps p.tables e below (T108.setTop (mkF m 33 #[.val (.long q1), .second, .val (.long q2), .second, .val (.long q3), .second, .val (.long (own_min q1 q2)), .second, .val (.long (own_max q1 q2)), .second, .unset, .unset] [(.ref b105)])) _
      refine XS.astore X108.here hx rfl (hb hby at_33) rfl rfl (l' := #[.val (.long q1), .second, .val (.long q2), .second, .val (.long q3), .second, .val (.long (own_min q1 q2)), .second, .val (.long (own_max q1 q2)), .second, .val (.ref b105), .unset]) rfl ?_
      show Steps p.tables e below (T108.setTop (mkF m 35 #[.val (.long q1), .second, .val (.long q2), .second, .val (.long q3), .second, .val (.long (own_min q1 q2)), .second, .val (.long (own_max q1 q2)), .second, .val (.ref b105), .unset] [])) _
      refine XS.lload X108.here hx rfl (hb hby at_35) rfl ?_
      show Steps p.tables e below (T108.setTop (mkF m 37 #[.val (.long q1), .second, .val (.long q2), .second, .val (.long q3), .second, .val (.long (own_min q1 q2)), .second, .val (.long (own_max q1 q2)), .second, .val (.ref b105), .unset] [(.long q3)])) _
      refine XS.lload X108.here hx rfl (hb hby at_37) rfl ?_
      show Steps p.tables e below (T108.setTop (mkF m 39 #[.val (.long q1), .second, .val (.long q2), .second, .val (.long q3), .second, .val (.long (own_min q1 q2)), .second, .val (.long (own_max q1 q2)), .second, .val (.ref b105), .unset] [(.long (own_min q1 q2)), (.long q3)])) _
      refine XS.lsub X108.here hx rfl (hb hby at_39) rfl ?_
      show Steps p.tables e below (T108.setTop (mkF m 40 #[.val (.long q1), .second, .val (.long q2), .second, .val (.long q3), .second, .val (.long (own_min q1 q2)), .second, .val (.long (own_max q1 q2)), .second, .val (.ref b105), .unset] [(.long (q3 - (own_min q1 q2)))])) _
      refine X108.ldc2J hx hown (mvT hZ (hw _ (List.mem_of_getElem? (i := 25) rfl))) (g := (mkF m 40 #[.val (.long q1), .second, .val (.long q2), .second, .val (.long q3), .second, .val (.long (own_min q1 q2)), .second, .val (.long (own_max q1 q2)), .second, .val (.ref b105), .unset] [(.long (q3 - (own_min q1 q2)))])) rfl (hb hby at_40) ?_
      show Steps p.tables e below (T108.setTop (mkF m 43 #[.val (.long q1), .second, .val (.long q2), .second, .val (.long q3), .second, .val (.long (own_min q1 q2)), .second, .val (.long (own_max q1 q2)), .second, .val (.ref b105), .unset] [(.long (-9223372036854775808 : Int64)), (.long (q3 - (own_min q1 q2)))])) _
      refine XS.ladd X108.here hx rfl (hb hby at_43) rfl ?_
      show Steps p.tables e below (T108.setTop (mkF m 44 #[.val (.long q1), .second, .val (.long q2), .second, .val (.long q3), .second, .val (.long (own_min q1 q2)), .second, .val (.long (own_max q1 q2)), .second, .val (.ref b105), .unset] [(.long ((q3 - (own_min q1 q2)) + (-9223372036854775808 : Int64)))])) _
      refine XS.lload X108.here hx rfl (hb hby at_44) rfl ?_
      show Steps p.tables e below (T108.setTop (mkF m 46 #[.val (.long q1), .second, .val (.long q2), .second, .val (.long q3), .second, .val (.long (own_min q1 q2)), .second, .val (.long (own_max q1 q2)), .second, .val (.ref b105), .unset] [(.long (own_max q1 q2)), (.long ((q3 - (own_min q1 q2)) + (-9223372036854775808 : Int64)))])) _
      refine XS.lload X108.here hx rfl (hb hby at_46) rfl ?_
      show Steps p.tables e below (T108.setTop (mkF m 48 #[.val (.long q1), .second, .val (.long q2), .second, .val (.long q3), .second, .val (.long (own_min q1 q2)), .second, .val (.long (own_max q1 q2)), .second, .val (.ref b105), .unset] [(.long (own_min q1 q2)), (.long (own_max q1 q2)), (.long ((q3 - (own_min q1 q2)) + (-9223372036854775808 : Int64)))])) _
      refine XS.lsub X108.here hx rfl (hb hby at_48) rfl ?_
      show Steps p.tables e below (T108.setTop (mkF m 49 #[.val (.long q1), .second, .val (.long q2), .second, .val (.long q3), .second, .val (.long (own_min q1 q2)), .second, .val (.long (own_max q1 q2)), .second, .val (.ref b105), .unset] [(.long ((own_max q1 q2) - (own_min q1 q2))), (.long ((q3 - (own_min q1 q2)) + (-9223372036854775808 : Int64)))])) _
      refine X108.ldc2J hx hown (mvT hZ (hw _ (List.mem_of_getElem? (i := 25) rfl))) (g := (mkF m 49 #[.val (.long q1), .second, .val (.long q2), .second, .val (.long q3), .second, .val (.long (own_min q1 q2)), .second, .val (.long (own_max q1 q2)), .second, .val (.ref b105), .unset] [(.long ((own_max q1 q2) - (own_min q1 q2))), (.long ((q3 - (own_min q1 q2)) + (-9223372036854775808 : Int64)))])) rfl (hb hby at_49) ?_
      show Steps p.tables e below (T108.setTop (mkF m 52 #[.val (.long q1), .second, .val (.long q2), .second, .val (.long q3), .second, .val (.long (own_min q1 q2)), .second, .val (.long (own_max q1 q2)), .second, .val (.ref b105), .unset] [(.long (-9223372036854775808 : Int64)), (.long ((own_max q1 q2) - (own_min q1 q2))), (.long ((q3 - (own_min q1 q2)) + (-9223372036854775808 : Int64)))])) _
      refine XS.ladd X108.here hx rfl (hb hby at_52) rfl ?_
      show Steps p.tables e below (T108.setTop (mkF m 53 #[.val (.long q1), .second, .val (.long q2), .second, .val (.long q3), .second, .val (.long (own_min q1 q2)), .second, .val (.long (own_max q1 q2)), .second, .val (.ref b105), .unset] [(.long (((own_max q1 q2) - (own_min q1 q2)) + (-9223372036854775808 : Int64))), (.long ((q3 - (own_min q1 q2)) + (-9223372036854775808 : Int64)))])) _
      refine XS.lcmp X108.here hx rfl (hb hby at_53) rfl ?_
      exact kt
    by_cases hc111 : ((q3 - (own_min q1 q2)) + (-9223372036854775808 : Int64)) < (((own_max q1 q2) - (own_min q1 q2)) + (-9223372036854775808 : Int64))
    · obtain ⟨cq112, kq112, q112a, q112b, q112c⟩ := isOf hZ rfl f109
      obtain ⟨_, _, ⟨T112, L112, k112, n112⟩, -, X112, ⟨Lc112, hQ112, l112, y112, z112⟩, st112⟩ := X108.virtualBack hx (y := (⟨"com/example/colver/colver/service/TimeRange", "contains", "(J)Z"⟩ : MethodName)) (z := (⟨"com/example/colver/colver/service/TimeRange", "contains", "(J)Z"⟩ : MethodName)) hown (mvT hZ (hw _ (List.mem_of_getElem? (i := 26) rfl))) (mvT hZ (hw _ (List.mem_of_getElem? (i := 27) rfl))) (notFace_of_selects (args := #[]) (mvT hZ (hw _ (List.mem_of_getElem? (i := 29) rfl)))) (mvT hZ (hw _ (List.mem_of_getElem? (i := 29) rfl))) (mvT hZ (hw _ (List.mem_of_getElem? (i := 28) rfl))) (by decide) (backOf (W := 0) (rm6 l Z a0 hw [] b105 q3 (own_min q1 q2) (own_max q1 q2) T108.heap n0 Zs108 P108_1 P108_2) hZ (hw _ (List.mem_of_getElem? (i := 30) rfl)) (hw _ (List.mem_of_getElem? (i := 9) rfl)) (by decide) (by decide)) q112a q112c (g := (mkF m 68 #[.val (.long q1), .second, .val (.long q2), .second, .val (.long q3), .second, .val (.long (own_min q1 q2)), .second, .val (.long (own_max q1 q2)), .second, .val (.ref b105), .val (.int (1 : Int32))] [(.long q3), (.ref b105)])) rfl (by rw [hml]; rfl) (Steps.refl _) (argsL := [(.long q3)]) (rest := []) (lenOf pd_3 rfl) rfl (by show 2 * 0 + _ ≤ _; exact Nat.le_of_eq rfl) (hb hby at_68) (fun _ _ => ⟨rfl, rfl, (by decide : 1 + 0 ≤ _), (by decide : 2 + 0 ≤ _)⟩)
      dsimp only [Pt.U, Pt.locs, Pt.cells, Pt.slots] at X112 l112 y112 z112 st112 hQ112
      subst l112 y112 z112
      obtain ⟨hv112, N112q, P112_0⟩ := hQ112
      obtain rfl := hv112.trans (congrArg (fun z => some (Value.int z)) (own_refT (own_mm q1 q2 hne) hc111 : (own_in q3 (own_min q1 q2) (own_max q1 q2)) = (1 : Int32)))
      have N112 := Fr.app N108 N112q
      obtain ⟨cq113, kq113, q113a, q113b, q113c⟩ := isOf hZ P112_0 f109
      obtain ⟨_, _, ⟨T113, L113, k113, n113⟩, -, X113, ⟨Lc113, hQ113, l113, y113, z113⟩, st113⟩ := X112.virtualBack hx (y := (⟨"com/example/colver/colver/service/TimeRange", "contains", "(J)Z"⟩ : MethodName)) (z := (⟨"com/example/colver/colver/service/TimeRange", "contains", "(J)Z"⟩ : MethodName)) hown (mvT hZ (hw _ (List.mem_of_getElem? (i := 26) rfl))) (mvT hZ (hw _ (List.mem_of_getElem? (i := 27) rfl))) (notFace_of_selects (args := #[]) (mvT hZ (hw _ (List.mem_of_getElem? (i := 29) rfl)))) (mvT hZ (hw _ (List.mem_of_getElem? (i := 29) rfl))) (mvT hZ (hw _ (List.mem_of_getElem? (i := 28) rfl))) (by decide) (backOf (W := 0) (rm6 l Z a0 hw [] b105 (own_min q1 q2) (own_min q1 q2) (own_max q1 q2) T108.heap n0 Zs108 P108_1 P108_2) hZ (hw _ (List.mem_of_getElem? (i := 30) rfl)) (hw _ (List.mem_of_getElem? (i := 9) rfl)) (by decide) (by decide)) q113a q113c (g := (mkF m 82 #[.val (.long q1), .second, .val (.long q2), .second, .val (.long q3), .second, .val (.long (own_min q1 q2)), .second, .val (.long (own_max q1 q2)), .second, .val (.ref b105), .val (.int (1 : Int32))] [(.long (own_min q1 q2)), (.ref b105)])) rfl (by rw [hml]; rfl) (Steps.refl _) (argsL := [(.long (own_min q1 q2))]) (rest := []) (lenOf pd_3 rfl) rfl (by show 2 * 0 + _ ≤ _; exact Nat.le_of_eq rfl) (hb hby at_82) (fun _ _ => ⟨rfl, P112_0, (by decide : 1 + 0 ≤ _), (by decide : 2 + 0 ≤ _)⟩)
      dsimp only [Pt.U, Pt.locs, Pt.cells, Pt.slots] at X113 l113 y113 z113 st113 hQ113
      subst l113 y113 z113
      obtain ⟨hv113, N113q, P113_0⟩ := hQ113
      obtain rfl := hv113.trans (congrArg (fun z => some (Value.int z)) (own_s (own_mm q1 q2 hne) : (own_in (own_min q1 q2) (own_min q1 q2) (own_max q1 q2)) = (1 : Int32)))
      have N113 := Fr.app N112 N113q
      obtain ⟨cq114, kq114, q114a, q114b, q114c⟩ := isOf hZ P113_0 f109
      obtain ⟨_, _, ⟨T114, L114, k114, n114⟩, -, X114, ⟨Lc114, hQ114, l114, y114, z114⟩, st114⟩ := X113.virtualBack hx (y := (⟨"com/example/colver/colver/service/TimeRange", "contains", "(J)Z"⟩ : MethodName)) (z := (⟨"com/example/colver/colver/service/TimeRange", "contains", "(J)Z"⟩ : MethodName)) hown (mvT hZ (hw _ (List.mem_of_getElem? (i := 26) rfl))) (mvT hZ (hw _ (List.mem_of_getElem? (i := 27) rfl))) (notFace_of_selects (args := #[]) (mvT hZ (hw _ (List.mem_of_getElem? (i := 29) rfl)))) (mvT hZ (hw _ (List.mem_of_getElem? (i := 29) rfl))) (mvT hZ (hw _ (List.mem_of_getElem? (i := 28) rfl))) (by decide) (backOf (W := 0) (rm6 l Z a0 hw [] b105 (own_max q1 q2) (own_min q1 q2) (own_max q1 q2) T108.heap n0 Zs108 P108_1 P108_2) hZ (hw _ (List.mem_of_getElem? (i := 30) rfl)) (hw _ (List.mem_of_getElem? (i := 9) rfl)) (by decide) (by decide)) q114a q114c (g := (mkF m 94 #[.val (.long q1), .second, .val (.long q2), .second, .val (.long q3), .second, .val (.long (own_min q1 q2)), .second, .val (.long (own_max q1 q2)), .second, .val (.ref b105), .val (.int (1 : Int32))] [(.long (own_max q1 q2)), (.ref b105)])) rfl (by rw [hml]; rfl) (Steps.refl _) (argsL := [(.long (own_max q1 q2))]) (rest := []) (lenOf pd_3 rfl) rfl (by show 2 * 0 + _ ≤ _; exact Nat.le_of_eq rfl) (hb hby at_94) (fun _ _ => ⟨rfl, P113_0, (by decide : 1 + 0 ≤ _), (by decide : 2 + 0 ≤ _)⟩)
      dsimp only [Pt.U, Pt.locs, Pt.cells, Pt.slots] at X114 l114 y114 z114 st114 hQ114
      subst l114 y114 z114
      obtain ⟨hv114, N114q, P114_0⟩ := hQ114
      obtain rfl := hv114.trans (congrArg (fun z => some (Value.int z)) (own_e : (own_in (own_max q1 q2) (own_min q1 q2) (own_max q1 q2)) = (0 : Int32)))
      have N114 := Fr.app N113 N114q
      obtain ⟨cq115, kq115, q115a, q115b, q115c⟩ := isOf hZ P114_0 f109
      obtain ⟨_, _, ⟨T115, L115, k115, n115⟩, -, X115, ⟨Lc115, hQ115, l115, y115, z115⟩, st115⟩ := X114.virtualBack hx (y := (⟨"com/example/colver/colver/service/TimeRange", "contains", "(J)Z"⟩ : MethodName)) (z := (⟨"com/example/colver/colver/service/TimeRange", "contains", "(J)Z"⟩ : MethodName)) hown (mvT hZ (hw _ (List.mem_of_getElem? (i := 26) rfl))) (mvT hZ (hw _ (List.mem_of_getElem? (i := 27) rfl))) (notFace_of_selects (args := #[]) (mvT hZ (hw _ (List.mem_of_getElem? (i := 29) rfl)))) (mvT hZ (hw _ (List.mem_of_getElem? (i := 29) rfl))) (mvT hZ (hw _ (List.mem_of_getElem? (i := 28) rfl))) (by decide) (backOf (W := 0) (rm6 l Z a0 hw [] b105 ((own_max q1 q2) - (1 : Int64)) (own_min q1 q2) (own_max q1 q2) T108.heap n0 Zs108 P108_1 P108_2) hZ (hw _ (List.mem_of_getElem? (i := 30) rfl)) (hw _ (List.mem_of_getElem? (i := 9) rfl)) (by decide) (by decide)) q115a q115c (g := (mkF m 108 #[.val (.long q1), .second, .val (.long q2), .second, .val (.long q3), .second, .val (.long (own_min q1 q2)), .second, .val (.long (own_max q1 q2)), .second, .val (.ref b105), .val (.int (1 : Int32))] [(.long ((own_max q1 q2) - (1 : Int64))), (.ref b105)])) rfl (by rw [hml]; rfl) (Steps.refl _) (argsL := [(.long ((own_max q1 q2) - (1 : Int64)))]) (rest := []) (lenOf pd_3 rfl) rfl (by show 2 * 0 + _ ≤ _; exact Nat.le_of_eq rfl) (hb hby at_108) (fun _ _ => ⟨rfl, P114_0, (by decide : 1 + 0 ≤ _), (by decide : 2 + 0 ≤ _)⟩)
      dsimp only [Pt.U, Pt.locs, Pt.cells, Pt.slots] at X115 l115 y115 z115 st115 hQ115
      subst l115 y115 z115
      obtain ⟨hv115, N115q, P115_0⟩ := hQ115
      obtain rfl := hv115.trans (congrArg (fun z => some (Value.int z)) (own_e1 (own_mm q1 q2 hne) : (own_in ((own_max q1 q2) - (1 : Int64)) (own_min q1 q2) (own_max q1 q2)) = (1 : Int32)))
      have N115 := Fr.app N114 N115q
      have pr116 : ∀ t, Steps p.tables e below (T115.setTop (mkF m 122 #[.val (.long q1), .second, .val (.long q2), .second, .val (.long q3), .second, .val (.long (own_min q1 q2)), .second, .val (.long (own_max q1 q2)), .second, .val (.ref b105), .val (.int (1 : Int32))] [(.int (lcmpW (own_min q1 q2) (-9223372036854775808 : Int64)))])) t → Steps p.tables e below (s₁.setTop (mkF m 0 #[.val (.long q1), .second, .val (.long q2), .second, .val (.long q3), .second, .unset, .unset, .unset, .unset, .unset, .unset] [])) t := fun t kt => by
        refine pr110 _ ?_
        show Steps p.tables e below (T108.setTop (mkF m 54 #[.val (.long q1), .second, .val (.long q2), .second, .val (.long q3), .second, .val (.long (own_min q1 q2)), .second, .val (.long (own_max q1 q2)), .second, .val (.ref b105), .unset] [(.int (lcmpW ((q3 - (own_min q1 q2)) + (-9223372036854775808 : Int64)) (((own_max q1 q2) - (own_min q1 q2)) + (-9223372036854775808 : Int64))))])) _
        refine XS.ifNo X108.here hx rfl (hb hby at_54) rfl ((if0 _ _).trans (tlt ((lw_lt _ _).mpr hc111)).2.1) ?_
        show Steps p.tables e below (T108.setTop (mkF m 57 #[.val (.long q1), .second, .val (.long q2), .second, .val (.long q3), .second, .val (.long (own_min q1 q2)), .second, .val (.long (own_max q1 q2)), .second, .val (.ref b105), .unset] [])) _
        refine XS.iconst X108.here hx rfl (hb hby at_57) ?_
        show Steps p.tables e below (T108.setTop (mkF m 58 #[.val (.long q1), .second, .val (.long q2), .second, .val (.long q3), .second, .val (.long (own_min q1 q2)), .second, .val (.long (own_max q1 q2)), .second, .val (.ref b105), .unset] [(.int (1 : Int32))])) _
        refine XS.goto X108.here hx rfl (pc0 := 58) (pc' := 62) rfl (hb hby at_58) (by decide) (by decide) ?_
        show Steps p.tables e below (T108.setTop (mkF m 62 #[.val (.long q1), .second, .val (.long q2), .second, .val (.long q3), .second, .val (.long (own_min q1 q2)), .second, .val (.long (own_max q1 q2)), .second, .val (.ref b105), .unset] [(.int (1 : Int32))])) _
        refine XS.istore X108.here hx rfl (hb hby at_62) rfl (l' := #[.val (.long q1), .second, .val (.long q2), .second, .val (.long q3), .second, .val (.long (own_min q1 q2)), .second, .val (.long (own_max q1 q2)), .second, .val (.ref b105), .val (.int (1 : Int32))]) rfl ?_
        show Steps p.tables e below (T108.setTop (mkF m 64 #[.val (.long q1), .second, .val (.long q2), .second, .val (.long q3), .second, .val (.long (own_min q1 q2)), .second, .val (.long (own_max q1 q2)), .second, .val (.ref b105), .val (.int (1 : Int32))] [])) _
        refine XS.aload X108.here hx rfl (hb hby at_64) rfl rfl ?_
        show Steps p.tables e below (T108.setTop (mkF m 66 #[.val (.long q1), .second, .val (.long q2), .second, .val (.long q3), .second, .val (.long (own_min q1 q2)), .second, .val (.long (own_max q1 q2)), .second, .val (.ref b105), .val (.int (1 : Int32))] [(.ref b105)])) _
        refine XS.lload X108.here hx rfl (hb hby at_66) rfl ?_
        show Steps p.tables e below (T108.setTop (mkF m 68 #[.val (.long q1), .second, .val (.long q2), .second, .val (.long q3), .second, .val (.long (own_min q1 q2)), .second, .val (.long (own_max q1 q2)), .second, .val (.ref b105), .val (.int (1 : Int32))] [(.long q3), (.ref b105)])) _
        refine st112.trans ?_
        show Steps p.tables e below (T112.setTop (mkF m 71 #[.val (.long q1), .second, .val (.long q2), .second, .val (.long q3), .second, .val (.long (own_min q1 q2)), .second, .val (.long (own_max q1 q2)), .second, .val (.ref b105), .val (.int (1 : Int32))] [(.int (1 : Int32))])) _
        refine XS.iload X112.here hx rfl (hb hby at_71) rfl ?_
        show Steps p.tables e below (T112.setTop (mkF m 73 #[.val (.long q1), .second, .val (.long q2), .second, .val (.long q3), .second, .val (.long (own_min q1 q2)), .second, .val (.long (own_max q1 q2)), .second, .val (.ref b105), .val (.int (1 : Int32))] [(.int (1 : Int32)), (.int (1 : Int32))])) _
        refine XS.icmpYes X112.here hx rfl (pc0 := 73) (pc' := 78) rfl (hb hby at_73) rfl (teq (by decide : (1 : Int32) = (1 : Int32))).1 (by decide) (by decide) ?_
        show Steps p.tables e below (T112.setTop (mkF m 78 #[.val (.long q1), .second, .val (.long q2), .second, .val (.long q3), .second, .val (.long (own_min q1 q2)), .second, .val (.long (own_max q1 q2)), .second, .val (.ref b105), .val (.int (1 : Int32))] [])) _
        refine XS.aload X112.here hx rfl (hb hby at_78) rfl rfl ?_
        show Steps p.tables e below (T112.setTop (mkF m 80 #[.val (.long q1), .second, .val (.long q2), .second, .val (.long q3), .second, .val (.long (own_min q1 q2)), .second, .val (.long (own_max q1 q2)), .second, .val (.ref b105), .val (.int (1 : Int32))] [(.ref b105)])) _
        refine XS.lload X112.here hx rfl (hb hby at_80) rfl ?_
        show Steps p.tables e below (T112.setTop (mkF m 82 #[.val (.long q1), .second, .val (.long q2), .second, .val (.long q3), .second, .val (.long (own_min q1 q2)), .second, .val (.long (own_max q1 q2)), .second, .val (.ref b105), .val (.int (1 : Int32))] [(.long (own_min q1 q2)), (.ref b105)])) _
        refine st113.trans ?_
        show Steps p.tables e below (T113.setTop (mkF m 85 #[.val (.long q1), .second, .val (.long q2), .second, .val (.long q3), .second, .val (.long (own_min q1 q2)), .second, .val (.long (own_max q1 q2)), .second, .val (.ref b105), .val (.int (1 : Int32))] [(.int (1 : Int32))])) _
        refine XS.ifYes X113.here hx rfl (pc0 := 85) (pc' := 90) rfl (hb hby at_85) rfl ((if0 _ _).trans (feq (by decide : ¬ ((1 : Int32) = (0 : Int32)))).2) (by decide) (by decide) ?_
        show Steps p.tables e below (T113.setTop (mkF m 90 #[.val (.long q1), .second, .val (.long q2), .second, .val (.long q3), .second, .val (.long (own_min q1 q2)), .second, .val (.long (own_max q1 q2)), .second, .val (.ref b105), .val (.int (1 : Int32))] [])) _
        refine XS.aload X113.here hx rfl (hb hby at_90) rfl rfl ?_
        show Steps p.tables e below (T113.setTop (mkF m 92 #[.val (.long q1), .second, .val (.long q2), .second, .val (.long q3), .second, .val (.long (own_min q1 q2)), .second, .val (.long (own_max q1 q2)), .second, .val (.ref b105), .val (.int (1 : Int32))] [(.ref b105)])) _
        refine XS.lload X113.here hx rfl (hb hby at_92) rfl ?_
        show Steps p.tables e below (T113.setTop (mkF m 94 #[.val (.long q1), .second, .val (.long q2), .second, .val (.long q3), .second, .val (.long (own_min q1 q2)), .second, .val (.long (own_max q1 q2)), .second, .val (.ref b105), .val (.int (1 : Int32))] [(.long (own_max q1 q2)), (.ref b105)])) _
        refine st114.trans ?_
        show Steps p.tables e below (T114.setTop (mkF m 97 #[.val (.long q1), .second, .val (.long q2), .second, .val (.long q3), .second, .val (.long (own_min q1 q2)), .second, .val (.long (own_max q1 q2)), .second, .val (.ref b105), .val (.int (1 : Int32))] [(.int (0 : Int32))])) _
        refine XS.ifYes X114.here hx rfl (pc0 := 97) (pc' := 102) rfl (hb hby at_97) rfl ((if0 _ _).trans (teq (by decide : (0 : Int32) = (0 : Int32))).1) (by decide) (by decide) ?_
        show Steps p.tables e below (T114.setTop (mkF m 102 #[.val (.long q1), .second, .val (.long q2), .second, .val (.long q3), .second, .val (.long (own_min q1 q2)), .second, .val (.long (own_max q1 q2)), .second, .val (.ref b105), .val (.int (1 : Int32))] [])) _
        refine XS.aload X114.here hx rfl (hb hby at_102) rfl rfl ?_
        show Steps p.tables e below (T114.setTop (mkF m 104 #[.val (.long q1), .second, .val (.long q2), .second, .val (.long q3), .second, .val (.long (own_min q1 q2)), .second, .val (.long (own_max q1 q2)), .second, .val (.ref b105), .val (.int (1 : Int32))] [(.ref b105)])) _
        refine XS.lload X114.here hx rfl (hb hby at_104) rfl ?_
        show Steps p.tables e below (T114.setTop (mkF m 106 #[.val (.long q1), .second, .val (.long q2), .second, .val (.long q3), .second, .val (.long (own_min q1 q2)), .second, .val (.long (own_max q1 q2)), .second, .val (.ref b105), .val (.int (1 : Int32))] [(.long (own_max q1 q2)), (.ref b105)])) _
        refine XS.lconst X114.here hx rfl (hb hby at_106) ?_
        show Steps p.tables e below (T114.setTop (mkF m 107 #[.val (.long q1), .second, .val (.long q2), .second, .val (.long q3), .second, .val (.long (own_min q1 q2)), .second, .val (.long (own_max q1 q2)), .second, .val (.ref b105), .val (.int (1 : Int32))] [(.long (1 : Int64)), (.long (own_max q1 q2)), (.ref b105)])) _
        refine XS.lsub X114.here hx rfl (hb hby at_107) rfl ?_
        show Steps p.tables e below (T114.setTop (mkF m 108 #[.val (.long q1), .second, .val (.long q2), .second, .val (.long q3), .second, .val (.long (own_min q1 q2)), .second, .val (.long (own_max q1 q2)), .second, .val (.ref b105), .val (.int (1 : Int32))] [(.long ((own_max q1 q2) - (1 : Int64))), (.ref b105)])) _
        refine st115.trans ?_
        show Steps p.tables e below (T115.setTop (mkF m 111 #[.val (.long q1), .second, .val (.long q2), .second, .val (.long q3), .second, .val (.long (own_min q1 q2)), .second, .val (.long (own_max q1 q2)), .second, .val (.ref b105), .val (.int (1 : Int32))] [(.int (1 : Int32))])) _
        refine XS.ifYes X115.here hx rfl (pc0 := 111) (pc' := 116) rfl (hb hby at_111) rfl ((if0 _ _).trans (feq (by decide : ¬ ((1 : Int32) = (0 : Int32)))).2) (by decide) (by decide) ?_
        show Steps p.tables e below (T115.setTop (mkF m 116 #[.val (.long q1), .second, .val (.long q2), .second, .val (.long q3), .second, .val (.long (own_min q1 q2)), .second, .val (.long (own_max q1 q2)), .second, .val (.ref b105), .val (.int (1 : Int32))] [])) _
        refine XS.lload X115.here hx rfl (hb hby at_116) rfl ?_
        show Steps p.tables e below (T115.setTop (mkF m 118 #[.val (.long q1), .second, .val (.long q2), .second, .val (.long q3), .second, .val (.long (own_min q1 q2)), .second, .val (.long (own_max q1 q2)), .second, .val (.ref b105), .val (.int (1 : Int32))] [(.long (own_min q1 q2))])) _
        refine X115.ldc2J hx hown (mvT hZ (hw _ (List.mem_of_getElem? (i := 25) rfl))) (g := (mkF m 118 #[.val (.long q1), .second, .val (.long q2), .second, .val (.long q3), .second, .val (.long (own_min q1 q2)), .second, .val (.long (own_max q1 q2)), .second, .val (.ref b105), .val (.int (1 : Int32))] [(.long (own_min q1 q2))])) rfl (hb hby at_118) ?_
        show Steps p.tables e below (T115.setTop (mkF m 121 #[.val (.long q1), .second, .val (.long q2), .second, .val (.long q3), .second, .val (.long (own_min q1 q2)), .second, .val (.long (own_max q1 q2)), .second, .val (.ref b105), .val (.int (1 : Int32))] [(.long (-9223372036854775808 : Int64)), (.long (own_min q1 q2))])) _
        refine XS.lcmp X115.here hx rfl (hb hby at_121) rfl ?_
        exact kt
      by_cases hc117 : (own_min q1 q2) = (-9223372036854775808 : Int64)
      · have pr118 : ∀ t, Steps p.tables e below (T115.setTop (mkF m 145 #[.val (.long q1), .second, .val (.long q2), .second, .val (.long q3), .second, .val (.long (own_min q1 q2)), .second, .val (.long (own_max q1 q2)), .second, .val (.ref b105), .val (.int (1 : Int32))] [(.int (lcmpW (own_max q1 q2) (9223372036854775807 : Int64)))])) t → Steps p.tables e below (s₁.setTop (mkF m 0 #[.val (.long q1), .second, .val (.long q2), .second, .val (.long q3), .second, .unset, .unset, .unset, .unset, .unset, .unset] [])) t := fun t kt => by
          refine pr116 _ ?_
          show Steps p.tables e below (T115.setTop (mkF m 122 #[.val (.long q1), .second, .val (.long q2), .second, .val (.long q3), .second, .val (.long (own_min q1 q2)), .second, .val (.long (own_max q1 q2)), .second, .val (.ref b105), .val (.int (1 : Int32))] [(.int (lcmpW (own_min q1 q2) (-9223372036854775808 : Int64)))])) _
          refine XS.ifYes X115.here hx rfl (pc0 := 122) (pc' := 139) rfl (hb hby at_122) rfl ((if0 _ _).trans (teq ((lw_eq _ _).mpr hc117)).1) (by decide) (by decide) ?_
          show Steps p.tables e below (T115.setTop (mkF m 139 #[.val (.long q1), .second, .val (.long q2), .second, .val (.long q3), .second, .val (.long (own_min q1 q2)), .second, .val (.long (own_max q1 q2)), .second, .val (.ref b105), .val (.int (1 : Int32))] [])) _
          refine XS.lload X115.here hx rfl (hb hby at_139) rfl ?_
          show Steps p.tables e below (T115.setTop (mkF m 141 #[.val (.long q1), .second, .val (.long q2), .second, .val (.long q3), .second, .val (.long (own_min q1 q2)), .second, .val (.long (own_max q1 q2)), .second, .val (.ref b105), .val (.int (1 : Int32))] [(.long (own_max q1 q2))])) _
          refine X115.ldc2J hx hown (mvT hZ (hw _ (List.mem_of_getElem? (i := 31) rfl))) (g := (mkF m 141 #[.val (.long q1), .second, .val (.long q2), .second, .val (.long q3), .second, .val (.long (own_min q1 q2)), .second, .val (.long (own_max q1 q2)), .second, .val (.ref b105), .val (.int (1 : Int32))] [(.long (own_max q1 q2))])) rfl (hb hby at_141) ?_
          show Steps p.tables e below (T115.setTop (mkF m 144 #[.val (.long q1), .second, .val (.long q2), .second, .val (.long q3), .second, .val (.long (own_min q1 q2)), .second, .val (.long (own_max q1 q2)), .second, .val (.ref b105), .val (.int (1 : Int32))] [(.long (9223372036854775807 : Int64)), (.long (own_max q1 q2))])) _
          refine XS.lcmp X115.here hx rfl (hb hby at_144) rfl ?_
          exact kt
        by_cases hc119 : (own_max q1 q2) = (9223372036854775807 : Int64)
        · obtain ⟨fs, hr, hrun, hended, hW, hsame⟩ := X115.leave (v := some (.int (1 : Int32))) (fun h => by rw [Bd.returns] at h; cases h) hlk
          refine ⟨_, _, pre0 _ ?_, hrun, hended, _, _, rfl, ?_, ⟨_, rfl⟩, hW, hsame.mono (by decide) (by decide)⟩
          · refine pr118 _ ?_
            show Steps p.tables e below (T115.setTop (mkF m 145 #[.val (.long q1), .second, .val (.long q2), .second, .val (.long q3), .second, .val (.long (own_min q1 q2)), .second, .val (.long (own_max q1 q2)), .second, .val (.ref b105), .val (.int (1 : Int32))] [(.int (lcmpW (own_max q1 q2) (9223372036854775807 : Int64)))])) _
            refine XS.ifYes X115.here hx rfl (pc0 := 145) (pc' := 162) rfl (hb hby at_145) rfl ((if0 _ _).trans (teq ((lw_eq _ _).mpr hc119)).1) (by decide) (by decide) ?_
            show Steps p.tables e below (T115.setTop (mkF m 162 #[.val (.long q1), .second, .val (.long q2), .second, .val (.long q3), .second, .val (.long (own_min q1 q2)), .second, .val (.long (own_max q1 q2)), .second, .val (.ref b105), .val (.int (1 : Int32))] [])) _
            refine XS.iconst X115.here hx rfl (hb hby at_162) ?_
            show Steps p.tables e below (T115.setTop (mkF m 163 #[.val (.long q1), .second, .val (.long q2), .second, .val (.long q3), .second, .val (.long (own_min q1 q2)), .second, .val (.long (own_max q1 q2)), .second, .val (.ref b105), .val (.int (1 : Int32))] [(.int (1 : Int32))])) _
            exact retN X115 hx (t := .boolean) Bd.returns (by simp) (hb hby at_163) hr
          · show Q0 Z q1 q2 q3 h0 n0 _ T115.heap _
            rw [P115_0]
            exact ⟨rfl, N115⟩
        · obtain ⟨cq120, kq120, q120a, q120b, q120c⟩ := isOf hZ P115_0 f109
          obtain ⟨_, _, ⟨T120, L120, k120, n120⟩, -, X120, ⟨Lc120, hQ120, l120, y120, z120⟩, st120⟩ := X115.virtualBack hx (y := (⟨"com/example/colver/colver/service/TimeRange", "contains", "(J)Z"⟩ : MethodName)) (z := (⟨"com/example/colver/colver/service/TimeRange", "contains", "(J)Z"⟩ : MethodName)) hown (mvT hZ (hw _ (List.mem_of_getElem? (i := 26) rfl))) (mvT hZ (hw _ (List.mem_of_getElem? (i := 27) rfl))) (notFace_of_selects (args := #[]) (mvT hZ (hw _ (List.mem_of_getElem? (i := 29) rfl)))) (mvT hZ (hw _ (List.mem_of_getElem? (i := 29) rfl))) (mvT hZ (hw _ (List.mem_of_getElem? (i := 28) rfl))) (by decide) (backOf (W := 0) (rm6 l Z a0 hw [] b105 ((own_max q1 q2) + (1 : Int64)) (own_min q1 q2) (own_max q1 q2) T108.heap n0 Zs108 P108_1 P108_2) hZ (hw _ (List.mem_of_getElem? (i := 30) rfl)) (hw _ (List.mem_of_getElem? (i := 9) rfl)) (by decide) (by decide)) q120a q120c (g := (mkF m 154 #[.val (.long q1), .second, .val (.long q2), .second, .val (.long q3), .second, .val (.long (own_min q1 q2)), .second, .val (.long (own_max q1 q2)), .second, .val (.ref b105), .val (.int (1 : Int32))] [(.long ((own_max q1 q2) + (1 : Int64))), (.ref b105)])) rfl (by rw [hml]; rfl) (Steps.refl _) (argsL := [(.long ((own_max q1 q2) + (1 : Int64)))]) (rest := []) (lenOf pd_3 rfl) rfl (by show 2 * 0 + _ ≤ _; exact Nat.le_of_eq rfl) (hb hby at_154) (fun _ _ => ⟨rfl, P115_0, (by decide : 1 + 0 ≤ _), (by decide : 2 + 0 ≤ _)⟩)
          dsimp only [Pt.U, Pt.locs, Pt.cells, Pt.slots] at X120 l120 y120 z120 st120 hQ120
          subst l120 y120 z120
          obtain ⟨hv120, N120q, P120_0⟩ := hQ120
          obtain rfl := hv120.trans (congrArg (fun z => some (Value.int z)) (own_e2 hc119 : (own_in ((own_max q1 q2) + (1 : Int64)) (own_min q1 q2) (own_max q1 q2)) = (0 : Int32)))
          have N120 := Fr.app N115 N120q
          obtain ⟨fs, hr, hrun, hended, hW, hsame⟩ := X120.leave (v := some (.int (1 : Int32))) (fun h => by rw [Bd.returns] at h; cases h) hlk
          refine ⟨_, _, pre0 _ ?_, hrun, hended, _, _, rfl, ?_, ⟨_, rfl⟩, hW, hsame.mono (by decide) (by decide)⟩
          · refine pr118 _ ?_
            show Steps p.tables e below (T115.setTop (mkF m 145 #[.val (.long q1), .second, .val (.long q2), .second, .val (.long q3), .second, .val (.long (own_min q1 q2)), .second, .val (.long (own_max q1 q2)), .second, .val (.ref b105), .val (.int (1 : Int32))] [(.int (lcmpW (own_max q1 q2) (9223372036854775807 : Int64)))])) _
            refine XS.ifNo X115.here hx rfl (hb hby at_145) rfl ((if0 _ _).trans (feq (fun q => hc119 ((lw_eq _ _).mp q))).1) ?_
            show Steps p.tables e below (T115.setTop (mkF m 148 #[.val (.long q1), .second, .val (.long q2), .second, .val (.long q3), .second, .val (.long (own_min q1 q2)), .second, .val (.long (own_max q1 q2)), .second, .val (.ref b105), .val (.int (1 : Int32))] [])) _
            refine XS.aload X115.here hx rfl (hb hby at_148) rfl rfl ?_
            show Steps p.tables e below (T115.setTop (mkF m 150 #[.val (.long q1), .second, .val (.long q2), .second, .val (.long q3), .second, .val (.long (own_min q1 q2)), .second, .val (.long (own_max q1 q2)), .second, .val (.ref b105), .val (.int (1 : Int32))] [(.ref b105)])) _
            refine XS.lload X115.here hx rfl (hb hby at_150) rfl ?_
            show Steps p.tables e below (T115.setTop (mkF m 152 #[.val (.long q1), .second, .val (.long q2), .second, .val (.long q3), .second, .val (.long (own_min q1 q2)), .second, .val (.long (own_max q1 q2)), .second, .val (.ref b105), .val (.int (1 : Int32))] [(.long (own_max q1 q2)), (.ref b105)])) _
            refine XS.lconst X115.here hx rfl (hb hby at_152) ?_
            show Steps p.tables e below (T115.setTop (mkF m 153 #[.val (.long q1), .second, .val (.long q2), .second, .val (.long q3), .second, .val (.long (own_min q1 q2)), .second, .val (.long (own_max q1 q2)), .second, .val (.ref b105), .val (.int (1 : Int32))] [(.long (1 : Int64)), (.long (own_max q1 q2)), (.ref b105)])) _
            refine XS.ladd X115.here hx rfl (hb hby at_153) rfl ?_
            show Steps p.tables e below (T115.setTop (mkF m 154 #[.val (.long q1), .second, .val (.long q2), .second, .val (.long q3), .second, .val (.long (own_min q1 q2)), .second, .val (.long (own_max q1 q2)), .second, .val (.ref b105), .val (.int (1 : Int32))] [(.long ((own_max q1 q2) + (1 : Int64))), (.ref b105)])) _
            refine st120.trans ?_
            show Steps p.tables e below (T120.setTop (mkF m 157 #[.val (.long q1), .second, .val (.long q2), .second, .val (.long q3), .second, .val (.long (own_min q1 q2)), .second, .val (.long (own_max q1 q2)), .second, .val (.ref b105), .val (.int (1 : Int32))] [(.int (0 : Int32))])) _
            refine XS.ifYes X120.here hx rfl (pc0 := 157) (pc' := 162) rfl (hb hby at_157) rfl ((if0 _ _).trans (teq (by decide : (0 : Int32) = (0 : Int32))).1) (by decide) (by decide) ?_
            show Steps p.tables e below (T120.setTop (mkF m 162 #[.val (.long q1), .second, .val (.long q2), .second, .val (.long q3), .second, .val (.long (own_min q1 q2)), .second, .val (.long (own_max q1 q2)), .second, .val (.ref b105), .val (.int (1 : Int32))] [])) _
            refine XS.iconst X120.here hx rfl (hb hby at_162) ?_
            show Steps p.tables e below (T120.setTop (mkF m 163 #[.val (.long q1), .second, .val (.long q2), .second, .val (.long q3), .second, .val (.long (own_min q1 q2)), .second, .val (.long (own_max q1 q2)), .second, .val (.ref b105), .val (.int (1 : Int32))] [(.int (1 : Int32))])) _
            exact retN X120 hx (t := .boolean) Bd.returns (by simp) (hb hby at_163) hr
          · show Q0 Z q1 q2 q3 h0 n0 _ T120.heap _
            rw [P120_0]
            exact ⟨rfl, N120⟩
      · obtain ⟨cq121, kq121, q121a, q121b, q121c⟩ := isOf hZ P115_0 f109
        obtain ⟨_, _, ⟨T121, L121, k121, n121⟩, -, X121, ⟨Lc121, hQ121, l121, y121, z121⟩, st121⟩ := X115.virtualBack hx (y := (⟨"com/example/colver/colver/service/TimeRange", "contains", "(J)Z"⟩ : MethodName)) (z := (⟨"com/example/colver/colver/service/TimeRange", "contains", "(J)Z"⟩ : MethodName)) hown (mvT hZ (hw _ (List.mem_of_getElem? (i := 26) rfl))) (mvT hZ (hw _ (List.mem_of_getElem? (i := 27) rfl))) (notFace_of_selects (args := #[]) (mvT hZ (hw _ (List.mem_of_getElem? (i := 29) rfl)))) (mvT hZ (hw _ (List.mem_of_getElem? (i := 29) rfl))) (mvT hZ (hw _ (List.mem_of_getElem? (i := 28) rfl))) (by decide) (backOf (W := 0) (rm6 l Z a0 hw [] b105 ((own_min q1 q2) - (1 : Int64)) (own_min q1 q2) (own_max q1 q2) T108.heap n0 Zs108 P108_1 P108_2) hZ (hw _ (List.mem_of_getElem? (i := 30) rfl)) (hw _ (List.mem_of_getElem? (i := 9) rfl)) (by decide) (by decide)) q121a q121c (g := (mkF m 131 #[.val (.long q1), .second, .val (.long q2), .second, .val (.long q3), .second, .val (.long (own_min q1 q2)), .second, .val (.long (own_max q1 q2)), .second, .val (.ref b105), .val (.int (1 : Int32))] [(.long ((own_min q1 q2) - (1 : Int64))), (.ref b105)])) rfl (by rw [hml]; rfl) (Steps.refl _) (argsL := [(.long ((own_min q1 q2) - (1 : Int64)))]) (rest := []) (lenOf pd_3 rfl) rfl (by show 2 * 0 + _ ≤ _; exact Nat.le_of_eq rfl) (hb hby at_131) (fun _ _ => ⟨rfl, P115_0, (by decide : 1 + 0 ≤ _), (by decide : 2 + 0 ≤ _)⟩)
        dsimp only [Pt.U, Pt.locs, Pt.cells, Pt.slots] at X121 l121 y121 z121 st121 hQ121
        subst l121 y121 z121
        obtain ⟨hv121, N121q, P121_0⟩ := hQ121
        obtain rfl := hv121.trans (congrArg (fun z => some (Value.int z)) (own_s1 hc117 : (own_in ((own_min q1 q2) - (1 : Int64)) (own_min q1 q2) (own_max q1 q2)) = (0 : Int32)))
        have N121 := Fr.app N115 N121q
        have pr122 : ∀ t, Steps p.tables e below (T121.setTop (mkF m 145 #[.val (.long q1), .second, .val (.long q2), .second, .val (.long q3), .second, .val (.long (own_min q1 q2)), .second, .val (.long (own_max q1 q2)), .second, .val (.ref b105), .val (.int (1 : Int32))] [(.int (lcmpW (own_max q1 q2) (9223372036854775807 : Int64)))])) t → Steps p.tables e below (s₁.setTop (mkF m 0 #[.val (.long q1), .second, .val (.long q2), .second, .val (.long q3), .second, .unset, .unset, .unset, .unset, .unset, .unset] [])) t := fun t kt => by
          refine pr116 _ ?_
          show Steps p.tables e below (T115.setTop (mkF m 122 #[.val (.long q1), .second, .val (.long q2), .second, .val (.long q3), .second, .val (.long (own_min q1 q2)), .second, .val (.long (own_max q1 q2)), .second, .val (.ref b105), .val (.int (1 : Int32))] [(.int (lcmpW (own_min q1 q2) (-9223372036854775808 : Int64)))])) _
          refine XS.ifNo X115.here hx rfl (hb hby at_122) rfl ((if0 _ _).trans (feq (fun q => hc117 ((lw_eq _ _).mp q))).1) ?_
          show Steps p.tables e below (T115.setTop (mkF m 125 #[.val (.long q1), .second, .val (.long q2), .second, .val (.long q3), .second, .val (.long (own_min q1 q2)), .second, .val (.long (own_max q1 q2)), .second, .val (.ref b105), .val (.int (1 : Int32))] [])) _
          refine XS.aload X115.here hx rfl (hb hby at_125) rfl rfl ?_
          show Steps p.tables e below (T115.setTop (mkF m 127 #[.val (.long q1), .second, .val (.long q2), .second, .val (.long q3), .second, .val (.long (own_min q1 q2)), .second, .val (.long (own_max q1 q2)), .second, .val (.ref b105), .val (.int (1 : Int32))] [(.ref b105)])) _
          refine XS.lload X115.here hx rfl (hb hby at_127) rfl ?_
          show Steps p.tables e below (T115.setTop (mkF m 129 #[.val (.long q1), .second, .val (.long q2), .second, .val (.long q3), .second, .val (.long (own_min q1 q2)), .second, .val (.long (own_max q1 q2)), .second, .val (.ref b105), .val (.int (1 : Int32))] [(.long (own_min q1 q2)), (.ref b105)])) _
          refine XS.lconst X115.here hx rfl (hb hby at_129) ?_
          show Steps p.tables e below (T115.setTop (mkF m 130 #[.val (.long q1), .second, .val (.long q2), .second, .val (.long q3), .second, .val (.long (own_min q1 q2)), .second, .val (.long (own_max q1 q2)), .second, .val (.ref b105), .val (.int (1 : Int32))] [(.long (1 : Int64)), (.long (own_min q1 q2)), (.ref b105)])) _
          refine XS.lsub X115.here hx rfl (hb hby at_130) rfl ?_
          show Steps p.tables e below (T115.setTop (mkF m 131 #[.val (.long q1), .second, .val (.long q2), .second, .val (.long q3), .second, .val (.long (own_min q1 q2)), .second, .val (.long (own_max q1 q2)), .second, .val (.ref b105), .val (.int (1 : Int32))] [(.long ((own_min q1 q2) - (1 : Int64))), (.ref b105)])) _
          refine st121.trans ?_
          show Steps p.tables e below (T121.setTop (mkF m 134 #[.val (.long q1), .second, .val (.long q2), .second, .val (.long q3), .second, .val (.long (own_min q1 q2)), .second, .val (.long (own_max q1 q2)), .second, .val (.ref b105), .val (.int (1 : Int32))] [(.int (0 : Int32))])) _
          refine XS.ifYes X121.here hx rfl (pc0 := 134) (pc' := 139) rfl (hb hby at_134) rfl ((if0 _ _).trans (teq (by decide : (0 : Int32) = (0 : Int32))).1) (by decide) (by decide) ?_
          show Steps p.tables e below (T121.setTop (mkF m 139 #[.val (.long q1), .second, .val (.long q2), .second, .val (.long q3), .second, .val (.long (own_min q1 q2)), .second, .val (.long (own_max q1 q2)), .second, .val (.ref b105), .val (.int (1 : Int32))] [])) _
          refine XS.lload X121.here hx rfl (hb hby at_139) rfl ?_
          show Steps p.tables e below (T121.setTop (mkF m 141 #[.val (.long q1), .second, .val (.long q2), .second, .val (.long q3), .second, .val (.long (own_min q1 q2)), .second, .val (.long (own_max q1 q2)), .second, .val (.ref b105), .val (.int (1 : Int32))] [(.long (own_max q1 q2))])) _
          refine X121.ldc2J hx hown (mvT hZ (hw _ (List.mem_of_getElem? (i := 31) rfl))) (g := (mkF m 141 #[.val (.long q1), .second, .val (.long q2), .second, .val (.long q3), .second, .val (.long (own_min q1 q2)), .second, .val (.long (own_max q1 q2)), .second, .val (.ref b105), .val (.int (1 : Int32))] [(.long (own_max q1 q2))])) rfl (hb hby at_141) ?_
          show Steps p.tables e below (T121.setTop (mkF m 144 #[.val (.long q1), .second, .val (.long q2), .second, .val (.long q3), .second, .val (.long (own_min q1 q2)), .second, .val (.long (own_max q1 q2)), .second, .val (.ref b105), .val (.int (1 : Int32))] [(.long (9223372036854775807 : Int64)), (.long (own_max q1 q2))])) _
          refine XS.lcmp X121.here hx rfl (hb hby at_144) rfl ?_
          exact kt
        by_cases hc123 : (own_max q1 q2) = (9223372036854775807 : Int64)
        · obtain ⟨fs, hr, hrun, hended, hW, hsame⟩ := X121.leave (v := some (.int (1 : Int32))) (fun h => by rw [Bd.returns] at h; cases h) hlk
          refine ⟨_, _, pre0 _ ?_, hrun, hended, _, _, rfl, ?_, ⟨_, rfl⟩, hW, hsame.mono (by decide) (by decide)⟩
          · refine pr122 _ ?_
            show Steps p.tables e below (T121.setTop (mkF m 145 #[.val (.long q1), .second, .val (.long q2), .second, .val (.long q3), .second, .val (.long (own_min q1 q2)), .second, .val (.long (own_max q1 q2)), .second, .val (.ref b105), .val (.int (1 : Int32))] [(.int (lcmpW (own_max q1 q2) (9223372036854775807 : Int64)))])) _
            refine XS.ifYes X121.here hx rfl (pc0 := 145) (pc' := 162) rfl (hb hby at_145) rfl ((if0 _ _).trans (teq ((lw_eq _ _).mpr hc123)).1) (by decide) (by decide) ?_
            show Steps p.tables e below (T121.setTop (mkF m 162 #[.val (.long q1), .second, .val (.long q2), .second, .val (.long q3), .second, .val (.long (own_min q1 q2)), .second, .val (.long (own_max q1 q2)), .second, .val (.ref b105), .val (.int (1 : Int32))] [])) _
            refine XS.iconst X121.here hx rfl (hb hby at_162) ?_
            show Steps p.tables e below (T121.setTop (mkF m 163 #[.val (.long q1), .second, .val (.long q2), .second, .val (.long q3), .second, .val (.long (own_min q1 q2)), .second, .val (.long (own_max q1 q2)), .second, .val (.ref b105), .val (.int (1 : Int32))] [(.int (1 : Int32))])) _
            exact retN X121 hx (t := .boolean) Bd.returns (by simp) (hb hby at_163) hr
          · show Q0 Z q1 q2 q3 h0 n0 _ T121.heap _
            rw [P121_0]
            exact ⟨rfl, N121⟩
        · obtain ⟨cq124, kq124, q124a, q124b, q124c⟩ := isOf hZ P121_0 f109
          obtain ⟨_, _, ⟨T124, L124, k124, n124⟩, -, X124, ⟨Lc124, hQ124, l124, y124, z124⟩, st124⟩ := X121.virtualBack hx (y := (⟨"com/example/colver/colver/service/TimeRange", "contains", "(J)Z"⟩ : MethodName)) (z := (⟨"com/example/colver/colver/service/TimeRange", "contains", "(J)Z"⟩ : MethodName)) hown (mvT hZ (hw _ (List.mem_of_getElem? (i := 26) rfl))) (mvT hZ (hw _ (List.mem_of_getElem? (i := 27) rfl))) (notFace_of_selects (args := #[]) (mvT hZ (hw _ (List.mem_of_getElem? (i := 29) rfl)))) (mvT hZ (hw _ (List.mem_of_getElem? (i := 29) rfl))) (mvT hZ (hw _ (List.mem_of_getElem? (i := 28) rfl))) (by decide) (backOf (W := 0) (rm6 l Z a0 hw [] b105 ((own_max q1 q2) + (1 : Int64)) (own_min q1 q2) (own_max q1 q2) T108.heap n0 Zs108 P108_1 P108_2) hZ (hw _ (List.mem_of_getElem? (i := 30) rfl)) (hw _ (List.mem_of_getElem? (i := 9) rfl)) (by decide) (by decide)) q124a q124c (g := (mkF m 154 #[.val (.long q1), .second, .val (.long q2), .second, .val (.long q3), .second, .val (.long (own_min q1 q2)), .second, .val (.long (own_max q1 q2)), .second, .val (.ref b105), .val (.int (1 : Int32))] [(.long ((own_max q1 q2) + (1 : Int64))), (.ref b105)])) rfl (by rw [hml]; rfl) (Steps.refl _) (argsL := [(.long ((own_max q1 q2) + (1 : Int64)))]) (rest := []) (lenOf pd_3 rfl) rfl (by show 2 * 0 + _ ≤ _; exact Nat.le_of_eq rfl) (hb hby at_154) (fun _ _ => ⟨rfl, P121_0, (by decide : 1 + 0 ≤ _), (by decide : 2 + 0 ≤ _)⟩)
          dsimp only [Pt.U, Pt.locs, Pt.cells, Pt.slots] at X124 l124 y124 z124 st124 hQ124
          subst l124 y124 z124
          obtain ⟨hv124, N124q, P124_0⟩ := hQ124
          obtain rfl := hv124.trans (congrArg (fun z => some (Value.int z)) (own_e2 hc123 : (own_in ((own_max q1 q2) + (1 : Int64)) (own_min q1 q2) (own_max q1 q2)) = (0 : Int32)))
          have N124 := Fr.app N121 N124q
          obtain ⟨fs, hr, hrun, hended, hW, hsame⟩ := X124.leave (v := some (.int (1 : Int32))) (fun h => by rw [Bd.returns] at h; cases h) hlk
          refine ⟨_, _, pre0 _ ?_, hrun, hended, _, _, rfl, ?_, ⟨_, rfl⟩, hW, hsame.mono (by decide) (by decide)⟩
          · refine pr122 _ ?_
            show Steps p.tables e below (T121.setTop (mkF m 145 #[.val (.long q1), .second, .val (.long q2), .second, .val (.long q3), .second, .val (.long (own_min q1 q2)), .second, .val (.long (own_max q1 q2)), .second, .val (.ref b105), .val (.int (1 : Int32))] [(.int (lcmpW (own_max q1 q2) (9223372036854775807 : Int64)))])) _
            refine XS.ifNo X121.here hx rfl (hb hby at_145) rfl ((if0 _ _).trans (feq (fun q => hc123 ((lw_eq _ _).mp q))).1) ?_
            show Steps p.tables e below (T121.setTop (mkF m 148 #[.val (.long q1), .second, .val (.long q2), .second, .val (.long q3), .second, .val (.long (own_min q1 q2)), .second, .val (.long (own_max q1 q2)), .second, .val (.ref b105), .val (.int (1 : Int32))] [])) _
            refine XS.aload X121.here hx rfl (hb hby at_148) rfl rfl ?_
            show Steps p.tables e below (T121.setTop (mkF m 150 #[.val (.long q1), .second, .val (.long q2), .second, .val (.long q3), .second, .val (.long (own_min q1 q2)), .second, .val (.long (own_max q1 q2)), .second, .val (.ref b105), .val (.int (1 : Int32))] [(.ref b105)])) _
            refine XS.lload X121.here hx rfl (hb hby at_150) rfl ?_
            show Steps p.tables e below (T121.setTop (mkF m 152 #[.val (.long q1), .second, .val (.long q2), .second, .val (.long q3), .second, .val (.long (own_min q1 q2)), .second, .val (.long (own_max q1 q2)), .second, .val (.ref b105), .val (.int (1 : Int32))] [(.long (own_max q1 q2)), (.ref b105)])) _
            refine XS.lconst X121.here hx rfl (hb hby at_152) ?_
            show Steps p.tables e below (T121.setTop (mkF m 153 #[.val (.long q1), .second, .val (.long q2), .second, .val (.long q3), .second, .val (.long (own_min q1 q2)), .second, .val (.long (own_max q1 q2)), .second, .val (.ref b105), .val (.int (1 : Int32))] [(.long (1 : Int64)), (.long (own_max q1 q2)), (.ref b105)])) _
            refine XS.ladd X121.here hx rfl (hb hby at_153) rfl ?_
            show Steps p.tables e below (T121.setTop (mkF m 154 #[.val (.long q1), .second, .val (.long q2), .second, .val (.long q3), .second, .val (.long (own_min q1 q2)), .second, .val (.long (own_max q1 q2)), .second, .val (.ref b105), .val (.int (1 : Int32))] [(.long ((own_max q1 q2) + (1 : Int64))), (.ref b105)])) _
            refine st124.trans ?_
            show Steps p.tables e below (T124.setTop (mkF m 157 #[.val (.long q1), .second, .val (.long q2), .second, .val (.long q3), .second, .val (.long (own_min q1 q2)), .second, .val (.long (own_max q1 q2)), .second, .val (.ref b105), .val (.int (1 : Int32))] [(.int (0 : Int32))])) _
            refine XS.ifYes X124.here hx rfl (pc0 := 157) (pc' := 162) rfl (hb hby at_157) rfl ((if0 _ _).trans (teq (by decide : (0 : Int32) = (0 : Int32))).1) (by decide) (by decide) ?_
            show Steps p.tables e below (T124.setTop (mkF m 162 #[.val (.long q1), .second, .val (.long q2), .second, .val (.long q3), .second, .val (.long (own_min q1 q2)), .second, .val (.long (own_max q1 q2)), .second, .val (.ref b105), .val (.int (1 : Int32))] [])) _
            refine XS.iconst X124.here hx rfl (hb hby at_162) ?_
            show Steps p.tables e below (T124.setTop (mkF m 163 #[.val (.long q1), .second, .val (.long q2), .second, .val (.long q3), .second, .val (.long (own_min q1 q2)), .second, .val (.long (own_max q1 q2)), .second, .val (.ref b105), .val (.int (1 : Int32))] [(.int (1 : Int32))])) _
            exact retN X124 hx (t := .boolean) Bd.returns (by simp) (hb hby at_163) hr
          · show Q0 Z q1 q2 q3 h0 n0 _ T124.heap _
            rw [P124_0]
            exact ⟨rfl, N124⟩
    · obtain ⟨cq125, kq125, q125a, q125b, q125c⟩ := isOf hZ rfl f109
      obtain ⟨_, _, ⟨T125, L125, k125, n125⟩, -, X125, ⟨Lc125, hQ125, l125, y125, z125⟩, st125⟩ := X108.virtualBack hx (y := (⟨"com/example/colver/colver/service/TimeRange", "contains", "(J)Z"⟩ : MethodName)) (z := (⟨"com/example/colver/colver/service/TimeRange", "contains", "(J)Z"⟩ : MethodName)) hown (mvT hZ (hw _ (List.mem_of_getElem? (i := 26) rfl))) (mvT hZ (hw _ (List.mem_of_getElem? (i := 27) rfl))) (notFace_of_selects (args := #[]) (mvT hZ (hw _ (List.mem_of_getElem? (i := 29) rfl)))) (mvT hZ (hw _ (List.mem_of_getElem? (i := 29) rfl))) (mvT hZ (hw _ (List.mem_of_getElem? (i := 28) rfl))) (by decide) (backOf (W := 0) (rm6 l Z a0 hw [] b105 q3 (own_min q1 q2) (own_max q1 q2) T108.heap n0 Zs108 P108_1 P108_2) hZ (hw _ (List.mem_of_getElem? (i := 30) rfl)) (hw _ (List.mem_of_getElem? (i := 9) rfl)) (by decide) (by decide)) q125a q125c (g := (mkF m 68 #[.val (.long q1), .second, .val (.long q2), .second, .val (.long q3), .second, .val (.long (own_min q1 q2)), .second, .val (.long (own_max q1 q2)), .second, .val (.ref b105), .val (.int (0 : Int32))] [(.long q3), (.ref b105)])) rfl (by rw [hml]; rfl) (Steps.refl _) (argsL := [(.long q3)]) (rest := []) (lenOf pd_3 rfl) rfl (by show 2 * 0 + _ ≤ _; exact Nat.le_of_eq rfl) (hb hby at_68) (fun _ _ => ⟨rfl, rfl, (by decide : 1 + 0 ≤ _), (by decide : 2 + 0 ≤ _)⟩)
      dsimp only [Pt.U, Pt.locs, Pt.cells, Pt.slots] at X125 l125 y125 z125 st125 hQ125
      subst l125 y125 z125
      obtain ⟨hv125, N125q, P125_0⟩ := hQ125
      obtain rfl := hv125.trans (congrArg (fun z => some (Value.int z)) (own_refF (own_mm q1 q2 hne) hc111 : (own_in q3 (own_min q1 q2) (own_max q1 q2)) = (0 : Int32)))
      have N125 := Fr.app N108 N125q
      obtain ⟨cq126, kq126, q126a, q126b, q126c⟩ := isOf hZ P125_0 f109
      obtain ⟨_, _, ⟨T126, L126, k126, n126⟩, -, X126, ⟨Lc126, hQ126, l126, y126, z126⟩, st126⟩ := X125.virtualBack hx (y := (⟨"com/example/colver/colver/service/TimeRange", "contains", "(J)Z"⟩ : MethodName)) (z := (⟨"com/example/colver/colver/service/TimeRange", "contains", "(J)Z"⟩ : MethodName)) hown (mvT hZ (hw _ (List.mem_of_getElem? (i := 26) rfl))) (mvT hZ (hw _ (List.mem_of_getElem? (i := 27) rfl))) (notFace_of_selects (args := #[]) (mvT hZ (hw _ (List.mem_of_getElem? (i := 29) rfl)))) (mvT hZ (hw _ (List.mem_of_getElem? (i := 29) rfl))) (mvT hZ (hw _ (List.mem_of_getElem? (i := 28) rfl))) (by decide) (backOf (W := 0) (rm6 l Z a0 hw [] b105 (own_min q1 q2) (own_min q1 q2) (own_max q1 q2) T108.heap n0 Zs108 P108_1 P108_2) hZ (hw _ (List.mem_of_getElem? (i := 30) rfl)) (hw _ (List.mem_of_getElem? (i := 9) rfl)) (by decide) (by decide)) q126a q126c (g := (mkF m 82 #[.val (.long q1), .second, .val (.long q2), .second, .val (.long q3), .second, .val (.long (own_min q1 q2)), .second, .val (.long (own_max q1 q2)), .second, .val (.ref b105), .val (.int (0 : Int32))] [(.long (own_min q1 q2)), (.ref b105)])) rfl (by rw [hml]; rfl) (Steps.refl _) (argsL := [(.long (own_min q1 q2))]) (rest := []) (lenOf pd_3 rfl) rfl (by show 2 * 0 + _ ≤ _; exact Nat.le_of_eq rfl) (hb hby at_82) (fun _ _ => ⟨rfl, P125_0, (by decide : 1 + 0 ≤ _), (by decide : 2 + 0 ≤ _)⟩)
      dsimp only [Pt.U, Pt.locs, Pt.cells, Pt.slots] at X126 l126 y126 z126 st126 hQ126
      subst l126 y126 z126
      obtain ⟨hv126, N126q, P126_0⟩ := hQ126
      obtain rfl := hv126.trans (congrArg (fun z => some (Value.int z)) (own_s (own_mm q1 q2 hne) : (own_in (own_min q1 q2) (own_min q1 q2) (own_max q1 q2)) = (1 : Int32)))
      have N126 := Fr.app N125 N126q
      obtain ⟨cq127, kq127, q127a, q127b, q127c⟩ := isOf hZ P126_0 f109
      obtain ⟨_, _, ⟨T127, L127, k127, n127⟩, -, X127, ⟨Lc127, hQ127, l127, y127, z127⟩, st127⟩ := X126.virtualBack hx (y := (⟨"com/example/colver/colver/service/TimeRange", "contains", "(J)Z"⟩ : MethodName)) (z := (⟨"com/example/colver/colver/service/TimeRange", "contains", "(J)Z"⟩ : MethodName)) hown (mvT hZ (hw _ (List.mem_of_getElem? (i := 26) rfl))) (mvT hZ (hw _ (List.mem_of_getElem? (i := 27) rfl))) (notFace_of_selects (args := #[]) (mvT hZ (hw _ (List.mem_of_getElem? (i := 29) rfl)))) (mvT hZ (hw _ (List.mem_of_getElem? (i := 29) rfl))) (mvT hZ (hw _ (List.mem_of_getElem? (i := 28) rfl))) (by decide) (backOf (W := 0) (rm6 l Z a0 hw [] b105 (own_max q1 q2) (own_min q1 q2) (own_max q1 q2) T108.heap n0 Zs108 P108_1 P108_2) hZ (hw _ (List.mem_of_getElem? (i := 30) rfl)) (hw _ (List.mem_of_getElem? (i := 9) rfl)) (by decide) (by decide)) q127a q127c (g := (mkF m 94 #[.val (.long q1), .second, .val (.long q2), .second, .val (.long q3), .second, .val (.long (own_min q1 q2)), .second, .val (.long (own_max q1 q2)), .second, .val (.ref b105), .val (.int (0 : Int32))] [(.long (own_max q1 q2)), (.ref b105)])) rfl (by rw [hml]; rfl) (Steps.refl _) (argsL := [(.long (own_max q1 q2))]) (rest := []) (lenOf pd_3 rfl) rfl (by show 2 * 0 + _ ≤ _; exact Nat.le_of_eq rfl) (hb hby at_94) (fun _ _ => ⟨rfl, P126_0, (by decide : 1 + 0 ≤ _), (by decide : 2 + 0 ≤ _)⟩)
      dsimp only [Pt.U, Pt.locs, Pt.cells, Pt.slots] at X127 l127 y127 z127 st127 hQ127
      subst l127 y127 z127
      obtain ⟨hv127, N127q, P127_0⟩ := hQ127
      obtain rfl := hv127.trans (congrArg (fun z => some (Value.int z)) (own_e : (own_in (own_max q1 q2) (own_min q1 q2) (own_max q1 q2)) = (0 : Int32)))
      have N127 := Fr.app N126 N127q
      obtain ⟨cq128, kq128, q128a, q128b, q128c⟩ := isOf hZ P127_0 f109
      obtain ⟨_, _, ⟨T128, L128, k128, n128⟩, -, X128, ⟨Lc128, hQ128, l128, y128, z128⟩, st128⟩ := X127.virtualBack hx (y := (⟨"com/example/colver/colver/service/TimeRange", "contains", "(J)Z"⟩ : MethodName)) (z := (⟨"com/example/colver/colver/service/TimeRange", "contains", "(J)Z"⟩ : MethodName)) hown (mvT hZ (hw _ (List.mem_of_getElem? (i := 26) rfl))) (mvT hZ (hw _ (List.mem_of_getElem? (i := 27) rfl))) (notFace_of_selects (args := #[]) (mvT hZ (hw _ (List.mem_of_getElem? (i := 29) rfl)))) (mvT hZ (hw _ (List.mem_of_getElem? (i := 29) rfl))) (mvT hZ (hw _ (List.mem_of_getElem? (i := 28) rfl))) (by decide) (backOf (W := 0) (rm6 l Z a0 hw [] b105 ((own_max q1 q2) - (1 : Int64)) (own_min q1 q2) (own_max q1 q2) T108.heap n0 Zs108 P108_1 P108_2) hZ (hw _ (List.mem_of_getElem? (i := 30) rfl)) (hw _ (List.mem_of_getElem? (i := 9) rfl)) (by decide) (by decide)) q128a q128c (g := (mkF m 108 #[.val (.long q1), .second, .val (.long q2), .second, .val (.long q3), .second, .val (.long (own_min q1 q2)), .second, .val (.long (own_max q1 q2)), .second, .val (.ref b105), .val (.int (0 : Int32))] [(.long ((own_max q1 q2) - (1 : Int64))), (.ref b105)])) rfl (by rw [hml]; rfl) (Steps.refl _) (argsL := [(.long ((own_max q1 q2) - (1 : Int64)))]) (rest := []) (lenOf pd_3 rfl) rfl (by show 2 * 0 + _ ≤ _; exact Nat.le_of_eq rfl) (hb hby at_108) (fun _ _ => ⟨rfl, P127_0, (by decide : 1 + 0 ≤ _), (by decide : 2 + 0 ≤ _)⟩)
      dsimp only [Pt.U, Pt.locs, Pt.cells, Pt.slots] at X128 l128 y128 z128 st128 hQ128
      subst l128 y128 z128
      obtain ⟨hv128, N128q, P128_0⟩ := hQ128
      obtain rfl := hv128.trans (congrArg (fun z => some (Value.int z)) (own_e1 (own_mm q1 q2 hne) : (own_in ((own_max q1 q2) - (1 : Int64)) (own_min q1 q2) (own_max q1 q2)) = (1 : Int32)))
      have N128 := Fr.app N127 N128q
      have pr129 : ∀ t, Steps p.tables e below (T128.setTop (mkF m 122 #[.val (.long q1), .second, .val (.long q2), .second, .val (.long q3), .second, .val (.long (own_min q1 q2)), .second, .val (.long (own_max q1 q2)), .second, .val (.ref b105), .val (.int (0 : Int32))] [(.int (lcmpW (own_min q1 q2) (-9223372036854775808 : Int64)))])) t → Steps p.tables e below (s₁.setTop (mkF m 0 #[.val (.long q1), .second, .val (.long q2), .second, .val (.long q3), .second, .unset, .unset, .unset, .unset, .unset, .unset] [])) t := fun t kt => by
        refine pr110 _ ?_
        show Steps p.tables e below (T108.setTop (mkF m 54 #[.val (.long q1), .second, .val (.long q2), .second, .val (.long q3), .second, .val (.long (own_min q1 q2)), .second, .val (.long (own_max q1 q2)), .second, .val (.ref b105), .unset] [(.int (lcmpW ((q3 - (own_min q1 q2)) + (-9223372036854775808 : Int64)) (((own_max q1 q2) - (own_min q1 q2)) + (-9223372036854775808 : Int64))))])) _
        refine XS.ifYes X108.here hx rfl (pc0 := 54) (pc' := 61) rfl (hb hby at_54) rfl ((if0 _ _).trans (flt (fun q => hc111 ((lw_lt _ _).mp q))).2.1) (by decide) (by decide) ?_
        show Steps p.tables e below (T108.setTop (mkF m 61 #[.val (.long q1), .second, .val (.long q2), .second, .val (.long q3), .second, .val (.long (own_min q1 q2)), .second, .val (.long (own_max q1 q2)), .second, .val (.ref b105), .unset] [])) _
        refine XS.iconst X108.here hx rfl (hb hby at_61) ?_
        show Steps p.tables e below (T108.setTop (mkF m 62 #[.val (.long q1), .second, .val (.long q2), .second, .val (.long q3), .second, .val (.long (own_min q1 q2)), .second, .val (.long (own_max q1 q2)), .second, .val (.ref b105), .unset] [(.int (0 : Int32))])) _
        refine XS.istore X108.here hx rfl (hb hby at_62) rfl (l' := #[.val (.long q1), .second, .val (.long q2), .second, .val (.long q3), .second, .val (.long (own_min q1 q2)), .second, .val (.long (own_max q1 q2)), .second, .val (.ref b105), .val (.int (0 : Int32))]) rfl ?_
        show Steps p.tables e below (T108.setTop (mkF m 64 #[.val (.long q1), .second, .val (.long q2), .second, .val (.long q3), .second, .val (.long (own_min q1 q2)), .second, .val (.long (own_max q1 q2)), .second, .val (.ref b105), .val (.int (0 : Int32))] [])) _
        refine XS.aload X108.here hx rfl (hb hby at_64) rfl rfl ?_
        show Steps p.tables e below (T108.setTop (mkF m 66 #[.val (.long q1), .second, .val (.long q2), .second, .val (.long q3), .second, .val (.long (own_min q1 q2)), .second, .val (.long (own_max q1 q2)), .second, .val (.ref b105), .val (.int (0 : Int32))] [(.ref b105)])) _
        refine XS.lload X108.here hx rfl (hb hby at_66) rfl ?_
        show Steps p.tables e below (T108.setTop (mkF m 68 #[.val (.long q1), .second, .val (.long q2), .second, .val (.long q3), .second, .val (.long (own_min q1 q2)), .second, .val (.long (own_max q1 q2)), .second, .val (.ref b105), .val (.int (0 : Int32))] [(.long q3), (.ref b105)])) _
        refine st125.trans ?_
        show Steps p.tables e below (T125.setTop (mkF m 71 #[.val (.long q1), .second, .val (.long q2), .second, .val (.long q3), .second, .val (.long (own_min q1 q2)), .second, .val (.long (own_max q1 q2)), .second, .val (.ref b105), .val (.int (0 : Int32))] [(.int (0 : Int32))])) _
        refine XS.iload X125.here hx rfl (hb hby at_71) rfl ?_
        show Steps p.tables e below (T125.setTop (mkF m 73 #[.val (.long q1), .second, .val (.long q2), .second, .val (.long q3), .second, .val (.long (own_min q1 q2)), .second, .val (.long (own_max q1 q2)), .second, .val (.ref b105), .val (.int (0 : Int32))] [(.int (0 : Int32)), (.int (0 : Int32))])) _
        refine XS.icmpYes X125.here hx rfl (pc0 := 73) (pc' := 78) rfl (hb hby at_73) rfl (teq (by decide : (0 : Int32) = (0 : Int32))).1 (by decide) (by decide) ?_
        show Steps p.tables e below (T125.setTop (mkF m 78 #[.val (.long q1), .second, .val (.long q2), .second, .val (.long q3), .second, .val (.long (own_min q1 q2)), .second, .val (.long (own_max q1 q2)), .second, .val (.ref b105), .val (.int (0 : Int32))] [])) _
        refine XS.aload X125.here hx rfl (hb hby at_78) rfl rfl ?_
        show Steps p.tables e below (T125.setTop (mkF m 80 #[.val (.long q1), .second, .val (.long q2), .second, .val (.long q3), .second, .val (.long (own_min q1 q2)), .second, .val (.long (own_max q1 q2)), .second, .val (.ref b105), .val (.int (0 : Int32))] [(.ref b105)])) _
        refine XS.lload X125.here hx rfl (hb hby at_80) rfl ?_
        show Steps p.tables e below (T125.setTop (mkF m 82 #[.val (.long q1), .second, .val (.long q2), .second, .val (.long q3), .second, .val (.long (own_min q1 q2)), .second, .val (.long (own_max q1 q2)), .second, .val (.ref b105), .val (.int (0 : Int32))] [(.long (own_min q1 q2)), (.ref b105)])) _
        refine st126.trans ?_
        show Steps p.tables e below (T126.setTop (mkF m 85 #[.val (.long q1), .second, .val (.long q2), .second, .val (.long q3), .second, .val (.long (own_min q1 q2)), .second, .val (.long (own_max q1 q2)), .second, .val (.ref b105), .val (.int (0 : Int32))] [(.int (1 : Int32))])) _
        refine XS.ifYes X126.here hx rfl (pc0 := 85) (pc' := 90) rfl (hb hby at_85) rfl ((if0 _ _).trans (feq (by decide : ¬ ((1 : Int32) = (0 : Int32)))).2) (by decide) (by decide) ?_
        show Steps p.tables e below (T126.setTop (mkF m 90 #[.val (.long q1), .second, .val (.long q2), .second, .val (.long q3), .second, .val (.long (own_min q1 q2)), .second, .val (.long (own_max q1 q2)), .second, .val (.ref b105), .val (.int (0 : Int32))] [])) _
        refine XS.aload X126.here hx rfl (hb hby at_90) rfl rfl ?_
        show Steps p.tables e below (T126.setTop (mkF m 92 #[.val (.long q1), .second, .val (.long q2), .second, .val (.long q3), .second, .val (.long (own_min q1 q2)), .second, .val (.long (own_max q1 q2)), .second, .val (.ref b105), .val (.int (0 : Int32))] [(.ref b105)])) _
        refine XS.lload X126.here hx rfl (hb hby at_92) rfl ?_
        show Steps p.tables e below (T126.setTop (mkF m 94 #[.val (.long q1), .second, .val (.long q2), .second, .val (.long q3), .second, .val (.long (own_min q1 q2)), .second, .val (.long (own_max q1 q2)), .second, .val (.ref b105), .val (.int (0 : Int32))] [(.long (own_max q1 q2)), (.ref b105)])) _
        refine st127.trans ?_
        show Steps p.tables e below (T127.setTop (mkF m 97 #[.val (.long q1), .second, .val (.long q2), .second, .val (.long q3), .second, .val (.long (own_min q1 q2)), .second, .val (.long (own_max q1 q2)), .second, .val (.ref b105), .val (.int (0 : Int32))] [(.int (0 : Int32))])) _
        refine XS.ifYes X127.here hx rfl (pc0 := 97) (pc' := 102) rfl (hb hby at_97) rfl ((if0 _ _).trans (teq (by decide : (0 : Int32) = (0 : Int32))).1) (by decide) (by decide) ?_
        show Steps p.tables e below (T127.setTop (mkF m 102 #[.val (.long q1), .second, .val (.long q2), .second, .val (.long q3), .second, .val (.long (own_min q1 q2)), .second, .val (.long (own_max q1 q2)), .second, .val (.ref b105), .val (.int (0 : Int32))] [])) _
        refine XS.aload X127.here hx rfl (hb hby at_102) rfl rfl ?_
        show Steps p.tables e below (T127.setTop (mkF m 104 #[.val (.long q1), .second, .val (.long q2), .second, .val (.long q3), .second, .val (.long (own_min q1 q2)), .second, .val (.long (own_max q1 q2)), .second, .val (.ref b105), .val (.int (0 : Int32))] [(.ref b105)])) _
        refine XS.lload X127.here hx rfl (hb hby at_104) rfl ?_
        show Steps p.tables e below (T127.setTop (mkF m 106 #[.val (.long q1), .second, .val (.long q2), .second, .val (.long q3), .second, .val (.long (own_min q1 q2)), .second, .val (.long (own_max q1 q2)), .second, .val (.ref b105), .val (.int (0 : Int32))] [(.long (own_max q1 q2)), (.ref b105)])) _
        refine XS.lconst X127.here hx rfl (hb hby at_106) ?_
        show Steps p.tables e below (T127.setTop (mkF m 107 #[.val (.long q1), .second, .val (.long q2), .second, .val (.long q3), .second, .val (.long (own_min q1 q2)), .second, .val (.long (own_max q1 q2)), .second, .val (.ref b105), .val (.int (0 : Int32))] [(.long (1 : Int64)), (.long (own_max q1 q2)), (.ref b105)])) _
        refine XS.lsub X127.here hx rfl (hb hby at_107) rfl ?_
        show Steps p.tables e below (T127.setTop (mkF m 108 #[.val (.long q1), .second, .val (.long q2), .second, .val (.long q3), .second, .val (.long (own_min q1 q2)), .second, .val (.long (own_max q1 q2)), .second, .val (.ref b105), .val (.int (0 : Int32))] [(.long ((own_max q1 q2) - (1 : Int64))), (.ref b105)])) _
        refine st128.trans ?_
        show Steps p.tables e below (T128.setTop (mkF m 111 #[.val (.long q1), .second, .val (.long q2), .second, .val (.long q3), .second, .val (.long (own_min q1 q2)), .second, .val (.long (own_max q1 q2)), .second, .val (.ref b105), .val (.int (0 : Int32))] [(.int (1 : Int32))])) _
        refine XS.ifYes X128.here hx rfl (pc0 := 111) (pc' := 116) rfl (hb hby at_111) rfl ((if0 _ _).trans (feq (by decide : ¬ ((1 : Int32) = (0 : Int32)))).2) (by decide) (by decide) ?_
        show Steps p.tables e below (T128.setTop (mkF m 116 #[.val (.long q1), .second, .val (.long q2), .second, .val (.long q3), .second, .val (.long (own_min q1 q2)), .second, .val (.long (own_max q1 q2)), .second, .val (.ref b105), .val (.int (0 : Int32))] [])) _
        refine XS.lload X128.here hx rfl (hb hby at_116) rfl ?_
        show Steps p.tables e below (T128.setTop (mkF m 118 #[.val (.long q1), .second, .val (.long q2), .second, .val (.long q3), .second, .val (.long (own_min q1 q2)), .second, .val (.long (own_max q1 q2)), .second, .val (.ref b105), .val (.int (0 : Int32))] [(.long (own_min q1 q2))])) _
        refine X128.ldc2J hx hown (mvT hZ (hw _ (List.mem_of_getElem? (i := 25) rfl))) (g := (mkF m 118 #[.val (.long q1), .second, .val (.long q2), .second, .val (.long q3), .second, .val (.long (own_min q1 q2)), .second, .val (.long (own_max q1 q2)), .second, .val (.ref b105), .val (.int (0 : Int32))] [(.long (own_min q1 q2))])) rfl (hb hby at_118) ?_
        show Steps p.tables e below (T128.setTop (mkF m 121 #[.val (.long q1), .second, .val (.long q2), .second, .val (.long q3), .second, .val (.long (own_min q1 q2)), .second, .val (.long (own_max q1 q2)), .second, .val (.ref b105), .val (.int (0 : Int32))] [(.long (-9223372036854775808 : Int64)), (.long (own_min q1 q2))])) _
        refine XS.lcmp X128.here hx rfl (hb hby at_121) rfl ?_
        exact kt
      by_cases hc130 : (own_min q1 q2) = (-9223372036854775808 : Int64)
      · have pr131 : ∀ t, Steps p.tables e below (T128.setTop (mkF m 145 #[.val (.long q1), .second, .val (.long q2), .second, .val (.long q3), .second, .val (.long (own_min q1 q2)), .second, .val (.long (own_max q1 q2)), .second, .val (.ref b105), .val (.int (0 : Int32))] [(.int (lcmpW (own_max q1 q2) (9223372036854775807 : Int64)))])) t → Steps p.tables e below (s₁.setTop (mkF m 0 #[.val (.long q1), .second, .val (.long q2), .second, .val (.long q3), .second, .unset, .unset, .unset, .unset, .unset, .unset] [])) t := fun t kt => by
          refine pr129 _ ?_
          show Steps p.tables e below (T128.setTop (mkF m 122 #[.val (.long q1), .second, .val (.long q2), .second, .val (.long q3), .second, .val (.long (own_min q1 q2)), .second, .val (.long (own_max q1 q2)), .second, .val (.ref b105), .val (.int (0 : Int32))] [(.int (lcmpW (own_min q1 q2) (-9223372036854775808 : Int64)))])) _
          refine XS.ifYes X128.here hx rfl (pc0 := 122) (pc' := 139) rfl (hb hby at_122) rfl ((if0 _ _).trans (teq ((lw_eq _ _).mpr hc130)).1) (by decide) (by decide) ?_
          show Steps p.tables e below (T128.setTop (mkF m 139 #[.val (.long q1), .second, .val (.long q2), .second, .val (.long q3), .second, .val (.long (own_min q1 q2)), .second, .val (.long (own_max q1 q2)), .second, .val (.ref b105), .val (.int (0 : Int32))] [])) _
          refine XS.lload X128.here hx rfl (hb hby at_139) rfl ?_
          show Steps p.tables e below (T128.setTop (mkF m 141 #[.val (.long q1), .second, .val (.long q2), .second, .val (.long q3), .second, .val (.long (own_min q1 q2)), .second, .val (.long (own_max q1 q2)), .second, .val (.ref b105), .val (.int (0 : Int32))] [(.long (own_max q1 q2))])) _
          refine X128.ldc2J hx hown (mvT hZ (hw _ (List.mem_of_getElem? (i := 31) rfl))) (g := (mkF m 141 #[.val (.long q1), .second, .val (.long q2), .second, .val (.long q3), .second, .val (.long (own_min q1 q2)), .second, .val (.long (own_max q1 q2)), .second, .val (.ref b105), .val (.int (0 : Int32))] [(.long (own_max q1 q2))])) rfl (hb hby at_141) ?_
          show Steps p.tables e below (T128.setTop (mkF m 144 #[.val (.long q1), .second, .val (.long q2), .second, .val (.long q3), .second, .val (.long (own_min q1 q2)), .second, .val (.long (own_max q1 q2)), .second, .val (.ref b105), .val (.int (0 : Int32))] [(.long (9223372036854775807 : Int64)), (.long (own_max q1 q2))])) _
          refine XS.lcmp X128.here hx rfl (hb hby at_144) rfl ?_
          exact kt
        by_cases hc132 : (own_max q1 q2) = (9223372036854775807 : Int64)
        · obtain ⟨fs, hr, hrun, hended, hW, hsame⟩ := X128.leave (v := some (.int (1 : Int32))) (fun h => by rw [Bd.returns] at h; cases h) hlk
          refine ⟨_, _, pre0 _ ?_, hrun, hended, _, _, rfl, ?_, ⟨_, rfl⟩, hW, hsame.mono (by decide) (by decide)⟩
          · refine pr131 _ ?_
            show Steps p.tables e below (T128.setTop (mkF m 145 #[.val (.long q1), .second, .val (.long q2), .second, .val (.long q3), .second, .val (.long (own_min q1 q2)), .second, .val (.long (own_max q1 q2)), .second, .val (.ref b105), .val (.int (0 : Int32))] [(.int (lcmpW (own_max q1 q2) (9223372036854775807 : Int64)))])) _
            refine XS.ifYes X128.here hx rfl (pc0 := 145) (pc' := 162) rfl (hb hby at_145) rfl ((if0 _ _).trans (teq ((lw_eq _ _).mpr hc132)).1) (by decide) (by decide) ?_
            show Steps p.tables e below (T128.setTop (mkF m 162 #[.val (.long q1), .second, .val (.long q2), .second, .val (.long q3), .second, .val (.long (own_min q1 q2)), .second, .val (.long (own_max q1 q2)), .second, .val (.ref b105), .val (.int (0 : Int32))] [])) _
            refine XS.iconst X128.here hx rfl (hb hby at_162) ?_
            show Steps p.tables e below (T128.setTop (mkF m 163 #[.val (.long q1), .second, .val (.long q2), .second, .val (.long q3), .second, .val (.long (own_min q1 q2)), .second, .val (.long (own_max q1 q2)), .second, .val (.ref b105), .val (.int (0 : Int32))] [(.int (1 : Int32))])) _
            exact retN X128 hx (t := .boolean) Bd.returns (by simp) (hb hby at_163) hr
          · show Q0 Z q1 q2 q3 h0 n0 _ T128.heap _
            rw [P128_0]
            exact ⟨rfl, N128⟩
        · obtain ⟨cq133, kq133, q133a, q133b, q133c⟩ := isOf hZ P128_0 f109
          obtain ⟨_, _, ⟨T133, L133, k133, n133⟩, -, X133, ⟨Lc133, hQ133, l133, y133, z133⟩, st133⟩ := X128.virtualBack hx (y := (⟨"com/example/colver/colver/service/TimeRange", "contains", "(J)Z"⟩ : MethodName)) (z := (⟨"com/example/colver/colver/service/TimeRange", "contains", "(J)Z"⟩ : MethodName)) hown (mvT hZ (hw _ (List.mem_of_getElem? (i := 26) rfl))) (mvT hZ (hw _ (List.mem_of_getElem? (i := 27) rfl))) (notFace_of_selects (args := #[]) (mvT hZ (hw _ (List.mem_of_getElem? (i := 29) rfl)))) (mvT hZ (hw _ (List.mem_of_getElem? (i := 29) rfl))) (mvT hZ (hw _ (List.mem_of_getElem? (i := 28) rfl))) (by decide) (backOf (W := 0) (rm6 l Z a0 hw [] b105 ((own_max q1 q2) + (1 : Int64)) (own_min q1 q2) (own_max q1 q2) T108.heap n0 Zs108 P108_1 P108_2) hZ (hw _ (List.mem_of_getElem? (i := 30) rfl)) (hw _ (List.mem_of_getElem? (i := 9) rfl)) (by decide) (by decide)) q133a q133c (g := (mkF m 154 #[.val (.long q1), .second, .val (.long q2), .second, .val (.long q3), .second, .val (.long (own_min q1 q2)), .second, .val (.long (own_max q1 q2)), .second, .val (.ref b105), .val (.int (0 : Int32))] [(.long ((own_max q1 q2) + (1 : Int64))), (.ref b105)])) rfl (by rw [hml]; rfl) (Steps.refl _) (argsL := [(.long ((own_max q1 q2) + (1 : Int64)))]) (rest := []) (lenOf pd_3 rfl) rfl (by show 2 * 0 + _ ≤ _; exact Nat.le_of_eq rfl) (hb hby at_154) (fun _ _ => ⟨rfl, P128_0, (by decide : 1 + 0 ≤ _), (by decide : 2 + 0 ≤ _)⟩)
          dsimp only [Pt.U, Pt.locs, Pt.cells, Pt.slots] at X133 l133 y133 z133 st133 hQ133
          subst l133 y133 z133
          obtain ⟨hv133, N133q, P133_0⟩ := hQ133
          obtain rfl := hv133.trans (congrArg (fun z => some (Value.int z)) (own_e2 hc132 : (own_in ((own_max q1 q2) + (1 : Int64)) (own_min q1 q2) (own_max q1 q2)) = (0 : Int32)))
          have N133 := Fr.app N128 N133q
          obtain ⟨fs, hr, hrun, hended, hW, hsame⟩ := X133.leave (v := some (.int (1 : Int32))) (fun h => by rw [Bd.returns] at h; cases h) hlk
          refine ⟨_, _, pre0 _ ?_, hrun, hended, _, _, rfl, ?_, ⟨_, rfl⟩, hW, hsame.mono (by decide) (by decide)⟩
          · refine pr131 _ ?_
            show Steps p.tables e below (T128.setTop (mkF m 145 #[.val (.long q1), .second, .val (.long q2), .second, .val (.long q3), .second, .val (.long (own_min q1 q2)), .second, .val (.long (own_max q1 q2)), .second, .val (.ref b105), .val (.int (0 : Int32))] [(.int (lcmpW (own_max q1 q2) (9223372036854775807 : Int64)))])) _
            refine XS.ifNo X128.here hx rfl (hb hby at_145) rfl ((if0 _ _).trans (feq (fun q => hc132 ((lw_eq _ _).mp q))).1) ?_
            show Steps p.tables e below (T128.setTop (mkF m 148 #[.val (.long q1), .second, .val (.long q2), .second, .val (.long q3), .second, .val (.long (own_min q1 q2)), .second, .val (.long (own_max q1 q2)), .second, .val (.ref b105), .val (.int (0 : Int32))] [])) _
            refine XS.aload X128.here hx rfl (hb hby at_148) rfl rfl ?_
            show Steps p.tables e below (T128.setTop (mkF m 150 #[.val (.long q1), .second, .val (.long q2), .second, .val (.long q3), .second, .val (.long (own_min q1 q2)), .second, .val (.long (own_max q1 q2)), .second, .val (.ref b105), .val (.int (0 : Int32))] [(.ref b105)])) _
            refine XS.lload X128.here hx rfl (hb hby at_150) rfl ?_
            show Steps p.tables e below (T128.setTop (mkF m 152 #[.val (.long q1), .second, .val (.long q2), .second, .val (.long q3), .second, .val (.long (own_min q1 q2)), .second, .val (.long (own_max q1 q2)), .second, .val (.ref b105), .val (.int (0 : Int32))] [(.long (own_max q1 q2)), (.ref b105)])) _
            refine XS.lconst X128.here hx rfl (hb hby at_152) ?_
            show Steps p.tables e below (T128.setTop (mkF m 153 #[.val (.long q1), .second, .val (.long q2), .second, .val (.long q3), .second, .val (.long (own_min q1 q2)), .second, .val (.long (own_max q1 q2)), .second, .val (.ref b105), .val (.int (0 : Int32))] [(.long (1 : Int64)), (.long (own_max q1 q2)), (.ref b105)])) _
            refine XS.ladd X128.here hx rfl (hb hby at_153) rfl ?_
            show Steps p.tables e below (T128.setTop (mkF m 154 #[.val (.long q1), .second, .val (.long q2), .second, .val (.long q3), .second, .val (.long (own_min q1 q2)), .second, .val (.long (own_max q1 q2)), .second, .val (.ref b105), .val (.int (0 : Int32))] [(.long ((own_max q1 q2) + (1 : Int64))), (.ref b105)])) _
            refine st133.trans ?_
            show Steps p.tables e below (T133.setTop (mkF m 157 #[.val (.long q1), .second, .val (.long q2), .second, .val (.long q3), .second, .val (.long (own_min q1 q2)), .second, .val (.long (own_max q1 q2)), .second, .val (.ref b105), .val (.int (0 : Int32))] [(.int (0 : Int32))])) _
            refine XS.ifYes X133.here hx rfl (pc0 := 157) (pc' := 162) rfl (hb hby at_157) rfl ((if0 _ _).trans (teq (by decide : (0 : Int32) = (0 : Int32))).1) (by decide) (by decide) ?_
            show Steps p.tables e below (T133.setTop (mkF m 162 #[.val (.long q1), .second, .val (.long q2), .second, .val (.long q3), .second, .val (.long (own_min q1 q2)), .second, .val (.long (own_max q1 q2)), .second, .val (.ref b105), .val (.int (0 : Int32))] [])) _
            refine XS.iconst X133.here hx rfl (hb hby at_162) ?_
            show Steps p.tables e below (T133.setTop (mkF m 163 #[.val (.long q1), .second, .val (.long q2), .second, .val (.long q3), .second, .val (.long (own_min q1 q2)), .second, .val (.long (own_max q1 q2)), .second, .val (.ref b105), .val (.int (0 : Int32))] [(.int (1 : Int32))])) _
            exact retN X133 hx (t := .boolean) Bd.returns (by simp) (hb hby at_163) hr
          · show Q0 Z q1 q2 q3 h0 n0 _ T133.heap _
            rw [P133_0]
            exact ⟨rfl, N133⟩
      · obtain ⟨cq134, kq134, q134a, q134b, q134c⟩ := isOf hZ P128_0 f109
        obtain ⟨_, _, ⟨T134, L134, k134, n134⟩, -, X134, ⟨Lc134, hQ134, l134, y134, z134⟩, st134⟩ := X128.virtualBack hx (y := (⟨"com/example/colver/colver/service/TimeRange", "contains", "(J)Z"⟩ : MethodName)) (z := (⟨"com/example/colver/colver/service/TimeRange", "contains", "(J)Z"⟩ : MethodName)) hown (mvT hZ (hw _ (List.mem_of_getElem? (i := 26) rfl))) (mvT hZ (hw _ (List.mem_of_getElem? (i := 27) rfl))) (notFace_of_selects (args := #[]) (mvT hZ (hw _ (List.mem_of_getElem? (i := 29) rfl)))) (mvT hZ (hw _ (List.mem_of_getElem? (i := 29) rfl))) (mvT hZ (hw _ (List.mem_of_getElem? (i := 28) rfl))) (by decide) (backOf (W := 0) (rm6 l Z a0 hw [] b105 ((own_min q1 q2) - (1 : Int64)) (own_min q1 q2) (own_max q1 q2) T108.heap n0 Zs108 P108_1 P108_2) hZ (hw _ (List.mem_of_getElem? (i := 30) rfl)) (hw _ (List.mem_of_getElem? (i := 9) rfl)) (by decide) (by decide)) q134a q134c (g := (mkF m 131 #[.val (.long q1), .second, .val (.long q2), .second, .val (.long q3), .second, .val (.long (own_min q1 q2)), .second, .val (.long (own_max q1 q2)), .second, .val (.ref b105), .val (.int (0 : Int32))] [(.long ((own_min q1 q2) - (1 : Int64))), (.ref b105)])) rfl (by rw [hml]; rfl) (Steps.refl _) (argsL := [(.long ((own_min q1 q2) - (1 : Int64)))]) (rest := []) (lenOf pd_3 rfl) rfl (by show 2 * 0 + _ ≤ _; exact Nat.le_of_eq rfl) (hb hby at_131) (fun _ _ => ⟨rfl, P128_0, (by decide : 1 + 0 ≤ _), (by decide : 2 + 0 ≤ _)⟩)
        dsimp only [Pt.U, Pt.locs, Pt.cells, Pt.slots] at X134 l134 y134 z134 st134 hQ134
        subst l134 y134 z134
        obtain ⟨hv134, N134q, P134_0⟩ := hQ134
        obtain rfl := hv134.trans (congrArg (fun z => some (Value.int z)) (own_s1 hc130 : (own_in ((own_min q1 q2) - (1 : Int64)) (own_min q1 q2) (own_max q1 q2)) = (0 : Int32)))
        have N134 := Fr.app N128 N134q
        have pr135 : ∀ t, Steps p.tables e below (T134.setTop (mkF m 145 #[.val (.long q1), .second, .val (.long q2), .second, .val (.long q3), .second, .val (.long (own_min q1 q2)), .second, .val (.long (own_max q1 q2)), .second, .val (.ref b105), .val (.int (0 : Int32))] [(.int (lcmpW (own_max q1 q2) (9223372036854775807 : Int64)))])) t → Steps p.tables e below (s₁.setTop (mkF m 0 #[.val (.long q1), .second, .val (.long q2), .second, .val (.long q3), .second, .unset, .unset, .unset, .unset, .unset, .unset] [])) t := fun t kt => by
          refine pr129 _ ?_
          show Steps p.tables e below (T128.setTop (mkF m 122 #[.val (.long q1), .second, .val (.long q2), .second, .val (.long q3), .second, .val (.long (own_min q1 q2)), .second, .val (.long (own_max q1 q2)), .second, .val (.ref b105), .val (.int (0 : Int32))] [(.int (lcmpW (own_min q1 q2) (-9223372036854775808 : Int64)))])) _
          refine XS.ifNo X128.here hx rfl (hb hby at_122) rfl ((if0 _ _).trans (feq (fun q => hc130 ((lw_eq _ _).mp q))).1) ?_
          show Steps p.tables e below (T128.setTop (mkF m 125 #[.val (.long q1), .second, .val (.long q2), .second, .val (.long q3), .second, .val (.long (own_min q1 q2)), .second, .val (.long (own_max q1 q2)), .second, .val (.ref b105), .val (.int (0 : Int32))] [])) _
          refine XS.aload X128.here hx rfl (hb hby at_125) rfl rfl ?_
          show Steps p.tables e below (T128.setTop (mkF m 127 #[.val (.long q1), .second, .val (.long q2), .second, .val (.long q3), .second, .val (.long (own_min q1 q2)), .second, .val (.long (own_max q1 q2)), .second, .val (.ref b105), .val (.int (0 : Int32))] [(.ref b105)])) _
          refine XS.lload X128.here hx rfl (hb hby at_127) rfl ?_
          show Steps p.tables e below (T128.setTop (mkF m 129 #[.val (.long q1), .second, .val (.long q2), .second, .val (.long q3), .second, .val (.long (own_min q1 q2)), .second, .val (.long (own_max q1 q2)), .second, .val (.ref b105), .val (.int (0 : Int32))] [(.long (own_min q1 q2)), (.ref b105)])) _
          refine XS.lconst X128.here hx rfl (hb hby at_129) ?_
          show Steps p.tables e below (T128.setTop (mkF m 130 #[.val (.long q1), .second, .val (.long q2), .second, .val (.long q3), .second, .val (.long (own_min q1 q2)), .second, .val (.long (own_max q1 q2)), .second, .val (.ref b105), .val (.int (0 : Int32))] [(.long (1 : Int64)), (.long (own_min q1 q2)), (.ref b105)])) _
          refine XS.lsub X128.here hx rfl (hb hby at_130) rfl ?_
          show Steps p.tables e below (T128.setTop (mkF m 131 #[.val (.long q1), .second, .val (.long q2), .second, .val (.long q3), .second, .val (.long (own_min q1 q2)), .second, .val (.long (own_max q1 q2)), .second, .val (.ref b105), .val (.int (0 : Int32))] [(.long ((own_min q1 q2) - (1 : Int64))), (.ref b105)])) _
          refine st134.trans ?_
          show Steps p.tables e below (T134.setTop (mkF m 134 #[.val (.long q1), .second, .val (.long q2), .second, .val (.long q3), .second, .val (.long (own_min q1 q2)), .second, .val (.long (own_max q1 q2)), .second, .val (.ref b105), .val (.int (0 : Int32))] [(.int (0 : Int32))])) _
          refine XS.ifYes X134.here hx rfl (pc0 := 134) (pc' := 139) rfl (hb hby at_134) rfl ((if0 _ _).trans (teq (by decide : (0 : Int32) = (0 : Int32))).1) (by decide) (by decide) ?_
          show Steps p.tables e below (T134.setTop (mkF m 139 #[.val (.long q1), .second, .val (.long q2), .second, .val (.long q3), .second, .val (.long (own_min q1 q2)), .second, .val (.long (own_max q1 q2)), .second, .val (.ref b105), .val (.int (0 : Int32))] [])) _
          refine XS.lload X134.here hx rfl (hb hby at_139) rfl ?_
          show Steps p.tables e below (T134.setTop (mkF m 141 #[.val (.long q1), .second, .val (.long q2), .second, .val (.long q3), .second, .val (.long (own_min q1 q2)), .second, .val (.long (own_max q1 q2)), .second, .val (.ref b105), .val (.int (0 : Int32))] [(.long (own_max q1 q2))])) _
          refine X134.ldc2J hx hown (mvT hZ (hw _ (List.mem_of_getElem? (i := 31) rfl))) (g := (mkF m 141 #[.val (.long q1), .second, .val (.long q2), .second, .val (.long q3), .second, .val (.long (own_min q1 q2)), .second, .val (.long (own_max q1 q2)), .second, .val (.ref b105), .val (.int (0 : Int32))] [(.long (own_max q1 q2))])) rfl (hb hby at_141) ?_
          show Steps p.tables e below (T134.setTop (mkF m 144 #[.val (.long q1), .second, .val (.long q2), .second, .val (.long q3), .second, .val (.long (own_min q1 q2)), .second, .val (.long (own_max q1 q2)), .second, .val (.ref b105), .val (.int (0 : Int32))] [(.long (9223372036854775807 : Int64)), (.long (own_max q1 q2))])) _
          refine XS.lcmp X134.here hx rfl (hb hby at_144) rfl ?_
          exact kt
        by_cases hc136 : (own_max q1 q2) = (9223372036854775807 : Int64)
        · obtain ⟨fs, hr, hrun, hended, hW, hsame⟩ := X134.leave (v := some (.int (1 : Int32))) (fun h => by rw [Bd.returns] at h; cases h) hlk
          refine ⟨_, _, pre0 _ ?_, hrun, hended, _, _, rfl, ?_, ⟨_, rfl⟩, hW, hsame.mono (by decide) (by decide)⟩
          · refine pr135 _ ?_
            show Steps p.tables e below (T134.setTop (mkF m 145 #[.val (.long q1), .second, .val (.long q2), .second, .val (.long q3), .second, .val (.long (own_min q1 q2)), .second, .val (.long (own_max q1 q2)), .second, .val (.ref b105), .val (.int (0 : Int32))] [(.int (lcmpW (own_max q1 q2) (9223372036854775807 : Int64)))])) _
            refine XS.ifYes X134.here hx rfl (pc0 := 145) (pc' := 162) rfl (hb hby at_145) rfl ((if0 _ _).trans (teq ((lw_eq _ _).mpr hc136)).1) (by decide) (by decide) ?_
            show Steps p.tables e below (T134.setTop (mkF m 162 #[.val (.long q1), .second, .val (.long q2), .second, .val (.long q3), .second, .val (.long (own_min q1 q2)), .second, .val (.long (own_max q1 q2)), .second, .val (.ref b105), .val (.int (0 : Int32))] [])) _
            refine XS.iconst X134.here hx rfl (hb hby at_162) ?_
            show Steps p.tables e below (T134.setTop (mkF m 163 #[.val (.long q1), .second, .val (.long q2), .second, .val (.long q3), .second, .val (.long (own_min q1 q2)), .second, .val (.long (own_max q1 q2)), .second, .val (.ref b105), .val (.int (0 : Int32))] [(.int (1 : Int32))])) _
            exact retN X134 hx (t := .boolean) Bd.returns (by simp) (hb hby at_163) hr
          · show Q0 Z q1 q2 q3 h0 n0 _ T134.heap _
            rw [P134_0]
            exact ⟨rfl, N134⟩
        · obtain ⟨cq137, kq137, q137a, q137b, q137c⟩ := isOf hZ P134_0 f109
          obtain ⟨_, _, ⟨T137, L137, k137, n137⟩, -, X137, ⟨Lc137, hQ137, l137, y137, z137⟩, st137⟩ := X134.virtualBack hx (y := (⟨"com/example/colver/colver/service/TimeRange", "contains", "(J)Z"⟩ : MethodName)) (z := (⟨"com/example/colver/colver/service/TimeRange", "contains", "(J)Z"⟩ : MethodName)) hown (mvT hZ (hw _ (List.mem_of_getElem? (i := 26) rfl))) (mvT hZ (hw _ (List.mem_of_getElem? (i := 27) rfl))) (notFace_of_selects (args := #[]) (mvT hZ (hw _ (List.mem_of_getElem? (i := 29) rfl)))) (mvT hZ (hw _ (List.mem_of_getElem? (i := 29) rfl))) (mvT hZ (hw _ (List.mem_of_getElem? (i := 28) rfl))) (by decide) (backOf (W := 0) (rm6 l Z a0 hw [] b105 ((own_max q1 q2) + (1 : Int64)) (own_min q1 q2) (own_max q1 q2) T108.heap n0 Zs108 P108_1 P108_2) hZ (hw _ (List.mem_of_getElem? (i := 30) rfl)) (hw _ (List.mem_of_getElem? (i := 9) rfl)) (by decide) (by decide)) q137a q137c (g := (mkF m 154 #[.val (.long q1), .second, .val (.long q2), .second, .val (.long q3), .second, .val (.long (own_min q1 q2)), .second, .val (.long (own_max q1 q2)), .second, .val (.ref b105), .val (.int (0 : Int32))] [(.long ((own_max q1 q2) + (1 : Int64))), (.ref b105)])) rfl (by rw [hml]; rfl) (Steps.refl _) (argsL := [(.long ((own_max q1 q2) + (1 : Int64)))]) (rest := []) (lenOf pd_3 rfl) rfl (by show 2 * 0 + _ ≤ _; exact Nat.le_of_eq rfl) (hb hby at_154) (fun _ _ => ⟨rfl, P134_0, (by decide : 1 + 0 ≤ _), (by decide : 2 + 0 ≤ _)⟩)
          dsimp only [Pt.U, Pt.locs, Pt.cells, Pt.slots] at X137 l137 y137 z137 st137 hQ137
          subst l137 y137 z137
          obtain ⟨hv137, N137q, P137_0⟩ := hQ137
          obtain rfl := hv137.trans (congrArg (fun z => some (Value.int z)) (own_e2 hc136 : (own_in ((own_max q1 q2) + (1 : Int64)) (own_min q1 q2) (own_max q1 q2)) = (0 : Int32)))
          have N137 := Fr.app N134 N137q
          obtain ⟨fs, hr, hrun, hended, hW, hsame⟩ := X137.leave (v := some (.int (1 : Int32))) (fun h => by rw [Bd.returns] at h; cases h) hlk
          refine ⟨_, _, pre0 _ ?_, hrun, hended, _, _, rfl, ?_, ⟨_, rfl⟩, hW, hsame.mono (by decide) (by decide)⟩
          · refine pr135 _ ?_
            show Steps p.tables e below (T134.setTop (mkF m 145 #[.val (.long q1), .second, .val (.long q2), .second, .val (.long q3), .second, .val (.long (own_min q1 q2)), .second, .val (.long (own_max q1 q2)), .second, .val (.ref b105), .val (.int (0 : Int32))] [(.int (lcmpW (own_max q1 q2) (9223372036854775807 : Int64)))])) _
            refine XS.ifNo X134.here hx rfl (hb hby at_145) rfl ((if0 _ _).trans (feq (fun q => hc136 ((lw_eq _ _).mp q))).1) ?_
            show Steps p.tables e below (T134.setTop (mkF m 148 #[.val (.long q1), .second, .val (.long q2), .second, .val (.long q3), .second, .val (.long (own_min q1 q2)), .second, .val (.long (own_max q1 q2)), .second, .val (.ref b105), .val (.int (0 : Int32))] [])) _
            refine XS.aload X134.here hx rfl (hb hby at_148) rfl rfl ?_
            show Steps p.tables e below (T134.setTop (mkF m 150 #[.val (.long q1), .second, .val (.long q2), .second, .val (.long q3), .second, .val (.long (own_min q1 q2)), .second, .val (.long (own_max q1 q2)), .second, .val (.ref b105), .val (.int (0 : Int32))] [(.ref b105)])) _
            refine XS.lload X134.here hx rfl (hb hby at_150) rfl ?_
            show Steps p.tables e below (T134.setTop (mkF m 152 #[.val (.long q1), .second, .val (.long q2), .second, .val (.long q3), .second, .val (.long (own_min q1 q2)), .second, .val (.long (own_max q1 q2)), .second, .val (.ref b105), .val (.int (0 : Int32))] [(.long (own_max q1 q2)), (.ref b105)])) _
            refine XS.lconst X134.here hx rfl (hb hby at_152) ?_
            show Steps p.tables e below (T134.setTop (mkF m 153 #[.val (.long q1), .second, .val (.long q2), .second, .val (.long q3), .second, .val (.long (own_min q1 q2)), .second, .val (.long (own_max q1 q2)), .second, .val (.ref b105), .val (.int (0 : Int32))] [(.long (1 : Int64)), (.long (own_max q1 q2)), (.ref b105)])) _
            refine XS.ladd X134.here hx rfl (hb hby at_153) rfl ?_
            show Steps p.tables e below (T134.setTop (mkF m 154 #[.val (.long q1), .second, .val (.long q2), .second, .val (.long q3), .second, .val (.long (own_min q1 q2)), .second, .val (.long (own_max q1 q2)), .second, .val (.ref b105), .val (.int (0 : Int32))] [(.long ((own_max q1 q2) + (1 : Int64))), (.ref b105)])) _
            refine st137.trans ?_
            show Steps p.tables e below (T137.setTop (mkF m 157 #[.val (.long q1), .second, .val (.long q2), .second, .val (.long q3), .second, .val (.long (own_min q1 q2)), .second, .val (.long (own_max q1 q2)), .second, .val (.ref b105), .val (.int (0 : Int32))] [(.int (0 : Int32))])) _
            refine XS.ifYes X137.here hx rfl (pc0 := 157) (pc' := 162) rfl (hb hby at_157) rfl ((if0 _ _).trans (teq (by decide : (0 : Int32) = (0 : Int32))).1) (by decide) (by decide) ?_
            show Steps p.tables e below (T137.setTop (mkF m 162 #[.val (.long q1), .second, .val (.long q2), .second, .val (.long q3), .second, .val (.long (own_min q1 q2)), .second, .val (.long (own_max q1 q2)), .second, .val (.ref b105), .val (.int (0 : Int32))] [])) _
            refine XS.iconst X137.here hx rfl (hb hby at_162) ?_
            show Steps p.tables e below (T137.setTop (mkF m 163 #[.val (.long q1), .second, .val (.long q2), .second, .val (.long q3), .second, .val (.long (own_min q1 q2)), .second, .val (.long (own_max q1 q2)), .second, .val (.ref b105), .val (.int (0 : Int32))] [(.int (1 : Int32))])) _
            exact retN X137 hx (t := .boolean) Bd.returns (by simp) (hb hby at_163) hr
          · show Q0 Z q1 q2 q3 h0 n0 _ T137.heap _
            rw [P137_0]
            exact ⟨rfl, N137⟩
set_option maxRecDepth 65536 in
set_option maxHeartbeats 40000000 in
theorem comes_1 {Post : Tables → Env → Array Value → State → Outcome → State → Prop} (hpost : ∀ tb e args s v u, (limb_1_1.after args s (.returned v) u = true ∧ limb_1_2.after args s (.returned v) u = true ∧ True) → FrameEnd s (.returned v) u (Jvm.fieldLocs frame_1_writes args s ++ Jvm.arrayLocs frame_1_arrays args s ++ Jvm.staticLocs frame_1_statics s) 16 128 → Post tb e args s (.returned v) u) :
    ArmFor flags0 classFile x code maxLocals ret World_1 tables_1 room_1 Calls_1 rest_1 Pre_1 Post := by
  intro l hfl _ _ p e ha hc hk s m args below hf hA hF happ hP
  obtain ⟨hcalls, hrest, hpre⟩ := hP
  obtain ⟨-, -, -, hnamed, -, -, -, hat⟩ := (Spec.applies_iff hf).mp happ
  obtain ⟨hg, hn⟩ := and_e (Cond.before_iff.mp (show (Jvm.Cond.and given_1 narrow_1).before args s = true from hpre))
  obtain ⟨gg1, gg2⟩ := and_e hg
  obtain ⟨gg3, gg4⟩ := and_e gg2
  obtain ⟨gg5, gg6⟩ := and_e gg4
  obtain ⟨w0, w1, w2, rfl⟩ : ∃ w0 w1 w2 : Value, args = #[w0, w1, w2] := by
    have hs : args.size = 3 := by simpa [Cond.value, given_1] using gg1
    obtain ⟨L⟩ := args
    match L, hs with
    | [w0, w1, w2], _ => exact ⟨w0, w1, w2, rfl⟩
  have hw := fun d (hd : d ∈ tables_1) => atoms_spec (ws := Jvm.Cond.code x code maxLocals ret :: tables_1) hat d (List.mem_cons_of_mem _ hd)
  have hfit : Fit s := fun {y c} hc i hi => by
    obtain ⟨ha, rfl⟩ := Array.getElem?_eq_some_iff.mp hc
    have q := List.all_eq_true.mp ((Array.all_eq_true_iff_forall_mem.mp hF) _ (Array.getElem_mem ha)) i (List.mem_range.mpr hi)
    simpa [Array.getElem?_eq_getElem hi] using q
  obtain ⟨i0, ei0⟩ := isL_v gg3
  obtain rfl : w0 = (.long i0) := Option.some.inj ei0
  obtain ⟨i1, ei1⟩ := isL_v gg5
  obtain rfl : w1 = (.long i1) := Option.some.inj ei1
  obtain ⟨i2, ei2⟩ := isL_v gg6
  obtain rfl : w2 = (.long i2) := Option.some.inj ei2
  obtain ⟨n, o, h1, h2, h3, _, L, rfl, ⟨rfl, N⟩, hq⟩ := rm0 l s _ hw tables_1 i0 i1 i2  s.heap s.heap.size (Nat.le_refl _)  p e ha hc hk s m _ below hf ((Spec.applies_iff_loose hf).mp happ).1 ⟨rfl, State.Warmed39.refl s, rfl⟩ trivial
  refine ⟨n, _, h1, h2, h3, hpost _ _ _ _ _ _ ⟨Cond.after_iff.mpr rfl, Cond.after_iff.mpr (eq_i res_at (Term.int_eval (1)) rfl), trivial⟩ ⟨hq.1, hq.2.1, (hq.2.2.sift fun y hy => Or.inr (N y hy)).mono (by decide) (by decide)⟩⟩
theorem main_1_1 : Claimed_1_1 := comes_1 fun _ _ _ _ _ _ h hF => ⟨h.1, hF⟩
theorem main_1_2 : Claimed_1_2 := comes_1 fun _ _ _ _ _ _ h hF => ⟨h.2.1, hF⟩
end Jvm.Pilot.@@N@@
namespace Jvm.Pilot.@@N@@
open Jvm Jvm.ClassFile Sem Op Lib Jvm.Free Jvm.Stand Jvm.Pilot.@@N@@.Jvm.D
/-! MADE BY PROGRAM (witnessworld.py) out of the Statement's table words and the real class files: 11 classes; the members and pool entries that the words name. The judged class is class 1, her method 1. -/
namespace start1
open Jvm.ClassFile
def u (s : String) : CpInfo := .utf8 (stringToUtf16 s)
/-- a pool by its gaps: so many unusable entries, then the entry; so many at the end -/
def gap : Nat → List CpInfo → List CpInfo
  | 0, r => r
  | n + 1, r => .unusable :: gap n r
def poolList (es : List (Nat × CpInfo)) (last : Nat) : List CpInfo := es.foldr (fun e r => gap e.1 (e.2 :: r)) (gap last [])
def pool (es : List (Nat × CpInfo)) (last : Nat) : Array CpInfo := ⟨poolList es last⟩
def fileOf (pool : Array CpInfo) (this : Nat) (attrs : Array Attribute := #[]) (ms : Array MethodInfo := #[]) (fl : Nat := 33) (sup : Nat := 0) (ifs : Array Nat := #[]) (fds : Array FieldInfo := #[]) : ClassFile where
  minorVersion := 0
  majorVersion := 65
  constantPool := pool
  accessFlags := fl
  thisClass := this
  superClass := sup
  interfaces := ifs
  fields := fds
  methods := ms
  attributes := attrs
def plain (name : String) (sup : Option ClassId) : Class where
  name := name
  kind := .ordinary
  loader := none
  accessFlags := 33
  super := sup
  interfaces := #[]
  cf := none
  fields := #[]
  methods := #[]
  instanceTypes := #[]
  staticTypes := #[]
  resolved := #[]
  callSites := []
  init := .initialized
  statics := none
  mirror := none

def pool0 : Array CpInfo := pool [(5, u "<init>"), (0, u "()V"), (1, .class_ 10), (1, u "java/lang/Object")] 113

def k0c0 : Code := { maxStack := 0, maxLocals := 1, code := object_method_1_code, exceptionTable := #[], attributes := #[] }
def k0m0 : Method := { name := "<init>", desc := "()V", sig := { parameters := [], returnType := none }, accessFlags := 1, code := some k0c0 }
/-- java/lang/Object -/
def k0 : Class := { plain "java/lang/Object" none with
  accessFlags := 33
  interfaces := #[]
  cf := some (fileOf pool0 8 #[] #[{ accessFlags := 1, nameIndex := 5, descriptorIndex := 6, attributes := #[] }] 33 0 #[] #[])
  fields := #[]
  methods := #[k0m0]
  instanceTypes := #[]
  staticTypes := #[]
  resolved := Array.replicate 124 none
  statics := none }

def pool1 : Array CpInfo := pool [(2, .class_ 4), (1, u "java/lang/Object"), (0, u "<init>"), (0, u "()V"), (0, .methodref 8 9), (0, .class_ 10), (0, .nameAndType 11 12), (0, u "java/lang/Math"), (0, u "min"), (0, u "(JJ)J"), (0, .methodref 8 14), (0, .nameAndType 15 12), (0, u "max"), (0, .class_ 17), (0, u "com/example/colver/colver/service/TimeRange"), (0, .methodref 16 19), (0, .nameAndType 5 20), (0, u "(JJ)V"), (0, .class_ 22), (0, u "com/example/colver/colver/service/TimeRangeContainsPinLaw"), (0, .long 9223372036854775808), (1, .methodref 16 26), (0, .nameAndType 27 28), (0, u "contains"), (0, u "(J)Z"), (2, .long 9223372036854775807), (1, u "SIGN"), (0, u "J"), (3, u "law"), (0, u "(JJJ)Z")] 3

def k1m0 : Method := { name := "<init>", desc := "()V", sig := { parameters := [], returnType := none }, accessFlags := 1, code := none }
def k1c1 : Code := { maxStack := 6, maxLocals := 12, code := code, exceptionTable := #[], attributes := #[] }
def k1m1 : Method := { name := "law", desc := "(JJJ)Z", sig := { parameters := [.long, .long, .long], returnType := some .boolean }, accessFlags := 9, code := some k1c1 }
/-- com/example/colver/colver/service/TimeRangeContainsPinLaw -/
def k1 : Class := { plain "com/example/colver/colver/service/TimeRangeContainsPinLaw" (some 0) with
  accessFlags := 49
  interfaces := #[]
  cf := some (fileOf pool1 21 #[] #[{ accessFlags := 1, nameIndex := 5, descriptorIndex := 6, attributes := #[] }, { accessFlags := 9, nameIndex := 38, descriptorIndex := 39, attributes := #[] }] 49 2 #[] #[{ accessFlags := 26, nameIndex := 33, descriptorIndex := 34, attributes := #[] }])
  fields := #[{ name := "SIGN", type := .long, accessFlags := 26, slot := 0, constantValue := 0 }]
  methods := #[k1m0, k1m1]
  instanceTypes := #[]
  staticTypes := #[.long]
  resolved := Array.replicate 43 none
  statics := none }

def pool2 : Array CpInfo := pool [(1, .class_ 2), (0, u "java/lang/Math"), (1, .class_ 6), (1, u "java/lang/Object"), (0, u "<init>"), (0, u "()V"), (89, .class_ 100), (1, u "java/lang/Math$RandomNumberGeneratorHolder"), (20, u "(JJ)J"), (50, u "negativeZeroFloatBits"), (0, u "J"), (2, u "negativeZeroDoubleBits"), (21, u "max"), (2, u "min"), (43, u "$assertionsDisabled"), (0, u "Z"), (91, u "twoToTheDoubleScaleDown"), (0, u "D"), (4, u "twoToTheDoubleScaleUp"), (9, u "E"), (3, u "PI"), (2, u "TAU"), (2, u "DEGREES_TO_RADIANS"), (0, u "RADIANS_TO_DEGREES")] 94

def k2m0 : Method := { name := "<init>", desc := "()V", sig := { parameters := [], returnType := none }, accessFlags := 2, code := none }
def k2c1 : Code := { maxStack := 4, maxLocals := 4, code := jdk_29_method_66_code, exceptionTable := #[], attributes := #[] }
def k2m1 : Method := { name := "max", desc := "(JJ)J", sig := { parameters := [.long, .long], returnType := some .long }, accessFlags := 9, code := some k2c1 }
def k2c2 : Code := { maxStack := 4, maxLocals := 4, code := jdk_29_method_70_code, exceptionTable := #[], attributes := #[] }
def k2m2 : Method := { name := "min", desc := "(JJ)J", sig := { parameters := [.long, .long], returnType := some .long }, accessFlags := 9, code := some k2c2 }
/-- java/lang/Math -/
def k2 : Class := { plain "java/lang/Math" (some 0) with
  accessFlags := 49
  interfaces := #[]
  cf := some (fileOf pool2 1 #[.nestMembers #[98]] #[{ accessFlags := 2, nameIndex := 7, descriptorIndex := 8, attributes := #[] }, { accessFlags := 9, nameIndex := 198, descriptorIndex := 121, attributes := #[] }, { accessFlags := 9, nameIndex := 201, descriptorIndex := 121, attributes := #[] }] 49 4 #[] #[{ accessFlags := 25, nameIndex := 354, descriptorIndex := 339, attributes := #[] }, { accessFlags := 25, nameIndex := 358, descriptorIndex := 339, attributes := #[] }, { accessFlags := 25, nameIndex := 361, descriptorIndex := 339, attributes := #[] }, { accessFlags := 26, nameIndex := 364, descriptorIndex := 339, attributes := #[] }, { accessFlags := 26, nameIndex := 365, descriptorIndex := 339, attributes := #[] }, { accessFlags := 26, nameIndex := 172, descriptorIndex := 173, attributes := #[] }, { accessFlags := 26, nameIndex := 176, descriptorIndex := 173, attributes := #[] }, { accessFlags := 8, nameIndex := 344, descriptorIndex := 339, attributes := #[] }, { accessFlags := 8, nameIndex := 338, descriptorIndex := 339, attributes := #[] }, { accessFlags := 4120, nameIndex := 245, descriptorIndex := 246, attributes := #[] }])
  fields := #[{ name := "E", type := .double, accessFlags := 25, slot := 0, constantValue := 0 }, { name := "PI", type := .double, accessFlags := 25, slot := 1, constantValue := 0 }, { name := "TAU", type := .double, accessFlags := 25, slot := 2, constantValue := 0 }, { name := "DEGREES_TO_RADIANS", type := .double, accessFlags := 26, slot := 3, constantValue := 0 }, { name := "RADIANS_TO_DEGREES", type := .double, accessFlags := 26, slot := 4, constantValue := 0 }, { name := "negativeZeroFloatBits", type := .long, accessFlags := 26, slot := 5, constantValue := 0 }, { name := "negativeZeroDoubleBits", type := .long, accessFlags := 26, slot := 6, constantValue := 0 }, { name := "twoToTheDoubleScaleUp", type := .double, accessFlags := 8, slot := 7, constantValue := 0 }, { name := "twoToTheDoubleScaleDown", type := .double, accessFlags := 8, slot := 8, constantValue := 0 }, { name := "$assertionsDisabled", type := .boolean, accessFlags := 4120, slot := 9, constantValue := 0 }]
  methods := #[k2m0, k2m1, k2m2]
  instanceTypes := #[]
  staticTypes := #[.double, .double, .double, .double, .double, .long, .long, .double, .double, .boolean]
  resolved := Array.replicate 460 none
  statics := none }

def pool3 : Array CpInfo := pool [(1, .methodref 2 3), (0, .class_ 4), (0, .nameAndType 5 6), (0, u "java/lang/Object"), (0, u "<init>"), (0, u "()V"), (0, .class_ 8), (0, u "java/lang/Record")] 13

def k3c0 : Code := { maxStack := 1, maxLocals := 1, code := jdk_30_method_1_code, exceptionTable := #[], attributes := #[] }
def k3m0 : Method := { name := "<init>", desc := "()V", sig := { parameters := [], returnType := none }, accessFlags := 4, code := some k3c0 }
/-- java/lang/Record -/
def k3 : Class := { plain "java/lang/Record" (some 0) with
  accessFlags := 1057
  interfaces := #[]
  cf := some (fileOf pool3 7 #[] #[{ accessFlags := 4, nameIndex := 5, descriptorIndex := 6, attributes := #[] }] 1057 2 #[] #[])
  fields := #[]
  methods := #[k3m0]
  instanceTypes := #[]
  staticTypes := #[]
  resolved := Array.replicate 22 none
  statics := none }

def pool4 : Array CpInfo := pool [(1, .methodref 2 3), (0, .class_ 4), (0, .nameAndType 5 6), (0, u "java/lang/Record"), (0, u "<init>"), (0, u "()V"), (9, .fieldref 17 18), (0, .class_ 19), (0, .nameAndType 20 21), (0, u "com/example/colver/colver/service/TimeRange"), (0, u "start"), (0, u "J"), (0, .fieldref 17 23), (0, .nameAndType 24 21), (0, u "end"), (12, u "(JJ)V"), (4, u "contains"), (0, u "(J)Z")] 33

def k4c0 : Code := { maxStack := 6, maxLocals := 5, code := prog_54_method_1_code, exceptionTable := #[], attributes := #[] }
def k4m0 : Method := { name := "<init>", desc := "(JJ)V", sig := { parameters := [.long, .long], returnType := none }, accessFlags := 1, code := some k4c0 }
def k4c1 : Code := { maxStack := 4, maxLocals := 3, code := prog_54_method_2_code, exceptionTable := #[], attributes := #[] }
def k4m1 : Method := { name := "contains", desc := "(J)Z", sig := { parameters := [.long], returnType := some .boolean }, accessFlags := 1, code := some k4c1 }
/-- com/example/colver/colver/service/TimeRange -/
def k4 : Class := { plain "com/example/colver/colver/service/TimeRange" (some 3) with
  accessFlags := 49
  interfaces := #[]
  cf := some (fileOf pool4 17 #[] #[{ accessFlags := 1, nameIndex := 5, descriptorIndex := 37, attributes := #[] }, { accessFlags := 1, nameIndex := 42, descriptorIndex := 43, attributes := #[] }] 49 2 #[] #[{ accessFlags := 18, nameIndex := 20, descriptorIndex := 21, attributes := #[] }, { accessFlags := 18, nameIndex := 24, descriptorIndex := 21, attributes := #[] }])
  fields := #[{ name := "start", type := .long, accessFlags := 18, slot := 0, constantValue := 0 }, { name := "end", type := .long, accessFlags := 18, slot := 1, constantValue := 0 }]
  methods := #[k4m0, k4m1]
  instanceTypes := #[.long, .long]
  staticTypes := #[]
  resolved := Array.replicate 77 none
  statics := none }

def pool5 : Array CpInfo := pool [(1, u "java/lang/Cloneable"), (0, .class_ 1), (0, u "java/lang/Object"), (0, .class_ 3)] 3

/-- java/lang/Cloneable -/
def k5 : Class := { plain "java/lang/Cloneable" (some 0) with
  accessFlags := 1537
  interfaces := #[]
  cf := some (fileOf pool5 2 #[] #[] 1537 4 #[] #[])
  fields := #[]
  methods := #[]
  instanceTypes := #[]
  staticTypes := #[]
  resolved := Array.replicate 8 none
  statics := none }

def pool6 : Array CpInfo := pool [(1, u "java/io/Serializable"), (0, .class_ 1), (0, u "java/lang/Object"), (0, .class_ 3)] 3

/-- java/io/Serializable -/
def k6 : Class := { plain "java/io/Serializable" (some 0) with
  accessFlags := 1537
  interfaces := #[]
  cf := some (fileOf pool6 2 #[] #[] 1537 4 #[] #[])
  fields := #[]
  methods := #[]
  instanceTypes := #[]
  staticTypes := #[]
  resolved := Array.replicate 8 none
  statics := none }

/-- the primitive byte -/
def k7 : Class := { plain "byte" none with kind := .primitive 'B', accessFlags := 0x411 }
/-- [B -/
def k8 : Class := { plain "[B" (some 0) with kind := .array 7 .byte, interfaces := #[5, 6], accessFlags := 1041 }

/-- the primitive int -/
def k9 : Class := { plain "int" none with kind := .primitive 'I', accessFlags := 0x411 }
/-- [I -/
def k10 : Class := { plain "[I" (some 0) with kind := .array 9 .int, interfaces := #[5, 6], accessFlags := 1041 }

def heap : Heap := #[]
def classes : Array Class := #[k0, k1, k2, k3, k4, k5, k6, k7, k8, k9, k10]
def interned : List (Array UInt16 × Addr) := []
def slotsUsed : Nat := 0
def theMethod : MethodId := ⟨1, 1⟩
def args0 : Array Value := #[.long 5, .long 7, .long 3]
def aboutOver (below : List Frame) : State where
  vm := { classes := classes, interned := interned.toArray }
  heap := heap
  slotsUsed := slotsUsed
  threads := #[{ frames := .invoking theMethod args0 :: below }]
def below0 : List Frame := [.native { method := ⟨0, 0⟩, args := #[] }]
def about1 : State := aboutOver below0
def p0 : Program := .bare "" "" ""
def e0 : Env := launch0.env 0 0 0
theorem w_frames : about1.frames = Frame.invoking theMethod args0 :: below0 := rfl
set_option maxRecDepth 65536 in
theorem w_args : argsFit about1.vm theMethod args0 = true := by decide +kernel
set_option maxRecDepth 65536 in
theorem w_heap : heapFits about1 = true := by decide +kernel
set_option maxRecDepth 65536 in
theorem w_runnable : about1.curStatus? = some .runnable := by decide +kernel
set_option maxRecDepth 65536 in
theorem w_alone : about1.alone = true := by decide +kernel
set_option maxRecDepth 65536 in
theorem w_named : about1.methodNamed? x = some theMethod := by decide +kernel
set_option maxRecDepth 65536 in
theorem w_hears : about1.hears theMethod below0 = true := by decide +kernel
set_option maxRecDepth 65536 in
theorem w_ripe : about1.ripe theMethod args0 below0 = true := by decide +kernel
theorem w_running : about1.status = .running := rfl
set_option maxRecDepth 65536 in
theorem w_room : about1.hasRoom e0.platform room_1 = true :=
  launch0.hasRoom_least _ room_1 (by decide +kernel) (by decide +kernel) (by decide +kernel) (by decide +kernel) (by decide +kernel) (by decide +kernel)
theorem allAtoms_all (ts : List Jvm.Cond) (a : Array Jvm.Value) (st : Jvm.State) : (allAtoms ts).before a st = ts.all (fun c => c.before a st) := by
  induction ts with
  | nil => rfl
  | cons c t ih =>
    show (Jvm.Cond.and c (allAtoms t)).before a st = _
    rw [Jvm.Cond.before_and, ih, List.all_cons]
def words1 : List Jvm.Cond := Jvm.Cond.code x code maxLocals ret :: tables_1
/-- a 'code' word, met by the world's own term for the bytes: nothing is compared byte by byte -/
theorem code_word {y : MethodName} {bytes : ByteArray} {mx : Nat} {rt : Option FieldType} {a : Array Value} {s : State} {m : MethodId} {meth : Method} {c : Code} (h1 : s.methodNamed? y = some m) (h2 : s.vm.method? m = some meth) (h3 : meth.code = some c) (h4 : c.code = bytes)
    (h5 : (c.maxLocals == mx && c.exceptionTable.isEmpty && decide (c.maxStack ≤ mostOperands) && decide (meth.sig.returnType = rt) && !meth.locks && decide (parseMethodDescriptor y.desc = some meth.sig)) = true) : (Jvm.Cond.code y bytes mx rt).before a s = true := by
  simp only [Bool.and_eq_true, beq_iff_eq, Bool.not_eq_true', decide_eq_true_eq] at h5
  obtain ⟨⟨⟨⟨⟨g1, g2⟩, g3⟩, g4⟩, g5⟩, g6⟩ := h5
  simp [Cond.before, Cond.holds, Cond.value, h1, h2, h3, h4, g1, g2, g3, g4, g5, g6]
def isCode : Jvm.Cond → Bool
  | .code _ _ _ _ => true
  | _ => false
theorem all_split {L : List Jvm.Cond} {P : Jvm.Cond → Bool} (h1 : L.all (fun c => isCode c || P c) = true) (h2 : ∀ c ∈ L.filter isCode, P c = true) : L.all P = true := by
  refine List.all_eq_true.mpr fun c hc => ?_
  have h := List.all_eq_true.mp h1 c hc
  rcases Bool.eq_false_or_eq_true (isCode c) with hi | hi
  · exact h2 c (List.mem_filter.mpr ⟨hc, hi⟩)
  · simpa [hi] using h
set_option maxRecDepth 65536 in
theorem w_c0 : (Jvm.Cond.code x code maxLocals ret).before args0 about1 = true := code_word (m := ⟨1, 1⟩) (meth := k1m1) (c := k1c1) (by decide +kernel) rfl rfl rfl (by decide +kernel)
set_option maxRecDepth 65536 in
theorem w_c1 : (Jvm.Cond.code ({ cls := "java/lang/Math", name := "min", desc := "(JJ)J" } : Jvm.MethodName) jdk_29_method_70_code (4 : Nat) (Option.some Jvm.ClassFile.FieldType.long)).before args0 about1 = true := code_word (m := ⟨2, 2⟩) (meth := k2m2) (c := k2c2) (by decide +kernel) rfl rfl rfl (by decide +kernel)
set_option maxRecDepth 65536 in
theorem w_c2 : (Jvm.Cond.code ({ cls := "java/lang/Math", name := "max", desc := "(JJ)J" } : Jvm.MethodName) jdk_29_method_66_code (4 : Nat) (Option.some Jvm.ClassFile.FieldType.long)).before args0 about1 = true := code_word (m := ⟨2, 1⟩) (meth := k2m1) (c := k2c1) (by decide +kernel) rfl rfl rfl (by decide +kernel)
set_option maxRecDepth 65536 in
theorem w_c3 : (Jvm.Cond.code ({ cls := "com/example/colver/colver/service/TimeRange", name := "<init>", desc := "(JJ)V" } : Jvm.MethodName) prog_54_method_1_code (5 : Nat) (Option.none : Option Jvm.ClassFile.FieldType)).before args0 about1 = true := code_word (m := ⟨4, 0⟩) (meth := k4m0) (c := k4c0) (by decide +kernel) rfl rfl rfl (by decide +kernel)
set_option maxRecDepth 65536 in
theorem w_c4 : (Jvm.Cond.code ({ cls := "java/lang/Record", name := "<init>", desc := "()V" } : Jvm.MethodName) jdk_30_method_1_code (1 : Nat) (Option.none : Option Jvm.ClassFile.FieldType)).before args0 about1 = true := code_word (m := ⟨3, 0⟩) (meth := k3m0) (c := k3c0) (by decide +kernel) rfl rfl rfl (by decide +kernel)
set_option maxRecDepth 65536 in
theorem w_c5 : (Jvm.Cond.code ({ cls := "java/lang/Object", name := "<init>", desc := "()V" } : Jvm.MethodName) object_method_1_code (1 : Nat) (Option.none : Option Jvm.ClassFile.FieldType)).before args0 about1 = true := code_word (m := ⟨0, 0⟩) (meth := k0m0) (c := k0c0) (by decide +kernel) rfl rfl rfl (by decide +kernel)
set_option maxRecDepth 65536 in
theorem w_c6 : (Jvm.Cond.code ({ cls := "com/example/colver/colver/service/TimeRange", name := "contains", desc := "(J)Z" } : Jvm.MethodName) prog_54_method_2_code (3 : Nat) (Option.some Jvm.ClassFile.FieldType.boolean)).before args0 about1 = true := code_word (m := ⟨4, 1⟩) (meth := k4m1) (c := k4c1) (by decide +kernel) rfl rfl rfl (by decide +kernel)
def codes1 : List Jvm.Cond := [Jvm.Cond.code x code maxLocals ret, Jvm.Cond.code ({ cls := "java/lang/Math", name := "min", desc := "(JJ)J" } : Jvm.MethodName) jdk_29_method_70_code (4 : Nat) (Option.some Jvm.ClassFile.FieldType.long), Jvm.Cond.code ({ cls := "java/lang/Math", name := "max", desc := "(JJ)J" } : Jvm.MethodName) jdk_29_method_66_code (4 : Nat) (Option.some Jvm.ClassFile.FieldType.long), Jvm.Cond.code ({ cls := "com/example/colver/colver/service/TimeRange", name := "<init>", desc := "(JJ)V" } : Jvm.MethodName) prog_54_method_1_code (5 : Nat) (Option.none : Option Jvm.ClassFile.FieldType), Jvm.Cond.code ({ cls := "java/lang/Record", name := "<init>", desc := "()V" } : Jvm.MethodName) jdk_30_method_1_code (1 : Nat) (Option.none : Option Jvm.ClassFile.FieldType), Jvm.Cond.code ({ cls := "java/lang/Object", name := "<init>", desc := "()V" } : Jvm.MethodName) object_method_1_code (1 : Nat) (Option.none : Option Jvm.ClassFile.FieldType), Jvm.Cond.code ({ cls := "com/example/colver/colver/service/TimeRange", name := "contains", desc := "(J)Z" } : Jvm.MethodName) prog_54_method_2_code (3 : Nat) (Option.some Jvm.ClassFile.FieldType.boolean)]
set_option maxRecDepth 65536 in
theorem codes_eq : words1.filter isCode = codes1 := rfl
theorem w_codes : ∀ c ∈ words1.filter isCode, c.before args0 about1 = true := by
  rw [codes_eq]
  intro c hc
  simp only [codes1, List.mem_cons, List.not_mem_nil, or_false] at hc
  rcases hc with rfl | rfl | rfl | rfl | rfl | rfl | rfl
  · exact w_c0
  · exact w_c1
  · exact w_c2
  · exact w_c3
  · exact w_c4
  · exact w_c5
  · exact w_c6
set_option maxRecDepth 65536 in
theorem w_t1 : (words1.take 24).all (fun c => isCode c || c.before args0 about1) = true := by decide +kernel
set_option maxRecDepth 65536 in
theorem w_t2 : (words1.drop 24).all (fun c => isCode c || c.before args0 about1) = true := by decide +kernel
theorem w_tables : (allAtoms (Jvm.Cond.code x code maxLocals ret :: tables_1)).before args0 about1 = true := by
  rw [allAtoms_all]
  show words1.all (fun c => c.before args0 about1) = true
  refine all_split ?_ w_codes
  rw [← List.take_append_drop 24 words1, List.all_append, w_t1, w_t2]
  rfl
set_option maxRecDepth 65536 in
theorem w_case : (Jvm.Cond.and given_1 narrow_1).before args0 about1 = true := by decide +kernel
theorem w_applies : (headSpec (Jvm.Cond.code x code maxLocals ret :: tables_1) room_1).applies x e0.platform about1 = true :=
  (Spec.applies_iff w_frames).mpr ⟨w_running, w_runnable, w_alone, w_named, w_hears, w_ripe, w_room, w_tables⟩
theorem atStart : AtStart classFile x code maxLocals ret World_1 tables_1 room_1 Calls_1 rest_1 Pre_1 launch0 p0 e0 about1 theMethod args0 below0 :=
  ⟨lists_1, trivial, launch0.admits_env _ _ _, launch0.least_env, fairChoices_fair.cas, fairChoices_fair.clock, w_frames, w_args, w_heap, w_applies, trivial, trivial, w_case⟩
end start1
theorem witness_1 : WitnessClaimed_1 := ⟨start1.p0, start1.e0, start1.about1, start1.theMethod, start1.args0, start1.below0, start1.atStart⟩
end Jvm.Pilot.@@N@@
