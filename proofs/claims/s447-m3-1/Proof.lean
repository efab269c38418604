import JvmDerived
import JvmDerived.Pilot.@@N@@Statement
import JvmDerived.Pilot.@@N@@Code
set_option linter.unusedVariables false
set_option linter.unusedSimpArgs false
namespace Jvm.RoadKit
open Sem ClassFile Op Lib Jvm.Stand Jvm.Free Jvm.LawKit
section New
variable {p : Program} {l : Launch} {e : Env} {R : Room} {s : State} {m : MethodId} {args : Array Value} {below : List Frame} {meth : Method} {c : Code} {T : State} {locs : List Loc} {cells slots : Nat}
theorem retI (X : Stand p l e R s m args below meth c T locs cells slots) (hx : p.tables.exec = Jvm.exec) {pc : Nat} {Ls : Array Slot} {z : Int32} {rest : List Value} (hret : meth.sig.returnType = some .int) (hd : decode c.code pc = .ok (.ireturn, 1)) {fs : List Frame}
    (hl : ∀ (f : JFrame) (acts : List Action), f.method = m → f.locked = none → f.entered = [] → (doReturn e (T.setTop f) acts (some (.int z))).1 = T.setFrames fs) : Steps p.tables e below (T.setTop (mkF m pc Ls (.int z :: rest))) (T.setFrames fs) := by
  have hm' : T.vm.method? m = some meth := X.method'
  have hn : narrow .int (.int z) = .int z := rfl
  show Steps p.tables e below (T.setTop { method := m, pc := pc, locals := Ls, stack := _ :: rest, locked := none }) _
  jvm_step X.here [X.here.top, hx, hd, hm', hret, hn]
  first | (intro acts; rw [hl _ acts rfl rfl rfl]) | rw [hl _ _ rfl rfl rfl]
  exact Steps.refl _
end New
end Jvm.RoadKit
namespace Jvm.Pilot.@@N@@
open Jvm Jvm.ClassFile Sem Op Lib Jvm.Free Jvm.Stand Jvm.LawKit Jvm.RoadKit Bundle Jvm.Pilot.@@N@@.Jvm.D
theorem own_eqI {args : Array Value} {s : State} {t : Term} {k : Int32} (h : (Jvm.Cond.eq t (Jvm.Term.int k)).value args s none s [] = some true) : t.eval args s none [] s = some (.int k) := by
  obtain ⟨x, y, hx, hy, k1, k2⟩ := cmp_v (Or.inl h)
  obtain rfl : Value.int k = y := Option.some.inj ((Term.int_eval k).symm.trans hy)
  cases x <;> first | (rw [hx]; exact congrArg (fun z => some (Value.int z)) (by simpa [Cond.value, hx, hy] using h)) | (obtain ⟨z, hz⟩ := k1; cases hz; done) | (exact absurd k1.2 (by decide))
theorem own_eqL {args : Array Value} {s : State} {t : Term} {k : Int64} (h : (Jvm.Cond.eq t (Jvm.Term.long k)).value args s none s [] = some true) : t.eval args s none [] s = some (.long k) := by
  obtain ⟨x, y, hx, hy, k1, k2⟩ := cmp_v (Or.inl h)
  obtain rfl : Value.long k = y := Option.some.inj ((long_at k).symm.trans hy)
  cases x <;> first | (rw [hx]; exact congrArg (fun z => some (Value.long z)) (by simpa [Cond.value, hx, hy] using h)) | (obtain ⟨z, hz⟩ := k1; cases hz; done) | (exact absurd k1.2 (by decide))
def own_min (a b : Int64) : Int64 := if b < a then b else a
def own_max (a b : Int64) : Int64 := if a < b then b else a
def own_mil (a b : Int64) : Int64 := if a < (0 : Int64) then own_max a b else if b < (0 : Int64) then own_max a b else own_min a b
def own_eb (p m : Int64) : Int32 := if (p &&& m) < (0 : Int64) then (0 : Int32) else (1 : Int32)
def own_bd (p m : Int64) : Int32 := if p < (0 : Int64) then (if m < (0 : Int64) then (0 : Int32) else (1 : Int32)) else (1 : Int32)
theorem own_and (x y : Int64) : x &&& y < 0 ↔ (x < 0 ∧ y < 0) := Jvm.Free.XT.and_neg64 x y
theorem own_bd_eb (p m : Int64) : own_bd p m = own_eb p m := by
  unfold own_bd own_eb
  by_cases h1 : p < (0 : Int64) <;> by_cases h2 : m < (0 : Int64)
  · rw [if_pos h1, if_pos h2, if_pos ((own_and p m).mpr ⟨h1, h2⟩)]
  · rw [if_pos h1, if_neg h2, if_neg (fun q => h2 ((own_and p m).mp q).2)]
  · rw [if_neg h1, if_neg (fun q => h1 ((own_and p m).mp q).1)]
  · rw [if_neg h1, if_neg (fun q => h1 ((own_and p m).mp q).1)]
theorem own_eb0 {p m : Int64} : own_eb p m = (0 : Int32) ↔ (p < 0 ∧ m < 0) := by
  unfold own_eb
  by_cases h : (p &&& m) < (0 : Int64)
  · rw [if_pos h]; exact ⟨fun _ => (own_and p m).mp h, fun _ => rfl⟩
  · rw [if_neg h]; exact ⟨fun q => absurd q (by decide), fun q => absurd ((own_and p m).mpr q) h⟩
theorem own_bd1 {p m : Int64} (h : ¬ (p < 0 ∧ m < 0)) : own_bd p m = (1 : Int32) := by
  unfold own_bd
  by_cases h1 : p < (0 : Int64)
  · rw [if_pos h1, if_neg (fun q => h ⟨h1, q⟩)]
  · rw [if_neg h1]
theorem own_bd0 {p m : Int64} (h : p < 0 ∧ m < 0) : own_bd p m = (0 : Int32) := by unfold own_bd; rw [if_pos h.1, if_pos h.2]
theorem own_max0 (a b : Int64) : own_max a b < 0 ↔ a < 0 ∧ b < 0 := by
  unfold own_max; simp only [Int64.lt_iff_toInt_lt]
  have z : (0 : Int64).toInt = 0 := by decide
  rw [z]
  split <;> omega
theorem own_min0 (a b : Int64) : own_min a b < 0 ↔ a < 0 ∨ b < 0 := by
  unfold own_min; simp only [Int64.lt_iff_toInt_lt]
  have z : (0 : Int64).toInt = 0 := by decide
  rw [z]
  split <;> omega
theorem own_mil0 (a b : Int64) : own_mil a b < 0 ↔ a < 0 ∧ b < 0 := by
  unfold own_mil
  split
  · exact own_max0 a b
  split
  · exact own_max0 a b
  · rename_i h1 h2; rw [own_min0]; exact ⟨fun q => q.elim (fun z => absurd z h1) (fun z => absurd z h2), fun q => absurd q.1 h1⟩
theorem own_and1 {p m p' m' : Int64} (h : ¬ (own_eb p m = (0 : Int32)) ∨ ¬ (own_eb p' m' = (0 : Int32))) : own_bd (own_max p p') (own_mil m m') = (1 : Int32) := by
  apply own_bd1; rw [own_max0, own_mil0]; rintro ⟨⟨a, b⟩, c, d⟩
  exact h.elim (fun q => q (own_eb0.mpr ⟨a, c⟩)) (fun q => q (own_eb0.mpr ⟨b, d⟩))
theorem own_and0 {p m p' m' : Int64} (h : own_eb p m = (0 : Int32)) (h' : own_eb p' m' = (0 : Int32)) : own_bd (own_max p p') (own_mil m m') = (0 : Int32) := by
  rw [own_eb0] at h h'
  exact own_bd0 ⟨(own_max0 _ _).mpr ⟨h.1, h'.1⟩, (own_mil0 _ _).mpr ⟨h.2, h'.2⟩⟩
theorem ef_6 (m : MethodId) (x0 : Int64) (x1 : Int64) : entryFrame m #[(.long x0), (.long x1)] 4 = mkF m 0 #[.val (.long x0), .second, .val (.long x1), .second] [] := by first | (simp [entryFrame, mkF, argsToLocals, Value.category]; done) | rfl
theorem d6_0 : decode jdk_29_method_70_code 0 = .ok (.lload_n 0, 1) := by decide +kernel
theorem d6_1 : decode jdk_29_method_70_code 1 = .ok (.lload_n 2, 1) := by decide +kernel
theorem d6_2 : decode jdk_29_method_70_code 2 = .ok (.lcmp, 1) := by decide +kernel
theorem d6_3 : decode jdk_29_method_70_code 3 = .ok (.ifCond .gt 7, 3) := by decide +kernel
theorem d6_10 : decode jdk_29_method_70_code 10 = .ok (.lload_n 2, 1) := by decide +kernel
theorem d6_11 : decode jdk_29_method_70_code 11 = .ok (.lreturn, 1) := by decide +kernel
theorem d6_6 : decode jdk_29_method_70_code 6 = .ok (.lload_n 0, 1) := by decide +kernel
theorem d6_7 : decode jdk_29_method_70_code 7 = .ok (.goto 4, 3) := by decide +kernel
def Q6 (Z : State) (q1 : Int64) (q2 : Int64) (h0 : Heap) (n0 : Nat) (v : Option Value) (h : Heap) (L : List Loc) : Prop := v = some (.long (own_min q1 q2)) ∧ Fr n0 L ∧ (h = h0)
set_option maxRecDepth 65536 in
set_option maxHeartbeats 40000000 in
theorem rm6 (l : Launch) (Z : State) (a0 : Array Value) (hw : ∀ d ∈ tables_1, d.before a0 Z = true) (ws : List Jvm.Cond) (q1 : Int64) (q2 : Int64) (h0 : Heap) (n0 : Nat) (Z0 : n0 ≤ h0.size) :
    MetFree l (⟨"java/lang/Math", "min", "(JJ)J"⟩ : MethodName) (head1 (Jvm.Cond.code (⟨"java/lang/Math", "min", "(JJ)J"⟩ : MethodName) jdk_29_method_70_code 4 (some .long) :: ws) ({ frames := 0, cells := 0, slots := 0, locals := 0 } : Room)) (fun a U => a = #[(.long q1), (.long q2)] ∧ Z.Warmed39 U.vm ∧ U.heap = h0) (fun _ _ _ _ _ => True) (fun _ U o U' => ∃ v L, o = .returned v ∧ Q6 Z q1 q2 h0 n0 v U'.heap L ∧ FrameEnd U o U' L ({ frames := 0, cells := 0, slots := 0, locals := 0 } : Room).cells ({ frames := 0, cells := 0, slots := 0, locals := 0 } : Room).slots) := by
  refine MetFree.of_bodySF (Jvm.Free.JP.mathPlain rfl (by decide +kernel)) hisR ?_
  intro p e s m args below meth c s₁ Bd hml0 hP hK
  obtain ⟨rfl, hZ, hh⟩ := hP
  have hx := Bd.exec
  have hby := Bd.bytes
  have hml : c.maxLocals = 4 := hml0
  have hown : s.vm.findClass "java/lang/Math" = some m.cls := findClass_of_methodNamed Bd.named
  have hnm := (name_of_methodNamed Bd.named Bd.method).1
  have hlk : meth.locks = false := by first | exact BodyLoose.notSynchronized Bd | exact Body.notSynchronized Bd
  have X0 : Stand p l e ({ frames := 0, cells := 0, slots := 0, locals := 0 } : Room) s m #[(.long q1), (.long q2)] below meth c s₁ [] 0 0 := Stand.of_body Bd
  have e0 : s₁.heap = h0 := by rw [← hh, Bd.state]; rfl
  have N0 := Fr.nil n0
  have pre0 : ∀ t, Steps p.tables e below (s₁.setTop (mkF m 0 #[.val (.long q1), .second, .val (.long q2), .second] [])) t → Steps p.tables e below (s₁.setTop (entryFrame m #[(.long q1), (.long q2)] 4)) t := fun t k => castTop (ef_6 m q1 q2) k
  have pr101 : ∀ t, Steps p.tables e below (s₁.setTop (mkF m 3 #[.val (.long q1), .second, .val (.long q2), .second] [(.int (lcmpW q1 q2))])) t → Steps p.tables e below (s₁.setTop (mkF m 0 #[.val (.long q1), .second, .val (.long q2), .second] [])) t := fun t kt => by
    show Steps p.tables e below (s₁.setTop (mkF m 0 #[.val (.long q1), .second, .val (.long q2), .second] [])) _
    refine XS.lloadN X0.here hx rfl (hb hby d6_0) rfl ?_
    show Steps p.tables e below (s₁.setTop (mkF m 1 #[.val (.long q1), .second, .val (.long q2), .second] [(.long q1)])) _
    refine XS.lloadN X0.here hx rfl (hb hby d6_1) rfl ?_
    show Steps p.tables e below (s₁.setTop (mkF m 2 #[.val (.long q1), .second, .val (.long q2), .second] [(.long q2), (.long q1)])) _
    refine XS.lcmp X0.here hx rfl (hb hby d6_2) rfl ?_
    exact kt
  by_cases hc102 : q2 < q1
  · obtain ⟨fs, hr, hrun, hended, hW, hsame⟩ := X0.leave (v := some (.long q2)) (fun h => by rw [Bd.returns] at h; cases h) hlk
    refine ⟨_, _, pre0 _ ?_, hrun, hended, _, _, rfl, ?_, ⟨_, rfl⟩, hW, hsame.mono (by decide) (by decide)⟩
    · refine pr101 _ ?_
      show Steps p.tables e below (s₁.setTop (mkF m 3 #[.val (.long q1), .second, .val (.long q2), .second] [(.int (lcmpW q1 q2))])) _
      refine XS.ifYes X0.here hx rfl (pc0 := 3) (pc' := 10) rfl (hb hby d6_3) rfl ((if0 _ _).trans (tlt ((lw_gt _ _).mpr hc102)).2.2.1) (by decide) (by decide) ?_
      show Steps p.tables e below (s₁.setTop (mkF m 10 #[.val (.long q1), .second, .val (.long q2), .second] [])) _
      refine XS.lloadN X0.here hx rfl (hb hby d6_10) rfl ?_
      show Steps p.tables e below (s₁.setTop (mkF m 11 #[.val (.long q1), .second, .val (.long q2), .second] [(.long q2)])) _
      exact X0.lreturnOut hx Bd.returns (hb hby d6_11) hr
    · show Q6 Z q1 q2 h0 n0 _ s₁.heap _
      rw [e0]
      exact ⟨(congrArg (fun z => some (Value.long z)) (by simp [own_min, hc102] : q2 = (own_min q1 q2))), N0, rfl⟩
  · obtain ⟨fs, hr, hrun, hended, hW, hsame⟩ := X0.leave (v := some (.long q1)) (fun h => by rw [Bd.returns] at h; cases h) hlk
    refine ⟨_, _, pre0 _ ?_, hrun, hended, _, _, rfl, ?_, ⟨_, rfl⟩, hW, hsame.mono (by decide) (by decide)⟩
    · refine pr101 _ ?_
      show Steps p.tables e below (s₁.setTop (mkF m 3 #[.val (.long q1), .second, .val (.long q2), .second] [(.int (lcmpW q1 q2))])) _
      refine XS.ifNo X0.here hx rfl (hb hby d6_3) rfl ((if0 _ _).trans (flt (fun q => hc102 ((lw_gt _ _).mp q))).2.2.1) ?_
      show Steps p.tables e below (s₁.setTop (mkF m 6 #[.val (.long q1), .second, .val (.long q2), .second] [])) _
      refine XS.lloadN X0.here hx rfl (hb hby d6_6) rfl ?_
      show Steps p.tables e below (s₁.setTop (mkF m 7 #[.val (.long q1), .second, .val (.long q2), .second] [(.long q1)])) _
      refine XS.goto X0.here hx rfl (pc0 := 7) (pc' := 11) rfl (hb hby d6_7) (by decide) (by decide) ?_
      show Steps p.tables e below (s₁.setTop (mkF m 11 #[.val (.long q1), .second, .val (.long q2), .second] [(.long q1)])) _
      exact X0.lreturnOut hx Bd.returns (hb hby d6_11) hr
    · show Q6 Z q1 q2 h0 n0 _ s₁.heap _
      rw [e0]
      exact ⟨(congrArg (fun z => some (Value.long z)) (by simp [own_min, hc102] : q1 = (own_min q1 q2))), N0, rfl⟩
theorem ef_7 (m : MethodId) (x0 : Int64) (x1 : Int64) : entryFrame m #[(.long x0), (.long x1)] 4 = mkF m 0 #[.val (.long x0), .second, .val (.long x1), .second] [] := by first | (simp [entryFrame, mkF, argsToLocals, Value.category]; done) | rfl
theorem d7_0 : decode jdk_29_method_66_code 0 = .ok (.lload_n 0, 1) := by decide +kernel
theorem d7_1 : decode jdk_29_method_66_code 1 = .ok (.lload_n 2, 1) := by decide +kernel
theorem d7_2 : decode jdk_29_method_66_code 2 = .ok (.lcmp, 1) := by decide +kernel
theorem d7_3 : decode jdk_29_method_66_code 3 = .ok (.ifCond .lt 7, 3) := by decide +kernel
theorem d7_10 : decode jdk_29_method_66_code 10 = .ok (.lload_n 2, 1) := by decide +kernel
theorem d7_11 : decode jdk_29_method_66_code 11 = .ok (.lreturn, 1) := by decide +kernel
theorem d7_6 : decode jdk_29_method_66_code 6 = .ok (.lload_n 0, 1) := by decide +kernel
theorem d7_7 : decode jdk_29_method_66_code 7 = .ok (.goto 4, 3) := by decide +kernel
def Q7 (Z : State) (q1 : Int64) (q2 : Int64) (h0 : Heap) (n0 : Nat) (v : Option Value) (h : Heap) (L : List Loc) : Prop := v = some (.long (own_max q1 q2)) ∧ Fr n0 L ∧ (h = h0)
set_option maxRecDepth 65536 in
set_option maxHeartbeats 40000000 in
theorem rm7 (l : Launch) (Z : State) (a0 : Array Value) (hw : ∀ d ∈ tables_1, d.before a0 Z = true) (ws : List Jvm.Cond) (q1 : Int64) (q2 : Int64) (h0 : Heap) (n0 : Nat) (Z0 : n0 ≤ h0.size) :
    MetFree l (⟨"java/lang/Math", "max", "(JJ)J"⟩ : MethodName) (head1 (Jvm.Cond.code (⟨"java/lang/Math", "max", "(JJ)J"⟩ : MethodName) jdk_29_method_66_code 4 (some .long) :: ws) ({ frames := 0, cells := 0, slots := 0, locals := 0 } : Room)) (fun a U => a = #[(.long q1), (.long q2)] ∧ Z.Warmed39 U.vm ∧ U.heap = h0) (fun _ _ _ _ _ => True) (fun _ U o U' => ∃ v L, o = .returned v ∧ Q7 Z q1 q2 h0 n0 v U'.heap L ∧ FrameEnd U o U' L ({ frames := 0, cells := 0, slots := 0, locals := 0 } : Room).cells ({ frames := 0, cells := 0, slots := 0, locals := 0 } : Room).slots) := by
  refine MetFree.of_bodySF (Jvm.Free.JP.mathPlain rfl (by decide +kernel)) hisR ?_
  intro p e s m args below meth c s₁ Bd hml0 hP hK
  obtain ⟨rfl, hZ, hh⟩ := hP
  have hx := Bd.exec
  have hby := Bd.bytes
  have hml : c.maxLocals = 4 := hml0
  have hown : s.vm.findClass "java/lang/Math" = some m.cls := findClass_of_methodNamed Bd.named
  have hnm := (name_of_methodNamed Bd.named Bd.method).1
  have hlk : meth.locks = false := by first | exact BodyLoose.notSynchronized Bd | exact Body.notSynchronized Bd
  have X0 : Stand p l e ({ frames := 0, cells := 0, slots := 0, locals := 0 } : Room) s m #[(.long q1), (.long q2)] below meth c s₁ [] 0 0 := Stand.of_body Bd
  have e0 : s₁.heap = h0 := by rw [← hh, Bd.state]; rfl
  have N0 := Fr.nil n0
  have pre0 : ∀ t, Steps p.tables e below (s₁.setTop (mkF m 0 #[.val (.long q1), .second, .val (.long q2), .second] [])) t → Steps p.tables e below (s₁.setTop (entryFrame m #[(.long q1), (.long q2)] 4)) t := fun t k => castTop (ef_7 m q1 q2) k
  have pr101 : ∀ t, Steps p.tables e below (s₁.setTop (mkF m 3 #[.val (.long q1), .second, .val (.long q2), .second] [(.int (lcmpW q1 q2))])) t → Steps p.tables e below (s₁.setTop (mkF m 0 #[.val (.long q1), .second, .val (.long q2), .second] [])) t := fun t kt => by
    show Steps p.tables e below (s₁.setTop (mkF m 0 #[.val (.long q1), .second, .val (.long q2), .second] [])) _
    refine XS.lloadN X0.here hx rfl (hb hby d7_0) rfl ?_
    show Steps p.tables e below (s₁.setTop (mkF m 1 #[.val (.long q1), .second, .val (.long q2), .second] [(.long q1)])) _
    refine XS.lloadN X0.here hx rfl (hb hby d7_1) rfl ?_
    show Steps p.tables e below (s₁.setTop (mkF m 2 #[.val (.long q1), .second, .val (.long q2), .second] [(.long q2), (.long q1)])) _
    refine XS.lcmp X0.here hx rfl (hb hby d7_2) rfl ?_
    exact kt
  by_cases hc102 : q1 < q2
  · obtain ⟨fs, hr, hrun, hended, hW, hsame⟩ := X0.leave (v := some (.long q2)) (fun h => by rw [Bd.returns] at h; cases h) hlk
    refine ⟨_, _, pre0 _ ?_, hrun, hended, _, _, rfl, ?_, ⟨_, rfl⟩, hW, hsame.mono (by decide) (by decide)⟩
    · refine pr101 _ ?_
      show Steps p.tables e below (s₁.setTop (mkF m 3 #[.val (.long q1), .second, .val (.long q2), .second] [(.int (lcmpW q1 q2))])) _
      refine XS.ifYes X0.here hx rfl (pc0 := 3) (pc' := 10) rfl (hb hby d7_3) rfl ((if0 _ _).trans (tlt ((lw_lt _ _).mpr hc102)).1) (by decide) (by decide) ?_
      show Steps p.tables e below (s₁.setTop (mkF m 10 #[.val (.long q1), .second, .val (.long q2), .second] [])) _
      refine XS.lloadN X0.here hx rfl (hb hby d7_10) rfl ?_
      show Steps p.tables e below (s₁.setTop (mkF m 11 #[.val (.long q1), .second, .val (.long q2), .second] [(.long q2)])) _
      exact X0.lreturnOut hx Bd.returns (hb hby d7_11) hr
    · show Q7 Z q1 q2 h0 n0 _ s₁.heap _
      rw [e0]
      exact ⟨(congrArg (fun z => some (Value.long z)) (by simp [own_max, hc102] : q2 = (own_max q1 q2))), N0, rfl⟩
  · obtain ⟨fs, hr, hrun, hended, hW, hsame⟩ := X0.leave (v := some (.long q1)) (fun h => by rw [Bd.returns] at h; cases h) hlk
    refine ⟨_, _, pre0 _ ?_, hrun, hended, _, _, rfl, ?_, ⟨_, rfl⟩, hW, hsame.mono (by decide) (by decide)⟩
    · refine pr101 _ ?_
      show Steps p.tables e below (s₁.setTop (mkF m 3 #[.val (.long q1), .second, .val (.long q2), .second] [(.int (lcmpW q1 q2))])) _
      refine XS.ifNo X0.here hx rfl (hb hby d7_3) rfl ((if0 _ _).trans (flt (fun q => hc102 ((lw_lt _ _).mp q))).1) ?_
      show Steps p.tables e below (s₁.setTop (mkF m 6 #[.val (.long q1), .second, .val (.long q2), .second] [])) _
      refine XS.lloadN X0.here hx rfl (hb hby d7_6) rfl ?_
      show Steps p.tables e below (s₁.setTop (mkF m 7 #[.val (.long q1), .second, .val (.long q2), .second] [(.long q1)])) _
      refine XS.goto X0.here hx rfl (pc0 := 7) (pc' := 11) rfl (hb hby d7_7) (by decide) (by decide) ?_
      show Steps p.tables e below (s₁.setTop (mkF m 11 #[.val (.long q1), .second, .val (.long q2), .second] [(.long q1)])) _
      exact X0.lreturnOut hx Bd.returns (hb hby d7_11) hr
    · show Q7 Z q1 q2 h0 n0 _ s₁.heap _
      rw [e0]
      exact ⟨(congrArg (fun z => some (Value.long z)) (by simp [own_max, hc102] : q1 = (own_max q1 q2))), N0, rfl⟩
theorem pn_0 : plainName "com/example/redoubt/redoubt/protocol/Freshness" = true := by first | (simp [plainName, overriddenIn]; done) | decide +kernel
theorem ef_1 (m : MethodId) (x0 : Addr) (x1 : Int64) (x2 : Int64) : entryFrame m #[(.ref x0), (.long x1), (.long x2)] 5 = mkF m 0 #[.val (.ref x0), .val (.long x1), .second, .val (.long x2), .second] [] := by first | (simp [entryFrame, mkF, argsToLocals, Value.category]; done) | rfl
theorem d1_0 : decode prog_42_method_1_code 0 = .ok (.aload_n 0, 1) := by decide +kernel
theorem d1_1 : decode prog_42_method_1_code 1 = .ok (.invokespecial 1, 3) := by decide +kernel
theorem d1_4 : decode prog_42_method_1_code 4 = .ok (.aload_n 0, 1) := by decide +kernel
theorem d1_5 : decode prog_42_method_1_code 5 = .ok (.lload_n 1, 1) := by decide +kernel
theorem d1_6 : decode prog_42_method_1_code 6 = .ok (.putfield 7, 3) := by decide +kernel
theorem d1_9 : decode prog_42_method_1_code 9 = .ok (.aload_n 0, 1) := by decide +kernel
theorem d1_10 : decode prog_42_method_1_code 10 = .ok (.lload_n 3, 1) := by decide +kernel
theorem d1_11 : decode prog_42_method_1_code 11 = .ok (.putfield 13, 3) := by decide +kernel
theorem d1_14 : decode prog_42_method_1_code 14 = .ok (.return_, 1) := by decide +kernel
def Q1 (Z : State) (a1 : Addr) (q2 : Int64) (q3 : Int64) (h0 : Heap) (n0 : Nat) (v : Option Value) (h : Heap) (L : List Loc) : Prop := v = none ∧ Fr n0 L ∧ (Keep h0 h [a1]) ∧ (Fld Z h a1 "com/example/redoubt/redoubt/protocol/Freshness" "position" "J" (.long q2)) ∧ (Fld Z h a1 "com/example/redoubt/redoubt/protocol/Freshness" "maxStalenessMillis" "J" (.long q3))
set_option maxRecDepth 65536 in
set_option maxHeartbeats 40000000 in
theorem rm1 (l : Launch) (Z : State) (a0 : Array Value) (hw : ∀ d ∈ tables_1, d.before a0 Z = true) (ws : List Jvm.Cond) (a1 : Addr) (q2 : Int64) (q3 : Int64) (h0 : Heap) (n0 : Nat) (Z0 : n0 ≤ h0.size) (E1 : Exa Z h0 a1 "com/example/redoubt/redoubt/protocol/Freshness") (F1 : Fld Z h0 a1 "com/example/redoubt/redoubt/protocol/Freshness" "position" "J" (.long (0 : Int64))) (F2 : Fld Z h0 a1 "com/example/redoubt/redoubt/protocol/Freshness" "maxStalenessMillis" "J" (.long (0 : Int64))) (g1 : n0 ≤ a1) :
    MetFree l (⟨"com/example/redoubt/redoubt/protocol/Freshness", "<init>", "(JJ)V"⟩ : MethodName) (head1 (Jvm.Cond.code (⟨"com/example/redoubt/redoubt/protocol/Freshness", "<init>", "(JJ)V"⟩ : MethodName) prog_42_method_1_code 5 none :: ws) ({ frames := 1, cells := 0, slots := 0, locals := 12 } : Room)) (fun a U => a = #[(.ref a1), (.long q2), (.long q3)] ∧ Z.Warmed39 U.vm ∧ U.heap = h0) (fun _ _ _ _ _ => True) (fun _ U o U' => ∃ v L, o = .returned v ∧ Q1 Z a1 q2 q3 h0 n0 v U'.heap L ∧ FrameEnd U o U' L ({ frames := 1, cells := 0, slots := 0, locals := 12 } : Room).cells ({ frames := 1, cells := 0, slots := 0, locals := 12 } : Room).slots) := by
  refine MetFree.of_bodySF (plainFor_of_name pn_0) hisR ?_
  intro p e s m args below meth c s₁ Bd hml0 hP hK
  obtain ⟨rfl, hZ, hh⟩ := hP
  have hx := Bd.exec
  have hby := Bd.bytes
  have hml : c.maxLocals = 5 := hml0
  have hown : s.vm.findClass "com/example/redoubt/redoubt/protocol/Freshness" = some m.cls := findClass_of_methodNamed Bd.named
  have hnm := (name_of_methodNamed Bd.named Bd.method).1
  have hlk : meth.locks = false := by first | exact BodyLoose.notSynchronized Bd | exact Body.notSynchronized Bd
  have X0 : Stand p l e ({ frames := 1, cells := 0, slots := 0, locals := 12 } : Room) s m #[(.ref a1), (.long q2), (.long q3)] below meth c s₁ [] 0 0 := Stand.of_body Bd
  have e0 : s₁.heap = h0 := by rw [← hh, Bd.state]; rfl
  have N0 := Fr.nil n0
  have pre0 : ∀ t, Steps p.tables e below (s₁.setTop (mkF m 0 #[.val (.ref a1), .val (.long q2), .second, .val (.long q3), .second] [])) t → Steps p.tables e below (s₁.setTop (entryFrame m #[(.ref a1), (.long q2), (.long q3)] 5)) t := fun t k => castTop (ef_1 m a1 q2 q3) k
  obtain ⟨T101, X101, e101, st101⟩ := initO X0 hx hZ hown (hw _ (List.mem_of_getElem? (i := 6) rfl)) (hw _ (List.mem_of_getElem? (i := 7) rfl)) (hw _ (List.mem_of_getElem? (i := 8) rfl)) e0 (g := (mkF m 1 #[.val (.ref a1), .val (.long q2), .second, .val (.long q3), .second] [(.ref a1)])) rfl (by rw [hml]; rfl) rfl (hb hby d1_1) (by decide) (W := 0) (by show 2 * 0 + _ ≤ _; exact Nat.le_of_eq rfl) (by decide)
  obtain ⟨T102, h102, X102, e102, W102, st102⟩ := putF X101 hx hZ hown (host := "") (Or.inl (hw _ (List.mem_of_getElem? (i := 9) rfl))) Via.refl e101 F1 E1 (Or.inr ⟨(hw _ (List.mem_of_getElem? (i := 10) rfl)), rfl, hnm⟩) (hw _ (List.mem_of_getElem? (i := 1) rfl)) (ty := .long) (by decide) rfl rfl (g := (mkF m 6 #[.val (.ref a1), .val (.long q2), .second, .val (.long q3), .second] [(.long q2), (.ref a1)])) rfl rfl (hb hby d1_6)
  have f103 : Exa Z h102 a1 "com/example/redoubt/redoubt/protocol/Freshness" := Exa.wr W102 E1
  have f104 : Fld Z h102 a1 "com/example/redoubt/redoubt/protocol/Freshness" "maxStalenessMillis" "J" (.long (0 : Int64)) := Fld.other W102 F2 (Or.inr (slot_ne (Or.inr (hw _ (List.mem_of_getElem? (i := 12) rfl))) (Or.inr (hw _ (List.mem_of_getElem? (i := 10) rfl))) (by decide) (t := .long) (t' := .long) (by decide) (by decide)))
  have f105 : Fld Z h102 a1 "com/example/redoubt/redoubt/protocol/Freshness" "position" "J" (.long q2) := F1.same W102
  have Zs102 : n0 ≤ h102.size := Nat.le_trans Z0 (Keep.of_wr W102).1
  have N102 := Fr.snoc X102 N0 g1
  have K102 : Keep h0 h102 [a1] := (Keep.refl h0 [a1]).wr W102 (Or.inl (List.mem_of_getElem? (i := 0) rfl))
  obtain ⟨T106, h106, X106, e106, W106, st106⟩ := putF X102 hx hZ hown (host := "") (Or.inl (hw _ (List.mem_of_getElem? (i := 11) rfl))) Via.refl e102 f104 f103 (Or.inr ⟨(hw _ (List.mem_of_getElem? (i := 12) rfl)), rfl, hnm⟩) (hw _ (List.mem_of_getElem? (i := 1) rfl)) (ty := .long) (by decide) rfl rfl (g := (mkF m 11 #[.val (.ref a1), .val (.long q2), .second, .val (.long q3), .second] [(.long q3), (.ref a1)])) rfl rfl (hb hby d1_11)
  have f107 : Exa Z h106 a1 "com/example/redoubt/redoubt/protocol/Freshness" := Exa.wr W106 f103
  have f108 : Fld Z h106 a1 "com/example/redoubt/redoubt/protocol/Freshness" "position" "J" (.long q2) := Fld.other W106 f105 (Or.inr (slot_ne (Or.inr (hw _ (List.mem_of_getElem? (i := 10) rfl))) (Or.inr (hw _ (List.mem_of_getElem? (i := 12) rfl))) (by decide) (t := .long) (t' := .long) (by decide) (by decide)))
  have f109 : Fld Z h106 a1 "com/example/redoubt/redoubt/protocol/Freshness" "maxStalenessMillis" "J" (.long q3) := f104.same W106
  have Zs106 : n0 ≤ h106.size := Nat.le_trans Zs102 (Keep.of_wr W106).1
  have N106 := Fr.snoc X106 N102 g1
  have K106 : Keep h0 h106 [a1] := K102.wr W106 (Or.inl (List.mem_of_getElem? (i := 0) rfl))
  obtain ⟨fs, hr, hrun, hended, hW, hsame⟩ := X106.leave (v := none) (fun _ => rfl) hlk
  refine ⟨_, _, pre0 _ ?_, hrun, hended, _, _, rfl, ?_, ⟨_, rfl⟩, hW, hsame.mono (by decide) (by decide)⟩
  · show Steps p.tables e below (s₁.setTop (mkF m 0 #[.val (.ref a1), .val (.long q2), .second, .val (.long q3), .second] [])) _
    refine XS.aloadN X0.here hx rfl (hb hby d1_0) rfl rfl ?_
    show Steps p.tables e below (s₁.setTop (mkF m 1 #[.val (.ref a1), .val (.long q2), .second, .val (.long q3), .second] [(.ref a1)])) _
    refine st101 _ ?_
    show Steps p.tables e below (T101.setTop (mkF m 4 #[.val (.ref a1), .val (.long q2), .second, .val (.long q3), .second] [])) _
    refine XS.aloadN X101.here hx rfl (hb hby d1_4) rfl rfl ?_
    show Steps p.tables e below (T101.setTop (mkF m 5 #[.val (.ref a1), .val (.long q2), .second, .val (.long q3), .second] [(.ref a1)])) _
    refine XS.lloadN X101.here hx rfl (hb hby d1_5) rfl ?_
    show Steps p.tables e below (T101.setTop (mkF m 6 #[.val (.ref a1), .val (.long q2), .second, .val (.long q3), .second] [(.long q2), (.ref a1)])) _
    refine st102 _ ?_
    show Steps p.tables e below (T102.setTop (mkF m 9 #[.val (.ref a1), .val (.long q2), .second, .val (.long q3), .second] [])) _
    refine XS.aloadN X102.here hx rfl (hb hby d1_9) rfl rfl ?_
    show Steps p.tables e below (T102.setTop (mkF m 10 #[.val (.ref a1), .val (.long q2), .second, .val (.long q3), .second] [(.ref a1)])) _
    refine XS.lloadN X102.here hx rfl (hb hby d1_10) rfl ?_
    show Steps p.tables e below (T102.setTop (mkF m 11 #[.val (.ref a1), .val (.long q2), .second, .val (.long q3), .second] [(.long q3), (.ref a1)])) _
    refine st106 _ ?_
    show Steps p.tables e below (T106.setTop (mkF m 14 #[.val (.ref a1), .val (.long q2), .second, .val (.long q3), .second] [])) _
    exact X106.returnOut hx Bd.returns (hb hby d1_14) hr
  · show Q1 Z a1 q2 q3 h0 n0 _ T106.heap _
    rw [e106]
    exact ⟨rfl, N106, K106, f108, f109⟩
theorem pn_1 : plainName "com/example/redoubt/redoubt/protocol/FreshnessBoundedPinLaw" = true := by first | (simp [plainName, overriddenIn]; done) | decide +kernel
theorem ef_3 (m : MethodId) (x0 : Int64) (x1 : Int64) : entryFrame m #[(.long x0), (.long x1)] 4 = mkF m 0 #[.val (.long x0), .second, .val (.long x1), .second] [] := by first | (simp [entryFrame, mkF, argsToLocals, Value.category]; done) | rfl
theorem d3_0 : decode method_2_code 0 = .ok (.lload_n 0, 1) := by decide +kernel
theorem d3_1 : decode method_2_code 1 = .ok (.lload_n 2, 1) := by decide +kernel
theorem d3_2 : decode method_2_code 2 = .ok (.land, 1) := by decide +kernel
theorem d3_3 : decode method_2_code 3 = .ok (.lconst 0, 1) := by decide +kernel
theorem d3_4 : decode method_2_code 4 = .ok (.lcmp, 1) := by decide +kernel
theorem d3_5 : decode method_2_code 5 = .ok (.ifCond .lt 7, 3) := by decide +kernel
theorem d3_12 : decode method_2_code 12 = .ok (.iconst 0, 1) := by decide +kernel
theorem d3_13 : decode method_2_code 13 = .ok (.ireturn, 1) := by decide +kernel
theorem d3_8 : decode method_2_code 8 = .ok (.iconst 1, 1) := by decide +kernel
theorem d3_9 : decode method_2_code 9 = .ok (.goto 4, 3) := by decide +kernel
def Q3 (Z : State) (q1 : Int64) (q2 : Int64) (h0 : Heap) (n0 : Nat) (v : Option Value) (h : Heap) (L : List Loc) : Prop := v = some (.int (own_eb q1 q2)) ∧ Fr n0 L ∧ (h = h0)
set_option maxRecDepth 65536 in
set_option maxHeartbeats 40000000 in
theorem rm3 (l : Launch) (Z : State) (a0 : Array Value) (hw : ∀ d ∈ tables_1, d.before a0 Z = true) (ws : List Jvm.Cond) (q1 : Int64) (q2 : Int64) (h0 : Heap) (n0 : Nat) (Z0 : n0 ≤ h0.size) :
    MetFree l (⟨"com/example/redoubt/redoubt/protocol/FreshnessBoundedPinLaw", "expectBounded", "(JJ)Z"⟩ : MethodName) (head1 (Jvm.Cond.code (⟨"com/example/redoubt/redoubt/protocol/FreshnessBoundedPinLaw", "expectBounded", "(JJ)Z"⟩ : MethodName) method_2_code 4 (some .boolean) :: ws) ({ frames := 0, cells := 0, slots := 0, locals := 0 } : Room)) (fun a U => a = #[(.long q1), (.long q2)] ∧ Z.Warmed39 U.vm ∧ U.heap = h0) (fun _ _ _ _ _ => True) (fun _ U o U' => ∃ v L, o = .returned v ∧ Q3 Z q1 q2 h0 n0 v U'.heap L ∧ FrameEnd U o U' L ({ frames := 0, cells := 0, slots := 0, locals := 0 } : Room).cells ({ frames := 0, cells := 0, slots := 0, locals := 0 } : Room).slots) := by
  refine MetFree.of_bodySF (plainFor_of_name pn_1) hisR ?_
  intro p e s m args below meth c s₁ Bd hml0 hP hK
  obtain ⟨rfl, hZ, hh⟩ := hP
  have hx := Bd.exec
  have hby := Bd.bytes
  have hml : c.maxLocals = 4 := hml0
  have hown : s.vm.findClass "com/example/redoubt/redoubt/protocol/FreshnessBoundedPinLaw" = some m.cls := findClass_of_methodNamed Bd.named
  have hnm := (name_of_methodNamed Bd.named Bd.method).1
  have hlk : meth.locks = false := by first | exact BodyLoose.notSynchronized Bd | exact Body.notSynchronized Bd
  have X0 : Stand p l e ({ frames := 0, cells := 0, slots := 0, locals := 0 } : Room) s m #[(.long q1), (.long q2)] below meth c s₁ [] 0 0 := Stand.of_body Bd
  have e0 : s₁.heap = h0 := by rw [← hh, Bd.state]; rfl
  have N0 := Fr.nil n0
  have pre0 : ∀ t, Steps p.tables e below (s₁.setTop (mkF m 0 #[.val (.long q1), .second, .val (.long q2), .second] [])) t → Steps p.tables e below (s₁.setTop (entryFrame m #[(.long q1), (.long q2)] 4)) t := fun t k => castTop (ef_3 m q1 q2) k
  have pr101 : ∀ t, Steps p.tables e below (s₁.setTop (mkF m 5 #[.val (.long q1), .second, .val (.long q2), .second] [(.int (lcmpW (q1 &&& q2) (0 : Int64)))])) t → Steps p.tables e below (s₁.setTop (mkF m 0 #[.val (.long q1), .second, .val (.long q2), .second] [])) t := fun t kt => by
    show Steps p.tables e below (s₁.setTop (mkF m 0 #[.val (.long q1), .second, .val (.long q2), .second] [])) _
    refine XS.lloadN X0.here hx rfl (hb hby d3_0) rfl ?_
    show Steps p.tables e below (s₁.setTop (mkF m 1 #[.val (.long q1), .second, .val (.long q2), .second] [(.long q1)])) _
    refine XS.lloadN X0.here hx rfl (hb hby d3_1) rfl ?_
    show Steps p.tables e below (s₁.setTop (mkF m 2 #[.val (.long q1), .second, .val (.long q2), .second] [(.long q2), (.long q1)])) _
    refine XS.land X0.here hx rfl (hb hby d3_2) rfl ?_
    show Steps p.tables e below (s₁.setTop (mkF m 3 #[.val (.long q1), .second, .val (.long q2), .second] [(.long (q1 &&& q2))])) _
    refine XS.lconst X0.here hx rfl (hb hby d3_3) ?_
    show Steps p.tables e below (s₁.setTop (mkF m 4 #[.val (.long q1), .second, .val (.long q2), .second] [(.long (0 : Int64)), (.long (q1 &&& q2))])) _
    refine XS.lcmp X0.here hx rfl (hb hby d3_4) rfl ?_
    exact kt
  by_cases hc102 : (q1 &&& q2) < (0 : Int64)
  · obtain ⟨fs, hr, hrun, hended, hW, hsame⟩ := X0.leave (v := some (.int (0 : Int32))) (fun h => by rw [Bd.returns] at h; cases h) hlk
    refine ⟨_, _, pre0 _ ?_, hrun, hended, _, _, rfl, ?_, ⟨_, rfl⟩, hW, hsame.mono (by decide) (by decide)⟩
    · refine pr101 _ ?_
      show Steps p.tables e below (s₁.setTop (mkF m 5 #[.val (.long q1), .second, .val (.long q2), .second] [(.int (lcmpW (q1 &&& q2) (0 : Int64)))])) _
      refine XS.ifYes X0.here hx rfl (pc0 := 5) (pc' := 12) rfl (hb hby d3_5) rfl ((if0 _ _).trans (tlt ((lw_lt _ _).mpr hc102)).1) (by decide) (by decide) ?_
      show Steps p.tables e below (s₁.setTop (mkF m 12 #[.val (.long q1), .second, .val (.long q2), .second] [])) _
      refine XS.iconst X0.here hx rfl (hb hby d3_12) ?_
      show Steps p.tables e below (s₁.setTop (mkF m 13 #[.val (.long q1), .second, .val (.long q2), .second] [(.int (0 : Int32))])) _
      exact retN X0 hx (t := .boolean) Bd.returns (by simp) (hb hby d3_13) hr
    · show Q3 Z q1 q2 h0 n0 _ s₁.heap _
      rw [e0]
      exact ⟨(congrArg (fun z => some (Value.int z)) (by simp [own_eb, hc102] : (0 : Int32) = (own_eb q1 q2))), N0, rfl⟩
  · obtain ⟨fs, hr, hrun, hended, hW, hsame⟩ := X0.leave (v := some (.int (1 : Int32))) (fun h => by rw [Bd.returns] at h; cases h) hlk
    refine ⟨_, _, pre0 _ ?_, hrun, hended, _, _, rfl, ?_, ⟨_, rfl⟩, hW, hsame.mono (by decide) (by decide)⟩
    · refine pr101 _ ?_
      show Steps p.tables e below (s₁.setTop (mkF m 5 #[.val (.long q1), .second, .val (.long q2), .second] [(.int (lcmpW (q1 &&& q2) (0 : Int64)))])) _
      refine XS.ifNo X0.here hx rfl (hb hby d3_5) rfl ((if0 _ _).trans (flt (fun q => hc102 ((lw_lt _ _).mp q))).1) ?_
      show Steps p.tables e below (s₁.setTop (mkF m 8 #[.val (.long q1), .second, .val (.long q2), .second] [])) _
      refine XS.iconst X0.here hx rfl (hb hby d3_8) ?_
      show Steps p.tables e below (s₁.setTop (mkF m 9 #[.val (.long q1), .second, .val (.long q2), .second] [(.int (1 : Int32))])) _
      refine XS.goto X0.here hx rfl (pc0 := 9) (pc' := 13) rfl (hb hby d3_9) (by decide) (by decide) ?_
      show Steps p.tables e below (s₁.setTop (mkF m 13 #[.val (.long q1), .second, .val (.long q2), .second] [(.int (1 : Int32))])) _
      exact retN X0 hx (t := .boolean) Bd.returns (by simp) (hb hby d3_13) hr
    · show Q3 Z q1 q2 h0 n0 _ s₁.heap _
      rw [e0]
      exact ⟨(congrArg (fun z => some (Value.int z)) (by simp [own_eb, hc102] : (1 : Int32) = (own_eb q1 q2))), N0, rfl⟩
theorem ef_4 (m : MethodId) (x0 : Addr) : entryFrame m #[(.ref x0)] 1 = mkF m 0 #[.val (.ref x0)] [] := by first | (simp [entryFrame, mkF, argsToLocals, Value.category]; done) | rfl
theorem d4_0 : decode prog_42_method_7_code 0 = .ok (.aload_n 0, 1) := by decide +kernel
theorem d4_1 : decode prog_42_method_7_code 1 = .ok (.getfield 7, 3) := by decide +kernel
theorem d4_4 : decode prog_42_method_7_code 4 = .ok (.lconst 0, 1) := by decide +kernel
theorem d4_5 : decode prog_42_method_7_code 5 = .ok (.lcmp, 1) := by decide +kernel
theorem d4_6 : decode prog_42_method_7_code 6 = .ok (.ifCond .ge 12, 3) := by decide +kernel
theorem d4_9 : decode prog_42_method_7_code 9 = .ok (.aload_n 0, 1) := by decide +kernel
theorem d4_10 : decode prog_42_method_7_code 10 = .ok (.getfield 13, 3) := by decide +kernel
theorem d4_13 : decode prog_42_method_7_code 13 = .ok (.lconst 0, 1) := by decide +kernel
theorem d4_14 : decode prog_42_method_7_code 14 = .ok (.lcmp, 1) := by decide +kernel
theorem d4_15 : decode prog_42_method_7_code 15 = .ok (.ifCond .lt 7, 3) := by decide +kernel
theorem d4_22 : decode prog_42_method_7_code 22 = .ok (.iconst 0, 1) := by decide +kernel
theorem d4_23 : decode prog_42_method_7_code 23 = .ok (.ireturn, 1) := by decide +kernel
theorem d4_18 : decode prog_42_method_7_code 18 = .ok (.iconst 1, 1) := by decide +kernel
theorem d4_19 : decode prog_42_method_7_code 19 = .ok (.goto 4, 3) := by decide +kernel
def Q4 (Z : State) (a1 : Addr) (w2 : Int64) (w3 : Int64) (h0 : Heap) (n0 : Nat) (v : Option Value) (h : Heap) (L : List Loc) : Prop := v = some (.int (own_bd w2 w3)) ∧ Fr n0 L ∧ (h = h0)
set_option maxRecDepth 65536 in
set_option maxHeartbeats 40000000 in
theorem rm4 (l : Launch) (Z : State) (a0 : Array Value) (hw : ∀ d ∈ tables_1, d.before a0 Z = true) (ws : List Jvm.Cond) (a1 : Addr) (w2 : Int64) (w3 : Int64) (h0 : Heap) (n0 : Nat) (Z0 : n0 ≤ h0.size) (F1 : Fld Z h0 a1 "com/example/redoubt/redoubt/protocol/Freshness" "position" "J" (.long w2)) (F2 : Fld Z h0 a1 "com/example/redoubt/redoubt/protocol/Freshness" "maxStalenessMillis" "J" (.long w3)) :
    MetFree l (⟨"com/example/redoubt/redoubt/protocol/Freshness", "bounded", "()Z"⟩ : MethodName) (head1 (Jvm.Cond.code (⟨"com/example/redoubt/redoubt/protocol/Freshness", "bounded", "()Z"⟩ : MethodName) prog_42_method_7_code 1 (some .boolean) :: ws) ({ frames := 0, cells := 0, slots := 0, locals := 0 } : Room)) (fun a U => a = #[(.ref a1)] ∧ Z.Warmed39 U.vm ∧ U.heap = h0) (fun _ _ _ _ _ => True) (fun _ U o U' => ∃ v L, o = .returned v ∧ Q4 Z a1 w2 w3 h0 n0 v U'.heap L ∧ FrameEnd U o U' L ({ frames := 0, cells := 0, slots := 0, locals := 0 } : Room).cells ({ frames := 0, cells := 0, slots := 0, locals := 0 } : Room).slots) := by
  refine MetFree.of_bodySF (plainFor_of_name pn_0) hisR ?_
  intro p e s m args below meth c s₁ Bd hml0 hP hK
  obtain ⟨rfl, hZ, hh⟩ := hP
  have hx := Bd.exec
  have hby := Bd.bytes
  have hml : c.maxLocals = 1 := hml0
  have hown : s.vm.findClass "com/example/redoubt/redoubt/protocol/Freshness" = some m.cls := findClass_of_methodNamed Bd.named
  have hnm := (name_of_methodNamed Bd.named Bd.method).1
  have hlk : meth.locks = false := by first | exact BodyLoose.notSynchronized Bd | exact Body.notSynchronized Bd
  have X0 : Stand p l e ({ frames := 0, cells := 0, slots := 0, locals := 0 } : Room) s m #[(.ref a1)] below meth c s₁ [] 0 0 := Stand.of_body Bd
  have e0 : s₁.heap = h0 := by rw [← hh, Bd.state]; rfl
  have N0 := Fr.nil n0
  have pre0 : ∀ t, Steps p.tables e below (s₁.setTop (mkF m 0 #[.val (.ref a1)] [])) t → Steps p.tables e below (s₁.setTop (entryFrame m #[(.ref a1)] 1)) t := fun t k => castTop (ef_4 m a1) k
  obtain ⟨T101, X101, e101, st101⟩ := getF X0 hx hZ hown (host := "") (Or.inl (hw _ (List.mem_of_getElem? (i := 9) rfl))) Via.refl e0 F1 (g := (mkF m 1 #[.val (.ref a1)] [(.ref a1)])) rfl rfl (hb hby d4_1)
  have pr102 : ∀ t, Steps p.tables e below (T101.setTop (mkF m 6 #[.val (.ref a1)] [(.int (lcmpW w2 (0 : Int64)))])) t → Steps p.tables e below (s₁.setTop (mkF m 0 #[.val (.ref a1)] [])) t := fun t kt => by
    show Steps p.tables e below (s₁.setTop (mkF m 0 #[.val (.ref a1)] [])) _
    refine XS.aloadN X0.here hx rfl (hb hby d4_0) rfl rfl ?_
    show Steps p.tables e below (s₁.setTop (mkF m 1 #[.val (.ref a1)] [(.ref a1)])) _
    refine st101 _ ?_
    show Steps p.tables e below (T101.setTop (mkF m 4 #[.val (.ref a1)] [(.long w2)])) _
    refine XS.lconst X101.here hx rfl (hb hby d4_4) ?_
    show Steps p.tables e below (T101.setTop (mkF m 5 #[.val (.ref a1)] [(.long (0 : Int64)), (.long w2)])) _
    refine XS.lcmp X101.here hx rfl (hb hby d4_5) rfl ?_
    exact kt
  by_cases hc103 : w2 < (0 : Int64)
  · obtain ⟨T104, X104, e104, st104⟩ := getF X101 hx hZ hown (host := "") (Or.inl (hw _ (List.mem_of_getElem? (i := 11) rfl))) Via.refl e101 F2 (g := (mkF m 10 #[.val (.ref a1)] [(.ref a1)])) rfl rfl (hb hby d4_10)
    have pr105 : ∀ t, Steps p.tables e below (T104.setTop (mkF m 15 #[.val (.ref a1)] [(.int (lcmpW w3 (0 : Int64)))])) t → Steps p.tables e below (s₁.setTop (mkF m 0 #[.val (.ref a1)] [])) t := fun t kt => by
      refine pr102 _ ?_
      show Steps p.tables e below (T101.setTop (mkF m 6 #[.val (.ref a1)] [(.int (lcmpW w2 (0 : Int64)))])) _
      refine XS.ifNo X101.here hx rfl (hb hby d4_6) rfl ((if0 _ _).trans (tlt ((lw_lt _ _).mpr hc103)).2.1) ?_
      show Steps p.tables e below (T101.setTop (mkF m 9 #[.val (.ref a1)] [])) _
      refine XS.aloadN X101.here hx rfl (hb hby d4_9) rfl rfl ?_
      show Steps p.tables e below (T101.setTop (mkF m 10 #[.val (.ref a1)] [(.ref a1)])) _
      refine st104 _ ?_
      show Steps p.tables e below (T104.setTop (mkF m 13 #[.val (.ref a1)] [(.long w3)])) _
      refine XS.lconst X104.here hx rfl (hb hby d4_13) ?_
      show Steps p.tables e below (T104.setTop (mkF m 14 #[.val (.ref a1)] [(.long (0 : Int64)), (.long w3)])) _
      refine XS.lcmp X104.here hx rfl (hb hby d4_14) rfl ?_
      exact kt
    by_cases hc106 : w3 < (0 : Int64)
    · obtain ⟨fs, hr, hrun, hended, hW, hsame⟩ := X104.leave (v := some (.int (0 : Int32))) (fun h => by rw [Bd.returns] at h; cases h) hlk
      refine ⟨_, _, pre0 _ ?_, hrun, hended, _, _, rfl, ?_, ⟨_, rfl⟩, hW, hsame.mono (by decide) (by decide)⟩
      · refine pr105 _ ?_
        show Steps p.tables e below (T104.setTop (mkF m 15 #[.val (.ref a1)] [(.int (lcmpW w3 (0 : Int64)))])) _
        refine XS.ifYes X104.here hx rfl (pc0 := 15) (pc' := 22) rfl (hb hby d4_15) rfl ((if0 _ _).trans (tlt ((lw_lt _ _).mpr hc106)).1) (by decide) (by decide) ?_
        show Steps p.tables e below (T104.setTop (mkF m 22 #[.val (.ref a1)] [])) _
        refine XS.iconst X104.here hx rfl (hb hby d4_22) ?_
        show Steps p.tables e below (T104.setTop (mkF m 23 #[.val (.ref a1)] [(.int (0 : Int32))])) _
        exact retN X104 hx (t := .boolean) Bd.returns (by simp) (hb hby d4_23) hr
      · show Q4 Z a1 w2 w3 h0 n0 _ T104.heap _
        rw [e104]
        exact ⟨(congrArg (fun z => some (Value.int z)) (by simp [own_bd, hc103, hc106] : (0 : Int32) = (own_bd w2 w3))), N0, rfl⟩
    · obtain ⟨fs, hr, hrun, hended, hW, hsame⟩ := X104.leave (v := some (.int (1 : Int32))) (fun h => by rw [Bd.returns] at h; cases h) hlk
      refine ⟨_, _, pre0 _ ?_, hrun, hended, _, _, rfl, ?_, ⟨_, rfl⟩, hW, hsame.mono (by decide) (by decide)⟩
      · refine pr105 _ ?_
        show Steps p.tables e below (T104.setTop (mkF m 15 #[.val (.ref a1)] [(.int (lcmpW w3 (0 : Int64)))])) _
        refine XS.ifNo X104.here hx rfl (hb hby d4_15) rfl ((if0 _ _).trans (flt (fun q => hc106 ((lw_lt _ _).mp q))).1) ?_
        show Steps p.tables e below (T104.setTop (mkF m 18 #[.val (.ref a1)] [])) _
        refine XS.iconst X104.here hx rfl (hb hby d4_18) ?_
        show Steps p.tables e below (T104.setTop (mkF m 19 #[.val (.ref a1)] [(.int (1 : Int32))])) _
        refine XS.goto X104.here hx rfl (pc0 := 19) (pc' := 23) rfl (hb hby d4_19) (by decide) (by decide) ?_
        show Steps p.tables e below (T104.setTop (mkF m 23 #[.val (.ref a1)] [(.int (1 : Int32))])) _
        exact retN X104 hx (t := .boolean) Bd.returns (by simp) (hb hby d4_23) hr
      · show Q4 Z a1 w2 w3 h0 n0 _ T104.heap _
        rw [e104]
        exact ⟨(congrArg (fun z => some (Value.int z)) (by simp [own_bd, hc103, hc106] : (1 : Int32) = (own_bd w2 w3))), N0, rfl⟩
  · obtain ⟨fs, hr, hrun, hended, hW, hsame⟩ := X101.leave (v := some (.int (1 : Int32))) (fun h => by rw [Bd.returns] at h; cases h) hlk
    refine ⟨_, _, pre0 _ ?_, hrun, hended, _, _, rfl, ?_, ⟨_, rfl⟩, hW, hsame.mono (by decide) (by decide)⟩
    · refine pr102 _ ?_
      show Steps p.tables e below (T101.setTop (mkF m 6 #[.val (.ref a1)] [(.int (lcmpW w2 (0 : Int64)))])) _
      refine XS.ifYes X101.here hx rfl (pc0 := 6) (pc' := 18) rfl (hb hby d4_6) rfl ((if0 _ _).trans (flt (fun q => hc103 ((lw_lt _ _).mp q))).2.1) (by decide) (by decide) ?_
      show Steps p.tables e below (T101.setTop (mkF m 18 #[.val (.ref a1)] [])) _
      refine XS.iconst X101.here hx rfl (hb hby d4_18) ?_
      show Steps p.tables e below (T101.setTop (mkF m 19 #[.val (.ref a1)] [(.int (1 : Int32))])) _
      refine XS.goto X101.here hx rfl (pc0 := 19) (pc' := 23) rfl (hb hby d4_19) (by decide) (by decide) ?_
      show Steps p.tables e below (T101.setTop (mkF m 23 #[.val (.ref a1)] [(.int (1 : Int32))])) _
      exact retN X101 hx (t := .boolean) Bd.returns (by simp) (hb hby d4_23) hr
    · show Q4 Z a1 w2 w3 h0 n0 _ T101.heap _
      rw [e101]
      exact ⟨(congrArg (fun z => some (Value.int z)) (by simp [own_bd, hc103] : (1 : Int32) = (own_bd w2 w3))), N0, rfl⟩
theorem ef_5 (m : MethodId) (x0 : Addr) (x1 : Addr) : entryFrame m #[(.ref x0), (.ref x1)] 4 = mkF m 0 #[.val (.ref x0), .val (.ref x1), .unset, .unset] [] := by first | (simp [entryFrame, mkF, argsToLocals, Value.category]; done) | rfl
theorem d5_0 : decode prog_42_method_4_code 0 = .ok (.aload_n 0, 1) := by decide +kernel
theorem d5_1 : decode prog_42_method_4_code 1 = .ok (.getfield 13, 3) := by decide +kernel
theorem d5_4 : decode prog_42_method_4_code 4 = .ok (.lconst 0, 1) := by decide +kernel
theorem d5_5 : decode prog_42_method_4_code 5 = .ok (.lcmp, 1) := by decide +kernel
theorem d5_6 : decode prog_42_method_4_code 6 = .ok (.ifCond .lt 12, 3) := by decide +kernel
theorem d5_18 : decode prog_42_method_4_code 18 = .ok (.aload_n 0, 1) := by decide +kernel
theorem d5_19 : decode prog_42_method_4_code 19 = .ok (.getfield 13, 3) := by decide +kernel
theorem d5_22 : decode prog_42_method_4_code 22 = .ok (.aload_n 1, 1) := by decide +kernel
theorem d5_23 : decode prog_42_method_4_code 23 = .ok (.getfield 13, 3) := by decide +kernel
theorem d5_26 : decode prog_42_method_4_code 26 = .ok (.invokestatic 31, 3) := by decide +kernel
theorem pd_0 : parseMethodDescriptor "(JJ)J" = some ⟨[.long, .long], some .long⟩ := by decide +kernel
theorem d5_29 : decode prog_42_method_4_code 29 = .ok (.goto 14, 3) := by decide +kernel
theorem d5_43 : decode prog_42_method_4_code 43 = .ok (.lstore_n 2, 1) := by decide +kernel
theorem d5_44 : decode prog_42_method_4_code 44 = .ok (.new 8, 3) := by decide +kernel
theorem d5_47 : decode prog_42_method_4_code 47 = .ok (.dup, 1) := by decide +kernel
theorem d5_48 : decode prog_42_method_4_code 48 = .ok (.aload_n 0, 1) := by decide +kernel
theorem d5_49 : decode prog_42_method_4_code 49 = .ok (.getfield 7, 3) := by decide +kernel
theorem d5_52 : decode prog_42_method_4_code 52 = .ok (.aload_n 1, 1) := by decide +kernel
theorem d5_53 : decode prog_42_method_4_code 53 = .ok (.getfield 7, 3) := by decide +kernel
theorem d5_56 : decode prog_42_method_4_code 56 = .ok (.invokestatic 31, 3) := by decide +kernel
theorem d5_59 : decode prog_42_method_4_code 59 = .ok (.lload_n 2, 1) := by decide +kernel
theorem d5_60 : decode prog_42_method_4_code 60 = .ok (.invokespecial 27, 3) := by decide +kernel
theorem pd_1 : parseMethodDescriptor "(JJ)V" = some ⟨[.long, .long], none⟩ := by decide +kernel
theorem d5_63 : decode prog_42_method_4_code 63 = .ok (.areturn, 1) := by decide +kernel
theorem d5_9 : decode prog_42_method_4_code 9 = .ok (.aload_n 1, 1) := by decide +kernel
theorem d5_10 : decode prog_42_method_4_code 10 = .ok (.getfield 13, 3) := by decide +kernel
theorem d5_13 : decode prog_42_method_4_code 13 = .ok (.lconst 0, 1) := by decide +kernel
theorem d5_14 : decode prog_42_method_4_code 14 = .ok (.lcmp, 1) := by decide +kernel
theorem d5_15 : decode prog_42_method_4_code 15 = .ok (.ifCond .ge 17, 3) := by decide +kernel
theorem d5_32 : decode prog_42_method_4_code 32 = .ok (.aload_n 0, 1) := by decide +kernel
theorem d5_33 : decode prog_42_method_4_code 33 = .ok (.getfield 13, 3) := by decide +kernel
theorem d5_36 : decode prog_42_method_4_code 36 = .ok (.aload_n 1, 1) := by decide +kernel
theorem d5_37 : decode prog_42_method_4_code 37 = .ok (.getfield 13, 3) := by decide +kernel
theorem d5_40 : decode prog_42_method_4_code 40 = .ok (.invokestatic 37, 3) := by decide +kernel
def Q5 (Z : State) (a1 : Addr) (a2 : Addr) (w3 : Int64) (w4 : Int64) (w5 : Int64) (w6 : Int64) (h0 : Heap) (n0 : Nat) (v : Option Value) (h : Heap) (L : List Loc) : Prop := ∃ b : Addr, v = some (.ref b) ∧ Fr n0 L ∧ (Keep h0 h []) ∧ (h0.size ≤ b) ∧ (Exa Z h b "com/example/redoubt/redoubt/protocol/Freshness") ∧ (Fld Z h b "com/example/redoubt/redoubt/protocol/Freshness" "position" "J" (.long (own_max w3 w4))) ∧ (Fld Z h b "com/example/redoubt/redoubt/protocol/Freshness" "maxStalenessMillis" "J" (.long (own_mil w5 w6)))
set_option maxRecDepth 65536 in
set_option maxHeartbeats 40000000 in
theorem rm5 (l : Launch) (Z : State) (a0 : Array Value) (hw : ∀ d ∈ tables_1, d.before a0 Z = true) (ws : List Jvm.Cond) (a1 : Addr) (a2 : Addr) (w3 : Int64) (w4 : Int64) (w5 : Int64) (w6 : Int64) (h0 : Heap) (n0 : Nat) (Z0 : n0 ≤ h0.size) (F1 : Fld Z h0 a1 "com/example/redoubt/redoubt/protocol/Freshness" "position" "J" (.long w3)) (F2 : Fld Z h0 a2 "com/example/redoubt/redoubt/protocol/Freshness" "position" "J" (.long w4)) (F3 : Fld Z h0 a1 "com/example/redoubt/redoubt/protocol/Freshness" "maxStalenessMillis" "J" (.long w5)) (F4 : Fld Z h0 a2 "com/example/redoubt/redoubt/protocol/Freshness" "maxStalenessMillis" "J" (.long w6)) :
    MetFree l (⟨"com/example/redoubt/redoubt/protocol/Freshness", "and", "(Lcom/example/redoubt/redoubt/protocol/Freshness;)Lcom/example/redoubt/redoubt/protocol/Freshness;"⟩ : MethodName) (head1 (Jvm.Cond.code (⟨"com/example/redoubt/redoubt/protocol/Freshness", "and", "(Lcom/example/redoubt/redoubt/protocol/Freshness;)Lcom/example/redoubt/redoubt/protocol/Freshness;"⟩ : MethodName) prog_42_method_4_code 4 (some (.object "com/example/redoubt/redoubt/protocol/Freshness")) :: ws) ({ frames := 2, cells := 1, slots := 2, locals := 29 } : Room)) (fun a U => a = #[(.ref a1), (.ref a2)] ∧ Z.Warmed39 U.vm ∧ U.heap = h0) (fun _ _ _ _ _ => True) (fun _ U o U' => ∃ v L, o = .returned v ∧ Q5 Z a1 a2 w3 w4 w5 w6 h0 n0 v U'.heap L ∧ FrameEnd U o U' L ({ frames := 2, cells := 1, slots := 2, locals := 29 } : Room).cells ({ frames := 2, cells := 1, slots := 2, locals := 29 } : Room).slots) := by
  refine MetFree.of_bodySF (plainFor_of_name pn_0) hisR ?_
  intro p e s m args below meth c s₁ Bd hml0 hP hK
  obtain ⟨rfl, hZ, hh⟩ := hP
  have hx := Bd.exec
  have hby := Bd.bytes
  have hml : c.maxLocals = 4 := hml0
  have hown : s.vm.findClass "com/example/redoubt/redoubt/protocol/Freshness" = some m.cls := findClass_of_methodNamed Bd.named
  have hnm := (name_of_methodNamed Bd.named Bd.method).1
  have hlk : meth.locks = false := by first | exact BodyLoose.notSynchronized Bd | exact Body.notSynchronized Bd
  have X0 : Stand p l e ({ frames := 2, cells := 1, slots := 2, locals := 29 } : Room) s m #[(.ref a1), (.ref a2)] below meth c s₁ [] 0 0 := Stand.of_body Bd
  have e0 : s₁.heap = h0 := by rw [← hh, Bd.state]; rfl
  have N0 := Fr.nil n0
  have pre0 : ∀ t, Steps p.tables e below (s₁.setTop (mkF m 0 #[.val (.ref a1), .val (.ref a2), .unset, .unset] [])) t → Steps p.tables e below (s₁.setTop (entryFrame m #[(.ref a1), (.ref a2)] 4)) t := fun t k => castTop (ef_5 m a1 a2) k
  obtain ⟨T101, X101, e101, st101⟩ := getF X0 hx hZ hown (host := "") (Or.inl (hw _ (List.mem_of_getElem? (i := 11) rfl))) Via.refl e0 F3 (g := (mkF m 1 #[.val (.ref a1), .val (.ref a2), .unset, .unset] [(.ref a1)])) rfl rfl (hb hby d5_1)
  have pr102 : ∀ t, Steps p.tables e below (T101.setTop (mkF m 6 #[.val (.ref a1), .val (.ref a2), .unset, .unset] [(.int (lcmpW w5 (0 : Int64)))])) t → Steps p.tables e below (s₁.setTop (mkF m 0 #[.val (.ref a1), .val (.ref a2), .unset, .unset] [])) t := fun t kt => by
    show Steps p.tables e below (s₁.setTop (mkF m 0 #[.val (.ref a1), .val (.ref a2), .unset, .unset] [])) _
    refine XS.aloadN X0.here hx rfl (hb hby d5_0) rfl rfl ?_
    show Steps p.tables e below (s₁.setTop (mkF m 1 #[.val (.ref a1), .val (.ref a2), .unset, .unset] [(.ref a1)])) _
    refine st101 _ ?_
    show Steps p.tables e below (T101.setTop (mkF m 4 #[.val (.ref a1), .val (.ref a2), .unset, .unset] [(.long w5)])) _
    refine XS.lconst X101.here hx rfl (hb hby d5_4) ?_
    show Steps p.tables e below (T101.setTop (mkF m 5 #[.val (.ref a1), .val (.ref a2), .unset, .unset] [(.long (0 : Int64)), (.long w5)])) _
    refine XS.lcmp X101.here hx rfl (hb hby d5_5) rfl ?_
    exact kt
  by_cases hc103 : w5 < (0 : Int64)
  · obtain ⟨T104, X104, e104, st104⟩ := getF X101 hx hZ hown (host := "") (Or.inl (hw _ (List.mem_of_getElem? (i := 11) rfl))) Via.refl e101 F3 (g := (mkF m 19 #[.val (.ref a1), .val (.ref a2), .unset, .unset] [(.ref a1)])) rfl rfl (hb hby d5_19)
    obtain ⟨T105, X105, e105, st105⟩ := getF X104 hx hZ hown (host := "") (Or.inl (hw _ (List.mem_of_getElem? (i := 11) rfl))) Via.refl e104 F4 (g := (mkF m 23 #[.val (.ref a1), .val (.ref a2), .unset, .unset] [(.ref a2), (.long w5)])) rfl rfl (hb hby d5_23)
    obtain ⟨_, _, ⟨T106, L106, k106, n106⟩, -, X106, ⟨Lc106, hQ106, l106, y106, z106⟩, st106⟩ := Jvm.LawKit.callS X105 hx (y := (⟨"java/lang/Math", "max", "(JJ)J"⟩ : MethodName)) hown (mvT hZ (hw _ (List.mem_of_getElem? (i := 32) rfl))) (mvT hZ (hw _ (List.mem_of_getElem? (i := 33) rfl))) (mvT hZ (hw _ (List.mem_of_getElem? (i := 29) rfl))) (mvT hZ (hw _ (List.mem_of_getElem? (i := 34) rfl))) (by decide) (backOf (W := 0) (rm7 l Z a0 hw [] w5 w6 h0 n0 Z0 ) hZ (hw _ (List.mem_of_getElem? (i := 34) rfl)) (hw _ (List.mem_of_getElem? (i := 29) rfl)) (by decide) (by decide)) (g := (mkF m 26 #[.val (.ref a1), .val (.ref a2), .unset, .unset] [(.long w6), (.long w5)])) rfl (by rw [hml]; rfl) (argsL := [(.long w5), (.long w6)]) (rest := []) (lenOf pd_0 rfl) rfl (by show 2 * 0 + _ ≤ _; exact Nat.le_of_eq rfl) (hb hby d5_26) (fun _ _ => ⟨rfl, e105, (by decide : 0 + 0 ≤ _), (by decide : 0 + 0 ≤ _)⟩)
    dsimp only [Pt.U, Pt.locs, Pt.cells, Pt.slots] at X106 l106 y106 z106 st106 hQ106
    subst l106 y106 z106
    obtain ⟨rfl, N106q, P106_0⟩ := hQ106
    have N106 := Fr.app N0 N106q
    obtain ⟨T107, h107, X107, e107, E107, A107, D107, -, st107⟩ := newO X106 hx hZ hown (hw _ (List.mem_of_getElem? (i := 31) rfl)) (hw _ (List.mem_of_getElem? (i := 1) rfl)) (hw _ (List.mem_of_getElem? (i := 2) rfl)) P106_0 (g := (mkF m 44 #[.val (.ref a1), .val (.ref a2), .val (.long (own_max w5 w6)), .second] [])) rfl (hb hby d5_44) (by decide) (by decide)
    obtain ⟨b107, g107⟩ : ∃ z, z = h0.size := ⟨_, rfl⟩
    rw [← g107] at A107 D107 st107
    have ne_a1_b107 : a1 ≠ b107 := Nat.ne_of_lt (Nat.lt_of_lt_of_le F1.lt (Nat.le_of_eq g107.symm))
    have ne_a2_b107 : a2 ≠ b107 := Nat.ne_of_lt (Nat.lt_of_lt_of_le F2.lt (Nat.le_of_eq g107.symm))
    have gn_b107 : n0 ≤ b107 := Nat.le_trans Z0 (Nat.le_of_eq g107.symm)
    have sz_b107 : h0.size ≤ b107 := Nat.le_trans (Keep.refl h0 []).1 (Nat.le_of_eq g107.symm)
    have f108 : Fld Z h107 a1 "com/example/redoubt/redoubt/protocol/Freshness" "position" "J" (.long w3) := Fld.ext E107 F1
    have f109 : Fld Z h107 a2 "com/example/redoubt/redoubt/protocol/Freshness" "position" "J" (.long w4) := Fld.ext E107 F2
    have f110 : Fld Z h107 a1 "com/example/redoubt/redoubt/protocol/Freshness" "maxStalenessMillis" "J" (.long w5) := Fld.ext E107 F3
    have f111 : Fld Z h107 a2 "com/example/redoubt/redoubt/protocol/Freshness" "maxStalenessMillis" "J" (.long w6) := Fld.ext E107 F4
    have Zs107 : n0 ≤ h107.size := Nat.le_trans Z0 E107.1
    have K107 : Keep h0 h107 [] := (Keep.refl h0 []).ext E107
    have f112 : Fld Z h107 b107 "com/example/redoubt/redoubt/protocol/Freshness" "position" "J" (.long (0 : Int64)) := D107 (Or.inr (hw _ (List.mem_of_getElem? (i := 10) rfl))) (ty := .long) (by decide)
    have f113 : Fld Z h107 b107 "com/example/redoubt/redoubt/protocol/Freshness" "maxStalenessMillis" "J" (.long (0 : Int64)) := D107 (Or.inr (hw _ (List.mem_of_getElem? (i := 12) rfl))) (ty := .long) (by decide)
    obtain ⟨T114, X114, e114, st114⟩ := getF X107 hx hZ hown (host := "") (Or.inl (hw _ (List.mem_of_getElem? (i := 9) rfl))) Via.refl e107 f108 (g := (mkF m 49 #[.val (.ref a1), .val (.ref a2), .val (.long (own_max w5 w6)), .second] [(.ref a1), (.ref b107), (.ref b107)])) rfl rfl (hb hby d5_49)
    obtain ⟨T115, X115, e115, st115⟩ := getF X114 hx hZ hown (host := "") (Or.inl (hw _ (List.mem_of_getElem? (i := 9) rfl))) Via.refl e114 f109 (g := (mkF m 53 #[.val (.ref a1), .val (.ref a2), .val (.long (own_max w5 w6)), .second] [(.ref a2), (.long w3), (.ref b107), (.ref b107)])) rfl rfl (hb hby d5_53)
    obtain ⟨_, _, ⟨T116, L116, k116, n116⟩, -, X116, ⟨Lc116, hQ116, l116, y116, z116⟩, st116⟩ := Jvm.LawKit.callS X115 hx (y := (⟨"java/lang/Math", "max", "(JJ)J"⟩ : MethodName)) hown (mvT hZ (hw _ (List.mem_of_getElem? (i := 32) rfl))) (mvT hZ (hw _ (List.mem_of_getElem? (i := 33) rfl))) (mvT hZ (hw _ (List.mem_of_getElem? (i := 29) rfl))) (mvT hZ (hw _ (List.mem_of_getElem? (i := 34) rfl))) (by decide) (backOf (W := 2) (rm7 l Z a0 hw [] w3 w4 h107 n0 Zs107 ) hZ (hw _ (List.mem_of_getElem? (i := 34) rfl)) (hw _ (List.mem_of_getElem? (i := 29) rfl)) (by decide) (by decide)) (g := (mkF m 56 #[.val (.ref a1), .val (.ref a2), .val (.long (own_max w5 w6)), .second] [(.long w4), (.long w3), (.ref b107), (.ref b107)])) rfl (by rw [hml]; rfl) (argsL := [(.long w3), (.long w4)]) (rest := [(.ref b107), (.ref b107)]) (lenOf pd_0 rfl) rfl (by show 2 * 0 + _ ≤ _; exact Nat.le_of_eq rfl) (hb hby d5_56) (fun _ _ => ⟨rfl, e115, (by decide : 1 + 0 ≤ _), (by decide : 2 + 0 ≤ _)⟩)
    dsimp only [Pt.U, Pt.locs, Pt.cells, Pt.slots] at X116 l116 y116 z116 st116 hQ116
    subst l116 y116 z116
    obtain ⟨rfl, N116q, P116_0⟩ := hQ116
    have N116 := Fr.app N106 N116q
    obtain ⟨_, _, ⟨T117, L117, k117, n117⟩, -, X117, ⟨Lc117, hQ117, l117, y117, z117⟩, st117⟩ := X116.specialBack hx (y := (⟨"com/example/redoubt/redoubt/protocol/Freshness", "<init>", "(JJ)V"⟩ : MethodName)) rfl hown (mvT hZ (hw _ (List.mem_of_getElem? (i := 35) rfl))) (mvT hZ (hw _ (List.mem_of_getElem? (i := 4) rfl))) (mvT hZ (hw _ (List.mem_of_getElem? (i := 5) rfl))) (by decide) (backOf (W := 1) (rm1 l Z a0 hw [] b107 (own_max w3 w4) (own_max w5 w6) h107 n0 Zs107 A107 f112 f113 gn_b107) hZ (hw _ (List.mem_of_getElem? (i := 5) rfl)) (hw _ (List.mem_of_getElem? (i := 2) rfl)) (by decide) (by decide)) (g := (mkF m 60 #[.val (.ref a1), .val (.ref a2), .val (.long (own_max w5 w6)), .second] [(.long (own_max w5 w6)), (.long (own_max w3 w4)), (.ref b107), (.ref b107)])) rfl (by rw [hml]; rfl) (Steps.refl _) (a := b107) (argsL := [(.long (own_max w3 w4)), (.long (own_max w5 w6))]) (rest := [(.ref b107)]) (lenOf pd_1 rfl) rfl (by show 2 * 0 + _ ≤ _; exact Nat.le_of_eq rfl) (hb hby d5_60) (fun _ _ => ⟨rfl, P116_0, (by decide : 1 + 0 ≤ _), (by decide : 2 + 0 ≤ _)⟩)
    dsimp only [Pt.U, Pt.locs, Pt.cells, Pt.slots] at X117 l117 y117 z117 st117 hQ117
    subst l117 y117 z117
    obtain ⟨rfl, N117q, P117_0, P117_1, P117_2⟩ := hQ117
    have N117 := Fr.app N116 N117q
    have f118 : Fld Z T117.heap a1 "com/example/redoubt/redoubt/protocol/Freshness" "position" "J" (.long w3) := f108.keep P117_0 (ninS ne_a1_b107 nin0)
    have f119 : Fld Z T117.heap a2 "com/example/redoubt/redoubt/protocol/Freshness" "position" "J" (.long w4) := f109.keep P117_0 (ninS ne_a2_b107 nin0)
    have f120 : Fld Z T117.heap a1 "com/example/redoubt/redoubt/protocol/Freshness" "maxStalenessMillis" "J" (.long w5) := f110.keep P117_0 (ninS ne_a1_b107 nin0)
    have f121 : Fld Z T117.heap a2 "com/example/redoubt/redoubt/protocol/Freshness" "maxStalenessMillis" "J" (.long w6) := f111.keep P117_0 (ninS ne_a2_b107 nin0)
    have f122 : Exa Z T117.heap b107 "com/example/redoubt/redoubt/protocol/Freshness" := A107.keep P117_0
    have Zs117 : n0 ≤ T117.heap.size := Nat.le_trans Zs107 P117_0.1
    have K117 : Keep h0 T117.heap [] := K107.trans P117_0 (allS (Or.inr sz_b107) all0)
    obtain ⟨fs, hr, hrun, hended, hW, hsame⟩ := X117.leave (v := some (.ref b107)) (fun h => by rw [Bd.returns] at h; cases h) hlk
    refine ⟨_, _, pre0 _ ?_, hrun, hended, _, _, rfl, ?_, ⟨_, rfl⟩, hW, hsame.mono (by decide) (by decide)⟩
    · refine pr102 _ ?_
      show Steps p.tables e below (T101.setTop (mkF m 6 #[.val (.ref a1), .val (.ref a2), .unset, .unset] [(.int (lcmpW w5 (0 : Int64)))])) _
      refine XS.ifYes X101.here hx rfl (pc0 := 6) (pc' := 18) rfl (hb hby d5_6) rfl ((if0 _ _).trans (tlt ((lw_lt _ _).mpr hc103)).1) (by decide) (by decide) ?_
      show Steps p.tables e below (T101.setTop (mkF m 18 #[.val (.ref a1), .val (.ref a2), .unset, .unset] [])) _
      refine XS.aloadN X101.here hx rfl (hb hby d5_18) rfl rfl ?_
      show Steps p.tables e below (T101.setTop (mkF m 19 #[.val (.ref a1), .val (.ref a2), .unset, .unset] [(.ref a1)])) _
      refine st104 _ ?_
      show Steps p.tables e below (T104.setTop (mkF m 22 #[.val (.ref a1), .val (.ref a2), .unset, .unset] [(.long w5)])) _
      refine XS.aloadN X104.here hx rfl (hb hby d5_22) rfl rfl ?_
      show Steps p.tables e below (T104.setTop (mkF m 23 #[.val (.ref a1), .val (.ref a2), .unset, .unset] [(.ref a2), (.long w5)])) _
      refine st105 _ ?_
      show Steps p.tables e below (T105.setTop (mkF m 26 #[.val (.ref a1), .val (.ref a2), .unset, .unset] [(.long w6), (.long w5)])) _
      refine st106 _ ?_
      show Steps p.tables e below (T106.setTop (mkF m 29 #[.val (.ref a1), .val (.ref a2), .unset, .unset] [(.long (own_max w5 w6))])) _
      refine XS.goto X106.here hx rfl (pc0 := 29) (pc' := 43) rfl (hb hby d5_29) (by decide) (by decide) ?_
      show Steps p.tables e below (T106.setTop (mkF m 43 #[.val (.ref a1), .val (.ref a2), .unset, .unset] [(.long (own_max w5 w6))])) _
      refine XS.lstoreN X106.here hx rfl (hb hby d5_43) rfl (l' := #[.val (.ref a1), .val (.ref a2), .val (.long (own_max w5 w6)), .second]) rfl ?_
      show Steps p.tables e below (T106.setTop (mkF m 44 #[.val (.ref a1), .val (.ref a2), .val (.long (own_max w5 w6)), .second] [])) _
      refine st107 _ ?_
      show Steps p.tables e below (T107.setTop (mkF m 47 #[.val (.ref a1), .val (.ref a2), .val (.long (own_max w5 w6)), .second] [(.ref b107)])) _
      refine XS.dup X107.here hx rfl (hb hby d5_47) rfl rfl ?_
      show Steps p.tables e below (T107.setTop (mkF m 48 #[.val (.ref a1), .val (.ref a2), .val (.long (own_max w5 w6)), .second] [(.ref b107), (.ref b107)])) _
      refine XS.aloadN X107.here hx rfl (hb hby d5_48) rfl rfl ?_
      show Steps p.tables e below (T107.setTop (mkF m 49 #[.val (.ref a1), .val (.ref a2), .val (.long (own_max w5 w6)), .second] [(.ref a1), (.ref b107), (.ref b107)])) _
      refine st114 _ ?_
      show Steps p.tables e below (T114.setTop (mkF m 52 #[.val (.ref a1), .val (.ref a2), .val (.long (own_max w5 w6)), .second] [(.long w3), (.ref b107), (.ref b107)])) _
      refine XS.aloadN X114.here hx rfl (hb hby d5_52) rfl rfl ?_
      show Steps p.tables e below (T114.setTop (mkF m 53 #[.val (.ref a1), .val (.ref a2), .val (.long (own_max w5 w6)), .second] [(.ref a2), (.long w3), (.ref b107), (.ref b107)])) _
      refine st115 _ ?_
      show Steps p.tables e below (T115.setTop (mkF m 56 #[.val (.ref a1), .val (.ref a2), .val (.long (own_max w5 w6)), .second] [(.long w4), (.long w3), (.ref b107), (.ref b107)])) _
      refine st116 _ ?_
      show Steps p.tables e below (T116.setTop (mkF m 59 #[.val (.ref a1), .val (.ref a2), .val (.long (own_max w5 w6)), .second] [(.long (own_max w3 w4)), (.ref b107), (.ref b107)])) _
      refine XS.lloadN X116.here hx rfl (hb hby d5_59) rfl ?_
      show Steps p.tables e below (T116.setTop (mkF m 60 #[.val (.ref a1), .val (.ref a2), .val (.long (own_max w5 w6)), .second] [(.long (own_max w5 w6)), (.long (own_max w3 w4)), (.ref b107), (.ref b107)])) _
      refine st117.trans ?_
      show Steps p.tables e below (T117.setTop (mkF m 63 #[.val (.ref a1), .val (.ref a2), .val (.long (own_max w5 w6)), .second] [(.ref b107)])) _
      jvm_step X117.here [X117.here.top, hx, (hb hby d5_63), X117.method', Bd.returns, Value.isRef, FieldType.isReference]
      first | (intro acts; rw [hr _ acts rfl rfl rfl]) | rw [hr _ _ rfl rfl rfl]
      exact Steps.refl _
    · show Q5 Z a1 a2 w3 w4 w5 w6 h0 n0 _ T117.heap _
      exact ⟨b107, rfl, N117, K117, sz_b107, f122, P117_1, (by rw [show own_mil w5 w6 = (own_max w5 w6) from if_pos hc103]; exact P117_2)⟩
  · obtain ⟨T123, X123, e123, st123⟩ := getF X101 hx hZ hown (host := "") (Or.inl (hw _ (List.mem_of_getElem? (i := 11) rfl))) Via.refl e101 F4 (g := (mkF m 10 #[.val (.ref a1), .val (.ref a2), .unset, .unset] [(.ref a2)])) rfl rfl (hb hby d5_10)
    have pr124 : ∀ t, Steps p.tables e below (T123.setTop (mkF m 15 #[.val (.ref a1), .val (.ref a2), .unset, .unset] [(.int (lcmpW w6 (0 : Int64)))])) t → Steps p.tables e below (s₁.setTop (mkF m 0 #[.val (.ref a1), .val (.ref a2), .unset, .unset] [])) t := fun t kt => by
      refine pr102 _ ?_
      show Steps p.tables e below (T101.setTop (mkF m 6 #[.val (.ref a1), .val (.ref a2), .unset, .unset] [(.int (lcmpW w5 (0 : Int64)))])) _
      refine XS.ifNo X101.here hx rfl (hb hby d5_6) rfl ((if0 _ _).trans (flt (fun q => hc103 ((lw_lt _ _).mp q))).1) ?_
      show Steps p.tables e below (T101.setTop (mkF m 9 #[.val (.ref a1), .val (.ref a2), .unset, .unset] [])) _
      refine XS.aloadN X101.here hx rfl (hb hby d5_9) rfl rfl ?_
      show Steps p.tables e below (T101.setTop (mkF m 10 #[.val (.ref a1), .val (.ref a2), .unset, .unset] [(.ref a2)])) _
      refine st123 _ ?_
      show Steps p.tables e below (T123.setTop (mkF m 13 #[.val (.ref a1), .val (.ref a2), .unset, .unset] [(.long w6)])) _
      refine XS.lconst X123.here hx rfl (hb hby d5_13) ?_
      show Steps p.tables e below (T123.setTop (mkF m 14 #[.val (.ref a1), .val (.ref a2), .unset, .unset] [(.long (0 : Int64)), (.long w6)])) _
      refine XS.lcmp X123.here hx rfl (hb hby d5_14) rfl ?_
      exact kt
    by_cases hc125 : w6 < (0 : Int64)
    · obtain ⟨T126, X126, e126, st126⟩ := getF X123 hx hZ hown (host := "") (Or.inl (hw _ (List.mem_of_getElem? (i := 11) rfl))) Via.refl e123 F3 (g := (mkF m 19 #[.val (.ref a1), .val (.ref a2), .unset, .unset] [(.ref a1)])) rfl rfl (hb hby d5_19)
      obtain ⟨T127, X127, e127, st127⟩ := getF X126 hx hZ hown (host := "") (Or.inl (hw _ (List.mem_of_getElem? (i := 11) rfl))) Via.refl e126 F4 (g := (mkF m 23 #[.val (.ref a1), .val (.ref a2), .unset, .unset] [(.ref a2), (.long w5)])) rfl rfl (hb hby d5_23)
      obtain ⟨_, _, ⟨T128, L128, k128, n128⟩, -, X128, ⟨Lc128, hQ128, l128, y128, z128⟩, st128⟩ := Jvm.LawKit.callS X127 hx (y := (⟨"java/lang/Math", "max", "(JJ)J"⟩ : MethodName)) hown (mvT hZ (hw _ (List.mem_of_getElem? (i := 32) rfl))) (mvT hZ (hw _ (List.mem_of_getElem? (i := 33) rfl))) (mvT hZ (hw _ (List.mem_of_getElem? (i := 29) rfl))) (mvT hZ (hw _ (List.mem_of_getElem? (i := 34) rfl))) (by decide) (backOf (W := 0) (rm7 l Z a0 hw [] w5 w6 h0 n0 Z0 ) hZ (hw _ (List.mem_of_getElem? (i := 34) rfl)) (hw _ (List.mem_of_getElem? (i := 29) rfl)) (by decide) (by decide)) (g := (mkF m 26 #[.val (.ref a1), .val (.ref a2), .unset, .unset] [(.long w6), (.long w5)])) rfl (by rw [hml]; rfl) (argsL := [(.long w5), (.long w6)]) (rest := []) (lenOf pd_0 rfl) rfl (by show 2 * 0 + _ ≤ _; exact Nat.le_of_eq rfl) (hb hby d5_26) (fun _ _ => ⟨rfl, e127, (by decide : 0 + 0 ≤ _), (by decide : 0 + 0 ≤ _)⟩)
      dsimp only [Pt.U, Pt.locs, Pt.cells, Pt.slots] at X128 l128 y128 z128 st128 hQ128
      subst l128 y128 z128
      obtain ⟨rfl, N128q, P128_0⟩ := hQ128
      have N128 := Fr.app N0 N128q
      obtain ⟨T129, h129, X129, e129, E129, A129, D129, -, st129⟩ := newO X128 hx hZ hown (hw _ (List.mem_of_getElem? (i := 31) rfl)) (hw _ (List.mem_of_getElem? (i := 1) rfl)) (hw _ (List.mem_of_getElem? (i := 2) rfl)) P128_0 (g := (mkF m 44 #[.val (.ref a1), .val (.ref a2), .val (.long (own_max w5 w6)), .second] [])) rfl (hb hby d5_44) (by decide) (by decide)
      obtain ⟨b129, g129⟩ : ∃ z, z = h0.size := ⟨_, rfl⟩
      rw [← g129] at A129 D129 st129
      have ne_a1_b129 : a1 ≠ b129 := Nat.ne_of_lt (Nat.lt_of_lt_of_le F1.lt (Nat.le_of_eq g129.symm))
      have ne_a2_b129 : a2 ≠ b129 := Nat.ne_of_lt (Nat.lt_of_lt_of_le F2.lt (Nat.le_of_eq g129.symm))
      have gn_b129 : n0 ≤ b129 := Nat.le_trans Z0 (Nat.le_of_eq g129.symm)
      have sz_b129 : h0.size ≤ b129 := Nat.le_trans (Keep.refl h0 []).1 (Nat.le_of_eq g129.symm)
      have f130 : Fld Z h129 a1 "com/example/redoubt/redoubt/protocol/Freshness" "position" "J" (.long w3) := Fld.ext E129 F1
      have f131 : Fld Z h129 a2 "com/example/redoubt/redoubt/protocol/Freshness" "position" "J" (.long w4) := Fld.ext E129 F2
      have f132 : Fld Z h129 a1 "com/example/redoubt/redoubt/protocol/Freshness" "maxStalenessMillis" "J" (.long w5) := Fld.ext E129 F3
      have f133 : Fld Z h129 a2 "com/example/redoubt/redoubt/protocol/Freshness" "maxStalenessMillis" "J" (.long w6) := Fld.ext E129 F4
      have Zs129 : n0 ≤ h129.size := Nat.le_trans Z0 E129.1
      have K129 : Keep h0 h129 [] := (Keep.refl h0 []).ext E129
      have f134 : Fld Z h129 b129 "com/example/redoubt/redoubt/protocol/Freshness" "position" "J" (.long (0 : Int64)) := D129 (Or.inr (hw _ (List.mem_of_getElem? (i := 10) rfl))) (ty := .long) (by decide)
      have f135 : Fld Z h129 b129 "com/example/redoubt/redoubt/protocol/Freshness" "maxStalenessMillis" "J" (.long (0 : Int64)) := D129 (Or.inr (hw _ (List.mem_of_getElem? (i := 12) rfl))) (ty := .long) (by decide)
      obtain ⟨T136, X136, e136, st136⟩ := getF X129 hx hZ hown (host := "") (Or.inl (hw _ (List.mem_of_getElem? (i := 9) rfl))) Via.refl e129 f130 (g := (mkF m 49 #[.val (.ref a1), .val (.ref a2), .val (.long (own_max w5 w6)), .second] [(.ref a1), (.ref b129), (.ref b129)])) rfl rfl (hb hby d5_49)
      obtain ⟨T137, X137, e137, st137⟩ := getF X136 hx hZ hown (host := "") (Or.inl (hw _ (List.mem_of_getElem? (i := 9) rfl))) Via.refl e136 f131 (g := (mkF m 53 #[.val (.ref a1), .val (.ref a2), .val (.long (own_max w5 w6)), .second] [(.ref a2), (.long w3), (.ref b129), (.ref b129)])) rfl rfl (hb hby d5_53)
      obtain ⟨_, _, ⟨T138, L138, k138, n138⟩, -, X138, ⟨Lc138, hQ138, l138, y138, z138⟩, st138⟩ := Jvm.LawKit.callS X137 hx (y := (⟨"java/lang/Math", "max", "(JJ)J"⟩ : MethodName)) hown (mvT hZ (hw _ (List.mem_of_getElem? (i := 32) rfl))) (mvT hZ (hw _ (List.mem_of_getElem? (i := 33) rfl))) (mvT hZ (hw _ (List.mem_of_getElem? (i := 29) rfl))) (mvT hZ (hw _ (List.mem_of_getElem? (i := 34) rfl))) (by decide) (backOf (W := 2) (rm7 l Z a0 hw [] w3 w4 h129 n0 Zs129 ) hZ (hw _ (List.mem_of_getElem? (i := 34) rfl)) (hw _ (List.mem_of_getElem? (i := 29) rfl)) (by decide) (by decide)) (g := (mkF m 56 #[.val (.ref a1), .val (.ref a2), .val (.long (own_max w5 w6)), .second] [(.long w4), (.long w3), (.ref b129), (.ref b129)])) rfl (by rw [hml]; rfl) (argsL := [(.long w3), (.long w4)]) (rest := [(.ref b129), (.ref b129)]) (lenOf pd_0 rfl) rfl (by show 2 * 0 + _ ≤ _; exact Nat.le_of_eq rfl) (hb hby d5_56) (fun _ _ => ⟨rfl, e137, (by decide : 1 + 0 ≤ _), (by decide : 2 + 0 ≤ _)⟩)
      dsimp only [Pt.U, Pt.locs, Pt.cells, Pt.slots] at X138 l138 y138 z138 st138 hQ138
      subst l138 y138 z138
      obtain ⟨rfl, N138q, P138_0⟩ := hQ138
      have N138 := Fr.app N128 N138q
      obtain ⟨_, _, ⟨T139, L139, k139, n139⟩, -, X139, ⟨Lc139, hQ139, l139, y139, z139⟩, st139⟩ := X138.specialBack hx (y := (⟨"com/example/redoubt/redoubt/protocol/Freshness", "<init>", "(JJ)V"⟩ : MethodName)) rfl hown (mvT hZ (hw _ (List.mem_of_getElem? (i := 35) rfl))) (mvT hZ (hw _ (List.mem_of_getElem? (i := 4) rfl))) (mvT hZ (hw _ (List.mem_of_getElem? (i := 5) rfl))) (by decide) (backOf (W := 1) (rm1 l Z a0 hw [] b129 (own_max w3 w4) (own_max w5 w6) h129 n0 Zs129 A129 f134 f135 gn_b129) hZ (hw _ (List.mem_of_getElem? (i := 5) rfl)) (hw _ (List.mem_of_getElem? (i := 2) rfl)) (by decide) (by decide)) (g := (mkF m 60 #[.val (.ref a1), .val (.ref a2), .val (.long (own_max w5 w6)), .second] [(.long (own_max w5 w6)), (.long (own_max w3 w4)), (.ref b129), (.ref b129)])) rfl (by rw [hml]; rfl) (Steps.refl _) (a := b129) (argsL := [(.long (own_max w3 w4)), (.long (own_max w5 w6))]) (rest := [(.ref b129)]) (lenOf pd_1 rfl) rfl (by show 2 * 0 + _ ≤ _; exact Nat.le_of_eq rfl) (hb hby d5_60) (fun _ _ => ⟨rfl, P138_0, (by decide : 1 + 0 ≤ _), (by decide : 2 + 0 ≤ _)⟩)
      dsimp only [Pt.U, Pt.locs, Pt.cells, Pt.slots] at X139 l139 y139 z139 st139 hQ139
      subst l139 y139 z139
      obtain ⟨rfl, N139q, P139_0, P139_1, P139_2⟩ := hQ139
      have N139 := Fr.app N138 N139q
      have f140 : Fld Z T139.heap a1 "com/example/redoubt/redoubt/protocol/Freshness" "position" "J" (.long w3) := f130.keep P139_0 (ninS ne_a1_b129 nin0)
      have f141 : Fld Z T139.heap a2 "com/example/redoubt/redoubt/protocol/Freshness" "position" "J" (.long w4) := f131.keep P139_0 (ninS ne_a2_b129 nin0)
      have f142 : Fld Z T139.heap a1 "com/example/redoubt/redoubt/protocol/Freshness" "maxStalenessMillis" "J" (.long w5) := f132.keep P139_0 (ninS ne_a1_b129 nin0)
      have f143 : Fld Z T139.heap a2 "com/example/redoubt/redoubt/protocol/Freshness" "maxStalenessMillis" "J" (.long w6) := f133.keep P139_0 (ninS ne_a2_b129 nin0)
      have f144 : Exa Z T139.heap b129 "com/example/redoubt/redoubt/protocol/Freshness" := A129.keep P139_0
      have Zs139 : n0 ≤ T139.heap.size := Nat.le_trans Zs129 P139_0.1
      have K139 : Keep h0 T139.heap [] := K129.trans P139_0 (allS (Or.inr sz_b129) all0)
      obtain ⟨fs, hr, hrun, hended, hW, hsame⟩ := X139.leave (v := some (.ref b129)) (fun h => by rw [Bd.returns] at h; cases h) hlk
      refine ⟨_, _, pre0 _ ?_, hrun, hended, _, _, rfl, ?_, ⟨_, rfl⟩, hW, hsame.mono (by decide) (by decide)⟩
      · refine pr124 _ ?_
        show Steps p.tables e below (T123.setTop (mkF m 15 #[.val (.ref a1), .val (.ref a2), .unset, .unset] [(.int (lcmpW w6 (0 : Int64)))])) _
        refine XS.ifNo X123.here hx rfl (hb hby d5_15) rfl ((if0 _ _).trans (tlt ((lw_lt _ _).mpr hc125)).2.1) ?_
        show Steps p.tables e below (T123.setTop (mkF m 18 #[.val (.ref a1), .val (.ref a2), .unset, .unset] [])) _
        refine XS.aloadN X123.here hx rfl (hb hby d5_18) rfl rfl ?_
        show Steps p.tables e below (T123.setTop (mkF m 19 #[.val (.ref a1), .val (.ref a2), .unset, .unset] [(.ref a1)])) _
        refine st126 _ ?_
        show Steps p.tables e below (T126.setTop (mkF m 22 #[.val (.ref a1), .val (.ref a2), .unset, .unset] [(.long w5)])) _
        refine XS.aloadN X126.here hx rfl (hb hby d5_22) rfl rfl ?_
        show Steps p.tables e below (T126.setTop (mkF m 23 #[.val (.ref a1), .val (.ref a2), .unset, .unset] [(.ref a2), (.long w5)])) _
        refine st127 _ ?_
        show Steps p.tables e below (T127.setTop (mkF m 26 #[.val (.ref a1), .val (.ref a2), .unset, .unset] [(.long w6), (.long w5)])) _
        refine st128 _ ?_
        show Steps p.tables e below (T128.setTop (mkF m 29 #[.val (.ref a1), .val (.ref a2), .unset, .unset] [(.long (own_max w5 w6))])) _
        refine XS.goto X128.here hx rfl (pc0 := 29) (pc' := 43) rfl (hb hby d5_29) (by decide) (by decide) ?_
        show Steps p.tables e below (T128.setTop (mkF m 43 #[.val (.ref a1), .val (.ref a2), .unset, .unset] [(.long (own_max w5 w6))])) _
        refine XS.lstoreN X128.here hx rfl (hb hby d5_43) rfl (l' := #[.val (.ref a1), .val (.ref a2), .val (.long (own_max w5 w6)), .second]) rfl ?_
        show Steps p.tables e below (T128.setTop (mkF m 44 #[.val (.ref a1), .val (.ref a2), .val (.long (own_max w5 w6)), .second] [])) _
        refine st129 _ ?_
        show Steps p.tables e below (T129.setTop (mkF m 47 #[.val (.ref a1), .val (.ref a2), .val (.long (own_max w5 w6)), .second] [(.ref b129)])) _
        refine XS.dup X129.here hx rfl (hb hby d5_47) rfl rfl ?_
        show Steps p.tables e below (T129.setTop (mkF m 48 #[.val (.ref a1), .val (.ref a2), .val (.long (own_max w5 w6)), .second] [(.ref b129), (.ref b129)])) _
        refine XS.aloadN X129.here hx rfl (hb hby d5_48) rfl rfl ?_
        show Steps p.tables e below (T129.setTop (mkF m 49 #[.val (.ref a1), .val (.ref a2), .val (.long (own_max w5 w6)), .second] [(.ref a1), (.ref b129), (.ref b129)])) _
        refine st136 _ ?_
        show Steps p.tables e below (T136.setTop (mkF m 52 #[.val (.ref a1), .val (.ref a2), .val (.long (own_max w5 w6)), .second] [(.long w3), (.ref b129), (.ref b129)])) _
        refine XS.aloadN X136.here hx rfl (hb hby d5_52) rfl rfl ?_
        show Steps p.tables e below (T136.setTop (mkF m 53 #[.val (.ref a1), .val (.ref a2), .val (.long (own_max w5 w6)), .second] [(.ref a2), (.long w3), (.ref b129), (.ref b129)])) _
        refine st137 _ ?_
        show Steps p.tables e below (T137.setTop (mkF m 56 #[.val (.ref a1), .val (.ref a2), .val (.long (own_max w5 w6)), .second] [(.long w4), (.long w3), (.ref b129), (.ref b129)])) _
        refine st138 _ ?_
        show Steps p.tables e below (T138.setTop (mkF m 59 #[.val (.ref a1), .val (.ref a2), .val (.long (own_max w5 w6)), .second] [(.long (own_max w3 w4)), (.ref b129), (.ref b129)])) _
        refine XS.lloadN X138.here hx rfl (hb hby d5_59) rfl ?_
        show Steps p.tables e below (T138.setTop (mkF m 60 #[.val (.ref a1), .val (.ref a2), .val (.long (own_max w5 w6)), .second] [(.long (own_max w5 w6)), (.long (own_max w3 w4)), (.ref b129), (.ref b129)])) _
        refine st139.trans ?_
        show Steps p.tables e below (T139.setTop (mkF m 63 #[.val (.ref a1), .val (.ref a2), .val (.long (own_max w5 w6)), .second] [(.ref b129)])) _
        jvm_step X139.here [X139.here.top, hx, (hb hby d5_63), X139.method', Bd.returns, Value.isRef, FieldType.isReference]
        first | (intro acts; rw [hr _ acts rfl rfl rfl]) | rw [hr _ _ rfl rfl rfl]
        exact Steps.refl _
      · show Q5 Z a1 a2 w3 w4 w5 w6 h0 n0 _ T139.heap _
        exact ⟨b129, rfl, N139, K139, sz_b129, f144, P139_1, (by rw [show own_mil w5 w6 = (own_max w5 w6) from (if_neg hc103).trans (if_pos hc125)]; exact P139_2)⟩
    · obtain ⟨T145, X145, e145, st145⟩ := getF X123 hx hZ hown (host := "") (Or.inl (hw _ (List.mem_of_getElem? (i := 11) rfl))) Via.refl e123 F3 (g := (mkF m 33 #[.val (.ref a1), .val (.ref a2), .unset, .unset] [(.ref a1)])) rfl rfl (hb hby d5_33)
      obtain ⟨T146, X146, e146, st146⟩ := getF X145 hx hZ hown (host := "") (Or.inl (hw _ (List.mem_of_getElem? (i := 11) rfl))) Via.refl e145 F4 (g := (mkF m 37 #[.val (.ref a1), .val (.ref a2), .unset, .unset] [(.ref a2), (.long w5)])) rfl rfl (hb hby d5_37)
      obtain ⟨_, _, ⟨T147, L147, k147, n147⟩, -, X147, ⟨Lc147, hQ147, l147, y147, z147⟩, st147⟩ := Jvm.LawKit.callS X146 hx (y := (⟨"java/lang/Math", "min", "(JJ)J"⟩ : MethodName)) hown (mvT hZ (hw _ (List.mem_of_getElem? (i := 27) rfl))) (mvT hZ (hw _ (List.mem_of_getElem? (i := 28) rfl))) (mvT hZ (hw _ (List.mem_of_getElem? (i := 29) rfl))) (mvT hZ (hw _ (List.mem_of_getElem? (i := 30) rfl))) (by decide) (backOf (W := 0) (rm6 l Z a0 hw [] w5 w6 h0 n0 Z0 ) hZ (hw _ (List.mem_of_getElem? (i := 30) rfl)) (hw _ (List.mem_of_getElem? (i := 29) rfl)) (by decide) (by decide)) (g := (mkF m 40 #[.val (.ref a1), .val (.ref a2), .unset, .unset] [(.long w6), (.long w5)])) rfl (by rw [hml]; rfl) (argsL := [(.long w5), (.long w6)]) (rest := []) (lenOf pd_0 rfl) rfl (by show 2 * 0 + _ ≤ _; exact Nat.le_of_eq rfl) (hb hby d5_40) (fun _ _ => ⟨rfl, e146, (by decide : 0 + 0 ≤ _), (by decide : 0 + 0 ≤ _)⟩)
      dsimp only [Pt.U, Pt.locs, Pt.cells, Pt.slots] at X147 l147 y147 z147 st147 hQ147
      subst l147 y147 z147
      obtain ⟨rfl, N147q, P147_0⟩ := hQ147
      have N147 := Fr.app N0 N147q
      obtain ⟨T148, h148, X148, e148, E148, A148, D148, -, st148⟩ := newO X147 hx hZ hown (hw _ (List.mem_of_getElem? (i := 31) rfl)) (hw _ (List.mem_of_getElem? (i := 1) rfl)) (hw _ (List.mem_of_getElem? (i := 2) rfl)) P147_0 (g := (mkF m 44 #[.val (.ref a1), .val (.ref a2), .val (.long (own_min w5 w6)), .second] [])) rfl (hb hby d5_44) (by decide) (by decide)
      obtain ⟨b148, g148⟩ : ∃ z, z = h0.size := ⟨_, rfl⟩
      rw [← g148] at A148 D148 st148
      have ne_a1_b148 : a1 ≠ b148 := Nat.ne_of_lt (Nat.lt_of_lt_of_le F1.lt (Nat.le_of_eq g148.symm))
      have ne_a2_b148 : a2 ≠ b148 := Nat.ne_of_lt (Nat.lt_of_lt_of_le F2.lt (Nat.le_of_eq g148.symm))
      have gn_b148 : n0 ≤ b148 := Nat.le_trans Z0 (Nat.le_of_eq g148.symm)
      have sz_b148 : h0.size ≤ b148 := Nat.le_trans (Keep.refl h0 []).1 (Nat.le_of_eq g148.symm)
      have f149 : Fld Z h148 a1 "com/example/redoubt/redoubt/protocol/Freshness" "position" "J" (.long w3) := Fld.ext E148 F1
      have f150 : Fld Z h148 a2 "com/example/redoubt/redoubt/protocol/Freshness" "position" "J" (.long w4) := Fld.ext E148 F2
      have f151 : Fld Z h148 a1 "com/example/redoubt/redoubt/protocol/Freshness" "maxStalenessMillis" "J" (.long w5) := Fld.ext E148 F3
      have f152 : Fld Z h148 a2 "com/example/redoubt/redoubt/protocol/Freshness" "maxStalenessMillis" "J" (.long w6) := Fld.ext E148 F4
      have Zs148 : n0 ≤ h148.size := Nat.le_trans Z0 E148.1
      have K148 : Keep h0 h148 [] := (Keep.refl h0 []).ext E148
      have f153 : Fld Z h148 b148 "com/example/redoubt/redoubt/protocol/Freshness" "position" "J" (.long (0 : Int64)) := D148 (Or.inr (hw _ (List.mem_of_getElem? (i := 10) rfl))) (ty := .long) (by decide)
      have f154 : Fld Z h148 b148 "com/example/redoubt/redoubt/protocol/Freshness" "maxStalenessMillis" "J" (.long (0 : Int64)) := D148 (Or.inr (hw _ (List.mem_of_getElem? (i := 12) rfl))) (ty := .long) (by decide)
      obtain ⟨T155, X155, e155, st155⟩ := getF X148 hx hZ hown (host := "") (Or.inl (hw _ (List.mem_of_getElem? (i := 9) rfl))) Via.refl e148 f149 (g := (mkF m 49 #[.val (.ref a1), .val (.ref a2), .val (.long (own_min w5 w6)), .second] [(.ref a1), (.ref b148), (.ref b148)])) rfl rfl (hb hby d5_49)
      obtain ⟨T156, X156, e156, st156⟩ := getF X155 hx hZ hown (host := "") (Or.inl (hw _ (List.mem_of_getElem? (i := 9) rfl))) Via.refl e155 f150 (g := (mkF m 53 #[.val (.ref a1), .val (.ref a2), .val (.long (own_min w5 w6)), .second] [(.ref a2), (.long w3), (.ref b148), (.ref b148)])) rfl rfl (hb hby d5_53)
      obtain ⟨_, _, ⟨T157, L157, k157, n157⟩, -, X157, ⟨Lc157, hQ157, l157, y157, z157⟩, st157⟩ := Jvm.LawKit.callS X156 hx (y := (⟨"java/lang/Math", "max", "(JJ)J"⟩ : MethodName)) hown (mvT hZ (hw _ (List.mem_of_getElem? (i := 32) rfl))) (mvT hZ (hw _ (List.mem_of_getElem? (i := 33) rfl))) (mvT hZ (hw _ (List.mem_of_getElem? (i := 29) rfl))) (mvT hZ (hw _ (List.mem_of_getElem? (i := 34) rfl))) (by decide) (backOf (W := 2) (rm7 l Z a0 hw [] w3 w4 h148 n0 Zs148 ) hZ (hw _ (List.mem_of_getElem? (i := 34) rfl)) (hw _ (List.mem_of_getElem? (i := 29) rfl)) (by decide) (by decide)) (g := (mkF m 56 #[.val (.ref a1), .val (.ref a2), .val (.long (own_min w5 w6)), .second] [(.long w4), (.long w3), (.ref b148), (.ref b148)])) rfl (by rw [hml]; rfl) (argsL := [(.long w3), (.long w4)]) (rest := [(.ref b148), (.ref b148)]) (lenOf pd_0 rfl) rfl (by show 2 * 0 + _ ≤ _; exact Nat.le_of_eq rfl) (hb hby d5_56) (fun _ _ => ⟨rfl, e156, (by decide : 1 + 0 ≤ _), (by decide : 2 + 0 ≤ _)⟩)
      dsimp only [Pt.U, Pt.locs, Pt.cells, Pt.slots] at X157 l157 y157 z157 st157 hQ157
      subst l157 y157 z157
      obtain ⟨rfl, N157q, P157_0⟩ := hQ157
      have N157 := Fr.app N147 N157q
      obtain ⟨_, _, ⟨T158, L158, k158, n158⟩, -, X158, ⟨Lc158, hQ158, l158, y158, z158⟩, st158⟩ := X157.specialBack hx (y := (⟨"com/example/redoubt/redoubt/protocol/Freshness", "<init>", "(JJ)V"⟩ : MethodName)) rfl hown (mvT hZ (hw _ (List.mem_of_getElem? (i := 35) rfl))) (mvT hZ (hw _ (List.mem_of_getElem? (i := 4) rfl))) (mvT hZ (hw _ (List.mem_of_getElem? (i := 5) rfl))) (by decide) (backOf (W := 1) (rm1 l Z a0 hw [] b148 (own_max w3 w4) (own_min w5 w6) h148 n0 Zs148 A148 f153 f154 gn_b148) hZ (hw _ (List.mem_of_getElem? (i := 5) rfl)) (hw _ (List.mem_of_getElem? (i := 2) rfl)) (by decide) (by decide)) (g := (mkF m 60 #[.val (.ref a1), .val (.ref a2), .val (.long (own_min w5 w6)), .second] [(.long (own_min w5 w6)), (.long (own_max w3 w4)), (.ref b148), (.ref b148)])) rfl (by rw [hml]; rfl) (Steps.refl _) (a := b148) (argsL := [(.long (own_max w3 w4)), (.long (own_min w5 w6))]) (rest := [(.ref b148)]) (lenOf pd_1 rfl) rfl (by show 2 * 0 + _ ≤ _; exact Nat.le_of_eq rfl) (hb hby d5_60) (fun _ _ => ⟨rfl, P157_0, (by decide : 1 + 0 ≤ _), (by decide : 2 + 0 ≤ _)⟩)
      dsimp only [Pt.U, Pt.locs, Pt.cells, Pt.slots] at X158 l158 y158 z158 st158 hQ158
      subst l158 y158 z158
      obtain ⟨rfl, N158q, P158_0, P158_1, P158_2⟩ := hQ158
      have N158 := Fr.app N157 N158q
      have f159 : Fld Z T158.heap a1 "com/example/redoubt/redoubt/protocol/Freshness" "position" "J" (.long w3) := f149.keep P158_0 (ninS ne_a1_b148 nin0)
      have f160 : Fld Z T158.heap a2 "com/example/redoubt/redoubt/protocol/Freshness" "position" "J" (.long w4) := f150.keep P158_0 (ninS ne_a2_b148 nin0)
      have f161 : Fld Z T158.heap a1 "com/example/redoubt/redoubt/protocol/Freshness" "maxStalenessMillis" "J" (.long w5) := f151.keep P158_0 (ninS ne_a1_b148 nin0)
      have f162 : Fld Z T158.heap a2 "com/example/redoubt/redoubt/protocol/Freshness" "maxStalenessMillis" "J" (.long w6) := f152.keep P158_0 (ninS ne_a2_b148 nin0)
      have f163 : Exa Z T158.heap b148 "com/example/redoubt/redoubt/protocol/Freshness" := A148.keep P158_0
      have Zs158 : n0 ≤ T158.heap.size := Nat.le_trans Zs148 P158_0.1
      have K158 : Keep h0 T158.heap [] := K148.trans P158_0 (allS (Or.inr sz_b148) all0)
      obtain ⟨fs, hr, hrun, hended, hW, hsame⟩ := X158.leave (v := some (.ref b148)) (fun h => by rw [Bd.returns] at h; cases h) hlk
      refine ⟨_, _, pre0 _ ?_, hrun, hended, _, _, rfl, ?_, ⟨_, rfl⟩, hW, hsame.mono (by decide) (by decide)⟩
      · refine pr124 _ ?_
        show Steps p.tables e below (T123.setTop (mkF m 15 #[.val (.ref a1), .val (.ref a2), .unset, .unset] [(.int (lcmpW w6 (0 : Int64)))])) _
        refine XS.ifYes X123.here hx rfl (pc0 := 15) (pc' := 32) rfl (hb hby d5_15) rfl ((if0 _ _).trans (flt (fun q => hc125 ((lw_lt _ _).mp q))).2.1) (by decide) (by decide) ?_
        show Steps p.tables e below (T123.setTop (mkF m 32 #[.val (.ref a1), .val (.ref a2), .unset, .unset] [])) _
        refine XS.aloadN X123.here hx rfl (hb hby d5_32) rfl rfl ?_
        show Steps p.tables e below (T123.setTop (mkF m 33 #[.val (.ref a1), .val (.ref a2), .unset, .unset] [(.ref a1)])) _
        refine st145 _ ?_
        show Steps p.tables e below (T145.setTop (mkF m 36 #[.val (.ref a1), .val (.ref a2), .unset, .unset] [(.long w5)])) _
        refine XS.aloadN X145.here hx rfl (hb hby d5_36) rfl rfl ?_
        show Steps p.tables e below (T145.setTop (mkF m 37 #[.val (.ref a1), .val (.ref a2), .unset, .unset] [(.ref a2), (.long w5)])) _
        refine st146 _ ?_
        show Steps p.tables e below (T146.setTop (mkF m 40 #[.val (.ref a1), .val (.ref a2), .unset, .unset] [(.long w6), (.long w5)])) _
        refine st147 _ ?_
        show Steps p.tables e below (T147.setTop (mkF m 43 #[.val (.ref a1), .val (.ref a2), .unset, .unset] [(.long (own_min w5 w6))])) _
        refine XS.lstoreN X147.here hx rfl (hb hby d5_43) rfl (l' := #[.val (.ref a1), .val (.ref a2), .val (.long (own_min w5 w6)), .second]) rfl ?_
        show Steps p.tables e below (T147.setTop (mkF m 44 #[.val (.ref a1), .val (.ref a2), .val (.long (own_min w5 w6)), .second] [])) _
        refine st148 _ ?_
        show Steps p.tables e below (T148.setTop (mkF m 47 #[.val (.ref a1), .val (.ref a2), .val (.long (own_min w5 w6)), .second] [(.ref b148)])) _
        refine XS.dup X148.here hx rfl (hb hby d5_47) rfl rfl ?_
        show Steps p.tables e below (T148.setTop (mkF m 48 #[.val (.ref a1), .val (.ref a2), .val (.long (own_min w5 w6)), .second] [(.ref b148), (.ref b148)])) _
        refine XS.aloadN X148.here hx rfl (hb hby d5_48) rfl rfl ?_
        show Steps p.tables e below (T148.setTop (mkF m 49 #[.val (.ref a1), .val (.ref a2), .val (.long (own_min w5 w6)), .second] [(.ref a1), (.ref b148), (.ref b148)])) _
        refine st155 _ ?_
        show Steps p.tables e below (T155.setTop (mkF m 52 #[.val (.ref a1), .val (.ref a2), .val (.long (own_min w5 w6)), .second] [(.long w3), (.ref b148), (.ref b148)])) _
        refine XS.aloadN X155.here hx rfl (hb hby d5_52) rfl rfl ?_
        show Steps p.tables e below (T155.setTop (mkF m 53 #[.val (.ref a1), .val (.ref a2), .val (.long (own_min w5 w6)), .second] [(.ref a2), (.long w3), (.ref b148), (.ref b148)])) _
        refine st156 _ ?_
        show Steps p.tables e below (T156.setTop (mkF m 56 #[.val (.ref a1), .val (.ref a2), .val (.long (own_min w5 w6)), .second] [(.long w4), (.long w3), (.ref b148), (.ref b148)])) _
        refine st157 _ ?_
        show Steps p.tables e below (T157.setTop (mkF m 59 #[.val (.ref a1), .val (.ref a2), .val (.long (own_min w5 w6)), .second] [(.long (own_max w3 w4)), (.ref b148), (.ref b148)])) _
        refine XS.lloadN X157.here hx rfl (hb hby d5_59) rfl ?_
        show Steps p.tables e below (T157.setTop (mkF m 60 #[.val (.ref a1), .val (.ref a2), .val (.long (own_min w5 w6)), .second] [(.long (own_min w5 w6)), (.long (own_max w3 w4)), (.ref b148), (.ref b148)])) _
        refine st158.trans ?_
        show Steps p.tables e below (T158.setTop (mkF m 63 #[.val (.ref a1), .val (.ref a2), .val (.long (own_min w5 w6)), .second] [(.ref b148)])) _
        jvm_step X158.here [X158.here.top, hx, (hb hby d5_63), X158.method', Bd.returns, Value.isRef, FieldType.isReference]
        first | (intro acts; rw [hr _ acts rfl rfl rfl]) | rw [hr _ _ rfl rfl rfl]
        exact Steps.refl _
      · show Q5 Z a1 a2 w3 w4 w5 w6 h0 n0 _ T158.heap _
        exact ⟨b148, rfl, N158, K158, sz_b148, f163, P158_1, (by rw [show own_mil w5 w6 = (own_min w5 w6) from (if_neg hc103).trans (if_neg hc125)]; exact P158_2)⟩
theorem ef_0 (m : MethodId) (x0 : Int64) (x1 : Int64) (x2 : Int64) (x3 : Int64) : entryFrame m #[(.long x0), (.long x1), (.long x2), (.long x3)] maxLocals = mkF m 0 #[.val (.long x0), .second, .val (.long x1), .second, .val (.long x2), .second, .val (.long x3), .second, .unset, .unset, .unset, .unset, .unset, .unset, .unset, .unset] [] := by first | (simp [entryFrame, mkF, argsToLocals, Value.category, maxLocals]; done) | rfl
theorem pd_2 : parseMethodDescriptor "(JJ)Z" = some ⟨[.long, .long], some .boolean⟩ := by decide +kernel
theorem pd_3 : parseMethodDescriptor "()Z" = some ⟨[], some .boolean⟩ := by decide +kernel
theorem pd_4 : parseMethodDescriptor "(Lcom/example/redoubt/redoubt/protocol/Freshness;)Lcom/example/redoubt/redoubt/protocol/Freshness;" = some ⟨[(.object "com/example/redoubt/redoubt/protocol/Freshness")], some (.object "com/example/redoubt/redoubt/protocol/Freshness")⟩ := by decide +kernel
def Q0 (Z : State) (q1 : Int64) (q2 : Int64) (q3 : Int64) (q4 : Int64) (wr5 : Addr) (h0 : Heap) (n0 : Nat) (v : Option Value) (h : Heap) (L : List Loc) : Prop := v = some (.int (1 : Int32)) ∧ Fr n0 L
set_option maxRecDepth 65536 in
set_option maxHeartbeats 40000000 in
theorem rm0 (l : Launch) (Z : State) (a0 : Array Value) (hw : ∀ d ∈ tables_1, d.before a0 Z = true) (ws : List Jvm.Cond) (q1 : Int64) (q2 : Int64) (q3 : Int64) (q4 : Int64) (wr5 : Addr) (h0 : Heap) (n0 : Nat) (Z0 : n0 ≤ h0.size) (O0 : Old Z n0 h0) (pf0 : Exa Z Z.heap wr5 "com/example/redoubt/redoubt/protocol/Freshness") (pf1 : Sta Z Z.heap "com/example/redoubt/redoubt/protocol/Freshness" "ANY" "Lcom/example/redoubt/redoubt/protocol/Freshness;" (.ref wr5)) (pf2 : Fld Z Z.heap wr5 "com/example/redoubt/redoubt/protocol/Freshness" "position" "J" (.long (-1 : Int64))) (pf3 : Fld Z Z.heap wr5 "com/example/redoubt/redoubt/protocol/Freshness" "maxStalenessMillis" "J" (.long (-1 : Int64))) :
    MetFree l x (head1 (Jvm.Cond.code x code maxLocals ret :: ws) room_1) (fun a U => a = #[(.long q1), (.long q2), (.long q3), (.long q4)] ∧ Z.Warmed39 U.vm ∧ U.heap = h0) (fun _ _ _ _ _ => True) (fun _ U o U' => ∃ v L, o = .returned v ∧ Q0 Z q1 q2 q3 q4 wr5 h0 n0 v U'.heap L ∧ FrameEnd U o U' L room_1.cells room_1.slots) := by
  refine MetFree.of_bodySF (plainFor_of_name pn_1) hisR ?_
  intro p e s m args below meth c s₁ Bd hml0 hP hK
  obtain ⟨rfl, hZ, hh⟩ := hP
  have hx := Bd.exec
  have hby := Bd.bytes
  have hml : c.maxLocals = 16 := hml0
  have hown : s.vm.findClass "com/example/redoubt/redoubt/protocol/FreshnessBoundedPinLaw" = some m.cls := findClass_of_methodNamed Bd.named
  have hnm := (name_of_methodNamed Bd.named Bd.method).1
  have hlk : meth.locks = false := by first | exact BodyLoose.notSynchronized Bd | exact Body.notSynchronized Bd
  have X0 : Stand p l e room_1 s m #[(.long q1), (.long q2), (.long q3), (.long q4)] below meth c s₁ [] 0 0 := Stand.of_body Bd
  have e0 : s₁.heap = h0 := by rw [← hh, Bd.state]; rfl
  have N0 := Fr.nil n0
  have pre0 : ∀ t, Steps p.tables e below (s₁.setTop (mkF m 0 #[.val (.long q1), .second, .val (.long q2), .second, .val (.long q3), .second, .val (.long q4), .second, .unset, .unset, .unset, .unset, .unset, .unset, .unset, .unset] [])) t → Steps p.tables e below (s₁.setTop (entryFrame m #[(.long q1), (.long q2), (.long q3), (.long q4)] maxLocals)) t := fun t k => castTop (ef_0 m q1 q2 q3 q4) k
  obtain ⟨T101, h101, X101, e101, E101, A101, D101, -, st101⟩ := newO X0 hx hZ hown (hw _ (List.mem_of_getElem? (i := 0) rfl)) (hw _ (List.mem_of_getElem? (i := 1) rfl)) (hw _ (List.mem_of_getElem? (i := 2) rfl)) e0 (g := (mkF m 0 #[.val (.long q1), .second, .val (.long q2), .second, .val (.long q3), .second, .val (.long q4), .second, .unset, .unset, .unset, .unset, .unset, .unset, .unset, .unset] [])) rfl (hb hby at_0) (by decide) (by decide)
  obtain ⟨b101, g101⟩ : ∃ z, z = h0.size := ⟨_, rfl⟩
  rw [← g101] at A101 D101 st101
  have gn_b101 : n0 ≤ b101 := Nat.le_trans Z0 (Nat.le_of_eq g101.symm)
  have f102 : Old Z n0 h101 := O0.ext E101
  have Zs101 : n0 ≤ h101.size := Nat.le_trans Z0 E101.1
  have f103 : Fld Z h101 b101 "com/example/redoubt/redoubt/protocol/Freshness" "position" "J" (.long (0 : Int64)) := D101 (Or.inr (hw _ (List.mem_of_getElem? (i := 10) rfl))) (ty := .long) (by decide)
  have f104 : Fld Z h101 b101 "com/example/redoubt/redoubt/protocol/Freshness" "maxStalenessMillis" "J" (.long (0 : Int64)) := D101 (Or.inr (hw _ (List.mem_of_getElem? (i := 12) rfl))) (ty := .long) (by decide)
  obtain ⟨_, _, ⟨T105, L105, k105, n105⟩, -, X105, ⟨Lc105, hQ105, l105, y105, z105⟩, st105⟩ := X101.specialBack hx (y := (⟨"com/example/redoubt/redoubt/protocol/Freshness", "<init>", "(JJ)V"⟩ : MethodName)) rfl hown (mvT hZ (hw _ (List.mem_of_getElem? (i := 3) rfl))) (mvT hZ (hw _ (List.mem_of_getElem? (i := 4) rfl))) (mvT hZ (hw _ (List.mem_of_getElem? (i := 5) rfl))) (by decide) (backOf (W := 1) (rm1 l Z a0 hw [] b101 q1 q2 h101 n0 Zs101 A101 f103 f104 gn_b101) hZ (hw _ (List.mem_of_getElem? (i := 5) rfl)) (hw _ (List.mem_of_getElem? (i := 2) rfl)) (by decide) (by decide)) (g := (mkF m 6 #[.val (.long q1), .second, .val (.long q2), .second, .val (.long q3), .second, .val (.long q4), .second, .unset, .unset, .unset, .unset, .unset, .unset, .unset, .unset] [(.long q2), (.long q1), (.ref b101), (.ref b101)])) rfl (by rw [hml]; rfl) (Steps.refl _) (a := b101) (argsL := [(.long q1), (.long q2)]) (rest := [(.ref b101)]) (lenOf pd_1 rfl) rfl (by show 2 * 0 + _ ≤ _; exact Nat.le_of_eq rfl) (hb hby at_6) (fun _ _ => ⟨rfl, e101, (by decide : 1 + 0 ≤ _), (by decide : 2 + 0 ≤ _)⟩)
  dsimp only [Pt.U, Pt.locs, Pt.cells, Pt.slots] at X105 l105 y105 z105 st105 hQ105
  subst l105 y105 z105
  obtain ⟨rfl, N105q, P105_0, P105_1, P105_2⟩ := hQ105
  have N105 := Fr.app N0 N105q
  have f106 : Old Z n0 T105.heap := f102.keep P105_0 (allS gn_b101 all0)
  have f107 : Exa Z T105.heap b101 "com/example/redoubt/redoubt/protocol/Freshness" := A101.keep P105_0
  have Zs105 : n0 ≤ T105.heap.size := Nat.le_trans Zs101 P105_0.1
  obtain ⟨T108, h108, X108, e108, E108, A108, D108, -, st108⟩ := newO X105 hx hZ hown (hw _ (List.mem_of_getElem? (i := 0) rfl)) (hw _ (List.mem_of_getElem? (i := 1) rfl)) (hw _ (List.mem_of_getElem? (i := 2) rfl)) rfl (g := (mkF m 11 #[.val (.long q1), .second, .val (.long q2), .second, .val (.long q3), .second, .val (.long q4), .second, .val (.ref b101), .unset, .unset, .unset, .unset, .unset, .unset, .unset] [])) rfl (hb hby at_11) (by decide) (by decide)
  obtain ⟨b108, g108⟩ : ∃ z, z = T105.heap.size := ⟨_, rfl⟩
  rw [← g108] at A108 D108 st108
  have ne_b101_b108 : b101 ≠ b108 := Nat.ne_of_lt (Nat.lt_of_lt_of_le f107.lt (Nat.le_of_eq g108.symm))
  have gn_b108 : n0 ≤ b108 := Nat.le_trans Zs105 (Nat.le_of_eq g108.symm)
  have f109 : Old Z n0 h108 := f106.ext E108
  have f110 : Exa Z h108 b101 "com/example/redoubt/redoubt/protocol/Freshness" := Exa.ext E108 f107
  have f111 : Fld Z h108 b101 "com/example/redoubt/redoubt/protocol/Freshness" "position" "J" (.long q1) := Fld.ext E108 P105_1
  have f112 : Fld Z h108 b101 "com/example/redoubt/redoubt/protocol/Freshness" "maxStalenessMillis" "J" (.long q2) := Fld.ext E108 P105_2
  have Zs108 : n0 ≤ h108.size := Nat.le_trans Zs105 E108.1
  have f113 : Fld Z h108 b108 "com/example/redoubt/redoubt/protocol/Freshness" "position" "J" (.long (0 : Int64)) := D108 (Or.inr (hw _ (List.mem_of_getElem? (i := 10) rfl))) (ty := .long) (by decide)
  have f114 : Fld Z h108 b108 "com/example/redoubt/redoubt/protocol/Freshness" "maxStalenessMillis" "J" (.long (0 : Int64)) := D108 (Or.inr (hw _ (List.mem_of_getElem? (i := 12) rfl))) (ty := .long) (by decide)
  obtain ⟨_, _, ⟨T115, L115, k115, n115⟩, -, X115, ⟨Lc115, hQ115, l115, y115, z115⟩, st115⟩ := X108.specialBack hx (y := (⟨"com/example/redoubt/redoubt/protocol/Freshness", "<init>", "(JJ)V"⟩ : MethodName)) rfl hown (mvT hZ (hw _ (List.mem_of_getElem? (i := 3) rfl))) (mvT hZ (hw _ (List.mem_of_getElem? (i := 4) rfl))) (mvT hZ (hw _ (List.mem_of_getElem? (i := 5) rfl))) (by decide) (backOf (W := 1) (rm1 l Z a0 hw [] b108 q3 q4 h108 n0 Zs108 A108 f113 f114 gn_b108) hZ (hw _ (List.mem_of_getElem? (i := 5) rfl)) (hw _ (List.mem_of_getElem? (i := 2) rfl)) (by decide) (by decide)) (g := (mkF m 19 #[.val (.long q1), .second, .val (.long q2), .second, .val (.long q3), .second, .val (.long q4), .second, .val (.ref b101), .unset, .unset, .unset, .unset, .unset, .unset, .unset] [(.long q4), (.long q3), (.ref b108), (.ref b108)])) rfl (by rw [hml]; rfl) (Steps.refl _) (a := b108) (argsL := [(.long q3), (.long q4)]) (rest := [(.ref b108)]) (lenOf pd_1 rfl) rfl (by show 2 * 0 + _ ≤ _; exact Nat.le_of_eq rfl) (hb hby at_19) (fun _ _ => ⟨rfl, e108, (by decide : 2 + 0 ≤ _), (by decide : 4 + 0 ≤ _)⟩)
  dsimp only [Pt.U, Pt.locs, Pt.cells, Pt.slots] at X115 l115 y115 z115 st115 hQ115
  subst l115 y115 z115
  obtain ⟨rfl, N115q, P115_0, P115_1, P115_2⟩ := hQ115
  have N115 := Fr.app N105 N115q
  have f116 : Old Z n0 T115.heap := f109.keep P115_0 (allS gn_b108 all0)
  have f117 : Exa Z T115.heap b101 "com/example/redoubt/redoubt/protocol/Freshness" := f110.keep P115_0
  have f118 : Fld Z T115.heap b101 "com/example/redoubt/redoubt/protocol/Freshness" "position" "J" (.long q1) := f111.keep P115_0 (ninS ne_b101_b108 nin0)
  have f119 : Fld Z T115.heap b101 "com/example/redoubt/redoubt/protocol/Freshness" "maxStalenessMillis" "J" (.long q2) := f112.keep P115_0 (ninS ne_b101_b108 nin0)
  have f120 : Exa Z T115.heap b108 "com/example/redoubt/redoubt/protocol/Freshness" := A108.keep P115_0
  have Zs115 : n0 ≤ T115.heap.size := Nat.le_trans Zs108 P115_0.1
  obtain ⟨_, _, ⟨T121, L121, k121, n121⟩, -, X121, ⟨Lc121, hQ121, l121, y121, z121⟩, st121⟩ := Jvm.LawKit.callS X115 hx (y := (⟨"com/example/redoubt/redoubt/protocol/FreshnessBoundedPinLaw", "expectBounded", "(JJ)Z"⟩ : MethodName)) hown (mvT hZ (hw _ (List.mem_of_getElem? (i := 13) rfl))) (mvT hZ (hw _ (List.mem_of_getElem? (i := 14) rfl))) (mvT hZ (hw _ (List.mem_of_getElem? (i := 15) rfl))) (mvT hZ (hw _ (List.mem_of_getElem? (i := 16) rfl))) (by decide) (backOf (W := 0) (rm3 l Z a0 hw [] q1 q2 T115.heap n0 Zs115 ) hZ (hw _ (List.mem_of_getElem? (i := 16) rfl)) (hw _ (List.mem_of_getElem? (i := 15) rfl)) (by decide) (by decide)) (g := (mkF m 26 #[.val (.long q1), .second, .val (.long q2), .second, .val (.long q3), .second, .val (.long q4), .second, .val (.ref b101), .val (.ref b108), .unset, .unset, .unset, .unset, .unset, .unset] [(.long q2), (.long q1)])) rfl (by rw [hml]; rfl) (argsL := [(.long q1), (.long q2)]) (rest := []) (lenOf pd_2 rfl) rfl (by show 2 * 0 + _ ≤ _; exact Nat.le_of_eq rfl) (hb hby at_26) (fun _ _ => ⟨rfl, rfl, (by decide : 2 + 0 ≤ _), (by decide : 4 + 0 ≤ _)⟩)
  dsimp only [Pt.U, Pt.locs, Pt.cells, Pt.slots] at X121 l121 y121 z121 st121 hQ121
  subst l121 y121 z121
  obtain ⟨rfl, N121q, P121_0⟩ := hQ121
  have N121 := Fr.app N115 N121q
  obtain ⟨_, _, ⟨T122, L122, k122, n122⟩, -, X122, ⟨Lc122, hQ122, l122, y122, z122⟩, st122⟩ := Jvm.LawKit.callS X121 hx (y := (⟨"com/example/redoubt/redoubt/protocol/FreshnessBoundedPinLaw", "expectBounded", "(JJ)Z"⟩ : MethodName)) hown (mvT hZ (hw _ (List.mem_of_getElem? (i := 13) rfl))) (mvT hZ (hw _ (List.mem_of_getElem? (i := 14) rfl))) (mvT hZ (hw _ (List.mem_of_getElem? (i := 15) rfl))) (mvT hZ (hw _ (List.mem_of_getElem? (i := 16) rfl))) (by decide) (backOf (W := 0) (rm3 l Z a0 hw [] q3 q4 T115.heap n0 Zs115 ) hZ (hw _ (List.mem_of_getElem? (i := 16) rfl)) (hw _ (List.mem_of_getElem? (i := 15) rfl)) (by decide) (by decide)) (g := (mkF m 35 #[.val (.long q1), .second, .val (.long q2), .second, .val (.long q3), .second, .val (.long q4), .second, .val (.ref b101), .val (.ref b108), .val (.int (own_eb q1 q2)), .unset, .unset, .unset, .unset, .unset] [(.long q4), (.long q3)])) rfl (by rw [hml]; rfl) (argsL := [(.long q3), (.long q4)]) (rest := []) (lenOf pd_2 rfl) rfl (by show 2 * 0 + _ ≤ _; exact Nat.le_of_eq rfl) (hb hby at_35) (fun _ _ => ⟨rfl, P121_0, (by decide : 2 + 0 ≤ _), (by decide : 4 + 0 ≤ _)⟩)
  dsimp only [Pt.U, Pt.locs, Pt.cells, Pt.slots] at X122 l122 y122 z122 st122 hQ122
  subst l122 y122 z122
  obtain ⟨rfl, N122q, P122_0⟩ := hQ122
  have N122 := Fr.app N121 N122q
  obtain ⟨cq123, kq123, q123a, q123b, q123c⟩ := isOf hZ P122_0 f117
  obtain ⟨_, _, ⟨T123, L123, k123, n123⟩, -, X123, ⟨Lc123, hQ123, l123, y123, z123⟩, st123⟩ := X122.virtualBack hx (y := (⟨"com/example/redoubt/redoubt/protocol/Freshness", "bounded", "()Z"⟩ : MethodName)) (z := (⟨"com/example/redoubt/redoubt/protocol/Freshness", "bounded", "()Z"⟩ : MethodName)) hown (mvT hZ (hw _ (List.mem_of_getElem? (i := 17) rfl))) (mvT hZ (hw _ (List.mem_of_getElem? (i := 18) rfl))) (notFace_of_selects (args := #[]) (mvT hZ (hw _ (List.mem_of_getElem? (i := 20) rfl)))) (mvT hZ (hw _ (List.mem_of_getElem? (i := 20) rfl))) (mvT hZ (hw _ (List.mem_of_getElem? (i := 19) rfl))) (by decide) (backOf (W := 0) (rm4 l Z a0 hw [] b101 q1 q2 T115.heap n0 Zs115 f118 f119) hZ (hw _ (List.mem_of_getElem? (i := 21) rfl)) (hw _ (List.mem_of_getElem? (i := 2) rfl)) (by decide) (by decide)) q123a q123c (g := (mkF m 42 #[.val (.long q1), .second, .val (.long q2), .second, .val (.long q3), .second, .val (.long q4), .second, .val (.ref b101), .val (.ref b108), .val (.int (own_eb q1 q2)), .val (.int (own_eb q3 q4)), .unset, .unset, .unset, .unset] [(.ref b101)])) rfl (by rw [hml]; rfl) (Steps.refl _) (argsL := []) (rest := []) (lenOf pd_3 rfl) rfl (by show 2 * 0 + _ ≤ _; exact Nat.le_of_eq rfl) (hb hby at_42) (fun _ _ => ⟨rfl, P122_0, (by decide : 2 + 0 ≤ _), (by decide : 4 + 0 ≤ _)⟩)
  dsimp only [Pt.U, Pt.locs, Pt.cells, Pt.slots] at X123 l123 y123 z123 st123 hQ123
  subst l123 y123 z123
  obtain ⟨hv123, N123q, P123_0⟩ := hQ123
  obtain rfl := hv123.trans (congrArg (fun z => some (Value.int z)) (own_bd_eb q1 q2 : (own_bd q1 q2) = (own_eb q1 q2)))
  have N123 := Fr.app N122 N123q
  obtain ⟨cq124, kq124, q124a, q124b, q124c⟩ := isOf hZ P123_0 f120
  obtain ⟨_, _, ⟨T124, L124, k124, n124⟩, -, X124, ⟨Lc124, hQ124, l124, y124, z124⟩, st124⟩ := X123.virtualBack hx (y := (⟨"com/example/redoubt/redoubt/protocol/Freshness", "bounded", "()Z"⟩ : MethodName)) (z := (⟨"com/example/redoubt/redoubt/protocol/Freshness", "bounded", "()Z"⟩ : MethodName)) hown (mvT hZ (hw _ (List.mem_of_getElem? (i := 17) rfl))) (mvT hZ (hw _ (List.mem_of_getElem? (i := 18) rfl))) (notFace_of_selects (args := #[]) (mvT hZ (hw _ (List.mem_of_getElem? (i := 20) rfl)))) (mvT hZ (hw _ (List.mem_of_getElem? (i := 20) rfl))) (mvT hZ (hw _ (List.mem_of_getElem? (i := 19) rfl))) (by decide) (backOf (W := 0) (rm4 l Z a0 hw [] b108 q3 q4 T115.heap n0 Zs115 P115_1 P115_2) hZ (hw _ (List.mem_of_getElem? (i := 21) rfl)) (hw _ (List.mem_of_getElem? (i := 2) rfl)) (by decide) (by decide)) q124a q124c (g := (mkF m 59 #[.val (.long q1), .second, .val (.long q2), .second, .val (.long q3), .second, .val (.long q4), .second, .val (.ref b101), .val (.ref b108), .val (.int (own_eb q1 q2)), .val (.int (own_eb q3 q4)), .val (.int (1 : Int32)), .unset, .unset, .unset] [(.ref b108)])) rfl (by rw [hml]; rfl) (Steps.refl _) (argsL := []) (rest := []) (lenOf pd_3 rfl) rfl (by show 2 * 0 + _ ≤ _; exact Nat.le_of_eq rfl) (hb hby at_59) (fun _ _ => ⟨rfl, P123_0, (by decide : 2 + 0 ≤ _), (by decide : 4 + 0 ≤ _)⟩)
  dsimp only [Pt.U, Pt.locs, Pt.cells, Pt.slots] at X124 l124 y124 z124 st124 hQ124
  subst l124 y124 z124
  obtain ⟨hv124, N124q, P124_0⟩ := hQ124
  obtain rfl := hv124.trans (congrArg (fun z => some (Value.int z)) (own_bd_eb q3 q4 : (own_bd q3 q4) = (own_eb q3 q4)))
  have N124 := Fr.app N123 N124q
  have pr125 : ∀ t, Steps p.tables e below (T124.setTop (mkF m 74 #[.val (.long q1), .second, .val (.long q2), .second, .val (.long q3), .second, .val (.long q4), .second, .val (.ref b101), .val (.ref b108), .val (.int (own_eb q1 q2)), .val (.int (own_eb q3 q4)), .val (.int (1 : Int32)), .val (.int (1 : Int32)), .unset, .unset] [])) t → Steps p.tables e below (s₁.setTop (mkF m 0 #[.val (.long q1), .second, .val (.long q2), .second, .val (.long q3), .second, .val (.long q4), .second, .unset, .unset, .unset, .unset, .unset, .unset, .unset, .unset] [])) t := fun t kt => by
    show Steps p.tables e below (s₁.setTop (mkF m 0 #[.val (.long q1), .second, .val (.long q2), .second, .val (.long q3), .second, .val (.long q4), .second, .unset, .unset, .unset, .unset, .unset, .unset, .unset, .unset] [])) _
    refine st101 _ ?_
    show Steps p.tables e below (T101.setTop (mkF m 3 #[.val (.long q1), .second, .val (.long q2), .second, .val (.long q3), .second, .val (.long q4), .second, .unset, .unset, .unset, .unset, .unset, .unset, .unset, .unset] [(.ref b101)])) _
    refine XS.dup X101.here hx rfl (hb hby at_3) rfl rfl ?_
    show Steps p.tables e below (T101.setTop (mkF m 4 #[.val (.long q1), .second, .val (.long q2), .second, .val (.long q3), .second, .val (.long q4), .second, .unset, .unset, .unset, .unset, .unset, .unset, .unset, .unset] [(.ref b101), (.ref b101)])) _
    refine XS.lloadN X101.here hx rfl (hb hby at_4) rfl ?_
    show Steps p.tables e below (T101.setTop (mkF m 5 #[.val (.long q1), .second, .val (.long q2), .second, .val (.long q3), .second, .val (.long q4), .second, .unset, .unset, .unset, .unset, .unset, .unset, .unset, .unset] [(.long q1), (.ref b101), (.ref b101)])) _
    refine XS.lloadN X101.here hx rfl (hb hby at_5) rfl ?_
    show Steps p.tables e below (T101.setTop (mkF m 6 #[.val (.long q1), .second, .val (.long q2), .second, .val (.long q3), .second, .val (.long q4), .second, .unset, .unset, .unset, .unset, .unset, .unset, .unset, .unset] [(.long q2), (.long q1), (.ref b101), (.ref b101)])) _
    refine st105.trans ?_
    show Steps p.tables e below (T105.setTop (mkF m 9 #[.val (.long q1), .second, .val (.long q2), .second, .val (.long q3), .second, .val (.long q4), .second, .unset, .unset, .unset, .unset, .unset, .unset, .unset, .unset] [(.ref b101)])) _
    refine XS.astore X105.here hx rfl (hb hby at_9) rfl rfl (l' := #[.val (.long q1), .second, .val (.long q2), .second, .val (.long q3), .second, .val (.long q4), .second, .val (.ref b101), .unset, .unset, .unset, .unset, .unset, .unset, .unset]) rfl ?_
    show Steps p.tables e below (T105.setTop (mkF m 11 #[.val (.long q1), .second, .val (.long q2), .second, .val (.long q3), .second, .val (.long q4), .second, .val (.ref b101), .unset, .unset, .unset, .unset, .unset, .unset, .unset] [])) _
    refine st108 _ ?_
    show Steps p.tables e below (T108.setTop (mkF m 14 #[.val (.long q1), .second, .val (.long q2), .second, .val (.long q3), .second, .val (.long q4), .second, .val (.ref b101), .unset, .unset, .unset, .unset, .unset, .unset, .unset] [(.ref b108)])) _
    refine XS.dup X108.here hx rfl (hb hby at_14) rfl rfl ?_
    show Steps p.tables e below (T108.setTop (mkF m 15 #[.val (.long q1), .second, .val (.long q2), .second, .val (.long q3), .second, .val (.long q4), .second, .val (.ref b101), .unset, .unset, .unset, .unset, .unset, .unset, .unset] [(.ref b108), (.ref b108)])) _
    refine XS.lload X108.here hx rfl (hb hby at_15) rfl ?_
    show Steps p.tables e below (T108.setTop (mkF m 17 #[.val (.long q1), .second, .val (.long q2), .second, .val (.long q3), .second, .val (.long q4), .second, .val (.ref b101), .unset, .unset, .unset, .unset, .unset, .unset, .unset] [(.long q3), (.ref b108), (.ref b108)])) _
    refine XS.lload X108.here hx rfl (hb hby at_17) rfl ?_
    show Steps p.tables e below (T108.setTop (mkF m 19 #[.val (.long q1), .second, .val (.long q2), .second, .val (.long q3), .second, .val (.long q4), .second, .val (.ref b101), .unset, .unset, .unset, .unset, .unset, .unset, .unset] [(.long q4), (.long q3), (.ref b108), (.ref b108)])) _
    refine st115.trans ?_
    show Steps p.tables e below (T115.setTop (mkF m 22 #[.val (.long q1), .second, .val (.long q2), .second, .val (.long q3), .second, .val (.long q4), .second, .val (.ref b101), .unset, .unset, .unset, .unset, .unset, .unset, .unset] [(.ref b108)])) _
    refine XS.astore X115.here hx rfl (hb hby at_22) rfl rfl (l' := #[.val (.long q1), .second, .val (.long q2), .second, .val (.long q3), .second, .val (.long q4), .second, .val (.ref b101), .val (.ref b108), .unset, .unset, .unset, .unset, .unset, .unset]) rfl ?_
    show Steps p.tables e below (T115.setTop (mkF m 24 #[.val (.long q1), .second, .val (.long q2), .second, .val (.long q3), .second, .val (.long q4), .second, .val (.ref b101), .val (.ref b108), .unset, .unset, .unset, .unset, .unset, .unset] [])) _
    refine XS.lloadN X115.here hx rfl (hb hby at_24) rfl ?_
    show Steps p.tables e below (T115.setTop (mkF m 25 #[.val (.long q1), .second, .val (.long q2), .second, .val (.long q3), .second, .val (.long q4), .second, .val (.ref b101), .val (.ref b108), .unset, .unset, .unset, .unset, .unset, .unset] [(.long q1)])) _
    refine XS.lloadN X115.here hx rfl (hb hby at_25) rfl ?_
    show Steps p.tables e below (T115.setTop (mkF m 26 #[.val (.long q1), .second, .val (.long q2), .second, .val (.long q3), .second, .val (.long q4), .second, .val (.ref b101), .val (.ref b108), .unset, .unset, .unset, .unset, .unset, .unset] [(.long q2), (.long q1)])) _
    refine st121 _ ?_
    show Steps p.tables e below (T121.setTop (mkF m 29 #[.val (.long q1), .second, .val (.long q2), .second, .val (.long q3), .second, .val (.long q4), .second, .val (.ref b101), .val (.ref b108), .unset, .unset, .unset, .unset, .unset, .unset] [(.int (own_eb q1 q2))])) _
    refine XS.istore X121.here hx rfl (hb hby at_29) rfl (l' := #[.val (.long q1), .second, .val (.long q2), .second, .val (.long q3), .second, .val (.long q4), .second, .val (.ref b101), .val (.ref b108), .val (.int (own_eb q1 q2)), .unset, .unset, .unset, .unset, .unset]) rfl ?_
    show Steps p.tables e below (T121.setTop (mkF m 31 #[.val (.long q1), .second, .val (.long q2), .second, .val (.long q3), .second, .val (.long q4), .second, .val (.ref b101), .val (.ref b108), .val (.int (own_eb q1 q2)), .unset, .unset, .unset, .unset, .unset] [])) _
    refine XS.lload X121.here hx rfl (hb hby at_31) rfl ?_
    show Steps p.tables e below (T121.setTop (mkF m 33 #[.val (.long q1), .second, .val (.long q2), .second, .val (.long q3), .second, .val (.long q4), .second, .val (.ref b101), .val (.ref b108), .val (.int (own_eb q1 q2)), .unset, .unset, .unset, .unset, .unset] [(.long q3)])) _
    refine XS.lload X121.here hx rfl (hb hby at_33) rfl ?_
    show Steps p.tables e below (T121.setTop (mkF m 35 #[.val (.long q1), .second, .val (.long q2), .second, .val (.long q3), .second, .val (.long q4), .second, .val (.ref b101), .val (.ref b108), .val (.int (own_eb q1 q2)), .unset, .unset, .unset, .unset, .unset] [(.long q4), (.long q3)])) _
    refine st122 _ ?_
    show Steps p.tables e below (T122.setTop (mkF m 38 #[.val (.long q1), .second, .val (.long q2), .second, .val (.long q3), .second, .val (.long q4), .second, .val (.ref b101), .val (.ref b108), .val (.int (own_eb q1 q2)), .unset, .unset, .unset, .unset, .unset] [(.int (own_eb q3 q4))])) _
    refine XS.istore X122.here hx rfl (hb hby at_38) rfl (l' := #[.val (.long q1), .second, .val (.long q2), .second, .val (.long q3), .second, .val (.long q4), .second, .val (.ref b101), .val (.ref b108), .val (.int (own_eb q1 q2)), .val (.int (own_eb q3 q4)), .unset, .unset, .unset, .unset]) rfl ?_
    show Steps p.tables e below (T122.setTop (mkF m 40 #[.val (.long q1), .second, .val (.long q2), .second, .val (.long q3), .second, .val (.long q4), .second, .val (.ref b101), .val (.ref b108), .val (.int (own_eb q1 q2)), .val (.int (own_eb q3 q4)), .unset, .unset, .unset, .unset] [])) _
    refine XS.aload X122.here hx rfl (hb hby at_40) rfl rfl ?_
    show Steps p.tables e below (T122.setTop (mkF m 42 #[.val (.long q1), .second, .val (.long q2), .second, .val (.long q3), .second, .val (.long q4), .second, .val (.ref b101), .val (.ref b108), .val (.int (own_eb q1 q2)), .val (.int (own_eb q3 q4)), .unset, .unset, .unset, .unset] [(.ref b101)])) _
    refine st123.trans ?_
    show Steps p.tables e below (T123.setTop (mkF m 45 #[.val (.long q1), .second, .val (.long q2), .second, .val (.long q3), .second, .val (.long q4), .second, .val (.ref b101), .val (.ref b108), .val (.int (own_eb q1 q2)), .val (.int (own_eb q3 q4)), .unset, .unset, .unset, .unset] [(.int (own_eb q1 q2))])) _
    refine XS.iload X123.here hx rfl (hb hby at_45) rfl ?_
    show Steps p.tables e below (T123.setTop (mkF m 47 #[.val (.long q1), .second, .val (.long q2), .second, .val (.long q3), .second, .val (.long q4), .second, .val (.ref b101), .val (.ref b108), .val (.int (own_eb q1 q2)), .val (.int (own_eb q3 q4)), .unset, .unset, .unset, .unset] [(.int (own_eb q1 q2)), (.int (own_eb q1 q2))])) _
    refine XS.icmpNo X123.here hx rfl (hb hby at_47) rfl (teq (rfl : (own_eb q1 q2) = (own_eb q1 q2))).2 ?_
    show Steps p.tables e below (T123.setTop (mkF m 50 #[.val (.long q1), .second, .val (.long q2), .second, .val (.long q3), .second, .val (.long q4), .second, .val (.ref b101), .val (.ref b108), .val (.int (own_eb q1 q2)), .val (.int (own_eb q3 q4)), .unset, .unset, .unset, .unset] [])) _
    refine XS.iconst X123.here hx rfl (hb hby at_50) ?_
    show Steps p.tables e below (T123.setTop (mkF m 51 #[.val (.long q1), .second, .val (.long q2), .second, .val (.long q3), .second, .val (.long q4), .second, .val (.ref b101), .val (.ref b108), .val (.int (own_eb q1 q2)), .val (.int (own_eb q3 q4)), .unset, .unset, .unset, .unset] [(.int (1 : Int32))])) _
    refine XS.goto X123.here hx rfl (pc0 := 51) (pc' := 55) rfl (hb hby at_51) (by decide) (by decide) ?_
    show Steps p.tables e below (T123.setTop (mkF m 55 #[.val (.long q1), .second, .val (.long q2), .second, .val (.long q3), .second, .val (.long q4), .second, .val (.ref b101), .val (.ref b108), .val (.int (own_eb q1 q2)), .val (.int (own_eb q3 q4)), .unset, .unset, .unset, .unset] [(.int (1 : Int32))])) _
    refine XS.istore X123.here hx rfl (hb hby at_55) rfl (l' := #[.val (.long q1), .second, .val (.long q2), .second, .val (.long q3), .second, .val (.long q4), .second, .val (.ref b101), .val (.ref b108), .val (.int (own_eb q1 q2)), .val (.int (own_eb q3 q4)), .val (.int (1 : Int32)), .unset, .unset, .unset]) rfl ?_
    show Steps p.tables e below (T123.setTop (mkF m 57 #[.val (.long q1), .second, .val (.long q2), .second, .val (.long q3), .second, .val (.long q4), .second, .val (.ref b101), .val (.ref b108), .val (.int (own_eb q1 q2)), .val (.int (own_eb q3 q4)), .val (.int (1 : Int32)), .unset, .unset, .unset] [])) _
    refine XS.aload X123.here hx rfl (hb hby at_57) rfl rfl ?_
    show Steps p.tables e below (T123.setTop (mkF m 59 #[.val (.long q1), .second, .val (.long q2), .second, .val (.long q3), .second, .val (.long q4), .second, .val (.ref b101), .val (.ref b108), .val (.int (own_eb q1 q2)), .val (.int (own_eb q3 q4)), .val (.int (1 : Int32)), .unset, .unset, .unset] [(.ref b108)])) _
    refine st124.trans ?_
    show Steps p.tables e below (T124.setTop (mkF m 62 #[.val (.long q1), .second, .val (.long q2), .second, .val (.long q3), .second, .val (.long q4), .second, .val (.ref b101), .val (.ref b108), .val (.int (own_eb q1 q2)), .val (.int (own_eb q3 q4)), .val (.int (1 : Int32)), .unset, .unset, .unset] [(.int (own_eb q3 q4))])) _
    refine XS.iload X124.here hx rfl (hb hby at_62) rfl ?_
    show Steps p.tables e below (T124.setTop (mkF m 64 #[.val (.long q1), .second, .val (.long q2), .second, .val (.long q3), .second, .val (.long q4), .second, .val (.ref b101), .val (.ref b108), .val (.int (own_eb q1 q2)), .val (.int (own_eb q3 q4)), .val (.int (1 : Int32)), .unset, .unset, .unset] [(.int (own_eb q3 q4)), (.int (own_eb q3 q4))])) _
    refine XS.icmpNo X124.here hx rfl (hb hby at_64) rfl (teq (rfl : (own_eb q3 q4) = (own_eb q3 q4))).2 ?_
    show Steps p.tables e below (T124.setTop (mkF m 67 #[.val (.long q1), .second, .val (.long q2), .second, .val (.long q3), .second, .val (.long q4), .second, .val (.ref b101), .val (.ref b108), .val (.int (own_eb q1 q2)), .val (.int (own_eb q3 q4)), .val (.int (1 : Int32)), .unset, .unset, .unset] [])) _
    refine XS.iconst X124.here hx rfl (hb hby at_67) ?_
    show Steps p.tables e below (T124.setTop (mkF m 68 #[.val (.long q1), .second, .val (.long q2), .second, .val (.long q3), .second, .val (.long q4), .second, .val (.ref b101), .val (.ref b108), .val (.int (own_eb q1 q2)), .val (.int (own_eb q3 q4)), .val (.int (1 : Int32)), .unset, .unset, .unset] [(.int (1 : Int32))])) _
    refine XS.goto X124.here hx rfl (pc0 := 68) (pc' := 72) rfl (hb hby at_68) (by decide) (by decide) ?_
    show Steps p.tables e below (T124.setTop (mkF m 72 #[.val (.long q1), .second, .val (.long q2), .second, .val (.long q3), .second, .val (.long q4), .second, .val (.ref b101), .val (.ref b108), .val (.int (own_eb q1 q2)), .val (.int (own_eb q3 q4)), .val (.int (1 : Int32)), .unset, .unset, .unset] [(.int (1 : Int32))])) _
    refine XS.istore X124.here hx rfl (hb hby at_72) rfl (l' := #[.val (.long q1), .second, .val (.long q2), .second, .val (.long q3), .second, .val (.long q4), .second, .val (.ref b101), .val (.ref b108), .val (.int (own_eb q1 q2)), .val (.int (own_eb q3 q4)), .val (.int (1 : Int32)), .val (.int (1 : Int32)), .unset, .unset]) rfl ?_
    exact kt
  by_cases hc126 : (own_eb q1 q2) = (0 : Int32)
  · by_cases hc127 : (own_eb q3 q4) = (0 : Int32)
    · obtain ⟨cq128, kq128, q128a, q128b, q128c⟩ := isOf hZ P124_0 f117
      obtain ⟨_, _, ⟨T128, L128, k128, n128⟩, -, X128, ⟨Lc128, hQ128, l128, y128, z128⟩, st128⟩ := X124.virtualBack hx (y := (⟨"com/example/redoubt/redoubt/protocol/Freshness", "and", "(Lcom/example/redoubt/redoubt/protocol/Freshness;)Lcom/example/redoubt/redoubt/protocol/Freshness;"⟩ : MethodName)) (z := (⟨"com/example/redoubt/redoubt/protocol/Freshness", "and", "(Lcom/example/redoubt/redoubt/protocol/Freshness;)Lcom/example/redoubt/redoubt/protocol/Freshness;"⟩ : MethodName)) hown (mvT hZ (hw _ (List.mem_of_getElem? (i := 22) rfl))) (mvT hZ (hw _ (List.mem_of_getElem? (i := 23) rfl))) (notFace_of_selects (args := #[]) (mvT hZ (hw _ (List.mem_of_getElem? (i := 25) rfl)))) (mvT hZ (hw _ (List.mem_of_getElem? (i := 25) rfl))) (mvT hZ (hw _ (List.mem_of_getElem? (i := 24) rfl))) (by decide) (backOf (W := 0) (rm5 l Z a0 hw [] b101 b108 q1 q3 q2 q4 T115.heap n0 Zs115 f118 P115_1 f119 P115_2) hZ (hw _ (List.mem_of_getElem? (i := 26) rfl)) (hw _ (List.mem_of_getElem? (i := 2) rfl)) (by decide) (by decide)) q128a q128c (g := (mkF m 78 #[.val (.long q1), .second, .val (.long q2), .second, .val (.long q3), .second, .val (.long q4), .second, .val (.ref b101), .val (.ref b108), .val (.int (own_eb q1 q2)), .val (.int (own_eb q3 q4)), .val (.int (1 : Int32)), .val (.int (1 : Int32)), .unset, .unset] [(.ref b108), (.ref b101)])) rfl (by rw [hml]; rfl) (Steps.refl _) (argsL := [(.ref b108)]) (rest := []) (lenOf pd_4 rfl) rfl (by show 2 * 0 + _ ≤ _; exact Nat.le_of_eq rfl) (hb hby at_78) (fun _ _ => ⟨rfl, P124_0, (by decide : 2 + 1 ≤ _), (by decide : 4 + 2 ≤ _)⟩)
      dsimp only [Pt.U, Pt.locs, Pt.cells, Pt.slots] at X128 l128 y128 z128 st128 hQ128
      subst l128 y128 z128
      obtain ⟨b_128, rfl, N128q, P128_0, P128_1, P128_2, P128_3, P128_4⟩ := hQ128
      have N128 := Fr.app N124 N128q
      have ne_b101_b_128 : b101 ≠ b_128 := Nat.ne_of_lt (Nat.lt_of_lt_of_le f117.lt P128_1)
      have ne_b108_b_128 : b108 ≠ b_128 := Nat.ne_of_lt (Nat.lt_of_lt_of_le f120.lt P128_1)
      have gn_b_128 : n0 ≤ b_128 := Nat.le_trans Zs115 P128_1
      have f129 : Old Z n0 T128.heap := f116.keep P128_0 all0
      have f130 : Exa Z T128.heap b101 "com/example/redoubt/redoubt/protocol/Freshness" := f117.keep P128_0
      have f131 : Fld Z T128.heap b101 "com/example/redoubt/redoubt/protocol/Freshness" "position" "J" (.long q1) := f118.keep P128_0 nin0
      have f132 : Fld Z T128.heap b101 "com/example/redoubt/redoubt/protocol/Freshness" "maxStalenessMillis" "J" (.long q2) := f119.keep P128_0 nin0
      have f133 : Exa Z T128.heap b108 "com/example/redoubt/redoubt/protocol/Freshness" := f120.keep P128_0
      have f134 : Fld Z T128.heap b108 "com/example/redoubt/redoubt/protocol/Freshness" "position" "J" (.long q3) := P115_1.keep P128_0 nin0
      have f135 : Fld Z T128.heap b108 "com/example/redoubt/redoubt/protocol/Freshness" "maxStalenessMillis" "J" (.long q4) := P115_2.keep P128_0 nin0
      have Zs128 : n0 ≤ T128.heap.size := Nat.le_trans Zs115 P128_0.1
      obtain ⟨cq136, kq136, q136a, q136b, q136c⟩ := isOf hZ rfl P128_2
      obtain ⟨_, _, ⟨T136, L136, k136, n136⟩, -, X136, ⟨Lc136, hQ136, l136, y136, z136⟩, st136⟩ := X128.virtualBack hx (y := (⟨"com/example/redoubt/redoubt/protocol/Freshness", "bounded", "()Z"⟩ : MethodName)) (z := (⟨"com/example/redoubt/redoubt/protocol/Freshness", "bounded", "()Z"⟩ : MethodName)) hown (mvT hZ (hw _ (List.mem_of_getElem? (i := 17) rfl))) (mvT hZ (hw _ (List.mem_of_getElem? (i := 18) rfl))) (notFace_of_selects (args := #[]) (mvT hZ (hw _ (List.mem_of_getElem? (i := 20) rfl)))) (mvT hZ (hw _ (List.mem_of_getElem? (i := 20) rfl))) (mvT hZ (hw _ (List.mem_of_getElem? (i := 19) rfl))) (by decide) (backOf (W := 0) (rm4 l Z a0 hw [] b_128 (own_max q1 q3) (own_mil q2 q4) T128.heap n0 Zs128 P128_3 P128_4) hZ (hw _ (List.mem_of_getElem? (i := 21) rfl)) (hw _ (List.mem_of_getElem? (i := 2) rfl)) (by decide) (by decide)) q136a q136c (g := (mkF m 81 #[.val (.long q1), .second, .val (.long q2), .second, .val (.long q3), .second, .val (.long q4), .second, .val (.ref b101), .val (.ref b108), .val (.int (own_eb q1 q2)), .val (.int (own_eb q3 q4)), .val (.int (1 : Int32)), .val (.int (1 : Int32)), .unset, .unset] [(.ref b_128)])) rfl (by rw [hml]; rfl) (Steps.refl _) (argsL := []) (rest := []) (lenOf pd_3 rfl) rfl (by show 2 * 0 + _ ≤ _; exact Nat.le_of_eq rfl) (hb hby at_81) (fun _ _ => ⟨rfl, rfl, (by decide : 3 + 0 ≤ _), (by decide : 6 + 0 ≤ _)⟩)
      dsimp only [Pt.U, Pt.locs, Pt.cells, Pt.slots] at X136 l136 y136 z136 st136 hQ136
      subst l136 y136 z136
      obtain ⟨hv136, N136q, P136_0⟩ := hQ136
      obtain rfl := hv136.trans (congrArg (fun z => some (Value.int z)) (own_and0 hc126 hc127 : (own_bd (own_max q1 q3) (own_mil q2 q4)) = (0 : Int32)))
      have N136 := Fr.app N128 N136q
      obtain ⟨T137, X137, e137, st137⟩ := getS2 X136 hx hZ hown (host := "") (Or.inl (hw _ (List.mem_of_getElem? (i := 36) rfl))) Via.refl P136_0 (Sta.ext f129.2 pf1) (g := (mkF m 109 #[.val (.long q1), .second, .val (.long q2), .second, .val (.long q3), .second, .val (.long q4), .second, .val (.ref b101), .val (.ref b108), .val (.int (own_eb q1 q2)), .val (.int (own_eb q3 q4)), .val (.int (1 : Int32)), .val (.int (1 : Int32)), .val (.int (1 : Int32)), .unset] [])) rfl (hb hby at_109)
      obtain ⟨cq138, kq138, q138a, q138b, q138c⟩ := isOf hZ e137 (Exa.ext f129.2 pf0)
      obtain ⟨_, _, ⟨T138, L138, k138, n138⟩, -, X138, ⟨Lc138, hQ138, l138, y138, z138⟩, st138⟩ := X137.virtualBack hx (y := (⟨"com/example/redoubt/redoubt/protocol/Freshness", "bounded", "()Z"⟩ : MethodName)) (z := (⟨"com/example/redoubt/redoubt/protocol/Freshness", "bounded", "()Z"⟩ : MethodName)) hown (mvT hZ (hw _ (List.mem_of_getElem? (i := 17) rfl))) (mvT hZ (hw _ (List.mem_of_getElem? (i := 18) rfl))) (notFace_of_selects (args := #[]) (mvT hZ (hw _ (List.mem_of_getElem? (i := 20) rfl)))) (mvT hZ (hw _ (List.mem_of_getElem? (i := 20) rfl))) (mvT hZ (hw _ (List.mem_of_getElem? (i := 19) rfl))) (by decide) (backOf (W := 0) (rm4 l Z a0 hw [] wr5 (-1 : Int64) (-1 : Int64) T128.heap n0 Zs128 (Fld.ext f129.2 pf2) (Fld.ext f129.2 pf3)) hZ (hw _ (List.mem_of_getElem? (i := 21) rfl)) (hw _ (List.mem_of_getElem? (i := 2) rfl)) (by decide) (by decide)) q138a q138c (g := (mkF m 112 #[.val (.long q1), .second, .val (.long q2), .second, .val (.long q3), .second, .val (.long q4), .second, .val (.ref b101), .val (.ref b108), .val (.int (own_eb q1 q2)), .val (.int (own_eb q3 q4)), .val (.int (1 : Int32)), .val (.int (1 : Int32)), .val (.int (1 : Int32)), .unset] [(.ref wr5)])) rfl (by rw [hml]; rfl) (Steps.refl _) (argsL := []) (rest := []) (lenOf pd_3 rfl) rfl (by show 2 * 0 + _ ≤ _; exact Nat.le_of_eq rfl) (hb hby at_112) (fun _ _ => ⟨rfl, e137, (by decide : 3 + 0 ≤ _), (by decide : 6 + 0 ≤ _)⟩)
      dsimp only [Pt.U, Pt.locs, Pt.cells, Pt.slots] at X138 l138 y138 z138 st138 hQ138
      subst l138 y138 z138
      obtain ⟨hv138, N138q, P138_0⟩ := hQ138
      obtain rfl := hv138.trans (congrArg (fun z => some (Value.int z)) (by decide : (own_bd (-1 : Int64) (-1 : Int64)) = (0 : Int32)))
      have N138 := Fr.app N136 N138q
      obtain ⟨fs, hr, hrun, hended, hW, hsame⟩ := X138.leave (v := some (.int (1 : Int32))) (fun h => by rw [Bd.returns] at h; cases h) hlk
      refine ⟨_, _, pre0 _ ?_, hrun, hended, _, _, rfl, ?_, ⟨_, rfl⟩, hW, hsame.mono (by decide) (by decide)⟩
      · refine pr125 _ ?_
        show Steps p.tables e below (T124.setTop (mkF m 74 #[.val (.long q1), .second, .val (.long q2), .second, .val (.long q3), .second, .val (.long q4), .second, .val (.ref b101), .val (.ref b108), .val (.int (own_eb q1 q2)), .val (.int (own_eb q3 q4)), .val (.int (1 : Int32)), .val (.int (1 : Int32)), .unset, .unset] [])) _
        refine XS.aload X124.here hx rfl (hb hby at_74) rfl rfl ?_
        show Steps p.tables e below (T124.setTop (mkF m 76 #[.val (.long q1), .second, .val (.long q2), .second, .val (.long q3), .second, .val (.long q4), .second, .val (.ref b101), .val (.ref b108), .val (.int (own_eb q1 q2)), .val (.int (own_eb q3 q4)), .val (.int (1 : Int32)), .val (.int (1 : Int32)), .unset, .unset] [(.ref b101)])) _
        refine XS.aload X124.here hx rfl (hb hby at_76) rfl rfl ?_
        show Steps p.tables e below (T124.setTop (mkF m 78 #[.val (.long q1), .second, .val (.long q2), .second, .val (.long q3), .second, .val (.long q4), .second, .val (.ref b101), .val (.ref b108), .val (.int (own_eb q1 q2)), .val (.int (own_eb q3 q4)), .val (.int (1 : Int32)), .val (.int (1 : Int32)), .unset, .unset] [(.ref b108), (.ref b101)])) _
        refine st128.trans ?_
        show Steps p.tables e below (T128.setTop (mkF m 81 #[.val (.long q1), .second, .val (.long q2), .second, .val (.long q3), .second, .val (.long q4), .second, .val (.ref b101), .val (.ref b108), .val (.int (own_eb q1 q2)), .val (.int (own_eb q3 q4)), .val (.int (1 : Int32)), .val (.int (1 : Int32)), .unset, .unset] [(.ref b_128)])) _
        refine st136.trans ?_
        show Steps p.tables e below (T136.setTop (mkF m 84 #[.val (.long q1), .second, .val (.long q2), .second, .val (.long q3), .second, .val (.long q4), .second, .val (.ref b101), .val (.ref b108), .val (.int (own_eb q1 q2)), .val (.int (own_eb q3 q4)), .val (.int (1 : Int32)), .val (.int (1 : Int32)), .unset, .unset] [(.int (0 : Int32))])) _
        refine XS.iload X136.here hx rfl (hb hby at_84) rfl ?_
        show Steps p.tables e below (T136.setTop (mkF m 86 #[.val (.long q1), .second, .val (.long q2), .second, .val (.long q3), .second, .val (.long q4), .second, .val (.ref b101), .val (.ref b108), .val (.int (own_eb q1 q2)), .val (.int (own_eb q3 q4)), .val (.int (1 : Int32)), .val (.int (1 : Int32)), .unset, .unset] [(.int (own_eb q1 q2)), (.int (0 : Int32))])) _
        refine XS.ifNo X136.here hx rfl (hb hby at_86) rfl ((if0 _ _).trans (teq hc126).2) ?_
        show Steps p.tables e below (T136.setTop (mkF m 89 #[.val (.long q1), .second, .val (.long q2), .second, .val (.long q3), .second, .val (.long q4), .second, .val (.ref b101), .val (.ref b108), .val (.int (own_eb q1 q2)), .val (.int (own_eb q3 q4)), .val (.int (1 : Int32)), .val (.int (1 : Int32)), .unset, .unset] [(.int (0 : Int32))])) _
        refine XS.iload X136.here hx rfl (hb hby at_89) rfl ?_
        show Steps p.tables e below (T136.setTop (mkF m 91 #[.val (.long q1), .second, .val (.long q2), .second, .val (.long q3), .second, .val (.long q4), .second, .val (.ref b101), .val (.ref b108), .val (.int (own_eb q1 q2)), .val (.int (own_eb q3 q4)), .val (.int (1 : Int32)), .val (.int (1 : Int32)), .unset, .unset] [(.int (own_eb q3 q4)), (.int (0 : Int32))])) _
        refine XS.ifYes X136.here hx rfl (pc0 := 91) (pc' := 98) rfl (hb hby at_91) rfl ((if0 _ _).trans (teq hc127).1) (by decide) (by decide) ?_
        show Steps p.tables e below (T136.setTop (mkF m 98 #[.val (.long q1), .second, .val (.long q2), .second, .val (.long q3), .second, .val (.long q4), .second, .val (.ref b101), .val (.ref b108), .val (.int (own_eb q1 q2)), .val (.int (own_eb q3 q4)), .val (.int (1 : Int32)), .val (.int (1 : Int32)), .unset, .unset] [(.int (0 : Int32))])) _
        refine XS.iconst X136.here hx rfl (hb hby at_98) ?_
        show Steps p.tables e below (T136.setTop (mkF m 99 #[.val (.long q1), .second, .val (.long q2), .second, .val (.long q3), .second, .val (.long q4), .second, .val (.ref b101), .val (.ref b108), .val (.int (own_eb q1 q2)), .val (.int (own_eb q3 q4)), .val (.int (1 : Int32)), .val (.int (1 : Int32)), .unset, .unset] [(.int (0 : Int32)), (.int (0 : Int32))])) _
        refine XS.icmpNo X136.here hx rfl (hb hby at_99) rfl (teq (by decide : (0 : Int32) = (0 : Int32))).2 ?_
        show Steps p.tables e below (T136.setTop (mkF m 102 #[.val (.long q1), .second, .val (.long q2), .second, .val (.long q3), .second, .val (.long q4), .second, .val (.ref b101), .val (.ref b108), .val (.int (own_eb q1 q2)), .val (.int (own_eb q3 q4)), .val (.int (1 : Int32)), .val (.int (1 : Int32)), .unset, .unset] [])) _
        refine XS.iconst X136.here hx rfl (hb hby at_102) ?_
        show Steps p.tables e below (T136.setTop (mkF m 103 #[.val (.long q1), .second, .val (.long q2), .second, .val (.long q3), .second, .val (.long q4), .second, .val (.ref b101), .val (.ref b108), .val (.int (own_eb q1 q2)), .val (.int (own_eb q3 q4)), .val (.int (1 : Int32)), .val (.int (1 : Int32)), .unset, .unset] [(.int (1 : Int32))])) _
        refine XS.goto X136.here hx rfl (pc0 := 103) (pc' := 107) rfl (hb hby at_103) (by decide) (by decide) ?_
        show Steps p.tables e below (T136.setTop (mkF m 107 #[.val (.long q1), .second, .val (.long q2), .second, .val (.long q3), .second, .val (.long q4), .second, .val (.ref b101), .val (.ref b108), .val (.int (own_eb q1 q2)), .val (.int (own_eb q3 q4)), .val (.int (1 : Int32)), .val (.int (1 : Int32)), .unset, .unset] [(.int (1 : Int32))])) _
        refine XS.istore X136.here hx rfl (hb hby at_107) rfl (l' := #[.val (.long q1), .second, .val (.long q2), .second, .val (.long q3), .second, .val (.long q4), .second, .val (.ref b101), .val (.ref b108), .val (.int (own_eb q1 q2)), .val (.int (own_eb q3 q4)), .val (.int (1 : Int32)), .val (.int (1 : Int32)), .val (.int (1 : Int32)), .unset]) rfl ?_
        show Steps p.tables e below (T136.setTop (mkF m 109 #[.val (.long q1), .second, .val (.long q2), .second, .val (.long q3), .second, .val (.long q4), .second, .val (.ref b101), .val (.ref b108), .val (.int (own_eb q1 q2)), .val (.int (own_eb q3 q4)), .val (.int (1 : Int32)), .val (.int (1 : Int32)), .val (.int (1 : Int32)), .unset] [])) _
        refine st137 _ ?_
        show Steps p.tables e below (T137.setTop (mkF m 112 #[.val (.long q1), .second, .val (.long q2), .second, .val (.long q3), .second, .val (.long q4), .second, .val (.ref b101), .val (.ref b108), .val (.int (own_eb q1 q2)), .val (.int (own_eb q3 q4)), .val (.int (1 : Int32)), .val (.int (1 : Int32)), .val (.int (1 : Int32)), .unset] [(.ref wr5)])) _
        refine st138.trans ?_
        show Steps p.tables e below (T138.setTop (mkF m 115 #[.val (.long q1), .second, .val (.long q2), .second, .val (.long q3), .second, .val (.long q4), .second, .val (.ref b101), .val (.ref b108), .val (.int (own_eb q1 q2)), .val (.int (own_eb q3 q4)), .val (.int (1 : Int32)), .val (.int (1 : Int32)), .val (.int (1 : Int32)), .unset] [(.int (0 : Int32))])) _
        refine XS.ifNo X138.here hx rfl (hb hby at_115) rfl ((if0 _ _).trans (teq (by decide : (0 : Int32) = (0 : Int32))).2) ?_
        show Steps p.tables e below (T138.setTop (mkF m 118 #[.val (.long q1), .second, .val (.long q2), .second, .val (.long q3), .second, .val (.long q4), .second, .val (.ref b101), .val (.ref b108), .val (.int (own_eb q1 q2)), .val (.int (own_eb q3 q4)), .val (.int (1 : Int32)), .val (.int (1 : Int32)), .val (.int (1 : Int32)), .unset] [])) _
        refine XS.iconst X138.here hx rfl (hb hby at_118) ?_
        show Steps p.tables e below (T138.setTop (mkF m 119 #[.val (.long q1), .second, .val (.long q2), .second, .val (.long q3), .second, .val (.long q4), .second, .val (.ref b101), .val (.ref b108), .val (.int (own_eb q1 q2)), .val (.int (own_eb q3 q4)), .val (.int (1 : Int32)), .val (.int (1 : Int32)), .val (.int (1 : Int32)), .unset] [(.int (1 : Int32))])) _
        refine XS.goto X138.here hx rfl (pc0 := 119) (pc' := 123) rfl (hb hby at_119) (by decide) (by decide) ?_
        show Steps p.tables e below (T138.setTop (mkF m 123 #[.val (.long q1), .second, .val (.long q2), .second, .val (.long q3), .second, .val (.long q4), .second, .val (.ref b101), .val (.ref b108), .val (.int (own_eb q1 q2)), .val (.int (own_eb q3 q4)), .val (.int (1 : Int32)), .val (.int (1 : Int32)), .val (.int (1 : Int32)), .unset] [(.int (1 : Int32))])) _
        refine XS.istore X138.here hx rfl (hb hby at_123) rfl (l' := #[.val (.long q1), .second, .val (.long q2), .second, .val (.long q3), .second, .val (.long q4), .second, .val (.ref b101), .val (.ref b108), .val (.int (own_eb q1 q2)), .val (.int (own_eb q3 q4)), .val (.int (1 : Int32)), .val (.int (1 : Int32)), .val (.int (1 : Int32)), .val (.int (1 : Int32))]) rfl ?_
        show Steps p.tables e below (T138.setTop (mkF m 125 #[.val (.long q1), .second, .val (.long q2), .second, .val (.long q3), .second, .val (.long q4), .second, .val (.ref b101), .val (.ref b108), .val (.int (own_eb q1 q2)), .val (.int (own_eb q3 q4)), .val (.int (1 : Int32)), .val (.int (1 : Int32)), .val (.int (1 : Int32)), .val (.int (1 : Int32))] [])) _
        refine XS.iload X138.here hx rfl (hb hby at_125) rfl ?_
        show Steps p.tables e below (T138.setTop (mkF m 127 #[.val (.long q1), .second, .val (.long q2), .second, .val (.long q3), .second, .val (.long q4), .second, .val (.ref b101), .val (.ref b108), .val (.int (own_eb q1 q2)), .val (.int (own_eb q3 q4)), .val (.int (1 : Int32)), .val (.int (1 : Int32)), .val (.int (1 : Int32)), .val (.int (1 : Int32))] [(.int (1 : Int32))])) _
        refine XS.ifNo X138.here hx rfl (hb hby at_127) rfl ((if0 _ _).trans (feq (by decide : ¬ ((1 : Int32) = (0 : Int32)))).1) ?_
        show Steps p.tables e below (T138.setTop (mkF m 130 #[.val (.long q1), .second, .val (.long q2), .second, .val (.long q3), .second, .val (.long q4), .second, .val (.ref b101), .val (.ref b108), .val (.int (own_eb q1 q2)), .val (.int (own_eb q3 q4)), .val (.int (1 : Int32)), .val (.int (1 : Int32)), .val (.int (1 : Int32)), .val (.int (1 : Int32))] [])) _
        refine XS.iload X138.here hx rfl (hb hby at_130) rfl ?_
        show Steps p.tables e below (T138.setTop (mkF m 132 #[.val (.long q1), .second, .val (.long q2), .second, .val (.long q3), .second, .val (.long q4), .second, .val (.ref b101), .val (.ref b108), .val (.int (own_eb q1 q2)), .val (.int (own_eb q3 q4)), .val (.int (1 : Int32)), .val (.int (1 : Int32)), .val (.int (1 : Int32)), .val (.int (1 : Int32))] [(.int (1 : Int32))])) _
        refine XS.ifNo X138.here hx rfl (hb hby at_132) rfl ((if0 _ _).trans (feq (by decide : ¬ ((1 : Int32) = (0 : Int32)))).1) ?_
        show Steps p.tables e below (T138.setTop (mkF m 135 #[.val (.long q1), .second, .val (.long q2), .second, .val (.long q3), .second, .val (.long q4), .second, .val (.ref b101), .val (.ref b108), .val (.int (own_eb q1 q2)), .val (.int (own_eb q3 q4)), .val (.int (1 : Int32)), .val (.int (1 : Int32)), .val (.int (1 : Int32)), .val (.int (1 : Int32))] [])) _
        refine XS.iload X138.here hx rfl (hb hby at_135) rfl ?_
        show Steps p.tables e below (T138.setTop (mkF m 137 #[.val (.long q1), .second, .val (.long q2), .second, .val (.long q3), .second, .val (.long q4), .second, .val (.ref b101), .val (.ref b108), .val (.int (own_eb q1 q2)), .val (.int (own_eb q3 q4)), .val (.int (1 : Int32)), .val (.int (1 : Int32)), .val (.int (1 : Int32)), .val (.int (1 : Int32))] [(.int (1 : Int32))])) _
        refine XS.ifNo X138.here hx rfl (hb hby at_137) rfl ((if0 _ _).trans (feq (by decide : ¬ ((1 : Int32) = (0 : Int32)))).1) ?_
        show Steps p.tables e below (T138.setTop (mkF m 140 #[.val (.long q1), .second, .val (.long q2), .second, .val (.long q3), .second, .val (.long q4), .second, .val (.ref b101), .val (.ref b108), .val (.int (own_eb q1 q2)), .val (.int (own_eb q3 q4)), .val (.int (1 : Int32)), .val (.int (1 : Int32)), .val (.int (1 : Int32)), .val (.int (1 : Int32))] [])) _
        refine XS.iload X138.here hx rfl (hb hby at_140) rfl ?_
        show Steps p.tables e below (T138.setTop (mkF m 142 #[.val (.long q1), .second, .val (.long q2), .second, .val (.long q3), .second, .val (.long q4), .second, .val (.ref b101), .val (.ref b108), .val (.int (own_eb q1 q2)), .val (.int (own_eb q3 q4)), .val (.int (1 : Int32)), .val (.int (1 : Int32)), .val (.int (1 : Int32)), .val (.int (1 : Int32))] [(.int (1 : Int32))])) _
        refine XS.ifNo X138.here hx rfl (hb hby at_142) rfl ((if0 _ _).trans (feq (by decide : ¬ ((1 : Int32) = (0 : Int32)))).1) ?_
        show Steps p.tables e below (T138.setTop (mkF m 145 #[.val (.long q1), .second, .val (.long q2), .second, .val (.long q3), .second, .val (.long q4), .second, .val (.ref b101), .val (.ref b108), .val (.int (own_eb q1 q2)), .val (.int (own_eb q3 q4)), .val (.int (1 : Int32)), .val (.int (1 : Int32)), .val (.int (1 : Int32)), .val (.int (1 : Int32))] [])) _
        refine XS.iconst X138.here hx rfl (hb hby at_145) ?_
        show Steps p.tables e below (T138.setTop (mkF m 146 #[.val (.long q1), .second, .val (.long q2), .second, .val (.long q3), .second, .val (.long q4), .second, .val (.ref b101), .val (.ref b108), .val (.int (own_eb q1 q2)), .val (.int (own_eb q3 q4)), .val (.int (1 : Int32)), .val (.int (1 : Int32)), .val (.int (1 : Int32)), .val (.int (1 : Int32))] [(.int (1 : Int32))])) _
        refine XS.goto X138.here hx rfl (pc0 := 146) (pc' := 150) rfl (hb hby at_146) (by decide) (by decide) ?_
        show Steps p.tables e below (T138.setTop (mkF m 150 #[.val (.long q1), .second, .val (.long q2), .second, .val (.long q3), .second, .val (.long q4), .second, .val (.ref b101), .val (.ref b108), .val (.int (own_eb q1 q2)), .val (.int (own_eb q3 q4)), .val (.int (1 : Int32)), .val (.int (1 : Int32)), .val (.int (1 : Int32)), .val (.int (1 : Int32))] [(.int (1 : Int32))])) _
        exact retN X138 hx (t := .boolean) Bd.returns (by simp) (hb hby at_150) hr
      · show Q0 Z q1 q2 q3 q4 wr5 h0 n0 _ T138.heap _
        rw [P138_0]
        exact ⟨rfl, N138⟩
    · obtain ⟨cq139, kq139, q139a, q139b, q139c⟩ := isOf hZ P124_0 f117
      obtain ⟨_, _, ⟨T139, L139, k139, n139⟩, -, X139, ⟨Lc139, hQ139, l139, y139, z139⟩, st139⟩ := X124.virtualBack hx (y := (⟨"com/example/redoubt/redoubt/protocol/Freshness", "and", "(Lcom/example/redoubt/redoubt/protocol/Freshness;)Lcom/example/redoubt/redoubt/protocol/Freshness;"⟩ : MethodName)) (z := (⟨"com/example/redoubt/redoubt/protocol/Freshness", "and", "(Lcom/example/redoubt/redoubt/protocol/Freshness;)Lcom/example/redoubt/redoubt/protocol/Freshness;"⟩ : MethodName)) hown (mvT hZ (hw _ (List.mem_of_getElem? (i := 22) rfl))) (mvT hZ (hw _ (List.mem_of_getElem? (i := 23) rfl))) (notFace_of_selects (args := #[]) (mvT hZ (hw _ (List.mem_of_getElem? (i := 25) rfl)))) (mvT hZ (hw _ (List.mem_of_getElem? (i := 25) rfl))) (mvT hZ (hw _ (List.mem_of_getElem? (i := 24) rfl))) (by decide) (backOf (W := 0) (rm5 l Z a0 hw [] b101 b108 q1 q3 q2 q4 T115.heap n0 Zs115 f118 P115_1 f119 P115_2) hZ (hw _ (List.mem_of_getElem? (i := 26) rfl)) (hw _ (List.mem_of_getElem? (i := 2) rfl)) (by decide) (by decide)) q139a q139c (g := (mkF m 78 #[.val (.long q1), .second, .val (.long q2), .second, .val (.long q3), .second, .val (.long q4), .second, .val (.ref b101), .val (.ref b108), .val (.int (own_eb q1 q2)), .val (.int (own_eb q3 q4)), .val (.int (1 : Int32)), .val (.int (1 : Int32)), .unset, .unset] [(.ref b108), (.ref b101)])) rfl (by rw [hml]; rfl) (Steps.refl _) (argsL := [(.ref b108)]) (rest := []) (lenOf pd_4 rfl) rfl (by show 2 * 0 + _ ≤ _; exact Nat.le_of_eq rfl) (hb hby at_78) (fun _ _ => ⟨rfl, P124_0, (by decide : 2 + 1 ≤ _), (by decide : 4 + 2 ≤ _)⟩)
      dsimp only [Pt.U, Pt.locs, Pt.cells, Pt.slots] at X139 l139 y139 z139 st139 hQ139
      subst l139 y139 z139
      obtain ⟨b_139, rfl, N139q, P139_0, P139_1, P139_2, P139_3, P139_4⟩ := hQ139
      have N139 := Fr.app N124 N139q
      have ne_b101_b_139 : b101 ≠ b_139 := Nat.ne_of_lt (Nat.lt_of_lt_of_le f117.lt P139_1)
      have ne_b108_b_139 : b108 ≠ b_139 := Nat.ne_of_lt (Nat.lt_of_lt_of_le f120.lt P139_1)
      have gn_b_139 : n0 ≤ b_139 := Nat.le_trans Zs115 P139_1
      have f140 : Old Z n0 T139.heap := f116.keep P139_0 all0
      have f141 : Exa Z T139.heap b101 "com/example/redoubt/redoubt/protocol/Freshness" := f117.keep P139_0
      have f142 : Fld Z T139.heap b101 "com/example/redoubt/redoubt/protocol/Freshness" "position" "J" (.long q1) := f118.keep P139_0 nin0
      have f143 : Fld Z T139.heap b101 "com/example/redoubt/redoubt/protocol/Freshness" "maxStalenessMillis" "J" (.long q2) := f119.keep P139_0 nin0
      have f144 : Exa Z T139.heap b108 "com/example/redoubt/redoubt/protocol/Freshness" := f120.keep P139_0
      have f145 : Fld Z T139.heap b108 "com/example/redoubt/redoubt/protocol/Freshness" "position" "J" (.long q3) := P115_1.keep P139_0 nin0
      have f146 : Fld Z T139.heap b108 "com/example/redoubt/redoubt/protocol/Freshness" "maxStalenessMillis" "J" (.long q4) := P115_2.keep P139_0 nin0
      have Zs139 : n0 ≤ T139.heap.size := Nat.le_trans Zs115 P139_0.1
      obtain ⟨cq147, kq147, q147a, q147b, q147c⟩ := isOf hZ rfl P139_2
      obtain ⟨_, _, ⟨T147, L147, k147, n147⟩, -, X147, ⟨Lc147, hQ147, l147, y147, z147⟩, st147⟩ := X139.virtualBack hx (y := (⟨"com/example/redoubt/redoubt/protocol/Freshness", "bounded", "()Z"⟩ : MethodName)) (z := (⟨"com/example/redoubt/redoubt/protocol/Freshness", "bounded", "()Z"⟩ : MethodName)) hown (mvT hZ (hw _ (List.mem_of_getElem? (i := 17) rfl))) (mvT hZ (hw _ (List.mem_of_getElem? (i := 18) rfl))) (notFace_of_selects (args := #[]) (mvT hZ (hw _ (List.mem_of_getElem? (i := 20) rfl)))) (mvT hZ (hw _ (List.mem_of_getElem? (i := 20) rfl))) (mvT hZ (hw _ (List.mem_of_getElem? (i := 19) rfl))) (by decide) (backOf (W := 0) (rm4 l Z a0 hw [] b_139 (own_max q1 q3) (own_mil q2 q4) T139.heap n0 Zs139 P139_3 P139_4) hZ (hw _ (List.mem_of_getElem? (i := 21) rfl)) (hw _ (List.mem_of_getElem? (i := 2) rfl)) (by decide) (by decide)) q147a q147c (g := (mkF m 81 #[.val (.long q1), .second, .val (.long q2), .second, .val (.long q3), .second, .val (.long q4), .second, .val (.ref b101), .val (.ref b108), .val (.int (own_eb q1 q2)), .val (.int (own_eb q3 q4)), .val (.int (1 : Int32)), .val (.int (1 : Int32)), .unset, .unset] [(.ref b_139)])) rfl (by rw [hml]; rfl) (Steps.refl _) (argsL := []) (rest := []) (lenOf pd_3 rfl) rfl (by show 2 * 0 + _ ≤ _; exact Nat.le_of_eq rfl) (hb hby at_81) (fun _ _ => ⟨rfl, rfl, (by decide : 3 + 0 ≤ _), (by decide : 6 + 0 ≤ _)⟩)
      dsimp only [Pt.U, Pt.locs, Pt.cells, Pt.slots] at X147 l147 y147 z147 st147 hQ147
      subst l147 y147 z147
      obtain ⟨hv147, N147q, P147_0⟩ := hQ147
      obtain rfl := hv147.trans (congrArg (fun z => some (Value.int z)) (own_and1 (Or.inr hc127) : (own_bd (own_max q1 q3) (own_mil q2 q4)) = (1 : Int32)))
      have N147 := Fr.app N139 N147q
      obtain ⟨T148, X148, e148, st148⟩ := getS2 X147 hx hZ hown (host := "") (Or.inl (hw _ (List.mem_of_getElem? (i := 36) rfl))) Via.refl P147_0 (Sta.ext f140.2 pf1) (g := (mkF m 109 #[.val (.long q1), .second, .val (.long q2), .second, .val (.long q3), .second, .val (.long q4), .second, .val (.ref b101), .val (.ref b108), .val (.int (own_eb q1 q2)), .val (.int (own_eb q3 q4)), .val (.int (1 : Int32)), .val (.int (1 : Int32)), .val (.int (1 : Int32)), .unset] [])) rfl (hb hby at_109)
      obtain ⟨cq149, kq149, q149a, q149b, q149c⟩ := isOf hZ e148 (Exa.ext f140.2 pf0)
      obtain ⟨_, _, ⟨T149, L149, k149, n149⟩, -, X149, ⟨Lc149, hQ149, l149, y149, z149⟩, st149⟩ := X148.virtualBack hx (y := (⟨"com/example/redoubt/redoubt/protocol/Freshness", "bounded", "()Z"⟩ : MethodName)) (z := (⟨"com/example/redoubt/redoubt/protocol/Freshness", "bounded", "()Z"⟩ : MethodName)) hown (mvT hZ (hw _ (List.mem_of_getElem? (i := 17) rfl))) (mvT hZ (hw _ (List.mem_of_getElem? (i := 18) rfl))) (notFace_of_selects (args := #[]) (mvT hZ (hw _ (List.mem_of_getElem? (i := 20) rfl)))) (mvT hZ (hw _ (List.mem_of_getElem? (i := 20) rfl))) (mvT hZ (hw _ (List.mem_of_getElem? (i := 19) rfl))) (by decide) (backOf (W := 0) (rm4 l Z a0 hw [] wr5 (-1 : Int64) (-1 : Int64) T139.heap n0 Zs139 (Fld.ext f140.2 pf2) (Fld.ext f140.2 pf3)) hZ (hw _ (List.mem_of_getElem? (i := 21) rfl)) (hw _ (List.mem_of_getElem? (i := 2) rfl)) (by decide) (by decide)) q149a q149c (g := (mkF m 112 #[.val (.long q1), .second, .val (.long q2), .second, .val (.long q3), .second, .val (.long q4), .second, .val (.ref b101), .val (.ref b108), .val (.int (own_eb q1 q2)), .val (.int (own_eb q3 q4)), .val (.int (1 : Int32)), .val (.int (1 : Int32)), .val (.int (1 : Int32)), .unset] [(.ref wr5)])) rfl (by rw [hml]; rfl) (Steps.refl _) (argsL := []) (rest := []) (lenOf pd_3 rfl) rfl (by show 2 * 0 + _ ≤ _; exact Nat.le_of_eq rfl) (hb hby at_112) (fun _ _ => ⟨rfl, e148, (by decide : 3 + 0 ≤ _), (by decide : 6 + 0 ≤ _)⟩)
      dsimp only [Pt.U, Pt.locs, Pt.cells, Pt.slots] at X149 l149 y149 z149 st149 hQ149
      subst l149 y149 z149
      obtain ⟨hv149, N149q, P149_0⟩ := hQ149
      obtain rfl := hv149.trans (congrArg (fun z => some (Value.int z)) (by decide : (own_bd (-1 : Int64) (-1 : Int64)) = (0 : Int32)))
      have N149 := Fr.app N147 N149q
      obtain ⟨fs, hr, hrun, hended, hW, hsame⟩ := X149.leave (v := some (.int (1 : Int32))) (fun h => by rw [Bd.returns] at h; cases h) hlk
      refine ⟨_, _, pre0 _ ?_, hrun, hended, _, _, rfl, ?_, ⟨_, rfl⟩, hW, hsame.mono (by decide) (by decide)⟩
      · refine pr125 _ ?_
        show Steps p.tables e below (T124.setTop (mkF m 74 #[.val (.long q1), .second, .val (.long q2), .second, .val (.long q3), .second, .val (.long q4), .second, .val (.ref b101), .val (.ref b108), .val (.int (own_eb q1 q2)), .val (.int (own_eb q3 q4)), .val (.int (1 : Int32)), .val (.int (1 : Int32)), .unset, .unset] [])) _
        refine XS.aload X124.here hx rfl (hb hby at_74) rfl rfl ?_
        show Steps p.tables e below (T124.setTop (mkF m 76 #[.val (.long q1), .second, .val (.long q2), .second, .val (.long q3), .second, .val (.long q4), .second, .val (.ref b101), .val (.ref b108), .val (.int (own_eb q1 q2)), .val (.int (own_eb q3 q4)), .val (.int (1 : Int32)), .val (.int (1 : Int32)), .unset, .unset] [(.ref b101)])) _
        refine XS.aload X124.here hx rfl (hb hby at_76) rfl rfl ?_
        show Steps p.tables e below (T124.setTop (mkF m 78 #[.val (.long q1), .second, .val (.long q2), .second, .val (.long q3), .second, .val (.long q4), .second, .val (.ref b101), .val (.ref b108), .val (.int (own_eb q1 q2)), .val (.int (own_eb q3 q4)), .val (.int (1 : Int32)), .val (.int (1 : Int32)), .unset, .unset] [(.ref b108), (.ref b101)])) _
        refine st139.trans ?_
        show Steps p.tables e below (T139.setTop (mkF m 81 #[.val (.long q1), .second, .val (.long q2), .second, .val (.long q3), .second, .val (.long q4), .second, .val (.ref b101), .val (.ref b108), .val (.int (own_eb q1 q2)), .val (.int (own_eb q3 q4)), .val (.int (1 : Int32)), .val (.int (1 : Int32)), .unset, .unset] [(.ref b_139)])) _
        refine st147.trans ?_
        show Steps p.tables e below (T147.setTop (mkF m 84 #[.val (.long q1), .second, .val (.long q2), .second, .val (.long q3), .second, .val (.long q4), .second, .val (.ref b101), .val (.ref b108), .val (.int (own_eb q1 q2)), .val (.int (own_eb q3 q4)), .val (.int (1 : Int32)), .val (.int (1 : Int32)), .unset, .unset] [(.int (1 : Int32))])) _
        refine XS.iload X147.here hx rfl (hb hby at_84) rfl ?_
        show Steps p.tables e below (T147.setTop (mkF m 86 #[.val (.long q1), .second, .val (.long q2), .second, .val (.long q3), .second, .val (.long q4), .second, .val (.ref b101), .val (.ref b108), .val (.int (own_eb q1 q2)), .val (.int (own_eb q3 q4)), .val (.int (1 : Int32)), .val (.int (1 : Int32)), .unset, .unset] [(.int (own_eb q1 q2)), (.int (1 : Int32))])) _
        refine XS.ifNo X147.here hx rfl (hb hby at_86) rfl ((if0 _ _).trans (teq hc126).2) ?_
        show Steps p.tables e below (T147.setTop (mkF m 89 #[.val (.long q1), .second, .val (.long q2), .second, .val (.long q3), .second, .val (.long q4), .second, .val (.ref b101), .val (.ref b108), .val (.int (own_eb q1 q2)), .val (.int (own_eb q3 q4)), .val (.int (1 : Int32)), .val (.int (1 : Int32)), .unset, .unset] [(.int (1 : Int32))])) _
        refine XS.iload X147.here hx rfl (hb hby at_89) rfl ?_
        show Steps p.tables e below (T147.setTop (mkF m 91 #[.val (.long q1), .second, .val (.long q2), .second, .val (.long q3), .second, .val (.long q4), .second, .val (.ref b101), .val (.ref b108), .val (.int (own_eb q1 q2)), .val (.int (own_eb q3 q4)), .val (.int (1 : Int32)), .val (.int (1 : Int32)), .unset, .unset] [(.int (own_eb q3 q4)), (.int (1 : Int32))])) _
        refine XS.ifNo X147.here hx rfl (hb hby at_91) rfl ((if0 _ _).trans (feq hc127).1) ?_
        show Steps p.tables e below (T147.setTop (mkF m 94 #[.val (.long q1), .second, .val (.long q2), .second, .val (.long q3), .second, .val (.long q4), .second, .val (.ref b101), .val (.ref b108), .val (.int (own_eb q1 q2)), .val (.int (own_eb q3 q4)), .val (.int (1 : Int32)), .val (.int (1 : Int32)), .unset, .unset] [(.int (1 : Int32))])) _
        refine XS.iconst X147.here hx rfl (hb hby at_94) ?_
        show Steps p.tables e below (T147.setTop (mkF m 95 #[.val (.long q1), .second, .val (.long q2), .second, .val (.long q3), .second, .val (.long q4), .second, .val (.ref b101), .val (.ref b108), .val (.int (own_eb q1 q2)), .val (.int (own_eb q3 q4)), .val (.int (1 : Int32)), .val (.int (1 : Int32)), .unset, .unset] [(.int (1 : Int32)), (.int (1 : Int32))])) _
        refine XS.goto X147.here hx rfl (pc0 := 95) (pc' := 99) rfl (hb hby at_95) (by decide) (by decide) ?_
        show Steps p.tables e below (T147.setTop (mkF m 99 #[.val (.long q1), .second, .val (.long q2), .second, .val (.long q3), .second, .val (.long q4), .second, .val (.ref b101), .val (.ref b108), .val (.int (own_eb q1 q2)), .val (.int (own_eb q3 q4)), .val (.int (1 : Int32)), .val (.int (1 : Int32)), .unset, .unset] [(.int (1 : Int32)), (.int (1 : Int32))])) _
        refine XS.icmpNo X147.here hx rfl (hb hby at_99) rfl (teq (by decide : (1 : Int32) = (1 : Int32))).2 ?_
        show Steps p.tables e below (T147.setTop (mkF m 102 #[.val (.long q1), .second, .val (.long q2), .second, .val (.long q3), .second, .val (.long q4), .second, .val (.ref b101), .val (.ref b108), .val (.int (own_eb q1 q2)), .val (.int (own_eb q3 q4)), .val (.int (1 : Int32)), .val (.int (1 : Int32)), .unset, .unset] [])) _
        refine XS.iconst X147.here hx rfl (hb hby at_102) ?_
        show Steps p.tables e below (T147.setTop (mkF m 103 #[.val (.long q1), .second, .val (.long q2), .second, .val (.long q3), .second, .val (.long q4), .second, .val (.ref b101), .val (.ref b108), .val (.int (own_eb q1 q2)), .val (.int (own_eb q3 q4)), .val (.int (1 : Int32)), .val (.int (1 : Int32)), .unset, .unset] [(.int (1 : Int32))])) _
        refine XS.goto X147.here hx rfl (pc0 := 103) (pc' := 107) rfl (hb hby at_103) (by decide) (by decide) ?_
        show Steps p.tables e below (T147.setTop (mkF m 107 #[.val (.long q1), .second, .val (.long q2), .second, .val (.long q3), .second, .val (.long q4), .second, .val (.ref b101), .val (.ref b108), .val (.int (own_eb q1 q2)), .val (.int (own_eb q3 q4)), .val (.int (1 : Int32)), .val (.int (1 : Int32)), .unset, .unset] [(.int (1 : Int32))])) _
        refine XS.istore X147.here hx rfl (hb hby at_107) rfl (l' := #[.val (.long q1), .second, .val (.long q2), .second, .val (.long q3), .second, .val (.long q4), .second, .val (.ref b101), .val (.ref b108), .val (.int (own_eb q1 q2)), .val (.int (own_eb q3 q4)), .val (.int (1 : Int32)), .val (.int (1 : Int32)), .val (.int (1 : Int32)), .unset]) rfl ?_
        show Steps p.tables e below (T147.setTop (mkF m 109 #[.val (.long q1), .second, .val (.long q2), .second, .val (.long q3), .second, .val (.long q4), .second, .val (.ref b101), .val (.ref b108), .val (.int (own_eb q1 q2)), .val (.int (own_eb q3 q4)), .val (.int (1 : Int32)), .val (.int (1 : Int32)), .val (.int (1 : Int32)), .unset] [])) _
        refine st148 _ ?_
        show Steps p.tables e below (T148.setTop (mkF m 112 #[.val (.long q1), .second, .val (.long q2), .second, .val (.long q3), .second, .val (.long q4), .second, .val (.ref b101), .val (.ref b108), .val (.int (own_eb q1 q2)), .val (.int (own_eb q3 q4)), .val (.int (1 : Int32)), .val (.int (1 : Int32)), .val (.int (1 : Int32)), .unset] [(.ref wr5)])) _
        refine st149.trans ?_
        show Steps p.tables e below (T149.setTop (mkF m 115 #[.val (.long q1), .second, .val (.long q2), .second, .val (.long q3), .second, .val (.long q4), .second, .val (.ref b101), .val (.ref b108), .val (.int (own_eb q1 q2)), .val (.int (own_eb q3 q4)), .val (.int (1 : Int32)), .val (.int (1 : Int32)), .val (.int (1 : Int32)), .unset] [(.int (0 : Int32))])) _
        refine XS.ifNo X149.here hx rfl (hb hby at_115) rfl ((if0 _ _).trans (teq (by decide : (0 : Int32) = (0 : Int32))).2) ?_
        show Steps p.tables e below (T149.setTop (mkF m 118 #[.val (.long q1), .second, .val (.long q2), .second, .val (.long q3), .second, .val (.long q4), .second, .val (.ref b101), .val (.ref b108), .val (.int (own_eb q1 q2)), .val (.int (own_eb q3 q4)), .val (.int (1 : Int32)), .val (.int (1 : Int32)), .val (.int (1 : Int32)), .unset] [])) _
        refine XS.iconst X149.here hx rfl (hb hby at_118) ?_
        show Steps p.tables e below (T149.setTop (mkF m 119 #[.val (.long q1), .second, .val (.long q2), .second, .val (.long q3), .second, .val (.long q4), .second, .val (.ref b101), .val (.ref b108), .val (.int (own_eb q1 q2)), .val (.int (own_eb q3 q4)), .val (.int (1 : Int32)), .val (.int (1 : Int32)), .val (.int (1 : Int32)), .unset] [(.int (1 : Int32))])) _
        refine XS.goto X149.here hx rfl (pc0 := 119) (pc' := 123) rfl (hb hby at_119) (by decide) (by decide) ?_
        show Steps p.tables e below (T149.setTop (mkF m 123 #[.val (.long q1), .second, .val (.long q2), .second, .val (.long q3), .second, .val (.long q4), .second, .val (.ref b101), .val (.ref b108), .val (.int (own_eb q1 q2)), .val (.int (own_eb q3 q4)), .val (.int (1 : Int32)), .val (.int (1 : Int32)), .val (.int (1 : Int32)), .unset] [(.int (1 : Int32))])) _
        refine XS.istore X149.here hx rfl (hb hby at_123) rfl (l' := #[.val (.long q1), .second, .val (.long q2), .second, .val (.long q3), .second, .val (.long q4), .second, .val (.ref b101), .val (.ref b108), .val (.int (own_eb q1 q2)), .val (.int (own_eb q3 q4)), .val (.int (1 : Int32)), .val (.int (1 : Int32)), .val (.int (1 : Int32)), .val (.int (1 : Int32))]) rfl ?_
        show Steps p.tables e below (T149.setTop (mkF m 125 #[.val (.long q1), .second, .val (.long q2), .second, .val (.long q3), .second, .val (.long q4), .second, .val (.ref b101), .val (.ref b108), .val (.int (own_eb q1 q2)), .val (.int (own_eb q3 q4)), .val (.int (1 : Int32)), .val (.int (1 : Int32)), .val (.int (1 : Int32)), .val (.int (1 : Int32))] [])) _
        refine XS.iload X149.here hx rfl (hb hby at_125) rfl ?_
        show Steps p.tables e below (T149.setTop (mkF m 127 #[.val (.long q1), .second, .val (.long q2), .second, .val (.long q3), .second, .val (.long q4), .second, .val (.ref b101), .val (.ref b108), .val (.int (own_eb q1 q2)), .val (.int (own_eb q3 q4)), .val (.int (1 : Int32)), .val (.int (1 : Int32)), .val (.int (1 : Int32)), .val (.int (1 : Int32))] [(.int (1 : Int32))])) _
        refine XS.ifNo X149.here hx rfl (hb hby at_127) rfl ((if0 _ _).trans (feq (by decide : ¬ ((1 : Int32) = (0 : Int32)))).1) ?_
        show Steps p.tables e below (T149.setTop (mkF m 130 #[.val (.long q1), .second, .val (.long q2), .second, .val (.long q3), .second, .val (.long q4), .second, .val (.ref b101), .val (.ref b108), .val (.int (own_eb q1 q2)), .val (.int (own_eb q3 q4)), .val (.int (1 : Int32)), .val (.int (1 : Int32)), .val (.int (1 : Int32)), .val (.int (1 : Int32))] [])) _
        refine XS.iload X149.here hx rfl (hb hby at_130) rfl ?_
        show Steps p.tables e below (T149.setTop (mkF m 132 #[.val (.long q1), .second, .val (.long q2), .second, .val (.long q3), .second, .val (.long q4), .second, .val (.ref b101), .val (.ref b108), .val (.int (own_eb q1 q2)), .val (.int (own_eb q3 q4)), .val (.int (1 : Int32)), .val (.int (1 : Int32)), .val (.int (1 : Int32)), .val (.int (1 : Int32))] [(.int (1 : Int32))])) _
        refine XS.ifNo X149.here hx rfl (hb hby at_132) rfl ((if0 _ _).trans (feq (by decide : ¬ ((1 : Int32) = (0 : Int32)))).1) ?_
        show Steps p.tables e below (T149.setTop (mkF m 135 #[.val (.long q1), .second, .val (.long q2), .second, .val (.long q3), .second, .val (.long q4), .second, .val (.ref b101), .val (.ref b108), .val (.int (own_eb q1 q2)), .val (.int (own_eb q3 q4)), .val (.int (1 : Int32)), .val (.int (1 : Int32)), .val (.int (1 : Int32)), .val (.int (1 : Int32))] [])) _
        refine XS.iload X149.here hx rfl (hb hby at_135) rfl ?_
        show Steps p.tables e below (T149.setTop (mkF m 137 #[.val (.long q1), .second, .val (.long q2), .second, .val (.long q3), .second, .val (.long q4), .second, .val (.ref b101), .val (.ref b108), .val (.int (own_eb q1 q2)), .val (.int (own_eb q3 q4)), .val (.int (1 : Int32)), .val (.int (1 : Int32)), .val (.int (1 : Int32)), .val (.int (1 : Int32))] [(.int (1 : Int32))])) _
        refine XS.ifNo X149.here hx rfl (hb hby at_137) rfl ((if0 _ _).trans (feq (by decide : ¬ ((1 : Int32) = (0 : Int32)))).1) ?_
        show Steps p.tables e below (T149.setTop (mkF m 140 #[.val (.long q1), .second, .val (.long q2), .second, .val (.long q3), .second, .val (.long q4), .second, .val (.ref b101), .val (.ref b108), .val (.int (own_eb q1 q2)), .val (.int (own_eb q3 q4)), .val (.int (1 : Int32)), .val (.int (1 : Int32)), .val (.int (1 : Int32)), .val (.int (1 : Int32))] [])) _
        refine XS.iload X149.here hx rfl (hb hby at_140) rfl ?_
        show Steps p.tables e below (T149.setTop (mkF m 142 #[.val (.long q1), .second, .val (.long q2), .second, .val (.long q3), .second, .val (.long q4), .second, .val (.ref b101), .val (.ref b108), .val (.int (own_eb q1 q2)), .val (.int (own_eb q3 q4)), .val (.int (1 : Int32)), .val (.int (1 : Int32)), .val (.int (1 : Int32)), .val (.int (1 : Int32))] [(.int (1 : Int32))])) _
        refine XS.ifNo X149.here hx rfl (hb hby at_142) rfl ((if0 _ _).trans (feq (by decide : ¬ ((1 : Int32) = (0 : Int32)))).1) ?_
        show Steps p.tables e below (T149.setTop (mkF m 145 #[.val (.long q1), .second, .val (.long q2), .second, .val (.long q3), .second, .val (.long q4), .second, .val (.ref b101), .val (.ref b108), .val (.int (own_eb q1 q2)), .val (.int (own_eb q3 q4)), .val (.int (1 : Int32)), .val (.int (1 : Int32)), .val (.int (1 : Int32)), .val (.int (1 : Int32))] [])) _
        refine XS.iconst X149.here hx rfl (hb hby at_145) ?_
        show Steps p.tables e below (T149.setTop (mkF m 146 #[.val (.long q1), .second, .val (.long q2), .second, .val (.long q3), .second, .val (.long q4), .second, .val (.ref b101), .val (.ref b108), .val (.int (own_eb q1 q2)), .val (.int (own_eb q3 q4)), .val (.int (1 : Int32)), .val (.int (1 : Int32)), .val (.int (1 : Int32)), .val (.int (1 : Int32))] [(.int (1 : Int32))])) _
        refine XS.goto X149.here hx rfl (pc0 := 146) (pc' := 150) rfl (hb hby at_146) (by decide) (by decide) ?_
        show Steps p.tables e below (T149.setTop (mkF m 150 #[.val (.long q1), .second, .val (.long q2), .second, .val (.long q3), .second, .val (.long q4), .second, .val (.ref b101), .val (.ref b108), .val (.int (own_eb q1 q2)), .val (.int (own_eb q3 q4)), .val (.int (1 : Int32)), .val (.int (1 : Int32)), .val (.int (1 : Int32)), .val (.int (1 : Int32))] [(.int (1 : Int32))])) _
        exact retN X149 hx (t := .boolean) Bd.returns (by simp) (hb hby at_150) hr
      · show Q0 Z q1 q2 q3 q4 wr5 h0 n0 _ T149.heap _
        rw [P149_0]
        exact ⟨rfl, N149⟩
  · obtain ⟨cq150, kq150, q150a, q150b, q150c⟩ := isOf hZ P124_0 f117
    obtain ⟨_, _, ⟨T150, L150, k150, n150⟩, -, X150, ⟨Lc150, hQ150, l150, y150, z150⟩, st150⟩ := X124.virtualBack hx (y := (⟨"com/example/redoubt/redoubt/protocol/Freshness", "and", "(Lcom/example/redoubt/redoubt/protocol/Freshness;)Lcom/example/redoubt/redoubt/protocol/Freshness;"⟩ : MethodName)) (z := (⟨"com/example/redoubt/redoubt/protocol/Freshness", "and", "(Lcom/example/redoubt/redoubt/protocol/Freshness;)Lcom/example/redoubt/redoubt/protocol/Freshness;"⟩ : MethodName)) hown (mvT hZ (hw _ (List.mem_of_getElem? (i := 22) rfl))) (mvT hZ (hw _ (List.mem_of_getElem? (i := 23) rfl))) (notFace_of_selects (args := #[]) (mvT hZ (hw _ (List.mem_of_getElem? (i := 25) rfl)))) (mvT hZ (hw _ (List.mem_of_getElem? (i := 25) rfl))) (mvT hZ (hw _ (List.mem_of_getElem? (i := 24) rfl))) (by decide) (backOf (W := 0) (rm5 l Z a0 hw [] b101 b108 q1 q3 q2 q4 T115.heap n0 Zs115 f118 P115_1 f119 P115_2) hZ (hw _ (List.mem_of_getElem? (i := 26) rfl)) (hw _ (List.mem_of_getElem? (i := 2) rfl)) (by decide) (by decide)) q150a q150c (g := (mkF m 78 #[.val (.long q1), .second, .val (.long q2), .second, .val (.long q3), .second, .val (.long q4), .second, .val (.ref b101), .val (.ref b108), .val (.int (own_eb q1 q2)), .val (.int (own_eb q3 q4)), .val (.int (1 : Int32)), .val (.int (1 : Int32)), .unset, .unset] [(.ref b108), (.ref b101)])) rfl (by rw [hml]; rfl) (Steps.refl _) (argsL := [(.ref b108)]) (rest := []) (lenOf pd_4 rfl) rfl (by show 2 * 0 + _ ≤ _; exact Nat.le_of_eq rfl) (hb hby at_78) (fun _ _ => ⟨rfl, P124_0, (by decide : 2 + 1 ≤ _), (by decide : 4 + 2 ≤ _)⟩)
    dsimp only [Pt.U, Pt.locs, Pt.cells, Pt.slots] at X150 l150 y150 z150 st150 hQ150
    subst l150 y150 z150
    obtain ⟨b_150, rfl, N150q, P150_0, P150_1, P150_2, P150_3, P150_4⟩ := hQ150
    have N150 := Fr.app N124 N150q
    have ne_b101_b_150 : b101 ≠ b_150 := Nat.ne_of_lt (Nat.lt_of_lt_of_le f117.lt P150_1)
    have ne_b108_b_150 : b108 ≠ b_150 := Nat.ne_of_lt (Nat.lt_of_lt_of_le f120.lt P150_1)
    have gn_b_150 : n0 ≤ b_150 := Nat.le_trans Zs115 P150_1
    have f151 : Old Z n0 T150.heap := f116.keep P150_0 all0
    have f152 : Exa Z T150.heap b101 "com/example/redoubt/redoubt/protocol/Freshness" := f117.keep P150_0
    have f153 : Fld Z T150.heap b101 "com/example/redoubt/redoubt/protocol/Freshness" "position" "J" (.long q1) := f118.keep P150_0 nin0
    have f154 : Fld Z T150.heap b101 "com/example/redoubt/redoubt/protocol/Freshness" "maxStalenessMillis" "J" (.long q2) := f119.keep P150_0 nin0
    have f155 : Exa Z T150.heap b108 "com/example/redoubt/redoubt/protocol/Freshness" := f120.keep P150_0
    have f156 : Fld Z T150.heap b108 "com/example/redoubt/redoubt/protocol/Freshness" "position" "J" (.long q3) := P115_1.keep P150_0 nin0
    have f157 : Fld Z T150.heap b108 "com/example/redoubt/redoubt/protocol/Freshness" "maxStalenessMillis" "J" (.long q4) := P115_2.keep P150_0 nin0
    have Zs150 : n0 ≤ T150.heap.size := Nat.le_trans Zs115 P150_0.1
    obtain ⟨cq158, kq158, q158a, q158b, q158c⟩ := isOf hZ rfl P150_2
    obtain ⟨_, _, ⟨T158, L158, k158, n158⟩, -, X158, ⟨Lc158, hQ158, l158, y158, z158⟩, st158⟩ := X150.virtualBack hx (y := (⟨"com/example/redoubt/redoubt/protocol/Freshness", "bounded", "()Z"⟩ : MethodName)) (z := (⟨"com/example/redoubt/redoubt/protocol/Freshness", "bounded", "()Z"⟩ : MethodName)) hown (mvT hZ (hw _ (List.mem_of_getElem? (i := 17) rfl))) (mvT hZ (hw _ (List.mem_of_getElem? (i := 18) rfl))) (notFace_of_selects (args := #[]) (mvT hZ (hw _ (List.mem_of_getElem? (i := 20) rfl)))) (mvT hZ (hw _ (List.mem_of_getElem? (i := 20) rfl))) (mvT hZ (hw _ (List.mem_of_getElem? (i := 19) rfl))) (by decide) (backOf (W := 0) (rm4 l Z a0 hw [] b_150 (own_max q1 q3) (own_mil q2 q4) T150.heap n0 Zs150 P150_3 P150_4) hZ (hw _ (List.mem_of_getElem? (i := 21) rfl)) (hw _ (List.mem_of_getElem? (i := 2) rfl)) (by decide) (by decide)) q158a q158c (g := (mkF m 81 #[.val (.long q1), .second, .val (.long q2), .second, .val (.long q3), .second, .val (.long q4), .second, .val (.ref b101), .val (.ref b108), .val (.int (own_eb q1 q2)), .val (.int (own_eb q3 q4)), .val (.int (1 : Int32)), .val (.int (1 : Int32)), .unset, .unset] [(.ref b_150)])) rfl (by rw [hml]; rfl) (Steps.refl _) (argsL := []) (rest := []) (lenOf pd_3 rfl) rfl (by show 2 * 0 + _ ≤ _; exact Nat.le_of_eq rfl) (hb hby at_81) (fun _ _ => ⟨rfl, rfl, (by decide : 3 + 0 ≤ _), (by decide : 6 + 0 ≤ _)⟩)
    dsimp only [Pt.U, Pt.locs, Pt.cells, Pt.slots] at X158 l158 y158 z158 st158 hQ158
    subst l158 y158 z158
    obtain ⟨hv158, N158q, P158_0⟩ := hQ158
    obtain rfl := hv158.trans (congrArg (fun z => some (Value.int z)) (own_and1 (Or.inl hc126) : (own_bd (own_max q1 q3) (own_mil q2 q4)) = (1 : Int32)))
    have N158 := Fr.app N150 N158q
    obtain ⟨T159, X159, e159, st159⟩ := getS2 X158 hx hZ hown (host := "") (Or.inl (hw _ (List.mem_of_getElem? (i := 36) rfl))) Via.refl P158_0 (Sta.ext f151.2 pf1) (g := (mkF m 109 #[.val (.long q1), .second, .val (.long q2), .second, .val (.long q3), .second, .val (.long q4), .second, .val (.ref b101), .val (.ref b108), .val (.int (own_eb q1 q2)), .val (.int (own_eb q3 q4)), .val (.int (1 : Int32)), .val (.int (1 : Int32)), .val (.int (1 : Int32)), .unset] [])) rfl (hb hby at_109)
    obtain ⟨cq160, kq160, q160a, q160b, q160c⟩ := isOf hZ e159 (Exa.ext f151.2 pf0)
    obtain ⟨_, _, ⟨T160, L160, k160, n160⟩, -, X160, ⟨Lc160, hQ160, l160, y160, z160⟩, st160⟩ := X159.virtualBack hx (y := (⟨"com/example/redoubt/redoubt/protocol/Freshness", "bounded", "()Z"⟩ : MethodName)) (z := (⟨"com/example/redoubt/redoubt/protocol/Freshness", "bounded", "()Z"⟩ : MethodName)) hown (mvT hZ (hw _ (List.mem_of_getElem? (i := 17) rfl))) (mvT hZ (hw _ (List.mem_of_getElem? (i := 18) rfl))) (notFace_of_selects (args := #[]) (mvT hZ (hw _ (List.mem_of_getElem? (i := 20) rfl)))) (mvT hZ (hw _ (List.mem_of_getElem? (i := 20) rfl))) (mvT hZ (hw _ (List.mem_of_getElem? (i := 19) rfl))) (by decide) (backOf (W := 0) (rm4 l Z a0 hw [] wr5 (-1 : Int64) (-1 : Int64) T150.heap n0 Zs150 (Fld.ext f151.2 pf2) (Fld.ext f151.2 pf3)) hZ (hw _ (List.mem_of_getElem? (i := 21) rfl)) (hw _ (List.mem_of_getElem? (i := 2) rfl)) (by decide) (by decide)) q160a q160c (g := (mkF m 112 #[.val (.long q1), .second, .val (.long q2), .second, .val (.long q3), .second, .val (.long q4), .second, .val (.ref b101), .val (.ref b108), .val (.int (own_eb q1 q2)), .val (.int (own_eb q3 q4)), .val (.int (1 : Int32)), .val (.int (1 : Int32)), .val (.int (1 : Int32)), .unset] [(.ref wr5)])) rfl (by rw [hml]; rfl) (Steps.refl _) (argsL := []) (rest := []) (lenOf pd_3 rfl) rfl (by show 2 * 0 + _ ≤ _; exact Nat.le_of_eq rfl) (hb hby at_112) (fun _ _ => ⟨rfl, e159, (by decide : 3 + 0 ≤ _), (by decide : 6 + 0 ≤ _)⟩)
    dsimp only [Pt.U, Pt.locs, Pt.cells, Pt.slots] at X160 l160 y160 z160 st160 hQ160
    subst l160 y160 z160
    obtain ⟨hv160, N160q, P160_0⟩ := hQ160
    obtain rfl := hv160.trans (congrArg (fun z => some (Value.int z)) (by decide : (own_bd (-1 : Int64) (-1 : Int64)) = (0 : Int32)))
    have N160 := Fr.app N158 N160q
    obtain ⟨fs, hr, hrun, hended, hW, hsame⟩ := X160.leave (v := some (.int (1 : Int32))) (fun h => by rw [Bd.returns] at h; cases h) hlk
    refine ⟨_, _, pre0 _ ?_, hrun, hended, _, _, rfl, ?_, ⟨_, rfl⟩, hW, hsame.mono (by decide) (by decide)⟩
    · refine pr125 _ ?_
      show Steps p.tables e below (T124.setTop (mkF m 74 #[.val (.long q1), .second, .val (.long q2), .second, .val (.long q3), .second, .val (.long q4), .second, .val (.ref b101), .val (.ref b108), .val (.int (own_eb q1 q2)), .val (.int (own_eb q3 q4)), .val (.int (1 : Int32)), .val (.int (1 : Int32)), .unset, .unset] [])) _
      refine XS.aload X124.here hx rfl (hb hby at_74) rfl rfl ?_
      show Steps p.tables e below (T124.setTop (mkF m 76 #[.val (.long q1), .second, .val (.long q2), .second, .val (.long q3), .second, .val (.long q4), .second, .val (.ref b101), .val (.ref b108), .val (.int (own_eb q1 q2)), .val (.int (own_eb q3 q4)), .val (.int (1 : Int32)), .val (.int (1 : Int32)), .unset, .unset] [(.ref b101)])) _
      refine XS.aload X124.here hx rfl (hb hby at_76) rfl rfl ?_
      show Steps p.tables e below (T124.setTop (mkF m 78 #[.val (.long q1), .second, .val (.long q2), .second, .val (.long q3), .second, .val (.long q4), .second, .val (.ref b101), .val (.ref b108), .val (.int (own_eb q1 q2)), .val (.int (own_eb q3 q4)), .val (.int (1 : Int32)), .val (.int (1 : Int32)), .unset, .unset] [(.ref b108), (.ref b101)])) _
      refine st150.trans ?_
      show Steps p.tables e below (T150.setTop (mkF m 81 #[.val (.long q1), .second, .val (.long q2), .second, .val (.long q3), .second, .val (.long q4), .second, .val (.ref b101), .val (.ref b108), .val (.int (own_eb q1 q2)), .val (.int (own_eb q3 q4)), .val (.int (1 : Int32)), .val (.int (1 : Int32)), .unset, .unset] [(.ref b_150)])) _
      refine st158.trans ?_
      show Steps p.tables e below (T158.setTop (mkF m 84 #[.val (.long q1), .second, .val (.long q2), .second, .val (.long q3), .second, .val (.long q4), .second, .val (.ref b101), .val (.ref b108), .val (.int (own_eb q1 q2)), .val (.int (own_eb q3 q4)), .val (.int (1 : Int32)), .val (.int (1 : Int32)), .unset, .unset] [(.int (1 : Int32))])) _
      refine XS.iload X158.here hx rfl (hb hby at_84) rfl ?_
      show Steps p.tables e below (T158.setTop (mkF m 86 #[.val (.long q1), .second, .val (.long q2), .second, .val (.long q3), .second, .val (.long q4), .second, .val (.ref b101), .val (.ref b108), .val (.int (own_eb q1 q2)), .val (.int (own_eb q3 q4)), .val (.int (1 : Int32)), .val (.int (1 : Int32)), .unset, .unset] [(.int (own_eb q1 q2)), (.int (1 : Int32))])) _
      refine XS.ifYes X158.here hx rfl (pc0 := 86) (pc' := 94) rfl (hb hby at_86) rfl ((if0 _ _).trans (feq hc126).2) (by decide) (by decide) ?_
      show Steps p.tables e below (T158.setTop (mkF m 94 #[.val (.long q1), .second, .val (.long q2), .second, .val (.long q3), .second, .val (.long q4), .second, .val (.ref b101), .val (.ref b108), .val (.int (own_eb q1 q2)), .val (.int (own_eb q3 q4)), .val (.int (1 : Int32)), .val (.int (1 : Int32)), .unset, .unset] [(.int (1 : Int32))])) _
      refine XS.iconst X158.here hx rfl (hb hby at_94) ?_
      show Steps p.tables e below (T158.setTop (mkF m 95 #[.val (.long q1), .second, .val (.long q2), .second, .val (.long q3), .second, .val (.long q4), .second, .val (.ref b101), .val (.ref b108), .val (.int (own_eb q1 q2)), .val (.int (own_eb q3 q4)), .val (.int (1 : Int32)), .val (.int (1 : Int32)), .unset, .unset] [(.int (1 : Int32)), (.int (1 : Int32))])) _
      refine XS.goto X158.here hx rfl (pc0 := 95) (pc' := 99) rfl (hb hby at_95) (by decide) (by decide) ?_
      show Steps p.tables e below (T158.setTop (mkF m 99 #[.val (.long q1), .second, .val (.long q2), .second, .val (.long q3), .second, .val (.long q4), .second, .val (.ref b101), .val (.ref b108), .val (.int (own_eb q1 q2)), .val (.int (own_eb q3 q4)), .val (.int (1 : Int32)), .val (.int (1 : Int32)), .unset, .unset] [(.int (1 : Int32)), (.int (1 : Int32))])) _
      refine XS.icmpNo X158.here hx rfl (hb hby at_99) rfl (teq (by decide : (1 : Int32) = (1 : Int32))).2 ?_
      show Steps p.tables e below (T158.setTop (mkF m 102 #[.val (.long q1), .second, .val (.long q2), .second, .val (.long q3), .second, .val (.long q4), .second, .val (.ref b101), .val (.ref b108), .val (.int (own_eb q1 q2)), .val (.int (own_eb q3 q4)), .val (.int (1 : Int32)), .val (.int (1 : Int32)), .unset, .unset] [])) _
      refine XS.iconst X158.here hx rfl (hb hby at_102) ?_
      show Steps p.tables e below (T158.setTop (mkF m 103 #[.val (.long q1), .second, .val (.long q2), .second, .val (.long q3), .second, .val (.long q4), .second, .val (.ref b101), .val (.ref b108), .val (.int (own_eb q1 q2)), .val (.int (own_eb q3 q4)), .val (.int (1 : Int32)), .val (.int (1 : Int32)), .unset, .unset] [(.int (1 : Int32))])) _
      refine XS.goto X158.here hx rfl (pc0 := 103) (pc' := 107) rfl (hb hby at_103) (by decide) (by decide) ?_
      show Steps p.tables e below (T158.setTop (mkF m 107 #[.val (.long q1), .second, .val (.long q2), .second, .val (.long q3), .second, .val (.long q4), .second, .val (.ref b101), .val (.ref b108), .val (.int (own_eb q1 q2)), .val (.int (own_eb q3 q4)), .val (.int (1 : Int32)), .val (.int (1 : Int32)), .unset, .unset] [(.int (1 : Int32))])) _
      refine XS.istore X158.here hx rfl (hb hby at_107) rfl (l' := #[.val (.long q1), .second, .val (.long q2), .second, .val (.long q3), .second, .val (.long q4), .second, .val (.ref b101), .val (.ref b108), .val (.int (own_eb q1 q2)), .val (.int (own_eb q3 q4)), .val (.int (1 : Int32)), .val (.int (1 : Int32)), .val (.int (1 : Int32)), .unset]) rfl ?_
      show Steps p.tables e below (T158.setTop (mkF m 109 #[.val (.long q1), .second, .val (.long q2), .second, .val (.long q3), .second, .val (.long q4), .second, .val (.ref b101), .val (.ref b108), .val (.int (own_eb q1 q2)), .val (.int (own_eb q3 q4)), .val (.int (1 : Int32)), .val (.int (1 : Int32)), .val (.int (1 : Int32)), .unset] [])) _
      refine st159 _ ?_
      show Steps p.tables e below (T159.setTop (mkF m 112 #[.val (.long q1), .second, .val (.long q2), .second, .val (.long q3), .second, .val (.long q4), .second, .val (.ref b101), .val (.ref b108), .val (.int (own_eb q1 q2)), .val (.int (own_eb q3 q4)), .val (.int (1 : Int32)), .val (.int (1 : Int32)), .val (.int (1 : Int32)), .unset] [(.ref wr5)])) _
      refine st160.trans ?_
      show Steps p.tables e below (T160.setTop (mkF m 115 #[.val (.long q1), .second, .val (.long q2), .second, .val (.long q3), .second, .val (.long q4), .second, .val (.ref b101), .val (.ref b108), .val (.int (own_eb q1 q2)), .val (.int (own_eb q3 q4)), .val (.int (1 : Int32)), .val (.int (1 : Int32)), .val (.int (1 : Int32)), .unset] [(.int (0 : Int32))])) _
      refine XS.ifNo X160.here hx rfl (hb hby at_115) rfl ((if0 _ _).trans (teq (by decide : (0 : Int32) = (0 : Int32))).2) ?_
      show Steps p.tables e below (T160.setTop (mkF m 118 #[.val (.long q1), .second, .val (.long q2), .second, .val (.long q3), .second, .val (.long q4), .second, .val (.ref b101), .val (.ref b108), .val (.int (own_eb q1 q2)), .val (.int (own_eb q3 q4)), .val (.int (1 : Int32)), .val (.int (1 : Int32)), .val (.int (1 : Int32)), .unset] [])) _
      refine XS.iconst X160.here hx rfl (hb hby at_118) ?_
      show Steps p.tables e below (T160.setTop (mkF m 119 #[.val (.long q1), .second, .val (.long q2), .second, .val (.long q3), .second, .val (.long q4), .second, .val (.ref b101), .val (.ref b108), .val (.int (own_eb q1 q2)), .val (.int (own_eb q3 q4)), .val (.int (1 : Int32)), .val (.int (1 : Int32)), .val (.int (1 : Int32)), .unset] [(.int (1 : Int32))])) _
      refine XS.goto X160.here hx rfl (pc0 := 119) (pc' := 123) rfl (hb hby at_119) (by decide) (by decide) ?_
      show Steps p.tables e below (T160.setTop (mkF m 123 #[.val (.long q1), .second, .val (.long q2), .second, .val (.long q3), .second, .val (.long q4), .second, .val (.ref b101), .val (.ref b108), .val (.int (own_eb q1 q2)), .val (.int (own_eb q3 q4)), .val (.int (1 : Int32)), .val (.int (1 : Int32)), .val (.int (1 : Int32)), .unset] [(.int (1 : Int32))])) _
      refine XS.istore X160.here hx rfl (hb hby at_123) rfl (l' := #[.val (.long q1), .second, .val (.long q2), .second, .val (.long q3), .second, .val (.long q4), .second, .val (.ref b101), .val (.ref b108), .val (.int (own_eb q1 q2)), .val (.int (own_eb q3 q4)), .val (.int (1 : Int32)), .val (.int (1 : Int32)), .val (.int (1 : Int32)), .val (.int (1 : Int32))]) rfl ?_
      show Steps p.tables e below (T160.setTop (mkF m 125 #[.val (.long q1), .second, .val (.long q2), .second, .val (.long q3), .second, .val (.long q4), .second, .val (.ref b101), .val (.ref b108), .val (.int (own_eb q1 q2)), .val (.int (own_eb q3 q4)), .val (.int (1 : Int32)), .val (.int (1 : Int32)), .val (.int (1 : Int32)), .val (.int (1 : Int32))] [])) _
      refine XS.iload X160.here hx rfl (hb hby at_125) rfl ?_
      show Steps p.tables e below (T160.setTop (mkF m 127 #[.val (.long q1), .second, .val (.long q2), .second, .val (.long q3), .second, .val (.long q4), .second, .val (.ref b101), .val (.ref b108), .val (.int (own_eb q1 q2)), .val (.int (own_eb q3 q4)), .val (.int (1 : Int32)), .val (.int (1 : Int32)), .val (.int (1 : Int32)), .val (.int (1 : Int32))] [(.int (1 : Int32))])) _
      refine XS.ifNo X160.here hx rfl (hb hby at_127) rfl ((if0 _ _).trans (feq (by decide : ¬ ((1 : Int32) = (0 : Int32)))).1) ?_
      show Steps p.tables e below (T160.setTop (mkF m 130 #[.val (.long q1), .second, .val (.long q2), .second, .val (.long q3), .second, .val (.long q4), .second, .val (.ref b101), .val (.ref b108), .val (.int (own_eb q1 q2)), .val (.int (own_eb q3 q4)), .val (.int (1 : Int32)), .val (.int (1 : Int32)), .val (.int (1 : Int32)), .val (.int (1 : Int32))] [])) _
      refine XS.iload X160.here hx rfl (hb hby at_130) rfl ?_
      show Steps p.tables e below (T160.setTop (mkF m 132 #[.val (.long q1), .second, .val (.long q2), .second, .val (.long q3), .second, .val (.long q4), .second, .val (.ref b101), .val (.ref b108), .val (.int (own_eb q1 q2)), .val (.int (own_eb q3 q4)), .val (.int (1 : Int32)), .val (.int (1 : Int32)), .val (.int (1 : Int32)), .val (.int (1 : Int32))] [(.int (1 : Int32))])) _
      refine XS.ifNo X160.here hx rfl (hb hby at_132) rfl ((if0 _ _).trans (feq (by decide : ¬ ((1 : Int32) = (0 : Int32)))).1) ?_
      show Steps p.tables e below (T160.setTop (mkF m 135 #[.val (.long q1), .second, .val (.long q2), .second, .val (.long q3), .second, .val (.long q4), .second, .val (.ref b101), .val (.ref b108), .val (.int (own_eb q1 q2)), .val (.int (own_eb q3 q4)), .val (.int (1 : Int32)), .val (.int (1 : Int32)), .val (.int (1 : Int32)), .val (.int (1 : Int32))] [])) _
      refine XS.iload X160.here hx rfl (hb hby at_135) rfl ?_
      show Steps p.tables e below (T160.setTop (mkF m 137 #[.val (.long q1), .second, .val (.long q2), .second, .val (.long q3), .second, .val (.long q4), .second, .val (.ref b101), .val (.ref b108), .val (.int (own_eb q1 q2)), .val (.int (own_eb q3 q4)), .val (.int (1 : Int32)), .val (.int (1 : Int32)), .val (.int (1 : Int32)), .val (.int (1 : Int32))] [(.int (1 : Int32))])) _
      refine XS.ifNo X160.here hx rfl (hb hby at_137) rfl ((if0 _ _).trans (feq (by decide : ¬ ((1 : Int32) = (0 : Int32)))).1) ?_
      show Steps p.tables e below (T160.setTop (mkF m 140 #[.val (.long q1), .second, .val (.long q2), .second, .val (.long q3), .second, .val (.long q4), .second, .val (.ref b101), .val (.ref b108), .val (.int (own_eb q1 q2)), .val (.int (own_eb q3 q4)), .val (.int (1 : Int32)), .val (.int (1 : Int32)), .val (.int (1 : Int32)), .val (.int (1 : Int32))] [])) _
      refine XS.iload X160.here hx rfl (hb hby at_140) rfl ?_
      show Steps p.tables e below (T160.setTop (mkF m 142 #[.val (.long q1), .second, .val (.long q2), .second, .val (.long q3), .second, .val (.long q4), .second, .val (.ref b101), .val (.ref b108), .val (.int (own_eb q1 q2)), .val (.int (own_eb q3 q4)), .val (.int (1 : Int32)), .val (.int (1 : Int32)), .val (.int (1 : Int32)), .val (.int (1 : Int32))] [(.int (1 : Int32))])) _
      refine XS.ifNo X160.here hx rfl (hb hby at_142) rfl ((if0 _ _).trans (feq (by decide : ¬ ((1 : Int32) = (0 : Int32)))).1) ?_
      show Steps p.tables e below (T160.setTop (mkF m 145 #[.val (.long q1), .second, .val (.long q2), .second, .val (.long q3), .second, .val (.long q4), .second, .val (.ref b101), .val (.ref b108), .val (.int (own_eb q1 q2)), .val (.int (own_eb q3 q4)), .val (.int (1 : Int32)), .val (.int (1 : Int32)), .val (.int (1 : Int32)), .val (.int (1 : Int32))] [])) _
      refine XS.iconst X160.here hx rfl (hb hby at_145) ?_
      show Steps p.tables e below (T160.setTop (mkF m 146 #[.val (.long q1), .second, .val (.long q2), .second, .val (.long q3), .second, .val (.long q4), .second, .val (.ref b101), .val (.ref b108), .val (.int (own_eb q1 q2)), .val (.int (own_eb q3 q4)), .val (.int (1 : Int32)), .val (.int (1 : Int32)), .val (.int (1 : Int32)), .val (.int (1 : Int32))] [(.int (1 : Int32))])) _
      refine XS.goto X160.here hx rfl (pc0 := 146) (pc' := 150) rfl (hb hby at_146) (by decide) (by decide) ?_
      show Steps p.tables e below (T160.setTop (mkF m 150 #[.val (.long q1), .second, .val (.long q2), .second, .val (.long q3), .second, .val (.long q4), .second, .val (.ref b101), .val (.ref b108), .val (.int (own_eb q1 q2)), .val (.int (own_eb q3 q4)), .val (.int (1 : Int32)), .val (.int (1 : Int32)), .val (.int (1 : Int32)), .val (.int (1 : Int32))] [(.int (1 : Int32))])) _
      exact retN X160 hx (t := .boolean) Bd.returns (by simp) (hb hby at_150) hr
    · show Q0 Z q1 q2 q3 q4 wr5 h0 n0 _ T160.heap _
      rw [P160_0]
      exact ⟨rfl, N160⟩
set_option maxRecDepth 65536 in
set_option maxHeartbeats 40000000 in
theorem comes_1 {Post : Tables → Env → Array Value → State → Outcome → State → Prop} (hpost : ∀ tb e args s v u, (limb_1_1.after args s (.returned v) u = true ∧ limb_1_2.after args s (.returned v) u = true ∧ True) → FrameEnd s (.returned v) u (Jvm.fieldLocs frame_1_writes args s ++ Jvm.arrayLocs frame_1_arrays args s ++ Jvm.staticLocs frame_1_statics s) 16 128 → Post tb e args s (.returned v) u) :
    ArmFor flags0 classFile x code maxLocals ret World_1 tables_1 room_1 Calls_1 rest_1 Pre_1 Post := by
  intro l hfl _ _ p e ha hc hk s m args below hf hA hF happ hP
  obtain ⟨hcalls, hrest, hpre⟩ := hP
  obtain ⟨-, -, -, hnamed, -, -, -, hat⟩ := (Spec.applies_iff hf).mp happ
  obtain ⟨hg, hn⟩ := and_e (Cond.before_iff.mp (show (Jvm.Cond.and given_1 narrow_1).before args s = true from hpre))
  obtain ⟨gg1, gg2⟩ := and_e hg
  obtain ⟨gg3, gg4⟩ := and_e gg2
  obtain ⟨gg5, gg6⟩ := and_e gg4
  obtain ⟨gg7, gg8⟩ := and_e gg6
  obtain ⟨w0, w1, w2, w3, rfl⟩ : ∃ w0 w1 w2 w3 : Value, args = #[w0, w1, w2, w3] := by
    have hs : args.size = 4 := by simpa [Cond.value, given_1] using gg1
    obtain ⟨L⟩ := args
    match L, hs with
    | [w0, w1, w2, w3], _ => exact ⟨w0, w1, w2, w3, rfl⟩
  have hw := fun d (hd : d ∈ tables_1) => atoms_spec (ws := Jvm.Cond.code x code maxLocals ret :: tables_1) hat d (List.mem_cons_of_mem _ hd)
  have hfit : Fit s := fun {y c} hc i hi => by
    obtain ⟨ha, rfl⟩ := Array.getElem?_eq_some_iff.mp hc
    have q := List.all_eq_true.mp ((Array.all_eq_true_iff_forall_mem.mp hF) _ (Array.getElem_mem ha)) i (List.mem_range.mpr hi)
    simpa [Array.getElem?_eq_getElem hi] using q
  obtain ⟨i0, ei0⟩ := isL_v gg3
  obtain rfl : w0 = (.long i0) := Option.some.inj ei0
  obtain ⟨i1, ei1⟩ := isL_v gg5
  obtain rfl : w1 = (.long i1) := Option.some.inj ei1
  obtain ⟨i2, ei2⟩ := isL_v gg7
  obtain rfl : w2 = (.long i2) := Option.some.inj ei2
  obtain ⟨i3, ei3⟩ := isL_v gg8
  obtain rfl : w3 = (.long i3) := Option.some.inj ei3
  obtain ⟨nn1, nn2⟩ := and_e hn
  obtain ⟨nn3, nn4⟩ := and_e nn2
  obtain ⟨wr5, ev6⟩ := exa_v nn1
  have EE7 : Exa s s.heap wr5 "com/example/redoubt/redoubt/protocol/Freshness" := Exa.start ev6 nn1
  have SS8 : Sta s s.heap "com/example/redoubt/redoubt/protocol/Freshness" "ANY" "Lcom/example/redoubt/redoubt/protocol/Freshness;" (.ref wr5) := Sta.start ev6 (Or.inr ⟨(hw _ (List.mem_of_getElem? (i := 2) rfl)), (hw _ (List.mem_of_getElem? (i := 37) rfl))⟩)
  have ev9 := own_eqL nn3
  have FF10 : Fld s s.heap wr5 "com/example/redoubt/redoubt/protocol/Freshness" "position" "J" (.long (-1 : Int64)) := Fld.start ((fld_at ev6).symm.trans ev9)
  have ev11 := own_eqL nn4
  have FF12 : Fld s s.heap wr5 "com/example/redoubt/redoubt/protocol/Freshness" "maxStalenessMillis" "J" (.long (-1 : Int64)) := Fld.start ((fld_at ev6).symm.trans ev11)
  obtain ⟨n, o, h1, h2, h3, _, L, rfl, ⟨rfl, N⟩, hq⟩ := rm0 l s _ hw tables_1 i0 i1 i2 i3 wr5 s.heap s.heap.size (Nat.le_refl _) (Old.start s) EE7 SS8 FF10 FF12 p e ha hc hk s m _ below hf ((Spec.applies_iff_loose hf).mp happ).1 ⟨rfl, State.Warmed39.refl s, rfl⟩ trivial
  refine ⟨n, _, h1, h2, h3, hpost _ _ _ _ _ _ ⟨Cond.after_iff.mpr rfl, Cond.after_iff.mpr (eq_i res_at (Term.int_eval (1)) rfl), trivial⟩ ⟨hq.1, hq.2.1, (hq.2.2.sift fun y hy => Or.inr (N y hy)).mono (by decide) (by decide)⟩⟩
theorem main_1_1 : Claimed_1_1 := comes_1 fun _ _ _ _ _ _ h hF => ⟨h.1, hF⟩
theorem main_1_2 : Claimed_1_2 := comes_1 fun _ _ _ _ _ _ h hF => ⟨h.2.1, hF⟩
end Jvm.Pilot.@@N@@
namespace Jvm.Pilot.@@N@@
open Jvm Jvm.ClassFile Sem Op Lib Jvm.Free Jvm.Stand Jvm.Pilot.@@N@@.Jvm.D
/-! MADE BY PROGRAM (witnessworld.py) out of the Statement's table words and the real class files: 10 classes; the members and pool entries that the words name. The judged class is class 1, her method 2. -/
namespace start1
open Jvm.ClassFile
def u (s : String) : CpInfo := .utf8 (stringToUtf16 s)
/-- a pool by its gaps: so many unusable entries, then the entry; so many at the end -/
def gap : Nat → List CpInfo → List CpInfo
  | 0, r => r
  | n + 1, r => .unusable :: gap n r
def poolList (es : List (Nat × CpInfo)) (last : Nat) : List CpInfo := es.foldr (fun e r => gap e.1 (e.2 :: r)) (gap last [])
def pool (es : List (Nat × CpInfo)) (last : Nat) : Array CpInfo := ⟨poolList es last⟩
def fileOf (pool : Array CpInfo) (this : Nat) (attrs : Array Attribute := #[]) (ms : Array MethodInfo := #[]) (fl : Nat := 33) (sup : Nat := 0) (ifs : Array Nat := #[]) (fds : Array FieldInfo := #[]) : ClassFile where
  minorVersion := 0
  majorVersion := 65
  constantPool := pool
  accessFlags := fl
  thisClass := this
  superClass := sup
  interfaces := ifs
  fields := fds
  methods := ms
  attributes := attrs
def plain (name : String) (sup : Option ClassId) : Class where
  name := name
  kind := .ordinary
  loader := none
  accessFlags := 33
  super := sup
  interfaces := #[]
  cf := none
  fields := #[]
  methods := #[]
  instanceTypes := #[]
  staticTypes := #[]
  resolved := #[]
  callSites := []
  init := .initialized
  statics := none
  mirror := none

def pool0 : Array CpInfo := pool [(5, u "<init>"), (0, u "()V"), (1, .class_ 10), (1, u "java/lang/Object")] 113

def k0c0 : Code := { maxStack := 0, maxLocals := 1, code := object_method_1_code, exceptionTable := #[], attributes := #[] }
def k0m0 : Method := { name := "<init>", desc := "()V", sig := { parameters := [], returnType := none }, accessFlags := 1, code := some k0c0 }
/-- java/lang/Object -/
def k0 : Class := { plain "java/lang/Object" none with
  accessFlags := 33
  interfaces := #[]
  cf := some (fileOf pool0 8 #[] #[{ accessFlags := 1, nameIndex := 5, descriptorIndex := 6, attributes := #[] }] 33 0 #[] #[])
  fields := #[]
  methods := #[k0m0]
  instanceTypes := #[]
  staticTypes := #[]
  resolved := Array.replicate 124 none
  statics := none }

def pool1 : Array CpInfo := pool [(2, .class_ 4), (1, u "java/lang/Object"), (0, u "<init>"), (0, u "()V"), (0, .class_ 8), (0, u "com/example/redoubt/redoubt/protocol/Freshness"), (0, .methodref 7 10), (0, .nameAndType 5 11), (0, u "(JJ)V"), (0, .methodref 13 14), (0, .class_ 15), (0, .nameAndType 16 17), (0, u "com/example/redoubt/redoubt/protocol/FreshnessBoundedPinLaw"), (0, u "expectBounded"), (0, u "(JJ)Z"), (0, .methodref 7 19), (0, .nameAndType 20 21), (0, u "bounded"), (0, u "()Z"), (0, .methodref 7 23), (0, .nameAndType 24 25), (0, u "and"), (0, u "(Lcom/example/redoubt/redoubt/protocol/Freshness;)Lcom/example/redoubt/redoubt/protocol/Freshness;"), (0, .fieldref 7 27), (0, .nameAndType 28 29), (0, u "ANY"), (0, u "Lcom/example/redoubt/redoubt/protocol/Freshness;"), (3, u "law"), (0, u "(JJJJ)Z")] 2

def k1m0 : Method := { name := "<init>", desc := "()V", sig := { parameters := [], returnType := none }, accessFlags := 2, code := none }
def k1c1 : Code := { maxStack := 4, maxLocals := 4, code := method_2_code, exceptionTable := #[], attributes := #[] }
def k1m1 : Method := { name := "expectBounded", desc := "(JJ)Z", sig := { parameters := [.long, .long], returnType := some .boolean }, accessFlags := 10, code := some k1c1 }
def k1c2 : Code := { maxStack := 6, maxLocals := 16, code := code, exceptionTable := #[], attributes := #[] }
def k1m2 : Method := { name := "law", desc := "(JJJJ)Z", sig := { parameters := [.long, .long, .long, .long], returnType := some .boolean }, accessFlags := 9, code := some k1c2 }
/-- com/example/redoubt/redoubt/protocol/FreshnessBoundedPinLaw -/
def k1 : Class := { plain "com/example/redoubt/redoubt/protocol/FreshnessBoundedPinLaw" (some 0) with
  accessFlags := 49
  interfaces := #[]
  cf := some (fileOf pool1 13 #[] #[{ accessFlags := 2, nameIndex := 5, descriptorIndex := 6, attributes := #[] }, { accessFlags := 10, nameIndex := 16, descriptorIndex := 17, attributes := #[] }, { accessFlags := 9, nameIndex := 33, descriptorIndex := 34, attributes := #[] }] 49 2 #[] #[])
  fields := #[]
  methods := #[k1m0, k1m1, k1m2]
  instanceTypes := #[]
  staticTypes := #[]
  resolved := Array.replicate 37 none
  statics := none }

def pool2 : Array CpInfo := pool [(1, .methodref 2 3), (0, .class_ 4), (0, .nameAndType 5 6), (0, u "java/lang/Object"), (0, u "<init>"), (0, u "()V"), (0, .fieldref 8 9), (0, .class_ 10), (0, .nameAndType 11 12), (0, u "com/example/redoubt/redoubt/protocol/Freshness"), (0, u "position"), (0, u "J"), (0, .fieldref 8 14), (0, .nameAndType 15 12), (0, u "maxStalenessMillis"), (11, .methodref 8 28), (0, .nameAndType 5 29), (0, u "(JJ)V"), (1, .methodref 32 33), (0, .class_ 34), (0, .nameAndType 35 36), (0, u "java/lang/Math"), (0, u "max"), (0, u "(JJ)J"), (0, .methodref 32 38), (0, .nameAndType 39 36), (0, u "min"), (2, u "bounded"), (0, u "()Z"), (9, u "ANY"), (0, u "Lcom/example/redoubt/redoubt/protocol/Freshness;"), (5, u "and"), (0, u "(Lcom/example/redoubt/redoubt/protocol/Freshness;)Lcom/example/redoubt/redoubt/protocol/Freshness;")] 31

def k2c0 : Code := { maxStack := 3, maxLocals := 5, code := prog_42_method_1_code, exceptionTable := #[], attributes := #[] }
def k2m0 : Method := { name := "<init>", desc := "(JJ)V", sig := { parameters := [.long, .long], returnType := none }, accessFlags := 0, code := some k2c0 }
def k2c1 : Code := { maxStack := 6, maxLocals := 4, code := prog_42_method_4_code, exceptionTable := #[], attributes := #[] }
def k2m1 : Method := { name := "and", desc := "(Lcom/example/redoubt/redoubt/protocol/Freshness;)Lcom/example/redoubt/redoubt/protocol/Freshness;", sig := { parameters := [(.object "com/example/redoubt/redoubt/protocol/Freshness")], returnType := some (.object "com/example/redoubt/redoubt/protocol/Freshness") }, accessFlags := 1, code := some k2c1 }
def k2c2 : Code := { maxStack := 4, maxLocals := 1, code := prog_42_method_7_code, exceptionTable := #[], attributes := #[] }
def k2m2 : Method := { name := "bounded", desc := "()Z", sig := { parameters := [], returnType := some .boolean }, accessFlags := 1, code := some k2c2 }
/-- com/example/redoubt/redoubt/protocol/Freshness -/
def k2 : Class := { plain "com/example/redoubt/redoubt/protocol/Freshness" (some 0) with
  accessFlags := 49
  interfaces := #[]
  cf := some (fileOf pool2 8 #[] #[{ accessFlags := 0, nameIndex := 5, descriptorIndex := 29, attributes := #[] }, { accessFlags := 1, nameIndex := 60, descriptorIndex := 61, attributes := #[] }, { accessFlags := 1, nameIndex := 42, descriptorIndex := 43, attributes := #[] }] 49 2 #[] #[{ accessFlags := 25, nameIndex := 53, descriptorIndex := 54, attributes := #[] }, { accessFlags := 18, nameIndex := 11, descriptorIndex := 12, attributes := #[] }, { accessFlags := 18, nameIndex := 15, descriptorIndex := 12, attributes := #[] }])
  fields := #[{ name := "ANY", type := (.object "com/example/redoubt/redoubt/protocol/Freshness"), accessFlags := 25, slot := 0, constantValue := 0 }, { name := "position", type := .long, accessFlags := 18, slot := 0, constantValue := 0 }, { name := "maxStalenessMillis", type := .long, accessFlags := 18, slot := 1, constantValue := 0 }]
  methods := #[k2m0, k2m1, k2m2]
  instanceTypes := #[.long, .long]
  staticTypes := #[(.object "com/example/redoubt/redoubt/protocol/Freshness")]
  resolved := Array.replicate 93 none
  statics := some 0 }

def pool3 : Array CpInfo := pool [(1, .class_ 2), (0, u "java/lang/Math"), (1, .class_ 6), (1, u "java/lang/Object"), (0, u "<init>"), (0, u "()V"), (89, .class_ 100), (1, u "java/lang/Math$RandomNumberGeneratorHolder"), (20, u "(JJ)J"), (50, u "negativeZeroFloatBits"), (0, u "J"), (2, u "negativeZeroDoubleBits"), (21, u "max"), (2, u "min"), (43, u "$assertionsDisabled"), (0, u "Z"), (91, u "twoToTheDoubleScaleDown"), (0, u "D"), (4, u "twoToTheDoubleScaleUp"), (9, u "E"), (3, u "PI"), (2, u "TAU"), (2, u "DEGREES_TO_RADIANS"), (0, u "RADIANS_TO_DEGREES")] 94

def k3m0 : Method := { name := "<init>", desc := "()V", sig := { parameters := [], returnType := none }, accessFlags := 2, code := none }
def k3c1 : Code := { maxStack := 4, maxLocals := 4, code := jdk_29_method_66_code, exceptionTable := #[], attributes := #[] }
def k3m1 : Method := { name := "max", desc := "(JJ)J", sig := { parameters := [.long, .long], returnType := some .long }, accessFlags := 9, code := some k3c1 }
def k3c2 : Code := { maxStack := 4, maxLocals := 4, code := jdk_29_method_70_code, exceptionTable := #[], attributes := #[] }
def k3m2 : Method := { name := "min", desc := "(JJ)J", sig := { parameters := [.long, .long], returnType := some .long }, accessFlags := 9, code := some k3c2 }
/-- java/lang/Math -/
def k3 : Class := { plain "java/lang/Math" (some 0) with
  accessFlags := 49
  interfaces := #[]
  cf := some (fileOf pool3 1 #[.nestMembers #[98]] #[{ accessFlags := 2, nameIndex := 7, descriptorIndex := 8, attributes := #[] }, { accessFlags := 9, nameIndex := 198, descriptorIndex := 121, attributes := #[] }, { accessFlags := 9, nameIndex := 201, descriptorIndex := 121, attributes := #[] }] 49 4 #[] #[{ accessFlags := 25, nameIndex := 354, descriptorIndex := 339, attributes := #[] }, { accessFlags := 25, nameIndex := 358, descriptorIndex := 339, attributes := #[] }, { accessFlags := 25, nameIndex := 361, descriptorIndex := 339, attributes := #[] }, { accessFlags := 26, nameIndex := 364, descriptorIndex := 339, attributes := #[] }, { accessFlags := 26, nameIndex := 365, descriptorIndex := 339, attributes := #[] }, { accessFlags := 26, nameIndex := 172, descriptorIndex := 173, attributes := #[] }, { accessFlags := 26, nameIndex := 176, descriptorIndex := 173, attributes := #[] }, { accessFlags := 8, nameIndex := 344, descriptorIndex := 339, attributes := #[] }, { accessFlags := 8, nameIndex := 338, descriptorIndex := 339, attributes := #[] }, { accessFlags := 4120, nameIndex := 245, descriptorIndex := 246, attributes := #[] }])
  fields := #[{ name := "E", type := .double, accessFlags := 25, slot := 0, constantValue := 0 }, { name := "PI", type := .double, accessFlags := 25, slot := 1, constantValue := 0 }, { name := "TAU", type := .double, accessFlags := 25, slot := 2, constantValue := 0 }, { name := "DEGREES_TO_RADIANS", type := .double, accessFlags := 26, slot := 3, constantValue := 0 }, { name := "RADIANS_TO_DEGREES", type := .double, accessFlags := 26, slot := 4, constantValue := 0 }, { name := "negativeZeroFloatBits", type := .long, accessFlags := 26, slot := 5, constantValue := 0 }, { name := "negativeZeroDoubleBits", type := .long, accessFlags := 26, slot := 6, constantValue := 0 }, { name := "twoToTheDoubleScaleUp", type := .double, accessFlags := 8, slot := 7, constantValue := 0 }, { name := "twoToTheDoubleScaleDown", type := .double, accessFlags := 8, slot := 8, constantValue := 0 }, { name := "$assertionsDisabled", type := .boolean, accessFlags := 4120, slot := 9, constantValue := 0 }]
  methods := #[k3m0, k3m1, k3m2]
  instanceTypes := #[]
  staticTypes := #[.double, .double, .double, .double, .double, .long, .long, .double, .double, .boolean]
  resolved := Array.replicate 460 none
  statics := none }

def pool4 : Array CpInfo := pool [(1, u "java/lang/Cloneable"), (0, .class_ 1), (0, u "java/lang/Object"), (0, .class_ 3)] 3

/-- java/lang/Cloneable -/
def k4 : Class := { plain "java/lang/Cloneable" (some 0) with
  accessFlags := 1537
  interfaces := #[]
  cf := some (fileOf pool4 2 #[] #[] 1537 4 #[] #[])
  fields := #[]
  methods := #[]
  instanceTypes := #[]
  staticTypes := #[]
  resolved := Array.replicate 8 none
  statics := none }

def pool5 : Array CpInfo := pool [(1, u "java/io/Serializable"), (0, .class_ 1), (0, u "java/lang/Object"), (0, .class_ 3)] 3

/-- java/io/Serializable -/
def k5 : Class := { plain "java/io/Serializable" (some 0) with
  accessFlags := 1537
  interfaces := #[]
  cf := some (fileOf pool5 2 #[] #[] 1537 4 #[] #[])
  fields := #[]
  methods := #[]
  instanceTypes := #[]
  staticTypes := #[]
  resolved := Array.replicate 8 none
  statics := none }

/-- the primitive byte -/
def k6 : Class := { plain "byte" none with kind := .primitive 'B', accessFlags := 0x411 }
/-- [B -/
def k7 : Class := { plain "[B" (some 0) with kind := .array 6 .byte, interfaces := #[4, 5], accessFlags := 1041 }

/-- the primitive int -/
def k8 : Class := { plain "int" none with kind := .primitive 'I', accessFlags := 0x411 }
/-- [I -/
def k9 : Class := { plain "[I" (some 0) with kind := .array 8 .int, interfaces := #[4, 5], accessFlags := 1041 }

def heap : Heap := #[{ cls := 2, slots := #[.ref 1], vm := .statics 2 },
  { cls := 2, slots := #[.long (-1), .long (-1)], vm := .none }]
def classes : Array Class := #[k0, k1, k2, k3, k4, k5, k6, k7, k8, k9]
def interned : List (Array UInt16 × Addr) := []
def slotsUsed : Nat := 3
def theMethod : MethodId := ⟨1, 2⟩
def args0 : Array Value := #[.long 5, .long 7, .long 3, .long 1]
def aboutOver (below : List Frame) : State where
  vm := { classes := classes, interned := interned.toArray }
  heap := heap
  slotsUsed := slotsUsed
  threads := #[{ frames := .invoking theMethod args0 :: below }]
def below0 : List Frame := [.native { method := ⟨0, 0⟩, args := #[] }]
def about1 : State := aboutOver below0
def p0 : Program := .bare "" "" ""
def e0 : Env := launch0.env 0 0 0
theorem w_frames : about1.frames = Frame.invoking theMethod args0 :: below0 := rfl
set_option maxRecDepth 65536 in
theorem w_args : argsFit about1.vm theMethod args0 = true := by decide +kernel
set_option maxRecDepth 65536 in
theorem w_heap : heapFits about1 = true := by decide +kernel
set_option maxRecDepth 65536 in
theorem w_runnable : about1.curStatus? = some .runnable := by decide +kernel
set_option maxRecDepth 65536 in
theorem w_alone : about1.alone = true := by decide +kernel
set_option maxRecDepth 65536 in
theorem w_named : about1.methodNamed? x = some theMethod := by decide +kernel
set_option maxRecDepth 65536 in
theorem w_hears : about1.hears theMethod below0 = true := by decide +kernel
set_option maxRecDepth 65536 in
theorem w_ripe : about1.ripe theMethod args0 below0 = true := by decide +kernel
theorem w_running : about1.status = .running := rfl
set_option maxRecDepth 65536 in
theorem w_room : about1.hasRoom e0.platform room_1 = true :=
  launch0.hasRoom_least _ room_1 (by decide +kernel) (by decide +kernel) (by decide +kernel) (by decide +kernel) (by decide +kernel) (by decide +kernel)
theorem allAtoms_all (ts : List Jvm.Cond) (a : Array Jvm.Value) (st : Jvm.State) : (allAtoms ts).before a st = ts.all (fun c => c.before a st) := by
  induction ts with
  | nil => rfl
  | cons c t ih =>
    show (Jvm.Cond.and c (allAtoms t)).before a st = _
    rw [Jvm.Cond.before_and, ih, List.all_cons]
def words1 : List Jvm.Cond := Jvm.Cond.code x code maxLocals ret :: tables_1
/-- a 'code' word, met by the world's own term for the bytes: nothing is compared byte by byte -/
theorem code_word {y : MethodName} {bytes : ByteArray} {mx : Nat} {rt : Option FieldType} {a : Array Value} {s : State} {m : MethodId} {meth : Method} {c : Code} (h1 : s.methodNamed? y = some m) (h2 : s.vm.method? m = some meth) (h3 : meth.code = some c) (h4 : c.code = bytes)
    (h5 : (c.maxLocals == mx && c.exceptionTable.isEmpty && decide (c.maxStack ≤ mostOperands) && decide (meth.sig.returnType = rt) && !meth.locks && decide (parseMethodDescriptor y.desc = some meth.sig)) = true) : (Jvm.Cond.code y bytes mx rt).before a s = true := by
  simp only [Bool.and_eq_true, beq_iff_eq, Bool.not_eq_true', decide_eq_true_eq] at h5
  obtain ⟨⟨⟨⟨⟨g1, g2⟩, g3⟩, g4⟩, g5⟩, g6⟩ := h5
  simp [Cond.before, Cond.holds, Cond.value, h1, h2, h3, h4, g1, g2, g3, g4, g5, g6]
def isCode : Jvm.Cond → Bool
  | .code _ _ _ _ => true
  | _ => false
theorem all_split {L : List Jvm.Cond} {P : Jvm.Cond → Bool} (h1 : L.all (fun c => isCode c || P c) = true) (h2 : ∀ c ∈ L.filter isCode, P c = true) : L.all P = true := by
  refine List.all_eq_true.mpr fun c hc => ?_
  have h := List.all_eq_true.mp h1 c hc
  rcases Bool.eq_false_or_eq_true (isCode c) with hi | hi
  · exact h2 c (List.mem_filter.mpr ⟨hc, hi⟩)
  · simpa [hi] using h
set_option maxRecDepth 65536 in
theorem w_c0 : (Jvm.Cond.code x code maxLocals ret).before args0 about1 = true := code_word (m := ⟨1, 2⟩) (meth := k1m2) (c := k1c2) (by decide +kernel) rfl rfl rfl (by decide +kernel)
set_option maxRecDepth 65536 in
theorem w_c1 : (Jvm.Cond.code ({ cls := "com/example/redoubt/redoubt/protocol/Freshness", name := "<init>", desc := "(JJ)V" } : Jvm.MethodName) prog_42_method_1_code (5 : Nat) (Option.none : Option Jvm.ClassFile.FieldType)).before args0 about1 = true := code_word (m := ⟨2, 0⟩) (meth := k2m0) (c := k2c0) (by decide +kernel) rfl rfl rfl (by decide +kernel)
set_option maxRecDepth 65536 in
theorem w_c2 : (Jvm.Cond.code ({ cls := "java/lang/Object", name := "<init>", desc := "()V" } : Jvm.MethodName) object_method_1_code (1 : Nat) (Option.none : Option Jvm.ClassFile.FieldType)).before args0 about1 = true := code_word (m := ⟨0, 0⟩) (meth := k0m0) (c := k0c0) (by decide +kernel) rfl rfl rfl (by decide +kernel)
set_option maxRecDepth 65536 in
theorem w_c3 : (Jvm.Cond.code ({ cls := "com/example/redoubt/redoubt/protocol/FreshnessBoundedPinLaw", name := "expectBounded", desc := "(JJ)Z" } : Jvm.MethodName) method_2_code (4 : Nat) (Option.some Jvm.ClassFile.FieldType.boolean)).before args0 about1 = true := code_word (m := ⟨1, 1⟩) (meth := k1m1) (c := k1c1) (by decide +kernel) rfl rfl rfl (by decide +kernel)
set_option maxRecDepth 65536 in
theorem w_c4 : (Jvm.Cond.code ({ cls := "com/example/redoubt/redoubt/protocol/Freshness", name := "bounded", desc := "()Z" } : Jvm.MethodName) prog_42_method_7_code (1 : Nat) (Option.some Jvm.ClassFile.FieldType.boolean)).before args0 about1 = true := code_word (m := ⟨2, 2⟩) (meth := k2m2) (c := k2c2) (by decide +kernel) rfl rfl rfl (by decide +kernel)
set_option maxRecDepth 65536 in
theorem w_c5 : (Jvm.Cond.code ({ cls := "com/example/redoubt/redoubt/protocol/Freshness", name := "and", desc := "(Lcom/example/redoubt/redoubt/protocol/Freshness;)Lcom/example/redoubt/redoubt/protocol/Freshness;" } : Jvm.MethodName) prog_42_method_4_code (4 : Nat) (Option.some (Jvm.ClassFile.FieldType.object "com/example/redoubt/redoubt/protocol/Freshness"))).before args0 about1 = true := code_word (m := ⟨2, 1⟩) (meth := k2m1) (c := k2c1) (by decide +kernel) rfl rfl rfl (by decide +kernel)
set_option maxRecDepth 65536 in
theorem w_c6 : (Jvm.Cond.code ({ cls := "java/lang/Math", name := "min", desc := "(JJ)J" } : Jvm.MethodName) jdk_29_method_70_code (4 : Nat) (Option.some Jvm.ClassFile.FieldType.long)).before args0 about1 = true := code_word (m := ⟨3, 2⟩) (meth := k3m2) (c := k3c2) (by decide +kernel) rfl rfl rfl (by decide +kernel)
set_option maxRecDepth 65536 in
theorem w_c7 : (Jvm.Cond.code ({ cls := "java/lang/Math", name := "max", desc := "(JJ)J" } : Jvm.MethodName) jdk_29_method_66_code (4 : Nat) (Option.some Jvm.ClassFile.FieldType.long)).before args0 about1 = true := code_word (m := ⟨3, 1⟩) (meth := k3m1) (c := k3c1) (by decide +kernel) rfl rfl rfl (by decide +kernel)
def codes1 : List Jvm.Cond := [Jvm.Cond.code x code maxLocals ret, Jvm.Cond.code ({ cls := "com/example/redoubt/redoubt/protocol/Freshness", name := "<init>", desc := "(JJ)V" } : Jvm.MethodName) prog_42_method_1_code (5 : Nat) (Option.none : Option Jvm.ClassFile.FieldType), Jvm.Cond.code ({ cls := "java/lang/Object", name := "<init>", desc := "()V" } : Jvm.MethodName) object_method_1_code (1 : Nat) (Option.none : Option Jvm.ClassFile.FieldType), Jvm.Cond.code ({ cls := "com/example/redoubt/redoubt/protocol/FreshnessBoundedPinLaw", name := "expectBounded", desc := "(JJ)Z" } : Jvm.MethodName) method_2_code (4 : Nat) (Option.some Jvm.ClassFile.FieldType.boolean), Jvm.Cond.code ({ cls := "com/example/redoubt/redoubt/protocol/Freshness", name := "bounded", desc := "()Z" } : Jvm.MethodName) prog_42_method_7_code (1 : Nat) (Option.some Jvm.ClassFile.FieldType.boolean), Jvm.Cond.code ({ cls := "com/example/redoubt/redoubt/protocol/Freshness", name := "and", desc := "(Lcom/example/redoubt/redoubt/protocol/Freshness;)Lcom/example/redoubt/redoubt/protocol/Freshness;" } : Jvm.MethodName) prog_42_method_4_code (4 : Nat) (Option.some (Jvm.ClassFile.FieldType.object "com/example/redoubt/redoubt/protocol/Freshness")), Jvm.Cond.code ({ cls := "java/lang/Math", name := "min", desc := "(JJ)J" } : Jvm.MethodName) jdk_29_method_70_code (4 : Nat) (Option.some Jvm.ClassFile.FieldType.long), Jvm.Cond.code ({ cls := "java/lang/Math", name := "max", desc := "(JJ)J" } : Jvm.MethodName) jdk_29_method_66_code (4 : Nat) (Option.some Jvm.ClassFile.FieldType.long)]
set_option maxRecDepth 65536 in
theorem codes_eq : words1.filter isCode = codes1 := rfl
theorem w_codes : ∀ c ∈ words1.filter isCode, c.before args0 about1 = true := by
  rw [codes_eq]
  intro c hc
  simp only [codes1, List.mem_cons, List.not_mem_nil, or_false] at hc
  rcases hc with rfl | rfl | rfl | rfl | rfl | rfl | rfl | rfl
  · exact w_c0
  · exact w_c1
  · exact w_c2
  · exact w_c3
  · exact w_c4
  · exact w_c5
  · exact w_c6
  · exact w_c7
set_option maxRecDepth 65536 in
theorem w_t1 : (words1.take 24).all (fun c => isCode c || c.before args0 about1) = true := by decide +kernel
set_option maxRecDepth 65536 in
theorem w_t2 : (words1.drop 24).all (fun c => isCode c || c.before args0 about1) = true := by decide +kernel
theorem w_tables : (allAtoms (Jvm.Cond.code x code maxLocals ret :: tables_1)).before args0 about1 = true := by
  rw [allAtoms_all]
  show words1.all (fun c => c.before args0 about1) = true
  refine all_split ?_ w_codes
  rw [← List.take_append_drop 24 words1, List.all_append, w_t1, w_t2]
  rfl
set_option maxRecDepth 65536 in
theorem w_case : (Jvm.Cond.and given_1 narrow_1).before args0 about1 = true := by decide +kernel
theorem w_applies : (headSpec (Jvm.Cond.code x code maxLocals ret :: tables_1) room_1).applies x e0.platform about1 = true :=
  (Spec.applies_iff w_frames).mpr ⟨w_running, w_runnable, w_alone, w_named, w_hears, w_ripe, w_room, w_tables⟩
theorem atStart : AtStart classFile x code maxLocals ret World_1 tables_1 room_1 Calls_1 rest_1 Pre_1 launch0 p0 e0 about1 theMethod args0 below0 :=
  ⟨lists_1, trivial, launch0.admits_env _ _ _, launch0.least_env, fairChoices_fair.cas, fairChoices_fair.clock, w_frames, w_args, w_heap, w_applies, trivial, trivial, w_case⟩
end start1
theorem witness_1 : WitnessClaimed_1 := ⟨start1.p0, start1.e0, start1.about1, start1.theMethod, start1.args0, start1.below0, start1.atStart⟩
end Jvm.Pilot.@@N@@
