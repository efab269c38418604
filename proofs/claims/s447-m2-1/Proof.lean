import JvmDerived
import JvmDerived.Pilot.@@N@@Statement
import JvmDerived.Pilot.@@N@@Code
set_option linter.unusedVariables false
set_option linter.unusedSimpArgs false
namespace Jvm.RoadKit
open Sem ClassFile Op Lib Jvm.Stand Jvm.Free Jvm.LawKit
section New
variable {p : Program} {l : Launch} {e : Env} {R : Room} {s : State} {m : MethodId} {args : Array Value} {below : List Frame} {meth : Method} {c : Code} {T : State} {locs : List Loc} {cells slots : Nat}
theorem retI (X : Stand p l e R s m args below meth c T locs cells slots) (hx : p.tables.exec = Jvm.exec) {pc : Nat} {Ls : Array Slot} {z : Int32} {rest : List Value} (hret : meth.sig.returnType = some .int) (hd : decode c.code pc = .ok (.ireturn, 1)) {fs : List Frame}
    (hl : ∀ (f : JFrame) (acts : List Action), f.method = m → f.locked = none → f.entered = [] → (doReturn e (T.setTop f) acts (some (.int z))).1 = T.setFrames fs) : Steps p.tables e below (T.setTop (mkF m pc Ls (.int z :: rest))) (T.setFrames fs) := by
  have hm' : T.vm.method? m = some meth := X.method'
  have hn : narrow .int (.int z) = .int z := rfl
  show Steps p.tables e below (T.setTop { method := m, pc := pc, locals := Ls, stack := _ :: rest, locked := none }) _
  jvm_step X.here [X.here.top, hx, hd, hm', hret, hn]
  first | (intro acts; rw [hl _ acts rfl rfl rfl]) | rw [hl _ _ rfl rfl rfl]
  exact Steps.refl _
end New
end Jvm.RoadKit
namespace Jvm.Pilot.@@N@@
open Jvm Jvm.ClassFile Sem Op Lib Jvm.Free Jvm.Stand Jvm.LawKit Jvm.RoadKit Bundle Jvm.Pilot.@@N@@.Jvm.D
def own_nw (a x : Int64) : Int64 := x * ((2 : Int64) - a * x)
def own_inv (a : Int64) : Int64 := own_nw a (own_nw a (own_nw a (own_nw a (own_nw a (own_nw a a)))))
theorem own_inv_k : own_inv (-7046029254386353131 : Int64) = (-1018231460777725123 : Int64) := by decide +kernel
theorem own_kk : ((-7046029254386353131 : Int64) * (-1018231460777725123 : Int64)) = (1 : Int64) := by decide +kernel
def own_fd (e : Int64) (p : Int32) : Int64 := (e <<< ((32 : Int32) &&& 0x3f).toInt64) ||| (p.toInt64 &&& (4294967295 : Int64))
def own_m (b e : Int64) (p : Int32) : Int64 := (b ^^^ own_fd e p) * (-7046029254386353131 : Int64)
def own_x (y : Int64) : Int64 := y ^^^ ((y.toUInt64 >>> ((32 : Int32) &&& 0x3f).toInt64.toUInt64).toInt64)
theorem own_xx (y : Int64) : own_x (own_x y) = y := by
  apply Int64.toBitVec_inj.mp
  have e32 : ((32 : Int32) &&& 0x3f).toInt64.toUInt64 = (32 : UInt64) := by decide
  have f : ∀ z : Int64, (own_x z).toBitVec = z.toBitVec ^^^ (z.toBitVec >>> 32) := fun z => by
    unfold own_x; rw [e32]; rfl
  rw [f, f]
  ext i hi
  simp only [BitVec.getElem_xor, BitVec.getElem_ushiftRight, BitVec.getLsbD_xor, BitVec.getLsbD_ushiftRight, BitVec.getLsbD_eq_getElem hi]
  rw [show y.toBitVec.getLsbD (32 + (32 + i)) = false from BitVec.getLsbD_of_ge _ _ (by omega)]
  cases y.toBitVec[i] <;> cases y.toBitVec.getLsbD (32 + i) <;> rfl
theorem own_back (b e : Int64) (p : Int32) : ((own_x (own_x (own_m b e p)) * (-1018231460777725123 : Int64)) ^^^ own_fd e p) = b := by
  rw [own_xx]; unfold own_m
  rw [Int64.mul_assoc, own_kk, Int64.mul_one, Int64.xor_assoc, Int64.xor_self, Int64.xor_zero]
theorem pn_0 : plainName "com/example/redoubt/redoubt/storage/LogDigestsFoldPinLaw" = true := by first | (simp [plainName, overriddenIn]; done) | decide +kernel
theorem ef_1 (m : MethodId) (x0 : Int64) : entryFrame m #[(.long x0)] 4 = mkF m 0 #[.val (.long x0), .second, .unset, .unset] [] := by first | (simp [entryFrame, mkF, argsToLocals, Value.category]; done) | rfl
theorem d1_0 : decode method_2_code 0 = .ok (.lload_n 0, 1) := by decide +kernel
theorem d1_1 : decode method_2_code 1 = .ok (.lstore_n 2, 1) := by decide +kernel
theorem d1_2 : decode method_2_code 2 = .ok (.lload_n 2, 1) := by decide +kernel
theorem d1_3 : decode method_2_code 3 = .ok (.ldc2_w 7, 3) := by decide +kernel
theorem d1_6 : decode method_2_code 6 = .ok (.lload_n 0, 1) := by decide +kernel
theorem d1_7 : decode method_2_code 7 = .ok (.lload_n 2, 1) := by decide +kernel
theorem d1_8 : decode method_2_code 8 = .ok (.lmul, 1) := by decide +kernel
theorem d1_9 : decode method_2_code 9 = .ok (.lsub, 1) := by decide +kernel
theorem d1_10 : decode method_2_code 10 = .ok (.lmul, 1) := by decide +kernel
theorem d1_11 : decode method_2_code 11 = .ok (.lstore_n 2, 1) := by decide +kernel
theorem d1_12 : decode method_2_code 12 = .ok (.lload_n 2, 1) := by decide +kernel
theorem d1_13 : decode method_2_code 13 = .ok (.ldc2_w 7, 3) := by decide +kernel
theorem d1_16 : decode method_2_code 16 = .ok (.lload_n 0, 1) := by decide +kernel
theorem d1_17 : decode method_2_code 17 = .ok (.lload_n 2, 1) := by decide +kernel
theorem d1_18 : decode method_2_code 18 = .ok (.lmul, 1) := by decide +kernel
theorem d1_19 : decode method_2_code 19 = .ok (.lsub, 1) := by decide +kernel
theorem d1_20 : decode method_2_code 20 = .ok (.lmul, 1) := by decide +kernel
theorem d1_21 : decode method_2_code 21 = .ok (.lstore_n 2, 1) := by decide +kernel
theorem d1_22 : decode method_2_code 22 = .ok (.lload_n 2, 1) := by decide +kernel
theorem d1_23 : decode method_2_code 23 = .ok (.ldc2_w 7, 3) := by decide +kernel
theorem d1_26 : decode method_2_code 26 = .ok (.lload_n 0, 1) := by decide +kernel
theorem d1_27 : decode method_2_code 27 = .ok (.lload_n 2, 1) := by decide +kernel
theorem d1_28 : decode method_2_code 28 = .ok (.lmul, 1) := by decide +kernel
theorem d1_29 : decode method_2_code 29 = .ok (.lsub, 1) := by decide +kernel
theorem d1_30 : decode method_2_code 30 = .ok (.lmul, 1) := by decide +kernel
theorem d1_31 : decode method_2_code 31 = .ok (.lstore_n 2, 1) := by decide +kernel
theorem d1_32 : decode method_2_code 32 = .ok (.lload_n 2, 1) := by decide +kernel
theorem d1_33 : decode method_2_code 33 = .ok (.ldc2_w 7, 3) := by decide +kernel
theorem d1_36 : decode method_2_code 36 = .ok (.lload_n 0, 1) := by decide +kernel
theorem d1_37 : decode method_2_code 37 = .ok (.lload_n 2, 1) := by decide +kernel
theorem d1_38 : decode method_2_code 38 = .ok (.lmul, 1) := by decide +kernel
theorem d1_39 : decode method_2_code 39 = .ok (.lsub, 1) := by decide +kernel
theorem d1_40 : decode method_2_code 40 = .ok (.lmul, 1) := by decide +kernel
theorem d1_41 : decode method_2_code 41 = .ok (.lstore_n 2, 1) := by decide +kernel
theorem d1_42 : decode method_2_code 42 = .ok (.lload_n 2, 1) := by decide +kernel
theorem d1_43 : decode method_2_code 43 = .ok (.ldc2_w 7, 3) := by decide +kernel
theorem d1_46 : decode method_2_code 46 = .ok (.lload_n 0, 1) := by decide +kernel
theorem d1_47 : decode method_2_code 47 = .ok (.lload_n 2, 1) := by decide +kernel
theorem d1_48 : decode method_2_code 48 = .ok (.lmul, 1) := by decide +kernel
theorem d1_49 : decode method_2_code 49 = .ok (.lsub, 1) := by decide +kernel
theorem d1_50 : decode method_2_code 50 = .ok (.lmul, 1) := by decide +kernel
theorem d1_51 : decode method_2_code 51 = .ok (.lstore_n 2, 1) := by decide +kernel
theorem d1_52 : decode method_2_code 52 = .ok (.lload_n 2, 1) := by decide +kernel
theorem d1_53 : decode method_2_code 53 = .ok (.ldc2_w 7, 3) := by decide +kernel
theorem d1_56 : decode method_2_code 56 = .ok (.lload_n 0, 1) := by decide +kernel
theorem d1_57 : decode method_2_code 57 = .ok (.lload_n 2, 1) := by decide +kernel
theorem d1_58 : decode method_2_code 58 = .ok (.lmul, 1) := by decide +kernel
theorem d1_59 : decode method_2_code 59 = .ok (.lsub, 1) := by decide +kernel
theorem d1_60 : decode method_2_code 60 = .ok (.lmul, 1) := by decide +kernel
theorem d1_61 : decode method_2_code 61 = .ok (.lstore_n 2, 1) := by decide +kernel
theorem d1_62 : decode method_2_code 62 = .ok (.lload_n 2, 1) := by decide +kernel
theorem d1_63 : decode method_2_code 63 = .ok (.lreturn, 1) := by decide +kernel
def Q1 (Z : State) (q1 : Int64) (h0 : Heap) (n0 : Nat) (v : Option Value) (h : Heap) (L : List Loc) : Prop := v = some (.long (own_inv q1)) ∧ Fr n0 L ∧ (h = h0)
set_option maxRecDepth 65536 in
set_option maxHeartbeats 40000000 in
theorem rm1 (l : Launch) (Z : State) (a0 : Array Value) (hw : ∀ d ∈ tables_1, d.before a0 Z = true) (ws : List Jvm.Cond) (q1 : Int64) (h0 : Heap) (n0 : Nat) (Z0 : n0 ≤ h0.size) :
    MetFree l (⟨"com/example/redoubt/redoubt/storage/LogDigestsFoldPinLaw", "inverse", "(J)J"⟩ : MethodName) (head1 (Jvm.Cond.code (⟨"com/example/redoubt/redoubt/storage/LogDigestsFoldPinLaw", "inverse", "(J)J"⟩ : MethodName) method_2_code 4 (some .long) :: ws) ({ frames := 0, cells := 0, slots := 0, locals := 0 } : Room)) (fun a U => a = #[(.long q1)] ∧ Z.Warmed39 U.vm ∧ U.heap = h0) (fun _ _ _ _ _ => True) (fun _ U o U' => ∃ v L, o = .returned v ∧ Q1 Z q1 h0 n0 v U'.heap L ∧ FrameEnd U o U' L ({ frames := 0, cells := 0, slots := 0, locals := 0 } : Room).cells ({ frames := 0, cells := 0, slots := 0, locals := 0 } : Room).slots) := by
  refine MetFree.of_bodySF (plainFor_of_name pn_0) hisR ?_
  intro p e s m args below meth c s₁ Bd hml0 hP hK
  obtain ⟨rfl, hZ, hh⟩ := hP
  have hx := Bd.exec
  have hby := Bd.bytes
  have hml : c.maxLocals = 4 := hml0
  have hown : s.vm.findClass "com/example/redoubt/redoubt/storage/LogDigestsFoldPinLaw" = some m.cls := findClass_of_methodNamed Bd.named
  have hnm := (name_of_methodNamed Bd.named Bd.method).1
  have X0 : Stand p l e ({ frames := 0, cells := 0, slots := 0, locals := 0 } : Room) s m #[(.long q1)] below meth c s₁ [] 0 0 := Stand.of_body Bd
  have e0 : s₁.heap = h0 := by rw [← hh, Bd.state]; rfl
  have N0 := Fr.nil n0
  have pre0 : ∀ t, Steps p.tables e below (s₁.setTop (mkF m 0 #[.val (.long q1), .second, .unset, .unset] [])) t → Steps p.tables e below (s₁.setTop (entryFrame m #[(.long q1)] 4)) t := fun t k => castTop (ef_1 m q1) k
  obtain ⟨fs, hr, hrun, hended, hW, hsame⟩ := X0.leave (v := some (.long (own_nw q1 (own_nw q1 (own_nw q1 (own_nw q1 (own_nw q1 (own_nw q1 q1)))))))) (fun h => by rw [Bd.returns] at h; cases h)
  refine ⟨_, _, pre0 _ ?_, hrun, hended, _, _, rfl, ?_, ⟨_, rfl⟩, hW, hsame.mono (by decide) (by decide)⟩
  · show Steps p.tables e below (s₁.setTop (mkF m 0 #[.val (.long q1), .second, .unset, .unset] [])) _
    refine XS.lloadN X0.here hx rfl (hb hby d1_0) rfl ?_
    show Steps p.tables e below (s₁.setTop (mkF m 1 #[.val (.long q1), .second, .unset, .unset] [(.long q1)])) _
    refine XS.lstoreN X0.here hx rfl (hb hby d1_1) rfl (l' := #[.val (.long q1), .second, .val (.long q1), .second]) rfl ?_
    show Steps p.tables e below (s₁.setTop (mkF m 2 #[.val (.long q1), .second, .val (.long q1), .second] [])) _
    refine XS.lloadN X0.here hx rfl (hb hby d1_2) rfl ?_
    show Steps p.tables e below (s₁.setTop (mkF m 3 #[.val (.long q1), .second, .val (.long q1), .second] [(.long q1)])) _
    refine X0.ldc2J hx hown (mvT hZ (hw _ (List.mem_of_getElem? (i := 5) rfl))) (g := (mkF m 3 #[.val (.long q1), .second, .val (.long q1), .second] [(.long q1)])) rfl (hb hby d1_3) ?_
    show Steps p.tables e below (s₁.setTop (mkF m 6 #[.val (.long q1), .second, .val (.long q1), .second] [(.long (2 : Int64)), (.long q1)])) _
    refine XS.lloadN X0.here hx rfl (hb hby d1_6) rfl ?_
    show Steps p.tables e below (s₁.setTop (mkF m 7 #[.val (.long q1), .second, .val (.long q1), .second] [(.long q1), (.long (2 : Int64)), (.long q1)])) _
    refine XS.lloadN X0.here hx rfl (hb hby d1_7) rfl ?_
    show Steps p.tables e below (s₁.setTop (mkF m 8 #[.val (.long q1), .second, .val (.long q1), .second] [(.long q1), (.long q1), (.long (2 : Int64)), (.long q1)])) _
    refine XS.lmul X0.here hx rfl (hb hby d1_8) rfl ?_
    show Steps p.tables e below (s₁.setTop (mkF m 9 #[.val (.long q1), .second, .val (.long q1), .second] [(.long (q1 * q1)), (.long (2 : Int64)), (.long q1)])) _
    refine XS.lsub X0.here hx rfl (hb hby d1_9) rfl ?_
    show Steps p.tables e below (s₁.setTop (mkF m 10 #[.val (.long q1), .second, .val (.long q1), .second] [(.long ((2 : Int64) - (q1 * q1))), (.long q1)])) _
    refine XS.lmul X0.here hx rfl (hb hby d1_10) rfl ?_
    show Steps p.tables e below (s₁.setTop (mkF m 11 #[.val (.long q1), .second, .val (.long q1), .second] [(.long (q1 * ((2 : Int64) - (q1 * q1))))])) _
    refine XS.lstoreN X0.here hx rfl (hb hby d1_11) rfl (l' := #[.val (.long q1), .second, .val (.long (q1 * ((2 : Int64) - (q1 * q1)))), .second]) rfl ?_
    show Steps p.tables e below (s₁.setTop (mkF m 12 #[.val (.long q1), .second, .val (.long (own_nw q1 q1)), .second] [])) _
    refine XS.lloadN X0.here hx rfl (hb hby d1_12) rfl ?_
    show Steps p.tables e below (s₁.setTop (mkF m 13 #[.val (.long q1), .second, .val (.long (own_nw q1 q1)), .second] [(.long (own_nw q1 q1))])) _
    refine X0.ldc2J hx hown (mvT hZ (hw _ (List.mem_of_getElem? (i := 5) rfl))) (g := (mkF m 13 #[.val (.long q1), .second, .val (.long (own_nw q1 q1)), .second] [(.long (own_nw q1 q1))])) rfl (hb hby d1_13) ?_
    show Steps p.tables e below (s₁.setTop (mkF m 16 #[.val (.long q1), .second, .val (.long (own_nw q1 q1)), .second] [(.long (2 : Int64)), (.long (own_nw q1 q1))])) _
    refine XS.lloadN X0.here hx rfl (hb hby d1_16) rfl ?_
    show Steps p.tables e below (s₁.setTop (mkF m 17 #[.val (.long q1), .second, .val (.long (own_nw q1 q1)), .second] [(.long q1), (.long (2 : Int64)), (.long (own_nw q1 q1))])) _
    refine XS.lloadN X0.here hx rfl (hb hby d1_17) rfl ?_
    show Steps p.tables e below (s₁.setTop (mkF m 18 #[.val (.long q1), .second, .val (.long (own_nw q1 q1)), .second] [(.long (own_nw q1 q1)), (.long q1), (.long (2 : Int64)), (.long (own_nw q1 q1))])) _
    refine XS.lmul X0.here hx rfl (hb hby d1_18) rfl ?_
    show Steps p.tables e below (s₁.setTop (mkF m 19 #[.val (.long q1), .second, .val (.long (own_nw q1 q1)), .second] [(.long (q1 * (own_nw q1 q1))), (.long (2 : Int64)), (.long (own_nw q1 q1))])) _
    refine XS.lsub X0.here hx rfl (hb hby d1_19) rfl ?_
    show Steps p.tables e below (s₁.setTop (mkF m 20 #[.val (.long q1), .second, .val (.long (own_nw q1 q1)), .second] [(.long ((2 : Int64) - (q1 * (own_nw q1 q1)))), (.long (own_nw q1 q1))])) _
    refine XS.lmul X0.here hx rfl (hb hby d1_20) rfl ?_
    show Steps p.tables e below (s₁.setTop (mkF m 21 #[.val (.long q1), .second, .val (.long (own_nw q1 q1)), .second] [(.long ((own_nw q1 q1) * ((2 : Int64) - (q1 * (own_nw q1 q1)))))])) _
    refine XS.lstoreN X0.here hx rfl (hb hby d1_21) rfl (l' := #[.val (.long q1), .second, .val (.long ((own_nw q1 q1) * ((2 : Int64) - (q1 * (own_nw q1 q1))))), .second]) rfl ?_
    show Steps p.tables e below (s₁.setTop (mkF m 22 #[.val (.long q1), .second, .val (.long (own_nw q1 (own_nw q1 q1))), .second] [])) _
    refine XS.lloadN X0.here hx rfl (hb hby d1_22) rfl ?_
    show Steps p.tables e below (s₁.setTop (mkF m 23 #[.val (.long q1), .second, .val (.long (own_nw q1 (own_nw q1 q1))), .second] [(.long (own_nw q1 (own_nw q1 q1)))])) _
    refine X0.ldc2J hx hown (mvT hZ (hw _ (List.mem_of_getElem? (i := 5) rfl))) (g := (mkF m 23 #[.val (.long q1), .second, .val (.long (own_nw q1 (own_nw q1 q1))), .second] [(.long (own_nw q1 (own_nw q1 q1)))])) rfl (hb hby d1_23) ?_
    show Steps p.tables e below (s₁.setTop (mkF m 26 #[.val (.long q1), .second, .val (.long (own_nw q1 (own_nw q1 q1))), .second] [(.long (2 : Int64)), (.long (own_nw q1 (own_nw q1 q1)))])) _
    refine XS.lloadN X0.here hx rfl (hb hby d1_26) rfl ?_
    show Steps p.tables e below (s₁.setTop (mkF m 27 #[.val (.long q1), .second, .val (.long (own_nw q1 (own_nw q1 q1))), .second] [(.long q1), (.long (2 : Int64)), (.long (own_nw q1 (own_nw q1 q1)))])) _
    refine XS.lloadN X0.here hx rfl (hb hby d1_27) rfl ?_
    show Steps p.tables e below (s₁.setTop (mkF m 28 #[.val (.long q1), .second, .val (.long (own_nw q1 (own_nw q1 q1))), .second] [(.long (own_nw q1 (own_nw q1 q1))), (.long q1), (.long (2 : Int64)), (.long (own_nw q1 (own_nw q1 q1)))])) _
    refine XS.lmul X0.here hx rfl (hb hby d1_28) rfl ?_
    show Steps p.tables e below (s₁.setTop (mkF m 29 #[.val (.long q1), .second, .val (.long (own_nw q1 (own_nw q1 q1))), .second] [(.long (q1 * (own_nw q1 (own_nw q1 q1)))), (.long (2 : Int64)), (.long (own_nw q1 (own_nw q1 q1)))])) _
    refine XS.lsub X0.here hx rfl (hb hby d1_29) rfl ?_
    show Steps p.tables e below (s₁.setTop (mkF m 30 #[.val (.long q1), .second, .val (.long (own_nw q1 (own_nw q1 q1))), .second] [(.long ((2 : Int64) - (q1 * (own_nw q1 (own_nw q1 q1))))), (.long (own_nw q1 (own_nw q1 q1)))])) _
    refine XS.lmul X0.here hx rfl (hb hby d1_30) rfl ?_
    show Steps p.tables e below (s₁.setTop (mkF m 31 #[.val (.long q1), .second, .val (.long (own_nw q1 (own_nw q1 q1))), .second] [(.long ((own_nw q1 (own_nw q1 q1)) * ((2 : Int64) - (q1 * (own_nw q1 (own_nw q1 q1))))))])) _
    refine XS.lstoreN X0.here hx rfl (hb hby d1_31) rfl (l' := #[.val (.long q1), .second, .val (.long ((own_nw q1 (own_nw q1 q1)) * ((2 : Int64) - (q1 * (own_nw q1 (own_nw q1 q1)))))), .second]) rfl ?_
    show Steps p.tables e below (s₁.setTop (mkF m 32 #[.val (.long q1), .second, .val (.long (own_nw q1 (own_nw q1 (own_nw q1 q1)))), .second] [])) _
    refine XS.lloadN X0.here hx rfl (hb hby d1_32) rfl ?_
    show Steps p.tables e below (s₁.setTop (mkF m 33 #[.val (.long q1), .second, .val (.long (own_nw q1 (own_nw q1 (own_nw q1 q1)))), .second] [(.long (own_nw q1 (own_nw q1 (own_nw q1 q1))))])) _
    refine X0.ldc2J hx hown (mvT hZ (hw _ (List.mem_of_getElem? (i := 5) rfl))) (g := (mkF m 33 #[.val (.long q1), .second, .val (.long (own_nw q1 (own_nw q1 (own_nw q1 q1)))), .second] [(.long (own_nw q1 (own_nw q1 (own_nw q1 q1))))])) rfl (hb hby d1_33) ?_
    show Steps p.tables e below (s₁.setTop (mkF m 36 #[.val (.long q1), .second, .val (.long (own_nw q1 (own_nw q1 (own_nw q1 q1)))), .second] [(.long (2 : Int64)), (.long (own_nw q1 (own_nw q1 (own_nw q1 q1))))])) _
    refine XS.lloadN X0.here hx rfl (hb hby d1_36) rfl ?_
    show Steps p.tables e below (s₁.setTop (mkF m 37 #[.val (.long q1), .second, .val (.long (own_nw q1 (own_nw q1 (own_nw q1 q1)))), .second] [(.long q1), (.long (2 : Int64)), (.long (own_nw q1 (own_nw q1 (own_nw q1 q1))))])) _
    refine XS.lloadN X0.here hx rfl (hb hby d1_37) rfl ?_
    show Steps p.tables e below (s₁.setTop (mkF m 38 #[.val (.long q1), .second, .val (.long (own_nw q1 (own_nw q1 (own_nw q1 q1)))), .second] [(.long (own_nw q1 (own_nw q1 (own_nw q1 q1)))), (.long q1), (.long (2 : Int64)), (.long (own_nw q1 (own_nw q1 (own_nw q1 q1))))])) _
    refine XS.lmul X0.here hx rfl (hb hby d1_38) rfl ?_
    show Steps p.tables e below (s₁.setTop (mkF m 39 #[.val (.long q1), .second, .val (.long (own_nw q1 (own_nw q1 (own_nw q1 q1)))), .second] [(.long (q1 * (own_nw q1 (own_nw q1 (own_nw q1 q1))))), (.long (2 : Int64)), (.long (own_nw q1 (own_nw q1 (own_nw q1 q1))))])) _
    refine XS.lsub X0.here hx rfl (hb hby d1_39) rfl ?_
    show Steps p.tables e below (s₁.setTop (mkF m 40 #[.val (.long q1), .second, .val (.long (own_nw q1 (own_nw q1 (own_nw q1 q1)))), .second] [(.long ((2 : Int64) - (q1 * (own_nw q1 (own_nw q1 (own_nw q1 q1)))))), (.long (own_nw q1 (own_nw q1 (own_nw q1 q1))))])) _
    refine XS.lmul X0.here hx rfl (hb hby d1_40) rfl ?_
    show Steps p.tables e below (s₁.setTop (mkF m 41 #[.val (.long q1), .second, .val (.long (own_nw q1 (own_nw q1 (own_nw q1 q1)))), .second] [(.long ((own_nw q1 (own_nw q1 (own_nw q1 q1))) * ((2 : Int64) - (q1 * (own_nw q1 (own_nw q1 (own_nw q1 q1)))))))])) _
    refine XS.lstoreN X0.here hx rfl (hb hby d1_41) rfl (l' := #[.val (.long q1), .second, .val (.long ((own_nw q1 (own_nw q1 (own_nw q1 q1))) * ((2 : Int64) - (q1 * (own_nw q1 (own_nw q1 (own_nw q1 q1))))))), .second]) rfl ?_
    show Steps p.tables e below (s₁.setTop (mkF m 42 #[.val (.long q1), .second, .val (.long (own_nw q1 (own_nw q1 (own_nw q1 (own_nw q1 q1))))), .second] [])) _
    refine XS.lloadN X0.here hx rfl (hb hby d1_42) rfl ?_
    show Steps p.tables e below (s₁.setTop (mkF m 43 #[.val (.long q1), .second, .val (.long (own_nw q1 (own_nw q1 (own_nw q1 (own_nw q1 q1))))), .second] [(.long (own_nw q1 (own_nw q1 (own_nw q1 (own_nw q1 q1)))))])) _
    refine X0.ldc2J hx hown (mvT hZ (hw _ (List.mem_of_getElem? (i := 5) rfl))) (g := (mkF m 43 #[.val (.long q1), .second, .val (.long (own_nw q1 (own_nw q1 (own_nw q1 (own_nw q1 q1))))), .second] [(.long (own_nw q1 (own_nw q1 (own_nw q1 (own_nw q1 q1)))))])) rfl (hb hby d1_43) ?_
    show Steps p.tables e below (s₁.setTop (mkF m 46 #[.val (.long q1), .second, .val (.long (own_nw q1 (own_nw q1 (own_nw q1 (own_nw q1 q1))))), .second] [(.long (2 : Int64)), (.long (own_nw q1 (own_nw q1 (own_nw q1 (own_nw q1 q1)))))])) _
    refine XS.lloadN X0.here hx rfl (hb hby d1_46) rfl ?_
    show Steps p.tables e below (s₁.setTop (mkF m 47 #[.val (.long q1), .second, .val (.long (own_nw q1 (own_nw q1 (own_nw q1 (own_nw q1 q1))))), .second] [(.long q1), (.long (2 : Int64)), (.long (own_nw q1 (own_nw q1 (own_nw q1 (own_nw q1 q1)))))])) _
    refine XS.lloadN X0.here hx rfl (hb hby d1_47) rfl ?_
    show Steps p.tables e below (s₁.setTop (mkF m 48 #[.val (.long q1), .second, .val (.long (own_nw q1 (own_nw q1 (own_nw q1 (own_nw q1 q1))))), .second] [(.long (own_nw q1 (own_nw q1 (own_nw q1 (own_nw q1 q1))))), (.long q1), (.long (2 : Int64)), (.long (own_nw q1 (own_nw q1 (own_nw q1 (own_nw q1 q1)))))])) _
    refine XS.lmul X0.here hx rfl (hb hby d1_48) rfl ?_
    show Steps p.tables e below (s₁.setTop (mkF m 49 #[.val (.long q1), .second, .val (.long (own_nw q1 (own_nw q1 (own_nw q1 (own_nw q1 q1))))), .second] [(.long (q1 * (own_nw q1 (own_nw q1 (own_nw q1 (own_nw q1 q1)))))), (.long (2 : Int64)), (.long (own_nw q1 (own_nw q1 (own_nw q1 (own_nw q1 q1)))))])) _
    refine XS.lsub X0.here hx rfl (hb hby d1_49) rfl ?_
    show Steps p.tables e below (s₁.setTop (mkF m 50 #[.val (.long q1), .second, .val (.long (own_nw q1 (own_nw q1 (own_nw q1 (own_nw q1 q1))))), .second] [(.long ((2 : Int64) - (q1 * (own_nw q1 (own_nw q1 (own_nw q1 (own_nw q1 q1))))))), (.long (own_nw q1 (own_nw q1 (own_nw q1 (own_nw q1 q1)))))])) _
    refine XS.lmul X0.here hx rfl (hb hby d1_50) rfl ?_
    show Steps p.tables e below (s₁.setTop (mkF m 51 #[.val (.long q1), .second, .val (.long (own_nw q1 (own_nw q1 (own_nw q1 (own_nw q1 q1))))), .second] [(.long ((own_nw q1 (own_nw q1 (own_nw q1 (own_nw q1 q1)))) * ((2 : Int64) - (q1 * (own_nw q1 (own_nw q1 (own_nw q1 (own_nw q1 q1))))))))])) _
    refine XS.lstoreN X0.here hx rfl (hb hby d1_51) rfl (l' := #[.val (.long q1), .second, .val (.long ((own_nw q1 (own_nw q1 (own_nw q1 (own_nw q1 q1)))) * ((2 : Int64) - (q1 * (own_nw q1 (own_nw q1 (own_nw q1 (own_nw q1 q1)))))))), .second]) rfl ?_
    show Steps p.tables e below (s₁.setTop (mkF m 52 #[.val (.long q1), .second, .val (.long (own_nw q1 (own_nw q1 (own_nw q1 (own_nw q1 (own_nw q1 q1)))))), .second] [])) _
    refine XS.lloadN X0.here hx rfl (hb hby d1_52) rfl ?_
    show Steps p.tables e below (s₁.setTop (mkF m 53 #[.val (.long q1), .second, .val (.long (own_nw q1 (own_nw q1 (own_nw q1 (own_nw q1 (own_nw q1 q1)))))), .second] [(.long (own_nw q1 (own_nw q1 (own_nw q1 (own_nw q1 (own_nw q1 q1))))))])) _
    refine X0.ldc2J hx hown (mvT hZ (hw _ (List.mem_of_getElem? (i := 5) rfl))) (g := (mkF m 53 #[.val (.long q1), .second, .val (.long (own_nw q1 (own_nw q1 (own_nw q1 (own_nw q1 (own_nw q1 q1)))))), .second] [(.long (own_nw q1 (own_nw q1 (own_nw q1 (own_nw q1 (own_nw q1 q1))))))])) rfl (hb hby d1_53) ?_
    show Steps p.tables e below (s₁.setTop (mkF m 56 #[.val (.long q1), .second, .val (.long (own_nw q1 (own_nw q1 (own_nw q1 (own_nw q1 (own_nw q1 q1)))))), .second] [(.long (2 : Int64)), (.long (own_nw q1 (own_nw q1 (own_nw q1 (own_nw q1 (own_nw q1 q1))))))])) _
    refine XS.lloadN X0.here hx rfl (hb hby d1_56) rfl ?_
    show Steps p.tables e below (s₁.setTop (mkF m 57 #[.val (.long q1), .second, .val (.long (own_nw q1 (own_nw q1 (own_nw q1 (own_nw q1 (own_nw q1 q1)))))), .second] [(.long q1), (.long (2 : Int64)), (.long (own_nw q1 (own_nw q1 (own_nw q1 (own_nw q1 (own_nw q1 q1))))))])) _
    refine XS.lloadN X0.here hx rfl (hb hby d1_57) rfl ?_
    show Steps p.tables e below (s₁.setTop (mkF m 58 #[.val (.long q1), .second, .val (.long (own_nw q1 (own_nw q1 (own_nw q1 (own_nw q1 (own_nw q1 q1)))))), .second] [(.long (own_nw q1 (own_nw q1 (own_nw q1 (own_nw q1 (own_nw q1 q1)))))), (.long q1), (.long (2 : Int64)), (.long (own_nw q1 (own_nw q1 (own_nw q1 (own_nw q1 (own_nw q1 q1))))))])) _
    refine XS.lmul X0.here hx rfl (hb hby d1_58) rfl ?_
    show Steps p.tables e below (s₁.setTop (mkF m 59 #[.val (.long q1), .second, .val (.long (own_nw q1 (own_nw q1 (own_nw q1 (own_nw q1 (own_nw q1 q1)))))), .second] [(.long (q1 * (own_nw q1 (own_nw q1 (own_nw q1 (own_nw q1 (own_nw q1 q1))))))), (.long (2 : Int64)), (.long (own_nw q1 (own_nw q1 (own_nw q1 (own_nw q1 (own_nw q1 q1))))))])) _
    refine XS.lsub X0.here hx rfl (hb hby d1_59) rfl ?_
    show Steps p.tables e below (s₁.setTop (mkF m 60 #[.val (.long q1), .second, .val (.long (own_nw q1 (own_nw q1 (own_nw q1 (own_nw q1 (own_nw q1 q1)))))), .second] [(.long ((2 : Int64) - (q1 * (own_nw q1 (own_nw q1 (own_nw q1 (own_nw q1 (own_nw q1 q1)))))))), (.long (own_nw q1 (own_nw q1 (own_nw q1 (own_nw q1 (own_nw q1 q1))))))])) _
    refine XS.lmul X0.here hx rfl (hb hby d1_60) rfl ?_
    show Steps p.tables e below (s₁.setTop (mkF m 61 #[.val (.long q1), .second, .val (.long (own_nw q1 (own_nw q1 (own_nw q1 (own_nw q1 (own_nw q1 q1)))))), .second] [(.long ((own_nw q1 (own_nw q1 (own_nw q1 (own_nw q1 (own_nw q1 q1))))) * ((2 : Int64) - (q1 * (own_nw q1 (own_nw q1 (own_nw q1 (own_nw q1 (own_nw q1 q1)))))))))])) _
    refine XS.lstoreN X0.here hx rfl (hb hby d1_61) rfl (l' := #[.val (.long q1), .second, .val (.long ((own_nw q1 (own_nw q1 (own_nw q1 (own_nw q1 (own_nw q1 q1))))) * ((2 : Int64) - (q1 * (own_nw q1 (own_nw q1 (own_nw q1 (own_nw q1 (own_nw q1 q1))))))))), .second]) rfl ?_
    show Steps p.tables e below (s₁.setTop (mkF m 62 #[.val (.long q1), .second, .val (.long (own_nw q1 (own_nw q1 (own_nw q1 (own_nw q1 (own_nw q1 (own_nw q1 q1))))))), .second] [])) _
    refine XS.lloadN X0.here hx rfl (hb hby d1_62) rfl ?_
    show Steps p.tables e below (s₁.setTop (mkF m 63 #[.val (.long q1), .second, .val (.long (own_nw q1 (own_nw q1 (own_nw q1 (own_nw q1 (own_nw q1 (own_nw q1 q1))))))), .second] [(.long (own_nw q1 (own_nw q1 (own_nw q1 (own_nw q1 (own_nw q1 (own_nw q1 q1)))))))])) _
    exact X0.lreturnOut hx Bd.returns (hb hby d1_63) hr
  · show Q1 Z q1 h0 n0 _ s₁.heap _
    rw [e0]
    exact ⟨(congrArg (fun z => some (Value.long z)) (rfl : (own_nw q1 (own_nw q1 (own_nw q1 (own_nw q1 (own_nw q1 (own_nw q1 q1)))))) = (own_inv q1))), N0, rfl⟩
theorem pn_1 : plainName "com/example/redoubt/redoubt/storage/LogDigests" = true := by first | (simp [plainName, overriddenIn]; done) | decide +kernel
theorem ef_2 (m : MethodId) (x0 : Int64) (x1 : Int64) (x2 : Int32) : entryFrame m #[(.long x0), (.long x1), (.int x2)] 7 = mkF m 0 #[.val (.long x0), .second, .val (.long x1), .second, .val (.int x2), .unset, .unset] [] := by first | (simp [entryFrame, mkF, argsToLocals, Value.category]; done) | rfl
theorem d2_0 : decode prog_96_method_3_code 0 = .ok (.lload_n 0, 1) := by decide +kernel
theorem d2_1 : decode prog_96_method_3_code 1 = .ok (.lload_n 2, 1) := by decide +kernel
theorem d2_2 : decode prog_96_method_3_code 2 = .ok (.bipush 32, 2) := by decide +kernel
theorem d2_4 : decode prog_96_method_3_code 4 = .ok (.lshl, 1) := by decide +kernel
theorem d2_5 : decode prog_96_method_3_code 5 = .ok (.iload 4, 2) := by decide +kernel
theorem d2_7 : decode prog_96_method_3_code 7 = .ok (.i2l, 1) := by decide +kernel
theorem d2_8 : decode prog_96_method_3_code 8 = .ok (.ldc2_w 56, 3) := by decide +kernel
theorem d2_11 : decode prog_96_method_3_code 11 = .ok (.land, 1) := by decide +kernel
theorem d2_12 : decode prog_96_method_3_code 12 = .ok (.lor, 1) := by decide +kernel
theorem d2_13 : decode prog_96_method_3_code 13 = .ok (.lxor, 1) := by decide +kernel
theorem d2_14 : decode prog_96_method_3_code 14 = .ok (.ldc2_w 58, 3) := by decide +kernel
theorem d2_17 : decode prog_96_method_3_code 17 = .ok (.lmul, 1) := by decide +kernel
theorem d2_18 : decode prog_96_method_3_code 18 = .ok (.lstore 5, 2) := by decide +kernel
theorem d2_20 : decode prog_96_method_3_code 20 = .ok (.lload 5, 2) := by decide +kernel
theorem d2_22 : decode prog_96_method_3_code 22 = .ok (.lload 5, 2) := by decide +kernel
theorem d2_24 : decode prog_96_method_3_code 24 = .ok (.bipush 32, 2) := by decide +kernel
theorem d2_26 : decode prog_96_method_3_code 26 = .ok (.lushr, 1) := by decide +kernel
theorem d2_27 : decode prog_96_method_3_code 27 = .ok (.lxor, 1) := by decide +kernel
theorem d2_28 : decode prog_96_method_3_code 28 = .ok (.lreturn, 1) := by decide +kernel
def Q2 (Z : State) (q1 : Int64) (q2 : Int64) (p3 : Int32) (h0 : Heap) (n0 : Nat) (v : Option Value) (h : Heap) (L : List Loc) : Prop := v = some (.long (own_x (own_m q1 q2 p3))) ∧ Fr n0 L ∧ (h = h0)
set_option maxRecDepth 65536 in
set_option maxHeartbeats 40000000 in
theorem rm2 (l : Launch) (Z : State) (a0 : Array Value) (hw : ∀ d ∈ tables_1, d.before a0 Z = true) (ws : List Jvm.Cond) (q1 : Int64) (q2 : Int64) (p3 : Int32) (h0 : Heap) (n0 : Nat) (Z0 : n0 ≤ h0.size) :
    MetFree l (⟨"com/example/redoubt/redoubt/storage/LogDigests", "fold", "(JJI)J"⟩ : MethodName) (head1 (Jvm.Cond.code (⟨"com/example/redoubt/redoubt/storage/LogDigests", "fold", "(JJI)J"⟩ : MethodName) prog_96_method_3_code 7 (some .long) :: ws) ({ frames := 0, cells := 0, slots := 0, locals := 0 } : Room)) (fun a U => a = #[(.long q1), (.long q2), (.int p3)] ∧ Z.Warmed39 U.vm ∧ U.heap = h0) (fun _ _ _ _ _ => True) (fun _ U o U' => ∃ v L, o = .returned v ∧ Q2 Z q1 q2 p3 h0 n0 v U'.heap L ∧ FrameEnd U o U' L ({ frames := 0, cells := 0, slots := 0, locals := 0 } : Room).cells ({ frames := 0, cells := 0, slots := 0, locals := 0 } : Room).slots) := by
  refine MetFree.of_bodySF (plainFor_of_name pn_1) hisR ?_
  intro p e s m args below meth c s₁ Bd hml0 hP hK
  obtain ⟨rfl, hZ, hh⟩ := hP
  have hx := Bd.exec
  have hby := Bd.bytes
  have hml : c.maxLocals = 7 := hml0
  have hown : s.vm.findClass "com/example/redoubt/redoubt/storage/LogDigests" = some m.cls := findClass_of_methodNamed Bd.named
  have hnm := (name_of_methodNamed Bd.named Bd.method).1
  have X0 : Stand p l e ({ frames := 0, cells := 0, slots := 0, locals := 0 } : Room) s m #[(.long q1), (.long q2), (.int p3)] below meth c s₁ [] 0 0 := Stand.of_body Bd
  have e0 : s₁.heap = h0 := by rw [← hh, Bd.state]; rfl
  have N0 := Fr.nil n0
  have pre0 : ∀ t, Steps p.tables e below (s₁.setTop (mkF m 0 #[.val (.long q1), .second, .val (.long q2), .second, .val (.int p3), .unset, .unset] [])) t → Steps p.tables e below (s₁.setTop (entryFrame m #[(.long q1), (.long q2), (.int p3)] 7)) t := fun t k => castTop (ef_2 m q1 q2 p3) k
  obtain ⟨fs, hr, hrun, hended, hW, hsame⟩ := X0.leave (v := some (.long ((own_m q1 q2 p3) ^^^ (((own_m q1 q2 p3).toUInt64 >>> ((32 : Int32) &&& 0x3f).toInt64.toUInt64).toInt64)))) (fun h => by rw [Bd.returns] at h; cases h)
  refine ⟨_, _, pre0 _ ?_, hrun, hended, _, _, rfl, ?_, ⟨_, rfl⟩, hW, hsame.mono (by decide) (by decide)⟩
  · show Steps p.tables e below (s₁.setTop (mkF m 0 #[.val (.long q1), .second, .val (.long q2), .second, .val (.int p3), .unset, .unset] [])) _
    refine XS.lloadN X0.here hx rfl (hb hby d2_0) rfl ?_
    show Steps p.tables e below (s₁.setTop (mkF m 1 #[.val (.long q1), .second, .val (.long q2), .second, .val (.int p3), .unset, .unset] [(.long q1)])) _
    refine XS.lloadN X0.here hx rfl (hb hby d2_1) rfl ?_
    show Steps p.tables e below (s₁.setTop (mkF m 2 #[.val (.long q1), .second, .val (.long q2), .second, .val (.int p3), .unset, .unset] [(.long q2), (.long q1)])) _
    refine XS.bipush X0.here hx rfl (hb hby d2_2) ?_
    show Steps p.tables e below (s₁.setTop (mkF m 4 #[.val (.long q1), .second, .val (.long q2), .second, .val (.int p3), .unset, .unset] [(.int (32 : Int32)), (.long q2), (.long q1)])) _
    refine XS.lshl X0.here hx rfl (hb hby d2_4) rfl ?_
    show Steps p.tables e below (s₁.setTop (mkF m 5 #[.val (.long q1), .second, .val (.long q2), .second, .val (.int p3), .unset, .unset] [(.long (q2 <<< ((32 : Int32) &&& 0x3f).toInt64)), (.long q1)])) _
    refine XS.iload X0.here hx rfl (hb hby d2_5) rfl ?_
    show Steps p.tables e below (s₁.setTop (mkF m 7 #[.val (.long q1), .second, .val (.long q2), .second, .val (.int p3), .unset, .unset] [(.int p3), (.long (q2 <<< ((32 : Int32) &&& 0x3f).toInt64)), (.long q1)])) _
    refine XS.i2l X0.here hx rfl (hb hby d2_7) rfl ?_
    show Steps p.tables e below (s₁.setTop (mkF m 8 #[.val (.long q1), .second, .val (.long q2), .second, .val (.int p3), .unset, .unset] [(.long (p3.toInt64)), (.long (q2 <<< ((32 : Int32) &&& 0x3f).toInt64)), (.long q1)])) _
    refine X0.ldc2J hx hown (mvT hZ (hw _ (List.mem_of_getElem? (i := 10) rfl))) (g := (mkF m 8 #[.val (.long q1), .second, .val (.long q2), .second, .val (.int p3), .unset, .unset] [(.long (p3.toInt64)), (.long (q2 <<< ((32 : Int32) &&& 0x3f).toInt64)), (.long q1)])) rfl (hb hby d2_8) ?_
    show Steps p.tables e below (s₁.setTop (mkF m 11 #[.val (.long q1), .second, .val (.long q2), .second, .val (.int p3), .unset, .unset] [(.long (4294967295 : Int64)), (.long (p3.toInt64)), (.long (q2 <<< ((32 : Int32) &&& 0x3f).toInt64)), (.long q1)])) _
    refine XS.land X0.here hx rfl (hb hby d2_11) rfl ?_
    show Steps p.tables e below (s₁.setTop (mkF m 12 #[.val (.long q1), .second, .val (.long q2), .second, .val (.int p3), .unset, .unset] [(.long ((p3.toInt64) &&& (4294967295 : Int64))), (.long (q2 <<< ((32 : Int32) &&& 0x3f).toInt64)), (.long q1)])) _
    refine XS.lor X0.here hx rfl (hb hby d2_12) rfl ?_
    show Steps p.tables e below (s₁.setTop (mkF m 13 #[.val (.long q1), .second, .val (.long q2), .second, .val (.int p3), .unset, .unset] [(.long ((q2 <<< ((32 : Int32) &&& 0x3f).toInt64) ||| ((p3.toInt64) &&& (4294967295 : Int64)))), (.long q1)])) _
    refine XS.lxor X0.here hx rfl (hb hby d2_13) rfl ?_
    show Steps p.tables e below (s₁.setTop (mkF m 14 #[.val (.long q1), .second, .val (.long q2), .second, .val (.int p3), .unset, .unset] [(.long (q1 ^^^ ((q2 <<< ((32 : Int32) &&& 0x3f).toInt64) ||| ((p3.toInt64) &&& (4294967295 : Int64)))))])) _
    refine X0.ldc2J hx hown (mvT hZ (hw _ (List.mem_of_getElem? (i := 11) rfl))) (g := (mkF m 14 #[.val (.long q1), .second, .val (.long q2), .second, .val (.int p3), .unset, .unset] [(.long (q1 ^^^ ((q2 <<< ((32 : Int32) &&& 0x3f).toInt64) ||| ((p3.toInt64) &&& (4294967295 : Int64)))))])) rfl (hb hby d2_14) ?_
    show Steps p.tables e below (s₁.setTop (mkF m 17 #[.val (.long q1), .second, .val (.long q2), .second, .val (.int p3), .unset, .unset] [(.long (-7046029254386353131 : Int64)), (.long (q1 ^^^ ((q2 <<< ((32 : Int32) &&& 0x3f).toInt64) ||| ((p3.toInt64) &&& (4294967295 : Int64)))))])) _
    refine XS.lmul X0.here hx rfl (hb hby d2_17) rfl ?_
    show Steps p.tables e below (s₁.setTop (mkF m 18 #[.val (.long q1), .second, .val (.long q2), .second, .val (.int p3), .unset, .unset] [(.long ((q1 ^^^ ((q2 <<< ((32 : Int32) &&& 0x3f).toInt64) ||| ((p3.toInt64) &&& (4294967295 : Int64)))) * (-7046029254386353131 : Int64)))])) _
    refine XS.lstore X0.here hx rfl (hb hby d2_18) rfl (l' := #[.val (.long q1), .second, .val (.long q2), .second, .val (.int p3), .val (.long ((q1 ^^^ ((q2 <<< ((32 : Int32) &&& 0x3f).toInt64) ||| ((p3.toInt64) &&& (4294967295 : Int64)))) * (-7046029254386353131 : Int64))), .second]) rfl ?_
    show Steps p.tables e below (s₁.setTop (mkF m 20 #[.val (.long q1), .second, .val (.long q2), .second, .val (.int p3), .val (.long (own_m q1 q2 p3)), .second] [])) _
    refine XS.lload X0.here hx rfl (hb hby d2_20) rfl ?_
    show Steps p.tables e below (s₁.setTop (mkF m 22 #[.val (.long q1), .second, .val (.long q2), .second, .val (.int p3), .val (.long (own_m q1 q2 p3)), .second] [(.long (own_m q1 q2 p3))])) _
    refine XS.lload X0.here hx rfl (hb hby d2_22) rfl ?_
    show Steps p.tables e below (s₁.setTop (mkF m 24 #[.val (.long q1), .second, .val (.long q2), .second, .val (.int p3), .val (.long (own_m q1 q2 p3)), .second] [(.long (own_m q1 q2 p3)), (.long (own_m q1 q2 p3))])) _
    refine XS.bipush X0.here hx rfl (hb hby d2_24) ?_
    show Steps p.tables e below (s₁.setTop (mkF m 26 #[.val (.long q1), .second, .val (.long q2), .second, .val (.int p3), .val (.long (own_m q1 q2 p3)), .second] [(.int (32 : Int32)), (.long (own_m q1 q2 p3)), (.long (own_m q1 q2 p3))])) _
    refine XS.lushr X0.here hx rfl (hb hby d2_26) rfl ?_
    show Steps p.tables e below (s₁.setTop (mkF m 27 #[.val (.long q1), .second, .val (.long q2), .second, .val (.int p3), .val (.long (own_m q1 q2 p3)), .second] [(.long (((own_m q1 q2 p3).toUInt64 >>> ((32 : Int32) &&& 0x3f).toInt64.toUInt64).toInt64)), (.long (own_m q1 q2 p3))])) _
    refine XS.lxor X0.here hx rfl (hb hby d2_27) rfl ?_
    show Steps p.tables e below (s₁.setTop (mkF m 28 #[.val (.long q1), .second, .val (.long q2), .second, .val (.int p3), .val (.long (own_m q1 q2 p3)), .second] [(.long ((own_m q1 q2 p3) ^^^ (((own_m q1 q2 p3).toUInt64 >>> ((32 : Int32) &&& 0x3f).toInt64.toUInt64).toInt64)))])) _
    exact X0.lreturnOut hx Bd.returns (hb hby d2_28) hr
  · show Q2 Z q1 q2 p3 h0 n0 _ s₁.heap _
    rw [e0]
    exact ⟨(congrArg (fun z => some (Value.long z)) (rfl : ((own_m q1 q2 p3) ^^^ (((own_m q1 q2 p3).toUInt64 >>> ((32 : Int32) &&& 0x3f).toInt64.toUInt64).toInt64)) = (own_x (own_m q1 q2 p3)))), N0, rfl⟩
theorem ef_0 (m : MethodId) (x0 : Int64) (x1 : Int64) (x2 : Int32) : entryFrame m #[(.long x0), (.long x1), (.int x2)] maxLocals = mkF m 0 #[.val (.long x0), .second, .val (.long x1), .second, .val (.int x2), .unset, .unset, .unset, .unset, .unset, .unset, .unset, .unset, .unset, .unset, .unset, .unset, .unset, .unset] [] := by first | (simp [entryFrame, mkF, argsToLocals, Value.category, maxLocals]; done) | rfl
theorem pd_0 : parseMethodDescriptor "(J)J" = some ⟨[.long], some .long⟩ := by decide +kernel
theorem pd_1 : parseMethodDescriptor "(JJI)J" = some ⟨[.long, .long, .int], some .long⟩ := by decide +kernel
def Q0 (Z : State) (q1 : Int64) (q2 : Int64) (p3 : Int32) (h0 : Heap) (n0 : Nat) (v : Option Value) (h : Heap) (L : List Loc) : Prop := v = some (.int (1 : Int32)) ∧ Fr n0 L
set_option maxRecDepth 65536 in
set_option maxHeartbeats 40000000 in
theorem rm0 (l : Launch) (Z : State) (a0 : Array Value) (hw : ∀ d ∈ tables_1, d.before a0 Z = true) (ws : List Jvm.Cond) (q1 : Int64) (q2 : Int64) (p3 : Int32) (h0 : Heap) (n0 : Nat) (Z0 : n0 ≤ h0.size) :
    MetFree l x (head1 (Jvm.Cond.code x code maxLocals ret :: ws) room_1) (fun a U => a = #[(.long q1), (.long q2), (.int p3)] ∧ Z.Warmed39 U.vm ∧ U.heap = h0) (fun _ _ _ _ _ => True) (fun _ U o U' => ∃ v L, o = .returned v ∧ Q0 Z q1 q2 p3 h0 n0 v U'.heap L ∧ FrameEnd U o U' L room_1.cells room_1.slots) := by
  refine MetFree.of_bodySF (plainFor_of_name pn_0) hisR ?_
  intro p e s m args below meth c s₁ Bd hml0 hP hK
  obtain ⟨rfl, hZ, hh⟩ := hP
  have hx := Bd.exec
  have hby := Bd.bytes
  have hml : c.maxLocals = 19 := hml0
  have hown : s.vm.findClass "com/example/redoubt/redoubt/storage/LogDigestsFoldPinLaw" = some m.cls := findClass_of_methodNamed Bd.named
  have hnm := (name_of_methodNamed Bd.named Bd.method).1
  have X0 : Stand p l e room_1 s m #[(.long q1), (.long q2), (.int p3)] below meth c s₁ [] 0 0 := Stand.of_body Bd
  have e0 : s₁.heap = h0 := by rw [← hh, Bd.state]; rfl
  have N0 := Fr.nil n0
  have pre0 : ∀ t, Steps p.tables e below (s₁.setTop (mkF m 0 #[.val (.long q1), .second, .val (.long q2), .second, .val (.int p3), .unset, .unset, .unset, .unset, .unset, .unset, .unset, .unset, .unset, .unset, .unset, .unset, .unset, .unset] [])) t → Steps p.tables e below (s₁.setTop (entryFrame m #[(.long q1), (.long q2), (.int p3)] maxLocals)) t := fun t k => castTop (ef_0 m q1 q2 p3) k
  obtain ⟨_, _, ⟨T101, L101, k101, n101⟩, -, X101, ⟨Lc101, hQ101, l101, y101, z101⟩, st101⟩ := Jvm.LawKit.callS X0 hx (y := (⟨"com/example/redoubt/redoubt/storage/LogDigestsFoldPinLaw", "inverse", "(J)J"⟩ : MethodName)) hown (mvT hZ (hw _ (List.mem_of_getElem? (i := 1) rfl))) (mvT hZ (hw _ (List.mem_of_getElem? (i := 2) rfl))) (mvT hZ (hw _ (List.mem_of_getElem? (i := 3) rfl))) (mvT hZ (hw _ (List.mem_of_getElem? (i := 4) rfl))) (by decide) (backOf (W := 0) (rm1 l Z a0 hw [] (-7046029254386353131 : Int64) h0 n0 Z0 ) hZ (hw _ (List.mem_of_getElem? (i := 4) rfl)) (hw _ (List.mem_of_getElem? (i := 3) rfl)) (by decide) (by decide)) (g := (mkF m 7 #[.val (.long q1), .second, .val (.long q2), .second, .val (.int p3), .val (.long (-7046029254386353131 : Int64)), .second, .unset, .unset, .unset, .unset, .unset, .unset, .unset, .unset, .unset, .unset, .unset, .unset] [(.long (-7046029254386353131 : Int64))])) rfl (by rw [hml]; rfl) (argsL := [(.long (-7046029254386353131 : Int64))]) (rest := []) (lenOf pd_0 rfl) rfl (by show 2 * 0 + _ ≤ _; exact Nat.le_of_eq rfl) (hb hby at_7) (fun _ _ => ⟨rfl, e0, (by decide : 0 + 0 ≤ _), (by decide : 0 + 0 ≤ _)⟩)
  dsimp only [Pt.U, Pt.locs, Pt.cells, Pt.slots] at X101 l101 y101 z101 st101 hQ101
  subst l101 y101 z101
  obtain ⟨hv101, N101q, P101_0⟩ := hQ101
  obtain rfl := hv101.trans (congrArg (fun z => some (Value.long z)) (own_inv_k : (own_inv (-7046029254386353131 : Int64)) = (-1018231460777725123 : Int64)))
  have N101 := Fr.app N0 N101q
  obtain ⟨_, _, ⟨T102, L102, k102, n102⟩, -, X102, ⟨Lc102, hQ102, l102, y102, z102⟩, st102⟩ := Jvm.LawKit.callS X101 hx (y := (⟨"com/example/redoubt/redoubt/storage/LogDigests", "fold", "(JJI)J"⟩ : MethodName)) hown (mvT hZ (hw _ (List.mem_of_getElem? (i := 6) rfl))) (mvT hZ (hw _ (List.mem_of_getElem? (i := 7) rfl))) (mvT hZ (hw _ (List.mem_of_getElem? (i := 8) rfl))) (mvT hZ (hw _ (List.mem_of_getElem? (i := 9) rfl))) (by decide) (backOf (W := 0) (rm2 l Z a0 hw [] q1 q2 p3 h0 n0 Z0 ) hZ (hw _ (List.mem_of_getElem? (i := 9) rfl)) (hw _ (List.mem_of_getElem? (i := 8) rfl)) (by decide) (by decide)) (g := (mkF m 16 #[.val (.long q1), .second, .val (.long q2), .second, .val (.int p3), .val (.long (-7046029254386353131 : Int64)), .second, .val (.long (-1018231460777725123 : Int64)), .second, .unset, .unset, .unset, .unset, .unset, .unset, .unset, .unset, .unset, .unset] [(.int p3), (.long q2), (.long q1)])) rfl (by rw [hml]; rfl) (argsL := [(.long q1), (.long q2), (.int p3)]) (rest := []) (lenOf pd_1 rfl) rfl (by show 2 * 0 + _ ≤ _; exact Nat.le_of_eq rfl) (hb hby at_16) (fun _ _ => ⟨rfl, P101_0, (by decide : 0 + 0 ≤ _), (by decide : 0 + 0 ≤ _)⟩)
  dsimp only [Pt.U, Pt.locs, Pt.cells, Pt.slots] at X102 l102 y102 z102 st102 hQ102
  subst l102 y102 z102
  obtain ⟨rfl, N102q, P102_0⟩ := hQ102
  have N102 := Fr.app N101 N102q
  have cf103 : ((-7046029254386353131 : Int64) * (-1018231460777725123 : Int64)) = (1 : Int64) := by decide
  obtain ⟨fs, hr, hrun, hended, hW, hsame⟩ := X102.leave (v := some (.int (1 : Int32))) (fun h => by rw [Bd.returns] at h; cases h)
  refine ⟨_, _, pre0 _ ?_, hrun, hended, _, _, rfl, ?_, ⟨_, rfl⟩, hW, hsame.mono (by decide) (by decide)⟩
  · show Steps p.tables e below (s₁.setTop (mkF m 0 #[.val (.long q1), .second, .val (.long q2), .second, .val (.int p3), .unset, .unset, .unset, .unset, .unset, .unset, .unset, .unset, .unset, .unset, .unset, .unset, .unset, .unset] [])) _
    refine X0.ldc2J hx hown (mvT hZ (hw _ (List.mem_of_getElem? (i := 0) rfl))) (g := (mkF m 0 #[.val (.long q1), .second, .val (.long q2), .second, .val (.int p3), .unset, .unset, .unset, .unset, .unset, .unset, .unset, .unset, .unset, .unset, .unset, .unset, .unset, .unset] [])) rfl (hb hby at_0) ?_
    show Steps p.tables e below (s₁.setTop (mkF m 3 #[.val (.long q1), .second, .val (.long q2), .second, .val (.int p3), .unset, .unset, .unset, .unset, .unset, .unset, .unset, .unset, .unset, .unset, .unset, .unset, .unset, .unset] [(.long (-7046029254386353131 : Int64))])) _
    refine XS.lstore X0.here hx rfl (hb hby at_3) rfl (l' := #[.val (.long q1), .second, .val (.long q2), .second, .val (.int p3), .val (.long (-7046029254386353131 : Int64)), .second, .unset, .unset, .unset, .unset, .unset, .unset, .unset, .unset, .unset, .unset, .unset, .unset]) rfl ?_
    show Steps p.tables e below (s₁.setTop (mkF m 5 #[.val (.long q1), .second, .val (.long q2), .second, .val (.int p3), .val (.long (-7046029254386353131 : Int64)), .second, .unset, .unset, .unset, .unset, .unset, .unset, .unset, .unset, .unset, .unset, .unset, .unset] [])) _
    refine XS.lload X0.here hx rfl (hb hby at_5) rfl ?_
    show Steps p.tables e below (s₁.setTop (mkF m 7 #[.val (.long q1), .second, .val (.long q2), .second, .val (.int p3), .val (.long (-7046029254386353131 : Int64)), .second, .unset, .unset, .unset, .unset, .unset, .unset, .unset, .unset, .unset, .unset, .unset, .unset] [(.long (-7046029254386353131 : Int64))])) _
    refine st101 _ ?_
    show Steps p.tables e below (T101.setTop (mkF m 10 #[.val (.long q1), .second, .val (.long q2), .second, .val (.int p3), .val (.long (-7046029254386353131 : Int64)), .second, .unset, .unset, .unset, .unset, .unset, .unset, .unset, .unset, .unset, .unset, .unset, .unset] [(.long (-1018231460777725123 : Int64))])) _
    refine XS.lstore X101.here hx rfl (hb hby at_10) rfl (l' := #[.val (.long q1), .second, .val (.long q2), .second, .val (.int p3), .val (.long (-7046029254386353131 : Int64)), .second, .val (.long (-1018231460777725123 : Int64)), .second, .unset, .unset, .unset, .unset, .unset, .unset, .unset, .unset, .unset, .unset]) rfl ?_
    show Steps p.tables e below (T101.setTop (mkF m 12 #[.val (.long q1), .second, .val (.long q2), .second, .val (.int p3), .val (.long (-7046029254386353131 : Int64)), .second, .val (.long (-1018231460777725123 : Int64)), .second, .unset, .unset, .unset, .unset, .unset, .unset, .unset, .unset, .unset, .unset] [])) _
    refine XS.lloadN X101.here hx rfl (hb hby at_12) rfl ?_
    show Steps p.tables e below (T101.setTop (mkF m 13 #[.val (.long q1), .second, .val (.long q2), .second, .val (.int p3), .val (.long (-7046029254386353131 : Int64)), .second, .val (.long (-1018231460777725123 : Int64)), .second, .unset, .unset, .unset, .unset, .unset, .unset, .unset, .unset, .unset, .unset] [(.long q1)])) _
    refine XS.lloadN X101.here hx rfl (hb hby at_13) rfl ?_
    show Steps p.tables e below (T101.setTop (mkF m 14 #[.val (.long q1), .second, .val (.long q2), .second, .val (.int p3), .val (.long (-7046029254386353131 : Int64)), .second, .val (.long (-1018231460777725123 : Int64)), .second, .unset, .unset, .unset, .unset, .unset, .unset, .unset, .unset, .unset, .unset] [(.long q2), (.long q1)])) _
    refine XS.iload X101.here hx rfl (hb hby at_14) rfl ?_
    show Steps p.tables e below (T101.setTop (mkF m 16 #[.val (.long q1), .second, .val (.long q2), .second, .val (.int p3), .val (.long (-7046029254386353131 : Int64)), .second, .val (.long (-1018231460777725123 : Int64)), .second, .unset, .unset, .unset, .unset, .unset, .unset, .unset, .unset, .unset, .unset] [(.int p3), (.long q2), (.long q1)])) _
    refine st102 _ ?_
    show Steps p.tables e below (T102.setTop (mkF m 19 #[.val (.long q1), .second, .val (.long q2), .second, .val (.int p3), .val (.long (-7046029254386353131 : Int64)), .second, .val (.long (-1018231460777725123 : Int64)), .second, .unset, .unset, .unset, .unset, .unset, .unset, .unset, .unset, .unset, .unset] [(.long (own_x (own_m q1 q2 p3)))])) _
    refine XS.lstore X102.here hx rfl (hb hby at_19) rfl (l' := #[.val (.long q1), .second, .val (.long q2), .second, .val (.int p3), .val (.long (-7046029254386353131 : Int64)), .second, .val (.long (-1018231460777725123 : Int64)), .second, .val (.long (own_x (own_m q1 q2 p3))), .second, .unset, .unset, .unset, .unset, .unset, .unset, .unset, .unset]) rfl ?_
    show Steps p.tables e below (T102.setTop (mkF m 21 #[.val (.long q1), .second, .val (.long q2), .second, .val (.int p3), .val (.long (-7046029254386353131 : Int64)), .second, .val (.long (-1018231460777725123 : Int64)), .second, .val (.long (own_x (own_m q1 q2 p3))), .second, .unset, .unset, .unset, .unset, .unset, .unset, .unset, .unset] [])) _
    refine XS.lload X102.here hx rfl (hb hby at_21) rfl ?_
    show Steps p.tables e below (T102.setTop (mkF m 23 #[.val (.long q1), .second, .val (.long q2), .second, .val (.int p3), .val (.long (-7046029254386353131 : Int64)), .second, .val (.long (-1018231460777725123 : Int64)), .second, .val (.long (own_x (own_m q1 q2 p3))), .second, .unset, .unset, .unset, .unset, .unset, .unset, .unset, .unset] [(.long (own_x (own_m q1 q2 p3)))])) _
    refine XS.lload X102.here hx rfl (hb hby at_23) rfl ?_
    show Steps p.tables e below (T102.setTop (mkF m 25 #[.val (.long q1), .second, .val (.long q2), .second, .val (.int p3), .val (.long (-7046029254386353131 : Int64)), .second, .val (.long (-1018231460777725123 : Int64)), .second, .val (.long (own_x (own_m q1 q2 p3))), .second, .unset, .unset, .unset, .unset, .unset, .unset, .unset, .unset] [(.long (own_x (own_m q1 q2 p3))), (.long (own_x (own_m q1 q2 p3)))])) _
    refine XS.bipush X102.here hx rfl (hb hby at_25) ?_
    show Steps p.tables e below (T102.setTop (mkF m 27 #[.val (.long q1), .second, .val (.long q2), .second, .val (.int p3), .val (.long (-7046029254386353131 : Int64)), .second, .val (.long (-1018231460777725123 : Int64)), .second, .val (.long (own_x (own_m q1 q2 p3))), .second, .unset, .unset, .unset, .unset, .unset, .unset, .unset, .unset] [(.int (32 : Int32)), (.long (own_x (own_m q1 q2 p3))), (.long (own_x (own_m q1 q2 p3)))])) _
    refine XS.lushr X102.here hx rfl (hb hby at_27) rfl ?_
    show Steps p.tables e below (T102.setTop (mkF m 28 #[.val (.long q1), .second, .val (.long q2), .second, .val (.int p3), .val (.long (-7046029254386353131 : Int64)), .second, .val (.long (-1018231460777725123 : Int64)), .second, .val (.long (own_x (own_m q1 q2 p3))), .second, .unset, .unset, .unset, .unset, .unset, .unset, .unset, .unset] [(.long (((own_x (own_m q1 q2 p3)).toUInt64 >>> ((32 : Int32) &&& 0x3f).toInt64.toUInt64).toInt64)), (.long (own_x (own_m q1 q2 p3)))])) _
    refine XS.lxor X102.here hx rfl (hb hby at_28) rfl ?_
    show Steps p.tables e below (T102.setTop (mkF m 29 #[.val (.long q1), .second, .val (.long q2), .second, .val (.int p3), .val (.long (-7046029254386353131 : Int64)), .second, .val (.long (-1018231460777725123 : Int64)), .second, .val (.long (own_x (own_m q1 q2 p3))), .second, .unset, .unset, .unset, .unset, .unset, .unset, .unset, .unset] [(.long ((own_x (own_m q1 q2 p3)) ^^^ (((own_x (own_m q1 q2 p3)).toUInt64 >>> ((32 : Int32) &&& 0x3f).toInt64.toUInt64).toInt64)))])) _
    refine XS.lstore X102.here hx rfl (hb hby at_29) rfl (l' := #[.val (.long q1), .second, .val (.long q2), .second, .val (.int p3), .val (.long (-7046029254386353131 : Int64)), .second, .val (.long (-1018231460777725123 : Int64)), .second, .val (.long (own_x (own_m q1 q2 p3))), .second, .val (.long ((own_x (own_m q1 q2 p3)) ^^^ (((own_x (own_m q1 q2 p3)).toUInt64 >>> ((32 : Int32) &&& 0x3f).toInt64.toUInt64).toInt64))), .second, .unset, .unset, .unset, .unset, .unset, .unset]) rfl ?_
    show Steps p.tables e below (T102.setTop (mkF m 31 #[.val (.long q1), .second, .val (.long q2), .second, .val (.int p3), .val (.long (-7046029254386353131 : Int64)), .second, .val (.long (-1018231460777725123 : Int64)), .second, .val (.long (own_x (own_m q1 q2 p3))), .second, .val (.long (own_x (own_x (own_m q1 q2 p3)))), .second, .unset, .unset, .unset, .unset, .unset, .unset] [])) _
    refine XS.lload X102.here hx rfl (hb hby at_31) rfl ?_
    show Steps p.tables e below (T102.setTop (mkF m 33 #[.val (.long q1), .second, .val (.long q2), .second, .val (.int p3), .val (.long (-7046029254386353131 : Int64)), .second, .val (.long (-1018231460777725123 : Int64)), .second, .val (.long (own_x (own_m q1 q2 p3))), .second, .val (.long (own_x (own_x (own_m q1 q2 p3)))), .second, .unset, .unset, .unset, .unset, .unset, .unset] [(.long (own_x (own_x (own_m q1 q2 p3))))])) _
    refine XS.lload X102.here hx rfl (hb hby at_33) rfl ?_
    show Steps p.tables e below (T102.setTop (mkF m 35 #[.val (.long q1), .second, .val (.long q2), .second, .val (.int p3), .val (.long (-7046029254386353131 : Int64)), .second, .val (.long (-1018231460777725123 : Int64)), .second, .val (.long (own_x (own_m q1 q2 p3))), .second, .val (.long (own_x (own_x (own_m q1 q2 p3)))), .second, .unset, .unset, .unset, .unset, .unset, .unset] [(.long (-1018231460777725123 : Int64)), (.long (own_x (own_x (own_m q1 q2 p3))))])) _
    refine XS.lmul X102.here hx rfl (hb hby at_35) rfl ?_
    show Steps p.tables e below (T102.setTop (mkF m 36 #[.val (.long q1), .second, .val (.long q2), .second, .val (.int p3), .val (.long (-7046029254386353131 : Int64)), .second, .val (.long (-1018231460777725123 : Int64)), .second, .val (.long (own_x (own_m q1 q2 p3))), .second, .val (.long (own_x (own_x (own_m q1 q2 p3)))), .second, .unset, .unset, .unset, .unset, .unset, .unset] [(.long ((own_x (own_x (own_m q1 q2 p3))) * (-1018231460777725123 : Int64)))])) _
    refine XS.lstore X102.here hx rfl (hb hby at_36) rfl (l' := #[.val (.long q1), .second, .val (.long q2), .second, .val (.int p3), .val (.long (-7046029254386353131 : Int64)), .second, .val (.long (-1018231460777725123 : Int64)), .second, .val (.long (own_x (own_m q1 q2 p3))), .second, .val (.long (own_x (own_x (own_m q1 q2 p3)))), .second, .val (.long ((own_x (own_x (own_m q1 q2 p3))) * (-1018231460777725123 : Int64))), .second, .unset, .unset, .unset, .unset]) rfl ?_
    show Steps p.tables e below (T102.setTop (mkF m 38 #[.val (.long q1), .second, .val (.long q2), .second, .val (.int p3), .val (.long (-7046029254386353131 : Int64)), .second, .val (.long (-1018231460777725123 : Int64)), .second, .val (.long (own_x (own_m q1 q2 p3))), .second, .val (.long (own_x (own_x (own_m q1 q2 p3)))), .second, .val (.long ((own_x (own_x (own_m q1 q2 p3))) * (-1018231460777725123 : Int64))), .second, .unset, .unset, .unset, .unset] [])) _
    refine XS.lloadN X102.here hx rfl (hb hby at_38) rfl ?_
    show Steps p.tables e below (T102.setTop (mkF m 39 #[.val (.long q1), .second, .val (.long q2), .second, .val (.int p3), .val (.long (-7046029254386353131 : Int64)), .second, .val (.long (-1018231460777725123 : Int64)), .second, .val (.long (own_x (own_m q1 q2 p3))), .second, .val (.long (own_x (own_x (own_m q1 q2 p3)))), .second, .val (.long ((own_x (own_x (own_m q1 q2 p3))) * (-1018231460777725123 : Int64))), .second, .unset, .unset, .unset, .unset] [(.long q2)])) _
    refine XS.bipush X102.here hx rfl (hb hby at_39) ?_
    show Steps p.tables e below (T102.setTop (mkF m 41 #[.val (.long q1), .second, .val (.long q2), .second, .val (.int p3), .val (.long (-7046029254386353131 : Int64)), .second, .val (.long (-1018231460777725123 : Int64)), .second, .val (.long (own_x (own_m q1 q2 p3))), .second, .val (.long (own_x (own_x (own_m q1 q2 p3)))), .second, .val (.long ((own_x (own_x (own_m q1 q2 p3))) * (-1018231460777725123 : Int64))), .second, .unset, .unset, .unset, .unset] [(.int (32 : Int32)), (.long q2)])) _
    refine XS.lshl X102.here hx rfl (hb hby at_41) rfl ?_
    show Steps p.tables e below (T102.setTop (mkF m 42 #[.val (.long q1), .second, .val (.long q2), .second, .val (.int p3), .val (.long (-7046029254386353131 : Int64)), .second, .val (.long (-1018231460777725123 : Int64)), .second, .val (.long (own_x (own_m q1 q2 p3))), .second, .val (.long (own_x (own_x (own_m q1 q2 p3)))), .second, .val (.long ((own_x (own_x (own_m q1 q2 p3))) * (-1018231460777725123 : Int64))), .second, .unset, .unset, .unset, .unset] [(.long (q2 <<< ((32 : Int32) &&& 0x3f).toInt64))])) _
    refine XS.iload X102.here hx rfl (hb hby at_42) rfl ?_
    show Steps p.tables e below (T102.setTop (mkF m 44 #[.val (.long q1), .second, .val (.long q2), .second, .val (.int p3), .val (.long (-7046029254386353131 : Int64)), .second, .val (.long (-1018231460777725123 : Int64)), .second, .val (.long (own_x (own_m q1 q2 p3))), .second, .val (.long (own_x (own_x (own_m q1 q2 p3)))), .second, .val (.long ((own_x (own_x (own_m q1 q2 p3))) * (-1018231460777725123 : Int64))), .second, .unset, .unset, .unset, .unset] [(.int p3), (.long (q2 <<< ((32 : Int32) &&& 0x3f).toInt64))])) _
    refine XS.i2l X102.here hx rfl (hb hby at_44) rfl ?_
    show Steps p.tables e below (T102.setTop (mkF m 45 #[.val (.long q1), .second, .val (.long q2), .second, .val (.int p3), .val (.long (-7046029254386353131 : Int64)), .second, .val (.long (-1018231460777725123 : Int64)), .second, .val (.long (own_x (own_m q1 q2 p3))), .second, .val (.long (own_x (own_x (own_m q1 q2 p3)))), .second, .val (.long ((own_x (own_x (own_m q1 q2 p3))) * (-1018231460777725123 : Int64))), .second, .unset, .unset, .unset, .unset] [(.long (p3.toInt64)), (.long (q2 <<< ((32 : Int32) &&& 0x3f).toInt64))])) _
    refine X102.ldc2J hx hown (mvT hZ (hw _ (List.mem_of_getElem? (i := 12) rfl))) (g := (mkF m 45 #[.val (.long q1), .second, .val (.long q2), .second, .val (.int p3), .val (.long (-7046029254386353131 : Int64)), .second, .val (.long (-1018231460777725123 : Int64)), .second, .val (.long (own_x (own_m q1 q2 p3))), .second, .val (.long (own_x (own_x (own_m q1 q2 p3)))), .second, .val (.long ((own_x (own_x (own_m q1 q2 p3))) * (-1018231460777725123 : Int64))), .second, .unset, .unset, .unset, .unset] [(.long (p3.toInt64)), (.long (q2 <<< ((32 : Int32) &&& 0x3f).toInt64))])) rfl (hb hby at_45) ?_
    show Steps p.tables e below (T102.setTop (mkF m 48 #[.val (.long q1), .second, .val (.long q2), .second, .val (.int p3), .val (.long (-7046029254386353131 : Int64)), .second, .val (.long (-1018231460777725123 : Int64)), .second, .val (.long (own_x (own_m q1 q2 p3))), .second, .val (.long (own_x (own_x (own_m q1 q2 p3)))), .second, .val (.long ((own_x (own_x (own_m q1 q2 p3))) * (-1018231460777725123 : Int64))), .second, .unset, .unset, .unset, .unset] [(.long (4294967295 : Int64)), (.long (p3.toInt64)), (.long (q2 <<< ((32 : Int32) &&& 0x3f).toInt64))])) _
    refine XS.land X102.here hx rfl (hb hby at_48) rfl ?_
    show Steps p.tables e below (T102.setTop (mkF m 49 #[.val (.long q1), .second, .val (.long q2), .second, .val (.int p3), .val (.long (-7046029254386353131 : Int64)), .second, .val (.long (-1018231460777725123 : Int64)), .second, .val (.long (own_x (own_m q1 q2 p3))), .second, .val (.long (own_x (own_x (own_m q1 q2 p3)))), .second, .val (.long ((own_x (own_x (own_m q1 q2 p3))) * (-1018231460777725123 : Int64))), .second, .unset, .unset, .unset, .unset] [(.long ((p3.toInt64) &&& (4294967295 : Int64))), (.long (q2 <<< ((32 : Int32) &&& 0x3f).toInt64))])) _
    refine XS.lor X102.here hx rfl (hb hby at_49) rfl ?_
    show Steps p.tables e below (T102.setTop (mkF m 50 #[.val (.long q1), .second, .val (.long q2), .second, .val (.int p3), .val (.long (-7046029254386353131 : Int64)), .second, .val (.long (-1018231460777725123 : Int64)), .second, .val (.long (own_x (own_m q1 q2 p3))), .second, .val (.long (own_x (own_x (own_m q1 q2 p3)))), .second, .val (.long ((own_x (own_x (own_m q1 q2 p3))) * (-1018231460777725123 : Int64))), .second, .unset, .unset, .unset, .unset] [(.long ((q2 <<< ((32 : Int32) &&& 0x3f).toInt64) ||| ((p3.toInt64) &&& (4294967295 : Int64))))])) _
    refine XS.lstore X102.here hx rfl (hb hby at_50) rfl (l' := #[.val (.long q1), .second, .val (.long q2), .second, .val (.int p3), .val (.long (-7046029254386353131 : Int64)), .second, .val (.long (-1018231460777725123 : Int64)), .second, .val (.long (own_x (own_m q1 q2 p3))), .second, .val (.long (own_x (own_x (own_m q1 q2 p3)))), .second, .val (.long ((own_x (own_x (own_m q1 q2 p3))) * (-1018231460777725123 : Int64))), .second, .val (.long ((q2 <<< ((32 : Int32) &&& 0x3f).toInt64) ||| ((p3.toInt64) &&& (4294967295 : Int64)))), .second, .unset, .unset]) rfl ?_
    show Steps p.tables e below (T102.setTop (mkF m 52 #[.val (.long q1), .second, .val (.long q2), .second, .val (.int p3), .val (.long (-7046029254386353131 : Int64)), .second, .val (.long (-1018231460777725123 : Int64)), .second, .val (.long (own_x (own_m q1 q2 p3))), .second, .val (.long (own_x (own_x (own_m q1 q2 p3)))), .second, .val (.long ((own_x (own_x (own_m q1 q2 p3))) * (-1018231460777725123 : Int64))), .second, .val (.long (own_fd q2 p3)), .second, .unset, .unset] [])) _
    refine XS.lload X102.here hx rfl (hb hby at_52) rfl ?_
    show Steps p.tables e below (T102.setTop (mkF m 54 #[.val (.long q1), .second, .val (.long q2), .second, .val (.int p3), .val (.long (-7046029254386353131 : Int64)), .second, .val (.long (-1018231460777725123 : Int64)), .second, .val (.long (own_x (own_m q1 q2 p3))), .second, .val (.long (own_x (own_x (own_m q1 q2 p3)))), .second, .val (.long ((own_x (own_x (own_m q1 q2 p3))) * (-1018231460777725123 : Int64))), .second, .val (.long (own_fd q2 p3)), .second, .unset, .unset] [(.long ((own_x (own_x (own_m q1 q2 p3))) * (-1018231460777725123 : Int64)))])) _
    refine XS.lload X102.here hx rfl (hb hby at_54) rfl ?_
    show Steps p.tables e below (T102.setTop (mkF m 56 #[.val (.long q1), .second, .val (.long q2), .second, .val (.int p3), .val (.long (-7046029254386353131 : Int64)), .second, .val (.long (-1018231460777725123 : Int64)), .second, .val (.long (own_x (own_m q1 q2 p3))), .second, .val (.long (own_x (own_x (own_m q1 q2 p3)))), .second, .val (.long ((own_x (own_x (own_m q1 q2 p3))) * (-1018231460777725123 : Int64))), .second, .val (.long (own_fd q2 p3)), .second, .unset, .unset] [(.long (own_fd q2 p3)), (.long ((own_x (own_x (own_m q1 q2 p3))) * (-1018231460777725123 : Int64)))])) _
    refine XS.lxor X102.here hx rfl (hb hby at_56) rfl ?_
    show Steps p.tables e below (T102.setTop (mkF m 57 #[.val (.long q1), .second, .val (.long q2), .second, .val (.int p3), .val (.long (-7046029254386353131 : Int64)), .second, .val (.long (-1018231460777725123 : Int64)), .second, .val (.long (own_x (own_m q1 q2 p3))), .second, .val (.long (own_x (own_x (own_m q1 q2 p3)))), .second, .val (.long ((own_x (own_x (own_m q1 q2 p3))) * (-1018231460777725123 : Int64))), .second, .val (.long (own_fd q2 p3)), .second, .unset, .unset] [(.long (((own_x (own_x (own_m q1 q2 p3))) * (-1018231460777725123 : Int64)) ^^^ (own_fd q2 p3)))])) _
    refine XS.lstore X102.here hx rfl (hb hby at_57) rfl (l' := #[.val (.long q1), .second, .val (.long q2), .second, .val (.int p3), .val (.long (-7046029254386353131 : Int64)), .second, .val (.long (-1018231460777725123 : Int64)), .second, .val (.long (own_x (own_m q1 q2 p3))), .second, .val (.long (own_x (own_x (own_m q1 q2 p3)))), .second, .val (.long ((own_x (own_x (own_m q1 q2 p3))) * (-1018231460777725123 : Int64))), .second, .val (.long (own_fd q2 p3)), .second, .val (.long (((own_x (own_x (own_m q1 q2 p3))) * (-1018231460777725123 : Int64)) ^^^ (own_fd q2 p3))), .second]) rfl ?_
    show Steps p.tables e below (T102.setTop (mkF m 59 #[.val (.long q1), .second, .val (.long q2), .second, .val (.int p3), .val (.long (-7046029254386353131 : Int64)), .second, .val (.long (-1018231460777725123 : Int64)), .second, .val (.long (own_x (own_m q1 q2 p3))), .second, .val (.long (own_x (own_x (own_m q1 q2 p3)))), .second, .val (.long ((own_x (own_x (own_m q1 q2 p3))) * (-1018231460777725123 : Int64))), .second, .val (.long (own_fd q2 p3)), .second, .val (.long (((own_x (own_x (own_m q1 q2 p3))) * (-1018231460777725123 : Int64)) ^^^ (own_fd q2 p3))), .second] [])) _
    refine XS.lload X102.here hx rfl (hb hby at_59) rfl ?_
    show Steps p.tables e below (T102.setTop (mkF m 61 #[.val (.long q1), .second, .val (.long q2), .second, .val (.int p3), .val (.long (-7046029254386353131 : Int64)), .second, .val (.long (-1018231460777725123 : Int64)), .second, .val (.long (own_x (own_m q1 q2 p3))), .second, .val (.long (own_x (own_x (own_m q1 q2 p3)))), .second, .val (.long ((own_x (own_x (own_m q1 q2 p3))) * (-1018231460777725123 : Int64))), .second, .val (.long (own_fd q2 p3)), .second, .val (.long (((own_x (own_x (own_m q1 q2 p3))) * (-1018231460777725123 : Int64)) ^^^ (own_fd q2 p3))), .second] [(.long (-7046029254386353131 : Int64))])) _
    refine XS.lload X102.here hx rfl (hb hby at_61) rfl ?_
    show Steps p.tables e below (T102.setTop (mkF m 63 #[.val (.long q1), .second, .val (.long q2), .second, .val (.int p3), .val (.long (-7046029254386353131 : Int64)), .second, .val (.long (-1018231460777725123 : Int64)), .second, .val (.long (own_x (own_m q1 q2 p3))), .second, .val (.long (own_x (own_x (own_m q1 q2 p3)))), .second, .val (.long ((own_x (own_x (own_m q1 q2 p3))) * (-1018231460777725123 : Int64))), .second, .val (.long (own_fd q2 p3)), .second, .val (.long (((own_x (own_x (own_m q1 q2 p3))) * (-1018231460777725123 : Int64)) ^^^ (own_fd q2 p3))), .second] [(.long (-1018231460777725123 : Int64)), (.long (-7046029254386353131 : Int64))])) _
    refine XS.lmul X102.here hx rfl (hb hby at_63) rfl ?_
    show Steps p.tables e below (T102.setTop (mkF m 64 #[.val (.long q1), .second, .val (.long q2), .second, .val (.int p3), .val (.long (-7046029254386353131 : Int64)), .second, .val (.long (-1018231460777725123 : Int64)), .second, .val (.long (own_x (own_m q1 q2 p3))), .second, .val (.long (own_x (own_x (own_m q1 q2 p3)))), .second, .val (.long ((own_x (own_x (own_m q1 q2 p3))) * (-1018231460777725123 : Int64))), .second, .val (.long (own_fd q2 p3)), .second, .val (.long (((own_x (own_x (own_m q1 q2 p3))) * (-1018231460777725123 : Int64)) ^^^ (own_fd q2 p3))), .second] [(.long ((-7046029254386353131 : Int64) * (-1018231460777725123 : Int64)))])) _
    rw [cf103]
    show Steps p.tables e below (T102.setTop (mkF m 64 #[.val (.long q1), .second, .val (.long q2), .second, .val (.int p3), .val (.long (-7046029254386353131 : Int64)), .second, .val (.long (-1018231460777725123 : Int64)), .second, .val (.long (own_x (own_m q1 q2 p3))), .second, .val (.long (own_x (own_x (own_m q1 q2 p3)))), .second, .val (.long ((own_x (own_x (own_m q1 q2 p3))) * (-1018231460777725123 : Int64))), .second, .val (.long (own_fd q2 p3)), .second, .val (.long (((own_x (own_x (own_m q1 q2 p3))) * (-1018231460777725123 : Int64)) ^^^ (own_fd q2 p3))), .second] [(.long (1 : Int64))])) _
    refine XS.lconst X102.here hx rfl (hb hby at_64) ?_
    show Steps p.tables e below (T102.setTop (mkF m 65 #[.val (.long q1), .second, .val (.long q2), .second, .val (.int p3), .val (.long (-7046029254386353131 : Int64)), .second, .val (.long (-1018231460777725123 : Int64)), .second, .val (.long (own_x (own_m q1 q2 p3))), .second, .val (.long (own_x (own_x (own_m q1 q2 p3)))), .second, .val (.long ((own_x (own_x (own_m q1 q2 p3))) * (-1018231460777725123 : Int64))), .second, .val (.long (own_fd q2 p3)), .second, .val (.long (((own_x (own_x (own_m q1 q2 p3))) * (-1018231460777725123 : Int64)) ^^^ (own_fd q2 p3))), .second] [(.long (1 : Int64)), (.long (1 : Int64))])) _
    refine XS.lcmp X102.here hx rfl (hb hby at_65) rfl ?_
    show Steps p.tables e below (T102.setTop (mkF m 66 #[.val (.long q1), .second, .val (.long q2), .second, .val (.int p3), .val (.long (-7046029254386353131 : Int64)), .second, .val (.long (-1018231460777725123 : Int64)), .second, .val (.long (own_x (own_m q1 q2 p3))), .second, .val (.long (own_x (own_x (own_m q1 q2 p3)))), .second, .val (.long ((own_x (own_x (own_m q1 q2 p3))) * (-1018231460777725123 : Int64))), .second, .val (.long (own_fd q2 p3)), .second, .val (.long (((own_x (own_x (own_m q1 q2 p3))) * (-1018231460777725123 : Int64)) ^^^ (own_fd q2 p3))), .second] [(.int (lcmpW (1 : Int64) (1 : Int64)))])) _
    refine XS.ifNo X102.here hx rfl (hb hby at_66) rfl ((if0 _ _).trans (teq ((lw_eq _ _).mpr (by decide : (1 : Int64) = (1 : Int64)))).2) ?_
    show Steps p.tables e below (T102.setTop (mkF m 69 #[.val (.long q1), .second, .val (.long q2), .second, .val (.int p3), .val (.long (-7046029254386353131 : Int64)), .second, .val (.long (-1018231460777725123 : Int64)), .second, .val (.long (own_x (own_m q1 q2 p3))), .second, .val (.long (own_x (own_x (own_m q1 q2 p3)))), .second, .val (.long ((own_x (own_x (own_m q1 q2 p3))) * (-1018231460777725123 : Int64))), .second, .val (.long (own_fd q2 p3)), .second, .val (.long (((own_x (own_x (own_m q1 q2 p3))) * (-1018231460777725123 : Int64)) ^^^ (own_fd q2 p3))), .second] [])) _
    refine XS.lload X102.here hx rfl (hb hby at_69) rfl ?_
    show Steps p.tables e below (T102.setTop (mkF m 71 #[.val (.long q1), .second, .val (.long q2), .second, .val (.int p3), .val (.long (-7046029254386353131 : Int64)), .second, .val (.long (-1018231460777725123 : Int64)), .second, .val (.long (own_x (own_m q1 q2 p3))), .second, .val (.long (own_x (own_x (own_m q1 q2 p3)))), .second, .val (.long ((own_x (own_x (own_m q1 q2 p3))) * (-1018231460777725123 : Int64))), .second, .val (.long (own_fd q2 p3)), .second, .val (.long (((own_x (own_x (own_m q1 q2 p3))) * (-1018231460777725123 : Int64)) ^^^ (own_fd q2 p3))), .second] [(.long (((own_x (own_x (own_m q1 q2 p3))) * (-1018231460777725123 : Int64)) ^^^ (own_fd q2 p3)))])) _
    refine XS.lloadN X102.here hx rfl (hb hby at_71) rfl ?_
    show Steps p.tables e below (T102.setTop (mkF m 72 #[.val (.long q1), .second, .val (.long q2), .second, .val (.int p3), .val (.long (-7046029254386353131 : Int64)), .second, .val (.long (-1018231460777725123 : Int64)), .second, .val (.long (own_x (own_m q1 q2 p3))), .second, .val (.long (own_x (own_x (own_m q1 q2 p3)))), .second, .val (.long ((own_x (own_x (own_m q1 q2 p3))) * (-1018231460777725123 : Int64))), .second, .val (.long (own_fd q2 p3)), .second, .val (.long (((own_x (own_x (own_m q1 q2 p3))) * (-1018231460777725123 : Int64)) ^^^ (own_fd q2 p3))), .second] [(.long q1), (.long (((own_x (own_x (own_m q1 q2 p3))) * (-1018231460777725123 : Int64)) ^^^ (own_fd q2 p3)))])) _
    refine XS.lcmp X102.here hx rfl (hb hby at_72) rfl ?_
    show Steps p.tables e below (T102.setTop (mkF m 73 #[.val (.long q1), .second, .val (.long q2), .second, .val (.int p3), .val (.long (-7046029254386353131 : Int64)), .second, .val (.long (-1018231460777725123 : Int64)), .second, .val (.long (own_x (own_m q1 q2 p3))), .second, .val (.long (own_x (own_x (own_m q1 q2 p3)))), .second, .val (.long ((own_x (own_x (own_m q1 q2 p3))) * (-1018231460777725123 : Int64))), .second, .val (.long (own_fd q2 p3)), .second, .val (.long (((own_x (own_x (own_m q1 q2 p3))) * (-1018231460777725123 : Int64)) ^^^ (own_fd q2 p3))), .second] [(.int (lcmpW (((own_x (own_x (own_m q1 q2 p3))) * (-1018231460777725123 : Int64)) ^^^ (own_fd q2 p3)) q1))])) _
    refine XS.ifNo X102.here hx rfl (hb hby at_73) rfl ((if0 _ _).trans (teq ((lw_eq _ _).mpr (own_back q1 q2 p3 : (((own_x (own_x (own_m q1 q2 p3))) * (-1018231460777725123 : Int64)) ^^^ (own_fd q2 p3)) = q1))).2) ?_
    show Steps p.tables e below (T102.setTop (mkF m 76 #[.val (.long q1), .second, .val (.long q2), .second, .val (.int p3), .val (.long (-7046029254386353131 : Int64)), .second, .val (.long (-1018231460777725123 : Int64)), .second, .val (.long (own_x (own_m q1 q2 p3))), .second, .val (.long (own_x (own_x (own_m q1 q2 p3)))), .second, .val (.long ((own_x (own_x (own_m q1 q2 p3))) * (-1018231460777725123 : Int64))), .second, .val (.long (own_fd q2 p3)), .second, .val (.long (((own_x (own_x (own_m q1 q2 p3))) * (-1018231460777725123 : Int64)) ^^^ (own_fd q2 p3))), .second] [])) _
    refine XS.iconst X102.here hx rfl (hb hby at_76) ?_
    show Steps p.tables e below (T102.setTop (mkF m 77 #[.val (.long q1), .second, .val (.long q2), .second, .val (.int p3), .val (.long (-7046029254386353131 : Int64)), .second, .val (.long (-1018231460777725123 : Int64)), .second, .val (.long (own_x (own_m q1 q2 p3))), .second, .val (.long (own_x (own_x (own_m q1 q2 p3)))), .second, .val (.long ((own_x (own_x (own_m q1 q2 p3))) * (-1018231460777725123 : Int64))), .second, .val (.long (own_fd q2 p3)), .second, .val (.long (((own_x (own_x (own_m q1 q2 p3))) * (-1018231460777725123 : Int64)) ^^^ (own_fd q2 p3))), .second] [(.int (1 : Int32))])) _
    refine XS.goto X102.here hx rfl (pc0 := 77) (pc' := 81) rfl (hb hby at_77) (by decide) (by decide) ?_
    show Steps p.tables e below (T102.setTop (mkF m 81 #[.val (.long q1), .second, .val (.long q2), .second, .val (.int p3), .val (.long (-7046029254386353131 : Int64)), .second, .val (.long (-1018231460777725123 : Int64)), .second, .val (.long (own_x (own_m q1 q2 p3))), .second, .val (.long (own_x (own_x (own_m q1 q2 p3)))), .second, .val (.long ((own_x (own_x (own_m q1 q2 p3))) * (-1018231460777725123 : Int64))), .second, .val (.long (own_fd q2 p3)), .second, .val (.long (((own_x (own_x (own_m q1 q2 p3))) * (-1018231460777725123 : Int64)) ^^^ (own_fd q2 p3))), .second] [(.int (1 : Int32))])) _
    exact retN X102 hx (t := .boolean) Bd.returns (by simp) (hb hby at_81) hr
  · show Q0 Z q1 q2 p3 h0 n0 _ T102.heap _
    rw [P102_0]
    exact ⟨rfl, N102⟩
set_option maxRecDepth 65536 in
set_option maxHeartbeats 40000000 in
theorem comes_1 {Post : Tables → Env → Array Value → State → Outcome → State → Prop} (hpost : ∀ tb e args s v u, (limb_1_1.after args s (.returned v) u = true ∧ limb_1_2.after args s (.returned v) u = true ∧ True) → FrameEnd s (.returned v) u (Jvm.fieldLocs frame_1_writes args s ++ Jvm.arrayLocs frame_1_arrays args s ++ Jvm.staticLocs frame_1_statics s) 0 0 → Post tb e args s (.returned v) u) :
    ArmFor flags0 classFile x code maxLocals ret World_1 tables_1 room_1 Calls_1 rest_1 Pre_1 Post := by
  intro l hfl _ _ p e ha hc hk s m args below hf hA hF happ hP
  obtain ⟨hcalls, hrest, hpre⟩ := hP
  obtain ⟨-, -, -, hnamed, -, -, -, hat⟩ := (Spec.applies_iff hf).mp happ
  obtain ⟨hg, hn⟩ := and_e (Cond.before_iff.mp (show (Jvm.Cond.and given_1 narrow_1).before args s = true from hpre))
  obtain ⟨gg1, gg2⟩ := and_e hg
  obtain ⟨gg3, gg4⟩ := and_e gg2
  obtain ⟨gg5, gg6⟩ := and_e gg4
  obtain ⟨w0, w1, w2, rfl⟩ : ∃ w0 w1 w2 : Value, args = #[w0, w1, w2] := by
    have hs : args.size = 3 := by simpa [Cond.value, given_1] using gg1
    obtain ⟨L⟩ := args
    match L, hs with
    | [w0, w1, w2], _ => exact ⟨w0, w1, w2, rfl⟩
  have hw := fun d (hd : d ∈ tables_1) => atoms_spec (ws := Jvm.Cond.code x code maxLocals ret :: tables_1) hat d (List.mem_cons_of_mem _ hd)
  have hfit : Fit s := fun {y c} hc i hi => by
    obtain ⟨ha, rfl⟩ := Array.getElem?_eq_some_iff.mp hc
    have q := List.all_eq_true.mp ((Array.all_eq_true_iff_forall_mem.mp hF) _ (Array.getElem_mem ha)) i (List.mem_range.mpr hi)
    simpa [Array.getElem?_eq_getElem hi] using q
  obtain ⟨i0, ei0⟩ := isL_v gg3
  obtain rfl : w0 = (.long i0) := Option.some.inj ei0
  obtain ⟨i1, ei1⟩ := isL_v gg5
  obtain rfl : w1 = (.long i1) := Option.some.inj ei1
  obtain ⟨i2, ei2⟩ := is_v gg6
  obtain rfl : w2 = (.int i2) := Option.some.inj ei2
  obtain ⟨n, o, h1, h2, h3, _, L, rfl, ⟨rfl, N⟩, hq⟩ := rm0 l s _ hw tables_1 i0 i1 i2  s.heap s.heap.size (Nat.le_refl _)  p e ha hc hk s m _ below hf ((Spec.applies_iff_loose hf).mp happ).1 ⟨rfl, State.Warmed39.refl s, rfl⟩ trivial
  refine ⟨n, _, h1, h2, h3, hpost _ _ _ _ _ _ ⟨Cond.after_iff.mpr rfl, Cond.after_iff.mpr (eq_i res_at (Term.int_eval (1)) rfl), trivial⟩ ⟨hq.1, hq.2.1, (hq.2.2.sift fun y hy => Or.inr (N y hy)).mono (by decide) (by decide)⟩⟩
theorem main_1_1 : Claimed_1_1 := comes_1 fun _ _ _ _ _ _ h hF => ⟨h.1, hF⟩
theorem main_1_2 : Claimed_1_2 := comes_1 fun _ _ _ _ _ _ h hF => ⟨h.2.1, hF⟩
end Jvm.Pilot.@@N@@
namespace Jvm.Pilot.@@N@@
open Jvm Jvm.ClassFile Sem Op Lib Jvm.Free Jvm.Stand Jvm.Pilot.@@N@@.Jvm.D
/-! MADE BY PROGRAM (witnessworld.py) out of the Statement's table words and the real class files: 9 classes; the members and pool entries that the words name. The judged class is class 1, her method 2. -/
namespace start1
open Jvm.ClassFile
def u (s : String) : CpInfo := .utf8 (stringToUtf16 s)
/-- a pool by its gaps: so many unusable entries, then the entry; so many at the end -/
def gap : Nat → List CpInfo → List CpInfo
  | 0, r => r
  | n + 1, r => .unusable :: gap n r
def poolList (es : List (Nat × CpInfo)) (last : Nat) : List CpInfo := es.foldr (fun e r => gap e.1 (e.2 :: r)) (gap last [])
def pool (es : List (Nat × CpInfo)) (last : Nat) : Array CpInfo := ⟨poolList es last⟩
def fileOf (pool : Array CpInfo) (this : Nat) (attrs : Array Attribute := #[]) (ms : Array MethodInfo := #[]) (fl : Nat := 33) (sup : Nat := 0) (ifs : Array Nat := #[]) (fds : Array FieldInfo := #[]) : ClassFile where
  minorVersion := 0
  majorVersion := 65
  constantPool := pool
  accessFlags := fl
  thisClass := this
  superClass := sup
  interfaces := ifs
  fields := fds
  methods := ms
  attributes := attrs
def plain (name : String) (sup : Option ClassId) : Class where
  name := name
  kind := .ordinary
  loader := none
  accessFlags := 33
  super := sup
  interfaces := #[]
  cf := none
  fields := #[]
  methods := #[]
  instanceTypes := #[]
  staticTypes := #[]
  resolved := #[]
  callSites := []
  init := .initialized
  statics := none
  mirror := none

def pool0 : Array CpInfo := pool [(5, u "<init>"), (0, u "()V"), (1, .class_ 10), (1, u "java/lang/Object")] 113

def k0m0 : Method := { name := "<init>", desc := "()V", sig := { parameters := [], returnType := none }, accessFlags := 1, code := none }
/-- java/lang/Object -/
def k0 : Class := { plain "java/lang/Object" none with
  accessFlags := 33
  interfaces := #[]
  cf := some (fileOf pool0 8 #[] #[{ accessFlags := 1, nameIndex := 5, descriptorIndex := 6, attributes := #[] }] 33 0 #[] #[])
  fields := #[]
  methods := #[k0m0]
  instanceTypes := #[]
  staticTypes := #[]
  resolved := Array.replicate 124 none
  statics := none }

def pool1 : Array CpInfo := pool [(2, .class_ 4), (1, u "java/lang/Object"), (0, u "<init>"), (0, u "()V"), (0, .long 2), (1, .long 11400714819323198485), (1, .methodref 12 13), (0, .class_ 14), (0, .nameAndType 15 16), (0, u "com/example/redoubt/redoubt/storage/LogDigestsFoldPinLaw"), (0, u "inverse"), (0, u "(J)J"), (0, .methodref 18 19), (0, .class_ 20), (0, .nameAndType 21 22), (0, u "com/example/redoubt/redoubt/storage/LogDigests"), (0, u "fold"), (0, u "(JJI)J"), (0, .long 4294967295), (3, u "law"), (0, u "(JJI)Z")] 3

def k1m0 : Method := { name := "<init>", desc := "()V", sig := { parameters := [], returnType := none }, accessFlags := 2, code := none }
def k1c1 : Code := { maxStack := 8, maxLocals := 4, code := method_2_code, exceptionTable := #[], attributes := #[] }
def k1m1 : Method := { name := "inverse", desc := "(J)J", sig := { parameters := [.long], returnType := some .long }, accessFlags := 10, code := some k1c1 }
def k1c2 : Code := { maxStack := 6, maxLocals := 19, code := code, exceptionTable := #[], attributes := #[] }
def k1m2 : Method := { name := "law", desc := "(JJI)Z", sig := { parameters := [.long, .long, .int], returnType := some .boolean }, accessFlags := 9, code := some k1c2 }
/-- com/example/redoubt/redoubt/storage/LogDigestsFoldPinLaw -/
def k1 : Class := { plain "com/example/redoubt/redoubt/storage/LogDigestsFoldPinLaw" (some 0) with
  accessFlags := 49
  interfaces := #[]
  cf := some (fileOf pool1 12 #[] #[{ accessFlags := 2, nameIndex := 5, descriptorIndex := 6, attributes := #[] }, { accessFlags := 10, nameIndex := 15, descriptorIndex := 16, attributes := #[] }, { accessFlags := 9, nameIndex := 27, descriptorIndex := 28, attributes := #[] }] 49 2 #[] #[])
  fields := #[]
  methods := #[k1m0, k1m1, k1m2]
  instanceTypes := #[]
  staticTypes := #[]
  resolved := Array.replicate 32 none
  statics := none }

def pool2 : Array CpInfo := pool [(2, .class_ 4), (1, u "java/lang/Object"), (6, .class_ 13), (1, u "com/example/redoubt/redoubt/storage/LogDigests"), (0, u "kept"), (0, u "Ljava/util/NavigableMap;"), (2, u "lasting"), (2, u "floor"), (0, u "J"), (33, .long 4294967295), (1, .long 11400714819323198485), (7, u "lastDigest"), (2, u "lastLasting"), (2, u "fold"), (0, u "(JJI)J"), (15, u "lastEnd"), (38, u "SPACING"), (1, u "FIRST_SPACING")] 22

def k2c0 : Code := { maxStack := 8, maxLocals := 7, code := prog_96_method_3_code, exceptionTable := #[], attributes := #[] }
def k2m0 : Method := { name := "fold", desc := "(JJI)J", sig := { parameters := [.long, .long, .int], returnType := some .long }, accessFlags := 8, code := some k2c0 }
/-- com/example/redoubt/redoubt/storage/LogDigests -/
def k2 : Class := { plain "com/example/redoubt/redoubt/storage/LogDigests" (some 0) with
  accessFlags := 48
  interfaces := #[]
  cf := some (fileOf pool2 11 #[] #[{ accessFlags := 8, nameIndex := 72, descriptorIndex := 73, attributes := #[] }] 48 2 #[] #[{ accessFlags := 24, nameIndex := 128, descriptorIndex := 22, attributes := #[] }, { accessFlags := 24, nameIndex := 130, descriptorIndex := 22, attributes := #[] }, { accessFlags := 18, nameIndex := 14, descriptorIndex := 15, attributes := #[] }, { accessFlags := 18, nameIndex := 18, descriptorIndex := 15, attributes := #[] }, { accessFlags := 18, nameIndex := 21, descriptorIndex := 22, attributes := #[] }, { accessFlags := 2, nameIndex := 89, descriptorIndex := 22, attributes := #[] }, { accessFlags := 2, nameIndex := 66, descriptorIndex := 22, attributes := #[] }, { accessFlags := 2, nameIndex := 69, descriptorIndex := 22, attributes := #[] }])
  fields := #[{ name := "SPACING", type := .long, accessFlags := 24, slot := 0, constantValue := 0 }, { name := "FIRST_SPACING", type := .long, accessFlags := 24, slot := 1, constantValue := 0 }, { name := "kept", type := (.object "java/util/NavigableMap"), accessFlags := 18, slot := 0, constantValue := 0 }, { name := "lasting", type := (.object "java/util/NavigableMap"), accessFlags := 18, slot := 1, constantValue := 0 }, { name := "floor", type := .long, accessFlags := 18, slot := 2, constantValue := 0 }, { name := "lastEnd", type := .long, accessFlags := 2, slot := 3, constantValue := 0 }, { name := "lastDigest", type := .long, accessFlags := 2, slot := 4, constantValue := 0 }, { name := "lastLasting", type := .long, accessFlags := 2, slot := 5, constantValue := 0 }]
  methods := #[k2m0]
  instanceTypes := #[(.object "java/util/NavigableMap"), (.object "java/util/NavigableMap"), .long, .long, .long, .long]
  staticTypes := #[.long, .long]
  resolved := Array.replicate 153 none
  statics := none }

def pool3 : Array CpInfo := pool [(1, u "java/lang/Cloneable"), (0, .class_ 1), (0, u "java/lang/Object"), (0, .class_ 3)] 3

/-- java/lang/Cloneable -/
def k3 : Class := { plain "java/lang/Cloneable" (some 0) with
  accessFlags := 1537
  interfaces := #[]
  cf := some (fileOf pool3 2 #[] #[] 1537 4 #[] #[])
  fields := #[]
  methods := #[]
  instanceTypes := #[]
  staticTypes := #[]
  resolved := Array.replicate 8 none
  statics := none }

def pool4 : Array CpInfo := pool [(1, u "java/io/Serializable"), (0, .class_ 1), (0, u "java/lang/Object"), (0, .class_ 3)] 3

/-- java/io/Serializable -/
def k4 : Class := { plain "java/io/Serializable" (some 0) with
  accessFlags := 1537
  interfaces := #[]
  cf := some (fileOf pool4 2 #[] #[] 1537 4 #[] #[])
  fields := #[]
  methods := #[]
  instanceTypes := #[]
  staticTypes := #[]
  resolved := Array.replicate 8 none
  statics := none }

/-- the primitive byte -/
def k5 : Class := { plain "byte" none with kind := .primitive 'B', accessFlags := 0x411 }
/-- [B -/
def k6 : Class := { plain "[B" (some 0) with kind := .array 5 .byte, interfaces := #[3, 4], accessFlags := 1041 }

/-- the primitive int -/
def k7 : Class := { plain "int" none with kind := .primitive 'I', accessFlags := 0x411 }
/-- [I -/
def k8 : Class := { plain "[I" (some 0) with kind := .array 7 .int, interfaces := #[3, 4], accessFlags := 1041 }

def heap : Heap := #[]
def classes : Array Class := #[k0, k1, k2, k3, k4, k5, k6, k7, k8]
def interned : List (Array UInt16 × Addr) := []
def slotsUsed : Nat := 0
def theMethod : MethodId := ⟨1, 2⟩
def args0 : Array Value := #[.long 5, .long 7, .int 3]
def aboutOver (below : List Frame) : State where
  vm := { classes := classes, interned := interned.toArray }
  heap := heap
  slotsUsed := slotsUsed
  threads := #[{ frames := .invoking theMethod args0 :: below }]
def below0 : List Frame := [.native { method := ⟨0, 0⟩, args := #[] }]
def about1 : State := aboutOver below0
def p0 : Program := .bare "" "" ""
def e0 : Env := launch0.env 0 0 0
theorem w_frames : about1.frames = Frame.invoking theMethod args0 :: below0 := rfl
set_option maxRecDepth 65536 in
theorem w_args : argsFit about1.vm theMethod args0 = true := by decide +kernel
set_option maxRecDepth 65536 in
theorem w_heap : heapFits about1 = true := by decide +kernel
set_option maxRecDepth 65536 in
theorem w_runnable : about1.curStatus? = some .runnable := by decide +kernel
set_option maxRecDepth 65536 in
theorem w_alone : about1.alone = true := by decide +kernel
set_option maxRecDepth 65536 in
theorem w_named : about1.methodNamed? x = some theMethod := by decide +kernel
set_option maxRecDepth 65536 in
theorem w_hears : about1.hears theMethod below0 = true := by decide +kernel
set_option maxRecDepth 65536 in
theorem w_ripe : about1.ripe theMethod args0 below0 = true := by decide +kernel
theorem w_running : about1.status = .running := rfl
set_option maxRecDepth 65536 in
theorem w_room : about1.hasRoom e0.platform room_1 = true :=
  launch0.hasRoom_least _ room_1 (by decide +kernel) (by decide +kernel) (by decide +kernel) (by decide +kernel) (by decide +kernel) (by decide +kernel)
theorem allAtoms_all (ts : List Jvm.Cond) (a : Array Jvm.Value) (st : Jvm.State) : (allAtoms ts).before a st = ts.all (fun c => c.before a st) := by
  induction ts with
  | nil => rfl
  | cons c t ih =>
    show (Jvm.Cond.and c (allAtoms t)).before a st = _
    rw [Jvm.Cond.before_and, ih, List.all_cons]
def words1 : List Jvm.Cond := Jvm.Cond.code x code maxLocals ret :: tables_1
/-- a 'code' word, met by the world's own term for the bytes: nothing is compared byte by byte -/
theorem code_word {y : MethodName} {bytes : ByteArray} {mx : Nat} {rt : Option FieldType} {a : Array Value} {s : State} {m : MethodId} {meth : Method} {c : Code} (h1 : s.methodNamed? y = some m) (h2 : s.vm.method? m = some meth) (h3 : meth.code = some c) (h4 : c.code = bytes)
    (h5 : (c.maxLocals == mx && c.exceptionTable.isEmpty && decide (c.maxStack ≤ mostOperands) && decide (meth.sig.returnType = rt) && !meth.locks && decide (parseMethodDescriptor y.desc = some meth.sig)) = true) : (Jvm.Cond.code y bytes mx rt).before a s = true := by
  simp only [Bool.and_eq_true, beq_iff_eq, Bool.not_eq_true', decide_eq_true_eq] at h5
  obtain ⟨⟨⟨⟨⟨g1, g2⟩, g3⟩, g4⟩, g5⟩, g6⟩ := h5
  simp [Cond.before, Cond.holds, Cond.value, h1, h2, h3, h4, g1, g2, g3, g4, g5, g6]
def isCode : Jvm.Cond → Bool
  | .code _ _ _ _ => true
  | _ => false
theorem all_split {L : List Jvm.Cond} {P : Jvm.Cond → Bool} (h1 : L.all (fun c => isCode c || P c) = true) (h2 : ∀ c ∈ L.filter isCode, P c = true) : L.all P = true := by
  refine List.all_eq_true.mpr fun c hc => ?_
  have h := List.all_eq_true.mp h1 c hc
  rcases Bool.eq_false_or_eq_true (isCode c) with hi | hi
  · exact h2 c (List.mem_filter.mpr ⟨hc, hi⟩)
  · simpa [hi] using h
set_option maxRecDepth 65536 in
theorem w_c0 : (Jvm.Cond.code x code maxLocals ret).before args0 about1 = true := code_word (m := ⟨1, 2⟩) (meth := k1m2) (c := k1c2) (by decide +kernel) rfl rfl rfl (by decide +kernel)
set_option maxRecDepth 65536 in
theorem w_c1 : (Jvm.Cond.code ({ cls := "com/example/redoubt/redoubt/storage/LogDigestsFoldPinLaw", name := "inverse", desc := "(J)J" } : Jvm.MethodName) method_2_code (4 : Nat) (Option.some Jvm.ClassFile.FieldType.long)).before args0 about1 = true := code_word (m := ⟨1, 1⟩) (meth := k1m1) (c := k1c1) (by decide +kernel) rfl rfl rfl (by decide +kernel)
set_option maxRecDepth 65536 in
theorem w_c2 : (Jvm.Cond.code ({ cls := "com/example/redoubt/redoubt/storage/LogDigests", name := "fold", desc := "(JJI)J" } : Jvm.MethodName) prog_96_method_3_code (7 : Nat) (Option.some Jvm.ClassFile.FieldType.long)).before args0 about1 = true := code_word (m := ⟨2, 0⟩) (meth := k2m0) (c := k2c0) (by decide +kernel) rfl rfl rfl (by decide +kernel)
def codes1 : List Jvm.Cond := [Jvm.Cond.code x code maxLocals ret, Jvm.Cond.code ({ cls := "com/example/redoubt/redoubt/storage/LogDigestsFoldPinLaw", name := "inverse", desc := "(J)J" } : Jvm.MethodName) method_2_code (4 : Nat) (Option.some Jvm.ClassFile.FieldType.long), Jvm.Cond.code ({ cls := "com/example/redoubt/redoubt/storage/LogDigests", name := "fold", desc := "(JJI)J" } : Jvm.MethodName) prog_96_method_3_code (7 : Nat) (Option.some Jvm.ClassFile.FieldType.long)]
set_option maxRecDepth 65536 in
theorem codes_eq : words1.filter isCode = codes1 := rfl
theorem w_codes : ∀ c ∈ words1.filter isCode, c.before args0 about1 = true := by
  rw [codes_eq]
  intro c hc
  simp only [codes1, List.mem_cons, List.not_mem_nil, or_false] at hc
  rcases hc with rfl | rfl | rfl
  · exact w_c0
  · exact w_c1
  · exact w_c2
set_option maxRecDepth 65536 in
theorem w_t1 : words1.all (fun c => isCode c || c.before args0 about1) = true := by decide +kernel
theorem w_tables : (allAtoms (Jvm.Cond.code x code maxLocals ret :: tables_1)).before args0 about1 = true := by
  rw [allAtoms_all]
  show words1.all (fun c => c.before args0 about1) = true
  refine all_split ?_ w_codes
  rw [w_t1]
set_option maxRecDepth 65536 in
theorem w_case : (Jvm.Cond.and given_1 narrow_1).before args0 about1 = true := by decide +kernel
theorem w_applies : (headSpec (Jvm.Cond.code x code maxLocals ret :: tables_1) room_1).applies x e0.platform about1 = true :=
  (Spec.applies_iff w_frames).mpr ⟨w_running, w_runnable, w_alone, w_named, w_hears, w_ripe, w_room, w_tables⟩
theorem atStart : AtStart classFile x code maxLocals ret World_1 tables_1 room_1 Calls_1 rest_1 Pre_1 launch0 p0 e0 about1 theMethod args0 below0 :=
  ⟨lists_1, trivial, launch0.admits_env _ _ _, launch0.least_env, fairChoices_fair.cas, fairChoices_fair.clock, w_frames, w_args, w_heap, w_applies, trivial, trivial, w_case⟩
end start1
theorem witness_1 : WitnessClaimed_1 := ⟨start1.p0, start1.e0, start1.about1, start1.theMethod, start1.args0, start1.below0, start1.atStart⟩
end Jvm.Pilot.@@N@@
