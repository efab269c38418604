import JvmDerived
import JvmDerived.Pilot.@@N@@Statement
import JvmDerived.Pilot.@@N@@Code
set_option linter.unusedVariables false
set_option linter.unusedSimpArgs false
namespace Jvm.RoadKit
open Sem ClassFile Op Lib Jvm.Stand Jvm.Free Jvm.LawKit
section New
variable {p : Program} {l : Launch} {e : Env} {R : Room} {s : State} {m : MethodId} {args : Array Value} {below : List Frame} {meth : Method} {c : Code} {T : State} {locs : List Loc} {cells slots : Nat}
theorem retI (X : Stand p l e R s m args below meth c T locs cells slots) (hx : p.tables.exec = Jvm.exec) {pc : Nat} {Ls : Array Slot} {z : Int32} {rest : List Value} (hret : meth.sig.returnType = some .int) (hd : decode c.code pc = .ok (.ireturn, 1)) {fs : List Frame}
    (hl : ∀ (f : JFrame) (acts : List Action), f.method = m → f.locked = none → f.entered = [] → (doReturn e (T.setTop f) acts (some (.int z))).1 = T.setFrames fs) : Steps p.tables e below (T.setTop (mkF m pc Ls (.int z :: rest))) (T.setFrames fs) := by
  have hm' : T.vm.method? m = some meth := X.method'
  have hn : narrow .int (.int z) = .int z := rfl
  show Steps p.tables e below (T.setTop { method := m, pc := pc, locals := Ls, stack := _ :: rest, locked := none }) _
  jvm_step X.here [X.here.top, hx, hd, hm', hret, hn]
  first | (intro acts; rw [hl _ acts rfl rfl rfl]) | rw [hl _ _ rfl rfl rfl]
  exact Steps.refl _
end New
end Jvm.RoadKit
namespace Jvm.Pilot.@@N@@
open Jvm Jvm.ClassFile Sem Op Lib Jvm.Free Jvm.Stand Jvm.LawKit Jvm.RoadKit Bundle Jvm.Pilot.@@N@@.Jvm.D
def own_k (p1 : Int32) : Int32 := (((p1.toUInt32 >>> ((3 : Int32) &&& 31).toUInt32).toInt32) &&& (3 : Int32))
def own_pick (p1 p2 : Int32) : Int32 := if (p1 &&& (7 : Int32)) = (0 : Int32) then own_k p1 else if (p1 &&& (7 : Int32)) = (1 : Int32) then (128 : Int32) + (own_k p1 - (2 : Int32)) else if (p1 &&& (7 : Int32)) = (2 : Int32) then (2048 : Int32) + (own_k p1 - (2 : Int32)) else if (p1 &&& (7 : Int32)) = (3 : Int32) then (65536 : Int32) + (own_k p1 - (2 : Int32)) else if (p1 &&& (7 : Int32)) = (4 : Int32) then (1114111 : Int32) - own_k p1 else (p2 &&& (2147483647 : Int32)) % (1114112 : Int32)
def own_len (p1 : Int32) : Int32 := if p1 < (128 : Int32) then (1 : Int32) else if p1 < (2048 : Int32) then (2 : Int32) else if p1 < (65536 : Int32) then (3 : Int32) else (4 : Int32)
def own_pb (p1 : Int32) : Int32 := if p1 = (1 : Int32) then (7 : Int32) else if p1 = (2 : Int32) then (11 : Int32) else if p1 = (3 : Int32) then (16 : Int32) else (21 : Int32)
theorem own_k_rng (p1 : Int32) : 0 ≤ (own_k p1).toInt ∧ (own_k p1).toInt ≤ 3 := by
  have e : (own_k p1).toInt = ((p1.toUInt32 >>> ((3 : Int32) &&& 31).toUInt32).toInt32).toInt % ((2 ^ 2 : Nat) : Int) := c_mask _ _ 2 (by decide) (by decide)
  omega
theorem own_pick_rng (p1 p2 : Int32) : 0 ≤ (own_pick p1 p2).toInt ∧ (own_pick p1 p2).toInt ≤ 1114111 := by
  have hk := own_k_rng p1
  unfold own_pick
  generalize own_k p1 = k at *
  have q2 := c_isub k (2 : Int32)
  have n2 : (2 : Int32).toInt = 2 := by decide
  have r2 := rng32 (k - (2 : Int32))
  split
  · omega
  split
  · have q := c_iadd (128 : Int32) (k - (2 : Int32)); have n : (128 : Int32).toInt = 128 := by decide
    have r := rng32 ((128 : Int32) + (k - (2 : Int32))); omega
  split
  · have q := c_iadd (2048 : Int32) (k - (2 : Int32)); have n : (2048 : Int32).toInt = 2048 := by decide
    have r := rng32 ((2048 : Int32) + (k - (2 : Int32))); omega
  split
  · have q := c_iadd (65536 : Int32) (k - (2 : Int32)); have n : (65536 : Int32).toInt = 65536 := by decide
    have r := rng32 ((65536 : Int32) + (k - (2 : Int32))); omega
  split
  · have q := c_isub (1114111 : Int32) k; have n : (1114111 : Int32).toInt = 1114111 := by decide
    have r := rng32 ((1114111 : Int32) - k); omega
  · have e1 : (p2 &&& (2147483647 : Int32)).toInt = p2.toInt % ((2 ^ 31 : Nat) : Int) := c_mask p2 _ 31 (by decide) (by decide)
    have e2 := (c_irem (p2 &&& (2147483647 : Int32)) (1114112 : Int32) 1114112 (by decide)).1 (by omega)
    omega
theorem own_sh (x q : Int32) (k : Nat) (hk : q.toBitVec.toNat % 32 = k) (h0 : 0 < k) (hx : 0 ≤ x.toInt) : ((x.toUInt32 >>> (q &&& 31).toUInt32).toInt32).toInt = x.toInt / (2 ^ k : Nat) := by
  have e := c_iushr x q k hk h0
  have r := rng32 x
  have : x.toInt % 4294967296 = x.toInt := by omega
  rw [e, this]
theorem own_len1 (x : Int32) : ¬ (own_len x < (1 : Int32)) ∧ ¬ ((4 : Int32) < own_len x) := by
  unfold own_len
  split
  · decide
  split
  · decide
  split <;> decide
theorem own_fits (x : Int32) (h0 : 0 ≤ x.toInt) (h1 : x.toInt ≤ 1114111) : ((x.toUInt32 >>> ((own_pb (own_len x)) &&& 31).toUInt32).toInt32) = (0 : Int32) := by
  apply Int32.toInt_inj.mp
  show _ = (0 : Int)
  have n1 : (128 : Int32).toInt = 128 := by decide
  have n2 : (2048 : Int32).toInt = 2048 := by decide
  have n3 : (65536 : Int32).toInt = 65536 := by decide
  unfold own_len
  split
  · rename_i h; rw [Int32.lt_iff_toInt_lt] at h
    have e := own_sh x (7 : Int32) 7 (by decide) (by decide) h0
    show ((x.toUInt32 >>> ((7 : Int32) &&& 31).toUInt32).toInt32).toInt = 0
    rw [e]; omega
  split
  · rename_i h; rw [Int32.lt_iff_toInt_lt] at h
    have e := own_sh x (11 : Int32) 11 (by decide) (by decide) h0
    show ((x.toUInt32 >>> ((11 : Int32) &&& 31).toUInt32).toInt32).toInt = 0
    rw [e]; omega
  split
  · rename_i h; rw [Int32.lt_iff_toInt_lt] at h
    have e := own_sh x (16 : Int32) 16 (by decide) (by decide) h0
    show ((x.toUInt32 >>> ((16 : Int32) &&& 31).toUInt32).toInt32).toInt = 0
    rw [e]; omega
  · have e := own_sh x (21 : Int32) 21 (by decide) (by decide) h0
    show ((x.toUInt32 >>> ((21 : Int32) &&& 31).toUInt32).toInt32).toInt = 0
    rw [e]; omega
theorem own_short (x : Int32) (h0 : 0 ≤ x.toInt) (h1 : x.toInt ≤ 1114111) (h2 : ¬ (own_len x = (1 : Int32))) : ¬ (((x.toUInt32 >>> ((own_pb (own_len x - (1 : Int32))) &&& 31).toUInt32).toInt32) = (0 : Int32)) := by
  intro q
  have q := congrArg Int32.toInt q
  have z0 : (0 : Int32).toInt = 0 := by decide
  have n1 : (128 : Int32).toInt = 128 := by decide
  have n2 : (2048 : Int32).toInt = 2048 := by decide
  have n3 : (65536 : Int32).toInt = 65536 := by decide
  unfold own_len at q h2
  split at q
  · rename_i h; exact h2 (if_pos h)
  rename_i g1; rw [Int32.lt_iff_toInt_lt] at g1
  split at q
  · have e := own_sh x (7 : Int32) 7 (by decide) (by decide) h0
    have q' : ((x.toUInt32 >>> ((7 : Int32) &&& 31).toUInt32).toInt32).toInt = (0 : Int32).toInt := q
    rw [e] at q'; omega
  rename_i g2; rw [Int32.lt_iff_toInt_lt] at g2
  split at q
  · have e := own_sh x (11 : Int32) 11 (by decide) (by decide) h0
    have q' : ((x.toUInt32 >>> ((11 : Int32) &&& 31).toUInt32).toInt32).toInt = (0 : Int32).toInt := q
    rw [e] at q'; omega
  rename_i g3; rw [Int32.lt_iff_toInt_lt] at g3
  have e := own_sh x (16 : Int32) 16 (by decide) (by decide) h0
  have q' : ((x.toUInt32 >>> ((16 : Int32) &&& 31).toUInt32).toInt32).toInt = (0 : Int32).toInt := q
  rw [e] at q'; omega
theorem pn_0 : plainName "holdfast/Utf8LengthPinLaw" = true := by first | (simp [plainName, overriddenIn]; done) | decide +kernel
theorem ef_1 (m : MethodId) (x0 : Int32) (x1 : Int32) : entryFrame m #[(.int x0), (.int x1)] 4 = mkF m 0 #[.val (.int x0), .val (.int x1), .unset, .unset] [] := by first | (simp [entryFrame, mkF, argsToLocals, Value.category]; done) | rfl
theorem d1_0 : decode method_3_code 0 = .ok (.iload_n 0, 1) := by decide +kernel
theorem d1_1 : decode method_3_code 1 = .ok (.bipush 7, 2) := by decide +kernel
theorem d1_3 : decode method_3_code 3 = .ok (.iand, 1) := by decide +kernel
theorem d1_4 : decode method_3_code 4 = .ok (.istore_n 2, 1) := by decide +kernel
theorem d1_5 : decode method_3_code 5 = .ok (.iload_n 0, 1) := by decide +kernel
theorem d1_6 : decode method_3_code 6 = .ok (.iconst 3, 1) := by decide +kernel
theorem d1_7 : decode method_3_code 7 = .ok (.iushr, 1) := by decide +kernel
theorem d1_8 : decode method_3_code 8 = .ok (.iconst 3, 1) := by decide +kernel
theorem d1_9 : decode method_3_code 9 = .ok (.iand, 1) := by decide +kernel
theorem d1_10 : decode method_3_code 10 = .ok (.iconst 2, 1) := by decide +kernel
theorem d1_11 : decode method_3_code 11 = .ok (.isub, 1) := by decide +kernel
theorem d1_12 : decode method_3_code 12 = .ok (.istore_n 3, 1) := by decide +kernel
theorem d1_13 : decode method_3_code 13 = .ok (.iload_n 2, 1) := by decide +kernel
theorem d1_14 : decode method_3_code 14 = .ok (.ifCond .ne 9, 3) := by decide +kernel
theorem d1_17 : decode method_3_code 17 = .ok (.iload_n 0, 1) := by decide +kernel
theorem d1_18 : decode method_3_code 18 = .ok (.iconst 3, 1) := by decide +kernel
theorem d1_19 : decode method_3_code 19 = .ok (.iushr, 1) := by decide +kernel
theorem d1_20 : decode method_3_code 20 = .ok (.iconst 3, 1) := by decide +kernel
theorem d1_21 : decode method_3_code 21 = .ok (.iand, 1) := by decide +kernel
theorem d1_22 : decode method_3_code 22 = .ok (.ireturn, 1) := by decide +kernel
theorem d1_23 : decode method_3_code 23 = .ok (.iload_n 2, 1) := by decide +kernel
theorem d1_24 : decode method_3_code 24 = .ok (.iconst 1, 1) := by decide +kernel
theorem d1_25 : decode method_3_code 25 = .ok (.if_icmp .ne 9, 3) := by decide +kernel
theorem d1_28 : decode method_3_code 28 = .ok (.sipush 128, 3) := by decide +kernel
theorem d1_31 : decode method_3_code 31 = .ok (.iload_n 3, 1) := by decide +kernel
theorem d1_32 : decode method_3_code 32 = .ok (.iadd, 1) := by decide +kernel
theorem d1_33 : decode method_3_code 33 = .ok (.ireturn, 1) := by decide +kernel
theorem d1_34 : decode method_3_code 34 = .ok (.iload_n 2, 1) := by decide +kernel
theorem d1_35 : decode method_3_code 35 = .ok (.iconst 2, 1) := by decide +kernel
theorem d1_36 : decode method_3_code 36 = .ok (.if_icmp .ne 9, 3) := by decide +kernel
theorem d1_39 : decode method_3_code 39 = .ok (.sipush 2048, 3) := by decide +kernel
theorem d1_42 : decode method_3_code 42 = .ok (.iload_n 3, 1) := by decide +kernel
theorem d1_43 : decode method_3_code 43 = .ok (.iadd, 1) := by decide +kernel
theorem d1_44 : decode method_3_code 44 = .ok (.ireturn, 1) := by decide +kernel
theorem d1_45 : decode method_3_code 45 = .ok (.iload_n 2, 1) := by decide +kernel
theorem d1_46 : decode method_3_code 46 = .ok (.iconst 3, 1) := by decide +kernel
theorem d1_47 : decode method_3_code 47 = .ok (.if_icmp .ne 8, 3) := by decide +kernel
theorem d1_50 : decode method_3_code 50 = .ok (.ldc 7, 2) := by decide +kernel
theorem d1_52 : decode method_3_code 52 = .ok (.iload_n 3, 1) := by decide +kernel
theorem d1_53 : decode method_3_code 53 = .ok (.iadd, 1) := by decide +kernel
theorem d1_54 : decode method_3_code 54 = .ok (.ireturn, 1) := by decide +kernel
theorem d1_55 : decode method_3_code 55 = .ok (.iload_n 2, 1) := by decide +kernel
theorem d1_56 : decode method_3_code 56 = .ok (.iconst 4, 1) := by decide +kernel
theorem d1_57 : decode method_3_code 57 = .ok (.if_icmp .ne 12, 3) := by decide +kernel
theorem d1_60 : decode method_3_code 60 = .ok (.ldc 8, 2) := by decide +kernel
theorem d1_62 : decode method_3_code 62 = .ok (.iload_n 0, 1) := by decide +kernel
theorem d1_63 : decode method_3_code 63 = .ok (.iconst 3, 1) := by decide +kernel
theorem d1_64 : decode method_3_code 64 = .ok (.iushr, 1) := by decide +kernel
theorem d1_65 : decode method_3_code 65 = .ok (.iconst 3, 1) := by decide +kernel
theorem d1_66 : decode method_3_code 66 = .ok (.iand, 1) := by decide +kernel
theorem d1_67 : decode method_3_code 67 = .ok (.isub, 1) := by decide +kernel
theorem d1_68 : decode method_3_code 68 = .ok (.ireturn, 1) := by decide +kernel
theorem d1_69 : decode method_3_code 69 = .ok (.iload_n 1, 1) := by decide +kernel
theorem d1_70 : decode method_3_code 70 = .ok (.ldc 9, 2) := by decide +kernel
theorem d1_72 : decode method_3_code 72 = .ok (.iand, 1) := by decide +kernel
theorem d1_73 : decode method_3_code 73 = .ok (.ldc 10, 2) := by decide +kernel
theorem d1_75 : decode method_3_code 75 = .ok (.irem, 1) := by decide +kernel
theorem d1_76 : decode method_3_code 76 = .ok (.ireturn, 1) := by decide +kernel
def Q1 (Z : State) (p1 : Int32) (p2 : Int32) (h0 : Heap) (n0 : Nat) (v : Option Value) (h : Heap) (L : List Loc) : Prop := v = some (.int (own_pick p1 p2)) ∧ Fr n0 L ∧ (h = h0)
set_option maxRecDepth 65536 in
set_option maxHeartbeats 40000000 in
theorem rm1 (l : Launch) (Z : State) (a0 : Array Value) (hw : ∀ d ∈ tables_1, d.before a0 Z = true) (ws : List Jvm.Cond) (p1 : Int32) (p2 : Int32) (h0 : Heap) (n0 : Nat) (Z0 : n0 ≤ h0.size) :
    MetFree l (⟨"holdfast/Utf8LengthPinLaw", "pick", "(II)I"⟩ : MethodName) (head1 (Jvm.Cond.code (⟨"holdfast/Utf8LengthPinLaw", "pick", "(II)I"⟩ : MethodName) method_3_code 4 (some .int) :: ws) ({ frames := 0, cells := 0, slots := 0, locals := 0 } : Room)) (fun a U => a = #[(.int p1), (.int p2)] ∧ Z.Warmed39 U.vm ∧ U.heap = h0) (fun _ _ _ _ _ => True) (fun _ U o U' => ∃ v L, o = .returned v ∧ Q1 Z p1 p2 h0 n0 v U'.heap L ∧ FrameEnd U o U' L ({ frames := 0, cells := 0, slots := 0, locals := 0 } : Room).cells ({ frames := 0, cells := 0, slots := 0, locals := 0 } : Room).slots) := by
  refine MetFree.of_bodySF (plainFor_of_name pn_0) hisR ?_
  intro p e s m args below meth c s₁ Bd hml0 hP hK
  obtain ⟨rfl, hZ, hh⟩ := hP
  have hx := Bd.exec
  have hby := Bd.bytes
  have hml : c.maxLocals = 4 := hml0
  have hown : s.vm.findClass "holdfast/Utf8LengthPinLaw" = some m.cls := findClass_of_methodNamed Bd.named
  have hnm := (name_of_methodNamed Bd.named Bd.method).1
  have X0 : Stand p l e ({ frames := 0, cells := 0, slots := 0, locals := 0 } : Room) s m #[(.int p1), (.int p2)] below meth c s₁ [] 0 0 := Stand.of_body Bd
  have e0 : s₁.heap = h0 := by rw [← hh, Bd.state]; rfl
  have N0 := Fr.nil n0
  have pre0 : ∀ t, Steps p.tables e below (s₁.setTop (mkF m 0 #[.val (.int p1), .val (.int p2), .unset, .unset] [])) t → Steps p.tables e below (s₁.setTop (entryFrame m #[(.int p1), (.int p2)] 4)) t := fun t k => castTop (ef_1 m p1 p2) k
  have pr101 : ∀ t, Steps p.tables e below (s₁.setTop (mkF m 14 #[.val (.int p1), .val (.int p2), .val (.int (p1 &&& (7 : Int32))), .val (.int ((((p1.toUInt32 >>> ((3 : Int32) &&& 31).toUInt32).toInt32) &&& (3 : Int32)) - (2 : Int32)))] [(.int (p1 &&& (7 : Int32)))])) t → Steps p.tables e below (s₁.setTop (mkF m 0 #[.val (.int p1), .val (.int p2), .unset, .unset] [])) t := fun t kt => by
    show Steps p.tables e below (s₁.setTop (mkF m 0 #[.val (.int p1), .val (.int p2), .unset, .unset] [])) _
    refine XS.iloadN X0.here hx rfl (hb hby d1_0) rfl ?_
    show Steps p.tables e below (s₁.setTop (mkF m 1 #[.val (.int p1), .val (.int p2), .unset, .unset] [(.int p1)])) _
    refine XS.bipush X0.here hx rfl (hb hby d1_1) ?_
    show Steps p.tables e below (s₁.setTop (mkF m 3 #[.val (.int p1), .val (.int p2), .unset, .unset] [(.int (7 : Int32)), (.int p1)])) _
    refine XS.iand X0.here hx rfl (hb hby d1_3) rfl ?_
    show Steps p.tables e below (s₁.setTop (mkF m 4 #[.val (.int p1), .val (.int p2), .unset, .unset] [(.int (p1 &&& (7 : Int32)))])) _
    refine XS.istoreN X0.here hx rfl (hb hby d1_4) rfl (l' := #[.val (.int p1), .val (.int p2), .val (.int (p1 &&& (7 : Int32))), .unset]) rfl ?_
    show Steps p.tables e below (s₁.setTop (mkF m 5 #[.val (.int p1), .val (.int p2), .val (.int (p1 &&& (7 : Int32))), .unset] [])) _
    refine XS.iloadN X0.here hx rfl (hb hby d1_5) rfl ?_
    show Steps p.tables e below (s₁.setTop (mkF m 6 #[.val (.int p1), .val (.int p2), .val (.int (p1 &&& (7 : Int32))), .unset] [(.int p1)])) _
    refine XS.iconst X0.here hx rfl (hb hby d1_6) ?_
    show Steps p.tables e below (s₁.setTop (mkF m 7 #[.val (.int p1), .val (.int p2), .val (.int (p1 &&& (7 : Int32))), .unset] [(.int (3 : Int32)), (.int p1)])) _
    refine XS.iushr X0.here hx rfl (hb hby d1_7) rfl ?_
    show Steps p.tables e below (s₁.setTop (mkF m 8 #[.val (.int p1), .val (.int p2), .val (.int (p1 &&& (7 : Int32))), .unset] [(.int ((p1.toUInt32 >>> ((3 : Int32) &&& 31).toUInt32).toInt32))])) _
    refine XS.iconst X0.here hx rfl (hb hby d1_8) ?_
    show Steps p.tables e below (s₁.setTop (mkF m 9 #[.val (.int p1), .val (.int p2), .val (.int (p1 &&& (7 : Int32))), .unset] [(.int (3 : Int32)), (.int ((p1.toUInt32 >>> ((3 : Int32) &&& 31).toUInt32).toInt32))])) _
    refine XS.iand X0.here hx rfl (hb hby d1_9) rfl ?_
    show Steps p.tables e below (s₁.setTop (mkF m 10 #[.val (.int p1), .val (.int p2), .val (.int (p1 &&& (7 : Int32))), .unset] [(.int (((p1.toUInt32 >>> ((3 : Int32) &&& 31).toUInt32).toInt32) &&& (3 : Int32)))])) _
    refine XS.iconst X0.here hx rfl (hb hby d1_10) ?_
    show Steps p.tables e below (s₁.setTop (mkF m 11 #[.val (.int p1), .val (.int p2), .val (.int (p1 &&& (7 : Int32))), .unset] [(.int (2 : Int32)), (.int (((p1.toUInt32 >>> ((3 : Int32) &&& 31).toUInt32).toInt32) &&& (3 : Int32)))])) _
    refine XS.isub X0.here hx rfl (hb hby d1_11) rfl ?_
    show Steps p.tables e below (s₁.setTop (mkF m 12 #[.val (.int p1), .val (.int p2), .val (.int (p1 &&& (7 : Int32))), .unset] [(.int ((((p1.toUInt32 >>> ((3 : Int32) &&& 31).toUInt32).toInt32) &&& (3 : Int32)) - (2 : Int32)))])) _
    refine XS.istoreN X0.here hx rfl (hb hby d1_12) rfl (l' := #[.val (.int p1), .val (.int p2), .val (.int (p1 &&& (7 : Int32))), .val (.int ((((p1.toUInt32 >>> ((3 : Int32) &&& 31).toUInt32).toInt32) &&& (3 : Int32)) - (2 : Int32)))]) rfl ?_
    show Steps p.tables e below (s₁.setTop (mkF m 13 #[.val (.int p1), .val (.int p2), .val (.int (p1 &&& (7 : Int32))), .val (.int ((((p1.toUInt32 >>> ((3 : Int32) &&& 31).toUInt32).toInt32) &&& (3 : Int32)) - (2 : Int32)))] [])) _
    refine XS.iloadN X0.here hx rfl (hb hby d1_13) rfl ?_
    exact kt
  by_cases hc102 : (p1 &&& (7 : Int32)) = (0 : Int32)
  · obtain ⟨fs, hr, hrun, hended, hW, hsame⟩ := X0.leave (v := some (.int (((p1.toUInt32 >>> ((3 : Int32) &&& 31).toUInt32).toInt32) &&& (3 : Int32)))) (fun h => by rw [Bd.returns] at h; cases h)
    refine ⟨_, _, pre0 _ ?_, hrun, hended, _, _, rfl, ?_, ⟨_, rfl⟩, hW, hsame.mono (by decide) (by decide)⟩
    · refine pr101 _ ?_
      show Steps p.tables e below (s₁.setTop (mkF m 14 #[.val (.int p1), .val (.int p2), .val (.int (p1 &&& (7 : Int32))), .val (.int ((((p1.toUInt32 >>> ((3 : Int32) &&& 31).toUInt32).toInt32) &&& (3 : Int32)) - (2 : Int32)))] [(.int (p1 &&& (7 : Int32)))])) _
      refine XS.ifNo X0.here hx rfl (hb hby d1_14) rfl ((if0 _ _).trans (teq hc102).2) ?_
      show Steps p.tables e below (s₁.setTop (mkF m 17 #[.val (.int p1), .val (.int p2), .val (.int (p1 &&& (7 : Int32))), .val (.int ((((p1.toUInt32 >>> ((3 : Int32) &&& 31).toUInt32).toInt32) &&& (3 : Int32)) - (2 : Int32)))] [])) _
      refine XS.iloadN X0.here hx rfl (hb hby d1_17) rfl ?_
      show Steps p.tables e below (s₁.setTop (mkF m 18 #[.val (.int p1), .val (.int p2), .val (.int (p1 &&& (7 : Int32))), .val (.int ((((p1.toUInt32 >>> ((3 : Int32) &&& 31).toUInt32).toInt32) &&& (3 : Int32)) - (2 : Int32)))] [(.int p1)])) _
      refine XS.iconst X0.here hx rfl (hb hby d1_18) ?_
      show Steps p.tables e below (s₁.setTop (mkF m 19 #[.val (.int p1), .val (.int p2), .val (.int (p1 &&& (7 : Int32))), .val (.int ((((p1.toUInt32 >>> ((3 : Int32) &&& 31).toUInt32).toInt32) &&& (3 : Int32)) - (2 : Int32)))] [(.int (3 : Int32)), (.int p1)])) _
      refine XS.iushr X0.here hx rfl (hb hby d1_19) rfl ?_
      show Steps p.tables e below (s₁.setTop (mkF m 20 #[.val (.int p1), .val (.int p2), .val (.int (p1 &&& (7 : Int32))), .val (.int ((((p1.toUInt32 >>> ((3 : Int32) &&& 31).toUInt32).toInt32) &&& (3 : Int32)) - (2 : Int32)))] [(.int ((p1.toUInt32 >>> ((3 : Int32) &&& 31).toUInt32).toInt32))])) _
      refine XS.iconst X0.here hx rfl (hb hby d1_20) ?_
      show Steps p.tables e below (s₁.setTop (mkF m 21 #[.val (.int p1), .val (.int p2), .val (.int (p1 &&& (7 : Int32))), .val (.int ((((p1.toUInt32 >>> ((3 : Int32) &&& 31).toUInt32).toInt32) &&& (3 : Int32)) - (2 : Int32)))] [(.int (3 : Int32)), (.int ((p1.toUInt32 >>> ((3 : Int32) &&& 31).toUInt32).toInt32))])) _
      refine XS.iand X0.here hx rfl (hb hby d1_21) rfl ?_
      show Steps p.tables e below (s₁.setTop (mkF m 22 #[.val (.int p1), .val (.int p2), .val (.int (p1 &&& (7 : Int32))), .val (.int ((((p1.toUInt32 >>> ((3 : Int32) &&& 31).toUInt32).toInt32) &&& (3 : Int32)) - (2 : Int32)))] [(.int (((p1.toUInt32 >>> ((3 : Int32) &&& 31).toUInt32).toInt32) &&& (3 : Int32)))])) _
      exact retI X0 hx Bd.returns (hb hby d1_22) hr
    · show Q1 Z p1 p2 h0 n0 _ s₁.heap _
      rw [e0]
      exact ⟨(congrArg (fun z => some (Value.int z)) (by simp [own_pick, own_k, hc102] : (((p1.toUInt32 >>> ((3 : Int32) &&& 31).toUInt32).toInt32) &&& (3 : Int32)) = (own_pick p1 p2))), N0, rfl⟩
  · have pr103 : ∀ t, Steps p.tables e below (s₁.setTop (mkF m 25 #[.val (.int p1), .val (.int p2), .val (.int (p1 &&& (7 : Int32))), .val (.int ((((p1.toUInt32 >>> ((3 : Int32) &&& 31).toUInt32).toInt32) &&& (3 : Int32)) - (2 : Int32)))] [(.int (1 : Int32)), (.int (p1 &&& (7 : Int32)))])) t → Steps p.tables e below (s₁.setTop (mkF m 0 #[.val (.int p1), .val (.int p2), .unset, .unset] [])) t := fun t kt => by
      refine pr101 _ ?_
      show Steps p.tables e below (s₁.setTop (mkF m 14 #[.val (.int p1), .val (.int p2), .val (.int (p1 &&& (7 : Int32))), .val (.int ((((p1.toUInt32 >>> ((3 : Int32) &&& 31).toUInt32).toInt32) &&& (3 : Int32)) - (2 : Int32)))] [(.int (p1 &&& (7 : Int32)))])) _
      refine XS.ifYes X0.here hx rfl (pc0 := 14) (pc' := 23) rfl (hb hby d1_14) rfl ((if0 _ _).trans (feq hc102).2) (by decide) (by decide) ?_
      show Steps p.tables e below (s₁.setTop (mkF m 23 #[.val (.int p1), .val (.int p2), .val (.int (p1 &&& (7 : Int32))), .val (.int ((((p1.toUInt32 >>> ((3 : Int32) &&& 31).toUInt32).toInt32) &&& (3 : Int32)) - (2 : Int32)))] [])) _
      refine XS.iloadN X0.here hx rfl (hb hby d1_23) rfl ?_
      show Steps p.tables e below (s₁.setTop (mkF m 24 #[.val (.int p1), .val (.int p2), .val (.int (p1 &&& (7 : Int32))), .val (.int ((((p1.toUInt32 >>> ((3 : Int32) &&& 31).toUInt32).toInt32) &&& (3 : Int32)) - (2 : Int32)))] [(.int (p1 &&& (7 : Int32)))])) _
      refine XS.iconst X0.here hx rfl (hb hby d1_24) ?_
      exact kt
    by_cases hc104 : (p1 &&& (7 : Int32)) = (1 : Int32)
    · obtain ⟨fs, hr, hrun, hended, hW, hsame⟩ := X0.leave (v := some (.int ((128 : Int32) + ((((p1.toUInt32 >>> ((3 : Int32) &&& 31).toUInt32).toInt32) &&& (3 : Int32)) - (2 : Int32))))) (fun h => by rw [Bd.returns] at h; cases h)
      refine ⟨_, _, pre0 _ ?_, hrun, hended, _, _, rfl, ?_, ⟨_, rfl⟩, hW, hsame.mono (by decide) (by decide)⟩
      · refine pr103 _ ?_
        show Steps p.tables e below (s₁.setTop (mkF m 25 #[.val (.int p1), .val (.int p2), .val (.int (p1 &&& (7 : Int32))), .val (.int ((((p1.toUInt32 >>> ((3 : Int32) &&& 31).toUInt32).toInt32) &&& (3 : Int32)) - (2 : Int32)))] [(.int (1 : Int32)), (.int (p1 &&& (7 : Int32)))])) _
        refine XS.icmpNo X0.here hx rfl (hb hby d1_25) rfl (teq hc104).2 ?_
        show Steps p.tables e below (s₁.setTop (mkF m 28 #[.val (.int p1), .val (.int p2), .val (.int (p1 &&& (7 : Int32))), .val (.int ((((p1.toUInt32 >>> ((3 : Int32) &&& 31).toUInt32).toInt32) &&& (3 : Int32)) - (2 : Int32)))] [])) _
        refine XS.sipush X0.here hx rfl (hb hby d1_28) ?_
        show Steps p.tables e below (s₁.setTop (mkF m 31 #[.val (.int p1), .val (.int p2), .val (.int (p1 &&& (7 : Int32))), .val (.int ((((p1.toUInt32 >>> ((3 : Int32) &&& 31).toUInt32).toInt32) &&& (3 : Int32)) - (2 : Int32)))] [(.int (128 : Int32))])) _
        refine XS.iloadN X0.here hx rfl (hb hby d1_31) rfl ?_
        show Steps p.tables e below (s₁.setTop (mkF m 32 #[.val (.int p1), .val (.int p2), .val (.int (p1 &&& (7 : Int32))), .val (.int ((((p1.toUInt32 >>> ((3 : Int32) &&& 31).toUInt32).toInt32) &&& (3 : Int32)) - (2 : Int32)))] [(.int ((((p1.toUInt32 >>> ((3 : Int32) &&& 31).toUInt32).toInt32) &&& (3 : Int32)) - (2 : Int32))), (.int (128 : Int32))])) _
        refine XS.iadd X0.here hx rfl (hb hby d1_32) rfl ?_
        show Steps p.tables e below (s₁.setTop (mkF m 33 #[.val (.int p1), .val (.int p2), .val (.int (p1 &&& (7 : Int32))), .val (.int ((((p1.toUInt32 >>> ((3 : Int32) &&& 31).toUInt32).toInt32) &&& (3 : Int32)) - (2 : Int32)))] [(.int ((128 : Int32) + ((((p1.toUInt32 >>> ((3 : Int32) &&& 31).toUInt32).toInt32) &&& (3 : Int32)) - (2 : Int32))))])) _
        exact retI X0 hx Bd.returns (hb hby d1_33) hr
      · show Q1 Z p1 p2 h0 n0 _ s₁.heap _
        rw [e0]
        exact ⟨(congrArg (fun z => some (Value.int z)) (by simp [own_pick, own_k, hc102, hc104] : ((128 : Int32) + ((((p1.toUInt32 >>> ((3 : Int32) &&& 31).toUInt32).toInt32) &&& (3 : Int32)) - (2 : Int32))) = (own_pick p1 p2))), N0, rfl⟩
    · have pr105 : ∀ t, Steps p.tables e below (s₁.setTop (mkF m 36 #[.val (.int p1), .val (.int p2), .val (.int (p1 &&& (7 : Int32))), .val (.int ((((p1.toUInt32 >>> ((3 : Int32) &&& 31).toUInt32).toInt32) &&& (3 : Int32)) - (2 : Int32)))] [(.int (2 : Int32)), (.int (p1 &&& (7 : Int32)))])) t → Steps p.tables e below (s₁.setTop (mkF m 0 #[.val (.int p1), .val (.int p2), .unset, .unset] [])) t := fun t kt => by
        refine pr103 _ ?_
        show Steps p.tables e below (s₁.setTop (mkF m 25 #[.val (.int p1), .val (.int p2), .val (.int (p1 &&& (7 : Int32))), .val (.int ((((p1.toUInt32 >>> ((3 : Int32) &&& 31).toUInt32).toInt32) &&& (3 : Int32)) - (2 : Int32)))] [(.int (1 : Int32)), (.int (p1 &&& (7 : Int32)))])) _
        refine XS.icmpYes X0.here hx rfl (pc0 := 25) (pc' := 34) rfl (hb hby d1_25) rfl (feq hc104).2 (by decide) (by decide) ?_
        show Steps p.tables e below (s₁.setTop (mkF m 34 #[.val (.int p1), .val (.int p2), .val (.int (p1 &&& (7 : Int32))), .val (.int ((((p1.toUInt32 >>> ((3 : Int32) &&& 31).toUInt32).toInt32) &&& (3 : Int32)) - (2 : Int32)))] [])) _
        refine XS.iloadN X0.here hx rfl (hb hby d1_34) rfl ?_
        show Steps p.tables e below (s₁.setTop (mkF m 35 #[.val (.int p1), .val (.int p2), .val (.int (p1 &&& (7 : Int32))), .val (.int ((((p1.toUInt32 >>> ((3 : Int32) &&& 31).toUInt32).toInt32) &&& (3 : Int32)) - (2 : Int32)))] [(.int (p1 &&& (7 : Int32)))])) _
        refine XS.iconst X0.here hx rfl (hb hby d1_35) ?_
        exact kt
      by_cases hc106 : (p1 &&& (7 : Int32)) = (2 : Int32)
      · obtain ⟨fs, hr, hrun, hended, hW, hsame⟩ := X0.leave (v := some (.int ((2048 : Int32) + ((((p1.toUInt32 >>> ((3 : Int32) &&& 31).toUInt32).toInt32) &&& (3 : Int32)) - (2 : Int32))))) (fun h => by rw [Bd.returns] at h; cases h)
        refine ⟨_, _, pre0 _ ?_, hrun, hended, _, _, rfl, ?_, ⟨_, rfl⟩, hW, hsame.mono (by decide) (by decide)⟩
        · refine pr105 _ ?_
          show Steps p.tables e below (s₁.setTop (mkF m 36 #[.val (.int p1), .val (.int p2), .val (.int (p1 &&& (7 : Int32))), .val (.int ((((p1.toUInt32 >>> ((3 : Int32) &&& 31).toUInt32).toInt32) &&& (3 : Int32)) - (2 : Int32)))] [(.int (2 : Int32)), (.int (p1 &&& (7 : Int32)))])) _
          refine XS.icmpNo X0.here hx rfl (hb hby d1_36) rfl (teq hc106).2 ?_
          show Steps p.tables e below (s₁.setTop (mkF m 39 #[.val (.int p1), .val (.int p2), .val (.int (p1 &&& (7 : Int32))), .val (.int ((((p1.toUInt32 >>> ((3 : Int32) &&& 31).toUInt32).toInt32) &&& (3 : Int32)) - (2 : Int32)))] [])) _
          refine XS.sipush X0.here hx rfl (hb hby d1_39) ?_
          show Steps p.tables e below (s₁.setTop (mkF m 42 #[.val (.int p1), .val (.int p2), .val (.int (p1 &&& (7 : Int32))), .val (.int ((((p1.toUInt32 >>> ((3 : Int32) &&& 31).toUInt32).toInt32) &&& (3 : Int32)) - (2 : Int32)))] [(.int (2048 : Int32))])) _
          refine XS.iloadN X0.here hx rfl (hb hby d1_42) rfl ?_
          show Steps p.tables e below (s₁.setTop (mkF m 43 #[.val (.int p1), .val (.int p2), .val (.int (p1 &&& (7 : Int32))), .val (.int ((((p1.toUInt32 >>> ((3 : Int32) &&& 31).toUInt32).toInt32) &&& (3 : Int32)) - (2 : Int32)))] [(.int ((((p1.toUInt32 >>> ((3 : Int32) &&& 31).toUInt32).toInt32) &&& (3 : Int32)) - (2 : Int32))), (.int (2048 : Int32))])) _
          refine XS.iadd X0.here hx rfl (hb hby d1_43) rfl ?_
          show Steps p.tables e below (s₁.setTop (mkF m 44 #[.val (.int p1), .val (.int p2), .val (.int (p1 &&& (7 : Int32))), .val (.int ((((p1.toUInt32 >>> ((3 : Int32) &&& 31).toUInt32).toInt32) &&& (3 : Int32)) - (2 : Int32)))] [(.int ((2048 : Int32) + ((((p1.toUInt32 >>> ((3 : Int32) &&& 31).toUInt32).toInt32) &&& (3 : Int32)) - (2 : Int32))))])) _
          exact retI X0 hx Bd.returns (hb hby d1_44) hr
        · show Q1 Z p1 p2 h0 n0 _ s₁.heap _
          rw [e0]
          exact ⟨(congrArg (fun z => some (Value.int z)) (by simp [own_pick, own_k, hc102, hc104, hc106] : ((2048 : Int32) + ((((p1.toUInt32 >>> ((3 : Int32) &&& 31).toUInt32).toInt32) &&& (3 : Int32)) - (2 : Int32))) = (own_pick p1 p2))), N0, rfl⟩
      · have pr107 : ∀ t, Steps p.tables e below (s₁.setTop (mkF m 47 #[.val (.int p1), .val (.int p2), .val (.int (p1 &&& (7 : Int32))), .val (.int ((((p1.toUInt32 >>> ((3 : Int32) &&& 31).toUInt32).toInt32) &&& (3 : Int32)) - (2 : Int32)))] [(.int (3 : Int32)), (.int (p1 &&& (7 : Int32)))])) t → Steps p.tables e below (s₁.setTop (mkF m 0 #[.val (.int p1), .val (.int p2), .unset, .unset] [])) t := fun t kt => by
          refine pr105 _ ?_
          show Steps p.tables e below (s₁.setTop (mkF m 36 #[.val (.int p1), .val (.int p2), .val (.int (p1 &&& (7 : Int32))), .val (.int ((((p1.toUInt32 >>> ((3 : Int32) &&& 31).toUInt32).toInt32) &&& (3 : Int32)) - (2 : Int32)))] [(.int (2 : Int32)), (.int (p1 &&& (7 : Int32)))])) _
          refine XS.icmpYes X0.here hx rfl (pc0 := 36) (pc' := 45) rfl (hb hby d1_36) rfl (feq hc106).2 (by decide) (by decide) ?_
          show Steps p.tables e below (s₁.setTop (mkF m 45 #[.val (.int p1), .val (.int p2), .val (.int (p1 &&& (7 : Int32))), .val (.int ((((p1.toUInt32 >>> ((3 : Int32) &&& 31).toUInt32).toInt32) &&& (3 : Int32)) - (2 : Int32)))] [])) _
          refine XS.iloadN X0.here hx rfl (hb hby d1_45) rfl ?_
          show Steps p.tables e below (s₁.setTop (mkF m 46 #[.val (.int p1), .val (.int p2), .val (.int (p1 &&& (7 : Int32))), .val (.int ((((p1.toUInt32 >>> ((3 : Int32) &&& 31).toUInt32).toInt32) &&& (3 : Int32)) - (2 : Int32)))] [(.int (p1 &&& (7 : Int32)))])) _
          refine XS.iconst X0.here hx rfl (hb hby d1_46) ?_
          exact kt
        by_cases hc108 : (p1 &&& (7 : Int32)) = (3 : Int32)
        · obtain ⟨fs, hr, hrun, hended, hW, hsame⟩ := X0.leave (v := some (.int ((65536 : Int32) + ((((p1.toUInt32 >>> ((3 : Int32) &&& 31).toUInt32).toInt32) &&& (3 : Int32)) - (2 : Int32))))) (fun h => by rw [Bd.returns] at h; cases h)
          refine ⟨_, _, pre0 _ ?_, hrun, hended, _, _, rfl, ?_, ⟨_, rfl⟩, hW, hsame.mono (by decide) (by decide)⟩
          · refine pr107 _ ?_
            show Steps p.tables e below (s₁.setTop (mkF m 47 #[.val (.int p1), .val (.int p2), .val (.int (p1 &&& (7 : Int32))), .val (.int ((((p1.toUInt32 >>> ((3 : Int32) &&& 31).toUInt32).toInt32) &&& (3 : Int32)) - (2 : Int32)))] [(.int (3 : Int32)), (.int (p1 &&& (7 : Int32)))])) _
            refine XS.icmpNo X0.here hx rfl (hb hby d1_47) rfl (teq hc108).2 ?_
            show Steps p.tables e below (s₁.setTop (mkF m 50 #[.val (.int p1), .val (.int p2), .val (.int (p1 &&& (7 : Int32))), .val (.int ((((p1.toUInt32 >>> ((3 : Int32) &&& 31).toUInt32).toInt32) &&& (3 : Int32)) - (2 : Int32)))] [])) _
            refine X0.ldcI hx hown (mvT hZ (hw _ (List.mem_of_getElem? (i := 15) rfl))) (g := (mkF m 50 #[.val (.int p1), .val (.int p2), .val (.int (p1 &&& (7 : Int32))), .val (.int ((((p1.toUInt32 >>> ((3 : Int32) &&& 31).toUInt32).toInt32) &&& (3 : Int32)) - (2 : Int32)))] [])) rfl (hb hby d1_50) ?_
            show Steps p.tables e below (s₁.setTop (mkF m 52 #[.val (.int p1), .val (.int p2), .val (.int (p1 &&& (7 : Int32))), .val (.int ((((p1.toUInt32 >>> ((3 : Int32) &&& 31).toUInt32).toInt32) &&& (3 : Int32)) - (2 : Int32)))] [(.int (65536 : Int32))])) _
            refine XS.iloadN X0.here hx rfl (hb hby d1_52) rfl ?_
            show Steps p.tables e below (s₁.setTop (mkF m 53 #[.val (.int p1), .val (.int p2), .val (.int (p1 &&& (7 : Int32))), .val (.int ((((p1.toUInt32 >>> ((3 : Int32) &&& 31).toUInt32).toInt32) &&& (3 : Int32)) - (2 : Int32)))] [(.int ((((p1.toUInt32 >>> ((3 : Int32) &&& 31).toUInt32).toInt32) &&& (3 : Int32)) - (2 : Int32))), (.int (65536 : Int32))])) _
            refine XS.iadd X0.here hx rfl (hb hby d1_53) rfl ?_
            show Steps p.tables e below (s₁.setTop (mkF m 54 #[.val (.int p1), .val (.int p2), .val (.int (p1 &&& (7 : Int32))), .val (.int ((((p1.toUInt32 >>> ((3 : Int32) &&& 31).toUInt32).toInt32) &&& (3 : Int32)) - (2 : Int32)))] [(.int ((65536 : Int32) + ((((p1.toUInt32 >>> ((3 : Int32) &&& 31).toUInt32).toInt32) &&& (3 : Int32)) - (2 : Int32))))])) _
            exact retI X0 hx Bd.returns (hb hby d1_54) hr
          · show Q1 Z p1 p2 h0 n0 _ s₁.heap _
            rw [e0]
            exact ⟨(congrArg (fun z => some (Value.int z)) (by simp [own_pick, own_k, hc102, hc104, hc106, hc108] : ((65536 : Int32) + ((((p1.toUInt32 >>> ((3 : Int32) &&& 31).toUInt32).toInt32) &&& (3 : Int32)) - (2 : Int32))) = (own_pick p1 p2))), N0, rfl⟩
        · have pr109 : ∀ t, Steps p.tables e below (s₁.setTop (mkF m 57 #[.val (.int p1), .val (.int p2), .val (.int (p1 &&& (7 : Int32))), .val (.int ((((p1.toUInt32 >>> ((3 : Int32) &&& 31).toUInt32).toInt32) &&& (3 : Int32)) - (2 : Int32)))] [(.int (4 : Int32)), (.int (p1 &&& (7 : Int32)))])) t → Steps p.tables e below (s₁.setTop (mkF m 0 #[.val (.int p1), .val (.int p2), .unset, .unset] [])) t := fun t kt => by
            refine pr107 _ ?_
            show Steps p.tables e below (s₁.setTop (mkF m 47 #[.val (.int p1), .val (.int p2), .val (.int (p1 &&& (7 : Int32))), .val (.int ((((p1.toUInt32 >>> ((3 : Int32) &&& 31).toUInt32).toInt32) &&& (3 : Int32)) - (2 : Int32)))] [(.int (3 : Int32)), (.int (p1 &&& (7 : Int32)))])) _
            refine XS.icmpYes X0.here hx rfl (pc0 := 47) (pc' := 55) rfl (hb hby d1_47) rfl (feq hc108).2 (by decide) (by decide) ?_
            show Steps p.tables e below (s₁.setTop (mkF m 55 #[.val (.int p1), .val (.int p2), .val (.int (p1 &&& (7 : Int32))), .val (.int ((((p1.toUInt32 >>> ((3 : Int32) &&& 31).toUInt32).toInt32) &&& (3 : Int32)) - (2 : Int32)))] [])) _
            refine XS.iloadN X0.here hx rfl (hb hby d1_55) rfl ?_
            show Steps p.tables e below (s₁.setTop (mkF m 56 #[.val (.int p1), .val (.int p2), .val (.int (p1 &&& (7 : Int32))), .val (.int ((((p1.toUInt32 >>> ((3 : Int32) &&& 31).toUInt32).toInt32) &&& (3 : Int32)) - (2 : Int32)))] [(.int (p1 &&& (7 : Int32)))])) _
            refine XS.iconst X0.here hx rfl (hb hby d1_56) ?_
            exact kt
          by_cases hc110 : (p1 &&& (7 : Int32)) = (4 : Int32)
          · obtain ⟨fs, hr, hrun, hended, hW, hsame⟩ := X0.leave (v := some (.int ((1114111 : Int32) - (((p1.toUInt32 >>> ((3 : Int32) &&& 31).toUInt32).toInt32) &&& (3 : Int32))))) (fun h => by rw [Bd.returns] at h; cases h)
            refine ⟨_, _, pre0 _ ?_, hrun, hended, _, _, rfl, ?_, ⟨_, rfl⟩, hW, hsame.mono (by decide) (by decide)⟩
            · refine pr109 _ ?_
              show Steps p.tables e below (s₁.setTop (mkF m 57 #[.val (.int p1), .val (.int p2), .val (.int (p1 &&& (7 : Int32))), .val (.int ((((p1.toUInt32 >>> ((3 : Int32) &&& 31).toUInt32).toInt32) &&& (3 : Int32)) - (2 : Int32)))] [(.int (4 : Int32)), (.int (p1 &&& (7 : Int32)))])) _
              refine XS.icmpNo X0.here hx rfl (hb hby d1_57) rfl (teq hc110).2 ?_
              show Steps p.tables e below (s₁.setTop (mkF m 60 #[.val (.int p1), .val (.int p2), .val (.int (p1 &&& (7 : Int32))), .val (.int ((((p1.toUInt32 >>> ((3 : Int32) &&& 31).toUInt32).toInt32) &&& (3 : Int32)) - (2 : Int32)))] [])) _
              refine X0.ldcI hx hown (mvT hZ (hw _ (List.mem_of_getElem? (i := 13) rfl))) (g := (mkF m 60 #[.val (.int p1), .val (.int p2), .val (.int (p1 &&& (7 : Int32))), .val (.int ((((p1.toUInt32 >>> ((3 : Int32) &&& 31).toUInt32).toInt32) &&& (3 : Int32)) - (2 : Int32)))] [])) rfl (hb hby d1_60) ?_
              show Steps p.tables e below (s₁.setTop (mkF m 62 #[.val (.int p1), .val (.int p2), .val (.int (p1 &&& (7 : Int32))), .val (.int ((((p1.toUInt32 >>> ((3 : Int32) &&& 31).toUInt32).toInt32) &&& (3 : Int32)) - (2 : Int32)))] [(.int (1114111 : Int32))])) _
              refine XS.iloadN X0.here hx rfl (hb hby d1_62) rfl ?_
              show Steps p.tables e below (s₁.setTop (mkF m 63 #[.val (.int p1), .val (.int p2), .val (.int (p1 &&& (7 : Int32))), .val (.int ((((p1.toUInt32 >>> ((3 : Int32) &&& 31).toUInt32).toInt32) &&& (3 : Int32)) - (2 : Int32)))] [(.int p1), (.int (1114111 : Int32))])) _
              refine XS.iconst X0.here hx rfl (hb hby d1_63) ?_
              show Steps p.tables e below (s₁.setTop (mkF m 64 #[.val (.int p1), .val (.int p2), .val (.int (p1 &&& (7 : Int32))), .val (.int ((((p1.toUInt32 >>> ((3 : Int32) &&& 31).toUInt32).toInt32) &&& (3 : Int32)) - (2 : Int32)))] [(.int (3 : Int32)), (.int p1), (.int (1114111 : Int32))])) _
              refine XS.iushr X0.here hx rfl (hb hby d1_64) rfl ?_
              show Steps p.tables e below (s₁.setTop (mkF m 65 #[.val (.int p1), .val (.int p2), .val (.int (p1 &&& (7 : Int32))), .val (.int ((((p1.toUInt32 >>> ((3 : Int32) &&& 31).toUInt32).toInt32) &&& (3 : Int32)) - (2 : Int32)))] [(.int ((p1.toUInt32 >>> ((3 : Int32) &&& 31).toUInt32).toInt32)), (.int (1114111 : Int32))])) _
              refine XS.iconst X0.here hx rfl (hb hby d1_65) ?_
              show Steps p.tables e below (s₁.setTop (mkF m 66 #[.val (.int p1), .val (.int p2), .val (.int (p1 &&& (7 : Int32))), .val (.int ((((p1.toUInt32 >>> ((3 : Int32) &&& 31).toUInt32).toInt32) &&& (3 : Int32)) - (2 : Int32)))] [(.int (3 : Int32)), (.int ((p1.toUInt32 >>> ((3 : Int32) &&& 31).toUInt32).toInt32)), (.int (1114111 : Int32))])) _
              refine XS.iand X0.here hx rfl (hb hby d1_66) rfl ?_
              show Steps p.tables e below (s₁.setTop (mkF m 67 #[.val (.int p1), .val (.int p2), .val (.int (p1 &&& (7 : Int32))), .val (.int ((((p1.toUInt32 >>> ((3 : Int32) &&& 31).toUInt32).toInt32) &&& (3 : Int32)) - (2 : Int32)))] [(.int (((p1.toUInt32 >>> ((3 : Int32) &&& 31).toUInt32).toInt32) &&& (3 : Int32))), (.int (1114111 : Int32))])) _
              refine XS.isub X0.here hx rfl (hb hby d1_67) rfl ?_
              show Steps p.tables e below (s₁.setTop (mkF m 68 #[.val (.int p1), .val (.int p2), .val (.int (p1 &&& (7 : Int32))), .val (.int ((((p1.toUInt32 >>> ((3 : Int32) &&& 31).toUInt32).toInt32) &&& (3 : Int32)) - (2 : Int32)))] [(.int ((1114111 : Int32) - (((p1.toUInt32 >>> ((3 : Int32) &&& 31).toUInt32).toInt32) &&& (3 : Int32))))])) _
              exact retI X0 hx Bd.returns (hb hby d1_68) hr
            · show Q1 Z p1 p2 h0 n0 _ s₁.heap _
              rw [e0]
              exact ⟨(congrArg (fun z => some (Value.int z)) (by simp [own_pick, own_k, hc102, hc104, hc106, hc108, hc110] : ((1114111 : Int32) - (((p1.toUInt32 >>> ((3 : Int32) &&& 31).toUInt32).toInt32) &&& (3 : Int32))) = (own_pick p1 p2))), N0, rfl⟩
          · obtain ⟨fs, hr, hrun, hended, hW, hsame⟩ := X0.leave (v := some (.int ((p2 &&& (2147483647 : Int32)) % (1114112 : Int32)))) (fun h => by rw [Bd.returns] at h; cases h)
            refine ⟨_, _, pre0 _ ?_, hrun, hended, _, _, rfl, ?_, ⟨_, rfl⟩, hW, hsame.mono (by decide) (by decide)⟩
            · refine pr109 _ ?_
              show Steps p.tables e below (s₁.setTop (mkF m 57 #[.val (.int p1), .val (.int p2), .val (.int (p1 &&& (7 : Int32))), .val (.int ((((p1.toUInt32 >>> ((3 : Int32) &&& 31).toUInt32).toInt32) &&& (3 : Int32)) - (2 : Int32)))] [(.int (4 : Int32)), (.int (p1 &&& (7 : Int32)))])) _
              refine XS.icmpYes X0.here hx rfl (pc0 := 57) (pc' := 69) rfl (hb hby d1_57) rfl (feq hc110).2 (by decide) (by decide) ?_
              show Steps p.tables e below (s₁.setTop (mkF m 69 #[.val (.int p1), .val (.int p2), .val (.int (p1 &&& (7 : Int32))), .val (.int ((((p1.toUInt32 >>> ((3 : Int32) &&& 31).toUInt32).toInt32) &&& (3 : Int32)) - (2 : Int32)))] [])) _
              refine XS.iloadN X0.here hx rfl (hb hby d1_69) rfl ?_
              show Steps p.tables e below (s₁.setTop (mkF m 70 #[.val (.int p1), .val (.int p2), .val (.int (p1 &&& (7 : Int32))), .val (.int ((((p1.toUInt32 >>> ((3 : Int32) &&& 31).toUInt32).toInt32) &&& (3 : Int32)) - (2 : Int32)))] [(.int p2)])) _
              refine X0.ldcI hx hown (mvT hZ (hw _ (List.mem_of_getElem? (i := 11) rfl))) (g := (mkF m 70 #[.val (.int p1), .val (.int p2), .val (.int (p1 &&& (7 : Int32))), .val (.int ((((p1.toUInt32 >>> ((3 : Int32) &&& 31).toUInt32).toInt32) &&& (3 : Int32)) - (2 : Int32)))] [(.int p2)])) rfl (hb hby d1_70) ?_
              show Steps p.tables e below (s₁.setTop (mkF m 72 #[.val (.int p1), .val (.int p2), .val (.int (p1 &&& (7 : Int32))), .val (.int ((((p1.toUInt32 >>> ((3 : Int32) &&& 31).toUInt32).toInt32) &&& (3 : Int32)) - (2 : Int32)))] [(.int (2147483647 : Int32)), (.int p2)])) _
              refine XS.iand X0.here hx rfl (hb hby d1_72) rfl ?_
              show Steps p.tables e below (s₁.setTop (mkF m 73 #[.val (.int p1), .val (.int p2), .val (.int (p1 &&& (7 : Int32))), .val (.int ((((p1.toUInt32 >>> ((3 : Int32) &&& 31).toUInt32).toInt32) &&& (3 : Int32)) - (2 : Int32)))] [(.int (p2 &&& (2147483647 : Int32)))])) _
              refine X0.ldcI hx hown (mvT hZ (hw _ (List.mem_of_getElem? (i := 12) rfl))) (g := (mkF m 73 #[.val (.int p1), .val (.int p2), .val (.int (p1 &&& (7 : Int32))), .val (.int ((((p1.toUInt32 >>> ((3 : Int32) &&& 31).toUInt32).toInt32) &&& (3 : Int32)) - (2 : Int32)))] [(.int (p2 &&& (2147483647 : Int32)))])) rfl (hb hby d1_73) ?_
              show Steps p.tables e below (s₁.setTop (mkF m 75 #[.val (.int p1), .val (.int p2), .val (.int (p1 &&& (7 : Int32))), .val (.int ((((p1.toUInt32 >>> ((3 : Int32) &&& 31).toUInt32).toInt32) &&& (3 : Int32)) - (2 : Int32)))] [(.int (1114112 : Int32)), (.int (p2 &&& (2147483647 : Int32)))])) _
              refine iremM X0 hx rfl (hb hby d1_75) rfl (by decide) ?_
              show Steps p.tables e below (s₁.setTop (mkF m 76 #[.val (.int p1), .val (.int p2), .val (.int (p1 &&& (7 : Int32))), .val (.int ((((p1.toUInt32 >>> ((3 : Int32) &&& 31).toUInt32).toInt32) &&& (3 : Int32)) - (2 : Int32)))] [(.int ((p2 &&& (2147483647 : Int32)) % (1114112 : Int32)))])) _
              exact retI X0 hx Bd.returns (hb hby d1_76) hr
            · show Q1 Z p1 p2 h0 n0 _ s₁.heap _
              rw [e0]
              exact ⟨(congrArg (fun z => some (Value.int z)) (by simp [own_pick, own_k, hc102, hc104, hc106, hc108, hc110] : ((p2 &&& (2147483647 : Int32)) % (1114112 : Int32)) = (own_pick p1 p2))), N0, rfl⟩
theorem pn_1 : plainName "holdfast/Utf8" = true := by first | (simp [plainName, overriddenIn]; done) | decide +kernel
theorem ef_2 (m : MethodId) (x0 : Int32) : entryFrame m #[(.int x0)] 1 = mkF m 0 #[.val (.int x0)] [] := by first | (simp [entryFrame, mkF, argsToLocals, Value.category]; done) | rfl
theorem d2_0 : decode prog_42_method_4_code 0 = .ok (.iload_n 0, 1) := by decide +kernel
theorem d2_1 : decode prog_42_method_4_code 1 = .ok (.sipush 128, 3) := by decide +kernel
theorem d2_4 : decode prog_42_method_4_code 4 = .ok (.if_icmp .ge 7, 3) := by decide +kernel
theorem d2_7 : decode prog_42_method_4_code 7 = .ok (.iconst 1, 1) := by decide +kernel
theorem d2_8 : decode prog_42_method_4_code 8 = .ok (.goto 25, 3) := by decide +kernel
theorem d2_33 : decode prog_42_method_4_code 33 = .ok (.ireturn, 1) := by decide +kernel
theorem d2_11 : decode prog_42_method_4_code 11 = .ok (.iload_n 0, 1) := by decide +kernel
theorem d2_12 : decode prog_42_method_4_code 12 = .ok (.sipush 2048, 3) := by decide +kernel
theorem d2_15 : decode prog_42_method_4_code 15 = .ok (.if_icmp .ge 7, 3) := by decide +kernel
theorem d2_18 : decode prog_42_method_4_code 18 = .ok (.iconst 2, 1) := by decide +kernel
theorem d2_19 : decode prog_42_method_4_code 19 = .ok (.goto 14, 3) := by decide +kernel
theorem d2_22 : decode prog_42_method_4_code 22 = .ok (.iload_n 0, 1) := by decide +kernel
theorem d2_23 : decode prog_42_method_4_code 23 = .ok (.ldc 27, 2) := by decide +kernel
theorem d2_25 : decode prog_42_method_4_code 25 = .ok (.if_icmp .ge 7, 3) := by decide +kernel
theorem d2_28 : decode prog_42_method_4_code 28 = .ok (.iconst 3, 1) := by decide +kernel
theorem d2_29 : decode prog_42_method_4_code 29 = .ok (.goto 4, 3) := by decide +kernel
theorem d2_32 : decode prog_42_method_4_code 32 = .ok (.iconst 4, 1) := by decide +kernel
def Q2 (Z : State) (p1 : Int32) (h0 : Heap) (n0 : Nat) (v : Option Value) (h : Heap) (L : List Loc) : Prop := v = some (.int (own_len p1)) ∧ Fr n0 L ∧ (h = h0)
set_option maxRecDepth 65536 in
set_option maxHeartbeats 40000000 in
theorem rm2 (l : Launch) (Z : State) (a0 : Array Value) (hw : ∀ d ∈ tables_1, d.before a0 Z = true) (ws : List Jvm.Cond) (p1 : Int32) (h0 : Heap) (n0 : Nat) (Z0 : n0 ≤ h0.size) :
    MetFree l (⟨"holdfast/Utf8", "length", "(I)I"⟩ : MethodName) (head1 (Jvm.Cond.code (⟨"holdfast/Utf8", "length", "(I)I"⟩ : MethodName) prog_42_method_4_code 1 (some .int) :: ws) ({ frames := 0, cells := 0, slots := 0, locals := 0 } : Room)) (fun a U => a = #[(.int p1)] ∧ Z.Warmed39 U.vm ∧ U.heap = h0) (fun _ _ _ _ _ => True) (fun _ U o U' => ∃ v L, o = .returned v ∧ Q2 Z p1 h0 n0 v U'.heap L ∧ FrameEnd U o U' L ({ frames := 0, cells := 0, slots := 0, locals := 0 } : Room).cells ({ frames := 0, cells := 0, slots := 0, locals := 0 } : Room).slots) := by
  refine MetFree.of_bodySF (plainFor_of_name pn_1) hisR ?_
  intro p e s m args below meth c s₁ Bd hml0 hP hK
  obtain ⟨rfl, hZ, hh⟩ := hP
  have hx := Bd.exec
  have hby := Bd.bytes
  have hml : c.maxLocals = 1 := hml0
  have hown : s.vm.findClass "holdfast/Utf8" = some m.cls := findClass_of_methodNamed Bd.named
  have hnm := (name_of_methodNamed Bd.named Bd.method).1
  have X0 : Stand p l e ({ frames := 0, cells := 0, slots := 0, locals := 0 } : Room) s m #[(.int p1)] below meth c s₁ [] 0 0 := Stand.of_body Bd
  have e0 : s₁.heap = h0 := by rw [← hh, Bd.state]; rfl
  have N0 := Fr.nil n0
  have pre0 : ∀ t, Steps p.tables e below (s₁.setTop (mkF m 0 #[.val (.int p1)] [])) t → Steps p.tables e below (s₁.setTop (entryFrame m #[(.int p1)] 1)) t := fun t k => castTop (ef_2 m p1) k
  have pr101 : ∀ t, Steps p.tables e below (s₁.setTop (mkF m 4 #[.val (.int p1)] [(.int (128 : Int32)), (.int p1)])) t → Steps p.tables e below (s₁.setTop (mkF m 0 #[.val (.int p1)] [])) t := fun t kt => by
    show Steps p.tables e below (s₁.setTop (mkF m 0 #[.val (.int p1)] [])) _
    refine XS.iloadN X0.here hx rfl (hb hby d2_0) rfl ?_
    show Steps p.tables e below (s₁.setTop (mkF m 1 #[.val (.int p1)] [(.int p1)])) _
    refine XS.sipush X0.here hx rfl (hb hby d2_1) ?_
    exact kt
  by_cases hc102 : p1 < (128 : Int32)
  · obtain ⟨fs, hr, hrun, hended, hW, hsame⟩ := X0.leave (v := some (.int (1 : Int32))) (fun h => by rw [Bd.returns] at h; cases h)
    refine ⟨_, _, pre0 _ ?_, hrun, hended, _, _, rfl, ?_, ⟨_, rfl⟩, hW, hsame.mono (by decide) (by decide)⟩
    · refine pr101 _ ?_
      show Steps p.tables e below (s₁.setTop (mkF m 4 #[.val (.int p1)] [(.int (128 : Int32)), (.int p1)])) _
      refine XS.icmpNo X0.here hx rfl (hb hby d2_4) rfl (tlt hc102).2.1 ?_
      show Steps p.tables e below (s₁.setTop (mkF m 7 #[.val (.int p1)] [])) _
      refine XS.iconst X0.here hx rfl (hb hby d2_7) ?_
      show Steps p.tables e below (s₁.setTop (mkF m 8 #[.val (.int p1)] [(.int (1 : Int32))])) _
      refine XS.goto X0.here hx rfl (pc0 := 8) (pc' := 33) rfl (hb hby d2_8) (by decide) (by decide) ?_
      show Steps p.tables e below (s₁.setTop (mkF m 33 #[.val (.int p1)] [(.int (1 : Int32))])) _
      exact retI X0 hx Bd.returns (hb hby d2_33) hr
    · show Q2 Z p1 h0 n0 _ s₁.heap _
      rw [e0]
      exact ⟨(congrArg (fun z => some (Value.int z)) (by simp [own_len, hc102] : (1 : Int32) = (own_len p1))), N0, rfl⟩
  · have pr103 : ∀ t, Steps p.tables e below (s₁.setTop (mkF m 15 #[.val (.int p1)] [(.int (2048 : Int32)), (.int p1)])) t → Steps p.tables e below (s₁.setTop (mkF m 0 #[.val (.int p1)] [])) t := fun t kt => by
      refine pr101 _ ?_
      show Steps p.tables e below (s₁.setTop (mkF m 4 #[.val (.int p1)] [(.int (128 : Int32)), (.int p1)])) _
      refine XS.icmpYes X0.here hx rfl (pc0 := 4) (pc' := 11) rfl (hb hby d2_4) rfl (flt hc102).2.1 (by decide) (by decide) ?_
      show Steps p.tables e below (s₁.setTop (mkF m 11 #[.val (.int p1)] [])) _
      refine XS.iloadN X0.here hx rfl (hb hby d2_11) rfl ?_
      show Steps p.tables e below (s₁.setTop (mkF m 12 #[.val (.int p1)] [(.int p1)])) _
      refine XS.sipush X0.here hx rfl (hb hby d2_12) ?_
      exact kt
    by_cases hc104 : p1 < (2048 : Int32)
    · obtain ⟨fs, hr, hrun, hended, hW, hsame⟩ := X0.leave (v := some (.int (2 : Int32))) (fun h => by rw [Bd.returns] at h; cases h)
      refine ⟨_, _, pre0 _ ?_, hrun, hended, _, _, rfl, ?_, ⟨_, rfl⟩, hW, hsame.mono (by decide) (by decide)⟩
      · refine pr103 _ ?_
        show Steps p.tables e below (s₁.setTop (mkF m 15 #[.val (.int p1)] [(.int (2048 : Int32)), (.int p1)])) _
        refine XS.icmpNo X0.here hx rfl (hb hby d2_15) rfl (tlt hc104).2.1 ?_
        show Steps p.tables e below (s₁.setTop (mkF m 18 #[.val (.int p1)] [])) _
        refine XS.iconst X0.here hx rfl (hb hby d2_18) ?_
        show Steps p.tables e below (s₁.setTop (mkF m 19 #[.val (.int p1)] [(.int (2 : Int32))])) _
        refine XS.goto X0.here hx rfl (pc0 := 19) (pc' := 33) rfl (hb hby d2_19) (by decide) (by decide) ?_
        show Steps p.tables e below (s₁.setTop (mkF m 33 #[.val (.int p1)] [(.int (2 : Int32))])) _
        exact retI X0 hx Bd.returns (hb hby d2_33) hr
      · show Q2 Z p1 h0 n0 _ s₁.heap _
        rw [e0]
        exact ⟨(congrArg (fun z => some (Value.int z)) (by simp [own_len, hc102, hc104] : (2 : Int32) = (own_len p1))), N0, rfl⟩
    · have pr105 : ∀ t, Steps p.tables e below (s₁.setTop (mkF m 25 #[.val (.int p1)] [(.int (65536 : Int32)), (.int p1)])) t → Steps p.tables e below (s₁.setTop (mkF m 0 #[.val (.int p1)] [])) t := fun t kt => by
        refine pr103 _ ?_
        show Steps p.tables e below (s₁.setTop (mkF m 15 #[.val (.int p1)] [(.int (2048 : Int32)), (.int p1)])) _
        refine XS.icmpYes X0.here hx rfl (pc0 := 15) (pc' := 22) rfl (hb hby d2_15) rfl (flt hc104).2.1 (by decide) (by decide) ?_
        show Steps p.tables e below (s₁.setTop (mkF m 22 #[.val (.int p1)] [])) _
        refine XS.iloadN X0.here hx rfl (hb hby d2_22) rfl ?_
        show Steps p.tables e below (s₁.setTop (mkF m 23 #[.val (.int p1)] [(.int p1)])) _
        refine X0.ldcI hx hown (mvT hZ (hw _ (List.mem_of_getElem? (i := 14) rfl))) (g := (mkF m 23 #[.val (.int p1)] [(.int p1)])) rfl (hb hby d2_23) ?_
        exact kt
      by_cases hc106 : p1 < (65536 : Int32)
      · obtain ⟨fs, hr, hrun, hended, hW, hsame⟩ := X0.leave (v := some (.int (3 : Int32))) (fun h => by rw [Bd.returns] at h; cases h)
        refine ⟨_, _, pre0 _ ?_, hrun, hended, _, _, rfl, ?_, ⟨_, rfl⟩, hW, hsame.mono (by decide) (by decide)⟩
        · refine pr105 _ ?_
          show Steps p.tables e below (s₁.setTop (mkF m 25 #[.val (.int p1)] [(.int (65536 : Int32)), (.int p1)])) _
          refine XS.icmpNo X0.here hx rfl (hb hby d2_25) rfl (tlt hc106).2.1 ?_
          show Steps p.tables e below (s₁.setTop (mkF m 28 #[.val (.int p1)] [])) _
          refine XS.iconst X0.here hx rfl (hb hby d2_28) ?_
          show Steps p.tables e below (s₁.setTop (mkF m 29 #[.val (.int p1)] [(.int (3 : Int32))])) _
          refine XS.goto X0.here hx rfl (pc0 := 29) (pc' := 33) rfl (hb hby d2_29) (by decide) (by decide) ?_
          show Steps p.tables e below (s₁.setTop (mkF m 33 #[.val (.int p1)] [(.int (3 : Int32))])) _
          exact retI X0 hx Bd.returns (hb hby d2_33) hr
        · show Q2 Z p1 h0 n0 _ s₁.heap _
          rw [e0]
          exact ⟨(congrArg (fun z => some (Value.int z)) (by simp [own_len, hc102, hc104, hc106] : (3 : Int32) = (own_len p1))), N0, rfl⟩
      · obtain ⟨fs, hr, hrun, hended, hW, hsame⟩ := X0.leave (v := some (.int (4 : Int32))) (fun h => by rw [Bd.returns] at h; cases h)
        refine ⟨_, _, pre0 _ ?_, hrun, hended, _, _, rfl, ?_, ⟨_, rfl⟩, hW, hsame.mono (by decide) (by decide)⟩
        · refine pr105 _ ?_
          show Steps p.tables e below (s₁.setTop (mkF m 25 #[.val (.int p1)] [(.int (65536 : Int32)), (.int p1)])) _
          refine XS.icmpYes X0.here hx rfl (pc0 := 25) (pc' := 32) rfl (hb hby d2_25) rfl (flt hc106).2.1 (by decide) (by decide) ?_
          show Steps p.tables e below (s₁.setTop (mkF m 32 #[.val (.int p1)] [])) _
          refine XS.iconst X0.here hx rfl (hb hby d2_32) ?_
          show Steps p.tables e below (s₁.setTop (mkF m 33 #[.val (.int p1)] [(.int (4 : Int32))])) _
          exact retI X0 hx Bd.returns (hb hby d2_33) hr
        · show Q2 Z p1 h0 n0 _ s₁.heap _
          rw [e0]
          exact ⟨(congrArg (fun z => some (Value.int z)) (by simp [own_len, hc102, hc104, hc106] : (4 : Int32) = (own_len p1))), N0, rfl⟩
theorem ef_3 (m : MethodId) (x0 : Int32) : entryFrame m #[(.int x0)] 1 = mkF m 0 #[.val (.int x0)] [] := by first | (simp [entryFrame, mkF, argsToLocals, Value.category]; done) | rfl
theorem d3_0 : decode method_2_code 0 = .ok (.iload_n 0, 1) := by decide +kernel
theorem d3_1 : decode method_2_code 1 = .ok (.iconst 1, 1) := by decide +kernel
theorem d3_2 : decode method_2_code 2 = .ok (.if_icmp .ne 6, 3) := by decide +kernel
theorem d3_5 : decode method_2_code 5 = .ok (.bipush 7, 2) := by decide +kernel
theorem d3_7 : decode method_2_code 7 = .ok (.ireturn, 1) := by decide +kernel
theorem d3_8 : decode method_2_code 8 = .ok (.iload_n 0, 1) := by decide +kernel
theorem d3_9 : decode method_2_code 9 = .ok (.iconst 2, 1) := by decide +kernel
theorem d3_10 : decode method_2_code 10 = .ok (.if_icmp .ne 6, 3) := by decide +kernel
theorem d3_13 : decode method_2_code 13 = .ok (.bipush 11, 2) := by decide +kernel
theorem d3_15 : decode method_2_code 15 = .ok (.ireturn, 1) := by decide +kernel
theorem d3_16 : decode method_2_code 16 = .ok (.iload_n 0, 1) := by decide +kernel
theorem d3_17 : decode method_2_code 17 = .ok (.iconst 3, 1) := by decide +kernel
theorem d3_18 : decode method_2_code 18 = .ok (.if_icmp .ne 6, 3) := by decide +kernel
theorem d3_21 : decode method_2_code 21 = .ok (.bipush 16, 2) := by decide +kernel
theorem d3_23 : decode method_2_code 23 = .ok (.ireturn, 1) := by decide +kernel
theorem d3_24 : decode method_2_code 24 = .ok (.bipush 21, 2) := by decide +kernel
theorem d3_26 : decode method_2_code 26 = .ok (.ireturn, 1) := by decide +kernel
def Q3 (Z : State) (p1 : Int32) (h0 : Heap) (n0 : Nat) (v : Option Value) (h : Heap) (L : List Loc) : Prop := v = some (.int (own_pb p1)) ∧ Fr n0 L ∧ (h = h0)
set_option maxRecDepth 65536 in
set_option maxHeartbeats 40000000 in
theorem rm3 (l : Launch) (Z : State) (a0 : Array Value) (hw : ∀ d ∈ tables_1, d.before a0 Z = true) (ws : List Jvm.Cond) (p1 : Int32) (h0 : Heap) (n0 : Nat) (Z0 : n0 ≤ h0.size) :
    MetFree l (⟨"holdfast/Utf8LengthPinLaw", "payloadBits", "(I)I"⟩ : MethodName) (head1 (Jvm.Cond.code (⟨"holdfast/Utf8LengthPinLaw", "payloadBits", "(I)I"⟩ : MethodName) method_2_code 1 (some .int) :: ws) ({ frames := 0, cells := 0, slots := 0, locals := 0 } : Room)) (fun a U => a = #[(.int p1)] ∧ Z.Warmed39 U.vm ∧ U.heap = h0) (fun _ _ _ _ _ => True) (fun _ U o U' => ∃ v L, o = .returned v ∧ Q3 Z p1 h0 n0 v U'.heap L ∧ FrameEnd U o U' L ({ frames := 0, cells := 0, slots := 0, locals := 0 } : Room).cells ({ frames := 0, cells := 0, slots := 0, locals := 0 } : Room).slots) := by
  refine MetFree.of_bodySF (plainFor_of_name pn_0) hisR ?_
  intro p e s m args below meth c s₁ Bd hml0 hP hK
  obtain ⟨rfl, hZ, hh⟩ := hP
  have hx := Bd.exec
  have hby := Bd.bytes
  have hml : c.maxLocals = 1 := hml0
  have hown : s.vm.findClass "holdfast/Utf8LengthPinLaw" = some m.cls := findClass_of_methodNamed Bd.named
  have hnm := (name_of_methodNamed Bd.named Bd.method).1
  have X0 : Stand p l e ({ frames := 0, cells := 0, slots := 0, locals := 0 } : Room) s m #[(.int p1)] below meth c s₁ [] 0 0 := Stand.of_body Bd
  have e0 : s₁.heap = h0 := by rw [← hh, Bd.state]; rfl
  have N0 := Fr.nil n0
  have pre0 : ∀ t, Steps p.tables e below (s₁.setTop (mkF m 0 #[.val (.int p1)] [])) t → Steps p.tables e below (s₁.setTop (entryFrame m #[(.int p1)] 1)) t := fun t k => castTop (ef_3 m p1) k
  have pr101 : ∀ t, Steps p.tables e below (s₁.setTop (mkF m 2 #[.val (.int p1)] [(.int (1 : Int32)), (.int p1)])) t → Steps p.tables e below (s₁.setTop (mkF m 0 #[.val (.int p1)] [])) t := fun t kt => by
    show Steps p.tables e below (s₁.setTop (mkF m 0 #[.val (.int p1)] [])) _
    refine XS.iloadN X0.here hx rfl (hb hby d3_0) rfl ?_
    show Steps p.tables e below (s₁.setTop (mkF m 1 #[.val (.int p1)] [(.int p1)])) _
    refine XS.iconst X0.here hx rfl (hb hby d3_1) ?_
    exact kt
  by_cases hc102 : p1 = (1 : Int32)
  · obtain ⟨fs, hr, hrun, hended, hW, hsame⟩ := X0.leave (v := some (.int (7 : Int32))) (fun h => by rw [Bd.returns] at h; cases h)
    refine ⟨_, _, pre0 _ ?_, hrun, hended, _, _, rfl, ?_, ⟨_, rfl⟩, hW, hsame.mono (by decide) (by decide)⟩
    · refine pr101 _ ?_
      show Steps p.tables e below (s₁.setTop (mkF m 2 #[.val (.int p1)] [(.int (1 : Int32)), (.int p1)])) _
      refine XS.icmpNo X0.here hx rfl (hb hby d3_2) rfl (teq hc102).2 ?_
      show Steps p.tables e below (s₁.setTop (mkF m 5 #[.val (.int p1)] [])) _
      refine XS.bipush X0.here hx rfl (hb hby d3_5) ?_
      show Steps p.tables e below (s₁.setTop (mkF m 7 #[.val (.int p1)] [(.int (7 : Int32))])) _
      exact retI X0 hx Bd.returns (hb hby d3_7) hr
    · show Q3 Z p1 h0 n0 _ s₁.heap _
      rw [e0]
      exact ⟨(congrArg (fun z => some (Value.int z)) (by simp [own_pb, hc102] : (7 : Int32) = (own_pb p1))), N0, rfl⟩
  · have pr103 : ∀ t, Steps p.tables e below (s₁.setTop (mkF m 10 #[.val (.int p1)] [(.int (2 : Int32)), (.int p1)])) t → Steps p.tables e below (s₁.setTop (mkF m 0 #[.val (.int p1)] [])) t := fun t kt => by
      refine pr101 _ ?_
      show Steps p.tables e below (s₁.setTop (mkF m 2 #[.val (.int p1)] [(.int (1 : Int32)), (.int p1)])) _
      refine XS.icmpYes X0.here hx rfl (pc0 := 2) (pc' := 8) rfl (hb hby d3_2) rfl (feq hc102).2 (by decide) (by decide) ?_
      show Steps p.tables e below (s₁.setTop (mkF m 8 #[.val (.int p1)] [])) _
      refine XS.iloadN X0.here hx rfl (hb hby d3_8) rfl ?_
      show Steps p.tables e below (s₁.setTop (mkF m 9 #[.val (.int p1)] [(.int p1)])) _
      refine XS.iconst X0.here hx rfl (hb hby d3_9) ?_
      exact kt
    by_cases hc104 : p1 = (2 : Int32)
    · obtain ⟨fs, hr, hrun, hended, hW, hsame⟩ := X0.leave (v := some (.int (11 : Int32))) (fun h => by rw [Bd.returns] at h; cases h)
      refine ⟨_, _, pre0 _ ?_, hrun, hended, _, _, rfl, ?_, ⟨_, rfl⟩, hW, hsame.mono (by decide) (by decide)⟩
      · refine pr103 _ ?_
        show Steps p.tables e below (s₁.setTop (mkF m 10 #[.val (.int p1)] [(.int (2 : Int32)), (.int p1)])) _
        refine XS.icmpNo X0.here hx rfl (hb hby d3_10) rfl (teq hc104).2 ?_
        show Steps p.tables e below (s₁.setTop (mkF m 13 #[.val (.int p1)] [])) _
        refine XS.bipush X0.here hx rfl (hb hby d3_13) ?_
        show Steps p.tables e below (s₁.setTop (mkF m 15 #[.val (.int p1)] [(.int (11 : Int32))])) _
        exact retI X0 hx Bd.returns (hb hby d3_15) hr
      · show Q3 Z p1 h0 n0 _ s₁.heap _
        rw [e0]
        exact ⟨(congrArg (fun z => some (Value.int z)) (by simp [own_pb, hc102, hc104] : (11 : Int32) = (own_pb p1))), N0, rfl⟩
    · have pr105 : ∀ t, Steps p.tables e below (s₁.setTop (mkF m 18 #[.val (.int p1)] [(.int (3 : Int32)), (.int p1)])) t → Steps p.tables e below (s₁.setTop (mkF m 0 #[.val (.int p1)] [])) t := fun t kt => by
        refine pr103 _ ?_
        show Steps p.tables e below (s₁.setTop (mkF m 10 #[.val (.int p1)] [(.int (2 : Int32)), (.int p1)])) _
        refine XS.icmpYes X0.here hx rfl (pc0 := 10) (pc' := 16) rfl (hb hby d3_10) rfl (feq hc104).2 (by decide) (by decide) ?_
        show Steps p.tables e below (s₁.setTop (mkF m 16 #[.val (.int p1)] [])) _
        refine XS.iloadN X0.here hx rfl (hb hby d3_16) rfl ?_
        show Steps p.tables e below (s₁.setTop (mkF m 17 #[.val (.int p1)] [(.int p1)])) _
        refine XS.iconst X0.here hx rfl (hb hby d3_17) ?_
        exact kt
      by_cases hc106 : p1 = (3 : Int32)
      · obtain ⟨fs, hr, hrun, hended, hW, hsame⟩ := X0.leave (v := some (.int (16 : Int32))) (fun h => by rw [Bd.returns] at h; cases h)
        refine ⟨_, _, pre0 _ ?_, hrun, hended, _, _, rfl, ?_, ⟨_, rfl⟩, hW, hsame.mono (by decide) (by decide)⟩
        · refine pr105 _ ?_
          show Steps p.tables e below (s₁.setTop (mkF m 18 #[.val (.int p1)] [(.int (3 : Int32)), (.int p1)])) _
          refine XS.icmpNo X0.here hx rfl (hb hby d3_18) rfl (teq hc106).2 ?_
          show Steps p.tables e below (s₁.setTop (mkF m 21 #[.val (.int p1)] [])) _
          refine XS.bipush X0.here hx rfl (hb hby d3_21) ?_
          show Steps p.tables e below (s₁.setTop (mkF m 23 #[.val (.int p1)] [(.int (16 : Int32))])) _
          exact retI X0 hx Bd.returns (hb hby d3_23) hr
        · show Q3 Z p1 h0 n0 _ s₁.heap _
          rw [e0]
          exact ⟨(congrArg (fun z => some (Value.int z)) (by simp [own_pb, hc102, hc104, hc106] : (16 : Int32) = (own_pb p1))), N0, rfl⟩
      · obtain ⟨fs, hr, hrun, hended, hW, hsame⟩ := X0.leave (v := some (.int (21 : Int32))) (fun h => by rw [Bd.returns] at h; cases h)
        refine ⟨_, _, pre0 _ ?_, hrun, hended, _, _, rfl, ?_, ⟨_, rfl⟩, hW, hsame.mono (by decide) (by decide)⟩
        · refine pr105 _ ?_
          show Steps p.tables e below (s₁.setTop (mkF m 18 #[.val (.int p1)] [(.int (3 : Int32)), (.int p1)])) _
          refine XS.icmpYes X0.here hx rfl (pc0 := 18) (pc' := 24) rfl (hb hby d3_18) rfl (feq hc106).2 (by decide) (by decide) ?_
          show Steps p.tables e below (s₁.setTop (mkF m 24 #[.val (.int p1)] [])) _
          refine XS.bipush X0.here hx rfl (hb hby d3_24) ?_
          show Steps p.tables e below (s₁.setTop (mkF m 26 #[.val (.int p1)] [(.int (21 : Int32))])) _
          exact retI X0 hx Bd.returns (hb hby d3_26) hr
        · show Q3 Z p1 h0 n0 _ s₁.heap _
          rw [e0]
          exact ⟨(congrArg (fun z => some (Value.int z)) (by simp [own_pb, hc102, hc104, hc106] : (21 : Int32) = (own_pb p1))), N0, rfl⟩
theorem ef_0 (m : MethodId) (x0 : Int32) (x1 : Int32) : entryFrame m #[(.int x0), (.int x1)] maxLocals = mkF m 0 #[.val (.int x0), .val (.int x1), .unset, .unset, .unset, .unset] [] := by first | (simp [entryFrame, mkF, argsToLocals, Value.category, maxLocals]; done) | rfl
theorem pd_0 : parseMethodDescriptor "(II)I" = some ⟨[.int, .int], some .int⟩ := by decide +kernel
theorem pd_1 : parseMethodDescriptor "(I)I" = some ⟨[.int], some .int⟩ := by decide +kernel
def Q0 (Z : State) (p1 : Int32) (p2 : Int32) (h0 : Heap) (n0 : Nat) (v : Option Value) (h : Heap) (L : List Loc) : Prop := v = some (.int (1 : Int32)) ∧ Fr n0 L
set_option maxRecDepth 65536 in
set_option maxHeartbeats 40000000 in
theorem rm0 (l : Launch) (Z : State) (a0 : Array Value) (hw : ∀ d ∈ tables_1, d.before a0 Z = true) (ws : List Jvm.Cond) (p1 : Int32) (p2 : Int32) (h0 : Heap) (n0 : Nat) (Z0 : n0 ≤ h0.size) :
    MetFree l x (head1 (Jvm.Cond.code x code maxLocals ret :: ws) room_1) (fun a U => a = #[(.int p1), (.int p2)] ∧ Z.Warmed39 U.vm ∧ U.heap = h0) (fun _ _ _ _ _ => True) (fun _ U o U' => ∃ v L, o = .returned v ∧ Q0 Z p1 p2 h0 n0 v U'.heap L ∧ FrameEnd U o U' L room_1.cells room_1.slots) := by
  refine MetFree.of_bodySF (plainFor_of_name pn_0) hisR ?_
  intro p e s m args below meth c s₁ Bd hml0 hP hK
  obtain ⟨rfl, hZ, hh⟩ := hP
  have hx := Bd.exec
  have hby := Bd.bytes
  have hml : c.maxLocals = 6 := hml0
  have hown : s.vm.findClass "holdfast/Utf8LengthPinLaw" = some m.cls := findClass_of_methodNamed Bd.named
  have hnm := (name_of_methodNamed Bd.named Bd.method).1
  have X0 : Stand p l e room_1 s m #[(.int p1), (.int p2)] below meth c s₁ [] 0 0 := Stand.of_body Bd
  have e0 : s₁.heap = h0 := by rw [← hh, Bd.state]; rfl
  have N0 := Fr.nil n0
  have pre0 : ∀ t, Steps p.tables e below (s₁.setTop (mkF m 0 #[.val (.int p1), .val (.int p2), .unset, .unset, .unset, .unset] [])) t → Steps p.tables e below (s₁.setTop (entryFrame m #[(.int p1), (.int p2)] maxLocals)) t := fun t k => castTop (ef_0 m p1 p2) k
  obtain ⟨_, _, ⟨T101, L101, k101, n101⟩, -, X101, ⟨Lc101, hQ101, l101, y101, z101⟩, st101⟩ := Jvm.LawKit.callS X0 hx (y := (⟨"holdfast/Utf8LengthPinLaw", "pick", "(II)I"⟩ : MethodName)) hown (mvT hZ (hw _ (List.mem_of_getElem? (i := 0) rfl))) (mvT hZ (hw _ (List.mem_of_getElem? (i := 1) rfl))) (mvT hZ (hw _ (List.mem_of_getElem? (i := 2) rfl))) (mvT hZ (hw _ (List.mem_of_getElem? (i := 3) rfl))) (by decide) (backOf (W := 0) (rm1 l Z a0 hw [] p1 p2 h0 n0 Z0 ) hZ (hw _ (List.mem_of_getElem? (i := 3) rfl)) (hw _ (List.mem_of_getElem? (i := 2) rfl)) (by decide) (by decide)) (g := (mkF m 2 #[.val (.int p1), .val (.int p2), .unset, .unset, .unset, .unset] [(.int p2), (.int p1)])) rfl (by rw [hml]; rfl) (argsL := [(.int p1), (.int p2)]) (rest := []) (lenOf pd_0 rfl) rfl (by show 2 * 0 + _ ≤ _; exact Nat.le_of_eq rfl) (hb hby at_2) (fun _ _ => ⟨rfl, e0, (by decide : 0 + 0 ≤ _), (by decide : 0 + 0 ≤ _)⟩)
  dsimp only [Pt.U, Pt.locs, Pt.cells, Pt.slots] at X101 l101 y101 z101 st101 hQ101
  subst l101 y101 z101
  obtain ⟨rfl, N101q, P101_0⟩ := hQ101
  have N101 := Fr.app N0 N101q
  obtain ⟨_, _, ⟨T102, L102, k102, n102⟩, -, X102, ⟨Lc102, hQ102, l102, y102, z102⟩, st102⟩ := Jvm.LawKit.callS X101 hx (y := (⟨"holdfast/Utf8", "length", "(I)I"⟩ : MethodName)) hown (mvT hZ (hw _ (List.mem_of_getElem? (i := 4) rfl))) (mvT hZ (hw _ (List.mem_of_getElem? (i := 5) rfl))) (mvT hZ (hw _ (List.mem_of_getElem? (i := 6) rfl))) (mvT hZ (hw _ (List.mem_of_getElem? (i := 7) rfl))) (by decide) (backOf (W := 0) (rm2 l Z a0 hw [] (own_pick p1 p2) h0 n0 Z0 ) hZ (hw _ (List.mem_of_getElem? (i := 7) rfl)) (hw _ (List.mem_of_getElem? (i := 6) rfl)) (by decide) (by decide)) (g := (mkF m 7 #[.val (.int p1), .val (.int p2), .val (.int (own_pick p1 p2)), .unset, .unset, .unset] [(.int (own_pick p1 p2))])) rfl (by rw [hml]; rfl) (argsL := [(.int (own_pick p1 p2))]) (rest := []) (lenOf pd_1 rfl) rfl (by show 2 * 0 + _ ≤ _; exact Nat.le_of_eq rfl) (hb hby at_7) (fun _ _ => ⟨rfl, P101_0, (by decide : 0 + 0 ≤ _), (by decide : 0 + 0 ≤ _)⟩)
  dsimp only [Pt.U, Pt.locs, Pt.cells, Pt.slots] at X102 l102 y102 z102 st102 hQ102
  subst l102 y102 z102
  obtain ⟨rfl, N102q, P102_0⟩ := hQ102
  have N102 := Fr.app N101 N102q
  obtain ⟨_, _, ⟨T103, L103, k103, n103⟩, -, X103, ⟨Lc103, hQ103, l103, y103, z103⟩, st103⟩ := Jvm.LawKit.callS X102 hx (y := (⟨"holdfast/Utf8LengthPinLaw", "payloadBits", "(I)I"⟩ : MethodName)) hown (mvT hZ (hw _ (List.mem_of_getElem? (i := 8) rfl))) (mvT hZ (hw _ (List.mem_of_getElem? (i := 9) rfl))) (mvT hZ (hw _ (List.mem_of_getElem? (i := 2) rfl))) (mvT hZ (hw _ (List.mem_of_getElem? (i := 10) rfl))) (by decide) (backOf (W := 1) (rm3 l Z a0 hw [] (own_len (own_pick p1 p2)) h0 n0 Z0 ) hZ (hw _ (List.mem_of_getElem? (i := 10) rfl)) (hw _ (List.mem_of_getElem? (i := 2) rfl)) (by decide) (by decide)) (g := (mkF m 25 #[.val (.int p1), .val (.int p2), .val (.int (own_pick p1 p2)), .val (.int (own_len (own_pick p1 p2))), .unset, .unset] [(.int (own_len (own_pick p1 p2))), (.int (own_pick p1 p2))])) rfl (by rw [hml]; rfl) (argsL := [(.int (own_len (own_pick p1 p2)))]) (rest := [(.int (own_pick p1 p2))]) (lenOf pd_1 rfl) rfl (by show 2 * 0 + _ ≤ _; exact Nat.le_of_eq rfl) (hb hby at_25) (fun _ _ => ⟨rfl, P102_0, (by decide : 0 + 0 ≤ _), (by decide : 0 + 0 ≤ _)⟩)
  dsimp only [Pt.U, Pt.locs, Pt.cells, Pt.slots] at X103 l103 y103 z103 st103 hQ103
  subst l103 y103 z103
  obtain ⟨rfl, N103q, P103_0⟩ := hQ103
  have N103 := Fr.app N102 N103q
  have pr104 : ∀ t, Steps p.tables e below (T103.setTop (mkF m 41 #[.val (.int p1), .val (.int p2), .val (.int (own_pick p1 p2)), .val (.int (own_len (own_pick p1 p2))), .val (.int (1 : Int32)), .unset] [(.int (1 : Int32)), (.int (own_len (own_pick p1 p2)))])) t → Steps p.tables e below (s₁.setTop (mkF m 0 #[.val (.int p1), .val (.int p2), .unset, .unset, .unset, .unset] [])) t := fun t kt => by
    show Steps p.tables e below (s₁.setTop (mkF m 0 #[.val (.int p1), .val (.int p2), .unset, .unset, .unset, .unset] [])) _
    refine XS.iloadN X0.here hx rfl (hb hby at_0) rfl ?_
    show Steps p.tables e below (s₁.setTop (mkF m 1 #[.val (.int p1), .val (.int p2), .unset, .unset, .unset, .unset] [(.int p1)])) _
    refine XS.iloadN X0.here hx rfl (hb hby at_1) rfl ?_
    show Steps p.tables e below (s₁.setTop (mkF m 2 #[.val (.int p1), .val (.int p2), .unset, .unset, .unset, .unset] [(.int p2), (.int p1)])) _
    refine st101 _ ?_
    show Steps p.tables e below (T101.setTop (mkF m 5 #[.val (.int p1), .val (.int p2), .unset, .unset, .unset, .unset] [(.int (own_pick p1 p2))])) _
    refine XS.istoreN X101.here hx rfl (hb hby at_5) rfl (l' := #[.val (.int p1), .val (.int p2), .val (.int (own_pick p1 p2)), .unset, .unset, .unset]) rfl ?_
    show Steps p.tables e below (T101.setTop (mkF m 6 #[.val (.int p1), .val (.int p2), .val (.int (own_pick p1 p2)), .unset, .unset, .unset] [])) _
    refine XS.iloadN X101.here hx rfl (hb hby at_6) rfl ?_
    show Steps p.tables e below (T101.setTop (mkF m 7 #[.val (.int p1), .val (.int p2), .val (.int (own_pick p1 p2)), .unset, .unset, .unset] [(.int (own_pick p1 p2))])) _
    refine st102 _ ?_
    show Steps p.tables e below (T102.setTop (mkF m 10 #[.val (.int p1), .val (.int p2), .val (.int (own_pick p1 p2)), .unset, .unset, .unset] [(.int (own_len (own_pick p1 p2)))])) _
    refine XS.istoreN X102.here hx rfl (hb hby at_10) rfl (l' := #[.val (.int p1), .val (.int p2), .val (.int (own_pick p1 p2)), .val (.int (own_len (own_pick p1 p2))), .unset, .unset]) rfl ?_
    show Steps p.tables e below (T102.setTop (mkF m 11 #[.val (.int p1), .val (.int p2), .val (.int (own_pick p1 p2)), .val (.int (own_len (own_pick p1 p2))), .unset, .unset] [])) _
    refine XS.iloadN X102.here hx rfl (hb hby at_11) rfl ?_
    show Steps p.tables e below (T102.setTop (mkF m 12 #[.val (.int p1), .val (.int p2), .val (.int (own_pick p1 p2)), .val (.int (own_len (own_pick p1 p2))), .unset, .unset] [(.int (own_len (own_pick p1 p2)))])) _
    refine XS.iconst X102.here hx rfl (hb hby at_12) ?_
    show Steps p.tables e below (T102.setTop (mkF m 13 #[.val (.int p1), .val (.int p2), .val (.int (own_pick p1 p2)), .val (.int (own_len (own_pick p1 p2))), .unset, .unset] [(.int (1 : Int32)), (.int (own_len (own_pick p1 p2)))])) _
    refine XS.icmpNo X102.here hx rfl (hb hby at_13) rfl (flt ((own_len1 _).1 : ¬ ((own_len (own_pick p1 p2)) < (1 : Int32)))).1 ?_
    show Steps p.tables e below (T102.setTop (mkF m 16 #[.val (.int p1), .val (.int p2), .val (.int (own_pick p1 p2)), .val (.int (own_len (own_pick p1 p2))), .unset, .unset] [])) _
    refine XS.iloadN X102.here hx rfl (hb hby at_16) rfl ?_
    show Steps p.tables e below (T102.setTop (mkF m 17 #[.val (.int p1), .val (.int p2), .val (.int (own_pick p1 p2)), .val (.int (own_len (own_pick p1 p2))), .unset, .unset] [(.int (own_len (own_pick p1 p2)))])) _
    refine XS.iconst X102.here hx rfl (hb hby at_17) ?_
    show Steps p.tables e below (T102.setTop (mkF m 18 #[.val (.int p1), .val (.int p2), .val (.int (own_pick p1 p2)), .val (.int (own_len (own_pick p1 p2))), .unset, .unset] [(.int (4 : Int32)), (.int (own_len (own_pick p1 p2)))])) _
    refine XS.icmpYes X102.here hx rfl (pc0 := 18) (pc' := 23) rfl (hb hby at_18) rfl (flt ((own_len1 _).2 : ¬ ((4 : Int32) < (own_len (own_pick p1 p2))))).2.2.2 (by decide) (by decide) ?_
    show Steps p.tables e below (T102.setTop (mkF m 23 #[.val (.int p1), .val (.int p2), .val (.int (own_pick p1 p2)), .val (.int (own_len (own_pick p1 p2))), .unset, .unset] [])) _
    refine XS.iloadN X102.here hx rfl (hb hby at_23) rfl ?_
    show Steps p.tables e below (T102.setTop (mkF m 24 #[.val (.int p1), .val (.int p2), .val (.int (own_pick p1 p2)), .val (.int (own_len (own_pick p1 p2))), .unset, .unset] [(.int (own_pick p1 p2))])) _
    refine XS.iloadN X102.here hx rfl (hb hby at_24) rfl ?_
    show Steps p.tables e below (T102.setTop (mkF m 25 #[.val (.int p1), .val (.int p2), .val (.int (own_pick p1 p2)), .val (.int (own_len (own_pick p1 p2))), .unset, .unset] [(.int (own_len (own_pick p1 p2))), (.int (own_pick p1 p2))])) _
    refine st103 _ ?_
    show Steps p.tables e below (T103.setTop (mkF m 28 #[.val (.int p1), .val (.int p2), .val (.int (own_pick p1 p2)), .val (.int (own_len (own_pick p1 p2))), .unset, .unset] [(.int (own_pb (own_len (own_pick p1 p2)))), (.int (own_pick p1 p2))])) _
    refine XS.iushr X103.here hx rfl (hb hby at_28) rfl ?_
    show Steps p.tables e below (T103.setTop (mkF m 29 #[.val (.int p1), .val (.int p2), .val (.int (own_pick p1 p2)), .val (.int (own_len (own_pick p1 p2))), .unset, .unset] [(.int (((own_pick p1 p2).toUInt32 >>> ((own_pb (own_len (own_pick p1 p2))) &&& 31).toUInt32).toInt32))])) _
    refine XS.ifNo X103.here hx rfl (hb hby at_29) rfl ((if0 _ _).trans (teq (own_fits _ (own_pick_rng p1 p2).1 (own_pick_rng p1 p2).2 : (((own_pick p1 p2).toUInt32 >>> ((own_pb (own_len (own_pick p1 p2))) &&& 31).toUInt32).toInt32) = (0 : Int32))).2) ?_
    show Steps p.tables e below (T103.setTop (mkF m 32 #[.val (.int p1), .val (.int p2), .val (.int (own_pick p1 p2)), .val (.int (own_len (own_pick p1 p2))), .unset, .unset] [])) _
    refine XS.iconst X103.here hx rfl (hb hby at_32) ?_
    show Steps p.tables e below (T103.setTop (mkF m 33 #[.val (.int p1), .val (.int p2), .val (.int (own_pick p1 p2)), .val (.int (own_len (own_pick p1 p2))), .unset, .unset] [(.int (1 : Int32))])) _
    refine XS.goto X103.here hx rfl (pc0 := 33) (pc' := 37) rfl (hb hby at_33) (by decide) (by decide) ?_
    show Steps p.tables e below (T103.setTop (mkF m 37 #[.val (.int p1), .val (.int p2), .val (.int (own_pick p1 p2)), .val (.int (own_len (own_pick p1 p2))), .unset, .unset] [(.int (1 : Int32))])) _
    refine XS.istore X103.here hx rfl (hb hby at_37) rfl (l' := #[.val (.int p1), .val (.int p2), .val (.int (own_pick p1 p2)), .val (.int (own_len (own_pick p1 p2))), .val (.int (1 : Int32)), .unset]) rfl ?_
    show Steps p.tables e below (T103.setTop (mkF m 39 #[.val (.int p1), .val (.int p2), .val (.int (own_pick p1 p2)), .val (.int (own_len (own_pick p1 p2))), .val (.int (1 : Int32)), .unset] [])) _
    refine XS.iloadN X103.here hx rfl (hb hby at_39) rfl ?_
    show Steps p.tables e below (T103.setTop (mkF m 40 #[.val (.int p1), .val (.int p2), .val (.int (own_pick p1 p2)), .val (.int (own_len (own_pick p1 p2))), .val (.int (1 : Int32)), .unset] [(.int (own_len (own_pick p1 p2)))])) _
    refine XS.iconst X103.here hx rfl (hb hby at_40) ?_
    exact kt
  by_cases hc105 : (own_len (own_pick p1 p2)) = (1 : Int32)
  · obtain ⟨fs, hr, hrun, hended, hW, hsame⟩ := X103.leave (v := some (.int (1 : Int32))) (fun h => by rw [Bd.returns] at h; cases h)
    refine ⟨_, _, pre0 _ ?_, hrun, hended, _, _, rfl, ?_, ⟨_, rfl⟩, hW, hsame.mono (by decide) (by decide)⟩
    · refine pr104 _ ?_
      show Steps p.tables e below (T103.setTop (mkF m 41 #[.val (.int p1), .val (.int p2), .val (.int (own_pick p1 p2)), .val (.int (own_len (own_pick p1 p2))), .val (.int (1 : Int32)), .unset] [(.int (1 : Int32)), (.int (own_len (own_pick p1 p2)))])) _
      refine XS.icmpYes X103.here hx rfl (pc0 := 41) (pc' := 55) rfl (hb hby at_41) rfl (teq hc105).1 (by decide) (by decide) ?_
      show Steps p.tables e below (T103.setTop (mkF m 55 #[.val (.int p1), .val (.int p2), .val (.int (own_pick p1 p2)), .val (.int (own_len (own_pick p1 p2))), .val (.int (1 : Int32)), .unset] [])) _
      refine XS.iconst X103.here hx rfl (hb hby at_55) ?_
      show Steps p.tables e below (T103.setTop (mkF m 56 #[.val (.int p1), .val (.int p2), .val (.int (own_pick p1 p2)), .val (.int (own_len (own_pick p1 p2))), .val (.int (1 : Int32)), .unset] [(.int (1 : Int32))])) _
      refine XS.goto X103.here hx rfl (pc0 := 56) (pc' := 60) rfl (hb hby at_56) (by decide) (by decide) ?_
      show Steps p.tables e below (T103.setTop (mkF m 60 #[.val (.int p1), .val (.int p2), .val (.int (own_pick p1 p2)), .val (.int (own_len (own_pick p1 p2))), .val (.int (1 : Int32)), .unset] [(.int (1 : Int32))])) _
      refine XS.istore X103.here hx rfl (hb hby at_60) rfl (l' := #[.val (.int p1), .val (.int p2), .val (.int (own_pick p1 p2)), .val (.int (own_len (own_pick p1 p2))), .val (.int (1 : Int32)), .val (.int (1 : Int32))]) rfl ?_
      show Steps p.tables e below (T103.setTop (mkF m 62 #[.val (.int p1), .val (.int p2), .val (.int (own_pick p1 p2)), .val (.int (own_len (own_pick p1 p2))), .val (.int (1 : Int32)), .val (.int (1 : Int32))] [])) _
      refine XS.iload X103.here hx rfl (hb hby at_62) rfl ?_
      show Steps p.tables e below (T103.setTop (mkF m 64 #[.val (.int p1), .val (.int p2), .val (.int (own_pick p1 p2)), .val (.int (own_len (own_pick p1 p2))), .val (.int (1 : Int32)), .val (.int (1 : Int32))] [(.int (1 : Int32))])) _
      refine XS.ifNo X103.here hx rfl (hb hby at_64) rfl ((if0 _ _).trans (feq (by decide : ¬ ((1 : Int32) = (0 : Int32)))).1) ?_
      show Steps p.tables e below (T103.setTop (mkF m 67 #[.val (.int p1), .val (.int p2), .val (.int (own_pick p1 p2)), .val (.int (own_len (own_pick p1 p2))), .val (.int (1 : Int32)), .val (.int (1 : Int32))] [])) _
      refine XS.iload X103.here hx rfl (hb hby at_67) rfl ?_
      show Steps p.tables e below (T103.setTop (mkF m 69 #[.val (.int p1), .val (.int p2), .val (.int (own_pick p1 p2)), .val (.int (own_len (own_pick p1 p2))), .val (.int (1 : Int32)), .val (.int (1 : Int32))] [(.int (1 : Int32))])) _
      refine XS.ifNo X103.here hx rfl (hb hby at_69) rfl ((if0 _ _).trans (feq (by decide : ¬ ((1 : Int32) = (0 : Int32)))).1) ?_
      show Steps p.tables e below (T103.setTop (mkF m 72 #[.val (.int p1), .val (.int p2), .val (.int (own_pick p1 p2)), .val (.int (own_len (own_pick p1 p2))), .val (.int (1 : Int32)), .val (.int (1 : Int32))] [])) _
      refine XS.iconst X103.here hx rfl (hb hby at_72) ?_
      show Steps p.tables e below (T103.setTop (mkF m 73 #[.val (.int p1), .val (.int p2), .val (.int (own_pick p1 p2)), .val (.int (own_len (own_pick p1 p2))), .val (.int (1 : Int32)), .val (.int (1 : Int32))] [(.int (1 : Int32))])) _
      refine XS.goto X103.here hx rfl (pc0 := 73) (pc' := 77) rfl (hb hby at_73) (by decide) (by decide) ?_
      show Steps p.tables e below (T103.setTop (mkF m 77 #[.val (.int p1), .val (.int p2), .val (.int (own_pick p1 p2)), .val (.int (own_len (own_pick p1 p2))), .val (.int (1 : Int32)), .val (.int (1 : Int32))] [(.int (1 : Int32))])) _
      exact retN X103 hx (t := .boolean) Bd.returns (by simp) (hb hby at_77) hr
    · show Q0 Z p1 p2 h0 n0 _ T103.heap _
      rw [P103_0]
      exact ⟨rfl, N103⟩
  · obtain ⟨_, _, ⟨T106, L106, k106, n106⟩, -, X106, ⟨Lc106, hQ106, l106, y106, z106⟩, st106⟩ := Jvm.LawKit.callS X103 hx (y := (⟨"holdfast/Utf8LengthPinLaw", "payloadBits", "(I)I"⟩ : MethodName)) hown (mvT hZ (hw _ (List.mem_of_getElem? (i := 8) rfl))) (mvT hZ (hw _ (List.mem_of_getElem? (i := 9) rfl))) (mvT hZ (hw _ (List.mem_of_getElem? (i := 2) rfl))) (mvT hZ (hw _ (List.mem_of_getElem? (i := 10) rfl))) (by decide) (backOf (W := 1) (rm3 l Z a0 hw [] ((own_len (own_pick p1 p2)) - (1 : Int32)) h0 n0 Z0 ) hZ (hw _ (List.mem_of_getElem? (i := 10) rfl)) (hw _ (List.mem_of_getElem? (i := 2) rfl)) (by decide) (by decide)) (g := (mkF m 48 #[.val (.int p1), .val (.int p2), .val (.int (own_pick p1 p2)), .val (.int (own_len (own_pick p1 p2))), .val (.int (1 : Int32)), .unset] [(.int ((own_len (own_pick p1 p2)) - (1 : Int32))), (.int (own_pick p1 p2))])) rfl (by rw [hml]; rfl) (argsL := [(.int ((own_len (own_pick p1 p2)) - (1 : Int32)))]) (rest := [(.int (own_pick p1 p2))]) (lenOf pd_1 rfl) rfl (by show 2 * 0 + _ ≤ _; exact Nat.le_of_eq rfl) (hb hby at_48) (fun _ _ => ⟨rfl, P103_0, (by decide : 0 + 0 ≤ _), (by decide : 0 + 0 ≤ _)⟩)
    dsimp only [Pt.U, Pt.locs, Pt.cells, Pt.slots] at X106 l106 y106 z106 st106 hQ106
    subst l106 y106 z106
    obtain ⟨rfl, N106q, P106_0⟩ := hQ106
    have N106 := Fr.app N103 N106q
    obtain ⟨fs, hr, hrun, hended, hW, hsame⟩ := X106.leave (v := some (.int (1 : Int32))) (fun h => by rw [Bd.returns] at h; cases h)
    refine ⟨_, _, pre0 _ ?_, hrun, hended, _, _, rfl, ?_, ⟨_, rfl⟩, hW, hsame.mono (by decide) (by decide)⟩
    · refine pr104 _ ?_
      show Steps p.tables e below (T103.setTop (mkF m 41 #[.val (.int p1), .val (.int p2), .val (.int (own_pick p1 p2)), .val (.int (own_len (own_pick p1 p2))), .val (.int (1 : Int32)), .unset] [(.int (1 : Int32)), (.int (own_len (own_pick p1 p2)))])) _
      refine XS.icmpNo X103.here hx rfl (hb hby at_41) rfl (feq hc105).1 ?_
      show Steps p.tables e below (T103.setTop (mkF m 44 #[.val (.int p1), .val (.int p2), .val (.int (own_pick p1 p2)), .val (.int (own_len (own_pick p1 p2))), .val (.int (1 : Int32)), .unset] [])) _
      refine XS.iloadN X103.here hx rfl (hb hby at_44) rfl ?_
      show Steps p.tables e below (T103.setTop (mkF m 45 #[.val (.int p1), .val (.int p2), .val (.int (own_pick p1 p2)), .val (.int (own_len (own_pick p1 p2))), .val (.int (1 : Int32)), .unset] [(.int (own_pick p1 p2))])) _
      refine XS.iloadN X103.here hx rfl (hb hby at_45) rfl ?_
      show Steps p.tables e below (T103.setTop (mkF m 46 #[.val (.int p1), .val (.int p2), .val (.int (own_pick p1 p2)), .val (.int (own_len (own_pick p1 p2))), .val (.int (1 : Int32)), .unset] [(.int (own_len (own_pick p1 p2))), (.int (own_pick p1 p2))])) _
      refine XS.iconst X103.here hx rfl (hb hby at_46) ?_
      show Steps p.tables e below (T103.setTop (mkF m 47 #[.val (.int p1), .val (.int p2), .val (.int (own_pick p1 p2)), .val (.int (own_len (own_pick p1 p2))), .val (.int (1 : Int32)), .unset] [(.int (1 : Int32)), (.int (own_len (own_pick p1 p2))), (.int (own_pick p1 p2))])) _
      refine XS.isub X103.here hx rfl (hb hby at_47) rfl ?_
      show Steps p.tables e below (T103.setTop (mkF m 48 #[.val (.int p1), .val (.int p2), .val (.int (own_pick p1 p2)), .val (.int (own_len (own_pick p1 p2))), .val (.int (1 : Int32)), .unset] [(.int ((own_len (own_pick p1 p2)) - (1 : Int32))), (.int (own_pick p1 p2))])) _
      refine st106 _ ?_
      show Steps p.tables e below (T106.setTop (mkF m 51 #[.val (.int p1), .val (.int p2), .val (.int (own_pick p1 p2)), .val (.int (own_len (own_pick p1 p2))), .val (.int (1 : Int32)), .unset] [(.int (own_pb ((own_len (own_pick p1 p2)) - (1 : Int32)))), (.int (own_pick p1 p2))])) _
      refine XS.iushr X106.here hx rfl (hb hby at_51) rfl ?_
      show Steps p.tables e below (T106.setTop (mkF m 52 #[.val (.int p1), .val (.int p2), .val (.int (own_pick p1 p2)), .val (.int (own_len (own_pick p1 p2))), .val (.int (1 : Int32)), .unset] [(.int (((own_pick p1 p2).toUInt32 >>> ((own_pb ((own_len (own_pick p1 p2)) - (1 : Int32))) &&& 31).toUInt32).toInt32))])) _
      refine XS.ifNo X106.here hx rfl (hb hby at_52) rfl ((if0 _ _).trans (feq (own_short _ (own_pick_rng p1 p2).1 (own_pick_rng p1 p2).2 hc105 : ¬ ((((own_pick p1 p2).toUInt32 >>> ((own_pb ((own_len (own_pick p1 p2)) - (1 : Int32))) &&& 31).toUInt32).toInt32) = (0 : Int32)))).1) ?_
      show Steps p.tables e below (T106.setTop (mkF m 55 #[.val (.int p1), .val (.int p2), .val (.int (own_pick p1 p2)), .val (.int (own_len (own_pick p1 p2))), .val (.int (1 : Int32)), .unset] [])) _
      refine XS.iconst X106.here hx rfl (hb hby at_55) ?_
      show Steps p.tables e below (T106.setTop (mkF m 56 #[.val (.int p1), .val (.int p2), .val (.int (own_pick p1 p2)), .val (.int (own_len (own_pick p1 p2))), .val (.int (1 : Int32)), .unset] [(.int (1 : Int32))])) _
      refine XS.goto X106.here hx rfl (pc0 := 56) (pc' := 60) rfl (hb hby at_56) (by decide) (by decide) ?_
      show Steps p.tables e below (T106.setTop (mkF m 60 #[.val (.int p1), .val (.int p2), .val (.int (own_pick p1 p2)), .val (.int (own_len (own_pick p1 p2))), .val (.int (1 : Int32)), .unset] [(.int (1 : Int32))])) _
      refine XS.istore X106.here hx rfl (hb hby at_60) rfl (l' := #[.val (.int p1), .val (.int p2), .val (.int (own_pick p1 p2)), .val (.int (own_len (own_pick p1 p2))), .val (.int (1 : Int32)), .val (.int (1 : Int32))]) rfl ?_
      show Steps p.tables e below (T106.setTop (mkF m 62 #[.val (.int p1), .val (.int p2), .val (.int (own_pick p1 p2)), .val (.int (own_len (own_pick p1 p2))), .val (.int (1 : Int32)), .val (.int (1 : Int32))] [])) _
      refine XS.iload X106.here hx rfl (hb hby at_62) rfl ?_
      show Steps p.tables e below (T106.setTop (mkF m 64 #[.val (.int p1), .val (.int p2), .val (.int (own_pick p1 p2)), .val (.int (own_len (own_pick p1 p2))), .val (.int (1 : Int32)), .val (.int (1 : Int32))] [(.int (1 : Int32))])) _
      refine XS.ifNo X106.here hx rfl (hb hby at_64) rfl ((if0 _ _).trans (feq (by decide : ¬ ((1 : Int32) = (0 : Int32)))).1) ?_
      show Steps p.tables e below (T106.setTop (mkF m 67 #[.val (.int p1), .val (.int p2), .val (.int (own_pick p1 p2)), .val (.int (own_len (own_pick p1 p2))), .val (.int (1 : Int32)), .val (.int (1 : Int32))] [])) _
      refine XS.iload X106.here hx rfl (hb hby at_67) rfl ?_
      show Steps p.tables e below (T106.setTop (mkF m 69 #[.val (.int p1), .val (.int p2), .val (.int (own_pick p1 p2)), .val (.int (own_len (own_pick p1 p2))), .val (.int (1 : Int32)), .val (.int (1 : Int32))] [(.int (1 : Int32))])) _
      refine XS.ifNo X106.here hx rfl (hb hby at_69) rfl ((if0 _ _).trans (feq (by decide : ¬ ((1 : Int32) = (0 : Int32)))).1) ?_
      show Steps p.tables e below (T106.setTop (mkF m 72 #[.val (.int p1), .val (.int p2), .val (.int (own_pick p1 p2)), .val (.int (own_len (own_pick p1 p2))), .val (.int (1 : Int32)), .val (.int (1 : Int32))] [])) _
      refine XS.iconst X106.here hx rfl (hb hby at_72) ?_
      show Steps p.tables e below (T106.setTop (mkF m 73 #[.val (.int p1), .val (.int p2), .val (.int (own_pick p1 p2)), .val (.int (own_len (own_pick p1 p2))), .val (.int (1 : Int32)), .val (.int (1 : Int32))] [(.int (1 : Int32))])) _
      refine XS.goto X106.here hx rfl (pc0 := 73) (pc' := 77) rfl (hb hby at_73) (by decide) (by decide) ?_
      show Steps p.tables e below (T106.setTop (mkF m 77 #[.val (.int p1), .val (.int p2), .val (.int (own_pick p1 p2)), .val (.int (own_len (own_pick p1 p2))), .val (.int (1 : Int32)), .val (.int (1 : Int32))] [(.int (1 : Int32))])) _
      exact retN X106 hx (t := .boolean) Bd.returns (by simp) (hb hby at_77) hr
    · show Q0 Z p1 p2 h0 n0 _ T106.heap _
      rw [P106_0]
      exact ⟨rfl, N106⟩
set_option maxRecDepth 65536 in
set_option maxHeartbeats 40000000 in
theorem comes_1 {Post : Tables → Env → Array Value → State → Outcome → State → Prop} (hpost : ∀ tb e args s v u, (limb_1_1.after args s (.returned v) u = true ∧ limb_1_2.after args s (.returned v) u = true ∧ True) → FrameEnd s (.returned v) u (Jvm.fieldLocs frame_1_writes args s ++ Jvm.arrayLocs frame_1_arrays args s ++ Jvm.staticLocs frame_1_statics s) 0 0 → Post tb e args s (.returned v) u) :
    ArmFor flags0 classFile x code maxLocals ret World_1 tables_1 room_1 Calls_1 rest_1 Pre_1 Post := by
  intro l hfl _ _ p e ha hc hk s m args below hf hA hF happ hP
  obtain ⟨hcalls, hrest, hpre⟩ := hP
  obtain ⟨-, -, -, hnamed, -, -, -, hat⟩ := (Spec.applies_iff hf).mp happ
  obtain ⟨hg, hn⟩ := and_e (Cond.before_iff.mp (show (Jvm.Cond.and given_1 narrow_1).before args s = true from hpre))
  obtain ⟨gg1, gg2⟩ := and_e hg
  obtain ⟨gg3, gg4⟩ := and_e gg2
  obtain ⟨w0, w1, rfl⟩ : ∃ w0 w1 : Value, args = #[w0, w1] := by
    have hs : args.size = 2 := by simpa [Cond.value, given_1] using gg1
    obtain ⟨L⟩ := args
    match L, hs with
    | [w0, w1], _ => exact ⟨w0, w1, rfl⟩
  have hw := fun d (hd : d ∈ tables_1) => atoms_spec (ws := Jvm.Cond.code x code maxLocals ret :: tables_1) hat d (List.mem_cons_of_mem _ hd)
  have hfit : Fit s := fun {y c} hc i hi => by
    obtain ⟨ha, rfl⟩ := Array.getElem?_eq_some_iff.mp hc
    have q := List.all_eq_true.mp ((Array.all_eq_true_iff_forall_mem.mp hF) _ (Array.getElem_mem ha)) i (List.mem_range.mpr hi)
    simpa [Array.getElem?_eq_getElem hi] using q
  obtain ⟨i0, ei0⟩ := is_v gg3
  obtain rfl : w0 = (.int i0) := Option.some.inj ei0
  obtain ⟨i1, ei1⟩ := is_v gg4
  obtain rfl : w1 = (.int i1) := Option.some.inj ei1
  obtain ⟨n, o, h1, h2, h3, _, L, rfl, ⟨rfl, N⟩, hq⟩ := rm0 l s _ hw tables_1 i0 i1  s.heap s.heap.size (Nat.le_refl _)  p e ha hc hk s m _ below hf ((Spec.applies_iff_loose hf).mp happ).1 ⟨rfl, State.Warmed39.refl s, rfl⟩ trivial
  refine ⟨n, _, h1, h2, h3, hpost _ _ _ _ _ _ ⟨Cond.after_iff.mpr rfl, Cond.after_iff.mpr (eq_i res_at (Term.int_eval (1)) rfl), trivial⟩ ⟨hq.1, hq.2.1, (hq.2.2.sift fun y hy => Or.inr (N y hy)).mono (by decide) (by decide)⟩⟩
theorem main_1_1 : Claimed_1_1 := comes_1 fun _ _ _ _ _ _ h hF => ⟨h.1, hF⟩
theorem main_1_2 : Claimed_1_2 := comes_1 fun _ _ _ _ _ _ h hF => ⟨h.2.1, hF⟩
end Jvm.Pilot.@@N@@
namespace Jvm.Pilot.@@N@@
open Jvm Jvm.ClassFile Sem Op Lib Jvm.Free Jvm.Stand Jvm.Pilot.@@N@@.Jvm.D
/-! MADE BY PROGRAM (witnessworld.py) out of the Statement's table words and the real class files: 9 classes; the members and pool entries that the words name. The judged class is class 1, her method 3. -/
namespace start1
open Jvm.ClassFile
def u (s : String) : CpInfo := .utf8 (stringToUtf16 s)
/-- a pool by its gaps: so many unusable entries, then the entry; so many at the end -/
def gap : Nat → List CpInfo → List CpInfo
  | 0, r => r
  | n + 1, r => .unusable :: gap n r
def poolList (es : List (Nat × CpInfo)) (last : Nat) : List CpInfo := es.foldr (fun e r => gap e.1 (e.2 :: r)) (gap last [])
def pool (es : List (Nat × CpInfo)) (last : Nat) : Array CpInfo := ⟨poolList es last⟩
def fileOf (pool : Array CpInfo) (this : Nat) (attrs : Array Attribute := #[]) (ms : Array MethodInfo := #[]) (fl : Nat := 33) (sup : Nat := 0) (ifs : Array Nat := #[]) (fds : Array FieldInfo := #[]) : ClassFile where
  minorVersion := 0
  majorVersion := 65
  constantPool := pool
  accessFlags := fl
  thisClass := this
  superClass := sup
  interfaces := ifs
  fields := fds
  methods := ms
  attributes := attrs
def plain (name : String) (sup : Option ClassId) : Class where
  name := name
  kind := .ordinary
  loader := none
  accessFlags := 33
  super := sup
  interfaces := #[]
  cf := none
  fields := #[]
  methods := #[]
  instanceTypes := #[]
  staticTypes := #[]
  resolved := #[]
  callSites := []
  init := .initialized
  statics := none
  mirror := none

def pool0 : Array CpInfo := pool [(5, u "<init>"), (0, u "()V"), (1, .class_ 10), (1, u "java/lang/Object")] 113

def k0m0 : Method := { name := "<init>", desc := "()V", sig := { parameters := [], returnType := none }, accessFlags := 1, code := none }
/-- java/lang/Object -/
def k0 : Class := { plain "java/lang/Object" none with
  accessFlags := 33
  interfaces := #[]
  cf := some (fileOf pool0 8 #[] #[{ accessFlags := 1, nameIndex := 5, descriptorIndex := 6, attributes := #[] }] 33 0 #[] #[])
  fields := #[]
  methods := #[k0m0]
  instanceTypes := #[]
  staticTypes := #[]
  resolved := Array.replicate 124 none
  statics := none }

def pool1 : Array CpInfo := pool [(2, .class_ 4), (1, u "java/lang/Object"), (0, u "<init>"), (0, u "()V"), (0, .integer 65536), (0, .integer 1114111), (0, .integer 2147483647), (0, .integer 1114112), (0, .methodref 12 13), (0, .class_ 14), (0, .nameAndType 15 16), (0, u "holdfast/Utf8LengthPinLaw"), (0, u "pick"), (0, u "(II)I"), (0, .methodref 18 19), (0, .class_ 20), (0, .nameAndType 21 22), (0, u "holdfast/Utf8"), (0, u "length"), (0, u "(I)I"), (0, .methodref 12 24), (0, .nameAndType 25 22), (0, u "payloadBits"), (3, u "law"), (0, u "(II)Z")] 2

def k1m0 : Method := { name := "<init>", desc := "()V", sig := { parameters := [], returnType := none }, accessFlags := 2, code := none }
def k1c1 : Code := { maxStack := 2, maxLocals := 1, code := method_2_code, exceptionTable := #[], attributes := #[] }
def k1m1 : Method := { name := "payloadBits", desc := "(I)I", sig := { parameters := [.int], returnType := some .int }, accessFlags := 10, code := some k1c1 }
def k1c2 : Code := { maxStack := 3, maxLocals := 4, code := method_3_code, exceptionTable := #[], attributes := #[] }
def k1m2 : Method := { name := "pick", desc := "(II)I", sig := { parameters := [.int, .int], returnType := some .int }, accessFlags := 10, code := some k1c2 }
def k1c3 : Code := { maxStack := 3, maxLocals := 6, code := code, exceptionTable := #[], attributes := #[] }
def k1m3 : Method := { name := "law", desc := "(II)Z", sig := { parameters := [.int, .int], returnType := some .boolean }, accessFlags := 9, code := some k1c3 }
/-- holdfast/Utf8LengthPinLaw -/
def k1 : Class := { plain "holdfast/Utf8LengthPinLaw" (some 0) with
  accessFlags := 49
  interfaces := #[]
  cf := some (fileOf pool1 12 #[] #[{ accessFlags := 2, nameIndex := 5, descriptorIndex := 6, attributes := #[] }, { accessFlags := 10, nameIndex := 25, descriptorIndex := 22, attributes := #[] }, { accessFlags := 10, nameIndex := 15, descriptorIndex := 16, attributes := #[] }, { accessFlags := 9, nameIndex := 29, descriptorIndex := 30, attributes := #[] }] 49 2 #[] #[])
  fields := #[]
  methods := #[k1m0, k1m1, k1m2, k1m3]
  instanceTypes := #[]
  staticTypes := #[]
  resolved := Array.replicate 33 none
  statics := none }

def pool2 : Array CpInfo := pool [(2, .class_ 4), (1, u "java/lang/Object"), (0, u "<init>"), (0, u "()V"), (1, .class_ 10), (1, u "holdfast/Utf8"), (14, u "length"), (0, u "(I)I"), (0, .integer 65536)] 40

def k2m0 : Method := { name := "<init>", desc := "()V", sig := { parameters := [], returnType := none }, accessFlags := 2, code := none }
def k2c1 : Code := { maxStack := 2, maxLocals := 1, code := prog_42_method_4_code, exceptionTable := #[], attributes := #[] }
def k2m1 : Method := { name := "length", desc := "(I)I", sig := { parameters := [.int], returnType := some .int }, accessFlags := 8, code := some k2c1 }
/-- holdfast/Utf8 -/
def k2 : Class := { plain "holdfast/Utf8" (some 0) with
  accessFlags := 48
  interfaces := #[]
  cf := some (fileOf pool2 8 #[] #[{ accessFlags := 2, nameIndex := 5, descriptorIndex := 6, attributes := #[] }, { accessFlags := 8, nameIndex := 25, descriptorIndex := 26, attributes := #[] }] 48 2 #[] #[])
  fields := #[]
  methods := #[k2m0, k2m1]
  instanceTypes := #[]
  staticTypes := #[]
  resolved := Array.replicate 68 none
  statics := none }

def pool3 : Array CpInfo := pool [(1, u "java/lang/Cloneable"), (0, .class_ 1), (0, u "java/lang/Object"), (0, .class_ 3)] 3

/-- java/lang/Cloneable -/
def k3 : Class := { plain "java/lang/Cloneable" (some 0) with
  accessFlags := 1537
  interfaces := #[]
  cf := some (fileOf pool3 2 #[] #[] 1537 4 #[] #[])
  fields := #[]
  methods := #[]
  instanceTypes := #[]
  staticTypes := #[]
  resolved := Array.replicate 8 none
  statics := none }

def pool4 : Array CpInfo := pool [(1, u "java/io/Serializable"), (0, .class_ 1), (0, u "java/lang/Object"), (0, .class_ 3)] 3

/-- java/io/Serializable -/
def k4 : Class := { plain "java/io/Serializable" (some 0) with
  accessFlags := 1537
  interfaces := #[]
  cf := some (fileOf pool4 2 #[] #[] 1537 4 #[] #[])
  fields := #[]
  methods := #[]
  instanceTypes := #[]
  staticTypes := #[]
  resolved := Array.replicate 8 none
  statics := none }

/-- the primitive byte -/
def k5 : Class := { plain "byte" none with kind := .primitive 'B', accessFlags := 0x411 }
/-- [B -/
def k6 : Class := { plain "[B" (some 0) with kind := .array 5 .byte, interfaces := #[3, 4], accessFlags := 1041 }

/-- the primitive int -/
def k7 : Class := { plain "int" none with kind := .primitive 'I', accessFlags := 0x411 }
/-- [I -/
def k8 : Class := { plain "[I" (some 0) with kind := .array 7 .int, interfaces := #[3, 4], accessFlags := 1041 }

def heap : Heap := #[]
def classes : Array Class := #[k0, k1, k2, k3, k4, k5, k6, k7, k8]
def interned : List (Array UInt16 × Addr) := []
def slotsUsed : Nat := 0
def theMethod : MethodId := ⟨1, 3⟩
def args0 : Array Value := #[.int 5, .int 7]
def aboutOver (below : List Frame) : State where
  vm := { classes := classes, interned := interned.toArray }
  heap := heap
  slotsUsed := slotsUsed
  threads := #[{ frames := .invoking theMethod args0 :: below }]
def below0 : List Frame := [.native { method := ⟨0, 0⟩, args := #[] }]
def about1 : State := aboutOver below0
def p0 : Program := .bare "" "" ""
def e0 : Env := launch0.env 0 0 0
theorem w_frames : about1.frames = Frame.invoking theMethod args0 :: below0 := rfl
set_option maxRecDepth 65536 in
theorem w_args : argsFit about1.vm theMethod args0 = true := by decide +kernel
set_option maxRecDepth 65536 in
theorem w_heap : heapFits about1 = true := by decide +kernel
set_option maxRecDepth 65536 in
theorem w_runnable : about1.curStatus? = some .runnable := by decide +kernel
set_option maxRecDepth 65536 in
theorem w_alone : about1.alone = true := by decide +kernel
set_option maxRecDepth 65536 in
theorem w_named : about1.methodNamed? x = some theMethod := by decide +kernel
set_option maxRecDepth 65536 in
theorem w_hears : about1.hears theMethod below0 = true := by decide +kernel
set_option maxRecDepth 65536 in
theorem w_ripe : about1.ripe theMethod args0 below0 = true := by decide +kernel
theorem w_running : about1.status = .running := rfl
set_option maxRecDepth 65536 in
theorem w_room : about1.hasRoom e0.platform room_1 = true :=
  launch0.hasRoom_least _ room_1 (by decide +kernel) (by decide +kernel) (by decide +kernel) (by decide +kernel) (by decide +kernel) (by decide +kernel)
theorem allAtoms_all (ts : List Jvm.Cond) (a : Array Jvm.Value) (st : Jvm.State) : (allAtoms ts).before a st = ts.all (fun c => c.before a st) := by
  induction ts with
  | nil => rfl
  | cons c t ih =>
    show (Jvm.Cond.and c (allAtoms t)).before a st = _
    rw [Jvm.Cond.before_and, ih, List.all_cons]
def words1 : List Jvm.Cond := Jvm.Cond.code x code maxLocals ret :: tables_1
/-- a 'code' word, met by the world's own term for the bytes: nothing is compared byte by byte -/
theorem code_word {y : MethodName} {bytes : ByteArray} {mx : Nat} {rt : Option FieldType} {a : Array Value} {s : State} {m : MethodId} {meth : Method} {c : Code} (h1 : s.methodNamed? y = some m) (h2 : s.vm.method? m = some meth) (h3 : meth.code = some c) (h4 : c.code = bytes)
    (h5 : (c.maxLocals == mx && c.exceptionTable.isEmpty && decide (c.maxStack ≤ mostOperands) && decide (meth.sig.returnType = rt) && !meth.locks && decide (parseMethodDescriptor y.desc = some meth.sig)) = true) : (Jvm.Cond.code y bytes mx rt).before a s = true := by
  simp only [Bool.and_eq_true, beq_iff_eq, Bool.not_eq_true', decide_eq_true_eq] at h5
  obtain ⟨⟨⟨⟨⟨g1, g2⟩, g3⟩, g4⟩, g5⟩, g6⟩ := h5
  simp [Cond.before, Cond.holds, Cond.value, h1, h2, h3, h4, g1, g2, g3, g4, g5, g6]
def isCode : Jvm.Cond → Bool
  | .code _ _ _ _ => true
  | _ => false
theorem all_split {L : List Jvm.Cond} {P : Jvm.Cond → Bool} (h1 : L.all (fun c => isCode c || P c) = true) (h2 : ∀ c ∈ L.filter isCode, P c = true) : L.all P = true := by
  refine List.all_eq_true.mpr fun c hc => ?_
  have h := List.all_eq_true.mp h1 c hc
  rcases Bool.eq_false_or_eq_true (isCode c) with hi | hi
  · exact h2 c (List.mem_filter.mpr ⟨hc, hi⟩)
  · simpa [hi] using h
set_option maxRecDepth 65536 in
theorem w_c0 : (Jvm.Cond.code x code maxLocals ret).before args0 about1 = true := code_word (m := ⟨1, 3⟩) (meth := k1m3) (c := k1c3) (by decide +kernel) rfl rfl rfl (by decide +kernel)
set_option maxRecDepth 65536 in
theorem w_c1 : (Jvm.Cond.code ({ cls := "holdfast/Utf8LengthPinLaw", name := "pick", desc := "(II)I" } : Jvm.MethodName) method_3_code (4 : Nat) (Option.some Jvm.ClassFile.FieldType.int)).before args0 about1 = true := code_word (m := ⟨1, 2⟩) (meth := k1m2) (c := k1c2) (by decide +kernel) rfl rfl rfl (by decide +kernel)
set_option maxRecDepth 65536 in
theorem w_c2 : (Jvm.Cond.code ({ cls := "holdfast/Utf8", name := "length", desc := "(I)I" } : Jvm.MethodName) prog_42_method_4_code (1 : Nat) (Option.some Jvm.ClassFile.FieldType.int)).before args0 about1 = true := code_word (m := ⟨2, 1⟩) (meth := k2m1) (c := k2c1) (by decide +kernel) rfl rfl rfl (by decide +kernel)
set_option maxRecDepth 65536 in
theorem w_c3 : (Jvm.Cond.code ({ cls := "holdfast/Utf8LengthPinLaw", name := "payloadBits", desc := "(I)I" } : Jvm.MethodName) method_2_code (1 : Nat) (Option.some Jvm.ClassFile.FieldType.int)).before args0 about1 = true := code_word (m := ⟨1, 1⟩) (meth := k1m1) (c := k1c1) (by decide +kernel) rfl rfl rfl (by decide +kernel)
def codes1 : List Jvm.Cond := [Jvm.Cond.code x code maxLocals ret, Jvm.Cond.code ({ cls := "holdfast/Utf8LengthPinLaw", name := "pick", desc := "(II)I" } : Jvm.MethodName) method_3_code (4 : Nat) (Option.some Jvm.ClassFile.FieldType.int), Jvm.Cond.code ({ cls := "holdfast/Utf8", name := "length", desc := "(I)I" } : Jvm.MethodName) prog_42_method_4_code (1 : Nat) (Option.some Jvm.ClassFile.FieldType.int), Jvm.Cond.code ({ cls := "holdfast/Utf8LengthPinLaw", name := "payloadBits", desc := "(I)I" } : Jvm.MethodName) method_2_code (1 : Nat) (Option.some Jvm.ClassFile.FieldType.int)]
set_option maxRecDepth 65536 in
theorem codes_eq : words1.filter isCode = codes1 := rfl
theorem w_codes : ∀ c ∈ words1.filter isCode, c.before args0 about1 = true := by
  rw [codes_eq]
  intro c hc
  simp only [codes1, List.mem_cons, List.not_mem_nil, or_false] at hc
  rcases hc with rfl | rfl | rfl | rfl
  · exact w_c0
  · exact w_c1
  · exact w_c2
  · exact w_c3
set_option maxRecDepth 65536 in
theorem w_t1 : words1.all (fun c => isCode c || c.before args0 about1) = true := by decide +kernel
theorem w_tables : (allAtoms (Jvm.Cond.code x code maxLocals ret :: tables_1)).before args0 about1 = true := by
  rw [allAtoms_all]
  show words1.all (fun c => c.before args0 about1) = true
  refine all_split ?_ w_codes
  rw [w_t1]
set_option maxRecDepth 65536 in
theorem w_case : (Jvm.Cond.and given_1 narrow_1).before args0 about1 = true := by decide +kernel
theorem w_applies : (headSpec (Jvm.Cond.code x code maxLocals ret :: tables_1) room_1).applies x e0.platform about1 = true :=
  (Spec.applies_iff w_frames).mpr ⟨w_running, w_runnable, w_alone, w_named, w_hears, w_ripe, w_room, w_tables⟩
theorem atStart : AtStart classFile x code maxLocals ret World_1 tables_1 room_1 Calls_1 rest_1 Pre_1 launch0 p0 e0 about1 theMethod args0 below0 :=
  ⟨lists_1, trivial, launch0.admits_env _ _ _, launch0.least_env, fairChoices_fair.cas, fairChoices_fair.clock, w_frames, w_args, w_heap, w_applies, trivial, trivial, w_case⟩
end start1
theorem witness_1 : WitnessClaimed_1 := ⟨start1.p0, start1.e0, start1.about1, start1.theMethod, start1.args0, start1.below0, start1.atStart⟩
end Jvm.Pilot.@@N@@
