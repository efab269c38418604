import JvmDerived
import JvmDerived.Pilot.@@N@@Statement
import JvmDerived.Pilot.@@N@@Code
set_option linter.unusedVariables false
set_option linter.unusedSimpArgs false
namespace Jvm.RoadKit
open Sem ClassFile Op Lib Jvm.Stand Jvm.Free Jvm.LawKit
section New
variable {p : Program} {l : Launch} {e : Env} {R : Room} {s : State} {m : MethodId} {args : Array Value} {below : List Frame} {meth : Method} {c : Code} {T : State} {locs : List Loc} {cells slots : Nat}
theorem retI (X : Stand p l e R s m args below meth c T locs cells slots) (hx : p.tables.exec = Jvm.exec) {pc : Nat} {Ls : Array Slot} {z : Int32} {rest : List Value} (hret : meth.sig.returnType = some .int) (hd : decode c.code pc = .ok (.ireturn, 1)) {fs : List Frame}
    (hl : ∀ (f : JFrame) (acts : List Action), f.method = m → f.locked = none → f.entered = [] → (doReturn e (T.setTop f) acts (some (.int z))).1 = T.setFrames fs) : Steps p.tables e below (T.setTop (mkF m pc Ls (.int z :: rest))) (T.setFrames fs) := by
  have hm' : T.vm.method? m = some meth := X.method'
  have hn : narrow .int (.int z) = .int z := rfl
  show Steps p.tables e below (T.setTop { method := m, pc := pc, locals := Ls, stack := _ :: rest, locked := none }) _
  jvm_step X.here [X.here.top, hx, hd, hm', hret, hn]
  first | (intro acts; rw [hl _ acts rfl rfl rfl]) | rw [hl _ _ rfl rfl rfl]
  exact Steps.refl _
end New
end Jvm.RoadKit
namespace Jvm.Pilot.@@N@@
open Jvm Jvm.ClassFile Sem Op Lib Jvm.Free Jvm.Stand Jvm.LawKit Jvm.RoadKit Bundle Jvm.Pilot.@@N@@.Jvm.D
theorem own_eqI {args : Array Value} {s : State} {t : Term} {k : Int32} (h : (Jvm.Cond.eq t (Jvm.Term.int k)).value args s none s [] = some true) : t.eval args s none [] s = some (.int k) := by
  obtain ⟨x, y, hx, hy, k1, k2⟩ := cmp_v (Or.inl h)
  obtain rfl : Value.int k = y := Option.some.inj ((Term.int_eval k).symm.trans hy)
  cases x <;> first | (rw [hx]; exact congrArg (fun z => some (Value.int z)) (by simpa [Cond.value, hx, hy] using h)) | (obtain ⟨z, hz⟩ := k1; cases hz; done) | (exact absurd k1.2 (by decide))
theorem own_eqL {args : Array Value} {s : State} {t : Term} {k : Int64} (h : (Jvm.Cond.eq t (Jvm.Term.long k)).value args s none s [] = some true) : t.eval args s none [] s = some (.long k) := by
  obtain ⟨x, y, hx, hy, k1, k2⟩ := cmp_v (Or.inl h)
  obtain rfl : Value.long k = y := Option.some.inj ((long_at k).symm.trans hy)
  cases x <;> first | (rw [hx]; exact congrArg (fun z => some (Value.long z)) (by simpa [Cond.value, hx, hy] using h)) | (obtain ⟨z, hz⟩ := k1; cases hz; done) | (exact absurd k1.2 (by decide))
theorem own_set_miss (c : Cell) (j i : Nat) (v : Value) (h : ¬ i = j) : (c.setSlot j v).slots[i]? = c.slots[i]? := by
  unfold Cell.setSlot; rw [Array.getElem?_setIfInBounds_ne (fun q => h q.symm)]
def OwnLng (Z : State) (h : Heap) (a : Addr) : Prop := ∃ cl : Cell, Arr Z h a cl .long ∧ cl.slots.size = 16384
theorem OwnLng.lt {Z : State} {h : Heap} {a : Addr} (F : OwnLng Z h a) : a < h.size := by obtain ⟨c, A, -⟩ := F; exact A.lt
theorem OwnLng.ext {Z : State} {h h' : Heap} {a : Addr} (F : OwnLng Z h a) (E : Ext h h') : OwnLng Z h' a := by obtain ⟨c, A, r⟩ := F; exact ⟨c, A.ext E, r⟩
theorem OwnLng.other {Z : State} {h h' : Heap} {a b : Addr} {sl : Nat} {v : Value} (F : OwnLng Z h b) (W : Wr h h' a sl v) (q : b ≠ a) : OwnLng Z h' b := by obtain ⟨c, A, r⟩ := F; exact ⟨c, A.other W q, r⟩
theorem OwnLng.keep {Z : State} {h h' : Heap} {a : Addr} {ws : List Addr} (F : OwnLng Z h a) (K : Keep h h' ws) (q : a ∉ ws) : OwnLng Z h' a := by obtain ⟨c, A, r⟩ := F; exact ⟨c, ⟨K.2.1 a c A.1 q, A.2⟩, r⟩
theorem OwnLng.new {Z : State} {h : Heap} {a : Addr} {k : ClassId} (A : Arr Z h a (newA k .long (16384 : Int32)) .long) : OwnLng Z h a := ⟨_, A, (sz_new _ _ _).trans (by decide)⟩
theorem OwnLng.same {Z : State} {h h' : Heap} {a : Addr} {cl : Cell} {j : Nat} {v : Value} (A : Arr Z h a cl .long) (S : cl.slots.size = 16384) (W : Wr h h' a j v) : OwnLng Z h' a := ⟨_, A.same W, by rw [sz_set]; exact S⟩
def OwnTg (Z : State) (h : Heap) (a : Addr) (g : Nat → Option Int32) : Prop := ∃ cl : Cell, Arr Z h a cl .int ∧ cl.slots.size = 16384 ∧ ∀ i x, g i = some x → cl.slots[i]? = some (.int x)
theorem OwnTg.lt {Z : State} {h : Heap} {a : Addr} {g : Nat → Option Int32} (F : OwnTg Z h a g) : a < h.size := by obtain ⟨c, A, -⟩ := F; exact A.lt
theorem OwnTg.ext {Z : State} {h h' : Heap} {a : Addr} {g : Nat → Option Int32} (F : OwnTg Z h a g) (E : Ext h h') : OwnTg Z h' a g := by obtain ⟨c, A, r⟩ := F; exact ⟨c, A.ext E, r⟩
theorem OwnTg.other {Z : State} {h h' : Heap} {a b : Addr} {sl : Nat} {v : Value} {g : Nat → Option Int32} (F : OwnTg Z h b g) (W : Wr h h' a sl v) (q : b ≠ a) : OwnTg Z h' b g := by obtain ⟨c, A, r⟩ := F; exact ⟨c, A.other W q, r⟩
theorem OwnTg.keep {Z : State} {h h' : Heap} {a : Addr} {ws : List Addr} {g : Nat → Option Int32} (F : OwnTg Z h a g) (K : Keep h h' ws) (q : a ∉ ws) : OwnTg Z h' a g := by obtain ⟨c, A, r⟩ := F; exact ⟨c, ⟨K.2.1 a c A.1 q, A.2⟩, r⟩
def own_none : Nat → Option Int32 := fun _ => none
def own_up (g : Nat → Option Int32) (j x : Int32) : Nat → Option Int32 := fun i => if i = j.toNatClampNeg then some x else g i
theorem OwnTg.new {Z : State} {h : Heap} {a : Addr} {k : ClassId} (A : Arr Z h a (newA k .int (16384 : Int32)) .int) : OwnTg Z h a own_none := ⟨_, A, (sz_new _ _ _).trans (by decide), fun i x q => nomatch q⟩
theorem OwnTg.same {Z : State} {h h' : Heap} {a : Addr} {cl : Cell} {j x : Int32} {g : Nat → Option Int32} (A : Arr Z h a cl .int) (S : cl.slots.size = 16384) (H : ∀ i x, g i = some x → cl.slots[i]? = some (.int x)) (hj : ¬ (j < 0 ∨ cl.slots.size ≤ j.toNatClampNeg)) (W : Wr h h' a j.toNatClampNeg (.int x)) : OwnTg Z h' a (own_up g j x) := by
  refine ⟨_, A.same W, by rw [sz_set]; exact S, fun i y q => ?_⟩
  unfold own_up at q
  split at q
  · rename_i e; cases q; rw [e]; exact get_hit hj rfl
  · rename_i e; rw [← H i y q]; exact own_set_miss _ _ _ _ (fun z => e z)
theorem own_in {j : Int32} {n : Nat} (hn : n = 16384) (h : ¬ j < (0 : Int32) ∧ j < (16384 : Int32)) : ¬ (j < 0 ∨ n ≤ j.toNatClampNeg) := by
  subst hn
  have q := inb_of (z := (16384 : Int32)) (j := j) (c := newA 0 .int (16384 : Int32)) (sz_new _ _ _) h
  rw [sz_new] at q; exact q
theorem pn_0 : plainName "holdfast/CountedIds$Batch" = true := by first | (simp [plainName, overriddenIn]; done) | decide +kernel
theorem ef_1 (m : MethodId) (x0 : Addr) : entryFrame m #[(.ref x0)] 1 = mkF m 0 #[.val (.ref x0)] [] := by first | (simp [entryFrame, mkF, argsToLocals, Value.category]; done) | rfl
theorem d1_0 : decode prog_10_method_1_code 0 = .ok (.aload_n 0, 1) := by decide +kernel
theorem d1_1 : decode prog_10_method_1_code 1 = .ok (.invokespecial 1, 3) := by decide +kernel
theorem d1_4 : decode prog_10_method_1_code 4 = .ok (.aload_n 0, 1) := by decide +kernel
theorem d1_5 : decode prog_10_method_1_code 5 = .ok (.bipush 64, 2) := by decide +kernel
theorem d1_7 : decode prog_10_method_1_code 7 = .ok (.anewarray 9, 3) := by decide +kernel
theorem d1_10 : decode prog_10_method_1_code 10 = .ok (.putfield 11, 3) := by decide +kernel
theorem d1_13 : decode prog_10_method_1_code 13 = .ok (.aload_n 0, 1) := by decide +kernel
theorem d1_14 : decode prog_10_method_1_code 14 = .ok (.bipush 64, 2) := by decide +kernel
theorem d1_16 : decode prog_10_method_1_code 16 = .ok (.anewarray 15, 3) := by decide +kernel
theorem d1_19 : decode prog_10_method_1_code 19 = .ok (.putfield 17, 3) := by decide +kernel
theorem d1_22 : decode prog_10_method_1_code 22 = .ok (.aload_n 0, 1) := by decide +kernel
theorem d1_23 : decode prog_10_method_1_code 23 = .ok (.bipush 64, 2) := by decide +kernel
theorem d1_25 : decode prog_10_method_1_code 25 = .ok (.anewarray 9, 3) := by decide +kernel
theorem d1_28 : decode prog_10_method_1_code 28 = .ok (.putfield 21, 3) := by decide +kernel
theorem d1_31 : decode prog_10_method_1_code 31 = .ok (.aload_n 0, 1) := by decide +kernel
theorem d1_32 : decode prog_10_method_1_code 32 = .ok (.bipush 64, 2) := by decide +kernel
theorem d1_34 : decode prog_10_method_1_code 34 = .ok (.anewarray 15, 3) := by decide +kernel
theorem d1_37 : decode prog_10_method_1_code 37 = .ok (.putfield 24, 3) := by decide +kernel
theorem d1_40 : decode prog_10_method_1_code 40 = .ok (.aload_n 0, 1) := by decide +kernel
theorem d1_41 : decode prog_10_method_1_code 41 = .ok (.iconst 1, 1) := by decide +kernel
theorem d1_42 : decode prog_10_method_1_code 42 = .ok (.putfield 27, 3) := by decide +kernel
theorem d1_45 : decode prog_10_method_1_code 45 = .ok (.return_, 1) := by decide +kernel
def Q1 (Z : State) (a1 : Addr) (h0 : Heap) (n0 : Nat) (v : Option Value) (h : Heap) (L : List Loc) : Prop := ∃ d : Addr, ∃ t : Addr, ∃ kd : ClassId, ∃ kt : ClassId, v = none ∧ Fr n0 L ∧ (Keep h0 h [a1]) ∧ (h0.size ≤ d) ∧ (h0.size ≤ t) ∧ (d ≠ t) ∧ (Fld Z h a1 "holdfast/CountedIds$Batch" "digests" "[[J" (.ref d)) ∧ (Fld Z h a1 "holdfast/CountedIds$Batch" "tags" "[[I" (.ref t)) ∧ (Fld Z h a1 "holdfast/CountedIds$Batch" "size" "I" (.int (0 : Int32))) ∧ (Fld Z h a1 "holdfast/CountedIds$Batch" "sorted" "Z" (.int (1 : Int32))) ∧ (Arv Z h d kd (.array .long) (64 : Int32) [.null] .null) ∧ (Arv Z h t kt (.array .int) (64 : Int32) [.null] .null) ∧ (OvrA Z kd .long "[J") ∧ (OvrA Z kt .int "[I")
set_option maxRecDepth 65536 in
set_option maxHeartbeats 40000000 in
theorem rm1 (l : Launch) (Z : State) (a0 : Array Value) (hw : ∀ d ∈ tables_1, d.before a0 Z = true) (ws : List Jvm.Cond) (a1 : Addr) (h0 : Heap) (n0 : Nat) (Z0 : n0 ≤ h0.size) (E1 : Exa Z h0 a1 "holdfast/CountedIds$Batch") (g1 : n0 ≤ a1) (F1 : Fld Z h0 a1 "holdfast/CountedIds$Batch" "digests" "[[J" .null) (F2 : Fld Z h0 a1 "holdfast/CountedIds$Batch" "tags" "[[I" .null) (F3 : Fld Z h0 a1 "holdfast/CountedIds$Batch" "spareDigests" "[[J" .null) (F4 : Fld Z h0 a1 "holdfast/CountedIds$Batch" "spareTags" "[[I" .null) (F5 : Fld Z h0 a1 "holdfast/CountedIds$Batch" "sorted" "Z" (.int (0 : Int32))) (F6 : Fld Z h0 a1 "holdfast/CountedIds$Batch" "size" "I" (.int (0 : Int32))) :
    MetFree l (⟨"holdfast/CountedIds$Batch", "<init>", "()V"⟩ : MethodName) (head1 (Jvm.Cond.code (⟨"holdfast/CountedIds$Batch", "<init>", "()V"⟩ : MethodName) prog_10_method_1_code 1 none :: ws) ({ frames := 1, cells := 4, slots := 256, locals := 12 } : Room)) (fun a U => a = #[(.ref a1)] ∧ Z.Warmed39 U.vm ∧ U.heap = h0) (fun _ _ _ _ _ => True) (fun _ U o U' => ∃ v L, o = .returned v ∧ Q1 Z a1 h0 n0 v U'.heap L ∧ FrameEnd U o U' L ({ frames := 1, cells := 4, slots := 256, locals := 12 } : Room).cells ({ frames := 1, cells := 4, slots := 256, locals := 12 } : Room).slots) := by
  refine MetFree.of_bodySF (plainFor_of_name pn_0) hisR ?_
  intro p e s m args below meth c s₁ Bd hml0 hP hK
  obtain ⟨rfl, hZ0, hh⟩ := hP
  have hx := Bd.exec
  have hby := Bd.bytes
  have hml : c.maxLocals = 1 := hml0
  have hown0 : s.vm.findClass "holdfast/CountedIds$Batch" = some m.cls := findClass_of_methodNamed Bd.named
  have hnm := (name_of_methodNamed Bd.named Bd.method).1
  have hlk : meth.locks = false := by first | exact BodyLoose.notSynchronized Bd | exact Body.notSynchronized Bd
  have X0 : Stand p l e ({ frames := 1, cells := 4, slots := 256, locals := 12 } : Room) s m #[(.ref a1)] below meth c s₁ [] 0 0 := Stand.of_body Bd
  have e0 : s₁.heap = h0 := by rw [← hh, Bd.state]; rfl
  have N0 := Fr.nil n0
  have pre0 : ∀ t, Steps p.tables e below (s₁.setTop (mkF m 0 #[.val (.ref a1)] [])) t → Steps p.tables e below (s₁.setTop (entryFrame m #[(.ref a1)] 1)) t := fun t k => castTop (ef_1 m a1) k
  obtain ⟨T101, X101, e101, st101⟩ := initO X0 hx hZ0 hown0 (hw _ (List.mem_of_getElem? (i := 6) rfl)) (hw _ (List.mem_of_getElem? (i := 7) rfl)) (hw _ (List.mem_of_getElem? (i := 8) rfl)) e0 (g := (mkF m 1 #[.val (.ref a1)] [(.ref a1)])) rfl (by rw [hml]; rfl) rfl (hb hby d1_1) (by decide) (W := 0) (by show 2 * 0 + _ ≤ _; exact Nat.le_of_eq rfl) (by decide)
  obtain ⟨T102, h102, k102, X102, e102, E102, A102, x102, O102, st102⟩ := newRA X101 hx hZ0 hown0 (C := "[J") (ty := .long) (by first | rfl | decide) (hw _ (List.mem_of_getElem? (i := 9) rfl)) (hw _ (List.mem_of_getElem? (i := 10) rfl)) e101 (g := (mkF m 7 #[.val (.ref a1)] [(.int (64 : Int32)), (.ref a1)])) rfl (hb hby d1_7) rfl (by decide) (cap := 64) (by decide) (by decide) (by decide) (by decide) (ad := "[[J") (by decide)
  obtain ⟨b102, g102⟩ : ∃ z, z = h0.size := ⟨_, rfl⟩
  rw [← g102] at A102 x102 st102
  have ne_a1_b102 : a1 ≠ b102 := Nat.ne_of_lt (Nat.lt_of_lt_of_le E1.lt (Nat.le_of_eq g102.symm))
  have gn_b102 : n0 ≤ b102 := Nat.le_trans Z0 (Nat.le_of_eq g102.symm)
  have sz_b102 : h0.size ≤ b102 := Nat.le_trans (Keep.refl h0 [a1]).1 (Nat.le_of_eq g102.symm)
  have f103 : Exa Z h102 a1 "holdfast/CountedIds$Batch" := Exa.ext E102 E1
  have f104 : Fld Z h102 a1 "holdfast/CountedIds$Batch" "digests" "[[J" .null := Fld.ext E102 F1
  have f105 : Fld Z h102 a1 "holdfast/CountedIds$Batch" "tags" "[[I" .null := Fld.ext E102 F2
  have f106 : Fld Z h102 a1 "holdfast/CountedIds$Batch" "spareDigests" "[[J" .null := Fld.ext E102 F3
  have f107 : Fld Z h102 a1 "holdfast/CountedIds$Batch" "spareTags" "[[I" .null := Fld.ext E102 F4
  have f108 : Fld Z h102 a1 "holdfast/CountedIds$Batch" "sorted" "Z" (.int (0 : Int32)) := Fld.ext E102 F5
  have f109 : Fld Z h102 a1 "holdfast/CountedIds$Batch" "size" "I" (.int (0 : Int32)) := Fld.ext E102 F6
  have Zs102 : n0 ≤ h102.size := Nat.le_trans Z0 E102.1
  have K102 : Keep h0 h102 [a1] := (Keep.refl h0 [a1]).ext E102
  have v102 : Arv Z h102 b102 k102 (.array .long) (64 : Int32) [.null] .null := (Arv.new A102 (by decide)).pad (pad_rep [] .null 1)
  obtain ⟨T110, h110, X110, e110, W110, st110⟩ := putF X102 hx hZ0 hown0 (host := "") (Or.inl (hw _ (List.mem_of_getElem? (i := 11) rfl))) Via.refl e102 f104 f103 (Or.inl (hw _ (List.mem_of_getElem? (i := 12) rfl))) (hw _ (List.mem_of_getElem? (i := 1) rfl)) (ty := (.array (.array .long))) (by decide) rfl rfl (g := (mkF m 10 #[.val (.ref a1)] [(.ref b102), (.ref a1)])) rfl rfl (hb hby d1_10)
  have f111 : Exa Z h110 a1 "holdfast/CountedIds$Batch" := Exa.wr W110 f103
  have f112 : Fld Z h110 a1 "holdfast/CountedIds$Batch" "tags" "[[I" .null := Fld.other W110 f105 (Or.inr (slot_ne (Or.inl (hw _ (List.mem_of_getElem? (i := 16) rfl))) (Or.inl (hw _ (List.mem_of_getElem? (i := 12) rfl))) (by decide) (t := (.array (.array .int))) (t' := (.array (.array .long))) (by decide) (by decide)))
  have f113 : Fld Z h110 a1 "holdfast/CountedIds$Batch" "spareDigests" "[[J" .null := Fld.other W110 f106 (Or.inr (slot_ne (Or.inl (hw _ (List.mem_of_getElem? (i := 18) rfl))) (Or.inl (hw _ (List.mem_of_getElem? (i := 12) rfl))) (by decide) (t := (.array (.array .long))) (t' := (.array (.array .long))) (by decide) (by decide)))
  have f114 : Fld Z h110 a1 "holdfast/CountedIds$Batch" "spareTags" "[[I" .null := Fld.other W110 f107 (Or.inr (slot_ne (Or.inl (hw _ (List.mem_of_getElem? (i := 20) rfl))) (Or.inl (hw _ (List.mem_of_getElem? (i := 12) rfl))) (by decide) (t := (.array (.array .int))) (t' := (.array (.array .long))) (by decide) (by decide)))
  have f115 : Fld Z h110 a1 "holdfast/CountedIds$Batch" "sorted" "Z" (.int (0 : Int32)) := Fld.other W110 f108 (Or.inr (slot_ne (Or.inl (hw _ (List.mem_of_getElem? (i := 22) rfl))) (Or.inl (hw _ (List.mem_of_getElem? (i := 12) rfl))) (by decide) (t := .boolean) (t' := (.array (.array .long))) (by decide) (by decide)))
  have f116 : Fld Z h110 a1 "holdfast/CountedIds$Batch" "size" "I" (.int (0 : Int32)) := Fld.other W110 f109 (Or.inr (slot_ne (Or.inl (hw _ (List.mem_of_getElem? (i := 29) rfl))) (Or.inl (hw _ (List.mem_of_getElem? (i := 12) rfl))) (by decide) (t := .int) (t' := (.array (.array .long))) (by decide) (by decide)))
  have f117 : Arv Z h110 b102 k102 (.array .long) (64 : Int32) [.null] .null := v102.other W110 (Ne.symm ne_a1_b102)
  have f118 : Fld Z h110 a1 "holdfast/CountedIds$Batch" "digests" "[[J" (.ref b102) := f104.same W110
  have Zs110 : n0 ≤ h110.size := Nat.le_trans Zs102 (Keep.of_wr W110).1
  have N110 := Fr.snoc X110 N0 g1
  have K110 : Keep h0 h110 [a1] := K102.wr W110 (Or.inl (List.mem_of_getElem? (i := 0) rfl))
  obtain ⟨T119, h119, k119, X119, e119, E119, A119, x119, O119, st119⟩ := newRA X110 hx hZ0 hown0 (C := "[I") (ty := .int) (by first | rfl | decide) (hw _ (List.mem_of_getElem? (i := 13) rfl)) (hw _ (List.mem_of_getElem? (i := 14) rfl)) e110 (g := (mkF m 16 #[.val (.ref a1)] [(.int (64 : Int32)), (.ref a1)])) rfl (hb hby d1_16) rfl (by decide) (cap := 64) (by decide) (by decide) (by decide) (by decide) (ad := "[[I") (by decide)
  obtain ⟨b119, g119⟩ : ∃ z, z = h110.size := ⟨_, rfl⟩
  rw [← g119] at A119 x119 st119
  have ne_a1_b119 : a1 ≠ b119 := Nat.ne_of_lt (Nat.lt_of_lt_of_le f111.lt (Nat.le_of_eq g119.symm))
  have ne_b102_b119 : b102 ≠ b119 := Nat.ne_of_lt (Nat.lt_of_lt_of_le f117.lt (Nat.le_of_eq g119.symm))
  have gn_b119 : n0 ≤ b119 := Nat.le_trans Zs110 (Nat.le_of_eq g119.symm)
  have sz_b119 : h0.size ≤ b119 := Nat.le_trans K110.1 (Nat.le_of_eq g119.symm)
  have f120 : Exa Z h119 a1 "holdfast/CountedIds$Batch" := Exa.ext E119 f111
  have f121 : Fld Z h119 a1 "holdfast/CountedIds$Batch" "tags" "[[I" .null := Fld.ext E119 f112
  have f122 : Fld Z h119 a1 "holdfast/CountedIds$Batch" "spareDigests" "[[J" .null := Fld.ext E119 f113
  have f123 : Fld Z h119 a1 "holdfast/CountedIds$Batch" "spareTags" "[[I" .null := Fld.ext E119 f114
  have f124 : Fld Z h119 a1 "holdfast/CountedIds$Batch" "sorted" "Z" (.int (0 : Int32)) := Fld.ext E119 f115
  have f125 : Fld Z h119 a1 "holdfast/CountedIds$Batch" "size" "I" (.int (0 : Int32)) := Fld.ext E119 f116
  have f126 : Arv Z h119 b102 k102 (.array .long) (64 : Int32) [.null] .null := f117.ext E119
  have f127 : Fld Z h119 a1 "holdfast/CountedIds$Batch" "digests" "[[J" (.ref b102) := Fld.ext E119 f118
  have Zs119 : n0 ≤ h119.size := Nat.le_trans Zs110 E119.1
  have K119 : Keep h0 h119 [a1] := K110.ext E119
  have v119 : Arv Z h119 b119 k119 (.array .int) (64 : Int32) [.null] .null := (Arv.new A119 (by decide)).pad (pad_rep [] .null 1)
  obtain ⟨T128, h128, X128, e128, W128, st128⟩ := putF X119 hx hZ0 hown0 (host := "") (Or.inl (hw _ (List.mem_of_getElem? (i := 15) rfl))) Via.refl e119 f121 f120 (Or.inl (hw _ (List.mem_of_getElem? (i := 16) rfl))) (hw _ (List.mem_of_getElem? (i := 1) rfl)) (ty := (.array (.array .int))) (by decide) rfl rfl (g := (mkF m 19 #[.val (.ref a1)] [(.ref b119), (.ref a1)])) rfl rfl (hb hby d1_19)
  have f129 : Exa Z h128 a1 "holdfast/CountedIds$Batch" := Exa.wr W128 f120
  have f130 : Fld Z h128 a1 "holdfast/CountedIds$Batch" "spareDigests" "[[J" .null := Fld.other W128 f122 (Or.inr (slot_ne (Or.inl (hw _ (List.mem_of_getElem? (i := 18) rfl))) (Or.inl (hw _ (List.mem_of_getElem? (i := 16) rfl))) (by decide) (t := (.array (.array .long))) (t' := (.array (.array .int))) (by decide) (by decide)))
  have f131 : Fld Z h128 a1 "holdfast/CountedIds$Batch" "spareTags" "[[I" .null := Fld.other W128 f123 (Or.inr (slot_ne (Or.inl (hw _ (List.mem_of_getElem? (i := 20) rfl))) (Or.inl (hw _ (List.mem_of_getElem? (i := 16) rfl))) (by decide) (t := (.array (.array .int))) (t' := (.array (.array .int))) (by decide) (by decide)))
  have f132 : Fld Z h128 a1 "holdfast/CountedIds$Batch" "sorted" "Z" (.int (0 : Int32)) := Fld.other W128 f124 (Or.inr (slot_ne (Or.inl (hw _ (List.mem_of_getElem? (i := 22) rfl))) (Or.inl (hw _ (List.mem_of_getElem? (i := 16) rfl))) (by decide) (t := .boolean) (t' := (.array (.array .int))) (by decide) (by decide)))
  have f133 : Fld Z h128 a1 "holdfast/CountedIds$Batch" "size" "I" (.int (0 : Int32)) := Fld.other W128 f125 (Or.inr (slot_ne (Or.inl (hw _ (List.mem_of_getElem? (i := 29) rfl))) (Or.inl (hw _ (List.mem_of_getElem? (i := 16) rfl))) (by decide) (t := .int) (t' := (.array (.array .int))) (by decide) (by decide)))
  have f134 : Arv Z h128 b102 k102 (.array .long) (64 : Int32) [.null] .null := f126.other W128 (Ne.symm ne_a1_b102)
  have f135 : Fld Z h128 a1 "holdfast/CountedIds$Batch" "digests" "[[J" (.ref b102) := Fld.other W128 f127 (Or.inr (slot_ne (Or.inl (hw _ (List.mem_of_getElem? (i := 12) rfl))) (Or.inl (hw _ (List.mem_of_getElem? (i := 16) rfl))) (by decide) (t := (.array (.array .long))) (t' := (.array (.array .int))) (by decide) (by decide)))
  have f136 : Arv Z h128 b119 k119 (.array .int) (64 : Int32) [.null] .null := v119.other W128 (Ne.symm ne_a1_b119)
  have f137 : Fld Z h128 a1 "holdfast/CountedIds$Batch" "tags" "[[I" (.ref b119) := f121.same W128
  have Zs128 : n0 ≤ h128.size := Nat.le_trans Zs119 (Keep.of_wr W128).1
  have N128 := Fr.snoc X128 N110 g1
  have K128 : Keep h0 h128 [a1] := K119.wr W128 (Or.inl (List.mem_of_getElem? (i := 0) rfl))
  obtain ⟨T138, h138, k138, X138, e138, E138, A138, x138, O138, st138⟩ := newRA X128 hx hZ0 hown0 (C := "[J") (ty := .long) (by first | rfl | decide) (hw _ (List.mem_of_getElem? (i := 9) rfl)) (hw _ (List.mem_of_getElem? (i := 10) rfl)) e128 (g := (mkF m 25 #[.val (.ref a1)] [(.int (64 : Int32)), (.ref a1)])) rfl (hb hby d1_25) rfl (by decide) (cap := 64) (by decide) (by decide) (by decide) (by decide) (ad := "[[J") (by decide)
  obtain ⟨b138, g138⟩ : ∃ z, z = h128.size := ⟨_, rfl⟩
  rw [← g138] at A138 x138 st138
  have ne_a1_b138 : a1 ≠ b138 := Nat.ne_of_lt (Nat.lt_of_lt_of_le f129.lt (Nat.le_of_eq g138.symm))
  have ne_b102_b138 : b102 ≠ b138 := Nat.ne_of_lt (Nat.lt_of_lt_of_le f134.lt (Nat.le_of_eq g138.symm))
  have ne_b119_b138 : b119 ≠ b138 := Nat.ne_of_lt (Nat.lt_of_lt_of_le f136.lt (Nat.le_of_eq g138.symm))
  have gn_b138 : n0 ≤ b138 := Nat.le_trans Zs128 (Nat.le_of_eq g138.symm)
  have sz_b138 : h0.size ≤ b138 := Nat.le_trans K128.1 (Nat.le_of_eq g138.symm)
  have f139 : Exa Z h138 a1 "holdfast/CountedIds$Batch" := Exa.ext E138 f129
  have f140 : Fld Z h138 a1 "holdfast/CountedIds$Batch" "spareDigests" "[[J" .null := Fld.ext E138 f130
  have f141 : Fld Z h138 a1 "holdfast/CountedIds$Batch" "spareTags" "[[I" .null := Fld.ext E138 f131
  have f142 : Fld Z h138 a1 "holdfast/CountedIds$Batch" "sorted" "Z" (.int (0 : Int32)) := Fld.ext E138 f132
  have f143 : Fld Z h138 a1 "holdfast/CountedIds$Batch" "size" "I" (.int (0 : Int32)) := Fld.ext E138 f133
  have f144 : Arv Z h138 b102 k102 (.array .long) (64 : Int32) [.null] .null := f134.ext E138
  have f145 : Fld Z h138 a1 "holdfast/CountedIds$Batch" "digests" "[[J" (.ref b102) := Fld.ext E138 f135
  have f146 : Arv Z h138 b119 k119 (.array .int) (64 : Int32) [.null] .null := f136.ext E138
  have f147 : Fld Z h138 a1 "holdfast/CountedIds$Batch" "tags" "[[I" (.ref b119) := Fld.ext E138 f137
  have Zs138 : n0 ≤ h138.size := Nat.le_trans Zs128 E138.1
  have K138 : Keep h0 h138 [a1] := K128.ext E138
  have v138 : Arv Z h138 b138 k138 (.array .long) (64 : Int32) [.null] .null := (Arv.new A138 (by decide)).pad (pad_rep [] .null 1)
  obtain ⟨T148, h148, X148, e148, W148, st148⟩ := putF X138 hx hZ0 hown0 (host := "") (Or.inl (hw _ (List.mem_of_getElem? (i := 17) rfl))) Via.refl e138 f140 f139 (Or.inl (hw _ (List.mem_of_getElem? (i := 18) rfl))) (hw _ (List.mem_of_getElem? (i := 1) rfl)) (ty := (.array (.array .long))) (by decide) rfl rfl (g := (mkF m 28 #[.val (.ref a1)] [(.ref b138), (.ref a1)])) rfl rfl (hb hby d1_28)
  have f149 : Exa Z h148 a1 "holdfast/CountedIds$Batch" := Exa.wr W148 f139
  have f150 : Fld Z h148 a1 "holdfast/CountedIds$Batch" "spareTags" "[[I" .null := Fld.other W148 f141 (Or.inr (slot_ne (Or.inl (hw _ (List.mem_of_getElem? (i := 20) rfl))) (Or.inl (hw _ (List.mem_of_getElem? (i := 18) rfl))) (by decide) (t := (.array (.array .int))) (t' := (.array (.array .long))) (by decide) (by decide)))
  have f151 : Fld Z h148 a1 "holdfast/CountedIds$Batch" "sorted" "Z" (.int (0 : Int32)) := Fld.other W148 f142 (Or.inr (slot_ne (Or.inl (hw _ (List.mem_of_getElem? (i := 22) rfl))) (Or.inl (hw _ (List.mem_of_getElem? (i := 18) rfl))) (by decide) (t := .boolean) (t' := (.array (.array .long))) (by decide) (by decide)))
  have f152 : Fld Z h148 a1 "holdfast/CountedIds$Batch" "size" "I" (.int (0 : Int32)) := Fld.other W148 f143 (Or.inr (slot_ne (Or.inl (hw _ (List.mem_of_getElem? (i := 29) rfl))) (Or.inl (hw _ (List.mem_of_getElem? (i := 18) rfl))) (by decide) (t := .int) (t' := (.array (.array .long))) (by decide) (by decide)))
  have f153 : Arv Z h148 b102 k102 (.array .long) (64 : Int32) [.null] .null := f144.other W148 (Ne.symm ne_a1_b102)
  have f154 : Fld Z h148 a1 "holdfast/CountedIds$Batch" "digests" "[[J" (.ref b102) := Fld.other W148 f145 (Or.inr (slot_ne (Or.inl (hw _ (List.mem_of_getElem? (i := 12) rfl))) (Or.inl (hw _ (List.mem_of_getElem? (i := 18) rfl))) (by decide) (t := (.array (.array .long))) (t' := (.array (.array .long))) (by decide) (by decide)))
  have f155 : Arv Z h148 b119 k119 (.array .int) (64 : Int32) [.null] .null := f146.other W148 (Ne.symm ne_a1_b119)
  have f156 : Fld Z h148 a1 "holdfast/CountedIds$Batch" "tags" "[[I" (.ref b119) := Fld.other W148 f147 (Or.inr (slot_ne (Or.inl (hw _ (List.mem_of_getElem? (i := 16) rfl))) (Or.inl (hw _ (List.mem_of_getElem? (i := 18) rfl))) (by decide) (t := (.array (.array .int))) (t' := (.array (.array .long))) (by decide) (by decide)))
  have f157 : Arv Z h148 b138 k138 (.array .long) (64 : Int32) [.null] .null := v138.other W148 (Ne.symm ne_a1_b138)
  have f158 : Fld Z h148 a1 "holdfast/CountedIds$Batch" "spareDigests" "[[J" (.ref b138) := f140.same W148
  have Zs148 : n0 ≤ h148.size := Nat.le_trans Zs138 (Keep.of_wr W148).1
  have N148 := Fr.snoc X148 N128 g1
  have K148 : Keep h0 h148 [a1] := K138.wr W148 (Or.inl (List.mem_of_getElem? (i := 0) rfl))
  obtain ⟨T159, h159, k159, X159, e159, E159, A159, x159, O159, st159⟩ := newRA X148 hx hZ0 hown0 (C := "[I") (ty := .int) (by first | rfl | decide) (hw _ (List.mem_of_getElem? (i := 13) rfl)) (hw _ (List.mem_of_getElem? (i := 14) rfl)) e148 (g := (mkF m 34 #[.val (.ref a1)] [(.int (64 : Int32)), (.ref a1)])) rfl (hb hby d1_34) rfl (by decide) (cap := 64) (by decide) (by decide) (by decide) (by decide) (ad := "[[I") (by decide)
  obtain ⟨b159, g159⟩ : ∃ z, z = h148.size := ⟨_, rfl⟩
  rw [← g159] at A159 x159 st159
  have ne_a1_b159 : a1 ≠ b159 := Nat.ne_of_lt (Nat.lt_of_lt_of_le f149.lt (Nat.le_of_eq g159.symm))
  have ne_b102_b159 : b102 ≠ b159 := Nat.ne_of_lt (Nat.lt_of_lt_of_le f153.lt (Nat.le_of_eq g159.symm))
  have ne_b119_b159 : b119 ≠ b159 := Nat.ne_of_lt (Nat.lt_of_lt_of_le f155.lt (Nat.le_of_eq g159.symm))
  have ne_b138_b159 : b138 ≠ b159 := Nat.ne_of_lt (Nat.lt_of_lt_of_le f157.lt (Nat.le_of_eq g159.symm))
  have gn_b159 : n0 ≤ b159 := Nat.le_trans Zs148 (Nat.le_of_eq g159.symm)
  have sz_b159 : h0.size ≤ b159 := Nat.le_trans K148.1 (Nat.le_of_eq g159.symm)
  have f160 : Exa Z h159 a1 "holdfast/CountedIds$Batch" := Exa.ext E159 f149
  have f161 : Fld Z h159 a1 "holdfast/CountedIds$Batch" "spareTags" "[[I" .null := Fld.ext E159 f150
  have f162 : Fld Z h159 a1 "holdfast/CountedIds$Batch" "sorted" "Z" (.int (0 : Int32)) := Fld.ext E159 f151
  have f163 : Fld Z h159 a1 "holdfast/CountedIds$Batch" "size" "I" (.int (0 : Int32)) := Fld.ext E159 f152
  have f164 : Arv Z h159 b102 k102 (.array .long) (64 : Int32) [.null] .null := f153.ext E159
  have f165 : Fld Z h159 a1 "holdfast/CountedIds$Batch" "digests" "[[J" (.ref b102) := Fld.ext E159 f154
  have f166 : Arv Z h159 b119 k119 (.array .int) (64 : Int32) [.null] .null := f155.ext E159
  have f167 : Fld Z h159 a1 "holdfast/CountedIds$Batch" "tags" "[[I" (.ref b119) := Fld.ext E159 f156
  have f168 : Arv Z h159 b138 k138 (.array .long) (64 : Int32) [.null] .null := f157.ext E159
  have f169 : Fld Z h159 a1 "holdfast/CountedIds$Batch" "spareDigests" "[[J" (.ref b138) := Fld.ext E159 f158
  have Zs159 : n0 ≤ h159.size := Nat.le_trans Zs148 E159.1
  have K159 : Keep h0 h159 [a1] := K148.ext E159
  have v159 : Arv Z h159 b159 k159 (.array .int) (64 : Int32) [.null] .null := (Arv.new A159 (by decide)).pad (pad_rep [] .null 1)
  obtain ⟨T170, h170, X170, e170, W170, st170⟩ := putF X159 hx hZ0 hown0 (host := "") (Or.inl (hw _ (List.mem_of_getElem? (i := 19) rfl))) Via.refl e159 f161 f160 (Or.inl (hw _ (List.mem_of_getElem? (i := 20) rfl))) (hw _ (List.mem_of_getElem? (i := 1) rfl)) (ty := (.array (.array .int))) (by decide) rfl rfl (g := (mkF m 37 #[.val (.ref a1)] [(.ref b159), (.ref a1)])) rfl rfl (hb hby d1_37)
  have f171 : Exa Z h170 a1 "holdfast/CountedIds$Batch" := Exa.wr W170 f160
  have f172 : Fld Z h170 a1 "holdfast/CountedIds$Batch" "sorted" "Z" (.int (0 : Int32)) := Fld.other W170 f162 (Or.inr (slot_ne (Or.inl (hw _ (List.mem_of_getElem? (i := 22) rfl))) (Or.inl (hw _ (List.mem_of_getElem? (i := 20) rfl))) (by decide) (t := .boolean) (t' := (.array (.array .int))) (by decide) (by decide)))
  have f173 : Fld Z h170 a1 "holdfast/CountedIds$Batch" "size" "I" (.int (0 : Int32)) := Fld.other W170 f163 (Or.inr (slot_ne (Or.inl (hw _ (List.mem_of_getElem? (i := 29) rfl))) (Or.inl (hw _ (List.mem_of_getElem? (i := 20) rfl))) (by decide) (t := .int) (t' := (.array (.array .int))) (by decide) (by decide)))
  have f174 : Arv Z h170 b102 k102 (.array .long) (64 : Int32) [.null] .null := f164.other W170 (Ne.symm ne_a1_b102)
  have f175 : Fld Z h170 a1 "holdfast/CountedIds$Batch" "digests" "[[J" (.ref b102) := Fld.other W170 f165 (Or.inr (slot_ne (Or.inl (hw _ (List.mem_of_getElem? (i := 12) rfl))) (Or.inl (hw _ (List.mem_of_getElem? (i := 20) rfl))) (by decide) (t := (.array (.array .long))) (t' := (.array (.array .int))) (by decide) (by decide)))
  have f176 : Arv Z h170 b119 k119 (.array .int) (64 : Int32) [.null] .null := f166.other W170 (Ne.symm ne_a1_b119)
  have f177 : Fld Z h170 a1 "holdfast/CountedIds$Batch" "tags" "[[I" (.ref b119) := Fld.other W170 f167 (Or.inr (slot_ne (Or.inl (hw _ (List.mem_of_getElem? (i := 16) rfl))) (Or.inl (hw _ (List.mem_of_getElem? (i := 20) rfl))) (by decide) (t := (.array (.array .int))) (t' := (.array (.array .int))) (by decide) (by decide)))
  have f178 : Arv Z h170 b138 k138 (.array .long) (64 : Int32) [.null] .null := f168.other W170 (Ne.symm ne_a1_b138)
  have f179 : Fld Z h170 a1 "holdfast/CountedIds$Batch" "spareDigests" "[[J" (.ref b138) := Fld.other W170 f169 (Or.inr (slot_ne (Or.inl (hw _ (List.mem_of_getElem? (i := 18) rfl))) (Or.inl (hw _ (List.mem_of_getElem? (i := 20) rfl))) (by decide) (t := (.array (.array .long))) (t' := (.array (.array .int))) (by decide) (by decide)))
  have f180 : Arv Z h170 b159 k159 (.array .int) (64 : Int32) [.null] .null := v159.other W170 (Ne.symm ne_a1_b159)
  have f181 : Fld Z h170 a1 "holdfast/CountedIds$Batch" "spareTags" "[[I" (.ref b159) := f161.same W170
  have Zs170 : n0 ≤ h170.size := Nat.le_trans Zs159 (Keep.of_wr W170).1
  have N170 := Fr.snoc X170 N148 g1
  have K170 : Keep h0 h170 [a1] := K159.wr W170 (Or.inl (List.mem_of_getElem? (i := 0) rfl))
  obtain ⟨T182, h182, X182, e182, W182, st182⟩ := putFN X170 hx hZ0 hown0 (hw _ (List.mem_of_getElem? (i := 21) rfl)) Via.refl e170 f172 f171 (Or.inl (hw _ (List.mem_of_getElem? (i := 22) rfl))) (hw _ (List.mem_of_getElem? (i := 1) rfl)) (ty := .boolean) (v' := (.int (1 : Int32))) (by decide) rfl (by decide) (g := (mkF m 42 #[.val (.ref a1)] [(.int (1 : Int32)), (.ref a1)])) rfl rfl (hb hby d1_42)
  have f183 : Exa Z h182 a1 "holdfast/CountedIds$Batch" := Exa.wr W182 f171
  have f184 : Fld Z h182 a1 "holdfast/CountedIds$Batch" "size" "I" (.int (0 : Int32)) := Fld.other W182 f173 (Or.inr (slot_ne (Or.inl (hw _ (List.mem_of_getElem? (i := 29) rfl))) (Or.inl (hw _ (List.mem_of_getElem? (i := 22) rfl))) (by decide) (t := .int) (t' := .boolean) (by decide) (by decide)))
  have f185 : Arv Z h182 b102 k102 (.array .long) (64 : Int32) [.null] .null := f174.other W182 (Ne.symm ne_a1_b102)
  have f186 : Fld Z h182 a1 "holdfast/CountedIds$Batch" "digests" "[[J" (.ref b102) := Fld.other W182 f175 (Or.inr (slot_ne (Or.inl (hw _ (List.mem_of_getElem? (i := 12) rfl))) (Or.inl (hw _ (List.mem_of_getElem? (i := 22) rfl))) (by decide) (t := (.array (.array .long))) (t' := .boolean) (by decide) (by decide)))
  have f187 : Arv Z h182 b119 k119 (.array .int) (64 : Int32) [.null] .null := f176.other W182 (Ne.symm ne_a1_b119)
  have f188 : Fld Z h182 a1 "holdfast/CountedIds$Batch" "tags" "[[I" (.ref b119) := Fld.other W182 f177 (Or.inr (slot_ne (Or.inl (hw _ (List.mem_of_getElem? (i := 16) rfl))) (Or.inl (hw _ (List.mem_of_getElem? (i := 22) rfl))) (by decide) (t := (.array (.array .int))) (t' := .boolean) (by decide) (by decide)))
  have f189 : Arv Z h182 b138 k138 (.array .long) (64 : Int32) [.null] .null := f178.other W182 (Ne.symm ne_a1_b138)
  have f190 : Fld Z h182 a1 "holdfast/CountedIds$Batch" "spareDigests" "[[J" (.ref b138) := Fld.other W182 f179 (Or.inr (slot_ne (Or.inl (hw _ (List.mem_of_getElem? (i := 18) rfl))) (Or.inl (hw _ (List.mem_of_getElem? (i := 22) rfl))) (by decide) (t := (.array (.array .long))) (t' := .boolean) (by decide) (by decide)))
  have f191 : Arv Z h182 b159 k159 (.array .int) (64 : Int32) [.null] .null := f180.other W182 (Ne.symm ne_a1_b159)
  have f192 : Fld Z h182 a1 "holdfast/CountedIds$Batch" "spareTags" "[[I" (.ref b159) := Fld.other W182 f181 (Or.inr (slot_ne (Or.inl (hw _ (List.mem_of_getElem? (i := 20) rfl))) (Or.inl (hw _ (List.mem_of_getElem? (i := 22) rfl))) (by decide) (t := (.array (.array .int))) (t' := .boolean) (by decide) (by decide)))
  have f193 : Fld Z h182 a1 "holdfast/CountedIds$Batch" "sorted" "Z" (.int (1 : Int32)) := f172.same W182
  have Zs182 : n0 ≤ h182.size := Nat.le_trans Zs170 (Keep.of_wr W182).1
  have N182 := Fr.snoc X182 N170 g1
  have K182 : Keep h0 h182 [a1] := K170.wr W182 (Or.inl (List.mem_of_getElem? (i := 0) rfl))
  obtain ⟨fs, hr, hrun, hended, hW, hsame⟩ := X182.leave (v := none) (fun _ => rfl) hlk
  refine ⟨_, _, pre0 _ ?_, hrun, hended, _, _, rfl, ?_, ⟨_, rfl⟩, hW, hsame.mono (by decide) (by decide)⟩
  · show Steps p.tables e below (s₁.setTop (mkF m 0 #[.val (.ref a1)] [])) _
    refine XS.aloadN X0.here hx rfl (hb hby d1_0) rfl rfl ?_
    show Steps p.tables e below (s₁.setTop (mkF m 1 #[.val (.ref a1)] [(.ref a1)])) _
    refine st101 _ ?_
    show Steps p.tables e below (T101.setTop (mkF m 4 #[.val (.ref a1)] [])) _
    refine XS.aloadN X101.here hx rfl (hb hby d1_4) rfl rfl ?_
    show Steps p.tables e below (T101.setTop (mkF m 5 #[.val (.ref a1)] [(.ref a1)])) _
    refine XS.bipush X101.here hx rfl (hb hby d1_5) ?_
    show Steps p.tables e below (T101.setTop (mkF m 7 #[.val (.ref a1)] [(.int (64 : Int32)), (.ref a1)])) _
    refine st102 _ ?_
    show Steps p.tables e below (T102.setTop (mkF m 10 #[.val (.ref a1)] [(.ref b102), (.ref a1)])) _
    refine st110 _ ?_
    show Steps p.tables e below (T110.setTop (mkF m 13 #[.val (.ref a1)] [])) _
    refine XS.aloadN X110.here hx rfl (hb hby d1_13) rfl rfl ?_
    show Steps p.tables e below (T110.setTop (mkF m 14 #[.val (.ref a1)] [(.ref a1)])) _
    refine XS.bipush X110.here hx rfl (hb hby d1_14) ?_
    show Steps p.tables e below (T110.setTop (mkF m 16 #[.val (.ref a1)] [(.int (64 : Int32)), (.ref a1)])) _
    refine st119 _ ?_
    show Steps p.tables e below (T119.setTop (mkF m 19 #[.val (.ref a1)] [(.ref b119), (.ref a1)])) _
    refine st128 _ ?_
    show Steps p.tables e below (T128.setTop (mkF m 22 #[.val (.ref a1)] [])) _
    refine XS.aloadN X128.here hx rfl (hb hby d1_22) rfl rfl ?_
    show Steps p.tables e below (T128.setTop (mkF m 23 #[.val (.ref a1)] [(.ref a1)])) _
    refine XS.bipush X128.here hx rfl (hb hby d1_23) ?_
    show Steps p.tables e below (T128.setTop (mkF m 25 #[.val (.ref a1)] [(.int (64 : Int32)), (.ref a1)])) _
    refine st138 _ ?_
    show Steps p.tables e below (T138.setTop (mkF m 28 #[.val (.ref a1)] [(.ref b138), (.ref a1)])) _
    refine st148 _ ?_
    show Steps p.tables e below (T148.setTop (mkF m 31 #[.val (.ref a1)] [])) _
    refine XS.aloadN X148.here hx rfl (hb hby d1_31) rfl rfl ?_
    show Steps p.tables e below (T148.setTop (mkF m 32 #[.val (.ref a1)] [(.ref a1)])) _
    refine XS.bipush X148.here hx rfl (hb hby d1_32) ?_
    show Steps p.tables e below (T148.setTop (mkF m 34 #[.val (.ref a1)] [(.int (64 : Int32)), (.ref a1)])) _
    refine st159 _ ?_
    show Steps p.tables e below (T159.setTop (mkF m 37 #[.val (.ref a1)] [(.ref b159), (.ref a1)])) _
    refine st170 _ ?_
    show Steps p.tables e below (T170.setTop (mkF m 40 #[.val (.ref a1)] [])) _
    refine XS.aloadN X170.here hx rfl (hb hby d1_40) rfl rfl ?_
    show Steps p.tables e below (T170.setTop (mkF m 41 #[.val (.ref a1)] [(.ref a1)])) _
    refine XS.iconst X170.here hx rfl (hb hby d1_41) ?_
    show Steps p.tables e below (T170.setTop (mkF m 42 #[.val (.ref a1)] [(.int (1 : Int32)), (.ref a1)])) _
    refine st182 _ ?_
    show Steps p.tables e below (T182.setTop (mkF m 45 #[.val (.ref a1)] [])) _
    exact X182.returnOut hx Bd.returns (hb hby d1_45) hr
  · show Q1 Z a1 h0 n0 _ T182.heap _
    rw [e182]
    exact ⟨b102, b119, k102, k119, rfl, N182, K182, sz_b102, sz_b119, ne_b102_b119, f186, f188, f184, f193, f185, f187, O102, O119⟩
theorem ef_4 (m : MethodId) (x0 : Addr) (x1 : Addr) (x2 : Int32) (x3 : Int64) (x4 : Int32) : entryFrame m #[(.ref x0), (.ref x1), (.int x2), (.long x3), (.int x4)] 6 = mkF m 0 #[.val (.ref x0), .val (.ref x1), .val (.int x2), .val (.long x3), .second, .val (.int x4)] [] := by first | (simp [entryFrame, mkF, argsToLocals, Value.category]; done) | rfl
theorem d4_0 : decode prog_10_method_8_code 0 = .ok (.aload_n 0, 1) := by decide +kernel
theorem d4_1 : decode prog_10_method_8_code 1 = .ok (.iload_n 2, 1) := by decide +kernel
theorem d4_2 : decode prog_10_method_8_code 2 = .ok (.getstatic 43, 3) := by decide +kernel
theorem d4_5 : decode prog_10_method_8_code 5 = .ok (.iushr, 1) := by decide +kernel
theorem d4_6 : decode prog_10_method_8_code 6 = .ok (.aaload, 1) := by decide +kernel
theorem d4_7 : decode prog_10_method_8_code 7 = .ok (.iload_n 2, 1) := by decide +kernel
theorem d4_8 : decode prog_10_method_8_code 8 = .ok (.sipush 16383, 3) := by decide +kernel
theorem d4_11 : decode prog_10_method_8_code 11 = .ok (.iand, 1) := by decide +kernel
theorem d4_12 : decode prog_10_method_8_code 12 = .ok (.lload_n 3, 1) := by decide +kernel
theorem d4_13 : decode prog_10_method_8_code 13 = .ok (.lastore, 1) := by decide +kernel
theorem d4_14 : decode prog_10_method_8_code 14 = .ok (.aload_n 1, 1) := by decide +kernel
theorem d4_15 : decode prog_10_method_8_code 15 = .ok (.iload_n 2, 1) := by decide +kernel
theorem d4_16 : decode prog_10_method_8_code 16 = .ok (.getstatic 43, 3) := by decide +kernel
theorem d4_19 : decode prog_10_method_8_code 19 = .ok (.iushr, 1) := by decide +kernel
theorem d4_20 : decode prog_10_method_8_code 20 = .ok (.aaload, 1) := by decide +kernel
theorem d4_21 : decode prog_10_method_8_code 21 = .ok (.iload_n 2, 1) := by decide +kernel
theorem d4_22 : decode prog_10_method_8_code 22 = .ok (.sipush 16383, 3) := by decide +kernel
theorem d4_25 : decode prog_10_method_8_code 25 = .ok (.iand, 1) := by decide +kernel
theorem d4_26 : decode prog_10_method_8_code 26 = .ok (.iload 5, 2) := by decide +kernel
theorem d4_28 : decode prog_10_method_8_code 28 = .ok (.iastore, 1) := by decide +kernel
theorem d4_29 : decode prog_10_method_8_code 29 = .ok (.return_, 1) := by decide +kernel
def Q4 (Z : State) (a1 : Addr) (a2 : Addr) (p3 : Int32) (q4 : Int64) (p5 : Int32) (dd : Addr) (tt : Addr) (kd : ClassId) (kt : ClassId) (g : Nat → Option Int32) (h0 : Heap) (n0 : Nat) (v : Option Value) (h : Heap) (L : List Loc) : Prop := v = none ∧ Fr n0 L ∧ (Keep h0 h [dd, tt]) ∧ (OwnLng Z h dd) ∧ (OwnTg Z h tt (own_up g p3 p5))
set_option maxRecDepth 65536 in
set_option maxHeartbeats 40000000 in
theorem rm4 (l : Launch) (Z : State) (a0 : Array Value) (hw : ∀ d ∈ tables_1, d.before a0 Z = true) (ws : List Jvm.Cond) (a1 : Addr) (a2 : Addr) (p3 : Int32) (q4 : Int64) (p5 : Int32) (dd : Addr) (tt : Addr) (kd : ClassId) (kt : ClassId) (g : Nat → Option Int32) (h0 : Heap) (n0 : Nat) (Z0 : n0 ≤ h0.size) (O0 : Old Z n0 h0) (SC : Sta Z Z.heap "holdfast/CountedIds$Batch" "CHUNK_BITS" "I" (.int (14 : Int32))) (V1 : Arv Z h0 a1 kd (.array .long) (64 : Int32) [(.ref dd)] .null) (V2 : Arv Z h0 a2 kt (.array .int) (64 : Int32) [(.ref tt)] .null) (L1 : OwnLng Z h0 dd) (T1 : OwnTg Z h0 tt g) (n1 : dd ≠ tt) (n2 : a2 ≠ dd) (n3 : a1 ≠ dd) (n4 : a1 ≠ tt) (n5 : a2 ≠ tt) (g1 : n0 ≤ dd) (g2 : n0 ≤ tt) (hs : ((p3.toUInt32 >>> ((14 : Int32) &&& 31).toUInt32).toInt32) = (0 : Int32)) (hm : (p3 &&& (16383 : Int32)) = p3) (hbd : ¬ p3 < (0 : Int32) ∧ p3 < (16384 : Int32)) :
    MetFree l (⟨"holdfast/CountedIds$Batch", "set", "([[J[[IIJI)V"⟩ : MethodName) (head1 (Jvm.Cond.code (⟨"holdfast/CountedIds$Batch", "set", "([[J[[IIJI)V"⟩ : MethodName) prog_10_method_8_code 6 none :: ws) ({ frames := 0, cells := 0, slots := 0, locals := 0 } : Room)) (fun a U => a = #[(.ref a1), (.ref a2), (.int p3), (.long q4), (.int p5)] ∧ Z.Warmed39 U.vm ∧ U.heap = h0) (fun _ _ _ _ _ => True) (fun _ U o U' => ∃ v L, o = .returned v ∧ Q4 Z a1 a2 p3 q4 p5 dd tt kd kt g h0 n0 v U'.heap L ∧ FrameEnd U o U' L ({ frames := 0, cells := 0, slots := 0, locals := 0 } : Room).cells ({ frames := 0, cells := 0, slots := 0, locals := 0 } : Room).slots) := by
  refine MetFree.of_bodySF (plainFor_of_name pn_0) hisR ?_
  intro p e s m args below meth c s₁ Bd hml0 hP hK
  obtain ⟨rfl, hZ0, hh⟩ := hP
  have hx := Bd.exec
  have hby := Bd.bytes
  have hml : c.maxLocals = 6 := hml0
  have hown0 : s.vm.findClass "holdfast/CountedIds$Batch" = some m.cls := findClass_of_methodNamed Bd.named
  have hnm := (name_of_methodNamed Bd.named Bd.method).1
  have hlk : meth.locks = false := by first | exact BodyLoose.notSynchronized Bd | exact Body.notSynchronized Bd
  have X0 : Stand p l e ({ frames := 0, cells := 0, slots := 0, locals := 0 } : Room) s m #[(.ref a1), (.ref a2), (.int p3), (.long q4), (.int p5)] below meth c s₁ [] 0 0 := Stand.of_body Bd
  have e0 : s₁.heap = h0 := by rw [← hh, Bd.state]; rfl
  have N0 := Fr.nil n0
  have pre0 : ∀ t, Steps p.tables e below (s₁.setTop (mkF m 0 #[.val (.ref a1), .val (.ref a2), .val (.int p3), .val (.long q4), .second, .val (.int p5)] [])) t → Steps p.tables e below (s₁.setTop (entryFrame m #[(.ref a1), (.ref a2), (.int p3), (.long q4), (.int p5)] 6)) t := fun t k => castTop (ef_4 m a1 a2 p3 q4 p5) k
  obtain ⟨T101, X101, e101, st101⟩ := getS2 X0 hx hZ0 hown0 (host := "") (Or.inl (hw _ (List.mem_of_getElem? (i := 31) rfl))) Via.refl e0 (Sta.ext O0.2 SC) (g := (mkF m 2 #[.val (.ref a1), .val (.ref a2), .val (.int p3), .val (.long q4), .second, .val (.int p5)] [(.int p3), (.ref a1)])) rfl (hb hby d4_2)
  obtain ⟨cl102, Ar102, -, Sz102, -, Hs102, -⟩ := (id V1)
  have hin102 : ¬ ((0 : Int32) < 0 ∨ cl102.slots.size ≤ (0 : Int32).toNatClampNeg) := inb_of Sz102 ⟨by decide, by decide⟩
  obtain ⟨cl103, Ar103, Sz103⟩ := (id L1)
  obtain ⟨T104, h104, X104, e104, W104, st104⟩ := stJ X101 hx hZ0 e101 Ar103 (j := p3) (own_in Sz103 hbd) (g := (mkF m 13 #[.val (.ref a1), .val (.ref a2), .val (.int p3), .val (.long q4), .second, .val (.int p5)] [(.long q4), (.int p3), (.ref dd)])) rfl rfl (hb hby d4_13)
  have f105 : Old Z n0 h104 := O0.wr W104 g1
  have f106 : Arv Z h104 a1 kd (.array .long) (64 : Int32) [(.ref dd)] .null := V1.other W104 n3
  have f107 : Arv Z h104 a2 kt (.array .int) (64 : Int32) [(.ref tt)] .null := V2.other W104 n2
  have f108 : OwnTg Z h104 tt g := OwnTg.other T1 W104 (Ne.symm n1)
  have Zs104 : n0 ≤ h104.size := Nat.le_trans Z0 (Keep.of_wr W104).1
  have N104 := Fr.snoc X104 N0 g1
  have K104 : Keep h0 h104 [dd, tt] := (Keep.refl h0 [dd, tt]).wr W104 (Or.inl (List.mem_of_getElem? (i := 0) rfl))
  have v104 : OwnLng Z h104 dd := OwnLng.same Ar103 Sz103 W104
  obtain ⟨T109, X109, e109, st109⟩ := getS2 X104 hx hZ0 hown0 (host := "") (Or.inl (hw _ (List.mem_of_getElem? (i := 31) rfl))) Via.refl e104 (Sta.ext f105.2 SC) (g := (mkF m 16 #[.val (.ref a1), .val (.ref a2), .val (.int p3), .val (.long q4), .second, .val (.int p5)] [(.int p3), (.ref a2)])) rfl (hb hby d4_16)
  obtain ⟨cl110, Ar110, -, Sz110, -, Hs110, -⟩ := (id f107)
  have hin110 : ¬ ((0 : Int32) < 0 ∨ cl110.slots.size ≤ (0 : Int32).toNatClampNeg) := inb_of Sz110 ⟨by decide, by decide⟩
  obtain ⟨cl111, Ar111, Sz111, Hs111⟩ := (id f108)
  obtain ⟨T112, h112, X112, e112, W112, st112⟩ := stI X109 hx hZ0 e109 Ar111 (j := p3) (own_in Sz111 hbd) (g := (mkF m 28 #[.val (.ref a1), .val (.ref a2), .val (.int p3), .val (.long q4), .second, .val (.int p5)] [(.int p5), (.int p3), (.ref tt)])) rfl rfl (hb hby d4_28)
  have f113 : Old Z n0 h112 := f105.wr W112 g2
  have f114 : Arv Z h112 a1 kd (.array .long) (64 : Int32) [(.ref dd)] .null := f106.other W112 n4
  have f115 : Arv Z h112 a2 kt (.array .int) (64 : Int32) [(.ref tt)] .null := f107.other W112 n5
  have f116 : OwnLng Z h112 dd := OwnLng.other v104 W112 n1
  have Zs112 : n0 ≤ h112.size := Nat.le_trans Zs104 (Keep.of_wr W112).1
  have N112 := Fr.snoc X112 N104 g2
  have K112 : Keep h0 h112 [dd, tt] := K104.wr W112 (Or.inl (List.mem_of_getElem? (i := 1) rfl))
  have v112 : OwnTg Z h112 tt (own_up g p3 p5) := OwnTg.same Ar111 Sz111 Hs111 (own_in Sz111 hbd) W112
  obtain ⟨fs, hr, hrun, hended, hW, hsame⟩ := X112.leave (v := none) (fun _ => rfl) hlk
  refine ⟨_, _, pre0 _ ?_, hrun, hended, _, _, rfl, ?_, ⟨_, rfl⟩, hW, hsame.mono (by decide) (by decide)⟩
  · show Steps p.tables e below (s₁.setTop (mkF m 0 #[.val (.ref a1), .val (.ref a2), .val (.int p3), .val (.long q4), .second, .val (.int p5)] [])) _
    refine XS.aloadN X0.here hx rfl (hb hby d4_0) rfl rfl ?_
    show Steps p.tables e below (s₁.setTop (mkF m 1 #[.val (.ref a1), .val (.ref a2), .val (.int p3), .val (.long q4), .second, .val (.int p5)] [(.ref a1)])) _
    refine XS.iloadN X0.here hx rfl (hb hby d4_1) rfl ?_
    show Steps p.tables e below (s₁.setTop (mkF m 2 #[.val (.ref a1), .val (.ref a2), .val (.int p3), .val (.long q4), .second, .val (.int p5)] [(.int p3), (.ref a1)])) _
    refine st101 _ ?_
    show Steps p.tables e below (T101.setTop (mkF m 5 #[.val (.ref a1), .val (.ref a2), .val (.int p3), .val (.long q4), .second, .val (.int p5)] [(.int (14 : Int32)), (.int p3), (.ref a1)])) _
    refine XS.iushr X101.here hx rfl (hb hby d4_5) rfl ?_
    show Steps p.tables e below (T101.setTop (mkF m 6 #[.val (.ref a1), .val (.ref a2), .val (.int p3), .val (.long q4), .second, .val (.int p5)] [(.int ((p3.toUInt32 >>> ((14 : Int32) &&& 31).toUInt32).toInt32)), (.ref a1)])) _
    rw [hs]
    show Steps p.tables e below (T101.setTop (mkF m 6 #[.val (.ref a1), .val (.ref a2), .val (.int p3), .val (.long q4), .second, .val (.int p5)] [(.int (0 : Int32)), (.ref a1)])) _
    refine X101.aaload hx (j := (0 : Int32)) (v := (.ref dd)) (by rw [e101]; exact Ar102.1) (State.isArrayOf_alike hZ0.alike Ar102.2.1) rfl Ar102.2.2 hin102 (Has.at Hs102 hin102 rfl) (g := (mkF m 6 #[.val (.ref a1), .val (.ref a2), .val (.int p3), .val (.long q4), .second, .val (.int p5)] [(.int (0 : Int32)), (.ref a1)])) rfl rfl (hb hby d4_6) _ ?_
    show Steps p.tables e below (T101.setTop (mkF m 7 #[.val (.ref a1), .val (.ref a2), .val (.int p3), .val (.long q4), .second, .val (.int p5)] [(.ref dd)])) _
    refine XS.iloadN X101.here hx rfl (hb hby d4_7) rfl ?_
    show Steps p.tables e below (T101.setTop (mkF m 8 #[.val (.ref a1), .val (.ref a2), .val (.int p3), .val (.long q4), .second, .val (.int p5)] [(.int p3), (.ref dd)])) _
    refine XS.sipush X101.here hx rfl (hb hby d4_8) ?_
    show Steps p.tables e below (T101.setTop (mkF m 11 #[.val (.ref a1), .val (.ref a2), .val (.int p3), .val (.long q4), .second, .val (.int p5)] [(.int (16383 : Int32)), (.int p3), (.ref dd)])) _
    refine XS.iand X101.here hx rfl (hb hby d4_11) rfl ?_
    show Steps p.tables e below (T101.setTop (mkF m 12 #[.val (.ref a1), .val (.ref a2), .val (.int p3), .val (.long q4), .second, .val (.int p5)] [(.int (p3 &&& (16383 : Int32))), (.ref dd)])) _
    rw [hm]
    show Steps p.tables e below (T101.setTop (mkF m 12 #[.val (.ref a1), .val (.ref a2), .val (.int p3), .val (.long q4), .second, .val (.int p5)] [(.int p3), (.ref dd)])) _
    refine XS.lloadN X101.here hx rfl (hb hby d4_12) rfl ?_
    show Steps p.tables e below (T101.setTop (mkF m 13 #[.val (.ref a1), .val (.ref a2), .val (.int p3), .val (.long q4), .second, .val (.int p5)] [(.long q4), (.int p3), (.ref dd)])) _
    refine st104 _ ?_
    show Steps p.tables e below (T104.setTop (mkF m 14 #[.val (.ref a1), .val (.ref a2), .val (.int p3), .val (.long q4), .second, .val (.int p5)] [])) _
    refine XS.aloadN X104.here hx rfl (hb hby d4_14) rfl rfl ?_
    show Steps p.tables e below (T104.setTop (mkF m 15 #[.val (.ref a1), .val (.ref a2), .val (.int p3), .val (.long q4), .second, .val (.int p5)] [(.ref a2)])) _
    refine XS.iloadN X104.here hx rfl (hb hby d4_15) rfl ?_
    show Steps p.tables e below (T104.setTop (mkF m 16 #[.val (.ref a1), .val (.ref a2), .val (.int p3), .val (.long q4), .second, .val (.int p5)] [(.int p3), (.ref a2)])) _
    refine st109 _ ?_
    show Steps p.tables e below (T109.setTop (mkF m 19 #[.val (.ref a1), .val (.ref a2), .val (.int p3), .val (.long q4), .second, .val (.int p5)] [(.int (14 : Int32)), (.int p3), (.ref a2)])) _
    refine XS.iushr X109.here hx rfl (hb hby d4_19) rfl ?_
    show Steps p.tables e below (T109.setTop (mkF m 20 #[.val (.ref a1), .val (.ref a2), .val (.int p3), .val (.long q4), .second, .val (.int p5)] [(.int ((p3.toUInt32 >>> ((14 : Int32) &&& 31).toUInt32).toInt32)), (.ref a2)])) _
    rw [hs]
    show Steps p.tables e below (T109.setTop (mkF m 20 #[.val (.ref a1), .val (.ref a2), .val (.int p3), .val (.long q4), .second, .val (.int p5)] [(.int (0 : Int32)), (.ref a2)])) _
    refine X109.aaload hx (j := (0 : Int32)) (v := (.ref tt)) (by rw [e109]; exact Ar110.1) (State.isArrayOf_alike hZ0.alike Ar110.2.1) rfl Ar110.2.2 hin110 (Has.at Hs110 hin110 rfl) (g := (mkF m 20 #[.val (.ref a1), .val (.ref a2), .val (.int p3), .val (.long q4), .second, .val (.int p5)] [(.int (0 : Int32)), (.ref a2)])) rfl rfl (hb hby d4_20) _ ?_
    show Steps p.tables e below (T109.setTop (mkF m 21 #[.val (.ref a1), .val (.ref a2), .val (.int p3), .val (.long q4), .second, .val (.int p5)] [(.ref tt)])) _
    refine XS.iloadN X109.here hx rfl (hb hby d4_21) rfl ?_
    show Steps p.tables e below (T109.setTop (mkF m 22 #[.val (.ref a1), .val (.ref a2), .val (.int p3), .val (.long q4), .second, .val (.int p5)] [(.int p3), (.ref tt)])) _
    refine XS.sipush X109.here hx rfl (hb hby d4_22) ?_
    show Steps p.tables e below (T109.setTop (mkF m 25 #[.val (.ref a1), .val (.ref a2), .val (.int p3), .val (.long q4), .second, .val (.int p5)] [(.int (16383 : Int32)), (.int p3), (.ref tt)])) _
    refine XS.iand X109.here hx rfl (hb hby d4_25) rfl ?_
    show Steps p.tables e below (T109.setTop (mkF m 26 #[.val (.ref a1), .val (.ref a2), .val (.int p3), .val (.long q4), .second, .val (.int p5)] [(.int (p3 &&& (16383 : Int32))), (.ref tt)])) _
    rw [hm]
    show Steps p.tables e below (T109.setTop (mkF m 26 #[.val (.ref a1), .val (.ref a2), .val (.int p3), .val (.long q4), .second, .val (.int p5)] [(.int p3), (.ref tt)])) _
    refine XS.iload X109.here hx rfl (hb hby d4_26) rfl ?_
    show Steps p.tables e below (T109.setTop (mkF m 28 #[.val (.ref a1), .val (.ref a2), .val (.int p3), .val (.long q4), .second, .val (.int p5)] [(.int p5), (.int p3), (.ref tt)])) _
    refine st112 _ ?_
    show Steps p.tables e below (T112.setTop (mkF m 29 #[.val (.ref a1), .val (.ref a2), .val (.int p3), .val (.long q4), .second, .val (.int p5)] [])) _
    exact X112.returnOut hx Bd.returns (hb hby d4_29) hr
  · show Q4 Z a1 a2 p3 q4 p5 dd tt kd kt g h0 n0 _ T112.heap _
    rw [e112]
    exact ⟨rfl, N112, K112, f116, v112⟩
theorem ef_3z (m : MethodId) (x0 : Addr) (x1 : Int64) (x2 : Int32) : entryFrame m #[(.ref x0), (.long x1), (.int x2)] 4 = mkF m 0 #[.val (.ref x0), .val (.long x1), .second, .val (.int x2)] [] := by first | (simp [entryFrame, mkF, argsToLocals, Value.category]; done) | rfl
theorem d3_0 : decode prog_10_method_2_code 0 = .ok (.aload_n 0, 1) := by decide +kernel
theorem d3_1 : decode prog_10_method_2_code 1 = .ok (.getfield 31, 3) := by decide +kernel
theorem d3_4 : decode prog_10_method_2_code 4 = .ok (.ldc 35, 2) := by decide +kernel
theorem d3_6 : decode prog_10_method_2_code 6 = .ok (.if_icmp .ne 13, 3) := by decide +kernel
theorem d3_19 : decode prog_10_method_2_code 19 = .ok (.aload_n 0, 1) := by decide +kernel
theorem d3_20 : decode prog_10_method_2_code 20 = .ok (.getfield 11, 3) := by decide +kernel
theorem d3_23 : decode prog_10_method_2_code 23 = .ok (.aload_n 0, 1) := by decide +kernel
theorem d3_24 : decode prog_10_method_2_code 24 = .ok (.getfield 31, 3) := by decide +kernel
theorem d3_27 : decode prog_10_method_2_code 27 = .ok (.getstatic 43, 3) := by decide +kernel
theorem d3_30 : decode prog_10_method_2_code 30 = .ok (.iushr, 1) := by decide +kernel
theorem d3_31 : decode prog_10_method_2_code 31 = .ok (.aaload, 1) := by decide +kernel
theorem d3_32 : decode prog_10_method_2_code 32 = .ok (.ifnonnull 39, 3) := by decide +kernel
theorem d3_35 : decode prog_10_method_2_code 35 = .ok (.aload_n 0, 1) := by decide +kernel
theorem d3_36 : decode prog_10_method_2_code 36 = .ok (.getfield 11, 3) := by decide +kernel
theorem d3_39 : decode prog_10_method_2_code 39 = .ok (.aload_n 0, 1) := by decide +kernel
theorem d3_40 : decode prog_10_method_2_code 40 = .ok (.getfield 31, 3) := by decide +kernel
theorem d3_43 : decode prog_10_method_2_code 43 = .ok (.getstatic 43, 3) := by decide +kernel
theorem d3_46 : decode prog_10_method_2_code 46 = .ok (.iushr, 1) := by decide +kernel
theorem d3_47 : decode prog_10_method_2_code 47 = .ok (.sipush 16384, 3) := by decide +kernel
theorem d3_50 : decode prog_10_method_2_code 50 = .ok (.newarray .long, 2) := by decide +kernel
theorem d3_52 : decode prog_10_method_2_code 52 = .ok (.aastore, 1) := by decide +kernel
theorem d3_53 : decode prog_10_method_2_code 53 = .ok (.aload_n 0, 1) := by decide +kernel
theorem d3_54 : decode prog_10_method_2_code 54 = .ok (.getfield 17, 3) := by decide +kernel
theorem d3_57 : decode prog_10_method_2_code 57 = .ok (.aload_n 0, 1) := by decide +kernel
theorem d3_58 : decode prog_10_method_2_code 58 = .ok (.getfield 31, 3) := by decide +kernel
theorem d3_61 : decode prog_10_method_2_code 61 = .ok (.getstatic 43, 3) := by decide +kernel
theorem d3_64 : decode prog_10_method_2_code 64 = .ok (.iushr, 1) := by decide +kernel
theorem d3_65 : decode prog_10_method_2_code 65 = .ok (.sipush 16384, 3) := by decide +kernel
theorem d3_68 : decode prog_10_method_2_code 68 = .ok (.newarray .int, 2) := by decide +kernel
theorem d3_70 : decode prog_10_method_2_code 70 = .ok (.aastore, 1) := by decide +kernel
theorem d3_71 : decode prog_10_method_2_code 71 = .ok (.aload_n 0, 1) := by decide +kernel
theorem d3_72 : decode prog_10_method_2_code 72 = .ok (.getfield 11, 3) := by decide +kernel
theorem d3_75 : decode prog_10_method_2_code 75 = .ok (.aload_n 0, 1) := by decide +kernel
theorem d3_76 : decode prog_10_method_2_code 76 = .ok (.getfield 17, 3) := by decide +kernel
theorem d3_79 : decode prog_10_method_2_code 79 = .ok (.aload_n 0, 1) := by decide +kernel
theorem d3_80 : decode prog_10_method_2_code 80 = .ok (.getfield 31, 3) := by decide +kernel
theorem d3_83 : decode prog_10_method_2_code 83 = .ok (.lload_n 1, 1) := by decide +kernel
theorem d3_84 : decode prog_10_method_2_code 84 = .ok (.iload_n 3, 1) := by decide +kernel
theorem d3_85 : decode prog_10_method_2_code 85 = .ok (.invokestatic 46, 3) := by decide +kernel
theorem pd_0 : parseMethodDescriptor "([[J[[IIJI)V" = some ⟨[(.array (.array .long)), (.array (.array .int)), .int, .long, .int], none⟩ := by decide +kernel
theorem d3_88 : decode prog_10_method_2_code 88 = .ok (.aload_n 0, 1) := by decide +kernel
theorem d3_89 : decode prog_10_method_2_code 89 = .ok (.dup, 1) := by decide +kernel
theorem d3_90 : decode prog_10_method_2_code 90 = .ok (.getfield 31, 3) := by decide +kernel
theorem d3_93 : decode prog_10_method_2_code 93 = .ok (.iconst 1, 1) := by decide +kernel
theorem d3_94 : decode prog_10_method_2_code 94 = .ok (.iadd, 1) := by decide +kernel
theorem d3_95 : decode prog_10_method_2_code 95 = .ok (.putfield 31, 3) := by decide +kernel
theorem d3_98 : decode prog_10_method_2_code 98 = .ok (.aload_n 0, 1) := by decide +kernel
theorem d3_99 : decode prog_10_method_2_code 99 = .ok (.iconst 0, 1) := by decide +kernel
theorem d3_100 : decode prog_10_method_2_code 100 = .ok (.putfield 27, 3) := by decide +kernel
theorem d3_103 : decode prog_10_method_2_code 103 = .ok (.return_, 1) := by decide +kernel
def Q3z (Z : State) (a1 : Addr) (q2 : Int64) (p3 : Int32) (d : Addr) (t : Addr) (kd : ClassId) (kt : ClassId) (so : Int32) (h0 : Heap) (n0 : Nat) (v : Option Value) (h : Heap) (L : List Loc) : Prop := ∃ dd : Addr, ∃ tt : Addr, v = none ∧ Fr n0 L ∧ (Keep h0 h [a1, d, t]) ∧ (h0.size ≤ dd) ∧ (h0.size ≤ tt) ∧ (dd ≠ tt) ∧ (Fld Z h a1 "holdfast/CountedIds$Batch" "digests" "[[J" (.ref d)) ∧ (Fld Z h a1 "holdfast/CountedIds$Batch" "tags" "[[I" (.ref t)) ∧ (Fld Z h a1 "holdfast/CountedIds$Batch" "size" "I" (.int (1 : Int32))) ∧ (Fld Z h a1 "holdfast/CountedIds$Batch" "sorted" "Z" (.int (0 : Int32))) ∧ (Arv Z h d kd (.array .long) (64 : Int32) [(.ref dd)] .null) ∧ (Arv Z h t kt (.array .int) (64 : Int32) [(.ref tt)] .null) ∧ (OwnLng Z h dd) ∧ (OwnTg Z h tt (own_up own_none (0 : Int32) p3))
set_option maxRecDepth 65536 in
set_option maxHeartbeats 40000000 in
theorem rm3z (l : Launch) (Z : State) (a0 : Array Value) (hw : ∀ d ∈ tables_1, d.before a0 Z = true) (ws : List Jvm.Cond) (a1 : Addr) (q2 : Int64) (p3 : Int32) (d : Addr) (t : Addr) (kd : ClassId) (kt : ClassId) (so : Int32) (h0 : Heap) (n0 : Nat) (Z0 : n0 ≤ h0.size) (O0 : Old Z n0 h0) (SC : Sta Z Z.heap "holdfast/CountedIds$Batch" "CHUNK_BITS" "I" (.int (14 : Int32))) (E1 : Exa Z h0 a1 "holdfast/CountedIds$Batch") (g1 : n0 ≤ a1) (g2 : n0 ≤ d) (g3 : n0 ≤ t) (n1 : a1 ≠ d) (n2 : a1 ≠ t) (n3 : d ≠ t) (F1 : Fld Z h0 a1 "holdfast/CountedIds$Batch" "digests" "[[J" (.ref d)) (F2 : Fld Z h0 a1 "holdfast/CountedIds$Batch" "tags" "[[I" (.ref t)) (F3 : Fld Z h0 a1 "holdfast/CountedIds$Batch" "size" "I" (.int (0 : Int32))) (F4 : Fld Z h0 a1 "holdfast/CountedIds$Batch" "sorted" "Z" (.int so)) (V1 : Arv Z h0 d kd (.array .long) (64 : Int32) [.null] .null) (V2 : Arv Z h0 t kt (.array .int) (64 : Int32) [.null] .null) (o1 : OvrA Z kd .long "[J") (o2 : OvrA Z kt .int "[I") :
    MetFree l (⟨"holdfast/CountedIds$Batch", "add", "(JI)V"⟩ : MethodName) (head1 (Jvm.Cond.code (⟨"holdfast/CountedIds$Batch", "add", "(JI)V"⟩ : MethodName) prog_10_method_2_code 4 none :: ws) ({ frames := 1, cells := 2, slots := 32768, locals := 17 } : Room)) (fun a U => a = #[(.ref a1), (.long q2), (.int p3)] ∧ Z.Warmed39 U.vm ∧ U.heap = h0) (fun _ _ _ _ _ => True) (fun _ U o U' => ∃ v L, o = .returned v ∧ Q3z Z a1 q2 p3 d t kd kt so h0 n0 v U'.heap L ∧ FrameEnd U o U' L ({ frames := 1, cells := 2, slots := 32768, locals := 17 } : Room).cells ({ frames := 1, cells := 2, slots := 32768, locals := 17 } : Room).slots) := by
  refine MetFree.of_bodySF (plainFor_of_name pn_0) hisR ?_
  intro p e s m args below meth c s₁ Bd hml0 hP hK
  obtain ⟨rfl, hZ0, hh⟩ := hP
  have hx := Bd.exec
  have hby := Bd.bytes
  have hml : c.maxLocals = 4 := hml0
  have hown0 : s.vm.findClass "holdfast/CountedIds$Batch" = some m.cls := findClass_of_methodNamed Bd.named
  have hnm := (name_of_methodNamed Bd.named Bd.method).1
  have hlk : meth.locks = false := by first | exact BodyLoose.notSynchronized Bd | exact Body.notSynchronized Bd
  have X0 : Stand p l e ({ frames := 1, cells := 2, slots := 32768, locals := 17 } : Room) s m #[(.ref a1), (.long q2), (.int p3)] below meth c s₁ [] 0 0 := Stand.of_body Bd
  have e0 : s₁.heap = h0 := by rw [← hh, Bd.state]; rfl
  have N0 := Fr.nil n0
  have pre0 : ∀ t, Steps p.tables e below (s₁.setTop (mkF m 0 #[.val (.ref a1), .val (.long q2), .second, .val (.int p3)] [])) t → Steps p.tables e below (s₁.setTop (entryFrame m #[(.ref a1), (.long q2), (.int p3)] 4)) t := fun t k => castTop (ef_3z m a1 q2 p3) k
  obtain ⟨T101, X101, e101, st101⟩ := getF X0 hx hZ0 hown0 (host := "") (Or.inl (hw _ (List.mem_of_getElem? (i := 28) rfl))) Via.refl e0 F3 (g := (mkF m 1 #[.val (.ref a1), .val (.long q2), .second, .val (.int p3)] [(.ref a1)])) rfl rfl (hb hby d3_1)
  obtain ⟨T102, X102, e102, st102⟩ := getF X101 hx hZ0 hown0 (host := "") (Or.inl (hw _ (List.mem_of_getElem? (i := 11) rfl))) Via.refl e101 F1 (g := (mkF m 20 #[.val (.ref a1), .val (.long q2), .second, .val (.int p3)] [(.ref a1)])) rfl rfl (hb hby d3_20)
  obtain ⟨T103, X103, e103, st103⟩ := getF X102 hx hZ0 hown0 (host := "") (Or.inl (hw _ (List.mem_of_getElem? (i := 28) rfl))) Via.refl e102 F3 (g := (mkF m 24 #[.val (.ref a1), .val (.long q2), .second, .val (.int p3)] [(.ref a1), (.ref d)])) rfl rfl (hb hby d3_24)
  obtain ⟨T104, X104, e104, st104⟩ := getS2 X103 hx hZ0 hown0 (host := "") (Or.inl (hw _ (List.mem_of_getElem? (i := 31) rfl))) Via.refl e103 (Sta.ext O0.2 SC) (g := (mkF m 27 #[.val (.ref a1), .val (.long q2), .second, .val (.int p3)] [(.int (0 : Int32)), (.ref d)])) rfl (hb hby d3_27)
  have cf105 : (((0 : Int32).toUInt32 >>> ((14 : Int32) &&& 31).toUInt32).toInt32) = (0 : Int32) := by decide
  obtain ⟨cl106, Ar106, -, Sz106, -, Hs106, -⟩ := (id V1)
  have hin106 : ¬ ((0 : Int32) < 0 ∨ cl106.slots.size ≤ (0 : Int32).toNatClampNeg) := inb_of Sz106 ⟨by decide, by decide⟩
  obtain ⟨T107, X107, e107, st107⟩ := getF X104 hx hZ0 hown0 (host := "") (Or.inl (hw _ (List.mem_of_getElem? (i := 11) rfl))) Via.refl e104 F1 (g := (mkF m 36 #[.val (.ref a1), .val (.long q2), .second, .val (.int p3)] [(.ref a1)])) rfl rfl (hb hby d3_36)
  obtain ⟨T108, X108, e108, st108⟩ := getF X107 hx hZ0 hown0 (host := "") (Or.inl (hw _ (List.mem_of_getElem? (i := 28) rfl))) Via.refl e107 F3 (g := (mkF m 40 #[.val (.ref a1), .val (.long q2), .second, .val (.int p3)] [(.ref a1), (.ref d)])) rfl rfl (hb hby d3_40)
  obtain ⟨T109, X109, e109, st109⟩ := getS2 X108 hx hZ0 hown0 (host := "") (Or.inl (hw _ (List.mem_of_getElem? (i := 31) rfl))) Via.refl e108 (Sta.ext O0.2 SC) (g := (mkF m 43 #[.val (.ref a1), .val (.long q2), .second, .val (.int p3)] [(.int (0 : Int32)), (.ref d)])) rfl (hb hby d3_43)
  have cf110 : (((0 : Int32).toUInt32 >>> ((14 : Int32) &&& 31).toUInt32).toInt32) = (0 : Int32) := by decide
  obtain ⟨T111, h111, k111, X111, e111, E111, A111, x111, st111⟩ := newPE X109 hx hZ0 (hw _ (List.mem_of_getElem? (i := 33) rfl)) e109 (g := (mkF m 50 #[.val (.ref a1), .val (.long q2), .second, .val (.int p3)] [(.int (16384 : Int32)), (.int (0 : Int32)), (.ref d)])) rfl (hb hby d3_50) rfl (by decide) (cap := 16384) (by decide) (by decide) (by decide) (by decide) (ad := "[J") (by decide)
  obtain ⟨b111, g111⟩ : ∃ z, z = h0.size := ⟨_, rfl⟩
  rw [← g111] at A111 x111 st111
  have ne_a1_b111 : a1 ≠ b111 := Nat.ne_of_lt (Nat.lt_of_lt_of_le E1.lt (Nat.le_of_eq g111.symm))
  have ne_d_b111 : d ≠ b111 := Nat.ne_of_lt (Nat.lt_of_lt_of_le V1.lt (Nat.le_of_eq g111.symm))
  have ne_t_b111 : t ≠ b111 := Nat.ne_of_lt (Nat.lt_of_lt_of_le V2.lt (Nat.le_of_eq g111.symm))
  have gn_b111 : n0 ≤ b111 := Nat.le_trans Z0 (Nat.le_of_eq g111.symm)
  have sz_b111 : h0.size ≤ b111 := Nat.le_trans (Keep.refl h0 [a1, d, t]).1 (Nat.le_of_eq g111.symm)
  have f112 : Old Z n0 h111 := O0.ext E111
  have f113 : Exa Z h111 a1 "holdfast/CountedIds$Batch" := Exa.ext E111 E1
  have f114 : Fld Z h111 a1 "holdfast/CountedIds$Batch" "digests" "[[J" (.ref d) := Fld.ext E111 F1
  have f115 : Fld Z h111 a1 "holdfast/CountedIds$Batch" "tags" "[[I" (.ref t) := Fld.ext E111 F2
  have f116 : Fld Z h111 a1 "holdfast/CountedIds$Batch" "size" "I" (.int (0 : Int32)) := Fld.ext E111 F3
  have f117 : Fld Z h111 a1 "holdfast/CountedIds$Batch" "sorted" "Z" (.int so) := Fld.ext E111 F4
  have f118 : Arv Z h111 d kd (.array .long) (64 : Int32) [.null] .null := V1.ext E111
  have f119 : Arv Z h111 t kt (.array .int) (64 : Int32) [.null] .null := V2.ext E111
  have Zs111 : n0 ≤ h111.size := Nat.le_trans Z0 E111.1
  have K111 : Keep h0 h111 [a1, d, t] := (Keep.refl h0 [a1, d, t]).ext E111
  have v111 : OwnLng Z h111 b111 := OwnLng.new A111
  obtain ⟨cl120, Ar120, ck120, Sz120, Nn120, Hs120, Gg120⟩ := (id f118)
  have hin120 : ¬ ((0 : Int32) < 0 ∨ cl120.slots.size ≤ (0 : Int32).toNatClampNeg) := inb_of Sz120 ⟨by decide, by decide⟩
  obtain ⟨T121, h121, X121, e121, W121, st121⟩ := stR X111 hx hZ0 e111 Ar120 (j := (0 : Int32)) hin120 rfl (Sto.ofVA Ar120 ck120 o1 (Ins.self x111)) (g := (mkF m 52 #[.val (.ref a1), .val (.long q2), .second, .val (.int p3)] [(.ref b111), (.int (0 : Int32)), (.ref d)])) rfl rfl (hb hby d3_52)
  have f122 : Old Z n0 h121 := f112.wr W121 g2
  have f123 : Exa Z h121 a1 "holdfast/CountedIds$Batch" := Exa.wr W121 f113
  have f124 : Fld Z h121 a1 "holdfast/CountedIds$Batch" "digests" "[[J" (.ref d) := Fld.other W121 f114 (Or.inl n1)
  have f125 : Fld Z h121 a1 "holdfast/CountedIds$Batch" "tags" "[[I" (.ref t) := Fld.other W121 f115 (Or.inl n1)
  have f126 : Fld Z h121 a1 "holdfast/CountedIds$Batch" "size" "I" (.int (0 : Int32)) := Fld.other W121 f116 (Or.inl n1)
  have f127 : Fld Z h121 a1 "holdfast/CountedIds$Batch" "sorted" "Z" (.int so) := Fld.other W121 f117 (Or.inl n1)
  have f128 : Arv Z h121 t kt (.array .int) (64 : Int32) [.null] .null := f119.other W121 (Ne.symm n3)
  have f129 : OwnLng Z h121 b111 := OwnLng.other v111 W121 (Ne.symm ne_d_b111)
  have f130 : Exa Z h121 b111 "[J" := Exa.wr W121 x111
  have Zs121 : n0 ≤ h121.size := Nat.le_trans Zs111 (Keep.of_wr W121).1
  have N121 := Fr.snoc X121 N0 g2
  have K121 : Keep h0 h121 [a1, d, t] := K111.wr W121 (Or.inl (List.mem_of_getElem? (i := 1) rfl))
  have v121 : Arv Z h121 d kd (.array .long) (64 : Int32) [(.ref b111)] .null := Arv.set Ar120 ck120 Sz120 Nn120 Hs120 Gg120 rfl W121 0 rfl (by decide)
  obtain ⟨T131, X131, e131, st131⟩ := getF X121 hx hZ0 hown0 (host := "") (Or.inl (hw _ (List.mem_of_getElem? (i := 15) rfl))) Via.refl e121 f125 (g := (mkF m 54 #[.val (.ref a1), .val (.long q2), .second, .val (.int p3)] [(.ref a1)])) rfl rfl (hb hby d3_54)
  obtain ⟨T132, X132, e132, st132⟩ := getF X131 hx hZ0 hown0 (host := "") (Or.inl (hw _ (List.mem_of_getElem? (i := 28) rfl))) Via.refl e131 f126 (g := (mkF m 58 #[.val (.ref a1), .val (.long q2), .second, .val (.int p3)] [(.ref a1), (.ref t)])) rfl rfl (hb hby d3_58)
  obtain ⟨T133, X133, e133, st133⟩ := getS2 X132 hx hZ0 hown0 (host := "") (Or.inl (hw _ (List.mem_of_getElem? (i := 31) rfl))) Via.refl e132 (Sta.ext f122.2 SC) (g := (mkF m 61 #[.val (.ref a1), .val (.long q2), .second, .val (.int p3)] [(.int (0 : Int32)), (.ref t)])) rfl (hb hby d3_61)
  have cf134 : (((0 : Int32).toUInt32 >>> ((14 : Int32) &&& 31).toUInt32).toInt32) = (0 : Int32) := by decide
  obtain ⟨T135, h135, k135, X135, e135, E135, A135, x135, st135⟩ := newPE X133 hx hZ0 (hw _ (List.mem_of_getElem? (i := 35) rfl)) e133 (g := (mkF m 68 #[.val (.ref a1), .val (.long q2), .second, .val (.int p3)] [(.int (16384 : Int32)), (.int (0 : Int32)), (.ref t)])) rfl (hb hby d3_68) rfl (by decide) (cap := 16384) (by decide) (by decide) (by decide) (by decide) (ad := "[I") (by decide)
  obtain ⟨b135, g135⟩ : ∃ z, z = h121.size := ⟨_, rfl⟩
  rw [← g135] at A135 x135 st135
  have ne_a1_b135 : a1 ≠ b135 := Nat.ne_of_lt (Nat.lt_of_lt_of_le f123.lt (Nat.le_of_eq g135.symm))
  have ne_t_b135 : t ≠ b135 := Nat.ne_of_lt (Nat.lt_of_lt_of_le f128.lt (Nat.le_of_eq g135.symm))
  have ne_b111_b135 : b111 ≠ b135 := Nat.ne_of_lt (Nat.lt_of_lt_of_le f129.lt (Nat.le_of_eq g135.symm))
  have ne_d_b135 : d ≠ b135 := Nat.ne_of_lt (Nat.lt_of_lt_of_le v121.lt (Nat.le_of_eq g135.symm))
  have gn_b135 : n0 ≤ b135 := Nat.le_trans Zs121 (Nat.le_of_eq g135.symm)
  have sz_b135 : h0.size ≤ b135 := Nat.le_trans K121.1 (Nat.le_of_eq g135.symm)
  have f136 : Old Z n0 h135 := f122.ext E135
  have f137 : Exa Z h135 a1 "holdfast/CountedIds$Batch" := Exa.ext E135 f123
  have f138 : Fld Z h135 a1 "holdfast/CountedIds$Batch" "digests" "[[J" (.ref d) := Fld.ext E135 f124
  have f139 : Fld Z h135 a1 "holdfast/CountedIds$Batch" "tags" "[[I" (.ref t) := Fld.ext E135 f125
  have f140 : Fld Z h135 a1 "holdfast/CountedIds$Batch" "size" "I" (.int (0 : Int32)) := Fld.ext E135 f126
  have f141 : Fld Z h135 a1 "holdfast/CountedIds$Batch" "sorted" "Z" (.int so) := Fld.ext E135 f127
  have f142 : Arv Z h135 t kt (.array .int) (64 : Int32) [.null] .null := f128.ext E135
  have f143 : OwnLng Z h135 b111 := OwnLng.ext f129 E135
  have f144 : Exa Z h135 b111 "[J" := Exa.ext E135 f130
  have f145 : Arv Z h135 d kd (.array .long) (64 : Int32) [(.ref b111)] .null := v121.ext E135
  have Zs135 : n0 ≤ h135.size := Nat.le_trans Zs121 E135.1
  have K135 : Keep h0 h135 [a1, d, t] := K121.ext E135
  have v135 : OwnTg Z h135 b135 own_none := OwnTg.new A135
  obtain ⟨cl146, Ar146, ck146, Sz146, Nn146, Hs146, Gg146⟩ := (id f142)
  have hin146 : ¬ ((0 : Int32) < 0 ∨ cl146.slots.size ≤ (0 : Int32).toNatClampNeg) := inb_of Sz146 ⟨by decide, by decide⟩
  obtain ⟨T147, h147, X147, e147, W147, st147⟩ := stR X135 hx hZ0 e135 Ar146 (j := (0 : Int32)) hin146 rfl (Sto.ofVA Ar146 ck146 o2 (Ins.self x135)) (g := (mkF m 70 #[.val (.ref a1), .val (.long q2), .second, .val (.int p3)] [(.ref b135), (.int (0 : Int32)), (.ref t)])) rfl rfl (hb hby d3_70)
  have f148 : Old Z n0 h147 := f136.wr W147 g3
  have f149 : Exa Z h147 a1 "holdfast/CountedIds$Batch" := Exa.wr W147 f137
  have f150 : Fld Z h147 a1 "holdfast/CountedIds$Batch" "digests" "[[J" (.ref d) := Fld.other W147 f138 (Or.inl n2)
  have f151 : Fld Z h147 a1 "holdfast/CountedIds$Batch" "tags" "[[I" (.ref t) := Fld.other W147 f139 (Or.inl n2)
  have f152 : Fld Z h147 a1 "holdfast/CountedIds$Batch" "size" "I" (.int (0 : Int32)) := Fld.other W147 f140 (Or.inl n2)
  have f153 : Fld Z h147 a1 "holdfast/CountedIds$Batch" "sorted" "Z" (.int so) := Fld.other W147 f141 (Or.inl n2)
  have f154 : OwnLng Z h147 b111 := OwnLng.other f143 W147 (Ne.symm ne_t_b111)
  have f155 : Exa Z h147 b111 "[J" := Exa.wr W147 f144
  have f156 : Arv Z h147 d kd (.array .long) (64 : Int32) [(.ref b111)] .null := f145.other W147 n3
  have f157 : OwnTg Z h147 b135 own_none := OwnTg.other v135 W147 (Ne.symm ne_t_b135)
  have f158 : Exa Z h147 b135 "[I" := Exa.wr W147 x135
  have Zs147 : n0 ≤ h147.size := Nat.le_trans Zs135 (Keep.of_wr W147).1
  have N147 := Fr.snoc X147 N121 g3
  have K147 : Keep h0 h147 [a1, d, t] := K135.wr W147 (Or.inl (List.mem_of_getElem? (i := 2) rfl))
  have v147 : Arv Z h147 t kt (.array .int) (64 : Int32) [(.ref b135)] .null := Arv.set Ar146 ck146 Sz146 Nn146 Hs146 Gg146 rfl W147 0 rfl (by decide)
  obtain ⟨T159, X159, e159, st159⟩ := getF X147 hx hZ0 hown0 (host := "") (Or.inl (hw _ (List.mem_of_getElem? (i := 11) rfl))) Via.refl e147 f150 (g := (mkF m 72 #[.val (.ref a1), .val (.long q2), .second, .val (.int p3)] [(.ref a1)])) rfl rfl (hb hby d3_72)
  obtain ⟨T160, X160, e160, st160⟩ := getF X159 hx hZ0 hown0 (host := "") (Or.inl (hw _ (List.mem_of_getElem? (i := 15) rfl))) Via.refl e159 f151 (g := (mkF m 76 #[.val (.ref a1), .val (.long q2), .second, .val (.int p3)] [(.ref a1), (.ref d)])) rfl rfl (hb hby d3_76)
  obtain ⟨T161, X161, e161, st161⟩ := getF X160 hx hZ0 hown0 (host := "") (Or.inl (hw _ (List.mem_of_getElem? (i := 28) rfl))) Via.refl e160 f152 (g := (mkF m 80 #[.val (.ref a1), .val (.long q2), .second, .val (.int p3)] [(.ref a1), (.ref t), (.ref d)])) rfl rfl (hb hby d3_80)
  obtain ⟨_, _, ⟨T162, L162, k162, n162⟩, -, X162, ⟨Lc162, hQ162, l162, y162, z162⟩, st162⟩ := Jvm.LawKit.callS X161 hx (y := (⟨"holdfast/CountedIds$Batch", "set", "([[J[[IIJI)V"⟩ : MethodName)) hown0 (mvT hZ0 (hw _ (List.mem_of_getElem? (i := 37) rfl))) (mvT hZ0 (hw _ (List.mem_of_getElem? (i := 38) rfl))) (mvT hZ0 (hw _ (List.mem_of_getElem? (i := 2) rfl))) (mvT hZ0 (hw _ (List.mem_of_getElem? (i := 39) rfl))) (by decide) (backOf (W := 0) (rm4 l Z a0 hw [] d t (0 : Int32) q2 p3 b111 b135 kd kt own_none h147 n0 Zs147 f148 SC f156 v147 f154 f157 ne_b111_b135 ne_t_b111 ne_d_b111 ne_d_b135 ne_t_b135 gn_b111 gn_b135 (by decide) (by decide) (by decide)) hZ0 (hw _ (List.mem_of_getElem? (i := 39) rfl)) (hw _ (List.mem_of_getElem? (i := 2) rfl)) (by decide) (by decide)) (g := (mkF m 85 #[.val (.ref a1), .val (.long q2), .second, .val (.int p3)] [(.int p3), (.long q2), (.int (0 : Int32)), (.ref t), (.ref d)])) rfl (by rw [hml]; rfl) (argsL := [(.ref d), (.ref t), (.int (0 : Int32)), (.long q2), (.int p3)]) (rest := []) (lenOf pd_0 rfl) rfl (by show 2 * 0 + _ ≤ _; exact Nat.le_of_eq rfl) (hb hby d3_85) (fun _ _ => ⟨rfl, e161, (by decide : 2 + 0 ≤ _), (by decide : 32768 + 0 ≤ _)⟩)
  dsimp only [Pt.U, Pt.locs, Pt.cells, Pt.slots] at X162 l162 y162 z162 st162 hQ162
  subst l162 y162 z162
  obtain ⟨rfl, N162q, P162_0, P162_1, P162_2⟩ := hQ162
  have N162 := Fr.app N147 N162q
  have f163 : Old Z n0 T162.heap := f148.keep P162_0 (allS gn_b111 (allS gn_b135 all0))
  have f164 : Exa Z T162.heap a1 "holdfast/CountedIds$Batch" := f149.keep P162_0
  have f165 : Fld Z T162.heap a1 "holdfast/CountedIds$Batch" "digests" "[[J" (.ref d) := f150.keep P162_0 (ninS ne_a1_b111 (ninS ne_a1_b135 nin0))
  have f166 : Fld Z T162.heap a1 "holdfast/CountedIds$Batch" "tags" "[[I" (.ref t) := f151.keep P162_0 (ninS ne_a1_b111 (ninS ne_a1_b135 nin0))
  have f167 : Fld Z T162.heap a1 "holdfast/CountedIds$Batch" "size" "I" (.int (0 : Int32)) := f152.keep P162_0 (ninS ne_a1_b111 (ninS ne_a1_b135 nin0))
  have f168 : Fld Z T162.heap a1 "holdfast/CountedIds$Batch" "sorted" "Z" (.int so) := f153.keep P162_0 (ninS ne_a1_b111 (ninS ne_a1_b135 nin0))
  have f169 : Exa Z T162.heap b111 "[J" := f155.keep P162_0
  have f170 : Arv Z T162.heap d kd (.array .long) (64 : Int32) [(.ref b111)] .null := f156.keep P162_0 (ninS ne_d_b111 (ninS ne_d_b135 nin0))
  have f171 : Exa Z T162.heap b135 "[I" := f158.keep P162_0
  have f172 : Arv Z T162.heap t kt (.array .int) (64 : Int32) [(.ref b135)] .null := v147.keep P162_0 (ninS ne_t_b111 (ninS ne_t_b135 nin0))
  have Zs162 : n0 ≤ T162.heap.size := Nat.le_trans Zs147 P162_0.1
  have K162 : Keep h0 T162.heap [a1, d, t] := K147.trans P162_0 (allS (Or.inr sz_b111) (allS (Or.inr sz_b135) all0))
  obtain ⟨T173, X173, e173, st173⟩ := getF X162 hx hZ0 hown0 (host := "") (Or.inl (hw _ (List.mem_of_getElem? (i := 28) rfl))) Via.refl rfl f167 (g := (mkF m 90 #[.val (.ref a1), .val (.long q2), .second, .val (.int p3)] [(.ref a1), (.ref a1)])) rfl rfl (hb hby d3_90)
  have cf174 : ((0 : Int32) + (1 : Int32)) = (1 : Int32) := by decide
  obtain ⟨T175, h175, X175, e175, W175, st175⟩ := putF X173 hx hZ0 hown0 (host := "") (Or.inl (hw _ (List.mem_of_getElem? (i := 28) rfl))) Via.refl e173 f167 f164 (Or.inl (hw _ (List.mem_of_getElem? (i := 29) rfl))) (hw _ (List.mem_of_getElem? (i := 1) rfl)) (ty := .int) (by decide) rfl rfl (g := (mkF m 95 #[.val (.ref a1), .val (.long q2), .second, .val (.int p3)] [(.int (1 : Int32)), (.ref a1)])) rfl rfl (hb hby d3_95)
  have f176 : Old Z n0 h175 := f163.wr W175 g1
  have f177 : Exa Z h175 a1 "holdfast/CountedIds$Batch" := Exa.wr W175 f164
  have f178 : Fld Z h175 a1 "holdfast/CountedIds$Batch" "digests" "[[J" (.ref d) := Fld.other W175 f165 (Or.inr (slot_ne (Or.inl (hw _ (List.mem_of_getElem? (i := 12) rfl))) (Or.inl (hw _ (List.mem_of_getElem? (i := 29) rfl))) (by decide) (t := (.array (.array .long))) (t' := .int) (by decide) (by decide)))
  have f179 : Fld Z h175 a1 "holdfast/CountedIds$Batch" "tags" "[[I" (.ref t) := Fld.other W175 f166 (Or.inr (slot_ne (Or.inl (hw _ (List.mem_of_getElem? (i := 16) rfl))) (Or.inl (hw _ (List.mem_of_getElem? (i := 29) rfl))) (by decide) (t := (.array (.array .int))) (t' := .int) (by decide) (by decide)))
  have f180 : Fld Z h175 a1 "holdfast/CountedIds$Batch" "sorted" "Z" (.int so) := Fld.other W175 f168 (Or.inr (slot_ne (Or.inl (hw _ (List.mem_of_getElem? (i := 22) rfl))) (Or.inl (hw _ (List.mem_of_getElem? (i := 29) rfl))) (by decide) (t := .boolean) (t' := .int) (by decide) (by decide)))
  have f181 : Exa Z h175 b111 "[J" := Exa.wr W175 f169
  have f182 : Arv Z h175 d kd (.array .long) (64 : Int32) [(.ref b111)] .null := f170.other W175 (Ne.symm n1)
  have f183 : Exa Z h175 b135 "[I" := Exa.wr W175 f171
  have f184 : Arv Z h175 t kt (.array .int) (64 : Int32) [(.ref b135)] .null := f172.other W175 (Ne.symm n2)
  have f185 : OwnLng Z h175 b111 := OwnLng.other P162_1 W175 (Ne.symm ne_a1_b111)
  have f186 : OwnTg Z h175 b135 (own_up own_none (0 : Int32) p3) := OwnTg.other P162_2 W175 (Ne.symm ne_a1_b135)
  have f187 : Fld Z h175 a1 "holdfast/CountedIds$Batch" "size" "I" (.int (1 : Int32)) := f167.same W175
  have Zs175 : n0 ≤ h175.size := Nat.le_trans Zs162 (Keep.of_wr W175).1
  have N175 := Fr.snoc X175 N162 g1
  have K175 : Keep h0 h175 [a1, d, t] := K162.wr W175 (Or.inl (List.mem_of_getElem? (i := 0) rfl))
  obtain ⟨T188, h188, X188, e188, W188, st188⟩ := putFN X175 hx hZ0 hown0 (hw _ (List.mem_of_getElem? (i := 21) rfl)) Via.refl e175 f180 f177 (Or.inl (hw _ (List.mem_of_getElem? (i := 22) rfl))) (hw _ (List.mem_of_getElem? (i := 1) rfl)) (ty := .boolean) (v' := (.int (0 : Int32))) (by decide) rfl (by decide) (g := (mkF m 100 #[.val (.ref a1), .val (.long q2), .second, .val (.int p3)] [(.int (0 : Int32)), (.ref a1)])) rfl rfl (hb hby d3_100)
  have f189 : Old Z n0 h188 := f176.wr W188 g1
  have f190 : Exa Z h188 a1 "holdfast/CountedIds$Batch" := Exa.wr W188 f177
  have f191 : Fld Z h188 a1 "holdfast/CountedIds$Batch" "digests" "[[J" (.ref d) := Fld.other W188 f178 (Or.inr (slot_ne (Or.inl (hw _ (List.mem_of_getElem? (i := 12) rfl))) (Or.inl (hw _ (List.mem_of_getElem? (i := 22) rfl))) (by decide) (t := (.array (.array .long))) (t' := .boolean) (by decide) (by decide)))
  have f192 : Fld Z h188 a1 "holdfast/CountedIds$Batch" "tags" "[[I" (.ref t) := Fld.other W188 f179 (Or.inr (slot_ne (Or.inl (hw _ (List.mem_of_getElem? (i := 16) rfl))) (Or.inl (hw _ (List.mem_of_getElem? (i := 22) rfl))) (by decide) (t := (.array (.array .int))) (t' := .boolean) (by decide) (by decide)))
  have f193 : Exa Z h188 b111 "[J" := Exa.wr W188 f181
  have f194 : Arv Z h188 d kd (.array .long) (64 : Int32) [(.ref b111)] .null := f182.other W188 (Ne.symm n1)
  have f195 : Exa Z h188 b135 "[I" := Exa.wr W188 f183
  have f196 : Arv Z h188 t kt (.array .int) (64 : Int32) [(.ref b135)] .null := f184.other W188 (Ne.symm n2)
  have f197 : OwnLng Z h188 b111 := OwnLng.other f185 W188 (Ne.symm ne_a1_b111)
  have f198 : OwnTg Z h188 b135 (own_up own_none (0 : Int32) p3) := OwnTg.other f186 W188 (Ne.symm ne_a1_b135)
  have f199 : Fld Z h188 a1 "holdfast/CountedIds$Batch" "size" "I" (.int (1 : Int32)) := Fld.other W188 f187 (Or.inr (slot_ne (Or.inl (hw _ (List.mem_of_getElem? (i := 29) rfl))) (Or.inl (hw _ (List.mem_of_getElem? (i := 22) rfl))) (by decide) (t := .int) (t' := .boolean) (by decide) (by decide)))
  have f200 : Fld Z h188 a1 "holdfast/CountedIds$Batch" "sorted" "Z" (.int (0 : Int32)) := f180.same W188
  have Zs188 : n0 ≤ h188.size := Nat.le_trans Zs175 (Keep.of_wr W188).1
  have N188 := Fr.snoc X188 N175 g1
  have K188 : Keep h0 h188 [a1, d, t] := K175.wr W188 (Or.inl (List.mem_of_getElem? (i := 0) rfl))
  obtain ⟨fs, hr, hrun, hended, hW, hsame⟩ := X188.leave (v := none) (fun _ => rfl) hlk
  refine ⟨_, _, pre0 _ ?_, hrun, hended, _, _, rfl, ?_, ⟨_, rfl⟩, hW, hsame.mono (by decide) (by decide)⟩
  · show Steps p.tables e below (s₁.setTop (mkF m 0 #[.val (.ref a1), .val (.long q2), .second, .val (.int p3)] [])) _
    refine XS.aloadN X0.here hx rfl (hb hby d3_0) rfl rfl ?_
    show Steps p.tables e below (s₁.setTop (mkF m 1 #[.val (.ref a1), .val (.long q2), .second, .val (.int p3)] [(.ref a1)])) _
    refine st101 _ ?_
    show Steps p.tables e below (T101.setTop (mkF m 4 #[.val (.ref a1), .val (.long q2), .second, .val (.int p3)] [(.int (0 : Int32))])) _
    refine X101.ldcI hx hown0 (mvT hZ0 (hw _ (List.mem_of_getElem? (i := 30) rfl))) (g := (mkF m 4 #[.val (.ref a1), .val (.long q2), .second, .val (.int p3)] [(.int (0 : Int32))])) rfl (hb hby d3_4) ?_
    show Steps p.tables e below (T101.setTop (mkF m 6 #[.val (.ref a1), .val (.long q2), .second, .val (.int p3)] [(.int (1048576 : Int32)), (.int (0 : Int32))])) _
    refine XS.icmpYes X101.here hx rfl (pc0 := 6) (pc' := 19) rfl (hb hby d3_6) rfl (feq (by decide : ¬ ((0 : Int32) = (1048576 : Int32)))).2 (by decide) (by decide) ?_
    show Steps p.tables e below (T101.setTop (mkF m 19 #[.val (.ref a1), .val (.long q2), .second, .val (.int p3)] [])) _
    refine XS.aloadN X101.here hx rfl (hb hby d3_19) rfl rfl ?_
    show Steps p.tables e below (T101.setTop (mkF m 20 #[.val (.ref a1), .val (.long q2), .second, .val (.int p3)] [(.ref a1)])) _
    refine st102 _ ?_
    show Steps p.tables e below (T102.setTop (mkF m 23 #[.val (.ref a1), .val (.long q2), .second, .val (.int p3)] [(.ref d)])) _
    refine XS.aloadN X102.here hx rfl (hb hby d3_23) rfl rfl ?_
    show Steps p.tables e below (T102.setTop (mkF m 24 #[.val (.ref a1), .val (.long q2), .second, .val (.int p3)] [(.ref a1), (.ref d)])) _
    refine st103 _ ?_
    show Steps p.tables e below (T103.setTop (mkF m 27 #[.val (.ref a1), .val (.long q2), .second, .val (.int p3)] [(.int (0 : Int32)), (.ref d)])) _
    refine st104 _ ?_
    show Steps p.tables e below (T104.setTop (mkF m 30 #[.val (.ref a1), .val (.long q2), .second, .val (.int p3)] [(.int (14 : Int32)), (.int (0 : Int32)), (.ref d)])) _
    refine XS.iushr X104.here hx rfl (hb hby d3_30) rfl ?_
    show Steps p.tables e below (T104.setTop (mkF m 31 #[.val (.ref a1), .val (.long q2), .second, .val (.int p3)] [(.int (((0 : Int32).toUInt32 >>> ((14 : Int32) &&& 31).toUInt32).toInt32)), (.ref d)])) _
    rw [cf105]
    show Steps p.tables e below (T104.setTop (mkF m 31 #[.val (.ref a1), .val (.long q2), .second, .val (.int p3)] [(.int (0 : Int32)), (.ref d)])) _
    refine X104.aaload hx (j := (0 : Int32)) (v := .null) (by rw [e104]; exact Ar106.1) (State.isArrayOf_alike hZ0.alike Ar106.2.1) rfl Ar106.2.2 hin106 (Has.at Hs106 hin106 rfl) (g := (mkF m 31 #[.val (.ref a1), .val (.long q2), .second, .val (.int p3)] [(.int (0 : Int32)), (.ref d)])) rfl rfl (hb hby d3_31) _ ?_
    show Steps p.tables e below (T104.setTop (mkF m 32 #[.val (.ref a1), .val (.long q2), .second, .val (.int p3)] [.null])) _
    refine XS.ifnonnullNo X104.here hx rfl (hb hby d3_32) rfl ?_
    show Steps p.tables e below (T104.setTop (mkF m 35 #[.val (.ref a1), .val (.long q2), .second, .val (.int p3)] [])) _
    refine XS.aloadN X104.here hx rfl (hb hby d3_35) rfl rfl ?_
    show Steps p.tables e below (T104.setTop (mkF m 36 #[.val (.ref a1), .val (.long q2), .second, .val (.int p3)] [(.ref a1)])) _
    refine st107 _ ?_
    show Steps p.tables e below (T107.setTop (mkF m 39 #[.val (.ref a1), .val (.long q2), .second, .val (.int p3)] [(.ref d)])) _
    refine XS.aloadN X107.here hx rfl (hb hby d3_39) rfl rfl ?_
    show Steps p.tables e below (T107.setTop (mkF m 40 #[.val (.ref a1), .val (.long q2), .second, .val (.int p3)] [(.ref a1), (.ref d)])) _
    refine st108 _ ?_
    show Steps p.tables e below (T108.setTop (mkF m 43 #[.val (.ref a1), .val (.long q2), .second, .val (.int p3)] [(.int (0 : Int32)), (.ref d)])) _
    refine st109 _ ?_
    show Steps p.tables e below (T109.setTop (mkF m 46 #[.val (.ref a1), .val (.long q2), .second, .val (.int p3)] [(.int (14 : Int32)), (.int (0 : Int32)), (.ref d)])) _
    refine XS.iushr X109.here hx rfl (hb hby d3_46) rfl ?_
    show Steps p.tables e below (T109.setTop (mkF m 47 #[.val (.ref a1), .val (.long q2), .second, .val (.int p3)] [(.int (((0 : Int32).toUInt32 >>> ((14 : Int32) &&& 31).toUInt32).toInt32)), (.ref d)])) _
    rw [cf110]
    show Steps p.tables e below (T109.setTop (mkF m 47 #[.val (.ref a1), .val (.long q2), .second, .val (.int p3)] [(.int (0 : Int32)), (.ref d)])) _
    refine XS.sipush X109.here hx rfl (hb hby d3_47) ?_
    show Steps p.tables e below (T109.setTop (mkF m 50 #[.val (.ref a1), .val (.long q2), .second, .val (.int p3)] [(.int (16384 : Int32)), (.int (0 : Int32)), (.ref d)])) _
    refine st111 _ ?_
    show Steps p.tables e below (T111.setTop (mkF m 52 #[.val (.ref a1), .val (.long q2), .second, .val (.int p3)] [(.ref b111), (.int (0 : Int32)), (.ref d)])) _
    refine st121 _ ?_
    show Steps p.tables e below (T121.setTop (mkF m 53 #[.val (.ref a1), .val (.long q2), .second, .val (.int p3)] [])) _
    refine XS.aloadN X121.here hx rfl (hb hby d3_53) rfl rfl ?_
    show Steps p.tables e below (T121.setTop (mkF m 54 #[.val (.ref a1), .val (.long q2), .second, .val (.int p3)] [(.ref a1)])) _
    refine st131 _ ?_
    show Steps p.tables e below (T131.setTop (mkF m 57 #[.val (.ref a1), .val (.long q2), .second, .val (.int p3)] [(.ref t)])) _
    refine XS.aloadN X131.here hx rfl (hb hby d3_57) rfl rfl ?_
    show Steps p.tables e below (T131.setTop (mkF m 58 #[.val (.ref a1), .val (.long q2), .second, .val (.int p3)] [(.ref a1), (.ref t)])) _
    refine st132 _ ?_
    show Steps p.tables e below (T132.setTop (mkF m 61 #[.val (.ref a1), .val (.long q2), .second, .val (.int p3)] [(.int (0 : Int32)), (.ref t)])) _
    refine st133 _ ?_
    show Steps p.tables e below (T133.setTop (mkF m 64 #[.val (.ref a1), .val (.long q2), .second, .val (.int p3)] [(.int (14 : Int32)), (.int (0 : Int32)), (.ref t)])) _
    refine XS.iushr X133.here hx rfl (hb hby d3_64) rfl ?_
    show Steps p.tables e below (T133.setTop (mkF m 65 #[.val (.ref a1), .val (.long q2), .second, .val (.int p3)] [(.int (((0 : Int32).toUInt32 >>> ((14 : Int32) &&& 31).toUInt32).toInt32)), (.ref t)])) _
    rw [cf134]
    show Steps p.tables e below (T133.setTop (mkF m 65 #[.val (.ref a1), .val (.long q2), .second, .val (.int p3)] [(.int (0 : Int32)), (.ref t)])) _
    refine XS.sipush X133.here hx rfl (hb hby d3_65) ?_
    show Steps p.tables e below (T133.setTop (mkF m 68 #[.val (.ref a1), .val (.long q2), .second, .val (.int p3)] [(.int (16384 : Int32)), (.int (0 : Int32)), (.ref t)])) _
    refine st135 _ ?_
    show Steps p.tables e below (T135.setTop (mkF m 70 #[.val (.ref a1), .val (.long q2), .second, .val (.int p3)] [(.ref b135), (.int (0 : Int32)), (.ref t)])) _
    refine st147 _ ?_
    show Steps p.tables e below (T147.setTop (mkF m 71 #[.val (.ref a1), .val (.long q2), .second, .val (.int p3)] [])) _
    refine XS.aloadN X147.here hx rfl (hb hby d3_71) rfl rfl ?_
    show Steps p.tables e below (T147.setTop (mkF m 72 #[.val (.ref a1), .val (.long q2), .second, .val (.int p3)] [(.ref a1)])) _
    refine st159 _ ?_
    show Steps p.tables e below (T159.setTop (mkF m 75 #[.val (.ref a1), .val (.long q2), .second, .val (.int p3)] [(.ref d)])) _
    refine XS.aloadN X159.here hx rfl (hb hby d3_75) rfl rfl ?_
    show Steps p.tables e below (T159.setTop (mkF m 76 #[.val (.ref a1), .val (.long q2), .second, .val (.int p3)] [(.ref a1), (.ref d)])) _
    refine st160 _ ?_
    show Steps p.tables e below (T160.setTop (mkF m 79 #[.val (.ref a1), .val (.long q2), .second, .val (.int p3)] [(.ref t), (.ref d)])) _
    refine XS.aloadN X160.here hx rfl (hb hby d3_79) rfl rfl ?_
    show Steps p.tables e below (T160.setTop (mkF m 80 #[.val (.ref a1), .val (.long q2), .second, .val (.int p3)] [(.ref a1), (.ref t), (.ref d)])) _
    refine st161 _ ?_
    show Steps p.tables e below (T161.setTop (mkF m 83 #[.val (.ref a1), .val (.long q2), .second, .val (.int p3)] [(.int (0 : Int32)), (.ref t), (.ref d)])) _
    refine XS.lloadN X161.here hx rfl (hb hby d3_83) rfl ?_
    show Steps p.tables e below (T161.setTop (mkF m 84 #[.val (.ref a1), .val (.long q2), .second, .val (.int p3)] [(.long q2), (.int (0 : Int32)), (.ref t), (.ref d)])) _
    refine XS.iloadN X161.here hx rfl (hb hby d3_84) rfl ?_
    show Steps p.tables e below (T161.setTop (mkF m 85 #[.val (.ref a1), .val (.long q2), .second, .val (.int p3)] [(.int p3), (.long q2), (.int (0 : Int32)), (.ref t), (.ref d)])) _
    refine st162 _ ?_
    show Steps p.tables e below (T162.setTop (mkF m 88 #[.val (.ref a1), .val (.long q2), .second, .val (.int p3)] [])) _
    refine XS.aloadN X162.here hx rfl (hb hby d3_88) rfl rfl ?_
    show Steps p.tables e below (T162.setTop (mkF m 89 #[.val (.ref a1), .val (.long q2), .second, .val (.int p3)] [(.ref a1)])) _
    refine XS.dup X162.here hx rfl (hb hby d3_89) rfl rfl ?_
    show Steps p.tables e below (T162.setTop (mkF m 90 #[.val (.ref a1), .val (.long q2), .second, .val (.int p3)] [(.ref a1), (.ref a1)])) _
    refine st173 _ ?_
    show Steps p.tables e below (T173.setTop (mkF m 93 #[.val (.ref a1), .val (.long q2), .second, .val (.int p3)] [(.int (0 : Int32)), (.ref a1)])) _
    refine XS.iconst X173.here hx rfl (hb hby d3_93) ?_
    show Steps p.tables e below (T173.setTop (mkF m 94 #[.val (.ref a1), .val (.long q2), .second, .val (.int p3)] [(.int (1 : Int32)), (.int (0 : Int32)), (.ref a1)])) _
    refine XS.iadd X173.here hx rfl (hb hby d3_94) rfl ?_
    show Steps p.tables e below (T173.setTop (mkF m 95 #[.val (.ref a1), .val (.long q2), .second, .val (.int p3)] [(.int ((0 : Int32) + (1 : Int32))), (.ref a1)])) _
    rw [cf174]
    show Steps p.tables e below (T173.setTop (mkF m 95 #[.val (.ref a1), .val (.long q2), .second, .val (.int p3)] [(.int (1 : Int32)), (.ref a1)])) _
    refine st175 _ ?_
    show Steps p.tables e below (T175.setTop (mkF m 98 #[.val (.ref a1), .val (.long q2), .second, .val (.int p3)] [])) _
    refine XS.aloadN X175.here hx rfl (hb hby d3_98) rfl rfl ?_
    show Steps p.tables e below (T175.setTop (mkF m 99 #[.val (.ref a1), .val (.long q2), .second, .val (.int p3)] [(.ref a1)])) _
    refine XS.iconst X175.here hx rfl (hb hby d3_99) ?_
    show Steps p.tables e below (T175.setTop (mkF m 100 #[.val (.ref a1), .val (.long q2), .second, .val (.int p3)] [(.int (0 : Int32)), (.ref a1)])) _
    refine st188 _ ?_
    show Steps p.tables e below (T188.setTop (mkF m 103 #[.val (.ref a1), .val (.long q2), .second, .val (.int p3)] [])) _
    exact X188.returnOut hx Bd.returns (hb hby d3_103) hr
  · show Q3z Z a1 q2 p3 d t kd kt so h0 n0 _ T188.heap _
    rw [e188]
    exact ⟨b111, b135, rfl, N188, K188, sz_b111, sz_b135, ne_b111_b135, f191, f192, f199, f200, f194, f196, f197, f198⟩
theorem ef_3n (m : MethodId) (x0 : Addr) (x1 : Int64) (x2 : Int32) : entryFrame m #[(.ref x0), (.long x1), (.int x2)] 4 = mkF m 0 #[.val (.ref x0), .val (.long x1), .second, .val (.int x2)] [] := by first | (simp [entryFrame, mkF, argsToLocals, Value.category]; done) | rfl
def Q3n (Z : State) (a1 : Addr) (q2 : Int64) (p3 : Int32) (d : Addr) (t : Addr) (kd : ClassId) (kt : ClassId) (so : Int32) (dd : Addr) (tt : Addr) (g : Nat → Option Int32) (w : Int32) (w1 : Int32) (h0 : Heap) (n0 : Nat) (v : Option Value) (h : Heap) (L : List Loc) : Prop := v = none ∧ Fr n0 L ∧ (Keep h0 h [a1, dd, tt]) ∧ (Fld Z h a1 "holdfast/CountedIds$Batch" "digests" "[[J" (.ref d)) ∧ (Fld Z h a1 "holdfast/CountedIds$Batch" "tags" "[[I" (.ref t)) ∧ (Fld Z h a1 "holdfast/CountedIds$Batch" "size" "I" (.int w1)) ∧ (Fld Z h a1 "holdfast/CountedIds$Batch" "sorted" "Z" (.int (0 : Int32))) ∧ (OwnLng Z h dd) ∧ (OwnTg Z h tt (own_up g w p3))
set_option maxRecDepth 65536 in
set_option maxHeartbeats 40000000 in
theorem rm3n (l : Launch) (Z : State) (a0 : Array Value) (hw : ∀ d ∈ tables_1, d.before a0 Z = true) (ws : List Jvm.Cond) (a1 : Addr) (q2 : Int64) (p3 : Int32) (d : Addr) (t : Addr) (kd : ClassId) (kt : ClassId) (so : Int32) (dd : Addr) (tt : Addr) (g : Nat → Option Int32) (w : Int32) (w1 : Int32) (h0 : Heap) (n0 : Nat) (Z0 : n0 ≤ h0.size) (O0 : Old Z n0 h0) (SC : Sta Z Z.heap "holdfast/CountedIds$Batch" "CHUNK_BITS" "I" (.int (14 : Int32))) (E1 : Exa Z h0 a1 "holdfast/CountedIds$Batch") (g1 : n0 ≤ a1) (g2 : n0 ≤ d) (g3 : n0 ≤ t) (n1 : a1 ≠ d) (n2 : a1 ≠ t) (n3 : d ≠ t) (F1 : Fld Z h0 a1 "holdfast/CountedIds$Batch" "digests" "[[J" (.ref d)) (F2 : Fld Z h0 a1 "holdfast/CountedIds$Batch" "tags" "[[I" (.ref t)) (F3 : Fld Z h0 a1 "holdfast/CountedIds$Batch" "size" "I" (.int w)) (F4 : Fld Z h0 a1 "holdfast/CountedIds$Batch" "sorted" "Z" (.int so)) (V1 : Arv Z h0 d kd (.array .long) (64 : Int32) [(.ref dd)] .null) (V2 : Arv Z h0 t kt (.array .int) (64 : Int32) [(.ref tt)] .null) (L1 : OwnLng Z h0 dd) (T1 : OwnTg Z h0 tt g) (m1 : dd ≠ tt) (m2 : t ≠ dd) (m3 : d ≠ dd) (m4 : d ≠ tt) (m5 : t ≠ tt) (m6 : a1 ≠ dd) (m7 : a1 ≠ tt) (g4 : n0 ≤ dd) (g5 : n0 ≤ tt) (hs : ((w.toUInt32 >>> ((14 : Int32) &&& 31).toUInt32).toInt32) = (0 : Int32)) (hm : (w &&& (16383 : Int32)) = w) (hbd : ¬ w < (0 : Int32) ∧ w < (16384 : Int32)) (hne : ¬ (w = (1048576 : Int32))) (hw1 : (w + (1 : Int32)) = w1) :
    MetFree l (⟨"holdfast/CountedIds$Batch", "add", "(JI)V"⟩ : MethodName) (head1 (Jvm.Cond.code (⟨"holdfast/CountedIds$Batch", "add", "(JI)V"⟩ : MethodName) prog_10_method_2_code 4 none :: ws) ({ frames := 1, cells := 0, slots := 0, locals := 17 } : Room)) (fun a U => a = #[(.ref a1), (.long q2), (.int p3)] ∧ Z.Warmed39 U.vm ∧ U.heap = h0) (fun _ _ _ _ _ => True) (fun _ U o U' => ∃ v L, o = .returned v ∧ Q3n Z a1 q2 p3 d t kd kt so dd tt g w w1 h0 n0 v U'.heap L ∧ FrameEnd U o U' L ({ frames := 1, cells := 0, slots := 0, locals := 17 } : Room).cells ({ frames := 1, cells := 0, slots := 0, locals := 17 } : Room).slots) := by
  refine MetFree.of_bodySF (plainFor_of_name pn_0) hisR ?_
  intro p e s m args below meth c s₁ Bd hml0 hP hK
  obtain ⟨rfl, hZ0, hh⟩ := hP
  have hx := Bd.exec
  have hby := Bd.bytes
  have hml : c.maxLocals = 4 := hml0
  have hown0 : s.vm.findClass "holdfast/CountedIds$Batch" = some m.cls := findClass_of_methodNamed Bd.named
  have hnm := (name_of_methodNamed Bd.named Bd.method).1
  have hlk : meth.locks = false := by first | exact BodyLoose.notSynchronized Bd | exact Body.notSynchronized Bd
  have X0 : Stand p l e ({ frames := 1, cells := 0, slots := 0, locals := 17 } : Room) s m #[(.ref a1), (.long q2), (.int p3)] below meth c s₁ [] 0 0 := Stand.of_body Bd
  have e0 : s₁.heap = h0 := by rw [← hh, Bd.state]; rfl
  have N0 := Fr.nil n0
  have pre0 : ∀ t, Steps p.tables e below (s₁.setTop (mkF m 0 #[.val (.ref a1), .val (.long q2), .second, .val (.int p3)] [])) t → Steps p.tables e below (s₁.setTop (entryFrame m #[(.ref a1), (.long q2), (.int p3)] 4)) t := fun t k => castTop (ef_3n m a1 q2 p3) k
  obtain ⟨T101, X101, e101, st101⟩ := getF X0 hx hZ0 hown0 (host := "") (Or.inl (hw _ (List.mem_of_getElem? (i := 28) rfl))) Via.refl e0 F3 (g := (mkF m 1 #[.val (.ref a1), .val (.long q2), .second, .val (.int p3)] [(.ref a1)])) rfl rfl (hb hby d3_1)
  obtain ⟨T102, X102, e102, st102⟩ := getF X101 hx hZ0 hown0 (host := "") (Or.inl (hw _ (List.mem_of_getElem? (i := 11) rfl))) Via.refl e101 F1 (g := (mkF m 20 #[.val (.ref a1), .val (.long q2), .second, .val (.int p3)] [(.ref a1)])) rfl rfl (hb hby d3_20)
  obtain ⟨T103, X103, e103, st103⟩ := getF X102 hx hZ0 hown0 (host := "") (Or.inl (hw _ (List.mem_of_getElem? (i := 28) rfl))) Via.refl e102 F3 (g := (mkF m 24 #[.val (.ref a1), .val (.long q2), .second, .val (.int p3)] [(.ref a1), (.ref d)])) rfl rfl (hb hby d3_24)
  obtain ⟨T104, X104, e104, st104⟩ := getS2 X103 hx hZ0 hown0 (host := "") (Or.inl (hw _ (List.mem_of_getElem? (i := 31) rfl))) Via.refl e103 (Sta.ext O0.2 SC) (g := (mkF m 27 #[.val (.ref a1), .val (.long q2), .second, .val (.int p3)] [(.int w), (.ref d)])) rfl (hb hby d3_27)
  obtain ⟨cl105, Ar105, -, Sz105, -, Hs105, -⟩ := (id V1)
  have hin105 : ¬ ((0 : Int32) < 0 ∨ cl105.slots.size ≤ (0 : Int32).toNatClampNeg) := inb_of Sz105 ⟨by decide, by decide⟩
  obtain ⟨T106, X106, e106, st106⟩ := getF X104 hx hZ0 hown0 (host := "") (Or.inl (hw _ (List.mem_of_getElem? (i := 11) rfl))) Via.refl e104 F1 (g := (mkF m 72 #[.val (.ref a1), .val (.long q2), .second, .val (.int p3)] [(.ref a1)])) rfl rfl (hb hby d3_72)
  obtain ⟨T107, X107, e107, st107⟩ := getF X106 hx hZ0 hown0 (host := "") (Or.inl (hw _ (List.mem_of_getElem? (i := 15) rfl))) Via.refl e106 F2 (g := (mkF m 76 #[.val (.ref a1), .val (.long q2), .second, .val (.int p3)] [(.ref a1), (.ref d)])) rfl rfl (hb hby d3_76)
  obtain ⟨T108, X108, e108, st108⟩ := getF X107 hx hZ0 hown0 (host := "") (Or.inl (hw _ (List.mem_of_getElem? (i := 28) rfl))) Via.refl e107 F3 (g := (mkF m 80 #[.val (.ref a1), .val (.long q2), .second, .val (.int p3)] [(.ref a1), (.ref t), (.ref d)])) rfl rfl (hb hby d3_80)
  obtain ⟨_, _, ⟨T109, L109, k109, n109⟩, -, X109, ⟨Lc109, hQ109, l109, y109, z109⟩, st109⟩ := Jvm.LawKit.callS X108 hx (y := (⟨"holdfast/CountedIds$Batch", "set", "([[J[[IIJI)V"⟩ : MethodName)) hown0 (mvT hZ0 (hw _ (List.mem_of_getElem? (i := 37) rfl))) (mvT hZ0 (hw _ (List.mem_of_getElem? (i := 38) rfl))) (mvT hZ0 (hw _ (List.mem_of_getElem? (i := 2) rfl))) (mvT hZ0 (hw _ (List.mem_of_getElem? (i := 39) rfl))) (by decide) (backOf (W := 0) (rm4 l Z a0 hw [] d t w q2 p3 dd tt kd kt g h0 n0 Z0 O0 SC V1 V2 L1 T1 m1 m2 m3 m4 m5 g4 g5 hs hm hbd) hZ0 (hw _ (List.mem_of_getElem? (i := 39) rfl)) (hw _ (List.mem_of_getElem? (i := 2) rfl)) (by decide) (by decide)) (g := (mkF m 85 #[.val (.ref a1), .val (.long q2), .second, .val (.int p3)] [(.int p3), (.long q2), (.int w), (.ref t), (.ref d)])) rfl (by rw [hml]; rfl) (argsL := [(.ref d), (.ref t), (.int w), (.long q2), (.int p3)]) (rest := []) (lenOf pd_0 rfl) rfl (by show 2 * 0 + _ ≤ _; exact Nat.le_of_eq rfl) (hb hby d3_85) (fun _ _ => ⟨rfl, e108, (by decide : 0 + 0 ≤ _), (by decide : 0 + 0 ≤ _)⟩)
  dsimp only [Pt.U, Pt.locs, Pt.cells, Pt.slots] at X109 l109 y109 z109 st109 hQ109
  subst l109 y109 z109
  obtain ⟨rfl, N109q, P109_0, P109_1, P109_2⟩ := hQ109
  have N109 := Fr.app N0 N109q
  have f110 : Old Z n0 T109.heap := O0.keep P109_0 (allS g4 (allS g5 all0))
  have f111 : Exa Z T109.heap a1 "holdfast/CountedIds$Batch" := E1.keep P109_0
  have f112 : Fld Z T109.heap a1 "holdfast/CountedIds$Batch" "digests" "[[J" (.ref d) := F1.keep P109_0 (ninS m6 (ninS m7 nin0))
  have f113 : Fld Z T109.heap a1 "holdfast/CountedIds$Batch" "tags" "[[I" (.ref t) := F2.keep P109_0 (ninS m6 (ninS m7 nin0))
  have f114 : Fld Z T109.heap a1 "holdfast/CountedIds$Batch" "size" "I" (.int w) := F3.keep P109_0 (ninS m6 (ninS m7 nin0))
  have f115 : Fld Z T109.heap a1 "holdfast/CountedIds$Batch" "sorted" "Z" (.int so) := F4.keep P109_0 (ninS m6 (ninS m7 nin0))
  have f116 : Arv Z T109.heap d kd (.array .long) (64 : Int32) [(.ref dd)] .null := V1.keep P109_0 (ninS m3 (ninS m4 nin0))
  have f117 : Arv Z T109.heap t kt (.array .int) (64 : Int32) [(.ref tt)] .null := V2.keep P109_0 (ninS m2 (ninS m5 nin0))
  have Zs109 : n0 ≤ T109.heap.size := Nat.le_trans Z0 P109_0.1
  have K109 : Keep h0 T109.heap [a1, dd, tt] := (Keep.refl h0 [a1, dd, tt]).trans P109_0 (allS (Or.inl (List.mem_of_getElem? (i := 1) rfl)) (allS (Or.inl (List.mem_of_getElem? (i := 2) rfl)) all0))
  obtain ⟨T118, X118, e118, st118⟩ := getF X109 hx hZ0 hown0 (host := "") (Or.inl (hw _ (List.mem_of_getElem? (i := 28) rfl))) Via.refl rfl f114 (g := (mkF m 90 #[.val (.ref a1), .val (.long q2), .second, .val (.int p3)] [(.ref a1), (.ref a1)])) rfl rfl (hb hby d3_90)
  obtain ⟨T119, h119, X119, e119, W119, st119⟩ := putF X118 hx hZ0 hown0 (host := "") (Or.inl (hw _ (List.mem_of_getElem? (i := 28) rfl))) Via.refl e118 f114 f111 (Or.inl (hw _ (List.mem_of_getElem? (i := 29) rfl))) (hw _ (List.mem_of_getElem? (i := 1) rfl)) (ty := .int) (by decide) rfl rfl (g := (mkF m 95 #[.val (.ref a1), .val (.long q2), .second, .val (.int p3)] [(.int w1), (.ref a1)])) rfl rfl (hb hby d3_95)
  have f120 : Old Z n0 h119 := f110.wr W119 g1
  have f121 : Exa Z h119 a1 "holdfast/CountedIds$Batch" := Exa.wr W119 f111
  have f122 : Fld Z h119 a1 "holdfast/CountedIds$Batch" "digests" "[[J" (.ref d) := Fld.other W119 f112 (Or.inr (slot_ne (Or.inl (hw _ (List.mem_of_getElem? (i := 12) rfl))) (Or.inl (hw _ (List.mem_of_getElem? (i := 29) rfl))) (by decide) (t := (.array (.array .long))) (t' := .int) (by decide) (by decide)))
  have f123 : Fld Z h119 a1 "holdfast/CountedIds$Batch" "tags" "[[I" (.ref t) := Fld.other W119 f113 (Or.inr (slot_ne (Or.inl (hw _ (List.mem_of_getElem? (i := 16) rfl))) (Or.inl (hw _ (List.mem_of_getElem? (i := 29) rfl))) (by decide) (t := (.array (.array .int))) (t' := .int) (by decide) (by decide)))
  have f124 : Fld Z h119 a1 "holdfast/CountedIds$Batch" "sorted" "Z" (.int so) := Fld.other W119 f115 (Or.inr (slot_ne (Or.inl (hw _ (List.mem_of_getElem? (i := 22) rfl))) (Or.inl (hw _ (List.mem_of_getElem? (i := 29) rfl))) (by decide) (t := .boolean) (t' := .int) (by decide) (by decide)))
  have f125 : Arv Z h119 d kd (.array .long) (64 : Int32) [(.ref dd)] .null := f116.other W119 (Ne.symm n1)
  have f126 : Arv Z h119 t kt (.array .int) (64 : Int32) [(.ref tt)] .null := f117.other W119 (Ne.symm n2)
  have f127 : OwnLng Z h119 dd := OwnLng.other P109_1 W119 (Ne.symm m6)
  have f128 : OwnTg Z h119 tt (own_up g w p3) := OwnTg.other P109_2 W119 (Ne.symm m7)
  have f129 : Fld Z h119 a1 "holdfast/CountedIds$Batch" "size" "I" (.int w1) := f114.same W119
  have Zs119 : n0 ≤ h119.size := Nat.le_trans Zs109 (Keep.of_wr W119).1
  have N119 := Fr.snoc X119 N109 g1
  have K119 : Keep h0 h119 [a1, dd, tt] := K109.wr W119 (Or.inl (List.mem_of_getElem? (i := 0) rfl))
  obtain ⟨T130, h130, X130, e130, W130, st130⟩ := putFN X119 hx hZ0 hown0 (hw _ (List.mem_of_getElem? (i := 21) rfl)) Via.refl e119 f124 f121 (Or.inl (hw _ (List.mem_of_getElem? (i := 22) rfl))) (hw _ (List.mem_of_getElem? (i := 1) rfl)) (ty := .boolean) (v' := (.int (0 : Int32))) (by decide) rfl (by decide) (g := (mkF m 100 #[.val (.ref a1), .val (.long q2), .second, .val (.int p3)] [(.int (0 : Int32)), (.ref a1)])) rfl rfl (hb hby d3_100)
  have f131 : Old Z n0 h130 := f120.wr W130 g1
  have f132 : Exa Z h130 a1 "holdfast/CountedIds$Batch" := Exa.wr W130 f121
  have f133 : Fld Z h130 a1 "holdfast/CountedIds$Batch" "digests" "[[J" (.ref d) := Fld.other W130 f122 (Or.inr (slot_ne (Or.inl (hw _ (List.mem_of_getElem? (i := 12) rfl))) (Or.inl (hw _ (List.mem_of_getElem? (i := 22) rfl))) (by decide) (t := (.array (.array .long))) (t' := .boolean) (by decide) (by decide)))
  have f134 : Fld Z h130 a1 "holdfast/CountedIds$Batch" "tags" "[[I" (.ref t) := Fld.other W130 f123 (Or.inr (slot_ne (Or.inl (hw _ (List.mem_of_getElem? (i := 16) rfl))) (Or.inl (hw _ (List.mem_of_getElem? (i := 22) rfl))) (by decide) (t := (.array (.array .int))) (t' := .boolean) (by decide) (by decide)))
  have f135 : Arv Z h130 d kd (.array .long) (64 : Int32) [(.ref dd)] .null := f125.other W130 (Ne.symm n1)
  have f136 : Arv Z h130 t kt (.array .int) (64 : Int32) [(.ref tt)] .null := f126.other W130 (Ne.symm n2)
  have f137 : OwnLng Z h130 dd := OwnLng.other f127 W130 (Ne.symm m6)
  have f138 : OwnTg Z h130 tt (own_up g w p3) := OwnTg.other f128 W130 (Ne.symm m7)
  have f139 : Fld Z h130 a1 "holdfast/CountedIds$Batch" "size" "I" (.int w1) := Fld.other W130 f129 (Or.inr (slot_ne (Or.inl (hw _ (List.mem_of_getElem? (i := 29) rfl))) (Or.inl (hw _ (List.mem_of_getElem? (i := 22) rfl))) (by decide) (t := .int) (t' := .boolean) (by decide) (by decide)))
  have f140 : Fld Z h130 a1 "holdfast/CountedIds$Batch" "sorted" "Z" (.int (0 : Int32)) := f124.same W130
  have Zs130 : n0 ≤ h130.size := Nat.le_trans Zs119 (Keep.of_wr W130).1
  have N130 := Fr.snoc X130 N119 g1
  have K130 : Keep h0 h130 [a1, dd, tt] := K119.wr W130 (Or.inl (List.mem_of_getElem? (i := 0) rfl))
  obtain ⟨fs, hr, hrun, hended, hW, hsame⟩ := X130.leave (v := none) (fun _ => rfl) hlk
  refine ⟨_, _, pre0 _ ?_, hrun, hended, _, _, rfl, ?_, ⟨_, rfl⟩, hW, hsame.mono (by decide) (by decide)⟩
  · show Steps p.tables e below (s₁.setTop (mkF m 0 #[.val (.ref a1), .val (.long q2), .second, .val (.int p3)] [])) _
    refine XS.aloadN X0.here hx rfl (hb hby d3_0) rfl rfl ?_
    show Steps p.tables e below (s₁.setTop (mkF m 1 #[.val (.ref a1), .val (.long q2), .second, .val (.int p3)] [(.ref a1)])) _
    refine st101 _ ?_
    show Steps p.tables e below (T101.setTop (mkF m 4 #[.val (.ref a1), .val (.long q2), .second, .val (.int p3)] [(.int w)])) _
    refine X101.ldcI hx hown0 (mvT hZ0 (hw _ (List.mem_of_getElem? (i := 30) rfl))) (g := (mkF m 4 #[.val (.ref a1), .val (.long q2), .second, .val (.int p3)] [(.int w)])) rfl (hb hby d3_4) ?_
    show Steps p.tables e below (T101.setTop (mkF m 6 #[.val (.ref a1), .val (.long q2), .second, .val (.int p3)] [(.int (1048576 : Int32)), (.int w)])) _
    refine XS.icmpYes X101.here hx rfl (pc0 := 6) (pc' := 19) rfl (hb hby d3_6) rfl (feq hne).2 (by decide) (by decide) ?_
    show Steps p.tables e below (T101.setTop (mkF m 19 #[.val (.ref a1), .val (.long q2), .second, .val (.int p3)] [])) _
    refine XS.aloadN X101.here hx rfl (hb hby d3_19) rfl rfl ?_
    show Steps p.tables e below (T101.setTop (mkF m 20 #[.val (.ref a1), .val (.long q2), .second, .val (.int p3)] [(.ref a1)])) _
    refine st102 _ ?_
    show Steps p.tables e below (T102.setTop (mkF m 23 #[.val (.ref a1), .val (.long q2), .second, .val (.int p3)] [(.ref d)])) _
    refine XS.aloadN X102.here hx rfl (hb hby d3_23) rfl rfl ?_
    show Steps p.tables e below (T102.setTop (mkF m 24 #[.val (.ref a1), .val (.long q2), .second, .val (.int p3)] [(.ref a1), (.ref d)])) _
    refine st103 _ ?_
    show Steps p.tables e below (T103.setTop (mkF m 27 #[.val (.ref a1), .val (.long q2), .second, .val (.int p3)] [(.int w), (.ref d)])) _
    refine st104 _ ?_
    show Steps p.tables e below (T104.setTop (mkF m 30 #[.val (.ref a1), .val (.long q2), .second, .val (.int p3)] [(.int (14 : Int32)), (.int w), (.ref d)])) _
    refine XS.iushr X104.here hx rfl (hb hby d3_30) rfl ?_
    show Steps p.tables e below (T104.setTop (mkF m 31 #[.val (.ref a1), .val (.long q2), .second, .val (.int p3)] [(.int ((w.toUInt32 >>> ((14 : Int32) &&& 31).toUInt32).toInt32)), (.ref d)])) _
    rw [hs]
    show Steps p.tables e below (T104.setTop (mkF m 31 #[.val (.ref a1), .val (.long q2), .second, .val (.int p3)] [(.int (0 : Int32)), (.ref d)])) _
    refine X104.aaload hx (j := (0 : Int32)) (v := (.ref dd)) (by rw [e104]; exact Ar105.1) (State.isArrayOf_alike hZ0.alike Ar105.2.1) rfl Ar105.2.2 hin105 (Has.at Hs105 hin105 rfl) (g := (mkF m 31 #[.val (.ref a1), .val (.long q2), .second, .val (.int p3)] [(.int (0 : Int32)), (.ref d)])) rfl rfl (hb hby d3_31) _ ?_
    show Steps p.tables e below (T104.setTop (mkF m 32 #[.val (.ref a1), .val (.long q2), .second, .val (.int p3)] [(.ref dd)])) _
    refine XS.ifnonnullYes X104.here hx rfl (pc0 := 32) (pc' := 71) rfl (hb hby d3_32) rfl (by decide) (by decide) ?_
    show Steps p.tables e below (T104.setTop (mkF m 71 #[.val (.ref a1), .val (.long q2), .second, .val (.int p3)] [])) _
    refine XS.aloadN X104.here hx rfl (hb hby d3_71) rfl rfl ?_
    show Steps p.tables e below (T104.setTop (mkF m 72 #[.val (.ref a1), .val (.long q2), .second, .val (.int p3)] [(.ref a1)])) _
    refine st106 _ ?_
    show Steps p.tables e below (T106.setTop (mkF m 75 #[.val (.ref a1), .val (.long q2), .second, .val (.int p3)] [(.ref d)])) _
    refine XS.aloadN X106.here hx rfl (hb hby d3_75) rfl rfl ?_
    show Steps p.tables e below (T106.setTop (mkF m 76 #[.val (.ref a1), .val (.long q2), .second, .val (.int p3)] [(.ref a1), (.ref d)])) _
    refine st107 _ ?_
    show Steps p.tables e below (T107.setTop (mkF m 79 #[.val (.ref a1), .val (.long q2), .second, .val (.int p3)] [(.ref t), (.ref d)])) _
    refine XS.aloadN X107.here hx rfl (hb hby d3_79) rfl rfl ?_
    show Steps p.tables e below (T107.setTop (mkF m 80 #[.val (.ref a1), .val (.long q2), .second, .val (.int p3)] [(.ref a1), (.ref t), (.ref d)])) _
    refine st108 _ ?_
    show Steps p.tables e below (T108.setTop (mkF m 83 #[.val (.ref a1), .val (.long q2), .second, .val (.int p3)] [(.int w), (.ref t), (.ref d)])) _
    refine XS.lloadN X108.here hx rfl (hb hby d3_83) rfl ?_
    show Steps p.tables e below (T108.setTop (mkF m 84 #[.val (.ref a1), .val (.long q2), .second, .val (.int p3)] [(.long q2), (.int w), (.ref t), (.ref d)])) _
    refine XS.iloadN X108.here hx rfl (hb hby d3_84) rfl ?_
    show Steps p.tables e below (T108.setTop (mkF m 85 #[.val (.ref a1), .val (.long q2), .second, .val (.int p3)] [(.int p3), (.long q2), (.int w), (.ref t), (.ref d)])) _
    refine st109 _ ?_
    show Steps p.tables e below (T109.setTop (mkF m 88 #[.val (.ref a1), .val (.long q2), .second, .val (.int p3)] [])) _
    refine XS.aloadN X109.here hx rfl (hb hby d3_88) rfl rfl ?_
    show Steps p.tables e below (T109.setTop (mkF m 89 #[.val (.ref a1), .val (.long q2), .second, .val (.int p3)] [(.ref a1)])) _
    refine XS.dup X109.here hx rfl (hb hby d3_89) rfl rfl ?_
    show Steps p.tables e below (T109.setTop (mkF m 90 #[.val (.ref a1), .val (.long q2), .second, .val (.int p3)] [(.ref a1), (.ref a1)])) _
    refine st118 _ ?_
    show Steps p.tables e below (T118.setTop (mkF m 93 #[.val (.ref a1), .val (.long q2), .second, .val (.int p3)] [(.int w), (.ref a1)])) _
    refine XS.iconst X118.here hx rfl (hb hby d3_93) ?_
    show Steps p.tables e below (T118.setTop (mkF m 94 #[.val (.ref a1), .val (.long q2), .second, .val (.int p3)] [(.int (1 : Int32)), (.int w), (.ref a1)])) _
    refine XS.iadd X118.here hx rfl (hb hby d3_94) rfl ?_
    show Steps p.tables e below (T118.setTop (mkF m 95 #[.val (.ref a1), .val (.long q2), .second, .val (.int p3)] [(.int (w + (1 : Int32))), (.ref a1)])) _
    rw [hw1]
    show Steps p.tables e below (T118.setTop (mkF m 95 #[.val (.ref a1), .val (.long q2), .second, .val (.int p3)] [(.int w1), (.ref a1)])) _
    refine st119 _ ?_
    show Steps p.tables e below (T119.setTop (mkF m 98 #[.val (.ref a1), .val (.long q2), .second, .val (.int p3)] [])) _
    refine XS.aloadN X119.here hx rfl (hb hby d3_98) rfl rfl ?_
    show Steps p.tables e below (T119.setTop (mkF m 99 #[.val (.ref a1), .val (.long q2), .second, .val (.int p3)] [(.ref a1)])) _
    refine XS.iconst X119.here hx rfl (hb hby d3_99) ?_
    show Steps p.tables e below (T119.setTop (mkF m 100 #[.val (.ref a1), .val (.long q2), .second, .val (.int p3)] [(.int (0 : Int32)), (.ref a1)])) _
    refine st130 _ ?_
    show Steps p.tables e below (T130.setTop (mkF m 103 #[.val (.ref a1), .val (.long q2), .second, .val (.int p3)] [])) _
    exact X130.returnOut hx Bd.returns (hb hby d3_103) hr
  · show Q3n Z a1 q2 p3 d t kd kt so dd tt g w w1 h0 n0 _ T130.heap _
    rw [e130]
    exact ⟨rfl, N130, K130, f133, f134, f139, f140, f137, f138⟩
theorem ef_7 (m : MethodId) (x0 : Addr) : entryFrame m #[(.ref x0)] 1 = mkF m 0 #[.val (.ref x0)] [] := by first | (simp [entryFrame, mkF, argsToLocals, Value.category]; done) | rfl
theorem d7_0 : decode prog_10_method_6_code 0 = .ok (.aload_n 0, 1) := by decide +kernel
theorem d7_1 : decode prog_10_method_6_code 1 = .ok (.iconst 0, 1) := by decide +kernel
theorem d7_2 : decode prog_10_method_6_code 2 = .ok (.putfield 31, 3) := by decide +kernel
theorem d7_5 : decode prog_10_method_6_code 5 = .ok (.aload_n 0, 1) := by decide +kernel
theorem d7_6 : decode prog_10_method_6_code 6 = .ok (.iconst 1, 1) := by decide +kernel
theorem d7_7 : decode prog_10_method_6_code 7 = .ok (.putfield 27, 3) := by decide +kernel
theorem d7_10 : decode prog_10_method_6_code 10 = .ok (.return_, 1) := by decide +kernel
def Q7 (Z : State) (a1 : Addr) (d : Addr) (t : Addr) (so : Int32) (w : Int32) (h0 : Heap) (n0 : Nat) (v : Option Value) (h : Heap) (L : List Loc) : Prop := v = none ∧ Fr n0 L ∧ (Keep h0 h [a1]) ∧ (Fld Z h a1 "holdfast/CountedIds$Batch" "digests" "[[J" (.ref d)) ∧ (Fld Z h a1 "holdfast/CountedIds$Batch" "tags" "[[I" (.ref t)) ∧ (Fld Z h a1 "holdfast/CountedIds$Batch" "size" "I" (.int (0 : Int32))) ∧ (Fld Z h a1 "holdfast/CountedIds$Batch" "sorted" "Z" (.int (1 : Int32)))
set_option maxRecDepth 65536 in
set_option maxHeartbeats 40000000 in
theorem rm7 (l : Launch) (Z : State) (a0 : Array Value) (hw : ∀ d ∈ tables_1, d.before a0 Z = true) (ws : List Jvm.Cond) (a1 : Addr) (d : Addr) (t : Addr) (so : Int32) (w : Int32) (h0 : Heap) (n0 : Nat) (Z0 : n0 ≤ h0.size) (E1 : Exa Z h0 a1 "holdfast/CountedIds$Batch") (g1 : n0 ≤ a1) (F1 : Fld Z h0 a1 "holdfast/CountedIds$Batch" "digests" "[[J" (.ref d)) (F2 : Fld Z h0 a1 "holdfast/CountedIds$Batch" "tags" "[[I" (.ref t)) (F3 : Fld Z h0 a1 "holdfast/CountedIds$Batch" "size" "I" (.int w)) (F4 : Fld Z h0 a1 "holdfast/CountedIds$Batch" "sorted" "Z" (.int so)) :
    MetFree l (⟨"holdfast/CountedIds$Batch", "clear", "()V"⟩ : MethodName) (head1 (Jvm.Cond.code (⟨"holdfast/CountedIds$Batch", "clear", "()V"⟩ : MethodName) prog_10_method_6_code 1 none :: ws) ({ frames := 0, cells := 0, slots := 0, locals := 0 } : Room)) (fun a U => a = #[(.ref a1)] ∧ Z.Warmed39 U.vm ∧ U.heap = h0) (fun _ _ _ _ _ => True) (fun _ U o U' => ∃ v L, o = .returned v ∧ Q7 Z a1 d t so w h0 n0 v U'.heap L ∧ FrameEnd U o U' L ({ frames := 0, cells := 0, slots := 0, locals := 0 } : Room).cells ({ frames := 0, cells := 0, slots := 0, locals := 0 } : Room).slots) := by
  refine MetFree.of_bodySF (plainFor_of_name pn_0) hisR ?_
  intro p e s m args below meth c s₁ Bd hml0 hP hK
  obtain ⟨rfl, hZ0, hh⟩ := hP
  have hx := Bd.exec
  have hby := Bd.bytes
  have hml : c.maxLocals = 1 := hml0
  have hown0 : s.vm.findClass "holdfast/CountedIds$Batch" = some m.cls := findClass_of_methodNamed Bd.named
  have hnm := (name_of_methodNamed Bd.named Bd.method).1
  have hlk : meth.locks = false := by first | exact BodyLoose.notSynchronized Bd | exact Body.notSynchronized Bd
  have X0 : Stand p l e ({ frames := 0, cells := 0, slots := 0, locals := 0 } : Room) s m #[(.ref a1)] below meth c s₁ [] 0 0 := Stand.of_body Bd
  have e0 : s₁.heap = h0 := by rw [← hh, Bd.state]; rfl
  have N0 := Fr.nil n0
  have pre0 : ∀ t, Steps p.tables e below (s₁.setTop (mkF m 0 #[.val (.ref a1)] [])) t → Steps p.tables e below (s₁.setTop (entryFrame m #[(.ref a1)] 1)) t := fun t k => castTop (ef_7 m a1) k
  obtain ⟨T101, h101, X101, e101, W101, st101⟩ := putF X0 hx hZ0 hown0 (host := "") (Or.inl (hw _ (List.mem_of_getElem? (i := 28) rfl))) Via.refl e0 F3 E1 (Or.inl (hw _ (List.mem_of_getElem? (i := 29) rfl))) (hw _ (List.mem_of_getElem? (i := 1) rfl)) (ty := .int) (by decide) rfl rfl (g := (mkF m 2 #[.val (.ref a1)] [(.int (0 : Int32)), (.ref a1)])) rfl rfl (hb hby d7_2)
  have f102 : Exa Z h101 a1 "holdfast/CountedIds$Batch" := Exa.wr W101 E1
  have f103 : Fld Z h101 a1 "holdfast/CountedIds$Batch" "digests" "[[J" (.ref d) := Fld.other W101 F1 (Or.inr (slot_ne (Or.inl (hw _ (List.mem_of_getElem? (i := 12) rfl))) (Or.inl (hw _ (List.mem_of_getElem? (i := 29) rfl))) (by decide) (t := (.array (.array .long))) (t' := .int) (by decide) (by decide)))
  have f104 : Fld Z h101 a1 "holdfast/CountedIds$Batch" "tags" "[[I" (.ref t) := Fld.other W101 F2 (Or.inr (slot_ne (Or.inl (hw _ (List.mem_of_getElem? (i := 16) rfl))) (Or.inl (hw _ (List.mem_of_getElem? (i := 29) rfl))) (by decide) (t := (.array (.array .int))) (t' := .int) (by decide) (by decide)))
  have f105 : Fld Z h101 a1 "holdfast/CountedIds$Batch" "sorted" "Z" (.int so) := Fld.other W101 F4 (Or.inr (slot_ne (Or.inl (hw _ (List.mem_of_getElem? (i := 22) rfl))) (Or.inl (hw _ (List.mem_of_getElem? (i := 29) rfl))) (by decide) (t := .boolean) (t' := .int) (by decide) (by decide)))
  have f106 : Fld Z h101 a1 "holdfast/CountedIds$Batch" "size" "I" (.int (0 : Int32)) := F3.same W101
  have Zs101 : n0 ≤ h101.size := Nat.le_trans Z0 (Keep.of_wr W101).1
  have N101 := Fr.snoc X101 N0 g1
  have K101 : Keep h0 h101 [a1] := (Keep.refl h0 [a1]).wr W101 (Or.inl (List.mem_of_getElem? (i := 0) rfl))
  obtain ⟨T107, h107, X107, e107, W107, st107⟩ := putFN X101 hx hZ0 hown0 (hw _ (List.mem_of_getElem? (i := 21) rfl)) Via.refl e101 f105 f102 (Or.inl (hw _ (List.mem_of_getElem? (i := 22) rfl))) (hw _ (List.mem_of_getElem? (i := 1) rfl)) (ty := .boolean) (v' := (.int (1 : Int32))) (by decide) rfl (by decide) (g := (mkF m 7 #[.val (.ref a1)] [(.int (1 : Int32)), (.ref a1)])) rfl rfl (hb hby d7_7)
  have f108 : Exa Z h107 a1 "holdfast/CountedIds$Batch" := Exa.wr W107 f102
  have f109 : Fld Z h107 a1 "holdfast/CountedIds$Batch" "digests" "[[J" (.ref d) := Fld.other W107 f103 (Or.inr (slot_ne (Or.inl (hw _ (List.mem_of_getElem? (i := 12) rfl))) (Or.inl (hw _ (List.mem_of_getElem? (i := 22) rfl))) (by decide) (t := (.array (.array .long))) (t' := .boolean) (by decide) (by decide)))
  have f110 : Fld Z h107 a1 "holdfast/CountedIds$Batch" "tags" "[[I" (.ref t) := Fld.other W107 f104 (Or.inr (slot_ne (Or.inl (hw _ (List.mem_of_getElem? (i := 16) rfl))) (Or.inl (hw _ (List.mem_of_getElem? (i := 22) rfl))) (by decide) (t := (.array (.array .int))) (t' := .boolean) (by decide) (by decide)))
  have f111 : Fld Z h107 a1 "holdfast/CountedIds$Batch" "size" "I" (.int (0 : Int32)) := Fld.other W107 f106 (Or.inr (slot_ne (Or.inl (hw _ (List.mem_of_getElem? (i := 29) rfl))) (Or.inl (hw _ (List.mem_of_getElem? (i := 22) rfl))) (by decide) (t := .int) (t' := .boolean) (by decide) (by decide)))
  have f112 : Fld Z h107 a1 "holdfast/CountedIds$Batch" "sorted" "Z" (.int (1 : Int32)) := f105.same W107
  have Zs107 : n0 ≤ h107.size := Nat.le_trans Zs101 (Keep.of_wr W107).1
  have N107 := Fr.snoc X107 N101 g1
  have K107 : Keep h0 h107 [a1] := K101.wr W107 (Or.inl (List.mem_of_getElem? (i := 0) rfl))
  obtain ⟨fs, hr, hrun, hended, hW, hsame⟩ := X107.leave (v := none) (fun _ => rfl) hlk
  refine ⟨_, _, pre0 _ ?_, hrun, hended, _, _, rfl, ?_, ⟨_, rfl⟩, hW, hsame.mono (by decide) (by decide)⟩
  · show Steps p.tables e below (s₁.setTop (mkF m 0 #[.val (.ref a1)] [])) _
    refine XS.aloadN X0.here hx rfl (hb hby d7_0) rfl rfl ?_
    show Steps p.tables e below (s₁.setTop (mkF m 1 #[.val (.ref a1)] [(.ref a1)])) _
    refine XS.iconst X0.here hx rfl (hb hby d7_1) ?_
    show Steps p.tables e below (s₁.setTop (mkF m 2 #[.val (.ref a1)] [(.int (0 : Int32)), (.ref a1)])) _
    refine st101 _ ?_
    show Steps p.tables e below (T101.setTop (mkF m 5 #[.val (.ref a1)] [])) _
    refine XS.aloadN X101.here hx rfl (hb hby d7_5) rfl rfl ?_
    show Steps p.tables e below (T101.setTop (mkF m 6 #[.val (.ref a1)] [(.ref a1)])) _
    refine XS.iconst X101.here hx rfl (hb hby d7_6) ?_
    show Steps p.tables e below (T101.setTop (mkF m 7 #[.val (.ref a1)] [(.int (1 : Int32)), (.ref a1)])) _
    refine st107 _ ?_
    show Steps p.tables e below (T107.setTop (mkF m 10 #[.val (.ref a1)] [])) _
    exact X107.returnOut hx Bd.returns (hb hby d7_10) hr
  · show Q7 Z a1 d t so w h0 n0 _ T107.heap _
    rw [e107]
    exact ⟨rfl, N107, K107, f109, f110, f111, f112⟩
theorem ef_5 (m : MethodId) (x0 : Addr) (x1 : Int32) : entryFrame m #[(.ref x0), (.int x1)] 2 = mkF m 0 #[.val (.ref x0), .val (.int x1)] [] := by first | (simp [entryFrame, mkF, argsToLocals, Value.category]; done) | rfl
theorem d5_0 : decode prog_10_method_5_code 0 = .ok (.aload_n 0, 1) := by decide +kernel
theorem d5_1 : decode prog_10_method_5_code 1 = .ok (.getfield 17, 3) := by decide +kernel
theorem d5_4 : decode prog_10_method_5_code 4 = .ok (.iload_n 1, 1) := by decide +kernel
theorem d5_5 : decode prog_10_method_5_code 5 = .ok (.getstatic 43, 3) := by decide +kernel
theorem d5_8 : decode prog_10_method_5_code 8 = .ok (.iushr, 1) := by decide +kernel
theorem d5_9 : decode prog_10_method_5_code 9 = .ok (.aaload, 1) := by decide +kernel
theorem d5_10 : decode prog_10_method_5_code 10 = .ok (.iload_n 1, 1) := by decide +kernel
theorem d5_11 : decode prog_10_method_5_code 11 = .ok (.sipush 16383, 3) := by decide +kernel
theorem d5_14 : decode prog_10_method_5_code 14 = .ok (.iand, 1) := by decide +kernel
theorem d5_15 : decode prog_10_method_5_code 15 = .ok (.iaload, 1) := by decide +kernel
theorem d5_16 : decode prog_10_method_5_code 16 = .ok (.ireturn, 1) := by decide +kernel
def Q5 (Z : State) (a1 : Addr) (p2 : Int32) (t : Addr) (kt : ClassId) (tt : Addr) (g : Nat → Option Int32) (w : Int32) (h0 : Heap) (n0 : Nat) (v : Option Value) (h : Heap) (L : List Loc) : Prop := v = some (.int w) ∧ Fr n0 L ∧ (h = h0)
set_option maxRecDepth 65536 in
set_option maxHeartbeats 40000000 in
theorem rm5 (l : Launch) (Z : State) (a0 : Array Value) (hw : ∀ d ∈ tables_1, d.before a0 Z = true) (ws : List Jvm.Cond) (a1 : Addr) (p2 : Int32) (t : Addr) (kt : ClassId) (tt : Addr) (g : Nat → Option Int32) (w : Int32) (h0 : Heap) (n0 : Nat) (Z0 : n0 ≤ h0.size) (O0 : Old Z n0 h0) (SC : Sta Z Z.heap "holdfast/CountedIds$Batch" "CHUNK_BITS" "I" (.int (14 : Int32))) (F2 : Fld Z h0 a1 "holdfast/CountedIds$Batch" "tags" "[[I" (.ref t)) (V2 : Arv Z h0 t kt (.array .int) (64 : Int32) [(.ref tt)] .null) (T1 : OwnTg Z h0 tt g) (hs : ((p2.toUInt32 >>> ((14 : Int32) &&& 31).toUInt32).toInt32) = (0 : Int32)) (hm : (p2 &&& (16383 : Int32)) = p2) (hbd : ¬ p2 < (0 : Int32) ∧ p2 < (16384 : Int32)) (hg : g p2.toNatClampNeg = some w) :
    MetFree l (⟨"holdfast/CountedIds$Batch", "tag", "(I)I"⟩ : MethodName) (head1 (Jvm.Cond.code (⟨"holdfast/CountedIds$Batch", "tag", "(I)I"⟩ : MethodName) prog_10_method_5_code 2 (some .int) :: ws) ({ frames := 0, cells := 0, slots := 0, locals := 0 } : Room)) (fun a U => a = #[(.ref a1), (.int p2)] ∧ Z.Warmed39 U.vm ∧ U.heap = h0) (fun _ _ _ _ _ => True) (fun _ U o U' => ∃ v L, o = .returned v ∧ Q5 Z a1 p2 t kt tt g w h0 n0 v U'.heap L ∧ FrameEnd U o U' L ({ frames := 0, cells := 0, slots := 0, locals := 0 } : Room).cells ({ frames := 0, cells := 0, slots := 0, locals := 0 } : Room).slots) := by
  refine MetFree.of_bodySF (plainFor_of_name pn_0) hisR ?_
  intro p e s m args below meth c s₁ Bd hml0 hP hK
  obtain ⟨rfl, hZ0, hh⟩ := hP
  have hx := Bd.exec
  have hby := Bd.bytes
  have hml : c.maxLocals = 2 := hml0
  have hown0 : s.vm.findClass "holdfast/CountedIds$Batch" = some m.cls := findClass_of_methodNamed Bd.named
  have hnm := (name_of_methodNamed Bd.named Bd.method).1
  have hlk : meth.locks = false := by first | exact BodyLoose.notSynchronized Bd | exact Body.notSynchronized Bd
  have X0 : Stand p l e ({ frames := 0, cells := 0, slots := 0, locals := 0 } : Room) s m #[(.ref a1), (.int p2)] below meth c s₁ [] 0 0 := Stand.of_body Bd
  have e0 : s₁.heap = h0 := by rw [← hh, Bd.state]; rfl
  have N0 := Fr.nil n0
  have pre0 : ∀ t, Steps p.tables e below (s₁.setTop (mkF m 0 #[.val (.ref a1), .val (.int p2)] [])) t → Steps p.tables e below (s₁.setTop (entryFrame m #[(.ref a1), (.int p2)] 2)) t := fun t k => castTop (ef_5 m a1 p2) k
  obtain ⟨T101, X101, e101, st101⟩ := getF X0 hx hZ0 hown0 (host := "") (Or.inl (hw _ (List.mem_of_getElem? (i := 15) rfl))) Via.refl e0 F2 (g := (mkF m 1 #[.val (.ref a1), .val (.int p2)] [(.ref a1)])) rfl rfl (hb hby d5_1)
  obtain ⟨T102, X102, e102, st102⟩ := getS2 X101 hx hZ0 hown0 (host := "") (Or.inl (hw _ (List.mem_of_getElem? (i := 31) rfl))) Via.refl e101 (Sta.ext O0.2 SC) (g := (mkF m 5 #[.val (.ref a1), .val (.int p2)] [(.int p2), (.ref t)])) rfl (hb hby d5_5)
  obtain ⟨cl103, Ar103, -, Sz103, -, Hs103, -⟩ := (id V2)
  have hin103 : ¬ ((0 : Int32) < 0 ∨ cl103.slots.size ≤ (0 : Int32).toNatClampNeg) := inb_of Sz103 ⟨by decide, by decide⟩
  obtain ⟨cl104, Ar104, Sz104, Hs104⟩ := (id T1)
  obtain ⟨fs, hr, hrun, hended, hW, hsame⟩ := X102.leave (v := some (.int w)) (fun h => by rw [Bd.returns] at h; cases h) hlk
  refine ⟨_, _, pre0 _ ?_, hrun, hended, _, _, rfl, ?_, ⟨_, rfl⟩, hW, hsame.mono (by decide) (by decide)⟩
  · show Steps p.tables e below (s₁.setTop (mkF m 0 #[.val (.ref a1), .val (.int p2)] [])) _
    refine XS.aloadN X0.here hx rfl (hb hby d5_0) rfl rfl ?_
    show Steps p.tables e below (s₁.setTop (mkF m 1 #[.val (.ref a1), .val (.int p2)] [(.ref a1)])) _
    refine st101 _ ?_
    show Steps p.tables e below (T101.setTop (mkF m 4 #[.val (.ref a1), .val (.int p2)] [(.ref t)])) _
    refine XS.iloadN X101.here hx rfl (hb hby d5_4) rfl ?_
    show Steps p.tables e below (T101.setTop (mkF m 5 #[.val (.ref a1), .val (.int p2)] [(.int p2), (.ref t)])) _
    refine st102 _ ?_
    show Steps p.tables e below (T102.setTop (mkF m 8 #[.val (.ref a1), .val (.int p2)] [(.int (14 : Int32)), (.int p2), (.ref t)])) _
    refine XS.iushr X102.here hx rfl (hb hby d5_8) rfl ?_
    show Steps p.tables e below (T102.setTop (mkF m 9 #[.val (.ref a1), .val (.int p2)] [(.int ((p2.toUInt32 >>> ((14 : Int32) &&& 31).toUInt32).toInt32)), (.ref t)])) _
    rw [hs]
    show Steps p.tables e below (T102.setTop (mkF m 9 #[.val (.ref a1), .val (.int p2)] [(.int (0 : Int32)), (.ref t)])) _
    refine X102.aaload hx (j := (0 : Int32)) (v := (.ref tt)) (by rw [e102]; exact Ar103.1) (State.isArrayOf_alike hZ0.alike Ar103.2.1) rfl Ar103.2.2 hin103 (Has.at Hs103 hin103 rfl) (g := (mkF m 9 #[.val (.ref a1), .val (.int p2)] [(.int (0 : Int32)), (.ref t)])) rfl rfl (hb hby d5_9) _ ?_
    show Steps p.tables e below (T102.setTop (mkF m 10 #[.val (.ref a1), .val (.int p2)] [(.ref tt)])) _
    refine XS.iloadN X102.here hx rfl (hb hby d5_10) rfl ?_
    show Steps p.tables e below (T102.setTop (mkF m 11 #[.val (.ref a1), .val (.int p2)] [(.int p2), (.ref tt)])) _
    refine XS.sipush X102.here hx rfl (hb hby d5_11) ?_
    show Steps p.tables e below (T102.setTop (mkF m 14 #[.val (.ref a1), .val (.int p2)] [(.int (16383 : Int32)), (.int p2), (.ref tt)])) _
    refine XS.iand X102.here hx rfl (hb hby d5_14) rfl ?_
    show Steps p.tables e below (T102.setTop (mkF m 15 #[.val (.ref a1), .val (.int p2)] [(.int (p2 &&& (16383 : Int32))), (.ref tt)])) _
    rw [hm]
    show Steps p.tables e below (T102.setTop (mkF m 15 #[.val (.ref a1), .val (.int p2)] [(.int p2), (.ref tt)])) _
    refine X102.iaload hx (j := p2) (v := (.int w)) (by rw [e102]; exact Ar104.1) (State.isArrayOf_alike hZ0.alike Ar104.2.1) Ar104.2.2 (own_in Sz104 hbd) (Hs104 _ _ hg) (g := (mkF m 15 #[.val (.ref a1), .val (.int p2)] [(.int p2), (.ref tt)])) rfl rfl (hb hby d5_15) _ ?_
    show Steps p.tables e below (T102.setTop (mkF m 16 #[.val (.ref a1), .val (.int p2)] [(.int w)])) _
    exact retI X102 hx Bd.returns (hb hby d5_16) hr
  · show Q5 Z a1 p2 t kt tt g w h0 n0 _ T102.heap _
    rw [e102]
    exact ⟨rfl, N0, rfl⟩
def own_exp (i a b d : Int32) : Int32 := if i = (0 : Int32) then a else if i = (1 : Int32) then b else d
theorem own_four (n : Int32) (h1 : ¬ ((n &&& (3 : Int32)) = (1 : Int32))) (h2 : ¬ ((n &&& (3 : Int32)) = (2 : Int32))) (h3 : ¬ ((n &&& (3 : Int32)) = (3 : Int32))) : (n &&& (3 : Int32)) = (0 : Int32) := by
  have e : (n &&& (3 : Int32)).toInt = n.toInt % ((2 ^ 2 : Nat) : Int) := c_mask n _ 2 (by decide) (by decide)
  rw [← Int32.toInt_inj] at *
  have a : (0 : Int32).toInt = 0 := by decide
  have b : (1 : Int32).toInt = 1 := by decide
  have d : (2 : Int32).toInt = 2 := by decide
  have f : (3 : Int32).toInt = 3 := by decide
  omega
theorem pn_1 : plainName "holdfast/BatchTagPinLaw" = true := by first | (simp [plainName, overriddenIn]; done) | decide +kernel
theorem ef_6 (m : MethodId) (x0 : Int32) (x1 : Int32) (x2 : Int32) (x3 : Int32) : entryFrame m #[(.int x0), (.int x1), (.int x2), (.int x3)] 4 = mkF m 0 #[.val (.int x0), .val (.int x1), .val (.int x2), .val (.int x3)] [] := by first | (simp [entryFrame, mkF, argsToLocals, Value.category]; done) | rfl
theorem d6_0 : decode method_2_code 0 = .ok (.iload_n 0, 1) := by decide +kernel
theorem d6_1 : decode method_2_code 1 = .ok (.ifCond .ne 5, 3) := by decide +kernel
theorem d6_4 : decode method_2_code 4 = .ok (.iload_n 1, 1) := by decide +kernel
theorem d6_5 : decode method_2_code 5 = .ok (.ireturn, 1) := by decide +kernel
theorem d6_6 : decode method_2_code 6 = .ok (.iload_n 0, 1) := by decide +kernel
theorem d6_7 : decode method_2_code 7 = .ok (.iconst 1, 1) := by decide +kernel
theorem d6_8 : decode method_2_code 8 = .ok (.if_icmp .ne 5, 3) := by decide +kernel
theorem d6_11 : decode method_2_code 11 = .ok (.iload_n 2, 1) := by decide +kernel
theorem d6_12 : decode method_2_code 12 = .ok (.ireturn, 1) := by decide +kernel
theorem d6_13 : decode method_2_code 13 = .ok (.iload_n 3, 1) := by decide +kernel
theorem d6_14 : decode method_2_code 14 = .ok (.ireturn, 1) := by decide +kernel
def Q6 (Z : State) (p1 : Int32) (p2 : Int32) (p3 : Int32) (p4 : Int32) (h0 : Heap) (n0 : Nat) (v : Option Value) (h : Heap) (L : List Loc) : Prop := v = some (.int (own_exp p1 p2 p3 p4)) ∧ Fr n0 L ∧ (h = h0)
set_option maxRecDepth 65536 in
set_option maxHeartbeats 40000000 in
theorem rm6 (l : Launch) (Z : State) (a0 : Array Value) (hw : ∀ d ∈ tables_1, d.before a0 Z = true) (ws : List Jvm.Cond) (p1 : Int32) (p2 : Int32) (p3 : Int32) (p4 : Int32) (h0 : Heap) (n0 : Nat) (Z0 : n0 ≤ h0.size) :
    MetFree l (⟨"holdfast/BatchTagPinLaw", "expected", "(IIII)I"⟩ : MethodName) (head1 (Jvm.Cond.code (⟨"holdfast/BatchTagPinLaw", "expected", "(IIII)I"⟩ : MethodName) method_2_code 4 (some .int) :: ws) ({ frames := 0, cells := 0, slots := 0, locals := 0 } : Room)) (fun a U => a = #[(.int p1), (.int p2), (.int p3), (.int p4)] ∧ Z.Warmed39 U.vm ∧ U.heap = h0) (fun _ _ _ _ _ => True) (fun _ U o U' => ∃ v L, o = .returned v ∧ Q6 Z p1 p2 p3 p4 h0 n0 v U'.heap L ∧ FrameEnd U o U' L ({ frames := 0, cells := 0, slots := 0, locals := 0 } : Room).cells ({ frames := 0, cells := 0, slots := 0, locals := 0 } : Room).slots) := by
  refine MetFree.of_bodySF (plainFor_of_name pn_1) hisR ?_
  intro p e s m args below meth c s₁ Bd hml0 hP hK
  obtain ⟨rfl, hZ0, hh⟩ := hP
  have hx := Bd.exec
  have hby := Bd.bytes
  have hml : c.maxLocals = 4 := hml0
  have hown0 : s.vm.findClass "holdfast/BatchTagPinLaw" = some m.cls := findClass_of_methodNamed Bd.named
  have hnm := (name_of_methodNamed Bd.named Bd.method).1
  have hlk : meth.locks = false := by first | exact BodyLoose.notSynchronized Bd | exact Body.notSynchronized Bd
  have X0 : Stand p l e ({ frames := 0, cells := 0, slots := 0, locals := 0 } : Room) s m #[(.int p1), (.int p2), (.int p3), (.int p4)] below meth c s₁ [] 0 0 := Stand.of_body Bd
  have e0 : s₁.heap = h0 := by rw [← hh, Bd.state]; rfl
  have N0 := Fr.nil n0
  have pre0 : ∀ t, Steps p.tables e below (s₁.setTop (mkF m 0 #[.val (.int p1), .val (.int p2), .val (.int p3), .val (.int p4)] [])) t → Steps p.tables e below (s₁.setTop (entryFrame m #[(.int p1), (.int p2), (.int p3), (.int p4)] 4)) t := fun t k => castTop (ef_6 m p1 p2 p3 p4) k
  by_cases hc101 : p1 = (0 : Int32)
  · obtain ⟨fs, hr, hrun, hended, hW, hsame⟩ := X0.leave (v := some (.int p2)) (fun h => by rw [Bd.returns] at h; cases h) hlk
    refine ⟨_, _, pre0 _ ?_, hrun, hended, _, _, rfl, ?_, ⟨_, rfl⟩, hW, hsame.mono (by decide) (by decide)⟩
    · show Steps p.tables e below (s₁.setTop (mkF m 0 #[.val (.int p1), .val (.int p2), .val (.int p3), .val (.int p4)] [])) _
      refine XS.iloadN X0.here hx rfl (hb hby d6_0) rfl ?_
      show Steps p.tables e below (s₁.setTop (mkF m 1 #[.val (.int p1), .val (.int p2), .val (.int p3), .val (.int p4)] [(.int p1)])) _
      refine XS.ifNo X0.here hx rfl (hb hby d6_1) rfl ((if0 _ _).trans (teq hc101).2) ?_
      show Steps p.tables e below (s₁.setTop (mkF m 4 #[.val (.int p1), .val (.int p2), .val (.int p3), .val (.int p4)] [])) _
      refine XS.iloadN X0.here hx rfl (hb hby d6_4) rfl ?_
      show Steps p.tables e below (s₁.setTop (mkF m 5 #[.val (.int p1), .val (.int p2), .val (.int p3), .val (.int p4)] [(.int p2)])) _
      exact retI X0 hx Bd.returns (hb hby d6_5) hr
    · show Q6 Z p1 p2 p3 p4 h0 n0 _ s₁.heap _
      rw [e0]
      exact ⟨(congrArg (fun z => some (Value.int z)) (by simp [own_exp, hc101] : p2 = (own_exp p1 p2 p3 p4))), N0, rfl⟩
  · have pr102 : ∀ tg9, Steps p.tables e below (s₁.setTop (mkF m 8 #[.val (.int p1), .val (.int p2), .val (.int p3), .val (.int p4)] [(.int (1 : Int32)), (.int p1)])) tg9 → Steps p.tables e below (s₁.setTop (mkF m 0 #[.val (.int p1), .val (.int p2), .val (.int p3), .val (.int p4)] [])) tg9 := fun tg9 kt => by
      show Steps p.tables e below (s₁.setTop (mkF m 0 #[.val (.int p1), .val (.int p2), .val (.int p3), .val (.int p4)] [])) _
      refine XS.iloadN X0.here hx rfl (hb hby d6_0) rfl ?_
      show Steps p.tables e below (s₁.setTop (mkF m 1 #[.val (.int p1), .val (.int p2), .val (.int p3), .val (.int p4)] [(.int p1)])) _
      refine XS.ifYes X0.here hx rfl (pc0 := 1) (pc' := 6) rfl (hb hby d6_1) rfl ((if0 _ _).trans (feq hc101).2) (by decide) (by decide) ?_
      show Steps p.tables e below (s₁.setTop (mkF m 6 #[.val (.int p1), .val (.int p2), .val (.int p3), .val (.int p4)] [])) _
      refine XS.iloadN X0.here hx rfl (hb hby d6_6) rfl ?_
      show Steps p.tables e below (s₁.setTop (mkF m 7 #[.val (.int p1), .val (.int p2), .val (.int p3), .val (.int p4)] [(.int p1)])) _
      refine XS.iconst X0.here hx rfl (hb hby d6_7) ?_
      exact kt
    by_cases hc103 : p1 = (1 : Int32)
    · obtain ⟨fs, hr, hrun, hended, hW, hsame⟩ := X0.leave (v := some (.int p3)) (fun h => by rw [Bd.returns] at h; cases h) hlk
      refine ⟨_, _, pre0 _ ?_, hrun, hended, _, _, rfl, ?_, ⟨_, rfl⟩, hW, hsame.mono (by decide) (by decide)⟩
      · refine pr102 _ ?_
        show Steps p.tables e below (s₁.setTop (mkF m 8 #[.val (.int p1), .val (.int p2), .val (.int p3), .val (.int p4)] [(.int (1 : Int32)), (.int p1)])) _
        refine XS.icmpNo X0.here hx rfl (hb hby d6_8) rfl (teq hc103).2 ?_
        show Steps p.tables e below (s₁.setTop (mkF m 11 #[.val (.int p1), .val (.int p2), .val (.int p3), .val (.int p4)] [])) _
        refine XS.iloadN X0.here hx rfl (hb hby d6_11) rfl ?_
        show Steps p.tables e below (s₁.setTop (mkF m 12 #[.val (.int p1), .val (.int p2), .val (.int p3), .val (.int p4)] [(.int p3)])) _
        exact retI X0 hx Bd.returns (hb hby d6_12) hr
      · show Q6 Z p1 p2 p3 p4 h0 n0 _ s₁.heap _
        rw [e0]
        exact ⟨(congrArg (fun z => some (Value.int z)) (by simp [own_exp, hc101, hc103] : p3 = (own_exp p1 p2 p3 p4))), N0, rfl⟩
    · obtain ⟨fs, hr, hrun, hended, hW, hsame⟩ := X0.leave (v := some (.int p4)) (fun h => by rw [Bd.returns] at h; cases h) hlk
      refine ⟨_, _, pre0 _ ?_, hrun, hended, _, _, rfl, ?_, ⟨_, rfl⟩, hW, hsame.mono (by decide) (by decide)⟩
      · refine pr102 _ ?_
        show Steps p.tables e below (s₁.setTop (mkF m 8 #[.val (.int p1), .val (.int p2), .val (.int p3), .val (.int p4)] [(.int (1 : Int32)), (.int p1)])) _
        refine XS.icmpYes X0.here hx rfl (pc0 := 8) (pc' := 13) rfl (hb hby d6_8) rfl (feq hc103).2 (by decide) (by decide) ?_
        show Steps p.tables e below (s₁.setTop (mkF m 13 #[.val (.int p1), .val (.int p2), .val (.int p3), .val (.int p4)] [])) _
        refine XS.iloadN X0.here hx rfl (hb hby d6_13) rfl ?_
        show Steps p.tables e below (s₁.setTop (mkF m 14 #[.val (.int p1), .val (.int p2), .val (.int p3), .val (.int p4)] [(.int p4)])) _
        exact retI X0 hx Bd.returns (hb hby d6_14) hr
      · show Q6 Z p1 p2 p3 p4 h0 n0 _ s₁.heap _
        rw [e0]
        exact ⟨(congrArg (fun z => some (Value.int z)) (by simp [own_exp, hc101, hc103] : p4 = (own_exp p1 p2 p3 p4))), N0, rfl⟩
theorem ef_0 (m : MethodId) (x0 : Int32) (x1 : Int32) (x2 : Int32) (x3 : Int32) (x4 : Int64) (x5 : Int32) : entryFrame m #[(.int x0), (.int x1), (.int x2), (.int x3), (.long x4), (.int x5)] maxLocals = mkF m 0 #[.val (.int x0), .val (.int x1), .val (.int x2), .val (.int x3), .val (.long x4), .second, .val (.int x5), .unset, .unset, .unset, .unset] [] := by first | (simp [entryFrame, mkF, argsToLocals, Value.category, maxLocals]; done) | rfl
theorem pd_1 : parseMethodDescriptor "()V" = some ⟨[], none⟩ := by decide +kernel
theorem pd_2 : parseMethodDescriptor "(JI)V" = some ⟨[.long, .int], none⟩ := by decide +kernel
theorem pd_3 : parseMethodDescriptor "(I)I" = some ⟨[.int], some .int⟩ := by decide +kernel
theorem pd_4 : parseMethodDescriptor "(IIII)I" = some ⟨[.int, .int, .int, .int], some .int⟩ := by decide +kernel
def Q0 (Z : State) (p1 : Int32) (p2 : Int32) (p3 : Int32) (p4 : Int32) (q5 : Int64) (p6 : Int32) (h0 : Heap) (n0 : Nat) (v : Option Value) (h : Heap) (L : List Loc) : Prop := v = some (.int (1 : Int32)) ∧ Fr n0 L
set_option maxRecDepth 65536 in
set_option maxHeartbeats 40000000 in
theorem rm0 (l : Launch) (Z : State) (a0 : Array Value) (hw : ∀ d ∈ tables_1, d.before a0 Z = true) (ws : List Jvm.Cond) (p1 : Int32) (p2 : Int32) (p3 : Int32) (p4 : Int32) (q5 : Int64) (p6 : Int32) (h0 : Heap) (n0 : Nat) (Z0 : n0 ≤ h0.size) (O0 : Old Z n0 h0) (pf0 : Sta Z Z.heap "holdfast/CountedIds$Batch" "CHUNK_BITS" "I" (.int (14 : Int32))) :
    MetFree l x (head1 (Jvm.Cond.code x code maxLocals ret :: ws) room_1) (fun a U => a = #[(.int p1), (.int p2), (.int p3), (.int p4), (.long q5), (.int p6)] ∧ Z.Warmed39 U.vm ∧ U.heap = h0) (fun _ _ _ _ _ => True) (fun _ U o U' => ∃ v L, o = .returned v ∧ Q0 Z p1 p2 p3 p4 q5 p6 h0 n0 v U'.heap L ∧ FrameEnd U o U' L room_1.cells room_1.slots) := by
  refine MetFree.of_bodySF (plainFor_of_name pn_1) hisR ?_
  intro p e s m args below meth c s₁ Bd hml0 hP hK
  obtain ⟨rfl, hZ0, hh⟩ := hP
  have hx := Bd.exec
  have hby := Bd.bytes
  have hml : c.maxLocals = 11 := hml0
  have hown0 : s.vm.findClass "holdfast/BatchTagPinLaw" = some m.cls := findClass_of_methodNamed Bd.named
  have hnm := (name_of_methodNamed Bd.named Bd.method).1
  have hlk : meth.locks = false := by first | exact BodyLoose.notSynchronized Bd | exact Body.notSynchronized Bd
  have X0 : Stand p l e room_1 s m #[(.int p1), (.int p2), (.int p3), (.int p4), (.long q5), (.int p6)] below meth c s₁ [] 0 0 := Stand.of_body Bd
  have e0 : s₁.heap = h0 := by rw [← hh, Bd.state]; rfl
  have N0 := Fr.nil n0
  have pre0 : ∀ t, Steps p.tables e below (s₁.setTop (mkF m 0 #[.val (.int p1), .val (.int p2), .val (.int p3), .val (.int p4), .val (.long q5), .second, .val (.int p6), .unset, .unset, .unset, .unset] [])) t → Steps p.tables e below (s₁.setTop (entryFrame m #[(.int p1), (.int p2), (.int p3), (.int p4), (.long q5), (.int p6)] maxLocals)) t := fun t k => castTop (ef_0 m p1 p2 p3 p4 q5 p6) k
  by_cases hc101 : (p6 &&& (3 : Int32)) = (1 : Int32)
  · obtain ⟨T102, h102, X102, e102, E102, A102, D102, -, st102⟩ := newO X0 hx hZ0 hown0 (hw _ (List.mem_of_getElem? (i := 0) rfl)) (hw _ (List.mem_of_getElem? (i := 1) rfl)) (hw _ (List.mem_of_getElem? (i := 2) rfl)) e0 (g := (mkF m 0 #[.val (.int p1), .val (.int p2), .val (.int p3), .val (.int p4), .val (.long q5), .second, .val (.int p6), .unset, .unset, .unset, .unset] [])) rfl (hb hby at_0) (by decide) (by decide)
    obtain ⟨b102, g102⟩ : ∃ z, z = h0.size := ⟨_, rfl⟩
    rw [← g102] at A102 D102 st102
    have gn_b102 : n0 ≤ b102 := Nat.le_trans Z0 (Nat.le_of_eq g102.symm)
    have f103 : Old Z n0 h102 := O0.ext E102
    have Zs102 : n0 ≤ h102.size := Nat.le_trans Z0 E102.1
    have f104 : Fld Z h102 b102 "holdfast/CountedIds$Batch" "digests" "[[J" .null := D102 (Or.inl (hw _ (List.mem_of_getElem? (i := 12) rfl))) (ty := (.array (.array .long))) (by decide)
    have f105 : Fld Z h102 b102 "holdfast/CountedIds$Batch" "tags" "[[I" .null := D102 (Or.inl (hw _ (List.mem_of_getElem? (i := 16) rfl))) (ty := (.array (.array .int))) (by decide)
    have f106 : Fld Z h102 b102 "holdfast/CountedIds$Batch" "spareDigests" "[[J" .null := D102 (Or.inl (hw _ (List.mem_of_getElem? (i := 18) rfl))) (ty := (.array (.array .long))) (by decide)
    have f107 : Fld Z h102 b102 "holdfast/CountedIds$Batch" "spareTags" "[[I" .null := D102 (Or.inl (hw _ (List.mem_of_getElem? (i := 20) rfl))) (ty := (.array (.array .int))) (by decide)
    have f108 : Fld Z h102 b102 "holdfast/CountedIds$Batch" "sorted" "Z" (.int (0 : Int32)) := D102 (Or.inl (hw _ (List.mem_of_getElem? (i := 22) rfl))) (ty := .boolean) (by decide)
    have f109 : Fld Z h102 b102 "holdfast/CountedIds$Batch" "size" "I" (.int (0 : Int32)) := D102 (Or.inl (hw _ (List.mem_of_getElem? (i := 29) rfl))) (ty := .int) (by decide)
    obtain ⟨_, _, ⟨T110, L110, k110, n110⟩, -, X110, ⟨Lc110, hQ110, l110, y110, z110⟩, st110⟩ := X102.specialBack hx (y := (⟨"holdfast/CountedIds$Batch", "<init>", "()V"⟩ : MethodName)) rfl hown0 (mvT hZ0 (hw _ (List.mem_of_getElem? (i := 3) rfl))) (mvT hZ0 (hw _ (List.mem_of_getElem? (i := 4) rfl))) (mvT hZ0 (hw _ (List.mem_of_getElem? (i := 5) rfl))) (by decide) (backOf (W := 1) (rm1 l Z a0 hw [] b102 h102 n0 Zs102 A102 gn_b102 f104 f105 f106 f107 f108 f109) hZ0 (hw _ (List.mem_of_getElem? (i := 5) rfl)) (hw _ (List.mem_of_getElem? (i := 2) rfl)) (by decide) (by decide)) (g := (mkF m 4 #[.val (.int p1), .val (.int p2), .val (.int p3), .val (.int p4), .val (.long q5), .second, .val (.int p6), .unset, .unset, .unset, .unset] [(.ref b102), (.ref b102)])) rfl (by rw [hml]; rfl) (Steps.refl _) (a := b102) (argsL := []) (rest := [(.ref b102)]) (lenOf pd_1 rfl) rfl (by show 2 * 0 + _ ≤ _; exact Nat.le_of_eq rfl) (hb hby at_4) (fun _ _ => ⟨rfl, e102, (by decide : 1 + 4 ≤ _), (by decide : 6 + 256 ≤ _)⟩)
    dsimp only [Pt.U, Pt.locs, Pt.cells, Pt.slots] at X110 l110 y110 z110 st110 hQ110
    subst l110 y110 z110
    obtain ⟨d_110, t_110, kd_110, kt_110, rfl, N110q, P110_0, P110_1, P110_2, P110_3, P110_4, P110_5, P110_6, P110_7, P110_8, P110_9, P110_10, P110_11⟩ := hQ110
    have N110 := Fr.app N0 N110q
    have ne_b102_d_110 : b102 ≠ d_110 := Nat.ne_of_lt (Nat.lt_of_lt_of_le A102.lt P110_1)
    have gn_d_110 : n0 ≤ d_110 := Nat.le_trans Zs102 P110_1
    have ne_b102_t_110 : b102 ≠ t_110 := Nat.ne_of_lt (Nat.lt_of_lt_of_le A102.lt P110_2)
    have gn_t_110 : n0 ≤ t_110 := Nat.le_trans Zs102 P110_2
    have f111 : Old Z n0 T110.heap := f103.keep P110_0 (allS gn_b102 all0)
    have f112 : Exa Z T110.heap b102 "holdfast/CountedIds$Batch" := A102.keep P110_0
    have Zs110 : n0 ≤ T110.heap.size := Nat.le_trans Zs102 P110_0.1
    have cf113 : ((1 : Int32) + (1 : Int32)) = (2 : Int32) := by decide
    obtain ⟨cq114, kq114, q114a, q114b, q114c⟩ := isOf hZ0 rfl f112
    obtain ⟨_, _, ⟨T114, L114, k114, n114⟩, -, X114, ⟨Lc114, hQ114, l114, y114, z114⟩, st114⟩ := X110.virtualBack hx (y := (⟨"holdfast/CountedIds$Batch", "add", "(JI)V"⟩ : MethodName)) (z := (⟨"holdfast/CountedIds$Batch", "add", "(JI)V"⟩ : MethodName)) hown0 (mvT hZ0 (hw _ (List.mem_of_getElem? (i := 23) rfl))) (mvT hZ0 (hw _ (List.mem_of_getElem? (i := 24) rfl))) (notFace_of_selects (args := #[]) (mvT hZ0 (hw _ (List.mem_of_getElem? (i := 26) rfl)))) (mvT hZ0 (hw _ (List.mem_of_getElem? (i := 26) rfl))) (mvT hZ0 (hw _ (List.mem_of_getElem? (i := 25) rfl))) (by decide) (backOf (W := 0) (rm3z l Z a0 hw [] b102 q5 p1 d_110 t_110 kd_110 kt_110 (1 : Int32) T110.heap n0 Zs110 f111 pf0 f112 gn_b102 gn_d_110 gn_t_110 ne_b102_d_110 ne_b102_t_110 P110_3 P110_4 P110_5 P110_6 P110_7 P110_8 P110_9 P110_10 P110_11) hZ0 (hw _ (List.mem_of_getElem? (i := 27) rfl)) (hw _ (List.mem_of_getElem? (i := 2) rfl)) (by decide) (by decide)) q114a q114c (g := (mkF m 36 #[.val (.int p1), .val (.int p2), .val (.int p3), .val (.int p4), .val (.long q5), .second, .val (.int p6), .val (.ref b102), .val (.int (1 : Int32)), .val (.int (2 : Int32)), .unset] [(.int p1), (.long q5), (.ref b102)])) rfl (by rw [hml]; rfl) (Steps.refl _) (argsL := [(.long q5), (.int p1)]) (rest := []) (lenOf pd_2 rfl) rfl (by show 2 * 0 + _ ≤ _; exact Nat.le_of_eq rfl) (hb hby at_36) (fun _ _ => ⟨rfl, rfl, (by decide : 5 + 2 ≤ _), (by decide : 262 + 32768 ≤ _)⟩)
    dsimp only [Pt.U, Pt.locs, Pt.cells, Pt.slots] at X114 l114 y114 z114 st114 hQ114
    subst l114 y114 z114
    obtain ⟨dd_114, tt_114, rfl, N114q, P114_0, P114_1, P114_2, P114_3, P114_4, P114_5, P114_6, P114_7, P114_8, P114_9, P114_10, P114_11⟩ := hQ114
    have N114 := Fr.app N110 N114q
    have ne_b102_dd_114 : b102 ≠ dd_114 := Nat.ne_of_lt (Nat.lt_of_lt_of_le f112.lt P114_1)
    have ne_d_110_dd_114 : d_110 ≠ dd_114 := Nat.ne_of_lt (Nat.lt_of_lt_of_le P110_8.lt P114_1)
    have ne_t_110_dd_114 : t_110 ≠ dd_114 := Nat.ne_of_lt (Nat.lt_of_lt_of_le P110_9.lt P114_1)
    have gn_dd_114 : n0 ≤ dd_114 := Nat.le_trans Zs110 P114_1
    have ne_b102_tt_114 : b102 ≠ tt_114 := Nat.ne_of_lt (Nat.lt_of_lt_of_le f112.lt P114_2)
    have ne_d_110_tt_114 : d_110 ≠ tt_114 := Nat.ne_of_lt (Nat.lt_of_lt_of_le P110_8.lt P114_2)
    have ne_t_110_tt_114 : t_110 ≠ tt_114 := Nat.ne_of_lt (Nat.lt_of_lt_of_le P110_9.lt P114_2)
    have gn_tt_114 : n0 ≤ tt_114 := Nat.le_trans Zs110 P114_2
    have f115 : Old Z n0 T114.heap := f111.keep P114_0 (allS gn_b102 (allS gn_d_110 (allS gn_t_110 all0)))
    have f116 : Exa Z T114.heap b102 "holdfast/CountedIds$Batch" := f112.keep P114_0
    have Zs114 : n0 ≤ T114.heap.size := Nat.le_trans Zs110 P114_0.1
    obtain ⟨cq117, kq117, q117a, q117b, q117c⟩ := isOf hZ0 rfl f116
    obtain ⟨_, _, ⟨T117, L117, k117, n117⟩, -, X117, ⟨Lc117, hQ117, l117, y117, z117⟩, st117⟩ := X114.virtualBack hx (y := (⟨"holdfast/CountedIds$Batch", "add", "(JI)V"⟩ : MethodName)) (z := (⟨"holdfast/CountedIds$Batch", "add", "(JI)V"⟩ : MethodName)) hown0 (mvT hZ0 (hw _ (List.mem_of_getElem? (i := 23) rfl))) (mvT hZ0 (hw _ (List.mem_of_getElem? (i := 24) rfl))) (notFace_of_selects (args := #[]) (mvT hZ0 (hw _ (List.mem_of_getElem? (i := 26) rfl)))) (mvT hZ0 (hw _ (List.mem_of_getElem? (i := 26) rfl))) (mvT hZ0 (hw _ (List.mem_of_getElem? (i := 25) rfl))) (by decide) (backOf (W := 0) (rm3n l Z a0 hw [] b102 (q5 ^^^ (-1 : Int64)) p2 d_110 t_110 kd_110 kt_110 (0 : Int32) dd_114 tt_114 (own_up own_none (0 : Int32) p1) (1 : Int32) (2 : Int32) T114.heap n0 Zs114 f115 pf0 f116 gn_b102 gn_d_110 gn_t_110 ne_b102_d_110 ne_b102_t_110 P110_3 P114_4 P114_5 P114_6 P114_7 P114_8 P114_9 P114_10 P114_11 P114_3 ne_t_110_dd_114 ne_d_110_dd_114 ne_d_110_tt_114 ne_t_110_tt_114 ne_b102_dd_114 ne_b102_tt_114 gn_dd_114 gn_tt_114 (by decide) (by decide) (by decide) (by decide) (by decide)) hZ0 (hw _ (List.mem_of_getElem? (i := 27) rfl)) (hw _ (List.mem_of_getElem? (i := 2) rfl)) (by decide) (by decide)) q117a q117c (g := (mkF m 54 #[.val (.int p1), .val (.int p2), .val (.int p3), .val (.int p4), .val (.long q5), .second, .val (.int p6), .val (.ref b102), .val (.int (1 : Int32)), .val (.int (2 : Int32)), .unset] [(.int p2), (.long (q5 ^^^ (-1 : Int64))), (.ref b102)])) rfl (by rw [hml]; rfl) (Steps.refl _) (argsL := [(.long (q5 ^^^ (-1 : Int64))), (.int p2)]) (rest := []) (lenOf pd_2 rfl) rfl (by show 2 * 0 + _ ≤ _; exact Nat.le_of_eq rfl) (hb hby at_54) (fun _ _ => ⟨rfl, rfl, (by decide : 7 + 0 ≤ _), (by decide : 33030 + 0 ≤ _)⟩)
    dsimp only [Pt.U, Pt.locs, Pt.cells, Pt.slots] at X117 l117 y117 z117 st117 hQ117
    subst l117 y117 z117
    obtain ⟨rfl, N117q, P117_0, P117_1, P117_2, P117_3, P117_4, P117_5, P117_6⟩ := hQ117
    have N117 := Fr.app N114 N117q
    have f118 : Old Z n0 T117.heap := f115.keep P117_0 (allS gn_b102 (allS gn_dd_114 (allS gn_tt_114 all0)))
    have f119 : Exa Z T117.heap b102 "holdfast/CountedIds$Batch" := f116.keep P117_0
    have f120 : Arv Z T117.heap d_110 kd_110 (.array .long) (64 : Int32) [(.ref dd_114)] .null := P114_8.keep P117_0 (ninS (Ne.symm ne_b102_d_110) (ninS ne_d_110_dd_114 (ninS ne_d_110_tt_114 nin0)))
    have f121 : Arv Z T117.heap t_110 kt_110 (.array .int) (64 : Int32) [(.ref tt_114)] .null := P114_9.keep P117_0 (ninS (Ne.symm ne_b102_t_110) (ninS ne_t_110_dd_114 (ninS ne_t_110_tt_114 nin0)))
    have Zs117 : n0 ≤ T117.heap.size := Nat.le_trans Zs114 P117_0.1
    obtain ⟨cq122, kq122, q122a, q122b, q122c⟩ := isOf hZ0 rfl f119
    obtain ⟨_, _, ⟨T122, L122, k122, n122⟩, -, X122, ⟨Lc122, hQ122, l122, y122, z122⟩, st122⟩ := X117.virtualBack hx (y := (⟨"holdfast/CountedIds$Batch", "tag", "(I)I"⟩ : MethodName)) (z := (⟨"holdfast/CountedIds$Batch", "tag", "(I)I"⟩ : MethodName)) hown0 (mvT hZ0 (hw _ (List.mem_of_getElem? (i := 42) rfl))) (mvT hZ0 (hw _ (List.mem_of_getElem? (i := 43) rfl))) (notFace_of_selects (args := #[]) (mvT hZ0 (hw _ (List.mem_of_getElem? (i := 45) rfl)))) (mvT hZ0 (hw _ (List.mem_of_getElem? (i := 45) rfl))) (mvT hZ0 (hw _ (List.mem_of_getElem? (i := 44) rfl))) (by decide) (backOf (W := 0) (rm5 l Z a0 hw [] b102 (0 : Int32) t_110 kt_110 tt_114 (own_up (own_up own_none (0 : Int32) p1) (1 : Int32) p2) p1 T117.heap n0 Zs117 f118 pf0 P117_2 f121 P117_6 (by decide) (by decide) (by decide) rfl) hZ0 (hw _ (List.mem_of_getElem? (i := 46) rfl)) (hw _ (List.mem_of_getElem? (i := 2) rfl)) (by decide) (by decide)) q122a q122c (g := (mkF m 78 #[.val (.int p1), .val (.int p2), .val (.int p3), .val (.int p4), .val (.long q5), .second, .val (.int p6), .val (.ref b102), .val (.int (1 : Int32)), .val (.int (2 : Int32)), .unset] [(.int (0 : Int32)), (.ref b102)])) rfl (by rw [hml]; rfl) (Steps.refl _) (argsL := [(.int (0 : Int32))]) (rest := []) (lenOf pd_3 rfl) rfl (by show 2 * 0 + _ ≤ _; exact Nat.le_of_eq rfl) (hb hby at_78) (fun _ _ => ⟨rfl, rfl, (by decide : 7 + 0 ≤ _), (by decide : 33030 + 0 ≤ _)⟩)
    dsimp only [Pt.U, Pt.locs, Pt.cells, Pt.slots] at X122 l122 y122 z122 st122 hQ122
    subst l122 y122 z122
    obtain ⟨rfl, N122q, P122_0⟩ := hQ122
    have N122 := Fr.app N117 N122q
    obtain ⟨_, _, ⟨T123, L123, k123, n123⟩, -, X123, ⟨Lc123, hQ123, l123, y123, z123⟩, st123⟩ := Jvm.LawKit.callS X122 hx (y := (⟨"holdfast/BatchTagPinLaw", "expected", "(IIII)I"⟩ : MethodName)) hown0 (mvT hZ0 (hw _ (List.mem_of_getElem? (i := 47) rfl))) (mvT hZ0 (hw _ (List.mem_of_getElem? (i := 48) rfl))) (mvT hZ0 (hw _ (List.mem_of_getElem? (i := 49) rfl))) (mvT hZ0 (hw _ (List.mem_of_getElem? (i := 50) rfl))) (by decide) (backOf (W := 1) (rm6 l Z a0 hw [] (0 : Int32) p1 p2 p3 T117.heap n0 Zs117 ) hZ0 (hw _ (List.mem_of_getElem? (i := 50) rfl)) (hw _ (List.mem_of_getElem? (i := 49) rfl)) (by decide) (by decide)) (g := (mkF m 85 #[.val (.int p1), .val (.int p2), .val (.int p3), .val (.int p4), .val (.long q5), .second, .val (.int p6), .val (.ref b102), .val (.int (1 : Int32)), .val (.int (2 : Int32)), .unset] [(.int p3), (.int p2), (.int p1), (.int (0 : Int32)), (.int p1)])) rfl (by rw [hml]; rfl) (argsL := [(.int (0 : Int32)), (.int p1), (.int p2), (.int p3)]) (rest := [(.int p1)]) (lenOf pd_4 rfl) rfl (by show 2 * 0 + _ ≤ _; exact Nat.le_of_eq rfl) (hb hby at_85) (fun _ _ => ⟨rfl, P122_0, (by decide : 7 + 0 ≤ _), (by decide : 33030 + 0 ≤ _)⟩)
    dsimp only [Pt.U, Pt.locs, Pt.cells, Pt.slots] at X123 l123 y123 z123 st123 hQ123
    subst l123 y123 z123
    obtain ⟨hv123, N123q, P123_0⟩ := hQ123
    obtain rfl := hv123.trans (congrArg (fun z => some (Value.int z)) (rfl : (own_exp (0 : Int32) p1 p2 p3) = p1))
    have N123 := Fr.app N122 N123q
    obtain ⟨cq124, kq124, q124a, q124b, q124c⟩ := isOf hZ0 P123_0 f119
    obtain ⟨_, _, ⟨T124, L124, k124, n124⟩, -, X124, ⟨Lc124, hQ124, l124, y124, z124⟩, st124⟩ := X123.virtualBack hx (y := (⟨"holdfast/CountedIds$Batch", "tag", "(I)I"⟩ : MethodName)) (z := (⟨"holdfast/CountedIds$Batch", "tag", "(I)I"⟩ : MethodName)) hown0 (mvT hZ0 (hw _ (List.mem_of_getElem? (i := 42) rfl))) (mvT hZ0 (hw _ (List.mem_of_getElem? (i := 43) rfl))) (notFace_of_selects (args := #[]) (mvT hZ0 (hw _ (List.mem_of_getElem? (i := 45) rfl)))) (mvT hZ0 (hw _ (List.mem_of_getElem? (i := 45) rfl))) (mvT hZ0 (hw _ (List.mem_of_getElem? (i := 44) rfl))) (by decide) (backOf (W := 0) (rm5 l Z a0 hw [] b102 (1 : Int32) t_110 kt_110 tt_114 (own_up (own_up own_none (0 : Int32) p1) (1 : Int32) p2) p2 T117.heap n0 Zs117 f118 pf0 P117_2 f121 P117_6 (by decide) (by decide) (by decide) rfl) hZ0 (hw _ (List.mem_of_getElem? (i := 46) rfl)) (hw _ (List.mem_of_getElem? (i := 2) rfl)) (by decide) (by decide)) q124a q124c (g := (mkF m 112 #[.val (.int p1), .val (.int p2), .val (.int p3), .val (.int p4), .val (.long q5), .second, .val (.int p6), .val (.ref b102), .val (.int (1 : Int32)), .val (.int (2 : Int32)), .val (.int (1 : Int32))] [(.int (1 : Int32)), (.ref b102)])) rfl (by rw [hml]; rfl) (Steps.refl _) (argsL := [(.int (1 : Int32))]) (rest := []) (lenOf pd_3 rfl) rfl (by show 2 * 0 + _ ≤ _; exact Nat.le_of_eq rfl) (hb hby at_112) (fun _ _ => ⟨rfl, P123_0, (by decide : 7 + 0 ≤ _), (by decide : 33030 + 0 ≤ _)⟩)
    dsimp only [Pt.U, Pt.locs, Pt.cells, Pt.slots] at X124 l124 y124 z124 st124 hQ124
    subst l124 y124 z124
    obtain ⟨rfl, N124q, P124_0⟩ := hQ124
    have N124 := Fr.app N123 N124q
    obtain ⟨_, _, ⟨T125, L125, k125, n125⟩, -, X125, ⟨Lc125, hQ125, l125, y125, z125⟩, st125⟩ := Jvm.LawKit.callS X124 hx (y := (⟨"holdfast/BatchTagPinLaw", "expected", "(IIII)I"⟩ : MethodName)) hown0 (mvT hZ0 (hw _ (List.mem_of_getElem? (i := 47) rfl))) (mvT hZ0 (hw _ (List.mem_of_getElem? (i := 48) rfl))) (mvT hZ0 (hw _ (List.mem_of_getElem? (i := 49) rfl))) (mvT hZ0 (hw _ (List.mem_of_getElem? (i := 50) rfl))) (by decide) (backOf (W := 1) (rm6 l Z a0 hw [] (1 : Int32) p1 p2 p3 T117.heap n0 Zs117 ) hZ0 (hw _ (List.mem_of_getElem? (i := 50) rfl)) (hw _ (List.mem_of_getElem? (i := 49) rfl)) (by decide) (by decide)) (g := (mkF m 119 #[.val (.int p1), .val (.int p2), .val (.int p3), .val (.int p4), .val (.long q5), .second, .val (.int p6), .val (.ref b102), .val (.int (1 : Int32)), .val (.int (2 : Int32)), .val (.int (1 : Int32))] [(.int p3), (.int p2), (.int p1), (.int (1 : Int32)), (.int p2)])) rfl (by rw [hml]; rfl) (argsL := [(.int (1 : Int32)), (.int p1), (.int p2), (.int p3)]) (rest := [(.int p2)]) (lenOf pd_4 rfl) rfl (by show 2 * 0 + _ ≤ _; exact Nat.le_of_eq rfl) (hb hby at_119) (fun _ _ => ⟨rfl, P124_0, (by decide : 7 + 0 ≤ _), (by decide : 33030 + 0 ≤ _)⟩)
    dsimp only [Pt.U, Pt.locs, Pt.cells, Pt.slots] at X125 l125 y125 z125 st125 hQ125
    subst l125 y125 z125
    obtain ⟨hv125, N125q, P125_0⟩ := hQ125
    obtain rfl := hv125.trans (congrArg (fun z => some (Value.int z)) (by simp [own_exp] : (own_exp (1 : Int32) p1 p2 p3) = p2))
    have N125 := Fr.app N124 N125q
    have pr126 : ∀ tg9, Steps p.tables e below (T125.setTop (mkF m 170 #[.val (.int p1), .val (.int p2), .val (.int p3), .val (.int p4), .val (.long q5), .second, .val (.int p6), .val (.ref b102), .val (.int (1 : Int32)), .val (.int (2 : Int32)), .val (.int (1 : Int32))] [(.int (p6 &&& (4 : Int32)))])) tg9 → Steps p.tables e below (s₁.setTop (mkF m 0 #[.val (.int p1), .val (.int p2), .val (.int p3), .val (.int p4), .val (.long q5), .second, .val (.int p6), .unset, .unset, .unset, .unset] [])) tg9 := fun tg9 kt => by
      show Steps p.tables e below (s₁.setTop (mkF m 0 #[.val (.int p1), .val (.int p2), .val (.int p3), .val (.int p4), .val (.long q5), .second, .val (.int p6), .unset, .unset, .unset, .unset] [])) _
      refine st102 _ ?_
      show Steps p.tables e below (T102.setTop (mkF m 3 #[.val (.int p1), .val (.int p2), .val (.int p3), .val (.int p4), .val (.long q5), .second, .val (.int p6), .unset, .unset, .unset, .unset] [(.ref b102)])) _
      refine XS.dup X102.here hx rfl (hb hby at_3) rfl rfl ?_
      show Steps p.tables e below (T102.setTop (mkF m 4 #[.val (.int p1), .val (.int p2), .val (.int p3), .val (.int p4), .val (.long q5), .second, .val (.int p6), .unset, .unset, .unset, .unset] [(.ref b102), (.ref b102)])) _
      refine st110.trans ?_
      show Steps p.tables e below (T110.setTop (mkF m 7 #[.val (.int p1), .val (.int p2), .val (.int p3), .val (.int p4), .val (.long q5), .second, .val (.int p6), .unset, .unset, .unset, .unset] [(.ref b102)])) _
      refine XS.astore X110.here hx rfl (hb hby at_7) rfl rfl (l' := #[.val (.int p1), .val (.int p2), .val (.int p3), .val (.int p4), .val (.long q5), .second, .val (.int p6), .val (.ref b102), .unset, .unset, .unset]) rfl ?_
      show Steps p.tables e below (T110.setTop (mkF m 9 #[.val (.int p1), .val (.int p2), .val (.int p3), .val (.int p4), .val (.long q5), .second, .val (.int p6), .val (.ref b102), .unset, .unset, .unset] [])) _
      refine XS.iload X110.here hx rfl (hb hby at_9) rfl ?_
      show Steps p.tables e below (T110.setTop (mkF m 11 #[.val (.int p1), .val (.int p2), .val (.int p3), .val (.int p4), .val (.long q5), .second, .val (.int p6), .val (.ref b102), .unset, .unset, .unset] [(.int p6)])) _
      refine XS.iconst X110.here hx rfl (hb hby at_11) ?_
      show Steps p.tables e below (T110.setTop (mkF m 12 #[.val (.int p1), .val (.int p2), .val (.int p3), .val (.int p4), .val (.long q5), .second, .val (.int p6), .val (.ref b102), .unset, .unset, .unset] [(.int (3 : Int32)), (.int p6)])) _
      refine XS.iand X110.here hx rfl (hb hby at_12) rfl ?_
      show Steps p.tables e below (T110.setTop (mkF m 13 #[.val (.int p1), .val (.int p2), .val (.int p3), .val (.int p4), .val (.long q5), .second, .val (.int p6), .val (.ref b102), .unset, .unset, .unset] [(.int (p6 &&& (3 : Int32)))])) _
      rw [hc101]
      show Steps p.tables e below (T110.setTop (mkF m 13 #[.val (.int p1), .val (.int p2), .val (.int p3), .val (.int p4), .val (.long q5), .second, .val (.int p6), .val (.ref b102), .unset, .unset, .unset] [(.int (1 : Int32))])) _
      refine XS.istore X110.here hx rfl (hb hby at_13) rfl (l' := #[.val (.int p1), .val (.int p2), .val (.int p3), .val (.int p4), .val (.long q5), .second, .val (.int p6), .val (.ref b102), .val (.int (1 : Int32)), .unset, .unset]) rfl ?_
      show Steps p.tables e below (T110.setTop (mkF m 15 #[.val (.int p1), .val (.int p2), .val (.int p3), .val (.int p4), .val (.long q5), .second, .val (.int p6), .val (.ref b102), .val (.int (1 : Int32)), .unset, .unset] [])) _
      refine XS.iload X110.here hx rfl (hb hby at_15) rfl ?_
      show Steps p.tables e below (T110.setTop (mkF m 17 #[.val (.int p1), .val (.int p2), .val (.int p3), .val (.int p4), .val (.long q5), .second, .val (.int p6), .val (.ref b102), .val (.int (1 : Int32)), .unset, .unset] [(.int (1 : Int32))])) _
      refine XS.iconst X110.here hx rfl (hb hby at_17) ?_
      show Steps p.tables e below (T110.setTop (mkF m 18 #[.val (.int p1), .val (.int p2), .val (.int p3), .val (.int p4), .val (.long q5), .second, .val (.int p6), .val (.ref b102), .val (.int (1 : Int32)), .unset, .unset] [(.int (3 : Int32)), (.int (1 : Int32))])) _
      refine XS.icmpYes X110.here hx rfl (pc0 := 18) (pc' := 25) rfl (hb hby at_18) rfl (feq (by decide : ¬ ((1 : Int32) = (3 : Int32)))).2 (by decide) (by decide) ?_
      show Steps p.tables e below (T110.setTop (mkF m 25 #[.val (.int p1), .val (.int p2), .val (.int p3), .val (.int p4), .val (.long q5), .second, .val (.int p6), .val (.ref b102), .val (.int (1 : Int32)), .unset, .unset] [])) _
      refine XS.iload X110.here hx rfl (hb hby at_25) rfl ?_
      show Steps p.tables e below (T110.setTop (mkF m 27 #[.val (.int p1), .val (.int p2), .val (.int p3), .val (.int p4), .val (.long q5), .second, .val (.int p6), .val (.ref b102), .val (.int (1 : Int32)), .unset, .unset] [(.int (1 : Int32))])) _
      refine XS.iconst X110.here hx rfl (hb hby at_27) ?_
      show Steps p.tables e below (T110.setTop (mkF m 28 #[.val (.int p1), .val (.int p2), .val (.int p3), .val (.int p4), .val (.long q5), .second, .val (.int p6), .val (.ref b102), .val (.int (1 : Int32)), .unset, .unset] [(.int (1 : Int32)), (.int (1 : Int32))])) _
      refine XS.iadd X110.here hx rfl (hb hby at_28) rfl ?_
      show Steps p.tables e below (T110.setTop (mkF m 29 #[.val (.int p1), .val (.int p2), .val (.int p3), .val (.int p4), .val (.long q5), .second, .val (.int p6), .val (.ref b102), .val (.int (1 : Int32)), .unset, .unset] [(.int ((1 : Int32) + (1 : Int32)))])) _
      rw [cf113]
      show Steps p.tables e below (T110.setTop (mkF m 29 #[.val (.int p1), .val (.int p2), .val (.int p3), .val (.int p4), .val (.long q5), .second, .val (.int p6), .val (.ref b102), .val (.int (1 : Int32)), .unset, .unset] [(.int (2 : Int32))])) _
      refine XS.istore X110.here hx rfl (hb hby at_29) rfl (l' := #[.val (.int p1), .val (.int p2), .val (.int p3), .val (.int p4), .val (.long q5), .second, .val (.int p6), .val (.ref b102), .val (.int (1 : Int32)), .val (.int (2 : Int32)), .unset]) rfl ?_
      show Steps p.tables e below (T110.setTop (mkF m 31 #[.val (.int p1), .val (.int p2), .val (.int p3), .val (.int p4), .val (.long q5), .second, .val (.int p6), .val (.ref b102), .val (.int (1 : Int32)), .val (.int (2 : Int32)), .unset] [])) _
      refine XS.aload X110.here hx rfl (hb hby at_31) rfl rfl ?_
      show Steps p.tables e below (T110.setTop (mkF m 33 #[.val (.int p1), .val (.int p2), .val (.int p3), .val (.int p4), .val (.long q5), .second, .val (.int p6), .val (.ref b102), .val (.int (1 : Int32)), .val (.int (2 : Int32)), .unset] [(.ref b102)])) _
      refine XS.lload X110.here hx rfl (hb hby at_33) rfl ?_
      show Steps p.tables e below (T110.setTop (mkF m 35 #[.val (.int p1), .val (.int p2), .val (.int p3), .val (.int p4), .val (.long q5), .second, .val (.int p6), .val (.ref b102), .val (.int (1 : Int32)), .val (.int (2 : Int32)), .unset] [(.long q5), (.ref b102)])) _
      refine XS.iloadN X110.here hx rfl (hb hby at_35) rfl ?_
      show Steps p.tables e below (T110.setTop (mkF m 36 #[.val (.int p1), .val (.int p2), .val (.int p3), .val (.int p4), .val (.long q5), .second, .val (.int p6), .val (.ref b102), .val (.int (1 : Int32)), .val (.int (2 : Int32)), .unset] [(.int p1), (.long q5), (.ref b102)])) _
      refine st114.trans ?_
      show Steps p.tables e below (T114.setTop (mkF m 39 #[.val (.int p1), .val (.int p2), .val (.int p3), .val (.int p4), .val (.long q5), .second, .val (.int p6), .val (.ref b102), .val (.int (1 : Int32)), .val (.int (2 : Int32)), .unset] [])) _
      refine XS.iload X114.here hx rfl (hb hby at_39) rfl ?_
      show Steps p.tables e below (T114.setTop (mkF m 41 #[.val (.int p1), .val (.int p2), .val (.int p3), .val (.int p4), .val (.long q5), .second, .val (.int p6), .val (.ref b102), .val (.int (1 : Int32)), .val (.int (2 : Int32)), .unset] [(.int (2 : Int32))])) _
      refine XS.iconst X114.here hx rfl (hb hby at_41) ?_
      show Steps p.tables e below (T114.setTop (mkF m 42 #[.val (.int p1), .val (.int p2), .val (.int p3), .val (.int p4), .val (.long q5), .second, .val (.int p6), .val (.ref b102), .val (.int (1 : Int32)), .val (.int (2 : Int32)), .unset] [(.int (2 : Int32)), (.int (2 : Int32))])) _
      refine XS.icmpNo X114.here hx rfl (hb hby at_42) rfl (flt (by decide : ¬ ((2 : Int32) < (2 : Int32)))).1 ?_
      show Steps p.tables e below (T114.setTop (mkF m 45 #[.val (.int p1), .val (.int p2), .val (.int p3), .val (.int p4), .val (.long q5), .second, .val (.int p6), .val (.ref b102), .val (.int (1 : Int32)), .val (.int (2 : Int32)), .unset] [])) _
      refine XS.aload X114.here hx rfl (hb hby at_45) rfl rfl ?_
      show Steps p.tables e below (T114.setTop (mkF m 47 #[.val (.int p1), .val (.int p2), .val (.int p3), .val (.int p4), .val (.long q5), .second, .val (.int p6), .val (.ref b102), .val (.int (1 : Int32)), .val (.int (2 : Int32)), .unset] [(.ref b102)])) _
      refine XS.lload X114.here hx rfl (hb hby at_47) rfl ?_
      show Steps p.tables e below (T114.setTop (mkF m 49 #[.val (.int p1), .val (.int p2), .val (.int p3), .val (.int p4), .val (.long q5), .second, .val (.int p6), .val (.ref b102), .val (.int (1 : Int32)), .val (.int (2 : Int32)), .unset] [(.long q5), (.ref b102)])) _
      refine X114.ldc2J hx hown0 (mvT hZ0 (hw _ (List.mem_of_getElem? (i := 40) rfl))) (g := (mkF m 49 #[.val (.int p1), .val (.int p2), .val (.int p3), .val (.int p4), .val (.long q5), .second, .val (.int p6), .val (.ref b102), .val (.int (1 : Int32)), .val (.int (2 : Int32)), .unset] [(.long q5), (.ref b102)])) rfl (hb hby at_49) ?_
      show Steps p.tables e below (T114.setTop (mkF m 52 #[.val (.int p1), .val (.int p2), .val (.int p3), .val (.int p4), .val (.long q5), .second, .val (.int p6), .val (.ref b102), .val (.int (1 : Int32)), .val (.int (2 : Int32)), .unset] [(.long (-1 : Int64)), (.long q5), (.ref b102)])) _
      refine XS.lxor X114.here hx rfl (hb hby at_52) rfl ?_
      show Steps p.tables e below (T114.setTop (mkF m 53 #[.val (.int p1), .val (.int p2), .val (.int p3), .val (.int p4), .val (.long q5), .second, .val (.int p6), .val (.ref b102), .val (.int (1 : Int32)), .val (.int (2 : Int32)), .unset] [(.long (q5 ^^^ (-1 : Int64))), (.ref b102)])) _
      refine XS.iloadN X114.here hx rfl (hb hby at_53) rfl ?_
      show Steps p.tables e below (T114.setTop (mkF m 54 #[.val (.int p1), .val (.int p2), .val (.int p3), .val (.int p4), .val (.long q5), .second, .val (.int p6), .val (.ref b102), .val (.int (1 : Int32)), .val (.int (2 : Int32)), .unset] [(.int p2), (.long (q5 ^^^ (-1 : Int64))), (.ref b102)])) _
      refine st117.trans ?_
      show Steps p.tables e below (T117.setTop (mkF m 57 #[.val (.int p1), .val (.int p2), .val (.int p3), .val (.int p4), .val (.long q5), .second, .val (.int p6), .val (.ref b102), .val (.int (1 : Int32)), .val (.int (2 : Int32)), .unset] [])) _
      refine XS.iload X117.here hx rfl (hb hby at_57) rfl ?_
      show Steps p.tables e below (T117.setTop (mkF m 59 #[.val (.int p1), .val (.int p2), .val (.int p3), .val (.int p4), .val (.long q5), .second, .val (.int p6), .val (.ref b102), .val (.int (1 : Int32)), .val (.int (2 : Int32)), .unset] [(.int (2 : Int32))])) _
      refine XS.iconst X117.here hx rfl (hb hby at_59) ?_
      show Steps p.tables e below (T117.setTop (mkF m 60 #[.val (.int p1), .val (.int p2), .val (.int p3), .val (.int p4), .val (.long q5), .second, .val (.int p6), .val (.ref b102), .val (.int (1 : Int32)), .val (.int (2 : Int32)), .unset] [(.int (3 : Int32)), (.int (2 : Int32))])) _
      refine XS.icmpYes X117.here hx rfl (pc0 := 60) (pc' := 75) rfl (hb hby at_60) rfl (tlt (by decide : (2 : Int32) < (3 : Int32))).1 (by decide) (by decide) ?_
      show Steps p.tables e below (T117.setTop (mkF m 75 #[.val (.int p1), .val (.int p2), .val (.int p3), .val (.int p4), .val (.long q5), .second, .val (.int p6), .val (.ref b102), .val (.int (1 : Int32)), .val (.int (2 : Int32)), .unset] [])) _
      refine XS.aload X117.here hx rfl (hb hby at_75) rfl rfl ?_
      show Steps p.tables e below (T117.setTop (mkF m 77 #[.val (.int p1), .val (.int p2), .val (.int p3), .val (.int p4), .val (.long q5), .second, .val (.int p6), .val (.ref b102), .val (.int (1 : Int32)), .val (.int (2 : Int32)), .unset] [(.ref b102)])) _
      refine XS.iconst X117.here hx rfl (hb hby at_77) ?_
      show Steps p.tables e below (T117.setTop (mkF m 78 #[.val (.int p1), .val (.int p2), .val (.int p3), .val (.int p4), .val (.long q5), .second, .val (.int p6), .val (.ref b102), .val (.int (1 : Int32)), .val (.int (2 : Int32)), .unset] [(.int (0 : Int32)), (.ref b102)])) _
      refine st122.trans ?_
      show Steps p.tables e below (T122.setTop (mkF m 81 #[.val (.int p1), .val (.int p2), .val (.int p3), .val (.int p4), .val (.long q5), .second, .val (.int p6), .val (.ref b102), .val (.int (1 : Int32)), .val (.int (2 : Int32)), .unset] [(.int p1)])) _
      refine XS.iconst X122.here hx rfl (hb hby at_81) ?_
      show Steps p.tables e below (T122.setTop (mkF m 82 #[.val (.int p1), .val (.int p2), .val (.int p3), .val (.int p4), .val (.long q5), .second, .val (.int p6), .val (.ref b102), .val (.int (1 : Int32)), .val (.int (2 : Int32)), .unset] [(.int (0 : Int32)), (.int p1)])) _
      refine XS.iloadN X122.here hx rfl (hb hby at_82) rfl ?_
      show Steps p.tables e below (T122.setTop (mkF m 83 #[.val (.int p1), .val (.int p2), .val (.int p3), .val (.int p4), .val (.long q5), .second, .val (.int p6), .val (.ref b102), .val (.int (1 : Int32)), .val (.int (2 : Int32)), .unset] [(.int p1), (.int (0 : Int32)), (.int p1)])) _
      refine XS.iloadN X122.here hx rfl (hb hby at_83) rfl ?_
      show Steps p.tables e below (T122.setTop (mkF m 84 #[.val (.int p1), .val (.int p2), .val (.int p3), .val (.int p4), .val (.long q5), .second, .val (.int p6), .val (.ref b102), .val (.int (1 : Int32)), .val (.int (2 : Int32)), .unset] [(.int p2), (.int p1), (.int (0 : Int32)), (.int p1)])) _
      refine XS.iloadN X122.here hx rfl (hb hby at_84) rfl ?_
      show Steps p.tables e below (T122.setTop (mkF m 85 #[.val (.int p1), .val (.int p2), .val (.int p3), .val (.int p4), .val (.long q5), .second, .val (.int p6), .val (.ref b102), .val (.int (1 : Int32)), .val (.int (2 : Int32)), .unset] [(.int p3), (.int p2), (.int p1), (.int (0 : Int32)), (.int p1)])) _
      refine st123 _ ?_
      show Steps p.tables e below (T123.setTop (mkF m 88 #[.val (.int p1), .val (.int p2), .val (.int p3), .val (.int p4), .val (.long q5), .second, .val (.int p6), .val (.ref b102), .val (.int (1 : Int32)), .val (.int (2 : Int32)), .unset] [(.int p1), (.int p1)])) _
      refine XS.icmpNo X123.here hx rfl (hb hby at_88) rfl (teq (rfl : p1 = p1)).2 ?_
      show Steps p.tables e below (T123.setTop (mkF m 91 #[.val (.int p1), .val (.int p2), .val (.int p3), .val (.int p4), .val (.long q5), .second, .val (.int p6), .val (.ref b102), .val (.int (1 : Int32)), .val (.int (2 : Int32)), .unset] [])) _
      refine XS.iconst X123.here hx rfl (hb hby at_91) ?_
      show Steps p.tables e below (T123.setTop (mkF m 92 #[.val (.int p1), .val (.int p2), .val (.int p3), .val (.int p4), .val (.long q5), .second, .val (.int p6), .val (.ref b102), .val (.int (1 : Int32)), .val (.int (2 : Int32)), .unset] [(.int (1 : Int32))])) _
      refine XS.goto X123.here hx rfl (pc0 := 92) (pc' := 96) rfl (hb hby at_92) (by decide) (by decide) ?_
      show Steps p.tables e below (T123.setTop (mkF m 96 #[.val (.int p1), .val (.int p2), .val (.int p3), .val (.int p4), .val (.long q5), .second, .val (.int p6), .val (.ref b102), .val (.int (1 : Int32)), .val (.int (2 : Int32)), .unset] [(.int (1 : Int32))])) _
      refine XS.istore X123.here hx rfl (hb hby at_96) rfl (l' := #[.val (.int p1), .val (.int p2), .val (.int p3), .val (.int p4), .val (.long q5), .second, .val (.int p6), .val (.ref b102), .val (.int (1 : Int32)), .val (.int (2 : Int32)), .val (.int (1 : Int32))]) rfl ?_
      show Steps p.tables e below (T123.setTop (mkF m 98 #[.val (.int p1), .val (.int p2), .val (.int p3), .val (.int p4), .val (.long q5), .second, .val (.int p6), .val (.ref b102), .val (.int (1 : Int32)), .val (.int (2 : Int32)), .val (.int (1 : Int32))] [])) _
      refine XS.iload X123.here hx rfl (hb hby at_98) rfl ?_
      show Steps p.tables e below (T123.setTop (mkF m 100 #[.val (.int p1), .val (.int p2), .val (.int p3), .val (.int p4), .val (.long q5), .second, .val (.int p6), .val (.ref b102), .val (.int (1 : Int32)), .val (.int (2 : Int32)), .val (.int (1 : Int32))] [(.int (2 : Int32))])) _
      refine XS.iconst X123.here hx rfl (hb hby at_100) ?_
      show Steps p.tables e below (T123.setTop (mkF m 101 #[.val (.int p1), .val (.int p2), .val (.int p3), .val (.int p4), .val (.long q5), .second, .val (.int p6), .val (.ref b102), .val (.int (1 : Int32)), .val (.int (2 : Int32)), .val (.int (1 : Int32))] [(.int (2 : Int32)), (.int (2 : Int32))])) _
      refine XS.icmpNo X123.here hx rfl (hb hby at_101) rfl (flt (by decide : ¬ ((2 : Int32) < (2 : Int32)))).1 ?_
      show Steps p.tables e below (T123.setTop (mkF m 104 #[.val (.int p1), .val (.int p2), .val (.int p3), .val (.int p4), .val (.long q5), .second, .val (.int p6), .val (.ref b102), .val (.int (1 : Int32)), .val (.int (2 : Int32)), .val (.int (1 : Int32))] [])) _
      refine XS.iload X123.here hx rfl (hb hby at_104) rfl ?_
      show Steps p.tables e below (T123.setTop (mkF m 106 #[.val (.int p1), .val (.int p2), .val (.int p3), .val (.int p4), .val (.long q5), .second, .val (.int p6), .val (.ref b102), .val (.int (1 : Int32)), .val (.int (2 : Int32)), .val (.int (1 : Int32))] [(.int (1 : Int32))])) _
      refine XS.ifNo X123.here hx rfl (hb hby at_106) rfl ((if0 _ _).trans (feq (by decide : ¬ ((1 : Int32) = (0 : Int32)))).1) ?_
      show Steps p.tables e below (T123.setTop (mkF m 109 #[.val (.int p1), .val (.int p2), .val (.int p3), .val (.int p4), .val (.long q5), .second, .val (.int p6), .val (.ref b102), .val (.int (1 : Int32)), .val (.int (2 : Int32)), .val (.int (1 : Int32))] [])) _
      refine XS.aload X123.here hx rfl (hb hby at_109) rfl rfl ?_
      show Steps p.tables e below (T123.setTop (mkF m 111 #[.val (.int p1), .val (.int p2), .val (.int p3), .val (.int p4), .val (.long q5), .second, .val (.int p6), .val (.ref b102), .val (.int (1 : Int32)), .val (.int (2 : Int32)), .val (.int (1 : Int32))] [(.ref b102)])) _
      refine XS.iconst X123.here hx rfl (hb hby at_111) ?_
      show Steps p.tables e below (T123.setTop (mkF m 112 #[.val (.int p1), .val (.int p2), .val (.int p3), .val (.int p4), .val (.long q5), .second, .val (.int p6), .val (.ref b102), .val (.int (1 : Int32)), .val (.int (2 : Int32)), .val (.int (1 : Int32))] [(.int (1 : Int32)), (.ref b102)])) _
      refine st124.trans ?_
      show Steps p.tables e below (T124.setTop (mkF m 115 #[.val (.int p1), .val (.int p2), .val (.int p3), .val (.int p4), .val (.long q5), .second, .val (.int p6), .val (.ref b102), .val (.int (1 : Int32)), .val (.int (2 : Int32)), .val (.int (1 : Int32))] [(.int p2)])) _
      refine XS.iconst X124.here hx rfl (hb hby at_115) ?_
      show Steps p.tables e below (T124.setTop (mkF m 116 #[.val (.int p1), .val (.int p2), .val (.int p3), .val (.int p4), .val (.long q5), .second, .val (.int p6), .val (.ref b102), .val (.int (1 : Int32)), .val (.int (2 : Int32)), .val (.int (1 : Int32))] [(.int (1 : Int32)), (.int p2)])) _
      refine XS.iloadN X124.here hx rfl (hb hby at_116) rfl ?_
      show Steps p.tables e below (T124.setTop (mkF m 117 #[.val (.int p1), .val (.int p2), .val (.int p3), .val (.int p4), .val (.long q5), .second, .val (.int p6), .val (.ref b102), .val (.int (1 : Int32)), .val (.int (2 : Int32)), .val (.int (1 : Int32))] [(.int p1), (.int (1 : Int32)), (.int p2)])) _
      refine XS.iloadN X124.here hx rfl (hb hby at_117) rfl ?_
      show Steps p.tables e below (T124.setTop (mkF m 118 #[.val (.int p1), .val (.int p2), .val (.int p3), .val (.int p4), .val (.long q5), .second, .val (.int p6), .val (.ref b102), .val (.int (1 : Int32)), .val (.int (2 : Int32)), .val (.int (1 : Int32))] [(.int p2), (.int p1), (.int (1 : Int32)), (.int p2)])) _
      refine XS.iloadN X124.here hx rfl (hb hby at_118) rfl ?_
      show Steps p.tables e below (T124.setTop (mkF m 119 #[.val (.int p1), .val (.int p2), .val (.int p3), .val (.int p4), .val (.long q5), .second, .val (.int p6), .val (.ref b102), .val (.int (1 : Int32)), .val (.int (2 : Int32)), .val (.int (1 : Int32))] [(.int p3), (.int p2), (.int p1), (.int (1 : Int32)), (.int p2)])) _
      refine st125 _ ?_
      show Steps p.tables e below (T125.setTop (mkF m 122 #[.val (.int p1), .val (.int p2), .val (.int p3), .val (.int p4), .val (.long q5), .second, .val (.int p6), .val (.ref b102), .val (.int (1 : Int32)), .val (.int (2 : Int32)), .val (.int (1 : Int32))] [(.int p2), (.int p2)])) _
      refine XS.icmpNo X125.here hx rfl (hb hby at_122) rfl (teq (rfl : p2 = p2)).2 ?_
      show Steps p.tables e below (T125.setTop (mkF m 125 #[.val (.int p1), .val (.int p2), .val (.int p3), .val (.int p4), .val (.long q5), .second, .val (.int p6), .val (.ref b102), .val (.int (1 : Int32)), .val (.int (2 : Int32)), .val (.int (1 : Int32))] [])) _
      refine XS.iconst X125.here hx rfl (hb hby at_125) ?_
      show Steps p.tables e below (T125.setTop (mkF m 126 #[.val (.int p1), .val (.int p2), .val (.int p3), .val (.int p4), .val (.long q5), .second, .val (.int p6), .val (.ref b102), .val (.int (1 : Int32)), .val (.int (2 : Int32)), .val (.int (1 : Int32))] [(.int (1 : Int32))])) _
      refine XS.goto X125.here hx rfl (pc0 := 126) (pc' := 130) rfl (hb hby at_126) (by decide) (by decide) ?_
      show Steps p.tables e below (T125.setTop (mkF m 130 #[.val (.int p1), .val (.int p2), .val (.int p3), .val (.int p4), .val (.long q5), .second, .val (.int p6), .val (.ref b102), .val (.int (1 : Int32)), .val (.int (2 : Int32)), .val (.int (1 : Int32))] [(.int (1 : Int32))])) _
      refine XS.istore X125.here hx rfl (hb hby at_130) rfl (l' := #[.val (.int p1), .val (.int p2), .val (.int p3), .val (.int p4), .val (.long q5), .second, .val (.int p6), .val (.ref b102), .val (.int (1 : Int32)), .val (.int (2 : Int32)), .val (.int (1 : Int32))]) rfl ?_
      show Steps p.tables e below (T125.setTop (mkF m 132 #[.val (.int p1), .val (.int p2), .val (.int p3), .val (.int p4), .val (.long q5), .second, .val (.int p6), .val (.ref b102), .val (.int (1 : Int32)), .val (.int (2 : Int32)), .val (.int (1 : Int32))] [])) _
      refine XS.iload X125.here hx rfl (hb hby at_132) rfl ?_
      show Steps p.tables e below (T125.setTop (mkF m 134 #[.val (.int p1), .val (.int p2), .val (.int p3), .val (.int p4), .val (.long q5), .second, .val (.int p6), .val (.ref b102), .val (.int (1 : Int32)), .val (.int (2 : Int32)), .val (.int (1 : Int32))] [(.int (2 : Int32))])) _
      refine XS.iconst X125.here hx rfl (hb hby at_134) ?_
      show Steps p.tables e below (T125.setTop (mkF m 135 #[.val (.int p1), .val (.int p2), .val (.int p3), .val (.int p4), .val (.long q5), .second, .val (.int p6), .val (.ref b102), .val (.int (1 : Int32)), .val (.int (2 : Int32)), .val (.int (1 : Int32))] [(.int (3 : Int32)), (.int (2 : Int32))])) _
      refine XS.icmpYes X125.here hx rfl (pc0 := 135) (pc' := 166) rfl (hb hby at_135) rfl (tlt (by decide : (2 : Int32) < (3 : Int32))).1 (by decide) (by decide) ?_
      show Steps p.tables e below (T125.setTop (mkF m 166 #[.val (.int p1), .val (.int p2), .val (.int p3), .val (.int p4), .val (.long q5), .second, .val (.int p6), .val (.ref b102), .val (.int (1 : Int32)), .val (.int (2 : Int32)), .val (.int (1 : Int32))] [])) _
      refine XS.iload X125.here hx rfl (hb hby at_166) rfl ?_
      show Steps p.tables e below (T125.setTop (mkF m 168 #[.val (.int p1), .val (.int p2), .val (.int p3), .val (.int p4), .val (.long q5), .second, .val (.int p6), .val (.ref b102), .val (.int (1 : Int32)), .val (.int (2 : Int32)), .val (.int (1 : Int32))] [(.int p6)])) _
      refine XS.iconst X125.here hx rfl (hb hby at_168) ?_
      show Steps p.tables e below (T125.setTop (mkF m 169 #[.val (.int p1), .val (.int p2), .val (.int p3), .val (.int p4), .val (.long q5), .second, .val (.int p6), .val (.ref b102), .val (.int (1 : Int32)), .val (.int (2 : Int32)), .val (.int (1 : Int32))] [(.int (4 : Int32)), (.int p6)])) _
      refine XS.iand X125.here hx rfl (hb hby at_169) rfl ?_
      exact kt
    by_cases hc127 : (p6 &&& (4 : Int32)) = (0 : Int32)
    · obtain ⟨fs, hr, hrun, hended, hW, hsame⟩ := X125.leave (v := some (.int (1 : Int32))) (fun h => by rw [Bd.returns] at h; cases h) hlk
      refine ⟨_, _, pre0 _ ?_, hrun, hended, _, _, rfl, ?_, ⟨_, rfl⟩, hW, hsame.mono (by decide) (by decide)⟩
      · refine pr126 _ ?_
        show Steps p.tables e below (T125.setTop (mkF m 170 #[.val (.int p1), .val (.int p2), .val (.int p3), .val (.int p4), .val (.long q5), .second, .val (.int p6), .val (.ref b102), .val (.int (1 : Int32)), .val (.int (2 : Int32)), .val (.int (1 : Int32))] [(.int (p6 &&& (4 : Int32)))])) _
        refine XS.ifYes X125.here hx rfl (pc0 := 170) (pc' := 208) rfl (hb hby at_170) rfl ((if0 _ _).trans (teq hc127).1) (by decide) (by decide) ?_
        show Steps p.tables e below (T125.setTop (mkF m 208 #[.val (.int p1), .val (.int p2), .val (.int p3), .val (.int p4), .val (.long q5), .second, .val (.int p6), .val (.ref b102), .val (.int (1 : Int32)), .val (.int (2 : Int32)), .val (.int (1 : Int32))] [])) _
        refine XS.iload X125.here hx rfl (hb hby at_208) rfl ?_
        show Steps p.tables e below (T125.setTop (mkF m 210 #[.val (.int p1), .val (.int p2), .val (.int p3), .val (.int p4), .val (.long q5), .second, .val (.int p6), .val (.ref b102), .val (.int (1 : Int32)), .val (.int (2 : Int32)), .val (.int (1 : Int32))] [(.int (1 : Int32))])) _
        exact retN X125 hx (t := .boolean) Bd.returns (by simp) (hb hby at_210) hr
      · show Q0 Z p1 p2 p3 p4 q5 p6 h0 n0 _ T125.heap _
        rw [P125_0]
        exact ⟨rfl, N125⟩
    · obtain ⟨cq128, kq128, q128a, q128b, q128c⟩ := isOf hZ0 P125_0 f119
      obtain ⟨_, _, ⟨T128, L128, k128, n128⟩, -, X128, ⟨Lc128, hQ128, l128, y128, z128⟩, st128⟩ := X125.virtualBack hx (y := (⟨"holdfast/CountedIds$Batch", "clear", "()V"⟩ : MethodName)) (z := (⟨"holdfast/CountedIds$Batch", "clear", "()V"⟩ : MethodName)) hown0 (mvT hZ0 (hw _ (List.mem_of_getElem? (i := 51) rfl))) (mvT hZ0 (hw _ (List.mem_of_getElem? (i := 52) rfl))) (notFace_of_selects (args := #[]) (mvT hZ0 (hw _ (List.mem_of_getElem? (i := 54) rfl)))) (mvT hZ0 (hw _ (List.mem_of_getElem? (i := 54) rfl))) (mvT hZ0 (hw _ (List.mem_of_getElem? (i := 53) rfl))) (by decide) (backOf (W := 0) (rm7 l Z a0 hw [] b102 d_110 t_110 (0 : Int32) (2 : Int32) T117.heap n0 Zs117 f119 gn_b102 P117_1 P117_2 P117_3 P117_4) hZ0 (hw _ (List.mem_of_getElem? (i := 55) rfl)) (hw _ (List.mem_of_getElem? (i := 2) rfl)) (by decide) (by decide)) q128a q128c (g := (mkF m 175 #[.val (.int p1), .val (.int p2), .val (.int p3), .val (.int p4), .val (.long q5), .second, .val (.int p6), .val (.ref b102), .val (.int (1 : Int32)), .val (.int (2 : Int32)), .val (.int (1 : Int32))] [(.ref b102)])) rfl (by rw [hml]; rfl) (Steps.refl _) (argsL := []) (rest := []) (lenOf pd_1 rfl) rfl (by show 2 * 0 + _ ≤ _; exact Nat.le_of_eq rfl) (hb hby at_175) (fun _ _ => ⟨rfl, P125_0, (by decide : 7 + 0 ≤ _), (by decide : 33030 + 0 ≤ _)⟩)
      dsimp only [Pt.U, Pt.locs, Pt.cells, Pt.slots] at X128 l128 y128 z128 st128 hQ128
      subst l128 y128 z128
      obtain ⟨rfl, N128q, P128_0, P128_1, P128_2, P128_3, P128_4⟩ := hQ128
      have N128 := Fr.app N125 N128q
      have f129 : Old Z n0 T128.heap := f118.keep P128_0 (allS gn_b102 all0)
      have f130 : Exa Z T128.heap b102 "holdfast/CountedIds$Batch" := f119.keep P128_0
      have f131 : Arv Z T128.heap d_110 kd_110 (.array .long) (64 : Int32) [(.ref dd_114)] .null := f120.keep P128_0 (ninS (Ne.symm ne_b102_d_110) nin0)
      have f132 : Arv Z T128.heap t_110 kt_110 (.array .int) (64 : Int32) [(.ref tt_114)] .null := f121.keep P128_0 (ninS (Ne.symm ne_b102_t_110) nin0)
      have f133 : OwnLng Z T128.heap dd_114 := OwnLng.keep P117_5 P128_0 (ninS (Ne.symm ne_b102_dd_114) nin0)
      have f134 : OwnTg Z T128.heap tt_114 (own_up (own_up own_none (0 : Int32) p1) (1 : Int32) p2) := OwnTg.keep P117_6 P128_0 (ninS (Ne.symm ne_b102_tt_114) nin0)
      have Zs128 : n0 ≤ T128.heap.size := Nat.le_trans Zs117 P128_0.1
      obtain ⟨cq135, kq135, q135a, q135b, q135c⟩ := isOf hZ0 rfl f130
      obtain ⟨_, _, ⟨T135, L135, k135, n135⟩, -, X135, ⟨Lc135, hQ135, l135, y135, z135⟩, st135⟩ := X128.virtualBack hx (y := (⟨"holdfast/CountedIds$Batch", "add", "(JI)V"⟩ : MethodName)) (z := (⟨"holdfast/CountedIds$Batch", "add", "(JI)V"⟩ : MethodName)) hown0 (mvT hZ0 (hw _ (List.mem_of_getElem? (i := 23) rfl))) (mvT hZ0 (hw _ (List.mem_of_getElem? (i := 24) rfl))) (notFace_of_selects (args := #[]) (mvT hZ0 (hw _ (List.mem_of_getElem? (i := 26) rfl)))) (mvT hZ0 (hw _ (List.mem_of_getElem? (i := 26) rfl))) (mvT hZ0 (hw _ (List.mem_of_getElem? (i := 25) rfl))) (by decide) (backOf (W := 0) (rm3n l Z a0 hw [] b102 q5 p4 d_110 t_110 kd_110 kt_110 (1 : Int32) dd_114 tt_114 (own_up (own_up own_none (0 : Int32) p1) (1 : Int32) p2) (0 : Int32) (1 : Int32) T128.heap n0 Zs128 f129 pf0 f130 gn_b102 gn_d_110 gn_t_110 ne_b102_d_110 ne_b102_t_110 P110_3 P128_1 P128_2 P128_3 P128_4 f131 f132 f133 f134 P114_3 ne_t_110_dd_114 ne_d_110_dd_114 ne_d_110_tt_114 ne_t_110_tt_114 ne_b102_dd_114 ne_b102_tt_114 gn_dd_114 gn_tt_114 (by decide) (by decide) (by decide) (by decide) (by decide)) hZ0 (hw _ (List.mem_of_getElem? (i := 27) rfl)) (hw _ (List.mem_of_getElem? (i := 2) rfl)) (by decide) (by decide)) q135a q135c (g := (mkF m 183 #[.val (.int p1), .val (.int p2), .val (.int p3), .val (.int p4), .val (.long q5), .second, .val (.int p6), .val (.ref b102), .val (.int (1 : Int32)), .val (.int (2 : Int32)), .val (.int (1 : Int32))] [(.int p4), (.long q5), (.ref b102)])) rfl (by rw [hml]; rfl) (Steps.refl _) (argsL := [(.long q5), (.int p4)]) (rest := []) (lenOf pd_2 rfl) rfl (by show 2 * 0 + _ ≤ _; exact Nat.le_of_eq rfl) (hb hby at_183) (fun _ _ => ⟨rfl, rfl, (by decide : 7 + 0 ≤ _), (by decide : 33030 + 0 ≤ _)⟩)
      dsimp only [Pt.U, Pt.locs, Pt.cells, Pt.slots] at X135 l135 y135 z135 st135 hQ135
      subst l135 y135 z135
      obtain ⟨rfl, N135q, P135_0, P135_1, P135_2, P135_3, P135_4, P135_5, P135_6⟩ := hQ135
      have N135 := Fr.app N128 N135q
      have f136 : Old Z n0 T135.heap := f129.keep P135_0 (allS gn_b102 (allS gn_dd_114 (allS gn_tt_114 all0)))
      have f137 : Exa Z T135.heap b102 "holdfast/CountedIds$Batch" := f130.keep P135_0
      have f138 : Arv Z T135.heap d_110 kd_110 (.array .long) (64 : Int32) [(.ref dd_114)] .null := f131.keep P135_0 (ninS (Ne.symm ne_b102_d_110) (ninS ne_d_110_dd_114 (ninS ne_d_110_tt_114 nin0)))
      have f139 : Arv Z T135.heap t_110 kt_110 (.array .int) (64 : Int32) [(.ref tt_114)] .null := f132.keep P135_0 (ninS (Ne.symm ne_b102_t_110) (ninS ne_t_110_dd_114 (ninS ne_t_110_tt_114 nin0)))
      have Zs135 : n0 ≤ T135.heap.size := Nat.le_trans Zs128 P135_0.1
      obtain ⟨cq140, kq140, q140a, q140b, q140c⟩ := isOf hZ0 rfl f137
      obtain ⟨_, _, ⟨T140, L140, k140, n140⟩, -, X140, ⟨Lc140, hQ140, l140, y140, z140⟩, st140⟩ := X135.virtualBack hx (y := (⟨"holdfast/CountedIds$Batch", "tag", "(I)I"⟩ : MethodName)) (z := (⟨"holdfast/CountedIds$Batch", "tag", "(I)I"⟩ : MethodName)) hown0 (mvT hZ0 (hw _ (List.mem_of_getElem? (i := 42) rfl))) (mvT hZ0 (hw _ (List.mem_of_getElem? (i := 43) rfl))) (notFace_of_selects (args := #[]) (mvT hZ0 (hw _ (List.mem_of_getElem? (i := 45) rfl)))) (mvT hZ0 (hw _ (List.mem_of_getElem? (i := 45) rfl))) (mvT hZ0 (hw _ (List.mem_of_getElem? (i := 44) rfl))) (by decide) (backOf (W := 0) (rm5 l Z a0 hw [] b102 (0 : Int32) t_110 kt_110 tt_114 (own_up (own_up (own_up own_none (0 : Int32) p1) (1 : Int32) p2) (0 : Int32) p4) p4 T135.heap n0 Zs135 f136 pf0 P135_2 f139 P135_6 (by decide) (by decide) (by decide) rfl) hZ0 (hw _ (List.mem_of_getElem? (i := 46) rfl)) (hw _ (List.mem_of_getElem? (i := 2) rfl)) (by decide) (by decide)) q140a q140c (g := (mkF m 194 #[.val (.int p1), .val (.int p2), .val (.int p3), .val (.int p4), .val (.long q5), .second, .val (.int p6), .val (.ref b102), .val (.int (1 : Int32)), .val (.int (2 : Int32)), .val (.int (1 : Int32))] [(.int (0 : Int32)), (.ref b102)])) rfl (by rw [hml]; rfl) (Steps.refl _) (argsL := [(.int (0 : Int32))]) (rest := []) (lenOf pd_3 rfl) rfl (by show 2 * 0 + _ ≤ _; exact Nat.le_of_eq rfl) (hb hby at_194) (fun _ _ => ⟨rfl, rfl, (by decide : 7 + 0 ≤ _), (by decide : 33030 + 0 ≤ _)⟩)
      dsimp only [Pt.U, Pt.locs, Pt.cells, Pt.slots] at X140 l140 y140 z140 st140 hQ140
      subst l140 y140 z140
      obtain ⟨rfl, N140q, P140_0⟩ := hQ140
      have N140 := Fr.app N135 N140q
      obtain ⟨fs, hr, hrun, hended, hW, hsame⟩ := X140.leave (v := some (.int (1 : Int32))) (fun h => by rw [Bd.returns] at h; cases h) hlk
      refine ⟨_, _, pre0 _ ?_, hrun, hended, _, _, rfl, ?_, ⟨_, rfl⟩, hW, hsame.mono (by decide) (by decide)⟩
      · refine pr126 _ ?_
        show Steps p.tables e below (T125.setTop (mkF m 170 #[.val (.int p1), .val (.int p2), .val (.int p3), .val (.int p4), .val (.long q5), .second, .val (.int p6), .val (.ref b102), .val (.int (1 : Int32)), .val (.int (2 : Int32)), .val (.int (1 : Int32))] [(.int (p6 &&& (4 : Int32)))])) _
        refine XS.ifNo X125.here hx rfl (hb hby at_170) rfl ((if0 _ _).trans (feq hc127).1) ?_
        show Steps p.tables e below (T125.setTop (mkF m 173 #[.val (.int p1), .val (.int p2), .val (.int p3), .val (.int p4), .val (.long q5), .second, .val (.int p6), .val (.ref b102), .val (.int (1 : Int32)), .val (.int (2 : Int32)), .val (.int (1 : Int32))] [])) _
        refine XS.aload X125.here hx rfl (hb hby at_173) rfl rfl ?_
        show Steps p.tables e below (T125.setTop (mkF m 175 #[.val (.int p1), .val (.int p2), .val (.int p3), .val (.int p4), .val (.long q5), .second, .val (.int p6), .val (.ref b102), .val (.int (1 : Int32)), .val (.int (2 : Int32)), .val (.int (1 : Int32))] [(.ref b102)])) _
        refine st128.trans ?_
        show Steps p.tables e below (T128.setTop (mkF m 178 #[.val (.int p1), .val (.int p2), .val (.int p3), .val (.int p4), .val (.long q5), .second, .val (.int p6), .val (.ref b102), .val (.int (1 : Int32)), .val (.int (2 : Int32)), .val (.int (1 : Int32))] [])) _
        refine XS.aload X128.here hx rfl (hb hby at_178) rfl rfl ?_
        show Steps p.tables e below (T128.setTop (mkF m 180 #[.val (.int p1), .val (.int p2), .val (.int p3), .val (.int p4), .val (.long q5), .second, .val (.int p6), .val (.ref b102), .val (.int (1 : Int32)), .val (.int (2 : Int32)), .val (.int (1 : Int32))] [(.ref b102)])) _
        refine XS.lload X128.here hx rfl (hb hby at_180) rfl ?_
        show Steps p.tables e below (T128.setTop (mkF m 182 #[.val (.int p1), .val (.int p2), .val (.int p3), .val (.int p4), .val (.long q5), .second, .val (.int p6), .val (.ref b102), .val (.int (1 : Int32)), .val (.int (2 : Int32)), .val (.int (1 : Int32))] [(.long q5), (.ref b102)])) _
        refine XS.iloadN X128.here hx rfl (hb hby at_182) rfl ?_
        show Steps p.tables e below (T128.setTop (mkF m 183 #[.val (.int p1), .val (.int p2), .val (.int p3), .val (.int p4), .val (.long q5), .second, .val (.int p6), .val (.ref b102), .val (.int (1 : Int32)), .val (.int (2 : Int32)), .val (.int (1 : Int32))] [(.int p4), (.long q5), (.ref b102)])) _
        refine st135.trans ?_
        show Steps p.tables e below (T135.setTop (mkF m 186 #[.val (.int p1), .val (.int p2), .val (.int p3), .val (.int p4), .val (.long q5), .second, .val (.int p6), .val (.ref b102), .val (.int (1 : Int32)), .val (.int (2 : Int32)), .val (.int (1 : Int32))] [])) _
        refine XS.iload X135.here hx rfl (hb hby at_186) rfl ?_
        show Steps p.tables e below (T135.setTop (mkF m 188 #[.val (.int p1), .val (.int p2), .val (.int p3), .val (.int p4), .val (.long q5), .second, .val (.int p6), .val (.ref b102), .val (.int (1 : Int32)), .val (.int (2 : Int32)), .val (.int (1 : Int32))] [(.int (1 : Int32))])) _
        refine XS.ifNo X135.here hx rfl (hb hby at_188) rfl ((if0 _ _).trans (feq (by decide : ¬ ((1 : Int32) = (0 : Int32)))).1) ?_
        show Steps p.tables e below (T135.setTop (mkF m 191 #[.val (.int p1), .val (.int p2), .val (.int p3), .val (.int p4), .val (.long q5), .second, .val (.int p6), .val (.ref b102), .val (.int (1 : Int32)), .val (.int (2 : Int32)), .val (.int (1 : Int32))] [])) _
        refine XS.aload X135.here hx rfl (hb hby at_191) rfl rfl ?_
        show Steps p.tables e below (T135.setTop (mkF m 193 #[.val (.int p1), .val (.int p2), .val (.int p3), .val (.int p4), .val (.long q5), .second, .val (.int p6), .val (.ref b102), .val (.int (1 : Int32)), .val (.int (2 : Int32)), .val (.int (1 : Int32))] [(.ref b102)])) _
        refine XS.iconst X135.here hx rfl (hb hby at_193) ?_
        show Steps p.tables e below (T135.setTop (mkF m 194 #[.val (.int p1), .val (.int p2), .val (.int p3), .val (.int p4), .val (.long q5), .second, .val (.int p6), .val (.ref b102), .val (.int (1 : Int32)), .val (.int (2 : Int32)), .val (.int (1 : Int32))] [(.int (0 : Int32)), (.ref b102)])) _
        refine st140.trans ?_
        show Steps p.tables e below (T140.setTop (mkF m 197 #[.val (.int p1), .val (.int p2), .val (.int p3), .val (.int p4), .val (.long q5), .second, .val (.int p6), .val (.ref b102), .val (.int (1 : Int32)), .val (.int (2 : Int32)), .val (.int (1 : Int32))] [(.int p4)])) _
        refine XS.iloadN X140.here hx rfl (hb hby at_197) rfl ?_
        show Steps p.tables e below (T140.setTop (mkF m 198 #[.val (.int p1), .val (.int p2), .val (.int p3), .val (.int p4), .val (.long q5), .second, .val (.int p6), .val (.ref b102), .val (.int (1 : Int32)), .val (.int (2 : Int32)), .val (.int (1 : Int32))] [(.int p4), (.int p4)])) _
        refine XS.icmpNo X140.here hx rfl (hb hby at_198) rfl (teq (rfl : p4 = p4)).2 ?_
        show Steps p.tables e below (T140.setTop (mkF m 201 #[.val (.int p1), .val (.int p2), .val (.int p3), .val (.int p4), .val (.long q5), .second, .val (.int p6), .val (.ref b102), .val (.int (1 : Int32)), .val (.int (2 : Int32)), .val (.int (1 : Int32))] [])) _
        refine XS.iconst X140.here hx rfl (hb hby at_201) ?_
        show Steps p.tables e below (T140.setTop (mkF m 202 #[.val (.int p1), .val (.int p2), .val (.int p3), .val (.int p4), .val (.long q5), .second, .val (.int p6), .val (.ref b102), .val (.int (1 : Int32)), .val (.int (2 : Int32)), .val (.int (1 : Int32))] [(.int (1 : Int32))])) _
        refine XS.goto X140.here hx rfl (pc0 := 202) (pc' := 206) rfl (hb hby at_202) (by decide) (by decide) ?_
        show Steps p.tables e below (T140.setTop (mkF m 206 #[.val (.int p1), .val (.int p2), .val (.int p3), .val (.int p4), .val (.long q5), .second, .val (.int p6), .val (.ref b102), .val (.int (1 : Int32)), .val (.int (2 : Int32)), .val (.int (1 : Int32))] [(.int (1 : Int32))])) _
        refine XS.istore X140.here hx rfl (hb hby at_206) rfl (l' := #[.val (.int p1), .val (.int p2), .val (.int p3), .val (.int p4), .val (.long q5), .second, .val (.int p6), .val (.ref b102), .val (.int (1 : Int32)), .val (.int (2 : Int32)), .val (.int (1 : Int32))]) rfl ?_
        show Steps p.tables e below (T140.setTop (mkF m 208 #[.val (.int p1), .val (.int p2), .val (.int p3), .val (.int p4), .val (.long q5), .second, .val (.int p6), .val (.ref b102), .val (.int (1 : Int32)), .val (.int (2 : Int32)), .val (.int (1 : Int32))] [])) _
        refine XS.iload X140.here hx rfl (hb hby at_208) rfl ?_
        show Steps p.tables e below (T140.setTop (mkF m 210 #[.val (.int p1), .val (.int p2), .val (.int p3), .val (.int p4), .val (.long q5), .second, .val (.int p6), .val (.ref b102), .val (.int (1 : Int32)), .val (.int (2 : Int32)), .val (.int (1 : Int32))] [(.int (1 : Int32))])) _
        exact retN X140 hx (t := .boolean) Bd.returns (by simp) (hb hby at_210) hr
      · show Q0 Z p1 p2 p3 p4 q5 p6 h0 n0 _ T140.heap _
        rw [P140_0]
        exact ⟨rfl, N140⟩
  · by_cases hc141 : (p6 &&& (3 : Int32)) = (2 : Int32)
    · obtain ⟨T142, h142, X142, e142, E142, A142, D142, -, st142⟩ := newO X0 hx hZ0 hown0 (hw _ (List.mem_of_getElem? (i := 0) rfl)) (hw _ (List.mem_of_getElem? (i := 1) rfl)) (hw _ (List.mem_of_getElem? (i := 2) rfl)) e0 (g := (mkF m 0 #[.val (.int p1), .val (.int p2), .val (.int p3), .val (.int p4), .val (.long q5), .second, .val (.int p6), .unset, .unset, .unset, .unset] [])) rfl (hb hby at_0) (by decide) (by decide)
      obtain ⟨b142, g142⟩ : ∃ z, z = h0.size := ⟨_, rfl⟩
      rw [← g142] at A142 D142 st142
      have gn_b142 : n0 ≤ b142 := Nat.le_trans Z0 (Nat.le_of_eq g142.symm)
      have f143 : Old Z n0 h142 := O0.ext E142
      have Zs142 : n0 ≤ h142.size := Nat.le_trans Z0 E142.1
      have f144 : Fld Z h142 b142 "holdfast/CountedIds$Batch" "digests" "[[J" .null := D142 (Or.inl (hw _ (List.mem_of_getElem? (i := 12) rfl))) (ty := (.array (.array .long))) (by decide)
      have f145 : Fld Z h142 b142 "holdfast/CountedIds$Batch" "tags" "[[I" .null := D142 (Or.inl (hw _ (List.mem_of_getElem? (i := 16) rfl))) (ty := (.array (.array .int))) (by decide)
      have f146 : Fld Z h142 b142 "holdfast/CountedIds$Batch" "spareDigests" "[[J" .null := D142 (Or.inl (hw _ (List.mem_of_getElem? (i := 18) rfl))) (ty := (.array (.array .long))) (by decide)
      have f147 : Fld Z h142 b142 "holdfast/CountedIds$Batch" "spareTags" "[[I" .null := D142 (Or.inl (hw _ (List.mem_of_getElem? (i := 20) rfl))) (ty := (.array (.array .int))) (by decide)
      have f148 : Fld Z h142 b142 "holdfast/CountedIds$Batch" "sorted" "Z" (.int (0 : Int32)) := D142 (Or.inl (hw _ (List.mem_of_getElem? (i := 22) rfl))) (ty := .boolean) (by decide)
      have f149 : Fld Z h142 b142 "holdfast/CountedIds$Batch" "size" "I" (.int (0 : Int32)) := D142 (Or.inl (hw _ (List.mem_of_getElem? (i := 29) rfl))) (ty := .int) (by decide)
      obtain ⟨_, _, ⟨T150, L150, k150, n150⟩, -, X150, ⟨Lc150, hQ150, l150, y150, z150⟩, st150⟩ := X142.specialBack hx (y := (⟨"holdfast/CountedIds$Batch", "<init>", "()V"⟩ : MethodName)) rfl hown0 (mvT hZ0 (hw _ (List.mem_of_getElem? (i := 3) rfl))) (mvT hZ0 (hw _ (List.mem_of_getElem? (i := 4) rfl))) (mvT hZ0 (hw _ (List.mem_of_getElem? (i := 5) rfl))) (by decide) (backOf (W := 1) (rm1 l Z a0 hw [] b142 h142 n0 Zs142 A142 gn_b142 f144 f145 f146 f147 f148 f149) hZ0 (hw _ (List.mem_of_getElem? (i := 5) rfl)) (hw _ (List.mem_of_getElem? (i := 2) rfl)) (by decide) (by decide)) (g := (mkF m 4 #[.val (.int p1), .val (.int p2), .val (.int p3), .val (.int p4), .val (.long q5), .second, .val (.int p6), .unset, .unset, .unset, .unset] [(.ref b142), (.ref b142)])) rfl (by rw [hml]; rfl) (Steps.refl _) (a := b142) (argsL := []) (rest := [(.ref b142)]) (lenOf pd_1 rfl) rfl (by show 2 * 0 + _ ≤ _; exact Nat.le_of_eq rfl) (hb hby at_4) (fun _ _ => ⟨rfl, e142, (by decide : 1 + 4 ≤ _), (by decide : 6 + 256 ≤ _)⟩)
      dsimp only [Pt.U, Pt.locs, Pt.cells, Pt.slots] at X150 l150 y150 z150 st150 hQ150
      subst l150 y150 z150
      obtain ⟨d_150, t_150, kd_150, kt_150, rfl, N150q, P150_0, P150_1, P150_2, P150_3, P150_4, P150_5, P150_6, P150_7, P150_8, P150_9, P150_10, P150_11⟩ := hQ150
      have N150 := Fr.app N0 N150q
      have ne_b142_d_150 : b142 ≠ d_150 := Nat.ne_of_lt (Nat.lt_of_lt_of_le A142.lt P150_1)
      have gn_d_150 : n0 ≤ d_150 := Nat.le_trans Zs142 P150_1
      have ne_b142_t_150 : b142 ≠ t_150 := Nat.ne_of_lt (Nat.lt_of_lt_of_le A142.lt P150_2)
      have gn_t_150 : n0 ≤ t_150 := Nat.le_trans Zs142 P150_2
      have f151 : Old Z n0 T150.heap := f143.keep P150_0 (allS gn_b142 all0)
      have f152 : Exa Z T150.heap b142 "holdfast/CountedIds$Batch" := A142.keep P150_0
      have Zs150 : n0 ≤ T150.heap.size := Nat.le_trans Zs142 P150_0.1
      have cf153 : ((2 : Int32) + (1 : Int32)) = (3 : Int32) := by decide
      obtain ⟨cq154, kq154, q154a, q154b, q154c⟩ := isOf hZ0 rfl f152
      obtain ⟨_, _, ⟨T154, L154, k154, n154⟩, -, X154, ⟨Lc154, hQ154, l154, y154, z154⟩, st154⟩ := X150.virtualBack hx (y := (⟨"holdfast/CountedIds$Batch", "add", "(JI)V"⟩ : MethodName)) (z := (⟨"holdfast/CountedIds$Batch", "add", "(JI)V"⟩ : MethodName)) hown0 (mvT hZ0 (hw _ (List.mem_of_getElem? (i := 23) rfl))) (mvT hZ0 (hw _ (List.mem_of_getElem? (i := 24) rfl))) (notFace_of_selects (args := #[]) (mvT hZ0 (hw _ (List.mem_of_getElem? (i := 26) rfl)))) (mvT hZ0 (hw _ (List.mem_of_getElem? (i := 26) rfl))) (mvT hZ0 (hw _ (List.mem_of_getElem? (i := 25) rfl))) (by decide) (backOf (W := 0) (rm3z l Z a0 hw [] b142 q5 p1 d_150 t_150 kd_150 kt_150 (1 : Int32) T150.heap n0 Zs150 f151 pf0 f152 gn_b142 gn_d_150 gn_t_150 ne_b142_d_150 ne_b142_t_150 P150_3 P150_4 P150_5 P150_6 P150_7 P150_8 P150_9 P150_10 P150_11) hZ0 (hw _ (List.mem_of_getElem? (i := 27) rfl)) (hw _ (List.mem_of_getElem? (i := 2) rfl)) (by decide) (by decide)) q154a q154c (g := (mkF m 36 #[.val (.int p1), .val (.int p2), .val (.int p3), .val (.int p4), .val (.long q5), .second, .val (.int p6), .val (.ref b142), .val (.int (2 : Int32)), .val (.int (3 : Int32)), .unset] [(.int p1), (.long q5), (.ref b142)])) rfl (by rw [hml]; rfl) (Steps.refl _) (argsL := [(.long q5), (.int p1)]) (rest := []) (lenOf pd_2 rfl) rfl (by show 2 * 0 + _ ≤ _; exact Nat.le_of_eq rfl) (hb hby at_36) (fun _ _ => ⟨rfl, rfl, (by decide : 5 + 2 ≤ _), (by decide : 262 + 32768 ≤ _)⟩)
      dsimp only [Pt.U, Pt.locs, Pt.cells, Pt.slots] at X154 l154 y154 z154 st154 hQ154
      subst l154 y154 z154
      obtain ⟨dd_154, tt_154, rfl, N154q, P154_0, P154_1, P154_2, P154_3, P154_4, P154_5, P154_6, P154_7, P154_8, P154_9, P154_10, P154_11⟩ := hQ154
      have N154 := Fr.app N150 N154q
      have ne_b142_dd_154 : b142 ≠ dd_154 := Nat.ne_of_lt (Nat.lt_of_lt_of_le f152.lt P154_1)
      have ne_d_150_dd_154 : d_150 ≠ dd_154 := Nat.ne_of_lt (Nat.lt_of_lt_of_le P150_8.lt P154_1)
      have ne_t_150_dd_154 : t_150 ≠ dd_154 := Nat.ne_of_lt (Nat.lt_of_lt_of_le P150_9.lt P154_1)
      have gn_dd_154 : n0 ≤ dd_154 := Nat.le_trans Zs150 P154_1
      have ne_b142_tt_154 : b142 ≠ tt_154 := Nat.ne_of_lt (Nat.lt_of_lt_of_le f152.lt P154_2)
      have ne_d_150_tt_154 : d_150 ≠ tt_154 := Nat.ne_of_lt (Nat.lt_of_lt_of_le P150_8.lt P154_2)
      have ne_t_150_tt_154 : t_150 ≠ tt_154 := Nat.ne_of_lt (Nat.lt_of_lt_of_le P150_9.lt P154_2)
      have gn_tt_154 : n0 ≤ tt_154 := Nat.le_trans Zs150 P154_2
      have f155 : Old Z n0 T154.heap := f151.keep P154_0 (allS gn_b142 (allS gn_d_150 (allS gn_t_150 all0)))
      have f156 : Exa Z T154.heap b142 "holdfast/CountedIds$Batch" := f152.keep P154_0
      have Zs154 : n0 ≤ T154.heap.size := Nat.le_trans Zs150 P154_0.1
      obtain ⟨cq157, kq157, q157a, q157b, q157c⟩ := isOf hZ0 rfl f156
      obtain ⟨_, _, ⟨T157, L157, k157, n157⟩, -, X157, ⟨Lc157, hQ157, l157, y157, z157⟩, st157⟩ := X154.virtualBack hx (y := (⟨"holdfast/CountedIds$Batch", "add", "(JI)V"⟩ : MethodName)) (z := (⟨"holdfast/CountedIds$Batch", "add", "(JI)V"⟩ : MethodName)) hown0 (mvT hZ0 (hw _ (List.mem_of_getElem? (i := 23) rfl))) (mvT hZ0 (hw _ (List.mem_of_getElem? (i := 24) rfl))) (notFace_of_selects (args := #[]) (mvT hZ0 (hw _ (List.mem_of_getElem? (i := 26) rfl)))) (mvT hZ0 (hw _ (List.mem_of_getElem? (i := 26) rfl))) (mvT hZ0 (hw _ (List.mem_of_getElem? (i := 25) rfl))) (by decide) (backOf (W := 0) (rm3n l Z a0 hw [] b142 (q5 ^^^ (-1 : Int64)) p2 d_150 t_150 kd_150 kt_150 (0 : Int32) dd_154 tt_154 (own_up own_none (0 : Int32) p1) (1 : Int32) (2 : Int32) T154.heap n0 Zs154 f155 pf0 f156 gn_b142 gn_d_150 gn_t_150 ne_b142_d_150 ne_b142_t_150 P150_3 P154_4 P154_5 P154_6 P154_7 P154_8 P154_9 P154_10 P154_11 P154_3 ne_t_150_dd_154 ne_d_150_dd_154 ne_d_150_tt_154 ne_t_150_tt_154 ne_b142_dd_154 ne_b142_tt_154 gn_dd_154 gn_tt_154 (by decide) (by decide) (by decide) (by decide) (by decide)) hZ0 (hw _ (List.mem_of_getElem? (i := 27) rfl)) (hw _ (List.mem_of_getElem? (i := 2) rfl)) (by decide) (by decide)) q157a q157c (g := (mkF m 54 #[.val (.int p1), .val (.int p2), .val (.int p3), .val (.int p4), .val (.long q5), .second, .val (.int p6), .val (.ref b142), .val (.int (2 : Int32)), .val (.int (3 : Int32)), .unset] [(.int p2), (.long (q5 ^^^ (-1 : Int64))), (.ref b142)])) rfl (by rw [hml]; rfl) (Steps.refl _) (argsL := [(.long (q5 ^^^ (-1 : Int64))), (.int p2)]) (rest := []) (lenOf pd_2 rfl) rfl (by show 2 * 0 + _ ≤ _; exact Nat.le_of_eq rfl) (hb hby at_54) (fun _ _ => ⟨rfl, rfl, (by decide : 7 + 0 ≤ _), (by decide : 33030 + 0 ≤ _)⟩)
      dsimp only [Pt.U, Pt.locs, Pt.cells, Pt.slots] at X157 l157 y157 z157 st157 hQ157
      subst l157 y157 z157
      obtain ⟨rfl, N157q, P157_0, P157_1, P157_2, P157_3, P157_4, P157_5, P157_6⟩ := hQ157
      have N157 := Fr.app N154 N157q
      have f158 : Old Z n0 T157.heap := f155.keep P157_0 (allS gn_b142 (allS gn_dd_154 (allS gn_tt_154 all0)))
      have f159 : Exa Z T157.heap b142 "holdfast/CountedIds$Batch" := f156.keep P157_0
      have f160 : Arv Z T157.heap d_150 kd_150 (.array .long) (64 : Int32) [(.ref dd_154)] .null := P154_8.keep P157_0 (ninS (Ne.symm ne_b142_d_150) (ninS ne_d_150_dd_154 (ninS ne_d_150_tt_154 nin0)))
      have f161 : Arv Z T157.heap t_150 kt_150 (.array .int) (64 : Int32) [(.ref tt_154)] .null := P154_9.keep P157_0 (ninS (Ne.symm ne_b142_t_150) (ninS ne_t_150_dd_154 (ninS ne_t_150_tt_154 nin0)))
      have Zs157 : n0 ≤ T157.heap.size := Nat.le_trans Zs154 P157_0.1
      obtain ⟨cq162, kq162, q162a, q162b, q162c⟩ := isOf hZ0 rfl f159
      obtain ⟨_, _, ⟨T162, L162, k162, n162⟩, -, X162, ⟨Lc162, hQ162, l162, y162, z162⟩, st162⟩ := X157.virtualBack hx (y := (⟨"holdfast/CountedIds$Batch", "add", "(JI)V"⟩ : MethodName)) (z := (⟨"holdfast/CountedIds$Batch", "add", "(JI)V"⟩ : MethodName)) hown0 (mvT hZ0 (hw _ (List.mem_of_getElem? (i := 23) rfl))) (mvT hZ0 (hw _ (List.mem_of_getElem? (i := 24) rfl))) (notFace_of_selects (args := #[]) (mvT hZ0 (hw _ (List.mem_of_getElem? (i := 26) rfl)))) (mvT hZ0 (hw _ (List.mem_of_getElem? (i := 26) rfl))) (mvT hZ0 (hw _ (List.mem_of_getElem? (i := 25) rfl))) (by decide) (backOf (W := 0) (rm3n l Z a0 hw [] b142 (q5 ^^^ (6148914691236517205 : Int64)) p3 d_150 t_150 kd_150 kt_150 (0 : Int32) dd_154 tt_154 (own_up (own_up own_none (0 : Int32) p1) (1 : Int32) p2) (2 : Int32) (3 : Int32) T157.heap n0 Zs157 f158 pf0 f159 gn_b142 gn_d_150 gn_t_150 ne_b142_d_150 ne_b142_t_150 P150_3 P157_1 P157_2 P157_3 P157_4 f160 f161 P157_5 P157_6 P154_3 ne_t_150_dd_154 ne_d_150_dd_154 ne_d_150_tt_154 ne_t_150_tt_154 ne_b142_dd_154 ne_b142_tt_154 gn_dd_154 gn_tt_154 (by decide) (by decide) (by decide) (by decide) (by decide)) hZ0 (hw _ (List.mem_of_getElem? (i := 27) rfl)) (hw _ (List.mem_of_getElem? (i := 2) rfl)) (by decide) (by decide)) q162a q162c (g := (mkF m 72 #[.val (.int p1), .val (.int p2), .val (.int p3), .val (.int p4), .val (.long q5), .second, .val (.int p6), .val (.ref b142), .val (.int (2 : Int32)), .val (.int (3 : Int32)), .unset] [(.int p3), (.long (q5 ^^^ (6148914691236517205 : Int64))), (.ref b142)])) rfl (by rw [hml]; rfl) (Steps.refl _) (argsL := [(.long (q5 ^^^ (6148914691236517205 : Int64))), (.int p3)]) (rest := []) (lenOf pd_2 rfl) rfl (by show 2 * 0 + _ ≤ _; exact Nat.le_of_eq rfl) (hb hby at_72) (fun _ _ => ⟨rfl, rfl, (by decide : 7 + 0 ≤ _), (by decide : 33030 + 0 ≤ _)⟩)
      dsimp only [Pt.U, Pt.locs, Pt.cells, Pt.slots] at X162 l162 y162 z162 st162 hQ162
      subst l162 y162 z162
      obtain ⟨rfl, N162q, P162_0, P162_1, P162_2, P162_3, P162_4, P162_5, P162_6⟩ := hQ162
      have N162 := Fr.app N157 N162q
      have f163 : Old Z n0 T162.heap := f158.keep P162_0 (allS gn_b142 (allS gn_dd_154 (allS gn_tt_154 all0)))
      have f164 : Exa Z T162.heap b142 "holdfast/CountedIds$Batch" := f159.keep P162_0
      have f165 : Arv Z T162.heap d_150 kd_150 (.array .long) (64 : Int32) [(.ref dd_154)] .null := f160.keep P162_0 (ninS (Ne.symm ne_b142_d_150) (ninS ne_d_150_dd_154 (ninS ne_d_150_tt_154 nin0)))
      have f166 : Arv Z T162.heap t_150 kt_150 (.array .int) (64 : Int32) [(.ref tt_154)] .null := f161.keep P162_0 (ninS (Ne.symm ne_b142_t_150) (ninS ne_t_150_dd_154 (ninS ne_t_150_tt_154 nin0)))
      have Zs162 : n0 ≤ T162.heap.size := Nat.le_trans Zs157 P162_0.1
      obtain ⟨cq167, kq167, q167a, q167b, q167c⟩ := isOf hZ0 rfl f164
      obtain ⟨_, _, ⟨T167, L167, k167, n167⟩, -, X167, ⟨Lc167, hQ167, l167, y167, z167⟩, st167⟩ := X162.virtualBack hx (y := (⟨"holdfast/CountedIds$Batch", "tag", "(I)I"⟩ : MethodName)) (z := (⟨"holdfast/CountedIds$Batch", "tag", "(I)I"⟩ : MethodName)) hown0 (mvT hZ0 (hw _ (List.mem_of_getElem? (i := 42) rfl))) (mvT hZ0 (hw _ (List.mem_of_getElem? (i := 43) rfl))) (notFace_of_selects (args := #[]) (mvT hZ0 (hw _ (List.mem_of_getElem? (i := 45) rfl)))) (mvT hZ0 (hw _ (List.mem_of_getElem? (i := 45) rfl))) (mvT hZ0 (hw _ (List.mem_of_getElem? (i := 44) rfl))) (by decide) (backOf (W := 0) (rm5 l Z a0 hw [] b142 (0 : Int32) t_150 kt_150 tt_154 (own_up (own_up (own_up own_none (0 : Int32) p1) (1 : Int32) p2) (2 : Int32) p3) p1 T162.heap n0 Zs162 f163 pf0 P162_2 f166 P162_6 (by decide) (by decide) (by decide) rfl) hZ0 (hw _ (List.mem_of_getElem? (i := 46) rfl)) (hw _ (List.mem_of_getElem? (i := 2) rfl)) (by decide) (by decide)) q167a q167c (g := (mkF m 78 #[.val (.int p1), .val (.int p2), .val (.int p3), .val (.int p4), .val (.long q5), .second, .val (.int p6), .val (.ref b142), .val (.int (2 : Int32)), .val (.int (3 : Int32)), .unset] [(.int (0 : Int32)), (.ref b142)])) rfl (by rw [hml]; rfl) (Steps.refl _) (argsL := [(.int (0 : Int32))]) (rest := []) (lenOf pd_3 rfl) rfl (by show 2 * 0 + _ ≤ _; exact Nat.le_of_eq rfl) (hb hby at_78) (fun _ _ => ⟨rfl, rfl, (by decide : 7 + 0 ≤ _), (by decide : 33030 + 0 ≤ _)⟩)
      dsimp only [Pt.U, Pt.locs, Pt.cells, Pt.slots] at X167 l167 y167 z167 st167 hQ167
      subst l167 y167 z167
      obtain ⟨rfl, N167q, P167_0⟩ := hQ167
      have N167 := Fr.app N162 N167q
      obtain ⟨_, _, ⟨T168, L168, k168, n168⟩, -, X168, ⟨Lc168, hQ168, l168, y168, z168⟩, st168⟩ := Jvm.LawKit.callS X167 hx (y := (⟨"holdfast/BatchTagPinLaw", "expected", "(IIII)I"⟩ : MethodName)) hown0 (mvT hZ0 (hw _ (List.mem_of_getElem? (i := 47) rfl))) (mvT hZ0 (hw _ (List.mem_of_getElem? (i := 48) rfl))) (mvT hZ0 (hw _ (List.mem_of_getElem? (i := 49) rfl))) (mvT hZ0 (hw _ (List.mem_of_getElem? (i := 50) rfl))) (by decide) (backOf (W := 1) (rm6 l Z a0 hw [] (0 : Int32) p1 p2 p3 T162.heap n0 Zs162 ) hZ0 (hw _ (List.mem_of_getElem? (i := 50) rfl)) (hw _ (List.mem_of_getElem? (i := 49) rfl)) (by decide) (by decide)) (g := (mkF m 85 #[.val (.int p1), .val (.int p2), .val (.int p3), .val (.int p4), .val (.long q5), .second, .val (.int p6), .val (.ref b142), .val (.int (2 : Int32)), .val (.int (3 : Int32)), .unset] [(.int p3), (.int p2), (.int p1), (.int (0 : Int32)), (.int p1)])) rfl (by rw [hml]; rfl) (argsL := [(.int (0 : Int32)), (.int p1), (.int p2), (.int p3)]) (rest := [(.int p1)]) (lenOf pd_4 rfl) rfl (by show 2 * 0 + _ ≤ _; exact Nat.le_of_eq rfl) (hb hby at_85) (fun _ _ => ⟨rfl, P167_0, (by decide : 7 + 0 ≤ _), (by decide : 33030 + 0 ≤ _)⟩)
      dsimp only [Pt.U, Pt.locs, Pt.cells, Pt.slots] at X168 l168 y168 z168 st168 hQ168
      subst l168 y168 z168
      obtain ⟨hv168, N168q, P168_0⟩ := hQ168
      obtain rfl := hv168.trans (congrArg (fun z => some (Value.int z)) (rfl : (own_exp (0 : Int32) p1 p2 p3) = p1))
      have N168 := Fr.app N167 N168q
      obtain ⟨cq169, kq169, q169a, q169b, q169c⟩ := isOf hZ0 P168_0 f164
      obtain ⟨_, _, ⟨T169, L169, k169, n169⟩, -, X169, ⟨Lc169, hQ169, l169, y169, z169⟩, st169⟩ := X168.virtualBack hx (y := (⟨"holdfast/CountedIds$Batch", "tag", "(I)I"⟩ : MethodName)) (z := (⟨"holdfast/CountedIds$Batch", "tag", "(I)I"⟩ : MethodName)) hown0 (mvT hZ0 (hw _ (List.mem_of_getElem? (i := 42) rfl))) (mvT hZ0 (hw _ (List.mem_of_getElem? (i := 43) rfl))) (notFace_of_selects (args := #[]) (mvT hZ0 (hw _ (List.mem_of_getElem? (i := 45) rfl)))) (mvT hZ0 (hw _ (List.mem_of_getElem? (i := 45) rfl))) (mvT hZ0 (hw _ (List.mem_of_getElem? (i := 44) rfl))) (by decide) (backOf (W := 0) (rm5 l Z a0 hw [] b142 (1 : Int32) t_150 kt_150 tt_154 (own_up (own_up (own_up own_none (0 : Int32) p1) (1 : Int32) p2) (2 : Int32) p3) p2 T162.heap n0 Zs162 f163 pf0 P162_2 f166 P162_6 (by decide) (by decide) (by decide) rfl) hZ0 (hw _ (List.mem_of_getElem? (i := 46) rfl)) (hw _ (List.mem_of_getElem? (i := 2) rfl)) (by decide) (by decide)) q169a q169c (g := (mkF m 112 #[.val (.int p1), .val (.int p2), .val (.int p3), .val (.int p4), .val (.long q5), .second, .val (.int p6), .val (.ref b142), .val (.int (2 : Int32)), .val (.int (3 : Int32)), .val (.int (1 : Int32))] [(.int (1 : Int32)), (.ref b142)])) rfl (by rw [hml]; rfl) (Steps.refl _) (argsL := [(.int (1 : Int32))]) (rest := []) (lenOf pd_3 rfl) rfl (by show 2 * 0 + _ ≤ _; exact Nat.le_of_eq rfl) (hb hby at_112) (fun _ _ => ⟨rfl, P168_0, (by decide : 7 + 0 ≤ _), (by decide : 33030 + 0 ≤ _)⟩)
      dsimp only [Pt.U, Pt.locs, Pt.cells, Pt.slots] at X169 l169 y169 z169 st169 hQ169
      subst l169 y169 z169
      obtain ⟨rfl, N169q, P169_0⟩ := hQ169
      have N169 := Fr.app N168 N169q
      obtain ⟨_, _, ⟨T170, L170, k170, n170⟩, -, X170, ⟨Lc170, hQ170, l170, y170, z170⟩, st170⟩ := Jvm.LawKit.callS X169 hx (y := (⟨"holdfast/BatchTagPinLaw", "expected", "(IIII)I"⟩ : MethodName)) hown0 (mvT hZ0 (hw _ (List.mem_of_getElem? (i := 47) rfl))) (mvT hZ0 (hw _ (List.mem_of_getElem? (i := 48) rfl))) (mvT hZ0 (hw _ (List.mem_of_getElem? (i := 49) rfl))) (mvT hZ0 (hw _ (List.mem_of_getElem? (i := 50) rfl))) (by decide) (backOf (W := 1) (rm6 l Z a0 hw [] (1 : Int32) p1 p2 p3 T162.heap n0 Zs162 ) hZ0 (hw _ (List.mem_of_getElem? (i := 50) rfl)) (hw _ (List.mem_of_getElem? (i := 49) rfl)) (by decide) (by decide)) (g := (mkF m 119 #[.val (.int p1), .val (.int p2), .val (.int p3), .val (.int p4), .val (.long q5), .second, .val (.int p6), .val (.ref b142), .val (.int (2 : Int32)), .val (.int (3 : Int32)), .val (.int (1 : Int32))] [(.int p3), (.int p2), (.int p1), (.int (1 : Int32)), (.int p2)])) rfl (by rw [hml]; rfl) (argsL := [(.int (1 : Int32)), (.int p1), (.int p2), (.int p3)]) (rest := [(.int p2)]) (lenOf pd_4 rfl) rfl (by show 2 * 0 + _ ≤ _; exact Nat.le_of_eq rfl) (hb hby at_119) (fun _ _ => ⟨rfl, P169_0, (by decide : 7 + 0 ≤ _), (by decide : 33030 + 0 ≤ _)⟩)
      dsimp only [Pt.U, Pt.locs, Pt.cells, Pt.slots] at X170 l170 y170 z170 st170 hQ170
      subst l170 y170 z170
      obtain ⟨hv170, N170q, P170_0⟩ := hQ170
      obtain rfl := hv170.trans (congrArg (fun z => some (Value.int z)) (by simp [own_exp] : (own_exp (1 : Int32) p1 p2 p3) = p2))
      have N170 := Fr.app N169 N170q
      obtain ⟨cq171, kq171, q171a, q171b, q171c⟩ := isOf hZ0 P170_0 f164
      obtain ⟨_, _, ⟨T171, L171, k171, n171⟩, -, X171, ⟨Lc171, hQ171, l171, y171, z171⟩, st171⟩ := X170.virtualBack hx (y := (⟨"holdfast/CountedIds$Batch", "tag", "(I)I"⟩ : MethodName)) (z := (⟨"holdfast/CountedIds$Batch", "tag", "(I)I"⟩ : MethodName)) hown0 (mvT hZ0 (hw _ (List.mem_of_getElem? (i := 42) rfl))) (mvT hZ0 (hw _ (List.mem_of_getElem? (i := 43) rfl))) (notFace_of_selects (args := #[]) (mvT hZ0 (hw _ (List.mem_of_getElem? (i := 45) rfl)))) (mvT hZ0 (hw _ (List.mem_of_getElem? (i := 45) rfl))) (mvT hZ0 (hw _ (List.mem_of_getElem? (i := 44) rfl))) (by decide) (backOf (W := 0) (rm5 l Z a0 hw [] b142 (2 : Int32) t_150 kt_150 tt_154 (own_up (own_up (own_up own_none (0 : Int32) p1) (1 : Int32) p2) (2 : Int32) p3) p3 T162.heap n0 Zs162 f163 pf0 P162_2 f166 P162_6 (by decide) (by decide) (by decide) rfl) hZ0 (hw _ (List.mem_of_getElem? (i := 46) rfl)) (hw _ (List.mem_of_getElem? (i := 2) rfl)) (by decide) (by decide)) q171a q171c (g := (mkF m 146 #[.val (.int p1), .val (.int p2), .val (.int p3), .val (.int p4), .val (.long q5), .second, .val (.int p6), .val (.ref b142), .val (.int (2 : Int32)), .val (.int (3 : Int32)), .val (.int (1 : Int32))] [(.int (2 : Int32)), (.ref b142)])) rfl (by rw [hml]; rfl) (Steps.refl _) (argsL := [(.int (2 : Int32))]) (rest := []) (lenOf pd_3 rfl) rfl (by show 2 * 0 + _ ≤ _; exact Nat.le_of_eq rfl) (hb hby at_146) (fun _ _ => ⟨rfl, P170_0, (by decide : 7 + 0 ≤ _), (by decide : 33030 + 0 ≤ _)⟩)
      dsimp only [Pt.U, Pt.locs, Pt.cells, Pt.slots] at X171 l171 y171 z171 st171 hQ171
      subst l171 y171 z171
      obtain ⟨rfl, N171q, P171_0⟩ := hQ171
      have N171 := Fr.app N170 N171q
      obtain ⟨_, _, ⟨T172, L172, k172, n172⟩, -, X172, ⟨Lc172, hQ172, l172, y172, z172⟩, st172⟩ := Jvm.LawKit.callS X171 hx (y := (⟨"holdfast/BatchTagPinLaw", "expected", "(IIII)I"⟩ : MethodName)) hown0 (mvT hZ0 (hw _ (List.mem_of_getElem? (i := 47) rfl))) (mvT hZ0 (hw _ (List.mem_of_getElem? (i := 48) rfl))) (mvT hZ0 (hw _ (List.mem_of_getElem? (i := 49) rfl))) (mvT hZ0 (hw _ (List.mem_of_getElem? (i := 50) rfl))) (by decide) (backOf (W := 1) (rm6 l Z a0 hw [] (2 : Int32) p1 p2 p3 T162.heap n0 Zs162 ) hZ0 (hw _ (List.mem_of_getElem? (i := 50) rfl)) (hw _ (List.mem_of_getElem? (i := 49) rfl)) (by decide) (by decide)) (g := (mkF m 153 #[.val (.int p1), .val (.int p2), .val (.int p3), .val (.int p4), .val (.long q5), .second, .val (.int p6), .val (.ref b142), .val (.int (2 : Int32)), .val (.int (3 : Int32)), .val (.int (1 : Int32))] [(.int p3), (.int p2), (.int p1), (.int (2 : Int32)), (.int p3)])) rfl (by rw [hml]; rfl) (argsL := [(.int (2 : Int32)), (.int p1), (.int p2), (.int p3)]) (rest := [(.int p3)]) (lenOf pd_4 rfl) rfl (by show 2 * 0 + _ ≤ _; exact Nat.le_of_eq rfl) (hb hby at_153) (fun _ _ => ⟨rfl, P171_0, (by decide : 7 + 0 ≤ _), (by decide : 33030 + 0 ≤ _)⟩)
      dsimp only [Pt.U, Pt.locs, Pt.cells, Pt.slots] at X172 l172 y172 z172 st172 hQ172
      subst l172 y172 z172
      obtain ⟨hv172, N172q, P172_0⟩ := hQ172
      obtain rfl := hv172.trans (congrArg (fun z => some (Value.int z)) (by simp [own_exp] : (own_exp (2 : Int32) p1 p2 p3) = p3))
      have N172 := Fr.app N171 N172q
      have pr173 : ∀ tg9, Steps p.tables e below (T172.setTop (mkF m 170 #[.val (.int p1), .val (.int p2), .val (.int p3), .val (.int p4), .val (.long q5), .second, .val (.int p6), .val (.ref b142), .val (.int (2 : Int32)), .val (.int (3 : Int32)), .val (.int (1 : Int32))] [(.int (p6 &&& (4 : Int32)))])) tg9 → Steps p.tables e below (s₁.setTop (mkF m 0 #[.val (.int p1), .val (.int p2), .val (.int p3), .val (.int p4), .val (.long q5), .second, .val (.int p6), .unset, .unset, .unset, .unset] [])) tg9 := fun tg9 kt => by
        show Steps p.tables e below (s₁.setTop (mkF m 0 #[.val (.int p1), .val (.int p2), .val (.int p3), .val (.int p4), .val (.long q5), .second, .val (.int p6), .unset, .unset, .unset, .unset] [])) _
        refine st142 _ ?_
        show Steps p.tables e below (T142.setTop (mkF m 3 #[.val (.int p1), .val (.int p2), .val (.int p3), .val (.int p4), .val (.long q5), .second, .val (.int p6), .unset, .unset, .unset, .unset] [(.ref b142)])) _
        refine XS.dup X142.here hx rfl (hb hby at_3) rfl rfl ?_
        show Steps p.tables e below (T142.setTop (mkF m 4 #[.val (.int p1), .val (.int p2), .val (.int p3), .val (.int p4), .val (.long q5), .second, .val (.int p6), .unset, .unset, .unset, .unset] [(.ref b142), (.ref b142)])) _
        refine st150.trans ?_
        show Steps p.tables e below (T150.setTop (mkF m 7 #[.val (.int p1), .val (.int p2), .val (.int p3), .val (.int p4), .val (.long q5), .second, .val (.int p6), .unset, .unset, .unset, .unset] [(.ref b142)])) _
        refine XS.astore X150.here hx rfl (hb hby at_7) rfl rfl (l' := #[.val (.int p1), .val (.int p2), .val (.int p3), .val (.int p4), .val (.long q5), .second, .val (.int p6), .val (.ref b142), .unset, .unset, .unset]) rfl ?_
        show Steps p.tables e below (T150.setTop (mkF m 9 #[.val (.int p1), .val (.int p2), .val (.int p3), .val (.int p4), .val (.long q5), .second, .val (.int p6), .val (.ref b142), .unset, .unset, .unset] [])) _
        refine XS.iload X150.here hx rfl (hb hby at_9) rfl ?_
        show Steps p.tables e below (T150.setTop (mkF m 11 #[.val (.int p1), .val (.int p2), .val (.int p3), .val (.int p4), .val (.long q5), .second, .val (.int p6), .val (.ref b142), .unset, .unset, .unset] [(.int p6)])) _
        refine XS.iconst X150.here hx rfl (hb hby at_11) ?_
        show Steps p.tables e below (T150.setTop (mkF m 12 #[.val (.int p1), .val (.int p2), .val (.int p3), .val (.int p4), .val (.long q5), .second, .val (.int p6), .val (.ref b142), .unset, .unset, .unset] [(.int (3 : Int32)), (.int p6)])) _
        refine XS.iand X150.here hx rfl (hb hby at_12) rfl ?_
        show Steps p.tables e below (T150.setTop (mkF m 13 #[.val (.int p1), .val (.int p2), .val (.int p3), .val (.int p4), .val (.long q5), .second, .val (.int p6), .val (.ref b142), .unset, .unset, .unset] [(.int (p6 &&& (3 : Int32)))])) _
        rw [hc141]
        show Steps p.tables e below (T150.setTop (mkF m 13 #[.val (.int p1), .val (.int p2), .val (.int p3), .val (.int p4), .val (.long q5), .second, .val (.int p6), .val (.ref b142), .unset, .unset, .unset] [(.int (2 : Int32))])) _
        refine XS.istore X150.here hx rfl (hb hby at_13) rfl (l' := #[.val (.int p1), .val (.int p2), .val (.int p3), .val (.int p4), .val (.long q5), .second, .val (.int p6), .val (.ref b142), .val (.int (2 : Int32)), .unset, .unset]) rfl ?_
        show Steps p.tables e below (T150.setTop (mkF m 15 #[.val (.int p1), .val (.int p2), .val (.int p3), .val (.int p4), .val (.long q5), .second, .val (.int p6), .val (.ref b142), .val (.int (2 : Int32)), .unset, .unset] [])) _
        refine XS.iload X150.here hx rfl (hb hby at_15) rfl ?_
        show Steps p.tables e below (T150.setTop (mkF m 17 #[.val (.int p1), .val (.int p2), .val (.int p3), .val (.int p4), .val (.long q5), .second, .val (.int p6), .val (.ref b142), .val (.int (2 : Int32)), .unset, .unset] [(.int (2 : Int32))])) _
        refine XS.iconst X150.here hx rfl (hb hby at_17) ?_
        show Steps p.tables e below (T150.setTop (mkF m 18 #[.val (.int p1), .val (.int p2), .val (.int p3), .val (.int p4), .val (.long q5), .second, .val (.int p6), .val (.ref b142), .val (.int (2 : Int32)), .unset, .unset] [(.int (3 : Int32)), (.int (2 : Int32))])) _
        refine XS.icmpYes X150.here hx rfl (pc0 := 18) (pc' := 25) rfl (hb hby at_18) rfl (feq (by decide : ¬ ((2 : Int32) = (3 : Int32)))).2 (by decide) (by decide) ?_
        show Steps p.tables e below (T150.setTop (mkF m 25 #[.val (.int p1), .val (.int p2), .val (.int p3), .val (.int p4), .val (.long q5), .second, .val (.int p6), .val (.ref b142), .val (.int (2 : Int32)), .unset, .unset] [])) _
        refine XS.iload X150.here hx rfl (hb hby at_25) rfl ?_
        show Steps p.tables e below (T150.setTop (mkF m 27 #[.val (.int p1), .val (.int p2), .val (.int p3), .val (.int p4), .val (.long q5), .second, .val (.int p6), .val (.ref b142), .val (.int (2 : Int32)), .unset, .unset] [(.int (2 : Int32))])) _
        refine XS.iconst X150.here hx rfl (hb hby at_27) ?_
        show Steps p.tables e below (T150.setTop (mkF m 28 #[.val (.int p1), .val (.int p2), .val (.int p3), .val (.int p4), .val (.long q5), .second, .val (.int p6), .val (.ref b142), .val (.int (2 : Int32)), .unset, .unset] [(.int (1 : Int32)), (.int (2 : Int32))])) _
        refine XS.iadd X150.here hx rfl (hb hby at_28) rfl ?_
        show Steps p.tables e below (T150.setTop (mkF m 29 #[.val (.int p1), .val (.int p2), .val (.int p3), .val (.int p4), .val (.long q5), .second, .val (.int p6), .val (.ref b142), .val (.int (2 : Int32)), .unset, .unset] [(.int ((2 : Int32) + (1 : Int32)))])) _
        rw [cf153]
        show Steps p.tables e below (T150.setTop (mkF m 29 #[.val (.int p1), .val (.int p2), .val (.int p3), .val (.int p4), .val (.long q5), .second, .val (.int p6), .val (.ref b142), .val (.int (2 : Int32)), .unset, .unset] [(.int (3 : Int32))])) _
        refine XS.istore X150.here hx rfl (hb hby at_29) rfl (l' := #[.val (.int p1), .val (.int p2), .val (.int p3), .val (.int p4), .val (.long q5), .second, .val (.int p6), .val (.ref b142), .val (.int (2 : Int32)), .val (.int (3 : Int32)), .unset]) rfl ?_
        show Steps p.tables e below (T150.setTop (mkF m 31 #[.val (.int p1), .val (.int p2), .val (.int p3), .val (.int p4), .val (.long q5), .second, .val (.int p6), .val (.ref b142), .val (.int (2 : Int32)), .val (.int (3 : Int32)), .unset] [])) _
        refine XS.aload X150.here hx rfl (hb hby at_31) rfl rfl ?_
        show Steps p.tables e below (T150.setTop (mkF m 33 #[.val (.int p1), .val (.int p2), .val (.int p3), .val (.int p4), .val (.long q5), .second, .val (.int p6), .val (.ref b142), .val (.int (2 : Int32)), .val (.int (3 : Int32)), .unset] [(.ref b142)])) _
        refine XS.lload X150.here hx rfl (hb hby at_33) rfl ?_
        show Steps p.tables e below (T150.setTop (mkF m 35 #[.val (.int p1), .val (.int p2), .val (.int p3), .val (.int p4), .val (.long q5), .second, .val (.int p6), .val (.ref b142), .val (.int (2 : Int32)), .val (.int (3 : Int32)), .unset] [(.long q5), (.ref b142)])) _
        refine XS.iloadN X150.here hx rfl (hb hby at_35) rfl ?_
        show Steps p.tables e below (T150.setTop (mkF m 36 #[.val (.int p1), .val (.int p2), .val (.int p3), .val (.int p4), .val (.long q5), .second, .val (.int p6), .val (.ref b142), .val (.int (2 : Int32)), .val (.int (3 : Int32)), .unset] [(.int p1), (.long q5), (.ref b142)])) _
        refine st154.trans ?_
        show Steps p.tables e below (T154.setTop (mkF m 39 #[.val (.int p1), .val (.int p2), .val (.int p3), .val (.int p4), .val (.long q5), .second, .val (.int p6), .val (.ref b142), .val (.int (2 : Int32)), .val (.int (3 : Int32)), .unset] [])) _
        refine XS.iload X154.here hx rfl (hb hby at_39) rfl ?_
        show Steps p.tables e below (T154.setTop (mkF m 41 #[.val (.int p1), .val (.int p2), .val (.int p3), .val (.int p4), .val (.long q5), .second, .val (.int p6), .val (.ref b142), .val (.int (2 : Int32)), .val (.int (3 : Int32)), .unset] [(.int (3 : Int32))])) _
        refine XS.iconst X154.here hx rfl (hb hby at_41) ?_
        show Steps p.tables e below (T154.setTop (mkF m 42 #[.val (.int p1), .val (.int p2), .val (.int p3), .val (.int p4), .val (.long q5), .second, .val (.int p6), .val (.ref b142), .val (.int (2 : Int32)), .val (.int (3 : Int32)), .unset] [(.int (2 : Int32)), (.int (3 : Int32))])) _
        refine XS.icmpNo X154.here hx rfl (hb hby at_42) rfl (flt (by decide : ¬ ((3 : Int32) < (2 : Int32)))).1 ?_
        show Steps p.tables e below (T154.setTop (mkF m 45 #[.val (.int p1), .val (.int p2), .val (.int p3), .val (.int p4), .val (.long q5), .second, .val (.int p6), .val (.ref b142), .val (.int (2 : Int32)), .val (.int (3 : Int32)), .unset] [])) _
        refine XS.aload X154.here hx rfl (hb hby at_45) rfl rfl ?_
        show Steps p.tables e below (T154.setTop (mkF m 47 #[.val (.int p1), .val (.int p2), .val (.int p3), .val (.int p4), .val (.long q5), .second, .val (.int p6), .val (.ref b142), .val (.int (2 : Int32)), .val (.int (3 : Int32)), .unset] [(.ref b142)])) _
        refine XS.lload X154.here hx rfl (hb hby at_47) rfl ?_
        show Steps p.tables e below (T154.setTop (mkF m 49 #[.val (.int p1), .val (.int p2), .val (.int p3), .val (.int p4), .val (.long q5), .second, .val (.int p6), .val (.ref b142), .val (.int (2 : Int32)), .val (.int (3 : Int32)), .unset] [(.long q5), (.ref b142)])) _
        refine X154.ldc2J hx hown0 (mvT hZ0 (hw _ (List.mem_of_getElem? (i := 40) rfl))) (g := (mkF m 49 #[.val (.int p1), .val (.int p2), .val (.int p3), .val (.int p4), .val (.long q5), .second, .val (.int p6), .val (.ref b142), .val (.int (2 : Int32)), .val (.int (3 : Int32)), .unset] [(.long q5), (.ref b142)])) rfl (hb hby at_49) ?_
        show Steps p.tables e below (T154.setTop (mkF m 52 #[.val (.int p1), .val (.int p2), .val (.int p3), .val (.int p4), .val (.long q5), .second, .val (.int p6), .val (.ref b142), .val (.int (2 : Int32)), .val (.int (3 : Int32)), .unset] [(.long (-1 : Int64)), (.long q5), (.ref b142)])) _
        refine XS.lxor X154.here hx rfl (hb hby at_52) rfl ?_
        show Steps p.tables e below (T154.setTop (mkF m 53 #[.val (.int p1), .val (.int p2), .val (.int p3), .val (.int p4), .val (.long q5), .second, .val (.int p6), .val (.ref b142), .val (.int (2 : Int32)), .val (.int (3 : Int32)), .unset] [(.long (q5 ^^^ (-1 : Int64))), (.ref b142)])) _
        refine XS.iloadN X154.here hx rfl (hb hby at_53) rfl ?_
        show Steps p.tables e below (T154.setTop (mkF m 54 #[.val (.int p1), .val (.int p2), .val (.int p3), .val (.int p4), .val (.long q5), .second, .val (.int p6), .val (.ref b142), .val (.int (2 : Int32)), .val (.int (3 : Int32)), .unset] [(.int p2), (.long (q5 ^^^ (-1 : Int64))), (.ref b142)])) _
        refine st157.trans ?_
        show Steps p.tables e below (T157.setTop (mkF m 57 #[.val (.int p1), .val (.int p2), .val (.int p3), .val (.int p4), .val (.long q5), .second, .val (.int p6), .val (.ref b142), .val (.int (2 : Int32)), .val (.int (3 : Int32)), .unset] [])) _
        refine XS.iload X157.here hx rfl (hb hby at_57) rfl ?_
        show Steps p.tables e below (T157.setTop (mkF m 59 #[.val (.int p1), .val (.int p2), .val (.int p3), .val (.int p4), .val (.long q5), .second, .val (.int p6), .val (.ref b142), .val (.int (2 : Int32)), .val (.int (3 : Int32)), .unset] [(.int (3 : Int32))])) _
        refine XS.iconst X157.here hx rfl (hb hby at_59) ?_
        show Steps p.tables e below (T157.setTop (mkF m 60 #[.val (.int p1), .val (.int p2), .val (.int p3), .val (.int p4), .val (.long q5), .second, .val (.int p6), .val (.ref b142), .val (.int (2 : Int32)), .val (.int (3 : Int32)), .unset] [(.int (3 : Int32)), (.int (3 : Int32))])) _
        refine XS.icmpNo X157.here hx rfl (hb hby at_60) rfl (flt (by decide : ¬ ((3 : Int32) < (3 : Int32)))).1 ?_
        show Steps p.tables e below (T157.setTop (mkF m 63 #[.val (.int p1), .val (.int p2), .val (.int p3), .val (.int p4), .val (.long q5), .second, .val (.int p6), .val (.ref b142), .val (.int (2 : Int32)), .val (.int (3 : Int32)), .unset] [])) _
        refine XS.aload X157.here hx rfl (hb hby at_63) rfl rfl ?_
        show Steps p.tables e below (T157.setTop (mkF m 65 #[.val (.int p1), .val (.int p2), .val (.int p3), .val (.int p4), .val (.long q5), .second, .val (.int p6), .val (.ref b142), .val (.int (2 : Int32)), .val (.int (3 : Int32)), .unset] [(.ref b142)])) _
        refine XS.lload X157.here hx rfl (hb hby at_65) rfl ?_
        show Steps p.tables e below (T157.setTop (mkF m 67 #[.val (.int p1), .val (.int p2), .val (.int p3), .val (.int p4), .val (.long q5), .second, .val (.int p6), .val (.ref b142), .val (.int (2 : Int32)), .val (.int (3 : Int32)), .unset] [(.long q5), (.ref b142)])) _
        refine X157.ldc2J hx hown0 (mvT hZ0 (hw _ (List.mem_of_getElem? (i := 41) rfl))) (g := (mkF m 67 #[.val (.int p1), .val (.int p2), .val (.int p3), .val (.int p4), .val (.long q5), .second, .val (.int p6), .val (.ref b142), .val (.int (2 : Int32)), .val (.int (3 : Int32)), .unset] [(.long q5), (.ref b142)])) rfl (hb hby at_67) ?_
        show Steps p.tables e below (T157.setTop (mkF m 70 #[.val (.int p1), .val (.int p2), .val (.int p3), .val (.int p4), .val (.long q5), .second, .val (.int p6), .val (.ref b142), .val (.int (2 : Int32)), .val (.int (3 : Int32)), .unset] [(.long (6148914691236517205 : Int64)), (.long q5), (.ref b142)])) _
        refine XS.lxor X157.here hx rfl (hb hby at_70) rfl ?_
        show Steps p.tables e below (T157.setTop (mkF m 71 #[.val (.int p1), .val (.int p2), .val (.int p3), .val (.int p4), .val (.long q5), .second, .val (.int p6), .val (.ref b142), .val (.int (2 : Int32)), .val (.int (3 : Int32)), .unset] [(.long (q5 ^^^ (6148914691236517205 : Int64))), (.ref b142)])) _
        refine XS.iloadN X157.here hx rfl (hb hby at_71) rfl ?_
        show Steps p.tables e below (T157.setTop (mkF m 72 #[.val (.int p1), .val (.int p2), .val (.int p3), .val (.int p4), .val (.long q5), .second, .val (.int p6), .val (.ref b142), .val (.int (2 : Int32)), .val (.int (3 : Int32)), .unset] [(.int p3), (.long (q5 ^^^ (6148914691236517205 : Int64))), (.ref b142)])) _
        refine st162.trans ?_
        show Steps p.tables e below (T162.setTop (mkF m 75 #[.val (.int p1), .val (.int p2), .val (.int p3), .val (.int p4), .val (.long q5), .second, .val (.int p6), .val (.ref b142), .val (.int (2 : Int32)), .val (.int (3 : Int32)), .unset] [])) _
        refine XS.aload X162.here hx rfl (hb hby at_75) rfl rfl ?_
        show Steps p.tables e below (T162.setTop (mkF m 77 #[.val (.int p1), .val (.int p2), .val (.int p3), .val (.int p4), .val (.long q5), .second, .val (.int p6), .val (.ref b142), .val (.int (2 : Int32)), .val (.int (3 : Int32)), .unset] [(.ref b142)])) _
        refine XS.iconst X162.here hx rfl (hb hby at_77) ?_
        show Steps p.tables e below (T162.setTop (mkF m 78 #[.val (.int p1), .val (.int p2), .val (.int p3), .val (.int p4), .val (.long q5), .second, .val (.int p6), .val (.ref b142), .val (.int (2 : Int32)), .val (.int (3 : Int32)), .unset] [(.int (0 : Int32)), (.ref b142)])) _
        refine st167.trans ?_
        show Steps p.tables e below (T167.setTop (mkF m 81 #[.val (.int p1), .val (.int p2), .val (.int p3), .val (.int p4), .val (.long q5), .second, .val (.int p6), .val (.ref b142), .val (.int (2 : Int32)), .val (.int (3 : Int32)), .unset] [(.int p1)])) _
        refine XS.iconst X167.here hx rfl (hb hby at_81) ?_
        show Steps p.tables e below (T167.setTop (mkF m 82 #[.val (.int p1), .val (.int p2), .val (.int p3), .val (.int p4), .val (.long q5), .second, .val (.int p6), .val (.ref b142), .val (.int (2 : Int32)), .val (.int (3 : Int32)), .unset] [(.int (0 : Int32)), (.int p1)])) _
        refine XS.iloadN X167.here hx rfl (hb hby at_82) rfl ?_
        show Steps p.tables e below (T167.setTop (mkF m 83 #[.val (.int p1), .val (.int p2), .val (.int p3), .val (.int p4), .val (.long q5), .second, .val (.int p6), .val (.ref b142), .val (.int (2 : Int32)), .val (.int (3 : Int32)), .unset] [(.int p1), (.int (0 : Int32)), (.int p1)])) _
        refine XS.iloadN X167.here hx rfl (hb hby at_83) rfl ?_
        show Steps p.tables e below (T167.setTop (mkF m 84 #[.val (.int p1), .val (.int p2), .val (.int p3), .val (.int p4), .val (.long q5), .second, .val (.int p6), .val (.ref b142), .val (.int (2 : Int32)), .val (.int (3 : Int32)), .unset] [(.int p2), (.int p1), (.int (0 : Int32)), (.int p1)])) _
        refine XS.iloadN X167.here hx rfl (hb hby at_84) rfl ?_
        show Steps p.tables e below (T167.setTop (mkF m 85 #[.val (.int p1), .val (.int p2), .val (.int p3), .val (.int p4), .val (.long q5), .second, .val (.int p6), .val (.ref b142), .val (.int (2 : Int32)), .val (.int (3 : Int32)), .unset] [(.int p3), (.int p2), (.int p1), (.int (0 : Int32)), (.int p1)])) _
        refine st168 _ ?_
        show Steps p.tables e below (T168.setTop (mkF m 88 #[.val (.int p1), .val (.int p2), .val (.int p3), .val (.int p4), .val (.long q5), .second, .val (.int p6), .val (.ref b142), .val (.int (2 : Int32)), .val (.int (3 : Int32)), .unset] [(.int p1), (.int p1)])) _
        refine XS.icmpNo X168.here hx rfl (hb hby at_88) rfl (teq (rfl : p1 = p1)).2 ?_
        show Steps p.tables e below (T168.setTop (mkF m 91 #[.val (.int p1), .val (.int p2), .val (.int p3), .val (.int p4), .val (.long q5), .second, .val (.int p6), .val (.ref b142), .val (.int (2 : Int32)), .val (.int (3 : Int32)), .unset] [])) _
        refine XS.iconst X168.here hx rfl (hb hby at_91) ?_
        show Steps p.tables e below (T168.setTop (mkF m 92 #[.val (.int p1), .val (.int p2), .val (.int p3), .val (.int p4), .val (.long q5), .second, .val (.int p6), .val (.ref b142), .val (.int (2 : Int32)), .val (.int (3 : Int32)), .unset] [(.int (1 : Int32))])) _
        refine XS.goto X168.here hx rfl (pc0 := 92) (pc' := 96) rfl (hb hby at_92) (by decide) (by decide) ?_
        show Steps p.tables e below (T168.setTop (mkF m 96 #[.val (.int p1), .val (.int p2), .val (.int p3), .val (.int p4), .val (.long q5), .second, .val (.int p6), .val (.ref b142), .val (.int (2 : Int32)), .val (.int (3 : Int32)), .unset] [(.int (1 : Int32))])) _
        refine XS.istore X168.here hx rfl (hb hby at_96) rfl (l' := #[.val (.int p1), .val (.int p2), .val (.int p3), .val (.int p4), .val (.long q5), .second, .val (.int p6), .val (.ref b142), .val (.int (2 : Int32)), .val (.int (3 : Int32)), .val (.int (1 : Int32))]) rfl ?_
        show Steps p.tables e below (T168.setTop (mkF m 98 #[.val (.int p1), .val (.int p2), .val (.int p3), .val (.int p4), .val (.long q5), .second, .val (.int p6), .val (.ref b142), .val (.int (2 : Int32)), .val (.int (3 : Int32)), .val (.int (1 : Int32))] [])) _
        refine XS.iload X168.here hx rfl (hb hby at_98) rfl ?_
        show Steps p.tables e below (T168.setTop (mkF m 100 #[.val (.int p1), .val (.int p2), .val (.int p3), .val (.int p4), .val (.long q5), .second, .val (.int p6), .val (.ref b142), .val (.int (2 : Int32)), .val (.int (3 : Int32)), .val (.int (1 : Int32))] [(.int (3 : Int32))])) _
        refine XS.iconst X168.here hx rfl (hb hby at_100) ?_
        show Steps p.tables e below (T168.setTop (mkF m 101 #[.val (.int p1), .val (.int p2), .val (.int p3), .val (.int p4), .val (.long q5), .second, .val (.int p6), .val (.ref b142), .val (.int (2 : Int32)), .val (.int (3 : Int32)), .val (.int (1 : Int32))] [(.int (2 : Int32)), (.int (3 : Int32))])) _
        refine XS.icmpNo X168.here hx rfl (hb hby at_101) rfl (flt (by decide : ¬ ((3 : Int32) < (2 : Int32)))).1 ?_
        show Steps p.tables e below (T168.setTop (mkF m 104 #[.val (.int p1), .val (.int p2), .val (.int p3), .val (.int p4), .val (.long q5), .second, .val (.int p6), .val (.ref b142), .val (.int (2 : Int32)), .val (.int (3 : Int32)), .val (.int (1 : Int32))] [])) _
        refine XS.iload X168.here hx rfl (hb hby at_104) rfl ?_
        show Steps p.tables e below (T168.setTop (mkF m 106 #[.val (.int p1), .val (.int p2), .val (.int p3), .val (.int p4), .val (.long q5), .second, .val (.int p6), .val (.ref b142), .val (.int (2 : Int32)), .val (.int (3 : Int32)), .val (.int (1 : Int32))] [(.int (1 : Int32))])) _
        refine XS.ifNo X168.here hx rfl (hb hby at_106) rfl ((if0 _ _).trans (feq (by decide : ¬ ((1 : Int32) = (0 : Int32)))).1) ?_
        show Steps p.tables e below (T168.setTop (mkF m 109 #[.val (.int p1), .val (.int p2), .val (.int p3), .val (.int p4), .val (.long q5), .second, .val (.int p6), .val (.ref b142), .val (.int (2 : Int32)), .val (.int (3 : Int32)), .val (.int (1 : Int32))] [])) _
        refine XS.aload X168.here hx rfl (hb hby at_109) rfl rfl ?_
        show Steps p.tables e below (T168.setTop (mkF m 111 #[.val (.int p1), .val (.int p2), .val (.int p3), .val (.int p4), .val (.long q5), .second, .val (.int p6), .val (.ref b142), .val (.int (2 : Int32)), .val (.int (3 : Int32)), .val (.int (1 : Int32))] [(.ref b142)])) _
        refine XS.iconst X168.here hx rfl (hb hby at_111) ?_
        show Steps p.tables e below (T168.setTop (mkF m 112 #[.val (.int p1), .val (.int p2), .val (.int p3), .val (.int p4), .val (.long q5), .second, .val (.int p6), .val (.ref b142), .val (.int (2 : Int32)), .val (.int (3 : Int32)), .val (.int (1 : Int32))] [(.int (1 : Int32)), (.ref b142)])) _
        refine st169.trans ?_
        show Steps p.tables e below (T169.setTop (mkF m 115 #[.val (.int p1), .val (.int p2), .val (.int p3), .val (.int p4), .val (.long q5), .second, .val (.int p6), .val (.ref b142), .val (.int (2 : Int32)), .val (.int (3 : Int32)), .val (.int (1 : Int32))] [(.int p2)])) _
        refine XS.iconst X169.here hx rfl (hb hby at_115) ?_
        show Steps p.tables e below (T169.setTop (mkF m 116 #[.val (.int p1), .val (.int p2), .val (.int p3), .val (.int p4), .val (.long q5), .second, .val (.int p6), .val (.ref b142), .val (.int (2 : Int32)), .val (.int (3 : Int32)), .val (.int (1 : Int32))] [(.int (1 : Int32)), (.int p2)])) _
        refine XS.iloadN X169.here hx rfl (hb hby at_116) rfl ?_
        show Steps p.tables e below (T169.setTop (mkF m 117 #[.val (.int p1), .val (.int p2), .val (.int p3), .val (.int p4), .val (.long q5), .second, .val (.int p6), .val (.ref b142), .val (.int (2 : Int32)), .val (.int (3 : Int32)), .val (.int (1 : Int32))] [(.int p1), (.int (1 : Int32)), (.int p2)])) _
        refine XS.iloadN X169.here hx rfl (hb hby at_117) rfl ?_
        show Steps p.tables e below (T169.setTop (mkF m 118 #[.val (.int p1), .val (.int p2), .val (.int p3), .val (.int p4), .val (.long q5), .second, .val (.int p6), .val (.ref b142), .val (.int (2 : Int32)), .val (.int (3 : Int32)), .val (.int (1 : Int32))] [(.int p2), (.int p1), (.int (1 : Int32)), (.int p2)])) _
        refine XS.iloadN X169.here hx rfl (hb hby at_118) rfl ?_
        show Steps p.tables e below (T169.setTop (mkF m 119 #[.val (.int p1), .val (.int p2), .val (.int p3), .val (.int p4), .val (.long q5), .second, .val (.int p6), .val (.ref b142), .val (.int (2 : Int32)), .val (.int (3 : Int32)), .val (.int (1 : Int32))] [(.int p3), (.int p2), (.int p1), (.int (1 : Int32)), (.int p2)])) _
        refine st170 _ ?_
        show Steps p.tables e below (T170.setTop (mkF m 122 #[.val (.int p1), .val (.int p2), .val (.int p3), .val (.int p4), .val (.long q5), .second, .val (.int p6), .val (.ref b142), .val (.int (2 : Int32)), .val (.int (3 : Int32)), .val (.int (1 : Int32))] [(.int p2), (.int p2)])) _
        refine XS.icmpNo X170.here hx rfl (hb hby at_122) rfl (teq (rfl : p2 = p2)).2 ?_
        show Steps p.tables e below (T170.setTop (mkF m 125 #[.val (.int p1), .val (.int p2), .val (.int p3), .val (.int p4), .val (.long q5), .second, .val (.int p6), .val (.ref b142), .val (.int (2 : Int32)), .val (.int (3 : Int32)), .val (.int (1 : Int32))] [])) _
        refine XS.iconst X170.here hx rfl (hb hby at_125) ?_
        show Steps p.tables e below (T170.setTop (mkF m 126 #[.val (.int p1), .val (.int p2), .val (.int p3), .val (.int p4), .val (.long q5), .second, .val (.int p6), .val (.ref b142), .val (.int (2 : Int32)), .val (.int (3 : Int32)), .val (.int (1 : Int32))] [(.int (1 : Int32))])) _
        refine XS.goto X170.here hx rfl (pc0 := 126) (pc' := 130) rfl (hb hby at_126) (by decide) (by decide) ?_
        show Steps p.tables e below (T170.setTop (mkF m 130 #[.val (.int p1), .val (.int p2), .val (.int p3), .val (.int p4), .val (.long q5), .second, .val (.int p6), .val (.ref b142), .val (.int (2 : Int32)), .val (.int (3 : Int32)), .val (.int (1 : Int32))] [(.int (1 : Int32))])) _
        refine XS.istore X170.here hx rfl (hb hby at_130) rfl (l' := #[.val (.int p1), .val (.int p2), .val (.int p3), .val (.int p4), .val (.long q5), .second, .val (.int p6), .val (.ref b142), .val (.int (2 : Int32)), .val (.int (3 : Int32)), .val (.int (1 : Int32))]) rfl ?_
        show Steps p.tables e below (T170.setTop (mkF m 132 #[.val (.int p1), .val (.int p2), .val (.int p3), .val (.int p4), .val (.long q5), .second, .val (.int p6), .val (.ref b142), .val (.int (2 : Int32)), .val (.int (3 : Int32)), .val (.int (1 : Int32))] [])) _
        refine XS.iload X170.here hx rfl (hb hby at_132) rfl ?_
        show Steps p.tables e below (T170.setTop (mkF m 134 #[.val (.int p1), .val (.int p2), .val (.int p3), .val (.int p4), .val (.long q5), .second, .val (.int p6), .val (.ref b142), .val (.int (2 : Int32)), .val (.int (3 : Int32)), .val (.int (1 : Int32))] [(.int (3 : Int32))])) _
        refine XS.iconst X170.here hx rfl (hb hby at_134) ?_
        show Steps p.tables e below (T170.setTop (mkF m 135 #[.val (.int p1), .val (.int p2), .val (.int p3), .val (.int p4), .val (.long q5), .second, .val (.int p6), .val (.ref b142), .val (.int (2 : Int32)), .val (.int (3 : Int32)), .val (.int (1 : Int32))] [(.int (3 : Int32)), (.int (3 : Int32))])) _
        refine XS.icmpNo X170.here hx rfl (hb hby at_135) rfl (flt (by decide : ¬ ((3 : Int32) < (3 : Int32)))).1 ?_
        show Steps p.tables e below (T170.setTop (mkF m 138 #[.val (.int p1), .val (.int p2), .val (.int p3), .val (.int p4), .val (.long q5), .second, .val (.int p6), .val (.ref b142), .val (.int (2 : Int32)), .val (.int (3 : Int32)), .val (.int (1 : Int32))] [])) _
        refine XS.iload X170.here hx rfl (hb hby at_138) rfl ?_
        show Steps p.tables e below (T170.setTop (mkF m 140 #[.val (.int p1), .val (.int p2), .val (.int p3), .val (.int p4), .val (.long q5), .second, .val (.int p6), .val (.ref b142), .val (.int (2 : Int32)), .val (.int (3 : Int32)), .val (.int (1 : Int32))] [(.int (1 : Int32))])) _
        refine XS.ifNo X170.here hx rfl (hb hby at_140) rfl ((if0 _ _).trans (feq (by decide : ¬ ((1 : Int32) = (0 : Int32)))).1) ?_
        show Steps p.tables e below (T170.setTop (mkF m 143 #[.val (.int p1), .val (.int p2), .val (.int p3), .val (.int p4), .val (.long q5), .second, .val (.int p6), .val (.ref b142), .val (.int (2 : Int32)), .val (.int (3 : Int32)), .val (.int (1 : Int32))] [])) _
        refine XS.aload X170.here hx rfl (hb hby at_143) rfl rfl ?_
        show Steps p.tables e below (T170.setTop (mkF m 145 #[.val (.int p1), .val (.int p2), .val (.int p3), .val (.int p4), .val (.long q5), .second, .val (.int p6), .val (.ref b142), .val (.int (2 : Int32)), .val (.int (3 : Int32)), .val (.int (1 : Int32))] [(.ref b142)])) _
        refine XS.iconst X170.here hx rfl (hb hby at_145) ?_
        show Steps p.tables e below (T170.setTop (mkF m 146 #[.val (.int p1), .val (.int p2), .val (.int p3), .val (.int p4), .val (.long q5), .second, .val (.int p6), .val (.ref b142), .val (.int (2 : Int32)), .val (.int (3 : Int32)), .val (.int (1 : Int32))] [(.int (2 : Int32)), (.ref b142)])) _
        refine st171.trans ?_
        show Steps p.tables e below (T171.setTop (mkF m 149 #[.val (.int p1), .val (.int p2), .val (.int p3), .val (.int p4), .val (.long q5), .second, .val (.int p6), .val (.ref b142), .val (.int (2 : Int32)), .val (.int (3 : Int32)), .val (.int (1 : Int32))] [(.int p3)])) _
        refine XS.iconst X171.here hx rfl (hb hby at_149) ?_
        show Steps p.tables e below (T171.setTop (mkF m 150 #[.val (.int p1), .val (.int p2), .val (.int p3), .val (.int p4), .val (.long q5), .second, .val (.int p6), .val (.ref b142), .val (.int (2 : Int32)), .val (.int (3 : Int32)), .val (.int (1 : Int32))] [(.int (2 : Int32)), (.int p3)])) _
        refine XS.iloadN X171.here hx rfl (hb hby at_150) rfl ?_
        show Steps p.tables e below (T171.setTop (mkF m 151 #[.val (.int p1), .val (.int p2), .val (.int p3), .val (.int p4), .val (.long q5), .second, .val (.int p6), .val (.ref b142), .val (.int (2 : Int32)), .val (.int (3 : Int32)), .val (.int (1 : Int32))] [(.int p1), (.int (2 : Int32)), (.int p3)])) _
        refine XS.iloadN X171.here hx rfl (hb hby at_151) rfl ?_
        show Steps p.tables e below (T171.setTop (mkF m 152 #[.val (.int p1), .val (.int p2), .val (.int p3), .val (.int p4), .val (.long q5), .second, .val (.int p6), .val (.ref b142), .val (.int (2 : Int32)), .val (.int (3 : Int32)), .val (.int (1 : Int32))] [(.int p2), (.int p1), (.int (2 : Int32)), (.int p3)])) _
        refine XS.iloadN X171.here hx rfl (hb hby at_152) rfl ?_
        show Steps p.tables e below (T171.setTop (mkF m 153 #[.val (.int p1), .val (.int p2), .val (.int p3), .val (.int p4), .val (.long q5), .second, .val (.int p6), .val (.ref b142), .val (.int (2 : Int32)), .val (.int (3 : Int32)), .val (.int (1 : Int32))] [(.int p3), (.int p2), (.int p1), (.int (2 : Int32)), (.int p3)])) _
        refine st172 _ ?_
        show Steps p.tables e below (T172.setTop (mkF m 156 #[.val (.int p1), .val (.int p2), .val (.int p3), .val (.int p4), .val (.long q5), .second, .val (.int p6), .val (.ref b142), .val (.int (2 : Int32)), .val (.int (3 : Int32)), .val (.int (1 : Int32))] [(.int p3), (.int p3)])) _
        refine XS.icmpNo X172.here hx rfl (hb hby at_156) rfl (teq (rfl : p3 = p3)).2 ?_
        show Steps p.tables e below (T172.setTop (mkF m 159 #[.val (.int p1), .val (.int p2), .val (.int p3), .val (.int p4), .val (.long q5), .second, .val (.int p6), .val (.ref b142), .val (.int (2 : Int32)), .val (.int (3 : Int32)), .val (.int (1 : Int32))] [])) _
        refine XS.iconst X172.here hx rfl (hb hby at_159) ?_
        show Steps p.tables e below (T172.setTop (mkF m 160 #[.val (.int p1), .val (.int p2), .val (.int p3), .val (.int p4), .val (.long q5), .second, .val (.int p6), .val (.ref b142), .val (.int (2 : Int32)), .val (.int (3 : Int32)), .val (.int (1 : Int32))] [(.int (1 : Int32))])) _
        refine XS.goto X172.here hx rfl (pc0 := 160) (pc' := 164) rfl (hb hby at_160) (by decide) (by decide) ?_
        show Steps p.tables e below (T172.setTop (mkF m 164 #[.val (.int p1), .val (.int p2), .val (.int p3), .val (.int p4), .val (.long q5), .second, .val (.int p6), .val (.ref b142), .val (.int (2 : Int32)), .val (.int (3 : Int32)), .val (.int (1 : Int32))] [(.int (1 : Int32))])) _
        refine XS.istore X172.here hx rfl (hb hby at_164) rfl (l' := #[.val (.int p1), .val (.int p2), .val (.int p3), .val (.int p4), .val (.long q5), .second, .val (.int p6), .val (.ref b142), .val (.int (2 : Int32)), .val (.int (3 : Int32)), .val (.int (1 : Int32))]) rfl ?_
        show Steps p.tables e below (T172.setTop (mkF m 166 #[.val (.int p1), .val (.int p2), .val (.int p3), .val (.int p4), .val (.long q5), .second, .val (.int p6), .val (.ref b142), .val (.int (2 : Int32)), .val (.int (3 : Int32)), .val (.int (1 : Int32))] [])) _
        refine XS.iload X172.here hx rfl (hb hby at_166) rfl ?_
        show Steps p.tables e below (T172.setTop (mkF m 168 #[.val (.int p1), .val (.int p2), .val (.int p3), .val (.int p4), .val (.long q5), .second, .val (.int p6), .val (.ref b142), .val (.int (2 : Int32)), .val (.int (3 : Int32)), .val (.int (1 : Int32))] [(.int p6)])) _
        refine XS.iconst X172.here hx rfl (hb hby at_168) ?_
        show Steps p.tables e below (T172.setTop (mkF m 169 #[.val (.int p1), .val (.int p2), .val (.int p3), .val (.int p4), .val (.long q5), .second, .val (.int p6), .val (.ref b142), .val (.int (2 : Int32)), .val (.int (3 : Int32)), .val (.int (1 : Int32))] [(.int (4 : Int32)), (.int p6)])) _
        refine XS.iand X172.here hx rfl (hb hby at_169) rfl ?_
        exact kt
      by_cases hc174 : (p6 &&& (4 : Int32)) = (0 : Int32)
      · obtain ⟨fs, hr, hrun, hended, hW, hsame⟩ := X172.leave (v := some (.int (1 : Int32))) (fun h => by rw [Bd.returns] at h; cases h) hlk
        refine ⟨_, _, pre0 _ ?_, hrun, hended, _, _, rfl, ?_, ⟨_, rfl⟩, hW, hsame.mono (by decide) (by decide)⟩
        · refine pr173 _ ?_
          show Steps p.tables e below (T172.setTop (mkF m 170 #[.val (.int p1), .val (.int p2), .val (.int p3), .val (.int p4), .val (.long q5), .second, .val (.int p6), .val (.ref b142), .val (.int (2 : Int32)), .val (.int (3 : Int32)), .val (.int (1 : Int32))] [(.int (p6 &&& (4 : Int32)))])) _
          refine XS.ifYes X172.here hx rfl (pc0 := 170) (pc' := 208) rfl (hb hby at_170) rfl ((if0 _ _).trans (teq hc174).1) (by decide) (by decide) ?_
          show Steps p.tables e below (T172.setTop (mkF m 208 #[.val (.int p1), .val (.int p2), .val (.int p3), .val (.int p4), .val (.long q5), .second, .val (.int p6), .val (.ref b142), .val (.int (2 : Int32)), .val (.int (3 : Int32)), .val (.int (1 : Int32))] [])) _
          refine XS.iload X172.here hx rfl (hb hby at_208) rfl ?_
          show Steps p.tables e below (T172.setTop (mkF m 210 #[.val (.int p1), .val (.int p2), .val (.int p3), .val (.int p4), .val (.long q5), .second, .val (.int p6), .val (.ref b142), .val (.int (2 : Int32)), .val (.int (3 : Int32)), .val (.int (1 : Int32))] [(.int (1 : Int32))])) _
          exact retN X172 hx (t := .boolean) Bd.returns (by simp) (hb hby at_210) hr
        · show Q0 Z p1 p2 p3 p4 q5 p6 h0 n0 _ T172.heap _
          rw [P172_0]
          exact ⟨rfl, N172⟩
      · obtain ⟨cq175, kq175, q175a, q175b, q175c⟩ := isOf hZ0 P172_0 f164
        obtain ⟨_, _, ⟨T175, L175, k175, n175⟩, -, X175, ⟨Lc175, hQ175, l175, y175, z175⟩, st175⟩ := X172.virtualBack hx (y := (⟨"holdfast/CountedIds$Batch", "clear", "()V"⟩ : MethodName)) (z := (⟨"holdfast/CountedIds$Batch", "clear", "()V"⟩ : MethodName)) hown0 (mvT hZ0 (hw _ (List.mem_of_getElem? (i := 51) rfl))) (mvT hZ0 (hw _ (List.mem_of_getElem? (i := 52) rfl))) (notFace_of_selects (args := #[]) (mvT hZ0 (hw _ (List.mem_of_getElem? (i := 54) rfl)))) (mvT hZ0 (hw _ (List.mem_of_getElem? (i := 54) rfl))) (mvT hZ0 (hw _ (List.mem_of_getElem? (i := 53) rfl))) (by decide) (backOf (W := 0) (rm7 l Z a0 hw [] b142 d_150 t_150 (0 : Int32) (3 : Int32) T162.heap n0 Zs162 f164 gn_b142 P162_1 P162_2 P162_3 P162_4) hZ0 (hw _ (List.mem_of_getElem? (i := 55) rfl)) (hw _ (List.mem_of_getElem? (i := 2) rfl)) (by decide) (by decide)) q175a q175c (g := (mkF m 175 #[.val (.int p1), .val (.int p2), .val (.int p3), .val (.int p4), .val (.long q5), .second, .val (.int p6), .val (.ref b142), .val (.int (2 : Int32)), .val (.int (3 : Int32)), .val (.int (1 : Int32))] [(.ref b142)])) rfl (by rw [hml]; rfl) (Steps.refl _) (argsL := []) (rest := []) (lenOf pd_1 rfl) rfl (by show 2 * 0 + _ ≤ _; exact Nat.le_of_eq rfl) (hb hby at_175) (fun _ _ => ⟨rfl, P172_0, (by decide : 7 + 0 ≤ _), (by decide : 33030 + 0 ≤ _)⟩)
        dsimp only [Pt.U, Pt.locs, Pt.cells, Pt.slots] at X175 l175 y175 z175 st175 hQ175
        subst l175 y175 z175
        obtain ⟨rfl, N175q, P175_0, P175_1, P175_2, P175_3, P175_4⟩ := hQ175
        have N175 := Fr.app N172 N175q
        have f176 : Old Z n0 T175.heap := f163.keep P175_0 (allS gn_b142 all0)
        have f177 : Exa Z T175.heap b142 "holdfast/CountedIds$Batch" := f164.keep P175_0
        have f178 : Arv Z T175.heap d_150 kd_150 (.array .long) (64 : Int32) [(.ref dd_154)] .null := f165.keep P175_0 (ninS (Ne.symm ne_b142_d_150) nin0)
        have f179 : Arv Z T175.heap t_150 kt_150 (.array .int) (64 : Int32) [(.ref tt_154)] .null := f166.keep P175_0 (ninS (Ne.symm ne_b142_t_150) nin0)
        have f180 : OwnLng Z T175.heap dd_154 := OwnLng.keep P162_5 P175_0 (ninS (Ne.symm ne_b142_dd_154) nin0)
        have f181 : OwnTg Z T175.heap tt_154 (own_up (own_up (own_up own_none (0 : Int32) p1) (1 : Int32) p2) (2 : Int32) p3) := OwnTg.keep P162_6 P175_0 (ninS (Ne.symm ne_b142_tt_154) nin0)
        have Zs175 : n0 ≤ T175.heap.size := Nat.le_trans Zs162 P175_0.1
        obtain ⟨cq182, kq182, q182a, q182b, q182c⟩ := isOf hZ0 rfl f177
        obtain ⟨_, _, ⟨T182, L182, k182, n182⟩, -, X182, ⟨Lc182, hQ182, l182, y182, z182⟩, st182⟩ := X175.virtualBack hx (y := (⟨"holdfast/CountedIds$Batch", "add", "(JI)V"⟩ : MethodName)) (z := (⟨"holdfast/CountedIds$Batch", "add", "(JI)V"⟩ : MethodName)) hown0 (mvT hZ0 (hw _ (List.mem_of_getElem? (i := 23) rfl))) (mvT hZ0 (hw _ (List.mem_of_getElem? (i := 24) rfl))) (notFace_of_selects (args := #[]) (mvT hZ0 (hw _ (List.mem_of_getElem? (i := 26) rfl)))) (mvT hZ0 (hw _ (List.mem_of_getElem? (i := 26) rfl))) (mvT hZ0 (hw _ (List.mem_of_getElem? (i := 25) rfl))) (by decide) (backOf (W := 0) (rm3n l Z a0 hw [] b142 q5 p4 d_150 t_150 kd_150 kt_150 (1 : Int32) dd_154 tt_154 (own_up (own_up (own_up own_none (0 : Int32) p1) (1 : Int32) p2) (2 : Int32) p3) (0 : Int32) (1 : Int32) T175.heap n0 Zs175 f176 pf0 f177 gn_b142 gn_d_150 gn_t_150 ne_b142_d_150 ne_b142_t_150 P150_3 P175_1 P175_2 P175_3 P175_4 f178 f179 f180 f181 P154_3 ne_t_150_dd_154 ne_d_150_dd_154 ne_d_150_tt_154 ne_t_150_tt_154 ne_b142_dd_154 ne_b142_tt_154 gn_dd_154 gn_tt_154 (by decide) (by decide) (by decide) (by decide) (by decide)) hZ0 (hw _ (List.mem_of_getElem? (i := 27) rfl)) (hw _ (List.mem_of_getElem? (i := 2) rfl)) (by decide) (by decide)) q182a q182c (g := (mkF m 183 #[.val (.int p1), .val (.int p2), .val (.int p3), .val (.int p4), .val (.long q5), .second, .val (.int p6), .val (.ref b142), .val (.int (2 : Int32)), .val (.int (3 : Int32)), .val (.int (1 : Int32))] [(.int p4), (.long q5), (.ref b142)])) rfl (by rw [hml]; rfl) (Steps.refl _) (argsL := [(.long q5), (.int p4)]) (rest := []) (lenOf pd_2 rfl) rfl (by show 2 * 0 + _ ≤ _; exact Nat.le_of_eq rfl) (hb hby at_183) (fun _ _ => ⟨rfl, rfl, (by decide : 7 + 0 ≤ _), (by decide : 33030 + 0 ≤ _)⟩)
        dsimp only [Pt.U, Pt.locs, Pt.cells, Pt.slots] at X182 l182 y182 z182 st182 hQ182
        subst l182 y182 z182
        obtain ⟨rfl, N182q, P182_0, P182_1, P182_2, P182_3, P182_4, P182_5, P182_6⟩ := hQ182
        have N182 := Fr.app N175 N182q
        have f183 : Old Z n0 T182.heap := f176.keep P182_0 (allS gn_b142 (allS gn_dd_154 (allS gn_tt_154 all0)))
        have f184 : Exa Z T182.heap b142 "holdfast/CountedIds$Batch" := f177.keep P182_0
        have f185 : Arv Z T182.heap d_150 kd_150 (.array .long) (64 : Int32) [(.ref dd_154)] .null := f178.keep P182_0 (ninS (Ne.symm ne_b142_d_150) (ninS ne_d_150_dd_154 (ninS ne_d_150_tt_154 nin0)))
        have f186 : Arv Z T182.heap t_150 kt_150 (.array .int) (64 : Int32) [(.ref tt_154)] .null := f179.keep P182_0 (ninS (Ne.symm ne_b142_t_150) (ninS ne_t_150_dd_154 (ninS ne_t_150_tt_154 nin0)))
        have Zs182 : n0 ≤ T182.heap.size := Nat.le_trans Zs175 P182_0.1
        obtain ⟨cq187, kq187, q187a, q187b, q187c⟩ := isOf hZ0 rfl f184
        obtain ⟨_, _, ⟨T187, L187, k187, n187⟩, -, X187, ⟨Lc187, hQ187, l187, y187, z187⟩, st187⟩ := X182.virtualBack hx (y := (⟨"holdfast/CountedIds$Batch", "tag", "(I)I"⟩ : MethodName)) (z := (⟨"holdfast/CountedIds$Batch", "tag", "(I)I"⟩ : MethodName)) hown0 (mvT hZ0 (hw _ (List.mem_of_getElem? (i := 42) rfl))) (mvT hZ0 (hw _ (List.mem_of_getElem? (i := 43) rfl))) (notFace_of_selects (args := #[]) (mvT hZ0 (hw _ (List.mem_of_getElem? (i := 45) rfl)))) (mvT hZ0 (hw _ (List.mem_of_getElem? (i := 45) rfl))) (mvT hZ0 (hw _ (List.mem_of_getElem? (i := 44) rfl))) (by decide) (backOf (W := 0) (rm5 l Z a0 hw [] b142 (0 : Int32) t_150 kt_150 tt_154 (own_up (own_up (own_up (own_up own_none (0 : Int32) p1) (1 : Int32) p2) (2 : Int32) p3) (0 : Int32) p4) p4 T182.heap n0 Zs182 f183 pf0 P182_2 f186 P182_6 (by decide) (by decide) (by decide) rfl) hZ0 (hw _ (List.mem_of_getElem? (i := 46) rfl)) (hw _ (List.mem_of_getElem? (i := 2) rfl)) (by decide) (by decide)) q187a q187c (g := (mkF m 194 #[.val (.int p1), .val (.int p2), .val (.int p3), .val (.int p4), .val (.long q5), .second, .val (.int p6), .val (.ref b142), .val (.int (2 : Int32)), .val (.int (3 : Int32)), .val (.int (1 : Int32))] [(.int (0 : Int32)), (.ref b142)])) rfl (by rw [hml]; rfl) (Steps.refl _) (argsL := [(.int (0 : Int32))]) (rest := []) (lenOf pd_3 rfl) rfl (by show 2 * 0 + _ ≤ _; exact Nat.le_of_eq rfl) (hb hby at_194) (fun _ _ => ⟨rfl, rfl, (by decide : 7 + 0 ≤ _), (by decide : 33030 + 0 ≤ _)⟩)
        dsimp only [Pt.U, Pt.locs, Pt.cells, Pt.slots] at X187 l187 y187 z187 st187 hQ187
        subst l187 y187 z187
        obtain ⟨rfl, N187q, P187_0⟩ := hQ187
        have N187 := Fr.app N182 N187q
        obtain ⟨fs, hr, hrun, hended, hW, hsame⟩ := X187.leave (v := some (.int (1 : Int32))) (fun h => by rw [Bd.returns] at h; cases h) hlk
        refine ⟨_, _, pre0 _ ?_, hrun, hended, _, _, rfl, ?_, ⟨_, rfl⟩, hW, hsame.mono (by decide) (by decide)⟩
        · refine pr173 _ ?_
          show Steps p.tables e below (T172.setTop (mkF m 170 #[.val (.int p1), .val (.int p2), .val (.int p3), .val (.int p4), .val (.long q5), .second, .val (.int p6), .val (.ref b142), .val (.int (2 : Int32)), .val (.int (3 : Int32)), .val (.int (1 : Int32))] [(.int (p6 &&& (4 : Int32)))])) _
          refine XS.ifNo X172.here hx rfl (hb hby at_170) rfl ((if0 _ _).trans (feq hc174).1) ?_
          show Steps p.tables e below (T172.setTop (mkF m 173 #[.val (.int p1), .val (.int p2), .val (.int p3), .val (.int p4), .val (.long q5), .second, .val (.int p6), .val (.ref b142), .val (.int (2 : Int32)), .val (.int (3 : Int32)), .val (.int (1 : Int32))] [])) _
          refine XS.aload X172.here hx rfl (hb hby at_173) rfl rfl ?_
          show Steps p.tables e below (T172.setTop (mkF m 175 #[.val (.int p1), .val (.int p2), .val (.int p3), .val (.int p4), .val (.long q5), .second, .val (.int p6), .val (.ref b142), .val (.int (2 : Int32)), .val (.int (3 : Int32)), .val (.int (1 : Int32))] [(.ref b142)])) _
          refine st175.trans ?_
          show Steps p.tables e below (T175.setTop (mkF m 178 #[.val (.int p1), .val (.int p2), .val (.int p3), .val (.int p4), .val (.long q5), .second, .val (.int p6), .val (.ref b142), .val (.int (2 : Int32)), .val (.int (3 : Int32)), .val (.int (1 : Int32))] [])) _
          refine XS.aload X175.here hx rfl (hb hby at_178) rfl rfl ?_
          show Steps p.tables e below (T175.setTop (mkF m 180 #[.val (.int p1), .val (.int p2), .val (.int p3), .val (.int p4), .val (.long q5), .second, .val (.int p6), .val (.ref b142), .val (.int (2 : Int32)), .val (.int (3 : Int32)), .val (.int (1 : Int32))] [(.ref b142)])) _
          refine XS.lload X175.here hx rfl (hb hby at_180) rfl ?_
          show Steps p.tables e below (T175.setTop (mkF m 182 #[.val (.int p1), .val (.int p2), .val (.int p3), .val (.int p4), .val (.long q5), .second, .val (.int p6), .val (.ref b142), .val (.int (2 : Int32)), .val (.int (3 : Int32)), .val (.int (1 : Int32))] [(.long q5), (.ref b142)])) _
          refine XS.iloadN X175.here hx rfl (hb hby at_182) rfl ?_
          show Steps p.tables e below (T175.setTop (mkF m 183 #[.val (.int p1), .val (.int p2), .val (.int p3), .val (.int p4), .val (.long q5), .second, .val (.int p6), .val (.ref b142), .val (.int (2 : Int32)), .val (.int (3 : Int32)), .val (.int (1 : Int32))] [(.int p4), (.long q5), (.ref b142)])) _
          refine st182.trans ?_
          show Steps p.tables e below (T182.setTop (mkF m 186 #[.val (.int p1), .val (.int p2), .val (.int p3), .val (.int p4), .val (.long q5), .second, .val (.int p6), .val (.ref b142), .val (.int (2 : Int32)), .val (.int (3 : Int32)), .val (.int (1 : Int32))] [])) _
          refine XS.iload X182.here hx rfl (hb hby at_186) rfl ?_
          show Steps p.tables e below (T182.setTop (mkF m 188 #[.val (.int p1), .val (.int p2), .val (.int p3), .val (.int p4), .val (.long q5), .second, .val (.int p6), .val (.ref b142), .val (.int (2 : Int32)), .val (.int (3 : Int32)), .val (.int (1 : Int32))] [(.int (1 : Int32))])) _
          refine XS.ifNo X182.here hx rfl (hb hby at_188) rfl ((if0 _ _).trans (feq (by decide : ¬ ((1 : Int32) = (0 : Int32)))).1) ?_
          show Steps p.tables e below (T182.setTop (mkF m 191 #[.val (.int p1), .val (.int p2), .val (.int p3), .val (.int p4), .val (.long q5), .second, .val (.int p6), .val (.ref b142), .val (.int (2 : Int32)), .val (.int (3 : Int32)), .val (.int (1 : Int32))] [])) _
          refine XS.aload X182.here hx rfl (hb hby at_191) rfl rfl ?_
          show Steps p.tables e below (T182.setTop (mkF m 193 #[.val (.int p1), .val (.int p2), .val (.int p3), .val (.int p4), .val (.long q5), .second, .val (.int p6), .val (.ref b142), .val (.int (2 : Int32)), .val (.int (3 : Int32)), .val (.int (1 : Int32))] [(.ref b142)])) _
          refine XS.iconst X182.here hx rfl (hb hby at_193) ?_
          show Steps p.tables e below (T182.setTop (mkF m 194 #[.val (.int p1), .val (.int p2), .val (.int p3), .val (.int p4), .val (.long q5), .second, .val (.int p6), .val (.ref b142), .val (.int (2 : Int32)), .val (.int (3 : Int32)), .val (.int (1 : Int32))] [(.int (0 : Int32)), (.ref b142)])) _
          refine st187.trans ?_
          show Steps p.tables e below (T187.setTop (mkF m 197 #[.val (.int p1), .val (.int p2), .val (.int p3), .val (.int p4), .val (.long q5), .second, .val (.int p6), .val (.ref b142), .val (.int (2 : Int32)), .val (.int (3 : Int32)), .val (.int (1 : Int32))] [(.int p4)])) _
          refine XS.iloadN X187.here hx rfl (hb hby at_197) rfl ?_
          show Steps p.tables e below (T187.setTop (mkF m 198 #[.val (.int p1), .val (.int p2), .val (.int p3), .val (.int p4), .val (.long q5), .second, .val (.int p6), .val (.ref b142), .val (.int (2 : Int32)), .val (.int (3 : Int32)), .val (.int (1 : Int32))] [(.int p4), (.int p4)])) _
          refine XS.icmpNo X187.here hx rfl (hb hby at_198) rfl (teq (rfl : p4 = p4)).2 ?_
          show Steps p.tables e below (T187.setTop (mkF m 201 #[.val (.int p1), .val (.int p2), .val (.int p3), .val (.int p4), .val (.long q5), .second, .val (.int p6), .val (.ref b142), .val (.int (2 : Int32)), .val (.int (3 : Int32)), .val (.int (1 : Int32))] [])) _
          refine XS.iconst X187.here hx rfl (hb hby at_201) ?_
          show Steps p.tables e below (T187.setTop (mkF m 202 #[.val (.int p1), .val (.int p2), .val (.int p3), .val (.int p4), .val (.long q5), .second, .val (.int p6), .val (.ref b142), .val (.int (2 : Int32)), .val (.int (3 : Int32)), .val (.int (1 : Int32))] [(.int (1 : Int32))])) _
          refine XS.goto X187.here hx rfl (pc0 := 202) (pc' := 206) rfl (hb hby at_202) (by decide) (by decide) ?_
          show Steps p.tables e below (T187.setTop (mkF m 206 #[.val (.int p1), .val (.int p2), .val (.int p3), .val (.int p4), .val (.long q5), .second, .val (.int p6), .val (.ref b142), .val (.int (2 : Int32)), .val (.int (3 : Int32)), .val (.int (1 : Int32))] [(.int (1 : Int32))])) _
          refine XS.istore X187.here hx rfl (hb hby at_206) rfl (l' := #[.val (.int p1), .val (.int p2), .val (.int p3), .val (.int p4), .val (.long q5), .second, .val (.int p6), .val (.ref b142), .val (.int (2 : Int32)), .val (.int (3 : Int32)), .val (.int (1 : Int32))]) rfl ?_
          show Steps p.tables e below (T187.setTop (mkF m 208 #[.val (.int p1), .val (.int p2), .val (.int p3), .val (.int p4), .val (.long q5), .second, .val (.int p6), .val (.ref b142), .val (.int (2 : Int32)), .val (.int (3 : Int32)), .val (.int (1 : Int32))] [])) _
          refine XS.iload X187.here hx rfl (hb hby at_208) rfl ?_
          show Steps p.tables e below (T187.setTop (mkF m 210 #[.val (.int p1), .val (.int p2), .val (.int p3), .val (.int p4), .val (.long q5), .second, .val (.int p6), .val (.ref b142), .val (.int (2 : Int32)), .val (.int (3 : Int32)), .val (.int (1 : Int32))] [(.int (1 : Int32))])) _
          exact retN X187 hx (t := .boolean) Bd.returns (by simp) (hb hby at_210) hr
        · show Q0 Z p1 p2 p3 p4 q5 p6 h0 n0 _ T187.heap _
          rw [P187_0]
          exact ⟨rfl, N187⟩
    · by_cases hc188 : (p6 &&& (3 : Int32)) = (3 : Int32)
      · obtain ⟨T189, h189, X189, e189, E189, A189, D189, -, st189⟩ := newO X0 hx hZ0 hown0 (hw _ (List.mem_of_getElem? (i := 0) rfl)) (hw _ (List.mem_of_getElem? (i := 1) rfl)) (hw _ (List.mem_of_getElem? (i := 2) rfl)) e0 (g := (mkF m 0 #[.val (.int p1), .val (.int p2), .val (.int p3), .val (.int p4), .val (.long q5), .second, .val (.int p6), .unset, .unset, .unset, .unset] [])) rfl (hb hby at_0) (by decide) (by decide)
        obtain ⟨b189, g189⟩ : ∃ z, z = h0.size := ⟨_, rfl⟩
        rw [← g189] at A189 D189 st189
        have gn_b189 : n0 ≤ b189 := Nat.le_trans Z0 (Nat.le_of_eq g189.symm)
        have f190 : Old Z n0 h189 := O0.ext E189
        have Zs189 : n0 ≤ h189.size := Nat.le_trans Z0 E189.1
        have f191 : Fld Z h189 b189 "holdfast/CountedIds$Batch" "digests" "[[J" .null := D189 (Or.inl (hw _ (List.mem_of_getElem? (i := 12) rfl))) (ty := (.array (.array .long))) (by decide)
        have f192 : Fld Z h189 b189 "holdfast/CountedIds$Batch" "tags" "[[I" .null := D189 (Or.inl (hw _ (List.mem_of_getElem? (i := 16) rfl))) (ty := (.array (.array .int))) (by decide)
        have f193 : Fld Z h189 b189 "holdfast/CountedIds$Batch" "spareDigests" "[[J" .null := D189 (Or.inl (hw _ (List.mem_of_getElem? (i := 18) rfl))) (ty := (.array (.array .long))) (by decide)
        have f194 : Fld Z h189 b189 "holdfast/CountedIds$Batch" "spareTags" "[[I" .null := D189 (Or.inl (hw _ (List.mem_of_getElem? (i := 20) rfl))) (ty := (.array (.array .int))) (by decide)
        have f195 : Fld Z h189 b189 "holdfast/CountedIds$Batch" "sorted" "Z" (.int (0 : Int32)) := D189 (Or.inl (hw _ (List.mem_of_getElem? (i := 22) rfl))) (ty := .boolean) (by decide)
        have f196 : Fld Z h189 b189 "holdfast/CountedIds$Batch" "size" "I" (.int (0 : Int32)) := D189 (Or.inl (hw _ (List.mem_of_getElem? (i := 29) rfl))) (ty := .int) (by decide)
        obtain ⟨_, _, ⟨T197, L197, k197, n197⟩, -, X197, ⟨Lc197, hQ197, l197, y197, z197⟩, st197⟩ := X189.specialBack hx (y := (⟨"holdfast/CountedIds$Batch", "<init>", "()V"⟩ : MethodName)) rfl hown0 (mvT hZ0 (hw _ (List.mem_of_getElem? (i := 3) rfl))) (mvT hZ0 (hw _ (List.mem_of_getElem? (i := 4) rfl))) (mvT hZ0 (hw _ (List.mem_of_getElem? (i := 5) rfl))) (by decide) (backOf (W := 1) (rm1 l Z a0 hw [] b189 h189 n0 Zs189 A189 gn_b189 f191 f192 f193 f194 f195 f196) hZ0 (hw _ (List.mem_of_getElem? (i := 5) rfl)) (hw _ (List.mem_of_getElem? (i := 2) rfl)) (by decide) (by decide)) (g := (mkF m 4 #[.val (.int p1), .val (.int p2), .val (.int p3), .val (.int p4), .val (.long q5), .second, .val (.int p6), .unset, .unset, .unset, .unset] [(.ref b189), (.ref b189)])) rfl (by rw [hml]; rfl) (Steps.refl _) (a := b189) (argsL := []) (rest := [(.ref b189)]) (lenOf pd_1 rfl) rfl (by show 2 * 0 + _ ≤ _; exact Nat.le_of_eq rfl) (hb hby at_4) (fun _ _ => ⟨rfl, e189, (by decide : 1 + 4 ≤ _), (by decide : 6 + 256 ≤ _)⟩)
        dsimp only [Pt.U, Pt.locs, Pt.cells, Pt.slots] at X197 l197 y197 z197 st197 hQ197
        subst l197 y197 z197
        obtain ⟨d_197, t_197, kd_197, kt_197, rfl, N197q, P197_0, P197_1, P197_2, P197_3, P197_4, P197_5, P197_6, P197_7, P197_8, P197_9, P197_10, P197_11⟩ := hQ197
        have N197 := Fr.app N0 N197q
        have ne_b189_d_197 : b189 ≠ d_197 := Nat.ne_of_lt (Nat.lt_of_lt_of_le A189.lt P197_1)
        have gn_d_197 : n0 ≤ d_197 := Nat.le_trans Zs189 P197_1
        have ne_b189_t_197 : b189 ≠ t_197 := Nat.ne_of_lt (Nat.lt_of_lt_of_le A189.lt P197_2)
        have gn_t_197 : n0 ≤ t_197 := Nat.le_trans Zs189 P197_2
        have f198 : Old Z n0 T197.heap := f190.keep P197_0 (allS gn_b189 all0)
        have f199 : Exa Z T197.heap b189 "holdfast/CountedIds$Batch" := A189.keep P197_0
        have Zs197 : n0 ≤ T197.heap.size := Nat.le_trans Zs189 P197_0.1
        obtain ⟨cq200, kq200, q200a, q200b, q200c⟩ := isOf hZ0 rfl f199
        obtain ⟨_, _, ⟨T200, L200, k200, n200⟩, -, X200, ⟨Lc200, hQ200, l200, y200, z200⟩, st200⟩ := X197.virtualBack hx (y := (⟨"holdfast/CountedIds$Batch", "add", "(JI)V"⟩ : MethodName)) (z := (⟨"holdfast/CountedIds$Batch", "add", "(JI)V"⟩ : MethodName)) hown0 (mvT hZ0 (hw _ (List.mem_of_getElem? (i := 23) rfl))) (mvT hZ0 (hw _ (List.mem_of_getElem? (i := 24) rfl))) (notFace_of_selects (args := #[]) (mvT hZ0 (hw _ (List.mem_of_getElem? (i := 26) rfl)))) (mvT hZ0 (hw _ (List.mem_of_getElem? (i := 26) rfl))) (mvT hZ0 (hw _ (List.mem_of_getElem? (i := 25) rfl))) (by decide) (backOf (W := 0) (rm3z l Z a0 hw [] b189 q5 p1 d_197 t_197 kd_197 kt_197 (1 : Int32) T197.heap n0 Zs197 f198 pf0 f199 gn_b189 gn_d_197 gn_t_197 ne_b189_d_197 ne_b189_t_197 P197_3 P197_4 P197_5 P197_6 P197_7 P197_8 P197_9 P197_10 P197_11) hZ0 (hw _ (List.mem_of_getElem? (i := 27) rfl)) (hw _ (List.mem_of_getElem? (i := 2) rfl)) (by decide) (by decide)) q200a q200c (g := (mkF m 36 #[.val (.int p1), .val (.int p2), .val (.int p3), .val (.int p4), .val (.long q5), .second, .val (.int p6), .val (.ref b189), .val (.int (3 : Int32)), .val (.int (3 : Int32)), .unset] [(.int p1), (.long q5), (.ref b189)])) rfl (by rw [hml]; rfl) (Steps.refl _) (argsL := [(.long q5), (.int p1)]) (rest := []) (lenOf pd_2 rfl) rfl (by show 2 * 0 + _ ≤ _; exact Nat.le_of_eq rfl) (hb hby at_36) (fun _ _ => ⟨rfl, rfl, (by decide : 5 + 2 ≤ _), (by decide : 262 + 32768 ≤ _)⟩)
        dsimp only [Pt.U, Pt.locs, Pt.cells, Pt.slots] at X200 l200 y200 z200 st200 hQ200
        subst l200 y200 z200
        obtain ⟨dd_200, tt_200, rfl, N200q, P200_0, P200_1, P200_2, P200_3, P200_4, P200_5, P200_6, P200_7, P200_8, P200_9, P200_10, P200_11⟩ := hQ200
        have N200 := Fr.app N197 N200q
        have ne_b189_dd_200 : b189 ≠ dd_200 := Nat.ne_of_lt (Nat.lt_of_lt_of_le f199.lt P200_1)
        have ne_d_197_dd_200 : d_197 ≠ dd_200 := Nat.ne_of_lt (Nat.lt_of_lt_of_le P197_8.lt P200_1)
        have ne_t_197_dd_200 : t_197 ≠ dd_200 := Nat.ne_of_lt (Nat.lt_of_lt_of_le P197_9.lt P200_1)
        have gn_dd_200 : n0 ≤ dd_200 := Nat.le_trans Zs197 P200_1
        have ne_b189_tt_200 : b189 ≠ tt_200 := Nat.ne_of_lt (Nat.lt_of_lt_of_le f199.lt P200_2)
        have ne_d_197_tt_200 : d_197 ≠ tt_200 := Nat.ne_of_lt (Nat.lt_of_lt_of_le P197_8.lt P200_2)
        have ne_t_197_tt_200 : t_197 ≠ tt_200 := Nat.ne_of_lt (Nat.lt_of_lt_of_le P197_9.lt P200_2)
        have gn_tt_200 : n0 ≤ tt_200 := Nat.le_trans Zs197 P200_2
        have f201 : Old Z n0 T200.heap := f198.keep P200_0 (allS gn_b189 (allS gn_d_197 (allS gn_t_197 all0)))
        have f202 : Exa Z T200.heap b189 "holdfast/CountedIds$Batch" := f199.keep P200_0
        have Zs200 : n0 ≤ T200.heap.size := Nat.le_trans Zs197 P200_0.1
        obtain ⟨cq203, kq203, q203a, q203b, q203c⟩ := isOf hZ0 rfl f202
        obtain ⟨_, _, ⟨T203, L203, k203, n203⟩, -, X203, ⟨Lc203, hQ203, l203, y203, z203⟩, st203⟩ := X200.virtualBack hx (y := (⟨"holdfast/CountedIds$Batch", "add", "(JI)V"⟩ : MethodName)) (z := (⟨"holdfast/CountedIds$Batch", "add", "(JI)V"⟩ : MethodName)) hown0 (mvT hZ0 (hw _ (List.mem_of_getElem? (i := 23) rfl))) (mvT hZ0 (hw _ (List.mem_of_getElem? (i := 24) rfl))) (notFace_of_selects (args := #[]) (mvT hZ0 (hw _ (List.mem_of_getElem? (i := 26) rfl)))) (mvT hZ0 (hw _ (List.mem_of_getElem? (i := 26) rfl))) (mvT hZ0 (hw _ (List.mem_of_getElem? (i := 25) rfl))) (by decide) (backOf (W := 0) (rm3n l Z a0 hw [] b189 (q5 ^^^ (-1 : Int64)) p2 d_197 t_197 kd_197 kt_197 (0 : Int32) dd_200 tt_200 (own_up own_none (0 : Int32) p1) (1 : Int32) (2 : Int32) T200.heap n0 Zs200 f201 pf0 f202 gn_b189 gn_d_197 gn_t_197 ne_b189_d_197 ne_b189_t_197 P197_3 P200_4 P200_5 P200_6 P200_7 P200_8 P200_9 P200_10 P200_11 P200_3 ne_t_197_dd_200 ne_d_197_dd_200 ne_d_197_tt_200 ne_t_197_tt_200 ne_b189_dd_200 ne_b189_tt_200 gn_dd_200 gn_tt_200 (by decide) (by decide) (by decide) (by decide) (by decide)) hZ0 (hw _ (List.mem_of_getElem? (i := 27) rfl)) (hw _ (List.mem_of_getElem? (i := 2) rfl)) (by decide) (by decide)) q203a q203c (g := (mkF m 54 #[.val (.int p1), .val (.int p2), .val (.int p3), .val (.int p4), .val (.long q5), .second, .val (.int p6), .val (.ref b189), .val (.int (3 : Int32)), .val (.int (3 : Int32)), .unset] [(.int p2), (.long (q5 ^^^ (-1 : Int64))), (.ref b189)])) rfl (by rw [hml]; rfl) (Steps.refl _) (argsL := [(.long (q5 ^^^ (-1 : Int64))), (.int p2)]) (rest := []) (lenOf pd_2 rfl) rfl (by show 2 * 0 + _ ≤ _; exact Nat.le_of_eq rfl) (hb hby at_54) (fun _ _ => ⟨rfl, rfl, (by decide : 7 + 0 ≤ _), (by decide : 33030 + 0 ≤ _)⟩)
        dsimp only [Pt.U, Pt.locs, Pt.cells, Pt.slots] at X203 l203 y203 z203 st203 hQ203
        subst l203 y203 z203
        obtain ⟨rfl, N203q, P203_0, P203_1, P203_2, P203_3, P203_4, P203_5, P203_6⟩ := hQ203
        have N203 := Fr.app N200 N203q
        have f204 : Old Z n0 T203.heap := f201.keep P203_0 (allS gn_b189 (allS gn_dd_200 (allS gn_tt_200 all0)))
        have f205 : Exa Z T203.heap b189 "holdfast/CountedIds$Batch" := f202.keep P203_0
        have f206 : Arv Z T203.heap d_197 kd_197 (.array .long) (64 : Int32) [(.ref dd_200)] .null := P200_8.keep P203_0 (ninS (Ne.symm ne_b189_d_197) (ninS ne_d_197_dd_200 (ninS ne_d_197_tt_200 nin0)))
        have f207 : Arv Z T203.heap t_197 kt_197 (.array .int) (64 : Int32) [(.ref tt_200)] .null := P200_9.keep P203_0 (ninS (Ne.symm ne_b189_t_197) (ninS ne_t_197_dd_200 (ninS ne_t_197_tt_200 nin0)))
        have Zs203 : n0 ≤ T203.heap.size := Nat.le_trans Zs200 P203_0.1
        obtain ⟨cq208, kq208, q208a, q208b, q208c⟩ := isOf hZ0 rfl f205
        obtain ⟨_, _, ⟨T208, L208, k208, n208⟩, -, X208, ⟨Lc208, hQ208, l208, y208, z208⟩, st208⟩ := X203.virtualBack hx (y := (⟨"holdfast/CountedIds$Batch", "add", "(JI)V"⟩ : MethodName)) (z := (⟨"holdfast/CountedIds$Batch", "add", "(JI)V"⟩ : MethodName)) hown0 (mvT hZ0 (hw _ (List.mem_of_getElem? (i := 23) rfl))) (mvT hZ0 (hw _ (List.mem_of_getElem? (i := 24) rfl))) (notFace_of_selects (args := #[]) (mvT hZ0 (hw _ (List.mem_of_getElem? (i := 26) rfl)))) (mvT hZ0 (hw _ (List.mem_of_getElem? (i := 26) rfl))) (mvT hZ0 (hw _ (List.mem_of_getElem? (i := 25) rfl))) (by decide) (backOf (W := 0) (rm3n l Z a0 hw [] b189 (q5 ^^^ (6148914691236517205 : Int64)) p3 d_197 t_197 kd_197 kt_197 (0 : Int32) dd_200 tt_200 (own_up (own_up own_none (0 : Int32) p1) (1 : Int32) p2) (2 : Int32) (3 : Int32) T203.heap n0 Zs203 f204 pf0 f205 gn_b189 gn_d_197 gn_t_197 ne_b189_d_197 ne_b189_t_197 P197_3 P203_1 P203_2 P203_3 P203_4 f206 f207 P203_5 P203_6 P200_3 ne_t_197_dd_200 ne_d_197_dd_200 ne_d_197_tt_200 ne_t_197_tt_200 ne_b189_dd_200 ne_b189_tt_200 gn_dd_200 gn_tt_200 (by decide) (by decide) (by decide) (by decide) (by decide)) hZ0 (hw _ (List.mem_of_getElem? (i := 27) rfl)) (hw _ (List.mem_of_getElem? (i := 2) rfl)) (by decide) (by decide)) q208a q208c (g := (mkF m 72 #[.val (.int p1), .val (.int p2), .val (.int p3), .val (.int p4), .val (.long q5), .second, .val (.int p6), .val (.ref b189), .val (.int (3 : Int32)), .val (.int (3 : Int32)), .unset] [(.int p3), (.long (q5 ^^^ (6148914691236517205 : Int64))), (.ref b189)])) rfl (by rw [hml]; rfl) (Steps.refl _) (argsL := [(.long (q5 ^^^ (6148914691236517205 : Int64))), (.int p3)]) (rest := []) (lenOf pd_2 rfl) rfl (by show 2 * 0 + _ ≤ _; exact Nat.le_of_eq rfl) (hb hby at_72) (fun _ _ => ⟨rfl, rfl, (by decide : 7 + 0 ≤ _), (by decide : 33030 + 0 ≤ _)⟩)
        dsimp only [Pt.U, Pt.locs, Pt.cells, Pt.slots] at X208 l208 y208 z208 st208 hQ208
        subst l208 y208 z208
        obtain ⟨rfl, N208q, P208_0, P208_1, P208_2, P208_3, P208_4, P208_5, P208_6⟩ := hQ208
        have N208 := Fr.app N203 N208q
        have f209 : Old Z n0 T208.heap := f204.keep P208_0 (allS gn_b189 (allS gn_dd_200 (allS gn_tt_200 all0)))
        have f210 : Exa Z T208.heap b189 "holdfast/CountedIds$Batch" := f205.keep P208_0
        have f211 : Arv Z T208.heap d_197 kd_197 (.array .long) (64 : Int32) [(.ref dd_200)] .null := f206.keep P208_0 (ninS (Ne.symm ne_b189_d_197) (ninS ne_d_197_dd_200 (ninS ne_d_197_tt_200 nin0)))
        have f212 : Arv Z T208.heap t_197 kt_197 (.array .int) (64 : Int32) [(.ref tt_200)] .null := f207.keep P208_0 (ninS (Ne.symm ne_b189_t_197) (ninS ne_t_197_dd_200 (ninS ne_t_197_tt_200 nin0)))
        have Zs208 : n0 ≤ T208.heap.size := Nat.le_trans Zs203 P208_0.1
        obtain ⟨cq213, kq213, q213a, q213b, q213c⟩ := isOf hZ0 rfl f210
        obtain ⟨_, _, ⟨T213, L213, k213, n213⟩, -, X213, ⟨Lc213, hQ213, l213, y213, z213⟩, st213⟩ := X208.virtualBack hx (y := (⟨"holdfast/CountedIds$Batch", "tag", "(I)I"⟩ : MethodName)) (z := (⟨"holdfast/CountedIds$Batch", "tag", "(I)I"⟩ : MethodName)) hown0 (mvT hZ0 (hw _ (List.mem_of_getElem? (i := 42) rfl))) (mvT hZ0 (hw _ (List.mem_of_getElem? (i := 43) rfl))) (notFace_of_selects (args := #[]) (mvT hZ0 (hw _ (List.mem_of_getElem? (i := 45) rfl)))) (mvT hZ0 (hw _ (List.mem_of_getElem? (i := 45) rfl))) (mvT hZ0 (hw _ (List.mem_of_getElem? (i := 44) rfl))) (by decide) (backOf (W := 0) (rm5 l Z a0 hw [] b189 (0 : Int32) t_197 kt_197 tt_200 (own_up (own_up (own_up own_none (0 : Int32) p1) (1 : Int32) p2) (2 : Int32) p3) p1 T208.heap n0 Zs208 f209 pf0 P208_2 f212 P208_6 (by decide) (by decide) (by decide) rfl) hZ0 (hw _ (List.mem_of_getElem? (i := 46) rfl)) (hw _ (List.mem_of_getElem? (i := 2) rfl)) (by decide) (by decide)) q213a q213c (g := (mkF m 78 #[.val (.int p1), .val (.int p2), .val (.int p3), .val (.int p4), .val (.long q5), .second, .val (.int p6), .val (.ref b189), .val (.int (3 : Int32)), .val (.int (3 : Int32)), .unset] [(.int (0 : Int32)), (.ref b189)])) rfl (by rw [hml]; rfl) (Steps.refl _) (argsL := [(.int (0 : Int32))]) (rest := []) (lenOf pd_3 rfl) rfl (by show 2 * 0 + _ ≤ _; exact Nat.le_of_eq rfl) (hb hby at_78) (fun _ _ => ⟨rfl, rfl, (by decide : 7 + 0 ≤ _), (by decide : 33030 + 0 ≤ _)⟩)
        dsimp only [Pt.U, Pt.locs, Pt.cells, Pt.slots] at X213 l213 y213 z213 st213 hQ213
        subst l213 y213 z213
        obtain ⟨rfl, N213q, P213_0⟩ := hQ213
        have N213 := Fr.app N208 N213q
        obtain ⟨_, _, ⟨T214, L214, k214, n214⟩, -, X214, ⟨Lc214, hQ214, l214, y214, z214⟩, st214⟩ := Jvm.LawKit.callS X213 hx (y := (⟨"holdfast/BatchTagPinLaw", "expected", "(IIII)I"⟩ : MethodName)) hown0 (mvT hZ0 (hw _ (List.mem_of_getElem? (i := 47) rfl))) (mvT hZ0 (hw _ (List.mem_of_getElem? (i := 48) rfl))) (mvT hZ0 (hw _ (List.mem_of_getElem? (i := 49) rfl))) (mvT hZ0 (hw _ (List.mem_of_getElem? (i := 50) rfl))) (by decide) (backOf (W := 1) (rm6 l Z a0 hw [] (0 : Int32) p1 p2 p3 T208.heap n0 Zs208 ) hZ0 (hw _ (List.mem_of_getElem? (i := 50) rfl)) (hw _ (List.mem_of_getElem? (i := 49) rfl)) (by decide) (by decide)) (g := (mkF m 85 #[.val (.int p1), .val (.int p2), .val (.int p3), .val (.int p4), .val (.long q5), .second, .val (.int p6), .val (.ref b189), .val (.int (3 : Int32)), .val (.int (3 : Int32)), .unset] [(.int p3), (.int p2), (.int p1), (.int (0 : Int32)), (.int p1)])) rfl (by rw [hml]; rfl) (argsL := [(.int (0 : Int32)), (.int p1), (.int p2), (.int p3)]) (rest := [(.int p1)]) (lenOf pd_4 rfl) rfl (by show 2 * 0 + _ ≤ _; exact Nat.le_of_eq rfl) (hb hby at_85) (fun _ _ => ⟨rfl, P213_0, (by decide : 7 + 0 ≤ _), (by decide : 33030 + 0 ≤ _)⟩)
        dsimp only [Pt.U, Pt.locs, Pt.cells, Pt.slots] at X214 l214 y214 z214 st214 hQ214
        subst l214 y214 z214
        obtain ⟨hv214, N214q, P214_0⟩ := hQ214
        obtain rfl := hv214.trans (congrArg (fun z => some (Value.int z)) (rfl : (own_exp (0 : Int32) p1 p2 p3) = p1))
        have N214 := Fr.app N213 N214q
        obtain ⟨cq215, kq215, q215a, q215b, q215c⟩ := isOf hZ0 P214_0 f210
        obtain ⟨_, _, ⟨T215, L215, k215, n215⟩, -, X215, ⟨Lc215, hQ215, l215, y215, z215⟩, st215⟩ := X214.virtualBack hx (y := (⟨"holdfast/CountedIds$Batch", "tag", "(I)I"⟩ : MethodName)) (z := (⟨"holdfast/CountedIds$Batch", "tag", "(I)I"⟩ : MethodName)) hown0 (mvT hZ0 (hw _ (List.mem_of_getElem? (i := 42) rfl))) (mvT hZ0 (hw _ (List.mem_of_getElem? (i := 43) rfl))) (notFace_of_selects (args := #[]) (mvT hZ0 (hw _ (List.mem_of_getElem? (i := 45) rfl)))) (mvT hZ0 (hw _ (List.mem_of_getElem? (i := 45) rfl))) (mvT hZ0 (hw _ (List.mem_of_getElem? (i := 44) rfl))) (by decide) (backOf (W := 0) (rm5 l Z a0 hw [] b189 (1 : Int32) t_197 kt_197 tt_200 (own_up (own_up (own_up own_none (0 : Int32) p1) (1 : Int32) p2) (2 : Int32) p3) p2 T208.heap n0 Zs208 f209 pf0 P208_2 f212 P208_6 (by decide) (by decide) (by decide) rfl) hZ0 (hw _ (List.mem_of_getElem? (i := 46) rfl)) (hw _ (List.mem_of_getElem? (i := 2) rfl)) (by decide) (by decide)) q215a q215c (g := (mkF m 112 #[.val (.int p1), .val (.int p2), .val (.int p3), .val (.int p4), .val (.long q5), .second, .val (.int p6), .val (.ref b189), .val (.int (3 : Int32)), .val (.int (3 : Int32)), .val (.int (1 : Int32))] [(.int (1 : Int32)), (.ref b189)])) rfl (by rw [hml]; rfl) (Steps.refl _) (argsL := [(.int (1 : Int32))]) (rest := []) (lenOf pd_3 rfl) rfl (by show 2 * 0 + _ ≤ _; exact Nat.le_of_eq rfl) (hb hby at_112) (fun _ _ => ⟨rfl, P214_0, (by decide : 7 + 0 ≤ _), (by decide : 33030 + 0 ≤ _)⟩)
        dsimp only [Pt.U, Pt.locs, Pt.cells, Pt.slots] at X215 l215 y215 z215 st215 hQ215
        subst l215 y215 z215
        obtain ⟨rfl, N215q, P215_0⟩ := hQ215
        have N215 := Fr.app N214 N215q
        obtain ⟨_, _, ⟨T216, L216, k216, n216⟩, -, X216, ⟨Lc216, hQ216, l216, y216, z216⟩, st216⟩ := Jvm.LawKit.callS X215 hx (y := (⟨"holdfast/BatchTagPinLaw", "expected", "(IIII)I"⟩ : MethodName)) hown0 (mvT hZ0 (hw _ (List.mem_of_getElem? (i := 47) rfl))) (mvT hZ0 (hw _ (List.mem_of_getElem? (i := 48) rfl))) (mvT hZ0 (hw _ (List.mem_of_getElem? (i := 49) rfl))) (mvT hZ0 (hw _ (List.mem_of_getElem? (i := 50) rfl))) (by decide) (backOf (W := 1) (rm6 l Z a0 hw [] (1 : Int32) p1 p2 p3 T208.heap n0 Zs208 ) hZ0 (hw _ (List.mem_of_getElem? (i := 50) rfl)) (hw _ (List.mem_of_getElem? (i := 49) rfl)) (by decide) (by decide)) (g := (mkF m 119 #[.val (.int p1), .val (.int p2), .val (.int p3), .val (.int p4), .val (.long q5), .second, .val (.int p6), .val (.ref b189), .val (.int (3 : Int32)), .val (.int (3 : Int32)), .val (.int (1 : Int32))] [(.int p3), (.int p2), (.int p1), (.int (1 : Int32)), (.int p2)])) rfl (by rw [hml]; rfl) (argsL := [(.int (1 : Int32)), (.int p1), (.int p2), (.int p3)]) (rest := [(.int p2)]) (lenOf pd_4 rfl) rfl (by show 2 * 0 + _ ≤ _; exact Nat.le_of_eq rfl) (hb hby at_119) (fun _ _ => ⟨rfl, P215_0, (by decide : 7 + 0 ≤ _), (by decide : 33030 + 0 ≤ _)⟩)
        dsimp only [Pt.U, Pt.locs, Pt.cells, Pt.slots] at X216 l216 y216 z216 st216 hQ216
        subst l216 y216 z216
        obtain ⟨hv216, N216q, P216_0⟩ := hQ216
        obtain rfl := hv216.trans (congrArg (fun z => some (Value.int z)) (by simp [own_exp] : (own_exp (1 : Int32) p1 p2 p3) = p2))
        have N216 := Fr.app N215 N216q
        obtain ⟨cq217, kq217, q217a, q217b, q217c⟩ := isOf hZ0 P216_0 f210
        obtain ⟨_, _, ⟨T217, L217, k217, n217⟩, -, X217, ⟨Lc217, hQ217, l217, y217, z217⟩, st217⟩ := X216.virtualBack hx (y := (⟨"holdfast/CountedIds$Batch", "tag", "(I)I"⟩ : MethodName)) (z := (⟨"holdfast/CountedIds$Batch", "tag", "(I)I"⟩ : MethodName)) hown0 (mvT hZ0 (hw _ (List.mem_of_getElem? (i := 42) rfl))) (mvT hZ0 (hw _ (List.mem_of_getElem? (i := 43) rfl))) (notFace_of_selects (args := #[]) (mvT hZ0 (hw _ (List.mem_of_getElem? (i := 45) rfl)))) (mvT hZ0 (hw _ (List.mem_of_getElem? (i := 45) rfl))) (mvT hZ0 (hw _ (List.mem_of_getElem? (i := 44) rfl))) (by decide) (backOf (W := 0) (rm5 l Z a0 hw [] b189 (2 : Int32) t_197 kt_197 tt_200 (own_up (own_up (own_up own_none (0 : Int32) p1) (1 : Int32) p2) (2 : Int32) p3) p3 T208.heap n0 Zs208 f209 pf0 P208_2 f212 P208_6 (by decide) (by decide) (by decide) rfl) hZ0 (hw _ (List.mem_of_getElem? (i := 46) rfl)) (hw _ (List.mem_of_getElem? (i := 2) rfl)) (by decide) (by decide)) q217a q217c (g := (mkF m 146 #[.val (.int p1), .val (.int p2), .val (.int p3), .val (.int p4), .val (.long q5), .second, .val (.int p6), .val (.ref b189), .val (.int (3 : Int32)), .val (.int (3 : Int32)), .val (.int (1 : Int32))] [(.int (2 : Int32)), (.ref b189)])) rfl (by rw [hml]; rfl) (Steps.refl _) (argsL := [(.int (2 : Int32))]) (rest := []) (lenOf pd_3 rfl) rfl (by show 2 * 0 + _ ≤ _; exact Nat.le_of_eq rfl) (hb hby at_146) (fun _ _ => ⟨rfl, P216_0, (by decide : 7 + 0 ≤ _), (by decide : 33030 + 0 ≤ _)⟩)
        dsimp only [Pt.U, Pt.locs, Pt.cells, Pt.slots] at X217 l217 y217 z217 st217 hQ217
        subst l217 y217 z217
        obtain ⟨rfl, N217q, P217_0⟩ := hQ217
        have N217 := Fr.app N216 N217q
        obtain ⟨_, _, ⟨T218, L218, k218, n218⟩, -, X218, ⟨Lc218, hQ218, l218, y218, z218⟩, st218⟩ := Jvm.LawKit.callS X217 hx (y := (⟨"holdfast/BatchTagPinLaw", "expected", "(IIII)I"⟩ : MethodName)) hown0 (mvT hZ0 (hw _ (List.mem_of_getElem? (i := 47) rfl))) (mvT hZ0 (hw _ (List.mem_of_getElem? (i := 48) rfl))) (mvT hZ0 (hw _ (List.mem_of_getElem? (i := 49) rfl))) (mvT hZ0 (hw _ (List.mem_of_getElem? (i := 50) rfl))) (by decide) (backOf (W := 1) (rm6 l Z a0 hw [] (2 : Int32) p1 p2 p3 T208.heap n0 Zs208 ) hZ0 (hw _ (List.mem_of_getElem? (i := 50) rfl)) (hw _ (List.mem_of_getElem? (i := 49) rfl)) (by decide) (by decide)) (g := (mkF m 153 #[.val (.int p1), .val (.int p2), .val (.int p3), .val (.int p4), .val (.long q5), .second, .val (.int p6), .val (.ref b189), .val (.int (3 : Int32)), .val (.int (3 : Int32)), .val (.int (1 : Int32))] [(.int p3), (.int p2), (.int p1), (.int (2 : Int32)), (.int p3)])) rfl (by rw [hml]; rfl) (argsL := [(.int (2 : Int32)), (.int p1), (.int p2), (.int p3)]) (rest := [(.int p3)]) (lenOf pd_4 rfl) rfl (by show 2 * 0 + _ ≤ _; exact Nat.le_of_eq rfl) (hb hby at_153) (fun _ _ => ⟨rfl, P217_0, (by decide : 7 + 0 ≤ _), (by decide : 33030 + 0 ≤ _)⟩)
        dsimp only [Pt.U, Pt.locs, Pt.cells, Pt.slots] at X218 l218 y218 z218 st218 hQ218
        subst l218 y218 z218
        obtain ⟨hv218, N218q, P218_0⟩ := hQ218
        obtain rfl := hv218.trans (congrArg (fun z => some (Value.int z)) (by simp [own_exp] : (own_exp (2 : Int32) p1 p2 p3) = p3))
        have N218 := Fr.app N217 N218q
        have pr219 : ∀ tg9, Steps p.tables e below (T218.setTop (mkF m 170 #[.val (.int p1), .val (.int p2), .val (.int p3), .val (.int p4), .val (.long q5), .second, .val (.int p6), .val (.ref b189), .val (.int (3 : Int32)), .val (.int (3 : Int32)), .val (.int (1 : Int32))] [(.int (p6 &&& (4 : Int32)))])) tg9 → Steps p.tables e below (s₁.setTop (mkF m 0 #[.val (.int p1), .val (.int p2), .val (.int p3), .val (.int p4), .val (.long q5), .second, .val (.int p6), .unset, .unset, .unset, .unset] [])) tg9 := fun tg9 kt => by
          show Steps p.tables e below (s₁.setTop (mkF m 0 #[.val (.int p1), .val (.int p2), .val (.int p3), .val (.int p4), .val (.long q5), .second, .val (.int p6), .unset, .unset, .unset, .unset] [])) _
          refine st189 _ ?_
          show Steps p.tables e below (T189.setTop (mkF m 3 #[.val (.int p1), .val (.int p2), .val (.int p3), .val (.int p4), .val (.long q5), .second, .val (.int p6), .unset, .unset, .unset, .unset] [(.ref b189)])) _
          refine XS.dup X189.here hx rfl (hb hby at_3) rfl rfl ?_
          show Steps p.tables e below (T189.setTop (mkF m 4 #[.val (.int p1), .val (.int p2), .val (.int p3), .val (.int p4), .val (.long q5), .second, .val (.int p6), .unset, .unset, .unset, .unset] [(.ref b189), (.ref b189)])) _
          refine st197.trans ?_
          show Steps p.tables e below (T197.setTop (mkF m 7 #[.val (.int p1), .val (.int p2), .val (.int p3), .val (.int p4), .val (.long q5), .second, .val (.int p6), .unset, .unset, .unset, .unset] [(.ref b189)])) _
          refine XS.astore X197.here hx rfl (hb hby at_7) rfl rfl (l' := #[.val (.int p1), .val (.int p2), .val (.int p3), .val (.int p4), .val (.long q5), .second, .val (.int p6), .val (.ref b189), .unset, .unset, .unset]) rfl ?_
          show Steps p.tables e below (T197.setTop (mkF m 9 #[.val (.int p1), .val (.int p2), .val (.int p3), .val (.int p4), .val (.long q5), .second, .val (.int p6), .val (.ref b189), .unset, .unset, .unset] [])) _
          refine XS.iload X197.here hx rfl (hb hby at_9) rfl ?_
          show Steps p.tables e below (T197.setTop (mkF m 11 #[.val (.int p1), .val (.int p2), .val (.int p3), .val (.int p4), .val (.long q5), .second, .val (.int p6), .val (.ref b189), .unset, .unset, .unset] [(.int p6)])) _
          refine XS.iconst X197.here hx rfl (hb hby at_11) ?_
          show Steps p.tables e below (T197.setTop (mkF m 12 #[.val (.int p1), .val (.int p2), .val (.int p3), .val (.int p4), .val (.long q5), .second, .val (.int p6), .val (.ref b189), .unset, .unset, .unset] [(.int (3 : Int32)), (.int p6)])) _
          refine XS.iand X197.here hx rfl (hb hby at_12) rfl ?_
          show Steps p.tables e below (T197.setTop (mkF m 13 #[.val (.int p1), .val (.int p2), .val (.int p3), .val (.int p4), .val (.long q5), .second, .val (.int p6), .val (.ref b189), .unset, .unset, .unset] [(.int (p6 &&& (3 : Int32)))])) _
          rw [hc188]
          show Steps p.tables e below (T197.setTop (mkF m 13 #[.val (.int p1), .val (.int p2), .val (.int p3), .val (.int p4), .val (.long q5), .second, .val (.int p6), .val (.ref b189), .unset, .unset, .unset] [(.int (3 : Int32))])) _
          refine XS.istore X197.here hx rfl (hb hby at_13) rfl (l' := #[.val (.int p1), .val (.int p2), .val (.int p3), .val (.int p4), .val (.long q5), .second, .val (.int p6), .val (.ref b189), .val (.int (3 : Int32)), .unset, .unset]) rfl ?_
          show Steps p.tables e below (T197.setTop (mkF m 15 #[.val (.int p1), .val (.int p2), .val (.int p3), .val (.int p4), .val (.long q5), .second, .val (.int p6), .val (.ref b189), .val (.int (3 : Int32)), .unset, .unset] [])) _
          refine XS.iload X197.here hx rfl (hb hby at_15) rfl ?_
          show Steps p.tables e below (T197.setTop (mkF m 17 #[.val (.int p1), .val (.int p2), .val (.int p3), .val (.int p4), .val (.long q5), .second, .val (.int p6), .val (.ref b189), .val (.int (3 : Int32)), .unset, .unset] [(.int (3 : Int32))])) _
          refine XS.iconst X197.here hx rfl (hb hby at_17) ?_
          show Steps p.tables e below (T197.setTop (mkF m 18 #[.val (.int p1), .val (.int p2), .val (.int p3), .val (.int p4), .val (.long q5), .second, .val (.int p6), .val (.ref b189), .val (.int (3 : Int32)), .unset, .unset] [(.int (3 : Int32)), (.int (3 : Int32))])) _
          refine XS.icmpNo X197.here hx rfl (hb hby at_18) rfl (teq (by decide : (3 : Int32) = (3 : Int32))).2 ?_
          show Steps p.tables e below (T197.setTop (mkF m 21 #[.val (.int p1), .val (.int p2), .val (.int p3), .val (.int p4), .val (.long q5), .second, .val (.int p6), .val (.ref b189), .val (.int (3 : Int32)), .unset, .unset] [])) _
          refine XS.iconst X197.here hx rfl (hb hby at_21) ?_
          show Steps p.tables e below (T197.setTop (mkF m 22 #[.val (.int p1), .val (.int p2), .val (.int p3), .val (.int p4), .val (.long q5), .second, .val (.int p6), .val (.ref b189), .val (.int (3 : Int32)), .unset, .unset] [(.int (3 : Int32))])) _
          refine XS.goto X197.here hx rfl (pc0 := 22) (pc' := 29) rfl (hb hby at_22) (by decide) (by decide) ?_
          show Steps p.tables e below (T197.setTop (mkF m 29 #[.val (.int p1), .val (.int p2), .val (.int p3), .val (.int p4), .val (.long q5), .second, .val (.int p6), .val (.ref b189), .val (.int (3 : Int32)), .unset, .unset] [(.int (3 : Int32))])) _
          refine XS.istore X197.here hx rfl (hb hby at_29) rfl (l' := #[.val (.int p1), .val (.int p2), .val (.int p3), .val (.int p4), .val (.long q5), .second, .val (.int p6), .val (.ref b189), .val (.int (3 : Int32)), .val (.int (3 : Int32)), .unset]) rfl ?_
          show Steps p.tables e below (T197.setTop (mkF m 31 #[.val (.int p1), .val (.int p2), .val (.int p3), .val (.int p4), .val (.long q5), .second, .val (.int p6), .val (.ref b189), .val (.int (3 : Int32)), .val (.int (3 : Int32)), .unset] [])) _
          refine XS.aload X197.here hx rfl (hb hby at_31) rfl rfl ?_
          show Steps p.tables e below (T197.setTop (mkF m 33 #[.val (.int p1), .val (.int p2), .val (.int p3), .val (.int p4), .val (.long q5), .second, .val (.int p6), .val (.ref b189), .val (.int (3 : Int32)), .val (.int (3 : Int32)), .unset] [(.ref b189)])) _
          refine XS.lload X197.here hx rfl (hb hby at_33) rfl ?_
          show Steps p.tables e below (T197.setTop (mkF m 35 #[.val (.int p1), .val (.int p2), .val (.int p3), .val (.int p4), .val (.long q5), .second, .val (.int p6), .val (.ref b189), .val (.int (3 : Int32)), .val (.int (3 : Int32)), .unset] [(.long q5), (.ref b189)])) _
          refine XS.iloadN X197.here hx rfl (hb hby at_35) rfl ?_
          show Steps p.tables e below (T197.setTop (mkF m 36 #[.val (.int p1), .val (.int p2), .val (.int p3), .val (.int p4), .val (.long q5), .second, .val (.int p6), .val (.ref b189), .val (.int (3 : Int32)), .val (.int (3 : Int32)), .unset] [(.int p1), (.long q5), (.ref b189)])) _
          refine st200.trans ?_
          show Steps p.tables e below (T200.setTop (mkF m 39 #[.val (.int p1), .val (.int p2), .val (.int p3), .val (.int p4), .val (.long q5), .second, .val (.int p6), .val (.ref b189), .val (.int (3 : Int32)), .val (.int (3 : Int32)), .unset] [])) _
          refine XS.iload X200.here hx rfl (hb hby at_39) rfl ?_
          show Steps p.tables e below (T200.setTop (mkF m 41 #[.val (.int p1), .val (.int p2), .val (.int p3), .val (.int p4), .val (.long q5), .second, .val (.int p6), .val (.ref b189), .val (.int (3 : Int32)), .val (.int (3 : Int32)), .unset] [(.int (3 : Int32))])) _
          refine XS.iconst X200.here hx rfl (hb hby at_41) ?_
          show Steps p.tables e below (T200.setTop (mkF m 42 #[.val (.int p1), .val (.int p2), .val (.int p3), .val (.int p4), .val (.long q5), .second, .val (.int p6), .val (.ref b189), .val (.int (3 : Int32)), .val (.int (3 : Int32)), .unset] [(.int (2 : Int32)), (.int (3 : Int32))])) _
          refine XS.icmpNo X200.here hx rfl (hb hby at_42) rfl (flt (by decide : ¬ ((3 : Int32) < (2 : Int32)))).1 ?_
          show Steps p.tables e below (T200.setTop (mkF m 45 #[.val (.int p1), .val (.int p2), .val (.int p3), .val (.int p4), .val (.long q5), .second, .val (.int p6), .val (.ref b189), .val (.int (3 : Int32)), .val (.int (3 : Int32)), .unset] [])) _
          refine XS.aload X200.here hx rfl (hb hby at_45) rfl rfl ?_
          show Steps p.tables e below (T200.setTop (mkF m 47 #[.val (.int p1), .val (.int p2), .val (.int p3), .val (.int p4), .val (.long q5), .second, .val (.int p6), .val (.ref b189), .val (.int (3 : Int32)), .val (.int (3 : Int32)), .unset] [(.ref b189)])) _
          refine XS.lload X200.here hx rfl (hb hby at_47) rfl ?_
          show Steps p.tables e below (T200.setTop (mkF m 49 #[.val (.int p1), .val (.int p2), .val (.int p3), .val (.int p4), .val (.long q5), .second, .val (.int p6), .val (.ref b189), .val (.int (3 : Int32)), .val (.int (3 : Int32)), .unset] [(.long q5), (.ref b189)])) _
          refine X200.ldc2J hx hown0 (mvT hZ0 (hw _ (List.mem_of_getElem? (i := 40) rfl))) (g := (mkF m 49 #[.val (.int p1), .val (.int p2), .val (.int p3), .val (.int p4), .val (.long q5), .second, .val (.int p6), .val (.ref b189), .val (.int (3 : Int32)), .val (.int (3 : Int32)), .unset] [(.long q5), (.ref b189)])) rfl (hb hby at_49) ?_
          show Steps p.tables e below (T200.setTop (mkF m 52 #[.val (.int p1), .val (.int p2), .val (.int p3), .val (.int p4), .val (.long q5), .second, .val (.int p6), .val (.ref b189), .val (.int (3 : Int32)), .val (.int (3 : Int32)), .unset] [(.long (-1 : Int64)), (.long q5), (.ref b189)])) _
          refine XS.lxor X200.here hx rfl (hb hby at_52) rfl ?_
          show Steps p.tables e below (T200.setTop (mkF m 53 #[.val (.int p1), .val (.int p2), .val (.int p3), .val (.int p4), .val (.long q5), .second, .val (.int p6), .val (.ref b189), .val (.int (3 : Int32)), .val (.int (3 : Int32)), .unset] [(.long (q5 ^^^ (-1 : Int64))), (.ref b189)])) _
          refine XS.iloadN X200.here hx rfl (hb hby at_53) rfl ?_
          show Steps p.tables e below (T200.setTop (mkF m 54 #[.val (.int p1), .val (.int p2), .val (.int p3), .val (.int p4), .val (.long q5), .second, .val (.int p6), .val (.ref b189), .val (.int (3 : Int32)), .val (.int (3 : Int32)), .unset] [(.int p2), (.long (q5 ^^^ (-1 : Int64))), (.ref b189)])) _
          refine st203.trans ?_
          show Steps p.tables e below (T203.setTop (mkF m 57 #[.val (.int p1), .val (.int p2), .val (.int p3), .val (.int p4), .val (.long q5), .second, .val (.int p6), .val (.ref b189), .val (.int (3 : Int32)), .val (.int (3 : Int32)), .unset] [])) _
          refine XS.iload X203.here hx rfl (hb hby at_57) rfl ?_
          show Steps p.tables e below (T203.setTop (mkF m 59 #[.val (.int p1), .val (.int p2), .val (.int p3), .val (.int p4), .val (.long q5), .second, .val (.int p6), .val (.ref b189), .val (.int (3 : Int32)), .val (.int (3 : Int32)), .unset] [(.int (3 : Int32))])) _
          refine XS.iconst X203.here hx rfl (hb hby at_59) ?_
          show Steps p.tables e below (T203.setTop (mkF m 60 #[.val (.int p1), .val (.int p2), .val (.int p3), .val (.int p4), .val (.long q5), .second, .val (.int p6), .val (.ref b189), .val (.int (3 : Int32)), .val (.int (3 : Int32)), .unset] [(.int (3 : Int32)), (.int (3 : Int32))])) _
          refine XS.icmpNo X203.here hx rfl (hb hby at_60) rfl (flt (by decide : ¬ ((3 : Int32) < (3 : Int32)))).1 ?_
          show Steps p.tables e below (T203.setTop (mkF m 63 #[.val (.int p1), .val (.int p2), .val (.int p3), .val (.int p4), .val (.long q5), .second, .val (.int p6), .val (.ref b189), .val (.int (3 : Int32)), .val (.int (3 : Int32)), .unset] [])) _
          refine XS.aload X203.here hx rfl (hb hby at_63) rfl rfl ?_
          show Steps p.tables e below (T203.setTop (mkF m 65 #[.val (.int p1), .val (.int p2), .val (.int p3), .val (.int p4), .val (.long q5), .second, .val (.int p6), .val (.ref b189), .val (.int (3 : Int32)), .val (.int (3 : Int32)), .unset] [(.ref b189)])) _
          refine XS.lload X203.here hx rfl (hb hby at_65) rfl ?_
          show Steps p.tables e below (T203.setTop (mkF m 67 #[.val (.int p1), .val (.int p2), .val (.int p3), .val (.int p4), .val (.long q5), .second, .val (.int p6), .val (.ref b189), .val (.int (3 : Int32)), .val (.int (3 : Int32)), .unset] [(.long q5), (.ref b189)])) _
          refine X203.ldc2J hx hown0 (mvT hZ0 (hw _ (List.mem_of_getElem? (i := 41) rfl))) (g := (mkF m 67 #[.val (.int p1), .val (.int p2), .val (.int p3), .val (.int p4), .val (.long q5), .second, .val (.int p6), .val (.ref b189), .val (.int (3 : Int32)), .val (.int (3 : Int32)), .unset] [(.long q5), (.ref b189)])) rfl (hb hby at_67) ?_
          show Steps p.tables e below (T203.setTop (mkF m 70 #[.val (.int p1), .val (.int p2), .val (.int p3), .val (.int p4), .val (.long q5), .second, .val (.int p6), .val (.ref b189), .val (.int (3 : Int32)), .val (.int (3 : Int32)), .unset] [(.long (6148914691236517205 : Int64)), (.long q5), (.ref b189)])) _
          refine XS.lxor X203.here hx rfl (hb hby at_70) rfl ?_
          show Steps p.tables e below (T203.setTop (mkF m 71 #[.val (.int p1), .val (.int p2), .val (.int p3), .val (.int p4), .val (.long q5), .second, .val (.int p6), .val (.ref b189), .val (.int (3 : Int32)), .val (.int (3 : Int32)), .unset] [(.long (q5 ^^^ (6148914691236517205 : Int64))), (.ref b189)])) _
          refine XS.iloadN X203.here hx rfl (hb hby at_71) rfl ?_
          show Steps p.tables e below (T203.setTop (mkF m 72 #[.val (.int p1), .val (.int p2), .val (.int p3), .val (.int p4), .val (.long q5), .second, .val (.int p6), .val (.ref b189), .val (.int (3 : Int32)), .val (.int (3 : Int32)), .unset] [(.int p3), (.long (q5 ^^^ (6148914691236517205 : Int64))), (.ref b189)])) _
          refine st208.trans ?_
          show Steps p.tables e below (T208.setTop (mkF m 75 #[.val (.int p1), .val (.int p2), .val (.int p3), .val (.int p4), .val (.long q5), .second, .val (.int p6), .val (.ref b189), .val (.int (3 : Int32)), .val (.int (3 : Int32)), .unset] [])) _
          refine XS.aload X208.here hx rfl (hb hby at_75) rfl rfl ?_
          show Steps p.tables e below (T208.setTop (mkF m 77 #[.val (.int p1), .val (.int p2), .val (.int p3), .val (.int p4), .val (.long q5), .second, .val (.int p6), .val (.ref b189), .val (.int (3 : Int32)), .val (.int (3 : Int32)), .unset] [(.ref b189)])) _
          refine XS.iconst X208.here hx rfl (hb hby at_77) ?_
          show Steps p.tables e below (T208.setTop (mkF m 78 #[.val (.int p1), .val (.int p2), .val (.int p3), .val (.int p4), .val (.long q5), .second, .val (.int p6), .val (.ref b189), .val (.int (3 : Int32)), .val (.int (3 : Int32)), .unset] [(.int (0 : Int32)), (.ref b189)])) _
          refine st213.trans ?_
          show Steps p.tables e below (T213.setTop (mkF m 81 #[.val (.int p1), .val (.int p2), .val (.int p3), .val (.int p4), .val (.long q5), .second, .val (.int p6), .val (.ref b189), .val (.int (3 : Int32)), .val (.int (3 : Int32)), .unset] [(.int p1)])) _
          refine XS.iconst X213.here hx rfl (hb hby at_81) ?_
          show Steps p.tables e below (T213.setTop (mkF m 82 #[.val (.int p1), .val (.int p2), .val (.int p3), .val (.int p4), .val (.long q5), .second, .val (.int p6), .val (.ref b189), .val (.int (3 : Int32)), .val (.int (3 : Int32)), .unset] [(.int (0 : Int32)), (.int p1)])) _
          refine XS.iloadN X213.here hx rfl (hb hby at_82) rfl ?_
          show Steps p.tables e below (T213.setTop (mkF m 83 #[.val (.int p1), .val (.int p2), .val (.int p3), .val (.int p4), .val (.long q5), .second, .val (.int p6), .val (.ref b189), .val (.int (3 : Int32)), .val (.int (3 : Int32)), .unset] [(.int p1), (.int (0 : Int32)), (.int p1)])) _
          refine XS.iloadN X213.here hx rfl (hb hby at_83) rfl ?_
          show Steps p.tables e below (T213.setTop (mkF m 84 #[.val (.int p1), .val (.int p2), .val (.int p3), .val (.int p4), .val (.long q5), .second, .val (.int p6), .val (.ref b189), .val (.int (3 : Int32)), .val (.int (3 : Int32)), .unset] [(.int p2), (.int p1), (.int (0 : Int32)), (.int p1)])) _
          refine XS.iloadN X213.here hx rfl (hb hby at_84) rfl ?_
          show Steps p.tables e below (T213.setTop (mkF m 85 #[.val (.int p1), .val (.int p2), .val (.int p3), .val (.int p4), .val (.long q5), .second, .val (.int p6), .val (.ref b189), .val (.int (3 : Int32)), .val (.int (3 : Int32)), .unset] [(.int p3), (.int p2), (.int p1), (.int (0 : Int32)), (.int p1)])) _
          refine st214 _ ?_
          show Steps p.tables e below (T214.setTop (mkF m 88 #[.val (.int p1), .val (.int p2), .val (.int p3), .val (.int p4), .val (.long q5), .second, .val (.int p6), .val (.ref b189), .val (.int (3 : Int32)), .val (.int (3 : Int32)), .unset] [(.int p1), (.int p1)])) _
          refine XS.icmpNo X214.here hx rfl (hb hby at_88) rfl (teq (rfl : p1 = p1)).2 ?_
          show Steps p.tables e below (T214.setTop (mkF m 91 #[.val (.int p1), .val (.int p2), .val (.int p3), .val (.int p4), .val (.long q5), .second, .val (.int p6), .val (.ref b189), .val (.int (3 : Int32)), .val (.int (3 : Int32)), .unset] [])) _
          refine XS.iconst X214.here hx rfl (hb hby at_91) ?_
          show Steps p.tables e below (T214.setTop (mkF m 92 #[.val (.int p1), .val (.int p2), .val (.int p3), .val (.int p4), .val (.long q5), .second, .val (.int p6), .val (.ref b189), .val (.int (3 : Int32)), .val (.int (3 : Int32)), .unset] [(.int (1 : Int32))])) _
          refine XS.goto X214.here hx rfl (pc0 := 92) (pc' := 96) rfl (hb hby at_92) (by decide) (by decide) ?_
          show Steps p.tables e below (T214.setTop (mkF m 96 #[.val (.int p1), .val (.int p2), .val (.int p3), .val (.int p4), .val (.long q5), .second, .val (.int p6), .val (.ref b189), .val (.int (3 : Int32)), .val (.int (3 : Int32)), .unset] [(.int (1 : Int32))])) _
          refine XS.istore X214.here hx rfl (hb hby at_96) rfl (l' := #[.val (.int p1), .val (.int p2), .val (.int p3), .val (.int p4), .val (.long q5), .second, .val (.int p6), .val (.ref b189), .val (.int (3 : Int32)), .val (.int (3 : Int32)), .val (.int (1 : Int32))]) rfl ?_
          show Steps p.tables e below (T214.setTop (mkF m 98 #[.val (.int p1), .val (.int p2), .val (.int p3), .val (.int p4), .val (.long q5), .second, .val (.int p6), .val (.ref b189), .val (.int (3 : Int32)), .val (.int (3 : Int32)), .val (.int (1 : Int32))] [])) _
          refine XS.iload X214.here hx rfl (hb hby at_98) rfl ?_
          show Steps p.tables e below (T214.setTop (mkF m 100 #[.val (.int p1), .val (.int p2), .val (.int p3), .val (.int p4), .val (.long q5), .second, .val (.int p6), .val (.ref b189), .val (.int (3 : Int32)), .val (.int (3 : Int32)), .val (.int (1 : Int32))] [(.int (3 : Int32))])) _
          refine XS.iconst X214.here hx rfl (hb hby at_100) ?_
          show Steps p.tables e below (T214.setTop (mkF m 101 #[.val (.int p1), .val (.int p2), .val (.int p3), .val (.int p4), .val (.long q5), .second, .val (.int p6), .val (.ref b189), .val (.int (3 : Int32)), .val (.int (3 : Int32)), .val (.int (1 : Int32))] [(.int (2 : Int32)), (.int (3 : Int32))])) _
          refine XS.icmpNo X214.here hx rfl (hb hby at_101) rfl (flt (by decide : ¬ ((3 : Int32) < (2 : Int32)))).1 ?_
          show Steps p.tables e below (T214.setTop (mkF m 104 #[.val (.int p1), .val (.int p2), .val (.int p3), .val (.int p4), .val (.long q5), .second, .val (.int p6), .val (.ref b189), .val (.int (3 : Int32)), .val (.int (3 : Int32)), .val (.int (1 : Int32))] [])) _
          refine XS.iload X214.here hx rfl (hb hby at_104) rfl ?_
          show Steps p.tables e below (T214.setTop (mkF m 106 #[.val (.int p1), .val (.int p2), .val (.int p3), .val (.int p4), .val (.long q5), .second, .val (.int p6), .val (.ref b189), .val (.int (3 : Int32)), .val (.int (3 : Int32)), .val (.int (1 : Int32))] [(.int (1 : Int32))])) _
          refine XS.ifNo X214.here hx rfl (hb hby at_106) rfl ((if0 _ _).trans (feq (by decide : ¬ ((1 : Int32) = (0 : Int32)))).1) ?_
          show Steps p.tables e below (T214.setTop (mkF m 109 #[.val (.int p1), .val (.int p2), .val (.int p3), .val (.int p4), .val (.long q5), .second, .val (.int p6), .val (.ref b189), .val (.int (3 : Int32)), .val (.int (3 : Int32)), .val (.int (1 : Int32))] [])) _
          refine XS.aload X214.here hx rfl (hb hby at_109) rfl rfl ?_
          show Steps p.tables e below (T214.setTop (mkF m 111 #[.val (.int p1), .val (.int p2), .val (.int p3), .val (.int p4), .val (.long q5), .second, .val (.int p6), .val (.ref b189), .val (.int (3 : Int32)), .val (.int (3 : Int32)), .val (.int (1 : Int32))] [(.ref b189)])) _
          refine XS.iconst X214.here hx rfl (hb hby at_111) ?_
          show Steps p.tables e below (T214.setTop (mkF m 112 #[.val (.int p1), .val (.int p2), .val (.int p3), .val (.int p4), .val (.long q5), .second, .val (.int p6), .val (.ref b189), .val (.int (3 : Int32)), .val (.int (3 : Int32)), .val (.int (1 : Int32))] [(.int (1 : Int32)), (.ref b189)])) _
          refine st215.trans ?_
          show Steps p.tables e below (T215.setTop (mkF m 115 #[.val (.int p1), .val (.int p2), .val (.int p3), .val (.int p4), .val (.long q5), .second, .val (.int p6), .val (.ref b189), .val (.int (3 : Int32)), .val (.int (3 : Int32)), .val (.int (1 : Int32))] [(.int p2)])) _
          refine XS.iconst X215.here hx rfl (hb hby at_115) ?_
          show Steps p.tables e below (T215.setTop (mkF m 116 #[.val (.int p1), .val (.int p2), .val (.int p3), .val (.int p4), .val (.long q5), .second, .val (.int p6), .val (.ref b189), .val (.int (3 : Int32)), .val (.int (3 : Int32)), .val (.int (1 : Int32))] [(.int (1 : Int32)), (.int p2)])) _
          refine XS.iloadN X215.here hx rfl (hb hby at_116) rfl ?_
          show Steps p.tables e below (T215.setTop (mkF m 117 #[.val (.int p1), .val (.int p2), .val (.int p3), .val (.int p4), .val (.long q5), .second, .val (.int p6), .val (.ref b189), .val (.int (3 : Int32)), .val (.int (3 : Int32)), .val (.int (1 : Int32))] [(.int p1), (.int (1 : Int32)), (.int p2)])) _
          refine XS.iloadN X215.here hx rfl (hb hby at_117) rfl ?_
          show Steps p.tables e below (T215.setTop (mkF m 118 #[.val (.int p1), .val (.int p2), .val (.int p3), .val (.int p4), .val (.long q5), .second, .val (.int p6), .val (.ref b189), .val (.int (3 : Int32)), .val (.int (3 : Int32)), .val (.int (1 : Int32))] [(.int p2), (.int p1), (.int (1 : Int32)), (.int p2)])) _
          refine XS.iloadN X215.here hx rfl (hb hby at_118) rfl ?_
          show Steps p.tables e below (T215.setTop (mkF m 119 #[.val (.int p1), .val (.int p2), .val (.int p3), .val (.int p4), .val (.long q5), .second, .val (.int p6), .val (.ref b189), .val (.int (3 : Int32)), .val (.int (3 : Int32)), .val (.int (1 : Int32))] [(.int p3), (.int p2), (.int p1), (.int (1 : Int32)), (.int p2)])) _
          refine st216 _ ?_
          show Steps p.tables e below (T216.setTop (mkF m 122 #[.val (.int p1), .val (.int p2), .val (.int p3), .val (.int p4), .val (.long q5), .second, .val (.int p6), .val (.ref b189), .val (.int (3 : Int32)), .val (.int (3 : Int32)), .val (.int (1 : Int32))] [(.int p2), (.int p2)])) _
          refine XS.icmpNo X216.here hx rfl (hb hby at_122) rfl (teq (rfl : p2 = p2)).2 ?_
          show Steps p.tables e below (T216.setTop (mkF m 125 #[.val (.int p1), .val (.int p2), .val (.int p3), .val (.int p4), .val (.long q5), .second, .val (.int p6), .val (.ref b189), .val (.int (3 : Int32)), .val (.int (3 : Int32)), .val (.int (1 : Int32))] [])) _
          refine XS.iconst X216.here hx rfl (hb hby at_125) ?_
          show Steps p.tables e below (T216.setTop (mkF m 126 #[.val (.int p1), .val (.int p2), .val (.int p3), .val (.int p4), .val (.long q5), .second, .val (.int p6), .val (.ref b189), .val (.int (3 : Int32)), .val (.int (3 : Int32)), .val (.int (1 : Int32))] [(.int (1 : Int32))])) _
          refine XS.goto X216.here hx rfl (pc0 := 126) (pc' := 130) rfl (hb hby at_126) (by decide) (by decide) ?_
          show Steps p.tables e below (T216.setTop (mkF m 130 #[.val (.int p1), .val (.int p2), .val (.int p3), .val (.int p4), .val (.long q5), .second, .val (.int p6), .val (.ref b189), .val (.int (3 : Int32)), .val (.int (3 : Int32)), .val (.int (1 : Int32))] [(.int (1 : Int32))])) _
          refine XS.istore X216.here hx rfl (hb hby at_130) rfl (l' := #[.val (.int p1), .val (.int p2), .val (.int p3), .val (.int p4), .val (.long q5), .second, .val (.int p6), .val (.ref b189), .val (.int (3 : Int32)), .val (.int (3 : Int32)), .val (.int (1 : Int32))]) rfl ?_
          show Steps p.tables e below (T216.setTop (mkF m 132 #[.val (.int p1), .val (.int p2), .val (.int p3), .val (.int p4), .val (.long q5), .second, .val (.int p6), .val (.ref b189), .val (.int (3 : Int32)), .val (.int (3 : Int32)), .val (.int (1 : Int32))] [])) _
          refine XS.iload X216.here hx rfl (hb hby at_132) rfl ?_
          show Steps p.tables e below (T216.setTop (mkF m 134 #[.val (.int p1), .val (.int p2), .val (.int p3), .val (.int p4), .val (.long q5), .second, .val (.int p6), .val (.ref b189), .val (.int (3 : Int32)), .val (.int (3 : Int32)), .val (.int (1 : Int32))] [(.int (3 : Int32))])) _
          refine XS.iconst X216.here hx rfl (hb hby at_134) ?_
          show Steps p.tables e below (T216.setTop (mkF m 135 #[.val (.int p1), .val (.int p2), .val (.int p3), .val (.int p4), .val (.long q5), .second, .val (.int p6), .val (.ref b189), .val (.int (3 : Int32)), .val (.int (3 : Int32)), .val (.int (1 : Int32))] [(.int (3 : Int32)), (.int (3 : Int32))])) _
          refine XS.icmpNo X216.here hx rfl (hb hby at_135) rfl (flt (by decide : ¬ ((3 : Int32) < (3 : Int32)))).1 ?_
          show Steps p.tables e below (T216.setTop (mkF m 138 #[.val (.int p1), .val (.int p2), .val (.int p3), .val (.int p4), .val (.long q5), .second, .val (.int p6), .val (.ref b189), .val (.int (3 : Int32)), .val (.int (3 : Int32)), .val (.int (1 : Int32))] [])) _
          refine XS.iload X216.here hx rfl (hb hby at_138) rfl ?_
          show Steps p.tables e below (T216.setTop (mkF m 140 #[.val (.int p1), .val (.int p2), .val (.int p3), .val (.int p4), .val (.long q5), .second, .val (.int p6), .val (.ref b189), .val (.int (3 : Int32)), .val (.int (3 : Int32)), .val (.int (1 : Int32))] [(.int (1 : Int32))])) _
          refine XS.ifNo X216.here hx rfl (hb hby at_140) rfl ((if0 _ _).trans (feq (by decide : ¬ ((1 : Int32) = (0 : Int32)))).1) ?_
          show Steps p.tables e below (T216.setTop (mkF m 143 #[.val (.int p1), .val (.int p2), .val (.int p3), .val (.int p4), .val (.long q5), .second, .val (.int p6), .val (.ref b189), .val (.int (3 : Int32)), .val (.int (3 : Int32)), .val (.int (1 : Int32))] [])) _
          refine XS.aload X216.here hx rfl (hb hby at_143) rfl rfl ?_
          show Steps p.tables e below (T216.setTop (mkF m 145 #[.val (.int p1), .val (.int p2), .val (.int p3), .val (.int p4), .val (.long q5), .second, .val (.int p6), .val (.ref b189), .val (.int (3 : Int32)), .val (.int (3 : Int32)), .val (.int (1 : Int32))] [(.ref b189)])) _
          refine XS.iconst X216.here hx rfl (hb hby at_145) ?_
          show Steps p.tables e below (T216.setTop (mkF m 146 #[.val (.int p1), .val (.int p2), .val (.int p3), .val (.int p4), .val (.long q5), .second, .val (.int p6), .val (.ref b189), .val (.int (3 : Int32)), .val (.int (3 : Int32)), .val (.int (1 : Int32))] [(.int (2 : Int32)), (.ref b189)])) _
          refine st217.trans ?_
          show Steps p.tables e below (T217.setTop (mkF m 149 #[.val (.int p1), .val (.int p2), .val (.int p3), .val (.int p4), .val (.long q5), .second, .val (.int p6), .val (.ref b189), .val (.int (3 : Int32)), .val (.int (3 : Int32)), .val (.int (1 : Int32))] [(.int p3)])) _
          refine XS.iconst X217.here hx rfl (hb hby at_149) ?_
          show Steps p.tables e below (T217.setTop (mkF m 150 #[.val (.int p1), .val (.int p2), .val (.int p3), .val (.int p4), .val (.long q5), .second, .val (.int p6), .val (.ref b189), .val (.int (3 : Int32)), .val (.int (3 : Int32)), .val (.int (1 : Int32))] [(.int (2 : Int32)), (.int p3)])) _
          refine XS.iloadN X217.here hx rfl (hb hby at_150) rfl ?_
          show Steps p.tables e below (T217.setTop (mkF m 151 #[.val (.int p1), .val (.int p2), .val (.int p3), .val (.int p4), .val (.long q5), .second, .val (.int p6), .val (.ref b189), .val (.int (3 : Int32)), .val (.int (3 : Int32)), .val (.int (1 : Int32))] [(.int p1), (.int (2 : Int32)), (.int p3)])) _
          refine XS.iloadN X217.here hx rfl (hb hby at_151) rfl ?_
          show Steps p.tables e below (T217.setTop (mkF m 152 #[.val (.int p1), .val (.int p2), .val (.int p3), .val (.int p4), .val (.long q5), .second, .val (.int p6), .val (.ref b189), .val (.int (3 : Int32)), .val (.int (3 : Int32)), .val (.int (1 : Int32))] [(.int p2), (.int p1), (.int (2 : Int32)), (.int p3)])) _
          refine XS.iloadN X217.here hx rfl (hb hby at_152) rfl ?_
          show Steps p.tables e below (T217.setTop (mkF m 153 #[.val (.int p1), .val (.int p2), .val (.int p3), .val (.int p4), .val (.long q5), .second, .val (.int p6), .val (.ref b189), .val (.int (3 : Int32)), .val (.int (3 : Int32)), .val (.int (1 : Int32))] [(.int p3), (.int p2), (.int p1), (.int (2 : Int32)), (.int p3)])) _
          refine st218 _ ?_
          show Steps p.tables e below (T218.setTop (mkF m 156 #[.val (.int p1), .val (.int p2), .val (.int p3), .val (.int p4), .val (.long q5), .second, .val (.int p6), .val (.ref b189), .val (.int (3 : Int32)), .val (.int (3 : Int32)), .val (.int (1 : Int32))] [(.int p3), (.int p3)])) _
          refine XS.icmpNo X218.here hx rfl (hb hby at_156) rfl (teq (rfl : p3 = p3)).2 ?_
          show Steps p.tables e below (T218.setTop (mkF m 159 #[.val (.int p1), .val (.int p2), .val (.int p3), .val (.int p4), .val (.long q5), .second, .val (.int p6), .val (.ref b189), .val (.int (3 : Int32)), .val (.int (3 : Int32)), .val (.int (1 : Int32))] [])) _
          refine XS.iconst X218.here hx rfl (hb hby at_159) ?_
          show Steps p.tables e below (T218.setTop (mkF m 160 #[.val (.int p1), .val (.int p2), .val (.int p3), .val (.int p4), .val (.long q5), .second, .val (.int p6), .val (.ref b189), .val (.int (3 : Int32)), .val (.int (3 : Int32)), .val (.int (1 : Int32))] [(.int (1 : Int32))])) _
          refine XS.goto X218.here hx rfl (pc0 := 160) (pc' := 164) rfl (hb hby at_160) (by decide) (by decide) ?_
          show Steps p.tables e below (T218.setTop (mkF m 164 #[.val (.int p1), .val (.int p2), .val (.int p3), .val (.int p4), .val (.long q5), .second, .val (.int p6), .val (.ref b189), .val (.int (3 : Int32)), .val (.int (3 : Int32)), .val (.int (1 : Int32))] [(.int (1 : Int32))])) _
          refine XS.istore X218.here hx rfl (hb hby at_164) rfl (l' := #[.val (.int p1), .val (.int p2), .val (.int p3), .val (.int p4), .val (.long q5), .second, .val (.int p6), .val (.ref b189), .val (.int (3 : Int32)), .val (.int (3 : Int32)), .val (.int (1 : Int32))]) rfl ?_
          show Steps p.tables e below (T218.setTop (mkF m 166 #[.val (.int p1), .val (.int p2), .val (.int p3), .val (.int p4), .val (.long q5), .second, .val (.int p6), .val (.ref b189), .val (.int (3 : Int32)), .val (.int (3 : Int32)), .val (.int (1 : Int32))] [])) _
          refine XS.iload X218.here hx rfl (hb hby at_166) rfl ?_
          show Steps p.tables e below (T218.setTop (mkF m 168 #[.val (.int p1), .val (.int p2), .val (.int p3), .val (.int p4), .val (.long q5), .second, .val (.int p6), .val (.ref b189), .val (.int (3 : Int32)), .val (.int (3 : Int32)), .val (.int (1 : Int32))] [(.int p6)])) _
          refine XS.iconst X218.here hx rfl (hb hby at_168) ?_
          show Steps p.tables e below (T218.setTop (mkF m 169 #[.val (.int p1), .val (.int p2), .val (.int p3), .val (.int p4), .val (.long q5), .second, .val (.int p6), .val (.ref b189), .val (.int (3 : Int32)), .val (.int (3 : Int32)), .val (.int (1 : Int32))] [(.int (4 : Int32)), (.int p6)])) _
          refine XS.iand X218.here hx rfl (hb hby at_169) rfl ?_
          exact kt
        by_cases hc220 : (p6 &&& (4 : Int32)) = (0 : Int32)
        · obtain ⟨fs, hr, hrun, hended, hW, hsame⟩ := X218.leave (v := some (.int (1 : Int32))) (fun h => by rw [Bd.returns] at h; cases h) hlk
          refine ⟨_, _, pre0 _ ?_, hrun, hended, _, _, rfl, ?_, ⟨_, rfl⟩, hW, hsame.mono (by decide) (by decide)⟩
          · refine pr219 _ ?_
            show Steps p.tables e below (T218.setTop (mkF m 170 #[.val (.int p1), .val (.int p2), .val (.int p3), .val (.int p4), .val (.long q5), .second, .val (.int p6), .val (.ref b189), .val (.int (3 : Int32)), .val (.int (3 : Int32)), .val (.int (1 : Int32))] [(.int (p6 &&& (4 : Int32)))])) _
            refine XS.ifYes X218.here hx rfl (pc0 := 170) (pc' := 208) rfl (hb hby at_170) rfl ((if0 _ _).trans (teq hc220).1) (by decide) (by decide) ?_
            show Steps p.tables e below (T218.setTop (mkF m 208 #[.val (.int p1), .val (.int p2), .val (.int p3), .val (.int p4), .val (.long q5), .second, .val (.int p6), .val (.ref b189), .val (.int (3 : Int32)), .val (.int (3 : Int32)), .val (.int (1 : Int32))] [])) _
            refine XS.iload X218.here hx rfl (hb hby at_208) rfl ?_
            show Steps p.tables e below (T218.setTop (mkF m 210 #[.val (.int p1), .val (.int p2), .val (.int p3), .val (.int p4), .val (.long q5), .second, .val (.int p6), .val (.ref b189), .val (.int (3 : Int32)), .val (.int (3 : Int32)), .val (.int (1 : Int32))] [(.int (1 : Int32))])) _
            exact retN X218 hx (t := .boolean) Bd.returns (by simp) (hb hby at_210) hr
          · show Q0 Z p1 p2 p3 p4 q5 p6 h0 n0 _ T218.heap _
            rw [P218_0]
            exact ⟨rfl, N218⟩
        · obtain ⟨cq221, kq221, q221a, q221b, q221c⟩ := isOf hZ0 P218_0 f210
          obtain ⟨_, _, ⟨T221, L221, k221, n221⟩, -, X221, ⟨Lc221, hQ221, l221, y221, z221⟩, st221⟩ := X218.virtualBack hx (y := (⟨"holdfast/CountedIds$Batch", "clear", "()V"⟩ : MethodName)) (z := (⟨"holdfast/CountedIds$Batch", "clear", "()V"⟩ : MethodName)) hown0 (mvT hZ0 (hw _ (List.mem_of_getElem? (i := 51) rfl))) (mvT hZ0 (hw _ (List.mem_of_getElem? (i := 52) rfl))) (notFace_of_selects (args := #[]) (mvT hZ0 (hw _ (List.mem_of_getElem? (i := 54) rfl)))) (mvT hZ0 (hw _ (List.mem_of_getElem? (i := 54) rfl))) (mvT hZ0 (hw _ (List.mem_of_getElem? (i := 53) rfl))) (by decide) (backOf (W := 0) (rm7 l Z a0 hw [] b189 d_197 t_197 (0 : Int32) (3 : Int32) T208.heap n0 Zs208 f210 gn_b189 P208_1 P208_2 P208_3 P208_4) hZ0 (hw _ (List.mem_of_getElem? (i := 55) rfl)) (hw _ (List.mem_of_getElem? (i := 2) rfl)) (by decide) (by decide)) q221a q221c (g := (mkF m 175 #[.val (.int p1), .val (.int p2), .val (.int p3), .val (.int p4), .val (.long q5), .second, .val (.int p6), .val (.ref b189), .val (.int (3 : Int32)), .val (.int (3 : Int32)), .val (.int (1 : Int32))] [(.ref b189)])) rfl (by rw [hml]; rfl) (Steps.refl _) (argsL := []) (rest := []) (lenOf pd_1 rfl) rfl (by show 2 * 0 + _ ≤ _; exact Nat.le_of_eq rfl) (hb hby at_175) (fun _ _ => ⟨rfl, P218_0, (by decide : 7 + 0 ≤ _), (by decide : 33030 + 0 ≤ _)⟩)
          dsimp only [Pt.U, Pt.locs, Pt.cells, Pt.slots] at X221 l221 y221 z221 st221 hQ221
          subst l221 y221 z221
          obtain ⟨rfl, N221q, P221_0, P221_1, P221_2, P221_3, P221_4⟩ := hQ221
          have N221 := Fr.app N218 N221q
          have f222 : Old Z n0 T221.heap := f209.keep P221_0 (allS gn_b189 all0)
          have f223 : Exa Z T221.heap b189 "holdfast/CountedIds$Batch" := f210.keep P221_0
          have f224 : Arv Z T221.heap d_197 kd_197 (.array .long) (64 : Int32) [(.ref dd_200)] .null := f211.keep P221_0 (ninS (Ne.symm ne_b189_d_197) nin0)
          have f225 : Arv Z T221.heap t_197 kt_197 (.array .int) (64 : Int32) [(.ref tt_200)] .null := f212.keep P221_0 (ninS (Ne.symm ne_b189_t_197) nin0)
          have f226 : OwnLng Z T221.heap dd_200 := OwnLng.keep P208_5 P221_0 (ninS (Ne.symm ne_b189_dd_200) nin0)
          have f227 : OwnTg Z T221.heap tt_200 (own_up (own_up (own_up own_none (0 : Int32) p1) (1 : Int32) p2) (2 : Int32) p3) := OwnTg.keep P208_6 P221_0 (ninS (Ne.symm ne_b189_tt_200) nin0)
          have Zs221 : n0 ≤ T221.heap.size := Nat.le_trans Zs208 P221_0.1
          obtain ⟨cq228, kq228, q228a, q228b, q228c⟩ := isOf hZ0 rfl f223
          obtain ⟨_, _, ⟨T228, L228, k228, n228⟩, -, X228, ⟨Lc228, hQ228, l228, y228, z228⟩, st228⟩ := X221.virtualBack hx (y := (⟨"holdfast/CountedIds$Batch", "add", "(JI)V"⟩ : MethodName)) (z := (⟨"holdfast/CountedIds$Batch", "add", "(JI)V"⟩ : MethodName)) hown0 (mvT hZ0 (hw _ (List.mem_of_getElem? (i := 23) rfl))) (mvT hZ0 (hw _ (List.mem_of_getElem? (i := 24) rfl))) (notFace_of_selects (args := #[]) (mvT hZ0 (hw _ (List.mem_of_getElem? (i := 26) rfl)))) (mvT hZ0 (hw _ (List.mem_of_getElem? (i := 26) rfl))) (mvT hZ0 (hw _ (List.mem_of_getElem? (i := 25) rfl))) (by decide) (backOf (W := 0) (rm3n l Z a0 hw [] b189 q5 p4 d_197 t_197 kd_197 kt_197 (1 : Int32) dd_200 tt_200 (own_up (own_up (own_up own_none (0 : Int32) p1) (1 : Int32) p2) (2 : Int32) p3) (0 : Int32) (1 : Int32) T221.heap n0 Zs221 f222 pf0 f223 gn_b189 gn_d_197 gn_t_197 ne_b189_d_197 ne_b189_t_197 P197_3 P221_1 P221_2 P221_3 P221_4 f224 f225 f226 f227 P200_3 ne_t_197_dd_200 ne_d_197_dd_200 ne_d_197_tt_200 ne_t_197_tt_200 ne_b189_dd_200 ne_b189_tt_200 gn_dd_200 gn_tt_200 (by decide) (by decide) (by decide) (by decide) (by decide)) hZ0 (hw _ (List.mem_of_getElem? (i := 27) rfl)) (hw _ (List.mem_of_getElem? (i := 2) rfl)) (by decide) (by decide)) q228a q228c (g := (mkF m 183 #[.val (.int p1), .val (.int p2), .val (.int p3), .val (.int p4), .val (.long q5), .second, .val (.int p6), .val (.ref b189), .val (.int (3 : Int32)), .val (.int (3 : Int32)), .val (.int (1 : Int32))] [(.int p4), (.long q5), (.ref b189)])) rfl (by rw [hml]; rfl) (Steps.refl _) (argsL := [(.long q5), (.int p4)]) (rest := []) (lenOf pd_2 rfl) rfl (by show 2 * 0 + _ ≤ _; exact Nat.le_of_eq rfl) (hb hby at_183) (fun _ _ => ⟨rfl, rfl, (by decide : 7 + 0 ≤ _), (by decide : 33030 + 0 ≤ _)⟩)
          dsimp only [Pt.U, Pt.locs, Pt.cells, Pt.slots] at X228 l228 y228 z228 st228 hQ228
          subst l228 y228 z228
          obtain ⟨rfl, N228q, P228_0, P228_1, P228_2, P228_3, P228_4, P228_5, P228_6⟩ := hQ228
          have N228 := Fr.app N221 N228q
          have f229 : Old Z n0 T228.heap := f222.keep P228_0 (allS gn_b189 (allS gn_dd_200 (allS gn_tt_200 all0)))
          have f230 : Exa Z T228.heap b189 "holdfast/CountedIds$Batch" := f223.keep P228_0
          have f231 : Arv Z T228.heap d_197 kd_197 (.array .long) (64 : Int32) [(.ref dd_200)] .null := f224.keep P228_0 (ninS (Ne.symm ne_b189_d_197) (ninS ne_d_197_dd_200 (ninS ne_d_197_tt_200 nin0)))
          have f232 : Arv Z T228.heap t_197 kt_197 (.array .int) (64 : Int32) [(.ref tt_200)] .null := f225.keep P228_0 (ninS (Ne.symm ne_b189_t_197) (ninS ne_t_197_dd_200 (ninS ne_t_197_tt_200 nin0)))
          have Zs228 : n0 ≤ T228.heap.size := Nat.le_trans Zs221 P228_0.1
          obtain ⟨cq233, kq233, q233a, q233b, q233c⟩ := isOf hZ0 rfl f230
          obtain ⟨_, _, ⟨T233, L233, k233, n233⟩, -, X233, ⟨Lc233, hQ233, l233, y233, z233⟩, st233⟩ := X228.virtualBack hx (y := (⟨"holdfast/CountedIds$Batch", "tag", "(I)I"⟩ : MethodName)) (z := (⟨"holdfast/CountedIds$Batch", "tag", "(I)I"⟩ : MethodName)) hown0 (mvT hZ0 (hw _ (List.mem_of_getElem? (i := 42) rfl))) (mvT hZ0 (hw _ (List.mem_of_getElem? (i := 43) rfl))) (notFace_of_selects (args := #[]) (mvT hZ0 (hw _ (List.mem_of_getElem? (i := 45) rfl)))) (mvT hZ0 (hw _ (List.mem_of_getElem? (i := 45) rfl))) (mvT hZ0 (hw _ (List.mem_of_getElem? (i := 44) rfl))) (by decide) (backOf (W := 0) (rm5 l Z a0 hw [] b189 (0 : Int32) t_197 kt_197 tt_200 (own_up (own_up (own_up (own_up own_none (0 : Int32) p1) (1 : Int32) p2) (2 : Int32) p3) (0 : Int32) p4) p4 T228.heap n0 Zs228 f229 pf0 P228_2 f232 P228_6 (by decide) (by decide) (by decide) rfl) hZ0 (hw _ (List.mem_of_getElem? (i := 46) rfl)) (hw _ (List.mem_of_getElem? (i := 2) rfl)) (by decide) (by decide)) q233a q233c (g := (mkF m 194 #[.val (.int p1), .val (.int p2), .val (.int p3), .val (.int p4), .val (.long q5), .second, .val (.int p6), .val (.ref b189), .val (.int (3 : Int32)), .val (.int (3 : Int32)), .val (.int (1 : Int32))] [(.int (0 : Int32)), (.ref b189)])) rfl (by rw [hml]; rfl) (Steps.refl _) (argsL := [(.int (0 : Int32))]) (rest := []) (lenOf pd_3 rfl) rfl (by show 2 * 0 + _ ≤ _; exact Nat.le_of_eq rfl) (hb hby at_194) (fun _ _ => ⟨rfl, rfl, (by decide : 7 + 0 ≤ _), (by decide : 33030 + 0 ≤ _)⟩)
          dsimp only [Pt.U, Pt.locs, Pt.cells, Pt.slots] at X233 l233 y233 z233 st233 hQ233
          subst l233 y233 z233
          obtain ⟨rfl, N233q, P233_0⟩ := hQ233
          have N233 := Fr.app N228 N233q
          obtain ⟨fs, hr, hrun, hended, hW, hsame⟩ := X233.leave (v := some (.int (1 : Int32))) (fun h => by rw [Bd.returns] at h; cases h) hlk
          refine ⟨_, _, pre0 _ ?_, hrun, hended, _, _, rfl, ?_, ⟨_, rfl⟩, hW, hsame.mono (by decide) (by decide)⟩
          · refine pr219 _ ?_
            show Steps p.tables e below (T218.setTop (mkF m 170 #[.val (.int p1), .val (.int p2), .val (.int p3), .val (.int p4), .val (.long q5), .second, .val (.int p6), .val (.ref b189), .val (.int (3 : Int32)), .val (.int (3 : Int32)), .val (.int (1 : Int32))] [(.int (p6 &&& (4 : Int32)))])) _
            refine XS.ifNo X218.here hx rfl (hb hby at_170) rfl ((if0 _ _).trans (feq hc220).1) ?_
            show Steps p.tables e below (T218.setTop (mkF m 173 #[.val (.int p1), .val (.int p2), .val (.int p3), .val (.int p4), .val (.long q5), .second, .val (.int p6), .val (.ref b189), .val (.int (3 : Int32)), .val (.int (3 : Int32)), .val (.int (1 : Int32))] [])) _
            refine XS.aload X218.here hx rfl (hb hby at_173) rfl rfl ?_
            show Steps p.tables e below (T218.setTop (mkF m 175 #[.val (.int p1), .val (.int p2), .val (.int p3), .val (.int p4), .val (.long q5), .second, .val (.int p6), .val (.ref b189), .val (.int (3 : Int32)), .val (.int (3 : Int32)), .val (.int (1 : Int32))] [(.ref b189)])) _
            refine st221.trans ?_
            show Steps p.tables e below (T221.setTop (mkF m 178 #[.val (.int p1), .val (.int p2), .val (.int p3), .val (.int p4), .val (.long q5), .second, .val (.int p6), .val (.ref b189), .val (.int (3 : Int32)), .val (.int (3 : Int32)), .val (.int (1 : Int32))] [])) _
            refine XS.aload X221.here hx rfl (hb hby at_178) rfl rfl ?_
            show Steps p.tables e below (T221.setTop (mkF m 180 #[.val (.int p1), .val (.int p2), .val (.int p3), .val (.int p4), .val (.long q5), .second, .val (.int p6), .val (.ref b189), .val (.int (3 : Int32)), .val (.int (3 : Int32)), .val (.int (1 : Int32))] [(.ref b189)])) _
            refine XS.lload X221.here hx rfl (hb hby at_180) rfl ?_
            show Steps p.tables e below (T221.setTop (mkF m 182 #[.val (.int p1), .val (.int p2), .val (.int p3), .val (.int p4), .val (.long q5), .second, .val (.int p6), .val (.ref b189), .val (.int (3 : Int32)), .val (.int (3 : Int32)), .val (.int (1 : Int32))] [(.long q5), (.ref b189)])) _
            refine XS.iloadN X221.here hx rfl (hb hby at_182) rfl ?_
            show Steps p.tables e below (T221.setTop (mkF m 183 #[.val (.int p1), .val (.int p2), .val (.int p3), .val (.int p4), .val (.long q5), .second, .val (.int p6), .val (.ref b189), .val (.int (3 : Int32)), .val (.int (3 : Int32)), .val (.int (1 : Int32))] [(.int p4), (.long q5), (.ref b189)])) _
            refine st228.trans ?_
            show Steps p.tables e below (T228.setTop (mkF m 186 #[.val (.int p1), .val (.int p2), .val (.int p3), .val (.int p4), .val (.long q5), .second, .val (.int p6), .val (.ref b189), .val (.int (3 : Int32)), .val (.int (3 : Int32)), .val (.int (1 : Int32))] [])) _
            refine XS.iload X228.here hx rfl (hb hby at_186) rfl ?_
            show Steps p.tables e below (T228.setTop (mkF m 188 #[.val (.int p1), .val (.int p2), .val (.int p3), .val (.int p4), .val (.long q5), .second, .val (.int p6), .val (.ref b189), .val (.int (3 : Int32)), .val (.int (3 : Int32)), .val (.int (1 : Int32))] [(.int (1 : Int32))])) _
            refine XS.ifNo X228.here hx rfl (hb hby at_188) rfl ((if0 _ _).trans (feq (by decide : ¬ ((1 : Int32) = (0 : Int32)))).1) ?_
            show Steps p.tables e below (T228.setTop (mkF m 191 #[.val (.int p1), .val (.int p2), .val (.int p3), .val (.int p4), .val (.long q5), .second, .val (.int p6), .val (.ref b189), .val (.int (3 : Int32)), .val (.int (3 : Int32)), .val (.int (1 : Int32))] [])) _
            refine XS.aload X228.here hx rfl (hb hby at_191) rfl rfl ?_
            show Steps p.tables e below (T228.setTop (mkF m 193 #[.val (.int p1), .val (.int p2), .val (.int p3), .val (.int p4), .val (.long q5), .second, .val (.int p6), .val (.ref b189), .val (.int (3 : Int32)), .val (.int (3 : Int32)), .val (.int (1 : Int32))] [(.ref b189)])) _
            refine XS.iconst X228.here hx rfl (hb hby at_193) ?_
            show Steps p.tables e below (T228.setTop (mkF m 194 #[.val (.int p1), .val (.int p2), .val (.int p3), .val (.int p4), .val (.long q5), .second, .val (.int p6), .val (.ref b189), .val (.int (3 : Int32)), .val (.int (3 : Int32)), .val (.int (1 : Int32))] [(.int (0 : Int32)), (.ref b189)])) _
            refine st233.trans ?_
            show Steps p.tables e below (T233.setTop (mkF m 197 #[.val (.int p1), .val (.int p2), .val (.int p3), .val (.int p4), .val (.long q5), .second, .val (.int p6), .val (.ref b189), .val (.int (3 : Int32)), .val (.int (3 : Int32)), .val (.int (1 : Int32))] [(.int p4)])) _
            refine XS.iloadN X233.here hx rfl (hb hby at_197) rfl ?_
            show Steps p.tables e below (T233.setTop (mkF m 198 #[.val (.int p1), .val (.int p2), .val (.int p3), .val (.int p4), .val (.long q5), .second, .val (.int p6), .val (.ref b189), .val (.int (3 : Int32)), .val (.int (3 : Int32)), .val (.int (1 : Int32))] [(.int p4), (.int p4)])) _
            refine XS.icmpNo X233.here hx rfl (hb hby at_198) rfl (teq (rfl : p4 = p4)).2 ?_
            show Steps p.tables e below (T233.setTop (mkF m 201 #[.val (.int p1), .val (.int p2), .val (.int p3), .val (.int p4), .val (.long q5), .second, .val (.int p6), .val (.ref b189), .val (.int (3 : Int32)), .val (.int (3 : Int32)), .val (.int (1 : Int32))] [])) _
            refine XS.iconst X233.here hx rfl (hb hby at_201) ?_
            show Steps p.tables e below (T233.setTop (mkF m 202 #[.val (.int p1), .val (.int p2), .val (.int p3), .val (.int p4), .val (.long q5), .second, .val (.int p6), .val (.ref b189), .val (.int (3 : Int32)), .val (.int (3 : Int32)), .val (.int (1 : Int32))] [(.int (1 : Int32))])) _
            refine XS.goto X233.here hx rfl (pc0 := 202) (pc' := 206) rfl (hb hby at_202) (by decide) (by decide) ?_
            show Steps p.tables e below (T233.setTop (mkF m 206 #[.val (.int p1), .val (.int p2), .val (.int p3), .val (.int p4), .val (.long q5), .second, .val (.int p6), .val (.ref b189), .val (.int (3 : Int32)), .val (.int (3 : Int32)), .val (.int (1 : Int32))] [(.int (1 : Int32))])) _
            refine XS.istore X233.here hx rfl (hb hby at_206) rfl (l' := #[.val (.int p1), .val (.int p2), .val (.int p3), .val (.int p4), .val (.long q5), .second, .val (.int p6), .val (.ref b189), .val (.int (3 : Int32)), .val (.int (3 : Int32)), .val (.int (1 : Int32))]) rfl ?_
            show Steps p.tables e below (T233.setTop (mkF m 208 #[.val (.int p1), .val (.int p2), .val (.int p3), .val (.int p4), .val (.long q5), .second, .val (.int p6), .val (.ref b189), .val (.int (3 : Int32)), .val (.int (3 : Int32)), .val (.int (1 : Int32))] [])) _
            refine XS.iload X233.here hx rfl (hb hby at_208) rfl ?_
            show Steps p.tables e below (T233.setTop (mkF m 210 #[.val (.int p1), .val (.int p2), .val (.int p3), .val (.int p4), .val (.long q5), .second, .val (.int p6), .val (.ref b189), .val (.int (3 : Int32)), .val (.int (3 : Int32)), .val (.int (1 : Int32))] [(.int (1 : Int32))])) _
            exact retN X233 hx (t := .boolean) Bd.returns (by simp) (hb hby at_210) hr
          · show Q0 Z p1 p2 p3 p4 q5 p6 h0 n0 _ T233.heap _
            rw [P233_0]
            exact ⟨rfl, N233⟩
      · have hz0 := own_four p6 hc101 hc141 hc188
        obtain ⟨T234, h234, X234, e234, E234, A234, D234, -, st234⟩ := newO X0 hx hZ0 hown0 (hw _ (List.mem_of_getElem? (i := 0) rfl)) (hw _ (List.mem_of_getElem? (i := 1) rfl)) (hw _ (List.mem_of_getElem? (i := 2) rfl)) e0 (g := (mkF m 0 #[.val (.int p1), .val (.int p2), .val (.int p3), .val (.int p4), .val (.long q5), .second, .val (.int p6), .unset, .unset, .unset, .unset] [])) rfl (hb hby at_0) (by decide) (by decide)
        obtain ⟨b234, g234⟩ : ∃ z, z = h0.size := ⟨_, rfl⟩
        rw [← g234] at A234 D234 st234
        have gn_b234 : n0 ≤ b234 := Nat.le_trans Z0 (Nat.le_of_eq g234.symm)
        have f235 : Old Z n0 h234 := O0.ext E234
        have Zs234 : n0 ≤ h234.size := Nat.le_trans Z0 E234.1
        have f236 : Fld Z h234 b234 "holdfast/CountedIds$Batch" "digests" "[[J" .null := D234 (Or.inl (hw _ (List.mem_of_getElem? (i := 12) rfl))) (ty := (.array (.array .long))) (by decide)
        have f237 : Fld Z h234 b234 "holdfast/CountedIds$Batch" "tags" "[[I" .null := D234 (Or.inl (hw _ (List.mem_of_getElem? (i := 16) rfl))) (ty := (.array (.array .int))) (by decide)
        have f238 : Fld Z h234 b234 "holdfast/CountedIds$Batch" "spareDigests" "[[J" .null := D234 (Or.inl (hw _ (List.mem_of_getElem? (i := 18) rfl))) (ty := (.array (.array .long))) (by decide)
        have f239 : Fld Z h234 b234 "holdfast/CountedIds$Batch" "spareTags" "[[I" .null := D234 (Or.inl (hw _ (List.mem_of_getElem? (i := 20) rfl))) (ty := (.array (.array .int))) (by decide)
        have f240 : Fld Z h234 b234 "holdfast/CountedIds$Batch" "sorted" "Z" (.int (0 : Int32)) := D234 (Or.inl (hw _ (List.mem_of_getElem? (i := 22) rfl))) (ty := .boolean) (by decide)
        have f241 : Fld Z h234 b234 "holdfast/CountedIds$Batch" "size" "I" (.int (0 : Int32)) := D234 (Or.inl (hw _ (List.mem_of_getElem? (i := 29) rfl))) (ty := .int) (by decide)
        obtain ⟨_, _, ⟨T242, L242, k242, n242⟩, -, X242, ⟨Lc242, hQ242, l242, y242, z242⟩, st242⟩ := X234.specialBack hx (y := (⟨"holdfast/CountedIds$Batch", "<init>", "()V"⟩ : MethodName)) rfl hown0 (mvT hZ0 (hw _ (List.mem_of_getElem? (i := 3) rfl))) (mvT hZ0 (hw _ (List.mem_of_getElem? (i := 4) rfl))) (mvT hZ0 (hw _ (List.mem_of_getElem? (i := 5) rfl))) (by decide) (backOf (W := 1) (rm1 l Z a0 hw [] b234 h234 n0 Zs234 A234 gn_b234 f236 f237 f238 f239 f240 f241) hZ0 (hw _ (List.mem_of_getElem? (i := 5) rfl)) (hw _ (List.mem_of_getElem? (i := 2) rfl)) (by decide) (by decide)) (g := (mkF m 4 #[.val (.int p1), .val (.int p2), .val (.int p3), .val (.int p4), .val (.long q5), .second, .val (.int p6), .unset, .unset, .unset, .unset] [(.ref b234), (.ref b234)])) rfl (by rw [hml]; rfl) (Steps.refl _) (a := b234) (argsL := []) (rest := [(.ref b234)]) (lenOf pd_1 rfl) rfl (by show 2 * 0 + _ ≤ _; exact Nat.le_of_eq rfl) (hb hby at_4) (fun _ _ => ⟨rfl, e234, (by decide : 1 + 4 ≤ _), (by decide : 6 + 256 ≤ _)⟩)
        dsimp only [Pt.U, Pt.locs, Pt.cells, Pt.slots] at X242 l242 y242 z242 st242 hQ242
        subst l242 y242 z242
        obtain ⟨d_242, t_242, kd_242, kt_242, rfl, N242q, P242_0, P242_1, P242_2, P242_3, P242_4, P242_5, P242_6, P242_7, P242_8, P242_9, P242_10, P242_11⟩ := hQ242
        have N242 := Fr.app N0 N242q
        have ne_b234_d_242 : b234 ≠ d_242 := Nat.ne_of_lt (Nat.lt_of_lt_of_le A234.lt P242_1)
        have gn_d_242 : n0 ≤ d_242 := Nat.le_trans Zs234 P242_1
        have ne_b234_t_242 : b234 ≠ t_242 := Nat.ne_of_lt (Nat.lt_of_lt_of_le A234.lt P242_2)
        have gn_t_242 : n0 ≤ t_242 := Nat.le_trans Zs234 P242_2
        have f243 : Old Z n0 T242.heap := f235.keep P242_0 (allS gn_b234 all0)
        have f244 : Exa Z T242.heap b234 "holdfast/CountedIds$Batch" := A234.keep P242_0
        have Zs242 : n0 ≤ T242.heap.size := Nat.le_trans Zs234 P242_0.1
        have cf245 : ((0 : Int32) + (1 : Int32)) = (1 : Int32) := by decide
        obtain ⟨cq246, kq246, q246a, q246b, q246c⟩ := isOf hZ0 rfl f244
        obtain ⟨_, _, ⟨T246, L246, k246, n246⟩, -, X246, ⟨Lc246, hQ246, l246, y246, z246⟩, st246⟩ := X242.virtualBack hx (y := (⟨"holdfast/CountedIds$Batch", "add", "(JI)V"⟩ : MethodName)) (z := (⟨"holdfast/CountedIds$Batch", "add", "(JI)V"⟩ : MethodName)) hown0 (mvT hZ0 (hw _ (List.mem_of_getElem? (i := 23) rfl))) (mvT hZ0 (hw _ (List.mem_of_getElem? (i := 24) rfl))) (notFace_of_selects (args := #[]) (mvT hZ0 (hw _ (List.mem_of_getElem? (i := 26) rfl)))) (mvT hZ0 (hw _ (List.mem_of_getElem? (i := 26) rfl))) (mvT hZ0 (hw _ (List.mem_of_getElem? (i := 25) rfl))) (by decide) (backOf (W := 0) (rm3z l Z a0 hw [] b234 q5 p1 d_242 t_242 kd_242 kt_242 (1 : Int32) T242.heap n0 Zs242 f243 pf0 f244 gn_b234 gn_d_242 gn_t_242 ne_b234_d_242 ne_b234_t_242 P242_3 P242_4 P242_5 P242_6 P242_7 P242_8 P242_9 P242_10 P242_11) hZ0 (hw _ (List.mem_of_getElem? (i := 27) rfl)) (hw _ (List.mem_of_getElem? (i := 2) rfl)) (by decide) (by decide)) q246a q246c (g := (mkF m 36 #[.val (.int p1), .val (.int p2), .val (.int p3), .val (.int p4), .val (.long q5), .second, .val (.int p6), .val (.ref b234), .val (.int (0 : Int32)), .val (.int (1 : Int32)), .unset] [(.int p1), (.long q5), (.ref b234)])) rfl (by rw [hml]; rfl) (Steps.refl _) (argsL := [(.long q5), (.int p1)]) (rest := []) (lenOf pd_2 rfl) rfl (by show 2 * 0 + _ ≤ _; exact Nat.le_of_eq rfl) (hb hby at_36) (fun _ _ => ⟨rfl, rfl, (by decide : 5 + 2 ≤ _), (by decide : 262 + 32768 ≤ _)⟩)
        dsimp only [Pt.U, Pt.locs, Pt.cells, Pt.slots] at X246 l246 y246 z246 st246 hQ246
        subst l246 y246 z246
        obtain ⟨dd_246, tt_246, rfl, N246q, P246_0, P246_1, P246_2, P246_3, P246_4, P246_5, P246_6, P246_7, P246_8, P246_9, P246_10, P246_11⟩ := hQ246
        have N246 := Fr.app N242 N246q
        have ne_b234_dd_246 : b234 ≠ dd_246 := Nat.ne_of_lt (Nat.lt_of_lt_of_le f244.lt P246_1)
        have ne_d_242_dd_246 : d_242 ≠ dd_246 := Nat.ne_of_lt (Nat.lt_of_lt_of_le P242_8.lt P246_1)
        have ne_t_242_dd_246 : t_242 ≠ dd_246 := Nat.ne_of_lt (Nat.lt_of_lt_of_le P242_9.lt P246_1)
        have gn_dd_246 : n0 ≤ dd_246 := Nat.le_trans Zs242 P246_1
        have ne_b234_tt_246 : b234 ≠ tt_246 := Nat.ne_of_lt (Nat.lt_of_lt_of_le f244.lt P246_2)
        have ne_d_242_tt_246 : d_242 ≠ tt_246 := Nat.ne_of_lt (Nat.lt_of_lt_of_le P242_8.lt P246_2)
        have ne_t_242_tt_246 : t_242 ≠ tt_246 := Nat.ne_of_lt (Nat.lt_of_lt_of_le P242_9.lt P246_2)
        have gn_tt_246 : n0 ≤ tt_246 := Nat.le_trans Zs242 P246_2
        have f247 : Old Z n0 T246.heap := f243.keep P246_0 (allS gn_b234 (allS gn_d_242 (allS gn_t_242 all0)))
        have f248 : Exa Z T246.heap b234 "holdfast/CountedIds$Batch" := f244.keep P246_0
        have Zs246 : n0 ≤ T246.heap.size := Nat.le_trans Zs242 P246_0.1
        obtain ⟨cq249, kq249, q249a, q249b, q249c⟩ := isOf hZ0 rfl f248
        obtain ⟨_, _, ⟨T249, L249, k249, n249⟩, -, X249, ⟨Lc249, hQ249, l249, y249, z249⟩, st249⟩ := X246.virtualBack hx (y := (⟨"holdfast/CountedIds$Batch", "tag", "(I)I"⟩ : MethodName)) (z := (⟨"holdfast/CountedIds$Batch", "tag", "(I)I"⟩ : MethodName)) hown0 (mvT hZ0 (hw _ (List.mem_of_getElem? (i := 42) rfl))) (mvT hZ0 (hw _ (List.mem_of_getElem? (i := 43) rfl))) (notFace_of_selects (args := #[]) (mvT hZ0 (hw _ (List.mem_of_getElem? (i := 45) rfl)))) (mvT hZ0 (hw _ (List.mem_of_getElem? (i := 45) rfl))) (mvT hZ0 (hw _ (List.mem_of_getElem? (i := 44) rfl))) (by decide) (backOf (W := 0) (rm5 l Z a0 hw [] b234 (0 : Int32) t_242 kt_242 tt_246 (own_up own_none (0 : Int32) p1) p1 T246.heap n0 Zs246 f247 pf0 P246_5 P246_9 P246_11 (by decide) (by decide) (by decide) rfl) hZ0 (hw _ (List.mem_of_getElem? (i := 46) rfl)) (hw _ (List.mem_of_getElem? (i := 2) rfl)) (by decide) (by decide)) q249a q249c (g := (mkF m 78 #[.val (.int p1), .val (.int p2), .val (.int p3), .val (.int p4), .val (.long q5), .second, .val (.int p6), .val (.ref b234), .val (.int (0 : Int32)), .val (.int (1 : Int32)), .unset] [(.int (0 : Int32)), (.ref b234)])) rfl (by rw [hml]; rfl) (Steps.refl _) (argsL := [(.int (0 : Int32))]) (rest := []) (lenOf pd_3 rfl) rfl (by show 2 * 0 + _ ≤ _; exact Nat.le_of_eq rfl) (hb hby at_78) (fun _ _ => ⟨rfl, rfl, (by decide : 7 + 0 ≤ _), (by decide : 33030 + 0 ≤ _)⟩)
        dsimp only [Pt.U, Pt.locs, Pt.cells, Pt.slots] at X249 l249 y249 z249 st249 hQ249
        subst l249 y249 z249
        obtain ⟨rfl, N249q, P249_0⟩ := hQ249
        have N249 := Fr.app N246 N249q
        obtain ⟨_, _, ⟨T250, L250, k250, n250⟩, -, X250, ⟨Lc250, hQ250, l250, y250, z250⟩, st250⟩ := Jvm.LawKit.callS X249 hx (y := (⟨"holdfast/BatchTagPinLaw", "expected", "(IIII)I"⟩ : MethodName)) hown0 (mvT hZ0 (hw _ (List.mem_of_getElem? (i := 47) rfl))) (mvT hZ0 (hw _ (List.mem_of_getElem? (i := 48) rfl))) (mvT hZ0 (hw _ (List.mem_of_getElem? (i := 49) rfl))) (mvT hZ0 (hw _ (List.mem_of_getElem? (i := 50) rfl))) (by decide) (backOf (W := 1) (rm6 l Z a0 hw [] (0 : Int32) p1 p2 p3 T246.heap n0 Zs246 ) hZ0 (hw _ (List.mem_of_getElem? (i := 50) rfl)) (hw _ (List.mem_of_getElem? (i := 49) rfl)) (by decide) (by decide)) (g := (mkF m 85 #[.val (.int p1), .val (.int p2), .val (.int p3), .val (.int p4), .val (.long q5), .second, .val (.int p6), .val (.ref b234), .val (.int (0 : Int32)), .val (.int (1 : Int32)), .unset] [(.int p3), (.int p2), (.int p1), (.int (0 : Int32)), (.int p1)])) rfl (by rw [hml]; rfl) (argsL := [(.int (0 : Int32)), (.int p1), (.int p2), (.int p3)]) (rest := [(.int p1)]) (lenOf pd_4 rfl) rfl (by show 2 * 0 + _ ≤ _; exact Nat.le_of_eq rfl) (hb hby at_85) (fun _ _ => ⟨rfl, P249_0, (by decide : 7 + 0 ≤ _), (by decide : 33030 + 0 ≤ _)⟩)
        dsimp only [Pt.U, Pt.locs, Pt.cells, Pt.slots] at X250 l250 y250 z250 st250 hQ250
        subst l250 y250 z250
        obtain ⟨hv250, N250q, P250_0⟩ := hQ250
        obtain rfl := hv250.trans (congrArg (fun z => some (Value.int z)) (rfl : (own_exp (0 : Int32) p1 p2 p3) = p1))
        have N250 := Fr.app N249 N250q
        have pr251 : ∀ tg9, Steps p.tables e below (T250.setTop (mkF m 170 #[.val (.int p1), .val (.int p2), .val (.int p3), .val (.int p4), .val (.long q5), .second, .val (.int p6), .val (.ref b234), .val (.int (0 : Int32)), .val (.int (1 : Int32)), .val (.int (1 : Int32))] [(.int (p6 &&& (4 : Int32)))])) tg9 → Steps p.tables e below (s₁.setTop (mkF m 0 #[.val (.int p1), .val (.int p2), .val (.int p3), .val (.int p4), .val (.long q5), .second, .val (.int p6), .unset, .unset, .unset, .unset] [])) tg9 := fun tg9 kt => by
          show Steps p.tables e below (s₁.setTop (mkF m 0 #[.val (.int p1), .val (.int p2), .val (.int p3), .val (.int p4), .val (.long q5), .second, .val (.int p6), .unset, .unset, .unset, .unset] [])) _
          refine st234 _ ?_
          show Steps p.tables e below (T234.setTop (mkF m 3 #[.val (.int p1), .val (.int p2), .val (.int p3), .val (.int p4), .val (.long q5), .second, .val (.int p6), .unset, .unset, .unset, .unset] [(.ref b234)])) _
          refine XS.dup X234.here hx rfl (hb hby at_3) rfl rfl ?_
          show Steps p.tables e below (T234.setTop (mkF m 4 #[.val (.int p1), .val (.int p2), .val (.int p3), .val (.int p4), .val (.long q5), .second, .val (.int p6), .unset, .unset, .unset, .unset] [(.ref b234), (.ref b234)])) _
          refine st242.trans ?_
          show Steps p.tables e below (T242.setTop (mkF m 7 #[.val (.int p1), .val (.int p2), .val (.int p3), .val (.int p4), .val (.long q5), .second, .val (.int p6), .unset, .unset, .unset, .unset] [(.ref b234)])) _
          refine XS.astore X242.here hx rfl (hb hby at_7) rfl rfl (l' := #[.val (.int p1), .val (.int p2), .val (.int p3), .val (.int p4), .val (.long q5), .second, .val (.int p6), .val (.ref b234), .unset, .unset, .unset]) rfl ?_
          show Steps p.tables e below (T242.setTop (mkF m 9 #[.val (.int p1), .val (.int p2), .val (.int p3), .val (.int p4), .val (.long q5), .second, .val (.int p6), .val (.ref b234), .unset, .unset, .unset] [])) _
          refine XS.iload X242.here hx rfl (hb hby at_9) rfl ?_
          show Steps p.tables e below (T242.setTop (mkF m 11 #[.val (.int p1), .val (.int p2), .val (.int p3), .val (.int p4), .val (.long q5), .second, .val (.int p6), .val (.ref b234), .unset, .unset, .unset] [(.int p6)])) _
          refine XS.iconst X242.here hx rfl (hb hby at_11) ?_
          show Steps p.tables e below (T242.setTop (mkF m 12 #[.val (.int p1), .val (.int p2), .val (.int p3), .val (.int p4), .val (.long q5), .second, .val (.int p6), .val (.ref b234), .unset, .unset, .unset] [(.int (3 : Int32)), (.int p6)])) _
          refine XS.iand X242.here hx rfl (hb hby at_12) rfl ?_
          show Steps p.tables e below (T242.setTop (mkF m 13 #[.val (.int p1), .val (.int p2), .val (.int p3), .val (.int p4), .val (.long q5), .second, .val (.int p6), .val (.ref b234), .unset, .unset, .unset] [(.int (p6 &&& (3 : Int32)))])) _
          rw [hz0]
          show Steps p.tables e below (T242.setTop (mkF m 13 #[.val (.int p1), .val (.int p2), .val (.int p3), .val (.int p4), .val (.long q5), .second, .val (.int p6), .val (.ref b234), .unset, .unset, .unset] [(.int (0 : Int32))])) _
          refine XS.istore X242.here hx rfl (hb hby at_13) rfl (l' := #[.val (.int p1), .val (.int p2), .val (.int p3), .val (.int p4), .val (.long q5), .second, .val (.int p6), .val (.ref b234), .val (.int (0 : Int32)), .unset, .unset]) rfl ?_
          show Steps p.tables e below (T242.setTop (mkF m 15 #[.val (.int p1), .val (.int p2), .val (.int p3), .val (.int p4), .val (.long q5), .second, .val (.int p6), .val (.ref b234), .val (.int (0 : Int32)), .unset, .unset] [])) _
          refine XS.iload X242.here hx rfl (hb hby at_15) rfl ?_
          show Steps p.tables e below (T242.setTop (mkF m 17 #[.val (.int p1), .val (.int p2), .val (.int p3), .val (.int p4), .val (.long q5), .second, .val (.int p6), .val (.ref b234), .val (.int (0 : Int32)), .unset, .unset] [(.int (0 : Int32))])) _
          refine XS.iconst X242.here hx rfl (hb hby at_17) ?_
          show Steps p.tables e below (T242.setTop (mkF m 18 #[.val (.int p1), .val (.int p2), .val (.int p3), .val (.int p4), .val (.long q5), .second, .val (.int p6), .val (.ref b234), .val (.int (0 : Int32)), .unset, .unset] [(.int (3 : Int32)), (.int (0 : Int32))])) _
          refine XS.icmpYes X242.here hx rfl (pc0 := 18) (pc' := 25) rfl (hb hby at_18) rfl (feq (by decide : ¬ ((0 : Int32) = (3 : Int32)))).2 (by decide) (by decide) ?_
          show Steps p.tables e below (T242.setTop (mkF m 25 #[.val (.int p1), .val (.int p2), .val (.int p3), .val (.int p4), .val (.long q5), .second, .val (.int p6), .val (.ref b234), .val (.int (0 : Int32)), .unset, .unset] [])) _
          refine XS.iload X242.here hx rfl (hb hby at_25) rfl ?_
          show Steps p.tables e below (T242.setTop (mkF m 27 #[.val (.int p1), .val (.int p2), .val (.int p3), .val (.int p4), .val (.long q5), .second, .val (.int p6), .val (.ref b234), .val (.int (0 : Int32)), .unset, .unset] [(.int (0 : Int32))])) _
          refine XS.iconst X242.here hx rfl (hb hby at_27) ?_
          show Steps p.tables e below (T242.setTop (mkF m 28 #[.val (.int p1), .val (.int p2), .val (.int p3), .val (.int p4), .val (.long q5), .second, .val (.int p6), .val (.ref b234), .val (.int (0 : Int32)), .unset, .unset] [(.int (1 : Int32)), (.int (0 : Int32))])) _
          refine XS.iadd X242.here hx rfl (hb hby at_28) rfl ?_
          show Steps p.tables e below (T242.setTop (mkF m 29 #[.val (.int p1), .val (.int p2), .val (.int p3), .val (.int p4), .val (.long q5), .second, .val (.int p6), .val (.ref b234), .val (.int (0 : Int32)), .unset, .unset] [(.int ((0 : Int32) + (1 : Int32)))])) _
          rw [cf245]
          show Steps p.tables e below (T242.setTop (mkF m 29 #[.val (.int p1), .val (.int p2), .val (.int p3), .val (.int p4), .val (.long q5), .second, .val (.int p6), .val (.ref b234), .val (.int (0 : Int32)), .unset, .unset] [(.int (1 : Int32))])) _
          refine XS.istore X242.here hx rfl (hb hby at_29) rfl (l' := #[.val (.int p1), .val (.int p2), .val (.int p3), .val (.int p4), .val (.long q5), .second, .val (.int p6), .val (.ref b234), .val (.int (0 : Int32)), .val (.int (1 : Int32)), .unset]) rfl ?_
          show Steps p.tables e below (T242.setTop (mkF m 31 #[.val (.int p1), .val (.int p2), .val (.int p3), .val (.int p4), .val (.long q5), .second, .val (.int p6), .val (.ref b234), .val (.int (0 : Int32)), .val (.int (1 : Int32)), .unset] [])) _
          refine XS.aload X242.here hx rfl (hb hby at_31) rfl rfl ?_
          show Steps p.tables e below (T242.setTop (mkF m 33 #[.val (.int p1), .val (.int p2), .val (.int p3), .val (.int p4), .val (.long q5), .second, .val (.int p6), .val (.ref b234), .val (.int (0 : Int32)), .val (.int (1 : Int32)), .unset] [(.ref b234)])) _
          refine XS.lload X242.here hx rfl (hb hby at_33) rfl ?_
          show Steps p.tables e below (T242.setTop (mkF m 35 #[.val (.int p1), .val (.int p2), .val (.int p3), .val (.int p4), .val (.long q5), .second, .val (.int p6), .val (.ref b234), .val (.int (0 : Int32)), .val (.int (1 : Int32)), .unset] [(.long q5), (.ref b234)])) _
          refine XS.iloadN X242.here hx rfl (hb hby at_35) rfl ?_
          show Steps p.tables e below (T242.setTop (mkF m 36 #[.val (.int p1), .val (.int p2), .val (.int p3), .val (.int p4), .val (.long q5), .second, .val (.int p6), .val (.ref b234), .val (.int (0 : Int32)), .val (.int (1 : Int32)), .unset] [(.int p1), (.long q5), (.ref b234)])) _
          refine st246.trans ?_
          show Steps p.tables e below (T246.setTop (mkF m 39 #[.val (.int p1), .val (.int p2), .val (.int p3), .val (.int p4), .val (.long q5), .second, .val (.int p6), .val (.ref b234), .val (.int (0 : Int32)), .val (.int (1 : Int32)), .unset] [])) _
          refine XS.iload X246.here hx rfl (hb hby at_39) rfl ?_
          show Steps p.tables e below (T246.setTop (mkF m 41 #[.val (.int p1), .val (.int p2), .val (.int p3), .val (.int p4), .val (.long q5), .second, .val (.int p6), .val (.ref b234), .val (.int (0 : Int32)), .val (.int (1 : Int32)), .unset] [(.int (1 : Int32))])) _
          refine XS.iconst X246.here hx rfl (hb hby at_41) ?_
          show Steps p.tables e below (T246.setTop (mkF m 42 #[.val (.int p1), .val (.int p2), .val (.int p3), .val (.int p4), .val (.long q5), .second, .val (.int p6), .val (.ref b234), .val (.int (0 : Int32)), .val (.int (1 : Int32)), .unset] [(.int (2 : Int32)), (.int (1 : Int32))])) _
          refine XS.icmpYes X246.here hx rfl (pc0 := 42) (pc' := 57) rfl (hb hby at_42) rfl (tlt (by decide : (1 : Int32) < (2 : Int32))).1 (by decide) (by decide) ?_
          show Steps p.tables e below (T246.setTop (mkF m 57 #[.val (.int p1), .val (.int p2), .val (.int p3), .val (.int p4), .val (.long q5), .second, .val (.int p6), .val (.ref b234), .val (.int (0 : Int32)), .val (.int (1 : Int32)), .unset] [])) _
          refine XS.iload X246.here hx rfl (hb hby at_57) rfl ?_
          show Steps p.tables e below (T246.setTop (mkF m 59 #[.val (.int p1), .val (.int p2), .val (.int p3), .val (.int p4), .val (.long q5), .second, .val (.int p6), .val (.ref b234), .val (.int (0 : Int32)), .val (.int (1 : Int32)), .unset] [(.int (1 : Int32))])) _
          refine XS.iconst X246.here hx rfl (hb hby at_59) ?_
          show Steps p.tables e below (T246.setTop (mkF m 60 #[.val (.int p1), .val (.int p2), .val (.int p3), .val (.int p4), .val (.long q5), .second, .val (.int p6), .val (.ref b234), .val (.int (0 : Int32)), .val (.int (1 : Int32)), .unset] [(.int (3 : Int32)), (.int (1 : Int32))])) _
          refine XS.icmpYes X246.here hx rfl (pc0 := 60) (pc' := 75) rfl (hb hby at_60) rfl (tlt (by decide : (1 : Int32) < (3 : Int32))).1 (by decide) (by decide) ?_
          show Steps p.tables e below (T246.setTop (mkF m 75 #[.val (.int p1), .val (.int p2), .val (.int p3), .val (.int p4), .val (.long q5), .second, .val (.int p6), .val (.ref b234), .val (.int (0 : Int32)), .val (.int (1 : Int32)), .unset] [])) _
          refine XS.aload X246.here hx rfl (hb hby at_75) rfl rfl ?_
          show Steps p.tables e below (T246.setTop (mkF m 77 #[.val (.int p1), .val (.int p2), .val (.int p3), .val (.int p4), .val (.long q5), .second, .val (.int p6), .val (.ref b234), .val (.int (0 : Int32)), .val (.int (1 : Int32)), .unset] [(.ref b234)])) _
          refine XS.iconst X246.here hx rfl (hb hby at_77) ?_
          show Steps p.tables e below (T246.setTop (mkF m 78 #[.val (.int p1), .val (.int p2), .val (.int p3), .val (.int p4), .val (.long q5), .second, .val (.int p6), .val (.ref b234), .val (.int (0 : Int32)), .val (.int (1 : Int32)), .unset] [(.int (0 : Int32)), (.ref b234)])) _
          refine st249.trans ?_
          show Steps p.tables e below (T249.setTop (mkF m 81 #[.val (.int p1), .val (.int p2), .val (.int p3), .val (.int p4), .val (.long q5), .second, .val (.int p6), .val (.ref b234), .val (.int (0 : Int32)), .val (.int (1 : Int32)), .unset] [(.int p1)])) _
          refine XS.iconst X249.here hx rfl (hb hby at_81) ?_
          show Steps p.tables e below (T249.setTop (mkF m 82 #[.val (.int p1), .val (.int p2), .val (.int p3), .val (.int p4), .val (.long q5), .second, .val (.int p6), .val (.ref b234), .val (.int (0 : Int32)), .val (.int (1 : Int32)), .unset] [(.int (0 : Int32)), (.int p1)])) _
          refine XS.iloadN X249.here hx rfl (hb hby at_82) rfl ?_
          show Steps p.tables e below (T249.setTop (mkF m 83 #[.val (.int p1), .val (.int p2), .val (.int p3), .val (.int p4), .val (.long q5), .second, .val (.int p6), .val (.ref b234), .val (.int (0 : Int32)), .val (.int (1 : Int32)), .unset] [(.int p1), (.int (0 : Int32)), (.int p1)])) _
          refine XS.iloadN X249.here hx rfl (hb hby at_83) rfl ?_
          show Steps p.tables e below (T249.setTop (mkF m 84 #[.val (.int p1), .val (.int p2), .val (.int p3), .val (.int p4), .val (.long q5), .second, .val (.int p6), .val (.ref b234), .val (.int (0 : Int32)), .val (.int (1 : Int32)), .unset] [(.int p2), (.int p1), (.int (0 : Int32)), (.int p1)])) _
          refine XS.iloadN X249.here hx rfl (hb hby at_84) rfl ?_
          show Steps p.tables e below (T249.setTop (mkF m 85 #[.val (.int p1), .val (.int p2), .val (.int p3), .val (.int p4), .val (.long q5), .second, .val (.int p6), .val (.ref b234), .val (.int (0 : Int32)), .val (.int (1 : Int32)), .unset] [(.int p3), (.int p2), (.int p1), (.int (0 : Int32)), (.int p1)])) _
          refine st250 _ ?_
          show Steps p.tables e below (T250.setTop (mkF m 88 #[.val (.int p1), .val (.int p2), .val (.int p3), .val (.int p4), .val (.long q5), .second, .val (.int p6), .val (.ref b234), .val (.int (0 : Int32)), .val (.int (1 : Int32)), .unset] [(.int p1), (.int p1)])) _
          refine XS.icmpNo X250.here hx rfl (hb hby at_88) rfl (teq (rfl : p1 = p1)).2 ?_
          show Steps p.tables e below (T250.setTop (mkF m 91 #[.val (.int p1), .val (.int p2), .val (.int p3), .val (.int p4), .val (.long q5), .second, .val (.int p6), .val (.ref b234), .val (.int (0 : Int32)), .val (.int (1 : Int32)), .unset] [])) _
          refine XS.iconst X250.here hx rfl (hb hby at_91) ?_
          show Steps p.tables e below (T250.setTop (mkF m 92 #[.val (.int p1), .val (.int p2), .val (.int p3), .val (.int p4), .val (.long q5), .second, .val (.int p6), .val (.ref b234), .val (.int (0 : Int32)), .val (.int (1 : Int32)), .unset] [(.int (1 : Int32))])) _
          refine XS.goto X250.here hx rfl (pc0 := 92) (pc' := 96) rfl (hb hby at_92) (by decide) (by decide) ?_
          show Steps p.tables e below (T250.setTop (mkF m 96 #[.val (.int p1), .val (.int p2), .val (.int p3), .val (.int p4), .val (.long q5), .second, .val (.int p6), .val (.ref b234), .val (.int (0 : Int32)), .val (.int (1 : Int32)), .unset] [(.int (1 : Int32))])) _
          refine XS.istore X250.here hx rfl (hb hby at_96) rfl (l' := #[.val (.int p1), .val (.int p2), .val (.int p3), .val (.int p4), .val (.long q5), .second, .val (.int p6), .val (.ref b234), .val (.int (0 : Int32)), .val (.int (1 : Int32)), .val (.int (1 : Int32))]) rfl ?_
          show Steps p.tables e below (T250.setTop (mkF m 98 #[.val (.int p1), .val (.int p2), .val (.int p3), .val (.int p4), .val (.long q5), .second, .val (.int p6), .val (.ref b234), .val (.int (0 : Int32)), .val (.int (1 : Int32)), .val (.int (1 : Int32))] [])) _
          refine XS.iload X250.here hx rfl (hb hby at_98) rfl ?_
          show Steps p.tables e below (T250.setTop (mkF m 100 #[.val (.int p1), .val (.int p2), .val (.int p3), .val (.int p4), .val (.long q5), .second, .val (.int p6), .val (.ref b234), .val (.int (0 : Int32)), .val (.int (1 : Int32)), .val (.int (1 : Int32))] [(.int (1 : Int32))])) _
          refine XS.iconst X250.here hx rfl (hb hby at_100) ?_
          show Steps p.tables e below (T250.setTop (mkF m 101 #[.val (.int p1), .val (.int p2), .val (.int p3), .val (.int p4), .val (.long q5), .second, .val (.int p6), .val (.ref b234), .val (.int (0 : Int32)), .val (.int (1 : Int32)), .val (.int (1 : Int32))] [(.int (2 : Int32)), (.int (1 : Int32))])) _
          refine XS.icmpYes X250.here hx rfl (pc0 := 101) (pc' := 132) rfl (hb hby at_101) rfl (tlt (by decide : (1 : Int32) < (2 : Int32))).1 (by decide) (by decide) ?_
          show Steps p.tables e below (T250.setTop (mkF m 132 #[.val (.int p1), .val (.int p2), .val (.int p3), .val (.int p4), .val (.long q5), .second, .val (.int p6), .val (.ref b234), .val (.int (0 : Int32)), .val (.int (1 : Int32)), .val (.int (1 : Int32))] [])) _
          refine XS.iload X250.here hx rfl (hb hby at_132) rfl ?_
          show Steps p.tables e below (T250.setTop (mkF m 134 #[.val (.int p1), .val (.int p2), .val (.int p3), .val (.int p4), .val (.long q5), .second, .val (.int p6), .val (.ref b234), .val (.int (0 : Int32)), .val (.int (1 : Int32)), .val (.int (1 : Int32))] [(.int (1 : Int32))])) _
          refine XS.iconst X250.here hx rfl (hb hby at_134) ?_
          show Steps p.tables e below (T250.setTop (mkF m 135 #[.val (.int p1), .val (.int p2), .val (.int p3), .val (.int p4), .val (.long q5), .second, .val (.int p6), .val (.ref b234), .val (.int (0 : Int32)), .val (.int (1 : Int32)), .val (.int (1 : Int32))] [(.int (3 : Int32)), (.int (1 : Int32))])) _
          refine XS.icmpYes X250.here hx rfl (pc0 := 135) (pc' := 166) rfl (hb hby at_135) rfl (tlt (by decide : (1 : Int32) < (3 : Int32))).1 (by decide) (by decide) ?_
          show Steps p.tables e below (T250.setTop (mkF m 166 #[.val (.int p1), .val (.int p2), .val (.int p3), .val (.int p4), .val (.long q5), .second, .val (.int p6), .val (.ref b234), .val (.int (0 : Int32)), .val (.int (1 : Int32)), .val (.int (1 : Int32))] [])) _
          refine XS.iload X250.here hx rfl (hb hby at_166) rfl ?_
          show Steps p.tables e below (T250.setTop (mkF m 168 #[.val (.int p1), .val (.int p2), .val (.int p3), .val (.int p4), .val (.long q5), .second, .val (.int p6), .val (.ref b234), .val (.int (0 : Int32)), .val (.int (1 : Int32)), .val (.int (1 : Int32))] [(.int p6)])) _
          refine XS.iconst X250.here hx rfl (hb hby at_168) ?_
          show Steps p.tables e below (T250.setTop (mkF m 169 #[.val (.int p1), .val (.int p2), .val (.int p3), .val (.int p4), .val (.long q5), .second, .val (.int p6), .val (.ref b234), .val (.int (0 : Int32)), .val (.int (1 : Int32)), .val (.int (1 : Int32))] [(.int (4 : Int32)), (.int p6)])) _
          refine XS.iand X250.here hx rfl (hb hby at_169) rfl ?_
          exact kt
        by_cases hc252 : (p6 &&& (4 : Int32)) = (0 : Int32)
        · obtain ⟨fs, hr, hrun, hended, hW, hsame⟩ := X250.leave (v := some (.int (1 : Int32))) (fun h => by rw [Bd.returns] at h; cases h) hlk
          refine ⟨_, _, pre0 _ ?_, hrun, hended, _, _, rfl, ?_, ⟨_, rfl⟩, hW, hsame.mono (by decide) (by decide)⟩
          · refine pr251 _ ?_
            show Steps p.tables e below (T250.setTop (mkF m 170 #[.val (.int p1), .val (.int p2), .val (.int p3), .val (.int p4), .val (.long q5), .second, .val (.int p6), .val (.ref b234), .val (.int (0 : Int32)), .val (.int (1 : Int32)), .val (.int (1 : Int32))] [(.int (p6 &&& (4 : Int32)))])) _
            refine XS.ifYes X250.here hx rfl (pc0 := 170) (pc' := 208) rfl (hb hby at_170) rfl ((if0 _ _).trans (teq hc252).1) (by decide) (by decide) ?_
            show Steps p.tables e below (T250.setTop (mkF m 208 #[.val (.int p1), .val (.int p2), .val (.int p3), .val (.int p4), .val (.long q5), .second, .val (.int p6), .val (.ref b234), .val (.int (0 : Int32)), .val (.int (1 : Int32)), .val (.int (1 : Int32))] [])) _
            refine XS.iload X250.here hx rfl (hb hby at_208) rfl ?_
            show Steps p.tables e below (T250.setTop (mkF m 210 #[.val (.int p1), .val (.int p2), .val (.int p3), .val (.int p4), .val (.long q5), .second, .val (.int p6), .val (.ref b234), .val (.int (0 : Int32)), .val (.int (1 : Int32)), .val (.int (1 : Int32))] [(.int (1 : Int32))])) _
            exact retN X250 hx (t := .boolean) Bd.returns (by simp) (hb hby at_210) hr
          · show Q0 Z p1 p2 p3 p4 q5 p6 h0 n0 _ T250.heap _
            rw [P250_0]
            exact ⟨rfl, N250⟩
        · obtain ⟨cq253, kq253, q253a, q253b, q253c⟩ := isOf hZ0 P250_0 f248
          obtain ⟨_, _, ⟨T253, L253, k253, n253⟩, -, X253, ⟨Lc253, hQ253, l253, y253, z253⟩, st253⟩ := X250.virtualBack hx (y := (⟨"holdfast/CountedIds$Batch", "clear", "()V"⟩ : MethodName)) (z := (⟨"holdfast/CountedIds$Batch", "clear", "()V"⟩ : MethodName)) hown0 (mvT hZ0 (hw _ (List.mem_of_getElem? (i := 51) rfl))) (mvT hZ0 (hw _ (List.mem_of_getElem? (i := 52) rfl))) (notFace_of_selects (args := #[]) (mvT hZ0 (hw _ (List.mem_of_getElem? (i := 54) rfl)))) (mvT hZ0 (hw _ (List.mem_of_getElem? (i := 54) rfl))) (mvT hZ0 (hw _ (List.mem_of_getElem? (i := 53) rfl))) (by decide) (backOf (W := 0) (rm7 l Z a0 hw [] b234 d_242 t_242 (0 : Int32) (1 : Int32) T246.heap n0 Zs246 f248 gn_b234 P246_4 P246_5 P246_6 P246_7) hZ0 (hw _ (List.mem_of_getElem? (i := 55) rfl)) (hw _ (List.mem_of_getElem? (i := 2) rfl)) (by decide) (by decide)) q253a q253c (g := (mkF m 175 #[.val (.int p1), .val (.int p2), .val (.int p3), .val (.int p4), .val (.long q5), .second, .val (.int p6), .val (.ref b234), .val (.int (0 : Int32)), .val (.int (1 : Int32)), .val (.int (1 : Int32))] [(.ref b234)])) rfl (by rw [hml]; rfl) (Steps.refl _) (argsL := []) (rest := []) (lenOf pd_1 rfl) rfl (by show 2 * 0 + _ ≤ _; exact Nat.le_of_eq rfl) (hb hby at_175) (fun _ _ => ⟨rfl, P250_0, (by decide : 7 + 0 ≤ _), (by decide : 33030 + 0 ≤ _)⟩)
          dsimp only [Pt.U, Pt.locs, Pt.cells, Pt.slots] at X253 l253 y253 z253 st253 hQ253
          subst l253 y253 z253
          obtain ⟨rfl, N253q, P253_0, P253_1, P253_2, P253_3, P253_4⟩ := hQ253
          have N253 := Fr.app N250 N253q
          have f254 : Old Z n0 T253.heap := f247.keep P253_0 (allS gn_b234 all0)
          have f255 : Exa Z T253.heap b234 "holdfast/CountedIds$Batch" := f248.keep P253_0
          have f256 : Arv Z T253.heap d_242 kd_242 (.array .long) (64 : Int32) [(.ref dd_246)] .null := P246_8.keep P253_0 (ninS (Ne.symm ne_b234_d_242) nin0)
          have f257 : Arv Z T253.heap t_242 kt_242 (.array .int) (64 : Int32) [(.ref tt_246)] .null := P246_9.keep P253_0 (ninS (Ne.symm ne_b234_t_242) nin0)
          have f258 : OwnLng Z T253.heap dd_246 := OwnLng.keep P246_10 P253_0 (ninS (Ne.symm ne_b234_dd_246) nin0)
          have f259 : OwnTg Z T253.heap tt_246 (own_up own_none (0 : Int32) p1) := OwnTg.keep P246_11 P253_0 (ninS (Ne.symm ne_b234_tt_246) nin0)
          have Zs253 : n0 ≤ T253.heap.size := Nat.le_trans Zs246 P253_0.1
          obtain ⟨cq260, kq260, q260a, q260b, q260c⟩ := isOf hZ0 rfl f255
          obtain ⟨_, _, ⟨T260, L260, k260, n260⟩, -, X260, ⟨Lc260, hQ260, l260, y260, z260⟩, st260⟩ := X253.virtualBack hx (y := (⟨"holdfast/CountedIds$Batch", "add", "(JI)V"⟩ : MethodName)) (z := (⟨"holdfast/CountedIds$Batch", "add", "(JI)V"⟩ : MethodName)) hown0 (mvT hZ0 (hw _ (List.mem_of_getElem? (i := 23) rfl))) (mvT hZ0 (hw _ (List.mem_of_getElem? (i := 24) rfl))) (notFace_of_selects (args := #[]) (mvT hZ0 (hw _ (List.mem_of_getElem? (i := 26) rfl)))) (mvT hZ0 (hw _ (List.mem_of_getElem? (i := 26) rfl))) (mvT hZ0 (hw _ (List.mem_of_getElem? (i := 25) rfl))) (by decide) (backOf (W := 0) (rm3n l Z a0 hw [] b234 q5 p4 d_242 t_242 kd_242 kt_242 (1 : Int32) dd_246 tt_246 (own_up own_none (0 : Int32) p1) (0 : Int32) (1 : Int32) T253.heap n0 Zs253 f254 pf0 f255 gn_b234 gn_d_242 gn_t_242 ne_b234_d_242 ne_b234_t_242 P242_3 P253_1 P253_2 P253_3 P253_4 f256 f257 f258 f259 P246_3 ne_t_242_dd_246 ne_d_242_dd_246 ne_d_242_tt_246 ne_t_242_tt_246 ne_b234_dd_246 ne_b234_tt_246 gn_dd_246 gn_tt_246 (by decide) (by decide) (by decide) (by decide) (by decide)) hZ0 (hw _ (List.mem_of_getElem? (i := 27) rfl)) (hw _ (List.mem_of_getElem? (i := 2) rfl)) (by decide) (by decide)) q260a q260c (g := (mkF m 183 #[.val (.int p1), .val (.int p2), .val (.int p3), .val (.int p4), .val (.long q5), .second, .val (.int p6), .val (.ref b234), .val (.int (0 : Int32)), .val (.int (1 : Int32)), .val (.int (1 : Int32))] [(.int p4), (.long q5), (.ref b234)])) rfl (by rw [hml]; rfl) (Steps.refl _) (argsL := [(.long q5), (.int p4)]) (rest := []) (lenOf pd_2 rfl) rfl (by show 2 * 0 + _ ≤ _; exact Nat.le_of_eq rfl) (hb hby at_183) (fun _ _ => ⟨rfl, rfl, (by decide : 7 + 0 ≤ _), (by decide : 33030 + 0 ≤ _)⟩)
          dsimp only [Pt.U, Pt.locs, Pt.cells, Pt.slots] at X260 l260 y260 z260 st260 hQ260
          subst l260 y260 z260
          obtain ⟨rfl, N260q, P260_0, P260_1, P260_2, P260_3, P260_4, P260_5, P260_6⟩ := hQ260
          have N260 := Fr.app N253 N260q
          have f261 : Old Z n0 T260.heap := f254.keep P260_0 (allS gn_b234 (allS gn_dd_246 (allS gn_tt_246 all0)))
          have f262 : Exa Z T260.heap b234 "holdfast/CountedIds$Batch" := f255.keep P260_0
          have f263 : Arv Z T260.heap d_242 kd_242 (.array .long) (64 : Int32) [(.ref dd_246)] .null := f256.keep P260_0 (ninS (Ne.symm ne_b234_d_242) (ninS ne_d_242_dd_246 (ninS ne_d_242_tt_246 nin0)))
          have f264 : Arv Z T260.heap t_242 kt_242 (.array .int) (64 : Int32) [(.ref tt_246)] .null := f257.keep P260_0 (ninS (Ne.symm ne_b234_t_242) (ninS ne_t_242_dd_246 (ninS ne_t_242_tt_246 nin0)))
          have Zs260 : n0 ≤ T260.heap.size := Nat.le_trans Zs253 P260_0.1
          obtain ⟨cq265, kq265, q265a, q265b, q265c⟩ := isOf hZ0 rfl f262
          obtain ⟨_, _, ⟨T265, L265, k265, n265⟩, -, X265, ⟨Lc265, hQ265, l265, y265, z265⟩, st265⟩ := X260.virtualBack hx (y := (⟨"holdfast/CountedIds$Batch", "tag", "(I)I"⟩ : MethodName)) (z := (⟨"holdfast/CountedIds$Batch", "tag", "(I)I"⟩ : MethodName)) hown0 (mvT hZ0 (hw _ (List.mem_of_getElem? (i := 42) rfl))) (mvT hZ0 (hw _ (List.mem_of_getElem? (i := 43) rfl))) (notFace_of_selects (args := #[]) (mvT hZ0 (hw _ (List.mem_of_getElem? (i := 45) rfl)))) (mvT hZ0 (hw _ (List.mem_of_getElem? (i := 45) rfl))) (mvT hZ0 (hw _ (List.mem_of_getElem? (i := 44) rfl))) (by decide) (backOf (W := 0) (rm5 l Z a0 hw [] b234 (0 : Int32) t_242 kt_242 tt_246 (own_up (own_up own_none (0 : Int32) p1) (0 : Int32) p4) p4 T260.heap n0 Zs260 f261 pf0 P260_2 f264 P260_6 (by decide) (by decide) (by decide) rfl) hZ0 (hw _ (List.mem_of_getElem? (i := 46) rfl)) (hw _ (List.mem_of_getElem? (i := 2) rfl)) (by decide) (by decide)) q265a q265c (g := (mkF m 194 #[.val (.int p1), .val (.int p2), .val (.int p3), .val (.int p4), .val (.long q5), .second, .val (.int p6), .val (.ref b234), .val (.int (0 : Int32)), .val (.int (1 : Int32)), .val (.int (1 : Int32))] [(.int (0 : Int32)), (.ref b234)])) rfl (by rw [hml]; rfl) (Steps.refl _) (argsL := [(.int (0 : Int32))]) (rest := []) (lenOf pd_3 rfl) rfl (by show 2 * 0 + _ ≤ _; exact Nat.le_of_eq rfl) (hb hby at_194) (fun _ _ => ⟨rfl, rfl, (by decide : 7 + 0 ≤ _), (by decide : 33030 + 0 ≤ _)⟩)
          dsimp only [Pt.U, Pt.locs, Pt.cells, Pt.slots] at X265 l265 y265 z265 st265 hQ265
          subst l265 y265 z265
          obtain ⟨rfl, N265q, P265_0⟩ := hQ265
          have N265 := Fr.app N260 N265q
          obtain ⟨fs, hr, hrun, hended, hW, hsame⟩ := X265.leave (v := some (.int (1 : Int32))) (fun h => by rw [Bd.returns] at h; cases h) hlk
          refine ⟨_, _, pre0 _ ?_, hrun, hended, _, _, rfl, ?_, ⟨_, rfl⟩, hW, hsame.mono (by decide) (by decide)⟩
          · refine pr251 _ ?_
            show Steps p.tables e below (T250.setTop (mkF m 170 #[.val (.int p1), .val (.int p2), .val (.int p3), .val (.int p4), .val (.long q5), .second, .val (.int p6), .val (.ref b234), .val (.int (0 : Int32)), .val (.int (1 : Int32)), .val (.int (1 : Int32))] [(.int (p6 &&& (4 : Int32)))])) _
            refine XS.ifNo X250.here hx rfl (hb hby at_170) rfl ((if0 _ _).trans (feq hc252).1) ?_
            show Steps p.tables e below (T250.setTop (mkF m 173 #[.val (.int p1), .val (.int p2), .val (.int p3), .val (.int p4), .val (.long q5), .second, .val (.int p6), .val (.ref b234), .val (.int (0 : Int32)), .val (.int (1 : Int32)), .val (.int (1 : Int32))] [])) _
            refine XS.aload X250.here hx rfl (hb hby at_173) rfl rfl ?_
            show Steps p.tables e below (T250.setTop (mkF m 175 #[.val (.int p1), .val (.int p2), .val (.int p3), .val (.int p4), .val (.long q5), .second, .val (.int p6), .val (.ref b234), .val (.int (0 : Int32)), .val (.int (1 : Int32)), .val (.int (1 : Int32))] [(.ref b234)])) _
            refine st253.trans ?_
            show Steps p.tables e below (T253.setTop (mkF m 178 #[.val (.int p1), .val (.int p2), .val (.int p3), .val (.int p4), .val (.long q5), .second, .val (.int p6), .val (.ref b234), .val (.int (0 : Int32)), .val (.int (1 : Int32)), .val (.int (1 : Int32))] [])) _
            refine XS.aload X253.here hx rfl (hb hby at_178) rfl rfl ?_
            show Steps p.tables e below (T253.setTop (mkF m 180 #[.val (.int p1), .val (.int p2), .val (.int p3), .val (.int p4), .val (.long q5), .second, .val (.int p6), .val (.ref b234), .val (.int (0 : Int32)), .val (.int (1 : Int32)), .val (.int (1 : Int32))] [(.ref b234)])) _
            refine XS.lload X253.here hx rfl (hb hby at_180) rfl ?_
            show Steps p.tables e below (T253.setTop (mkF m 182 #[.val (.int p1), .val (.int p2), .val (.int p3), .val (.int p4), .val (.long q5), .second, .val (.int p6), .val (.ref b234), .val (.int (0 : Int32)), .val (.int (1 : Int32)), .val (.int (1 : Int32))] [(.long q5), (.ref b234)])) _
            refine XS.iloadN X253.here hx rfl (hb hby at_182) rfl ?_
            show Steps p.tables e below (T253.setTop (mkF m 183 #[.val (.int p1), .val (.int p2), .val (.int p3), .val (.int p4), .val (.long q5), .second, .val (.int p6), .val (.ref b234), .val (.int (0 : Int32)), .val (.int (1 : Int32)), .val (.int (1 : Int32))] [(.int p4), (.long q5), (.ref b234)])) _
            refine st260.trans ?_
            show Steps p.tables e below (T260.setTop (mkF m 186 #[.val (.int p1), .val (.int p2), .val (.int p3), .val (.int p4), .val (.long q5), .second, .val (.int p6), .val (.ref b234), .val (.int (0 : Int32)), .val (.int (1 : Int32)), .val (.int (1 : Int32))] [])) _
            refine XS.iload X260.here hx rfl (hb hby at_186) rfl ?_
            show Steps p.tables e below (T260.setTop (mkF m 188 #[.val (.int p1), .val (.int p2), .val (.int p3), .val (.int p4), .val (.long q5), .second, .val (.int p6), .val (.ref b234), .val (.int (0 : Int32)), .val (.int (1 : Int32)), .val (.int (1 : Int32))] [(.int (1 : Int32))])) _
            refine XS.ifNo X260.here hx rfl (hb hby at_188) rfl ((if0 _ _).trans (feq (by decide : ¬ ((1 : Int32) = (0 : Int32)))).1) ?_
            show Steps p.tables e below (T260.setTop (mkF m 191 #[.val (.int p1), .val (.int p2), .val (.int p3), .val (.int p4), .val (.long q5), .second, .val (.int p6), .val (.ref b234), .val (.int (0 : Int32)), .val (.int (1 : Int32)), .val (.int (1 : Int32))] [])) _
            refine XS.aload X260.here hx rfl (hb hby at_191) rfl rfl ?_
            show Steps p.tables e below (T260.setTop (mkF m 193 #[.val (.int p1), .val (.int p2), .val (.int p3), .val (.int p4), .val (.long q5), .second, .val (.int p6), .val (.ref b234), .val (.int (0 : Int32)), .val (.int (1 : Int32)), .val (.int (1 : Int32))] [(.ref b234)])) _
            refine XS.iconst X260.here hx rfl (hb hby at_193) ?_
            show Steps p.tables e below (T260.setTop (mkF m 194 #[.val (.int p1), .val (.int p2), .val (.int p3), .val (.int p4), .val (.long q5), .second, .val (.int p6), .val (.ref b234), .val (.int (0 : Int32)), .val (.int (1 : Int32)), .val (.int (1 : Int32))] [(.int (0 : Int32)), (.ref b234)])) _
            refine st265.trans ?_
            show Steps p.tables e below (T265.setTop (mkF m 197 #[.val (.int p1), .val (.int p2), .val (.int p3), .val (.int p4), .val (.long q5), .second, .val (.int p6), .val (.ref b234), .val (.int (0 : Int32)), .val (.int (1 : Int32)), .val (.int (1 : Int32))] [(.int p4)])) _
            refine XS.iloadN X265.here hx rfl (hb hby at_197) rfl ?_
            show Steps p.tables e below (T265.setTop (mkF m 198 #[.val (.int p1), .val (.int p2), .val (.int p3), .val (.int p4), .val (.long q5), .second, .val (.int p6), .val (.ref b234), .val (.int (0 : Int32)), .val (.int (1 : Int32)), .val (.int (1 : Int32))] [(.int p4), (.int p4)])) _
            refine XS.icmpNo X265.here hx rfl (hb hby at_198) rfl (teq (rfl : p4 = p4)).2 ?_
            show Steps p.tables e below (T265.setTop (mkF m 201 #[.val (.int p1), .val (.int p2), .val (.int p3), .val (.int p4), .val (.long q5), .second, .val (.int p6), .val (.ref b234), .val (.int (0 : Int32)), .val (.int (1 : Int32)), .val (.int (1 : Int32))] [])) _
            refine XS.iconst X265.here hx rfl (hb hby at_201) ?_
            show Steps p.tables e below (T265.setTop (mkF m 202 #[.val (.int p1), .val (.int p2), .val (.int p3), .val (.int p4), .val (.long q5), .second, .val (.int p6), .val (.ref b234), .val (.int (0 : Int32)), .val (.int (1 : Int32)), .val (.int (1 : Int32))] [(.int (1 : Int32))])) _
            refine XS.goto X265.here hx rfl (pc0 := 202) (pc' := 206) rfl (hb hby at_202) (by decide) (by decide) ?_
            show Steps p.tables e below (T265.setTop (mkF m 206 #[.val (.int p1), .val (.int p2), .val (.int p3), .val (.int p4), .val (.long q5), .second, .val (.int p6), .val (.ref b234), .val (.int (0 : Int32)), .val (.int (1 : Int32)), .val (.int (1 : Int32))] [(.int (1 : Int32))])) _
            refine XS.istore X265.here hx rfl (hb hby at_206) rfl (l' := #[.val (.int p1), .val (.int p2), .val (.int p3), .val (.int p4), .val (.long q5), .second, .val (.int p6), .val (.ref b234), .val (.int (0 : Int32)), .val (.int (1 : Int32)), .val (.int (1 : Int32))]) rfl ?_
            show Steps p.tables e below (T265.setTop (mkF m 208 #[.val (.int p1), .val (.int p2), .val (.int p3), .val (.int p4), .val (.long q5), .second, .val (.int p6), .val (.ref b234), .val (.int (0 : Int32)), .val (.int (1 : Int32)), .val (.int (1 : Int32))] [])) _
            refine XS.iload X265.here hx rfl (hb hby at_208) rfl ?_
            show Steps p.tables e below (T265.setTop (mkF m 210 #[.val (.int p1), .val (.int p2), .val (.int p3), .val (.int p4), .val (.long q5), .second, .val (.int p6), .val (.ref b234), .val (.int (0 : Int32)), .val (.int (1 : Int32)), .val (.int (1 : Int32))] [(.int (1 : Int32))])) _
            exact retN X265 hx (t := .boolean) Bd.returns (by simp) (hb hby at_210) hr
          · show Q0 Z p1 p2 p3 p4 q5 p6 h0 n0 _ T265.heap _
            rw [P265_0]
            exact ⟨rfl, N265⟩
set_option maxRecDepth 65536 in
set_option maxHeartbeats 40000000 in
theorem comes_1 {Post : Tables → Env → Array Value → State → Outcome → State → Prop} (hpost : ∀ tb e args s v u, (limb_1_1.after args s (.returned v) u = true ∧ limb_1_2.after args s (.returned v) u = true ∧ True) → FrameEnd s (.returned v) u (Jvm.fieldLocs frame_1_writes args s ++ Jvm.arrayLocs frame_1_arrays args s ++ Jvm.staticLocs frame_1_statics s) 24 66176 → Post tb e args s (.returned v) u) :
    ArmFor flags0 classFile x code maxLocals ret World_1 tables_1 room_1 Calls_1 rest_1 Pre_1 Post := by
  intro l hfl _ _ p e ha hc hk s m args below hf hA hF happ hP
  obtain ⟨hcalls, hrest, hpre⟩ := hP
  obtain ⟨-, -, -, hnamed, -, -, -, hat⟩ := (Spec.applies_iff hf).mp happ
  obtain ⟨hg, hn⟩ := and_e (Cond.before_iff.mp (show (Jvm.Cond.and given_1 narrow_1).before args s = true from hpre))
  obtain ⟨gg1, gg2⟩ := and_e hg
  obtain ⟨gg3, gg4⟩ := and_e gg2
  obtain ⟨gg5, gg6⟩ := and_e gg4
  obtain ⟨gg7, gg8⟩ := and_e gg6
  obtain ⟨gg9, gg10⟩ := and_e gg8
  obtain ⟨gg11, gg12⟩ := and_e gg10
  obtain ⟨w0, w1, w2, w3, w4, w5, rfl⟩ : ∃ w0 w1 w2 w3 w4 w5 : Value, args = #[w0, w1, w2, w3, w4, w5] := by
    have hs : args.size = 6 := by simpa [Cond.value, given_1] using gg1
    obtain ⟨L⟩ := args
    match L, hs with
    | [w0, w1, w2, w3, w4, w5], _ => exact ⟨w0, w1, w2, w3, w4, w5, rfl⟩
  have hw := fun d (hd : d ∈ tables_1) => atoms_spec (ws := Jvm.Cond.code x code maxLocals ret :: tables_1) hat d (List.mem_cons_of_mem _ hd)
  have hfit : Fit s := fun {y c} hc i hi => by
    obtain ⟨ha, rfl⟩ := Array.getElem?_eq_some_iff.mp hc
    have q := List.all_eq_true.mp ((Array.all_eq_true_iff_forall_mem.mp hF) _ (Array.getElem_mem ha)) i (List.mem_range.mpr hi)
    simpa [Array.getElem?_eq_getElem hi] using q
  obtain ⟨i0, ei0⟩ := is_v gg3
  obtain rfl : w0 = (.int i0) := Option.some.inj ei0
  obtain ⟨i1, ei1⟩ := is_v gg5
  obtain rfl : w1 = (.int i1) := Option.some.inj ei1
  obtain ⟨i2, ei2⟩ := is_v gg7
  obtain rfl : w2 = (.int i2) := Option.some.inj ei2
  obtain ⟨i3, ei3⟩ := is_v gg9
  obtain rfl : w3 = (.int i3) := Option.some.inj ei3
  obtain ⟨i4, ei4⟩ := isL_v gg11
  obtain rfl : w4 = (.long i4) := Option.some.inj ei4
  obtain ⟨i5, ei5⟩ := is_v gg12
  obtain rfl : w5 = (.int i5) := Option.some.inj ei5
  have ev1 := own_eqI hn
  have SS2 : Sta s s.heap "holdfast/CountedIds$Batch" "CHUNK_BITS" "I" (.int (14 : Int32)) := Sta.start ev1 (Or.inr ⟨(hw _ (List.mem_of_getElem? (i := 2) rfl)), (hw _ (List.mem_of_getElem? (i := 32) rfl))⟩)
  obtain ⟨n, o, h1, h2, h3, _, L, rfl, ⟨rfl, N⟩, hq⟩ := rm0 l s _ hw tables_1 i0 i1 i2 i3 i4 i5  s.heap s.heap.size (Nat.le_refl _) (Old.start s) SS2 p e ha hc hk s m _ below hf ((Spec.applies_iff_loose hf).mp happ).1 ⟨rfl, State.Warmed39.refl s, rfl⟩ trivial
  refine ⟨n, _, h1, h2, h3, hpost _ _ _ _ _ _ ⟨Cond.after_iff.mpr rfl, Cond.after_iff.mpr (eq_i res_at (Term.int_eval (1)) rfl), trivial⟩ ⟨hq.1, hq.2.1, (hq.2.2.sift fun y hy => Or.inr (N y hy)).mono (by decide) (by decide)⟩⟩
theorem main_1_1 : Claimed_1_1 := comes_1 fun _ _ _ _ _ _ h hF => ⟨h.1, hF⟩
theorem main_1_2 : Claimed_1_2 := comes_1 fun _ _ _ _ _ _ h hF => ⟨h.2.1, hF⟩
end Jvm.Pilot.@@N@@
namespace Jvm.Pilot.@@N@@
open Jvm Jvm.ClassFile Sem Op Lib Jvm.Free Jvm.Stand Jvm.Pilot.@@N@@.Jvm.D
/-! MADE BY PROGRAM (witnessworld.py) out of the Statement's table words and the real class files: 11 classes; the members and pool entries that the words name. The judged class is class 1, her method 2. -/
namespace start1
open Jvm.ClassFile
def u (s : String) : CpInfo := .utf8 (stringToUtf16 s)
/-- a pool by its gaps: so many unusable entries, then the entry; so many at the end -/
def gap : Nat → List CpInfo → List CpInfo
  | 0, r => r
  | n + 1, r => .unusable :: gap n r
def poolList (es : List (Nat × CpInfo)) (last : Nat) : List CpInfo := es.foldr (fun e r => gap e.1 (e.2 :: r)) (gap last [])
def pool (es : List (Nat × CpInfo)) (last : Nat) : Array CpInfo := ⟨poolList es last⟩
def fileOf (pool : Array CpInfo) (this : Nat) (attrs : Array Attribute := #[]) (ms : Array MethodInfo := #[]) (fl : Nat := 33) (sup : Nat := 0) (ifs : Array Nat := #[]) (fds : Array FieldInfo := #[]) : ClassFile where
  minorVersion := 0
  majorVersion := 65
  constantPool := pool
  accessFlags := fl
  thisClass := this
  superClass := sup
  interfaces := ifs
  fields := fds
  methods := ms
  attributes := attrs
def plain (name : String) (sup : Option ClassId) : Class where
  name := name
  kind := .ordinary
  loader := none
  accessFlags := 33
  super := sup
  interfaces := #[]
  cf := none
  fields := #[]
  methods := #[]
  instanceTypes := #[]
  staticTypes := #[]
  resolved := #[]
  callSites := []
  init := .initialized
  statics := none
  mirror := none

def pool0 : Array CpInfo := pool [(5, u "<init>"), (0, u "()V"), (1, .class_ 10), (1, u "java/lang/Object")] 113

def k0c0 : Code := { maxStack := 0, maxLocals := 1, code := object_method_1_code, exceptionTable := #[], attributes := #[] }
def k0m0 : Method := { name := "<init>", desc := "()V", sig := { parameters := [], returnType := none }, accessFlags := 1, code := some k0c0 }
/-- java/lang/Object -/
def k0 : Class := { plain "java/lang/Object" none with
  accessFlags := 33
  interfaces := #[]
  cf := some (fileOf pool0 8 #[] #[{ accessFlags := 1, nameIndex := 5, descriptorIndex := 6, attributes := #[] }] 33 0 #[] #[])
  fields := #[]
  methods := #[k0m0]
  instanceTypes := #[]
  staticTypes := #[]
  resolved := Array.replicate 124 none
  statics := none }

def pool1 : Array CpInfo := pool [(2, .class_ 4), (0, .nameAndType 5 6), (0, u "java/lang/Object"), (0, u "<init>"), (0, u "()V"), (0, .class_ 8), (0, u "holdfast/CountedIds$Batch"), (0, .methodref 7 3), (0, .methodref 7 11), (0, .nameAndType 12 13), (0, u "add"), (0, u "(JI)V"), (0, .long 18446744073709551615), (1, .long 6148914691236517205), (1, .methodref 7 19), (0, .nameAndType 20 21), (0, u "tag"), (0, u "(I)I"), (0, .methodref 23 24), (0, .class_ 25), (0, .nameAndType 26 27), (0, u "holdfast/BatchTagPinLaw"), (0, u "expected"), (0, u "(IIII)I"), (0, .methodref 7 29), (0, .nameAndType 30 6), (0, u "clear"), (3, u "law"), (0, u "(IIIIJI)Z")] 6

def k1m0 : Method := { name := "<init>", desc := "()V", sig := { parameters := [], returnType := none }, accessFlags := 1, code := none }
def k1c1 : Code := { maxStack := 2, maxLocals := 4, code := method_2_code, exceptionTable := #[], attributes := #[] }
def k1m1 : Method := { name := "expected", desc := "(IIII)I", sig := { parameters := [.int, .int, .int, .int], returnType := some .int }, accessFlags := 10, code := some k1c1 }
def k1c2 : Code := { maxStack := 5, maxLocals := 11, code := code, exceptionTable := #[], attributes := #[] }
def k1m2 : Method := { name := "law", desc := "(IIIIJI)Z", sig := { parameters := [.int, .int, .int, .int, .long, .int], returnType := some .boolean }, accessFlags := 9, code := some k1c2 }
/-- holdfast/BatchTagPinLaw -/
def k1 : Class := { plain "holdfast/BatchTagPinLaw" (some 0) with
  accessFlags := 49
  interfaces := #[]
  cf := some (fileOf pool1 23 #[] #[{ accessFlags := 1, nameIndex := 5, descriptorIndex := 6, attributes := #[] }, { accessFlags := 10, nameIndex := 26, descriptorIndex := 27, attributes := #[] }, { accessFlags := 9, nameIndex := 34, descriptorIndex := 35, attributes := #[] }] 49 2 #[] #[])
  fields := #[]
  methods := #[k1m0, k1m1, k1m2]
  instanceTypes := #[]
  staticTypes := #[]
  resolved := Array.replicate 42 none
  statics := none }

def pool2 : Array CpInfo := pool [(1, .methodref 2 3), (0, .class_ 4), (0, .nameAndType 5 6), (0, u "java/lang/Object"), (0, u "<init>"), (0, u "()V"), (0, .class_ 8), (0, u "holdfast/CountedIds$Batch"), (0, .class_ 10), (0, u "[J"), (0, .fieldref 7 12), (0, .nameAndType 13 14), (0, u "digests"), (0, u "[[J"), (0, .class_ 16), (0, u "[I"), (0, .fieldref 7 18), (0, .nameAndType 19 20), (0, u "tags"), (0, u "[[I"), (0, .fieldref 7 22), (0, .nameAndType 23 14), (0, u "spareDigests"), (0, .fieldref 7 25), (0, .nameAndType 26 20), (0, u "spareTags"), (0, .fieldref 7 28), (0, .nameAndType 29 30), (0, u "sorted"), (0, u "Z"), (0, .fieldref 7 32), (0, .nameAndType 33 34), (0, u "size"), (0, u "I"), (0, .integer 1048576), (7, .fieldref 7 44), (0, .nameAndType 45 34), (0, u "CHUNK_BITS"), (0, .methodref 7 47), (0, .nameAndType 48 49), (0, u "set"), (0, u "([[J[[IIJI)V"), (3, u "(I)I"), (31, u "tag"), (15, u "CAPACITY"), (1, u "CHUNK"), (1, u "SPLIT"), (1, u "MOST_BUCKET_BITS"), (2, u "add"), (0, u "(JI)V"), (4, u "clear"), (4, .class_ 122), (0, u "holdfast/CountedIds")] 2

def k2c0 : Code := { maxStack := 2, maxLocals := 1, code := prog_10_method_1_code, exceptionTable := #[], attributes := #[] }
def k2m0 : Method := { name := "<init>", desc := "()V", sig := { parameters := [], returnType := none }, accessFlags := 0, code := some k2c0 }
def k2c1 : Code := { maxStack := 6, maxLocals := 4, code := prog_10_method_2_code, exceptionTable := #[], attributes := #[] }
def k2m1 : Method := { name := "add", desc := "(JI)V", sig := { parameters := [.long, .int], returnType := none }, accessFlags := 0, code := some k2c1 }
def k2c2 : Code := { maxStack := 3, maxLocals := 2, code := prog_10_method_5_code, exceptionTable := #[], attributes := #[] }
def k2m2 : Method := { name := "tag", desc := "(I)I", sig := { parameters := [.int], returnType := some .int }, accessFlags := 0, code := some k2c2 }
def k2c3 : Code := { maxStack := 2, maxLocals := 1, code := prog_10_method_6_code, exceptionTable := #[], attributes := #[] }
def k2m3 : Method := { name := "clear", desc := "()V", sig := { parameters := [], returnType := none }, accessFlags := 0, code := some k2c3 }
def k2c4 : Code := { maxStack := 4, maxLocals := 6, code := prog_10_method_8_code, exceptionTable := #[], attributes := #[] }
def k2m4 : Method := { name := "set", desc := "([[J[[IIJI)V", sig := { parameters := [(.array (.array .long)), (.array (.array .int)), .int, .long, .int], returnType := none }, accessFlags := 10, code := some k2c4 }
/-- holdfast/CountedIds$Batch -/
def k2 : Class := { plain "holdfast/CountedIds$Batch" (some 0) with
  accessFlags := 48
  interfaces := #[]
  cf := some (fileOf pool2 7 #[.nestHost 121] #[{ accessFlags := 0, nameIndex := 5, descriptorIndex := 6, attributes := #[] }, { accessFlags := 0, nameIndex := 110, descriptorIndex := 111, attributes := #[] }, { accessFlags := 0, nameIndex := 85, descriptorIndex := 53, attributes := #[] }, { accessFlags := 0, nameIndex := 116, descriptorIndex := 6, attributes := #[] }, { accessFlags := 10, nameIndex := 48, descriptorIndex := 49, attributes := #[] }] 48 2 #[] #[{ accessFlags := 24, nameIndex := 101, descriptorIndex := 34, attributes := #[] }, { accessFlags := 26, nameIndex := 103, descriptorIndex := 34, attributes := #[] }, { accessFlags := 26, nameIndex := 45, descriptorIndex := 34, attributes := #[] }, { accessFlags := 26, nameIndex := 105, descriptorIndex := 34, attributes := #[] }, { accessFlags := 26, nameIndex := 107, descriptorIndex := 34, attributes := #[] }, { accessFlags := 2, nameIndex := 13, descriptorIndex := 14, attributes := #[] }, { accessFlags := 2, nameIndex := 19, descriptorIndex := 20, attributes := #[] }, { accessFlags := 2, nameIndex := 23, descriptorIndex := 14, attributes := #[] }, { accessFlags := 2, nameIndex := 26, descriptorIndex := 20, attributes := #[] }, { accessFlags := 2, nameIndex := 33, descriptorIndex := 34, attributes := #[] }, { accessFlags := 2, nameIndex := 29, descriptorIndex := 30, attributes := #[] }])
  fields := #[{ name := "CAPACITY", type := .int, accessFlags := 24, slot := 0, constantValue := 0 }, { name := "CHUNK", type := .int, accessFlags := 26, slot := 1, constantValue := 0 }, { name := "CHUNK_BITS", type := .int, accessFlags := 26, slot := 2, constantValue := 0 }, { name := "SPLIT", type := .int, accessFlags := 26, slot := 3, constantValue := 0 }, { name := "MOST_BUCKET_BITS", type := .int, accessFlags := 26, slot := 4, constantValue := 0 }, { name := "digests", type := (.array (.array .long)), accessFlags := 2, slot := 0, constantValue := 0 }, { name := "tags", type := (.array (.array .int)), accessFlags := 2, slot := 1, constantValue := 0 }, { name := "spareDigests", type := (.array (.array .long)), accessFlags := 2, slot := 2, constantValue := 0 }, { name := "spareTags", type := (.array (.array .int)), accessFlags := 2, slot := 3, constantValue := 0 }, { name := "size", type := .int, accessFlags := 2, slot := 4, constantValue := 0 }, { name := "sorted", type := .boolean, accessFlags := 2, slot := 5, constantValue := 0 }]
  methods := #[k2m0, k2m1, k2m2, k2m3, k2m4]
  instanceTypes := #[(.array (.array .long)), (.array (.array .int)), (.array (.array .long)), (.array (.array .int)), .int, .boolean]
  staticTypes := #[.int, .int, .int, .int, .int]
  resolved := Array.replicate 125 none
  statics := some 0 }

def pool3 : Array CpInfo := pool [(1, u "java/lang/Cloneable"), (0, .class_ 1), (0, u "java/lang/Object"), (0, .class_ 3)] 3

/-- java/lang/Cloneable -/
def k3 : Class := { plain "java/lang/Cloneable" (some 0) with
  accessFlags := 1537
  interfaces := #[]
  cf := some (fileOf pool3 2 #[] #[] 1537 4 #[] #[])
  fields := #[]
  methods := #[]
  instanceTypes := #[]
  staticTypes := #[]
  resolved := Array.replicate 8 none
  statics := none }

def pool4 : Array CpInfo := pool [(1, u "java/io/Serializable"), (0, .class_ 1), (0, u "java/lang/Object"), (0, .class_ 3)] 3

/-- java/io/Serializable -/
def k4 : Class := { plain "java/io/Serializable" (some 0) with
  accessFlags := 1537
  interfaces := #[]
  cf := some (fileOf pool4 2 #[] #[] 1537 4 #[] #[])
  fields := #[]
  methods := #[]
  instanceTypes := #[]
  staticTypes := #[]
  resolved := Array.replicate 8 none
  statics := none }

/-- the primitive byte -/
def k5 : Class := { plain "byte" none with kind := .primitive 'B', accessFlags := 0x411 }
/-- [B -/
def k6 : Class := { plain "[B" (some 0) with kind := .array 5 .byte, interfaces := #[3, 4], accessFlags := 1041 }

/-- the primitive int -/
def k7 : Class := { plain "int" none with kind := .primitive 'I', accessFlags := 0x411 }
/-- [I -/
def k8 : Class := { plain "[I" (some 0) with kind := .array 7 .int, interfaces := #[3, 4], accessFlags := 1041 }

/-- the primitive long -/
def k9 : Class := { plain "long" none with kind := .primitive 'J', accessFlags := 0x411 }
/-- [J -/
def k10 : Class := { plain "[J" (some 0) with kind := .array 9 .long, interfaces := #[3, 4], accessFlags := 1041 }

/-- [[J -/
def k11 : Class := { plain "[[J" (some 0) with kind := .array 10 (.array .long), interfaces := #[3, 4], accessFlags := 1041 }
/-- [[I -/
def k12 : Class := { plain "[[I" (some 0) with kind := .array 8 (.array .int), interfaces := #[3, 4], accessFlags := 1041 }

def heap : Heap := #[{ cls := 2, slots := #[.int 0, .int 0, .int 14, .int 0, .int 0], vm := .statics 2 }]
def classes : Array Class := #[k0, k1, k2, k3, k4, k5, k6, k7, k8, k9, k10, k11, k12]
def interned : List (Array UInt16 × Addr) := []
def slotsUsed : Nat := 5
def theMethod : MethodId := ⟨1, 2⟩
def args0 : Array Value := #[.int 5, .int 7, .int 3, .int 1, .long 6, .int 6]
def aboutOver (below : List Frame) : State where
  vm := { classes := classes, interned := interned.toArray }
  heap := heap
  slotsUsed := slotsUsed
  threads := #[{ frames := .invoking theMethod args0 :: below }]
def below0 : List Frame := [.native { method := ⟨0, 0⟩, args := #[] }]
def about1 : State := aboutOver below0
def p0 : Program := .bare "" "" ""
def e0 : Env := launch0.env 0 0 0
theorem w_frames : about1.frames = Frame.invoking theMethod args0 :: below0 := rfl
set_option maxRecDepth 65536 in
theorem w_args : argsFit about1.vm theMethod args0 = true := by decide +kernel
set_option maxRecDepth 65536 in
theorem w_heap : heapFits about1 = true := by decide +kernel
set_option maxRecDepth 65536 in
theorem w_runnable : about1.curStatus? = some .runnable := by decide +kernel
set_option maxRecDepth 65536 in
theorem w_alone : about1.alone = true := by decide +kernel
set_option maxRecDepth 65536 in
theorem w_named : about1.methodNamed? x = some theMethod := by decide +kernel
set_option maxRecDepth 65536 in
theorem w_hears : about1.hears theMethod below0 = true := by decide +kernel
set_option maxRecDepth 65536 in
theorem w_ripe : about1.ripe theMethod args0 below0 = true := by decide +kernel
theorem w_running : about1.status = .running := rfl
set_option maxRecDepth 65536 in
theorem w_room : about1.hasRoom e0.platform room_1 = true :=
  launch0.hasRoom_least _ room_1 (by decide +kernel) (by decide +kernel) (by decide +kernel) (by decide +kernel) (by decide +kernel) (by decide +kernel)
theorem allAtoms_all (ts : List Jvm.Cond) (a : Array Jvm.Value) (st : Jvm.State) : (allAtoms ts).before a st = ts.all (fun c => c.before a st) := by
  induction ts with
  | nil => rfl
  | cons c t ih =>
    show (Jvm.Cond.and c (allAtoms t)).before a st = _
    rw [Jvm.Cond.before_and, ih, List.all_cons]
def words1 : List Jvm.Cond := Jvm.Cond.code x code maxLocals ret :: tables_1
/-- a 'code' word, met by the world's own term for the bytes: nothing is compared byte by byte -/
theorem code_word {y : MethodName} {bytes : ByteArray} {mx : Nat} {rt : Option FieldType} {a : Array Value} {s : State} {m : MethodId} {meth : Method} {c : Code} (h1 : s.methodNamed? y = some m) (h2 : s.vm.method? m = some meth) (h3 : meth.code = some c) (h4 : c.code = bytes)
    (h5 : (c.maxLocals == mx && c.exceptionTable.isEmpty && decide (c.maxStack ≤ mostOperands) && decide (meth.sig.returnType = rt) && !meth.locks && decide (parseMethodDescriptor y.desc = some meth.sig)) = true) : (Jvm.Cond.code y bytes mx rt).before a s = true := by
  simp only [Bool.and_eq_true, beq_iff_eq, Bool.not_eq_true', decide_eq_true_eq] at h5
  obtain ⟨⟨⟨⟨⟨g1, g2⟩, g3⟩, g4⟩, g5⟩, g6⟩ := h5
  simp [Cond.before, Cond.holds, Cond.value, h1, h2, h3, h4, g1, g2, g3, g4, g5, g6]
def isCode : Jvm.Cond → Bool
  | .code _ _ _ _ => true
  | _ => false
theorem all_split {L : List Jvm.Cond} {P : Jvm.Cond → Bool} (h1 : L.all (fun c => isCode c || P c) = true) (h2 : ∀ c ∈ L.filter isCode, P c = true) : L.all P = true := by
  refine List.all_eq_true.mpr fun c hc => ?_
  have h := List.all_eq_true.mp h1 c hc
  rcases Bool.eq_false_or_eq_true (isCode c) with hi | hi
  · exact h2 c (List.mem_filter.mpr ⟨hc, hi⟩)
  · simpa [hi] using h
set_option maxRecDepth 65536 in
theorem w_c0 : (Jvm.Cond.code x code maxLocals ret).before args0 about1 = true := code_word (m := ⟨1, 2⟩) (meth := k1m2) (c := k1c2) (by decide +kernel) rfl rfl rfl (by decide +kernel)
set_option maxRecDepth 65536 in
theorem w_c1 : (Jvm.Cond.code ({ cls := "holdfast/CountedIds$Batch", name := "<init>", desc := "()V" } : Jvm.MethodName) prog_10_method_1_code (1 : Nat) (Option.none : Option Jvm.ClassFile.FieldType)).before args0 about1 = true := code_word (m := ⟨2, 0⟩) (meth := k2m0) (c := k2c0) (by decide +kernel) rfl rfl rfl (by decide +kernel)
set_option maxRecDepth 65536 in
theorem w_c2 : (Jvm.Cond.code ({ cls := "java/lang/Object", name := "<init>", desc := "()V" } : Jvm.MethodName) object_method_1_code (1 : Nat) (Option.none : Option Jvm.ClassFile.FieldType)).before args0 about1 = true := code_word (m := ⟨0, 0⟩) (meth := k0m0) (c := k0c0) (by decide +kernel) rfl rfl rfl (by decide +kernel)
set_option maxRecDepth 65536 in
theorem w_c3 : (Jvm.Cond.code ({ cls := "holdfast/CountedIds$Batch", name := "add", desc := "(JI)V" } : Jvm.MethodName) prog_10_method_2_code (4 : Nat) (Option.none : Option Jvm.ClassFile.FieldType)).before args0 about1 = true := code_word (m := ⟨2, 1⟩) (meth := k2m1) (c := k2c1) (by decide +kernel) rfl rfl rfl (by decide +kernel)
set_option maxRecDepth 65536 in
theorem w_c4 : (Jvm.Cond.code ({ cls := "holdfast/CountedIds$Batch", name := "set", desc := "([[J[[IIJI)V" } : Jvm.MethodName) prog_10_method_8_code (6 : Nat) (Option.none : Option Jvm.ClassFile.FieldType)).before args0 about1 = true := code_word (m := ⟨2, 4⟩) (meth := k2m4) (c := k2c4) (by decide +kernel) rfl rfl rfl (by decide +kernel)
set_option maxRecDepth 65536 in
theorem w_c5 : (Jvm.Cond.code ({ cls := "holdfast/CountedIds$Batch", name := "tag", desc := "(I)I" } : Jvm.MethodName) prog_10_method_5_code (2 : Nat) (Option.some Jvm.ClassFile.FieldType.int)).before args0 about1 = true := code_word (m := ⟨2, 2⟩) (meth := k2m2) (c := k2c2) (by decide +kernel) rfl rfl rfl (by decide +kernel)
set_option maxRecDepth 65536 in
theorem w_c6 : (Jvm.Cond.code ({ cls := "holdfast/BatchTagPinLaw", name := "expected", desc := "(IIII)I" } : Jvm.MethodName) method_2_code (4 : Nat) (Option.some Jvm.ClassFile.FieldType.int)).before args0 about1 = true := code_word (m := ⟨1, 1⟩) (meth := k1m1) (c := k1c1) (by decide +kernel) rfl rfl rfl (by decide +kernel)
set_option maxRecDepth 65536 in
theorem w_c7 : (Jvm.Cond.code ({ cls := "holdfast/CountedIds$Batch", name := "clear", desc := "()V" } : Jvm.MethodName) prog_10_method_6_code (1 : Nat) (Option.none : Option Jvm.ClassFile.FieldType)).before args0 about1 = true := code_word (m := ⟨2, 3⟩) (meth := k2m3) (c := k2c3) (by decide +kernel) rfl rfl rfl (by decide +kernel)
def codes1 : List Jvm.Cond := [Jvm.Cond.code x code maxLocals ret, Jvm.Cond.code ({ cls := "holdfast/CountedIds$Batch", name := "<init>", desc := "()V" } : Jvm.MethodName) prog_10_method_1_code (1 : Nat) (Option.none : Option Jvm.ClassFile.FieldType), Jvm.Cond.code ({ cls := "java/lang/Object", name := "<init>", desc := "()V" } : Jvm.MethodName) object_method_1_code (1 : Nat) (Option.none : Option Jvm.ClassFile.FieldType), Jvm.Cond.code ({ cls := "holdfast/CountedIds$Batch", name := "add", desc := "(JI)V" } : Jvm.MethodName) prog_10_method_2_code (4 : Nat) (Option.none : Option Jvm.ClassFile.FieldType), Jvm.Cond.code ({ cls := "holdfast/CountedIds$Batch", name := "set", desc := "([[J[[IIJI)V" } : Jvm.MethodName) prog_10_method_8_code (6 : Nat) (Option.none : Option Jvm.ClassFile.FieldType), Jvm.Cond.code ({ cls := "holdfast/CountedIds$Batch", name := "tag", desc := "(I)I" } : Jvm.MethodName) prog_10_method_5_code (2 : Nat) (Option.some Jvm.ClassFile.FieldType.int), Jvm.Cond.code ({ cls := "holdfast/BatchTagPinLaw", name := "expected", desc := "(IIII)I" } : Jvm.MethodName) method_2_code (4 : Nat) (Option.some Jvm.ClassFile.FieldType.int), Jvm.Cond.code ({ cls := "holdfast/CountedIds$Batch", name := "clear", desc := "()V" } : Jvm.MethodName) prog_10_method_6_code (1 : Nat) (Option.none : Option Jvm.ClassFile.FieldType)]
set_option maxRecDepth 65536 in
theorem codes_eq : words1.filter isCode = codes1 := rfl
theorem w_codes : ∀ c ∈ words1.filter isCode, c.before args0 about1 = true := by
  rw [codes_eq]
  intro c hc
  simp only [codes1, List.mem_cons, List.not_mem_nil, or_false] at hc
  rcases hc with rfl | rfl | rfl | rfl | rfl | rfl | rfl | rfl
  · exact w_c0
  · exact w_c1
  · exact w_c2
  · exact w_c3
  · exact w_c4
  · exact w_c5
  · exact w_c6
  · exact w_c7
set_option maxRecDepth 65536 in
theorem w_t1 : (words1.take 24).all (fun c => isCode c || c.before args0 about1) = true := by decide +kernel
set_option maxRecDepth 65536 in
theorem w_t2 : ((words1.drop 24).take 24).all (fun c => isCode c || c.before args0 about1) = true := by decide +kernel
set_option maxRecDepth 65536 in
theorem w_t3 : ((words1.drop 24).drop 24).all (fun c => isCode c || c.before args0 about1) = true := by decide +kernel
theorem w_tables : (allAtoms (Jvm.Cond.code x code maxLocals ret :: tables_1)).before args0 about1 = true := by
  rw [allAtoms_all]
  show words1.all (fun c => c.before args0 about1) = true
  refine all_split ?_ w_codes
  rw [← List.take_append_drop 24 words1, List.all_append, w_t1, ← List.take_append_drop 24 (words1.drop 24), List.all_append, w_t2, w_t3]
  rfl
set_option maxRecDepth 65536 in
theorem w_case : (Jvm.Cond.and given_1 narrow_1).before args0 about1 = true := by decide +kernel
theorem w_applies : (headSpec (Jvm.Cond.code x code maxLocals ret :: tables_1) room_1).applies x e0.platform about1 = true :=
  (Spec.applies_iff w_frames).mpr ⟨w_running, w_runnable, w_alone, w_named, w_hears, w_ripe, w_room, w_tables⟩
theorem atStart : AtStart classFile x code maxLocals ret World_1 tables_1 room_1 Calls_1 rest_1 Pre_1 launch0 p0 e0 about1 theMethod args0 below0 :=
  ⟨lists_1, trivial, launch0.admits_env _ _ _, launch0.least_env, fairChoices_fair.cas, fairChoices_fair.clock, w_frames, w_args, w_heap, w_applies, trivial, trivial, w_case⟩
end start1
theorem witness_1 : WitnessClaimed_1 := ⟨start1.p0, start1.e0, start1.about1, start1.theMethod, start1.args0, start1.below0, start1.atStart⟩
end Jvm.Pilot.@@N@@
