import JvmDerived
import JvmDerived.Pilot.@@N@@Statement
import JvmDerived.Pilot.@@N@@Code
set_option linter.unusedVariables false
set_option linter.unusedSimpArgs false
namespace Jvm.RoadKit
open Sem ClassFile Op Lib Jvm.Stand Jvm.Free Jvm.LawKit
section New
variable {p : Program} {l : Launch} {e : Env} {R : Room} {s : State} {m : MethodId} {args : Array Value} {below : List Frame} {meth : Method} {c : Code} {T : State} {locs : List Loc} {cells slots : Nat}
theorem retI (X : Stand p l e R s m args below meth c T locs cells slots) (hx : p.tables.exec = Jvm.exec) {pc : Nat} {Ls : Array Slot} {z : Int32} {rest : List Value} (hret : meth.sig.returnType = some .int) (hd : decode c.code pc = .ok (.ireturn, 1)) {fs : List Frame}
    (hl : ∀ (f : JFrame) (acts : List Action), f.method = m → f.locked = none → f.entered = [] → (doReturn e (T.setTop f) acts (some (.int z))).1 = T.setFrames fs) : Steps p.tables e below (T.setTop (mkF m pc Ls (.int z :: rest))) (T.setFrames fs) := by
  have hm' : T.vm.method? m = some meth := X.method'
  have hn : narrow .int (.int z) = .int z := rfl
  show Steps p.tables e below (T.setTop { method := m, pc := pc, locals := Ls, stack := _ :: rest, locked := none }) _
  jvm_step X.here [X.here.top, hx, hd, hm', hret, hn]
  first | (intro acts; rw [hl _ acts rfl rfl rfl]) | rw [hl _ _ rfl rfl rfl]
  exact Steps.refl _
end New
end Jvm.RoadKit
namespace Jvm.Pilot.@@N@@
open Jvm Jvm.ClassFile Sem Op Lib Jvm.Free Jvm.Stand Jvm.LawKit Jvm.RoadKit Bundle Jvm.Pilot.@@N@@.Jvm.D
theorem own_eqI {args : Array Value} {s : State} {t : Term} {k : Int32} (h : (Jvm.Cond.eq t (Jvm.Term.int k)).value args s none s [] = some true) : t.eval args s none [] s = some (.int k) := by
  obtain ⟨x, y, hx, hy, k1, k2⟩ := cmp_v (Or.inl h)
  obtain rfl : Value.int k = y := Option.some.inj ((Term.int_eval k).symm.trans hy)
  cases x <;> first | (rw [hx]; exact congrArg (fun z => some (Value.int z)) (by simpa [Cond.value, hx, hy] using h)) | (obtain ⟨z, hz⟩ := k1; cases hz; done) | (exact absurd k1.2 (by decide))
theorem own_eqL {args : Array Value} {s : State} {t : Term} {k : Int64} (h : (Jvm.Cond.eq t (Jvm.Term.long k)).value args s none s [] = some true) : t.eval args s none [] s = some (.long k) := by
  obtain ⟨x, y, hx, hy, k1, k2⟩ := cmp_v (Or.inl h)
  obtain rfl : Value.long k = y := Option.some.inj ((long_at k).symm.trans hy)
  cases x <;> first | (rw [hx]; exact congrArg (fun z => some (Value.long z)) (by simpa [Cond.value, hx, hy] using h)) | (obtain ⟨z, hz⟩ := k1; cases hz; done) | (exact absurd k1.2 (by decide))
theorem own_set_miss (c : Cell) (j i : Nat) (v : Value) (h : ¬ i = j) : (c.setSlot j v).slots[i]? = c.slots[i]? := by
  unfold Cell.setSlot; rw [Array.getElem?_setIfInBounds_ne (fun q => h q.symm)]
def OwnLng (Z : State) (h : Heap) (a : Addr) : Prop := ∃ cl : Cell, Arr Z h a cl .long ∧ cl.slots.size = 16384
theorem OwnLng.lt {Z : State} {h : Heap} {a : Addr} (F : OwnLng Z h a) : a < h.size := by obtain ⟨c, A, -⟩ := F; exact A.lt
theorem OwnLng.ext {Z : State} {h h' : Heap} {a : Addr} (F : OwnLng Z h a) (E : Ext h h') : OwnLng Z h' a := by obtain ⟨c, A, r⟩ := F; exact ⟨c, A.ext E, r⟩
theorem OwnLng.other {Z : State} {h h' : Heap} {a b : Addr} {sl : Nat} {v : Value} (F : OwnLng Z h b) (W : Wr h h' a sl v) (q : b ≠ a) : OwnLng Z h' b := by obtain ⟨c, A, r⟩ := F; exact ⟨c, A.other W q, r⟩
theorem OwnLng.keep {Z : State} {h h' : Heap} {a : Addr} {ws : List Addr} (F : OwnLng Z h a) (K : Keep h h' ws) (q : a ∉ ws) : OwnLng Z h' a := by obtain ⟨c, A, r⟩ := F; exact ⟨c, ⟨K.2.1 a c A.1 q, A.2⟩, r⟩
theorem OwnLng.new {Z : State} {h : Heap} {a : Addr} {k : ClassId} (A : Arr Z h a (newA k .long (16384 : Int32)) .long) : OwnLng Z h a := ⟨_, A, (sz_new _ _ _).trans (by decide)⟩
theorem OwnLng.same {Z : State} {h h' : Heap} {a : Addr} {cl : Cell} {j : Nat} {v : Value} (A : Arr Z h a cl .long) (S : cl.slots.size = 16384) (W : Wr h h' a j v) : OwnLng Z h' a := ⟨_, A.same W, by rw [sz_set]; exact S⟩
def OwnTg (Z : State) (h : Heap) (a : Addr) (g : Nat → Option Int32) : Prop := ∃ cl : Cell, Arr Z h a cl .int ∧ cl.slots.size = 16384 ∧ ∀ i x, g i = some x → cl.slots[i]? = some (.int x)
theorem OwnTg.lt {Z : State} {h : Heap} {a : Addr} {g : Nat → Option Int32} (F : OwnTg Z h a g) : a < h.size := by obtain ⟨c, A, -⟩ := F; exact A.lt
theorem OwnTg.ext {Z : State} {h h' : Heap} {a : Addr} {g : Nat → Option Int32} (F : OwnTg Z h a g) (E : Ext h h') : OwnTg Z h' a g := by obtain ⟨c, A, r⟩ := F; exact ⟨c, A.ext E, r⟩
theorem OwnTg.other {Z : State} {h h' : Heap} {a b : Addr} {sl : Nat} {v : Value} {g : Nat → Option Int32} (F : OwnTg Z h b g) (W : Wr h h' a sl v) (q : b ≠ a) : OwnTg Z h' b g := by obtain ⟨c, A, r⟩ := F; exact ⟨c, A.other W q, r⟩
theorem OwnTg.keep {Z : State} {h h' : Heap} {a : Addr} {ws : List Addr} {g : Nat → Option Int32} (F : OwnTg Z h a g) (K : Keep h h' ws) (q : a ∉ ws) : OwnTg Z h' a g := by obtain ⟨c, A, r⟩ := F; exact ⟨c, ⟨K.2.1 a c A.1 q, A.2⟩, r⟩
def own_none : Nat → Option Int32 := fun _ => none
def own_up (g : Nat → Option Int32) (j x : Int32) : Nat → Option Int32 := fun i => if i = j.toNatClampNeg then some x else g i
theorem OwnTg.new {Z : State} {h : Heap} {a : Addr} {k : ClassId} (A : Arr Z h a (newA k .int (16384 : Int32)) .int) : OwnTg Z h a own_none := ⟨_, A, (sz_new _ _ _).trans (by decide), fun i x q => nomatch q⟩
theorem OwnTg.same {Z : State} {h h' : Heap} {a : Addr} {cl : Cell} {j x : Int32} {g : Nat → Option Int32} (A : Arr Z h a cl .int) (S : cl.slots.size = 16384) (H : ∀ i x, g i = some x → cl.slots[i]? = some (.int x)) (hj : ¬ (j < 0 ∨ cl.slots.size ≤ j.toNatClampNeg)) (W : Wr h h' a j.toNatClampNeg (.int x)) : OwnTg Z h' a (own_up g j x) := by
  refine ⟨_, A.same W, by rw [sz_set]; exact S, fun i y q => ?_⟩
  unfold own_up at q
  split at q
  · rename_i e; cases q; rw [e]; exact get_hit hj rfl
  · rename_i e; rw [← H i y q]; exact own_set_miss _ _ _ _ (fun z => e z)
theorem own_in {j : Int32} {n : Nat} (hn : n = 16384) (h : ¬ j < (0 : Int32) ∧ j < (16384 : Int32)) : ¬ (j < 0 ∨ n ≤ j.toNatClampNeg) := by
  subst hn
  have q := inb_of (z := (16384 : Int32)) (j := j) (c := newA 0 .int (16384 : Int32)) (sz_new _ _ _) h
  rw [sz_new] at q; exact q
theorem pn_0 : plainName "holdfast/CountedIds$Batch" = true := by first | (simp [plainName, overriddenIn]; done) | decide +kernel
theorem ef_1 (m : MethodId) (x0 : Addr) : entryFrame m #[(.ref x0)] 1 = mkF m 0 #[.val (.ref x0)] [] := by first | (simp [entryFrame, mkF, argsToLocals, Value.category]; done) | rfl
theorem d1_0 : decode prog_10_method_1_code 0 = .ok (.aload_n 0, 1) := by decide +kernel
theorem d1_1 : decode prog_10_method_1_code 1 = .ok (.invokespecial 1, 3) := by decide +kernel
theorem d1_4 : decode prog_10_method_1_code 4 = .ok (.aload_n 0, 1) := by decide +kernel
theorem d1_5 : decode prog_10_method_1_code 5 = .ok (.bipush 64, 2) := by decide +kernel
theorem d1_7 : decode prog_10_method_1_code 7 = .ok (.anewarray 9, 3) := by decide +kernel
theorem d1_10 : decode prog_10_method_1_code 10 = .ok (.putfield 11, 3) := by decide +kernel
theorem d1_13 : decode prog_10_method_1_code 13 = .ok (.aload_n 0, 1) := by decide +kernel
theorem d1_14 : decode prog_10_method_1_code 14 = .ok (.bipush 64, 2) := by decide +kernel
theorem d1_16 : decode prog_10_method_1_code 16 = .ok (.anewarray 15, 3) := by decide +kernel
theorem d1_19 : decode prog_10_method_1_code 19 = .ok (.putfield 17, 3) := by decide +kernel
theorem d1_22 : decode prog_10_method_1_code 22 = .ok (.aload_n 0, 1) := by decide +kernel
theorem d1_23 : decode prog_10_method_1_code 23 = .ok (.bipush 64, 2) := by decide +kernel
theorem d1_25 : decode prog_10_method_1_code 25 = .ok (.anewarray 9, 3) := by decide +kernel
theorem d1_28 : decode prog_10_method_1_code 28 = .ok (.putfield 21, 3) := by decide +kernel
theorem d1_31 : decode prog_10_method_1_code 31 = .ok (.aload_n 0, 1) := by decide +kernel
theorem d1_32 : decode prog_10_method_1_code 32 = .ok (.bipush 64, 2) := by decide +kernel
theorem d1_34 : decode prog_10_method_1_code 34 = .ok (.anewarray 15, 3) := by decide +kernel
theorem d1_37 : decode prog_10_method_1_code 37 = .ok (.putfield 24, 3) := by decide +kernel
theorem d1_40 : decode prog_10_method_1_code 40 = .ok (.aload_n 0, 1) := by decide +kernel
theorem d1_41 : decode prog_10_method_1_code 41 = .ok (.iconst 1, 1) := by decide +kernel
theorem d1_42 : decode prog_10_method_1_code 42 = .ok (.putfield 27, 3) := by decide +kernel
theorem d1_45 : decode prog_10_method_1_code 45 = .ok (.return_, 1) := by decide +kernel
def Q1 (Z : State) (a1 : Addr) (h0 : Heap) (n0 : Nat) (v : Option Value) (h : Heap) (L : List Loc) : Prop := ∃ d : Addr, ∃ t : Addr, ∃ kd : ClassId, ∃ kt : ClassId, v = none ∧ Fr n0 L ∧ (Keep h0 h [a1]) ∧ (h0.size ≤ d) ∧ (h0.size ≤ t) ∧ (d ≠ t) ∧ (Fld Z h a1 "holdfast/CountedIds$Batch" "digests" "[[J" (.ref d)) ∧ (Fld Z h a1 "holdfast/CountedIds$Batch" "tags" "[[I" (.ref t)) ∧ (Fld Z h a1 "holdfast/CountedIds$Batch" "size" "I" (.int (0 : Int32))) ∧ (Fld Z h a1 "holdfast/CountedIds$Batch" "sorted" "Z" (.int (1 : Int32))) ∧ (Arv Z h d kd (.array .long) (64 : Int32) [.null] .null) ∧ (Arv Z h t kt (.array .int) (64 : Int32) [.null] .null) ∧ (OvrA Z kd .long "[J") ∧ (OvrA Z kt .int "[I")
set_option maxRecDepth 65536 in
set_option maxHeartbeats 40000000 in
theorem rm1 (l : Launch) (Z : State) (a0 : Array Value) (hw : ∀ d ∈ tables_1, d.before a0 Z = true) (ws : List Jvm.Cond) (a1 : Addr) (h0 : Heap) (n0 : Nat) (Z0 : n0 ≤ h0.size) (E1 : Exa Z h0 a1 "holdfast/CountedIds$Batch") (g1 : n0 ≤ a1) (F1 : Fld Z h0 a1 "holdfast/CountedIds$Batch" "digests" "[[J" .null) (F2 : Fld Z h0 a1 "holdfast/CountedIds$Batch" "tags" "[[I" .null) (F3 : Fld Z h0 a1 "holdfast/CountedIds$Batch" "spareDigests" "[[J" .null) (F4 : Fld Z h0 a1 "holdfast/CountedIds$Batch" "spareTags" "[[I" .null) (F5 : Fld Z h0 a1 "holdfast/CountedIds$Batch" "sorted" "Z" (.int (0 : Int32))) (F6 : Fld Z h0 a1 "holdfast/CountedIds$Batch" "size" "I" (.int (0 : Int32))) :
    MetFree l (⟨"holdfast/CountedIds$Batch", "<init>", "()V"⟩ : MethodName) (head1 (Jvm.Cond.code (⟨"holdfast/CountedIds$Batch", "<init>", "()V"⟩ : MethodName) prog_10_method_1_code 1 none :: ws) ({ frames := 1, cells := 4, slots := 256, locals := 12 } : Room)) (fun a U => a = #[(.ref a1)] ∧ Z.Warmed39 U.vm ∧ U.heap = h0) (fun _ _ _ _ _ => True) (fun _ U o U' => ∃ v L, o = .returned v ∧ Q1 Z a1 h0 n0 v U'.heap L ∧ FrameEnd U o U' L ({ frames := 1, cells := 4, slots := 256, locals := 12 } : Room).cells ({ frames := 1, cells := 4, slots := 256, locals := 12 } : Room).slots) := by
  refine MetFree.of_bodySF (plainFor_of_name pn_0) hisR ?_
  intro p e s m args below meth c s₁ Bd hml0 hP hK
  obtain ⟨rfl, hZ0, hh⟩ := hP
  have hx := Bd.exec
  have hby := Bd.bytes
  have hml : c.maxLocals = 1 := hml0
  have hown0 : s.vm.findClass "holdfast/CountedIds$Batch" = some m.cls := findClass_of_methodNamed Bd.named
  have hnm := (name_of_methodNamed Bd.named Bd.method).1
  have hlk : meth.locks = false := by first | exact BodyLoose.notSynchronized Bd | exact Body.notSynchronized Bd
  have X0 : Stand p l e ({ frames := 1, cells := 4, slots := 256, locals := 12 } : Room) s m #[(.ref a1)] below meth c s₁ [] 0 0 := Stand.of_body Bd
  have e0 : s₁.heap = h0 := by rw [← hh, Bd.state]; rfl
  have N0 := Fr.nil n0
  have pre0 : ∀ t, Steps p.tables e below (s₁.setTop (mkF m 0 #[.val (.ref a1)] [])) t → Steps p.tables e below (s₁.setTop (entryFrame m #[(.ref a1)] 1)) t := fun t k => castTop (ef_1 m a1) k
  obtain ⟨T101, X101, e101, st101⟩ := initO X0 hx hZ0 hown0 (hw _ (List.mem_of_getElem? (i := 6) rfl)) (hw _ (List.mem_of_getElem? (i := 7) rfl)) (hw _ (List.mem_of_getElem? (i := 8) rfl)) e0 (g := (mkF m 1 #[.val (.ref a1)] [(.ref a1)])) rfl (by rw [hml]; rfl) rfl (hb hby d1_1) (by decide) (W := 0) (by show 2 * 0 + _ ≤ _; exact Nat.le_of_eq rfl) (by decide)
  obtain ⟨T102, h102, k102, X102, e102, E102, A102, x102, O102, st102⟩ := newRA X101 hx hZ0 hown0 (C := "[J") (ty := .long) (by first | rfl | decide) (hw _ (List.mem_of_getElem? (i := 9) rfl)) (hw _ (List.mem_of_getElem? (i := 10) rfl)) e101 (g := (mkF m 7 #[.val (.ref a1)] [(.int (64 : Int32)), (.ref a1)])) rfl (hb hby d1_7) rfl (by decide) (cap := 64) (by decide) (by decide) (by decide) (by decide) (ad := "[[J") (by decide)
  obtain ⟨b102, g102⟩ : ∃ z, z = h0.size := ⟨_, rfl⟩
  rw [← g102] at A102 x102 st102
  have ne_a1_b102 : a1 ≠ b102 := Nat.ne_of_lt (Nat.lt_of_lt_of_le E1.lt (Nat.le_of_eq g102.symm))
  have gn_b102 : n0 ≤ b102 := Nat.le_trans Z0 (Nat.le_of_eq g102.symm)
  have sz_b102 : h0.size ≤ b102 := Nat.le_trans (Keep.refl h0 [a1]).1 (Nat.le_of_eq g102.symm)
  have f103 : Exa Z h102 a1 "holdfast/CountedIds$Batch" := Exa.ext E102 E1
  have f104 : Fld Z h102 a1 "holdfast/CountedIds$Batch" "digests" "[[J" .null := Fld.ext E102 F1
  have f105 : Fld Z h102 a1 "holdfast/CountedIds$Batch" "tags" "[[I" .null := Fld.ext E102 F2
  have f106 : Fld Z h102 a1 "holdfast/CountedIds$Batch" "spareDigests" "[[J" .null := Fld.ext E102 F3
  have f107 : Fld Z h102 a1 "holdfast/CountedIds$Batch" "spareTags" "[[I" .null := Fld.ext E102 F4
  have f108 : Fld Z h102 a1 "holdfast/CountedIds$Batch" "sorted" "Z" (.int (0 : Int32)) := Fld.ext E102 F5
  have f109 : Fld Z h102 a1 "holdfast/CountedIds$Batch" "size" "I" (.int (0 : Int32)) := Fld.ext E102 F6
  have Zs102 : n0 ≤ h102.size := Nat.le_trans Z0 E102.1
  have K102 : Keep h0 h102 [a1] := (Keep.refl h0 [a1]).ext E102
  have v102 : Arv Z h102 b102 k102 (.array .long) (64 : Int32) [.null] .null := (Arv.new A102 (by decide)).pad (pad_rep [] .null 1)
  obtain ⟨T110, h110, X110, e110, W110, st110⟩ := putF X102 hx hZ0 hown0 (host := "") (Or.inl (hw _ (List.mem_of_getElem? (i := 11) rfl))) Via.refl e102 f104 f103 (Or.inl (hw _ (List.mem_of_getElem? (i := 12) rfl))) (hw _ (List.mem_of_getElem? (i := 1) rfl)) (ty := (.array (.array .long))) (by decide) rfl rfl (g := (mkF m 10 #[.val (.ref a1)] [(.ref b102), (.ref a1)])) rfl rfl (hb hby d1_10)
  have f111 : Exa Z h110 a1 "holdfast/CountedIds$Batch" := Exa.wr W110 f103
  have f112 : Fld Z h110 a1 "holdfast/CountedIds$Batch" "tags" "[[I" .null := Fld.other W110 f105 (Or.inr (slot_ne (Or.inl (hw _ (List.mem_of_getElem? (i := 16) rfl))) (Or.inl (hw _ (List.mem_of_getElem? (i := 12) rfl))) (by decide) (t := (.array (.array .int))) (t' := (.array (.array .long))) (by decide) (by decide)))
  have f113 : Fld Z h110 a1 "holdfast/CountedIds$Batch" "spareDigests" "[[J" .null := Fld.other W110 f106 (Or.inr (slot_ne (Or.inl (hw _ (List.mem_of_getElem? (i := 18) rfl))) (Or.inl (hw _ (List.mem_of_getElem? (i := 12) rfl))) (by decide) (t := (.array (.array .long))) (t' := (.array (.array .long))) (by decide) (by decide)))
  have f114 : Fld Z h110 a1 "holdfast/CountedIds$Batch" "spareTags" "[[I" .null := Fld.other W110 f107 (Or.inr (slot_ne (Or.inl (hw _ (List.mem_of_getElem? (i := 20) rfl))) (Or.inl (hw _ (List.mem_of_getElem? (i := 12) rfl))) (by decide) (t := (.array (.array .int))) (t' := (.array (.array .long))) (by decide) (by decide)))
  have f115 : Fld Z h110 a1 "holdfast/CountedIds$Batch" "sorted" "Z" (.int (0 : Int32)) := Fld.other W110 f108 (Or.inr (slot_ne (Or.inl (hw _ (List.mem_of_getElem? (i := 22) rfl))) (Or.inl (hw _ (List.mem_of_getElem? (i := 12) rfl))) (by decide) (t := .boolean) (t' := (.array (.array .long))) (by decide) (by decide)))
  have f116 : Fld Z h110 a1 "holdfast/CountedIds$Batch" "size" "I" (.int (0 : Int32)) := Fld.other W110 f109 (Or.inr (slot_ne (Or.inl (hw _ (List.mem_of_getElem? (i := 29) rfl))) (Or.inl (hw _ (List.mem_of_getElem? (i := 12) rfl))) (by decide) (t := .int) (t' := (.array (.array .long))) (by decide) (by decide)))
  have f117 : Arv Z h110 b102 k102 (.array .long) (64 : Int32) [.null] .null := v102.other W110 (Ne.symm ne_a1_b102)
  have f118 : Fld Z h110 a1 "holdfast/CountedIds$Batch" "digests" "[[J" (.ref b102) := f104.same W110
  have Zs110 : n0 ≤ h110.size := Nat.le_trans Zs102 (Keep.of_wr W110).1
  have N110 := Fr.snoc X110 N0 g1
  have K110 : Keep h0 h110 [a1] := K102.wr W110 (Or.inl (List.mem_of_getElem? (i := 0) rfl))
  obtain ⟨T119, h119, k119, X119, e119, E119, A119, x119, O119, st119⟩ := newRA X110 hx hZ0 hown0 (C := "[I") (ty := .int) (by first | rfl | decide) (hw _ (List.mem_of_getElem? (i := 13) rfl)) (hw _ (List.mem_of_getElem? (i := 14) rfl)) e110 (g := (mkF m 16 #[.val (.ref a1)] [(.int (64 : Int32)), (.ref a1)])) rfl (hb hby d1_16) rfl (by decide) (cap := 64) (by decide) (by decide) (by decide) (by decide) (ad := "[[I") (by decide)
  obtain ⟨b119, g119⟩ : ∃ z, z = h110.size := ⟨_, rfl⟩
  rw [← g119] at A119 x119 st119
  have ne_a1_b119 : a1 ≠ b119 := Nat.ne_of_lt (Nat.lt_of_lt_of_le f111.lt (Nat.le_of_eq g119.symm))
  have ne_b102_b119 : b102 ≠ b119 := Nat.ne_of_lt (Nat.lt_of_lt_of_le f117.lt (Nat.le_of_eq g119.symm))
  have gn_b119 : n0 ≤ b119 := Nat.le_trans Zs110 (Nat.le_of_eq g119.symm)
  have sz_b119 : h0.size ≤ b119 := Nat.le_trans K110.1 (Nat.le_of_eq g119.symm)
  have f120 : Exa Z h119 a1 "holdfast/CountedIds$Batch" := Exa.ext E119 f111
  have f121 : Fld Z h119 a1 "holdfast/CountedIds$Batch" "tags" "[[I" .null := Fld.ext E119 f112
  have f122 : Fld Z h119 a1 "holdfast/CountedIds$Batch" "spareDigests" "[[J" .null := Fld.ext E119 f113
  have f123 : Fld Z h119 a1 "holdfast/CountedIds$Batch" "spareTags" "[[I" .null := Fld.ext E119 f114
  have f124 : Fld Z h119 a1 "holdfast/CountedIds$Batch" "sorted" "Z" (.int (0 : Int32)) := Fld.ext E119 f115
  have f125 : Fld Z h119 a1 "holdfast/CountedIds$Batch" "size" "I" (.int (0 : Int32)) := Fld.ext E119 f116
  have f126 : Arv Z h119 b102 k102 (.array .long) (64 : Int32) [.null] .null := f117.ext E119
  have f127 : Fld Z h119 a1 "holdfast/CountedIds$Batch" "digests" "[[J" (.ref b102) := Fld.ext E119 f118
  have Zs119 : n0 ≤ h119.size := Nat.le_trans Zs110 E119.1
  have K119 : Keep h0 h119 [a1] := K110.ext E119
  have v119 : Arv Z h119 b119 k119 (.array .int) (64 : Int32) [.null] .null := (Arv.new A119 (by decide)).pad (pad_rep [] .null 1)
  obtain ⟨T128, h128, X128, e128, W128, st128⟩ := putF X119 hx hZ0 hown0 (host := "") (Or.inl (hw _ (List.mem_of_getElem? (i := 15) rfl))) Via.refl e119 f121 f120 (Or.inl (hw _ (List.mem_of_getElem? (i := 16) rfl))) (hw _ (List.mem_of_getElem? (i := 1) rfl)) (ty := (.array (.array .int))) (by decide) rfl rfl (g := (mkF m 19 #[.val (.ref a1)] [(.ref b119), (.ref a1)])) rfl rfl (hb hby d1_19)
  have f129 : Exa Z h128 a1 "holdfast/CountedIds$Batch" := Exa.wr W128 f120
  have f130 : Fld Z h128 a1 "holdfast/CountedIds$Batch" "spareDigests" "[[J" .null := Fld.other W128 f122 (Or.inr (slot_ne (Or.inl (hw _ (List.mem_of_getElem? (i := 18) rfl))) (Or.inl (hw _ (List.mem_of_getElem? (i := 16) rfl))) (by decide) (t := (.array (.array .long))) (t' := (.array (.array .int))) (by decide) (by decide)))
  have f131 : Fld Z h128 a1 "holdfast/CountedIds$Batch" "spareTags" "[[I" .null := Fld.other W128 f123 (Or.inr (slot_ne (Or.inl (hw _ (List.mem_of_getElem? (i := 20) rfl))) (Or.inl (hw _ (List.mem_of_getElem? (i := 16) rfl))) (by decide) (t := (.array (.array .int))) (t' := (.array (.array .int))) (by decide) (by decide)))
  have f132 : Fld Z h128 a1 "holdfast/CountedIds$Batch" "sorted" "Z" (.int (0 : Int32)) := Fld.other W128 f124 (Or.inr (slot_ne (Or.inl (hw _ (List.mem_of_getElem? (i := 22) rfl))) (Or.inl (hw _ (List.mem_of_getElem? (i := 16) rfl))) (by decide) (t := .boolean) (t' := (.array (.array .int))) (by decide) (by decide)))
  have f133 : Fld Z h128 a1 "holdfast/CountedIds$Batch" "size" "I" (.int (0 : Int32)) := Fld.other W128 f125 (Or.inr (slot_ne (Or.inl (hw _ (List.mem_of_getElem? (i := 29) rfl))) (Or.inl (hw _ (List.mem_of_getElem? (i := 16) rfl))) (by decide) (t := .int) (t' := (.array (.array .int))) (by decide) (by decide)))
  have f134 : Arv Z h128 b102 k102 (.array .long) (64 : Int32) [.null] .null := f126.other W128 (Ne.symm ne_a1_b102)
  have f135 : Fld Z h128 a1 "holdfast/CountedIds$Batch" "digests" "[[J" (.ref b102) := Fld.other W128 f127 (Or.inr (slot_ne (Or.inl (hw _ (List.mem_of_getElem? (i := 12) rfl))) (Or.inl (hw _ (List.mem_of_getElem? (i := 16) rfl))) (by decide) (t := (.array (.array .long))) (t' := (.array (.array .int))) (by decide) (by decide)))
  have f136 : Arv Z h128 b119 k119 (.array .int) (64 : Int32) [.null] .null := v119.other W128 (Ne.symm ne_a1_b119)
  have f137 : Fld Z h128 a1 "holdfast/CountedIds$Batch" "tags" "[[I" (.ref b119) := f121.same W128
  have Zs128 : n0 ≤ h128.size := Nat.le_trans Zs119 (Keep.of_wr W128).1
  have N128 := Fr.snoc X128 N110 g1
  have K128 : Keep h0 h128 [a1] := K119.wr W128 (Or.inl (List.mem_of_getElem? (i := 0) rfl))
  obtain ⟨T138, h138, k138, X138, e138, E138, A138, x138, O138, st138⟩ := newRA X128 hx hZ0 hown0 (C := "[J") (ty := .long) (by first | rfl | decide) (hw _ (List.mem_of_getElem? (i := 9) rfl)) (hw _ (List.mem_of_getElem? (i := 10) rfl)) e128 (g := (mkF m 25 #[.val (.ref a1)] [(.int (64 : Int32)), (.ref a1)])) rfl (hb hby d1_25) rfl (by decide) (cap := 64) (by decide) (by decide) (by decide) (by decide) (ad := "[[J") (by decide)
  obtain ⟨b138, g138⟩ : ∃ z, z = h128.size := ⟨_, rfl⟩
  rw [← g138] at A138 x138 st138
  have ne_a1_b138 : a1 ≠ b138 := Nat.ne_of_lt (Nat.lt_of_lt_of_le f129.lt (Nat.le_of_eq g138.symm))
  have ne_b102_b138 : b102 ≠ b138 := Nat.ne_of_lt (Nat.lt_of_lt_of_le f134.lt (Nat.le_of_eq g138.symm))
  have ne_b119_b138 : b119 ≠ b138 := Nat.ne_of_lt (Nat.lt_of_lt_of_le f136.lt (Nat.le_of_eq g138.symm))
  have gn_b138 : n0 ≤ b138 := Nat.le_trans Zs128 (Nat.le_of_eq g138.symm)
  have sz_b138 : h0.size ≤ b138 := Nat.le_trans K128.1 (Nat.le_of_eq g138.symm)
  have f139 : Exa Z h138 a1 "holdfast/CountedIds$Batch" := Exa.ext E138 f129
  have f140 : Fld Z h138 a1 "holdfast/CountedIds$Batch" "spareDigests" "[[J" .null := Fld.ext E138 f130
  have f141 : Fld Z h138 a1 "holdfast/CountedIds$Batch" "spareTags" "[[I" .null := Fld.ext E138 f131
  have f142 : Fld Z h138 a1 "holdfast/CountedIds$Batch" "sorted" "Z" (.int (0 : Int32)) := Fld.ext E138 f132
  have f143 : Fld Z h138 a1 "holdfast/CountedIds$Batch" "size" "I" (.int (0 : Int32)) := Fld.ext E138 f133
  have f144 : Arv Z h138 b102 k102 (.array .long) (64 : Int32) [.null] .null := f134.ext E138
  have f145 : Fld Z h138 a1 "holdfast/CountedIds$Batch" "digests" "[[J" (.ref b102) := Fld.ext E138 f135
  have f146 : Arv Z h138 b119 k119 (.array .int) (64 : Int32) [.null] .null := f136.ext E138
  have f147 : Fld Z h138 a1 "holdfast/CountedIds$Batch" "tags" "[[I" (.ref b119) := Fld.ext E138 f137
  have Zs138 : n0 ≤ h138.size := Nat.le_trans Zs128 E138.1
  have K138 : Keep h0 h138 [a1] := K128.ext E138
  have v138 : Arv Z h138 b138 k138 (.array .long) (64 : Int32) [.null] .null := (Arv.new A138 (by decide)).pad (pad_rep [] .null 1)
  obtain ⟨T148, h148, X148, e148, W148, st148⟩ := putF X138 hx hZ0 hown0 (host := "") (Or.inl (hw _ (List.mem_of_getElem? (i := 17) rfl))) Via.refl e138 f140 f139 (Or.inl (hw _ (List.mem_of_getElem? (i := 18) rfl))) (hw _ (List.mem_of_getElem? (i := 1) rfl)) (ty := (.array (.array .long))) (by decide) rfl rfl (g := (mkF m 28 #[.val (.ref a1)] [(.ref b138), (.ref a1)])) rfl rfl (hb hby d1_28)
  have f149 : Exa Z h148 a1 "holdfast/CountedIds$Batch" := Exa.wr W148 f139
  have f150 : Fld Z h148 a1 "holdfast/CountedIds$Batch" "spareTags" "[[I" .null := Fld.other W148 f141 (Or.inr (slot_ne (Or.inl (hw _ (List.mem_of_getElem? (i := 20) rfl))) (Or.inl (hw _ (List.mem_of_getElem? (i := 18) rfl))) (by decide) (t := (.array (.array .int))) (t' := (.array (.array .long))) (by decide) (by decide)))
  have f151 : Fld Z h148 a1 "holdfast/CountedIds$Batch" "sorted" "Z" (.int (0 : Int32)) := Fld.other W148 f142 (Or.inr (slot_ne (Or.inl (hw _ (List.mem_of_getElem? (i := 22) rfl))) (Or.inl (hw _ (List.mem_of_getElem? (i := 18) rfl))) (by decide) (t := .boolean) (t' := (.array (.array .long))) (by decide) (by decide)))
  have f152 : Fld Z h148 a1 "holdfast/CountedIds$Batch" "size" "I" (.int (0 : Int32)) := Fld.other W148 f143 (Or.inr (slot_ne (Or.inl (hw _ (List.mem_of_getElem? (i := 29) rfl))) (Or.inl (hw _ (List.mem_of_getElem? (i := 18) rfl))) (by decide) (t := .int) (t' := (.array (.array .long))) (by decide) (by decide)))
  have f153 : Arv Z h148 b102 k102 (.array .long) (64 : Int32) [.null] .null := f144.other W148 (Ne.symm ne_a1_b102)
  have f154 : Fld Z h148 a1 "holdfast/CountedIds$Batch" "digests" "[[J" (.ref b102) := Fld.other W148 f145 (Or.inr (slot_ne (Or.inl (hw _ (List.mem_of_getElem? (i := 12) rfl))) (Or.inl (hw _ (List.mem_of_getElem? (i := 18) rfl))) (by decide) (t := (.array (.array .long))) (t' := (.array (.array .long))) (by decide) (by decide)))
  have f155 : Arv Z h148 b119 k119 (.array .int) (64 : Int32) [.null] .null := f146.other W148 (Ne.symm ne_a1_b119)
  have f156 : Fld Z h148 a1 "holdfast/CountedIds$Batch" "tags" "[[I" (.ref b119) := Fld.other W148 f147 (Or.inr (slot_ne (Or.inl (hw _ (List.mem_of_getElem? (i := 16) rfl))) (Or.inl (hw _ (List.mem_of_getElem? (i := 18) rfl))) (by decide) (t := (.array (.array .int))) (t' := (.array (.array .long))) (by decide) (by decide)))
  have f157 : Arv Z h148 b138 k138 (.array .long) (64 : Int32) [.null] .null := v138.other W148 (Ne.symm ne_a1_b138)
  have f158 : Fld Z h148 a1 "holdfast/CountedIds$Batch" "spareDigests" "[[J" (.ref b138) := f140.same W148
  have Zs148 : n0 ≤ h148.size := Nat.le_trans Zs138 (Keep.of_wr W148).1
  have N148 := Fr.snoc X148 N128 g1
  have K148 : Keep h0 h148 [a1] := K138.wr W148 (Or.inl (List.mem_of_getElem? (i := 0) rfl))
  obtain ⟨T159, h159, k159, X159, e159, E159, A159, x159, O159, st159⟩ := newRA X148 hx hZ0 hown0 (C := "[I") (ty := .int) (by first | rfl | decide) (hw _ (List.mem_of_getElem? (i := 13) rfl)) (hw _ (List.mem_of_getElem? (i := 14) rfl)) e148 (g := (mkF m 34 #[.val (.ref a1)] [(.int (64 : Int32)), (.ref a1)])) rfl (hb hby d1_34) rfl (by decide) (cap := 64) (by decide) (by decide) (by decide) (by decide) (ad := "[[I") (by decide)
  obtain ⟨b159, g159⟩ : ∃ z, z = h148.size := ⟨_, rfl⟩
  rw [← g159] at A159 x159 st159
  have ne_a1_b159 : a1 ≠ b159 := Nat.ne_of_lt (Nat.lt_of_lt_of_le f149.lt (Nat.le_of_eq g159.symm))
  have ne_b102_b159 : b102 ≠ b159 := Nat.ne_of_lt (Nat.lt_of_lt_of_le f153.lt (Nat.le_of_eq g159.symm))
  have ne_b119_b159 : b119 ≠ b159 := Nat.ne_of_lt (Nat.lt_of_lt_of_le f155.lt (Nat.le_of_eq g159.symm))
  have ne_b138_b159 : b138 ≠ b159 := Nat.ne_of_lt (Nat.lt_of_lt_of_le f157.lt (Nat.le_of_eq g159.symm))
  have gn_b159 : n0 ≤ b159 := Nat.le_trans Zs148 (Nat.le_of_eq g159.symm)
  have sz_b159 : h0.size ≤ b159 := Nat.le_trans K148.1 (Nat.le_of_eq g159.symm)
  have f160 : Exa Z h159 a1 "holdfast/CountedIds$Batch" := Exa.ext E159 f149
  have f161 : Fld Z h159 a1 "holdfast/CountedIds$Batch" "spareTags" "[[I" .null := Fld.ext E159 f150
  have f162 : Fld Z h159 a1 "holdfast/CountedIds$Batch" "sorted" "Z" (.int (0 : Int32)) := Fld.ext E159 f151
  have f163 : Fld Z h159 a1 "holdfast/CountedIds$Batch" "size" "I" (.int (0 : Int32)) := Fld.ext E159 f152
  have f164 : Arv Z h159 b102 k102 (.array .long) (64 : Int32) [.null] .null := f153.ext E159
  have f165 : Fld Z h159 a1 "holdfast/CountedIds$Batch" "digests" "[[J" (.ref b102) := Fld.ext E159 f154
  have f166 : Arv Z h159 b119 k119 (.array .int) (64 : Int32) [.null] .null := f155.ext E159
  have f167 : Fld Z h159 a1 "holdfast/CountedIds$Batch" "tags" "[[I" (.ref b119) := Fld.ext E159 f156
  have f168 : Arv Z h159 b138 k138 (.array .long) (64 : Int32) [.null] .null := f157.ext E159
  have f169 : Fld Z h159 a1 "holdfast/CountedIds$Batch" "spareDigests" "[[J" (.ref b138) := Fld.ext E159 f158
  have Zs159 : n0 ≤ h159.size := Nat.le_trans Zs148 E159.1
  have K159 : Keep h0 h159 [a1] := K148.ext E159
  have v159 : Arv Z h159 b159 k159 (.array .int) (64 : Int32) [.null] .null := (Arv.new A159 (by decide)).pad (pad_rep [] .null 1)
  obtain ⟨T170, h170, X170, e170, W170, st170⟩ := putF X159 hx hZ0 hown0 (host := "") (Or.inl (hw _ (List.mem_of_getElem? (i := 19) rfl))) Via.refl e159 f161 f160 (Or.inl (hw _ (List.mem_of_getElem? (i := 20) rfl))) (hw _ (List.mem_of_getElem? (i := 1) rfl)) (ty := (.array (.array .int))) (by decide) rfl rfl (g := (mkF m 37 #[.val (.ref a1)] [(.ref b159), (.ref a1)])) rfl rfl (hb hby d1_37)
  have f171 : Exa Z h170 a1 "holdfast/CountedIds$Batch" := Exa.wr W170 f160
  have f172 : Fld Z h170 a1 "holdfast/CountedIds$Batch" "sorted" "Z" (.int (0 : Int32)) := Fld.other W170 f162 (Or.inr (slot_ne (Or.inl (hw _ (List.mem_of_getElem? (i := 22) rfl))) (Or.inl (hw _ (List.mem_of_getElem? (i := 20) rfl))) (by decide) (t := .boolean) (t' := (.array (.array .int))) (by decide) (by decide)))
  have f173 : Fld Z h170 a1 "holdfast/CountedIds$Batch" "size" "I" (.int (0 : Int32)) := Fld.other W170 f163 (Or.inr (slot_ne (Or.inl (hw _ (List.mem_of_getElem? (i := 29) rfl))) (Or.inl (hw _ (List.mem_of_getElem? (i := 20) rfl))) (by decide) (t := .int) (t' := (.array (.array .int))) (by decide) (by decide)))
  have f174 : Arv Z h170 b102 k102 (.array .long) (64 : Int32) [.null] .null := f164.other W170 (Ne.symm ne_a1_b102)
  have f175 : Fld Z h170 a1 "holdfast/CountedIds$Batch" "digests" "[[J" (.ref b102) := Fld.other W170 f165 (Or.inr (slot_ne (Or.inl (hw _ (List.mem_of_getElem? (i := 12) rfl))) (Or.inl (hw _ (List.mem_of_getElem? (i := 20) rfl))) (by decide) (t := (.array (.array .long))) (t' := (.array (.array .int))) (by decide) (by decide)))
  have f176 : Arv Z h170 b119 k119 (.array .int) (64 : Int32) [.null] .null := f166.other W170 (Ne.symm ne_a1_b119)
  have f177 : Fld Z h170 a1 "holdfast/CountedIds$Batch" "tags" "[[I" (.ref b119) := Fld.other W170 f167 (Or.inr (slot_ne (Or.inl (hw _ (List.mem_of_getElem? (i := 16) rfl))) (Or.inl (hw _ (List.mem_of_getElem? (i := 20) rfl))) (by decide) (t := (.array (.array .int))) (t' := (.array (.array .int))) (by decide) (by decide)))
  have f178 : Arv Z h170 b138 k138 (.array .long) (64 : Int32) [.null] .null := f168.other W170 (Ne.symm ne_a1_b138)
  have f179 : Fld Z h170 a1 "holdfast/CountedIds$Batch" "spareDigests" "[[J" (.ref b138) := Fld.other W170 f169 (Or.inr (slot_ne (Or.inl (hw _ (List.mem_of_getElem? (i := 18) rfl))) (Or.inl (hw _ (List.mem_of_getElem? (i := 20) rfl))) (by decide) (t := (.array (.array .long))) (t' := (.array (.array .int))) (by decide) (by decide)))
  have f180 : Arv Z h170 b159 k159 (.array .int) (64 : Int32) [.null] .null := v159.other W170 (Ne.symm ne_a1_b159)
  have f181 : Fld Z h170 a1 "holdfast/CountedIds$Batch" "spareTags" "[[I" (.ref b159) := f161.same W170
  have Zs170 : n0 ≤ h170.size := Nat.le_trans Zs159 (Keep.of_wr W170).1
  have N170 := Fr.snoc X170 N148 g1
  have K170 : Keep h0 h170 [a1] := K159.wr W170 (Or.inl (List.mem_of_getElem? (i := 0) rfl))
  obtain ⟨T182, h182, X182, e182, W182, st182⟩ := putFN X170 hx hZ0 hown0 (hw _ (List.mem_of_getElem? (i := 21) rfl)) Via.refl e170 f172 f171 (Or.inl (hw _ (List.mem_of_getElem? (i := 22) rfl))) (hw _ (List.mem_of_getElem? (i := 1) rfl)) (ty := .boolean) (v' := (.int (1 : Int32))) (by decide) rfl (by decide) (g := (mkF m 42 #[.val (.ref a1)] [(.int (1 : Int32)), (.ref a1)])) rfl rfl (hb hby d1_42)
  have f183 : Exa Z h182 a1 "holdfast/CountedIds$Batch" := Exa.wr W182 f171
  have f184 : Fld Z h182 a1 "holdfast/CountedIds$Batch" "size" "I" (.int (0 : Int32)) := Fld.other W182 f173 (Or.inr (slot_ne (Or.inl (hw _ (List.mem_of_getElem? (i := 29) rfl))) (Or.inl (hw _ (List.mem_of_getElem? (i := 22) rfl))) (by decide) (t := .int) (t' := .boolean) (by decide) (by decide)))
  have f185 : Arv Z h182 b102 k102 (.array .long) (64 : Int32) [.null] .null := f174.other W182 (Ne.symm ne_a1_b102)
  have f186 : Fld Z h182 a1 "holdfast/CountedIds$Batch" "digests" "[[J" (.ref b102) := Fld.other W182 f175 (Or.inr (slot_ne (Or.inl (hw _ (List.mem_of_getElem? (i := 12) rfl))) (Or.inl (hw _ (List.mem_of_getElem? (i := 22) rfl))) (by decide) (t := (.array (.array .long))) (t' := .boolean) (by decide) (by decide)))
  have f187 : Arv Z h182 b119 k119 (.array .int) (64 : Int32) [.null] .null := f176.other W182 (Ne.symm ne_a1_b119)
  have f188 : Fld Z h182 a1 "holdfast/CountedIds$Batch" "tags" "[[I" (.ref b119) := Fld.other W182 f177 (Or.inr (slot_ne (Or.inl (hw _ (List.mem_of_getElem? (i := 16) rfl))) (Or.inl (hw _ (List.mem_of_getElem? (i := 22) rfl))) (by decide) (t := (.array (.array .int))) (t' := .boolean) (by decide) (by decide)))
  have f189 : Arv Z h182 b138 k138 (.array .long) (64 : Int32) [.null] .null := f178.other W182 (Ne.symm ne_a1_b138)
  have f190 : Fld Z h182 a1 "holdfast/CountedIds$Batch" "spareDigests" "[[J" (.ref b138) := Fld.other W182 f179 (Or.inr (slot_ne (Or.inl (hw _ (List.mem_of_getElem? (i := 18) rfl))) (Or.inl (hw _ (List.mem_of_getElem? (i := 22) rfl))) (by decide) (t := (.array (.array .long))) (t' := .boolean) (by decide) (by decide)))
  have f191 : Arv Z h182 b159 k159 (.array .int) (64 : Int32) [.null] .null := f180.other W182 (Ne.symm ne_a1_b159)
  have f192 : Fld Z h182 a1 "holdfast/CountedIds$Batch" "spareTags" "[[I" (.ref b159) := Fld.other W182 f181 (Or.inr (slot_ne (Or.inl (hw _ (List.mem_of_getElem? (i := 20) rfl))) (Or.inl (hw _ (List.mem_of_getElem? (i := 22) rfl))) (by decide) (t := (.array (.array .int))) (t' := .boolean) (by decide) (by decide)))
  have f193 : Fld Z h182 a1 "holdfast/CountedIds$Batch" "sorted" "Z" (.int (1 : Int32)) := f172.same W182
  have Zs182 : n0 ≤ h182.size := Nat.le_trans Zs170 (Keep.of_wr W182).1
  have N182 := Fr.snoc X182 N170 g1
  have K182 : Keep h0 h182 [a1] := K170.wr W182 (Or.inl (List.mem_of_getElem? (i := 0) rfl))
  obtain ⟨fs, hr, hrun, hended, hW, hsame⟩ := X182.leave (v := none) (fun _ => rfl) hlk
  refine ⟨_, _, pre0 _ ?_, hrun, hended, _, _, rfl, ?_, ⟨_, rfl⟩, hW, hsame.mono (by decide) (by decide)⟩
  · show Steps p.tables e below (s₁.setTop (mkF m 0 #[.val (.ref a1)] [])) _
    refine XS.aloadN X0.here hx rfl (hb hby d1_0) rfl rfl ?_
    show Steps p.tables e below (s₁.setTop (mkF m 1 #[.val (.ref a1)] [(.ref a1)])) _
    refine st101 _ ?_
    show Steps p.tables e below (T101.setTop (mkF m 4 #[.val (.ref a1)] [])) _
    refine XS.aloadN X101.here hx rfl (hb hby d1_4) rfl rfl ?_
    show Steps p.tables e below (T101.setTop (mkF m 5 #[.val (.ref a1)] [(.ref a1)])) _
    refine XS.bipush X101.here hx rfl (hb hby d1_5) ?_
    show Steps p.tables e below (T101.setTop (mkF m 7 #[.val (.ref a1)] [(.int (64 : Int32)), (.ref a1)])) _
    refine st102 _ ?_
    show Steps p.tables e below (T102.setTop (mkF m 10 #[.val (.ref a1)] [(.ref b102), (.ref a1)])) _
    refine st110 _ ?_
    show Steps p.tables e below (T110.setTop (mkF m 13 #[.val (.ref a1)] [])) _
    refine XS.aloadN X110.here hx rfl (hb hby d1_13) rfl rfl ?_
    show Steps p.tables e below (T110.setTop (mkF m 14 #[.val (.ref a1)] [(.ref a1)])) _
    refine XS.bipush X110.here hx rfl (hb hby d1_14) ?_
    show Steps p.tables e below (T110.setTop (mkF m 16 #[.val (.ref a1)] [(.int (64 : Int32)), (.ref a1)])) _
    refine st119 _ ?_
    show Steps p.tables e below (T119.setTop (mkF m 19 #[.val (.ref a1)] [(.ref b119), (.ref a1)])) _
    refine st128 _ ?_
    show Steps p.tables e below (T128.setTop (mkF m 22 #[.val (.ref a1)] [])) _
    refine XS.aloadN X128.here hx rfl (hb hby d1_22) rfl rfl ?_
    show Steps p.tables e below (T128.setTop (mkF m 23 #[.val (.ref a1)] [(.ref a1)])) _
    refine XS.bipush X128.here hx rfl (hb hby d1_23) ?_
    show Steps p.tables e below (T128.setTop (mkF m 25 #[.val (.ref a1)] [(.int (64 : Int32)), (.ref a1)])) _
    refine st138 _ ?_
    show Steps p.tables e below (T138.setTop (mkF m 28 #[.val (.ref a1)] [(.ref b138), (.ref a1)])) _
    refine st148 _ ?_
    show Steps p.tables e below (T148.setTop (mkF m 31 #[.val (.ref a1)] [])) _
    refine XS.aloadN X148.here hx rfl (hb hby d1_31) rfl rfl ?_
    show Steps p.tables e below (T148.setTop (mkF m 32 #[.val (.ref a1)] [(.ref a1)])) _
    refine XS.bipush X148.here hx rfl (hb hby d1_32) ?_
    show Steps p.tables e below (T148.setTop (mkF m 34 #[.val (.ref a1)] [(.int (64 : Int32)), (.ref a1)])) _
    refine st159 _ ?_
    show Steps p.tables e below (T159.setTop (mkF m 37 #[.val (.ref a1)] [(.ref b159), (.ref a1)])) _
    refine st170 _ ?_
    show Steps p.tables e below (T170.setTop (mkF m 40 #[.val (.ref a1)] [])) _
    refine XS.aloadN X170.here hx rfl (hb hby d1_40) rfl rfl ?_
    show Steps p.tables e below (T170.setTop (mkF m 41 #[.val (.ref a1)] [(.ref a1)])) _
    refine XS.iconst X170.here hx rfl (hb hby d1_41) ?_
    show Steps p.tables e below (T170.setTop (mkF m 42 #[.val (.ref a1)] [(.int (1 : Int32)), (.ref a1)])) _
    refine st182 _ ?_
    show Steps p.tables e below (T182.setTop (mkF m 45 #[.val (.ref a1)] [])) _
    exact X182.returnOut hx Bd.returns (hb hby d1_45) hr
  · show Q1 Z a1 h0 n0 _ T182.heap _
    rw [e182]
    exact ⟨b102, b119, k102, k119, rfl, N182, K182, sz_b102, sz_b119, ne_b102_b119, f186, f188, f184, f193, f185, f187, O102, O119⟩
theorem ef_6 (m : MethodId) (x0 : Addr) (x1 : Addr) (x2 : Int32) (x3 : Int64) (x4 : Int32) : entryFrame m #[(.ref x0), (.ref x1), (.int x2), (.long x3), (.int x4)] 6 = mkF m 0 #[.val (.ref x0), .val (.ref x1), .val (.int x2), .val (.long x3), .second, .val (.int x4)] [] := by first | (simp [entryFrame, mkF, argsToLocals, Value.category]; done) | rfl
theorem d6_0 : decode prog_10_method_8_code 0 = .ok (.aload_n 0, 1) := by decide +kernel
theorem d6_1 : decode prog_10_method_8_code 1 = .ok (.iload_n 2, 1) := by decide +kernel
theorem d6_2 : decode prog_10_method_8_code 2 = .ok (.getstatic 43, 3) := by decide +kernel
theorem d6_5 : decode prog_10_method_8_code 5 = .ok (.iushr, 1) := by decide +kernel
theorem d6_6 : decode prog_10_method_8_code 6 = .ok (.aaload, 1) := by decide +kernel
theorem d6_7 : decode prog_10_method_8_code 7 = .ok (.iload_n 2, 1) := by decide +kernel
theorem d6_8 : decode prog_10_method_8_code 8 = .ok (.sipush 16383, 3) := by decide +kernel
theorem d6_11 : decode prog_10_method_8_code 11 = .ok (.iand, 1) := by decide +kernel
theorem d6_12 : decode prog_10_method_8_code 12 = .ok (.lload_n 3, 1) := by decide +kernel
theorem d6_13 : decode prog_10_method_8_code 13 = .ok (.lastore, 1) := by decide +kernel
theorem d6_14 : decode prog_10_method_8_code 14 = .ok (.aload_n 1, 1) := by decide +kernel
theorem d6_15 : decode prog_10_method_8_code 15 = .ok (.iload_n 2, 1) := by decide +kernel
theorem d6_16 : decode prog_10_method_8_code 16 = .ok (.getstatic 43, 3) := by decide +kernel
theorem d6_19 : decode prog_10_method_8_code 19 = .ok (.iushr, 1) := by decide +kernel
theorem d6_20 : decode prog_10_method_8_code 20 = .ok (.aaload, 1) := by decide +kernel
theorem d6_21 : decode prog_10_method_8_code 21 = .ok (.iload_n 2, 1) := by decide +kernel
theorem d6_22 : decode prog_10_method_8_code 22 = .ok (.sipush 16383, 3) := by decide +kernel
theorem d6_25 : decode prog_10_method_8_code 25 = .ok (.iand, 1) := by decide +kernel
theorem d6_26 : decode prog_10_method_8_code 26 = .ok (.iload 5, 2) := by decide +kernel
theorem d6_28 : decode prog_10_method_8_code 28 = .ok (.iastore, 1) := by decide +kernel
theorem d6_29 : decode prog_10_method_8_code 29 = .ok (.return_, 1) := by decide +kernel
def Q6 (Z : State) (a1 : Addr) (a2 : Addr) (p3 : Int32) (q4 : Int64) (p5 : Int32) (dd : Addr) (tt : Addr) (kd : ClassId) (kt : ClassId) (g : Nat → Option Int32) (h0 : Heap) (n0 : Nat) (v : Option Value) (h : Heap) (L : List Loc) : Prop := v = none ∧ Fr n0 L ∧ (Keep h0 h [dd, tt]) ∧ (OwnLng Z h dd) ∧ (OwnTg Z h tt (own_up g p3 p5))
set_option maxRecDepth 65536 in
set_option maxHeartbeats 40000000 in
theorem rm6 (l : Launch) (Z : State) (a0 : Array Value) (hw : ∀ d ∈ tables_1, d.before a0 Z = true) (ws : List Jvm.Cond) (a1 : Addr) (a2 : Addr) (p3 : Int32) (q4 : Int64) (p5 : Int32) (dd : Addr) (tt : Addr) (kd : ClassId) (kt : ClassId) (g : Nat → Option Int32) (h0 : Heap) (n0 : Nat) (Z0 : n0 ≤ h0.size) (O0 : Old Z n0 h0) (SC : Sta Z Z.heap "holdfast/CountedIds$Batch" "CHUNK_BITS" "I" (.int (14 : Int32))) (V1 : Arv Z h0 a1 kd (.array .long) (64 : Int32) [(.ref dd)] .null) (V2 : Arv Z h0 a2 kt (.array .int) (64 : Int32) [(.ref tt)] .null) (L1 : OwnLng Z h0 dd) (T1 : OwnTg Z h0 tt g) (n1 : dd ≠ tt) (n2 : a2 ≠ dd) (n3 : a1 ≠ dd) (n4 : a1 ≠ tt) (n5 : a2 ≠ tt) (g1 : n0 ≤ dd) (g2 : n0 ≤ tt) (hs : ((p3.toUInt32 >>> ((14 : Int32) &&& 31).toUInt32).toInt32) = (0 : Int32)) (hm : (p3 &&& (16383 : Int32)) = p3) (hbd : ¬ p3 < (0 : Int32) ∧ p3 < (16384 : Int32)) :
    MetFree l (⟨"holdfast/CountedIds$Batch", "set", "([[J[[IIJI)V"⟩ : MethodName) (head1 (Jvm.Cond.code (⟨"holdfast/CountedIds$Batch", "set", "([[J[[IIJI)V"⟩ : MethodName) prog_10_method_8_code 6 none :: ws) ({ frames := 0, cells := 0, slots := 0, locals := 0 } : Room)) (fun a U => a = #[(.ref a1), (.ref a2), (.int p3), (.long q4), (.int p5)] ∧ Z.Warmed39 U.vm ∧ U.heap = h0) (fun _ _ _ _ _ => True) (fun _ U o U' => ∃ v L, o = .returned v ∧ Q6 Z a1 a2 p3 q4 p5 dd tt kd kt g h0 n0 v U'.heap L ∧ FrameEnd U o U' L ({ frames := 0, cells := 0, slots := 0, locals := 0 } : Room).cells ({ frames := 0, cells := 0, slots := 0, locals := 0 } : Room).slots) := by
  refine MetFree.of_bodySF (plainFor_of_name pn_0) hisR ?_
  intro p e s m args below meth c s₁ Bd hml0 hP hK
  obtain ⟨rfl, hZ0, hh⟩ := hP
  have hx := Bd.exec
  have hby := Bd.bytes
  have hml : c.maxLocals = 6 := hml0
  have hown0 : s.vm.findClass "holdfast/CountedIds$Batch" = some m.cls := findClass_of_methodNamed Bd.named
  have hnm := (name_of_methodNamed Bd.named Bd.method).1
  have hlk : meth.locks = false := by first | exact BodyLoose.notSynchronized Bd | exact Body.notSynchronized Bd
  have X0 : Stand p l e ({ frames := 0, cells := 0, slots := 0, locals := 0 } : Room) s m #[(.ref a1), (.ref a2), (.int p3), (.long q4), (.int p5)] below meth c s₁ [] 0 0 := Stand.of_body Bd
  have e0 : s₁.heap = h0 := by rw [← hh, Bd.state]; rfl
  have N0 := Fr.nil n0
  have pre0 : ∀ t, Steps p.tables e below (s₁.setTop (mkF m 0 #[.val (.ref a1), .val (.ref a2), .val (.int p3), .val (.long q4), .second, .val (.int p5)] [])) t → Steps p.tables e below (s₁.setTop (entryFrame m #[(.ref a1), (.ref a2), (.int p3), (.long q4), (.int p5)] 6)) t := fun t k => castTop (ef_6 m a1 a2 p3 q4 p5) k
  obtain ⟨T101, X101, e101, st101⟩ := getS2 X0 hx hZ0 hown0 (host := "") (Or.inl (hw _ (List.mem_of_getElem? (i := 41) rfl))) Via.refl e0 (Sta.ext O0.2 SC) (g := (mkF m 2 #[.val (.ref a1), .val (.ref a2), .val (.int p3), .val (.long q4), .second, .val (.int p5)] [(.int p3), (.ref a1)])) rfl (hb hby d6_2)
  obtain ⟨cl102, Ar102, -, Sz102, -, Hs102, -⟩ := (id V1)
  have hin102 : ¬ ((0 : Int32) < 0 ∨ cl102.slots.size ≤ (0 : Int32).toNatClampNeg) := inb_of Sz102 ⟨by decide, by decide⟩
  obtain ⟨cl103, Ar103, Sz103⟩ := (id L1)
  obtain ⟨T104, h104, X104, e104, W104, st104⟩ := stJ X101 hx hZ0 e101 Ar103 (j := p3) (own_in Sz103 hbd) (g := (mkF m 13 #[.val (.ref a1), .val (.ref a2), .val (.int p3), .val (.long q4), .second, .val (.int p5)] [(.long q4), (.int p3), (.ref dd)])) rfl rfl (hb hby d6_13)
  have f105 : Old Z n0 h104 := O0.wr W104 g1
  have f106 : Arv Z h104 a1 kd (.array .long) (64 : Int32) [(.ref dd)] .null := V1.other W104 n3
  have f107 : Arv Z h104 a2 kt (.array .int) (64 : Int32) [(.ref tt)] .null := V2.other W104 n2
  have f108 : OwnTg Z h104 tt g := OwnTg.other T1 W104 (Ne.symm n1)
  have Zs104 : n0 ≤ h104.size := Nat.le_trans Z0 (Keep.of_wr W104).1
  have N104 := Fr.snoc X104 N0 g1
  have K104 : Keep h0 h104 [dd, tt] := (Keep.refl h0 [dd, tt]).wr W104 (Or.inl (List.mem_of_getElem? (i := 0) rfl))
  have v104 : OwnLng Z h104 dd := OwnLng.same Ar103 Sz103 W104
  obtain ⟨T109, X109, e109, st109⟩ := getS2 X104 hx hZ0 hown0 (host := "") (Or.inl (hw _ (List.mem_of_getElem? (i := 41) rfl))) Via.refl e104 (Sta.ext f105.2 SC) (g := (mkF m 16 #[.val (.ref a1), .val (.ref a2), .val (.int p3), .val (.long q4), .second, .val (.int p5)] [(.int p3), (.ref a2)])) rfl (hb hby d6_16)
  obtain ⟨cl110, Ar110, -, Sz110, -, Hs110, -⟩ := (id f107)
  have hin110 : ¬ ((0 : Int32) < 0 ∨ cl110.slots.size ≤ (0 : Int32).toNatClampNeg) := inb_of Sz110 ⟨by decide, by decide⟩
  obtain ⟨cl111, Ar111, Sz111, Hs111⟩ := (id f108)
  obtain ⟨T112, h112, X112, e112, W112, st112⟩ := stI X109 hx hZ0 e109 Ar111 (j := p3) (own_in Sz111 hbd) (g := (mkF m 28 #[.val (.ref a1), .val (.ref a2), .val (.int p3), .val (.long q4), .second, .val (.int p5)] [(.int p5), (.int p3), (.ref tt)])) rfl rfl (hb hby d6_28)
  have f113 : Old Z n0 h112 := f105.wr W112 g2
  have f114 : Arv Z h112 a1 kd (.array .long) (64 : Int32) [(.ref dd)] .null := f106.other W112 n4
  have f115 : Arv Z h112 a2 kt (.array .int) (64 : Int32) [(.ref tt)] .null := f107.other W112 n5
  have f116 : OwnLng Z h112 dd := OwnLng.other v104 W112 n1
  have Zs112 : n0 ≤ h112.size := Nat.le_trans Zs104 (Keep.of_wr W112).1
  have N112 := Fr.snoc X112 N104 g2
  have K112 : Keep h0 h112 [dd, tt] := K104.wr W112 (Or.inl (List.mem_of_getElem? (i := 1) rfl))
  have v112 : OwnTg Z h112 tt (own_up g p3 p5) := OwnTg.same Ar111 Sz111 Hs111 (own_in Sz111 hbd) W112
  obtain ⟨fs, hr, hrun, hended, hW, hsame⟩ := X112.leave (v := none) (fun _ => rfl) hlk
  refine ⟨_, _, pre0 _ ?_, hrun, hended, _, _, rfl, ?_, ⟨_, rfl⟩, hW, hsame.mono (by decide) (by decide)⟩
  · show Steps p.tables e below (s₁.setTop (mkF m 0 #[.val (.ref a1), .val (.ref a2), .val (.int p3), .val (.long q4), .second, .val (.int p5)] [])) _
    refine XS.aloadN X0.here hx rfl (hb hby d6_0) rfl rfl ?_
    show Steps p.tables e below (s₁.setTop (mkF m 1 #[.val (.ref a1), .val (.ref a2), .val (.int p3), .val (.long q4), .second, .val (.int p5)] [(.ref a1)])) _
    refine XS.iloadN X0.here hx rfl (hb hby d6_1) rfl ?_
    show Steps p.tables e below (s₁.setTop (mkF m 2 #[.val (.ref a1), .val (.ref a2), .val (.int p3), .val (.long q4), .second, .val (.int p5)] [(.int p3), (.ref a1)])) _
    refine st101 _ ?_
    show Steps p.tables e below (T101.setTop (mkF m 5 #[.val (.ref a1), .val (.ref a2), .val (.int p3), .val (.long q4), .second, .val (.int p5)] [(.int (14 : Int32)), (.int p3), (.ref a1)])) _
    refine XS.iushr X101.here hx rfl (hb hby d6_5) rfl ?_
    show Steps p.tables e below (T101.setTop (mkF m 6 #[.val (.ref a1), .val (.ref a2), .val (.int p3), .val (.long q4), .second, .val (.int p5)] [(.int ((p3.toUInt32 >>> ((14 : Int32) &&& 31).toUInt32).toInt32)), (.ref a1)])) _
    rw [hs]
    show Steps p.tables e below (T101.setTop (mkF m 6 #[.val (.ref a1), .val (.ref a2), .val (.int p3), .val (.long q4), .second, .val (.int p5)] [(.int (0 : Int32)), (.ref a1)])) _
    refine X101.aaload hx (j := (0 : Int32)) (v := (.ref dd)) (by rw [e101]; exact Ar102.1) (State.isArrayOf_alike hZ0.alike Ar102.2.1) rfl Ar102.2.2 hin102 (Has.at Hs102 hin102 rfl) (g := (mkF m 6 #[.val (.ref a1), .val (.ref a2), .val (.int p3), .val (.long q4), .second, .val (.int p5)] [(.int (0 : Int32)), (.ref a1)])) rfl rfl (hb hby d6_6) _ ?_
    show Steps p.tables e below (T101.setTop (mkF m 7 #[.val (.ref a1), .val (.ref a2), .val (.int p3), .val (.long q4), .second, .val (.int p5)] [(.ref dd)])) _
    refine XS.iloadN X101.here hx rfl (hb hby d6_7) rfl ?_
    show Steps p.tables e below (T101.setTop (mkF m 8 #[.val (.ref a1), .val (.ref a2), .val (.int p3), .val (.long q4), .second, .val (.int p5)] [(.int p3), (.ref dd)])) _
    refine XS.sipush X101.here hx rfl (hb hby d6_8) ?_
    show Steps p.tables e below (T101.setTop (mkF m 11 #[.val (.ref a1), .val (.ref a2), .val (.int p3), .val (.long q4), .second, .val (.int p5)] [(.int (16383 : Int32)), (.int p3), (.ref dd)])) _
    refine XS.iand X101.here hx rfl (hb hby d6_11) rfl ?_
    show Steps p.tables e below (T101.setTop (mkF m 12 #[.val (.ref a1), .val (.ref a2), .val (.int p3), .val (.long q4), .second, .val (.int p5)] [(.int (p3 &&& (16383 : Int32))), (.ref dd)])) _
    rw [hm]
    show Steps p.tables e below (T101.setTop (mkF m 12 #[.val (.ref a1), .val (.ref a2), .val (.int p3), .val (.long q4), .second, .val (.int p5)] [(.int p3), (.ref dd)])) _
    refine XS.lloadN X101.here hx rfl (hb hby d6_12) rfl ?_
    show Steps p.tables e below (T101.setTop (mkF m 13 #[.val (.ref a1), .val (.ref a2), .val (.int p3), .val (.long q4), .second, .val (.int p5)] [(.long q4), (.int p3), (.ref dd)])) _
    refine st104 _ ?_
    show Steps p.tables e below (T104.setTop (mkF m 14 #[.val (.ref a1), .val (.ref a2), .val (.int p3), .val (.long q4), .second, .val (.int p5)] [])) _
    refine XS.aloadN X104.here hx rfl (hb hby d6_14) rfl rfl ?_
    show Steps p.tables e below (T104.setTop (mkF m 15 #[.val (.ref a1), .val (.ref a2), .val (.int p3), .val (.long q4), .second, .val (.int p5)] [(.ref a2)])) _
    refine XS.iloadN X104.here hx rfl (hb hby d6_15) rfl ?_
    show Steps p.tables e below (T104.setTop (mkF m 16 #[.val (.ref a1), .val (.ref a2), .val (.int p3), .val (.long q4), .second, .val (.int p5)] [(.int p3), (.ref a2)])) _
    refine st109 _ ?_
    show Steps p.tables e below (T109.setTop (mkF m 19 #[.val (.ref a1), .val (.ref a2), .val (.int p3), .val (.long q4), .second, .val (.int p5)] [(.int (14 : Int32)), (.int p3), (.ref a2)])) _
    refine XS.iushr X109.here hx rfl (hb hby d6_19) rfl ?_
    show Steps p.tables e below (T109.setTop (mkF m 20 #[.val (.ref a1), .val (.ref a2), .val (.int p3), .val (.long q4), .second, .val (.int p5)] [(.int ((p3.toUInt32 >>> ((14 : Int32) &&& 31).toUInt32).toInt32)), (.ref a2)])) _
    rw [hs]
    show Steps p.tables e below (T109.setTop (mkF m 20 #[.val (.ref a1), .val (.ref a2), .val (.int p3), .val (.long q4), .second, .val (.int p5)] [(.int (0 : Int32)), (.ref a2)])) _
    refine X109.aaload hx (j := (0 : Int32)) (v := (.ref tt)) (by rw [e109]; exact Ar110.1) (State.isArrayOf_alike hZ0.alike Ar110.2.1) rfl Ar110.2.2 hin110 (Has.at Hs110 hin110 rfl) (g := (mkF m 20 #[.val (.ref a1), .val (.ref a2), .val (.int p3), .val (.long q4), .second, .val (.int p5)] [(.int (0 : Int32)), (.ref a2)])) rfl rfl (hb hby d6_20) _ ?_
    show Steps p.tables e below (T109.setTop (mkF m 21 #[.val (.ref a1), .val (.ref a2), .val (.int p3), .val (.long q4), .second, .val (.int p5)] [(.ref tt)])) _
    refine XS.iloadN X109.here hx rfl (hb hby d6_21) rfl ?_
    show Steps p.tables e below (T109.setTop (mkF m 22 #[.val (.ref a1), .val (.ref a2), .val (.int p3), .val (.long q4), .second, .val (.int p5)] [(.int p3), (.ref tt)])) _
    refine XS.sipush X109.here hx rfl (hb hby d6_22) ?_
    show Steps p.tables e below (T109.setTop (mkF m 25 #[.val (.ref a1), .val (.ref a2), .val (.int p3), .val (.long q4), .second, .val (.int p5)] [(.int (16383 : Int32)), (.int p3), (.ref tt)])) _
    refine XS.iand X109.here hx rfl (hb hby d6_25) rfl ?_
    show Steps p.tables e below (T109.setTop (mkF m 26 #[.val (.ref a1), .val (.ref a2), .val (.int p3), .val (.long q4), .second, .val (.int p5)] [(.int (p3 &&& (16383 : Int32))), (.ref tt)])) _
    rw [hm]
    show Steps p.tables e below (T109.setTop (mkF m 26 #[.val (.ref a1), .val (.ref a2), .val (.int p3), .val (.long q4), .second, .val (.int p5)] [(.int p3), (.ref tt)])) _
    refine XS.iload X109.here hx rfl (hb hby d6_26) rfl ?_
    show Steps p.tables e below (T109.setTop (mkF m 28 #[.val (.ref a1), .val (.ref a2), .val (.int p3), .val (.long q4), .second, .val (.int p5)] [(.int p5), (.int p3), (.ref tt)])) _
    refine st112 _ ?_
    show Steps p.tables e below (T112.setTop (mkF m 29 #[.val (.ref a1), .val (.ref a2), .val (.int p3), .val (.long q4), .second, .val (.int p5)] [])) _
    exact X112.returnOut hx Bd.returns (hb hby d6_29) hr
  · show Q6 Z a1 a2 p3 q4 p5 dd tt kd kt g h0 n0 _ T112.heap _
    rw [e112]
    exact ⟨rfl, N112, K112, f116, v112⟩
theorem ef_5z (m : MethodId) (x0 : Addr) (x1 : Int64) (x2 : Int32) : entryFrame m #[(.ref x0), (.long x1), (.int x2)] 4 = mkF m 0 #[.val (.ref x0), .val (.long x1), .second, .val (.int x2)] [] := by first | (simp [entryFrame, mkF, argsToLocals, Value.category]; done) | rfl
theorem d5_0 : decode prog_10_method_2_code 0 = .ok (.aload_n 0, 1) := by decide +kernel
theorem d5_1 : decode prog_10_method_2_code 1 = .ok (.getfield 31, 3) := by decide +kernel
theorem d5_4 : decode prog_10_method_2_code 4 = .ok (.ldc 35, 2) := by decide +kernel
theorem d5_6 : decode prog_10_method_2_code 6 = .ok (.if_icmp .ne 13, 3) := by decide +kernel
theorem d5_19 : decode prog_10_method_2_code 19 = .ok (.aload_n 0, 1) := by decide +kernel
theorem d5_20 : decode prog_10_method_2_code 20 = .ok (.getfield 11, 3) := by decide +kernel
theorem d5_23 : decode prog_10_method_2_code 23 = .ok (.aload_n 0, 1) := by decide +kernel
theorem d5_24 : decode prog_10_method_2_code 24 = .ok (.getfield 31, 3) := by decide +kernel
theorem d5_27 : decode prog_10_method_2_code 27 = .ok (.getstatic 43, 3) := by decide +kernel
theorem d5_30 : decode prog_10_method_2_code 30 = .ok (.iushr, 1) := by decide +kernel
theorem d5_31 : decode prog_10_method_2_code 31 = .ok (.aaload, 1) := by decide +kernel
theorem d5_32 : decode prog_10_method_2_code 32 = .ok (.ifnonnull 39, 3) := by decide +kernel
theorem d5_35 : decode prog_10_method_2_code 35 = .ok (.aload_n 0, 1) := by decide +kernel
theorem d5_36 : decode prog_10_method_2_code 36 = .ok (.getfield 11, 3) := by decide +kernel
theorem d5_39 : decode prog_10_method_2_code 39 = .ok (.aload_n 0, 1) := by decide +kernel
theorem d5_40 : decode prog_10_method_2_code 40 = .ok (.getfield 31, 3) := by decide +kernel
theorem d5_43 : decode prog_10_method_2_code 43 = .ok (.getstatic 43, 3) := by decide +kernel
theorem d5_46 : decode prog_10_method_2_code 46 = .ok (.iushr, 1) := by decide +kernel
theorem d5_47 : decode prog_10_method_2_code 47 = .ok (.sipush 16384, 3) := by decide +kernel
theorem d5_50 : decode prog_10_method_2_code 50 = .ok (.newarray .long, 2) := by decide +kernel
theorem d5_52 : decode prog_10_method_2_code 52 = .ok (.aastore, 1) := by decide +kernel
theorem d5_53 : decode prog_10_method_2_code 53 = .ok (.aload_n 0, 1) := by decide +kernel
theorem d5_54 : decode prog_10_method_2_code 54 = .ok (.getfield 17, 3) := by decide +kernel
theorem d5_57 : decode prog_10_method_2_code 57 = .ok (.aload_n 0, 1) := by decide +kernel
theorem d5_58 : decode prog_10_method_2_code 58 = .ok (.getfield 31, 3) := by decide +kernel
theorem d5_61 : decode prog_10_method_2_code 61 = .ok (.getstatic 43, 3) := by decide +kernel
theorem d5_64 : decode prog_10_method_2_code 64 = .ok (.iushr, 1) := by decide +kernel
theorem d5_65 : decode prog_10_method_2_code 65 = .ok (.sipush 16384, 3) := by decide +kernel
theorem d5_68 : decode prog_10_method_2_code 68 = .ok (.newarray .int, 2) := by decide +kernel
theorem d5_70 : decode prog_10_method_2_code 70 = .ok (.aastore, 1) := by decide +kernel
theorem d5_71 : decode prog_10_method_2_code 71 = .ok (.aload_n 0, 1) := by decide +kernel
theorem d5_72 : decode prog_10_method_2_code 72 = .ok (.getfield 11, 3) := by decide +kernel
theorem d5_75 : decode prog_10_method_2_code 75 = .ok (.aload_n 0, 1) := by decide +kernel
theorem d5_76 : decode prog_10_method_2_code 76 = .ok (.getfield 17, 3) := by decide +kernel
theorem d5_79 : decode prog_10_method_2_code 79 = .ok (.aload_n 0, 1) := by decide +kernel
theorem d5_80 : decode prog_10_method_2_code 80 = .ok (.getfield 31, 3) := by decide +kernel
theorem d5_83 : decode prog_10_method_2_code 83 = .ok (.lload_n 1, 1) := by decide +kernel
theorem d5_84 : decode prog_10_method_2_code 84 = .ok (.iload_n 3, 1) := by decide +kernel
theorem d5_85 : decode prog_10_method_2_code 85 = .ok (.invokestatic 46, 3) := by decide +kernel
theorem pd_0 : parseMethodDescriptor "([[J[[IIJI)V" = some ⟨[(.array (.array .long)), (.array (.array .int)), .int, .long, .int], none⟩ := by decide +kernel
theorem d5_88 : decode prog_10_method_2_code 88 = .ok (.aload_n 0, 1) := by decide +kernel
theorem d5_89 : decode prog_10_method_2_code 89 = .ok (.dup, 1) := by decide +kernel
theorem d5_90 : decode prog_10_method_2_code 90 = .ok (.getfield 31, 3) := by decide +kernel
theorem d5_93 : decode prog_10_method_2_code 93 = .ok (.iconst 1, 1) := by decide +kernel
theorem d5_94 : decode prog_10_method_2_code 94 = .ok (.iadd, 1) := by decide +kernel
theorem d5_95 : decode prog_10_method_2_code 95 = .ok (.putfield 31, 3) := by decide +kernel
theorem d5_98 : decode prog_10_method_2_code 98 = .ok (.aload_n 0, 1) := by decide +kernel
theorem d5_99 : decode prog_10_method_2_code 99 = .ok (.iconst 0, 1) := by decide +kernel
theorem d5_100 : decode prog_10_method_2_code 100 = .ok (.putfield 27, 3) := by decide +kernel
theorem d5_103 : decode prog_10_method_2_code 103 = .ok (.return_, 1) := by decide +kernel
def Q5z (Z : State) (a1 : Addr) (q2 : Int64) (p3 : Int32) (d : Addr) (t : Addr) (kd : ClassId) (kt : ClassId) (so : Int32) (h0 : Heap) (n0 : Nat) (v : Option Value) (h : Heap) (L : List Loc) : Prop := ∃ dd : Addr, ∃ tt : Addr, v = none ∧ Fr n0 L ∧ (Keep h0 h [a1, d, t]) ∧ (h0.size ≤ dd) ∧ (h0.size ≤ tt) ∧ (dd ≠ tt) ∧ (Fld Z h a1 "holdfast/CountedIds$Batch" "digests" "[[J" (.ref d)) ∧ (Fld Z h a1 "holdfast/CountedIds$Batch" "tags" "[[I" (.ref t)) ∧ (Fld Z h a1 "holdfast/CountedIds$Batch" "size" "I" (.int (1 : Int32))) ∧ (Fld Z h a1 "holdfast/CountedIds$Batch" "sorted" "Z" (.int (0 : Int32))) ∧ (Arv Z h d kd (.array .long) (64 : Int32) [(.ref dd)] .null) ∧ (Arv Z h t kt (.array .int) (64 : Int32) [(.ref tt)] .null) ∧ (OwnLng Z h dd) ∧ (OwnTg Z h tt (own_up own_none (0 : Int32) p3))
set_option maxRecDepth 65536 in
set_option maxHeartbeats 40000000 in
theorem rm5z (l : Launch) (Z : State) (a0 : Array Value) (hw : ∀ d ∈ tables_1, d.before a0 Z = true) (ws : List Jvm.Cond) (a1 : Addr) (q2 : Int64) (p3 : Int32) (d : Addr) (t : Addr) (kd : ClassId) (kt : ClassId) (so : Int32) (h0 : Heap) (n0 : Nat) (Z0 : n0 ≤ h0.size) (O0 : Old Z n0 h0) (SC : Sta Z Z.heap "holdfast/CountedIds$Batch" "CHUNK_BITS" "I" (.int (14 : Int32))) (E1 : Exa Z h0 a1 "holdfast/CountedIds$Batch") (g1 : n0 ≤ a1) (g2 : n0 ≤ d) (g3 : n0 ≤ t) (n1 : a1 ≠ d) (n2 : a1 ≠ t) (n3 : d ≠ t) (F1 : Fld Z h0 a1 "holdfast/CountedIds$Batch" "digests" "[[J" (.ref d)) (F2 : Fld Z h0 a1 "holdfast/CountedIds$Batch" "tags" "[[I" (.ref t)) (F3 : Fld Z h0 a1 "holdfast/CountedIds$Batch" "size" "I" (.int (0 : Int32))) (F4 : Fld Z h0 a1 "holdfast/CountedIds$Batch" "sorted" "Z" (.int so)) (V1 : Arv Z h0 d kd (.array .long) (64 : Int32) [.null] .null) (V2 : Arv Z h0 t kt (.array .int) (64 : Int32) [.null] .null) (o1 : OvrA Z kd .long "[J") (o2 : OvrA Z kt .int "[I") :
    MetFree l (⟨"holdfast/CountedIds$Batch", "add", "(JI)V"⟩ : MethodName) (head1 (Jvm.Cond.code (⟨"holdfast/CountedIds$Batch", "add", "(JI)V"⟩ : MethodName) prog_10_method_2_code 4 none :: ws) ({ frames := 1, cells := 2, slots := 32768, locals := 17 } : Room)) (fun a U => a = #[(.ref a1), (.long q2), (.int p3)] ∧ Z.Warmed39 U.vm ∧ U.heap = h0) (fun _ _ _ _ _ => True) (fun _ U o U' => ∃ v L, o = .returned v ∧ Q5z Z a1 q2 p3 d t kd kt so h0 n0 v U'.heap L ∧ FrameEnd U o U' L ({ frames := 1, cells := 2, slots := 32768, locals := 17 } : Room).cells ({ frames := 1, cells := 2, slots := 32768, locals := 17 } : Room).slots) := by
  refine MetFree.of_bodySF (plainFor_of_name pn_0) hisR ?_
  intro p e s m args below meth c s₁ Bd hml0 hP hK
  obtain ⟨rfl, hZ0, hh⟩ := hP
  have hx := Bd.exec
  have hby := Bd.bytes
  have hml : c.maxLocals = 4 := hml0
  have hown0 : s.vm.findClass "holdfast/CountedIds$Batch" = some m.cls := findClass_of_methodNamed Bd.named
  have hnm := (name_of_methodNamed Bd.named Bd.method).1
  have hlk : meth.locks = false := by first | exact BodyLoose.notSynchronized Bd | exact Body.notSynchronized Bd
  have X0 : Stand p l e ({ frames := 1, cells := 2, slots := 32768, locals := 17 } : Room) s m #[(.ref a1), (.long q2), (.int p3)] below meth c s₁ [] 0 0 := Stand.of_body Bd
  have e0 : s₁.heap = h0 := by rw [← hh, Bd.state]; rfl
  have N0 := Fr.nil n0
  have pre0 : ∀ t, Steps p.tables e below (s₁.setTop (mkF m 0 #[.val (.ref a1), .val (.long q2), .second, .val (.int p3)] [])) t → Steps p.tables e below (s₁.setTop (entryFrame m #[(.ref a1), (.long q2), (.int p3)] 4)) t := fun t k => castTop (ef_5z m a1 q2 p3) k
  obtain ⟨T101, X101, e101, st101⟩ := getF X0 hx hZ0 hown0 (host := "") (Or.inl (hw _ (List.mem_of_getElem? (i := 28) rfl))) Via.refl e0 F3 (g := (mkF m 1 #[.val (.ref a1), .val (.long q2), .second, .val (.int p3)] [(.ref a1)])) rfl rfl (hb hby d5_1)
  obtain ⟨T102, X102, e102, st102⟩ := getF X101 hx hZ0 hown0 (host := "") (Or.inl (hw _ (List.mem_of_getElem? (i := 11) rfl))) Via.refl e101 F1 (g := (mkF m 20 #[.val (.ref a1), .val (.long q2), .second, .val (.int p3)] [(.ref a1)])) rfl rfl (hb hby d5_20)
  obtain ⟨T103, X103, e103, st103⟩ := getF X102 hx hZ0 hown0 (host := "") (Or.inl (hw _ (List.mem_of_getElem? (i := 28) rfl))) Via.refl e102 F3 (g := (mkF m 24 #[.val (.ref a1), .val (.long q2), .second, .val (.int p3)] [(.ref a1), (.ref d)])) rfl rfl (hb hby d5_24)
  obtain ⟨T104, X104, e104, st104⟩ := getS2 X103 hx hZ0 hown0 (host := "") (Or.inl (hw _ (List.mem_of_getElem? (i := 41) rfl))) Via.refl e103 (Sta.ext O0.2 SC) (g := (mkF m 27 #[.val (.ref a1), .val (.long q2), .second, .val (.int p3)] [(.int (0 : Int32)), (.ref d)])) rfl (hb hby d5_27)
  have cf105 : (((0 : Int32).toUInt32 >>> ((14 : Int32) &&& 31).toUInt32).toInt32) = (0 : Int32) := by decide
  obtain ⟨cl106, Ar106, -, Sz106, -, Hs106, -⟩ := (id V1)
  have hin106 : ¬ ((0 : Int32) < 0 ∨ cl106.slots.size ≤ (0 : Int32).toNatClampNeg) := inb_of Sz106 ⟨by decide, by decide⟩
  obtain ⟨T107, X107, e107, st107⟩ := getF X104 hx hZ0 hown0 (host := "") (Or.inl (hw _ (List.mem_of_getElem? (i := 11) rfl))) Via.refl e104 F1 (g := (mkF m 36 #[.val (.ref a1), .val (.long q2), .second, .val (.int p3)] [(.ref a1)])) rfl rfl (hb hby d5_36)
  obtain ⟨T108, X108, e108, st108⟩ := getF X107 hx hZ0 hown0 (host := "") (Or.inl (hw _ (List.mem_of_getElem? (i := 28) rfl))) Via.refl e107 F3 (g := (mkF m 40 #[.val (.ref a1), .val (.long q2), .second, .val (.int p3)] [(.ref a1), (.ref d)])) rfl rfl (hb hby d5_40)
  obtain ⟨T109, X109, e109, st109⟩ := getS2 X108 hx hZ0 hown0 (host := "") (Or.inl (hw _ (List.mem_of_getElem? (i := 41) rfl))) Via.refl e108 (Sta.ext O0.2 SC) (g := (mkF m 43 #[.val (.ref a1), .val (.long q2), .second, .val (.int p3)] [(.int (0 : Int32)), (.ref d)])) rfl (hb hby d5_43)
  have cf110 : (((0 : Int32).toUInt32 >>> ((14 : Int32) &&& 31).toUInt32).toInt32) = (0 : Int32) := by decide
  obtain ⟨T111, h111, k111, X111, e111, E111, A111, x111, st111⟩ := newPE X109 hx hZ0 (hw _ (List.mem_of_getElem? (i := 43) rfl)) e109 (g := (mkF m 50 #[.val (.ref a1), .val (.long q2), .second, .val (.int p3)] [(.int (16384 : Int32)), (.int (0 : Int32)), (.ref d)])) rfl (hb hby d5_50) rfl (by decide) (cap := 16384) (by decide) (by decide) (by decide) (by decide) (ad := "[J") (by decide)
  obtain ⟨b111, g111⟩ : ∃ z, z = h0.size := ⟨_, rfl⟩
  rw [← g111] at A111 x111 st111
  have ne_a1_b111 : a1 ≠ b111 := Nat.ne_of_lt (Nat.lt_of_lt_of_le E1.lt (Nat.le_of_eq g111.symm))
  have ne_d_b111 : d ≠ b111 := Nat.ne_of_lt (Nat.lt_of_lt_of_le V1.lt (Nat.le_of_eq g111.symm))
  have ne_t_b111 : t ≠ b111 := Nat.ne_of_lt (Nat.lt_of_lt_of_le V2.lt (Nat.le_of_eq g111.symm))
  have gn_b111 : n0 ≤ b111 := Nat.le_trans Z0 (Nat.le_of_eq g111.symm)
  have sz_b111 : h0.size ≤ b111 := Nat.le_trans (Keep.refl h0 [a1, d, t]).1 (Nat.le_of_eq g111.symm)
  have f112 : Old Z n0 h111 := O0.ext E111
  have f113 : Exa Z h111 a1 "holdfast/CountedIds$Batch" := Exa.ext E111 E1
  have f114 : Fld Z h111 a1 "holdfast/CountedIds$Batch" "digests" "[[J" (.ref d) := Fld.ext E111 F1
  have f115 : Fld Z h111 a1 "holdfast/CountedIds$Batch" "tags" "[[I" (.ref t) := Fld.ext E111 F2
  have f116 : Fld Z h111 a1 "holdfast/CountedIds$Batch" "size" "I" (.int (0 : Int32)) := Fld.ext E111 F3
  have f117 : Fld Z h111 a1 "holdfast/CountedIds$Batch" "sorted" "Z" (.int so) := Fld.ext E111 F4
  have f118 : Arv Z h111 d kd (.array .long) (64 : Int32) [.null] .null := V1.ext E111
  have f119 : Arv Z h111 t kt (.array .int) (64 : Int32) [.null] .null := V2.ext E111
  have Zs111 : n0 ≤ h111.size := Nat.le_trans Z0 E111.1
  have K111 : Keep h0 h111 [a1, d, t] := (Keep.refl h0 [a1, d, t]).ext E111
  have v111 : OwnLng Z h111 b111 := OwnLng.new A111
  obtain ⟨cl120, Ar120, ck120, Sz120, Nn120, Hs120, Gg120⟩ := (id f118)
  have hin120 : ¬ ((0 : Int32) < 0 ∨ cl120.slots.size ≤ (0 : Int32).toNatClampNeg) := inb_of Sz120 ⟨by decide, by decide⟩
  obtain ⟨T121, h121, X121, e121, W121, st121⟩ := stR X111 hx hZ0 e111 Ar120 (j := (0 : Int32)) hin120 rfl (Sto.ofVA Ar120 ck120 o1 (Ins.self x111)) (g := (mkF m 52 #[.val (.ref a1), .val (.long q2), .second, .val (.int p3)] [(.ref b111), (.int (0 : Int32)), (.ref d)])) rfl rfl (hb hby d5_52)
  have f122 : Old Z n0 h121 := f112.wr W121 g2
  have f123 : Exa Z h121 a1 "holdfast/CountedIds$Batch" := Exa.wr W121 f113
  have f124 : Fld Z h121 a1 "holdfast/CountedIds$Batch" "digests" "[[J" (.ref d) := Fld.other W121 f114 (Or.inl n1)
  have f125 : Fld Z h121 a1 "holdfast/CountedIds$Batch" "tags" "[[I" (.ref t) := Fld.other W121 f115 (Or.inl n1)
  have f126 : Fld Z h121 a1 "holdfast/CountedIds$Batch" "size" "I" (.int (0 : Int32)) := Fld.other W121 f116 (Or.inl n1)
  have f127 : Fld Z h121 a1 "holdfast/CountedIds$Batch" "sorted" "Z" (.int so) := Fld.other W121 f117 (Or.inl n1)
  have f128 : Arv Z h121 t kt (.array .int) (64 : Int32) [.null] .null := f119.other W121 (Ne.symm n3)
  have f129 : OwnLng Z h121 b111 := OwnLng.other v111 W121 (Ne.symm ne_d_b111)
  have f130 : Exa Z h121 b111 "[J" := Exa.wr W121 x111
  have Zs121 : n0 ≤ h121.size := Nat.le_trans Zs111 (Keep.of_wr W121).1
  have N121 := Fr.snoc X121 N0 g2
  have K121 : Keep h0 h121 [a1, d, t] := K111.wr W121 (Or.inl (List.mem_of_getElem? (i := 1) rfl))
  have v121 : Arv Z h121 d kd (.array .long) (64 : Int32) [(.ref b111)] .null := Arv.set Ar120 ck120 Sz120 Nn120 Hs120 Gg120 rfl W121 0 rfl (by decide)
  obtain ⟨T131, X131, e131, st131⟩ := getF X121 hx hZ0 hown0 (host := "") (Or.inl (hw _ (List.mem_of_getElem? (i := 15) rfl))) Via.refl e121 f125 (g := (mkF m 54 #[.val (.ref a1), .val (.long q2), .second, .val (.int p3)] [(.ref a1)])) rfl rfl (hb hby d5_54)
  obtain ⟨T132, X132, e132, st132⟩ := getF X131 hx hZ0 hown0 (host := "") (Or.inl (hw _ (List.mem_of_getElem? (i := 28) rfl))) Via.refl e131 f126 (g := (mkF m 58 #[.val (.ref a1), .val (.long q2), .second, .val (.int p3)] [(.ref a1), (.ref t)])) rfl rfl (hb hby d5_58)
  obtain ⟨T133, X133, e133, st133⟩ := getS2 X132 hx hZ0 hown0 (host := "") (Or.inl (hw _ (List.mem_of_getElem? (i := 41) rfl))) Via.refl e132 (Sta.ext f122.2 SC) (g := (mkF m 61 #[.val (.ref a1), .val (.long q2), .second, .val (.int p3)] [(.int (0 : Int32)), (.ref t)])) rfl (hb hby d5_61)
  have cf134 : (((0 : Int32).toUInt32 >>> ((14 : Int32) &&& 31).toUInt32).toInt32) = (0 : Int32) := by decide
  obtain ⟨T135, h135, k135, X135, e135, E135, A135, x135, st135⟩ := newPE X133 hx hZ0 (hw _ (List.mem_of_getElem? (i := 45) rfl)) e133 (g := (mkF m 68 #[.val (.ref a1), .val (.long q2), .second, .val (.int p3)] [(.int (16384 : Int32)), (.int (0 : Int32)), (.ref t)])) rfl (hb hby d5_68) rfl (by decide) (cap := 16384) (by decide) (by decide) (by decide) (by decide) (ad := "[I") (by decide)
  obtain ⟨b135, g135⟩ : ∃ z, z = h121.size := ⟨_, rfl⟩
  rw [← g135] at A135 x135 st135
  have ne_a1_b135 : a1 ≠ b135 := Nat.ne_of_lt (Nat.lt_of_lt_of_le f123.lt (Nat.le_of_eq g135.symm))
  have ne_t_b135 : t ≠ b135 := Nat.ne_of_lt (Nat.lt_of_lt_of_le f128.lt (Nat.le_of_eq g135.symm))
  have ne_b111_b135 : b111 ≠ b135 := Nat.ne_of_lt (Nat.lt_of_lt_of_le f129.lt (Nat.le_of_eq g135.symm))
  have ne_d_b135 : d ≠ b135 := Nat.ne_of_lt (Nat.lt_of_lt_of_le v121.lt (Nat.le_of_eq g135.symm))
  have gn_b135 : n0 ≤ b135 := Nat.le_trans Zs121 (Nat.le_of_eq g135.symm)
  have sz_b135 : h0.size ≤ b135 := Nat.le_trans K121.1 (Nat.le_of_eq g135.symm)
  have f136 : Old Z n0 h135 := f122.ext E135
  have f137 : Exa Z h135 a1 "holdfast/CountedIds$Batch" := Exa.ext E135 f123
  have f138 : Fld Z h135 a1 "holdfast/CountedIds$Batch" "digests" "[[J" (.ref d) := Fld.ext E135 f124
  have f139 : Fld Z h135 a1 "holdfast/CountedIds$Batch" "tags" "[[I" (.ref t) := Fld.ext E135 f125
  have f140 : Fld Z h135 a1 "holdfast/CountedIds$Batch" "size" "I" (.int (0 : Int32)) := Fld.ext E135 f126
  have f141 : Fld Z h135 a1 "holdfast/CountedIds$Batch" "sorted" "Z" (.int so) := Fld.ext E135 f127
  have f142 : Arv Z h135 t kt (.array .int) (64 : Int32) [.null] .null := f128.ext E135
  have f143 : OwnLng Z h135 b111 := OwnLng.ext f129 E135
  have f144 : Exa Z h135 b111 "[J" := Exa.ext E135 f130
  have f145 : Arv Z h135 d kd (.array .long) (64 : Int32) [(.ref b111)] .null := v121.ext E135
  have Zs135 : n0 ≤ h135.size := Nat.le_trans Zs121 E135.1
  have K135 : Keep h0 h135 [a1, d, t] := K121.ext E135
  have v135 : OwnTg Z h135 b135 own_none := OwnTg.new A135
  obtain ⟨cl146, Ar146, ck146, Sz146, Nn146, Hs146, Gg146⟩ := (id f142)
  have hin146 : ¬ ((0 : Int32) < 0 ∨ cl146.slots.size ≤ (0 : Int32).toNatClampNeg) := inb_of Sz146 ⟨by decide, by decide⟩
  obtain ⟨T147, h147, X147, e147, W147, st147⟩ := stR X135 hx hZ0 e135 Ar146 (j := (0 : Int32)) hin146 rfl (Sto.ofVA Ar146 ck146 o2 (Ins.self x135)) (g := (mkF m 70 #[.val (.ref a1), .val (.long q2), .second, .val (.int p3)] [(.ref b135), (.int (0 : Int32)), (.ref t)])) rfl rfl (hb hby d5_70)
  have f148 : Old Z n0 h147 := f136.wr W147 g3
  have f149 : Exa Z h147 a1 "holdfast/CountedIds$Batch" := Exa.wr W147 f137
  have f150 : Fld Z h147 a1 "holdfast/CountedIds$Batch" "digests" "[[J" (.ref d) := Fld.other W147 f138 (Or.inl n2)
  have f151 : Fld Z h147 a1 "holdfast/CountedIds$Batch" "tags" "[[I" (.ref t) := Fld.other W147 f139 (Or.inl n2)
  have f152 : Fld Z h147 a1 "holdfast/CountedIds$Batch" "size" "I" (.int (0 : Int32)) := Fld.other W147 f140 (Or.inl n2)
  have f153 : Fld Z h147 a1 "holdfast/CountedIds$Batch" "sorted" "Z" (.int so) := Fld.other W147 f141 (Or.inl n2)
  have f154 : OwnLng Z h147 b111 := OwnLng.other f143 W147 (Ne.symm ne_t_b111)
  have f155 : Exa Z h147 b111 "[J" := Exa.wr W147 f144
  have f156 : Arv Z h147 d kd (.array .long) (64 : Int32) [(.ref b111)] .null := f145.other W147 n3
  have f157 : OwnTg Z h147 b135 own_none := OwnTg.other v135 W147 (Ne.symm ne_t_b135)
  have f158 : Exa Z h147 b135 "[I" := Exa.wr W147 x135
  have Zs147 : n0 ≤ h147.size := Nat.le_trans Zs135 (Keep.of_wr W147).1
  have N147 := Fr.snoc X147 N121 g3
  have K147 : Keep h0 h147 [a1, d, t] := K135.wr W147 (Or.inl (List.mem_of_getElem? (i := 2) rfl))
  have v147 : Arv Z h147 t kt (.array .int) (64 : Int32) [(.ref b135)] .null := Arv.set Ar146 ck146 Sz146 Nn146 Hs146 Gg146 rfl W147 0 rfl (by decide)
  obtain ⟨T159, X159, e159, st159⟩ := getF X147 hx hZ0 hown0 (host := "") (Or.inl (hw _ (List.mem_of_getElem? (i := 11) rfl))) Via.refl e147 f150 (g := (mkF m 72 #[.val (.ref a1), .val (.long q2), .second, .val (.int p3)] [(.ref a1)])) rfl rfl (hb hby d5_72)
  obtain ⟨T160, X160, e160, st160⟩ := getF X159 hx hZ0 hown0 (host := "") (Or.inl (hw _ (List.mem_of_getElem? (i := 15) rfl))) Via.refl e159 f151 (g := (mkF m 76 #[.val (.ref a1), .val (.long q2), .second, .val (.int p3)] [(.ref a1), (.ref d)])) rfl rfl (hb hby d5_76)
  obtain ⟨T161, X161, e161, st161⟩ := getF X160 hx hZ0 hown0 (host := "") (Or.inl (hw _ (List.mem_of_getElem? (i := 28) rfl))) Via.refl e160 f152 (g := (mkF m 80 #[.val (.ref a1), .val (.long q2), .second, .val (.int p3)] [(.ref a1), (.ref t), (.ref d)])) rfl rfl (hb hby d5_80)
  obtain ⟨_, _, ⟨T162, L162, k162, n162⟩, -, X162, ⟨Lc162, hQ162, l162, y162, z162⟩, st162⟩ := Jvm.LawKit.callS X161 hx (y := (⟨"holdfast/CountedIds$Batch", "set", "([[J[[IIJI)V"⟩ : MethodName)) hown0 (mvT hZ0 (hw _ (List.mem_of_getElem? (i := 47) rfl))) (mvT hZ0 (hw _ (List.mem_of_getElem? (i := 48) rfl))) (mvT hZ0 (hw _ (List.mem_of_getElem? (i := 2) rfl))) (mvT hZ0 (hw _ (List.mem_of_getElem? (i := 49) rfl))) (by decide) (backOf (W := 0) (rm6 l Z a0 hw [] d t (0 : Int32) q2 p3 b111 b135 kd kt own_none h147 n0 Zs147 f148 SC f156 v147 f154 f157 ne_b111_b135 ne_t_b111 ne_d_b111 ne_d_b135 ne_t_b135 gn_b111 gn_b135 (by decide) (by decide) (by decide)) hZ0 (hw _ (List.mem_of_getElem? (i := 49) rfl)) (hw _ (List.mem_of_getElem? (i := 2) rfl)) (by decide) (by decide)) (g := (mkF m 85 #[.val (.ref a1), .val (.long q2), .second, .val (.int p3)] [(.int p3), (.long q2), (.int (0 : Int32)), (.ref t), (.ref d)])) rfl (by rw [hml]; rfl) (argsL := [(.ref d), (.ref t), (.int (0 : Int32)), (.long q2), (.int p3)]) (rest := []) (lenOf pd_0 rfl) rfl (by show 2 * 0 + _ ≤ _; exact Nat.le_of_eq rfl) (hb hby d5_85) (fun _ _ => ⟨rfl, e161, (by decide : 2 + 0 ≤ _), (by decide : 32768 + 0 ≤ _)⟩)
  dsimp only [Pt.U, Pt.locs, Pt.cells, Pt.slots] at X162 l162 y162 z162 st162 hQ162
  subst l162 y162 z162
  obtain ⟨rfl, N162q, P162_0, P162_1, P162_2⟩ := hQ162
  have N162 := Fr.app N147 N162q
  have f163 : Old Z n0 T162.heap := f148.keep P162_0 (allS gn_b111 (allS gn_b135 all0))
  have f164 : Exa Z T162.heap a1 "holdfast/CountedIds$Batch" := f149.keep P162_0
  have f165 : Fld Z T162.heap a1 "holdfast/CountedIds$Batch" "digests" "[[J" (.ref d) := f150.keep P162_0 (ninS ne_a1_b111 (ninS ne_a1_b135 nin0))
  have f166 : Fld Z T162.heap a1 "holdfast/CountedIds$Batch" "tags" "[[I" (.ref t) := f151.keep P162_0 (ninS ne_a1_b111 (ninS ne_a1_b135 nin0))
  have f167 : Fld Z T162.heap a1 "holdfast/CountedIds$Batch" "size" "I" (.int (0 : Int32)) := f152.keep P162_0 (ninS ne_a1_b111 (ninS ne_a1_b135 nin0))
  have f168 : Fld Z T162.heap a1 "holdfast/CountedIds$Batch" "sorted" "Z" (.int so) := f153.keep P162_0 (ninS ne_a1_b111 (ninS ne_a1_b135 nin0))
  have f169 : Exa Z T162.heap b111 "[J" := f155.keep P162_0
  have f170 : Arv Z T162.heap d kd (.array .long) (64 : Int32) [(.ref b111)] .null := f156.keep P162_0 (ninS ne_d_b111 (ninS ne_d_b135 nin0))
  have f171 : Exa Z T162.heap b135 "[I" := f158.keep P162_0
  have f172 : Arv Z T162.heap t kt (.array .int) (64 : Int32) [(.ref b135)] .null := v147.keep P162_0 (ninS ne_t_b111 (ninS ne_t_b135 nin0))
  have Zs162 : n0 ≤ T162.heap.size := Nat.le_trans Zs147 P162_0.1
  have K162 : Keep h0 T162.heap [a1, d, t] := K147.trans P162_0 (allS (Or.inr sz_b111) (allS (Or.inr sz_b135) all0))
  obtain ⟨T173, X173, e173, st173⟩ := getF X162 hx hZ0 hown0 (host := "") (Or.inl (hw _ (List.mem_of_getElem? (i := 28) rfl))) Via.refl rfl f167 (g := (mkF m 90 #[.val (.ref a1), .val (.long q2), .second, .val (.int p3)] [(.ref a1), (.ref a1)])) rfl rfl (hb hby d5_90)
  have cf174 : ((0 : Int32) + (1 : Int32)) = (1 : Int32) := by decide
  obtain ⟨T175, h175, X175, e175, W175, st175⟩ := putF X173 hx hZ0 hown0 (host := "") (Or.inl (hw _ (List.mem_of_getElem? (i := 28) rfl))) Via.refl e173 f167 f164 (Or.inl (hw _ (List.mem_of_getElem? (i := 29) rfl))) (hw _ (List.mem_of_getElem? (i := 1) rfl)) (ty := .int) (by decide) rfl rfl (g := (mkF m 95 #[.val (.ref a1), .val (.long q2), .second, .val (.int p3)] [(.int (1 : Int32)), (.ref a1)])) rfl rfl (hb hby d5_95)
  have f176 : Old Z n0 h175 := f163.wr W175 g1
  have f177 : Exa Z h175 a1 "holdfast/CountedIds$Batch" := Exa.wr W175 f164
  have f178 : Fld Z h175 a1 "holdfast/CountedIds$Batch" "digests" "[[J" (.ref d) := Fld.other W175 f165 (Or.inr (slot_ne (Or.inl (hw _ (List.mem_of_getElem? (i := 12) rfl))) (Or.inl (hw _ (List.mem_of_getElem? (i := 29) rfl))) (by decide) (t := (.array (.array .long))) (t' := .int) (by decide) (by decide)))
  have f179 : Fld Z h175 a1 "holdfast/CountedIds$Batch" "tags" "[[I" (.ref t) := Fld.other W175 f166 (Or.inr (slot_ne (Or.inl (hw _ (List.mem_of_getElem? (i := 16) rfl))) (Or.inl (hw _ (List.mem_of_getElem? (i := 29) rfl))) (by decide) (t := (.array (.array .int))) (t' := .int) (by decide) (by decide)))
  have f180 : Fld Z h175 a1 "holdfast/CountedIds$Batch" "sorted" "Z" (.int so) := Fld.other W175 f168 (Or.inr (slot_ne (Or.inl (hw _ (List.mem_of_getElem? (i := 22) rfl))) (Or.inl (hw _ (List.mem_of_getElem? (i := 29) rfl))) (by decide) (t := .boolean) (t' := .int) (by decide) (by decide)))
  have f181 : Exa Z h175 b111 "[J" := Exa.wr W175 f169
  have f182 : Arv Z h175 d kd (.array .long) (64 : Int32) [(.ref b111)] .null := f170.other W175 (Ne.symm n1)
  have f183 : Exa Z h175 b135 "[I" := Exa.wr W175 f171
  have f184 : Arv Z h175 t kt (.array .int) (64 : Int32) [(.ref b135)] .null := f172.other W175 (Ne.symm n2)
  have f185 : OwnLng Z h175 b111 := OwnLng.other P162_1 W175 (Ne.symm ne_a1_b111)
  have f186 : OwnTg Z h175 b135 (own_up own_none (0 : Int32) p3) := OwnTg.other P162_2 W175 (Ne.symm ne_a1_b135)
  have f187 : Fld Z h175 a1 "holdfast/CountedIds$Batch" "size" "I" (.int (1 : Int32)) := f167.same W175
  have Zs175 : n0 ≤ h175.size := Nat.le_trans Zs162 (Keep.of_wr W175).1
  have N175 := Fr.snoc X175 N162 g1
  have K175 : Keep h0 h175 [a1, d, t] := K162.wr W175 (Or.inl (List.mem_of_getElem? (i := 0) rfl))
  obtain ⟨T188, h188, X188, e188, W188, st188⟩ := putFN X175 hx hZ0 hown0 (hw _ (List.mem_of_getElem? (i := 21) rfl)) Via.refl e175 f180 f177 (Or.inl (hw _ (List.mem_of_getElem? (i := 22) rfl))) (hw _ (List.mem_of_getElem? (i := 1) rfl)) (ty := .boolean) (v' := (.int (0 : Int32))) (by decide) rfl (by decide) (g := (mkF m 100 #[.val (.ref a1), .val (.long q2), .second, .val (.int p3)] [(.int (0 : Int32)), (.ref a1)])) rfl rfl (hb hby d5_100)
  have f189 : Old Z n0 h188 := f176.wr W188 g1
  have f190 : Exa Z h188 a1 "holdfast/CountedIds$Batch" := Exa.wr W188 f177
  have f191 : Fld Z h188 a1 "holdfast/CountedIds$Batch" "digests" "[[J" (.ref d) := Fld.other W188 f178 (Or.inr (slot_ne (Or.inl (hw _ (List.mem_of_getElem? (i := 12) rfl))) (Or.inl (hw _ (List.mem_of_getElem? (i := 22) rfl))) (by decide) (t := (.array (.array .long))) (t' := .boolean) (by decide) (by decide)))
  have f192 : Fld Z h188 a1 "holdfast/CountedIds$Batch" "tags" "[[I" (.ref t) := Fld.other W188 f179 (Or.inr (slot_ne (Or.inl (hw _ (List.mem_of_getElem? (i := 16) rfl))) (Or.inl (hw _ (List.mem_of_getElem? (i := 22) rfl))) (by decide) (t := (.array (.array .int))) (t' := .boolean) (by decide) (by decide)))
  have f193 : Exa Z h188 b111 "[J" := Exa.wr W188 f181
  have f194 : Arv Z h188 d kd (.array .long) (64 : Int32) [(.ref b111)] .null := f182.other W188 (Ne.symm n1)
  have f195 : Exa Z h188 b135 "[I" := Exa.wr W188 f183
  have f196 : Arv Z h188 t kt (.array .int) (64 : Int32) [(.ref b135)] .null := f184.other W188 (Ne.symm n2)
  have f197 : OwnLng Z h188 b111 := OwnLng.other f185 W188 (Ne.symm ne_a1_b111)
  have f198 : OwnTg Z h188 b135 (own_up own_none (0 : Int32) p3) := OwnTg.other f186 W188 (Ne.symm ne_a1_b135)
  have f199 : Fld Z h188 a1 "holdfast/CountedIds$Batch" "size" "I" (.int (1 : Int32)) := Fld.other W188 f187 (Or.inr (slot_ne (Or.inl (hw _ (List.mem_of_getElem? (i := 29) rfl))) (Or.inl (hw _ (List.mem_of_getElem? (i := 22) rfl))) (by decide) (t := .int) (t' := .boolean) (by decide) (by decide)))
  have f200 : Fld Z h188 a1 "holdfast/CountedIds$Batch" "sorted" "Z" (.int (0 : Int32)) := f180.same W188
  have Zs188 : n0 ≤ h188.size := Nat.le_trans Zs175 (Keep.of_wr W188).1
  have N188 := Fr.snoc X188 N175 g1
  have K188 : Keep h0 h188 [a1, d, t] := K175.wr W188 (Or.inl (List.mem_of_getElem? (i := 0) rfl))
  obtain ⟨fs, hr, hrun, hended, hW, hsame⟩ := X188.leave (v := none) (fun _ => rfl) hlk
  refine ⟨_, _, pre0 _ ?_, hrun, hended, _, _, rfl, ?_, ⟨_, rfl⟩, hW, hsame.mono (by decide) (by decide)⟩
  · show Steps p.tables e below (s₁.setTop (mkF m 0 #[.val (.ref a1), .val (.long q2), .second, .val (.int p3)] [])) _
    refine XS.aloadN X0.here hx rfl (hb hby d5_0) rfl rfl ?_
    show Steps p.tables e below (s₁.setTop (mkF m 1 #[.val (.ref a1), .val (.long q2), .second, .val (.int p3)] [(.ref a1)])) _
    refine st101 _ ?_
    show Steps p.tables e below (T101.setTop (mkF m 4 #[.val (.ref a1), .val (.long q2), .second, .val (.int p3)] [(.int (0 : Int32))])) _
    refine X101.ldcI hx hown0 (mvT hZ0 (hw _ (List.mem_of_getElem? (i := 30) rfl))) (g := (mkF m 4 #[.val (.ref a1), .val (.long q2), .second, .val (.int p3)] [(.int (0 : Int32))])) rfl (hb hby d5_4) ?_
    show Steps p.tables e below (T101.setTop (mkF m 6 #[.val (.ref a1), .val (.long q2), .second, .val (.int p3)] [(.int (1048576 : Int32)), (.int (0 : Int32))])) _
    refine XS.icmpYes X101.here hx rfl (pc0 := 6) (pc' := 19) rfl (hb hby d5_6) rfl (feq (by decide : ¬ ((0 : Int32) = (1048576 : Int32)))).2 (by decide) (by decide) ?_
    show Steps p.tables e below (T101.setTop (mkF m 19 #[.val (.ref a1), .val (.long q2), .second, .val (.int p3)] [])) _
    refine XS.aloadN X101.here hx rfl (hb hby d5_19) rfl rfl ?_
    show Steps p.tables e below (T101.setTop (mkF m 20 #[.val (.ref a1), .val (.long q2), .second, .val (.int p3)] [(.ref a1)])) _
    refine st102 _ ?_
    show Steps p.tables e below (T102.setTop (mkF m 23 #[.val (.ref a1), .val (.long q2), .second, .val (.int p3)] [(.ref d)])) _
    refine XS.aloadN X102.here hx rfl (hb hby d5_23) rfl rfl ?_
    show Steps p.tables e below (T102.setTop (mkF m 24 #[.val (.ref a1), .val (.long q2), .second, .val (.int p3)] [(.ref a1), (.ref d)])) _
    refine st103 _ ?_
    show Steps p.tables e below (T103.setTop (mkF m 27 #[.val (.ref a1), .val (.long q2), .second, .val (.int p3)] [(.int (0 : Int32)), (.ref d)])) _
    refine st104 _ ?_
    show Steps p.tables e below (T104.setTop (mkF m 30 #[.val (.ref a1), .val (.long q2), .second, .val (.int p3)] [(.int (14 : Int32)), (.int (0 : Int32)), (.ref d)])) _
    refine XS.iushr X104.here hx rfl (hb hby d5_30) rfl ?_
    show Steps p.tables e below (T104.setTop (mkF m 31 #[.val (.ref a1), .val (.long q2), .second, .val (.int p3)] [(.int (((0 : Int32).toUInt32 >>> ((14 : Int32) &&& 31).toUInt32).toInt32)), (.ref d)])) _
    rw [cf105]
    show Steps p.tables e below (T104.setTop (mkF m 31 #[.val (.ref a1), .val (.long q2), .second, .val (.int p3)] [(.int (0 : Int32)), (.ref d)])) _
    refine X104.aaload hx (j := (0 : Int32)) (v := .null) (by rw [e104]; exact Ar106.1) (State.isArrayOf_alike hZ0.alike Ar106.2.1) rfl Ar106.2.2 hin106 (Has.at Hs106 hin106 rfl) (g := (mkF m 31 #[.val (.ref a1), .val (.long q2), .second, .val (.int p3)] [(.int (0 : Int32)), (.ref d)])) rfl rfl (hb hby d5_31) _ ?_
    show Steps p.tables e below (T104.setTop (mkF m 32 #[.val (.ref a1), .val (.long q2), .second, .val (.int p3)] [.null])) _
    refine XS.ifnonnullNo X104.here hx rfl (hb hby d5_32) rfl ?_
    show Steps p.tables e below (T104.setTop (mkF m 35 #[.val (.ref a1), .val (.long q2), .second, .val (.int p3)] [])) _
    refine XS.aloadN X104.here hx rfl (hb hby d5_35) rfl rfl ?_
    show Steps p.tables e below (T104.setTop (mkF m 36 #[.val (.ref a1), .val (.long q2), .second, .val (.int p3)] [(.ref a1)])) _
    refine st107 _ ?_
    show Steps p.tables e below (T107.setTop (mkF m 39 #[.val (.ref a1), .val (.long q2), .second, .val (.int p3)] [(.ref d)])) _
    refine XS.aloadN X107.here hx rfl (hb hby d5_39) rfl rfl ?_
    show Steps p.tables e below (T107.setTop (mkF m 40 #[.val (.ref a1), .val (.long q2), .second, .val (.int p3)] [(.ref a1), (.ref d)])) _
    refine st108 _ ?_
    show Steps p.tables e below (T108.setTop (mkF m 43 #[.val (.ref a1), .val (.long q2), .second, .val (.int p3)] [(.int (0 : Int32)), (.ref d)])) _
    refine st109 _ ?_
    show Steps p.tables e below (T109.setTop (mkF m 46 #[.val (.ref a1), .val (.long q2), .second, .val (.int p3)] [(.int (14 : Int32)), (.int (0 : Int32)), (.ref d)])) _
    refine XS.iushr X109.here hx rfl (hb hby d5_46) rfl ?_
    show Steps p.tables e below (T109.setTop (mkF m 47 #[.val (.ref a1), .val (.long q2), .second, .val (.int p3)] [(.int (((0 : Int32).toUInt32 >>> ((14 : Int32) &&& 31).toUInt32).toInt32)), (.ref d)])) _
    rw [cf110]
    show Steps p.tables e below (T109.setTop (mkF m 47 #[.val (.ref a1), .val (.long q2), .second, .val (.int p3)] [(.int (0 : Int32)), (.ref d)])) _
    refine XS.sipush X109.here hx rfl (hb hby d5_47) ?_
    show Steps p.tables e below (T109.setTop (mkF m 50 #[.val (.ref a1), .val (.long q2), .second, .val (.int p3)] [(.int (16384 : Int32)), (.int (0 : Int32)), (.ref d)])) _
    refine st111 _ ?_
    show Steps p.tables e below (T111.setTop (mkF m 52 #[.val (.ref a1), .val (.long q2), .second, .val (.int p3)] [(.ref b111), (.int (0 : Int32)), (.ref d)])) _
    refine st121 _ ?_
    show Steps p.tables e below (T121.setTop (mkF m 53 #[.val (.ref a1), .val (.long q2), .second, .val (.int p3)] [])) _
    refine XS.aloadN X121.here hx rfl (hb hby d5_53) rfl rfl ?_
    show Steps p.tables e below (T121.setTop (mkF m 54 #[.val (.ref a1), .val (.long q2), .second, .val (.int p3)] [(.ref a1)])) _
    refine st131 _ ?_
    show Steps p.tables e below (T131.setTop (mkF m 57 #[.val (.ref a1), .val (.long q2), .second, .val (.int p3)] [(.ref t)])) _
    refine XS.aloadN X131.here hx rfl (hb hby d5_57) rfl rfl ?_
    show Steps p.tables e below (T131.setTop (mkF m 58 #[.val (.ref a1), .val (.long q2), .second, .val (.int p3)] [(.ref a1), (.ref t)])) _
    refine st132 _ ?_
    show Steps p.tables e below (T132.setTop (mkF m 61 #[.val (.ref a1), .val (.long q2), .second, .val (.int p3)] [(.int (0 : Int32)), (.ref t)])) _
    refine st133 _ ?_
    show Steps p.tables e below (T133.setTop (mkF m 64 #[.val (.ref a1), .val (.long q2), .second, .val (.int p3)] [(.int (14 : Int32)), (.int (0 : Int32)), (.ref t)])) _
    refine XS.iushr X133.here hx rfl (hb hby d5_64) rfl ?_
    show Steps p.tables e below (T133.setTop (mkF m 65 #[.val (.ref a1), .val (.long q2), .second, .val (.int p3)] [(.int (((0 : Int32).toUInt32 >>> ((14 : Int32) &&& 31).toUInt32).toInt32)), (.ref t)])) _
    rw [cf134]
    show Steps p.tables e below (T133.setTop (mkF m 65 #[.val (.ref a1), .val (.long q2), .second, .val (.int p3)] [(.int (0 : Int32)), (.ref t)])) _
    refine XS.sipush X133.here hx rfl (hb hby d5_65) ?_
    show Steps p.tables e below (T133.setTop (mkF m 68 #[.val (.ref a1), .val (.long q2), .second, .val (.int p3)] [(.int (16384 : Int32)), (.int (0 : Int32)), (.ref t)])) _
    refine st135 _ ?_
    show Steps p.tables e below (T135.setTop (mkF m 70 #[.val (.ref a1), .val (.long q2), .second, .val (.int p3)] [(.ref b135), (.int (0 : Int32)), (.ref t)])) _
    refine st147 _ ?_
    show Steps p.tables e below (T147.setTop (mkF m 71 #[.val (.ref a1), .val (.long q2), .second, .val (.int p3)] [])) _
    refine XS.aloadN X147.here hx rfl (hb hby d5_71) rfl rfl ?_
    show Steps p.tables e below (T147.setTop (mkF m 72 #[.val (.ref a1), .val (.long q2), .second, .val (.int p3)] [(.ref a1)])) _
    refine st159 _ ?_
    show Steps p.tables e below (T159.setTop (mkF m 75 #[.val (.ref a1), .val (.long q2), .second, .val (.int p3)] [(.ref d)])) _
    refine XS.aloadN X159.here hx rfl (hb hby d5_75) rfl rfl ?_
    show Steps p.tables e below (T159.setTop (mkF m 76 #[.val (.ref a1), .val (.long q2), .second, .val (.int p3)] [(.ref a1), (.ref d)])) _
    refine st160 _ ?_
    show Steps p.tables e below (T160.setTop (mkF m 79 #[.val (.ref a1), .val (.long q2), .second, .val (.int p3)] [(.ref t), (.ref d)])) _
    refine XS.aloadN X160.here hx rfl (hb hby d5_79) rfl rfl ?_
    show Steps p.tables e below (T160.setTop (mkF m 80 #[.val (.ref a1), .val (.long q2), .second, .val (.int p3)] [(.ref a1), (.ref t), (.ref d)])) _
    refine st161 _ ?_
    show Steps p.tables e below (T161.setTop (mkF m 83 #[.val (.ref a1), .val (.long q2), .second, .val (.int p3)] [(.int (0 : Int32)), (.ref t), (.ref d)])) _
    refine XS.lloadN X161.here hx rfl (hb hby d5_83) rfl ?_
    show Steps p.tables e below (T161.setTop (mkF m 84 #[.val (.ref a1), .val (.long q2), .second, .val (.int p3)] [(.long q2), (.int (0 : Int32)), (.ref t), (.ref d)])) _
    refine XS.iloadN X161.here hx rfl (hb hby d5_84) rfl ?_
    show Steps p.tables e below (T161.setTop (mkF m 85 #[.val (.ref a1), .val (.long q2), .second, .val (.int p3)] [(.int p3), (.long q2), (.int (0 : Int32)), (.ref t), (.ref d)])) _
    refine st162 _ ?_
    show Steps p.tables e below (T162.setTop (mkF m 88 #[.val (.ref a1), .val (.long q2), .second, .val (.int p3)] [])) _
    refine XS.aloadN X162.here hx rfl (hb hby d5_88) rfl rfl ?_
    show Steps p.tables e below (T162.setTop (mkF m 89 #[.val (.ref a1), .val (.long q2), .second, .val (.int p3)] [(.ref a1)])) _
    refine XS.dup X162.here hx rfl (hb hby d5_89) rfl rfl ?_
    show Steps p.tables e below (T162.setTop (mkF m 90 #[.val (.ref a1), .val (.long q2), .second, .val (.int p3)] [(.ref a1), (.ref a1)])) _
    refine st173 _ ?_
    show Steps p.tables e below (T173.setTop (mkF m 93 #[.val (.ref a1), .val (.long q2), .second, .val (.int p3)] [(.int (0 : Int32)), (.ref a1)])) _
    refine XS.iconst X173.here hx rfl (hb hby d5_93) ?_
    show Steps p.tables e below (T173.setTop (mkF m 94 #[.val (.ref a1), .val (.long q2), .second, .val (.int p3)] [(.int (1 : Int32)), (.int (0 : Int32)), (.ref a1)])) _
    refine XS.iadd X173.here hx rfl (hb hby d5_94) rfl ?_
    show Steps p.tables e below (T173.setTop (mkF m 95 #[.val (.ref a1), .val (.long q2), .second, .val (.int p3)] [(.int ((0 : Int32) + (1 : Int32))), (.ref a1)])) _
    rw [cf174]
    show Steps p.tables e below (T173.setTop (mkF m 95 #[.val (.ref a1), .val (.long q2), .second, .val (.int p3)] [(.int (1 : Int32)), (.ref a1)])) _
    refine st175 _ ?_
    show Steps p.tables e below (T175.setTop (mkF m 98 #[.val (.ref a1), .val (.long q2), .second, .val (.int p3)] [])) _
    refine XS.aloadN X175.here hx rfl (hb hby d5_98) rfl rfl ?_
    show Steps p.tables e below (T175.setTop (mkF m 99 #[.val (.ref a1), .val (.long q2), .second, .val (.int p3)] [(.ref a1)])) _
    refine XS.iconst X175.here hx rfl (hb hby d5_99) ?_
    show Steps p.tables e below (T175.setTop (mkF m 100 #[.val (.ref a1), .val (.long q2), .second, .val (.int p3)] [(.int (0 : Int32)), (.ref a1)])) _
    refine st188 _ ?_
    show Steps p.tables e below (T188.setTop (mkF m 103 #[.val (.ref a1), .val (.long q2), .second, .val (.int p3)] [])) _
    exact X188.returnOut hx Bd.returns (hb hby d5_103) hr
  · show Q5z Z a1 q2 p3 d t kd kt so h0 n0 _ T188.heap _
    rw [e188]
    exact ⟨b111, b135, rfl, N188, K188, sz_b111, sz_b135, ne_b111_b135, f191, f192, f199, f200, f194, f196, f197, f198⟩
theorem ef_5n (m : MethodId) (x0 : Addr) (x1 : Int64) (x2 : Int32) : entryFrame m #[(.ref x0), (.long x1), (.int x2)] 4 = mkF m 0 #[.val (.ref x0), .val (.long x1), .second, .val (.int x2)] [] := by first | (simp [entryFrame, mkF, argsToLocals, Value.category]; done) | rfl
def Q5n (Z : State) (a1 : Addr) (q2 : Int64) (p3 : Int32) (d : Addr) (t : Addr) (kd : ClassId) (kt : ClassId) (so : Int32) (dd : Addr) (tt : Addr) (g : Nat → Option Int32) (w : Int32) (w1 : Int32) (h0 : Heap) (n0 : Nat) (v : Option Value) (h : Heap) (L : List Loc) : Prop := v = none ∧ Fr n0 L ∧ (Keep h0 h [a1, dd, tt]) ∧ (Fld Z h a1 "holdfast/CountedIds$Batch" "digests" "[[J" (.ref d)) ∧ (Fld Z h a1 "holdfast/CountedIds$Batch" "tags" "[[I" (.ref t)) ∧ (Fld Z h a1 "holdfast/CountedIds$Batch" "size" "I" (.int w1)) ∧ (Fld Z h a1 "holdfast/CountedIds$Batch" "sorted" "Z" (.int (0 : Int32))) ∧ (OwnLng Z h dd) ∧ (OwnTg Z h tt (own_up g w p3))
set_option maxRecDepth 65536 in
set_option maxHeartbeats 40000000 in
theorem rm5n (l : Launch) (Z : State) (a0 : Array Value) (hw : ∀ d ∈ tables_1, d.before a0 Z = true) (ws : List Jvm.Cond) (a1 : Addr) (q2 : Int64) (p3 : Int32) (d : Addr) (t : Addr) (kd : ClassId) (kt : ClassId) (so : Int32) (dd : Addr) (tt : Addr) (g : Nat → Option Int32) (w : Int32) (w1 : Int32) (h0 : Heap) (n0 : Nat) (Z0 : n0 ≤ h0.size) (O0 : Old Z n0 h0) (SC : Sta Z Z.heap "holdfast/CountedIds$Batch" "CHUNK_BITS" "I" (.int (14 : Int32))) (E1 : Exa Z h0 a1 "holdfast/CountedIds$Batch") (g1 : n0 ≤ a1) (g2 : n0 ≤ d) (g3 : n0 ≤ t) (n1 : a1 ≠ d) (n2 : a1 ≠ t) (n3 : d ≠ t) (F1 : Fld Z h0 a1 "holdfast/CountedIds$Batch" "digests" "[[J" (.ref d)) (F2 : Fld Z h0 a1 "holdfast/CountedIds$Batch" "tags" "[[I" (.ref t)) (F3 : Fld Z h0 a1 "holdfast/CountedIds$Batch" "size" "I" (.int w)) (F4 : Fld Z h0 a1 "holdfast/CountedIds$Batch" "sorted" "Z" (.int so)) (V1 : Arv Z h0 d kd (.array .long) (64 : Int32) [(.ref dd)] .null) (V2 : Arv Z h0 t kt (.array .int) (64 : Int32) [(.ref tt)] .null) (L1 : OwnLng Z h0 dd) (T1 : OwnTg Z h0 tt g) (m1 : dd ≠ tt) (m2 : t ≠ dd) (m3 : d ≠ dd) (m4 : d ≠ tt) (m5 : t ≠ tt) (m6 : a1 ≠ dd) (m7 : a1 ≠ tt) (g4 : n0 ≤ dd) (g5 : n0 ≤ tt) (hs : ((w.toUInt32 >>> ((14 : Int32) &&& 31).toUInt32).toInt32) = (0 : Int32)) (hm : (w &&& (16383 : Int32)) = w) (hbd : ¬ w < (0 : Int32) ∧ w < (16384 : Int32)) (hne : ¬ (w = (1048576 : Int32))) (hw1 : (w + (1 : Int32)) = w1) :
    MetFree l (⟨"holdfast/CountedIds$Batch", "add", "(JI)V"⟩ : MethodName) (head1 (Jvm.Cond.code (⟨"holdfast/CountedIds$Batch", "add", "(JI)V"⟩ : MethodName) prog_10_method_2_code 4 none :: ws) ({ frames := 1, cells := 0, slots := 0, locals := 17 } : Room)) (fun a U => a = #[(.ref a1), (.long q2), (.int p3)] ∧ Z.Warmed39 U.vm ∧ U.heap = h0) (fun _ _ _ _ _ => True) (fun _ U o U' => ∃ v L, o = .returned v ∧ Q5n Z a1 q2 p3 d t kd kt so dd tt g w w1 h0 n0 v U'.heap L ∧ FrameEnd U o U' L ({ frames := 1, cells := 0, slots := 0, locals := 17 } : Room).cells ({ frames := 1, cells := 0, slots := 0, locals := 17 } : Room).slots) := by
  refine MetFree.of_bodySF (plainFor_of_name pn_0) hisR ?_
  intro p e s m args below meth c s₁ Bd hml0 hP hK
  obtain ⟨rfl, hZ0, hh⟩ := hP
  have hx := Bd.exec
  have hby := Bd.bytes
  have hml : c.maxLocals = 4 := hml0
  have hown0 : s.vm.findClass "holdfast/CountedIds$Batch" = some m.cls := findClass_of_methodNamed Bd.named
  have hnm := (name_of_methodNamed Bd.named Bd.method).1
  have hlk : meth.locks = false := by first | exact BodyLoose.notSynchronized Bd | exact Body.notSynchronized Bd
  have X0 : Stand p l e ({ frames := 1, cells := 0, slots := 0, locals := 17 } : Room) s m #[(.ref a1), (.long q2), (.int p3)] below meth c s₁ [] 0 0 := Stand.of_body Bd
  have e0 : s₁.heap = h0 := by rw [← hh, Bd.state]; rfl
  have N0 := Fr.nil n0
  have pre0 : ∀ t, Steps p.tables e below (s₁.setTop (mkF m 0 #[.val (.ref a1), .val (.long q2), .second, .val (.int p3)] [])) t → Steps p.tables e below (s₁.setTop (entryFrame m #[(.ref a1), (.long q2), (.int p3)] 4)) t := fun t k => castTop (ef_5n m a1 q2 p3) k
  obtain ⟨T101, X101, e101, st101⟩ := getF X0 hx hZ0 hown0 (host := "") (Or.inl (hw _ (List.mem_of_getElem? (i := 28) rfl))) Via.refl e0 F3 (g := (mkF m 1 #[.val (.ref a1), .val (.long q2), .second, .val (.int p3)] [(.ref a1)])) rfl rfl (hb hby d5_1)
  obtain ⟨T102, X102, e102, st102⟩ := getF X101 hx hZ0 hown0 (host := "") (Or.inl (hw _ (List.mem_of_getElem? (i := 11) rfl))) Via.refl e101 F1 (g := (mkF m 20 #[.val (.ref a1), .val (.long q2), .second, .val (.int p3)] [(.ref a1)])) rfl rfl (hb hby d5_20)
  obtain ⟨T103, X103, e103, st103⟩ := getF X102 hx hZ0 hown0 (host := "") (Or.inl (hw _ (List.mem_of_getElem? (i := 28) rfl))) Via.refl e102 F3 (g := (mkF m 24 #[.val (.ref a1), .val (.long q2), .second, .val (.int p3)] [(.ref a1), (.ref d)])) rfl rfl (hb hby d5_24)
  obtain ⟨T104, X104, e104, st104⟩ := getS2 X103 hx hZ0 hown0 (host := "") (Or.inl (hw _ (List.mem_of_getElem? (i := 41) rfl))) Via.refl e103 (Sta.ext O0.2 SC) (g := (mkF m 27 #[.val (.ref a1), .val (.long q2), .second, .val (.int p3)] [(.int w), (.ref d)])) rfl (hb hby d5_27)
  obtain ⟨cl105, Ar105, -, Sz105, -, Hs105, -⟩ := (id V1)
  have hin105 : ¬ ((0 : Int32) < 0 ∨ cl105.slots.size ≤ (0 : Int32).toNatClampNeg) := inb_of Sz105 ⟨by decide, by decide⟩
  obtain ⟨T106, X106, e106, st106⟩ := getF X104 hx hZ0 hown0 (host := "") (Or.inl (hw _ (List.mem_of_getElem? (i := 11) rfl))) Via.refl e104 F1 (g := (mkF m 72 #[.val (.ref a1), .val (.long q2), .second, .val (.int p3)] [(.ref a1)])) rfl rfl (hb hby d5_72)
  obtain ⟨T107, X107, e107, st107⟩ := getF X106 hx hZ0 hown0 (host := "") (Or.inl (hw _ (List.mem_of_getElem? (i := 15) rfl))) Via.refl e106 F2 (g := (mkF m 76 #[.val (.ref a1), .val (.long q2), .second, .val (.int p3)] [(.ref a1), (.ref d)])) rfl rfl (hb hby d5_76)
  obtain ⟨T108, X108, e108, st108⟩ := getF X107 hx hZ0 hown0 (host := "") (Or.inl (hw _ (List.mem_of_getElem? (i := 28) rfl))) Via.refl e107 F3 (g := (mkF m 80 #[.val (.ref a1), .val (.long q2), .second, .val (.int p3)] [(.ref a1), (.ref t), (.ref d)])) rfl rfl (hb hby d5_80)
  obtain ⟨_, _, ⟨T109, L109, k109, n109⟩, -, X109, ⟨Lc109, hQ109, l109, y109, z109⟩, st109⟩ := Jvm.LawKit.callS X108 hx (y := (⟨"holdfast/CountedIds$Batch", "set", "([[J[[IIJI)V"⟩ : MethodName)) hown0 (mvT hZ0 (hw _ (List.mem_of_getElem? (i := 47) rfl))) (mvT hZ0 (hw _ (List.mem_of_getElem? (i := 48) rfl))) (mvT hZ0 (hw _ (List.mem_of_getElem? (i := 2) rfl))) (mvT hZ0 (hw _ (List.mem_of_getElem? (i := 49) rfl))) (by decide) (backOf (W := 0) (rm6 l Z a0 hw [] d t w q2 p3 dd tt kd kt g h0 n0 Z0 O0 SC V1 V2 L1 T1 m1 m2 m3 m4 m5 g4 g5 hs hm hbd) hZ0 (hw _ (List.mem_of_getElem? (i := 49) rfl)) (hw _ (List.mem_of_getElem? (i := 2) rfl)) (by decide) (by decide)) (g := (mkF m 85 #[.val (.ref a1), .val (.long q2), .second, .val (.int p3)] [(.int p3), (.long q2), (.int w), (.ref t), (.ref d)])) rfl (by rw [hml]; rfl) (argsL := [(.ref d), (.ref t), (.int w), (.long q2), (.int p3)]) (rest := []) (lenOf pd_0 rfl) rfl (by show 2 * 0 + _ ≤ _; exact Nat.le_of_eq rfl) (hb hby d5_85) (fun _ _ => ⟨rfl, e108, (by decide : 0 + 0 ≤ _), (by decide : 0 + 0 ≤ _)⟩)
  dsimp only [Pt.U, Pt.locs, Pt.cells, Pt.slots] at X109 l109 y109 z109 st109 hQ109
  subst l109 y109 z109
  obtain ⟨rfl, N109q, P109_0, P109_1, P109_2⟩ := hQ109
  have N109 := Fr.app N0 N109q
  have f110 : Old Z n0 T109.heap := O0.keep P109_0 (allS g4 (allS g5 all0))
  have f111 : Exa Z T109.heap a1 "holdfast/CountedIds$Batch" := E1.keep P109_0
  have f112 : Fld Z T109.heap a1 "holdfast/CountedIds$Batch" "digests" "[[J" (.ref d) := F1.keep P109_0 (ninS m6 (ninS m7 nin0))
  have f113 : Fld Z T109.heap a1 "holdfast/CountedIds$Batch" "tags" "[[I" (.ref t) := F2.keep P109_0 (ninS m6 (ninS m7 nin0))
  have f114 : Fld Z T109.heap a1 "holdfast/CountedIds$Batch" "size" "I" (.int w) := F3.keep P109_0 (ninS m6 (ninS m7 nin0))
  have f115 : Fld Z T109.heap a1 "holdfast/CountedIds$Batch" "sorted" "Z" (.int so) := F4.keep P109_0 (ninS m6 (ninS m7 nin0))
  have f116 : Arv Z T109.heap d kd (.array .long) (64 : Int32) [(.ref dd)] .null := V1.keep P109_0 (ninS m3 (ninS m4 nin0))
  have f117 : Arv Z T109.heap t kt (.array .int) (64 : Int32) [(.ref tt)] .null := V2.keep P109_0 (ninS m2 (ninS m5 nin0))
  have Zs109 : n0 ≤ T109.heap.size := Nat.le_trans Z0 P109_0.1
  have K109 : Keep h0 T109.heap [a1, dd, tt] := (Keep.refl h0 [a1, dd, tt]).trans P109_0 (allS (Or.inl (List.mem_of_getElem? (i := 1) rfl)) (allS (Or.inl (List.mem_of_getElem? (i := 2) rfl)) all0))
  obtain ⟨T118, X118, e118, st118⟩ := getF X109 hx hZ0 hown0 (host := "") (Or.inl (hw _ (List.mem_of_getElem? (i := 28) rfl))) Via.refl rfl f114 (g := (mkF m 90 #[.val (.ref a1), .val (.long q2), .second, .val (.int p3)] [(.ref a1), (.ref a1)])) rfl rfl (hb hby d5_90)
  obtain ⟨T119, h119, X119, e119, W119, st119⟩ := putF X118 hx hZ0 hown0 (host := "") (Or.inl (hw _ (List.mem_of_getElem? (i := 28) rfl))) Via.refl e118 f114 f111 (Or.inl (hw _ (List.mem_of_getElem? (i := 29) rfl))) (hw _ (List.mem_of_getElem? (i := 1) rfl)) (ty := .int) (by decide) rfl rfl (g := (mkF m 95 #[.val (.ref a1), .val (.long q2), .second, .val (.int p3)] [(.int w1), (.ref a1)])) rfl rfl (hb hby d5_95)
  have f120 : Old Z n0 h119 := f110.wr W119 g1
  have f121 : Exa Z h119 a1 "holdfast/CountedIds$Batch" := Exa.wr W119 f111
  have f122 : Fld Z h119 a1 "holdfast/CountedIds$Batch" "digests" "[[J" (.ref d) := Fld.other W119 f112 (Or.inr (slot_ne (Or.inl (hw _ (List.mem_of_getElem? (i := 12) rfl))) (Or.inl (hw _ (List.mem_of_getElem? (i := 29) rfl))) (by decide) (t := (.array (.array .long))) (t' := .int) (by decide) (by decide)))
  have f123 : Fld Z h119 a1 "holdfast/CountedIds$Batch" "tags" "[[I" (.ref t) := Fld.other W119 f113 (Or.inr (slot_ne (Or.inl (hw _ (List.mem_of_getElem? (i := 16) rfl))) (Or.inl (hw _ (List.mem_of_getElem? (i := 29) rfl))) (by decide) (t := (.array (.array .int))) (t' := .int) (by decide) (by decide)))
  have f124 : Fld Z h119 a1 "holdfast/CountedIds$Batch" "sorted" "Z" (.int so) := Fld.other W119 f115 (Or.inr (slot_ne (Or.inl (hw _ (List.mem_of_getElem? (i := 22) rfl))) (Or.inl (hw _ (List.mem_of_getElem? (i := 29) rfl))) (by decide) (t := .boolean) (t' := .int) (by decide) (by decide)))
  have f125 : Arv Z h119 d kd (.array .long) (64 : Int32) [(.ref dd)] .null := f116.other W119 (Ne.symm n1)
  have f126 : Arv Z h119 t kt (.array .int) (64 : Int32) [(.ref tt)] .null := f117.other W119 (Ne.symm n2)
  have f127 : OwnLng Z h119 dd := OwnLng.other P109_1 W119 (Ne.symm m6)
  have f128 : OwnTg Z h119 tt (own_up g w p3) := OwnTg.other P109_2 W119 (Ne.symm m7)
  have f129 : Fld Z h119 a1 "holdfast/CountedIds$Batch" "size" "I" (.int w1) := f114.same W119
  have Zs119 : n0 ≤ h119.size := Nat.le_trans Zs109 (Keep.of_wr W119).1
  have N119 := Fr.snoc X119 N109 g1
  have K119 : Keep h0 h119 [a1, dd, tt] := K109.wr W119 (Or.inl (List.mem_of_getElem? (i := 0) rfl))
  obtain ⟨T130, h130, X130, e130, W130, st130⟩ := putFN X119 hx hZ0 hown0 (hw _ (List.mem_of_getElem? (i := 21) rfl)) Via.refl e119 f124 f121 (Or.inl (hw _ (List.mem_of_getElem? (i := 22) rfl))) (hw _ (List.mem_of_getElem? (i := 1) rfl)) (ty := .boolean) (v' := (.int (0 : Int32))) (by decide) rfl (by decide) (g := (mkF m 100 #[.val (.ref a1), .val (.long q2), .second, .val (.int p3)] [(.int (0 : Int32)), (.ref a1)])) rfl rfl (hb hby d5_100)
  have f131 : Old Z n0 h130 := f120.wr W130 g1
  have f132 : Exa Z h130 a1 "holdfast/CountedIds$Batch" := Exa.wr W130 f121
  have f133 : Fld Z h130 a1 "holdfast/CountedIds$Batch" "digests" "[[J" (.ref d) := Fld.other W130 f122 (Or.inr (slot_ne (Or.inl (hw _ (List.mem_of_getElem? (i := 12) rfl))) (Or.inl (hw _ (List.mem_of_getElem? (i := 22) rfl))) (by decide) (t := (.array (.array .long))) (t' := .boolean) (by decide) (by decide)))
  have f134 : Fld Z h130 a1 "holdfast/CountedIds$Batch" "tags" "[[I" (.ref t) := Fld.other W130 f123 (Or.inr (slot_ne (Or.inl (hw _ (List.mem_of_getElem? (i := 16) rfl))) (Or.inl (hw _ (List.mem_of_getElem? (i := 22) rfl))) (by decide) (t := (.array (.array .int))) (t' := .boolean) (by decide) (by decide)))
  have f135 : Arv Z h130 d kd (.array .long) (64 : Int32) [(.ref dd)] .null := f125.other W130 (Ne.symm n1)
  have f136 : Arv Z h130 t kt (.array .int) (64 : Int32) [(.ref tt)] .null := f126.other W130 (Ne.symm n2)
  have f137 : OwnLng Z h130 dd := OwnLng.other f127 W130 (Ne.symm m6)
  have f138 : OwnTg Z h130 tt (own_up g w p3) := OwnTg.other f128 W130 (Ne.symm m7)
  have f139 : Fld Z h130 a1 "holdfast/CountedIds$Batch" "size" "I" (.int w1) := Fld.other W130 f129 (Or.inr (slot_ne (Or.inl (hw _ (List.mem_of_getElem? (i := 29) rfl))) (Or.inl (hw _ (List.mem_of_getElem? (i := 22) rfl))) (by decide) (t := .int) (t' := .boolean) (by decide) (by decide)))
  have f140 : Fld Z h130 a1 "holdfast/CountedIds$Batch" "sorted" "Z" (.int (0 : Int32)) := f124.same W130
  have Zs130 : n0 ≤ h130.size := Nat.le_trans Zs119 (Keep.of_wr W130).1
  have N130 := Fr.snoc X130 N119 g1
  have K130 : Keep h0 h130 [a1, dd, tt] := K119.wr W130 (Or.inl (List.mem_of_getElem? (i := 0) rfl))
  obtain ⟨fs, hr, hrun, hended, hW, hsame⟩ := X130.leave (v := none) (fun _ => rfl) hlk
  refine ⟨_, _, pre0 _ ?_, hrun, hended, _, _, rfl, ?_, ⟨_, rfl⟩, hW, hsame.mono (by decide) (by decide)⟩
  · show Steps p.tables e below (s₁.setTop (mkF m 0 #[.val (.ref a1), .val (.long q2), .second, .val (.int p3)] [])) _
    refine XS.aloadN X0.here hx rfl (hb hby d5_0) rfl rfl ?_
    show Steps p.tables e below (s₁.setTop (mkF m 1 #[.val (.ref a1), .val (.long q2), .second, .val (.int p3)] [(.ref a1)])) _
    refine st101 _ ?_
    show Steps p.tables e below (T101.setTop (mkF m 4 #[.val (.ref a1), .val (.long q2), .second, .val (.int p3)] [(.int w)])) _
    refine X101.ldcI hx hown0 (mvT hZ0 (hw _ (List.mem_of_getElem? (i := 30) rfl))) (g := (mkF m 4 #[.val (.ref a1), .val (.long q2), .second, .val (.int p3)] [(.int w)])) rfl (hb hby d5_4) ?_
    show Steps p.tables e below (T101.setTop (mkF m 6 #[.val (.ref a1), .val (.long q2), .second, .val (.int p3)] [(.int (1048576 : Int32)), (.int w)])) _
    refine XS.icmpYes X101.here hx rfl (pc0 := 6) (pc' := 19) rfl (hb hby d5_6) rfl (feq hne).2 (by decide) (by decide) ?_
    show Steps p.tables e below (T101.setTop (mkF m 19 #[.val (.ref a1), .val (.long q2), .second, .val (.int p3)] [])) _
    refine XS.aloadN X101.here hx rfl (hb hby d5_19) rfl rfl ?_
    show Steps p.tables e below (T101.setTop (mkF m 20 #[.val (.ref a1), .val (.long q2), .second, .val (.int p3)] [(.ref a1)])) _
    refine st102 _ ?_
    show Steps p.tables e below (T102.setTop (mkF m 23 #[.val (.ref a1), .val (.long q2), .second, .val (.int p3)] [(.ref d)])) _
    refine XS.aloadN X102.here hx rfl (hb hby d5_23) rfl rfl ?_
    show Steps p.tables e below (T102.setTop (mkF m 24 #[.val (.ref a1), .val (.long q2), .second, .val (.int p3)] [(.ref a1), (.ref d)])) _
    refine st103 _ ?_
    show Steps p.tables e below (T103.setTop (mkF m 27 #[.val (.ref a1), .val (.long q2), .second, .val (.int p3)] [(.int w), (.ref d)])) _
    refine st104 _ ?_
    show Steps p.tables e below (T104.setTop (mkF m 30 #[.val (.ref a1), .val (.long q2), .second, .val (.int p3)] [(.int (14 : Int32)), (.int w), (.ref d)])) _
    refine XS.iushr X104.here hx rfl (hb hby d5_30) rfl ?_
    show Steps p.tables e below (T104.setTop (mkF m 31 #[.val (.ref a1), .val (.long q2), .second, .val (.int p3)] [(.int ((w.toUInt32 >>> ((14 : Int32) &&& 31).toUInt32).toInt32)), (.ref d)])) _
    rw [hs]
    show Steps p.tables e below (T104.setTop (mkF m 31 #[.val (.ref a1), .val (.long q2), .second, .val (.int p3)] [(.int (0 : Int32)), (.ref d)])) _
    refine X104.aaload hx (j := (0 : Int32)) (v := (.ref dd)) (by rw [e104]; exact Ar105.1) (State.isArrayOf_alike hZ0.alike Ar105.2.1) rfl Ar105.2.2 hin105 (Has.at Hs105 hin105 rfl) (g := (mkF m 31 #[.val (.ref a1), .val (.long q2), .second, .val (.int p3)] [(.int (0 : Int32)), (.ref d)])) rfl rfl (hb hby d5_31) _ ?_
    show Steps p.tables e below (T104.setTop (mkF m 32 #[.val (.ref a1), .val (.long q2), .second, .val (.int p3)] [(.ref dd)])) _
    refine XS.ifnonnullYes X104.here hx rfl (pc0 := 32) (pc' := 71) rfl (hb hby d5_32) rfl (by decide) (by decide) ?_
    show Steps p.tables e below (T104.setTop (mkF m 71 #[.val (.ref a1), .val (.long q2), .second, .val (.int p3)] [])) _
    refine XS.aloadN X104.here hx rfl (hb hby d5_71) rfl rfl ?_
    show Steps p.tables e below (T104.setTop (mkF m 72 #[.val (.ref a1), .val (.long q2), .second, .val (.int p3)] [(.ref a1)])) _
    refine st106 _ ?_
    show Steps p.tables e below (T106.setTop (mkF m 75 #[.val (.ref a1), .val (.long q2), .second, .val (.int p3)] [(.ref d)])) _
    refine XS.aloadN X106.here hx rfl (hb hby d5_75) rfl rfl ?_
    show Steps p.tables e below (T106.setTop (mkF m 76 #[.val (.ref a1), .val (.long q2), .second, .val (.int p3)] [(.ref a1), (.ref d)])) _
    refine st107 _ ?_
    show Steps p.tables e below (T107.setTop (mkF m 79 #[.val (.ref a1), .val (.long q2), .second, .val (.int p3)] [(.ref t), (.ref d)])) _
    refine XS.aloadN X107.here hx rfl (hb hby d5_79) rfl rfl ?_
    show Steps p.tables e below (T107.setTop (mkF m 80 #[.val (.ref a1), .val (.long q2), .second, .val (.int p3)] [(.ref a1), (.ref t), (.ref d)])) _
    refine st108 _ ?_
    show Steps p.tables e below (T108.setTop (mkF m 83 #[.val (.ref a1), .val (.long q2), .second, .val (.int p3)] [(.int w), (.ref t), (.ref d)])) _
    refine XS.lloadN X108.here hx rfl (hb hby d5_83) rfl ?_
    show Steps p.tables e below (T108.setTop (mkF m 84 #[.val (.ref a1), .val (.long q2), .second, .val (.int p3)] [(.long q2), (.int w), (.ref t), (.ref d)])) _
    refine XS.iloadN X108.here hx rfl (hb hby d5_84) rfl ?_
    show Steps p.tables e below (T108.setTop (mkF m 85 #[.val (.ref a1), .val (.long q2), .second, .val (.int p3)] [(.int p3), (.long q2), (.int w), (.ref t), (.ref d)])) _
    refine st109 _ ?_
    show Steps p.tables e below (T109.setTop (mkF m 88 #[.val (.ref a1), .val (.long q2), .second, .val (.int p3)] [])) _
    refine XS.aloadN X109.here hx rfl (hb hby d5_88) rfl rfl ?_
    show Steps p.tables e below (T109.setTop (mkF m 89 #[.val (.ref a1), .val (.long q2), .second, .val (.int p3)] [(.ref a1)])) _
    refine XS.dup X109.here hx rfl (hb hby d5_89) rfl rfl ?_
    show Steps p.tables e below (T109.setTop (mkF m 90 #[.val (.ref a1), .val (.long q2), .second, .val (.int p3)] [(.ref a1), (.ref a1)])) _
    refine st118 _ ?_
    show Steps p.tables e below (T118.setTop (mkF m 93 #[.val (.ref a1), .val (.long q2), .second, .val (.int p3)] [(.int w), (.ref a1)])) _
    refine XS.iconst X118.here hx rfl (hb hby d5_93) ?_
    show Steps p.tables e below (T118.setTop (mkF m 94 #[.val (.ref a1), .val (.long q2), .second, .val (.int p3)] [(.int (1 : Int32)), (.int w), (.ref a1)])) _
    refine XS.iadd X118.here hx rfl (hb hby d5_94) rfl ?_
    show Steps p.tables e below (T118.setTop (mkF m 95 #[.val (.ref a1), .val (.long q2), .second, .val (.int p3)] [(.int (w + (1 : Int32))), (.ref a1)])) _
    rw [hw1]
    show Steps p.tables e below (T118.setTop (mkF m 95 #[.val (.ref a1), .val (.long q2), .second, .val (.int p3)] [(.int w1), (.ref a1)])) _
    refine st119 _ ?_
    show Steps p.tables e below (T119.setTop (mkF m 98 #[.val (.ref a1), .val (.long q2), .second, .val (.int p3)] [])) _
    refine XS.aloadN X119.here hx rfl (hb hby d5_98) rfl rfl ?_
    show Steps p.tables e below (T119.setTop (mkF m 99 #[.val (.ref a1), .val (.long q2), .second, .val (.int p3)] [(.ref a1)])) _
    refine XS.iconst X119.here hx rfl (hb hby d5_99) ?_
    show Steps p.tables e below (T119.setTop (mkF m 100 #[.val (.ref a1), .val (.long q2), .second, .val (.int p3)] [(.int (0 : Int32)), (.ref a1)])) _
    refine st130 _ ?_
    show Steps p.tables e below (T130.setTop (mkF m 103 #[.val (.ref a1), .val (.long q2), .second, .val (.int p3)] [])) _
    exact X130.returnOut hx Bd.returns (hb hby d5_103) hr
  · show Q5n Z a1 q2 p3 d t kd kt so dd tt g w w1 h0 n0 _ T130.heap _
    rw [e130]
    exact ⟨rfl, N130, K130, f133, f134, f139, f140, f137, f138⟩
theorem ef_7 (m : MethodId) (x0 : Addr) : entryFrame m #[(.ref x0)] 1 = mkF m 0 #[.val (.ref x0)] [] := by first | (simp [entryFrame, mkF, argsToLocals, Value.category]; done) | rfl
theorem d7_0 : decode prog_10_method_6_code 0 = .ok (.aload_n 0, 1) := by decide +kernel
theorem d7_1 : decode prog_10_method_6_code 1 = .ok (.iconst 0, 1) := by decide +kernel
theorem d7_2 : decode prog_10_method_6_code 2 = .ok (.putfield 31, 3) := by decide +kernel
theorem d7_5 : decode prog_10_method_6_code 5 = .ok (.aload_n 0, 1) := by decide +kernel
theorem d7_6 : decode prog_10_method_6_code 6 = .ok (.iconst 1, 1) := by decide +kernel
theorem d7_7 : decode prog_10_method_6_code 7 = .ok (.putfield 27, 3) := by decide +kernel
theorem d7_10 : decode prog_10_method_6_code 10 = .ok (.return_, 1) := by decide +kernel
def Q7 (Z : State) (a1 : Addr) (d : Addr) (t : Addr) (so : Int32) (w : Int32) (h0 : Heap) (n0 : Nat) (v : Option Value) (h : Heap) (L : List Loc) : Prop := v = none ∧ Fr n0 L ∧ (Keep h0 h [a1]) ∧ (Fld Z h a1 "holdfast/CountedIds$Batch" "digests" "[[J" (.ref d)) ∧ (Fld Z h a1 "holdfast/CountedIds$Batch" "tags" "[[I" (.ref t)) ∧ (Fld Z h a1 "holdfast/CountedIds$Batch" "size" "I" (.int (0 : Int32))) ∧ (Fld Z h a1 "holdfast/CountedIds$Batch" "sorted" "Z" (.int (1 : Int32)))
set_option maxRecDepth 65536 in
set_option maxHeartbeats 40000000 in
theorem rm7 (l : Launch) (Z : State) (a0 : Array Value) (hw : ∀ d ∈ tables_1, d.before a0 Z = true) (ws : List Jvm.Cond) (a1 : Addr) (d : Addr) (t : Addr) (so : Int32) (w : Int32) (h0 : Heap) (n0 : Nat) (Z0 : n0 ≤ h0.size) (E1 : Exa Z h0 a1 "holdfast/CountedIds$Batch") (g1 : n0 ≤ a1) (F1 : Fld Z h0 a1 "holdfast/CountedIds$Batch" "digests" "[[J" (.ref d)) (F2 : Fld Z h0 a1 "holdfast/CountedIds$Batch" "tags" "[[I" (.ref t)) (F3 : Fld Z h0 a1 "holdfast/CountedIds$Batch" "size" "I" (.int w)) (F4 : Fld Z h0 a1 "holdfast/CountedIds$Batch" "sorted" "Z" (.int so)) :
    MetFree l (⟨"holdfast/CountedIds$Batch", "clear", "()V"⟩ : MethodName) (head1 (Jvm.Cond.code (⟨"holdfast/CountedIds$Batch", "clear", "()V"⟩ : MethodName) prog_10_method_6_code 1 none :: ws) ({ frames := 0, cells := 0, slots := 0, locals := 0 } : Room)) (fun a U => a = #[(.ref a1)] ∧ Z.Warmed39 U.vm ∧ U.heap = h0) (fun _ _ _ _ _ => True) (fun _ U o U' => ∃ v L, o = .returned v ∧ Q7 Z a1 d t so w h0 n0 v U'.heap L ∧ FrameEnd U o U' L ({ frames := 0, cells := 0, slots := 0, locals := 0 } : Room).cells ({ frames := 0, cells := 0, slots := 0, locals := 0 } : Room).slots) := by
  refine MetFree.of_bodySF (plainFor_of_name pn_0) hisR ?_
  intro p e s m args below meth c s₁ Bd hml0 hP hK
  obtain ⟨rfl, hZ0, hh⟩ := hP
  have hx := Bd.exec
  have hby := Bd.bytes
  have hml : c.maxLocals = 1 := hml0
  have hown0 : s.vm.findClass "holdfast/CountedIds$Batch" = some m.cls := findClass_of_methodNamed Bd.named
  have hnm := (name_of_methodNamed Bd.named Bd.method).1
  have hlk : meth.locks = false := by first | exact BodyLoose.notSynchronized Bd | exact Body.notSynchronized Bd
  have X0 : Stand p l e ({ frames := 0, cells := 0, slots := 0, locals := 0 } : Room) s m #[(.ref a1)] below meth c s₁ [] 0 0 := Stand.of_body Bd
  have e0 : s₁.heap = h0 := by rw [← hh, Bd.state]; rfl
  have N0 := Fr.nil n0
  have pre0 : ∀ t, Steps p.tables e below (s₁.setTop (mkF m 0 #[.val (.ref a1)] [])) t → Steps p.tables e below (s₁.setTop (entryFrame m #[(.ref a1)] 1)) t := fun t k => castTop (ef_7 m a1) k
  obtain ⟨T101, h101, X101, e101, W101, st101⟩ := putF X0 hx hZ0 hown0 (host := "") (Or.inl (hw _ (List.mem_of_getElem? (i := 28) rfl))) Via.refl e0 F3 E1 (Or.inl (hw _ (List.mem_of_getElem? (i := 29) rfl))) (hw _ (List.mem_of_getElem? (i := 1) rfl)) (ty := .int) (by decide) rfl rfl (g := (mkF m 2 #[.val (.ref a1)] [(.int (0 : Int32)), (.ref a1)])) rfl rfl (hb hby d7_2)
  have f102 : Exa Z h101 a1 "holdfast/CountedIds$Batch" := Exa.wr W101 E1
  have f103 : Fld Z h101 a1 "holdfast/CountedIds$Batch" "digests" "[[J" (.ref d) := Fld.other W101 F1 (Or.inr (slot_ne (Or.inl (hw _ (List.mem_of_getElem? (i := 12) rfl))) (Or.inl (hw _ (List.mem_of_getElem? (i := 29) rfl))) (by decide) (t := (.array (.array .long))) (t' := .int) (by decide) (by decide)))
  have f104 : Fld Z h101 a1 "holdfast/CountedIds$Batch" "tags" "[[I" (.ref t) := Fld.other W101 F2 (Or.inr (slot_ne (Or.inl (hw _ (List.mem_of_getElem? (i := 16) rfl))) (Or.inl (hw _ (List.mem_of_getElem? (i := 29) rfl))) (by decide) (t := (.array (.array .int))) (t' := .int) (by decide) (by decide)))
  have f105 : Fld Z h101 a1 "holdfast/CountedIds$Batch" "sorted" "Z" (.int so) := Fld.other W101 F4 (Or.inr (slot_ne (Or.inl (hw _ (List.mem_of_getElem? (i := 22) rfl))) (Or.inl (hw _ (List.mem_of_getElem? (i := 29) rfl))) (by decide) (t := .boolean) (t' := .int) (by decide) (by decide)))
  have f106 : Fld Z h101 a1 "holdfast/CountedIds$Batch" "size" "I" (.int (0 : Int32)) := F3.same W101
  have Zs101 : n0 ≤ h101.size := Nat.le_trans Z0 (Keep.of_wr W101).1
  have N101 := Fr.snoc X101 N0 g1
  have K101 : Keep h0 h101 [a1] := (Keep.refl h0 [a1]).wr W101 (Or.inl (List.mem_of_getElem? (i := 0) rfl))
  obtain ⟨T107, h107, X107, e107, W107, st107⟩ := putFN X101 hx hZ0 hown0 (hw _ (List.mem_of_getElem? (i := 21) rfl)) Via.refl e101 f105 f102 (Or.inl (hw _ (List.mem_of_getElem? (i := 22) rfl))) (hw _ (List.mem_of_getElem? (i := 1) rfl)) (ty := .boolean) (v' := (.int (1 : Int32))) (by decide) rfl (by decide) (g := (mkF m 7 #[.val (.ref a1)] [(.int (1 : Int32)), (.ref a1)])) rfl rfl (hb hby d7_7)
  have f108 : Exa Z h107 a1 "holdfast/CountedIds$Batch" := Exa.wr W107 f102
  have f109 : Fld Z h107 a1 "holdfast/CountedIds$Batch" "digests" "[[J" (.ref d) := Fld.other W107 f103 (Or.inr (slot_ne (Or.inl (hw _ (List.mem_of_getElem? (i := 12) rfl))) (Or.inl (hw _ (List.mem_of_getElem? (i := 22) rfl))) (by decide) (t := (.array (.array .long))) (t' := .boolean) (by decide) (by decide)))
  have f110 : Fld Z h107 a1 "holdfast/CountedIds$Batch" "tags" "[[I" (.ref t) := Fld.other W107 f104 (Or.inr (slot_ne (Or.inl (hw _ (List.mem_of_getElem? (i := 16) rfl))) (Or.inl (hw _ (List.mem_of_getElem? (i := 22) rfl))) (by decide) (t := (.array (.array .int))) (t' := .boolean) (by decide) (by decide)))
  have f111 : Fld Z h107 a1 "holdfast/CountedIds$Batch" "size" "I" (.int (0 : Int32)) := Fld.other W107 f106 (Or.inr (slot_ne (Or.inl (hw _ (List.mem_of_getElem? (i := 29) rfl))) (Or.inl (hw _ (List.mem_of_getElem? (i := 22) rfl))) (by decide) (t := .int) (t' := .boolean) (by decide) (by decide)))
  have f112 : Fld Z h107 a1 "holdfast/CountedIds$Batch" "sorted" "Z" (.int (1 : Int32)) := f105.same W107
  have Zs107 : n0 ≤ h107.size := Nat.le_trans Zs101 (Keep.of_wr W107).1
  have N107 := Fr.snoc X107 N101 g1
  have K107 : Keep h0 h107 [a1] := K101.wr W107 (Or.inl (List.mem_of_getElem? (i := 0) rfl))
  obtain ⟨fs, hr, hrun, hended, hW, hsame⟩ := X107.leave (v := none) (fun _ => rfl) hlk
  refine ⟨_, _, pre0 _ ?_, hrun, hended, _, _, rfl, ?_, ⟨_, rfl⟩, hW, hsame.mono (by decide) (by decide)⟩
  · show Steps p.tables e below (s₁.setTop (mkF m 0 #[.val (.ref a1)] [])) _
    refine XS.aloadN X0.here hx rfl (hb hby d7_0) rfl rfl ?_
    show Steps p.tables e below (s₁.setTop (mkF m 1 #[.val (.ref a1)] [(.ref a1)])) _
    refine XS.iconst X0.here hx rfl (hb hby d7_1) ?_
    show Steps p.tables e below (s₁.setTop (mkF m 2 #[.val (.ref a1)] [(.int (0 : Int32)), (.ref a1)])) _
    refine st101 _ ?_
    show Steps p.tables e below (T101.setTop (mkF m 5 #[.val (.ref a1)] [])) _
    refine XS.aloadN X101.here hx rfl (hb hby d7_5) rfl rfl ?_
    show Steps p.tables e below (T101.setTop (mkF m 6 #[.val (.ref a1)] [(.ref a1)])) _
    refine XS.iconst X101.here hx rfl (hb hby d7_6) ?_
    show Steps p.tables e below (T101.setTop (mkF m 7 #[.val (.ref a1)] [(.int (1 : Int32)), (.ref a1)])) _
    refine st107 _ ?_
    show Steps p.tables e below (T107.setTop (mkF m 10 #[.val (.ref a1)] [])) _
    exact X107.returnOut hx Bd.returns (hb hby d7_10) hr
  · show Q7 Z a1 d t so w h0 n0 _ T107.heap _
    rw [e107]
    exact ⟨rfl, N107, K107, f109, f110, f111, f112⟩
theorem ef_3 (m : MethodId) (x0 : Addr) : entryFrame m #[(.ref x0)] 1 = mkF m 0 #[.val (.ref x0)] [] := by first | (simp [entryFrame, mkF, argsToLocals, Value.category]; done) | rfl
theorem d3_0 : decode prog_10_method_3_code 0 = .ok (.aload_n 0, 1) := by decide +kernel
theorem d3_1 : decode prog_10_method_3_code 1 = .ok (.getfield 31, 3) := by decide +kernel
theorem d3_4 : decode prog_10_method_3_code 4 = .ok (.ldc 35, 2) := by decide +kernel
theorem d3_6 : decode prog_10_method_3_code 6 = .ok (.if_icmp .ne 7, 3) := by decide +kernel
theorem d3_13 : decode prog_10_method_3_code 13 = .ok (.iconst 0, 1) := by decide +kernel
theorem d3_14 : decode prog_10_method_3_code 14 = .ok (.ireturn, 1) := by decide +kernel
def Q3 (Z : State) (a1 : Addr) (w : Int32) (h0 : Heap) (n0 : Nat) (v : Option Value) (h : Heap) (L : List Loc) : Prop := v = some (.int (0 : Int32)) ∧ Fr n0 L ∧ (h = h0)
set_option maxRecDepth 65536 in
set_option maxHeartbeats 40000000 in
theorem rm3 (l : Launch) (Z : State) (a0 : Array Value) (hw : ∀ d ∈ tables_1, d.before a0 Z = true) (ws : List Jvm.Cond) (a1 : Addr) (w : Int32) (h0 : Heap) (n0 : Nat) (Z0 : n0 ≤ h0.size) (F3 : Fld Z h0 a1 "holdfast/CountedIds$Batch" "size" "I" (.int w)) (hne : ¬ (w = (1048576 : Int32))) :
    MetFree l (⟨"holdfast/CountedIds$Batch", "full", "()Z"⟩ : MethodName) (head1 (Jvm.Cond.code (⟨"holdfast/CountedIds$Batch", "full", "()Z"⟩ : MethodName) prog_10_method_3_code 1 (some .boolean) :: ws) ({ frames := 0, cells := 0, slots := 0, locals := 0 } : Room)) (fun a U => a = #[(.ref a1)] ∧ Z.Warmed39 U.vm ∧ U.heap = h0) (fun _ _ _ _ _ => True) (fun _ U o U' => ∃ v L, o = .returned v ∧ Q3 Z a1 w h0 n0 v U'.heap L ∧ FrameEnd U o U' L ({ frames := 0, cells := 0, slots := 0, locals := 0 } : Room).cells ({ frames := 0, cells := 0, slots := 0, locals := 0 } : Room).slots) := by
  refine MetFree.of_bodySF (plainFor_of_name pn_0) hisR ?_
  intro p e s m args below meth c s₁ Bd hml0 hP hK
  obtain ⟨rfl, hZ0, hh⟩ := hP
  have hx := Bd.exec
  have hby := Bd.bytes
  have hml : c.maxLocals = 1 := hml0
  have hown0 : s.vm.findClass "holdfast/CountedIds$Batch" = some m.cls := findClass_of_methodNamed Bd.named
  have hnm := (name_of_methodNamed Bd.named Bd.method).1
  have hlk : meth.locks = false := by first | exact BodyLoose.notSynchronized Bd | exact Body.notSynchronized Bd
  have X0 : Stand p l e ({ frames := 0, cells := 0, slots := 0, locals := 0 } : Room) s m #[(.ref a1)] below meth c s₁ [] 0 0 := Stand.of_body Bd
  have e0 : s₁.heap = h0 := by rw [← hh, Bd.state]; rfl
  have N0 := Fr.nil n0
  have pre0 : ∀ t, Steps p.tables e below (s₁.setTop (mkF m 0 #[.val (.ref a1)] [])) t → Steps p.tables e below (s₁.setTop (entryFrame m #[(.ref a1)] 1)) t := fun t k => castTop (ef_3 m a1) k
  obtain ⟨T101, X101, e101, st101⟩ := getF X0 hx hZ0 hown0 (host := "") (Or.inl (hw _ (List.mem_of_getElem? (i := 28) rfl))) Via.refl e0 F3 (g := (mkF m 1 #[.val (.ref a1)] [(.ref a1)])) rfl rfl (hb hby d3_1)
  obtain ⟨fs, hr, hrun, hended, hW, hsame⟩ := X101.leave (v := some (.int (0 : Int32))) (fun h => by rw [Bd.returns] at h; cases h) hlk
  refine ⟨_, _, pre0 _ ?_, hrun, hended, _, _, rfl, ?_, ⟨_, rfl⟩, hW, hsame.mono (by decide) (by decide)⟩
  · show Steps p.tables e below (s₁.setTop (mkF m 0 #[.val (.ref a1)] [])) _
    refine XS.aloadN X0.here hx rfl (hb hby d3_0) rfl rfl ?_
    show Steps p.tables e below (s₁.setTop (mkF m 1 #[.val (.ref a1)] [(.ref a1)])) _
    refine st101 _ ?_
    show Steps p.tables e below (T101.setTop (mkF m 4 #[.val (.ref a1)] [(.int w)])) _
    refine X101.ldcI hx hown0 (mvT hZ0 (hw _ (List.mem_of_getElem? (i := 30) rfl))) (g := (mkF m 4 #[.val (.ref a1)] [(.int w)])) rfl (hb hby d3_4) ?_
    show Steps p.tables e below (T101.setTop (mkF m 6 #[.val (.ref a1)] [(.int (1048576 : Int32)), (.int w)])) _
    refine XS.icmpYes X101.here hx rfl (pc0 := 6) (pc' := 13) rfl (hb hby d3_6) rfl (feq hne).2 (by decide) (by decide) ?_
    show Steps p.tables e below (T101.setTop (mkF m 13 #[.val (.ref a1)] [])) _
    refine XS.iconst X101.here hx rfl (hb hby d3_13) ?_
    show Steps p.tables e below (T101.setTop (mkF m 14 #[.val (.ref a1)] [(.int (0 : Int32))])) _
    exact retN X101 hx (t := .boolean) Bd.returns (by simp) (hb hby d3_14) hr
  · show Q3 Z a1 w h0 n0 _ T101.heap _
    rw [e101]
    exact ⟨rfl, N0, rfl⟩
theorem ef_4 (m : MethodId) (x0 : Addr) : entryFrame m #[(.ref x0)] 1 = mkF m 0 #[.val (.ref x0)] [] := by first | (simp [entryFrame, mkF, argsToLocals, Value.category]; done) | rfl
theorem d4_0 : decode prog_10_method_4_code 0 = .ok (.aload_n 0, 1) := by decide +kernel
theorem d4_1 : decode prog_10_method_4_code 1 = .ok (.getfield 31, 3) := by decide +kernel
theorem d4_4 : decode prog_10_method_4_code 4 = .ok (.ireturn, 1) := by decide +kernel
def Q4 (Z : State) (a1 : Addr) (w : Int32) (h0 : Heap) (n0 : Nat) (v : Option Value) (h : Heap) (L : List Loc) : Prop := v = some (.int w) ∧ Fr n0 L ∧ (h = h0)
set_option maxRecDepth 65536 in
set_option maxHeartbeats 40000000 in
theorem rm4 (l : Launch) (Z : State) (a0 : Array Value) (hw : ∀ d ∈ tables_1, d.before a0 Z = true) (ws : List Jvm.Cond) (a1 : Addr) (w : Int32) (h0 : Heap) (n0 : Nat) (Z0 : n0 ≤ h0.size) (F3 : Fld Z h0 a1 "holdfast/CountedIds$Batch" "size" "I" (.int w)) :
    MetFree l (⟨"holdfast/CountedIds$Batch", "size", "()I"⟩ : MethodName) (head1 (Jvm.Cond.code (⟨"holdfast/CountedIds$Batch", "size", "()I"⟩ : MethodName) prog_10_method_4_code 1 (some .int) :: ws) ({ frames := 0, cells := 0, slots := 0, locals := 0 } : Room)) (fun a U => a = #[(.ref a1)] ∧ Z.Warmed39 U.vm ∧ U.heap = h0) (fun _ _ _ _ _ => True) (fun _ U o U' => ∃ v L, o = .returned v ∧ Q4 Z a1 w h0 n0 v U'.heap L ∧ FrameEnd U o U' L ({ frames := 0, cells := 0, slots := 0, locals := 0 } : Room).cells ({ frames := 0, cells := 0, slots := 0, locals := 0 } : Room).slots) := by
  refine MetFree.of_bodySF (plainFor_of_name pn_0) hisR ?_
  intro p e s m args below meth c s₁ Bd hml0 hP hK
  obtain ⟨rfl, hZ0, hh⟩ := hP
  have hx := Bd.exec
  have hby := Bd.bytes
  have hml : c.maxLocals = 1 := hml0
  have hown0 : s.vm.findClass "holdfast/CountedIds$Batch" = some m.cls := findClass_of_methodNamed Bd.named
  have hnm := (name_of_methodNamed Bd.named Bd.method).1
  have hlk : meth.locks = false := by first | exact BodyLoose.notSynchronized Bd | exact Body.notSynchronized Bd
  have X0 : Stand p l e ({ frames := 0, cells := 0, slots := 0, locals := 0 } : Room) s m #[(.ref a1)] below meth c s₁ [] 0 0 := Stand.of_body Bd
  have e0 : s₁.heap = h0 := by rw [← hh, Bd.state]; rfl
  have N0 := Fr.nil n0
  have pre0 : ∀ t, Steps p.tables e below (s₁.setTop (mkF m 0 #[.val (.ref a1)] [])) t → Steps p.tables e below (s₁.setTop (entryFrame m #[(.ref a1)] 1)) t := fun t k => castTop (ef_4 m a1) k
  obtain ⟨T101, X101, e101, st101⟩ := getF X0 hx hZ0 hown0 (host := "") (Or.inl (hw _ (List.mem_of_getElem? (i := 28) rfl))) Via.refl e0 F3 (g := (mkF m 1 #[.val (.ref a1)] [(.ref a1)])) rfl rfl (hb hby d4_1)
  obtain ⟨fs, hr, hrun, hended, hW, hsame⟩ := X101.leave (v := some (.int w)) (fun h => by rw [Bd.returns] at h; cases h) hlk
  refine ⟨_, _, pre0 _ ?_, hrun, hended, _, _, rfl, ?_, ⟨_, rfl⟩, hW, hsame.mono (by decide) (by decide)⟩
  · show Steps p.tables e below (s₁.setTop (mkF m 0 #[.val (.ref a1)] [])) _
    refine XS.aloadN X0.here hx rfl (hb hby d4_0) rfl rfl ?_
    show Steps p.tables e below (s₁.setTop (mkF m 1 #[.val (.ref a1)] [(.ref a1)])) _
    refine st101 _ ?_
    show Steps p.tables e below (T101.setTop (mkF m 4 #[.val (.ref a1)] [(.int w)])) _
    exact retI X101 hx Bd.returns (hb hby d4_4) hr
  · show Q4 Z a1 w h0 n0 _ T101.heap _
    rw [e101]
    exact ⟨rfl, N0, rfl⟩
theorem own_four (n : Int32) (h1 : ¬ ((n &&& (3 : Int32)) = (1 : Int32))) (h2 : ¬ ((n &&& (3 : Int32)) = (2 : Int32))) (h3 : ¬ ((n &&& (3 : Int32)) = (3 : Int32))) : (n &&& (3 : Int32)) = (0 : Int32) := by
  have e : (n &&& (3 : Int32)).toInt = n.toInt % ((2 ^ 2 : Nat) : Int) := c_mask n _ 2 (by decide) (by decide)
  rw [← Int32.toInt_inj] at *
  have a : (0 : Int32).toInt = 0 := by decide
  have b : (1 : Int32).toInt = 1 := by decide
  have d : (2 : Int32).toInt = 2 := by decide
  have f : (3 : Int32).toInt = 3 := by decide
  omega
theorem pn_1 : plainName "holdfast/BatchFullPinLaw" = true := by first | (simp [plainName, overriddenIn]; done) | decide +kernel
theorem ef_0 (m : MethodId) (x0 : Int64) (x1 : Int64) (x2 : Int64) (x3 : Int32) (x4 : Int32) : entryFrame m #[(.long x0), (.long x1), (.long x2), (.int x3), (.int x4)] maxLocals = mkF m 0 #[.val (.long x0), .second, .val (.long x1), .second, .val (.long x2), .second, .val (.int x3), .val (.int x4), .unset, .unset, .unset, .unset] [] := by first | (simp [entryFrame, mkF, argsToLocals, Value.category, maxLocals]; done) | rfl
theorem pd_1 : parseMethodDescriptor "()V" = some ⟨[], none⟩ := by decide +kernel
theorem pd_2 : parseMethodDescriptor "()Z" = some ⟨[], some .boolean⟩ := by decide +kernel
theorem pd_3 : parseMethodDescriptor "()I" = some ⟨[], some .int⟩ := by decide +kernel
theorem pd_4 : parseMethodDescriptor "(JI)V" = some ⟨[.long, .int], none⟩ := by decide +kernel
def Q0 (Z : State) (q1 : Int64) (q2 : Int64) (q3 : Int64) (p4 : Int32) (p5 : Int32) (h0 : Heap) (n0 : Nat) (v : Option Value) (h : Heap) (L : List Loc) : Prop := v = some (.int (1 : Int32)) ∧ Fr n0 L
set_option maxRecDepth 65536 in
set_option maxHeartbeats 40000000 in
theorem rm0 (l : Launch) (Z : State) (a0 : Array Value) (hw : ∀ d ∈ tables_1, d.before a0 Z = true) (ws : List Jvm.Cond) (q1 : Int64) (q2 : Int64) (q3 : Int64) (p4 : Int32) (p5 : Int32) (h0 : Heap) (n0 : Nat) (Z0 : n0 ≤ h0.size) (O0 : Old Z n0 h0) (pf0 : Sta Z Z.heap "holdfast/CountedIds$Batch" "CHUNK_BITS" "I" (.int (14 : Int32))) :
    MetFree l x (head1 (Jvm.Cond.code x code maxLocals ret :: ws) room_1) (fun a U => a = #[(.long q1), (.long q2), (.long q3), (.int p4), (.int p5)] ∧ Z.Warmed39 U.vm ∧ U.heap = h0) (fun _ _ _ _ _ => True) (fun _ U o U' => ∃ v L, o = .returned v ∧ Q0 Z q1 q2 q3 p4 p5 h0 n0 v U'.heap L ∧ FrameEnd U o U' L room_1.cells room_1.slots) := by
  refine MetFree.of_bodySF (plainFor_of_name pn_1) hisR ?_
  intro p e s m args below meth c s₁ Bd hml0 hP hK
  obtain ⟨rfl, hZ0, hh⟩ := hP
  have hx := Bd.exec
  have hby := Bd.bytes
  have hml : c.maxLocals = 12 := hml0
  have hown0 : s.vm.findClass "holdfast/BatchFullPinLaw" = some m.cls := findClass_of_methodNamed Bd.named
  have hnm := (name_of_methodNamed Bd.named Bd.method).1
  have hlk : meth.locks = false := by first | exact BodyLoose.notSynchronized Bd | exact Body.notSynchronized Bd
  have X0 : Stand p l e room_1 s m #[(.long q1), (.long q2), (.long q3), (.int p4), (.int p5)] below meth c s₁ [] 0 0 := Stand.of_body Bd
  have e0 : s₁.heap = h0 := by rw [← hh, Bd.state]; rfl
  have N0 := Fr.nil n0
  have pre0 : ∀ t, Steps p.tables e below (s₁.setTop (mkF m 0 #[.val (.long q1), .second, .val (.long q2), .second, .val (.long q3), .second, .val (.int p4), .val (.int p5), .unset, .unset, .unset, .unset] [])) t → Steps p.tables e below (s₁.setTop (entryFrame m #[(.long q1), (.long q2), (.long q3), (.int p4), (.int p5)] maxLocals)) t := fun t k => castTop (ef_0 m q1 q2 q3 p4 p5) k
  by_cases hc101 : (p5 &&& (3 : Int32)) = (1 : Int32)
  · obtain ⟨T102, h102, X102, e102, E102, A102, D102, -, st102⟩ := newO X0 hx hZ0 hown0 (hw _ (List.mem_of_getElem? (i := 0) rfl)) (hw _ (List.mem_of_getElem? (i := 1) rfl)) (hw _ (List.mem_of_getElem? (i := 2) rfl)) e0 (g := (mkF m 0 #[.val (.long q1), .second, .val (.long q2), .second, .val (.long q3), .second, .val (.int p4), .val (.int p5), .unset, .unset, .unset, .unset] [])) rfl (hb hby at_0) (by decide) (by decide)
    obtain ⟨b102, g102⟩ : ∃ z, z = h0.size := ⟨_, rfl⟩
    rw [← g102] at A102 D102 st102
    have gn_b102 : n0 ≤ b102 := Nat.le_trans Z0 (Nat.le_of_eq g102.symm)
    have f103 : Old Z n0 h102 := O0.ext E102
    have Zs102 : n0 ≤ h102.size := Nat.le_trans Z0 E102.1
    have f104 : Fld Z h102 b102 "holdfast/CountedIds$Batch" "digests" "[[J" .null := D102 (Or.inl (hw _ (List.mem_of_getElem? (i := 12) rfl))) (ty := (.array (.array .long))) (by decide)
    have f105 : Fld Z h102 b102 "holdfast/CountedIds$Batch" "tags" "[[I" .null := D102 (Or.inl (hw _ (List.mem_of_getElem? (i := 16) rfl))) (ty := (.array (.array .int))) (by decide)
    have f106 : Fld Z h102 b102 "holdfast/CountedIds$Batch" "spareDigests" "[[J" .null := D102 (Or.inl (hw _ (List.mem_of_getElem? (i := 18) rfl))) (ty := (.array (.array .long))) (by decide)
    have f107 : Fld Z h102 b102 "holdfast/CountedIds$Batch" "spareTags" "[[I" .null := D102 (Or.inl (hw _ (List.mem_of_getElem? (i := 20) rfl))) (ty := (.array (.array .int))) (by decide)
    have f108 : Fld Z h102 b102 "holdfast/CountedIds$Batch" "sorted" "Z" (.int (0 : Int32)) := D102 (Or.inl (hw _ (List.mem_of_getElem? (i := 22) rfl))) (ty := .boolean) (by decide)
    have f109 : Fld Z h102 b102 "holdfast/CountedIds$Batch" "size" "I" (.int (0 : Int32)) := D102 (Or.inl (hw _ (List.mem_of_getElem? (i := 29) rfl))) (ty := .int) (by decide)
    obtain ⟨_, _, ⟨T110, L110, k110, n110⟩, -, X110, ⟨Lc110, hQ110, l110, y110, z110⟩, st110⟩ := X102.specialBack hx (y := (⟨"holdfast/CountedIds$Batch", "<init>", "()V"⟩ : MethodName)) rfl hown0 (mvT hZ0 (hw _ (List.mem_of_getElem? (i := 3) rfl))) (mvT hZ0 (hw _ (List.mem_of_getElem? (i := 4) rfl))) (mvT hZ0 (hw _ (List.mem_of_getElem? (i := 5) rfl))) (by decide) (backOf (W := 1) (rm1 l Z a0 hw [] b102 h102 n0 Zs102 A102 gn_b102 f104 f105 f106 f107 f108 f109) hZ0 (hw _ (List.mem_of_getElem? (i := 5) rfl)) (hw _ (List.mem_of_getElem? (i := 2) rfl)) (by decide) (by decide)) (g := (mkF m 4 #[.val (.long q1), .second, .val (.long q2), .second, .val (.long q3), .second, .val (.int p4), .val (.int p5), .unset, .unset, .unset, .unset] [(.ref b102), (.ref b102)])) rfl (by rw [hml]; rfl) (Steps.refl _) (a := b102) (argsL := []) (rest := [(.ref b102)]) (lenOf pd_1 rfl) rfl (by show 2 * 0 + _ ≤ _; exact Nat.le_of_eq rfl) (hb hby at_4) (fun _ _ => ⟨rfl, e102, (by decide : 1 + 4 ≤ _), (by decide : 6 + 256 ≤ _)⟩)
    dsimp only [Pt.U, Pt.locs, Pt.cells, Pt.slots] at X110 l110 y110 z110 st110 hQ110
    subst l110 y110 z110
    obtain ⟨d_110, t_110, kd_110, kt_110, rfl, N110q, P110_0, P110_1, P110_2, P110_3, P110_4, P110_5, P110_6, P110_7, P110_8, P110_9, P110_10, P110_11⟩ := hQ110
    have N110 := Fr.app N0 N110q
    have ne_b102_d_110 : b102 ≠ d_110 := Nat.ne_of_lt (Nat.lt_of_lt_of_le A102.lt P110_1)
    have gn_d_110 : n0 ≤ d_110 := Nat.le_trans Zs102 P110_1
    have ne_b102_t_110 : b102 ≠ t_110 := Nat.ne_of_lt (Nat.lt_of_lt_of_le A102.lt P110_2)
    have gn_t_110 : n0 ≤ t_110 := Nat.le_trans Zs102 P110_2
    have f111 : Old Z n0 T110.heap := f103.keep P110_0 (allS gn_b102 all0)
    have f112 : Exa Z T110.heap b102 "holdfast/CountedIds$Batch" := A102.keep P110_0
    have Zs110 : n0 ≤ T110.heap.size := Nat.le_trans Zs102 P110_0.1
    have pr113 : ∀ tg9, Steps p.tables e below (T110.setTop (mkF m 19 #[.val (.long q1), .second, .val (.long q2), .second, .val (.long q3), .second, .val (.int p4), .val (.int p5), .val (.ref b102), .val (.int (1 : Int32)), .unset, .unset] [(.int (p5 &&& (4 : Int32)))])) tg9 → Steps p.tables e below (s₁.setTop (mkF m 0 #[.val (.long q1), .second, .val (.long q2), .second, .val (.long q3), .second, .val (.int p4), .val (.int p5), .unset, .unset, .unset, .unset] [])) tg9 := fun tg9 kt => by
      show Steps p.tables e below (s₁.setTop (mkF m 0 #[.val (.long q1), .second, .val (.long q2), .second, .val (.long q3), .second, .val (.int p4), .val (.int p5), .unset, .unset, .unset, .unset] [])) _
      refine st102 _ ?_
      show Steps p.tables e below (T102.setTop (mkF m 3 #[.val (.long q1), .second, .val (.long q2), .second, .val (.long q3), .second, .val (.int p4), .val (.int p5), .unset, .unset, .unset, .unset] [(.ref b102)])) _
      refine XS.dup X102.here hx rfl (hb hby at_3) rfl rfl ?_
      show Steps p.tables e below (T102.setTop (mkF m 4 #[.val (.long q1), .second, .val (.long q2), .second, .val (.long q3), .second, .val (.int p4), .val (.int p5), .unset, .unset, .unset, .unset] [(.ref b102), (.ref b102)])) _
      refine st110.trans ?_
      show Steps p.tables e below (T110.setTop (mkF m 7 #[.val (.long q1), .second, .val (.long q2), .second, .val (.long q3), .second, .val (.int p4), .val (.int p5), .unset, .unset, .unset, .unset] [(.ref b102)])) _
      refine XS.astore X110.here hx rfl (hb hby at_7) rfl rfl (l' := #[.val (.long q1), .second, .val (.long q2), .second, .val (.long q3), .second, .val (.int p4), .val (.int p5), .val (.ref b102), .unset, .unset, .unset]) rfl ?_
      show Steps p.tables e below (T110.setTop (mkF m 9 #[.val (.long q1), .second, .val (.long q2), .second, .val (.long q3), .second, .val (.int p4), .val (.int p5), .val (.ref b102), .unset, .unset, .unset] [])) _
      refine XS.iload X110.here hx rfl (hb hby at_9) rfl ?_
      show Steps p.tables e below (T110.setTop (mkF m 11 #[.val (.long q1), .second, .val (.long q2), .second, .val (.long q3), .second, .val (.int p4), .val (.int p5), .val (.ref b102), .unset, .unset, .unset] [(.int p5)])) _
      refine XS.iconst X110.here hx rfl (hb hby at_11) ?_
      show Steps p.tables e below (T110.setTop (mkF m 12 #[.val (.long q1), .second, .val (.long q2), .second, .val (.long q3), .second, .val (.int p4), .val (.int p5), .val (.ref b102), .unset, .unset, .unset] [(.int (3 : Int32)), (.int p5)])) _
      refine XS.iand X110.here hx rfl (hb hby at_12) rfl ?_
      show Steps p.tables e below (T110.setTop (mkF m 13 #[.val (.long q1), .second, .val (.long q2), .second, .val (.long q3), .second, .val (.int p4), .val (.int p5), .val (.ref b102), .unset, .unset, .unset] [(.int (p5 &&& (3 : Int32)))])) _
      rw [hc101]
      show Steps p.tables e below (T110.setTop (mkF m 13 #[.val (.long q1), .second, .val (.long q2), .second, .val (.long q3), .second, .val (.int p4), .val (.int p5), .val (.ref b102), .unset, .unset, .unset] [(.int (1 : Int32))])) _
      refine XS.istore X110.here hx rfl (hb hby at_13) rfl (l' := #[.val (.long q1), .second, .val (.long q2), .second, .val (.long q3), .second, .val (.int p4), .val (.int p5), .val (.ref b102), .val (.int (1 : Int32)), .unset, .unset]) rfl ?_
      show Steps p.tables e below (T110.setTop (mkF m 15 #[.val (.long q1), .second, .val (.long q2), .second, .val (.long q3), .second, .val (.int p4), .val (.int p5), .val (.ref b102), .val (.int (1 : Int32)), .unset, .unset] [])) _
      refine XS.iload X110.here hx rfl (hb hby at_15) rfl ?_
      show Steps p.tables e below (T110.setTop (mkF m 17 #[.val (.long q1), .second, .val (.long q2), .second, .val (.long q3), .second, .val (.int p4), .val (.int p5), .val (.ref b102), .val (.int (1 : Int32)), .unset, .unset] [(.int p5)])) _
      refine XS.iconst X110.here hx rfl (hb hby at_17) ?_
      show Steps p.tables e below (T110.setTop (mkF m 18 #[.val (.long q1), .second, .val (.long q2), .second, .val (.long q3), .second, .val (.int p4), .val (.int p5), .val (.ref b102), .val (.int (1 : Int32)), .unset, .unset] [(.int (4 : Int32)), (.int p5)])) _
      refine XS.iand X110.here hx rfl (hb hby at_18) rfl ?_
      exact kt
    by_cases hc114 : (p5 &&& (4 : Int32)) = (0 : Int32)
    · obtain ⟨cq115, kq115, q115a, q115b, q115c⟩ := isOf hZ0 rfl f112
      obtain ⟨_, _, ⟨T115, L115, k115, n115⟩, -, X115, ⟨Lc115, hQ115, l115, y115, z115⟩, st115⟩ := X110.virtualBack hx (y := (⟨"holdfast/CountedIds$Batch", "full", "()Z"⟩ : MethodName)) (z := (⟨"holdfast/CountedIds$Batch", "full", "()Z"⟩ : MethodName)) hown0 (mvT hZ0 (hw _ (List.mem_of_getElem? (i := 23) rfl))) (mvT hZ0 (hw _ (List.mem_of_getElem? (i := 24) rfl))) (notFace_of_selects (args := #[]) (mvT hZ0 (hw _ (List.mem_of_getElem? (i := 26) rfl)))) (mvT hZ0 (hw _ (List.mem_of_getElem? (i := 26) rfl))) (mvT hZ0 (hw _ (List.mem_of_getElem? (i := 25) rfl))) (by decide) (backOf (W := 0) (rm3 l Z a0 hw [] b102 (0 : Int32) T110.heap n0 Zs110 P110_6 (by decide)) hZ0 (hw _ (List.mem_of_getElem? (i := 27) rfl)) (hw _ (List.mem_of_getElem? (i := 2) rfl)) (by decide) (by decide)) q115a q115c (g := (mkF m 31 #[.val (.long q1), .second, .val (.long q2), .second, .val (.long q3), .second, .val (.int p4), .val (.int p5), .val (.ref b102), .val (.int (1 : Int32)), .val (.int (0 : Int32)), .unset] [(.ref b102)])) rfl (by rw [hml]; rfl) (Steps.refl _) (argsL := []) (rest := []) (lenOf pd_2 rfl) rfl (by show 2 * 0 + _ ≤ _; exact Nat.le_of_eq rfl) (hb hby at_31) (fun _ _ => ⟨rfl, rfl, (by decide : 5 + 0 ≤ _), (by decide : 262 + 0 ≤ _)⟩)
      dsimp only [Pt.U, Pt.locs, Pt.cells, Pt.slots] at X115 l115 y115 z115 st115 hQ115
      subst l115 y115 z115
      obtain ⟨rfl, N115q, P115_0⟩ := hQ115
      have N115 := Fr.app N110 N115q
      obtain ⟨cq116, kq116, q116a, q116b, q116c⟩ := isOf hZ0 P115_0 f112
      obtain ⟨_, _, ⟨T116, L116, k116, n116⟩, -, X116, ⟨Lc116, hQ116, l116, y116, z116⟩, st116⟩ := X115.virtualBack hx (y := (⟨"holdfast/CountedIds$Batch", "size", "()I"⟩ : MethodName)) (z := (⟨"holdfast/CountedIds$Batch", "size", "()I"⟩ : MethodName)) hown0 (mvT hZ0 (hw _ (List.mem_of_getElem? (i := 31) rfl))) (mvT hZ0 (hw _ (List.mem_of_getElem? (i := 32) rfl))) (notFace_of_selects (args := #[]) (mvT hZ0 (hw _ (List.mem_of_getElem? (i := 34) rfl)))) (mvT hZ0 (hw _ (List.mem_of_getElem? (i := 34) rfl))) (mvT hZ0 (hw _ (List.mem_of_getElem? (i := 33) rfl))) (by decide) (backOf (W := 0) (rm4 l Z a0 hw [] b102 (0 : Int32) T110.heap n0 Zs110 P110_6) hZ0 (hw _ (List.mem_of_getElem? (i := 35) rfl)) (hw _ (List.mem_of_getElem? (i := 2) rfl)) (by decide) (by decide)) q116a q116c (g := (mkF m 39 #[.val (.long q1), .second, .val (.long q2), .second, .val (.long q3), .second, .val (.int p4), .val (.int p5), .val (.ref b102), .val (.int (1 : Int32)), .val (.int (0 : Int32)), .unset] [(.ref b102)])) rfl (by rw [hml]; rfl) (Steps.refl _) (argsL := []) (rest := []) (lenOf pd_3 rfl) rfl (by show 2 * 0 + _ ≤ _; exact Nat.le_of_eq rfl) (hb hby at_39) (fun _ _ => ⟨rfl, P115_0, (by decide : 5 + 0 ≤ _), (by decide : 262 + 0 ≤ _)⟩)
      dsimp only [Pt.U, Pt.locs, Pt.cells, Pt.slots] at X116 l116 y116 z116 st116 hQ116
      subst l116 y116 z116
      obtain ⟨rfl, N116q, P116_0⟩ := hQ116
      have N116 := Fr.app N115 N116q
      obtain ⟨cq117, kq117, q117a, q117b, q117c⟩ := isOf hZ0 P116_0 f112
      obtain ⟨_, _, ⟨T117, L117, k117, n117⟩, -, X117, ⟨Lc117, hQ117, l117, y117, z117⟩, st117⟩ := X116.virtualBack hx (y := (⟨"holdfast/CountedIds$Batch", "add", "(JI)V"⟩ : MethodName)) (z := (⟨"holdfast/CountedIds$Batch", "add", "(JI)V"⟩ : MethodName)) hown0 (mvT hZ0 (hw _ (List.mem_of_getElem? (i := 36) rfl))) (mvT hZ0 (hw _ (List.mem_of_getElem? (i := 37) rfl))) (notFace_of_selects (args := #[]) (mvT hZ0 (hw _ (List.mem_of_getElem? (i := 39) rfl)))) (mvT hZ0 (hw _ (List.mem_of_getElem? (i := 39) rfl))) (mvT hZ0 (hw _ (List.mem_of_getElem? (i := 38) rfl))) (by decide) (backOf (W := 0) (rm5z l Z a0 hw [] b102 q1 p4 d_110 t_110 kd_110 kt_110 (1 : Int32) T110.heap n0 Zs110 f111 pf0 f112 gn_b102 gn_d_110 gn_t_110 ne_b102_d_110 ne_b102_t_110 P110_3 P110_4 P110_5 P110_6 P110_7 P110_8 P110_9 P110_10 P110_11) hZ0 (hw _ (List.mem_of_getElem? (i := 40) rfl)) (hw _ (List.mem_of_getElem? (i := 2) rfl)) (by decide) (by decide)) q117a q117c (g := (mkF m 62 #[.val (.long q1), .second, .val (.long q2), .second, .val (.long q3), .second, .val (.int p4), .val (.int p5), .val (.ref b102), .val (.int (1 : Int32)), .val (.int (0 : Int32)), .val (.int (1 : Int32))] [(.int p4), (.long q1), (.ref b102)])) rfl (by rw [hml]; rfl) (Steps.refl _) (argsL := [(.long q1), (.int p4)]) (rest := []) (lenOf pd_4 rfl) rfl (by show 2 * 0 + _ ≤ _; exact Nat.le_of_eq rfl) (hb hby at_62) (fun _ _ => ⟨rfl, P116_0, (by decide : 5 + 2 ≤ _), (by decide : 262 + 32768 ≤ _)⟩)
      dsimp only [Pt.U, Pt.locs, Pt.cells, Pt.slots] at X117 l117 y117 z117 st117 hQ117
      subst l117 y117 z117
      obtain ⟨dd_117, tt_117, rfl, N117q, P117_0, P117_1, P117_2, P117_3, P117_4, P117_5, P117_6, P117_7, P117_8, P117_9, P117_10, P117_11⟩ := hQ117
      have N117 := Fr.app N116 N117q
      have ne_b102_dd_117 : b102 ≠ dd_117 := Nat.ne_of_lt (Nat.lt_of_lt_of_le f112.lt P117_1)
      have ne_d_110_dd_117 : d_110 ≠ dd_117 := Nat.ne_of_lt (Nat.lt_of_lt_of_le P110_8.lt P117_1)
      have ne_t_110_dd_117 : t_110 ≠ dd_117 := Nat.ne_of_lt (Nat.lt_of_lt_of_le P110_9.lt P117_1)
      have gn_dd_117 : n0 ≤ dd_117 := Nat.le_trans Zs110 P117_1
      have ne_b102_tt_117 : b102 ≠ tt_117 := Nat.ne_of_lt (Nat.lt_of_lt_of_le f112.lt P117_2)
      have ne_d_110_tt_117 : d_110 ≠ tt_117 := Nat.ne_of_lt (Nat.lt_of_lt_of_le P110_8.lt P117_2)
      have ne_t_110_tt_117 : t_110 ≠ tt_117 := Nat.ne_of_lt (Nat.lt_of_lt_of_le P110_9.lt P117_2)
      have gn_tt_117 : n0 ≤ tt_117 := Nat.le_trans Zs110 P117_2
      have f118 : Old Z n0 T117.heap := f111.keep P117_0 (allS gn_b102 (allS gn_d_110 (allS gn_t_110 all0)))
      have f119 : Exa Z T117.heap b102 "holdfast/CountedIds$Batch" := f112.keep P117_0
      have Zs117 : n0 ≤ T117.heap.size := Nat.le_trans Zs110 P117_0.1
      obtain ⟨cq120, kq120, q120a, q120b, q120c⟩ := isOf hZ0 rfl f119
      obtain ⟨_, _, ⟨T120, L120, k120, n120⟩, -, X120, ⟨Lc120, hQ120, l120, y120, z120⟩, st120⟩ := X117.virtualBack hx (y := (⟨"holdfast/CountedIds$Batch", "full", "()Z"⟩ : MethodName)) (z := (⟨"holdfast/CountedIds$Batch", "full", "()Z"⟩ : MethodName)) hown0 (mvT hZ0 (hw _ (List.mem_of_getElem? (i := 23) rfl))) (mvT hZ0 (hw _ (List.mem_of_getElem? (i := 24) rfl))) (notFace_of_selects (args := #[]) (mvT hZ0 (hw _ (List.mem_of_getElem? (i := 26) rfl)))) (mvT hZ0 (hw _ (List.mem_of_getElem? (i := 26) rfl))) (mvT hZ0 (hw _ (List.mem_of_getElem? (i := 25) rfl))) (by decide) (backOf (W := 0) (rm3 l Z a0 hw [] b102 (1 : Int32) T117.heap n0 Zs117 P117_6 (by decide)) hZ0 (hw _ (List.mem_of_getElem? (i := 27) rfl)) (hw _ (List.mem_of_getElem? (i := 2) rfl)) (by decide) (by decide)) q120a q120c (g := (mkF m 101 #[.val (.long q1), .second, .val (.long q2), .second, .val (.long q3), .second, .val (.int p4), .val (.int p5), .val (.ref b102), .val (.int (1 : Int32)), .val (.int (0 : Int32)), .val (.int (1 : Int32))] [(.ref b102)])) rfl (by rw [hml]; rfl) (Steps.refl _) (argsL := []) (rest := []) (lenOf pd_2 rfl) rfl (by show 2 * 0 + _ ≤ _; exact Nat.le_of_eq rfl) (hb hby at_101) (fun _ _ => ⟨rfl, rfl, (by decide : 7 + 0 ≤ _), (by decide : 33030 + 0 ≤ _)⟩)
      dsimp only [Pt.U, Pt.locs, Pt.cells, Pt.slots] at X120 l120 y120 z120 st120 hQ120
      subst l120 y120 z120
      obtain ⟨rfl, N120q, P120_0⟩ := hQ120
      have N120 := Fr.app N117 N120q
      obtain ⟨cq121, kq121, q121a, q121b, q121c⟩ := isOf hZ0 P120_0 f119
      obtain ⟨_, _, ⟨T121, L121, k121, n121⟩, -, X121, ⟨Lc121, hQ121, l121, y121, z121⟩, st121⟩ := X120.virtualBack hx (y := (⟨"holdfast/CountedIds$Batch", "size", "()I"⟩ : MethodName)) (z := (⟨"holdfast/CountedIds$Batch", "size", "()I"⟩ : MethodName)) hown0 (mvT hZ0 (hw _ (List.mem_of_getElem? (i := 31) rfl))) (mvT hZ0 (hw _ (List.mem_of_getElem? (i := 32) rfl))) (notFace_of_selects (args := #[]) (mvT hZ0 (hw _ (List.mem_of_getElem? (i := 34) rfl)))) (mvT hZ0 (hw _ (List.mem_of_getElem? (i := 34) rfl))) (mvT hZ0 (hw _ (List.mem_of_getElem? (i := 33) rfl))) (by decide) (backOf (W := 0) (rm4 l Z a0 hw [] b102 (1 : Int32) T117.heap n0 Zs117 P117_6) hZ0 (hw _ (List.mem_of_getElem? (i := 35) rfl)) (hw _ (List.mem_of_getElem? (i := 2) rfl)) (by decide) (by decide)) q121a q121c (g := (mkF m 109 #[.val (.long q1), .second, .val (.long q2), .second, .val (.long q3), .second, .val (.int p4), .val (.int p5), .val (.ref b102), .val (.int (1 : Int32)), .val (.int (0 : Int32)), .val (.int (1 : Int32))] [(.ref b102)])) rfl (by rw [hml]; rfl) (Steps.refl _) (argsL := []) (rest := []) (lenOf pd_3 rfl) rfl (by show 2 * 0 + _ ≤ _; exact Nat.le_of_eq rfl) (hb hby at_109) (fun _ _ => ⟨rfl, P120_0, (by decide : 7 + 0 ≤ _), (by decide : 33030 + 0 ≤ _)⟩)
      dsimp only [Pt.U, Pt.locs, Pt.cells, Pt.slots] at X121 l121 y121 z121 st121 hQ121
      subst l121 y121 z121
      obtain ⟨rfl, N121q, P121_0⟩ := hQ121
      have N121 := Fr.app N120 N121q
      obtain ⟨fs, hr, hrun, hended, hW, hsame⟩ := X121.leave (v := some (.int (1 : Int32))) (fun h => by rw [Bd.returns] at h; cases h) hlk
      refine ⟨_, _, pre0 _ ?_, hrun, hended, _, _, rfl, ?_, ⟨_, rfl⟩, hW, hsame.mono (by decide) (by decide)⟩
      · refine pr113 _ ?_
        show Steps p.tables e below (T110.setTop (mkF m 19 #[.val (.long q1), .second, .val (.long q2), .second, .val (.long q3), .second, .val (.int p4), .val (.int p5), .val (.ref b102), .val (.int (1 : Int32)), .unset, .unset] [(.int (p5 &&& (4 : Int32)))])) _
        refine XS.ifYes X110.here hx rfl (pc0 := 19) (pc' := 26) rfl (hb hby at_19) rfl ((if0 _ _).trans (teq hc114).1) (by decide) (by decide) ?_
        show Steps p.tables e below (T110.setTop (mkF m 26 #[.val (.long q1), .second, .val (.long q2), .second, .val (.long q3), .second, .val (.int p4), .val (.int p5), .val (.ref b102), .val (.int (1 : Int32)), .unset, .unset] [])) _
        refine XS.iconst X110.here hx rfl (hb hby at_26) ?_
        show Steps p.tables e below (T110.setTop (mkF m 27 #[.val (.long q1), .second, .val (.long q2), .second, .val (.long q3), .second, .val (.int p4), .val (.int p5), .val (.ref b102), .val (.int (1 : Int32)), .unset, .unset] [(.int (0 : Int32))])) _
        refine XS.istore X110.here hx rfl (hb hby at_27) rfl (l' := #[.val (.long q1), .second, .val (.long q2), .second, .val (.long q3), .second, .val (.int p4), .val (.int p5), .val (.ref b102), .val (.int (1 : Int32)), .val (.int (0 : Int32)), .unset]) rfl ?_
        show Steps p.tables e below (T110.setTop (mkF m 29 #[.val (.long q1), .second, .val (.long q2), .second, .val (.long q3), .second, .val (.int p4), .val (.int p5), .val (.ref b102), .val (.int (1 : Int32)), .val (.int (0 : Int32)), .unset] [])) _
        refine XS.aload X110.here hx rfl (hb hby at_29) rfl rfl ?_
        show Steps p.tables e below (T110.setTop (mkF m 31 #[.val (.long q1), .second, .val (.long q2), .second, .val (.long q3), .second, .val (.int p4), .val (.int p5), .val (.ref b102), .val (.int (1 : Int32)), .val (.int (0 : Int32)), .unset] [(.ref b102)])) _
        refine st115.trans ?_
        show Steps p.tables e below (T115.setTop (mkF m 34 #[.val (.long q1), .second, .val (.long q2), .second, .val (.long q3), .second, .val (.int p4), .val (.int p5), .val (.ref b102), .val (.int (1 : Int32)), .val (.int (0 : Int32)), .unset] [(.int (0 : Int32))])) _
        refine XS.ifNo X115.here hx rfl (hb hby at_34) rfl ((if0 _ _).trans (teq (by decide : (0 : Int32) = (0 : Int32))).2) ?_
        show Steps p.tables e below (T115.setTop (mkF m 37 #[.val (.long q1), .second, .val (.long q2), .second, .val (.long q3), .second, .val (.int p4), .val (.int p5), .val (.ref b102), .val (.int (1 : Int32)), .val (.int (0 : Int32)), .unset] [])) _
        refine XS.aload X115.here hx rfl (hb hby at_37) rfl rfl ?_
        show Steps p.tables e below (T115.setTop (mkF m 39 #[.val (.long q1), .second, .val (.long q2), .second, .val (.long q3), .second, .val (.int p4), .val (.int p5), .val (.ref b102), .val (.int (1 : Int32)), .val (.int (0 : Int32)), .unset] [(.ref b102)])) _
        refine st116.trans ?_
        show Steps p.tables e below (T116.setTop (mkF m 42 #[.val (.long q1), .second, .val (.long q2), .second, .val (.long q3), .second, .val (.int p4), .val (.int p5), .val (.ref b102), .val (.int (1 : Int32)), .val (.int (0 : Int32)), .unset] [(.int (0 : Int32))])) _
        refine XS.ifNo X116.here hx rfl (hb hby at_42) rfl ((if0 _ _).trans (teq (by decide : (0 : Int32) = (0 : Int32))).2) ?_
        show Steps p.tables e below (T116.setTop (mkF m 45 #[.val (.long q1), .second, .val (.long q2), .second, .val (.long q3), .second, .val (.int p4), .val (.int p5), .val (.ref b102), .val (.int (1 : Int32)), .val (.int (0 : Int32)), .unset] [])) _
        refine XS.iconst X116.here hx rfl (hb hby at_45) ?_
        show Steps p.tables e below (T116.setTop (mkF m 46 #[.val (.long q1), .second, .val (.long q2), .second, .val (.long q3), .second, .val (.int p4), .val (.int p5), .val (.ref b102), .val (.int (1 : Int32)), .val (.int (0 : Int32)), .unset] [(.int (1 : Int32))])) _
        refine XS.goto X116.here hx rfl (pc0 := 46) (pc' := 50) rfl (hb hby at_46) (by decide) (by decide) ?_
        show Steps p.tables e below (T116.setTop (mkF m 50 #[.val (.long q1), .second, .val (.long q2), .second, .val (.long q3), .second, .val (.int p4), .val (.int p5), .val (.ref b102), .val (.int (1 : Int32)), .val (.int (0 : Int32)), .unset] [(.int (1 : Int32))])) _
        refine XS.istore X116.here hx rfl (hb hby at_50) rfl (l' := #[.val (.long q1), .second, .val (.long q2), .second, .val (.long q3), .second, .val (.int p4), .val (.int p5), .val (.ref b102), .val (.int (1 : Int32)), .val (.int (0 : Int32)), .val (.int (1 : Int32))]) rfl ?_
        show Steps p.tables e below (T116.setTop (mkF m 52 #[.val (.long q1), .second, .val (.long q2), .second, .val (.long q3), .second, .val (.int p4), .val (.int p5), .val (.ref b102), .val (.int (1 : Int32)), .val (.int (0 : Int32)), .val (.int (1 : Int32))] [])) _
        refine XS.iload X116.here hx rfl (hb hby at_52) rfl ?_
        show Steps p.tables e below (T116.setTop (mkF m 54 #[.val (.long q1), .second, .val (.long q2), .second, .val (.long q3), .second, .val (.int p4), .val (.int p5), .val (.ref b102), .val (.int (1 : Int32)), .val (.int (0 : Int32)), .val (.int (1 : Int32))] [(.int (1 : Int32))])) _
        refine XS.ifNo X116.here hx rfl (hb hby at_54) rfl ((if0 _ _).trans (tlt (by decide : (0 : Int32) < (1 : Int32))).2.2.2) ?_
        show Steps p.tables e below (T116.setTop (mkF m 57 #[.val (.long q1), .second, .val (.long q2), .second, .val (.long q3), .second, .val (.int p4), .val (.int p5), .val (.ref b102), .val (.int (1 : Int32)), .val (.int (0 : Int32)), .val (.int (1 : Int32))] [])) _
        refine XS.aload X116.here hx rfl (hb hby at_57) rfl rfl ?_
        show Steps p.tables e below (T116.setTop (mkF m 59 #[.val (.long q1), .second, .val (.long q2), .second, .val (.long q3), .second, .val (.int p4), .val (.int p5), .val (.ref b102), .val (.int (1 : Int32)), .val (.int (0 : Int32)), .val (.int (1 : Int32))] [(.ref b102)])) _
        refine XS.lloadN X116.here hx rfl (hb hby at_59) rfl ?_
        show Steps p.tables e below (T116.setTop (mkF m 60 #[.val (.long q1), .second, .val (.long q2), .second, .val (.long q3), .second, .val (.int p4), .val (.int p5), .val (.ref b102), .val (.int (1 : Int32)), .val (.int (0 : Int32)), .val (.int (1 : Int32))] [(.long q1), (.ref b102)])) _
        refine XS.iload X116.here hx rfl (hb hby at_60) rfl ?_
        show Steps p.tables e below (T116.setTop (mkF m 62 #[.val (.long q1), .second, .val (.long q2), .second, .val (.long q3), .second, .val (.int p4), .val (.int p5), .val (.ref b102), .val (.int (1 : Int32)), .val (.int (0 : Int32)), .val (.int (1 : Int32))] [(.int p4), (.long q1), (.ref b102)])) _
        refine st117.trans ?_
        show Steps p.tables e below (T117.setTop (mkF m 65 #[.val (.long q1), .second, .val (.long q2), .second, .val (.long q3), .second, .val (.int p4), .val (.int p5), .val (.ref b102), .val (.int (1 : Int32)), .val (.int (0 : Int32)), .val (.int (1 : Int32))] [])) _
        refine XS.iload X117.here hx rfl (hb hby at_65) rfl ?_
        show Steps p.tables e below (T117.setTop (mkF m 67 #[.val (.long q1), .second, .val (.long q2), .second, .val (.long q3), .second, .val (.int p4), .val (.int p5), .val (.ref b102), .val (.int (1 : Int32)), .val (.int (0 : Int32)), .val (.int (1 : Int32))] [(.int (1 : Int32))])) _
        refine XS.iconst X117.here hx rfl (hb hby at_67) ?_
        show Steps p.tables e below (T117.setTop (mkF m 68 #[.val (.long q1), .second, .val (.long q2), .second, .val (.long q3), .second, .val (.int p4), .val (.int p5), .val (.ref b102), .val (.int (1 : Int32)), .val (.int (0 : Int32)), .val (.int (1 : Int32))] [(.int (1 : Int32)), (.int (1 : Int32))])) _
        refine XS.icmpYes X117.here hx rfl (pc0 := 68) (pc' := 79) rfl (hb hby at_68) rfl (flt (by decide : ¬ ((1 : Int32) < (1 : Int32)))).2.2.2 (by decide) (by decide) ?_
        show Steps p.tables e below (T117.setTop (mkF m 79 #[.val (.long q1), .second, .val (.long q2), .second, .val (.long q3), .second, .val (.int p4), .val (.int p5), .val (.ref b102), .val (.int (1 : Int32)), .val (.int (0 : Int32)), .val (.int (1 : Int32))] [])) _
        refine XS.iload X117.here hx rfl (hb hby at_79) rfl ?_
        show Steps p.tables e below (T117.setTop (mkF m 81 #[.val (.long q1), .second, .val (.long q2), .second, .val (.long q3), .second, .val (.int p4), .val (.int p5), .val (.ref b102), .val (.int (1 : Int32)), .val (.int (0 : Int32)), .val (.int (1 : Int32))] [(.int (1 : Int32))])) _
        refine XS.iconst X117.here hx rfl (hb hby at_81) ?_
        show Steps p.tables e below (T117.setTop (mkF m 82 #[.val (.long q1), .second, .val (.long q2), .second, .val (.long q3), .second, .val (.int p4), .val (.int p5), .val (.ref b102), .val (.int (1 : Int32)), .val (.int (0 : Int32)), .val (.int (1 : Int32))] [(.int (2 : Int32)), (.int (1 : Int32))])) _
        refine XS.icmpYes X117.here hx rfl (pc0 := 82) (pc' := 94) rfl (hb hby at_82) rfl (flt (by decide : ¬ ((2 : Int32) < (1 : Int32)))).2.2.2 (by decide) (by decide) ?_
        show Steps p.tables e below (T117.setTop (mkF m 94 #[.val (.long q1), .second, .val (.long q2), .second, .val (.long q3), .second, .val (.int p4), .val (.int p5), .val (.ref b102), .val (.int (1 : Int32)), .val (.int (0 : Int32)), .val (.int (1 : Int32))] [])) _
        refine XS.iload X117.here hx rfl (hb hby at_94) rfl ?_
        show Steps p.tables e below (T117.setTop (mkF m 96 #[.val (.long q1), .second, .val (.long q2), .second, .val (.long q3), .second, .val (.int p4), .val (.int p5), .val (.ref b102), .val (.int (1 : Int32)), .val (.int (0 : Int32)), .val (.int (1 : Int32))] [(.int (1 : Int32))])) _
        refine XS.ifNo X117.here hx rfl (hb hby at_96) rfl ((if0 _ _).trans (feq (by decide : ¬ ((1 : Int32) = (0 : Int32)))).1) ?_
        show Steps p.tables e below (T117.setTop (mkF m 99 #[.val (.long q1), .second, .val (.long q2), .second, .val (.long q3), .second, .val (.int p4), .val (.int p5), .val (.ref b102), .val (.int (1 : Int32)), .val (.int (0 : Int32)), .val (.int (1 : Int32))] [])) _
        refine XS.aload X117.here hx rfl (hb hby at_99) rfl rfl ?_
        show Steps p.tables e below (T117.setTop (mkF m 101 #[.val (.long q1), .second, .val (.long q2), .second, .val (.long q3), .second, .val (.int p4), .val (.int p5), .val (.ref b102), .val (.int (1 : Int32)), .val (.int (0 : Int32)), .val (.int (1 : Int32))] [(.ref b102)])) _
        refine st120.trans ?_
        show Steps p.tables e below (T120.setTop (mkF m 104 #[.val (.long q1), .second, .val (.long q2), .second, .val (.long q3), .second, .val (.int p4), .val (.int p5), .val (.ref b102), .val (.int (1 : Int32)), .val (.int (0 : Int32)), .val (.int (1 : Int32))] [(.int (0 : Int32))])) _
        refine XS.ifNo X120.here hx rfl (hb hby at_104) rfl ((if0 _ _).trans (teq (by decide : (0 : Int32) = (0 : Int32))).2) ?_
        show Steps p.tables e below (T120.setTop (mkF m 107 #[.val (.long q1), .second, .val (.long q2), .second, .val (.long q3), .second, .val (.int p4), .val (.int p5), .val (.ref b102), .val (.int (1 : Int32)), .val (.int (0 : Int32)), .val (.int (1 : Int32))] [])) _
        refine XS.aload X120.here hx rfl (hb hby at_107) rfl rfl ?_
        show Steps p.tables e below (T120.setTop (mkF m 109 #[.val (.long q1), .second, .val (.long q2), .second, .val (.long q3), .second, .val (.int p4), .val (.int p5), .val (.ref b102), .val (.int (1 : Int32)), .val (.int (0 : Int32)), .val (.int (1 : Int32))] [(.ref b102)])) _
        refine st121.trans ?_
        show Steps p.tables e below (T121.setTop (mkF m 112 #[.val (.long q1), .second, .val (.long q2), .second, .val (.long q3), .second, .val (.int p4), .val (.int p5), .val (.ref b102), .val (.int (1 : Int32)), .val (.int (0 : Int32)), .val (.int (1 : Int32))] [(.int (1 : Int32))])) _
        refine XS.iload X121.here hx rfl (hb hby at_112) rfl ?_
        show Steps p.tables e below (T121.setTop (mkF m 114 #[.val (.long q1), .second, .val (.long q2), .second, .val (.long q3), .second, .val (.int p4), .val (.int p5), .val (.ref b102), .val (.int (1 : Int32)), .val (.int (0 : Int32)), .val (.int (1 : Int32))] [(.int (1 : Int32)), (.int (1 : Int32))])) _
        refine XS.icmpNo X121.here hx rfl (hb hby at_114) rfl (teq (by decide : (1 : Int32) = (1 : Int32))).2 ?_
        show Steps p.tables e below (T121.setTop (mkF m 117 #[.val (.long q1), .second, .val (.long q2), .second, .val (.long q3), .second, .val (.int p4), .val (.int p5), .val (.ref b102), .val (.int (1 : Int32)), .val (.int (0 : Int32)), .val (.int (1 : Int32))] [])) _
        refine XS.iconst X121.here hx rfl (hb hby at_117) ?_
        show Steps p.tables e below (T121.setTop (mkF m 118 #[.val (.long q1), .second, .val (.long q2), .second, .val (.long q3), .second, .val (.int p4), .val (.int p5), .val (.ref b102), .val (.int (1 : Int32)), .val (.int (0 : Int32)), .val (.int (1 : Int32))] [(.int (1 : Int32))])) _
        refine XS.goto X121.here hx rfl (pc0 := 118) (pc' := 122) rfl (hb hby at_118) (by decide) (by decide) ?_
        show Steps p.tables e below (T121.setTop (mkF m 122 #[.val (.long q1), .second, .val (.long q2), .second, .val (.long q3), .second, .val (.int p4), .val (.int p5), .val (.ref b102), .val (.int (1 : Int32)), .val (.int (0 : Int32)), .val (.int (1 : Int32))] [(.int (1 : Int32))])) _
        refine XS.istore X121.here hx rfl (hb hby at_122) rfl (l' := #[.val (.long q1), .second, .val (.long q2), .second, .val (.long q3), .second, .val (.int p4), .val (.int p5), .val (.ref b102), .val (.int (1 : Int32)), .val (.int (0 : Int32)), .val (.int (1 : Int32))]) rfl ?_
        show Steps p.tables e below (T121.setTop (mkF m 124 #[.val (.long q1), .second, .val (.long q2), .second, .val (.long q3), .second, .val (.int p4), .val (.int p5), .val (.ref b102), .val (.int (1 : Int32)), .val (.int (0 : Int32)), .val (.int (1 : Int32))] [])) _
        refine XS.iload X121.here hx rfl (hb hby at_124) rfl ?_
        show Steps p.tables e below (T121.setTop (mkF m 126 #[.val (.long q1), .second, .val (.long q2), .second, .val (.long q3), .second, .val (.int p4), .val (.int p5), .val (.ref b102), .val (.int (1 : Int32)), .val (.int (0 : Int32)), .val (.int (1 : Int32))] [(.int (0 : Int32))])) _
        refine XS.ifYes X121.here hx rfl (pc0 := 126) (pc' := 162) rfl (hb hby at_126) rfl ((if0 _ _).trans (teq (by decide : (0 : Int32) = (0 : Int32))).1) (by decide) (by decide) ?_
        show Steps p.tables e below (T121.setTop (mkF m 162 #[.val (.long q1), .second, .val (.long q2), .second, .val (.long q3), .second, .val (.int p4), .val (.int p5), .val (.ref b102), .val (.int (1 : Int32)), .val (.int (0 : Int32)), .val (.int (1 : Int32))] [])) _
        refine XS.iload X121.here hx rfl (hb hby at_162) rfl ?_
        show Steps p.tables e below (T121.setTop (mkF m 164 #[.val (.long q1), .second, .val (.long q2), .second, .val (.long q3), .second, .val (.int p4), .val (.int p5), .val (.ref b102), .val (.int (1 : Int32)), .val (.int (0 : Int32)), .val (.int (1 : Int32))] [(.int (1 : Int32))])) _
        exact retN X121 hx (t := .boolean) Bd.returns (by simp) (hb hby at_164) hr
      · show Q0 Z q1 q2 q3 p4 p5 h0 n0 _ T121.heap _
        rw [P121_0]
        exact ⟨rfl, N121⟩
    · obtain ⟨cq122, kq122, q122a, q122b, q122c⟩ := isOf hZ0 rfl f112
      obtain ⟨_, _, ⟨T122, L122, k122, n122⟩, -, X122, ⟨Lc122, hQ122, l122, y122, z122⟩, st122⟩ := X110.virtualBack hx (y := (⟨"holdfast/CountedIds$Batch", "full", "()Z"⟩ : MethodName)) (z := (⟨"holdfast/CountedIds$Batch", "full", "()Z"⟩ : MethodName)) hown0 (mvT hZ0 (hw _ (List.mem_of_getElem? (i := 23) rfl))) (mvT hZ0 (hw _ (List.mem_of_getElem? (i := 24) rfl))) (notFace_of_selects (args := #[]) (mvT hZ0 (hw _ (List.mem_of_getElem? (i := 26) rfl)))) (mvT hZ0 (hw _ (List.mem_of_getElem? (i := 26) rfl))) (mvT hZ0 (hw _ (List.mem_of_getElem? (i := 25) rfl))) (by decide) (backOf (W := 0) (rm3 l Z a0 hw [] b102 (0 : Int32) T110.heap n0 Zs110 P110_6 (by decide)) hZ0 (hw _ (List.mem_of_getElem? (i := 27) rfl)) (hw _ (List.mem_of_getElem? (i := 2) rfl)) (by decide) (by decide)) q122a q122c (g := (mkF m 31 #[.val (.long q1), .second, .val (.long q2), .second, .val (.long q3), .second, .val (.int p4), .val (.int p5), .val (.ref b102), .val (.int (1 : Int32)), .val (.int (1 : Int32)), .unset] [(.ref b102)])) rfl (by rw [hml]; rfl) (Steps.refl _) (argsL := []) (rest := []) (lenOf pd_2 rfl) rfl (by show 2 * 0 + _ ≤ _; exact Nat.le_of_eq rfl) (hb hby at_31) (fun _ _ => ⟨rfl, rfl, (by decide : 5 + 0 ≤ _), (by decide : 262 + 0 ≤ _)⟩)
      dsimp only [Pt.U, Pt.locs, Pt.cells, Pt.slots] at X122 l122 y122 z122 st122 hQ122
      subst l122 y122 z122
      obtain ⟨rfl, N122q, P122_0⟩ := hQ122
      have N122 := Fr.app N110 N122q
      obtain ⟨cq123, kq123, q123a, q123b, q123c⟩ := isOf hZ0 P122_0 f112
      obtain ⟨_, _, ⟨T123, L123, k123, n123⟩, -, X123, ⟨Lc123, hQ123, l123, y123, z123⟩, st123⟩ := X122.virtualBack hx (y := (⟨"holdfast/CountedIds$Batch", "size", "()I"⟩ : MethodName)) (z := (⟨"holdfast/CountedIds$Batch", "size", "()I"⟩ : MethodName)) hown0 (mvT hZ0 (hw _ (List.mem_of_getElem? (i := 31) rfl))) (mvT hZ0 (hw _ (List.mem_of_getElem? (i := 32) rfl))) (notFace_of_selects (args := #[]) (mvT hZ0 (hw _ (List.mem_of_getElem? (i := 34) rfl)))) (mvT hZ0 (hw _ (List.mem_of_getElem? (i := 34) rfl))) (mvT hZ0 (hw _ (List.mem_of_getElem? (i := 33) rfl))) (by decide) (backOf (W := 0) (rm4 l Z a0 hw [] b102 (0 : Int32) T110.heap n0 Zs110 P110_6) hZ0 (hw _ (List.mem_of_getElem? (i := 35) rfl)) (hw _ (List.mem_of_getElem? (i := 2) rfl)) (by decide) (by decide)) q123a q123c (g := (mkF m 39 #[.val (.long q1), .second, .val (.long q2), .second, .val (.long q3), .second, .val (.int p4), .val (.int p5), .val (.ref b102), .val (.int (1 : Int32)), .val (.int (1 : Int32)), .unset] [(.ref b102)])) rfl (by rw [hml]; rfl) (Steps.refl _) (argsL := []) (rest := []) (lenOf pd_3 rfl) rfl (by show 2 * 0 + _ ≤ _; exact Nat.le_of_eq rfl) (hb hby at_39) (fun _ _ => ⟨rfl, P122_0, (by decide : 5 + 0 ≤ _), (by decide : 262 + 0 ≤ _)⟩)
      dsimp only [Pt.U, Pt.locs, Pt.cells, Pt.slots] at X123 l123 y123 z123 st123 hQ123
      subst l123 y123 z123
      obtain ⟨rfl, N123q, P123_0⟩ := hQ123
      have N123 := Fr.app N122 N123q
      obtain ⟨cq124, kq124, q124a, q124b, q124c⟩ := isOf hZ0 P123_0 f112
      obtain ⟨_, _, ⟨T124, L124, k124, n124⟩, -, X124, ⟨Lc124, hQ124, l124, y124, z124⟩, st124⟩ := X123.virtualBack hx (y := (⟨"holdfast/CountedIds$Batch", "add", "(JI)V"⟩ : MethodName)) (z := (⟨"holdfast/CountedIds$Batch", "add", "(JI)V"⟩ : MethodName)) hown0 (mvT hZ0 (hw _ (List.mem_of_getElem? (i := 36) rfl))) (mvT hZ0 (hw _ (List.mem_of_getElem? (i := 37) rfl))) (notFace_of_selects (args := #[]) (mvT hZ0 (hw _ (List.mem_of_getElem? (i := 39) rfl)))) (mvT hZ0 (hw _ (List.mem_of_getElem? (i := 39) rfl))) (mvT hZ0 (hw _ (List.mem_of_getElem? (i := 38) rfl))) (by decide) (backOf (W := 0) (rm5z l Z a0 hw [] b102 q1 p4 d_110 t_110 kd_110 kt_110 (1 : Int32) T110.heap n0 Zs110 f111 pf0 f112 gn_b102 gn_d_110 gn_t_110 ne_b102_d_110 ne_b102_t_110 P110_3 P110_4 P110_5 P110_6 P110_7 P110_8 P110_9 P110_10 P110_11) hZ0 (hw _ (List.mem_of_getElem? (i := 40) rfl)) (hw _ (List.mem_of_getElem? (i := 2) rfl)) (by decide) (by decide)) q124a q124c (g := (mkF m 62 #[.val (.long q1), .second, .val (.long q2), .second, .val (.long q3), .second, .val (.int p4), .val (.int p5), .val (.ref b102), .val (.int (1 : Int32)), .val (.int (1 : Int32)), .val (.int (1 : Int32))] [(.int p4), (.long q1), (.ref b102)])) rfl (by rw [hml]; rfl) (Steps.refl _) (argsL := [(.long q1), (.int p4)]) (rest := []) (lenOf pd_4 rfl) rfl (by show 2 * 0 + _ ≤ _; exact Nat.le_of_eq rfl) (hb hby at_62) (fun _ _ => ⟨rfl, P123_0, (by decide : 5 + 2 ≤ _), (by decide : 262 + 32768 ≤ _)⟩)
      dsimp only [Pt.U, Pt.locs, Pt.cells, Pt.slots] at X124 l124 y124 z124 st124 hQ124
      subst l124 y124 z124
      obtain ⟨dd_124, tt_124, rfl, N124q, P124_0, P124_1, P124_2, P124_3, P124_4, P124_5, P124_6, P124_7, P124_8, P124_9, P124_10, P124_11⟩ := hQ124
      have N124 := Fr.app N123 N124q
      have ne_b102_dd_124 : b102 ≠ dd_124 := Nat.ne_of_lt (Nat.lt_of_lt_of_le f112.lt P124_1)
      have ne_d_110_dd_124 : d_110 ≠ dd_124 := Nat.ne_of_lt (Nat.lt_of_lt_of_le P110_8.lt P124_1)
      have ne_t_110_dd_124 : t_110 ≠ dd_124 := Nat.ne_of_lt (Nat.lt_of_lt_of_le P110_9.lt P124_1)
      have gn_dd_124 : n0 ≤ dd_124 := Nat.le_trans Zs110 P124_1
      have ne_b102_tt_124 : b102 ≠ tt_124 := Nat.ne_of_lt (Nat.lt_of_lt_of_le f112.lt P124_2)
      have ne_d_110_tt_124 : d_110 ≠ tt_124 := Nat.ne_of_lt (Nat.lt_of_lt_of_le P110_8.lt P124_2)
      have ne_t_110_tt_124 : t_110 ≠ tt_124 := Nat.ne_of_lt (Nat.lt_of_lt_of_le P110_9.lt P124_2)
      have gn_tt_124 : n0 ≤ tt_124 := Nat.le_trans Zs110 P124_2
      have f125 : Old Z n0 T124.heap := f111.keep P124_0 (allS gn_b102 (allS gn_d_110 (allS gn_t_110 all0)))
      have f126 : Exa Z T124.heap b102 "holdfast/CountedIds$Batch" := f112.keep P124_0
      have Zs124 : n0 ≤ T124.heap.size := Nat.le_trans Zs110 P124_0.1
      obtain ⟨cq127, kq127, q127a, q127b, q127c⟩ := isOf hZ0 rfl f126
      obtain ⟨_, _, ⟨T127, L127, k127, n127⟩, -, X127, ⟨Lc127, hQ127, l127, y127, z127⟩, st127⟩ := X124.virtualBack hx (y := (⟨"holdfast/CountedIds$Batch", "full", "()Z"⟩ : MethodName)) (z := (⟨"holdfast/CountedIds$Batch", "full", "()Z"⟩ : MethodName)) hown0 (mvT hZ0 (hw _ (List.mem_of_getElem? (i := 23) rfl))) (mvT hZ0 (hw _ (List.mem_of_getElem? (i := 24) rfl))) (notFace_of_selects (args := #[]) (mvT hZ0 (hw _ (List.mem_of_getElem? (i := 26) rfl)))) (mvT hZ0 (hw _ (List.mem_of_getElem? (i := 26) rfl))) (mvT hZ0 (hw _ (List.mem_of_getElem? (i := 25) rfl))) (by decide) (backOf (W := 0) (rm3 l Z a0 hw [] b102 (1 : Int32) T124.heap n0 Zs124 P124_6 (by decide)) hZ0 (hw _ (List.mem_of_getElem? (i := 27) rfl)) (hw _ (List.mem_of_getElem? (i := 2) rfl)) (by decide) (by decide)) q127a q127c (g := (mkF m 101 #[.val (.long q1), .second, .val (.long q2), .second, .val (.long q3), .second, .val (.int p4), .val (.int p5), .val (.ref b102), .val (.int (1 : Int32)), .val (.int (1 : Int32)), .val (.int (1 : Int32))] [(.ref b102)])) rfl (by rw [hml]; rfl) (Steps.refl _) (argsL := []) (rest := []) (lenOf pd_2 rfl) rfl (by show 2 * 0 + _ ≤ _; exact Nat.le_of_eq rfl) (hb hby at_101) (fun _ _ => ⟨rfl, rfl, (by decide : 7 + 0 ≤ _), (by decide : 33030 + 0 ≤ _)⟩)
      dsimp only [Pt.U, Pt.locs, Pt.cells, Pt.slots] at X127 l127 y127 z127 st127 hQ127
      subst l127 y127 z127
      obtain ⟨rfl, N127q, P127_0⟩ := hQ127
      have N127 := Fr.app N124 N127q
      obtain ⟨cq128, kq128, q128a, q128b, q128c⟩ := isOf hZ0 P127_0 f126
      obtain ⟨_, _, ⟨T128, L128, k128, n128⟩, -, X128, ⟨Lc128, hQ128, l128, y128, z128⟩, st128⟩ := X127.virtualBack hx (y := (⟨"holdfast/CountedIds$Batch", "size", "()I"⟩ : MethodName)) (z := (⟨"holdfast/CountedIds$Batch", "size", "()I"⟩ : MethodName)) hown0 (mvT hZ0 (hw _ (List.mem_of_getElem? (i := 31) rfl))) (mvT hZ0 (hw _ (List.mem_of_getElem? (i := 32) rfl))) (notFace_of_selects (args := #[]) (mvT hZ0 (hw _ (List.mem_of_getElem? (i := 34) rfl)))) (mvT hZ0 (hw _ (List.mem_of_getElem? (i := 34) rfl))) (mvT hZ0 (hw _ (List.mem_of_getElem? (i := 33) rfl))) (by decide) (backOf (W := 0) (rm4 l Z a0 hw [] b102 (1 : Int32) T124.heap n0 Zs124 P124_6) hZ0 (hw _ (List.mem_of_getElem? (i := 35) rfl)) (hw _ (List.mem_of_getElem? (i := 2) rfl)) (by decide) (by decide)) q128a q128c (g := (mkF m 109 #[.val (.long q1), .second, .val (.long q2), .second, .val (.long q3), .second, .val (.int p4), .val (.int p5), .val (.ref b102), .val (.int (1 : Int32)), .val (.int (1 : Int32)), .val (.int (1 : Int32))] [(.ref b102)])) rfl (by rw [hml]; rfl) (Steps.refl _) (argsL := []) (rest := []) (lenOf pd_3 rfl) rfl (by show 2 * 0 + _ ≤ _; exact Nat.le_of_eq rfl) (hb hby at_109) (fun _ _ => ⟨rfl, P127_0, (by decide : 7 + 0 ≤ _), (by decide : 33030 + 0 ≤ _)⟩)
      dsimp only [Pt.U, Pt.locs, Pt.cells, Pt.slots] at X128 l128 y128 z128 st128 hQ128
      subst l128 y128 z128
      obtain ⟨rfl, N128q, P128_0⟩ := hQ128
      have N128 := Fr.app N127 N128q
      obtain ⟨cq129, kq129, q129a, q129b, q129c⟩ := isOf hZ0 P128_0 f126
      obtain ⟨_, _, ⟨T129, L129, k129, n129⟩, -, X129, ⟨Lc129, hQ129, l129, y129, z129⟩, st129⟩ := X128.virtualBack hx (y := (⟨"holdfast/CountedIds$Batch", "clear", "()V"⟩ : MethodName)) (z := (⟨"holdfast/CountedIds$Batch", "clear", "()V"⟩ : MethodName)) hown0 (mvT hZ0 (hw _ (List.mem_of_getElem? (i := 50) rfl))) (mvT hZ0 (hw _ (List.mem_of_getElem? (i := 51) rfl))) (notFace_of_selects (args := #[]) (mvT hZ0 (hw _ (List.mem_of_getElem? (i := 53) rfl)))) (mvT hZ0 (hw _ (List.mem_of_getElem? (i := 53) rfl))) (mvT hZ0 (hw _ (List.mem_of_getElem? (i := 52) rfl))) (by decide) (backOf (W := 0) (rm7 l Z a0 hw [] b102 d_110 t_110 (0 : Int32) (1 : Int32) T124.heap n0 Zs124 f126 gn_b102 P124_4 P124_5 P124_6 P124_7) hZ0 (hw _ (List.mem_of_getElem? (i := 54) rfl)) (hw _ (List.mem_of_getElem? (i := 2) rfl)) (by decide) (by decide)) q129a q129c (g := (mkF m 131 #[.val (.long q1), .second, .val (.long q2), .second, .val (.long q3), .second, .val (.int p4), .val (.int p5), .val (.ref b102), .val (.int (1 : Int32)), .val (.int (1 : Int32)), .val (.int (1 : Int32))] [(.ref b102)])) rfl (by rw [hml]; rfl) (Steps.refl _) (argsL := []) (rest := []) (lenOf pd_1 rfl) rfl (by show 2 * 0 + _ ≤ _; exact Nat.le_of_eq rfl) (hb hby at_131) (fun _ _ => ⟨rfl, P128_0, (by decide : 7 + 0 ≤ _), (by decide : 33030 + 0 ≤ _)⟩)
      dsimp only [Pt.U, Pt.locs, Pt.cells, Pt.slots] at X129 l129 y129 z129 st129 hQ129
      subst l129 y129 z129
      obtain ⟨rfl, N129q, P129_0, P129_1, P129_2, P129_3, P129_4⟩ := hQ129
      have N129 := Fr.app N128 N129q
      have f130 : Old Z n0 T129.heap := f125.keep P129_0 (allS gn_b102 all0)
      have f131 : Exa Z T129.heap b102 "holdfast/CountedIds$Batch" := f126.keep P129_0
      have f132 : Arv Z T129.heap d_110 kd_110 (.array .long) (64 : Int32) [(.ref dd_124)] .null := P124_8.keep P129_0 (ninS (Ne.symm ne_b102_d_110) nin0)
      have f133 : Arv Z T129.heap t_110 kt_110 (.array .int) (64 : Int32) [(.ref tt_124)] .null := P124_9.keep P129_0 (ninS (Ne.symm ne_b102_t_110) nin0)
      have f134 : OwnLng Z T129.heap dd_124 := OwnLng.keep P124_10 P129_0 (ninS (Ne.symm ne_b102_dd_124) nin0)
      have f135 : OwnTg Z T129.heap tt_124 (own_up own_none (0 : Int32) p4) := OwnTg.keep P124_11 P129_0 (ninS (Ne.symm ne_b102_tt_124) nin0)
      have Zs129 : n0 ≤ T129.heap.size := Nat.le_trans Zs124 P129_0.1
      obtain ⟨cq136, kq136, q136a, q136b, q136c⟩ := isOf hZ0 rfl f131
      obtain ⟨_, _, ⟨T136, L136, k136, n136⟩, -, X136, ⟨Lc136, hQ136, l136, y136, z136⟩, st136⟩ := X129.virtualBack hx (y := (⟨"holdfast/CountedIds$Batch", "full", "()Z"⟩ : MethodName)) (z := (⟨"holdfast/CountedIds$Batch", "full", "()Z"⟩ : MethodName)) hown0 (mvT hZ0 (hw _ (List.mem_of_getElem? (i := 23) rfl))) (mvT hZ0 (hw _ (List.mem_of_getElem? (i := 24) rfl))) (notFace_of_selects (args := #[]) (mvT hZ0 (hw _ (List.mem_of_getElem? (i := 26) rfl)))) (mvT hZ0 (hw _ (List.mem_of_getElem? (i := 26) rfl))) (mvT hZ0 (hw _ (List.mem_of_getElem? (i := 25) rfl))) (by decide) (backOf (W := 0) (rm3 l Z a0 hw [] b102 (0 : Int32) T129.heap n0 Zs129 P129_3 (by decide)) hZ0 (hw _ (List.mem_of_getElem? (i := 27) rfl)) (hw _ (List.mem_of_getElem? (i := 2) rfl)) (by decide) (by decide)) q136a q136c (g := (mkF m 141 #[.val (.long q1), .second, .val (.long q2), .second, .val (.long q3), .second, .val (.int p4), .val (.int p5), .val (.ref b102), .val (.int (1 : Int32)), .val (.int (1 : Int32)), .val (.int (1 : Int32))] [(.ref b102)])) rfl (by rw [hml]; rfl) (Steps.refl _) (argsL := []) (rest := []) (lenOf pd_2 rfl) rfl (by show 2 * 0 + _ ≤ _; exact Nat.le_of_eq rfl) (hb hby at_141) (fun _ _ => ⟨rfl, rfl, (by decide : 7 + 0 ≤ _), (by decide : 33030 + 0 ≤ _)⟩)
      dsimp only [Pt.U, Pt.locs, Pt.cells, Pt.slots] at X136 l136 y136 z136 st136 hQ136
      subst l136 y136 z136
      obtain ⟨rfl, N136q, P136_0⟩ := hQ136
      have N136 := Fr.app N129 N136q
      obtain ⟨cq137, kq137, q137a, q137b, q137c⟩ := isOf hZ0 P136_0 f131
      obtain ⟨_, _, ⟨T137, L137, k137, n137⟩, -, X137, ⟨Lc137, hQ137, l137, y137, z137⟩, st137⟩ := X136.virtualBack hx (y := (⟨"holdfast/CountedIds$Batch", "size", "()I"⟩ : MethodName)) (z := (⟨"holdfast/CountedIds$Batch", "size", "()I"⟩ : MethodName)) hown0 (mvT hZ0 (hw _ (List.mem_of_getElem? (i := 31) rfl))) (mvT hZ0 (hw _ (List.mem_of_getElem? (i := 32) rfl))) (notFace_of_selects (args := #[]) (mvT hZ0 (hw _ (List.mem_of_getElem? (i := 34) rfl)))) (mvT hZ0 (hw _ (List.mem_of_getElem? (i := 34) rfl))) (mvT hZ0 (hw _ (List.mem_of_getElem? (i := 33) rfl))) (by decide) (backOf (W := 0) (rm4 l Z a0 hw [] b102 (0 : Int32) T129.heap n0 Zs129 P129_3) hZ0 (hw _ (List.mem_of_getElem? (i := 35) rfl)) (hw _ (List.mem_of_getElem? (i := 2) rfl)) (by decide) (by decide)) q137a q137c (g := (mkF m 149 #[.val (.long q1), .second, .val (.long q2), .second, .val (.long q3), .second, .val (.int p4), .val (.int p5), .val (.ref b102), .val (.int (1 : Int32)), .val (.int (1 : Int32)), .val (.int (1 : Int32))] [(.ref b102)])) rfl (by rw [hml]; rfl) (Steps.refl _) (argsL := []) (rest := []) (lenOf pd_3 rfl) rfl (by show 2 * 0 + _ ≤ _; exact Nat.le_of_eq rfl) (hb hby at_149) (fun _ _ => ⟨rfl, P136_0, (by decide : 7 + 0 ≤ _), (by decide : 33030 + 0 ≤ _)⟩)
      dsimp only [Pt.U, Pt.locs, Pt.cells, Pt.slots] at X137 l137 y137 z137 st137 hQ137
      subst l137 y137 z137
      obtain ⟨rfl, N137q, P137_0⟩ := hQ137
      have N137 := Fr.app N136 N137q
      obtain ⟨fs, hr, hrun, hended, hW, hsame⟩ := X137.leave (v := some (.int (1 : Int32))) (fun h => by rw [Bd.returns] at h; cases h) hlk
      refine ⟨_, _, pre0 _ ?_, hrun, hended, _, _, rfl, ?_, ⟨_, rfl⟩, hW, hsame.mono (by decide) (by decide)⟩
      · refine pr113 _ ?_
        show Steps p.tables e below (T110.setTop (mkF m 19 #[.val (.long q1), .second, .val (.long q2), .second, .val (.long q3), .second, .val (.int p4), .val (.int p5), .val (.ref b102), .val (.int (1 : Int32)), .unset, .unset] [(.int (p5 &&& (4 : Int32)))])) _
        refine XS.ifNo X110.here hx rfl (hb hby at_19) rfl ((if0 _ _).trans (feq hc114).1) ?_
        show Steps p.tables e below (T110.setTop (mkF m 22 #[.val (.long q1), .second, .val (.long q2), .second, .val (.long q3), .second, .val (.int p4), .val (.int p5), .val (.ref b102), .val (.int (1 : Int32)), .unset, .unset] [])) _
        refine XS.iconst X110.here hx rfl (hb hby at_22) ?_
        show Steps p.tables e below (T110.setTop (mkF m 23 #[.val (.long q1), .second, .val (.long q2), .second, .val (.long q3), .second, .val (.int p4), .val (.int p5), .val (.ref b102), .val (.int (1 : Int32)), .unset, .unset] [(.int (1 : Int32))])) _
        refine XS.goto X110.here hx rfl (pc0 := 23) (pc' := 27) rfl (hb hby at_23) (by decide) (by decide) ?_
        show Steps p.tables e below (T110.setTop (mkF m 27 #[.val (.long q1), .second, .val (.long q2), .second, .val (.long q3), .second, .val (.int p4), .val (.int p5), .val (.ref b102), .val (.int (1 : Int32)), .unset, .unset] [(.int (1 : Int32))])) _
        refine XS.istore X110.here hx rfl (hb hby at_27) rfl (l' := #[.val (.long q1), .second, .val (.long q2), .second, .val (.long q3), .second, .val (.int p4), .val (.int p5), .val (.ref b102), .val (.int (1 : Int32)), .val (.int (1 : Int32)), .unset]) rfl ?_
        show Steps p.tables e below (T110.setTop (mkF m 29 #[.val (.long q1), .second, .val (.long q2), .second, .val (.long q3), .second, .val (.int p4), .val (.int p5), .val (.ref b102), .val (.int (1 : Int32)), .val (.int (1 : Int32)), .unset] [])) _
        refine XS.aload X110.here hx rfl (hb hby at_29) rfl rfl ?_
        show Steps p.tables e below (T110.setTop (mkF m 31 #[.val (.long q1), .second, .val (.long q2), .second, .val (.long q3), .second, .val (.int p4), .val (.int p5), .val (.ref b102), .val (.int (1 : Int32)), .val (.int (1 : Int32)), .unset] [(.ref b102)])) _
        refine st122.trans ?_
        show Steps p.tables e below (T122.setTop (mkF m 34 #[.val (.long q1), .second, .val (.long q2), .second, .val (.long q3), .second, .val (.int p4), .val (.int p5), .val (.ref b102), .val (.int (1 : Int32)), .val (.int (1 : Int32)), .unset] [(.int (0 : Int32))])) _
        refine XS.ifNo X122.here hx rfl (hb hby at_34) rfl ((if0 _ _).trans (teq (by decide : (0 : Int32) = (0 : Int32))).2) ?_
        show Steps p.tables e below (T122.setTop (mkF m 37 #[.val (.long q1), .second, .val (.long q2), .second, .val (.long q3), .second, .val (.int p4), .val (.int p5), .val (.ref b102), .val (.int (1 : Int32)), .val (.int (1 : Int32)), .unset] [])) _
        refine XS.aload X122.here hx rfl (hb hby at_37) rfl rfl ?_
        show Steps p.tables e below (T122.setTop (mkF m 39 #[.val (.long q1), .second, .val (.long q2), .second, .val (.long q3), .second, .val (.int p4), .val (.int p5), .val (.ref b102), .val (.int (1 : Int32)), .val (.int (1 : Int32)), .unset] [(.ref b102)])) _
        refine st123.trans ?_
        show Steps p.tables e below (T123.setTop (mkF m 42 #[.val (.long q1), .second, .val (.long q2), .second, .val (.long q3), .second, .val (.int p4), .val (.int p5), .val (.ref b102), .val (.int (1 : Int32)), .val (.int (1 : Int32)), .unset] [(.int (0 : Int32))])) _
        refine XS.ifNo X123.here hx rfl (hb hby at_42) rfl ((if0 _ _).trans (teq (by decide : (0 : Int32) = (0 : Int32))).2) ?_
        show Steps p.tables e below (T123.setTop (mkF m 45 #[.val (.long q1), .second, .val (.long q2), .second, .val (.long q3), .second, .val (.int p4), .val (.int p5), .val (.ref b102), .val (.int (1 : Int32)), .val (.int (1 : Int32)), .unset] [])) _
        refine XS.iconst X123.here hx rfl (hb hby at_45) ?_
        show Steps p.tables e below (T123.setTop (mkF m 46 #[.val (.long q1), .second, .val (.long q2), .second, .val (.long q3), .second, .val (.int p4), .val (.int p5), .val (.ref b102), .val (.int (1 : Int32)), .val (.int (1 : Int32)), .unset] [(.int (1 : Int32))])) _
        refine XS.goto X123.here hx rfl (pc0 := 46) (pc' := 50) rfl (hb hby at_46) (by decide) (by decide) ?_
        show Steps p.tables e below (T123.setTop (mkF m 50 #[.val (.long q1), .second, .val (.long q2), .second, .val (.long q3), .second, .val (.int p4), .val (.int p5), .val (.ref b102), .val (.int (1 : Int32)), .val (.int (1 : Int32)), .unset] [(.int (1 : Int32))])) _
        refine XS.istore X123.here hx rfl (hb hby at_50) rfl (l' := #[.val (.long q1), .second, .val (.long q2), .second, .val (.long q3), .second, .val (.int p4), .val (.int p5), .val (.ref b102), .val (.int (1 : Int32)), .val (.int (1 : Int32)), .val (.int (1 : Int32))]) rfl ?_
        show Steps p.tables e below (T123.setTop (mkF m 52 #[.val (.long q1), .second, .val (.long q2), .second, .val (.long q3), .second, .val (.int p4), .val (.int p5), .val (.ref b102), .val (.int (1 : Int32)), .val (.int (1 : Int32)), .val (.int (1 : Int32))] [])) _
        refine XS.iload X123.here hx rfl (hb hby at_52) rfl ?_
        show Steps p.tables e below (T123.setTop (mkF m 54 #[.val (.long q1), .second, .val (.long q2), .second, .val (.long q3), .second, .val (.int p4), .val (.int p5), .val (.ref b102), .val (.int (1 : Int32)), .val (.int (1 : Int32)), .val (.int (1 : Int32))] [(.int (1 : Int32))])) _
        refine XS.ifNo X123.here hx rfl (hb hby at_54) rfl ((if0 _ _).trans (tlt (by decide : (0 : Int32) < (1 : Int32))).2.2.2) ?_
        show Steps p.tables e below (T123.setTop (mkF m 57 #[.val (.long q1), .second, .val (.long q2), .second, .val (.long q3), .second, .val (.int p4), .val (.int p5), .val (.ref b102), .val (.int (1 : Int32)), .val (.int (1 : Int32)), .val (.int (1 : Int32))] [])) _
        refine XS.aload X123.here hx rfl (hb hby at_57) rfl rfl ?_
        show Steps p.tables e below (T123.setTop (mkF m 59 #[.val (.long q1), .second, .val (.long q2), .second, .val (.long q3), .second, .val (.int p4), .val (.int p5), .val (.ref b102), .val (.int (1 : Int32)), .val (.int (1 : Int32)), .val (.int (1 : Int32))] [(.ref b102)])) _
        refine XS.lloadN X123.here hx rfl (hb hby at_59) rfl ?_
        show Steps p.tables e below (T123.setTop (mkF m 60 #[.val (.long q1), .second, .val (.long q2), .second, .val (.long q3), .second, .val (.int p4), .val (.int p5), .val (.ref b102), .val (.int (1 : Int32)), .val (.int (1 : Int32)), .val (.int (1 : Int32))] [(.long q1), (.ref b102)])) _
        refine XS.iload X123.here hx rfl (hb hby at_60) rfl ?_
        show Steps p.tables e below (T123.setTop (mkF m 62 #[.val (.long q1), .second, .val (.long q2), .second, .val (.long q3), .second, .val (.int p4), .val (.int p5), .val (.ref b102), .val (.int (1 : Int32)), .val (.int (1 : Int32)), .val (.int (1 : Int32))] [(.int p4), (.long q1), (.ref b102)])) _
        refine st124.trans ?_
        show Steps p.tables e below (T124.setTop (mkF m 65 #[.val (.long q1), .second, .val (.long q2), .second, .val (.long q3), .second, .val (.int p4), .val (.int p5), .val (.ref b102), .val (.int (1 : Int32)), .val (.int (1 : Int32)), .val (.int (1 : Int32))] [])) _
        refine XS.iload X124.here hx rfl (hb hby at_65) rfl ?_
        show Steps p.tables e below (T124.setTop (mkF m 67 #[.val (.long q1), .second, .val (.long q2), .second, .val (.long q3), .second, .val (.int p4), .val (.int p5), .val (.ref b102), .val (.int (1 : Int32)), .val (.int (1 : Int32)), .val (.int (1 : Int32))] [(.int (1 : Int32))])) _
        refine XS.iconst X124.here hx rfl (hb hby at_67) ?_
        show Steps p.tables e below (T124.setTop (mkF m 68 #[.val (.long q1), .second, .val (.long q2), .second, .val (.long q3), .second, .val (.int p4), .val (.int p5), .val (.ref b102), .val (.int (1 : Int32)), .val (.int (1 : Int32)), .val (.int (1 : Int32))] [(.int (1 : Int32)), (.int (1 : Int32))])) _
        refine XS.icmpYes X124.here hx rfl (pc0 := 68) (pc' := 79) rfl (hb hby at_68) rfl (flt (by decide : ¬ ((1 : Int32) < (1 : Int32)))).2.2.2 (by decide) (by decide) ?_
        show Steps p.tables e below (T124.setTop (mkF m 79 #[.val (.long q1), .second, .val (.long q2), .second, .val (.long q3), .second, .val (.int p4), .val (.int p5), .val (.ref b102), .val (.int (1 : Int32)), .val (.int (1 : Int32)), .val (.int (1 : Int32))] [])) _
        refine XS.iload X124.here hx rfl (hb hby at_79) rfl ?_
        show Steps p.tables e below (T124.setTop (mkF m 81 #[.val (.long q1), .second, .val (.long q2), .second, .val (.long q3), .second, .val (.int p4), .val (.int p5), .val (.ref b102), .val (.int (1 : Int32)), .val (.int (1 : Int32)), .val (.int (1 : Int32))] [(.int (1 : Int32))])) _
        refine XS.iconst X124.here hx rfl (hb hby at_81) ?_
        show Steps p.tables e below (T124.setTop (mkF m 82 #[.val (.long q1), .second, .val (.long q2), .second, .val (.long q3), .second, .val (.int p4), .val (.int p5), .val (.ref b102), .val (.int (1 : Int32)), .val (.int (1 : Int32)), .val (.int (1 : Int32))] [(.int (2 : Int32)), (.int (1 : Int32))])) _
        refine XS.icmpYes X124.here hx rfl (pc0 := 82) (pc' := 94) rfl (hb hby at_82) rfl (flt (by decide : ¬ ((2 : Int32) < (1 : Int32)))).2.2.2 (by decide) (by decide) ?_
        show Steps p.tables e below (T124.setTop (mkF m 94 #[.val (.long q1), .second, .val (.long q2), .second, .val (.long q3), .second, .val (.int p4), .val (.int p5), .val (.ref b102), .val (.int (1 : Int32)), .val (.int (1 : Int32)), .val (.int (1 : Int32))] [])) _
        refine XS.iload X124.here hx rfl (hb hby at_94) rfl ?_
        show Steps p.tables e below (T124.setTop (mkF m 96 #[.val (.long q1), .second, .val (.long q2), .second, .val (.long q3), .second, .val (.int p4), .val (.int p5), .val (.ref b102), .val (.int (1 : Int32)), .val (.int (1 : Int32)), .val (.int (1 : Int32))] [(.int (1 : Int32))])) _
        refine XS.ifNo X124.here hx rfl (hb hby at_96) rfl ((if0 _ _).trans (feq (by decide : ¬ ((1 : Int32) = (0 : Int32)))).1) ?_
        show Steps p.tables e below (T124.setTop (mkF m 99 #[.val (.long q1), .second, .val (.long q2), .second, .val (.long q3), .second, .val (.int p4), .val (.int p5), .val (.ref b102), .val (.int (1 : Int32)), .val (.int (1 : Int32)), .val (.int (1 : Int32))] [])) _
        refine XS.aload X124.here hx rfl (hb hby at_99) rfl rfl ?_
        show Steps p.tables e below (T124.setTop (mkF m 101 #[.val (.long q1), .second, .val (.long q2), .second, .val (.long q3), .second, .val (.int p4), .val (.int p5), .val (.ref b102), .val (.int (1 : Int32)), .val (.int (1 : Int32)), .val (.int (1 : Int32))] [(.ref b102)])) _
        refine st127.trans ?_
        show Steps p.tables e below (T127.setTop (mkF m 104 #[.val (.long q1), .second, .val (.long q2), .second, .val (.long q3), .second, .val (.int p4), .val (.int p5), .val (.ref b102), .val (.int (1 : Int32)), .val (.int (1 : Int32)), .val (.int (1 : Int32))] [(.int (0 : Int32))])) _
        refine XS.ifNo X127.here hx rfl (hb hby at_104) rfl ((if0 _ _).trans (teq (by decide : (0 : Int32) = (0 : Int32))).2) ?_
        show Steps p.tables e below (T127.setTop (mkF m 107 #[.val (.long q1), .second, .val (.long q2), .second, .val (.long q3), .second, .val (.int p4), .val (.int p5), .val (.ref b102), .val (.int (1 : Int32)), .val (.int (1 : Int32)), .val (.int (1 : Int32))] [])) _
        refine XS.aload X127.here hx rfl (hb hby at_107) rfl rfl ?_
        show Steps p.tables e below (T127.setTop (mkF m 109 #[.val (.long q1), .second, .val (.long q2), .second, .val (.long q3), .second, .val (.int p4), .val (.int p5), .val (.ref b102), .val (.int (1 : Int32)), .val (.int (1 : Int32)), .val (.int (1 : Int32))] [(.ref b102)])) _
        refine st128.trans ?_
        show Steps p.tables e below (T128.setTop (mkF m 112 #[.val (.long q1), .second, .val (.long q2), .second, .val (.long q3), .second, .val (.int p4), .val (.int p5), .val (.ref b102), .val (.int (1 : Int32)), .val (.int (1 : Int32)), .val (.int (1 : Int32))] [(.int (1 : Int32))])) _
        refine XS.iload X128.here hx rfl (hb hby at_112) rfl ?_
        show Steps p.tables e below (T128.setTop (mkF m 114 #[.val (.long q1), .second, .val (.long q2), .second, .val (.long q3), .second, .val (.int p4), .val (.int p5), .val (.ref b102), .val (.int (1 : Int32)), .val (.int (1 : Int32)), .val (.int (1 : Int32))] [(.int (1 : Int32)), (.int (1 : Int32))])) _
        refine XS.icmpNo X128.here hx rfl (hb hby at_114) rfl (teq (by decide : (1 : Int32) = (1 : Int32))).2 ?_
        show Steps p.tables e below (T128.setTop (mkF m 117 #[.val (.long q1), .second, .val (.long q2), .second, .val (.long q3), .second, .val (.int p4), .val (.int p5), .val (.ref b102), .val (.int (1 : Int32)), .val (.int (1 : Int32)), .val (.int (1 : Int32))] [])) _
        refine XS.iconst X128.here hx rfl (hb hby at_117) ?_
        show Steps p.tables e below (T128.setTop (mkF m 118 #[.val (.long q1), .second, .val (.long q2), .second, .val (.long q3), .second, .val (.int p4), .val (.int p5), .val (.ref b102), .val (.int (1 : Int32)), .val (.int (1 : Int32)), .val (.int (1 : Int32))] [(.int (1 : Int32))])) _
        refine XS.goto X128.here hx rfl (pc0 := 118) (pc' := 122) rfl (hb hby at_118) (by decide) (by decide) ?_
        show Steps p.tables e below (T128.setTop (mkF m 122 #[.val (.long q1), .second, .val (.long q2), .second, .val (.long q3), .second, .val (.int p4), .val (.int p5), .val (.ref b102), .val (.int (1 : Int32)), .val (.int (1 : Int32)), .val (.int (1 : Int32))] [(.int (1 : Int32))])) _
        refine XS.istore X128.here hx rfl (hb hby at_122) rfl (l' := #[.val (.long q1), .second, .val (.long q2), .second, .val (.long q3), .second, .val (.int p4), .val (.int p5), .val (.ref b102), .val (.int (1 : Int32)), .val (.int (1 : Int32)), .val (.int (1 : Int32))]) rfl ?_
        show Steps p.tables e below (T128.setTop (mkF m 124 #[.val (.long q1), .second, .val (.long q2), .second, .val (.long q3), .second, .val (.int p4), .val (.int p5), .val (.ref b102), .val (.int (1 : Int32)), .val (.int (1 : Int32)), .val (.int (1 : Int32))] [])) _
        refine XS.iload X128.here hx rfl (hb hby at_124) rfl ?_
        show Steps p.tables e below (T128.setTop (mkF m 126 #[.val (.long q1), .second, .val (.long q2), .second, .val (.long q3), .second, .val (.int p4), .val (.int p5), .val (.ref b102), .val (.int (1 : Int32)), .val (.int (1 : Int32)), .val (.int (1 : Int32))] [(.int (1 : Int32))])) _
        refine XS.ifNo X128.here hx rfl (hb hby at_126) rfl ((if0 _ _).trans (feq (by decide : ¬ ((1 : Int32) = (0 : Int32)))).1) ?_
        show Steps p.tables e below (T128.setTop (mkF m 129 #[.val (.long q1), .second, .val (.long q2), .second, .val (.long q3), .second, .val (.int p4), .val (.int p5), .val (.ref b102), .val (.int (1 : Int32)), .val (.int (1 : Int32)), .val (.int (1 : Int32))] [])) _
        refine XS.aload X128.here hx rfl (hb hby at_129) rfl rfl ?_
        show Steps p.tables e below (T128.setTop (mkF m 131 #[.val (.long q1), .second, .val (.long q2), .second, .val (.long q3), .second, .val (.int p4), .val (.int p5), .val (.ref b102), .val (.int (1 : Int32)), .val (.int (1 : Int32)), .val (.int (1 : Int32))] [(.ref b102)])) _
        refine st129.trans ?_
        show Steps p.tables e below (T129.setTop (mkF m 134 #[.val (.long q1), .second, .val (.long q2), .second, .val (.long q3), .second, .val (.int p4), .val (.int p5), .val (.ref b102), .val (.int (1 : Int32)), .val (.int (1 : Int32)), .val (.int (1 : Int32))] [])) _
        refine XS.iload X129.here hx rfl (hb hby at_134) rfl ?_
        show Steps p.tables e below (T129.setTop (mkF m 136 #[.val (.long q1), .second, .val (.long q2), .second, .val (.long q3), .second, .val (.int p4), .val (.int p5), .val (.ref b102), .val (.int (1 : Int32)), .val (.int (1 : Int32)), .val (.int (1 : Int32))] [(.int (1 : Int32))])) _
        refine XS.ifNo X129.here hx rfl (hb hby at_136) rfl ((if0 _ _).trans (feq (by decide : ¬ ((1 : Int32) = (0 : Int32)))).1) ?_
        show Steps p.tables e below (T129.setTop (mkF m 139 #[.val (.long q1), .second, .val (.long q2), .second, .val (.long q3), .second, .val (.int p4), .val (.int p5), .val (.ref b102), .val (.int (1 : Int32)), .val (.int (1 : Int32)), .val (.int (1 : Int32))] [])) _
        refine XS.aload X129.here hx rfl (hb hby at_139) rfl rfl ?_
        show Steps p.tables e below (T129.setTop (mkF m 141 #[.val (.long q1), .second, .val (.long q2), .second, .val (.long q3), .second, .val (.int p4), .val (.int p5), .val (.ref b102), .val (.int (1 : Int32)), .val (.int (1 : Int32)), .val (.int (1 : Int32))] [(.ref b102)])) _
        refine st136.trans ?_
        show Steps p.tables e below (T136.setTop (mkF m 144 #[.val (.long q1), .second, .val (.long q2), .second, .val (.long q3), .second, .val (.int p4), .val (.int p5), .val (.ref b102), .val (.int (1 : Int32)), .val (.int (1 : Int32)), .val (.int (1 : Int32))] [(.int (0 : Int32))])) _
        refine XS.ifNo X136.here hx rfl (hb hby at_144) rfl ((if0 _ _).trans (teq (by decide : (0 : Int32) = (0 : Int32))).2) ?_
        show Steps p.tables e below (T136.setTop (mkF m 147 #[.val (.long q1), .second, .val (.long q2), .second, .val (.long q3), .second, .val (.int p4), .val (.int p5), .val (.ref b102), .val (.int (1 : Int32)), .val (.int (1 : Int32)), .val (.int (1 : Int32))] [])) _
        refine XS.aload X136.here hx rfl (hb hby at_147) rfl rfl ?_
        show Steps p.tables e below (T136.setTop (mkF m 149 #[.val (.long q1), .second, .val (.long q2), .second, .val (.long q3), .second, .val (.int p4), .val (.int p5), .val (.ref b102), .val (.int (1 : Int32)), .val (.int (1 : Int32)), .val (.int (1 : Int32))] [(.ref b102)])) _
        refine st137.trans ?_
        show Steps p.tables e below (T137.setTop (mkF m 152 #[.val (.long q1), .second, .val (.long q2), .second, .val (.long q3), .second, .val (.int p4), .val (.int p5), .val (.ref b102), .val (.int (1 : Int32)), .val (.int (1 : Int32)), .val (.int (1 : Int32))] [(.int (0 : Int32))])) _
        refine XS.ifNo X137.here hx rfl (hb hby at_152) rfl ((if0 _ _).trans (teq (by decide : (0 : Int32) = (0 : Int32))).2) ?_
        show Steps p.tables e below (T137.setTop (mkF m 155 #[.val (.long q1), .second, .val (.long q2), .second, .val (.long q3), .second, .val (.int p4), .val (.int p5), .val (.ref b102), .val (.int (1 : Int32)), .val (.int (1 : Int32)), .val (.int (1 : Int32))] [])) _
        refine XS.iconst X137.here hx rfl (hb hby at_155) ?_
        show Steps p.tables e below (T137.setTop (mkF m 156 #[.val (.long q1), .second, .val (.long q2), .second, .val (.long q3), .second, .val (.int p4), .val (.int p5), .val (.ref b102), .val (.int (1 : Int32)), .val (.int (1 : Int32)), .val (.int (1 : Int32))] [(.int (1 : Int32))])) _
        refine XS.goto X137.here hx rfl (pc0 := 156) (pc' := 160) rfl (hb hby at_156) (by decide) (by decide) ?_
        show Steps p.tables e below (T137.setTop (mkF m 160 #[.val (.long q1), .second, .val (.long q2), .second, .val (.long q3), .second, .val (.int p4), .val (.int p5), .val (.ref b102), .val (.int (1 : Int32)), .val (.int (1 : Int32)), .val (.int (1 : Int32))] [(.int (1 : Int32))])) _
        refine XS.istore X137.here hx rfl (hb hby at_160) rfl (l' := #[.val (.long q1), .second, .val (.long q2), .second, .val (.long q3), .second, .val (.int p4), .val (.int p5), .val (.ref b102), .val (.int (1 : Int32)), .val (.int (1 : Int32)), .val (.int (1 : Int32))]) rfl ?_
        show Steps p.tables e below (T137.setTop (mkF m 162 #[.val (.long q1), .second, .val (.long q2), .second, .val (.long q3), .second, .val (.int p4), .val (.int p5), .val (.ref b102), .val (.int (1 : Int32)), .val (.int (1 : Int32)), .val (.int (1 : Int32))] [])) _
        refine XS.iload X137.here hx rfl (hb hby at_162) rfl ?_
        show Steps p.tables e below (T137.setTop (mkF m 164 #[.val (.long q1), .second, .val (.long q2), .second, .val (.long q3), .second, .val (.int p4), .val (.int p5), .val (.ref b102), .val (.int (1 : Int32)), .val (.int (1 : Int32)), .val (.int (1 : Int32))] [(.int (1 : Int32))])) _
        exact retN X137 hx (t := .boolean) Bd.returns (by simp) (hb hby at_164) hr
      · show Q0 Z q1 q2 q3 p4 p5 h0 n0 _ T137.heap _
        rw [P137_0]
        exact ⟨rfl, N137⟩
  · by_cases hc138 : (p5 &&& (3 : Int32)) = (2 : Int32)
    · obtain ⟨T139, h139, X139, e139, E139, A139, D139, -, st139⟩ := newO X0 hx hZ0 hown0 (hw _ (List.mem_of_getElem? (i := 0) rfl)) (hw _ (List.mem_of_getElem? (i := 1) rfl)) (hw _ (List.mem_of_getElem? (i := 2) rfl)) e0 (g := (mkF m 0 #[.val (.long q1), .second, .val (.long q2), .second, .val (.long q3), .second, .val (.int p4), .val (.int p5), .unset, .unset, .unset, .unset] [])) rfl (hb hby at_0) (by decide) (by decide)
      obtain ⟨b139, g139⟩ : ∃ z, z = h0.size := ⟨_, rfl⟩
      rw [← g139] at A139 D139 st139
      have gn_b139 : n0 ≤ b139 := Nat.le_trans Z0 (Nat.le_of_eq g139.symm)
      have f140 : Old Z n0 h139 := O0.ext E139
      have Zs139 : n0 ≤ h139.size := Nat.le_trans Z0 E139.1
      have f141 : Fld Z h139 b139 "holdfast/CountedIds$Batch" "digests" "[[J" .null := D139 (Or.inl (hw _ (List.mem_of_getElem? (i := 12) rfl))) (ty := (.array (.array .long))) (by decide)
      have f142 : Fld Z h139 b139 "holdfast/CountedIds$Batch" "tags" "[[I" .null := D139 (Or.inl (hw _ (List.mem_of_getElem? (i := 16) rfl))) (ty := (.array (.array .int))) (by decide)
      have f143 : Fld Z h139 b139 "holdfast/CountedIds$Batch" "spareDigests" "[[J" .null := D139 (Or.inl (hw _ (List.mem_of_getElem? (i := 18) rfl))) (ty := (.array (.array .long))) (by decide)
      have f144 : Fld Z h139 b139 "holdfast/CountedIds$Batch" "spareTags" "[[I" .null := D139 (Or.inl (hw _ (List.mem_of_getElem? (i := 20) rfl))) (ty := (.array (.array .int))) (by decide)
      have f145 : Fld Z h139 b139 "holdfast/CountedIds$Batch" "sorted" "Z" (.int (0 : Int32)) := D139 (Or.inl (hw _ (List.mem_of_getElem? (i := 22) rfl))) (ty := .boolean) (by decide)
      have f146 : Fld Z h139 b139 "holdfast/CountedIds$Batch" "size" "I" (.int (0 : Int32)) := D139 (Or.inl (hw _ (List.mem_of_getElem? (i := 29) rfl))) (ty := .int) (by decide)
      obtain ⟨_, _, ⟨T147, L147, k147, n147⟩, -, X147, ⟨Lc147, hQ147, l147, y147, z147⟩, st147⟩ := X139.specialBack hx (y := (⟨"holdfast/CountedIds$Batch", "<init>", "()V"⟩ : MethodName)) rfl hown0 (mvT hZ0 (hw _ (List.mem_of_getElem? (i := 3) rfl))) (mvT hZ0 (hw _ (List.mem_of_getElem? (i := 4) rfl))) (mvT hZ0 (hw _ (List.mem_of_getElem? (i := 5) rfl))) (by decide) (backOf (W := 1) (rm1 l Z a0 hw [] b139 h139 n0 Zs139 A139 gn_b139 f141 f142 f143 f144 f145 f146) hZ0 (hw _ (List.mem_of_getElem? (i := 5) rfl)) (hw _ (List.mem_of_getElem? (i := 2) rfl)) (by decide) (by decide)) (g := (mkF m 4 #[.val (.long q1), .second, .val (.long q2), .second, .val (.long q3), .second, .val (.int p4), .val (.int p5), .unset, .unset, .unset, .unset] [(.ref b139), (.ref b139)])) rfl (by rw [hml]; rfl) (Steps.refl _) (a := b139) (argsL := []) (rest := [(.ref b139)]) (lenOf pd_1 rfl) rfl (by show 2 * 0 + _ ≤ _; exact Nat.le_of_eq rfl) (hb hby at_4) (fun _ _ => ⟨rfl, e139, (by decide : 1 + 4 ≤ _), (by decide : 6 + 256 ≤ _)⟩)
      dsimp only [Pt.U, Pt.locs, Pt.cells, Pt.slots] at X147 l147 y147 z147 st147 hQ147
      subst l147 y147 z147
      obtain ⟨d_147, t_147, kd_147, kt_147, rfl, N147q, P147_0, P147_1, P147_2, P147_3, P147_4, P147_5, P147_6, P147_7, P147_8, P147_9, P147_10, P147_11⟩ := hQ147
      have N147 := Fr.app N0 N147q
      have ne_b139_d_147 : b139 ≠ d_147 := Nat.ne_of_lt (Nat.lt_of_lt_of_le A139.lt P147_1)
      have gn_d_147 : n0 ≤ d_147 := Nat.le_trans Zs139 P147_1
      have ne_b139_t_147 : b139 ≠ t_147 := Nat.ne_of_lt (Nat.lt_of_lt_of_le A139.lt P147_2)
      have gn_t_147 : n0 ≤ t_147 := Nat.le_trans Zs139 P147_2
      have f148 : Old Z n0 T147.heap := f140.keep P147_0 (allS gn_b139 all0)
      have f149 : Exa Z T147.heap b139 "holdfast/CountedIds$Batch" := A139.keep P147_0
      have Zs147 : n0 ≤ T147.heap.size := Nat.le_trans Zs139 P147_0.1
      have pr150 : ∀ tg9, Steps p.tables e below (T147.setTop (mkF m 19 #[.val (.long q1), .second, .val (.long q2), .second, .val (.long q3), .second, .val (.int p4), .val (.int p5), .val (.ref b139), .val (.int (2 : Int32)), .unset, .unset] [(.int (p5 &&& (4 : Int32)))])) tg9 → Steps p.tables e below (s₁.setTop (mkF m 0 #[.val (.long q1), .second, .val (.long q2), .second, .val (.long q3), .second, .val (.int p4), .val (.int p5), .unset, .unset, .unset, .unset] [])) tg9 := fun tg9 kt => by
        show Steps p.tables e below (s₁.setTop (mkF m 0 #[.val (.long q1), .second, .val (.long q2), .second, .val (.long q3), .second, .val (.int p4), .val (.int p5), .unset, .unset, .unset, .unset] [])) _
        refine st139 _ ?_
        show Steps p.tables e below (T139.setTop (mkF m 3 #[.val (.long q1), .second, .val (.long q2), .second, .val (.long q3), .second, .val (.int p4), .val (.int p5), .unset, .unset, .unset, .unset] [(.ref b139)])) _
        refine XS.dup X139.here hx rfl (hb hby at_3) rfl rfl ?_
        show Steps p.tables e below (T139.setTop (mkF m 4 #[.val (.long q1), .second, .val (.long q2), .second, .val (.long q3), .second, .val (.int p4), .val (.int p5), .unset, .unset, .unset, .unset] [(.ref b139), (.ref b139)])) _
        refine st147.trans ?_
        show Steps p.tables e below (T147.setTop (mkF m 7 #[.val (.long q1), .second, .val (.long q2), .second, .val (.long q3), .second, .val (.int p4), .val (.int p5), .unset, .unset, .unset, .unset] [(.ref b139)])) _
        refine XS.astore X147.here hx rfl (hb hby at_7) rfl rfl (l' := #[.val (.long q1), .second, .val (.long q2), .second, .val (.long q3), .second, .val (.int p4), .val (.int p5), .val (.ref b139), .unset, .unset, .unset]) rfl ?_
        show Steps p.tables e below (T147.setTop (mkF m 9 #[.val (.long q1), .second, .val (.long q2), .second, .val (.long q3), .second, .val (.int p4), .val (.int p5), .val (.ref b139), .unset, .unset, .unset] [])) _
        refine XS.iload X147.here hx rfl (hb hby at_9) rfl ?_
        show Steps p.tables e below (T147.setTop (mkF m 11 #[.val (.long q1), .second, .val (.long q2), .second, .val (.long q3), .second, .val (.int p4), .val (.int p5), .val (.ref b139), .unset, .unset, .unset] [(.int p5)])) _
        refine XS.iconst X147.here hx rfl (hb hby at_11) ?_
        show Steps p.tables e below (T147.setTop (mkF m 12 #[.val (.long q1), .second, .val (.long q2), .second, .val (.long q3), .second, .val (.int p4), .val (.int p5), .val (.ref b139), .unset, .unset, .unset] [(.int (3 : Int32)), (.int p5)])) _
        refine XS.iand X147.here hx rfl (hb hby at_12) rfl ?_
        show Steps p.tables e below (T147.setTop (mkF m 13 #[.val (.long q1), .second, .val (.long q2), .second, .val (.long q3), .second, .val (.int p4), .val (.int p5), .val (.ref b139), .unset, .unset, .unset] [(.int (p5 &&& (3 : Int32)))])) _
        rw [hc138]
        show Steps p.tables e below (T147.setTop (mkF m 13 #[.val (.long q1), .second, .val (.long q2), .second, .val (.long q3), .second, .val (.int p4), .val (.int p5), .val (.ref b139), .unset, .unset, .unset] [(.int (2 : Int32))])) _
        refine XS.istore X147.here hx rfl (hb hby at_13) rfl (l' := #[.val (.long q1), .second, .val (.long q2), .second, .val (.long q3), .second, .val (.int p4), .val (.int p5), .val (.ref b139), .val (.int (2 : Int32)), .unset, .unset]) rfl ?_
        show Steps p.tables e below (T147.setTop (mkF m 15 #[.val (.long q1), .second, .val (.long q2), .second, .val (.long q3), .second, .val (.int p4), .val (.int p5), .val (.ref b139), .val (.int (2 : Int32)), .unset, .unset] [])) _
        refine XS.iload X147.here hx rfl (hb hby at_15) rfl ?_
        show Steps p.tables e below (T147.setTop (mkF m 17 #[.val (.long q1), .second, .val (.long q2), .second, .val (.long q3), .second, .val (.int p4), .val (.int p5), .val (.ref b139), .val (.int (2 : Int32)), .unset, .unset] [(.int p5)])) _
        refine XS.iconst X147.here hx rfl (hb hby at_17) ?_
        show Steps p.tables e below (T147.setTop (mkF m 18 #[.val (.long q1), .second, .val (.long q2), .second, .val (.long q3), .second, .val (.int p4), .val (.int p5), .val (.ref b139), .val (.int (2 : Int32)), .unset, .unset] [(.int (4 : Int32)), (.int p5)])) _
        refine XS.iand X147.here hx rfl (hb hby at_18) rfl ?_
        exact kt
      by_cases hc151 : (p5 &&& (4 : Int32)) = (0 : Int32)
      · obtain ⟨cq152, kq152, q152a, q152b, q152c⟩ := isOf hZ0 rfl f149
        obtain ⟨_, _, ⟨T152, L152, k152, n152⟩, -, X152, ⟨Lc152, hQ152, l152, y152, z152⟩, st152⟩ := X147.virtualBack hx (y := (⟨"holdfast/CountedIds$Batch", "full", "()Z"⟩ : MethodName)) (z := (⟨"holdfast/CountedIds$Batch", "full", "()Z"⟩ : MethodName)) hown0 (mvT hZ0 (hw _ (List.mem_of_getElem? (i := 23) rfl))) (mvT hZ0 (hw _ (List.mem_of_getElem? (i := 24) rfl))) (notFace_of_selects (args := #[]) (mvT hZ0 (hw _ (List.mem_of_getElem? (i := 26) rfl)))) (mvT hZ0 (hw _ (List.mem_of_getElem? (i := 26) rfl))) (mvT hZ0 (hw _ (List.mem_of_getElem? (i := 25) rfl))) (by decide) (backOf (W := 0) (rm3 l Z a0 hw [] b139 (0 : Int32) T147.heap n0 Zs147 P147_6 (by decide)) hZ0 (hw _ (List.mem_of_getElem? (i := 27) rfl)) (hw _ (List.mem_of_getElem? (i := 2) rfl)) (by decide) (by decide)) q152a q152c (g := (mkF m 31 #[.val (.long q1), .second, .val (.long q2), .second, .val (.long q3), .second, .val (.int p4), .val (.int p5), .val (.ref b139), .val (.int (2 : Int32)), .val (.int (0 : Int32)), .unset] [(.ref b139)])) rfl (by rw [hml]; rfl) (Steps.refl _) (argsL := []) (rest := []) (lenOf pd_2 rfl) rfl (by show 2 * 0 + _ ≤ _; exact Nat.le_of_eq rfl) (hb hby at_31) (fun _ _ => ⟨rfl, rfl, (by decide : 5 + 0 ≤ _), (by decide : 262 + 0 ≤ _)⟩)
        dsimp only [Pt.U, Pt.locs, Pt.cells, Pt.slots] at X152 l152 y152 z152 st152 hQ152
        subst l152 y152 z152
        obtain ⟨rfl, N152q, P152_0⟩ := hQ152
        have N152 := Fr.app N147 N152q
        obtain ⟨cq153, kq153, q153a, q153b, q153c⟩ := isOf hZ0 P152_0 f149
        obtain ⟨_, _, ⟨T153, L153, k153, n153⟩, -, X153, ⟨Lc153, hQ153, l153, y153, z153⟩, st153⟩ := X152.virtualBack hx (y := (⟨"holdfast/CountedIds$Batch", "size", "()I"⟩ : MethodName)) (z := (⟨"holdfast/CountedIds$Batch", "size", "()I"⟩ : MethodName)) hown0 (mvT hZ0 (hw _ (List.mem_of_getElem? (i := 31) rfl))) (mvT hZ0 (hw _ (List.mem_of_getElem? (i := 32) rfl))) (notFace_of_selects (args := #[]) (mvT hZ0 (hw _ (List.mem_of_getElem? (i := 34) rfl)))) (mvT hZ0 (hw _ (List.mem_of_getElem? (i := 34) rfl))) (mvT hZ0 (hw _ (List.mem_of_getElem? (i := 33) rfl))) (by decide) (backOf (W := 0) (rm4 l Z a0 hw [] b139 (0 : Int32) T147.heap n0 Zs147 P147_6) hZ0 (hw _ (List.mem_of_getElem? (i := 35) rfl)) (hw _ (List.mem_of_getElem? (i := 2) rfl)) (by decide) (by decide)) q153a q153c (g := (mkF m 39 #[.val (.long q1), .second, .val (.long q2), .second, .val (.long q3), .second, .val (.int p4), .val (.int p5), .val (.ref b139), .val (.int (2 : Int32)), .val (.int (0 : Int32)), .unset] [(.ref b139)])) rfl (by rw [hml]; rfl) (Steps.refl _) (argsL := []) (rest := []) (lenOf pd_3 rfl) rfl (by show 2 * 0 + _ ≤ _; exact Nat.le_of_eq rfl) (hb hby at_39) (fun _ _ => ⟨rfl, P152_0, (by decide : 5 + 0 ≤ _), (by decide : 262 + 0 ≤ _)⟩)
        dsimp only [Pt.U, Pt.locs, Pt.cells, Pt.slots] at X153 l153 y153 z153 st153 hQ153
        subst l153 y153 z153
        obtain ⟨rfl, N153q, P153_0⟩ := hQ153
        have N153 := Fr.app N152 N153q
        obtain ⟨cq154, kq154, q154a, q154b, q154c⟩ := isOf hZ0 P153_0 f149
        obtain ⟨_, _, ⟨T154, L154, k154, n154⟩, -, X154, ⟨Lc154, hQ154, l154, y154, z154⟩, st154⟩ := X153.virtualBack hx (y := (⟨"holdfast/CountedIds$Batch", "add", "(JI)V"⟩ : MethodName)) (z := (⟨"holdfast/CountedIds$Batch", "add", "(JI)V"⟩ : MethodName)) hown0 (mvT hZ0 (hw _ (List.mem_of_getElem? (i := 36) rfl))) (mvT hZ0 (hw _ (List.mem_of_getElem? (i := 37) rfl))) (notFace_of_selects (args := #[]) (mvT hZ0 (hw _ (List.mem_of_getElem? (i := 39) rfl)))) (mvT hZ0 (hw _ (List.mem_of_getElem? (i := 39) rfl))) (mvT hZ0 (hw _ (List.mem_of_getElem? (i := 38) rfl))) (by decide) (backOf (W := 0) (rm5z l Z a0 hw [] b139 q1 p4 d_147 t_147 kd_147 kt_147 (1 : Int32) T147.heap n0 Zs147 f148 pf0 f149 gn_b139 gn_d_147 gn_t_147 ne_b139_d_147 ne_b139_t_147 P147_3 P147_4 P147_5 P147_6 P147_7 P147_8 P147_9 P147_10 P147_11) hZ0 (hw _ (List.mem_of_getElem? (i := 40) rfl)) (hw _ (List.mem_of_getElem? (i := 2) rfl)) (by decide) (by decide)) q154a q154c (g := (mkF m 62 #[.val (.long q1), .second, .val (.long q2), .second, .val (.long q3), .second, .val (.int p4), .val (.int p5), .val (.ref b139), .val (.int (2 : Int32)), .val (.int (0 : Int32)), .val (.int (1 : Int32))] [(.int p4), (.long q1), (.ref b139)])) rfl (by rw [hml]; rfl) (Steps.refl _) (argsL := [(.long q1), (.int p4)]) (rest := []) (lenOf pd_4 rfl) rfl (by show 2 * 0 + _ ≤ _; exact Nat.le_of_eq rfl) (hb hby at_62) (fun _ _ => ⟨rfl, P153_0, (by decide : 5 + 2 ≤ _), (by decide : 262 + 32768 ≤ _)⟩)
        dsimp only [Pt.U, Pt.locs, Pt.cells, Pt.slots] at X154 l154 y154 z154 st154 hQ154
        subst l154 y154 z154
        obtain ⟨dd_154, tt_154, rfl, N154q, P154_0, P154_1, P154_2, P154_3, P154_4, P154_5, P154_6, P154_7, P154_8, P154_9, P154_10, P154_11⟩ := hQ154
        have N154 := Fr.app N153 N154q
        have ne_b139_dd_154 : b139 ≠ dd_154 := Nat.ne_of_lt (Nat.lt_of_lt_of_le f149.lt P154_1)
        have ne_d_147_dd_154 : d_147 ≠ dd_154 := Nat.ne_of_lt (Nat.lt_of_lt_of_le P147_8.lt P154_1)
        have ne_t_147_dd_154 : t_147 ≠ dd_154 := Nat.ne_of_lt (Nat.lt_of_lt_of_le P147_9.lt P154_1)
        have gn_dd_154 : n0 ≤ dd_154 := Nat.le_trans Zs147 P154_1
        have ne_b139_tt_154 : b139 ≠ tt_154 := Nat.ne_of_lt (Nat.lt_of_lt_of_le f149.lt P154_2)
        have ne_d_147_tt_154 : d_147 ≠ tt_154 := Nat.ne_of_lt (Nat.lt_of_lt_of_le P147_8.lt P154_2)
        have ne_t_147_tt_154 : t_147 ≠ tt_154 := Nat.ne_of_lt (Nat.lt_of_lt_of_le P147_9.lt P154_2)
        have gn_tt_154 : n0 ≤ tt_154 := Nat.le_trans Zs147 P154_2
        have f155 : Old Z n0 T154.heap := f148.keep P154_0 (allS gn_b139 (allS gn_d_147 (allS gn_t_147 all0)))
        have f156 : Exa Z T154.heap b139 "holdfast/CountedIds$Batch" := f149.keep P154_0
        have Zs154 : n0 ≤ T154.heap.size := Nat.le_trans Zs147 P154_0.1
        obtain ⟨cq157, kq157, q157a, q157b, q157c⟩ := isOf hZ0 rfl f156
        obtain ⟨_, _, ⟨T157, L157, k157, n157⟩, -, X157, ⟨Lc157, hQ157, l157, y157, z157⟩, st157⟩ := X154.virtualBack hx (y := (⟨"holdfast/CountedIds$Batch", "add", "(JI)V"⟩ : MethodName)) (z := (⟨"holdfast/CountedIds$Batch", "add", "(JI)V"⟩ : MethodName)) hown0 (mvT hZ0 (hw _ (List.mem_of_getElem? (i := 36) rfl))) (mvT hZ0 (hw _ (List.mem_of_getElem? (i := 37) rfl))) (notFace_of_selects (args := #[]) (mvT hZ0 (hw _ (List.mem_of_getElem? (i := 39) rfl)))) (mvT hZ0 (hw _ (List.mem_of_getElem? (i := 39) rfl))) (mvT hZ0 (hw _ (List.mem_of_getElem? (i := 38) rfl))) (by decide) (backOf (W := 0) (rm5n l Z a0 hw [] b139 q2 p4 d_147 t_147 kd_147 kt_147 (0 : Int32) dd_154 tt_154 (own_up own_none (0 : Int32) p4) (1 : Int32) (2 : Int32) T154.heap n0 Zs154 f155 pf0 f156 gn_b139 gn_d_147 gn_t_147 ne_b139_d_147 ne_b139_t_147 P147_3 P154_4 P154_5 P154_6 P154_7 P154_8 P154_9 P154_10 P154_11 P154_3 ne_t_147_dd_154 ne_d_147_dd_154 ne_d_147_tt_154 ne_t_147_tt_154 ne_b139_dd_154 ne_b139_tt_154 gn_dd_154 gn_tt_154 (by decide) (by decide) (by decide) (by decide) (by decide)) hZ0 (hw _ (List.mem_of_getElem? (i := 40) rfl)) (hw _ (List.mem_of_getElem? (i := 2) rfl)) (by decide) (by decide)) q157a q157c (g := (mkF m 76 #[.val (.long q1), .second, .val (.long q2), .second, .val (.long q3), .second, .val (.int p4), .val (.int p5), .val (.ref b139), .val (.int (2 : Int32)), .val (.int (0 : Int32)), .val (.int (1 : Int32))] [(.int p4), (.long q2), (.ref b139)])) rfl (by rw [hml]; rfl) (Steps.refl _) (argsL := [(.long q2), (.int p4)]) (rest := []) (lenOf pd_4 rfl) rfl (by show 2 * 0 + _ ≤ _; exact Nat.le_of_eq rfl) (hb hby at_76) (fun _ _ => ⟨rfl, rfl, (by decide : 7 + 0 ≤ _), (by decide : 33030 + 0 ≤ _)⟩)
        dsimp only [Pt.U, Pt.locs, Pt.cells, Pt.slots] at X157 l157 y157 z157 st157 hQ157
        subst l157 y157 z157
        obtain ⟨rfl, N157q, P157_0, P157_1, P157_2, P157_3, P157_4, P157_5, P157_6⟩ := hQ157
        have N157 := Fr.app N154 N157q
        have f158 : Old Z n0 T157.heap := f155.keep P157_0 (allS gn_b139 (allS gn_dd_154 (allS gn_tt_154 all0)))
        have f159 : Exa Z T157.heap b139 "holdfast/CountedIds$Batch" := f156.keep P157_0
        have f160 : Arv Z T157.heap d_147 kd_147 (.array .long) (64 : Int32) [(.ref dd_154)] .null := P154_8.keep P157_0 (ninS (Ne.symm ne_b139_d_147) (ninS ne_d_147_dd_154 (ninS ne_d_147_tt_154 nin0)))
        have f161 : Arv Z T157.heap t_147 kt_147 (.array .int) (64 : Int32) [(.ref tt_154)] .null := P154_9.keep P157_0 (ninS (Ne.symm ne_b139_t_147) (ninS ne_t_147_dd_154 (ninS ne_t_147_tt_154 nin0)))
        have Zs157 : n0 ≤ T157.heap.size := Nat.le_trans Zs154 P157_0.1
        obtain ⟨cq162, kq162, q162a, q162b, q162c⟩ := isOf hZ0 rfl f159
        obtain ⟨_, _, ⟨T162, L162, k162, n162⟩, -, X162, ⟨Lc162, hQ162, l162, y162, z162⟩, st162⟩ := X157.virtualBack hx (y := (⟨"holdfast/CountedIds$Batch", "full", "()Z"⟩ : MethodName)) (z := (⟨"holdfast/CountedIds$Batch", "full", "()Z"⟩ : MethodName)) hown0 (mvT hZ0 (hw _ (List.mem_of_getElem? (i := 23) rfl))) (mvT hZ0 (hw _ (List.mem_of_getElem? (i := 24) rfl))) (notFace_of_selects (args := #[]) (mvT hZ0 (hw _ (List.mem_of_getElem? (i := 26) rfl)))) (mvT hZ0 (hw _ (List.mem_of_getElem? (i := 26) rfl))) (mvT hZ0 (hw _ (List.mem_of_getElem? (i := 25) rfl))) (by decide) (backOf (W := 0) (rm3 l Z a0 hw [] b139 (2 : Int32) T157.heap n0 Zs157 P157_3 (by decide)) hZ0 (hw _ (List.mem_of_getElem? (i := 27) rfl)) (hw _ (List.mem_of_getElem? (i := 2) rfl)) (by decide) (by decide)) q162a q162c (g := (mkF m 101 #[.val (.long q1), .second, .val (.long q2), .second, .val (.long q3), .second, .val (.int p4), .val (.int p5), .val (.ref b139), .val (.int (2 : Int32)), .val (.int (0 : Int32)), .val (.int (1 : Int32))] [(.ref b139)])) rfl (by rw [hml]; rfl) (Steps.refl _) (argsL := []) (rest := []) (lenOf pd_2 rfl) rfl (by show 2 * 0 + _ ≤ _; exact Nat.le_of_eq rfl) (hb hby at_101) (fun _ _ => ⟨rfl, rfl, (by decide : 7 + 0 ≤ _), (by decide : 33030 + 0 ≤ _)⟩)
        dsimp only [Pt.U, Pt.locs, Pt.cells, Pt.slots] at X162 l162 y162 z162 st162 hQ162
        subst l162 y162 z162
        obtain ⟨rfl, N162q, P162_0⟩ := hQ162
        have N162 := Fr.app N157 N162q
        obtain ⟨cq163, kq163, q163a, q163b, q163c⟩ := isOf hZ0 P162_0 f159
        obtain ⟨_, _, ⟨T163, L163, k163, n163⟩, -, X163, ⟨Lc163, hQ163, l163, y163, z163⟩, st163⟩ := X162.virtualBack hx (y := (⟨"holdfast/CountedIds$Batch", "size", "()I"⟩ : MethodName)) (z := (⟨"holdfast/CountedIds$Batch", "size", "()I"⟩ : MethodName)) hown0 (mvT hZ0 (hw _ (List.mem_of_getElem? (i := 31) rfl))) (mvT hZ0 (hw _ (List.mem_of_getElem? (i := 32) rfl))) (notFace_of_selects (args := #[]) (mvT hZ0 (hw _ (List.mem_of_getElem? (i := 34) rfl)))) (mvT hZ0 (hw _ (List.mem_of_getElem? (i := 34) rfl))) (mvT hZ0 (hw _ (List.mem_of_getElem? (i := 33) rfl))) (by decide) (backOf (W := 0) (rm4 l Z a0 hw [] b139 (2 : Int32) T157.heap n0 Zs157 P157_3) hZ0 (hw _ (List.mem_of_getElem? (i := 35) rfl)) (hw _ (List.mem_of_getElem? (i := 2) rfl)) (by decide) (by decide)) q163a q163c (g := (mkF m 109 #[.val (.long q1), .second, .val (.long q2), .second, .val (.long q3), .second, .val (.int p4), .val (.int p5), .val (.ref b139), .val (.int (2 : Int32)), .val (.int (0 : Int32)), .val (.int (1 : Int32))] [(.ref b139)])) rfl (by rw [hml]; rfl) (Steps.refl _) (argsL := []) (rest := []) (lenOf pd_3 rfl) rfl (by show 2 * 0 + _ ≤ _; exact Nat.le_of_eq rfl) (hb hby at_109) (fun _ _ => ⟨rfl, P162_0, (by decide : 7 + 0 ≤ _), (by decide : 33030 + 0 ≤ _)⟩)
        dsimp only [Pt.U, Pt.locs, Pt.cells, Pt.slots] at X163 l163 y163 z163 st163 hQ163
        subst l163 y163 z163
        obtain ⟨rfl, N163q, P163_0⟩ := hQ163
        have N163 := Fr.app N162 N163q
        obtain ⟨fs, hr, hrun, hended, hW, hsame⟩ := X163.leave (v := some (.int (1 : Int32))) (fun h => by rw [Bd.returns] at h; cases h) hlk
        refine ⟨_, _, pre0 _ ?_, hrun, hended, _, _, rfl, ?_, ⟨_, rfl⟩, hW, hsame.mono (by decide) (by decide)⟩
        · refine pr150 _ ?_
          show Steps p.tables e below (T147.setTop (mkF m 19 #[.val (.long q1), .second, .val (.long q2), .second, .val (.long q3), .second, .val (.int p4), .val (.int p5), .val (.ref b139), .val (.int (2 : Int32)), .unset, .unset] [(.int (p5 &&& (4 : Int32)))])) _
          refine XS.ifYes X147.here hx rfl (pc0 := 19) (pc' := 26) rfl (hb hby at_19) rfl ((if0 _ _).trans (teq hc151).1) (by decide) (by decide) ?_
          show Steps p.tables e below (T147.setTop (mkF m 26 #[.val (.long q1), .second, .val (.long q2), .second, .val (.long q3), .second, .val (.int p4), .val (.int p5), .val (.ref b139), .val (.int (2 : Int32)), .unset, .unset] [])) _
          refine XS.iconst X147.here hx rfl (hb hby at_26) ?_
          show Steps p.tables e below (T147.setTop (mkF m 27 #[.val (.long q1), .second, .val (.long q2), .second, .val (.long q3), .second, .val (.int p4), .val (.int p5), .val (.ref b139), .val (.int (2 : Int32)), .unset, .unset] [(.int (0 : Int32))])) _
          refine XS.istore X147.here hx rfl (hb hby at_27) rfl (l' := #[.val (.long q1), .second, .val (.long q2), .second, .val (.long q3), .second, .val (.int p4), .val (.int p5), .val (.ref b139), .val (.int (2 : Int32)), .val (.int (0 : Int32)), .unset]) rfl ?_
          show Steps p.tables e below (T147.setTop (mkF m 29 #[.val (.long q1), .second, .val (.long q2), .second, .val (.long q3), .second, .val (.int p4), .val (.int p5), .val (.ref b139), .val (.int (2 : Int32)), .val (.int (0 : Int32)), .unset] [])) _
          refine XS.aload X147.here hx rfl (hb hby at_29) rfl rfl ?_
          show Steps p.tables e below (T147.setTop (mkF m 31 #[.val (.long q1), .second, .val (.long q2), .second, .val (.long q3), .second, .val (.int p4), .val (.int p5), .val (.ref b139), .val (.int (2 : Int32)), .val (.int (0 : Int32)), .unset] [(.ref b139)])) _
          refine st152.trans ?_
          show Steps p.tables e below (T152.setTop (mkF m 34 #[.val (.long q1), .second, .val (.long q2), .second, .val (.long q3), .second, .val (.int p4), .val (.int p5), .val (.ref b139), .val (.int (2 : Int32)), .val (.int (0 : Int32)), .unset] [(.int (0 : Int32))])) _
          refine XS.ifNo X152.here hx rfl (hb hby at_34) rfl ((if0 _ _).trans (teq (by decide : (0 : Int32) = (0 : Int32))).2) ?_
          show Steps p.tables e below (T152.setTop (mkF m 37 #[.val (.long q1), .second, .val (.long q2), .second, .val (.long q3), .second, .val (.int p4), .val (.int p5), .val (.ref b139), .val (.int (2 : Int32)), .val (.int (0 : Int32)), .unset] [])) _
          refine XS.aload X152.here hx rfl (hb hby at_37) rfl rfl ?_
          show Steps p.tables e below (T152.setTop (mkF m 39 #[.val (.long q1), .second, .val (.long q2), .second, .val (.long q3), .second, .val (.int p4), .val (.int p5), .val (.ref b139), .val (.int (2 : Int32)), .val (.int (0 : Int32)), .unset] [(.ref b139)])) _
          refine st153.trans ?_
          show Steps p.tables e below (T153.setTop (mkF m 42 #[.val (.long q1), .second, .val (.long q2), .second, .val (.long q3), .second, .val (.int p4), .val (.int p5), .val (.ref b139), .val (.int (2 : Int32)), .val (.int (0 : Int32)), .unset] [(.int (0 : Int32))])) _
          refine XS.ifNo X153.here hx rfl (hb hby at_42) rfl ((if0 _ _).trans (teq (by decide : (0 : Int32) = (0 : Int32))).2) ?_
          show Steps p.tables e below (T153.setTop (mkF m 45 #[.val (.long q1), .second, .val (.long q2), .second, .val (.long q3), .second, .val (.int p4), .val (.int p5), .val (.ref b139), .val (.int (2 : Int32)), .val (.int (0 : Int32)), .unset] [])) _
          refine XS.iconst X153.here hx rfl (hb hby at_45) ?_
          show Steps p.tables e below (T153.setTop (mkF m 46 #[.val (.long q1), .second, .val (.long q2), .second, .val (.long q3), .second, .val (.int p4), .val (.int p5), .val (.ref b139), .val (.int (2 : Int32)), .val (.int (0 : Int32)), .unset] [(.int (1 : Int32))])) _
          refine XS.goto X153.here hx rfl (pc0 := 46) (pc' := 50) rfl (hb hby at_46) (by decide) (by decide) ?_
          show Steps p.tables e below (T153.setTop (mkF m 50 #[.val (.long q1), .second, .val (.long q2), .second, .val (.long q3), .second, .val (.int p4), .val (.int p5), .val (.ref b139), .val (.int (2 : Int32)), .val (.int (0 : Int32)), .unset] [(.int (1 : Int32))])) _
          refine XS.istore X153.here hx rfl (hb hby at_50) rfl (l' := #[.val (.long q1), .second, .val (.long q2), .second, .val (.long q3), .second, .val (.int p4), .val (.int p5), .val (.ref b139), .val (.int (2 : Int32)), .val (.int (0 : Int32)), .val (.int (1 : Int32))]) rfl ?_
          show Steps p.tables e below (T153.setTop (mkF m 52 #[.val (.long q1), .second, .val (.long q2), .second, .val (.long q3), .second, .val (.int p4), .val (.int p5), .val (.ref b139), .val (.int (2 : Int32)), .val (.int (0 : Int32)), .val (.int (1 : Int32))] [])) _
          refine XS.iload X153.here hx rfl (hb hby at_52) rfl ?_
          show Steps p.tables e below (T153.setTop (mkF m 54 #[.val (.long q1), .second, .val (.long q2), .second, .val (.long q3), .second, .val (.int p4), .val (.int p5), .val (.ref b139), .val (.int (2 : Int32)), .val (.int (0 : Int32)), .val (.int (1 : Int32))] [(.int (2 : Int32))])) _
          refine XS.ifNo X153.here hx rfl (hb hby at_54) rfl ((if0 _ _).trans (tlt (by decide : (0 : Int32) < (2 : Int32))).2.2.2) ?_
          show Steps p.tables e below (T153.setTop (mkF m 57 #[.val (.long q1), .second, .val (.long q2), .second, .val (.long q3), .second, .val (.int p4), .val (.int p5), .val (.ref b139), .val (.int (2 : Int32)), .val (.int (0 : Int32)), .val (.int (1 : Int32))] [])) _
          refine XS.aload X153.here hx rfl (hb hby at_57) rfl rfl ?_
          show Steps p.tables e below (T153.setTop (mkF m 59 #[.val (.long q1), .second, .val (.long q2), .second, .val (.long q3), .second, .val (.int p4), .val (.int p5), .val (.ref b139), .val (.int (2 : Int32)), .val (.int (0 : Int32)), .val (.int (1 : Int32))] [(.ref b139)])) _
          refine XS.lloadN X153.here hx rfl (hb hby at_59) rfl ?_
          show Steps p.tables e below (T153.setTop (mkF m 60 #[.val (.long q1), .second, .val (.long q2), .second, .val (.long q3), .second, .val (.int p4), .val (.int p5), .val (.ref b139), .val (.int (2 : Int32)), .val (.int (0 : Int32)), .val (.int (1 : Int32))] [(.long q1), (.ref b139)])) _
          refine XS.iload X153.here hx rfl (hb hby at_60) rfl ?_
          show Steps p.tables e below (T153.setTop (mkF m 62 #[.val (.long q1), .second, .val (.long q2), .second, .val (.long q3), .second, .val (.int p4), .val (.int p5), .val (.ref b139), .val (.int (2 : Int32)), .val (.int (0 : Int32)), .val (.int (1 : Int32))] [(.int p4), (.long q1), (.ref b139)])) _
          refine st154.trans ?_
          show Steps p.tables e below (T154.setTop (mkF m 65 #[.val (.long q1), .second, .val (.long q2), .second, .val (.long q3), .second, .val (.int p4), .val (.int p5), .val (.ref b139), .val (.int (2 : Int32)), .val (.int (0 : Int32)), .val (.int (1 : Int32))] [])) _
          refine XS.iload X154.here hx rfl (hb hby at_65) rfl ?_
          show Steps p.tables e below (T154.setTop (mkF m 67 #[.val (.long q1), .second, .val (.long q2), .second, .val (.long q3), .second, .val (.int p4), .val (.int p5), .val (.ref b139), .val (.int (2 : Int32)), .val (.int (0 : Int32)), .val (.int (1 : Int32))] [(.int (2 : Int32))])) _
          refine XS.iconst X154.here hx rfl (hb hby at_67) ?_
          show Steps p.tables e below (T154.setTop (mkF m 68 #[.val (.long q1), .second, .val (.long q2), .second, .val (.long q3), .second, .val (.int p4), .val (.int p5), .val (.ref b139), .val (.int (2 : Int32)), .val (.int (0 : Int32)), .val (.int (1 : Int32))] [(.int (1 : Int32)), (.int (2 : Int32))])) _
          refine XS.icmpNo X154.here hx rfl (hb hby at_68) rfl (tlt (by decide : (1 : Int32) < (2 : Int32))).2.2.2 ?_
          show Steps p.tables e below (T154.setTop (mkF m 71 #[.val (.long q1), .second, .val (.long q2), .second, .val (.long q3), .second, .val (.int p4), .val (.int p5), .val (.ref b139), .val (.int (2 : Int32)), .val (.int (0 : Int32)), .val (.int (1 : Int32))] [])) _
          refine XS.aload X154.here hx rfl (hb hby at_71) rfl rfl ?_
          show Steps p.tables e below (T154.setTop (mkF m 73 #[.val (.long q1), .second, .val (.long q2), .second, .val (.long q3), .second, .val (.int p4), .val (.int p5), .val (.ref b139), .val (.int (2 : Int32)), .val (.int (0 : Int32)), .val (.int (1 : Int32))] [(.ref b139)])) _
          refine XS.lloadN X154.here hx rfl (hb hby at_73) rfl ?_
          show Steps p.tables e below (T154.setTop (mkF m 74 #[.val (.long q1), .second, .val (.long q2), .second, .val (.long q3), .second, .val (.int p4), .val (.int p5), .val (.ref b139), .val (.int (2 : Int32)), .val (.int (0 : Int32)), .val (.int (1 : Int32))] [(.long q2), (.ref b139)])) _
          refine XS.iload X154.here hx rfl (hb hby at_74) rfl ?_
          show Steps p.tables e below (T154.setTop (mkF m 76 #[.val (.long q1), .second, .val (.long q2), .second, .val (.long q3), .second, .val (.int p4), .val (.int p5), .val (.ref b139), .val (.int (2 : Int32)), .val (.int (0 : Int32)), .val (.int (1 : Int32))] [(.int p4), (.long q2), (.ref b139)])) _
          refine st157.trans ?_
          show Steps p.tables e below (T157.setTop (mkF m 79 #[.val (.long q1), .second, .val (.long q2), .second, .val (.long q3), .second, .val (.int p4), .val (.int p5), .val (.ref b139), .val (.int (2 : Int32)), .val (.int (0 : Int32)), .val (.int (1 : Int32))] [])) _
          refine XS.iload X157.here hx rfl (hb hby at_79) rfl ?_
          show Steps p.tables e below (T157.setTop (mkF m 81 #[.val (.long q1), .second, .val (.long q2), .second, .val (.long q3), .second, .val (.int p4), .val (.int p5), .val (.ref b139), .val (.int (2 : Int32)), .val (.int (0 : Int32)), .val (.int (1 : Int32))] [(.int (2 : Int32))])) _
          refine XS.iconst X157.here hx rfl (hb hby at_81) ?_
          show Steps p.tables e below (T157.setTop (mkF m 82 #[.val (.long q1), .second, .val (.long q2), .second, .val (.long q3), .second, .val (.int p4), .val (.int p5), .val (.ref b139), .val (.int (2 : Int32)), .val (.int (0 : Int32)), .val (.int (1 : Int32))] [(.int (2 : Int32)), (.int (2 : Int32))])) _
          refine XS.icmpYes X157.here hx rfl (pc0 := 82) (pc' := 94) rfl (hb hby at_82) rfl (flt (by decide : ¬ ((2 : Int32) < (2 : Int32)))).2.2.2 (by decide) (by decide) ?_
          show Steps p.tables e below (T157.setTop (mkF m 94 #[.val (.long q1), .second, .val (.long q2), .second, .val (.long q3), .second, .val (.int p4), .val (.int p5), .val (.ref b139), .val (.int (2 : Int32)), .val (.int (0 : Int32)), .val (.int (1 : Int32))] [])) _
          refine XS.iload X157.here hx rfl (hb hby at_94) rfl ?_
          show Steps p.tables e below (T157.setTop (mkF m 96 #[.val (.long q1), .second, .val (.long q2), .second, .val (.long q3), .second, .val (.int p4), .val (.int p5), .val (.ref b139), .val (.int (2 : Int32)), .val (.int (0 : Int32)), .val (.int (1 : Int32))] [(.int (1 : Int32))])) _
          refine XS.ifNo X157.here hx rfl (hb hby at_96) rfl ((if0 _ _).trans (feq (by decide : ¬ ((1 : Int32) = (0 : Int32)))).1) ?_
          show Steps p.tables e below (T157.setTop (mkF m 99 #[.val (.long q1), .second, .val (.long q2), .second, .val (.long q3), .second, .val (.int p4), .val (.int p5), .val (.ref b139), .val (.int (2 : Int32)), .val (.int (0 : Int32)), .val (.int (1 : Int32))] [])) _
          refine XS.aload X157.here hx rfl (hb hby at_99) rfl rfl ?_
          show Steps p.tables e below (T157.setTop (mkF m 101 #[.val (.long q1), .second, .val (.long q2), .second, .val (.long q3), .second, .val (.int p4), .val (.int p5), .val (.ref b139), .val (.int (2 : Int32)), .val (.int (0 : Int32)), .val (.int (1 : Int32))] [(.ref b139)])) _
          refine st162.trans ?_
          show Steps p.tables e below (T162.setTop (mkF m 104 #[.val (.long q1), .second, .val (.long q2), .second, .val (.long q3), .second, .val (.int p4), .val (.int p5), .val (.ref b139), .val (.int (2 : Int32)), .val (.int (0 : Int32)), .val (.int (1 : Int32))] [(.int (0 : Int32))])) _
          refine XS.ifNo X162.here hx rfl (hb hby at_104) rfl ((if0 _ _).trans (teq (by decide : (0 : Int32) = (0 : Int32))).2) ?_
          show Steps p.tables e below (T162.setTop (mkF m 107 #[.val (.long q1), .second, .val (.long q2), .second, .val (.long q3), .second, .val (.int p4), .val (.int p5), .val (.ref b139), .val (.int (2 : Int32)), .val (.int (0 : Int32)), .val (.int (1 : Int32))] [])) _
          refine XS.aload X162.here hx rfl (hb hby at_107) rfl rfl ?_
          show Steps p.tables e below (T162.setTop (mkF m 109 #[.val (.long q1), .second, .val (.long q2), .second, .val (.long q3), .second, .val (.int p4), .val (.int p5), .val (.ref b139), .val (.int (2 : Int32)), .val (.int (0 : Int32)), .val (.int (1 : Int32))] [(.ref b139)])) _
          refine st163.trans ?_
          show Steps p.tables e below (T163.setTop (mkF m 112 #[.val (.long q1), .second, .val (.long q2), .second, .val (.long q3), .second, .val (.int p4), .val (.int p5), .val (.ref b139), .val (.int (2 : Int32)), .val (.int (0 : Int32)), .val (.int (1 : Int32))] [(.int (2 : Int32))])) _
          refine XS.iload X163.here hx rfl (hb hby at_112) rfl ?_
          show Steps p.tables e below (T163.setTop (mkF m 114 #[.val (.long q1), .second, .val (.long q2), .second, .val (.long q3), .second, .val (.int p4), .val (.int p5), .val (.ref b139), .val (.int (2 : Int32)), .val (.int (0 : Int32)), .val (.int (1 : Int32))] [(.int (2 : Int32)), (.int (2 : Int32))])) _
          refine XS.icmpNo X163.here hx rfl (hb hby at_114) rfl (teq (by decide : (2 : Int32) = (2 : Int32))).2 ?_
          show Steps p.tables e below (T163.setTop (mkF m 117 #[.val (.long q1), .second, .val (.long q2), .second, .val (.long q3), .second, .val (.int p4), .val (.int p5), .val (.ref b139), .val (.int (2 : Int32)), .val (.int (0 : Int32)), .val (.int (1 : Int32))] [])) _
          refine XS.iconst X163.here hx rfl (hb hby at_117) ?_
          show Steps p.tables e below (T163.setTop (mkF m 118 #[.val (.long q1), .second, .val (.long q2), .second, .val (.long q3), .second, .val (.int p4), .val (.int p5), .val (.ref b139), .val (.int (2 : Int32)), .val (.int (0 : Int32)), .val (.int (1 : Int32))] [(.int (1 : Int32))])) _
          refine XS.goto X163.here hx rfl (pc0 := 118) (pc' := 122) rfl (hb hby at_118) (by decide) (by decide) ?_
          show Steps p.tables e below (T163.setTop (mkF m 122 #[.val (.long q1), .second, .val (.long q2), .second, .val (.long q3), .second, .val (.int p4), .val (.int p5), .val (.ref b139), .val (.int (2 : Int32)), .val (.int (0 : Int32)), .val (.int (1 : Int32))] [(.int (1 : Int32))])) _
          refine XS.istore X163.here hx rfl (hb hby at_122) rfl (l' := #[.val (.long q1), .second, .val (.long q2), .second, .val (.long q3), .second, .val (.int p4), .val (.int p5), .val (.ref b139), .val (.int (2 : Int32)), .val (.int (0 : Int32)), .val (.int (1 : Int32))]) rfl ?_
          show Steps p.tables e below (T163.setTop (mkF m 124 #[.val (.long q1), .second, .val (.long q2), .second, .val (.long q3), .second, .val (.int p4), .val (.int p5), .val (.ref b139), .val (.int (2 : Int32)), .val (.int (0 : Int32)), .val (.int (1 : Int32))] [])) _
          refine XS.iload X163.here hx rfl (hb hby at_124) rfl ?_
          show Steps p.tables e below (T163.setTop (mkF m 126 #[.val (.long q1), .second, .val (.long q2), .second, .val (.long q3), .second, .val (.int p4), .val (.int p5), .val (.ref b139), .val (.int (2 : Int32)), .val (.int (0 : Int32)), .val (.int (1 : Int32))] [(.int (0 : Int32))])) _
          refine XS.ifYes X163.here hx rfl (pc0 := 126) (pc' := 162) rfl (hb hby at_126) rfl ((if0 _ _).trans (teq (by decide : (0 : Int32) = (0 : Int32))).1) (by decide) (by decide) ?_
          show Steps p.tables e below (T163.setTop (mkF m 162 #[.val (.long q1), .second, .val (.long q2), .second, .val (.long q3), .second, .val (.int p4), .val (.int p5), .val (.ref b139), .val (.int (2 : Int32)), .val (.int (0 : Int32)), .val (.int (1 : Int32))] [])) _
          refine XS.iload X163.here hx rfl (hb hby at_162) rfl ?_
          show Steps p.tables e below (T163.setTop (mkF m 164 #[.val (.long q1), .second, .val (.long q2), .second, .val (.long q3), .second, .val (.int p4), .val (.int p5), .val (.ref b139), .val (.int (2 : Int32)), .val (.int (0 : Int32)), .val (.int (1 : Int32))] [(.int (1 : Int32))])) _
          exact retN X163 hx (t := .boolean) Bd.returns (by simp) (hb hby at_164) hr
        · show Q0 Z q1 q2 q3 p4 p5 h0 n0 _ T163.heap _
          rw [P163_0]
          exact ⟨rfl, N163⟩
      · obtain ⟨cq164, kq164, q164a, q164b, q164c⟩ := isOf hZ0 rfl f149
        obtain ⟨_, _, ⟨T164, L164, k164, n164⟩, -, X164, ⟨Lc164, hQ164, l164, y164, z164⟩, st164⟩ := X147.virtualBack hx (y := (⟨"holdfast/CountedIds$Batch", "full", "()Z"⟩ : MethodName)) (z := (⟨"holdfast/CountedIds$Batch", "full", "()Z"⟩ : MethodName)) hown0 (mvT hZ0 (hw _ (List.mem_of_getElem? (i := 23) rfl))) (mvT hZ0 (hw _ (List.mem_of_getElem? (i := 24) rfl))) (notFace_of_selects (args := #[]) (mvT hZ0 (hw _ (List.mem_of_getElem? (i := 26) rfl)))) (mvT hZ0 (hw _ (List.mem_of_getElem? (i := 26) rfl))) (mvT hZ0 (hw _ (List.mem_of_getElem? (i := 25) rfl))) (by decide) (backOf (W := 0) (rm3 l Z a0 hw [] b139 (0 : Int32) T147.heap n0 Zs147 P147_6 (by decide)) hZ0 (hw _ (List.mem_of_getElem? (i := 27) rfl)) (hw _ (List.mem_of_getElem? (i := 2) rfl)) (by decide) (by decide)) q164a q164c (g := (mkF m 31 #[.val (.long q1), .second, .val (.long q2), .second, .val (.long q3), .second, .val (.int p4), .val (.int p5), .val (.ref b139), .val (.int (2 : Int32)), .val (.int (1 : Int32)), .unset] [(.ref b139)])) rfl (by rw [hml]; rfl) (Steps.refl _) (argsL := []) (rest := []) (lenOf pd_2 rfl) rfl (by show 2 * 0 + _ ≤ _; exact Nat.le_of_eq rfl) (hb hby at_31) (fun _ _ => ⟨rfl, rfl, (by decide : 5 + 0 ≤ _), (by decide : 262 + 0 ≤ _)⟩)
        dsimp only [Pt.U, Pt.locs, Pt.cells, Pt.slots] at X164 l164 y164 z164 st164 hQ164
        subst l164 y164 z164
        obtain ⟨rfl, N164q, P164_0⟩ := hQ164
        have N164 := Fr.app N147 N164q
        obtain ⟨cq165, kq165, q165a, q165b, q165c⟩ := isOf hZ0 P164_0 f149
        obtain ⟨_, _, ⟨T165, L165, k165, n165⟩, -, X165, ⟨Lc165, hQ165, l165, y165, z165⟩, st165⟩ := X164.virtualBack hx (y := (⟨"holdfast/CountedIds$Batch", "size", "()I"⟩ : MethodName)) (z := (⟨"holdfast/CountedIds$Batch", "size", "()I"⟩ : MethodName)) hown0 (mvT hZ0 (hw _ (List.mem_of_getElem? (i := 31) rfl))) (mvT hZ0 (hw _ (List.mem_of_getElem? (i := 32) rfl))) (notFace_of_selects (args := #[]) (mvT hZ0 (hw _ (List.mem_of_getElem? (i := 34) rfl)))) (mvT hZ0 (hw _ (List.mem_of_getElem? (i := 34) rfl))) (mvT hZ0 (hw _ (List.mem_of_getElem? (i := 33) rfl))) (by decide) (backOf (W := 0) (rm4 l Z a0 hw [] b139 (0 : Int32) T147.heap n0 Zs147 P147_6) hZ0 (hw _ (List.mem_of_getElem? (i := 35) rfl)) (hw _ (List.mem_of_getElem? (i := 2) rfl)) (by decide) (by decide)) q165a q165c (g := (mkF m 39 #[.val (.long q1), .second, .val (.long q2), .second, .val (.long q3), .second, .val (.int p4), .val (.int p5), .val (.ref b139), .val (.int (2 : Int32)), .val (.int (1 : Int32)), .unset] [(.ref b139)])) rfl (by rw [hml]; rfl) (Steps.refl _) (argsL := []) (rest := []) (lenOf pd_3 rfl) rfl (by show 2 * 0 + _ ≤ _; exact Nat.le_of_eq rfl) (hb hby at_39) (fun _ _ => ⟨rfl, P164_0, (by decide : 5 + 0 ≤ _), (by decide : 262 + 0 ≤ _)⟩)
        dsimp only [Pt.U, Pt.locs, Pt.cells, Pt.slots] at X165 l165 y165 z165 st165 hQ165
        subst l165 y165 z165
        obtain ⟨rfl, N165q, P165_0⟩ := hQ165
        have N165 := Fr.app N164 N165q
        obtain ⟨cq166, kq166, q166a, q166b, q166c⟩ := isOf hZ0 P165_0 f149
        obtain ⟨_, _, ⟨T166, L166, k166, n166⟩, -, X166, ⟨Lc166, hQ166, l166, y166, z166⟩, st166⟩ := X165.virtualBack hx (y := (⟨"holdfast/CountedIds$Batch", "add", "(JI)V"⟩ : MethodName)) (z := (⟨"holdfast/CountedIds$Batch", "add", "(JI)V"⟩ : MethodName)) hown0 (mvT hZ0 (hw _ (List.mem_of_getElem? (i := 36) rfl))) (mvT hZ0 (hw _ (List.mem_of_getElem? (i := 37) rfl))) (notFace_of_selects (args := #[]) (mvT hZ0 (hw _ (List.mem_of_getElem? (i := 39) rfl)))) (mvT hZ0 (hw _ (List.mem_of_getElem? (i := 39) rfl))) (mvT hZ0 (hw _ (List.mem_of_getElem? (i := 38) rfl))) (by decide) (backOf (W := 0) (rm5z l Z a0 hw [] b139 q1 p4 d_147 t_147 kd_147 kt_147 (1 : Int32) T147.heap n0 Zs147 f148 pf0 f149 gn_b139 gn_d_147 gn_t_147 ne_b139_d_147 ne_b139_t_147 P147_3 P147_4 P147_5 P147_6 P147_7 P147_8 P147_9 P147_10 P147_11) hZ0 (hw _ (List.mem_of_getElem? (i := 40) rfl)) (hw _ (List.mem_of_getElem? (i := 2) rfl)) (by decide) (by decide)) q166a q166c (g := (mkF m 62 #[.val (.long q1), .second, .val (.long q2), .second, .val (.long q3), .second, .val (.int p4), .val (.int p5), .val (.ref b139), .val (.int (2 : Int32)), .val (.int (1 : Int32)), .val (.int (1 : Int32))] [(.int p4), (.long q1), (.ref b139)])) rfl (by rw [hml]; rfl) (Steps.refl _) (argsL := [(.long q1), (.int p4)]) (rest := []) (lenOf pd_4 rfl) rfl (by show 2 * 0 + _ ≤ _; exact Nat.le_of_eq rfl) (hb hby at_62) (fun _ _ => ⟨rfl, P165_0, (by decide : 5 + 2 ≤ _), (by decide : 262 + 32768 ≤ _)⟩)
        dsimp only [Pt.U, Pt.locs, Pt.cells, Pt.slots] at X166 l166 y166 z166 st166 hQ166
        subst l166 y166 z166
        obtain ⟨dd_166, tt_166, rfl, N166q, P166_0, P166_1, P166_2, P166_3, P166_4, P166_5, P166_6, P166_7, P166_8, P166_9, P166_10, P166_11⟩ := hQ166
        have N166 := Fr.app N165 N166q
        have ne_b139_dd_166 : b139 ≠ dd_166 := Nat.ne_of_lt (Nat.lt_of_lt_of_le f149.lt P166_1)
        have ne_d_147_dd_166 : d_147 ≠ dd_166 := Nat.ne_of_lt (Nat.lt_of_lt_of_le P147_8.lt P166_1)
        have ne_t_147_dd_166 : t_147 ≠ dd_166 := Nat.ne_of_lt (Nat.lt_of_lt_of_le P147_9.lt P166_1)
        have gn_dd_166 : n0 ≤ dd_166 := Nat.le_trans Zs147 P166_1
        have ne_b139_tt_166 : b139 ≠ tt_166 := Nat.ne_of_lt (Nat.lt_of_lt_of_le f149.lt P166_2)
        have ne_d_147_tt_166 : d_147 ≠ tt_166 := Nat.ne_of_lt (Nat.lt_of_lt_of_le P147_8.lt P166_2)
        have ne_t_147_tt_166 : t_147 ≠ tt_166 := Nat.ne_of_lt (Nat.lt_of_lt_of_le P147_9.lt P166_2)
        have gn_tt_166 : n0 ≤ tt_166 := Nat.le_trans Zs147 P166_2
        have f167 : Old Z n0 T166.heap := f148.keep P166_0 (allS gn_b139 (allS gn_d_147 (allS gn_t_147 all0)))
        have f168 : Exa Z T166.heap b139 "holdfast/CountedIds$Batch" := f149.keep P166_0
        have Zs166 : n0 ≤ T166.heap.size := Nat.le_trans Zs147 P166_0.1
        obtain ⟨cq169, kq169, q169a, q169b, q169c⟩ := isOf hZ0 rfl f168
        obtain ⟨_, _, ⟨T169, L169, k169, n169⟩, -, X169, ⟨Lc169, hQ169, l169, y169, z169⟩, st169⟩ := X166.virtualBack hx (y := (⟨"holdfast/CountedIds$Batch", "add", "(JI)V"⟩ : MethodName)) (z := (⟨"holdfast/CountedIds$Batch", "add", "(JI)V"⟩ : MethodName)) hown0 (mvT hZ0 (hw _ (List.mem_of_getElem? (i := 36) rfl))) (mvT hZ0 (hw _ (List.mem_of_getElem? (i := 37) rfl))) (notFace_of_selects (args := #[]) (mvT hZ0 (hw _ (List.mem_of_getElem? (i := 39) rfl)))) (mvT hZ0 (hw _ (List.mem_of_getElem? (i := 39) rfl))) (mvT hZ0 (hw _ (List.mem_of_getElem? (i := 38) rfl))) (by decide) (backOf (W := 0) (rm5n l Z a0 hw [] b139 q2 p4 d_147 t_147 kd_147 kt_147 (0 : Int32) dd_166 tt_166 (own_up own_none (0 : Int32) p4) (1 : Int32) (2 : Int32) T166.heap n0 Zs166 f167 pf0 f168 gn_b139 gn_d_147 gn_t_147 ne_b139_d_147 ne_b139_t_147 P147_3 P166_4 P166_5 P166_6 P166_7 P166_8 P166_9 P166_10 P166_11 P166_3 ne_t_147_dd_166 ne_d_147_dd_166 ne_d_147_tt_166 ne_t_147_tt_166 ne_b139_dd_166 ne_b139_tt_166 gn_dd_166 gn_tt_166 (by decide) (by decide) (by decide) (by decide) (by decide)) hZ0 (hw _ (List.mem_of_getElem? (i := 40) rfl)) (hw _ (List.mem_of_getElem? (i := 2) rfl)) (by decide) (by decide)) q169a q169c (g := (mkF m 76 #[.val (.long q1), .second, .val (.long q2), .second, .val (.long q3), .second, .val (.int p4), .val (.int p5), .val (.ref b139), .val (.int (2 : Int32)), .val (.int (1 : Int32)), .val (.int (1 : Int32))] [(.int p4), (.long q2), (.ref b139)])) rfl (by rw [hml]; rfl) (Steps.refl _) (argsL := [(.long q2), (.int p4)]) (rest := []) (lenOf pd_4 rfl) rfl (by show 2 * 0 + _ ≤ _; exact Nat.le_of_eq rfl) (hb hby at_76) (fun _ _ => ⟨rfl, rfl, (by decide : 7 + 0 ≤ _), (by decide : 33030 + 0 ≤ _)⟩)
        dsimp only [Pt.U, Pt.locs, Pt.cells, Pt.slots] at X169 l169 y169 z169 st169 hQ169
        subst l169 y169 z169
        obtain ⟨rfl, N169q, P169_0, P169_1, P169_2, P169_3, P169_4, P169_5, P169_6⟩ := hQ169
        have N169 := Fr.app N166 N169q
        have f170 : Old Z n0 T169.heap := f167.keep P169_0 (allS gn_b139 (allS gn_dd_166 (allS gn_tt_166 all0)))
        have f171 : Exa Z T169.heap b139 "holdfast/CountedIds$Batch" := f168.keep P169_0
        have f172 : Arv Z T169.heap d_147 kd_147 (.array .long) (64 : Int32) [(.ref dd_166)] .null := P166_8.keep P169_0 (ninS (Ne.symm ne_b139_d_147) (ninS ne_d_147_dd_166 (ninS ne_d_147_tt_166 nin0)))
        have f173 : Arv Z T169.heap t_147 kt_147 (.array .int) (64 : Int32) [(.ref tt_166)] .null := P166_9.keep P169_0 (ninS (Ne.symm ne_b139_t_147) (ninS ne_t_147_dd_166 (ninS ne_t_147_tt_166 nin0)))
        have Zs169 : n0 ≤ T169.heap.size := Nat.le_trans Zs166 P169_0.1
        obtain ⟨cq174, kq174, q174a, q174b, q174c⟩ := isOf hZ0 rfl f171
        obtain ⟨_, _, ⟨T174, L174, k174, n174⟩, -, X174, ⟨Lc174, hQ174, l174, y174, z174⟩, st174⟩ := X169.virtualBack hx (y := (⟨"holdfast/CountedIds$Batch", "full", "()Z"⟩ : MethodName)) (z := (⟨"holdfast/CountedIds$Batch", "full", "()Z"⟩ : MethodName)) hown0 (mvT hZ0 (hw _ (List.mem_of_getElem? (i := 23) rfl))) (mvT hZ0 (hw _ (List.mem_of_getElem? (i := 24) rfl))) (notFace_of_selects (args := #[]) (mvT hZ0 (hw _ (List.mem_of_getElem? (i := 26) rfl)))) (mvT hZ0 (hw _ (List.mem_of_getElem? (i := 26) rfl))) (mvT hZ0 (hw _ (List.mem_of_getElem? (i := 25) rfl))) (by decide) (backOf (W := 0) (rm3 l Z a0 hw [] b139 (2 : Int32) T169.heap n0 Zs169 P169_3 (by decide)) hZ0 (hw _ (List.mem_of_getElem? (i := 27) rfl)) (hw _ (List.mem_of_getElem? (i := 2) rfl)) (by decide) (by decide)) q174a q174c (g := (mkF m 101 #[.val (.long q1), .second, .val (.long q2), .second, .val (.long q3), .second, .val (.int p4), .val (.int p5), .val (.ref b139), .val (.int (2 : Int32)), .val (.int (1 : Int32)), .val (.int (1 : Int32))] [(.ref b139)])) rfl (by rw [hml]; rfl) (Steps.refl _) (argsL := []) (rest := []) (lenOf pd_2 rfl) rfl (by show 2 * 0 + _ ≤ _; exact Nat.le_of_eq rfl) (hb hby at_101) (fun _ _ => ⟨rfl, rfl, (by decide : 7 + 0 ≤ _), (by decide : 33030 + 0 ≤ _)⟩)
        dsimp only [Pt.U, Pt.locs, Pt.cells, Pt.slots] at X174 l174 y174 z174 st174 hQ174
        subst l174 y174 z174
        obtain ⟨rfl, N174q, P174_0⟩ := hQ174
        have N174 := Fr.app N169 N174q
        obtain ⟨cq175, kq175, q175a, q175b, q175c⟩ := isOf hZ0 P174_0 f171
        obtain ⟨_, _, ⟨T175, L175, k175, n175⟩, -, X175, ⟨Lc175, hQ175, l175, y175, z175⟩, st175⟩ := X174.virtualBack hx (y := (⟨"holdfast/CountedIds$Batch", "size", "()I"⟩ : MethodName)) (z := (⟨"holdfast/CountedIds$Batch", "size", "()I"⟩ : MethodName)) hown0 (mvT hZ0 (hw _ (List.mem_of_getElem? (i := 31) rfl))) (mvT hZ0 (hw _ (List.mem_of_getElem? (i := 32) rfl))) (notFace_of_selects (args := #[]) (mvT hZ0 (hw _ (List.mem_of_getElem? (i := 34) rfl)))) (mvT hZ0 (hw _ (List.mem_of_getElem? (i := 34) rfl))) (mvT hZ0 (hw _ (List.mem_of_getElem? (i := 33) rfl))) (by decide) (backOf (W := 0) (rm4 l Z a0 hw [] b139 (2 : Int32) T169.heap n0 Zs169 P169_3) hZ0 (hw _ (List.mem_of_getElem? (i := 35) rfl)) (hw _ (List.mem_of_getElem? (i := 2) rfl)) (by decide) (by decide)) q175a q175c (g := (mkF m 109 #[.val (.long q1), .second, .val (.long q2), .second, .val (.long q3), .second, .val (.int p4), .val (.int p5), .val (.ref b139), .val (.int (2 : Int32)), .val (.int (1 : Int32)), .val (.int (1 : Int32))] [(.ref b139)])) rfl (by rw [hml]; rfl) (Steps.refl _) (argsL := []) (rest := []) (lenOf pd_3 rfl) rfl (by show 2 * 0 + _ ≤ _; exact Nat.le_of_eq rfl) (hb hby at_109) (fun _ _ => ⟨rfl, P174_0, (by decide : 7 + 0 ≤ _), (by decide : 33030 + 0 ≤ _)⟩)
        dsimp only [Pt.U, Pt.locs, Pt.cells, Pt.slots] at X175 l175 y175 z175 st175 hQ175
        subst l175 y175 z175
        obtain ⟨rfl, N175q, P175_0⟩ := hQ175
        have N175 := Fr.app N174 N175q
        obtain ⟨cq176, kq176, q176a, q176b, q176c⟩ := isOf hZ0 P175_0 f171
        obtain ⟨_, _, ⟨T176, L176, k176, n176⟩, -, X176, ⟨Lc176, hQ176, l176, y176, z176⟩, st176⟩ := X175.virtualBack hx (y := (⟨"holdfast/CountedIds$Batch", "clear", "()V"⟩ : MethodName)) (z := (⟨"holdfast/CountedIds$Batch", "clear", "()V"⟩ : MethodName)) hown0 (mvT hZ0 (hw _ (List.mem_of_getElem? (i := 50) rfl))) (mvT hZ0 (hw _ (List.mem_of_getElem? (i := 51) rfl))) (notFace_of_selects (args := #[]) (mvT hZ0 (hw _ (List.mem_of_getElem? (i := 53) rfl)))) (mvT hZ0 (hw _ (List.mem_of_getElem? (i := 53) rfl))) (mvT hZ0 (hw _ (List.mem_of_getElem? (i := 52) rfl))) (by decide) (backOf (W := 0) (rm7 l Z a0 hw [] b139 d_147 t_147 (0 : Int32) (2 : Int32) T169.heap n0 Zs169 f171 gn_b139 P169_1 P169_2 P169_3 P169_4) hZ0 (hw _ (List.mem_of_getElem? (i := 54) rfl)) (hw _ (List.mem_of_getElem? (i := 2) rfl)) (by decide) (by decide)) q176a q176c (g := (mkF m 131 #[.val (.long q1), .second, .val (.long q2), .second, .val (.long q3), .second, .val (.int p4), .val (.int p5), .val (.ref b139), .val (.int (2 : Int32)), .val (.int (1 : Int32)), .val (.int (1 : Int32))] [(.ref b139)])) rfl (by rw [hml]; rfl) (Steps.refl _) (argsL := []) (rest := []) (lenOf pd_1 rfl) rfl (by show 2 * 0 + _ ≤ _; exact Nat.le_of_eq rfl) (hb hby at_131) (fun _ _ => ⟨rfl, P175_0, (by decide : 7 + 0 ≤ _), (by decide : 33030 + 0 ≤ _)⟩)
        dsimp only [Pt.U, Pt.locs, Pt.cells, Pt.slots] at X176 l176 y176 z176 st176 hQ176
        subst l176 y176 z176
        obtain ⟨rfl, N176q, P176_0, P176_1, P176_2, P176_3, P176_4⟩ := hQ176
        have N176 := Fr.app N175 N176q
        have f177 : Old Z n0 T176.heap := f170.keep P176_0 (allS gn_b139 all0)
        have f178 : Exa Z T176.heap b139 "holdfast/CountedIds$Batch" := f171.keep P176_0
        have f179 : Arv Z T176.heap d_147 kd_147 (.array .long) (64 : Int32) [(.ref dd_166)] .null := f172.keep P176_0 (ninS (Ne.symm ne_b139_d_147) nin0)
        have f180 : Arv Z T176.heap t_147 kt_147 (.array .int) (64 : Int32) [(.ref tt_166)] .null := f173.keep P176_0 (ninS (Ne.symm ne_b139_t_147) nin0)
        have f181 : OwnLng Z T176.heap dd_166 := OwnLng.keep P169_5 P176_0 (ninS (Ne.symm ne_b139_dd_166) nin0)
        have f182 : OwnTg Z T176.heap tt_166 (own_up (own_up own_none (0 : Int32) p4) (1 : Int32) p4) := OwnTg.keep P169_6 P176_0 (ninS (Ne.symm ne_b139_tt_166) nin0)
        have Zs176 : n0 ≤ T176.heap.size := Nat.le_trans Zs169 P176_0.1
        obtain ⟨cq183, kq183, q183a, q183b, q183c⟩ := isOf hZ0 rfl f178
        obtain ⟨_, _, ⟨T183, L183, k183, n183⟩, -, X183, ⟨Lc183, hQ183, l183, y183, z183⟩, st183⟩ := X176.virtualBack hx (y := (⟨"holdfast/CountedIds$Batch", "full", "()Z"⟩ : MethodName)) (z := (⟨"holdfast/CountedIds$Batch", "full", "()Z"⟩ : MethodName)) hown0 (mvT hZ0 (hw _ (List.mem_of_getElem? (i := 23) rfl))) (mvT hZ0 (hw _ (List.mem_of_getElem? (i := 24) rfl))) (notFace_of_selects (args := #[]) (mvT hZ0 (hw _ (List.mem_of_getElem? (i := 26) rfl)))) (mvT hZ0 (hw _ (List.mem_of_getElem? (i := 26) rfl))) (mvT hZ0 (hw _ (List.mem_of_getElem? (i := 25) rfl))) (by decide) (backOf (W := 0) (rm3 l Z a0 hw [] b139 (0 : Int32) T176.heap n0 Zs176 P176_3 (by decide)) hZ0 (hw _ (List.mem_of_getElem? (i := 27) rfl)) (hw _ (List.mem_of_getElem? (i := 2) rfl)) (by decide) (by decide)) q183a q183c (g := (mkF m 141 #[.val (.long q1), .second, .val (.long q2), .second, .val (.long q3), .second, .val (.int p4), .val (.int p5), .val (.ref b139), .val (.int (2 : Int32)), .val (.int (1 : Int32)), .val (.int (1 : Int32))] [(.ref b139)])) rfl (by rw [hml]; rfl) (Steps.refl _) (argsL := []) (rest := []) (lenOf pd_2 rfl) rfl (by show 2 * 0 + _ ≤ _; exact Nat.le_of_eq rfl) (hb hby at_141) (fun _ _ => ⟨rfl, rfl, (by decide : 7 + 0 ≤ _), (by decide : 33030 + 0 ≤ _)⟩)
        dsimp only [Pt.U, Pt.locs, Pt.cells, Pt.slots] at X183 l183 y183 z183 st183 hQ183
        subst l183 y183 z183
        obtain ⟨rfl, N183q, P183_0⟩ := hQ183
        have N183 := Fr.app N176 N183q
        obtain ⟨cq184, kq184, q184a, q184b, q184c⟩ := isOf hZ0 P183_0 f178
        obtain ⟨_, _, ⟨T184, L184, k184, n184⟩, -, X184, ⟨Lc184, hQ184, l184, y184, z184⟩, st184⟩ := X183.virtualBack hx (y := (⟨"holdfast/CountedIds$Batch", "size", "()I"⟩ : MethodName)) (z := (⟨"holdfast/CountedIds$Batch", "size", "()I"⟩ : MethodName)) hown0 (mvT hZ0 (hw _ (List.mem_of_getElem? (i := 31) rfl))) (mvT hZ0 (hw _ (List.mem_of_getElem? (i := 32) rfl))) (notFace_of_selects (args := #[]) (mvT hZ0 (hw _ (List.mem_of_getElem? (i := 34) rfl)))) (mvT hZ0 (hw _ (List.mem_of_getElem? (i := 34) rfl))) (mvT hZ0 (hw _ (List.mem_of_getElem? (i := 33) rfl))) (by decide) (backOf (W := 0) (rm4 l Z a0 hw [] b139 (0 : Int32) T176.heap n0 Zs176 P176_3) hZ0 (hw _ (List.mem_of_getElem? (i := 35) rfl)) (hw _ (List.mem_of_getElem? (i := 2) rfl)) (by decide) (by decide)) q184a q184c (g := (mkF m 149 #[.val (.long q1), .second, .val (.long q2), .second, .val (.long q3), .second, .val (.int p4), .val (.int p5), .val (.ref b139), .val (.int (2 : Int32)), .val (.int (1 : Int32)), .val (.int (1 : Int32))] [(.ref b139)])) rfl (by rw [hml]; rfl) (Steps.refl _) (argsL := []) (rest := []) (lenOf pd_3 rfl) rfl (by show 2 * 0 + _ ≤ _; exact Nat.le_of_eq rfl) (hb hby at_149) (fun _ _ => ⟨rfl, P183_0, (by decide : 7 + 0 ≤ _), (by decide : 33030 + 0 ≤ _)⟩)
        dsimp only [Pt.U, Pt.locs, Pt.cells, Pt.slots] at X184 l184 y184 z184 st184 hQ184
        subst l184 y184 z184
        obtain ⟨rfl, N184q, P184_0⟩ := hQ184
        have N184 := Fr.app N183 N184q
        obtain ⟨fs, hr, hrun, hended, hW, hsame⟩ := X184.leave (v := some (.int (1 : Int32))) (fun h => by rw [Bd.returns] at h; cases h) hlk
        refine ⟨_, _, pre0 _ ?_, hrun, hended, _, _, rfl, ?_, ⟨_, rfl⟩, hW, hsame.mono (by decide) (by decide)⟩
        · refine pr150 _ ?_
          show Steps p.tables e below (T147.setTop (mkF m 19 #[.val (.long q1), .second, .val (.long q2), .second, .val (.long q3), .second, .val (.int p4), .val (.int p5), .val (.ref b139), .val (.int (2 : Int32)), .unset, .unset] [(.int (p5 &&& (4 : Int32)))])) _
          refine XS.ifNo X147.here hx rfl (hb hby at_19) rfl ((if0 _ _).trans (feq hc151).1) ?_
          show Steps p.tables e below (T147.setTop (mkF m 22 #[.val (.long q1), .second, .val (.long q2), .second, .val (.long q3), .second, .val (.int p4), .val (.int p5), .val (.ref b139), .val (.int (2 : Int32)), .unset, .unset] [])) _
          refine XS.iconst X147.here hx rfl (hb hby at_22) ?_
          show Steps p.tables e below (T147.setTop (mkF m 23 #[.val (.long q1), .second, .val (.long q2), .second, .val (.long q3), .second, .val (.int p4), .val (.int p5), .val (.ref b139), .val (.int (2 : Int32)), .unset, .unset] [(.int (1 : Int32))])) _
          refine XS.goto X147.here hx rfl (pc0 := 23) (pc' := 27) rfl (hb hby at_23) (by decide) (by decide) ?_
          show Steps p.tables e below (T147.setTop (mkF m 27 #[.val (.long q1), .second, .val (.long q2), .second, .val (.long q3), .second, .val (.int p4), .val (.int p5), .val (.ref b139), .val (.int (2 : Int32)), .unset, .unset] [(.int (1 : Int32))])) _
          refine XS.istore X147.here hx rfl (hb hby at_27) rfl (l' := #[.val (.long q1), .second, .val (.long q2), .second, .val (.long q3), .second, .val (.int p4), .val (.int p5), .val (.ref b139), .val (.int (2 : Int32)), .val (.int (1 : Int32)), .unset]) rfl ?_
          show Steps p.tables e below (T147.setTop (mkF m 29 #[.val (.long q1), .second, .val (.long q2), .second, .val (.long q3), .second, .val (.int p4), .val (.int p5), .val (.ref b139), .val (.int (2 : Int32)), .val (.int (1 : Int32)), .unset] [])) _
          refine XS.aload X147.here hx rfl (hb hby at_29) rfl rfl ?_
          show Steps p.tables e below (T147.setTop (mkF m 31 #[.val (.long q1), .second, .val (.long q2), .second, .val (.long q3), .second, .val (.int p4), .val (.int p5), .val (.ref b139), .val (.int (2 : Int32)), .val (.int (1 : Int32)), .unset] [(.ref b139)])) _
          refine st164.trans ?_
          show Steps p.tables e below (T164.setTop (mkF m 34 #[.val (.long q1), .second, .val (.long q2), .second, .val (.long q3), .second, .val (.int p4), .val (.int p5), .val (.ref b139), .val (.int (2 : Int32)), .val (.int (1 : Int32)), .unset] [(.int (0 : Int32))])) _
          refine XS.ifNo X164.here hx rfl (hb hby at_34) rfl ((if0 _ _).trans (teq (by decide : (0 : Int32) = (0 : Int32))).2) ?_
          show Steps p.tables e below (T164.setTop (mkF m 37 #[.val (.long q1), .second, .val (.long q2), .second, .val (.long q3), .second, .val (.int p4), .val (.int p5), .val (.ref b139), .val (.int (2 : Int32)), .val (.int (1 : Int32)), .unset] [])) _
          refine XS.aload X164.here hx rfl (hb hby at_37) rfl rfl ?_
          show Steps p.tables e below (T164.setTop (mkF m 39 #[.val (.long q1), .second, .val (.long q2), .second, .val (.long q3), .second, .val (.int p4), .val (.int p5), .val (.ref b139), .val (.int (2 : Int32)), .val (.int (1 : Int32)), .unset] [(.ref b139)])) _
          refine st165.trans ?_
          show Steps p.tables e below (T165.setTop (mkF m 42 #[.val (.long q1), .second, .val (.long q2), .second, .val (.long q3), .second, .val (.int p4), .val (.int p5), .val (.ref b139), .val (.int (2 : Int32)), .val (.int (1 : Int32)), .unset] [(.int (0 : Int32))])) _
          refine XS.ifNo X165.here hx rfl (hb hby at_42) rfl ((if0 _ _).trans (teq (by decide : (0 : Int32) = (0 : Int32))).2) ?_
          show Steps p.tables e below (T165.setTop (mkF m 45 #[.val (.long q1), .second, .val (.long q2), .second, .val (.long q3), .second, .val (.int p4), .val (.int p5), .val (.ref b139), .val (.int (2 : Int32)), .val (.int (1 : Int32)), .unset] [])) _
          refine XS.iconst X165.here hx rfl (hb hby at_45) ?_
          show Steps p.tables e below (T165.setTop (mkF m 46 #[.val (.long q1), .second, .val (.long q2), .second, .val (.long q3), .second, .val (.int p4), .val (.int p5), .val (.ref b139), .val (.int (2 : Int32)), .val (.int (1 : Int32)), .unset] [(.int (1 : Int32))])) _
          refine XS.goto X165.here hx rfl (pc0 := 46) (pc' := 50) rfl (hb hby at_46) (by decide) (by decide) ?_
          show Steps p.tables e below (T165.setTop (mkF m 50 #[.val (.long q1), .second, .val (.long q2), .second, .val (.long q3), .second, .val (.int p4), .val (.int p5), .val (.ref b139), .val (.int (2 : Int32)), .val (.int (1 : Int32)), .unset] [(.int (1 : Int32))])) _
          refine XS.istore X165.here hx rfl (hb hby at_50) rfl (l' := #[.val (.long q1), .second, .val (.long q2), .second, .val (.long q3), .second, .val (.int p4), .val (.int p5), .val (.ref b139), .val (.int (2 : Int32)), .val (.int (1 : Int32)), .val (.int (1 : Int32))]) rfl ?_
          show Steps p.tables e below (T165.setTop (mkF m 52 #[.val (.long q1), .second, .val (.long q2), .second, .val (.long q3), .second, .val (.int p4), .val (.int p5), .val (.ref b139), .val (.int (2 : Int32)), .val (.int (1 : Int32)), .val (.int (1 : Int32))] [])) _
          refine XS.iload X165.here hx rfl (hb hby at_52) rfl ?_
          show Steps p.tables e below (T165.setTop (mkF m 54 #[.val (.long q1), .second, .val (.long q2), .second, .val (.long q3), .second, .val (.int p4), .val (.int p5), .val (.ref b139), .val (.int (2 : Int32)), .val (.int (1 : Int32)), .val (.int (1 : Int32))] [(.int (2 : Int32))])) _
          refine XS.ifNo X165.here hx rfl (hb hby at_54) rfl ((if0 _ _).trans (tlt (by decide : (0 : Int32) < (2 : Int32))).2.2.2) ?_
          show Steps p.tables e below (T165.setTop (mkF m 57 #[.val (.long q1), .second, .val (.long q2), .second, .val (.long q3), .second, .val (.int p4), .val (.int p5), .val (.ref b139), .val (.int (2 : Int32)), .val (.int (1 : Int32)), .val (.int (1 : Int32))] [])) _
          refine XS.aload X165.here hx rfl (hb hby at_57) rfl rfl ?_
          show Steps p.tables e below (T165.setTop (mkF m 59 #[.val (.long q1), .second, .val (.long q2), .second, .val (.long q3), .second, .val (.int p4), .val (.int p5), .val (.ref b139), .val (.int (2 : Int32)), .val (.int (1 : Int32)), .val (.int (1 : Int32))] [(.ref b139)])) _
          refine XS.lloadN X165.here hx rfl (hb hby at_59) rfl ?_
          show Steps p.tables e below (T165.setTop (mkF m 60 #[.val (.long q1), .second, .val (.long q2), .second, .val (.long q3), .second, .val (.int p4), .val (.int p5), .val (.ref b139), .val (.int (2 : Int32)), .val (.int (1 : Int32)), .val (.int (1 : Int32))] [(.long q1), (.ref b139)])) _
          refine XS.iload X165.here hx rfl (hb hby at_60) rfl ?_
          show Steps p.tables e below (T165.setTop (mkF m 62 #[.val (.long q1), .second, .val (.long q2), .second, .val (.long q3), .second, .val (.int p4), .val (.int p5), .val (.ref b139), .val (.int (2 : Int32)), .val (.int (1 : Int32)), .val (.int (1 : Int32))] [(.int p4), (.long q1), (.ref b139)])) _
          refine st166.trans ?_
          show Steps p.tables e below (T166.setTop (mkF m 65 #[.val (.long q1), .second, .val (.long q2), .second, .val (.long q3), .second, .val (.int p4), .val (.int p5), .val (.ref b139), .val (.int (2 : Int32)), .val (.int (1 : Int32)), .val (.int (1 : Int32))] [])) _
          refine XS.iload X166.here hx rfl (hb hby at_65) rfl ?_
          show Steps p.tables e below (T166.setTop (mkF m 67 #[.val (.long q1), .second, .val (.long q2), .second, .val (.long q3), .second, .val (.int p4), .val (.int p5), .val (.ref b139), .val (.int (2 : Int32)), .val (.int (1 : Int32)), .val (.int (1 : Int32))] [(.int (2 : Int32))])) _
          refine XS.iconst X166.here hx rfl (hb hby at_67) ?_
          show Steps p.tables e below (T166.setTop (mkF m 68 #[.val (.long q1), .second, .val (.long q2), .second, .val (.long q3), .second, .val (.int p4), .val (.int p5), .val (.ref b139), .val (.int (2 : Int32)), .val (.int (1 : Int32)), .val (.int (1 : Int32))] [(.int (1 : Int32)), (.int (2 : Int32))])) _
          refine XS.icmpNo X166.here hx rfl (hb hby at_68) rfl (tlt (by decide : (1 : Int32) < (2 : Int32))).2.2.2 ?_
          show Steps p.tables e below (T166.setTop (mkF m 71 #[.val (.long q1), .second, .val (.long q2), .second, .val (.long q3), .second, .val (.int p4), .val (.int p5), .val (.ref b139), .val (.int (2 : Int32)), .val (.int (1 : Int32)), .val (.int (1 : Int32))] [])) _
          refine XS.aload X166.here hx rfl (hb hby at_71) rfl rfl ?_
          show Steps p.tables e below (T166.setTop (mkF m 73 #[.val (.long q1), .second, .val (.long q2), .second, .val (.long q3), .second, .val (.int p4), .val (.int p5), .val (.ref b139), .val (.int (2 : Int32)), .val (.int (1 : Int32)), .val (.int (1 : Int32))] [(.ref b139)])) _
          refine XS.lloadN X166.here hx rfl (hb hby at_73) rfl ?_
          show Steps p.tables e below (T166.setTop (mkF m 74 #[.val (.long q1), .second, .val (.long q2), .second, .val (.long q3), .second, .val (.int p4), .val (.int p5), .val (.ref b139), .val (.int (2 : Int32)), .val (.int (1 : Int32)), .val (.int (1 : Int32))] [(.long q2), (.ref b139)])) _
          refine XS.iload X166.here hx rfl (hb hby at_74) rfl ?_
          show Steps p.tables e below (T166.setTop (mkF m 76 #[.val (.long q1), .second, .val (.long q2), .second, .val (.long q3), .second, .val (.int p4), .val (.int p5), .val (.ref b139), .val (.int (2 : Int32)), .val (.int (1 : Int32)), .val (.int (1 : Int32))] [(.int p4), (.long q2), (.ref b139)])) _
          refine st169.trans ?_
          show Steps p.tables e below (T169.setTop (mkF m 79 #[.val (.long q1), .second, .val (.long q2), .second, .val (.long q3), .second, .val (.int p4), .val (.int p5), .val (.ref b139), .val (.int (2 : Int32)), .val (.int (1 : Int32)), .val (.int (1 : Int32))] [])) _
          refine XS.iload X169.here hx rfl (hb hby at_79) rfl ?_
          show Steps p.tables e below (T169.setTop (mkF m 81 #[.val (.long q1), .second, .val (.long q2), .second, .val (.long q3), .second, .val (.int p4), .val (.int p5), .val (.ref b139), .val (.int (2 : Int32)), .val (.int (1 : Int32)), .val (.int (1 : Int32))] [(.int (2 : Int32))])) _
          refine XS.iconst X169.here hx rfl (hb hby at_81) ?_
          show Steps p.tables e below (T169.setTop (mkF m 82 #[.val (.long q1), .second, .val (.long q2), .second, .val (.long q3), .second, .val (.int p4), .val (.int p5), .val (.ref b139), .val (.int (2 : Int32)), .val (.int (1 : Int32)), .val (.int (1 : Int32))] [(.int (2 : Int32)), (.int (2 : Int32))])) _
          refine XS.icmpYes X169.here hx rfl (pc0 := 82) (pc' := 94) rfl (hb hby at_82) rfl (flt (by decide : ¬ ((2 : Int32) < (2 : Int32)))).2.2.2 (by decide) (by decide) ?_
          show Steps p.tables e below (T169.setTop (mkF m 94 #[.val (.long q1), .second, .val (.long q2), .second, .val (.long q3), .second, .val (.int p4), .val (.int p5), .val (.ref b139), .val (.int (2 : Int32)), .val (.int (1 : Int32)), .val (.int (1 : Int32))] [])) _
          refine XS.iload X169.here hx rfl (hb hby at_94) rfl ?_
          show Steps p.tables e below (T169.setTop (mkF m 96 #[.val (.long q1), .second, .val (.long q2), .second, .val (.long q3), .second, .val (.int p4), .val (.int p5), .val (.ref b139), .val (.int (2 : Int32)), .val (.int (1 : Int32)), .val (.int (1 : Int32))] [(.int (1 : Int32))])) _
          refine XS.ifNo X169.here hx rfl (hb hby at_96) rfl ((if0 _ _).trans (feq (by decide : ¬ ((1 : Int32) = (0 : Int32)))).1) ?_
          show Steps p.tables e below (T169.setTop (mkF m 99 #[.val (.long q1), .second, .val (.long q2), .second, .val (.long q3), .second, .val (.int p4), .val (.int p5), .val (.ref b139), .val (.int (2 : Int32)), .val (.int (1 : Int32)), .val (.int (1 : Int32))] [])) _
          refine XS.aload X169.here hx rfl (hb hby at_99) rfl rfl ?_
          show Steps p.tables e below (T169.setTop (mkF m 101 #[.val (.long q1), .second, .val (.long q2), .second, .val (.long q3), .second, .val (.int p4), .val (.int p5), .val (.ref b139), .val (.int (2 : Int32)), .val (.int (1 : Int32)), .val (.int (1 : Int32))] [(.ref b139)])) _
          refine st174.trans ?_
          show Steps p.tables e below (T174.setTop (mkF m 104 #[.val (.long q1), .second, .val (.long q2), .second, .val (.long q3), .second, .val (.int p4), .val (.int p5), .val (.ref b139), .val (.int (2 : Int32)), .val (.int (1 : Int32)), .val (.int (1 : Int32))] [(.int (0 : Int32))])) _
          refine XS.ifNo X174.here hx rfl (hb hby at_104) rfl ((if0 _ _).trans (teq (by decide : (0 : Int32) = (0 : Int32))).2) ?_
          show Steps p.tables e below (T174.setTop (mkF m 107 #[.val (.long q1), .second, .val (.long q2), .second, .val (.long q3), .second, .val (.int p4), .val (.int p5), .val (.ref b139), .val (.int (2 : Int32)), .val (.int (1 : Int32)), .val (.int (1 : Int32))] [])) _
          refine XS.aload X174.here hx rfl (hb hby at_107) rfl rfl ?_
          show Steps p.tables e below (T174.setTop (mkF m 109 #[.val (.long q1), .second, .val (.long q2), .second, .val (.long q3), .second, .val (.int p4), .val (.int p5), .val (.ref b139), .val (.int (2 : Int32)), .val (.int (1 : Int32)), .val (.int (1 : Int32))] [(.ref b139)])) _
          refine st175.trans ?_
          show Steps p.tables e below (T175.setTop (mkF m 112 #[.val (.long q1), .second, .val (.long q2), .second, .val (.long q3), .second, .val (.int p4), .val (.int p5), .val (.ref b139), .val (.int (2 : Int32)), .val (.int (1 : Int32)), .val (.int (1 : Int32))] [(.int (2 : Int32))])) _
          refine XS.iload X175.here hx rfl (hb hby at_112) rfl ?_
          show Steps p.tables e below (T175.setTop (mkF m 114 #[.val (.long q1), .second, .val (.long q2), .second, .val (.long q3), .second, .val (.int p4), .val (.int p5), .val (.ref b139), .val (.int (2 : Int32)), .val (.int (1 : Int32)), .val (.int (1 : Int32))] [(.int (2 : Int32)), (.int (2 : Int32))])) _
          refine XS.icmpNo X175.here hx rfl (hb hby at_114) rfl (teq (by decide : (2 : Int32) = (2 : Int32))).2 ?_
          show Steps p.tables e below (T175.setTop (mkF m 117 #[.val (.long q1), .second, .val (.long q2), .second, .val (.long q3), .second, .val (.int p4), .val (.int p5), .val (.ref b139), .val (.int (2 : Int32)), .val (.int (1 : Int32)), .val (.int (1 : Int32))] [])) _
          refine XS.iconst X175.here hx rfl (hb hby at_117) ?_
          show Steps p.tables e below (T175.setTop (mkF m 118 #[.val (.long q1), .second, .val (.long q2), .second, .val (.long q3), .second, .val (.int p4), .val (.int p5), .val (.ref b139), .val (.int (2 : Int32)), .val (.int (1 : Int32)), .val (.int (1 : Int32))] [(.int (1 : Int32))])) _
          refine XS.goto X175.here hx rfl (pc0 := 118) (pc' := 122) rfl (hb hby at_118) (by decide) (by decide) ?_
          show Steps p.tables e below (T175.setTop (mkF m 122 #[.val (.long q1), .second, .val (.long q2), .second, .val (.long q3), .second, .val (.int p4), .val (.int p5), .val (.ref b139), .val (.int (2 : Int32)), .val (.int (1 : Int32)), .val (.int (1 : Int32))] [(.int (1 : Int32))])) _
          refine XS.istore X175.here hx rfl (hb hby at_122) rfl (l' := #[.val (.long q1), .second, .val (.long q2), .second, .val (.long q3), .second, .val (.int p4), .val (.int p5), .val (.ref b139), .val (.int (2 : Int32)), .val (.int (1 : Int32)), .val (.int (1 : Int32))]) rfl ?_
          show Steps p.tables e below (T175.setTop (mkF m 124 #[.val (.long q1), .second, .val (.long q2), .second, .val (.long q3), .second, .val (.int p4), .val (.int p5), .val (.ref b139), .val (.int (2 : Int32)), .val (.int (1 : Int32)), .val (.int (1 : Int32))] [])) _
          refine XS.iload X175.here hx rfl (hb hby at_124) rfl ?_
          show Steps p.tables e below (T175.setTop (mkF m 126 #[.val (.long q1), .second, .val (.long q2), .second, .val (.long q3), .second, .val (.int p4), .val (.int p5), .val (.ref b139), .val (.int (2 : Int32)), .val (.int (1 : Int32)), .val (.int (1 : Int32))] [(.int (1 : Int32))])) _
          refine XS.ifNo X175.here hx rfl (hb hby at_126) rfl ((if0 _ _).trans (feq (by decide : ¬ ((1 : Int32) = (0 : Int32)))).1) ?_
          show Steps p.tables e below (T175.setTop (mkF m 129 #[.val (.long q1), .second, .val (.long q2), .second, .val (.long q3), .second, .val (.int p4), .val (.int p5), .val (.ref b139), .val (.int (2 : Int32)), .val (.int (1 : Int32)), .val (.int (1 : Int32))] [])) _
          refine XS.aload X175.here hx rfl (hb hby at_129) rfl rfl ?_
          show Steps p.tables e below (T175.setTop (mkF m 131 #[.val (.long q1), .second, .val (.long q2), .second, .val (.long q3), .second, .val (.int p4), .val (.int p5), .val (.ref b139), .val (.int (2 : Int32)), .val (.int (1 : Int32)), .val (.int (1 : Int32))] [(.ref b139)])) _
          refine st176.trans ?_
          show Steps p.tables e below (T176.setTop (mkF m 134 #[.val (.long q1), .second, .val (.long q2), .second, .val (.long q3), .second, .val (.int p4), .val (.int p5), .val (.ref b139), .val (.int (2 : Int32)), .val (.int (1 : Int32)), .val (.int (1 : Int32))] [])) _
          refine XS.iload X176.here hx rfl (hb hby at_134) rfl ?_
          show Steps p.tables e below (T176.setTop (mkF m 136 #[.val (.long q1), .second, .val (.long q2), .second, .val (.long q3), .second, .val (.int p4), .val (.int p5), .val (.ref b139), .val (.int (2 : Int32)), .val (.int (1 : Int32)), .val (.int (1 : Int32))] [(.int (1 : Int32))])) _
          refine XS.ifNo X176.here hx rfl (hb hby at_136) rfl ((if0 _ _).trans (feq (by decide : ¬ ((1 : Int32) = (0 : Int32)))).1) ?_
          show Steps p.tables e below (T176.setTop (mkF m 139 #[.val (.long q1), .second, .val (.long q2), .second, .val (.long q3), .second, .val (.int p4), .val (.int p5), .val (.ref b139), .val (.int (2 : Int32)), .val (.int (1 : Int32)), .val (.int (1 : Int32))] [])) _
          refine XS.aload X176.here hx rfl (hb hby at_139) rfl rfl ?_
          show Steps p.tables e below (T176.setTop (mkF m 141 #[.val (.long q1), .second, .val (.long q2), .second, .val (.long q3), .second, .val (.int p4), .val (.int p5), .val (.ref b139), .val (.int (2 : Int32)), .val (.int (1 : Int32)), .val (.int (1 : Int32))] [(.ref b139)])) _
          refine st183.trans ?_
          show Steps p.tables e below (T183.setTop (mkF m 144 #[.val (.long q1), .second, .val (.long q2), .second, .val (.long q3), .second, .val (.int p4), .val (.int p5), .val (.ref b139), .val (.int (2 : Int32)), .val (.int (1 : Int32)), .val (.int (1 : Int32))] [(.int (0 : Int32))])) _
          refine XS.ifNo X183.here hx rfl (hb hby at_144) rfl ((if0 _ _).trans (teq (by decide : (0 : Int32) = (0 : Int32))).2) ?_
          show Steps p.tables e below (T183.setTop (mkF m 147 #[.val (.long q1), .second, .val (.long q2), .second, .val (.long q3), .second, .val (.int p4), .val (.int p5), .val (.ref b139), .val (.int (2 : Int32)), .val (.int (1 : Int32)), .val (.int (1 : Int32))] [])) _
          refine XS.aload X183.here hx rfl (hb hby at_147) rfl rfl ?_
          show Steps p.tables e below (T183.setTop (mkF m 149 #[.val (.long q1), .second, .val (.long q2), .second, .val (.long q3), .second, .val (.int p4), .val (.int p5), .val (.ref b139), .val (.int (2 : Int32)), .val (.int (1 : Int32)), .val (.int (1 : Int32))] [(.ref b139)])) _
          refine st184.trans ?_
          show Steps p.tables e below (T184.setTop (mkF m 152 #[.val (.long q1), .second, .val (.long q2), .second, .val (.long q3), .second, .val (.int p4), .val (.int p5), .val (.ref b139), .val (.int (2 : Int32)), .val (.int (1 : Int32)), .val (.int (1 : Int32))] [(.int (0 : Int32))])) _
          refine XS.ifNo X184.here hx rfl (hb hby at_152) rfl ((if0 _ _).trans (teq (by decide : (0 : Int32) = (0 : Int32))).2) ?_
          show Steps p.tables e below (T184.setTop (mkF m 155 #[.val (.long q1), .second, .val (.long q2), .second, .val (.long q3), .second, .val (.int p4), .val (.int p5), .val (.ref b139), .val (.int (2 : Int32)), .val (.int (1 : Int32)), .val (.int (1 : Int32))] [])) _
          refine XS.iconst X184.here hx rfl (hb hby at_155) ?_
          show Steps p.tables e below (T184.setTop (mkF m 156 #[.val (.long q1), .second, .val (.long q2), .second, .val (.long q3), .second, .val (.int p4), .val (.int p5), .val (.ref b139), .val (.int (2 : Int32)), .val (.int (1 : Int32)), .val (.int (1 : Int32))] [(.int (1 : Int32))])) _
          refine XS.goto X184.here hx rfl (pc0 := 156) (pc' := 160) rfl (hb hby at_156) (by decide) (by decide) ?_
          show Steps p.tables e below (T184.setTop (mkF m 160 #[.val (.long q1), .second, .val (.long q2), .second, .val (.long q3), .second, .val (.int p4), .val (.int p5), .val (.ref b139), .val (.int (2 : Int32)), .val (.int (1 : Int32)), .val (.int (1 : Int32))] [(.int (1 : Int32))])) _
          refine XS.istore X184.here hx rfl (hb hby at_160) rfl (l' := #[.val (.long q1), .second, .val (.long q2), .second, .val (.long q3), .second, .val (.int p4), .val (.int p5), .val (.ref b139), .val (.int (2 : Int32)), .val (.int (1 : Int32)), .val (.int (1 : Int32))]) rfl ?_
          show Steps p.tables e below (T184.setTop (mkF m 162 #[.val (.long q1), .second, .val (.long q2), .second, .val (.long q3), .second, .val (.int p4), .val (.int p5), .val (.ref b139), .val (.int (2 : Int32)), .val (.int (1 : Int32)), .val (.int (1 : Int32))] [])) _
          refine XS.iload X184.here hx rfl (hb hby at_162) rfl ?_
          show Steps p.tables e below (T184.setTop (mkF m 164 #[.val (.long q1), .second, .val (.long q2), .second, .val (.long q3), .second, .val (.int p4), .val (.int p5), .val (.ref b139), .val (.int (2 : Int32)), .val (.int (1 : Int32)), .val (.int (1 : Int32))] [(.int (1 : Int32))])) _
          exact retN X184 hx (t := .boolean) Bd.returns (by simp) (hb hby at_164) hr
        · show Q0 Z q1 q2 q3 p4 p5 h0 n0 _ T184.heap _
          rw [P184_0]
          exact ⟨rfl, N184⟩
    · by_cases hc185 : (p5 &&& (3 : Int32)) = (3 : Int32)
      · obtain ⟨T186, h186, X186, e186, E186, A186, D186, -, st186⟩ := newO X0 hx hZ0 hown0 (hw _ (List.mem_of_getElem? (i := 0) rfl)) (hw _ (List.mem_of_getElem? (i := 1) rfl)) (hw _ (List.mem_of_getElem? (i := 2) rfl)) e0 (g := (mkF m 0 #[.val (.long q1), .second, .val (.long q2), .second, .val (.long q3), .second, .val (.int p4), .val (.int p5), .unset, .unset, .unset, .unset] [])) rfl (hb hby at_0) (by decide) (by decide)
        obtain ⟨b186, g186⟩ : ∃ z, z = h0.size := ⟨_, rfl⟩
        rw [← g186] at A186 D186 st186
        have gn_b186 : n0 ≤ b186 := Nat.le_trans Z0 (Nat.le_of_eq g186.symm)
        have f187 : Old Z n0 h186 := O0.ext E186
        have Zs186 : n0 ≤ h186.size := Nat.le_trans Z0 E186.1
        have f188 : Fld Z h186 b186 "holdfast/CountedIds$Batch" "digests" "[[J" .null := D186 (Or.inl (hw _ (List.mem_of_getElem? (i := 12) rfl))) (ty := (.array (.array .long))) (by decide)
        have f189 : Fld Z h186 b186 "holdfast/CountedIds$Batch" "tags" "[[I" .null := D186 (Or.inl (hw _ (List.mem_of_getElem? (i := 16) rfl))) (ty := (.array (.array .int))) (by decide)
        have f190 : Fld Z h186 b186 "holdfast/CountedIds$Batch" "spareDigests" "[[J" .null := D186 (Or.inl (hw _ (List.mem_of_getElem? (i := 18) rfl))) (ty := (.array (.array .long))) (by decide)
        have f191 : Fld Z h186 b186 "holdfast/CountedIds$Batch" "spareTags" "[[I" .null := D186 (Or.inl (hw _ (List.mem_of_getElem? (i := 20) rfl))) (ty := (.array (.array .int))) (by decide)
        have f192 : Fld Z h186 b186 "holdfast/CountedIds$Batch" "sorted" "Z" (.int (0 : Int32)) := D186 (Or.inl (hw _ (List.mem_of_getElem? (i := 22) rfl))) (ty := .boolean) (by decide)
        have f193 : Fld Z h186 b186 "holdfast/CountedIds$Batch" "size" "I" (.int (0 : Int32)) := D186 (Or.inl (hw _ (List.mem_of_getElem? (i := 29) rfl))) (ty := .int) (by decide)
        obtain ⟨_, _, ⟨T194, L194, k194, n194⟩, -, X194, ⟨Lc194, hQ194, l194, y194, z194⟩, st194⟩ := X186.specialBack hx (y := (⟨"holdfast/CountedIds$Batch", "<init>", "()V"⟩ : MethodName)) rfl hown0 (mvT hZ0 (hw _ (List.mem_of_getElem? (i := 3) rfl))) (mvT hZ0 (hw _ (List.mem_of_getElem? (i := 4) rfl))) (mvT hZ0 (hw _ (List.mem_of_getElem? (i := 5) rfl))) (by decide) (backOf (W := 1) (rm1 l Z a0 hw [] b186 h186 n0 Zs186 A186 gn_b186 f188 f189 f190 f191 f192 f193) hZ0 (hw _ (List.mem_of_getElem? (i := 5) rfl)) (hw _ (List.mem_of_getElem? (i := 2) rfl)) (by decide) (by decide)) (g := (mkF m 4 #[.val (.long q1), .second, .val (.long q2), .second, .val (.long q3), .second, .val (.int p4), .val (.int p5), .unset, .unset, .unset, .unset] [(.ref b186), (.ref b186)])) rfl (by rw [hml]; rfl) (Steps.refl _) (a := b186) (argsL := []) (rest := [(.ref b186)]) (lenOf pd_1 rfl) rfl (by show 2 * 0 + _ ≤ _; exact Nat.le_of_eq rfl) (hb hby at_4) (fun _ _ => ⟨rfl, e186, (by decide : 1 + 4 ≤ _), (by decide : 6 + 256 ≤ _)⟩)
        dsimp only [Pt.U, Pt.locs, Pt.cells, Pt.slots] at X194 l194 y194 z194 st194 hQ194
        subst l194 y194 z194
        obtain ⟨d_194, t_194, kd_194, kt_194, rfl, N194q, P194_0, P194_1, P194_2, P194_3, P194_4, P194_5, P194_6, P194_7, P194_8, P194_9, P194_10, P194_11⟩ := hQ194
        have N194 := Fr.app N0 N194q
        have ne_b186_d_194 : b186 ≠ d_194 := Nat.ne_of_lt (Nat.lt_of_lt_of_le A186.lt P194_1)
        have gn_d_194 : n0 ≤ d_194 := Nat.le_trans Zs186 P194_1
        have ne_b186_t_194 : b186 ≠ t_194 := Nat.ne_of_lt (Nat.lt_of_lt_of_le A186.lt P194_2)
        have gn_t_194 : n0 ≤ t_194 := Nat.le_trans Zs186 P194_2
        have f195 : Old Z n0 T194.heap := f187.keep P194_0 (allS gn_b186 all0)
        have f196 : Exa Z T194.heap b186 "holdfast/CountedIds$Batch" := A186.keep P194_0
        have Zs194 : n0 ≤ T194.heap.size := Nat.le_trans Zs186 P194_0.1
        have pr197 : ∀ tg9, Steps p.tables e below (T194.setTop (mkF m 19 #[.val (.long q1), .second, .val (.long q2), .second, .val (.long q3), .second, .val (.int p4), .val (.int p5), .val (.ref b186), .val (.int (3 : Int32)), .unset, .unset] [(.int (p5 &&& (4 : Int32)))])) tg9 → Steps p.tables e below (s₁.setTop (mkF m 0 #[.val (.long q1), .second, .val (.long q2), .second, .val (.long q3), .second, .val (.int p4), .val (.int p5), .unset, .unset, .unset, .unset] [])) tg9 := fun tg9 kt => by
          show Steps p.tables e below (s₁.setTop (mkF m 0 #[.val (.long q1), .second, .val (.long q2), .second, .val (.long q3), .second, .val (.int p4), .val (.int p5), .unset, .unset, .unset, .unset] [])) _
          refine st186 _ ?_
          show Steps p.tables e below (T186.setTop (mkF m 3 #[.val (.long q1), .second, .val (.long q2), .second, .val (.long q3), .second, .val (.int p4), .val (.int p5), .unset, .unset, .unset, .unset] [(.ref b186)])) _
          refine XS.dup X186.here hx rfl (hb hby at_3) rfl rfl ?_
          show Steps p.tables e below (T186.setTop (mkF m 4 #[.val (.long q1), .second, .val (.long q2), .second, .val (.long q3), .second, .val (.int p4), .val (.int p5), .unset, .unset, .unset, .unset] [(.ref b186), (.ref b186)])) _
          refine st194.trans ?_
          show Steps p.tables e below (T194.setTop (mkF m 7 #[.val (.long q1), .second, .val (.long q2), .second, .val (.long q3), .second, .val (.int p4), .val (.int p5), .unset, .unset, .unset, .unset] [(.ref b186)])) _
          refine XS.astore X194.here hx rfl (hb hby at_7) rfl rfl (l' := #[.val (.long q1), .second, .val (.long q2), .second, .val (.long q3), .second, .val (.int p4), .val (.int p5), .val (.ref b186), .unset, .unset, .unset]) rfl ?_
          show Steps p.tables e below (T194.setTop (mkF m 9 #[.val (.long q1), .second, .val (.long q2), .second, .val (.long q3), .second, .val (.int p4), .val (.int p5), .val (.ref b186), .unset, .unset, .unset] [])) _
          refine XS.iload X194.here hx rfl (hb hby at_9) rfl ?_
          show Steps p.tables e below (T194.setTop (mkF m 11 #[.val (.long q1), .second, .val (.long q2), .second, .val (.long q3), .second, .val (.int p4), .val (.int p5), .val (.ref b186), .unset, .unset, .unset] [(.int p5)])) _
          refine XS.iconst X194.here hx rfl (hb hby at_11) ?_
          show Steps p.tables e below (T194.setTop (mkF m 12 #[.val (.long q1), .second, .val (.long q2), .second, .val (.long q3), .second, .val (.int p4), .val (.int p5), .val (.ref b186), .unset, .unset, .unset] [(.int (3 : Int32)), (.int p5)])) _
          refine XS.iand X194.here hx rfl (hb hby at_12) rfl ?_
          show Steps p.tables e below (T194.setTop (mkF m 13 #[.val (.long q1), .second, .val (.long q2), .second, .val (.long q3), .second, .val (.int p4), .val (.int p5), .val (.ref b186), .unset, .unset, .unset] [(.int (p5 &&& (3 : Int32)))])) _
          rw [hc185]
          show Steps p.tables e below (T194.setTop (mkF m 13 #[.val (.long q1), .second, .val (.long q2), .second, .val (.long q3), .second, .val (.int p4), .val (.int p5), .val (.ref b186), .unset, .unset, .unset] [(.int (3 : Int32))])) _
          refine XS.istore X194.here hx rfl (hb hby at_13) rfl (l' := #[.val (.long q1), .second, .val (.long q2), .second, .val (.long q3), .second, .val (.int p4), .val (.int p5), .val (.ref b186), .val (.int (3 : Int32)), .unset, .unset]) rfl ?_
          show Steps p.tables e below (T194.setTop (mkF m 15 #[.val (.long q1), .second, .val (.long q2), .second, .val (.long q3), .second, .val (.int p4), .val (.int p5), .val (.ref b186), .val (.int (3 : Int32)), .unset, .unset] [])) _
          refine XS.iload X194.here hx rfl (hb hby at_15) rfl ?_
          show Steps p.tables e below (T194.setTop (mkF m 17 #[.val (.long q1), .second, .val (.long q2), .second, .val (.long q3), .second, .val (.int p4), .val (.int p5), .val (.ref b186), .val (.int (3 : Int32)), .unset, .unset] [(.int p5)])) _
          refine XS.iconst X194.here hx rfl (hb hby at_17) ?_
          show Steps p.tables e below (T194.setTop (mkF m 18 #[.val (.long q1), .second, .val (.long q2), .second, .val (.long q3), .second, .val (.int p4), .val (.int p5), .val (.ref b186), .val (.int (3 : Int32)), .unset, .unset] [(.int (4 : Int32)), (.int p5)])) _
          refine XS.iand X194.here hx rfl (hb hby at_18) rfl ?_
          exact kt
        by_cases hc198 : (p5 &&& (4 : Int32)) = (0 : Int32)
        · obtain ⟨cq199, kq199, q199a, q199b, q199c⟩ := isOf hZ0 rfl f196
          obtain ⟨_, _, ⟨T199, L199, k199, n199⟩, -, X199, ⟨Lc199, hQ199, l199, y199, z199⟩, st199⟩ := X194.virtualBack hx (y := (⟨"holdfast/CountedIds$Batch", "full", "()Z"⟩ : MethodName)) (z := (⟨"holdfast/CountedIds$Batch", "full", "()Z"⟩ : MethodName)) hown0 (mvT hZ0 (hw _ (List.mem_of_getElem? (i := 23) rfl))) (mvT hZ0 (hw _ (List.mem_of_getElem? (i := 24) rfl))) (notFace_of_selects (args := #[]) (mvT hZ0 (hw _ (List.mem_of_getElem? (i := 26) rfl)))) (mvT hZ0 (hw _ (List.mem_of_getElem? (i := 26) rfl))) (mvT hZ0 (hw _ (List.mem_of_getElem? (i := 25) rfl))) (by decide) (backOf (W := 0) (rm3 l Z a0 hw [] b186 (0 : Int32) T194.heap n0 Zs194 P194_6 (by decide)) hZ0 (hw _ (List.mem_of_getElem? (i := 27) rfl)) (hw _ (List.mem_of_getElem? (i := 2) rfl)) (by decide) (by decide)) q199a q199c (g := (mkF m 31 #[.val (.long q1), .second, .val (.long q2), .second, .val (.long q3), .second, .val (.int p4), .val (.int p5), .val (.ref b186), .val (.int (3 : Int32)), .val (.int (0 : Int32)), .unset] [(.ref b186)])) rfl (by rw [hml]; rfl) (Steps.refl _) (argsL := []) (rest := []) (lenOf pd_2 rfl) rfl (by show 2 * 0 + _ ≤ _; exact Nat.le_of_eq rfl) (hb hby at_31) (fun _ _ => ⟨rfl, rfl, (by decide : 5 + 0 ≤ _), (by decide : 262 + 0 ≤ _)⟩)
          dsimp only [Pt.U, Pt.locs, Pt.cells, Pt.slots] at X199 l199 y199 z199 st199 hQ199
          subst l199 y199 z199
          obtain ⟨rfl, N199q, P199_0⟩ := hQ199
          have N199 := Fr.app N194 N199q
          obtain ⟨cq200, kq200, q200a, q200b, q200c⟩ := isOf hZ0 P199_0 f196
          obtain ⟨_, _, ⟨T200, L200, k200, n200⟩, -, X200, ⟨Lc200, hQ200, l200, y200, z200⟩, st200⟩ := X199.virtualBack hx (y := (⟨"holdfast/CountedIds$Batch", "size", "()I"⟩ : MethodName)) (z := (⟨"holdfast/CountedIds$Batch", "size", "()I"⟩ : MethodName)) hown0 (mvT hZ0 (hw _ (List.mem_of_getElem? (i := 31) rfl))) (mvT hZ0 (hw _ (List.mem_of_getElem? (i := 32) rfl))) (notFace_of_selects (args := #[]) (mvT hZ0 (hw _ (List.mem_of_getElem? (i := 34) rfl)))) (mvT hZ0 (hw _ (List.mem_of_getElem? (i := 34) rfl))) (mvT hZ0 (hw _ (List.mem_of_getElem? (i := 33) rfl))) (by decide) (backOf (W := 0) (rm4 l Z a0 hw [] b186 (0 : Int32) T194.heap n0 Zs194 P194_6) hZ0 (hw _ (List.mem_of_getElem? (i := 35) rfl)) (hw _ (List.mem_of_getElem? (i := 2) rfl)) (by decide) (by decide)) q200a q200c (g := (mkF m 39 #[.val (.long q1), .second, .val (.long q2), .second, .val (.long q3), .second, .val (.int p4), .val (.int p5), .val (.ref b186), .val (.int (3 : Int32)), .val (.int (0 : Int32)), .unset] [(.ref b186)])) rfl (by rw [hml]; rfl) (Steps.refl _) (argsL := []) (rest := []) (lenOf pd_3 rfl) rfl (by show 2 * 0 + _ ≤ _; exact Nat.le_of_eq rfl) (hb hby at_39) (fun _ _ => ⟨rfl, P199_0, (by decide : 5 + 0 ≤ _), (by decide : 262 + 0 ≤ _)⟩)
          dsimp only [Pt.U, Pt.locs, Pt.cells, Pt.slots] at X200 l200 y200 z200 st200 hQ200
          subst l200 y200 z200
          obtain ⟨rfl, N200q, P200_0⟩ := hQ200
          have N200 := Fr.app N199 N200q
          obtain ⟨cq201, kq201, q201a, q201b, q201c⟩ := isOf hZ0 P200_0 f196
          obtain ⟨_, _, ⟨T201, L201, k201, n201⟩, -, X201, ⟨Lc201, hQ201, l201, y201, z201⟩, st201⟩ := X200.virtualBack hx (y := (⟨"holdfast/CountedIds$Batch", "add", "(JI)V"⟩ : MethodName)) (z := (⟨"holdfast/CountedIds$Batch", "add", "(JI)V"⟩ : MethodName)) hown0 (mvT hZ0 (hw _ (List.mem_of_getElem? (i := 36) rfl))) (mvT hZ0 (hw _ (List.mem_of_getElem? (i := 37) rfl))) (notFace_of_selects (args := #[]) (mvT hZ0 (hw _ (List.mem_of_getElem? (i := 39) rfl)))) (mvT hZ0 (hw _ (List.mem_of_getElem? (i := 39) rfl))) (mvT hZ0 (hw _ (List.mem_of_getElem? (i := 38) rfl))) (by decide) (backOf (W := 0) (rm5z l Z a0 hw [] b186 q1 p4 d_194 t_194 kd_194 kt_194 (1 : Int32) T194.heap n0 Zs194 f195 pf0 f196 gn_b186 gn_d_194 gn_t_194 ne_b186_d_194 ne_b186_t_194 P194_3 P194_4 P194_5 P194_6 P194_7 P194_8 P194_9 P194_10 P194_11) hZ0 (hw _ (List.mem_of_getElem? (i := 40) rfl)) (hw _ (List.mem_of_getElem? (i := 2) rfl)) (by decide) (by decide)) q201a q201c (g := (mkF m 62 #[.val (.long q1), .second, .val (.long q2), .second, .val (.long q3), .second, .val (.int p4), .val (.int p5), .val (.ref b186), .val (.int (3 : Int32)), .val (.int (0 : Int32)), .val (.int (1 : Int32))] [(.int p4), (.long q1), (.ref b186)])) rfl (by rw [hml]; rfl) (Steps.refl _) (argsL := [(.long q1), (.int p4)]) (rest := []) (lenOf pd_4 rfl) rfl (by show 2 * 0 + _ ≤ _; exact Nat.le_of_eq rfl) (hb hby at_62) (fun _ _ => ⟨rfl, P200_0, (by decide : 5 + 2 ≤ _), (by decide : 262 + 32768 ≤ _)⟩)
          dsimp only [Pt.U, Pt.locs, Pt.cells, Pt.slots] at X201 l201 y201 z201 st201 hQ201
          subst l201 y201 z201
          obtain ⟨dd_201, tt_201, rfl, N201q, P201_0, P201_1, P201_2, P201_3, P201_4, P201_5, P201_6, P201_7, P201_8, P201_9, P201_10, P201_11⟩ := hQ201
          have N201 := Fr.app N200 N201q
          have ne_b186_dd_201 : b186 ≠ dd_201 := Nat.ne_of_lt (Nat.lt_of_lt_of_le f196.lt P201_1)
          have ne_d_194_dd_201 : d_194 ≠ dd_201 := Nat.ne_of_lt (Nat.lt_of_lt_of_le P194_8.lt P201_1)
          have ne_t_194_dd_201 : t_194 ≠ dd_201 := Nat.ne_of_lt (Nat.lt_of_lt_of_le P194_9.lt P201_1)
          have gn_dd_201 : n0 ≤ dd_201 := Nat.le_trans Zs194 P201_1
          have ne_b186_tt_201 : b186 ≠ tt_201 := Nat.ne_of_lt (Nat.lt_of_lt_of_le f196.lt P201_2)
          have ne_d_194_tt_201 : d_194 ≠ tt_201 := Nat.ne_of_lt (Nat.lt_of_lt_of_le P194_8.lt P201_2)
          have ne_t_194_tt_201 : t_194 ≠ tt_201 := Nat.ne_of_lt (Nat.lt_of_lt_of_le P194_9.lt P201_2)
          have gn_tt_201 : n0 ≤ tt_201 := Nat.le_trans Zs194 P201_2
          have f202 : Old Z n0 T201.heap := f195.keep P201_0 (allS gn_b186 (allS gn_d_194 (allS gn_t_194 all0)))
          have f203 : Exa Z T201.heap b186 "holdfast/CountedIds$Batch" := f196.keep P201_0
          have Zs201 : n0 ≤ T201.heap.size := Nat.le_trans Zs194 P201_0.1
          obtain ⟨cq204, kq204, q204a, q204b, q204c⟩ := isOf hZ0 rfl f203
          obtain ⟨_, _, ⟨T204, L204, k204, n204⟩, -, X204, ⟨Lc204, hQ204, l204, y204, z204⟩, st204⟩ := X201.virtualBack hx (y := (⟨"holdfast/CountedIds$Batch", "add", "(JI)V"⟩ : MethodName)) (z := (⟨"holdfast/CountedIds$Batch", "add", "(JI)V"⟩ : MethodName)) hown0 (mvT hZ0 (hw _ (List.mem_of_getElem? (i := 36) rfl))) (mvT hZ0 (hw _ (List.mem_of_getElem? (i := 37) rfl))) (notFace_of_selects (args := #[]) (mvT hZ0 (hw _ (List.mem_of_getElem? (i := 39) rfl)))) (mvT hZ0 (hw _ (List.mem_of_getElem? (i := 39) rfl))) (mvT hZ0 (hw _ (List.mem_of_getElem? (i := 38) rfl))) (by decide) (backOf (W := 0) (rm5n l Z a0 hw [] b186 q2 p4 d_194 t_194 kd_194 kt_194 (0 : Int32) dd_201 tt_201 (own_up own_none (0 : Int32) p4) (1 : Int32) (2 : Int32) T201.heap n0 Zs201 f202 pf0 f203 gn_b186 gn_d_194 gn_t_194 ne_b186_d_194 ne_b186_t_194 P194_3 P201_4 P201_5 P201_6 P201_7 P201_8 P201_9 P201_10 P201_11 P201_3 ne_t_194_dd_201 ne_d_194_dd_201 ne_d_194_tt_201 ne_t_194_tt_201 ne_b186_dd_201 ne_b186_tt_201 gn_dd_201 gn_tt_201 (by decide) (by decide) (by decide) (by decide) (by decide)) hZ0 (hw _ (List.mem_of_getElem? (i := 40) rfl)) (hw _ (List.mem_of_getElem? (i := 2) rfl)) (by decide) (by decide)) q204a q204c (g := (mkF m 76 #[.val (.long q1), .second, .val (.long q2), .second, .val (.long q3), .second, .val (.int p4), .val (.int p5), .val (.ref b186), .val (.int (3 : Int32)), .val (.int (0 : Int32)), .val (.int (1 : Int32))] [(.int p4), (.long q2), (.ref b186)])) rfl (by rw [hml]; rfl) (Steps.refl _) (argsL := [(.long q2), (.int p4)]) (rest := []) (lenOf pd_4 rfl) rfl (by show 2 * 0 + _ ≤ _; exact Nat.le_of_eq rfl) (hb hby at_76) (fun _ _ => ⟨rfl, rfl, (by decide : 7 + 0 ≤ _), (by decide : 33030 + 0 ≤ _)⟩)
          dsimp only [Pt.U, Pt.locs, Pt.cells, Pt.slots] at X204 l204 y204 z204 st204 hQ204
          subst l204 y204 z204
          obtain ⟨rfl, N204q, P204_0, P204_1, P204_2, P204_3, P204_4, P204_5, P204_6⟩ := hQ204
          have N204 := Fr.app N201 N204q
          have f205 : Old Z n0 T204.heap := f202.keep P204_0 (allS gn_b186 (allS gn_dd_201 (allS gn_tt_201 all0)))
          have f206 : Exa Z T204.heap b186 "holdfast/CountedIds$Batch" := f203.keep P204_0
          have f207 : Arv Z T204.heap d_194 kd_194 (.array .long) (64 : Int32) [(.ref dd_201)] .null := P201_8.keep P204_0 (ninS (Ne.symm ne_b186_d_194) (ninS ne_d_194_dd_201 (ninS ne_d_194_tt_201 nin0)))
          have f208 : Arv Z T204.heap t_194 kt_194 (.array .int) (64 : Int32) [(.ref tt_201)] .null := P201_9.keep P204_0 (ninS (Ne.symm ne_b186_t_194) (ninS ne_t_194_dd_201 (ninS ne_t_194_tt_201 nin0)))
          have Zs204 : n0 ≤ T204.heap.size := Nat.le_trans Zs201 P204_0.1
          obtain ⟨cq209, kq209, q209a, q209b, q209c⟩ := isOf hZ0 rfl f206
          obtain ⟨_, _, ⟨T209, L209, k209, n209⟩, -, X209, ⟨Lc209, hQ209, l209, y209, z209⟩, st209⟩ := X204.virtualBack hx (y := (⟨"holdfast/CountedIds$Batch", "add", "(JI)V"⟩ : MethodName)) (z := (⟨"holdfast/CountedIds$Batch", "add", "(JI)V"⟩ : MethodName)) hown0 (mvT hZ0 (hw _ (List.mem_of_getElem? (i := 36) rfl))) (mvT hZ0 (hw _ (List.mem_of_getElem? (i := 37) rfl))) (notFace_of_selects (args := #[]) (mvT hZ0 (hw _ (List.mem_of_getElem? (i := 39) rfl)))) (mvT hZ0 (hw _ (List.mem_of_getElem? (i := 39) rfl))) (mvT hZ0 (hw _ (List.mem_of_getElem? (i := 38) rfl))) (by decide) (backOf (W := 0) (rm5n l Z a0 hw [] b186 q3 p4 d_194 t_194 kd_194 kt_194 (0 : Int32) dd_201 tt_201 (own_up (own_up own_none (0 : Int32) p4) (1 : Int32) p4) (2 : Int32) (3 : Int32) T204.heap n0 Zs204 f205 pf0 f206 gn_b186 gn_d_194 gn_t_194 ne_b186_d_194 ne_b186_t_194 P194_3 P204_1 P204_2 P204_3 P204_4 f207 f208 P204_5 P204_6 P201_3 ne_t_194_dd_201 ne_d_194_dd_201 ne_d_194_tt_201 ne_t_194_tt_201 ne_b186_dd_201 ne_b186_tt_201 gn_dd_201 gn_tt_201 (by decide) (by decide) (by decide) (by decide) (by decide)) hZ0 (hw _ (List.mem_of_getElem? (i := 40) rfl)) (hw _ (List.mem_of_getElem? (i := 2) rfl)) (by decide) (by decide)) q209a q209c (g := (mkF m 91 #[.val (.long q1), .second, .val (.long q2), .second, .val (.long q3), .second, .val (.int p4), .val (.int p5), .val (.ref b186), .val (.int (3 : Int32)), .val (.int (0 : Int32)), .val (.int (1 : Int32))] [(.int p4), (.long q3), (.ref b186)])) rfl (by rw [hml]; rfl) (Steps.refl _) (argsL := [(.long q3), (.int p4)]) (rest := []) (lenOf pd_4 rfl) rfl (by show 2 * 0 + _ ≤ _; exact Nat.le_of_eq rfl) (hb hby at_91) (fun _ _ => ⟨rfl, rfl, (by decide : 7 + 0 ≤ _), (by decide : 33030 + 0 ≤ _)⟩)
          dsimp only [Pt.U, Pt.locs, Pt.cells, Pt.slots] at X209 l209 y209 z209 st209 hQ209
          subst l209 y209 z209
          obtain ⟨rfl, N209q, P209_0, P209_1, P209_2, P209_3, P209_4, P209_5, P209_6⟩ := hQ209
          have N209 := Fr.app N204 N209q
          have f210 : Old Z n0 T209.heap := f205.keep P209_0 (allS gn_b186 (allS gn_dd_201 (allS gn_tt_201 all0)))
          have f211 : Exa Z T209.heap b186 "holdfast/CountedIds$Batch" := f206.keep P209_0
          have f212 : Arv Z T209.heap d_194 kd_194 (.array .long) (64 : Int32) [(.ref dd_201)] .null := f207.keep P209_0 (ninS (Ne.symm ne_b186_d_194) (ninS ne_d_194_dd_201 (ninS ne_d_194_tt_201 nin0)))
          have f213 : Arv Z T209.heap t_194 kt_194 (.array .int) (64 : Int32) [(.ref tt_201)] .null := f208.keep P209_0 (ninS (Ne.symm ne_b186_t_194) (ninS ne_t_194_dd_201 (ninS ne_t_194_tt_201 nin0)))
          have Zs209 : n0 ≤ T209.heap.size := Nat.le_trans Zs204 P209_0.1
          obtain ⟨cq214, kq214, q214a, q214b, q214c⟩ := isOf hZ0 rfl f211
          obtain ⟨_, _, ⟨T214, L214, k214, n214⟩, -, X214, ⟨Lc214, hQ214, l214, y214, z214⟩, st214⟩ := X209.virtualBack hx (y := (⟨"holdfast/CountedIds$Batch", "full", "()Z"⟩ : MethodName)) (z := (⟨"holdfast/CountedIds$Batch", "full", "()Z"⟩ : MethodName)) hown0 (mvT hZ0 (hw _ (List.mem_of_getElem? (i := 23) rfl))) (mvT hZ0 (hw _ (List.mem_of_getElem? (i := 24) rfl))) (notFace_of_selects (args := #[]) (mvT hZ0 (hw _ (List.mem_of_getElem? (i := 26) rfl)))) (mvT hZ0 (hw _ (List.mem_of_getElem? (i := 26) rfl))) (mvT hZ0 (hw _ (List.mem_of_getElem? (i := 25) rfl))) (by decide) (backOf (W := 0) (rm3 l Z a0 hw [] b186 (3 : Int32) T209.heap n0 Zs209 P209_3 (by decide)) hZ0 (hw _ (List.mem_of_getElem? (i := 27) rfl)) (hw _ (List.mem_of_getElem? (i := 2) rfl)) (by decide) (by decide)) q214a q214c (g := (mkF m 101 #[.val (.long q1), .second, .val (.long q2), .second, .val (.long q3), .second, .val (.int p4), .val (.int p5), .val (.ref b186), .val (.int (3 : Int32)), .val (.int (0 : Int32)), .val (.int (1 : Int32))] [(.ref b186)])) rfl (by rw [hml]; rfl) (Steps.refl _) (argsL := []) (rest := []) (lenOf pd_2 rfl) rfl (by show 2 * 0 + _ ≤ _; exact Nat.le_of_eq rfl) (hb hby at_101) (fun _ _ => ⟨rfl, rfl, (by decide : 7 + 0 ≤ _), (by decide : 33030 + 0 ≤ _)⟩)
          dsimp only [Pt.U, Pt.locs, Pt.cells, Pt.slots] at X214 l214 y214 z214 st214 hQ214
          subst l214 y214 z214
          obtain ⟨rfl, N214q, P214_0⟩ := hQ214
          have N214 := Fr.app N209 N214q
          obtain ⟨cq215, kq215, q215a, q215b, q215c⟩ := isOf hZ0 P214_0 f211
          obtain ⟨_, _, ⟨T215, L215, k215, n215⟩, -, X215, ⟨Lc215, hQ215, l215, y215, z215⟩, st215⟩ := X214.virtualBack hx (y := (⟨"holdfast/CountedIds$Batch", "size", "()I"⟩ : MethodName)) (z := (⟨"holdfast/CountedIds$Batch", "size", "()I"⟩ : MethodName)) hown0 (mvT hZ0 (hw _ (List.mem_of_getElem? (i := 31) rfl))) (mvT hZ0 (hw _ (List.mem_of_getElem? (i := 32) rfl))) (notFace_of_selects (args := #[]) (mvT hZ0 (hw _ (List.mem_of_getElem? (i := 34) rfl)))) (mvT hZ0 (hw _ (List.mem_of_getElem? (i := 34) rfl))) (mvT hZ0 (hw _ (List.mem_of_getElem? (i := 33) rfl))) (by decide) (backOf (W := 0) (rm4 l Z a0 hw [] b186 (3 : Int32) T209.heap n0 Zs209 P209_3) hZ0 (hw _ (List.mem_of_getElem? (i := 35) rfl)) (hw _ (List.mem_of_getElem? (i := 2) rfl)) (by decide) (by decide)) q215a q215c (g := (mkF m 109 #[.val (.long q1), .second, .val (.long q2), .second, .val (.long q3), .second, .val (.int p4), .val (.int p5), .val (.ref b186), .val (.int (3 : Int32)), .val (.int (0 : Int32)), .val (.int (1 : Int32))] [(.ref b186)])) rfl (by rw [hml]; rfl) (Steps.refl _) (argsL := []) (rest := []) (lenOf pd_3 rfl) rfl (by show 2 * 0 + _ ≤ _; exact Nat.le_of_eq rfl) (hb hby at_109) (fun _ _ => ⟨rfl, P214_0, (by decide : 7 + 0 ≤ _), (by decide : 33030 + 0 ≤ _)⟩)
          dsimp only [Pt.U, Pt.locs, Pt.cells, Pt.slots] at X215 l215 y215 z215 st215 hQ215
          subst l215 y215 z215
          obtain ⟨rfl, N215q, P215_0⟩ := hQ215
          have N215 := Fr.app N214 N215q
          obtain ⟨fs, hr, hrun, hended, hW, hsame⟩ := X215.leave (v := some (.int (1 : Int32))) (fun h => by rw [Bd.returns] at h; cases h) hlk
          refine ⟨_, _, pre0 _ ?_, hrun, hended, _, _, rfl, ?_, ⟨_, rfl⟩, hW, hsame.mono (by decide) (by decide)⟩
          · refine pr197 _ ?_
            show Steps p.tables e below (T194.setTop (mkF m 19 #[.val (.long q1), .second, .val (.long q2), .second, .val (.long q3), .second, .val (.int p4), .val (.int p5), .val (.ref b186), .val (.int (3 : Int32)), .unset, .unset] [(.int (p5 &&& (4 : Int32)))])) _
            refine XS.ifYes X194.here hx rfl (pc0 := 19) (pc' := 26) rfl (hb hby at_19) rfl ((if0 _ _).trans (teq hc198).1) (by decide) (by decide) ?_
            show Steps p.tables e below (T194.setTop (mkF m 26 #[.val (.long q1), .second, .val (.long q2), .second, .val (.long q3), .second, .val (.int p4), .val (.int p5), .val (.ref b186), .val (.int (3 : Int32)), .unset, .unset] [])) _
            refine XS.iconst X194.here hx rfl (hb hby at_26) ?_
            show Steps p.tables e below (T194.setTop (mkF m 27 #[.val (.long q1), .second, .val (.long q2), .second, .val (.long q3), .second, .val (.int p4), .val (.int p5), .val (.ref b186), .val (.int (3 : Int32)), .unset, .unset] [(.int (0 : Int32))])) _
            refine XS.istore X194.here hx rfl (hb hby at_27) rfl (l' := #[.val (.long q1), .second, .val (.long q2), .second, .val (.long q3), .second, .val (.int p4), .val (.int p5), .val (.ref b186), .val (.int (3 : Int32)), .val (.int (0 : Int32)), .unset]) rfl ?_
            show Steps p.tables e below (T194.setTop (mkF m 29 #[.val (.long q1), .second, .val (.long q2), .second, .val (.long q3), .second, .val (.int p4), .val (.int p5), .val (.ref b186), .val (.int (3 : Int32)), .val (.int (0 : Int32)), .unset] [])) _
            refine XS.aload X194.here hx rfl (hb hby at_29) rfl rfl ?_
            show Steps p.tables e below (T194.setTop (mkF m 31 #[.val (.long q1), .second, .val (.long q2), .second, .val (.long q3), .second, .val (.int p4), .val (.int p5), .val (.ref b186), .val (.int (3 : Int32)), .val (.int (0 : Int32)), .unset] [(.ref b186)])) _
            refine st199.trans ?_
            show Steps p.tables e below (T199.setTop (mkF m 34 #[.val (.long q1), .second, .val (.long q2), .second, .val (.long q3), .second, .val (.int p4), .val (.int p5), .val (.ref b186), .val (.int (3 : Int32)), .val (.int (0 : Int32)), .unset] [(.int (0 : Int32))])) _
            refine XS.ifNo X199.here hx rfl (hb hby at_34) rfl ((if0 _ _).trans (teq (by decide : (0 : Int32) = (0 : Int32))).2) ?_
            show Steps p.tables e below (T199.setTop (mkF m 37 #[.val (.long q1), .second, .val (.long q2), .second, .val (.long q3), .second, .val (.int p4), .val (.int p5), .val (.ref b186), .val (.int (3 : Int32)), .val (.int (0 : Int32)), .unset] [])) _
            refine XS.aload X199.here hx rfl (hb hby at_37) rfl rfl ?_
            show Steps p.tables e below (T199.setTop (mkF m 39 #[.val (.long q1), .second, .val (.long q2), .second, .val (.long q3), .second, .val (.int p4), .val (.int p5), .val (.ref b186), .val (.int (3 : Int32)), .val (.int (0 : Int32)), .unset] [(.ref b186)])) _
            refine st200.trans ?_
            show Steps p.tables e below (T200.setTop (mkF m 42 #[.val (.long q1), .second, .val (.long q2), .second, .val (.long q3), .second, .val (.int p4), .val (.int p5), .val (.ref b186), .val (.int (3 : Int32)), .val (.int (0 : Int32)), .unset] [(.int (0 : Int32))])) _
            refine XS.ifNo X200.here hx rfl (hb hby at_42) rfl ((if0 _ _).trans (teq (by decide : (0 : Int32) = (0 : Int32))).2) ?_
            show Steps p.tables e below (T200.setTop (mkF m 45 #[.val (.long q1), .second, .val (.long q2), .second, .val (.long q3), .second, .val (.int p4), .val (.int p5), .val (.ref b186), .val (.int (3 : Int32)), .val (.int (0 : Int32)), .unset] [])) _
            refine XS.iconst X200.here hx rfl (hb hby at_45) ?_
            show Steps p.tables e below (T200.setTop (mkF m 46 #[.val (.long q1), .second, .val (.long q2), .second, .val (.long q3), .second, .val (.int p4), .val (.int p5), .val (.ref b186), .val (.int (3 : Int32)), .val (.int (0 : Int32)), .unset] [(.int (1 : Int32))])) _
            refine XS.goto X200.here hx rfl (pc0 := 46) (pc' := 50) rfl (hb hby at_46) (by decide) (by decide) ?_
            show Steps p.tables e below (T200.setTop (mkF m 50 #[.val (.long q1), .second, .val (.long q2), .second, .val (.long q3), .second, .val (.int p4), .val (.int p5), .val (.ref b186), .val (.int (3 : Int32)), .val (.int (0 : Int32)), .unset] [(.int (1 : Int32))])) _
            refine XS.istore X200.here hx rfl (hb hby at_50) rfl (l' := #[.val (.long q1), .second, .val (.long q2), .second, .val (.long q3), .second, .val (.int p4), .val (.int p5), .val (.ref b186), .val (.int (3 : Int32)), .val (.int (0 : Int32)), .val (.int (1 : Int32))]) rfl ?_
            show Steps p.tables e below (T200.setTop (mkF m 52 #[.val (.long q1), .second, .val (.long q2), .second, .val (.long q3), .second, .val (.int p4), .val (.int p5), .val (.ref b186), .val (.int (3 : Int32)), .val (.int (0 : Int32)), .val (.int (1 : Int32))] [])) _
            refine XS.iload X200.here hx rfl (hb hby at_52) rfl ?_
            show Steps p.tables e below (T200.setTop (mkF m 54 #[.val (.long q1), .second, .val (.long q2), .second, .val (.long q3), .second, .val (.int p4), .val (.int p5), .val (.ref b186), .val (.int (3 : Int32)), .val (.int (0 : Int32)), .val (.int (1 : Int32))] [(.int (3 : Int32))])) _
            refine XS.ifNo X200.here hx rfl (hb hby at_54) rfl ((if0 _ _).trans (tlt (by decide : (0 : Int32) < (3 : Int32))).2.2.2) ?_
            show Steps p.tables e below (T200.setTop (mkF m 57 #[.val (.long q1), .second, .val (.long q2), .second, .val (.long q3), .second, .val (.int p4), .val (.int p5), .val (.ref b186), .val (.int (3 : Int32)), .val (.int (0 : Int32)), .val (.int (1 : Int32))] [])) _
            refine XS.aload X200.here hx rfl (hb hby at_57) rfl rfl ?_
            show Steps p.tables e below (T200.setTop (mkF m 59 #[.val (.long q1), .second, .val (.long q2), .second, .val (.long q3), .second, .val (.int p4), .val (.int p5), .val (.ref b186), .val (.int (3 : Int32)), .val (.int (0 : Int32)), .val (.int (1 : Int32))] [(.ref b186)])) _
            refine XS.lloadN X200.here hx rfl (hb hby at_59) rfl ?_
            show Steps p.tables e below (T200.setTop (mkF m 60 #[.val (.long q1), .second, .val (.long q2), .second, .val (.long q3), .second, .val (.int p4), .val (.int p5), .val (.ref b186), .val (.int (3 : Int32)), .val (.int (0 : Int32)), .val (.int (1 : Int32))] [(.long q1), (.ref b186)])) _
            refine XS.iload X200.here hx rfl (hb hby at_60) rfl ?_
            show Steps p.tables e below (T200.setTop (mkF m 62 #[.val (.long q1), .second, .val (.long q2), .second, .val (.long q3), .second, .val (.int p4), .val (.int p5), .val (.ref b186), .val (.int (3 : Int32)), .val (.int (0 : Int32)), .val (.int (1 : Int32))] [(.int p4), (.long q1), (.ref b186)])) _
            refine st201.trans ?_
            show Steps p.tables e below (T201.setTop (mkF m 65 #[.val (.long q1), .second, .val (.long q2), .second, .val (.long q3), .second, .val (.int p4), .val (.int p5), .val (.ref b186), .val (.int (3 : Int32)), .val (.int (0 : Int32)), .val (.int (1 : Int32))] [])) _
            refine XS.iload X201.here hx rfl (hb hby at_65) rfl ?_
            show Steps p.tables e below (T201.setTop (mkF m 67 #[.val (.long q1), .second, .val (.long q2), .second, .val (.long q3), .second, .val (.int p4), .val (.int p5), .val (.ref b186), .val (.int (3 : Int32)), .val (.int (0 : Int32)), .val (.int (1 : Int32))] [(.int (3 : Int32))])) _
            refine XS.iconst X201.here hx rfl (hb hby at_67) ?_
            show Steps p.tables e below (T201.setTop (mkF m 68 #[.val (.long q1), .second, .val (.long q2), .second, .val (.long q3), .second, .val (.int p4), .val (.int p5), .val (.ref b186), .val (.int (3 : Int32)), .val (.int (0 : Int32)), .val (.int (1 : Int32))] [(.int (1 : Int32)), (.int (3 : Int32))])) _
            refine XS.icmpNo X201.here hx rfl (hb hby at_68) rfl (tlt (by decide : (1 : Int32) < (3 : Int32))).2.2.2 ?_
            show Steps p.tables e below (T201.setTop (mkF m 71 #[.val (.long q1), .second, .val (.long q2), .second, .val (.long q3), .second, .val (.int p4), .val (.int p5), .val (.ref b186), .val (.int (3 : Int32)), .val (.int (0 : Int32)), .val (.int (1 : Int32))] [])) _
            refine XS.aload X201.here hx rfl (hb hby at_71) rfl rfl ?_
            show Steps p.tables e below (T201.setTop (mkF m 73 #[.val (.long q1), .second, .val (.long q2), .second, .val (.long q3), .second, .val (.int p4), .val (.int p5), .val (.ref b186), .val (.int (3 : Int32)), .val (.int (0 : Int32)), .val (.int (1 : Int32))] [(.ref b186)])) _
            refine XS.lloadN X201.here hx rfl (hb hby at_73) rfl ?_
            show Steps p.tables e below (T201.setTop (mkF m 74 #[.val (.long q1), .second, .val (.long q2), .second, .val (.long q3), .second, .val (.int p4), .val (.int p5), .val (.ref b186), .val (.int (3 : Int32)), .val (.int (0 : Int32)), .val (.int (1 : Int32))] [(.long q2), (.ref b186)])) _
            refine XS.iload X201.here hx rfl (hb hby at_74) rfl ?_
            show Steps p.tables e below (T201.setTop (mkF m 76 #[.val (.long q1), .second, .val (.long q2), .second, .val (.long q3), .second, .val (.int p4), .val (.int p5), .val (.ref b186), .val (.int (3 : Int32)), .val (.int (0 : Int32)), .val (.int (1 : Int32))] [(.int p4), (.long q2), (.ref b186)])) _
            refine st204.trans ?_
            show Steps p.tables e below (T204.setTop (mkF m 79 #[.val (.long q1), .second, .val (.long q2), .second, .val (.long q3), .second, .val (.int p4), .val (.int p5), .val (.ref b186), .val (.int (3 : Int32)), .val (.int (0 : Int32)), .val (.int (1 : Int32))] [])) _
            refine XS.iload X204.here hx rfl (hb hby at_79) rfl ?_
            show Steps p.tables e below (T204.setTop (mkF m 81 #[.val (.long q1), .second, .val (.long q2), .second, .val (.long q3), .second, .val (.int p4), .val (.int p5), .val (.ref b186), .val (.int (3 : Int32)), .val (.int (0 : Int32)), .val (.int (1 : Int32))] [(.int (3 : Int32))])) _
            refine XS.iconst X204.here hx rfl (hb hby at_81) ?_
            show Steps p.tables e below (T204.setTop (mkF m 82 #[.val (.long q1), .second, .val (.long q2), .second, .val (.long q3), .second, .val (.int p4), .val (.int p5), .val (.ref b186), .val (.int (3 : Int32)), .val (.int (0 : Int32)), .val (.int (1 : Int32))] [(.int (2 : Int32)), (.int (3 : Int32))])) _
            refine XS.icmpNo X204.here hx rfl (hb hby at_82) rfl (tlt (by decide : (2 : Int32) < (3 : Int32))).2.2.2 ?_
            show Steps p.tables e below (T204.setTop (mkF m 85 #[.val (.long q1), .second, .val (.long q2), .second, .val (.long q3), .second, .val (.int p4), .val (.int p5), .val (.ref b186), .val (.int (3 : Int32)), .val (.int (0 : Int32)), .val (.int (1 : Int32))] [])) _
            refine XS.aload X204.here hx rfl (hb hby at_85) rfl rfl ?_
            show Steps p.tables e below (T204.setTop (mkF m 87 #[.val (.long q1), .second, .val (.long q2), .second, .val (.long q3), .second, .val (.int p4), .val (.int p5), .val (.ref b186), .val (.int (3 : Int32)), .val (.int (0 : Int32)), .val (.int (1 : Int32))] [(.ref b186)])) _
            refine XS.lload X204.here hx rfl (hb hby at_87) rfl ?_
            show Steps p.tables e below (T204.setTop (mkF m 89 #[.val (.long q1), .second, .val (.long q2), .second, .val (.long q3), .second, .val (.int p4), .val (.int p5), .val (.ref b186), .val (.int (3 : Int32)), .val (.int (0 : Int32)), .val (.int (1 : Int32))] [(.long q3), (.ref b186)])) _
            refine XS.iload X204.here hx rfl (hb hby at_89) rfl ?_
            show Steps p.tables e below (T204.setTop (mkF m 91 #[.val (.long q1), .second, .val (.long q2), .second, .val (.long q3), .second, .val (.int p4), .val (.int p5), .val (.ref b186), .val (.int (3 : Int32)), .val (.int (0 : Int32)), .val (.int (1 : Int32))] [(.int p4), (.long q3), (.ref b186)])) _
            refine st209.trans ?_
            show Steps p.tables e below (T209.setTop (mkF m 94 #[.val (.long q1), .second, .val (.long q2), .second, .val (.long q3), .second, .val (.int p4), .val (.int p5), .val (.ref b186), .val (.int (3 : Int32)), .val (.int (0 : Int32)), .val (.int (1 : Int32))] [])) _
            refine XS.iload X209.here hx rfl (hb hby at_94) rfl ?_
            show Steps p.tables e below (T209.setTop (mkF m 96 #[.val (.long q1), .second, .val (.long q2), .second, .val (.long q3), .second, .val (.int p4), .val (.int p5), .val (.ref b186), .val (.int (3 : Int32)), .val (.int (0 : Int32)), .val (.int (1 : Int32))] [(.int (1 : Int32))])) _
            refine XS.ifNo X209.here hx rfl (hb hby at_96) rfl ((if0 _ _).trans (feq (by decide : ¬ ((1 : Int32) = (0 : Int32)))).1) ?_
            show Steps p.tables e below (T209.setTop (mkF m 99 #[.val (.long q1), .second, .val (.long q2), .second, .val (.long q3), .second, .val (.int p4), .val (.int p5), .val (.ref b186), .val (.int (3 : Int32)), .val (.int (0 : Int32)), .val (.int (1 : Int32))] [])) _
            refine XS.aload X209.here hx rfl (hb hby at_99) rfl rfl ?_
            show Steps p.tables e below (T209.setTop (mkF m 101 #[.val (.long q1), .second, .val (.long q2), .second, .val (.long q3), .second, .val (.int p4), .val (.int p5), .val (.ref b186), .val (.int (3 : Int32)), .val (.int (0 : Int32)), .val (.int (1 : Int32))] [(.ref b186)])) _
            refine st214.trans ?_
            show Steps p.tables e below (T214.setTop (mkF m 104 #[.val (.long q1), .second, .val (.long q2), .second, .val (.long q3), .second, .val (.int p4), .val (.int p5), .val (.ref b186), .val (.int (3 : Int32)), .val (.int (0 : Int32)), .val (.int (1 : Int32))] [(.int (0 : Int32))])) _
            refine XS.ifNo X214.here hx rfl (hb hby at_104) rfl ((if0 _ _).trans (teq (by decide : (0 : Int32) = (0 : Int32))).2) ?_
            show Steps p.tables e below (T214.setTop (mkF m 107 #[.val (.long q1), .second, .val (.long q2), .second, .val (.long q3), .second, .val (.int p4), .val (.int p5), .val (.ref b186), .val (.int (3 : Int32)), .val (.int (0 : Int32)), .val (.int (1 : Int32))] [])) _
            refine XS.aload X214.here hx rfl (hb hby at_107) rfl rfl ?_
            show Steps p.tables e below (T214.setTop (mkF m 109 #[.val (.long q1), .second, .val (.long q2), .second, .val (.long q3), .second, .val (.int p4), .val (.int p5), .val (.ref b186), .val (.int (3 : Int32)), .val (.int (0 : Int32)), .val (.int (1 : Int32))] [(.ref b186)])) _
            refine st215.trans ?_
            show Steps p.tables e below (T215.setTop (mkF m 112 #[.val (.long q1), .second, .val (.long q2), .second, .val (.long q3), .second, .val (.int p4), .val (.int p5), .val (.ref b186), .val (.int (3 : Int32)), .val (.int (0 : Int32)), .val (.int (1 : Int32))] [(.int (3 : Int32))])) _
            refine XS.iload X215.here hx rfl (hb hby at_112) rfl ?_
            show Steps p.tables e below (T215.setTop (mkF m 114 #[.val (.long q1), .second, .val (.long q2), .second, .val (.long q3), .second, .val (.int p4), .val (.int p5), .val (.ref b186), .val (.int (3 : Int32)), .val (.int (0 : Int32)), .val (.int (1 : Int32))] [(.int (3 : Int32)), (.int (3 : Int32))])) _
            refine XS.icmpNo X215.here hx rfl (hb hby at_114) rfl (teq (by decide : (3 : Int32) = (3 : Int32))).2 ?_
            show Steps p.tables e below (T215.setTop (mkF m 117 #[.val (.long q1), .second, .val (.long q2), .second, .val (.long q3), .second, .val (.int p4), .val (.int p5), .val (.ref b186), .val (.int (3 : Int32)), .val (.int (0 : Int32)), .val (.int (1 : Int32))] [])) _
            refine XS.iconst X215.here hx rfl (hb hby at_117) ?_
            show Steps p.tables e below (T215.setTop (mkF m 118 #[.val (.long q1), .second, .val (.long q2), .second, .val (.long q3), .second, .val (.int p4), .val (.int p5), .val (.ref b186), .val (.int (3 : Int32)), .val (.int (0 : Int32)), .val (.int (1 : Int32))] [(.int (1 : Int32))])) _
            refine XS.goto X215.here hx rfl (pc0 := 118) (pc' := 122) rfl (hb hby at_118) (by decide) (by decide) ?_
            show Steps p.tables e below (T215.setTop (mkF m 122 #[.val (.long q1), .second, .val (.long q2), .second, .val (.long q3), .second, .val (.int p4), .val (.int p5), .val (.ref b186), .val (.int (3 : Int32)), .val (.int (0 : Int32)), .val (.int (1 : Int32))] [(.int (1 : Int32))])) _
            refine XS.istore X215.here hx rfl (hb hby at_122) rfl (l' := #[.val (.long q1), .second, .val (.long q2), .second, .val (.long q3), .second, .val (.int p4), .val (.int p5), .val (.ref b186), .val (.int (3 : Int32)), .val (.int (0 : Int32)), .val (.int (1 : Int32))]) rfl ?_
            show Steps p.tables e below (T215.setTop (mkF m 124 #[.val (.long q1), .second, .val (.long q2), .second, .val (.long q3), .second, .val (.int p4), .val (.int p5), .val (.ref b186), .val (.int (3 : Int32)), .val (.int (0 : Int32)), .val (.int (1 : Int32))] [])) _
            refine XS.iload X215.here hx rfl (hb hby at_124) rfl ?_
            show Steps p.tables e below (T215.setTop (mkF m 126 #[.val (.long q1), .second, .val (.long q2), .second, .val (.long q3), .second, .val (.int p4), .val (.int p5), .val (.ref b186), .val (.int (3 : Int32)), .val (.int (0 : Int32)), .val (.int (1 : Int32))] [(.int (0 : Int32))])) _
            refine XS.ifYes X215.here hx rfl (pc0 := 126) (pc' := 162) rfl (hb hby at_126) rfl ((if0 _ _).trans (teq (by decide : (0 : Int32) = (0 : Int32))).1) (by decide) (by decide) ?_
            show Steps p.tables e below (T215.setTop (mkF m 162 #[.val (.long q1), .second, .val (.long q2), .second, .val (.long q3), .second, .val (.int p4), .val (.int p5), .val (.ref b186), .val (.int (3 : Int32)), .val (.int (0 : Int32)), .val (.int (1 : Int32))] [])) _
            refine XS.iload X215.here hx rfl (hb hby at_162) rfl ?_
            show Steps p.tables e below (T215.setTop (mkF m 164 #[.val (.long q1), .second, .val (.long q2), .second, .val (.long q3), .second, .val (.int p4), .val (.int p5), .val (.ref b186), .val (.int (3 : Int32)), .val (.int (0 : Int32)), .val (.int (1 : Int32))] [(.int (1 : Int32))])) _
            exact retN X215 hx (t := .boolean) Bd.returns (by simp) (hb hby at_164) hr
          · show Q0 Z q1 q2 q3 p4 p5 h0 n0 _ T215.heap _
            rw [P215_0]
            exact ⟨rfl, N215⟩
        · obtain ⟨cq216, kq216, q216a, q216b, q216c⟩ := isOf hZ0 rfl f196
          obtain ⟨_, _, ⟨T216, L216, k216, n216⟩, -, X216, ⟨Lc216, hQ216, l216, y216, z216⟩, st216⟩ := X194.virtualBack hx (y := (⟨"holdfast/CountedIds$Batch", "full", "()Z"⟩ : MethodName)) (z := (⟨"holdfast/CountedIds$Batch", "full", "()Z"⟩ : MethodName)) hown0 (mvT hZ0 (hw _ (List.mem_of_getElem? (i := 23) rfl))) (mvT hZ0 (hw _ (List.mem_of_getElem? (i := 24) rfl))) (notFace_of_selects (args := #[]) (mvT hZ0 (hw _ (List.mem_of_getElem? (i := 26) rfl)))) (mvT hZ0 (hw _ (List.mem_of_getElem? (i := 26) rfl))) (mvT hZ0 (hw _ (List.mem_of_getElem? (i := 25) rfl))) (by decide) (backOf (W := 0) (rm3 l Z a0 hw [] b186 (0 : Int32) T194.heap n0 Zs194 P194_6 (by decide)) hZ0 (hw _ (List.mem_of_getElem? (i := 27) rfl)) (hw _ (List.mem_of_getElem? (i := 2) rfl)) (by decide) (by decide)) q216a q216c (g := (mkF m 31 #[.val (.long q1), .second, .val (.long q2), .second, .val (.long q3), .second, .val (.int p4), .val (.int p5), .val (.ref b186), .val (.int (3 : Int32)), .val (.int (1 : Int32)), .unset] [(.ref b186)])) rfl (by rw [hml]; rfl) (Steps.refl _) (argsL := []) (rest := []) (lenOf pd_2 rfl) rfl (by show 2 * 0 + _ ≤ _; exact Nat.le_of_eq rfl) (hb hby at_31) (fun _ _ => ⟨rfl, rfl, (by decide : 5 + 0 ≤ _), (by decide : 262 + 0 ≤ _)⟩)
          dsimp only [Pt.U, Pt.locs, Pt.cells, Pt.slots] at X216 l216 y216 z216 st216 hQ216
          subst l216 y216 z216
          obtain ⟨rfl, N216q, P216_0⟩ := hQ216
          have N216 := Fr.app N194 N216q
          obtain ⟨cq217, kq217, q217a, q217b, q217c⟩ := isOf hZ0 P216_0 f196
          obtain ⟨_, _, ⟨T217, L217, k217, n217⟩, -, X217, ⟨Lc217, hQ217, l217, y217, z217⟩, st217⟩ := X216.virtualBack hx (y := (⟨"holdfast/CountedIds$Batch", "size", "()I"⟩ : MethodName)) (z := (⟨"holdfast/CountedIds$Batch", "size", "()I"⟩ : MethodName)) hown0 (mvT hZ0 (hw _ (List.mem_of_getElem? (i := 31) rfl))) (mvT hZ0 (hw _ (List.mem_of_getElem? (i := 32) rfl))) (notFace_of_selects (args := #[]) (mvT hZ0 (hw _ (List.mem_of_getElem? (i := 34) rfl)))) (mvT hZ0 (hw _ (List.mem_of_getElem? (i := 34) rfl))) (mvT hZ0 (hw _ (List.mem_of_getElem? (i := 33) rfl))) (by decide) (backOf (W := 0) (rm4 l Z a0 hw [] b186 (0 : Int32) T194.heap n0 Zs194 P194_6) hZ0 (hw _ (List.mem_of_getElem? (i := 35) rfl)) (hw _ (List.mem_of_getElem? (i := 2) rfl)) (by decide) (by decide)) q217a q217c (g := (mkF m 39 #[.val (.long q1), .second, .val (.long q2), .second, .val (.long q3), .second, .val (.int p4), .val (.int p5), .val (.ref b186), .val (.int (3 : Int32)), .val (.int (1 : Int32)), .unset] [(.ref b186)])) rfl (by rw [hml]; rfl) (Steps.refl _) (argsL := []) (rest := []) (lenOf pd_3 rfl) rfl (by show 2 * 0 + _ ≤ _; exact Nat.le_of_eq rfl) (hb hby at_39) (fun _ _ => ⟨rfl, P216_0, (by decide : 5 + 0 ≤ _), (by decide : 262 + 0 ≤ _)⟩)
          dsimp only [Pt.U, Pt.locs, Pt.cells, Pt.slots] at X217 l217 y217 z217 st217 hQ217
          subst l217 y217 z217
          obtain ⟨rfl, N217q, P217_0⟩ := hQ217
          have N217 := Fr.app N216 N217q
          obtain ⟨cq218, kq218, q218a, q218b, q218c⟩ := isOf hZ0 P217_0 f196
          obtain ⟨_, _, ⟨T218, L218, k218, n218⟩, -, X218, ⟨Lc218, hQ218, l218, y218, z218⟩, st218⟩ := X217.virtualBack hx (y := (⟨"holdfast/CountedIds$Batch", "add", "(JI)V"⟩ : MethodName)) (z := (⟨"holdfast/CountedIds$Batch", "add", "(JI)V"⟩ : MethodName)) hown0 (mvT hZ0 (hw _ (List.mem_of_getElem? (i := 36) rfl))) (mvT hZ0 (hw _ (List.mem_of_getElem? (i := 37) rfl))) (notFace_of_selects (args := #[]) (mvT hZ0 (hw _ (List.mem_of_getElem? (i := 39) rfl)))) (mvT hZ0 (hw _ (List.mem_of_getElem? (i := 39) rfl))) (mvT hZ0 (hw _ (List.mem_of_getElem? (i := 38) rfl))) (by decide) (backOf (W := 0) (rm5z l Z a0 hw [] b186 q1 p4 d_194 t_194 kd_194 kt_194 (1 : Int32) T194.heap n0 Zs194 f195 pf0 f196 gn_b186 gn_d_194 gn_t_194 ne_b186_d_194 ne_b186_t_194 P194_3 P194_4 P194_5 P194_6 P194_7 P194_8 P194_9 P194_10 P194_11) hZ0 (hw _ (List.mem_of_getElem? (i := 40) rfl)) (hw _ (List.mem_of_getElem? (i := 2) rfl)) (by decide) (by decide)) q218a q218c (g := (mkF m 62 #[.val (.long q1), .second, .val (.long q2), .second, .val (.long q3), .second, .val (.int p4), .val (.int p5), .val (.ref b186), .val (.int (3 : Int32)), .val (.int (1 : Int32)), .val (.int (1 : Int32))] [(.int p4), (.long q1), (.ref b186)])) rfl (by rw [hml]; rfl) (Steps.refl _) (argsL := [(.long q1), (.int p4)]) (rest := []) (lenOf pd_4 rfl) rfl (by show 2 * 0 + _ ≤ _; exact Nat.le_of_eq rfl) (hb hby at_62) (fun _ _ => ⟨rfl, P217_0, (by decide : 5 + 2 ≤ _), (by decide : 262 + 32768 ≤ _)⟩)
          dsimp only [Pt.U, Pt.locs, Pt.cells, Pt.slots] at X218 l218 y218 z218 st218 hQ218
          subst l218 y218 z218
          obtain ⟨dd_218, tt_218, rfl, N218q, P218_0, P218_1, P218_2, P218_3, P218_4, P218_5, P218_6, P218_7, P218_8, P218_9, P218_10, P218_11⟩ := hQ218
          have N218 := Fr.app N217 N218q
          have ne_b186_dd_218 : b186 ≠ dd_218 := Nat.ne_of_lt (Nat.lt_of_lt_of_le f196.lt P218_1)
          have ne_d_194_dd_218 : d_194 ≠ dd_218 := Nat.ne_of_lt (Nat.lt_of_lt_of_le P194_8.lt P218_1)
          have ne_t_194_dd_218 : t_194 ≠ dd_218 := Nat.ne_of_lt (Nat.lt_of_lt_of_le P194_9.lt P218_1)
          have gn_dd_218 : n0 ≤ dd_218 := Nat.le_trans Zs194 P218_1
          have ne_b186_tt_218 : b186 ≠ tt_218 := Nat.ne_of_lt (Nat.lt_of_lt_of_le f196.lt P218_2)
          have ne_d_194_tt_218 : d_194 ≠ tt_218 := Nat.ne_of_lt (Nat.lt_of_lt_of_le P194_8.lt P218_2)
          have ne_t_194_tt_218 : t_194 ≠ tt_218 := Nat.ne_of_lt (Nat.lt_of_lt_of_le P194_9.lt P218_2)
          have gn_tt_218 : n0 ≤ tt_218 := Nat.le_trans Zs194 P218_2
          have f219 : Old Z n0 T218.heap := f195.keep P218_0 (allS gn_b186 (allS gn_d_194 (allS gn_t_194 all0)))
          have f220 : Exa Z T218.heap b186 "holdfast/CountedIds$Batch" := f196.keep P218_0
          have Zs218 : n0 ≤ T218.heap.size := Nat.le_trans Zs194 P218_0.1
          obtain ⟨cq221, kq221, q221a, q221b, q221c⟩ := isOf hZ0 rfl f220
          obtain ⟨_, _, ⟨T221, L221, k221, n221⟩, -, X221, ⟨Lc221, hQ221, l221, y221, z221⟩, st221⟩ := X218.virtualBack hx (y := (⟨"holdfast/CountedIds$Batch", "add", "(JI)V"⟩ : MethodName)) (z := (⟨"holdfast/CountedIds$Batch", "add", "(JI)V"⟩ : MethodName)) hown0 (mvT hZ0 (hw _ (List.mem_of_getElem? (i := 36) rfl))) (mvT hZ0 (hw _ (List.mem_of_getElem? (i := 37) rfl))) (notFace_of_selects (args := #[]) (mvT hZ0 (hw _ (List.mem_of_getElem? (i := 39) rfl)))) (mvT hZ0 (hw _ (List.mem_of_getElem? (i := 39) rfl))) (mvT hZ0 (hw _ (List.mem_of_getElem? (i := 38) rfl))) (by decide) (backOf (W := 0) (rm5n l Z a0 hw [] b186 q2 p4 d_194 t_194 kd_194 kt_194 (0 : Int32) dd_218 tt_218 (own_up own_none (0 : Int32) p4) (1 : Int32) (2 : Int32) T218.heap n0 Zs218 f219 pf0 f220 gn_b186 gn_d_194 gn_t_194 ne_b186_d_194 ne_b186_t_194 P194_3 P218_4 P218_5 P218_6 P218_7 P218_8 P218_9 P218_10 P218_11 P218_3 ne_t_194_dd_218 ne_d_194_dd_218 ne_d_194_tt_218 ne_t_194_tt_218 ne_b186_dd_218 ne_b186_tt_218 gn_dd_218 gn_tt_218 (by decide) (by decide) (by decide) (by decide) (by decide)) hZ0 (hw _ (List.mem_of_getElem? (i := 40) rfl)) (hw _ (List.mem_of_getElem? (i := 2) rfl)) (by decide) (by decide)) q221a q221c (g := (mkF m 76 #[.val (.long q1), .second, .val (.long q2), .second, .val (.long q3), .second, .val (.int p4), .val (.int p5), .val (.ref b186), .val (.int (3 : Int32)), .val (.int (1 : Int32)), .val (.int (1 : Int32))] [(.int p4), (.long q2), (.ref b186)])) rfl (by rw [hml]; rfl) (Steps.refl _) (argsL := [(.long q2), (.int p4)]) (rest := []) (lenOf pd_4 rfl) rfl (by show 2 * 0 + _ ≤ _; exact Nat.le_of_eq rfl) (hb hby at_76) (fun _ _ => ⟨rfl, rfl, (by decide : 7 + 0 ≤ _), (by decide : 33030 + 0 ≤ _)⟩)
          dsimp only [Pt.U, Pt.locs, Pt.cells, Pt.slots] at X221 l221 y221 z221 st221 hQ221
          subst l221 y221 z221
          obtain ⟨rfl, N221q, P221_0, P221_1, P221_2, P221_3, P221_4, P221_5, P221_6⟩ := hQ221
          have N221 := Fr.app N218 N221q
          have f222 : Old Z n0 T221.heap := f219.keep P221_0 (allS gn_b186 (allS gn_dd_218 (allS gn_tt_218 all0)))
          have f223 : Exa Z T221.heap b186 "holdfast/CountedIds$Batch" := f220.keep P221_0
          have f224 : Arv Z T221.heap d_194 kd_194 (.array .long) (64 : Int32) [(.ref dd_218)] .null := P218_8.keep P221_0 (ninS (Ne.symm ne_b186_d_194) (ninS ne_d_194_dd_218 (ninS ne_d_194_tt_218 nin0)))
          have f225 : Arv Z T221.heap t_194 kt_194 (.array .int) (64 : Int32) [(.ref tt_218)] .null := P218_9.keep P221_0 (ninS (Ne.symm ne_b186_t_194) (ninS ne_t_194_dd_218 (ninS ne_t_194_tt_218 nin0)))
          have Zs221 : n0 ≤ T221.heap.size := Nat.le_trans Zs218 P221_0.1
          obtain ⟨cq226, kq226, q226a, q226b, q226c⟩ := isOf hZ0 rfl f223
          obtain ⟨_, _, ⟨T226, L226, k226, n226⟩, -, X226, ⟨Lc226, hQ226, l226, y226, z226⟩, st226⟩ := X221.virtualBack hx (y := (⟨"holdfast/CountedIds$Batch", "add", "(JI)V"⟩ : MethodName)) (z := (⟨"holdfast/CountedIds$Batch", "add", "(JI)V"⟩ : MethodName)) hown0 (mvT hZ0 (hw _ (List.mem_of_getElem? (i := 36) rfl))) (mvT hZ0 (hw _ (List.mem_of_getElem? (i := 37) rfl))) (notFace_of_selects (args := #[]) (mvT hZ0 (hw _ (List.mem_of_getElem? (i := 39) rfl)))) (mvT hZ0 (hw _ (List.mem_of_getElem? (i := 39) rfl))) (mvT hZ0 (hw _ (List.mem_of_getElem? (i := 38) rfl))) (by decide) (backOf (W := 0) (rm5n l Z a0 hw [] b186 q3 p4 d_194 t_194 kd_194 kt_194 (0 : Int32) dd_218 tt_218 (own_up (own_up own_none (0 : Int32) p4) (1 : Int32) p4) (2 : Int32) (3 : Int32) T221.heap n0 Zs221 f222 pf0 f223 gn_b186 gn_d_194 gn_t_194 ne_b186_d_194 ne_b186_t_194 P194_3 P221_1 P221_2 P221_3 P221_4 f224 f225 P221_5 P221_6 P218_3 ne_t_194_dd_218 ne_d_194_dd_218 ne_d_194_tt_218 ne_t_194_tt_218 ne_b186_dd_218 ne_b186_tt_218 gn_dd_218 gn_tt_218 (by decide) (by decide) (by decide) (by decide) (by decide)) hZ0 (hw _ (List.mem_of_getElem? (i := 40) rfl)) (hw _ (List.mem_of_getElem? (i := 2) rfl)) (by decide) (by decide)) q226a q226c (g := (mkF m 91 #[.val (.long q1), .second, .val (.long q2), .second, .val (.long q3), .second, .val (.int p4), .val (.int p5), .val (.ref b186), .val (.int (3 : Int32)), .val (.int (1 : Int32)), .val (.int (1 : Int32))] [(.int p4), (.long q3), (.ref b186)])) rfl (by rw [hml]; rfl) (Steps.refl _) (argsL := [(.long q3), (.int p4)]) (rest := []) (lenOf pd_4 rfl) rfl (by show 2 * 0 + _ ≤ _; exact Nat.le_of_eq rfl) (hb hby at_91) (fun _ _ => ⟨rfl, rfl, (by decide : 7 + 0 ≤ _), (by decide : 33030 + 0 ≤ _)⟩)
          dsimp only [Pt.U, Pt.locs, Pt.cells, Pt.slots] at X226 l226 y226 z226 st226 hQ226
          subst l226 y226 z226
          obtain ⟨rfl, N226q, P226_0, P226_1, P226_2, P226_3, P226_4, P226_5, P226_6⟩ := hQ226
          have N226 := Fr.app N221 N226q
          have f227 : Old Z n0 T226.heap := f222.keep P226_0 (allS gn_b186 (allS gn_dd_218 (allS gn_tt_218 all0)))
          have f228 : Exa Z T226.heap b186 "holdfast/CountedIds$Batch" := f223.keep P226_0
          have f229 : Arv Z T226.heap d_194 kd_194 (.array .long) (64 : Int32) [(.ref dd_218)] .null := f224.keep P226_0 (ninS (Ne.symm ne_b186_d_194) (ninS ne_d_194_dd_218 (ninS ne_d_194_tt_218 nin0)))
          have f230 : Arv Z T226.heap t_194 kt_194 (.array .int) (64 : Int32) [(.ref tt_218)] .null := f225.keep P226_0 (ninS (Ne.symm ne_b186_t_194) (ninS ne_t_194_dd_218 (ninS ne_t_194_tt_218 nin0)))
          have Zs226 : n0 ≤ T226.heap.size := Nat.le_trans Zs221 P226_0.1
          obtain ⟨cq231, kq231, q231a, q231b, q231c⟩ := isOf hZ0 rfl f228
          obtain ⟨_, _, ⟨T231, L231, k231, n231⟩, -, X231, ⟨Lc231, hQ231, l231, y231, z231⟩, st231⟩ := X226.virtualBack hx (y := (⟨"holdfast/CountedIds$Batch", "full", "()Z"⟩ : MethodName)) (z := (⟨"holdfast/CountedIds$Batch", "full", "()Z"⟩ : MethodName)) hown0 (mvT hZ0 (hw _ (List.mem_of_getElem? (i := 23) rfl))) (mvT hZ0 (hw _ (List.mem_of_getElem? (i := 24) rfl))) (notFace_of_selects (args := #[]) (mvT hZ0 (hw _ (List.mem_of_getElem? (i := 26) rfl)))) (mvT hZ0 (hw _ (List.mem_of_getElem? (i := 26) rfl))) (mvT hZ0 (hw _ (List.mem_of_getElem? (i := 25) rfl))) (by decide) (backOf (W := 0) (rm3 l Z a0 hw [] b186 (3 : Int32) T226.heap n0 Zs226 P226_3 (by decide)) hZ0 (hw _ (List.mem_of_getElem? (i := 27) rfl)) (hw _ (List.mem_of_getElem? (i := 2) rfl)) (by decide) (by decide)) q231a q231c (g := (mkF m 101 #[.val (.long q1), .second, .val (.long q2), .second, .val (.long q3), .second, .val (.int p4), .val (.int p5), .val (.ref b186), .val (.int (3 : Int32)), .val (.int (1 : Int32)), .val (.int (1 : Int32))] [(.ref b186)])) rfl (by rw [hml]; rfl) (Steps.refl _) (argsL := []) (rest := []) (lenOf pd_2 rfl) rfl (by show 2 * 0 + _ ≤ _; exact Nat.le_of_eq rfl) (hb hby at_101) (fun _ _ => ⟨rfl, rfl, (by decide : 7 + 0 ≤ _), (by decide : 33030 + 0 ≤ _)⟩)
          dsimp only [Pt.U, Pt.locs, Pt.cells, Pt.slots] at X231 l231 y231 z231 st231 hQ231
          subst l231 y231 z231
          obtain ⟨rfl, N231q, P231_0⟩ := hQ231
          have N231 := Fr.app N226 N231q
          obtain ⟨cq232, kq232, q232a, q232b, q232c⟩ := isOf hZ0 P231_0 f228
          obtain ⟨_, _, ⟨T232, L232, k232, n232⟩, -, X232, ⟨Lc232, hQ232, l232, y232, z232⟩, st232⟩ := X231.virtualBack hx (y := (⟨"holdfast/CountedIds$Batch", "size", "()I"⟩ : MethodName)) (z := (⟨"holdfast/CountedIds$Batch", "size", "()I"⟩ : MethodName)) hown0 (mvT hZ0 (hw _ (List.mem_of_getElem? (i := 31) rfl))) (mvT hZ0 (hw _ (List.mem_of_getElem? (i := 32) rfl))) (notFace_of_selects (args := #[]) (mvT hZ0 (hw _ (List.mem_of_getElem? (i := 34) rfl)))) (mvT hZ0 (hw _ (List.mem_of_getElem? (i := 34) rfl))) (mvT hZ0 (hw _ (List.mem_of_getElem? (i := 33) rfl))) (by decide) (backOf (W := 0) (rm4 l Z a0 hw [] b186 (3 : Int32) T226.heap n0 Zs226 P226_3) hZ0 (hw _ (List.mem_of_getElem? (i := 35) rfl)) (hw _ (List.mem_of_getElem? (i := 2) rfl)) (by decide) (by decide)) q232a q232c (g := (mkF m 109 #[.val (.long q1), .second, .val (.long q2), .second, .val (.long q3), .second, .val (.int p4), .val (.int p5), .val (.ref b186), .val (.int (3 : Int32)), .val (.int (1 : Int32)), .val (.int (1 : Int32))] [(.ref b186)])) rfl (by rw [hml]; rfl) (Steps.refl _) (argsL := []) (rest := []) (lenOf pd_3 rfl) rfl (by show 2 * 0 + _ ≤ _; exact Nat.le_of_eq rfl) (hb hby at_109) (fun _ _ => ⟨rfl, P231_0, (by decide : 7 + 0 ≤ _), (by decide : 33030 + 0 ≤ _)⟩)
          dsimp only [Pt.U, Pt.locs, Pt.cells, Pt.slots] at X232 l232 y232 z232 st232 hQ232
          subst l232 y232 z232
          obtain ⟨rfl, N232q, P232_0⟩ := hQ232
          have N232 := Fr.app N231 N232q
          obtain ⟨cq233, kq233, q233a, q233b, q233c⟩ := isOf hZ0 P232_0 f228
          obtain ⟨_, _, ⟨T233, L233, k233, n233⟩, -, X233, ⟨Lc233, hQ233, l233, y233, z233⟩, st233⟩ := X232.virtualBack hx (y := (⟨"holdfast/CountedIds$Batch", "clear", "()V"⟩ : MethodName)) (z := (⟨"holdfast/CountedIds$Batch", "clear", "()V"⟩ : MethodName)) hown0 (mvT hZ0 (hw _ (List.mem_of_getElem? (i := 50) rfl))) (mvT hZ0 (hw _ (List.mem_of_getElem? (i := 51) rfl))) (notFace_of_selects (args := #[]) (mvT hZ0 (hw _ (List.mem_of_getElem? (i := 53) rfl)))) (mvT hZ0 (hw _ (List.mem_of_getElem? (i := 53) rfl))) (mvT hZ0 (hw _ (List.mem_of_getElem? (i := 52) rfl))) (by decide) (backOf (W := 0) (rm7 l Z a0 hw [] b186 d_194 t_194 (0 : Int32) (3 : Int32) T226.heap n0 Zs226 f228 gn_b186 P226_1 P226_2 P226_3 P226_4) hZ0 (hw _ (List.mem_of_getElem? (i := 54) rfl)) (hw _ (List.mem_of_getElem? (i := 2) rfl)) (by decide) (by decide)) q233a q233c (g := (mkF m 131 #[.val (.long q1), .second, .val (.long q2), .second, .val (.long q3), .second, .val (.int p4), .val (.int p5), .val (.ref b186), .val (.int (3 : Int32)), .val (.int (1 : Int32)), .val (.int (1 : Int32))] [(.ref b186)])) rfl (by rw [hml]; rfl) (Steps.refl _) (argsL := []) (rest := []) (lenOf pd_1 rfl) rfl (by show 2 * 0 + _ ≤ _; exact Nat.le_of_eq rfl) (hb hby at_131) (fun _ _ => ⟨rfl, P232_0, (by decide : 7 + 0 ≤ _), (by decide : 33030 + 0 ≤ _)⟩)
          dsimp only [Pt.U, Pt.locs, Pt.cells, Pt.slots] at X233 l233 y233 z233 st233 hQ233
          subst l233 y233 z233
          obtain ⟨rfl, N233q, P233_0, P233_1, P233_2, P233_3, P233_4⟩ := hQ233
          have N233 := Fr.app N232 N233q
          have f234 : Old Z n0 T233.heap := f227.keep P233_0 (allS gn_b186 all0)
          have f235 : Exa Z T233.heap b186 "holdfast/CountedIds$Batch" := f228.keep P233_0
          have f236 : Arv Z T233.heap d_194 kd_194 (.array .long) (64 : Int32) [(.ref dd_218)] .null := f229.keep P233_0 (ninS (Ne.symm ne_b186_d_194) nin0)
          have f237 : Arv Z T233.heap t_194 kt_194 (.array .int) (64 : Int32) [(.ref tt_218)] .null := f230.keep P233_0 (ninS (Ne.symm ne_b186_t_194) nin0)
          have f238 : OwnLng Z T233.heap dd_218 := OwnLng.keep P226_5 P233_0 (ninS (Ne.symm ne_b186_dd_218) nin0)
          have f239 : OwnTg Z T233.heap tt_218 (own_up (own_up (own_up own_none (0 : Int32) p4) (1 : Int32) p4) (2 : Int32) p4) := OwnTg.keep P226_6 P233_0 (ninS (Ne.symm ne_b186_tt_218) nin0)
          have Zs233 : n0 ≤ T233.heap.size := Nat.le_trans Zs226 P233_0.1
          obtain ⟨cq240, kq240, q240a, q240b, q240c⟩ := isOf hZ0 rfl f235
          obtain ⟨_, _, ⟨T240, L240, k240, n240⟩, -, X240, ⟨Lc240, hQ240, l240, y240, z240⟩, st240⟩ := X233.virtualBack hx (y := (⟨"holdfast/CountedIds$Batch", "full", "()Z"⟩ : MethodName)) (z := (⟨"holdfast/CountedIds$Batch", "full", "()Z"⟩ : MethodName)) hown0 (mvT hZ0 (hw _ (List.mem_of_getElem? (i := 23) rfl))) (mvT hZ0 (hw _ (List.mem_of_getElem? (i := 24) rfl))) (notFace_of_selects (args := #[]) (mvT hZ0 (hw _ (List.mem_of_getElem? (i := 26) rfl)))) (mvT hZ0 (hw _ (List.mem_of_getElem? (i := 26) rfl))) (mvT hZ0 (hw _ (List.mem_of_getElem? (i := 25) rfl))) (by decide) (backOf (W := 0) (rm3 l Z a0 hw [] b186 (0 : Int32) T233.heap n0 Zs233 P233_3 (by decide)) hZ0 (hw _ (List.mem_of_getElem? (i := 27) rfl)) (hw _ (List.mem_of_getElem? (i := 2) rfl)) (by decide) (by decide)) q240a q240c (g := (mkF m 141 #[.val (.long q1), .second, .val (.long q2), .second, .val (.long q3), .second, .val (.int p4), .val (.int p5), .val (.ref b186), .val (.int (3 : Int32)), .val (.int (1 : Int32)), .val (.int (1 : Int32))] [(.ref b186)])) rfl (by rw [hml]; rfl) (Steps.refl _) (argsL := []) (rest := []) (lenOf pd_2 rfl) rfl (by show 2 * 0 + _ ≤ _; exact Nat.le_of_eq rfl) (hb hby at_141) (fun _ _ => ⟨rfl, rfl, (by decide : 7 + 0 ≤ _), (by decide : 33030 + 0 ≤ _)⟩)
          dsimp only [Pt.U, Pt.locs, Pt.cells, Pt.slots] at X240 l240 y240 z240 st240 hQ240
          subst l240 y240 z240
          obtain ⟨rfl, N240q, P240_0⟩ := hQ240
          have N240 := Fr.app N233 N240q
          obtain ⟨cq241, kq241, q241a, q241b, q241c⟩ := isOf hZ0 P240_0 f235
          obtain ⟨_, _, ⟨T241, L241, k241, n241⟩, -, X241, ⟨Lc241, hQ241, l241, y241, z241⟩, st241⟩ := X240.virtualBack hx (y := (⟨"holdfast/CountedIds$Batch", "size", "()I"⟩ : MethodName)) (z := (⟨"holdfast/CountedIds$Batch", "size", "()I"⟩ : MethodName)) hown0 (mvT hZ0 (hw _ (List.mem_of_getElem? (i := 31) rfl))) (mvT hZ0 (hw _ (List.mem_of_getElem? (i := 32) rfl))) (notFace_of_selects (args := #[]) (mvT hZ0 (hw _ (List.mem_of_getElem? (i := 34) rfl)))) (mvT hZ0 (hw _ (List.mem_of_getElem? (i := 34) rfl))) (mvT hZ0 (hw _ (List.mem_of_getElem? (i := 33) rfl))) (by decide) (backOf (W := 0) (rm4 l Z a0 hw [] b186 (0 : Int32) T233.heap n0 Zs233 P233_3) hZ0 (hw _ (List.mem_of_getElem? (i := 35) rfl)) (hw _ (List.mem_of_getElem? (i := 2) rfl)) (by decide) (by decide)) q241a q241c (g := (mkF m 149 #[.val (.long q1), .second, .val (.long q2), .second, .val (.long q3), .second, .val (.int p4), .val (.int p5), .val (.ref b186), .val (.int (3 : Int32)), .val (.int (1 : Int32)), .val (.int (1 : Int32))] [(.ref b186)])) rfl (by rw [hml]; rfl) (Steps.refl _) (argsL := []) (rest := []) (lenOf pd_3 rfl) rfl (by show 2 * 0 + _ ≤ _; exact Nat.le_of_eq rfl) (hb hby at_149) (fun _ _ => ⟨rfl, P240_0, (by decide : 7 + 0 ≤ _), (by decide : 33030 + 0 ≤ _)⟩)
          dsimp only [Pt.U, Pt.locs, Pt.cells, Pt.slots] at X241 l241 y241 z241 st241 hQ241
          subst l241 y241 z241
          obtain ⟨rfl, N241q, P241_0⟩ := hQ241
          have N241 := Fr.app N240 N241q
          obtain ⟨fs, hr, hrun, hended, hW, hsame⟩ := X241.leave (v := some (.int (1 : Int32))) (fun h => by rw [Bd.returns] at h; cases h) hlk
          refine ⟨_, _, pre0 _ ?_, hrun, hended, _, _, rfl, ?_, ⟨_, rfl⟩, hW, hsame.mono (by decide) (by decide)⟩
          · refine pr197 _ ?_
            show Steps p.tables e below (T194.setTop (mkF m 19 #[.val (.long q1), .second, .val (.long q2), .second, .val (.long q3), .second, .val (.int p4), .val (.int p5), .val (.ref b186), .val (.int (3 : Int32)), .unset, .unset] [(.int (p5 &&& (4 : Int32)))])) _
            refine XS.ifNo X194.here hx rfl (hb hby at_19) rfl ((if0 _ _).trans (feq hc198).1) ?_
            show Steps p.tables e below (T194.setTop (mkF m 22 #[.val (.long q1), .second, .val (.long q2), .second, .val (.long q3), .second, .val (.int p4), .val (.int p5), .val (.ref b186), .val (.int (3 : Int32)), .unset, .unset] [])) _
            refine XS.iconst X194.here hx rfl (hb hby at_22) ?_
            show Steps p.tables e below (T194.setTop (mkF m 23 #[.val (.long q1), .second, .val (.long q2), .second, .val (.long q3), .second, .val (.int p4), .val (.int p5), .val (.ref b186), .val (.int (3 : Int32)), .unset, .unset] [(.int (1 : Int32))])) _
            refine XS.goto X194.here hx rfl (pc0 := 23) (pc' := 27) rfl (hb hby at_23) (by decide) (by decide) ?_
            show Steps p.tables e below (T194.setTop (mkF m 27 #[.val (.long q1), .second, .val (.long q2), .second, .val (.long q3), .second, .val (.int p4), .val (.int p5), .val (.ref b186), .val (.int (3 : Int32)), .unset, .unset] [(.int (1 : Int32))])) _
            refine XS.istore X194.here hx rfl (hb hby at_27) rfl (l' := #[.val (.long q1), .second, .val (.long q2), .second, .val (.long q3), .second, .val (.int p4), .val (.int p5), .val (.ref b186), .val (.int (3 : Int32)), .val (.int (1 : Int32)), .unset]) rfl ?_
            show Steps p.tables e below (T194.setTop (mkF m 29 #[.val (.long q1), .second, .val (.long q2), .second, .val (.long q3), .second, .val (.int p4), .val (.int p5), .val (.ref b186), .val (.int (3 : Int32)), .val (.int (1 : Int32)), .unset] [])) _
            refine XS.aload X194.here hx rfl (hb hby at_29) rfl rfl ?_
            show Steps p.tables e below (T194.setTop (mkF m 31 #[.val (.long q1), .second, .val (.long q2), .second, .val (.long q3), .second, .val (.int p4), .val (.int p5), .val (.ref b186), .val (.int (3 : Int32)), .val (.int (1 : Int32)), .unset] [(.ref b186)])) _
            refine st216.trans ?_
            show Steps p.tables e below (T216.setTop (mkF m 34 #[.val (.long q1), .second, .val (.long q2), .second, .val (.long q3), .second, .val (.int p4), .val (.int p5), .val (.ref b186), .val (.int (3 : Int32)), .val (.int (1 : Int32)), .unset] [(.int (0 : Int32))])) _
            refine XS.ifNo X216.here hx rfl (hb hby at_34) rfl ((if0 _ _).trans (teq (by decide : (0 : Int32) = (0 : Int32))).2) ?_
            show Steps p.tables e below (T216.setTop (mkF m 37 #[.val (.long q1), .second, .val (.long q2), .second, .val (.long q3), .second, .val (.int p4), .val (.int p5), .val (.ref b186), .val (.int (3 : Int32)), .val (.int (1 : Int32)), .unset] [])) _
            refine XS.aload X216.here hx rfl (hb hby at_37) rfl rfl ?_
            show Steps p.tables e below (T216.setTop (mkF m 39 #[.val (.long q1), .second, .val (.long q2), .second, .val (.long q3), .second, .val (.int p4), .val (.int p5), .val (.ref b186), .val (.int (3 : Int32)), .val (.int (1 : Int32)), .unset] [(.ref b186)])) _
            refine st217.trans ?_
            show Steps p.tables e below (T217.setTop (mkF m 42 #[.val (.long q1), .second, .val (.long q2), .second, .val (.long q3), .second, .val (.int p4), .val (.int p5), .val (.ref b186), .val (.int (3 : Int32)), .val (.int (1 : Int32)), .unset] [(.int (0 : Int32))])) _
            refine XS.ifNo X217.here hx rfl (hb hby at_42) rfl ((if0 _ _).trans (teq (by decide : (0 : Int32) = (0 : Int32))).2) ?_
            show Steps p.tables e below (T217.setTop (mkF m 45 #[.val (.long q1), .second, .val (.long q2), .second, .val (.long q3), .second, .val (.int p4), .val (.int p5), .val (.ref b186), .val (.int (3 : Int32)), .val (.int (1 : Int32)), .unset] [])) _
            refine XS.iconst X217.here hx rfl (hb hby at_45) ?_
            show Steps p.tables e below (T217.setTop (mkF m 46 #[.val (.long q1), .second, .val (.long q2), .second, .val (.long q3), .second, .val (.int p4), .val (.int p5), .val (.ref b186), .val (.int (3 : Int32)), .val (.int (1 : Int32)), .unset] [(.int (1 : Int32))])) _
            refine XS.goto X217.here hx rfl (pc0 := 46) (pc' := 50) rfl (hb hby at_46) (by decide) (by decide) ?_
            show Steps p.tables e below (T217.setTop (mkF m 50 #[.val (.long q1), .second, .val (.long q2), .second, .val (.long q3), .second, .val (.int p4), .val (.int p5), .val (.ref b186), .val (.int (3 : Int32)), .val (.int (1 : Int32)), .unset] [(.int (1 : Int32))])) _
            refine XS.istore X217.here hx rfl (hb hby at_50) rfl (l' := #[.val (.long q1), .second, .val (.long q2), .second, .val (.long q3), .second, .val (.int p4), .val (.int p5), .val (.ref b186), .val (.int (3 : Int32)), .val (.int (1 : Int32)), .val (.int (1 : Int32))]) rfl ?_
            show Steps p.tables e below (T217.setTop (mkF m 52 #[.val (.long q1), .second, .val (.long q2), .second, .val (.long q3), .second, .val (.int p4), .val (.int p5), .val (.ref b186), .val (.int (3 : Int32)), .val (.int (1 : Int32)), .val (.int (1 : Int32))] [])) _
            refine XS.iload X217.here hx rfl (hb hby at_52) rfl ?_
            show Steps p.tables e below (T217.setTop (mkF m 54 #[.val (.long q1), .second, .val (.long q2), .second, .val (.long q3), .second, .val (.int p4), .val (.int p5), .val (.ref b186), .val (.int (3 : Int32)), .val (.int (1 : Int32)), .val (.int (1 : Int32))] [(.int (3 : Int32))])) _
            refine XS.ifNo X217.here hx rfl (hb hby at_54) rfl ((if0 _ _).trans (tlt (by decide : (0 : Int32) < (3 : Int32))).2.2.2) ?_
            show Steps p.tables e below (T217.setTop (mkF m 57 #[.val (.long q1), .second, .val (.long q2), .second, .val (.long q3), .second, .val (.int p4), .val (.int p5), .val (.ref b186), .val (.int (3 : Int32)), .val (.int (1 : Int32)), .val (.int (1 : Int32))] [])) _
            refine XS.aload X217.here hx rfl (hb hby at_57) rfl rfl ?_
            show Steps p.tables e below (T217.setTop (mkF m 59 #[.val (.long q1), .second, .val (.long q2), .second, .val (.long q3), .second, .val (.int p4), .val (.int p5), .val (.ref b186), .val (.int (3 : Int32)), .val (.int (1 : Int32)), .val (.int (1 : Int32))] [(.ref b186)])) _
            refine XS.lloadN X217.here hx rfl (hb hby at_59) rfl ?_
            show Steps p.tables e below (T217.setTop (mkF m 60 #[.val (.long q1), .second, .val (.long q2), .second, .val (.long q3), .second, .val (.int p4), .val (.int p5), .val (.ref b186), .val (.int (3 : Int32)), .val (.int (1 : Int32)), .val (.int (1 : Int32))] [(.long q1), (.ref b186)])) _
            refine XS.iload X217.here hx rfl (hb hby at_60) rfl ?_
            show Steps p.tables e below (T217.setTop (mkF m 62 #[.val (.long q1), .second, .val (.long q2), .second, .val (.long q3), .second, .val (.int p4), .val (.int p5), .val (.ref b186), .val (.int (3 : Int32)), .val (.int (1 : Int32)), .val (.int (1 : Int32))] [(.int p4), (.long q1), (.ref b186)])) _
            refine st218.trans ?_
            show Steps p.tables e below (T218.setTop (mkF m 65 #[.val (.long q1), .second, .val (.long q2), .second, .val (.long q3), .second, .val (.int p4), .val (.int p5), .val (.ref b186), .val (.int (3 : Int32)), .val (.int (1 : Int32)), .val (.int (1 : Int32))] [])) _
            refine XS.iload X218.here hx rfl (hb hby at_65) rfl ?_
            show Steps p.tables e below (T218.setTop (mkF m 67 #[.val (.long q1), .second, .val (.long q2), .second, .val (.long q3), .second, .val (.int p4), .val (.int p5), .val (.ref b186), .val (.int (3 : Int32)), .val (.int (1 : Int32)), .val (.int (1 : Int32))] [(.int (3 : Int32))])) _
            refine XS.iconst X218.here hx rfl (hb hby at_67) ?_
            show Steps p.tables e below (T218.setTop (mkF m 68 #[.val (.long q1), .second, .val (.long q2), .second, .val (.long q3), .second, .val (.int p4), .val (.int p5), .val (.ref b186), .val (.int (3 : Int32)), .val (.int (1 : Int32)), .val (.int (1 : Int32))] [(.int (1 : Int32)), (.int (3 : Int32))])) _
            refine XS.icmpNo X218.here hx rfl (hb hby at_68) rfl (tlt (by decide : (1 : Int32) < (3 : Int32))).2.2.2 ?_
            show Steps p.tables e below (T218.setTop (mkF m 71 #[.val (.long q1), .second, .val (.long q2), .second, .val (.long q3), .second, .val (.int p4), .val (.int p5), .val (.ref b186), .val (.int (3 : Int32)), .val (.int (1 : Int32)), .val (.int (1 : Int32))] [])) _
            refine XS.aload X218.here hx rfl (hb hby at_71) rfl rfl ?_
            show Steps p.tables e below (T218.setTop (mkF m 73 #[.val (.long q1), .second, .val (.long q2), .second, .val (.long q3), .second, .val (.int p4), .val (.int p5), .val (.ref b186), .val (.int (3 : Int32)), .val (.int (1 : Int32)), .val (.int (1 : Int32))] [(.ref b186)])) _
            refine XS.lloadN X218.here hx rfl (hb hby at_73) rfl ?_
            show Steps p.tables e below (T218.setTop (mkF m 74 #[.val (.long q1), .second, .val (.long q2), .second, .val (.long q3), .second, .val (.int p4), .val (.int p5), .val (.ref b186), .val (.int (3 : Int32)), .val (.int (1 : Int32)), .val (.int (1 : Int32))] [(.long q2), (.ref b186)])) _
            refine XS.iload X218.here hx rfl (hb hby at_74) rfl ?_
            show Steps p.tables e below (T218.setTop (mkF m 76 #[.val (.long q1), .second, .val (.long q2), .second, .val (.long q3), .second, .val (.int p4), .val (.int p5), .val (.ref b186), .val (.int (3 : Int32)), .val (.int (1 : Int32)), .val (.int (1 : Int32))] [(.int p4), (.long q2), (.ref b186)])) _
            refine st221.trans ?_
            show Steps p.tables e below (T221.setTop (mkF m 79 #[.val (.long q1), .second, .val (.long q2), .second, .val (.long q3), .second, .val (.int p4), .val (.int p5), .val (.ref b186), .val (.int (3 : Int32)), .val (.int (1 : Int32)), .val (.int (1 : Int32))] [])) _
            refine XS.iload X221.here hx rfl (hb hby at_79) rfl ?_
            show Steps p.tables e below (T221.setTop (mkF m 81 #[.val (.long q1), .second, .val (.long q2), .second, .val (.long q3), .second, .val (.int p4), .val (.int p5), .val (.ref b186), .val (.int (3 : Int32)), .val (.int (1 : Int32)), .val (.int (1 : Int32))] [(.int (3 : Int32))])) _
            refine XS.iconst X221.here hx rfl (hb hby at_81) ?_
            show Steps p.tables e below (T221.setTop (mkF m 82 #[.val (.long q1), .second, .val (.long q2), .second, .val (.long q3), .second, .val (.int p4), .val (.int p5), .val (.ref b186), .val (.int (3 : Int32)), .val (.int (1 : Int32)), .val (.int (1 : Int32))] [(.int (2 : Int32)), (.int (3 : Int32))])) _
            refine XS.icmpNo X221.here hx rfl (hb hby at_82) rfl (tlt (by decide : (2 : Int32) < (3 : Int32))).2.2.2 ?_
            show Steps p.tables e below (T221.setTop (mkF m 85 #[.val (.long q1), .second, .val (.long q2), .second, .val (.long q3), .second, .val (.int p4), .val (.int p5), .val (.ref b186), .val (.int (3 : Int32)), .val (.int (1 : Int32)), .val (.int (1 : Int32))] [])) _
            refine XS.aload X221.here hx rfl (hb hby at_85) rfl rfl ?_
            show Steps p.tables e below (T221.setTop (mkF m 87 #[.val (.long q1), .second, .val (.long q2), .second, .val (.long q3), .second, .val (.int p4), .val (.int p5), .val (.ref b186), .val (.int (3 : Int32)), .val (.int (1 : Int32)), .val (.int (1 : Int32))] [(.ref b186)])) _
            refine XS.lload X221.here hx rfl (hb hby at_87) rfl ?_
            show Steps p.tables e below (T221.setTop (mkF m 89 #[.val (.long q1), .second, .val (.long q2), .second, .val (.long q3), .second, .val (.int p4), .val (.int p5), .val (.ref b186), .val (.int (3 : Int32)), .val (.int (1 : Int32)), .val (.int (1 : Int32))] [(.long q3), (.ref b186)])) _
            refine XS.iload X221.here hx rfl (hb hby at_89) rfl ?_
            show Steps p.tables e below (T221.setTop (mkF m 91 #[.val (.long q1), .second, .val (.long q2), .second, .val (.long q3), .second, .val (.int p4), .val (.int p5), .val (.ref b186), .val (.int (3 : Int32)), .val (.int (1 : Int32)), .val (.int (1 : Int32))] [(.int p4), (.long q3), (.ref b186)])) _
            refine st226.trans ?_
            show Steps p.tables e below (T226.setTop (mkF m 94 #[.val (.long q1), .second, .val (.long q2), .second, .val (.long q3), .second, .val (.int p4), .val (.int p5), .val (.ref b186), .val (.int (3 : Int32)), .val (.int (1 : Int32)), .val (.int (1 : Int32))] [])) _
            refine XS.iload X226.here hx rfl (hb hby at_94) rfl ?_
            show Steps p.tables e below (T226.setTop (mkF m 96 #[.val (.long q1), .second, .val (.long q2), .second, .val (.long q3), .second, .val (.int p4), .val (.int p5), .val (.ref b186), .val (.int (3 : Int32)), .val (.int (1 : Int32)), .val (.int (1 : Int32))] [(.int (1 : Int32))])) _
            refine XS.ifNo X226.here hx rfl (hb hby at_96) rfl ((if0 _ _).trans (feq (by decide : ¬ ((1 : Int32) = (0 : Int32)))).1) ?_
            show Steps p.tables e below (T226.setTop (mkF m 99 #[.val (.long q1), .second, .val (.long q2), .second, .val (.long q3), .second, .val (.int p4), .val (.int p5), .val (.ref b186), .val (.int (3 : Int32)), .val (.int (1 : Int32)), .val (.int (1 : Int32))] [])) _
            refine XS.aload X226.here hx rfl (hb hby at_99) rfl rfl ?_
            show Steps p.tables e below (T226.setTop (mkF m 101 #[.val (.long q1), .second, .val (.long q2), .second, .val (.long q3), .second, .val (.int p4), .val (.int p5), .val (.ref b186), .val (.int (3 : Int32)), .val (.int (1 : Int32)), .val (.int (1 : Int32))] [(.ref b186)])) _
            refine st231.trans ?_
            show Steps p.tables e below (T231.setTop (mkF m 104 #[.val (.long q1), .second, .val (.long q2), .second, .val (.long q3), .second, .val (.int p4), .val (.int p5), .val (.ref b186), .val (.int (3 : Int32)), .val (.int (1 : Int32)), .val (.int (1 : Int32))] [(.int (0 : Int32))])) _
            refine XS.ifNo X231.here hx rfl (hb hby at_104) rfl ((if0 _ _).trans (teq (by decide : (0 : Int32) = (0 : Int32))).2) ?_
            show Steps p.tables e below (T231.setTop (mkF m 107 #[.val (.long q1), .second, .val (.long q2), .second, .val (.long q3), .second, .val (.int p4), .val (.int p5), .val (.ref b186), .val (.int (3 : Int32)), .val (.int (1 : Int32)), .val (.int (1 : Int32))] [])) _
            refine XS.aload X231.here hx rfl (hb hby at_107) rfl rfl ?_
            show Steps p.tables e below (T231.setTop (mkF m 109 #[.val (.long q1), .second, .val (.long q2), .second, .val (.long q3), .second, .val (.int p4), .val (.int p5), .val (.ref b186), .val (.int (3 : Int32)), .val (.int (1 : Int32)), .val (.int (1 : Int32))] [(.ref b186)])) _
            refine st232.trans ?_
            show Steps p.tables e below (T232.setTop (mkF m 112 #[.val (.long q1), .second, .val (.long q2), .second, .val (.long q3), .second, .val (.int p4), .val (.int p5), .val (.ref b186), .val (.int (3 : Int32)), .val (.int (1 : Int32)), .val (.int (1 : Int32))] [(.int (3 : Int32))])) _
            refine XS.iload X232.here hx rfl (hb hby at_112) rfl ?_
            show Steps p.tables e below (T232.setTop (mkF m 114 #[.val (.long q1), .second, .val (.long q2), .second, .val (.long q3), .second, .val (.int p4), .val (.int p5), .val (.ref b186), .val (.int (3 : Int32)), .val (.int (1 : Int32)), .val (.int (1 : Int32))] [(.int (3 : Int32)), (.int (3 : Int32))])) _
            refine XS.icmpNo X232.here hx rfl (hb hby at_114) rfl (teq (by decide : (3 : Int32) = (3 : Int32))).2 ?_
            show Steps p.tables e below (T232.setTop (mkF m 117 #[.val (.long q1), .second, .val (.long q2), .second, .val (.long q3), .second, .val (.int p4), .val (.int p5), .val (.ref b186), .val (.int (3 : Int32)), .val (.int (1 : Int32)), .val (.int (1 : Int32))] [])) _
            refine XS.iconst X232.here hx rfl (hb hby at_117) ?_
            show Steps p.tables e below (T232.setTop (mkF m 118 #[.val (.long q1), .second, .val (.long q2), .second, .val (.long q3), .second, .val (.int p4), .val (.int p5), .val (.ref b186), .val (.int (3 : Int32)), .val (.int (1 : Int32)), .val (.int (1 : Int32))] [(.int (1 : Int32))])) _
            refine XS.goto X232.here hx rfl (pc0 := 118) (pc' := 122) rfl (hb hby at_118) (by decide) (by decide) ?_
            show Steps p.tables e below (T232.setTop (mkF m 122 #[.val (.long q1), .second, .val (.long q2), .second, .val (.long q3), .second, .val (.int p4), .val (.int p5), .val (.ref b186), .val (.int (3 : Int32)), .val (.int (1 : Int32)), .val (.int (1 : Int32))] [(.int (1 : Int32))])) _
            refine XS.istore X232.here hx rfl (hb hby at_122) rfl (l' := #[.val (.long q1), .second, .val (.long q2), .second, .val (.long q3), .second, .val (.int p4), .val (.int p5), .val (.ref b186), .val (.int (3 : Int32)), .val (.int (1 : Int32)), .val (.int (1 : Int32))]) rfl ?_
            show Steps p.tables e below (T232.setTop (mkF m 124 #[.val (.long q1), .second, .val (.long q2), .second, .val (.long q3), .second, .val (.int p4), .val (.int p5), .val (.ref b186), .val (.int (3 : Int32)), .val (.int (1 : Int32)), .val (.int (1 : Int32))] [])) _
            refine XS.iload X232.here hx rfl (hb hby at_124) rfl ?_
            show Steps p.tables e below (T232.setTop (mkF m 126 #[.val (.long q1), .second, .val (.long q2), .second, .val (.long q3), .second, .val (.int p4), .val (.int p5), .val (.ref b186), .val (.int (3 : Int32)), .val (.int (1 : Int32)), .val (.int (1 : Int32))] [(.int (1 : Int32))])) _
            refine XS.ifNo X232.here hx rfl (hb hby at_126) rfl ((if0 _ _).trans (feq (by decide : ¬ ((1 : Int32) = (0 : Int32)))).1) ?_
            show Steps p.tables e below (T232.setTop (mkF m 129 #[.val (.long q1), .second, .val (.long q2), .second, .val (.long q3), .second, .val (.int p4), .val (.int p5), .val (.ref b186), .val (.int (3 : Int32)), .val (.int (1 : Int32)), .val (.int (1 : Int32))] [])) _
            refine XS.aload X232.here hx rfl (hb hby at_129) rfl rfl ?_
            show Steps p.tables e below (T232.setTop (mkF m 131 #[.val (.long q1), .second, .val (.long q2), .second, .val (.long q3), .second, .val (.int p4), .val (.int p5), .val (.ref b186), .val (.int (3 : Int32)), .val (.int (1 : Int32)), .val (.int (1 : Int32))] [(.ref b186)])) _
            refine st233.trans ?_
            show Steps p.tables e below (T233.setTop (mkF m 134 #[.val (.long q1), .second, .val (.long q2), .second, .val (.long q3), .second, .val (.int p4), .val (.int p5), .val (.ref b186), .val (.int (3 : Int32)), .val (.int (1 : Int32)), .val (.int (1 : Int32))] [])) _
            refine XS.iload X233.here hx rfl (hb hby at_134) rfl ?_
            show Steps p.tables e below (T233.setTop (mkF m 136 #[.val (.long q1), .second, .val (.long q2), .second, .val (.long q3), .second, .val (.int p4), .val (.int p5), .val (.ref b186), .val (.int (3 : Int32)), .val (.int (1 : Int32)), .val (.int (1 : Int32))] [(.int (1 : Int32))])) _
            refine XS.ifNo X233.here hx rfl (hb hby at_136) rfl ((if0 _ _).trans (feq (by decide : ¬ ((1 : Int32) = (0 : Int32)))).1) ?_
            show Steps p.tables e below (T233.setTop (mkF m 139 #[.val (.long q1), .second, .val (.long q2), .second, .val (.long q3), .second, .val (.int p4), .val (.int p5), .val (.ref b186), .val (.int (3 : Int32)), .val (.int (1 : Int32)), .val (.int (1 : Int32))] [])) _
            refine XS.aload X233.here hx rfl (hb hby at_139) rfl rfl ?_
            show Steps p.tables e below (T233.setTop (mkF m 141 #[.val (.long q1), .second, .val (.long q2), .second, .val (.long q3), .second, .val (.int p4), .val (.int p5), .val (.ref b186), .val (.int (3 : Int32)), .val (.int (1 : Int32)), .val (.int (1 : Int32))] [(.ref b186)])) _
            refine st240.trans ?_
            show Steps p.tables e below (T240.setTop (mkF m 144 #[.val (.long q1), .second, .val (.long q2), .second, .val (.long q3), .second, .val (.int p4), .val (.int p5), .val (.ref b186), .val (.int (3 : Int32)), .val (.int (1 : Int32)), .val (.int (1 : Int32))] [(.int (0 : Int32))])) _
            refine XS.ifNo X240.here hx rfl (hb hby at_144) rfl ((if0 _ _).trans (teq (by decide : (0 : Int32) = (0 : Int32))).2) ?_
            show Steps p.tables e below (T240.setTop (mkF m 147 #[.val (.long q1), .second, .val (.long q2), .second, .val (.long q3), .second, .val (.int p4), .val (.int p5), .val (.ref b186), .val (.int (3 : Int32)), .val (.int (1 : Int32)), .val (.int (1 : Int32))] [])) _
            refine XS.aload X240.here hx rfl (hb hby at_147) rfl rfl ?_
            show Steps p.tables e below (T240.setTop (mkF m 149 #[.val (.long q1), .second, .val (.long q2), .second, .val (.long q3), .second, .val (.int p4), .val (.int p5), .val (.ref b186), .val (.int (3 : Int32)), .val (.int (1 : Int32)), .val (.int (1 : Int32))] [(.ref b186)])) _
            refine st241.trans ?_
            show Steps p.tables e below (T241.setTop (mkF m 152 #[.val (.long q1), .second, .val (.long q2), .second, .val (.long q3), .second, .val (.int p4), .val (.int p5), .val (.ref b186), .val (.int (3 : Int32)), .val (.int (1 : Int32)), .val (.int (1 : Int32))] [(.int (0 : Int32))])) _
            refine XS.ifNo X241.here hx rfl (hb hby at_152) rfl ((if0 _ _).trans (teq (by decide : (0 : Int32) = (0 : Int32))).2) ?_
            show Steps p.tables e below (T241.setTop (mkF m 155 #[.val (.long q1), .second, .val (.long q2), .second, .val (.long q3), .second, .val (.int p4), .val (.int p5), .val (.ref b186), .val (.int (3 : Int32)), .val (.int (1 : Int32)), .val (.int (1 : Int32))] [])) _
            refine XS.iconst X241.here hx rfl (hb hby at_155) ?_
            show Steps p.tables e below (T241.setTop (mkF m 156 #[.val (.long q1), .second, .val (.long q2), .second, .val (.long q3), .second, .val (.int p4), .val (.int p5), .val (.ref b186), .val (.int (3 : Int32)), .val (.int (1 : Int32)), .val (.int (1 : Int32))] [(.int (1 : Int32))])) _
            refine XS.goto X241.here hx rfl (pc0 := 156) (pc' := 160) rfl (hb hby at_156) (by decide) (by decide) ?_
            show Steps p.tables e below (T241.setTop (mkF m 160 #[.val (.long q1), .second, .val (.long q2), .second, .val (.long q3), .second, .val (.int p4), .val (.int p5), .val (.ref b186), .val (.int (3 : Int32)), .val (.int (1 : Int32)), .val (.int (1 : Int32))] [(.int (1 : Int32))])) _
            refine XS.istore X241.here hx rfl (hb hby at_160) rfl (l' := #[.val (.long q1), .second, .val (.long q2), .second, .val (.long q3), .second, .val (.int p4), .val (.int p5), .val (.ref b186), .val (.int (3 : Int32)), .val (.int (1 : Int32)), .val (.int (1 : Int32))]) rfl ?_
            show Steps p.tables e below (T241.setTop (mkF m 162 #[.val (.long q1), .second, .val (.long q2), .second, .val (.long q3), .second, .val (.int p4), .val (.int p5), .val (.ref b186), .val (.int (3 : Int32)), .val (.int (1 : Int32)), .val (.int (1 : Int32))] [])) _
            refine XS.iload X241.here hx rfl (hb hby at_162) rfl ?_
            show Steps p.tables e below (T241.setTop (mkF m 164 #[.val (.long q1), .second, .val (.long q2), .second, .val (.long q3), .second, .val (.int p4), .val (.int p5), .val (.ref b186), .val (.int (3 : Int32)), .val (.int (1 : Int32)), .val (.int (1 : Int32))] [(.int (1 : Int32))])) _
            exact retN X241 hx (t := .boolean) Bd.returns (by simp) (hb hby at_164) hr
          · show Q0 Z q1 q2 q3 p4 p5 h0 n0 _ T241.heap _
            rw [P241_0]
            exact ⟨rfl, N241⟩
      · have hz0 := own_four p5 hc101 hc138 hc185
        obtain ⟨T242, h242, X242, e242, E242, A242, D242, -, st242⟩ := newO X0 hx hZ0 hown0 (hw _ (List.mem_of_getElem? (i := 0) rfl)) (hw _ (List.mem_of_getElem? (i := 1) rfl)) (hw _ (List.mem_of_getElem? (i := 2) rfl)) e0 (g := (mkF m 0 #[.val (.long q1), .second, .val (.long q2), .second, .val (.long q3), .second, .val (.int p4), .val (.int p5), .unset, .unset, .unset, .unset] [])) rfl (hb hby at_0) (by decide) (by decide)
        obtain ⟨b242, g242⟩ : ∃ z, z = h0.size := ⟨_, rfl⟩
        rw [← g242] at A242 D242 st242
        have gn_b242 : n0 ≤ b242 := Nat.le_trans Z0 (Nat.le_of_eq g242.symm)
        have f243 : Old Z n0 h242 := O0.ext E242
        have Zs242 : n0 ≤ h242.size := Nat.le_trans Z0 E242.1
        have f244 : Fld Z h242 b242 "holdfast/CountedIds$Batch" "digests" "[[J" .null := D242 (Or.inl (hw _ (List.mem_of_getElem? (i := 12) rfl))) (ty := (.array (.array .long))) (by decide)
        have f245 : Fld Z h242 b242 "holdfast/CountedIds$Batch" "tags" "[[I" .null := D242 (Or.inl (hw _ (List.mem_of_getElem? (i := 16) rfl))) (ty := (.array (.array .int))) (by decide)
        have f246 : Fld Z h242 b242 "holdfast/CountedIds$Batch" "spareDigests" "[[J" .null := D242 (Or.inl (hw _ (List.mem_of_getElem? (i := 18) rfl))) (ty := (.array (.array .long))) (by decide)
        have f247 : Fld Z h242 b242 "holdfast/CountedIds$Batch" "spareTags" "[[I" .null := D242 (Or.inl (hw _ (List.mem_of_getElem? (i := 20) rfl))) (ty := (.array (.array .int))) (by decide)
        have f248 : Fld Z h242 b242 "holdfast/CountedIds$Batch" "sorted" "Z" (.int (0 : Int32)) := D242 (Or.inl (hw _ (List.mem_of_getElem? (i := 22) rfl))) (ty := .boolean) (by decide)
        have f249 : Fld Z h242 b242 "holdfast/CountedIds$Batch" "size" "I" (.int (0 : Int32)) := D242 (Or.inl (hw _ (List.mem_of_getElem? (i := 29) rfl))) (ty := .int) (by decide)
        obtain ⟨_, _, ⟨T250, L250, k250, n250⟩, -, X250, ⟨Lc250, hQ250, l250, y250, z250⟩, st250⟩ := X242.specialBack hx (y := (⟨"holdfast/CountedIds$Batch", "<init>", "()V"⟩ : MethodName)) rfl hown0 (mvT hZ0 (hw _ (List.mem_of_getElem? (i := 3) rfl))) (mvT hZ0 (hw _ (List.mem_of_getElem? (i := 4) rfl))) (mvT hZ0 (hw _ (List.mem_of_getElem? (i := 5) rfl))) (by decide) (backOf (W := 1) (rm1 l Z a0 hw [] b242 h242 n0 Zs242 A242 gn_b242 f244 f245 f246 f247 f248 f249) hZ0 (hw _ (List.mem_of_getElem? (i := 5) rfl)) (hw _ (List.mem_of_getElem? (i := 2) rfl)) (by decide) (by decide)) (g := (mkF m 4 #[.val (.long q1), .second, .val (.long q2), .second, .val (.long q3), .second, .val (.int p4), .val (.int p5), .unset, .unset, .unset, .unset] [(.ref b242), (.ref b242)])) rfl (by rw [hml]; rfl) (Steps.refl _) (a := b242) (argsL := []) (rest := [(.ref b242)]) (lenOf pd_1 rfl) rfl (by show 2 * 0 + _ ≤ _; exact Nat.le_of_eq rfl) (hb hby at_4) (fun _ _ => ⟨rfl, e242, (by decide : 1 + 4 ≤ _), (by decide : 6 + 256 ≤ _)⟩)
        dsimp only [Pt.U, Pt.locs, Pt.cells, Pt.slots] at X250 l250 y250 z250 st250 hQ250
        subst l250 y250 z250
        obtain ⟨d_250, t_250, kd_250, kt_250, rfl, N250q, P250_0, P250_1, P250_2, P250_3, P250_4, P250_5, P250_6, P250_7, P250_8, P250_9, P250_10, P250_11⟩ := hQ250
        have N250 := Fr.app N0 N250q
        have ne_b242_d_250 : b242 ≠ d_250 := Nat.ne_of_lt (Nat.lt_of_lt_of_le A242.lt P250_1)
        have gn_d_250 : n0 ≤ d_250 := Nat.le_trans Zs242 P250_1
        have ne_b242_t_250 : b242 ≠ t_250 := Nat.ne_of_lt (Nat.lt_of_lt_of_le A242.lt P250_2)
        have gn_t_250 : n0 ≤ t_250 := Nat.le_trans Zs242 P250_2
        have f251 : Old Z n0 T250.heap := f243.keep P250_0 (allS gn_b242 all0)
        have f252 : Exa Z T250.heap b242 "holdfast/CountedIds$Batch" := A242.keep P250_0
        have Zs250 : n0 ≤ T250.heap.size := Nat.le_trans Zs242 P250_0.1
        have pr253 : ∀ tg9, Steps p.tables e below (T250.setTop (mkF m 19 #[.val (.long q1), .second, .val (.long q2), .second, .val (.long q3), .second, .val (.int p4), .val (.int p5), .val (.ref b242), .val (.int (0 : Int32)), .unset, .unset] [(.int (p5 &&& (4 : Int32)))])) tg9 → Steps p.tables e below (s₁.setTop (mkF m 0 #[.val (.long q1), .second, .val (.long q2), .second, .val (.long q3), .second, .val (.int p4), .val (.int p5), .unset, .unset, .unset, .unset] [])) tg9 := fun tg9 kt => by
          show Steps p.tables e below (s₁.setTop (mkF m 0 #[.val (.long q1), .second, .val (.long q2), .second, .val (.long q3), .second, .val (.int p4), .val (.int p5), .unset, .unset, .unset, .unset] [])) _
          refine st242 _ ?_
          show Steps p.tables e below (T242.setTop (mkF m 3 #[.val (.long q1), .second, .val (.long q2), .second, .val (.long q3), .second, .val (.int p4), .val (.int p5), .unset, .unset, .unset, .unset] [(.ref b242)])) _
          refine XS.dup X242.here hx rfl (hb hby at_3) rfl rfl ?_
          show Steps p.tables e below (T242.setTop (mkF m 4 #[.val (.long q1), .second, .val (.long q2), .second, .val (.long q3), .second, .val (.int p4), .val (.int p5), .unset, .unset, .unset, .unset] [(.ref b242), (.ref b242)])) _
          refine st250.trans ?_
          show Steps p.tables e below (T250.setTop (mkF m 7 #[.val (.long q1), .second, .val (.long q2), .second, .val (.long q3), .second, .val (.int p4), .val (.int p5), .unset, .unset, .unset, .unset] [(.ref b242)])) _
          refine XS.astore X250.here hx rfl (hb hby at_7) rfl rfl (l' := #[.val (.long q1), .second, .val (.long q2), .second, .val (.long q3), .second, .val (.int p4), .val (.int p5), .val (.ref b242), .unset, .unset, .unset]) rfl ?_
          show Steps p.tables e below (T250.setTop (mkF m 9 #[.val (.long q1), .second, .val (.long q2), .second, .val (.long q3), .second, .val (.int p4), .val (.int p5), .val (.ref b242), .unset, .unset, .unset] [])) _
          refine XS.iload X250.here hx rfl (hb hby at_9) rfl ?_
          show Steps p.tables e below (T250.setTop (mkF m 11 #[.val (.long q1), .second, .val (.long q2), .second, .val (.long q3), .second, .val (.int p4), .val (.int p5), .val (.ref b242), .unset, .unset, .unset] [(.int p5)])) _
          refine XS.iconst X250.here hx rfl (hb hby at_11) ?_
          show Steps p.tables e below (T250.setTop (mkF m 12 #[.val (.long q1), .second, .val (.long q2), .second, .val (.long q3), .second, .val (.int p4), .val (.int p5), .val (.ref b242), .unset, .unset, .unset] [(.int (3 : Int32)), (.int p5)])) _
          refine XS.iand X250.here hx rfl (hb hby at_12) rfl ?_
          show Steps p.tables e below (T250.setTop (mkF m 13 #[.val (.long q1), .second, .val (.long q2), .second, .val (.long q3), .second, .val (.int p4), .val (.int p5), .val (.ref b242), .unset, .unset, .unset] [(.int (p5 &&& (3 : Int32)))])) _
          rw [hz0]
          show Steps p.tables e below (T250.setTop (mkF m 13 #[.val (.long q1), .second, .val (.long q2), .second, .val (.long q3), .second, .val (.int p4), .val (.int p5), .val (.ref b242), .unset, .unset, .unset] [(.int (0 : Int32))])) _
          refine XS.istore X250.here hx rfl (hb hby at_13) rfl (l' := #[.val (.long q1), .second, .val (.long q2), .second, .val (.long q3), .second, .val (.int p4), .val (.int p5), .val (.ref b242), .val (.int (0 : Int32)), .unset, .unset]) rfl ?_
          show Steps p.tables e below (T250.setTop (mkF m 15 #[.val (.long q1), .second, .val (.long q2), .second, .val (.long q3), .second, .val (.int p4), .val (.int p5), .val (.ref b242), .val (.int (0 : Int32)), .unset, .unset] [])) _
          refine XS.iload X250.here hx rfl (hb hby at_15) rfl ?_
          show Steps p.tables e below (T250.setTop (mkF m 17 #[.val (.long q1), .second, .val (.long q2), .second, .val (.long q3), .second, .val (.int p4), .val (.int p5), .val (.ref b242), .val (.int (0 : Int32)), .unset, .unset] [(.int p5)])) _
          refine XS.iconst X250.here hx rfl (hb hby at_17) ?_
          show Steps p.tables e below (T250.setTop (mkF m 18 #[.val (.long q1), .second, .val (.long q2), .second, .val (.long q3), .second, .val (.int p4), .val (.int p5), .val (.ref b242), .val (.int (0 : Int32)), .unset, .unset] [(.int (4 : Int32)), (.int p5)])) _
          refine XS.iand X250.here hx rfl (hb hby at_18) rfl ?_
          exact kt
        by_cases hc254 : (p5 &&& (4 : Int32)) = (0 : Int32)
        · obtain ⟨cq255, kq255, q255a, q255b, q255c⟩ := isOf hZ0 rfl f252
          obtain ⟨_, _, ⟨T255, L255, k255, n255⟩, -, X255, ⟨Lc255, hQ255, l255, y255, z255⟩, st255⟩ := X250.virtualBack hx (y := (⟨"holdfast/CountedIds$Batch", "full", "()Z"⟩ : MethodName)) (z := (⟨"holdfast/CountedIds$Batch", "full", "()Z"⟩ : MethodName)) hown0 (mvT hZ0 (hw _ (List.mem_of_getElem? (i := 23) rfl))) (mvT hZ0 (hw _ (List.mem_of_getElem? (i := 24) rfl))) (notFace_of_selects (args := #[]) (mvT hZ0 (hw _ (List.mem_of_getElem? (i := 26) rfl)))) (mvT hZ0 (hw _ (List.mem_of_getElem? (i := 26) rfl))) (mvT hZ0 (hw _ (List.mem_of_getElem? (i := 25) rfl))) (by decide) (backOf (W := 0) (rm3 l Z a0 hw [] b242 (0 : Int32) T250.heap n0 Zs250 P250_6 (by decide)) hZ0 (hw _ (List.mem_of_getElem? (i := 27) rfl)) (hw _ (List.mem_of_getElem? (i := 2) rfl)) (by decide) (by decide)) q255a q255c (g := (mkF m 31 #[.val (.long q1), .second, .val (.long q2), .second, .val (.long q3), .second, .val (.int p4), .val (.int p5), .val (.ref b242), .val (.int (0 : Int32)), .val (.int (0 : Int32)), .unset] [(.ref b242)])) rfl (by rw [hml]; rfl) (Steps.refl _) (argsL := []) (rest := []) (lenOf pd_2 rfl) rfl (by show 2 * 0 + _ ≤ _; exact Nat.le_of_eq rfl) (hb hby at_31) (fun _ _ => ⟨rfl, rfl, (by decide : 5 + 0 ≤ _), (by decide : 262 + 0 ≤ _)⟩)
          dsimp only [Pt.U, Pt.locs, Pt.cells, Pt.slots] at X255 l255 y255 z255 st255 hQ255
          subst l255 y255 z255
          obtain ⟨rfl, N255q, P255_0⟩ := hQ255
          have N255 := Fr.app N250 N255q
          obtain ⟨cq256, kq256, q256a, q256b, q256c⟩ := isOf hZ0 P255_0 f252
          obtain ⟨_, _, ⟨T256, L256, k256, n256⟩, -, X256, ⟨Lc256, hQ256, l256, y256, z256⟩, st256⟩ := X255.virtualBack hx (y := (⟨"holdfast/CountedIds$Batch", "size", "()I"⟩ : MethodName)) (z := (⟨"holdfast/CountedIds$Batch", "size", "()I"⟩ : MethodName)) hown0 (mvT hZ0 (hw _ (List.mem_of_getElem? (i := 31) rfl))) (mvT hZ0 (hw _ (List.mem_of_getElem? (i := 32) rfl))) (notFace_of_selects (args := #[]) (mvT hZ0 (hw _ (List.mem_of_getElem? (i := 34) rfl)))) (mvT hZ0 (hw _ (List.mem_of_getElem? (i := 34) rfl))) (mvT hZ0 (hw _ (List.mem_of_getElem? (i := 33) rfl))) (by decide) (backOf (W := 0) (rm4 l Z a0 hw [] b242 (0 : Int32) T250.heap n0 Zs250 P250_6) hZ0 (hw _ (List.mem_of_getElem? (i := 35) rfl)) (hw _ (List.mem_of_getElem? (i := 2) rfl)) (by decide) (by decide)) q256a q256c (g := (mkF m 39 #[.val (.long q1), .second, .val (.long q2), .second, .val (.long q3), .second, .val (.int p4), .val (.int p5), .val (.ref b242), .val (.int (0 : Int32)), .val (.int (0 : Int32)), .unset] [(.ref b242)])) rfl (by rw [hml]; rfl) (Steps.refl _) (argsL := []) (rest := []) (lenOf pd_3 rfl) rfl (by show 2 * 0 + _ ≤ _; exact Nat.le_of_eq rfl) (hb hby at_39) (fun _ _ => ⟨rfl, P255_0, (by decide : 5 + 0 ≤ _), (by decide : 262 + 0 ≤ _)⟩)
          dsimp only [Pt.U, Pt.locs, Pt.cells, Pt.slots] at X256 l256 y256 z256 st256 hQ256
          subst l256 y256 z256
          obtain ⟨rfl, N256q, P256_0⟩ := hQ256
          have N256 := Fr.app N255 N256q
          obtain ⟨cq257, kq257, q257a, q257b, q257c⟩ := isOf hZ0 P256_0 f252
          obtain ⟨_, _, ⟨T257, L257, k257, n257⟩, -, X257, ⟨Lc257, hQ257, l257, y257, z257⟩, st257⟩ := X256.virtualBack hx (y := (⟨"holdfast/CountedIds$Batch", "full", "()Z"⟩ : MethodName)) (z := (⟨"holdfast/CountedIds$Batch", "full", "()Z"⟩ : MethodName)) hown0 (mvT hZ0 (hw _ (List.mem_of_getElem? (i := 23) rfl))) (mvT hZ0 (hw _ (List.mem_of_getElem? (i := 24) rfl))) (notFace_of_selects (args := #[]) (mvT hZ0 (hw _ (List.mem_of_getElem? (i := 26) rfl)))) (mvT hZ0 (hw _ (List.mem_of_getElem? (i := 26) rfl))) (mvT hZ0 (hw _ (List.mem_of_getElem? (i := 25) rfl))) (by decide) (backOf (W := 0) (rm3 l Z a0 hw [] b242 (0 : Int32) T250.heap n0 Zs250 P250_6 (by decide)) hZ0 (hw _ (List.mem_of_getElem? (i := 27) rfl)) (hw _ (List.mem_of_getElem? (i := 2) rfl)) (by decide) (by decide)) q257a q257c (g := (mkF m 101 #[.val (.long q1), .second, .val (.long q2), .second, .val (.long q3), .second, .val (.int p4), .val (.int p5), .val (.ref b242), .val (.int (0 : Int32)), .val (.int (0 : Int32)), .val (.int (1 : Int32))] [(.ref b242)])) rfl (by rw [hml]; rfl) (Steps.refl _) (argsL := []) (rest := []) (lenOf pd_2 rfl) rfl (by show 2 * 0 + _ ≤ _; exact Nat.le_of_eq rfl) (hb hby at_101) (fun _ _ => ⟨rfl, P256_0, (by decide : 5 + 0 ≤ _), (by decide : 262 + 0 ≤ _)⟩)
          dsimp only [Pt.U, Pt.locs, Pt.cells, Pt.slots] at X257 l257 y257 z257 st257 hQ257
          subst l257 y257 z257
          obtain ⟨rfl, N257q, P257_0⟩ := hQ257
          have N257 := Fr.app N256 N257q
          obtain ⟨cq258, kq258, q258a, q258b, q258c⟩ := isOf hZ0 P257_0 f252
          obtain ⟨_, _, ⟨T258, L258, k258, n258⟩, -, X258, ⟨Lc258, hQ258, l258, y258, z258⟩, st258⟩ := X257.virtualBack hx (y := (⟨"holdfast/CountedIds$Batch", "size", "()I"⟩ : MethodName)) (z := (⟨"holdfast/CountedIds$Batch", "size", "()I"⟩ : MethodName)) hown0 (mvT hZ0 (hw _ (List.mem_of_getElem? (i := 31) rfl))) (mvT hZ0 (hw _ (List.mem_of_getElem? (i := 32) rfl))) (notFace_of_selects (args := #[]) (mvT hZ0 (hw _ (List.mem_of_getElem? (i := 34) rfl)))) (mvT hZ0 (hw _ (List.mem_of_getElem? (i := 34) rfl))) (mvT hZ0 (hw _ (List.mem_of_getElem? (i := 33) rfl))) (by decide) (backOf (W := 0) (rm4 l Z a0 hw [] b242 (0 : Int32) T250.heap n0 Zs250 P250_6) hZ0 (hw _ (List.mem_of_getElem? (i := 35) rfl)) (hw _ (List.mem_of_getElem? (i := 2) rfl)) (by decide) (by decide)) q258a q258c (g := (mkF m 109 #[.val (.long q1), .second, .val (.long q2), .second, .val (.long q3), .second, .val (.int p4), .val (.int p5), .val (.ref b242), .val (.int (0 : Int32)), .val (.int (0 : Int32)), .val (.int (1 : Int32))] [(.ref b242)])) rfl (by rw [hml]; rfl) (Steps.refl _) (argsL := []) (rest := []) (lenOf pd_3 rfl) rfl (by show 2 * 0 + _ ≤ _; exact Nat.le_of_eq rfl) (hb hby at_109) (fun _ _ => ⟨rfl, P257_0, (by decide : 5 + 0 ≤ _), (by decide : 262 + 0 ≤ _)⟩)
          dsimp only [Pt.U, Pt.locs, Pt.cells, Pt.slots] at X258 l258 y258 z258 st258 hQ258
          subst l258 y258 z258
          obtain ⟨rfl, N258q, P258_0⟩ := hQ258
          have N258 := Fr.app N257 N258q
          obtain ⟨fs, hr, hrun, hended, hW, hsame⟩ := X258.leave (v := some (.int (1 : Int32))) (fun h => by rw [Bd.returns] at h; cases h) hlk
          refine ⟨_, _, pre0 _ ?_, hrun, hended, _, _, rfl, ?_, ⟨_, rfl⟩, hW, hsame.mono (by decide) (by decide)⟩
          · refine pr253 _ ?_
            show Steps p.tables e below (T250.setTop (mkF m 19 #[.val (.long q1), .second, .val (.long q2), .second, .val (.long q3), .second, .val (.int p4), .val (.int p5), .val (.ref b242), .val (.int (0 : Int32)), .unset, .unset] [(.int (p5 &&& (4 : Int32)))])) _
            refine XS.ifYes X250.here hx rfl (pc0 := 19) (pc' := 26) rfl (hb hby at_19) rfl ((if0 _ _).trans (teq hc254).1) (by decide) (by decide) ?_
            show Steps p.tables e below (T250.setTop (mkF m 26 #[.val (.long q1), .second, .val (.long q2), .second, .val (.long q3), .second, .val (.int p4), .val (.int p5), .val (.ref b242), .val (.int (0 : Int32)), .unset, .unset] [])) _
            refine XS.iconst X250.here hx rfl (hb hby at_26) ?_
            show Steps p.tables e below (T250.setTop (mkF m 27 #[.val (.long q1), .second, .val (.long q2), .second, .val (.long q3), .second, .val (.int p4), .val (.int p5), .val (.ref b242), .val (.int (0 : Int32)), .unset, .unset] [(.int (0 : Int32))])) _
            refine XS.istore X250.here hx rfl (hb hby at_27) rfl (l' := #[.val (.long q1), .second, .val (.long q2), .second, .val (.long q3), .second, .val (.int p4), .val (.int p5), .val (.ref b242), .val (.int (0 : Int32)), .val (.int (0 : Int32)), .unset]) rfl ?_
            show Steps p.tables e below (T250.setTop (mkF m 29 #[.val (.long q1), .second, .val (.long q2), .second, .val (.long q3), .second, .val (.int p4), .val (.int p5), .val (.ref b242), .val (.int (0 : Int32)), .val (.int (0 : Int32)), .unset] [])) _
            refine XS.aload X250.here hx rfl (hb hby at_29) rfl rfl ?_
            show Steps p.tables e below (T250.setTop (mkF m 31 #[.val (.long q1), .second, .val (.long q2), .second, .val (.long q3), .second, .val (.int p4), .val (.int p5), .val (.ref b242), .val (.int (0 : Int32)), .val (.int (0 : Int32)), .unset] [(.ref b242)])) _
            refine st255.trans ?_
            show Steps p.tables e below (T255.setTop (mkF m 34 #[.val (.long q1), .second, .val (.long q2), .second, .val (.long q3), .second, .val (.int p4), .val (.int p5), .val (.ref b242), .val (.int (0 : Int32)), .val (.int (0 : Int32)), .unset] [(.int (0 : Int32))])) _
            refine XS.ifNo X255.here hx rfl (hb hby at_34) rfl ((if0 _ _).trans (teq (by decide : (0 : Int32) = (0 : Int32))).2) ?_
            show Steps p.tables e below (T255.setTop (mkF m 37 #[.val (.long q1), .second, .val (.long q2), .second, .val (.long q3), .second, .val (.int p4), .val (.int p5), .val (.ref b242), .val (.int (0 : Int32)), .val (.int (0 : Int32)), .unset] [])) _
            refine XS.aload X255.here hx rfl (hb hby at_37) rfl rfl ?_
            show Steps p.tables e below (T255.setTop (mkF m 39 #[.val (.long q1), .second, .val (.long q2), .second, .val (.long q3), .second, .val (.int p4), .val (.int p5), .val (.ref b242), .val (.int (0 : Int32)), .val (.int (0 : Int32)), .unset] [(.ref b242)])) _
            refine st256.trans ?_
            show Steps p.tables e below (T256.setTop (mkF m 42 #[.val (.long q1), .second, .val (.long q2), .second, .val (.long q3), .second, .val (.int p4), .val (.int p5), .val (.ref b242), .val (.int (0 : Int32)), .val (.int (0 : Int32)), .unset] [(.int (0 : Int32))])) _
            refine XS.ifNo X256.here hx rfl (hb hby at_42) rfl ((if0 _ _).trans (teq (by decide : (0 : Int32) = (0 : Int32))).2) ?_
            show Steps p.tables e below (T256.setTop (mkF m 45 #[.val (.long q1), .second, .val (.long q2), .second, .val (.long q3), .second, .val (.int p4), .val (.int p5), .val (.ref b242), .val (.int (0 : Int32)), .val (.int (0 : Int32)), .unset] [])) _
            refine XS.iconst X256.here hx rfl (hb hby at_45) ?_
            show Steps p.tables e below (T256.setTop (mkF m 46 #[.val (.long q1), .second, .val (.long q2), .second, .val (.long q3), .second, .val (.int p4), .val (.int p5), .val (.ref b242), .val (.int (0 : Int32)), .val (.int (0 : Int32)), .unset] [(.int (1 : Int32))])) _
            refine XS.goto X256.here hx rfl (pc0 := 46) (pc' := 50) rfl (hb hby at_46) (by decide) (by decide) ?_
            show Steps p.tables e below (T256.setTop (mkF m 50 #[.val (.long q1), .second, .val (.long q2), .second, .val (.long q3), .second, .val (.int p4), .val (.int p5), .val (.ref b242), .val (.int (0 : Int32)), .val (.int (0 : Int32)), .unset] [(.int (1 : Int32))])) _
            refine XS.istore X256.here hx rfl (hb hby at_50) rfl (l' := #[.val (.long q1), .second, .val (.long q2), .second, .val (.long q3), .second, .val (.int p4), .val (.int p5), .val (.ref b242), .val (.int (0 : Int32)), .val (.int (0 : Int32)), .val (.int (1 : Int32))]) rfl ?_
            show Steps p.tables e below (T256.setTop (mkF m 52 #[.val (.long q1), .second, .val (.long q2), .second, .val (.long q3), .second, .val (.int p4), .val (.int p5), .val (.ref b242), .val (.int (0 : Int32)), .val (.int (0 : Int32)), .val (.int (1 : Int32))] [])) _
            refine XS.iload X256.here hx rfl (hb hby at_52) rfl ?_
            show Steps p.tables e below (T256.setTop (mkF m 54 #[.val (.long q1), .second, .val (.long q2), .second, .val (.long q3), .second, .val (.int p4), .val (.int p5), .val (.ref b242), .val (.int (0 : Int32)), .val (.int (0 : Int32)), .val (.int (1 : Int32))] [(.int (0 : Int32))])) _
            refine XS.ifYes X256.here hx rfl (pc0 := 54) (pc' := 65) rfl (hb hby at_54) rfl ((if0 _ _).trans (flt (by decide : ¬ ((0 : Int32) < (0 : Int32)))).2.2.2) (by decide) (by decide) ?_
            show Steps p.tables e below (T256.setTop (mkF m 65 #[.val (.long q1), .second, .val (.long q2), .second, .val (.long q3), .second, .val (.int p4), .val (.int p5), .val (.ref b242), .val (.int (0 : Int32)), .val (.int (0 : Int32)), .val (.int (1 : Int32))] [])) _
            refine XS.iload X256.here hx rfl (hb hby at_65) rfl ?_
            show Steps p.tables e below (T256.setTop (mkF m 67 #[.val (.long q1), .second, .val (.long q2), .second, .val (.long q3), .second, .val (.int p4), .val (.int p5), .val (.ref b242), .val (.int (0 : Int32)), .val (.int (0 : Int32)), .val (.int (1 : Int32))] [(.int (0 : Int32))])) _
            refine XS.iconst X256.here hx rfl (hb hby at_67) ?_
            show Steps p.tables e below (T256.setTop (mkF m 68 #[.val (.long q1), .second, .val (.long q2), .second, .val (.long q3), .second, .val (.int p4), .val (.int p5), .val (.ref b242), .val (.int (0 : Int32)), .val (.int (0 : Int32)), .val (.int (1 : Int32))] [(.int (1 : Int32)), (.int (0 : Int32))])) _
            refine XS.icmpYes X256.here hx rfl (pc0 := 68) (pc' := 79) rfl (hb hby at_68) rfl (flt (by decide : ¬ ((1 : Int32) < (0 : Int32)))).2.2.2 (by decide) (by decide) ?_
            show Steps p.tables e below (T256.setTop (mkF m 79 #[.val (.long q1), .second, .val (.long q2), .second, .val (.long q3), .second, .val (.int p4), .val (.int p5), .val (.ref b242), .val (.int (0 : Int32)), .val (.int (0 : Int32)), .val (.int (1 : Int32))] [])) _
            refine XS.iload X256.here hx rfl (hb hby at_79) rfl ?_
            show Steps p.tables e below (T256.setTop (mkF m 81 #[.val (.long q1), .second, .val (.long q2), .second, .val (.long q3), .second, .val (.int p4), .val (.int p5), .val (.ref b242), .val (.int (0 : Int32)), .val (.int (0 : Int32)), .val (.int (1 : Int32))] [(.int (0 : Int32))])) _
            refine XS.iconst X256.here hx rfl (hb hby at_81) ?_
            show Steps p.tables e below (T256.setTop (mkF m 82 #[.val (.long q1), .second, .val (.long q2), .second, .val (.long q3), .second, .val (.int p4), .val (.int p5), .val (.ref b242), .val (.int (0 : Int32)), .val (.int (0 : Int32)), .val (.int (1 : Int32))] [(.int (2 : Int32)), (.int (0 : Int32))])) _
            refine XS.icmpYes X256.here hx rfl (pc0 := 82) (pc' := 94) rfl (hb hby at_82) rfl (flt (by decide : ¬ ((2 : Int32) < (0 : Int32)))).2.2.2 (by decide) (by decide) ?_
            show Steps p.tables e below (T256.setTop (mkF m 94 #[.val (.long q1), .second, .val (.long q2), .second, .val (.long q3), .second, .val (.int p4), .val (.int p5), .val (.ref b242), .val (.int (0 : Int32)), .val (.int (0 : Int32)), .val (.int (1 : Int32))] [])) _
            refine XS.iload X256.here hx rfl (hb hby at_94) rfl ?_
            show Steps p.tables e below (T256.setTop (mkF m 96 #[.val (.long q1), .second, .val (.long q2), .second, .val (.long q3), .second, .val (.int p4), .val (.int p5), .val (.ref b242), .val (.int (0 : Int32)), .val (.int (0 : Int32)), .val (.int (1 : Int32))] [(.int (1 : Int32))])) _
            refine XS.ifNo X256.here hx rfl (hb hby at_96) rfl ((if0 _ _).trans (feq (by decide : ¬ ((1 : Int32) = (0 : Int32)))).1) ?_
            show Steps p.tables e below (T256.setTop (mkF m 99 #[.val (.long q1), .second, .val (.long q2), .second, .val (.long q3), .second, .val (.int p4), .val (.int p5), .val (.ref b242), .val (.int (0 : Int32)), .val (.int (0 : Int32)), .val (.int (1 : Int32))] [])) _
            refine XS.aload X256.here hx rfl (hb hby at_99) rfl rfl ?_
            show Steps p.tables e below (T256.setTop (mkF m 101 #[.val (.long q1), .second, .val (.long q2), .second, .val (.long q3), .second, .val (.int p4), .val (.int p5), .val (.ref b242), .val (.int (0 : Int32)), .val (.int (0 : Int32)), .val (.int (1 : Int32))] [(.ref b242)])) _
            refine st257.trans ?_
            show Steps p.tables e below (T257.setTop (mkF m 104 #[.val (.long q1), .second, .val (.long q2), .second, .val (.long q3), .second, .val (.int p4), .val (.int p5), .val (.ref b242), .val (.int (0 : Int32)), .val (.int (0 : Int32)), .val (.int (1 : Int32))] [(.int (0 : Int32))])) _
            refine XS.ifNo X257.here hx rfl (hb hby at_104) rfl ((if0 _ _).trans (teq (by decide : (0 : Int32) = (0 : Int32))).2) ?_
            show Steps p.tables e below (T257.setTop (mkF m 107 #[.val (.long q1), .second, .val (.long q2), .second, .val (.long q3), .second, .val (.int p4), .val (.int p5), .val (.ref b242), .val (.int (0 : Int32)), .val (.int (0 : Int32)), .val (.int (1 : Int32))] [])) _
            refine XS.aload X257.here hx rfl (hb hby at_107) rfl rfl ?_
            show Steps p.tables e below (T257.setTop (mkF m 109 #[.val (.long q1), .second, .val (.long q2), .second, .val (.long q3), .second, .val (.int p4), .val (.int p5), .val (.ref b242), .val (.int (0 : Int32)), .val (.int (0 : Int32)), .val (.int (1 : Int32))] [(.ref b242)])) _
            refine st258.trans ?_
            show Steps p.tables e below (T258.setTop (mkF m 112 #[.val (.long q1), .second, .val (.long q2), .second, .val (.long q3), .second, .val (.int p4), .val (.int p5), .val (.ref b242), .val (.int (0 : Int32)), .val (.int (0 : Int32)), .val (.int (1 : Int32))] [(.int (0 : Int32))])) _
            refine XS.iload X258.here hx rfl (hb hby at_112) rfl ?_
            show Steps p.tables e below (T258.setTop (mkF m 114 #[.val (.long q1), .second, .val (.long q2), .second, .val (.long q3), .second, .val (.int p4), .val (.int p5), .val (.ref b242), .val (.int (0 : Int32)), .val (.int (0 : Int32)), .val (.int (1 : Int32))] [(.int (0 : Int32)), (.int (0 : Int32))])) _
            refine XS.icmpNo X258.here hx rfl (hb hby at_114) rfl (teq (by decide : (0 : Int32) = (0 : Int32))).2 ?_
            show Steps p.tables e below (T258.setTop (mkF m 117 #[.val (.long q1), .second, .val (.long q2), .second, .val (.long q3), .second, .val (.int p4), .val (.int p5), .val (.ref b242), .val (.int (0 : Int32)), .val (.int (0 : Int32)), .val (.int (1 : Int32))] [])) _
            refine XS.iconst X258.here hx rfl (hb hby at_117) ?_
            show Steps p.tables e below (T258.setTop (mkF m 118 #[.val (.long q1), .second, .val (.long q2), .second, .val (.long q3), .second, .val (.int p4), .val (.int p5), .val (.ref b242), .val (.int (0 : Int32)), .val (.int (0 : Int32)), .val (.int (1 : Int32))] [(.int (1 : Int32))])) _
            refine XS.goto X258.here hx rfl (pc0 := 118) (pc' := 122) rfl (hb hby at_118) (by decide) (by decide) ?_
            show Steps p.tables e below (T258.setTop (mkF m 122 #[.val (.long q1), .second, .val (.long q2), .second, .val (.long q3), .second, .val (.int p4), .val (.int p5), .val (.ref b242), .val (.int (0 : Int32)), .val (.int (0 : Int32)), .val (.int (1 : Int32))] [(.int (1 : Int32))])) _
            refine XS.istore X258.here hx rfl (hb hby at_122) rfl (l' := #[.val (.long q1), .second, .val (.long q2), .second, .val (.long q3), .second, .val (.int p4), .val (.int p5), .val (.ref b242), .val (.int (0 : Int32)), .val (.int (0 : Int32)), .val (.int (1 : Int32))]) rfl ?_
            show Steps p.tables e below (T258.setTop (mkF m 124 #[.val (.long q1), .second, .val (.long q2), .second, .val (.long q3), .second, .val (.int p4), .val (.int p5), .val (.ref b242), .val (.int (0 : Int32)), .val (.int (0 : Int32)), .val (.int (1 : Int32))] [])) _
            refine XS.iload X258.here hx rfl (hb hby at_124) rfl ?_
            show Steps p.tables e below (T258.setTop (mkF m 126 #[.val (.long q1), .second, .val (.long q2), .second, .val (.long q3), .second, .val (.int p4), .val (.int p5), .val (.ref b242), .val (.int (0 : Int32)), .val (.int (0 : Int32)), .val (.int (1 : Int32))] [(.int (0 : Int32))])) _
            refine XS.ifYes X258.here hx rfl (pc0 := 126) (pc' := 162) rfl (hb hby at_126) rfl ((if0 _ _).trans (teq (by decide : (0 : Int32) = (0 : Int32))).1) (by decide) (by decide) ?_
            show Steps p.tables e below (T258.setTop (mkF m 162 #[.val (.long q1), .second, .val (.long q2), .second, .val (.long q3), .second, .val (.int p4), .val (.int p5), .val (.ref b242), .val (.int (0 : Int32)), .val (.int (0 : Int32)), .val (.int (1 : Int32))] [])) _
            refine XS.iload X258.here hx rfl (hb hby at_162) rfl ?_
            show Steps p.tables e below (T258.setTop (mkF m 164 #[.val (.long q1), .second, .val (.long q2), .second, .val (.long q3), .second, .val (.int p4), .val (.int p5), .val (.ref b242), .val (.int (0 : Int32)), .val (.int (0 : Int32)), .val (.int (1 : Int32))] [(.int (1 : Int32))])) _
            exact retN X258 hx (t := .boolean) Bd.returns (by simp) (hb hby at_164) hr
          · show Q0 Z q1 q2 q3 p4 p5 h0 n0 _ T258.heap _
            rw [P258_0]
            exact ⟨rfl, N258⟩
        · obtain ⟨cq259, kq259, q259a, q259b, q259c⟩ := isOf hZ0 rfl f252
          obtain ⟨_, _, ⟨T259, L259, k259, n259⟩, -, X259, ⟨Lc259, hQ259, l259, y259, z259⟩, st259⟩ := X250.virtualBack hx (y := (⟨"holdfast/CountedIds$Batch", "full", "()Z"⟩ : MethodName)) (z := (⟨"holdfast/CountedIds$Batch", "full", "()Z"⟩ : MethodName)) hown0 (mvT hZ0 (hw _ (List.mem_of_getElem? (i := 23) rfl))) (mvT hZ0 (hw _ (List.mem_of_getElem? (i := 24) rfl))) (notFace_of_selects (args := #[]) (mvT hZ0 (hw _ (List.mem_of_getElem? (i := 26) rfl)))) (mvT hZ0 (hw _ (List.mem_of_getElem? (i := 26) rfl))) (mvT hZ0 (hw _ (List.mem_of_getElem? (i := 25) rfl))) (by decide) (backOf (W := 0) (rm3 l Z a0 hw [] b242 (0 : Int32) T250.heap n0 Zs250 P250_6 (by decide)) hZ0 (hw _ (List.mem_of_getElem? (i := 27) rfl)) (hw _ (List.mem_of_getElem? (i := 2) rfl)) (by decide) (by decide)) q259a q259c (g := (mkF m 31 #[.val (.long q1), .second, .val (.long q2), .second, .val (.long q3), .second, .val (.int p4), .val (.int p5), .val (.ref b242), .val (.int (0 : Int32)), .val (.int (1 : Int32)), .unset] [(.ref b242)])) rfl (by rw [hml]; rfl) (Steps.refl _) (argsL := []) (rest := []) (lenOf pd_2 rfl) rfl (by show 2 * 0 + _ ≤ _; exact Nat.le_of_eq rfl) (hb hby at_31) (fun _ _ => ⟨rfl, rfl, (by decide : 5 + 0 ≤ _), (by decide : 262 + 0 ≤ _)⟩)
          dsimp only [Pt.U, Pt.locs, Pt.cells, Pt.slots] at X259 l259 y259 z259 st259 hQ259
          subst l259 y259 z259
          obtain ⟨rfl, N259q, P259_0⟩ := hQ259
          have N259 := Fr.app N250 N259q
          obtain ⟨cq260, kq260, q260a, q260b, q260c⟩ := isOf hZ0 P259_0 f252
          obtain ⟨_, _, ⟨T260, L260, k260, n260⟩, -, X260, ⟨Lc260, hQ260, l260, y260, z260⟩, st260⟩ := X259.virtualBack hx (y := (⟨"holdfast/CountedIds$Batch", "size", "()I"⟩ : MethodName)) (z := (⟨"holdfast/CountedIds$Batch", "size", "()I"⟩ : MethodName)) hown0 (mvT hZ0 (hw _ (List.mem_of_getElem? (i := 31) rfl))) (mvT hZ0 (hw _ (List.mem_of_getElem? (i := 32) rfl))) (notFace_of_selects (args := #[]) (mvT hZ0 (hw _ (List.mem_of_getElem? (i := 34) rfl)))) (mvT hZ0 (hw _ (List.mem_of_getElem? (i := 34) rfl))) (mvT hZ0 (hw _ (List.mem_of_getElem? (i := 33) rfl))) (by decide) (backOf (W := 0) (rm4 l Z a0 hw [] b242 (0 : Int32) T250.heap n0 Zs250 P250_6) hZ0 (hw _ (List.mem_of_getElem? (i := 35) rfl)) (hw _ (List.mem_of_getElem? (i := 2) rfl)) (by decide) (by decide)) q260a q260c (g := (mkF m 39 #[.val (.long q1), .second, .val (.long q2), .second, .val (.long q3), .second, .val (.int p4), .val (.int p5), .val (.ref b242), .val (.int (0 : Int32)), .val (.int (1 : Int32)), .unset] [(.ref b242)])) rfl (by rw [hml]; rfl) (Steps.refl _) (argsL := []) (rest := []) (lenOf pd_3 rfl) rfl (by show 2 * 0 + _ ≤ _; exact Nat.le_of_eq rfl) (hb hby at_39) (fun _ _ => ⟨rfl, P259_0, (by decide : 5 + 0 ≤ _), (by decide : 262 + 0 ≤ _)⟩)
          dsimp only [Pt.U, Pt.locs, Pt.cells, Pt.slots] at X260 l260 y260 z260 st260 hQ260
          subst l260 y260 z260
          obtain ⟨rfl, N260q, P260_0⟩ := hQ260
          have N260 := Fr.app N259 N260q
          obtain ⟨cq261, kq261, q261a, q261b, q261c⟩ := isOf hZ0 P260_0 f252
          obtain ⟨_, _, ⟨T261, L261, k261, n261⟩, -, X261, ⟨Lc261, hQ261, l261, y261, z261⟩, st261⟩ := X260.virtualBack hx (y := (⟨"holdfast/CountedIds$Batch", "full", "()Z"⟩ : MethodName)) (z := (⟨"holdfast/CountedIds$Batch", "full", "()Z"⟩ : MethodName)) hown0 (mvT hZ0 (hw _ (List.mem_of_getElem? (i := 23) rfl))) (mvT hZ0 (hw _ (List.mem_of_getElem? (i := 24) rfl))) (notFace_of_selects (args := #[]) (mvT hZ0 (hw _ (List.mem_of_getElem? (i := 26) rfl)))) (mvT hZ0 (hw _ (List.mem_of_getElem? (i := 26) rfl))) (mvT hZ0 (hw _ (List.mem_of_getElem? (i := 25) rfl))) (by decide) (backOf (W := 0) (rm3 l Z a0 hw [] b242 (0 : Int32) T250.heap n0 Zs250 P250_6 (by decide)) hZ0 (hw _ (List.mem_of_getElem? (i := 27) rfl)) (hw _ (List.mem_of_getElem? (i := 2) rfl)) (by decide) (by decide)) q261a q261c (g := (mkF m 101 #[.val (.long q1), .second, .val (.long q2), .second, .val (.long q3), .second, .val (.int p4), .val (.int p5), .val (.ref b242), .val (.int (0 : Int32)), .val (.int (1 : Int32)), .val (.int (1 : Int32))] [(.ref b242)])) rfl (by rw [hml]; rfl) (Steps.refl _) (argsL := []) (rest := []) (lenOf pd_2 rfl) rfl (by show 2 * 0 + _ ≤ _; exact Nat.le_of_eq rfl) (hb hby at_101) (fun _ _ => ⟨rfl, P260_0, (by decide : 5 + 0 ≤ _), (by decide : 262 + 0 ≤ _)⟩)
          dsimp only [Pt.U, Pt.locs, Pt.cells, Pt.slots] at X261 l261 y261 z261 st261 hQ261
          subst l261 y261 z261
          obtain ⟨rfl, N261q, P261_0⟩ := hQ261
          have N261 := Fr.app N260 N261q
          obtain ⟨cq262, kq262, q262a, q262b, q262c⟩ := isOf hZ0 P261_0 f252
          obtain ⟨_, _, ⟨T262, L262, k262, n262⟩, -, X262, ⟨Lc262, hQ262, l262, y262, z262⟩, st262⟩ := X261.virtualBack hx (y := (⟨"holdfast/CountedIds$Batch", "size", "()I"⟩ : MethodName)) (z := (⟨"holdfast/CountedIds$Batch", "size", "()I"⟩ : MethodName)) hown0 (mvT hZ0 (hw _ (List.mem_of_getElem? (i := 31) rfl))) (mvT hZ0 (hw _ (List.mem_of_getElem? (i := 32) rfl))) (notFace_of_selects (args := #[]) (mvT hZ0 (hw _ (List.mem_of_getElem? (i := 34) rfl)))) (mvT hZ0 (hw _ (List.mem_of_getElem? (i := 34) rfl))) (mvT hZ0 (hw _ (List.mem_of_getElem? (i := 33) rfl))) (by decide) (backOf (W := 0) (rm4 l Z a0 hw [] b242 (0 : Int32) T250.heap n0 Zs250 P250_6) hZ0 (hw _ (List.mem_of_getElem? (i := 35) rfl)) (hw _ (List.mem_of_getElem? (i := 2) rfl)) (by decide) (by decide)) q262a q262c (g := (mkF m 109 #[.val (.long q1), .second, .val (.long q2), .second, .val (.long q3), .second, .val (.int p4), .val (.int p5), .val (.ref b242), .val (.int (0 : Int32)), .val (.int (1 : Int32)), .val (.int (1 : Int32))] [(.ref b242)])) rfl (by rw [hml]; rfl) (Steps.refl _) (argsL := []) (rest := []) (lenOf pd_3 rfl) rfl (by show 2 * 0 + _ ≤ _; exact Nat.le_of_eq rfl) (hb hby at_109) (fun _ _ => ⟨rfl, P261_0, (by decide : 5 + 0 ≤ _), (by decide : 262 + 0 ≤ _)⟩)
          dsimp only [Pt.U, Pt.locs, Pt.cells, Pt.slots] at X262 l262 y262 z262 st262 hQ262
          subst l262 y262 z262
          obtain ⟨rfl, N262q, P262_0⟩ := hQ262
          have N262 := Fr.app N261 N262q
          obtain ⟨cq263, kq263, q263a, q263b, q263c⟩ := isOf hZ0 P262_0 f252
          obtain ⟨_, _, ⟨T263, L263, k263, n263⟩, -, X263, ⟨Lc263, hQ263, l263, y263, z263⟩, st263⟩ := X262.virtualBack hx (y := (⟨"holdfast/CountedIds$Batch", "clear", "()V"⟩ : MethodName)) (z := (⟨"holdfast/CountedIds$Batch", "clear", "()V"⟩ : MethodName)) hown0 (mvT hZ0 (hw _ (List.mem_of_getElem? (i := 50) rfl))) (mvT hZ0 (hw _ (List.mem_of_getElem? (i := 51) rfl))) (notFace_of_selects (args := #[]) (mvT hZ0 (hw _ (List.mem_of_getElem? (i := 53) rfl)))) (mvT hZ0 (hw _ (List.mem_of_getElem? (i := 53) rfl))) (mvT hZ0 (hw _ (List.mem_of_getElem? (i := 52) rfl))) (by decide) (backOf (W := 0) (rm7 l Z a0 hw [] b242 d_250 t_250 (1 : Int32) (0 : Int32) T250.heap n0 Zs250 f252 gn_b242 P250_4 P250_5 P250_6 P250_7) hZ0 (hw _ (List.mem_of_getElem? (i := 54) rfl)) (hw _ (List.mem_of_getElem? (i := 2) rfl)) (by decide) (by decide)) q263a q263c (g := (mkF m 131 #[.val (.long q1), .second, .val (.long q2), .second, .val (.long q3), .second, .val (.int p4), .val (.int p5), .val (.ref b242), .val (.int (0 : Int32)), .val (.int (1 : Int32)), .val (.int (1 : Int32))] [(.ref b242)])) rfl (by rw [hml]; rfl) (Steps.refl _) (argsL := []) (rest := []) (lenOf pd_1 rfl) rfl (by show 2 * 0 + _ ≤ _; exact Nat.le_of_eq rfl) (hb hby at_131) (fun _ _ => ⟨rfl, P262_0, (by decide : 5 + 0 ≤ _), (by decide : 262 + 0 ≤ _)⟩)
          dsimp only [Pt.U, Pt.locs, Pt.cells, Pt.slots] at X263 l263 y263 z263 st263 hQ263
          subst l263 y263 z263
          obtain ⟨rfl, N263q, P263_0, P263_1, P263_2, P263_3, P263_4⟩ := hQ263
          have N263 := Fr.app N262 N263q
          have f264 : Old Z n0 T263.heap := f251.keep P263_0 (allS gn_b242 all0)
          have f265 : Exa Z T263.heap b242 "holdfast/CountedIds$Batch" := f252.keep P263_0
          have f266 : Arv Z T263.heap d_250 kd_250 (.array .long) (64 : Int32) [.null] .null := P250_8.keep P263_0 (ninS (Ne.symm ne_b242_d_250) nin0)
          have f267 : Arv Z T263.heap t_250 kt_250 (.array .int) (64 : Int32) [.null] .null := P250_9.keep P263_0 (ninS (Ne.symm ne_b242_t_250) nin0)
          have Zs263 : n0 ≤ T263.heap.size := Nat.le_trans Zs250 P263_0.1
          obtain ⟨cq268, kq268, q268a, q268b, q268c⟩ := isOf hZ0 rfl f265
          obtain ⟨_, _, ⟨T268, L268, k268, n268⟩, -, X268, ⟨Lc268, hQ268, l268, y268, z268⟩, st268⟩ := X263.virtualBack hx (y := (⟨"holdfast/CountedIds$Batch", "full", "()Z"⟩ : MethodName)) (z := (⟨"holdfast/CountedIds$Batch", "full", "()Z"⟩ : MethodName)) hown0 (mvT hZ0 (hw _ (List.mem_of_getElem? (i := 23) rfl))) (mvT hZ0 (hw _ (List.mem_of_getElem? (i := 24) rfl))) (notFace_of_selects (args := #[]) (mvT hZ0 (hw _ (List.mem_of_getElem? (i := 26) rfl)))) (mvT hZ0 (hw _ (List.mem_of_getElem? (i := 26) rfl))) (mvT hZ0 (hw _ (List.mem_of_getElem? (i := 25) rfl))) (by decide) (backOf (W := 0) (rm3 l Z a0 hw [] b242 (0 : Int32) T263.heap n0 Zs263 P263_3 (by decide)) hZ0 (hw _ (List.mem_of_getElem? (i := 27) rfl)) (hw _ (List.mem_of_getElem? (i := 2) rfl)) (by decide) (by decide)) q268a q268c (g := (mkF m 141 #[.val (.long q1), .second, .val (.long q2), .second, .val (.long q3), .second, .val (.int p4), .val (.int p5), .val (.ref b242), .val (.int (0 : Int32)), .val (.int (1 : Int32)), .val (.int (1 : Int32))] [(.ref b242)])) rfl (by rw [hml]; rfl) (Steps.refl _) (argsL := []) (rest := []) (lenOf pd_2 rfl) rfl (by show 2 * 0 + _ ≤ _; exact Nat.le_of_eq rfl) (hb hby at_141) (fun _ _ => ⟨rfl, rfl, (by decide : 5 + 0 ≤ _), (by decide : 262 + 0 ≤ _)⟩)
          dsimp only [Pt.U, Pt.locs, Pt.cells, Pt.slots] at X268 l268 y268 z268 st268 hQ268
          subst l268 y268 z268
          obtain ⟨rfl, N268q, P268_0⟩ := hQ268
          have N268 := Fr.app N263 N268q
          obtain ⟨cq269, kq269, q269a, q269b, q269c⟩ := isOf hZ0 P268_0 f265
          obtain ⟨_, _, ⟨T269, L269, k269, n269⟩, -, X269, ⟨Lc269, hQ269, l269, y269, z269⟩, st269⟩ := X268.virtualBack hx (y := (⟨"holdfast/CountedIds$Batch", "size", "()I"⟩ : MethodName)) (z := (⟨"holdfast/CountedIds$Batch", "size", "()I"⟩ : MethodName)) hown0 (mvT hZ0 (hw _ (List.mem_of_getElem? (i := 31) rfl))) (mvT hZ0 (hw _ (List.mem_of_getElem? (i := 32) rfl))) (notFace_of_selects (args := #[]) (mvT hZ0 (hw _ (List.mem_of_getElem? (i := 34) rfl)))) (mvT hZ0 (hw _ (List.mem_of_getElem? (i := 34) rfl))) (mvT hZ0 (hw _ (List.mem_of_getElem? (i := 33) rfl))) (by decide) (backOf (W := 0) (rm4 l Z a0 hw [] b242 (0 : Int32) T263.heap n0 Zs263 P263_3) hZ0 (hw _ (List.mem_of_getElem? (i := 35) rfl)) (hw _ (List.mem_of_getElem? (i := 2) rfl)) (by decide) (by decide)) q269a q269c (g := (mkF m 149 #[.val (.long q1), .second, .val (.long q2), .second, .val (.long q3), .second, .val (.int p4), .val (.int p5), .val (.ref b242), .val (.int (0 : Int32)), .val (.int (1 : Int32)), .val (.int (1 : Int32))] [(.ref b242)])) rfl (by rw [hml]; rfl) (Steps.refl _) (argsL := []) (rest := []) (lenOf pd_3 rfl) rfl (by show 2 * 0 + _ ≤ _; exact Nat.le_of_eq rfl) (hb hby at_149) (fun _ _ => ⟨rfl, P268_0, (by decide : 5 + 0 ≤ _), (by decide : 262 + 0 ≤ _)⟩)
          dsimp only [Pt.U, Pt.locs, Pt.cells, Pt.slots] at X269 l269 y269 z269 st269 hQ269
          subst l269 y269 z269
          obtain ⟨rfl, N269q, P269_0⟩ := hQ269
          have N269 := Fr.app N268 N269q
          obtain ⟨fs, hr, hrun, hended, hW, hsame⟩ := X269.leave (v := some (.int (1 : Int32))) (fun h => by rw [Bd.returns] at h; cases h) hlk
          refine ⟨_, _, pre0 _ ?_, hrun, hended, _, _, rfl, ?_, ⟨_, rfl⟩, hW, hsame.mono (by decide) (by decide)⟩
          · refine pr253 _ ?_
            show Steps p.tables e below (T250.setTop (mkF m 19 #[.val (.long q1), .second, .val (.long q2), .second, .val (.long q3), .second, .val (.int p4), .val (.int p5), .val (.ref b242), .val (.int (0 : Int32)), .unset, .unset] [(.int (p5 &&& (4 : Int32)))])) _
            refine XS.ifNo X250.here hx rfl (hb hby at_19) rfl ((if0 _ _).trans (feq hc254).1) ?_
            show Steps p.tables e below (T250.setTop (mkF m 22 #[.val (.long q1), .second, .val (.long q2), .second, .val (.long q3), .second, .val (.int p4), .val (.int p5), .val (.ref b242), .val (.int (0 : Int32)), .unset, .unset] [])) _
            refine XS.iconst X250.here hx rfl (hb hby at_22) ?_
            show Steps p.tables e below (T250.setTop (mkF m 23 #[.val (.long q1), .second, .val (.long q2), .second, .val (.long q3), .second, .val (.int p4), .val (.int p5), .val (.ref b242), .val (.int (0 : Int32)), .unset, .unset] [(.int (1 : Int32))])) _
            refine XS.goto X250.here hx rfl (pc0 := 23) (pc' := 27) rfl (hb hby at_23) (by decide) (by decide) ?_
            show Steps p.tables e below (T250.setTop (mkF m 27 #[.val (.long q1), .second, .val (.long q2), .second, .val (.long q3), .second, .val (.int p4), .val (.int p5), .val (.ref b242), .val (.int (0 : Int32)), .unset, .unset] [(.int (1 : Int32))])) _
            refine XS.istore X250.here hx rfl (hb hby at_27) rfl (l' := #[.val (.long q1), .second, .val (.long q2), .second, .val (.long q3), .second, .val (.int p4), .val (.int p5), .val (.ref b242), .val (.int (0 : Int32)), .val (.int (1 : Int32)), .unset]) rfl ?_
            show Steps p.tables e below (T250.setTop (mkF m 29 #[.val (.long q1), .second, .val (.long q2), .second, .val (.long q3), .second, .val (.int p4), .val (.int p5), .val (.ref b242), .val (.int (0 : Int32)), .val (.int (1 : Int32)), .unset] [])) _
            refine XS.aload X250.here hx rfl (hb hby at_29) rfl rfl ?_
            show Steps p.tables e below (T250.setTop (mkF m 31 #[.val (.long q1), .second, .val (.long q2), .second, .val (.long q3), .second, .val (.int p4), .val (.int p5), .val (.ref b242), .val (.int (0 : Int32)), .val (.int (1 : Int32)), .unset] [(.ref b242)])) _
            refine st259.trans ?_
            show Steps p.tables e below (T259.setTop (mkF m 34 #[.val (.long q1), .second, .val (.long q2), .second, .val (.long q3), .second, .val (.int p4), .val (.int p5), .val (.ref b242), .val (.int (0 : Int32)), .val (.int (1 : Int32)), .unset] [(.int (0 : Int32))])) _
            refine XS.ifNo X259.here hx rfl (hb hby at_34) rfl ((if0 _ _).trans (teq (by decide : (0 : Int32) = (0 : Int32))).2) ?_
            show Steps p.tables e below (T259.setTop (mkF m 37 #[.val (.long q1), .second, .val (.long q2), .second, .val (.long q3), .second, .val (.int p4), .val (.int p5), .val (.ref b242), .val (.int (0 : Int32)), .val (.int (1 : Int32)), .unset] [])) _
            refine XS.aload X259.here hx rfl (hb hby at_37) rfl rfl ?_
            show Steps p.tables e below (T259.setTop (mkF m 39 #[.val (.long q1), .second, .val (.long q2), .second, .val (.long q3), .second, .val (.int p4), .val (.int p5), .val (.ref b242), .val (.int (0 : Int32)), .val (.int (1 : Int32)), .unset] [(.ref b242)])) _
            refine st260.trans ?_
            show Steps p.tables e below (T260.setTop (mkF m 42 #[.val (.long q1), .second, .val (.long q2), .second, .val (.long q3), .second, .val (.int p4), .val (.int p5), .val (.ref b242), .val (.int (0 : Int32)), .val (.int (1 : Int32)), .unset] [(.int (0 : Int32))])) _
            refine XS.ifNo X260.here hx rfl (hb hby at_42) rfl ((if0 _ _).trans (teq (by decide : (0 : Int32) = (0 : Int32))).2) ?_
            show Steps p.tables e below (T260.setTop (mkF m 45 #[.val (.long q1), .second, .val (.long q2), .second, .val (.long q3), .second, .val (.int p4), .val (.int p5), .val (.ref b242), .val (.int (0 : Int32)), .val (.int (1 : Int32)), .unset] [])) _
            refine XS.iconst X260.here hx rfl (hb hby at_45) ?_
            show Steps p.tables e below (T260.setTop (mkF m 46 #[.val (.long q1), .second, .val (.long q2), .second, .val (.long q3), .second, .val (.int p4), .val (.int p5), .val (.ref b242), .val (.int (0 : Int32)), .val (.int (1 : Int32)), .unset] [(.int (1 : Int32))])) _
            refine XS.goto X260.here hx rfl (pc0 := 46) (pc' := 50) rfl (hb hby at_46) (by decide) (by decide) ?_
            show Steps p.tables e below (T260.setTop (mkF m 50 #[.val (.long q1), .second, .val (.long q2), .second, .val (.long q3), .second, .val (.int p4), .val (.int p5), .val (.ref b242), .val (.int (0 : Int32)), .val (.int (1 : Int32)), .unset] [(.int (1 : Int32))])) _
            refine XS.istore X260.here hx rfl (hb hby at_50) rfl (l' := #[.val (.long q1), .second, .val (.long q2), .second, .val (.long q3), .second, .val (.int p4), .val (.int p5), .val (.ref b242), .val (.int (0 : Int32)), .val (.int (1 : Int32)), .val (.int (1 : Int32))]) rfl ?_
            show Steps p.tables e below (T260.setTop (mkF m 52 #[.val (.long q1), .second, .val (.long q2), .second, .val (.long q3), .second, .val (.int p4), .val (.int p5), .val (.ref b242), .val (.int (0 : Int32)), .val (.int (1 : Int32)), .val (.int (1 : Int32))] [])) _
            refine XS.iload X260.here hx rfl (hb hby at_52) rfl ?_
            show Steps p.tables e below (T260.setTop (mkF m 54 #[.val (.long q1), .second, .val (.long q2), .second, .val (.long q3), .second, .val (.int p4), .val (.int p5), .val (.ref b242), .val (.int (0 : Int32)), .val (.int (1 : Int32)), .val (.int (1 : Int32))] [(.int (0 : Int32))])) _
            refine XS.ifYes X260.here hx rfl (pc0 := 54) (pc' := 65) rfl (hb hby at_54) rfl ((if0 _ _).trans (flt (by decide : ¬ ((0 : Int32) < (0 : Int32)))).2.2.2) (by decide) (by decide) ?_
            show Steps p.tables e below (T260.setTop (mkF m 65 #[.val (.long q1), .second, .val (.long q2), .second, .val (.long q3), .second, .val (.int p4), .val (.int p5), .val (.ref b242), .val (.int (0 : Int32)), .val (.int (1 : Int32)), .val (.int (1 : Int32))] [])) _
            refine XS.iload X260.here hx rfl (hb hby at_65) rfl ?_
            show Steps p.tables e below (T260.setTop (mkF m 67 #[.val (.long q1), .second, .val (.long q2), .second, .val (.long q3), .second, .val (.int p4), .val (.int p5), .val (.ref b242), .val (.int (0 : Int32)), .val (.int (1 : Int32)), .val (.int (1 : Int32))] [(.int (0 : Int32))])) _
            refine XS.iconst X260.here hx rfl (hb hby at_67) ?_
            show Steps p.tables e below (T260.setTop (mkF m 68 #[.val (.long q1), .second, .val (.long q2), .second, .val (.long q3), .second, .val (.int p4), .val (.int p5), .val (.ref b242), .val (.int (0 : Int32)), .val (.int (1 : Int32)), .val (.int (1 : Int32))] [(.int (1 : Int32)), (.int (0 : Int32))])) _
            refine XS.icmpYes X260.here hx rfl (pc0 := 68) (pc' := 79) rfl (hb hby at_68) rfl (flt (by decide : ¬ ((1 : Int32) < (0 : Int32)))).2.2.2 (by decide) (by decide) ?_
            show Steps p.tables e below (T260.setTop (mkF m 79 #[.val (.long q1), .second, .val (.long q2), .second, .val (.long q3), .second, .val (.int p4), .val (.int p5), .val (.ref b242), .val (.int (0 : Int32)), .val (.int (1 : Int32)), .val (.int (1 : Int32))] [])) _
            refine XS.iload X260.here hx rfl (hb hby at_79) rfl ?_
            show Steps p.tables e below (T260.setTop (mkF m 81 #[.val (.long q1), .second, .val (.long q2), .second, .val (.long q3), .second, .val (.int p4), .val (.int p5), .val (.ref b242), .val (.int (0 : Int32)), .val (.int (1 : Int32)), .val (.int (1 : Int32))] [(.int (0 : Int32))])) _
            refine XS.iconst X260.here hx rfl (hb hby at_81) ?_
            show Steps p.tables e below (T260.setTop (mkF m 82 #[.val (.long q1), .second, .val (.long q2), .second, .val (.long q3), .second, .val (.int p4), .val (.int p5), .val (.ref b242), .val (.int (0 : Int32)), .val (.int (1 : Int32)), .val (.int (1 : Int32))] [(.int (2 : Int32)), (.int (0 : Int32))])) _
            refine XS.icmpYes X260.here hx rfl (pc0 := 82) (pc' := 94) rfl (hb hby at_82) rfl (flt (by decide : ¬ ((2 : Int32) < (0 : Int32)))).2.2.2 (by decide) (by decide) ?_
            show Steps p.tables e below (T260.setTop (mkF m 94 #[.val (.long q1), .second, .val (.long q2), .second, .val (.long q3), .second, .val (.int p4), .val (.int p5), .val (.ref b242), .val (.int (0 : Int32)), .val (.int (1 : Int32)), .val (.int (1 : Int32))] [])) _
            refine XS.iload X260.here hx rfl (hb hby at_94) rfl ?_
            show Steps p.tables e below (T260.setTop (mkF m 96 #[.val (.long q1), .second, .val (.long q2), .second, .val (.long q3), .second, .val (.int p4), .val (.int p5), .val (.ref b242), .val (.int (0 : Int32)), .val (.int (1 : Int32)), .val (.int (1 : Int32))] [(.int (1 : Int32))])) _
            refine XS.ifNo X260.here hx rfl (hb hby at_96) rfl ((if0 _ _).trans (feq (by decide : ¬ ((1 : Int32) = (0 : Int32)))).1) ?_
            show Steps p.tables e below (T260.setTop (mkF m 99 #[.val (.long q1), .second, .val (.long q2), .second, .val (.long q3), .second, .val (.int p4), .val (.int p5), .val (.ref b242), .val (.int (0 : Int32)), .val (.int (1 : Int32)), .val (.int (1 : Int32))] [])) _
            refine XS.aload X260.here hx rfl (hb hby at_99) rfl rfl ?_
            show Steps p.tables e below (T260.setTop (mkF m 101 #[.val (.long q1), .second, .val (.long q2), .second, .val (.long q3), .second, .val (.int p4), .val (.int p5), .val (.ref b242), .val (.int (0 : Int32)), .val (.int (1 : Int32)), .val (.int (1 : Int32))] [(.ref b242)])) _
            refine st261.trans ?_
            show Steps p.tables e below (T261.setTop (mkF m 104 #[.val (.long q1), .second, .val (.long q2), .second, .val (.long q3), .second, .val (.int p4), .val (.int p5), .val (.ref b242), .val (.int (0 : Int32)), .val (.int (1 : Int32)), .val (.int (1 : Int32))] [(.int (0 : Int32))])) _
            refine XS.ifNo X261.here hx rfl (hb hby at_104) rfl ((if0 _ _).trans (teq (by decide : (0 : Int32) = (0 : Int32))).2) ?_
            show Steps p.tables e below (T261.setTop (mkF m 107 #[.val (.long q1), .second, .val (.long q2), .second, .val (.long q3), .second, .val (.int p4), .val (.int p5), .val (.ref b242), .val (.int (0 : Int32)), .val (.int (1 : Int32)), .val (.int (1 : Int32))] [])) _
            refine XS.aload X261.here hx rfl (hb hby at_107) rfl rfl ?_
            show Steps p.tables e below (T261.setTop (mkF m 109 #[.val (.long q1), .second, .val (.long q2), .second, .val (.long q3), .second, .val (.int p4), .val (.int p5), .val (.ref b242), .val (.int (0 : Int32)), .val (.int (1 : Int32)), .val (.int (1 : Int32))] [(.ref b242)])) _
            refine st262.trans ?_
            show Steps p.tables e below (T262.setTop (mkF m 112 #[.val (.long q1), .second, .val (.long q2), .second, .val (.long q3), .second, .val (.int p4), .val (.int p5), .val (.ref b242), .val (.int (0 : Int32)), .val (.int (1 : Int32)), .val (.int (1 : Int32))] [(.int (0 : Int32))])) _
            refine XS.iload X262.here hx rfl (hb hby at_112) rfl ?_
            show Steps p.tables e below (T262.setTop (mkF m 114 #[.val (.long q1), .second, .val (.long q2), .second, .val (.long q3), .second, .val (.int p4), .val (.int p5), .val (.ref b242), .val (.int (0 : Int32)), .val (.int (1 : Int32)), .val (.int (1 : Int32))] [(.int (0 : Int32)), (.int (0 : Int32))])) _
            refine XS.icmpNo X262.here hx rfl (hb hby at_114) rfl (teq (by decide : (0 : Int32) = (0 : Int32))).2 ?_
            show Steps p.tables e below (T262.setTop (mkF m 117 #[.val (.long q1), .second, .val (.long q2), .second, .val (.long q3), .second, .val (.int p4), .val (.int p5), .val (.ref b242), .val (.int (0 : Int32)), .val (.int (1 : Int32)), .val (.int (1 : Int32))] [])) _
            refine XS.iconst X262.here hx rfl (hb hby at_117) ?_
            show Steps p.tables e below (T262.setTop (mkF m 118 #[.val (.long q1), .second, .val (.long q2), .second, .val (.long q3), .second, .val (.int p4), .val (.int p5), .val (.ref b242), .val (.int (0 : Int32)), .val (.int (1 : Int32)), .val (.int (1 : Int32))] [(.int (1 : Int32))])) _
            refine XS.goto X262.here hx rfl (pc0 := 118) (pc' := 122) rfl (hb hby at_118) (by decide) (by decide) ?_
            show Steps p.tables e below (T262.setTop (mkF m 122 #[.val (.long q1), .second, .val (.long q2), .second, .val (.long q3), .second, .val (.int p4), .val (.int p5), .val (.ref b242), .val (.int (0 : Int32)), .val (.int (1 : Int32)), .val (.int (1 : Int32))] [(.int (1 : Int32))])) _
            refine XS.istore X262.here hx rfl (hb hby at_122) rfl (l' := #[.val (.long q1), .second, .val (.long q2), .second, .val (.long q3), .second, .val (.int p4), .val (.int p5), .val (.ref b242), .val (.int (0 : Int32)), .val (.int (1 : Int32)), .val (.int (1 : Int32))]) rfl ?_
            show Steps p.tables e below (T262.setTop (mkF m 124 #[.val (.long q1), .second, .val (.long q2), .second, .val (.long q3), .second, .val (.int p4), .val (.int p5), .val (.ref b242), .val (.int (0 : Int32)), .val (.int (1 : Int32)), .val (.int (1 : Int32))] [])) _
            refine XS.iload X262.here hx rfl (hb hby at_124) rfl ?_
            show Steps p.tables e below (T262.setTop (mkF m 126 #[.val (.long q1), .second, .val (.long q2), .second, .val (.long q3), .second, .val (.int p4), .val (.int p5), .val (.ref b242), .val (.int (0 : Int32)), .val (.int (1 : Int32)), .val (.int (1 : Int32))] [(.int (1 : Int32))])) _
            refine XS.ifNo X262.here hx rfl (hb hby at_126) rfl ((if0 _ _).trans (feq (by decide : ¬ ((1 : Int32) = (0 : Int32)))).1) ?_
            show Steps p.tables e below (T262.setTop (mkF m 129 #[.val (.long q1), .second, .val (.long q2), .second, .val (.long q3), .second, .val (.int p4), .val (.int p5), .val (.ref b242), .val (.int (0 : Int32)), .val (.int (1 : Int32)), .val (.int (1 : Int32))] [])) _
            refine XS.aload X262.here hx rfl (hb hby at_129) rfl rfl ?_
            show Steps p.tables e below (T262.setTop (mkF m 131 #[.val (.long q1), .second, .val (.long q2), .second, .val (.long q3), .second, .val (.int p4), .val (.int p5), .val (.ref b242), .val (.int (0 : Int32)), .val (.int (1 : Int32)), .val (.int (1 : Int32))] [(.ref b242)])) _
            refine st263.trans ?_
            show Steps p.tables e below (T263.setTop (mkF m 134 #[.val (.long q1), .second, .val (.long q2), .second, .val (.long q3), .second, .val (.int p4), .val (.int p5), .val (.ref b242), .val (.int (0 : Int32)), .val (.int (1 : Int32)), .val (.int (1 : Int32))] [])) _
            refine XS.iload X263.here hx rfl (hb hby at_134) rfl ?_
            show Steps p.tables e below (T263.setTop (mkF m 136 #[.val (.long q1), .second, .val (.long q2), .second, .val (.long q3), .second, .val (.int p4), .val (.int p5), .val (.ref b242), .val (.int (0 : Int32)), .val (.int (1 : Int32)), .val (.int (1 : Int32))] [(.int (1 : Int32))])) _
            refine XS.ifNo X263.here hx rfl (hb hby at_136) rfl ((if0 _ _).trans (feq (by decide : ¬ ((1 : Int32) = (0 : Int32)))).1) ?_
            show Steps p.tables e below (T263.setTop (mkF m 139 #[.val (.long q1), .second, .val (.long q2), .second, .val (.long q3), .second, .val (.int p4), .val (.int p5), .val (.ref b242), .val (.int (0 : Int32)), .val (.int (1 : Int32)), .val (.int (1 : Int32))] [])) _
            refine XS.aload X263.here hx rfl (hb hby at_139) rfl rfl ?_
            show Steps p.tables e below (T263.setTop (mkF m 141 #[.val (.long q1), .second, .val (.long q2), .second, .val (.long q3), .second, .val (.int p4), .val (.int p5), .val (.ref b242), .val (.int (0 : Int32)), .val (.int (1 : Int32)), .val (.int (1 : Int32))] [(.ref b242)])) _
            refine st268.trans ?_
            show Steps p.tables e below (T268.setTop (mkF m 144 #[.val (.long q1), .second, .val (.long q2), .second, .val (.long q3), .second, .val (.int p4), .val (.int p5), .val (.ref b242), .val (.int (0 : Int32)), .val (.int (1 : Int32)), .val (.int (1 : Int32))] [(.int (0 : Int32))])) _
            refine XS.ifNo X268.here hx rfl (hb hby at_144) rfl ((if0 _ _).trans (teq (by decide : (0 : Int32) = (0 : Int32))).2) ?_
            show Steps p.tables e below (T268.setTop (mkF m 147 #[.val (.long q1), .second, .val (.long q2), .second, .val (.long q3), .second, .val (.int p4), .val (.int p5), .val (.ref b242), .val (.int (0 : Int32)), .val (.int (1 : Int32)), .val (.int (1 : Int32))] [])) _
            refine XS.aload X268.here hx rfl (hb hby at_147) rfl rfl ?_
            show Steps p.tables e below (T268.setTop (mkF m 149 #[.val (.long q1), .second, .val (.long q2), .second, .val (.long q3), .second, .val (.int p4), .val (.int p5), .val (.ref b242), .val (.int (0 : Int32)), .val (.int (1 : Int32)), .val (.int (1 : Int32))] [(.ref b242)])) _
            refine st269.trans ?_
            show Steps p.tables e below (T269.setTop (mkF m 152 #[.val (.long q1), .second, .val (.long q2), .second, .val (.long q3), .second, .val (.int p4), .val (.int p5), .val (.ref b242), .val (.int (0 : Int32)), .val (.int (1 : Int32)), .val (.int (1 : Int32))] [(.int (0 : Int32))])) _
            refine XS.ifNo X269.here hx rfl (hb hby at_152) rfl ((if0 _ _).trans (teq (by decide : (0 : Int32) = (0 : Int32))).2) ?_
            show Steps p.tables e below (T269.setTop (mkF m 155 #[.val (.long q1), .second, .val (.long q2), .second, .val (.long q3), .second, .val (.int p4), .val (.int p5), .val (.ref b242), .val (.int (0 : Int32)), .val (.int (1 : Int32)), .val (.int (1 : Int32))] [])) _
            refine XS.iconst X269.here hx rfl (hb hby at_155) ?_
            show Steps p.tables e below (T269.setTop (mkF m 156 #[.val (.long q1), .second, .val (.long q2), .second, .val (.long q3), .second, .val (.int p4), .val (.int p5), .val (.ref b242), .val (.int (0 : Int32)), .val (.int (1 : Int32)), .val (.int (1 : Int32))] [(.int (1 : Int32))])) _
            refine XS.goto X269.here hx rfl (pc0 := 156) (pc' := 160) rfl (hb hby at_156) (by decide) (by decide) ?_
            show Steps p.tables e below (T269.setTop (mkF m 160 #[.val (.long q1), .second, .val (.long q2), .second, .val (.long q3), .second, .val (.int p4), .val (.int p5), .val (.ref b242), .val (.int (0 : Int32)), .val (.int (1 : Int32)), .val (.int (1 : Int32))] [(.int (1 : Int32))])) _
            refine XS.istore X269.here hx rfl (hb hby at_160) rfl (l' := #[.val (.long q1), .second, .val (.long q2), .second, .val (.long q3), .second, .val (.int p4), .val (.int p5), .val (.ref b242), .val (.int (0 : Int32)), .val (.int (1 : Int32)), .val (.int (1 : Int32))]) rfl ?_
            show Steps p.tables e below (T269.setTop (mkF m 162 #[.val (.long q1), .second, .val (.long q2), .second, .val (.long q3), .second, .val (.int p4), .val (.int p5), .val (.ref b242), .val (.int (0 : Int32)), .val (.int (1 : Int32)), .val (.int (1 : Int32))] [])) _
            refine XS.iload X269.here hx rfl (hb hby at_162) rfl ?_
            show Steps p.tables e below (T269.setTop (mkF m 164 #[.val (.long q1), .second, .val (.long q2), .second, .val (.long q3), .second, .val (.int p4), .val (.int p5), .val (.ref b242), .val (.int (0 : Int32)), .val (.int (1 : Int32)), .val (.int (1 : Int32))] [(.int (1 : Int32))])) _
            exact retN X269 hx (t := .boolean) Bd.returns (by simp) (hb hby at_164) hr
          · show Q0 Z q1 q2 q3 p4 p5 h0 n0 _ T269.heap _
            rw [P269_0]
            exact ⟨rfl, N269⟩
set_option maxRecDepth 65536 in
set_option maxHeartbeats 40000000 in
theorem comes_1 {Post : Tables → Env → Array Value → State → Outcome → State → Prop} (hpost : ∀ tb e args s v u, (limb_1_1.after args s (.returned v) u = true ∧ limb_1_2.after args s (.returned v) u = true ∧ True) → FrameEnd s (.returned v) u (Jvm.fieldLocs frame_1_writes args s ++ Jvm.arrayLocs frame_1_arrays args s ++ Jvm.staticLocs frame_1_statics s) 24 66176 → Post tb e args s (.returned v) u) :
    ArmFor flags0 classFile x code maxLocals ret World_1 tables_1 room_1 Calls_1 rest_1 Pre_1 Post := by
  intro l hfl _ _ p e ha hc hk s m args below hf hA hF happ hP
  obtain ⟨hcalls, hrest, hpre⟩ := hP
  obtain ⟨-, -, -, hnamed, -, -, -, hat⟩ := (Spec.applies_iff hf).mp happ
  obtain ⟨hg, hn⟩ := and_e (Cond.before_iff.mp (show (Jvm.Cond.and given_1 narrow_1).before args s = true from hpre))
  obtain ⟨gg1, gg2⟩ := and_e hg
  obtain ⟨gg3, gg4⟩ := and_e gg2
  obtain ⟨gg5, gg6⟩ := and_e gg4
  obtain ⟨gg7, gg8⟩ := and_e gg6
  obtain ⟨gg9, gg10⟩ := and_e gg8
  obtain ⟨w0, w1, w2, w3, w4, rfl⟩ : ∃ w0 w1 w2 w3 w4 : Value, args = #[w0, w1, w2, w3, w4] := by
    have hs : args.size = 5 := by simpa [Cond.value, given_1] using gg1
    obtain ⟨L⟩ := args
    match L, hs with
    | [w0, w1, w2, w3, w4], _ => exact ⟨w0, w1, w2, w3, w4, rfl⟩
  have hw := fun d (hd : d ∈ tables_1) => atoms_spec (ws := Jvm.Cond.code x code maxLocals ret :: tables_1) hat d (List.mem_cons_of_mem _ hd)
  have hfit : Fit s := fun {y c} hc i hi => by
    obtain ⟨ha, rfl⟩ := Array.getElem?_eq_some_iff.mp hc
    have q := List.all_eq_true.mp ((Array.all_eq_true_iff_forall_mem.mp hF) _ (Array.getElem_mem ha)) i (List.mem_range.mpr hi)
    simpa [Array.getElem?_eq_getElem hi] using q
  obtain ⟨i0, ei0⟩ := isL_v gg3
  obtain rfl : w0 = (.long i0) := Option.some.inj ei0
  obtain ⟨i1, ei1⟩ := isL_v gg5
  obtain rfl : w1 = (.long i1) := Option.some.inj ei1
  obtain ⟨i2, ei2⟩ := isL_v gg7
  obtain rfl : w2 = (.long i2) := Option.some.inj ei2
  obtain ⟨i3, ei3⟩ := is_v gg9
  obtain rfl : w3 = (.int i3) := Option.some.inj ei3
  obtain ⟨i4, ei4⟩ := is_v gg10
  obtain rfl : w4 = (.int i4) := Option.some.inj ei4
  have ev1 := own_eqI hn
  have SS2 : Sta s s.heap "holdfast/CountedIds$Batch" "CHUNK_BITS" "I" (.int (14 : Int32)) := Sta.start ev1 (Or.inr ⟨(hw _ (List.mem_of_getElem? (i := 2) rfl)), (hw _ (List.mem_of_getElem? (i := 42) rfl))⟩)
  obtain ⟨n, o, h1, h2, h3, _, L, rfl, ⟨rfl, N⟩, hq⟩ := rm0 l s _ hw tables_1 i0 i1 i2 i3 i4  s.heap s.heap.size (Nat.le_refl _) (Old.start s) SS2 p e ha hc hk s m _ below hf ((Spec.applies_iff_loose hf).mp happ).1 ⟨rfl, State.Warmed39.refl s, rfl⟩ trivial
  refine ⟨n, _, h1, h2, h3, hpost _ _ _ _ _ _ ⟨Cond.after_iff.mpr rfl, Cond.after_iff.mpr (eq_i res_at (Term.int_eval (1)) rfl), trivial⟩ ⟨hq.1, hq.2.1, (hq.2.2.sift fun y hy => Or.inr (N y hy)).mono (by decide) (by decide)⟩⟩
theorem main_1_1 : Claimed_1_1 := comes_1 fun _ _ _ _ _ _ h hF => ⟨h.1, hF⟩
theorem main_1_2 : Claimed_1_2 := comes_1 fun _ _ _ _ _ _ h hF => ⟨h.2.1, hF⟩
end Jvm.Pilot.@@N@@
namespace Jvm.Pilot.@@N@@
open Jvm Jvm.ClassFile Sem Op Lib Jvm.Free Jvm.Stand Jvm.Pilot.@@N@@.Jvm.D
/-! MADE BY PROGRAM (witnessworld.py) out of the Statement's table words and the real class files: 11 classes; the members and pool entries that the words name. The judged class is class 1, her method 1. -/
namespace start1
open Jvm.ClassFile
def u (s : String) : CpInfo := .utf8 (stringToUtf16 s)
/-- a pool by its gaps: so many unusable entries, then the entry; so many at the end -/
def gap : Nat → List CpInfo → List CpInfo
  | 0, r => r
  | n + 1, r => .unusable :: gap n r
def poolList (es : List (Nat × CpInfo)) (last : Nat) : List CpInfo := es.foldr (fun e r => gap e.1 (e.2 :: r)) (gap last [])
def pool (es : List (Nat × CpInfo)) (last : Nat) : Array CpInfo := ⟨poolList es last⟩
def fileOf (pool : Array CpInfo) (this : Nat) (attrs : Array Attribute := #[]) (ms : Array MethodInfo := #[]) (fl : Nat := 33) (sup : Nat := 0) (ifs : Array Nat := #[]) (fds : Array FieldInfo := #[]) : ClassFile where
  minorVersion := 0
  majorVersion := 65
  constantPool := pool
  accessFlags := fl
  thisClass := this
  superClass := sup
  interfaces := ifs
  fields := fds
  methods := ms
  attributes := attrs
def plain (name : String) (sup : Option ClassId) : Class where
  name := name
  kind := .ordinary
  loader := none
  accessFlags := 33
  super := sup
  interfaces := #[]
  cf := none
  fields := #[]
  methods := #[]
  instanceTypes := #[]
  staticTypes := #[]
  resolved := #[]
  callSites := []
  init := .initialized
  statics := none
  mirror := none

def pool0 : Array CpInfo := pool [(5, u "<init>"), (0, u "()V"), (1, .class_ 10), (1, u "java/lang/Object")] 113

def k0c0 : Code := { maxStack := 0, maxLocals := 1, code := object_method_1_code, exceptionTable := #[], attributes := #[] }
def k0m0 : Method := { name := "<init>", desc := "()V", sig := { parameters := [], returnType := none }, accessFlags := 1, code := some k0c0 }
/-- java/lang/Object -/
def k0 : Class := { plain "java/lang/Object" none with
  accessFlags := 33
  interfaces := #[]
  cf := some (fileOf pool0 8 #[] #[{ accessFlags := 1, nameIndex := 5, descriptorIndex := 6, attributes := #[] }] 33 0 #[] #[])
  fields := #[]
  methods := #[k0m0]
  instanceTypes := #[]
  staticTypes := #[]
  resolved := Array.replicate 124 none
  statics := none }

def pool1 : Array CpInfo := pool [(2, .class_ 4), (0, .nameAndType 5 6), (0, u "java/lang/Object"), (0, u "<init>"), (0, u "()V"), (0, .class_ 8), (0, u "holdfast/CountedIds$Batch"), (0, .methodref 7 3), (0, .methodref 7 11), (0, .nameAndType 12 13), (0, u "full"), (0, u "()Z"), (0, .methodref 7 15), (0, .nameAndType 16 17), (0, u "size"), (0, u "()I"), (0, .methodref 7 19), (0, .nameAndType 20 21), (0, u "add"), (0, u "(JI)V"), (0, .methodref 7 23), (0, .nameAndType 24 6), (0, u "clear"), (0, .class_ 26), (0, u "holdfast/BatchFullPinLaw"), (2, u "law"), (0, u "(JJJII)Z")] 7

def k1m0 : Method := { name := "<init>", desc := "()V", sig := { parameters := [], returnType := none }, accessFlags := 2, code := none }
def k1c1 : Code := { maxStack := 4, maxLocals := 12, code := code, exceptionTable := #[], attributes := #[] }
def k1m1 : Method := { name := "law", desc := "(JJJII)Z", sig := { parameters := [.long, .long, .long, .int, .int], returnType := some .boolean }, accessFlags := 9, code := some k1c1 }
/-- holdfast/BatchFullPinLaw -/
def k1 : Class := { plain "holdfast/BatchFullPinLaw" (some 0) with
  accessFlags := 49
  interfaces := #[]
  cf := some (fileOf pool1 25 #[] #[{ accessFlags := 2, nameIndex := 5, descriptorIndex := 6, attributes := #[] }, { accessFlags := 9, nameIndex := 29, descriptorIndex := 30, attributes := #[] }] 49 2 #[] #[])
  fields := #[]
  methods := #[k1m0, k1m1]
  instanceTypes := #[]
  staticTypes := #[]
  resolved := Array.replicate 38 none
  statics := none }

def pool2 : Array CpInfo := pool [(1, .methodref 2 3), (0, .class_ 4), (0, .nameAndType 5 6), (0, u "java/lang/Object"), (0, u "<init>"), (0, u "()V"), (0, .class_ 8), (0, u "holdfast/CountedIds$Batch"), (0, .class_ 10), (0, u "[J"), (0, .fieldref 7 12), (0, .nameAndType 13 14), (0, u "digests"), (0, u "[[J"), (0, .class_ 16), (0, u "[I"), (0, .fieldref 7 18), (0, .nameAndType 19 20), (0, u "tags"), (0, u "[[I"), (0, .fieldref 7 22), (0, .nameAndType 23 14), (0, u "spareDigests"), (0, .fieldref 7 25), (0, .nameAndType 26 20), (0, u "spareTags"), (0, .fieldref 7 28), (0, .nameAndType 29 30), (0, u "sorted"), (0, u "Z"), (0, .fieldref 7 32), (0, .nameAndType 33 34), (0, u "size"), (0, u "I"), (0, .integer 1048576), (7, .fieldref 7 44), (0, .nameAndType 45 34), (0, u "CHUNK_BITS"), (0, .methodref 7 47), (0, .nameAndType 48 49), (0, u "set"), (0, u "([[J[[IIJI)V"), (51, u "CAPACITY"), (1, u "CHUNK"), (1, u "SPLIT"), (1, u "MOST_BUCKET_BITS"), (2, u "add"), (0, u "(JI)V"), (1, u "full"), (0, u "()Z"), (0, u "()I"), (0, u "clear"), (4, .class_ 122), (0, u "holdfast/CountedIds")] 2

def k2c0 : Code := { maxStack := 2, maxLocals := 1, code := prog_10_method_1_code, exceptionTable := #[], attributes := #[] }
def k2m0 : Method := { name := "<init>", desc := "()V", sig := { parameters := [], returnType := none }, accessFlags := 0, code := some k2c0 }
def k2c1 : Code := { maxStack := 6, maxLocals := 4, code := prog_10_method_2_code, exceptionTable := #[], attributes := #[] }
def k2m1 : Method := { name := "add", desc := "(JI)V", sig := { parameters := [.long, .int], returnType := none }, accessFlags := 0, code := some k2c1 }
def k2c2 : Code := { maxStack := 2, maxLocals := 1, code := prog_10_method_3_code, exceptionTable := #[], attributes := #[] }
def k2m2 : Method := { name := "full", desc := "()Z", sig := { parameters := [], returnType := some .boolean }, accessFlags := 0, code := some k2c2 }
def k2c3 : Code := { maxStack := 1, maxLocals := 1, code := prog_10_method_4_code, exceptionTable := #[], attributes := #[] }
def k2m3 : Method := { name := "size", desc := "()I", sig := { parameters := [], returnType := some .int }, accessFlags := 0, code := some k2c3 }
def k2c4 : Code := { maxStack := 2, maxLocals := 1, code := prog_10_method_6_code, exceptionTable := #[], attributes := #[] }
def k2m4 : Method := { name := "clear", desc := "()V", sig := { parameters := [], returnType := none }, accessFlags := 0, code := some k2c4 }
def k2c5 : Code := { maxStack := 4, maxLocals := 6, code := prog_10_method_8_code, exceptionTable := #[], attributes := #[] }
def k2m5 : Method := { name := "set", desc := "([[J[[IIJI)V", sig := { parameters := [(.array (.array .long)), (.array (.array .int)), .int, .long, .int], returnType := none }, accessFlags := 10, code := some k2c5 }
/-- holdfast/CountedIds$Batch -/
def k2 : Class := { plain "holdfast/CountedIds$Batch" (some 0) with
  accessFlags := 48
  interfaces := #[]
  cf := some (fileOf pool2 7 #[.nestHost 121] #[{ accessFlags := 0, nameIndex := 5, descriptorIndex := 6, attributes := #[] }, { accessFlags := 0, nameIndex := 110, descriptorIndex := 111, attributes := #[] }, { accessFlags := 0, nameIndex := 113, descriptorIndex := 114, attributes := #[] }, { accessFlags := 0, nameIndex := 33, descriptorIndex := 115, attributes := #[] }, { accessFlags := 0, nameIndex := 116, descriptorIndex := 6, attributes := #[] }, { accessFlags := 10, nameIndex := 48, descriptorIndex := 49, attributes := #[] }] 48 2 #[] #[{ accessFlags := 24, nameIndex := 101, descriptorIndex := 34, attributes := #[] }, { accessFlags := 26, nameIndex := 103, descriptorIndex := 34, attributes := #[] }, { accessFlags := 26, nameIndex := 45, descriptorIndex := 34, attributes := #[] }, { accessFlags := 26, nameIndex := 105, descriptorIndex := 34, attributes := #[] }, { accessFlags := 26, nameIndex := 107, descriptorIndex := 34, attributes := #[] }, { accessFlags := 2, nameIndex := 13, descriptorIndex := 14, attributes := #[] }, { accessFlags := 2, nameIndex := 19, descriptorIndex := 20, attributes := #[] }, { accessFlags := 2, nameIndex := 23, descriptorIndex := 14, attributes := #[] }, { accessFlags := 2, nameIndex := 26, descriptorIndex := 20, attributes := #[] }, { accessFlags := 2, nameIndex := 33, descriptorIndex := 34, attributes := #[] }, { accessFlags := 2, nameIndex := 29, descriptorIndex := 30, attributes := #[] }])
  fields := #[{ name := "CAPACITY", type := .int, accessFlags := 24, slot := 0, constantValue := 0 }, { name := "CHUNK", type := .int, accessFlags := 26, slot := 1, constantValue := 0 }, { name := "CHUNK_BITS", type := .int, accessFlags := 26, slot := 2, constantValue := 0 }, { name := "SPLIT", type := .int, accessFlags := 26, slot := 3, constantValue := 0 }, { name := "MOST_BUCKET_BITS", type := .int, accessFlags := 26, slot := 4, constantValue := 0 }, { name := "digests", type := (.array (.array .long)), accessFlags := 2, slot := 0, constantValue := 0 }, { name := "tags", type := (.array (.array .int)), accessFlags := 2, slot := 1, constantValue := 0 }, { name := "spareDigests", type := (.array (.array .long)), accessFlags := 2, slot := 2, constantValue := 0 }, { name := "spareTags", type := (.array (.array .int)), accessFlags := 2, slot := 3, constantValue := 0 }, { name := "size", type := .int, accessFlags := 2, slot := 4, constantValue := 0 }, { name := "sorted", type := .boolean, accessFlags := 2, slot := 5, constantValue := 0 }]
  methods := #[k2m0, k2m1, k2m2, k2m3, k2m4, k2m5]
  instanceTypes := #[(.array (.array .long)), (.array (.array .int)), (.array (.array .long)), (.array (.array .int)), .int, .boolean]
  staticTypes := #[.int, .int, .int, .int, .int]
  resolved := Array.replicate 125 none
  statics := some 0 }

def pool3 : Array CpInfo := pool [(1, u "java/lang/Cloneable"), (0, .class_ 1), (0, u "java/lang/Object"), (0, .class_ 3)] 3

/-- java/lang/Cloneable -/
def k3 : Class := { plain "java/lang/Cloneable" (some 0) with
  accessFlags := 1537
  interfaces := #[]
  cf := some (fileOf pool3 2 #[] #[] 1537 4 #[] #[])
  fields := #[]
  methods := #[]
  instanceTypes := #[]
  staticTypes := #[]
  resolved := Array.replicate 8 none
  statics := none }

def pool4 : Array CpInfo := pool [(1, u "java/io/Serializable"), (0, .class_ 1), (0, u "java/lang/Object"), (0, .class_ 3)] 3

/-- java/io/Serializable -/
def k4 : Class := { plain "java/io/Serializable" (some 0) with
  accessFlags := 1537
  interfaces := #[]
  cf := some (fileOf pool4 2 #[] #[] 1537 4 #[] #[])
  fields := #[]
  methods := #[]
  instanceTypes := #[]
  staticTypes := #[]
  resolved := Array.replicate 8 none
  statics := none }

/-- the primitive byte -/
def k5 : Class := { plain "byte" none with kind := .primitive 'B', accessFlags := 0x411 }
/-- [B -/
def k6 : Class := { plain "[B" (some 0) with kind := .array 5 .byte, interfaces := #[3, 4], accessFlags := 1041 }

/-- the primitive int -/
def k7 : Class := { plain "int" none with kind := .primitive 'I', accessFlags := 0x411 }
/-- [I -/
def k8 : Class := { plain "[I" (some 0) with kind := .array 7 .int, interfaces := #[3, 4], accessFlags := 1041 }

/-- the primitive long -/
def k9 : Class := { plain "long" none with kind := .primitive 'J', accessFlags := 0x411 }
/-- [J -/
def k10 : Class := { plain "[J" (some 0) with kind := .array 9 .long, interfaces := #[3, 4], accessFlags := 1041 }

/-- [[J -/
def k11 : Class := { plain "[[J" (some 0) with kind := .array 10 (.array .long), interfaces := #[3, 4], accessFlags := 1041 }
/-- [[I -/
def k12 : Class := { plain "[[I" (some 0) with kind := .array 8 (.array .int), interfaces := #[3, 4], accessFlags := 1041 }

def heap : Heap := #[{ cls := 2, slots := #[.int 0, .int 0, .int 14, .int 0, .int 0], vm := .statics 2 }]
def classes : Array Class := #[k0, k1, k2, k3, k4, k5, k6, k7, k8, k9, k10, k11, k12]
def interned : List (Array UInt16 × Addr) := []
def slotsUsed : Nat := 5
def theMethod : MethodId := ⟨1, 1⟩
def args0 : Array Value := #[.long 5, .long 7, .long 3, .int 1, .int 6]
def aboutOver (below : List Frame) : State where
  vm := { classes := classes, interned := interned.toArray }
  heap := heap
  slotsUsed := slotsUsed
  threads := #[{ frames := .invoking theMethod args0 :: below }]
def below0 : List Frame := [.native { method := ⟨0, 0⟩, args := #[] }]
def about1 : State := aboutOver below0
def p0 : Program := .bare "" "" ""
def e0 : Env := launch0.env 0 0 0
theorem w_frames : about1.frames = Frame.invoking theMethod args0 :: below0 := rfl
set_option maxRecDepth 65536 in
theorem w_args : argsFit about1.vm theMethod args0 = true := by decide +kernel
set_option maxRecDepth 65536 in
theorem w_heap : heapFits about1 = true := by decide +kernel
set_option maxRecDepth 65536 in
theorem w_runnable : about1.curStatus? = some .runnable := by decide +kernel
set_option maxRecDepth 65536 in
theorem w_alone : about1.alone = true := by decide +kernel
set_option maxRecDepth 65536 in
theorem w_named : about1.methodNamed? x = some theMethod := by decide +kernel
set_option maxRecDepth 65536 in
theorem w_hears : about1.hears theMethod below0 = true := by decide +kernel
set_option maxRecDepth 65536 in
theorem w_ripe : about1.ripe theMethod args0 below0 = true := by decide +kernel
theorem w_running : about1.status = .running := rfl
set_option maxRecDepth 65536 in
theorem w_room : about1.hasRoom e0.platform room_1 = true :=
  launch0.hasRoom_least _ room_1 (by decide +kernel) (by decide +kernel) (by decide +kernel) (by decide +kernel) (by decide +kernel) (by decide +kernel)
theorem allAtoms_all (ts : List Jvm.Cond) (a : Array Jvm.Value) (st : Jvm.State) : (allAtoms ts).before a st = ts.all (fun c => c.before a st) := by
  induction ts with
  | nil => rfl
  | cons c t ih =>
    show (Jvm.Cond.and c (allAtoms t)).before a st = _
    rw [Jvm.Cond.before_and, ih, List.all_cons]
def words1 : List Jvm.Cond := Jvm.Cond.code x code maxLocals ret :: tables_1
/-- a 'code' word, met by the world's own term for the bytes: nothing is compared byte by byte -/
theorem code_word {y : MethodName} {bytes : ByteArray} {mx : Nat} {rt : Option FieldType} {a : Array Value} {s : State} {m : MethodId} {meth : Method} {c : Code} (h1 : s.methodNamed? y = some m) (h2 : s.vm.method? m = some meth) (h3 : meth.code = some c) (h4 : c.code = bytes)
    (h5 : (c.maxLocals == mx && c.exceptionTable.isEmpty && decide (c.maxStack ≤ mostOperands) && decide (meth.sig.returnType = rt) && !meth.locks && decide (parseMethodDescriptor y.desc = some meth.sig)) = true) : (Jvm.Cond.code y bytes mx rt).before a s = true := by
  simp only [Bool.and_eq_true, beq_iff_eq, Bool.not_eq_true', decide_eq_true_eq] at h5
  obtain ⟨⟨⟨⟨⟨g1, g2⟩, g3⟩, g4⟩, g5⟩, g6⟩ := h5
  simp [Cond.before, Cond.holds, Cond.value, h1, h2, h3, h4, g1, g2, g3, g4, g5, g6]
def isCode : Jvm.Cond → Bool
  | .code _ _ _ _ => true
  | _ => false
theorem all_split {L : List Jvm.Cond} {P : Jvm.Cond → Bool} (h1 : L.all (fun c => isCode c || P c) = true) (h2 : ∀ c ∈ L.filter isCode, P c = true) : L.all P = true := by
  refine List.all_eq_true.mpr fun c hc => ?_
  have h := List.all_eq_true.mp h1 c hc
  rcases Bool.eq_false_or_eq_true (isCode c) with hi | hi
  · exact h2 c (List.mem_filter.mpr ⟨hc, hi⟩)
  · simpa [hi] using h
set_option maxRecDepth 65536 in
theorem w_c0 : (Jvm.Cond.code x code maxLocals ret).before args0 about1 = true := code_word (m := ⟨1, 1⟩) (meth := k1m1) (c := k1c1) (by decide +kernel) rfl rfl rfl (by decide +kernel)
set_option maxRecDepth 65536 in
theorem w_c1 : (Jvm.Cond.code ({ cls := "holdfast/CountedIds$Batch", name := "<init>", desc := "()V" } : Jvm.MethodName) prog_10_method_1_code (1 : Nat) (Option.none : Option Jvm.ClassFile.FieldType)).before args0 about1 = true := code_word (m := ⟨2, 0⟩) (meth := k2m0) (c := k2c0) (by decide +kernel) rfl rfl rfl (by decide +kernel)
set_option maxRecDepth 65536 in
theorem w_c2 : (Jvm.Cond.code ({ cls := "java/lang/Object", name := "<init>", desc := "()V" } : Jvm.MethodName) object_method_1_code (1 : Nat) (Option.none : Option Jvm.ClassFile.FieldType)).before args0 about1 = true := code_word (m := ⟨0, 0⟩) (meth := k0m0) (c := k0c0) (by decide +kernel) rfl rfl rfl (by decide +kernel)
set_option maxRecDepth 65536 in
theorem w_c3 : (Jvm.Cond.code ({ cls := "holdfast/CountedIds$Batch", name := "full", desc := "()Z" } : Jvm.MethodName) prog_10_method_3_code (1 : Nat) (Option.some Jvm.ClassFile.FieldType.boolean)).before args0 about1 = true := code_word (m := ⟨2, 2⟩) (meth := k2m2) (c := k2c2) (by decide +kernel) rfl rfl rfl (by decide +kernel)
set_option maxRecDepth 65536 in
theorem w_c4 : (Jvm.Cond.code ({ cls := "holdfast/CountedIds$Batch", name := "size", desc := "()I" } : Jvm.MethodName) prog_10_method_4_code (1 : Nat) (Option.some Jvm.ClassFile.FieldType.int)).before args0 about1 = true := code_word (m := ⟨2, 3⟩) (meth := k2m3) (c := k2c3) (by decide +kernel) rfl rfl rfl (by decide +kernel)
set_option maxRecDepth 65536 in
theorem w_c5 : (Jvm.Cond.code ({ cls := "holdfast/CountedIds$Batch", name := "add", desc := "(JI)V" } : Jvm.MethodName) prog_10_method_2_code (4 : Nat) (Option.none : Option Jvm.ClassFile.FieldType)).before args0 about1 = true := code_word (m := ⟨2, 1⟩) (meth := k2m1) (c := k2c1) (by decide +kernel) rfl rfl rfl (by decide +kernel)
set_option maxRecDepth 65536 in
theorem w_c6 : (Jvm.Cond.code ({ cls := "holdfast/CountedIds$Batch", name := "set", desc := "([[J[[IIJI)V" } : Jvm.MethodName) prog_10_method_8_code (6 : Nat) (Option.none : Option Jvm.ClassFile.FieldType)).before args0 about1 = true := code_word (m := ⟨2, 5⟩) (meth := k2m5) (c := k2c5) (by decide +kernel) rfl rfl rfl (by decide +kernel)
set_option maxRecDepth 65536 in
theorem w_c7 : (Jvm.Cond.code ({ cls := "holdfast/CountedIds$Batch", name := "clear", desc := "()V" } : Jvm.MethodName) prog_10_method_6_code (1 : Nat) (Option.none : Option Jvm.ClassFile.FieldType)).before args0 about1 = true := code_word (m := ⟨2, 4⟩) (meth := k2m4) (c := k2c4) (by decide +kernel) rfl rfl rfl (by decide +kernel)
def codes1 : List Jvm.Cond := [Jvm.Cond.code x code maxLocals ret, Jvm.Cond.code ({ cls := "holdfast/CountedIds$Batch", name := "<init>", desc := "()V" } : Jvm.MethodName) prog_10_method_1_code (1 : Nat) (Option.none : Option Jvm.ClassFile.FieldType), Jvm.Cond.code ({ cls := "java/lang/Object", name := "<init>", desc := "()V" } : Jvm.MethodName) object_method_1_code (1 : Nat) (Option.none : Option Jvm.ClassFile.FieldType), Jvm.Cond.code ({ cls := "holdfast/CountedIds$Batch", name := "full", desc := "()Z" } : Jvm.MethodName) prog_10_method_3_code (1 : Nat) (Option.some Jvm.ClassFile.FieldType.boolean), Jvm.Cond.code ({ cls := "holdfast/CountedIds$Batch", name := "size", desc := "()I" } : Jvm.MethodName) prog_10_method_4_code (1 : Nat) (Option.some Jvm.ClassFile.FieldType.int), Jvm.Cond.code ({ cls := "holdfast/CountedIds$Batch", name := "add", desc := "(JI)V" } : Jvm.MethodName) prog_10_method_2_code (4 : Nat) (Option.none : Option Jvm.ClassFile.FieldType), Jvm.Cond.code ({ cls := "holdfast/CountedIds$Batch", name := "set", desc := "([[J[[IIJI)V" } : Jvm.MethodName) prog_10_method_8_code (6 : Nat) (Option.none : Option Jvm.ClassFile.FieldType), Jvm.Cond.code ({ cls := "holdfast/CountedIds$Batch", name := "clear", desc := "()V" } : Jvm.MethodName) prog_10_method_6_code (1 : Nat) (Option.none : Option Jvm.ClassFile.FieldType)]
set_option maxRecDepth 65536 in
theorem codes_eq : words1.filter isCode = codes1 := rfl
theorem w_codes : ∀ c ∈ words1.filter isCode, c.before args0 about1 = true := by
  rw [codes_eq]
  intro c hc
  simp only [codes1, List.mem_cons, List.not_mem_nil, or_false] at hc
  rcases hc with rfl | rfl | rfl | rfl | rfl | rfl | rfl | rfl
  · exact w_c0
  · exact w_c1
  · exact w_c2
  · exact w_c3
  · exact w_c4
  · exact w_c5
  · exact w_c6
  · exact w_c7
set_option maxRecDepth 65536 in
theorem w_t1 : (words1.take 24).all (fun c => isCode c || c.before args0 about1) = true := by decide +kernel
set_option maxRecDepth 65536 in
theorem w_t2 : ((words1.drop 24).take 24).all (fun c => isCode c || c.before args0 about1) = true := by decide +kernel
set_option maxRecDepth 65536 in
theorem w_t3 : ((words1.drop 24).drop 24).all (fun c => isCode c || c.before args0 about1) = true := by decide +kernel
theorem w_tables : (allAtoms (Jvm.Cond.code x code maxLocals ret :: tables_1)).before args0 about1 = true := by
  rw [allAtoms_all]
  show words1.all (fun c => c.before args0 about1) = true
  refine all_split ?_ w_codes
  rw [← List.take_append_drop 24 words1, List.all_append, w_t1, ← List.take_append_drop 24 (words1.drop 24), List.all_append, w_t2, w_t3]
  rfl
set_option maxRecDepth 65536 in
theorem w_case : (Jvm.Cond.and given_1 narrow_1).before args0 about1 = true := by decide +kernel
theorem w_applies : (headSpec (Jvm.Cond.code x code maxLocals ret :: tables_1) room_1).applies x e0.platform about1 = true :=
  (Spec.applies_iff w_frames).mpr ⟨w_running, w_runnable, w_alone, w_named, w_hears, w_ripe, w_room, w_tables⟩
theorem atStart : AtStart classFile x code maxLocals ret World_1 tables_1 room_1 Calls_1 rest_1 Pre_1 launch0 p0 e0 about1 theMethod args0 below0 :=
  ⟨lists_1, trivial, launch0.admits_env _ _ _, launch0.least_env, fairChoices_fair.cas, fairChoices_fair.clock, w_frames, w_args, w_heap, w_applies, trivial, trivial, w_case⟩
end start1
theorem witness_1 : WitnessClaimed_1 := ⟨start1.p0, start1.e0, start1.about1, start1.theMethod, start1.args0, start1.below0, start1.atStart⟩
end Jvm.Pilot.@@N@@
