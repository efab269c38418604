import JvmDerived
import JvmDerived.Pilot.@@N@@Statement
import JvmDerived.Pilot.@@N@@Code
set_option linter.unusedVariables false
set_option linter.unusedSimpArgs false
namespace Jvm.RoadKit
open Sem ClassFile Op Lib Jvm.Stand Jvm.Free Jvm.LawKit
section New
variable {p : Program} {l : Launch} {e : Env} {R : Room} {s : State} {m : MethodId} {args : Array Value} {below : List Frame} {meth : Method} {c : Code} {T : State} {locs : List Loc} {cells slots : Nat}
theorem retI (X : Stand p l e R s m args below meth c T locs cells slots) (hx : p.tables.exec = Jvm.exec) {pc : Nat} {Ls : Array Slot} {z : Int32} {rest : List Value} (hret : meth.sig.returnType = some .int) (hd : decode c.code pc = .ok (.ireturn, 1)) {fs : List Frame}
    (hl : ∀ (f : JFrame) (acts : List Action), f.method = m → f.locked = none → f.entered = [] → (doReturn e (T.setTop f) acts (some (.int z))).1 = T.setFrames fs) : Steps p.tables e below (T.setTop (mkF m pc Ls (.int z :: rest))) (T.setFrames fs) := by
  have hm' : T.vm.method? m = some meth := X.method'
  have hn : narrow .int (.int z) = .int z := rfl
  show Steps p.tables e below (T.setTop { method := m, pc := pc, locals := Ls, stack := _ :: rest, locked := none }) _
  jvm_step X.here [X.here.top, hx, hd, hm', hret, hn]
  first | (intro acts; rw [hl _ acts rfl rfl rfl]) | rw [hl _ _ rfl rfl rfl]
  exact Steps.refl _
end New
end Jvm.RoadKit
namespace Jvm.Pilot.@@N@@
open Jvm Jvm.ClassFile Sem Op Lib Jvm.Free Jvm.Stand Jvm.LawKit Jvm.RoadKit Bundle Jvm.Pilot.@@N@@.Jvm.D
theorem own_sa {Z : State} {a0 : Array Value} (hw : ∀ d ∈ tables_1, d.before a0 Z = true) : ∀ a ∈ Bundle.stringAtoms, a.before a0 Z = true := fun a h => by
  simp only [Bundle.stringAtoms, List.mem_cons, List.not_mem_nil, or_false] at h
  rcases h with rfl | rfl | rfl | rfl | rfl | rfl | rfl
  · exact (hw _ (List.mem_of_getElem? (i := 4) rfl))
  · exact (hw _ (List.mem_of_getElem? (i := 3) rfl))
  · exact (hw _ (List.mem_of_getElem? (i := 20) rfl))
  · exact (hw _ (List.mem_of_getElem? (i := 30) rfl))
  · exact (hw _ (List.mem_of_getElem? (i := 28) rfl))
  · exact (hw _ (List.mem_of_getElem? (i := 36) rfl))
  · exact (hw _ (List.mem_of_getElem? (i := 37) rfl))
theorem own_rmono {s t : State} {o : Outcome} {L : List Loc} {k n k' n' : Nat} (h : ReturnedEndW s o t L k n) (hk : k ≤ k') (hn : n ≤ n') : ReturnedEndW s o t L k' n' := ⟨h.1, h.2.1, h.2.2.1, h.2.2.2.mono hk hn⟩
def own_d (n : Int32) : Int32 := n <<< ((1 : Int32) &&& 31)
def own_u (f : Nat → Int32) : Nat → Int32 := fun i => if i % 2 = 0 then f (i / 2) >>> ((0 : Int32) &&& 31) else f (i / 2) >>> ((8 : Int32) &&& 31)
def own_sh (f : Nat → Int32) (o : Int32) : Nat → Int32 := fun i => f (o.toNatClampNeg + i)
abbrev own_sm (n : Int32) : Prop := ¬ n < 1 ∧ ¬ (5 : Int32) < n
abbrev own_ix (i n : Int32) : Prop := ¬ i < 0 ∧ i < n
abbrev own_rg (o l n : Int32) : Prop := ¬ o < 0 ∧ ¬ l < 0 ∧ ¬ n < o ∧ ¬ n < l ∧ ¬ n < o + l
def own_ch (f : Nat → Int32) : Prop := ∀ i, ¬ f i < 0 ∧ ¬ (65535 : Int32) < f i
def own_lat (f : Nat → Int32) (n : Int32) : Prop := ∀ i : Nat, i < n.toNatClampNeg → ¬ (255 : Int32) < f i
theorem own_fin (x : Int32) (h0 : ¬ x < 0) (h5 : ¬ (5 : Int32) < x) : ∃ a : Fin 6, x = Int32.ofNat a.val := by
  have a0 : (0 : Int32).toInt = 0 := by decide
  have a5 : (5 : Int32).toInt = 5 := by decide
  rw [Int32.lt_iff_toInt_lt] at h0 h5
  have k : ∀ a : Fin 6, (Int32.ofNat a.val).toInt = (a.val : Int) := by decide
  refine ⟨⟨x.toInt.toNat, by omega⟩, Int32.toInt_inj.mp ?_⟩
  rw [k]; show x.toInt = ((x.toInt.toNat : Nat) : Int); omega
theorem own_e3 {P : Int32 → Int32 → Int32 → Prop} {o l n : Int32} (sm : own_sm n) (rg : own_rg o l n) (h : ∀ a b c : Fin 6, own_sm (Int32.ofNat c.val) → own_rg (Int32.ofNat a.val) (Int32.ofNat b.val) (Int32.ofNat c.val) → P (Int32.ofNat a.val) (Int32.ofNat b.val) (Int32.ofNat c.val)) : P o l n := by
  have t : ∀ {x : Int32}, ¬ n < x → ¬ (5 : Int32) < x := fun {x} q => by
    have s := sm.2
    rw [Int32.lt_iff_toInt_lt] at q s ⊢; omega
  have n0 : ¬ n < 0 := by
    have s := sm.1
    have a0 : (0 : Int32).toInt = 0 := by decide
    have a1 : (1 : Int32).toInt = 1 := by decide
    rw [Int32.lt_iff_toInt_lt] at s ⊢; omega
  obtain ⟨a, rfl⟩ := own_fin o rg.1 (t rg.2.2.1)
  obtain ⟨b, rfl⟩ := own_fin l rg.2.1 (t rg.2.2.2.1)
  obtain ⟨c, rfl⟩ := own_fin n n0 sm.2
  exact h a b c sm rg
theorem own_e2 {P : Int32 → Int32 → Prop} {i n : Int32} (sm : own_sm n) (ix : own_ix i n) (h : ∀ a c : Fin 6, own_sm (Int32.ofNat c.val) → own_ix (Int32.ofNat a.val) (Int32.ofNat c.val) → P (Int32.ofNat a.val) (Int32.ofNat c.val)) : P i n := by
  have n0 : ¬ n < 0 := by
    have s := sm.1
    have a0 : (0 : Int32).toInt = 0 := by decide
    have a1 : (1 : Int32).toInt = 1 := by decide
    rw [Int32.lt_iff_toInt_lt] at s ⊢; omega
  have i5 : ¬ (5 : Int32) < i := by
    have s := sm.2
    have q := ix.2
    rw [Int32.lt_iff_toInt_lt] at q s ⊢; omega
  obtain ⟨a, rfl⟩ := own_fin i ix.1 i5
  obtain ⟨c, rfl⟩ := own_fin n n0 sm.2
  exact h a c sm ix
theorem own_e1 {P : Int32 → Prop} {n : Int32} (sm : own_sm n) (h : ∀ c : Fin 6, own_sm (Int32.ofNat c.val) → P (Int32.ofNat c.val)) : P n :=
  own_e2 (P := fun _ n => P n) (i := 0) sm (by
    have s := sm.1
    refine ⟨by decide, ?_⟩
    have a0 : (0 : Int32).toInt = 0 := by decide
    have a1 : (1 : Int32).toInt = 1 := by decide
    rw [Int32.lt_iff_toInt_lt] at s ⊢; omega) (fun _ c s _ => h c s)
theorem own_t1 {o l n : Int32} (sm : own_sm n) (rg : own_rg o l n) (h : (1 : Int32) < l) : own_ix (o + 1) n := own_e3 (P := fun o l n => (1 : Int32) < l → own_ix (o + 1) n) sm rg (by decide +kernel) h
theorem own_hi16 {x : Int32} (h0 : ¬ x < 0) (h1 : ¬ (65535 : Int32) < x) (i : Nat) (hi : 16 ≤ i) : x.toBitVec.getLsbD i = false := by
  have a0 : (0 : Int32).toInt = 0 := by decide
  have a1 : (65535 : Int32).toInt = 65535 := by decide
  rw [Int32.lt_iff_toInt_lt] at h0 h1
  have e : x.toBitVec.toInt = x.toInt := rfl
  have lt : x.toBitVec.toNat < 65536 := by
    have := BitVec.toInt_eq_toNat_cond x.toBitVec
    have b := x.toBitVec.isLt
    split at this <;> omega
  rw [BitVec.getLsbD]
  exact Nat.testBit_lt_two_pow (Nat.lt_of_lt_of_le lt (Nat.pow_le_pow_right (n := 2) (by decide) hi))
theorem own_se (y : BitVec 32) (j : Nat) (h : j < 8) : (BitVec.signExtend 32 (BitVec.setWidth 8 y)).getLsbD j = y.getLsbD j := by
  rw [BitVec.getLsbD_signExtend, BitVec.getLsbD_setWidth]
  rw [if_pos h, decide_eq_true (show j < 32 by omega), decide_eq_true h]; rfl
theorem own_k255 : ∀ j : Fin 32, (255#32).getLsbD j.val = decide (j.val < 8) := by decide
theorem own_gcb (x : BitVec 32) (h : ∀ i, 16 ≤ i → x.getLsbD i = false) : BitVec.setWidth 32 (BitVec.setWidth 16 ((BitVec.signExtend 32 (BitVec.setWidth 8 x) &&& 255#32) ||| ((BitVec.signExtend 32 (BitVec.setWidth 8 (x.sshiftRight 8)) &&& 255#32) <<< 8))) = x := by
  apply BitVec.eq_of_getLsbD_eq
  intro i hi
  rw [BitVec.getLsbD_setWidth, BitVec.getLsbD_setWidth, BitVec.getLsbD_or, BitVec.getLsbD_and, BitVec.getLsbD_shiftLeft, BitVec.getLsbD_and]
  have k1 := own_k255 ⟨i, hi⟩
  have k2 := own_k255 ⟨i - 8, by omega⟩
  dsimp only at k1 k2
  rw [k1, k2, decide_eq_true hi]
  by_cases c1 : i < 8
  · rw [own_se _ _ c1, decide_eq_true c1, decide_eq_true (show i < 16 by omega)]; cases x.getLsbD i <;> rfl
  · rw [decide_eq_false c1]
    by_cases c2 : i < 16
    · rw [own_se _ _ (show i - 8 < 8 by omega), BitVec.getLsbD_sshiftRight, decide_eq_true c2, decide_eq_true (show i - 8 < 8 by omega), if_pos (show 8 + (i - 8) < 32 by omega), show 8 + (i - 8) = i by omega]
      rw [decide_eq_false (show ¬ 32 ≤ i - 8 by omega)]
      cases x.getLsbD i <;> simp
    · rw [decide_eq_false c2, h i (by omega)]; rfl
theorem own_b8 (y : Int32) : (y.toInt8.toInt32).toBitVec = BitVec.signExtend 32 (BitVec.setWidth 8 y.toBitVec) := by
  rw [show BitVec.setWidth 8 y.toBitVec = BitVec.signExtend 8 y.toBitVec from (BitVec.signExtend_eq_setWidth_of_le _ (by decide)).symm]; simp
theorem own_gc (x : Int32) (h0 : ¬ x < 0) (h1 : ¬ (65535 : Int32) < x) : ((((((x >>> ((0 : Int32) &&& 31)).toInt8.toInt32) &&& (255 : Int32)) <<< ((0 : Int32) &&& 31)) ||| ((((x >>> ((8 : Int32) &&& 31)).toInt8.toInt32) &&& (255 : Int32)) <<< ((8 : Int32) &&& 31))).toUInt32.toUInt16.toUInt32.toInt32) = x := by
  have z0 : (0 : Int32) &&& 31 = 0 := by decide
  have z8 : (8 : Int32) &&& 31 = 8 := by decide
  have s0 : ∀ y : Int32, (y >>> (0 : Int32)) = y := fun y => by simp
  have s1 : ∀ y : Int32, (y <<< (0 : Int32)) = y := fun y => by simp
  rw [z0, z8, s0, s1]
  apply Int32.toBitVec_inj.mp
  have q := own_gcb x.toBitVec (own_hi16 h0 h1)
  have w : ∀ y : Int32, y.toUInt32.toUInt16.toUInt32.toInt32.toBitVec = BitVec.setWidth 32 (BitVec.setWidth 16 y.toBitVec) := fun y => by
    apply BitVec.eq_of_toNat_eq; simp; omega
  have s8 : ∀ y : Int32, (y <<< (8 : Int32)).toBitVec = y.toBitVec <<< 8 := fun y => by rw [Int32.toBitVec_shiftLeft]; rfl
  have r8 : ∀ y : Int32, (y >>> (8 : Int32)).toBitVec = y.toBitVec.sshiftRight 8 := fun y => by rw [Int32.toBitVec_shiftRight]; rfl
  rw [w, Int32.toBitVec_or, Int32.toBitVec_and, s8, Int32.toBitVec_and, own_b8, own_b8, r8]
  exact q
theorem own_lc (x : Int32) (h0 : ¬ x < 0) (h1 : ¬ (255 : Int32) < x) : (((x.toInt8.toInt32) &&& (255 : Int32)).toUInt32.toUInt16.toUInt32.toInt32) = x := by
  rw [i2c_mask]
  have a0 : (0 : Int32).toInt = 0 := by decide
  have a1 : (255 : Int32).toInt = 255 := by decide
  rw [Int32.lt_iff_toInt_lt] at h0 h1
  have e : x.toBitVec.toInt = x.toInt := rfl
  have lt : x.toBitVec.toNat < 256 := by
    have := BitVec.toInt_eq_toNat_cond x.toBitVec
    have b := x.toBitVec.isLt
    split at this <;> omega
  apply Int32.toBitVec_inj.mp
  rw [Int32.toBitVec_and, own_b8]
  show BitVec.signExtend 32 (BitVec.setWidth 8 x.toBitVec) &&& 255#32 = x.toBitVec
  apply BitVec.eq_of_getLsbD_eq
  intro i hi
  have k1 := own_k255 ⟨i, hi⟩
  dsimp only at k1
  rw [BitVec.getLsbD_and, k1]
  by_cases c1 : i < 8
  · rw [own_se _ _ c1, decide_eq_true c1]; simp
  · rw [decide_eq_false c1]
    have : x.toBitVec.getLsbD i = false := Nat.testBit_lt_two_pow (Nat.lt_of_lt_of_le lt (Nat.pow_le_pow_right (n := 2) (by decide) (show 8 ≤ i by omega)))
    rw [this]; simp
theorem own_set_miss (c : Cell) (j i : Nat) (v : Value) (h : ¬ i = j) : (c.setSlot j v).slots[i]? = c.slots[i]? := by
  unfold Cell.setSlot; rw [Array.getElem?_setIfInBounds_ne (fun q => h q.symm)]
def OwnB (Z : State) (h : Heap) (a : Addr) (z : Int32) (k : Nat) (g : Nat → Int32) : Prop := ∃ cl : Cell, Arr Z h a cl .byte ∧ cl.slots.size = z.toNatClampNeg ∧ ¬ z < 0 ∧ ∀ i, i < k → cl.slots[i]? = some (.int ((g i).toInt8.toInt32))
theorem OwnB.lt {Z : State} {h : Heap} {a : Addr} {z : Int32} {k : Nat} {g : Nat → Int32} (F : OwnB Z h a z k g) : a < h.size := by obtain ⟨c, A, -⟩ := F; exact A.lt
theorem OwnB.ext {Z : State} {h h' : Heap} {a : Addr} {z : Int32} {k : Nat} {g : Nat → Int32} (F : OwnB Z h a z k g) (E : Ext h h') : OwnB Z h' a z k g := by obtain ⟨c, A, r⟩ := F; exact ⟨c, A.ext E, r⟩
theorem OwnB.other {Z : State} {h h' : Heap} {a b : Addr} {sl : Nat} {v : Value} {z : Int32} {k : Nat} {g : Nat → Int32} (F : OwnB Z h b z k g) (W : Wr h h' a sl v) (q : b ≠ a) : OwnB Z h' b z k g := by obtain ⟨c, A, r⟩ := F; exact ⟨c, A.other W q, r⟩
theorem OwnB.keep {Z : State} {h h' : Heap} {a : Addr} {ws : List Addr} {z : Int32} {k : Nat} {g : Nat → Int32} (F : OwnB Z h a z k g) (K : Keep h h' ws) (q : a ∉ ws) : OwnB Z h' a z k g := by obtain ⟨c, A, r⟩ := F; exact ⟨c, ⟨K.2.1 a c A.1 q, A.2⟩, r⟩
theorem OwnB.new {Z : State} {h : Heap} {a : Addr} {k : ClassId} {z : Int32} (A : Arr Z h a (newA k .byte z) .byte) (hz : ¬ z < 0) (g : Nat → Int32) : OwnB Z h a z 0 g := ⟨_, A, sz_new _ _ _, hz, fun i q => absurd q (Nat.not_lt_zero i)⟩
theorem OwnB.mk {Z : State} {h : Heap} {a : Addr} {z : Int32} {k k' : Nat} {g : Nat → Int32} (F : OwnB Z h a z k g) (e : k = k') : OwnB Z h a z k' g := e ▸ F
theorem own_nb (x : Int32) : nar .byte x.toInt8.toInt32 = x.toInt8.toInt32 := by simp [nar]
theorem OwnB.put {Z : State} {h h' : Heap} {a : Addr} {cl : Cell} {z j x : Int32} {k : Nat} {g : Nat → Int32} (A : Arr Z h a cl .byte) (S : cl.slots.size = z.toNatClampNeg) (Nn : ¬ z < 0) (H : ∀ i, i < k → cl.slots[i]? = some (.int ((g i).toInt8.toInt32))) (hj : ¬ (j < 0 ∨ cl.slots.size ≤ j.toNatClampNeg)) (W : Wr h h' a j.toNatClampNeg (.int (nar .byte x.toInt8.toInt32))) (ek : j.toNatClampNeg = k) (ex : x = g k) : OwnB Z h' a z (k + 1) g := by
  rw [own_nb] at W
  refine ⟨_, A.same W, by rw [sz_set]; exact S, Nn, fun i q => ?_⟩
  by_cases e : i = j.toNatClampNeg
  · have e2 : i = k := e.trans ek
    rw [e2, ← ex, ← ek]; exact get_hit hj rfl
  · rw [own_set_miss _ _ _ _ e]; exact H i (by omega)
abbrev own_bv (g : Nat → Int32) (n : Nat) : List Value := (List.range n).map fun i => Value.int ((g i).toInt8.toInt32)
theorem own_bvD (g : Nat → Int32) (n i : Nat) (h : i < n) : (own_bv g n).getD i (.int 0) = .int ((g i).toInt8.toInt32) := by simp [own_bv, List.getD, h]
theorem OwnB.arv {Z : State} {h : Heap} {a : Addr} {z : Int32} {g : Nat → Int32} (F : OwnB Z h a z z.toNatClampNeg g) : ∃ kc, Arv Z h a kc .byte z (own_bv g z.toNatClampNeg) (.int 0) := by
  obtain ⟨c, A, S, N, H⟩ := F
  refine ⟨c.cls, c, A, rfl, S, N, fun i hi => ?_, fun i hi => ?_⟩
  · rw [own_bvD _ _ _ (S ▸ hi)]; exact H i (S ▸ hi)
  · rw [own_bvD _ _ _ (S ▸ hi)]; exact fits_nar_byte _
theorem OwnB.of {Z : State} {h : Heap} {a : Addr} {kc : ClassId} {z : Int32} {g : Nat → Int32} {vs : List Value} (F : Arv Z h a kc .byte z vs (.int 0)) (e : ∀ i, i < z.toNatClampNeg → vs.getD i (.int 0) = .int ((g i).toInt8.toInt32)) : OwnB Z h a z z.toNatClampNeg g := by
  obtain ⟨c, A, -, S, N, H, -⟩ := F
  exact ⟨c, A, S, N, fun i hi => by rw [H i (S ▸ hi), e i hi]⟩
abbrev OwnL (Z : State) (h : Heap) (a : Addr) (n : Int32) (f : Nat → Int32) : Prop := OwnB Z h a n n.toNatClampNeg f
abbrev OwnU (Z : State) (h : Heap) (a : Addr) (n : Int32) (f : Nat → Int32) : Prop := OwnB Z h a (own_d n) (own_d n).toNatClampNeg (own_u f)
theorem OwnL.lt {Z : State} {h : Heap} {a : Addr} {n : Int32} {f : Nat → Int32} (F : OwnL Z h a n f) : a < h.size := OwnB.lt F
theorem OwnL.ext {Z : State} {h h' : Heap} {a : Addr} {n : Int32} {f : Nat → Int32} (F : OwnL Z h a n f) (E : Ext h h') : OwnL Z h' a n f := OwnB.ext F E
theorem OwnL.other {Z : State} {h h' : Heap} {a b : Addr} {sl : Nat} {v : Value} {n : Int32} {f : Nat → Int32} (F : OwnL Z h b n f) (W : Wr h h' a sl v) (q : b ≠ a) : OwnL Z h' b n f := OwnB.other F W q
theorem OwnL.keep {Z : State} {h h' : Heap} {a : Addr} {ws : List Addr} {n : Int32} {f : Nat → Int32} (F : OwnL Z h a n f) (K : Keep h h' ws) (q : a ∉ ws) : OwnL Z h' a n f := OwnB.keep F K q
theorem OwnU.lt {Z : State} {h : Heap} {a : Addr} {n : Int32} {f : Nat → Int32} (F : OwnU Z h a n f) : a < h.size := OwnB.lt F
theorem OwnU.ext {Z : State} {h h' : Heap} {a : Addr} {n : Int32} {f : Nat → Int32} (F : OwnU Z h a n f) (E : Ext h h') : OwnU Z h' a n f := OwnB.ext F E
theorem OwnU.other {Z : State} {h h' : Heap} {a b : Addr} {sl : Nat} {v : Value} {n : Int32} {f : Nat → Int32} (F : OwnU Z h b n f) (W : Wr h h' a sl v) (q : b ≠ a) : OwnU Z h' b n f := OwnB.other F W q
theorem OwnU.keep {Z : State} {h h' : Heap} {a : Addr} {ws : List Addr} {n : Int32} {f : Nat → Int32} (F : OwnU Z h a n f) (K : Keep h h' ws) (q : a ∉ ws) : OwnU Z h' a n f := OwnB.keep F K q
def OwnC (Z : State) (h : Heap) (a : Addr) (n : Int32) (f : Nat → Int32) : Prop := ∃ cl : Cell, Arr Z h a cl .char ∧ cl.slots.size = n.toNatClampNeg ∧ ¬ n < 0 ∧ ∀ i, i < n.toNatClampNeg → cl.slots[i]? = some (.int (f i))
theorem OwnC.lt {Z : State} {h : Heap} {a : Addr} {n : Int32} {f : Nat → Int32} (F : OwnC Z h a n f) : a < h.size := by obtain ⟨c, A, -⟩ := F; exact A.lt
theorem OwnC.ext {Z : State} {h h' : Heap} {a : Addr} {n : Int32} {f : Nat → Int32} (F : OwnC Z h a n f) (E : Ext h h') : OwnC Z h' a n f := by obtain ⟨c, A, r⟩ := F; exact ⟨c, A.ext E, r⟩
theorem OwnC.other {Z : State} {h h' : Heap} {a b : Addr} {sl : Nat} {v : Value} {n : Int32} {f : Nat → Int32} (F : OwnC Z h b n f) (W : Wr h h' a sl v) (q : b ≠ a) : OwnC Z h' b n f := by obtain ⟨c, A, r⟩ := F; exact ⟨c, A.other W q, r⟩
theorem OwnC.keep {Z : State} {h h' : Heap} {a : Addr} {ws : List Addr} {n : Int32} {f : Nat → Int32} (F : OwnC Z h a n f) (K : Keep h h' ws) (q : a ∉ ws) : OwnC Z h' a n f := by obtain ⟨c, A, r⟩ := F; exact ⟨c, ⟨K.2.1 a c A.1 q, A.2⟩, r⟩
def OwnS (Z : State) (h : Heap) (a b : Addr) (n : Int32) (f : Nat → Int32) : Prop := Exa Z h a "java/lang/String" ∧ Fld Z h a "java/lang/String" "value" "[B" (.ref b) ∧ ((Fld Z h a "java/lang/String" "coder" "B" (.int (0 : Int32)) ∧ OwnL Z h b n f ∧ own_lat f n) ∨ (Fld Z h a "java/lang/String" "coder" "B" (.int (1 : Int32)) ∧ OwnU Z h b n f ∧ own_sm n))
theorem OwnS.lt {Z : State} {h : Heap} {a b : Addr} {n : Int32} {f : Nat → Int32} (F : OwnS Z h a b n f) : a < h.size := by obtain ⟨E, -⟩ := F; exact E.lt
theorem OwnS.ltb {Z : State} {h : Heap} {a b : Addr} {n : Int32} {f : Nat → Int32} (F : OwnS Z h a b n f) : b < h.size := by
  obtain ⟨-, -, ⟨-, L, -⟩ | ⟨-, U, -⟩⟩ := F
  · exact OwnL.lt L
  · exact OwnU.lt U
theorem OwnS.ext {Z : State} {h h' : Heap} {a b : Addr} {n : Int32} {f : Nat → Int32} (F : OwnS Z h a b n f) (E : Ext h h') : OwnS Z h' a b n f := by
  obtain ⟨X, V, ⟨C, L, l⟩ | ⟨C, U, l⟩⟩ := F
  · exact ⟨Exa.ext E X, Fld.ext E V, Or.inl ⟨Fld.ext E C, OwnL.ext L E, l⟩⟩
  · exact ⟨Exa.ext E X, Fld.ext E V, Or.inr ⟨Fld.ext E C, OwnU.ext U E, l⟩⟩
theorem OwnS.other {Z : State} {h h' : Heap} {a b w : Addr} {sl : Nat} {v : Value} {n : Int32} {f : Nat → Int32} (F : OwnS Z h a b n f) (W : Wr h h' w sl v) (q : a ≠ w) (r : b ≠ w) : OwnS Z h' a b n f := by
  obtain ⟨X, V, ⟨C, L, l⟩ | ⟨C, U, l⟩⟩ := F
  · exact ⟨Exa.wr W X, Fld.other W V (Or.inl q), Or.inl ⟨Fld.other W C (Or.inl q), OwnL.other L W r, l⟩⟩
  · exact ⟨Exa.wr W X, Fld.other W V (Or.inl q), Or.inr ⟨Fld.other W C (Or.inl q), OwnU.other U W r, l⟩⟩
theorem OwnS.keep {Z : State} {h h' : Heap} {a b : Addr} {ws : List Addr} {n : Int32} {f : Nat → Int32} (F : OwnS Z h a b n f) (K : Keep h h' ws) (q : a ∉ ws) (r : b ∉ ws) : OwnS Z h' a b n f := by
  obtain ⟨X, V, ⟨C, L, l⟩ | ⟨C, U, l⟩⟩ := F
  · exact ⟨X.keep K, V.keep K q, Or.inl ⟨C.keep K q, OwnL.keep L K r, l⟩⟩
  · exact ⟨X.keep K, V.keep K q, Or.inr ⟨C.keep K q, OwnU.keep U K r, l⟩⟩
theorem own_2d {i n : Int32} (sm : own_sm n) (ix : own_ix i n) : (own_d i).toNatClampNeg = 2 * i.toNatClampNeg ∧ (own_d i + 1).toNatClampNeg = 2 * i.toNatClampNeg + 1 ∧ (own_d n).toNatClampNeg = 2 * n.toNatClampNeg ∧ i.toNatClampNeg < n.toNatClampNeg ∧ ¬ own_d i < 0 ∧ ¬ own_d i + 1 < 0 ∧ ¬ own_d n < 0 := own_e2 (P := fun i n => (own_d i).toNatClampNeg = 2 * i.toNatClampNeg ∧ (own_d i + 1).toNatClampNeg = 2 * i.toNatClampNeg + 1 ∧ (own_d n).toNatClampNeg = 2 * n.toNatClampNeg ∧ i.toNatClampNeg < n.toNatClampNeg ∧ ¬ own_d i < 0 ∧ ¬ own_d i + 1 < 0 ∧ ¬ own_d n < 0) sm ix (by decide +kernel)
theorem own_u0 (f : Nat → Int32) (k : Nat) : own_u f (2 * k) = f k >>> ((0 : Int32) &&& 31) := by
  unfold own_u; rw [if_pos (by omega), show 2 * k / 2 = k by omega]
theorem own_u1 (f : Nat → Int32) (k : Nat) : own_u f (2 * k + 1) = f k >>> ((8 : Int32) &&& 31) := by
  unfold own_u; rw [if_neg (by omega), show (2 * k + 1) / 2 = k by omega]
theorem own_rd0 {cl : Cell} {f : Nat → Int32} {i n : Int32} (sm : own_sm n) (ix : own_ix i n) (H : ∀ j, j < (own_d n).toNatClampNeg → cl.slots[j]? = some (.int ((own_u f j).toInt8.toInt32))) : cl.slots[(own_d i).toNatClampNeg]? = some (.int ((f i.toNatClampNeg >>> ((0 : Int32) &&& 31)).toInt8.toInt32)) := by
  obtain ⟨e1, e2, e3, e4, -⟩ := own_2d sm ix
  rw [H _ (by omega), e1, own_u0]
theorem own_rd1 {cl : Cell} {f : Nat → Int32} {i n : Int32} (sm : own_sm n) (ix : own_ix i n) (H : ∀ j, j < (own_d n).toNatClampNeg → cl.slots[j]? = some (.int ((own_u f j).toInt8.toInt32))) : cl.slots[(own_d i + (1 : Int32)).toNatClampNeg]? = some (.int ((f i.toNatClampNeg >>> ((8 : Int32) &&& 31)).toInt8.toInt32)) := by
  obtain ⟨e1, e2, e3, e4, -⟩ := own_2d sm ix
  rw [H _ (by omega), e2, own_u1]
theorem own_in0 {cl : Cell} {i n : Int32} (sm : own_sm n) (ix : own_ix i n) (S : cl.slots.size = (own_d n).toNatClampNeg) : ¬ (own_d i < 0 ∨ cl.slots.size ≤ (own_d i).toNatClampNeg) := by
  obtain ⟨e1, e2, e3, e4, e5, e6, -⟩ := own_2d sm ix
  rintro (q | q)
  · exact e5 q
  · omega
theorem own_in1 {cl : Cell} {i n : Int32} (sm : own_sm n) (ix : own_ix i n) (S : cl.slots.size = (own_d n).toNatClampNeg) : ¬ (own_d i + (1 : Int32) < 0 ∨ cl.slots.size ≤ (own_d i + (1 : Int32)).toNatClampNeg) := by
  obtain ⟨e1, e2, e3, e4, e5, e6, -⟩ := own_2d sm ix
  rintro (q | q)
  · exact e6 q
  · omega
def Fmt (Z : State) : Prop := Sta Z Z.heap "jdk/internal/util/Preconditions" "SIOOBE_FORMATTER" "Ljava/util/function/BiFunction;" .null ∨ ∃ a, Sta Z Z.heap "jdk/internal/util/Preconditions" "SIOOBE_FORMATTER" "Ljava/util/function/BiFunction;" (.ref a)
theorem own_ixlt {i n : Int32} (ix : own_ix i n) : i.toNatClampNeg < n.toNatClampNeg := by
  have a := ix.1
  have b := ix.2
  have a0 : (0 : Int32).toInt = 0 := by decide
  rw [Int32.lt_iff_toInt_lt] at a b
  show i.toInt.toNat < n.toInt.toNat
  omega
theorem own_shr0 (n : Int32) : (n >>> ((0 : Int32) &&& 31)) = n := by
  rw [show (0 : Int32) &&& 31 = 0 by decide]; simp
theorem own_narC {x : Int32} (h : ¬ x < 0 ∧ ¬ (65535 : Int32) < x) : nar .char x = x := by
  show x.toUInt32.toUInt16.toUInt32.toInt32 = x
  apply Int32.toBitVec_inj.mp
  apply BitVec.eq_of_getLsbD_eq
  intro i hi
  have w : x.toUInt32.toUInt16.toUInt32.toInt32.toBitVec = BitVec.setWidth 32 (BitVec.setWidth 16 x.toBitVec) := by
    apply BitVec.eq_of_toNat_eq; simp; omega
  rw [w, BitVec.getLsbD_setWidth, BitVec.getLsbD_setWidth, decide_eq_true hi]
  by_cases c : i < 16
  · rw [decide_eq_true c]; simp
  · rw [own_hi16 h.1 h.2 i (by omega)]; simp
theorem own_ixne {i n : Int32} (ix : own_ix i n) : ¬ (i = n) := fun q => by
  have b := ix.2
  subst q
  rw [Int32.lt_iff_toInt_lt] at b; omega
theorem own_cfL (n : Int32) : (nar .byte (((n - n).toUInt32 >>> ((31 : Int32) &&& 31).toUInt32).toInt32.toInt8.toInt32)) = 0 := by
  rw [Int32.sub_self]; decide
abbrev own_cr (o l z : Int32) : Prop := ¬ o < 0 ∧ ¬ l < o ∧ ¬ z < l ∧ ¬ (10 : Int32) < z
theorem own_fin10 (x : Int32) (h0 : ¬ x < 0) (h5 : ¬ (10 : Int32) < x) : ∃ a : Fin 11, x = Int32.ofNat a.val := by
  have a0 : (0 : Int32).toInt = 0 := by decide
  have a5 : (10 : Int32).toInt = 10 := by decide
  rw [Int32.lt_iff_toInt_lt] at h0 h5
  have k : ∀ a : Fin 11, (Int32.ofNat a.val).toInt = (a.val : Int) := by decide
  refine ⟨⟨x.toInt.toNat, by omega⟩, Int32.toInt_inj.mp ?_⟩
  rw [k]; show x.toInt = ((x.toInt.toNat : Nat) : Int); omega
theorem own_e4 {P : Int32 → Int32 → Int32 → Prop} {o l z : Int32} (cr : own_cr o l z) (h : ∀ a b c : Fin 11, own_cr (Int32.ofNat a.val) (Int32.ofNat b.val) (Int32.ofNat c.val) → P (Int32.ofNat a.val) (Int32.ofNat b.val) (Int32.ofNat c.val)) : P o l z := by
  have cr' := cr
  obtain ⟨h1, h2, h3, h4⟩ := cr'
  have a0 : (0 : Int32).toInt = 0 := by decide
  rw [Int32.lt_iff_toInt_lt] at h1 h2 h3 h4
  obtain ⟨a, rfl⟩ := own_fin10 o cr.1 (by rw [Int32.lt_iff_toInt_lt]; omega)
  obtain ⟨b, rfl⟩ := own_fin10 l (by rw [Int32.lt_iff_toInt_lt]; omega) (by rw [Int32.lt_iff_toInt_lt]; omega)
  obtain ⟨c, rfl⟩ := own_fin10 z (by rw [Int32.lt_iff_toInt_lt]; omega) cr.2.2.2
  exact h a b c cr
def own_min (a b : Int32) : Int32 := if b < a then b else a
theorem own_cra {o l z : Int32} (cr : own_cr o l z) : ¬ (l - o) < 0 ∧ (l - o).toNatClampNeg ≤ 16 ∧ own_min (z - o) (l - o) = l - o ∧ o.toNatClampNeg + (l - o).toNatClampNeg ≤ z.toNatClampNeg := own_e4 (P := fun o l z => ¬ (l - o) < 0 ∧ (l - o).toNatClampNeg ≤ 16 ∧ own_min (z - o) (l - o) = l - o ∧ o.toNatClampNeg + (l - o).toNatClampNeg ≤ z.toNatClampNeg) cr (by unfold own_min; decide +kernel)
theorem own_cp {g : Nat → Int32} {z sp nn : Int32} (h4 : sp.toNatClampNeg + nn.toNatClampNeg ≤ z.toNatClampNeg) (i : Nat) (hi : i < nn.toNatClampNeg) : ((List.replicate nn.toNatClampNeg (Value.int 0)).take (0 : Int32).toNatClampNeg ++ (List.range nn.toNatClampNeg).map (fun i => (own_bv g z.toNatClampNeg).getD (sp.toNatClampNeg + i) (.int 0)) ++ (List.replicate nn.toNatClampNeg (Value.int 0)).drop ((0 : Int32).toNatClampNeg + nn.toNatClampNeg)).getD i (.int 0) = .int ((own_sh g sp i).toInt8.toInt32) := by
  rw [show (0 : Int32).toNatClampNeg = 0 by decide, List.take_zero, List.nil_append, List.getD_eq_getElem?_getD, List.getElem?_append_left (by simpa using hi), List.getElem?_map, List.getElem?_range hi]
  show (own_bv g z.toNatClampNeg).getD (sp.toNatClampNeg + i) (.int 0) = _
  rw [own_bvD _ _ _ (by omega)]; rfl
theorem own_shu {f : Nat → Int32} {o : Int32} (h : (own_d o).toNatClampNeg = 2 * o.toNatClampNeg) : own_sh (own_u f) (own_d o) = own_u (own_sh f o) := by
  funext i
  show own_u f ((own_d o).toNatClampNeg + i) = own_u (own_sh f o) i
  rw [h]
  unfold own_u own_sh
  by_cases q : i % 2 = 0
  · rw [if_pos q, if_pos (by omega), show (2 * o.toNatClampNeg + i) / 2 = o.toNatClampNeg + i / 2 by omega]
  · rw [if_neg q, if_neg (by omega), show (2 * o.toNatClampNeg + i) / 2 = o.toNatClampNeg + i / 2 by omega]
theorem own_chs {f : Nat → Int32} {o : Int32} (h : own_ch f) : own_ch (own_sh f o) := fun i => h _
theorem own_lats {f : Nat → Int32} {o l n : Int32} (sm : own_sm n) (rg : own_rg o l n) (h : own_lat f n) : own_lat (own_sh f o) l := fun i hi => h _ (by
  have q := own_e3 (P := fun o l n => o.toNatClampNeg + l.toNatClampNeg ≤ n.toNatClampNeg) sm rg (by decide +kernel)
  omega)
theorem own_fullS {Z : State} {h : Heap} {a b : Addr} {n p2 p3 ln : Int32} {f : Nat → Int32} (S : OwnS Z h a b n f) (e1 : p2 = (0 : Int32)) (e2 : p3 = n) (e3 : p3 = p2 + ln) : OwnS Z h a b ln (own_sh f p2) := by
  subst e1
  rw [Int32.zero_add] at e3
  have q : own_sh f (0 : Int32) = f := by
    funext i; show f ((0 : Int32).toNatClampNeg + i) = f i
    rw [show (0 : Int32).toNatClampNeg = 0 by decide, Nat.zero_add]
  rw [q, ← e3, e2]; exact S
theorem OwnB.to {Z : State} {h : Heap} {a : Addr} {z z' : Int32} {g g' : Nat → Int32} (F : OwnB Z h a z z.toNatClampNeg g) (e : z = z') (eg : g = g') : OwnB Z h a z' z'.toNatClampNeg g' := by subst e eg; exact F
theorem own_more1 {g : Nat → Int32} {l : Int32} (hu : ¬ own_lat g l) (h0 : ¬ (255 : Int32) < g 0) : (1 : Int32) < l := Classical.byContradiction fun q => hu fun i hi => by
  have hj : i < 1 := by
    have a : (1 : Int32).toInt = 1 := by decide
    rw [Int32.lt_iff_toInt_lt] at q
    have : i < l.toInt.toNat := hi
    omega
  rcases (by omega : i = 0) with rfl <;> assumption
theorem own_more2 {g : Nat → Int32} {l : Int32} (hu : ¬ own_lat g l) (h0 : ¬ (255 : Int32) < g 0) (h1 : ¬ (255 : Int32) < g 1) : (2 : Int32) < l := Classical.byContradiction fun q => hu fun i hi => by
  have hj : i < 2 := by
    have a : (2 : Int32).toInt = 2 := by decide
    rw [Int32.lt_iff_toInt_lt] at q
    have : i < l.toInt.toNat := hi
    omega
  rcases (by omega : i = 0 ∨ i = 1) with rfl | rfl <;> assumption
theorem own_more3 {g : Nat → Int32} {l : Int32} (hu : ¬ own_lat g l) (h0 : ¬ (255 : Int32) < g 0) (h1 : ¬ (255 : Int32) < g 1) (h2 : ¬ (255 : Int32) < g 2) : (3 : Int32) < l := Classical.byContradiction fun q => hu fun i hi => by
  have hj : i < 3 := by
    have a : (3 : Int32).toInt = 3 := by decide
    rw [Int32.lt_iff_toInt_lt] at q
    have : i < l.toInt.toNat := hi
    omega
  rcases (by omega : i = 0 ∨ i = 1 ∨ i = 2) with rfl | rfl | rfl <;> assumption
theorem own_more4 {g : Nat → Int32} {l : Int32} (hu : ¬ own_lat g l) (h0 : ¬ (255 : Int32) < g 0) (h1 : ¬ (255 : Int32) < g 1) (h2 : ¬ (255 : Int32) < g 2) (h3 : ¬ (255 : Int32) < g 3) : (4 : Int32) < l := Classical.byContradiction fun q => hu fun i hi => by
  have hj : i < 4 := by
    have a : (4 : Int32).toInt = 4 := by decide
    rw [Int32.lt_iff_toInt_lt] at q
    have : i < l.toInt.toNat := hi
    omega
  rcases (by omega : i = 0 ∨ i = 1 ∨ i = 2 ∨ i = 3) with rfl | rfl | rfl | rfl <;> assumption
theorem own_more5 {g : Nat → Int32} {l : Int32} (hu : ¬ own_lat g l) (h0 : ¬ (255 : Int32) < g 0) (h1 : ¬ (255 : Int32) < g 1) (h2 : ¬ (255 : Int32) < g 2) (h3 : ¬ (255 : Int32) < g 3) (h4 : ¬ (255 : Int32) < g 4) : (5 : Int32) < l := Classical.byContradiction fun q => hu fun i hi => by
  have hj : i < 5 := by
    have a : (5 : Int32).toInt = 5 := by decide
    rw [Int32.lt_iff_toInt_lt] at q
    have : i < l.toInt.toNat := hi
    omega
  rcases (by omega : i = 0 ∨ i = 1 ∨ i = 2 ∨ i = 3 ∨ i = 4) with rfl | rfl | rfl | rfl | rfl <;> assumption
def own_fn (xs : List Int32) : Nat → Int32 := fun i => xs.getD i 0
theorem own_fnC {Z : State} {h : Heap} {a : Addr} {k : ClassId} {n : Int32} {xs : List Int32} (F : Arv Z h a k .char n (xs.map Value.int) (.int 0)) : OwnC Z h a n (own_fn xs) := by
  obtain ⟨c, A, -, S, N, H, -⟩ := F
  refine ⟨c, A, S, N, fun i hi => ?_⟩
  rw [H i (S ▸ hi)]
  show some ((xs.map Value.int).getD i (.int 0)) = some (.int (xs.getD i 0))
  rw [List.getD_eq_getElem?_getD, List.getD_eq_getElem?_getD, List.getElem?_map]
  cases xs[i]? <;> rfl
theorem own_fnch (xs : List Int32) (h : ∀ x ∈ xs, ¬ x < 0 ∧ ¬ (65535 : Int32) < x) : own_ch (own_fn xs) := fun i => by
  show ¬ xs.getD i 0 < 0 ∧ ¬ (65535 : Int32) < xs.getD i 0
  rw [List.getD_eq_getElem?_getD]
  cases q : xs[i]? with
  | none => exact ⟨by decide, by decide⟩
  | some x => exact h x (List.mem_of_getElem? q)
theorem own_nch (x : Int32) : ¬ nar .char x < 0 ∧ ¬ (65535 : Int32) < nar .char x := by
  have e : (nar .char x).toInt = x.toInt % 65536 := by
    show (x.toUInt32.toUInt16.toUInt32.toInt32).toInt = _
    have w : x.toUInt32.toUInt16.toUInt32.toInt32.toBitVec = BitVec.setWidth 32 (BitVec.setWidth 16 x.toBitVec) := by
      apply BitVec.eq_of_toNat_eq; simp; omega
    have q : (x.toUInt32.toUInt16.toUInt32.toInt32).toInt = (BitVec.setWidth 32 (BitVec.setWidth 16 x.toBitVec)).toInt := congrArg BitVec.toInt w
    rw [q, BitVec.toInt_eq_toNat_cond, BitVec.toNat_setWidth, BitVec.toNat_setWidth]
    have r : x.toInt = x.toBitVec.toInt := rfl
    rw [r, BitVec.toInt_eq_toNat_cond]
    have b := x.toBitVec.isLt
    split <;> split <;> omega
  have a0 : (0 : Int32).toInt = 0 := by decide
  have a1 : (65535 : Int32).toInt = 65535 := by decide
  rw [Int32.lt_iff_toInt_lt, Int32.lt_iff_toInt_lt, e]; omega
theorem own_mrem (x y : Int32) (hy : 0 < y.toInt) : ((x &&& (2147483647 : Int32)) % y).toInt = (x.toInt % 2147483648) % y.toInt := by
  have e : (x &&& (2147483647 : Int32)).toInt = x.toInt % ((2 ^ 31 : Nat) : Int) := c_mask x _ 31 (by decide) (by decide)
  rw [Int32.toInt_mod, e]
  have : (0 : Int) ≤ x.toInt % ((2 ^ 31 : Nat) : Int) := Int.emod_nonneg _ (by decide)
  rw [Int.tmod_eq_emod_of_nonneg this]; rfl
theorem own_ibT {p : Program} {l : Launch} {e : Env} {R : Room} {s : State} {vm0 : Vm} {m : MethodId} {args : Array Value} {below : List Frame} {meth : Method} {c : Code} {T : State} {locs : List Loc} {cells slots : Nat} {Z : State} {Ts : List String} (X : Stand p l e R (s.setVm vm0) m args below meth c T locs cells slots) (I : IB Z vm0 Ts) : IB Z T.vm Ts := by
  obtain ⟨more, q, r⟩ := I
  exact ⟨more, X.warmed.interned_eq.trans q, r⟩
theorem own_backI {p : Program} {l : Launch} {e : Env} {R : Room} {s : State} {args : Array Value} {below : List Frame} {Z : State} {a0 : Array Value} {h : Heap} {Ts Ts' : List String} {y : MethodName} {bytes : ByteArray} {maxL : Nat} {ret : Option FieldType} {rm : Room} {len W : Nat} {as' : Array Value} {Q : Option Value → Heap → List Loc → Prop}
    (hM : MetFree l y (head1 [Cond.code y bytes maxL ret] rm) (fun a U => a = as' ∧ Z.Warmed39 U.vm ∧ U.heap = h ∧ IB Z U.vm Ts) (fun _ _ _ _ _ => True) (fun _ U o U' => ∃ v L, o = .returned v ∧ Q v U'.heap L ∧ IB Z U'.vm Ts' ∧ ReturnedEndW U o U' L rm.cells rm.slots))
    (hZ : Z.Warmed39 s.vm) (I : IB Z s.vm Ts) (wc : (Cond.code y bytes maxL ret).before a0 Z = true) (wz : (Cond.initialized y.cls).before a0 Z = true) (hf : rm.frames + 1 ≤ R.frames) (hl : W + (maxL + 11) + rm.locals ≤ R.locals) :
    BackS l R p e below s args y len W (fun A a => a = as' ∧ A.U.heap = h ∧ A.cells + rm.cells ≤ R.cells ∧ A.slots + rm.slots ≤ R.slots)
      (fun A _ v B => ∃ L, Q v B.U.heap L ∧ B.locs = A.locs ++ L ∧ B.cells = A.cells + rm.cells ∧ B.slots = A.slots + rm.slots ∧ IB Z B.U.vm Ts') := by
  refine BackS.of_freeW (bytes := bytes) (maxL := maxL) (ret := ret) (E := fun _ _ o t L k n => (k = rm.cells ∧ n = rm.slots) ∧ IB Z t.vm Ts' ∧ ∃ v, o = .returned v ∧ Q v t.heap L) hM hf hl ?_ ?_ ?_ ?_ ?_
  · intro m meth c A a Y hp
    have hU : Z.Warmed39 A.U.vm := wtrans hZ Y.warmed
    refine ⟨?_, mv hU wc, mv hU wz, hp.2.2⟩
    show (Cond.and _ .tt).before a A.U = true
    rw [Cond.before_and, mv hU wc]; rfl
  · intro m meth c A a g mk Y hp
    obtain ⟨more, q, r⟩ := I
    exact ⟨hp.1, wtrans hZ Y.warmed, hp.2.1, more, Y.warmed.interned_eq.trans q, r⟩
  · intros; trivial
  · rintro _ _ _ _ ⟨v, L, h1, h2, h3, h4⟩
    exact ⟨L, _, _, h4, ⟨rfl, rfl⟩, h3, v, h1, h2⟩
  · intro m meth c A a g mk v t L k n Y hp _ _ hE
    obtain ⟨⟨e1, e2⟩, e3, v', e4, e5⟩ := hE
    cases e4; subst e1 e2
    exact ⟨L, e5, rfl, rfl, rfl, e3⟩
theorem OwnS.empty {Z : State} {h : Heap} {a b : Addr} {k : ClassId} {vs : List Value} {d : Value} (x : Exa Z h a "java/lang/String") (fc : Fld Z h a "java/lang/String" "coder" "B" (.int 0)) (fv : Fld Z h a "java/lang/String" "value" "[B" (.ref b)) (A : Arv Z h b k .byte (0 : Int32) vs d) (f : Nat → Int32) : OwnS Z h a b (0 : Int32) f := by
  obtain ⟨c, A1, -, S, N, -⟩ := A
  have z0 : (0 : Int32).toNatClampNeg = 0 := by decide
  exact ⟨x, fv, Or.inl ⟨fc, ⟨c, A1, S, N, fun i hi => by rw [z0] at hi; exact absurd hi (Nat.not_lt_zero i)⟩, fun i hi => by rw [z0] at hi; exact absurd hi (Nat.not_lt_zero i)⟩⟩
theorem own_slS {Z U : State} {a : Addr} (hal : Z.vm.Alike U.vm) (F : SlOf U a #[]) : ∃ b, ∀ f : Nat → Int32, OwnS Z U.heap a b (0 : Int32) f := by
  obtain ⟨q, cS, rfl, ⟨S, hfS, hcS⟩, ⟨kS, k1, k2, k3⟩, hB, hby⟩ := F
  obtain ⟨ha, hkn, hst, ⟨cv, kv, iv, fv, av⟩, ⟨cc, kc, ic, fc, ac⟩, sv, sc, vv, vc, hd, ⟨an, kA, hkA, comp, hkind⟩, hkd, -⟩ := S
  obtain ⟨kv', zv⟩ := ff_back hal fv
  obtain ⟨kc', zc⟩ := ff_back hal fc
  have zS : Z.vm.findClass "java/lang/String" = some q.sC.cls := by rw [hcS, ← hal.findClass]; exact hfS
  obtain ⟨kz, hkz, -⟩ := Vm.findClass_spec zS
  obtain ⟨kz', hkz', ez⟩ := hal.2.2 _ _ hkz
  have e1 : kz' = kS := Option.some.inj (hkz'.symm.trans (by rw [hcS]; exact k1))
  have zB : Z.vm.findClass "[B" = some q.SA.cls := by rw [← hal.findClass]; exact hB
  obtain ⟨kb, hkb, -⟩ := Vm.findClass_spec zB
  obtain ⟨kb', hkb', eb⟩ := hal.2.2 _ _ hkb
  have e2 : kA = kb' := Option.some.inj (hkA.symm.trans hkb')
  have z0 : (0 : Int32).toNatClampNeg = 0 := by decide
  have sz : q.SA.slots.size = 0 := by rw [hby]; simp [stringBytes]
  refine ⟨q.sd, fun f => ⟨⟨q.sC, kz, ha, zS, hkz, hst, fun _ => ?_⟩, ⟨q.sC, cv, kv', iv, q.fSV, ha, zv, sv, hkn, hst, ?_, vv⟩, Or.inl ⟨⟨q.sC, cc, kc', ic, q.fSC, ha, zc, sc, hkn, hst, ?_, vc⟩, ⟨q.SA, ⟨hd, ⟨an, kb, hkb, comp, ?_⟩, hkd⟩, by rw [sz, z0], by decide, fun i hi => ?_⟩, fun i hi => ?_⟩⟩⟩
  · rw [k3, ← e1, ez]
  · rw [← hal.assignable]; exact av
  · rw [← hal.assignable]; exact ac
  · rw [e2, eb] at hkind; exact hkind
  · rw [z0] at hi; exact absurd hi (Nat.not_lt_zero i)
  · rw [z0] at hi; exact absurd hi (Nat.not_lt_zero i)
theorem own_wsH (T : State) (cB cS : ClassId) (kS : Class) (fv fc : Field) (u : Array UInt16) : (withString T cB cS kS fv fc u).heap = (T.heap.push (bytesOf cB u)).push (stringAt cS kS fv fc u T.heap.size) := by
  rw [withString_eq]; rfl
theorem own_ldcW0 {p : Program} {l : Launch} {e : Env} {R : Room} {s : State} {m : MethodId} {args : Array Value} {below : List Frame} {meth : Method} {c : Code} {T : State} {locs : List Loc} {cells slots : Nat} {Z : State} {a0 : Array Value} {h : Heap} {vm0 : Vm} {Ts : List String} {own : String} {index : Nat} (X : Stand p l e R (s.setVm vm0) m args below meth c T locs cells slots) (hx : p.tables.exec = Jvm.exec) (hZ : Z.Warmed39 vm0) (hown : vm0.findClass own = some m.cls) (w : (Cond.stringLink own index "").before a0 Z = true) (wS : ∀ a ∈ Bundle.stringAtoms, a.before a0 Z = true)
    (eT : T.heap = h) {k0 : Nat} (hS : s.Since vm0 k0) (hk : k0 ≤ h.size) (N : Fr s.heap.size locs) (hkeep : ∀ (b : Addr) (cl : Cell), Z.heap[b]? = some cl → s.heap[b]? = some cl) (I : IB Z vm0 Ts) (hnot : "" ∉ Ts) (hh : Jvm.Lit.constHeld Z own index) (hcw : Jvm.Lit.compactW.before a0 Z = true)
    {g : JFrame} (hg : g.method = m) (hd : decode c.code g.pc = .ok (.ldc_w index, 3)) (hc : cells + 2 ≤ R.cells) (hl' : slots + 4 ≤ R.slots) :
    ∃ (a : Addr) (T' : State) (h' : Heap) (k1 : Nat) (b : Addr), Stand p l e R (s.setVm T'.vm) m args below meth c T' locs (cells + 2) (slots + 4) ∧ T'.heap = h' ∧ Ext h h' ∧ s.Since T'.vm k1 ∧ k1 ≤ h'.size ∧ Z.Warmed39 T'.vm ∧ T'.vm.findClass own = some m.cls ∧ (∀ f : Nat → Int32, OwnS Z h' a b (0 : Int32) f) ∧ IB Z T'.vm ("" :: Ts) ∧
      ∀ target, Steps p.tables e below (T'.setTop { g with pc := g.pc + 3, stack := .ref a :: g.stack }) target → Steps p.tables e below (T.setTop g) target := by
  have wi : (Cond.instantiable "java/lang/String" 4).before a0 Z = true := wS _ (List.mem_of_getElem? (i := 1) rfl)
  have wa : (Cond.arrayClass .byte).before a0 Z = true := wS _ (List.mem_of_getElem? (i := 2) rfl)
  have ht : ∀ c ∈ "".toList, c.toNat < 256 := fun c q => by simp at q
  have hH : ConstHeldL (s.setVm vm0) own index := heldCarry hZ w I hnot hkeep (heldStart hh w ht hcw wa wi)
  have hat : ∀ a ∈ Bundle.stringAtoms, a.before args (s.setVm vm0) = true := fun d q => by
    have r := wS d q
    simp only [Bundle.stringAtoms, List.mem_cons, List.not_mem_nil, or_false] at q
    rcases q with rfl | rfl | rfl | rfl | rfl | rfl | rfl
    · exact mv (s := s.setVm vm0) hZ r
    · exact mv (s := s.setVm vm0) hZ r
    · exact mvA (s := s.setVm vm0) hZ r
    · exact mv (s := s.setVm vm0) hZ r
    · exact mv (s := s.setVm vm0) hZ r
    · exact mv (s := s.setVm vm0) hZ r
    · exact mv (s := s.setVm vm0) hZ r
  obtain ⟨k, cf, i, units, hk1, hcf, hpi, hpu, hnm, htx, hres⟩ := Cond.stringLink_spec (s := s.setVm vm0) (args := args) hown (mvS hZ w)
  have u0 : units = #[] := Array.toList_inj.mp (Jvm.ClassFile.units_of_text htx ht)
  subst u0
  obtain ⟨k', hk', he, -, hent, -⟩ := X.warmed.2.2 _ k hk1
  have hcf' : k'.cf = some cf := by rw [he]; exact hcf
  have hTi : T.vm.interned = vm0.interned := X.warmed.interned_eq
  have old := oldF X N
  have fin : ∀ (a : Addr) (T' : State), Stand p l e R ((s.setVm vm0).setVm T'.vm) m args below meth c T' locs (cells + 2) (slots + 4) → (s.setVm vm0).Warmed39 T'.vm → T.Interned1 T' → (∀ x, x < T.heap.size → T'.heap[x]? = T.heap[x]?) → (T'.vm.interned = T.vm.interned ∨ ∃ (u : Array UInt16) (a' : Addr), utf16ToString? u = some "" ∧ T'.vm.interned = T.vm.interned.push (u, a')) → SlOf T' a #[] → (∀ target, Steps p.tables e below (T'.setTop { g with pc := g.pc + 3, stack := .ref a :: g.stack }) target → Steps p.tables e below (T.setTop g) target) →
      ∃ (a : Addr) (T' : State) (h' : Heap) (k1 : Nat) (b : Addr), Stand p l e R (s.setVm T'.vm) m args below meth c T' locs (cells + 2) (slots + 4) ∧ T'.heap = h' ∧ Ext h h' ∧ s.Since T'.vm k1 ∧ k1 ≤ h'.size ∧ Z.Warmed39 T'.vm ∧ T'.vm.findClass own = some m.cls ∧ (∀ f : Nat → Int32, OwnS Z h' a b (0 : Int32) f) ∧ IB Z T'.vm ("" :: Ts) ∧
      ∀ target, Steps p.tables e below (T'.setTop { g with pc := g.pc + 3, stack := .ref a :: g.stack }) target → Steps p.tables e below (T.setTop g) target := by
    intro a T' X' hW h1 hb hint F st
    have E := ext_of hb
    have hZ' : Z.Warmed39 T'.vm := State.Warmed39.trans (t := s.setVm vm0) hZ hW
    obtain ⟨b, hO⟩ := own_slS hZ'.alike F
    subst eT
    exact ⟨a, T', _, T'.heap.size, b, X', rfl, E, hS.trans ⟨hW, State.Booked.step (X.warmed.no_new_pair _) X.same.2.1 h1⟩ (Nat.le_trans hk E.1), Nat.le_refl _, hZ', by rw [hW.alike.findClass]; exact hown, hO, I.step (by rw [← hTi]; exact hint), st⟩
  rcases hent index with e0 | ⟨-, r, e1, hr⟩
  · rcases hres with h0 | ⟨a, h0⟩
    · have q2 : k.cf.bind (namesOf? ·.constantPool index) = some (.string "") := by rw [hcf]; exact hnm
      have q3 : k.cf.bind (·.constantPool[index]?) = some (.string i) := by rw [hcf]; exact hpi
      have q4 : k.cf.bind (·.constantPool.utf8? i) = some #[] := by rw [hcf]; simp [ConstantPool.utf8?, hpu]
      have hop : k'.resolved[index]? = some none := e0.trans h0
      subst hg
      cases hf : T.vm.interned.find? (fun p => p.1 == (#[] : Array UInt16)) with
      | some pr =>
        obtain ⟨u', a⟩ := pr
        obtain rfl : u' = #[] := by have := Array.find?_some hf; simpa using this
        have hW : (s.setVm vm0).Warmed39 (T.vm.noted g.method.cls index (.string a)) := X.warmed.wide.notedString hk1 (Or.inl h0) q2 q3 q4 hf
        refine fin a (T.setVm (T.vm.noted g.method.cls index (.string a))) ((X.mono (by omega) (by omega)).retabled hW) hW ⟨Nat.le_refl _, Or.inl rfl⟩ (fun _ _ => rfl) (Or.inl rfl) ((hH _ k cf i #[] a hown hk1 hcf hpi hpu (Or.inr ⟨h0, by rw [show (s.setVm vm0).vm.interned = T.vm.interned from hTi.symm]; exact hf⟩)).moved hW.alike old) (fun target hrest => ?_)
        jvm_step X.here [hx, hd, ldc_w.wp_string_found (e := e) (s := T) (f := g) X.here.top hk' hcf' hpi hpu hop hf]
        exact hrest
      | none =>
        obtain ⟨Zs, LZ, hn4, fitv, fitc⟩ := StringT.of_atoms (args := args) hat
        obtain ⟨kS', kB', LT, hty⟩ := LZ.warmer X.warmed.alike
        have hfs : T.fitsSlot = (s.setVm vm0).fitsSlot := (show T.fitsSlot = ((s.setVm vm0).setVm T.vm).fitsSlot from rfl).trans (State.fitsSlot_setVm X.warmed.alike)
        have hfind : (T.vm.interned.push ((#[] : Array UInt16), T.heap.size + 1)).find? (fun p => p.1 == (#[] : Array UInt16)) = some (#[], T.heap.size + 1) := by
          rw [Array.find?_push, hf]; simp
        have hW : (s.setVm vm0).Warmed39 (({ T.vm with interned := T.vm.interned.push (#[], T.heap.size + 1) } : Vm).noted g.method.cls index (.string (T.heap.size + 1))) :=
          (X.warmed.wide.interns #[] (T.heap.size + 1)).notedString hk1 (Or.inl h0) q2 q3 q4 hfind
        have hp := own_wsH T Zs.cB Zs.cS kS' Zs.fv Zs.fc #[]
        have b0 : (stringBytes #[]).size = 0 := by simp [stringBytes]
        have c1 : (bytesOf Zs.cB #[]).slots.size = 0 := by rw [(Cell.writeAll_facts _ _).2.2]; simp [bytes0, b0]
        have c2 : (stringAt Zs.cS kS' Zs.fv Zs.fc #[] T.heap.size).slots.size = 4 := by simp [string0, Cell.setSlot, hty, hn4]
        have X2 := (X.pushed (bytesOf Zs.cB #[])).pushed (stringAt Zs.cS kS' Zs.fv Zs.fc #[] T.heap.size)
        rw [← withString_eq] at X2
        have g1 : ∀ x, x < T.heap.size → (withString T Zs.cB Zs.cS kS' Zs.fv Zs.fc #[]).heap[x]? = T.heap[x]? := fun x hx => by
          rw [hp, Array.getElem?_push, if_neg (by rw [Array.size_push]; omega), Array.getElem?_push, if_neg (by omega)]
        have g2 : (withString T Zs.cB Zs.cS kS' Zs.fv Zs.fc #[]).heap[T.heap.size]? = some (bytesOf Zs.cB #[]) := by
          rw [hp, Array.getElem?_push, if_neg (by rw [Array.size_push]; omega), Array.getElem?_push, if_pos rfl]
        have g3 : (withString T Zs.cB Zs.cS kS' Zs.fv Zs.fc #[]).heap[T.heap.size + 1]? = some (stringAt Zs.cS kS' Zs.fv Zs.fc #[] T.heap.size) := by
          rw [hp, Array.getElem?_push, if_pos (by rw [Array.size_push])]
        have g4 : (withString T Zs.cB Zs.cS kS' Zs.fv Zs.fc #[]).heap.size = T.heap.size + 2 := by
          rw [hp, Array.size_push, Array.size_push]
        have hsl : SlOf ((withString T Zs.cB Zs.cS kS' Zs.fv Zs.fc #[]).setVm (({ T.vm with interned := T.vm.interned.push (#[], T.heap.size + 1) } : Vm).noted g.method.cls index (.string (T.heap.size + 1)))) (T.heap.size + 1) #[] := by
          obtain ⟨q, cS, r1, r2, r3, r4, r5, -⟩ := made_sl (W := (withString T Zs.cB Zs.cS kS' Zs.fv Zs.fc #[]).setVm (({ T.vm with interned := T.vm.interned.push (#[], T.heap.size + 1) } : Vm).noted g.method.cls index (.string (T.heap.size + 1)))) hat LZ hn4 hty hW.alike g2 g3 (by simp) (by rw [b0]; decide) 0
          exact ⟨q, cS, r1, r2, r3, r4, r5⟩
        have h1 : T.Interned1 ((withString T Zs.cB Zs.cS kS' Zs.fv Zs.fc #[]).setVm (({ T.vm with interned := T.vm.interned.push (#[], T.heap.size + 1) } : Vm).noted g.method.cls index (.string (T.heap.size + 1)))) :=
          ⟨by show T.heap.size ≤ (withString T Zs.cB Zs.cS kS' Zs.fv Zs.fc #[]).heap.size; omega, Or.inr ⟨#[], T.heap.size + 1, rfl, by omega, by show T.heap.size + 1 < (withString T Zs.cB Zs.cS kS' Zs.fv Zs.fc #[]).heap.size; omega⟩⟩
        have X3 : Stand p l e R (s.setVm vm0) g.method args below meth c (withString T Zs.cB Zs.cS kS' Zs.fv Zs.fc #[]) locs (cells + 2) (slots + 4) := X2.mono (by omega) (by rw [c1, c2]; omega)
        refine fin (T.heap.size + 1) ((withString T Zs.cB Zs.cS kS' Zs.fv Zs.fc #[]).setVm (({ T.vm with interned := T.vm.interned.push (#[], T.heap.size + 1) } : Vm).noted g.method.cls index (.string (T.heap.size + 1)))) (X3.retabled hW) hW h1 g1 (Or.inr ⟨#[], T.heap.size + 1, htx, rfl⟩) hsl (fun target hrest => ?_)
        refine Steps.instr (c := _) (by simpa using X.here) ?_
        simp [jvm, wpRun, exec, X.here.top, hx, hd]
        refine ldc_w.wp_string_new (e := e) (s := T) (f := g) X.here.top hk' hcf' hpi hpu hop hf LT.found LT.cls LT.initialized LT.ordinary LT.foundB LT.clsB LT.kindB LT.value LT.coder ?_ ?_ (X.cellsAbove hc) ?_ (stringBytes_fit LT.clsB LT.kindB #[]) LT.valueSlot LT.coderSlot (by rw [hfs]; exact fitv _) (by rw [hfs]; exact fitc _) ?_
        · rw [b0]; exact Nat.not_lt_zero _
        · rw [b0, Nat.zero_mul]; exact Nat.not_lt_zero _
        · have r := X.slotsAbove hl'
          rw [b0, hty, hn4]; exact r
        · intro d' acts' acts''
          have t1 : (withString T Zs.cB Zs.cS kS' Zs.fv Zs.fc #[]).topJava?.isSome := by simpa [withString] using X.here.top
          have t2 : ((withString T Zs.cB Zs.cS kS' Zs.fv Zs.fc #[]).setVm (({ T.vm with interned := T.vm.interned.push (#[], T.heap.size + 1) } : Vm).noted g.method.cls index (.string (T.heap.size + 1)))).topJava?.isSome := by simpa using t1
          simp [jvm, afterInstr, t1, t2]
          rw [State.modifyTopJava_setTop]
          exact hrest
    · have hr' : k'.resolved[index]? = some (some (.string a)) := e0.trans h0
      subst hg
      refine fin a T ((X.mono (by omega) (by omega)).retabled X.warmed.wide) X.warmed.wide ⟨Nat.le_refl _, Or.inl rfl⟩ (fun _ _ => rfl) (Or.inl rfl) ((hH _ k cf i #[] a hown hk1 hcf hpi hpu (Or.inl h0)).moved X.warmed.alike old) (fun target hrest => ?_)
      jvm_step X.here [hx, hd, ldc_w.wp_string (e := e) (s := T) (f := g) X.here.top hk' hcf' hpi hr']
      exact hrest
  · exfalso
    have hk2 : vm0.classes[m.cls]? = some k := hk1
    cases r <;> simp [State.rightAt, hk2, hcf, hnm] at hr
theorem own_eqI {args : Array Value} {s : State} {t : Term} {k : Int32} (h : (Jvm.Cond.eq t (Jvm.Term.int k)).value args s none s [] = some true) : t.eval args s none [] s = some (.int k) := by
  obtain ⟨x, y, hx, hy, k1, k2⟩ := cmp_v (Or.inl h)
  obtain rfl : Value.int k = y := Option.some.inj ((Term.int_eval k).symm.trans hy)
  cases x <;> first | (rw [hx]; exact congrArg (fun z => some (Value.int z)) (by simpa [Cond.value, hx, hy] using h)) | (obtain ⟨z, hz⟩ := k1; cases hz; done) | (exact absurd k1.2 (by decide))
theorem own_eqL {args : Array Value} {s : State} {t : Term} {k : Int64} (h : (Jvm.Cond.eq t (Jvm.Term.long k)).value args s none s [] = some true) : t.eval args s none [] s = some (.long k) := by
  obtain ⟨x, y, hx, hy, k1, k2⟩ := cmp_v (Or.inl h)
  obtain rfl : Value.long k = y := Option.some.inj ((long_at k).symm.trans hy)
  cases x <;> first | (rw [hx]; exact congrArg (fun z => some (Value.long z)) (by simpa [Cond.value, hx, hy] using h)) | (obtain ⟨z, hz⟩ := k1; cases hz; done) | (exact absurd k1.2 (by decide))
theorem own_fmt {args : Array Value} {s : State} (h : (Cond.isRef (Term.static "jdk/internal/util/Preconditions" "SIOOBE_FORMATTER" "Ljava/util/function/BiFunction;")).value args s none s [] = some true) (hi : (Cond.initializedFor "jdk/internal/util/Preconditions" "SIOOBE_FORMATTER" "Ljava/util/function/BiFunction;").before args s = true) : Fmt s := by
  have k : ∃ v, (Term.static "jdk/internal/util/Preconditions" "SIOOBE_FORMATTER" "Ljava/util/function/BiFunction;").eval args s none [] s = some v ∧ v.isRef = true := by
    simp only [Cond.value] at h
    cases q : (Term.static "jdk/internal/util/Preconditions" "SIOOBE_FORMATTER" "Ljava/util/function/BiFunction;").eval args s none [] s with
    | none => rw [q] at h; cases h
    | some v => rw [q] at h; exact ⟨v, rfl, by cases v <;> simp_all [Value.isRef]⟩
  obtain ⟨v, ev, hv⟩ := k
  rcases ref_cases hv with rfl | ⟨a, rfl⟩
  · exact Or.inl (Sta.start ev (Or.inl hi))
  · exact Or.inr ⟨a, Sta.start ev (Or.inl hi)⟩
theorem own_off {x off : Int32} (eo : off = ((x &&& (2147483647 : Int32)) % (5 : Int32))) : ∃ a : Fin 6, off = Int32.ofNat a.val ∧ a.val < 5 := by
  have e := own_mrem x (5 : Int32) (by decide)
  rw [← eo, show (5 : Int32).toInt = 5 by decide] at e
  have a0 : (0 : Int32).toInt = 0 := by decide
  have a5 : (5 : Int32).toInt = 5 := by decide
  obtain ⟨a, rfl⟩ := own_fin off (by rw [Int32.lt_iff_toInt_lt]; omega) (by rw [Int32.lt_iff_toInt_lt]; omega)
  have k : ∀ a : Fin 6, (Int32.ofNat a.val).toInt = (a.val : Int) := by decide
  have ka := k a
  exact ⟨a, rfl, by omega⟩
theorem own_nzm {x off : Int32} (eo : off = ((x &&& (2147483647 : Int32)) % (5 : Int32))) : ((5 : Int32) - off) ≠ 0 := by
  obtain ⟨a, rfl, ha⟩ := own_off eo
  exact (by decide : ∀ a : Fin 6, a.val < 5 → ((5 : Int32) - Int32.ofNat a.val) ≠ 0) a ha
theorem own_rgm {x y off ln : Int32} (eo : off = ((x &&& (2147483647 : Int32)) % (5 : Int32))) (el : ln = ((y &&& (2147483647 : Int32)) % ((5 : Int32) - off))) : own_rg off ln (4 : Int32) := by
  obtain ⟨a, rfl, ha⟩ := own_off eo
  have q : ∀ a : Fin 6, a.val < 5 → ((5 : Int32) - Int32.ofNat a.val).toInt = 5 - (a.val : Int) := by decide
  have qa := q a ha
  have e := own_mrem y ((5 : Int32) - Int32.ofNat a.val) (by omega)
  rw [← el, qa] at e
  have h1 : 0 ≤ ln.toInt := by rw [e]; exact Int.emod_nonneg _ (by omega)
  have h2 : ln.toInt < 5 - (a.val : Int) := by rw [e]; exact Int.emod_lt_of_pos _ (by omega)
  have a0 : (0 : Int32).toInt = 0 := by decide
  have a5 : (5 : Int32).toInt = 5 := by decide
  obtain ⟨b, rfl⟩ := own_fin ln (by rw [Int32.lt_iff_toInt_lt]; omega) (by rw [Int32.lt_iff_toInt_lt]; omega)
  have k : ∀ a : Fin 6, (Int32.ofNat a.val).toInt = (a.val : Int) := by decide
  have kb := k b
  exact (by decide : ∀ a b : Fin 6, a.val + b.val < 5 → own_rg (Int32.ofNat a.val) (Int32.ofNat b.val) (4 : Int32)) a b (by omega)
theorem pn_0 : plainName "jdk/internal/util/Preconditions" = true := by first | (simp [plainName, overriddenIn]; done) | decide +kernel
theorem ef_27n (m : MethodId) (x0 : Int32) (x1 : Int32) : entryFrame m #[(.int x0), (.int x1), .null] 3 = mkF m 0 #[.val (.int x0), .val (.int x1), .val .null] [] := by first | (simp [entryFrame, mkF, argsToLocals, Value.category]; done) | rfl
theorem d27_0 : decode jdk_41_method_11_code 0 = .ok (.iload_n 0, 1) := by decide +kernel
theorem d27_1 : decode jdk_41_method_11_code 1 = .ok (.ifCond .lt 8, 3) := by decide +kernel
theorem d27_4 : decode jdk_41_method_11_code 4 = .ok (.iload_n 0, 1) := by decide +kernel
theorem d27_5 : decode jdk_41_method_11_code 5 = .ok (.iload_n 1, 1) := by decide +kernel
theorem d27_6 : decode jdk_41_method_11_code 6 = .ok (.if_icmp .lt 10, 3) := by decide +kernel
theorem d27_16 : decode jdk_41_method_11_code 16 = .ok (.iload_n 0, 1) := by decide +kernel
theorem d27_17 : decode jdk_41_method_11_code 17 = .ok (.ireturn, 1) := by decide +kernel
def Q27n (Z : State) (p1 : Int32) (p2 : Int32) (h0 : Heap) (n0 : Nat) (v : Option Value) (h : Heap) (L : List Loc) : Prop := v = some (.int p1) ∧ Fr n0 L ∧ (h = h0)
set_option maxRecDepth 65536 in
set_option maxHeartbeats 40000000 in
theorem rm27n (l : Launch) (Z : State) (a0 : Array Value) (hw : ∀ d ∈ tables_1, d.before a0 Z = true) (ws : List Jvm.Cond) (p1 : Int32) (p2 : Int32) (h0 : Heap) (n0 : Nat) (Z0 : n0 ≤ h0.size) (h1 : ¬ (p1 < (0 : Int32))) (h2 : p1 < p2) :
    MetFree l (⟨"jdk/internal/util/Preconditions", "checkIndex", "(IILjava/util/function/BiFunction;)I"⟩ : MethodName) (head1 (Jvm.Cond.code (⟨"jdk/internal/util/Preconditions", "checkIndex", "(IILjava/util/function/BiFunction;)I"⟩ : MethodName) jdk_41_method_11_code 3 (some .int) :: ws) ({ frames := 0, cells := 0, slots := 0, locals := 0 } : Room)) (fun a U => a = #[(.int p1), (.int p2), .null] ∧ Z.Warmed39 U.vm ∧ U.heap = h0) (fun _ _ _ _ _ => True) (fun _ U o U' => ∃ v L, o = .returned v ∧ Q27n Z p1 p2 h0 n0 v U'.heap L ∧ FrameEnd U o U' L ({ frames := 0, cells := 0, slots := 0, locals := 0 } : Room).cells ({ frames := 0, cells := 0, slots := 0, locals := 0 } : Room).slots) := by
  refine MetFree.of_bodySF (plainFor_of_name pn_0) hisR ?_
  intro p e s m args below meth c s₁ Bd hml0 hP hK
  obtain ⟨rfl, hZ0, hh⟩ := hP
  have hx := Bd.exec
  have hby := Bd.bytes
  have hml : c.maxLocals = 3 := hml0
  have hown0 : s.vm.findClass "jdk/internal/util/Preconditions" = some m.cls := findClass_of_methodNamed Bd.named
  have hnm := (name_of_methodNamed Bd.named Bd.method).1
  have hlk : meth.locks = false := by first | exact BodyLoose.notSynchronized Bd | exact Body.notSynchronized Bd
  have X0 : Stand p l e ({ frames := 0, cells := 0, slots := 0, locals := 0 } : Room) s m #[(.int p1), (.int p2), .null] below meth c s₁ [] 0 0 := Stand.of_body Bd
  have e0 : s₁.heap = h0 := by rw [← hh, Bd.state]; rfl
  have N0 := Fr.nil n0
  have pre0 : ∀ t, Steps p.tables e below (s₁.setTop (mkF m 0 #[.val (.int p1), .val (.int p2), .val .null] [])) t → Steps p.tables e below (s₁.setTop (entryFrame m #[(.int p1), (.int p2), .null] 3)) t := fun t k => castTop (ef_27n m p1 p2) k
  obtain ⟨fs, hr, hrun, hended, hW, hsame⟩ := X0.leave (v := some (.int p1)) (fun h => by rw [Bd.returns] at h; cases h) hlk
  refine ⟨_, _, pre0 _ ?_, hrun, hended, _, _, rfl, ?_, ⟨_, rfl⟩, hW, hsame.mono (by decide) (by decide)⟩
  · show Steps p.tables e below (s₁.setTop (mkF m 0 #[.val (.int p1), .val (.int p2), .val .null] [])) _
    refine XS.iloadN X0.here hx rfl (hb hby d27_0) rfl ?_
    show Steps p.tables e below (s₁.setTop (mkF m 1 #[.val (.int p1), .val (.int p2), .val .null] [(.int p1)])) _
    refine XS.ifNo X0.here hx rfl (hb hby d27_1) rfl ((if0 _ _).trans (flt h1).1) ?_
    show Steps p.tables e below (s₁.setTop (mkF m 4 #[.val (.int p1), .val (.int p2), .val .null] [])) _
    refine XS.iloadN X0.here hx rfl (hb hby d27_4) rfl ?_
    show Steps p.tables e below (s₁.setTop (mkF m 5 #[.val (.int p1), .val (.int p2), .val .null] [(.int p1)])) _
    refine XS.iloadN X0.here hx rfl (hb hby d27_5) rfl ?_
    show Steps p.tables e below (s₁.setTop (mkF m 6 #[.val (.int p1), .val (.int p2), .val .null] [(.int p2), (.int p1)])) _
    refine XS.icmpYes X0.here hx rfl (pc0 := 6) (pc' := 16) rfl (hb hby d27_6) rfl (tlt h2).1 (by decide) (by decide) ?_
    show Steps p.tables e below (s₁.setTop (mkF m 16 #[.val (.int p1), .val (.int p2), .val .null] [])) _
    refine XS.iloadN X0.here hx rfl (hb hby d27_16) rfl ?_
    show Steps p.tables e below (s₁.setTop (mkF m 17 #[.val (.int p1), .val (.int p2), .val .null] [(.int p1)])) _
    exact retI X0 hx Bd.returns (hb hby d27_17) hr
  · show Q27n Z p1 p2 h0 n0 _ s₁.heap _
    rw [e0]
    exact ⟨rfl, N0, rfl⟩
theorem ef_27r (m : MethodId) (x0 : Int32) (x1 : Int32) (x2 : Addr) : entryFrame m #[(.int x0), (.int x1), (.ref x2)] 3 = mkF m 0 #[.val (.int x0), .val (.int x1), .val (.ref x2)] [] := by first | (simp [entryFrame, mkF, argsToLocals, Value.category]; done) | rfl
def Q27r (Z : State) (p1 : Int32) (p2 : Int32) (a3 : Addr) (h0 : Heap) (n0 : Nat) (v : Option Value) (h : Heap) (L : List Loc) : Prop := v = some (.int p1) ∧ Fr n0 L ∧ (h = h0)
set_option maxRecDepth 65536 in
set_option maxHeartbeats 40000000 in
theorem rm27r (l : Launch) (Z : State) (a0 : Array Value) (hw : ∀ d ∈ tables_1, d.before a0 Z = true) (ws : List Jvm.Cond) (p1 : Int32) (p2 : Int32) (a3 : Addr) (h0 : Heap) (n0 : Nat) (Z0 : n0 ≤ h0.size) (h1 : ¬ (p1 < (0 : Int32))) (h2 : p1 < p2) :
    MetFree l (⟨"jdk/internal/util/Preconditions", "checkIndex", "(IILjava/util/function/BiFunction;)I"⟩ : MethodName) (head1 (Jvm.Cond.code (⟨"jdk/internal/util/Preconditions", "checkIndex", "(IILjava/util/function/BiFunction;)I"⟩ : MethodName) jdk_41_method_11_code 3 (some .int) :: ws) ({ frames := 0, cells := 0, slots := 0, locals := 0 } : Room)) (fun a U => a = #[(.int p1), (.int p2), (.ref a3)] ∧ Z.Warmed39 U.vm ∧ U.heap = h0) (fun _ _ _ _ _ => True) (fun _ U o U' => ∃ v L, o = .returned v ∧ Q27r Z p1 p2 a3 h0 n0 v U'.heap L ∧ FrameEnd U o U' L ({ frames := 0, cells := 0, slots := 0, locals := 0 } : Room).cells ({ frames := 0, cells := 0, slots := 0, locals := 0 } : Room).slots) := by
  refine MetFree.of_bodySF (plainFor_of_name pn_0) hisR ?_
  intro p e s m args below meth c s₁ Bd hml0 hP hK
  obtain ⟨rfl, hZ0, hh⟩ := hP
  have hx := Bd.exec
  have hby := Bd.bytes
  have hml : c.maxLocals = 3 := hml0
  have hown0 : s.vm.findClass "jdk/internal/util/Preconditions" = some m.cls := findClass_of_methodNamed Bd.named
  have hnm := (name_of_methodNamed Bd.named Bd.method).1
  have hlk : meth.locks = false := by first | exact BodyLoose.notSynchronized Bd | exact Body.notSynchronized Bd
  have X0 : Stand p l e ({ frames := 0, cells := 0, slots := 0, locals := 0 } : Room) s m #[(.int p1), (.int p2), (.ref a3)] below meth c s₁ [] 0 0 := Stand.of_body Bd
  have e0 : s₁.heap = h0 := by rw [← hh, Bd.state]; rfl
  have N0 := Fr.nil n0
  have pre0 : ∀ t, Steps p.tables e below (s₁.setTop (mkF m 0 #[.val (.int p1), .val (.int p2), .val (.ref a3)] [])) t → Steps p.tables e below (s₁.setTop (entryFrame m #[(.int p1), (.int p2), (.ref a3)] 3)) t := fun t k => castTop (ef_27r m p1 p2 a3) k
  obtain ⟨fs, hr, hrun, hended, hW, hsame⟩ := X0.leave (v := some (.int p1)) (fun h => by rw [Bd.returns] at h; cases h) hlk
  refine ⟨_, _, pre0 _ ?_, hrun, hended, _, _, rfl, ?_, ⟨_, rfl⟩, hW, hsame.mono (by decide) (by decide)⟩
  · show Steps p.tables e below (s₁.setTop (mkF m 0 #[.val (.int p1), .val (.int p2), .val (.ref a3)] [])) _
    refine XS.iloadN X0.here hx rfl (hb hby d27_0) rfl ?_
    show Steps p.tables e below (s₁.setTop (mkF m 1 #[.val (.int p1), .val (.int p2), .val (.ref a3)] [(.int p1)])) _
    refine XS.ifNo X0.here hx rfl (hb hby d27_1) rfl ((if0 _ _).trans (flt h1).1) ?_
    show Steps p.tables e below (s₁.setTop (mkF m 4 #[.val (.int p1), .val (.int p2), .val (.ref a3)] [])) _
    refine XS.iloadN X0.here hx rfl (hb hby d27_4) rfl ?_
    show Steps p.tables e below (s₁.setTop (mkF m 5 #[.val (.int p1), .val (.int p2), .val (.ref a3)] [(.int p1)])) _
    refine XS.iloadN X0.here hx rfl (hb hby d27_5) rfl ?_
    show Steps p.tables e below (s₁.setTop (mkF m 6 #[.val (.int p1), .val (.int p2), .val (.ref a3)] [(.int p2), (.int p1)])) _
    refine XS.icmpYes X0.here hx rfl (pc0 := 6) (pc' := 16) rfl (hb hby d27_6) rfl (tlt h2).1 (by decide) (by decide) ?_
    show Steps p.tables e below (s₁.setTop (mkF m 16 #[.val (.int p1), .val (.int p2), .val (.ref a3)] [])) _
    refine XS.iloadN X0.here hx rfl (hb hby d27_16) rfl ?_
    show Steps p.tables e below (s₁.setTop (mkF m 17 #[.val (.int p1), .val (.int p2), .val (.ref a3)] [(.int p1)])) _
    exact retI X0 hx Bd.returns (hb hby d27_17) hr
  · show Q27r Z p1 p2 a3 h0 n0 _ s₁.heap _
    rw [e0]
    exact ⟨rfl, N0, rfl⟩
theorem pn_1 : plainName "java/lang/String" = true := by first | (simp [plainName, overriddenIn]; done) | decide +kernel
theorem ef_26 (m : MethodId) (x0 : Int32) (x1 : Int32) : entryFrame m #[(.int x0), (.int x1)] 2 = mkF m 0 #[.val (.int x0), .val (.int x1)] [] := by first | (simp [entryFrame, mkF, argsToLocals, Value.category]; done) | rfl
theorem d26_0 : decode jdk_42_method_155_code 0 = .ok (.iload_n 0, 1) := by decide +kernel
theorem d26_1 : decode jdk_42_method_155_code 1 = .ok (.iload_n 1, 1) := by decide +kernel
theorem d26_2 : decode jdk_42_method_155_code 2 = .ok (.getstatic 1053, 3) := by decide +kernel
theorem d26_5 : decode jdk_42_method_155_code 5 = .ok (.invokestatic 1059, 3) := by decide +kernel
theorem pd_0 : parseMethodDescriptor "(IILjava/util/function/BiFunction;)I" = some ⟨[.int, .int, (.object "java/util/function/BiFunction")], some .int⟩ := by decide +kernel
theorem d26_8 : decode jdk_42_method_155_code 8 = .ok (.pop, 1) := by decide +kernel
theorem d26_9 : decode jdk_42_method_155_code 9 = .ok (.return_, 1) := by decide +kernel
def Q26 (Z : State) (p1 : Int32) (p2 : Int32) (w : Int32) (h0 : Heap) (n0 : Nat) (v : Option Value) (h : Heap) (L : List Loc) : Prop := v = none ∧ Fr n0 L ∧ (h = h0)
set_option maxRecDepth 65536 in
set_option maxHeartbeats 40000000 in
theorem rm26 (l : Launch) (Z : State) (a0 : Array Value) (hw : ∀ d ∈ tables_1, d.before a0 Z = true) (ws : List Jvm.Cond) (p1 : Int32) (p2 : Int32) (w : Int32) (h0 : Heap) (n0 : Nat) (Z0 : n0 ≤ h0.size) (O0 : Old Z n0 h0) (S0 : Sta Z Z.heap "java/lang/String" "COMPACT_STRINGS" "Z" (.int w)) (hw0 : ¬ (w = (0 : Int32))) (SA : Sta Z Z.heap "java/lang/StringUTF16" "$assertionsDisabled" "Z" (.int (1 : Int32))) (SHI : Sta Z Z.heap "java/lang/StringUTF16" "HI_BYTE_SHIFT" "I" (.int (0 : Int32))) (SLO : Sta Z Z.heap "java/lang/StringUTF16" "LO_BYTE_SHIFT" "I" (.int (8 : Int32))) (FM : Fmt Z) (h1 : ¬ (p1 < (0 : Int32))) (h2 : p1 < p2) :
    MetFree l (⟨"java/lang/String", "checkIndex", "(II)V"⟩ : MethodName) (head1 (Jvm.Cond.code (⟨"java/lang/String", "checkIndex", "(II)V"⟩ : MethodName) jdk_42_method_155_code 2 none :: ws) ({ frames := 1, cells := 0, slots := 0, locals := 14 } : Room)) (fun a U => a = #[(.int p1), (.int p2)] ∧ Z.Warmed39 U.vm ∧ U.heap = h0) (fun _ _ _ _ _ => True) (fun _ U o U' => ∃ v L, o = .returned v ∧ Q26 Z p1 p2 w h0 n0 v U'.heap L ∧ FrameEnd U o U' L ({ frames := 1, cells := 0, slots := 0, locals := 14 } : Room).cells ({ frames := 1, cells := 0, slots := 0, locals := 14 } : Room).slots) := by
  refine MetFree.of_bodySF (plainFor_of_name pn_1) hisR ?_
  intro p e s m args below meth c s₁ Bd hml0 hP hK
  obtain ⟨rfl, hZ0, hh⟩ := hP
  have hx := Bd.exec
  have hby := Bd.bytes
  have hml : c.maxLocals = 2 := hml0
  have hown0 : s.vm.findClass "java/lang/String" = some m.cls := findClass_of_methodNamed Bd.named
  have hnm := (name_of_methodNamed Bd.named Bd.method).1
  have hlk : meth.locks = false := by first | exact BodyLoose.notSynchronized Bd | exact Body.notSynchronized Bd
  have X0 : Stand p l e ({ frames := 1, cells := 0, slots := 0, locals := 14 } : Room) s m #[(.int p1), (.int p2)] below meth c s₁ [] 0 0 := Stand.of_body Bd
  have e0 : s₁.heap = h0 := by rw [← hh, Bd.state]; rfl
  have N0 := Fr.nil n0
  have pre0 : ∀ t, Steps p.tables e below (s₁.setTop (mkF m 0 #[.val (.int p1), .val (.int p2)] [])) t → Steps p.tables e below (s₁.setTop (entryFrame m #[(.int p1), (.int p2)] 2)) t := fun t k => castTop (ef_26 m p1 p2) k
  rcases FM with SF | ⟨fa, SF⟩
  · obtain ⟨T101, X101, e101, st101⟩ := getS2 X0 hx hZ0 hown0 (host := "") (Or.inl (hw _ (List.mem_of_getElem? (i := 81) rfl))) Via.refl e0 (Sta.ext O0.2 SF) (g := (mkF m 2 #[.val (.int p1), .val (.int p2)] [(.int p2), (.int p1)])) rfl (hb hby d26_2)
    obtain ⟨_, _, ⟨T102, L102, k102, n102⟩, -, X102, ⟨Lc102, hQ102, l102, y102, z102⟩, st102⟩ := Jvm.LawKit.callS X101 hx (y := (⟨"jdk/internal/util/Preconditions", "checkIndex", "(IILjava/util/function/BiFunction;)I"⟩ : MethodName)) hown0 (mvT hZ0 (hw _ (List.mem_of_getElem? (i := 133) rfl))) (mvT hZ0 (hw _ (List.mem_of_getElem? (i := 134) rfl))) (mvT hZ0 (hw _ (List.mem_of_getElem? (i := 82) rfl))) (mvT hZ0 (hw _ (List.mem_of_getElem? (i := 135) rfl))) (by decide) (backOf (W := 0) (rm27n l Z a0 hw [] p1 p2 h0 n0 Z0 h1 h2) hZ0 (hw _ (List.mem_of_getElem? (i := 135) rfl)) (hw _ (List.mem_of_getElem? (i := 82) rfl)) (by decide) (by decide)) (g := (mkF m 5 #[.val (.int p1), .val (.int p2)] [.null, (.int p2), (.int p1)])) rfl (by rw [hml]; rfl) (argsL := [(.int p1), (.int p2), .null]) (rest := []) (lenOf pd_0 rfl) rfl (by show 2 * 0 + _ ≤ _; exact Nat.le_of_eq rfl) (hb hby d26_5) (fun _ _ => ⟨rfl, e101, (by decide : 0 + 0 ≤ _), (by decide : 0 + 0 ≤ _)⟩)
    dsimp only [Pt.U, Pt.locs, Pt.cells, Pt.slots] at X102 l102 y102 z102 st102 hQ102
    subst l102 y102 z102
    obtain ⟨rfl, N102q, P102_0⟩ := hQ102
    have N102 := Fr.app N0 N102q
    obtain ⟨fs, hr, hrun, hended, hW, hsame⟩ := X102.leave (v := none) (fun _ => rfl) hlk
    refine ⟨_, _, pre0 _ ?_, hrun, hended, _, _, rfl, ?_, ⟨_, rfl⟩, hW, hsame.mono (by decide) (by decide)⟩
    · show Steps p.tables e below (s₁.setTop (mkF m 0 #[.val (.int p1), .val (.int p2)] [])) _
      refine XS.iloadN X0.here hx rfl (hb hby d26_0) rfl ?_
      show Steps p.tables e below (s₁.setTop (mkF m 1 #[.val (.int p1), .val (.int p2)] [(.int p1)])) _
      refine XS.iloadN X0.here hx rfl (hb hby d26_1) rfl ?_
      show Steps p.tables e below (s₁.setTop (mkF m 2 #[.val (.int p1), .val (.int p2)] [(.int p2), (.int p1)])) _
      refine st101 _ ?_
      show Steps p.tables e below (T101.setTop (mkF m 5 #[.val (.int p1), .val (.int p2)] [.null, (.int p2), (.int p1)])) _
      refine st102 _ ?_
      show Steps p.tables e below (T102.setTop (mkF m 8 #[.val (.int p1), .val (.int p2)] [(.int p1)])) _
      refine XS.pop X102.here hx rfl (hb hby d26_8) rfl rfl ?_
      show Steps p.tables e below (T102.setTop (mkF m 9 #[.val (.int p1), .val (.int p2)] [])) _
      exact X102.returnOut hx Bd.returns (hb hby d26_9) hr
    · show Q26 Z p1 p2 w h0 n0 _ T102.heap _
      rw [P102_0]
      exact ⟨rfl, N102, rfl⟩
  · obtain ⟨T103, X103, e103, st103⟩ := getS2 X0 hx hZ0 hown0 (host := "") (Or.inl (hw _ (List.mem_of_getElem? (i := 81) rfl))) Via.refl e0 (Sta.ext O0.2 SF) (g := (mkF m 2 #[.val (.int p1), .val (.int p2)] [(.int p2), (.int p1)])) rfl (hb hby d26_2)
    obtain ⟨_, _, ⟨T104, L104, k104, n104⟩, -, X104, ⟨Lc104, hQ104, l104, y104, z104⟩, st104⟩ := Jvm.LawKit.callS X103 hx (y := (⟨"jdk/internal/util/Preconditions", "checkIndex", "(IILjava/util/function/BiFunction;)I"⟩ : MethodName)) hown0 (mvT hZ0 (hw _ (List.mem_of_getElem? (i := 133) rfl))) (mvT hZ0 (hw _ (List.mem_of_getElem? (i := 134) rfl))) (mvT hZ0 (hw _ (List.mem_of_getElem? (i := 82) rfl))) (mvT hZ0 (hw _ (List.mem_of_getElem? (i := 135) rfl))) (by decide) (backOf (W := 0) (rm27r l Z a0 hw [] p1 p2 fa h0 n0 Z0 h1 h2) hZ0 (hw _ (List.mem_of_getElem? (i := 135) rfl)) (hw _ (List.mem_of_getElem? (i := 82) rfl)) (by decide) (by decide)) (g := (mkF m 5 #[.val (.int p1), .val (.int p2)] [(.ref fa), (.int p2), (.int p1)])) rfl (by rw [hml]; rfl) (argsL := [(.int p1), (.int p2), (.ref fa)]) (rest := []) (lenOf pd_0 rfl) rfl (by show 2 * 0 + _ ≤ _; exact Nat.le_of_eq rfl) (hb hby d26_5) (fun _ _ => ⟨rfl, e103, (by decide : 0 + 0 ≤ _), (by decide : 0 + 0 ≤ _)⟩)
    dsimp only [Pt.U, Pt.locs, Pt.cells, Pt.slots] at X104 l104 y104 z104 st104 hQ104
    subst l104 y104 z104
    obtain ⟨rfl, N104q, P104_0⟩ := hQ104
    have N104 := Fr.app N0 N104q
    obtain ⟨fs, hr, hrun, hended, hW, hsame⟩ := X104.leave (v := none) (fun _ => rfl) hlk
    refine ⟨_, _, pre0 _ ?_, hrun, hended, _, _, rfl, ?_, ⟨_, rfl⟩, hW, hsame.mono (by decide) (by decide)⟩
    · show Steps p.tables e below (s₁.setTop (mkF m 0 #[.val (.int p1), .val (.int p2)] [])) _
      refine XS.iloadN X0.here hx rfl (hb hby d26_0) rfl ?_
      show Steps p.tables e below (s₁.setTop (mkF m 1 #[.val (.int p1), .val (.int p2)] [(.int p1)])) _
      refine XS.iloadN X0.here hx rfl (hb hby d26_1) rfl ?_
      show Steps p.tables e below (s₁.setTop (mkF m 2 #[.val (.int p1), .val (.int p2)] [(.int p2), (.int p1)])) _
      refine st103 _ ?_
      show Steps p.tables e below (T103.setTop (mkF m 5 #[.val (.int p1), .val (.int p2)] [(.ref fa), (.int p2), (.int p1)])) _
      refine st104 _ ?_
      show Steps p.tables e below (T104.setTop (mkF m 8 #[.val (.int p1), .val (.int p2)] [(.int p1)])) _
      refine XS.pop X104.here hx rfl (hb hby d26_8) rfl rfl ?_
      show Steps p.tables e below (T104.setTop (mkF m 9 #[.val (.int p1), .val (.int p2)] [])) _
      exact X104.returnOut hx Bd.returns (hb hby d26_9) hr
    · show Q26 Z p1 p2 w h0 n0 _ T104.heap _
      rw [P104_0]
      exact ⟨rfl, N104, rfl⟩
theorem pn_2 : plainName "java/lang/StringUTF16" = true := by first | (simp [plainName, overriddenIn]; done) | decide +kernel
theorem ef_37 (m : MethodId) (x0 : Addr) : entryFrame m #[(.ref x0)] 1 = mkF m 0 #[.val (.ref x0)] [] := by first | (simp [entryFrame, mkF, argsToLocals, Value.category]; done) | rfl
theorem d37_0 : decode jdk_52_method_6_code 0 = .ok (.aload_n 0, 1) := by decide +kernel
theorem d37_1 : decode jdk_52_method_6_code 1 = .ok (.arraylength, 1) := by decide +kernel
theorem d37_2 : decode jdk_52_method_6_code 2 = .ok (.iconst 1, 1) := by decide +kernel
theorem d37_3 : decode jdk_52_method_6_code 3 = .ok (.ishr, 1) := by decide +kernel
theorem d37_4 : decode jdk_52_method_6_code 4 = .ok (.ireturn, 1) := by decide +kernel
def Q37 (Z : State) (a1 : Addr) (n : Int32) (f : Nat → Int32) (h0 : Heap) (n0 : Nat) (v : Option Value) (h : Heap) (L : List Loc) : Prop := v = some (.int n) ∧ Fr n0 L ∧ (h = h0)
set_option maxRecDepth 65536 in
set_option maxHeartbeats 40000000 in
theorem rm37 (l : Launch) (Z : State) (a0 : Array Value) (hw : ∀ d ∈ tables_1, d.before a0 Z = true) (ws : List Jvm.Cond) (a1 : Addr) (n : Int32) (f : Nat → Int32) (h0 : Heap) (n0 : Nat) (Z0 : n0 ≤ h0.size) (U1 : OwnU Z h0 a1 n f) (sm : own_sm n) :
    MetFree l (⟨"java/lang/StringUTF16", "length", "([B)I"⟩ : MethodName) (head1 (Jvm.Cond.code (⟨"java/lang/StringUTF16", "length", "([B)I"⟩ : MethodName) jdk_52_method_6_code 1 (some .int) :: ws) ({ frames := 0, cells := 0, slots := 0, locals := 0 } : Room)) (fun a U => a = #[(.ref a1)] ∧ Z.Warmed39 U.vm ∧ U.heap = h0) (fun _ _ _ _ _ => True) (fun _ U o U' => ∃ v L, o = .returned v ∧ Q37 Z a1 n f h0 n0 v U'.heap L ∧ FrameEnd U o U' L ({ frames := 0, cells := 0, slots := 0, locals := 0 } : Room).cells ({ frames := 0, cells := 0, slots := 0, locals := 0 } : Room).slots) := by
  refine MetFree.of_bodySF (plainFor_of_name pn_2) hisR ?_
  intro p e s m args below meth c s₁ Bd hml0 hP hK
  obtain ⟨rfl, hZ0, hh⟩ := hP
  have hx := Bd.exec
  have hby := Bd.bytes
  have hml : c.maxLocals = 1 := hml0
  have hown0 : s.vm.findClass "java/lang/StringUTF16" = some m.cls := findClass_of_methodNamed Bd.named
  have hnm := (name_of_methodNamed Bd.named Bd.method).1
  have hlk : meth.locks = false := by first | exact BodyLoose.notSynchronized Bd | exact Body.notSynchronized Bd
  have X0 : Stand p l e ({ frames := 0, cells := 0, slots := 0, locals := 0 } : Room) s m #[(.ref a1)] below meth c s₁ [] 0 0 := Stand.of_body Bd
  have e0 : s₁.heap = h0 := by rw [← hh, Bd.state]; rfl
  have N0 := Fr.nil n0
  have pre0 : ∀ t, Steps p.tables e below (s₁.setTop (mkF m 0 #[.val (.ref a1)] [])) t → Steps p.tables e below (s₁.setTop (entryFrame m #[(.ref a1)] 1)) t := fun t k => castTop (ef_37 m a1) k
  obtain ⟨cl101, Ar101, Sz101, Nn101, Hs101⟩ := (id U1)
  obtain ⟨fs, hr, hrun, hended, hW, hsame⟩ := X0.leave (v := some (.int ((own_d n) >>> ((1 : Int32) &&& 31)))) (fun h => by rw [Bd.returns] at h; cases h) hlk
  refine ⟨_, _, pre0 _ ?_, hrun, hended, _, _, rfl, ?_, ⟨_, rfl⟩, hW, hsame.mono (by decide) (by decide)⟩
  · show Steps p.tables e below (s₁.setTop (mkF m 0 #[.val (.ref a1)] [])) _
    refine XS.aloadN X0.here hx rfl (hb hby d37_0) rfl rfl ?_
    show Steps p.tables e below (s₁.setTop (mkF m 1 #[.val (.ref a1)] [(.ref a1)])) _
    refine X0.arraylength hx (by rw [e0]; exact Ar101.1) (State.isArrayOf_alike hZ0.alike Ar101.2.1) (g := (mkF m 1 #[.val (.ref a1)] [(.ref a1)])) rfl rfl (hb hby d37_1) _ ?_
    rw [len_of Sz101 Nn101]
    show Steps p.tables e below (s₁.setTop (mkF m 2 #[.val (.ref a1)] [(.int (own_d n))])) _
    refine XS.iconst X0.here hx rfl (hb hby d37_2) ?_
    show Steps p.tables e below (s₁.setTop (mkF m 3 #[.val (.ref a1)] [(.int (1 : Int32)), (.int (own_d n))])) _
    refine XS.ishr X0.here hx rfl (hb hby d37_3) rfl ?_
    show Steps p.tables e below (s₁.setTop (mkF m 4 #[.val (.ref a1)] [(.int ((own_d n) >>> ((1 : Int32) &&& 31)))])) _
    exact retI X0 hx Bd.returns (hb hby d37_4) hr
  · show Q37 Z a1 n f h0 n0 _ s₁.heap _
    rw [e0]
    exact ⟨(congrArg (fun z => some (Value.int z)) ((own_e1 (P := fun n => (own_d n >>> ((1 : Int32) &&& 31)) = n) sm (by decide +kernel)) : ((own_d n) >>> ((1 : Int32) &&& 31)) = n)), N0, rfl⟩
theorem ef_41 (m : MethodId) (x0 : Int32) (x1 : Addr) : entryFrame m #[(.int x0), (.ref x1)] 2 = mkF m 0 #[.val (.int x0), .val (.ref x1)] [] := by first | (simp [entryFrame, mkF, argsToLocals, Value.category]; done) | rfl
theorem d41_0 : decode jdk_52_method_91_code 0 = .ok (.iload_n 0, 1) := by decide +kernel
theorem d41_1 : decode jdk_52_method_91_code 1 = .ok (.aload_n 1, 1) := by decide +kernel
theorem d41_2 : decode jdk_52_method_91_code 2 = .ok (.invokestatic 48, 3) := by decide +kernel
theorem pd_1 : parseMethodDescriptor "([B)I" = some ⟨[(.array .byte)], some .int⟩ := by decide +kernel
theorem d41_5 : decode jdk_52_method_91_code 5 = .ok (.invokestatic 414, 3) := by decide +kernel
theorem pd_2 : parseMethodDescriptor "(II)V" = some ⟨[.int, .int], none⟩ := by decide +kernel
theorem d41_8 : decode jdk_52_method_91_code 8 = .ok (.return_, 1) := by decide +kernel
def Q41 (Z : State) (p1 : Int32) (a2 : Addr) (w : Int32) (n : Int32) (f : Nat → Int32) (h0 : Heap) (n0 : Nat) (v : Option Value) (h : Heap) (L : List Loc) : Prop := v = none ∧ Fr n0 L ∧ (h = h0)
set_option maxRecDepth 65536 in
set_option maxHeartbeats 40000000 in
theorem rm41 (l : Launch) (Z : State) (a0 : Array Value) (hw : ∀ d ∈ tables_1, d.before a0 Z = true) (ws : List Jvm.Cond) (p1 : Int32) (a2 : Addr) (w : Int32) (n : Int32) (f : Nat → Int32) (h0 : Heap) (n0 : Nat) (Z0 : n0 ≤ h0.size) (O0 : Old Z n0 h0) (S0 : Sta Z Z.heap "java/lang/String" "COMPACT_STRINGS" "Z" (.int w)) (hw0 : ¬ (w = (0 : Int32))) (SA : Sta Z Z.heap "java/lang/StringUTF16" "$assertionsDisabled" "Z" (.int (1 : Int32))) (SHI : Sta Z Z.heap "java/lang/StringUTF16" "HI_BYTE_SHIFT" "I" (.int (0 : Int32))) (SLO : Sta Z Z.heap "java/lang/StringUTF16" "LO_BYTE_SHIFT" "I" (.int (8 : Int32))) (FM : Fmt Z) (U1 : OwnU Z h0 a2 n f) (sm : own_sm n) (ix : own_ix p1 n) :
    MetFree l (⟨"java/lang/StringUTF16", "checkIndex", "(I[B)V"⟩ : MethodName) (head1 (Jvm.Cond.code (⟨"java/lang/StringUTF16", "checkIndex", "(I[B)V"⟩ : MethodName) jdk_52_method_91_code 2 none :: ws) ({ frames := 2, cells := 0, slots := 0, locals := 27 } : Room)) (fun a U => a = #[(.int p1), (.ref a2)] ∧ Z.Warmed39 U.vm ∧ U.heap = h0) (fun _ _ _ _ _ => True) (fun _ U o U' => ∃ v L, o = .returned v ∧ Q41 Z p1 a2 w n f h0 n0 v U'.heap L ∧ FrameEnd U o U' L ({ frames := 2, cells := 0, slots := 0, locals := 27 } : Room).cells ({ frames := 2, cells := 0, slots := 0, locals := 27 } : Room).slots) := by
  refine MetFree.of_bodySF (plainFor_of_name pn_2) hisR ?_
  intro p e s m args below meth c s₁ Bd hml0 hP hK
  obtain ⟨rfl, hZ0, hh⟩ := hP
  have hx := Bd.exec
  have hby := Bd.bytes
  have hml : c.maxLocals = 2 := hml0
  have hown0 : s.vm.findClass "java/lang/StringUTF16" = some m.cls := findClass_of_methodNamed Bd.named
  have hnm := (name_of_methodNamed Bd.named Bd.method).1
  have hlk : meth.locks = false := by first | exact BodyLoose.notSynchronized Bd | exact Body.notSynchronized Bd
  have X0 : Stand p l e ({ frames := 2, cells := 0, slots := 0, locals := 27 } : Room) s m #[(.int p1), (.ref a2)] below meth c s₁ [] 0 0 := Stand.of_body Bd
  have e0 : s₁.heap = h0 := by rw [← hh, Bd.state]; rfl
  have N0 := Fr.nil n0
  have pre0 : ∀ t, Steps p.tables e below (s₁.setTop (mkF m 0 #[.val (.int p1), .val (.ref a2)] [])) t → Steps p.tables e below (s₁.setTop (entryFrame m #[(.int p1), (.ref a2)] 2)) t := fun t k => castTop (ef_41 m p1 a2) k
  obtain ⟨_, _, ⟨T101, L101, k101, n101⟩, -, X101, ⟨Lc101, hQ101, l101, y101, z101⟩, st101⟩ := Jvm.LawKit.callS X0 hx (y := (⟨"java/lang/StringUTF16", "length", "([B)I"⟩ : MethodName)) hown0 (mvT hZ0 (hw _ (List.mem_of_getElem? (i := 170) rfl))) (mvT hZ0 (hw _ (List.mem_of_getElem? (i := 171) rfl))) (mvT hZ0 (hw _ (List.mem_of_getElem? (i := 18) rfl))) (mvT hZ0 (hw _ (List.mem_of_getElem? (i := 172) rfl))) (by decide) (backOf (W := 1) (rm37 l Z a0 hw [] a2 n f h0 n0 Z0 U1 sm) hZ0 (hw _ (List.mem_of_getElem? (i := 172) rfl)) (hw _ (List.mem_of_getElem? (i := 18) rfl)) (by decide) (by decide)) (g := (mkF m 2 #[.val (.int p1), .val (.ref a2)] [(.ref a2), (.int p1)])) rfl (by rw [hml]; rfl) (argsL := [(.ref a2)]) (rest := [(.int p1)]) (lenOf pd_1 rfl) rfl (by show 2 * 0 + _ ≤ _; exact Nat.le_of_eq rfl) (hb hby d41_2) (fun _ _ => ⟨rfl, e0, (by decide : 0 + 0 ≤ _), (by decide : 0 + 0 ≤ _)⟩)
  dsimp only [Pt.U, Pt.locs, Pt.cells, Pt.slots] at X101 l101 y101 z101 st101 hQ101
  subst l101 y101 z101
  obtain ⟨rfl, N101q, P101_0⟩ := hQ101
  have N101 := Fr.app N0 N101q
  obtain ⟨_, _, ⟨T102, L102, k102, n102⟩, -, X102, ⟨Lc102, hQ102, l102, y102, z102⟩, st102⟩ := Jvm.LawKit.callS X101 hx (y := (⟨"java/lang/String", "checkIndex", "(II)V"⟩ : MethodName)) hown0 (mvT hZ0 (hw _ (List.mem_of_getElem? (i := 189) rfl))) (mvT hZ0 (hw _ (List.mem_of_getElem? (i := 131) rfl))) (mvT hZ0 (hw _ (List.mem_of_getElem? (i := 4) rfl))) (mvT hZ0 (hw _ (List.mem_of_getElem? (i := 132) rfl))) (by decide) (backOf (W := 0) (rm26 l Z a0 hw [] p1 n w h0 n0 Z0 O0 S0 hw0 SA SHI SLO FM ix.1 ix.2) hZ0 (hw _ (List.mem_of_getElem? (i := 132) rfl)) (hw _ (List.mem_of_getElem? (i := 4) rfl)) (by decide) (by decide)) (g := (mkF m 5 #[.val (.int p1), .val (.ref a2)] [(.int n), (.int p1)])) rfl (by rw [hml]; rfl) (argsL := [(.int p1), (.int n)]) (rest := []) (lenOf pd_2 rfl) rfl (by show 2 * 0 + _ ≤ _; exact Nat.le_of_eq rfl) (hb hby d41_5) (fun _ _ => ⟨rfl, P101_0, (by decide : 0 + 0 ≤ _), (by decide : 0 + 0 ≤ _)⟩)
  dsimp only [Pt.U, Pt.locs, Pt.cells, Pt.slots] at X102 l102 y102 z102 st102 hQ102
  subst l102 y102 z102
  obtain ⟨rfl, N102q, P102_0⟩ := hQ102
  have N102 := Fr.app N101 N102q
  obtain ⟨fs, hr, hrun, hended, hW, hsame⟩ := X102.leave (v := none) (fun _ => rfl) hlk
  refine ⟨_, _, pre0 _ ?_, hrun, hended, _, _, rfl, ?_, ⟨_, rfl⟩, hW, hsame.mono (by decide) (by decide)⟩
  · show Steps p.tables e below (s₁.setTop (mkF m 0 #[.val (.int p1), .val (.ref a2)] [])) _
    refine XS.iloadN X0.here hx rfl (hb hby d41_0) rfl ?_
    show Steps p.tables e below (s₁.setTop (mkF m 1 #[.val (.int p1), .val (.ref a2)] [(.int p1)])) _
    refine XS.aloadN X0.here hx rfl (hb hby d41_1) rfl rfl ?_
    show Steps p.tables e below (s₁.setTop (mkF m 2 #[.val (.int p1), .val (.ref a2)] [(.ref a2), (.int p1)])) _
    refine st101 _ ?_
    show Steps p.tables e below (T101.setTop (mkF m 5 #[.val (.int p1), .val (.ref a2)] [(.int n), (.int p1)])) _
    refine st102 _ ?_
    show Steps p.tables e below (T102.setTop (mkF m 8 #[.val (.int p1), .val (.ref a2)] [])) _
    exact X102.returnOut hx Bd.returns (hb hby d41_8) hr
  · show Q41 Z p1 a2 w n f h0 n0 _ T102.heap _
    rw [P102_0]
    exact ⟨rfl, N102, rfl⟩
theorem ef_32 (m : MethodId) (x0 : Addr) (x1 : Int32) : entryFrame m #[(.ref x0), (.int x1)] 2 = mkF m 0 #[.val (.ref x0), .val (.int x1)] [] := by first | (simp [entryFrame, mkF, argsToLocals, Value.category]; done) | rfl
theorem d32_0 : decode jdk_52_method_5_code 0 = .ok (.getstatic 44, 3) := by decide +kernel
theorem d32_3 : decode jdk_52_method_5_code 3 = .ok (.ifCond .ne 25, 3) := by decide +kernel
theorem d32_28 : decode jdk_52_method_5_code 28 = .ok (.iload_n 1, 1) := by decide +kernel
theorem d32_29 : decode jdk_52_method_5_code 29 = .ok (.iconst 1, 1) := by decide +kernel
theorem d32_30 : decode jdk_52_method_5_code 30 = .ok (.ishl, 1) := by decide +kernel
theorem d32_31 : decode jdk_52_method_5_code 31 = .ok (.istore_n 1, 1) := by decide +kernel
theorem d32_32 : decode jdk_52_method_5_code 32 = .ok (.aload_n 0, 1) := by decide +kernel
theorem d32_33 : decode jdk_52_method_5_code 33 = .ok (.iload_n 1, 1) := by decide +kernel
theorem d32_34 : decode jdk_52_method_5_code 34 = .ok (.iinc 1 1, 3) := by decide +kernel
theorem d32_37 : decode jdk_52_method_5_code 37 = .ok (.baload, 1) := by decide +kernel
theorem d32_38 : decode jdk_52_method_5_code 38 = .ok (.sipush 255, 3) := by decide +kernel
theorem d32_41 : decode jdk_52_method_5_code 41 = .ok (.iand, 1) := by decide +kernel
theorem d32_42 : decode jdk_52_method_5_code 42 = .ok (.getstatic 59, 3) := by decide +kernel
theorem d32_45 : decode jdk_52_method_5_code 45 = .ok (.ishl, 1) := by decide +kernel
theorem d32_46 : decode jdk_52_method_5_code 46 = .ok (.aload_n 0, 1) := by decide +kernel
theorem d32_47 : decode jdk_52_method_5_code 47 = .ok (.iload_n 1, 1) := by decide +kernel
theorem d32_48 : decode jdk_52_method_5_code 48 = .ok (.baload, 1) := by decide +kernel
theorem d32_49 : decode jdk_52_method_5_code 49 = .ok (.sipush 255, 3) := by decide +kernel
theorem d32_52 : decode jdk_52_method_5_code 52 = .ok (.iand, 1) := by decide +kernel
theorem d32_53 : decode jdk_52_method_5_code 53 = .ok (.getstatic 63, 3) := by decide +kernel
theorem d32_56 : decode jdk_52_method_5_code 56 = .ok (.ishl, 1) := by decide +kernel
theorem d32_57 : decode jdk_52_method_5_code 57 = .ok (.ior, 1) := by decide +kernel
theorem d32_58 : decode jdk_52_method_5_code 58 = .ok (.i2c, 1) := by decide +kernel
theorem d32_59 : decode jdk_52_method_5_code 59 = .ok (.ireturn, 1) := by decide +kernel
def Q32 (Z : State) (a1 : Addr) (p2 : Int32) (w : Int32) (n : Int32) (f : Nat → Int32) (h0 : Heap) (n0 : Nat) (v : Option Value) (h : Heap) (L : List Loc) : Prop := v = some (.int (f p2.toNatClampNeg)) ∧ Fr n0 L ∧ (h = h0)
set_option maxRecDepth 65536 in
set_option maxHeartbeats 40000000 in
theorem rm32 (l : Launch) (Z : State) (a0 : Array Value) (hw : ∀ d ∈ tables_1, d.before a0 Z = true) (ws : List Jvm.Cond) (a1 : Addr) (p2 : Int32) (w : Int32) (n : Int32) (f : Nat → Int32) (h0 : Heap) (n0 : Nat) (Z0 : n0 ≤ h0.size) (O0 : Old Z n0 h0) (S0 : Sta Z Z.heap "java/lang/String" "COMPACT_STRINGS" "Z" (.int w)) (hw0 : ¬ (w = (0 : Int32))) (SA : Sta Z Z.heap "java/lang/StringUTF16" "$assertionsDisabled" "Z" (.int (1 : Int32))) (SHI : Sta Z Z.heap "java/lang/StringUTF16" "HI_BYTE_SHIFT" "I" (.int (0 : Int32))) (SLO : Sta Z Z.heap "java/lang/StringUTF16" "LO_BYTE_SHIFT" "I" (.int (8 : Int32))) (FM : Fmt Z) (U1 : OwnU Z h0 a1 n f) (sm : own_sm n) (ix : own_ix p2 n) (hf : own_ch f) :
    MetFree l (⟨"java/lang/StringUTF16", "getChar", "([BI)C"⟩ : MethodName) (head1 (Jvm.Cond.code (⟨"java/lang/StringUTF16", "getChar", "([BI)C"⟩ : MethodName) jdk_52_method_5_code 2 (some .char) :: ws) ({ frames := 0, cells := 0, slots := 0, locals := 0 } : Room)) (fun a U => a = #[(.ref a1), (.int p2)] ∧ Z.Warmed39 U.vm ∧ U.heap = h0) (fun _ _ _ _ _ => True) (fun _ U o U' => ∃ v L, o = .returned v ∧ Q32 Z a1 p2 w n f h0 n0 v U'.heap L ∧ FrameEnd U o U' L ({ frames := 0, cells := 0, slots := 0, locals := 0 } : Room).cells ({ frames := 0, cells := 0, slots := 0, locals := 0 } : Room).slots) := by
  refine MetFree.of_bodySF (plainFor_of_name pn_2) hisR ?_
  intro p e s m args below meth c s₁ Bd hml0 hP hK
  obtain ⟨rfl, hZ0, hh⟩ := hP
  have hx := Bd.exec
  have hby := Bd.bytes
  have hml : c.maxLocals = 2 := hml0
  have hown0 : s.vm.findClass "java/lang/StringUTF16" = some m.cls := findClass_of_methodNamed Bd.named
  have hnm := (name_of_methodNamed Bd.named Bd.method).1
  have hlk : meth.locks = false := by first | exact BodyLoose.notSynchronized Bd | exact Body.notSynchronized Bd
  have X0 : Stand p l e ({ frames := 0, cells := 0, slots := 0, locals := 0 } : Room) s m #[(.ref a1), (.int p2)] below meth c s₁ [] 0 0 := Stand.of_body Bd
  have e0 : s₁.heap = h0 := by rw [← hh, Bd.state]; rfl
  have N0 := Fr.nil n0
  have pre0 : ∀ t, Steps p.tables e below (s₁.setTop (mkF m 0 #[.val (.ref a1), .val (.int p2)] [])) t → Steps p.tables e below (s₁.setTop (entryFrame m #[(.ref a1), (.int p2)] 2)) t := fun t k => castTop (ef_32 m a1 p2) k
  obtain ⟨T101, X101, e101, st101⟩ := getS2 X0 hx hZ0 hown0 (host := "") (Or.inl (hw _ (List.mem_of_getElem? (i := 150) rfl))) Via.refl e0 (Sta.ext O0.2 SA) (g := (mkF m 0 #[.val (.ref a1), .val (.int p2)] [])) rfl (hb hby d32_0)
  obtain ⟨cl102, Ar102, Sz102, Nn102, Hs102⟩ := (id U1)
  obtain ⟨T103, X103, e103, st103⟩ := getS2 X101 hx hZ0 hown0 (host := "") (Or.inl (hw _ (List.mem_of_getElem? (i := 151) rfl))) Via.refl e101 (Sta.ext O0.2 SHI) (g := (mkF m 42 #[.val (.ref a1), .val (.int ((own_d p2) + (1 : Int32)))] [(.int (((f p2.toNatClampNeg >>> ((0 : Int32) &&& 31)).toInt8.toInt32) &&& (255 : Int32)))])) rfl (hb hby d32_42)
  obtain ⟨cl104, Ar104, Sz104, Nn104, Hs104⟩ := (id U1)
  obtain ⟨T105, X105, e105, st105⟩ := getS2 X103 hx hZ0 hown0 (host := "") (Or.inl (hw _ (List.mem_of_getElem? (i := 152) rfl))) Via.refl e103 (Sta.ext O0.2 SLO) (g := (mkF m 53 #[.val (.ref a1), .val (.int ((own_d p2) + (1 : Int32)))] [(.int (((f p2.toNatClampNeg >>> ((8 : Int32) &&& 31)).toInt8.toInt32) &&& (255 : Int32))), (.int ((((f p2.toNatClampNeg >>> ((0 : Int32) &&& 31)).toInt8.toInt32) &&& (255 : Int32)) <<< ((0 : Int32) &&& 31)))])) rfl (hb hby d32_53)
  obtain ⟨fs, hr, hrun, hended, hW, hsame⟩ := X105.leave (v := some (.int (nar .char ((((((f p2.toNatClampNeg >>> ((0 : Int32) &&& 31)).toInt8.toInt32) &&& (255 : Int32)) <<< ((0 : Int32) &&& 31)) ||| ((((f p2.toNatClampNeg >>> ((8 : Int32) &&& 31)).toInt8.toInt32) &&& (255 : Int32)) <<< ((8 : Int32) &&& 31))).toUInt32.toUInt16.toUInt32.toInt32)))) (fun h => by rw [Bd.returns] at h; cases h) hlk
  refine ⟨_, _, pre0 _ ?_, hrun, hended, _, _, rfl, ?_, ⟨_, rfl⟩, hW, hsame.mono (by decide) (by decide)⟩
  · show Steps p.tables e below (s₁.setTop (mkF m 0 #[.val (.ref a1), .val (.int p2)] [])) _
    refine st101 _ ?_
    show Steps p.tables e below (T101.setTop (mkF m 3 #[.val (.ref a1), .val (.int p2)] [(.int (1 : Int32))])) _
    refine XS.ifYes X101.here hx rfl (pc0 := 3) (pc' := 28) rfl (hb hby d32_3) rfl ((if0 _ _).trans (feq (by decide : ¬ ((1 : Int32) = (0 : Int32)))).2) (by decide) (by decide) ?_
    show Steps p.tables e below (T101.setTop (mkF m 28 #[.val (.ref a1), .val (.int p2)] [])) _
    refine XS.iloadN X101.here hx rfl (hb hby d32_28) rfl ?_
    show Steps p.tables e below (T101.setTop (mkF m 29 #[.val (.ref a1), .val (.int p2)] [(.int p2)])) _
    refine XS.iconst X101.here hx rfl (hb hby d32_29) ?_
    show Steps p.tables e below (T101.setTop (mkF m 30 #[.val (.ref a1), .val (.int p2)] [(.int (1 : Int32)), (.int p2)])) _
    refine XS.ishl X101.here hx rfl (hb hby d32_30) rfl ?_
    show Steps p.tables e below (T101.setTop (mkF m 31 #[.val (.ref a1), .val (.int p2)] [(.int (p2 <<< ((1 : Int32) &&& 31)))])) _
    rw [(show (p2 <<< ((1 : Int32) &&& 31)) = own_d p2 from rfl)]
    show Steps p.tables e below (T101.setTop (mkF m 31 #[.val (.ref a1), .val (.int p2)] [(.int (own_d p2))])) _
    refine XS.istoreN X101.here hx rfl (hb hby d32_31) rfl (l' := #[.val (.ref a1), .val (.int (own_d p2))]) rfl ?_
    show Steps p.tables e below (T101.setTop (mkF m 32 #[.val (.ref a1), .val (.int (own_d p2))] [])) _
    refine XS.aloadN X101.here hx rfl (hb hby d32_32) rfl rfl ?_
    show Steps p.tables e below (T101.setTop (mkF m 33 #[.val (.ref a1), .val (.int (own_d p2))] [(.ref a1)])) _
    refine XS.iloadN X101.here hx rfl (hb hby d32_33) rfl ?_
    show Steps p.tables e below (T101.setTop (mkF m 34 #[.val (.ref a1), .val (.int (own_d p2))] [(.int (own_d p2)), (.ref a1)])) _
    refine XS.iinc X101.here hx rfl (hb hby d32_34) rfl (l' := #[.val (.ref a1), .val (.int ((own_d p2) + (1 : Int32)))]) rfl ?_
    show Steps p.tables e below (T101.setTop (mkF m 37 #[.val (.ref a1), .val (.int ((own_d p2) + (1 : Int32)))] [(.int (own_d p2)), (.ref a1)])) _
    refine X101.baloadBytes hx (j := (own_d p2)) (v := (.int ((f p2.toNatClampNeg >>> ((0 : Int32) &&& 31)).toInt8.toInt32))) (by rw [e101]; exact Ar102.1) (State.isArrayOf_alike hZ0.alike Ar102.2.1) Ar102.2.2 (own_in0 sm ix Sz102) (own_rd0 sm ix Hs102) (g := (mkF m 37 #[.val (.ref a1), .val (.int ((own_d p2) + (1 : Int32)))] [(.int (own_d p2)), (.ref a1)])) rfl rfl (hb hby d32_37) _ ?_
    show Steps p.tables e below (T101.setTop (mkF m 38 #[.val (.ref a1), .val (.int ((own_d p2) + (1 : Int32)))] [(.int ((f p2.toNatClampNeg >>> ((0 : Int32) &&& 31)).toInt8.toInt32))])) _
    refine XS.sipush X101.here hx rfl (hb hby d32_38) ?_
    show Steps p.tables e below (T101.setTop (mkF m 41 #[.val (.ref a1), .val (.int ((own_d p2) + (1 : Int32)))] [(.int (255 : Int32)), (.int ((f p2.toNatClampNeg >>> ((0 : Int32) &&& 31)).toInt8.toInt32))])) _
    refine XS.iand X101.here hx rfl (hb hby d32_41) rfl ?_
    show Steps p.tables e below (T101.setTop (mkF m 42 #[.val (.ref a1), .val (.int ((own_d p2) + (1 : Int32)))] [(.int (((f p2.toNatClampNeg >>> ((0 : Int32) &&& 31)).toInt8.toInt32) &&& (255 : Int32)))])) _
    refine st103 _ ?_
    show Steps p.tables e below (T103.setTop (mkF m 45 #[.val (.ref a1), .val (.int ((own_d p2) + (1 : Int32)))] [(.int (0 : Int32)), (.int (((f p2.toNatClampNeg >>> ((0 : Int32) &&& 31)).toInt8.toInt32) &&& (255 : Int32)))])) _
    refine XS.ishl X103.here hx rfl (hb hby d32_45) rfl ?_
    show Steps p.tables e below (T103.setTop (mkF m 46 #[.val (.ref a1), .val (.int ((own_d p2) + (1 : Int32)))] [(.int ((((f p2.toNatClampNeg >>> ((0 : Int32) &&& 31)).toInt8.toInt32) &&& (255 : Int32)) <<< ((0 : Int32) &&& 31)))])) _
    refine XS.aloadN X103.here hx rfl (hb hby d32_46) rfl rfl ?_
    show Steps p.tables e below (T103.setTop (mkF m 47 #[.val (.ref a1), .val (.int ((own_d p2) + (1 : Int32)))] [(.ref a1), (.int ((((f p2.toNatClampNeg >>> ((0 : Int32) &&& 31)).toInt8.toInt32) &&& (255 : Int32)) <<< ((0 : Int32) &&& 31)))])) _
    refine XS.iloadN X103.here hx rfl (hb hby d32_47) rfl ?_
    show Steps p.tables e below (T103.setTop (mkF m 48 #[.val (.ref a1), .val (.int ((own_d p2) + (1 : Int32)))] [(.int ((own_d p2) + (1 : Int32))), (.ref a1), (.int ((((f p2.toNatClampNeg >>> ((0 : Int32) &&& 31)).toInt8.toInt32) &&& (255 : Int32)) <<< ((0 : Int32) &&& 31)))])) _
    refine X103.baloadBytes hx (j := ((own_d p2) + (1 : Int32))) (v := (.int ((f p2.toNatClampNeg >>> ((8 : Int32) &&& 31)).toInt8.toInt32))) (by rw [e103]; exact Ar104.1) (State.isArrayOf_alike hZ0.alike Ar104.2.1) Ar104.2.2 (own_in1 sm ix Sz104) (own_rd1 sm ix Hs104) (g := (mkF m 48 #[.val (.ref a1), .val (.int ((own_d p2) + (1 : Int32)))] [(.int ((own_d p2) + (1 : Int32))), (.ref a1), (.int ((((f p2.toNatClampNeg >>> ((0 : Int32) &&& 31)).toInt8.toInt32) &&& (255 : Int32)) <<< ((0 : Int32) &&& 31)))])) rfl rfl (hb hby d32_48) _ ?_
    show Steps p.tables e below (T103.setTop (mkF m 49 #[.val (.ref a1), .val (.int ((own_d p2) + (1 : Int32)))] [(.int ((f p2.toNatClampNeg >>> ((8 : Int32) &&& 31)).toInt8.toInt32)), (.int ((((f p2.toNatClampNeg >>> ((0 : Int32) &&& 31)).toInt8.toInt32) &&& (255 : Int32)) <<< ((0 : Int32) &&& 31)))])) _
    refine XS.sipush X103.here hx rfl (hb hby d32_49) ?_
    show Steps p.tables e below (T103.setTop (mkF m 52 #[.val (.ref a1), .val (.int ((own_d p2) + (1 : Int32)))] [(.int (255 : Int32)), (.int ((f p2.toNatClampNeg >>> ((8 : Int32) &&& 31)).toInt8.toInt32)), (.int ((((f p2.toNatClampNeg >>> ((0 : Int32) &&& 31)).toInt8.toInt32) &&& (255 : Int32)) <<< ((0 : Int32) &&& 31)))])) _
    refine XS.iand X103.here hx rfl (hb hby d32_52) rfl ?_
    show Steps p.tables e below (T103.setTop (mkF m 53 #[.val (.ref a1), .val (.int ((own_d p2) + (1 : Int32)))] [(.int (((f p2.toNatClampNeg >>> ((8 : Int32) &&& 31)).toInt8.toInt32) &&& (255 : Int32))), (.int ((((f p2.toNatClampNeg >>> ((0 : Int32) &&& 31)).toInt8.toInt32) &&& (255 : Int32)) <<< ((0 : Int32) &&& 31)))])) _
    refine st105 _ ?_
    show Steps p.tables e below (T105.setTop (mkF m 56 #[.val (.ref a1), .val (.int ((own_d p2) + (1 : Int32)))] [(.int (8 : Int32)), (.int (((f p2.toNatClampNeg >>> ((8 : Int32) &&& 31)).toInt8.toInt32) &&& (255 : Int32))), (.int ((((f p2.toNatClampNeg >>> ((0 : Int32) &&& 31)).toInt8.toInt32) &&& (255 : Int32)) <<< ((0 : Int32) &&& 31)))])) _
    refine XS.ishl X105.here hx rfl (hb hby d32_56) rfl ?_
    show Steps p.tables e below (T105.setTop (mkF m 57 #[.val (.ref a1), .val (.int ((own_d p2) + (1 : Int32)))] [(.int ((((f p2.toNatClampNeg >>> ((8 : Int32) &&& 31)).toInt8.toInt32) &&& (255 : Int32)) <<< ((8 : Int32) &&& 31))), (.int ((((f p2.toNatClampNeg >>> ((0 : Int32) &&& 31)).toInt8.toInt32) &&& (255 : Int32)) <<< ((0 : Int32) &&& 31)))])) _
    refine XS.ior X105.here hx rfl (hb hby d32_57) rfl ?_
    show Steps p.tables e below (T105.setTop (mkF m 58 #[.val (.ref a1), .val (.int ((own_d p2) + (1 : Int32)))] [(.int (((((f p2.toNatClampNeg >>> ((0 : Int32) &&& 31)).toInt8.toInt32) &&& (255 : Int32)) <<< ((0 : Int32) &&& 31)) ||| ((((f p2.toNatClampNeg >>> ((8 : Int32) &&& 31)).toInt8.toInt32) &&& (255 : Int32)) <<< ((8 : Int32) &&& 31))))])) _
    refine XS.i2c X105.here hx rfl (hb hby d32_58) rfl ?_
    show Steps p.tables e below (T105.setTop (mkF m 59 #[.val (.ref a1), .val (.int ((own_d p2) + (1 : Int32)))] [(.int ((((((f p2.toNatClampNeg >>> ((0 : Int32) &&& 31)).toInt8.toInt32) &&& (255 : Int32)) <<< ((0 : Int32) &&& 31)) ||| ((((f p2.toNatClampNeg >>> ((8 : Int32) &&& 31)).toInt8.toInt32) &&& (255 : Int32)) <<< ((8 : Int32) &&& 31))).toUInt32.toUInt16.toUInt32.toInt32))])) _
    exact retN X105 hx (t := .char) Bd.returns (by simp) (hb hby d32_59) hr
  · show Q32 Z a1 p2 w n f h0 n0 _ T105.heap _
    rw [e105]
    exact ⟨(congrArg (fun z => some (Value.int z)) ((congrArg (nar .char) (own_gc _ (hf _).1 (hf _).2)).trans (own_narC (hf _)) : (nar .char ((((((f p2.toNatClampNeg >>> ((0 : Int32) &&& 31)).toInt8.toInt32) &&& (255 : Int32)) <<< ((0 : Int32) &&& 31)) ||| ((((f p2.toNatClampNeg >>> ((8 : Int32) &&& 31)).toInt8.toInt32) &&& (255 : Int32)) <<< ((8 : Int32) &&& 31))).toUInt32.toUInt16.toUInt32.toInt32)) = (f p2.toNatClampNeg))), N0, rfl⟩
theorem ef_40 (m : MethodId) (x0 : Addr) (x1 : Int32) : entryFrame m #[(.ref x0), (.int x1)] 2 = mkF m 0 #[.val (.ref x0), .val (.int x1)] [] := by first | (simp [entryFrame, mkF, argsToLocals, Value.category]; done) | rfl
theorem d40_0 : decode jdk_52_method_83_code 0 = .ok (.iload_n 1, 1) := by decide +kernel
theorem d40_1 : decode jdk_52_method_83_code 1 = .ok (.aload_n 0, 1) := by decide +kernel
theorem d40_2 : decode jdk_52_method_83_code 2 = .ok (.invokestatic 67, 3) := by decide +kernel
theorem pd_3 : parseMethodDescriptor "(I[B)V" = some ⟨[.int, (.array .byte)], none⟩ := by decide +kernel
theorem d40_5 : decode jdk_52_method_83_code 5 = .ok (.aload_n 0, 1) := by decide +kernel
theorem d40_6 : decode jdk_52_method_83_code 6 = .ok (.iload_n 1, 1) := by decide +kernel
theorem d40_7 : decode jdk_52_method_83_code 7 = .ok (.invokestatic 71, 3) := by decide +kernel
theorem pd_4 : parseMethodDescriptor "([BI)C" = some ⟨[(.array .byte), .int], some .char⟩ := by decide +kernel
theorem d40_10 : decode jdk_52_method_83_code 10 = .ok (.ireturn, 1) := by decide +kernel
def Q40 (Z : State) (a1 : Addr) (p2 : Int32) (w : Int32) (n : Int32) (f : Nat → Int32) (h0 : Heap) (n0 : Nat) (v : Option Value) (h : Heap) (L : List Loc) : Prop := v = some (.int (f p2.toNatClampNeg)) ∧ Fr n0 L ∧ (h = h0)
set_option maxRecDepth 65536 in
set_option maxHeartbeats 40000000 in
theorem rm40 (l : Launch) (Z : State) (a0 : Array Value) (hw : ∀ d ∈ tables_1, d.before a0 Z = true) (ws : List Jvm.Cond) (a1 : Addr) (p2 : Int32) (w : Int32) (n : Int32) (f : Nat → Int32) (h0 : Heap) (n0 : Nat) (Z0 : n0 ≤ h0.size) (O0 : Old Z n0 h0) (S0 : Sta Z Z.heap "java/lang/String" "COMPACT_STRINGS" "Z" (.int w)) (hw0 : ¬ (w = (0 : Int32))) (SA : Sta Z Z.heap "java/lang/StringUTF16" "$assertionsDisabled" "Z" (.int (1 : Int32))) (SHI : Sta Z Z.heap "java/lang/StringUTF16" "HI_BYTE_SHIFT" "I" (.int (0 : Int32))) (SLO : Sta Z Z.heap "java/lang/StringUTF16" "LO_BYTE_SHIFT" "I" (.int (8 : Int32))) (FM : Fmt Z) (U1 : OwnU Z h0 a1 n f) (sm : own_sm n) (ix : own_ix p2 n) (hf : own_ch f) :
    MetFree l (⟨"java/lang/StringUTF16", "charAt", "([BI)C"⟩ : MethodName) (head1 (Jvm.Cond.code (⟨"java/lang/StringUTF16", "charAt", "([BI)C"⟩ : MethodName) jdk_52_method_83_code 2 (some .char) :: ws) ({ frames := 3, cells := 0, slots := 0, locals := 40 } : Room)) (fun a U => a = #[(.ref a1), (.int p2)] ∧ Z.Warmed39 U.vm ∧ U.heap = h0) (fun _ _ _ _ _ => True) (fun _ U o U' => ∃ v L, o = .returned v ∧ Q40 Z a1 p2 w n f h0 n0 v U'.heap L ∧ FrameEnd U o U' L ({ frames := 3, cells := 0, slots := 0, locals := 40 } : Room).cells ({ frames := 3, cells := 0, slots := 0, locals := 40 } : Room).slots) := by
  refine MetFree.of_bodySF (plainFor_of_name pn_2) hisR ?_
  intro p e s m args below meth c s₁ Bd hml0 hP hK
  obtain ⟨rfl, hZ0, hh⟩ := hP
  have hx := Bd.exec
  have hby := Bd.bytes
  have hml : c.maxLocals = 2 := hml0
  have hown0 : s.vm.findClass "java/lang/StringUTF16" = some m.cls := findClass_of_methodNamed Bd.named
  have hnm := (name_of_methodNamed Bd.named Bd.method).1
  have hlk : meth.locks = false := by first | exact BodyLoose.notSynchronized Bd | exact Body.notSynchronized Bd
  have X0 : Stand p l e ({ frames := 3, cells := 0, slots := 0, locals := 40 } : Room) s m #[(.ref a1), (.int p2)] below meth c s₁ [] 0 0 := Stand.of_body Bd
  have e0 : s₁.heap = h0 := by rw [← hh, Bd.state]; rfl
  have N0 := Fr.nil n0
  have pre0 : ∀ t, Steps p.tables e below (s₁.setTop (mkF m 0 #[.val (.ref a1), .val (.int p2)] [])) t → Steps p.tables e below (s₁.setTop (entryFrame m #[(.ref a1), (.int p2)] 2)) t := fun t k => castTop (ef_40 m a1 p2) k
  obtain ⟨_, _, ⟨T101, L101, k101, n101⟩, -, X101, ⟨Lc101, hQ101, l101, y101, z101⟩, st101⟩ := Jvm.LawKit.callS X0 hx (y := (⟨"java/lang/StringUTF16", "checkIndex", "(I[B)V"⟩ : MethodName)) hown0 (mvT hZ0 (hw _ (List.mem_of_getElem? (i := 186) rfl))) (mvT hZ0 (hw _ (List.mem_of_getElem? (i := 187) rfl))) (mvT hZ0 (hw _ (List.mem_of_getElem? (i := 18) rfl))) (mvT hZ0 (hw _ (List.mem_of_getElem? (i := 188) rfl))) (by decide) (backOf (W := 0) (rm41 l Z a0 hw [] p2 a1 w n f h0 n0 Z0 O0 S0 hw0 SA SHI SLO FM U1 sm ix) hZ0 (hw _ (List.mem_of_getElem? (i := 188) rfl)) (hw _ (List.mem_of_getElem? (i := 18) rfl)) (by decide) (by decide)) (g := (mkF m 2 #[.val (.ref a1), .val (.int p2)] [(.ref a1), (.int p2)])) rfl (by rw [hml]; rfl) (argsL := [(.int p2), (.ref a1)]) (rest := []) (lenOf pd_3 rfl) rfl (by show 2 * 0 + _ ≤ _; exact Nat.le_of_eq rfl) (hb hby d40_2) (fun _ _ => ⟨rfl, e0, (by decide : 0 + 0 ≤ _), (by decide : 0 + 0 ≤ _)⟩)
  dsimp only [Pt.U, Pt.locs, Pt.cells, Pt.slots] at X101 l101 y101 z101 st101 hQ101
  subst l101 y101 z101
  obtain ⟨rfl, N101q, P101_0⟩ := hQ101
  have N101 := Fr.app N0 N101q
  obtain ⟨_, _, ⟨T102, L102, k102, n102⟩, -, X102, ⟨Lc102, hQ102, l102, y102, z102⟩, st102⟩ := Jvm.LawKit.callS X101 hx (y := (⟨"java/lang/StringUTF16", "getChar", "([BI)C"⟩ : MethodName)) hown0 (mvT hZ0 (hw _ (List.mem_of_getElem? (i := 153) rfl))) (mvT hZ0 (hw _ (List.mem_of_getElem? (i := 154) rfl))) (mvT hZ0 (hw _ (List.mem_of_getElem? (i := 18) rfl))) (mvT hZ0 (hw _ (List.mem_of_getElem? (i := 155) rfl))) (by decide) (backOf (W := 0) (rm32 l Z a0 hw [] a1 p2 w n f h0 n0 Z0 O0 S0 hw0 SA SHI SLO FM U1 sm ix hf) hZ0 (hw _ (List.mem_of_getElem? (i := 155) rfl)) (hw _ (List.mem_of_getElem? (i := 18) rfl)) (by decide) (by decide)) (g := (mkF m 7 #[.val (.ref a1), .val (.int p2)] [(.int p2), (.ref a1)])) rfl (by rw [hml]; rfl) (argsL := [(.ref a1), (.int p2)]) (rest := []) (lenOf pd_4 rfl) rfl (by show 2 * 0 + _ ≤ _; exact Nat.le_of_eq rfl) (hb hby d40_7) (fun _ _ => ⟨rfl, P101_0, (by decide : 0 + 0 ≤ _), (by decide : 0 + 0 ≤ _)⟩)
  dsimp only [Pt.U, Pt.locs, Pt.cells, Pt.slots] at X102 l102 y102 z102 st102 hQ102
  subst l102 y102 z102
  obtain ⟨rfl, N102q, P102_0⟩ := hQ102
  have N102 := Fr.app N101 N102q
  obtain ⟨fs, hr, hrun, hended, hW, hsame⟩ := X102.leave (v := some (.int (nar .char (f p2.toNatClampNeg)))) (fun h => by rw [Bd.returns] at h; cases h) hlk
  refine ⟨_, _, pre0 _ ?_, hrun, hended, _, _, rfl, ?_, ⟨_, rfl⟩, hW, hsame.mono (by decide) (by decide)⟩
  · show Steps p.tables e below (s₁.setTop (mkF m 0 #[.val (.ref a1), .val (.int p2)] [])) _
    refine XS.iloadN X0.here hx rfl (hb hby d40_0) rfl ?_
    show Steps p.tables e below (s₁.setTop (mkF m 1 #[.val (.ref a1), .val (.int p2)] [(.int p2)])) _
    refine XS.aloadN X0.here hx rfl (hb hby d40_1) rfl rfl ?_
    show Steps p.tables e below (s₁.setTop (mkF m 2 #[.val (.ref a1), .val (.int p2)] [(.ref a1), (.int p2)])) _
    refine st101 _ ?_
    show Steps p.tables e below (T101.setTop (mkF m 5 #[.val (.ref a1), .val (.int p2)] [])) _
    refine XS.aloadN X101.here hx rfl (hb hby d40_5) rfl rfl ?_
    show Steps p.tables e below (T101.setTop (mkF m 6 #[.val (.ref a1), .val (.int p2)] [(.ref a1)])) _
    refine XS.iloadN X101.here hx rfl (hb hby d40_6) rfl ?_
    show Steps p.tables e below (T101.setTop (mkF m 7 #[.val (.ref a1), .val (.int p2)] [(.int p2), (.ref a1)])) _
    refine st102 _ ?_
    show Steps p.tables e below (T102.setTop (mkF m 10 #[.val (.ref a1), .val (.int p2)] [(.int (f p2.toNatClampNeg))])) _
    exact retN X102 hx (t := .char) Bd.returns (by simp) (hb hby d40_10) hr
  · show Q40 Z a1 p2 w n f h0 n0 _ T102.heap _
    rw [P102_0]
    exact ⟨(congrArg (fun z => some (Value.int z)) (own_narC (hf _) : (nar .char (f p2.toNatClampNeg)) = (f p2.toNatClampNeg))), N102, rfl⟩
theorem pn_3 : plainName "java/lang/StringLatin1" = true := by first | (simp [plainName, overriddenIn]; done) | decide +kernel
theorem ef_25 (m : MethodId) (x0 : Addr) (x1 : Int32) : entryFrame m #[(.ref x0), (.int x1)] 2 = mkF m 0 #[.val (.ref x0), .val (.int x1)] [] := by first | (simp [entryFrame, mkF, argsToLocals, Value.category]; done) | rfl
theorem d25_0 : decode jdk_43_method_2_code 0 = .ok (.iload_n 1, 1) := by decide +kernel
theorem d25_1 : decode jdk_43_method_2_code 1 = .ok (.aload_n 0, 1) := by decide +kernel
theorem d25_2 : decode jdk_43_method_2_code 2 = .ok (.arraylength, 1) := by decide +kernel
theorem d25_3 : decode jdk_43_method_2_code 3 = .ok (.invokestatic 9, 3) := by decide +kernel
theorem d25_6 : decode jdk_43_method_2_code 6 = .ok (.aload_n 0, 1) := by decide +kernel
theorem d25_7 : decode jdk_43_method_2_code 7 = .ok (.iload_n 1, 1) := by decide +kernel
theorem d25_8 : decode jdk_43_method_2_code 8 = .ok (.baload, 1) := by decide +kernel
theorem d25_9 : decode jdk_43_method_2_code 9 = .ok (.sipush 255, 3) := by decide +kernel
theorem d25_12 : decode jdk_43_method_2_code 12 = .ok (.iand, 1) := by decide +kernel
theorem d25_13 : decode jdk_43_method_2_code 13 = .ok (.i2c, 1) := by decide +kernel
theorem d25_14 : decode jdk_43_method_2_code 14 = .ok (.ireturn, 1) := by decide +kernel
def Q25 (Z : State) (a1 : Addr) (p2 : Int32) (w : Int32) (n : Int32) (f : Nat → Int32) (h0 : Heap) (n0 : Nat) (v : Option Value) (h : Heap) (L : List Loc) : Prop := v = some (.int (f p2.toNatClampNeg)) ∧ Fr n0 L ∧ (h = h0)
set_option maxRecDepth 65536 in
set_option maxHeartbeats 40000000 in
theorem rm25 (l : Launch) (Z : State) (a0 : Array Value) (hw : ∀ d ∈ tables_1, d.before a0 Z = true) (ws : List Jvm.Cond) (a1 : Addr) (p2 : Int32) (w : Int32) (n : Int32) (f : Nat → Int32) (h0 : Heap) (n0 : Nat) (Z0 : n0 ≤ h0.size) (O0 : Old Z n0 h0) (S0 : Sta Z Z.heap "java/lang/String" "COMPACT_STRINGS" "Z" (.int w)) (hw0 : ¬ (w = (0 : Int32))) (SA : Sta Z Z.heap "java/lang/StringUTF16" "$assertionsDisabled" "Z" (.int (1 : Int32))) (SHI : Sta Z Z.heap "java/lang/StringUTF16" "HI_BYTE_SHIFT" "I" (.int (0 : Int32))) (SLO : Sta Z Z.heap "java/lang/StringUTF16" "LO_BYTE_SHIFT" "I" (.int (8 : Int32))) (FM : Fmt Z) (L1 : OwnL Z h0 a1 n f) (ix : own_ix p2 n) (hl : own_lat f n) (hf : own_ch f) :
    MetFree l (⟨"java/lang/StringLatin1", "charAt", "([BI)C"⟩ : MethodName) (head1 (Jvm.Cond.code (⟨"java/lang/StringLatin1", "charAt", "([BI)C"⟩ : MethodName) jdk_43_method_2_code 2 (some .char) :: ws) ({ frames := 2, cells := 0, slots := 0, locals := 27 } : Room)) (fun a U => a = #[(.ref a1), (.int p2)] ∧ Z.Warmed39 U.vm ∧ U.heap = h0) (fun _ _ _ _ _ => True) (fun _ U o U' => ∃ v L, o = .returned v ∧ Q25 Z a1 p2 w n f h0 n0 v U'.heap L ∧ FrameEnd U o U' L ({ frames := 2, cells := 0, slots := 0, locals := 27 } : Room).cells ({ frames := 2, cells := 0, slots := 0, locals := 27 } : Room).slots) := by
  refine MetFree.of_bodySF (plainFor_of_name pn_3) hisR ?_
  intro p e s m args below meth c s₁ Bd hml0 hP hK
  obtain ⟨rfl, hZ0, hh⟩ := hP
  have hx := Bd.exec
  have hby := Bd.bytes
  have hml : c.maxLocals = 2 := hml0
  have hown0 : s.vm.findClass "java/lang/StringLatin1" = some m.cls := findClass_of_methodNamed Bd.named
  have hnm := (name_of_methodNamed Bd.named Bd.method).1
  have hlk : meth.locks = false := by first | exact BodyLoose.notSynchronized Bd | exact Body.notSynchronized Bd
  have X0 : Stand p l e ({ frames := 2, cells := 0, slots := 0, locals := 27 } : Room) s m #[(.ref a1), (.int p2)] below meth c s₁ [] 0 0 := Stand.of_body Bd
  have e0 : s₁.heap = h0 := by rw [← hh, Bd.state]; rfl
  have N0 := Fr.nil n0
  have pre0 : ∀ t, Steps p.tables e below (s₁.setTop (mkF m 0 #[.val (.ref a1), .val (.int p2)] [])) t → Steps p.tables e below (s₁.setTop (entryFrame m #[(.ref a1), (.int p2)] 2)) t := fun t k => castTop (ef_25 m a1 p2) k
  obtain ⟨cl101, Ar101, Sz101, Nn101, Hs101⟩ := (id L1)
  obtain ⟨_, _, ⟨T102, L102, k102, n102⟩, -, X102, ⟨Lc102, hQ102, l102, y102, z102⟩, st102⟩ := Jvm.LawKit.callS X0 hx (y := (⟨"java/lang/String", "checkIndex", "(II)V"⟩ : MethodName)) hown0 (mvT hZ0 (hw _ (List.mem_of_getElem? (i := 130) rfl))) (mvT hZ0 (hw _ (List.mem_of_getElem? (i := 131) rfl))) (mvT hZ0 (hw _ (List.mem_of_getElem? (i := 4) rfl))) (mvT hZ0 (hw _ (List.mem_of_getElem? (i := 132) rfl))) (by decide) (backOf (W := 0) (rm26 l Z a0 hw [] p2 n w h0 n0 Z0 O0 S0 hw0 SA SHI SLO FM ix.1 ix.2) hZ0 (hw _ (List.mem_of_getElem? (i := 132) rfl)) (hw _ (List.mem_of_getElem? (i := 4) rfl)) (by decide) (by decide)) (g := (mkF m 3 #[.val (.ref a1), .val (.int p2)] [(.int n), (.int p2)])) rfl (by rw [hml]; rfl) (argsL := [(.int p2), (.int n)]) (rest := []) (lenOf pd_2 rfl) rfl (by show 2 * 0 + _ ≤ _; exact Nat.le_of_eq rfl) (hb hby d25_3) (fun _ _ => ⟨rfl, e0, (by decide : 0 + 0 ≤ _), (by decide : 0 + 0 ≤ _)⟩)
  dsimp only [Pt.U, Pt.locs, Pt.cells, Pt.slots] at X102 l102 y102 z102 st102 hQ102
  subst l102 y102 z102
  obtain ⟨rfl, N102q, P102_0⟩ := hQ102
  have N102 := Fr.app N0 N102q
  obtain ⟨cl103, Ar103, Sz103, Nn103, Hs103⟩ := (id L1)
  obtain ⟨fs, hr, hrun, hended, hW, hsame⟩ := X102.leave (v := some (.int (nar .char ((((f p2.toNatClampNeg).toInt8.toInt32) &&& (255 : Int32)).toUInt32.toUInt16.toUInt32.toInt32)))) (fun h => by rw [Bd.returns] at h; cases h) hlk
  refine ⟨_, _, pre0 _ ?_, hrun, hended, _, _, rfl, ?_, ⟨_, rfl⟩, hW, hsame.mono (by decide) (by decide)⟩
  · show Steps p.tables e below (s₁.setTop (mkF m 0 #[.val (.ref a1), .val (.int p2)] [])) _
    refine XS.iloadN X0.here hx rfl (hb hby d25_0) rfl ?_
    show Steps p.tables e below (s₁.setTop (mkF m 1 #[.val (.ref a1), .val (.int p2)] [(.int p2)])) _
    refine XS.aloadN X0.here hx rfl (hb hby d25_1) rfl rfl ?_
    show Steps p.tables e below (s₁.setTop (mkF m 2 #[.val (.ref a1), .val (.int p2)] [(.ref a1), (.int p2)])) _
    refine X0.arraylength hx (by rw [e0]; exact Ar101.1) (State.isArrayOf_alike hZ0.alike Ar101.2.1) (g := (mkF m 2 #[.val (.ref a1), .val (.int p2)] [(.ref a1), (.int p2)])) rfl rfl (hb hby d25_2) _ ?_
    rw [len_of Sz101 Nn101]
    show Steps p.tables e below (s₁.setTop (mkF m 3 #[.val (.ref a1), .val (.int p2)] [(.int n), (.int p2)])) _
    refine st102 _ ?_
    show Steps p.tables e below (T102.setTop (mkF m 6 #[.val (.ref a1), .val (.int p2)] [])) _
    refine XS.aloadN X102.here hx rfl (hb hby d25_6) rfl rfl ?_
    show Steps p.tables e below (T102.setTop (mkF m 7 #[.val (.ref a1), .val (.int p2)] [(.ref a1)])) _
    refine XS.iloadN X102.here hx rfl (hb hby d25_7) rfl ?_
    show Steps p.tables e below (T102.setTop (mkF m 8 #[.val (.ref a1), .val (.int p2)] [(.int p2), (.ref a1)])) _
    refine X102.baloadBytes hx (j := p2) (v := (.int ((f p2.toNatClampNeg).toInt8.toInt32))) (by rw [P102_0]; exact Ar103.1) (State.isArrayOf_alike hZ0.alike Ar103.2.1) Ar103.2.2 (inb_of Sz103 ix) (Hs103 _ (own_ixlt ix)) (g := (mkF m 8 #[.val (.ref a1), .val (.int p2)] [(.int p2), (.ref a1)])) rfl rfl (hb hby d25_8) _ ?_
    show Steps p.tables e below (T102.setTop (mkF m 9 #[.val (.ref a1), .val (.int p2)] [(.int ((f p2.toNatClampNeg).toInt8.toInt32))])) _
    refine XS.sipush X102.here hx rfl (hb hby d25_9) ?_
    show Steps p.tables e below (T102.setTop (mkF m 12 #[.val (.ref a1), .val (.int p2)] [(.int (255 : Int32)), (.int ((f p2.toNatClampNeg).toInt8.toInt32))])) _
    refine XS.iand X102.here hx rfl (hb hby d25_12) rfl ?_
    show Steps p.tables e below (T102.setTop (mkF m 13 #[.val (.ref a1), .val (.int p2)] [(.int (((f p2.toNatClampNeg).toInt8.toInt32) &&& (255 : Int32)))])) _
    refine XS.i2c X102.here hx rfl (hb hby d25_13) rfl ?_
    show Steps p.tables e below (T102.setTop (mkF m 14 #[.val (.ref a1), .val (.int p2)] [(.int ((((f p2.toNatClampNeg).toInt8.toInt32) &&& (255 : Int32)).toUInt32.toUInt16.toUInt32.toInt32))])) _
    exact retN X102 hx (t := .char) Bd.returns (by simp) (hb hby d25_14) hr
  · show Q25 Z a1 p2 w n f h0 n0 _ T102.heap _
    rw [P102_0]
    exact ⟨(congrArg (fun z => some (Value.int z)) ((congrArg (nar .char) (own_lc _ (hf _).1 (hl _ (own_ixlt ix)))).trans (own_narC (hf _)) : (nar .char ((((f p2.toNatClampNeg).toInt8.toInt32) &&& (255 : Int32)).toUInt32.toUInt16.toUInt32.toInt32)) = (f p2.toNatClampNeg))), N102, rfl⟩
theorem ef_13 (m : MethodId) (x0 : Addr) : entryFrame m #[(.ref x0)] 1 = mkF m 0 #[.val (.ref x0)] [] := by first | (simp [entryFrame, mkF, argsToLocals, Value.category]; done) | rfl
theorem d13_0 : decode jdk_42_method_152_code 0 = .ok (.getstatic 38, 3) := by decide +kernel
theorem d13_3 : decode jdk_42_method_152_code 3 = .ok (.ifCond .eq 10, 3) := by decide +kernel
theorem d13_6 : decode jdk_42_method_152_code 6 = .ok (.aload_n 0, 1) := by decide +kernel
theorem d13_7 : decode jdk_42_method_152_code 7 = .ok (.getfield 15, 3) := by decide +kernel
theorem d13_10 : decode jdk_42_method_152_code 10 = .ok (.goto 4, 3) := by decide +kernel
theorem d13_14 : decode jdk_42_method_152_code 14 = .ok (.ireturn, 1) := by decide +kernel
def Q13 (Z : State) (a1 : Addr) (w : Int32) (cc : Int32) (h0 : Heap) (n0 : Nat) (v : Option Value) (h : Heap) (L : List Loc) : Prop := v = some (.int cc) ∧ Fr n0 L ∧ (h = h0)
set_option maxRecDepth 65536 in
set_option maxHeartbeats 40000000 in
theorem rm13 (l : Launch) (Z : State) (a0 : Array Value) (hw : ∀ d ∈ tables_1, d.before a0 Z = true) (ws : List Jvm.Cond) (a1 : Addr) (w : Int32) (cc : Int32) (h0 : Heap) (n0 : Nat) (Z0 : n0 ≤ h0.size) (O0 : Old Z n0 h0) (S0 : Sta Z Z.heap "java/lang/String" "COMPACT_STRINGS" "Z" (.int w)) (hw0 : ¬ (w = (0 : Int32))) (SA : Sta Z Z.heap "java/lang/StringUTF16" "$assertionsDisabled" "Z" (.int (1 : Int32))) (SHI : Sta Z Z.heap "java/lang/StringUTF16" "HI_BYTE_SHIFT" "I" (.int (0 : Int32))) (SLO : Sta Z Z.heap "java/lang/StringUTF16" "LO_BYTE_SHIFT" "I" (.int (8 : Int32))) (FM : Fmt Z) (FC : Fld Z h0 a1 "java/lang/String" "coder" "B" (.int cc)) (hcc : nar .byte cc = cc) :
    MetFree l (⟨"java/lang/String", "coder", "()B"⟩ : MethodName) (head1 (Jvm.Cond.code (⟨"java/lang/String", "coder", "()B"⟩ : MethodName) jdk_42_method_152_code 1 (some .byte) :: ws) ({ frames := 0, cells := 0, slots := 0, locals := 0 } : Room)) (fun a U => a = #[(.ref a1)] ∧ Z.Warmed39 U.vm ∧ U.heap = h0) (fun _ _ _ _ _ => True) (fun _ U o U' => ∃ v L, o = .returned v ∧ Q13 Z a1 w cc h0 n0 v U'.heap L ∧ FrameEnd U o U' L ({ frames := 0, cells := 0, slots := 0, locals := 0 } : Room).cells ({ frames := 0, cells := 0, slots := 0, locals := 0 } : Room).slots) := by
  refine MetFree.of_bodySF (plainFor_of_name pn_1) hisR ?_
  intro p e s m args below meth c s₁ Bd hml0 hP hK
  obtain ⟨rfl, hZ0, hh⟩ := hP
  have hx := Bd.exec
  have hby := Bd.bytes
  have hml : c.maxLocals = 1 := hml0
  have hown0 : s.vm.findClass "java/lang/String" = some m.cls := findClass_of_methodNamed Bd.named
  have hnm := (name_of_methodNamed Bd.named Bd.method).1
  have hlk : meth.locks = false := by first | exact BodyLoose.notSynchronized Bd | exact Body.notSynchronized Bd
  have X0 : Stand p l e ({ frames := 0, cells := 0, slots := 0, locals := 0 } : Room) s m #[(.ref a1)] below meth c s₁ [] 0 0 := Stand.of_body Bd
  have e0 : s₁.heap = h0 := by rw [← hh, Bd.state]; rfl
  have N0 := Fr.nil n0
  have pre0 : ∀ t, Steps p.tables e below (s₁.setTop (mkF m 0 #[.val (.ref a1)] [])) t → Steps p.tables e below (s₁.setTop (entryFrame m #[(.ref a1)] 1)) t := fun t k => castTop (ef_13 m a1) k
  obtain ⟨T101, X101, e101, st101⟩ := getS2 X0 hx hZ0 hown0 (host := "") (Or.inl (hw _ (List.mem_of_getElem? (i := 15) rfl))) Via.refl e0 (Sta.ext O0.2 S0) (g := (mkF m 0 #[.val (.ref a1)] [])) rfl (hb hby d13_0)
  obtain ⟨T102, X102, e102, st102⟩ := getF X101 hx hZ0 hown0 (host := "") (Or.inl (hw _ (List.mem_of_getElem? (i := 27) rfl))) Via.refl e101 FC (g := (mkF m 7 #[.val (.ref a1)] [(.ref a1)])) rfl rfl (hb hby d13_7)
  obtain ⟨fs, hr, hrun, hended, hW, hsame⟩ := X102.leave (v := some (.int (nar .byte cc))) (fun h => by rw [Bd.returns] at h; cases h) hlk
  refine ⟨_, _, pre0 _ ?_, hrun, hended, _, _, rfl, ?_, ⟨_, rfl⟩, hW, hsame.mono (by decide) (by decide)⟩
  · show Steps p.tables e below (s₁.setTop (mkF m 0 #[.val (.ref a1)] [])) _
    refine st101 _ ?_
    show Steps p.tables e below (T101.setTop (mkF m 3 #[.val (.ref a1)] [(.int w)])) _
    refine XS.ifNo X101.here hx rfl (hb hby d13_3) rfl ((if0 _ _).trans (feq hw0).1) ?_
    show Steps p.tables e below (T101.setTop (mkF m 6 #[.val (.ref a1)] [])) _
    refine XS.aloadN X101.here hx rfl (hb hby d13_6) rfl rfl ?_
    show Steps p.tables e below (T101.setTop (mkF m 7 #[.val (.ref a1)] [(.ref a1)])) _
    refine st102 _ ?_
    show Steps p.tables e below (T102.setTop (mkF m 10 #[.val (.ref a1)] [(.int cc)])) _
    refine XS.goto X102.here hx rfl (pc0 := 10) (pc' := 14) rfl (hb hby d13_10) (by decide) (by decide) ?_
    show Steps p.tables e below (T102.setTop (mkF m 14 #[.val (.ref a1)] [(.int cc)])) _
    exact retN X102 hx (t := .byte) Bd.returns (by simp) (hb hby d13_14) hr
  · show Q13 Z a1 w cc h0 n0 _ T102.heap _
    rw [e102]
    exact ⟨(congrArg (fun z => some (Value.int z)) (hcc : (nar .byte cc) = cc)), N0, rfl⟩
theorem ef_16L (m : MethodId) (x0 : Addr) : entryFrame m #[(.ref x0)] 1 = mkF m 0 #[.val (.ref x0)] [] := by first | (simp [entryFrame, mkF, argsToLocals, Value.category]; done) | rfl
theorem d16_0 : decode jdk_42_method_154_code 0 = .ok (.getstatic 38, 3) := by decide +kernel
theorem d16_3 : decode jdk_42_method_154_code 3 = .ok (.ifCond .eq 14, 3) := by decide +kernel
theorem d16_6 : decode jdk_42_method_154_code 6 = .ok (.aload_n 0, 1) := by decide +kernel
theorem d16_7 : decode jdk_42_method_154_code 7 = .ok (.getfield 15, 3) := by decide +kernel
theorem d16_10 : decode jdk_42_method_154_code 10 = .ok (.ifCond .ne 7, 3) := by decide +kernel
theorem d16_13 : decode jdk_42_method_154_code 13 = .ok (.iconst 1, 1) := by decide +kernel
theorem d16_14 : decode jdk_42_method_154_code 14 = .ok (.goto 4, 3) := by decide +kernel
theorem d16_18 : decode jdk_42_method_154_code 18 = .ok (.ireturn, 1) := by decide +kernel
def Q16L (Z : State) (a1 : Addr) (w : Int32) (h0 : Heap) (n0 : Nat) (v : Option Value) (h : Heap) (L : List Loc) : Prop := v = some (.int (1 : Int32)) ∧ Fr n0 L ∧ (h = h0)
set_option maxRecDepth 65536 in
set_option maxHeartbeats 40000000 in
theorem rm16L (l : Launch) (Z : State) (a0 : Array Value) (hw : ∀ d ∈ tables_1, d.before a0 Z = true) (ws : List Jvm.Cond) (a1 : Addr) (w : Int32) (h0 : Heap) (n0 : Nat) (Z0 : n0 ≤ h0.size) (O0 : Old Z n0 h0) (S0 : Sta Z Z.heap "java/lang/String" "COMPACT_STRINGS" "Z" (.int w)) (hw0 : ¬ (w = (0 : Int32))) (SA : Sta Z Z.heap "java/lang/StringUTF16" "$assertionsDisabled" "Z" (.int (1 : Int32))) (SHI : Sta Z Z.heap "java/lang/StringUTF16" "HI_BYTE_SHIFT" "I" (.int (0 : Int32))) (SLO : Sta Z Z.heap "java/lang/StringUTF16" "LO_BYTE_SHIFT" "I" (.int (8 : Int32))) (FM : Fmt Z) (FC : Fld Z h0 a1 "java/lang/String" "coder" "B" (.int (0 : Int32))) :
    MetFree l (⟨"java/lang/String", "isLatin1", "()Z"⟩ : MethodName) (head1 (Jvm.Cond.code (⟨"java/lang/String", "isLatin1", "()Z"⟩ : MethodName) jdk_42_method_154_code 1 (some .boolean) :: ws) ({ frames := 0, cells := 0, slots := 0, locals := 0 } : Room)) (fun a U => a = #[(.ref a1)] ∧ Z.Warmed39 U.vm ∧ U.heap = h0) (fun _ _ _ _ _ => True) (fun _ U o U' => ∃ v L, o = .returned v ∧ Q16L Z a1 w h0 n0 v U'.heap L ∧ FrameEnd U o U' L ({ frames := 0, cells := 0, slots := 0, locals := 0 } : Room).cells ({ frames := 0, cells := 0, slots := 0, locals := 0 } : Room).slots) := by
  refine MetFree.of_bodySF (plainFor_of_name pn_1) hisR ?_
  intro p e s m args below meth c s₁ Bd hml0 hP hK
  obtain ⟨rfl, hZ0, hh⟩ := hP
  have hx := Bd.exec
  have hby := Bd.bytes
  have hml : c.maxLocals = 1 := hml0
  have hown0 : s.vm.findClass "java/lang/String" = some m.cls := findClass_of_methodNamed Bd.named
  have hnm := (name_of_methodNamed Bd.named Bd.method).1
  have hlk : meth.locks = false := by first | exact BodyLoose.notSynchronized Bd | exact Body.notSynchronized Bd
  have X0 : Stand p l e ({ frames := 0, cells := 0, slots := 0, locals := 0 } : Room) s m #[(.ref a1)] below meth c s₁ [] 0 0 := Stand.of_body Bd
  have e0 : s₁.heap = h0 := by rw [← hh, Bd.state]; rfl
  have N0 := Fr.nil n0
  have pre0 : ∀ t, Steps p.tables e below (s₁.setTop (mkF m 0 #[.val (.ref a1)] [])) t → Steps p.tables e below (s₁.setTop (entryFrame m #[(.ref a1)] 1)) t := fun t k => castTop (ef_16L m a1) k
  obtain ⟨T101, X101, e101, st101⟩ := getS2 X0 hx hZ0 hown0 (host := "") (Or.inl (hw _ (List.mem_of_getElem? (i := 15) rfl))) Via.refl e0 (Sta.ext O0.2 S0) (g := (mkF m 0 #[.val (.ref a1)] [])) rfl (hb hby d16_0)
  obtain ⟨T102, X102, e102, st102⟩ := getF X101 hx hZ0 hown0 (host := "") (Or.inl (hw _ (List.mem_of_getElem? (i := 27) rfl))) Via.refl e101 FC (g := (mkF m 7 #[.val (.ref a1)] [(.ref a1)])) rfl rfl (hb hby d16_7)
  obtain ⟨fs, hr, hrun, hended, hW, hsame⟩ := X102.leave (v := some (.int (1 : Int32))) (fun h => by rw [Bd.returns] at h; cases h) hlk
  refine ⟨_, _, pre0 _ ?_, hrun, hended, _, _, rfl, ?_, ⟨_, rfl⟩, hW, hsame.mono (by decide) (by decide)⟩
  · show Steps p.tables e below (s₁.setTop (mkF m 0 #[.val (.ref a1)] [])) _
    refine st101 _ ?_
    show Steps p.tables e below (T101.setTop (mkF m 3 #[.val (.ref a1)] [(.int w)])) _
    refine XS.ifNo X101.here hx rfl (hb hby d16_3) rfl ((if0 _ _).trans (feq hw0).1) ?_
    show Steps p.tables e below (T101.setTop (mkF m 6 #[.val (.ref a1)] [])) _
    refine XS.aloadN X101.here hx rfl (hb hby d16_6) rfl rfl ?_
    show Steps p.tables e below (T101.setTop (mkF m 7 #[.val (.ref a1)] [(.ref a1)])) _
    refine st102 _ ?_
    show Steps p.tables e below (T102.setTop (mkF m 10 #[.val (.ref a1)] [(.int (0 : Int32))])) _
    refine XS.ifNo X102.here hx rfl (hb hby d16_10) rfl ((if0 _ _).trans (teq (by decide : (0 : Int32) = (0 : Int32))).2) ?_
    show Steps p.tables e below (T102.setTop (mkF m 13 #[.val (.ref a1)] [])) _
    refine XS.iconst X102.here hx rfl (hb hby d16_13) ?_
    show Steps p.tables e below (T102.setTop (mkF m 14 #[.val (.ref a1)] [(.int (1 : Int32))])) _
    refine XS.goto X102.here hx rfl (pc0 := 14) (pc' := 18) rfl (hb hby d16_14) (by decide) (by decide) ?_
    show Steps p.tables e below (T102.setTop (mkF m 18 #[.val (.ref a1)] [(.int (1 : Int32))])) _
    exact retN X102 hx (t := .boolean) Bd.returns (by simp) (hb hby d16_18) hr
  · show Q16L Z a1 w h0 n0 _ T102.heap _
    rw [e102]
    exact ⟨rfl, N0, rfl⟩
theorem ef_16U (m : MethodId) (x0 : Addr) : entryFrame m #[(.ref x0)] 1 = mkF m 0 #[.val (.ref x0)] [] := by first | (simp [entryFrame, mkF, argsToLocals, Value.category]; done) | rfl
theorem d16_17 : decode jdk_42_method_154_code 17 = .ok (.iconst 0, 1) := by decide +kernel
def Q16U (Z : State) (a1 : Addr) (w : Int32) (h0 : Heap) (n0 : Nat) (v : Option Value) (h : Heap) (L : List Loc) : Prop := v = some (.int (0 : Int32)) ∧ Fr n0 L ∧ (h = h0)
set_option maxRecDepth 65536 in
set_option maxHeartbeats 40000000 in
theorem rm16U (l : Launch) (Z : State) (a0 : Array Value) (hw : ∀ d ∈ tables_1, d.before a0 Z = true) (ws : List Jvm.Cond) (a1 : Addr) (w : Int32) (h0 : Heap) (n0 : Nat) (Z0 : n0 ≤ h0.size) (O0 : Old Z n0 h0) (S0 : Sta Z Z.heap "java/lang/String" "COMPACT_STRINGS" "Z" (.int w)) (hw0 : ¬ (w = (0 : Int32))) (SA : Sta Z Z.heap "java/lang/StringUTF16" "$assertionsDisabled" "Z" (.int (1 : Int32))) (SHI : Sta Z Z.heap "java/lang/StringUTF16" "HI_BYTE_SHIFT" "I" (.int (0 : Int32))) (SLO : Sta Z Z.heap "java/lang/StringUTF16" "LO_BYTE_SHIFT" "I" (.int (8 : Int32))) (FM : Fmt Z) (FC : Fld Z h0 a1 "java/lang/String" "coder" "B" (.int (1 : Int32))) :
    MetFree l (⟨"java/lang/String", "isLatin1", "()Z"⟩ : MethodName) (head1 (Jvm.Cond.code (⟨"java/lang/String", "isLatin1", "()Z"⟩ : MethodName) jdk_42_method_154_code 1 (some .boolean) :: ws) ({ frames := 0, cells := 0, slots := 0, locals := 0 } : Room)) (fun a U => a = #[(.ref a1)] ∧ Z.Warmed39 U.vm ∧ U.heap = h0) (fun _ _ _ _ _ => True) (fun _ U o U' => ∃ v L, o = .returned v ∧ Q16U Z a1 w h0 n0 v U'.heap L ∧ FrameEnd U o U' L ({ frames := 0, cells := 0, slots := 0, locals := 0 } : Room).cells ({ frames := 0, cells := 0, slots := 0, locals := 0 } : Room).slots) := by
  refine MetFree.of_bodySF (plainFor_of_name pn_1) hisR ?_
  intro p e s m args below meth c s₁ Bd hml0 hP hK
  obtain ⟨rfl, hZ0, hh⟩ := hP
  have hx := Bd.exec
  have hby := Bd.bytes
  have hml : c.maxLocals = 1 := hml0
  have hown0 : s.vm.findClass "java/lang/String" = some m.cls := findClass_of_methodNamed Bd.named
  have hnm := (name_of_methodNamed Bd.named Bd.method).1
  have hlk : meth.locks = false := by first | exact BodyLoose.notSynchronized Bd | exact Body.notSynchronized Bd
  have X0 : Stand p l e ({ frames := 0, cells := 0, slots := 0, locals := 0 } : Room) s m #[(.ref a1)] below meth c s₁ [] 0 0 := Stand.of_body Bd
  have e0 : s₁.heap = h0 := by rw [← hh, Bd.state]; rfl
  have N0 := Fr.nil n0
  have pre0 : ∀ t, Steps p.tables e below (s₁.setTop (mkF m 0 #[.val (.ref a1)] [])) t → Steps p.tables e below (s₁.setTop (entryFrame m #[(.ref a1)] 1)) t := fun t k => castTop (ef_16U m a1) k
  obtain ⟨T101, X101, e101, st101⟩ := getS2 X0 hx hZ0 hown0 (host := "") (Or.inl (hw _ (List.mem_of_getElem? (i := 15) rfl))) Via.refl e0 (Sta.ext O0.2 S0) (g := (mkF m 0 #[.val (.ref a1)] [])) rfl (hb hby d16_0)
  obtain ⟨T102, X102, e102, st102⟩ := getF X101 hx hZ0 hown0 (host := "") (Or.inl (hw _ (List.mem_of_getElem? (i := 27) rfl))) Via.refl e101 FC (g := (mkF m 7 #[.val (.ref a1)] [(.ref a1)])) rfl rfl (hb hby d16_7)
  obtain ⟨fs, hr, hrun, hended, hW, hsame⟩ := X102.leave (v := some (.int (0 : Int32))) (fun h => by rw [Bd.returns] at h; cases h) hlk
  refine ⟨_, _, pre0 _ ?_, hrun, hended, _, _, rfl, ?_, ⟨_, rfl⟩, hW, hsame.mono (by decide) (by decide)⟩
  · show Steps p.tables e below (s₁.setTop (mkF m 0 #[.val (.ref a1)] [])) _
    refine st101 _ ?_
    show Steps p.tables e below (T101.setTop (mkF m 3 #[.val (.ref a1)] [(.int w)])) _
    refine XS.ifNo X101.here hx rfl (hb hby d16_3) rfl ((if0 _ _).trans (feq hw0).1) ?_
    show Steps p.tables e below (T101.setTop (mkF m 6 #[.val (.ref a1)] [])) _
    refine XS.aloadN X101.here hx rfl (hb hby d16_6) rfl rfl ?_
    show Steps p.tables e below (T101.setTop (mkF m 7 #[.val (.ref a1)] [(.ref a1)])) _
    refine st102 _ ?_
    show Steps p.tables e below (T102.setTop (mkF m 10 #[.val (.ref a1)] [(.int (1 : Int32))])) _
    refine XS.ifYes X102.here hx rfl (pc0 := 10) (pc' := 17) rfl (hb hby d16_10) rfl ((if0 _ _).trans (feq (by decide : ¬ ((1 : Int32) = (0 : Int32)))).2) (by decide) (by decide) ?_
    show Steps p.tables e below (T102.setTop (mkF m 17 #[.val (.ref a1)] [])) _
    refine XS.iconst X102.here hx rfl (hb hby d16_17) ?_
    show Steps p.tables e below (T102.setTop (mkF m 18 #[.val (.ref a1)] [(.int (0 : Int32))])) _
    exact retN X102 hx (t := .boolean) Bd.returns (by simp) (hb hby d16_18) hr
  · show Q16U Z a1 w h0 n0 _ T102.heap _
    rw [e102]
    exact ⟨rfl, N0, rfl⟩
theorem ef_12 (m : MethodId) (x0 : Addr) : entryFrame m #[(.ref x0)] 1 = mkF m 0 #[.val (.ref x0)] [] := by first | (simp [entryFrame, mkF, argsToLocals, Value.category]; done) | rfl
theorem d12_0 : decode jdk_42_method_54_code 0 = .ok (.aload_n 0, 1) := by decide +kernel
theorem d12_1 : decode jdk_42_method_54_code 1 = .ok (.getfield 9, 3) := by decide +kernel
theorem d12_4 : decode jdk_42_method_54_code 4 = .ok (.arraylength, 1) := by decide +kernel
theorem d12_5 : decode jdk_42_method_54_code 5 = .ok (.aload_n 0, 1) := by decide +kernel
theorem d12_6 : decode jdk_42_method_54_code 6 = .ok (.invokevirtual 335, 3) := by decide +kernel
theorem pd_5 : parseMethodDescriptor "()B" = some ⟨[], some .byte⟩ := by decide +kernel
theorem d12_9 : decode jdk_42_method_54_code 9 = .ok (.ishr, 1) := by decide +kernel
theorem d12_10 : decode jdk_42_method_54_code 10 = .ok (.ireturn, 1) := by decide +kernel
def Q12 (Z : State) (a1 : Addr) (w : Int32) (bb : Addr) (n : Int32) (f : Nat → Int32) (h0 : Heap) (n0 : Nat) (v : Option Value) (h : Heap) (L : List Loc) : Prop := v = some (.int n) ∧ Fr n0 L ∧ (h = h0)
set_option maxRecDepth 65536 in
set_option maxHeartbeats 40000000 in
theorem rm12 (l : Launch) (Z : State) (a0 : Array Value) (hw : ∀ d ∈ tables_1, d.before a0 Z = true) (ws : List Jvm.Cond) (a1 : Addr) (w : Int32) (bb : Addr) (n : Int32) (f : Nat → Int32) (h0 : Heap) (n0 : Nat) (Z0 : n0 ≤ h0.size) (O0 : Old Z n0 h0) (S0 : Sta Z Z.heap "java/lang/String" "COMPACT_STRINGS" "Z" (.int w)) (hw0 : ¬ (w = (0 : Int32))) (SA : Sta Z Z.heap "java/lang/StringUTF16" "$assertionsDisabled" "Z" (.int (1 : Int32))) (SHI : Sta Z Z.heap "java/lang/StringUTF16" "HI_BYTE_SHIFT" "I" (.int (0 : Int32))) (SLO : Sta Z Z.heap "java/lang/StringUTF16" "LO_BYTE_SHIFT" "I" (.int (8 : Int32))) (FM : Fmt Z) (SS : OwnS Z h0 a1 bb n f) :
    MetFree l (⟨"java/lang/String", "length", "()I"⟩ : MethodName) (head1 (Jvm.Cond.code (⟨"java/lang/String", "length", "()I"⟩ : MethodName) jdk_42_method_54_code 1 (some .int) :: ws) ({ frames := 1, cells := 0, slots := 0, locals := 13 } : Room)) (fun a U => a = #[(.ref a1)] ∧ Z.Warmed39 U.vm ∧ U.heap = h0) (fun _ _ _ _ _ => True) (fun _ U o U' => ∃ v L, o = .returned v ∧ Q12 Z a1 w bb n f h0 n0 v U'.heap L ∧ FrameEnd U o U' L ({ frames := 1, cells := 0, slots := 0, locals := 13 } : Room).cells ({ frames := 1, cells := 0, slots := 0, locals := 13 } : Room).slots) := by
  refine MetFree.of_bodySF (plainFor_of_name pn_1) hisR ?_
  intro p e s m args below meth c s₁ Bd hml0 hP hK
  obtain ⟨rfl, hZ0, hh⟩ := hP
  have hx := Bd.exec
  have hby := Bd.bytes
  have hml : c.maxLocals = 1 := hml0
  have hown0 : s.vm.findClass "java/lang/String" = some m.cls := findClass_of_methodNamed Bd.named
  have hnm := (name_of_methodNamed Bd.named Bd.method).1
  have hlk : meth.locks = false := by first | exact BodyLoose.notSynchronized Bd | exact Body.notSynchronized Bd
  have X0 : Stand p l e ({ frames := 1, cells := 0, slots := 0, locals := 13 } : Room) s m #[(.ref a1)] below meth c s₁ [] 0 0 := Stand.of_body Bd
  have e0 : s₁.heap = h0 := by rw [← hh, Bd.state]; rfl
  have N0 := Fr.nil n0
  have pre0 : ∀ t, Steps p.tables e below (s₁.setTop (mkF m 0 #[.val (.ref a1)] [])) t → Steps p.tables e below (s₁.setTop (entryFrame m #[(.ref a1)] 1)) t := fun t k => castTop (ef_12 m a1) k
  rcases SS with ⟨SE, SV, ⟨SC, SB, SL⟩ | ⟨SC, SB, SL⟩⟩
  · obtain ⟨T101, X101, e101, st101⟩ := getF X0 hx hZ0 hown0 (host := "") (Or.inl (hw _ (List.mem_of_getElem? (i := 29) rfl))) Via.refl e0 SV (g := (mkF m 1 #[.val (.ref a1)] [(.ref a1)])) rfl rfl (hb hby d12_1)
    obtain ⟨cl102, Ar102, Sz102, Nn102, Hs102⟩ := (id SB)
    obtain ⟨cq103, kq103, q103a, q103b, q103c⟩ := isOf hZ0 e101 SE
    obtain ⟨_, _, ⟨T103, L103, k103, n103⟩, -, X103, ⟨Lc103, hQ103, l103, y103, z103⟩, st103⟩ := X101.virtualBack hx (y := (⟨"java/lang/String", "coder", "()B"⟩ : MethodName)) (z := (⟨"java/lang/String", "coder", "()B"⟩ : MethodName)) hown0 (mvT hZ0 (hw _ (List.mem_of_getElem? (i := 73) rfl))) (mvT hZ0 (hw _ (List.mem_of_getElem? (i := 74) rfl))) (notFace_of_selects (args := #[]) (mvT hZ0 (hw _ (List.mem_of_getElem? (i := 76) rfl)))) (mvT hZ0 (hw _ (List.mem_of_getElem? (i := 76) rfl))) (mvT hZ0 (hw _ (List.mem_of_getElem? (i := 75) rfl))) (by decide) (backOf (W := 1) (rm13 l Z a0 hw [] a1 w (0 : Int32) h0 n0 Z0 O0 S0 hw0 SA SHI SLO FM SC (by decide)) hZ0 (hw _ (List.mem_of_getElem? (i := 77) rfl)) (hw _ (List.mem_of_getElem? (i := 4) rfl)) (by decide) (by decide)) q103a q103c (g := (mkF m 6 #[.val (.ref a1)] [(.ref a1), (.int n)])) rfl (by rw [hml]; rfl) (Steps.refl _) (argsL := []) (rest := [(.int n)]) (lenOf pd_5 rfl) rfl (by show 2 * 0 + _ ≤ _; exact Nat.le_of_eq rfl) (hb hby d12_6) (fun _ _ => ⟨rfl, e101, (by decide : 0 + 0 ≤ _), (by decide : 0 + 0 ≤ _)⟩)
    dsimp only [Pt.U, Pt.locs, Pt.cells, Pt.slots] at X103 l103 y103 z103 st103 hQ103
    subst l103 y103 z103
    obtain ⟨rfl, N103q, P103_0⟩ := hQ103
    have N103 := Fr.app N0 N103q
    obtain ⟨fs, hr, hrun, hended, hW, hsame⟩ := X103.leave (v := some (.int (n >>> ((0 : Int32) &&& 31)))) (fun h => by rw [Bd.returns] at h; cases h) hlk
    refine ⟨_, _, pre0 _ ?_, hrun, hended, _, _, rfl, ?_, ⟨_, rfl⟩, hW, hsame.mono (by decide) (by decide)⟩
    · show Steps p.tables e below (s₁.setTop (mkF m 0 #[.val (.ref a1)] [])) _
      refine XS.aloadN X0.here hx rfl (hb hby d12_0) rfl rfl ?_
      show Steps p.tables e below (s₁.setTop (mkF m 1 #[.val (.ref a1)] [(.ref a1)])) _
      refine st101 _ ?_
      show Steps p.tables e below (T101.setTop (mkF m 4 #[.val (.ref a1)] [(.ref bb)])) _
      refine X101.arraylength hx (by rw [e101]; exact Ar102.1) (State.isArrayOf_alike hZ0.alike Ar102.2.1) (g := (mkF m 4 #[.val (.ref a1)] [(.ref bb)])) rfl rfl (hb hby d12_4) _ ?_
      rw [len_of Sz102 Nn102]
      show Steps p.tables e below (T101.setTop (mkF m 5 #[.val (.ref a1)] [(.int n)])) _
      refine XS.aloadN X101.here hx rfl (hb hby d12_5) rfl rfl ?_
      show Steps p.tables e below (T101.setTop (mkF m 6 #[.val (.ref a1)] [(.ref a1), (.int n)])) _
      refine st103.trans ?_
      show Steps p.tables e below (T103.setTop (mkF m 9 #[.val (.ref a1)] [(.int (0 : Int32)), (.int n)])) _
      refine XS.ishr X103.here hx rfl (hb hby d12_9) rfl ?_
      show Steps p.tables e below (T103.setTop (mkF m 10 #[.val (.ref a1)] [(.int (n >>> ((0 : Int32) &&& 31)))])) _
      exact retI X103 hx Bd.returns (hb hby d12_10) hr
    · show Q12 Z a1 w bb n f h0 n0 _ T103.heap _
      rw [P103_0]
      exact ⟨(congrArg (fun z => some (Value.int z)) (own_shr0 n : (n >>> ((0 : Int32) &&& 31)) = n)), N103, rfl⟩
  · obtain ⟨T104, X104, e104, st104⟩ := getF X0 hx hZ0 hown0 (host := "") (Or.inl (hw _ (List.mem_of_getElem? (i := 29) rfl))) Via.refl e0 SV (g := (mkF m 1 #[.val (.ref a1)] [(.ref a1)])) rfl rfl (hb hby d12_1)
    obtain ⟨cl105, Ar105, Sz105, Nn105, Hs105⟩ := (id SB)
    obtain ⟨cq106, kq106, q106a, q106b, q106c⟩ := isOf hZ0 e104 SE
    obtain ⟨_, _, ⟨T106, L106, k106, n106⟩, -, X106, ⟨Lc106, hQ106, l106, y106, z106⟩, st106⟩ := X104.virtualBack hx (y := (⟨"java/lang/String", "coder", "()B"⟩ : MethodName)) (z := (⟨"java/lang/String", "coder", "()B"⟩ : MethodName)) hown0 (mvT hZ0 (hw _ (List.mem_of_getElem? (i := 73) rfl))) (mvT hZ0 (hw _ (List.mem_of_getElem? (i := 74) rfl))) (notFace_of_selects (args := #[]) (mvT hZ0 (hw _ (List.mem_of_getElem? (i := 76) rfl)))) (mvT hZ0 (hw _ (List.mem_of_getElem? (i := 76) rfl))) (mvT hZ0 (hw _ (List.mem_of_getElem? (i := 75) rfl))) (by decide) (backOf (W := 1) (rm13 l Z a0 hw [] a1 w (1 : Int32) h0 n0 Z0 O0 S0 hw0 SA SHI SLO FM SC (by decide)) hZ0 (hw _ (List.mem_of_getElem? (i := 77) rfl)) (hw _ (List.mem_of_getElem? (i := 4) rfl)) (by decide) (by decide)) q106a q106c (g := (mkF m 6 #[.val (.ref a1)] [(.ref a1), (.int (own_d n))])) rfl (by rw [hml]; rfl) (Steps.refl _) (argsL := []) (rest := [(.int (own_d n))]) (lenOf pd_5 rfl) rfl (by show 2 * 0 + _ ≤ _; exact Nat.le_of_eq rfl) (hb hby d12_6) (fun _ _ => ⟨rfl, e104, (by decide : 0 + 0 ≤ _), (by decide : 0 + 0 ≤ _)⟩)
    dsimp only [Pt.U, Pt.locs, Pt.cells, Pt.slots] at X106 l106 y106 z106 st106 hQ106
    subst l106 y106 z106
    obtain ⟨rfl, N106q, P106_0⟩ := hQ106
    have N106 := Fr.app N0 N106q
    obtain ⟨fs, hr, hrun, hended, hW, hsame⟩ := X106.leave (v := some (.int ((own_d n) >>> ((1 : Int32) &&& 31)))) (fun h => by rw [Bd.returns] at h; cases h) hlk
    refine ⟨_, _, pre0 _ ?_, hrun, hended, _, _, rfl, ?_, ⟨_, rfl⟩, hW, hsame.mono (by decide) (by decide)⟩
    · show Steps p.tables e below (s₁.setTop (mkF m 0 #[.val (.ref a1)] [])) _
      refine XS.aloadN X0.here hx rfl (hb hby d12_0) rfl rfl ?_
      show Steps p.tables e below (s₁.setTop (mkF m 1 #[.val (.ref a1)] [(.ref a1)])) _
      refine st104 _ ?_
      show Steps p.tables e below (T104.setTop (mkF m 4 #[.val (.ref a1)] [(.ref bb)])) _
      refine X104.arraylength hx (by rw [e104]; exact Ar105.1) (State.isArrayOf_alike hZ0.alike Ar105.2.1) (g := (mkF m 4 #[.val (.ref a1)] [(.ref bb)])) rfl rfl (hb hby d12_4) _ ?_
      rw [len_of Sz105 Nn105]
      show Steps p.tables e below (T104.setTop (mkF m 5 #[.val (.ref a1)] [(.int (own_d n))])) _
      refine XS.aloadN X104.here hx rfl (hb hby d12_5) rfl rfl ?_
      show Steps p.tables e below (T104.setTop (mkF m 6 #[.val (.ref a1)] [(.ref a1), (.int (own_d n))])) _
      refine st106.trans ?_
      show Steps p.tables e below (T106.setTop (mkF m 9 #[.val (.ref a1)] [(.int (1 : Int32)), (.int (own_d n))])) _
      refine XS.ishr X106.here hx rfl (hb hby d12_9) rfl ?_
      show Steps p.tables e below (T106.setTop (mkF m 10 #[.val (.ref a1)] [(.int ((own_d n) >>> ((1 : Int32) &&& 31)))])) _
      exact retI X106 hx Bd.returns (hb hby d12_10) hr
    · show Q12 Z a1 w bb n f h0 n0 _ T106.heap _
      rw [P106_0]
      exact ⟨(congrArg (fun z => some (Value.int z)) ((own_e1 (P := fun n => (own_d n >>> ((1 : Int32) &&& 31)) = n) SL (by decide +kernel)) : ((own_d n) >>> ((1 : Int32) &&& 31)) = n)), N106, rfl⟩
theorem ef_24 (m : MethodId) (x0 : Addr) (x1 : Int32) : entryFrame m #[(.ref x0), (.int x1)] 2 = mkF m 0 #[.val (.ref x0), .val (.int x1)] [] := by first | (simp [entryFrame, mkF, argsToLocals, Value.category]; done) | rfl
theorem d24_0 : decode jdk_42_method_56_code 0 = .ok (.aload_n 0, 1) := by decide +kernel
theorem d24_1 : decode jdk_42_method_56_code 1 = .ok (.invokevirtual 492, 3) := by decide +kernel
theorem pd_6 : parseMethodDescriptor "()Z" = some ⟨[], some .boolean⟩ := by decide +kernel
theorem d24_4 : decode jdk_42_method_56_code 4 = .ok (.ifCond .eq 12, 3) := by decide +kernel
theorem d24_7 : decode jdk_42_method_56_code 7 = .ok (.aload_n 0, 1) := by decide +kernel
theorem d24_8 : decode jdk_42_method_56_code 8 = .ok (.getfield 9, 3) := by decide +kernel
theorem d24_11 : decode jdk_42_method_56_code 11 = .ok (.iload_n 1, 1) := by decide +kernel
theorem d24_12 : decode jdk_42_method_56_code 12 = .ok (.invokestatic 495, 3) := by decide +kernel
theorem d24_15 : decode jdk_42_method_56_code 15 = .ok (.ireturn, 1) := by decide +kernel
theorem d24_16 : decode jdk_42_method_56_code 16 = .ok (.aload_n 0, 1) := by decide +kernel
theorem d24_17 : decode jdk_42_method_56_code 17 = .ok (.getfield 9, 3) := by decide +kernel
theorem d24_20 : decode jdk_42_method_56_code 20 = .ok (.iload_n 1, 1) := by decide +kernel
theorem d24_21 : decode jdk_42_method_56_code 21 = .ok (.invokestatic 498, 3) := by decide +kernel
theorem d24_24 : decode jdk_42_method_56_code 24 = .ok (.ireturn, 1) := by decide +kernel
def Q24 (Z : State) (a1 : Addr) (p2 : Int32) (w : Int32) (bb : Addr) (n : Int32) (f : Nat → Int32) (h0 : Heap) (n0 : Nat) (v : Option Value) (h : Heap) (L : List Loc) : Prop := v = some (.int (f p2.toNatClampNeg)) ∧ Fr n0 L ∧ (h = h0)
set_option maxRecDepth 65536 in
set_option maxHeartbeats 40000000 in
theorem rm24 (l : Launch) (Z : State) (a0 : Array Value) (hw : ∀ d ∈ tables_1, d.before a0 Z = true) (ws : List Jvm.Cond) (a1 : Addr) (p2 : Int32) (w : Int32) (bb : Addr) (n : Int32) (f : Nat → Int32) (h0 : Heap) (n0 : Nat) (Z0 : n0 ≤ h0.size) (O0 : Old Z n0 h0) (S0 : Sta Z Z.heap "java/lang/String" "COMPACT_STRINGS" "Z" (.int w)) (hw0 : ¬ (w = (0 : Int32))) (SA : Sta Z Z.heap "java/lang/StringUTF16" "$assertionsDisabled" "Z" (.int (1 : Int32))) (SHI : Sta Z Z.heap "java/lang/StringUTF16" "HI_BYTE_SHIFT" "I" (.int (0 : Int32))) (SLO : Sta Z Z.heap "java/lang/StringUTF16" "LO_BYTE_SHIFT" "I" (.int (8 : Int32))) (FM : Fmt Z) (SS : OwnS Z h0 a1 bb n f) (ix : own_ix p2 n) (hf : own_ch f) :
    MetFree l (⟨"java/lang/String", "charAt", "(I)C"⟩ : MethodName) (head1 (Jvm.Cond.code (⟨"java/lang/String", "charAt", "(I)C"⟩ : MethodName) jdk_42_method_56_code 2 (some .char) :: ws) ({ frames := 4, cells := 0, slots := 0, locals := 53 } : Room)) (fun a U => a = #[(.ref a1), (.int p2)] ∧ Z.Warmed39 U.vm ∧ U.heap = h0) (fun _ _ _ _ _ => True) (fun _ U o U' => ∃ v L, o = .returned v ∧ Q24 Z a1 p2 w bb n f h0 n0 v U'.heap L ∧ FrameEnd U o U' L ({ frames := 4, cells := 0, slots := 0, locals := 53 } : Room).cells ({ frames := 4, cells := 0, slots := 0, locals := 53 } : Room).slots) := by
  refine MetFree.of_bodySF (plainFor_of_name pn_1) hisR ?_
  intro p e s m args below meth c s₁ Bd hml0 hP hK
  obtain ⟨rfl, hZ0, hh⟩ := hP
  have hx := Bd.exec
  have hby := Bd.bytes
  have hml : c.maxLocals = 2 := hml0
  have hown0 : s.vm.findClass "java/lang/String" = some m.cls := findClass_of_methodNamed Bd.named
  have hnm := (name_of_methodNamed Bd.named Bd.method).1
  have hlk : meth.locks = false := by first | exact BodyLoose.notSynchronized Bd | exact Body.notSynchronized Bd
  have X0 : Stand p l e ({ frames := 4, cells := 0, slots := 0, locals := 53 } : Room) s m #[(.ref a1), (.int p2)] below meth c s₁ [] 0 0 := Stand.of_body Bd
  have e0 : s₁.heap = h0 := by rw [← hh, Bd.state]; rfl
  have N0 := Fr.nil n0
  have pre0 : ∀ t, Steps p.tables e below (s₁.setTop (mkF m 0 #[.val (.ref a1), .val (.int p2)] [])) t → Steps p.tables e below (s₁.setTop (entryFrame m #[(.ref a1), (.int p2)] 2)) t := fun t k => castTop (ef_24 m a1 p2) k
  rcases SS with ⟨SE, SV, ⟨SC, SB, SL⟩ | ⟨SC, SB, SL⟩⟩
  · obtain ⟨cq101, kq101, q101a, q101b, q101c⟩ := isOf hZ0 e0 SE
    obtain ⟨_, _, ⟨T101, L101, k101, n101⟩, -, X101, ⟨Lc101, hQ101, l101, y101, z101⟩, st101⟩ := X0.virtualBack hx (y := (⟨"java/lang/String", "isLatin1", "()Z"⟩ : MethodName)) (z := (⟨"java/lang/String", "isLatin1", "()Z"⟩ : MethodName)) hown0 (mvT hZ0 (hw _ (List.mem_of_getElem? (i := 86) rfl))) (mvT hZ0 (hw _ (List.mem_of_getElem? (i := 87) rfl))) (notFace_of_selects (args := #[]) (mvT hZ0 (hw _ (List.mem_of_getElem? (i := 89) rfl)))) (mvT hZ0 (hw _ (List.mem_of_getElem? (i := 89) rfl))) (mvT hZ0 (hw _ (List.mem_of_getElem? (i := 88) rfl))) (by decide) (backOf (W := 0) (rm16L l Z a0 hw [] a1 w h0 n0 Z0 O0 S0 hw0 SA SHI SLO FM SC) hZ0 (hw _ (List.mem_of_getElem? (i := 90) rfl)) (hw _ (List.mem_of_getElem? (i := 4) rfl)) (by decide) (by decide)) q101a q101c (g := (mkF m 1 #[.val (.ref a1), .val (.int p2)] [(.ref a1)])) rfl (by rw [hml]; rfl) (Steps.refl _) (argsL := []) (rest := []) (lenOf pd_6 rfl) rfl (by show 2 * 0 + _ ≤ _; exact Nat.le_of_eq rfl) (hb hby d24_1) (fun _ _ => ⟨rfl, e0, (by decide : 0 + 0 ≤ _), (by decide : 0 + 0 ≤ _)⟩)
    dsimp only [Pt.U, Pt.locs, Pt.cells, Pt.slots] at X101 l101 y101 z101 st101 hQ101
    subst l101 y101 z101
    obtain ⟨rfl, N101q, P101_0⟩ := hQ101
    have N101 := Fr.app N0 N101q
    obtain ⟨T102, X102, e102, st102⟩ := getF X101 hx hZ0 hown0 (host := "") (Or.inl (hw _ (List.mem_of_getElem? (i := 29) rfl))) Via.refl P101_0 SV (g := (mkF m 8 #[.val (.ref a1), .val (.int p2)] [(.ref a1)])) rfl rfl (hb hby d24_8)
    obtain ⟨_, _, ⟨T103, L103, k103, n103⟩, -, X103, ⟨Lc103, hQ103, l103, y103, z103⟩, st103⟩ := Jvm.LawKit.callS X102 hx (y := (⟨"java/lang/StringLatin1", "charAt", "([BI)C"⟩ : MethodName)) hown0 (mvT hZ0 (hw _ (List.mem_of_getElem? (i := 127) rfl))) (mvT hZ0 (hw _ (List.mem_of_getElem? (i := 128) rfl))) (mvT hZ0 (hw _ (List.mem_of_getElem? (i := 93) rfl))) (mvT hZ0 (hw _ (List.mem_of_getElem? (i := 129) rfl))) (by decide) (backOf (W := 0) (rm25 l Z a0 hw [] bb p2 w n f h0 n0 Z0 O0 S0 hw0 SA SHI SLO FM SB ix SL hf) hZ0 (hw _ (List.mem_of_getElem? (i := 129) rfl)) (hw _ (List.mem_of_getElem? (i := 93) rfl)) (by decide) (by decide)) (g := (mkF m 12 #[.val (.ref a1), .val (.int p2)] [(.int p2), (.ref bb)])) rfl (by rw [hml]; rfl) (argsL := [(.ref bb), (.int p2)]) (rest := []) (lenOf pd_4 rfl) rfl (by show 2 * 0 + _ ≤ _; exact Nat.le_of_eq rfl) (hb hby d24_12) (fun _ _ => ⟨rfl, e102, (by decide : 0 + 0 ≤ _), (by decide : 0 + 0 ≤ _)⟩)
    dsimp only [Pt.U, Pt.locs, Pt.cells, Pt.slots] at X103 l103 y103 z103 st103 hQ103
    subst l103 y103 z103
    obtain ⟨rfl, N103q, P103_0⟩ := hQ103
    have N103 := Fr.app N101 N103q
    obtain ⟨fs, hr, hrun, hended, hW, hsame⟩ := X103.leave (v := some (.int (nar .char (f p2.toNatClampNeg)))) (fun h => by rw [Bd.returns] at h; cases h) hlk
    refine ⟨_, _, pre0 _ ?_, hrun, hended, _, _, rfl, ?_, ⟨_, rfl⟩, hW, hsame.mono (by decide) (by decide)⟩
    · show Steps p.tables e below (s₁.setTop (mkF m 0 #[.val (.ref a1), .val (.int p2)] [])) _
      refine XS.aloadN X0.here hx rfl (hb hby d24_0) rfl rfl ?_
      show Steps p.tables e below (s₁.setTop (mkF m 1 #[.val (.ref a1), .val (.int p2)] [(.ref a1)])) _
      refine st101.trans ?_
      show Steps p.tables e below (T101.setTop (mkF m 4 #[.val (.ref a1), .val (.int p2)] [(.int (1 : Int32))])) _
      refine XS.ifNo X101.here hx rfl (hb hby d24_4) rfl ((if0 _ _).trans (feq (by decide : ¬ ((1 : Int32) = (0 : Int32)))).1) ?_
      show Steps p.tables e below (T101.setTop (mkF m 7 #[.val (.ref a1), .val (.int p2)] [])) _
      refine XS.aloadN X101.here hx rfl (hb hby d24_7) rfl rfl ?_
      show Steps p.tables e below (T101.setTop (mkF m 8 #[.val (.ref a1), .val (.int p2)] [(.ref a1)])) _
      refine st102 _ ?_
      show Steps p.tables e below (T102.setTop (mkF m 11 #[.val (.ref a1), .val (.int p2)] [(.ref bb)])) _
      refine XS.iloadN X102.here hx rfl (hb hby d24_11) rfl ?_
      show Steps p.tables e below (T102.setTop (mkF m 12 #[.val (.ref a1), .val (.int p2)] [(.int p2), (.ref bb)])) _
      refine st103 _ ?_
      show Steps p.tables e below (T103.setTop (mkF m 15 #[.val (.ref a1), .val (.int p2)] [(.int (f p2.toNatClampNeg))])) _
      exact retN X103 hx (t := .char) Bd.returns (by simp) (hb hby d24_15) hr
    · show Q24 Z a1 p2 w bb n f h0 n0 _ T103.heap _
      rw [P103_0]
      exact ⟨(congrArg (fun z => some (Value.int z)) (own_narC (hf _) : (nar .char (f p2.toNatClampNeg)) = (f p2.toNatClampNeg))), N103, rfl⟩
  · obtain ⟨cq104, kq104, q104a, q104b, q104c⟩ := isOf hZ0 e0 SE
    obtain ⟨_, _, ⟨T104, L104, k104, n104⟩, -, X104, ⟨Lc104, hQ104, l104, y104, z104⟩, st104⟩ := X0.virtualBack hx (y := (⟨"java/lang/String", "isLatin1", "()Z"⟩ : MethodName)) (z := (⟨"java/lang/String", "isLatin1", "()Z"⟩ : MethodName)) hown0 (mvT hZ0 (hw _ (List.mem_of_getElem? (i := 86) rfl))) (mvT hZ0 (hw _ (List.mem_of_getElem? (i := 87) rfl))) (notFace_of_selects (args := #[]) (mvT hZ0 (hw _ (List.mem_of_getElem? (i := 89) rfl)))) (mvT hZ0 (hw _ (List.mem_of_getElem? (i := 89) rfl))) (mvT hZ0 (hw _ (List.mem_of_getElem? (i := 88) rfl))) (by decide) (backOf (W := 0) (rm16U l Z a0 hw [] a1 w h0 n0 Z0 O0 S0 hw0 SA SHI SLO FM SC) hZ0 (hw _ (List.mem_of_getElem? (i := 90) rfl)) (hw _ (List.mem_of_getElem? (i := 4) rfl)) (by decide) (by decide)) q104a q104c (g := (mkF m 1 #[.val (.ref a1), .val (.int p2)] [(.ref a1)])) rfl (by rw [hml]; rfl) (Steps.refl _) (argsL := []) (rest := []) (lenOf pd_6 rfl) rfl (by show 2 * 0 + _ ≤ _; exact Nat.le_of_eq rfl) (hb hby d24_1) (fun _ _ => ⟨rfl, e0, (by decide : 0 + 0 ≤ _), (by decide : 0 + 0 ≤ _)⟩)
    dsimp only [Pt.U, Pt.locs, Pt.cells, Pt.slots] at X104 l104 y104 z104 st104 hQ104
    subst l104 y104 z104
    obtain ⟨rfl, N104q, P104_0⟩ := hQ104
    have N104 := Fr.app N0 N104q
    obtain ⟨T105, X105, e105, st105⟩ := getF X104 hx hZ0 hown0 (host := "") (Or.inl (hw _ (List.mem_of_getElem? (i := 29) rfl))) Via.refl P104_0 SV (g := (mkF m 17 #[.val (.ref a1), .val (.int p2)] [(.ref a1)])) rfl rfl (hb hby d24_17)
    obtain ⟨_, _, ⟨T106, L106, k106, n106⟩, -, X106, ⟨Lc106, hQ106, l106, y106, z106⟩, st106⟩ := Jvm.LawKit.callS X105 hx (y := (⟨"java/lang/StringUTF16", "charAt", "([BI)C"⟩ : MethodName)) hown0 (mvT hZ0 (hw _ (List.mem_of_getElem? (i := 183) rfl))) (mvT hZ0 (hw _ (List.mem_of_getElem? (i := 184) rfl))) (mvT hZ0 (hw _ (List.mem_of_getElem? (i := 18) rfl))) (mvT hZ0 (hw _ (List.mem_of_getElem? (i := 185) rfl))) (by decide) (backOf (W := 0) (rm40 l Z a0 hw [] bb p2 w n f h0 n0 Z0 O0 S0 hw0 SA SHI SLO FM SB SL ix hf) hZ0 (hw _ (List.mem_of_getElem? (i := 185) rfl)) (hw _ (List.mem_of_getElem? (i := 18) rfl)) (by decide) (by decide)) (g := (mkF m 21 #[.val (.ref a1), .val (.int p2)] [(.int p2), (.ref bb)])) rfl (by rw [hml]; rfl) (argsL := [(.ref bb), (.int p2)]) (rest := []) (lenOf pd_4 rfl) rfl (by show 2 * 0 + _ ≤ _; exact Nat.le_of_eq rfl) (hb hby d24_21) (fun _ _ => ⟨rfl, e105, (by decide : 0 + 0 ≤ _), (by decide : 0 + 0 ≤ _)⟩)
    dsimp only [Pt.U, Pt.locs, Pt.cells, Pt.slots] at X106 l106 y106 z106 st106 hQ106
    subst l106 y106 z106
    obtain ⟨rfl, N106q, P106_0⟩ := hQ106
    have N106 := Fr.app N104 N106q
    obtain ⟨fs, hr, hrun, hended, hW, hsame⟩ := X106.leave (v := some (.int (nar .char (f p2.toNatClampNeg)))) (fun h => by rw [Bd.returns] at h; cases h) hlk
    refine ⟨_, _, pre0 _ ?_, hrun, hended, _, _, rfl, ?_, ⟨_, rfl⟩, hW, hsame.mono (by decide) (by decide)⟩
    · show Steps p.tables e below (s₁.setTop (mkF m 0 #[.val (.ref a1), .val (.int p2)] [])) _
      refine XS.aloadN X0.here hx rfl (hb hby d24_0) rfl rfl ?_
      show Steps p.tables e below (s₁.setTop (mkF m 1 #[.val (.ref a1), .val (.int p2)] [(.ref a1)])) _
      refine st104.trans ?_
      show Steps p.tables e below (T104.setTop (mkF m 4 #[.val (.ref a1), .val (.int p2)] [(.int (0 : Int32))])) _
      refine XS.ifYes X104.here hx rfl (pc0 := 4) (pc' := 16) rfl (hb hby d24_4) rfl ((if0 _ _).trans (teq (by decide : (0 : Int32) = (0 : Int32))).1) (by decide) (by decide) ?_
      show Steps p.tables e below (T104.setTop (mkF m 16 #[.val (.ref a1), .val (.int p2)] [])) _
      refine XS.aloadN X104.here hx rfl (hb hby d24_16) rfl rfl ?_
      show Steps p.tables e below (T104.setTop (mkF m 17 #[.val (.ref a1), .val (.int p2)] [(.ref a1)])) _
      refine st105 _ ?_
      show Steps p.tables e below (T105.setTop (mkF m 20 #[.val (.ref a1), .val (.int p2)] [(.ref bb)])) _
      refine XS.iloadN X105.here hx rfl (hb hby d24_20) rfl ?_
      show Steps p.tables e below (T105.setTop (mkF m 21 #[.val (.ref a1), .val (.int p2)] [(.int p2), (.ref bb)])) _
      refine st106 _ ?_
      show Steps p.tables e below (T106.setTop (mkF m 24 #[.val (.ref a1), .val (.int p2)] [(.int (f p2.toNatClampNeg))])) _
      exact retN X106 hx (t := .char) Bd.returns (by simp) (hb hby d24_24) hr
    · show Q24 Z a1 p2 w bb n f h0 n0 _ T106.heap _
      rw [P106_0]
      exact ⟨(congrArg (fun z => some (Value.int z)) (own_narC (hf _) : (nar .char (f p2.toNatClampNeg)) = (f p2.toNatClampNeg))), N106, rfl⟩
theorem own_last {f : Nat → Int32} (hu : ¬ own_lat f (4 : Int32)) (h0 : ¬ (255 : Int32) < f 0) (h1 : ¬ (255 : Int32) < f 1) (h2 : ¬ (255 : Int32) < f 2) : (255 : Int32) < f 3 := Classical.byContradiction fun q => hu fun i hi => by
  have hi' : i < 4 := hi
  rcases (by omega : i = 0 ∨ i = 1 ∨ i = 2 ∨ i = 3) with rfl | rfl | rfl | rfl <;> assumption
theorem ef_30 (m : MethodId) (x0 : Int32) : entryFrame m #[(.int x0)] 1 = mkF m 0 #[.val (.int x0)] [] := by first | (simp [entryFrame, mkF, argsToLocals, Value.category]; done) | rfl
theorem d30_0 : decode jdk_52_method_3_code 0 = .ok (.iload_n 0, 1) := by decide +kernel
theorem d30_1 : decode jdk_52_method_3_code 1 = .ok (.ifCond .ge 11, 3) := by decide +kernel
theorem d30_12 : decode jdk_52_method_3_code 12 = .ok (.iload_n 0, 1) := by decide +kernel
theorem d30_13 : decode jdk_52_method_3_code 13 = .ok (.ldc 20, 2) := by decide +kernel
theorem d30_15 : decode jdk_52_method_3_code 15 = .ok (.if_icmp .lt 40, 3) := by decide +kernel
theorem d30_55 : decode jdk_52_method_3_code 55 = .ok (.iload_n 0, 1) := by decide +kernel
theorem d30_56 : decode jdk_52_method_3_code 56 = .ok (.iconst 1, 1) := by decide +kernel
theorem d30_57 : decode jdk_52_method_3_code 57 = .ok (.ishl, 1) := by decide +kernel
theorem d30_58 : decode jdk_52_method_3_code 58 = .ok (.ireturn, 1) := by decide +kernel
def Q30 (Z : State) (p1 : Int32) (h0 : Heap) (n0 : Nat) (v : Option Value) (h : Heap) (L : List Loc) : Prop := v = some (.int (own_d p1)) ∧ Fr n0 L ∧ (h = h0)
set_option maxRecDepth 65536 in
set_option maxHeartbeats 40000000 in
theorem rm30 (l : Launch) (Z : State) (a0 : Array Value) (hw : ∀ d ∈ tables_1, d.before a0 Z = true) (ws : List Jvm.Cond) (p1 : Int32) (h0 : Heap) (n0 : Nat) (Z0 : n0 ≤ h0.size) (sm : own_sm p1) :
    MetFree l (⟨"java/lang/StringUTF16", "newBytesLength", "(I)I"⟩ : MethodName) (head1 (Jvm.Cond.code (⟨"java/lang/StringUTF16", "newBytesLength", "(I)I"⟩ : MethodName) jdk_52_method_3_code 1 (some .int) :: ws) ({ frames := 0, cells := 0, slots := 0, locals := 0 } : Room)) (fun a U => a = #[(.int p1)] ∧ Z.Warmed39 U.vm ∧ U.heap = h0) (fun _ _ _ _ _ => True) (fun _ U o U' => ∃ v L, o = .returned v ∧ Q30 Z p1 h0 n0 v U'.heap L ∧ FrameEnd U o U' L ({ frames := 0, cells := 0, slots := 0, locals := 0 } : Room).cells ({ frames := 0, cells := 0, slots := 0, locals := 0 } : Room).slots) := by
  refine MetFree.of_bodySF (plainFor_of_name pn_2) hisR ?_
  intro p e s m args below meth c s₁ Bd hml0 hP hK
  obtain ⟨rfl, hZ0, hh⟩ := hP
  have hx := Bd.exec
  have hby := Bd.bytes
  have hml : c.maxLocals = 1 := hml0
  have hown0 : s.vm.findClass "java/lang/StringUTF16" = some m.cls := findClass_of_methodNamed Bd.named
  have hnm := (name_of_methodNamed Bd.named Bd.method).1
  have hlk : meth.locks = false := by first | exact BodyLoose.notSynchronized Bd | exact Body.notSynchronized Bd
  have X0 : Stand p l e ({ frames := 0, cells := 0, slots := 0, locals := 0 } : Room) s m #[(.int p1)] below meth c s₁ [] 0 0 := Stand.of_body Bd
  have e0 : s₁.heap = h0 := by rw [← hh, Bd.state]; rfl
  have N0 := Fr.nil n0
  have pre0 : ∀ t, Steps p.tables e below (s₁.setTop (mkF m 0 #[.val (.int p1)] [])) t → Steps p.tables e below (s₁.setTop (entryFrame m #[(.int p1)] 1)) t := fun t k => castTop (ef_30 m p1) k
  obtain ⟨fs, hr, hrun, hended, hW, hsame⟩ := X0.leave (v := some (.int (own_d p1))) (fun h => by rw [Bd.returns] at h; cases h) hlk
  refine ⟨_, _, pre0 _ ?_, hrun, hended, _, _, rfl, ?_, ⟨_, rfl⟩, hW, hsame.mono (by decide) (by decide)⟩
  · show Steps p.tables e below (s₁.setTop (mkF m 0 #[.val (.int p1)] [])) _
    refine XS.iloadN X0.here hx rfl (hb hby d30_0) rfl ?_
    show Steps p.tables e below (s₁.setTop (mkF m 1 #[.val (.int p1)] [(.int p1)])) _
    refine XS.ifYes X0.here hx rfl (pc0 := 1) (pc' := 12) rfl (hb hby d30_1) rfl ((if0 _ _).trans (flt ((own_e1 (P := fun n => ¬ n < (0 : Int32)) sm (by decide +kernel)) : ¬ (p1 < (0 : Int32)))).2.1) (by decide) (by decide) ?_
    show Steps p.tables e below (s₁.setTop (mkF m 12 #[.val (.int p1)] [])) _
    refine XS.iloadN X0.here hx rfl (hb hby d30_12) rfl ?_
    show Steps p.tables e below (s₁.setTop (mkF m 13 #[.val (.int p1)] [(.int p1)])) _
    refine X0.ldcI hx hown0 (mvT hZ0 (hw _ (List.mem_of_getElem? (i := 146) rfl))) (g := (mkF m 13 #[.val (.int p1)] [(.int p1)])) rfl (hb hby d30_13) ?_
    show Steps p.tables e below (s₁.setTop (mkF m 15 #[.val (.int p1)] [(.int (1073741823 : Int32)), (.int p1)])) _
    refine XS.icmpYes X0.here hx rfl (pc0 := 15) (pc' := 55) rfl (hb hby d30_15) rfl (tlt ((own_e1 (P := fun n => n < (1073741823 : Int32)) sm (by decide +kernel)) : p1 < (1073741823 : Int32))).1 (by decide) (by decide) ?_
    show Steps p.tables e below (s₁.setTop (mkF m 55 #[.val (.int p1)] [])) _
    refine XS.iloadN X0.here hx rfl (hb hby d30_55) rfl ?_
    show Steps p.tables e below (s₁.setTop (mkF m 56 #[.val (.int p1)] [(.int p1)])) _
    refine XS.iconst X0.here hx rfl (hb hby d30_56) ?_
    show Steps p.tables e below (s₁.setTop (mkF m 57 #[.val (.int p1)] [(.int (1 : Int32)), (.int p1)])) _
    refine XS.ishl X0.here hx rfl (hb hby d30_57) rfl ?_
    show Steps p.tables e below (s₁.setTop (mkF m 58 #[.val (.int p1)] [(.int (p1 <<< ((1 : Int32) &&& 31)))])) _
    rw [(show (p1 <<< ((1 : Int32) &&& 31)) = own_d p1 from rfl)]
    show Steps p.tables e below (s₁.setTop (mkF m 58 #[.val (.int p1)] [(.int (own_d p1))])) _
    exact retI X0 hx Bd.returns (hb hby d30_58) hr
  · show Q30 Z p1 h0 n0 _ s₁.heap _
    rw [e0]
    exact ⟨rfl, N0, rfl⟩
theorem ef_29 (m : MethodId) (x0 : Int32) : entryFrame m #[(.int x0)] 1 = mkF m 0 #[.val (.int x0)] [] := by first | (simp [entryFrame, mkF, argsToLocals, Value.category]; done) | rfl
theorem d29_0 : decode jdk_52_method_2_code 0 = .ok (.iload_n 0, 1) := by decide +kernel
theorem d29_1 : decode jdk_52_method_2_code 1 = .ok (.invokestatic 11, 3) := by decide +kernel
theorem pd_7 : parseMethodDescriptor "(I)I" = some ⟨[.int], some .int⟩ := by decide +kernel
theorem d29_4 : decode jdk_52_method_2_code 4 = .ok (.newarray .byte, 2) := by decide +kernel
theorem d29_6 : decode jdk_52_method_2_code 6 = .ok (.areturn, 1) := by decide +kernel
def Q29 (Z : State) (p1 : Int32) (f : Nat → Int32) (h0 : Heap) (n0 : Nat) (v : Option Value) (h : Heap) (L : List Loc) : Prop := ∃ b : Addr, v = some (.ref b) ∧ Fr n0 L ∧ (Keep h0 h []) ∧ (h0.size ≤ b) ∧ (OwnB Z h b (own_d p1) 0 (own_u f))
set_option maxRecDepth 65536 in
set_option maxHeartbeats 40000000 in
theorem rm29 (l : Launch) (Z : State) (a0 : Array Value) (hw : ∀ d ∈ tables_1, d.before a0 Z = true) (ws : List Jvm.Cond) (p1 : Int32) (f : Nat → Int32) (h0 : Heap) (n0 : Nat) (Z0 : n0 ≤ h0.size) (sm : own_sm p1) :
    MetFree l (⟨"java/lang/StringUTF16", "newBytesFor", "(I)[B"⟩ : MethodName) (head1 (Jvm.Cond.code (⟨"java/lang/StringUTF16", "newBytesFor", "(I)[B"⟩ : MethodName) jdk_52_method_2_code 1 (some (.array .byte)) :: ws) ({ frames := 1, cells := 1, slots := 16, locals := 12 } : Room)) (fun a U => a = #[(.int p1)] ∧ Z.Warmed39 U.vm ∧ U.heap = h0) (fun _ _ _ _ _ => True) (fun _ U o U' => ∃ v L, o = .returned v ∧ Q29 Z p1 f h0 n0 v U'.heap L ∧ FrameEnd U o U' L ({ frames := 1, cells := 1, slots := 16, locals := 12 } : Room).cells ({ frames := 1, cells := 1, slots := 16, locals := 12 } : Room).slots) := by
  refine MetFree.of_bodySF (plainFor_of_name pn_2) hisR ?_
  intro p e s m args below meth c s₁ Bd hml0 hP hK
  obtain ⟨rfl, hZ0, hh⟩ := hP
  have hx := Bd.exec
  have hby := Bd.bytes
  have hml : c.maxLocals = 1 := hml0
  have hown0 : s.vm.findClass "java/lang/StringUTF16" = some m.cls := findClass_of_methodNamed Bd.named
  have hnm := (name_of_methodNamed Bd.named Bd.method).1
  have hlk : meth.locks = false := by first | exact BodyLoose.notSynchronized Bd | exact Body.notSynchronized Bd
  have X0 : Stand p l e ({ frames := 1, cells := 1, slots := 16, locals := 12 } : Room) s m #[(.int p1)] below meth c s₁ [] 0 0 := Stand.of_body Bd
  have e0 : s₁.heap = h0 := by rw [← hh, Bd.state]; rfl
  have N0 := Fr.nil n0
  have pre0 : ∀ t, Steps p.tables e below (s₁.setTop (mkF m 0 #[.val (.int p1)] [])) t → Steps p.tables e below (s₁.setTop (entryFrame m #[(.int p1)] 1)) t := fun t k => castTop (ef_29 m p1) k
  obtain ⟨_, _, ⟨T101, L101, k101, n101⟩, -, X101, ⟨Lc101, hQ101, l101, y101, z101⟩, st101⟩ := Jvm.LawKit.callS X0 hx (y := (⟨"java/lang/StringUTF16", "newBytesLength", "(I)I"⟩ : MethodName)) hown0 (mvT hZ0 (hw _ (List.mem_of_getElem? (i := 143) rfl))) (mvT hZ0 (hw _ (List.mem_of_getElem? (i := 144) rfl))) (mvT hZ0 (hw _ (List.mem_of_getElem? (i := 18) rfl))) (mvT hZ0 (hw _ (List.mem_of_getElem? (i := 145) rfl))) (by decide) (backOf (W := 0) (rm30 l Z a0 hw [] p1 h0 n0 Z0 sm) hZ0 (hw _ (List.mem_of_getElem? (i := 145) rfl)) (hw _ (List.mem_of_getElem? (i := 18) rfl)) (by decide) (by decide)) (g := (mkF m 1 #[.val (.int p1)] [(.int p1)])) rfl (by rw [hml]; rfl) (argsL := [(.int p1)]) (rest := []) (lenOf pd_7 rfl) rfl (by show 2 * 0 + _ ≤ _; exact Nat.le_of_eq rfl) (hb hby d29_1) (fun _ _ => ⟨rfl, e0, (by decide : 0 + 0 ≤ _), (by decide : 0 + 0 ≤ _)⟩)
  dsimp only [Pt.U, Pt.locs, Pt.cells, Pt.slots] at X101 l101 y101 z101 st101 hQ101
  subst l101 y101 z101
  obtain ⟨rfl, N101q, P101_0⟩ := hQ101
  have N101 := Fr.app N0 N101q
  obtain ⟨T102, h102, k102, X102, e102, E102, A102, st102⟩ := newP X101 hx hZ0 (hw _ (List.mem_of_getElem? (i := 20) rfl)) P101_0 (g := (mkF m 4 #[.val (.int p1)] [(.int (own_d p1))])) rfl (hb hby d29_4) rfl (own_e1 (P := fun n => ¬ own_d n < 0) sm (by decide +kernel)) (cap := 16) (own_e1 (P := fun n => (own_d n).toNatClampNeg ≤ 16) sm (by decide +kernel)) (by decide) (by decide) (by decide)
  obtain ⟨b102, g102⟩ : ∃ z, z = h0.size := ⟨_, rfl⟩
  rw [← g102] at A102 st102
  have gn_b102 : n0 ≤ b102 := Nat.le_trans Z0 (Nat.le_of_eq g102.symm)
  have sz_b102 : h0.size ≤ b102 := Nat.le_trans (Keep.refl h0 []).1 (Nat.le_of_eq g102.symm)
  have Zs102 : n0 ≤ h102.size := Nat.le_trans Z0 E102.1
  have K102 : Keep h0 h102 [] := (Keep.refl h0 []).ext E102
  have v102 : OwnB Z h102 b102 (own_d p1) 0 (own_u f) := OwnB.new A102 (own_e1 (P := fun n => ¬ own_d n < 0) sm (by decide +kernel)) _
  obtain ⟨fs, hr, hrun, hended, hW, hsame⟩ := X102.leave (v := some (.ref b102)) (fun h => by rw [Bd.returns] at h; cases h) hlk
  refine ⟨_, _, pre0 _ ?_, hrun, hended, _, _, rfl, ?_, ⟨_, rfl⟩, hW, hsame.mono (by decide) (by decide)⟩
  · show Steps p.tables e below (s₁.setTop (mkF m 0 #[.val (.int p1)] [])) _
    refine XS.iloadN X0.here hx rfl (hb hby d29_0) rfl ?_
    show Steps p.tables e below (s₁.setTop (mkF m 1 #[.val (.int p1)] [(.int p1)])) _
    refine st101 _ ?_
    show Steps p.tables e below (T101.setTop (mkF m 4 #[.val (.int p1)] [(.int (own_d p1))])) _
    refine st102 _ ?_
    show Steps p.tables e below (T102.setTop (mkF m 6 #[.val (.int p1)] [(.ref b102)])) _
    jvm_step X102.here [X102.here.top, hx, (hb hby d29_6), X102.method', Bd.returns, Value.isRef, FieldType.isReference]
    first | (intro acts; rw [hr _ acts rfl rfl rfl]) | rw [hr _ _ rfl rfl rfl]
    exact Steps.refl _
  · show Q29 Z p1 f h0 n0 _ T102.heap _
    rw [e102]
    exact ⟨b102, rfl, N101, K102, sz_b102, v102⟩
theorem ef_31 (m : MethodId) (x0 : Addr) (x1 : Int32) (x2 : Int32) : entryFrame m #[(.ref x0), (.int x1), (.int x2)] 3 = mkF m 0 #[.val (.ref x0), .val (.int x1), .val (.int x2)] [] := by first | (simp [entryFrame, mkF, argsToLocals, Value.category]; done) | rfl
theorem d31_0 : decode jdk_52_method_4_code 0 = .ok (.getstatic 44, 3) := by decide +kernel
theorem d31_3 : decode jdk_52_method_4_code 3 = .ok (.ifCond .ne 25, 3) := by decide +kernel
theorem d31_28 : decode jdk_52_method_4_code 28 = .ok (.iload_n 1, 1) := by decide +kernel
theorem d31_29 : decode jdk_52_method_4_code 29 = .ok (.iconst 1, 1) := by decide +kernel
theorem d31_30 : decode jdk_52_method_4_code 30 = .ok (.ishl, 1) := by decide +kernel
theorem d31_31 : decode jdk_52_method_4_code 31 = .ok (.istore_n 1, 1) := by decide +kernel
theorem d31_32 : decode jdk_52_method_4_code 32 = .ok (.aload_n 0, 1) := by decide +kernel
theorem d31_33 : decode jdk_52_method_4_code 33 = .ok (.iload_n 1, 1) := by decide +kernel
theorem d31_34 : decode jdk_52_method_4_code 34 = .ok (.iinc 1 1, 3) := by decide +kernel
theorem d31_37 : decode jdk_52_method_4_code 37 = .ok (.iload_n 2, 1) := by decide +kernel
theorem d31_38 : decode jdk_52_method_4_code 38 = .ok (.getstatic 59, 3) := by decide +kernel
theorem d31_41 : decode jdk_52_method_4_code 41 = .ok (.ishr, 1) := by decide +kernel
theorem d31_42 : decode jdk_52_method_4_code 42 = .ok (.i2b, 1) := by decide +kernel
theorem d31_43 : decode jdk_52_method_4_code 43 = .ok (.bastore, 1) := by decide +kernel
theorem d31_44 : decode jdk_52_method_4_code 44 = .ok (.aload_n 0, 1) := by decide +kernel
theorem d31_45 : decode jdk_52_method_4_code 45 = .ok (.iload_n 1, 1) := by decide +kernel
theorem d31_46 : decode jdk_52_method_4_code 46 = .ok (.iload_n 2, 1) := by decide +kernel
theorem d31_47 : decode jdk_52_method_4_code 47 = .ok (.getstatic 63, 3) := by decide +kernel
theorem d31_50 : decode jdk_52_method_4_code 50 = .ok (.ishr, 1) := by decide +kernel
theorem d31_51 : decode jdk_52_method_4_code 51 = .ok (.i2b, 1) := by decide +kernel
theorem d31_52 : decode jdk_52_method_4_code 52 = .ok (.bastore, 1) := by decide +kernel
theorem d31_53 : decode jdk_52_method_4_code 53 = .ok (.return_, 1) := by decide +kernel
def Q31 (Z : State) (a1 : Addr) (p2 : Int32) (p3 : Int32) (w : Int32) (n : Int32) (f : Nat → Int32) (h0 : Heap) (n0 : Nat) (v : Option Value) (h : Heap) (L : List Loc) : Prop := v = none ∧ Fr n0 L ∧ (Keep h0 h [a1]) ∧ (OwnB Z h a1 (own_d n) (2 * p2.toNatClampNeg + 1 + 1) (own_u f))
set_option maxRecDepth 65536 in
set_option maxHeartbeats 40000000 in
theorem rm31 (l : Launch) (Z : State) (a0 : Array Value) (hw : ∀ d ∈ tables_1, d.before a0 Z = true) (ws : List Jvm.Cond) (a1 : Addr) (p2 : Int32) (p3 : Int32) (w : Int32) (n : Int32) (f : Nat → Int32) (h0 : Heap) (n0 : Nat) (Z0 : n0 ≤ h0.size) (O0 : Old Z n0 h0) (S0 : Sta Z Z.heap "java/lang/String" "COMPACT_STRINGS" "Z" (.int w)) (hw0 : ¬ (w = (0 : Int32))) (SA : Sta Z Z.heap "java/lang/StringUTF16" "$assertionsDisabled" "Z" (.int (1 : Int32))) (SHI : Sta Z Z.heap "java/lang/StringUTF16" "HI_BYTE_SHIFT" "I" (.int (0 : Int32))) (SLO : Sta Z Z.heap "java/lang/StringUTF16" "LO_BYTE_SHIFT" "I" (.int (8 : Int32))) (FM : Fmt Z) (B1 : OwnB Z h0 a1 (own_d n) (2 * p2.toNatClampNeg) (own_u f)) (sm : own_sm n) (ix : own_ix p2 n) (hx2 : p3 = f p2.toNatClampNeg) (g1 : n0 ≤ a1) :
    MetFree l (⟨"java/lang/StringUTF16", "putChar", "([BII)V"⟩ : MethodName) (head1 (Jvm.Cond.code (⟨"java/lang/StringUTF16", "putChar", "([BII)V"⟩ : MethodName) jdk_52_method_4_code 3 none :: ws) ({ frames := 0, cells := 0, slots := 0, locals := 0 } : Room)) (fun a U => a = #[(.ref a1), (.int p2), (.int p3)] ∧ Z.Warmed39 U.vm ∧ U.heap = h0) (fun _ _ _ _ _ => True) (fun _ U o U' => ∃ v L, o = .returned v ∧ Q31 Z a1 p2 p3 w n f h0 n0 v U'.heap L ∧ FrameEnd U o U' L ({ frames := 0, cells := 0, slots := 0, locals := 0 } : Room).cells ({ frames := 0, cells := 0, slots := 0, locals := 0 } : Room).slots) := by
  refine MetFree.of_bodySF (plainFor_of_name pn_2) hisR ?_
  intro p e s m args below meth c s₁ Bd hml0 hP hK
  obtain ⟨rfl, hZ0, hh⟩ := hP
  have hx := Bd.exec
  have hby := Bd.bytes
  have hml : c.maxLocals = 3 := hml0
  have hown0 : s.vm.findClass "java/lang/StringUTF16" = some m.cls := findClass_of_methodNamed Bd.named
  have hnm := (name_of_methodNamed Bd.named Bd.method).1
  have hlk : meth.locks = false := by first | exact BodyLoose.notSynchronized Bd | exact Body.notSynchronized Bd
  have X0 : Stand p l e ({ frames := 0, cells := 0, slots := 0, locals := 0 } : Room) s m #[(.ref a1), (.int p2), (.int p3)] below meth c s₁ [] 0 0 := Stand.of_body Bd
  have e0 : s₁.heap = h0 := by rw [← hh, Bd.state]; rfl
  have N0 := Fr.nil n0
  have pre0 : ∀ t, Steps p.tables e below (s₁.setTop (mkF m 0 #[.val (.ref a1), .val (.int p2), .val (.int p3)] [])) t → Steps p.tables e below (s₁.setTop (entryFrame m #[(.ref a1), (.int p2), (.int p3)] 3)) t := fun t k => castTop (ef_31 m a1 p2 p3) k
  obtain ⟨T101, X101, e101, st101⟩ := getS2 X0 hx hZ0 hown0 (host := "") (Or.inl (hw _ (List.mem_of_getElem? (i := 150) rfl))) Via.refl e0 (Sta.ext O0.2 SA) (g := (mkF m 0 #[.val (.ref a1), .val (.int p2), .val (.int p3)] [])) rfl (hb hby d31_0)
  obtain ⟨T102, X102, e102, st102⟩ := getS2 X101 hx hZ0 hown0 (host := "") (Or.inl (hw _ (List.mem_of_getElem? (i := 151) rfl))) Via.refl e101 (Sta.ext O0.2 SHI) (g := (mkF m 38 #[.val (.ref a1), .val (.int ((own_d p2) + (1 : Int32))), .val (.int p3)] [(.int p3), (.int (own_d p2)), (.ref a1)])) rfl (hb hby d31_38)
  obtain ⟨cl103, Ar103, Sz103, Nn103, Hs103⟩ := (id B1)
  obtain ⟨T104, h104, X104, e104, W104, st104⟩ := stB X102 hx hZ0 e102 Ar103 (j := (own_d p2)) (own_in0 sm ix Sz103) (g := (mkF m 43 #[.val (.ref a1), .val (.int ((own_d p2) + (1 : Int32))), .val (.int p3)] [(.int ((p3 >>> ((0 : Int32) &&& 31)).toInt8.toInt32)), (.int (own_d p2)), (.ref a1)])) rfl rfl (hb hby d31_43)
  have f105 : Old Z n0 h104 := O0.wr W104 g1
  have Zs104 : n0 ≤ h104.size := Nat.le_trans Z0 (Keep.of_wr W104).1
  have N104 := Fr.snoc X104 N0 g1
  have K104 : Keep h0 h104 [a1] := (Keep.refl h0 [a1]).wr W104 (Or.inl (List.mem_of_getElem? (i := 0) rfl))
  have v104 : OwnB Z h104 a1 (own_d n) (2 * p2.toNatClampNeg + 1) (own_u f) := (OwnB.put Ar103 Sz103 Nn103 Hs103 (own_in0 sm ix Sz103) W104 (own_2d sm ix).1 (by rw [hx2]; exact (own_u0 f _).symm))
  obtain ⟨T106, X106, e106, st106⟩ := getS2 X104 hx hZ0 hown0 (host := "") (Or.inl (hw _ (List.mem_of_getElem? (i := 152) rfl))) Via.refl e104 (Sta.ext f105.2 SLO) (g := (mkF m 47 #[.val (.ref a1), .val (.int ((own_d p2) + (1 : Int32))), .val (.int p3)] [(.int p3), (.int ((own_d p2) + (1 : Int32))), (.ref a1)])) rfl (hb hby d31_47)
  obtain ⟨cl107, Ar107, Sz107, Nn107, Hs107⟩ := (id v104)
  obtain ⟨T108, h108, X108, e108, W108, st108⟩ := stB X106 hx hZ0 e106 Ar107 (j := ((own_d p2) + (1 : Int32))) (own_in1 sm ix Sz107) (g := (mkF m 52 #[.val (.ref a1), .val (.int ((own_d p2) + (1 : Int32))), .val (.int p3)] [(.int ((p3 >>> ((8 : Int32) &&& 31)).toInt8.toInt32)), (.int ((own_d p2) + (1 : Int32))), (.ref a1)])) rfl rfl (hb hby d31_52)
  have f109 : Old Z n0 h108 := f105.wr W108 g1
  have Zs108 : n0 ≤ h108.size := Nat.le_trans Zs104 (Keep.of_wr W108).1
  have N108 := Fr.snoc X108 N104 g1
  have K108 : Keep h0 h108 [a1] := K104.wr W108 (Or.inl (List.mem_of_getElem? (i := 0) rfl))
  have v108 : OwnB Z h108 a1 (own_d n) (2 * p2.toNatClampNeg + 1 + 1) (own_u f) := (OwnB.put Ar107 Sz107 Nn107 Hs107 (own_in1 sm ix Sz107) W108 (own_2d sm ix).2.1 (by rw [hx2]; exact (own_u1 f _).symm))
  obtain ⟨fs, hr, hrun, hended, hW, hsame⟩ := X108.leave (v := none) (fun _ => rfl) hlk
  refine ⟨_, _, pre0 _ ?_, hrun, hended, _, _, rfl, ?_, ⟨_, rfl⟩, hW, hsame.mono (by decide) (by decide)⟩
  · show Steps p.tables e below (s₁.setTop (mkF m 0 #[.val (.ref a1), .val (.int p2), .val (.int p3)] [])) _
    refine st101 _ ?_
    show Steps p.tables e below (T101.setTop (mkF m 3 #[.val (.ref a1), .val (.int p2), .val (.int p3)] [(.int (1 : Int32))])) _
    refine XS.ifYes X101.here hx rfl (pc0 := 3) (pc' := 28) rfl (hb hby d31_3) rfl ((if0 _ _).trans (feq (by decide : ¬ ((1 : Int32) = (0 : Int32)))).2) (by decide) (by decide) ?_
    show Steps p.tables e below (T101.setTop (mkF m 28 #[.val (.ref a1), .val (.int p2), .val (.int p3)] [])) _
    refine XS.iloadN X101.here hx rfl (hb hby d31_28) rfl ?_
    show Steps p.tables e below (T101.setTop (mkF m 29 #[.val (.ref a1), .val (.int p2), .val (.int p3)] [(.int p2)])) _
    refine XS.iconst X101.here hx rfl (hb hby d31_29) ?_
    show Steps p.tables e below (T101.setTop (mkF m 30 #[.val (.ref a1), .val (.int p2), .val (.int p3)] [(.int (1 : Int32)), (.int p2)])) _
    refine XS.ishl X101.here hx rfl (hb hby d31_30) rfl ?_
    show Steps p.tables e below (T101.setTop (mkF m 31 #[.val (.ref a1), .val (.int p2), .val (.int p3)] [(.int (p2 <<< ((1 : Int32) &&& 31)))])) _
    rw [(show (p2 <<< ((1 : Int32) &&& 31)) = own_d p2 from rfl)]
    show Steps p.tables e below (T101.setTop (mkF m 31 #[.val (.ref a1), .val (.int p2), .val (.int p3)] [(.int (own_d p2))])) _
    refine XS.istoreN X101.here hx rfl (hb hby d31_31) rfl (l' := #[.val (.ref a1), .val (.int (own_d p2)), .val (.int p3)]) rfl ?_
    show Steps p.tables e below (T101.setTop (mkF m 32 #[.val (.ref a1), .val (.int (own_d p2)), .val (.int p3)] [])) _
    refine XS.aloadN X101.here hx rfl (hb hby d31_32) rfl rfl ?_
    show Steps p.tables e below (T101.setTop (mkF m 33 #[.val (.ref a1), .val (.int (own_d p2)), .val (.int p3)] [(.ref a1)])) _
    refine XS.iloadN X101.here hx rfl (hb hby d31_33) rfl ?_
    show Steps p.tables e below (T101.setTop (mkF m 34 #[.val (.ref a1), .val (.int (own_d p2)), .val (.int p3)] [(.int (own_d p2)), (.ref a1)])) _
    refine XS.iinc X101.here hx rfl (hb hby d31_34) rfl (l' := #[.val (.ref a1), .val (.int ((own_d p2) + (1 : Int32))), .val (.int p3)]) rfl ?_
    show Steps p.tables e below (T101.setTop (mkF m 37 #[.val (.ref a1), .val (.int ((own_d p2) + (1 : Int32))), .val (.int p3)] [(.int (own_d p2)), (.ref a1)])) _
    refine XS.iloadN X101.here hx rfl (hb hby d31_37) rfl ?_
    show Steps p.tables e below (T101.setTop (mkF m 38 #[.val (.ref a1), .val (.int ((own_d p2) + (1 : Int32))), .val (.int p3)] [(.int p3), (.int (own_d p2)), (.ref a1)])) _
    refine st102 _ ?_
    show Steps p.tables e below (T102.setTop (mkF m 41 #[.val (.ref a1), .val (.int ((own_d p2) + (1 : Int32))), .val (.int p3)] [(.int (0 : Int32)), (.int p3), (.int (own_d p2)), (.ref a1)])) _
    refine XS.ishr X102.here hx rfl (hb hby d31_41) rfl ?_
    show Steps p.tables e below (T102.setTop (mkF m 42 #[.val (.ref a1), .val (.int ((own_d p2) + (1 : Int32))), .val (.int p3)] [(.int (p3 >>> ((0 : Int32) &&& 31))), (.int (own_d p2)), (.ref a1)])) _
    refine XS.i2b X102.here hx rfl (hb hby d31_42) rfl ?_
    show Steps p.tables e below (T102.setTop (mkF m 43 #[.val (.ref a1), .val (.int ((own_d p2) + (1 : Int32))), .val (.int p3)] [(.int ((p3 >>> ((0 : Int32) &&& 31)).toInt8.toInt32)), (.int (own_d p2)), (.ref a1)])) _
    refine st104 _ ?_
    show Steps p.tables e below (T104.setTop (mkF m 44 #[.val (.ref a1), .val (.int ((own_d p2) + (1 : Int32))), .val (.int p3)] [])) _
    refine XS.aloadN X104.here hx rfl (hb hby d31_44) rfl rfl ?_
    show Steps p.tables e below (T104.setTop (mkF m 45 #[.val (.ref a1), .val (.int ((own_d p2) + (1 : Int32))), .val (.int p3)] [(.ref a1)])) _
    refine XS.iloadN X104.here hx rfl (hb hby d31_45) rfl ?_
    show Steps p.tables e below (T104.setTop (mkF m 46 #[.val (.ref a1), .val (.int ((own_d p2) + (1 : Int32))), .val (.int p3)] [(.int ((own_d p2) + (1 : Int32))), (.ref a1)])) _
    refine XS.iloadN X104.here hx rfl (hb hby d31_46) rfl ?_
    show Steps p.tables e below (T104.setTop (mkF m 47 #[.val (.ref a1), .val (.int ((own_d p2) + (1 : Int32))), .val (.int p3)] [(.int p3), (.int ((own_d p2) + (1 : Int32))), (.ref a1)])) _
    refine st106 _ ?_
    show Steps p.tables e below (T106.setTop (mkF m 50 #[.val (.ref a1), .val (.int ((own_d p2) + (1 : Int32))), .val (.int p3)] [(.int (8 : Int32)), (.int p3), (.int ((own_d p2) + (1 : Int32))), (.ref a1)])) _
    refine XS.ishr X106.here hx rfl (hb hby d31_50) rfl ?_
    show Steps p.tables e below (T106.setTop (mkF m 51 #[.val (.ref a1), .val (.int ((own_d p2) + (1 : Int32))), .val (.int p3)] [(.int (p3 >>> ((8 : Int32) &&& 31))), (.int ((own_d p2) + (1 : Int32))), (.ref a1)])) _
    refine XS.i2b X106.here hx rfl (hb hby d31_51) rfl ?_
    show Steps p.tables e below (T106.setTop (mkF m 52 #[.val (.ref a1), .val (.int ((own_d p2) + (1 : Int32))), .val (.int p3)] [(.int ((p3 >>> ((8 : Int32) &&& 31)).toInt8.toInt32)), (.int ((own_d p2) + (1 : Int32))), (.ref a1)])) _
    refine st108 _ ?_
    show Steps p.tables e below (T108.setTop (mkF m 53 #[.val (.ref a1), .val (.int ((own_d p2) + (1 : Int32))), .val (.int p3)] [])) _
    exact X108.returnOut hx Bd.returns (hb hby d31_53) hr
  · show Q31 Z a1 p2 p3 w n f h0 n0 _ T108.heap _
    rw [e108]
    exact ⟨rfl, N108, K108, v108⟩
theorem ef_28 (m : MethodId) (x0 : Addr) : entryFrame m #[(.ref x0), (.int (0 : Int32)), (.int (4 : Int32))] 5 = mkF m 0 #[.val (.ref x0), .val (.int (0 : Int32)), .val (.int (4 : Int32)), .unset, .unset] [] := by first | (simp [entryFrame, mkF, argsToLocals, Value.category]; done) | rfl
theorem d28_0 : decode jdk_52_method_14_code 0 = .ok (.iload_n 2, 1) := by decide +kernel
theorem d28_1 : decode jdk_52_method_14_code 1 = .ok (.invokestatic 107, 3) := by decide +kernel
theorem pd_8 : parseMethodDescriptor "(I)[B" = some ⟨[.int], some (.array .byte)⟩ := by decide +kernel
theorem d28_4 : decode jdk_52_method_14_code 4 = .ok (.astore_n 3, 1) := by decide +kernel
theorem d28_5 : decode jdk_52_method_14_code 5 = .ok (.iconst 0, 1) := by decide +kernel
theorem d28_6 : decode jdk_52_method_14_code 6 = .ok (.istore 4, 2) := by decide +kernel
theorem d28_8 : decode jdk_52_method_14_code 8 = .ok (.iload 4, 2) := by decide +kernel
theorem d28_10 : decode jdk_52_method_14_code 10 = .ok (.iload_n 2, 1) := by decide +kernel
theorem d28_11 : decode jdk_52_method_14_code 11 = .ok (.if_icmp .ge 21, 3) := by decide +kernel
theorem d28_14 : decode jdk_52_method_14_code 14 = .ok (.aload_n 3, 1) := by decide +kernel
theorem d28_15 : decode jdk_52_method_14_code 15 = .ok (.iload 4, 2) := by decide +kernel
theorem d28_17 : decode jdk_52_method_14_code 17 = .ok (.aload_n 0, 1) := by decide +kernel
theorem d28_18 : decode jdk_52_method_14_code 18 = .ok (.iload_n 1, 1) := by decide +kernel
theorem d28_19 : decode jdk_52_method_14_code 19 = .ok (.caload, 1) := by decide +kernel
theorem d28_20 : decode jdk_52_method_14_code 20 = .ok (.invokestatic 111, 3) := by decide +kernel
theorem pd_9 : parseMethodDescriptor "([BII)V" = some ⟨[(.array .byte), .int, .int], none⟩ := by decide +kernel
theorem d28_23 : decode jdk_52_method_14_code 23 = .ok (.iinc 1 1, 3) := by decide +kernel
theorem d28_26 : decode jdk_52_method_14_code 26 = .ok (.iinc 4 1, 3) := by decide +kernel
theorem d28_29 : decode jdk_52_method_14_code 29 = .ok (.goto (-21), 3) := by decide +kernel
theorem d28_32 : decode jdk_52_method_14_code 32 = .ok (.aload_n 3, 1) := by decide +kernel
theorem d28_33 : decode jdk_52_method_14_code 33 = .ok (.areturn, 1) := by decide +kernel
def Q28 (Z : State) (a1 : Addr) (w : Int32) (f : Nat → Int32) (h0 : Heap) (n0 : Nat) (v : Option Value) (h : Heap) (L : List Loc) : Prop := ∃ b : Addr, v = some (.ref b) ∧ Fr n0 L ∧ (Keep h0 h []) ∧ (h0.size ≤ b) ∧ (OwnU Z h b (4 : Int32) f)
set_option maxRecDepth 65536 in
set_option maxHeartbeats 40000000 in
theorem rm28 (l : Launch) (Z : State) (a0 : Array Value) (hw : ∀ d ∈ tables_1, d.before a0 Z = true) (ws : List Jvm.Cond) (a1 : Addr) (w : Int32) (f : Nat → Int32) (h0 : Heap) (n0 : Nat) (Z0 : n0 ≤ h0.size) (O0 : Old Z n0 h0) (S0 : Sta Z Z.heap "java/lang/String" "COMPACT_STRINGS" "Z" (.int w)) (hw0 : ¬ (w = (0 : Int32))) (SA : Sta Z Z.heap "java/lang/StringUTF16" "$assertionsDisabled" "Z" (.int (1 : Int32))) (SHI : Sta Z Z.heap "java/lang/StringUTF16" "HI_BYTE_SHIFT" "I" (.int (0 : Int32))) (SLO : Sta Z Z.heap "java/lang/StringUTF16" "LO_BYTE_SHIFT" "I" (.int (8 : Int32))) (FM : Fmt Z) (C1 : OwnC Z h0 a1 (4 : Int32) f) :
    MetFree l (⟨"java/lang/StringUTF16", "toBytes", "([CII)[B"⟩ : MethodName) (head1 (Jvm.Cond.code (⟨"java/lang/StringUTF16", "toBytes", "([CII)[B"⟩ : MethodName) jdk_52_method_14_code 5 (some (.array .byte)) :: ws) ({ frames := 2, cells := 1, slots := 16, locals := 24 } : Room)) (fun a U => a = #[(.ref a1), (.int (0 : Int32)), (.int (4 : Int32))] ∧ Z.Warmed39 U.vm ∧ U.heap = h0) (fun _ _ _ _ _ => True) (fun _ U o U' => ∃ v L, o = .returned v ∧ Q28 Z a1 w f h0 n0 v U'.heap L ∧ FrameEnd U o U' L ({ frames := 2, cells := 1, slots := 16, locals := 24 } : Room).cells ({ frames := 2, cells := 1, slots := 16, locals := 24 } : Room).slots) := by
  refine MetFree.of_bodySF (plainFor_of_name pn_2) hisR ?_
  intro p e s m args below meth c s₁ Bd hml0 hP hK
  obtain ⟨rfl, hZ0, hh⟩ := hP
  have hx := Bd.exec
  have hby := Bd.bytes
  have hml : c.maxLocals = 5 := hml0
  have hown0 : s.vm.findClass "java/lang/StringUTF16" = some m.cls := findClass_of_methodNamed Bd.named
  have hnm := (name_of_methodNamed Bd.named Bd.method).1
  have hlk : meth.locks = false := by first | exact BodyLoose.notSynchronized Bd | exact Body.notSynchronized Bd
  have X0 : Stand p l e ({ frames := 2, cells := 1, slots := 16, locals := 24 } : Room) s m #[(.ref a1), (.int (0 : Int32)), (.int (4 : Int32))] below meth c s₁ [] 0 0 := Stand.of_body Bd
  have e0 : s₁.heap = h0 := by rw [← hh, Bd.state]; rfl
  have N0 := Fr.nil n0
  have pre0 : ∀ t, Steps p.tables e below (s₁.setTop (mkF m 0 #[.val (.ref a1), .val (.int (0 : Int32)), .val (.int (4 : Int32)), .unset, .unset] [])) t → Steps p.tables e below (s₁.setTop (entryFrame m #[(.ref a1), (.int (0 : Int32)), (.int (4 : Int32))] 5)) t := fun t k => castTop (ef_28 m a1) k
  obtain ⟨_, _, ⟨T101, L101, k101, n101⟩, -, X101, ⟨Lc101, hQ101, l101, y101, z101⟩, st101⟩ := Jvm.LawKit.callS X0 hx (y := (⟨"java/lang/StringUTF16", "newBytesFor", "(I)[B"⟩ : MethodName)) hown0 (mvT hZ0 (hw _ (List.mem_of_getElem? (i := 140) rfl))) (mvT hZ0 (hw _ (List.mem_of_getElem? (i := 141) rfl))) (mvT hZ0 (hw _ (List.mem_of_getElem? (i := 18) rfl))) (mvT hZ0 (hw _ (List.mem_of_getElem? (i := 142) rfl))) (by decide) (backOf (W := 0) (rm29 l Z a0 hw [] (4 : Int32) f h0 n0 Z0 (⟨by decide, by decide⟩)) hZ0 (hw _ (List.mem_of_getElem? (i := 142) rfl)) (hw _ (List.mem_of_getElem? (i := 18) rfl)) (by decide) (by decide)) (g := (mkF m 1 #[.val (.ref a1), .val (.int (0 : Int32)), .val (.int (4 : Int32)), .unset, .unset] [(.int (4 : Int32))])) rfl (by rw [hml]; rfl) (argsL := [(.int (4 : Int32))]) (rest := []) (lenOf pd_8 rfl) rfl (by show 2 * 0 + _ ≤ _; exact Nat.le_of_eq rfl) (hb hby d28_1) (fun _ _ => ⟨rfl, e0, (by decide : 0 + 1 ≤ _), (by decide : 0 + 16 ≤ _)⟩)
  dsimp only [Pt.U, Pt.locs, Pt.cells, Pt.slots] at X101 l101 y101 z101 st101 hQ101
  subst l101 y101 z101
  obtain ⟨b_101, rfl, N101q, P101_0, P101_1, P101_2⟩ := hQ101
  have N101 := Fr.app N0 N101q
  have ne_a1_b_101 : a1 ≠ b_101 := Nat.ne_of_lt (Nat.lt_of_lt_of_le C1.lt P101_1)
  have gn_b_101 : n0 ≤ b_101 := Nat.le_trans Z0 P101_1
  have sz_b_101 : h0.size ≤ b_101 := Nat.le_trans (Keep.refl h0 []).1 P101_1
  have f102 : Old Z n0 T101.heap := O0.keep P101_0 all0
  have f103 : OwnC Z T101.heap a1 (4 : Int32) f := OwnC.keep C1 P101_0 nin0
  have Zs101 : n0 ≤ T101.heap.size := Nat.le_trans Z0 P101_0.1
  have K101 : Keep h0 T101.heap [] := (Keep.refl h0 []).trans P101_0 all0
  obtain ⟨cl104, Ar104, Sz104, Nn104, Hs104⟩ := (id f103)
  obtain ⟨_, _, ⟨T105, L105, k105, n105⟩, -, X105, ⟨Lc105, hQ105, l105, y105, z105⟩, st105⟩ := Jvm.LawKit.callS X101 hx (y := (⟨"java/lang/StringUTF16", "putChar", "([BII)V"⟩ : MethodName)) hown0 (mvT hZ0 (hw _ (List.mem_of_getElem? (i := 147) rfl))) (mvT hZ0 (hw _ (List.mem_of_getElem? (i := 148) rfl))) (mvT hZ0 (hw _ (List.mem_of_getElem? (i := 18) rfl))) (mvT hZ0 (hw _ (List.mem_of_getElem? (i := 149) rfl))) (by decide) (backOf (W := 0) (rm31 l Z a0 hw [] b_101 (0 : Int32) (f 0) w (4 : Int32) f T101.heap n0 Zs101 f102 S0 hw0 SA SHI SLO FM (OwnB.mk P101_2 (by decide)) (⟨by decide, by decide⟩) (⟨by decide, by decide⟩) rfl gn_b_101) hZ0 (hw _ (List.mem_of_getElem? (i := 149) rfl)) (hw _ (List.mem_of_getElem? (i := 18) rfl)) (by decide) (by decide)) (g := (mkF m 20 #[.val (.ref a1), .val (.int (0 : Int32)), .val (.int (4 : Int32)), .val (.ref b_101), .val (.int (0 : Int32))] [(.int (f 0)), (.int (0 : Int32)), (.ref b_101)])) rfl (by rw [hml]; rfl) (argsL := [(.ref b_101), (.int (0 : Int32)), (.int (f 0))]) (rest := []) (lenOf pd_9 rfl) rfl (by show 2 * 0 + _ ≤ _; exact Nat.le_of_eq rfl) (hb hby d28_20) (fun _ _ => ⟨rfl, rfl, (by decide : 1 + 0 ≤ _), (by decide : 16 + 0 ≤ _)⟩)
  dsimp only [Pt.U, Pt.locs, Pt.cells, Pt.slots] at X105 l105 y105 z105 st105 hQ105
  subst l105 y105 z105
  obtain ⟨rfl, N105q, P105_0, P105_1⟩ := hQ105
  have N105 := Fr.app N101 N105q
  have f106 : Old Z n0 T105.heap := f102.keep P105_0 (allS gn_b_101 all0)
  have f107 : OwnC Z T105.heap a1 (4 : Int32) f := OwnC.keep f103 P105_0 (ninS ne_a1_b_101 nin0)
  have Zs105 : n0 ≤ T105.heap.size := Nat.le_trans Zs101 P105_0.1
  have K105 : Keep h0 T105.heap [] := K101.trans P105_0 (allS (Or.inr P101_1) all0)
  obtain ⟨cl108, Ar108, Sz108, Nn108, Hs108⟩ := (id f107)
  obtain ⟨_, _, ⟨T109, L109, k109, n109⟩, -, X109, ⟨Lc109, hQ109, l109, y109, z109⟩, st109⟩ := Jvm.LawKit.callS X105 hx (y := (⟨"java/lang/StringUTF16", "putChar", "([BII)V"⟩ : MethodName)) hown0 (mvT hZ0 (hw _ (List.mem_of_getElem? (i := 147) rfl))) (mvT hZ0 (hw _ (List.mem_of_getElem? (i := 148) rfl))) (mvT hZ0 (hw _ (List.mem_of_getElem? (i := 18) rfl))) (mvT hZ0 (hw _ (List.mem_of_getElem? (i := 149) rfl))) (by decide) (backOf (W := 0) (rm31 l Z a0 hw [] b_101 (1 : Int32) (f 1) w (4 : Int32) f T105.heap n0 Zs105 f106 S0 hw0 SA SHI SLO FM (OwnB.mk P105_1 (by decide)) (⟨by decide, by decide⟩) (⟨by decide, by decide⟩) rfl gn_b_101) hZ0 (hw _ (List.mem_of_getElem? (i := 149) rfl)) (hw _ (List.mem_of_getElem? (i := 18) rfl)) (by decide) (by decide)) (g := (mkF m 20 #[.val (.ref a1), .val (.int (1 : Int32)), .val (.int (4 : Int32)), .val (.ref b_101), .val (.int (1 : Int32))] [(.int (f 1)), (.int (1 : Int32)), (.ref b_101)])) rfl (by rw [hml]; rfl) (argsL := [(.ref b_101), (.int (1 : Int32)), (.int (f 1))]) (rest := []) (lenOf pd_9 rfl) rfl (by show 2 * 0 + _ ≤ _; exact Nat.le_of_eq rfl) (hb hby d28_20) (fun _ _ => ⟨rfl, rfl, (by decide : 1 + 0 ≤ _), (by decide : 16 + 0 ≤ _)⟩)
  dsimp only [Pt.U, Pt.locs, Pt.cells, Pt.slots] at X109 l109 y109 z109 st109 hQ109
  subst l109 y109 z109
  obtain ⟨rfl, N109q, P109_0, P109_1⟩ := hQ109
  have N109 := Fr.app N105 N109q
  have f110 : Old Z n0 T109.heap := f106.keep P109_0 (allS gn_b_101 all0)
  have f111 : OwnC Z T109.heap a1 (4 : Int32) f := OwnC.keep f107 P109_0 (ninS ne_a1_b_101 nin0)
  have Zs109 : n0 ≤ T109.heap.size := Nat.le_trans Zs105 P109_0.1
  have K109 : Keep h0 T109.heap [] := K105.trans P109_0 (allS (Or.inr P101_1) all0)
  obtain ⟨cl112, Ar112, Sz112, Nn112, Hs112⟩ := (id f111)
  obtain ⟨_, _, ⟨T113, L113, k113, n113⟩, -, X113, ⟨Lc113, hQ113, l113, y113, z113⟩, st113⟩ := Jvm.LawKit.callS X109 hx (y := (⟨"java/lang/StringUTF16", "putChar", "([BII)V"⟩ : MethodName)) hown0 (mvT hZ0 (hw _ (List.mem_of_getElem? (i := 147) rfl))) (mvT hZ0 (hw _ (List.mem_of_getElem? (i := 148) rfl))) (mvT hZ0 (hw _ (List.mem_of_getElem? (i := 18) rfl))) (mvT hZ0 (hw _ (List.mem_of_getElem? (i := 149) rfl))) (by decide) (backOf (W := 0) (rm31 l Z a0 hw [] b_101 (2 : Int32) (f 2) w (4 : Int32) f T109.heap n0 Zs109 f110 S0 hw0 SA SHI SLO FM (OwnB.mk P109_1 (by decide)) (⟨by decide, by decide⟩) (⟨by decide, by decide⟩) rfl gn_b_101) hZ0 (hw _ (List.mem_of_getElem? (i := 149) rfl)) (hw _ (List.mem_of_getElem? (i := 18) rfl)) (by decide) (by decide)) (g := (mkF m 20 #[.val (.ref a1), .val (.int (2 : Int32)), .val (.int (4 : Int32)), .val (.ref b_101), .val (.int (2 : Int32))] [(.int (f 2)), (.int (2 : Int32)), (.ref b_101)])) rfl (by rw [hml]; rfl) (argsL := [(.ref b_101), (.int (2 : Int32)), (.int (f 2))]) (rest := []) (lenOf pd_9 rfl) rfl (by show 2 * 0 + _ ≤ _; exact Nat.le_of_eq rfl) (hb hby d28_20) (fun _ _ => ⟨rfl, rfl, (by decide : 1 + 0 ≤ _), (by decide : 16 + 0 ≤ _)⟩)
  dsimp only [Pt.U, Pt.locs, Pt.cells, Pt.slots] at X113 l113 y113 z113 st113 hQ113
  subst l113 y113 z113
  obtain ⟨rfl, N113q, P113_0, P113_1⟩ := hQ113
  have N113 := Fr.app N109 N113q
  have f114 : Old Z n0 T113.heap := f110.keep P113_0 (allS gn_b_101 all0)
  have f115 : OwnC Z T113.heap a1 (4 : Int32) f := OwnC.keep f111 P113_0 (ninS ne_a1_b_101 nin0)
  have Zs113 : n0 ≤ T113.heap.size := Nat.le_trans Zs109 P113_0.1
  have K113 : Keep h0 T113.heap [] := K109.trans P113_0 (allS (Or.inr P101_1) all0)
  obtain ⟨cl116, Ar116, Sz116, Nn116, Hs116⟩ := (id f115)
  obtain ⟨_, _, ⟨T117, L117, k117, n117⟩, -, X117, ⟨Lc117, hQ117, l117, y117, z117⟩, st117⟩ := Jvm.LawKit.callS X113 hx (y := (⟨"java/lang/StringUTF16", "putChar", "([BII)V"⟩ : MethodName)) hown0 (mvT hZ0 (hw _ (List.mem_of_getElem? (i := 147) rfl))) (mvT hZ0 (hw _ (List.mem_of_getElem? (i := 148) rfl))) (mvT hZ0 (hw _ (List.mem_of_getElem? (i := 18) rfl))) (mvT hZ0 (hw _ (List.mem_of_getElem? (i := 149) rfl))) (by decide) (backOf (W := 0) (rm31 l Z a0 hw [] b_101 (3 : Int32) (f 3) w (4 : Int32) f T113.heap n0 Zs113 f114 S0 hw0 SA SHI SLO FM (OwnB.mk P113_1 (by decide)) (⟨by decide, by decide⟩) (⟨by decide, by decide⟩) rfl gn_b_101) hZ0 (hw _ (List.mem_of_getElem? (i := 149) rfl)) (hw _ (List.mem_of_getElem? (i := 18) rfl)) (by decide) (by decide)) (g := (mkF m 20 #[.val (.ref a1), .val (.int (3 : Int32)), .val (.int (4 : Int32)), .val (.ref b_101), .val (.int (3 : Int32))] [(.int (f 3)), (.int (3 : Int32)), (.ref b_101)])) rfl (by rw [hml]; rfl) (argsL := [(.ref b_101), (.int (3 : Int32)), (.int (f 3))]) (rest := []) (lenOf pd_9 rfl) rfl (by show 2 * 0 + _ ≤ _; exact Nat.le_of_eq rfl) (hb hby d28_20) (fun _ _ => ⟨rfl, rfl, (by decide : 1 + 0 ≤ _), (by decide : 16 + 0 ≤ _)⟩)
  dsimp only [Pt.U, Pt.locs, Pt.cells, Pt.slots] at X117 l117 y117 z117 st117 hQ117
  subst l117 y117 z117
  obtain ⟨rfl, N117q, P117_0, P117_1⟩ := hQ117
  have N117 := Fr.app N113 N117q
  have f118 : Old Z n0 T117.heap := f114.keep P117_0 (allS gn_b_101 all0)
  have f119 : OwnC Z T117.heap a1 (4 : Int32) f := OwnC.keep f115 P117_0 (ninS ne_a1_b_101 nin0)
  have Zs117 : n0 ≤ T117.heap.size := Nat.le_trans Zs113 P117_0.1
  have K117 : Keep h0 T117.heap [] := K113.trans P117_0 (allS (Or.inr P101_1) all0)
  obtain ⟨fs, hr, hrun, hended, hW, hsame⟩ := X117.leave (v := some (.ref b_101)) (fun h => by rw [Bd.returns] at h; cases h) hlk
  refine ⟨_, _, pre0 _ ?_, hrun, hended, _, _, rfl, ?_, ⟨_, rfl⟩, hW, hsame.mono (by decide) (by decide)⟩
  · show Steps p.tables e below (s₁.setTop (mkF m 0 #[.val (.ref a1), .val (.int (0 : Int32)), .val (.int (4 : Int32)), .unset, .unset] [])) _
    refine XS.iloadN X0.here hx rfl (hb hby d28_0) rfl ?_
    show Steps p.tables e below (s₁.setTop (mkF m 1 #[.val (.ref a1), .val (.int (0 : Int32)), .val (.int (4 : Int32)), .unset, .unset] [(.int (4 : Int32))])) _
    refine st101 _ ?_
    show Steps p.tables e below (T101.setTop (mkF m 4 #[.val (.ref a1), .val (.int (0 : Int32)), .val (.int (4 : Int32)), .unset, .unset] [(.ref b_101)])) _
    refine XS.astoreN X101.here hx rfl (hb hby d28_4) rfl rfl (l' := #[.val (.ref a1), .val (.int (0 : Int32)), .val (.int (4 : Int32)), .val (.ref b_101), .unset]) rfl ?_
    show Steps p.tables e below (T101.setTop (mkF m 5 #[.val (.ref a1), .val (.int (0 : Int32)), .val (.int (4 : Int32)), .val (.ref b_101), .unset] [])) _
    refine XS.iconst X101.here hx rfl (hb hby d28_5) ?_
    show Steps p.tables e below (T101.setTop (mkF m 6 #[.val (.ref a1), .val (.int (0 : Int32)), .val (.int (4 : Int32)), .val (.ref b_101), .unset] [(.int (0 : Int32))])) _
    refine XS.istore X101.here hx rfl (hb hby d28_6) rfl (l' := #[.val (.ref a1), .val (.int (0 : Int32)), .val (.int (4 : Int32)), .val (.ref b_101), .val (.int (0 : Int32))]) rfl ?_
    show Steps p.tables e below (T101.setTop (mkF m 8 #[.val (.ref a1), .val (.int (0 : Int32)), .val (.int (4 : Int32)), .val (.ref b_101), .val (.int (0 : Int32))] [])) _
    refine XS.iload X101.here hx rfl (hb hby d28_8) rfl ?_
    show Steps p.tables e below (T101.setTop (mkF m 10 #[.val (.ref a1), .val (.int (0 : Int32)), .val (.int (4 : Int32)), .val (.ref b_101), .val (.int (0 : Int32))] [(.int (0 : Int32))])) _
    refine XS.iloadN X101.here hx rfl (hb hby d28_10) rfl ?_
    show Steps p.tables e below (T101.setTop (mkF m 11 #[.val (.ref a1), .val (.int (0 : Int32)), .val (.int (4 : Int32)), .val (.ref b_101), .val (.int (0 : Int32))] [(.int (4 : Int32)), (.int (0 : Int32))])) _
    refine XS.icmpNo X101.here hx rfl (hb hby d28_11) rfl (tlt (by decide : (0 : Int32) < (4 : Int32))).2.1 ?_
    show Steps p.tables e below (T101.setTop (mkF m 14 #[.val (.ref a1), .val (.int (0 : Int32)), .val (.int (4 : Int32)), .val (.ref b_101), .val (.int (0 : Int32))] [])) _
    refine XS.aloadN X101.here hx rfl (hb hby d28_14) rfl rfl ?_
    show Steps p.tables e below (T101.setTop (mkF m 15 #[.val (.ref a1), .val (.int (0 : Int32)), .val (.int (4 : Int32)), .val (.ref b_101), .val (.int (0 : Int32))] [(.ref b_101)])) _
    refine XS.iload X101.here hx rfl (hb hby d28_15) rfl ?_
    show Steps p.tables e below (T101.setTop (mkF m 17 #[.val (.ref a1), .val (.int (0 : Int32)), .val (.int (4 : Int32)), .val (.ref b_101), .val (.int (0 : Int32))] [(.int (0 : Int32)), (.ref b_101)])) _
    refine XS.aloadN X101.here hx rfl (hb hby d28_17) rfl rfl ?_
    show Steps p.tables e below (T101.setTop (mkF m 18 #[.val (.ref a1), .val (.int (0 : Int32)), .val (.int (4 : Int32)), .val (.ref b_101), .val (.int (0 : Int32))] [(.ref a1), (.int (0 : Int32)), (.ref b_101)])) _
    refine XS.iloadN X101.here hx rfl (hb hby d28_18) rfl ?_
    show Steps p.tables e below (T101.setTop (mkF m 19 #[.val (.ref a1), .val (.int (0 : Int32)), .val (.int (4 : Int32)), .val (.ref b_101), .val (.int (0 : Int32))] [(.int (0 : Int32)), (.ref a1), (.int (0 : Int32)), (.ref b_101)])) _
    refine X101.caload hx (j := (0 : Int32)) (v := (.int (f 0))) Ar104.1 (State.isArrayOf_alike hZ0.alike Ar104.2.1) Ar104.2.2 (inb_of Sz104 ⟨by decide, by decide⟩) (Hs104 0 (by decide)) (g := (mkF m 19 #[.val (.ref a1), .val (.int (0 : Int32)), .val (.int (4 : Int32)), .val (.ref b_101), .val (.int (0 : Int32))] [(.int (0 : Int32)), (.ref a1), (.int (0 : Int32)), (.ref b_101)])) rfl rfl (hb hby d28_19) _ ?_
    show Steps p.tables e below (T101.setTop (mkF m 20 #[.val (.ref a1), .val (.int (0 : Int32)), .val (.int (4 : Int32)), .val (.ref b_101), .val (.int (0 : Int32))] [(.int (f 0)), (.int (0 : Int32)), (.ref b_101)])) _
    refine st105 _ ?_
    show Steps p.tables e below (T105.setTop (mkF m 23 #[.val (.ref a1), .val (.int (0 : Int32)), .val (.int (4 : Int32)), .val (.ref b_101), .val (.int (0 : Int32))] [])) _
    refine XS.iinc X105.here hx rfl (hb hby d28_23) rfl (l' := #[.val (.ref a1), .val (.int (1 : Int32)), .val (.int (4 : Int32)), .val (.ref b_101), .val (.int (0 : Int32))]) rfl ?_
    show Steps p.tables e below (T105.setTop (mkF m 26 #[.val (.ref a1), .val (.int (1 : Int32)), .val (.int (4 : Int32)), .val (.ref b_101), .val (.int (0 : Int32))] [])) _
    refine XS.iinc X105.here hx rfl (hb hby d28_26) rfl (l' := #[.val (.ref a1), .val (.int (1 : Int32)), .val (.int (4 : Int32)), .val (.ref b_101), .val (.int (1 : Int32))]) rfl ?_
    show Steps p.tables e below (T105.setTop (mkF m 29 #[.val (.ref a1), .val (.int (1 : Int32)), .val (.int (4 : Int32)), .val (.ref b_101), .val (.int (1 : Int32))] [])) _
    refine XS.goto X105.here hx rfl (pc0 := 29) (pc' := 8) rfl (hb hby d28_29) (by decide) (by decide) ?_
    show Steps p.tables e below (T105.setTop (mkF m 8 #[.val (.ref a1), .val (.int (1 : Int32)), .val (.int (4 : Int32)), .val (.ref b_101), .val (.int (1 : Int32))] [])) _
    refine XS.iload X105.here hx rfl (hb hby d28_8) rfl ?_
    show Steps p.tables e below (T105.setTop (mkF m 10 #[.val (.ref a1), .val (.int (1 : Int32)), .val (.int (4 : Int32)), .val (.ref b_101), .val (.int (1 : Int32))] [(.int (1 : Int32))])) _
    refine XS.iloadN X105.here hx rfl (hb hby d28_10) rfl ?_
    show Steps p.tables e below (T105.setTop (mkF m 11 #[.val (.ref a1), .val (.int (1 : Int32)), .val (.int (4 : Int32)), .val (.ref b_101), .val (.int (1 : Int32))] [(.int (4 : Int32)), (.int (1 : Int32))])) _
    refine XS.icmpNo X105.here hx rfl (hb hby d28_11) rfl (tlt (by decide : (1 : Int32) < (4 : Int32))).2.1 ?_
    show Steps p.tables e below (T105.setTop (mkF m 14 #[.val (.ref a1), .val (.int (1 : Int32)), .val (.int (4 : Int32)), .val (.ref b_101), .val (.int (1 : Int32))] [])) _
    refine XS.aloadN X105.here hx rfl (hb hby d28_14) rfl rfl ?_
    show Steps p.tables e below (T105.setTop (mkF m 15 #[.val (.ref a1), .val (.int (1 : Int32)), .val (.int (4 : Int32)), .val (.ref b_101), .val (.int (1 : Int32))] [(.ref b_101)])) _
    refine XS.iload X105.here hx rfl (hb hby d28_15) rfl ?_
    show Steps p.tables e below (T105.setTop (mkF m 17 #[.val (.ref a1), .val (.int (1 : Int32)), .val (.int (4 : Int32)), .val (.ref b_101), .val (.int (1 : Int32))] [(.int (1 : Int32)), (.ref b_101)])) _
    refine XS.aloadN X105.here hx rfl (hb hby d28_17) rfl rfl ?_
    show Steps p.tables e below (T105.setTop (mkF m 18 #[.val (.ref a1), .val (.int (1 : Int32)), .val (.int (4 : Int32)), .val (.ref b_101), .val (.int (1 : Int32))] [(.ref a1), (.int (1 : Int32)), (.ref b_101)])) _
    refine XS.iloadN X105.here hx rfl (hb hby d28_18) rfl ?_
    show Steps p.tables e below (T105.setTop (mkF m 19 #[.val (.ref a1), .val (.int (1 : Int32)), .val (.int (4 : Int32)), .val (.ref b_101), .val (.int (1 : Int32))] [(.int (1 : Int32)), (.ref a1), (.int (1 : Int32)), (.ref b_101)])) _
    refine X105.caload hx (j := (1 : Int32)) (v := (.int (f 1))) Ar108.1 (State.isArrayOf_alike hZ0.alike Ar108.2.1) Ar108.2.2 (inb_of Sz108 ⟨by decide, by decide⟩) (Hs108 1 (by decide)) (g := (mkF m 19 #[.val (.ref a1), .val (.int (1 : Int32)), .val (.int (4 : Int32)), .val (.ref b_101), .val (.int (1 : Int32))] [(.int (1 : Int32)), (.ref a1), (.int (1 : Int32)), (.ref b_101)])) rfl rfl (hb hby d28_19) _ ?_
    show Steps p.tables e below (T105.setTop (mkF m 20 #[.val (.ref a1), .val (.int (1 : Int32)), .val (.int (4 : Int32)), .val (.ref b_101), .val (.int (1 : Int32))] [(.int (f 1)), (.int (1 : Int32)), (.ref b_101)])) _
    refine st109 _ ?_
    show Steps p.tables e below (T109.setTop (mkF m 23 #[.val (.ref a1), .val (.int (1 : Int32)), .val (.int (4 : Int32)), .val (.ref b_101), .val (.int (1 : Int32))] [])) _
    refine XS.iinc X109.here hx rfl (hb hby d28_23) rfl (l' := #[.val (.ref a1), .val (.int (2 : Int32)), .val (.int (4 : Int32)), .val (.ref b_101), .val (.int (1 : Int32))]) rfl ?_
    show Steps p.tables e below (T109.setTop (mkF m 26 #[.val (.ref a1), .val (.int (2 : Int32)), .val (.int (4 : Int32)), .val (.ref b_101), .val (.int (1 : Int32))] [])) _
    refine XS.iinc X109.here hx rfl (hb hby d28_26) rfl (l' := #[.val (.ref a1), .val (.int (2 : Int32)), .val (.int (4 : Int32)), .val (.ref b_101), .val (.int (2 : Int32))]) rfl ?_
    show Steps p.tables e below (T109.setTop (mkF m 29 #[.val (.ref a1), .val (.int (2 : Int32)), .val (.int (4 : Int32)), .val (.ref b_101), .val (.int (2 : Int32))] [])) _
    refine XS.goto X109.here hx rfl (pc0 := 29) (pc' := 8) rfl (hb hby d28_29) (by decide) (by decide) ?_
    show Steps p.tables e below (T109.setTop (mkF m 8 #[.val (.ref a1), .val (.int (2 : Int32)), .val (.int (4 : Int32)), .val (.ref b_101), .val (.int (2 : Int32))] [])) _
    refine XS.iload X109.here hx rfl (hb hby d28_8) rfl ?_
    show Steps p.tables e below (T109.setTop (mkF m 10 #[.val (.ref a1), .val (.int (2 : Int32)), .val (.int (4 : Int32)), .val (.ref b_101), .val (.int (2 : Int32))] [(.int (2 : Int32))])) _
    refine XS.iloadN X109.here hx rfl (hb hby d28_10) rfl ?_
    show Steps p.tables e below (T109.setTop (mkF m 11 #[.val (.ref a1), .val (.int (2 : Int32)), .val (.int (4 : Int32)), .val (.ref b_101), .val (.int (2 : Int32))] [(.int (4 : Int32)), (.int (2 : Int32))])) _
    refine XS.icmpNo X109.here hx rfl (hb hby d28_11) rfl (tlt (by decide : (2 : Int32) < (4 : Int32))).2.1 ?_
    show Steps p.tables e below (T109.setTop (mkF m 14 #[.val (.ref a1), .val (.int (2 : Int32)), .val (.int (4 : Int32)), .val (.ref b_101), .val (.int (2 : Int32))] [])) _
    refine XS.aloadN X109.here hx rfl (hb hby d28_14) rfl rfl ?_
    show Steps p.tables e below (T109.setTop (mkF m 15 #[.val (.ref a1), .val (.int (2 : Int32)), .val (.int (4 : Int32)), .val (.ref b_101), .val (.int (2 : Int32))] [(.ref b_101)])) _
    refine XS.iload X109.here hx rfl (hb hby d28_15) rfl ?_
    show Steps p.tables e below (T109.setTop (mkF m 17 #[.val (.ref a1), .val (.int (2 : Int32)), .val (.int (4 : Int32)), .val (.ref b_101), .val (.int (2 : Int32))] [(.int (2 : Int32)), (.ref b_101)])) _
    refine XS.aloadN X109.here hx rfl (hb hby d28_17) rfl rfl ?_
    show Steps p.tables e below (T109.setTop (mkF m 18 #[.val (.ref a1), .val (.int (2 : Int32)), .val (.int (4 : Int32)), .val (.ref b_101), .val (.int (2 : Int32))] [(.ref a1), (.int (2 : Int32)), (.ref b_101)])) _
    refine XS.iloadN X109.here hx rfl (hb hby d28_18) rfl ?_
    show Steps p.tables e below (T109.setTop (mkF m 19 #[.val (.ref a1), .val (.int (2 : Int32)), .val (.int (4 : Int32)), .val (.ref b_101), .val (.int (2 : Int32))] [(.int (2 : Int32)), (.ref a1), (.int (2 : Int32)), (.ref b_101)])) _
    refine X109.caload hx (j := (2 : Int32)) (v := (.int (f 2))) Ar112.1 (State.isArrayOf_alike hZ0.alike Ar112.2.1) Ar112.2.2 (inb_of Sz112 ⟨by decide, by decide⟩) (Hs112 2 (by decide)) (g := (mkF m 19 #[.val (.ref a1), .val (.int (2 : Int32)), .val (.int (4 : Int32)), .val (.ref b_101), .val (.int (2 : Int32))] [(.int (2 : Int32)), (.ref a1), (.int (2 : Int32)), (.ref b_101)])) rfl rfl (hb hby d28_19) _ ?_
    show Steps p.tables e below (T109.setTop (mkF m 20 #[.val (.ref a1), .val (.int (2 : Int32)), .val (.int (4 : Int32)), .val (.ref b_101), .val (.int (2 : Int32))] [(.int (f 2)), (.int (2 : Int32)), (.ref b_101)])) _
    refine st113 _ ?_
    show Steps p.tables e below (T113.setTop (mkF m 23 #[.val (.ref a1), .val (.int (2 : Int32)), .val (.int (4 : Int32)), .val (.ref b_101), .val (.int (2 : Int32))] [])) _
    refine XS.iinc X113.here hx rfl (hb hby d28_23) rfl (l' := #[.val (.ref a1), .val (.int (3 : Int32)), .val (.int (4 : Int32)), .val (.ref b_101), .val (.int (2 : Int32))]) rfl ?_
    show Steps p.tables e below (T113.setTop (mkF m 26 #[.val (.ref a1), .val (.int (3 : Int32)), .val (.int (4 : Int32)), .val (.ref b_101), .val (.int (2 : Int32))] [])) _
    refine XS.iinc X113.here hx rfl (hb hby d28_26) rfl (l' := #[.val (.ref a1), .val (.int (3 : Int32)), .val (.int (4 : Int32)), .val (.ref b_101), .val (.int (3 : Int32))]) rfl ?_
    show Steps p.tables e below (T113.setTop (mkF m 29 #[.val (.ref a1), .val (.int (3 : Int32)), .val (.int (4 : Int32)), .val (.ref b_101), .val (.int (3 : Int32))] [])) _
    refine XS.goto X113.here hx rfl (pc0 := 29) (pc' := 8) rfl (hb hby d28_29) (by decide) (by decide) ?_
    show Steps p.tables e below (T113.setTop (mkF m 8 #[.val (.ref a1), .val (.int (3 : Int32)), .val (.int (4 : Int32)), .val (.ref b_101), .val (.int (3 : Int32))] [])) _
    refine XS.iload X113.here hx rfl (hb hby d28_8) rfl ?_
    show Steps p.tables e below (T113.setTop (mkF m 10 #[.val (.ref a1), .val (.int (3 : Int32)), .val (.int (4 : Int32)), .val (.ref b_101), .val (.int (3 : Int32))] [(.int (3 : Int32))])) _
    refine XS.iloadN X113.here hx rfl (hb hby d28_10) rfl ?_
    show Steps p.tables e below (T113.setTop (mkF m 11 #[.val (.ref a1), .val (.int (3 : Int32)), .val (.int (4 : Int32)), .val (.ref b_101), .val (.int (3 : Int32))] [(.int (4 : Int32)), (.int (3 : Int32))])) _
    refine XS.icmpNo X113.here hx rfl (hb hby d28_11) rfl (tlt (by decide : (3 : Int32) < (4 : Int32))).2.1 ?_
    show Steps p.tables e below (T113.setTop (mkF m 14 #[.val (.ref a1), .val (.int (3 : Int32)), .val (.int (4 : Int32)), .val (.ref b_101), .val (.int (3 : Int32))] [])) _
    refine XS.aloadN X113.here hx rfl (hb hby d28_14) rfl rfl ?_
    show Steps p.tables e below (T113.setTop (mkF m 15 #[.val (.ref a1), .val (.int (3 : Int32)), .val (.int (4 : Int32)), .val (.ref b_101), .val (.int (3 : Int32))] [(.ref b_101)])) _
    refine XS.iload X113.here hx rfl (hb hby d28_15) rfl ?_
    show Steps p.tables e below (T113.setTop (mkF m 17 #[.val (.ref a1), .val (.int (3 : Int32)), .val (.int (4 : Int32)), .val (.ref b_101), .val (.int (3 : Int32))] [(.int (3 : Int32)), (.ref b_101)])) _
    refine XS.aloadN X113.here hx rfl (hb hby d28_17) rfl rfl ?_
    show Steps p.tables e below (T113.setTop (mkF m 18 #[.val (.ref a1), .val (.int (3 : Int32)), .val (.int (4 : Int32)), .val (.ref b_101), .val (.int (3 : Int32))] [(.ref a1), (.int (3 : Int32)), (.ref b_101)])) _
    refine XS.iloadN X113.here hx rfl (hb hby d28_18) rfl ?_
    show Steps p.tables e below (T113.setTop (mkF m 19 #[.val (.ref a1), .val (.int (3 : Int32)), .val (.int (4 : Int32)), .val (.ref b_101), .val (.int (3 : Int32))] [(.int (3 : Int32)), (.ref a1), (.int (3 : Int32)), (.ref b_101)])) _
    refine X113.caload hx (j := (3 : Int32)) (v := (.int (f 3))) Ar116.1 (State.isArrayOf_alike hZ0.alike Ar116.2.1) Ar116.2.2 (inb_of Sz116 ⟨by decide, by decide⟩) (Hs116 3 (by decide)) (g := (mkF m 19 #[.val (.ref a1), .val (.int (3 : Int32)), .val (.int (4 : Int32)), .val (.ref b_101), .val (.int (3 : Int32))] [(.int (3 : Int32)), (.ref a1), (.int (3 : Int32)), (.ref b_101)])) rfl rfl (hb hby d28_19) _ ?_
    show Steps p.tables e below (T113.setTop (mkF m 20 #[.val (.ref a1), .val (.int (3 : Int32)), .val (.int (4 : Int32)), .val (.ref b_101), .val (.int (3 : Int32))] [(.int (f 3)), (.int (3 : Int32)), (.ref b_101)])) _
    refine st117 _ ?_
    show Steps p.tables e below (T117.setTop (mkF m 23 #[.val (.ref a1), .val (.int (3 : Int32)), .val (.int (4 : Int32)), .val (.ref b_101), .val (.int (3 : Int32))] [])) _
    refine XS.iinc X117.here hx rfl (hb hby d28_23) rfl (l' := #[.val (.ref a1), .val (.int (4 : Int32)), .val (.int (4 : Int32)), .val (.ref b_101), .val (.int (3 : Int32))]) rfl ?_
    show Steps p.tables e below (T117.setTop (mkF m 26 #[.val (.ref a1), .val (.int (4 : Int32)), .val (.int (4 : Int32)), .val (.ref b_101), .val (.int (3 : Int32))] [])) _
    refine XS.iinc X117.here hx rfl (hb hby d28_26) rfl (l' := #[.val (.ref a1), .val (.int (4 : Int32)), .val (.int (4 : Int32)), .val (.ref b_101), .val (.int (4 : Int32))]) rfl ?_
    show Steps p.tables e below (T117.setTop (mkF m 29 #[.val (.ref a1), .val (.int (4 : Int32)), .val (.int (4 : Int32)), .val (.ref b_101), .val (.int (4 : Int32))] [])) _
    refine XS.goto X117.here hx rfl (pc0 := 29) (pc' := 8) rfl (hb hby d28_29) (by decide) (by decide) ?_
    show Steps p.tables e below (T117.setTop (mkF m 8 #[.val (.ref a1), .val (.int (4 : Int32)), .val (.int (4 : Int32)), .val (.ref b_101), .val (.int (4 : Int32))] [])) _
    refine XS.iload X117.here hx rfl (hb hby d28_8) rfl ?_
    show Steps p.tables e below (T117.setTop (mkF m 10 #[.val (.ref a1), .val (.int (4 : Int32)), .val (.int (4 : Int32)), .val (.ref b_101), .val (.int (4 : Int32))] [(.int (4 : Int32))])) _
    refine XS.iloadN X117.here hx rfl (hb hby d28_10) rfl ?_
    show Steps p.tables e below (T117.setTop (mkF m 11 #[.val (.ref a1), .val (.int (4 : Int32)), .val (.int (4 : Int32)), .val (.ref b_101), .val (.int (4 : Int32))] [(.int (4 : Int32)), (.int (4 : Int32))])) _
    refine XS.icmpYes X117.here hx rfl (pc0 := 11) (pc' := 32) rfl (hb hby d28_11) rfl (flt (by decide : ¬ ((4 : Int32) < (4 : Int32)))).2.1 (by decide) (by decide) ?_
    show Steps p.tables e below (T117.setTop (mkF m 32 #[.val (.ref a1), .val (.int (4 : Int32)), .val (.int (4 : Int32)), .val (.ref b_101), .val (.int (4 : Int32))] [])) _
    refine XS.aloadN X117.here hx rfl (hb hby d28_32) rfl rfl ?_
    show Steps p.tables e below (T117.setTop (mkF m 33 #[.val (.ref a1), .val (.int (4 : Int32)), .val (.int (4 : Int32)), .val (.ref b_101), .val (.int (4 : Int32))] [(.ref b_101)])) _
    jvm_step X117.here [X117.here.top, hx, (hb hby d28_33), X117.method', Bd.returns, Value.isRef, FieldType.isReference]
    first | (intro acts; rw [hr _ acts rfl rfl rfl]) | rw [hr _ _ rfl rfl rfl]
    exact Steps.refl _
  · show Q28 Z a1 w f h0 n0 _ T117.heap _
    exact ⟨b_101, rfl, N117, K117, P101_1, (OwnB.mk P117_1 (by decide))⟩
theorem ef_5a (m : MethodId) (x0 : Addr) (x2 : Addr) : entryFrame m #[(.ref x0), (.int (0 : Int32)), (.ref x2), (.int (0 : Int32)), (.int (4 : Int32))] 7 = mkF m 0 #[.val (.ref x0), .val (.int (0 : Int32)), .val (.ref x2), .val (.int (0 : Int32)), .val (.int (4 : Int32)), .unset, .unset] [] := by first | (simp [entryFrame, mkF, argsToLocals, Value.category]; done) | rfl
theorem d5_0 : decode jdk_52_method_21_code 0 = .ok (.iconst 0, 1) := by decide +kernel
theorem d5_1 : decode jdk_52_method_21_code 1 = .ok (.istore 5, 2) := by decide +kernel
theorem d5_3 : decode jdk_52_method_21_code 3 = .ok (.iload 5, 2) := by decide +kernel
theorem d5_5 : decode jdk_52_method_21_code 5 = .ok (.iload 4, 2) := by decide +kernel
theorem d5_7 : decode jdk_52_method_21_code 7 = .ok (.if_icmp .ge 37, 3) := by decide +kernel
theorem d5_10 : decode jdk_52_method_21_code 10 = .ok (.aload_n 0, 1) := by decide +kernel
theorem d5_11 : decode jdk_52_method_21_code 11 = .ok (.iload_n 1, 1) := by decide +kernel
theorem d5_12 : decode jdk_52_method_21_code 12 = .ok (.caload, 1) := by decide +kernel
theorem d5_13 : decode jdk_52_method_21_code 13 = .ok (.istore 6, 2) := by decide +kernel
theorem d5_15 : decode jdk_52_method_21_code 15 = .ok (.iload 6, 2) := by decide +kernel
theorem d5_17 : decode jdk_52_method_21_code 17 = .ok (.sipush 255, 3) := by decide +kernel
theorem d5_20 : decode jdk_52_method_21_code 20 = .ok (.if_icmp .le 6, 3) := by decide +kernel
theorem d5_26 : decode jdk_52_method_21_code 26 = .ok (.aload_n 2, 1) := by decide +kernel
theorem d5_27 : decode jdk_52_method_21_code 27 = .ok (.iload_n 3, 1) := by decide +kernel
theorem d5_28 : decode jdk_52_method_21_code 28 = .ok (.iload 6, 2) := by decide +kernel
theorem d5_30 : decode jdk_52_method_21_code 30 = .ok (.i2b, 1) := by decide +kernel
theorem d5_31 : decode jdk_52_method_21_code 31 = .ok (.bastore, 1) := by decide +kernel
theorem d5_32 : decode jdk_52_method_21_code 32 = .ok (.iinc 1 1, 3) := by decide +kernel
theorem d5_35 : decode jdk_52_method_21_code 35 = .ok (.iinc 3 1, 3) := by decide +kernel
theorem d5_38 : decode jdk_52_method_21_code 38 = .ok (.iinc 5 1, 3) := by decide +kernel
theorem d5_41 : decode jdk_52_method_21_code 41 = .ok (.goto (-38), 3) := by decide +kernel
theorem d5_44 : decode jdk_52_method_21_code 44 = .ok (.iload 4, 2) := by decide +kernel
theorem d5_46 : decode jdk_52_method_21_code 46 = .ok (.ireturn, 1) := by decide +kernel
def Q5a (Z : State) (a1 : Addr) (a3 : Addr) (f : Nat → Int32) (h0 : Heap) (n0 : Nat) (v : Option Value) (h : Heap) (L : List Loc) : Prop := v = some (.int (4 : Int32)) ∧ Fr n0 L ∧ (Keep h0 h [a3]) ∧ (OwnL Z h a3 (4 : Int32) f)
set_option maxRecDepth 65536 in
set_option maxHeartbeats 40000000 in
theorem rm5a (l : Launch) (Z : State) (a0 : Array Value) (hw : ∀ d ∈ tables_1, d.before a0 Z = true) (ws : List Jvm.Cond) (a1 : Addr) (a3 : Addr) (f : Nat → Int32) (h0 : Heap) (n0 : Nat) (Z0 : n0 ≤ h0.size) (C1 : OwnC Z h0 a1 (4 : Int32) f) (B3 : OwnB Z h0 a3 (4 : Int32) 0 f) (g3 : n0 ≤ a3) (n13 : a1 ≠ a3) (hl : own_lat f (4 : Int32)) :
    MetFree l (⟨"java/lang/StringUTF16", "compress", "([CI[BII)I"⟩ : MethodName) (head1 (Jvm.Cond.code (⟨"java/lang/StringUTF16", "compress", "([CI[BII)I"⟩ : MethodName) jdk_52_method_21_code 7 (some .int) :: ws) ({ frames := 0, cells := 0, slots := 0, locals := 0 } : Room)) (fun a U => a = #[(.ref a1), (.int (0 : Int32)), (.ref a3), (.int (0 : Int32)), (.int (4 : Int32))] ∧ Z.Warmed39 U.vm ∧ U.heap = h0) (fun _ _ _ _ _ => True) (fun _ U o U' => ∃ v L, o = .returned v ∧ Q5a Z a1 a3 f h0 n0 v U'.heap L ∧ FrameEnd U o U' L ({ frames := 0, cells := 0, slots := 0, locals := 0 } : Room).cells ({ frames := 0, cells := 0, slots := 0, locals := 0 } : Room).slots) := by
  refine MetFree.of_bodySF (plainFor_of_name pn_2) hisR ?_
  intro p e s m args below meth c s₁ Bd hml0 hP hK
  obtain ⟨rfl, hZ0, hh⟩ := hP
  have hx := Bd.exec
  have hby := Bd.bytes
  have hml : c.maxLocals = 7 := hml0
  have hown0 : s.vm.findClass "java/lang/StringUTF16" = some m.cls := findClass_of_methodNamed Bd.named
  have hnm := (name_of_methodNamed Bd.named Bd.method).1
  have hlk : meth.locks = false := by first | exact BodyLoose.notSynchronized Bd | exact Body.notSynchronized Bd
  have X0 : Stand p l e ({ frames := 0, cells := 0, slots := 0, locals := 0 } : Room) s m #[(.ref a1), (.int (0 : Int32)), (.ref a3), (.int (0 : Int32)), (.int (4 : Int32))] below meth c s₁ [] 0 0 := Stand.of_body Bd
  have e0 : s₁.heap = h0 := by rw [← hh, Bd.state]; rfl
  have N0 := Fr.nil n0
  have pre0 : ∀ t, Steps p.tables e below (s₁.setTop (mkF m 0 #[.val (.ref a1), .val (.int (0 : Int32)), .val (.ref a3), .val (.int (0 : Int32)), .val (.int (4 : Int32)), .unset, .unset] [])) t → Steps p.tables e below (s₁.setTop (entryFrame m #[(.ref a1), (.int (0 : Int32)), (.ref a3), (.int (0 : Int32)), (.int (4 : Int32))] 7)) t := fun t k => castTop (ef_5a m a1 a3) k
  obtain ⟨cl101, Ar101, Sz101, Nn101, Hs101⟩ := (id C1)
  obtain ⟨cl102, Ar102, Sz102, Nn102, Hs102⟩ := (id B3)
  obtain ⟨T103, h103, X103, e103, W103, st103⟩ := stB X0 hx hZ0 e0 Ar102 (j := (0 : Int32)) (inb_of Sz102 ⟨by decide, by decide⟩) (g := (mkF m 31 #[.val (.ref a1), .val (.int (0 : Int32)), .val (.ref a3), .val (.int (0 : Int32)), .val (.int (4 : Int32)), .val (.int (0 : Int32)), .val (.int (f 0))] [(.int ((f 0).toInt8.toInt32)), (.int (0 : Int32)), (.ref a3)])) rfl rfl (hb hby d5_31)
  have f104 : OwnC Z h103 a1 (4 : Int32) f := OwnC.other C1 W103 n13
  have Zs103 : n0 ≤ h103.size := Nat.le_trans Z0 (Keep.of_wr W103).1
  have N103 := Fr.snoc X103 N0 g3
  have K103 : Keep h0 h103 [a3] := (Keep.refl h0 [a3]).wr W103 (Or.inl (List.mem_of_getElem? (i := 0) rfl))
  have v103 : OwnB Z h103 a3 (4 : Int32) 1 f := (OwnB.put Ar102 Sz102 Nn102 Hs102 (inb_of Sz102 ⟨by decide, by decide⟩) W103 (by decide) rfl)
  obtain ⟨cl105, Ar105, Sz105, Nn105, Hs105⟩ := (id f104)
  obtain ⟨cl106, Ar106, Sz106, Nn106, Hs106⟩ := (id v103)
  obtain ⟨T107, h107, X107, e107, W107, st107⟩ := stB X103 hx hZ0 e103 Ar106 (j := (1 : Int32)) (inb_of Sz106 ⟨by decide, by decide⟩) (g := (mkF m 31 #[.val (.ref a1), .val (.int (1 : Int32)), .val (.ref a3), .val (.int (1 : Int32)), .val (.int (4 : Int32)), .val (.int (1 : Int32)), .val (.int (f 1))] [(.int ((f 1).toInt8.toInt32)), (.int (1 : Int32)), (.ref a3)])) rfl rfl (hb hby d5_31)
  have f108 : OwnC Z h107 a1 (4 : Int32) f := OwnC.other f104 W107 n13
  have Zs107 : n0 ≤ h107.size := Nat.le_trans Zs103 (Keep.of_wr W107).1
  have N107 := Fr.snoc X107 N103 g3
  have K107 : Keep h0 h107 [a3] := K103.wr W107 (Or.inl (List.mem_of_getElem? (i := 0) rfl))
  have v107 : OwnB Z h107 a3 (4 : Int32) 2 f := (OwnB.put Ar106 Sz106 Nn106 Hs106 (inb_of Sz106 ⟨by decide, by decide⟩) W107 (by decide) rfl)
  obtain ⟨cl109, Ar109, Sz109, Nn109, Hs109⟩ := (id f108)
  obtain ⟨cl110, Ar110, Sz110, Nn110, Hs110⟩ := (id v107)
  obtain ⟨T111, h111, X111, e111, W111, st111⟩ := stB X107 hx hZ0 e107 Ar110 (j := (2 : Int32)) (inb_of Sz110 ⟨by decide, by decide⟩) (g := (mkF m 31 #[.val (.ref a1), .val (.int (2 : Int32)), .val (.ref a3), .val (.int (2 : Int32)), .val (.int (4 : Int32)), .val (.int (2 : Int32)), .val (.int (f 2))] [(.int ((f 2).toInt8.toInt32)), (.int (2 : Int32)), (.ref a3)])) rfl rfl (hb hby d5_31)
  have f112 : OwnC Z h111 a1 (4 : Int32) f := OwnC.other f108 W111 n13
  have Zs111 : n0 ≤ h111.size := Nat.le_trans Zs107 (Keep.of_wr W111).1
  have N111 := Fr.snoc X111 N107 g3
  have K111 : Keep h0 h111 [a3] := K107.wr W111 (Or.inl (List.mem_of_getElem? (i := 0) rfl))
  have v111 : OwnB Z h111 a3 (4 : Int32) 3 f := (OwnB.put Ar110 Sz110 Nn110 Hs110 (inb_of Sz110 ⟨by decide, by decide⟩) W111 (by decide) rfl)
  obtain ⟨cl113, Ar113, Sz113, Nn113, Hs113⟩ := (id f112)
  obtain ⟨cl114, Ar114, Sz114, Nn114, Hs114⟩ := (id v111)
  obtain ⟨T115, h115, X115, e115, W115, st115⟩ := stB X111 hx hZ0 e111 Ar114 (j := (3 : Int32)) (inb_of Sz114 ⟨by decide, by decide⟩) (g := (mkF m 31 #[.val (.ref a1), .val (.int (3 : Int32)), .val (.ref a3), .val (.int (3 : Int32)), .val (.int (4 : Int32)), .val (.int (3 : Int32)), .val (.int (f 3))] [(.int ((f 3).toInt8.toInt32)), (.int (3 : Int32)), (.ref a3)])) rfl rfl (hb hby d5_31)
  have f116 : OwnC Z h115 a1 (4 : Int32) f := OwnC.other f112 W115 n13
  have Zs115 : n0 ≤ h115.size := Nat.le_trans Zs111 (Keep.of_wr W115).1
  have N115 := Fr.snoc X115 N111 g3
  have K115 : Keep h0 h115 [a3] := K111.wr W115 (Or.inl (List.mem_of_getElem? (i := 0) rfl))
  have v115 : OwnB Z h115 a3 (4 : Int32) 4 f := (OwnB.put Ar114 Sz114 Nn114 Hs114 (inb_of Sz114 ⟨by decide, by decide⟩) W115 (by decide) rfl)
  obtain ⟨fs, hr, hrun, hended, hW, hsame⟩ := X115.leave (v := some (.int (4 : Int32))) (fun h => by rw [Bd.returns] at h; cases h) hlk
  refine ⟨_, _, pre0 _ ?_, hrun, hended, _, _, rfl, ?_, ⟨_, rfl⟩, hW, hsame.mono (by decide) (by decide)⟩
  · show Steps p.tables e below (s₁.setTop (mkF m 0 #[.val (.ref a1), .val (.int (0 : Int32)), .val (.ref a3), .val (.int (0 : Int32)), .val (.int (4 : Int32)), .unset, .unset] [])) _
    refine XS.iconst X0.here hx rfl (hb hby d5_0) ?_
    show Steps p.tables e below (s₁.setTop (mkF m 1 #[.val (.ref a1), .val (.int (0 : Int32)), .val (.ref a3), .val (.int (0 : Int32)), .val (.int (4 : Int32)), .unset, .unset] [(.int (0 : Int32))])) _
    refine XS.istore X0.here hx rfl (hb hby d5_1) rfl (l' := #[.val (.ref a1), .val (.int (0 : Int32)), .val (.ref a3), .val (.int (0 : Int32)), .val (.int (4 : Int32)), .val (.int (0 : Int32)), .unset]) rfl ?_
    show Steps p.tables e below (s₁.setTop (mkF m 3 #[.val (.ref a1), .val (.int (0 : Int32)), .val (.ref a3), .val (.int (0 : Int32)), .val (.int (4 : Int32)), .val (.int (0 : Int32)), .unset] [])) _
    refine XS.iload X0.here hx rfl (hb hby d5_3) rfl ?_
    show Steps p.tables e below (s₁.setTop (mkF m 5 #[.val (.ref a1), .val (.int (0 : Int32)), .val (.ref a3), .val (.int (0 : Int32)), .val (.int (4 : Int32)), .val (.int (0 : Int32)), .unset] [(.int (0 : Int32))])) _
    refine XS.iload X0.here hx rfl (hb hby d5_5) rfl ?_
    show Steps p.tables e below (s₁.setTop (mkF m 7 #[.val (.ref a1), .val (.int (0 : Int32)), .val (.ref a3), .val (.int (0 : Int32)), .val (.int (4 : Int32)), .val (.int (0 : Int32)), .unset] [(.int (4 : Int32)), (.int (0 : Int32))])) _
    refine XS.icmpNo X0.here hx rfl (hb hby d5_7) rfl (tlt (by decide : (0 : Int32) < (4 : Int32))).2.1 ?_
    show Steps p.tables e below (s₁.setTop (mkF m 10 #[.val (.ref a1), .val (.int (0 : Int32)), .val (.ref a3), .val (.int (0 : Int32)), .val (.int (4 : Int32)), .val (.int (0 : Int32)), .unset] [])) _
    refine XS.aloadN X0.here hx rfl (hb hby d5_10) rfl rfl ?_
    show Steps p.tables e below (s₁.setTop (mkF m 11 #[.val (.ref a1), .val (.int (0 : Int32)), .val (.ref a3), .val (.int (0 : Int32)), .val (.int (4 : Int32)), .val (.int (0 : Int32)), .unset] [(.ref a1)])) _
    refine XS.iloadN X0.here hx rfl (hb hby d5_11) rfl ?_
    show Steps p.tables e below (s₁.setTop (mkF m 12 #[.val (.ref a1), .val (.int (0 : Int32)), .val (.ref a3), .val (.int (0 : Int32)), .val (.int (4 : Int32)), .val (.int (0 : Int32)), .unset] [(.int (0 : Int32)), (.ref a1)])) _
    refine X0.caload hx (j := (0 : Int32)) (v := (.int (f 0))) (by rw [e0]; exact Ar101.1) (State.isArrayOf_alike hZ0.alike Ar101.2.1) Ar101.2.2 (inb_of Sz101 ⟨by decide, by decide⟩) (Hs101 0 (by decide)) (g := (mkF m 12 #[.val (.ref a1), .val (.int (0 : Int32)), .val (.ref a3), .val (.int (0 : Int32)), .val (.int (4 : Int32)), .val (.int (0 : Int32)), .unset] [(.int (0 : Int32)), (.ref a1)])) rfl rfl (hb hby d5_12) _ ?_
    show Steps p.tables e below (s₁.setTop (mkF m 13 #[.val (.ref a1), .val (.int (0 : Int32)), .val (.ref a3), .val (.int (0 : Int32)), .val (.int (4 : Int32)), .val (.int (0 : Int32)), .unset] [(.int (f 0))])) _
    refine XS.istore X0.here hx rfl (hb hby d5_13) rfl (l' := #[.val (.ref a1), .val (.int (0 : Int32)), .val (.ref a3), .val (.int (0 : Int32)), .val (.int (4 : Int32)), .val (.int (0 : Int32)), .val (.int (f 0))]) rfl ?_
    show Steps p.tables e below (s₁.setTop (mkF m 15 #[.val (.ref a1), .val (.int (0 : Int32)), .val (.ref a3), .val (.int (0 : Int32)), .val (.int (4 : Int32)), .val (.int (0 : Int32)), .val (.int (f 0))] [])) _
    refine XS.iload X0.here hx rfl (hb hby d5_15) rfl ?_
    show Steps p.tables e below (s₁.setTop (mkF m 17 #[.val (.ref a1), .val (.int (0 : Int32)), .val (.ref a3), .val (.int (0 : Int32)), .val (.int (4 : Int32)), .val (.int (0 : Int32)), .val (.int (f 0))] [(.int (f 0))])) _
    refine XS.sipush X0.here hx rfl (hb hby d5_17) ?_
    show Steps p.tables e below (s₁.setTop (mkF m 20 #[.val (.ref a1), .val (.int (0 : Int32)), .val (.ref a3), .val (.int (0 : Int32)), .val (.int (4 : Int32)), .val (.int (0 : Int32)), .val (.int (f 0))] [(.int (255 : Int32)), (.int (f 0))])) _
    refine XS.icmpYes X0.here hx rfl (pc0 := 20) (pc' := 26) rfl (hb hby d5_20) rfl (flt (hl 0 (by decide) : ¬ ((255 : Int32) < (f 0)))).2.2.2 (by decide) (by decide) ?_
    show Steps p.tables e below (s₁.setTop (mkF m 26 #[.val (.ref a1), .val (.int (0 : Int32)), .val (.ref a3), .val (.int (0 : Int32)), .val (.int (4 : Int32)), .val (.int (0 : Int32)), .val (.int (f 0))] [])) _
    refine XS.aloadN X0.here hx rfl (hb hby d5_26) rfl rfl ?_
    show Steps p.tables e below (s₁.setTop (mkF m 27 #[.val (.ref a1), .val (.int (0 : Int32)), .val (.ref a3), .val (.int (0 : Int32)), .val (.int (4 : Int32)), .val (.int (0 : Int32)), .val (.int (f 0))] [(.ref a3)])) _
    refine XS.iloadN X0.here hx rfl (hb hby d5_27) rfl ?_
    show Steps p.tables e below (s₁.setTop (mkF m 28 #[.val (.ref a1), .val (.int (0 : Int32)), .val (.ref a3), .val (.int (0 : Int32)), .val (.int (4 : Int32)), .val (.int (0 : Int32)), .val (.int (f 0))] [(.int (0 : Int32)), (.ref a3)])) _
    refine XS.iload X0.here hx rfl (hb hby d5_28) rfl ?_
    show Steps p.tables e below (s₁.setTop (mkF m 30 #[.val (.ref a1), .val (.int (0 : Int32)), .val (.ref a3), .val (.int (0 : Int32)), .val (.int (4 : Int32)), .val (.int (0 : Int32)), .val (.int (f 0))] [(.int (f 0)), (.int (0 : Int32)), (.ref a3)])) _
    refine XS.i2b X0.here hx rfl (hb hby d5_30) rfl ?_
    show Steps p.tables e below (s₁.setTop (mkF m 31 #[.val (.ref a1), .val (.int (0 : Int32)), .val (.ref a3), .val (.int (0 : Int32)), .val (.int (4 : Int32)), .val (.int (0 : Int32)), .val (.int (f 0))] [(.int ((f 0).toInt8.toInt32)), (.int (0 : Int32)), (.ref a3)])) _
    refine st103 _ ?_
    show Steps p.tables e below (T103.setTop (mkF m 32 #[.val (.ref a1), .val (.int (0 : Int32)), .val (.ref a3), .val (.int (0 : Int32)), .val (.int (4 : Int32)), .val (.int (0 : Int32)), .val (.int (f 0))] [])) _
    refine XS.iinc X103.here hx rfl (hb hby d5_32) rfl (l' := #[.val (.ref a1), .val (.int (1 : Int32)), .val (.ref a3), .val (.int (0 : Int32)), .val (.int (4 : Int32)), .val (.int (0 : Int32)), .val (.int (f 0))]) rfl ?_
    show Steps p.tables e below (T103.setTop (mkF m 35 #[.val (.ref a1), .val (.int (1 : Int32)), .val (.ref a3), .val (.int (0 : Int32)), .val (.int (4 : Int32)), .val (.int (0 : Int32)), .val (.int (f 0))] [])) _
    refine XS.iinc X103.here hx rfl (hb hby d5_35) rfl (l' := #[.val (.ref a1), .val (.int (1 : Int32)), .val (.ref a3), .val (.int (1 : Int32)), .val (.int (4 : Int32)), .val (.int (0 : Int32)), .val (.int (f 0))]) rfl ?_
    show Steps p.tables e below (T103.setTop (mkF m 38 #[.val (.ref a1), .val (.int (1 : Int32)), .val (.ref a3), .val (.int (1 : Int32)), .val (.int (4 : Int32)), .val (.int (0 : Int32)), .val (.int (f 0))] [])) _
    refine XS.iinc X103.here hx rfl (hb hby d5_38) rfl (l' := #[.val (.ref a1), .val (.int (1 : Int32)), .val (.ref a3), .val (.int (1 : Int32)), .val (.int (4 : Int32)), .val (.int (1 : Int32)), .val (.int (f 0))]) rfl ?_
    show Steps p.tables e below (T103.setTop (mkF m 41 #[.val (.ref a1), .val (.int (1 : Int32)), .val (.ref a3), .val (.int (1 : Int32)), .val (.int (4 : Int32)), .val (.int (1 : Int32)), .val (.int (f 0))] [])) _
    refine XS.goto X103.here hx rfl (pc0 := 41) (pc' := 3) rfl (hb hby d5_41) (by decide) (by decide) ?_
    show Steps p.tables e below (T103.setTop (mkF m 3 #[.val (.ref a1), .val (.int (1 : Int32)), .val (.ref a3), .val (.int (1 : Int32)), .val (.int (4 : Int32)), .val (.int (1 : Int32)), .val (.int (f 0))] [])) _
    refine XS.iload X103.here hx rfl (hb hby d5_3) rfl ?_
    show Steps p.tables e below (T103.setTop (mkF m 5 #[.val (.ref a1), .val (.int (1 : Int32)), .val (.ref a3), .val (.int (1 : Int32)), .val (.int (4 : Int32)), .val (.int (1 : Int32)), .val (.int (f 0))] [(.int (1 : Int32))])) _
    refine XS.iload X103.here hx rfl (hb hby d5_5) rfl ?_
    show Steps p.tables e below (T103.setTop (mkF m 7 #[.val (.ref a1), .val (.int (1 : Int32)), .val (.ref a3), .val (.int (1 : Int32)), .val (.int (4 : Int32)), .val (.int (1 : Int32)), .val (.int (f 0))] [(.int (4 : Int32)), (.int (1 : Int32))])) _
    refine XS.icmpNo X103.here hx rfl (hb hby d5_7) rfl (tlt (by decide : (1 : Int32) < (4 : Int32))).2.1 ?_
    show Steps p.tables e below (T103.setTop (mkF m 10 #[.val (.ref a1), .val (.int (1 : Int32)), .val (.ref a3), .val (.int (1 : Int32)), .val (.int (4 : Int32)), .val (.int (1 : Int32)), .val (.int (f 0))] [])) _
    refine XS.aloadN X103.here hx rfl (hb hby d5_10) rfl rfl ?_
    show Steps p.tables e below (T103.setTop (mkF m 11 #[.val (.ref a1), .val (.int (1 : Int32)), .val (.ref a3), .val (.int (1 : Int32)), .val (.int (4 : Int32)), .val (.int (1 : Int32)), .val (.int (f 0))] [(.ref a1)])) _
    refine XS.iloadN X103.here hx rfl (hb hby d5_11) rfl ?_
    show Steps p.tables e below (T103.setTop (mkF m 12 #[.val (.ref a1), .val (.int (1 : Int32)), .val (.ref a3), .val (.int (1 : Int32)), .val (.int (4 : Int32)), .val (.int (1 : Int32)), .val (.int (f 0))] [(.int (1 : Int32)), (.ref a1)])) _
    refine X103.caload hx (j := (1 : Int32)) (v := (.int (f 1))) (by rw [e103]; exact Ar105.1) (State.isArrayOf_alike hZ0.alike Ar105.2.1) Ar105.2.2 (inb_of Sz105 ⟨by decide, by decide⟩) (Hs105 1 (by decide)) (g := (mkF m 12 #[.val (.ref a1), .val (.int (1 : Int32)), .val (.ref a3), .val (.int (1 : Int32)), .val (.int (4 : Int32)), .val (.int (1 : Int32)), .val (.int (f 0))] [(.int (1 : Int32)), (.ref a1)])) rfl rfl (hb hby d5_12) _ ?_
    show Steps p.tables e below (T103.setTop (mkF m 13 #[.val (.ref a1), .val (.int (1 : Int32)), .val (.ref a3), .val (.int (1 : Int32)), .val (.int (4 : Int32)), .val (.int (1 : Int32)), .val (.int (f 0))] [(.int (f 1))])) _
    refine XS.istore X103.here hx rfl (hb hby d5_13) rfl (l' := #[.val (.ref a1), .val (.int (1 : Int32)), .val (.ref a3), .val (.int (1 : Int32)), .val (.int (4 : Int32)), .val (.int (1 : Int32)), .val (.int (f 1))]) rfl ?_
    show Steps p.tables e below (T103.setTop (mkF m 15 #[.val (.ref a1), .val (.int (1 : Int32)), .val (.ref a3), .val (.int (1 : Int32)), .val (.int (4 : Int32)), .val (.int (1 : Int32)), .val (.int (f 1))] [])) _
    refine XS.iload X103.here hx rfl (hb hby d5_15) rfl ?_
    show Steps p.tables e below (T103.setTop (mkF m 17 #[.val (.ref a1), .val (.int (1 : Int32)), .val (.ref a3), .val (.int (1 : Int32)), .val (.int (4 : Int32)), .val (.int (1 : Int32)), .val (.int (f 1))] [(.int (f 1))])) _
    refine XS.sipush X103.here hx rfl (hb hby d5_17) ?_
    show Steps p.tables e below (T103.setTop (mkF m 20 #[.val (.ref a1), .val (.int (1 : Int32)), .val (.ref a3), .val (.int (1 : Int32)), .val (.int (4 : Int32)), .val (.int (1 : Int32)), .val (.int (f 1))] [(.int (255 : Int32)), (.int (f 1))])) _
    refine XS.icmpYes X103.here hx rfl (pc0 := 20) (pc' := 26) rfl (hb hby d5_20) rfl (flt (hl 1 (by decide) : ¬ ((255 : Int32) < (f 1)))).2.2.2 (by decide) (by decide) ?_
    show Steps p.tables e below (T103.setTop (mkF m 26 #[.val (.ref a1), .val (.int (1 : Int32)), .val (.ref a3), .val (.int (1 : Int32)), .val (.int (4 : Int32)), .val (.int (1 : Int32)), .val (.int (f 1))] [])) _
    refine XS.aloadN X103.here hx rfl (hb hby d5_26) rfl rfl ?_
    show Steps p.tables e below (T103.setTop (mkF m 27 #[.val (.ref a1), .val (.int (1 : Int32)), .val (.ref a3), .val (.int (1 : Int32)), .val (.int (4 : Int32)), .val (.int (1 : Int32)), .val (.int (f 1))] [(.ref a3)])) _
    refine XS.iloadN X103.here hx rfl (hb hby d5_27) rfl ?_
    show Steps p.tables e below (T103.setTop (mkF m 28 #[.val (.ref a1), .val (.int (1 : Int32)), .val (.ref a3), .val (.int (1 : Int32)), .val (.int (4 : Int32)), .val (.int (1 : Int32)), .val (.int (f 1))] [(.int (1 : Int32)), (.ref a3)])) _
    refine XS.iload X103.here hx rfl (hb hby d5_28) rfl ?_
    show Steps p.tables e below (T103.setTop (mkF m 30 #[.val (.ref a1), .val (.int (1 : Int32)), .val (.ref a3), .val (.int (1 : Int32)), .val (.int (4 : Int32)), .val (.int (1 : Int32)), .val (.int (f 1))] [(.int (f 1)), (.int (1 : Int32)), (.ref a3)])) _
    refine XS.i2b X103.here hx rfl (hb hby d5_30) rfl ?_
    show Steps p.tables e below (T103.setTop (mkF m 31 #[.val (.ref a1), .val (.int (1 : Int32)), .val (.ref a3), .val (.int (1 : Int32)), .val (.int (4 : Int32)), .val (.int (1 : Int32)), .val (.int (f 1))] [(.int ((f 1).toInt8.toInt32)), (.int (1 : Int32)), (.ref a3)])) _
    refine st107 _ ?_
    show Steps p.tables e below (T107.setTop (mkF m 32 #[.val (.ref a1), .val (.int (1 : Int32)), .val (.ref a3), .val (.int (1 : Int32)), .val (.int (4 : Int32)), .val (.int (1 : Int32)), .val (.int (f 1))] [])) _
    refine XS.iinc X107.here hx rfl (hb hby d5_32) rfl (l' := #[.val (.ref a1), .val (.int (2 : Int32)), .val (.ref a3), .val (.int (1 : Int32)), .val (.int (4 : Int32)), .val (.int (1 : Int32)), .val (.int (f 1))]) rfl ?_
    show Steps p.tables e below (T107.setTop (mkF m 35 #[.val (.ref a1), .val (.int (2 : Int32)), .val (.ref a3), .val (.int (1 : Int32)), .val (.int (4 : Int32)), .val (.int (1 : Int32)), .val (.int (f 1))] [])) _
    refine XS.iinc X107.here hx rfl (hb hby d5_35) rfl (l' := #[.val (.ref a1), .val (.int (2 : Int32)), .val (.ref a3), .val (.int (2 : Int32)), .val (.int (4 : Int32)), .val (.int (1 : Int32)), .val (.int (f 1))]) rfl ?_
    show Steps p.tables e below (T107.setTop (mkF m 38 #[.val (.ref a1), .val (.int (2 : Int32)), .val (.ref a3), .val (.int (2 : Int32)), .val (.int (4 : Int32)), .val (.int (1 : Int32)), .val (.int (f 1))] [])) _
    refine XS.iinc X107.here hx rfl (hb hby d5_38) rfl (l' := #[.val (.ref a1), .val (.int (2 : Int32)), .val (.ref a3), .val (.int (2 : Int32)), .val (.int (4 : Int32)), .val (.int (2 : Int32)), .val (.int (f 1))]) rfl ?_
    show Steps p.tables e below (T107.setTop (mkF m 41 #[.val (.ref a1), .val (.int (2 : Int32)), .val (.ref a3), .val (.int (2 : Int32)), .val (.int (4 : Int32)), .val (.int (2 : Int32)), .val (.int (f 1))] [])) _
    refine XS.goto X107.here hx rfl (pc0 := 41) (pc' := 3) rfl (hb hby d5_41) (by decide) (by decide) ?_
    show Steps p.tables e below (T107.setTop (mkF m 3 #[.val (.ref a1), .val (.int (2 : Int32)), .val (.ref a3), .val (.int (2 : Int32)), .val (.int (4 : Int32)), .val (.int (2 : Int32)), .val (.int (f 1))] [])) _
    refine XS.iload X107.here hx rfl (hb hby d5_3) rfl ?_
    show Steps p.tables e below (T107.setTop (mkF m 5 #[.val (.ref a1), .val (.int (2 : Int32)), .val (.ref a3), .val (.int (2 : Int32)), .val (.int (4 : Int32)), .val (.int (2 : Int32)), .val (.int (f 1))] [(.int (2 : Int32))])) _
    refine XS.iload X107.here hx rfl (hb hby d5_5) rfl ?_
    show Steps p.tables e below (T107.setTop (mkF m 7 #[.val (.ref a1), .val (.int (2 : Int32)), .val (.ref a3), .val (.int (2 : Int32)), .val (.int (4 : Int32)), .val (.int (2 : Int32)), .val (.int (f 1))] [(.int (4 : Int32)), (.int (2 : Int32))])) _
    refine XS.icmpNo X107.here hx rfl (hb hby d5_7) rfl (tlt (by decide : (2 : Int32) < (4 : Int32))).2.1 ?_
    show Steps p.tables e below (T107.setTop (mkF m 10 #[.val (.ref a1), .val (.int (2 : Int32)), .val (.ref a3), .val (.int (2 : Int32)), .val (.int (4 : Int32)), .val (.int (2 : Int32)), .val (.int (f 1))] [])) _
    refine XS.aloadN X107.here hx rfl (hb hby d5_10) rfl rfl ?_
    show Steps p.tables e below (T107.setTop (mkF m 11 #[.val (.ref a1), .val (.int (2 : Int32)), .val (.ref a3), .val (.int (2 : Int32)), .val (.int (4 : Int32)), .val (.int (2 : Int32)), .val (.int (f 1))] [(.ref a1)])) _
    refine XS.iloadN X107.here hx rfl (hb hby d5_11) rfl ?_
    show Steps p.tables e below (T107.setTop (mkF m 12 #[.val (.ref a1), .val (.int (2 : Int32)), .val (.ref a3), .val (.int (2 : Int32)), .val (.int (4 : Int32)), .val (.int (2 : Int32)), .val (.int (f 1))] [(.int (2 : Int32)), (.ref a1)])) _
    refine X107.caload hx (j := (2 : Int32)) (v := (.int (f 2))) (by rw [e107]; exact Ar109.1) (State.isArrayOf_alike hZ0.alike Ar109.2.1) Ar109.2.2 (inb_of Sz109 ⟨by decide, by decide⟩) (Hs109 2 (by decide)) (g := (mkF m 12 #[.val (.ref a1), .val (.int (2 : Int32)), .val (.ref a3), .val (.int (2 : Int32)), .val (.int (4 : Int32)), .val (.int (2 : Int32)), .val (.int (f 1))] [(.int (2 : Int32)), (.ref a1)])) rfl rfl (hb hby d5_12) _ ?_
    show Steps p.tables e below (T107.setTop (mkF m 13 #[.val (.ref a1), .val (.int (2 : Int32)), .val (.ref a3), .val (.int (2 : Int32)), .val (.int (4 : Int32)), .val (.int (2 : Int32)), .val (.int (f 1))] [(.int (f 2))])) _
    refine XS.istore X107.here hx rfl (hb hby d5_13) rfl (l' := #[.val (.ref a1), .val (.int (2 : Int32)), .val (.ref a3), .val (.int (2 : Int32)), .val (.int (4 : Int32)), .val (.int (2 : Int32)), .val (.int (f 2))]) rfl ?_
    show Steps p.tables e below (T107.setTop (mkF m 15 #[.val (.ref a1), .val (.int (2 : Int32)), .val (.ref a3), .val (.int (2 : Int32)), .val (.int (4 : Int32)), .val (.int (2 : Int32)), .val (.int (f 2))] [])) _
    refine XS.iload X107.here hx rfl (hb hby d5_15) rfl ?_
    show Steps p.tables e below (T107.setTop (mkF m 17 #[.val (.ref a1), .val (.int (2 : Int32)), .val (.ref a3), .val (.int (2 : Int32)), .val (.int (4 : Int32)), .val (.int (2 : Int32)), .val (.int (f 2))] [(.int (f 2))])) _
    refine XS.sipush X107.here hx rfl (hb hby d5_17) ?_
    show Steps p.tables e below (T107.setTop (mkF m 20 #[.val (.ref a1), .val (.int (2 : Int32)), .val (.ref a3), .val (.int (2 : Int32)), .val (.int (4 : Int32)), .val (.int (2 : Int32)), .val (.int (f 2))] [(.int (255 : Int32)), (.int (f 2))])) _
    refine XS.icmpYes X107.here hx rfl (pc0 := 20) (pc' := 26) rfl (hb hby d5_20) rfl (flt (hl 2 (by decide) : ¬ ((255 : Int32) < (f 2)))).2.2.2 (by decide) (by decide) ?_
    show Steps p.tables e below (T107.setTop (mkF m 26 #[.val (.ref a1), .val (.int (2 : Int32)), .val (.ref a3), .val (.int (2 : Int32)), .val (.int (4 : Int32)), .val (.int (2 : Int32)), .val (.int (f 2))] [])) _
    refine XS.aloadN X107.here hx rfl (hb hby d5_26) rfl rfl ?_
    show Steps p.tables e below (T107.setTop (mkF m 27 #[.val (.ref a1), .val (.int (2 : Int32)), .val (.ref a3), .val (.int (2 : Int32)), .val (.int (4 : Int32)), .val (.int (2 : Int32)), .val (.int (f 2))] [(.ref a3)])) _
    refine XS.iloadN X107.here hx rfl (hb hby d5_27) rfl ?_
    show Steps p.tables e below (T107.setTop (mkF m 28 #[.val (.ref a1), .val (.int (2 : Int32)), .val (.ref a3), .val (.int (2 : Int32)), .val (.int (4 : Int32)), .val (.int (2 : Int32)), .val (.int (f 2))] [(.int (2 : Int32)), (.ref a3)])) _
    refine XS.iload X107.here hx rfl (hb hby d5_28) rfl ?_
    show Steps p.tables e below (T107.setTop (mkF m 30 #[.val (.ref a1), .val (.int (2 : Int32)), .val (.ref a3), .val (.int (2 : Int32)), .val (.int (4 : Int32)), .val (.int (2 : Int32)), .val (.int (f 2))] [(.int (f 2)), (.int (2 : Int32)), (.ref a3)])) _
    refine XS.i2b X107.here hx rfl (hb hby d5_30) rfl ?_
    show Steps p.tables e below (T107.setTop (mkF m 31 #[.val (.ref a1), .val (.int (2 : Int32)), .val (.ref a3), .val (.int (2 : Int32)), .val (.int (4 : Int32)), .val (.int (2 : Int32)), .val (.int (f 2))] [(.int ((f 2).toInt8.toInt32)), (.int (2 : Int32)), (.ref a3)])) _
    refine st111 _ ?_
    show Steps p.tables e below (T111.setTop (mkF m 32 #[.val (.ref a1), .val (.int (2 : Int32)), .val (.ref a3), .val (.int (2 : Int32)), .val (.int (4 : Int32)), .val (.int (2 : Int32)), .val (.int (f 2))] [])) _
    refine XS.iinc X111.here hx rfl (hb hby d5_32) rfl (l' := #[.val (.ref a1), .val (.int (3 : Int32)), .val (.ref a3), .val (.int (2 : Int32)), .val (.int (4 : Int32)), .val (.int (2 : Int32)), .val (.int (f 2))]) rfl ?_
    show Steps p.tables e below (T111.setTop (mkF m 35 #[.val (.ref a1), .val (.int (3 : Int32)), .val (.ref a3), .val (.int (2 : Int32)), .val (.int (4 : Int32)), .val (.int (2 : Int32)), .val (.int (f 2))] [])) _
    refine XS.iinc X111.here hx rfl (hb hby d5_35) rfl (l' := #[.val (.ref a1), .val (.int (3 : Int32)), .val (.ref a3), .val (.int (3 : Int32)), .val (.int (4 : Int32)), .val (.int (2 : Int32)), .val (.int (f 2))]) rfl ?_
    show Steps p.tables e below (T111.setTop (mkF m 38 #[.val (.ref a1), .val (.int (3 : Int32)), .val (.ref a3), .val (.int (3 : Int32)), .val (.int (4 : Int32)), .val (.int (2 : Int32)), .val (.int (f 2))] [])) _
    refine XS.iinc X111.here hx rfl (hb hby d5_38) rfl (l' := #[.val (.ref a1), .val (.int (3 : Int32)), .val (.ref a3), .val (.int (3 : Int32)), .val (.int (4 : Int32)), .val (.int (3 : Int32)), .val (.int (f 2))]) rfl ?_
    show Steps p.tables e below (T111.setTop (mkF m 41 #[.val (.ref a1), .val (.int (3 : Int32)), .val (.ref a3), .val (.int (3 : Int32)), .val (.int (4 : Int32)), .val (.int (3 : Int32)), .val (.int (f 2))] [])) _
    refine XS.goto X111.here hx rfl (pc0 := 41) (pc' := 3) rfl (hb hby d5_41) (by decide) (by decide) ?_
    show Steps p.tables e below (T111.setTop (mkF m 3 #[.val (.ref a1), .val (.int (3 : Int32)), .val (.ref a3), .val (.int (3 : Int32)), .val (.int (4 : Int32)), .val (.int (3 : Int32)), .val (.int (f 2))] [])) _
    refine XS.iload X111.here hx rfl (hb hby d5_3) rfl ?_
    show Steps p.tables e below (T111.setTop (mkF m 5 #[.val (.ref a1), .val (.int (3 : Int32)), .val (.ref a3), .val (.int (3 : Int32)), .val (.int (4 : Int32)), .val (.int (3 : Int32)), .val (.int (f 2))] [(.int (3 : Int32))])) _
    refine XS.iload X111.here hx rfl (hb hby d5_5) rfl ?_
    show Steps p.tables e below (T111.setTop (mkF m 7 #[.val (.ref a1), .val (.int (3 : Int32)), .val (.ref a3), .val (.int (3 : Int32)), .val (.int (4 : Int32)), .val (.int (3 : Int32)), .val (.int (f 2))] [(.int (4 : Int32)), (.int (3 : Int32))])) _
    refine XS.icmpNo X111.here hx rfl (hb hby d5_7) rfl (tlt (by decide : (3 : Int32) < (4 : Int32))).2.1 ?_
    show Steps p.tables e below (T111.setTop (mkF m 10 #[.val (.ref a1), .val (.int (3 : Int32)), .val (.ref a3), .val (.int (3 : Int32)), .val (.int (4 : Int32)), .val (.int (3 : Int32)), .val (.int (f 2))] [])) _
    refine XS.aloadN X111.here hx rfl (hb hby d5_10) rfl rfl ?_
    show Steps p.tables e below (T111.setTop (mkF m 11 #[.val (.ref a1), .val (.int (3 : Int32)), .val (.ref a3), .val (.int (3 : Int32)), .val (.int (4 : Int32)), .val (.int (3 : Int32)), .val (.int (f 2))] [(.ref a1)])) _
    refine XS.iloadN X111.here hx rfl (hb hby d5_11) rfl ?_
    show Steps p.tables e below (T111.setTop (mkF m 12 #[.val (.ref a1), .val (.int (3 : Int32)), .val (.ref a3), .val (.int (3 : Int32)), .val (.int (4 : Int32)), .val (.int (3 : Int32)), .val (.int (f 2))] [(.int (3 : Int32)), (.ref a1)])) _
    refine X111.caload hx (j := (3 : Int32)) (v := (.int (f 3))) (by rw [e111]; exact Ar113.1) (State.isArrayOf_alike hZ0.alike Ar113.2.1) Ar113.2.2 (inb_of Sz113 ⟨by decide, by decide⟩) (Hs113 3 (by decide)) (g := (mkF m 12 #[.val (.ref a1), .val (.int (3 : Int32)), .val (.ref a3), .val (.int (3 : Int32)), .val (.int (4 : Int32)), .val (.int (3 : Int32)), .val (.int (f 2))] [(.int (3 : Int32)), (.ref a1)])) rfl rfl (hb hby d5_12) _ ?_
    show Steps p.tables e below (T111.setTop (mkF m 13 #[.val (.ref a1), .val (.int (3 : Int32)), .val (.ref a3), .val (.int (3 : Int32)), .val (.int (4 : Int32)), .val (.int (3 : Int32)), .val (.int (f 2))] [(.int (f 3))])) _
    refine XS.istore X111.here hx rfl (hb hby d5_13) rfl (l' := #[.val (.ref a1), .val (.int (3 : Int32)), .val (.ref a3), .val (.int (3 : Int32)), .val (.int (4 : Int32)), .val (.int (3 : Int32)), .val (.int (f 3))]) rfl ?_
    show Steps p.tables e below (T111.setTop (mkF m 15 #[.val (.ref a1), .val (.int (3 : Int32)), .val (.ref a3), .val (.int (3 : Int32)), .val (.int (4 : Int32)), .val (.int (3 : Int32)), .val (.int (f 3))] [])) _
    refine XS.iload X111.here hx rfl (hb hby d5_15) rfl ?_
    show Steps p.tables e below (T111.setTop (mkF m 17 #[.val (.ref a1), .val (.int (3 : Int32)), .val (.ref a3), .val (.int (3 : Int32)), .val (.int (4 : Int32)), .val (.int (3 : Int32)), .val (.int (f 3))] [(.int (f 3))])) _
    refine XS.sipush X111.here hx rfl (hb hby d5_17) ?_
    show Steps p.tables e below (T111.setTop (mkF m 20 #[.val (.ref a1), .val (.int (3 : Int32)), .val (.ref a3), .val (.int (3 : Int32)), .val (.int (4 : Int32)), .val (.int (3 : Int32)), .val (.int (f 3))] [(.int (255 : Int32)), (.int (f 3))])) _
    refine XS.icmpYes X111.here hx rfl (pc0 := 20) (pc' := 26) rfl (hb hby d5_20) rfl (flt (hl 3 (by decide) : ¬ ((255 : Int32) < (f 3)))).2.2.2 (by decide) (by decide) ?_
    show Steps p.tables e below (T111.setTop (mkF m 26 #[.val (.ref a1), .val (.int (3 : Int32)), .val (.ref a3), .val (.int (3 : Int32)), .val (.int (4 : Int32)), .val (.int (3 : Int32)), .val (.int (f 3))] [])) _
    refine XS.aloadN X111.here hx rfl (hb hby d5_26) rfl rfl ?_
    show Steps p.tables e below (T111.setTop (mkF m 27 #[.val (.ref a1), .val (.int (3 : Int32)), .val (.ref a3), .val (.int (3 : Int32)), .val (.int (4 : Int32)), .val (.int (3 : Int32)), .val (.int (f 3))] [(.ref a3)])) _
    refine XS.iloadN X111.here hx rfl (hb hby d5_27) rfl ?_
    show Steps p.tables e below (T111.setTop (mkF m 28 #[.val (.ref a1), .val (.int (3 : Int32)), .val (.ref a3), .val (.int (3 : Int32)), .val (.int (4 : Int32)), .val (.int (3 : Int32)), .val (.int (f 3))] [(.int (3 : Int32)), (.ref a3)])) _
    refine XS.iload X111.here hx rfl (hb hby d5_28) rfl ?_
    show Steps p.tables e below (T111.setTop (mkF m 30 #[.val (.ref a1), .val (.int (3 : Int32)), .val (.ref a3), .val (.int (3 : Int32)), .val (.int (4 : Int32)), .val (.int (3 : Int32)), .val (.int (f 3))] [(.int (f 3)), (.int (3 : Int32)), (.ref a3)])) _
    refine XS.i2b X111.here hx rfl (hb hby d5_30) rfl ?_
    show Steps p.tables e below (T111.setTop (mkF m 31 #[.val (.ref a1), .val (.int (3 : Int32)), .val (.ref a3), .val (.int (3 : Int32)), .val (.int (4 : Int32)), .val (.int (3 : Int32)), .val (.int (f 3))] [(.int ((f 3).toInt8.toInt32)), (.int (3 : Int32)), (.ref a3)])) _
    refine st115 _ ?_
    show Steps p.tables e below (T115.setTop (mkF m 32 #[.val (.ref a1), .val (.int (3 : Int32)), .val (.ref a3), .val (.int (3 : Int32)), .val (.int (4 : Int32)), .val (.int (3 : Int32)), .val (.int (f 3))] [])) _
    refine XS.iinc X115.here hx rfl (hb hby d5_32) rfl (l' := #[.val (.ref a1), .val (.int (4 : Int32)), .val (.ref a3), .val (.int (3 : Int32)), .val (.int (4 : Int32)), .val (.int (3 : Int32)), .val (.int (f 3))]) rfl ?_
    show Steps p.tables e below (T115.setTop (mkF m 35 #[.val (.ref a1), .val (.int (4 : Int32)), .val (.ref a3), .val (.int (3 : Int32)), .val (.int (4 : Int32)), .val (.int (3 : Int32)), .val (.int (f 3))] [])) _
    refine XS.iinc X115.here hx rfl (hb hby d5_35) rfl (l' := #[.val (.ref a1), .val (.int (4 : Int32)), .val (.ref a3), .val (.int (4 : Int32)), .val (.int (4 : Int32)), .val (.int (3 : Int32)), .val (.int (f 3))]) rfl ?_
    show Steps p.tables e below (T115.setTop (mkF m 38 #[.val (.ref a1), .val (.int (4 : Int32)), .val (.ref a3), .val (.int (4 : Int32)), .val (.int (4 : Int32)), .val (.int (3 : Int32)), .val (.int (f 3))] [])) _
    refine XS.iinc X115.here hx rfl (hb hby d5_38) rfl (l' := #[.val (.ref a1), .val (.int (4 : Int32)), .val (.ref a3), .val (.int (4 : Int32)), .val (.int (4 : Int32)), .val (.int (4 : Int32)), .val (.int (f 3))]) rfl ?_
    show Steps p.tables e below (T115.setTop (mkF m 41 #[.val (.ref a1), .val (.int (4 : Int32)), .val (.ref a3), .val (.int (4 : Int32)), .val (.int (4 : Int32)), .val (.int (4 : Int32)), .val (.int (f 3))] [])) _
    refine XS.goto X115.here hx rfl (pc0 := 41) (pc' := 3) rfl (hb hby d5_41) (by decide) (by decide) ?_
    show Steps p.tables e below (T115.setTop (mkF m 3 #[.val (.ref a1), .val (.int (4 : Int32)), .val (.ref a3), .val (.int (4 : Int32)), .val (.int (4 : Int32)), .val (.int (4 : Int32)), .val (.int (f 3))] [])) _
    refine XS.iload X115.here hx rfl (hb hby d5_3) rfl ?_
    show Steps p.tables e below (T115.setTop (mkF m 5 #[.val (.ref a1), .val (.int (4 : Int32)), .val (.ref a3), .val (.int (4 : Int32)), .val (.int (4 : Int32)), .val (.int (4 : Int32)), .val (.int (f 3))] [(.int (4 : Int32))])) _
    refine XS.iload X115.here hx rfl (hb hby d5_5) rfl ?_
    show Steps p.tables e below (T115.setTop (mkF m 7 #[.val (.ref a1), .val (.int (4 : Int32)), .val (.ref a3), .val (.int (4 : Int32)), .val (.int (4 : Int32)), .val (.int (4 : Int32)), .val (.int (f 3))] [(.int (4 : Int32)), (.int (4 : Int32))])) _
    refine XS.icmpYes X115.here hx rfl (pc0 := 7) (pc' := 44) rfl (hb hby d5_7) rfl (flt (by decide : ¬ ((4 : Int32) < (4 : Int32)))).2.1 (by decide) (by decide) ?_
    show Steps p.tables e below (T115.setTop (mkF m 44 #[.val (.ref a1), .val (.int (4 : Int32)), .val (.ref a3), .val (.int (4 : Int32)), .val (.int (4 : Int32)), .val (.int (4 : Int32)), .val (.int (f 3))] [])) _
    refine XS.iload X115.here hx rfl (hb hby d5_44) rfl ?_
    show Steps p.tables e below (T115.setTop (mkF m 46 #[.val (.ref a1), .val (.int (4 : Int32)), .val (.ref a3), .val (.int (4 : Int32)), .val (.int (4 : Int32)), .val (.int (4 : Int32)), .val (.int (f 3))] [(.int (4 : Int32))])) _
    exact retI X115 hx Bd.returns (hb hby d5_46) hr
  · show Q5a Z a1 a3 f h0 n0 _ T115.heap _
    rw [e115]
    exact ⟨rfl, N115, K115, (OwnB.mk v115 (by decide))⟩
theorem ef_5b (m : MethodId) (x0 : Addr) (x2 : Addr) : entryFrame m #[(.ref x0), (.int (0 : Int32)), (.ref x2), (.int (0 : Int32)), (.int (4 : Int32))] 7 = mkF m 0 #[.val (.ref x0), .val (.int (0 : Int32)), .val (.ref x2), .val (.int (0 : Int32)), .val (.int (4 : Int32)), .unset, .unset] [] := by first | (simp [entryFrame, mkF, argsToLocals, Value.category]; done) | rfl
theorem d5_23 : decode jdk_52_method_21_code 23 = .ok (.iload 5, 2) := by decide +kernel
theorem d5_25 : decode jdk_52_method_21_code 25 = .ok (.ireturn, 1) := by decide +kernel
def Q5b (Z : State) (a1 : Addr) (a3 : Addr) (f : Nat → Int32) (h0 : Heap) (n0 : Nat) (v : Option Value) (h : Heap) (L : List Loc) : Prop := ∃ r : Int32, v = some (.int r) ∧ Fr n0 L ∧ (Keep h0 h [a3]) ∧ ((255 : Int32) < (f r.toNatClampNeg)) ∧ (own_ix r (4 : Int32))
set_option maxRecDepth 65536 in
set_option maxHeartbeats 40000000 in
theorem rm5b (l : Launch) (Z : State) (a0 : Array Value) (hw : ∀ d ∈ tables_1, d.before a0 Z = true) (ws : List Jvm.Cond) (a1 : Addr) (a3 : Addr) (f : Nat → Int32) (h0 : Heap) (n0 : Nat) (Z0 : n0 ≤ h0.size) (C1 : OwnC Z h0 a1 (4 : Int32) f) (B3 : OwnB Z h0 a3 (4 : Int32) 0 f) (g3 : n0 ≤ a3) (n13 : a1 ≠ a3) (hu : ¬ (own_lat f (4 : Int32))) :
    MetFree l (⟨"java/lang/StringUTF16", "compress", "([CI[BII)I"⟩ : MethodName) (head1 (Jvm.Cond.code (⟨"java/lang/StringUTF16", "compress", "([CI[BII)I"⟩ : MethodName) jdk_52_method_21_code 7 (some .int) :: ws) ({ frames := 0, cells := 0, slots := 0, locals := 0 } : Room)) (fun a U => a = #[(.ref a1), (.int (0 : Int32)), (.ref a3), (.int (0 : Int32)), (.int (4 : Int32))] ∧ Z.Warmed39 U.vm ∧ U.heap = h0) (fun _ _ _ _ _ => True) (fun _ U o U' => ∃ v L, o = .returned v ∧ Q5b Z a1 a3 f h0 n0 v U'.heap L ∧ FrameEnd U o U' L ({ frames := 0, cells := 0, slots := 0, locals := 0 } : Room).cells ({ frames := 0, cells := 0, slots := 0, locals := 0 } : Room).slots) := by
  refine MetFree.of_bodySF (plainFor_of_name pn_2) hisR ?_
  intro p e s m args below meth c s₁ Bd hml0 hP hK
  obtain ⟨rfl, hZ0, hh⟩ := hP
  have hx := Bd.exec
  have hby := Bd.bytes
  have hml : c.maxLocals = 7 := hml0
  have hown0 : s.vm.findClass "java/lang/StringUTF16" = some m.cls := findClass_of_methodNamed Bd.named
  have hnm := (name_of_methodNamed Bd.named Bd.method).1
  have hlk : meth.locks = false := by first | exact BodyLoose.notSynchronized Bd | exact Body.notSynchronized Bd
  have X0 : Stand p l e ({ frames := 0, cells := 0, slots := 0, locals := 0 } : Room) s m #[(.ref a1), (.int (0 : Int32)), (.ref a3), (.int (0 : Int32)), (.int (4 : Int32))] below meth c s₁ [] 0 0 := Stand.of_body Bd
  have e0 : s₁.heap = h0 := by rw [← hh, Bd.state]; rfl
  have N0 := Fr.nil n0
  have pre0 : ∀ t, Steps p.tables e below (s₁.setTop (mkF m 0 #[.val (.ref a1), .val (.int (0 : Int32)), .val (.ref a3), .val (.int (0 : Int32)), .val (.int (4 : Int32)), .unset, .unset] [])) t → Steps p.tables e below (s₁.setTop (entryFrame m #[(.ref a1), (.int (0 : Int32)), (.ref a3), (.int (0 : Int32)), (.int (4 : Int32))] 7)) t := fun t k => castTop (ef_5b m a1 a3) k
  obtain ⟨cl101, Ar101, Sz101, Nn101, Hs101⟩ := (id C1)
  have pr102 : ∀ tg9, Steps p.tables e below (s₁.setTop (mkF m 20 #[.val (.ref a1), .val (.int (0 : Int32)), .val (.ref a3), .val (.int (0 : Int32)), .val (.int (4 : Int32)), .val (.int (0 : Int32)), .val (.int (f 0))] [(.int (255 : Int32)), (.int (f 0))])) tg9 → Steps p.tables e below (s₁.setTop (mkF m 0 #[.val (.ref a1), .val (.int (0 : Int32)), .val (.ref a3), .val (.int (0 : Int32)), .val (.int (4 : Int32)), .unset, .unset] [])) tg9 := fun tg9 kt => by
    show Steps p.tables e below (s₁.setTop (mkF m 0 #[.val (.ref a1), .val (.int (0 : Int32)), .val (.ref a3), .val (.int (0 : Int32)), .val (.int (4 : Int32)), .unset, .unset] [])) _
    refine XS.iconst X0.here hx rfl (hb hby d5_0) ?_
    show Steps p.tables e below (s₁.setTop (mkF m 1 #[.val (.ref a1), .val (.int (0 : Int32)), .val (.ref a3), .val (.int (0 : Int32)), .val (.int (4 : Int32)), .unset, .unset] [(.int (0 : Int32))])) _
    refine XS.istore X0.here hx rfl (hb hby d5_1) rfl (l' := #[.val (.ref a1), .val (.int (0 : Int32)), .val (.ref a3), .val (.int (0 : Int32)), .val (.int (4 : Int32)), .val (.int (0 : Int32)), .unset]) rfl ?_
    show Steps p.tables e below (s₁.setTop (mkF m 3 #[.val (.ref a1), .val (.int (0 : Int32)), .val (.ref a3), .val (.int (0 : Int32)), .val (.int (4 : Int32)), .val (.int (0 : Int32)), .unset] [])) _
    refine XS.iload X0.here hx rfl (hb hby d5_3) rfl ?_
    show Steps p.tables e below (s₁.setTop (mkF m 5 #[.val (.ref a1), .val (.int (0 : Int32)), .val (.ref a3), .val (.int (0 : Int32)), .val (.int (4 : Int32)), .val (.int (0 : Int32)), .unset] [(.int (0 : Int32))])) _
    refine XS.iload X0.here hx rfl (hb hby d5_5) rfl ?_
    show Steps p.tables e below (s₁.setTop (mkF m 7 #[.val (.ref a1), .val (.int (0 : Int32)), .val (.ref a3), .val (.int (0 : Int32)), .val (.int (4 : Int32)), .val (.int (0 : Int32)), .unset] [(.int (4 : Int32)), (.int (0 : Int32))])) _
    refine XS.icmpNo X0.here hx rfl (hb hby d5_7) rfl (tlt (by decide : (0 : Int32) < (4 : Int32))).2.1 ?_
    show Steps p.tables e below (s₁.setTop (mkF m 10 #[.val (.ref a1), .val (.int (0 : Int32)), .val (.ref a3), .val (.int (0 : Int32)), .val (.int (4 : Int32)), .val (.int (0 : Int32)), .unset] [])) _
    refine XS.aloadN X0.here hx rfl (hb hby d5_10) rfl rfl ?_
    show Steps p.tables e below (s₁.setTop (mkF m 11 #[.val (.ref a1), .val (.int (0 : Int32)), .val (.ref a3), .val (.int (0 : Int32)), .val (.int (4 : Int32)), .val (.int (0 : Int32)), .unset] [(.ref a1)])) _
    refine XS.iloadN X0.here hx rfl (hb hby d5_11) rfl ?_
    show Steps p.tables e below (s₁.setTop (mkF m 12 #[.val (.ref a1), .val (.int (0 : Int32)), .val (.ref a3), .val (.int (0 : Int32)), .val (.int (4 : Int32)), .val (.int (0 : Int32)), .unset] [(.int (0 : Int32)), (.ref a1)])) _
    refine X0.caload hx (j := (0 : Int32)) (v := (.int (f 0))) (by rw [e0]; exact Ar101.1) (State.isArrayOf_alike hZ0.alike Ar101.2.1) Ar101.2.2 (inb_of Sz101 ⟨by decide, by decide⟩) (Hs101 0 (by decide)) (g := (mkF m 12 #[.val (.ref a1), .val (.int (0 : Int32)), .val (.ref a3), .val (.int (0 : Int32)), .val (.int (4 : Int32)), .val (.int (0 : Int32)), .unset] [(.int (0 : Int32)), (.ref a1)])) rfl rfl (hb hby d5_12) _ ?_
    show Steps p.tables e below (s₁.setTop (mkF m 13 #[.val (.ref a1), .val (.int (0 : Int32)), .val (.ref a3), .val (.int (0 : Int32)), .val (.int (4 : Int32)), .val (.int (0 : Int32)), .unset] [(.int (f 0))])) _
    refine XS.istore X0.here hx rfl (hb hby d5_13) rfl (l' := #[.val (.ref a1), .val (.int (0 : Int32)), .val (.ref a3), .val (.int (0 : Int32)), .val (.int (4 : Int32)), .val (.int (0 : Int32)), .val (.int (f 0))]) rfl ?_
    show Steps p.tables e below (s₁.setTop (mkF m 15 #[.val (.ref a1), .val (.int (0 : Int32)), .val (.ref a3), .val (.int (0 : Int32)), .val (.int (4 : Int32)), .val (.int (0 : Int32)), .val (.int (f 0))] [])) _
    refine XS.iload X0.here hx rfl (hb hby d5_15) rfl ?_
    show Steps p.tables e below (s₁.setTop (mkF m 17 #[.val (.ref a1), .val (.int (0 : Int32)), .val (.ref a3), .val (.int (0 : Int32)), .val (.int (4 : Int32)), .val (.int (0 : Int32)), .val (.int (f 0))] [(.int (f 0))])) _
    refine XS.sipush X0.here hx rfl (hb hby d5_17) ?_
    exact kt
  by_cases hc103 : (255 : Int32) < (f 0)
  · obtain ⟨fs, hr, hrun, hended, hW, hsame⟩ := X0.leave (v := some (.int (0 : Int32))) (fun h => by rw [Bd.returns] at h; cases h) hlk
    refine ⟨_, _, pre0 _ ?_, hrun, hended, _, _, rfl, ?_, ⟨_, rfl⟩, hW, hsame.mono (by decide) (by decide)⟩
    · refine pr102 _ ?_
      show Steps p.tables e below (s₁.setTop (mkF m 20 #[.val (.ref a1), .val (.int (0 : Int32)), .val (.ref a3), .val (.int (0 : Int32)), .val (.int (4 : Int32)), .val (.int (0 : Int32)), .val (.int (f 0))] [(.int (255 : Int32)), (.int (f 0))])) _
      refine XS.icmpNo X0.here hx rfl (hb hby d5_20) rfl (tlt hc103).2.2.2 ?_
      show Steps p.tables e below (s₁.setTop (mkF m 23 #[.val (.ref a1), .val (.int (0 : Int32)), .val (.ref a3), .val (.int (0 : Int32)), .val (.int (4 : Int32)), .val (.int (0 : Int32)), .val (.int (f 0))] [])) _
      refine XS.iload X0.here hx rfl (hb hby d5_23) rfl ?_
      show Steps p.tables e below (s₁.setTop (mkF m 25 #[.val (.ref a1), .val (.int (0 : Int32)), .val (.ref a3), .val (.int (0 : Int32)), .val (.int (4 : Int32)), .val (.int (0 : Int32)), .val (.int (f 0))] [(.int (0 : Int32))])) _
      exact retI X0 hx Bd.returns (hb hby d5_25) hr
    · show Q5b Z a1 a3 f h0 n0 _ s₁.heap _
      rw [e0]
      exact ⟨(0 : Int32), rfl, N0, (Keep.refl h0 [a3]), (show (255 : Int32) < f 0 from hc103), ⟨by decide, by decide⟩⟩
  · obtain ⟨cl104, Ar104, Sz104, Nn104, Hs104⟩ := (id B3)
    obtain ⟨T105, h105, X105, e105, W105, st105⟩ := stB X0 hx hZ0 e0 Ar104 (j := (0 : Int32)) (inb_of Sz104 ⟨by decide, by decide⟩) (g := (mkF m 31 #[.val (.ref a1), .val (.int (0 : Int32)), .val (.ref a3), .val (.int (0 : Int32)), .val (.int (4 : Int32)), .val (.int (0 : Int32)), .val (.int (f 0))] [(.int ((f 0).toInt8.toInt32)), (.int (0 : Int32)), (.ref a3)])) rfl rfl (hb hby d5_31)
    have f106 : OwnC Z h105 a1 (4 : Int32) f := OwnC.other C1 W105 n13
    have Zs105 : n0 ≤ h105.size := Nat.le_trans Z0 (Keep.of_wr W105).1
    have N105 := Fr.snoc X105 N0 g3
    have K105 : Keep h0 h105 [a3] := (Keep.refl h0 [a3]).wr W105 (Or.inl (List.mem_of_getElem? (i := 0) rfl))
    have v105 : OwnB Z h105 a3 (4 : Int32) 1 f := (OwnB.put Ar104 Sz104 Nn104 Hs104 (inb_of Sz104 ⟨by decide, by decide⟩) W105 (by decide) rfl)
    obtain ⟨cl107, Ar107, Sz107, Nn107, Hs107⟩ := (id f106)
    have pr108 : ∀ tg9, Steps p.tables e below (T105.setTop (mkF m 20 #[.val (.ref a1), .val (.int (1 : Int32)), .val (.ref a3), .val (.int (1 : Int32)), .val (.int (4 : Int32)), .val (.int (1 : Int32)), .val (.int (f 1))] [(.int (255 : Int32)), (.int (f 1))])) tg9 → Steps p.tables e below (s₁.setTop (mkF m 0 #[.val (.ref a1), .val (.int (0 : Int32)), .val (.ref a3), .val (.int (0 : Int32)), .val (.int (4 : Int32)), .unset, .unset] [])) tg9 := fun tg9 kt => by
      refine pr102 _ ?_
      show Steps p.tables e below (s₁.setTop (mkF m 20 #[.val (.ref a1), .val (.int (0 : Int32)), .val (.ref a3), .val (.int (0 : Int32)), .val (.int (4 : Int32)), .val (.int (0 : Int32)), .val (.int (f 0))] [(.int (255 : Int32)), (.int (f 0))])) _
      refine XS.icmpYes X0.here hx rfl (pc0 := 20) (pc' := 26) rfl (hb hby d5_20) rfl (flt hc103).2.2.2 (by decide) (by decide) ?_
      show Steps p.tables e below (s₁.setTop (mkF m 26 #[.val (.ref a1), .val (.int (0 : Int32)), .val (.ref a3), .val (.int (0 : Int32)), .val (.int (4 : Int32)), .val (.int (0 : Int32)), .val (.int (f 0))] [])) _
      refine XS.aloadN X0.here hx rfl (hb hby d5_26) rfl rfl ?_
      show Steps p.tables e below (s₁.setTop (mkF m 27 #[.val (.ref a1), .val (.int (0 : Int32)), .val (.ref a3), .val (.int (0 : Int32)), .val (.int (4 : Int32)), .val (.int (0 : Int32)), .val (.int (f 0))] [(.ref a3)])) _
      refine XS.iloadN X0.here hx rfl (hb hby d5_27) rfl ?_
      show Steps p.tables e below (s₁.setTop (mkF m 28 #[.val (.ref a1), .val (.int (0 : Int32)), .val (.ref a3), .val (.int (0 : Int32)), .val (.int (4 : Int32)), .val (.int (0 : Int32)), .val (.int (f 0))] [(.int (0 : Int32)), (.ref a3)])) _
      refine XS.iload X0.here hx rfl (hb hby d5_28) rfl ?_
      show Steps p.tables e below (s₁.setTop (mkF m 30 #[.val (.ref a1), .val (.int (0 : Int32)), .val (.ref a3), .val (.int (0 : Int32)), .val (.int (4 : Int32)), .val (.int (0 : Int32)), .val (.int (f 0))] [(.int (f 0)), (.int (0 : Int32)), (.ref a3)])) _
      refine XS.i2b X0.here hx rfl (hb hby d5_30) rfl ?_
      show Steps p.tables e below (s₁.setTop (mkF m 31 #[.val (.ref a1), .val (.int (0 : Int32)), .val (.ref a3), .val (.int (0 : Int32)), .val (.int (4 : Int32)), .val (.int (0 : Int32)), .val (.int (f 0))] [(.int ((f 0).toInt8.toInt32)), (.int (0 : Int32)), (.ref a3)])) _
      refine st105 _ ?_
      show Steps p.tables e below (T105.setTop (mkF m 32 #[.val (.ref a1), .val (.int (0 : Int32)), .val (.ref a3), .val (.int (0 : Int32)), .val (.int (4 : Int32)), .val (.int (0 : Int32)), .val (.int (f 0))] [])) _
      refine XS.iinc X105.here hx rfl (hb hby d5_32) rfl (l' := #[.val (.ref a1), .val (.int (1 : Int32)), .val (.ref a3), .val (.int (0 : Int32)), .val (.int (4 : Int32)), .val (.int (0 : Int32)), .val (.int (f 0))]) rfl ?_
      show Steps p.tables e below (T105.setTop (mkF m 35 #[.val (.ref a1), .val (.int (1 : Int32)), .val (.ref a3), .val (.int (0 : Int32)), .val (.int (4 : Int32)), .val (.int (0 : Int32)), .val (.int (f 0))] [])) _
      refine XS.iinc X105.here hx rfl (hb hby d5_35) rfl (l' := #[.val (.ref a1), .val (.int (1 : Int32)), .val (.ref a3), .val (.int (1 : Int32)), .val (.int (4 : Int32)), .val (.int (0 : Int32)), .val (.int (f 0))]) rfl ?_
      show Steps p.tables e below (T105.setTop (mkF m 38 #[.val (.ref a1), .val (.int (1 : Int32)), .val (.ref a3), .val (.int (1 : Int32)), .val (.int (4 : Int32)), .val (.int (0 : Int32)), .val (.int (f 0))] [])) _
      refine XS.iinc X105.here hx rfl (hb hby d5_38) rfl (l' := #[.val (.ref a1), .val (.int (1 : Int32)), .val (.ref a3), .val (.int (1 : Int32)), .val (.int (4 : Int32)), .val (.int (1 : Int32)), .val (.int (f 0))]) rfl ?_
      show Steps p.tables e below (T105.setTop (mkF m 41 #[.val (.ref a1), .val (.int (1 : Int32)), .val (.ref a3), .val (.int (1 : Int32)), .val (.int (4 : Int32)), .val (.int (1 : Int32)), .val (.int (f 0))] [])) _
      refine XS.goto X105.here hx rfl (pc0 := 41) (pc' := 3) rfl (hb hby d5_41) (by decide) (by decide) ?_
      show Steps p.tables e below (T105.setTop (mkF m 3 #[.val (.ref a1), .val (.int (1 : Int32)), .val (.ref a3), .val (.int (1 : Int32)), .val (.int (4 : Int32)), .val (.int (1 : Int32)), .val (.int (f 0))] [])) _
      refine XS.iload X105.here hx rfl (hb hby d5_3) rfl ?_
      show Steps p.tables e below (T105.setTop (mkF m 5 #[.val (.ref a1), .val (.int (1 : Int32)), .val (.ref a3), .val (.int (1 : Int32)), .val (.int (4 : Int32)), .val (.int (1 : Int32)), .val (.int (f 0))] [(.int (1 : Int32))])) _
      refine XS.iload X105.here hx rfl (hb hby d5_5) rfl ?_
      show Steps p.tables e below (T105.setTop (mkF m 7 #[.val (.ref a1), .val (.int (1 : Int32)), .val (.ref a3), .val (.int (1 : Int32)), .val (.int (4 : Int32)), .val (.int (1 : Int32)), .val (.int (f 0))] [(.int (4 : Int32)), (.int (1 : Int32))])) _
      refine XS.icmpNo X105.here hx rfl (hb hby d5_7) rfl (tlt (by decide : (1 : Int32) < (4 : Int32))).2.1 ?_
      show Steps p.tables e below (T105.setTop (mkF m 10 #[.val (.ref a1), .val (.int (1 : Int32)), .val (.ref a3), .val (.int (1 : Int32)), .val (.int (4 : Int32)), .val (.int (1 : Int32)), .val (.int (f 0))] [])) _
      refine XS.aloadN X105.here hx rfl (hb hby d5_10) rfl rfl ?_
      show Steps p.tables e below (T105.setTop (mkF m 11 #[.val (.ref a1), .val (.int (1 : Int32)), .val (.ref a3), .val (.int (1 : Int32)), .val (.int (4 : Int32)), .val (.int (1 : Int32)), .val (.int (f 0))] [(.ref a1)])) _
      refine XS.iloadN X105.here hx rfl (hb hby d5_11) rfl ?_
      show Steps p.tables e below (T105.setTop (mkF m 12 #[.val (.ref a1), .val (.int (1 : Int32)), .val (.ref a3), .val (.int (1 : Int32)), .val (.int (4 : Int32)), .val (.int (1 : Int32)), .val (.int (f 0))] [(.int (1 : Int32)), (.ref a1)])) _
      refine X105.caload hx (j := (1 : Int32)) (v := (.int (f 1))) (by rw [e105]; exact Ar107.1) (State.isArrayOf_alike hZ0.alike Ar107.2.1) Ar107.2.2 (inb_of Sz107 ⟨by decide, by decide⟩) (Hs107 1 (by decide)) (g := (mkF m 12 #[.val (.ref a1), .val (.int (1 : Int32)), .val (.ref a3), .val (.int (1 : Int32)), .val (.int (4 : Int32)), .val (.int (1 : Int32)), .val (.int (f 0))] [(.int (1 : Int32)), (.ref a1)])) rfl rfl (hb hby d5_12) _ ?_
      show Steps p.tables e below (T105.setTop (mkF m 13 #[.val (.ref a1), .val (.int (1 : Int32)), .val (.ref a3), .val (.int (1 : Int32)), .val (.int (4 : Int32)), .val (.int (1 : Int32)), .val (.int (f 0))] [(.int (f 1))])) _
      refine XS.istore X105.here hx rfl (hb hby d5_13) rfl (l' := #[.val (.ref a1), .val (.int (1 : Int32)), .val (.ref a3), .val (.int (1 : Int32)), .val (.int (4 : Int32)), .val (.int (1 : Int32)), .val (.int (f 1))]) rfl ?_
      show Steps p.tables e below (T105.setTop (mkF m 15 #[.val (.ref a1), .val (.int (1 : Int32)), .val (.ref a3), .val (.int (1 : Int32)), .val (.int (4 : Int32)), .val (.int (1 : Int32)), .val (.int (f 1))] [])) _
      refine XS.iload X105.here hx rfl (hb hby d5_15) rfl ?_
      show Steps p.tables e below (T105.setTop (mkF m 17 #[.val (.ref a1), .val (.int (1 : Int32)), .val (.ref a3), .val (.int (1 : Int32)), .val (.int (4 : Int32)), .val (.int (1 : Int32)), .val (.int (f 1))] [(.int (f 1))])) _
      refine XS.sipush X105.here hx rfl (hb hby d5_17) ?_
      exact kt
    by_cases hc109 : (255 : Int32) < (f 1)
    · obtain ⟨fs, hr, hrun, hended, hW, hsame⟩ := X105.leave (v := some (.int (1 : Int32))) (fun h => by rw [Bd.returns] at h; cases h) hlk
      refine ⟨_, _, pre0 _ ?_, hrun, hended, _, _, rfl, ?_, ⟨_, rfl⟩, hW, hsame.mono (by decide) (by decide)⟩
      · refine pr108 _ ?_
        show Steps p.tables e below (T105.setTop (mkF m 20 #[.val (.ref a1), .val (.int (1 : Int32)), .val (.ref a3), .val (.int (1 : Int32)), .val (.int (4 : Int32)), .val (.int (1 : Int32)), .val (.int (f 1))] [(.int (255 : Int32)), (.int (f 1))])) _
        refine XS.icmpNo X105.here hx rfl (hb hby d5_20) rfl (tlt hc109).2.2.2 ?_
        show Steps p.tables e below (T105.setTop (mkF m 23 #[.val (.ref a1), .val (.int (1 : Int32)), .val (.ref a3), .val (.int (1 : Int32)), .val (.int (4 : Int32)), .val (.int (1 : Int32)), .val (.int (f 1))] [])) _
        refine XS.iload X105.here hx rfl (hb hby d5_23) rfl ?_
        show Steps p.tables e below (T105.setTop (mkF m 25 #[.val (.ref a1), .val (.int (1 : Int32)), .val (.ref a3), .val (.int (1 : Int32)), .val (.int (4 : Int32)), .val (.int (1 : Int32)), .val (.int (f 1))] [(.int (1 : Int32))])) _
        exact retI X105 hx Bd.returns (hb hby d5_25) hr
      · show Q5b Z a1 a3 f h0 n0 _ T105.heap _
        rw [e105]
        exact ⟨(1 : Int32), rfl, N105, K105, (show (255 : Int32) < f 1 from hc109), ⟨by decide, by decide⟩⟩
    · obtain ⟨cl110, Ar110, Sz110, Nn110, Hs110⟩ := (id v105)
      obtain ⟨T111, h111, X111, e111, W111, st111⟩ := stB X105 hx hZ0 e105 Ar110 (j := (1 : Int32)) (inb_of Sz110 ⟨by decide, by decide⟩) (g := (mkF m 31 #[.val (.ref a1), .val (.int (1 : Int32)), .val (.ref a3), .val (.int (1 : Int32)), .val (.int (4 : Int32)), .val (.int (1 : Int32)), .val (.int (f 1))] [(.int ((f 1).toInt8.toInt32)), (.int (1 : Int32)), (.ref a3)])) rfl rfl (hb hby d5_31)
      have f112 : OwnC Z h111 a1 (4 : Int32) f := OwnC.other f106 W111 n13
      have Zs111 : n0 ≤ h111.size := Nat.le_trans Zs105 (Keep.of_wr W111).1
      have N111 := Fr.snoc X111 N105 g3
      have K111 : Keep h0 h111 [a3] := K105.wr W111 (Or.inl (List.mem_of_getElem? (i := 0) rfl))
      have v111 : OwnB Z h111 a3 (4 : Int32) 2 f := (OwnB.put Ar110 Sz110 Nn110 Hs110 (inb_of Sz110 ⟨by decide, by decide⟩) W111 (by decide) rfl)
      obtain ⟨cl113, Ar113, Sz113, Nn113, Hs113⟩ := (id f112)
      have pr114 : ∀ tg9, Steps p.tables e below (T111.setTop (mkF m 20 #[.val (.ref a1), .val (.int (2 : Int32)), .val (.ref a3), .val (.int (2 : Int32)), .val (.int (4 : Int32)), .val (.int (2 : Int32)), .val (.int (f 2))] [(.int (255 : Int32)), (.int (f 2))])) tg9 → Steps p.tables e below (s₁.setTop (mkF m 0 #[.val (.ref a1), .val (.int (0 : Int32)), .val (.ref a3), .val (.int (0 : Int32)), .val (.int (4 : Int32)), .unset, .unset] [])) tg9 := fun tg9 kt => by
        refine pr108 _ ?_
        show Steps p.tables e below (T105.setTop (mkF m 20 #[.val (.ref a1), .val (.int (1 : Int32)), .val (.ref a3), .val (.int (1 : Int32)), .val (.int (4 : Int32)), .val (.int (1 : Int32)), .val (.int (f 1))] [(.int (255 : Int32)), (.int (f 1))])) _
        refine XS.icmpYes X105.here hx rfl (pc0 := 20) (pc' := 26) rfl (hb hby d5_20) rfl (flt hc109).2.2.2 (by decide) (by decide) ?_
        show Steps p.tables e below (T105.setTop (mkF m 26 #[.val (.ref a1), .val (.int (1 : Int32)), .val (.ref a3), .val (.int (1 : Int32)), .val (.int (4 : Int32)), .val (.int (1 : Int32)), .val (.int (f 1))] [])) _
        refine XS.aloadN X105.here hx rfl (hb hby d5_26) rfl rfl ?_
        show Steps p.tables e below (T105.setTop (mkF m 27 #[.val (.ref a1), .val (.int (1 : Int32)), .val (.ref a3), .val (.int (1 : Int32)), .val (.int (4 : Int32)), .val (.int (1 : Int32)), .val (.int (f 1))] [(.ref a3)])) _
        refine XS.iloadN X105.here hx rfl (hb hby d5_27) rfl ?_
        show Steps p.tables e below (T105.setTop (mkF m 28 #[.val (.ref a1), .val (.int (1 : Int32)), .val (.ref a3), .val (.int (1 : Int32)), .val (.int (4 : Int32)), .val (.int (1 : Int32)), .val (.int (f 1))] [(.int (1 : Int32)), (.ref a3)])) _
        refine XS.iload X105.here hx rfl (hb hby d5_28) rfl ?_
        show Steps p.tables e below (T105.setTop (mkF m 30 #[.val (.ref a1), .val (.int (1 : Int32)), .val (.ref a3), .val (.int (1 : Int32)), .val (.int (4 : Int32)), .val (.int (1 : Int32)), .val (.int (f 1))] [(.int (f 1)), (.int (1 : Int32)), (.ref a3)])) _
        refine XS.i2b X105.here hx rfl (hb hby d5_30) rfl ?_
        show Steps p.tables e below (T105.setTop (mkF m 31 #[.val (.ref a1), .val (.int (1 : Int32)), .val (.ref a3), .val (.int (1 : Int32)), .val (.int (4 : Int32)), .val (.int (1 : Int32)), .val (.int (f 1))] [(.int ((f 1).toInt8.toInt32)), (.int (1 : Int32)), (.ref a3)])) _
        refine st111 _ ?_
        show Steps p.tables e below (T111.setTop (mkF m 32 #[.val (.ref a1), .val (.int (1 : Int32)), .val (.ref a3), .val (.int (1 : Int32)), .val (.int (4 : Int32)), .val (.int (1 : Int32)), .val (.int (f 1))] [])) _
        refine XS.iinc X111.here hx rfl (hb hby d5_32) rfl (l' := #[.val (.ref a1), .val (.int (2 : Int32)), .val (.ref a3), .val (.int (1 : Int32)), .val (.int (4 : Int32)), .val (.int (1 : Int32)), .val (.int (f 1))]) rfl ?_
        show Steps p.tables e below (T111.setTop (mkF m 35 #[.val (.ref a1), .val (.int (2 : Int32)), .val (.ref a3), .val (.int (1 : Int32)), .val (.int (4 : Int32)), .val (.int (1 : Int32)), .val (.int (f 1))] [])) _
        refine XS.iinc X111.here hx rfl (hb hby d5_35) rfl (l' := #[.val (.ref a1), .val (.int (2 : Int32)), .val (.ref a3), .val (.int (2 : Int32)), .val (.int (4 : Int32)), .val (.int (1 : Int32)), .val (.int (f 1))]) rfl ?_
        show Steps p.tables e below (T111.setTop (mkF m 38 #[.val (.ref a1), .val (.int (2 : Int32)), .val (.ref a3), .val (.int (2 : Int32)), .val (.int (4 : Int32)), .val (.int (1 : Int32)), .val (.int (f 1))] [])) _
        refine XS.iinc X111.here hx rfl (hb hby d5_38) rfl (l' := #[.val (.ref a1), .val (.int (2 : Int32)), .val (.ref a3), .val (.int (2 : Int32)), .val (.int (4 : Int32)), .val (.int (2 : Int32)), .val (.int (f 1))]) rfl ?_
        show Steps p.tables e below (T111.setTop (mkF m 41 #[.val (.ref a1), .val (.int (2 : Int32)), .val (.ref a3), .val (.int (2 : Int32)), .val (.int (4 : Int32)), .val (.int (2 : Int32)), .val (.int (f 1))] [])) _
        refine XS.goto X111.here hx rfl (pc0 := 41) (pc' := 3) rfl (hb hby d5_41) (by decide) (by decide) ?_
        show Steps p.tables e below (T111.setTop (mkF m 3 #[.val (.ref a1), .val (.int (2 : Int32)), .val (.ref a3), .val (.int (2 : Int32)), .val (.int (4 : Int32)), .val (.int (2 : Int32)), .val (.int (f 1))] [])) _
        refine XS.iload X111.here hx rfl (hb hby d5_3) rfl ?_
        show Steps p.tables e below (T111.setTop (mkF m 5 #[.val (.ref a1), .val (.int (2 : Int32)), .val (.ref a3), .val (.int (2 : Int32)), .val (.int (4 : Int32)), .val (.int (2 : Int32)), .val (.int (f 1))] [(.int (2 : Int32))])) _
        refine XS.iload X111.here hx rfl (hb hby d5_5) rfl ?_
        show Steps p.tables e below (T111.setTop (mkF m 7 #[.val (.ref a1), .val (.int (2 : Int32)), .val (.ref a3), .val (.int (2 : Int32)), .val (.int (4 : Int32)), .val (.int (2 : Int32)), .val (.int (f 1))] [(.int (4 : Int32)), (.int (2 : Int32))])) _
        refine XS.icmpNo X111.here hx rfl (hb hby d5_7) rfl (tlt (by decide : (2 : Int32) < (4 : Int32))).2.1 ?_
        show Steps p.tables e below (T111.setTop (mkF m 10 #[.val (.ref a1), .val (.int (2 : Int32)), .val (.ref a3), .val (.int (2 : Int32)), .val (.int (4 : Int32)), .val (.int (2 : Int32)), .val (.int (f 1))] [])) _
        refine XS.aloadN X111.here hx rfl (hb hby d5_10) rfl rfl ?_
        show Steps p.tables e below (T111.setTop (mkF m 11 #[.val (.ref a1), .val (.int (2 : Int32)), .val (.ref a3), .val (.int (2 : Int32)), .val (.int (4 : Int32)), .val (.int (2 : Int32)), .val (.int (f 1))] [(.ref a1)])) _
        refine XS.iloadN X111.here hx rfl (hb hby d5_11) rfl ?_
        show Steps p.tables e below (T111.setTop (mkF m 12 #[.val (.ref a1), .val (.int (2 : Int32)), .val (.ref a3), .val (.int (2 : Int32)), .val (.int (4 : Int32)), .val (.int (2 : Int32)), .val (.int (f 1))] [(.int (2 : Int32)), (.ref a1)])) _
        refine X111.caload hx (j := (2 : Int32)) (v := (.int (f 2))) (by rw [e111]; exact Ar113.1) (State.isArrayOf_alike hZ0.alike Ar113.2.1) Ar113.2.2 (inb_of Sz113 ⟨by decide, by decide⟩) (Hs113 2 (by decide)) (g := (mkF m 12 #[.val (.ref a1), .val (.int (2 : Int32)), .val (.ref a3), .val (.int (2 : Int32)), .val (.int (4 : Int32)), .val (.int (2 : Int32)), .val (.int (f 1))] [(.int (2 : Int32)), (.ref a1)])) rfl rfl (hb hby d5_12) _ ?_
        show Steps p.tables e below (T111.setTop (mkF m 13 #[.val (.ref a1), .val (.int (2 : Int32)), .val (.ref a3), .val (.int (2 : Int32)), .val (.int (4 : Int32)), .val (.int (2 : Int32)), .val (.int (f 1))] [(.int (f 2))])) _
        refine XS.istore X111.here hx rfl (hb hby d5_13) rfl (l' := #[.val (.ref a1), .val (.int (2 : Int32)), .val (.ref a3), .val (.int (2 : Int32)), .val (.int (4 : Int32)), .val (.int (2 : Int32)), .val (.int (f 2))]) rfl ?_
        show Steps p.tables e below (T111.setTop (mkF m 15 #[.val (.ref a1), .val (.int (2 : Int32)), .val (.ref a3), .val (.int (2 : Int32)), .val (.int (4 : Int32)), .val (.int (2 : Int32)), .val (.int (f 2))] [])) _
        refine XS.iload X111.here hx rfl (hb hby d5_15) rfl ?_
        show Steps p.tables e below (T111.setTop (mkF m 17 #[.val (.ref a1), .val (.int (2 : Int32)), .val (.ref a3), .val (.int (2 : Int32)), .val (.int (4 : Int32)), .val (.int (2 : Int32)), .val (.int (f 2))] [(.int (f 2))])) _
        refine XS.sipush X111.here hx rfl (hb hby d5_17) ?_
        exact kt
      by_cases hc115 : (255 : Int32) < (f 2)
      · obtain ⟨fs, hr, hrun, hended, hW, hsame⟩ := X111.leave (v := some (.int (2 : Int32))) (fun h => by rw [Bd.returns] at h; cases h) hlk
        refine ⟨_, _, pre0 _ ?_, hrun, hended, _, _, rfl, ?_, ⟨_, rfl⟩, hW, hsame.mono (by decide) (by decide)⟩
        · refine pr114 _ ?_
          show Steps p.tables e below (T111.setTop (mkF m 20 #[.val (.ref a1), .val (.int (2 : Int32)), .val (.ref a3), .val (.int (2 : Int32)), .val (.int (4 : Int32)), .val (.int (2 : Int32)), .val (.int (f 2))] [(.int (255 : Int32)), (.int (f 2))])) _
          refine XS.icmpNo X111.here hx rfl (hb hby d5_20) rfl (tlt hc115).2.2.2 ?_
          show Steps p.tables e below (T111.setTop (mkF m 23 #[.val (.ref a1), .val (.int (2 : Int32)), .val (.ref a3), .val (.int (2 : Int32)), .val (.int (4 : Int32)), .val (.int (2 : Int32)), .val (.int (f 2))] [])) _
          refine XS.iload X111.here hx rfl (hb hby d5_23) rfl ?_
          show Steps p.tables e below (T111.setTop (mkF m 25 #[.val (.ref a1), .val (.int (2 : Int32)), .val (.ref a3), .val (.int (2 : Int32)), .val (.int (4 : Int32)), .val (.int (2 : Int32)), .val (.int (f 2))] [(.int (2 : Int32))])) _
          exact retI X111 hx Bd.returns (hb hby d5_25) hr
        · show Q5b Z a1 a3 f h0 n0 _ T111.heap _
          rw [e111]
          exact ⟨(2 : Int32), rfl, N111, K111, (show (255 : Int32) < f 2 from hc115), ⟨by decide, by decide⟩⟩
      · obtain ⟨cl116, Ar116, Sz116, Nn116, Hs116⟩ := (id v111)
        obtain ⟨T117, h117, X117, e117, W117, st117⟩ := stB X111 hx hZ0 e111 Ar116 (j := (2 : Int32)) (inb_of Sz116 ⟨by decide, by decide⟩) (g := (mkF m 31 #[.val (.ref a1), .val (.int (2 : Int32)), .val (.ref a3), .val (.int (2 : Int32)), .val (.int (4 : Int32)), .val (.int (2 : Int32)), .val (.int (f 2))] [(.int ((f 2).toInt8.toInt32)), (.int (2 : Int32)), (.ref a3)])) rfl rfl (hb hby d5_31)
        have f118 : OwnC Z h117 a1 (4 : Int32) f := OwnC.other f112 W117 n13
        have Zs117 : n0 ≤ h117.size := Nat.le_trans Zs111 (Keep.of_wr W117).1
        have N117 := Fr.snoc X117 N111 g3
        have K117 : Keep h0 h117 [a3] := K111.wr W117 (Or.inl (List.mem_of_getElem? (i := 0) rfl))
        have v117 : OwnB Z h117 a3 (4 : Int32) 3 f := (OwnB.put Ar116 Sz116 Nn116 Hs116 (inb_of Sz116 ⟨by decide, by decide⟩) W117 (by decide) rfl)
        obtain ⟨cl119, Ar119, Sz119, Nn119, Hs119⟩ := (id f118)
        obtain ⟨fs, hr, hrun, hended, hW, hsame⟩ := X117.leave (v := some (.int (3 : Int32))) (fun h => by rw [Bd.returns] at h; cases h) hlk
        refine ⟨_, _, pre0 _ ?_, hrun, hended, _, _, rfl, ?_, ⟨_, rfl⟩, hW, hsame.mono (by decide) (by decide)⟩
        · refine pr114 _ ?_
          show Steps p.tables e below (T111.setTop (mkF m 20 #[.val (.ref a1), .val (.int (2 : Int32)), .val (.ref a3), .val (.int (2 : Int32)), .val (.int (4 : Int32)), .val (.int (2 : Int32)), .val (.int (f 2))] [(.int (255 : Int32)), (.int (f 2))])) _
          refine XS.icmpYes X111.here hx rfl (pc0 := 20) (pc' := 26) rfl (hb hby d5_20) rfl (flt hc115).2.2.2 (by decide) (by decide) ?_
          show Steps p.tables e below (T111.setTop (mkF m 26 #[.val (.ref a1), .val (.int (2 : Int32)), .val (.ref a3), .val (.int (2 : Int32)), .val (.int (4 : Int32)), .val (.int (2 : Int32)), .val (.int (f 2))] [])) _
          refine XS.aloadN X111.here hx rfl (hb hby d5_26) rfl rfl ?_
          show Steps p.tables e below (T111.setTop (mkF m 27 #[.val (.ref a1), .val (.int (2 : Int32)), .val (.ref a3), .val (.int (2 : Int32)), .val (.int (4 : Int32)), .val (.int (2 : Int32)), .val (.int (f 2))] [(.ref a3)])) _
          refine XS.iloadN X111.here hx rfl (hb hby d5_27) rfl ?_
          show Steps p.tables e below (T111.setTop (mkF m 28 #[.val (.ref a1), .val (.int (2 : Int32)), .val (.ref a3), .val (.int (2 : Int32)), .val (.int (4 : Int32)), .val (.int (2 : Int32)), .val (.int (f 2))] [(.int (2 : Int32)), (.ref a3)])) _
          refine XS.iload X111.here hx rfl (hb hby d5_28) rfl ?_
          show Steps p.tables e below (T111.setTop (mkF m 30 #[.val (.ref a1), .val (.int (2 : Int32)), .val (.ref a3), .val (.int (2 : Int32)), .val (.int (4 : Int32)), .val (.int (2 : Int32)), .val (.int (f 2))] [(.int (f 2)), (.int (2 : Int32)), (.ref a3)])) _
          refine XS.i2b X111.here hx rfl (hb hby d5_30) rfl ?_
          show Steps p.tables e below (T111.setTop (mkF m 31 #[.val (.ref a1), .val (.int (2 : Int32)), .val (.ref a3), .val (.int (2 : Int32)), .val (.int (4 : Int32)), .val (.int (2 : Int32)), .val (.int (f 2))] [(.int ((f 2).toInt8.toInt32)), (.int (2 : Int32)), (.ref a3)])) _
          refine st117 _ ?_
          show Steps p.tables e below (T117.setTop (mkF m 32 #[.val (.ref a1), .val (.int (2 : Int32)), .val (.ref a3), .val (.int (2 : Int32)), .val (.int (4 : Int32)), .val (.int (2 : Int32)), .val (.int (f 2))] [])) _
          refine XS.iinc X117.here hx rfl (hb hby d5_32) rfl (l' := #[.val (.ref a1), .val (.int (3 : Int32)), .val (.ref a3), .val (.int (2 : Int32)), .val (.int (4 : Int32)), .val (.int (2 : Int32)), .val (.int (f 2))]) rfl ?_
          show Steps p.tables e below (T117.setTop (mkF m 35 #[.val (.ref a1), .val (.int (3 : Int32)), .val (.ref a3), .val (.int (2 : Int32)), .val (.int (4 : Int32)), .val (.int (2 : Int32)), .val (.int (f 2))] [])) _
          refine XS.iinc X117.here hx rfl (hb hby d5_35) rfl (l' := #[.val (.ref a1), .val (.int (3 : Int32)), .val (.ref a3), .val (.int (3 : Int32)), .val (.int (4 : Int32)), .val (.int (2 : Int32)), .val (.int (f 2))]) rfl ?_
          show Steps p.tables e below (T117.setTop (mkF m 38 #[.val (.ref a1), .val (.int (3 : Int32)), .val (.ref a3), .val (.int (3 : Int32)), .val (.int (4 : Int32)), .val (.int (2 : Int32)), .val (.int (f 2))] [])) _
          refine XS.iinc X117.here hx rfl (hb hby d5_38) rfl (l' := #[.val (.ref a1), .val (.int (3 : Int32)), .val (.ref a3), .val (.int (3 : Int32)), .val (.int (4 : Int32)), .val (.int (3 : Int32)), .val (.int (f 2))]) rfl ?_
          show Steps p.tables e below (T117.setTop (mkF m 41 #[.val (.ref a1), .val (.int (3 : Int32)), .val (.ref a3), .val (.int (3 : Int32)), .val (.int (4 : Int32)), .val (.int (3 : Int32)), .val (.int (f 2))] [])) _
          refine XS.goto X117.here hx rfl (pc0 := 41) (pc' := 3) rfl (hb hby d5_41) (by decide) (by decide) ?_
          show Steps p.tables e below (T117.setTop (mkF m 3 #[.val (.ref a1), .val (.int (3 : Int32)), .val (.ref a3), .val (.int (3 : Int32)), .val (.int (4 : Int32)), .val (.int (3 : Int32)), .val (.int (f 2))] [])) _
          refine XS.iload X117.here hx rfl (hb hby d5_3) rfl ?_
          show Steps p.tables e below (T117.setTop (mkF m 5 #[.val (.ref a1), .val (.int (3 : Int32)), .val (.ref a3), .val (.int (3 : Int32)), .val (.int (4 : Int32)), .val (.int (3 : Int32)), .val (.int (f 2))] [(.int (3 : Int32))])) _
          refine XS.iload X117.here hx rfl (hb hby d5_5) rfl ?_
          show Steps p.tables e below (T117.setTop (mkF m 7 #[.val (.ref a1), .val (.int (3 : Int32)), .val (.ref a3), .val (.int (3 : Int32)), .val (.int (4 : Int32)), .val (.int (3 : Int32)), .val (.int (f 2))] [(.int (4 : Int32)), (.int (3 : Int32))])) _
          refine XS.icmpNo X117.here hx rfl (hb hby d5_7) rfl (tlt (by decide : (3 : Int32) < (4 : Int32))).2.1 ?_
          show Steps p.tables e below (T117.setTop (mkF m 10 #[.val (.ref a1), .val (.int (3 : Int32)), .val (.ref a3), .val (.int (3 : Int32)), .val (.int (4 : Int32)), .val (.int (3 : Int32)), .val (.int (f 2))] [])) _
          refine XS.aloadN X117.here hx rfl (hb hby d5_10) rfl rfl ?_
          show Steps p.tables e below (T117.setTop (mkF m 11 #[.val (.ref a1), .val (.int (3 : Int32)), .val (.ref a3), .val (.int (3 : Int32)), .val (.int (4 : Int32)), .val (.int (3 : Int32)), .val (.int (f 2))] [(.ref a1)])) _
          refine XS.iloadN X117.here hx rfl (hb hby d5_11) rfl ?_
          show Steps p.tables e below (T117.setTop (mkF m 12 #[.val (.ref a1), .val (.int (3 : Int32)), .val (.ref a3), .val (.int (3 : Int32)), .val (.int (4 : Int32)), .val (.int (3 : Int32)), .val (.int (f 2))] [(.int (3 : Int32)), (.ref a1)])) _
          refine X117.caload hx (j := (3 : Int32)) (v := (.int (f 3))) (by rw [e117]; exact Ar119.1) (State.isArrayOf_alike hZ0.alike Ar119.2.1) Ar119.2.2 (inb_of Sz119 ⟨by decide, by decide⟩) (Hs119 3 (by decide)) (g := (mkF m 12 #[.val (.ref a1), .val (.int (3 : Int32)), .val (.ref a3), .val (.int (3 : Int32)), .val (.int (4 : Int32)), .val (.int (3 : Int32)), .val (.int (f 2))] [(.int (3 : Int32)), (.ref a1)])) rfl rfl (hb hby d5_12) _ ?_
          show Steps p.tables e below (T117.setTop (mkF m 13 #[.val (.ref a1), .val (.int (3 : Int32)), .val (.ref a3), .val (.int (3 : Int32)), .val (.int (4 : Int32)), .val (.int (3 : Int32)), .val (.int (f 2))] [(.int (f 3))])) _
          refine XS.istore X117.here hx rfl (hb hby d5_13) rfl (l' := #[.val (.ref a1), .val (.int (3 : Int32)), .val (.ref a3), .val (.int (3 : Int32)), .val (.int (4 : Int32)), .val (.int (3 : Int32)), .val (.int (f 3))]) rfl ?_
          show Steps p.tables e below (T117.setTop (mkF m 15 #[.val (.ref a1), .val (.int (3 : Int32)), .val (.ref a3), .val (.int (3 : Int32)), .val (.int (4 : Int32)), .val (.int (3 : Int32)), .val (.int (f 3))] [])) _
          refine XS.iload X117.here hx rfl (hb hby d5_15) rfl ?_
          show Steps p.tables e below (T117.setTop (mkF m 17 #[.val (.ref a1), .val (.int (3 : Int32)), .val (.ref a3), .val (.int (3 : Int32)), .val (.int (4 : Int32)), .val (.int (3 : Int32)), .val (.int (f 3))] [(.int (f 3))])) _
          refine XS.sipush X117.here hx rfl (hb hby d5_17) ?_
          show Steps p.tables e below (T117.setTop (mkF m 20 #[.val (.ref a1), .val (.int (3 : Int32)), .val (.ref a3), .val (.int (3 : Int32)), .val (.int (4 : Int32)), .val (.int (3 : Int32)), .val (.int (f 3))] [(.int (255 : Int32)), (.int (f 3))])) _
          refine XS.icmpNo X117.here hx rfl (hb hby d5_20) rfl (tlt ((own_last hu hc103 hc109 hc115) : (255 : Int32) < (f 3))).2.2.2 ?_
          show Steps p.tables e below (T117.setTop (mkF m 23 #[.val (.ref a1), .val (.int (3 : Int32)), .val (.ref a3), .val (.int (3 : Int32)), .val (.int (4 : Int32)), .val (.int (3 : Int32)), .val (.int (f 3))] [])) _
          refine XS.iload X117.here hx rfl (hb hby d5_23) rfl ?_
          show Steps p.tables e below (T117.setTop (mkF m 25 #[.val (.ref a1), .val (.int (3 : Int32)), .val (.ref a3), .val (.int (3 : Int32)), .val (.int (4 : Int32)), .val (.int (3 : Int32)), .val (.int (f 3))] [(.int (3 : Int32))])) _
          exact retI X117 hx Bd.returns (hb hby d5_25) hr
        · show Q5b Z a1 a3 f h0 n0 _ T117.heap _
          rw [e117]
          exact ⟨(3 : Int32), rfl, N117, K117, (show (255 : Int32) < f 3 from (own_last hu hc103 hc109 hc115)), ⟨by decide, by decide⟩⟩
theorem ef_4a (m : MethodId) (x0 : Addr) : entryFrame m #[(.ref x0), (.int (0 : Int32)), (.int (4 : Int32))] 6 = mkF m 0 #[.val (.ref x0), .val (.int (0 : Int32)), .val (.int (4 : Int32)), .unset, .unset, .unset] [] := by first | (simp [entryFrame, mkF, argsToLocals, Value.category]; done) | rfl
theorem d4_0 : decode jdk_52_method_16_code 0 = .ok (.iload_n 2, 1) := by decide +kernel
theorem d4_1 : decode jdk_52_method_16_code 1 = .ok (.newarray .byte, 2) := by decide +kernel
theorem d4_3 : decode jdk_52_method_16_code 3 = .ok (.astore_n 3, 1) := by decide +kernel
theorem d4_4 : decode jdk_52_method_16_code 4 = .ok (.aload_n 0, 1) := by decide +kernel
theorem d4_5 : decode jdk_52_method_16_code 5 = .ok (.iload_n 1, 1) := by decide +kernel
theorem d4_6 : decode jdk_52_method_16_code 6 = .ok (.aload_n 3, 1) := by decide +kernel
theorem d4_7 : decode jdk_52_method_16_code 7 = .ok (.iconst 0, 1) := by decide +kernel
theorem d4_8 : decode jdk_52_method_16_code 8 = .ok (.iload_n 2, 1) := by decide +kernel
theorem d4_9 : decode jdk_52_method_16_code 9 = .ok (.invokestatic 115, 3) := by decide +kernel
theorem pd_10 : parseMethodDescriptor "([CI[BII)I" = some ⟨[(.array .char), .int, (.array .byte), .int, .int], some .int⟩ := by decide +kernel
theorem d4_12 : decode jdk_52_method_16_code 12 = .ok (.istore 4, 2) := by decide +kernel
theorem d4_14 : decode jdk_52_method_16_code 14 = .ok (.iload 4, 2) := by decide +kernel
theorem d4_16 : decode jdk_52_method_16_code 16 = .ok (.iload_n 2, 1) := by decide +kernel
theorem d4_17 : decode jdk_52_method_16_code 17 = .ok (.if_icmp .eq 40, 3) := by decide +kernel
theorem d4_57 : decode jdk_52_method_16_code 57 = .ok (.aload_n 3, 1) := by decide +kernel
theorem d4_58 : decode jdk_52_method_16_code 58 = .ok (.areturn, 1) := by decide +kernel
def Q4a (Z : State) (a1 : Addr) (w : Int32) (f : Nat → Int32) (h0 : Heap) (n0 : Nat) (v : Option Value) (h : Heap) (L : List Loc) : Prop := ∃ b : Addr, v = some (.ref b) ∧ Fr n0 L ∧ (Keep h0 h []) ∧ (h0.size ≤ b) ∧ (OwnL Z h b (4 : Int32) f)
set_option maxRecDepth 65536 in
set_option maxHeartbeats 40000000 in
theorem rm4a (l : Launch) (Z : State) (a0 : Array Value) (hw : ∀ d ∈ tables_1, d.before a0 Z = true) (ws : List Jvm.Cond) (a1 : Addr) (w : Int32) (f : Nat → Int32) (h0 : Heap) (n0 : Nat) (Z0 : n0 ≤ h0.size) (O0 : Old Z n0 h0) (S0 : Sta Z Z.heap "java/lang/String" "COMPACT_STRINGS" "Z" (.int w)) (hw0 : ¬ (w = (0 : Int32))) (SA : Sta Z Z.heap "java/lang/StringUTF16" "$assertionsDisabled" "Z" (.int (1 : Int32))) (SHI : Sta Z Z.heap "java/lang/StringUTF16" "HI_BYTE_SHIFT" "I" (.int (0 : Int32))) (SLO : Sta Z Z.heap "java/lang/StringUTF16" "LO_BYTE_SHIFT" "I" (.int (8 : Int32))) (FM : Fmt Z) (C1 : OwnC Z h0 a1 (4 : Int32) f) (hl : own_lat f (4 : Int32)) :
    MetFree l (⟨"java/lang/StringUTF16", "compress", "([CII)[B"⟩ : MethodName) (head1 (Jvm.Cond.code (⟨"java/lang/StringUTF16", "compress", "([CII)[B"⟩ : MethodName) jdk_52_method_16_code 6 (some (.array .byte)) :: ws) ({ frames := 1, cells := 1, slots := 16, locals := 18 } : Room)) (fun a U => a = #[(.ref a1), (.int (0 : Int32)), (.int (4 : Int32))] ∧ Z.Warmed39 U.vm ∧ U.heap = h0) (fun _ _ _ _ _ => True) (fun _ U o U' => ∃ v L, o = .returned v ∧ Q4a Z a1 w f h0 n0 v U'.heap L ∧ FrameEnd U o U' L ({ frames := 1, cells := 1, slots := 16, locals := 18 } : Room).cells ({ frames := 1, cells := 1, slots := 16, locals := 18 } : Room).slots) := by
  refine MetFree.of_bodySF (plainFor_of_name pn_2) hisR ?_
  intro p e s m args below meth c s₁ Bd hml0 hP hK
  obtain ⟨rfl, hZ0, hh⟩ := hP
  have hx := Bd.exec
  have hby := Bd.bytes
  have hml : c.maxLocals = 6 := hml0
  have hown0 : s.vm.findClass "java/lang/StringUTF16" = some m.cls := findClass_of_methodNamed Bd.named
  have hnm := (name_of_methodNamed Bd.named Bd.method).1
  have hlk : meth.locks = false := by first | exact BodyLoose.notSynchronized Bd | exact Body.notSynchronized Bd
  have X0 : Stand p l e ({ frames := 1, cells := 1, slots := 16, locals := 18 } : Room) s m #[(.ref a1), (.int (0 : Int32)), (.int (4 : Int32))] below meth c s₁ [] 0 0 := Stand.of_body Bd
  have e0 : s₁.heap = h0 := by rw [← hh, Bd.state]; rfl
  have N0 := Fr.nil n0
  have pre0 : ∀ t, Steps p.tables e below (s₁.setTop (mkF m 0 #[.val (.ref a1), .val (.int (0 : Int32)), .val (.int (4 : Int32)), .unset, .unset, .unset] [])) t → Steps p.tables e below (s₁.setTop (entryFrame m #[(.ref a1), (.int (0 : Int32)), (.int (4 : Int32))] 6)) t := fun t k => castTop (ef_4a m a1) k
  obtain ⟨T101, h101, k101, X101, e101, E101, A101, st101⟩ := newP X0 hx hZ0 (hw _ (List.mem_of_getElem? (i := 20) rfl)) e0 (g := (mkF m 1 #[.val (.ref a1), .val (.int (0 : Int32)), .val (.int (4 : Int32)), .unset, .unset, .unset] [(.int (4 : Int32))])) rfl (hb hby d4_1) rfl (by decide) (cap := 16) (by decide) (by decide) (by decide) (by decide)
  obtain ⟨b101, g101⟩ : ∃ z, z = h0.size := ⟨_, rfl⟩
  rw [← g101] at A101 st101
  have ne_a1_b101 : a1 ≠ b101 := Nat.ne_of_lt (Nat.lt_of_lt_of_le C1.lt (Nat.le_of_eq g101.symm))
  have gn_b101 : n0 ≤ b101 := Nat.le_trans Z0 (Nat.le_of_eq g101.symm)
  have sz_b101 : h0.size ≤ b101 := Nat.le_trans (Keep.refl h0 []).1 (Nat.le_of_eq g101.symm)
  have f102 : Old Z n0 h101 := O0.ext E101
  have f103 : OwnC Z h101 a1 (4 : Int32) f := OwnC.ext C1 E101
  have Zs101 : n0 ≤ h101.size := Nat.le_trans Z0 E101.1
  have K101 : Keep h0 h101 [] := (Keep.refl h0 []).ext E101
  have v101 : OwnB Z h101 b101 (4 : Int32) 0 f := OwnB.new A101 (by decide) _
  obtain ⟨_, _, ⟨T104, L104, k104, n104⟩, -, X104, ⟨Lc104, hQ104, l104, y104, z104⟩, st104⟩ := Jvm.LawKit.callS X101 hx (y := (⟨"java/lang/StringUTF16", "compress", "([CI[BII)I"⟩ : MethodName)) hown0 (mvT hZ0 (hw _ (List.mem_of_getElem? (i := 21) rfl))) (mvT hZ0 (hw _ (List.mem_of_getElem? (i := 22) rfl))) (mvT hZ0 (hw _ (List.mem_of_getElem? (i := 18) rfl))) (mvT hZ0 (hw _ (List.mem_of_getElem? (i := 23) rfl))) (by decide) (backOf (W := 0) (rm5a l Z a0 hw [] a1 b101 f h101 n0 Zs101 f103 v101 gn_b101 ne_a1_b101 hl) hZ0 (hw _ (List.mem_of_getElem? (i := 23) rfl)) (hw _ (List.mem_of_getElem? (i := 18) rfl)) (by decide) (by decide)) (g := (mkF m 9 #[.val (.ref a1), .val (.int (0 : Int32)), .val (.int (4 : Int32)), .val (.ref b101), .unset, .unset] [(.int (4 : Int32)), (.int (0 : Int32)), (.ref b101), (.int (0 : Int32)), (.ref a1)])) rfl (by rw [hml]; rfl) (argsL := [(.ref a1), (.int (0 : Int32)), (.ref b101), (.int (0 : Int32)), (.int (4 : Int32))]) (rest := []) (lenOf pd_10 rfl) rfl (by show 2 * 0 + _ ≤ _; exact Nat.le_of_eq rfl) (hb hby d4_9) (fun _ _ => ⟨rfl, e101, (by decide : 1 + 0 ≤ _), (by decide : 16 + 0 ≤ _)⟩)
  dsimp only [Pt.U, Pt.locs, Pt.cells, Pt.slots] at X104 l104 y104 z104 st104 hQ104
  subst l104 y104 z104
  obtain ⟨rfl, N104q, P104_0, P104_1⟩ := hQ104
  have N104 := Fr.app N0 N104q
  have f105 : Old Z n0 T104.heap := f102.keep P104_0 (allS gn_b101 all0)
  have f106 : OwnC Z T104.heap a1 (4 : Int32) f := OwnC.keep f103 P104_0 (ninS ne_a1_b101 nin0)
  have Zs104 : n0 ≤ T104.heap.size := Nat.le_trans Zs101 P104_0.1
  have K104 : Keep h0 T104.heap [] := K101.trans P104_0 (allS (Or.inr sz_b101) all0)
  obtain ⟨fs, hr, hrun, hended, hW, hsame⟩ := X104.leave (v := some (.ref b101)) (fun h => by rw [Bd.returns] at h; cases h) hlk
  refine ⟨_, _, pre0 _ ?_, hrun, hended, _, _, rfl, ?_, ⟨_, rfl⟩, hW, hsame.mono (by decide) (by decide)⟩
  · show Steps p.tables e below (s₁.setTop (mkF m 0 #[.val (.ref a1), .val (.int (0 : Int32)), .val (.int (4 : Int32)), .unset, .unset, .unset] [])) _
    refine XS.iloadN X0.here hx rfl (hb hby d4_0) rfl ?_
    show Steps p.tables e below (s₁.setTop (mkF m 1 #[.val (.ref a1), .val (.int (0 : Int32)), .val (.int (4 : Int32)), .unset, .unset, .unset] [(.int (4 : Int32))])) _
    refine st101 _ ?_
    show Steps p.tables e below (T101.setTop (mkF m 3 #[.val (.ref a1), .val (.int (0 : Int32)), .val (.int (4 : Int32)), .unset, .unset, .unset] [(.ref b101)])) _
    refine XS.astoreN X101.here hx rfl (hb hby d4_3) rfl rfl (l' := #[.val (.ref a1), .val (.int (0 : Int32)), .val (.int (4 : Int32)), .val (.ref b101), .unset, .unset]) rfl ?_
    show Steps p.tables e below (T101.setTop (mkF m 4 #[.val (.ref a1), .val (.int (0 : Int32)), .val (.int (4 : Int32)), .val (.ref b101), .unset, .unset] [])) _
    refine XS.aloadN X101.here hx rfl (hb hby d4_4) rfl rfl ?_
    show Steps p.tables e below (T101.setTop (mkF m 5 #[.val (.ref a1), .val (.int (0 : Int32)), .val (.int (4 : Int32)), .val (.ref b101), .unset, .unset] [(.ref a1)])) _
    refine XS.iloadN X101.here hx rfl (hb hby d4_5) rfl ?_
    show Steps p.tables e below (T101.setTop (mkF m 6 #[.val (.ref a1), .val (.int (0 : Int32)), .val (.int (4 : Int32)), .val (.ref b101), .unset, .unset] [(.int (0 : Int32)), (.ref a1)])) _
    refine XS.aloadN X101.here hx rfl (hb hby d4_6) rfl rfl ?_
    show Steps p.tables e below (T101.setTop (mkF m 7 #[.val (.ref a1), .val (.int (0 : Int32)), .val (.int (4 : Int32)), .val (.ref b101), .unset, .unset] [(.ref b101), (.int (0 : Int32)), (.ref a1)])) _
    refine XS.iconst X101.here hx rfl (hb hby d4_7) ?_
    show Steps p.tables e below (T101.setTop (mkF m 8 #[.val (.ref a1), .val (.int (0 : Int32)), .val (.int (4 : Int32)), .val (.ref b101), .unset, .unset] [(.int (0 : Int32)), (.ref b101), (.int (0 : Int32)), (.ref a1)])) _
    refine XS.iloadN X101.here hx rfl (hb hby d4_8) rfl ?_
    show Steps p.tables e below (T101.setTop (mkF m 9 #[.val (.ref a1), .val (.int (0 : Int32)), .val (.int (4 : Int32)), .val (.ref b101), .unset, .unset] [(.int (4 : Int32)), (.int (0 : Int32)), (.ref b101), (.int (0 : Int32)), (.ref a1)])) _
    refine st104 _ ?_
    show Steps p.tables e below (T104.setTop (mkF m 12 #[.val (.ref a1), .val (.int (0 : Int32)), .val (.int (4 : Int32)), .val (.ref b101), .unset, .unset] [(.int (4 : Int32))])) _
    refine XS.istore X104.here hx rfl (hb hby d4_12) rfl (l' := #[.val (.ref a1), .val (.int (0 : Int32)), .val (.int (4 : Int32)), .val (.ref b101), .val (.int (4 : Int32)), .unset]) rfl ?_
    show Steps p.tables e below (T104.setTop (mkF m 14 #[.val (.ref a1), .val (.int (0 : Int32)), .val (.int (4 : Int32)), .val (.ref b101), .val (.int (4 : Int32)), .unset] [])) _
    refine XS.iload X104.here hx rfl (hb hby d4_14) rfl ?_
    show Steps p.tables e below (T104.setTop (mkF m 16 #[.val (.ref a1), .val (.int (0 : Int32)), .val (.int (4 : Int32)), .val (.ref b101), .val (.int (4 : Int32)), .unset] [(.int (4 : Int32))])) _
    refine XS.iloadN X104.here hx rfl (hb hby d4_16) rfl ?_
    show Steps p.tables e below (T104.setTop (mkF m 17 #[.val (.ref a1), .val (.int (0 : Int32)), .val (.int (4 : Int32)), .val (.ref b101), .val (.int (4 : Int32)), .unset] [(.int (4 : Int32)), (.int (4 : Int32))])) _
    refine XS.icmpYes X104.here hx rfl (pc0 := 17) (pc' := 57) rfl (hb hby d4_17) rfl (teq (by decide : (4 : Int32) = (4 : Int32))).1 (by decide) (by decide) ?_
    show Steps p.tables e below (T104.setTop (mkF m 57 #[.val (.ref a1), .val (.int (0 : Int32)), .val (.int (4 : Int32)), .val (.ref b101), .val (.int (4 : Int32)), .unset] [])) _
    refine XS.aloadN X104.here hx rfl (hb hby d4_57) rfl rfl ?_
    show Steps p.tables e below (T104.setTop (mkF m 58 #[.val (.ref a1), .val (.int (0 : Int32)), .val (.int (4 : Int32)), .val (.ref b101), .val (.int (4 : Int32)), .unset] [(.ref b101)])) _
    jvm_step X104.here [X104.here.top, hx, (hb hby d4_58), X104.method', Bd.returns, Value.isRef, FieldType.isReference]
    first | (intro acts; rw [hr _ acts rfl rfl rfl]) | rw [hr _ _ rfl rfl rfl]
    exact Steps.refl _
  · show Q4a Z a1 w f h0 n0 _ T104.heap _
    exact ⟨b101, rfl, N104, K104, sz_b101, P104_1⟩
theorem ef_4b (m : MethodId) (x0 : Addr) : entryFrame m #[(.ref x0), (.int (0 : Int32)), (.int (4 : Int32))] 6 = mkF m 0 #[.val (.ref x0), .val (.int (0 : Int32)), .val (.int (4 : Int32)), .unset, .unset, .unset] [] := by first | (simp [entryFrame, mkF, argsToLocals, Value.category]; done) | rfl
theorem d4_20 : decode jdk_52_method_16_code 20 = .ok (.aload_n 0, 1) := by decide +kernel
theorem d4_21 : decode jdk_52_method_16_code 21 = .ok (.iload_n 1, 1) := by decide +kernel
theorem d4_22 : decode jdk_52_method_16_code 22 = .ok (.iload_n 2, 1) := by decide +kernel
theorem d4_23 : decode jdk_52_method_16_code 23 = .ok (.invokestatic 119, 3) := by decide +kernel
theorem pd_11 : parseMethodDescriptor "([CII)[B" = some ⟨[(.array .char), .int, .int], some (.array .byte)⟩ := by decide +kernel
theorem d4_26 : decode jdk_52_method_16_code 26 = .ok (.astore 5, 2) := by decide +kernel
theorem d4_28 : decode jdk_52_method_16_code 28 = .ok (.aload 5, 2) := by decide +kernel
theorem d4_30 : decode jdk_52_method_16_code 30 = .ok (.iload 4, 2) := by decide +kernel
theorem d4_32 : decode jdk_52_method_16_code 32 = .ok (.invokestatic 71, 3) := by decide +kernel
theorem d4_35 : decode jdk_52_method_16_code 35 = .ok (.sipush 255, 3) := by decide +kernel
theorem d4_38 : decode jdk_52_method_16_code 38 = .ok (.if_icmp .gt 16, 3) := by decide +kernel
theorem d4_54 : decode jdk_52_method_16_code 54 = .ok (.aload 5, 2) := by decide +kernel
theorem d4_56 : decode jdk_52_method_16_code 56 = .ok (.areturn, 1) := by decide +kernel
def Q4b (Z : State) (a1 : Addr) (w : Int32) (f : Nat → Int32) (h0 : Heap) (n0 : Nat) (v : Option Value) (h : Heap) (L : List Loc) : Prop := ∃ b : Addr, v = some (.ref b) ∧ Fr n0 L ∧ (Keep h0 h []) ∧ (h0.size ≤ b) ∧ (OwnU Z h b (4 : Int32) f)
set_option maxRecDepth 65536 in
set_option maxHeartbeats 40000000 in
theorem rm4b (l : Launch) (Z : State) (a0 : Array Value) (hw : ∀ d ∈ tables_1, d.before a0 Z = true) (ws : List Jvm.Cond) (a1 : Addr) (w : Int32) (f : Nat → Int32) (h0 : Heap) (n0 : Nat) (Z0 : n0 ≤ h0.size) (O0 : Old Z n0 h0) (S0 : Sta Z Z.heap "java/lang/String" "COMPACT_STRINGS" "Z" (.int w)) (hw0 : ¬ (w = (0 : Int32))) (SA : Sta Z Z.heap "java/lang/StringUTF16" "$assertionsDisabled" "Z" (.int (1 : Int32))) (SHI : Sta Z Z.heap "java/lang/StringUTF16" "HI_BYTE_SHIFT" "I" (.int (0 : Int32))) (SLO : Sta Z Z.heap "java/lang/StringUTF16" "LO_BYTE_SHIFT" "I" (.int (8 : Int32))) (FM : Fmt Z) (C1 : OwnC Z h0 a1 (4 : Int32) f) (hf : own_ch f) (hu : ¬ (own_lat f (4 : Int32))) :
    MetFree l (⟨"java/lang/StringUTF16", "compress", "([CII)[B"⟩ : MethodName) (head1 (Jvm.Cond.code (⟨"java/lang/StringUTF16", "compress", "([CII)[B"⟩ : MethodName) jdk_52_method_16_code 6 (some (.array .byte)) :: ws) ({ frames := 3, cells := 2, slots := 32, locals := 40 } : Room)) (fun a U => a = #[(.ref a1), (.int (0 : Int32)), (.int (4 : Int32))] ∧ Z.Warmed39 U.vm ∧ U.heap = h0) (fun _ _ _ _ _ => True) (fun _ U o U' => ∃ v L, o = .returned v ∧ Q4b Z a1 w f h0 n0 v U'.heap L ∧ FrameEnd U o U' L ({ frames := 3, cells := 2, slots := 32, locals := 40 } : Room).cells ({ frames := 3, cells := 2, slots := 32, locals := 40 } : Room).slots) := by
  refine MetFree.of_bodySF (plainFor_of_name pn_2) hisR ?_
  intro p e s m args below meth c s₁ Bd hml0 hP hK
  obtain ⟨rfl, hZ0, hh⟩ := hP
  have hx := Bd.exec
  have hby := Bd.bytes
  have hml : c.maxLocals = 6 := hml0
  have hown0 : s.vm.findClass "java/lang/StringUTF16" = some m.cls := findClass_of_methodNamed Bd.named
  have hnm := (name_of_methodNamed Bd.named Bd.method).1
  have hlk : meth.locks = false := by first | exact BodyLoose.notSynchronized Bd | exact Body.notSynchronized Bd
  have X0 : Stand p l e ({ frames := 3, cells := 2, slots := 32, locals := 40 } : Room) s m #[(.ref a1), (.int (0 : Int32)), (.int (4 : Int32))] below meth c s₁ [] 0 0 := Stand.of_body Bd
  have e0 : s₁.heap = h0 := by rw [← hh, Bd.state]; rfl
  have N0 := Fr.nil n0
  have pre0 : ∀ t, Steps p.tables e below (s₁.setTop (mkF m 0 #[.val (.ref a1), .val (.int (0 : Int32)), .val (.int (4 : Int32)), .unset, .unset, .unset] [])) t → Steps p.tables e below (s₁.setTop (entryFrame m #[(.ref a1), (.int (0 : Int32)), (.int (4 : Int32))] 6)) t := fun t k => castTop (ef_4b m a1) k
  obtain ⟨T101, h101, k101, X101, e101, E101, A101, st101⟩ := newP X0 hx hZ0 (hw _ (List.mem_of_getElem? (i := 20) rfl)) e0 (g := (mkF m 1 #[.val (.ref a1), .val (.int (0 : Int32)), .val (.int (4 : Int32)), .unset, .unset, .unset] [(.int (4 : Int32))])) rfl (hb hby d4_1) rfl (by decide) (cap := 16) (by decide) (by decide) (by decide) (by decide)
  obtain ⟨b101, g101⟩ : ∃ z, z = h0.size := ⟨_, rfl⟩
  rw [← g101] at A101 st101
  have ne_a1_b101 : a1 ≠ b101 := Nat.ne_of_lt (Nat.lt_of_lt_of_le C1.lt (Nat.le_of_eq g101.symm))
  have gn_b101 : n0 ≤ b101 := Nat.le_trans Z0 (Nat.le_of_eq g101.symm)
  have sz_b101 : h0.size ≤ b101 := Nat.le_trans (Keep.refl h0 []).1 (Nat.le_of_eq g101.symm)
  have f102 : Old Z n0 h101 := O0.ext E101
  have f103 : OwnC Z h101 a1 (4 : Int32) f := OwnC.ext C1 E101
  have Zs101 : n0 ≤ h101.size := Nat.le_trans Z0 E101.1
  have K101 : Keep h0 h101 [] := (Keep.refl h0 []).ext E101
  have v101 : OwnB Z h101 b101 (4 : Int32) 0 f := OwnB.new A101 (by decide) _
  obtain ⟨_, _, ⟨T104, L104, k104, n104⟩, -, X104, ⟨Lc104, hQ104, l104, y104, z104⟩, st104⟩ := Jvm.LawKit.callS X101 hx (y := (⟨"java/lang/StringUTF16", "compress", "([CI[BII)I"⟩ : MethodName)) hown0 (mvT hZ0 (hw _ (List.mem_of_getElem? (i := 21) rfl))) (mvT hZ0 (hw _ (List.mem_of_getElem? (i := 22) rfl))) (mvT hZ0 (hw _ (List.mem_of_getElem? (i := 18) rfl))) (mvT hZ0 (hw _ (List.mem_of_getElem? (i := 23) rfl))) (by decide) (backOf (W := 0) (rm5b l Z a0 hw [] a1 b101 f h101 n0 Zs101 f103 v101 gn_b101 ne_a1_b101 hu) hZ0 (hw _ (List.mem_of_getElem? (i := 23) rfl)) (hw _ (List.mem_of_getElem? (i := 18) rfl)) (by decide) (by decide)) (g := (mkF m 9 #[.val (.ref a1), .val (.int (0 : Int32)), .val (.int (4 : Int32)), .val (.ref b101), .unset, .unset] [(.int (4 : Int32)), (.int (0 : Int32)), (.ref b101), (.int (0 : Int32)), (.ref a1)])) rfl (by rw [hml]; rfl) (argsL := [(.ref a1), (.int (0 : Int32)), (.ref b101), (.int (0 : Int32)), (.int (4 : Int32))]) (rest := []) (lenOf pd_10 rfl) rfl (by show 2 * 0 + _ ≤ _; exact Nat.le_of_eq rfl) (hb hby d4_9) (fun _ _ => ⟨rfl, e101, (by decide : 1 + 0 ≤ _), (by decide : 16 + 0 ≤ _)⟩)
  dsimp only [Pt.U, Pt.locs, Pt.cells, Pt.slots] at X104 l104 y104 z104 st104 hQ104
  subst l104 y104 z104
  obtain ⟨r_104, rfl, N104q, P104_0, P104_1, P104_2⟩ := hQ104
  have N104 := Fr.app N0 N104q
  have f105 : Old Z n0 T104.heap := f102.keep P104_0 (allS gn_b101 all0)
  have f106 : OwnC Z T104.heap a1 (4 : Int32) f := OwnC.keep f103 P104_0 (ninS ne_a1_b101 nin0)
  have Zs104 : n0 ≤ T104.heap.size := Nat.le_trans Zs101 P104_0.1
  have K104 : Keep h0 T104.heap [] := K101.trans P104_0 (allS (Or.inr sz_b101) all0)
  obtain ⟨_, _, ⟨T107, L107, k107, n107⟩, -, X107, ⟨Lc107, hQ107, l107, y107, z107⟩, st107⟩ := Jvm.LawKit.callS X104 hx (y := (⟨"java/lang/StringUTF16", "toBytes", "([CII)[B"⟩ : MethodName)) hown0 (mvT hZ0 (hw _ (List.mem_of_getElem? (i := 137) rfl))) (mvT hZ0 (hw _ (List.mem_of_getElem? (i := 138) rfl))) (mvT hZ0 (hw _ (List.mem_of_getElem? (i := 18) rfl))) (mvT hZ0 (hw _ (List.mem_of_getElem? (i := 139) rfl))) (by decide) (backOf (W := 0) (rm28 l Z a0 hw [] a1 w f T104.heap n0 Zs104 f105 S0 hw0 SA SHI SLO FM f106) hZ0 (hw _ (List.mem_of_getElem? (i := 139) rfl)) (hw _ (List.mem_of_getElem? (i := 18) rfl)) (by decide) (by decide)) (g := (mkF m 23 #[.val (.ref a1), .val (.int (0 : Int32)), .val (.int (4 : Int32)), .val (.ref b101), .val (.int r_104), .unset] [(.int (4 : Int32)), (.int (0 : Int32)), (.ref a1)])) rfl (by rw [hml]; rfl) (argsL := [(.ref a1), (.int (0 : Int32)), (.int (4 : Int32))]) (rest := []) (lenOf pd_11 rfl) rfl (by show 2 * 0 + _ ≤ _; exact Nat.le_of_eq rfl) (hb hby d4_23) (fun _ _ => ⟨rfl, rfl, (by decide : 1 + 1 ≤ _), (by decide : 16 + 16 ≤ _)⟩)
  dsimp only [Pt.U, Pt.locs, Pt.cells, Pt.slots] at X107 l107 y107 z107 st107 hQ107
  subst l107 y107 z107
  obtain ⟨b_107, rfl, N107q, P107_0, P107_1, P107_2⟩ := hQ107
  have N107 := Fr.app N104 N107q
  have ne_a1_b_107 : a1 ≠ b_107 := Nat.ne_of_lt (Nat.lt_of_lt_of_le f106.lt P107_1)
  have gn_b_107 : n0 ≤ b_107 := Nat.le_trans Zs104 P107_1
  have sz_b_107 : h0.size ≤ b_107 := Nat.le_trans K104.1 P107_1
  have f108 : Old Z n0 T107.heap := f105.keep P107_0 all0
  have f109 : OwnC Z T107.heap a1 (4 : Int32) f := OwnC.keep f106 P107_0 nin0
  have Zs107 : n0 ≤ T107.heap.size := Nat.le_trans Zs104 P107_0.1
  have K107 : Keep h0 T107.heap [] := K104.trans P107_0 all0
  obtain ⟨_, _, ⟨T110, L110, k110, n110⟩, -, X110, ⟨Lc110, hQ110, l110, y110, z110⟩, st110⟩ := Jvm.LawKit.callS X107 hx (y := (⟨"java/lang/StringUTF16", "getChar", "([BI)C"⟩ : MethodName)) hown0 (mvT hZ0 (hw _ (List.mem_of_getElem? (i := 153) rfl))) (mvT hZ0 (hw _ (List.mem_of_getElem? (i := 154) rfl))) (mvT hZ0 (hw _ (List.mem_of_getElem? (i := 18) rfl))) (mvT hZ0 (hw _ (List.mem_of_getElem? (i := 155) rfl))) (by decide) (backOf (W := 0) (rm32 l Z a0 hw [] b_107 r_104 w (4 : Int32) f T107.heap n0 Zs107 f108 S0 hw0 SA SHI SLO FM P107_2 (⟨by decide, by decide⟩) P104_2 hf) hZ0 (hw _ (List.mem_of_getElem? (i := 155) rfl)) (hw _ (List.mem_of_getElem? (i := 18) rfl)) (by decide) (by decide)) (g := (mkF m 32 #[.val (.ref a1), .val (.int (0 : Int32)), .val (.int (4 : Int32)), .val (.ref b101), .val (.int r_104), .val (.ref b_107)] [(.int r_104), (.ref b_107)])) rfl (by rw [hml]; rfl) (argsL := [(.ref b_107), (.int r_104)]) (rest := []) (lenOf pd_4 rfl) rfl (by show 2 * 0 + _ ≤ _; exact Nat.le_of_eq rfl) (hb hby d4_32) (fun _ _ => ⟨rfl, rfl, (by decide : 2 + 0 ≤ _), (by decide : 32 + 0 ≤ _)⟩)
  dsimp only [Pt.U, Pt.locs, Pt.cells, Pt.slots] at X110 l110 y110 z110 st110 hQ110
  subst l110 y110 z110
  obtain ⟨rfl, N110q, P110_0⟩ := hQ110
  have N110 := Fr.app N107 N110q
  obtain ⟨fs, hr, hrun, hended, hW, hsame⟩ := X110.leave (v := some (.ref b_107)) (fun h => by rw [Bd.returns] at h; cases h) hlk
  refine ⟨_, _, pre0 _ ?_, hrun, hended, _, _, rfl, ?_, ⟨_, rfl⟩, hW, hsame.mono (by decide) (by decide)⟩
  · show Steps p.tables e below (s₁.setTop (mkF m 0 #[.val (.ref a1), .val (.int (0 : Int32)), .val (.int (4 : Int32)), .unset, .unset, .unset] [])) _
    refine XS.iloadN X0.here hx rfl (hb hby d4_0) rfl ?_
    show Steps p.tables e below (s₁.setTop (mkF m 1 #[.val (.ref a1), .val (.int (0 : Int32)), .val (.int (4 : Int32)), .unset, .unset, .unset] [(.int (4 : Int32))])) _
    refine st101 _ ?_
    show Steps p.tables e below (T101.setTop (mkF m 3 #[.val (.ref a1), .val (.int (0 : Int32)), .val (.int (4 : Int32)), .unset, .unset, .unset] [(.ref b101)])) _
    refine XS.astoreN X101.here hx rfl (hb hby d4_3) rfl rfl (l' := #[.val (.ref a1), .val (.int (0 : Int32)), .val (.int (4 : Int32)), .val (.ref b101), .unset, .unset]) rfl ?_
    show Steps p.tables e below (T101.setTop (mkF m 4 #[.val (.ref a1), .val (.int (0 : Int32)), .val (.int (4 : Int32)), .val (.ref b101), .unset, .unset] [])) _
    refine XS.aloadN X101.here hx rfl (hb hby d4_4) rfl rfl ?_
    show Steps p.tables e below (T101.setTop (mkF m 5 #[.val (.ref a1), .val (.int (0 : Int32)), .val (.int (4 : Int32)), .val (.ref b101), .unset, .unset] [(.ref a1)])) _
    refine XS.iloadN X101.here hx rfl (hb hby d4_5) rfl ?_
    show Steps p.tables e below (T101.setTop (mkF m 6 #[.val (.ref a1), .val (.int (0 : Int32)), .val (.int (4 : Int32)), .val (.ref b101), .unset, .unset] [(.int (0 : Int32)), (.ref a1)])) _
    refine XS.aloadN X101.here hx rfl (hb hby d4_6) rfl rfl ?_
    show Steps p.tables e below (T101.setTop (mkF m 7 #[.val (.ref a1), .val (.int (0 : Int32)), .val (.int (4 : Int32)), .val (.ref b101), .unset, .unset] [(.ref b101), (.int (0 : Int32)), (.ref a1)])) _
    refine XS.iconst X101.here hx rfl (hb hby d4_7) ?_
    show Steps p.tables e below (T101.setTop (mkF m 8 #[.val (.ref a1), .val (.int (0 : Int32)), .val (.int (4 : Int32)), .val (.ref b101), .unset, .unset] [(.int (0 : Int32)), (.ref b101), (.int (0 : Int32)), (.ref a1)])) _
    refine XS.iloadN X101.here hx rfl (hb hby d4_8) rfl ?_
    show Steps p.tables e below (T101.setTop (mkF m 9 #[.val (.ref a1), .val (.int (0 : Int32)), .val (.int (4 : Int32)), .val (.ref b101), .unset, .unset] [(.int (4 : Int32)), (.int (0 : Int32)), (.ref b101), (.int (0 : Int32)), (.ref a1)])) _
    refine st104 _ ?_
    show Steps p.tables e below (T104.setTop (mkF m 12 #[.val (.ref a1), .val (.int (0 : Int32)), .val (.int (4 : Int32)), .val (.ref b101), .unset, .unset] [(.int r_104)])) _
    refine XS.istore X104.here hx rfl (hb hby d4_12) rfl (l' := #[.val (.ref a1), .val (.int (0 : Int32)), .val (.int (4 : Int32)), .val (.ref b101), .val (.int r_104), .unset]) rfl ?_
    show Steps p.tables e below (T104.setTop (mkF m 14 #[.val (.ref a1), .val (.int (0 : Int32)), .val (.int (4 : Int32)), .val (.ref b101), .val (.int r_104), .unset] [])) _
    refine XS.iload X104.here hx rfl (hb hby d4_14) rfl ?_
    show Steps p.tables e below (T104.setTop (mkF m 16 #[.val (.ref a1), .val (.int (0 : Int32)), .val (.int (4 : Int32)), .val (.ref b101), .val (.int r_104), .unset] [(.int r_104)])) _
    refine XS.iloadN X104.here hx rfl (hb hby d4_16) rfl ?_
    show Steps p.tables e below (T104.setTop (mkF m 17 #[.val (.ref a1), .val (.int (0 : Int32)), .val (.int (4 : Int32)), .val (.ref b101), .val (.int r_104), .unset] [(.int (4 : Int32)), (.int r_104)])) _
    refine XS.icmpNo X104.here hx rfl (hb hby d4_17) rfl (feq (own_ixne P104_2 : ¬ (r_104 = (4 : Int32)))).1 ?_
    show Steps p.tables e below (T104.setTop (mkF m 20 #[.val (.ref a1), .val (.int (0 : Int32)), .val (.int (4 : Int32)), .val (.ref b101), .val (.int r_104), .unset] [])) _
    refine XS.aloadN X104.here hx rfl (hb hby d4_20) rfl rfl ?_
    show Steps p.tables e below (T104.setTop (mkF m 21 #[.val (.ref a1), .val (.int (0 : Int32)), .val (.int (4 : Int32)), .val (.ref b101), .val (.int r_104), .unset] [(.ref a1)])) _
    refine XS.iloadN X104.here hx rfl (hb hby d4_21) rfl ?_
    show Steps p.tables e below (T104.setTop (mkF m 22 #[.val (.ref a1), .val (.int (0 : Int32)), .val (.int (4 : Int32)), .val (.ref b101), .val (.int r_104), .unset] [(.int (0 : Int32)), (.ref a1)])) _
    refine XS.iloadN X104.here hx rfl (hb hby d4_22) rfl ?_
    show Steps p.tables e below (T104.setTop (mkF m 23 #[.val (.ref a1), .val (.int (0 : Int32)), .val (.int (4 : Int32)), .val (.ref b101), .val (.int r_104), .unset] [(.int (4 : Int32)), (.int (0 : Int32)), (.ref a1)])) _
    refine st107 _ ?_
    show Steps p.tables e below (T107.setTop (mkF m 26 #[.val (.ref a1), .val (.int (0 : Int32)), .val (.int (4 : Int32)), .val (.ref b101), .val (.int r_104), .unset] [(.ref b_107)])) _
    refine XS.astore X107.here hx rfl (hb hby d4_26) rfl rfl (l' := #[.val (.ref a1), .val (.int (0 : Int32)), .val (.int (4 : Int32)), .val (.ref b101), .val (.int r_104), .val (.ref b_107)]) rfl ?_
    show Steps p.tables e below (T107.setTop (mkF m 28 #[.val (.ref a1), .val (.int (0 : Int32)), .val (.int (4 : Int32)), .val (.ref b101), .val (.int r_104), .val (.ref b_107)] [])) _
    refine XS.aload X107.here hx rfl (hb hby d4_28) rfl rfl ?_
    show Steps p.tables e below (T107.setTop (mkF m 30 #[.val (.ref a1), .val (.int (0 : Int32)), .val (.int (4 : Int32)), .val (.ref b101), .val (.int r_104), .val (.ref b_107)] [(.ref b_107)])) _
    refine XS.iload X107.here hx rfl (hb hby d4_30) rfl ?_
    show Steps p.tables e below (T107.setTop (mkF m 32 #[.val (.ref a1), .val (.int (0 : Int32)), .val (.int (4 : Int32)), .val (.ref b101), .val (.int r_104), .val (.ref b_107)] [(.int r_104), (.ref b_107)])) _
    refine st110 _ ?_
    show Steps p.tables e below (T110.setTop (mkF m 35 #[.val (.ref a1), .val (.int (0 : Int32)), .val (.int (4 : Int32)), .val (.ref b101), .val (.int r_104), .val (.ref b_107)] [(.int (f r_104.toNatClampNeg))])) _
    refine XS.sipush X110.here hx rfl (hb hby d4_35) ?_
    show Steps p.tables e below (T110.setTop (mkF m 38 #[.val (.ref a1), .val (.int (0 : Int32)), .val (.int (4 : Int32)), .val (.ref b101), .val (.int r_104), .val (.ref b_107)] [(.int (255 : Int32)), (.int (f r_104.toNatClampNeg))])) _
    refine XS.icmpYes X110.here hx rfl (pc0 := 38) (pc' := 54) rfl (hb hby d4_38) rfl (tlt P104_1).2.2.1 (by decide) (by decide) ?_
    show Steps p.tables e below (T110.setTop (mkF m 54 #[.val (.ref a1), .val (.int (0 : Int32)), .val (.int (4 : Int32)), .val (.ref b101), .val (.int r_104), .val (.ref b_107)] [])) _
    refine XS.aload X110.here hx rfl (hb hby d4_54) rfl rfl ?_
    show Steps p.tables e below (T110.setTop (mkF m 56 #[.val (.ref a1), .val (.int (0 : Int32)), .val (.int (4 : Int32)), .val (.ref b101), .val (.int r_104), .val (.ref b_107)] [(.ref b_107)])) _
    jvm_step X110.here [X110.here.top, hx, (hb hby d4_56), X110.method', Bd.returns, Value.isRef, FieldType.isReference]
    first | (intro acts; rw [hr _ acts rfl rfl rfl]) | rw [hr _ _ rfl rfl rfl]
    exact Steps.refl _
  · show Q4b Z a1 w f h0 n0 _ T110.heap _
    rw [P110_0]
    exact ⟨b_107, rfl, N110, K107, sz_b_107, P107_2⟩
theorem ef_6L (m : MethodId) (x0 : Addr) (x1 : Int32) : entryFrame m #[(.ref x0), (.int x1)] 2 = mkF m 0 #[.val (.ref x0), .val (.int x1)] [] := by first | (simp [entryFrame, mkF, argsToLocals, Value.category]; done) | rfl
theorem d6_0 : decode jdk_52_method_15_code 0 = .ok (.iload_n 1, 1) := by decide +kernel
theorem d6_1 : decode jdk_52_method_15_code 1 = .ok (.aload_n 0, 1) := by decide +kernel
theorem d6_2 : decode jdk_52_method_15_code 2 = .ok (.arraylength, 1) := by decide +kernel
theorem d6_3 : decode jdk_52_method_15_code 3 = .ok (.isub, 1) := by decide +kernel
theorem d6_4 : decode jdk_52_method_15_code 4 = .ok (.bipush 31, 2) := by decide +kernel
theorem d6_6 : decode jdk_52_method_15_code 6 = .ok (.iushr, 1) := by decide +kernel
theorem d6_7 : decode jdk_52_method_15_code 7 = .ok (.i2b, 1) := by decide +kernel
theorem d6_8 : decode jdk_52_method_15_code 8 = .ok (.ireturn, 1) := by decide +kernel
def Q6L (Z : State) (a1 : Addr) (p2 : Int32) (f : Nat → Int32) (h0 : Heap) (n0 : Nat) (v : Option Value) (h : Heap) (L : List Loc) : Prop := v = some (.int (0 : Int32)) ∧ Fr n0 L ∧ (h = h0)
set_option maxRecDepth 65536 in
set_option maxHeartbeats 40000000 in
theorem rm6L (l : Launch) (Z : State) (a0 : Array Value) (hw : ∀ d ∈ tables_1, d.before a0 Z = true) (ws : List Jvm.Cond) (a1 : Addr) (p2 : Int32) (f : Nat → Int32) (h0 : Heap) (n0 : Nat) (Z0 : n0 ≤ h0.size) (L1 : OwnL Z h0 a1 p2 f) :
    MetFree l (⟨"java/lang/StringUTF16", "coderFromArrayLen", "([BI)B"⟩ : MethodName) (head1 (Jvm.Cond.code (⟨"java/lang/StringUTF16", "coderFromArrayLen", "([BI)B"⟩ : MethodName) jdk_52_method_15_code 2 (some .byte) :: ws) ({ frames := 0, cells := 0, slots := 0, locals := 0 } : Room)) (fun a U => a = #[(.ref a1), (.int p2)] ∧ Z.Warmed39 U.vm ∧ U.heap = h0) (fun _ _ _ _ _ => True) (fun _ U o U' => ∃ v L, o = .returned v ∧ Q6L Z a1 p2 f h0 n0 v U'.heap L ∧ FrameEnd U o U' L ({ frames := 0, cells := 0, slots := 0, locals := 0 } : Room).cells ({ frames := 0, cells := 0, slots := 0, locals := 0 } : Room).slots) := by
  refine MetFree.of_bodySF (plainFor_of_name pn_2) hisR ?_
  intro p e s m args below meth c s₁ Bd hml0 hP hK
  obtain ⟨rfl, hZ0, hh⟩ := hP
  have hx := Bd.exec
  have hby := Bd.bytes
  have hml : c.maxLocals = 2 := hml0
  have hown0 : s.vm.findClass "java/lang/StringUTF16" = some m.cls := findClass_of_methodNamed Bd.named
  have hnm := (name_of_methodNamed Bd.named Bd.method).1
  have hlk : meth.locks = false := by first | exact BodyLoose.notSynchronized Bd | exact Body.notSynchronized Bd
  have X0 : Stand p l e ({ frames := 0, cells := 0, slots := 0, locals := 0 } : Room) s m #[(.ref a1), (.int p2)] below meth c s₁ [] 0 0 := Stand.of_body Bd
  have e0 : s₁.heap = h0 := by rw [← hh, Bd.state]; rfl
  have N0 := Fr.nil n0
  have pre0 : ∀ t, Steps p.tables e below (s₁.setTop (mkF m 0 #[.val (.ref a1), .val (.int p2)] [])) t → Steps p.tables e below (s₁.setTop (entryFrame m #[(.ref a1), (.int p2)] 2)) t := fun t k => castTop (ef_6L m a1 p2) k
  obtain ⟨cl101, Ar101, Sz101, Nn101, Hs101⟩ := (id L1)
  obtain ⟨fs, hr, hrun, hended, hW, hsame⟩ := X0.leave (v := some (.int (nar .byte ((((p2 - p2).toUInt32 >>> ((31 : Int32) &&& 31).toUInt32).toInt32).toInt8.toInt32)))) (fun h => by rw [Bd.returns] at h; cases h) hlk
  refine ⟨_, _, pre0 _ ?_, hrun, hended, _, _, rfl, ?_, ⟨_, rfl⟩, hW, hsame.mono (by decide) (by decide)⟩
  · show Steps p.tables e below (s₁.setTop (mkF m 0 #[.val (.ref a1), .val (.int p2)] [])) _
    refine XS.iloadN X0.here hx rfl (hb hby d6_0) rfl ?_
    show Steps p.tables e below (s₁.setTop (mkF m 1 #[.val (.ref a1), .val (.int p2)] [(.int p2)])) _
    refine XS.aloadN X0.here hx rfl (hb hby d6_1) rfl rfl ?_
    show Steps p.tables e below (s₁.setTop (mkF m 2 #[.val (.ref a1), .val (.int p2)] [(.ref a1), (.int p2)])) _
    refine X0.arraylength hx (by rw [e0]; exact Ar101.1) (State.isArrayOf_alike hZ0.alike Ar101.2.1) (g := (mkF m 2 #[.val (.ref a1), .val (.int p2)] [(.ref a1), (.int p2)])) rfl rfl (hb hby d6_2) _ ?_
    rw [len_of Sz101 Nn101]
    show Steps p.tables e below (s₁.setTop (mkF m 3 #[.val (.ref a1), .val (.int p2)] [(.int p2), (.int p2)])) _
    refine XS.isub X0.here hx rfl (hb hby d6_3) rfl ?_
    show Steps p.tables e below (s₁.setTop (mkF m 4 #[.val (.ref a1), .val (.int p2)] [(.int (p2 - p2))])) _
    refine XS.bipush X0.here hx rfl (hb hby d6_4) ?_
    show Steps p.tables e below (s₁.setTop (mkF m 6 #[.val (.ref a1), .val (.int p2)] [(.int (31 : Int32)), (.int (p2 - p2))])) _
    refine XS.iushr X0.here hx rfl (hb hby d6_6) rfl ?_
    show Steps p.tables e below (s₁.setTop (mkF m 7 #[.val (.ref a1), .val (.int p2)] [(.int (((p2 - p2).toUInt32 >>> ((31 : Int32) &&& 31).toUInt32).toInt32))])) _
    refine XS.i2b X0.here hx rfl (hb hby d6_7) rfl ?_
    show Steps p.tables e below (s₁.setTop (mkF m 8 #[.val (.ref a1), .val (.int p2)] [(.int ((((p2 - p2).toUInt32 >>> ((31 : Int32) &&& 31).toUInt32).toInt32).toInt8.toInt32))])) _
    exact retN X0 hx (t := .byte) Bd.returns (by simp) (hb hby d6_8) hr
  · show Q6L Z a1 p2 f h0 n0 _ s₁.heap _
    rw [e0]
    exact ⟨(congrArg (fun z => some (Value.int z)) (own_cfL p2 : (nar .byte ((((p2 - p2).toUInt32 >>> ((31 : Int32) &&& 31).toUInt32).toInt32).toInt8.toInt32)) = (0 : Int32))), N0, rfl⟩
theorem ef_6U (m : MethodId) (x0 : Addr) (x1 : Int32) : entryFrame m #[(.ref x0), (.int x1)] 2 = mkF m 0 #[.val (.ref x0), .val (.int x1)] [] := by first | (simp [entryFrame, mkF, argsToLocals, Value.category]; done) | rfl
def Q6U (Z : State) (a1 : Addr) (p2 : Int32) (f : Nat → Int32) (h0 : Heap) (n0 : Nat) (v : Option Value) (h : Heap) (L : List Loc) : Prop := v = some (.int (1 : Int32)) ∧ Fr n0 L ∧ (h = h0)
set_option maxRecDepth 65536 in
set_option maxHeartbeats 40000000 in
theorem rm6U (l : Launch) (Z : State) (a0 : Array Value) (hw : ∀ d ∈ tables_1, d.before a0 Z = true) (ws : List Jvm.Cond) (a1 : Addr) (p2 : Int32) (f : Nat → Int32) (h0 : Heap) (n0 : Nat) (Z0 : n0 ≤ h0.size) (L1 : OwnU Z h0 a1 p2 f) (sm : own_sm p2) :
    MetFree l (⟨"java/lang/StringUTF16", "coderFromArrayLen", "([BI)B"⟩ : MethodName) (head1 (Jvm.Cond.code (⟨"java/lang/StringUTF16", "coderFromArrayLen", "([BI)B"⟩ : MethodName) jdk_52_method_15_code 2 (some .byte) :: ws) ({ frames := 0, cells := 0, slots := 0, locals := 0 } : Room)) (fun a U => a = #[(.ref a1), (.int p2)] ∧ Z.Warmed39 U.vm ∧ U.heap = h0) (fun _ _ _ _ _ => True) (fun _ U o U' => ∃ v L, o = .returned v ∧ Q6U Z a1 p2 f h0 n0 v U'.heap L ∧ FrameEnd U o U' L ({ frames := 0, cells := 0, slots := 0, locals := 0 } : Room).cells ({ frames := 0, cells := 0, slots := 0, locals := 0 } : Room).slots) := by
  refine MetFree.of_bodySF (plainFor_of_name pn_2) hisR ?_
  intro p e s m args below meth c s₁ Bd hml0 hP hK
  obtain ⟨rfl, hZ0, hh⟩ := hP
  have hx := Bd.exec
  have hby := Bd.bytes
  have hml : c.maxLocals = 2 := hml0
  have hown0 : s.vm.findClass "java/lang/StringUTF16" = some m.cls := findClass_of_methodNamed Bd.named
  have hnm := (name_of_methodNamed Bd.named Bd.method).1
  have hlk : meth.locks = false := by first | exact BodyLoose.notSynchronized Bd | exact Body.notSynchronized Bd
  have X0 : Stand p l e ({ frames := 0, cells := 0, slots := 0, locals := 0 } : Room) s m #[(.ref a1), (.int p2)] below meth c s₁ [] 0 0 := Stand.of_body Bd
  have e0 : s₁.heap = h0 := by rw [← hh, Bd.state]; rfl
  have N0 := Fr.nil n0
  have pre0 : ∀ t, Steps p.tables e below (s₁.setTop (mkF m 0 #[.val (.ref a1), .val (.int p2)] [])) t → Steps p.tables e below (s₁.setTop (entryFrame m #[(.ref a1), (.int p2)] 2)) t := fun t k => castTop (ef_6U m a1 p2) k
  obtain ⟨cl101, Ar101, Sz101, Nn101, Hs101⟩ := (id L1)
  obtain ⟨fs, hr, hrun, hended, hW, hsame⟩ := X0.leave (v := some (.int (nar .byte ((((p2 - (own_d p2)).toUInt32 >>> ((31 : Int32) &&& 31).toUInt32).toInt32).toInt8.toInt32)))) (fun h => by rw [Bd.returns] at h; cases h) hlk
  refine ⟨_, _, pre0 _ ?_, hrun, hended, _, _, rfl, ?_, ⟨_, rfl⟩, hW, hsame.mono (by decide) (by decide)⟩
  · show Steps p.tables e below (s₁.setTop (mkF m 0 #[.val (.ref a1), .val (.int p2)] [])) _
    refine XS.iloadN X0.here hx rfl (hb hby d6_0) rfl ?_
    show Steps p.tables e below (s₁.setTop (mkF m 1 #[.val (.ref a1), .val (.int p2)] [(.int p2)])) _
    refine XS.aloadN X0.here hx rfl (hb hby d6_1) rfl rfl ?_
    show Steps p.tables e below (s₁.setTop (mkF m 2 #[.val (.ref a1), .val (.int p2)] [(.ref a1), (.int p2)])) _
    refine X0.arraylength hx (by rw [e0]; exact Ar101.1) (State.isArrayOf_alike hZ0.alike Ar101.2.1) (g := (mkF m 2 #[.val (.ref a1), .val (.int p2)] [(.ref a1), (.int p2)])) rfl rfl (hb hby d6_2) _ ?_
    rw [len_of Sz101 Nn101]
    show Steps p.tables e below (s₁.setTop (mkF m 3 #[.val (.ref a1), .val (.int p2)] [(.int (own_d p2)), (.int p2)])) _
    refine XS.isub X0.here hx rfl (hb hby d6_3) rfl ?_
    show Steps p.tables e below (s₁.setTop (mkF m 4 #[.val (.ref a1), .val (.int p2)] [(.int (p2 - (own_d p2)))])) _
    refine XS.bipush X0.here hx rfl (hb hby d6_4) ?_
    show Steps p.tables e below (s₁.setTop (mkF m 6 #[.val (.ref a1), .val (.int p2)] [(.int (31 : Int32)), (.int (p2 - (own_d p2)))])) _
    refine XS.iushr X0.here hx rfl (hb hby d6_6) rfl ?_
    show Steps p.tables e below (s₁.setTop (mkF m 7 #[.val (.ref a1), .val (.int p2)] [(.int (((p2 - (own_d p2)).toUInt32 >>> ((31 : Int32) &&& 31).toUInt32).toInt32))])) _
    refine XS.i2b X0.here hx rfl (hb hby d6_7) rfl ?_
    show Steps p.tables e below (s₁.setTop (mkF m 8 #[.val (.ref a1), .val (.int p2)] [(.int ((((p2 - (own_d p2)).toUInt32 >>> ((31 : Int32) &&& 31).toUInt32).toInt32).toInt8.toInt32))])) _
    exact retN X0 hx (t := .byte) Bd.returns (by simp) (hb hby d6_8) hr
  · show Q6U Z a1 p2 f h0 n0 _ s₁.heap _
    rw [e0]
    exact ⟨(congrArg (fun z => some (Value.int z)) ((own_e1 (P := fun n => (nar .byte (((n - (own_d n)).toUInt32 >>> ((31 : Int32) &&& 31).toUInt32).toInt32.toInt8.toInt32)) = 1) sm (by decide +kernel)) : (nar .byte ((((p2 - (own_d p2)).toUInt32 >>> ((31 : Int32) &&& 31).toUInt32).toInt32).toInt8.toInt32)) = (1 : Int32))), N0, rfl⟩
theorem ef_2 (m : MethodId) (x0 : Addr) (x1 : Addr) : entryFrame m #[(.ref x0), (.ref x1), (.int (0 : Int32)), (.int (4 : Int32)), .null] 6 = mkF m 0 #[.val (.ref x0), .val (.ref x1), .val (.int (0 : Int32)), .val (.int (4 : Int32)), .val .null, .unset] [] := by first | (simp [entryFrame, mkF, argsToLocals, Value.category]; done) | rfl
theorem d2_0 : decode jdk_42_method_149_code 0 = .ok (.aload_n 0, 1) := by decide +kernel
theorem d2_1 : decode jdk_42_method_149_code 1 = .ok (.invokespecial 1, 3) := by decide +kernel
theorem d2_4 : decode jdk_42_method_149_code 4 = .ok (.iload_n 3, 1) := by decide +kernel
theorem d2_5 : decode jdk_42_method_149_code 5 = .ok (.ifCond .ne 22, 3) := by decide +kernel
theorem d2_27 : decode jdk_42_method_149_code 27 = .ok (.getstatic 38, 3) := by decide +kernel
theorem d2_30 : decode jdk_42_method_149_code 30 = .ok (.ifCond .eq 28, 3) := by decide +kernel
theorem d2_33 : decode jdk_42_method_149_code 33 = .ok (.aload_n 1, 1) := by decide +kernel
theorem d2_34 : decode jdk_42_method_149_code 34 = .ok (.iload_n 2, 1) := by decide +kernel
theorem d2_35 : decode jdk_42_method_149_code 35 = .ok (.iload_n 3, 1) := by decide +kernel
theorem d2_36 : decode jdk_42_method_149_code 36 = .ok (.invokestatic 177, 3) := by decide +kernel
theorem d2_39 : decode jdk_42_method_149_code 39 = .ok (.astore 5, 2) := by decide +kernel
theorem d2_41 : decode jdk_42_method_149_code 41 = .ok (.aload_n 0, 1) := by decide +kernel
theorem d2_42 : decode jdk_42_method_149_code 42 = .ok (.aload 5, 2) := by decide +kernel
theorem d2_44 : decode jdk_42_method_149_code 44 = .ok (.iload_n 3, 1) := by decide +kernel
theorem d2_45 : decode jdk_42_method_149_code 45 = .ok (.invokestatic 47, 3) := by decide +kernel
theorem pd_12 : parseMethodDescriptor "([BI)B" = some ⟨[(.array .byte), .int], some .byte⟩ := by decide +kernel
theorem d2_48 : decode jdk_42_method_149_code 48 = .ok (.putfield 15, 3) := by decide +kernel
theorem d2_51 : decode jdk_42_method_149_code 51 = .ok (.aload_n 0, 1) := by decide +kernel
theorem d2_52 : decode jdk_42_method_149_code 52 = .ok (.aload 5, 2) := by decide +kernel
theorem d2_54 : decode jdk_42_method_149_code 54 = .ok (.putfield 9, 3) := by decide +kernel
theorem d2_57 : decode jdk_42_method_149_code 57 = .ok (.return_, 1) := by decide +kernel
def Q2 (Z : State) (a1 : Addr) (a2 : Addr) (w : Int32) (f : Nat → Int32) (h0 : Heap) (n0 : Nat) (v : Option Value) (h : Heap) (L : List Loc) : Prop := ∃ b : Addr, v = none ∧ Fr n0 L ∧ (Keep h0 h [a1]) ∧ (h0.size ≤ b) ∧ (OwnS Z h a1 b (4 : Int32) f)
set_option maxRecDepth 65536 in
set_option maxHeartbeats 40000000 in
theorem rm2 (l : Launch) (Z : State) (a0 : Array Value) (hw : ∀ d ∈ tables_1, d.before a0 Z = true) (ws : List Jvm.Cond) (a1 : Addr) (a2 : Addr) (w : Int32) (f : Nat → Int32) (h0 : Heap) (n0 : Nat) (Z0 : n0 ≤ h0.size) (O0 : Old Z n0 h0) (S0 : Sta Z Z.heap "java/lang/String" "COMPACT_STRINGS" "Z" (.int w)) (hw0 : ¬ (w = (0 : Int32))) (SA : Sta Z Z.heap "java/lang/StringUTF16" "$assertionsDisabled" "Z" (.int (1 : Int32))) (SHI : Sta Z Z.heap "java/lang/StringUTF16" "HI_BYTE_SHIFT" "I" (.int (0 : Int32))) (SLO : Sta Z Z.heap "java/lang/StringUTF16" "LO_BYTE_SHIFT" "I" (.int (8 : Int32))) (FM : Fmt Z) (E1 : Exa Z h0 a1 "java/lang/String") (g1 : n0 ≤ a1) (F1 : Fld Z h0 a1 "java/lang/String" "value" "[B" .null) (F2 : Fld Z h0 a1 "java/lang/String" "coder" "B" (.int (0 : Int32))) (C2 : OwnC Z h0 a2 (4 : Int32) f) (hf : own_ch f) (n12 : a1 ≠ a2) :
    MetFree l (⟨"java/lang/String", "<init>", "([CIILjava/lang/Void;)V"⟩ : MethodName) (head1 (Jvm.Cond.code (⟨"java/lang/String", "<init>", "([CIILjava/lang/Void;)V"⟩ : MethodName) jdk_42_method_149_code 6 none :: ws) ({ frames := 4, cells := 2, slots := 32, locals := 57 } : Room)) (fun a U => a = #[(.ref a1), (.ref a2), (.int (0 : Int32)), (.int (4 : Int32)), .null] ∧ Z.Warmed39 U.vm ∧ U.heap = h0) (fun _ _ _ _ _ => True) (fun _ U o U' => ∃ v L, o = .returned v ∧ Q2 Z a1 a2 w f h0 n0 v U'.heap L ∧ FrameEnd U o U' L ({ frames := 4, cells := 2, slots := 32, locals := 57 } : Room).cells ({ frames := 4, cells := 2, slots := 32, locals := 57 } : Room).slots) := by
  refine MetFree.of_bodySF (plainFor_of_name pn_1) hisR ?_
  intro p e s m args below meth c s₁ Bd hml0 hP hK
  obtain ⟨rfl, hZ0, hh⟩ := hP
  have hx := Bd.exec
  have hby := Bd.bytes
  have hml : c.maxLocals = 6 := hml0
  have hown0 : s.vm.findClass "java/lang/String" = some m.cls := findClass_of_methodNamed Bd.named
  have hnm := (name_of_methodNamed Bd.named Bd.method).1
  have hlk : meth.locks = false := by first | exact BodyLoose.notSynchronized Bd | exact Body.notSynchronized Bd
  have X0 : Stand p l e ({ frames := 4, cells := 2, slots := 32, locals := 57 } : Room) s m #[(.ref a1), (.ref a2), (.int (0 : Int32)), (.int (4 : Int32)), .null] below meth c s₁ [] 0 0 := Stand.of_body Bd
  have e0 : s₁.heap = h0 := by rw [← hh, Bd.state]; rfl
  have N0 := Fr.nil n0
  have pre0 : ∀ t, Steps p.tables e below (s₁.setTop (mkF m 0 #[.val (.ref a1), .val (.ref a2), .val (.int (0 : Int32)), .val (.int (4 : Int32)), .val .null, .unset] [])) t → Steps p.tables e below (s₁.setTop (entryFrame m #[(.ref a1), (.ref a2), (.int (0 : Int32)), (.int (4 : Int32)), .null] 6)) t := fun t k => castTop (ef_2 m a1 a2) k
  obtain ⟨T101, X101, e101, st101⟩ := initO X0 hx hZ0 hown0 (hw _ (List.mem_of_getElem? (i := 12) rfl)) (hw _ (List.mem_of_getElem? (i := 13) rfl)) (hw _ (List.mem_of_getElem? (i := 14) rfl)) e0 (g := (mkF m 1 #[.val (.ref a1), .val (.ref a2), .val (.int (0 : Int32)), .val (.int (4 : Int32)), .val .null, .unset] [(.ref a1)])) rfl (by rw [hml]; rfl) rfl (hb hby d2_1) (by decide) (W := 0) (by show 2 * 0 + _ ≤ _; exact Nat.le_of_eq rfl) (by decide)
  have pr102 : ∀ tg9, Steps p.tables e below (T101.setTop (mkF m 27 #[.val (.ref a1), .val (.ref a2), .val (.int (0 : Int32)), .val (.int (4 : Int32)), .val .null, .unset] [])) tg9 → Steps p.tables e below (s₁.setTop (mkF m 0 #[.val (.ref a1), .val (.ref a2), .val (.int (0 : Int32)), .val (.int (4 : Int32)), .val .null, .unset] [])) tg9 := fun tg9 kt => by
    show Steps p.tables e below (s₁.setTop (mkF m 0 #[.val (.ref a1), .val (.ref a2), .val (.int (0 : Int32)), .val (.int (4 : Int32)), .val .null, .unset] [])) _
    refine XS.aloadN X0.here hx rfl (hb hby d2_0) rfl rfl ?_
    show Steps p.tables e below (s₁.setTop (mkF m 1 #[.val (.ref a1), .val (.ref a2), .val (.int (0 : Int32)), .val (.int (4 : Int32)), .val .null, .unset] [(.ref a1)])) _
    refine st101 _ ?_
    show Steps p.tables e below (T101.setTop (mkF m 4 #[.val (.ref a1), .val (.ref a2), .val (.int (0 : Int32)), .val (.int (4 : Int32)), .val .null, .unset] [])) _
    refine XS.iloadN X101.here hx rfl (hb hby d2_4) rfl ?_
    show Steps p.tables e below (T101.setTop (mkF m 5 #[.val (.ref a1), .val (.ref a2), .val (.int (0 : Int32)), .val (.int (4 : Int32)), .val .null, .unset] [(.int (4 : Int32))])) _
    refine XS.ifYes X101.here hx rfl (pc0 := 5) (pc' := 27) rfl (hb hby d2_5) rfl ((if0 _ _).trans (feq (by decide : ¬ ((4 : Int32) = (0 : Int32)))).2) (by decide) (by decide) ?_
    exact kt
  by_cases hc103 : own_lat f (4 : Int32)
  · obtain ⟨T104, X104, e104, st104⟩ := getS2 X101 hx hZ0 hown0 (host := "") (Or.inl (hw _ (List.mem_of_getElem? (i := 15) rfl))) Via.refl e101 (Sta.ext O0.2 S0) (g := (mkF m 27 #[.val (.ref a1), .val (.ref a2), .val (.int (0 : Int32)), .val (.int (4 : Int32)), .val .null, .unset] [])) rfl (hb hby d2_27)
    obtain ⟨_, _, ⟨T105, L105, k105, n105⟩, -, X105, ⟨Lc105, hQ105, l105, y105, z105⟩, st105⟩ := Jvm.LawKit.callS X104 hx (y := (⟨"java/lang/StringUTF16", "compress", "([CII)[B"⟩ : MethodName)) hown0 (mvT hZ0 (hw _ (List.mem_of_getElem? (i := 16) rfl))) (mvT hZ0 (hw _ (List.mem_of_getElem? (i := 17) rfl))) (mvT hZ0 (hw _ (List.mem_of_getElem? (i := 18) rfl))) (mvT hZ0 (hw _ (List.mem_of_getElem? (i := 19) rfl))) (by decide) (backOf (W := 0) (rm4a l Z a0 hw [] a2 w f h0 n0 Z0 O0 S0 hw0 SA SHI SLO FM C2 hc103) hZ0 (hw _ (List.mem_of_getElem? (i := 19) rfl)) (hw _ (List.mem_of_getElem? (i := 18) rfl)) (by decide) (by decide)) (g := (mkF m 36 #[.val (.ref a1), .val (.ref a2), .val (.int (0 : Int32)), .val (.int (4 : Int32)), .val .null, .unset] [(.int (4 : Int32)), (.int (0 : Int32)), (.ref a2)])) rfl (by rw [hml]; rfl) (argsL := [(.ref a2), (.int (0 : Int32)), (.int (4 : Int32))]) (rest := []) (lenOf pd_11 rfl) rfl (by show 2 * 0 + _ ≤ _; exact Nat.le_of_eq rfl) (hb hby d2_36) (fun _ _ => ⟨rfl, e104, (by decide : 0 + 1 ≤ _), (by decide : 0 + 16 ≤ _)⟩)
    dsimp only [Pt.U, Pt.locs, Pt.cells, Pt.slots] at X105 l105 y105 z105 st105 hQ105
    subst l105 y105 z105
    obtain ⟨b_105, rfl, N105q, P105_0, P105_1, P105_2⟩ := hQ105
    have N105 := Fr.app N0 N105q
    have ne_a1_b_105 : a1 ≠ b_105 := Nat.ne_of_lt (Nat.lt_of_lt_of_le E1.lt P105_1)
    have ne_a2_b_105 : a2 ≠ b_105 := Nat.ne_of_lt (Nat.lt_of_lt_of_le C2.lt P105_1)
    have gn_b_105 : n0 ≤ b_105 := Nat.le_trans Z0 P105_1
    have sz_b_105 : h0.size ≤ b_105 := Nat.le_trans (Keep.refl h0 [a1]).1 P105_1
    have f106 : Old Z n0 T105.heap := O0.keep P105_0 all0
    have f107 : Exa Z T105.heap a1 "java/lang/String" := E1.keep P105_0
    have f108 : Fld Z T105.heap a1 "java/lang/String" "value" "[B" .null := F1.keep P105_0 nin0
    have f109 : Fld Z T105.heap a1 "java/lang/String" "coder" "B" (.int (0 : Int32)) := F2.keep P105_0 nin0
    have f110 : OwnC Z T105.heap a2 (4 : Int32) f := OwnC.keep C2 P105_0 nin0
    have Zs105 : n0 ≤ T105.heap.size := Nat.le_trans Z0 P105_0.1
    have K105 : Keep h0 T105.heap [a1] := (Keep.refl h0 [a1]).trans P105_0 all0
    obtain ⟨_, _, ⟨T111, L111, k111, n111⟩, -, X111, ⟨Lc111, hQ111, l111, y111, z111⟩, st111⟩ := Jvm.LawKit.callS X105 hx (y := (⟨"java/lang/StringUTF16", "coderFromArrayLen", "([BI)B"⟩ : MethodName)) hown0 (mvT hZ0 (hw _ (List.mem_of_getElem? (i := 24) rfl))) (mvT hZ0 (hw _ (List.mem_of_getElem? (i := 25) rfl))) (mvT hZ0 (hw _ (List.mem_of_getElem? (i := 18) rfl))) (mvT hZ0 (hw _ (List.mem_of_getElem? (i := 26) rfl))) (by decide) (backOf (W := 1) (rm6L l Z a0 hw [] b_105 (4 : Int32) f T105.heap n0 Zs105 P105_2) hZ0 (hw _ (List.mem_of_getElem? (i := 26) rfl)) (hw _ (List.mem_of_getElem? (i := 18) rfl)) (by decide) (by decide)) (g := (mkF m 45 #[.val (.ref a1), .val (.ref a2), .val (.int (0 : Int32)), .val (.int (4 : Int32)), .val .null, .val (.ref b_105)] [(.int (4 : Int32)), (.ref b_105), (.ref a1)])) rfl (by rw [hml]; rfl) (argsL := [(.ref b_105), (.int (4 : Int32))]) (rest := [(.ref a1)]) (lenOf pd_12 rfl) rfl (by show 2 * 0 + _ ≤ _; exact Nat.le_of_eq rfl) (hb hby d2_45) (fun _ _ => ⟨rfl, rfl, (by decide : 1 + 0 ≤ _), (by decide : 16 + 0 ≤ _)⟩)
    dsimp only [Pt.U, Pt.locs, Pt.cells, Pt.slots] at X111 l111 y111 z111 st111 hQ111
    subst l111 y111 z111
    obtain ⟨rfl, N111q, P111_0⟩ := hQ111
    have N111 := Fr.app N105 N111q
    obtain ⟨T112, h112, X112, e112, W112, st112⟩ := putFN X111 hx hZ0 hown0 (hw _ (List.mem_of_getElem? (i := 27) rfl)) Via.refl P111_0 f109 f107 (Or.inr ⟨(hw _ (List.mem_of_getElem? (i := 28) rfl)), rfl, hnm⟩) (hw _ (List.mem_of_getElem? (i := 3) rfl)) (ty := .byte) (v' := (.int (0 : Int32))) (by decide) rfl (by decide) (g := (mkF m 48 #[.val (.ref a1), .val (.ref a2), .val (.int (0 : Int32)), .val (.int (4 : Int32)), .val .null, .val (.ref b_105)] [(.int (0 : Int32)), (.ref a1)])) rfl rfl (hb hby d2_48)
    have f113 : Old Z n0 h112 := f106.wr W112 g1
    have f114 : Exa Z h112 a1 "java/lang/String" := Exa.wr W112 f107
    have f115 : Fld Z h112 a1 "java/lang/String" "value" "[B" .null := Fld.other W112 f108 (Or.inr (slot_ne (Or.inr (hw _ (List.mem_of_getElem? (i := 30) rfl))) (Or.inr (hw _ (List.mem_of_getElem? (i := 28) rfl))) (by decide) (t := (.array .byte)) (t' := .byte) (by decide) (by decide)))
    have f116 : OwnC Z h112 a2 (4 : Int32) f := OwnC.other f110 W112 (Ne.symm n12)
    have f117 : OwnL Z h112 b_105 (4 : Int32) f := OwnL.other P105_2 W112 (Ne.symm ne_a1_b_105)
    have f118 : Fld Z h112 a1 "java/lang/String" "coder" "B" (.int (0 : Int32)) := f109.same W112
    have Zs112 : n0 ≤ h112.size := Nat.le_trans Zs105 (Keep.of_wr W112).1
    have N112 := Fr.snoc X112 N111 g1
    have K112 : Keep h0 h112 [a1] := K105.wr W112 (Or.inl (List.mem_of_getElem? (i := 0) rfl))
    obtain ⟨T119, h119, X119, e119, W119, st119⟩ := putF X112 hx hZ0 hown0 (host := "") (Or.inl (hw _ (List.mem_of_getElem? (i := 29) rfl))) Via.refl e112 f115 f114 (Or.inr ⟨(hw _ (List.mem_of_getElem? (i := 30) rfl)), rfl, hnm⟩) (hw _ (List.mem_of_getElem? (i := 3) rfl)) (ty := (.array .byte)) (by decide) rfl rfl (g := (mkF m 54 #[.val (.ref a1), .val (.ref a2), .val (.int (0 : Int32)), .val (.int (4 : Int32)), .val .null, .val (.ref b_105)] [(.ref b_105), (.ref a1)])) rfl rfl (hb hby d2_54)
    have f120 : Old Z n0 h119 := f113.wr W119 g1
    have f121 : Exa Z h119 a1 "java/lang/String" := Exa.wr W119 f114
    have f122 : OwnC Z h119 a2 (4 : Int32) f := OwnC.other f116 W119 (Ne.symm n12)
    have f123 : OwnL Z h119 b_105 (4 : Int32) f := OwnL.other f117 W119 (Ne.symm ne_a1_b_105)
    have f124 : Fld Z h119 a1 "java/lang/String" "coder" "B" (.int (0 : Int32)) := Fld.other W119 f118 (Or.inr (slot_ne (Or.inr (hw _ (List.mem_of_getElem? (i := 28) rfl))) (Or.inr (hw _ (List.mem_of_getElem? (i := 30) rfl))) (by decide) (t := .byte) (t' := (.array .byte)) (by decide) (by decide)))
    have f125 : Fld Z h119 a1 "java/lang/String" "value" "[B" (.ref b_105) := f115.same W119
    have Zs119 : n0 ≤ h119.size := Nat.le_trans Zs112 (Keep.of_wr W119).1
    have N119 := Fr.snoc X119 N112 g1
    have K119 : Keep h0 h119 [a1] := K112.wr W119 (Or.inl (List.mem_of_getElem? (i := 0) rfl))
    obtain ⟨fs, hr, hrun, hended, hW, hsame⟩ := X119.leave (v := none) (fun _ => rfl) hlk
    refine ⟨_, _, pre0 _ ?_, hrun, hended, _, _, rfl, ?_, ⟨_, rfl⟩, hW, hsame.mono (by decide) (by decide)⟩
    · refine pr102 _ ?_
      show Steps p.tables e below (T101.setTop (mkF m 27 #[.val (.ref a1), .val (.ref a2), .val (.int (0 : Int32)), .val (.int (4 : Int32)), .val .null, .unset] [])) _
      refine st104 _ ?_
      show Steps p.tables e below (T104.setTop (mkF m 30 #[.val (.ref a1), .val (.ref a2), .val (.int (0 : Int32)), .val (.int (4 : Int32)), .val .null, .unset] [(.int w)])) _
      refine XS.ifNo X104.here hx rfl (hb hby d2_30) rfl ((if0 _ _).trans (feq hw0).1) ?_
      show Steps p.tables e below (T104.setTop (mkF m 33 #[.val (.ref a1), .val (.ref a2), .val (.int (0 : Int32)), .val (.int (4 : Int32)), .val .null, .unset] [])) _
      refine XS.aloadN X104.here hx rfl (hb hby d2_33) rfl rfl ?_
      show Steps p.tables e below (T104.setTop (mkF m 34 #[.val (.ref a1), .val (.ref a2), .val (.int (0 : Int32)), .val (.int (4 : Int32)), .val .null, .unset] [(.ref a2)])) _
      refine XS.iloadN X104.here hx rfl (hb hby d2_34) rfl ?_
      show Steps p.tables e below (T104.setTop (mkF m 35 #[.val (.ref a1), .val (.ref a2), .val (.int (0 : Int32)), .val (.int (4 : Int32)), .val .null, .unset] [(.int (0 : Int32)), (.ref a2)])) _
      refine XS.iloadN X104.here hx rfl (hb hby d2_35) rfl ?_
      show Steps p.tables e below (T104.setTop (mkF m 36 #[.val (.ref a1), .val (.ref a2), .val (.int (0 : Int32)), .val (.int (4 : Int32)), .val .null, .unset] [(.int (4 : Int32)), (.int (0 : Int32)), (.ref a2)])) _
      refine st105 _ ?_
      show Steps p.tables e below (T105.setTop (mkF m 39 #[.val (.ref a1), .val (.ref a2), .val (.int (0 : Int32)), .val (.int (4 : Int32)), .val .null, .unset] [(.ref b_105)])) _
      refine XS.astore X105.here hx rfl (hb hby d2_39) rfl rfl (l' := #[.val (.ref a1), .val (.ref a2), .val (.int (0 : Int32)), .val (.int (4 : Int32)), .val .null, .val (.ref b_105)]) rfl ?_
      show Steps p.tables e below (T105.setTop (mkF m 41 #[.val (.ref a1), .val (.ref a2), .val (.int (0 : Int32)), .val (.int (4 : Int32)), .val .null, .val (.ref b_105)] [])) _
      refine XS.aloadN X105.here hx rfl (hb hby d2_41) rfl rfl ?_
      show Steps p.tables e below (T105.setTop (mkF m 42 #[.val (.ref a1), .val (.ref a2), .val (.int (0 : Int32)), .val (.int (4 : Int32)), .val .null, .val (.ref b_105)] [(.ref a1)])) _
      refine XS.aload X105.here hx rfl (hb hby d2_42) rfl rfl ?_
      show Steps p.tables e below (T105.setTop (mkF m 44 #[.val (.ref a1), .val (.ref a2), .val (.int (0 : Int32)), .val (.int (4 : Int32)), .val .null, .val (.ref b_105)] [(.ref b_105), (.ref a1)])) _
      refine XS.iloadN X105.here hx rfl (hb hby d2_44) rfl ?_
      show Steps p.tables e below (T105.setTop (mkF m 45 #[.val (.ref a1), .val (.ref a2), .val (.int (0 : Int32)), .val (.int (4 : Int32)), .val .null, .val (.ref b_105)] [(.int (4 : Int32)), (.ref b_105), (.ref a1)])) _
      refine st111 _ ?_
      show Steps p.tables e below (T111.setTop (mkF m 48 #[.val (.ref a1), .val (.ref a2), .val (.int (0 : Int32)), .val (.int (4 : Int32)), .val .null, .val (.ref b_105)] [(.int (0 : Int32)), (.ref a1)])) _
      refine st112 _ ?_
      show Steps p.tables e below (T112.setTop (mkF m 51 #[.val (.ref a1), .val (.ref a2), .val (.int (0 : Int32)), .val (.int (4 : Int32)), .val .null, .val (.ref b_105)] [])) _
      refine XS.aloadN X112.here hx rfl (hb hby d2_51) rfl rfl ?_
      show Steps p.tables e below (T112.setTop (mkF m 52 #[.val (.ref a1), .val (.ref a2), .val (.int (0 : Int32)), .val (.int (4 : Int32)), .val .null, .val (.ref b_105)] [(.ref a1)])) _
      refine XS.aload X112.here hx rfl (hb hby d2_52) rfl rfl ?_
      show Steps p.tables e below (T112.setTop (mkF m 54 #[.val (.ref a1), .val (.ref a2), .val (.int (0 : Int32)), .val (.int (4 : Int32)), .val .null, .val (.ref b_105)] [(.ref b_105), (.ref a1)])) _
      refine st119 _ ?_
      show Steps p.tables e below (T119.setTop (mkF m 57 #[.val (.ref a1), .val (.ref a2), .val (.int (0 : Int32)), .val (.int (4 : Int32)), .val .null, .val (.ref b_105)] [])) _
      exact X119.returnOut hx Bd.returns (hb hby d2_57) hr
    · show Q2 Z a1 a2 w f h0 n0 _ T119.heap _
      rw [e119]
      exact ⟨b_105, rfl, N119, K119, P105_1, ⟨f121, f125, Or.inl ⟨f124, f123, hc103⟩⟩⟩
  · obtain ⟨T126, X126, e126, st126⟩ := getS2 X101 hx hZ0 hown0 (host := "") (Or.inl (hw _ (List.mem_of_getElem? (i := 15) rfl))) Via.refl e101 (Sta.ext O0.2 S0) (g := (mkF m 27 #[.val (.ref a1), .val (.ref a2), .val (.int (0 : Int32)), .val (.int (4 : Int32)), .val .null, .unset] [])) rfl (hb hby d2_27)
    obtain ⟨_, _, ⟨T127, L127, k127, n127⟩, -, X127, ⟨Lc127, hQ127, l127, y127, z127⟩, st127⟩ := Jvm.LawKit.callS X126 hx (y := (⟨"java/lang/StringUTF16", "compress", "([CII)[B"⟩ : MethodName)) hown0 (mvT hZ0 (hw _ (List.mem_of_getElem? (i := 16) rfl))) (mvT hZ0 (hw _ (List.mem_of_getElem? (i := 17) rfl))) (mvT hZ0 (hw _ (List.mem_of_getElem? (i := 18) rfl))) (mvT hZ0 (hw _ (List.mem_of_getElem? (i := 19) rfl))) (by decide) (backOf (W := 0) (rm4b l Z a0 hw [] a2 w f h0 n0 Z0 O0 S0 hw0 SA SHI SLO FM C2 hf hc103) hZ0 (hw _ (List.mem_of_getElem? (i := 19) rfl)) (hw _ (List.mem_of_getElem? (i := 18) rfl)) (by decide) (by decide)) (g := (mkF m 36 #[.val (.ref a1), .val (.ref a2), .val (.int (0 : Int32)), .val (.int (4 : Int32)), .val .null, .unset] [(.int (4 : Int32)), (.int (0 : Int32)), (.ref a2)])) rfl (by rw [hml]; rfl) (argsL := [(.ref a2), (.int (0 : Int32)), (.int (4 : Int32))]) (rest := []) (lenOf pd_11 rfl) rfl (by show 2 * 0 + _ ≤ _; exact Nat.le_of_eq rfl) (hb hby d2_36) (fun _ _ => ⟨rfl, e126, (by decide : 0 + 2 ≤ _), (by decide : 0 + 32 ≤ _)⟩)
    dsimp only [Pt.U, Pt.locs, Pt.cells, Pt.slots] at X127 l127 y127 z127 st127 hQ127
    subst l127 y127 z127
    obtain ⟨b_127, rfl, N127q, P127_0, P127_1, P127_2⟩ := hQ127
    have N127 := Fr.app N0 N127q
    have ne_a1_b_127 : a1 ≠ b_127 := Nat.ne_of_lt (Nat.lt_of_lt_of_le E1.lt P127_1)
    have ne_a2_b_127 : a2 ≠ b_127 := Nat.ne_of_lt (Nat.lt_of_lt_of_le C2.lt P127_1)
    have gn_b_127 : n0 ≤ b_127 := Nat.le_trans Z0 P127_1
    have sz_b_127 : h0.size ≤ b_127 := Nat.le_trans (Keep.refl h0 [a1]).1 P127_1
    have f128 : Old Z n0 T127.heap := O0.keep P127_0 all0
    have f129 : Exa Z T127.heap a1 "java/lang/String" := E1.keep P127_0
    have f130 : Fld Z T127.heap a1 "java/lang/String" "value" "[B" .null := F1.keep P127_0 nin0
    have f131 : Fld Z T127.heap a1 "java/lang/String" "coder" "B" (.int (0 : Int32)) := F2.keep P127_0 nin0
    have f132 : OwnC Z T127.heap a2 (4 : Int32) f := OwnC.keep C2 P127_0 nin0
    have Zs127 : n0 ≤ T127.heap.size := Nat.le_trans Z0 P127_0.1
    have K127 : Keep h0 T127.heap [a1] := (Keep.refl h0 [a1]).trans P127_0 all0
    obtain ⟨_, _, ⟨T133, L133, k133, n133⟩, -, X133, ⟨Lc133, hQ133, l133, y133, z133⟩, st133⟩ := Jvm.LawKit.callS X127 hx (y := (⟨"java/lang/StringUTF16", "coderFromArrayLen", "([BI)B"⟩ : MethodName)) hown0 (mvT hZ0 (hw _ (List.mem_of_getElem? (i := 24) rfl))) (mvT hZ0 (hw _ (List.mem_of_getElem? (i := 25) rfl))) (mvT hZ0 (hw _ (List.mem_of_getElem? (i := 18) rfl))) (mvT hZ0 (hw _ (List.mem_of_getElem? (i := 26) rfl))) (by decide) (backOf (W := 1) (rm6U l Z a0 hw [] b_127 (4 : Int32) f T127.heap n0 Zs127 P127_2 (⟨by decide, by decide⟩)) hZ0 (hw _ (List.mem_of_getElem? (i := 26) rfl)) (hw _ (List.mem_of_getElem? (i := 18) rfl)) (by decide) (by decide)) (g := (mkF m 45 #[.val (.ref a1), .val (.ref a2), .val (.int (0 : Int32)), .val (.int (4 : Int32)), .val .null, .val (.ref b_127)] [(.int (4 : Int32)), (.ref b_127), (.ref a1)])) rfl (by rw [hml]; rfl) (argsL := [(.ref b_127), (.int (4 : Int32))]) (rest := [(.ref a1)]) (lenOf pd_12 rfl) rfl (by show 2 * 0 + _ ≤ _; exact Nat.le_of_eq rfl) (hb hby d2_45) (fun _ _ => ⟨rfl, rfl, (by decide : 2 + 0 ≤ _), (by decide : 32 + 0 ≤ _)⟩)
    dsimp only [Pt.U, Pt.locs, Pt.cells, Pt.slots] at X133 l133 y133 z133 st133 hQ133
    subst l133 y133 z133
    obtain ⟨rfl, N133q, P133_0⟩ := hQ133
    have N133 := Fr.app N127 N133q
    obtain ⟨T134, h134, X134, e134, W134, st134⟩ := putFN X133 hx hZ0 hown0 (hw _ (List.mem_of_getElem? (i := 27) rfl)) Via.refl P133_0 f131 f129 (Or.inr ⟨(hw _ (List.mem_of_getElem? (i := 28) rfl)), rfl, hnm⟩) (hw _ (List.mem_of_getElem? (i := 3) rfl)) (ty := .byte) (v' := (.int (1 : Int32))) (by decide) rfl (by decide) (g := (mkF m 48 #[.val (.ref a1), .val (.ref a2), .val (.int (0 : Int32)), .val (.int (4 : Int32)), .val .null, .val (.ref b_127)] [(.int (1 : Int32)), (.ref a1)])) rfl rfl (hb hby d2_48)
    have f135 : Old Z n0 h134 := f128.wr W134 g1
    have f136 : Exa Z h134 a1 "java/lang/String" := Exa.wr W134 f129
    have f137 : Fld Z h134 a1 "java/lang/String" "value" "[B" .null := Fld.other W134 f130 (Or.inr (slot_ne (Or.inr (hw _ (List.mem_of_getElem? (i := 30) rfl))) (Or.inr (hw _ (List.mem_of_getElem? (i := 28) rfl))) (by decide) (t := (.array .byte)) (t' := .byte) (by decide) (by decide)))
    have f138 : OwnC Z h134 a2 (4 : Int32) f := OwnC.other f132 W134 (Ne.symm n12)
    have f139 : OwnU Z h134 b_127 (4 : Int32) f := OwnU.other P127_2 W134 (Ne.symm ne_a1_b_127)
    have f140 : Fld Z h134 a1 "java/lang/String" "coder" "B" (.int (1 : Int32)) := f131.same W134
    have Zs134 : n0 ≤ h134.size := Nat.le_trans Zs127 (Keep.of_wr W134).1
    have N134 := Fr.snoc X134 N133 g1
    have K134 : Keep h0 h134 [a1] := K127.wr W134 (Or.inl (List.mem_of_getElem? (i := 0) rfl))
    obtain ⟨T141, h141, X141, e141, W141, st141⟩ := putF X134 hx hZ0 hown0 (host := "") (Or.inl (hw _ (List.mem_of_getElem? (i := 29) rfl))) Via.refl e134 f137 f136 (Or.inr ⟨(hw _ (List.mem_of_getElem? (i := 30) rfl)), rfl, hnm⟩) (hw _ (List.mem_of_getElem? (i := 3) rfl)) (ty := (.array .byte)) (by decide) rfl rfl (g := (mkF m 54 #[.val (.ref a1), .val (.ref a2), .val (.int (0 : Int32)), .val (.int (4 : Int32)), .val .null, .val (.ref b_127)] [(.ref b_127), (.ref a1)])) rfl rfl (hb hby d2_54)
    have f142 : Old Z n0 h141 := f135.wr W141 g1
    have f143 : Exa Z h141 a1 "java/lang/String" := Exa.wr W141 f136
    have f144 : OwnC Z h141 a2 (4 : Int32) f := OwnC.other f138 W141 (Ne.symm n12)
    have f145 : OwnU Z h141 b_127 (4 : Int32) f := OwnU.other f139 W141 (Ne.symm ne_a1_b_127)
    have f146 : Fld Z h141 a1 "java/lang/String" "coder" "B" (.int (1 : Int32)) := Fld.other W141 f140 (Or.inr (slot_ne (Or.inr (hw _ (List.mem_of_getElem? (i := 28) rfl))) (Or.inr (hw _ (List.mem_of_getElem? (i := 30) rfl))) (by decide) (t := .byte) (t' := (.array .byte)) (by decide) (by decide)))
    have f147 : Fld Z h141 a1 "java/lang/String" "value" "[B" (.ref b_127) := f137.same W141
    have Zs141 : n0 ≤ h141.size := Nat.le_trans Zs134 (Keep.of_wr W141).1
    have N141 := Fr.snoc X141 N134 g1
    have K141 : Keep h0 h141 [a1] := K134.wr W141 (Or.inl (List.mem_of_getElem? (i := 0) rfl))
    obtain ⟨fs, hr, hrun, hended, hW, hsame⟩ := X141.leave (v := none) (fun _ => rfl) hlk
    refine ⟨_, _, pre0 _ ?_, hrun, hended, _, _, rfl, ?_, ⟨_, rfl⟩, hW, hsame.mono (by decide) (by decide)⟩
    · refine pr102 _ ?_
      show Steps p.tables e below (T101.setTop (mkF m 27 #[.val (.ref a1), .val (.ref a2), .val (.int (0 : Int32)), .val (.int (4 : Int32)), .val .null, .unset] [])) _
      refine st126 _ ?_
      show Steps p.tables e below (T126.setTop (mkF m 30 #[.val (.ref a1), .val (.ref a2), .val (.int (0 : Int32)), .val (.int (4 : Int32)), .val .null, .unset] [(.int w)])) _
      refine XS.ifNo X126.here hx rfl (hb hby d2_30) rfl ((if0 _ _).trans (feq hw0).1) ?_
      show Steps p.tables e below (T126.setTop (mkF m 33 #[.val (.ref a1), .val (.ref a2), .val (.int (0 : Int32)), .val (.int (4 : Int32)), .val .null, .unset] [])) _
      refine XS.aloadN X126.here hx rfl (hb hby d2_33) rfl rfl ?_
      show Steps p.tables e below (T126.setTop (mkF m 34 #[.val (.ref a1), .val (.ref a2), .val (.int (0 : Int32)), .val (.int (4 : Int32)), .val .null, .unset] [(.ref a2)])) _
      refine XS.iloadN X126.here hx rfl (hb hby d2_34) rfl ?_
      show Steps p.tables e below (T126.setTop (mkF m 35 #[.val (.ref a1), .val (.ref a2), .val (.int (0 : Int32)), .val (.int (4 : Int32)), .val .null, .unset] [(.int (0 : Int32)), (.ref a2)])) _
      refine XS.iloadN X126.here hx rfl (hb hby d2_35) rfl ?_
      show Steps p.tables e below (T126.setTop (mkF m 36 #[.val (.ref a1), .val (.ref a2), .val (.int (0 : Int32)), .val (.int (4 : Int32)), .val .null, .unset] [(.int (4 : Int32)), (.int (0 : Int32)), (.ref a2)])) _
      refine st127 _ ?_
      show Steps p.tables e below (T127.setTop (mkF m 39 #[.val (.ref a1), .val (.ref a2), .val (.int (0 : Int32)), .val (.int (4 : Int32)), .val .null, .unset] [(.ref b_127)])) _
      refine XS.astore X127.here hx rfl (hb hby d2_39) rfl rfl (l' := #[.val (.ref a1), .val (.ref a2), .val (.int (0 : Int32)), .val (.int (4 : Int32)), .val .null, .val (.ref b_127)]) rfl ?_
      show Steps p.tables e below (T127.setTop (mkF m 41 #[.val (.ref a1), .val (.ref a2), .val (.int (0 : Int32)), .val (.int (4 : Int32)), .val .null, .val (.ref b_127)] [])) _
      refine XS.aloadN X127.here hx rfl (hb hby d2_41) rfl rfl ?_
      show Steps p.tables e below (T127.setTop (mkF m 42 #[.val (.ref a1), .val (.ref a2), .val (.int (0 : Int32)), .val (.int (4 : Int32)), .val .null, .val (.ref b_127)] [(.ref a1)])) _
      refine XS.aload X127.here hx rfl (hb hby d2_42) rfl rfl ?_
      show Steps p.tables e below (T127.setTop (mkF m 44 #[.val (.ref a1), .val (.ref a2), .val (.int (0 : Int32)), .val (.int (4 : Int32)), .val .null, .val (.ref b_127)] [(.ref b_127), (.ref a1)])) _
      refine XS.iloadN X127.here hx rfl (hb hby d2_44) rfl ?_
      show Steps p.tables e below (T127.setTop (mkF m 45 #[.val (.ref a1), .val (.ref a2), .val (.int (0 : Int32)), .val (.int (4 : Int32)), .val .null, .val (.ref b_127)] [(.int (4 : Int32)), (.ref b_127), (.ref a1)])) _
      refine st133 _ ?_
      show Steps p.tables e below (T133.setTop (mkF m 48 #[.val (.ref a1), .val (.ref a2), .val (.int (0 : Int32)), .val (.int (4 : Int32)), .val .null, .val (.ref b_127)] [(.int (1 : Int32)), (.ref a1)])) _
      refine st134 _ ?_
      show Steps p.tables e below (T134.setTop (mkF m 51 #[.val (.ref a1), .val (.ref a2), .val (.int (0 : Int32)), .val (.int (4 : Int32)), .val .null, .val (.ref b_127)] [])) _
      refine XS.aloadN X134.here hx rfl (hb hby d2_51) rfl rfl ?_
      show Steps p.tables e below (T134.setTop (mkF m 52 #[.val (.ref a1), .val (.ref a2), .val (.int (0 : Int32)), .val (.int (4 : Int32)), .val .null, .val (.ref b_127)] [(.ref a1)])) _
      refine XS.aload X134.here hx rfl (hb hby d2_52) rfl rfl ?_
      show Steps p.tables e below (T134.setTop (mkF m 54 #[.val (.ref a1), .val (.ref a2), .val (.int (0 : Int32)), .val (.int (4 : Int32)), .val .null, .val (.ref b_127)] [(.ref b_127), (.ref a1)])) _
      refine st141 _ ?_
      show Steps p.tables e below (T141.setTop (mkF m 57 #[.val (.ref a1), .val (.ref a2), .val (.int (0 : Int32)), .val (.int (4 : Int32)), .val .null, .val (.ref b_127)] [])) _
      exact X141.returnOut hx Bd.returns (hb hby d2_57) hr
    · show Q2 Z a1 a2 w f h0 n0 _ T141.heap _
      rw [e141]
      exact ⟨b_127, rfl, N141, K141, P127_1, ⟨f143, f147, Or.inr ⟨f146, f145, ⟨by decide, by decide⟩⟩⟩⟩
theorem ef_1 (m : MethodId) (x0 : Addr) (x1 : Addr) : entryFrame m #[(.ref x0), (.ref x1)] 2 = mkF m 0 #[.val (.ref x0), .val (.ref x1)] [] := by first | (simp [entryFrame, mkF, argsToLocals, Value.category]; done) | rfl
theorem d1_0 : decode jdk_42_method_3_code 0 = .ok (.aload_n 0, 1) := by decide +kernel
theorem d1_1 : decode jdk_42_method_3_code 1 = .ok (.aload_n 1, 1) := by decide +kernel
theorem d1_2 : decode jdk_42_method_3_code 2 = .ok (.iconst 0, 1) := by decide +kernel
theorem d1_3 : decode jdk_42_method_3_code 3 = .ok (.aload_n 1, 1) := by decide +kernel
theorem d1_4 : decode jdk_42_method_3_code 4 = .ok (.arraylength, 1) := by decide +kernel
theorem d1_5 : decode jdk_42_method_3_code 5 = .ok (.aconst_null, 1) := by decide +kernel
theorem d1_6 : decode jdk_42_method_3_code 6 = .ok (.invokespecial 27, 3) := by decide +kernel
theorem pd_13 : parseMethodDescriptor "([CIILjava/lang/Void;)V" = some ⟨[(.array .char), .int, .int, (.object "java/lang/Void")], none⟩ := by decide +kernel
theorem d1_9 : decode jdk_42_method_3_code 9 = .ok (.return_, 1) := by decide +kernel
def Q1 (Z : State) (a1 : Addr) (a2 : Addr) (w : Int32) (f : Nat → Int32) (h0 : Heap) (n0 : Nat) (v : Option Value) (h : Heap) (L : List Loc) : Prop := ∃ b : Addr, v = none ∧ Fr n0 L ∧ (Keep h0 h [a1]) ∧ (h0.size ≤ b) ∧ (OwnS Z h a1 b (4 : Int32) f)
set_option maxRecDepth 65536 in
set_option maxHeartbeats 40000000 in
theorem rm1 (l : Launch) (Z : State) (a0 : Array Value) (hw : ∀ d ∈ tables_1, d.before a0 Z = true) (ws : List Jvm.Cond) (a1 : Addr) (a2 : Addr) (w : Int32) (f : Nat → Int32) (h0 : Heap) (n0 : Nat) (Z0 : n0 ≤ h0.size) (O0 : Old Z n0 h0) (S0 : Sta Z Z.heap "java/lang/String" "COMPACT_STRINGS" "Z" (.int w)) (hw0 : ¬ (w = (0 : Int32))) (SA : Sta Z Z.heap "java/lang/StringUTF16" "$assertionsDisabled" "Z" (.int (1 : Int32))) (SHI : Sta Z Z.heap "java/lang/StringUTF16" "HI_BYTE_SHIFT" "I" (.int (0 : Int32))) (SLO : Sta Z Z.heap "java/lang/StringUTF16" "LO_BYTE_SHIFT" "I" (.int (8 : Int32))) (FM : Fmt Z) (E1 : Exa Z h0 a1 "java/lang/String") (g1 : n0 ≤ a1) (F1 : Fld Z h0 a1 "java/lang/String" "value" "[B" .null) (F2 : Fld Z h0 a1 "java/lang/String" "coder" "B" (.int (0 : Int32))) (C2 : OwnC Z h0 a2 (4 : Int32) f) (hf : own_ch f) (n12 : a1 ≠ a2) :
    MetFree l (⟨"java/lang/String", "<init>", "([C)V"⟩ : MethodName) (head1 (Jvm.Cond.code (⟨"java/lang/String", "<init>", "([C)V"⟩ : MethodName) jdk_42_method_3_code 2 none :: ws) ({ frames := 5, cells := 2, slots := 32, locals := 74 } : Room)) (fun a U => a = #[(.ref a1), (.ref a2)] ∧ Z.Warmed39 U.vm ∧ U.heap = h0) (fun _ _ _ _ _ => True) (fun _ U o U' => ∃ v L, o = .returned v ∧ Q1 Z a1 a2 w f h0 n0 v U'.heap L ∧ FrameEnd U o U' L ({ frames := 5, cells := 2, slots := 32, locals := 74 } : Room).cells ({ frames := 5, cells := 2, slots := 32, locals := 74 } : Room).slots) := by
  refine MetFree.of_bodySF (plainFor_of_name pn_1) hisR ?_
  intro p e s m args below meth c s₁ Bd hml0 hP hK
  obtain ⟨rfl, hZ0, hh⟩ := hP
  have hx := Bd.exec
  have hby := Bd.bytes
  have hml : c.maxLocals = 2 := hml0
  have hown0 : s.vm.findClass "java/lang/String" = some m.cls := findClass_of_methodNamed Bd.named
  have hnm := (name_of_methodNamed Bd.named Bd.method).1
  have hlk : meth.locks = false := by first | exact BodyLoose.notSynchronized Bd | exact Body.notSynchronized Bd
  have X0 : Stand p l e ({ frames := 5, cells := 2, slots := 32, locals := 74 } : Room) s m #[(.ref a1), (.ref a2)] below meth c s₁ [] 0 0 := Stand.of_body Bd
  have e0 : s₁.heap = h0 := by rw [← hh, Bd.state]; rfl
  have N0 := Fr.nil n0
  have pre0 : ∀ t, Steps p.tables e below (s₁.setTop (mkF m 0 #[.val (.ref a1), .val (.ref a2)] [])) t → Steps p.tables e below (s₁.setTop (entryFrame m #[(.ref a1), (.ref a2)] 2)) t := fun t k => castTop (ef_1 m a1 a2) k
  obtain ⟨cl101, Ar101, Sz101, Nn101, Hs101⟩ := (id C2)
  obtain ⟨_, _, ⟨T102, L102, k102, n102⟩, -, X102, ⟨Lc102, hQ102, l102, y102, z102⟩, st102⟩ := X0.specialBack hx (y := (⟨"java/lang/String", "<init>", "([CIILjava/lang/Void;)V"⟩ : MethodName)) rfl hown0 (mvT hZ0 (hw _ (List.mem_of_getElem? (i := 8) rfl))) (mvT hZ0 (hw _ (List.mem_of_getElem? (i := 9) rfl))) (mvT hZ0 (hw _ (List.mem_of_getElem? (i := 11) rfl))) (by decide) (backOf (W := 0) (rm2 l Z a0 hw [] a1 a2 w f h0 n0 Z0 O0 S0 hw0 SA SHI SLO FM E1 g1 F1 F2 C2 hf n12) hZ0 (hw _ (List.mem_of_getElem? (i := 11) rfl)) (hw _ (List.mem_of_getElem? (i := 4) rfl)) (by decide) (by decide)) (g := (mkF m 6 #[.val (.ref a1), .val (.ref a2)] [.null, (.int (4 : Int32)), (.int (0 : Int32)), (.ref a2), (.ref a1)])) rfl (by rw [hml]; rfl) (Steps.refl _) (a := a1) (argsL := [(.ref a2), (.int (0 : Int32)), (.int (4 : Int32)), .null]) (rest := []) (lenOf pd_13 rfl) rfl (by show 2 * 0 + _ ≤ _; exact Nat.le_of_eq rfl) (hb hby d1_6) (fun _ _ => ⟨rfl, e0, (by decide : 0 + 2 ≤ _), (by decide : 0 + 32 ≤ _)⟩)
  dsimp only [Pt.U, Pt.locs, Pt.cells, Pt.slots] at X102 l102 y102 z102 st102 hQ102
  subst l102 y102 z102
  obtain ⟨b_102, rfl, N102q, P102_0, P102_1, P102_2⟩ := hQ102
  have N102 := Fr.app N0 N102q
  have ne_a1_b_102 : a1 ≠ b_102 := Nat.ne_of_lt (Nat.lt_of_lt_of_le E1.lt P102_1)
  have ne_a2_b_102 : a2 ≠ b_102 := Nat.ne_of_lt (Nat.lt_of_lt_of_le C2.lt P102_1)
  have gn_b_102 : n0 ≤ b_102 := Nat.le_trans Z0 P102_1
  have sz_b_102 : h0.size ≤ b_102 := Nat.le_trans (Keep.refl h0 [a1]).1 P102_1
  have f103 : Old Z n0 T102.heap := O0.keep P102_0 (allS g1 all0)
  have f104 : Exa Z T102.heap a1 "java/lang/String" := E1.keep P102_0
  have f105 : OwnC Z T102.heap a2 (4 : Int32) f := OwnC.keep C2 P102_0 (ninS (Ne.symm n12) nin0)
  have Zs102 : n0 ≤ T102.heap.size := Nat.le_trans Z0 P102_0.1
  have K102 : Keep h0 T102.heap [a1] := (Keep.refl h0 [a1]).trans P102_0 (allS (Or.inl (List.mem_of_getElem? (i := 0) rfl)) all0)
  obtain ⟨fs, hr, hrun, hended, hW, hsame⟩ := X102.leave (v := none) (fun _ => rfl) hlk
  refine ⟨_, _, pre0 _ ?_, hrun, hended, _, _, rfl, ?_, ⟨_, rfl⟩, hW, hsame.mono (by decide) (by decide)⟩
  · show Steps p.tables e below (s₁.setTop (mkF m 0 #[.val (.ref a1), .val (.ref a2)] [])) _
    refine XS.aloadN X0.here hx rfl (hb hby d1_0) rfl rfl ?_
    show Steps p.tables e below (s₁.setTop (mkF m 1 #[.val (.ref a1), .val (.ref a2)] [(.ref a1)])) _
    refine XS.aloadN X0.here hx rfl (hb hby d1_1) rfl rfl ?_
    show Steps p.tables e below (s₁.setTop (mkF m 2 #[.val (.ref a1), .val (.ref a2)] [(.ref a2), (.ref a1)])) _
    refine XS.iconst X0.here hx rfl (hb hby d1_2) ?_
    show Steps p.tables e below (s₁.setTop (mkF m 3 #[.val (.ref a1), .val (.ref a2)] [(.int (0 : Int32)), (.ref a2), (.ref a1)])) _
    refine XS.aloadN X0.here hx rfl (hb hby d1_3) rfl rfl ?_
    show Steps p.tables e below (s₁.setTop (mkF m 4 #[.val (.ref a1), .val (.ref a2)] [(.ref a2), (.int (0 : Int32)), (.ref a2), (.ref a1)])) _
    refine X0.arraylength hx (by rw [e0]; exact Ar101.1) (State.isArrayOf_alike hZ0.alike Ar101.2.1) (g := (mkF m 4 #[.val (.ref a1), .val (.ref a2)] [(.ref a2), (.int (0 : Int32)), (.ref a2), (.ref a1)])) rfl rfl (hb hby d1_4) _ ?_
    rw [len_of Sz101 Nn101]
    show Steps p.tables e below (s₁.setTop (mkF m 5 #[.val (.ref a1), .val (.ref a2)] [(.int (4 : Int32)), (.int (0 : Int32)), (.ref a2), (.ref a1)])) _
    refine XS.aconstNull X0.here hx rfl (hb hby d1_5) ?_
    show Steps p.tables e below (s₁.setTop (mkF m 6 #[.val (.ref a1), .val (.ref a2)] [.null, (.int (4 : Int32)), (.int (0 : Int32)), (.ref a2), (.ref a1)])) _
    refine st102.trans ?_
    show Steps p.tables e below (T102.setTop (mkF m 9 #[.val (.ref a1), .val (.ref a2)] [])) _
    exact X102.returnOut hx Bd.returns (hb hby d1_9) hr
  · show Q1 Z a1 a2 w f h0 n0 _ T102.heap _
    exact ⟨b_102, rfl, N102, K102, P102_1, P102_2⟩
theorem pn_4 : plainName "java/util/Arrays" = true := by first | (simp [plainName, overriddenIn]; done) | decide +kernel
theorem ef_20 (m : MethodId) (x0 : Int32) (x1 : Int32) : entryFrame m #[(.int x0), (.int x1)] 2 = mkF m 0 #[.val (.int x0), .val (.int x1)] [] := by first | (simp [entryFrame, mkF, argsToLocals, Value.category]; done) | rfl
theorem d20_0 : decode jdk_65_method_131_code 0 = .ok (.iload_n 1, 1) := by decide +kernel
theorem d20_1 : decode jdk_65_method_131_code 1 = .ok (.iload_n 0, 1) := by decide +kernel
theorem d20_2 : decode jdk_65_method_131_code 2 = .ok (.if_icmp .ge 35, 3) := by decide +kernel
theorem d20_37 : decode jdk_65_method_131_code 37 = .ok (.return_, 1) := by decide +kernel
def Q20 (Z : State) (p1 : Int32) (p2 : Int32) (h0 : Heap) (n0 : Nat) (v : Option Value) (h : Heap) (L : List Loc) : Prop := v = none ∧ Fr n0 L ∧ (h = h0)
set_option maxRecDepth 65536 in
set_option maxHeartbeats 40000000 in
theorem rm20 (l : Launch) (Z : State) (a0 : Array Value) (hw : ∀ d ∈ tables_1, d.before a0 Z = true) (ws : List Jvm.Cond) (p1 : Int32) (p2 : Int32) (h0 : Heap) (n0 : Nat) (Z0 : n0 ≤ h0.size) (h1 : ¬ (p2 < p1)) :
    MetFree l (⟨"java/util/Arrays", "checkLength", "(II)V"⟩ : MethodName) (head1 (Jvm.Cond.code (⟨"java/util/Arrays", "checkLength", "(II)V"⟩ : MethodName) jdk_65_method_131_code 2 none :: ws) ({ frames := 0, cells := 0, slots := 0, locals := 0 } : Room)) (fun a U => a = #[(.int p1), (.int p2)] ∧ Z.Warmed39 U.vm ∧ U.heap = h0) (fun _ _ _ _ _ => True) (fun _ U o U' => ∃ v L, o = .returned v ∧ Q20 Z p1 p2 h0 n0 v U'.heap L ∧ FrameEnd U o U' L ({ frames := 0, cells := 0, slots := 0, locals := 0 } : Room).cells ({ frames := 0, cells := 0, slots := 0, locals := 0 } : Room).slots) := by
  refine MetFree.of_bodySF (plainFor_of_name pn_4) hisR ?_
  intro p e s m args below meth c s₁ Bd hml0 hP hK
  obtain ⟨rfl, hZ0, hh⟩ := hP
  have hx := Bd.exec
  have hby := Bd.bytes
  have hml : c.maxLocals = 2 := hml0
  have hown0 : s.vm.findClass "java/util/Arrays" = some m.cls := findClass_of_methodNamed Bd.named
  have hnm := (name_of_methodNamed Bd.named Bd.method).1
  have hlk : meth.locks = false := by first | exact BodyLoose.notSynchronized Bd | exact Body.notSynchronized Bd
  have X0 : Stand p l e ({ frames := 0, cells := 0, slots := 0, locals := 0 } : Room) s m #[(.int p1), (.int p2)] below meth c s₁ [] 0 0 := Stand.of_body Bd
  have e0 : s₁.heap = h0 := by rw [← hh, Bd.state]; rfl
  have N0 := Fr.nil n0
  have pre0 : ∀ t, Steps p.tables e below (s₁.setTop (mkF m 0 #[.val (.int p1), .val (.int p2)] [])) t → Steps p.tables e below (s₁.setTop (entryFrame m #[(.int p1), (.int p2)] 2)) t := fun t k => castTop (ef_20 m p1 p2) k
  obtain ⟨fs, hr, hrun, hended, hW, hsame⟩ := X0.leave (v := none) (fun _ => rfl) hlk
  refine ⟨_, _, pre0 _ ?_, hrun, hended, _, _, rfl, ?_, ⟨_, rfl⟩, hW, hsame.mono (by decide) (by decide)⟩
  · show Steps p.tables e below (s₁.setTop (mkF m 0 #[.val (.int p1), .val (.int p2)] [])) _
    refine XS.iloadN X0.here hx rfl (hb hby d20_0) rfl ?_
    show Steps p.tables e below (s₁.setTop (mkF m 1 #[.val (.int p1), .val (.int p2)] [(.int p2)])) _
    refine XS.iloadN X0.here hx rfl (hb hby d20_1) rfl ?_
    show Steps p.tables e below (s₁.setTop (mkF m 2 #[.val (.int p1), .val (.int p2)] [(.int p1), (.int p2)])) _
    refine XS.icmpYes X0.here hx rfl (pc0 := 2) (pc' := 37) rfl (hb hby d20_2) rfl (flt h1).2.1 (by decide) (by decide) ?_
    show Steps p.tables e below (s₁.setTop (mkF m 37 #[.val (.int p1), .val (.int p2)] [])) _
    exact X0.returnOut hx Bd.returns (hb hby d20_37) hr
  · show Q20 Z p1 p2 h0 n0 _ s₁.heap _
    rw [e0]
    exact ⟨rfl, N0, rfl⟩
theorem ef_21 (m : MethodId) (x0 : Int32) (x1 : Int32) : entryFrame m #[(.int x0), (.int x1)] 2 = mkF m 0 #[.val (.int x0), .val (.int x1)] [] := by first | (simp [entryFrame, mkF, argsToLocals, Value.category]; done) | rfl
theorem d21_0 : decode jdk_29_method_69_code 0 = .ok (.iload_n 0, 1) := by decide +kernel
theorem d21_1 : decode jdk_29_method_69_code 1 = .ok (.iload_n 1, 1) := by decide +kernel
theorem d21_2 : decode jdk_29_method_69_code 2 = .ok (.if_icmp .gt 7, 3) := by decide +kernel
theorem d21_9 : decode jdk_29_method_69_code 9 = .ok (.iload_n 1, 1) := by decide +kernel
theorem d21_10 : decode jdk_29_method_69_code 10 = .ok (.ireturn, 1) := by decide +kernel
theorem d21_5 : decode jdk_29_method_69_code 5 = .ok (.iload_n 0, 1) := by decide +kernel
theorem d21_6 : decode jdk_29_method_69_code 6 = .ok (.goto 4, 3) := by decide +kernel
def Q21 (Z : State) (p1 : Int32) (p2 : Int32) (h0 : Heap) (n0 : Nat) (v : Option Value) (h : Heap) (L : List Loc) : Prop := v = some (.int (own_min p1 p2)) ∧ Fr n0 L ∧ (h = h0)
set_option maxRecDepth 65536 in
set_option maxHeartbeats 40000000 in
theorem rm21 (l : Launch) (Z : State) (a0 : Array Value) (hw : ∀ d ∈ tables_1, d.before a0 Z = true) (ws : List Jvm.Cond) (p1 : Int32) (p2 : Int32) (h0 : Heap) (n0 : Nat) (Z0 : n0 ≤ h0.size) :
    MetFree l (⟨"java/lang/Math", "min", "(II)I"⟩ : MethodName) (head1 (Jvm.Cond.code (⟨"java/lang/Math", "min", "(II)I"⟩ : MethodName) jdk_29_method_69_code 2 (some .int) :: ws) ({ frames := 0, cells := 0, slots := 0, locals := 0 } : Room)) (fun a U => a = #[(.int p1), (.int p2)] ∧ Z.Warmed39 U.vm ∧ U.heap = h0) (fun _ _ _ _ _ => True) (fun _ U o U' => ∃ v L, o = .returned v ∧ Q21 Z p1 p2 h0 n0 v U'.heap L ∧ FrameEnd U o U' L ({ frames := 0, cells := 0, slots := 0, locals := 0 } : Room).cells ({ frames := 0, cells := 0, slots := 0, locals := 0 } : Room).slots) := by
  refine MetFree.of_bodySF (Jvm.Free.JP.mathPlain rfl (by decide +kernel)) hisR ?_
  intro p e s m args below meth c s₁ Bd hml0 hP hK
  obtain ⟨rfl, hZ0, hh⟩ := hP
  have hx := Bd.exec
  have hby := Bd.bytes
  have hml : c.maxLocals = 2 := hml0
  have hown0 : s.vm.findClass "java/lang/Math" = some m.cls := findClass_of_methodNamed Bd.named
  have hnm := (name_of_methodNamed Bd.named Bd.method).1
  have hlk : meth.locks = false := by first | exact BodyLoose.notSynchronized Bd | exact Body.notSynchronized Bd
  have X0 : Stand p l e ({ frames := 0, cells := 0, slots := 0, locals := 0 } : Room) s m #[(.int p1), (.int p2)] below meth c s₁ [] 0 0 := Stand.of_body Bd
  have e0 : s₁.heap = h0 := by rw [← hh, Bd.state]; rfl
  have N0 := Fr.nil n0
  have pre0 : ∀ t, Steps p.tables e below (s₁.setTop (mkF m 0 #[.val (.int p1), .val (.int p2)] [])) t → Steps p.tables e below (s₁.setTop (entryFrame m #[(.int p1), (.int p2)] 2)) t := fun t k => castTop (ef_21 m p1 p2) k
  have pr101 : ∀ tg9, Steps p.tables e below (s₁.setTop (mkF m 2 #[.val (.int p1), .val (.int p2)] [(.int p2), (.int p1)])) tg9 → Steps p.tables e below (s₁.setTop (mkF m 0 #[.val (.int p1), .val (.int p2)] [])) tg9 := fun tg9 kt => by
    show Steps p.tables e below (s₁.setTop (mkF m 0 #[.val (.int p1), .val (.int p2)] [])) _
    refine XS.iloadN X0.here hx rfl (hb hby d21_0) rfl ?_
    show Steps p.tables e below (s₁.setTop (mkF m 1 #[.val (.int p1), .val (.int p2)] [(.int p1)])) _
    refine XS.iloadN X0.here hx rfl (hb hby d21_1) rfl ?_
    exact kt
  by_cases hc102 : p2 < p1
  · obtain ⟨fs, hr, hrun, hended, hW, hsame⟩ := X0.leave (v := some (.int p2)) (fun h => by rw [Bd.returns] at h; cases h) hlk
    refine ⟨_, _, pre0 _ ?_, hrun, hended, _, _, rfl, ?_, ⟨_, rfl⟩, hW, hsame.mono (by decide) (by decide)⟩
    · refine pr101 _ ?_
      show Steps p.tables e below (s₁.setTop (mkF m 2 #[.val (.int p1), .val (.int p2)] [(.int p2), (.int p1)])) _
      refine XS.icmpYes X0.here hx rfl (pc0 := 2) (pc' := 9) rfl (hb hby d21_2) rfl (tlt hc102).2.2.1 (by decide) (by decide) ?_
      show Steps p.tables e below (s₁.setTop (mkF m 9 #[.val (.int p1), .val (.int p2)] [])) _
      refine XS.iloadN X0.here hx rfl (hb hby d21_9) rfl ?_
      show Steps p.tables e below (s₁.setTop (mkF m 10 #[.val (.int p1), .val (.int p2)] [(.int p2)])) _
      exact retI X0 hx Bd.returns (hb hby d21_10) hr
    · show Q21 Z p1 p2 h0 n0 _ s₁.heap _
      rw [e0]
      exact ⟨(congrArg (fun z => some (Value.int z)) (by simp [own_min, hc102] : p2 = (own_min p1 p2))), N0, rfl⟩
  · obtain ⟨fs, hr, hrun, hended, hW, hsame⟩ := X0.leave (v := some (.int p1)) (fun h => by rw [Bd.returns] at h; cases h) hlk
    refine ⟨_, _, pre0 _ ?_, hrun, hended, _, _, rfl, ?_, ⟨_, rfl⟩, hW, hsame.mono (by decide) (by decide)⟩
    · refine pr101 _ ?_
      show Steps p.tables e below (s₁.setTop (mkF m 2 #[.val (.int p1), .val (.int p2)] [(.int p2), (.int p1)])) _
      refine XS.icmpNo X0.here hx rfl (hb hby d21_2) rfl (flt hc102).2.2.1 ?_
      show Steps p.tables e below (s₁.setTop (mkF m 5 #[.val (.int p1), .val (.int p2)] [])) _
      refine XS.iloadN X0.here hx rfl (hb hby d21_5) rfl ?_
      show Steps p.tables e below (s₁.setTop (mkF m 6 #[.val (.int p1), .val (.int p2)] [(.int p1)])) _
      refine XS.goto X0.here hx rfl (pc0 := 6) (pc' := 10) rfl (hb hby d21_6) (by decide) (by decide) ?_
      show Steps p.tables e below (s₁.setTop (mkF m 10 #[.val (.int p1), .val (.int p2)] [(.int p1)])) _
      exact retI X0 hx Bd.returns (hb hby d21_10) hr
    · show Q21 Z p1 p2 h0 n0 _ s₁.heap _
      rw [e0]
      exact ⟨(congrArg (fun z => some (Value.int z)) (by simp [own_min, hc102] : p1 = (own_min p1 p2))), N0, rfl⟩
theorem ef_19 (m : MethodId) (x0 : Addr) (x1 : Int32) (x2 : Int32) : entryFrame m #[(.ref x0), (.int x1), (.int x2)] 5 = mkF m 0 #[.val (.ref x0), .val (.int x1), .val (.int x2), .unset, .unset] [] := by first | (simp [entryFrame, mkF, argsToLocals, Value.category]; done) | rfl
theorem d19_0 : decode jdk_65_method_133_code 0 = .ok (.iload_n 1, 1) := by decide +kernel
theorem d19_1 : decode jdk_65_method_133_code 1 = .ok (.iload_n 2, 1) := by decide +kernel
theorem d19_2 : decode jdk_65_method_133_code 2 = .ok (.invokestatic 343, 3) := by decide +kernel
theorem d19_5 : decode jdk_65_method_133_code 5 = .ok (.iload_n 2, 1) := by decide +kernel
theorem d19_6 : decode jdk_65_method_133_code 6 = .ok (.iload_n 1, 1) := by decide +kernel
theorem d19_7 : decode jdk_65_method_133_code 7 = .ok (.isub, 1) := by decide +kernel
theorem d19_8 : decode jdk_65_method_133_code 8 = .ok (.istore_n 3, 1) := by decide +kernel
theorem d19_9 : decode jdk_65_method_133_code 9 = .ok (.iload_n 3, 1) := by decide +kernel
theorem d19_10 : decode jdk_65_method_133_code 10 = .ok (.newarray .byte, 2) := by decide +kernel
theorem d19_12 : decode jdk_65_method_133_code 12 = .ok (.astore 4, 2) := by decide +kernel
theorem d19_14 : decode jdk_65_method_133_code 14 = .ok (.aload_n 0, 1) := by decide +kernel
theorem d19_15 : decode jdk_65_method_133_code 15 = .ok (.iload_n 1, 1) := by decide +kernel
theorem d19_16 : decode jdk_65_method_133_code 16 = .ok (.aload 4, 2) := by decide +kernel
theorem d19_18 : decode jdk_65_method_133_code 18 = .ok (.iconst 0, 1) := by decide +kernel
theorem d19_19 : decode jdk_65_method_133_code 19 = .ok (.aload_n 0, 1) := by decide +kernel
theorem d19_20 : decode jdk_65_method_133_code 20 = .ok (.arraylength, 1) := by decide +kernel
theorem d19_21 : decode jdk_65_method_133_code 21 = .ok (.iload_n 1, 1) := by decide +kernel
theorem d19_22 : decode jdk_65_method_133_code 22 = .ok (.isub, 1) := by decide +kernel
theorem d19_23 : decode jdk_65_method_133_code 23 = .ok (.iload_n 3, 1) := by decide +kernel
theorem d19_24 : decode jdk_65_method_133_code 24 = .ok (.invokestatic 304, 3) := by decide +kernel
theorem pd_14 : parseMethodDescriptor "(II)I" = some ⟨[.int, .int], some .int⟩ := by decide +kernel
theorem d19_27 : decode jdk_65_method_133_code 27 = .ok (.invokestatic 150, 3) := by decide +kernel
theorem d19_30 : decode jdk_65_method_133_code 30 = .ok (.aload 4, 2) := by decide +kernel
theorem d19_32 : decode jdk_65_method_133_code 32 = .ok (.areturn, 1) := by decide +kernel
def Q19 (Z : State) (a1 : Addr) (p2 : Int32) (p3 : Int32) (z : Int32) (g : Nat → Int32) (h0 : Heap) (n0 : Nat) (v : Option Value) (h : Heap) (L : List Loc) : Prop := ∃ b : Addr, v = some (.ref b) ∧ Fr n0 L ∧ (Keep h0 h []) ∧ (h0.size ≤ b) ∧ (OwnB Z h b (p3 - p2) (p3 - p2).toNatClampNeg (own_sh g p2))
set_option maxRecDepth 65536 in
set_option maxHeartbeats 40000000 in
theorem rm19 (l : Launch) (Z : State) (a0 : Array Value) (hw : ∀ d ∈ tables_1, d.before a0 Z = true) (ws : List Jvm.Cond) (a1 : Addr) (p2 : Int32) (p3 : Int32) (z : Int32) (g : Nat → Int32) (h0 : Heap) (n0 : Nat) (Z0 : n0 ≤ h0.size) (O0 : Old Z n0 h0) (A1 : OwnB Z h0 a1 z z.toNatClampNeg g) (cr : own_cr p2 p3 z) :
    MetFree l (⟨"java/util/Arrays", "copyOfRangeByte", "([BII)[B"⟩ : MethodName) (head1 (Jvm.Cond.code (⟨"java/util/Arrays", "copyOfRangeByte", "([BII)[B"⟩ : MethodName) jdk_65_method_133_code 5 (some (.array .byte)) :: ws) ({ frames := 1, cells := 1, slots := 16, locals := 18 } : Room)) (fun a U => a = #[(.ref a1), (.int p2), (.int p3)] ∧ Z.Warmed39 U.vm ∧ U.heap = h0) (fun _ _ _ _ _ => True) (fun _ U o U' => ∃ v L, o = .returned v ∧ Q19 Z a1 p2 p3 z g h0 n0 v U'.heap L ∧ FrameEnd U o U' L ({ frames := 1, cells := 1, slots := 16, locals := 18 } : Room).cells ({ frames := 1, cells := 1, slots := 16, locals := 18 } : Room).slots) := by
  refine MetFree.of_bodySF (plainFor_of_name pn_4) hisR ?_
  intro p e s m args below meth c s₁ Bd hml0 hP hK
  obtain ⟨rfl, hZ0, hh⟩ := hP
  have hx := Bd.exec
  have hby := Bd.bytes
  have hml : c.maxLocals = 5 := hml0
  have hown0 : s.vm.findClass "java/util/Arrays" = some m.cls := findClass_of_methodNamed Bd.named
  have hnm := (name_of_methodNamed Bd.named Bd.method).1
  have hlk : meth.locks = false := by first | exact BodyLoose.notSynchronized Bd | exact Body.notSynchronized Bd
  have X0 : Stand p l e ({ frames := 1, cells := 1, slots := 16, locals := 18 } : Room) s m #[(.ref a1), (.int p2), (.int p3)] below meth c s₁ [] 0 0 := Stand.of_body Bd
  have e0 : s₁.heap = h0 := by rw [← hh, Bd.state]; rfl
  have N0 := Fr.nil n0
  have pre0 : ∀ t, Steps p.tables e below (s₁.setTop (mkF m 0 #[.val (.ref a1), .val (.int p2), .val (.int p3), .unset, .unset] [])) t → Steps p.tables e below (s₁.setTop (entryFrame m #[(.ref a1), (.int p2), (.int p3)] 5)) t := fun t k => castTop (ef_19 m a1 p2 p3) k
  obtain ⟨_, _, ⟨T101, L101, k101, n101⟩, -, X101, ⟨Lc101, hQ101, l101, y101, z101⟩, st101⟩ := Jvm.LawKit.callS X0 hx (y := (⟨"java/util/Arrays", "checkLength", "(II)V"⟩ : MethodName)) hown0 (mvT hZ0 (hw _ (List.mem_of_getElem? (i := 103) rfl))) (mvT hZ0 (hw _ (List.mem_of_getElem? (i := 104) rfl))) (mvT hZ0 (hw _ (List.mem_of_getElem? (i := 98) rfl))) (mvT hZ0 (hw _ (List.mem_of_getElem? (i := 105) rfl))) (by decide) (backOf (W := 0) (rm20 l Z a0 hw [] p2 p3 h0 n0 Z0 cr.2.1) hZ0 (hw _ (List.mem_of_getElem? (i := 105) rfl)) (hw _ (List.mem_of_getElem? (i := 98) rfl)) (by decide) (by decide)) (g := (mkF m 2 #[.val (.ref a1), .val (.int p2), .val (.int p3), .unset, .unset] [(.int p3), (.int p2)])) rfl (by rw [hml]; rfl) (argsL := [(.int p2), (.int p3)]) (rest := []) (lenOf pd_2 rfl) rfl (by show 2 * 0 + _ ≤ _; exact Nat.le_of_eq rfl) (hb hby d19_2) (fun _ _ => ⟨rfl, e0, (by decide : 0 + 0 ≤ _), (by decide : 0 + 0 ≤ _)⟩)
  dsimp only [Pt.U, Pt.locs, Pt.cells, Pt.slots] at X101 l101 y101 z101 st101 hQ101
  subst l101 y101 z101
  obtain ⟨rfl, N101q, P101_0⟩ := hQ101
  have N101 := Fr.app N0 N101q
  obtain ⟨T102, h102, k102, X102, e102, E102, A102, st102⟩ := newP X101 hx hZ0 (hw _ (List.mem_of_getElem? (i := 20) rfl)) P101_0 (g := (mkF m 10 #[.val (.ref a1), .val (.int p2), .val (.int p3), .val (.int (p3 - p2)), .unset] [(.int (p3 - p2))])) rfl (hb hby d19_10) rfl (own_cra cr).1 (cap := 16) (own_cra cr).2.1 (by decide) (by decide) (by decide)
  obtain ⟨b102, g102⟩ : ∃ z, z = h0.size := ⟨_, rfl⟩
  rw [← g102] at A102 st102
  have ne_a1_b102 : a1 ≠ b102 := Nat.ne_of_lt (Nat.lt_of_lt_of_le A1.lt (Nat.le_of_eq g102.symm))
  have gn_b102 : n0 ≤ b102 := Nat.le_trans Z0 (Nat.le_of_eq g102.symm)
  have sz_b102 : h0.size ≤ b102 := Nat.le_trans (Keep.refl h0 []).1 (Nat.le_of_eq g102.symm)
  have f103 : Old Z n0 h102 := O0.ext E102
  have f104 : OwnB Z h102 a1 z z.toNatClampNeg g := OwnB.ext A1 E102
  have Zs102 : n0 ≤ h102.size := Nat.le_trans Z0 E102.1
  have K102 : Keep h0 h102 [] := (Keep.refl h0 []).ext E102
  have v102 : Arv Z h102 b102 k102 .byte (p3 - p2) (List.replicate (p3 - p2).toNatClampNeg (.int (0 : Int32))) (.int (0 : Int32)) := (Arv.new A102 (own_cra cr).1).pad (pad_rep [] (.int 0) _)
  obtain ⟨cl105, Ar105, Sz105, Nn105, Hs105⟩ := (id f104)
  obtain ⟨_, _, ⟨T106, L106, k106, n106⟩, -, X106, ⟨Lc106, hQ106, l106, y106, z106⟩, st106⟩ := Jvm.LawKit.callS X102 hx (y := (⟨"java/lang/Math", "min", "(II)I"⟩ : MethodName)) hown0 (mvT hZ0 (hw _ (List.mem_of_getElem? (i := 106) rfl))) (mvT hZ0 (hw _ (List.mem_of_getElem? (i := 107) rfl))) (mvT hZ0 (hw _ (List.mem_of_getElem? (i := 108) rfl))) (mvT hZ0 (hw _ (List.mem_of_getElem? (i := 109) rfl))) (by decide) (backOf (W := 4) (rm21 l Z a0 hw [] (z - p2) (p3 - p2) h102 n0 Zs102 ) hZ0 (hw _ (List.mem_of_getElem? (i := 109) rfl)) (hw _ (List.mem_of_getElem? (i := 108) rfl)) (by decide) (by decide)) (g := (mkF m 24 #[.val (.ref a1), .val (.int p2), .val (.int p3), .val (.int (p3 - p2)), .val (.ref b102)] [(.int (p3 - p2)), (.int (z - p2)), (.int (0 : Int32)), (.ref b102), (.int p2), (.ref a1)])) rfl (by rw [hml]; rfl) (argsL := [(.int (z - p2)), (.int (p3 - p2))]) (rest := [(.int (0 : Int32)), (.ref b102), (.int p2), (.ref a1)]) (lenOf pd_14 rfl) rfl (by show 2 * 0 + _ ≤ _; exact Nat.le_of_eq rfl) (hb hby d19_24) (fun _ _ => ⟨rfl, e102, (by decide : 1 + 0 ≤ _), (by decide : 16 + 0 ≤ _)⟩)
  dsimp only [Pt.U, Pt.locs, Pt.cells, Pt.slots] at X106 l106 y106 z106 st106 hQ106
  subst l106 y106 z106
  obtain ⟨hv106, N106q, P106_0⟩ := hQ106
  obtain rfl := hv106.trans (congrArg (fun z => some (Value.int z)) ((own_cra cr).2.2.1 : (own_min (z - p2) (p3 - p2)) = (p3 - p2)))
  have N106 := Fr.app N101 N106q
  obtain ⟨kq107, Aq107⟩ := OwnB.arv (id f104)
  obtain ⟨T107, h107, L107, X107, e107, N107, K107, V107, st107⟩ := cpA X106 hx hZ0 hown0 (hw _ (List.mem_of_getElem? (i := 110) rfl)) (hw _ (List.mem_of_getElem? (i := 113) rfl)) (hw _ (List.mem_of_getElem? (i := 111) rfl)) (hw _ (List.mem_of_getElem? (i := 112) rfl)) P106_0 Aq107 v102 (Or.inl ⟨rfl, rfl⟩) (sp := p2) (dp := (0 : Int32)) (nn := (p3 - p2)) cr.1 (by decide) (own_cra cr).1 (own_cra cr).2.2.2 (Nat.le_of_eq (Nat.zero_add _)) rfl (by rw [List.length_replicate]; exact Nat.le_of_eq (Nat.zero_add _)) N106 gn_b102 (g := (mkF m 27 #[.val (.ref a1), .val (.int p2), .val (.int p3), .val (.int (p3 - p2)), .val (.ref b102)] [(.int (p3 - p2)), (.int (0 : Int32)), (.ref b102), (.int p2), (.ref a1)])) rfl (by rw [hml]; rfl) rfl (hb hby d19_27) (by decide) (W := 0) (by show 2 * 0 + _ ≤ _; exact Nat.le_of_eq rfl) (by decide)
  have f108 : Old Z n0 h107 := f103.keep K107 (allS gn_b102 all0)
  have f109 : OwnB Z h107 a1 z z.toNatClampNeg g := OwnB.keep f104 K107 (ninS ne_a1_b102 nin0)
  have Zs107 : n0 ≤ h107.size := Nat.le_trans Zs102 K107.1
  have KK107 : Keep h0 h107 [] := K102.trans K107 (allS (Or.inr sz_b102) all0)
  have w107 : OwnB Z h107 b102 (p3 - p2) (p3 - p2).toNatClampNeg (own_sh g p2) := OwnB.of V107 (own_cp (own_cra cr).2.2.2)
  obtain ⟨fs, hr, hrun, hended, hW, hsame⟩ := X107.leave (v := some (.ref b102)) (fun h => by rw [Bd.returns] at h; cases h) hlk
  refine ⟨_, _, pre0 _ ?_, hrun, hended, _, _, rfl, ?_, ⟨_, rfl⟩, hW, hsame.mono (by decide) (by decide)⟩
  · show Steps p.tables e below (s₁.setTop (mkF m 0 #[.val (.ref a1), .val (.int p2), .val (.int p3), .unset, .unset] [])) _
    refine XS.iloadN X0.here hx rfl (hb hby d19_0) rfl ?_
    show Steps p.tables e below (s₁.setTop (mkF m 1 #[.val (.ref a1), .val (.int p2), .val (.int p3), .unset, .unset] [(.int p2)])) _
    refine XS.iloadN X0.here hx rfl (hb hby d19_1) rfl ?_
    show Steps p.tables e below (s₁.setTop (mkF m 2 #[.val (.ref a1), .val (.int p2), .val (.int p3), .unset, .unset] [(.int p3), (.int p2)])) _
    refine st101 _ ?_
    show Steps p.tables e below (T101.setTop (mkF m 5 #[.val (.ref a1), .val (.int p2), .val (.int p3), .unset, .unset] [])) _
    refine XS.iloadN X101.here hx rfl (hb hby d19_5) rfl ?_
    show Steps p.tables e below (T101.setTop (mkF m 6 #[.val (.ref a1), .val (.int p2), .val (.int p3), .unset, .unset] [(.int p3)])) _
    refine XS.iloadN X101.here hx rfl (hb hby d19_6) rfl ?_
    show Steps p.tables e below (T101.setTop (mkF m 7 #[.val (.ref a1), .val (.int p2), .val (.int p3), .unset, .unset] [(.int p2), (.int p3)])) _
    refine XS.isub X101.here hx rfl (hb hby d19_7) rfl ?_
    show Steps p.tables e below (T101.setTop (mkF m 8 #[.val (.ref a1), .val (.int p2), .val (.int p3), .unset, .unset] [(.int (p3 - p2))])) _
    refine XS.istoreN X101.here hx rfl (hb hby d19_8) rfl (l' := #[.val (.ref a1), .val (.int p2), .val (.int p3), .val (.int (p3 - p2)), .unset]) rfl ?_
    show Steps p.tables e below (T101.setTop (mkF m 9 #[.val (.ref a1), .val (.int p2), .val (.int p3), .val (.int (p3 - p2)), .unset] [])) _
    refine XS.iloadN X101.here hx rfl (hb hby d19_9) rfl ?_
    show Steps p.tables e below (T101.setTop (mkF m 10 #[.val (.ref a1), .val (.int p2), .val (.int p3), .val (.int (p3 - p2)), .unset] [(.int (p3 - p2))])) _
    refine st102 _ ?_
    show Steps p.tables e below (T102.setTop (mkF m 12 #[.val (.ref a1), .val (.int p2), .val (.int p3), .val (.int (p3 - p2)), .unset] [(.ref b102)])) _
    refine XS.astore X102.here hx rfl (hb hby d19_12) rfl rfl (l' := #[.val (.ref a1), .val (.int p2), .val (.int p3), .val (.int (p3 - p2)), .val (.ref b102)]) rfl ?_
    show Steps p.tables e below (T102.setTop (mkF m 14 #[.val (.ref a1), .val (.int p2), .val (.int p3), .val (.int (p3 - p2)), .val (.ref b102)] [])) _
    refine XS.aloadN X102.here hx rfl (hb hby d19_14) rfl rfl ?_
    show Steps p.tables e below (T102.setTop (mkF m 15 #[.val (.ref a1), .val (.int p2), .val (.int p3), .val (.int (p3 - p2)), .val (.ref b102)] [(.ref a1)])) _
    refine XS.iloadN X102.here hx rfl (hb hby d19_15) rfl ?_
    show Steps p.tables e below (T102.setTop (mkF m 16 #[.val (.ref a1), .val (.int p2), .val (.int p3), .val (.int (p3 - p2)), .val (.ref b102)] [(.int p2), (.ref a1)])) _
    refine XS.aload X102.here hx rfl (hb hby d19_16) rfl rfl ?_
    show Steps p.tables e below (T102.setTop (mkF m 18 #[.val (.ref a1), .val (.int p2), .val (.int p3), .val (.int (p3 - p2)), .val (.ref b102)] [(.ref b102), (.int p2), (.ref a1)])) _
    refine XS.iconst X102.here hx rfl (hb hby d19_18) ?_
    show Steps p.tables e below (T102.setTop (mkF m 19 #[.val (.ref a1), .val (.int p2), .val (.int p3), .val (.int (p3 - p2)), .val (.ref b102)] [(.int (0 : Int32)), (.ref b102), (.int p2), (.ref a1)])) _
    refine XS.aloadN X102.here hx rfl (hb hby d19_19) rfl rfl ?_
    show Steps p.tables e below (T102.setTop (mkF m 20 #[.val (.ref a1), .val (.int p2), .val (.int p3), .val (.int (p3 - p2)), .val (.ref b102)] [(.ref a1), (.int (0 : Int32)), (.ref b102), (.int p2), (.ref a1)])) _
    refine X102.arraylength hx (by rw [e102]; exact Ar105.1) (State.isArrayOf_alike hZ0.alike Ar105.2.1) (g := (mkF m 20 #[.val (.ref a1), .val (.int p2), .val (.int p3), .val (.int (p3 - p2)), .val (.ref b102)] [(.ref a1), (.int (0 : Int32)), (.ref b102), (.int p2), (.ref a1)])) rfl rfl (hb hby d19_20) _ ?_
    rw [len_of Sz105 Nn105]
    show Steps p.tables e below (T102.setTop (mkF m 21 #[.val (.ref a1), .val (.int p2), .val (.int p3), .val (.int (p3 - p2)), .val (.ref b102)] [(.int z), (.int (0 : Int32)), (.ref b102), (.int p2), (.ref a1)])) _
    refine XS.iloadN X102.here hx rfl (hb hby d19_21) rfl ?_
    show Steps p.tables e below (T102.setTop (mkF m 22 #[.val (.ref a1), .val (.int p2), .val (.int p3), .val (.int (p3 - p2)), .val (.ref b102)] [(.int p2), (.int z), (.int (0 : Int32)), (.ref b102), (.int p2), (.ref a1)])) _
    refine XS.isub X102.here hx rfl (hb hby d19_22) rfl ?_
    show Steps p.tables e below (T102.setTop (mkF m 23 #[.val (.ref a1), .val (.int p2), .val (.int p3), .val (.int (p3 - p2)), .val (.ref b102)] [(.int (z - p2)), (.int (0 : Int32)), (.ref b102), (.int p2), (.ref a1)])) _
    refine XS.iloadN X102.here hx rfl (hb hby d19_23) rfl ?_
    show Steps p.tables e below (T102.setTop (mkF m 24 #[.val (.ref a1), .val (.int p2), .val (.int p3), .val (.int (p3 - p2)), .val (.ref b102)] [(.int (p3 - p2)), (.int (z - p2)), (.int (0 : Int32)), (.ref b102), (.int p2), (.ref a1)])) _
    refine st106 _ ?_
    show Steps p.tables e below (T106.setTop (mkF m 27 #[.val (.ref a1), .val (.int p2), .val (.int p3), .val (.int (p3 - p2)), .val (.ref b102)] [(.int (p3 - p2)), (.int (0 : Int32)), (.ref b102), (.int p2), (.ref a1)])) _
    refine st107 _ ?_
    show Steps p.tables e below (T107.setTop (mkF m 30 #[.val (.ref a1), .val (.int p2), .val (.int p3), .val (.int (p3 - p2)), .val (.ref b102)] [])) _
    refine XS.aload X107.here hx rfl (hb hby d19_30) rfl rfl ?_
    show Steps p.tables e below (T107.setTop (mkF m 32 #[.val (.ref a1), .val (.int p2), .val (.int p3), .val (.int (p3 - p2)), .val (.ref b102)] [(.ref b102)])) _
    jvm_step X107.here [X107.here.top, hx, (hb hby d19_32), X107.method', Bd.returns, Value.isRef, FieldType.isReference]
    first | (intro acts; rw [hr _ acts rfl rfl rfl]) | rw [hr _ _ rfl rfl rfl]
    exact Steps.refl _
  · show Q19 Z a1 p2 p3 z g h0 n0 _ T107.heap _
    rw [e107]
    exact ⟨b102, rfl, N107, KK107, sz_b102, w107⟩
theorem ef_18 (m : MethodId) (x0 : Addr) (x1 : Int32) (x2 : Int32) : entryFrame m #[(.ref x0), (.int x1), (.int x2)] 3 = mkF m 0 #[.val (.ref x0), .val (.int x1), .val (.int x2)] [] := by first | (simp [entryFrame, mkF, argsToLocals, Value.category]; done) | rfl
theorem d18_0 : decode jdk_65_method_132_code 0 = .ok (.iload_n 1, 1) := by decide +kernel
theorem d18_1 : decode jdk_65_method_132_code 1 = .ok (.ifCond .ne 9, 3) := by decide +kernel
theorem d18_4 : decode jdk_65_method_132_code 4 = .ok (.iload_n 2, 1) := by decide +kernel
theorem d18_5 : decode jdk_65_method_132_code 5 = .ok (.aload_n 0, 1) := by decide +kernel
theorem d18_6 : decode jdk_65_method_132_code 6 = .ok (.arraylength, 1) := by decide +kernel
theorem d18_7 : decode jdk_65_method_132_code 7 = .ok (.if_icmp .eq 10, 3) := by decide +kernel
theorem d18_10 : decode jdk_65_method_132_code 10 = .ok (.aload_n 0, 1) := by decide +kernel
theorem d18_11 : decode jdk_65_method_132_code 11 = .ok (.iload_n 1, 1) := by decide +kernel
theorem d18_12 : decode jdk_65_method_132_code 12 = .ok (.iload_n 2, 1) := by decide +kernel
theorem d18_13 : decode jdk_65_method_132_code 13 = .ok (.invokestatic 339, 3) := by decide +kernel
theorem pd_15 : parseMethodDescriptor "([BII)[B" = some ⟨[(.array .byte), .int, .int], some (.array .byte)⟩ := by decide +kernel
theorem d18_16 : decode jdk_65_method_132_code 16 = .ok (.areturn, 1) := by decide +kernel
def Q18 (Z : State) (a1 : Addr) (p2 : Int32) (p3 : Int32) (z : Int32) (g : Nat → Int32) (h0 : Heap) (n0 : Nat) (v : Option Value) (h : Heap) (L : List Loc) : Prop := ∃ b : Addr, v = some (.ref b) ∧ Fr n0 L ∧ (Keep h0 h []) ∧ (h0.size ≤ b) ∧ (OwnB Z h b (p3 - p2) (p3 - p2).toNatClampNeg (own_sh g p2))
set_option maxRecDepth 65536 in
set_option maxHeartbeats 40000000 in
theorem rm18 (l : Launch) (Z : State) (a0 : Array Value) (hw : ∀ d ∈ tables_1, d.before a0 Z = true) (ws : List Jvm.Cond) (a1 : Addr) (p2 : Int32) (p3 : Int32) (z : Int32) (g : Nat → Int32) (h0 : Heap) (n0 : Nat) (Z0 : n0 ≤ h0.size) (O0 : Old Z n0 h0) (A1 : OwnB Z h0 a1 z z.toNatClampNeg g) (cr : own_cr p2 p3 z) (nf : ¬ (p2 = (0 : Int32) ∧ p3 = z)) :
    MetFree l (⟨"java/util/Arrays", "copyOfRange", "([BII)[B"⟩ : MethodName) (head1 (Jvm.Cond.code (⟨"java/util/Arrays", "copyOfRange", "([BII)[B"⟩ : MethodName) jdk_65_method_132_code 3 (some (.array .byte)) :: ws) ({ frames := 2, cells := 1, slots := 16, locals := 34 } : Room)) (fun a U => a = #[(.ref a1), (.int p2), (.int p3)] ∧ Z.Warmed39 U.vm ∧ U.heap = h0) (fun _ _ _ _ _ => True) (fun _ U o U' => ∃ v L, o = .returned v ∧ Q18 Z a1 p2 p3 z g h0 n0 v U'.heap L ∧ FrameEnd U o U' L ({ frames := 2, cells := 1, slots := 16, locals := 34 } : Room).cells ({ frames := 2, cells := 1, slots := 16, locals := 34 } : Room).slots) := by
  refine MetFree.of_bodySF (plainFor_of_name pn_4) hisR ?_
  intro p e s m args below meth c s₁ Bd hml0 hP hK
  obtain ⟨rfl, hZ0, hh⟩ := hP
  have hx := Bd.exec
  have hby := Bd.bytes
  have hml : c.maxLocals = 3 := hml0
  have hown0 : s.vm.findClass "java/util/Arrays" = some m.cls := findClass_of_methodNamed Bd.named
  have hnm := (name_of_methodNamed Bd.named Bd.method).1
  have hlk : meth.locks = false := by first | exact BodyLoose.notSynchronized Bd | exact Body.notSynchronized Bd
  have X0 : Stand p l e ({ frames := 2, cells := 1, slots := 16, locals := 34 } : Room) s m #[(.ref a1), (.int p2), (.int p3)] below meth c s₁ [] 0 0 := Stand.of_body Bd
  have e0 : s₁.heap = h0 := by rw [← hh, Bd.state]; rfl
  have N0 := Fr.nil n0
  have pre0 : ∀ t, Steps p.tables e below (s₁.setTop (mkF m 0 #[.val (.ref a1), .val (.int p2), .val (.int p3)] [])) t → Steps p.tables e below (s₁.setTop (entryFrame m #[(.ref a1), (.int p2), (.int p3)] 3)) t := fun t k => castTop (ef_18 m a1 p2 p3) k
  by_cases hc101 : p2 = (0 : Int32)
  · obtain ⟨cl102, Ar102, Sz102, Nn102, Hs102⟩ := (id A1)
    obtain ⟨_, _, ⟨T103, L103, k103, n103⟩, -, X103, ⟨Lc103, hQ103, l103, y103, z103⟩, st103⟩ := Jvm.LawKit.callS X0 hx (y := (⟨"java/util/Arrays", "copyOfRangeByte", "([BII)[B"⟩ : MethodName)) hown0 (mvT hZ0 (hw _ (List.mem_of_getElem? (i := 100) rfl))) (mvT hZ0 (hw _ (List.mem_of_getElem? (i := 101) rfl))) (mvT hZ0 (hw _ (List.mem_of_getElem? (i := 98) rfl))) (mvT hZ0 (hw _ (List.mem_of_getElem? (i := 102) rfl))) (by decide) (backOf (W := 0) (rm19 l Z a0 hw [] a1 p2 p3 z g h0 n0 Z0 O0 A1 cr) hZ0 (hw _ (List.mem_of_getElem? (i := 102) rfl)) (hw _ (List.mem_of_getElem? (i := 98) rfl)) (by decide) (by decide)) (g := (mkF m 13 #[.val (.ref a1), .val (.int p2), .val (.int p3)] [(.int p3), (.int p2), (.ref a1)])) rfl (by rw [hml]; rfl) (argsL := [(.ref a1), (.int p2), (.int p3)]) (rest := []) (lenOf pd_15 rfl) rfl (by show 2 * 0 + _ ≤ _; exact Nat.le_of_eq rfl) (hb hby d18_13) (fun _ _ => ⟨rfl, e0, (by decide : 0 + 1 ≤ _), (by decide : 0 + 16 ≤ _)⟩)
    dsimp only [Pt.U, Pt.locs, Pt.cells, Pt.slots] at X103 l103 y103 z103 st103 hQ103
    subst l103 y103 z103
    obtain ⟨b_103, rfl, N103q, P103_0, P103_1, P103_2⟩ := hQ103
    have N103 := Fr.app N0 N103q
    have ne_a1_b_103 : a1 ≠ b_103 := Nat.ne_of_lt (Nat.lt_of_lt_of_le A1.lt P103_1)
    have gn_b_103 : n0 ≤ b_103 := Nat.le_trans Z0 P103_1
    have sz_b_103 : h0.size ≤ b_103 := Nat.le_trans (Keep.refl h0 []).1 P103_1
    have f104 : Old Z n0 T103.heap := O0.keep P103_0 all0
    have f105 : OwnB Z T103.heap a1 z z.toNatClampNeg g := OwnB.keep A1 P103_0 nin0
    have Zs103 : n0 ≤ T103.heap.size := Nat.le_trans Z0 P103_0.1
    have K103 : Keep h0 T103.heap [] := (Keep.refl h0 []).trans P103_0 all0
    obtain ⟨fs, hr, hrun, hended, hW, hsame⟩ := X103.leave (v := some (.ref b_103)) (fun h => by rw [Bd.returns] at h; cases h) hlk
    refine ⟨_, _, pre0 _ ?_, hrun, hended, _, _, rfl, ?_, ⟨_, rfl⟩, hW, hsame.mono (by decide) (by decide)⟩
    · show Steps p.tables e below (s₁.setTop (mkF m 0 #[.val (.ref a1), .val (.int p2), .val (.int p3)] [])) _
      refine XS.iloadN X0.here hx rfl (hb hby d18_0) rfl ?_
      show Steps p.tables e below (s₁.setTop (mkF m 1 #[.val (.ref a1), .val (.int p2), .val (.int p3)] [(.int p2)])) _
      refine XS.ifNo X0.here hx rfl (hb hby d18_1) rfl ((if0 _ _).trans (teq hc101).2) ?_
      show Steps p.tables e below (s₁.setTop (mkF m 4 #[.val (.ref a1), .val (.int p2), .val (.int p3)] [])) _
      refine XS.iloadN X0.here hx rfl (hb hby d18_4) rfl ?_
      show Steps p.tables e below (s₁.setTop (mkF m 5 #[.val (.ref a1), .val (.int p2), .val (.int p3)] [(.int p3)])) _
      refine XS.aloadN X0.here hx rfl (hb hby d18_5) rfl rfl ?_
      show Steps p.tables e below (s₁.setTop (mkF m 6 #[.val (.ref a1), .val (.int p2), .val (.int p3)] [(.ref a1), (.int p3)])) _
      refine X0.arraylength hx (by rw [e0]; exact Ar102.1) (State.isArrayOf_alike hZ0.alike Ar102.2.1) (g := (mkF m 6 #[.val (.ref a1), .val (.int p2), .val (.int p3)] [(.ref a1), (.int p3)])) rfl rfl (hb hby d18_6) _ ?_
      rw [len_of Sz102 Nn102]
      show Steps p.tables e below (s₁.setTop (mkF m 7 #[.val (.ref a1), .val (.int p2), .val (.int p3)] [(.int z), (.int p3)])) _
      refine XS.icmpNo X0.here hx rfl (hb hby d18_7) rfl (feq (fun q => nf ⟨hc101, q⟩ : ¬ (p3 = z))).1 ?_
      show Steps p.tables e below (s₁.setTop (mkF m 10 #[.val (.ref a1), .val (.int p2), .val (.int p3)] [])) _
      refine XS.aloadN X0.here hx rfl (hb hby d18_10) rfl rfl ?_
      show Steps p.tables e below (s₁.setTop (mkF m 11 #[.val (.ref a1), .val (.int p2), .val (.int p3)] [(.ref a1)])) _
      refine XS.iloadN X0.here hx rfl (hb hby d18_11) rfl ?_
      show Steps p.tables e below (s₁.setTop (mkF m 12 #[.val (.ref a1), .val (.int p2), .val (.int p3)] [(.int p2), (.ref a1)])) _
      refine XS.iloadN X0.here hx rfl (hb hby d18_12) rfl ?_
      show Steps p.tables e below (s₁.setTop (mkF m 13 #[.val (.ref a1), .val (.int p2), .val (.int p3)] [(.int p3), (.int p2), (.ref a1)])) _
      refine st103 _ ?_
      show Steps p.tables e below (T103.setTop (mkF m 16 #[.val (.ref a1), .val (.int p2), .val (.int p3)] [(.ref b_103)])) _
      jvm_step X103.here [X103.here.top, hx, (hb hby d18_16), X103.method', Bd.returns, Value.isRef, FieldType.isReference]
      first | (intro acts; rw [hr _ acts rfl rfl rfl]) | rw [hr _ _ rfl rfl rfl]
      exact Steps.refl _
    · show Q18 Z a1 p2 p3 z g h0 n0 _ T103.heap _
      exact ⟨b_103, rfl, N103, K103, P103_1, P103_2⟩
  · obtain ⟨_, _, ⟨T106, L106, k106, n106⟩, -, X106, ⟨Lc106, hQ106, l106, y106, z106⟩, st106⟩ := Jvm.LawKit.callS X0 hx (y := (⟨"java/util/Arrays", "copyOfRangeByte", "([BII)[B"⟩ : MethodName)) hown0 (mvT hZ0 (hw _ (List.mem_of_getElem? (i := 100) rfl))) (mvT hZ0 (hw _ (List.mem_of_getElem? (i := 101) rfl))) (mvT hZ0 (hw _ (List.mem_of_getElem? (i := 98) rfl))) (mvT hZ0 (hw _ (List.mem_of_getElem? (i := 102) rfl))) (by decide) (backOf (W := 0) (rm19 l Z a0 hw [] a1 p2 p3 z g h0 n0 Z0 O0 A1 cr) hZ0 (hw _ (List.mem_of_getElem? (i := 102) rfl)) (hw _ (List.mem_of_getElem? (i := 98) rfl)) (by decide) (by decide)) (g := (mkF m 13 #[.val (.ref a1), .val (.int p2), .val (.int p3)] [(.int p3), (.int p2), (.ref a1)])) rfl (by rw [hml]; rfl) (argsL := [(.ref a1), (.int p2), (.int p3)]) (rest := []) (lenOf pd_15 rfl) rfl (by show 2 * 0 + _ ≤ _; exact Nat.le_of_eq rfl) (hb hby d18_13) (fun _ _ => ⟨rfl, e0, (by decide : 0 + 1 ≤ _), (by decide : 0 + 16 ≤ _)⟩)
    dsimp only [Pt.U, Pt.locs, Pt.cells, Pt.slots] at X106 l106 y106 z106 st106 hQ106
    subst l106 y106 z106
    obtain ⟨b_106, rfl, N106q, P106_0, P106_1, P106_2⟩ := hQ106
    have N106 := Fr.app N0 N106q
    have ne_a1_b_106 : a1 ≠ b_106 := Nat.ne_of_lt (Nat.lt_of_lt_of_le A1.lt P106_1)
    have gn_b_106 : n0 ≤ b_106 := Nat.le_trans Z0 P106_1
    have sz_b_106 : h0.size ≤ b_106 := Nat.le_trans (Keep.refl h0 []).1 P106_1
    have f107 : Old Z n0 T106.heap := O0.keep P106_0 all0
    have f108 : OwnB Z T106.heap a1 z z.toNatClampNeg g := OwnB.keep A1 P106_0 nin0
    have Zs106 : n0 ≤ T106.heap.size := Nat.le_trans Z0 P106_0.1
    have K106 : Keep h0 T106.heap [] := (Keep.refl h0 []).trans P106_0 all0
    obtain ⟨fs, hr, hrun, hended, hW, hsame⟩ := X106.leave (v := some (.ref b_106)) (fun h => by rw [Bd.returns] at h; cases h) hlk
    refine ⟨_, _, pre0 _ ?_, hrun, hended, _, _, rfl, ?_, ⟨_, rfl⟩, hW, hsame.mono (by decide) (by decide)⟩
    · show Steps p.tables e below (s₁.setTop (mkF m 0 #[.val (.ref a1), .val (.int p2), .val (.int p3)] [])) _
      refine XS.iloadN X0.here hx rfl (hb hby d18_0) rfl ?_
      show Steps p.tables e below (s₁.setTop (mkF m 1 #[.val (.ref a1), .val (.int p2), .val (.int p3)] [(.int p2)])) _
      refine XS.ifYes X0.here hx rfl (pc0 := 1) (pc' := 10) rfl (hb hby d18_1) rfl ((if0 _ _).trans (feq hc101).2) (by decide) (by decide) ?_
      show Steps p.tables e below (s₁.setTop (mkF m 10 #[.val (.ref a1), .val (.int p2), .val (.int p3)] [])) _
      refine XS.aloadN X0.here hx rfl (hb hby d18_10) rfl rfl ?_
      show Steps p.tables e below (s₁.setTop (mkF m 11 #[.val (.ref a1), .val (.int p2), .val (.int p3)] [(.ref a1)])) _
      refine XS.iloadN X0.here hx rfl (hb hby d18_11) rfl ?_
      show Steps p.tables e below (s₁.setTop (mkF m 12 #[.val (.ref a1), .val (.int p2), .val (.int p3)] [(.int p2), (.ref a1)])) _
      refine XS.iloadN X0.here hx rfl (hb hby d18_12) rfl ?_
      show Steps p.tables e below (s₁.setTop (mkF m 13 #[.val (.ref a1), .val (.int p2), .val (.int p3)] [(.int p3), (.int p2), (.ref a1)])) _
      refine st106 _ ?_
      show Steps p.tables e below (T106.setTop (mkF m 16 #[.val (.ref a1), .val (.int p2), .val (.int p3)] [(.ref b_106)])) _
      jvm_step X106.here [X106.here.top, hx, (hb hby d18_16), X106.method', Bd.returns, Value.isRef, FieldType.isReference]
      first | (intro acts; rw [hr _ acts rfl rfl rfl]) | rw [hr _ _ rfl rfl rfl]
      exact Steps.refl _
    · show Q18 Z a1 p2 p3 z g h0 n0 _ T106.heap _
      exact ⟨b_106, rfl, N106, K106, P106_1, P106_2⟩
theorem ef_15n (m : MethodId) (x0 : Int32) (x1 : Int32) (x2 : Int32) : entryFrame m #[(.int x0), (.int x1), (.int x2), .null] 4 = mkF m 0 #[.val (.int x0), .val (.int x1), .val (.int x2), .val .null] [] := by first | (simp [entryFrame, mkF, argsToLocals, Value.category]; done) | rfl
theorem d15_0 : decode jdk_41_method_12_code 0 = .ok (.iload_n 0, 1) := by decide +kernel
theorem d15_1 : decode jdk_41_method_12_code 1 = .ok (.ifCond .lt 13, 3) := by decide +kernel
theorem d15_4 : decode jdk_41_method_12_code 4 = .ok (.iload_n 0, 1) := by decide +kernel
theorem d15_5 : decode jdk_41_method_12_code 5 = .ok (.iload_n 1, 1) := by decide +kernel
theorem d15_6 : decode jdk_41_method_12_code 6 = .ok (.if_icmp .gt 8, 3) := by decide +kernel
theorem d15_9 : decode jdk_41_method_12_code 9 = .ok (.iload_n 1, 1) := by decide +kernel
theorem d15_10 : decode jdk_41_method_12_code 10 = .ok (.iload_n 2, 1) := by decide +kernel
theorem d15_11 : decode jdk_41_method_12_code 11 = .ok (.if_icmp .le 11, 3) := by decide +kernel
theorem d15_22 : decode jdk_41_method_12_code 22 = .ok (.iload_n 0, 1) := by decide +kernel
theorem d15_23 : decode jdk_41_method_12_code 23 = .ok (.ireturn, 1) := by decide +kernel
def Q15n (Z : State) (p1 : Int32) (p2 : Int32) (p3 : Int32) (h0 : Heap) (n0 : Nat) (v : Option Value) (h : Heap) (L : List Loc) : Prop := v = some (.int p1) ∧ Fr n0 L ∧ (h = h0)
set_option maxRecDepth 65536 in
set_option maxHeartbeats 40000000 in
theorem rm15n (l : Launch) (Z : State) (a0 : Array Value) (hw : ∀ d ∈ tables_1, d.before a0 Z = true) (ws : List Jvm.Cond) (p1 : Int32) (p2 : Int32) (p3 : Int32) (h0 : Heap) (n0 : Nat) (Z0 : n0 ≤ h0.size) (h1 : ¬ (p1 < (0 : Int32))) (h2 : ¬ (p2 < p1)) (h3 : ¬ (p3 < p2)) :
    MetFree l (⟨"jdk/internal/util/Preconditions", "checkFromToIndex", "(IIILjava/util/function/BiFunction;)I"⟩ : MethodName) (head1 (Jvm.Cond.code (⟨"jdk/internal/util/Preconditions", "checkFromToIndex", "(IIILjava/util/function/BiFunction;)I"⟩ : MethodName) jdk_41_method_12_code 4 (some .int) :: ws) ({ frames := 0, cells := 0, slots := 0, locals := 0 } : Room)) (fun a U => a = #[(.int p1), (.int p2), (.int p3), .null] ∧ Z.Warmed39 U.vm ∧ U.heap = h0) (fun _ _ _ _ _ => True) (fun _ U o U' => ∃ v L, o = .returned v ∧ Q15n Z p1 p2 p3 h0 n0 v U'.heap L ∧ FrameEnd U o U' L ({ frames := 0, cells := 0, slots := 0, locals := 0 } : Room).cells ({ frames := 0, cells := 0, slots := 0, locals := 0 } : Room).slots) := by
  refine MetFree.of_bodySF (plainFor_of_name pn_0) hisR ?_
  intro p e s m args below meth c s₁ Bd hml0 hP hK
  obtain ⟨rfl, hZ0, hh⟩ := hP
  have hx := Bd.exec
  have hby := Bd.bytes
  have hml : c.maxLocals = 4 := hml0
  have hown0 : s.vm.findClass "jdk/internal/util/Preconditions" = some m.cls := findClass_of_methodNamed Bd.named
  have hnm := (name_of_methodNamed Bd.named Bd.method).1
  have hlk : meth.locks = false := by first | exact BodyLoose.notSynchronized Bd | exact Body.notSynchronized Bd
  have X0 : Stand p l e ({ frames := 0, cells := 0, slots := 0, locals := 0 } : Room) s m #[(.int p1), (.int p2), (.int p3), .null] below meth c s₁ [] 0 0 := Stand.of_body Bd
  have e0 : s₁.heap = h0 := by rw [← hh, Bd.state]; rfl
  have N0 := Fr.nil n0
  have pre0 : ∀ t, Steps p.tables e below (s₁.setTop (mkF m 0 #[.val (.int p1), .val (.int p2), .val (.int p3), .val .null] [])) t → Steps p.tables e below (s₁.setTop (entryFrame m #[(.int p1), (.int p2), (.int p3), .null] 4)) t := fun t k => castTop (ef_15n m p1 p2 p3) k
  obtain ⟨fs, hr, hrun, hended, hW, hsame⟩ := X0.leave (v := some (.int p1)) (fun h => by rw [Bd.returns] at h; cases h) hlk
  refine ⟨_, _, pre0 _ ?_, hrun, hended, _, _, rfl, ?_, ⟨_, rfl⟩, hW, hsame.mono (by decide) (by decide)⟩
  · show Steps p.tables e below (s₁.setTop (mkF m 0 #[.val (.int p1), .val (.int p2), .val (.int p3), .val .null] [])) _
    refine XS.iloadN X0.here hx rfl (hb hby d15_0) rfl ?_
    show Steps p.tables e below (s₁.setTop (mkF m 1 #[.val (.int p1), .val (.int p2), .val (.int p3), .val .null] [(.int p1)])) _
    refine XS.ifNo X0.here hx rfl (hb hby d15_1) rfl ((if0 _ _).trans (flt h1).1) ?_
    show Steps p.tables e below (s₁.setTop (mkF m 4 #[.val (.int p1), .val (.int p2), .val (.int p3), .val .null] [])) _
    refine XS.iloadN X0.here hx rfl (hb hby d15_4) rfl ?_
    show Steps p.tables e below (s₁.setTop (mkF m 5 #[.val (.int p1), .val (.int p2), .val (.int p3), .val .null] [(.int p1)])) _
    refine XS.iloadN X0.here hx rfl (hb hby d15_5) rfl ?_
    show Steps p.tables e below (s₁.setTop (mkF m 6 #[.val (.int p1), .val (.int p2), .val (.int p3), .val .null] [(.int p2), (.int p1)])) _
    refine XS.icmpNo X0.here hx rfl (hb hby d15_6) rfl (flt h2).2.2.1 ?_
    show Steps p.tables e below (s₁.setTop (mkF m 9 #[.val (.int p1), .val (.int p2), .val (.int p3), .val .null] [])) _
    refine XS.iloadN X0.here hx rfl (hb hby d15_9) rfl ?_
    show Steps p.tables e below (s₁.setTop (mkF m 10 #[.val (.int p1), .val (.int p2), .val (.int p3), .val .null] [(.int p2)])) _
    refine XS.iloadN X0.here hx rfl (hb hby d15_10) rfl ?_
    show Steps p.tables e below (s₁.setTop (mkF m 11 #[.val (.int p1), .val (.int p2), .val (.int p3), .val .null] [(.int p3), (.int p2)])) _
    refine XS.icmpYes X0.here hx rfl (pc0 := 11) (pc' := 22) rfl (hb hby d15_11) rfl (flt h3).2.2.2 (by decide) (by decide) ?_
    show Steps p.tables e below (s₁.setTop (mkF m 22 #[.val (.int p1), .val (.int p2), .val (.int p3), .val .null] [])) _
    refine XS.iloadN X0.here hx rfl (hb hby d15_22) rfl ?_
    show Steps p.tables e below (s₁.setTop (mkF m 23 #[.val (.int p1), .val (.int p2), .val (.int p3), .val .null] [(.int p1)])) _
    exact retI X0 hx Bd.returns (hb hby d15_23) hr
  · show Q15n Z p1 p2 p3 h0 n0 _ s₁.heap _
    rw [e0]
    exact ⟨rfl, N0, rfl⟩
theorem ef_39n (m : MethodId) (x0 : Int32) (x1 : Int32) (x2 : Int32) : entryFrame m #[(.int x0), (.int x1), (.int x2), .null] 4 = mkF m 0 #[.val (.int x0), .val (.int x1), .val (.int x2), .val .null] [] := by first | (simp [entryFrame, mkF, argsToLocals, Value.category]; done) | rfl
theorem d39_0 : decode jdk_41_method_13_code 0 = .ok (.iload_n 2, 1) := by decide +kernel
theorem d39_1 : decode jdk_41_method_13_code 1 = .ok (.iload_n 0, 1) := by decide +kernel
theorem d39_2 : decode jdk_41_method_13_code 2 = .ok (.ior, 1) := by decide +kernel
theorem d39_3 : decode jdk_41_method_13_code 3 = .ok (.iload_n 1, 1) := by decide +kernel
theorem d39_4 : decode jdk_41_method_13_code 4 = .ok (.ior, 1) := by decide +kernel
theorem d39_5 : decode jdk_41_method_13_code 5 = .ok (.ifCond .lt 10, 3) := by decide +kernel
theorem d39_8 : decode jdk_41_method_13_code 8 = .ok (.iload_n 1, 1) := by decide +kernel
theorem d39_9 : decode jdk_41_method_13_code 9 = .ok (.iload_n 2, 1) := by decide +kernel
theorem d39_10 : decode jdk_41_method_13_code 10 = .ok (.iload_n 0, 1) := by decide +kernel
theorem d39_11 : decode jdk_41_method_13_code 11 = .ok (.isub, 1) := by decide +kernel
theorem d39_12 : decode jdk_41_method_13_code 12 = .ok (.if_icmp .le 11, 3) := by decide +kernel
theorem d39_23 : decode jdk_41_method_13_code 23 = .ok (.iload_n 0, 1) := by decide +kernel
theorem d39_24 : decode jdk_41_method_13_code 24 = .ok (.ireturn, 1) := by decide +kernel
def Q39n (Z : State) (p1 : Int32) (p2 : Int32) (p3 : Int32) (h0 : Heap) (n0 : Nat) (v : Option Value) (h : Heap) (L : List Loc) : Prop := v = some (.int p1) ∧ Fr n0 L ∧ (h = h0)
set_option maxRecDepth 65536 in
set_option maxHeartbeats 40000000 in
theorem rm39n (l : Launch) (Z : State) (a0 : Array Value) (hw : ∀ d ∈ tables_1, d.before a0 Z = true) (ws : List Jvm.Cond) (p1 : Int32) (p2 : Int32) (p3 : Int32) (h0 : Heap) (n0 : Nat) (Z0 : n0 ≤ h0.size) (c1 : ¬ (((p3 ||| p1) ||| p2) < (0 : Int32))) (c2 : ¬ ((p3 - p1) < p2)) :
    MetFree l (⟨"jdk/internal/util/Preconditions", "checkFromIndexSize", "(IIILjava/util/function/BiFunction;)I"⟩ : MethodName) (head1 (Jvm.Cond.code (⟨"jdk/internal/util/Preconditions", "checkFromIndexSize", "(IIILjava/util/function/BiFunction;)I"⟩ : MethodName) jdk_41_method_13_code 4 (some .int) :: ws) ({ frames := 0, cells := 0, slots := 0, locals := 0 } : Room)) (fun a U => a = #[(.int p1), (.int p2), (.int p3), .null] ∧ Z.Warmed39 U.vm ∧ U.heap = h0) (fun _ _ _ _ _ => True) (fun _ U o U' => ∃ v L, o = .returned v ∧ Q39n Z p1 p2 p3 h0 n0 v U'.heap L ∧ FrameEnd U o U' L ({ frames := 0, cells := 0, slots := 0, locals := 0 } : Room).cells ({ frames := 0, cells := 0, slots := 0, locals := 0 } : Room).slots) := by
  refine MetFree.of_bodySF (plainFor_of_name pn_0) hisR ?_
  intro p e s m args below meth c s₁ Bd hml0 hP hK
  obtain ⟨rfl, hZ0, hh⟩ := hP
  have hx := Bd.exec
  have hby := Bd.bytes
  have hml : c.maxLocals = 4 := hml0
  have hown0 : s.vm.findClass "jdk/internal/util/Preconditions" = some m.cls := findClass_of_methodNamed Bd.named
  have hnm := (name_of_methodNamed Bd.named Bd.method).1
  have hlk : meth.locks = false := by first | exact BodyLoose.notSynchronized Bd | exact Body.notSynchronized Bd
  have X0 : Stand p l e ({ frames := 0, cells := 0, slots := 0, locals := 0 } : Room) s m #[(.int p1), (.int p2), (.int p3), .null] below meth c s₁ [] 0 0 := Stand.of_body Bd
  have e0 : s₁.heap = h0 := by rw [← hh, Bd.state]; rfl
  have N0 := Fr.nil n0
  have pre0 : ∀ t, Steps p.tables e below (s₁.setTop (mkF m 0 #[.val (.int p1), .val (.int p2), .val (.int p3), .val .null] [])) t → Steps p.tables e below (s₁.setTop (entryFrame m #[(.int p1), (.int p2), (.int p3), .null] 4)) t := fun t k => castTop (ef_39n m p1 p2 p3) k
  obtain ⟨fs, hr, hrun, hended, hW, hsame⟩ := X0.leave (v := some (.int p1)) (fun h => by rw [Bd.returns] at h; cases h) hlk
  refine ⟨_, _, pre0 _ ?_, hrun, hended, _, _, rfl, ?_, ⟨_, rfl⟩, hW, hsame.mono (by decide) (by decide)⟩
  · show Steps p.tables e below (s₁.setTop (mkF m 0 #[.val (.int p1), .val (.int p2), .val (.int p3), .val .null] [])) _
    refine XS.iloadN X0.here hx rfl (hb hby d39_0) rfl ?_
    show Steps p.tables e below (s₁.setTop (mkF m 1 #[.val (.int p1), .val (.int p2), .val (.int p3), .val .null] [(.int p3)])) _
    refine XS.iloadN X0.here hx rfl (hb hby d39_1) rfl ?_
    show Steps p.tables e below (s₁.setTop (mkF m 2 #[.val (.int p1), .val (.int p2), .val (.int p3), .val .null] [(.int p1), (.int p3)])) _
    refine XS.ior X0.here hx rfl (hb hby d39_2) rfl ?_
    show Steps p.tables e below (s₁.setTop (mkF m 3 #[.val (.int p1), .val (.int p2), .val (.int p3), .val .null] [(.int (p3 ||| p1))])) _
    refine XS.iloadN X0.here hx rfl (hb hby d39_3) rfl ?_
    show Steps p.tables e below (s₁.setTop (mkF m 4 #[.val (.int p1), .val (.int p2), .val (.int p3), .val .null] [(.int p2), (.int (p3 ||| p1))])) _
    refine XS.ior X0.here hx rfl (hb hby d39_4) rfl ?_
    show Steps p.tables e below (s₁.setTop (mkF m 5 #[.val (.int p1), .val (.int p2), .val (.int p3), .val .null] [(.int ((p3 ||| p1) ||| p2))])) _
    refine XS.ifNo X0.here hx rfl (hb hby d39_5) rfl ((if0 _ _).trans (flt c1).1) ?_
    show Steps p.tables e below (s₁.setTop (mkF m 8 #[.val (.int p1), .val (.int p2), .val (.int p3), .val .null] [])) _
    refine XS.iloadN X0.here hx rfl (hb hby d39_8) rfl ?_
    show Steps p.tables e below (s₁.setTop (mkF m 9 #[.val (.int p1), .val (.int p2), .val (.int p3), .val .null] [(.int p2)])) _
    refine XS.iloadN X0.here hx rfl (hb hby d39_9) rfl ?_
    show Steps p.tables e below (s₁.setTop (mkF m 10 #[.val (.int p1), .val (.int p2), .val (.int p3), .val .null] [(.int p3), (.int p2)])) _
    refine XS.iloadN X0.here hx rfl (hb hby d39_10) rfl ?_
    show Steps p.tables e below (s₁.setTop (mkF m 11 #[.val (.int p1), .val (.int p2), .val (.int p3), .val .null] [(.int p1), (.int p3), (.int p2)])) _
    refine XS.isub X0.here hx rfl (hb hby d39_11) rfl ?_
    show Steps p.tables e below (s₁.setTop (mkF m 12 #[.val (.int p1), .val (.int p2), .val (.int p3), .val .null] [(.int (p3 - p1)), (.int p2)])) _
    refine XS.icmpYes X0.here hx rfl (pc0 := 12) (pc' := 23) rfl (hb hby d39_12) rfl (flt c2).2.2.2 (by decide) (by decide) ?_
    show Steps p.tables e below (s₁.setTop (mkF m 23 #[.val (.int p1), .val (.int p2), .val (.int p3), .val .null] [])) _
    refine XS.iloadN X0.here hx rfl (hb hby d39_23) rfl ?_
    show Steps p.tables e below (s₁.setTop (mkF m 24 #[.val (.int p1), .val (.int p2), .val (.int p3), .val .null] [(.int p1)])) _
    exact retI X0 hx Bd.returns (hb hby d39_24) hr
  · show Q39n Z p1 p2 p3 h0 n0 _ s₁.heap _
    rw [e0]
    exact ⟨rfl, N0, rfl⟩
theorem ef_15r (m : MethodId) (x0 : Int32) (x1 : Int32) (x2 : Int32) (x3 : Addr) : entryFrame m #[(.int x0), (.int x1), (.int x2), (.ref x3)] 4 = mkF m 0 #[.val (.int x0), .val (.int x1), .val (.int x2), .val (.ref x3)] [] := by first | (simp [entryFrame, mkF, argsToLocals, Value.category]; done) | rfl
def Q15r (Z : State) (p1 : Int32) (p2 : Int32) (p3 : Int32) (a4 : Addr) (h0 : Heap) (n0 : Nat) (v : Option Value) (h : Heap) (L : List Loc) : Prop := v = some (.int p1) ∧ Fr n0 L ∧ (h = h0)
set_option maxRecDepth 65536 in
set_option maxHeartbeats 40000000 in
theorem rm15r (l : Launch) (Z : State) (a0 : Array Value) (hw : ∀ d ∈ tables_1, d.before a0 Z = true) (ws : List Jvm.Cond) (p1 : Int32) (p2 : Int32) (p3 : Int32) (a4 : Addr) (h0 : Heap) (n0 : Nat) (Z0 : n0 ≤ h0.size) (h1 : ¬ (p1 < (0 : Int32))) (h2 : ¬ (p2 < p1)) (h3 : ¬ (p3 < p2)) :
    MetFree l (⟨"jdk/internal/util/Preconditions", "checkFromToIndex", "(IIILjava/util/function/BiFunction;)I"⟩ : MethodName) (head1 (Jvm.Cond.code (⟨"jdk/internal/util/Preconditions", "checkFromToIndex", "(IIILjava/util/function/BiFunction;)I"⟩ : MethodName) jdk_41_method_12_code 4 (some .int) :: ws) ({ frames := 0, cells := 0, slots := 0, locals := 0 } : Room)) (fun a U => a = #[(.int p1), (.int p2), (.int p3), (.ref a4)] ∧ Z.Warmed39 U.vm ∧ U.heap = h0) (fun _ _ _ _ _ => True) (fun _ U o U' => ∃ v L, o = .returned v ∧ Q15r Z p1 p2 p3 a4 h0 n0 v U'.heap L ∧ FrameEnd U o U' L ({ frames := 0, cells := 0, slots := 0, locals := 0 } : Room).cells ({ frames := 0, cells := 0, slots := 0, locals := 0 } : Room).slots) := by
  refine MetFree.of_bodySF (plainFor_of_name pn_0) hisR ?_
  intro p e s m args below meth c s₁ Bd hml0 hP hK
  obtain ⟨rfl, hZ0, hh⟩ := hP
  have hx := Bd.exec
  have hby := Bd.bytes
  have hml : c.maxLocals = 4 := hml0
  have hown0 : s.vm.findClass "jdk/internal/util/Preconditions" = some m.cls := findClass_of_methodNamed Bd.named
  have hnm := (name_of_methodNamed Bd.named Bd.method).1
  have hlk : meth.locks = false := by first | exact BodyLoose.notSynchronized Bd | exact Body.notSynchronized Bd
  have X0 : Stand p l e ({ frames := 0, cells := 0, slots := 0, locals := 0 } : Room) s m #[(.int p1), (.int p2), (.int p3), (.ref a4)] below meth c s₁ [] 0 0 := Stand.of_body Bd
  have e0 : s₁.heap = h0 := by rw [← hh, Bd.state]; rfl
  have N0 := Fr.nil n0
  have pre0 : ∀ t, Steps p.tables e below (s₁.setTop (mkF m 0 #[.val (.int p1), .val (.int p2), .val (.int p3), .val (.ref a4)] [])) t → Steps p.tables e below (s₁.setTop (entryFrame m #[(.int p1), (.int p2), (.int p3), (.ref a4)] 4)) t := fun t k => castTop (ef_15r m p1 p2 p3 a4) k
  obtain ⟨fs, hr, hrun, hended, hW, hsame⟩ := X0.leave (v := some (.int p1)) (fun h => by rw [Bd.returns] at h; cases h) hlk
  refine ⟨_, _, pre0 _ ?_, hrun, hended, _, _, rfl, ?_, ⟨_, rfl⟩, hW, hsame.mono (by decide) (by decide)⟩
  · show Steps p.tables e below (s₁.setTop (mkF m 0 #[.val (.int p1), .val (.int p2), .val (.int p3), .val (.ref a4)] [])) _
    refine XS.iloadN X0.here hx rfl (hb hby d15_0) rfl ?_
    show Steps p.tables e below (s₁.setTop (mkF m 1 #[.val (.int p1), .val (.int p2), .val (.int p3), .val (.ref a4)] [(.int p1)])) _
    refine XS.ifNo X0.here hx rfl (hb hby d15_1) rfl ((if0 _ _).trans (flt h1).1) ?_
    show Steps p.tables e below (s₁.setTop (mkF m 4 #[.val (.int p1), .val (.int p2), .val (.int p3), .val (.ref a4)] [])) _
    refine XS.iloadN X0.here hx rfl (hb hby d15_4) rfl ?_
    show Steps p.tables e below (s₁.setTop (mkF m 5 #[.val (.int p1), .val (.int p2), .val (.int p3), .val (.ref a4)] [(.int p1)])) _
    refine XS.iloadN X0.here hx rfl (hb hby d15_5) rfl ?_
    show Steps p.tables e below (s₁.setTop (mkF m 6 #[.val (.int p1), .val (.int p2), .val (.int p3), .val (.ref a4)] [(.int p2), (.int p1)])) _
    refine XS.icmpNo X0.here hx rfl (hb hby d15_6) rfl (flt h2).2.2.1 ?_
    show Steps p.tables e below (s₁.setTop (mkF m 9 #[.val (.int p1), .val (.int p2), .val (.int p3), .val (.ref a4)] [])) _
    refine XS.iloadN X0.here hx rfl (hb hby d15_9) rfl ?_
    show Steps p.tables e below (s₁.setTop (mkF m 10 #[.val (.int p1), .val (.int p2), .val (.int p3), .val (.ref a4)] [(.int p2)])) _
    refine XS.iloadN X0.here hx rfl (hb hby d15_10) rfl ?_
    show Steps p.tables e below (s₁.setTop (mkF m 11 #[.val (.int p1), .val (.int p2), .val (.int p3), .val (.ref a4)] [(.int p3), (.int p2)])) _
    refine XS.icmpYes X0.here hx rfl (pc0 := 11) (pc' := 22) rfl (hb hby d15_11) rfl (flt h3).2.2.2 (by decide) (by decide) ?_
    show Steps p.tables e below (s₁.setTop (mkF m 22 #[.val (.int p1), .val (.int p2), .val (.int p3), .val (.ref a4)] [])) _
    refine XS.iloadN X0.here hx rfl (hb hby d15_22) rfl ?_
    show Steps p.tables e below (s₁.setTop (mkF m 23 #[.val (.int p1), .val (.int p2), .val (.int p3), .val (.ref a4)] [(.int p1)])) _
    exact retI X0 hx Bd.returns (hb hby d15_23) hr
  · show Q15r Z p1 p2 p3 a4 h0 n0 _ s₁.heap _
    rw [e0]
    exact ⟨rfl, N0, rfl⟩
theorem ef_39r (m : MethodId) (x0 : Int32) (x1 : Int32) (x2 : Int32) (x3 : Addr) : entryFrame m #[(.int x0), (.int x1), (.int x2), (.ref x3)] 4 = mkF m 0 #[.val (.int x0), .val (.int x1), .val (.int x2), .val (.ref x3)] [] := by first | (simp [entryFrame, mkF, argsToLocals, Value.category]; done) | rfl
def Q39r (Z : State) (p1 : Int32) (p2 : Int32) (p3 : Int32) (a4 : Addr) (h0 : Heap) (n0 : Nat) (v : Option Value) (h : Heap) (L : List Loc) : Prop := v = some (.int p1) ∧ Fr n0 L ∧ (h = h0)
set_option maxRecDepth 65536 in
set_option maxHeartbeats 40000000 in
theorem rm39r (l : Launch) (Z : State) (a0 : Array Value) (hw : ∀ d ∈ tables_1, d.before a0 Z = true) (ws : List Jvm.Cond) (p1 : Int32) (p2 : Int32) (p3 : Int32) (a4 : Addr) (h0 : Heap) (n0 : Nat) (Z0 : n0 ≤ h0.size) (c1 : ¬ (((p3 ||| p1) ||| p2) < (0 : Int32))) (c2 : ¬ ((p3 - p1) < p2)) :
    MetFree l (⟨"jdk/internal/util/Preconditions", "checkFromIndexSize", "(IIILjava/util/function/BiFunction;)I"⟩ : MethodName) (head1 (Jvm.Cond.code (⟨"jdk/internal/util/Preconditions", "checkFromIndexSize", "(IIILjava/util/function/BiFunction;)I"⟩ : MethodName) jdk_41_method_13_code 4 (some .int) :: ws) ({ frames := 0, cells := 0, slots := 0, locals := 0 } : Room)) (fun a U => a = #[(.int p1), (.int p2), (.int p3), (.ref a4)] ∧ Z.Warmed39 U.vm ∧ U.heap = h0) (fun _ _ _ _ _ => True) (fun _ U o U' => ∃ v L, o = .returned v ∧ Q39r Z p1 p2 p3 a4 h0 n0 v U'.heap L ∧ FrameEnd U o U' L ({ frames := 0, cells := 0, slots := 0, locals := 0 } : Room).cells ({ frames := 0, cells := 0, slots := 0, locals := 0 } : Room).slots) := by
  refine MetFree.of_bodySF (plainFor_of_name pn_0) hisR ?_
  intro p e s m args below meth c s₁ Bd hml0 hP hK
  obtain ⟨rfl, hZ0, hh⟩ := hP
  have hx := Bd.exec
  have hby := Bd.bytes
  have hml : c.maxLocals = 4 := hml0
  have hown0 : s.vm.findClass "jdk/internal/util/Preconditions" = some m.cls := findClass_of_methodNamed Bd.named
  have hnm := (name_of_methodNamed Bd.named Bd.method).1
  have hlk : meth.locks = false := by first | exact BodyLoose.notSynchronized Bd | exact Body.notSynchronized Bd
  have X0 : Stand p l e ({ frames := 0, cells := 0, slots := 0, locals := 0 } : Room) s m #[(.int p1), (.int p2), (.int p3), (.ref a4)] below meth c s₁ [] 0 0 := Stand.of_body Bd
  have e0 : s₁.heap = h0 := by rw [← hh, Bd.state]; rfl
  have N0 := Fr.nil n0
  have pre0 : ∀ t, Steps p.tables e below (s₁.setTop (mkF m 0 #[.val (.int p1), .val (.int p2), .val (.int p3), .val (.ref a4)] [])) t → Steps p.tables e below (s₁.setTop (entryFrame m #[(.int p1), (.int p2), (.int p3), (.ref a4)] 4)) t := fun t k => castTop (ef_39r m p1 p2 p3 a4) k
  obtain ⟨fs, hr, hrun, hended, hW, hsame⟩ := X0.leave (v := some (.int p1)) (fun h => by rw [Bd.returns] at h; cases h) hlk
  refine ⟨_, _, pre0 _ ?_, hrun, hended, _, _, rfl, ?_, ⟨_, rfl⟩, hW, hsame.mono (by decide) (by decide)⟩
  · show Steps p.tables e below (s₁.setTop (mkF m 0 #[.val (.int p1), .val (.int p2), .val (.int p3), .val (.ref a4)] [])) _
    refine XS.iloadN X0.here hx rfl (hb hby d39_0) rfl ?_
    show Steps p.tables e below (s₁.setTop (mkF m 1 #[.val (.int p1), .val (.int p2), .val (.int p3), .val (.ref a4)] [(.int p3)])) _
    refine XS.iloadN X0.here hx rfl (hb hby d39_1) rfl ?_
    show Steps p.tables e below (s₁.setTop (mkF m 2 #[.val (.int p1), .val (.int p2), .val (.int p3), .val (.ref a4)] [(.int p1), (.int p3)])) _
    refine XS.ior X0.here hx rfl (hb hby d39_2) rfl ?_
    show Steps p.tables e below (s₁.setTop (mkF m 3 #[.val (.int p1), .val (.int p2), .val (.int p3), .val (.ref a4)] [(.int (p3 ||| p1))])) _
    refine XS.iloadN X0.here hx rfl (hb hby d39_3) rfl ?_
    show Steps p.tables e below (s₁.setTop (mkF m 4 #[.val (.int p1), .val (.int p2), .val (.int p3), .val (.ref a4)] [(.int p2), (.int (p3 ||| p1))])) _
    refine XS.ior X0.here hx rfl (hb hby d39_4) rfl ?_
    show Steps p.tables e below (s₁.setTop (mkF m 5 #[.val (.int p1), .val (.int p2), .val (.int p3), .val (.ref a4)] [(.int ((p3 ||| p1) ||| p2))])) _
    refine XS.ifNo X0.here hx rfl (hb hby d39_5) rfl ((if0 _ _).trans (flt c1).1) ?_
    show Steps p.tables e below (s₁.setTop (mkF m 8 #[.val (.int p1), .val (.int p2), .val (.int p3), .val (.ref a4)] [])) _
    refine XS.iloadN X0.here hx rfl (hb hby d39_8) rfl ?_
    show Steps p.tables e below (s₁.setTop (mkF m 9 #[.val (.int p1), .val (.int p2), .val (.int p3), .val (.ref a4)] [(.int p2)])) _
    refine XS.iloadN X0.here hx rfl (hb hby d39_9) rfl ?_
    show Steps p.tables e below (s₁.setTop (mkF m 10 #[.val (.int p1), .val (.int p2), .val (.int p3), .val (.ref a4)] [(.int p3), (.int p2)])) _
    refine XS.iloadN X0.here hx rfl (hb hby d39_10) rfl ?_
    show Steps p.tables e below (s₁.setTop (mkF m 11 #[.val (.int p1), .val (.int p2), .val (.int p3), .val (.ref a4)] [(.int p1), (.int p3), (.int p2)])) _
    refine XS.isub X0.here hx rfl (hb hby d39_11) rfl ?_
    show Steps p.tables e below (s₁.setTop (mkF m 12 #[.val (.int p1), .val (.int p2), .val (.int p3), .val (.ref a4)] [(.int (p3 - p1)), (.int p2)])) _
    refine XS.icmpYes X0.here hx rfl (pc0 := 12) (pc' := 23) rfl (hb hby d39_12) rfl (flt c2).2.2.2 (by decide) (by decide) ?_
    show Steps p.tables e below (s₁.setTop (mkF m 23 #[.val (.int p1), .val (.int p2), .val (.int p3), .val (.ref a4)] [])) _
    refine XS.iloadN X0.here hx rfl (hb hby d39_23) rfl ?_
    show Steps p.tables e below (s₁.setTop (mkF m 24 #[.val (.int p1), .val (.int p2), .val (.int p3), .val (.ref a4)] [(.int p1)])) _
    exact retI X0 hx Bd.returns (hb hby d39_24) hr
  · show Q39r Z p1 p2 p3 a4 h0 n0 _ s₁.heap _
    rw [e0]
    exact ⟨rfl, N0, rfl⟩
theorem ef_14 (m : MethodId) (x0 : Int32) (x1 : Int32) (x2 : Int32) : entryFrame m #[(.int x0), (.int x1), (.int x2)] 3 = mkF m 0 #[.val (.int x0), .val (.int x1), .val (.int x2)] [] := by first | (simp [entryFrame, mkF, argsToLocals, Value.category]; done) | rfl
theorem d14_0 : decode jdk_42_method_158_code 0 = .ok (.iload_n 0, 1) := by decide +kernel
theorem d14_1 : decode jdk_42_method_158_code 1 = .ok (.iload_n 1, 1) := by decide +kernel
theorem d14_2 : decode jdk_42_method_158_code 2 = .ok (.iload_n 2, 1) := by decide +kernel
theorem d14_3 : decode jdk_42_method_158_code 3 = .ok (.getstatic 1053, 3) := by decide +kernel
theorem d14_6 : decode jdk_42_method_158_code 6 = .ok (.invokestatic 1062, 3) := by decide +kernel
theorem pd_16 : parseMethodDescriptor "(IIILjava/util/function/BiFunction;)I" = some ⟨[.int, .int, .int, (.object "java/util/function/BiFunction")], some .int⟩ := by decide +kernel
theorem d14_9 : decode jdk_42_method_158_code 9 = .ok (.pop, 1) := by decide +kernel
theorem d14_10 : decode jdk_42_method_158_code 10 = .ok (.return_, 1) := by decide +kernel
def Q14 (Z : State) (p1 : Int32) (p2 : Int32) (p3 : Int32) (w : Int32) (h0 : Heap) (n0 : Nat) (v : Option Value) (h : Heap) (L : List Loc) : Prop := v = none ∧ Fr n0 L ∧ (h = h0)
set_option maxRecDepth 65536 in
set_option maxHeartbeats 40000000 in
theorem rm14 (l : Launch) (Z : State) (a0 : Array Value) (hw : ∀ d ∈ tables_1, d.before a0 Z = true) (ws : List Jvm.Cond) (p1 : Int32) (p2 : Int32) (p3 : Int32) (w : Int32) (h0 : Heap) (n0 : Nat) (Z0 : n0 ≤ h0.size) (O0 : Old Z n0 h0) (S0 : Sta Z Z.heap "java/lang/String" "COMPACT_STRINGS" "Z" (.int w)) (hw0 : ¬ (w = (0 : Int32))) (SA : Sta Z Z.heap "java/lang/StringUTF16" "$assertionsDisabled" "Z" (.int (1 : Int32))) (SHI : Sta Z Z.heap "java/lang/StringUTF16" "HI_BYTE_SHIFT" "I" (.int (0 : Int32))) (SLO : Sta Z Z.heap "java/lang/StringUTF16" "LO_BYTE_SHIFT" "I" (.int (8 : Int32))) (FM : Fmt Z) (h1 : ¬ (p1 < (0 : Int32))) (h2 : ¬ (p2 < p1)) (h3 : ¬ (p3 < p2)) :
    MetFree l (⟨"java/lang/String", "checkBoundsBeginEnd", "(III)V"⟩ : MethodName) (head1 (Jvm.Cond.code (⟨"java/lang/String", "checkBoundsBeginEnd", "(III)V"⟩ : MethodName) jdk_42_method_158_code 3 none :: ws) ({ frames := 1, cells := 0, slots := 0, locals := 15 } : Room)) (fun a U => a = #[(.int p1), (.int p2), (.int p3)] ∧ Z.Warmed39 U.vm ∧ U.heap = h0) (fun _ _ _ _ _ => True) (fun _ U o U' => ∃ v L, o = .returned v ∧ Q14 Z p1 p2 p3 w h0 n0 v U'.heap L ∧ FrameEnd U o U' L ({ frames := 1, cells := 0, slots := 0, locals := 15 } : Room).cells ({ frames := 1, cells := 0, slots := 0, locals := 15 } : Room).slots) := by
  refine MetFree.of_bodySF (plainFor_of_name pn_1) hisR ?_
  intro p e s m args below meth c s₁ Bd hml0 hP hK
  obtain ⟨rfl, hZ0, hh⟩ := hP
  have hx := Bd.exec
  have hby := Bd.bytes
  have hml : c.maxLocals = 3 := hml0
  have hown0 : s.vm.findClass "java/lang/String" = some m.cls := findClass_of_methodNamed Bd.named
  have hnm := (name_of_methodNamed Bd.named Bd.method).1
  have hlk : meth.locks = false := by first | exact BodyLoose.notSynchronized Bd | exact Body.notSynchronized Bd
  have X0 : Stand p l e ({ frames := 1, cells := 0, slots := 0, locals := 15 } : Room) s m #[(.int p1), (.int p2), (.int p3)] below meth c s₁ [] 0 0 := Stand.of_body Bd
  have e0 : s₁.heap = h0 := by rw [← hh, Bd.state]; rfl
  have N0 := Fr.nil n0
  have pre0 : ∀ t, Steps p.tables e below (s₁.setTop (mkF m 0 #[.val (.int p1), .val (.int p2), .val (.int p3)] [])) t → Steps p.tables e below (s₁.setTop (entryFrame m #[(.int p1), (.int p2), (.int p3)] 3)) t := fun t k => castTop (ef_14 m p1 p2 p3) k
  rcases FM with SF | ⟨fa, SF⟩
  · obtain ⟨T101, X101, e101, st101⟩ := getS2 X0 hx hZ0 hown0 (host := "") (Or.inl (hw _ (List.mem_of_getElem? (i := 81) rfl))) Via.refl e0 (Sta.ext O0.2 SF) (g := (mkF m 3 #[.val (.int p1), .val (.int p2), .val (.int p3)] [(.int p3), (.int p2), (.int p1)])) rfl (hb hby d14_3)
    obtain ⟨_, _, ⟨T102, L102, k102, n102⟩, -, X102, ⟨Lc102, hQ102, l102, y102, z102⟩, st102⟩ := Jvm.LawKit.callS X101 hx (y := (⟨"jdk/internal/util/Preconditions", "checkFromToIndex", "(IIILjava/util/function/BiFunction;)I"⟩ : MethodName)) hown0 (mvT hZ0 (hw _ (List.mem_of_getElem? (i := 83) rfl))) (mvT hZ0 (hw _ (List.mem_of_getElem? (i := 84) rfl))) (mvT hZ0 (hw _ (List.mem_of_getElem? (i := 82) rfl))) (mvT hZ0 (hw _ (List.mem_of_getElem? (i := 85) rfl))) (by decide) (backOf (W := 0) (rm15n l Z a0 hw [] p1 p2 p3 h0 n0 Z0 h1 h2 h3) hZ0 (hw _ (List.mem_of_getElem? (i := 85) rfl)) (hw _ (List.mem_of_getElem? (i := 82) rfl)) (by decide) (by decide)) (g := (mkF m 6 #[.val (.int p1), .val (.int p2), .val (.int p3)] [.null, (.int p3), (.int p2), (.int p1)])) rfl (by rw [hml]; rfl) (argsL := [(.int p1), (.int p2), (.int p3), .null]) (rest := []) (lenOf pd_16 rfl) rfl (by show 2 * 0 + _ ≤ _; exact Nat.le_of_eq rfl) (hb hby d14_6) (fun _ _ => ⟨rfl, e101, (by decide : 0 + 0 ≤ _), (by decide : 0 + 0 ≤ _)⟩)
    dsimp only [Pt.U, Pt.locs, Pt.cells, Pt.slots] at X102 l102 y102 z102 st102 hQ102
    subst l102 y102 z102
    obtain ⟨rfl, N102q, P102_0⟩ := hQ102
    have N102 := Fr.app N0 N102q
    obtain ⟨fs, hr, hrun, hended, hW, hsame⟩ := X102.leave (v := none) (fun _ => rfl) hlk
    refine ⟨_, _, pre0 _ ?_, hrun, hended, _, _, rfl, ?_, ⟨_, rfl⟩, hW, hsame.mono (by decide) (by decide)⟩
    · show Steps p.tables e below (s₁.setTop (mkF m 0 #[.val (.int p1), .val (.int p2), .val (.int p3)] [])) _
      refine XS.iloadN X0.here hx rfl (hb hby d14_0) rfl ?_
      show Steps p.tables e below (s₁.setTop (mkF m 1 #[.val (.int p1), .val (.int p2), .val (.int p3)] [(.int p1)])) _
      refine XS.iloadN X0.here hx rfl (hb hby d14_1) rfl ?_
      show Steps p.tables e below (s₁.setTop (mkF m 2 #[.val (.int p1), .val (.int p2), .val (.int p3)] [(.int p2), (.int p1)])) _
      refine XS.iloadN X0.here hx rfl (hb hby d14_2) rfl ?_
      show Steps p.tables e below (s₁.setTop (mkF m 3 #[.val (.int p1), .val (.int p2), .val (.int p3)] [(.int p3), (.int p2), (.int p1)])) _
      refine st101 _ ?_
      show Steps p.tables e below (T101.setTop (mkF m 6 #[.val (.int p1), .val (.int p2), .val (.int p3)] [.null, (.int p3), (.int p2), (.int p1)])) _
      refine st102 _ ?_
      show Steps p.tables e below (T102.setTop (mkF m 9 #[.val (.int p1), .val (.int p2), .val (.int p3)] [(.int p1)])) _
      refine XS.pop X102.here hx rfl (hb hby d14_9) rfl rfl ?_
      show Steps p.tables e below (T102.setTop (mkF m 10 #[.val (.int p1), .val (.int p2), .val (.int p3)] [])) _
      exact X102.returnOut hx Bd.returns (hb hby d14_10) hr
    · show Q14 Z p1 p2 p3 w h0 n0 _ T102.heap _
      rw [P102_0]
      exact ⟨rfl, N102, rfl⟩
  · obtain ⟨T103, X103, e103, st103⟩ := getS2 X0 hx hZ0 hown0 (host := "") (Or.inl (hw _ (List.mem_of_getElem? (i := 81) rfl))) Via.refl e0 (Sta.ext O0.2 SF) (g := (mkF m 3 #[.val (.int p1), .val (.int p2), .val (.int p3)] [(.int p3), (.int p2), (.int p1)])) rfl (hb hby d14_3)
    obtain ⟨_, _, ⟨T104, L104, k104, n104⟩, -, X104, ⟨Lc104, hQ104, l104, y104, z104⟩, st104⟩ := Jvm.LawKit.callS X103 hx (y := (⟨"jdk/internal/util/Preconditions", "checkFromToIndex", "(IIILjava/util/function/BiFunction;)I"⟩ : MethodName)) hown0 (mvT hZ0 (hw _ (List.mem_of_getElem? (i := 83) rfl))) (mvT hZ0 (hw _ (List.mem_of_getElem? (i := 84) rfl))) (mvT hZ0 (hw _ (List.mem_of_getElem? (i := 82) rfl))) (mvT hZ0 (hw _ (List.mem_of_getElem? (i := 85) rfl))) (by decide) (backOf (W := 0) (rm15r l Z a0 hw [] p1 p2 p3 fa h0 n0 Z0 h1 h2 h3) hZ0 (hw _ (List.mem_of_getElem? (i := 85) rfl)) (hw _ (List.mem_of_getElem? (i := 82) rfl)) (by decide) (by decide)) (g := (mkF m 6 #[.val (.int p1), .val (.int p2), .val (.int p3)] [(.ref fa), (.int p3), (.int p2), (.int p1)])) rfl (by rw [hml]; rfl) (argsL := [(.int p1), (.int p2), (.int p3), (.ref fa)]) (rest := []) (lenOf pd_16 rfl) rfl (by show 2 * 0 + _ ≤ _; exact Nat.le_of_eq rfl) (hb hby d14_6) (fun _ _ => ⟨rfl, e103, (by decide : 0 + 0 ≤ _), (by decide : 0 + 0 ≤ _)⟩)
    dsimp only [Pt.U, Pt.locs, Pt.cells, Pt.slots] at X104 l104 y104 z104 st104 hQ104
    subst l104 y104 z104
    obtain ⟨rfl, N104q, P104_0⟩ := hQ104
    have N104 := Fr.app N0 N104q
    obtain ⟨fs, hr, hrun, hended, hW, hsame⟩ := X104.leave (v := none) (fun _ => rfl) hlk
    refine ⟨_, _, pre0 _ ?_, hrun, hended, _, _, rfl, ?_, ⟨_, rfl⟩, hW, hsame.mono (by decide) (by decide)⟩
    · show Steps p.tables e below (s₁.setTop (mkF m 0 #[.val (.int p1), .val (.int p2), .val (.int p3)] [])) _
      refine XS.iloadN X0.here hx rfl (hb hby d14_0) rfl ?_
      show Steps p.tables e below (s₁.setTop (mkF m 1 #[.val (.int p1), .val (.int p2), .val (.int p3)] [(.int p1)])) _
      refine XS.iloadN X0.here hx rfl (hb hby d14_1) rfl ?_
      show Steps p.tables e below (s₁.setTop (mkF m 2 #[.val (.int p1), .val (.int p2), .val (.int p3)] [(.int p2), (.int p1)])) _
      refine XS.iloadN X0.here hx rfl (hb hby d14_2) rfl ?_
      show Steps p.tables e below (s₁.setTop (mkF m 3 #[.val (.int p1), .val (.int p2), .val (.int p3)] [(.int p3), (.int p2), (.int p1)])) _
      refine st103 _ ?_
      show Steps p.tables e below (T103.setTop (mkF m 6 #[.val (.int p1), .val (.int p2), .val (.int p3)] [(.ref fa), (.int p3), (.int p2), (.int p1)])) _
      refine st104 _ ?_
      show Steps p.tables e below (T104.setTop (mkF m 9 #[.val (.int p1), .val (.int p2), .val (.int p3)] [(.int p1)])) _
      refine XS.pop X104.here hx rfl (hb hby d14_9) rfl rfl ?_
      show Steps p.tables e below (T104.setTop (mkF m 10 #[.val (.int p1), .val (.int p2), .val (.int p3)] [])) _
      exact X104.returnOut hx Bd.returns (hb hby d14_10) hr
    · show Q14 Z p1 p2 p3 w h0 n0 _ T104.heap _
      rw [P104_0]
      exact ⟨rfl, N104, rfl⟩
theorem ef_38 (m : MethodId) (x0 : Int32) (x1 : Int32) (x2 : Int32) : entryFrame m #[(.int x0), (.int x1), (.int x2)] 3 = mkF m 0 #[.val (.int x0), .val (.int x1), .val (.int x2)] [] := by first | (simp [entryFrame, mkF, argsToLocals, Value.category]; done) | rfl
theorem d38_0 : decode jdk_42_method_157_code 0 = .ok (.iload_n 0, 1) := by decide +kernel
theorem d38_1 : decode jdk_42_method_157_code 1 = .ok (.iload_n 1, 1) := by decide +kernel
theorem d38_2 : decode jdk_42_method_157_code 2 = .ok (.iload_n 2, 1) := by decide +kernel
theorem d38_3 : decode jdk_42_method_157_code 3 = .ok (.getstatic 1053, 3) := by decide +kernel
theorem d38_6 : decode jdk_42_method_157_code 6 = .ok (.invokestatic 1065, 3) := by decide +kernel
theorem d38_9 : decode jdk_42_method_157_code 9 = .ok (.ireturn, 1) := by decide +kernel
def Q38 (Z : State) (p1 : Int32) (p2 : Int32) (p3 : Int32) (w : Int32) (h0 : Heap) (n0 : Nat) (v : Option Value) (h : Heap) (L : List Loc) : Prop := v = some (.int p1) ∧ Fr n0 L ∧ (h = h0)
set_option maxRecDepth 65536 in
set_option maxHeartbeats 40000000 in
theorem rm38 (l : Launch) (Z : State) (a0 : Array Value) (hw : ∀ d ∈ tables_1, d.before a0 Z = true) (ws : List Jvm.Cond) (p1 : Int32) (p2 : Int32) (p3 : Int32) (w : Int32) (h0 : Heap) (n0 : Nat) (Z0 : n0 ≤ h0.size) (O0 : Old Z n0 h0) (S0 : Sta Z Z.heap "java/lang/String" "COMPACT_STRINGS" "Z" (.int w)) (hw0 : ¬ (w = (0 : Int32))) (SA : Sta Z Z.heap "java/lang/StringUTF16" "$assertionsDisabled" "Z" (.int (1 : Int32))) (SHI : Sta Z Z.heap "java/lang/StringUTF16" "HI_BYTE_SHIFT" "I" (.int (0 : Int32))) (SLO : Sta Z Z.heap "java/lang/StringUTF16" "LO_BYTE_SHIFT" "I" (.int (8 : Int32))) (FM : Fmt Z) (c1 : ¬ (((p3 ||| p1) ||| p2) < (0 : Int32))) (c2 : ¬ ((p3 - p1) < p2)) :
    MetFree l (⟨"java/lang/String", "checkBoundsOffCount", "(III)I"⟩ : MethodName) (head1 (Jvm.Cond.code (⟨"java/lang/String", "checkBoundsOffCount", "(III)I"⟩ : MethodName) jdk_42_method_157_code 3 (some .int) :: ws) ({ frames := 1, cells := 0, slots := 0, locals := 15 } : Room)) (fun a U => a = #[(.int p1), (.int p2), (.int p3)] ∧ Z.Warmed39 U.vm ∧ U.heap = h0) (fun _ _ _ _ _ => True) (fun _ U o U' => ∃ v L, o = .returned v ∧ Q38 Z p1 p2 p3 w h0 n0 v U'.heap L ∧ FrameEnd U o U' L ({ frames := 1, cells := 0, slots := 0, locals := 15 } : Room).cells ({ frames := 1, cells := 0, slots := 0, locals := 15 } : Room).slots) := by
  refine MetFree.of_bodySF (plainFor_of_name pn_1) hisR ?_
  intro p e s m args below meth c s₁ Bd hml0 hP hK
  obtain ⟨rfl, hZ0, hh⟩ := hP
  have hx := Bd.exec
  have hby := Bd.bytes
  have hml : c.maxLocals = 3 := hml0
  have hown0 : s.vm.findClass "java/lang/String" = some m.cls := findClass_of_methodNamed Bd.named
  have hnm := (name_of_methodNamed Bd.named Bd.method).1
  have hlk : meth.locks = false := by first | exact BodyLoose.notSynchronized Bd | exact Body.notSynchronized Bd
  have X0 : Stand p l e ({ frames := 1, cells := 0, slots := 0, locals := 15 } : Room) s m #[(.int p1), (.int p2), (.int p3)] below meth c s₁ [] 0 0 := Stand.of_body Bd
  have e0 : s₁.heap = h0 := by rw [← hh, Bd.state]; rfl
  have N0 := Fr.nil n0
  have pre0 : ∀ t, Steps p.tables e below (s₁.setTop (mkF m 0 #[.val (.int p1), .val (.int p2), .val (.int p3)] [])) t → Steps p.tables e below (s₁.setTop (entryFrame m #[(.int p1), (.int p2), (.int p3)] 3)) t := fun t k => castTop (ef_38 m p1 p2 p3) k
  rcases FM with SF | ⟨fa, SF⟩
  · obtain ⟨T101, X101, e101, st101⟩ := getS2 X0 hx hZ0 hown0 (host := "") (Or.inl (hw _ (List.mem_of_getElem? (i := 81) rfl))) Via.refl e0 (Sta.ext O0.2 SF) (g := (mkF m 3 #[.val (.int p1), .val (.int p2), .val (.int p3)] [(.int p3), (.int p2), (.int p1)])) rfl (hb hby d38_3)
    obtain ⟨_, _, ⟨T102, L102, k102, n102⟩, -, X102, ⟨Lc102, hQ102, l102, y102, z102⟩, st102⟩ := Jvm.LawKit.callS X101 hx (y := (⟨"jdk/internal/util/Preconditions", "checkFromIndexSize", "(IIILjava/util/function/BiFunction;)I"⟩ : MethodName)) hown0 (mvT hZ0 (hw _ (List.mem_of_getElem? (i := 176) rfl))) (mvT hZ0 (hw _ (List.mem_of_getElem? (i := 177) rfl))) (mvT hZ0 (hw _ (List.mem_of_getElem? (i := 82) rfl))) (mvT hZ0 (hw _ (List.mem_of_getElem? (i := 178) rfl))) (by decide) (backOf (W := 0) (rm39n l Z a0 hw [] p1 p2 p3 h0 n0 Z0 c1 c2) hZ0 (hw _ (List.mem_of_getElem? (i := 178) rfl)) (hw _ (List.mem_of_getElem? (i := 82) rfl)) (by decide) (by decide)) (g := (mkF m 6 #[.val (.int p1), .val (.int p2), .val (.int p3)] [.null, (.int p3), (.int p2), (.int p1)])) rfl (by rw [hml]; rfl) (argsL := [(.int p1), (.int p2), (.int p3), .null]) (rest := []) (lenOf pd_16 rfl) rfl (by show 2 * 0 + _ ≤ _; exact Nat.le_of_eq rfl) (hb hby d38_6) (fun _ _ => ⟨rfl, e101, (by decide : 0 + 0 ≤ _), (by decide : 0 + 0 ≤ _)⟩)
    dsimp only [Pt.U, Pt.locs, Pt.cells, Pt.slots] at X102 l102 y102 z102 st102 hQ102
    subst l102 y102 z102
    obtain ⟨rfl, N102q, P102_0⟩ := hQ102
    have N102 := Fr.app N0 N102q
    obtain ⟨fs, hr, hrun, hended, hW, hsame⟩ := X102.leave (v := some (.int p1)) (fun h => by rw [Bd.returns] at h; cases h) hlk
    refine ⟨_, _, pre0 _ ?_, hrun, hended, _, _, rfl, ?_, ⟨_, rfl⟩, hW, hsame.mono (by decide) (by decide)⟩
    · show Steps p.tables e below (s₁.setTop (mkF m 0 #[.val (.int p1), .val (.int p2), .val (.int p3)] [])) _
      refine XS.iloadN X0.here hx rfl (hb hby d38_0) rfl ?_
      show Steps p.tables e below (s₁.setTop (mkF m 1 #[.val (.int p1), .val (.int p2), .val (.int p3)] [(.int p1)])) _
      refine XS.iloadN X0.here hx rfl (hb hby d38_1) rfl ?_
      show Steps p.tables e below (s₁.setTop (mkF m 2 #[.val (.int p1), .val (.int p2), .val (.int p3)] [(.int p2), (.int p1)])) _
      refine XS.iloadN X0.here hx rfl (hb hby d38_2) rfl ?_
      show Steps p.tables e below (s₁.setTop (mkF m 3 #[.val (.int p1), .val (.int p2), .val (.int p3)] [(.int p3), (.int p2), (.int p1)])) _
      refine st101 _ ?_
      show Steps p.tables e below (T101.setTop (mkF m 6 #[.val (.int p1), .val (.int p2), .val (.int p3)] [.null, (.int p3), (.int p2), (.int p1)])) _
      refine st102 _ ?_
      show Steps p.tables e below (T102.setTop (mkF m 9 #[.val (.int p1), .val (.int p2), .val (.int p3)] [(.int p1)])) _
      exact retI X102 hx Bd.returns (hb hby d38_9) hr
    · show Q38 Z p1 p2 p3 w h0 n0 _ T102.heap _
      rw [P102_0]
      exact ⟨rfl, N102, rfl⟩
  · obtain ⟨T103, X103, e103, st103⟩ := getS2 X0 hx hZ0 hown0 (host := "") (Or.inl (hw _ (List.mem_of_getElem? (i := 81) rfl))) Via.refl e0 (Sta.ext O0.2 SF) (g := (mkF m 3 #[.val (.int p1), .val (.int p2), .val (.int p3)] [(.int p3), (.int p2), (.int p1)])) rfl (hb hby d38_3)
    obtain ⟨_, _, ⟨T104, L104, k104, n104⟩, -, X104, ⟨Lc104, hQ104, l104, y104, z104⟩, st104⟩ := Jvm.LawKit.callS X103 hx (y := (⟨"jdk/internal/util/Preconditions", "checkFromIndexSize", "(IIILjava/util/function/BiFunction;)I"⟩ : MethodName)) hown0 (mvT hZ0 (hw _ (List.mem_of_getElem? (i := 176) rfl))) (mvT hZ0 (hw _ (List.mem_of_getElem? (i := 177) rfl))) (mvT hZ0 (hw _ (List.mem_of_getElem? (i := 82) rfl))) (mvT hZ0 (hw _ (List.mem_of_getElem? (i := 178) rfl))) (by decide) (backOf (W := 0) (rm39r l Z a0 hw [] p1 p2 p3 fa h0 n0 Z0 c1 c2) hZ0 (hw _ (List.mem_of_getElem? (i := 178) rfl)) (hw _ (List.mem_of_getElem? (i := 82) rfl)) (by decide) (by decide)) (g := (mkF m 6 #[.val (.int p1), .val (.int p2), .val (.int p3)] [(.ref fa), (.int p3), (.int p2), (.int p1)])) rfl (by rw [hml]; rfl) (argsL := [(.int p1), (.int p2), (.int p3), (.ref fa)]) (rest := []) (lenOf pd_16 rfl) rfl (by show 2 * 0 + _ ≤ _; exact Nat.le_of_eq rfl) (hb hby d38_6) (fun _ _ => ⟨rfl, e103, (by decide : 0 + 0 ≤ _), (by decide : 0 + 0 ≤ _)⟩)
    dsimp only [Pt.U, Pt.locs, Pt.cells, Pt.slots] at X104 l104 y104 z104 st104 hQ104
    subst l104 y104 z104
    obtain ⟨rfl, N104q, P104_0⟩ := hQ104
    have N104 := Fr.app N0 N104q
    obtain ⟨fs, hr, hrun, hended, hW, hsame⟩ := X104.leave (v := some (.int p1)) (fun h => by rw [Bd.returns] at h; cases h) hlk
    refine ⟨_, _, pre0 _ ?_, hrun, hended, _, _, rfl, ?_, ⟨_, rfl⟩, hW, hsame.mono (by decide) (by decide)⟩
    · show Steps p.tables e below (s₁.setTop (mkF m 0 #[.val (.int p1), .val (.int p2), .val (.int p3)] [])) _
      refine XS.iloadN X0.here hx rfl (hb hby d38_0) rfl ?_
      show Steps p.tables e below (s₁.setTop (mkF m 1 #[.val (.int p1), .val (.int p2), .val (.int p3)] [(.int p1)])) _
      refine XS.iloadN X0.here hx rfl (hb hby d38_1) rfl ?_
      show Steps p.tables e below (s₁.setTop (mkF m 2 #[.val (.int p1), .val (.int p2), .val (.int p3)] [(.int p2), (.int p1)])) _
      refine XS.iloadN X0.here hx rfl (hb hby d38_2) rfl ?_
      show Steps p.tables e below (s₁.setTop (mkF m 3 #[.val (.int p1), .val (.int p2), .val (.int p3)] [(.int p3), (.int p2), (.int p1)])) _
      refine st103 _ ?_
      show Steps p.tables e below (T103.setTop (mkF m 6 #[.val (.int p1), .val (.int p2), .val (.int p3)] [(.ref fa), (.int p3), (.int p2), (.int p1)])) _
      refine st104 _ ?_
      show Steps p.tables e below (T104.setTop (mkF m 9 #[.val (.int p1), .val (.int p2), .val (.int p3)] [(.int p1)])) _
      exact retI X104 hx Bd.returns (hb hby d38_9) hr
    · show Q38 Z p1 p2 p3 w h0 n0 _ T104.heap _
      rw [P104_0]
      exact ⟨rfl, N104, rfl⟩
theorem ef_36 (m : MethodId) (x0 : Int32) (x1 : Int32) (x2 : Addr) : entryFrame m #[(.int x0), (.int x1), (.ref x2)] 3 = mkF m 0 #[.val (.int x0), .val (.int x1), .val (.ref x2)] [] := by first | (simp [entryFrame, mkF, argsToLocals, Value.category]; done) | rfl
theorem d36_0 : decode jdk_52_method_94_code 0 = .ok (.iload_n 0, 1) := by decide +kernel
theorem d36_1 : decode jdk_52_method_94_code 1 = .ok (.iload_n 1, 1) := by decide +kernel
theorem d36_2 : decode jdk_52_method_94_code 2 = .ok (.aload_n 2, 1) := by decide +kernel
theorem d36_3 : decode jdk_52_method_94_code 3 = .ok (.invokestatic 48, 3) := by decide +kernel
theorem d36_6 : decode jdk_52_method_94_code 6 = .ok (.invokestatic 419, 3) := by decide +kernel
theorem pd_17 : parseMethodDescriptor "(III)I" = some ⟨[.int, .int, .int], some .int⟩ := by decide +kernel
theorem d36_9 : decode jdk_52_method_94_code 9 = .ok (.pop, 1) := by decide +kernel
theorem d36_10 : decode jdk_52_method_94_code 10 = .ok (.return_, 1) := by decide +kernel
def Q36 (Z : State) (p1 : Int32) (p2 : Int32) (a3 : Addr) (w : Int32) (n : Int32) (f : Nat → Int32) (h0 : Heap) (n0 : Nat) (v : Option Value) (h : Heap) (L : List Loc) : Prop := v = none ∧ Fr n0 L ∧ (h = h0)
set_option maxRecDepth 65536 in
set_option maxHeartbeats 40000000 in
theorem rm36 (l : Launch) (Z : State) (a0 : Array Value) (hw : ∀ d ∈ tables_1, d.before a0 Z = true) (ws : List Jvm.Cond) (p1 : Int32) (p2 : Int32) (a3 : Addr) (w : Int32) (n : Int32) (f : Nat → Int32) (h0 : Heap) (n0 : Nat) (Z0 : n0 ≤ h0.size) (O0 : Old Z n0 h0) (S0 : Sta Z Z.heap "java/lang/String" "COMPACT_STRINGS" "Z" (.int w)) (hw0 : ¬ (w = (0 : Int32))) (SA : Sta Z Z.heap "java/lang/StringUTF16" "$assertionsDisabled" "Z" (.int (1 : Int32))) (SHI : Sta Z Z.heap "java/lang/StringUTF16" "HI_BYTE_SHIFT" "I" (.int (0 : Int32))) (SLO : Sta Z Z.heap "java/lang/StringUTF16" "LO_BYTE_SHIFT" "I" (.int (8 : Int32))) (FM : Fmt Z) (U3 : OwnU Z h0 a3 n f) (sm : own_sm n) (rg : own_rg p1 p2 n) :
    MetFree l (⟨"java/lang/StringUTF16", "checkBoundsOffCount", "(II[B)V"⟩ : MethodName) (head1 (Jvm.Cond.code (⟨"java/lang/StringUTF16", "checkBoundsOffCount", "(II[B)V"⟩ : MethodName) jdk_52_method_94_code 3 none :: ws) ({ frames := 2, cells := 0, slots := 0, locals := 29 } : Room)) (fun a U => a = #[(.int p1), (.int p2), (.ref a3)] ∧ Z.Warmed39 U.vm ∧ U.heap = h0) (fun _ _ _ _ _ => True) (fun _ U o U' => ∃ v L, o = .returned v ∧ Q36 Z p1 p2 a3 w n f h0 n0 v U'.heap L ∧ FrameEnd U o U' L ({ frames := 2, cells := 0, slots := 0, locals := 29 } : Room).cells ({ frames := 2, cells := 0, slots := 0, locals := 29 } : Room).slots) := by
  refine MetFree.of_bodySF (plainFor_of_name pn_2) hisR ?_
  intro p e s m args below meth c s₁ Bd hml0 hP hK
  obtain ⟨rfl, hZ0, hh⟩ := hP
  have hx := Bd.exec
  have hby := Bd.bytes
  have hml : c.maxLocals = 3 := hml0
  have hown0 : s.vm.findClass "java/lang/StringUTF16" = some m.cls := findClass_of_methodNamed Bd.named
  have hnm := (name_of_methodNamed Bd.named Bd.method).1
  have hlk : meth.locks = false := by first | exact BodyLoose.notSynchronized Bd | exact Body.notSynchronized Bd
  have X0 : Stand p l e ({ frames := 2, cells := 0, slots := 0, locals := 29 } : Room) s m #[(.int p1), (.int p2), (.ref a3)] below meth c s₁ [] 0 0 := Stand.of_body Bd
  have e0 : s₁.heap = h0 := by rw [← hh, Bd.state]; rfl
  have N0 := Fr.nil n0
  have pre0 : ∀ t, Steps p.tables e below (s₁.setTop (mkF m 0 #[.val (.int p1), .val (.int p2), .val (.ref a3)] [])) t → Steps p.tables e below (s₁.setTop (entryFrame m #[(.int p1), (.int p2), (.ref a3)] 3)) t := fun t k => castTop (ef_36 m p1 p2 a3) k
  obtain ⟨_, _, ⟨T101, L101, k101, n101⟩, -, X101, ⟨Lc101, hQ101, l101, y101, z101⟩, st101⟩ := Jvm.LawKit.callS X0 hx (y := (⟨"java/lang/StringUTF16", "length", "([B)I"⟩ : MethodName)) hown0 (mvT hZ0 (hw _ (List.mem_of_getElem? (i := 170) rfl))) (mvT hZ0 (hw _ (List.mem_of_getElem? (i := 171) rfl))) (mvT hZ0 (hw _ (List.mem_of_getElem? (i := 18) rfl))) (mvT hZ0 (hw _ (List.mem_of_getElem? (i := 172) rfl))) (by decide) (backOf (W := 2) (rm37 l Z a0 hw [] a3 n f h0 n0 Z0 U3 sm) hZ0 (hw _ (List.mem_of_getElem? (i := 172) rfl)) (hw _ (List.mem_of_getElem? (i := 18) rfl)) (by decide) (by decide)) (g := (mkF m 3 #[.val (.int p1), .val (.int p2), .val (.ref a3)] [(.ref a3), (.int p2), (.int p1)])) rfl (by rw [hml]; rfl) (argsL := [(.ref a3)]) (rest := [(.int p2), (.int p1)]) (lenOf pd_1 rfl) rfl (by show 2 * 0 + _ ≤ _; exact Nat.le_of_eq rfl) (hb hby d36_3) (fun _ _ => ⟨rfl, e0, (by decide : 0 + 0 ≤ _), (by decide : 0 + 0 ≤ _)⟩)
  dsimp only [Pt.U, Pt.locs, Pt.cells, Pt.slots] at X101 l101 y101 z101 st101 hQ101
  subst l101 y101 z101
  obtain ⟨rfl, N101q, P101_0⟩ := hQ101
  have N101 := Fr.app N0 N101q
  obtain ⟨_, _, ⟨T102, L102, k102, n102⟩, -, X102, ⟨Lc102, hQ102, l102, y102, z102⟩, st102⟩ := Jvm.LawKit.callS X101 hx (y := (⟨"java/lang/String", "checkBoundsOffCount", "(III)I"⟩ : MethodName)) hown0 (mvT hZ0 (hw _ (List.mem_of_getElem? (i := 173) rfl))) (mvT hZ0 (hw _ (List.mem_of_getElem? (i := 174) rfl))) (mvT hZ0 (hw _ (List.mem_of_getElem? (i := 4) rfl))) (mvT hZ0 (hw _ (List.mem_of_getElem? (i := 175) rfl))) (by decide) (backOf (W := 0) (rm38 l Z a0 hw [] p1 p2 n w h0 n0 Z0 O0 S0 hw0 SA SHI SLO FM (own_e3 (P := fun o l n => ¬ (((n ||| o) ||| l) < (0 : Int32))) sm rg (by decide +kernel)) (own_e3 (P := fun o l n => ¬ ((n - o) < l)) sm rg (by decide +kernel))) hZ0 (hw _ (List.mem_of_getElem? (i := 175) rfl)) (hw _ (List.mem_of_getElem? (i := 4) rfl)) (by decide) (by decide)) (g := (mkF m 6 #[.val (.int p1), .val (.int p2), .val (.ref a3)] [(.int n), (.int p2), (.int p1)])) rfl (by rw [hml]; rfl) (argsL := [(.int p1), (.int p2), (.int n)]) (rest := []) (lenOf pd_17 rfl) rfl (by show 2 * 0 + _ ≤ _; exact Nat.le_of_eq rfl) (hb hby d36_6) (fun _ _ => ⟨rfl, P101_0, (by decide : 0 + 0 ≤ _), (by decide : 0 + 0 ≤ _)⟩)
  dsimp only [Pt.U, Pt.locs, Pt.cells, Pt.slots] at X102 l102 y102 z102 st102 hQ102
  subst l102 y102 z102
  obtain ⟨rfl, N102q, P102_0⟩ := hQ102
  have N102 := Fr.app N101 N102q
  obtain ⟨fs, hr, hrun, hended, hW, hsame⟩ := X102.leave (v := none) (fun _ => rfl) hlk
  refine ⟨_, _, pre0 _ ?_, hrun, hended, _, _, rfl, ?_, ⟨_, rfl⟩, hW, hsame.mono (by decide) (by decide)⟩
  · show Steps p.tables e below (s₁.setTop (mkF m 0 #[.val (.int p1), .val (.int p2), .val (.ref a3)] [])) _
    refine XS.iloadN X0.here hx rfl (hb hby d36_0) rfl ?_
    show Steps p.tables e below (s₁.setTop (mkF m 1 #[.val (.int p1), .val (.int p2), .val (.ref a3)] [(.int p1)])) _
    refine XS.iloadN X0.here hx rfl (hb hby d36_1) rfl ?_
    show Steps p.tables e below (s₁.setTop (mkF m 2 #[.val (.int p1), .val (.int p2), .val (.ref a3)] [(.int p2), (.int p1)])) _
    refine XS.aloadN X0.here hx rfl (hb hby d36_2) rfl rfl ?_
    show Steps p.tables e below (s₁.setTop (mkF m 3 #[.val (.int p1), .val (.int p2), .val (.ref a3)] [(.ref a3), (.int p2), (.int p1)])) _
    refine st101 _ ?_
    show Steps p.tables e below (T101.setTop (mkF m 6 #[.val (.int p1), .val (.int p2), .val (.ref a3)] [(.int n), (.int p2), (.int p1)])) _
    refine st102 _ ?_
    show Steps p.tables e below (T102.setTop (mkF m 9 #[.val (.int p1), .val (.int p2), .val (.ref a3)] [(.int p1)])) _
    refine XS.pop X102.here hx rfl (hb hby d36_9) rfl rfl ?_
    show Steps p.tables e below (T102.setTop (mkF m 10 #[.val (.int p1), .val (.int p2), .val (.ref a3)] [])) _
    exact X102.returnOut hx Bd.returns (hb hby d36_10) hr
  · show Q36 Z p1 p2 a3 w n f h0 n0 _ T102.heap _
    rw [P102_0]
    exact ⟨rfl, N102, rfl⟩
theorem ef_35a (m : MethodId) (x0 : Addr) (x1 : Int32) (x2 : Addr) (x4 : Int32) : entryFrame m #[(.ref x0), (.int x1), (.ref x2), (.int (0 : Int32)), (.int x4)] 7 = mkF m 0 #[.val (.ref x0), .val (.int x1), .val (.ref x2), .val (.int (0 : Int32)), .val (.int x4), .unset, .unset] [] := by first | (simp [entryFrame, mkF, argsToLocals, Value.category]; done) | rfl
theorem d35_0 : decode jdk_52_method_22_code 0 = .ok (.iload_n 1, 1) := by decide +kernel
theorem d35_1 : decode jdk_52_method_22_code 1 = .ok (.iload 4, 2) := by decide +kernel
theorem d35_3 : decode jdk_52_method_22_code 3 = .ok (.aload_n 0, 1) := by decide +kernel
theorem d35_4 : decode jdk_52_method_22_code 4 = .ok (.invokestatic 173, 3) := by decide +kernel
theorem pd_18 : parseMethodDescriptor "(II[B)V" = some ⟨[.int, .int, (.array .byte)], none⟩ := by decide +kernel
theorem d35_7 : decode jdk_52_method_22_code 7 = .ok (.iconst 0, 1) := by decide +kernel
theorem d35_8 : decode jdk_52_method_22_code 8 = .ok (.istore 5, 2) := by decide +kernel
theorem d35_10 : decode jdk_52_method_22_code 10 = .ok (.iload 5, 2) := by decide +kernel
theorem d35_12 : decode jdk_52_method_22_code 12 = .ok (.iload 4, 2) := by decide +kernel
theorem d35_14 : decode jdk_52_method_22_code 14 = .ok (.if_icmp .ge 39, 3) := by decide +kernel
theorem d35_17 : decode jdk_52_method_22_code 17 = .ok (.aload_n 0, 1) := by decide +kernel
theorem d35_18 : decode jdk_52_method_22_code 18 = .ok (.iload_n 1, 1) := by decide +kernel
theorem d35_19 : decode jdk_52_method_22_code 19 = .ok (.invokestatic 71, 3) := by decide +kernel
theorem d35_22 : decode jdk_52_method_22_code 22 = .ok (.istore 6, 2) := by decide +kernel
theorem d35_24 : decode jdk_52_method_22_code 24 = .ok (.iload 6, 2) := by decide +kernel
theorem d35_26 : decode jdk_52_method_22_code 26 = .ok (.sipush 255, 3) := by decide +kernel
theorem d35_29 : decode jdk_52_method_22_code 29 = .ok (.if_icmp .le 6, 3) := by decide +kernel
theorem d35_35 : decode jdk_52_method_22_code 35 = .ok (.aload_n 2, 1) := by decide +kernel
theorem d35_36 : decode jdk_52_method_22_code 36 = .ok (.iload_n 3, 1) := by decide +kernel
theorem d35_37 : decode jdk_52_method_22_code 37 = .ok (.iload 6, 2) := by decide +kernel
theorem d35_39 : decode jdk_52_method_22_code 39 = .ok (.i2b, 1) := by decide +kernel
theorem d35_40 : decode jdk_52_method_22_code 40 = .ok (.bastore, 1) := by decide +kernel
theorem d35_41 : decode jdk_52_method_22_code 41 = .ok (.iinc 1 1, 3) := by decide +kernel
theorem d35_44 : decode jdk_52_method_22_code 44 = .ok (.iinc 3 1, 3) := by decide +kernel
theorem d35_47 : decode jdk_52_method_22_code 47 = .ok (.iinc 5 1, 3) := by decide +kernel
theorem d35_50 : decode jdk_52_method_22_code 50 = .ok (.goto (-40), 3) := by decide +kernel
theorem d35_53 : decode jdk_52_method_22_code 53 = .ok (.iload 4, 2) := by decide +kernel
theorem d35_55 : decode jdk_52_method_22_code 55 = .ok (.ireturn, 1) := by decide +kernel
def Q35a (Z : State) (a1 : Addr) (p2 : Int32) (a3 : Addr) (p5 : Int32) (w : Int32) (n : Int32) (f : Nat → Int32) (h0 : Heap) (n0 : Nat) (v : Option Value) (h : Heap) (L : List Loc) : Prop := v = some (.int p5) ∧ Fr n0 L ∧ (Keep h0 h [a3]) ∧ (OwnL Z h a3 p5 (own_sh f p2))
set_option maxRecDepth 65536 in
set_option maxHeartbeats 40000000 in
theorem rm35a (l : Launch) (Z : State) (a0 : Array Value) (hw : ∀ d ∈ tables_1, d.before a0 Z = true) (ws : List Jvm.Cond) (a1 : Addr) (p2 : Int32) (a3 : Addr) (p5 : Int32) (w : Int32) (n : Int32) (f : Nat → Int32) (h0 : Heap) (n0 : Nat) (Z0 : n0 ≤ h0.size) (O0 : Old Z n0 h0) (S0 : Sta Z Z.heap "java/lang/String" "COMPACT_STRINGS" "Z" (.int w)) (hw0 : ¬ (w = (0 : Int32))) (SA : Sta Z Z.heap "java/lang/StringUTF16" "$assertionsDisabled" "Z" (.int (1 : Int32))) (SHI : Sta Z Z.heap "java/lang/StringUTF16" "HI_BYTE_SHIFT" "I" (.int (0 : Int32))) (SLO : Sta Z Z.heap "java/lang/StringUTF16" "LO_BYTE_SHIFT" "I" (.int (8 : Int32))) (FM : Fmt Z) (U1 : OwnU Z h0 a1 n f) (sm : own_sm n) (rg : own_rg p2 p5 n) (l0 : (0 : Int32) < p5) (B3 : OwnB Z h0 a3 p5 0 (own_sh f p2)) (g3 : n0 ≤ a3) (n13 : a1 ≠ a3) (hf : own_ch f) (hl : own_lat (own_sh f p2) p5) :
    MetFree l (⟨"java/lang/StringUTF16", "compress", "([BI[BII)I"⟩ : MethodName) (head1 (Jvm.Cond.code (⟨"java/lang/StringUTF16", "compress", "([BI[BII)I"⟩ : MethodName) jdk_52_method_22_code 7 (some .int) :: ws) ({ frames := 3, cells := 0, slots := 0, locals := 43 } : Room)) (fun a U => a = #[(.ref a1), (.int p2), (.ref a3), (.int (0 : Int32)), (.int p5)] ∧ Z.Warmed39 U.vm ∧ U.heap = h0) (fun _ _ _ _ _ => True) (fun _ U o U' => ∃ v L, o = .returned v ∧ Q35a Z a1 p2 a3 p5 w n f h0 n0 v U'.heap L ∧ FrameEnd U o U' L ({ frames := 3, cells := 0, slots := 0, locals := 43 } : Room).cells ({ frames := 3, cells := 0, slots := 0, locals := 43 } : Room).slots) := by
  refine MetFree.of_bodySF (plainFor_of_name pn_2) hisR ?_
  intro p e s m args below meth c s₁ Bd hml0 hP hK
  obtain ⟨rfl, hZ0, hh⟩ := hP
  have hx := Bd.exec
  have hby := Bd.bytes
  have hml : c.maxLocals = 7 := hml0
  have hown0 : s.vm.findClass "java/lang/StringUTF16" = some m.cls := findClass_of_methodNamed Bd.named
  have hnm := (name_of_methodNamed Bd.named Bd.method).1
  have hlk : meth.locks = false := by first | exact BodyLoose.notSynchronized Bd | exact Body.notSynchronized Bd
  have X0 : Stand p l e ({ frames := 3, cells := 0, slots := 0, locals := 43 } : Room) s m #[(.ref a1), (.int p2), (.ref a3), (.int (0 : Int32)), (.int p5)] below meth c s₁ [] 0 0 := Stand.of_body Bd
  have e0 : s₁.heap = h0 := by rw [← hh, Bd.state]; rfl
  have N0 := Fr.nil n0
  have pre0 : ∀ t, Steps p.tables e below (s₁.setTop (mkF m 0 #[.val (.ref a1), .val (.int p2), .val (.ref a3), .val (.int (0 : Int32)), .val (.int p5), .unset, .unset] [])) t → Steps p.tables e below (s₁.setTop (entryFrame m #[(.ref a1), (.int p2), (.ref a3), (.int (0 : Int32)), (.int p5)] 7)) t := fun t k => castTop (ef_35a m a1 p2 a3 p5) k
  obtain ⟨_, _, ⟨T101, L101, k101, n101⟩, -, X101, ⟨Lc101, hQ101, l101, y101, z101⟩, st101⟩ := Jvm.LawKit.callS X0 hx (y := (⟨"java/lang/StringUTF16", "checkBoundsOffCount", "(II[B)V"⟩ : MethodName)) hown0 (mvT hZ0 (hw _ (List.mem_of_getElem? (i := 167) rfl))) (mvT hZ0 (hw _ (List.mem_of_getElem? (i := 168) rfl))) (mvT hZ0 (hw _ (List.mem_of_getElem? (i := 18) rfl))) (mvT hZ0 (hw _ (List.mem_of_getElem? (i := 169) rfl))) (by decide) (backOf (W := 0) (rm36 l Z a0 hw [] p2 p5 a1 w n f h0 n0 Z0 O0 S0 hw0 SA SHI SLO FM U1 sm rg) hZ0 (hw _ (List.mem_of_getElem? (i := 169) rfl)) (hw _ (List.mem_of_getElem? (i := 18) rfl)) (by decide) (by decide)) (g := (mkF m 4 #[.val (.ref a1), .val (.int p2), .val (.ref a3), .val (.int (0 : Int32)), .val (.int p5), .unset, .unset] [(.ref a1), (.int p5), (.int p2)])) rfl (by rw [hml]; rfl) (argsL := [(.int p2), (.int p5), (.ref a1)]) (rest := []) (lenOf pd_18 rfl) rfl (by show 2 * 0 + _ ≤ _; exact Nat.le_of_eq rfl) (hb hby d35_4) (fun _ _ => ⟨rfl, e0, (by decide : 0 + 0 ≤ _), (by decide : 0 + 0 ≤ _)⟩)
  dsimp only [Pt.U, Pt.locs, Pt.cells, Pt.slots] at X101 l101 y101 z101 st101 hQ101
  subst l101 y101 z101
  obtain ⟨rfl, N101q, P101_0⟩ := hQ101
  have N101 := Fr.app N0 N101q
  obtain ⟨_, _, ⟨T102, L102, k102, n102⟩, -, X102, ⟨Lc102, hQ102, l102, y102, z102⟩, st102⟩ := Jvm.LawKit.callS X101 hx (y := (⟨"java/lang/StringUTF16", "getChar", "([BI)C"⟩ : MethodName)) hown0 (mvT hZ0 (hw _ (List.mem_of_getElem? (i := 153) rfl))) (mvT hZ0 (hw _ (List.mem_of_getElem? (i := 154) rfl))) (mvT hZ0 (hw _ (List.mem_of_getElem? (i := 18) rfl))) (mvT hZ0 (hw _ (List.mem_of_getElem? (i := 155) rfl))) (by decide) (backOf (W := 0) (rm32 l Z a0 hw [] a1 p2 w n f h0 n0 Z0 O0 S0 hw0 SA SHI SLO FM U1 sm ((own_e3 (P := fun o l n => (0 : Int32) < l → own_ix o n) sm rg (by decide +kernel)) l0) hf) hZ0 (hw _ (List.mem_of_getElem? (i := 155) rfl)) (hw _ (List.mem_of_getElem? (i := 18) rfl)) (by decide) (by decide)) (g := (mkF m 19 #[.val (.ref a1), .val (.int p2), .val (.ref a3), .val (.int (0 : Int32)), .val (.int p5), .val (.int (0 : Int32)), .unset] [(.int p2), (.ref a1)])) rfl (by rw [hml]; rfl) (argsL := [(.ref a1), (.int p2)]) (rest := []) (lenOf pd_4 rfl) rfl (by show 2 * 0 + _ ≤ _; exact Nat.le_of_eq rfl) (hb hby d35_19) (fun _ _ => ⟨rfl, P101_0, (by decide : 0 + 0 ≤ _), (by decide : 0 + 0 ≤ _)⟩)
  dsimp only [Pt.U, Pt.locs, Pt.cells, Pt.slots] at X102 l102 y102 z102 st102 hQ102
  subst l102 y102 z102
  obtain ⟨hv102, N102q, P102_0⟩ := hQ102
  obtain rfl := hv102.trans (congrArg (fun z => some (Value.int z)) (congrArg f ((own_e3 (P := fun o l n => (0 : Int32) < l → (o).toNatClampNeg = o.toNatClampNeg + 0) sm rg (by decide +kernel)) l0) : (f p2.toNatClampNeg) = ((own_sh f p2) 0)))
  have N102 := Fr.app N101 N102q
  obtain ⟨cl103, Ar103, Sz103, Nn103, Hs103⟩ := (id B3)
  obtain ⟨T104, h104, X104, e104, W104, st104⟩ := stB X102 hx hZ0 P102_0 Ar103 (j := (0 : Int32)) (inb_of Sz103 ⟨by decide, l0⟩) (g := (mkF m 40 #[.val (.ref a1), .val (.int p2), .val (.ref a3), .val (.int (0 : Int32)), .val (.int p5), .val (.int (0 : Int32)), .val (.int ((own_sh f p2) 0))] [(.int (((own_sh f p2) 0).toInt8.toInt32)), (.int (0 : Int32)), (.ref a3)])) rfl rfl (hb hby d35_40)
  have f105 : Old Z n0 h104 := O0.wr W104 g3
  have f106 : OwnU Z h104 a1 n f := OwnU.other U1 W104 n13
  have Zs104 : n0 ≤ h104.size := Nat.le_trans Z0 (Keep.of_wr W104).1
  have N104 := Fr.snoc X104 N102 g3
  have K104 : Keep h0 h104 [a3] := (Keep.refl h0 [a3]).wr W104 (Or.inl (List.mem_of_getElem? (i := 0) rfl))
  have v104 : OwnB Z h104 a3 p5 1 (own_sh f p2) := (OwnB.put Ar103 Sz103 Nn103 Hs103 (inb_of Sz103 ⟨by decide, l0⟩) W104 (by decide) rfl)
  have pr107 : ∀ tg9, Steps p.tables e below (T104.setTop (mkF m 14 #[.val (.ref a1), .val (.int (p2 + (1 : Int32))), .val (.ref a3), .val (.int (1 : Int32)), .val (.int p5), .val (.int (1 : Int32)), .val (.int ((own_sh f p2) 0))] [(.int p5), (.int (1 : Int32))])) tg9 → Steps p.tables e below (s₁.setTop (mkF m 0 #[.val (.ref a1), .val (.int p2), .val (.ref a3), .val (.int (0 : Int32)), .val (.int p5), .unset, .unset] [])) tg9 := fun tg9 kt => by
    show Steps p.tables e below (s₁.setTop (mkF m 0 #[.val (.ref a1), .val (.int p2), .val (.ref a3), .val (.int (0 : Int32)), .val (.int p5), .unset, .unset] [])) _
    refine XS.iloadN X0.here hx rfl (hb hby d35_0) rfl ?_
    show Steps p.tables e below (s₁.setTop (mkF m 1 #[.val (.ref a1), .val (.int p2), .val (.ref a3), .val (.int (0 : Int32)), .val (.int p5), .unset, .unset] [(.int p2)])) _
    refine XS.iload X0.here hx rfl (hb hby d35_1) rfl ?_
    show Steps p.tables e below (s₁.setTop (mkF m 3 #[.val (.ref a1), .val (.int p2), .val (.ref a3), .val (.int (0 : Int32)), .val (.int p5), .unset, .unset] [(.int p5), (.int p2)])) _
    refine XS.aloadN X0.here hx rfl (hb hby d35_3) rfl rfl ?_
    show Steps p.tables e below (s₁.setTop (mkF m 4 #[.val (.ref a1), .val (.int p2), .val (.ref a3), .val (.int (0 : Int32)), .val (.int p5), .unset, .unset] [(.ref a1), (.int p5), (.int p2)])) _
    refine st101 _ ?_
    show Steps p.tables e below (T101.setTop (mkF m 7 #[.val (.ref a1), .val (.int p2), .val (.ref a3), .val (.int (0 : Int32)), .val (.int p5), .unset, .unset] [])) _
    refine XS.iconst X101.here hx rfl (hb hby d35_7) ?_
    show Steps p.tables e below (T101.setTop (mkF m 8 #[.val (.ref a1), .val (.int p2), .val (.ref a3), .val (.int (0 : Int32)), .val (.int p5), .unset, .unset] [(.int (0 : Int32))])) _
    refine XS.istore X101.here hx rfl (hb hby d35_8) rfl (l' := #[.val (.ref a1), .val (.int p2), .val (.ref a3), .val (.int (0 : Int32)), .val (.int p5), .val (.int (0 : Int32)), .unset]) rfl ?_
    show Steps p.tables e below (T101.setTop (mkF m 10 #[.val (.ref a1), .val (.int p2), .val (.ref a3), .val (.int (0 : Int32)), .val (.int p5), .val (.int (0 : Int32)), .unset] [])) _
    refine XS.iload X101.here hx rfl (hb hby d35_10) rfl ?_
    show Steps p.tables e below (T101.setTop (mkF m 12 #[.val (.ref a1), .val (.int p2), .val (.ref a3), .val (.int (0 : Int32)), .val (.int p5), .val (.int (0 : Int32)), .unset] [(.int (0 : Int32))])) _
    refine XS.iload X101.here hx rfl (hb hby d35_12) rfl ?_
    show Steps p.tables e below (T101.setTop (mkF m 14 #[.val (.ref a1), .val (.int p2), .val (.ref a3), .val (.int (0 : Int32)), .val (.int p5), .val (.int (0 : Int32)), .unset] [(.int p5), (.int (0 : Int32))])) _
    refine XS.icmpNo X101.here hx rfl (hb hby d35_14) rfl (tlt l0).2.1 ?_
    show Steps p.tables e below (T101.setTop (mkF m 17 #[.val (.ref a1), .val (.int p2), .val (.ref a3), .val (.int (0 : Int32)), .val (.int p5), .val (.int (0 : Int32)), .unset] [])) _
    refine XS.aloadN X101.here hx rfl (hb hby d35_17) rfl rfl ?_
    show Steps p.tables e below (T101.setTop (mkF m 18 #[.val (.ref a1), .val (.int p2), .val (.ref a3), .val (.int (0 : Int32)), .val (.int p5), .val (.int (0 : Int32)), .unset] [(.ref a1)])) _
    refine XS.iloadN X101.here hx rfl (hb hby d35_18) rfl ?_
    show Steps p.tables e below (T101.setTop (mkF m 19 #[.val (.ref a1), .val (.int p2), .val (.ref a3), .val (.int (0 : Int32)), .val (.int p5), .val (.int (0 : Int32)), .unset] [(.int p2), (.ref a1)])) _
    refine st102 _ ?_
    show Steps p.tables e below (T102.setTop (mkF m 22 #[.val (.ref a1), .val (.int p2), .val (.ref a3), .val (.int (0 : Int32)), .val (.int p5), .val (.int (0 : Int32)), .unset] [(.int ((own_sh f p2) 0))])) _
    refine XS.istore X102.here hx rfl (hb hby d35_22) rfl (l' := #[.val (.ref a1), .val (.int p2), .val (.ref a3), .val (.int (0 : Int32)), .val (.int p5), .val (.int (0 : Int32)), .val (.int ((own_sh f p2) 0))]) rfl ?_
    show Steps p.tables e below (T102.setTop (mkF m 24 #[.val (.ref a1), .val (.int p2), .val (.ref a3), .val (.int (0 : Int32)), .val (.int p5), .val (.int (0 : Int32)), .val (.int ((own_sh f p2) 0))] [])) _
    refine XS.iload X102.here hx rfl (hb hby d35_24) rfl ?_
    show Steps p.tables e below (T102.setTop (mkF m 26 #[.val (.ref a1), .val (.int p2), .val (.ref a3), .val (.int (0 : Int32)), .val (.int p5), .val (.int (0 : Int32)), .val (.int ((own_sh f p2) 0))] [(.int ((own_sh f p2) 0))])) _
    refine XS.sipush X102.here hx rfl (hb hby d35_26) ?_
    show Steps p.tables e below (T102.setTop (mkF m 29 #[.val (.ref a1), .val (.int p2), .val (.ref a3), .val (.int (0 : Int32)), .val (.int p5), .val (.int (0 : Int32)), .val (.int ((own_sh f p2) 0))] [(.int (255 : Int32)), (.int ((own_sh f p2) 0))])) _
    refine XS.icmpYes X102.here hx rfl (pc0 := 29) (pc' := 35) rfl (hb hby d35_29) rfl (flt (hl 0 (own_ixlt (i := (0 : Int32)) ⟨by decide, l0⟩) : ¬ ((255 : Int32) < ((own_sh f p2) 0)))).2.2.2 (by decide) (by decide) ?_
    show Steps p.tables e below (T102.setTop (mkF m 35 #[.val (.ref a1), .val (.int p2), .val (.ref a3), .val (.int (0 : Int32)), .val (.int p5), .val (.int (0 : Int32)), .val (.int ((own_sh f p2) 0))] [])) _
    refine XS.aloadN X102.here hx rfl (hb hby d35_35) rfl rfl ?_
    show Steps p.tables e below (T102.setTop (mkF m 36 #[.val (.ref a1), .val (.int p2), .val (.ref a3), .val (.int (0 : Int32)), .val (.int p5), .val (.int (0 : Int32)), .val (.int ((own_sh f p2) 0))] [(.ref a3)])) _
    refine XS.iloadN X102.here hx rfl (hb hby d35_36) rfl ?_
    show Steps p.tables e below (T102.setTop (mkF m 37 #[.val (.ref a1), .val (.int p2), .val (.ref a3), .val (.int (0 : Int32)), .val (.int p5), .val (.int (0 : Int32)), .val (.int ((own_sh f p2) 0))] [(.int (0 : Int32)), (.ref a3)])) _
    refine XS.iload X102.here hx rfl (hb hby d35_37) rfl ?_
    show Steps p.tables e below (T102.setTop (mkF m 39 #[.val (.ref a1), .val (.int p2), .val (.ref a3), .val (.int (0 : Int32)), .val (.int p5), .val (.int (0 : Int32)), .val (.int ((own_sh f p2) 0))] [(.int ((own_sh f p2) 0)), (.int (0 : Int32)), (.ref a3)])) _
    refine XS.i2b X102.here hx rfl (hb hby d35_39) rfl ?_
    show Steps p.tables e below (T102.setTop (mkF m 40 #[.val (.ref a1), .val (.int p2), .val (.ref a3), .val (.int (0 : Int32)), .val (.int p5), .val (.int (0 : Int32)), .val (.int ((own_sh f p2) 0))] [(.int (((own_sh f p2) 0).toInt8.toInt32)), (.int (0 : Int32)), (.ref a3)])) _
    refine st104 _ ?_
    show Steps p.tables e below (T104.setTop (mkF m 41 #[.val (.ref a1), .val (.int p2), .val (.ref a3), .val (.int (0 : Int32)), .val (.int p5), .val (.int (0 : Int32)), .val (.int ((own_sh f p2) 0))] [])) _
    refine XS.iinc X104.here hx rfl (hb hby d35_41) rfl (l' := #[.val (.ref a1), .val (.int (p2 + (1 : Int32))), .val (.ref a3), .val (.int (0 : Int32)), .val (.int p5), .val (.int (0 : Int32)), .val (.int ((own_sh f p2) 0))]) rfl ?_
    show Steps p.tables e below (T104.setTop (mkF m 44 #[.val (.ref a1), .val (.int (p2 + (1 : Int32))), .val (.ref a3), .val (.int (0 : Int32)), .val (.int p5), .val (.int (0 : Int32)), .val (.int ((own_sh f p2) 0))] [])) _
    refine XS.iinc X104.here hx rfl (hb hby d35_44) rfl (l' := #[.val (.ref a1), .val (.int (p2 + (1 : Int32))), .val (.ref a3), .val (.int (1 : Int32)), .val (.int p5), .val (.int (0 : Int32)), .val (.int ((own_sh f p2) 0))]) rfl ?_
    show Steps p.tables e below (T104.setTop (mkF m 47 #[.val (.ref a1), .val (.int (p2 + (1 : Int32))), .val (.ref a3), .val (.int (1 : Int32)), .val (.int p5), .val (.int (0 : Int32)), .val (.int ((own_sh f p2) 0))] [])) _
    refine XS.iinc X104.here hx rfl (hb hby d35_47) rfl (l' := #[.val (.ref a1), .val (.int (p2 + (1 : Int32))), .val (.ref a3), .val (.int (1 : Int32)), .val (.int p5), .val (.int (1 : Int32)), .val (.int ((own_sh f p2) 0))]) rfl ?_
    show Steps p.tables e below (T104.setTop (mkF m 50 #[.val (.ref a1), .val (.int (p2 + (1 : Int32))), .val (.ref a3), .val (.int (1 : Int32)), .val (.int p5), .val (.int (1 : Int32)), .val (.int ((own_sh f p2) 0))] [])) _
    refine XS.goto X104.here hx rfl (pc0 := 50) (pc' := 10) rfl (hb hby d35_50) (by decide) (by decide) ?_
    show Steps p.tables e below (T104.setTop (mkF m 10 #[.val (.ref a1), .val (.int (p2 + (1 : Int32))), .val (.ref a3), .val (.int (1 : Int32)), .val (.int p5), .val (.int (1 : Int32)), .val (.int ((own_sh f p2) 0))] [])) _
    refine XS.iload X104.here hx rfl (hb hby d35_10) rfl ?_
    show Steps p.tables e below (T104.setTop (mkF m 12 #[.val (.ref a1), .val (.int (p2 + (1 : Int32))), .val (.ref a3), .val (.int (1 : Int32)), .val (.int p5), .val (.int (1 : Int32)), .val (.int ((own_sh f p2) 0))] [(.int (1 : Int32))])) _
    refine XS.iload X104.here hx rfl (hb hby d35_12) rfl ?_
    exact kt
  by_cases hc108 : (1 : Int32) < p5
  · obtain ⟨_, _, ⟨T109, L109, k109, n109⟩, -, X109, ⟨Lc109, hQ109, l109, y109, z109⟩, st109⟩ := Jvm.LawKit.callS X104 hx (y := (⟨"java/lang/StringUTF16", "getChar", "([BI)C"⟩ : MethodName)) hown0 (mvT hZ0 (hw _ (List.mem_of_getElem? (i := 153) rfl))) (mvT hZ0 (hw _ (List.mem_of_getElem? (i := 154) rfl))) (mvT hZ0 (hw _ (List.mem_of_getElem? (i := 18) rfl))) (mvT hZ0 (hw _ (List.mem_of_getElem? (i := 155) rfl))) (by decide) (backOf (W := 0) (rm32 l Z a0 hw [] a1 (p2 + (1 : Int32)) w n f h104 n0 Zs104 f105 S0 hw0 SA SHI SLO FM f106 sm ((own_e3 (P := fun o l n => (1 : Int32) < l → own_ix (o + (1 : Int32)) n) sm rg (by decide +kernel)) hc108) hf) hZ0 (hw _ (List.mem_of_getElem? (i := 155) rfl)) (hw _ (List.mem_of_getElem? (i := 18) rfl)) (by decide) (by decide)) (g := (mkF m 19 #[.val (.ref a1), .val (.int (p2 + (1 : Int32))), .val (.ref a3), .val (.int (1 : Int32)), .val (.int p5), .val (.int (1 : Int32)), .val (.int ((own_sh f p2) 0))] [(.int (p2 + (1 : Int32))), (.ref a1)])) rfl (by rw [hml]; rfl) (argsL := [(.ref a1), (.int (p2 + (1 : Int32)))]) (rest := []) (lenOf pd_4 rfl) rfl (by show 2 * 0 + _ ≤ _; exact Nat.le_of_eq rfl) (hb hby d35_19) (fun _ _ => ⟨rfl, e104, (by decide : 0 + 0 ≤ _), (by decide : 0 + 0 ≤ _)⟩)
    dsimp only [Pt.U, Pt.locs, Pt.cells, Pt.slots] at X109 l109 y109 z109 st109 hQ109
    subst l109 y109 z109
    obtain ⟨hv109, N109q, P109_0⟩ := hQ109
    obtain rfl := hv109.trans (congrArg (fun z => some (Value.int z)) (congrArg f ((own_e3 (P := fun o l n => (1 : Int32) < l → ((o + (1 : Int32))).toNatClampNeg = o.toNatClampNeg + 1) sm rg (by decide +kernel)) hc108) : (f (p2 + (1 : Int32)).toNatClampNeg) = ((own_sh f p2) 1)))
    have N109 := Fr.app N104 N109q
    obtain ⟨cl110, Ar110, Sz110, Nn110, Hs110⟩ := (id v104)
    obtain ⟨T111, h111, X111, e111, W111, st111⟩ := stB X109 hx hZ0 P109_0 Ar110 (j := (1 : Int32)) (inb_of Sz110 ⟨by decide, hc108⟩) (g := (mkF m 40 #[.val (.ref a1), .val (.int (p2 + (1 : Int32))), .val (.ref a3), .val (.int (1 : Int32)), .val (.int p5), .val (.int (1 : Int32)), .val (.int ((own_sh f p2) 1))] [(.int (((own_sh f p2) 1).toInt8.toInt32)), (.int (1 : Int32)), (.ref a3)])) rfl rfl (hb hby d35_40)
    have f112 : Old Z n0 h111 := f105.wr W111 g3
    have f113 : OwnU Z h111 a1 n f := OwnU.other f106 W111 n13
    have Zs111 : n0 ≤ h111.size := Nat.le_trans Zs104 (Keep.of_wr W111).1
    have N111 := Fr.snoc X111 N109 g3
    have K111 : Keep h0 h111 [a3] := K104.wr W111 (Or.inl (List.mem_of_getElem? (i := 0) rfl))
    have v111 : OwnB Z h111 a3 p5 2 (own_sh f p2) := (OwnB.put Ar110 Sz110 Nn110 Hs110 (inb_of Sz110 ⟨by decide, hc108⟩) W111 (by decide) rfl)
    have pr114 : ∀ tg9, Steps p.tables e below (T111.setTop (mkF m 14 #[.val (.ref a1), .val (.int ((p2 + (1 : Int32)) + (1 : Int32))), .val (.ref a3), .val (.int (2 : Int32)), .val (.int p5), .val (.int (2 : Int32)), .val (.int ((own_sh f p2) 1))] [(.int p5), (.int (2 : Int32))])) tg9 → Steps p.tables e below (s₁.setTop (mkF m 0 #[.val (.ref a1), .val (.int p2), .val (.ref a3), .val (.int (0 : Int32)), .val (.int p5), .unset, .unset] [])) tg9 := fun tg9 kt => by
      refine pr107 _ ?_
      show Steps p.tables e below (T104.setTop (mkF m 14 #[.val (.ref a1), .val (.int (p2 + (1 : Int32))), .val (.ref a3), .val (.int (1 : Int32)), .val (.int p5), .val (.int (1 : Int32)), .val (.int ((own_sh f p2) 0))] [(.int p5), (.int (1 : Int32))])) _
      refine XS.icmpNo X104.here hx rfl (hb hby d35_14) rfl (tlt hc108).2.1 ?_
      show Steps p.tables e below (T104.setTop (mkF m 17 #[.val (.ref a1), .val (.int (p2 + (1 : Int32))), .val (.ref a3), .val (.int (1 : Int32)), .val (.int p5), .val (.int (1 : Int32)), .val (.int ((own_sh f p2) 0))] [])) _
      refine XS.aloadN X104.here hx rfl (hb hby d35_17) rfl rfl ?_
      show Steps p.tables e below (T104.setTop (mkF m 18 #[.val (.ref a1), .val (.int (p2 + (1 : Int32))), .val (.ref a3), .val (.int (1 : Int32)), .val (.int p5), .val (.int (1 : Int32)), .val (.int ((own_sh f p2) 0))] [(.ref a1)])) _
      refine XS.iloadN X104.here hx rfl (hb hby d35_18) rfl ?_
      show Steps p.tables e below (T104.setTop (mkF m 19 #[.val (.ref a1), .val (.int (p2 + (1 : Int32))), .val (.ref a3), .val (.int (1 : Int32)), .val (.int p5), .val (.int (1 : Int32)), .val (.int ((own_sh f p2) 0))] [(.int (p2 + (1 : Int32))), (.ref a1)])) _
      refine st109 _ ?_
      show Steps p.tables e below (T109.setTop (mkF m 22 #[.val (.ref a1), .val (.int (p2 + (1 : Int32))), .val (.ref a3), .val (.int (1 : Int32)), .val (.int p5), .val (.int (1 : Int32)), .val (.int ((own_sh f p2) 0))] [(.int ((own_sh f p2) 1))])) _
      refine XS.istore X109.here hx rfl (hb hby d35_22) rfl (l' := #[.val (.ref a1), .val (.int (p2 + (1 : Int32))), .val (.ref a3), .val (.int (1 : Int32)), .val (.int p5), .val (.int (1 : Int32)), .val (.int ((own_sh f p2) 1))]) rfl ?_
      show Steps p.tables e below (T109.setTop (mkF m 24 #[.val (.ref a1), .val (.int (p2 + (1 : Int32))), .val (.ref a3), .val (.int (1 : Int32)), .val (.int p5), .val (.int (1 : Int32)), .val (.int ((own_sh f p2) 1))] [])) _
      refine XS.iload X109.here hx rfl (hb hby d35_24) rfl ?_
      show Steps p.tables e below (T109.setTop (mkF m 26 #[.val (.ref a1), .val (.int (p2 + (1 : Int32))), .val (.ref a3), .val (.int (1 : Int32)), .val (.int p5), .val (.int (1 : Int32)), .val (.int ((own_sh f p2) 1))] [(.int ((own_sh f p2) 1))])) _
      refine XS.sipush X109.here hx rfl (hb hby d35_26) ?_
      show Steps p.tables e below (T109.setTop (mkF m 29 #[.val (.ref a1), .val (.int (p2 + (1 : Int32))), .val (.ref a3), .val (.int (1 : Int32)), .val (.int p5), .val (.int (1 : Int32)), .val (.int ((own_sh f p2) 1))] [(.int (255 : Int32)), (.int ((own_sh f p2) 1))])) _
      refine XS.icmpYes X109.here hx rfl (pc0 := 29) (pc' := 35) rfl (hb hby d35_29) rfl (flt (hl 1 (own_ixlt (i := (1 : Int32)) ⟨by decide, hc108⟩) : ¬ ((255 : Int32) < ((own_sh f p2) 1)))).2.2.2 (by decide) (by decide) ?_
      show Steps p.tables e below (T109.setTop (mkF m 35 #[.val (.ref a1), .val (.int (p2 + (1 : Int32))), .val (.ref a3), .val (.int (1 : Int32)), .val (.int p5), .val (.int (1 : Int32)), .val (.int ((own_sh f p2) 1))] [])) _
      refine XS.aloadN X109.here hx rfl (hb hby d35_35) rfl rfl ?_
      show Steps p.tables e below (T109.setTop (mkF m 36 #[.val (.ref a1), .val (.int (p2 + (1 : Int32))), .val (.ref a3), .val (.int (1 : Int32)), .val (.int p5), .val (.int (1 : Int32)), .val (.int ((own_sh f p2) 1))] [(.ref a3)])) _
      refine XS.iloadN X109.here hx rfl (hb hby d35_36) rfl ?_
      show Steps p.tables e below (T109.setTop (mkF m 37 #[.val (.ref a1), .val (.int (p2 + (1 : Int32))), .val (.ref a3), .val (.int (1 : Int32)), .val (.int p5), .val (.int (1 : Int32)), .val (.int ((own_sh f p2) 1))] [(.int (1 : Int32)), (.ref a3)])) _
      refine XS.iload X109.here hx rfl (hb hby d35_37) rfl ?_
      show Steps p.tables e below (T109.setTop (mkF m 39 #[.val (.ref a1), .val (.int (p2 + (1 : Int32))), .val (.ref a3), .val (.int (1 : Int32)), .val (.int p5), .val (.int (1 : Int32)), .val (.int ((own_sh f p2) 1))] [(.int ((own_sh f p2) 1)), (.int (1 : Int32)), (.ref a3)])) _
      refine XS.i2b X109.here hx rfl (hb hby d35_39) rfl ?_
      show Steps p.tables e below (T109.setTop (mkF m 40 #[.val (.ref a1), .val (.int (p2 + (1 : Int32))), .val (.ref a3), .val (.int (1 : Int32)), .val (.int p5), .val (.int (1 : Int32)), .val (.int ((own_sh f p2) 1))] [(.int (((own_sh f p2) 1).toInt8.toInt32)), (.int (1 : Int32)), (.ref a3)])) _
      refine st111 _ ?_
      show Steps p.tables e below (T111.setTop (mkF m 41 #[.val (.ref a1), .val (.int (p2 + (1 : Int32))), .val (.ref a3), .val (.int (1 : Int32)), .val (.int p5), .val (.int (1 : Int32)), .val (.int ((own_sh f p2) 1))] [])) _
      refine XS.iinc X111.here hx rfl (hb hby d35_41) rfl (l' := #[.val (.ref a1), .val (.int ((p2 + (1 : Int32)) + (1 : Int32))), .val (.ref a3), .val (.int (1 : Int32)), .val (.int p5), .val (.int (1 : Int32)), .val (.int ((own_sh f p2) 1))]) rfl ?_
      show Steps p.tables e below (T111.setTop (mkF m 44 #[.val (.ref a1), .val (.int ((p2 + (1 : Int32)) + (1 : Int32))), .val (.ref a3), .val (.int (1 : Int32)), .val (.int p5), .val (.int (1 : Int32)), .val (.int ((own_sh f p2) 1))] [])) _
      refine XS.iinc X111.here hx rfl (hb hby d35_44) rfl (l' := #[.val (.ref a1), .val (.int ((p2 + (1 : Int32)) + (1 : Int32))), .val (.ref a3), .val (.int (2 : Int32)), .val (.int p5), .val (.int (1 : Int32)), .val (.int ((own_sh f p2) 1))]) rfl ?_
      show Steps p.tables e below (T111.setTop (mkF m 47 #[.val (.ref a1), .val (.int ((p2 + (1 : Int32)) + (1 : Int32))), .val (.ref a3), .val (.int (2 : Int32)), .val (.int p5), .val (.int (1 : Int32)), .val (.int ((own_sh f p2) 1))] [])) _
      refine XS.iinc X111.here hx rfl (hb hby d35_47) rfl (l' := #[.val (.ref a1), .val (.int ((p2 + (1 : Int32)) + (1 : Int32))), .val (.ref a3), .val (.int (2 : Int32)), .val (.int p5), .val (.int (2 : Int32)), .val (.int ((own_sh f p2) 1))]) rfl ?_
      show Steps p.tables e below (T111.setTop (mkF m 50 #[.val (.ref a1), .val (.int ((p2 + (1 : Int32)) + (1 : Int32))), .val (.ref a3), .val (.int (2 : Int32)), .val (.int p5), .val (.int (2 : Int32)), .val (.int ((own_sh f p2) 1))] [])) _
      refine XS.goto X111.here hx rfl (pc0 := 50) (pc' := 10) rfl (hb hby d35_50) (by decide) (by decide) ?_
      show Steps p.tables e below (T111.setTop (mkF m 10 #[.val (.ref a1), .val (.int ((p2 + (1 : Int32)) + (1 : Int32))), .val (.ref a3), .val (.int (2 : Int32)), .val (.int p5), .val (.int (2 : Int32)), .val (.int ((own_sh f p2) 1))] [])) _
      refine XS.iload X111.here hx rfl (hb hby d35_10) rfl ?_
      show Steps p.tables e below (T111.setTop (mkF m 12 #[.val (.ref a1), .val (.int ((p2 + (1 : Int32)) + (1 : Int32))), .val (.ref a3), .val (.int (2 : Int32)), .val (.int p5), .val (.int (2 : Int32)), .val (.int ((own_sh f p2) 1))] [(.int (2 : Int32))])) _
      refine XS.iload X111.here hx rfl (hb hby d35_12) rfl ?_
      exact kt
    by_cases hc115 : (2 : Int32) < p5
    · obtain ⟨_, _, ⟨T116, L116, k116, n116⟩, -, X116, ⟨Lc116, hQ116, l116, y116, z116⟩, st116⟩ := Jvm.LawKit.callS X111 hx (y := (⟨"java/lang/StringUTF16", "getChar", "([BI)C"⟩ : MethodName)) hown0 (mvT hZ0 (hw _ (List.mem_of_getElem? (i := 153) rfl))) (mvT hZ0 (hw _ (List.mem_of_getElem? (i := 154) rfl))) (mvT hZ0 (hw _ (List.mem_of_getElem? (i := 18) rfl))) (mvT hZ0 (hw _ (List.mem_of_getElem? (i := 155) rfl))) (by decide) (backOf (W := 0) (rm32 l Z a0 hw [] a1 ((p2 + (1 : Int32)) + (1 : Int32)) w n f h111 n0 Zs111 f112 S0 hw0 SA SHI SLO FM f113 sm ((own_e3 (P := fun o l n => (2 : Int32) < l → own_ix ((o + (1 : Int32)) + (1 : Int32)) n) sm rg (by decide +kernel)) hc115) hf) hZ0 (hw _ (List.mem_of_getElem? (i := 155) rfl)) (hw _ (List.mem_of_getElem? (i := 18) rfl)) (by decide) (by decide)) (g := (mkF m 19 #[.val (.ref a1), .val (.int ((p2 + (1 : Int32)) + (1 : Int32))), .val (.ref a3), .val (.int (2 : Int32)), .val (.int p5), .val (.int (2 : Int32)), .val (.int ((own_sh f p2) 1))] [(.int ((p2 + (1 : Int32)) + (1 : Int32))), (.ref a1)])) rfl (by rw [hml]; rfl) (argsL := [(.ref a1), (.int ((p2 + (1 : Int32)) + (1 : Int32)))]) (rest := []) (lenOf pd_4 rfl) rfl (by show 2 * 0 + _ ≤ _; exact Nat.le_of_eq rfl) (hb hby d35_19) (fun _ _ => ⟨rfl, e111, (by decide : 0 + 0 ≤ _), (by decide : 0 + 0 ≤ _)⟩)
      dsimp only [Pt.U, Pt.locs, Pt.cells, Pt.slots] at X116 l116 y116 z116 st116 hQ116
      subst l116 y116 z116
      obtain ⟨hv116, N116q, P116_0⟩ := hQ116
      obtain rfl := hv116.trans (congrArg (fun z => some (Value.int z)) (congrArg f ((own_e3 (P := fun o l n => (2 : Int32) < l → (((o + (1 : Int32)) + (1 : Int32))).toNatClampNeg = o.toNatClampNeg + 2) sm rg (by decide +kernel)) hc115) : (f ((p2 + (1 : Int32)) + (1 : Int32)).toNatClampNeg) = ((own_sh f p2) 2)))
      have N116 := Fr.app N111 N116q
      obtain ⟨cl117, Ar117, Sz117, Nn117, Hs117⟩ := (id v111)
      obtain ⟨T118, h118, X118, e118, W118, st118⟩ := stB X116 hx hZ0 P116_0 Ar117 (j := (2 : Int32)) (inb_of Sz117 ⟨by decide, hc115⟩) (g := (mkF m 40 #[.val (.ref a1), .val (.int ((p2 + (1 : Int32)) + (1 : Int32))), .val (.ref a3), .val (.int (2 : Int32)), .val (.int p5), .val (.int (2 : Int32)), .val (.int ((own_sh f p2) 2))] [(.int (((own_sh f p2) 2).toInt8.toInt32)), (.int (2 : Int32)), (.ref a3)])) rfl rfl (hb hby d35_40)
      have f119 : Old Z n0 h118 := f112.wr W118 g3
      have f120 : OwnU Z h118 a1 n f := OwnU.other f113 W118 n13
      have Zs118 : n0 ≤ h118.size := Nat.le_trans Zs111 (Keep.of_wr W118).1
      have N118 := Fr.snoc X118 N116 g3
      have K118 : Keep h0 h118 [a3] := K111.wr W118 (Or.inl (List.mem_of_getElem? (i := 0) rfl))
      have v118 : OwnB Z h118 a3 p5 3 (own_sh f p2) := (OwnB.put Ar117 Sz117 Nn117 Hs117 (inb_of Sz117 ⟨by decide, hc115⟩) W118 (by decide) rfl)
      have pr121 : ∀ tg9, Steps p.tables e below (T118.setTop (mkF m 14 #[.val (.ref a1), .val (.int (((p2 + (1 : Int32)) + (1 : Int32)) + (1 : Int32))), .val (.ref a3), .val (.int (3 : Int32)), .val (.int p5), .val (.int (3 : Int32)), .val (.int ((own_sh f p2) 2))] [(.int p5), (.int (3 : Int32))])) tg9 → Steps p.tables e below (s₁.setTop (mkF m 0 #[.val (.ref a1), .val (.int p2), .val (.ref a3), .val (.int (0 : Int32)), .val (.int p5), .unset, .unset] [])) tg9 := fun tg9 kt => by
        refine pr114 _ ?_
        show Steps p.tables e below (T111.setTop (mkF m 14 #[.val (.ref a1), .val (.int ((p2 + (1 : Int32)) + (1 : Int32))), .val (.ref a3), .val (.int (2 : Int32)), .val (.int p5), .val (.int (2 : Int32)), .val (.int ((own_sh f p2) 1))] [(.int p5), (.int (2 : Int32))])) _
        refine XS.icmpNo X111.here hx rfl (hb hby d35_14) rfl (tlt hc115).2.1 ?_
        show Steps p.tables e below (T111.setTop (mkF m 17 #[.val (.ref a1), .val (.int ((p2 + (1 : Int32)) + (1 : Int32))), .val (.ref a3), .val (.int (2 : Int32)), .val (.int p5), .val (.int (2 : Int32)), .val (.int ((own_sh f p2) 1))] [])) _
        refine XS.aloadN X111.here hx rfl (hb hby d35_17) rfl rfl ?_
        show Steps p.tables e below (T111.setTop (mkF m 18 #[.val (.ref a1), .val (.int ((p2 + (1 : Int32)) + (1 : Int32))), .val (.ref a3), .val (.int (2 : Int32)), .val (.int p5), .val (.int (2 : Int32)), .val (.int ((own_sh f p2) 1))] [(.ref a1)])) _
        refine XS.iloadN X111.here hx rfl (hb hby d35_18) rfl ?_
        show Steps p.tables e below (T111.setTop (mkF m 19 #[.val (.ref a1), .val (.int ((p2 + (1 : Int32)) + (1 : Int32))), .val (.ref a3), .val (.int (2 : Int32)), .val (.int p5), .val (.int (2 : Int32)), .val (.int ((own_sh f p2) 1))] [(.int ((p2 + (1 : Int32)) + (1 : Int32))), (.ref a1)])) _
        refine st116 _ ?_
        show Steps p.tables e below (T116.setTop (mkF m 22 #[.val (.ref a1), .val (.int ((p2 + (1 : Int32)) + (1 : Int32))), .val (.ref a3), .val (.int (2 : Int32)), .val (.int p5), .val (.int (2 : Int32)), .val (.int ((own_sh f p2) 1))] [(.int ((own_sh f p2) 2))])) _
        refine XS.istore X116.here hx rfl (hb hby d35_22) rfl (l' := #[.val (.ref a1), .val (.int ((p2 + (1 : Int32)) + (1 : Int32))), .val (.ref a3), .val (.int (2 : Int32)), .val (.int p5), .val (.int (2 : Int32)), .val (.int ((own_sh f p2) 2))]) rfl ?_
        show Steps p.tables e below (T116.setTop (mkF m 24 #[.val (.ref a1), .val (.int ((p2 + (1 : Int32)) + (1 : Int32))), .val (.ref a3), .val (.int (2 : Int32)), .val (.int p5), .val (.int (2 : Int32)), .val (.int ((own_sh f p2) 2))] [])) _
        refine XS.iload X116.here hx rfl (hb hby d35_24) rfl ?_
        show Steps p.tables e below (T116.setTop (mkF m 26 #[.val (.ref a1), .val (.int ((p2 + (1 : Int32)) + (1 : Int32))), .val (.ref a3), .val (.int (2 : Int32)), .val (.int p5), .val (.int (2 : Int32)), .val (.int ((own_sh f p2) 2))] [(.int ((own_sh f p2) 2))])) _
        refine XS.sipush X116.here hx rfl (hb hby d35_26) ?_
        show Steps p.tables e below (T116.setTop (mkF m 29 #[.val (.ref a1), .val (.int ((p2 + (1 : Int32)) + (1 : Int32))), .val (.ref a3), .val (.int (2 : Int32)), .val (.int p5), .val (.int (2 : Int32)), .val (.int ((own_sh f p2) 2))] [(.int (255 : Int32)), (.int ((own_sh f p2) 2))])) _
        refine XS.icmpYes X116.here hx rfl (pc0 := 29) (pc' := 35) rfl (hb hby d35_29) rfl (flt (hl 2 (own_ixlt (i := (2 : Int32)) ⟨by decide, hc115⟩) : ¬ ((255 : Int32) < ((own_sh f p2) 2)))).2.2.2 (by decide) (by decide) ?_
        show Steps p.tables e below (T116.setTop (mkF m 35 #[.val (.ref a1), .val (.int ((p2 + (1 : Int32)) + (1 : Int32))), .val (.ref a3), .val (.int (2 : Int32)), .val (.int p5), .val (.int (2 : Int32)), .val (.int ((own_sh f p2) 2))] [])) _
        refine XS.aloadN X116.here hx rfl (hb hby d35_35) rfl rfl ?_
        show Steps p.tables e below (T116.setTop (mkF m 36 #[.val (.ref a1), .val (.int ((p2 + (1 : Int32)) + (1 : Int32))), .val (.ref a3), .val (.int (2 : Int32)), .val (.int p5), .val (.int (2 : Int32)), .val (.int ((own_sh f p2) 2))] [(.ref a3)])) _
        refine XS.iloadN X116.here hx rfl (hb hby d35_36) rfl ?_
        show Steps p.tables e below (T116.setTop (mkF m 37 #[.val (.ref a1), .val (.int ((p2 + (1 : Int32)) + (1 : Int32))), .val (.ref a3), .val (.int (2 : Int32)), .val (.int p5), .val (.int (2 : Int32)), .val (.int ((own_sh f p2) 2))] [(.int (2 : Int32)), (.ref a3)])) _
        refine XS.iload X116.here hx rfl (hb hby d35_37) rfl ?_
        show Steps p.tables e below (T116.setTop (mkF m 39 #[.val (.ref a1), .val (.int ((p2 + (1 : Int32)) + (1 : Int32))), .val (.ref a3), .val (.int (2 : Int32)), .val (.int p5), .val (.int (2 : Int32)), .val (.int ((own_sh f p2) 2))] [(.int ((own_sh f p2) 2)), (.int (2 : Int32)), (.ref a3)])) _
        refine XS.i2b X116.here hx rfl (hb hby d35_39) rfl ?_
        show Steps p.tables e below (T116.setTop (mkF m 40 #[.val (.ref a1), .val (.int ((p2 + (1 : Int32)) + (1 : Int32))), .val (.ref a3), .val (.int (2 : Int32)), .val (.int p5), .val (.int (2 : Int32)), .val (.int ((own_sh f p2) 2))] [(.int (((own_sh f p2) 2).toInt8.toInt32)), (.int (2 : Int32)), (.ref a3)])) _
        refine st118 _ ?_
        show Steps p.tables e below (T118.setTop (mkF m 41 #[.val (.ref a1), .val (.int ((p2 + (1 : Int32)) + (1 : Int32))), .val (.ref a3), .val (.int (2 : Int32)), .val (.int p5), .val (.int (2 : Int32)), .val (.int ((own_sh f p2) 2))] [])) _
        refine XS.iinc X118.here hx rfl (hb hby d35_41) rfl (l' := #[.val (.ref a1), .val (.int (((p2 + (1 : Int32)) + (1 : Int32)) + (1 : Int32))), .val (.ref a3), .val (.int (2 : Int32)), .val (.int p5), .val (.int (2 : Int32)), .val (.int ((own_sh f p2) 2))]) rfl ?_
        show Steps p.tables e below (T118.setTop (mkF m 44 #[.val (.ref a1), .val (.int (((p2 + (1 : Int32)) + (1 : Int32)) + (1 : Int32))), .val (.ref a3), .val (.int (2 : Int32)), .val (.int p5), .val (.int (2 : Int32)), .val (.int ((own_sh f p2) 2))] [])) _
        refine XS.iinc X118.here hx rfl (hb hby d35_44) rfl (l' := #[.val (.ref a1), .val (.int (((p2 + (1 : Int32)) + (1 : Int32)) + (1 : Int32))), .val (.ref a3), .val (.int (3 : Int32)), .val (.int p5), .val (.int (2 : Int32)), .val (.int ((own_sh f p2) 2))]) rfl ?_
        show Steps p.tables e below (T118.setTop (mkF m 47 #[.val (.ref a1), .val (.int (((p2 + (1 : Int32)) + (1 : Int32)) + (1 : Int32))), .val (.ref a3), .val (.int (3 : Int32)), .val (.int p5), .val (.int (2 : Int32)), .val (.int ((own_sh f p2) 2))] [])) _
        refine XS.iinc X118.here hx rfl (hb hby d35_47) rfl (l' := #[.val (.ref a1), .val (.int (((p2 + (1 : Int32)) + (1 : Int32)) + (1 : Int32))), .val (.ref a3), .val (.int (3 : Int32)), .val (.int p5), .val (.int (3 : Int32)), .val (.int ((own_sh f p2) 2))]) rfl ?_
        show Steps p.tables e below (T118.setTop (mkF m 50 #[.val (.ref a1), .val (.int (((p2 + (1 : Int32)) + (1 : Int32)) + (1 : Int32))), .val (.ref a3), .val (.int (3 : Int32)), .val (.int p5), .val (.int (3 : Int32)), .val (.int ((own_sh f p2) 2))] [])) _
        refine XS.goto X118.here hx rfl (pc0 := 50) (pc' := 10) rfl (hb hby d35_50) (by decide) (by decide) ?_
        show Steps p.tables e below (T118.setTop (mkF m 10 #[.val (.ref a1), .val (.int (((p2 + (1 : Int32)) + (1 : Int32)) + (1 : Int32))), .val (.ref a3), .val (.int (3 : Int32)), .val (.int p5), .val (.int (3 : Int32)), .val (.int ((own_sh f p2) 2))] [])) _
        refine XS.iload X118.here hx rfl (hb hby d35_10) rfl ?_
        show Steps p.tables e below (T118.setTop (mkF m 12 #[.val (.ref a1), .val (.int (((p2 + (1 : Int32)) + (1 : Int32)) + (1 : Int32))), .val (.ref a3), .val (.int (3 : Int32)), .val (.int p5), .val (.int (3 : Int32)), .val (.int ((own_sh f p2) 2))] [(.int (3 : Int32))])) _
        refine XS.iload X118.here hx rfl (hb hby d35_12) rfl ?_
        exact kt
      by_cases hc122 : (3 : Int32) < p5
      · obtain ⟨_, _, ⟨T123, L123, k123, n123⟩, -, X123, ⟨Lc123, hQ123, l123, y123, z123⟩, st123⟩ := Jvm.LawKit.callS X118 hx (y := (⟨"java/lang/StringUTF16", "getChar", "([BI)C"⟩ : MethodName)) hown0 (mvT hZ0 (hw _ (List.mem_of_getElem? (i := 153) rfl))) (mvT hZ0 (hw _ (List.mem_of_getElem? (i := 154) rfl))) (mvT hZ0 (hw _ (List.mem_of_getElem? (i := 18) rfl))) (mvT hZ0 (hw _ (List.mem_of_getElem? (i := 155) rfl))) (by decide) (backOf (W := 0) (rm32 l Z a0 hw [] a1 (((p2 + (1 : Int32)) + (1 : Int32)) + (1 : Int32)) w n f h118 n0 Zs118 f119 S0 hw0 SA SHI SLO FM f120 sm ((own_e3 (P := fun o l n => (3 : Int32) < l → own_ix (((o + (1 : Int32)) + (1 : Int32)) + (1 : Int32)) n) sm rg (by decide +kernel)) hc122) hf) hZ0 (hw _ (List.mem_of_getElem? (i := 155) rfl)) (hw _ (List.mem_of_getElem? (i := 18) rfl)) (by decide) (by decide)) (g := (mkF m 19 #[.val (.ref a1), .val (.int (((p2 + (1 : Int32)) + (1 : Int32)) + (1 : Int32))), .val (.ref a3), .val (.int (3 : Int32)), .val (.int p5), .val (.int (3 : Int32)), .val (.int ((own_sh f p2) 2))] [(.int (((p2 + (1 : Int32)) + (1 : Int32)) + (1 : Int32))), (.ref a1)])) rfl (by rw [hml]; rfl) (argsL := [(.ref a1), (.int (((p2 + (1 : Int32)) + (1 : Int32)) + (1 : Int32)))]) (rest := []) (lenOf pd_4 rfl) rfl (by show 2 * 0 + _ ≤ _; exact Nat.le_of_eq rfl) (hb hby d35_19) (fun _ _ => ⟨rfl, e118, (by decide : 0 + 0 ≤ _), (by decide : 0 + 0 ≤ _)⟩)
        dsimp only [Pt.U, Pt.locs, Pt.cells, Pt.slots] at X123 l123 y123 z123 st123 hQ123
        subst l123 y123 z123
        obtain ⟨hv123, N123q, P123_0⟩ := hQ123
        obtain rfl := hv123.trans (congrArg (fun z => some (Value.int z)) (congrArg f ((own_e3 (P := fun o l n => (3 : Int32) < l → ((((o + (1 : Int32)) + (1 : Int32)) + (1 : Int32))).toNatClampNeg = o.toNatClampNeg + 3) sm rg (by decide +kernel)) hc122) : (f (((p2 + (1 : Int32)) + (1 : Int32)) + (1 : Int32)).toNatClampNeg) = ((own_sh f p2) 3)))
        have N123 := Fr.app N118 N123q
        obtain ⟨cl124, Ar124, Sz124, Nn124, Hs124⟩ := (id v118)
        obtain ⟨T125, h125, X125, e125, W125, st125⟩ := stB X123 hx hZ0 P123_0 Ar124 (j := (3 : Int32)) (inb_of Sz124 ⟨by decide, hc122⟩) (g := (mkF m 40 #[.val (.ref a1), .val (.int (((p2 + (1 : Int32)) + (1 : Int32)) + (1 : Int32))), .val (.ref a3), .val (.int (3 : Int32)), .val (.int p5), .val (.int (3 : Int32)), .val (.int ((own_sh f p2) 3))] [(.int (((own_sh f p2) 3).toInt8.toInt32)), (.int (3 : Int32)), (.ref a3)])) rfl rfl (hb hby d35_40)
        have f126 : Old Z n0 h125 := f119.wr W125 g3
        have f127 : OwnU Z h125 a1 n f := OwnU.other f120 W125 n13
        have Zs125 : n0 ≤ h125.size := Nat.le_trans Zs118 (Keep.of_wr W125).1
        have N125 := Fr.snoc X125 N123 g3
        have K125 : Keep h0 h125 [a3] := K118.wr W125 (Or.inl (List.mem_of_getElem? (i := 0) rfl))
        have v125 : OwnB Z h125 a3 p5 4 (own_sh f p2) := (OwnB.put Ar124 Sz124 Nn124 Hs124 (inb_of Sz124 ⟨by decide, hc122⟩) W125 (by decide) rfl)
        have pr128 : ∀ tg9, Steps p.tables e below (T125.setTop (mkF m 14 #[.val (.ref a1), .val (.int ((((p2 + (1 : Int32)) + (1 : Int32)) + (1 : Int32)) + (1 : Int32))), .val (.ref a3), .val (.int (4 : Int32)), .val (.int p5), .val (.int (4 : Int32)), .val (.int ((own_sh f p2) 3))] [(.int p5), (.int (4 : Int32))])) tg9 → Steps p.tables e below (s₁.setTop (mkF m 0 #[.val (.ref a1), .val (.int p2), .val (.ref a3), .val (.int (0 : Int32)), .val (.int p5), .unset, .unset] [])) tg9 := fun tg9 kt => by
          refine pr121 _ ?_
          show Steps p.tables e below (T118.setTop (mkF m 14 #[.val (.ref a1), .val (.int (((p2 + (1 : Int32)) + (1 : Int32)) + (1 : Int32))), .val (.ref a3), .val (.int (3 : Int32)), .val (.int p5), .val (.int (3 : Int32)), .val (.int ((own_sh f p2) 2))] [(.int p5), (.int (3 : Int32))])) _
          refine XS.icmpNo X118.here hx rfl (hb hby d35_14) rfl (tlt hc122).2.1 ?_
          show Steps p.tables e below (T118.setTop (mkF m 17 #[.val (.ref a1), .val (.int (((p2 + (1 : Int32)) + (1 : Int32)) + (1 : Int32))), .val (.ref a3), .val (.int (3 : Int32)), .val (.int p5), .val (.int (3 : Int32)), .val (.int ((own_sh f p2) 2))] [])) _
          refine XS.aloadN X118.here hx rfl (hb hby d35_17) rfl rfl ?_
          show Steps p.tables e below (T118.setTop (mkF m 18 #[.val (.ref a1), .val (.int (((p2 + (1 : Int32)) + (1 : Int32)) + (1 : Int32))), .val (.ref a3), .val (.int (3 : Int32)), .val (.int p5), .val (.int (3 : Int32)), .val (.int ((own_sh f p2) 2))] [(.ref a1)])) _
          refine XS.iloadN X118.here hx rfl (hb hby d35_18) rfl ?_
          show Steps p.tables e below (T118.setTop (mkF m 19 #[.val (.ref a1), .val (.int (((p2 + (1 : Int32)) + (1 : Int32)) + (1 : Int32))), .val (.ref a3), .val (.int (3 : Int32)), .val (.int p5), .val (.int (3 : Int32)), .val (.int ((own_sh f p2) 2))] [(.int (((p2 + (1 : Int32)) + (1 : Int32)) + (1 : Int32))), (.ref a1)])) _
          refine st123 _ ?_
          show Steps p.tables e below (T123.setTop (mkF m 22 #[.val (.ref a1), .val (.int (((p2 + (1 : Int32)) + (1 : Int32)) + (1 : Int32))), .val (.ref a3), .val (.int (3 : Int32)), .val (.int p5), .val (.int (3 : Int32)), .val (.int ((own_sh f p2) 2))] [(.int ((own_sh f p2) 3))])) _
          refine XS.istore X123.here hx rfl (hb hby d35_22) rfl (l' := #[.val (.ref a1), .val (.int (((p2 + (1 : Int32)) + (1 : Int32)) + (1 : Int32))), .val (.ref a3), .val (.int (3 : Int32)), .val (.int p5), .val (.int (3 : Int32)), .val (.int ((own_sh f p2) 3))]) rfl ?_
          show Steps p.tables e below (T123.setTop (mkF m 24 #[.val (.ref a1), .val (.int (((p2 + (1 : Int32)) + (1 : Int32)) + (1 : Int32))), .val (.ref a3), .val (.int (3 : Int32)), .val (.int p5), .val (.int (3 : Int32)), .val (.int ((own_sh f p2) 3))] [])) _
          refine XS.iload X123.here hx rfl (hb hby d35_24) rfl ?_
          show Steps p.tables e below (T123.setTop (mkF m 26 #[.val (.ref a1), .val (.int (((p2 + (1 : Int32)) + (1 : Int32)) + (1 : Int32))), .val (.ref a3), .val (.int (3 : Int32)), .val (.int p5), .val (.int (3 : Int32)), .val (.int ((own_sh f p2) 3))] [(.int ((own_sh f p2) 3))])) _
          refine XS.sipush X123.here hx rfl (hb hby d35_26) ?_
          show Steps p.tables e below (T123.setTop (mkF m 29 #[.val (.ref a1), .val (.int (((p2 + (1 : Int32)) + (1 : Int32)) + (1 : Int32))), .val (.ref a3), .val (.int (3 : Int32)), .val (.int p5), .val (.int (3 : Int32)), .val (.int ((own_sh f p2) 3))] [(.int (255 : Int32)), (.int ((own_sh f p2) 3))])) _
          refine XS.icmpYes X123.here hx rfl (pc0 := 29) (pc' := 35) rfl (hb hby d35_29) rfl (flt (hl 3 (own_ixlt (i := (3 : Int32)) ⟨by decide, hc122⟩) : ¬ ((255 : Int32) < ((own_sh f p2) 3)))).2.2.2 (by decide) (by decide) ?_
          show Steps p.tables e below (T123.setTop (mkF m 35 #[.val (.ref a1), .val (.int (((p2 + (1 : Int32)) + (1 : Int32)) + (1 : Int32))), .val (.ref a3), .val (.int (3 : Int32)), .val (.int p5), .val (.int (3 : Int32)), .val (.int ((own_sh f p2) 3))] [])) _
          refine XS.aloadN X123.here hx rfl (hb hby d35_35) rfl rfl ?_
          show Steps p.tables e below (T123.setTop (mkF m 36 #[.val (.ref a1), .val (.int (((p2 + (1 : Int32)) + (1 : Int32)) + (1 : Int32))), .val (.ref a3), .val (.int (3 : Int32)), .val (.int p5), .val (.int (3 : Int32)), .val (.int ((own_sh f p2) 3))] [(.ref a3)])) _
          refine XS.iloadN X123.here hx rfl (hb hby d35_36) rfl ?_
          show Steps p.tables e below (T123.setTop (mkF m 37 #[.val (.ref a1), .val (.int (((p2 + (1 : Int32)) + (1 : Int32)) + (1 : Int32))), .val (.ref a3), .val (.int (3 : Int32)), .val (.int p5), .val (.int (3 : Int32)), .val (.int ((own_sh f p2) 3))] [(.int (3 : Int32)), (.ref a3)])) _
          refine XS.iload X123.here hx rfl (hb hby d35_37) rfl ?_
          show Steps p.tables e below (T123.setTop (mkF m 39 #[.val (.ref a1), .val (.int (((p2 + (1 : Int32)) + (1 : Int32)) + (1 : Int32))), .val (.ref a3), .val (.int (3 : Int32)), .val (.int p5), .val (.int (3 : Int32)), .val (.int ((own_sh f p2) 3))] [(.int ((own_sh f p2) 3)), (.int (3 : Int32)), (.ref a3)])) _
          refine XS.i2b X123.here hx rfl (hb hby d35_39) rfl ?_
          show Steps p.tables e below (T123.setTop (mkF m 40 #[.val (.ref a1), .val (.int (((p2 + (1 : Int32)) + (1 : Int32)) + (1 : Int32))), .val (.ref a3), .val (.int (3 : Int32)), .val (.int p5), .val (.int (3 : Int32)), .val (.int ((own_sh f p2) 3))] [(.int (((own_sh f p2) 3).toInt8.toInt32)), (.int (3 : Int32)), (.ref a3)])) _
          refine st125 _ ?_
          show Steps p.tables e below (T125.setTop (mkF m 41 #[.val (.ref a1), .val (.int (((p2 + (1 : Int32)) + (1 : Int32)) + (1 : Int32))), .val (.ref a3), .val (.int (3 : Int32)), .val (.int p5), .val (.int (3 : Int32)), .val (.int ((own_sh f p2) 3))] [])) _
          refine XS.iinc X125.here hx rfl (hb hby d35_41) rfl (l' := #[.val (.ref a1), .val (.int ((((p2 + (1 : Int32)) + (1 : Int32)) + (1 : Int32)) + (1 : Int32))), .val (.ref a3), .val (.int (3 : Int32)), .val (.int p5), .val (.int (3 : Int32)), .val (.int ((own_sh f p2) 3))]) rfl ?_
          show Steps p.tables e below (T125.setTop (mkF m 44 #[.val (.ref a1), .val (.int ((((p2 + (1 : Int32)) + (1 : Int32)) + (1 : Int32)) + (1 : Int32))), .val (.ref a3), .val (.int (3 : Int32)), .val (.int p5), .val (.int (3 : Int32)), .val (.int ((own_sh f p2) 3))] [])) _
          refine XS.iinc X125.here hx rfl (hb hby d35_44) rfl (l' := #[.val (.ref a1), .val (.int ((((p2 + (1 : Int32)) + (1 : Int32)) + (1 : Int32)) + (1 : Int32))), .val (.ref a3), .val (.int (4 : Int32)), .val (.int p5), .val (.int (3 : Int32)), .val (.int ((own_sh f p2) 3))]) rfl ?_
          show Steps p.tables e below (T125.setTop (mkF m 47 #[.val (.ref a1), .val (.int ((((p2 + (1 : Int32)) + (1 : Int32)) + (1 : Int32)) + (1 : Int32))), .val (.ref a3), .val (.int (4 : Int32)), .val (.int p5), .val (.int (3 : Int32)), .val (.int ((own_sh f p2) 3))] [])) _
          refine XS.iinc X125.here hx rfl (hb hby d35_47) rfl (l' := #[.val (.ref a1), .val (.int ((((p2 + (1 : Int32)) + (1 : Int32)) + (1 : Int32)) + (1 : Int32))), .val (.ref a3), .val (.int (4 : Int32)), .val (.int p5), .val (.int (4 : Int32)), .val (.int ((own_sh f p2) 3))]) rfl ?_
          show Steps p.tables e below (T125.setTop (mkF m 50 #[.val (.ref a1), .val (.int ((((p2 + (1 : Int32)) + (1 : Int32)) + (1 : Int32)) + (1 : Int32))), .val (.ref a3), .val (.int (4 : Int32)), .val (.int p5), .val (.int (4 : Int32)), .val (.int ((own_sh f p2) 3))] [])) _
          refine XS.goto X125.here hx rfl (pc0 := 50) (pc' := 10) rfl (hb hby d35_50) (by decide) (by decide) ?_
          show Steps p.tables e below (T125.setTop (mkF m 10 #[.val (.ref a1), .val (.int ((((p2 + (1 : Int32)) + (1 : Int32)) + (1 : Int32)) + (1 : Int32))), .val (.ref a3), .val (.int (4 : Int32)), .val (.int p5), .val (.int (4 : Int32)), .val (.int ((own_sh f p2) 3))] [])) _
          refine XS.iload X125.here hx rfl (hb hby d35_10) rfl ?_
          show Steps p.tables e below (T125.setTop (mkF m 12 #[.val (.ref a1), .val (.int ((((p2 + (1 : Int32)) + (1 : Int32)) + (1 : Int32)) + (1 : Int32))), .val (.ref a3), .val (.int (4 : Int32)), .val (.int p5), .val (.int (4 : Int32)), .val (.int ((own_sh f p2) 3))] [(.int (4 : Int32))])) _
          refine XS.iload X125.here hx rfl (hb hby d35_12) rfl ?_
          exact kt
        by_cases hc129 : (4 : Int32) < p5
        · obtain ⟨_, _, ⟨T130, L130, k130, n130⟩, -, X130, ⟨Lc130, hQ130, l130, y130, z130⟩, st130⟩ := Jvm.LawKit.callS X125 hx (y := (⟨"java/lang/StringUTF16", "getChar", "([BI)C"⟩ : MethodName)) hown0 (mvT hZ0 (hw _ (List.mem_of_getElem? (i := 153) rfl))) (mvT hZ0 (hw _ (List.mem_of_getElem? (i := 154) rfl))) (mvT hZ0 (hw _ (List.mem_of_getElem? (i := 18) rfl))) (mvT hZ0 (hw _ (List.mem_of_getElem? (i := 155) rfl))) (by decide) (backOf (W := 0) (rm32 l Z a0 hw [] a1 ((((p2 + (1 : Int32)) + (1 : Int32)) + (1 : Int32)) + (1 : Int32)) w n f h125 n0 Zs125 f126 S0 hw0 SA SHI SLO FM f127 sm ((own_e3 (P := fun o l n => (4 : Int32) < l → own_ix ((((o + (1 : Int32)) + (1 : Int32)) + (1 : Int32)) + (1 : Int32)) n) sm rg (by decide +kernel)) hc129) hf) hZ0 (hw _ (List.mem_of_getElem? (i := 155) rfl)) (hw _ (List.mem_of_getElem? (i := 18) rfl)) (by decide) (by decide)) (g := (mkF m 19 #[.val (.ref a1), .val (.int ((((p2 + (1 : Int32)) + (1 : Int32)) + (1 : Int32)) + (1 : Int32))), .val (.ref a3), .val (.int (4 : Int32)), .val (.int p5), .val (.int (4 : Int32)), .val (.int ((own_sh f p2) 3))] [(.int ((((p2 + (1 : Int32)) + (1 : Int32)) + (1 : Int32)) + (1 : Int32))), (.ref a1)])) rfl (by rw [hml]; rfl) (argsL := [(.ref a1), (.int ((((p2 + (1 : Int32)) + (1 : Int32)) + (1 : Int32)) + (1 : Int32)))]) (rest := []) (lenOf pd_4 rfl) rfl (by show 2 * 0 + _ ≤ _; exact Nat.le_of_eq rfl) (hb hby d35_19) (fun _ _ => ⟨rfl, e125, (by decide : 0 + 0 ≤ _), (by decide : 0 + 0 ≤ _)⟩)
          dsimp only [Pt.U, Pt.locs, Pt.cells, Pt.slots] at X130 l130 y130 z130 st130 hQ130
          subst l130 y130 z130
          obtain ⟨hv130, N130q, P130_0⟩ := hQ130
          obtain rfl := hv130.trans (congrArg (fun z => some (Value.int z)) (congrArg f ((own_e3 (P := fun o l n => (4 : Int32) < l → (((((o + (1 : Int32)) + (1 : Int32)) + (1 : Int32)) + (1 : Int32))).toNatClampNeg = o.toNatClampNeg + 4) sm rg (by decide +kernel)) hc129) : (f ((((p2 + (1 : Int32)) + (1 : Int32)) + (1 : Int32)) + (1 : Int32)).toNatClampNeg) = ((own_sh f p2) 4)))
          have N130 := Fr.app N125 N130q
          obtain ⟨cl131, Ar131, Sz131, Nn131, Hs131⟩ := (id v125)
          obtain ⟨T132, h132, X132, e132, W132, st132⟩ := stB X130 hx hZ0 P130_0 Ar131 (j := (4 : Int32)) (inb_of Sz131 ⟨by decide, hc129⟩) (g := (mkF m 40 #[.val (.ref a1), .val (.int ((((p2 + (1 : Int32)) + (1 : Int32)) + (1 : Int32)) + (1 : Int32))), .val (.ref a3), .val (.int (4 : Int32)), .val (.int p5), .val (.int (4 : Int32)), .val (.int ((own_sh f p2) 4))] [(.int (((own_sh f p2) 4).toInt8.toInt32)), (.int (4 : Int32)), (.ref a3)])) rfl rfl (hb hby d35_40)
          have f133 : Old Z n0 h132 := f126.wr W132 g3
          have f134 : OwnU Z h132 a1 n f := OwnU.other f127 W132 n13
          have Zs132 : n0 ≤ h132.size := Nat.le_trans Zs125 (Keep.of_wr W132).1
          have N132 := Fr.snoc X132 N130 g3
          have K132 : Keep h0 h132 [a3] := K125.wr W132 (Or.inl (List.mem_of_getElem? (i := 0) rfl))
          have v132 : OwnB Z h132 a3 p5 5 (own_sh f p2) := (OwnB.put Ar131 Sz131 Nn131 Hs131 (inb_of Sz131 ⟨by decide, hc129⟩) W132 (by decide) rfl)
          obtain ⟨fs, hr, hrun, hended, hW, hsame⟩ := X132.leave (v := some (.int p5)) (fun h => by rw [Bd.returns] at h; cases h) hlk
          refine ⟨_, _, pre0 _ ?_, hrun, hended, _, _, rfl, ?_, ⟨_, rfl⟩, hW, hsame.mono (by decide) (by decide)⟩
          · refine pr128 _ ?_
            show Steps p.tables e below (T125.setTop (mkF m 14 #[.val (.ref a1), .val (.int ((((p2 + (1 : Int32)) + (1 : Int32)) + (1 : Int32)) + (1 : Int32))), .val (.ref a3), .val (.int (4 : Int32)), .val (.int p5), .val (.int (4 : Int32)), .val (.int ((own_sh f p2) 3))] [(.int p5), (.int (4 : Int32))])) _
            refine XS.icmpNo X125.here hx rfl (hb hby d35_14) rfl (tlt hc129).2.1 ?_
            show Steps p.tables e below (T125.setTop (mkF m 17 #[.val (.ref a1), .val (.int ((((p2 + (1 : Int32)) + (1 : Int32)) + (1 : Int32)) + (1 : Int32))), .val (.ref a3), .val (.int (4 : Int32)), .val (.int p5), .val (.int (4 : Int32)), .val (.int ((own_sh f p2) 3))] [])) _
            refine XS.aloadN X125.here hx rfl (hb hby d35_17) rfl rfl ?_
            show Steps p.tables e below (T125.setTop (mkF m 18 #[.val (.ref a1), .val (.int ((((p2 + (1 : Int32)) + (1 : Int32)) + (1 : Int32)) + (1 : Int32))), .val (.ref a3), .val (.int (4 : Int32)), .val (.int p5), .val (.int (4 : Int32)), .val (.int ((own_sh f p2) 3))] [(.ref a1)])) _
            refine XS.iloadN X125.here hx rfl (hb hby d35_18) rfl ?_
            show Steps p.tables e below (T125.setTop (mkF m 19 #[.val (.ref a1), .val (.int ((((p2 + (1 : Int32)) + (1 : Int32)) + (1 : Int32)) + (1 : Int32))), .val (.ref a3), .val (.int (4 : Int32)), .val (.int p5), .val (.int (4 : Int32)), .val (.int ((own_sh f p2) 3))] [(.int ((((p2 + (1 : Int32)) + (1 : Int32)) + (1 : Int32)) + (1 : Int32))), (.ref a1)])) _
            refine st130 _ ?_
            show Steps p.tables e below (T130.setTop (mkF m 22 #[.val (.ref a1), .val (.int ((((p2 + (1 : Int32)) + (1 : Int32)) + (1 : Int32)) + (1 : Int32))), .val (.ref a3), .val (.int (4 : Int32)), .val (.int p5), .val (.int (4 : Int32)), .val (.int ((own_sh f p2) 3))] [(.int ((own_sh f p2) 4))])) _
            refine XS.istore X130.here hx rfl (hb hby d35_22) rfl (l' := #[.val (.ref a1), .val (.int ((((p2 + (1 : Int32)) + (1 : Int32)) + (1 : Int32)) + (1 : Int32))), .val (.ref a3), .val (.int (4 : Int32)), .val (.int p5), .val (.int (4 : Int32)), .val (.int ((own_sh f p2) 4))]) rfl ?_
            show Steps p.tables e below (T130.setTop (mkF m 24 #[.val (.ref a1), .val (.int ((((p2 + (1 : Int32)) + (1 : Int32)) + (1 : Int32)) + (1 : Int32))), .val (.ref a3), .val (.int (4 : Int32)), .val (.int p5), .val (.int (4 : Int32)), .val (.int ((own_sh f p2) 4))] [])) _
            refine XS.iload X130.here hx rfl (hb hby d35_24) rfl ?_
            show Steps p.tables e below (T130.setTop (mkF m 26 #[.val (.ref a1), .val (.int ((((p2 + (1 : Int32)) + (1 : Int32)) + (1 : Int32)) + (1 : Int32))), .val (.ref a3), .val (.int (4 : Int32)), .val (.int p5), .val (.int (4 : Int32)), .val (.int ((own_sh f p2) 4))] [(.int ((own_sh f p2) 4))])) _
            refine XS.sipush X130.here hx rfl (hb hby d35_26) ?_
            show Steps p.tables e below (T130.setTop (mkF m 29 #[.val (.ref a1), .val (.int ((((p2 + (1 : Int32)) + (1 : Int32)) + (1 : Int32)) + (1 : Int32))), .val (.ref a3), .val (.int (4 : Int32)), .val (.int p5), .val (.int (4 : Int32)), .val (.int ((own_sh f p2) 4))] [(.int (255 : Int32)), (.int ((own_sh f p2) 4))])) _
            refine XS.icmpYes X130.here hx rfl (pc0 := 29) (pc' := 35) rfl (hb hby d35_29) rfl (flt (hl 4 (own_ixlt (i := (4 : Int32)) ⟨by decide, hc129⟩) : ¬ ((255 : Int32) < ((own_sh f p2) 4)))).2.2.2 (by decide) (by decide) ?_
            show Steps p.tables e below (T130.setTop (mkF m 35 #[.val (.ref a1), .val (.int ((((p2 + (1 : Int32)) + (1 : Int32)) + (1 : Int32)) + (1 : Int32))), .val (.ref a3), .val (.int (4 : Int32)), .val (.int p5), .val (.int (4 : Int32)), .val (.int ((own_sh f p2) 4))] [])) _
            refine XS.aloadN X130.here hx rfl (hb hby d35_35) rfl rfl ?_
            show Steps p.tables e below (T130.setTop (mkF m 36 #[.val (.ref a1), .val (.int ((((p2 + (1 : Int32)) + (1 : Int32)) + (1 : Int32)) + (1 : Int32))), .val (.ref a3), .val (.int (4 : Int32)), .val (.int p5), .val (.int (4 : Int32)), .val (.int ((own_sh f p2) 4))] [(.ref a3)])) _
            refine XS.iloadN X130.here hx rfl (hb hby d35_36) rfl ?_
            show Steps p.tables e below (T130.setTop (mkF m 37 #[.val (.ref a1), .val (.int ((((p2 + (1 : Int32)) + (1 : Int32)) + (1 : Int32)) + (1 : Int32))), .val (.ref a3), .val (.int (4 : Int32)), .val (.int p5), .val (.int (4 : Int32)), .val (.int ((own_sh f p2) 4))] [(.int (4 : Int32)), (.ref a3)])) _
            refine XS.iload X130.here hx rfl (hb hby d35_37) rfl ?_
            show Steps p.tables e below (T130.setTop (mkF m 39 #[.val (.ref a1), .val (.int ((((p2 + (1 : Int32)) + (1 : Int32)) + (1 : Int32)) + (1 : Int32))), .val (.ref a3), .val (.int (4 : Int32)), .val (.int p5), .val (.int (4 : Int32)), .val (.int ((own_sh f p2) 4))] [(.int ((own_sh f p2) 4)), (.int (4 : Int32)), (.ref a3)])) _
            refine XS.i2b X130.here hx rfl (hb hby d35_39) rfl ?_
            show Steps p.tables e below (T130.setTop (mkF m 40 #[.val (.ref a1), .val (.int ((((p2 + (1 : Int32)) + (1 : Int32)) + (1 : Int32)) + (1 : Int32))), .val (.ref a3), .val (.int (4 : Int32)), .val (.int p5), .val (.int (4 : Int32)), .val (.int ((own_sh f p2) 4))] [(.int (((own_sh f p2) 4).toInt8.toInt32)), (.int (4 : Int32)), (.ref a3)])) _
            refine st132 _ ?_
            show Steps p.tables e below (T132.setTop (mkF m 41 #[.val (.ref a1), .val (.int ((((p2 + (1 : Int32)) + (1 : Int32)) + (1 : Int32)) + (1 : Int32))), .val (.ref a3), .val (.int (4 : Int32)), .val (.int p5), .val (.int (4 : Int32)), .val (.int ((own_sh f p2) 4))] [])) _
            refine XS.iinc X132.here hx rfl (hb hby d35_41) rfl (l' := #[.val (.ref a1), .val (.int (((((p2 + (1 : Int32)) + (1 : Int32)) + (1 : Int32)) + (1 : Int32)) + (1 : Int32))), .val (.ref a3), .val (.int (4 : Int32)), .val (.int p5), .val (.int (4 : Int32)), .val (.int ((own_sh f p2) 4))]) rfl ?_
            show Steps p.tables e below (T132.setTop (mkF m 44 #[.val (.ref a1), .val (.int (((((p2 + (1 : Int32)) + (1 : Int32)) + (1 : Int32)) + (1 : Int32)) + (1 : Int32))), .val (.ref a3), .val (.int (4 : Int32)), .val (.int p5), .val (.int (4 : Int32)), .val (.int ((own_sh f p2) 4))] [])) _
            refine XS.iinc X132.here hx rfl (hb hby d35_44) rfl (l' := #[.val (.ref a1), .val (.int (((((p2 + (1 : Int32)) + (1 : Int32)) + (1 : Int32)) + (1 : Int32)) + (1 : Int32))), .val (.ref a3), .val (.int (5 : Int32)), .val (.int p5), .val (.int (4 : Int32)), .val (.int ((own_sh f p2) 4))]) rfl ?_
            show Steps p.tables e below (T132.setTop (mkF m 47 #[.val (.ref a1), .val (.int (((((p2 + (1 : Int32)) + (1 : Int32)) + (1 : Int32)) + (1 : Int32)) + (1 : Int32))), .val (.ref a3), .val (.int (5 : Int32)), .val (.int p5), .val (.int (4 : Int32)), .val (.int ((own_sh f p2) 4))] [])) _
            refine XS.iinc X132.here hx rfl (hb hby d35_47) rfl (l' := #[.val (.ref a1), .val (.int (((((p2 + (1 : Int32)) + (1 : Int32)) + (1 : Int32)) + (1 : Int32)) + (1 : Int32))), .val (.ref a3), .val (.int (5 : Int32)), .val (.int p5), .val (.int (5 : Int32)), .val (.int ((own_sh f p2) 4))]) rfl ?_
            show Steps p.tables e below (T132.setTop (mkF m 50 #[.val (.ref a1), .val (.int (((((p2 + (1 : Int32)) + (1 : Int32)) + (1 : Int32)) + (1 : Int32)) + (1 : Int32))), .val (.ref a3), .val (.int (5 : Int32)), .val (.int p5), .val (.int (5 : Int32)), .val (.int ((own_sh f p2) 4))] [])) _
            refine XS.goto X132.here hx rfl (pc0 := 50) (pc' := 10) rfl (hb hby d35_50) (by decide) (by decide) ?_
            show Steps p.tables e below (T132.setTop (mkF m 10 #[.val (.ref a1), .val (.int (((((p2 + (1 : Int32)) + (1 : Int32)) + (1 : Int32)) + (1 : Int32)) + (1 : Int32))), .val (.ref a3), .val (.int (5 : Int32)), .val (.int p5), .val (.int (5 : Int32)), .val (.int ((own_sh f p2) 4))] [])) _
            refine XS.iload X132.here hx rfl (hb hby d35_10) rfl ?_
            show Steps p.tables e below (T132.setTop (mkF m 12 #[.val (.ref a1), .val (.int (((((p2 + (1 : Int32)) + (1 : Int32)) + (1 : Int32)) + (1 : Int32)) + (1 : Int32))), .val (.ref a3), .val (.int (5 : Int32)), .val (.int p5), .val (.int (5 : Int32)), .val (.int ((own_sh f p2) 4))] [(.int (5 : Int32))])) _
            refine XS.iload X132.here hx rfl (hb hby d35_12) rfl ?_
            show Steps p.tables e below (T132.setTop (mkF m 14 #[.val (.ref a1), .val (.int (((((p2 + (1 : Int32)) + (1 : Int32)) + (1 : Int32)) + (1 : Int32)) + (1 : Int32))), .val (.ref a3), .val (.int (5 : Int32)), .val (.int p5), .val (.int (5 : Int32)), .val (.int ((own_sh f p2) 4))] [(.int p5), (.int (5 : Int32))])) _
            refine XS.icmpYes X132.here hx rfl (pc0 := 14) (pc' := 53) rfl (hb hby d35_14) rfl (flt ((own_e3 (P := fun o l n => ¬ (5 : Int32) < l) sm rg (by decide +kernel)) : ¬ ((5 : Int32) < p5))).2.1 (by decide) (by decide) ?_
            show Steps p.tables e below (T132.setTop (mkF m 53 #[.val (.ref a1), .val (.int (((((p2 + (1 : Int32)) + (1 : Int32)) + (1 : Int32)) + (1 : Int32)) + (1 : Int32))), .val (.ref a3), .val (.int (5 : Int32)), .val (.int p5), .val (.int (5 : Int32)), .val (.int ((own_sh f p2) 4))] [])) _
            refine XS.iload X132.here hx rfl (hb hby d35_53) rfl ?_
            show Steps p.tables e below (T132.setTop (mkF m 55 #[.val (.ref a1), .val (.int (((((p2 + (1 : Int32)) + (1 : Int32)) + (1 : Int32)) + (1 : Int32)) + (1 : Int32))), .val (.ref a3), .val (.int (5 : Int32)), .val (.int p5), .val (.int (5 : Int32)), .val (.int ((own_sh f p2) 4))] [(.int p5)])) _
            exact retI X132 hx Bd.returns (hb hby d35_55) hr
          · show Q35a Z a1 p2 a3 p5 w n f h0 n0 _ T132.heap _
            rw [e132]
            exact ⟨rfl, N132, K132, (OwnB.mk v132 ((own_e3 (P := fun o l n => (4 : Int32) < l → ¬ (5 : Int32) < l → 5 = l.toNatClampNeg) sm rg (by decide +kernel)) hc129 (own_e3 (P := fun o l n => ¬ (5 : Int32) < l) sm rg (by decide +kernel))))⟩
        · obtain ⟨fs, hr, hrun, hended, hW, hsame⟩ := X125.leave (v := some (.int p5)) (fun h => by rw [Bd.returns] at h; cases h) hlk
          refine ⟨_, _, pre0 _ ?_, hrun, hended, _, _, rfl, ?_, ⟨_, rfl⟩, hW, hsame.mono (by decide) (by decide)⟩
          · refine pr128 _ ?_
            show Steps p.tables e below (T125.setTop (mkF m 14 #[.val (.ref a1), .val (.int ((((p2 + (1 : Int32)) + (1 : Int32)) + (1 : Int32)) + (1 : Int32))), .val (.ref a3), .val (.int (4 : Int32)), .val (.int p5), .val (.int (4 : Int32)), .val (.int ((own_sh f p2) 3))] [(.int p5), (.int (4 : Int32))])) _
            refine XS.icmpYes X125.here hx rfl (pc0 := 14) (pc' := 53) rfl (hb hby d35_14) rfl (flt hc129).2.1 (by decide) (by decide) ?_
            show Steps p.tables e below (T125.setTop (mkF m 53 #[.val (.ref a1), .val (.int ((((p2 + (1 : Int32)) + (1 : Int32)) + (1 : Int32)) + (1 : Int32))), .val (.ref a3), .val (.int (4 : Int32)), .val (.int p5), .val (.int (4 : Int32)), .val (.int ((own_sh f p2) 3))] [])) _
            refine XS.iload X125.here hx rfl (hb hby d35_53) rfl ?_
            show Steps p.tables e below (T125.setTop (mkF m 55 #[.val (.ref a1), .val (.int ((((p2 + (1 : Int32)) + (1 : Int32)) + (1 : Int32)) + (1 : Int32))), .val (.ref a3), .val (.int (4 : Int32)), .val (.int p5), .val (.int (4 : Int32)), .val (.int ((own_sh f p2) 3))] [(.int p5)])) _
            exact retI X125 hx Bd.returns (hb hby d35_55) hr
          · show Q35a Z a1 p2 a3 p5 w n f h0 n0 _ T125.heap _
            rw [e125]
            exact ⟨rfl, N125, K125, (OwnB.mk v125 ((own_e3 (P := fun o l n => (3 : Int32) < l → ¬ (4 : Int32) < l → 4 = l.toNatClampNeg) sm rg (by decide +kernel)) hc122 hc129))⟩
      · obtain ⟨fs, hr, hrun, hended, hW, hsame⟩ := X118.leave (v := some (.int p5)) (fun h => by rw [Bd.returns] at h; cases h) hlk
        refine ⟨_, _, pre0 _ ?_, hrun, hended, _, _, rfl, ?_, ⟨_, rfl⟩, hW, hsame.mono (by decide) (by decide)⟩
        · refine pr121 _ ?_
          show Steps p.tables e below (T118.setTop (mkF m 14 #[.val (.ref a1), .val (.int (((p2 + (1 : Int32)) + (1 : Int32)) + (1 : Int32))), .val (.ref a3), .val (.int (3 : Int32)), .val (.int p5), .val (.int (3 : Int32)), .val (.int ((own_sh f p2) 2))] [(.int p5), (.int (3 : Int32))])) _
          refine XS.icmpYes X118.here hx rfl (pc0 := 14) (pc' := 53) rfl (hb hby d35_14) rfl (flt hc122).2.1 (by decide) (by decide) ?_
          show Steps p.tables e below (T118.setTop (mkF m 53 #[.val (.ref a1), .val (.int (((p2 + (1 : Int32)) + (1 : Int32)) + (1 : Int32))), .val (.ref a3), .val (.int (3 : Int32)), .val (.int p5), .val (.int (3 : Int32)), .val (.int ((own_sh f p2) 2))] [])) _
          refine XS.iload X118.here hx rfl (hb hby d35_53) rfl ?_
          show Steps p.tables e below (T118.setTop (mkF m 55 #[.val (.ref a1), .val (.int (((p2 + (1 : Int32)) + (1 : Int32)) + (1 : Int32))), .val (.ref a3), .val (.int (3 : Int32)), .val (.int p5), .val (.int (3 : Int32)), .val (.int ((own_sh f p2) 2))] [(.int p5)])) _
          exact retI X118 hx Bd.returns (hb hby d35_55) hr
        · show Q35a Z a1 p2 a3 p5 w n f h0 n0 _ T118.heap _
          rw [e118]
          exact ⟨rfl, N118, K118, (OwnB.mk v118 ((own_e3 (P := fun o l n => (2 : Int32) < l → ¬ (3 : Int32) < l → 3 = l.toNatClampNeg) sm rg (by decide +kernel)) hc115 hc122))⟩
    · obtain ⟨fs, hr, hrun, hended, hW, hsame⟩ := X111.leave (v := some (.int p5)) (fun h => by rw [Bd.returns] at h; cases h) hlk
      refine ⟨_, _, pre0 _ ?_, hrun, hended, _, _, rfl, ?_, ⟨_, rfl⟩, hW, hsame.mono (by decide) (by decide)⟩
      · refine pr114 _ ?_
        show Steps p.tables e below (T111.setTop (mkF m 14 #[.val (.ref a1), .val (.int ((p2 + (1 : Int32)) + (1 : Int32))), .val (.ref a3), .val (.int (2 : Int32)), .val (.int p5), .val (.int (2 : Int32)), .val (.int ((own_sh f p2) 1))] [(.int p5), (.int (2 : Int32))])) _
        refine XS.icmpYes X111.here hx rfl (pc0 := 14) (pc' := 53) rfl (hb hby d35_14) rfl (flt hc115).2.1 (by decide) (by decide) ?_
        show Steps p.tables e below (T111.setTop (mkF m 53 #[.val (.ref a1), .val (.int ((p2 + (1 : Int32)) + (1 : Int32))), .val (.ref a3), .val (.int (2 : Int32)), .val (.int p5), .val (.int (2 : Int32)), .val (.int ((own_sh f p2) 1))] [])) _
        refine XS.iload X111.here hx rfl (hb hby d35_53) rfl ?_
        show Steps p.tables e below (T111.setTop (mkF m 55 #[.val (.ref a1), .val (.int ((p2 + (1 : Int32)) + (1 : Int32))), .val (.ref a3), .val (.int (2 : Int32)), .val (.int p5), .val (.int (2 : Int32)), .val (.int ((own_sh f p2) 1))] [(.int p5)])) _
        exact retI X111 hx Bd.returns (hb hby d35_55) hr
      · show Q35a Z a1 p2 a3 p5 w n f h0 n0 _ T111.heap _
        rw [e111]
        exact ⟨rfl, N111, K111, (OwnB.mk v111 ((own_e3 (P := fun o l n => (1 : Int32) < l → ¬ (2 : Int32) < l → 2 = l.toNatClampNeg) sm rg (by decide +kernel)) hc108 hc115))⟩
  · obtain ⟨fs, hr, hrun, hended, hW, hsame⟩ := X104.leave (v := some (.int p5)) (fun h => by rw [Bd.returns] at h; cases h) hlk
    refine ⟨_, _, pre0 _ ?_, hrun, hended, _, _, rfl, ?_, ⟨_, rfl⟩, hW, hsame.mono (by decide) (by decide)⟩
    · refine pr107 _ ?_
      show Steps p.tables e below (T104.setTop (mkF m 14 #[.val (.ref a1), .val (.int (p2 + (1 : Int32))), .val (.ref a3), .val (.int (1 : Int32)), .val (.int p5), .val (.int (1 : Int32)), .val (.int ((own_sh f p2) 0))] [(.int p5), (.int (1 : Int32))])) _
      refine XS.icmpYes X104.here hx rfl (pc0 := 14) (pc' := 53) rfl (hb hby d35_14) rfl (flt hc108).2.1 (by decide) (by decide) ?_
      show Steps p.tables e below (T104.setTop (mkF m 53 #[.val (.ref a1), .val (.int (p2 + (1 : Int32))), .val (.ref a3), .val (.int (1 : Int32)), .val (.int p5), .val (.int (1 : Int32)), .val (.int ((own_sh f p2) 0))] [])) _
      refine XS.iload X104.here hx rfl (hb hby d35_53) rfl ?_
      show Steps p.tables e below (T104.setTop (mkF m 55 #[.val (.ref a1), .val (.int (p2 + (1 : Int32))), .val (.ref a3), .val (.int (1 : Int32)), .val (.int p5), .val (.int (1 : Int32)), .val (.int ((own_sh f p2) 0))] [(.int p5)])) _
      exact retI X104 hx Bd.returns (hb hby d35_55) hr
    · show Q35a Z a1 p2 a3 p5 w n f h0 n0 _ T104.heap _
      rw [e104]
      exact ⟨rfl, N104, K104, (OwnB.mk v104 ((own_e3 (P := fun o l n => (0 : Int32) < l → ¬ (1 : Int32) < l → 1 = l.toNatClampNeg) sm rg (by decide +kernel)) l0 hc108))⟩
theorem ef_35b (m : MethodId) (x0 : Addr) (x1 : Int32) (x2 : Addr) (x4 : Int32) : entryFrame m #[(.ref x0), (.int x1), (.ref x2), (.int (0 : Int32)), (.int x4)] 7 = mkF m 0 #[.val (.ref x0), .val (.int x1), .val (.ref x2), .val (.int (0 : Int32)), .val (.int x4), .unset, .unset] [] := by first | (simp [entryFrame, mkF, argsToLocals, Value.category]; done) | rfl
theorem d35_32 : decode jdk_52_method_22_code 32 = .ok (.iload 5, 2) := by decide +kernel
theorem d35_34 : decode jdk_52_method_22_code 34 = .ok (.ireturn, 1) := by decide +kernel
def Q35b (Z : State) (a1 : Addr) (p2 : Int32) (a3 : Addr) (p5 : Int32) (w : Int32) (n : Int32) (f : Nat → Int32) (h0 : Heap) (n0 : Nat) (v : Option Value) (h : Heap) (L : List Loc) : Prop := ∃ r : Int32, v = some (.int r) ∧ Fr n0 L ∧ (Keep h0 h [a3]) ∧ ((255 : Int32) < ((own_sh f p2) r.toNatClampNeg)) ∧ (own_ix r p5)
set_option maxRecDepth 65536 in
set_option maxHeartbeats 40000000 in
theorem rm35b (l : Launch) (Z : State) (a0 : Array Value) (hw : ∀ d ∈ tables_1, d.before a0 Z = true) (ws : List Jvm.Cond) (a1 : Addr) (p2 : Int32) (a3 : Addr) (p5 : Int32) (w : Int32) (n : Int32) (f : Nat → Int32) (h0 : Heap) (n0 : Nat) (Z0 : n0 ≤ h0.size) (O0 : Old Z n0 h0) (S0 : Sta Z Z.heap "java/lang/String" "COMPACT_STRINGS" "Z" (.int w)) (hw0 : ¬ (w = (0 : Int32))) (SA : Sta Z Z.heap "java/lang/StringUTF16" "$assertionsDisabled" "Z" (.int (1 : Int32))) (SHI : Sta Z Z.heap "java/lang/StringUTF16" "HI_BYTE_SHIFT" "I" (.int (0 : Int32))) (SLO : Sta Z Z.heap "java/lang/StringUTF16" "LO_BYTE_SHIFT" "I" (.int (8 : Int32))) (FM : Fmt Z) (U1 : OwnU Z h0 a1 n f) (sm : own_sm n) (rg : own_rg p2 p5 n) (l0 : (0 : Int32) < p5) (B3 : OwnB Z h0 a3 p5 0 (own_sh f p2)) (g3 : n0 ≤ a3) (n13 : a1 ≠ a3) (hf : own_ch f) (hu : ¬ (own_lat (own_sh f p2) p5)) :
    MetFree l (⟨"java/lang/StringUTF16", "compress", "([BI[BII)I"⟩ : MethodName) (head1 (Jvm.Cond.code (⟨"java/lang/StringUTF16", "compress", "([BI[BII)I"⟩ : MethodName) jdk_52_method_22_code 7 (some .int) :: ws) ({ frames := 3, cells := 0, slots := 0, locals := 43 } : Room)) (fun a U => a = #[(.ref a1), (.int p2), (.ref a3), (.int (0 : Int32)), (.int p5)] ∧ Z.Warmed39 U.vm ∧ U.heap = h0) (fun _ _ _ _ _ => True) (fun _ U o U' => ∃ v L, o = .returned v ∧ Q35b Z a1 p2 a3 p5 w n f h0 n0 v U'.heap L ∧ FrameEnd U o U' L ({ frames := 3, cells := 0, slots := 0, locals := 43 } : Room).cells ({ frames := 3, cells := 0, slots := 0, locals := 43 } : Room).slots) := by
  refine MetFree.of_bodySF (plainFor_of_name pn_2) hisR ?_
  intro p e s m args below meth c s₁ Bd hml0 hP hK
  obtain ⟨rfl, hZ0, hh⟩ := hP
  have hx := Bd.exec
  have hby := Bd.bytes
  have hml : c.maxLocals = 7 := hml0
  have hown0 : s.vm.findClass "java/lang/StringUTF16" = some m.cls := findClass_of_methodNamed Bd.named
  have hnm := (name_of_methodNamed Bd.named Bd.method).1
  have hlk : meth.locks = false := by first | exact BodyLoose.notSynchronized Bd | exact Body.notSynchronized Bd
  have X0 : Stand p l e ({ frames := 3, cells := 0, slots := 0, locals := 43 } : Room) s m #[(.ref a1), (.int p2), (.ref a3), (.int (0 : Int32)), (.int p5)] below meth c s₁ [] 0 0 := Stand.of_body Bd
  have e0 : s₁.heap = h0 := by rw [← hh, Bd.state]; rfl
  have N0 := Fr.nil n0
  have pre0 : ∀ t, Steps p.tables e below (s₁.setTop (mkF m 0 #[.val (.ref a1), .val (.int p2), .val (.ref a3), .val (.int (0 : Int32)), .val (.int p5), .unset, .unset] [])) t → Steps p.tables e below (s₁.setTop (entryFrame m #[(.ref a1), (.int p2), (.ref a3), (.int (0 : Int32)), (.int p5)] 7)) t := fun t k => castTop (ef_35b m a1 p2 a3 p5) k
  obtain ⟨_, _, ⟨T101, L101, k101, n101⟩, -, X101, ⟨Lc101, hQ101, l101, y101, z101⟩, st101⟩ := Jvm.LawKit.callS X0 hx (y := (⟨"java/lang/StringUTF16", "checkBoundsOffCount", "(II[B)V"⟩ : MethodName)) hown0 (mvT hZ0 (hw _ (List.mem_of_getElem? (i := 167) rfl))) (mvT hZ0 (hw _ (List.mem_of_getElem? (i := 168) rfl))) (mvT hZ0 (hw _ (List.mem_of_getElem? (i := 18) rfl))) (mvT hZ0 (hw _ (List.mem_of_getElem? (i := 169) rfl))) (by decide) (backOf (W := 0) (rm36 l Z a0 hw [] p2 p5 a1 w n f h0 n0 Z0 O0 S0 hw0 SA SHI SLO FM U1 sm rg) hZ0 (hw _ (List.mem_of_getElem? (i := 169) rfl)) (hw _ (List.mem_of_getElem? (i := 18) rfl)) (by decide) (by decide)) (g := (mkF m 4 #[.val (.ref a1), .val (.int p2), .val (.ref a3), .val (.int (0 : Int32)), .val (.int p5), .unset, .unset] [(.ref a1), (.int p5), (.int p2)])) rfl (by rw [hml]; rfl) (argsL := [(.int p2), (.int p5), (.ref a1)]) (rest := []) (lenOf pd_18 rfl) rfl (by show 2 * 0 + _ ≤ _; exact Nat.le_of_eq rfl) (hb hby d35_4) (fun _ _ => ⟨rfl, e0, (by decide : 0 + 0 ≤ _), (by decide : 0 + 0 ≤ _)⟩)
  dsimp only [Pt.U, Pt.locs, Pt.cells, Pt.slots] at X101 l101 y101 z101 st101 hQ101
  subst l101 y101 z101
  obtain ⟨rfl, N101q, P101_0⟩ := hQ101
  have N101 := Fr.app N0 N101q
  obtain ⟨_, _, ⟨T102, L102, k102, n102⟩, -, X102, ⟨Lc102, hQ102, l102, y102, z102⟩, st102⟩ := Jvm.LawKit.callS X101 hx (y := (⟨"java/lang/StringUTF16", "getChar", "([BI)C"⟩ : MethodName)) hown0 (mvT hZ0 (hw _ (List.mem_of_getElem? (i := 153) rfl))) (mvT hZ0 (hw _ (List.mem_of_getElem? (i := 154) rfl))) (mvT hZ0 (hw _ (List.mem_of_getElem? (i := 18) rfl))) (mvT hZ0 (hw _ (List.mem_of_getElem? (i := 155) rfl))) (by decide) (backOf (W := 0) (rm32 l Z a0 hw [] a1 p2 w n f h0 n0 Z0 O0 S0 hw0 SA SHI SLO FM U1 sm ((own_e3 (P := fun o l n => (0 : Int32) < l → own_ix o n) sm rg (by decide +kernel)) l0) hf) hZ0 (hw _ (List.mem_of_getElem? (i := 155) rfl)) (hw _ (List.mem_of_getElem? (i := 18) rfl)) (by decide) (by decide)) (g := (mkF m 19 #[.val (.ref a1), .val (.int p2), .val (.ref a3), .val (.int (0 : Int32)), .val (.int p5), .val (.int (0 : Int32)), .unset] [(.int p2), (.ref a1)])) rfl (by rw [hml]; rfl) (argsL := [(.ref a1), (.int p2)]) (rest := []) (lenOf pd_4 rfl) rfl (by show 2 * 0 + _ ≤ _; exact Nat.le_of_eq rfl) (hb hby d35_19) (fun _ _ => ⟨rfl, P101_0, (by decide : 0 + 0 ≤ _), (by decide : 0 + 0 ≤ _)⟩)
  dsimp only [Pt.U, Pt.locs, Pt.cells, Pt.slots] at X102 l102 y102 z102 st102 hQ102
  subst l102 y102 z102
  obtain ⟨hv102, N102q, P102_0⟩ := hQ102
  obtain rfl := hv102.trans (congrArg (fun z => some (Value.int z)) (congrArg f ((own_e3 (P := fun o l n => (0 : Int32) < l → (o).toNatClampNeg = o.toNatClampNeg + 0) sm rg (by decide +kernel)) l0) : (f p2.toNatClampNeg) = ((own_sh f p2) 0)))
  have N102 := Fr.app N101 N102q
  have pr103 : ∀ tg9, Steps p.tables e below (T102.setTop (mkF m 29 #[.val (.ref a1), .val (.int p2), .val (.ref a3), .val (.int (0 : Int32)), .val (.int p5), .val (.int (0 : Int32)), .val (.int ((own_sh f p2) 0))] [(.int (255 : Int32)), (.int ((own_sh f p2) 0))])) tg9 → Steps p.tables e below (s₁.setTop (mkF m 0 #[.val (.ref a1), .val (.int p2), .val (.ref a3), .val (.int (0 : Int32)), .val (.int p5), .unset, .unset] [])) tg9 := fun tg9 kt => by
    show Steps p.tables e below (s₁.setTop (mkF m 0 #[.val (.ref a1), .val (.int p2), .val (.ref a3), .val (.int (0 : Int32)), .val (.int p5), .unset, .unset] [])) _
    refine XS.iloadN X0.here hx rfl (hb hby d35_0) rfl ?_
    show Steps p.tables e below (s₁.setTop (mkF m 1 #[.val (.ref a1), .val (.int p2), .val (.ref a3), .val (.int (0 : Int32)), .val (.int p5), .unset, .unset] [(.int p2)])) _
    refine XS.iload X0.here hx rfl (hb hby d35_1) rfl ?_
    show Steps p.tables e below (s₁.setTop (mkF m 3 #[.val (.ref a1), .val (.int p2), .val (.ref a3), .val (.int (0 : Int32)), .val (.int p5), .unset, .unset] [(.int p5), (.int p2)])) _
    refine XS.aloadN X0.here hx rfl (hb hby d35_3) rfl rfl ?_
    show Steps p.tables e below (s₁.setTop (mkF m 4 #[.val (.ref a1), .val (.int p2), .val (.ref a3), .val (.int (0 : Int32)), .val (.int p5), .unset, .unset] [(.ref a1), (.int p5), (.int p2)])) _
    refine st101 _ ?_
    show Steps p.tables e below (T101.setTop (mkF m 7 #[.val (.ref a1), .val (.int p2), .val (.ref a3), .val (.int (0 : Int32)), .val (.int p5), .unset, .unset] [])) _
    refine XS.iconst X101.here hx rfl (hb hby d35_7) ?_
    show Steps p.tables e below (T101.setTop (mkF m 8 #[.val (.ref a1), .val (.int p2), .val (.ref a3), .val (.int (0 : Int32)), .val (.int p5), .unset, .unset] [(.int (0 : Int32))])) _
    refine XS.istore X101.here hx rfl (hb hby d35_8) rfl (l' := #[.val (.ref a1), .val (.int p2), .val (.ref a3), .val (.int (0 : Int32)), .val (.int p5), .val (.int (0 : Int32)), .unset]) rfl ?_
    show Steps p.tables e below (T101.setTop (mkF m 10 #[.val (.ref a1), .val (.int p2), .val (.ref a3), .val (.int (0 : Int32)), .val (.int p5), .val (.int (0 : Int32)), .unset] [])) _
    refine XS.iload X101.here hx rfl (hb hby d35_10) rfl ?_
    show Steps p.tables e below (T101.setTop (mkF m 12 #[.val (.ref a1), .val (.int p2), .val (.ref a3), .val (.int (0 : Int32)), .val (.int p5), .val (.int (0 : Int32)), .unset] [(.int (0 : Int32))])) _
    refine XS.iload X101.here hx rfl (hb hby d35_12) rfl ?_
    show Steps p.tables e below (T101.setTop (mkF m 14 #[.val (.ref a1), .val (.int p2), .val (.ref a3), .val (.int (0 : Int32)), .val (.int p5), .val (.int (0 : Int32)), .unset] [(.int p5), (.int (0 : Int32))])) _
    refine XS.icmpNo X101.here hx rfl (hb hby d35_14) rfl (tlt l0).2.1 ?_
    show Steps p.tables e below (T101.setTop (mkF m 17 #[.val (.ref a1), .val (.int p2), .val (.ref a3), .val (.int (0 : Int32)), .val (.int p5), .val (.int (0 : Int32)), .unset] [])) _
    refine XS.aloadN X101.here hx rfl (hb hby d35_17) rfl rfl ?_
    show Steps p.tables e below (T101.setTop (mkF m 18 #[.val (.ref a1), .val (.int p2), .val (.ref a3), .val (.int (0 : Int32)), .val (.int p5), .val (.int (0 : Int32)), .unset] [(.ref a1)])) _
    refine XS.iloadN X101.here hx rfl (hb hby d35_18) rfl ?_
    show Steps p.tables e below (T101.setTop (mkF m 19 #[.val (.ref a1), .val (.int p2), .val (.ref a3), .val (.int (0 : Int32)), .val (.int p5), .val (.int (0 : Int32)), .unset] [(.int p2), (.ref a1)])) _
    refine st102 _ ?_
    show Steps p.tables e below (T102.setTop (mkF m 22 #[.val (.ref a1), .val (.int p2), .val (.ref a3), .val (.int (0 : Int32)), .val (.int p5), .val (.int (0 : Int32)), .unset] [(.int ((own_sh f p2) 0))])) _
    refine XS.istore X102.here hx rfl (hb hby d35_22) rfl (l' := #[.val (.ref a1), .val (.int p2), .val (.ref a3), .val (.int (0 : Int32)), .val (.int p5), .val (.int (0 : Int32)), .val (.int ((own_sh f p2) 0))]) rfl ?_
    show Steps p.tables e below (T102.setTop (mkF m 24 #[.val (.ref a1), .val (.int p2), .val (.ref a3), .val (.int (0 : Int32)), .val (.int p5), .val (.int (0 : Int32)), .val (.int ((own_sh f p2) 0))] [])) _
    refine XS.iload X102.here hx rfl (hb hby d35_24) rfl ?_
    show Steps p.tables e below (T102.setTop (mkF m 26 #[.val (.ref a1), .val (.int p2), .val (.ref a3), .val (.int (0 : Int32)), .val (.int p5), .val (.int (0 : Int32)), .val (.int ((own_sh f p2) 0))] [(.int ((own_sh f p2) 0))])) _
    refine XS.sipush X102.here hx rfl (hb hby d35_26) ?_
    exact kt
  by_cases hc104 : (255 : Int32) < ((own_sh f p2) 0)
  · obtain ⟨fs, hr, hrun, hended, hW, hsame⟩ := X102.leave (v := some (.int (0 : Int32))) (fun h => by rw [Bd.returns] at h; cases h) hlk
    refine ⟨_, _, pre0 _ ?_, hrun, hended, _, _, rfl, ?_, ⟨_, rfl⟩, hW, hsame.mono (by decide) (by decide)⟩
    · refine pr103 _ ?_
      show Steps p.tables e below (T102.setTop (mkF m 29 #[.val (.ref a1), .val (.int p2), .val (.ref a3), .val (.int (0 : Int32)), .val (.int p5), .val (.int (0 : Int32)), .val (.int ((own_sh f p2) 0))] [(.int (255 : Int32)), (.int ((own_sh f p2) 0))])) _
      refine XS.icmpNo X102.here hx rfl (hb hby d35_29) rfl (tlt hc104).2.2.2 ?_
      show Steps p.tables e below (T102.setTop (mkF m 32 #[.val (.ref a1), .val (.int p2), .val (.ref a3), .val (.int (0 : Int32)), .val (.int p5), .val (.int (0 : Int32)), .val (.int ((own_sh f p2) 0))] [])) _
      refine XS.iload X102.here hx rfl (hb hby d35_32) rfl ?_
      show Steps p.tables e below (T102.setTop (mkF m 34 #[.val (.ref a1), .val (.int p2), .val (.ref a3), .val (.int (0 : Int32)), .val (.int p5), .val (.int (0 : Int32)), .val (.int ((own_sh f p2) 0))] [(.int (0 : Int32))])) _
      exact retI X102 hx Bd.returns (hb hby d35_34) hr
    · show Q35b Z a1 p2 a3 p5 w n f h0 n0 _ T102.heap _
      rw [P102_0]
      exact ⟨(0 : Int32), rfl, N102, (Keep.refl h0 [a3]), (show (255 : Int32) < own_sh f p2 0 from hc104), ⟨by decide, l0⟩⟩
  · obtain ⟨cl105, Ar105, Sz105, Nn105, Hs105⟩ := (id B3)
    obtain ⟨T106, h106, X106, e106, W106, st106⟩ := stB X102 hx hZ0 P102_0 Ar105 (j := (0 : Int32)) (inb_of Sz105 ⟨by decide, l0⟩) (g := (mkF m 40 #[.val (.ref a1), .val (.int p2), .val (.ref a3), .val (.int (0 : Int32)), .val (.int p5), .val (.int (0 : Int32)), .val (.int ((own_sh f p2) 0))] [(.int (((own_sh f p2) 0).toInt8.toInt32)), (.int (0 : Int32)), (.ref a3)])) rfl rfl (hb hby d35_40)
    have f107 : Old Z n0 h106 := O0.wr W106 g3
    have f108 : OwnU Z h106 a1 n f := OwnU.other U1 W106 n13
    have Zs106 : n0 ≤ h106.size := Nat.le_trans Z0 (Keep.of_wr W106).1
    have N106 := Fr.snoc X106 N102 g3
    have K106 : Keep h0 h106 [a3] := (Keep.refl h0 [a3]).wr W106 (Or.inl (List.mem_of_getElem? (i := 0) rfl))
    have v106 : OwnB Z h106 a3 p5 1 (own_sh f p2) := (OwnB.put Ar105 Sz105 Nn105 Hs105 (inb_of Sz105 ⟨by decide, l0⟩) W106 (by decide) rfl)
    obtain ⟨_, _, ⟨T109, L109, k109, n109⟩, -, X109, ⟨Lc109, hQ109, l109, y109, z109⟩, st109⟩ := Jvm.LawKit.callS X106 hx (y := (⟨"java/lang/StringUTF16", "getChar", "([BI)C"⟩ : MethodName)) hown0 (mvT hZ0 (hw _ (List.mem_of_getElem? (i := 153) rfl))) (mvT hZ0 (hw _ (List.mem_of_getElem? (i := 154) rfl))) (mvT hZ0 (hw _ (List.mem_of_getElem? (i := 18) rfl))) (mvT hZ0 (hw _ (List.mem_of_getElem? (i := 155) rfl))) (by decide) (backOf (W := 0) (rm32 l Z a0 hw [] a1 (p2 + (1 : Int32)) w n f h106 n0 Zs106 f107 S0 hw0 SA SHI SLO FM f108 sm ((own_e3 (P := fun o l n => (1 : Int32) < l → own_ix (o + (1 : Int32)) n) sm rg (by decide +kernel)) (own_more1 hu hc104)) hf) hZ0 (hw _ (List.mem_of_getElem? (i := 155) rfl)) (hw _ (List.mem_of_getElem? (i := 18) rfl)) (by decide) (by decide)) (g := (mkF m 19 #[.val (.ref a1), .val (.int (p2 + (1 : Int32))), .val (.ref a3), .val (.int (1 : Int32)), .val (.int p5), .val (.int (1 : Int32)), .val (.int ((own_sh f p2) 0))] [(.int (p2 + (1 : Int32))), (.ref a1)])) rfl (by rw [hml]; rfl) (argsL := [(.ref a1), (.int (p2 + (1 : Int32)))]) (rest := []) (lenOf pd_4 rfl) rfl (by show 2 * 0 + _ ≤ _; exact Nat.le_of_eq rfl) (hb hby d35_19) (fun _ _ => ⟨rfl, e106, (by decide : 0 + 0 ≤ _), (by decide : 0 + 0 ≤ _)⟩)
    dsimp only [Pt.U, Pt.locs, Pt.cells, Pt.slots] at X109 l109 y109 z109 st109 hQ109
    subst l109 y109 z109
    obtain ⟨hv109, N109q, P109_0⟩ := hQ109
    obtain rfl := hv109.trans (congrArg (fun z => some (Value.int z)) (congrArg f ((own_e3 (P := fun o l n => (1 : Int32) < l → ((o + (1 : Int32))).toNatClampNeg = o.toNatClampNeg + 1) sm rg (by decide +kernel)) (own_more1 hu hc104)) : (f (p2 + (1 : Int32)).toNatClampNeg) = ((own_sh f p2) 1)))
    have N109 := Fr.app N106 N109q
    have pr110 : ∀ tg9, Steps p.tables e below (T109.setTop (mkF m 29 #[.val (.ref a1), .val (.int (p2 + (1 : Int32))), .val (.ref a3), .val (.int (1 : Int32)), .val (.int p5), .val (.int (1 : Int32)), .val (.int ((own_sh f p2) 1))] [(.int (255 : Int32)), (.int ((own_sh f p2) 1))])) tg9 → Steps p.tables e below (s₁.setTop (mkF m 0 #[.val (.ref a1), .val (.int p2), .val (.ref a3), .val (.int (0 : Int32)), .val (.int p5), .unset, .unset] [])) tg9 := fun tg9 kt => by
      refine pr103 _ ?_
      show Steps p.tables e below (T102.setTop (mkF m 29 #[.val (.ref a1), .val (.int p2), .val (.ref a3), .val (.int (0 : Int32)), .val (.int p5), .val (.int (0 : Int32)), .val (.int ((own_sh f p2) 0))] [(.int (255 : Int32)), (.int ((own_sh f p2) 0))])) _
      refine XS.icmpYes X102.here hx rfl (pc0 := 29) (pc' := 35) rfl (hb hby d35_29) rfl (flt hc104).2.2.2 (by decide) (by decide) ?_
      show Steps p.tables e below (T102.setTop (mkF m 35 #[.val (.ref a1), .val (.int p2), .val (.ref a3), .val (.int (0 : Int32)), .val (.int p5), .val (.int (0 : Int32)), .val (.int ((own_sh f p2) 0))] [])) _
      refine XS.aloadN X102.here hx rfl (hb hby d35_35) rfl rfl ?_
      show Steps p.tables e below (T102.setTop (mkF m 36 #[.val (.ref a1), .val (.int p2), .val (.ref a3), .val (.int (0 : Int32)), .val (.int p5), .val (.int (0 : Int32)), .val (.int ((own_sh f p2) 0))] [(.ref a3)])) _
      refine XS.iloadN X102.here hx rfl (hb hby d35_36) rfl ?_
      show Steps p.tables e below (T102.setTop (mkF m 37 #[.val (.ref a1), .val (.int p2), .val (.ref a3), .val (.int (0 : Int32)), .val (.int p5), .val (.int (0 : Int32)), .val (.int ((own_sh f p2) 0))] [(.int (0 : Int32)), (.ref a3)])) _
      refine XS.iload X102.here hx rfl (hb hby d35_37) rfl ?_
      show Steps p.tables e below (T102.setTop (mkF m 39 #[.val (.ref a1), .val (.int p2), .val (.ref a3), .val (.int (0 : Int32)), .val (.int p5), .val (.int (0 : Int32)), .val (.int ((own_sh f p2) 0))] [(.int ((own_sh f p2) 0)), (.int (0 : Int32)), (.ref a3)])) _
      refine XS.i2b X102.here hx rfl (hb hby d35_39) rfl ?_
      show Steps p.tables e below (T102.setTop (mkF m 40 #[.val (.ref a1), .val (.int p2), .val (.ref a3), .val (.int (0 : Int32)), .val (.int p5), .val (.int (0 : Int32)), .val (.int ((own_sh f p2) 0))] [(.int (((own_sh f p2) 0).toInt8.toInt32)), (.int (0 : Int32)), (.ref a3)])) _
      refine st106 _ ?_
      show Steps p.tables e below (T106.setTop (mkF m 41 #[.val (.ref a1), .val (.int p2), .val (.ref a3), .val (.int (0 : Int32)), .val (.int p5), .val (.int (0 : Int32)), .val (.int ((own_sh f p2) 0))] [])) _
      refine XS.iinc X106.here hx rfl (hb hby d35_41) rfl (l' := #[.val (.ref a1), .val (.int (p2 + (1 : Int32))), .val (.ref a3), .val (.int (0 : Int32)), .val (.int p5), .val (.int (0 : Int32)), .val (.int ((own_sh f p2) 0))]) rfl ?_
      show Steps p.tables e below (T106.setTop (mkF m 44 #[.val (.ref a1), .val (.int (p2 + (1 : Int32))), .val (.ref a3), .val (.int (0 : Int32)), .val (.int p5), .val (.int (0 : Int32)), .val (.int ((own_sh f p2) 0))] [])) _
      refine XS.iinc X106.here hx rfl (hb hby d35_44) rfl (l' := #[.val (.ref a1), .val (.int (p2 + (1 : Int32))), .val (.ref a3), .val (.int (1 : Int32)), .val (.int p5), .val (.int (0 : Int32)), .val (.int ((own_sh f p2) 0))]) rfl ?_
      show Steps p.tables e below (T106.setTop (mkF m 47 #[.val (.ref a1), .val (.int (p2 + (1 : Int32))), .val (.ref a3), .val (.int (1 : Int32)), .val (.int p5), .val (.int (0 : Int32)), .val (.int ((own_sh f p2) 0))] [])) _
      refine XS.iinc X106.here hx rfl (hb hby d35_47) rfl (l' := #[.val (.ref a1), .val (.int (p2 + (1 : Int32))), .val (.ref a3), .val (.int (1 : Int32)), .val (.int p5), .val (.int (1 : Int32)), .val (.int ((own_sh f p2) 0))]) rfl ?_
      show Steps p.tables e below (T106.setTop (mkF m 50 #[.val (.ref a1), .val (.int (p2 + (1 : Int32))), .val (.ref a3), .val (.int (1 : Int32)), .val (.int p5), .val (.int (1 : Int32)), .val (.int ((own_sh f p2) 0))] [])) _
      refine XS.goto X106.here hx rfl (pc0 := 50) (pc' := 10) rfl (hb hby d35_50) (by decide) (by decide) ?_
      show Steps p.tables e below (T106.setTop (mkF m 10 #[.val (.ref a1), .val (.int (p2 + (1 : Int32))), .val (.ref a3), .val (.int (1 : Int32)), .val (.int p5), .val (.int (1 : Int32)), .val (.int ((own_sh f p2) 0))] [])) _
      refine XS.iload X106.here hx rfl (hb hby d35_10) rfl ?_
      show Steps p.tables e below (T106.setTop (mkF m 12 #[.val (.ref a1), .val (.int (p2 + (1 : Int32))), .val (.ref a3), .val (.int (1 : Int32)), .val (.int p5), .val (.int (1 : Int32)), .val (.int ((own_sh f p2) 0))] [(.int (1 : Int32))])) _
      refine XS.iload X106.here hx rfl (hb hby d35_12) rfl ?_
      show Steps p.tables e below (T106.setTop (mkF m 14 #[.val (.ref a1), .val (.int (p2 + (1 : Int32))), .val (.ref a3), .val (.int (1 : Int32)), .val (.int p5), .val (.int (1 : Int32)), .val (.int ((own_sh f p2) 0))] [(.int p5), (.int (1 : Int32))])) _
      refine XS.icmpNo X106.here hx rfl (hb hby d35_14) rfl (tlt ((own_more1 hu hc104) : (1 : Int32) < p5)).2.1 ?_
      show Steps p.tables e below (T106.setTop (mkF m 17 #[.val (.ref a1), .val (.int (p2 + (1 : Int32))), .val (.ref a3), .val (.int (1 : Int32)), .val (.int p5), .val (.int (1 : Int32)), .val (.int ((own_sh f p2) 0))] [])) _
      refine XS.aloadN X106.here hx rfl (hb hby d35_17) rfl rfl ?_
      show Steps p.tables e below (T106.setTop (mkF m 18 #[.val (.ref a1), .val (.int (p2 + (1 : Int32))), .val (.ref a3), .val (.int (1 : Int32)), .val (.int p5), .val (.int (1 : Int32)), .val (.int ((own_sh f p2) 0))] [(.ref a1)])) _
      refine XS.iloadN X106.here hx rfl (hb hby d35_18) rfl ?_
      show Steps p.tables e below (T106.setTop (mkF m 19 #[.val (.ref a1), .val (.int (p2 + (1 : Int32))), .val (.ref a3), .val (.int (1 : Int32)), .val (.int p5), .val (.int (1 : Int32)), .val (.int ((own_sh f p2) 0))] [(.int (p2 + (1 : Int32))), (.ref a1)])) _
      refine st109 _ ?_
      show Steps p.tables e below (T109.setTop (mkF m 22 #[.val (.ref a1), .val (.int (p2 + (1 : Int32))), .val (.ref a3), .val (.int (1 : Int32)), .val (.int p5), .val (.int (1 : Int32)), .val (.int ((own_sh f p2) 0))] [(.int ((own_sh f p2) 1))])) _
      refine XS.istore X109.here hx rfl (hb hby d35_22) rfl (l' := #[.val (.ref a1), .val (.int (p2 + (1 : Int32))), .val (.ref a3), .val (.int (1 : Int32)), .val (.int p5), .val (.int (1 : Int32)), .val (.int ((own_sh f p2) 1))]) rfl ?_
      show Steps p.tables e below (T109.setTop (mkF m 24 #[.val (.ref a1), .val (.int (p2 + (1 : Int32))), .val (.ref a3), .val (.int (1 : Int32)), .val (.int p5), .val (.int (1 : Int32)), .val (.int ((own_sh f p2) 1))] [])) _
      refine XS.iload X109.here hx rfl (hb hby d35_24) rfl ?_
      show Steps p.tables e below (T109.setTop (mkF m 26 #[.val (.ref a1), .val (.int (p2 + (1 : Int32))), .val (.ref a3), .val (.int (1 : Int32)), .val (.int p5), .val (.int (1 : Int32)), .val (.int ((own_sh f p2) 1))] [(.int ((own_sh f p2) 1))])) _
      refine XS.sipush X109.here hx rfl (hb hby d35_26) ?_
      exact kt
    by_cases hc111 : (255 : Int32) < ((own_sh f p2) 1)
    · obtain ⟨fs, hr, hrun, hended, hW, hsame⟩ := X109.leave (v := some (.int (1 : Int32))) (fun h => by rw [Bd.returns] at h; cases h) hlk
      refine ⟨_, _, pre0 _ ?_, hrun, hended, _, _, rfl, ?_, ⟨_, rfl⟩, hW, hsame.mono (by decide) (by decide)⟩
      · refine pr110 _ ?_
        show Steps p.tables e below (T109.setTop (mkF m 29 #[.val (.ref a1), .val (.int (p2 + (1 : Int32))), .val (.ref a3), .val (.int (1 : Int32)), .val (.int p5), .val (.int (1 : Int32)), .val (.int ((own_sh f p2) 1))] [(.int (255 : Int32)), (.int ((own_sh f p2) 1))])) _
        refine XS.icmpNo X109.here hx rfl (hb hby d35_29) rfl (tlt hc111).2.2.2 ?_
        show Steps p.tables e below (T109.setTop (mkF m 32 #[.val (.ref a1), .val (.int (p2 + (1 : Int32))), .val (.ref a3), .val (.int (1 : Int32)), .val (.int p5), .val (.int (1 : Int32)), .val (.int ((own_sh f p2) 1))] [])) _
        refine XS.iload X109.here hx rfl (hb hby d35_32) rfl ?_
        show Steps p.tables e below (T109.setTop (mkF m 34 #[.val (.ref a1), .val (.int (p2 + (1 : Int32))), .val (.ref a3), .val (.int (1 : Int32)), .val (.int p5), .val (.int (1 : Int32)), .val (.int ((own_sh f p2) 1))] [(.int (1 : Int32))])) _
        exact retI X109 hx Bd.returns (hb hby d35_34) hr
      · show Q35b Z a1 p2 a3 p5 w n f h0 n0 _ T109.heap _
        rw [P109_0]
        exact ⟨(1 : Int32), rfl, N109, K106, (show (255 : Int32) < own_sh f p2 1 from hc111), ⟨by decide, (own_more1 hu hc104)⟩⟩
    · obtain ⟨cl112, Ar112, Sz112, Nn112, Hs112⟩ := (id v106)
      obtain ⟨T113, h113, X113, e113, W113, st113⟩ := stB X109 hx hZ0 P109_0 Ar112 (j := (1 : Int32)) (inb_of Sz112 ⟨by decide, (own_more1 hu hc104)⟩) (g := (mkF m 40 #[.val (.ref a1), .val (.int (p2 + (1 : Int32))), .val (.ref a3), .val (.int (1 : Int32)), .val (.int p5), .val (.int (1 : Int32)), .val (.int ((own_sh f p2) 1))] [(.int (((own_sh f p2) 1).toInt8.toInt32)), (.int (1 : Int32)), (.ref a3)])) rfl rfl (hb hby d35_40)
      have f114 : Old Z n0 h113 := f107.wr W113 g3
      have f115 : OwnU Z h113 a1 n f := OwnU.other f108 W113 n13
      have Zs113 : n0 ≤ h113.size := Nat.le_trans Zs106 (Keep.of_wr W113).1
      have N113 := Fr.snoc X113 N109 g3
      have K113 : Keep h0 h113 [a3] := K106.wr W113 (Or.inl (List.mem_of_getElem? (i := 0) rfl))
      have v113 : OwnB Z h113 a3 p5 2 (own_sh f p2) := (OwnB.put Ar112 Sz112 Nn112 Hs112 (inb_of Sz112 ⟨by decide, (own_more1 hu hc104)⟩) W113 (by decide) rfl)
      obtain ⟨_, _, ⟨T116, L116, k116, n116⟩, -, X116, ⟨Lc116, hQ116, l116, y116, z116⟩, st116⟩ := Jvm.LawKit.callS X113 hx (y := (⟨"java/lang/StringUTF16", "getChar", "([BI)C"⟩ : MethodName)) hown0 (mvT hZ0 (hw _ (List.mem_of_getElem? (i := 153) rfl))) (mvT hZ0 (hw _ (List.mem_of_getElem? (i := 154) rfl))) (mvT hZ0 (hw _ (List.mem_of_getElem? (i := 18) rfl))) (mvT hZ0 (hw _ (List.mem_of_getElem? (i := 155) rfl))) (by decide) (backOf (W := 0) (rm32 l Z a0 hw [] a1 ((p2 + (1 : Int32)) + (1 : Int32)) w n f h113 n0 Zs113 f114 S0 hw0 SA SHI SLO FM f115 sm ((own_e3 (P := fun o l n => (2 : Int32) < l → own_ix ((o + (1 : Int32)) + (1 : Int32)) n) sm rg (by decide +kernel)) (own_more2 hu hc104 hc111)) hf) hZ0 (hw _ (List.mem_of_getElem? (i := 155) rfl)) (hw _ (List.mem_of_getElem? (i := 18) rfl)) (by decide) (by decide)) (g := (mkF m 19 #[.val (.ref a1), .val (.int ((p2 + (1 : Int32)) + (1 : Int32))), .val (.ref a3), .val (.int (2 : Int32)), .val (.int p5), .val (.int (2 : Int32)), .val (.int ((own_sh f p2) 1))] [(.int ((p2 + (1 : Int32)) + (1 : Int32))), (.ref a1)])) rfl (by rw [hml]; rfl) (argsL := [(.ref a1), (.int ((p2 + (1 : Int32)) + (1 : Int32)))]) (rest := []) (lenOf pd_4 rfl) rfl (by show 2 * 0 + _ ≤ _; exact Nat.le_of_eq rfl) (hb hby d35_19) (fun _ _ => ⟨rfl, e113, (by decide : 0 + 0 ≤ _), (by decide : 0 + 0 ≤ _)⟩)
      dsimp only [Pt.U, Pt.locs, Pt.cells, Pt.slots] at X116 l116 y116 z116 st116 hQ116
      subst l116 y116 z116
      obtain ⟨hv116, N116q, P116_0⟩ := hQ116
      obtain rfl := hv116.trans (congrArg (fun z => some (Value.int z)) (congrArg f ((own_e3 (P := fun o l n => (2 : Int32) < l → (((o + (1 : Int32)) + (1 : Int32))).toNatClampNeg = o.toNatClampNeg + 2) sm rg (by decide +kernel)) (own_more2 hu hc104 hc111)) : (f ((p2 + (1 : Int32)) + (1 : Int32)).toNatClampNeg) = ((own_sh f p2) 2)))
      have N116 := Fr.app N113 N116q
      have pr117 : ∀ tg9, Steps p.tables e below (T116.setTop (mkF m 29 #[.val (.ref a1), .val (.int ((p2 + (1 : Int32)) + (1 : Int32))), .val (.ref a3), .val (.int (2 : Int32)), .val (.int p5), .val (.int (2 : Int32)), .val (.int ((own_sh f p2) 2))] [(.int (255 : Int32)), (.int ((own_sh f p2) 2))])) tg9 → Steps p.tables e below (s₁.setTop (mkF m 0 #[.val (.ref a1), .val (.int p2), .val (.ref a3), .val (.int (0 : Int32)), .val (.int p5), .unset, .unset] [])) tg9 := fun tg9 kt => by
        refine pr110 _ ?_
        show Steps p.tables e below (T109.setTop (mkF m 29 #[.val (.ref a1), .val (.int (p2 + (1 : Int32))), .val (.ref a3), .val (.int (1 : Int32)), .val (.int p5), .val (.int (1 : Int32)), .val (.int ((own_sh f p2) 1))] [(.int (255 : Int32)), (.int ((own_sh f p2) 1))])) _
        refine XS.icmpYes X109.here hx rfl (pc0 := 29) (pc' := 35) rfl (hb hby d35_29) rfl (flt hc111).2.2.2 (by decide) (by decide) ?_
        show Steps p.tables e below (T109.setTop (mkF m 35 #[.val (.ref a1), .val (.int (p2 + (1 : Int32))), .val (.ref a3), .val (.int (1 : Int32)), .val (.int p5), .val (.int (1 : Int32)), .val (.int ((own_sh f p2) 1))] [])) _
        refine XS.aloadN X109.here hx rfl (hb hby d35_35) rfl rfl ?_
        show Steps p.tables e below (T109.setTop (mkF m 36 #[.val (.ref a1), .val (.int (p2 + (1 : Int32))), .val (.ref a3), .val (.int (1 : Int32)), .val (.int p5), .val (.int (1 : Int32)), .val (.int ((own_sh f p2) 1))] [(.ref a3)])) _
        refine XS.iloadN X109.here hx rfl (hb hby d35_36) rfl ?_
        show Steps p.tables e below (T109.setTop (mkF m 37 #[.val (.ref a1), .val (.int (p2 + (1 : Int32))), .val (.ref a3), .val (.int (1 : Int32)), .val (.int p5), .val (.int (1 : Int32)), .val (.int ((own_sh f p2) 1))] [(.int (1 : Int32)), (.ref a3)])) _
        refine XS.iload X109.here hx rfl (hb hby d35_37) rfl ?_
        show Steps p.tables e below (T109.setTop (mkF m 39 #[.val (.ref a1), .val (.int (p2 + (1 : Int32))), .val (.ref a3), .val (.int (1 : Int32)), .val (.int p5), .val (.int (1 : Int32)), .val (.int ((own_sh f p2) 1))] [(.int ((own_sh f p2) 1)), (.int (1 : Int32)), (.ref a3)])) _
        refine XS.i2b X109.here hx rfl (hb hby d35_39) rfl ?_
        show Steps p.tables e below (T109.setTop (mkF m 40 #[.val (.ref a1), .val (.int (p2 + (1 : Int32))), .val (.ref a3), .val (.int (1 : Int32)), .val (.int p5), .val (.int (1 : Int32)), .val (.int ((own_sh f p2) 1))] [(.int (((own_sh f p2) 1).toInt8.toInt32)), (.int (1 : Int32)), (.ref a3)])) _
        refine st113 _ ?_
        show Steps p.tables e below (T113.setTop (mkF m 41 #[.val (.ref a1), .val (.int (p2 + (1 : Int32))), .val (.ref a3), .val (.int (1 : Int32)), .val (.int p5), .val (.int (1 : Int32)), .val (.int ((own_sh f p2) 1))] [])) _
        refine XS.iinc X113.here hx rfl (hb hby d35_41) rfl (l' := #[.val (.ref a1), .val (.int ((p2 + (1 : Int32)) + (1 : Int32))), .val (.ref a3), .val (.int (1 : Int32)), .val (.int p5), .val (.int (1 : Int32)), .val (.int ((own_sh f p2) 1))]) rfl ?_
        show Steps p.tables e below (T113.setTop (mkF m 44 #[.val (.ref a1), .val (.int ((p2 + (1 : Int32)) + (1 : Int32))), .val (.ref a3), .val (.int (1 : Int32)), .val (.int p5), .val (.int (1 : Int32)), .val (.int ((own_sh f p2) 1))] [])) _
        refine XS.iinc X113.here hx rfl (hb hby d35_44) rfl (l' := #[.val (.ref a1), .val (.int ((p2 + (1 : Int32)) + (1 : Int32))), .val (.ref a3), .val (.int (2 : Int32)), .val (.int p5), .val (.int (1 : Int32)), .val (.int ((own_sh f p2) 1))]) rfl ?_
        show Steps p.tables e below (T113.setTop (mkF m 47 #[.val (.ref a1), .val (.int ((p2 + (1 : Int32)) + (1 : Int32))), .val (.ref a3), .val (.int (2 : Int32)), .val (.int p5), .val (.int (1 : Int32)), .val (.int ((own_sh f p2) 1))] [])) _
        refine XS.iinc X113.here hx rfl (hb hby d35_47) rfl (l' := #[.val (.ref a1), .val (.int ((p2 + (1 : Int32)) + (1 : Int32))), .val (.ref a3), .val (.int (2 : Int32)), .val (.int p5), .val (.int (2 : Int32)), .val (.int ((own_sh f p2) 1))]) rfl ?_
        show Steps p.tables e below (T113.setTop (mkF m 50 #[.val (.ref a1), .val (.int ((p2 + (1 : Int32)) + (1 : Int32))), .val (.ref a3), .val (.int (2 : Int32)), .val (.int p5), .val (.int (2 : Int32)), .val (.int ((own_sh f p2) 1))] [])) _
        refine XS.goto X113.here hx rfl (pc0 := 50) (pc' := 10) rfl (hb hby d35_50) (by decide) (by decide) ?_
        show Steps p.tables e below (T113.setTop (mkF m 10 #[.val (.ref a1), .val (.int ((p2 + (1 : Int32)) + (1 : Int32))), .val (.ref a3), .val (.int (2 : Int32)), .val (.int p5), .val (.int (2 : Int32)), .val (.int ((own_sh f p2) 1))] [])) _
        refine XS.iload X113.here hx rfl (hb hby d35_10) rfl ?_
        show Steps p.tables e below (T113.setTop (mkF m 12 #[.val (.ref a1), .val (.int ((p2 + (1 : Int32)) + (1 : Int32))), .val (.ref a3), .val (.int (2 : Int32)), .val (.int p5), .val (.int (2 : Int32)), .val (.int ((own_sh f p2) 1))] [(.int (2 : Int32))])) _
        refine XS.iload X113.here hx rfl (hb hby d35_12) rfl ?_
        show Steps p.tables e below (T113.setTop (mkF m 14 #[.val (.ref a1), .val (.int ((p2 + (1 : Int32)) + (1 : Int32))), .val (.ref a3), .val (.int (2 : Int32)), .val (.int p5), .val (.int (2 : Int32)), .val (.int ((own_sh f p2) 1))] [(.int p5), (.int (2 : Int32))])) _
        refine XS.icmpNo X113.here hx rfl (hb hby d35_14) rfl (tlt ((own_more2 hu hc104 hc111) : (2 : Int32) < p5)).2.1 ?_
        show Steps p.tables e below (T113.setTop (mkF m 17 #[.val (.ref a1), .val (.int ((p2 + (1 : Int32)) + (1 : Int32))), .val (.ref a3), .val (.int (2 : Int32)), .val (.int p5), .val (.int (2 : Int32)), .val (.int ((own_sh f p2) 1))] [])) _
        refine XS.aloadN X113.here hx rfl (hb hby d35_17) rfl rfl ?_
        show Steps p.tables e below (T113.setTop (mkF m 18 #[.val (.ref a1), .val (.int ((p2 + (1 : Int32)) + (1 : Int32))), .val (.ref a3), .val (.int (2 : Int32)), .val (.int p5), .val (.int (2 : Int32)), .val (.int ((own_sh f p2) 1))] [(.ref a1)])) _
        refine XS.iloadN X113.here hx rfl (hb hby d35_18) rfl ?_
        show Steps p.tables e below (T113.setTop (mkF m 19 #[.val (.ref a1), .val (.int ((p2 + (1 : Int32)) + (1 : Int32))), .val (.ref a3), .val (.int (2 : Int32)), .val (.int p5), .val (.int (2 : Int32)), .val (.int ((own_sh f p2) 1))] [(.int ((p2 + (1 : Int32)) + (1 : Int32))), (.ref a1)])) _
        refine st116 _ ?_
        show Steps p.tables e below (T116.setTop (mkF m 22 #[.val (.ref a1), .val (.int ((p2 + (1 : Int32)) + (1 : Int32))), .val (.ref a3), .val (.int (2 : Int32)), .val (.int p5), .val (.int (2 : Int32)), .val (.int ((own_sh f p2) 1))] [(.int ((own_sh f p2) 2))])) _
        refine XS.istore X116.here hx rfl (hb hby d35_22) rfl (l' := #[.val (.ref a1), .val (.int ((p2 + (1 : Int32)) + (1 : Int32))), .val (.ref a3), .val (.int (2 : Int32)), .val (.int p5), .val (.int (2 : Int32)), .val (.int ((own_sh f p2) 2))]) rfl ?_
        show Steps p.tables e below (T116.setTop (mkF m 24 #[.val (.ref a1), .val (.int ((p2 + (1 : Int32)) + (1 : Int32))), .val (.ref a3), .val (.int (2 : Int32)), .val (.int p5), .val (.int (2 : Int32)), .val (.int ((own_sh f p2) 2))] [])) _
        refine XS.iload X116.here hx rfl (hb hby d35_24) rfl ?_
        show Steps p.tables e below (T116.setTop (mkF m 26 #[.val (.ref a1), .val (.int ((p2 + (1 : Int32)) + (1 : Int32))), .val (.ref a3), .val (.int (2 : Int32)), .val (.int p5), .val (.int (2 : Int32)), .val (.int ((own_sh f p2) 2))] [(.int ((own_sh f p2) 2))])) _
        refine XS.sipush X116.here hx rfl (hb hby d35_26) ?_
        exact kt
      by_cases hc118 : (255 : Int32) < ((own_sh f p2) 2)
      · obtain ⟨fs, hr, hrun, hended, hW, hsame⟩ := X116.leave (v := some (.int (2 : Int32))) (fun h => by rw [Bd.returns] at h; cases h) hlk
        refine ⟨_, _, pre0 _ ?_, hrun, hended, _, _, rfl, ?_, ⟨_, rfl⟩, hW, hsame.mono (by decide) (by decide)⟩
        · refine pr117 _ ?_
          show Steps p.tables e below (T116.setTop (mkF m 29 #[.val (.ref a1), .val (.int ((p2 + (1 : Int32)) + (1 : Int32))), .val (.ref a3), .val (.int (2 : Int32)), .val (.int p5), .val (.int (2 : Int32)), .val (.int ((own_sh f p2) 2))] [(.int (255 : Int32)), (.int ((own_sh f p2) 2))])) _
          refine XS.icmpNo X116.here hx rfl (hb hby d35_29) rfl (tlt hc118).2.2.2 ?_
          show Steps p.tables e below (T116.setTop (mkF m 32 #[.val (.ref a1), .val (.int ((p2 + (1 : Int32)) + (1 : Int32))), .val (.ref a3), .val (.int (2 : Int32)), .val (.int p5), .val (.int (2 : Int32)), .val (.int ((own_sh f p2) 2))] [])) _
          refine XS.iload X116.here hx rfl (hb hby d35_32) rfl ?_
          show Steps p.tables e below (T116.setTop (mkF m 34 #[.val (.ref a1), .val (.int ((p2 + (1 : Int32)) + (1 : Int32))), .val (.ref a3), .val (.int (2 : Int32)), .val (.int p5), .val (.int (2 : Int32)), .val (.int ((own_sh f p2) 2))] [(.int (2 : Int32))])) _
          exact retI X116 hx Bd.returns (hb hby d35_34) hr
        · show Q35b Z a1 p2 a3 p5 w n f h0 n0 _ T116.heap _
          rw [P116_0]
          exact ⟨(2 : Int32), rfl, N116, K113, (show (255 : Int32) < own_sh f p2 2 from hc118), ⟨by decide, (own_more2 hu hc104 hc111)⟩⟩
      · obtain ⟨cl119, Ar119, Sz119, Nn119, Hs119⟩ := (id v113)
        obtain ⟨T120, h120, X120, e120, W120, st120⟩ := stB X116 hx hZ0 P116_0 Ar119 (j := (2 : Int32)) (inb_of Sz119 ⟨by decide, (own_more2 hu hc104 hc111)⟩) (g := (mkF m 40 #[.val (.ref a1), .val (.int ((p2 + (1 : Int32)) + (1 : Int32))), .val (.ref a3), .val (.int (2 : Int32)), .val (.int p5), .val (.int (2 : Int32)), .val (.int ((own_sh f p2) 2))] [(.int (((own_sh f p2) 2).toInt8.toInt32)), (.int (2 : Int32)), (.ref a3)])) rfl rfl (hb hby d35_40)
        have f121 : Old Z n0 h120 := f114.wr W120 g3
        have f122 : OwnU Z h120 a1 n f := OwnU.other f115 W120 n13
        have Zs120 : n0 ≤ h120.size := Nat.le_trans Zs113 (Keep.of_wr W120).1
        have N120 := Fr.snoc X120 N116 g3
        have K120 : Keep h0 h120 [a3] := K113.wr W120 (Or.inl (List.mem_of_getElem? (i := 0) rfl))
        have v120 : OwnB Z h120 a3 p5 3 (own_sh f p2) := (OwnB.put Ar119 Sz119 Nn119 Hs119 (inb_of Sz119 ⟨by decide, (own_more2 hu hc104 hc111)⟩) W120 (by decide) rfl)
        obtain ⟨_, _, ⟨T123, L123, k123, n123⟩, -, X123, ⟨Lc123, hQ123, l123, y123, z123⟩, st123⟩ := Jvm.LawKit.callS X120 hx (y := (⟨"java/lang/StringUTF16", "getChar", "([BI)C"⟩ : MethodName)) hown0 (mvT hZ0 (hw _ (List.mem_of_getElem? (i := 153) rfl))) (mvT hZ0 (hw _ (List.mem_of_getElem? (i := 154) rfl))) (mvT hZ0 (hw _ (List.mem_of_getElem? (i := 18) rfl))) (mvT hZ0 (hw _ (List.mem_of_getElem? (i := 155) rfl))) (by decide) (backOf (W := 0) (rm32 l Z a0 hw [] a1 (((p2 + (1 : Int32)) + (1 : Int32)) + (1 : Int32)) w n f h120 n0 Zs120 f121 S0 hw0 SA SHI SLO FM f122 sm ((own_e3 (P := fun o l n => (3 : Int32) < l → own_ix (((o + (1 : Int32)) + (1 : Int32)) + (1 : Int32)) n) sm rg (by decide +kernel)) (own_more3 hu hc104 hc111 hc118)) hf) hZ0 (hw _ (List.mem_of_getElem? (i := 155) rfl)) (hw _ (List.mem_of_getElem? (i := 18) rfl)) (by decide) (by decide)) (g := (mkF m 19 #[.val (.ref a1), .val (.int (((p2 + (1 : Int32)) + (1 : Int32)) + (1 : Int32))), .val (.ref a3), .val (.int (3 : Int32)), .val (.int p5), .val (.int (3 : Int32)), .val (.int ((own_sh f p2) 2))] [(.int (((p2 + (1 : Int32)) + (1 : Int32)) + (1 : Int32))), (.ref a1)])) rfl (by rw [hml]; rfl) (argsL := [(.ref a1), (.int (((p2 + (1 : Int32)) + (1 : Int32)) + (1 : Int32)))]) (rest := []) (lenOf pd_4 rfl) rfl (by show 2 * 0 + _ ≤ _; exact Nat.le_of_eq rfl) (hb hby d35_19) (fun _ _ => ⟨rfl, e120, (by decide : 0 + 0 ≤ _), (by decide : 0 + 0 ≤ _)⟩)
        dsimp only [Pt.U, Pt.locs, Pt.cells, Pt.slots] at X123 l123 y123 z123 st123 hQ123
        subst l123 y123 z123
        obtain ⟨hv123, N123q, P123_0⟩ := hQ123
        obtain rfl := hv123.trans (congrArg (fun z => some (Value.int z)) (congrArg f ((own_e3 (P := fun o l n => (3 : Int32) < l → ((((o + (1 : Int32)) + (1 : Int32)) + (1 : Int32))).toNatClampNeg = o.toNatClampNeg + 3) sm rg (by decide +kernel)) (own_more3 hu hc104 hc111 hc118)) : (f (((p2 + (1 : Int32)) + (1 : Int32)) + (1 : Int32)).toNatClampNeg) = ((own_sh f p2) 3)))
        have N123 := Fr.app N120 N123q
        have pr124 : ∀ tg9, Steps p.tables e below (T123.setTop (mkF m 29 #[.val (.ref a1), .val (.int (((p2 + (1 : Int32)) + (1 : Int32)) + (1 : Int32))), .val (.ref a3), .val (.int (3 : Int32)), .val (.int p5), .val (.int (3 : Int32)), .val (.int ((own_sh f p2) 3))] [(.int (255 : Int32)), (.int ((own_sh f p2) 3))])) tg9 → Steps p.tables e below (s₁.setTop (mkF m 0 #[.val (.ref a1), .val (.int p2), .val (.ref a3), .val (.int (0 : Int32)), .val (.int p5), .unset, .unset] [])) tg9 := fun tg9 kt => by
          refine pr117 _ ?_
          show Steps p.tables e below (T116.setTop (mkF m 29 #[.val (.ref a1), .val (.int ((p2 + (1 : Int32)) + (1 : Int32))), .val (.ref a3), .val (.int (2 : Int32)), .val (.int p5), .val (.int (2 : Int32)), .val (.int ((own_sh f p2) 2))] [(.int (255 : Int32)), (.int ((own_sh f p2) 2))])) _
          refine XS.icmpYes X116.here hx rfl (pc0 := 29) (pc' := 35) rfl (hb hby d35_29) rfl (flt hc118).2.2.2 (by decide) (by decide) ?_
          show Steps p.tables e below (T116.setTop (mkF m 35 #[.val (.ref a1), .val (.int ((p2 + (1 : Int32)) + (1 : Int32))), .val (.ref a3), .val (.int (2 : Int32)), .val (.int p5), .val (.int (2 : Int32)), .val (.int ((own_sh f p2) 2))] [])) _
          refine XS.aloadN X116.here hx rfl (hb hby d35_35) rfl rfl ?_
          show Steps p.tables e below (T116.setTop (mkF m 36 #[.val (.ref a1), .val (.int ((p2 + (1 : Int32)) + (1 : Int32))), .val (.ref a3), .val (.int (2 : Int32)), .val (.int p5), .val (.int (2 : Int32)), .val (.int ((own_sh f p2) 2))] [(.ref a3)])) _
          refine XS.iloadN X116.here hx rfl (hb hby d35_36) rfl ?_
          show Steps p.tables e below (T116.setTop (mkF m 37 #[.val (.ref a1), .val (.int ((p2 + (1 : Int32)) + (1 : Int32))), .val (.ref a3), .val (.int (2 : Int32)), .val (.int p5), .val (.int (2 : Int32)), .val (.int ((own_sh f p2) 2))] [(.int (2 : Int32)), (.ref a3)])) _
          refine XS.iload X116.here hx rfl (hb hby d35_37) rfl ?_
          show Steps p.tables e below (T116.setTop (mkF m 39 #[.val (.ref a1), .val (.int ((p2 + (1 : Int32)) + (1 : Int32))), .val (.ref a3), .val (.int (2 : Int32)), .val (.int p5), .val (.int (2 : Int32)), .val (.int ((own_sh f p2) 2))] [(.int ((own_sh f p2) 2)), (.int (2 : Int32)), (.ref a3)])) _
          refine XS.i2b X116.here hx rfl (hb hby d35_39) rfl ?_
          show Steps p.tables e below (T116.setTop (mkF m 40 #[.val (.ref a1), .val (.int ((p2 + (1 : Int32)) + (1 : Int32))), .val (.ref a3), .val (.int (2 : Int32)), .val (.int p5), .val (.int (2 : Int32)), .val (.int ((own_sh f p2) 2))] [(.int (((own_sh f p2) 2).toInt8.toInt32)), (.int (2 : Int32)), (.ref a3)])) _
          refine st120 _ ?_
          show Steps p.tables e below (T120.setTop (mkF m 41 #[.val (.ref a1), .val (.int ((p2 + (1 : Int32)) + (1 : Int32))), .val (.ref a3), .val (.int (2 : Int32)), .val (.int p5), .val (.int (2 : Int32)), .val (.int ((own_sh f p2) 2))] [])) _
          refine XS.iinc X120.here hx rfl (hb hby d35_41) rfl (l' := #[.val (.ref a1), .val (.int (((p2 + (1 : Int32)) + (1 : Int32)) + (1 : Int32))), .val (.ref a3), .val (.int (2 : Int32)), .val (.int p5), .val (.int (2 : Int32)), .val (.int ((own_sh f p2) 2))]) rfl ?_
          show Steps p.tables e below (T120.setTop (mkF m 44 #[.val (.ref a1), .val (.int (((p2 + (1 : Int32)) + (1 : Int32)) + (1 : Int32))), .val (.ref a3), .val (.int (2 : Int32)), .val (.int p5), .val (.int (2 : Int32)), .val (.int ((own_sh f p2) 2))] [])) _
          refine XS.iinc X120.here hx rfl (hb hby d35_44) rfl (l' := #[.val (.ref a1), .val (.int (((p2 + (1 : Int32)) + (1 : Int32)) + (1 : Int32))), .val (.ref a3), .val (.int (3 : Int32)), .val (.int p5), .val (.int (2 : Int32)), .val (.int ((own_sh f p2) 2))]) rfl ?_
          show Steps p.tables e below (T120.setTop (mkF m 47 #[.val (.ref a1), .val (.int (((p2 + (1 : Int32)) + (1 : Int32)) + (1 : Int32))), .val (.ref a3), .val (.int (3 : Int32)), .val (.int p5), .val (.int (2 : Int32)), .val (.int ((own_sh f p2) 2))] [])) _
          refine XS.iinc X120.here hx rfl (hb hby d35_47) rfl (l' := #[.val (.ref a1), .val (.int (((p2 + (1 : Int32)) + (1 : Int32)) + (1 : Int32))), .val (.ref a3), .val (.int (3 : Int32)), .val (.int p5), .val (.int (3 : Int32)), .val (.int ((own_sh f p2) 2))]) rfl ?_
          show Steps p.tables e below (T120.setTop (mkF m 50 #[.val (.ref a1), .val (.int (((p2 + (1 : Int32)) + (1 : Int32)) + (1 : Int32))), .val (.ref a3), .val (.int (3 : Int32)), .val (.int p5), .val (.int (3 : Int32)), .val (.int ((own_sh f p2) 2))] [])) _
          refine XS.goto X120.here hx rfl (pc0 := 50) (pc' := 10) rfl (hb hby d35_50) (by decide) (by decide) ?_
          show Steps p.tables e below (T120.setTop (mkF m 10 #[.val (.ref a1), .val (.int (((p2 + (1 : Int32)) + (1 : Int32)) + (1 : Int32))), .val (.ref a3), .val (.int (3 : Int32)), .val (.int p5), .val (.int (3 : Int32)), .val (.int ((own_sh f p2) 2))] [])) _
          refine XS.iload X120.here hx rfl (hb hby d35_10) rfl ?_
          show Steps p.tables e below (T120.setTop (mkF m 12 #[.val (.ref a1), .val (.int (((p2 + (1 : Int32)) + (1 : Int32)) + (1 : Int32))), .val (.ref a3), .val (.int (3 : Int32)), .val (.int p5), .val (.int (3 : Int32)), .val (.int ((own_sh f p2) 2))] [(.int (3 : Int32))])) _
          refine XS.iload X120.here hx rfl (hb hby d35_12) rfl ?_
          show Steps p.tables e below (T120.setTop (mkF m 14 #[.val (.ref a1), .val (.int (((p2 + (1 : Int32)) + (1 : Int32)) + (1 : Int32))), .val (.ref a3), .val (.int (3 : Int32)), .val (.int p5), .val (.int (3 : Int32)), .val (.int ((own_sh f p2) 2))] [(.int p5), (.int (3 : Int32))])) _
          refine XS.icmpNo X120.here hx rfl (hb hby d35_14) rfl (tlt ((own_more3 hu hc104 hc111 hc118) : (3 : Int32) < p5)).2.1 ?_
          show Steps p.tables e below (T120.setTop (mkF m 17 #[.val (.ref a1), .val (.int (((p2 + (1 : Int32)) + (1 : Int32)) + (1 : Int32))), .val (.ref a3), .val (.int (3 : Int32)), .val (.int p5), .val (.int (3 : Int32)), .val (.int ((own_sh f p2) 2))] [])) _
          refine XS.aloadN X120.here hx rfl (hb hby d35_17) rfl rfl ?_
          show Steps p.tables e below (T120.setTop (mkF m 18 #[.val (.ref a1), .val (.int (((p2 + (1 : Int32)) + (1 : Int32)) + (1 : Int32))), .val (.ref a3), .val (.int (3 : Int32)), .val (.int p5), .val (.int (3 : Int32)), .val (.int ((own_sh f p2) 2))] [(.ref a1)])) _
          refine XS.iloadN X120.here hx rfl (hb hby d35_18) rfl ?_
          show Steps p.tables e below (T120.setTop (mkF m 19 #[.val (.ref a1), .val (.int (((p2 + (1 : Int32)) + (1 : Int32)) + (1 : Int32))), .val (.ref a3), .val (.int (3 : Int32)), .val (.int p5), .val (.int (3 : Int32)), .val (.int ((own_sh f p2) 2))] [(.int (((p2 + (1 : Int32)) + (1 : Int32)) + (1 : Int32))), (.ref a1)])) _
          refine st123 _ ?_
          show Steps p.tables e below (T123.setTop (mkF m 22 #[.val (.ref a1), .val (.int (((p2 + (1 : Int32)) + (1 : Int32)) + (1 : Int32))), .val (.ref a3), .val (.int (3 : Int32)), .val (.int p5), .val (.int (3 : Int32)), .val (.int ((own_sh f p2) 2))] [(.int ((own_sh f p2) 3))])) _
          refine XS.istore X123.here hx rfl (hb hby d35_22) rfl (l' := #[.val (.ref a1), .val (.int (((p2 + (1 : Int32)) + (1 : Int32)) + (1 : Int32))), .val (.ref a3), .val (.int (3 : Int32)), .val (.int p5), .val (.int (3 : Int32)), .val (.int ((own_sh f p2) 3))]) rfl ?_
          show Steps p.tables e below (T123.setTop (mkF m 24 #[.val (.ref a1), .val (.int (((p2 + (1 : Int32)) + (1 : Int32)) + (1 : Int32))), .val (.ref a3), .val (.int (3 : Int32)), .val (.int p5), .val (.int (3 : Int32)), .val (.int ((own_sh f p2) 3))] [])) _
          refine XS.iload X123.here hx rfl (hb hby d35_24) rfl ?_
          show Steps p.tables e below (T123.setTop (mkF m 26 #[.val (.ref a1), .val (.int (((p2 + (1 : Int32)) + (1 : Int32)) + (1 : Int32))), .val (.ref a3), .val (.int (3 : Int32)), .val (.int p5), .val (.int (3 : Int32)), .val (.int ((own_sh f p2) 3))] [(.int ((own_sh f p2) 3))])) _
          refine XS.sipush X123.here hx rfl (hb hby d35_26) ?_
          exact kt
        by_cases hc125 : (255 : Int32) < ((own_sh f p2) 3)
        · obtain ⟨fs, hr, hrun, hended, hW, hsame⟩ := X123.leave (v := some (.int (3 : Int32))) (fun h => by rw [Bd.returns] at h; cases h) hlk
          refine ⟨_, _, pre0 _ ?_, hrun, hended, _, _, rfl, ?_, ⟨_, rfl⟩, hW, hsame.mono (by decide) (by decide)⟩
          · refine pr124 _ ?_
            show Steps p.tables e below (T123.setTop (mkF m 29 #[.val (.ref a1), .val (.int (((p2 + (1 : Int32)) + (1 : Int32)) + (1 : Int32))), .val (.ref a3), .val (.int (3 : Int32)), .val (.int p5), .val (.int (3 : Int32)), .val (.int ((own_sh f p2) 3))] [(.int (255 : Int32)), (.int ((own_sh f p2) 3))])) _
            refine XS.icmpNo X123.here hx rfl (hb hby d35_29) rfl (tlt hc125).2.2.2 ?_
            show Steps p.tables e below (T123.setTop (mkF m 32 #[.val (.ref a1), .val (.int (((p2 + (1 : Int32)) + (1 : Int32)) + (1 : Int32))), .val (.ref a3), .val (.int (3 : Int32)), .val (.int p5), .val (.int (3 : Int32)), .val (.int ((own_sh f p2) 3))] [])) _
            refine XS.iload X123.here hx rfl (hb hby d35_32) rfl ?_
            show Steps p.tables e below (T123.setTop (mkF m 34 #[.val (.ref a1), .val (.int (((p2 + (1 : Int32)) + (1 : Int32)) + (1 : Int32))), .val (.ref a3), .val (.int (3 : Int32)), .val (.int p5), .val (.int (3 : Int32)), .val (.int ((own_sh f p2) 3))] [(.int (3 : Int32))])) _
            exact retI X123 hx Bd.returns (hb hby d35_34) hr
          · show Q35b Z a1 p2 a3 p5 w n f h0 n0 _ T123.heap _
            rw [P123_0]
            exact ⟨(3 : Int32), rfl, N123, K120, (show (255 : Int32) < own_sh f p2 3 from hc125), ⟨by decide, (own_more3 hu hc104 hc111 hc118)⟩⟩
        · obtain ⟨cl126, Ar126, Sz126, Nn126, Hs126⟩ := (id v120)
          obtain ⟨T127, h127, X127, e127, W127, st127⟩ := stB X123 hx hZ0 P123_0 Ar126 (j := (3 : Int32)) (inb_of Sz126 ⟨by decide, (own_more3 hu hc104 hc111 hc118)⟩) (g := (mkF m 40 #[.val (.ref a1), .val (.int (((p2 + (1 : Int32)) + (1 : Int32)) + (1 : Int32))), .val (.ref a3), .val (.int (3 : Int32)), .val (.int p5), .val (.int (3 : Int32)), .val (.int ((own_sh f p2) 3))] [(.int (((own_sh f p2) 3).toInt8.toInt32)), (.int (3 : Int32)), (.ref a3)])) rfl rfl (hb hby d35_40)
          have f128 : Old Z n0 h127 := f121.wr W127 g3
          have f129 : OwnU Z h127 a1 n f := OwnU.other f122 W127 n13
          have Zs127 : n0 ≤ h127.size := Nat.le_trans Zs120 (Keep.of_wr W127).1
          have N127 := Fr.snoc X127 N123 g3
          have K127 : Keep h0 h127 [a3] := K120.wr W127 (Or.inl (List.mem_of_getElem? (i := 0) rfl))
          have v127 : OwnB Z h127 a3 p5 4 (own_sh f p2) := (OwnB.put Ar126 Sz126 Nn126 Hs126 (inb_of Sz126 ⟨by decide, (own_more3 hu hc104 hc111 hc118)⟩) W127 (by decide) rfl)
          obtain ⟨_, _, ⟨T130, L130, k130, n130⟩, -, X130, ⟨Lc130, hQ130, l130, y130, z130⟩, st130⟩ := Jvm.LawKit.callS X127 hx (y := (⟨"java/lang/StringUTF16", "getChar", "([BI)C"⟩ : MethodName)) hown0 (mvT hZ0 (hw _ (List.mem_of_getElem? (i := 153) rfl))) (mvT hZ0 (hw _ (List.mem_of_getElem? (i := 154) rfl))) (mvT hZ0 (hw _ (List.mem_of_getElem? (i := 18) rfl))) (mvT hZ0 (hw _ (List.mem_of_getElem? (i := 155) rfl))) (by decide) (backOf (W := 0) (rm32 l Z a0 hw [] a1 ((((p2 + (1 : Int32)) + (1 : Int32)) + (1 : Int32)) + (1 : Int32)) w n f h127 n0 Zs127 f128 S0 hw0 SA SHI SLO FM f129 sm ((own_e3 (P := fun o l n => (4 : Int32) < l → own_ix ((((o + (1 : Int32)) + (1 : Int32)) + (1 : Int32)) + (1 : Int32)) n) sm rg (by decide +kernel)) (own_more4 hu hc104 hc111 hc118 hc125)) hf) hZ0 (hw _ (List.mem_of_getElem? (i := 155) rfl)) (hw _ (List.mem_of_getElem? (i := 18) rfl)) (by decide) (by decide)) (g := (mkF m 19 #[.val (.ref a1), .val (.int ((((p2 + (1 : Int32)) + (1 : Int32)) + (1 : Int32)) + (1 : Int32))), .val (.ref a3), .val (.int (4 : Int32)), .val (.int p5), .val (.int (4 : Int32)), .val (.int ((own_sh f p2) 3))] [(.int ((((p2 + (1 : Int32)) + (1 : Int32)) + (1 : Int32)) + (1 : Int32))), (.ref a1)])) rfl (by rw [hml]; rfl) (argsL := [(.ref a1), (.int ((((p2 + (1 : Int32)) + (1 : Int32)) + (1 : Int32)) + (1 : Int32)))]) (rest := []) (lenOf pd_4 rfl) rfl (by show 2 * 0 + _ ≤ _; exact Nat.le_of_eq rfl) (hb hby d35_19) (fun _ _ => ⟨rfl, e127, (by decide : 0 + 0 ≤ _), (by decide : 0 + 0 ≤ _)⟩)
          dsimp only [Pt.U, Pt.locs, Pt.cells, Pt.slots] at X130 l130 y130 z130 st130 hQ130
          subst l130 y130 z130
          obtain ⟨hv130, N130q, P130_0⟩ := hQ130
          obtain rfl := hv130.trans (congrArg (fun z => some (Value.int z)) (congrArg f ((own_e3 (P := fun o l n => (4 : Int32) < l → (((((o + (1 : Int32)) + (1 : Int32)) + (1 : Int32)) + (1 : Int32))).toNatClampNeg = o.toNatClampNeg + 4) sm rg (by decide +kernel)) (own_more4 hu hc104 hc111 hc118 hc125)) : (f ((((p2 + (1 : Int32)) + (1 : Int32)) + (1 : Int32)) + (1 : Int32)).toNatClampNeg) = ((own_sh f p2) 4)))
          have N130 := Fr.app N127 N130q
          obtain ⟨fs, hr, hrun, hended, hW, hsame⟩ := X130.leave (v := some (.int (4 : Int32))) (fun h => by rw [Bd.returns] at h; cases h) hlk
          refine ⟨_, _, pre0 _ ?_, hrun, hended, _, _, rfl, ?_, ⟨_, rfl⟩, hW, hsame.mono (by decide) (by decide)⟩
          · refine pr124 _ ?_
            show Steps p.tables e below (T123.setTop (mkF m 29 #[.val (.ref a1), .val (.int (((p2 + (1 : Int32)) + (1 : Int32)) + (1 : Int32))), .val (.ref a3), .val (.int (3 : Int32)), .val (.int p5), .val (.int (3 : Int32)), .val (.int ((own_sh f p2) 3))] [(.int (255 : Int32)), (.int ((own_sh f p2) 3))])) _
            refine XS.icmpYes X123.here hx rfl (pc0 := 29) (pc' := 35) rfl (hb hby d35_29) rfl (flt hc125).2.2.2 (by decide) (by decide) ?_
            show Steps p.tables e below (T123.setTop (mkF m 35 #[.val (.ref a1), .val (.int (((p2 + (1 : Int32)) + (1 : Int32)) + (1 : Int32))), .val (.ref a3), .val (.int (3 : Int32)), .val (.int p5), .val (.int (3 : Int32)), .val (.int ((own_sh f p2) 3))] [])) _
            refine XS.aloadN X123.here hx rfl (hb hby d35_35) rfl rfl ?_
            show Steps p.tables e below (T123.setTop (mkF m 36 #[.val (.ref a1), .val (.int (((p2 + (1 : Int32)) + (1 : Int32)) + (1 : Int32))), .val (.ref a3), .val (.int (3 : Int32)), .val (.int p5), .val (.int (3 : Int32)), .val (.int ((own_sh f p2) 3))] [(.ref a3)])) _
            refine XS.iloadN X123.here hx rfl (hb hby d35_36) rfl ?_
            show Steps p.tables e below (T123.setTop (mkF m 37 #[.val (.ref a1), .val (.int (((p2 + (1 : Int32)) + (1 : Int32)) + (1 : Int32))), .val (.ref a3), .val (.int (3 : Int32)), .val (.int p5), .val (.int (3 : Int32)), .val (.int ((own_sh f p2) 3))] [(.int (3 : Int32)), (.ref a3)])) _
            refine XS.iload X123.here hx rfl (hb hby d35_37) rfl ?_
            show Steps p.tables e below (T123.setTop (mkF m 39 #[.val (.ref a1), .val (.int (((p2 + (1 : Int32)) + (1 : Int32)) + (1 : Int32))), .val (.ref a3), .val (.int (3 : Int32)), .val (.int p5), .val (.int (3 : Int32)), .val (.int ((own_sh f p2) 3))] [(.int ((own_sh f p2) 3)), (.int (3 : Int32)), (.ref a3)])) _
            refine XS.i2b X123.here hx rfl (hb hby d35_39) rfl ?_
            show Steps p.tables e below (T123.setTop (mkF m 40 #[.val (.ref a1), .val (.int (((p2 + (1 : Int32)) + (1 : Int32)) + (1 : Int32))), .val (.ref a3), .val (.int (3 : Int32)), .val (.int p5), .val (.int (3 : Int32)), .val (.int ((own_sh f p2) 3))] [(.int (((own_sh f p2) 3).toInt8.toInt32)), (.int (3 : Int32)), (.ref a3)])) _
            refine st127 _ ?_
            show Steps p.tables e below (T127.setTop (mkF m 41 #[.val (.ref a1), .val (.int (((p2 + (1 : Int32)) + (1 : Int32)) + (1 : Int32))), .val (.ref a3), .val (.int (3 : Int32)), .val (.int p5), .val (.int (3 : Int32)), .val (.int ((own_sh f p2) 3))] [])) _
            refine XS.iinc X127.here hx rfl (hb hby d35_41) rfl (l' := #[.val (.ref a1), .val (.int ((((p2 + (1 : Int32)) + (1 : Int32)) + (1 : Int32)) + (1 : Int32))), .val (.ref a3), .val (.int (3 : Int32)), .val (.int p5), .val (.int (3 : Int32)), .val (.int ((own_sh f p2) 3))]) rfl ?_
            show Steps p.tables e below (T127.setTop (mkF m 44 #[.val (.ref a1), .val (.int ((((p2 + (1 : Int32)) + (1 : Int32)) + (1 : Int32)) + (1 : Int32))), .val (.ref a3), .val (.int (3 : Int32)), .val (.int p5), .val (.int (3 : Int32)), .val (.int ((own_sh f p2) 3))] [])) _
            refine XS.iinc X127.here hx rfl (hb hby d35_44) rfl (l' := #[.val (.ref a1), .val (.int ((((p2 + (1 : Int32)) + (1 : Int32)) + (1 : Int32)) + (1 : Int32))), .val (.ref a3), .val (.int (4 : Int32)), .val (.int p5), .val (.int (3 : Int32)), .val (.int ((own_sh f p2) 3))]) rfl ?_
            show Steps p.tables e below (T127.setTop (mkF m 47 #[.val (.ref a1), .val (.int ((((p2 + (1 : Int32)) + (1 : Int32)) + (1 : Int32)) + (1 : Int32))), .val (.ref a3), .val (.int (4 : Int32)), .val (.int p5), .val (.int (3 : Int32)), .val (.int ((own_sh f p2) 3))] [])) _
            refine XS.iinc X127.here hx rfl (hb hby d35_47) rfl (l' := #[.val (.ref a1), .val (.int ((((p2 + (1 : Int32)) + (1 : Int32)) + (1 : Int32)) + (1 : Int32))), .val (.ref a3), .val (.int (4 : Int32)), .val (.int p5), .val (.int (4 : Int32)), .val (.int ((own_sh f p2) 3))]) rfl ?_
            show Steps p.tables e below (T127.setTop (mkF m 50 #[.val (.ref a1), .val (.int ((((p2 + (1 : Int32)) + (1 : Int32)) + (1 : Int32)) + (1 : Int32))), .val (.ref a3), .val (.int (4 : Int32)), .val (.int p5), .val (.int (4 : Int32)), .val (.int ((own_sh f p2) 3))] [])) _
            refine XS.goto X127.here hx rfl (pc0 := 50) (pc' := 10) rfl (hb hby d35_50) (by decide) (by decide) ?_
            show Steps p.tables e below (T127.setTop (mkF m 10 #[.val (.ref a1), .val (.int ((((p2 + (1 : Int32)) + (1 : Int32)) + (1 : Int32)) + (1 : Int32))), .val (.ref a3), .val (.int (4 : Int32)), .val (.int p5), .val (.int (4 : Int32)), .val (.int ((own_sh f p2) 3))] [])) _
            refine XS.iload X127.here hx rfl (hb hby d35_10) rfl ?_
            show Steps p.tables e below (T127.setTop (mkF m 12 #[.val (.ref a1), .val (.int ((((p2 + (1 : Int32)) + (1 : Int32)) + (1 : Int32)) + (1 : Int32))), .val (.ref a3), .val (.int (4 : Int32)), .val (.int p5), .val (.int (4 : Int32)), .val (.int ((own_sh f p2) 3))] [(.int (4 : Int32))])) _
            refine XS.iload X127.here hx rfl (hb hby d35_12) rfl ?_
            show Steps p.tables e below (T127.setTop (mkF m 14 #[.val (.ref a1), .val (.int ((((p2 + (1 : Int32)) + (1 : Int32)) + (1 : Int32)) + (1 : Int32))), .val (.ref a3), .val (.int (4 : Int32)), .val (.int p5), .val (.int (4 : Int32)), .val (.int ((own_sh f p2) 3))] [(.int p5), (.int (4 : Int32))])) _
            refine XS.icmpNo X127.here hx rfl (hb hby d35_14) rfl (tlt ((own_more4 hu hc104 hc111 hc118 hc125) : (4 : Int32) < p5)).2.1 ?_
            show Steps p.tables e below (T127.setTop (mkF m 17 #[.val (.ref a1), .val (.int ((((p2 + (1 : Int32)) + (1 : Int32)) + (1 : Int32)) + (1 : Int32))), .val (.ref a3), .val (.int (4 : Int32)), .val (.int p5), .val (.int (4 : Int32)), .val (.int ((own_sh f p2) 3))] [])) _
            refine XS.aloadN X127.here hx rfl (hb hby d35_17) rfl rfl ?_
            show Steps p.tables e below (T127.setTop (mkF m 18 #[.val (.ref a1), .val (.int ((((p2 + (1 : Int32)) + (1 : Int32)) + (1 : Int32)) + (1 : Int32))), .val (.ref a3), .val (.int (4 : Int32)), .val (.int p5), .val (.int (4 : Int32)), .val (.int ((own_sh f p2) 3))] [(.ref a1)])) _
            refine XS.iloadN X127.here hx rfl (hb hby d35_18) rfl ?_
            show Steps p.tables e below (T127.setTop (mkF m 19 #[.val (.ref a1), .val (.int ((((p2 + (1 : Int32)) + (1 : Int32)) + (1 : Int32)) + (1 : Int32))), .val (.ref a3), .val (.int (4 : Int32)), .val (.int p5), .val (.int (4 : Int32)), .val (.int ((own_sh f p2) 3))] [(.int ((((p2 + (1 : Int32)) + (1 : Int32)) + (1 : Int32)) + (1 : Int32))), (.ref a1)])) _
            refine st130 _ ?_
            show Steps p.tables e below (T130.setTop (mkF m 22 #[.val (.ref a1), .val (.int ((((p2 + (1 : Int32)) + (1 : Int32)) + (1 : Int32)) + (1 : Int32))), .val (.ref a3), .val (.int (4 : Int32)), .val (.int p5), .val (.int (4 : Int32)), .val (.int ((own_sh f p2) 3))] [(.int ((own_sh f p2) 4))])) _
            refine XS.istore X130.here hx rfl (hb hby d35_22) rfl (l' := #[.val (.ref a1), .val (.int ((((p2 + (1 : Int32)) + (1 : Int32)) + (1 : Int32)) + (1 : Int32))), .val (.ref a3), .val (.int (4 : Int32)), .val (.int p5), .val (.int (4 : Int32)), .val (.int ((own_sh f p2) 4))]) rfl ?_
            show Steps p.tables e below (T130.setTop (mkF m 24 #[.val (.ref a1), .val (.int ((((p2 + (1 : Int32)) + (1 : Int32)) + (1 : Int32)) + (1 : Int32))), .val (.ref a3), .val (.int (4 : Int32)), .val (.int p5), .val (.int (4 : Int32)), .val (.int ((own_sh f p2) 4))] [])) _
            refine XS.iload X130.here hx rfl (hb hby d35_24) rfl ?_
            show Steps p.tables e below (T130.setTop (mkF m 26 #[.val (.ref a1), .val (.int ((((p2 + (1 : Int32)) + (1 : Int32)) + (1 : Int32)) + (1 : Int32))), .val (.ref a3), .val (.int (4 : Int32)), .val (.int p5), .val (.int (4 : Int32)), .val (.int ((own_sh f p2) 4))] [(.int ((own_sh f p2) 4))])) _
            refine XS.sipush X130.here hx rfl (hb hby d35_26) ?_
            show Steps p.tables e below (T130.setTop (mkF m 29 #[.val (.ref a1), .val (.int ((((p2 + (1 : Int32)) + (1 : Int32)) + (1 : Int32)) + (1 : Int32))), .val (.ref a3), .val (.int (4 : Int32)), .val (.int p5), .val (.int (4 : Int32)), .val (.int ((own_sh f p2) 4))] [(.int (255 : Int32)), (.int ((own_sh f p2) 4))])) _
            refine XS.icmpNo X130.here hx rfl (hb hby d35_29) rfl (tlt ((Classical.byContradiction fun q => absurd (own_more5 hu hc104 hc111 hc118 hc125 q) (own_e3 (P := fun o l n => ¬ (5 : Int32) < l) sm rg (by decide +kernel))) : (255 : Int32) < ((own_sh f p2) 4))).2.2.2 ?_
            show Steps p.tables e below (T130.setTop (mkF m 32 #[.val (.ref a1), .val (.int ((((p2 + (1 : Int32)) + (1 : Int32)) + (1 : Int32)) + (1 : Int32))), .val (.ref a3), .val (.int (4 : Int32)), .val (.int p5), .val (.int (4 : Int32)), .val (.int ((own_sh f p2) 4))] [])) _
            refine XS.iload X130.here hx rfl (hb hby d35_32) rfl ?_
            show Steps p.tables e below (T130.setTop (mkF m 34 #[.val (.ref a1), .val (.int ((((p2 + (1 : Int32)) + (1 : Int32)) + (1 : Int32)) + (1 : Int32))), .val (.ref a3), .val (.int (4 : Int32)), .val (.int p5), .val (.int (4 : Int32)), .val (.int ((own_sh f p2) 4))] [(.int (4 : Int32))])) _
            exact retI X130 hx Bd.returns (hb hby d35_34) hr
          · show Q35b Z a1 p2 a3 p5 w n f h0 n0 _ T130.heap _
            rw [P130_0]
            exact ⟨(4 : Int32), rfl, N130, K127, (show (255 : Int32) < own_sh f p2 4 from (Classical.byContradiction fun q => absurd (own_more5 hu hc104 hc111 hc118 hc125 q) (own_e3 (P := fun o l n => ¬ (5 : Int32) < l) sm rg (by decide +kernel)))), ⟨by decide, (own_more4 hu hc104 hc111 hc118 hc125)⟩⟩
theorem ef_34a (m : MethodId) (x0 : Addr) (x1 : Int32) (x2 : Int32) : entryFrame m #[(.ref x0), (.int x1), (.int x2)] 6 = mkF m 0 #[.val (.ref x0), .val (.int x1), .val (.int x2), .unset, .unset, .unset] [] := by first | (simp [entryFrame, mkF, argsToLocals, Value.category]; done) | rfl
theorem d34_0 : decode jdk_52_method_17_code 0 = .ok (.iload_n 2, 1) := by decide +kernel
theorem d34_1 : decode jdk_52_method_17_code 1 = .ok (.newarray .byte, 2) := by decide +kernel
theorem d34_3 : decode jdk_52_method_17_code 3 = .ok (.astore_n 3, 1) := by decide +kernel
theorem d34_4 : decode jdk_52_method_17_code 4 = .ok (.aload_n 0, 1) := by decide +kernel
theorem d34_5 : decode jdk_52_method_17_code 5 = .ok (.iload_n 1, 1) := by decide +kernel
theorem d34_6 : decode jdk_52_method_17_code 6 = .ok (.aload_n 3, 1) := by decide +kernel
theorem d34_7 : decode jdk_52_method_17_code 7 = .ok (.iconst 0, 1) := by decide +kernel
theorem d34_8 : decode jdk_52_method_17_code 8 = .ok (.iload_n 2, 1) := by decide +kernel
theorem d34_9 : decode jdk_52_method_17_code 9 = .ok (.invokestatic 123, 3) := by decide +kernel
theorem pd_19 : parseMethodDescriptor "([BI[BII)I" = some ⟨[(.array .byte), .int, (.array .byte), .int, .int], some .int⟩ := by decide +kernel
theorem d34_12 : decode jdk_52_method_17_code 12 = .ok (.istore 4, 2) := by decide +kernel
theorem d34_14 : decode jdk_52_method_17_code 14 = .ok (.iload 4, 2) := by decide +kernel
theorem d34_16 : decode jdk_52_method_17_code 16 = .ok (.iload_n 2, 1) := by decide +kernel
theorem d34_17 : decode jdk_52_method_17_code 17 = .ok (.if_icmp .eq 47, 3) := by decide +kernel
theorem d34_64 : decode jdk_52_method_17_code 64 = .ok (.aload_n 3, 1) := by decide +kernel
theorem d34_65 : decode jdk_52_method_17_code 65 = .ok (.areturn, 1) := by decide +kernel
def Q34a (Z : State) (a1 : Addr) (p2 : Int32) (p3 : Int32) (w : Int32) (n : Int32) (f : Nat → Int32) (h0 : Heap) (n0 : Nat) (v : Option Value) (h : Heap) (L : List Loc) : Prop := ∃ b : Addr, v = some (.ref b) ∧ Fr n0 L ∧ (Keep h0 h []) ∧ (h0.size ≤ b) ∧ (OwnL Z h b p3 (own_sh f p2))
set_option maxRecDepth 65536 in
set_option maxHeartbeats 40000000 in
theorem rm34a (l : Launch) (Z : State) (a0 : Array Value) (hw : ∀ d ∈ tables_1, d.before a0 Z = true) (ws : List Jvm.Cond) (a1 : Addr) (p2 : Int32) (p3 : Int32) (w : Int32) (n : Int32) (f : Nat → Int32) (h0 : Heap) (n0 : Nat) (Z0 : n0 ≤ h0.size) (O0 : Old Z n0 h0) (S0 : Sta Z Z.heap "java/lang/String" "COMPACT_STRINGS" "Z" (.int w)) (hw0 : ¬ (w = (0 : Int32))) (SA : Sta Z Z.heap "java/lang/StringUTF16" "$assertionsDisabled" "Z" (.int (1 : Int32))) (SHI : Sta Z Z.heap "java/lang/StringUTF16" "HI_BYTE_SHIFT" "I" (.int (0 : Int32))) (SLO : Sta Z Z.heap "java/lang/StringUTF16" "LO_BYTE_SHIFT" "I" (.int (8 : Int32))) (FM : Fmt Z) (U1 : OwnU Z h0 a1 n f) (sm : own_sm n) (rg : own_rg p2 p3 n) (l0 : (0 : Int32) < p3) (nf : ¬ (p2 = (0 : Int32) ∧ p3 = n)) (hf : own_ch f) (hl : own_lat (own_sh f p2) p3) :
    MetFree l (⟨"java/lang/StringUTF16", "compress", "([BII)[B"⟩ : MethodName) (head1 (Jvm.Cond.code (⟨"java/lang/StringUTF16", "compress", "([BII)[B"⟩ : MethodName) jdk_52_method_17_code 6 (some (.array .byte)) :: ws) ({ frames := 4, cells := 1, slots := 16, locals := 61 } : Room)) (fun a U => a = #[(.ref a1), (.int p2), (.int p3)] ∧ Z.Warmed39 U.vm ∧ U.heap = h0) (fun _ _ _ _ _ => True) (fun _ U o U' => ∃ v L, o = .returned v ∧ Q34a Z a1 p2 p3 w n f h0 n0 v U'.heap L ∧ FrameEnd U o U' L ({ frames := 4, cells := 1, slots := 16, locals := 61 } : Room).cells ({ frames := 4, cells := 1, slots := 16, locals := 61 } : Room).slots) := by
  refine MetFree.of_bodySF (plainFor_of_name pn_2) hisR ?_
  intro p e s m args below meth c s₁ Bd hml0 hP hK
  obtain ⟨rfl, hZ0, hh⟩ := hP
  have hx := Bd.exec
  have hby := Bd.bytes
  have hml : c.maxLocals = 6 := hml0
  have hown0 : s.vm.findClass "java/lang/StringUTF16" = some m.cls := findClass_of_methodNamed Bd.named
  have hnm := (name_of_methodNamed Bd.named Bd.method).1
  have hlk : meth.locks = false := by first | exact BodyLoose.notSynchronized Bd | exact Body.notSynchronized Bd
  have X0 : Stand p l e ({ frames := 4, cells := 1, slots := 16, locals := 61 } : Room) s m #[(.ref a1), (.int p2), (.int p3)] below meth c s₁ [] 0 0 := Stand.of_body Bd
  have e0 : s₁.heap = h0 := by rw [← hh, Bd.state]; rfl
  have N0 := Fr.nil n0
  have pre0 : ∀ t, Steps p.tables e below (s₁.setTop (mkF m 0 #[.val (.ref a1), .val (.int p2), .val (.int p3), .unset, .unset, .unset] [])) t → Steps p.tables e below (s₁.setTop (entryFrame m #[(.ref a1), (.int p2), (.int p3)] 6)) t := fun t k => castTop (ef_34a m a1 p2 p3) k
  obtain ⟨T101, h101, k101, X101, e101, E101, A101, st101⟩ := newP X0 hx hZ0 (hw _ (List.mem_of_getElem? (i := 20) rfl)) e0 (g := (mkF m 1 #[.val (.ref a1), .val (.int p2), .val (.int p3), .unset, .unset, .unset] [(.int p3)])) rfl (hb hby d34_1) rfl rg.2.1 (cap := 16) (own_e3 (P := fun o l n => l.toNatClampNeg ≤ 16) sm rg (by decide +kernel)) (by decide) (by decide) (by decide)
  obtain ⟨b101, g101⟩ : ∃ z, z = h0.size := ⟨_, rfl⟩
  rw [← g101] at A101 st101
  have ne_a1_b101 : a1 ≠ b101 := Nat.ne_of_lt (Nat.lt_of_lt_of_le U1.lt (Nat.le_of_eq g101.symm))
  have gn_b101 : n0 ≤ b101 := Nat.le_trans Z0 (Nat.le_of_eq g101.symm)
  have sz_b101 : h0.size ≤ b101 := Nat.le_trans (Keep.refl h0 []).1 (Nat.le_of_eq g101.symm)
  have f102 : Old Z n0 h101 := O0.ext E101
  have f103 : OwnU Z h101 a1 n f := OwnU.ext U1 E101
  have Zs101 : n0 ≤ h101.size := Nat.le_trans Z0 E101.1
  have K101 : Keep h0 h101 [] := (Keep.refl h0 []).ext E101
  have v101 : OwnB Z h101 b101 p3 0 (own_sh f p2) := OwnB.new A101 rg.2.1 _
  obtain ⟨_, _, ⟨T104, L104, k104, n104⟩, -, X104, ⟨Lc104, hQ104, l104, y104, z104⟩, st104⟩ := Jvm.LawKit.callS X101 hx (y := (⟨"java/lang/StringUTF16", "compress", "([BI[BII)I"⟩ : MethodName)) hown0 (mvT hZ0 (hw _ (List.mem_of_getElem? (i := 164) rfl))) (mvT hZ0 (hw _ (List.mem_of_getElem? (i := 165) rfl))) (mvT hZ0 (hw _ (List.mem_of_getElem? (i := 18) rfl))) (mvT hZ0 (hw _ (List.mem_of_getElem? (i := 166) rfl))) (by decide) (backOf (W := 0) (rm35a l Z a0 hw [] a1 p2 b101 p3 w n f h101 n0 Zs101 f102 S0 hw0 SA SHI SLO FM f103 sm rg l0 v101 gn_b101 ne_a1_b101 hf hl) hZ0 (hw _ (List.mem_of_getElem? (i := 166) rfl)) (hw _ (List.mem_of_getElem? (i := 18) rfl)) (by decide) (by decide)) (g := (mkF m 9 #[.val (.ref a1), .val (.int p2), .val (.int p3), .val (.ref b101), .unset, .unset] [(.int p3), (.int (0 : Int32)), (.ref b101), (.int p2), (.ref a1)])) rfl (by rw [hml]; rfl) (argsL := [(.ref a1), (.int p2), (.ref b101), (.int (0 : Int32)), (.int p3)]) (rest := []) (lenOf pd_19 rfl) rfl (by show 2 * 0 + _ ≤ _; exact Nat.le_of_eq rfl) (hb hby d34_9) (fun _ _ => ⟨rfl, e101, (by decide : 1 + 0 ≤ _), (by decide : 16 + 0 ≤ _)⟩)
  dsimp only [Pt.U, Pt.locs, Pt.cells, Pt.slots] at X104 l104 y104 z104 st104 hQ104
  subst l104 y104 z104
  obtain ⟨rfl, N104q, P104_0, P104_1⟩ := hQ104
  have N104 := Fr.app N0 N104q
  have f105 : Old Z n0 T104.heap := f102.keep P104_0 (allS gn_b101 all0)
  have f106 : OwnU Z T104.heap a1 n f := OwnU.keep f103 P104_0 (ninS ne_a1_b101 nin0)
  have Zs104 : n0 ≤ T104.heap.size := Nat.le_trans Zs101 P104_0.1
  have K104 : Keep h0 T104.heap [] := K101.trans P104_0 (allS (Or.inr sz_b101) all0)
  obtain ⟨fs, hr, hrun, hended, hW, hsame⟩ := X104.leave (v := some (.ref b101)) (fun h => by rw [Bd.returns] at h; cases h) hlk
  refine ⟨_, _, pre0 _ ?_, hrun, hended, _, _, rfl, ?_, ⟨_, rfl⟩, hW, hsame.mono (by decide) (by decide)⟩
  · show Steps p.tables e below (s₁.setTop (mkF m 0 #[.val (.ref a1), .val (.int p2), .val (.int p3), .unset, .unset, .unset] [])) _
    refine XS.iloadN X0.here hx rfl (hb hby d34_0) rfl ?_
    show Steps p.tables e below (s₁.setTop (mkF m 1 #[.val (.ref a1), .val (.int p2), .val (.int p3), .unset, .unset, .unset] [(.int p3)])) _
    refine st101 _ ?_
    show Steps p.tables e below (T101.setTop (mkF m 3 #[.val (.ref a1), .val (.int p2), .val (.int p3), .unset, .unset, .unset] [(.ref b101)])) _
    refine XS.astoreN X101.here hx rfl (hb hby d34_3) rfl rfl (l' := #[.val (.ref a1), .val (.int p2), .val (.int p3), .val (.ref b101), .unset, .unset]) rfl ?_
    show Steps p.tables e below (T101.setTop (mkF m 4 #[.val (.ref a1), .val (.int p2), .val (.int p3), .val (.ref b101), .unset, .unset] [])) _
    refine XS.aloadN X101.here hx rfl (hb hby d34_4) rfl rfl ?_
    show Steps p.tables e below (T101.setTop (mkF m 5 #[.val (.ref a1), .val (.int p2), .val (.int p3), .val (.ref b101), .unset, .unset] [(.ref a1)])) _
    refine XS.iloadN X101.here hx rfl (hb hby d34_5) rfl ?_
    show Steps p.tables e below (T101.setTop (mkF m 6 #[.val (.ref a1), .val (.int p2), .val (.int p3), .val (.ref b101), .unset, .unset] [(.int p2), (.ref a1)])) _
    refine XS.aloadN X101.here hx rfl (hb hby d34_6) rfl rfl ?_
    show Steps p.tables e below (T101.setTop (mkF m 7 #[.val (.ref a1), .val (.int p2), .val (.int p3), .val (.ref b101), .unset, .unset] [(.ref b101), (.int p2), (.ref a1)])) _
    refine XS.iconst X101.here hx rfl (hb hby d34_7) ?_
    show Steps p.tables e below (T101.setTop (mkF m 8 #[.val (.ref a1), .val (.int p2), .val (.int p3), .val (.ref b101), .unset, .unset] [(.int (0 : Int32)), (.ref b101), (.int p2), (.ref a1)])) _
    refine XS.iloadN X101.here hx rfl (hb hby d34_8) rfl ?_
    show Steps p.tables e below (T101.setTop (mkF m 9 #[.val (.ref a1), .val (.int p2), .val (.int p3), .val (.ref b101), .unset, .unset] [(.int p3), (.int (0 : Int32)), (.ref b101), (.int p2), (.ref a1)])) _
    refine st104 _ ?_
    show Steps p.tables e below (T104.setTop (mkF m 12 #[.val (.ref a1), .val (.int p2), .val (.int p3), .val (.ref b101), .unset, .unset] [(.int p3)])) _
    refine XS.istore X104.here hx rfl (hb hby d34_12) rfl (l' := #[.val (.ref a1), .val (.int p2), .val (.int p3), .val (.ref b101), .val (.int p3), .unset]) rfl ?_
    show Steps p.tables e below (T104.setTop (mkF m 14 #[.val (.ref a1), .val (.int p2), .val (.int p3), .val (.ref b101), .val (.int p3), .unset] [])) _
    refine XS.iload X104.here hx rfl (hb hby d34_14) rfl ?_
    show Steps p.tables e below (T104.setTop (mkF m 16 #[.val (.ref a1), .val (.int p2), .val (.int p3), .val (.ref b101), .val (.int p3), .unset] [(.int p3)])) _
    refine XS.iloadN X104.here hx rfl (hb hby d34_16) rfl ?_
    show Steps p.tables e below (T104.setTop (mkF m 17 #[.val (.ref a1), .val (.int p2), .val (.int p3), .val (.ref b101), .val (.int p3), .unset] [(.int p3), (.int p3)])) _
    refine XS.icmpYes X104.here hx rfl (pc0 := 17) (pc' := 64) rfl (hb hby d34_17) rfl (teq (rfl : p3 = p3)).1 (by decide) (by decide) ?_
    show Steps p.tables e below (T104.setTop (mkF m 64 #[.val (.ref a1), .val (.int p2), .val (.int p3), .val (.ref b101), .val (.int p3), .unset] [])) _
    refine XS.aloadN X104.here hx rfl (hb hby d34_64) rfl rfl ?_
    show Steps p.tables e below (T104.setTop (mkF m 65 #[.val (.ref a1), .val (.int p2), .val (.int p3), .val (.ref b101), .val (.int p3), .unset] [(.ref b101)])) _
    jvm_step X104.here [X104.here.top, hx, (hb hby d34_65), X104.method', Bd.returns, Value.isRef, FieldType.isReference]
    first | (intro acts; rw [hr _ acts rfl rfl rfl]) | rw [hr _ _ rfl rfl rfl]
    exact Steps.refl _
  · show Q34a Z a1 p2 p3 w n f h0 n0 _ T104.heap _
    exact ⟨b101, rfl, N104, K104, sz_b101, P104_1⟩
theorem ef_34b (m : MethodId) (x0 : Addr) (x1 : Int32) (x2 : Int32) : entryFrame m #[(.ref x0), (.int x1), (.int x2)] 6 = mkF m 0 #[.val (.ref x0), .val (.int x1), .val (.int x2), .unset, .unset, .unset] [] := by first | (simp [entryFrame, mkF, argsToLocals, Value.category]; done) | rfl
theorem d34_20 : decode jdk_52_method_17_code 20 = .ok (.aload_n 0, 1) := by decide +kernel
theorem d34_21 : decode jdk_52_method_17_code 21 = .ok (.iload_n 1, 1) := by decide +kernel
theorem d34_22 : decode jdk_52_method_17_code 22 = .ok (.iconst 1, 1) := by decide +kernel
theorem d34_23 : decode jdk_52_method_17_code 23 = .ok (.ishl, 1) := by decide +kernel
theorem d34_24 : decode jdk_52_method_17_code 24 = .ok (.iload_n 1, 1) := by decide +kernel
theorem d34_25 : decode jdk_52_method_17_code 25 = .ok (.iload_n 2, 1) := by decide +kernel
theorem d34_26 : decode jdk_52_method_17_code 26 = .ok (.iadd, 1) := by decide +kernel
theorem d34_27 : decode jdk_52_method_17_code 27 = .ok (.invokestatic 11, 3) := by decide +kernel
theorem d34_30 : decode jdk_52_method_17_code 30 = .ok (.invokestatic 126, 3) := by decide +kernel
theorem d34_33 : decode jdk_52_method_17_code 33 = .ok (.astore 5, 2) := by decide +kernel
theorem d34_35 : decode jdk_52_method_17_code 35 = .ok (.aload 5, 2) := by decide +kernel
theorem d34_37 : decode jdk_52_method_17_code 37 = .ok (.iload 4, 2) := by decide +kernel
theorem d34_39 : decode jdk_52_method_17_code 39 = .ok (.invokestatic 71, 3) := by decide +kernel
theorem d34_42 : decode jdk_52_method_17_code 42 = .ok (.sipush 255, 3) := by decide +kernel
theorem d34_45 : decode jdk_52_method_17_code 45 = .ok (.if_icmp .gt 16, 3) := by decide +kernel
theorem d34_61 : decode jdk_52_method_17_code 61 = .ok (.aload 5, 2) := by decide +kernel
theorem d34_63 : decode jdk_52_method_17_code 63 = .ok (.areturn, 1) := by decide +kernel
def Q34b (Z : State) (a1 : Addr) (p2 : Int32) (p3 : Int32) (w : Int32) (n : Int32) (f : Nat → Int32) (h0 : Heap) (n0 : Nat) (v : Option Value) (h : Heap) (L : List Loc) : Prop := ∃ b : Addr, v = some (.ref b) ∧ Fr n0 L ∧ (Keep h0 h []) ∧ (h0.size ≤ b) ∧ (OwnU Z h b p3 (own_sh f p2))
set_option maxRecDepth 65536 in
set_option maxHeartbeats 40000000 in
theorem rm34b (l : Launch) (Z : State) (a0 : Array Value) (hw : ∀ d ∈ tables_1, d.before a0 Z = true) (ws : List Jvm.Cond) (a1 : Addr) (p2 : Int32) (p3 : Int32) (w : Int32) (n : Int32) (f : Nat → Int32) (h0 : Heap) (n0 : Nat) (Z0 : n0 ≤ h0.size) (O0 : Old Z n0 h0) (S0 : Sta Z Z.heap "java/lang/String" "COMPACT_STRINGS" "Z" (.int w)) (hw0 : ¬ (w = (0 : Int32))) (SA : Sta Z Z.heap "java/lang/StringUTF16" "$assertionsDisabled" "Z" (.int (1 : Int32))) (SHI : Sta Z Z.heap "java/lang/StringUTF16" "HI_BYTE_SHIFT" "I" (.int (0 : Int32))) (SLO : Sta Z Z.heap "java/lang/StringUTF16" "LO_BYTE_SHIFT" "I" (.int (8 : Int32))) (FM : Fmt Z) (U1 : OwnU Z h0 a1 n f) (sm : own_sm n) (rg : own_rg p2 p3 n) (l0 : (0 : Int32) < p3) (nf : ¬ (p2 = (0 : Int32) ∧ p3 = n)) (hf : own_ch f) (hu : ¬ (own_lat (own_sh f p2) p3)) :
    MetFree l (⟨"java/lang/StringUTF16", "compress", "([BII)[B"⟩ : MethodName) (head1 (Jvm.Cond.code (⟨"java/lang/StringUTF16", "compress", "([BII)[B"⟩ : MethodName) jdk_52_method_17_code 6 (some (.array .byte)) :: ws) ({ frames := 4, cells := 2, slots := 32, locals := 61 } : Room)) (fun a U => a = #[(.ref a1), (.int p2), (.int p3)] ∧ Z.Warmed39 U.vm ∧ U.heap = h0) (fun _ _ _ _ _ => True) (fun _ U o U' => ∃ v L, o = .returned v ∧ Q34b Z a1 p2 p3 w n f h0 n0 v U'.heap L ∧ FrameEnd U o U' L ({ frames := 4, cells := 2, slots := 32, locals := 61 } : Room).cells ({ frames := 4, cells := 2, slots := 32, locals := 61 } : Room).slots) := by
  refine MetFree.of_bodySF (plainFor_of_name pn_2) hisR ?_
  intro p e s m args below meth c s₁ Bd hml0 hP hK
  obtain ⟨rfl, hZ0, hh⟩ := hP
  have hx := Bd.exec
  have hby := Bd.bytes
  have hml : c.maxLocals = 6 := hml0
  have hown0 : s.vm.findClass "java/lang/StringUTF16" = some m.cls := findClass_of_methodNamed Bd.named
  have hnm := (name_of_methodNamed Bd.named Bd.method).1
  have hlk : meth.locks = false := by first | exact BodyLoose.notSynchronized Bd | exact Body.notSynchronized Bd
  have X0 : Stand p l e ({ frames := 4, cells := 2, slots := 32, locals := 61 } : Room) s m #[(.ref a1), (.int p2), (.int p3)] below meth c s₁ [] 0 0 := Stand.of_body Bd
  have e0 : s₁.heap = h0 := by rw [← hh, Bd.state]; rfl
  have N0 := Fr.nil n0
  have pre0 : ∀ t, Steps p.tables e below (s₁.setTop (mkF m 0 #[.val (.ref a1), .val (.int p2), .val (.int p3), .unset, .unset, .unset] [])) t → Steps p.tables e below (s₁.setTop (entryFrame m #[(.ref a1), (.int p2), (.int p3)] 6)) t := fun t k => castTop (ef_34b m a1 p2 p3) k
  obtain ⟨T101, h101, k101, X101, e101, E101, A101, st101⟩ := newP X0 hx hZ0 (hw _ (List.mem_of_getElem? (i := 20) rfl)) e0 (g := (mkF m 1 #[.val (.ref a1), .val (.int p2), .val (.int p3), .unset, .unset, .unset] [(.int p3)])) rfl (hb hby d34_1) rfl rg.2.1 (cap := 16) (own_e3 (P := fun o l n => l.toNatClampNeg ≤ 16) sm rg (by decide +kernel)) (by decide) (by decide) (by decide)
  obtain ⟨b101, g101⟩ : ∃ z, z = h0.size := ⟨_, rfl⟩
  rw [← g101] at A101 st101
  have ne_a1_b101 : a1 ≠ b101 := Nat.ne_of_lt (Nat.lt_of_lt_of_le U1.lt (Nat.le_of_eq g101.symm))
  have gn_b101 : n0 ≤ b101 := Nat.le_trans Z0 (Nat.le_of_eq g101.symm)
  have sz_b101 : h0.size ≤ b101 := Nat.le_trans (Keep.refl h0 []).1 (Nat.le_of_eq g101.symm)
  have f102 : Old Z n0 h101 := O0.ext E101
  have f103 : OwnU Z h101 a1 n f := OwnU.ext U1 E101
  have Zs101 : n0 ≤ h101.size := Nat.le_trans Z0 E101.1
  have K101 : Keep h0 h101 [] := (Keep.refl h0 []).ext E101
  have v101 : OwnB Z h101 b101 p3 0 (own_sh f p2) := OwnB.new A101 rg.2.1 _
  obtain ⟨_, _, ⟨T104, L104, k104, n104⟩, -, X104, ⟨Lc104, hQ104, l104, y104, z104⟩, st104⟩ := Jvm.LawKit.callS X101 hx (y := (⟨"java/lang/StringUTF16", "compress", "([BI[BII)I"⟩ : MethodName)) hown0 (mvT hZ0 (hw _ (List.mem_of_getElem? (i := 164) rfl))) (mvT hZ0 (hw _ (List.mem_of_getElem? (i := 165) rfl))) (mvT hZ0 (hw _ (List.mem_of_getElem? (i := 18) rfl))) (mvT hZ0 (hw _ (List.mem_of_getElem? (i := 166) rfl))) (by decide) (backOf (W := 0) (rm35b l Z a0 hw [] a1 p2 b101 p3 w n f h101 n0 Zs101 f102 S0 hw0 SA SHI SLO FM f103 sm rg l0 v101 gn_b101 ne_a1_b101 hf hu) hZ0 (hw _ (List.mem_of_getElem? (i := 166) rfl)) (hw _ (List.mem_of_getElem? (i := 18) rfl)) (by decide) (by decide)) (g := (mkF m 9 #[.val (.ref a1), .val (.int p2), .val (.int p3), .val (.ref b101), .unset, .unset] [(.int p3), (.int (0 : Int32)), (.ref b101), (.int p2), (.ref a1)])) rfl (by rw [hml]; rfl) (argsL := [(.ref a1), (.int p2), (.ref b101), (.int (0 : Int32)), (.int p3)]) (rest := []) (lenOf pd_19 rfl) rfl (by show 2 * 0 + _ ≤ _; exact Nat.le_of_eq rfl) (hb hby d34_9) (fun _ _ => ⟨rfl, e101, (by decide : 1 + 0 ≤ _), (by decide : 16 + 0 ≤ _)⟩)
  dsimp only [Pt.U, Pt.locs, Pt.cells, Pt.slots] at X104 l104 y104 z104 st104 hQ104
  subst l104 y104 z104
  obtain ⟨r_104, rfl, N104q, P104_0, P104_1, P104_2⟩ := hQ104
  have N104 := Fr.app N0 N104q
  have f105 : Old Z n0 T104.heap := f102.keep P104_0 (allS gn_b101 all0)
  have f106 : OwnU Z T104.heap a1 n f := OwnU.keep f103 P104_0 (ninS ne_a1_b101 nin0)
  have Zs104 : n0 ≤ T104.heap.size := Nat.le_trans Zs101 P104_0.1
  have K104 : Keep h0 T104.heap [] := K101.trans P104_0 (allS (Or.inr sz_b101) all0)
  obtain ⟨_, _, ⟨T107, L107, k107, n107⟩, -, X107, ⟨Lc107, hQ107, l107, y107, z107⟩, st107⟩ := Jvm.LawKit.callS X104 hx (y := (⟨"java/lang/StringUTF16", "newBytesLength", "(I)I"⟩ : MethodName)) hown0 (mvT hZ0 (hw _ (List.mem_of_getElem? (i := 143) rfl))) (mvT hZ0 (hw _ (List.mem_of_getElem? (i := 144) rfl))) (mvT hZ0 (hw _ (List.mem_of_getElem? (i := 18) rfl))) (mvT hZ0 (hw _ (List.mem_of_getElem? (i := 145) rfl))) (by decide) (backOf (W := 2) (rm30 l Z a0 hw [] (p2 + p3) T104.heap n0 Zs104 ((own_e3 (P := fun o l n => (0 : Int32) < l → own_sm (o + l)) sm rg (by decide +kernel)) l0)) hZ0 (hw _ (List.mem_of_getElem? (i := 145) rfl)) (hw _ (List.mem_of_getElem? (i := 18) rfl)) (by decide) (by decide)) (g := (mkF m 27 #[.val (.ref a1), .val (.int p2), .val (.int p3), .val (.ref b101), .val (.int r_104), .unset] [(.int (p2 + p3)), (.int (own_d p2)), (.ref a1)])) rfl (by rw [hml]; rfl) (argsL := [(.int (p2 + p3))]) (rest := [(.int (own_d p2)), (.ref a1)]) (lenOf pd_7 rfl) rfl (by show 2 * 0 + _ ≤ _; exact Nat.le_of_eq rfl) (hb hby d34_27) (fun _ _ => ⟨rfl, rfl, (by decide : 1 + 0 ≤ _), (by decide : 16 + 0 ≤ _)⟩)
  dsimp only [Pt.U, Pt.locs, Pt.cells, Pt.slots] at X107 l107 y107 z107 st107 hQ107
  subst l107 y107 z107
  obtain ⟨rfl, N107q, P107_0⟩ := hQ107
  have N107 := Fr.app N104 N107q
  obtain ⟨_, _, ⟨T108, L108, k108, n108⟩, -, X108, ⟨Lc108, hQ108, l108, y108, z108⟩, st108⟩ := Jvm.LawKit.callS X107 hx (y := (⟨"java/util/Arrays", "copyOfRange", "([BII)[B"⟩ : MethodName)) hown0 (mvT hZ0 (hw _ (List.mem_of_getElem? (i := 182) rfl))) (mvT hZ0 (hw _ (List.mem_of_getElem? (i := 97) rfl))) (mvT hZ0 (hw _ (List.mem_of_getElem? (i := 98) rfl))) (mvT hZ0 (hw _ (List.mem_of_getElem? (i := 99) rfl))) (by decide) (backOf (W := 0) (rm18 l Z a0 hw [] a1 (own_d p2) (own_d (p2 + p3)) (own_d n) (own_u f) T104.heap n0 Zs104 f105 f106 (own_e3 (P := fun o l n => own_cr (own_d o) (own_d (o + l)) (own_d n)) sm rg (by decide +kernel)) ((own_e3 (P := fun o l n => ¬ (o = (0 : Int32) ∧ l = n) → ¬ (own_d o = (0 : Int32) ∧ own_d (o + l) = own_d n)) sm rg (by decide +kernel)) nf)) hZ0 (hw _ (List.mem_of_getElem? (i := 99) rfl)) (hw _ (List.mem_of_getElem? (i := 98) rfl)) (by decide) (by decide)) (g := (mkF m 30 #[.val (.ref a1), .val (.int p2), .val (.int p3), .val (.ref b101), .val (.int r_104), .unset] [(.int (own_d (p2 + p3))), (.int (own_d p2)), (.ref a1)])) rfl (by rw [hml]; rfl) (argsL := [(.ref a1), (.int (own_d p2)), (.int (own_d (p2 + p3)))]) (rest := []) (lenOf pd_15 rfl) rfl (by show 2 * 0 + _ ≤ _; exact Nat.le_of_eq rfl) (hb hby d34_30) (fun _ _ => ⟨rfl, P107_0, (by decide : 1 + 1 ≤ _), (by decide : 16 + 16 ≤ _)⟩)
  dsimp only [Pt.U, Pt.locs, Pt.cells, Pt.slots] at X108 l108 y108 z108 st108 hQ108
  subst l108 y108 z108
  obtain ⟨b_108, rfl, N108q, P108_0, P108_1, P108_2⟩ := hQ108
  have N108 := Fr.app N107 N108q
  have ne_a1_b_108 : a1 ≠ b_108 := Nat.ne_of_lt (Nat.lt_of_lt_of_le f106.lt P108_1)
  have gn_b_108 : n0 ≤ b_108 := Nat.le_trans Zs104 P108_1
  have sz_b_108 : h0.size ≤ b_108 := Nat.le_trans K104.1 P108_1
  have f109 : Old Z n0 T108.heap := f105.keep P108_0 all0
  have f110 : OwnU Z T108.heap a1 n f := OwnU.keep f106 P108_0 nin0
  have Zs108 : n0 ≤ T108.heap.size := Nat.le_trans Zs104 P108_0.1
  have K108 : Keep h0 T108.heap [] := K104.trans P108_0 all0
  have uu108 : OwnU Z T108.heap b_108 p3 (own_sh f p2) := OwnB.to P108_2 (own_e3 (P := fun o l n => own_d (o + l) - own_d o = own_d l) sm rg (by decide +kernel)) (own_shu (own_e3 (P := fun o l n => (own_d o).toNatClampNeg = 2 * o.toNatClampNeg) sm rg (by decide +kernel)))
  obtain ⟨_, _, ⟨T111, L111, k111, n111⟩, -, X111, ⟨Lc111, hQ111, l111, y111, z111⟩, st111⟩ := Jvm.LawKit.callS X108 hx (y := (⟨"java/lang/StringUTF16", "getChar", "([BI)C"⟩ : MethodName)) hown0 (mvT hZ0 (hw _ (List.mem_of_getElem? (i := 153) rfl))) (mvT hZ0 (hw _ (List.mem_of_getElem? (i := 154) rfl))) (mvT hZ0 (hw _ (List.mem_of_getElem? (i := 18) rfl))) (mvT hZ0 (hw _ (List.mem_of_getElem? (i := 155) rfl))) (by decide) (backOf (W := 0) (rm32 l Z a0 hw [] b_108 r_104 w p3 (own_sh f p2) T108.heap n0 Zs108 f109 S0 hw0 SA SHI SLO FM uu108 ((own_e3 (P := fun o l n => (0 : Int32) < l → own_sm l) sm rg (by decide +kernel)) l0) P104_2 (own_chs hf)) hZ0 (hw _ (List.mem_of_getElem? (i := 155) rfl)) (hw _ (List.mem_of_getElem? (i := 18) rfl)) (by decide) (by decide)) (g := (mkF m 39 #[.val (.ref a1), .val (.int p2), .val (.int p3), .val (.ref b101), .val (.int r_104), .val (.ref b_108)] [(.int r_104), (.ref b_108)])) rfl (by rw [hml]; rfl) (argsL := [(.ref b_108), (.int r_104)]) (rest := []) (lenOf pd_4 rfl) rfl (by show 2 * 0 + _ ≤ _; exact Nat.le_of_eq rfl) (hb hby d34_39) (fun _ _ => ⟨rfl, rfl, (by decide : 2 + 0 ≤ _), (by decide : 32 + 0 ≤ _)⟩)
  dsimp only [Pt.U, Pt.locs, Pt.cells, Pt.slots] at X111 l111 y111 z111 st111 hQ111
  subst l111 y111 z111
  obtain ⟨rfl, N111q, P111_0⟩ := hQ111
  have N111 := Fr.app N108 N111q
  obtain ⟨fs, hr, hrun, hended, hW, hsame⟩ := X111.leave (v := some (.ref b_108)) (fun h => by rw [Bd.returns] at h; cases h) hlk
  refine ⟨_, _, pre0 _ ?_, hrun, hended, _, _, rfl, ?_, ⟨_, rfl⟩, hW, hsame.mono (by decide) (by decide)⟩
  · show Steps p.tables e below (s₁.setTop (mkF m 0 #[.val (.ref a1), .val (.int p2), .val (.int p3), .unset, .unset, .unset] [])) _
    refine XS.iloadN X0.here hx rfl (hb hby d34_0) rfl ?_
    show Steps p.tables e below (s₁.setTop (mkF m 1 #[.val (.ref a1), .val (.int p2), .val (.int p3), .unset, .unset, .unset] [(.int p3)])) _
    refine st101 _ ?_
    show Steps p.tables e below (T101.setTop (mkF m 3 #[.val (.ref a1), .val (.int p2), .val (.int p3), .unset, .unset, .unset] [(.ref b101)])) _
    refine XS.astoreN X101.here hx rfl (hb hby d34_3) rfl rfl (l' := #[.val (.ref a1), .val (.int p2), .val (.int p3), .val (.ref b101), .unset, .unset]) rfl ?_
    show Steps p.tables e below (T101.setTop (mkF m 4 #[.val (.ref a1), .val (.int p2), .val (.int p3), .val (.ref b101), .unset, .unset] [])) _
    refine XS.aloadN X101.here hx rfl (hb hby d34_4) rfl rfl ?_
    show Steps p.tables e below (T101.setTop (mkF m 5 #[.val (.ref a1), .val (.int p2), .val (.int p3), .val (.ref b101), .unset, .unset] [(.ref a1)])) _
    refine XS.iloadN X101.here hx rfl (hb hby d34_5) rfl ?_
    show Steps p.tables e below (T101.setTop (mkF m 6 #[.val (.ref a1), .val (.int p2), .val (.int p3), .val (.ref b101), .unset, .unset] [(.int p2), (.ref a1)])) _
    refine XS.aloadN X101.here hx rfl (hb hby d34_6) rfl rfl ?_
    show Steps p.tables e below (T101.setTop (mkF m 7 #[.val (.ref a1), .val (.int p2), .val (.int p3), .val (.ref b101), .unset, .unset] [(.ref b101), (.int p2), (.ref a1)])) _
    refine XS.iconst X101.here hx rfl (hb hby d34_7) ?_
    show Steps p.tables e below (T101.setTop (mkF m 8 #[.val (.ref a1), .val (.int p2), .val (.int p3), .val (.ref b101), .unset, .unset] [(.int (0 : Int32)), (.ref b101), (.int p2), (.ref a1)])) _
    refine XS.iloadN X101.here hx rfl (hb hby d34_8) rfl ?_
    show Steps p.tables e below (T101.setTop (mkF m 9 #[.val (.ref a1), .val (.int p2), .val (.int p3), .val (.ref b101), .unset, .unset] [(.int p3), (.int (0 : Int32)), (.ref b101), (.int p2), (.ref a1)])) _
    refine st104 _ ?_
    show Steps p.tables e below (T104.setTop (mkF m 12 #[.val (.ref a1), .val (.int p2), .val (.int p3), .val (.ref b101), .unset, .unset] [(.int r_104)])) _
    refine XS.istore X104.here hx rfl (hb hby d34_12) rfl (l' := #[.val (.ref a1), .val (.int p2), .val (.int p3), .val (.ref b101), .val (.int r_104), .unset]) rfl ?_
    show Steps p.tables e below (T104.setTop (mkF m 14 #[.val (.ref a1), .val (.int p2), .val (.int p3), .val (.ref b101), .val (.int r_104), .unset] [])) _
    refine XS.iload X104.here hx rfl (hb hby d34_14) rfl ?_
    show Steps p.tables e below (T104.setTop (mkF m 16 #[.val (.ref a1), .val (.int p2), .val (.int p3), .val (.ref b101), .val (.int r_104), .unset] [(.int r_104)])) _
    refine XS.iloadN X104.here hx rfl (hb hby d34_16) rfl ?_
    show Steps p.tables e below (T104.setTop (mkF m 17 #[.val (.ref a1), .val (.int p2), .val (.int p3), .val (.ref b101), .val (.int r_104), .unset] [(.int p3), (.int r_104)])) _
    refine XS.icmpNo X104.here hx rfl (hb hby d34_17) rfl (feq (own_ixne P104_2 : ¬ (r_104 = p3))).1 ?_
    show Steps p.tables e below (T104.setTop (mkF m 20 #[.val (.ref a1), .val (.int p2), .val (.int p3), .val (.ref b101), .val (.int r_104), .unset] [])) _
    refine XS.aloadN X104.here hx rfl (hb hby d34_20) rfl rfl ?_
    show Steps p.tables e below (T104.setTop (mkF m 21 #[.val (.ref a1), .val (.int p2), .val (.int p3), .val (.ref b101), .val (.int r_104), .unset] [(.ref a1)])) _
    refine XS.iloadN X104.here hx rfl (hb hby d34_21) rfl ?_
    show Steps p.tables e below (T104.setTop (mkF m 22 #[.val (.ref a1), .val (.int p2), .val (.int p3), .val (.ref b101), .val (.int r_104), .unset] [(.int p2), (.ref a1)])) _
    refine XS.iconst X104.here hx rfl (hb hby d34_22) ?_
    show Steps p.tables e below (T104.setTop (mkF m 23 #[.val (.ref a1), .val (.int p2), .val (.int p3), .val (.ref b101), .val (.int r_104), .unset] [(.int (1 : Int32)), (.int p2), (.ref a1)])) _
    refine XS.ishl X104.here hx rfl (hb hby d34_23) rfl ?_
    show Steps p.tables e below (T104.setTop (mkF m 24 #[.val (.ref a1), .val (.int p2), .val (.int p3), .val (.ref b101), .val (.int r_104), .unset] [(.int (p2 <<< ((1 : Int32) &&& 31))), (.ref a1)])) _
    rw [(show (p2 <<< ((1 : Int32) &&& 31)) = own_d p2 from rfl)]
    show Steps p.tables e below (T104.setTop (mkF m 24 #[.val (.ref a1), .val (.int p2), .val (.int p3), .val (.ref b101), .val (.int r_104), .unset] [(.int (own_d p2)), (.ref a1)])) _
    refine XS.iloadN X104.here hx rfl (hb hby d34_24) rfl ?_
    show Steps p.tables e below (T104.setTop (mkF m 25 #[.val (.ref a1), .val (.int p2), .val (.int p3), .val (.ref b101), .val (.int r_104), .unset] [(.int p2), (.int (own_d p2)), (.ref a1)])) _
    refine XS.iloadN X104.here hx rfl (hb hby d34_25) rfl ?_
    show Steps p.tables e below (T104.setTop (mkF m 26 #[.val (.ref a1), .val (.int p2), .val (.int p3), .val (.ref b101), .val (.int r_104), .unset] [(.int p3), (.int p2), (.int (own_d p2)), (.ref a1)])) _
    refine XS.iadd X104.here hx rfl (hb hby d34_26) rfl ?_
    show Steps p.tables e below (T104.setTop (mkF m 27 #[.val (.ref a1), .val (.int p2), .val (.int p3), .val (.ref b101), .val (.int r_104), .unset] [(.int (p2 + p3)), (.int (own_d p2)), (.ref a1)])) _
    refine st107 _ ?_
    show Steps p.tables e below (T107.setTop (mkF m 30 #[.val (.ref a1), .val (.int p2), .val (.int p3), .val (.ref b101), .val (.int r_104), .unset] [(.int (own_d (p2 + p3))), (.int (own_d p2)), (.ref a1)])) _
    refine st108 _ ?_
    show Steps p.tables e below (T108.setTop (mkF m 33 #[.val (.ref a1), .val (.int p2), .val (.int p3), .val (.ref b101), .val (.int r_104), .unset] [(.ref b_108)])) _
    refine XS.astore X108.here hx rfl (hb hby d34_33) rfl rfl (l' := #[.val (.ref a1), .val (.int p2), .val (.int p3), .val (.ref b101), .val (.int r_104), .val (.ref b_108)]) rfl ?_
    show Steps p.tables e below (T108.setTop (mkF m 35 #[.val (.ref a1), .val (.int p2), .val (.int p3), .val (.ref b101), .val (.int r_104), .val (.ref b_108)] [])) _
    refine XS.aload X108.here hx rfl (hb hby d34_35) rfl rfl ?_
    show Steps p.tables e below (T108.setTop (mkF m 37 #[.val (.ref a1), .val (.int p2), .val (.int p3), .val (.ref b101), .val (.int r_104), .val (.ref b_108)] [(.ref b_108)])) _
    refine XS.iload X108.here hx rfl (hb hby d34_37) rfl ?_
    show Steps p.tables e below (T108.setTop (mkF m 39 #[.val (.ref a1), .val (.int p2), .val (.int p3), .val (.ref b101), .val (.int r_104), .val (.ref b_108)] [(.int r_104), (.ref b_108)])) _
    refine st111 _ ?_
    show Steps p.tables e below (T111.setTop (mkF m 42 #[.val (.ref a1), .val (.int p2), .val (.int p3), .val (.ref b101), .val (.int r_104), .val (.ref b_108)] [(.int ((own_sh f p2) r_104.toNatClampNeg))])) _
    refine XS.sipush X111.here hx rfl (hb hby d34_42) ?_
    show Steps p.tables e below (T111.setTop (mkF m 45 #[.val (.ref a1), .val (.int p2), .val (.int p3), .val (.ref b101), .val (.int r_104), .val (.ref b_108)] [(.int (255 : Int32)), (.int ((own_sh f p2) r_104.toNatClampNeg))])) _
    refine XS.icmpYes X111.here hx rfl (pc0 := 45) (pc' := 61) rfl (hb hby d34_45) rfl (tlt P104_1).2.2.1 (by decide) (by decide) ?_
    show Steps p.tables e below (T111.setTop (mkF m 61 #[.val (.ref a1), .val (.int p2), .val (.int p3), .val (.ref b101), .val (.int r_104), .val (.ref b_108)] [])) _
    refine XS.aload X111.here hx rfl (hb hby d34_61) rfl rfl ?_
    show Steps p.tables e below (T111.setTop (mkF m 63 #[.val (.ref a1), .val (.int p2), .val (.int p3), .val (.ref b101), .val (.int r_104), .val (.ref b_108)] [(.ref b_108)])) _
    jvm_step X111.here [X111.here.top, hx, (hb hby d34_63), X111.method', Bd.returns, Value.isRef, FieldType.isReference]
    first | (intro acts; rw [hr _ acts rfl rfl rfl]) | rw [hr _ _ rfl rfl rfl]
    exact Steps.refl _
  · show Q34b Z a1 p2 p3 w n f h0 n0 _ T111.heap _
    rw [P111_0]
    exact ⟨b_108, rfl, N111, K108, sz_b_108, uu108⟩
theorem ef_220 (m : MethodId) (x0 : Addr) (x1 : Addr) : entryFrame m #[(.ref x0), (.ref x1), (.int (0 : Int32))] 3 = mkF m 0 #[.val (.ref x0), .val (.ref x1), .val (.int (0 : Int32))] [] := by first | (simp [entryFrame, mkF, argsToLocals, Value.category]; done) | rfl
theorem d22_0 : decode jdk_42_method_151_code 0 = .ok (.aload_n 0, 1) := by decide +kernel
theorem d22_1 : decode jdk_42_method_151_code 1 = .ok (.invokespecial 1, 3) := by decide +kernel
theorem d22_4 : decode jdk_42_method_151_code 4 = .ok (.aload_n 0, 1) := by decide +kernel
theorem d22_5 : decode jdk_42_method_151_code 5 = .ok (.aload_n 1, 1) := by decide +kernel
theorem d22_6 : decode jdk_42_method_151_code 6 = .ok (.putfield 9, 3) := by decide +kernel
theorem d22_9 : decode jdk_42_method_151_code 9 = .ok (.aload_n 0, 1) := by decide +kernel
theorem d22_10 : decode jdk_42_method_151_code 10 = .ok (.iload_n 2, 1) := by decide +kernel
theorem d22_11 : decode jdk_42_method_151_code 11 = .ok (.putfield 15, 3) := by decide +kernel
theorem d22_14 : decode jdk_42_method_151_code 14 = .ok (.return_, 1) := by decide +kernel
def Q220 (Z : State) (a1 : Addr) (a2 : Addr) (h0 : Heap) (n0 : Nat) (v : Option Value) (h : Heap) (L : List Loc) : Prop := v = none ∧ Fr n0 L ∧ (Keep h0 h [a1]) ∧ (Fld Z h a1 "java/lang/String" "value" "[B" (.ref a2)) ∧ (Fld Z h a1 "java/lang/String" "coder" "B" (.int (0 : Int32)))
set_option maxRecDepth 65536 in
set_option maxHeartbeats 40000000 in
theorem rm220 (l : Launch) (Z : State) (a0 : Array Value) (hw : ∀ d ∈ tables_1, d.before a0 Z = true) (ws : List Jvm.Cond) (a1 : Addr) (a2 : Addr) (h0 : Heap) (n0 : Nat) (Z0 : n0 ≤ h0.size) (E1 : Exa Z h0 a1 "java/lang/String") (g1 : n0 ≤ a1) (F1 : Fld Z h0 a1 "java/lang/String" "value" "[B" .null) (F2 : Fld Z h0 a1 "java/lang/String" "coder" "B" (.int (0 : Int32))) :
    MetFree l (⟨"java/lang/String", "<init>", "([BB)V"⟩ : MethodName) (head1 (Jvm.Cond.code (⟨"java/lang/String", "<init>", "([BB)V"⟩ : MethodName) jdk_42_method_151_code 3 none :: ws) ({ frames := 1, cells := 0, slots := 0, locals := 12 } : Room)) (fun a U => a = #[(.ref a1), (.ref a2), (.int (0 : Int32))] ∧ Z.Warmed39 U.vm ∧ U.heap = h0) (fun _ _ _ _ _ => True) (fun _ U o U' => ∃ v L, o = .returned v ∧ Q220 Z a1 a2 h0 n0 v U'.heap L ∧ FrameEnd U o U' L ({ frames := 1, cells := 0, slots := 0, locals := 12 } : Room).cells ({ frames := 1, cells := 0, slots := 0, locals := 12 } : Room).slots) := by
  refine MetFree.of_bodySF (plainFor_of_name pn_1) hisR ?_
  intro p e s m args below meth c s₁ Bd hml0 hP hK
  obtain ⟨rfl, hZ0, hh⟩ := hP
  have hx := Bd.exec
  have hby := Bd.bytes
  have hml : c.maxLocals = 3 := hml0
  have hown0 : s.vm.findClass "java/lang/String" = some m.cls := findClass_of_methodNamed Bd.named
  have hnm := (name_of_methodNamed Bd.named Bd.method).1
  have hlk : meth.locks = false := by first | exact BodyLoose.notSynchronized Bd | exact Body.notSynchronized Bd
  have X0 : Stand p l e ({ frames := 1, cells := 0, slots := 0, locals := 12 } : Room) s m #[(.ref a1), (.ref a2), (.int (0 : Int32))] below meth c s₁ [] 0 0 := Stand.of_body Bd
  have e0 : s₁.heap = h0 := by rw [← hh, Bd.state]; rfl
  have N0 := Fr.nil n0
  have pre0 : ∀ t, Steps p.tables e below (s₁.setTop (mkF m 0 #[.val (.ref a1), .val (.ref a2), .val (.int (0 : Int32))] [])) t → Steps p.tables e below (s₁.setTop (entryFrame m #[(.ref a1), (.ref a2), (.int (0 : Int32))] 3)) t := fun t k => castTop (ef_220 m a1 a2) k
  obtain ⟨T101, X101, e101, st101⟩ := initO X0 hx hZ0 hown0 (hw _ (List.mem_of_getElem? (i := 12) rfl)) (hw _ (List.mem_of_getElem? (i := 13) rfl)) (hw _ (List.mem_of_getElem? (i := 14) rfl)) e0 (g := (mkF m 1 #[.val (.ref a1), .val (.ref a2), .val (.int (0 : Int32))] [(.ref a1)])) rfl (by rw [hml]; rfl) rfl (hb hby d22_1) (by decide) (W := 0) (by show 2 * 0 + _ ≤ _; exact Nat.le_of_eq rfl) (by decide)
  obtain ⟨T102, h102, X102, e102, W102, st102⟩ := putF X101 hx hZ0 hown0 (host := "") (Or.inl (hw _ (List.mem_of_getElem? (i := 29) rfl))) Via.refl e101 F1 E1 (Or.inr ⟨(hw _ (List.mem_of_getElem? (i := 30) rfl)), rfl, hnm⟩) (hw _ (List.mem_of_getElem? (i := 3) rfl)) (ty := (.array .byte)) (by decide) rfl rfl (g := (mkF m 6 #[.val (.ref a1), .val (.ref a2), .val (.int (0 : Int32))] [(.ref a2), (.ref a1)])) rfl rfl (hb hby d22_6)
  have f103 : Exa Z h102 a1 "java/lang/String" := Exa.wr W102 E1
  have f104 : Fld Z h102 a1 "java/lang/String" "coder" "B" (.int (0 : Int32)) := Fld.other W102 F2 (Or.inr (slot_ne (Or.inr (hw _ (List.mem_of_getElem? (i := 28) rfl))) (Or.inr (hw _ (List.mem_of_getElem? (i := 30) rfl))) (by decide) (t := .byte) (t' := (.array .byte)) (by decide) (by decide)))
  have f105 : Fld Z h102 a1 "java/lang/String" "value" "[B" (.ref a2) := F1.same W102
  have Zs102 : n0 ≤ h102.size := Nat.le_trans Z0 (Keep.of_wr W102).1
  have N102 := Fr.snoc X102 N0 g1
  have K102 : Keep h0 h102 [a1] := (Keep.refl h0 [a1]).wr W102 (Or.inl (List.mem_of_getElem? (i := 0) rfl))
  obtain ⟨T106, h106, X106, e106, W106, st106⟩ := putFN X102 hx hZ0 hown0 (hw _ (List.mem_of_getElem? (i := 27) rfl)) Via.refl e102 f104 f103 (Or.inr ⟨(hw _ (List.mem_of_getElem? (i := 28) rfl)), rfl, hnm⟩) (hw _ (List.mem_of_getElem? (i := 3) rfl)) (ty := .byte) (v' := (.int (0 : Int32))) (by decide) rfl (by decide) (g := (mkF m 11 #[.val (.ref a1), .val (.ref a2), .val (.int (0 : Int32))] [(.int (0 : Int32)), (.ref a1)])) rfl rfl (hb hby d22_11)
  have f107 : Exa Z h106 a1 "java/lang/String" := Exa.wr W106 f103
  have f108 : Fld Z h106 a1 "java/lang/String" "value" "[B" (.ref a2) := Fld.other W106 f105 (Or.inr (slot_ne (Or.inr (hw _ (List.mem_of_getElem? (i := 30) rfl))) (Or.inr (hw _ (List.mem_of_getElem? (i := 28) rfl))) (by decide) (t := (.array .byte)) (t' := .byte) (by decide) (by decide)))
  have f109 : Fld Z h106 a1 "java/lang/String" "coder" "B" (.int (0 : Int32)) := f104.same W106
  have Zs106 : n0 ≤ h106.size := Nat.le_trans Zs102 (Keep.of_wr W106).1
  have N106 := Fr.snoc X106 N102 g1
  have K106 : Keep h0 h106 [a1] := K102.wr W106 (Or.inl (List.mem_of_getElem? (i := 0) rfl))
  obtain ⟨fs, hr, hrun, hended, hW, hsame⟩ := X106.leave (v := none) (fun _ => rfl) hlk
  refine ⟨_, _, pre0 _ ?_, hrun, hended, _, _, rfl, ?_, ⟨_, rfl⟩, hW, hsame.mono (by decide) (by decide)⟩
  · show Steps p.tables e below (s₁.setTop (mkF m 0 #[.val (.ref a1), .val (.ref a2), .val (.int (0 : Int32))] [])) _
    refine XS.aloadN X0.here hx rfl (hb hby d22_0) rfl rfl ?_
    show Steps p.tables e below (s₁.setTop (mkF m 1 #[.val (.ref a1), .val (.ref a2), .val (.int (0 : Int32))] [(.ref a1)])) _
    refine st101 _ ?_
    show Steps p.tables e below (T101.setTop (mkF m 4 #[.val (.ref a1), .val (.ref a2), .val (.int (0 : Int32))] [])) _
    refine XS.aloadN X101.here hx rfl (hb hby d22_4) rfl rfl ?_
    show Steps p.tables e below (T101.setTop (mkF m 5 #[.val (.ref a1), .val (.ref a2), .val (.int (0 : Int32))] [(.ref a1)])) _
    refine XS.aloadN X101.here hx rfl (hb hby d22_5) rfl rfl ?_
    show Steps p.tables e below (T101.setTop (mkF m 6 #[.val (.ref a1), .val (.ref a2), .val (.int (0 : Int32))] [(.ref a2), (.ref a1)])) _
    refine st102 _ ?_
    show Steps p.tables e below (T102.setTop (mkF m 9 #[.val (.ref a1), .val (.ref a2), .val (.int (0 : Int32))] [])) _
    refine XS.aloadN X102.here hx rfl (hb hby d22_9) rfl rfl ?_
    show Steps p.tables e below (T102.setTop (mkF m 10 #[.val (.ref a1), .val (.ref a2), .val (.int (0 : Int32))] [(.ref a1)])) _
    refine XS.iloadN X102.here hx rfl (hb hby d22_10) rfl ?_
    show Steps p.tables e below (T102.setTop (mkF m 11 #[.val (.ref a1), .val (.ref a2), .val (.int (0 : Int32))] [(.int (0 : Int32)), (.ref a1)])) _
    refine st106 _ ?_
    show Steps p.tables e below (T106.setTop (mkF m 14 #[.val (.ref a1), .val (.ref a2), .val (.int (0 : Int32))] [])) _
    exact X106.returnOut hx Bd.returns (hb hby d22_14) hr
  · show Q220 Z a1 a2 h0 n0 _ T106.heap _
    rw [e106]
    exact ⟨rfl, N106, K106, f108, f109⟩
theorem ef_221 (m : MethodId) (x0 : Addr) (x1 : Addr) : entryFrame m #[(.ref x0), (.ref x1), (.int (1 : Int32))] 3 = mkF m 0 #[.val (.ref x0), .val (.ref x1), .val (.int (1 : Int32))] [] := by first | (simp [entryFrame, mkF, argsToLocals, Value.category]; done) | rfl
def Q221 (Z : State) (a1 : Addr) (a2 : Addr) (h0 : Heap) (n0 : Nat) (v : Option Value) (h : Heap) (L : List Loc) : Prop := v = none ∧ Fr n0 L ∧ (Keep h0 h [a1]) ∧ (Fld Z h a1 "java/lang/String" "value" "[B" (.ref a2)) ∧ (Fld Z h a1 "java/lang/String" "coder" "B" (.int (1 : Int32)))
set_option maxRecDepth 65536 in
set_option maxHeartbeats 40000000 in
theorem rm221 (l : Launch) (Z : State) (a0 : Array Value) (hw : ∀ d ∈ tables_1, d.before a0 Z = true) (ws : List Jvm.Cond) (a1 : Addr) (a2 : Addr) (h0 : Heap) (n0 : Nat) (Z0 : n0 ≤ h0.size) (E1 : Exa Z h0 a1 "java/lang/String") (g1 : n0 ≤ a1) (F1 : Fld Z h0 a1 "java/lang/String" "value" "[B" .null) (F2 : Fld Z h0 a1 "java/lang/String" "coder" "B" (.int (0 : Int32))) :
    MetFree l (⟨"java/lang/String", "<init>", "([BB)V"⟩ : MethodName) (head1 (Jvm.Cond.code (⟨"java/lang/String", "<init>", "([BB)V"⟩ : MethodName) jdk_42_method_151_code 3 none :: ws) ({ frames := 1, cells := 0, slots := 0, locals := 12 } : Room)) (fun a U => a = #[(.ref a1), (.ref a2), (.int (1 : Int32))] ∧ Z.Warmed39 U.vm ∧ U.heap = h0) (fun _ _ _ _ _ => True) (fun _ U o U' => ∃ v L, o = .returned v ∧ Q221 Z a1 a2 h0 n0 v U'.heap L ∧ FrameEnd U o U' L ({ frames := 1, cells := 0, slots := 0, locals := 12 } : Room).cells ({ frames := 1, cells := 0, slots := 0, locals := 12 } : Room).slots) := by
  refine MetFree.of_bodySF (plainFor_of_name pn_1) hisR ?_
  intro p e s m args below meth c s₁ Bd hml0 hP hK
  obtain ⟨rfl, hZ0, hh⟩ := hP
  have hx := Bd.exec
  have hby := Bd.bytes
  have hml : c.maxLocals = 3 := hml0
  have hown0 : s.vm.findClass "java/lang/String" = some m.cls := findClass_of_methodNamed Bd.named
  have hnm := (name_of_methodNamed Bd.named Bd.method).1
  have hlk : meth.locks = false := by first | exact BodyLoose.notSynchronized Bd | exact Body.notSynchronized Bd
  have X0 : Stand p l e ({ frames := 1, cells := 0, slots := 0, locals := 12 } : Room) s m #[(.ref a1), (.ref a2), (.int (1 : Int32))] below meth c s₁ [] 0 0 := Stand.of_body Bd
  have e0 : s₁.heap = h0 := by rw [← hh, Bd.state]; rfl
  have N0 := Fr.nil n0
  have pre0 : ∀ t, Steps p.tables e below (s₁.setTop (mkF m 0 #[.val (.ref a1), .val (.ref a2), .val (.int (1 : Int32))] [])) t → Steps p.tables e below (s₁.setTop (entryFrame m #[(.ref a1), (.ref a2), (.int (1 : Int32))] 3)) t := fun t k => castTop (ef_221 m a1 a2) k
  obtain ⟨T101, X101, e101, st101⟩ := initO X0 hx hZ0 hown0 (hw _ (List.mem_of_getElem? (i := 12) rfl)) (hw _ (List.mem_of_getElem? (i := 13) rfl)) (hw _ (List.mem_of_getElem? (i := 14) rfl)) e0 (g := (mkF m 1 #[.val (.ref a1), .val (.ref a2), .val (.int (1 : Int32))] [(.ref a1)])) rfl (by rw [hml]; rfl) rfl (hb hby d22_1) (by decide) (W := 0) (by show 2 * 0 + _ ≤ _; exact Nat.le_of_eq rfl) (by decide)
  obtain ⟨T102, h102, X102, e102, W102, st102⟩ := putF X101 hx hZ0 hown0 (host := "") (Or.inl (hw _ (List.mem_of_getElem? (i := 29) rfl))) Via.refl e101 F1 E1 (Or.inr ⟨(hw _ (List.mem_of_getElem? (i := 30) rfl)), rfl, hnm⟩) (hw _ (List.mem_of_getElem? (i := 3) rfl)) (ty := (.array .byte)) (by decide) rfl rfl (g := (mkF m 6 #[.val (.ref a1), .val (.ref a2), .val (.int (1 : Int32))] [(.ref a2), (.ref a1)])) rfl rfl (hb hby d22_6)
  have f103 : Exa Z h102 a1 "java/lang/String" := Exa.wr W102 E1
  have f104 : Fld Z h102 a1 "java/lang/String" "coder" "B" (.int (0 : Int32)) := Fld.other W102 F2 (Or.inr (slot_ne (Or.inr (hw _ (List.mem_of_getElem? (i := 28) rfl))) (Or.inr (hw _ (List.mem_of_getElem? (i := 30) rfl))) (by decide) (t := .byte) (t' := (.array .byte)) (by decide) (by decide)))
  have f105 : Fld Z h102 a1 "java/lang/String" "value" "[B" (.ref a2) := F1.same W102
  have Zs102 : n0 ≤ h102.size := Nat.le_trans Z0 (Keep.of_wr W102).1
  have N102 := Fr.snoc X102 N0 g1
  have K102 : Keep h0 h102 [a1] := (Keep.refl h0 [a1]).wr W102 (Or.inl (List.mem_of_getElem? (i := 0) rfl))
  obtain ⟨T106, h106, X106, e106, W106, st106⟩ := putFN X102 hx hZ0 hown0 (hw _ (List.mem_of_getElem? (i := 27) rfl)) Via.refl e102 f104 f103 (Or.inr ⟨(hw _ (List.mem_of_getElem? (i := 28) rfl)), rfl, hnm⟩) (hw _ (List.mem_of_getElem? (i := 3) rfl)) (ty := .byte) (v' := (.int (1 : Int32))) (by decide) rfl (by decide) (g := (mkF m 11 #[.val (.ref a1), .val (.ref a2), .val (.int (1 : Int32))] [(.int (1 : Int32)), (.ref a1)])) rfl rfl (hb hby d22_11)
  have f107 : Exa Z h106 a1 "java/lang/String" := Exa.wr W106 f103
  have f108 : Fld Z h106 a1 "java/lang/String" "value" "[B" (.ref a2) := Fld.other W106 f105 (Or.inr (slot_ne (Or.inr (hw _ (List.mem_of_getElem? (i := 30) rfl))) (Or.inr (hw _ (List.mem_of_getElem? (i := 28) rfl))) (by decide) (t := (.array .byte)) (t' := .byte) (by decide) (by decide)))
  have f109 : Fld Z h106 a1 "java/lang/String" "coder" "B" (.int (1 : Int32)) := f104.same W106
  have Zs106 : n0 ≤ h106.size := Nat.le_trans Zs102 (Keep.of_wr W106).1
  have N106 := Fr.snoc X106 N102 g1
  have K106 : Keep h0 h106 [a1] := K102.wr W106 (Or.inl (List.mem_of_getElem? (i := 0) rfl))
  obtain ⟨fs, hr, hrun, hended, hW, hsame⟩ := X106.leave (v := none) (fun _ => rfl) hlk
  refine ⟨_, _, pre0 _ ?_, hrun, hended, _, _, rfl, ?_, ⟨_, rfl⟩, hW, hsame.mono (by decide) (by decide)⟩
  · show Steps p.tables e below (s₁.setTop (mkF m 0 #[.val (.ref a1), .val (.ref a2), .val (.int (1 : Int32))] [])) _
    refine XS.aloadN X0.here hx rfl (hb hby d22_0) rfl rfl ?_
    show Steps p.tables e below (s₁.setTop (mkF m 1 #[.val (.ref a1), .val (.ref a2), .val (.int (1 : Int32))] [(.ref a1)])) _
    refine st101 _ ?_
    show Steps p.tables e below (T101.setTop (mkF m 4 #[.val (.ref a1), .val (.ref a2), .val (.int (1 : Int32))] [])) _
    refine XS.aloadN X101.here hx rfl (hb hby d22_4) rfl rfl ?_
    show Steps p.tables e below (T101.setTop (mkF m 5 #[.val (.ref a1), .val (.ref a2), .val (.int (1 : Int32))] [(.ref a1)])) _
    refine XS.aloadN X101.here hx rfl (hb hby d22_5) rfl rfl ?_
    show Steps p.tables e below (T101.setTop (mkF m 6 #[.val (.ref a1), .val (.ref a2), .val (.int (1 : Int32))] [(.ref a2), (.ref a1)])) _
    refine st102 _ ?_
    show Steps p.tables e below (T102.setTop (mkF m 9 #[.val (.ref a1), .val (.ref a2), .val (.int (1 : Int32))] [])) _
    refine XS.aloadN X102.here hx rfl (hb hby d22_9) rfl rfl ?_
    show Steps p.tables e below (T102.setTop (mkF m 10 #[.val (.ref a1), .val (.ref a2), .val (.int (1 : Int32))] [(.ref a1)])) _
    refine XS.iloadN X102.here hx rfl (hb hby d22_10) rfl ?_
    show Steps p.tables e below (T102.setTop (mkF m 11 #[.val (.ref a1), .val (.ref a2), .val (.int (1 : Int32))] [(.int (1 : Int32)), (.ref a1)])) _
    refine st106 _ ?_
    show Steps p.tables e below (T106.setTop (mkF m 14 #[.val (.ref a1), .val (.ref a2), .val (.int (1 : Int32))] [])) _
    exact X106.returnOut hx Bd.returns (hb hby d22_14) hr
  · show Q221 Z a1 a2 h0 n0 _ T106.heap _
    rw [e106]
    exact ⟨rfl, N106, K106, f108, f109⟩
theorem ef_17 (m : MethodId) (x0 : Addr) (x1 : Int32) (x2 : Int32) : entryFrame m #[(.ref x0), (.int x1), (.int x2)] 3 = mkF m 0 #[.val (.ref x0), .val (.int x1), .val (.int x2)] [] := by first | (simp [entryFrame, mkF, argsToLocals, Value.category]; done) | rfl
theorem d17_0 : decode jdk_43_method_47_code 0 = .ok (.iload_n 2, 1) := by decide +kernel
theorem d17_1 : decode jdk_43_method_47_code 1 = .ok (.ifCond .ne 6, 3) := by decide +kernel
theorem d17_4 : decode jdk_43_method_47_code 4 = .ok (.ldc 151, 2) := by decide +kernel
theorem d17_6 : decode jdk_43_method_47_code 6 = .ok (.areturn, 1) := by decide +kernel
theorem d17_7 : decode jdk_43_method_47_code 7 = .ok (.new 1, 3) := by decide +kernel
theorem d17_10 : decode jdk_43_method_47_code 10 = .ok (.dup, 1) := by decide +kernel
theorem d17_11 : decode jdk_43_method_47_code 11 = .ok (.aload_n 0, 1) := by decide +kernel
theorem d17_12 : decode jdk_43_method_47_code 12 = .ok (.iload_n 1, 1) := by decide +kernel
theorem d17_13 : decode jdk_43_method_47_code 13 = .ok (.iload_n 1, 1) := by decide +kernel
theorem d17_14 : decode jdk_43_method_47_code 14 = .ok (.iload_n 2, 1) := by decide +kernel
theorem d17_15 : decode jdk_43_method_47_code 15 = .ok (.iadd, 1) := by decide +kernel
theorem d17_16 : decode jdk_43_method_47_code 16 = .ok (.invokestatic 232, 3) := by decide +kernel
theorem d17_19 : decode jdk_43_method_47_code 19 = .ok (.iconst 0, 1) := by decide +kernel
theorem d17_20 : decode jdk_43_method_47_code 20 = .ok (.invokespecial 112, 3) := by decide +kernel
theorem pd_20 : parseMethodDescriptor "([BB)V" = some ⟨[(.array .byte), .byte], none⟩ := by decide +kernel
theorem d17_23 : decode jdk_43_method_47_code 23 = .ok (.areturn, 1) := by decide +kernel
def Q17 (Z : State) (a1 : Addr) (p2 : Int32) (p3 : Int32) (w : Int32) (n : Int32) (f : Nat → Int32) (Ts : List String) (h0 : Heap) (n0 : Nat) (v : Option Value) (h : Heap) (L : List Loc) : Prop := ∃ r : Addr, ∃ b : Addr, v = some (.ref r) ∧ Fr n0 L ∧ (Keep h0 h []) ∧ (OwnS Z h r b p3 (own_sh f p2))
set_option maxRecDepth 65536 in
set_option maxHeartbeats 40000000 in
theorem rm17 (l : Launch) (Z : State) (a0 : Array Value) (hw : ∀ d ∈ tables_1, d.before a0 Z = true) (ws : List Jvm.Cond) (a1 : Addr) (p2 : Int32) (p3 : Int32) (w : Int32) (n : Int32) (f : Nat → Int32) (Ts : List String) (h0 : Heap) (n0 : Nat) (Z0 : n0 ≤ h0.size) (O0 : Old Z n0 h0) (S0 : Sta Z Z.heap "java/lang/String" "COMPACT_STRINGS" "Z" (.int w)) (hw0 : ¬ (w = (0 : Int32))) (SA : Sta Z Z.heap "java/lang/StringUTF16" "$assertionsDisabled" "Z" (.int (1 : Int32))) (SHI : Sta Z Z.heap "java/lang/StringUTF16" "HI_BYTE_SHIFT" "I" (.int (0 : Int32))) (SLO : Sta Z Z.heap "java/lang/StringUTF16" "LO_BYTE_SHIFT" "I" (.int (8 : Int32))) (FM : Fmt Z) (L1 : OwnL Z h0 a1 n f) (hl : own_lat f n) (sm : own_sm n) (rg : own_rg p2 p3 n) (nf : ¬ (p2 = (0 : Int32) ∧ p3 = n)) (hf : own_ch f) (hcw : Jvm.Lit.compactW.before a0 Z = true) (hnot : "" ∉ Ts) (ch : Jvm.Lit.constHeld Z "java/lang/StringLatin1" 151) :
    MetFree l (⟨"java/lang/StringLatin1", "newString", "([BII)Ljava/lang/String;"⟩ : MethodName) (head1 (Jvm.Cond.code (⟨"java/lang/StringLatin1", "newString", "([BII)Ljava/lang/String;"⟩ : MethodName) jdk_43_method_47_code 3 (some (.object "java/lang/String")) :: ws) ({ frames := 3, cells := 2, slots := 20, locals := 50 } : Room)) (fun a U => a = #[(.ref a1), (.int p2), (.int p3)] ∧ Z.Warmed39 U.vm ∧ U.heap = h0 ∧ IB Z U.vm Ts) (fun _ _ _ _ _ => True) (fun _ U o U' => ∃ v L, o = .returned v ∧ Q17 Z a1 p2 p3 w n f Ts h0 n0 v U'.heap L ∧ IB Z U'.vm ("" :: Ts) ∧ ReturnedEndW U o U' L ({ frames := 3, cells := 2, slots := 20, locals := 50 } : Room).cells ({ frames := 3, cells := 2, slots := 20, locals := 50 } : Room).slots) := by
  refine MetFree.of_bodySF (plainFor_of_name pn_3) hisR ?_
  intro p e s m args below meth c s₁ Bd hml0 hP hK
  obtain ⟨rfl, hZ0, hh, hI0⟩ := hP
  have hx := Bd.exec
  have hby := Bd.bytes
  have hml : c.maxLocals = 3 := hml0
  have hown0 : s.vm.findClass "java/lang/StringLatin1" = some m.cls := findClass_of_methodNamed Bd.named
  have hnm := (name_of_methodNamed Bd.named Bd.method).1
  have hlk : meth.locks = false := by first | exact BodyLoose.notSynchronized Bd | exact Body.notSynchronized Bd
  have X0 : Stand p l e ({ frames := 3, cells := 2, slots := 20, locals := 50 } : Room) s m #[(.ref a1), (.int p2), (.int p3)] below meth c s₁ [] 0 0 := Stand.of_body Bd
  have e0 : s₁.heap = h0 := by rw [← hh, Bd.state]; rfl
  have N0 := Fr.nil n0
  have pre0 : ∀ t, Steps p.tables e below (s₁.setTop (mkF m 0 #[.val (.ref a1), .val (.int p2), .val (.int p3)] [])) t → Steps p.tables e below (s₁.setTop (entryFrame m #[(.ref a1), (.int p2), (.int p3)] 3)) t := fun t k => castTop (ef_17 m a1 p2 p3) k
  by_cases hc101 : p3 = (0 : Int32)
  · obtain ⟨sa102, T102, h102, k102, sb102, kc102, X102, e102, E102, S102, ks102, hZ102, ho102, x102, fc102, fv102, A102, -, -, I102, st102⟩ := ldcSV (s := s) (vm0 := s.vm) X0 hx hZ0 hown0 (hw _ (List.mem_of_getElem? (i := 136) rfl)) (own_sa hw) e0 ((State.WarmedH.refl s).since 0) (Nat.zero_le _) (Fr.nil _) (fun b cl q => by rw [show s.heap = h0 from hh]; exact O0.2.2 b cl q) hI0 hnot ch hcw (z := (0 : Int32)) ⟨by decide, rfl⟩ (by decide) (by decide) (g := (mkF m 4 #[.val (.ref a1), .val (.int p2), .val (.int p3)] [])) rfl (hb hby d17_4) (n := 0) (by decide) (by decide) (by decide) (by decide)
    have f103 : Old Z n0 h102 := O0.ext E102
    have f104 : OwnL Z h102 a1 n f := OwnL.ext L1 E102
    have Zs102 : n0 ≤ h102.size := Nat.le_trans Z0 E102.1
    have K102 : Keep h0 h102 [] := (Keep.refl h0 []).ext E102
    have es102 : OwnS Z h102 sa102 sb102 (0 : Int32) (own_sh f p2) := OwnS.empty x102 fc102 fv102 A102 _
    obtain ⟨fs, hr, hrun, hended, hRW⟩ := Stand.leaveW (s := s) (vm₁ := T102.vm) X102 S102 (by rw [e102]; exact ks102) (v := some (.ref sa102)) (fun h => by rw [Bd.returns] at h; cases h) hlk
    refine ⟨_, _, pre0 _ ?_, hrun, hended, _, _, rfl, ?_, own_ibT (s := s) (vm0 := T102.vm) (T := T102) X102 I102, own_rmono hRW (by decide) (by decide)⟩
    · show Steps p.tables e below (s₁.setTop (mkF m 0 #[.val (.ref a1), .val (.int p2), .val (.int p3)] [])) _
      refine XS.iloadN X0.here hx rfl (hb hby d17_0) rfl ?_
      show Steps p.tables e below (s₁.setTop (mkF m 1 #[.val (.ref a1), .val (.int p2), .val (.int p3)] [(.int p3)])) _
      refine XS.ifNo X0.here hx rfl (hb hby d17_1) rfl ((if0 _ _).trans (teq hc101).2) ?_
      show Steps p.tables e below (s₁.setTop (mkF m 4 #[.val (.ref a1), .val (.int p2), .val (.int p3)] [])) _
      refine st102 _ ?_
      show Steps p.tables e below (T102.setTop (mkF m 6 #[.val (.ref a1), .val (.int p2), .val (.int p3)] [(.ref sa102)])) _
      jvm_step X102.here [X102.here.top, hx, (hb hby d17_6), X102.method', Bd.returns, Value.isRef, FieldType.isReference]
      first | (intro acts; rw [hr _ acts rfl rfl rfl]) | rw [hr _ _ rfl rfl rfl]
      exact Steps.refl _
    · show Q17 Z a1 p2 p3 w n f Ts h0 n0 _ T102.heap _
      rw [e102]
      exact ⟨sa102, sb102, rfl, N0, K102, (by rw [hc101]; exact es102)⟩
  · obtain ⟨T105, h105, X105, e105, E105, A105, D105, -, st105⟩ := newO X0 hx hZ0 hown0 (hw _ (List.mem_of_getElem? (i := 95) rfl)) (hw _ (List.mem_of_getElem? (i := 3) rfl)) (hw _ (List.mem_of_getElem? (i := 4) rfl)) e0 (g := (mkF m 7 #[.val (.ref a1), .val (.int p2), .val (.int p3)] [])) rfl (hb hby d17_7) (by decide) (by decide)
    obtain ⟨b105, g105⟩ : ∃ z, z = h0.size := ⟨_, rfl⟩
    rw [← g105] at A105 D105 st105
    have ne_a1_b105 : a1 ≠ b105 := Nat.ne_of_lt (Nat.lt_of_lt_of_le L1.lt (Nat.le_of_eq g105.symm))
    have gn_b105 : n0 ≤ b105 := Nat.le_trans Z0 (Nat.le_of_eq g105.symm)
    have sz_b105 : h0.size ≤ b105 := Nat.le_trans (Keep.refl h0 []).1 (Nat.le_of_eq g105.symm)
    have f106 : Old Z n0 h105 := O0.ext E105
    have f107 : OwnL Z h105 a1 n f := OwnL.ext L1 E105
    have Zs105 : n0 ≤ h105.size := Nat.le_trans Z0 E105.1
    have K105 : Keep h0 h105 [] := (Keep.refl h0 []).ext E105
    have f108 : Fld Z h105 b105 "java/lang/String" "coder" "B" (.int (0 : Int32)) := D105 (Or.inr (hw _ (List.mem_of_getElem? (i := 28) rfl))) (ty := .byte) (by decide)
    have f109 : Fld Z h105 b105 "java/lang/String" "value" "[B" .null := D105 (Or.inr (hw _ (List.mem_of_getElem? (i := 30) rfl))) (ty := (.array .byte)) (by decide)
    obtain ⟨_, _, ⟨T110, L110, k110, n110⟩, -, X110, ⟨Lc110, hQ110, l110, y110, z110⟩, st110⟩ := Jvm.LawKit.callS X105 hx (y := (⟨"java/util/Arrays", "copyOfRange", "([BII)[B"⟩ : MethodName)) hown0 (mvT hZ0 (hw _ (List.mem_of_getElem? (i := 96) rfl))) (mvT hZ0 (hw _ (List.mem_of_getElem? (i := 97) rfl))) (mvT hZ0 (hw _ (List.mem_of_getElem? (i := 98) rfl))) (mvT hZ0 (hw _ (List.mem_of_getElem? (i := 99) rfl))) (by decide) (backOf (W := 2) (rm18 l Z a0 hw [] a1 p2 (p2 + p3) n f h105 n0 Zs105 f106 f107 (own_e3 (P := fun o l n => own_cr o (o + l) n) sm rg (by decide +kernel)) ((own_e3 (P := fun o l n => ¬ (o = (0 : Int32) ∧ l = n) → ¬ (o = (0 : Int32) ∧ o + l = n)) sm rg (by decide +kernel)) nf)) hZ0 (hw _ (List.mem_of_getElem? (i := 99) rfl)) (hw _ (List.mem_of_getElem? (i := 98) rfl)) (by decide) (by decide)) (g := (mkF m 16 #[.val (.ref a1), .val (.int p2), .val (.int p3)] [(.int (p2 + p3)), (.int p2), (.ref a1), (.ref b105), (.ref b105)])) rfl (by rw [hml]; rfl) (argsL := [(.ref a1), (.int p2), (.int (p2 + p3))]) (rest := [(.ref b105), (.ref b105)]) (lenOf pd_15 rfl) rfl (by show 2 * 0 + _ ≤ _; exact Nat.le_of_eq rfl) (hb hby d17_16) (fun _ _ => ⟨rfl, e105, (by decide : 1 + 1 ≤ _), (by decide : 4 + 16 ≤ _)⟩)
    dsimp only [Pt.U, Pt.locs, Pt.cells, Pt.slots] at X110 l110 y110 z110 st110 hQ110
    subst l110 y110 z110
    obtain ⟨b_110, rfl, N110q, P110_0, P110_1, P110_2⟩ := hQ110
    have N110 := Fr.app N0 N110q
    have ne_a1_b_110 : a1 ≠ b_110 := Nat.ne_of_lt (Nat.lt_of_lt_of_le f107.lt P110_1)
    have ne_b105_b_110 : b105 ≠ b_110 := Nat.ne_of_lt (Nat.lt_of_lt_of_le A105.lt P110_1)
    have gn_b_110 : n0 ≤ b_110 := Nat.le_trans Zs105 P110_1
    have sz_b_110 : h0.size ≤ b_110 := Nat.le_trans K105.1 P110_1
    have f111 : Old Z n0 T110.heap := f106.keep P110_0 all0
    have f112 : OwnL Z T110.heap a1 n f := OwnL.keep f107 P110_0 nin0
    have f113 : Exa Z T110.heap b105 "java/lang/String" := A105.keep P110_0
    have f114 : Fld Z T110.heap b105 "java/lang/String" "coder" "B" (.int (0 : Int32)) := f108.keep P110_0 nin0
    have f115 : Fld Z T110.heap b105 "java/lang/String" "value" "[B" .null := f109.keep P110_0 nin0
    have Zs110 : n0 ≤ T110.heap.size := Nat.le_trans Zs105 P110_0.1
    have K110 : Keep h0 T110.heap [] := K105.trans P110_0 all0
    have uu110 : OwnL Z T110.heap b_110 p3 (own_sh f p2) := OwnB.to P110_2 (own_e3 (P := fun o l n => (o + l) - o = l) sm rg (by decide +kernel)) rfl
    obtain ⟨_, _, ⟨T116, L116, k116, n116⟩, -, X116, ⟨Lc116, hQ116, l116, y116, z116⟩, st116⟩ := X110.specialBack hx (y := (⟨"java/lang/String", "<init>", "([BB)V"⟩ : MethodName)) rfl hown0 (mvT hZ0 (hw _ (List.mem_of_getElem? (i := 114) rfl))) (mvT hZ0 (hw _ (List.mem_of_getElem? (i := 115) rfl))) (mvT hZ0 (hw _ (List.mem_of_getElem? (i := 116) rfl))) (by decide) (backOf (W := 1) (rm220 l Z a0 hw [] b105 b_110 T110.heap n0 Zs110 f113 gn_b105 f115 f114) hZ0 (hw _ (List.mem_of_getElem? (i := 116) rfl)) (hw _ (List.mem_of_getElem? (i := 4) rfl)) (by decide) (by decide)) (g := (mkF m 20 #[.val (.ref a1), .val (.int p2), .val (.int p3)] [(.int (0 : Int32)), (.ref b_110), (.ref b105), (.ref b105)])) rfl (by rw [hml]; rfl) (Steps.refl _) (a := b105) (argsL := [(.ref b_110), (.int (0 : Int32))]) (rest := [(.ref b105)]) (lenOf pd_20 rfl) rfl (by show 2 * 0 + _ ≤ _; exact Nat.le_of_eq rfl) (hb hby d17_20) (fun _ _ => ⟨rfl, rfl, (by decide : 2 + 0 ≤ _), (by decide : 20 + 0 ≤ _)⟩)
    dsimp only [Pt.U, Pt.locs, Pt.cells, Pt.slots] at X116 l116 y116 z116 st116 hQ116
    subst l116 y116 z116
    obtain ⟨rfl, N116q, P116_0, P116_1, P116_2⟩ := hQ116
    have N116 := Fr.app N110 N116q
    have f117 : Old Z n0 T116.heap := f111.keep P116_0 (allS gn_b105 all0)
    have f118 : OwnL Z T116.heap a1 n f := OwnL.keep f112 P116_0 (ninS ne_a1_b105 nin0)
    have f119 : Exa Z T116.heap b105 "java/lang/String" := f113.keep P116_0
    have f120 : OwnB Z T116.heap b_110 ((p2 + p3) - p2) ((p2 + p3) - p2).toNatClampNeg (own_sh f p2) := OwnB.keep P110_2 P116_0 (ninS (Ne.symm ne_b105_b_110) nin0)
    have f121 : OwnL Z T116.heap b_110 p3 (own_sh f p2) := OwnL.keep uu110 P116_0 (ninS (Ne.symm ne_b105_b_110) nin0)
    have Zs116 : n0 ≤ T116.heap.size := Nat.le_trans Zs110 P116_0.1
    have K116 : Keep h0 T116.heap [] := K110.trans P116_0 (allS (Or.inr sz_b105) all0)
    obtain ⟨fs, hr, hrun, hended, hRW⟩ := Stand.leaveW (s := s) (vm₁ := s.vm) X116 ((State.WarmedH.refl s).since 0) (Nat.zero_le _) (v := some (.ref b105)) (fun h => by rw [Bd.returns] at h; cases h) hlk
    refine ⟨_, _, pre0 _ ?_, hrun, hended, _, _, rfl, ?_, IB.step (own_ibT (s := s) (vm0 := s.vm) (T := T116) X116 hI0) (Or.inl rfl), own_rmono hRW (by decide) (by decide)⟩
    · show Steps p.tables e below (s₁.setTop (mkF m 0 #[.val (.ref a1), .val (.int p2), .val (.int p3)] [])) _
      refine XS.iloadN X0.here hx rfl (hb hby d17_0) rfl ?_
      show Steps p.tables e below (s₁.setTop (mkF m 1 #[.val (.ref a1), .val (.int p2), .val (.int p3)] [(.int p3)])) _
      refine XS.ifYes X0.here hx rfl (pc0 := 1) (pc' := 7) rfl (hb hby d17_1) rfl ((if0 _ _).trans (feq hc101).2) (by decide) (by decide) ?_
      show Steps p.tables e below (s₁.setTop (mkF m 7 #[.val (.ref a1), .val (.int p2), .val (.int p3)] [])) _
      refine st105 _ ?_
      show Steps p.tables e below (T105.setTop (mkF m 10 #[.val (.ref a1), .val (.int p2), .val (.int p3)] [(.ref b105)])) _
      refine XS.dup X105.here hx rfl (hb hby d17_10) rfl rfl ?_
      show Steps p.tables e below (T105.setTop (mkF m 11 #[.val (.ref a1), .val (.int p2), .val (.int p3)] [(.ref b105), (.ref b105)])) _
      refine XS.aloadN X105.here hx rfl (hb hby d17_11) rfl rfl ?_
      show Steps p.tables e below (T105.setTop (mkF m 12 #[.val (.ref a1), .val (.int p2), .val (.int p3)] [(.ref a1), (.ref b105), (.ref b105)])) _
      refine XS.iloadN X105.here hx rfl (hb hby d17_12) rfl ?_
      show Steps p.tables e below (T105.setTop (mkF m 13 #[.val (.ref a1), .val (.int p2), .val (.int p3)] [(.int p2), (.ref a1), (.ref b105), (.ref b105)])) _
      refine XS.iloadN X105.here hx rfl (hb hby d17_13) rfl ?_
      show Steps p.tables e below (T105.setTop (mkF m 14 #[.val (.ref a1), .val (.int p2), .val (.int p3)] [(.int p2), (.int p2), (.ref a1), (.ref b105), (.ref b105)])) _
      refine XS.iloadN X105.here hx rfl (hb hby d17_14) rfl ?_
      show Steps p.tables e below (T105.setTop (mkF m 15 #[.val (.ref a1), .val (.int p2), .val (.int p3)] [(.int p3), (.int p2), (.int p2), (.ref a1), (.ref b105), (.ref b105)])) _
      refine XS.iadd X105.here hx rfl (hb hby d17_15) rfl ?_
      show Steps p.tables e below (T105.setTop (mkF m 16 #[.val (.ref a1), .val (.int p2), .val (.int p3)] [(.int (p2 + p3)), (.int p2), (.ref a1), (.ref b105), (.ref b105)])) _
      refine st110 _ ?_
      show Steps p.tables e below (T110.setTop (mkF m 19 #[.val (.ref a1), .val (.int p2), .val (.int p3)] [(.ref b_110), (.ref b105), (.ref b105)])) _
      refine XS.iconst X110.here hx rfl (hb hby d17_19) ?_
      show Steps p.tables e below (T110.setTop (mkF m 20 #[.val (.ref a1), .val (.int p2), .val (.int p3)] [(.int (0 : Int32)), (.ref b_110), (.ref b105), (.ref b105)])) _
      refine st116.trans ?_
      show Steps p.tables e below (T116.setTop (mkF m 23 #[.val (.ref a1), .val (.int p2), .val (.int p3)] [(.ref b105)])) _
      jvm_step X116.here [X116.here.top, hx, (hb hby d17_23), X116.method', Bd.returns, Value.isRef, FieldType.isReference]
      first | (intro acts; rw [hr _ acts rfl rfl rfl]) | rw [hr _ _ rfl rfl rfl]
      exact Steps.refl _
    · show Q17 Z a1 p2 p3 w n f Ts h0 n0 _ T116.heap _
      exact ⟨b105, b_110, rfl, N116, K116, ⟨f119, P116_1, Or.inl ⟨P116_2, f121, own_lats sm rg hl⟩⟩⟩
theorem ef_33 (m : MethodId) (x0 : Addr) (x1 : Int32) (x2 : Int32) : entryFrame m #[(.ref x0), (.int x1), (.int x2)] 5 = mkF m 0 #[.val (.ref x0), .val (.int x1), .val (.int x2), .unset, .unset] [] := by first | (simp [entryFrame, mkF, argsToLocals, Value.category]; done) | rfl
theorem d33_0 : decode jdk_52_method_69_code 0 = .ok (.iload_n 2, 1) := by decide +kernel
theorem d33_1 : decode jdk_52_method_69_code 1 = .ok (.ifCond .ne 7, 3) := by decide +kernel
theorem d33_4 : decode jdk_52_method_69_code 4 = .ok (.ldc_w 295, 3) := by decide +kernel
theorem d33_7 : decode jdk_52_method_69_code 7 = .ok (.areturn, 1) := by decide +kernel
theorem d33_8 : decode jdk_52_method_69_code 8 = .ok (.getstatic 251, 3) := by decide +kernel
theorem d33_11 : decode jdk_52_method_69_code 11 = .ok (.ifCond .eq 28, 3) := by decide +kernel
theorem d33_14 : decode jdk_52_method_69_code 14 = .ok (.aload_n 0, 1) := by decide +kernel
theorem d33_15 : decode jdk_52_method_69_code 15 = .ok (.iload_n 1, 1) := by decide +kernel
theorem d33_16 : decode jdk_52_method_69_code 16 = .ok (.iload_n 2, 1) := by decide +kernel
theorem d33_17 : decode jdk_52_method_69_code 17 = .ok (.invokestatic 257, 3) := by decide +kernel
theorem d33_20 : decode jdk_52_method_69_code 20 = .ok (.astore_n 3, 1) := by decide +kernel
theorem d33_21 : decode jdk_52_method_69_code 21 = .ok (.aload_n 3, 1) := by decide +kernel
theorem d33_22 : decode jdk_52_method_69_code 22 = .ok (.iload_n 2, 1) := by decide +kernel
theorem d33_23 : decode jdk_52_method_69_code 23 = .ok (.invokestatic 259, 3) := by decide +kernel
theorem d33_26 : decode jdk_52_method_69_code 26 = .ok (.istore 4, 2) := by decide +kernel
theorem d33_28 : decode jdk_52_method_69_code 28 = .ok (.new 3, 3) := by decide +kernel
theorem d33_31 : decode jdk_52_method_69_code 31 = .ok (.dup, 1) := by decide +kernel
theorem d33_32 : decode jdk_52_method_69_code 32 = .ok (.aload_n 3, 1) := by decide +kernel
theorem d33_33 : decode jdk_52_method_69_code 33 = .ok (.iload 4, 2) := by decide +kernel
theorem d33_35 : decode jdk_52_method_69_code 35 = .ok (.invokespecial 263, 3) := by decide +kernel
theorem d33_38 : decode jdk_52_method_69_code 38 = .ok (.areturn, 1) := by decide +kernel
def Q33 (Z : State) (a1 : Addr) (p2 : Int32) (p3 : Int32) (w : Int32) (n : Int32) (f : Nat → Int32) (Ts : List String) (h0 : Heap) (n0 : Nat) (v : Option Value) (h : Heap) (L : List Loc) : Prop := ∃ r : Addr, ∃ b : Addr, v = some (.ref r) ∧ Fr n0 L ∧ (Keep h0 h []) ∧ (OwnS Z h r b p3 (own_sh f p2))
set_option maxRecDepth 65536 in
set_option maxHeartbeats 40000000 in
theorem rm33 (l : Launch) (Z : State) (a0 : Array Value) (hw : ∀ d ∈ tables_1, d.before a0 Z = true) (ws : List Jvm.Cond) (a1 : Addr) (p2 : Int32) (p3 : Int32) (w : Int32) (n : Int32) (f : Nat → Int32) (Ts : List String) (h0 : Heap) (n0 : Nat) (Z0 : n0 ≤ h0.size) (O0 : Old Z n0 h0) (S0 : Sta Z Z.heap "java/lang/String" "COMPACT_STRINGS" "Z" (.int w)) (hw0 : ¬ (w = (0 : Int32))) (SA : Sta Z Z.heap "java/lang/StringUTF16" "$assertionsDisabled" "Z" (.int (1 : Int32))) (SHI : Sta Z Z.heap "java/lang/StringUTF16" "HI_BYTE_SHIFT" "I" (.int (0 : Int32))) (SLO : Sta Z Z.heap "java/lang/StringUTF16" "LO_BYTE_SHIFT" "I" (.int (8 : Int32))) (FM : Fmt Z) (U1 : OwnU Z h0 a1 n f) (sm : own_sm n) (rg : own_rg p2 p3 n) (nf : ¬ (p2 = (0 : Int32) ∧ p3 = n)) (hf : own_ch f) (hcw : Jvm.Lit.compactW.before a0 Z = true) (hnot : "" ∉ Ts) (ch : Jvm.Lit.constHeld Z "java/lang/StringUTF16" 295) :
    MetFree l (⟨"java/lang/StringUTF16", "newString", "([BII)Ljava/lang/String;"⟩ : MethodName) (head1 (Jvm.Cond.code (⟨"java/lang/StringUTF16", "newString", "([BII)Ljava/lang/String;"⟩ : MethodName) jdk_52_method_69_code 5 (some (.object "java/lang/String")) :: ws) ({ frames := 5, cells := 3, slots := 36, locals := 78 } : Room)) (fun a U => a = #[(.ref a1), (.int p2), (.int p3)] ∧ Z.Warmed39 U.vm ∧ U.heap = h0 ∧ IB Z U.vm Ts) (fun _ _ _ _ _ => True) (fun _ U o U' => ∃ v L, o = .returned v ∧ Q33 Z a1 p2 p3 w n f Ts h0 n0 v U'.heap L ∧ IB Z U'.vm ("" :: Ts) ∧ ReturnedEndW U o U' L ({ frames := 5, cells := 3, slots := 36, locals := 78 } : Room).cells ({ frames := 5, cells := 3, slots := 36, locals := 78 } : Room).slots) := by
  refine MetFree.of_bodySF (plainFor_of_name pn_2) hisR ?_
  intro p e s m args below meth c s₁ Bd hml0 hP hK
  obtain ⟨rfl, hZ0, hh, hI0⟩ := hP
  have hx := Bd.exec
  have hby := Bd.bytes
  have hml : c.maxLocals = 5 := hml0
  have hown0 : s.vm.findClass "java/lang/StringUTF16" = some m.cls := findClass_of_methodNamed Bd.named
  have hnm := (name_of_methodNamed Bd.named Bd.method).1
  have hlk : meth.locks = false := by first | exact BodyLoose.notSynchronized Bd | exact Body.notSynchronized Bd
  have X0 : Stand p l e ({ frames := 5, cells := 3, slots := 36, locals := 78 } : Room) s m #[(.ref a1), (.int p2), (.int p3)] below meth c s₁ [] 0 0 := Stand.of_body Bd
  have e0 : s₁.heap = h0 := by rw [← hh, Bd.state]; rfl
  have N0 := Fr.nil n0
  have pre0 : ∀ t, Steps p.tables e below (s₁.setTop (mkF m 0 #[.val (.ref a1), .val (.int p2), .val (.int p3), .unset, .unset] [])) t → Steps p.tables e below (s₁.setTop (entryFrame m #[(.ref a1), (.int p2), (.int p3)] 5)) t := fun t k => castTop (ef_33 m a1 p2 p3) k
  by_cases hc101 : p3 = (0 : Int32)
  · obtain ⟨sa102, T102, h102, k102, sb102, X102, e102, E102, S102, ks102, hZ102, ho102, y102, I102, st102⟩ := own_ldcW0 (s := s) (vm0 := s.vm) X0 hx hZ0 hown0 (hw _ (List.mem_of_getElem? (i := 159) rfl)) (own_sa hw) e0 ((State.WarmedH.refl s).since 0) (Nat.zero_le _) (Fr.nil _) (fun b cl q => by rw [show s.heap = h0 from hh]; exact O0.2.2 b cl q) hI0 hnot ch hcw (g := (mkF m 4 #[.val (.ref a1), .val (.int p2), .val (.int p3), .unset, .unset] [])) rfl (hb hby d33_4) (by decide) (by decide)
    have f103 : Old Z n0 h102 := O0.ext E102
    have f104 : OwnU Z h102 a1 n f := OwnU.ext U1 E102
    have Zs102 : n0 ≤ h102.size := Nat.le_trans Z0 E102.1
    have K102 : Keep h0 h102 [] := (Keep.refl h0 []).ext E102
    have es102 : OwnS Z h102 sa102 sb102 (0 : Int32) (own_sh f p2) := y102 (own_sh f p2)
    obtain ⟨fs, hr, hrun, hended, hRW⟩ := Stand.leaveW (s := s) (vm₁ := T102.vm) X102 S102 (by rw [e102]; exact ks102) (v := some (.ref sa102)) (fun h => by rw [Bd.returns] at h; cases h) hlk
    refine ⟨_, _, pre0 _ ?_, hrun, hended, _, _, rfl, ?_, own_ibT (s := s) (vm0 := T102.vm) (T := T102) X102 I102, own_rmono hRW (by decide) (by decide)⟩
    · show Steps p.tables e below (s₁.setTop (mkF m 0 #[.val (.ref a1), .val (.int p2), .val (.int p3), .unset, .unset] [])) _
      refine XS.iloadN X0.here hx rfl (hb hby d33_0) rfl ?_
      show Steps p.tables e below (s₁.setTop (mkF m 1 #[.val (.ref a1), .val (.int p2), .val (.int p3), .unset, .unset] [(.int p3)])) _
      refine XS.ifNo X0.here hx rfl (hb hby d33_1) rfl ((if0 _ _).trans (teq hc101).2) ?_
      show Steps p.tables e below (s₁.setTop (mkF m 4 #[.val (.ref a1), .val (.int p2), .val (.int p3), .unset, .unset] [])) _
      refine st102 _ ?_
      show Steps p.tables e below (T102.setTop (mkF m 7 #[.val (.ref a1), .val (.int p2), .val (.int p3), .unset, .unset] [(.ref sa102)])) _
      jvm_step X102.here [X102.here.top, hx, (hb hby d33_7), X102.method', Bd.returns, Value.isRef, FieldType.isReference]
      first | (intro acts; rw [hr _ acts rfl rfl rfl]) | rw [hr _ _ rfl rfl rfl]
      exact Steps.refl _
    · show Q33 Z a1 p2 p3 w n f Ts h0 n0 _ T102.heap _
      rw [e102]
      exact ⟨sa102, sb102, rfl, N0, K102, (by rw [hc101]; exact es102)⟩
  · obtain ⟨T105, X105, e105, st105⟩ := getS2 X0 hx hZ0 hown0 (host := "") (Or.inl (hw _ (List.mem_of_getElem? (i := 160) rfl))) Via.refl e0 (Sta.ext O0.2 S0) (g := (mkF m 8 #[.val (.ref a1), .val (.int p2), .val (.int p3), .unset, .unset] [])) rfl (hb hby d33_8)
    have pr106 : ∀ tg9, Steps p.tables e below (T105.setTop (mkF m 14 #[.val (.ref a1), .val (.int p2), .val (.int p3), .unset, .unset] [])) tg9 → Steps p.tables e below (s₁.setTop (mkF m 0 #[.val (.ref a1), .val (.int p2), .val (.int p3), .unset, .unset] [])) tg9 := fun tg9 kt => by
      show Steps p.tables e below (s₁.setTop (mkF m 0 #[.val (.ref a1), .val (.int p2), .val (.int p3), .unset, .unset] [])) _
      refine XS.iloadN X0.here hx rfl (hb hby d33_0) rfl ?_
      show Steps p.tables e below (s₁.setTop (mkF m 1 #[.val (.ref a1), .val (.int p2), .val (.int p3), .unset, .unset] [(.int p3)])) _
      refine XS.ifYes X0.here hx rfl (pc0 := 1) (pc' := 8) rfl (hb hby d33_1) rfl ((if0 _ _).trans (feq hc101).2) (by decide) (by decide) ?_
      show Steps p.tables e below (s₁.setTop (mkF m 8 #[.val (.ref a1), .val (.int p2), .val (.int p3), .unset, .unset] [])) _
      refine st105 _ ?_
      show Steps p.tables e below (T105.setTop (mkF m 11 #[.val (.ref a1), .val (.int p2), .val (.int p3), .unset, .unset] [(.int w)])) _
      refine XS.ifNo X105.here hx rfl (hb hby d33_11) rfl ((if0 _ _).trans (feq hw0).1) ?_
      exact kt
    by_cases hc107 : own_lat (own_sh f p2) p3
    · obtain ⟨_, _, ⟨T108, L108, k108, n108⟩, -, X108, ⟨Lc108, hQ108, l108, y108, z108⟩, st108⟩ := Jvm.LawKit.callS X105 hx (y := (⟨"java/lang/StringUTF16", "compress", "([BII)[B"⟩ : MethodName)) hown0 (mvT hZ0 (hw _ (List.mem_of_getElem? (i := 161) rfl))) (mvT hZ0 (hw _ (List.mem_of_getElem? (i := 162) rfl))) (mvT hZ0 (hw _ (List.mem_of_getElem? (i := 18) rfl))) (mvT hZ0 (hw _ (List.mem_of_getElem? (i := 163) rfl))) (by decide) (backOf (W := 0) (rm34a l Z a0 hw [] a1 p2 p3 w n f h0 n0 Z0 O0 S0 hw0 SA SHI SLO FM U1 sm rg ((own_e3 (P := fun o l n => ¬ (l = (0 : Int32)) → (0 : Int32) < l) sm rg (by decide +kernel)) hc101) nf hf hc107) hZ0 (hw _ (List.mem_of_getElem? (i := 163) rfl)) (hw _ (List.mem_of_getElem? (i := 18) rfl)) (by decide) (by decide)) (g := (mkF m 17 #[.val (.ref a1), .val (.int p2), .val (.int p3), .unset, .unset] [(.int p3), (.int p2), (.ref a1)])) rfl (by rw [hml]; rfl) (argsL := [(.ref a1), (.int p2), (.int p3)]) (rest := []) (lenOf pd_15 rfl) rfl (by show 2 * 0 + _ ≤ _; exact Nat.le_of_eq rfl) (hb hby d33_17) (fun _ _ => ⟨rfl, e105, (by decide : 0 + 1 ≤ _), (by decide : 0 + 16 ≤ _)⟩)
      dsimp only [Pt.U, Pt.locs, Pt.cells, Pt.slots] at X108 l108 y108 z108 st108 hQ108
      subst l108 y108 z108
      obtain ⟨b_108, rfl, N108q, P108_0, P108_1, P108_2⟩ := hQ108
      have N108 := Fr.app N0 N108q
      have ne_a1_b_108 : a1 ≠ b_108 := Nat.ne_of_lt (Nat.lt_of_lt_of_le U1.lt P108_1)
      have gn_b_108 : n0 ≤ b_108 := Nat.le_trans Z0 P108_1
      have sz_b_108 : h0.size ≤ b_108 := Nat.le_trans (Keep.refl h0 []).1 P108_1
      have f109 : Old Z n0 T108.heap := O0.keep P108_0 all0
      have f110 : OwnU Z T108.heap a1 n f := OwnU.keep U1 P108_0 nin0
      have Zs108 : n0 ≤ T108.heap.size := Nat.le_trans Z0 P108_0.1
      have K108 : Keep h0 T108.heap [] := (Keep.refl h0 []).trans P108_0 all0
      obtain ⟨_, _, ⟨T111, L111, k111, n111⟩, -, X111, ⟨Lc111, hQ111, l111, y111, z111⟩, st111⟩ := Jvm.LawKit.callS X108 hx (y := (⟨"java/lang/StringUTF16", "coderFromArrayLen", "([BI)B"⟩ : MethodName)) hown0 (mvT hZ0 (hw _ (List.mem_of_getElem? (i := 179) rfl))) (mvT hZ0 (hw _ (List.mem_of_getElem? (i := 25) rfl))) (mvT hZ0 (hw _ (List.mem_of_getElem? (i := 18) rfl))) (mvT hZ0 (hw _ (List.mem_of_getElem? (i := 26) rfl))) (by decide) (backOf (W := 0) (rm6L l Z a0 hw [] b_108 p3 (own_sh f p2) T108.heap n0 Zs108 P108_2) hZ0 (hw _ (List.mem_of_getElem? (i := 26) rfl)) (hw _ (List.mem_of_getElem? (i := 18) rfl)) (by decide) (by decide)) (g := (mkF m 23 #[.val (.ref a1), .val (.int p2), .val (.int p3), .val (.ref b_108), .unset] [(.int p3), (.ref b_108)])) rfl (by rw [hml]; rfl) (argsL := [(.ref b_108), (.int p3)]) (rest := []) (lenOf pd_12 rfl) rfl (by show 2 * 0 + _ ≤ _; exact Nat.le_of_eq rfl) (hb hby d33_23) (fun _ _ => ⟨rfl, rfl, (by decide : 1 + 0 ≤ _), (by decide : 16 + 0 ≤ _)⟩)
      dsimp only [Pt.U, Pt.locs, Pt.cells, Pt.slots] at X111 l111 y111 z111 st111 hQ111
      subst l111 y111 z111
      obtain ⟨rfl, N111q, P111_0⟩ := hQ111
      have N111 := Fr.app N108 N111q
      obtain ⟨T112, h112, X112, e112, E112, A112, D112, -, st112⟩ := newO X111 hx hZ0 hown0 (hw _ (List.mem_of_getElem? (i := 180) rfl)) (hw _ (List.mem_of_getElem? (i := 3) rfl)) (hw _ (List.mem_of_getElem? (i := 4) rfl)) P111_0 (g := (mkF m 28 #[.val (.ref a1), .val (.int p2), .val (.int p3), .val (.ref b_108), .val (.int (0 : Int32))] [])) rfl (hb hby d33_28) (by decide) (by decide)
      obtain ⟨b112, g112⟩ : ∃ z, z = T108.heap.size := ⟨_, rfl⟩
      rw [← g112] at A112 D112 st112
      have ne_a1_b112 : a1 ≠ b112 := Nat.ne_of_lt (Nat.lt_of_lt_of_le f110.lt (Nat.le_of_eq g112.symm))
      have ne_b_108_b112 : b_108 ≠ b112 := Nat.ne_of_lt (Nat.lt_of_lt_of_le P108_2.lt (Nat.le_of_eq g112.symm))
      have gn_b112 : n0 ≤ b112 := Nat.le_trans Zs108 (Nat.le_of_eq g112.symm)
      have sz_b112 : h0.size ≤ b112 := Nat.le_trans K108.1 (Nat.le_of_eq g112.symm)
      have f113 : Old Z n0 h112 := f109.ext E112
      have f114 : OwnU Z h112 a1 n f := OwnU.ext f110 E112
      have f115 : OwnL Z h112 b_108 p3 (own_sh f p2) := OwnL.ext P108_2 E112
      have Zs112 : n0 ≤ h112.size := Nat.le_trans Zs108 E112.1
      have K112 : Keep h0 h112 [] := K108.ext E112
      have f116 : Fld Z h112 b112 "java/lang/String" "coder" "B" (.int (0 : Int32)) := D112 (Or.inr (hw _ (List.mem_of_getElem? (i := 28) rfl))) (ty := .byte) (by decide)
      have f117 : Fld Z h112 b112 "java/lang/String" "value" "[B" .null := D112 (Or.inr (hw _ (List.mem_of_getElem? (i := 30) rfl))) (ty := (.array .byte)) (by decide)
      obtain ⟨_, _, ⟨T118, L118, k118, n118⟩, -, X118, ⟨Lc118, hQ118, l118, y118, z118⟩, st118⟩ := X112.specialBack hx (y := (⟨"java/lang/String", "<init>", "([BB)V"⟩ : MethodName)) rfl hown0 (mvT hZ0 (hw _ (List.mem_of_getElem? (i := 181) rfl))) (mvT hZ0 (hw _ (List.mem_of_getElem? (i := 115) rfl))) (mvT hZ0 (hw _ (List.mem_of_getElem? (i := 116) rfl))) (by decide) (backOf (W := 1) (rm220 l Z a0 hw [] b112 b_108 h112 n0 Zs112 A112 gn_b112 f117 f116) hZ0 (hw _ (List.mem_of_getElem? (i := 116) rfl)) (hw _ (List.mem_of_getElem? (i := 4) rfl)) (by decide) (by decide)) (g := (mkF m 35 #[.val (.ref a1), .val (.int p2), .val (.int p3), .val (.ref b_108), .val (.int (0 : Int32))] [(.int (0 : Int32)), (.ref b_108), (.ref b112), (.ref b112)])) rfl (by rw [hml]; rfl) (Steps.refl _) (a := b112) (argsL := [(.ref b_108), (.int (0 : Int32))]) (rest := [(.ref b112)]) (lenOf pd_20 rfl) rfl (by show 2 * 0 + _ ≤ _; exact Nat.le_of_eq rfl) (hb hby d33_35) (fun _ _ => ⟨rfl, e112, (by decide : 2 + 0 ≤ _), (by decide : 20 + 0 ≤ _)⟩)
      dsimp only [Pt.U, Pt.locs, Pt.cells, Pt.slots] at X118 l118 y118 z118 st118 hQ118
      subst l118 y118 z118
      obtain ⟨rfl, N118q, P118_0, P118_1, P118_2⟩ := hQ118
      have N118 := Fr.app N111 N118q
      have f119 : Old Z n0 T118.heap := f113.keep P118_0 (allS gn_b112 all0)
      have f120 : OwnU Z T118.heap a1 n f := OwnU.keep f114 P118_0 (ninS ne_a1_b112 nin0)
      have f121 : OwnL Z T118.heap b_108 p3 (own_sh f p2) := OwnL.keep f115 P118_0 (ninS ne_b_108_b112 nin0)
      have f122 : Exa Z T118.heap b112 "java/lang/String" := A112.keep P118_0
      have Zs118 : n0 ≤ T118.heap.size := Nat.le_trans Zs112 P118_0.1
      have K118 : Keep h0 T118.heap [] := K112.trans P118_0 (allS (Or.inr sz_b112) all0)
      obtain ⟨fs, hr, hrun, hended, hRW⟩ := Stand.leaveW (s := s) (vm₁ := s.vm) X118 ((State.WarmedH.refl s).since 0) (Nat.zero_le _) (v := some (.ref b112)) (fun h => by rw [Bd.returns] at h; cases h) hlk
      refine ⟨_, _, pre0 _ ?_, hrun, hended, _, _, rfl, ?_, IB.step (own_ibT (s := s) (vm0 := s.vm) (T := T118) X118 hI0) (Or.inl rfl), own_rmono hRW (by decide) (by decide)⟩
      · refine pr106 _ ?_
        show Steps p.tables e below (T105.setTop (mkF m 14 #[.val (.ref a1), .val (.int p2), .val (.int p3), .unset, .unset] [])) _
        refine XS.aloadN X105.here hx rfl (hb hby d33_14) rfl rfl ?_
        show Steps p.tables e below (T105.setTop (mkF m 15 #[.val (.ref a1), .val (.int p2), .val (.int p3), .unset, .unset] [(.ref a1)])) _
        refine XS.iloadN X105.here hx rfl (hb hby d33_15) rfl ?_
        show Steps p.tables e below (T105.setTop (mkF m 16 #[.val (.ref a1), .val (.int p2), .val (.int p3), .unset, .unset] [(.int p2), (.ref a1)])) _
        refine XS.iloadN X105.here hx rfl (hb hby d33_16) rfl ?_
        show Steps p.tables e below (T105.setTop (mkF m 17 #[.val (.ref a1), .val (.int p2), .val (.int p3), .unset, .unset] [(.int p3), (.int p2), (.ref a1)])) _
        refine st108 _ ?_
        show Steps p.tables e below (T108.setTop (mkF m 20 #[.val (.ref a1), .val (.int p2), .val (.int p3), .unset, .unset] [(.ref b_108)])) _
        refine XS.astoreN X108.here hx rfl (hb hby d33_20) rfl rfl (l' := #[.val (.ref a1), .val (.int p2), .val (.int p3), .val (.ref b_108), .unset]) rfl ?_
        show Steps p.tables e below (T108.setTop (mkF m 21 #[.val (.ref a1), .val (.int p2), .val (.int p3), .val (.ref b_108), .unset] [])) _
        refine XS.aloadN X108.here hx rfl (hb hby d33_21) rfl rfl ?_
        show Steps p.tables e below (T108.setTop (mkF m 22 #[.val (.ref a1), .val (.int p2), .val (.int p3), .val (.ref b_108), .unset] [(.ref b_108)])) _
        refine XS.iloadN X108.here hx rfl (hb hby d33_22) rfl ?_
        show Steps p.tables e below (T108.setTop (mkF m 23 #[.val (.ref a1), .val (.int p2), .val (.int p3), .val (.ref b_108), .unset] [(.int p3), (.ref b_108)])) _
        refine st111 _ ?_
        show Steps p.tables e below (T111.setTop (mkF m 26 #[.val (.ref a1), .val (.int p2), .val (.int p3), .val (.ref b_108), .unset] [(.int (0 : Int32))])) _
        refine XS.istore X111.here hx rfl (hb hby d33_26) rfl (l' := #[.val (.ref a1), .val (.int p2), .val (.int p3), .val (.ref b_108), .val (.int (0 : Int32))]) rfl ?_
        show Steps p.tables e below (T111.setTop (mkF m 28 #[.val (.ref a1), .val (.int p2), .val (.int p3), .val (.ref b_108), .val (.int (0 : Int32))] [])) _
        refine st112 _ ?_
        show Steps p.tables e below (T112.setTop (mkF m 31 #[.val (.ref a1), .val (.int p2), .val (.int p3), .val (.ref b_108), .val (.int (0 : Int32))] [(.ref b112)])) _
        refine XS.dup X112.here hx rfl (hb hby d33_31) rfl rfl ?_
        show Steps p.tables e below (T112.setTop (mkF m 32 #[.val (.ref a1), .val (.int p2), .val (.int p3), .val (.ref b_108), .val (.int (0 : Int32))] [(.ref b112), (.ref b112)])) _
        refine XS.aloadN X112.here hx rfl (hb hby d33_32) rfl rfl ?_
        show Steps p.tables e below (T112.setTop (mkF m 33 #[.val (.ref a1), .val (.int p2), .val (.int p3), .val (.ref b_108), .val (.int (0 : Int32))] [(.ref b_108), (.ref b112), (.ref b112)])) _
        refine XS.iload X112.here hx rfl (hb hby d33_33) rfl ?_
        show Steps p.tables e below (T112.setTop (mkF m 35 #[.val (.ref a1), .val (.int p2), .val (.int p3), .val (.ref b_108), .val (.int (0 : Int32))] [(.int (0 : Int32)), (.ref b_108), (.ref b112), (.ref b112)])) _
        refine st118.trans ?_
        show Steps p.tables e below (T118.setTop (mkF m 38 #[.val (.ref a1), .val (.int p2), .val (.int p3), .val (.ref b_108), .val (.int (0 : Int32))] [(.ref b112)])) _
        jvm_step X118.here [X118.here.top, hx, (hb hby d33_38), X118.method', Bd.returns, Value.isRef, FieldType.isReference]
        first | (intro acts; rw [hr _ acts rfl rfl rfl]) | rw [hr _ _ rfl rfl rfl]
        exact Steps.refl _
      · show Q33 Z a1 p2 p3 w n f Ts h0 n0 _ T118.heap _
        exact ⟨b112, b_108, rfl, N118, K118, ⟨f122, P118_1, Or.inl ⟨P118_2, f121, hc107⟩⟩⟩
    · obtain ⟨_, _, ⟨T123, L123, k123, n123⟩, -, X123, ⟨Lc123, hQ123, l123, y123, z123⟩, st123⟩ := Jvm.LawKit.callS X105 hx (y := (⟨"java/lang/StringUTF16", "compress", "([BII)[B"⟩ : MethodName)) hown0 (mvT hZ0 (hw _ (List.mem_of_getElem? (i := 161) rfl))) (mvT hZ0 (hw _ (List.mem_of_getElem? (i := 162) rfl))) (mvT hZ0 (hw _ (List.mem_of_getElem? (i := 18) rfl))) (mvT hZ0 (hw _ (List.mem_of_getElem? (i := 163) rfl))) (by decide) (backOf (W := 0) (rm34b l Z a0 hw [] a1 p2 p3 w n f h0 n0 Z0 O0 S0 hw0 SA SHI SLO FM U1 sm rg ((own_e3 (P := fun o l n => ¬ (l = (0 : Int32)) → (0 : Int32) < l) sm rg (by decide +kernel)) hc101) nf hf hc107) hZ0 (hw _ (List.mem_of_getElem? (i := 163) rfl)) (hw _ (List.mem_of_getElem? (i := 18) rfl)) (by decide) (by decide)) (g := (mkF m 17 #[.val (.ref a1), .val (.int p2), .val (.int p3), .unset, .unset] [(.int p3), (.int p2), (.ref a1)])) rfl (by rw [hml]; rfl) (argsL := [(.ref a1), (.int p2), (.int p3)]) (rest := []) (lenOf pd_15 rfl) rfl (by show 2 * 0 + _ ≤ _; exact Nat.le_of_eq rfl) (hb hby d33_17) (fun _ _ => ⟨rfl, e105, (by decide : 0 + 2 ≤ _), (by decide : 0 + 32 ≤ _)⟩)
      dsimp only [Pt.U, Pt.locs, Pt.cells, Pt.slots] at X123 l123 y123 z123 st123 hQ123
      subst l123 y123 z123
      obtain ⟨b_123, rfl, N123q, P123_0, P123_1, P123_2⟩ := hQ123
      have N123 := Fr.app N0 N123q
      have ne_a1_b_123 : a1 ≠ b_123 := Nat.ne_of_lt (Nat.lt_of_lt_of_le U1.lt P123_1)
      have gn_b_123 : n0 ≤ b_123 := Nat.le_trans Z0 P123_1
      have sz_b_123 : h0.size ≤ b_123 := Nat.le_trans (Keep.refl h0 []).1 P123_1
      have f124 : Old Z n0 T123.heap := O0.keep P123_0 all0
      have f125 : OwnU Z T123.heap a1 n f := OwnU.keep U1 P123_0 nin0
      have Zs123 : n0 ≤ T123.heap.size := Nat.le_trans Z0 P123_0.1
      have K123 : Keep h0 T123.heap [] := (Keep.refl h0 []).trans P123_0 all0
      obtain ⟨_, _, ⟨T126, L126, k126, n126⟩, -, X126, ⟨Lc126, hQ126, l126, y126, z126⟩, st126⟩ := Jvm.LawKit.callS X123 hx (y := (⟨"java/lang/StringUTF16", "coderFromArrayLen", "([BI)B"⟩ : MethodName)) hown0 (mvT hZ0 (hw _ (List.mem_of_getElem? (i := 179) rfl))) (mvT hZ0 (hw _ (List.mem_of_getElem? (i := 25) rfl))) (mvT hZ0 (hw _ (List.mem_of_getElem? (i := 18) rfl))) (mvT hZ0 (hw _ (List.mem_of_getElem? (i := 26) rfl))) (by decide) (backOf (W := 0) (rm6U l Z a0 hw [] b_123 p3 (own_sh f p2) T123.heap n0 Zs123 P123_2 ((own_e3 (P := fun o l n => ¬ (l = (0 : Int32)) → own_sm l) sm rg (by decide +kernel)) hc101)) hZ0 (hw _ (List.mem_of_getElem? (i := 26) rfl)) (hw _ (List.mem_of_getElem? (i := 18) rfl)) (by decide) (by decide)) (g := (mkF m 23 #[.val (.ref a1), .val (.int p2), .val (.int p3), .val (.ref b_123), .unset] [(.int p3), (.ref b_123)])) rfl (by rw [hml]; rfl) (argsL := [(.ref b_123), (.int p3)]) (rest := []) (lenOf pd_12 rfl) rfl (by show 2 * 0 + _ ≤ _; exact Nat.le_of_eq rfl) (hb hby d33_23) (fun _ _ => ⟨rfl, rfl, (by decide : 2 + 0 ≤ _), (by decide : 32 + 0 ≤ _)⟩)
      dsimp only [Pt.U, Pt.locs, Pt.cells, Pt.slots] at X126 l126 y126 z126 st126 hQ126
      subst l126 y126 z126
      obtain ⟨rfl, N126q, P126_0⟩ := hQ126
      have N126 := Fr.app N123 N126q
      obtain ⟨T127, h127, X127, e127, E127, A127, D127, -, st127⟩ := newO X126 hx hZ0 hown0 (hw _ (List.mem_of_getElem? (i := 180) rfl)) (hw _ (List.mem_of_getElem? (i := 3) rfl)) (hw _ (List.mem_of_getElem? (i := 4) rfl)) P126_0 (g := (mkF m 28 #[.val (.ref a1), .val (.int p2), .val (.int p3), .val (.ref b_123), .val (.int (1 : Int32))] [])) rfl (hb hby d33_28) (by decide) (by decide)
      obtain ⟨b127, g127⟩ : ∃ z, z = T123.heap.size := ⟨_, rfl⟩
      rw [← g127] at A127 D127 st127
      have ne_a1_b127 : a1 ≠ b127 := Nat.ne_of_lt (Nat.lt_of_lt_of_le f125.lt (Nat.le_of_eq g127.symm))
      have ne_b_123_b127 : b_123 ≠ b127 := Nat.ne_of_lt (Nat.lt_of_lt_of_le P123_2.lt (Nat.le_of_eq g127.symm))
      have gn_b127 : n0 ≤ b127 := Nat.le_trans Zs123 (Nat.le_of_eq g127.symm)
      have sz_b127 : h0.size ≤ b127 := Nat.le_trans K123.1 (Nat.le_of_eq g127.symm)
      have f128 : Old Z n0 h127 := f124.ext E127
      have f129 : OwnU Z h127 a1 n f := OwnU.ext f125 E127
      have f130 : OwnU Z h127 b_123 p3 (own_sh f p2) := OwnU.ext P123_2 E127
      have Zs127 : n0 ≤ h127.size := Nat.le_trans Zs123 E127.1
      have K127 : Keep h0 h127 [] := K123.ext E127
      have f131 : Fld Z h127 b127 "java/lang/String" "coder" "B" (.int (0 : Int32)) := D127 (Or.inr (hw _ (List.mem_of_getElem? (i := 28) rfl))) (ty := .byte) (by decide)
      have f132 : Fld Z h127 b127 "java/lang/String" "value" "[B" .null := D127 (Or.inr (hw _ (List.mem_of_getElem? (i := 30) rfl))) (ty := (.array .byte)) (by decide)
      obtain ⟨_, _, ⟨T133, L133, k133, n133⟩, -, X133, ⟨Lc133, hQ133, l133, y133, z133⟩, st133⟩ := X127.specialBack hx (y := (⟨"java/lang/String", "<init>", "([BB)V"⟩ : MethodName)) rfl hown0 (mvT hZ0 (hw _ (List.mem_of_getElem? (i := 181) rfl))) (mvT hZ0 (hw _ (List.mem_of_getElem? (i := 115) rfl))) (mvT hZ0 (hw _ (List.mem_of_getElem? (i := 116) rfl))) (by decide) (backOf (W := 1) (rm221 l Z a0 hw [] b127 b_123 h127 n0 Zs127 A127 gn_b127 f132 f131) hZ0 (hw _ (List.mem_of_getElem? (i := 116) rfl)) (hw _ (List.mem_of_getElem? (i := 4) rfl)) (by decide) (by decide)) (g := (mkF m 35 #[.val (.ref a1), .val (.int p2), .val (.int p3), .val (.ref b_123), .val (.int (1 : Int32))] [(.int (1 : Int32)), (.ref b_123), (.ref b127), (.ref b127)])) rfl (by rw [hml]; rfl) (Steps.refl _) (a := b127) (argsL := [(.ref b_123), (.int (1 : Int32))]) (rest := [(.ref b127)]) (lenOf pd_20 rfl) rfl (by show 2 * 0 + _ ≤ _; exact Nat.le_of_eq rfl) (hb hby d33_35) (fun _ _ => ⟨rfl, e127, (by decide : 3 + 0 ≤ _), (by decide : 36 + 0 ≤ _)⟩)
      dsimp only [Pt.U, Pt.locs, Pt.cells, Pt.slots] at X133 l133 y133 z133 st133 hQ133
      subst l133 y133 z133
      obtain ⟨rfl, N133q, P133_0, P133_1, P133_2⟩ := hQ133
      have N133 := Fr.app N126 N133q
      have f134 : Old Z n0 T133.heap := f128.keep P133_0 (allS gn_b127 all0)
      have f135 : OwnU Z T133.heap a1 n f := OwnU.keep f129 P133_0 (ninS ne_a1_b127 nin0)
      have f136 : OwnU Z T133.heap b_123 p3 (own_sh f p2) := OwnU.keep f130 P133_0 (ninS ne_b_123_b127 nin0)
      have f137 : Exa Z T133.heap b127 "java/lang/String" := A127.keep P133_0
      have Zs133 : n0 ≤ T133.heap.size := Nat.le_trans Zs127 P133_0.1
      have K133 : Keep h0 T133.heap [] := K127.trans P133_0 (allS (Or.inr sz_b127) all0)
      obtain ⟨fs, hr, hrun, hended, hRW⟩ := Stand.leaveW (s := s) (vm₁ := s.vm) X133 ((State.WarmedH.refl s).since 0) (Nat.zero_le _) (v := some (.ref b127)) (fun h => by rw [Bd.returns] at h; cases h) hlk
      refine ⟨_, _, pre0 _ ?_, hrun, hended, _, _, rfl, ?_, IB.step (own_ibT (s := s) (vm0 := s.vm) (T := T133) X133 hI0) (Or.inl rfl), own_rmono hRW (by decide) (by decide)⟩
      · refine pr106 _ ?_
        show Steps p.tables e below (T105.setTop (mkF m 14 #[.val (.ref a1), .val (.int p2), .val (.int p3), .unset, .unset] [])) _
        refine XS.aloadN X105.here hx rfl (hb hby d33_14) rfl rfl ?_
        show Steps p.tables e below (T105.setTop (mkF m 15 #[.val (.ref a1), .val (.int p2), .val (.int p3), .unset, .unset] [(.ref a1)])) _
        refine XS.iloadN X105.here hx rfl (hb hby d33_15) rfl ?_
        show Steps p.tables e below (T105.setTop (mkF m 16 #[.val (.ref a1), .val (.int p2), .val (.int p3), .unset, .unset] [(.int p2), (.ref a1)])) _
        refine XS.iloadN X105.here hx rfl (hb hby d33_16) rfl ?_
        show Steps p.tables e below (T105.setTop (mkF m 17 #[.val (.ref a1), .val (.int p2), .val (.int p3), .unset, .unset] [(.int p3), (.int p2), (.ref a1)])) _
        refine st123 _ ?_
        show Steps p.tables e below (T123.setTop (mkF m 20 #[.val (.ref a1), .val (.int p2), .val (.int p3), .unset, .unset] [(.ref b_123)])) _
        refine XS.astoreN X123.here hx rfl (hb hby d33_20) rfl rfl (l' := #[.val (.ref a1), .val (.int p2), .val (.int p3), .val (.ref b_123), .unset]) rfl ?_
        show Steps p.tables e below (T123.setTop (mkF m 21 #[.val (.ref a1), .val (.int p2), .val (.int p3), .val (.ref b_123), .unset] [])) _
        refine XS.aloadN X123.here hx rfl (hb hby d33_21) rfl rfl ?_
        show Steps p.tables e below (T123.setTop (mkF m 22 #[.val (.ref a1), .val (.int p2), .val (.int p3), .val (.ref b_123), .unset] [(.ref b_123)])) _
        refine XS.iloadN X123.here hx rfl (hb hby d33_22) rfl ?_
        show Steps p.tables e below (T123.setTop (mkF m 23 #[.val (.ref a1), .val (.int p2), .val (.int p3), .val (.ref b_123), .unset] [(.int p3), (.ref b_123)])) _
        refine st126 _ ?_
        show Steps p.tables e below (T126.setTop (mkF m 26 #[.val (.ref a1), .val (.int p2), .val (.int p3), .val (.ref b_123), .unset] [(.int (1 : Int32))])) _
        refine XS.istore X126.here hx rfl (hb hby d33_26) rfl (l' := #[.val (.ref a1), .val (.int p2), .val (.int p3), .val (.ref b_123), .val (.int (1 : Int32))]) rfl ?_
        show Steps p.tables e below (T126.setTop (mkF m 28 #[.val (.ref a1), .val (.int p2), .val (.int p3), .val (.ref b_123), .val (.int (1 : Int32))] [])) _
        refine st127 _ ?_
        show Steps p.tables e below (T127.setTop (mkF m 31 #[.val (.ref a1), .val (.int p2), .val (.int p3), .val (.ref b_123), .val (.int (1 : Int32))] [(.ref b127)])) _
        refine XS.dup X127.here hx rfl (hb hby d33_31) rfl rfl ?_
        show Steps p.tables e below (T127.setTop (mkF m 32 #[.val (.ref a1), .val (.int p2), .val (.int p3), .val (.ref b_123), .val (.int (1 : Int32))] [(.ref b127), (.ref b127)])) _
        refine XS.aloadN X127.here hx rfl (hb hby d33_32) rfl rfl ?_
        show Steps p.tables e below (T127.setTop (mkF m 33 #[.val (.ref a1), .val (.int p2), .val (.int p3), .val (.ref b_123), .val (.int (1 : Int32))] [(.ref b_123), (.ref b127), (.ref b127)])) _
        refine XS.iload X127.here hx rfl (hb hby d33_33) rfl ?_
        show Steps p.tables e below (T127.setTop (mkF m 35 #[.val (.ref a1), .val (.int p2), .val (.int p3), .val (.ref b_123), .val (.int (1 : Int32))] [(.int (1 : Int32)), (.ref b_123), (.ref b127), (.ref b127)])) _
        refine st133.trans ?_
        show Steps p.tables e below (T133.setTop (mkF m 38 #[.val (.ref a1), .val (.int p2), .val (.int p3), .val (.ref b_123), .val (.int (1 : Int32))] [(.ref b127)])) _
        jvm_step X133.here [X133.here.top, hx, (hb hby d33_38), X133.method', Bd.returns, Value.isRef, FieldType.isReference]
        first | (intro acts; rw [hr _ acts rfl rfl rfl]) | rw [hr _ _ rfl rfl rfl]
        exact Steps.refl _
      · show Q33 Z a1 p2 p3 w n f Ts h0 n0 _ T133.heap _
        exact ⟨b127, b_123, rfl, N133, K133, ⟨f137, P133_1, Or.inr ⟨P133_2, f136, ((own_e3 (P := fun o l n => ¬ (l = (0 : Int32)) → own_sm l) sm rg (by decide +kernel)) hc101)⟩⟩⟩
theorem ef_11 (m : MethodId) (x0 : Addr) (x1 : Int32) (x2 : Int32) : entryFrame m #[(.ref x0), (.int x1), (.int x2)] 5 = mkF m 0 #[.val (.ref x0), .val (.int x1), .val (.int x2), .unset, .unset] [] := by first | (simp [entryFrame, mkF, argsToLocals, Value.category]; done) | rfl
theorem d11_0 : decode jdk_42_method_92_code 0 = .ok (.aload_n 0, 1) := by decide +kernel
theorem d11_1 : decode jdk_42_method_92_code 1 = .ok (.invokevirtual 505, 3) := by decide +kernel
theorem pd_21 : parseMethodDescriptor "()I" = some ⟨[], some .int⟩ := by decide +kernel
theorem d11_4 : decode jdk_42_method_92_code 4 = .ok (.istore_n 3, 1) := by decide +kernel
theorem d11_5 : decode jdk_42_method_92_code 5 = .ok (.iload_n 1, 1) := by decide +kernel
theorem d11_6 : decode jdk_42_method_92_code 6 = .ok (.iload_n 2, 1) := by decide +kernel
theorem d11_7 : decode jdk_42_method_92_code 7 = .ok (.iload_n 3, 1) := by decide +kernel
theorem d11_8 : decode jdk_42_method_92_code 8 = .ok (.invokestatic 521, 3) := by decide +kernel
theorem pd_22 : parseMethodDescriptor "(III)V" = some ⟨[.int, .int, .int], none⟩ := by decide +kernel
theorem d11_11 : decode jdk_42_method_92_code 11 = .ok (.iload_n 1, 1) := by decide +kernel
theorem d11_12 : decode jdk_42_method_92_code 12 = .ok (.ifCond .ne 10, 3) := by decide +kernel
theorem d11_15 : decode jdk_42_method_92_code 15 = .ok (.iload_n 2, 1) := by decide +kernel
theorem d11_16 : decode jdk_42_method_92_code 16 = .ok (.iload_n 3, 1) := by decide +kernel
theorem d11_17 : decode jdk_42_method_92_code 17 = .ok (.if_icmp .ne 5, 3) := by decide +kernel
theorem d11_20 : decode jdk_42_method_92_code 20 = .ok (.aload_n 0, 1) := by decide +kernel
theorem d11_21 : decode jdk_42_method_92_code 21 = .ok (.areturn, 1) := by decide +kernel
theorem d11_22 : decode jdk_42_method_92_code 22 = .ok (.iload_n 2, 1) := by decide +kernel
theorem d11_23 : decode jdk_42_method_92_code 23 = .ok (.iload_n 1, 1) := by decide +kernel
theorem d11_24 : decode jdk_42_method_92_code 24 = .ok (.isub, 1) := by decide +kernel
theorem d11_25 : decode jdk_42_method_92_code 25 = .ok (.istore 4, 2) := by decide +kernel
theorem d11_27 : decode jdk_42_method_92_code 27 = .ok (.aload_n 0, 1) := by decide +kernel
theorem d11_28 : decode jdk_42_method_92_code 28 = .ok (.invokevirtual 492, 3) := by decide +kernel
theorem d11_31 : decode jdk_42_method_92_code 31 = .ok (.ifCond .eq 16, 3) := by decide +kernel
theorem d11_34 : decode jdk_42_method_92_code 34 = .ok (.aload_n 0, 1) := by decide +kernel
theorem d11_35 : decode jdk_42_method_92_code 35 = .ok (.getfield 9, 3) := by decide +kernel
theorem d11_38 : decode jdk_42_method_92_code 38 = .ok (.iload_n 1, 1) := by decide +kernel
theorem d11_39 : decode jdk_42_method_92_code 39 = .ok (.iload 4, 2) := by decide +kernel
theorem d11_41 : decode jdk_42_method_92_code 41 = .ok (.invokestatic 685, 3) := by decide +kernel
theorem pd_23 : parseMethodDescriptor "([BII)Ljava/lang/String;" = some ⟨[(.array .byte), .int, .int], some (.object "java/lang/String")⟩ := by decide +kernel
theorem d11_44 : decode jdk_42_method_92_code 44 = .ok (.goto 13, 3) := by decide +kernel
theorem d11_57 : decode jdk_42_method_92_code 57 = .ok (.areturn, 1) := by decide +kernel
theorem d11_47 : decode jdk_42_method_92_code 47 = .ok (.aload_n 0, 1) := by decide +kernel
theorem d11_48 : decode jdk_42_method_92_code 48 = .ok (.getfield 9, 3) := by decide +kernel
theorem d11_51 : decode jdk_42_method_92_code 51 = .ok (.iload_n 1, 1) := by decide +kernel
theorem d11_52 : decode jdk_42_method_92_code 52 = .ok (.iload 4, 2) := by decide +kernel
theorem d11_54 : decode jdk_42_method_92_code 54 = .ok (.invokestatic 689, 3) := by decide +kernel
def Q11 (Z : State) (a1 : Addr) (p2 : Int32) (p3 : Int32) (w : Int32) (bb : Addr) (n : Int32) (f : Nat → Int32) (ln : Int32) (Ts : List String) (h0 : Heap) (n0 : Nat) (v : Option Value) (h : Heap) (L : List Loc) : Prop := ∃ r : Addr, ∃ b : Addr, v = some (.ref r) ∧ Fr n0 L ∧ (Keep h0 h []) ∧ (OwnS Z h r b ln (own_sh f p2))
set_option maxRecDepth 65536 in
set_option maxHeartbeats 40000000 in
theorem rm11 (l : Launch) (Z : State) (a0 : Array Value) (hw : ∀ d ∈ tables_1, d.before a0 Z = true) (ws : List Jvm.Cond) (a1 : Addr) (p2 : Int32) (p3 : Int32) (w : Int32) (bb : Addr) (n : Int32) (f : Nat → Int32) (ln : Int32) (Ts : List String) (h0 : Heap) (n0 : Nat) (Z0 : n0 ≤ h0.size) (O0 : Old Z n0 h0) (S0 : Sta Z Z.heap "java/lang/String" "COMPACT_STRINGS" "Z" (.int w)) (hw0 : ¬ (w = (0 : Int32))) (SA : Sta Z Z.heap "java/lang/StringUTF16" "$assertionsDisabled" "Z" (.int (1 : Int32))) (SHI : Sta Z Z.heap "java/lang/StringUTF16" "HI_BYTE_SHIFT" "I" (.int (0 : Int32))) (SLO : Sta Z Z.heap "java/lang/StringUTF16" "LO_BYTE_SHIFT" "I" (.int (8 : Int32))) (FM : Fmt Z) (SS : OwnS Z h0 a1 bb n f) (sm : own_sm n) (rg : own_rg p2 ln n) (hp3 : p3 = p2 + ln) (hf : own_ch f) (hcw : Jvm.Lit.compactW.before a0 Z = true) (hnot : "" ∉ Ts) (chl : Jvm.Lit.constHeld Z "java/lang/StringLatin1" 151) (chu : Jvm.Lit.constHeld Z "java/lang/StringUTF16" 295) :
    MetFree l (⟨"java/lang/String", "substring", "(II)Ljava/lang/String;"⟩ : MethodName) (head1 (Jvm.Cond.code (⟨"java/lang/String", "substring", "(II)Ljava/lang/String;"⟩ : MethodName) jdk_42_method_92_code 5 (some (.object "java/lang/String")) :: ws) ({ frames := 6, cells := 3, slots := 36, locals := 94 } : Room)) (fun a U => a = #[(.ref a1), (.int p2), (.int p3)] ∧ Z.Warmed39 U.vm ∧ U.heap = h0 ∧ IB Z U.vm Ts) (fun _ _ _ _ _ => True) (fun _ U o U' => ∃ v L, o = .returned v ∧ Q11 Z a1 p2 p3 w bb n f ln Ts h0 n0 v U'.heap L ∧ IB Z U'.vm ("" :: Ts) ∧ ReturnedEndW U o U' L ({ frames := 6, cells := 3, slots := 36, locals := 94 } : Room).cells ({ frames := 6, cells := 3, slots := 36, locals := 94 } : Room).slots) := by
  refine MetFree.of_bodySF (plainFor_of_name pn_1) hisR ?_
  intro p e s m args below meth c s₁ Bd hml0 hP hK
  obtain ⟨rfl, hZ0, hh, hI0⟩ := hP
  have hx := Bd.exec
  have hby := Bd.bytes
  have hml : c.maxLocals = 5 := hml0
  have hown0 : s.vm.findClass "java/lang/String" = some m.cls := findClass_of_methodNamed Bd.named
  have hnm := (name_of_methodNamed Bd.named Bd.method).1
  have hlk : meth.locks = false := by first | exact BodyLoose.notSynchronized Bd | exact Body.notSynchronized Bd
  have X0 : Stand p l e ({ frames := 6, cells := 3, slots := 36, locals := 94 } : Room) s m #[(.ref a1), (.int p2), (.int p3)] below meth c s₁ [] 0 0 := Stand.of_body Bd
  have e0 : s₁.heap = h0 := by rw [← hh, Bd.state]; rfl
  have N0 := Fr.nil n0
  have pre0 : ∀ t, Steps p.tables e below (s₁.setTop (mkF m 0 #[.val (.ref a1), .val (.int p2), .val (.int p3), .unset, .unset] [])) t → Steps p.tables e below (s₁.setTop (entryFrame m #[(.ref a1), (.int p2), (.int p3)] 5)) t := fun t k => castTop (ef_11 m a1 p2 p3) k
  have hsub : (p3 - p2) = ln := by rw [hp3]; exact (own_e3 (P := fun o l n => (o + l) - o = l) sm rg (by decide +kernel))
  obtain ⟨cq101, kq101, q101a, q101b, q101c⟩ := isOf hZ0 e0 SS.1
  obtain ⟨_, _, ⟨T101, L101, k101, n101⟩, -, X101, ⟨Lc101, hQ101, l101, y101, z101⟩, st101⟩ := X0.virtualBack hx (y := (⟨"java/lang/String", "length", "()I"⟩ : MethodName)) (z := (⟨"java/lang/String", "length", "()I"⟩ : MethodName)) hown0 (mvT hZ0 (hw _ (List.mem_of_getElem? (i := 68) rfl))) (mvT hZ0 (hw _ (List.mem_of_getElem? (i := 69) rfl))) (notFace_of_selects (args := #[]) (mvT hZ0 (hw _ (List.mem_of_getElem? (i := 71) rfl)))) (mvT hZ0 (hw _ (List.mem_of_getElem? (i := 71) rfl))) (mvT hZ0 (hw _ (List.mem_of_getElem? (i := 70) rfl))) (by decide) (backOf (W := 0) (rm12 l Z a0 hw [] a1 w bb n f h0 n0 Z0 O0 S0 hw0 SA SHI SLO FM SS) hZ0 (hw _ (List.mem_of_getElem? (i := 72) rfl)) (hw _ (List.mem_of_getElem? (i := 4) rfl)) (by decide) (by decide)) q101a q101c (g := (mkF m 1 #[.val (.ref a1), .val (.int p2), .val (.int p3), .unset, .unset] [(.ref a1)])) rfl (by rw [hml]; rfl) (Steps.refl _) (argsL := []) (rest := []) (lenOf pd_21 rfl) rfl (by show 2 * 0 + _ ≤ _; exact Nat.le_of_eq rfl) (hb hby d11_1) (fun _ _ => ⟨rfl, e0, (by decide : 0 + 0 ≤ _), (by decide : 0 + 0 ≤ _)⟩)
  dsimp only [Pt.U, Pt.locs, Pt.cells, Pt.slots] at X101 l101 y101 z101 st101 hQ101
  subst l101 y101 z101
  obtain ⟨rfl, N101q, P101_0⟩ := hQ101
  have N101 := Fr.app N0 N101q
  obtain ⟨_, _, ⟨T102, L102, k102, n102⟩, -, X102, ⟨Lc102, hQ102, l102, y102, z102⟩, st102⟩ := Jvm.LawKit.callS X101 hx (y := (⟨"java/lang/String", "checkBoundsBeginEnd", "(III)V"⟩ : MethodName)) hown0 (mvT hZ0 (hw _ (List.mem_of_getElem? (i := 78) rfl))) (mvT hZ0 (hw _ (List.mem_of_getElem? (i := 79) rfl))) (mvT hZ0 (hw _ (List.mem_of_getElem? (i := 4) rfl))) (mvT hZ0 (hw _ (List.mem_of_getElem? (i := 80) rfl))) (by decide) (backOf (W := 0) (rm14 l Z a0 hw [] p2 p3 n w h0 n0 Z0 O0 S0 hw0 SA SHI SLO FM rg.1 (by rw [hp3]; exact (own_e3 (P := fun o l n => ¬ (o + l) < o) sm rg (by decide +kernel))) (by rw [hp3]; exact rg.2.2.2.2)) hZ0 (hw _ (List.mem_of_getElem? (i := 80) rfl)) (hw _ (List.mem_of_getElem? (i := 4) rfl)) (by decide) (by decide)) (g := (mkF m 8 #[.val (.ref a1), .val (.int p2), .val (.int p3), .val (.int n), .unset] [(.int n), (.int p3), (.int p2)])) rfl (by rw [hml]; rfl) (argsL := [(.int p2), (.int p3), (.int n)]) (rest := []) (lenOf pd_22 rfl) rfl (by show 2 * 0 + _ ≤ _; exact Nat.le_of_eq rfl) (hb hby d11_8) (fun _ _ => ⟨rfl, P101_0, (by decide : 0 + 0 ≤ _), (by decide : 0 + 0 ≤ _)⟩)
  dsimp only [Pt.U, Pt.locs, Pt.cells, Pt.slots] at X102 l102 y102 z102 st102 hQ102
  subst l102 y102 z102
  obtain ⟨rfl, N102q, P102_0⟩ := hQ102
  have N102 := Fr.app N101 N102q
  have pr103 : ∀ tg9, Steps p.tables e below (T102.setTop (mkF m 12 #[.val (.ref a1), .val (.int p2), .val (.int p3), .val (.int n), .unset] [(.int p2)])) tg9 → Steps p.tables e below (s₁.setTop (mkF m 0 #[.val (.ref a1), .val (.int p2), .val (.int p3), .unset, .unset] [])) tg9 := fun tg9 kt => by
    show Steps p.tables e below (s₁.setTop (mkF m 0 #[.val (.ref a1), .val (.int p2), .val (.int p3), .unset, .unset] [])) _
    refine XS.aloadN X0.here hx rfl (hb hby d11_0) rfl rfl ?_
    show Steps p.tables e below (s₁.setTop (mkF m 1 #[.val (.ref a1), .val (.int p2), .val (.int p3), .unset, .unset] [(.ref a1)])) _
    refine st101.trans ?_
    show Steps p.tables e below (T101.setTop (mkF m 4 #[.val (.ref a1), .val (.int p2), .val (.int p3), .unset, .unset] [(.int n)])) _
    refine XS.istoreN X101.here hx rfl (hb hby d11_4) rfl (l' := #[.val (.ref a1), .val (.int p2), .val (.int p3), .val (.int n), .unset]) rfl ?_
    show Steps p.tables e below (T101.setTop (mkF m 5 #[.val (.ref a1), .val (.int p2), .val (.int p3), .val (.int n), .unset] [])) _
    refine XS.iloadN X101.here hx rfl (hb hby d11_5) rfl ?_
    show Steps p.tables e below (T101.setTop (mkF m 6 #[.val (.ref a1), .val (.int p2), .val (.int p3), .val (.int n), .unset] [(.int p2)])) _
    refine XS.iloadN X101.here hx rfl (hb hby d11_6) rfl ?_
    show Steps p.tables e below (T101.setTop (mkF m 7 #[.val (.ref a1), .val (.int p2), .val (.int p3), .val (.int n), .unset] [(.int p3), (.int p2)])) _
    refine XS.iloadN X101.here hx rfl (hb hby d11_7) rfl ?_
    show Steps p.tables e below (T101.setTop (mkF m 8 #[.val (.ref a1), .val (.int p2), .val (.int p3), .val (.int n), .unset] [(.int n), (.int p3), (.int p2)])) _
    refine st102 _ ?_
    show Steps p.tables e below (T102.setTop (mkF m 11 #[.val (.ref a1), .val (.int p2), .val (.int p3), .val (.int n), .unset] [])) _
    refine XS.iloadN X102.here hx rfl (hb hby d11_11) rfl ?_
    exact kt
  by_cases hc104 : p2 = (0 : Int32)
  · have pr105 : ∀ tg9, Steps p.tables e below (T102.setTop (mkF m 17 #[.val (.ref a1), .val (.int p2), .val (.int p3), .val (.int n), .unset] [(.int n), (.int p3)])) tg9 → Steps p.tables e below (s₁.setTop (mkF m 0 #[.val (.ref a1), .val (.int p2), .val (.int p3), .unset, .unset] [])) tg9 := fun tg9 kt => by
      refine pr103 _ ?_
      show Steps p.tables e below (T102.setTop (mkF m 12 #[.val (.ref a1), .val (.int p2), .val (.int p3), .val (.int n), .unset] [(.int p2)])) _
      refine XS.ifNo X102.here hx rfl (hb hby d11_12) rfl ((if0 _ _).trans (teq hc104).2) ?_
      show Steps p.tables e below (T102.setTop (mkF m 15 #[.val (.ref a1), .val (.int p2), .val (.int p3), .val (.int n), .unset] [])) _
      refine XS.iloadN X102.here hx rfl (hb hby d11_15) rfl ?_
      show Steps p.tables e below (T102.setTop (mkF m 16 #[.val (.ref a1), .val (.int p2), .val (.int p3), .val (.int n), .unset] [(.int p3)])) _
      refine XS.iloadN X102.here hx rfl (hb hby d11_16) rfl ?_
      exact kt
    by_cases hc106 : p3 = n
    · obtain ⟨fs, hr, hrun, hended, hRW⟩ := Stand.leaveW (s := s) (vm₁ := s.vm) X102 ((State.WarmedH.refl s).since 0) (Nat.zero_le _) (v := some (.ref a1)) (fun h => by rw [Bd.returns] at h; cases h) hlk
      refine ⟨_, _, pre0 _ ?_, hrun, hended, _, _, rfl, ?_, IB.step (own_ibT (s := s) (vm0 := s.vm) (T := T102) X102 hI0) (Or.inl rfl), own_rmono hRW (by decide) (by decide)⟩
      · refine pr105 _ ?_
        show Steps p.tables e below (T102.setTop (mkF m 17 #[.val (.ref a1), .val (.int p2), .val (.int p3), .val (.int n), .unset] [(.int n), (.int p3)])) _
        refine XS.icmpNo X102.here hx rfl (hb hby d11_17) rfl (teq hc106).2 ?_
        show Steps p.tables e below (T102.setTop (mkF m 20 #[.val (.ref a1), .val (.int p2), .val (.int p3), .val (.int n), .unset] [])) _
        refine XS.aloadN X102.here hx rfl (hb hby d11_20) rfl rfl ?_
        show Steps p.tables e below (T102.setTop (mkF m 21 #[.val (.ref a1), .val (.int p2), .val (.int p3), .val (.int n), .unset] [(.ref a1)])) _
        jvm_step X102.here [X102.here.top, hx, (hb hby d11_21), X102.method', Bd.returns, Value.isRef, FieldType.isReference]
        first | (intro acts; rw [hr _ acts rfl rfl rfl]) | rw [hr _ _ rfl rfl rfl]
        exact Steps.refl _
      · show Q11 Z a1 p2 p3 w bb n f ln Ts h0 n0 _ T102.heap _
        rw [P102_0]
        exact ⟨a1, bb, rfl, N102, (Keep.refl h0 []), own_fullS SS hc104 hc106 hp3⟩
    · have pr107 : ∀ tg9, Steps p.tables e below (T102.setTop (mkF m 27 #[.val (.ref a1), .val (.int p2), .val (.int p3), .val (.int n), .val (.int ln)] [])) tg9 → Steps p.tables e below (s₁.setTop (mkF m 0 #[.val (.ref a1), .val (.int p2), .val (.int p3), .unset, .unset] [])) tg9 := fun tg9 kt => by
        refine pr105 _ ?_
        show Steps p.tables e below (T102.setTop (mkF m 17 #[.val (.ref a1), .val (.int p2), .val (.int p3), .val (.int n), .unset] [(.int n), (.int p3)])) _
        refine XS.icmpYes X102.here hx rfl (pc0 := 17) (pc' := 22) rfl (hb hby d11_17) rfl (feq hc106).2 (by decide) (by decide) ?_
        show Steps p.tables e below (T102.setTop (mkF m 22 #[.val (.ref a1), .val (.int p2), .val (.int p3), .val (.int n), .unset] [])) _
        refine XS.iloadN X102.here hx rfl (hb hby d11_22) rfl ?_
        show Steps p.tables e below (T102.setTop (mkF m 23 #[.val (.ref a1), .val (.int p2), .val (.int p3), .val (.int n), .unset] [(.int p3)])) _
        refine XS.iloadN X102.here hx rfl (hb hby d11_23) rfl ?_
        show Steps p.tables e below (T102.setTop (mkF m 24 #[.val (.ref a1), .val (.int p2), .val (.int p3), .val (.int n), .unset] [(.int p2), (.int p3)])) _
        refine XS.isub X102.here hx rfl (hb hby d11_24) rfl ?_
        show Steps p.tables e below (T102.setTop (mkF m 25 #[.val (.ref a1), .val (.int p2), .val (.int p3), .val (.int n), .unset] [(.int (p3 - p2))])) _
        rw [hsub]
        show Steps p.tables e below (T102.setTop (mkF m 25 #[.val (.ref a1), .val (.int p2), .val (.int p3), .val (.int n), .unset] [(.int ln)])) _
        refine XS.istore X102.here hx rfl (hb hby d11_25) rfl (l' := #[.val (.ref a1), .val (.int p2), .val (.int p3), .val (.int n), .val (.int ln)]) rfl ?_
        exact kt
      rcases (id SS) with ⟨SE, SV, ⟨SC, SB, SL⟩ | ⟨SC, SB, SL⟩⟩
      · obtain ⟨cq108, kq108, q108a, q108b, q108c⟩ := isOf hZ0 P102_0 SE
        obtain ⟨_, _, ⟨T108, L108, k108, n108⟩, -, X108, ⟨Lc108, hQ108, l108, y108, z108⟩, st108⟩ := X102.virtualBack hx (y := (⟨"java/lang/String", "isLatin1", "()Z"⟩ : MethodName)) (z := (⟨"java/lang/String", "isLatin1", "()Z"⟩ : MethodName)) hown0 (mvT hZ0 (hw _ (List.mem_of_getElem? (i := 86) rfl))) (mvT hZ0 (hw _ (List.mem_of_getElem? (i := 87) rfl))) (notFace_of_selects (args := #[]) (mvT hZ0 (hw _ (List.mem_of_getElem? (i := 89) rfl)))) (mvT hZ0 (hw _ (List.mem_of_getElem? (i := 89) rfl))) (mvT hZ0 (hw _ (List.mem_of_getElem? (i := 88) rfl))) (by decide) (backOf (W := 0) (rm16L l Z a0 hw [] a1 w h0 n0 Z0 O0 S0 hw0 SA SHI SLO FM SC) hZ0 (hw _ (List.mem_of_getElem? (i := 90) rfl)) (hw _ (List.mem_of_getElem? (i := 4) rfl)) (by decide) (by decide)) q108a q108c (g := (mkF m 28 #[.val (.ref a1), .val (.int p2), .val (.int p3), .val (.int n), .val (.int ln)] [(.ref a1)])) rfl (by rw [hml]; rfl) (Steps.refl _) (argsL := []) (rest := []) (lenOf pd_6 rfl) rfl (by show 2 * 0 + _ ≤ _; exact Nat.le_of_eq rfl) (hb hby d11_28) (fun _ _ => ⟨rfl, P102_0, (by decide : 0 + 0 ≤ _), (by decide : 0 + 0 ≤ _)⟩)
        dsimp only [Pt.U, Pt.locs, Pt.cells, Pt.slots] at X108 l108 y108 z108 st108 hQ108
        subst l108 y108 z108
        obtain ⟨rfl, N108q, P108_0⟩ := hQ108
        have N108 := Fr.app N102 N108q
        obtain ⟨T109, X109, e109, st109⟩ := getF X108 hx hZ0 hown0 (host := "") (Or.inl (hw _ (List.mem_of_getElem? (i := 29) rfl))) Via.refl P108_0 SV (g := (mkF m 35 #[.val (.ref a1), .val (.int p2), .val (.int p3), .val (.int n), .val (.int ln)] [(.ref a1)])) rfl rfl (hb hby d11_35)
        obtain ⟨_, _, ⟨T110, L110, k110, n110⟩, -, X110, hS110, hg110, ⟨Lc110, hQ110, l110, y110, z110, I110⟩, st110⟩ := callSS X109 hx (y := (⟨"java/lang/StringLatin1", "newString", "([BII)Ljava/lang/String;"⟩ : MethodName)) hown0 (mvT hZ0 (hw _ (List.mem_of_getElem? (i := 91) rfl))) (mvT hZ0 (hw _ (List.mem_of_getElem? (i := 92) rfl))) (mvT hZ0 (hw _ (List.mem_of_getElem? (i := 93) rfl))) (mvT hZ0 (hw _ (List.mem_of_getElem? (i := 94) rfl))) (by decide) (own_backI (W := 0) (rm17 l Z a0 hw [] bb p2 ln w n f Ts h0 n0 Z0 O0 S0 hw0 SA SHI SLO FM SB SL sm rg (fun q => hc106 (by rw [hp3, q.1, q.2, Int32.zero_add])) hf hcw hnot chl) hZ0 hI0 (hw _ (List.mem_of_getElem? (i := 94) rfl)) (hw _ (List.mem_of_getElem? (i := 93) rfl)) (by decide) (by decide)) (g := (mkF m 41 #[.val (.ref a1), .val (.int p2), .val (.int p3), .val (.int n), .val (.int ln)] [(.int ln), (.int p2), (.ref bb)])) rfl (by rw [hml]; rfl) (argsL := [(.ref bb), (.int p2), (.int ln)]) (rest := []) (lenOf pd_23 rfl) rfl (by show 2 * 0 + _ ≤ _; exact Nat.le_of_eq rfl) (hb hby d11_41) (fun _ _ => ⟨rfl, e109, (by decide : 0 + 2 ≤ _), (by decide : 0 + 20 ≤ _)⟩)
        dsimp only [Pt.U, Pt.locs, Pt.cells, Pt.slots] at X110 l110 y110 z110 st110 hQ110 hS110 hg110 I110
        subst l110 y110 z110
        obtain ⟨r_110, b_110, rfl, N110q, P110_0, P110_1⟩ := hQ110
        have N110 := Fr.app N108 N110q
        have Sn110 : s.Since T110.vm T110.heap.size := foldS (s := s) (vm0 := s.vm) (T := T109) ((State.WarmedH.refl s).since 0) (Nat.zero_le _) hS110 hg110
        have hZ110 : Z.Warmed39 T110.vm := State.Warmed39.trans (t := s.setVm s.vm) hZ0 hS110.1
        have ho110 : T110.vm.findClass "java/lang/String" = some m.cls := by rw [hS110.1.alike.findClass]; exact hown0
        have f111 : Old Z n0 T110.heap := O0.keep P110_0 all0
        have f112 : OwnS Z T110.heap a1 bb n f := OwnS.keep SS P110_0 nin0 nin0
        have f113 : Exa Z T110.heap a1 "java/lang/String" := SS.1.keep P110_0
        have f114 : Fld Z T110.heap a1 "java/lang/String" "value" "[B" (.ref bb) := SV.keep P110_0 nin0
        have f115 : Fld Z T110.heap a1 "java/lang/String" "coder" "B" (.int (0 : Int32)) := SC.keep P110_0 nin0
        have f116 : OwnL Z T110.heap bb n f := OwnL.keep SB P110_0 nin0
        have Zs110 : n0 ≤ T110.heap.size := Nat.le_trans Z0 P110_0.1
        have K110 : Keep h0 T110.heap [] := (Keep.refl h0 []).trans P110_0 all0
        obtain ⟨fs, hr, hrun, hended, hRW⟩ := Stand.leaveW (s := s) (vm₁ := T110.vm) X110 Sn110 (Nat.le_refl _) (v := some (.ref r_110)) (fun h => by rw [Bd.returns] at h; cases h) hlk
        refine ⟨_, _, pre0 _ ?_, hrun, hended, _, _, rfl, ?_, own_ibT (s := s) (vm0 := T110.vm) (T := T110) X110 I110, own_rmono hRW (by decide) (by decide)⟩
        · refine pr107 _ ?_
          show Steps p.tables e below (T102.setTop (mkF m 27 #[.val (.ref a1), .val (.int p2), .val (.int p3), .val (.int n), .val (.int ln)] [])) _
          refine XS.aloadN X102.here hx rfl (hb hby d11_27) rfl rfl ?_
          show Steps p.tables e below (T102.setTop (mkF m 28 #[.val (.ref a1), .val (.int p2), .val (.int p3), .val (.int n), .val (.int ln)] [(.ref a1)])) _
          refine st108.trans ?_
          show Steps p.tables e below (T108.setTop (mkF m 31 #[.val (.ref a1), .val (.int p2), .val (.int p3), .val (.int n), .val (.int ln)] [(.int (1 : Int32))])) _
          refine XS.ifNo X108.here hx rfl (hb hby d11_31) rfl ((if0 _ _).trans (feq (by decide : ¬ ((1 : Int32) = (0 : Int32)))).1) ?_
          show Steps p.tables e below (T108.setTop (mkF m 34 #[.val (.ref a1), .val (.int p2), .val (.int p3), .val (.int n), .val (.int ln)] [])) _
          refine XS.aloadN X108.here hx rfl (hb hby d11_34) rfl rfl ?_
          show Steps p.tables e below (T108.setTop (mkF m 35 #[.val (.ref a1), .val (.int p2), .val (.int p3), .val (.int n), .val (.int ln)] [(.ref a1)])) _
          refine st109 _ ?_
          show Steps p.tables e below (T109.setTop (mkF m 38 #[.val (.ref a1), .val (.int p2), .val (.int p3), .val (.int n), .val (.int ln)] [(.ref bb)])) _
          refine XS.iloadN X109.here hx rfl (hb hby d11_38) rfl ?_
          show Steps p.tables e below (T109.setTop (mkF m 39 #[.val (.ref a1), .val (.int p2), .val (.int p3), .val (.int n), .val (.int ln)] [(.int p2), (.ref bb)])) _
          refine XS.iload X109.here hx rfl (hb hby d11_39) rfl ?_
          show Steps p.tables e below (T109.setTop (mkF m 41 #[.val (.ref a1), .val (.int p2), .val (.int p3), .val (.int n), .val (.int ln)] [(.int ln), (.int p2), (.ref bb)])) _
          refine st110.trans ?_
          show Steps p.tables e below (T110.setTop (mkF m 44 #[.val (.ref a1), .val (.int p2), .val (.int p3), .val (.int n), .val (.int ln)] [(.ref r_110)])) _
          refine XS.goto X110.here hx rfl (pc0 := 44) (pc' := 57) rfl (hb hby d11_44) (by decide) (by decide) ?_
          show Steps p.tables e below (T110.setTop (mkF m 57 #[.val (.ref a1), .val (.int p2), .val (.int p3), .val (.int n), .val (.int ln)] [(.ref r_110)])) _
          jvm_step X110.here [X110.here.top, hx, (hb hby d11_57), X110.method', Bd.returns, Value.isRef, FieldType.isReference]
          first | (intro acts; rw [hr _ acts rfl rfl rfl]) | rw [hr _ _ rfl rfl rfl]
          exact Steps.refl _
        · show Q11 Z a1 p2 p3 w bb n f ln Ts h0 n0 _ T110.heap _
          exact ⟨r_110, b_110, rfl, N110, K110, P110_1⟩
      · obtain ⟨cq117, kq117, q117a, q117b, q117c⟩ := isOf hZ0 P102_0 SE
        obtain ⟨_, _, ⟨T117, L117, k117, n117⟩, -, X117, ⟨Lc117, hQ117, l117, y117, z117⟩, st117⟩ := X102.virtualBack hx (y := (⟨"java/lang/String", "isLatin1", "()Z"⟩ : MethodName)) (z := (⟨"java/lang/String", "isLatin1", "()Z"⟩ : MethodName)) hown0 (mvT hZ0 (hw _ (List.mem_of_getElem? (i := 86) rfl))) (mvT hZ0 (hw _ (List.mem_of_getElem? (i := 87) rfl))) (notFace_of_selects (args := #[]) (mvT hZ0 (hw _ (List.mem_of_getElem? (i := 89) rfl)))) (mvT hZ0 (hw _ (List.mem_of_getElem? (i := 89) rfl))) (mvT hZ0 (hw _ (List.mem_of_getElem? (i := 88) rfl))) (by decide) (backOf (W := 0) (rm16U l Z a0 hw [] a1 w h0 n0 Z0 O0 S0 hw0 SA SHI SLO FM SC) hZ0 (hw _ (List.mem_of_getElem? (i := 90) rfl)) (hw _ (List.mem_of_getElem? (i := 4) rfl)) (by decide) (by decide)) q117a q117c (g := (mkF m 28 #[.val (.ref a1), .val (.int p2), .val (.int p3), .val (.int n), .val (.int ln)] [(.ref a1)])) rfl (by rw [hml]; rfl) (Steps.refl _) (argsL := []) (rest := []) (lenOf pd_6 rfl) rfl (by show 2 * 0 + _ ≤ _; exact Nat.le_of_eq rfl) (hb hby d11_28) (fun _ _ => ⟨rfl, P102_0, (by decide : 0 + 0 ≤ _), (by decide : 0 + 0 ≤ _)⟩)
        dsimp only [Pt.U, Pt.locs, Pt.cells, Pt.slots] at X117 l117 y117 z117 st117 hQ117
        subst l117 y117 z117
        obtain ⟨rfl, N117q, P117_0⟩ := hQ117
        have N117 := Fr.app N102 N117q
        obtain ⟨T118, X118, e118, st118⟩ := getF X117 hx hZ0 hown0 (host := "") (Or.inl (hw _ (List.mem_of_getElem? (i := 29) rfl))) Via.refl P117_0 SV (g := (mkF m 48 #[.val (.ref a1), .val (.int p2), .val (.int p3), .val (.int n), .val (.int ln)] [(.ref a1)])) rfl rfl (hb hby d11_48)
        obtain ⟨_, _, ⟨T119, L119, k119, n119⟩, -, X119, hS119, hg119, ⟨Lc119, hQ119, l119, y119, z119, I119⟩, st119⟩ := callSS X118 hx (y := (⟨"java/lang/StringUTF16", "newString", "([BII)Ljava/lang/String;"⟩ : MethodName)) hown0 (mvT hZ0 (hw _ (List.mem_of_getElem? (i := 156) rfl))) (mvT hZ0 (hw _ (List.mem_of_getElem? (i := 157) rfl))) (mvT hZ0 (hw _ (List.mem_of_getElem? (i := 18) rfl))) (mvT hZ0 (hw _ (List.mem_of_getElem? (i := 158) rfl))) (by decide) (own_backI (W := 0) (rm33 l Z a0 hw [] bb p2 ln w n f Ts h0 n0 Z0 O0 S0 hw0 SA SHI SLO FM SB SL rg (fun q => hc106 (by rw [hp3, q.1, q.2, Int32.zero_add])) hf hcw hnot chu) hZ0 hI0 (hw _ (List.mem_of_getElem? (i := 158) rfl)) (hw _ (List.mem_of_getElem? (i := 18) rfl)) (by decide) (by decide)) (g := (mkF m 54 #[.val (.ref a1), .val (.int p2), .val (.int p3), .val (.int n), .val (.int ln)] [(.int ln), (.int p2), (.ref bb)])) rfl (by rw [hml]; rfl) (argsL := [(.ref bb), (.int p2), (.int ln)]) (rest := []) (lenOf pd_23 rfl) rfl (by show 2 * 0 + _ ≤ _; exact Nat.le_of_eq rfl) (hb hby d11_54) (fun _ _ => ⟨rfl, e118, (by decide : 0 + 3 ≤ _), (by decide : 0 + 36 ≤ _)⟩)
        dsimp only [Pt.U, Pt.locs, Pt.cells, Pt.slots] at X119 l119 y119 z119 st119 hQ119 hS119 hg119 I119
        subst l119 y119 z119
        obtain ⟨r_119, b_119, rfl, N119q, P119_0, P119_1⟩ := hQ119
        have N119 := Fr.app N117 N119q
        have Sn119 : s.Since T119.vm T119.heap.size := foldS (s := s) (vm0 := s.vm) (T := T118) ((State.WarmedH.refl s).since 0) (Nat.zero_le _) hS119 hg119
        have hZ119 : Z.Warmed39 T119.vm := State.Warmed39.trans (t := s.setVm s.vm) hZ0 hS119.1
        have ho119 : T119.vm.findClass "java/lang/String" = some m.cls := by rw [hS119.1.alike.findClass]; exact hown0
        have f120 : Old Z n0 T119.heap := O0.keep P119_0 all0
        have f121 : OwnS Z T119.heap a1 bb n f := OwnS.keep SS P119_0 nin0 nin0
        have f122 : Exa Z T119.heap a1 "java/lang/String" := SS.1.keep P119_0
        have f123 : Fld Z T119.heap a1 "java/lang/String" "value" "[B" (.ref bb) := SV.keep P119_0 nin0
        have f124 : Fld Z T119.heap a1 "java/lang/String" "coder" "B" (.int (1 : Int32)) := SC.keep P119_0 nin0
        have f125 : OwnU Z T119.heap bb n f := OwnU.keep SB P119_0 nin0
        have Zs119 : n0 ≤ T119.heap.size := Nat.le_trans Z0 P119_0.1
        have K119 : Keep h0 T119.heap [] := (Keep.refl h0 []).trans P119_0 all0
        obtain ⟨fs, hr, hrun, hended, hRW⟩ := Stand.leaveW (s := s) (vm₁ := T119.vm) X119 Sn119 (Nat.le_refl _) (v := some (.ref r_119)) (fun h => by rw [Bd.returns] at h; cases h) hlk
        refine ⟨_, _, pre0 _ ?_, hrun, hended, _, _, rfl, ?_, own_ibT (s := s) (vm0 := T119.vm) (T := T119) X119 I119, own_rmono hRW (by decide) (by decide)⟩
        · refine pr107 _ ?_
          show Steps p.tables e below (T102.setTop (mkF m 27 #[.val (.ref a1), .val (.int p2), .val (.int p3), .val (.int n), .val (.int ln)] [])) _
          refine XS.aloadN X102.here hx rfl (hb hby d11_27) rfl rfl ?_
          show Steps p.tables e below (T102.setTop (mkF m 28 #[.val (.ref a1), .val (.int p2), .val (.int p3), .val (.int n), .val (.int ln)] [(.ref a1)])) _
          refine st117.trans ?_
          show Steps p.tables e below (T117.setTop (mkF m 31 #[.val (.ref a1), .val (.int p2), .val (.int p3), .val (.int n), .val (.int ln)] [(.int (0 : Int32))])) _
          refine XS.ifYes X117.here hx rfl (pc0 := 31) (pc' := 47) rfl (hb hby d11_31) rfl ((if0 _ _).trans (teq (by decide : (0 : Int32) = (0 : Int32))).1) (by decide) (by decide) ?_
          show Steps p.tables e below (T117.setTop (mkF m 47 #[.val (.ref a1), .val (.int p2), .val (.int p3), .val (.int n), .val (.int ln)] [])) _
          refine XS.aloadN X117.here hx rfl (hb hby d11_47) rfl rfl ?_
          show Steps p.tables e below (T117.setTop (mkF m 48 #[.val (.ref a1), .val (.int p2), .val (.int p3), .val (.int n), .val (.int ln)] [(.ref a1)])) _
          refine st118 _ ?_
          show Steps p.tables e below (T118.setTop (mkF m 51 #[.val (.ref a1), .val (.int p2), .val (.int p3), .val (.int n), .val (.int ln)] [(.ref bb)])) _
          refine XS.iloadN X118.here hx rfl (hb hby d11_51) rfl ?_
          show Steps p.tables e below (T118.setTop (mkF m 52 #[.val (.ref a1), .val (.int p2), .val (.int p3), .val (.int n), .val (.int ln)] [(.int p2), (.ref bb)])) _
          refine XS.iload X118.here hx rfl (hb hby d11_52) rfl ?_
          show Steps p.tables e below (T118.setTop (mkF m 54 #[.val (.ref a1), .val (.int p2), .val (.int p3), .val (.int n), .val (.int ln)] [(.int ln), (.int p2), (.ref bb)])) _
          refine st119.trans ?_
          show Steps p.tables e below (T119.setTop (mkF m 57 #[.val (.ref a1), .val (.int p2), .val (.int p3), .val (.int n), .val (.int ln)] [(.ref r_119)])) _
          jvm_step X119.here [X119.here.top, hx, (hb hby d11_57), X119.method', Bd.returns, Value.isRef, FieldType.isReference]
          first | (intro acts; rw [hr _ acts rfl rfl rfl]) | rw [hr _ _ rfl rfl rfl]
          exact Steps.refl _
        · show Q11 Z a1 p2 p3 w bb n f ln Ts h0 n0 _ T119.heap _
          exact ⟨r_119, b_119, rfl, N119, K119, P119_1⟩
  · have pr126 : ∀ tg9, Steps p.tables e below (T102.setTop (mkF m 27 #[.val (.ref a1), .val (.int p2), .val (.int p3), .val (.int n), .val (.int ln)] [])) tg9 → Steps p.tables e below (s₁.setTop (mkF m 0 #[.val (.ref a1), .val (.int p2), .val (.int p3), .unset, .unset] [])) tg9 := fun tg9 kt => by
      refine pr103 _ ?_
      show Steps p.tables e below (T102.setTop (mkF m 12 #[.val (.ref a1), .val (.int p2), .val (.int p3), .val (.int n), .unset] [(.int p2)])) _
      refine XS.ifYes X102.here hx rfl (pc0 := 12) (pc' := 22) rfl (hb hby d11_12) rfl ((if0 _ _).trans (feq hc104).2) (by decide) (by decide) ?_
      show Steps p.tables e below (T102.setTop (mkF m 22 #[.val (.ref a1), .val (.int p2), .val (.int p3), .val (.int n), .unset] [])) _
      refine XS.iloadN X102.here hx rfl (hb hby d11_22) rfl ?_
      show Steps p.tables e below (T102.setTop (mkF m 23 #[.val (.ref a1), .val (.int p2), .val (.int p3), .val (.int n), .unset] [(.int p3)])) _
      refine XS.iloadN X102.here hx rfl (hb hby d11_23) rfl ?_
      show Steps p.tables e below (T102.setTop (mkF m 24 #[.val (.ref a1), .val (.int p2), .val (.int p3), .val (.int n), .unset] [(.int p2), (.int p3)])) _
      refine XS.isub X102.here hx rfl (hb hby d11_24) rfl ?_
      show Steps p.tables e below (T102.setTop (mkF m 25 #[.val (.ref a1), .val (.int p2), .val (.int p3), .val (.int n), .unset] [(.int (p3 - p2))])) _
      rw [hsub]
      show Steps p.tables e below (T102.setTop (mkF m 25 #[.val (.ref a1), .val (.int p2), .val (.int p3), .val (.int n), .unset] [(.int ln)])) _
      refine XS.istore X102.here hx rfl (hb hby d11_25) rfl (l' := #[.val (.ref a1), .val (.int p2), .val (.int p3), .val (.int n), .val (.int ln)]) rfl ?_
      exact kt
    rcases (id SS) with ⟨SE, SV, ⟨SC, SB, SL⟩ | ⟨SC, SB, SL⟩⟩
    · obtain ⟨cq127, kq127, q127a, q127b, q127c⟩ := isOf hZ0 P102_0 SE
      obtain ⟨_, _, ⟨T127, L127, k127, n127⟩, -, X127, ⟨Lc127, hQ127, l127, y127, z127⟩, st127⟩ := X102.virtualBack hx (y := (⟨"java/lang/String", "isLatin1", "()Z"⟩ : MethodName)) (z := (⟨"java/lang/String", "isLatin1", "()Z"⟩ : MethodName)) hown0 (mvT hZ0 (hw _ (List.mem_of_getElem? (i := 86) rfl))) (mvT hZ0 (hw _ (List.mem_of_getElem? (i := 87) rfl))) (notFace_of_selects (args := #[]) (mvT hZ0 (hw _ (List.mem_of_getElem? (i := 89) rfl)))) (mvT hZ0 (hw _ (List.mem_of_getElem? (i := 89) rfl))) (mvT hZ0 (hw _ (List.mem_of_getElem? (i := 88) rfl))) (by decide) (backOf (W := 0) (rm16L l Z a0 hw [] a1 w h0 n0 Z0 O0 S0 hw0 SA SHI SLO FM SC) hZ0 (hw _ (List.mem_of_getElem? (i := 90) rfl)) (hw _ (List.mem_of_getElem? (i := 4) rfl)) (by decide) (by decide)) q127a q127c (g := (mkF m 28 #[.val (.ref a1), .val (.int p2), .val (.int p3), .val (.int n), .val (.int ln)] [(.ref a1)])) rfl (by rw [hml]; rfl) (Steps.refl _) (argsL := []) (rest := []) (lenOf pd_6 rfl) rfl (by show 2 * 0 + _ ≤ _; exact Nat.le_of_eq rfl) (hb hby d11_28) (fun _ _ => ⟨rfl, P102_0, (by decide : 0 + 0 ≤ _), (by decide : 0 + 0 ≤ _)⟩)
      dsimp only [Pt.U, Pt.locs, Pt.cells, Pt.slots] at X127 l127 y127 z127 st127 hQ127
      subst l127 y127 z127
      obtain ⟨rfl, N127q, P127_0⟩ := hQ127
      have N127 := Fr.app N102 N127q
      obtain ⟨T128, X128, e128, st128⟩ := getF X127 hx hZ0 hown0 (host := "") (Or.inl (hw _ (List.mem_of_getElem? (i := 29) rfl))) Via.refl P127_0 SV (g := (mkF m 35 #[.val (.ref a1), .val (.int p2), .val (.int p3), .val (.int n), .val (.int ln)] [(.ref a1)])) rfl rfl (hb hby d11_35)
      obtain ⟨_, _, ⟨T129, L129, k129, n129⟩, -, X129, hS129, hg129, ⟨Lc129, hQ129, l129, y129, z129, I129⟩, st129⟩ := callSS X128 hx (y := (⟨"java/lang/StringLatin1", "newString", "([BII)Ljava/lang/String;"⟩ : MethodName)) hown0 (mvT hZ0 (hw _ (List.mem_of_getElem? (i := 91) rfl))) (mvT hZ0 (hw _ (List.mem_of_getElem? (i := 92) rfl))) (mvT hZ0 (hw _ (List.mem_of_getElem? (i := 93) rfl))) (mvT hZ0 (hw _ (List.mem_of_getElem? (i := 94) rfl))) (by decide) (own_backI (W := 0) (rm17 l Z a0 hw [] bb p2 ln w n f Ts h0 n0 Z0 O0 S0 hw0 SA SHI SLO FM SB SL sm rg (fun q => hc104 q.1) hf hcw hnot chl) hZ0 hI0 (hw _ (List.mem_of_getElem? (i := 94) rfl)) (hw _ (List.mem_of_getElem? (i := 93) rfl)) (by decide) (by decide)) (g := (mkF m 41 #[.val (.ref a1), .val (.int p2), .val (.int p3), .val (.int n), .val (.int ln)] [(.int ln), (.int p2), (.ref bb)])) rfl (by rw [hml]; rfl) (argsL := [(.ref bb), (.int p2), (.int ln)]) (rest := []) (lenOf pd_23 rfl) rfl (by show 2 * 0 + _ ≤ _; exact Nat.le_of_eq rfl) (hb hby d11_41) (fun _ _ => ⟨rfl, e128, (by decide : 0 + 2 ≤ _), (by decide : 0 + 20 ≤ _)⟩)
      dsimp only [Pt.U, Pt.locs, Pt.cells, Pt.slots] at X129 l129 y129 z129 st129 hQ129 hS129 hg129 I129
      subst l129 y129 z129
      obtain ⟨r_129, b_129, rfl, N129q, P129_0, P129_1⟩ := hQ129
      have N129 := Fr.app N127 N129q
      have Sn129 : s.Since T129.vm T129.heap.size := foldS (s := s) (vm0 := s.vm) (T := T128) ((State.WarmedH.refl s).since 0) (Nat.zero_le _) hS129 hg129
      have hZ129 : Z.Warmed39 T129.vm := State.Warmed39.trans (t := s.setVm s.vm) hZ0 hS129.1
      have ho129 : T129.vm.findClass "java/lang/String" = some m.cls := by rw [hS129.1.alike.findClass]; exact hown0
      have f130 : Old Z n0 T129.heap := O0.keep P129_0 all0
      have f131 : OwnS Z T129.heap a1 bb n f := OwnS.keep SS P129_0 nin0 nin0
      have f132 : Exa Z T129.heap a1 "java/lang/String" := SS.1.keep P129_0
      have f133 : Fld Z T129.heap a1 "java/lang/String" "value" "[B" (.ref bb) := SV.keep P129_0 nin0
      have f134 : Fld Z T129.heap a1 "java/lang/String" "coder" "B" (.int (0 : Int32)) := SC.keep P129_0 nin0
      have f135 : OwnL Z T129.heap bb n f := OwnL.keep SB P129_0 nin0
      have Zs129 : n0 ≤ T129.heap.size := Nat.le_trans Z0 P129_0.1
      have K129 : Keep h0 T129.heap [] := (Keep.refl h0 []).trans P129_0 all0
      obtain ⟨fs, hr, hrun, hended, hRW⟩ := Stand.leaveW (s := s) (vm₁ := T129.vm) X129 Sn129 (Nat.le_refl _) (v := some (.ref r_129)) (fun h => by rw [Bd.returns] at h; cases h) hlk
      refine ⟨_, _, pre0 _ ?_, hrun, hended, _, _, rfl, ?_, own_ibT (s := s) (vm0 := T129.vm) (T := T129) X129 I129, own_rmono hRW (by decide) (by decide)⟩
      · refine pr126 _ ?_
        show Steps p.tables e below (T102.setTop (mkF m 27 #[.val (.ref a1), .val (.int p2), .val (.int p3), .val (.int n), .val (.int ln)] [])) _
        refine XS.aloadN X102.here hx rfl (hb hby d11_27) rfl rfl ?_
        show Steps p.tables e below (T102.setTop (mkF m 28 #[.val (.ref a1), .val (.int p2), .val (.int p3), .val (.int n), .val (.int ln)] [(.ref a1)])) _
        refine st127.trans ?_
        show Steps p.tables e below (T127.setTop (mkF m 31 #[.val (.ref a1), .val (.int p2), .val (.int p3), .val (.int n), .val (.int ln)] [(.int (1 : Int32))])) _
        refine XS.ifNo X127.here hx rfl (hb hby d11_31) rfl ((if0 _ _).trans (feq (by decide : ¬ ((1 : Int32) = (0 : Int32)))).1) ?_
        show Steps p.tables e below (T127.setTop (mkF m 34 #[.val (.ref a1), .val (.int p2), .val (.int p3), .val (.int n), .val (.int ln)] [])) _
        refine XS.aloadN X127.here hx rfl (hb hby d11_34) rfl rfl ?_
        show Steps p.tables e below (T127.setTop (mkF m 35 #[.val (.ref a1), .val (.int p2), .val (.int p3), .val (.int n), .val (.int ln)] [(.ref a1)])) _
        refine st128 _ ?_
        show Steps p.tables e below (T128.setTop (mkF m 38 #[.val (.ref a1), .val (.int p2), .val (.int p3), .val (.int n), .val (.int ln)] [(.ref bb)])) _
        refine XS.iloadN X128.here hx rfl (hb hby d11_38) rfl ?_
        show Steps p.tables e below (T128.setTop (mkF m 39 #[.val (.ref a1), .val (.int p2), .val (.int p3), .val (.int n), .val (.int ln)] [(.int p2), (.ref bb)])) _
        refine XS.iload X128.here hx rfl (hb hby d11_39) rfl ?_
        show Steps p.tables e below (T128.setTop (mkF m 41 #[.val (.ref a1), .val (.int p2), .val (.int p3), .val (.int n), .val (.int ln)] [(.int ln), (.int p2), (.ref bb)])) _
        refine st129.trans ?_
        show Steps p.tables e below (T129.setTop (mkF m 44 #[.val (.ref a1), .val (.int p2), .val (.int p3), .val (.int n), .val (.int ln)] [(.ref r_129)])) _
        refine XS.goto X129.here hx rfl (pc0 := 44) (pc' := 57) rfl (hb hby d11_44) (by decide) (by decide) ?_
        show Steps p.tables e below (T129.setTop (mkF m 57 #[.val (.ref a1), .val (.int p2), .val (.int p3), .val (.int n), .val (.int ln)] [(.ref r_129)])) _
        jvm_step X129.here [X129.here.top, hx, (hb hby d11_57), X129.method', Bd.returns, Value.isRef, FieldType.isReference]
        first | (intro acts; rw [hr _ acts rfl rfl rfl]) | rw [hr _ _ rfl rfl rfl]
        exact Steps.refl _
      · show Q11 Z a1 p2 p3 w bb n f ln Ts h0 n0 _ T129.heap _
        exact ⟨r_129, b_129, rfl, N129, K129, P129_1⟩
    · obtain ⟨cq136, kq136, q136a, q136b, q136c⟩ := isOf hZ0 P102_0 SE
      obtain ⟨_, _, ⟨T136, L136, k136, n136⟩, -, X136, ⟨Lc136, hQ136, l136, y136, z136⟩, st136⟩ := X102.virtualBack hx (y := (⟨"java/lang/String", "isLatin1", "()Z"⟩ : MethodName)) (z := (⟨"java/lang/String", "isLatin1", "()Z"⟩ : MethodName)) hown0 (mvT hZ0 (hw _ (List.mem_of_getElem? (i := 86) rfl))) (mvT hZ0 (hw _ (List.mem_of_getElem? (i := 87) rfl))) (notFace_of_selects (args := #[]) (mvT hZ0 (hw _ (List.mem_of_getElem? (i := 89) rfl)))) (mvT hZ0 (hw _ (List.mem_of_getElem? (i := 89) rfl))) (mvT hZ0 (hw _ (List.mem_of_getElem? (i := 88) rfl))) (by decide) (backOf (W := 0) (rm16U l Z a0 hw [] a1 w h0 n0 Z0 O0 S0 hw0 SA SHI SLO FM SC) hZ0 (hw _ (List.mem_of_getElem? (i := 90) rfl)) (hw _ (List.mem_of_getElem? (i := 4) rfl)) (by decide) (by decide)) q136a q136c (g := (mkF m 28 #[.val (.ref a1), .val (.int p2), .val (.int p3), .val (.int n), .val (.int ln)] [(.ref a1)])) rfl (by rw [hml]; rfl) (Steps.refl _) (argsL := []) (rest := []) (lenOf pd_6 rfl) rfl (by show 2 * 0 + _ ≤ _; exact Nat.le_of_eq rfl) (hb hby d11_28) (fun _ _ => ⟨rfl, P102_0, (by decide : 0 + 0 ≤ _), (by decide : 0 + 0 ≤ _)⟩)
      dsimp only [Pt.U, Pt.locs, Pt.cells, Pt.slots] at X136 l136 y136 z136 st136 hQ136
      subst l136 y136 z136
      obtain ⟨rfl, N136q, P136_0⟩ := hQ136
      have N136 := Fr.app N102 N136q
      obtain ⟨T137, X137, e137, st137⟩ := getF X136 hx hZ0 hown0 (host := "") (Or.inl (hw _ (List.mem_of_getElem? (i := 29) rfl))) Via.refl P136_0 SV (g := (mkF m 48 #[.val (.ref a1), .val (.int p2), .val (.int p3), .val (.int n), .val (.int ln)] [(.ref a1)])) rfl rfl (hb hby d11_48)
      obtain ⟨_, _, ⟨T138, L138, k138, n138⟩, -, X138, hS138, hg138, ⟨Lc138, hQ138, l138, y138, z138, I138⟩, st138⟩ := callSS X137 hx (y := (⟨"java/lang/StringUTF16", "newString", "([BII)Ljava/lang/String;"⟩ : MethodName)) hown0 (mvT hZ0 (hw _ (List.mem_of_getElem? (i := 156) rfl))) (mvT hZ0 (hw _ (List.mem_of_getElem? (i := 157) rfl))) (mvT hZ0 (hw _ (List.mem_of_getElem? (i := 18) rfl))) (mvT hZ0 (hw _ (List.mem_of_getElem? (i := 158) rfl))) (by decide) (own_backI (W := 0) (rm33 l Z a0 hw [] bb p2 ln w n f Ts h0 n0 Z0 O0 S0 hw0 SA SHI SLO FM SB SL rg (fun q => hc104 q.1) hf hcw hnot chu) hZ0 hI0 (hw _ (List.mem_of_getElem? (i := 158) rfl)) (hw _ (List.mem_of_getElem? (i := 18) rfl)) (by decide) (by decide)) (g := (mkF m 54 #[.val (.ref a1), .val (.int p2), .val (.int p3), .val (.int n), .val (.int ln)] [(.int ln), (.int p2), (.ref bb)])) rfl (by rw [hml]; rfl) (argsL := [(.ref bb), (.int p2), (.int ln)]) (rest := []) (lenOf pd_23 rfl) rfl (by show 2 * 0 + _ ≤ _; exact Nat.le_of_eq rfl) (hb hby d11_54) (fun _ _ => ⟨rfl, e137, (by decide : 0 + 3 ≤ _), (by decide : 0 + 36 ≤ _)⟩)
      dsimp only [Pt.U, Pt.locs, Pt.cells, Pt.slots] at X138 l138 y138 z138 st138 hQ138 hS138 hg138 I138
      subst l138 y138 z138
      obtain ⟨r_138, b_138, rfl, N138q, P138_0, P138_1⟩ := hQ138
      have N138 := Fr.app N136 N138q
      have Sn138 : s.Since T138.vm T138.heap.size := foldS (s := s) (vm0 := s.vm) (T := T137) ((State.WarmedH.refl s).since 0) (Nat.zero_le _) hS138 hg138
      have hZ138 : Z.Warmed39 T138.vm := State.Warmed39.trans (t := s.setVm s.vm) hZ0 hS138.1
      have ho138 : T138.vm.findClass "java/lang/String" = some m.cls := by rw [hS138.1.alike.findClass]; exact hown0
      have f139 : Old Z n0 T138.heap := O0.keep P138_0 all0
      have f140 : OwnS Z T138.heap a1 bb n f := OwnS.keep SS P138_0 nin0 nin0
      have f141 : Exa Z T138.heap a1 "java/lang/String" := SS.1.keep P138_0
      have f142 : Fld Z T138.heap a1 "java/lang/String" "value" "[B" (.ref bb) := SV.keep P138_0 nin0
      have f143 : Fld Z T138.heap a1 "java/lang/String" "coder" "B" (.int (1 : Int32)) := SC.keep P138_0 nin0
      have f144 : OwnU Z T138.heap bb n f := OwnU.keep SB P138_0 nin0
      have Zs138 : n0 ≤ T138.heap.size := Nat.le_trans Z0 P138_0.1
      have K138 : Keep h0 T138.heap [] := (Keep.refl h0 []).trans P138_0 all0
      obtain ⟨fs, hr, hrun, hended, hRW⟩ := Stand.leaveW (s := s) (vm₁ := T138.vm) X138 Sn138 (Nat.le_refl _) (v := some (.ref r_138)) (fun h => by rw [Bd.returns] at h; cases h) hlk
      refine ⟨_, _, pre0 _ ?_, hrun, hended, _, _, rfl, ?_, own_ibT (s := s) (vm0 := T138.vm) (T := T138) X138 I138, own_rmono hRW (by decide) (by decide)⟩
      · refine pr126 _ ?_
        show Steps p.tables e below (T102.setTop (mkF m 27 #[.val (.ref a1), .val (.int p2), .val (.int p3), .val (.int n), .val (.int ln)] [])) _
        refine XS.aloadN X102.here hx rfl (hb hby d11_27) rfl rfl ?_
        show Steps p.tables e below (T102.setTop (mkF m 28 #[.val (.ref a1), .val (.int p2), .val (.int p3), .val (.int n), .val (.int ln)] [(.ref a1)])) _
        refine st136.trans ?_
        show Steps p.tables e below (T136.setTop (mkF m 31 #[.val (.ref a1), .val (.int p2), .val (.int p3), .val (.int n), .val (.int ln)] [(.int (0 : Int32))])) _
        refine XS.ifYes X136.here hx rfl (pc0 := 31) (pc' := 47) rfl (hb hby d11_31) rfl ((if0 _ _).trans (teq (by decide : (0 : Int32) = (0 : Int32))).1) (by decide) (by decide) ?_
        show Steps p.tables e below (T136.setTop (mkF m 47 #[.val (.ref a1), .val (.int p2), .val (.int p3), .val (.int n), .val (.int ln)] [])) _
        refine XS.aloadN X136.here hx rfl (hb hby d11_47) rfl rfl ?_
        show Steps p.tables e below (T136.setTop (mkF m 48 #[.val (.ref a1), .val (.int p2), .val (.int p3), .val (.int n), .val (.int ln)] [(.ref a1)])) _
        refine st137 _ ?_
        show Steps p.tables e below (T137.setTop (mkF m 51 #[.val (.ref a1), .val (.int p2), .val (.int p3), .val (.int n), .val (.int ln)] [(.ref bb)])) _
        refine XS.iloadN X137.here hx rfl (hb hby d11_51) rfl ?_
        show Steps p.tables e below (T137.setTop (mkF m 52 #[.val (.ref a1), .val (.int p2), .val (.int p3), .val (.int n), .val (.int ln)] [(.int p2), (.ref bb)])) _
        refine XS.iload X137.here hx rfl (hb hby d11_52) rfl ?_
        show Steps p.tables e below (T137.setTop (mkF m 54 #[.val (.ref a1), .val (.int p2), .val (.int p3), .val (.int n), .val (.int ln)] [(.int ln), (.int p2), (.ref bb)])) _
        refine st138.trans ?_
        show Steps p.tables e below (T138.setTop (mkF m 57 #[.val (.ref a1), .val (.int p2), .val (.int p3), .val (.int n), .val (.int ln)] [(.ref r_138)])) _
        jvm_step X138.here [X138.here.top, hx, (hb hby d11_57), X138.method', Bd.returns, Value.isRef, FieldType.isReference]
        first | (intro acts; rw [hr _ acts rfl rfl rfl]) | rw [hr _ _ rfl rfl rfl]
        exact Steps.refl _
      · show Q11 Z a1 p2 p3 w bb n f ln Ts h0 n0 _ T138.heap _
        exact ⟨r_138, b_138, rfl, N138, K138, P138_1⟩
theorem pn_5 : plainName "java/lang/Record" = true := by first | (simp [plainName, overriddenIn]; done) | decide +kernel
theorem ef_8 (m : MethodId) (x0 : Addr) : entryFrame m #[(.ref x0)] 1 = mkF m 0 #[.val (.ref x0)] [] := by first | (simp [entryFrame, mkF, argsToLocals, Value.category]; done) | rfl
theorem d8_0 : decode jdk_30_method_1_code 0 = .ok (.aload_n 0, 1) := by decide +kernel
theorem d8_1 : decode jdk_30_method_1_code 1 = .ok (.invokespecial 1, 3) := by decide +kernel
theorem d8_4 : decode jdk_30_method_1_code 4 = .ok (.return_, 1) := by decide +kernel
def Q8 (Z : State) (a1 : Addr) (h0 : Heap) (n0 : Nat) (v : Option Value) (h : Heap) (L : List Loc) : Prop := v = none ∧ Fr n0 L ∧ (h = h0)
set_option maxRecDepth 65536 in
set_option maxHeartbeats 40000000 in
theorem rm8 (l : Launch) (Z : State) (a0 : Array Value) (hw : ∀ d ∈ tables_1, d.before a0 Z = true) (ws : List Jvm.Cond) (a1 : Addr) (h0 : Heap) (n0 : Nat) (Z0 : n0 ≤ h0.size) :
    MetFree l (⟨"java/lang/Record", "<init>", "()V"⟩ : MethodName) (head1 (Jvm.Cond.code (⟨"java/lang/Record", "<init>", "()V"⟩ : MethodName) jdk_30_method_1_code 1 none :: ws) ({ frames := 1, cells := 0, slots := 0, locals := 12 } : Room)) (fun a U => a = #[(.ref a1)] ∧ Z.Warmed39 U.vm ∧ U.heap = h0) (fun _ _ _ _ _ => True) (fun _ U o U' => ∃ v L, o = .returned v ∧ Q8 Z a1 h0 n0 v U'.heap L ∧ FrameEnd U o U' L ({ frames := 1, cells := 0, slots := 0, locals := 12 } : Room).cells ({ frames := 1, cells := 0, slots := 0, locals := 12 } : Room).slots) := by
  refine MetFree.of_bodySF (plainFor_of_name pn_5) hisR ?_
  intro p e s m args below meth c s₁ Bd hml0 hP hK
  obtain ⟨rfl, hZ0, hh⟩ := hP
  have hx := Bd.exec
  have hby := Bd.bytes
  have hml : c.maxLocals = 1 := hml0
  have hown0 : s.vm.findClass "java/lang/Record" = some m.cls := findClass_of_methodNamed Bd.named
  have hnm := (name_of_methodNamed Bd.named Bd.method).1
  have hlk : meth.locks = false := by first | exact BodyLoose.notSynchronized Bd | exact Body.notSynchronized Bd
  have X0 : Stand p l e ({ frames := 1, cells := 0, slots := 0, locals := 12 } : Room) s m #[(.ref a1)] below meth c s₁ [] 0 0 := Stand.of_body Bd
  have e0 : s₁.heap = h0 := by rw [← hh, Bd.state]; rfl
  have N0 := Fr.nil n0
  have pre0 : ∀ t, Steps p.tables e below (s₁.setTop (mkF m 0 #[.val (.ref a1)] [])) t → Steps p.tables e below (s₁.setTop (entryFrame m #[(.ref a1)] 1)) t := fun t k => castTop (ef_8 m a1) k
  obtain ⟨T101, X101, e101, st101⟩ := initO X0 hx hZ0 hown0 (hw _ (List.mem_of_getElem? (i := 46) rfl)) (hw _ (List.mem_of_getElem? (i := 13) rfl)) (hw _ (List.mem_of_getElem? (i := 14) rfl)) e0 (g := (mkF m 1 #[.val (.ref a1)] [(.ref a1)])) rfl (by rw [hml]; rfl) rfl (hb hby d8_1) (by decide) (W := 0) (by show 2 * 0 + _ ≤ _; exact Nat.le_of_eq rfl) (by decide)
  obtain ⟨fs, hr, hrun, hended, hW, hsame⟩ := X101.leave (v := none) (fun _ => rfl) hlk
  refine ⟨_, _, pre0 _ ?_, hrun, hended, _, _, rfl, ?_, ⟨_, rfl⟩, hW, hsame.mono (by decide) (by decide)⟩
  · show Steps p.tables e below (s₁.setTop (mkF m 0 #[.val (.ref a1)] [])) _
    refine XS.aloadN X0.here hx rfl (hb hby d8_0) rfl rfl ?_
    show Steps p.tables e below (s₁.setTop (mkF m 1 #[.val (.ref a1)] [(.ref a1)])) _
    refine st101 _ ?_
    show Steps p.tables e below (T101.setTop (mkF m 4 #[.val (.ref a1)] [])) _
    exact X101.returnOut hx Bd.returns (hb hby d8_4) hr
  · show Q8 Z a1 h0 n0 _ T101.heap _
    rw [e101]
    exact ⟨rfl, N0, rfl⟩
theorem pn_6 : plainName "java/util/Objects" = true := by first | (simp [plainName, overriddenIn]; done) | decide +kernel
theorem ef_9 (m : MethodId) (x0 : Addr) (x1 : Addr) : entryFrame m #[(.ref x0), (.ref x1)] 2 = mkF m 0 #[.val (.ref x0), .val (.ref x1)] [] := by first | (simp [entryFrame, mkF, argsToLocals, Value.category]; done) | rfl
theorem d9_0 : decode jdk_31_method_11_code 0 = .ok (.aload_n 0, 1) := by decide +kernel
theorem d9_1 : decode jdk_31_method_11_code 1 = .ok (.ifnonnull 12, 3) := by decide +kernel
theorem d9_13 : decode jdk_31_method_11_code 13 = .ok (.aload_n 0, 1) := by decide +kernel
theorem d9_14 : decode jdk_31_method_11_code 14 = .ok (.areturn, 1) := by decide +kernel
def Q9 (Z : State) (a1 : Addr) (a2 : Addr) (h0 : Heap) (n0 : Nat) (v : Option Value) (h : Heap) (L : List Loc) : Prop := v = some (.ref a1) ∧ Fr n0 L ∧ (h = h0)
set_option maxRecDepth 65536 in
set_option maxHeartbeats 40000000 in
theorem rm9 (l : Launch) (Z : State) (a0 : Array Value) (hw : ∀ d ∈ tables_1, d.before a0 Z = true) (ws : List Jvm.Cond) (a1 : Addr) (a2 : Addr) (h0 : Heap) (n0 : Nat) (Z0 : n0 ≤ h0.size) :
    MetFree l (⟨"java/util/Objects", "requireNonNull", "(Ljava/lang/Object;Ljava/lang/String;)Ljava/lang/Object;"⟩ : MethodName) (head1 (Jvm.Cond.code (⟨"java/util/Objects", "requireNonNull", "(Ljava/lang/Object;Ljava/lang/String;)Ljava/lang/Object;"⟩ : MethodName) jdk_31_method_11_code 2 (some (.object "java/lang/Object")) :: ws) ({ frames := 0, cells := 0, slots := 0, locals := 0 } : Room)) (fun a U => a = #[(.ref a1), (.ref a2)] ∧ Z.Warmed39 U.vm ∧ U.heap = h0) (fun _ _ _ _ _ => True) (fun _ U o U' => ∃ v L, o = .returned v ∧ Q9 Z a1 a2 h0 n0 v U'.heap L ∧ FrameEnd U o U' L ({ frames := 0, cells := 0, slots := 0, locals := 0 } : Room).cells ({ frames := 0, cells := 0, slots := 0, locals := 0 } : Room).slots) := by
  refine MetFree.of_bodySF (plainFor_of_name pn_6) hisR ?_
  intro p e s m args below meth c s₁ Bd hml0 hP hK
  obtain ⟨rfl, hZ0, hh⟩ := hP
  have hx := Bd.exec
  have hby := Bd.bytes
  have hml : c.maxLocals = 2 := hml0
  have hown0 : s.vm.findClass "java/util/Objects" = some m.cls := findClass_of_methodNamed Bd.named
  have hnm := (name_of_methodNamed Bd.named Bd.method).1
  have hlk : meth.locks = false := by first | exact BodyLoose.notSynchronized Bd | exact Body.notSynchronized Bd
  have X0 : Stand p l e ({ frames := 0, cells := 0, slots := 0, locals := 0 } : Room) s m #[(.ref a1), (.ref a2)] below meth c s₁ [] 0 0 := Stand.of_body Bd
  have e0 : s₁.heap = h0 := by rw [← hh, Bd.state]; rfl
  have N0 := Fr.nil n0
  have pre0 : ∀ t, Steps p.tables e below (s₁.setTop (mkF m 0 #[.val (.ref a1), .val (.ref a2)] [])) t → Steps p.tables e below (s₁.setTop (entryFrame m #[(.ref a1), (.ref a2)] 2)) t := fun t k => castTop (ef_9 m a1 a2) k
  obtain ⟨fs, hr, hrun, hended, hW, hsame⟩ := X0.leave (v := some (.ref a1)) (fun h => by rw [Bd.returns] at h; cases h) hlk
  refine ⟨_, _, pre0 _ ?_, hrun, hended, _, _, rfl, ?_, ⟨_, rfl⟩, hW, hsame.mono (by decide) (by decide)⟩
  · show Steps p.tables e below (s₁.setTop (mkF m 0 #[.val (.ref a1), .val (.ref a2)] [])) _
    refine XS.aloadN X0.here hx rfl (hb hby d9_0) rfl rfl ?_
    show Steps p.tables e below (s₁.setTop (mkF m 1 #[.val (.ref a1), .val (.ref a2)] [(.ref a1)])) _
    refine XS.ifnonnullYes X0.here hx rfl (pc0 := 1) (pc' := 13) rfl (hb hby d9_1) rfl (by decide) (by decide) ?_
    show Steps p.tables e below (s₁.setTop (mkF m 13 #[.val (.ref a1), .val (.ref a2)] [])) _
    refine XS.aloadN X0.here hx rfl (hb hby d9_13) rfl rfl ?_
    show Steps p.tables e below (s₁.setTop (mkF m 14 #[.val (.ref a1), .val (.ref a2)] [(.ref a1)])) _
    jvm_step X0.here [X0.here.top, hx, (hb hby d9_14), X0.method', Bd.returns, Value.isRef, FieldType.isReference]
    first | (intro acts; rw [hr _ acts rfl rfl rfl]) | rw [hr _ _ rfl rfl rfl]
    exact Steps.refl _
  · show Q9 Z a1 a2 h0 n0 _ s₁.heap _
    rw [e0]
    exact ⟨rfl, N0, rfl⟩
theorem pn_7 : plainName "com/example/lexiform/lexiform/logicalform/Phrase" = true := by first | (simp [plainName, overriddenIn]; done) | decide +kernel
theorem ef_7 (m : MethodId) (x0 : Addr) (x1 : Addr) (x2 : Int32) (x3 : Int32) : entryFrame m #[(.ref x0), (.ref x1), (.int x2), (.int x3)] 4 = mkF m 0 #[.val (.ref x0), .val (.ref x1), .val (.int x2), .val (.int x3)] [] := by first | (simp [entryFrame, mkF, argsToLocals, Value.category]; done) | rfl
theorem d7_0 : decode prog_23_method_1_code 0 = .ok (.aload_n 0, 1) := by decide +kernel
theorem d7_1 : decode prog_23_method_1_code 1 = .ok (.invokespecial 1, 3) := by decide +kernel
theorem pd_24 : parseMethodDescriptor "()V" = some ⟨[], none⟩ := by decide +kernel
theorem d7_4 : decode prog_23_method_1_code 4 = .ok (.aload_n 1, 1) := by decide +kernel
theorem d7_5 : decode prog_23_method_1_code 5 = .ok (.ldc 7, 2) := by decide +kernel
theorem d7_7 : decode prog_23_method_1_code 7 = .ok (.invokestatic 9, 3) := by decide +kernel
theorem pd_25 : parseMethodDescriptor "(Ljava/lang/Object;Ljava/lang/String;)Ljava/lang/Object;" = some ⟨[(.object "java/lang/Object"), (.object "java/lang/String")], some (.object "java/lang/Object")⟩ := by decide +kernel
theorem d7_10 : decode prog_23_method_1_code 10 = .ok (.pop, 1) := by decide +kernel
theorem d7_11 : decode prog_23_method_1_code 11 = .ok (.iload_n 2, 1) := by decide +kernel
theorem d7_12 : decode prog_23_method_1_code 12 = .ok (.ifCond .lt 7, 3) := by decide +kernel
theorem d7_15 : decode prog_23_method_1_code 15 = .ok (.iload_n 3, 1) := by decide +kernel
theorem d7_16 : decode prog_23_method_1_code 16 = .ok (.ifCond .ge 18, 3) := by decide +kernel
theorem d7_34 : decode prog_23_method_1_code 34 = .ok (.aload_n 0, 1) := by decide +kernel
theorem d7_35 : decode prog_23_method_1_code 35 = .ok (.aload_n 1, 1) := by decide +kernel
theorem d7_36 : decode prog_23_method_1_code 36 = .ok (.putfield 24, 3) := by decide +kernel
theorem d7_39 : decode prog_23_method_1_code 39 = .ok (.aload_n 0, 1) := by decide +kernel
theorem d7_40 : decode prog_23_method_1_code 40 = .ok (.iload_n 2, 1) := by decide +kernel
theorem d7_41 : decode prog_23_method_1_code 41 = .ok (.putfield 29, 3) := by decide +kernel
theorem d7_44 : decode prog_23_method_1_code 44 = .ok (.aload_n 0, 1) := by decide +kernel
theorem d7_45 : decode prog_23_method_1_code 45 = .ok (.iload_n 3, 1) := by decide +kernel
theorem d7_46 : decode prog_23_method_1_code 46 = .ok (.putfield 33, 3) := by decide +kernel
theorem d7_49 : decode prog_23_method_1_code 49 = .ok (.return_, 1) := by decide +kernel
def Q7 (Z : State) (a1 : Addr) (a2 : Addr) (p3 : Int32) (p4 : Int32) (Ts : List String) (h0 : Heap) (n0 : Nat) (v : Option Value) (h : Heap) (L : List Loc) : Prop := v = none ∧ Fr n0 L ∧ (Keep h0 h [a1]) ∧ (Fld Z h a1 "com/example/lexiform/lexiform/logicalform/Phrase" "offset" "I" (.int p3)) ∧ (Fld Z h a1 "com/example/lexiform/lexiform/logicalform/Phrase" "length" "I" (.int p4))
set_option maxRecDepth 65536 in
set_option maxHeartbeats 40000000 in
theorem rm7 (l : Launch) (Z : State) (a0 : Array Value) (hw : ∀ d ∈ tables_1, d.before a0 Z = true) (ws : List Jvm.Cond) (a1 : Addr) (a2 : Addr) (p3 : Int32) (p4 : Int32) (Ts : List String) (h0 : Heap) (n0 : Nat) (Z0 : n0 ≤ h0.size) (O0 : Old Z n0 h0) (E1 : Exa Z h0 a1 "com/example/lexiform/lexiform/logicalform/Phrase") (g1 : n0 ≤ a1) (F1 : Fld Z h0 a1 "com/example/lexiform/lexiform/logicalform/Phrase" "role" "Ljava/lang/String;" .null) (F2 : Fld Z h0 a1 "com/example/lexiform/lexiform/logicalform/Phrase" "offset" "I" (.int (0 : Int32))) (F3 : Fld Z h0 a1 "com/example/lexiform/lexiform/logicalform/Phrase" "length" "I" (.int (0 : Int32))) (h1 : ¬ (p3 < (0 : Int32))) (h2 : ¬ (p4 < (0 : Int32))) (hcw : Jvm.Lit.compactW.before a0 Z = true) (hnot : "role" ∉ Ts) (ch : Jvm.Lit.constHeld Z "com/example/lexiform/lexiform/logicalform/Phrase" 7) :
    MetFree l (⟨"com/example/lexiform/lexiform/logicalform/Phrase", "<init>", "(Ljava/lang/String;II)V"⟩ : MethodName) (head1 (Jvm.Cond.code (⟨"com/example/lexiform/lexiform/logicalform/Phrase", "<init>", "(Ljava/lang/String;II)V"⟩ : MethodName) prog_23_method_1_code 4 none :: ws) ({ frames := 2, cells := 2, slots := 20, locals := 24 } : Room)) (fun a U => a = #[(.ref a1), (.ref a2), (.int p3), (.int p4)] ∧ Z.Warmed39 U.vm ∧ U.heap = h0 ∧ IB Z U.vm Ts) (fun _ _ _ _ _ => True) (fun _ U o U' => ∃ v L, o = .returned v ∧ Q7 Z a1 a2 p3 p4 Ts h0 n0 v U'.heap L ∧ IB Z U'.vm ("role" :: Ts) ∧ ReturnedEndW U o U' L ({ frames := 2, cells := 2, slots := 20, locals := 24 } : Room).cells ({ frames := 2, cells := 2, slots := 20, locals := 24 } : Room).slots) := by
  refine MetFree.of_bodySF (plainFor_of_name pn_7) hisR ?_
  intro p e s m args below meth c s₁ Bd hml0 hP hK
  obtain ⟨rfl, hZ0, hh, hI0⟩ := hP
  have hx := Bd.exec
  have hby := Bd.bytes
  have hml : c.maxLocals = 4 := hml0
  have hown0 : s.vm.findClass "com/example/lexiform/lexiform/logicalform/Phrase" = some m.cls := findClass_of_methodNamed Bd.named
  have hnm := (name_of_methodNamed Bd.named Bd.method).1
  have hlk : meth.locks = false := by first | exact BodyLoose.notSynchronized Bd | exact Body.notSynchronized Bd
  have X0 : Stand p l e ({ frames := 2, cells := 2, slots := 20, locals := 24 } : Room) s m #[(.ref a1), (.ref a2), (.int p3), (.int p4)] below meth c s₁ [] 0 0 := Stand.of_body Bd
  have e0 : s₁.heap = h0 := by rw [← hh, Bd.state]; rfl
  have N0 := Fr.nil n0
  have pre0 : ∀ t, Steps p.tables e below (s₁.setTop (mkF m 0 #[.val (.ref a1), .val (.ref a2), .val (.int p3), .val (.int p4)] [])) t → Steps p.tables e below (s₁.setTop (entryFrame m #[(.ref a1), (.ref a2), (.int p3), (.int p4)] 4)) t := fun t k => castTop (ef_7 m a1 a2 p3 p4) k
  obtain ⟨_, _, ⟨T101, L101, k101, n101⟩, -, X101, ⟨Lc101, hQ101, l101, y101, z101⟩, st101⟩ := X0.specialBack hx (y := (⟨"java/lang/Record", "<init>", "()V"⟩ : MethodName)) rfl hown0 (mvT hZ0 (hw _ (List.mem_of_getElem? (i := 41) rfl))) (mvT hZ0 (hw _ (List.mem_of_getElem? (i := 42) rfl))) (mvT hZ0 (hw _ (List.mem_of_getElem? (i := 45) rfl))) (by decide) (backOf (W := 0) (rm8 l Z a0 hw [] a1 h0 h0.size (Nat.le_refl _) ) hZ0 (hw _ (List.mem_of_getElem? (i := 45) rfl)) (hw _ (List.mem_of_getElem? (i := 44) rfl)) (by decide) (by decide)) (g := (mkF m 1 #[.val (.ref a1), .val (.ref a2), .val (.int p3), .val (.int p4)] [(.ref a1)])) rfl (by rw [hml]; rfl) (Steps.refl _) (a := a1) (argsL := []) (rest := []) (lenOf pd_24 rfl) rfl (by show 2 * 0 + _ ≤ _; exact Nat.le_of_eq rfl) (hb hby d7_1) (fun _ _ => ⟨rfl, e0, (by decide : 0 + 0 ≤ _), (by decide : 0 + 0 ≤ _)⟩)
  dsimp only [Pt.U, Pt.locs, Pt.cells, Pt.slots] at X101 l101 y101 z101 st101 hQ101
  subst l101 y101 z101
  obtain ⟨rfl, N101q, P101_0⟩ := hQ101
  have N101r : Fr n0 _ := fun y hy => Nat.le_trans Z0 (N101q y hy)
  have N101 := Fr.app N0 N101r
  obtain ⟨sa102, T102, h102, k102, sb102, kc102, X102, e102, E102, S102, ks102, hZ102, ho102, x102, fc102, fv102, A102, -, -, I102, st102⟩ := ldcSV (s := s) (vm0 := s.vm) X101 hx hZ0 hown0 (hw _ (List.mem_of_getElem? (i := 47) rfl)) (own_sa hw) P101_0 ((State.WarmedH.refl s).since 0) (Nat.zero_le _) (by rw [show s.heap = h0 from hh]; exact Fr.app (Fr.nil _) N101q) (fun b cl q => by rw [show s.heap = h0 from hh]; exact O0.2.2 b cl q) hI0 hnot ch hcw (z := (4 : Int32)) ⟨by decide, rfl⟩ (by decide) (by decide) (g := (mkF m 5 #[.val (.ref a1), .val (.ref a2), .val (.int p3), .val (.int p4)] [(.ref a2)])) rfl (hb hby d7_5) (n := 16) (by decide) (by decide) (by decide) (by decide)
  have f103 : Old Z n0 h102 := O0.ext E102
  have f104 : Exa Z h102 a1 "com/example/lexiform/lexiform/logicalform/Phrase" := Exa.ext E102 E1
  have f105 : Fld Z h102 a1 "com/example/lexiform/lexiform/logicalform/Phrase" "role" "Ljava/lang/String;" .null := Fld.ext E102 F1
  have f106 : Fld Z h102 a1 "com/example/lexiform/lexiform/logicalform/Phrase" "offset" "I" (.int (0 : Int32)) := Fld.ext E102 F2
  have f107 : Fld Z h102 a1 "com/example/lexiform/lexiform/logicalform/Phrase" "length" "I" (.int (0 : Int32)) := Fld.ext E102 F3
  have Zs102 : n0 ≤ h102.size := Nat.le_trans Z0 E102.1
  have K102 : Keep h0 h102 [a1] := (Keep.refl h0 [a1]).ext E102
  obtain ⟨_, _, ⟨T108, L108, k108, n108⟩, -, X108, ⟨Lc108, hQ108, l108, y108, z108⟩, st108⟩ := Jvm.LawKit.callS X102 hx (y := (⟨"java/util/Objects", "requireNonNull", "(Ljava/lang/Object;Ljava/lang/String;)Ljava/lang/Object;"⟩ : MethodName)) ho102 (mvT hZ102 (hw _ (List.mem_of_getElem? (i := 48) rfl))) (mvT hZ102 (hw _ (List.mem_of_getElem? (i := 49) rfl))) (mvT hZ102 (hw _ (List.mem_of_getElem? (i := 50) rfl))) (mvT hZ102 (hw _ (List.mem_of_getElem? (i := 51) rfl))) (by decide) (backOf (W := 0) (rm9 l Z a0 hw [] a2 sa102 h102 n0 Zs102 ) hZ102 (hw _ (List.mem_of_getElem? (i := 51) rfl)) (hw _ (List.mem_of_getElem? (i := 50) rfl)) (by decide) (by decide)) (g := (mkF m 7 #[.val (.ref a1), .val (.ref a2), .val (.int p3), .val (.int p4)] [(.ref sa102), (.ref a2)])) rfl (by rw [hml]; rfl) (argsL := [(.ref a2), (.ref sa102)]) (rest := []) (lenOf pd_25 rfl) rfl (by show 2 * 0 + _ ≤ _; exact Nat.le_of_eq rfl) (hb hby d7_7) (fun _ _ => ⟨rfl, e102, (by decide : 2 + 0 ≤ _), (by decide : 20 + 0 ≤ _)⟩)
  dsimp only [Pt.U, Pt.locs, Pt.cells, Pt.slots] at X108 l108 y108 z108 st108 hQ108
  subst l108 y108 z108
  obtain ⟨rfl, N108q, P108_0⟩ := hQ108
  have N108 := Fr.app N101 N108q
  obtain ⟨T109, h109, X109, e109, W109, st109⟩ := putF X108 hx hZ102 ho102 (host := "") (Or.inl (hw _ (List.mem_of_getElem? (i := 52) rfl))) Via.refl P108_0 f105 f104 (Or.inr ⟨(hw _ (List.mem_of_getElem? (i := 53) rfl)), rfl, hnm⟩) (hw _ (List.mem_of_getElem? (i := 33) rfl)) (ty := (.object "java/lang/String")) (by decide) rfl rfl (g := (mkF m 36 #[.val (.ref a1), .val (.ref a2), .val (.int p3), .val (.int p4)] [(.ref a2), (.ref a1)])) rfl rfl (hb hby d7_36)
  have f110 : Old Z n0 h109 := f103.wr W109 g1
  have f111 : Exa Z h109 a1 "com/example/lexiform/lexiform/logicalform/Phrase" := Exa.wr W109 f104
  have f112 : Fld Z h109 a1 "com/example/lexiform/lexiform/logicalform/Phrase" "offset" "I" (.int (0 : Int32)) := Fld.other W109 f106 (Or.inr (slot_ne (Or.inr (hw _ (List.mem_of_getElem? (i := 55) rfl))) (Or.inr (hw _ (List.mem_of_getElem? (i := 53) rfl))) (by decide) (t := .int) (t' := (.object "java/lang/String")) (by decide) (by decide)))
  have f113 : Fld Z h109 a1 "com/example/lexiform/lexiform/logicalform/Phrase" "length" "I" (.int (0 : Int32)) := Fld.other W109 f107 (Or.inr (slot_ne (Or.inr (hw _ (List.mem_of_getElem? (i := 57) rfl))) (Or.inr (hw _ (List.mem_of_getElem? (i := 53) rfl))) (by decide) (t := .int) (t' := (.object "java/lang/String")) (by decide) (by decide)))
  have f114 : Fld Z h109 a1 "com/example/lexiform/lexiform/logicalform/Phrase" "role" "Ljava/lang/String;" (.ref a2) := f105.same W109
  have kt109 : k102 ≤ h109.size := Nat.le_trans ks102 (Keep.of_wr W109).1
  have Zs109 : n0 ≤ h109.size := Nat.le_trans Zs102 (Keep.of_wr W109).1
  have N109 := Fr.snoc X109 N108 g1
  have K109 : Keep h0 h109 [a1] := K102.wr W109 (Or.inl (List.mem_of_getElem? (i := 0) rfl))
  obtain ⟨T115, h115, X115, e115, W115, st115⟩ := putF X109 hx hZ102 ho102 (host := "") (Or.inl (hw _ (List.mem_of_getElem? (i := 54) rfl))) Via.refl e109 f112 f111 (Or.inr ⟨(hw _ (List.mem_of_getElem? (i := 55) rfl)), rfl, hnm⟩) (hw _ (List.mem_of_getElem? (i := 33) rfl)) (ty := .int) (by decide) rfl rfl (g := (mkF m 41 #[.val (.ref a1), .val (.ref a2), .val (.int p3), .val (.int p4)] [(.int p3), (.ref a1)])) rfl rfl (hb hby d7_41)
  have f116 : Old Z n0 h115 := f110.wr W115 g1
  have f117 : Exa Z h115 a1 "com/example/lexiform/lexiform/logicalform/Phrase" := Exa.wr W115 f111
  have f118 : Fld Z h115 a1 "com/example/lexiform/lexiform/logicalform/Phrase" "length" "I" (.int (0 : Int32)) := Fld.other W115 f113 (Or.inr (slot_ne (Or.inr (hw _ (List.mem_of_getElem? (i := 57) rfl))) (Or.inr (hw _ (List.mem_of_getElem? (i := 55) rfl))) (by decide) (t := .int) (t' := .int) (by decide) (by decide)))
  have f119 : Fld Z h115 a1 "com/example/lexiform/lexiform/logicalform/Phrase" "role" "Ljava/lang/String;" (.ref a2) := Fld.other W115 f114 (Or.inr (slot_ne (Or.inr (hw _ (List.mem_of_getElem? (i := 53) rfl))) (Or.inr (hw _ (List.mem_of_getElem? (i := 55) rfl))) (by decide) (t := (.object "java/lang/String")) (t' := .int) (by decide) (by decide)))
  have f120 : Fld Z h115 a1 "com/example/lexiform/lexiform/logicalform/Phrase" "offset" "I" (.int p3) := f112.same W115
  have kt115 : k102 ≤ h115.size := Nat.le_trans kt109 (Keep.of_wr W115).1
  have Zs115 : n0 ≤ h115.size := Nat.le_trans Zs109 (Keep.of_wr W115).1
  have N115 := Fr.snoc X115 N109 g1
  have K115 : Keep h0 h115 [a1] := K109.wr W115 (Or.inl (List.mem_of_getElem? (i := 0) rfl))
  obtain ⟨T121, h121, X121, e121, W121, st121⟩ := putF X115 hx hZ102 ho102 (host := "") (Or.inl (hw _ (List.mem_of_getElem? (i := 56) rfl))) Via.refl e115 f118 f117 (Or.inr ⟨(hw _ (List.mem_of_getElem? (i := 57) rfl)), rfl, hnm⟩) (hw _ (List.mem_of_getElem? (i := 33) rfl)) (ty := .int) (by decide) rfl rfl (g := (mkF m 46 #[.val (.ref a1), .val (.ref a2), .val (.int p3), .val (.int p4)] [(.int p4), (.ref a1)])) rfl rfl (hb hby d7_46)
  have f122 : Old Z n0 h121 := f116.wr W121 g1
  have f123 : Exa Z h121 a1 "com/example/lexiform/lexiform/logicalform/Phrase" := Exa.wr W121 f117
  have f124 : Fld Z h121 a1 "com/example/lexiform/lexiform/logicalform/Phrase" "role" "Ljava/lang/String;" (.ref a2) := Fld.other W121 f119 (Or.inr (slot_ne (Or.inr (hw _ (List.mem_of_getElem? (i := 53) rfl))) (Or.inr (hw _ (List.mem_of_getElem? (i := 57) rfl))) (by decide) (t := (.object "java/lang/String")) (t' := .int) (by decide) (by decide)))
  have f125 : Fld Z h121 a1 "com/example/lexiform/lexiform/logicalform/Phrase" "offset" "I" (.int p3) := Fld.other W121 f120 (Or.inr (slot_ne (Or.inr (hw _ (List.mem_of_getElem? (i := 55) rfl))) (Or.inr (hw _ (List.mem_of_getElem? (i := 57) rfl))) (by decide) (t := .int) (t' := .int) (by decide) (by decide)))
  have f126 : Fld Z h121 a1 "com/example/lexiform/lexiform/logicalform/Phrase" "length" "I" (.int p4) := f118.same W121
  have kt121 : k102 ≤ h121.size := Nat.le_trans kt115 (Keep.of_wr W121).1
  have Zs121 : n0 ≤ h121.size := Nat.le_trans Zs115 (Keep.of_wr W121).1
  have N121 := Fr.snoc X121 N115 g1
  have K121 : Keep h0 h121 [a1] := K115.wr W121 (Or.inl (List.mem_of_getElem? (i := 0) rfl))
  obtain ⟨fs, hr, hrun, hended, hRW⟩ := Stand.leaveW (s := s) (vm₁ := T102.vm) X121 S102 (by rw [e121]; exact kt121) (v := none) (fun _ => rfl) hlk
  refine ⟨_, _, pre0 _ ?_, hrun, hended, _, _, rfl, ?_, own_ibT (s := s) (vm0 := T102.vm) (T := T121) X121 I102, own_rmono hRW (by decide) (by decide)⟩
  · show Steps p.tables e below (s₁.setTop (mkF m 0 #[.val (.ref a1), .val (.ref a2), .val (.int p3), .val (.int p4)] [])) _
    refine XS.aloadN X0.here hx rfl (hb hby d7_0) rfl rfl ?_
    show Steps p.tables e below (s₁.setTop (mkF m 1 #[.val (.ref a1), .val (.ref a2), .val (.int p3), .val (.int p4)] [(.ref a1)])) _
    refine st101.trans ?_
    show Steps p.tables e below (T101.setTop (mkF m 4 #[.val (.ref a1), .val (.ref a2), .val (.int p3), .val (.int p4)] [])) _
    refine XS.aloadN X101.here hx rfl (hb hby d7_4) rfl rfl ?_
    show Steps p.tables e below (T101.setTop (mkF m 5 #[.val (.ref a1), .val (.ref a2), .val (.int p3), .val (.int p4)] [(.ref a2)])) _
    refine st102 _ ?_
    show Steps p.tables e below (T102.setTop (mkF m 7 #[.val (.ref a1), .val (.ref a2), .val (.int p3), .val (.int p4)] [(.ref sa102), (.ref a2)])) _
    refine st108 _ ?_
    show Steps p.tables e below (T108.setTop (mkF m 10 #[.val (.ref a1), .val (.ref a2), .val (.int p3), .val (.int p4)] [(.ref a2)])) _
    refine XS.pop X108.here hx rfl (hb hby d7_10) rfl rfl ?_
    show Steps p.tables e below (T108.setTop (mkF m 11 #[.val (.ref a1), .val (.ref a2), .val (.int p3), .val (.int p4)] [])) _
    refine XS.iloadN X108.here hx rfl (hb hby d7_11) rfl ?_
    show Steps p.tables e below (T108.setTop (mkF m 12 #[.val (.ref a1), .val (.ref a2), .val (.int p3), .val (.int p4)] [(.int p3)])) _
    refine XS.ifNo X108.here hx rfl (hb hby d7_12) rfl ((if0 _ _).trans (flt h1).1) ?_
    show Steps p.tables e below (T108.setTop (mkF m 15 #[.val (.ref a1), .val (.ref a2), .val (.int p3), .val (.int p4)] [])) _
    refine XS.iloadN X108.here hx rfl (hb hby d7_15) rfl ?_
    show Steps p.tables e below (T108.setTop (mkF m 16 #[.val (.ref a1), .val (.ref a2), .val (.int p3), .val (.int p4)] [(.int p4)])) _
    refine XS.ifYes X108.here hx rfl (pc0 := 16) (pc' := 34) rfl (hb hby d7_16) rfl ((if0 _ _).trans (flt h2).2.1) (by decide) (by decide) ?_
    show Steps p.tables e below (T108.setTop (mkF m 34 #[.val (.ref a1), .val (.ref a2), .val (.int p3), .val (.int p4)] [])) _
    refine XS.aloadN X108.here hx rfl (hb hby d7_34) rfl rfl ?_
    show Steps p.tables e below (T108.setTop (mkF m 35 #[.val (.ref a1), .val (.ref a2), .val (.int p3), .val (.int p4)] [(.ref a1)])) _
    refine XS.aloadN X108.here hx rfl (hb hby d7_35) rfl rfl ?_
    show Steps p.tables e below (T108.setTop (mkF m 36 #[.val (.ref a1), .val (.ref a2), .val (.int p3), .val (.int p4)] [(.ref a2), (.ref a1)])) _
    refine st109 _ ?_
    show Steps p.tables e below (T109.setTop (mkF m 39 #[.val (.ref a1), .val (.ref a2), .val (.int p3), .val (.int p4)] [])) _
    refine XS.aloadN X109.here hx rfl (hb hby d7_39) rfl rfl ?_
    show Steps p.tables e below (T109.setTop (mkF m 40 #[.val (.ref a1), .val (.ref a2), .val (.int p3), .val (.int p4)] [(.ref a1)])) _
    refine XS.iloadN X109.here hx rfl (hb hby d7_40) rfl ?_
    show Steps p.tables e below (T109.setTop (mkF m 41 #[.val (.ref a1), .val (.ref a2), .val (.int p3), .val (.int p4)] [(.int p3), (.ref a1)])) _
    refine st115 _ ?_
    show Steps p.tables e below (T115.setTop (mkF m 44 #[.val (.ref a1), .val (.ref a2), .val (.int p3), .val (.int p4)] [])) _
    refine XS.aloadN X115.here hx rfl (hb hby d7_44) rfl rfl ?_
    show Steps p.tables e below (T115.setTop (mkF m 45 #[.val (.ref a1), .val (.ref a2), .val (.int p3), .val (.int p4)] [(.ref a1)])) _
    refine XS.iloadN X115.here hx rfl (hb hby d7_45) rfl ?_
    show Steps p.tables e below (T115.setTop (mkF m 46 #[.val (.ref a1), .val (.ref a2), .val (.int p3), .val (.int p4)] [(.int p4), (.ref a1)])) _
    refine st121 _ ?_
    show Steps p.tables e below (T121.setTop (mkF m 49 #[.val (.ref a1), .val (.ref a2), .val (.int p3), .val (.int p4)] [])) _
    exact X121.returnOut hx Bd.returns (hb hby d7_49) hr
  · show Q7 Z a1 a2 p3 p4 Ts h0 n0 _ T121.heap _
    rw [e121]
    exact ⟨rfl, N121, K121, f125, f126⟩
theorem ef_10 (m : MethodId) (x0 : Addr) (x1 : Addr) : entryFrame m #[(.ref x0), (.ref x1)] 2 = mkF m 0 #[.val (.ref x0), .val (.ref x1)] [] := by first | (simp [entryFrame, mkF, argsToLocals, Value.category]; done) | rfl
theorem d10_0 : decode prog_23_method_2_code 0 = .ok (.aload_n 1, 1) := by decide +kernel
theorem d10_1 : decode prog_23_method_2_code 1 = .ok (.aload_n 0, 1) := by decide +kernel
theorem d10_2 : decode prog_23_method_2_code 2 = .ok (.getfield 29, 3) := by decide +kernel
theorem d10_5 : decode prog_23_method_2_code 5 = .ok (.aload_n 0, 1) := by decide +kernel
theorem d10_6 : decode prog_23_method_2_code 6 = .ok (.getfield 29, 3) := by decide +kernel
theorem d10_9 : decode prog_23_method_2_code 9 = .ok (.aload_n 0, 1) := by decide +kernel
theorem d10_10 : decode prog_23_method_2_code 10 = .ok (.getfield 33, 3) := by decide +kernel
theorem d10_13 : decode prog_23_method_2_code 13 = .ok (.iadd, 1) := by decide +kernel
theorem d10_14 : decode prog_23_method_2_code 14 = .ok (.invokevirtual 36, 3) := by decide +kernel
theorem pd_26 : parseMethodDescriptor "(II)Ljava/lang/String;" = some ⟨[.int, .int], some (.object "java/lang/String")⟩ := by decide +kernel
theorem d10_17 : decode prog_23_method_2_code 17 = .ok (.areturn, 1) := by decide +kernel
def Q10 (Z : State) (a1 : Addr) (a2 : Addr) (w : Int32) (off : Int32) (ln : Int32) (bb : Addr) (n : Int32) (f : Nat → Int32) (Ts : List String) (h0 : Heap) (n0 : Nat) (v : Option Value) (h : Heap) (L : List Loc) : Prop := ∃ r : Addr, ∃ b : Addr, v = some (.ref r) ∧ Fr n0 L ∧ (Keep h0 h []) ∧ (OwnS Z h r b ln (own_sh f off))
set_option maxRecDepth 65536 in
set_option maxHeartbeats 40000000 in
theorem rm10 (l : Launch) (Z : State) (a0 : Array Value) (hw : ∀ d ∈ tables_1, d.before a0 Z = true) (ws : List Jvm.Cond) (a1 : Addr) (a2 : Addr) (w : Int32) (off : Int32) (ln : Int32) (bb : Addr) (n : Int32) (f : Nat → Int32) (Ts : List String) (h0 : Heap) (n0 : Nat) (Z0 : n0 ≤ h0.size) (O0 : Old Z n0 h0) (S0 : Sta Z Z.heap "java/lang/String" "COMPACT_STRINGS" "Z" (.int w)) (hw0 : ¬ (w = (0 : Int32))) (SA : Sta Z Z.heap "java/lang/StringUTF16" "$assertionsDisabled" "Z" (.int (1 : Int32))) (SHI : Sta Z Z.heap "java/lang/StringUTF16" "HI_BYTE_SHIFT" "I" (.int (0 : Int32))) (SLO : Sta Z Z.heap "java/lang/StringUTF16" "LO_BYTE_SHIFT" "I" (.int (8 : Int32))) (FM : Fmt Z) (FO : Fld Z h0 a1 "com/example/lexiform/lexiform/logicalform/Phrase" "offset" "I" (.int off)) (FL : Fld Z h0 a1 "com/example/lexiform/lexiform/logicalform/Phrase" "length" "I" (.int ln)) (SS : OwnS Z h0 a2 bb n f) (sm : own_sm n) (rg : own_rg off ln n) (hf : own_ch f) (hcw : Jvm.Lit.compactW.before a0 Z = true) (hnot : "" ∉ Ts) (chl : Jvm.Lit.constHeld Z "java/lang/StringLatin1" 151) (chu : Jvm.Lit.constHeld Z "java/lang/StringUTF16" 295) :
    MetFree l (⟨"com/example/lexiform/lexiform/logicalform/Phrase", "in", "(Ljava/lang/String;)Ljava/lang/String;"⟩ : MethodName) (head1 (Jvm.Cond.code (⟨"com/example/lexiform/lexiform/logicalform/Phrase", "in", "(Ljava/lang/String;)Ljava/lang/String;"⟩ : MethodName) prog_23_method_2_code 2 (some (.object "java/lang/String")) :: ws) ({ frames := 7, cells := 3, slots := 36, locals := 110 } : Room)) (fun a U => a = #[(.ref a1), (.ref a2)] ∧ Z.Warmed39 U.vm ∧ U.heap = h0 ∧ IB Z U.vm Ts) (fun _ _ _ _ _ => True) (fun _ U o U' => ∃ v L, o = .returned v ∧ Q10 Z a1 a2 w off ln bb n f Ts h0 n0 v U'.heap L ∧ IB Z U'.vm ("" :: Ts) ∧ ReturnedEndW U o U' L ({ frames := 7, cells := 3, slots := 36, locals := 110 } : Room).cells ({ frames := 7, cells := 3, slots := 36, locals := 110 } : Room).slots) := by
  refine MetFree.of_bodySF (plainFor_of_name pn_7) hisR ?_
  intro p e s m args below meth c s₁ Bd hml0 hP hK
  obtain ⟨rfl, hZ0, hh, hI0⟩ := hP
  have hx := Bd.exec
  have hby := Bd.bytes
  have hml : c.maxLocals = 2 := hml0
  have hown0 : s.vm.findClass "com/example/lexiform/lexiform/logicalform/Phrase" = some m.cls := findClass_of_methodNamed Bd.named
  have hnm := (name_of_methodNamed Bd.named Bd.method).1
  have hlk : meth.locks = false := by first | exact BodyLoose.notSynchronized Bd | exact Body.notSynchronized Bd
  have X0 : Stand p l e ({ frames := 7, cells := 3, slots := 36, locals := 110 } : Room) s m #[(.ref a1), (.ref a2)] below meth c s₁ [] 0 0 := Stand.of_body Bd
  have e0 : s₁.heap = h0 := by rw [← hh, Bd.state]; rfl
  have N0 := Fr.nil n0
  have pre0 : ∀ t, Steps p.tables e below (s₁.setTop (mkF m 0 #[.val (.ref a1), .val (.ref a2)] [])) t → Steps p.tables e below (s₁.setTop (entryFrame m #[(.ref a1), (.ref a2)] 2)) t := fun t k => castTop (ef_10 m a1 a2) k
  obtain ⟨T101, X101, e101, st101⟩ := getF X0 hx hZ0 hown0 (host := "") (Or.inl (hw _ (List.mem_of_getElem? (i := 54) rfl))) Via.refl e0 FO (g := (mkF m 2 #[.val (.ref a1), .val (.ref a2)] [(.ref a1), (.ref a2)])) rfl rfl (hb hby d10_2)
  obtain ⟨T102, X102, e102, st102⟩ := getF X101 hx hZ0 hown0 (host := "") (Or.inl (hw _ (List.mem_of_getElem? (i := 54) rfl))) Via.refl e101 FO (g := (mkF m 6 #[.val (.ref a1), .val (.ref a2)] [(.ref a1), (.int off), (.ref a2)])) rfl rfl (hb hby d10_6)
  obtain ⟨T103, X103, e103, st103⟩ := getF X102 hx hZ0 hown0 (host := "") (Or.inl (hw _ (List.mem_of_getElem? (i := 56) rfl))) Via.refl e102 FL (g := (mkF m 10 #[.val (.ref a1), .val (.ref a2)] [(.ref a1), (.int off), (.int off), (.ref a2)])) rfl rfl (hb hby d10_10)
  obtain ⟨cq104, kq104, q104a, q104b, q104c⟩ := isOf hZ0 e103 SS.1
  obtain ⟨_, _, ⟨T104, L104, k104, n104⟩, -, X104, hS104, hg104, ⟨Lc104, hQ104, l104, y104, z104, I104⟩, st104⟩ := X103.virtualBackS hx (y := (⟨"java/lang/String", "substring", "(II)Ljava/lang/String;"⟩ : MethodName)) (z := (⟨"java/lang/String", "substring", "(II)Ljava/lang/String;"⟩ : MethodName)) hown0 (mvT hZ0 (hw _ (List.mem_of_getElem? (i := 63) rfl))) (mvT hZ0 (hw _ (List.mem_of_getElem? (i := 64) rfl))) (notFace_of_selects (args := #[]) (mvT hZ0 (hw _ (List.mem_of_getElem? (i := 66) rfl)))) (mvT hZ0 (hw _ (List.mem_of_getElem? (i := 66) rfl))) (mvT hZ0 (hw _ (List.mem_of_getElem? (i := 65) rfl))) (by decide) (own_backI (W := 0) (rm11 l Z a0 hw [] a2 off (off + ln) w bb n f ln Ts h0 n0 Z0 O0 S0 hw0 SA SHI SLO FM SS sm rg rfl hf hcw hnot chl chu) hZ0 hI0 (hw _ (List.mem_of_getElem? (i := 67) rfl)) (hw _ (List.mem_of_getElem? (i := 4) rfl)) (by decide) (by decide)) q104a q104c (g := (mkF m 14 #[.val (.ref a1), .val (.ref a2)] [(.int (off + ln)), (.int off), (.ref a2)])) rfl (by rw [hml]; rfl) (Steps.refl _) (argsL := [(.int off), (.int (off + ln))]) (rest := []) (lenOf pd_26 rfl) rfl (by show 2 * 0 + _ ≤ _; exact Nat.le_of_eq rfl) (hb hby d10_14) (fun _ _ => ⟨rfl, e103, (by decide : 0 + 3 ≤ _), (by decide : 0 + 36 ≤ _)⟩)
  dsimp only [Pt.U, Pt.locs, Pt.cells, Pt.slots] at X104 l104 y104 z104 st104 hQ104 hS104 hg104 I104
  subst l104 y104 z104
  obtain ⟨r_104, b_104, rfl, N104q, P104_0, P104_1⟩ := hQ104
  have N104 := Fr.app N0 N104q
  have Sn104 : s.Since T104.vm T104.heap.size := foldS (s := s) (vm0 := s.vm) (T := T103) ((State.WarmedH.refl s).since 0) (Nat.zero_le _) hS104 hg104
  have hZ104 : Z.Warmed39 T104.vm := State.Warmed39.trans (t := s.setVm s.vm) hZ0 hS104.1
  have ho104 : T104.vm.findClass "com/example/lexiform/lexiform/logicalform/Phrase" = some m.cls := by rw [hS104.1.alike.findClass]; exact hown0
  have f105 : Old Z n0 T104.heap := O0.keep P104_0 all0
  have f106 : Fld Z T104.heap a1 "com/example/lexiform/lexiform/logicalform/Phrase" "offset" "I" (.int off) := FO.keep P104_0 nin0
  have f107 : Fld Z T104.heap a1 "com/example/lexiform/lexiform/logicalform/Phrase" "length" "I" (.int ln) := FL.keep P104_0 nin0
  have f108 : OwnS Z T104.heap a2 bb n f := OwnS.keep SS P104_0 nin0 nin0
  have f109 : Exa Z T104.heap a2 "java/lang/String" := SS.1.keep P104_0
  have Zs104 : n0 ≤ T104.heap.size := Nat.le_trans Z0 P104_0.1
  have K104 : Keep h0 T104.heap [] := (Keep.refl h0 []).trans P104_0 all0
  obtain ⟨fs, hr, hrun, hended, hRW⟩ := Stand.leaveW (s := s) (vm₁ := T104.vm) X104 Sn104 (Nat.le_refl _) (v := some (.ref r_104)) (fun h => by rw [Bd.returns] at h; cases h) hlk
  refine ⟨_, _, pre0 _ ?_, hrun, hended, _, _, rfl, ?_, own_ibT (s := s) (vm0 := T104.vm) (T := T104) X104 I104, own_rmono hRW (by decide) (by decide)⟩
  · show Steps p.tables e below (s₁.setTop (mkF m 0 #[.val (.ref a1), .val (.ref a2)] [])) _
    refine XS.aloadN X0.here hx rfl (hb hby d10_0) rfl rfl ?_
    show Steps p.tables e below (s₁.setTop (mkF m 1 #[.val (.ref a1), .val (.ref a2)] [(.ref a2)])) _
    refine XS.aloadN X0.here hx rfl (hb hby d10_1) rfl rfl ?_
    show Steps p.tables e below (s₁.setTop (mkF m 2 #[.val (.ref a1), .val (.ref a2)] [(.ref a1), (.ref a2)])) _
    refine st101 _ ?_
    show Steps p.tables e below (T101.setTop (mkF m 5 #[.val (.ref a1), .val (.ref a2)] [(.int off), (.ref a2)])) _
    refine XS.aloadN X101.here hx rfl (hb hby d10_5) rfl rfl ?_
    show Steps p.tables e below (T101.setTop (mkF m 6 #[.val (.ref a1), .val (.ref a2)] [(.ref a1), (.int off), (.ref a2)])) _
    refine st102 _ ?_
    show Steps p.tables e below (T102.setTop (mkF m 9 #[.val (.ref a1), .val (.ref a2)] [(.int off), (.int off), (.ref a2)])) _
    refine XS.aloadN X102.here hx rfl (hb hby d10_9) rfl rfl ?_
    show Steps p.tables e below (T102.setTop (mkF m 10 #[.val (.ref a1), .val (.ref a2)] [(.ref a1), (.int off), (.int off), (.ref a2)])) _
    refine st103 _ ?_
    show Steps p.tables e below (T103.setTop (mkF m 13 #[.val (.ref a1), .val (.ref a2)] [(.int ln), (.int off), (.int off), (.ref a2)])) _
    refine XS.iadd X103.here hx rfl (hb hby d10_13) rfl ?_
    show Steps p.tables e below (T103.setTop (mkF m 14 #[.val (.ref a1), .val (.ref a2)] [(.int (off + ln)), (.int off), (.ref a2)])) _
    refine st104.trans ?_
    show Steps p.tables e below (T104.setTop (mkF m 17 #[.val (.ref a1), .val (.ref a2)] [(.ref r_104)])) _
    jvm_step X104.here [X104.here.top, hx, (hb hby d10_17), X104.method', Bd.returns, Value.isRef, FieldType.isReference]
    first | (intro acts; rw [hr _ acts rfl rfl rfl]) | rw [hr _ _ rfl rfl rfl]
    exact Steps.refl _
  · show Q10 Z a1 a2 w off ln bb n f Ts h0 n0 _ T104.heap _
    exact ⟨r_104, b_104, rfl, N104, K104, P104_1⟩
theorem pn_8 : plainName "com/example/lexiform/lexiform/logicalform/PhraseInPinLaw" = true := by first | (simp [plainName, overriddenIn]; done) | decide +kernel
theorem ef_23i0 (m : MethodId) (x0 : Addr) (x1 : Addr) (x2 : Int32) (x3 : Int32) : entryFrame m #[(.ref x0), (.ref x1), (.int x2), (.int x3), (.int (0 : Int32))] 5 = mkF m 0 #[.val (.ref x0), .val (.ref x1), .val (.int x2), .val (.int x3), .val (.int (0 : Int32))] [] := by first | (simp [entryFrame, mkF, argsToLocals, Value.category]; done) | rfl
theorem d23_0 : decode method_3_code 0 = .ok (.iload 4, 2) := by decide +kernel
theorem d23_2 : decode method_3_code 2 = .ok (.iload_n 3, 1) := by decide +kernel
theorem d23_3 : decode method_3_code 3 = .ok (.if_icmp .lt 5, 3) := by decide +kernel
theorem d23_8 : decode method_3_code 8 = .ok (.aload_n 0, 1) := by decide +kernel
theorem d23_9 : decode method_3_code 9 = .ok (.iload 4, 2) := by decide +kernel
theorem d23_11 : decode method_3_code 11 = .ok (.invokevirtual 35, 3) := by decide +kernel
theorem pd_27 : parseMethodDescriptor "(I)C" = some ⟨[.int], some .char⟩ := by decide +kernel
theorem d23_14 : decode method_3_code 14 = .ok (.aload_n 1, 1) := by decide +kernel
theorem d23_15 : decode method_3_code 15 = .ok (.iload_n 2, 1) := by decide +kernel
theorem d23_16 : decode method_3_code 16 = .ok (.iload 4, 2) := by decide +kernel
theorem d23_18 : decode method_3_code 18 = .ok (.iadd, 1) := by decide +kernel
theorem d23_19 : decode method_3_code 19 = .ok (.caload, 1) := by decide +kernel
theorem d23_20 : decode method_3_code 20 = .ok (.if_icmp .ne 7, 3) := by decide +kernel
theorem d23_23 : decode method_3_code 23 = .ok (.iconst 1, 1) := by decide +kernel
theorem d23_24 : decode method_3_code 24 = .ok (.goto 4, 3) := by decide +kernel
theorem d23_28 : decode method_3_code 28 = .ok (.ireturn, 1) := by decide +kernel
theorem d23_6 : decode method_3_code 6 = .ok (.iconst 1, 1) := by decide +kernel
theorem d23_7 : decode method_3_code 7 = .ok (.ireturn, 1) := by decide +kernel
def Q23i0 (Z : State) (a1 : Addr) (a2 : Addr) (p3 : Int32) (p4 : Int32) (w : Int32) (bb : Addr) (n : Int32) (f : Nat → Int32) (h0 : Heap) (n0 : Nat) (v : Option Value) (h : Heap) (L : List Loc) : Prop := v = some (.int (1 : Int32)) ∧ Fr n0 L ∧ (h = h0)
set_option maxRecDepth 65536 in
set_option maxHeartbeats 40000000 in
theorem rm23i0 (l : Launch) (Z : State) (a0 : Array Value) (hw : ∀ d ∈ tables_1, d.before a0 Z = true) (ws : List Jvm.Cond) (a1 : Addr) (a2 : Addr) (p3 : Int32) (p4 : Int32) (w : Int32) (bb : Addr) (n : Int32) (f : Nat → Int32) (h0 : Heap) (n0 : Nat) (Z0 : n0 ≤ h0.size) (O0 : Old Z n0 h0) (S0 : Sta Z Z.heap "java/lang/String" "COMPACT_STRINGS" "Z" (.int w)) (hw0 : ¬ (w = (0 : Int32))) (SA : Sta Z Z.heap "java/lang/StringUTF16" "$assertionsDisabled" "Z" (.int (1 : Int32))) (SHI : Sta Z Z.heap "java/lang/StringUTF16" "HI_BYTE_SHIFT" "I" (.int (0 : Int32))) (SLO : Sta Z Z.heap "java/lang/StringUTF16" "LO_BYTE_SHIFT" "I" (.int (8 : Int32))) (FM : Fmt Z) (SS : OwnS Z h0 a1 bb p4 (own_sh f p3)) (C2 : OwnC Z h0 a2 n f) (sm : own_sm n) (rg : own_rg p3 p4 n) (hf : own_ch f) :
    MetFree l (⟨"com/example/lexiform/lexiform/logicalform/PhraseInPinLaw", "at", "(Ljava/lang/String;[CIII)Z"⟩ : MethodName) (head1 (Jvm.Cond.code (⟨"com/example/lexiform/lexiform/logicalform/PhraseInPinLaw", "at", "(Ljava/lang/String;[CIII)Z"⟩ : MethodName) method_3_code 5 (some .boolean) :: ws) ({ frames := 5, cells := 0, slots := 0, locals := 66 } : Room)) (fun a U => a = #[(.ref a1), (.ref a2), (.int p3), (.int p4), (.int (0 : Int32))] ∧ Z.Warmed39 U.vm ∧ U.heap = h0) (fun _ _ _ _ _ => True) (fun _ U o U' => ∃ v L, o = .returned v ∧ Q23i0 Z a1 a2 p3 p4 w bb n f h0 n0 v U'.heap L ∧ FrameEnd U o U' L ({ frames := 5, cells := 0, slots := 0, locals := 66 } : Room).cells ({ frames := 5, cells := 0, slots := 0, locals := 66 } : Room).slots) := by
  refine MetFree.of_bodySF (plainFor_of_name pn_8) hisR ?_
  intro p e s m args below meth c s₁ Bd hml0 hP hK
  obtain ⟨rfl, hZ0, hh⟩ := hP
  have hx := Bd.exec
  have hby := Bd.bytes
  have hml : c.maxLocals = 5 := hml0
  have hown0 : s.vm.findClass "com/example/lexiform/lexiform/logicalform/PhraseInPinLaw" = some m.cls := findClass_of_methodNamed Bd.named
  have hnm := (name_of_methodNamed Bd.named Bd.method).1
  have hlk : meth.locks = false := by first | exact BodyLoose.notSynchronized Bd | exact Body.notSynchronized Bd
  have X0 : Stand p l e ({ frames := 5, cells := 0, slots := 0, locals := 66 } : Room) s m #[(.ref a1), (.ref a2), (.int p3), (.int p4), (.int (0 : Int32))] below meth c s₁ [] 0 0 := Stand.of_body Bd
  have e0 : s₁.heap = h0 := by rw [← hh, Bd.state]; rfl
  have N0 := Fr.nil n0
  have pre0 : ∀ t, Steps p.tables e below (s₁.setTop (mkF m 0 #[.val (.ref a1), .val (.ref a2), .val (.int p3), .val (.int p4), .val (.int (0 : Int32))] [])) t → Steps p.tables e below (s₁.setTop (entryFrame m #[(.ref a1), (.ref a2), (.int p3), (.int p4), (.int (0 : Int32))] 5)) t := fun t k => castTop (ef_23i0 m a1 a2 p3 p4) k
  have pr101 : ∀ tg9, Steps p.tables e below (s₁.setTop (mkF m 3 #[.val (.ref a1), .val (.ref a2), .val (.int p3), .val (.int p4), .val (.int (0 : Int32))] [(.int p4), (.int (0 : Int32))])) tg9 → Steps p.tables e below (s₁.setTop (mkF m 0 #[.val (.ref a1), .val (.ref a2), .val (.int p3), .val (.int p4), .val (.int (0 : Int32))] [])) tg9 := fun tg9 kt => by
    show Steps p.tables e below (s₁.setTop (mkF m 0 #[.val (.ref a1), .val (.ref a2), .val (.int p3), .val (.int p4), .val (.int (0 : Int32))] [])) _
    refine XS.iload X0.here hx rfl (hb hby d23_0) rfl ?_
    show Steps p.tables e below (s₁.setTop (mkF m 2 #[.val (.ref a1), .val (.ref a2), .val (.int p3), .val (.int p4), .val (.int (0 : Int32))] [(.int (0 : Int32))])) _
    refine XS.iloadN X0.here hx rfl (hb hby d23_2) rfl ?_
    exact kt
  by_cases hc102 : (0 : Int32) < p4
  · obtain ⟨cq103, kq103, q103a, q103b, q103c⟩ := isOf hZ0 e0 SS.1
    obtain ⟨_, _, ⟨T103, L103, k103, n103⟩, -, X103, ⟨Lc103, hQ103, l103, y103, z103⟩, st103⟩ := X0.virtualBack hx (y := (⟨"java/lang/String", "charAt", "(I)C"⟩ : MethodName)) (z := (⟨"java/lang/String", "charAt", "(I)C"⟩ : MethodName)) hown0 (mvT hZ0 (hw _ (List.mem_of_getElem? (i := 122) rfl))) (mvT hZ0 (hw _ (List.mem_of_getElem? (i := 123) rfl))) (notFace_of_selects (args := #[]) (mvT hZ0 (hw _ (List.mem_of_getElem? (i := 125) rfl)))) (mvT hZ0 (hw _ (List.mem_of_getElem? (i := 125) rfl))) (mvT hZ0 (hw _ (List.mem_of_getElem? (i := 124) rfl))) (by decide) (backOf (W := 0) (rm24 l Z a0 hw [] a1 (0 : Int32) w bb p4 (own_sh f p3) h0 n0 Z0 O0 S0 hw0 SA SHI SLO FM SS (⟨by decide, hc102⟩) (own_chs hf)) hZ0 (hw _ (List.mem_of_getElem? (i := 126) rfl)) (hw _ (List.mem_of_getElem? (i := 4) rfl)) (by decide) (by decide)) q103a q103c (g := (mkF m 11 #[.val (.ref a1), .val (.ref a2), .val (.int p3), .val (.int p4), .val (.int (0 : Int32))] [(.int (0 : Int32)), (.ref a1)])) rfl (by rw [hml]; rfl) (Steps.refl _) (argsL := [(.int (0 : Int32))]) (rest := []) (lenOf pd_27 rfl) rfl (by show 2 * 0 + _ ≤ _; exact Nat.le_of_eq rfl) (hb hby d23_11) (fun _ _ => ⟨rfl, e0, (by decide : 0 + 0 ≤ _), (by decide : 0 + 0 ≤ _)⟩)
    dsimp only [Pt.U, Pt.locs, Pt.cells, Pt.slots] at X103 l103 y103 z103 st103 hQ103
    subst l103 y103 z103
    obtain ⟨rfl, N103q, P103_0⟩ := hQ103
    have N103 := Fr.app N0 N103q
    obtain ⟨cl104, Ar104, Sz104, Nn104, Hs104⟩ := (id C2)
    obtain ⟨fs, hr, hrun, hended, hW, hsame⟩ := X103.leave (v := some (.int (1 : Int32))) (fun h => by rw [Bd.returns] at h; cases h) hlk
    refine ⟨_, _, pre0 _ ?_, hrun, hended, _, _, rfl, ?_, ⟨_, rfl⟩, hW, hsame.mono (by decide) (by decide)⟩
    · refine pr101 _ ?_
      show Steps p.tables e below (s₁.setTop (mkF m 3 #[.val (.ref a1), .val (.ref a2), .val (.int p3), .val (.int p4), .val (.int (0 : Int32))] [(.int p4), (.int (0 : Int32))])) _
      refine XS.icmpYes X0.here hx rfl (pc0 := 3) (pc' := 8) rfl (hb hby d23_3) rfl (tlt hc102).1 (by decide) (by decide) ?_
      show Steps p.tables e below (s₁.setTop (mkF m 8 #[.val (.ref a1), .val (.ref a2), .val (.int p3), .val (.int p4), .val (.int (0 : Int32))] [])) _
      refine XS.aloadN X0.here hx rfl (hb hby d23_8) rfl rfl ?_
      show Steps p.tables e below (s₁.setTop (mkF m 9 #[.val (.ref a1), .val (.ref a2), .val (.int p3), .val (.int p4), .val (.int (0 : Int32))] [(.ref a1)])) _
      refine XS.iload X0.here hx rfl (hb hby d23_9) rfl ?_
      show Steps p.tables e below (s₁.setTop (mkF m 11 #[.val (.ref a1), .val (.ref a2), .val (.int p3), .val (.int p4), .val (.int (0 : Int32))] [(.int (0 : Int32)), (.ref a1)])) _
      refine st103.trans ?_
      show Steps p.tables e below (T103.setTop (mkF m 14 #[.val (.ref a1), .val (.ref a2), .val (.int p3), .val (.int p4), .val (.int (0 : Int32))] [(.int ((own_sh f p3) (0 : Int32).toNatClampNeg))])) _
      refine XS.aloadN X103.here hx rfl (hb hby d23_14) rfl rfl ?_
      show Steps p.tables e below (T103.setTop (mkF m 15 #[.val (.ref a1), .val (.ref a2), .val (.int p3), .val (.int p4), .val (.int (0 : Int32))] [(.ref a2), (.int ((own_sh f p3) (0 : Int32).toNatClampNeg))])) _
      refine XS.iloadN X103.here hx rfl (hb hby d23_15) rfl ?_
      show Steps p.tables e below (T103.setTop (mkF m 16 #[.val (.ref a1), .val (.ref a2), .val (.int p3), .val (.int p4), .val (.int (0 : Int32))] [(.int p3), (.ref a2), (.int ((own_sh f p3) (0 : Int32).toNatClampNeg))])) _
      refine XS.iload X103.here hx rfl (hb hby d23_16) rfl ?_
      show Steps p.tables e below (T103.setTop (mkF m 18 #[.val (.ref a1), .val (.ref a2), .val (.int p3), .val (.int p4), .val (.int (0 : Int32))] [(.int (0 : Int32)), (.int p3), (.ref a2), (.int ((own_sh f p3) (0 : Int32).toNatClampNeg))])) _
      refine XS.iadd X103.here hx rfl (hb hby d23_18) rfl ?_
      show Steps p.tables e below (T103.setTop (mkF m 19 #[.val (.ref a1), .val (.ref a2), .val (.int p3), .val (.int p4), .val (.int (0 : Int32))] [(.int (p3 + (0 : Int32))), (.ref a2), (.int ((own_sh f p3) (0 : Int32).toNatClampNeg))])) _
      refine X103.caload hx (j := (p3 + (0 : Int32))) (v := (.int (f (p3 + (0 : Int32)).toNatClampNeg))) (by rw [P103_0]; exact Ar104.1) (State.isArrayOf_alike hZ0.alike Ar104.2.1) Ar104.2.2 (inb_of Sz104 ((own_e3 (P := fun o l n => (0 : Int32) < l → own_ix (o + (0 : Int32)) n) sm rg (by decide +kernel)) hc102)) (Hs104 _ (own_ixlt ((own_e3 (P := fun o l n => (0 : Int32) < l → own_ix (o + (0 : Int32)) n) sm rg (by decide +kernel)) hc102))) (g := (mkF m 19 #[.val (.ref a1), .val (.ref a2), .val (.int p3), .val (.int p4), .val (.int (0 : Int32))] [(.int (p3 + (0 : Int32))), (.ref a2), (.int ((own_sh f p3) (0 : Int32).toNatClampNeg))])) rfl rfl (hb hby d23_19) _ ?_
      show Steps p.tables e below (T103.setTop (mkF m 20 #[.val (.ref a1), .val (.ref a2), .val (.int p3), .val (.int p4), .val (.int (0 : Int32))] [(.int (f (p3 + (0 : Int32)).toNatClampNeg)), (.int ((own_sh f p3) (0 : Int32).toNatClampNeg))])) _
      refine XS.icmpNo X103.here hx rfl (hb hby d23_20) rfl (teq (congrArg f ((own_e3 (P := fun o l n => (0 : Int32) < l → o.toNatClampNeg + ((0 : Int32)).toNatClampNeg = (o + (0 : Int32)).toNatClampNeg) sm rg (by decide +kernel)) hc102) : ((own_sh f p3) (0 : Int32).toNatClampNeg) = (f (p3 + (0 : Int32)).toNatClampNeg))).2 ?_
      show Steps p.tables e below (T103.setTop (mkF m 23 #[.val (.ref a1), .val (.ref a2), .val (.int p3), .val (.int p4), .val (.int (0 : Int32))] [])) _
      refine XS.iconst X103.here hx rfl (hb hby d23_23) ?_
      show Steps p.tables e below (T103.setTop (mkF m 24 #[.val (.ref a1), .val (.ref a2), .val (.int p3), .val (.int p4), .val (.int (0 : Int32))] [(.int (1 : Int32))])) _
      refine XS.goto X103.here hx rfl (pc0 := 24) (pc' := 28) rfl (hb hby d23_24) (by decide) (by decide) ?_
      show Steps p.tables e below (T103.setTop (mkF m 28 #[.val (.ref a1), .val (.ref a2), .val (.int p3), .val (.int p4), .val (.int (0 : Int32))] [(.int (1 : Int32))])) _
      exact retN X103 hx (t := .boolean) Bd.returns (by simp) (hb hby d23_28) hr
    · show Q23i0 Z a1 a2 p3 p4 w bb n f h0 n0 _ T103.heap _
      rw [P103_0]
      exact ⟨rfl, N103, rfl⟩
  · obtain ⟨fs, hr, hrun, hended, hW, hsame⟩ := X0.leave (v := some (.int (1 : Int32))) (fun h => by rw [Bd.returns] at h; cases h) hlk
    refine ⟨_, _, pre0 _ ?_, hrun, hended, _, _, rfl, ?_, ⟨_, rfl⟩, hW, hsame.mono (by decide) (by decide)⟩
    · refine pr101 _ ?_
      show Steps p.tables e below (s₁.setTop (mkF m 3 #[.val (.ref a1), .val (.ref a2), .val (.int p3), .val (.int p4), .val (.int (0 : Int32))] [(.int p4), (.int (0 : Int32))])) _
      refine XS.icmpNo X0.here hx rfl (hb hby d23_3) rfl (flt hc102).1 ?_
      show Steps p.tables e below (s₁.setTop (mkF m 6 #[.val (.ref a1), .val (.ref a2), .val (.int p3), .val (.int p4), .val (.int (0 : Int32))] [])) _
      refine XS.iconst X0.here hx rfl (hb hby d23_6) ?_
      show Steps p.tables e below (s₁.setTop (mkF m 7 #[.val (.ref a1), .val (.ref a2), .val (.int p3), .val (.int p4), .val (.int (0 : Int32))] [(.int (1 : Int32))])) _
      exact retN X0 hx (t := .boolean) Bd.returns (by simp) (hb hby d23_7) hr
    · show Q23i0 Z a1 a2 p3 p4 w bb n f h0 n0 _ s₁.heap _
      rw [e0]
      exact ⟨rfl, N0, rfl⟩
theorem ef_23i1 (m : MethodId) (x0 : Addr) (x1 : Addr) (x2 : Int32) (x3 : Int32) : entryFrame m #[(.ref x0), (.ref x1), (.int x2), (.int x3), (.int (1 : Int32))] 5 = mkF m 0 #[.val (.ref x0), .val (.ref x1), .val (.int x2), .val (.int x3), .val (.int (1 : Int32))] [] := by first | (simp [entryFrame, mkF, argsToLocals, Value.category]; done) | rfl
def Q23i1 (Z : State) (a1 : Addr) (a2 : Addr) (p3 : Int32) (p4 : Int32) (w : Int32) (bb : Addr) (n : Int32) (f : Nat → Int32) (h0 : Heap) (n0 : Nat) (v : Option Value) (h : Heap) (L : List Loc) : Prop := v = some (.int (1 : Int32)) ∧ Fr n0 L ∧ (h = h0)
set_option maxRecDepth 65536 in
set_option maxHeartbeats 40000000 in
theorem rm23i1 (l : Launch) (Z : State) (a0 : Array Value) (hw : ∀ d ∈ tables_1, d.before a0 Z = true) (ws : List Jvm.Cond) (a1 : Addr) (a2 : Addr) (p3 : Int32) (p4 : Int32) (w : Int32) (bb : Addr) (n : Int32) (f : Nat → Int32) (h0 : Heap) (n0 : Nat) (Z0 : n0 ≤ h0.size) (O0 : Old Z n0 h0) (S0 : Sta Z Z.heap "java/lang/String" "COMPACT_STRINGS" "Z" (.int w)) (hw0 : ¬ (w = (0 : Int32))) (SA : Sta Z Z.heap "java/lang/StringUTF16" "$assertionsDisabled" "Z" (.int (1 : Int32))) (SHI : Sta Z Z.heap "java/lang/StringUTF16" "HI_BYTE_SHIFT" "I" (.int (0 : Int32))) (SLO : Sta Z Z.heap "java/lang/StringUTF16" "LO_BYTE_SHIFT" "I" (.int (8 : Int32))) (FM : Fmt Z) (SS : OwnS Z h0 a1 bb p4 (own_sh f p3)) (C2 : OwnC Z h0 a2 n f) (sm : own_sm n) (rg : own_rg p3 p4 n) (hf : own_ch f) :
    MetFree l (⟨"com/example/lexiform/lexiform/logicalform/PhraseInPinLaw", "at", "(Ljava/lang/String;[CIII)Z"⟩ : MethodName) (head1 (Jvm.Cond.code (⟨"com/example/lexiform/lexiform/logicalform/PhraseInPinLaw", "at", "(Ljava/lang/String;[CIII)Z"⟩ : MethodName) method_3_code 5 (some .boolean) :: ws) ({ frames := 5, cells := 0, slots := 0, locals := 66 } : Room)) (fun a U => a = #[(.ref a1), (.ref a2), (.int p3), (.int p4), (.int (1 : Int32))] ∧ Z.Warmed39 U.vm ∧ U.heap = h0) (fun _ _ _ _ _ => True) (fun _ U o U' => ∃ v L, o = .returned v ∧ Q23i1 Z a1 a2 p3 p4 w bb n f h0 n0 v U'.heap L ∧ FrameEnd U o U' L ({ frames := 5, cells := 0, slots := 0, locals := 66 } : Room).cells ({ frames := 5, cells := 0, slots := 0, locals := 66 } : Room).slots) := by
  refine MetFree.of_bodySF (plainFor_of_name pn_8) hisR ?_
  intro p e s m args below meth c s₁ Bd hml0 hP hK
  obtain ⟨rfl, hZ0, hh⟩ := hP
  have hx := Bd.exec
  have hby := Bd.bytes
  have hml : c.maxLocals = 5 := hml0
  have hown0 : s.vm.findClass "com/example/lexiform/lexiform/logicalform/PhraseInPinLaw" = some m.cls := findClass_of_methodNamed Bd.named
  have hnm := (name_of_methodNamed Bd.named Bd.method).1
  have hlk : meth.locks = false := by first | exact BodyLoose.notSynchronized Bd | exact Body.notSynchronized Bd
  have X0 : Stand p l e ({ frames := 5, cells := 0, slots := 0, locals := 66 } : Room) s m #[(.ref a1), (.ref a2), (.int p3), (.int p4), (.int (1 : Int32))] below meth c s₁ [] 0 0 := Stand.of_body Bd
  have e0 : s₁.heap = h0 := by rw [← hh, Bd.state]; rfl
  have N0 := Fr.nil n0
  have pre0 : ∀ t, Steps p.tables e below (s₁.setTop (mkF m 0 #[.val (.ref a1), .val (.ref a2), .val (.int p3), .val (.int p4), .val (.int (1 : Int32))] [])) t → Steps p.tables e below (s₁.setTop (entryFrame m #[(.ref a1), (.ref a2), (.int p3), (.int p4), (.int (1 : Int32))] 5)) t := fun t k => castTop (ef_23i1 m a1 a2 p3 p4) k
  have pr101 : ∀ tg9, Steps p.tables e below (s₁.setTop (mkF m 3 #[.val (.ref a1), .val (.ref a2), .val (.int p3), .val (.int p4), .val (.int (1 : Int32))] [(.int p4), (.int (1 : Int32))])) tg9 → Steps p.tables e below (s₁.setTop (mkF m 0 #[.val (.ref a1), .val (.ref a2), .val (.int p3), .val (.int p4), .val (.int (1 : Int32))] [])) tg9 := fun tg9 kt => by
    show Steps p.tables e below (s₁.setTop (mkF m 0 #[.val (.ref a1), .val (.ref a2), .val (.int p3), .val (.int p4), .val (.int (1 : Int32))] [])) _
    refine XS.iload X0.here hx rfl (hb hby d23_0) rfl ?_
    show Steps p.tables e below (s₁.setTop (mkF m 2 #[.val (.ref a1), .val (.ref a2), .val (.int p3), .val (.int p4), .val (.int (1 : Int32))] [(.int (1 : Int32))])) _
    refine XS.iloadN X0.here hx rfl (hb hby d23_2) rfl ?_
    exact kt
  by_cases hc102 : (1 : Int32) < p4
  · obtain ⟨cq103, kq103, q103a, q103b, q103c⟩ := isOf hZ0 e0 SS.1
    obtain ⟨_, _, ⟨T103, L103, k103, n103⟩, -, X103, ⟨Lc103, hQ103, l103, y103, z103⟩, st103⟩ := X0.virtualBack hx (y := (⟨"java/lang/String", "charAt", "(I)C"⟩ : MethodName)) (z := (⟨"java/lang/String", "charAt", "(I)C"⟩ : MethodName)) hown0 (mvT hZ0 (hw _ (List.mem_of_getElem? (i := 122) rfl))) (mvT hZ0 (hw _ (List.mem_of_getElem? (i := 123) rfl))) (notFace_of_selects (args := #[]) (mvT hZ0 (hw _ (List.mem_of_getElem? (i := 125) rfl)))) (mvT hZ0 (hw _ (List.mem_of_getElem? (i := 125) rfl))) (mvT hZ0 (hw _ (List.mem_of_getElem? (i := 124) rfl))) (by decide) (backOf (W := 0) (rm24 l Z a0 hw [] a1 (1 : Int32) w bb p4 (own_sh f p3) h0 n0 Z0 O0 S0 hw0 SA SHI SLO FM SS (⟨by decide, hc102⟩) (own_chs hf)) hZ0 (hw _ (List.mem_of_getElem? (i := 126) rfl)) (hw _ (List.mem_of_getElem? (i := 4) rfl)) (by decide) (by decide)) q103a q103c (g := (mkF m 11 #[.val (.ref a1), .val (.ref a2), .val (.int p3), .val (.int p4), .val (.int (1 : Int32))] [(.int (1 : Int32)), (.ref a1)])) rfl (by rw [hml]; rfl) (Steps.refl _) (argsL := [(.int (1 : Int32))]) (rest := []) (lenOf pd_27 rfl) rfl (by show 2 * 0 + _ ≤ _; exact Nat.le_of_eq rfl) (hb hby d23_11) (fun _ _ => ⟨rfl, e0, (by decide : 0 + 0 ≤ _), (by decide : 0 + 0 ≤ _)⟩)
    dsimp only [Pt.U, Pt.locs, Pt.cells, Pt.slots] at X103 l103 y103 z103 st103 hQ103
    subst l103 y103 z103
    obtain ⟨rfl, N103q, P103_0⟩ := hQ103
    have N103 := Fr.app N0 N103q
    obtain ⟨cl104, Ar104, Sz104, Nn104, Hs104⟩ := (id C2)
    obtain ⟨fs, hr, hrun, hended, hW, hsame⟩ := X103.leave (v := some (.int (1 : Int32))) (fun h => by rw [Bd.returns] at h; cases h) hlk
    refine ⟨_, _, pre0 _ ?_, hrun, hended, _, _, rfl, ?_, ⟨_, rfl⟩, hW, hsame.mono (by decide) (by decide)⟩
    · refine pr101 _ ?_
      show Steps p.tables e below (s₁.setTop (mkF m 3 #[.val (.ref a1), .val (.ref a2), .val (.int p3), .val (.int p4), .val (.int (1 : Int32))] [(.int p4), (.int (1 : Int32))])) _
      refine XS.icmpYes X0.here hx rfl (pc0 := 3) (pc' := 8) rfl (hb hby d23_3) rfl (tlt hc102).1 (by decide) (by decide) ?_
      show Steps p.tables e below (s₁.setTop (mkF m 8 #[.val (.ref a1), .val (.ref a2), .val (.int p3), .val (.int p4), .val (.int (1 : Int32))] [])) _
      refine XS.aloadN X0.here hx rfl (hb hby d23_8) rfl rfl ?_
      show Steps p.tables e below (s₁.setTop (mkF m 9 #[.val (.ref a1), .val (.ref a2), .val (.int p3), .val (.int p4), .val (.int (1 : Int32))] [(.ref a1)])) _
      refine XS.iload X0.here hx rfl (hb hby d23_9) rfl ?_
      show Steps p.tables e below (s₁.setTop (mkF m 11 #[.val (.ref a1), .val (.ref a2), .val (.int p3), .val (.int p4), .val (.int (1 : Int32))] [(.int (1 : Int32)), (.ref a1)])) _
      refine st103.trans ?_
      show Steps p.tables e below (T103.setTop (mkF m 14 #[.val (.ref a1), .val (.ref a2), .val (.int p3), .val (.int p4), .val (.int (1 : Int32))] [(.int ((own_sh f p3) (1 : Int32).toNatClampNeg))])) _
      refine XS.aloadN X103.here hx rfl (hb hby d23_14) rfl rfl ?_
      show Steps p.tables e below (T103.setTop (mkF m 15 #[.val (.ref a1), .val (.ref a2), .val (.int p3), .val (.int p4), .val (.int (1 : Int32))] [(.ref a2), (.int ((own_sh f p3) (1 : Int32).toNatClampNeg))])) _
      refine XS.iloadN X103.here hx rfl (hb hby d23_15) rfl ?_
      show Steps p.tables e below (T103.setTop (mkF m 16 #[.val (.ref a1), .val (.ref a2), .val (.int p3), .val (.int p4), .val (.int (1 : Int32))] [(.int p3), (.ref a2), (.int ((own_sh f p3) (1 : Int32).toNatClampNeg))])) _
      refine XS.iload X103.here hx rfl (hb hby d23_16) rfl ?_
      show Steps p.tables e below (T103.setTop (mkF m 18 #[.val (.ref a1), .val (.ref a2), .val (.int p3), .val (.int p4), .val (.int (1 : Int32))] [(.int (1 : Int32)), (.int p3), (.ref a2), (.int ((own_sh f p3) (1 : Int32).toNatClampNeg))])) _
      refine XS.iadd X103.here hx rfl (hb hby d23_18) rfl ?_
      show Steps p.tables e below (T103.setTop (mkF m 19 #[.val (.ref a1), .val (.ref a2), .val (.int p3), .val (.int p4), .val (.int (1 : Int32))] [(.int (p3 + (1 : Int32))), (.ref a2), (.int ((own_sh f p3) (1 : Int32).toNatClampNeg))])) _
      refine X103.caload hx (j := (p3 + (1 : Int32))) (v := (.int (f (p3 + (1 : Int32)).toNatClampNeg))) (by rw [P103_0]; exact Ar104.1) (State.isArrayOf_alike hZ0.alike Ar104.2.1) Ar104.2.2 (inb_of Sz104 ((own_e3 (P := fun o l n => (1 : Int32) < l → own_ix (o + (1 : Int32)) n) sm rg (by decide +kernel)) hc102)) (Hs104 _ (own_ixlt ((own_e3 (P := fun o l n => (1 : Int32) < l → own_ix (o + (1 : Int32)) n) sm rg (by decide +kernel)) hc102))) (g := (mkF m 19 #[.val (.ref a1), .val (.ref a2), .val (.int p3), .val (.int p4), .val (.int (1 : Int32))] [(.int (p3 + (1 : Int32))), (.ref a2), (.int ((own_sh f p3) (1 : Int32).toNatClampNeg))])) rfl rfl (hb hby d23_19) _ ?_
      show Steps p.tables e below (T103.setTop (mkF m 20 #[.val (.ref a1), .val (.ref a2), .val (.int p3), .val (.int p4), .val (.int (1 : Int32))] [(.int (f (p3 + (1 : Int32)).toNatClampNeg)), (.int ((own_sh f p3) (1 : Int32).toNatClampNeg))])) _
      refine XS.icmpNo X103.here hx rfl (hb hby d23_20) rfl (teq (congrArg f ((own_e3 (P := fun o l n => (1 : Int32) < l → o.toNatClampNeg + ((1 : Int32)).toNatClampNeg = (o + (1 : Int32)).toNatClampNeg) sm rg (by decide +kernel)) hc102) : ((own_sh f p3) (1 : Int32).toNatClampNeg) = (f (p3 + (1 : Int32)).toNatClampNeg))).2 ?_
      show Steps p.tables e below (T103.setTop (mkF m 23 #[.val (.ref a1), .val (.ref a2), .val (.int p3), .val (.int p4), .val (.int (1 : Int32))] [])) _
      refine XS.iconst X103.here hx rfl (hb hby d23_23) ?_
      show Steps p.tables e below (T103.setTop (mkF m 24 #[.val (.ref a1), .val (.ref a2), .val (.int p3), .val (.int p4), .val (.int (1 : Int32))] [(.int (1 : Int32))])) _
      refine XS.goto X103.here hx rfl (pc0 := 24) (pc' := 28) rfl (hb hby d23_24) (by decide) (by decide) ?_
      show Steps p.tables e below (T103.setTop (mkF m 28 #[.val (.ref a1), .val (.ref a2), .val (.int p3), .val (.int p4), .val (.int (1 : Int32))] [(.int (1 : Int32))])) _
      exact retN X103 hx (t := .boolean) Bd.returns (by simp) (hb hby d23_28) hr
    · show Q23i1 Z a1 a2 p3 p4 w bb n f h0 n0 _ T103.heap _
      rw [P103_0]
      exact ⟨rfl, N103, rfl⟩
  · obtain ⟨fs, hr, hrun, hended, hW, hsame⟩ := X0.leave (v := some (.int (1 : Int32))) (fun h => by rw [Bd.returns] at h; cases h) hlk
    refine ⟨_, _, pre0 _ ?_, hrun, hended, _, _, rfl, ?_, ⟨_, rfl⟩, hW, hsame.mono (by decide) (by decide)⟩
    · refine pr101 _ ?_
      show Steps p.tables e below (s₁.setTop (mkF m 3 #[.val (.ref a1), .val (.ref a2), .val (.int p3), .val (.int p4), .val (.int (1 : Int32))] [(.int p4), (.int (1 : Int32))])) _
      refine XS.icmpNo X0.here hx rfl (hb hby d23_3) rfl (flt hc102).1 ?_
      show Steps p.tables e below (s₁.setTop (mkF m 6 #[.val (.ref a1), .val (.ref a2), .val (.int p3), .val (.int p4), .val (.int (1 : Int32))] [])) _
      refine XS.iconst X0.here hx rfl (hb hby d23_6) ?_
      show Steps p.tables e below (s₁.setTop (mkF m 7 #[.val (.ref a1), .val (.ref a2), .val (.int p3), .val (.int p4), .val (.int (1 : Int32))] [(.int (1 : Int32))])) _
      exact retN X0 hx (t := .boolean) Bd.returns (by simp) (hb hby d23_7) hr
    · show Q23i1 Z a1 a2 p3 p4 w bb n f h0 n0 _ s₁.heap _
      rw [e0]
      exact ⟨rfl, N0, rfl⟩
theorem ef_23i2 (m : MethodId) (x0 : Addr) (x1 : Addr) (x2 : Int32) (x3 : Int32) : entryFrame m #[(.ref x0), (.ref x1), (.int x2), (.int x3), (.int (2 : Int32))] 5 = mkF m 0 #[.val (.ref x0), .val (.ref x1), .val (.int x2), .val (.int x3), .val (.int (2 : Int32))] [] := by first | (simp [entryFrame, mkF, argsToLocals, Value.category]; done) | rfl
def Q23i2 (Z : State) (a1 : Addr) (a2 : Addr) (p3 : Int32) (p4 : Int32) (w : Int32) (bb : Addr) (n : Int32) (f : Nat → Int32) (h0 : Heap) (n0 : Nat) (v : Option Value) (h : Heap) (L : List Loc) : Prop := v = some (.int (1 : Int32)) ∧ Fr n0 L ∧ (h = h0)
set_option maxRecDepth 65536 in
set_option maxHeartbeats 40000000 in
theorem rm23i2 (l : Launch) (Z : State) (a0 : Array Value) (hw : ∀ d ∈ tables_1, d.before a0 Z = true) (ws : List Jvm.Cond) (a1 : Addr) (a2 : Addr) (p3 : Int32) (p4 : Int32) (w : Int32) (bb : Addr) (n : Int32) (f : Nat → Int32) (h0 : Heap) (n0 : Nat) (Z0 : n0 ≤ h0.size) (O0 : Old Z n0 h0) (S0 : Sta Z Z.heap "java/lang/String" "COMPACT_STRINGS" "Z" (.int w)) (hw0 : ¬ (w = (0 : Int32))) (SA : Sta Z Z.heap "java/lang/StringUTF16" "$assertionsDisabled" "Z" (.int (1 : Int32))) (SHI : Sta Z Z.heap "java/lang/StringUTF16" "HI_BYTE_SHIFT" "I" (.int (0 : Int32))) (SLO : Sta Z Z.heap "java/lang/StringUTF16" "LO_BYTE_SHIFT" "I" (.int (8 : Int32))) (FM : Fmt Z) (SS : OwnS Z h0 a1 bb p4 (own_sh f p3)) (C2 : OwnC Z h0 a2 n f) (sm : own_sm n) (rg : own_rg p3 p4 n) (hf : own_ch f) :
    MetFree l (⟨"com/example/lexiform/lexiform/logicalform/PhraseInPinLaw", "at", "(Ljava/lang/String;[CIII)Z"⟩ : MethodName) (head1 (Jvm.Cond.code (⟨"com/example/lexiform/lexiform/logicalform/PhraseInPinLaw", "at", "(Ljava/lang/String;[CIII)Z"⟩ : MethodName) method_3_code 5 (some .boolean) :: ws) ({ frames := 5, cells := 0, slots := 0, locals := 66 } : Room)) (fun a U => a = #[(.ref a1), (.ref a2), (.int p3), (.int p4), (.int (2 : Int32))] ∧ Z.Warmed39 U.vm ∧ U.heap = h0) (fun _ _ _ _ _ => True) (fun _ U o U' => ∃ v L, o = .returned v ∧ Q23i2 Z a1 a2 p3 p4 w bb n f h0 n0 v U'.heap L ∧ FrameEnd U o U' L ({ frames := 5, cells := 0, slots := 0, locals := 66 } : Room).cells ({ frames := 5, cells := 0, slots := 0, locals := 66 } : Room).slots) := by
  refine MetFree.of_bodySF (plainFor_of_name pn_8) hisR ?_
  intro p e s m args below meth c s₁ Bd hml0 hP hK
  obtain ⟨rfl, hZ0, hh⟩ := hP
  have hx := Bd.exec
  have hby := Bd.bytes
  have hml : c.maxLocals = 5 := hml0
  have hown0 : s.vm.findClass "com/example/lexiform/lexiform/logicalform/PhraseInPinLaw" = some m.cls := findClass_of_methodNamed Bd.named
  have hnm := (name_of_methodNamed Bd.named Bd.method).1
  have hlk : meth.locks = false := by first | exact BodyLoose.notSynchronized Bd | exact Body.notSynchronized Bd
  have X0 : Stand p l e ({ frames := 5, cells := 0, slots := 0, locals := 66 } : Room) s m #[(.ref a1), (.ref a2), (.int p3), (.int p4), (.int (2 : Int32))] below meth c s₁ [] 0 0 := Stand.of_body Bd
  have e0 : s₁.heap = h0 := by rw [← hh, Bd.state]; rfl
  have N0 := Fr.nil n0
  have pre0 : ∀ t, Steps p.tables e below (s₁.setTop (mkF m 0 #[.val (.ref a1), .val (.ref a2), .val (.int p3), .val (.int p4), .val (.int (2 : Int32))] [])) t → Steps p.tables e below (s₁.setTop (entryFrame m #[(.ref a1), (.ref a2), (.int p3), (.int p4), (.int (2 : Int32))] 5)) t := fun t k => castTop (ef_23i2 m a1 a2 p3 p4) k
  have pr101 : ∀ tg9, Steps p.tables e below (s₁.setTop (mkF m 3 #[.val (.ref a1), .val (.ref a2), .val (.int p3), .val (.int p4), .val (.int (2 : Int32))] [(.int p4), (.int (2 : Int32))])) tg9 → Steps p.tables e below (s₁.setTop (mkF m 0 #[.val (.ref a1), .val (.ref a2), .val (.int p3), .val (.int p4), .val (.int (2 : Int32))] [])) tg9 := fun tg9 kt => by
    show Steps p.tables e below (s₁.setTop (mkF m 0 #[.val (.ref a1), .val (.ref a2), .val (.int p3), .val (.int p4), .val (.int (2 : Int32))] [])) _
    refine XS.iload X0.here hx rfl (hb hby d23_0) rfl ?_
    show Steps p.tables e below (s₁.setTop (mkF m 2 #[.val (.ref a1), .val (.ref a2), .val (.int p3), .val (.int p4), .val (.int (2 : Int32))] [(.int (2 : Int32))])) _
    refine XS.iloadN X0.here hx rfl (hb hby d23_2) rfl ?_
    exact kt
  by_cases hc102 : (2 : Int32) < p4
  · obtain ⟨cq103, kq103, q103a, q103b, q103c⟩ := isOf hZ0 e0 SS.1
    obtain ⟨_, _, ⟨T103, L103, k103, n103⟩, -, X103, ⟨Lc103, hQ103, l103, y103, z103⟩, st103⟩ := X0.virtualBack hx (y := (⟨"java/lang/String", "charAt", "(I)C"⟩ : MethodName)) (z := (⟨"java/lang/String", "charAt", "(I)C"⟩ : MethodName)) hown0 (mvT hZ0 (hw _ (List.mem_of_getElem? (i := 122) rfl))) (mvT hZ0 (hw _ (List.mem_of_getElem? (i := 123) rfl))) (notFace_of_selects (args := #[]) (mvT hZ0 (hw _ (List.mem_of_getElem? (i := 125) rfl)))) (mvT hZ0 (hw _ (List.mem_of_getElem? (i := 125) rfl))) (mvT hZ0 (hw _ (List.mem_of_getElem? (i := 124) rfl))) (by decide) (backOf (W := 0) (rm24 l Z a0 hw [] a1 (2 : Int32) w bb p4 (own_sh f p3) h0 n0 Z0 O0 S0 hw0 SA SHI SLO FM SS (⟨by decide, hc102⟩) (own_chs hf)) hZ0 (hw _ (List.mem_of_getElem? (i := 126) rfl)) (hw _ (List.mem_of_getElem? (i := 4) rfl)) (by decide) (by decide)) q103a q103c (g := (mkF m 11 #[.val (.ref a1), .val (.ref a2), .val (.int p3), .val (.int p4), .val (.int (2 : Int32))] [(.int (2 : Int32)), (.ref a1)])) rfl (by rw [hml]; rfl) (Steps.refl _) (argsL := [(.int (2 : Int32))]) (rest := []) (lenOf pd_27 rfl) rfl (by show 2 * 0 + _ ≤ _; exact Nat.le_of_eq rfl) (hb hby d23_11) (fun _ _ => ⟨rfl, e0, (by decide : 0 + 0 ≤ _), (by decide : 0 + 0 ≤ _)⟩)
    dsimp only [Pt.U, Pt.locs, Pt.cells, Pt.slots] at X103 l103 y103 z103 st103 hQ103
    subst l103 y103 z103
    obtain ⟨rfl, N103q, P103_0⟩ := hQ103
    have N103 := Fr.app N0 N103q
    obtain ⟨cl104, Ar104, Sz104, Nn104, Hs104⟩ := (id C2)
    obtain ⟨fs, hr, hrun, hended, hW, hsame⟩ := X103.leave (v := some (.int (1 : Int32))) (fun h => by rw [Bd.returns] at h; cases h) hlk
    refine ⟨_, _, pre0 _ ?_, hrun, hended, _, _, rfl, ?_, ⟨_, rfl⟩, hW, hsame.mono (by decide) (by decide)⟩
    · refine pr101 _ ?_
      show Steps p.tables e below (s₁.setTop (mkF m 3 #[.val (.ref a1), .val (.ref a2), .val (.int p3), .val (.int p4), .val (.int (2 : Int32))] [(.int p4), (.int (2 : Int32))])) _
      refine XS.icmpYes X0.here hx rfl (pc0 := 3) (pc' := 8) rfl (hb hby d23_3) rfl (tlt hc102).1 (by decide) (by decide) ?_
      show Steps p.tables e below (s₁.setTop (mkF m 8 #[.val (.ref a1), .val (.ref a2), .val (.int p3), .val (.int p4), .val (.int (2 : Int32))] [])) _
      refine XS.aloadN X0.here hx rfl (hb hby d23_8) rfl rfl ?_
      show Steps p.tables e below (s₁.setTop (mkF m 9 #[.val (.ref a1), .val (.ref a2), .val (.int p3), .val (.int p4), .val (.int (2 : Int32))] [(.ref a1)])) _
      refine XS.iload X0.here hx rfl (hb hby d23_9) rfl ?_
      show Steps p.tables e below (s₁.setTop (mkF m 11 #[.val (.ref a1), .val (.ref a2), .val (.int p3), .val (.int p4), .val (.int (2 : Int32))] [(.int (2 : Int32)), (.ref a1)])) _
      refine st103.trans ?_
      show Steps p.tables e below (T103.setTop (mkF m 14 #[.val (.ref a1), .val (.ref a2), .val (.int p3), .val (.int p4), .val (.int (2 : Int32))] [(.int ((own_sh f p3) (2 : Int32).toNatClampNeg))])) _
      refine XS.aloadN X103.here hx rfl (hb hby d23_14) rfl rfl ?_
      show Steps p.tables e below (T103.setTop (mkF m 15 #[.val (.ref a1), .val (.ref a2), .val (.int p3), .val (.int p4), .val (.int (2 : Int32))] [(.ref a2), (.int ((own_sh f p3) (2 : Int32).toNatClampNeg))])) _
      refine XS.iloadN X103.here hx rfl (hb hby d23_15) rfl ?_
      show Steps p.tables e below (T103.setTop (mkF m 16 #[.val (.ref a1), .val (.ref a2), .val (.int p3), .val (.int p4), .val (.int (2 : Int32))] [(.int p3), (.ref a2), (.int ((own_sh f p3) (2 : Int32).toNatClampNeg))])) _
      refine XS.iload X103.here hx rfl (hb hby d23_16) rfl ?_
      show Steps p.tables e below (T103.setTop (mkF m 18 #[.val (.ref a1), .val (.ref a2), .val (.int p3), .val (.int p4), .val (.int (2 : Int32))] [(.int (2 : Int32)), (.int p3), (.ref a2), (.int ((own_sh f p3) (2 : Int32).toNatClampNeg))])) _
      refine XS.iadd X103.here hx rfl (hb hby d23_18) rfl ?_
      show Steps p.tables e below (T103.setTop (mkF m 19 #[.val (.ref a1), .val (.ref a2), .val (.int p3), .val (.int p4), .val (.int (2 : Int32))] [(.int (p3 + (2 : Int32))), (.ref a2), (.int ((own_sh f p3) (2 : Int32).toNatClampNeg))])) _
      refine X103.caload hx (j := (p3 + (2 : Int32))) (v := (.int (f (p3 + (2 : Int32)).toNatClampNeg))) (by rw [P103_0]; exact Ar104.1) (State.isArrayOf_alike hZ0.alike Ar104.2.1) Ar104.2.2 (inb_of Sz104 ((own_e3 (P := fun o l n => (2 : Int32) < l → own_ix (o + (2 : Int32)) n) sm rg (by decide +kernel)) hc102)) (Hs104 _ (own_ixlt ((own_e3 (P := fun o l n => (2 : Int32) < l → own_ix (o + (2 : Int32)) n) sm rg (by decide +kernel)) hc102))) (g := (mkF m 19 #[.val (.ref a1), .val (.ref a2), .val (.int p3), .val (.int p4), .val (.int (2 : Int32))] [(.int (p3 + (2 : Int32))), (.ref a2), (.int ((own_sh f p3) (2 : Int32).toNatClampNeg))])) rfl rfl (hb hby d23_19) _ ?_
      show Steps p.tables e below (T103.setTop (mkF m 20 #[.val (.ref a1), .val (.ref a2), .val (.int p3), .val (.int p4), .val (.int (2 : Int32))] [(.int (f (p3 + (2 : Int32)).toNatClampNeg)), (.int ((own_sh f p3) (2 : Int32).toNatClampNeg))])) _
      refine XS.icmpNo X103.here hx rfl (hb hby d23_20) rfl (teq (congrArg f ((own_e3 (P := fun o l n => (2 : Int32) < l → o.toNatClampNeg + ((2 : Int32)).toNatClampNeg = (o + (2 : Int32)).toNatClampNeg) sm rg (by decide +kernel)) hc102) : ((own_sh f p3) (2 : Int32).toNatClampNeg) = (f (p3 + (2 : Int32)).toNatClampNeg))).2 ?_
      show Steps p.tables e below (T103.setTop (mkF m 23 #[.val (.ref a1), .val (.ref a2), .val (.int p3), .val (.int p4), .val (.int (2 : Int32))] [])) _
      refine XS.iconst X103.here hx rfl (hb hby d23_23) ?_
      show Steps p.tables e below (T103.setTop (mkF m 24 #[.val (.ref a1), .val (.ref a2), .val (.int p3), .val (.int p4), .val (.int (2 : Int32))] [(.int (1 : Int32))])) _
      refine XS.goto X103.here hx rfl (pc0 := 24) (pc' := 28) rfl (hb hby d23_24) (by decide) (by decide) ?_
      show Steps p.tables e below (T103.setTop (mkF m 28 #[.val (.ref a1), .val (.ref a2), .val (.int p3), .val (.int p4), .val (.int (2 : Int32))] [(.int (1 : Int32))])) _
      exact retN X103 hx (t := .boolean) Bd.returns (by simp) (hb hby d23_28) hr
    · show Q23i2 Z a1 a2 p3 p4 w bb n f h0 n0 _ T103.heap _
      rw [P103_0]
      exact ⟨rfl, N103, rfl⟩
  · obtain ⟨fs, hr, hrun, hended, hW, hsame⟩ := X0.leave (v := some (.int (1 : Int32))) (fun h => by rw [Bd.returns] at h; cases h) hlk
    refine ⟨_, _, pre0 _ ?_, hrun, hended, _, _, rfl, ?_, ⟨_, rfl⟩, hW, hsame.mono (by decide) (by decide)⟩
    · refine pr101 _ ?_
      show Steps p.tables e below (s₁.setTop (mkF m 3 #[.val (.ref a1), .val (.ref a2), .val (.int p3), .val (.int p4), .val (.int (2 : Int32))] [(.int p4), (.int (2 : Int32))])) _
      refine XS.icmpNo X0.here hx rfl (hb hby d23_3) rfl (flt hc102).1 ?_
      show Steps p.tables e below (s₁.setTop (mkF m 6 #[.val (.ref a1), .val (.ref a2), .val (.int p3), .val (.int p4), .val (.int (2 : Int32))] [])) _
      refine XS.iconst X0.here hx rfl (hb hby d23_6) ?_
      show Steps p.tables e below (s₁.setTop (mkF m 7 #[.val (.ref a1), .val (.ref a2), .val (.int p3), .val (.int p4), .val (.int (2 : Int32))] [(.int (1 : Int32))])) _
      exact retN X0 hx (t := .boolean) Bd.returns (by simp) (hb hby d23_7) hr
    · show Q23i2 Z a1 a2 p3 p4 w bb n f h0 n0 _ s₁.heap _
      rw [e0]
      exact ⟨rfl, N0, rfl⟩
theorem ef_23i3 (m : MethodId) (x0 : Addr) (x1 : Addr) (x2 : Int32) (x3 : Int32) : entryFrame m #[(.ref x0), (.ref x1), (.int x2), (.int x3), (.int (3 : Int32))] 5 = mkF m 0 #[.val (.ref x0), .val (.ref x1), .val (.int x2), .val (.int x3), .val (.int (3 : Int32))] [] := by first | (simp [entryFrame, mkF, argsToLocals, Value.category]; done) | rfl
def Q23i3 (Z : State) (a1 : Addr) (a2 : Addr) (p3 : Int32) (p4 : Int32) (w : Int32) (bb : Addr) (n : Int32) (f : Nat → Int32) (h0 : Heap) (n0 : Nat) (v : Option Value) (h : Heap) (L : List Loc) : Prop := v = some (.int (1 : Int32)) ∧ Fr n0 L ∧ (h = h0)
set_option maxRecDepth 65536 in
set_option maxHeartbeats 40000000 in
theorem rm23i3 (l : Launch) (Z : State) (a0 : Array Value) (hw : ∀ d ∈ tables_1, d.before a0 Z = true) (ws : List Jvm.Cond) (a1 : Addr) (a2 : Addr) (p3 : Int32) (p4 : Int32) (w : Int32) (bb : Addr) (n : Int32) (f : Nat → Int32) (h0 : Heap) (n0 : Nat) (Z0 : n0 ≤ h0.size) (O0 : Old Z n0 h0) (S0 : Sta Z Z.heap "java/lang/String" "COMPACT_STRINGS" "Z" (.int w)) (hw0 : ¬ (w = (0 : Int32))) (SA : Sta Z Z.heap "java/lang/StringUTF16" "$assertionsDisabled" "Z" (.int (1 : Int32))) (SHI : Sta Z Z.heap "java/lang/StringUTF16" "HI_BYTE_SHIFT" "I" (.int (0 : Int32))) (SLO : Sta Z Z.heap "java/lang/StringUTF16" "LO_BYTE_SHIFT" "I" (.int (8 : Int32))) (FM : Fmt Z) (SS : OwnS Z h0 a1 bb p4 (own_sh f p3)) (C2 : OwnC Z h0 a2 n f) (sm : own_sm n) (rg : own_rg p3 p4 n) (hf : own_ch f) :
    MetFree l (⟨"com/example/lexiform/lexiform/logicalform/PhraseInPinLaw", "at", "(Ljava/lang/String;[CIII)Z"⟩ : MethodName) (head1 (Jvm.Cond.code (⟨"com/example/lexiform/lexiform/logicalform/PhraseInPinLaw", "at", "(Ljava/lang/String;[CIII)Z"⟩ : MethodName) method_3_code 5 (some .boolean) :: ws) ({ frames := 5, cells := 0, slots := 0, locals := 66 } : Room)) (fun a U => a = #[(.ref a1), (.ref a2), (.int p3), (.int p4), (.int (3 : Int32))] ∧ Z.Warmed39 U.vm ∧ U.heap = h0) (fun _ _ _ _ _ => True) (fun _ U o U' => ∃ v L, o = .returned v ∧ Q23i3 Z a1 a2 p3 p4 w bb n f h0 n0 v U'.heap L ∧ FrameEnd U o U' L ({ frames := 5, cells := 0, slots := 0, locals := 66 } : Room).cells ({ frames := 5, cells := 0, slots := 0, locals := 66 } : Room).slots) := by
  refine MetFree.of_bodySF (plainFor_of_name pn_8) hisR ?_
  intro p e s m args below meth c s₁ Bd hml0 hP hK
  obtain ⟨rfl, hZ0, hh⟩ := hP
  have hx := Bd.exec
  have hby := Bd.bytes
  have hml : c.maxLocals = 5 := hml0
  have hown0 : s.vm.findClass "com/example/lexiform/lexiform/logicalform/PhraseInPinLaw" = some m.cls := findClass_of_methodNamed Bd.named
  have hnm := (name_of_methodNamed Bd.named Bd.method).1
  have hlk : meth.locks = false := by first | exact BodyLoose.notSynchronized Bd | exact Body.notSynchronized Bd
  have X0 : Stand p l e ({ frames := 5, cells := 0, slots := 0, locals := 66 } : Room) s m #[(.ref a1), (.ref a2), (.int p3), (.int p4), (.int (3 : Int32))] below meth c s₁ [] 0 0 := Stand.of_body Bd
  have e0 : s₁.heap = h0 := by rw [← hh, Bd.state]; rfl
  have N0 := Fr.nil n0
  have pre0 : ∀ t, Steps p.tables e below (s₁.setTop (mkF m 0 #[.val (.ref a1), .val (.ref a2), .val (.int p3), .val (.int p4), .val (.int (3 : Int32))] [])) t → Steps p.tables e below (s₁.setTop (entryFrame m #[(.ref a1), (.ref a2), (.int p3), (.int p4), (.int (3 : Int32))] 5)) t := fun t k => castTop (ef_23i3 m a1 a2 p3 p4) k
  have pr101 : ∀ tg9, Steps p.tables e below (s₁.setTop (mkF m 3 #[.val (.ref a1), .val (.ref a2), .val (.int p3), .val (.int p4), .val (.int (3 : Int32))] [(.int p4), (.int (3 : Int32))])) tg9 → Steps p.tables e below (s₁.setTop (mkF m 0 #[.val (.ref a1), .val (.ref a2), .val (.int p3), .val (.int p4), .val (.int (3 : Int32))] [])) tg9 := fun tg9 kt => by
    show Steps p.tables e below (s₁.setTop (mkF m 0 #[.val (.ref a1), .val (.ref a2), .val (.int p3), .val (.int p4), .val (.int (3 : Int32))] [])) _
    refine XS.iload X0.here hx rfl (hb hby d23_0) rfl ?_
    show Steps p.tables e below (s₁.setTop (mkF m 2 #[.val (.ref a1), .val (.ref a2), .val (.int p3), .val (.int p4), .val (.int (3 : Int32))] [(.int (3 : Int32))])) _
    refine XS.iloadN X0.here hx rfl (hb hby d23_2) rfl ?_
    exact kt
  by_cases hc102 : (3 : Int32) < p4
  · obtain ⟨cq103, kq103, q103a, q103b, q103c⟩ := isOf hZ0 e0 SS.1
    obtain ⟨_, _, ⟨T103, L103, k103, n103⟩, -, X103, ⟨Lc103, hQ103, l103, y103, z103⟩, st103⟩ := X0.virtualBack hx (y := (⟨"java/lang/String", "charAt", "(I)C"⟩ : MethodName)) (z := (⟨"java/lang/String", "charAt", "(I)C"⟩ : MethodName)) hown0 (mvT hZ0 (hw _ (List.mem_of_getElem? (i := 122) rfl))) (mvT hZ0 (hw _ (List.mem_of_getElem? (i := 123) rfl))) (notFace_of_selects (args := #[]) (mvT hZ0 (hw _ (List.mem_of_getElem? (i := 125) rfl)))) (mvT hZ0 (hw _ (List.mem_of_getElem? (i := 125) rfl))) (mvT hZ0 (hw _ (List.mem_of_getElem? (i := 124) rfl))) (by decide) (backOf (W := 0) (rm24 l Z a0 hw [] a1 (3 : Int32) w bb p4 (own_sh f p3) h0 n0 Z0 O0 S0 hw0 SA SHI SLO FM SS (⟨by decide, hc102⟩) (own_chs hf)) hZ0 (hw _ (List.mem_of_getElem? (i := 126) rfl)) (hw _ (List.mem_of_getElem? (i := 4) rfl)) (by decide) (by decide)) q103a q103c (g := (mkF m 11 #[.val (.ref a1), .val (.ref a2), .val (.int p3), .val (.int p4), .val (.int (3 : Int32))] [(.int (3 : Int32)), (.ref a1)])) rfl (by rw [hml]; rfl) (Steps.refl _) (argsL := [(.int (3 : Int32))]) (rest := []) (lenOf pd_27 rfl) rfl (by show 2 * 0 + _ ≤ _; exact Nat.le_of_eq rfl) (hb hby d23_11) (fun _ _ => ⟨rfl, e0, (by decide : 0 + 0 ≤ _), (by decide : 0 + 0 ≤ _)⟩)
    dsimp only [Pt.U, Pt.locs, Pt.cells, Pt.slots] at X103 l103 y103 z103 st103 hQ103
    subst l103 y103 z103
    obtain ⟨rfl, N103q, P103_0⟩ := hQ103
    have N103 := Fr.app N0 N103q
    obtain ⟨cl104, Ar104, Sz104, Nn104, Hs104⟩ := (id C2)
    obtain ⟨fs, hr, hrun, hended, hW, hsame⟩ := X103.leave (v := some (.int (1 : Int32))) (fun h => by rw [Bd.returns] at h; cases h) hlk
    refine ⟨_, _, pre0 _ ?_, hrun, hended, _, _, rfl, ?_, ⟨_, rfl⟩, hW, hsame.mono (by decide) (by decide)⟩
    · refine pr101 _ ?_
      show Steps p.tables e below (s₁.setTop (mkF m 3 #[.val (.ref a1), .val (.ref a2), .val (.int p3), .val (.int p4), .val (.int (3 : Int32))] [(.int p4), (.int (3 : Int32))])) _
      refine XS.icmpYes X0.here hx rfl (pc0 := 3) (pc' := 8) rfl (hb hby d23_3) rfl (tlt hc102).1 (by decide) (by decide) ?_
      show Steps p.tables e below (s₁.setTop (mkF m 8 #[.val (.ref a1), .val (.ref a2), .val (.int p3), .val (.int p4), .val (.int (3 : Int32))] [])) _
      refine XS.aloadN X0.here hx rfl (hb hby d23_8) rfl rfl ?_
      show Steps p.tables e below (s₁.setTop (mkF m 9 #[.val (.ref a1), .val (.ref a2), .val (.int p3), .val (.int p4), .val (.int (3 : Int32))] [(.ref a1)])) _
      refine XS.iload X0.here hx rfl (hb hby d23_9) rfl ?_
      show Steps p.tables e below (s₁.setTop (mkF m 11 #[.val (.ref a1), .val (.ref a2), .val (.int p3), .val (.int p4), .val (.int (3 : Int32))] [(.int (3 : Int32)), (.ref a1)])) _
      refine st103.trans ?_
      show Steps p.tables e below (T103.setTop (mkF m 14 #[.val (.ref a1), .val (.ref a2), .val (.int p3), .val (.int p4), .val (.int (3 : Int32))] [(.int ((own_sh f p3) (3 : Int32).toNatClampNeg))])) _
      refine XS.aloadN X103.here hx rfl (hb hby d23_14) rfl rfl ?_
      show Steps p.tables e below (T103.setTop (mkF m 15 #[.val (.ref a1), .val (.ref a2), .val (.int p3), .val (.int p4), .val (.int (3 : Int32))] [(.ref a2), (.int ((own_sh f p3) (3 : Int32).toNatClampNeg))])) _
      refine XS.iloadN X103.here hx rfl (hb hby d23_15) rfl ?_
      show Steps p.tables e below (T103.setTop (mkF m 16 #[.val (.ref a1), .val (.ref a2), .val (.int p3), .val (.int p4), .val (.int (3 : Int32))] [(.int p3), (.ref a2), (.int ((own_sh f p3) (3 : Int32).toNatClampNeg))])) _
      refine XS.iload X103.here hx rfl (hb hby d23_16) rfl ?_
      show Steps p.tables e below (T103.setTop (mkF m 18 #[.val (.ref a1), .val (.ref a2), .val (.int p3), .val (.int p4), .val (.int (3 : Int32))] [(.int (3 : Int32)), (.int p3), (.ref a2), (.int ((own_sh f p3) (3 : Int32).toNatClampNeg))])) _
      refine XS.iadd X103.here hx rfl (hb hby d23_18) rfl ?_
      show Steps p.tables e below (T103.setTop (mkF m 19 #[.val (.ref a1), .val (.ref a2), .val (.int p3), .val (.int p4), .val (.int (3 : Int32))] [(.int (p3 + (3 : Int32))), (.ref a2), (.int ((own_sh f p3) (3 : Int32).toNatClampNeg))])) _
      refine X103.caload hx (j := (p3 + (3 : Int32))) (v := (.int (f (p3 + (3 : Int32)).toNatClampNeg))) (by rw [P103_0]; exact Ar104.1) (State.isArrayOf_alike hZ0.alike Ar104.2.1) Ar104.2.2 (inb_of Sz104 ((own_e3 (P := fun o l n => (3 : Int32) < l → own_ix (o + (3 : Int32)) n) sm rg (by decide +kernel)) hc102)) (Hs104 _ (own_ixlt ((own_e3 (P := fun o l n => (3 : Int32) < l → own_ix (o + (3 : Int32)) n) sm rg (by decide +kernel)) hc102))) (g := (mkF m 19 #[.val (.ref a1), .val (.ref a2), .val (.int p3), .val (.int p4), .val (.int (3 : Int32))] [(.int (p3 + (3 : Int32))), (.ref a2), (.int ((own_sh f p3) (3 : Int32).toNatClampNeg))])) rfl rfl (hb hby d23_19) _ ?_
      show Steps p.tables e below (T103.setTop (mkF m 20 #[.val (.ref a1), .val (.ref a2), .val (.int p3), .val (.int p4), .val (.int (3 : Int32))] [(.int (f (p3 + (3 : Int32)).toNatClampNeg)), (.int ((own_sh f p3) (3 : Int32).toNatClampNeg))])) _
      refine XS.icmpNo X103.here hx rfl (hb hby d23_20) rfl (teq (congrArg f ((own_e3 (P := fun o l n => (3 : Int32) < l → o.toNatClampNeg + ((3 : Int32)).toNatClampNeg = (o + (3 : Int32)).toNatClampNeg) sm rg (by decide +kernel)) hc102) : ((own_sh f p3) (3 : Int32).toNatClampNeg) = (f (p3 + (3 : Int32)).toNatClampNeg))).2 ?_
      show Steps p.tables e below (T103.setTop (mkF m 23 #[.val (.ref a1), .val (.ref a2), .val (.int p3), .val (.int p4), .val (.int (3 : Int32))] [])) _
      refine XS.iconst X103.here hx rfl (hb hby d23_23) ?_
      show Steps p.tables e below (T103.setTop (mkF m 24 #[.val (.ref a1), .val (.ref a2), .val (.int p3), .val (.int p4), .val (.int (3 : Int32))] [(.int (1 : Int32))])) _
      refine XS.goto X103.here hx rfl (pc0 := 24) (pc' := 28) rfl (hb hby d23_24) (by decide) (by decide) ?_
      show Steps p.tables e below (T103.setTop (mkF m 28 #[.val (.ref a1), .val (.ref a2), .val (.int p3), .val (.int p4), .val (.int (3 : Int32))] [(.int (1 : Int32))])) _
      exact retN X103 hx (t := .boolean) Bd.returns (by simp) (hb hby d23_28) hr
    · show Q23i3 Z a1 a2 p3 p4 w bb n f h0 n0 _ T103.heap _
      rw [P103_0]
      exact ⟨rfl, N103, rfl⟩
  · obtain ⟨fs, hr, hrun, hended, hW, hsame⟩ := X0.leave (v := some (.int (1 : Int32))) (fun h => by rw [Bd.returns] at h; cases h) hlk
    refine ⟨_, _, pre0 _ ?_, hrun, hended, _, _, rfl, ?_, ⟨_, rfl⟩, hW, hsame.mono (by decide) (by decide)⟩
    · refine pr101 _ ?_
      show Steps p.tables e below (s₁.setTop (mkF m 3 #[.val (.ref a1), .val (.ref a2), .val (.int p3), .val (.int p4), .val (.int (3 : Int32))] [(.int p4), (.int (3 : Int32))])) _
      refine XS.icmpNo X0.here hx rfl (hb hby d23_3) rfl (flt hc102).1 ?_
      show Steps p.tables e below (s₁.setTop (mkF m 6 #[.val (.ref a1), .val (.ref a2), .val (.int p3), .val (.int p4), .val (.int (3 : Int32))] [])) _
      refine XS.iconst X0.here hx rfl (hb hby d23_6) ?_
      show Steps p.tables e below (s₁.setTop (mkF m 7 #[.val (.ref a1), .val (.ref a2), .val (.int p3), .val (.int p4), .val (.int (3 : Int32))] [(.int (1 : Int32))])) _
      exact retN X0 hx (t := .boolean) Bd.returns (by simp) (hb hby d23_7) hr
    · show Q23i3 Z a1 a2 p3 p4 w bb n f h0 n0 _ s₁.heap _
      rw [e0]
      exact ⟨rfl, N0, rfl⟩
theorem ef_0 (m : MethodId) (x0 : Int32) (x1 : Int32) (x2 : Int32) (x3 : Int32) (x4 : Int32) (x5 : Int32) : entryFrame m #[(.int x0), (.int x1), (.int x2), (.int x3), (.int x4), (.int x5)] maxLocals = mkF m 0 #[.val (.int x0), .val (.int x1), .val (.int x2), .val (.int x3), .val (.int x4), .val (.int x5), .unset, .unset, .unset, .unset, .unset, .unset] [] := by first | (simp [entryFrame, mkF, argsToLocals, Value.category, maxLocals]; done) | rfl
theorem pd_28 : parseMethodDescriptor "([C)V" = some ⟨[(.array .char)], none⟩ := by decide +kernel
theorem pd_29 : parseMethodDescriptor "(Ljava/lang/String;II)V" = some ⟨[(.object "java/lang/String"), .int, .int], none⟩ := by decide +kernel
theorem pd_30 : parseMethodDescriptor "(Ljava/lang/String;)Ljava/lang/String;" = some ⟨[(.object "java/lang/String")], some (.object "java/lang/String")⟩ := by decide +kernel
theorem pd_31 : parseMethodDescriptor "(Ljava/lang/String;[CIII)Z" = some ⟨[(.object "java/lang/String"), (.array .char), .int, .int, .int], some .boolean⟩ := by decide +kernel
def Q0 (Z : State) (p1 : Int32) (p2 : Int32) (p3 : Int32) (p4 : Int32) (p5 : Int32) (p6 : Int32) (w : Int32) (h0 : Heap) (n0 : Nat) (v : Option Value) (h : Heap) (L : List Loc) : Prop := v = some (.int (1 : Int32)) ∧ Fr n0 L
set_option maxRecDepth 65536 in
set_option maxHeartbeats 40000000 in
theorem rm0 (l : Launch) (Z : State) (a0 : Array Value) (hw : ∀ d ∈ tables_1, d.before a0 Z = true) (ws : List Jvm.Cond) (p1 : Int32) (p2 : Int32) (p3 : Int32) (p4 : Int32) (p5 : Int32) (p6 : Int32) (w : Int32) (h0 : Heap) (n0 : Nat) (Z0 : n0 ≤ h0.size) (O0 : Old Z n0 h0) (S0 : Sta Z Z.heap "java/lang/String" "COMPACT_STRINGS" "Z" (.int w)) (hw0 : ¬ (w = (0 : Int32))) (SA : Sta Z Z.heap "java/lang/StringUTF16" "$assertionsDisabled" "Z" (.int (1 : Int32))) (SHI : Sta Z Z.heap "java/lang/StringUTF16" "HI_BYTE_SHIFT" "I" (.int (0 : Int32))) (SLO : Sta Z Z.heap "java/lang/StringUTF16" "LO_BYTE_SHIFT" "I" (.int (8 : Int32))) (FM : Fmt Z) (hcw : Jvm.Lit.compactW.before a0 Z = true) (hq : h0.size ≤ n0) (chp : Jvm.Lit.constHeld Z "com/example/lexiform/lexiform/logicalform/Phrase" 7) (ch : Jvm.Lit.constHeld Z "com/example/lexiform/lexiform/logicalform/PhraseInPinLaw" 16) (chl : Jvm.Lit.constHeld Z "java/lang/StringLatin1" 151) (chu : Jvm.Lit.constHeld Z "java/lang/StringUTF16" 295) :
    MetFree l x (head1 (Jvm.Cond.code x code maxLocals ret :: ws) room_1) (fun a U => a = #[(.int p1), (.int p2), (.int p3), (.int p4), (.int p5), (.int p6)] ∧ Z.Warmed39 U.vm ∧ U.heap = h0 ∧ IB Z U.vm []) (fun _ _ _ _ _ => True) (fun _ U o U' => ∃ v L, o = .returned v ∧ Q0 Z p1 p2 p3 p4 p5 p6 w h0 n0 v U'.heap L ∧ ReturnedEndW U o U' L room_1.cells room_1.slots) := by
  refine MetFree.of_bodySF (plainFor_of_name pn_8) hisR ?_
  intro p e s m args below meth c s₁ Bd hml0 hP hK
  obtain ⟨rfl, hZ0, hh, hI0⟩ := hP
  have hx := Bd.exec
  have hby := Bd.bytes
  have hml : c.maxLocals = 12 := hml0
  have hown0 : s.vm.findClass "com/example/lexiform/lexiform/logicalform/PhraseInPinLaw" = some m.cls := findClass_of_methodNamed Bd.named
  have hnm := (name_of_methodNamed Bd.named Bd.method).1
  have hlk : meth.locks = false := by first | exact BodyLoose.notSynchronized Bd | exact Body.notSynchronized Bd
  have X0 : Stand p l e room_1 s m #[(.int p1), (.int p2), (.int p3), (.int p4), (.int p5), (.int p6)] below meth c s₁ [] 0 0 := Stand.of_body Bd
  have e0 : s₁.heap = h0 := by rw [← hh, Bd.state]; rfl
  have N0 := Fr.nil n0
  have pre0 : ∀ t, Steps p.tables e below (s₁.setTop (mkF m 0 #[.val (.int p1), .val (.int p2), .val (.int p3), .val (.int p4), .val (.int p5), .val (.int p6), .unset, .unset, .unset, .unset, .unset, .unset] [])) t → Steps p.tables e below (s₁.setTop (entryFrame m #[(.int p1), (.int p2), (.int p3), (.int p4), (.int p5), (.int p6)] maxLocals)) t := fun t k => castTop (ef_0 m p1 p2 p3 p4 p5 p6) k
  obtain ⟨off, eo⟩ : ∃ z, z = ((p5 &&& (2147483647 : Int32)) % (5 : Int32)) := ⟨_, rfl⟩
  obtain ⟨ln, el⟩ : ∃ z, z = ((p6 &&& (2147483647 : Int32)) % ((5 : Int32) - off)) := ⟨_, rfl⟩
  have rg : own_rg off ln (4 : Int32) := own_rgm eo el
  obtain ⟨T101, h101, k101, X101, e101, E101, A101, st101⟩ := newP X0 hx hZ0 (hw _ (List.mem_of_getElem? (i := 0) rfl)) e0 (g := (mkF m 1 #[.val (.int p1), .val (.int p2), .val (.int p3), .val (.int p4), .val (.int p5), .val (.int p6), .unset, .unset, .unset, .unset, .unset, .unset] [(.int (4 : Int32))])) rfl (hb hby at_1) rfl (by decide) (cap := 4) (by decide) (by decide) (by decide) (by decide)
  obtain ⟨b101, g101⟩ : ∃ z, z = h0.size := ⟨_, rfl⟩
  rw [← g101] at A101 st101
  have gn_b101 : n0 ≤ b101 := Nat.le_trans Z0 (Nat.le_of_eq g101.symm)
  have f102 : Old Z n0 h101 := O0.ext E101
  have Zs101 : n0 ≤ h101.size := Nat.le_trans Z0 E101.1
  have v101 : Arv Z h101 b101 k101 .char (4 : Int32) [(.int (0 : Int32)), (.int (0 : Int32)), (.int (0 : Int32)), (.int (0 : Int32))] (.int (0 : Int32)) := (Arv.new A101 (by decide)).pad (pad_rep [] (.int (0 : Int32)) 4)
  obtain ⟨cl103, Ar103, ck103, Sz103, Nn103, Hs103, Gg103⟩ := (id v101)
  obtain ⟨T104, h104, X104, e104, W104, st104⟩ := stC X101 hx hZ0 e101 Ar103 (j := (0 : Int32)) (inb_of Sz103 ⟨by decide, by decide⟩) (g := (mkF m 13 #[.val (.int p1), .val (.int p2), .val (.int p3), .val (.int p4), .val (.int p5), .val (.int p6), .val (.ref b101), .unset, .unset, .unset, .unset, .unset] [(.int ((p1 &&& (65535 : Int32)).toUInt32.toUInt16.toUInt32.toInt32)), (.int (0 : Int32)), (.ref b101)])) rfl rfl (hb hby at_13)
  have f105 : Old Z n0 h104 := f102.wr W104 gn_b101
  have Zs104 : n0 ≤ h104.size := Nat.le_trans Zs101 (Keep.of_wr W104).1
  have N104 := Fr.snoc X104 N0 gn_b101
  have v104 : Arv Z h104 b101 k101 .char (4 : Int32) [(.int (nar .char ((p1 &&& (65535 : Int32)).toUInt32.toUInt16.toUInt32.toInt32))), (.int (0 : Int32)), (.int (0 : Int32)), (.int (0 : Int32))] (.int (0 : Int32)) := Arv.set Ar103 ck103 Sz103 Nn103 Hs103 Gg103 (fits_nar_char _) W104 0 rfl (Nat.le_of_ble_eq_true rfl)
  obtain ⟨cl106, Ar106, ck106, Sz106, Nn106, Hs106, Gg106⟩ := (id v104)
  obtain ⟨T107, h107, X107, e107, W107, st107⟩ := stC X104 hx hZ0 e104 Ar106 (j := (1 : Int32)) (inb_of Sz106 ⟨by decide, by decide⟩) (g := (mkF m 22 #[.val (.int p1), .val (.int p2), .val (.int p3), .val (.int p4), .val (.int p5), .val (.int p6), .val (.ref b101), .unset, .unset, .unset, .unset, .unset] [(.int ((p2 &&& (65535 : Int32)).toUInt32.toUInt16.toUInt32.toInt32)), (.int (1 : Int32)), (.ref b101)])) rfl rfl (hb hby at_22)
  have f108 : Old Z n0 h107 := f105.wr W107 gn_b101
  have Zs107 : n0 ≤ h107.size := Nat.le_trans Zs104 (Keep.of_wr W107).1
  have N107 := Fr.snoc X107 N104 gn_b101
  have v107 : Arv Z h107 b101 k101 .char (4 : Int32) [(.int (nar .char ((p1 &&& (65535 : Int32)).toUInt32.toUInt16.toUInt32.toInt32))), (.int (nar .char ((p2 &&& (65535 : Int32)).toUInt32.toUInt16.toUInt32.toInt32))), (.int (0 : Int32)), (.int (0 : Int32))] (.int (0 : Int32)) := Arv.set Ar106 ck106 Sz106 Nn106 Hs106 Gg106 (fits_nar_char _) W107 1 rfl (Nat.le_of_ble_eq_true rfl)
  obtain ⟨cl109, Ar109, ck109, Sz109, Nn109, Hs109, Gg109⟩ := (id v107)
  obtain ⟨T110, h110, X110, e110, W110, st110⟩ := stC X107 hx hZ0 e107 Ar109 (j := (2 : Int32)) (inb_of Sz109 ⟨by decide, by decide⟩) (g := (mkF m 31 #[.val (.int p1), .val (.int p2), .val (.int p3), .val (.int p4), .val (.int p5), .val (.int p6), .val (.ref b101), .unset, .unset, .unset, .unset, .unset] [(.int ((p3 &&& (65535 : Int32)).toUInt32.toUInt16.toUInt32.toInt32)), (.int (2 : Int32)), (.ref b101)])) rfl rfl (hb hby at_31)
  have f111 : Old Z n0 h110 := f108.wr W110 gn_b101
  have Zs110 : n0 ≤ h110.size := Nat.le_trans Zs107 (Keep.of_wr W110).1
  have N110 := Fr.snoc X110 N107 gn_b101
  have v110 : Arv Z h110 b101 k101 .char (4 : Int32) [(.int (nar .char ((p1 &&& (65535 : Int32)).toUInt32.toUInt16.toUInt32.toInt32))), (.int (nar .char ((p2 &&& (65535 : Int32)).toUInt32.toUInt16.toUInt32.toInt32))), (.int (nar .char ((p3 &&& (65535 : Int32)).toUInt32.toUInt16.toUInt32.toInt32))), (.int (0 : Int32))] (.int (0 : Int32)) := Arv.set Ar109 ck109 Sz109 Nn109 Hs109 Gg109 (fits_nar_char _) W110 2 rfl (Nat.le_of_ble_eq_true rfl)
  obtain ⟨cl112, Ar112, ck112, Sz112, Nn112, Hs112, Gg112⟩ := (id v110)
  obtain ⟨T113, h113, X113, e113, W113, st113⟩ := stC X110 hx hZ0 e110 Ar112 (j := (3 : Int32)) (inb_of Sz112 ⟨by decide, by decide⟩) (g := (mkF m 40 #[.val (.int p1), .val (.int p2), .val (.int p3), .val (.int p4), .val (.int p5), .val (.int p6), .val (.ref b101), .unset, .unset, .unset, .unset, .unset] [(.int ((p4 &&& (65535 : Int32)).toUInt32.toUInt16.toUInt32.toInt32)), (.int (3 : Int32)), (.ref b101)])) rfl rfl (hb hby at_40)
  have f114 : Old Z n0 h113 := f111.wr W113 gn_b101
  have Zs113 : n0 ≤ h113.size := Nat.le_trans Zs110 (Keep.of_wr W113).1
  have N113 := Fr.snoc X113 N110 gn_b101
  have v113 : Arv Z h113 b101 k101 .char (4 : Int32) [(.int (nar .char ((p1 &&& (65535 : Int32)).toUInt32.toUInt16.toUInt32.toInt32))), (.int (nar .char ((p2 &&& (65535 : Int32)).toUInt32.toUInt16.toUInt32.toInt32))), (.int (nar .char ((p3 &&& (65535 : Int32)).toUInt32.toUInt16.toUInt32.toInt32))), (.int (nar .char ((p4 &&& (65535 : Int32)).toUInt32.toUInt16.toUInt32.toInt32)))] (.int (0 : Int32)) := Arv.set Ar112 ck112 Sz112 Nn112 Hs112 Gg112 (fits_nar_char _) W113 3 rfl (Nat.le_of_ble_eq_true rfl)
  obtain ⟨f, hfe⟩ : ∃ z, z = own_fn [((nar .char ((p1 &&& (65535 : Int32)).toUInt32.toUInt16.toUInt32.toInt32))), ((nar .char ((p2 &&& (65535 : Int32)).toUInt32.toUInt16.toUInt32.toInt32))), ((nar .char ((p3 &&& (65535 : Int32)).toUInt32.toUInt16.toUInt32.toInt32))), ((nar .char ((p4 &&& (65535 : Int32)).toUInt32.toUInt16.toUInt32.toInt32)))] := ⟨_, rfl⟩
  have cv113 : OwnC Z h113 b101 (4 : Int32) f := by rw [hfe]; exact own_fnC v113
  have hf : own_ch f := by rw [hfe]; exact own_fnch _ (by intro x hx; simp only [List.mem_cons, List.not_mem_nil, or_false] at hx; rcases hx with rfl | rfl | rfl | rfl <;> exact own_nch _)
  obtain ⟨T115, h115, X115, e115, E115, A115, D115, -, st115⟩ := newO X113 hx hZ0 hown0 (hw _ (List.mem_of_getElem? (i := 2) rfl)) (hw _ (List.mem_of_getElem? (i := 3) rfl)) (hw _ (List.mem_of_getElem? (i := 4) rfl)) e113 (g := (mkF m 41 #[.val (.int p1), .val (.int p2), .val (.int p3), .val (.int p4), .val (.int p5), .val (.int p6), .val (.ref b101), .unset, .unset, .unset, .unset, .unset] [])) rfl (hb hby at_41) (by decide) (by decide)
  obtain ⟨b115, g115⟩ : ∃ z, z = h113.size := ⟨_, rfl⟩
  rw [← g115] at A115 D115 st115
  have ne_b101_b115 : b101 ≠ b115 := Nat.ne_of_lt (Nat.lt_of_lt_of_le v113.lt (Nat.le_of_eq g115.symm))
  have gn_b115 : n0 ≤ b115 := Nat.le_trans Zs113 (Nat.le_of_eq g115.symm)
  have f116 : Old Z n0 h115 := f114.ext E115
  have f117 : Arv Z h115 b101 k101 .char (4 : Int32) [(.int (nar .char ((p1 &&& (65535 : Int32)).toUInt32.toUInt16.toUInt32.toInt32))), (.int (nar .char ((p2 &&& (65535 : Int32)).toUInt32.toUInt16.toUInt32.toInt32))), (.int (nar .char ((p3 &&& (65535 : Int32)).toUInt32.toUInt16.toUInt32.toInt32))), (.int (nar .char ((p4 &&& (65535 : Int32)).toUInt32.toUInt16.toUInt32.toInt32)))] (.int (0 : Int32)) := v113.ext E115
  have f118 : OwnC Z h115 b101 (4 : Int32) f := OwnC.ext cv113 E115
  have Zs115 : n0 ≤ h115.size := Nat.le_trans Zs113 E115.1
  have f119 : Fld Z h115 b115 "java/lang/String" "coder" "B" (.int (0 : Int32)) := D115 (Or.inr (hw _ (List.mem_of_getElem? (i := 28) rfl))) (ty := .byte) (by decide)
  have f120 : Fld Z h115 b115 "java/lang/String" "value" "[B" .null := D115 (Or.inr (hw _ (List.mem_of_getElem? (i := 30) rfl))) (ty := (.array .byte)) (by decide)
  obtain ⟨_, _, ⟨T121, L121, k121, n121⟩, -, X121, ⟨Lc121, hQ121, l121, y121, z121⟩, st121⟩ := X115.specialBack hx (y := (⟨"java/lang/String", "<init>", "([C)V"⟩ : MethodName)) rfl hown0 (mvT hZ0 (hw _ (List.mem_of_getElem? (i := 5) rfl))) (mvT hZ0 (hw _ (List.mem_of_getElem? (i := 6) rfl))) (mvT hZ0 (hw _ (List.mem_of_getElem? (i := 7) rfl))) (by decide) (backOf (W := 1) (rm1 l Z a0 hw [] b115 b101 w f h115 n0 Zs115 f116 S0 hw0 SA SHI SLO FM A115 gn_b115 f120 f119 f118 hf (Ne.symm ne_b101_b115)) hZ0 (hw _ (List.mem_of_getElem? (i := 7) rfl)) (hw _ (List.mem_of_getElem? (i := 4) rfl)) (by decide) (by decide)) (g := (mkF m 47 #[.val (.int p1), .val (.int p2), .val (.int p3), .val (.int p4), .val (.int p5), .val (.int p6), .val (.ref b101), .unset, .unset, .unset, .unset, .unset] [(.ref b101), (.ref b115), (.ref b115)])) rfl (by rw [hml]; rfl) (Steps.refl _) (a := b115) (argsL := [(.ref b101)]) (rest := [(.ref b115)]) (lenOf pd_28 rfl) rfl (by show 2 * 0 + _ ≤ _; exact Nat.le_of_eq rfl) (hb hby at_47) (fun _ _ => ⟨rfl, e115, (by decide : 2 + 2 ≤ _), (by decide : 8 + 32 ≤ _)⟩)
  dsimp only [Pt.U, Pt.locs, Pt.cells, Pt.slots] at X121 l121 y121 z121 st121 hQ121
  subst l121 y121 z121
  obtain ⟨b_121, rfl, N121q, P121_0, P121_1, P121_2⟩ := hQ121
  have N121 := Fr.app N113 N121q
  have ne_b101_b_121 : b101 ≠ b_121 := Nat.ne_of_lt (Nat.lt_of_lt_of_le f117.lt P121_1)
  have ne_b115_b_121 : b115 ≠ b_121 := Nat.ne_of_lt (Nat.lt_of_lt_of_le A115.lt P121_1)
  have gn_b_121 : n0 ≤ b_121 := Nat.le_trans Zs115 P121_1
  have f122 : Old Z n0 T121.heap := f116.keep P121_0 (allS gn_b115 all0)
  have f123 : Arv Z T121.heap b101 k101 .char (4 : Int32) [(.int (nar .char ((p1 &&& (65535 : Int32)).toUInt32.toUInt16.toUInt32.toInt32))), (.int (nar .char ((p2 &&& (65535 : Int32)).toUInt32.toUInt16.toUInt32.toInt32))), (.int (nar .char ((p3 &&& (65535 : Int32)).toUInt32.toUInt16.toUInt32.toInt32))), (.int (nar .char ((p4 &&& (65535 : Int32)).toUInt32.toUInt16.toUInt32.toInt32)))] (.int (0 : Int32)) := f117.keep P121_0 (ninS ne_b101_b115 nin0)
  have f124 : OwnC Z T121.heap b101 (4 : Int32) f := OwnC.keep f118 P121_0 (ninS ne_b101_b115 nin0)
  have f125 : Exa Z T121.heap b115 "java/lang/String" := A115.keep P121_0
  have Zs121 : n0 ≤ T121.heap.size := Nat.le_trans Zs115 P121_0.1
  obtain ⟨T126, h126, X126, e126, E126, A126, D126, -, st126⟩ := newO X121 hx hZ0 hown0 (hw _ (List.mem_of_getElem? (i := 32) rfl)) (hw _ (List.mem_of_getElem? (i := 33) rfl)) (hw _ (List.mem_of_getElem? (i := 34) rfl)) rfl (g := (mkF m 73 #[.val (.int p1), .val (.int p2), .val (.int p3), .val (.int p4), .val (.int p5), .val (.int p6), .val (.ref b101), .val (.ref b115), .val (.int off), .val (.int ln), .unset, .unset] [])) rfl (hb hby at_73) (by decide) (by decide)
  obtain ⟨b126, g126⟩ : ∃ z, z = T121.heap.size := ⟨_, rfl⟩
  rw [← g126] at A126 D126 st126
  have ne_b101_b126 : b101 ≠ b126 := Nat.ne_of_lt (Nat.lt_of_lt_of_le f123.lt (Nat.le_of_eq g126.symm))
  have ne_b115_b126 : b115 ≠ b126 := Nat.ne_of_lt (Nat.lt_of_lt_of_le f125.lt (Nat.le_of_eq g126.symm))
  have ne_b_121_b126 : b_121 ≠ b126 := Nat.ne_of_lt (Nat.lt_of_lt_of_le (OwnS.ltb P121_2) (Nat.le_of_eq g126.symm))
  have gn_b126 : n0 ≤ b126 := Nat.le_trans Zs121 (Nat.le_of_eq g126.symm)
  have f127 : Old Z n0 h126 := f122.ext E126
  have f128 : Arv Z h126 b101 k101 .char (4 : Int32) [(.int (nar .char ((p1 &&& (65535 : Int32)).toUInt32.toUInt16.toUInt32.toInt32))), (.int (nar .char ((p2 &&& (65535 : Int32)).toUInt32.toUInt16.toUInt32.toInt32))), (.int (nar .char ((p3 &&& (65535 : Int32)).toUInt32.toUInt16.toUInt32.toInt32))), (.int (nar .char ((p4 &&& (65535 : Int32)).toUInt32.toUInt16.toUInt32.toInt32)))] (.int (0 : Int32)) := f123.ext E126
  have f129 : OwnC Z h126 b101 (4 : Int32) f := OwnC.ext f124 E126
  have f130 : Exa Z h126 b115 "java/lang/String" := Exa.ext E126 f125
  have f131 : OwnS Z h126 b115 b_121 (4 : Int32) f := OwnS.ext P121_2 E126
  have Zs126 : n0 ≤ h126.size := Nat.le_trans Zs121 E126.1
  have f132 : Fld Z h126 b126 "com/example/lexiform/lexiform/logicalform/Phrase" "role" "Ljava/lang/String;" .null := D126 (Or.inr (hw _ (List.mem_of_getElem? (i := 53) rfl))) (ty := (.object "java/lang/String")) (by decide)
  have f133 : Fld Z h126 b126 "com/example/lexiform/lexiform/logicalform/Phrase" "offset" "I" (.int (0 : Int32)) := D126 (Or.inr (hw _ (List.mem_of_getElem? (i := 55) rfl))) (ty := .int) (by decide)
  have f134 : Fld Z h126 b126 "com/example/lexiform/lexiform/logicalform/Phrase" "length" "I" (.int (0 : Int32)) := D126 (Or.inr (hw _ (List.mem_of_getElem? (i := 57) rfl))) (ty := .int) (by decide)
  obtain ⟨sa135, T135, h135, k135, sb135, kc135, X135, e135, E135, S135, ks135, hZ135, ho135, x135, fc135, fv135, A135, -, -, I135, st135⟩ := ldcSV (s := s) (vm0 := s.vm) X126 hx hZ0 hown0 (hw _ (List.mem_of_getElem? (i := 35) rfl)) (own_sa hw) e126 ((State.WarmedH.refl s).since 0) (Nat.zero_le _) (fun y hy => Nat.le_trans (by rw [show s.heap = h0 from hh]; exact hq) (N121 y hy)) (fun b cl q => by rw [show s.heap = h0 from hh]; exact O0.2.2 b cl q) hI0 (by decide) ch hcw (z := (7 : Int32)) ⟨by decide, rfl⟩ (by decide) (by decide) (g := (mkF m 77 #[.val (.int p1), .val (.int p2), .val (.int p3), .val (.int p4), .val (.int p5), .val (.int p6), .val (.ref b101), .val (.ref b115), .val (.int off), .val (.int ln), .unset, .unset] [(.ref b126), (.ref b126)])) rfl (hb hby at_77) (n := 28) (by decide) (by decide) (by decide) (by decide)
  have f136 : Old Z n0 h135 := f127.ext E135
  have f137 : Arv Z h135 b101 k101 .char (4 : Int32) [(.int (nar .char ((p1 &&& (65535 : Int32)).toUInt32.toUInt16.toUInt32.toInt32))), (.int (nar .char ((p2 &&& (65535 : Int32)).toUInt32.toUInt16.toUInt32.toInt32))), (.int (nar .char ((p3 &&& (65535 : Int32)).toUInt32.toUInt16.toUInt32.toInt32))), (.int (nar .char ((p4 &&& (65535 : Int32)).toUInt32.toUInt16.toUInt32.toInt32)))] (.int (0 : Int32)) := f128.ext E135
  have f138 : OwnC Z h135 b101 (4 : Int32) f := OwnC.ext f129 E135
  have f139 : Exa Z h135 b115 "java/lang/String" := Exa.ext E135 f130
  have f140 : OwnS Z h135 b115 b_121 (4 : Int32) f := OwnS.ext f131 E135
  have f141 : Exa Z h135 b126 "com/example/lexiform/lexiform/logicalform/Phrase" := Exa.ext E135 A126
  have f142 : Fld Z h135 b126 "com/example/lexiform/lexiform/logicalform/Phrase" "role" "Ljava/lang/String;" .null := Fld.ext E135 f132
  have f143 : Fld Z h135 b126 "com/example/lexiform/lexiform/logicalform/Phrase" "offset" "I" (.int (0 : Int32)) := Fld.ext E135 f133
  have f144 : Fld Z h135 b126 "com/example/lexiform/lexiform/logicalform/Phrase" "length" "I" (.int (0 : Int32)) := Fld.ext E135 f134
  have Zs135 : n0 ≤ h135.size := Nat.le_trans Zs126 E135.1
  obtain ⟨_, _, ⟨T145, L145, k145, n145⟩, -, X145, hS145, hg145, ⟨Lc145, hQ145, l145, y145, z145, I145⟩, st145⟩ := X135.specialBackS hx (y := (⟨"com/example/lexiform/lexiform/logicalform/Phrase", "<init>", "(Ljava/lang/String;II)V"⟩ : MethodName)) rfl ho135 (mvT hZ135 (hw _ (List.mem_of_getElem? (i := 38) rfl))) (mvT hZ135 (hw _ (List.mem_of_getElem? (i := 39) rfl))) (mvT hZ135 (hw _ (List.mem_of_getElem? (i := 40) rfl))) (by decide) (own_backI (W := 1) (rm7 l Z a0 hw [] b126 sa135 off ln ("subject" :: []) h135 n0 Zs135 f136 f141 gn_b126 f142 f143 f144 rg.1 rg.2.1 hcw (by decide) chp) hZ135 I135 (hw _ (List.mem_of_getElem? (i := 40) rfl)) (hw _ (List.mem_of_getElem? (i := 34) rfl)) (by decide) (by decide)) (g := (mkF m 83 #[.val (.int p1), .val (.int p2), .val (.int p3), .val (.int p4), .val (.int p5), .val (.int p6), .val (.ref b101), .val (.ref b115), .val (.int off), .val (.int ln), .unset, .unset] [(.int ln), (.int off), (.ref sa135), (.ref b126), (.ref b126)])) rfl (by rw [hml]; rfl) (Steps.refl _) (a := b126) (argsL := [(.ref sa135), (.int off), (.int ln)]) (rest := [(.ref b126)]) (lenOf pd_29 rfl) rfl (by show 2 * 0 + _ ≤ _; exact Nat.le_of_eq rfl) (hb hby at_83) (fun _ _ => ⟨rfl, e135, (by decide : 7 + 2 ≤ _), (by decide : 75 + 20 ≤ _)⟩)
  dsimp only [Pt.U, Pt.locs, Pt.cells, Pt.slots] at X145 l145 y145 z145 st145 hQ145 hS145 hg145 I145
  subst l145 y145 z145
  obtain ⟨rfl, N145q, P145_0, P145_1, P145_2⟩ := hQ145
  have N145 := Fr.app N121 N145q
  have Sn145 : s.Since T145.vm T145.heap.size := foldS (s := s) (vm0 := T135.vm) (T := T135) S135 (by rw [e135]; exact ks135) hS145 hg145
  have hZ145 : Z.Warmed39 T145.vm := State.Warmed39.trans (t := s.setVm T135.vm) hZ135 hS145.1
  have ho145 : T145.vm.findClass "com/example/lexiform/lexiform/logicalform/PhraseInPinLaw" = some m.cls := by rw [hS145.1.alike.findClass]; exact ho135
  have f146 : Old Z n0 T145.heap := f136.keep P145_0 (allS gn_b126 all0)
  have f147 : Arv Z T145.heap b101 k101 .char (4 : Int32) [(.int (nar .char ((p1 &&& (65535 : Int32)).toUInt32.toUInt16.toUInt32.toInt32))), (.int (nar .char ((p2 &&& (65535 : Int32)).toUInt32.toUInt16.toUInt32.toInt32))), (.int (nar .char ((p3 &&& (65535 : Int32)).toUInt32.toUInt16.toUInt32.toInt32))), (.int (nar .char ((p4 &&& (65535 : Int32)).toUInt32.toUInt16.toUInt32.toInt32)))] (.int (0 : Int32)) := f137.keep P145_0 (ninS ne_b101_b126 nin0)
  have f148 : OwnC Z T145.heap b101 (4 : Int32) f := OwnC.keep f138 P145_0 (ninS ne_b101_b126 nin0)
  have f149 : Exa Z T145.heap b115 "java/lang/String" := f139.keep P145_0
  have f150 : OwnS Z T145.heap b115 b_121 (4 : Int32) f := OwnS.keep f140 P145_0 (ninS ne_b115_b126 nin0) (ninS ne_b_121_b126 nin0)
  have f151 : Exa Z T145.heap b126 "com/example/lexiform/lexiform/logicalform/Phrase" := f141.keep P145_0
  have Zs145 : n0 ≤ T145.heap.size := Nat.le_trans Zs135 P145_0.1
  obtain ⟨cq152, kq152, q152a, q152b, q152c⟩ := isOf hZ145 rfl f151
  obtain ⟨_, _, ⟨T152, L152, k152, n152⟩, -, X152, hS152, hg152, ⟨Lc152, hQ152, l152, y152, z152, I152⟩, st152⟩ := X145.virtualBackS hx (y := (⟨"com/example/lexiform/lexiform/logicalform/Phrase", "in", "(Ljava/lang/String;)Ljava/lang/String;"⟩ : MethodName)) (z := (⟨"com/example/lexiform/lexiform/logicalform/Phrase", "in", "(Ljava/lang/String;)Ljava/lang/String;"⟩ : MethodName)) ho145 (mvT hZ145 (hw _ (List.mem_of_getElem? (i := 58) rfl))) (mvT hZ145 (hw _ (List.mem_of_getElem? (i := 59) rfl))) (notFace_of_selects (args := #[]) (mvT hZ145 (hw _ (List.mem_of_getElem? (i := 61) rfl)))) (mvT hZ145 (hw _ (List.mem_of_getElem? (i := 61) rfl))) (mvT hZ145 (hw _ (List.mem_of_getElem? (i := 60) rfl))) (by decide) (own_backI (W := 0) (rm10 l Z a0 hw [] b126 b115 w off ln b_121 (4 : Int32) f ("role" :: ("subject" :: [])) T145.heap n0 Zs145 f146 S0 hw0 SA SHI SLO FM P145_1 P145_2 f150 (⟨by decide, by decide⟩) rg hf hcw (by decide) chl chu) hZ145 I145 (hw _ (List.mem_of_getElem? (i := 62) rfl)) (hw _ (List.mem_of_getElem? (i := 34) rfl)) (by decide) (by decide)) q152a q152c (g := (mkF m 92 #[.val (.int p1), .val (.int p2), .val (.int p3), .val (.int p4), .val (.int p5), .val (.int p6), .val (.ref b101), .val (.ref b115), .val (.int off), .val (.int ln), .val (.ref b126), .unset] [(.ref b115), (.ref b126)])) rfl (by rw [hml]; rfl) (Steps.refl _) (argsL := [(.ref b115)]) (rest := []) (lenOf pd_30 rfl) rfl (by show 2 * 0 + _ ≤ _; exact Nat.le_of_eq rfl) (hb hby at_92) (fun _ _ => ⟨rfl, rfl, (by decide : 9 + 3 ≤ _), (by decide : 95 + 36 ≤ _)⟩)
  dsimp only [Pt.U, Pt.locs, Pt.cells, Pt.slots] at X152 l152 y152 z152 st152 hQ152 hS152 hg152 I152
  subst l152 y152 z152
  obtain ⟨r_152, b_152, rfl, N152q, P152_0, P152_1⟩ := hQ152
  have N152 := Fr.app N145 N152q
  have Sn152 : s.Since T152.vm T152.heap.size := foldS (s := s) (vm0 := T145.vm) (T := T145) Sn145 (Nat.le_refl _) hS152 hg152
  have hZ152 : Z.Warmed39 T152.vm := State.Warmed39.trans (t := s.setVm T145.vm) hZ145 hS152.1
  have ho152 : T152.vm.findClass "com/example/lexiform/lexiform/logicalform/PhraseInPinLaw" = some m.cls := by rw [hS152.1.alike.findClass]; exact ho145
  have f153 : Old Z n0 T152.heap := f146.keep P152_0 all0
  have f154 : Arv Z T152.heap b101 k101 .char (4 : Int32) [(.int (nar .char ((p1 &&& (65535 : Int32)).toUInt32.toUInt16.toUInt32.toInt32))), (.int (nar .char ((p2 &&& (65535 : Int32)).toUInt32.toUInt16.toUInt32.toInt32))), (.int (nar .char ((p3 &&& (65535 : Int32)).toUInt32.toUInt16.toUInt32.toInt32))), (.int (nar .char ((p4 &&& (65535 : Int32)).toUInt32.toUInt16.toUInt32.toInt32)))] (.int (0 : Int32)) := f147.keep P152_0 nin0
  have f155 : OwnC Z T152.heap b101 (4 : Int32) f := OwnC.keep f148 P152_0 nin0
  have f156 : Exa Z T152.heap b115 "java/lang/String" := f149.keep P152_0
  have f157 : OwnS Z T152.heap b115 b_121 (4 : Int32) f := OwnS.keep f150 P152_0 nin0 nin0
  have f158 : Exa Z T152.heap b126 "com/example/lexiform/lexiform/logicalform/Phrase" := f151.keep P152_0
  have f159 : Fld Z T152.heap b126 "com/example/lexiform/lexiform/logicalform/Phrase" "offset" "I" (.int off) := P145_1.keep P152_0 nin0
  have f160 : Fld Z T152.heap b126 "com/example/lexiform/lexiform/logicalform/Phrase" "length" "I" (.int ln) := P145_2.keep P152_0 nin0
  have Zs152 : n0 ≤ T152.heap.size := Nat.le_trans Zs145 P152_0.1
  obtain ⟨cq161, kq161, q161a, q161b, q161c⟩ := isOf hZ152 rfl P152_1.1
  obtain ⟨_, _, ⟨T161, L161, k161, n161⟩, -, X161, ⟨Lc161, hQ161, l161, y161, z161⟩, st161⟩ := X152.virtualBack hx (y := (⟨"java/lang/String", "length", "()I"⟩ : MethodName)) (z := (⟨"java/lang/String", "length", "()I"⟩ : MethodName)) ho152 (mvT hZ152 (hw _ (List.mem_of_getElem? (i := 117) rfl))) (mvT hZ152 (hw _ (List.mem_of_getElem? (i := 69) rfl))) (notFace_of_selects (args := #[]) (mvT hZ152 (hw _ (List.mem_of_getElem? (i := 71) rfl)))) (mvT hZ152 (hw _ (List.mem_of_getElem? (i := 71) rfl))) (mvT hZ152 (hw _ (List.mem_of_getElem? (i := 70) rfl))) (by decide) (backOf (W := 0) (rm12 l Z a0 hw [] r_152 w b_152 ln (own_sh f off) T152.heap n0 Zs152 f153 S0 hw0 SA SHI SLO FM P152_1) hZ152 (hw _ (List.mem_of_getElem? (i := 72) rfl)) (hw _ (List.mem_of_getElem? (i := 4) rfl)) (by decide) (by decide)) q161a q161c (g := (mkF m 99 #[.val (.int p1), .val (.int p2), .val (.int p3), .val (.int p4), .val (.int p5), .val (.int p6), .val (.ref b101), .val (.ref b115), .val (.int off), .val (.int ln), .val (.ref b126), .val (.ref r_152)] [(.ref r_152)])) rfl (by rw [hml]; rfl) (Steps.refl _) (argsL := []) (rest := []) (lenOf pd_21 rfl) rfl (by show 2 * 0 + _ ≤ _; exact Nat.le_of_eq rfl) (hb hby at_99) (fun _ _ => ⟨rfl, rfl, (by decide : 12 + 0 ≤ _), (by decide : 131 + 0 ≤ _)⟩)
  dsimp only [Pt.U, Pt.locs, Pt.cells, Pt.slots] at X161 l161 y161 z161 st161 hQ161
  subst l161 y161 z161
  obtain ⟨rfl, N161q, P161_0⟩ := hQ161
  have N161 := Fr.app N152 N161q
  obtain ⟨_, _, ⟨T162, L162, k162, n162⟩, -, X162, ⟨Lc162, hQ162, l162, y162, z162⟩, st162⟩ := Jvm.LawKit.callS X161 hx (y := (⟨"com/example/lexiform/lexiform/logicalform/PhraseInPinLaw", "at", "(Ljava/lang/String;[CIII)Z"⟩ : MethodName)) ho152 (mvT hZ152 (hw _ (List.mem_of_getElem? (i := 118) rfl))) (mvT hZ152 (hw _ (List.mem_of_getElem? (i := 119) rfl))) (mvT hZ152 (hw _ (List.mem_of_getElem? (i := 120) rfl))) (mvT hZ152 (hw _ (List.mem_of_getElem? (i := 121) rfl))) (by decide) (backOf (W := 0) (rm23i0 l Z a0 hw [] r_152 b101 off ln w b_152 (4 : Int32) f T152.heap n0 Zs152 f153 S0 hw0 SA SHI SLO FM P152_1 f155 (⟨by decide, by decide⟩) rg hf) hZ152 (hw _ (List.mem_of_getElem? (i := 121) rfl)) (hw _ (List.mem_of_getElem? (i := 120) rfl)) (by decide) (by decide)) (g := (mkF m 118 #[.val (.int p1), .val (.int p2), .val (.int p3), .val (.int p4), .val (.int p5), .val (.int p6), .val (.ref b101), .val (.ref b115), .val (.int off), .val (.int ln), .val (.ref b126), .val (.ref r_152)] [(.int (0 : Int32)), (.int ln), (.int off), (.ref b101), (.ref r_152)])) rfl (by rw [hml]; rfl) (argsL := [(.ref r_152), (.ref b101), (.int off), (.int ln), (.int (0 : Int32))]) (rest := []) (lenOf pd_31 rfl) rfl (by show 2 * 0 + _ ≤ _; exact Nat.le_of_eq rfl) (hb hby at_118) (fun _ _ => ⟨rfl, P161_0, (by decide : 12 + 0 ≤ _), (by decide : 131 + 0 ≤ _)⟩)
  dsimp only [Pt.U, Pt.locs, Pt.cells, Pt.slots] at X162 l162 y162 z162 st162 hQ162
  subst l162 y162 z162
  obtain ⟨rfl, N162q, P162_0⟩ := hQ162
  have N162 := Fr.app N161 N162q
  obtain ⟨_, _, ⟨T163, L163, k163, n163⟩, -, X163, ⟨Lc163, hQ163, l163, y163, z163⟩, st163⟩ := Jvm.LawKit.callS X162 hx (y := (⟨"com/example/lexiform/lexiform/logicalform/PhraseInPinLaw", "at", "(Ljava/lang/String;[CIII)Z"⟩ : MethodName)) ho152 (mvT hZ152 (hw _ (List.mem_of_getElem? (i := 118) rfl))) (mvT hZ152 (hw _ (List.mem_of_getElem? (i := 119) rfl))) (mvT hZ152 (hw _ (List.mem_of_getElem? (i := 120) rfl))) (mvT hZ152 (hw _ (List.mem_of_getElem? (i := 121) rfl))) (by decide) (backOf (W := 0) (rm23i1 l Z a0 hw [] r_152 b101 off ln w b_152 (4 : Int32) f T152.heap n0 Zs152 f153 S0 hw0 SA SHI SLO FM P152_1 f155 (⟨by decide, by decide⟩) rg hf) hZ152 (hw _ (List.mem_of_getElem? (i := 121) rfl)) (hw _ (List.mem_of_getElem? (i := 120) rfl)) (by decide) (by decide)) (g := (mkF m 133 #[.val (.int p1), .val (.int p2), .val (.int p3), .val (.int p4), .val (.int p5), .val (.int p6), .val (.ref b101), .val (.ref b115), .val (.int off), .val (.int ln), .val (.ref b126), .val (.ref r_152)] [(.int (1 : Int32)), (.int ln), (.int off), (.ref b101), (.ref r_152)])) rfl (by rw [hml]; rfl) (argsL := [(.ref r_152), (.ref b101), (.int off), (.int ln), (.int (1 : Int32))]) (rest := []) (lenOf pd_31 rfl) rfl (by show 2 * 0 + _ ≤ _; exact Nat.le_of_eq rfl) (hb hby at_133) (fun _ _ => ⟨rfl, P162_0, (by decide : 12 + 0 ≤ _), (by decide : 131 + 0 ≤ _)⟩)
  dsimp only [Pt.U, Pt.locs, Pt.cells, Pt.slots] at X163 l163 y163 z163 st163 hQ163
  subst l163 y163 z163
  obtain ⟨rfl, N163q, P163_0⟩ := hQ163
  have N163 := Fr.app N162 N163q
  obtain ⟨_, _, ⟨T164, L164, k164, n164⟩, -, X164, ⟨Lc164, hQ164, l164, y164, z164⟩, st164⟩ := Jvm.LawKit.callS X163 hx (y := (⟨"com/example/lexiform/lexiform/logicalform/PhraseInPinLaw", "at", "(Ljava/lang/String;[CIII)Z"⟩ : MethodName)) ho152 (mvT hZ152 (hw _ (List.mem_of_getElem? (i := 118) rfl))) (mvT hZ152 (hw _ (List.mem_of_getElem? (i := 119) rfl))) (mvT hZ152 (hw _ (List.mem_of_getElem? (i := 120) rfl))) (mvT hZ152 (hw _ (List.mem_of_getElem? (i := 121) rfl))) (by decide) (backOf (W := 0) (rm23i2 l Z a0 hw [] r_152 b101 off ln w b_152 (4 : Int32) f T152.heap n0 Zs152 f153 S0 hw0 SA SHI SLO FM P152_1 f155 (⟨by decide, by decide⟩) rg hf) hZ152 (hw _ (List.mem_of_getElem? (i := 121) rfl)) (hw _ (List.mem_of_getElem? (i := 120) rfl)) (by decide) (by decide)) (g := (mkF m 148 #[.val (.int p1), .val (.int p2), .val (.int p3), .val (.int p4), .val (.int p5), .val (.int p6), .val (.ref b101), .val (.ref b115), .val (.int off), .val (.int ln), .val (.ref b126), .val (.ref r_152)] [(.int (2 : Int32)), (.int ln), (.int off), (.ref b101), (.ref r_152)])) rfl (by rw [hml]; rfl) (argsL := [(.ref r_152), (.ref b101), (.int off), (.int ln), (.int (2 : Int32))]) (rest := []) (lenOf pd_31 rfl) rfl (by show 2 * 0 + _ ≤ _; exact Nat.le_of_eq rfl) (hb hby at_148) (fun _ _ => ⟨rfl, P163_0, (by decide : 12 + 0 ≤ _), (by decide : 131 + 0 ≤ _)⟩)
  dsimp only [Pt.U, Pt.locs, Pt.cells, Pt.slots] at X164 l164 y164 z164 st164 hQ164
  subst l164 y164 z164
  obtain ⟨rfl, N164q, P164_0⟩ := hQ164
  have N164 := Fr.app N163 N164q
  obtain ⟨_, _, ⟨T165, L165, k165, n165⟩, -, X165, ⟨Lc165, hQ165, l165, y165, z165⟩, st165⟩ := Jvm.LawKit.callS X164 hx (y := (⟨"com/example/lexiform/lexiform/logicalform/PhraseInPinLaw", "at", "(Ljava/lang/String;[CIII)Z"⟩ : MethodName)) ho152 (mvT hZ152 (hw _ (List.mem_of_getElem? (i := 118) rfl))) (mvT hZ152 (hw _ (List.mem_of_getElem? (i := 119) rfl))) (mvT hZ152 (hw _ (List.mem_of_getElem? (i := 120) rfl))) (mvT hZ152 (hw _ (List.mem_of_getElem? (i := 121) rfl))) (by decide) (backOf (W := 0) (rm23i3 l Z a0 hw [] r_152 b101 off ln w b_152 (4 : Int32) f T152.heap n0 Zs152 f153 S0 hw0 SA SHI SLO FM P152_1 f155 (⟨by decide, by decide⟩) rg hf) hZ152 (hw _ (List.mem_of_getElem? (i := 121) rfl)) (hw _ (List.mem_of_getElem? (i := 120) rfl)) (by decide) (by decide)) (g := (mkF m 163 #[.val (.int p1), .val (.int p2), .val (.int p3), .val (.int p4), .val (.int p5), .val (.int p6), .val (.ref b101), .val (.ref b115), .val (.int off), .val (.int ln), .val (.ref b126), .val (.ref r_152)] [(.int (3 : Int32)), (.int ln), (.int off), (.ref b101), (.ref r_152)])) rfl (by rw [hml]; rfl) (argsL := [(.ref r_152), (.ref b101), (.int off), (.int ln), (.int (3 : Int32))]) (rest := []) (lenOf pd_31 rfl) rfl (by show 2 * 0 + _ ≤ _; exact Nat.le_of_eq rfl) (hb hby at_163) (fun _ _ => ⟨rfl, P164_0, (by decide : 12 + 0 ≤ _), (by decide : 131 + 0 ≤ _)⟩)
  dsimp only [Pt.U, Pt.locs, Pt.cells, Pt.slots] at X165 l165 y165 z165 st165 hQ165
  subst l165 y165 z165
  obtain ⟨rfl, N165q, P165_0⟩ := hQ165
  have N165 := Fr.app N164 N165q
  obtain ⟨fs, hr, hrun, hended, hRW⟩ := Stand.leaveW (s := s) (vm₁ := T152.vm) X165 Sn152 (by rw [P165_0]; exact (Nat.le_refl _)) (v := some (.int (1 : Int32))) (fun h => by rw [Bd.returns] at h; cases h) hlk
  refine ⟨_, _, pre0 _ ?_, hrun, hended, _, _, rfl, ?_, own_rmono hRW (by decide) (by decide)⟩
  · show Steps p.tables e below (s₁.setTop (mkF m 0 #[.val (.int p1), .val (.int p2), .val (.int p3), .val (.int p4), .val (.int p5), .val (.int p6), .unset, .unset, .unset, .unset, .unset, .unset] [])) _
    refine XS.iconst X0.here hx rfl (hb hby at_0) ?_
    show Steps p.tables e below (s₁.setTop (mkF m 1 #[.val (.int p1), .val (.int p2), .val (.int p3), .val (.int p4), .val (.int p5), .val (.int p6), .unset, .unset, .unset, .unset, .unset, .unset] [(.int (4 : Int32))])) _
    refine st101 _ ?_
    show Steps p.tables e below (T101.setTop (mkF m 3 #[.val (.int p1), .val (.int p2), .val (.int p3), .val (.int p4), .val (.int p5), .val (.int p6), .unset, .unset, .unset, .unset, .unset, .unset] [(.ref b101)])) _
    refine XS.astore X101.here hx rfl (hb hby at_3) rfl rfl (l' := #[.val (.int p1), .val (.int p2), .val (.int p3), .val (.int p4), .val (.int p5), .val (.int p6), .val (.ref b101), .unset, .unset, .unset, .unset, .unset]) rfl ?_
    show Steps p.tables e below (T101.setTop (mkF m 5 #[.val (.int p1), .val (.int p2), .val (.int p3), .val (.int p4), .val (.int p5), .val (.int p6), .val (.ref b101), .unset, .unset, .unset, .unset, .unset] [])) _
    refine XS.aload X101.here hx rfl (hb hby at_5) rfl rfl ?_
    show Steps p.tables e below (T101.setTop (mkF m 7 #[.val (.int p1), .val (.int p2), .val (.int p3), .val (.int p4), .val (.int p5), .val (.int p6), .val (.ref b101), .unset, .unset, .unset, .unset, .unset] [(.ref b101)])) _
    refine XS.iconst X101.here hx rfl (hb hby at_7) ?_
    show Steps p.tables e below (T101.setTop (mkF m 8 #[.val (.int p1), .val (.int p2), .val (.int p3), .val (.int p4), .val (.int p5), .val (.int p6), .val (.ref b101), .unset, .unset, .unset, .unset, .unset] [(.int (0 : Int32)), (.ref b101)])) _
    refine XS.iloadN X101.here hx rfl (hb hby at_8) rfl ?_
    show Steps p.tables e below (T101.setTop (mkF m 9 #[.val (.int p1), .val (.int p2), .val (.int p3), .val (.int p4), .val (.int p5), .val (.int p6), .val (.ref b101), .unset, .unset, .unset, .unset, .unset] [(.int p1), (.int (0 : Int32)), (.ref b101)])) _
    refine X101.ldcI hx hown0 (mvT hZ0 (hw _ (List.mem_of_getElem? (i := 1) rfl))) (g := (mkF m 9 #[.val (.int p1), .val (.int p2), .val (.int p3), .val (.int p4), .val (.int p5), .val (.int p6), .val (.ref b101), .unset, .unset, .unset, .unset, .unset] [(.int p1), (.int (0 : Int32)), (.ref b101)])) rfl (hb hby at_9) ?_
    show Steps p.tables e below (T101.setTop (mkF m 11 #[.val (.int p1), .val (.int p2), .val (.int p3), .val (.int p4), .val (.int p5), .val (.int p6), .val (.ref b101), .unset, .unset, .unset, .unset, .unset] [(.int (65535 : Int32)), (.int p1), (.int (0 : Int32)), (.ref b101)])) _
    refine XS.iand X101.here hx rfl (hb hby at_11) rfl ?_
    show Steps p.tables e below (T101.setTop (mkF m 12 #[.val (.int p1), .val (.int p2), .val (.int p3), .val (.int p4), .val (.int p5), .val (.int p6), .val (.ref b101), .unset, .unset, .unset, .unset, .unset] [(.int (p1 &&& (65535 : Int32))), (.int (0 : Int32)), (.ref b101)])) _
    refine XS.i2c X101.here hx rfl (hb hby at_12) rfl ?_
    show Steps p.tables e below (T101.setTop (mkF m 13 #[.val (.int p1), .val (.int p2), .val (.int p3), .val (.int p4), .val (.int p5), .val (.int p6), .val (.ref b101), .unset, .unset, .unset, .unset, .unset] [(.int ((p1 &&& (65535 : Int32)).toUInt32.toUInt16.toUInt32.toInt32)), (.int (0 : Int32)), (.ref b101)])) _
    refine st104 _ ?_
    show Steps p.tables e below (T104.setTop (mkF m 14 #[.val (.int p1), .val (.int p2), .val (.int p3), .val (.int p4), .val (.int p5), .val (.int p6), .val (.ref b101), .unset, .unset, .unset, .unset, .unset] [])) _
    refine XS.aload X104.here hx rfl (hb hby at_14) rfl rfl ?_
    show Steps p.tables e below (T104.setTop (mkF m 16 #[.val (.int p1), .val (.int p2), .val (.int p3), .val (.int p4), .val (.int p5), .val (.int p6), .val (.ref b101), .unset, .unset, .unset, .unset, .unset] [(.ref b101)])) _
    refine XS.iconst X104.here hx rfl (hb hby at_16) ?_
    show Steps p.tables e below (T104.setTop (mkF m 17 #[.val (.int p1), .val (.int p2), .val (.int p3), .val (.int p4), .val (.int p5), .val (.int p6), .val (.ref b101), .unset, .unset, .unset, .unset, .unset] [(.int (1 : Int32)), (.ref b101)])) _
    refine XS.iloadN X104.here hx rfl (hb hby at_17) rfl ?_
    show Steps p.tables e below (T104.setTop (mkF m 18 #[.val (.int p1), .val (.int p2), .val (.int p3), .val (.int p4), .val (.int p5), .val (.int p6), .val (.ref b101), .unset, .unset, .unset, .unset, .unset] [(.int p2), (.int (1 : Int32)), (.ref b101)])) _
    refine X104.ldcI hx hown0 (mvT hZ0 (hw _ (List.mem_of_getElem? (i := 1) rfl))) (g := (mkF m 18 #[.val (.int p1), .val (.int p2), .val (.int p3), .val (.int p4), .val (.int p5), .val (.int p6), .val (.ref b101), .unset, .unset, .unset, .unset, .unset] [(.int p2), (.int (1 : Int32)), (.ref b101)])) rfl (hb hby at_18) ?_
    show Steps p.tables e below (T104.setTop (mkF m 20 #[.val (.int p1), .val (.int p2), .val (.int p3), .val (.int p4), .val (.int p5), .val (.int p6), .val (.ref b101), .unset, .unset, .unset, .unset, .unset] [(.int (65535 : Int32)), (.int p2), (.int (1 : Int32)), (.ref b101)])) _
    refine XS.iand X104.here hx rfl (hb hby at_20) rfl ?_
    show Steps p.tables e below (T104.setTop (mkF m 21 #[.val (.int p1), .val (.int p2), .val (.int p3), .val (.int p4), .val (.int p5), .val (.int p6), .val (.ref b101), .unset, .unset, .unset, .unset, .unset] [(.int (p2 &&& (65535 : Int32))), (.int (1 : Int32)), (.ref b101)])) _
    refine XS.i2c X104.here hx rfl (hb hby at_21) rfl ?_
    show Steps p.tables e below (T104.setTop (mkF m 22 #[.val (.int p1), .val (.int p2), .val (.int p3), .val (.int p4), .val (.int p5), .val (.int p6), .val (.ref b101), .unset, .unset, .unset, .unset, .unset] [(.int ((p2 &&& (65535 : Int32)).toUInt32.toUInt16.toUInt32.toInt32)), (.int (1 : Int32)), (.ref b101)])) _
    refine st107 _ ?_
    show Steps p.tables e below (T107.setTop (mkF m 23 #[.val (.int p1), .val (.int p2), .val (.int p3), .val (.int p4), .val (.int p5), .val (.int p6), .val (.ref b101), .unset, .unset, .unset, .unset, .unset] [])) _
    refine XS.aload X107.here hx rfl (hb hby at_23) rfl rfl ?_
    show Steps p.tables e below (T107.setTop (mkF m 25 #[.val (.int p1), .val (.int p2), .val (.int p3), .val (.int p4), .val (.int p5), .val (.int p6), .val (.ref b101), .unset, .unset, .unset, .unset, .unset] [(.ref b101)])) _
    refine XS.iconst X107.here hx rfl (hb hby at_25) ?_
    show Steps p.tables e below (T107.setTop (mkF m 26 #[.val (.int p1), .val (.int p2), .val (.int p3), .val (.int p4), .val (.int p5), .val (.int p6), .val (.ref b101), .unset, .unset, .unset, .unset, .unset] [(.int (2 : Int32)), (.ref b101)])) _
    refine XS.iloadN X107.here hx rfl (hb hby at_26) rfl ?_
    show Steps p.tables e below (T107.setTop (mkF m 27 #[.val (.int p1), .val (.int p2), .val (.int p3), .val (.int p4), .val (.int p5), .val (.int p6), .val (.ref b101), .unset, .unset, .unset, .unset, .unset] [(.int p3), (.int (2 : Int32)), (.ref b101)])) _
    refine X107.ldcI hx hown0 (mvT hZ0 (hw _ (List.mem_of_getElem? (i := 1) rfl))) (g := (mkF m 27 #[.val (.int p1), .val (.int p2), .val (.int p3), .val (.int p4), .val (.int p5), .val (.int p6), .val (.ref b101), .unset, .unset, .unset, .unset, .unset] [(.int p3), (.int (2 : Int32)), (.ref b101)])) rfl (hb hby at_27) ?_
    show Steps p.tables e below (T107.setTop (mkF m 29 #[.val (.int p1), .val (.int p2), .val (.int p3), .val (.int p4), .val (.int p5), .val (.int p6), .val (.ref b101), .unset, .unset, .unset, .unset, .unset] [(.int (65535 : Int32)), (.int p3), (.int (2 : Int32)), (.ref b101)])) _
    refine XS.iand X107.here hx rfl (hb hby at_29) rfl ?_
    show Steps p.tables e below (T107.setTop (mkF m 30 #[.val (.int p1), .val (.int p2), .val (.int p3), .val (.int p4), .val (.int p5), .val (.int p6), .val (.ref b101), .unset, .unset, .unset, .unset, .unset] [(.int (p3 &&& (65535 : Int32))), (.int (2 : Int32)), (.ref b101)])) _
    refine XS.i2c X107.here hx rfl (hb hby at_30) rfl ?_
    show Steps p.tables e below (T107.setTop (mkF m 31 #[.val (.int p1), .val (.int p2), .val (.int p3), .val (.int p4), .val (.int p5), .val (.int p6), .val (.ref b101), .unset, .unset, .unset, .unset, .unset] [(.int ((p3 &&& (65535 : Int32)).toUInt32.toUInt16.toUInt32.toInt32)), (.int (2 : Int32)), (.ref b101)])) _
    refine st110 _ ?_
    show Steps p.tables e below (T110.setTop (mkF m 32 #[.val (.int p1), .val (.int p2), .val (.int p3), .val (.int p4), .val (.int p5), .val (.int p6), .val (.ref b101), .unset, .unset, .unset, .unset, .unset] [])) _
    refine XS.aload X110.here hx rfl (hb hby at_32) rfl rfl ?_
    show Steps p.tables e below (T110.setTop (mkF m 34 #[.val (.int p1), .val (.int p2), .val (.int p3), .val (.int p4), .val (.int p5), .val (.int p6), .val (.ref b101), .unset, .unset, .unset, .unset, .unset] [(.ref b101)])) _
    refine XS.iconst X110.here hx rfl (hb hby at_34) ?_
    show Steps p.tables e below (T110.setTop (mkF m 35 #[.val (.int p1), .val (.int p2), .val (.int p3), .val (.int p4), .val (.int p5), .val (.int p6), .val (.ref b101), .unset, .unset, .unset, .unset, .unset] [(.int (3 : Int32)), (.ref b101)])) _
    refine XS.iloadN X110.here hx rfl (hb hby at_35) rfl ?_
    show Steps p.tables e below (T110.setTop (mkF m 36 #[.val (.int p1), .val (.int p2), .val (.int p3), .val (.int p4), .val (.int p5), .val (.int p6), .val (.ref b101), .unset, .unset, .unset, .unset, .unset] [(.int p4), (.int (3 : Int32)), (.ref b101)])) _
    refine X110.ldcI hx hown0 (mvT hZ0 (hw _ (List.mem_of_getElem? (i := 1) rfl))) (g := (mkF m 36 #[.val (.int p1), .val (.int p2), .val (.int p3), .val (.int p4), .val (.int p5), .val (.int p6), .val (.ref b101), .unset, .unset, .unset, .unset, .unset] [(.int p4), (.int (3 : Int32)), (.ref b101)])) rfl (hb hby at_36) ?_
    show Steps p.tables e below (T110.setTop (mkF m 38 #[.val (.int p1), .val (.int p2), .val (.int p3), .val (.int p4), .val (.int p5), .val (.int p6), .val (.ref b101), .unset, .unset, .unset, .unset, .unset] [(.int (65535 : Int32)), (.int p4), (.int (3 : Int32)), (.ref b101)])) _
    refine XS.iand X110.here hx rfl (hb hby at_38) rfl ?_
    show Steps p.tables e below (T110.setTop (mkF m 39 #[.val (.int p1), .val (.int p2), .val (.int p3), .val (.int p4), .val (.int p5), .val (.int p6), .val (.ref b101), .unset, .unset, .unset, .unset, .unset] [(.int (p4 &&& (65535 : Int32))), (.int (3 : Int32)), (.ref b101)])) _
    refine XS.i2c X110.here hx rfl (hb hby at_39) rfl ?_
    show Steps p.tables e below (T110.setTop (mkF m 40 #[.val (.int p1), .val (.int p2), .val (.int p3), .val (.int p4), .val (.int p5), .val (.int p6), .val (.ref b101), .unset, .unset, .unset, .unset, .unset] [(.int ((p4 &&& (65535 : Int32)).toUInt32.toUInt16.toUInt32.toInt32)), (.int (3 : Int32)), (.ref b101)])) _
    refine st113 _ ?_
    show Steps p.tables e below (T113.setTop (mkF m 41 #[.val (.int p1), .val (.int p2), .val (.int p3), .val (.int p4), .val (.int p5), .val (.int p6), .val (.ref b101), .unset, .unset, .unset, .unset, .unset] [])) _
    refine st115 _ ?_
    show Steps p.tables e below (T115.setTop (mkF m 44 #[.val (.int p1), .val (.int p2), .val (.int p3), .val (.int p4), .val (.int p5), .val (.int p6), .val (.ref b101), .unset, .unset, .unset, .unset, .unset] [(.ref b115)])) _
    refine XS.dup X115.here hx rfl (hb hby at_44) rfl rfl ?_
    show Steps p.tables e below (T115.setTop (mkF m 45 #[.val (.int p1), .val (.int p2), .val (.int p3), .val (.int p4), .val (.int p5), .val (.int p6), .val (.ref b101), .unset, .unset, .unset, .unset, .unset] [(.ref b115), (.ref b115)])) _
    refine XS.aload X115.here hx rfl (hb hby at_45) rfl rfl ?_
    show Steps p.tables e below (T115.setTop (mkF m 47 #[.val (.int p1), .val (.int p2), .val (.int p3), .val (.int p4), .val (.int p5), .val (.int p6), .val (.ref b101), .unset, .unset, .unset, .unset, .unset] [(.ref b101), (.ref b115), (.ref b115)])) _
    refine st121.trans ?_
    show Steps p.tables e below (T121.setTop (mkF m 50 #[.val (.int p1), .val (.int p2), .val (.int p3), .val (.int p4), .val (.int p5), .val (.int p6), .val (.ref b101), .unset, .unset, .unset, .unset, .unset] [(.ref b115)])) _
    refine XS.astore X121.here hx rfl (hb hby at_50) rfl rfl (l' := #[.val (.int p1), .val (.int p2), .val (.int p3), .val (.int p4), .val (.int p5), .val (.int p6), .val (.ref b101), .val (.ref b115), .unset, .unset, .unset, .unset]) rfl ?_
    show Steps p.tables e below (T121.setTop (mkF m 52 #[.val (.int p1), .val (.int p2), .val (.int p3), .val (.int p4), .val (.int p5), .val (.int p6), .val (.ref b101), .val (.ref b115), .unset, .unset, .unset, .unset] [])) _
    refine XS.iload X121.here hx rfl (hb hby at_52) rfl ?_
    show Steps p.tables e below (T121.setTop (mkF m 54 #[.val (.int p1), .val (.int p2), .val (.int p3), .val (.int p4), .val (.int p5), .val (.int p6), .val (.ref b101), .val (.ref b115), .unset, .unset, .unset, .unset] [(.int p5)])) _
    refine X121.ldcI hx hown0 (mvT hZ0 (hw _ (List.mem_of_getElem? (i := 31) rfl))) (g := (mkF m 54 #[.val (.int p1), .val (.int p2), .val (.int p3), .val (.int p4), .val (.int p5), .val (.int p6), .val (.ref b101), .val (.ref b115), .unset, .unset, .unset, .unset] [(.int p5)])) rfl (hb hby at_54) ?_
    show Steps p.tables e below (T121.setTop (mkF m 56 #[.val (.int p1), .val (.int p2), .val (.int p3), .val (.int p4), .val (.int p5), .val (.int p6), .val (.ref b101), .val (.ref b115), .unset, .unset, .unset, .unset] [(.int (2147483647 : Int32)), (.int p5)])) _
    refine XS.iand X121.here hx rfl (hb hby at_56) rfl ?_
    show Steps p.tables e below (T121.setTop (mkF m 57 #[.val (.int p1), .val (.int p2), .val (.int p3), .val (.int p4), .val (.int p5), .val (.int p6), .val (.ref b101), .val (.ref b115), .unset, .unset, .unset, .unset] [(.int (p5 &&& (2147483647 : Int32)))])) _
    refine XS.iconst X121.here hx rfl (hb hby at_57) ?_
    show Steps p.tables e below (T121.setTop (mkF m 58 #[.val (.int p1), .val (.int p2), .val (.int p3), .val (.int p4), .val (.int p5), .val (.int p6), .val (.ref b101), .val (.ref b115), .unset, .unset, .unset, .unset] [(.int (5 : Int32)), (.int (p5 &&& (2147483647 : Int32)))])) _
    refine iremM X121 hx rfl (hb hby at_58) rfl (by decide) ?_
    show Steps p.tables e below (T121.setTop (mkF m 59 #[.val (.int p1), .val (.int p2), .val (.int p3), .val (.int p4), .val (.int p5), .val (.int p6), .val (.ref b101), .val (.ref b115), .unset, .unset, .unset, .unset] [(.int ((p5 &&& (2147483647 : Int32)) % (5 : Int32)))])) _
    rw [← eo]
    show Steps p.tables e below (T121.setTop (mkF m 59 #[.val (.int p1), .val (.int p2), .val (.int p3), .val (.int p4), .val (.int p5), .val (.int p6), .val (.ref b101), .val (.ref b115), .unset, .unset, .unset, .unset] [(.int off)])) _
    refine XS.istore X121.here hx rfl (hb hby at_59) rfl (l' := #[.val (.int p1), .val (.int p2), .val (.int p3), .val (.int p4), .val (.int p5), .val (.int p6), .val (.ref b101), .val (.ref b115), .val (.int off), .unset, .unset, .unset]) rfl ?_
    show Steps p.tables e below (T121.setTop (mkF m 61 #[.val (.int p1), .val (.int p2), .val (.int p3), .val (.int p4), .val (.int p5), .val (.int p6), .val (.ref b101), .val (.ref b115), .val (.int off), .unset, .unset, .unset] [])) _
    refine XS.iload X121.here hx rfl (hb hby at_61) rfl ?_
    show Steps p.tables e below (T121.setTop (mkF m 63 #[.val (.int p1), .val (.int p2), .val (.int p3), .val (.int p4), .val (.int p5), .val (.int p6), .val (.ref b101), .val (.ref b115), .val (.int off), .unset, .unset, .unset] [(.int p6)])) _
    refine X121.ldcI hx hown0 (mvT hZ0 (hw _ (List.mem_of_getElem? (i := 31) rfl))) (g := (mkF m 63 #[.val (.int p1), .val (.int p2), .val (.int p3), .val (.int p4), .val (.int p5), .val (.int p6), .val (.ref b101), .val (.ref b115), .val (.int off), .unset, .unset, .unset] [(.int p6)])) rfl (hb hby at_63) ?_
    show Steps p.tables e below (T121.setTop (mkF m 65 #[.val (.int p1), .val (.int p2), .val (.int p3), .val (.int p4), .val (.int p5), .val (.int p6), .val (.ref b101), .val (.ref b115), .val (.int off), .unset, .unset, .unset] [(.int (2147483647 : Int32)), (.int p6)])) _
    refine XS.iand X121.here hx rfl (hb hby at_65) rfl ?_
    show Steps p.tables e below (T121.setTop (mkF m 66 #[.val (.int p1), .val (.int p2), .val (.int p3), .val (.int p4), .val (.int p5), .val (.int p6), .val (.ref b101), .val (.ref b115), .val (.int off), .unset, .unset, .unset] [(.int (p6 &&& (2147483647 : Int32)))])) _
    refine XS.iconst X121.here hx rfl (hb hby at_66) ?_
    show Steps p.tables e below (T121.setTop (mkF m 67 #[.val (.int p1), .val (.int p2), .val (.int p3), .val (.int p4), .val (.int p5), .val (.int p6), .val (.ref b101), .val (.ref b115), .val (.int off), .unset, .unset, .unset] [(.int (5 : Int32)), (.int (p6 &&& (2147483647 : Int32)))])) _
    refine XS.iload X121.here hx rfl (hb hby at_67) rfl ?_
    show Steps p.tables e below (T121.setTop (mkF m 69 #[.val (.int p1), .val (.int p2), .val (.int p3), .val (.int p4), .val (.int p5), .val (.int p6), .val (.ref b101), .val (.ref b115), .val (.int off), .unset, .unset, .unset] [(.int off), (.int (5 : Int32)), (.int (p6 &&& (2147483647 : Int32)))])) _
    refine XS.isub X121.here hx rfl (hb hby at_69) rfl ?_
    show Steps p.tables e below (T121.setTop (mkF m 70 #[.val (.int p1), .val (.int p2), .val (.int p3), .val (.int p4), .val (.int p5), .val (.int p6), .val (.ref b101), .val (.ref b115), .val (.int off), .unset, .unset, .unset] [(.int ((5 : Int32) - off)), (.int (p6 &&& (2147483647 : Int32)))])) _
    refine iremM X121 hx rfl (hb hby at_70) rfl (own_nzm eo) ?_
    show Steps p.tables e below (T121.setTop (mkF m 71 #[.val (.int p1), .val (.int p2), .val (.int p3), .val (.int p4), .val (.int p5), .val (.int p6), .val (.ref b101), .val (.ref b115), .val (.int off), .unset, .unset, .unset] [(.int ((p6 &&& (2147483647 : Int32)) % ((5 : Int32) - off)))])) _
    rw [← el]
    show Steps p.tables e below (T121.setTop (mkF m 71 #[.val (.int p1), .val (.int p2), .val (.int p3), .val (.int p4), .val (.int p5), .val (.int p6), .val (.ref b101), .val (.ref b115), .val (.int off), .unset, .unset, .unset] [(.int ln)])) _
    refine XS.istore X121.here hx rfl (hb hby at_71) rfl (l' := #[.val (.int p1), .val (.int p2), .val (.int p3), .val (.int p4), .val (.int p5), .val (.int p6), .val (.ref b101), .val (.ref b115), .val (.int off), .val (.int ln), .unset, .unset]) rfl ?_
    show Steps p.tables e below (T121.setTop (mkF m 73 #[.val (.int p1), .val (.int p2), .val (.int p3), .val (.int p4), .val (.int p5), .val (.int p6), .val (.ref b101), .val (.ref b115), .val (.int off), .val (.int ln), .unset, .unset] [])) _
    refine st126 _ ?_
    show Steps p.tables e below (T126.setTop (mkF m 76 #[.val (.int p1), .val (.int p2), .val (.int p3), .val (.int p4), .val (.int p5), .val (.int p6), .val (.ref b101), .val (.ref b115), .val (.int off), .val (.int ln), .unset, .unset] [(.ref b126)])) _
    refine XS.dup X126.here hx rfl (hb hby at_76) rfl rfl ?_
    show Steps p.tables e below (T126.setTop (mkF m 77 #[.val (.int p1), .val (.int p2), .val (.int p3), .val (.int p4), .val (.int p5), .val (.int p6), .val (.ref b101), .val (.ref b115), .val (.int off), .val (.int ln), .unset, .unset] [(.ref b126), (.ref b126)])) _
    refine st135 _ ?_
    show Steps p.tables e below (T135.setTop (mkF m 79 #[.val (.int p1), .val (.int p2), .val (.int p3), .val (.int p4), .val (.int p5), .val (.int p6), .val (.ref b101), .val (.ref b115), .val (.int off), .val (.int ln), .unset, .unset] [(.ref sa135), (.ref b126), (.ref b126)])) _
    refine XS.iload X135.here hx rfl (hb hby at_79) rfl ?_
    show Steps p.tables e below (T135.setTop (mkF m 81 #[.val (.int p1), .val (.int p2), .val (.int p3), .val (.int p4), .val (.int p5), .val (.int p6), .val (.ref b101), .val (.ref b115), .val (.int off), .val (.int ln), .unset, .unset] [(.int off), (.ref sa135), (.ref b126), (.ref b126)])) _
    refine XS.iload X135.here hx rfl (hb hby at_81) rfl ?_
    show Steps p.tables e below (T135.setTop (mkF m 83 #[.val (.int p1), .val (.int p2), .val (.int p3), .val (.int p4), .val (.int p5), .val (.int p6), .val (.ref b101), .val (.ref b115), .val (.int off), .val (.int ln), .unset, .unset] [(.int ln), (.int off), (.ref sa135), (.ref b126), (.ref b126)])) _
    refine st145.trans ?_
    show Steps p.tables e below (T145.setTop (mkF m 86 #[.val (.int p1), .val (.int p2), .val (.int p3), .val (.int p4), .val (.int p5), .val (.int p6), .val (.ref b101), .val (.ref b115), .val (.int off), .val (.int ln), .unset, .unset] [(.ref b126)])) _
    refine XS.astore X145.here hx rfl (hb hby at_86) rfl rfl (l' := #[.val (.int p1), .val (.int p2), .val (.int p3), .val (.int p4), .val (.int p5), .val (.int p6), .val (.ref b101), .val (.ref b115), .val (.int off), .val (.int ln), .val (.ref b126), .unset]) rfl ?_
    show Steps p.tables e below (T145.setTop (mkF m 88 #[.val (.int p1), .val (.int p2), .val (.int p3), .val (.int p4), .val (.int p5), .val (.int p6), .val (.ref b101), .val (.ref b115), .val (.int off), .val (.int ln), .val (.ref b126), .unset] [])) _
    refine XS.aload X145.here hx rfl (hb hby at_88) rfl rfl ?_
    show Steps p.tables e below (T145.setTop (mkF m 90 #[.val (.int p1), .val (.int p2), .val (.int p3), .val (.int p4), .val (.int p5), .val (.int p6), .val (.ref b101), .val (.ref b115), .val (.int off), .val (.int ln), .val (.ref b126), .unset] [(.ref b126)])) _
    refine XS.aload X145.here hx rfl (hb hby at_90) rfl rfl ?_
    show Steps p.tables e below (T145.setTop (mkF m 92 #[.val (.int p1), .val (.int p2), .val (.int p3), .val (.int p4), .val (.int p5), .val (.int p6), .val (.ref b101), .val (.ref b115), .val (.int off), .val (.int ln), .val (.ref b126), .unset] [(.ref b115), (.ref b126)])) _
    refine st152.trans ?_
    show Steps p.tables e below (T152.setTop (mkF m 95 #[.val (.int p1), .val (.int p2), .val (.int p3), .val (.int p4), .val (.int p5), .val (.int p6), .val (.ref b101), .val (.ref b115), .val (.int off), .val (.int ln), .val (.ref b126), .unset] [(.ref r_152)])) _
    refine XS.astore X152.here hx rfl (hb hby at_95) rfl rfl (l' := #[.val (.int p1), .val (.int p2), .val (.int p3), .val (.int p4), .val (.int p5), .val (.int p6), .val (.ref b101), .val (.ref b115), .val (.int off), .val (.int ln), .val (.ref b126), .val (.ref r_152)]) rfl ?_
    show Steps p.tables e below (T152.setTop (mkF m 97 #[.val (.int p1), .val (.int p2), .val (.int p3), .val (.int p4), .val (.int p5), .val (.int p6), .val (.ref b101), .val (.ref b115), .val (.int off), .val (.int ln), .val (.ref b126), .val (.ref r_152)] [])) _
    refine XS.aload X152.here hx rfl (hb hby at_97) rfl rfl ?_
    show Steps p.tables e below (T152.setTop (mkF m 99 #[.val (.int p1), .val (.int p2), .val (.int p3), .val (.int p4), .val (.int p5), .val (.int p6), .val (.ref b101), .val (.ref b115), .val (.int off), .val (.int ln), .val (.ref b126), .val (.ref r_152)] [(.ref r_152)])) _
    refine st161.trans ?_
    show Steps p.tables e below (T161.setTop (mkF m 102 #[.val (.int p1), .val (.int p2), .val (.int p3), .val (.int p4), .val (.int p5), .val (.int p6), .val (.ref b101), .val (.ref b115), .val (.int off), .val (.int ln), .val (.ref b126), .val (.ref r_152)] [(.int ln)])) _
    refine XS.iload X161.here hx rfl (hb hby at_102) rfl ?_
    show Steps p.tables e below (T161.setTop (mkF m 104 #[.val (.int p1), .val (.int p2), .val (.int p3), .val (.int p4), .val (.int p5), .val (.int p6), .val (.ref b101), .val (.ref b115), .val (.int off), .val (.int ln), .val (.ref b126), .val (.ref r_152)] [(.int ln), (.int ln)])) _
    refine XS.icmpYes X161.here hx rfl (pc0 := 104) (pc' := 109) rfl (hb hby at_104) rfl (teq (rfl : ln = ln)).1 (by decide) (by decide) ?_
    show Steps p.tables e below (T161.setTop (mkF m 109 #[.val (.int p1), .val (.int p2), .val (.int p3), .val (.int p4), .val (.int p5), .val (.int p6), .val (.ref b101), .val (.ref b115), .val (.int off), .val (.int ln), .val (.ref b126), .val (.ref r_152)] [])) _
    refine XS.aload X161.here hx rfl (hb hby at_109) rfl rfl ?_
    show Steps p.tables e below (T161.setTop (mkF m 111 #[.val (.int p1), .val (.int p2), .val (.int p3), .val (.int p4), .val (.int p5), .val (.int p6), .val (.ref b101), .val (.ref b115), .val (.int off), .val (.int ln), .val (.ref b126), .val (.ref r_152)] [(.ref r_152)])) _
    refine XS.aload X161.here hx rfl (hb hby at_111) rfl rfl ?_
    show Steps p.tables e below (T161.setTop (mkF m 113 #[.val (.int p1), .val (.int p2), .val (.int p3), .val (.int p4), .val (.int p5), .val (.int p6), .val (.ref b101), .val (.ref b115), .val (.int off), .val (.int ln), .val (.ref b126), .val (.ref r_152)] [(.ref b101), (.ref r_152)])) _
    refine XS.iload X161.here hx rfl (hb hby at_113) rfl ?_
    show Steps p.tables e below (T161.setTop (mkF m 115 #[.val (.int p1), .val (.int p2), .val (.int p3), .val (.int p4), .val (.int p5), .val (.int p6), .val (.ref b101), .val (.ref b115), .val (.int off), .val (.int ln), .val (.ref b126), .val (.ref r_152)] [(.int off), (.ref b101), (.ref r_152)])) _
    refine XS.iload X161.here hx rfl (hb hby at_115) rfl ?_
    show Steps p.tables e below (T161.setTop (mkF m 117 #[.val (.int p1), .val (.int p2), .val (.int p3), .val (.int p4), .val (.int p5), .val (.int p6), .val (.ref b101), .val (.ref b115), .val (.int off), .val (.int ln), .val (.ref b126), .val (.ref r_152)] [(.int ln), (.int off), (.ref b101), (.ref r_152)])) _
    refine XS.iconst X161.here hx rfl (hb hby at_117) ?_
    show Steps p.tables e below (T161.setTop (mkF m 118 #[.val (.int p1), .val (.int p2), .val (.int p3), .val (.int p4), .val (.int p5), .val (.int p6), .val (.ref b101), .val (.ref b115), .val (.int off), .val (.int ln), .val (.ref b126), .val (.ref r_152)] [(.int (0 : Int32)), (.int ln), (.int off), (.ref b101), (.ref r_152)])) _
    refine st162 _ ?_
    show Steps p.tables e below (T162.setTop (mkF m 121 #[.val (.int p1), .val (.int p2), .val (.int p3), .val (.int p4), .val (.int p5), .val (.int p6), .val (.ref b101), .val (.ref b115), .val (.int off), .val (.int ln), .val (.ref b126), .val (.ref r_152)] [(.int (1 : Int32))])) _
    refine XS.ifNo X162.here hx rfl (hb hby at_121) rfl ((if0 _ _).trans (feq (by decide : ¬ ((1 : Int32) = (0 : Int32)))).1) ?_
    show Steps p.tables e below (T162.setTop (mkF m 124 #[.val (.int p1), .val (.int p2), .val (.int p3), .val (.int p4), .val (.int p5), .val (.int p6), .val (.ref b101), .val (.ref b115), .val (.int off), .val (.int ln), .val (.ref b126), .val (.ref r_152)] [])) _
    refine XS.aload X162.here hx rfl (hb hby at_124) rfl rfl ?_
    show Steps p.tables e below (T162.setTop (mkF m 126 #[.val (.int p1), .val (.int p2), .val (.int p3), .val (.int p4), .val (.int p5), .val (.int p6), .val (.ref b101), .val (.ref b115), .val (.int off), .val (.int ln), .val (.ref b126), .val (.ref r_152)] [(.ref r_152)])) _
    refine XS.aload X162.here hx rfl (hb hby at_126) rfl rfl ?_
    show Steps p.tables e below (T162.setTop (mkF m 128 #[.val (.int p1), .val (.int p2), .val (.int p3), .val (.int p4), .val (.int p5), .val (.int p6), .val (.ref b101), .val (.ref b115), .val (.int off), .val (.int ln), .val (.ref b126), .val (.ref r_152)] [(.ref b101), (.ref r_152)])) _
    refine XS.iload X162.here hx rfl (hb hby at_128) rfl ?_
    show Steps p.tables e below (T162.setTop (mkF m 130 #[.val (.int p1), .val (.int p2), .val (.int p3), .val (.int p4), .val (.int p5), .val (.int p6), .val (.ref b101), .val (.ref b115), .val (.int off), .val (.int ln), .val (.ref b126), .val (.ref r_152)] [(.int off), (.ref b101), (.ref r_152)])) _
    refine XS.iload X162.here hx rfl (hb hby at_130) rfl ?_
    show Steps p.tables e below (T162.setTop (mkF m 132 #[.val (.int p1), .val (.int p2), .val (.int p3), .val (.int p4), .val (.int p5), .val (.int p6), .val (.ref b101), .val (.ref b115), .val (.int off), .val (.int ln), .val (.ref b126), .val (.ref r_152)] [(.int ln), (.int off), (.ref b101), (.ref r_152)])) _
    refine XS.iconst X162.here hx rfl (hb hby at_132) ?_
    show Steps p.tables e below (T162.setTop (mkF m 133 #[.val (.int p1), .val (.int p2), .val (.int p3), .val (.int p4), .val (.int p5), .val (.int p6), .val (.ref b101), .val (.ref b115), .val (.int off), .val (.int ln), .val (.ref b126), .val (.ref r_152)] [(.int (1 : Int32)), (.int ln), (.int off), (.ref b101), (.ref r_152)])) _
    refine st163 _ ?_
    show Steps p.tables e below (T163.setTop (mkF m 136 #[.val (.int p1), .val (.int p2), .val (.int p3), .val (.int p4), .val (.int p5), .val (.int p6), .val (.ref b101), .val (.ref b115), .val (.int off), .val (.int ln), .val (.ref b126), .val (.ref r_152)] [(.int (1 : Int32))])) _
    refine XS.ifNo X163.here hx rfl (hb hby at_136) rfl ((if0 _ _).trans (feq (by decide : ¬ ((1 : Int32) = (0 : Int32)))).1) ?_
    show Steps p.tables e below (T163.setTop (mkF m 139 #[.val (.int p1), .val (.int p2), .val (.int p3), .val (.int p4), .val (.int p5), .val (.int p6), .val (.ref b101), .val (.ref b115), .val (.int off), .val (.int ln), .val (.ref b126), .val (.ref r_152)] [])) _
    refine XS.aload X163.here hx rfl (hb hby at_139) rfl rfl ?_
    show Steps p.tables e below (T163.setTop (mkF m 141 #[.val (.int p1), .val (.int p2), .val (.int p3), .val (.int p4), .val (.int p5), .val (.int p6), .val (.ref b101), .val (.ref b115), .val (.int off), .val (.int ln), .val (.ref b126), .val (.ref r_152)] [(.ref r_152)])) _
    refine XS.aload X163.here hx rfl (hb hby at_141) rfl rfl ?_
    show Steps p.tables e below (T163.setTop (mkF m 143 #[.val (.int p1), .val (.int p2), .val (.int p3), .val (.int p4), .val (.int p5), .val (.int p6), .val (.ref b101), .val (.ref b115), .val (.int off), .val (.int ln), .val (.ref b126), .val (.ref r_152)] [(.ref b101), (.ref r_152)])) _
    refine XS.iload X163.here hx rfl (hb hby at_143) rfl ?_
    show Steps p.tables e below (T163.setTop (mkF m 145 #[.val (.int p1), .val (.int p2), .val (.int p3), .val (.int p4), .val (.int p5), .val (.int p6), .val (.ref b101), .val (.ref b115), .val (.int off), .val (.int ln), .val (.ref b126), .val (.ref r_152)] [(.int off), (.ref b101), (.ref r_152)])) _
    refine XS.iload X163.here hx rfl (hb hby at_145) rfl ?_
    show Steps p.tables e below (T163.setTop (mkF m 147 #[.val (.int p1), .val (.int p2), .val (.int p3), .val (.int p4), .val (.int p5), .val (.int p6), .val (.ref b101), .val (.ref b115), .val (.int off), .val (.int ln), .val (.ref b126), .val (.ref r_152)] [(.int ln), (.int off), (.ref b101), (.ref r_152)])) _
    refine XS.iconst X163.here hx rfl (hb hby at_147) ?_
    show Steps p.tables e below (T163.setTop (mkF m 148 #[.val (.int p1), .val (.int p2), .val (.int p3), .val (.int p4), .val (.int p5), .val (.int p6), .val (.ref b101), .val (.ref b115), .val (.int off), .val (.int ln), .val (.ref b126), .val (.ref r_152)] [(.int (2 : Int32)), (.int ln), (.int off), (.ref b101), (.ref r_152)])) _
    refine st164 _ ?_
    show Steps p.tables e below (T164.setTop (mkF m 151 #[.val (.int p1), .val (.int p2), .val (.int p3), .val (.int p4), .val (.int p5), .val (.int p6), .val (.ref b101), .val (.ref b115), .val (.int off), .val (.int ln), .val (.ref b126), .val (.ref r_152)] [(.int (1 : Int32))])) _
    refine XS.ifNo X164.here hx rfl (hb hby at_151) rfl ((if0 _ _).trans (feq (by decide : ¬ ((1 : Int32) = (0 : Int32)))).1) ?_
    show Steps p.tables e below (T164.setTop (mkF m 154 #[.val (.int p1), .val (.int p2), .val (.int p3), .val (.int p4), .val (.int p5), .val (.int p6), .val (.ref b101), .val (.ref b115), .val (.int off), .val (.int ln), .val (.ref b126), .val (.ref r_152)] [])) _
    refine XS.aload X164.here hx rfl (hb hby at_154) rfl rfl ?_
    show Steps p.tables e below (T164.setTop (mkF m 156 #[.val (.int p1), .val (.int p2), .val (.int p3), .val (.int p4), .val (.int p5), .val (.int p6), .val (.ref b101), .val (.ref b115), .val (.int off), .val (.int ln), .val (.ref b126), .val (.ref r_152)] [(.ref r_152)])) _
    refine XS.aload X164.here hx rfl (hb hby at_156) rfl rfl ?_
    show Steps p.tables e below (T164.setTop (mkF m 158 #[.val (.int p1), .val (.int p2), .val (.int p3), .val (.int p4), .val (.int p5), .val (.int p6), .val (.ref b101), .val (.ref b115), .val (.int off), .val (.int ln), .val (.ref b126), .val (.ref r_152)] [(.ref b101), (.ref r_152)])) _
    refine XS.iload X164.here hx rfl (hb hby at_158) rfl ?_
    show Steps p.tables e below (T164.setTop (mkF m 160 #[.val (.int p1), .val (.int p2), .val (.int p3), .val (.int p4), .val (.int p5), .val (.int p6), .val (.ref b101), .val (.ref b115), .val (.int off), .val (.int ln), .val (.ref b126), .val (.ref r_152)] [(.int off), (.ref b101), (.ref r_152)])) _
    refine XS.iload X164.here hx rfl (hb hby at_160) rfl ?_
    show Steps p.tables e below (T164.setTop (mkF m 162 #[.val (.int p1), .val (.int p2), .val (.int p3), .val (.int p4), .val (.int p5), .val (.int p6), .val (.ref b101), .val (.ref b115), .val (.int off), .val (.int ln), .val (.ref b126), .val (.ref r_152)] [(.int ln), (.int off), (.ref b101), (.ref r_152)])) _
    refine XS.iconst X164.here hx rfl (hb hby at_162) ?_
    show Steps p.tables e below (T164.setTop (mkF m 163 #[.val (.int p1), .val (.int p2), .val (.int p3), .val (.int p4), .val (.int p5), .val (.int p6), .val (.ref b101), .val (.ref b115), .val (.int off), .val (.int ln), .val (.ref b126), .val (.ref r_152)] [(.int (3 : Int32)), (.int ln), (.int off), (.ref b101), (.ref r_152)])) _
    refine st165 _ ?_
    show Steps p.tables e below (T165.setTop (mkF m 166 #[.val (.int p1), .val (.int p2), .val (.int p3), .val (.int p4), .val (.int p5), .val (.int p6), .val (.ref b101), .val (.ref b115), .val (.int off), .val (.int ln), .val (.ref b126), .val (.ref r_152)] [(.int (1 : Int32))])) _
    refine XS.ifNo X165.here hx rfl (hb hby at_166) rfl ((if0 _ _).trans (feq (by decide : ¬ ((1 : Int32) = (0 : Int32)))).1) ?_
    show Steps p.tables e below (T165.setTop (mkF m 169 #[.val (.int p1), .val (.int p2), .val (.int p3), .val (.int p4), .val (.int p5), .val (.int p6), .val (.ref b101), .val (.ref b115), .val (.int off), .val (.int ln), .val (.ref b126), .val (.ref r_152)] [])) _
    refine XS.iconst X165.here hx rfl (hb hby at_169) ?_
    show Steps p.tables e below (T165.setTop (mkF m 170 #[.val (.int p1), .val (.int p2), .val (.int p3), .val (.int p4), .val (.int p5), .val (.int p6), .val (.ref b101), .val (.ref b115), .val (.int off), .val (.int ln), .val (.ref b126), .val (.ref r_152)] [(.int (1 : Int32))])) _
    refine XS.goto X165.here hx rfl (pc0 := 170) (pc' := 174) rfl (hb hby at_170) (by decide) (by decide) ?_
    show Steps p.tables e below (T165.setTop (mkF m 174 #[.val (.int p1), .val (.int p2), .val (.int p3), .val (.int p4), .val (.int p5), .val (.int p6), .val (.ref b101), .val (.ref b115), .val (.int off), .val (.int ln), .val (.ref b126), .val (.ref r_152)] [(.int (1 : Int32))])) _
    exact retN X165 hx (t := .boolean) Bd.returns (by simp) (hb hby at_174) hr
  · show Q0 Z p1 p2 p3 p4 p5 p6 w h0 n0 _ T165.heap _
    rw [P165_0]
    exact ⟨rfl, N165⟩
set_option maxRecDepth 65536 in
set_option maxHeartbeats 40000000 in
theorem comes_1 {Post : Tables → Env → Array Value → State → Outcome → State → Prop} (hpost : ∀ tb e args s v u, (limb_1_1.after args s (.returned v) u = true ∧ limb_1_2.after args s (.returned v) u = true ∧ True) → ReturnedEndW s (.returned v) u (Jvm.fieldLocs frame_1_writes args s ++ Jvm.arrayLocs frame_1_arrays args s ++ Jvm.staticLocs frame_1_statics s) 32 4288 → Post tb e args s (.returned v) u) :
    ArmFor flags0 classFile x code maxLocals ret World_1 tables_1 room_1 Calls_1 rest_1 Pre_1 Post := by
  intro l hfl _ _ p e ha hc hk s m args below hf hA hF happ hP
  obtain ⟨hcalls, hrest, hpre⟩ := hP
  obtain ⟨-, -, -, hnamed, -, -, -, hat⟩ := (Spec.applies_iff hf).mp happ
  obtain ⟨hg, hn⟩ := and_e (Cond.before_iff.mp (show (Jvm.Cond.and given_1 narrow_1).before args s = true from hpre))
  obtain ⟨gg1, gg2⟩ := and_e hg
  obtain ⟨gg3, gg4⟩ := and_e gg2
  obtain ⟨gg5, gg6⟩ := and_e gg4
  obtain ⟨gg7, gg8⟩ := and_e gg6
  obtain ⟨gg9, gg10⟩ := and_e gg8
  obtain ⟨gg11, gg12⟩ := and_e gg10
  obtain ⟨w0, w1, w2, w3, w4, w5, rfl⟩ : ∃ w0 w1 w2 w3 w4 w5 : Value, args = #[w0, w1, w2, w3, w4, w5] := by
    have hs : args.size = 6 := by simpa [Cond.value, given_1] using gg1
    obtain ⟨L⟩ := args
    match L, hs with
    | [w0, w1, w2, w3, w4, w5], _ => exact ⟨w0, w1, w2, w3, w4, w5, rfl⟩
  have hw := fun d (hd : d ∈ tables_1) => atoms_spec (ws := Jvm.Cond.code x code maxLocals ret :: tables_1) hat d (List.mem_cons_of_mem _ hd)
  have hfit : Fit s := fun {y c} hc i hi => by
    obtain ⟨ha, rfl⟩ := Array.getElem?_eq_some_iff.mp hc
    have q := List.all_eq_true.mp ((Array.all_eq_true_iff_forall_mem.mp hF) _ (Array.getElem_mem ha)) i (List.mem_range.mpr hi)
    simpa [Array.getElem?_eq_getElem hi] using q
  obtain ⟨hsets, hown0⟩ := atoms_of _ (rest_1_c_eq ▸ (show rest_1_c.before _ s = true from hrest))
  have hr0 := Cond.before_iff.mp hown0
  obtain ⟨i0, ei0⟩ := is_v gg3
  obtain rfl : w0 = (.int i0) := Option.some.inj ei0
  obtain ⟨i1, ei1⟩ := is_v gg5
  obtain rfl : w1 = (.int i1) := Option.some.inj ei1
  obtain ⟨i2, ei2⟩ := is_v gg7
  obtain rfl : w2 = (.int i2) := Option.some.inj ei2
  obtain ⟨i3, ei3⟩ := is_v gg9
  obtain rfl : w3 = (.int i3) := Option.some.inj ei3
  obtain ⟨i4, ei4⟩ := is_v gg11
  obtain rfl : w4 = (.int i4) := Option.some.inj ei4
  obtain ⟨i5, ei5⟩ := is_v gg12
  obtain rfl : w5 = (.int i5) := Option.some.inj ei5
  have ecs := Cond.before_iff.mp (hsets _ (List.mem_of_getElem? (i := 1) rfl))
  obtain ⟨cs, evs⟩ := is_v ecs
  have SS1 : Sta s s.heap "java/lang/String" "COMPACT_STRINGS" "Z" (.int cs) := Sta.start evs (Or.inl (hsets _ (List.mem_of_getElem? (i := 0) rfl)))
  have hcw := hsets _ (List.mem_of_getElem? (i := 2) rfl)
  have enz := not_v (Cond.before_iff.mp hcw)
  have hnz : ¬ (cs = (0 : Int32)) := fun q => by subst q; exact absurd enz (by rw [eq_i evs (Term.int_eval 0) rfl]; decide)
  have SSA : Sta s s.heap "java/lang/StringUTF16" "$assertionsDisabled" "Z" (.int (1 : Int32)) := Sta.start (own_eqI (Cond.before_iff.mp (hsets _ (List.mem_of_getElem? (i := 12) rfl)))) (Or.inl (hsets _ (List.mem_of_getElem? (i := 11) rfl)))
  have SSH : Sta s s.heap "java/lang/StringUTF16" "HI_BYTE_SHIFT" "I" (.int (0 : Int32)) := Sta.start (own_eqI (Cond.before_iff.mp (hsets _ (List.mem_of_getElem? (i := 15) rfl)))) (Or.inl (hsets _ (List.mem_of_getElem? (i := 14) rfl)))
  have SSL : Sta s s.heap "java/lang/StringUTF16" "LO_BYTE_SHIFT" "I" (.int (8 : Int32)) := Sta.start (own_eqI (Cond.before_iff.mp (hsets _ (List.mem_of_getElem? (i := 18) rfl)))) (Or.inl (hsets _ (List.mem_of_getElem? (i := 17) rfl)))
  have hFm : Fmt s := own_fmt (Cond.before_iff.mp (hsets _ (List.mem_of_getElem? (i := 8) rfl))) (hsets _ (List.mem_of_getElem? (i := 7) rfl))
  obtain ⟨n, o, h1, h2, h3, _, L, rfl, ⟨rfl, N⟩, hq⟩ := rm0 l s _ hw tables_1 i0 i1 i2 i3 i4 i5 cs s.heap s.heap.size (Nat.le_refl _) (Old.start s) SS1 hnz SSA SSH SSL hFm hcw (Nat.le_refl _) (hcalls.1 _ (List.mem_of_getElem? (i := 0) rfl)) (hcalls.1 _ (List.mem_of_getElem? (i := 1) rfl)) (hcalls.1 _ (List.mem_of_getElem? (i := 2) rfl)) (hcalls.1 _ (List.mem_of_getElem? (i := 3) rfl)) p e ha hc hk s m _ below hf ((Spec.applies_iff_loose hf).mp happ).1 ⟨rfl, State.Warmed39.refl s, rfl, IB.start⟩ trivial
  refine ⟨n, _, h1, h2, h3, hpost _ _ _ _ _ _ ⟨Cond.after_iff.mpr rfl, Cond.after_iff.mpr (eq_i res_at (Term.int_eval (1)) rfl), trivial⟩ ⟨hq.1, hq.2.1, hq.2.2.1, (hq.2.2.2.sift fun y hy => Or.inr (N y hy)).mono (by decide) (by decide)⟩⟩
theorem main_1_1 : Claimed_1_1 := comes_1 fun _ _ _ _ _ _ h hF => ⟨h.1, hF⟩
theorem main_1_2 : Claimed_1_2 := comes_1 fun _ _ _ _ _ _ h hF => ⟨h.2.1, hF⟩
end Jvm.Pilot.@@N@@
namespace Jvm.Pilot.@@N@@
open Jvm Jvm.ClassFile Sem Op Lib Jvm.Free Jvm.Stand Jvm.Pilot.@@N@@.Jvm.D
/-! MADE BY PROGRAM (witnessworld.py) out of the Statement's table words and the real class files: 25 classes; the members and pool entries that the words name. The judged class is class 1, her method 1. -/
namespace start1
open Jvm.ClassFile
def u (s : String) : CpInfo := .utf8 (stringToUtf16 s)
/-- a pool by its gaps: so many unusable entries, then the entry; so many at the end -/
def gap : Nat → List CpInfo → List CpInfo
  | 0, r => r
  | n + 1, r => .unusable :: gap n r
def poolList (es : List (Nat × CpInfo)) (last : Nat) : List CpInfo := es.foldr (fun e r => gap e.1 (e.2 :: r)) (gap last [])
def pool (es : List (Nat × CpInfo)) (last : Nat) : Array CpInfo := ⟨poolList es last⟩
def fileOf (pool : Array CpInfo) (this : Nat) (attrs : Array Attribute := #[]) (ms : Array MethodInfo := #[]) (fl : Nat := 33) (sup : Nat := 0) (ifs : Array Nat := #[]) (fds : Array FieldInfo := #[]) : ClassFile where
  minorVersion := 0
  majorVersion := 65
  constantPool := pool
  accessFlags := fl
  thisClass := this
  superClass := sup
  interfaces := ifs
  fields := fds
  methods := ms
  attributes := attrs
def plain (name : String) (sup : Option ClassId) : Class where
  name := name
  kind := .ordinary
  loader := none
  accessFlags := 33
  super := sup
  interfaces := #[]
  cf := none
  fields := #[]
  methods := #[]
  instanceTypes := #[]
  staticTypes := #[]
  resolved := #[]
  callSites := []
  init := .initialized
  statics := none
  mirror := none

def pool0 : Array CpInfo := pool [(5, u "<init>"), (0, u "()V"), (1, .class_ 10), (1, u "java/lang/Object")] 113

def k0c0 : Code := { maxStack := 0, maxLocals := 1, code := object_method_1_code, exceptionTable := #[], attributes := #[] }
def k0m0 : Method := { name := "<init>", desc := "()V", sig := { parameters := [], returnType := none }, accessFlags := 1, code := some k0c0 }
/-- java/lang/Object -/
def k0 : Class := { plain "java/lang/Object" none with
  accessFlags := 33
  interfaces := #[]
  cf := some (fileOf pool0 8 #[] #[{ accessFlags := 1, nameIndex := 5, descriptorIndex := 6, attributes := #[] }] 33 0 #[] #[])
  fields := #[]
  methods := #[k0m0]
  instanceTypes := #[]
  staticTypes := #[]
  resolved := Array.replicate 124 none
  statics := none }

def pool1 : Array CpInfo := pool [(2, .class_ 4), (1, u "java/lang/Object"), (0, u "<init>"), (0, u "()V"), (0, .integer 65535), (0, .class_ 9), (0, u "java/lang/String"), (0, .methodref 8 11), (0, .nameAndType 5 12), (0, u "([C)V"), (0, .integer 2147483647), (0, .class_ 15), (0, u "com/example/lexiform/lexiform/logicalform/Phrase"), (0, .string 17), (0, u "subject"), (0, .methodref 14 19), (0, .nameAndType 5 20), (0, u "(Ljava/lang/String;II)V"), (0, .methodref 14 22), (0, .nameAndType 23 24), (0, u "in"), (0, u "(Ljava/lang/String;)Ljava/lang/String;"), (0, .methodref 8 26), (0, .nameAndType 27 28), (0, u "length"), (0, u "()I"), (0, .methodref 30 31), (0, .class_ 32), (0, .nameAndType 33 34), (0, u "com/example/lexiform/lexiform/logicalform/PhraseInPinLaw"), (0, u "at"), (0, u "(Ljava/lang/String;[CIII)Z"), (0, .methodref 8 36), (0, .nameAndType 37 38), (0, u "charAt"), (0, u "(I)C"), (2, u "law"), (0, u "(IIIIII)Z")] 5

def k1m0 : Method := { name := "<init>", desc := "()V", sig := { parameters := [], returnType := none }, accessFlags := 1, code := none }
def k1c1 : Code := { maxStack := 5, maxLocals := 12, code := code, exceptionTable := #[], attributes := #[] }
def k1m1 : Method := { name := "law", desc := "(IIIIII)Z", sig := { parameters := [.int, .int, .int, .int, .int, .int], returnType := some .boolean }, accessFlags := 9, code := some k1c1 }
def k1c2 : Code := { maxStack := 4, maxLocals := 5, code := method_3_code, exceptionTable := #[], attributes := #[] }
def k1m2 : Method := { name := "at", desc := "(Ljava/lang/String;[CIII)Z", sig := { parameters := [(.object "java/lang/String"), (.array .char), .int, .int, .int], returnType := some .boolean }, accessFlags := 10, code := some k1c2 }
/-- com/example/lexiform/lexiform/logicalform/PhraseInPinLaw -/
def k1 : Class := { plain "com/example/lexiform/lexiform/logicalform/PhraseInPinLaw" (some 0) with
  accessFlags := 49
  interfaces := #[]
  cf := some (fileOf pool1 30 #[] #[{ accessFlags := 1, nameIndex := 5, descriptorIndex := 6, attributes := #[] }, { accessFlags := 9, nameIndex := 41, descriptorIndex := 42, attributes := #[] }, { accessFlags := 10, nameIndex := 33, descriptorIndex := 34, attributes := #[] }] 49 2 #[] #[])
  fields := #[]
  methods := #[k1m0, k1m1, k1m2]
  instanceTypes := #[]
  staticTypes := #[]
  resolved := Array.replicate 48 none
  statics := none }

def pool2 : Array CpInfo := pool [(1, .class_ 2), (0, u "java/io/Serializable"), (0, .class_ 4), (0, u "java/lang/Object")] 2

/-- java/io/Serializable -/
def k2 : Class := { plain "java/io/Serializable" (some 0) with
  accessFlags := 1537
  interfaces := #[]
  cf := some (fileOf pool2 1 #[] #[] 1537 3 #[] #[])
  fields := #[]
  methods := #[]
  instanceTypes := #[]
  staticTypes := #[]
  resolved := Array.replicate 7 none
  statics := none }

def pool3 : Array CpInfo := pool [(1, .class_ 2), (0, u "java/lang/Comparable"), (0, .class_ 4), (0, u "java/lang/Object")] 7

/-- java/lang/Comparable -/
def k3 : Class := { plain "java/lang/Comparable" (some 0) with
  accessFlags := 1537
  interfaces := #[]
  cf := some (fileOf pool3 1 #[] #[] 1537 3 #[] #[])
  fields := #[]
  methods := #[]
  instanceTypes := #[]
  staticTypes := #[]
  resolved := Array.replicate 12 none
  statics := none }

def pool4 : Array CpInfo := pool [(2, .class_ 4), (1, u "java/lang/CharSequence"), (42, .class_ 48), (0, u "java/lang/CharSequence$1CodePointIterator"), (10, .class_ 60), (0, u "java/lang/CharSequence$1CharIterator"), (5, .class_ 67), (0, u "java/lang/Object")] 63

/-- java/lang/CharSequence -/
def k4 : Class := { plain "java/lang/CharSequence" (some 0) with
  accessFlags := 1537
  interfaces := #[]
  cf := some (fileOf pool4 2 #[.nestMembers #[47, 59]] #[] 1537 66 #[] #[])
  fields := #[]
  methods := #[]
  instanceTypes := #[]
  staticTypes := #[]
  resolved := Array.replicate 131 none
  statics := none }

def pool5 : Array CpInfo := pool [(1, .class_ 2), (0, u "java/lang/constant/Constable"), (0, .class_ 4), (0, u "java/lang/Object")] 6

/-- java/lang/constant/Constable -/
def k5 : Class := { plain "java/lang/constant/Constable" (some 0) with
  accessFlags := 1537
  interfaces := #[]
  cf := some (fileOf pool5 1 #[] #[] 1537 3 #[] #[])
  fields := #[]
  methods := #[]
  instanceTypes := #[]
  staticTypes := #[]
  resolved := Array.replicate 11 none
  statics := none }

def pool6 : Array CpInfo := pool [(1, .class_ 2), (0, u "java/lang/constant/ConstantDesc"), (0, .class_ 4), (0, u "java/lang/Object")] 32

/-- java/lang/constant/ConstantDesc -/
def k6 : Class := { plain "java/lang/constant/ConstantDesc" (some 0) with
  accessFlags := 1537
  interfaces := #[]
  cf := some (fileOf pool6 1 #[] #[] 1537 3 #[] #[])
  fields := #[]
  methods := #[]
  instanceTypes := #[]
  staticTypes := #[]
  resolved := Array.replicate 37 none
  statics := none }

def pool7 : Array CpInfo := pool [(1, .methodref 2 3), (0, .class_ 4), (0, .nameAndType 5 6), (0, u "java/lang/Object"), (0, u "<init>"), (0, u "()V"), (2, .fieldref 10 11), (0, .class_ 12), (0, .nameAndType 13 14), (0, u "java/lang/String"), (0, u "value"), (0, u "[B"), (0, .fieldref 10 16), (0, .nameAndType 17 18), (0, u "coder"), (0, u "B"), (2, u "hash"), (0, u "I"), (2, u "hashIsZero"), (0, u "Z"), (0, .methodref 10 28), (0, .nameAndType 5 29), (0, u "([CIILjava/lang/Void;)V"), (6, u "checkBoundsOffCount"), (0, u "(III)I"), (0, .fieldref 10 39), (0, .nameAndType 40 26), (0, u "COMPACT_STRINGS"), (1, .class_ 44), (1, u "java/lang/StringUTF16"), (0, u "compress"), (1, .methodref 42 48), (0, .nameAndType 49 50), (0, u "coderFromArrayLen"), (0, u "([BI)B"), (56, .class_ 109), (1, u "java/lang/StringLatin1"), (32, u "()Z"), (34, .methodref 42 178), (0, .nameAndType 45 179), (0, u "([CII)[B"), (31, u "([BB)V"), (122, u "()I"), (0, .methodref 10 336), (0, .nameAndType 17 337), (0, u "()B"), (25, u "([BI)C"), (27, u "(II)V"), (35, u "(I)C"), (64, .methodref 10 493), (0, .nameAndType 494 142), (0, u "isLatin1"), (0, .methodref 107 496), (0, .nameAndType 497 363), (0, u "charAt"), (0, .methodref 42 496), (2, u "checkIndex"), (3, .methodref 10 506), (0, .nameAndType 507 334), (0, u "length"), (5, u "checkFromToIndex"), (7, .methodref 10 522), (0, .nameAndType 523 524), (0, u "checkBoundsBeginEnd"), (0, u "(III)V"), (50, .class_ 576), (0, u "java/lang/CharSequence"), (22, u "CASE_INSENSITIVE_ORDER"), (0, u "Ljava/util/Comparator;"), (82, u "substring"), (0, u "(II)Ljava/lang/String;"), (0, .methodref 107 686), (0, .nameAndType 687 688), (0, u "newString"), (0, u "([BII)Ljava/lang/String;"), (0, .methodref 42 686), (320, u "([C)V"), (42, .fieldref 1054 1055), (0, .class_ 1056), (0, .nameAndType 1057 1058), (0, u "jdk/internal/util/Preconditions"), (0, u "SIOOBE_FORMATTER"), (0, u "Ljava/util/function/BiFunction;"), (0, .methodref 1054 1060), (0, .nameAndType 501 1061), (0, u "(IILjava/util/function/BiFunction;)I"), (0, .methodref 1054 1063), (0, .nameAndType 513 1064), (0, u "(IIILjava/util/function/BiFunction;)I"), (0, .methodref 1054 1066), (0, .nameAndType 1067 1064), (0, u "checkFromIndexSize"), (33, u "serialPersistentFields"), (0, u "[Ljava/io/ObjectStreamField;"), (0, .class_ 1104), (0, u "java/lang/String$CaseInsensitiveComparator"), (1, .class_ 1107), (0, u "java/io/Serializable"), (0, .class_ 1109), (0, u "java/lang/Comparable"), (0, .class_ 1111), (0, u "java/lang/constant/Constable"), (0, .class_ 1113), (0, u "java/lang/constant/ConstantDesc"), (2, u "serialVersionUID"), (0, u "J"), (3, u "REPL"), (0, u "C"), (2, u "LATIN1"), (1, u "UTF16")] 323

def k7m0 : Method := { name := "<init>", desc := "()V", sig := { parameters := [], returnType := none }, accessFlags := 1, code := none }
def k7c1 : Code := { maxStack := 5, maxLocals := 2, code := jdk_42_method_3_code, exceptionTable := #[], attributes := #[] }
def k7m1 : Method := { name := "<init>", desc := "([C)V", sig := { parameters := [(.array .char)], returnType := none }, accessFlags := 1, code := some k7c1 }
def k7c2 : Code := { maxStack := 2, maxLocals := 1, code := jdk_42_method_54_code, exceptionTable := #[], attributes := #[] }
def k7m2 : Method := { name := "length", desc := "()I", sig := { parameters := [], returnType := some .int }, accessFlags := 1, code := some k7c2 }
def k7c3 : Code := { maxStack := 2, maxLocals := 2, code := jdk_42_method_56_code, exceptionTable := #[], attributes := #[] }
def k7m3 : Method := { name := "charAt", desc := "(I)C", sig := { parameters := [.int], returnType := some .char }, accessFlags := 1, code := some k7c3 }
def k7c4 : Code := { maxStack := 3, maxLocals := 5, code := jdk_42_method_92_code, exceptionTable := #[], attributes := #[] }
def k7m4 : Method := { name := "substring", desc := "(II)Ljava/lang/String;", sig := { parameters := [.int, .int], returnType := some (.object "java/lang/String") }, accessFlags := 1, code := some k7c4 }
def k7c5 : Code := { maxStack := 4, maxLocals := 6, code := jdk_42_method_149_code, exceptionTable := #[], attributes := #[] }
def k7m5 : Method := { name := "<init>", desc := "([CIILjava/lang/Void;)V", sig := { parameters := [(.array .char), .int, .int, (.object "java/lang/Void")], returnType := none }, accessFlags := 2, code := some k7c5 }
def k7c6 : Code := { maxStack := 2, maxLocals := 3, code := jdk_42_method_151_code, exceptionTable := #[], attributes := #[] }
def k7m6 : Method := { name := "<init>", desc := "([BB)V", sig := { parameters := [(.array .byte), .byte], returnType := none }, accessFlags := 0, code := some k7c6 }
def k7c7 : Code := { maxStack := 1, maxLocals := 1, code := jdk_42_method_152_code, exceptionTable := #[], attributes := #[] }
def k7m7 : Method := { name := "coder", desc := "()B", sig := { parameters := [], returnType := some .byte }, accessFlags := 0, code := some k7c7 }
def k7c8 : Code := { maxStack := 1, maxLocals := 1, code := jdk_42_method_154_code, exceptionTable := #[], attributes := #[] }
def k7m8 : Method := { name := "isLatin1", desc := "()Z", sig := { parameters := [], returnType := some .boolean }, accessFlags := 0, code := some k7c8 }
def k7c9 : Code := { maxStack := 3, maxLocals := 2, code := jdk_42_method_155_code, exceptionTable := #[], attributes := #[] }
def k7m9 : Method := { name := "checkIndex", desc := "(II)V", sig := { parameters := [.int, .int], returnType := none }, accessFlags := 8, code := some k7c9 }
def k7c10 : Code := { maxStack := 4, maxLocals := 3, code := jdk_42_method_157_code, exceptionTable := #[], attributes := #[] }
def k7m10 : Method := { name := "checkBoundsOffCount", desc := "(III)I", sig := { parameters := [.int, .int, .int], returnType := some .int }, accessFlags := 8, code := some k7c10 }
def k7c11 : Code := { maxStack := 4, maxLocals := 3, code := jdk_42_method_158_code, exceptionTable := #[], attributes := #[] }
def k7m11 : Method := { name := "checkBoundsBeginEnd", desc := "(III)V", sig := { parameters := [.int, .int, .int], returnType := none }, accessFlags := 8, code := some k7c11 }
/-- java/lang/String -/
def k7 : Class := { plain "java/lang/String" (some 0) with
  accessFlags := 49
  interfaces := #[2, 3, 4, 5, 6]
  cf := some (fileOf pool7 10 #[.nestMembers #[1103]] #[{ accessFlags := 1, nameIndex := 5, descriptorIndex := 6, attributes := #[] }, { accessFlags := 1, nameIndex := 5, descriptorIndex := 1010, attributes := #[] }, { accessFlags := 1, nameIndex := 507, descriptorIndex := 334, attributes := #[] }, { accessFlags := 1, nameIndex := 497, descriptorIndex := 427, attributes := #[] }, { accessFlags := 1, nameIndex := 683, descriptorIndex := 684, attributes := #[] }, { accessFlags := 2, nameIndex := 5, descriptorIndex := 29, attributes := #[] }, { accessFlags := 0, nameIndex := 5, descriptorIndex := 211, attributes := #[] }, { accessFlags := 0, nameIndex := 17, descriptorIndex := 337, attributes := #[] }, { accessFlags := 0, nameIndex := 494, descriptorIndex := 142, attributes := #[] }, { accessFlags := 8, nameIndex := 501, descriptorIndex := 391, attributes := #[] }, { accessFlags := 8, nameIndex := 36, descriptorIndex := 37, attributes := #[] }, { accessFlags := 8, nameIndex := 523, descriptorIndex := 524, attributes := #[] }] 49 2 #[1106, 1108, 575, 1110, 1112] #[{ accessFlags := 18, nameIndex := 13, descriptorIndex := 14, attributes := #[] }, { accessFlags := 18, nameIndex := 17, descriptorIndex := 18, attributes := #[] }, { accessFlags := 2, nameIndex := 21, descriptorIndex := 22, attributes := #[] }, { accessFlags := 2, nameIndex := 25, descriptorIndex := 26, attributes := #[] }, { accessFlags := 26, nameIndex := 1116, descriptorIndex := 1117, attributes := #[] }, { accessFlags := 24, nameIndex := 40, descriptorIndex := 26, attributes := #[] }, { accessFlags := 26, nameIndex := 1101, descriptorIndex := 1102, attributes := #[] }, { accessFlags := 26, nameIndex := 1121, descriptorIndex := 1122, attributes := #[] }, { accessFlags := 25, nameIndex := 599, descriptorIndex := 600, attributes := #[] }, { accessFlags := 24, nameIndex := 1125, descriptorIndex := 18, attributes := #[] }, { accessFlags := 24, nameIndex := 1127, descriptorIndex := 18, attributes := #[] }])
  fields := #[{ name := "value", type := (.array .byte), accessFlags := 18, slot := 0, constantValue := 0 }, { name := "coder", type := .byte, accessFlags := 18, slot := 1, constantValue := 0 }, { name := "hash", type := .int, accessFlags := 2, slot := 2, constantValue := 0 }, { name := "hashIsZero", type := .boolean, accessFlags := 2, slot := 3, constantValue := 0 }, { name := "serialVersionUID", type := .long, accessFlags := 26, slot := 0, constantValue := 0 }, { name := "COMPACT_STRINGS", type := .boolean, accessFlags := 24, slot := 1, constantValue := 0 }, { name := "serialPersistentFields", type := (.array (.object "java/io/ObjectStreamField")), accessFlags := 26, slot := 2, constantValue := 0 }, { name := "REPL", type := .char, accessFlags := 26, slot := 3, constantValue := 0 }, { name := "CASE_INSENSITIVE_ORDER", type := (.object "java/util/Comparator"), accessFlags := 25, slot := 4, constantValue := 0 }, { name := "LATIN1", type := .byte, accessFlags := 24, slot := 5, constantValue := 0 }, { name := "UTF16", type := .byte, accessFlags := 24, slot := 6, constantValue := 0 }]
  methods := #[k7m0, k7m1, k7m2, k7m3, k7m4, k7m5, k7m6, k7m7, k7m8, k7m9, k7m10, k7m11]
  instanceTypes := #[(.array .byte), .byte, .int, .boolean]
  staticTypes := #[.long, .boolean, (.array (.object "java/io/ObjectStreamField")), .char, (.object "java/util/Comparator"), .byte, .byte]
  resolved := Array.replicate 1451 none
  statics := some 0 }

def pool8 : Array CpInfo := pool [(3, .class_ 4), (0, u "java/lang/String"), (1, .class_ 8), (1, u "java/lang/Object"), (0, u "<init>"), (0, u "()V"), (0, .methodref 12 13), (0, .class_ 14), (0, .nameAndType 15 16), (0, u "java/lang/StringUTF16"), (0, u "newBytesLength"), (0, u "(I)I"), (3, .integer 1073741823), (23, .fieldref 12 45), (0, .nameAndType 46 47), (0, u "$assertionsDisabled"), (0, u "Z"), (0, .methodref 12 49), (0, .nameAndType 50 51), (0, u "length"), (0, u "([B)I"), (7, .fieldref 12 60), (0, .nameAndType 61 62), (0, u "HI_BYTE_SHIFT"), (0, u "I"), (0, .fieldref 12 64), (0, .nameAndType 65 62), (0, u "LO_BYTE_SHIFT"), (1, .methodref 12 68), (0, .nameAndType 69 70), (0, u "checkIndex"), (0, u "(I[B)V"), (0, .methodref 12 72), (0, .nameAndType 73 74), (0, u "getChar"), (0, u "([BI)C"), (24, u "(II[B)V"), (7, .methodref 12 108), (0, .nameAndType 109 110), (0, u "newBytesFor"), (0, u "(I)[B"), (0, .methodref 12 112), (0, .nameAndType 113 114), (0, u "putChar"), (0, u "([BII)V"), (0, .methodref 12 116), (0, .nameAndType 117 118), (0, u "compress"), (0, u "([CI[BII)I"), (0, .methodref 12 120), (0, .nameAndType 121 122), (0, u "toBytes"), (0, u "([CII)[B"), (0, .methodref 12 124), (0, .nameAndType 117 125), (0, u "([BI[BII)I"), (0, .methodref 127 128), (0, .class_ 129), (0, .nameAndType 130 131), (0, u "java/util/Arrays"), (0, u "copyOfRange"), (0, u "([BII)[B"), (41, .methodref 12 174), (0, .nameAndType 175 99), (0, u "checkBoundsOffCount"), (75, .fieldref 3 252), (0, .nameAndType 253 47), (0, u "COMPACT_STRINGS"), (3, .methodref 12 258), (0, .nameAndType 117 131), (0, .methodref 12 260), (0, .nameAndType 261 262), (0, u "coderFromArrayLen"), (0, u "([BI)B"), (0, .methodref 3 264), (0, .nameAndType 9 265), (0, u "([BB)V"), (15, u "(III)I"), (13, .string 296), (0, u ""), (30, u "newString"), (0, u "([BII)Ljava/lang/String;"), (40, .class_ 371), (1, u "java/lang/StringUTF16$LinesSpliterator"), (20, u "charAt"), (21, .methodref 3 415), (0, .nameAndType 69 416), (0, u "(II)V"), (2, .methodref 3 420), (0, .nameAndType 175 281), (9, u "MAX_LENGTH"), (196, .class_ 628), (0, u "java/lang/StringUTF16$CodePointsSpliterator"), (0, .class_ 630), (0, u "java/lang/StringUTF16$CharsSpliterator")] 4

def k8m0 : Method := { name := "<init>", desc := "()V", sig := { parameters := [], returnType := none }, accessFlags := 0, code := none }
def k8c1 : Code := { maxStack := 1, maxLocals := 1, code := jdk_52_method_2_code, exceptionTable := #[], attributes := #[] }
def k8m1 : Method := { name := "newBytesFor", desc := "(I)[B", sig := { parameters := [.int], returnType := some (.array .byte) }, accessFlags := 9, code := some k8c1 }
def k8c2 : Code := { maxStack := 4, maxLocals := 1, code := jdk_52_method_3_code, exceptionTable := #[], attributes := #[] }
def k8m2 : Method := { name := "newBytesLength", desc := "(I)I", sig := { parameters := [.int], returnType := some .int }, accessFlags := 9, code := some k8c2 }
def k8c3 : Code := { maxStack := 4, maxLocals := 3, code := jdk_52_method_4_code, exceptionTable := #[], attributes := #[] }
def k8m3 : Method := { name := "putChar", desc := "([BII)V", sig := { parameters := [(.array .byte), .int, .int], returnType := none }, accessFlags := 8, code := some k8c3 }
def k8c4 : Code := { maxStack := 3, maxLocals := 2, code := jdk_52_method_5_code, exceptionTable := #[], attributes := #[] }
def k8m4 : Method := { name := "getChar", desc := "([BI)C", sig := { parameters := [(.array .byte), .int], returnType := some .char }, accessFlags := 8, code := some k8c4 }
def k8c5 : Code := { maxStack := 2, maxLocals := 1, code := jdk_52_method_6_code, exceptionTable := #[], attributes := #[] }
def k8m5 : Method := { name := "length", desc := "([B)I", sig := { parameters := [(.array .byte)], returnType := some .int }, accessFlags := 9, code := some k8c5 }
def k8c6 : Code := { maxStack := 4, maxLocals := 5, code := jdk_52_method_14_code, exceptionTable := #[], attributes := #[] }
def k8m6 : Method := { name := "toBytes", desc := "([CII)[B", sig := { parameters := [(.array .char), .int, .int], returnType := some (.array .byte) }, accessFlags := 9, code := some k8c6 }
def k8c7 : Code := { maxStack := 2, maxLocals := 2, code := jdk_52_method_15_code, exceptionTable := #[], attributes := #[] }
def k8m7 : Method := { name := "coderFromArrayLen", desc := "([BI)B", sig := { parameters := [(.array .byte), .int], returnType := some .byte }, accessFlags := 8, code := some k8c7 }
def k8c8 : Code := { maxStack := 5, maxLocals := 6, code := jdk_52_method_16_code, exceptionTable := #[], attributes := #[] }
def k8m8 : Method := { name := "compress", desc := "([CII)[B", sig := { parameters := [(.array .char), .int, .int], returnType := some (.array .byte) }, accessFlags := 9, code := some k8c8 }
def k8c9 : Code := { maxStack := 5, maxLocals := 6, code := jdk_52_method_17_code, exceptionTable := #[], attributes := #[] }
def k8m9 : Method := { name := "compress", desc := "([BII)[B", sig := { parameters := [(.array .byte), .int, .int], returnType := some (.array .byte) }, accessFlags := 9, code := some k8c9 }
def k8c10 : Code := { maxStack := 3, maxLocals := 7, code := jdk_52_method_21_code, exceptionTable := #[], attributes := #[] }
def k8m10 : Method := { name := "compress", desc := "([CI[BII)I", sig := { parameters := [(.array .char), .int, (.array .byte), .int, .int], returnType := some .int }, accessFlags := 9, code := some k8c10 }
def k8c11 : Code := { maxStack := 3, maxLocals := 7, code := jdk_52_method_22_code, exceptionTable := #[], attributes := #[] }
def k8m11 : Method := { name := "compress", desc := "([BI[BII)I", sig := { parameters := [(.array .byte), .int, (.array .byte), .int, .int], returnType := some .int }, accessFlags := 9, code := some k8c11 }
def k8c12 : Code := { maxStack := 6, maxLocals := 5, code := jdk_52_method_69_code, exceptionTable := #[], attributes := #[] }
def k8m12 : Method := { name := "newString", desc := "([BII)Ljava/lang/String;", sig := { parameters := [(.array .byte), .int, .int], returnType := some (.object "java/lang/String") }, accessFlags := 9, code := some k8c12 }
def k8c13 : Code := { maxStack := 2, maxLocals := 2, code := jdk_52_method_83_code, exceptionTable := #[], attributes := #[] }
def k8m13 : Method := { name := "charAt", desc := "([BI)C", sig := { parameters := [(.array .byte), .int], returnType := some .char }, accessFlags := 9, code := some k8c13 }
def k8c14 : Code := { maxStack := 2, maxLocals := 2, code := jdk_52_method_91_code, exceptionTable := #[], attributes := #[] }
def k8m14 : Method := { name := "checkIndex", desc := "(I[B)V", sig := { parameters := [.int, (.array .byte)], returnType := none }, accessFlags := 9, code := some k8c14 }
def k8c15 : Code := { maxStack := 3, maxLocals := 3, code := jdk_52_method_94_code, exceptionTable := #[], attributes := #[] }
def k8m15 : Method := { name := "checkBoundsOffCount", desc := "(II[B)V", sig := { parameters := [.int, .int, (.array .byte)], returnType := none }, accessFlags := 9, code := some k8c15 }
/-- java/lang/StringUTF16 -/
def k8 : Class := { plain "java/lang/StringUTF16" (some 0) with
  accessFlags := 48
  interfaces := #[]
  cf := some (fileOf pool8 12 #[.nestMembers #[627, 629, 369]] #[{ accessFlags := 0, nameIndex := 9, descriptorIndex := 10, attributes := #[] }, { accessFlags := 9, nameIndex := 109, descriptorIndex := 110, attributes := #[] }, { accessFlags := 9, nameIndex := 15, descriptorIndex := 16, attributes := #[] }, { accessFlags := 8, nameIndex := 113, descriptorIndex := 114, attributes := #[] }, { accessFlags := 8, nameIndex := 73, descriptorIndex := 74, attributes := #[] }, { accessFlags := 9, nameIndex := 50, descriptorIndex := 51, attributes := #[] }, { accessFlags := 9, nameIndex := 121, descriptorIndex := 122, attributes := #[] }, { accessFlags := 8, nameIndex := 261, descriptorIndex := 262, attributes := #[] }, { accessFlags := 9, nameIndex := 117, descriptorIndex := 122, attributes := #[] }, { accessFlags := 9, nameIndex := 117, descriptorIndex := 131, attributes := #[] }, { accessFlags := 9, nameIndex := 117, descriptorIndex := 118, attributes := #[] }, { accessFlags := 9, nameIndex := 117, descriptorIndex := 125, attributes := #[] }, { accessFlags := 9, nameIndex := 327, descriptorIndex := 328, attributes := #[] }, { accessFlags := 9, nameIndex := 392, descriptorIndex := 74, attributes := #[] }, { accessFlags := 9, nameIndex := 69, descriptorIndex := 70, attributes := #[] }, { accessFlags := 9, nameIndex := 175, descriptorIndex := 99, attributes := #[] }] 48 6 #[] #[{ accessFlags := 26, nameIndex := 61, descriptorIndex := 62, attributes := #[] }, { accessFlags := 26, nameIndex := 65, descriptorIndex := 62, attributes := #[] }, { accessFlags := 24, nameIndex := 430, descriptorIndex := 62, attributes := #[] }, { accessFlags := 4120, nameIndex := 46, descriptorIndex := 47, attributes := #[] }])
  fields := #[{ name := "HI_BYTE_SHIFT", type := .int, accessFlags := 26, slot := 0, constantValue := 0 }, { name := "LO_BYTE_SHIFT", type := .int, accessFlags := 26, slot := 1, constantValue := 0 }, { name := "MAX_LENGTH", type := .int, accessFlags := 24, slot := 2, constantValue := 0 }, { name := "$assertionsDisabled", type := .boolean, accessFlags := 4120, slot := 3, constantValue := 0 }]
  methods := #[k8m0, k8m1, k8m2, k8m3, k8m4, k8m5, k8m6, k8m7, k8m8, k8m9, k8m10, k8m11, k8m12, k8m13, k8m14, k8m15]
  instanceTypes := #[]
  staticTypes := #[.int, .int, .int, .boolean]
  resolved := Array.replicate 635 none
  statics := some 1 }

def pool9 : Array CpInfo := pool [(1, .methodref 2 3), (0, .class_ 4), (0, .nameAndType 5 6), (0, u "java/lang/Object"), (0, u "<init>"), (0, u "()V"), (0, .class_ 8), (0, u "java/lang/Record")] 13

def k9c0 : Code := { maxStack := 1, maxLocals := 1, code := jdk_30_method_1_code, exceptionTable := #[], attributes := #[] }
def k9m0 : Method := { name := "<init>", desc := "()V", sig := { parameters := [], returnType := none }, accessFlags := 4, code := some k9c0 }
/-- java/lang/Record -/
def k9 : Class := { plain "java/lang/Record" (some 0) with
  accessFlags := 1057
  interfaces := #[]
  cf := some (fileOf pool9 7 #[] #[{ accessFlags := 4, nameIndex := 5, descriptorIndex := 6, attributes := #[] }] 1057 2 #[] #[])
  fields := #[]
  methods := #[k9m0]
  instanceTypes := #[]
  staticTypes := #[]
  resolved := Array.replicate 22 none
  statics := none }

def pool10 : Array CpInfo := pool [(1, .methodref 2 3), (0, .class_ 4), (0, .nameAndType 5 6), (0, u "java/lang/Record"), (0, u "<init>"), (0, u "()V"), (0, .string 8), (0, u "role"), (0, .methodref 10 11), (0, .class_ 12), (0, .nameAndType 13 14), (0, u "java/util/Objects"), (0, u "requireNonNull"), (0, u "(Ljava/lang/Object;Ljava/lang/String;)Ljava/lang/Object;"), (5, u "(II)Ljava/lang/String;"), (3, .fieldref 25 26), (0, .class_ 27), (0, .nameAndType 8 28), (0, u "com/example/lexiform/lexiform/logicalform/Phrase"), (0, u "Ljava/lang/String;"), (0, .fieldref 25 30), (0, .nameAndType 31 32), (0, u "offset"), (0, u "I"), (0, .fieldref 25 34), (0, .nameAndType 35 32), (0, u "length"), (0, .methodref 37 38), (0, .class_ 39), (0, .nameAndType 40 20), (0, u "java/lang/String"), (0, u "substring"), (19, u "(Ljava/lang/String;II)V"), (4, u "in"), (0, u "(Ljava/lang/String;)Ljava/lang/String;")] 34

def k10c0 : Code := { maxStack := 4, maxLocals := 4, code := prog_23_method_1_code, exceptionTable := #[], attributes := #[] }
def k10m0 : Method := { name := "<init>", desc := "(Ljava/lang/String;II)V", sig := { parameters := [(.object "java/lang/String"), .int, .int], returnType := none }, accessFlags := 1, code := some k10c0 }
def k10c1 : Code := { maxStack := 4, maxLocals := 2, code := prog_23_method_2_code, exceptionTable := #[], attributes := #[] }
def k10m1 : Method := { name := "in", desc := "(Ljava/lang/String;)Ljava/lang/String;", sig := { parameters := [(.object "java/lang/String")], returnType := some (.object "java/lang/String") }, accessFlags := 1, code := some k10c1 }
/-- com/example/lexiform/lexiform/logicalform/Phrase -/
def k10 : Class := { plain "com/example/lexiform/lexiform/logicalform/Phrase" (some 9) with
  accessFlags := 49
  interfaces := #[]
  cf := some (fileOf pool10 25 #[] #[{ accessFlags := 1, nameIndex := 5, descriptorIndex := 60, attributes := #[] }, { accessFlags := 1, nameIndex := 65, descriptorIndex := 66, attributes := #[] }] 49 2 #[] #[{ accessFlags := 18, nameIndex := 8, descriptorIndex := 28, attributes := #[] }, { accessFlags := 18, nameIndex := 31, descriptorIndex := 32, attributes := #[] }, { accessFlags := 18, nameIndex := 35, descriptorIndex := 32, attributes := #[] }])
  fields := #[{ name := "role", type := (.object "java/lang/String"), accessFlags := 18, slot := 0, constantValue := 0 }, { name := "offset", type := .int, accessFlags := 18, slot := 1, constantValue := 0 }, { name := "length", type := .int, accessFlags := 18, slot := 2, constantValue := 0 }]
  methods := #[k10m0, k10m1]
  instanceTypes := #[(.object "java/lang/String"), .int, .int]
  staticTypes := #[]
  resolved := Array.replicate 101 none
  statics := none }

def pool11 : Array CpInfo := pool [(2, .class_ 4), (1, u "java/lang/Object"), (0, u "<init>"), (0, u "()V"), (35, .class_ 44), (1, u "java/util/Objects"), (0, u "requireNonNull"), (48, u "(Ljava/lang/Object;Ljava/lang/String;)Ljava/lang/Object;")] 89

def k11m0 : Method := { name := "<init>", desc := "()V", sig := { parameters := [], returnType := none }, accessFlags := 2, code := none }
def k11c1 : Code := { maxStack := 3, maxLocals := 2, code := jdk_31_method_11_code, exceptionTable := #[], attributes := #[] }
def k11m1 : Method := { name := "requireNonNull", desc := "(Ljava/lang/Object;Ljava/lang/String;)Ljava/lang/Object;", sig := { parameters := [(.object "java/lang/Object"), (.object "java/lang/String")], returnType := some (.object "java/lang/Object") }, accessFlags := 9, code := some k11c1 }
/-- java/util/Objects -/
def k11 : Class := { plain "java/util/Objects" (some 0) with
  accessFlags := 49
  interfaces := #[]
  cf := some (fileOf pool11 42 #[] #[{ accessFlags := 2, nameIndex := 5, descriptorIndex := 6, attributes := #[] }, { accessFlags := 9, nameIndex := 45, descriptorIndex := 94, attributes := #[] }] 49 2 #[] #[])
  fields := #[]
  methods := #[k11m0, k11m1]
  instanceTypes := #[]
  staticTypes := #[]
  resolved := Array.replicate 184 none
  statics := none }

def pool12 : Array CpInfo := pool [(2, .class_ 4), (1, u "java/lang/Object"), (0, u "<init>"), (0, u "()V"), (17, .class_ 26), (1, u "jdk/internal/util/Preconditions"), (6, u "checkIndex"), (13, u "checkFromToIndex"), (1, u "checkFromIndexSize"), (5, .class_ 56), (0, u "jdk/internal/util/Preconditions$4"), (57, .class_ 115), (0, u "jdk/internal/util/Preconditions$1"), (7, u "SIOOBE_FORMATTER"), (0, u "Ljava/util/function/BiFunction;"), (0, .class_ 126), (0, u "jdk/internal/util/Preconditions$2"), (3, u "AIOOBE_FORMATTER"), (0, .class_ 132), (0, u "jdk/internal/util/Preconditions$3"), (3, u "IOOBE_FORMATTER"), (41, u "(IILjava/util/function/BiFunction;)I"), (4, u "(IIILjava/util/function/BiFunction;)I")] 10

def k12m0 : Method := { name := "<init>", desc := "()V", sig := { parameters := [], returnType := none }, accessFlags := 1, code := none }
def k12c1 : Code := { maxStack := 3, maxLocals := 3, code := jdk_41_method_11_code, exceptionTable := #[], attributes := #[] }
def k12m1 : Method := { name := "checkIndex", desc := "(IILjava/util/function/BiFunction;)I", sig := { parameters := [.int, .int, (.object "java/util/function/BiFunction")], returnType := some .int }, accessFlags := 9, code := some k12c1 }
def k12c2 : Code := { maxStack := 4, maxLocals := 4, code := jdk_41_method_12_code, exceptionTable := #[], attributes := #[] }
def k12m2 : Method := { name := "checkFromToIndex", desc := "(IIILjava/util/function/BiFunction;)I", sig := { parameters := [.int, .int, .int, (.object "java/util/function/BiFunction")], returnType := some .int }, accessFlags := 9, code := some k12c2 }
def k12c3 : Code := { maxStack := 4, maxLocals := 4, code := jdk_41_method_13_code, exceptionTable := #[], attributes := #[] }
def k12m3 : Method := { name := "checkFromIndexSize", desc := "(IIILjava/util/function/BiFunction;)I", sig := { parameters := [.int, .int, .int, (.object "java/util/function/BiFunction")], returnType := some .int }, accessFlags := 9, code := some k12c3 }
/-- jdk/internal/util/Preconditions -/
def k12 : Class := { plain "jdk/internal/util/Preconditions" (some 0) with
  accessFlags := 33
  interfaces := #[]
  cf := some (fileOf pool12 24 #[.nestMembers #[55, 131, 125, 114]] #[{ accessFlags := 1, nameIndex := 5, descriptorIndex := 6, attributes := #[] }, { accessFlags := 9, nameIndex := 33, descriptorIndex := 178, attributes := #[] }, { accessFlags := 9, nameIndex := 47, descriptorIndex := 183, attributes := #[] }, { accessFlags := 9, nameIndex := 49, descriptorIndex := 183, attributes := #[] }] 33 2 #[] #[{ accessFlags := 25, nameIndex := 123, descriptorIndex := 124, attributes := #[] }, { accessFlags := 25, nameIndex := 130, descriptorIndex := 124, attributes := #[] }, { accessFlags := 25, nameIndex := 136, descriptorIndex := 124, attributes := #[] }])
  fields := #[{ name := "SIOOBE_FORMATTER", type := (.object "java/util/function/BiFunction"), accessFlags := 25, slot := 0, constantValue := 0 }, { name := "AIOOBE_FORMATTER", type := (.object "java/util/function/BiFunction"), accessFlags := 25, slot := 1, constantValue := 0 }, { name := "IOOBE_FORMATTER", type := (.object "java/util/function/BiFunction"), accessFlags := 25, slot := 2, constantValue := 0 }]
  methods := #[k12m0, k12m1, k12m2, k12m3]
  instanceTypes := #[]
  staticTypes := #[(.object "java/util/function/BiFunction"), (.object "java/util/function/BiFunction"), (.object "java/util/function/BiFunction")]
  resolved := Array.replicate 194 none
  statics := some 2 }

def pool13 : Array CpInfo := pool [(1, .class_ 2), (0, u "java/lang/String"), (1, .class_ 6), (1, u "java/lang/Object"), (0, u "<init>"), (0, u "()V"), (0, .methodref 1 10), (0, .nameAndType 11 12), (0, u "checkIndex"), (0, u "(II)V"), (1, .class_ 16), (1, u "java/lang/StringLatin1"), (36, u "([BI)C"), (58, .methodref 1 113), (0, .nameAndType 7 114), (0, u "([BB)V"), (6, u "$assertionsDisabled"), (0, u "Z"), (8, .class_ 133), (1, u "java/util/Arrays"), (17, .string 152), (0, u ""), (43, u "newString"), (0, u "([BII)Ljava/lang/String;"), (23, .class_ 223), (1, u "java/lang/StringLatin1$LinesSpliterator"), (8, .methodref 131 233), (0, .nameAndType 234 235), (0, u "copyOfRange"), (0, u "([BII)[B"), (16, u "charAt"), (137, .class_ 391), (0, u "java/lang/StringLatin1$CharsSpliterator")] 3

def k13m0 : Method := { name := "<init>", desc := "()V", sig := { parameters := [], returnType := none }, accessFlags := 0, code := none }
def k13c1 : Code := { maxStack := 2, maxLocals := 2, code := jdk_43_method_2_code, exceptionTable := #[], attributes := #[] }
def k13m1 : Method := { name := "charAt", desc := "([BI)C", sig := { parameters := [(.array .byte), .int], returnType := some .char }, accessFlags := 9, code := some k13c1 }
def k13c2 : Code := { maxStack := 6, maxLocals := 3, code := jdk_43_method_47_code, exceptionTable := #[], attributes := #[] }
def k13m2 : Method := { name := "newString", desc := "([BII)Ljava/lang/String;", sig := { parameters := [(.array .byte), .int, .int], returnType := some (.object "java/lang/String") }, accessFlags := 9, code := some k13c2 }
/-- java/lang/StringLatin1 -/
def k13 : Class := { plain "java/lang/StringLatin1" (some 0) with
  accessFlags := 48
  interfaces := #[]
  cf := some (fileOf pool13 14 #[.nestMembers #[390, 221]] #[{ accessFlags := 0, nameIndex := 7, descriptorIndex := 8, attributes := #[] }, { accessFlags := 9, nameIndex := 252, descriptorIndex := 53, attributes := #[] }, { accessFlags := 9, nameIndex := 196, descriptorIndex := 197, attributes := #[] }] 48 4 #[] #[{ accessFlags := 4120, nameIndex := 121, descriptorIndex := 122, attributes := #[] }])
  fields := #[{ name := "$assertionsDisabled", type := .boolean, accessFlags := 4120, slot := 0, constantValue := 0 }]
  methods := #[k13m0, k13m1, k13m2]
  instanceTypes := #[]
  staticTypes := #[.boolean]
  resolved := Array.replicate 395 none
  statics := none }

def pool14 : Array CpInfo := pool [(2, .class_ 4), (1, u "java/lang/Object"), (0, u "<init>"), (0, u "()V"), (7, .class_ 16), (1, u "java/util/Arrays"), (57, .class_ 76), (1, u "java/util/Arrays$NaturalOrder"), (36, .class_ 115), (1, u "java/util/Arrays$LegacyMergeSort"), (1, u "Z"), (21, u "copyOfRange"), (10, .methodref 151 152), (0, .class_ 153), (0, .nameAndType 154 155), (0, u "java/lang/System"), (0, u "arraycopy"), (0, u "(Ljava/lang/Object;ILjava/lang/Object;II)V"), (148, .methodref 305 306), (0, .class_ 307), (0, .nameAndType 308 309), (0, u "java/lang/Math"), (0, u "min"), (0, u "(II)I"), (29, .methodref 14 340), (0, .nameAndType 341 342), (0, u "copyOfRangeByte"), (0, u "([BII)[B"), (0, .methodref 14 344), (0, .nameAndType 345 346), (0, u "checkLength"), (0, u "(II)V"), (28, .class_ 376), (0, u "java/util/Arrays$ArrayList"), (68, u "$assertionsDisabled"), (269, u "MIN_ARRAY_SORT_GRAN"), (0, u "I"), (2, u "INSERTIONSORT_THRESHOLD"), (255, .class_ 976), (0, u "java/util/Arrays$ArrayItr")] 52

def k14m0 : Method := { name := "<init>", desc := "()V", sig := { parameters := [], returnType := none }, accessFlags := 2, code := none }
def k14c1 : Code := { maxStack := 4, maxLocals := 2, code := jdk_65_method_131_code, exceptionTable := #[], attributes := #[] }
def k14m1 : Method := { name := "checkLength", desc := "(II)V", sig := { parameters := [.int, .int], returnType := none }, accessFlags := 10, code := some k14c1 }
def k14c2 : Code := { maxStack := 3, maxLocals := 3, code := jdk_65_method_132_code, exceptionTable := #[], attributes := #[] }
def k14m2 : Method := { name := "copyOfRange", desc := "([BII)[B", sig := { parameters := [(.array .byte), .int, .int], returnType := some (.array .byte) }, accessFlags := 9, code := some k14c2 }
def k14c3 : Code := { maxStack := 6, maxLocals := 5, code := jdk_65_method_133_code, exceptionTable := #[], attributes := #[] }
def k14m3 : Method := { name := "copyOfRangeByte", desc := "([BII)[B", sig := { parameters := [(.array .byte), .int, .int], returnType := some (.array .byte) }, accessFlags := 10, code := some k14c3 }
/-- java/util/Arrays -/
def k14 : Class := { plain "java/util/Arrays" (some 0) with
  accessFlags := 49
  interfaces := #[]
  cf := some (fileOf pool14 14 #[.nestMembers #[975, 375, 113, 74]] #[{ accessFlags := 2, nameIndex := 5, descriptorIndex := 6, attributes := #[] }, { accessFlags := 10, nameIndex := 345, descriptorIndex := 346, attributes := #[] }, { accessFlags := 9, nameIndex := 139, descriptorIndex := 342, attributes := #[] }, { accessFlags := 10, nameIndex := 341, descriptorIndex := 342, attributes := #[] }] 49 2 #[] #[{ accessFlags := 26, nameIndex := 715, descriptorIndex := 716, attributes := #[] }, { accessFlags := 26, nameIndex := 719, descriptorIndex := 716, attributes := #[] }, { accessFlags := 4120, nameIndex := 445, descriptorIndex := 117, attributes := #[] }])
  fields := #[{ name := "MIN_ARRAY_SORT_GRAN", type := .int, accessFlags := 26, slot := 0, constantValue := 0 }, { name := "INSERTIONSORT_THRESHOLD", type := .int, accessFlags := 26, slot := 1, constantValue := 0 }, { name := "$assertionsDisabled", type := .boolean, accessFlags := 4120, slot := 2, constantValue := 0 }]
  methods := #[k14m0, k14m1, k14m2, k14m3]
  instanceTypes := #[]
  staticTypes := #[.int, .int, .boolean]
  resolved := Array.replicate 1029 none
  statics := none }

def pool15 : Array CpInfo := pool [(1, .class_ 2), (0, u "java/lang/Math"), (1, .class_ 6), (1, u "java/lang/Object"), (0, u "<init>"), (0, u "()V"), (89, .class_ 100), (1, u "java/lang/Math$RandomNumberGeneratorHolder"), (71, u "negativeZeroFloatBits"), (0, u "J"), (2, u "negativeZeroDoubleBits"), (24, u "min"), (43, u "$assertionsDisabled"), (0, u "Z"), (88, u "(II)I"), (2, u "twoToTheDoubleScaleDown"), (0, u "D"), (4, u "twoToTheDoubleScaleUp"), (9, u "E"), (3, u "PI"), (2, u "TAU"), (2, u "DEGREES_TO_RADIANS"), (0, u "RADIANS_TO_DEGREES")] 94

def k15m0 : Method := { name := "<init>", desc := "()V", sig := { parameters := [], returnType := none }, accessFlags := 2, code := none }
def k15c1 : Code := { maxStack := 2, maxLocals := 2, code := jdk_29_method_69_code, exceptionTable := #[], attributes := #[] }
def k15m1 : Method := { name := "min", desc := "(II)I", sig := { parameters := [.int, .int], returnType := some .int }, accessFlags := 9, code := some k15c1 }
/-- java/lang/Math -/
def k15 : Class := { plain "java/lang/Math" (some 0) with
  accessFlags := 49
  interfaces := #[]
  cf := some (fileOf pool15 1 #[.nestMembers #[98]] #[{ accessFlags := 2, nameIndex := 7, descriptorIndex := 8, attributes := #[] }, { accessFlags := 9, nameIndex := 201, descriptorIndex := 335, attributes := #[] }] 49 4 #[] #[{ accessFlags := 25, nameIndex := 354, descriptorIndex := 339, attributes := #[] }, { accessFlags := 25, nameIndex := 358, descriptorIndex := 339, attributes := #[] }, { accessFlags := 25, nameIndex := 361, descriptorIndex := 339, attributes := #[] }, { accessFlags := 26, nameIndex := 364, descriptorIndex := 339, attributes := #[] }, { accessFlags := 26, nameIndex := 365, descriptorIndex := 339, attributes := #[] }, { accessFlags := 26, nameIndex := 172, descriptorIndex := 173, attributes := #[] }, { accessFlags := 26, nameIndex := 176, descriptorIndex := 173, attributes := #[] }, { accessFlags := 8, nameIndex := 344, descriptorIndex := 339, attributes := #[] }, { accessFlags := 8, nameIndex := 338, descriptorIndex := 339, attributes := #[] }, { accessFlags := 4120, nameIndex := 245, descriptorIndex := 246, attributes := #[] }])
  fields := #[{ name := "E", type := .double, accessFlags := 25, slot := 0, constantValue := 0 }, { name := "PI", type := .double, accessFlags := 25, slot := 1, constantValue := 0 }, { name := "TAU", type := .double, accessFlags := 25, slot := 2, constantValue := 0 }, { name := "DEGREES_TO_RADIANS", type := .double, accessFlags := 26, slot := 3, constantValue := 0 }, { name := "RADIANS_TO_DEGREES", type := .double, accessFlags := 26, slot := 4, constantValue := 0 }, { name := "negativeZeroFloatBits", type := .long, accessFlags := 26, slot := 5, constantValue := 0 }, { name := "negativeZeroDoubleBits", type := .long, accessFlags := 26, slot := 6, constantValue := 0 }, { name := "twoToTheDoubleScaleUp", type := .double, accessFlags := 8, slot := 7, constantValue := 0 }, { name := "twoToTheDoubleScaleDown", type := .double, accessFlags := 8, slot := 8, constantValue := 0 }, { name := "$assertionsDisabled", type := .boolean, accessFlags := 4120, slot := 9, constantValue := 0 }]
  methods := #[k15m0, k15m1]
  instanceTypes := #[]
  staticTypes := #[.double, .double, .double, .double, .double, .long, .long, .double, .double, .boolean]
  resolved := Array.replicate 460 none
  statics := none }

def pool16 : Array CpInfo := pool [(2, .class_ 4), (1, u "java/lang/Object"), (0, u "<init>"), (0, u "()V"), (1, .class_ 10), (1, u "java/lang/System"), (0, u "allowSecurityManager"), (0, u "I"), (16, u "cons"), (0, u "Ljava/io/Console;"), (77, .class_ 110), (1, u "java/lang/System$CallersHolder"), (43, u "initialErrStream"), (0, u "Ljava/io/PrintStream;"), (19, u "security"), (0, u "Ljava/lang/SecurityManager;"), (31, .class_ 209), (0, u "java/lang/System$1"), (7, u "props"), (0, u "Ljava/util/Properties;"), (2, u "lineSeparator"), (0, u "Ljava/lang/String;"), (96, .class_ 321), (1, u "java/lang/System$LoggerFinder"), (5, .class_ 328), (0, u "java/lang/System$Logger"), (67, u "err"), (2, u "out"), (91, u "notSupportedJnuEncoding"), (15, u "in"), (17, u "initialIn"), (0, u "Ljava/io/InputStream;"), (35, u "bootLayer"), (0, u "Ljava/lang/ModuleLayer;"), (99, .class_ 664), (0, u "java/lang/System$2"), (9, u "NEVER"), (2, u "MAYBE"), (49, u "arraycopy"), (0, u "(Ljava/lang/Object;ILjava/lang/Object;II)V"), (72, .class_ 802), (0, u "java/lang/System$Logger$Level")] 31

def k16m0 : Method := { name := "<init>", desc := "()V", sig := { parameters := [], returnType := none }, accessFlags := 2, code := none }
def k16m1 : Method := { name := "arraycopy", desc := "(Ljava/lang/Object;ILjava/lang/Object;II)V", sig := { parameters := [(.object "java/lang/Object"), .int, (.object "java/lang/Object"), .int, .int], returnType := none }, accessFlags := 265, code := none }
/-- java/lang/System -/
def k16 : Class := { plain "java/lang/System" (some 0) with
  accessFlags := 49
  interfaces := #[]
  cf := some (fileOf pool16 8 #[.nestMembers #[319, 327, 801, 108, 663, 208]] #[{ accessFlags := 2, nameIndex := 5, descriptorIndex := 6, attributes := #[] }, { accessFlags := 265, nameIndex := 727, descriptorIndex := 728, attributes := #[] }] 49 2 #[] #[{ accessFlags := 25, nameIndex := 507, descriptorIndex := 526, attributes := #[] }, { accessFlags := 25, nameIndex := 399, descriptorIndex := 155, attributes := #[] }, { accessFlags := 25, nameIndex := 396, descriptorIndex := 155, attributes := #[] }, { accessFlags := 10, nameIndex := 525, descriptorIndex := 526, attributes := #[] }, { accessFlags := 26, nameIndex := 674, descriptorIndex := 12, attributes := #[] }, { accessFlags := 26, nameIndex := 677, descriptorIndex := 12, attributes := #[] }, { accessFlags := 10, nameIndex := 11, descriptorIndex := 12, attributes := #[] }, { accessFlags := 74, nameIndex := 175, descriptorIndex := 176, attributes := #[] }, { accessFlags := 10, nameIndex := 491, descriptorIndex := 222, attributes := #[] }, { accessFlags := 74, nameIndex := 29, descriptorIndex := 30, attributes := #[] }, { accessFlags := 74, nameIndex := 154, descriptorIndex := 155, attributes := #[] }, { accessFlags := 10, nameIndex := 217, descriptorIndex := 218, attributes := #[] }, { accessFlags := 10, nameIndex := 221, descriptorIndex := 222, attributes := #[] }, { accessFlags := 8, nameIndex := 562, descriptorIndex := 563, attributes := #[] }])
  fields := #[{ name := "in", type := (.object "java/io/InputStream"), accessFlags := 25, slot := 0, constantValue := 0 }, { name := "out", type := (.object "java/io/PrintStream"), accessFlags := 25, slot := 1, constantValue := 0 }, { name := "err", type := (.object "java/io/PrintStream"), accessFlags := 25, slot := 2, constantValue := 0 }, { name := "initialIn", type := (.object "java/io/InputStream"), accessFlags := 10, slot := 3, constantValue := 0 }, { name := "NEVER", type := .int, accessFlags := 26, slot := 4, constantValue := 0 }, { name := "MAYBE", type := .int, accessFlags := 26, slot := 5, constantValue := 0 }, { name := "allowSecurityManager", type := .int, accessFlags := 10, slot := 6, constantValue := 0 }, { name := "security", type := (.object "java/lang/SecurityManager"), accessFlags := 74, slot := 7, constantValue := 0 }, { name := "notSupportedJnuEncoding", type := (.object "java/lang/String"), accessFlags := 10, slot := 8, constantValue := 0 }, { name := "cons", type := (.object "java/io/Console"), accessFlags := 74, slot := 9, constantValue := 0 }, { name := "initialErrStream", type := (.object "java/io/PrintStream"), accessFlags := 74, slot := 10, constantValue := 0 }, { name := "props", type := (.object "java/util/Properties"), accessFlags := 10, slot := 11, constantValue := 0 }, { name := "lineSeparator", type := (.object "java/lang/String"), accessFlags := 10, slot := 12, constantValue := 0 }, { name := "bootLayer", type := (.object "java/lang/ModuleLayer"), accessFlags := 8, slot := 13, constantValue := 0 }]
  methods := #[k16m0, k16m1]
  instanceTypes := #[]
  staticTypes := #[(.object "java/io/InputStream"), (.object "java/io/PrintStream"), (.object "java/io/PrintStream"), (.object "java/io/InputStream"), .int, .int, .int, (.object "java/lang/SecurityManager"), (.object "java/lang/String"), (.object "java/io/Console"), (.object "java/io/PrintStream"), (.object "java/util/Properties"), (.object "java/lang/String"), (.object "java/lang/ModuleLayer")]
  resolved := Array.replicate 834 none
  statics := none }

def pool17 : Array CpInfo := pool [(9, u "<init>"), (6, .class_ 18), (1, u "java/lang/Object"), (0, u "()V"), (1, .class_ 23), (1, u "jdk/internal/util/ArraysSupport"), (0, u "LOG2_ARRAY_LONG_INDEX_SCALE"), (0, u "I"), (2, u "U"), (0, u "Ljdk/internal/misc/Unsafe;"), (8, u "BIG_ENDIAN"), (0, u "Z"), (8, u "LOG2_BYTE_BIT_SIZE"), (4, u "LOG2_ARRAY_INT_INDEX_SCALE"), (54, u "JLA"), (0, u "Ljdk/internal/access/JavaLangAccess;"), (11, u "LOG2_ARRAY_BOOLEAN_INDEX_SCALE"), (9, u "LOG2_ARRAY_BYTE_INDEX_SCALE"), (5, u "LOG2_ARRAY_CHAR_INDEX_SCALE"), (5, u "LOG2_ARRAY_SHORT_INDEX_SCALE"), (18, u "LOG2_ARRAY_FLOAT_INDEX_SCALE"), (24, u "LOG2_ARRAY_DOUBLE_INDEX_SCALE"), (89, u "T_BOOLEAN"), (2, u "T_CHAR"), (1, u "T_FLOAT"), (1, u "T_DOUBLE"), (1, u "T_BYTE"), (1, u "T_SHORT"), (1, u "T_INT"), (1, u "T_LONG"), (1, u "SOFT_MAX_ARRAY_LENGTH")] 83

def k17m0 : Method := { name := "<init>", desc := "()V", sig := { parameters := [], returnType := none }, accessFlags := 2, code := none }
/-- jdk/internal/util/ArraysSupport -/
def k17 : Class := { plain "jdk/internal/util/ArraysSupport" (some 0) with
  accessFlags := 33
  interfaces := #[]
  cf := some (fileOf pool17 21 #[] #[{ accessFlags := 2, nameIndex := 9, descriptorIndex := 19, attributes := #[] }] 33 16 #[] #[{ accessFlags := 24, nameIndex := 28, descriptorIndex := 29, attributes := #[] }, { accessFlags := 26, nameIndex := 38, descriptorIndex := 39, attributes := #[] }, { accessFlags := 25, nameIndex := 121, descriptorIndex := 25, attributes := #[] }, { accessFlags := 25, nameIndex := 131, descriptorIndex := 25, attributes := #[] }, { accessFlags := 25, nameIndex := 137, descriptorIndex := 25, attributes := #[] }, { accessFlags := 25, nameIndex := 143, descriptorIndex := 25, attributes := #[] }, { accessFlags := 25, nameIndex := 53, descriptorIndex := 25, attributes := #[] }, { accessFlags := 25, nameIndex := 24, descriptorIndex := 25, attributes := #[] }, { accessFlags := 25, nameIndex := 162, descriptorIndex := 25, attributes := #[] }, { accessFlags := 25, nameIndex := 187, descriptorIndex := 25, attributes := #[] }, { accessFlags := 26, nameIndex := 48, descriptorIndex := 25, attributes := #[] }, { accessFlags := 25, nameIndex := 277, descriptorIndex := 25, attributes := #[] }, { accessFlags := 25, nameIndex := 280, descriptorIndex := 25, attributes := #[] }, { accessFlags := 25, nameIndex := 282, descriptorIndex := 25, attributes := #[] }, { accessFlags := 25, nameIndex := 284, descriptorIndex := 25, attributes := #[] }, { accessFlags := 25, nameIndex := 286, descriptorIndex := 25, attributes := #[] }, { accessFlags := 25, nameIndex := 288, descriptorIndex := 25, attributes := #[] }, { accessFlags := 25, nameIndex := 290, descriptorIndex := 25, attributes := #[] }, { accessFlags := 25, nameIndex := 292, descriptorIndex := 25, attributes := #[] }, { accessFlags := 26, nameIndex := 108, descriptorIndex := 109, attributes := #[] }, { accessFlags := 25, nameIndex := 294, descriptorIndex := 25, attributes := #[] }])
  fields := #[{ name := "U", type := (.object "jdk/internal/misc/Unsafe"), accessFlags := 24, slot := 0, constantValue := 0 }, { name := "BIG_ENDIAN", type := .boolean, accessFlags := 26, slot := 1, constantValue := 0 }, { name := "LOG2_ARRAY_BOOLEAN_INDEX_SCALE", type := .int, accessFlags := 25, slot := 2, constantValue := 0 }, { name := "LOG2_ARRAY_BYTE_INDEX_SCALE", type := .int, accessFlags := 25, slot := 3, constantValue := 0 }, { name := "LOG2_ARRAY_CHAR_INDEX_SCALE", type := .int, accessFlags := 25, slot := 4, constantValue := 0 }, { name := "LOG2_ARRAY_SHORT_INDEX_SCALE", type := .int, accessFlags := 25, slot := 5, constantValue := 0 }, { name := "LOG2_ARRAY_INT_INDEX_SCALE", type := .int, accessFlags := 25, slot := 6, constantValue := 0 }, { name := "LOG2_ARRAY_LONG_INDEX_SCALE", type := .int, accessFlags := 25, slot := 7, constantValue := 0 }, { name := "LOG2_ARRAY_FLOAT_INDEX_SCALE", type := .int, accessFlags := 25, slot := 8, constantValue := 0 }, { name := "LOG2_ARRAY_DOUBLE_INDEX_SCALE", type := .int, accessFlags := 25, slot := 9, constantValue := 0 }, { name := "LOG2_BYTE_BIT_SIZE", type := .int, accessFlags := 26, slot := 10, constantValue := 0 }, { name := "T_BOOLEAN", type := .int, accessFlags := 25, slot := 11, constantValue := 0 }, { name := "T_CHAR", type := .int, accessFlags := 25, slot := 12, constantValue := 0 }, { name := "T_FLOAT", type := .int, accessFlags := 25, slot := 13, constantValue := 0 }, { name := "T_DOUBLE", type := .int, accessFlags := 25, slot := 14, constantValue := 0 }, { name := "T_BYTE", type := .int, accessFlags := 25, slot := 15, constantValue := 0 }, { name := "T_SHORT", type := .int, accessFlags := 25, slot := 16, constantValue := 0 }, { name := "T_INT", type := .int, accessFlags := 25, slot := 17, constantValue := 0 }, { name := "T_LONG", type := .int, accessFlags := 25, slot := 18, constantValue := 0 }, { name := "JLA", type := (.object "jdk/internal/access/JavaLangAccess"), accessFlags := 26, slot := 19, constantValue := 0 }, { name := "SOFT_MAX_ARRAY_LENGTH", type := .int, accessFlags := 25, slot := 20, constantValue := 0 }]
  methods := #[k17m0]
  instanceTypes := #[]
  staticTypes := #[(.object "jdk/internal/misc/Unsafe"), .boolean, .int, .int, .int, .int, .int, .int, .int, .int, .int, .int, .int, .int, .int, .int, .int, .int, .int, (.object "jdk/internal/access/JavaLangAccess"), .int]
  resolved := Array.replicate 378 none
  statics := none }

def pool18 : Array CpInfo := pool [(1, u "java/lang/Cloneable"), (0, .class_ 1), (0, u "java/lang/Object"), (0, .class_ 3)] 3

/-- java/lang/Cloneable -/
def k18 : Class := { plain "java/lang/Cloneable" (some 0) with
  accessFlags := 1537
  interfaces := #[]
  cf := some (fileOf pool18 2 #[] #[] 1537 4 #[] #[])
  fields := #[]
  methods := #[]
  instanceTypes := #[]
  staticTypes := #[]
  resolved := Array.replicate 8 none
  statics := none }

/-- the primitive byte -/
def k19 : Class := { plain "byte" none with kind := .primitive 'B', accessFlags := 0x411 }
/-- [B -/
def k20 : Class := { plain "[B" (some 0) with kind := .array 19 .byte, interfaces := #[18, 2], accessFlags := 1041 }

/-- the primitive char -/
def k21 : Class := { plain "char" none with kind := .primitive 'C', accessFlags := 0x411 }
/-- [C -/
def k22 : Class := { plain "[C" (some 0) with kind := .array 21 .char, interfaces := #[18, 2], accessFlags := 1041 }

/-- the primitive int -/
def k23 : Class := { plain "int" none with kind := .primitive 'I', accessFlags := 0x411 }
/-- [I -/
def k24 : Class := { plain "[I" (some 0) with kind := .array 23 .int, interfaces := #[18, 2], accessFlags := 1041 }

def heap : Heap := #[{ cls := 7, slots := #[.long 0, .int 1, .null, .int 0, .null, .int 0, .int 0], vm := .statics 7 },
  { cls := 8, slots := #[.int 0, .int 8, .int 0, .int 1], vm := .statics 8 },
  { cls := 12, slots := #[.null, .null, .null], vm := .statics 12 }]
def classes : Array Class := #[k0, k1, k2, k3, k4, k5, k6, k7, k8, k9, k10, k11, k12, k13, k14, k15, k16, k17, k18, k19, k20, k21, k22, k23, k24]
def interned : List (Array UInt16 × Addr) := []
def slotsUsed : Nat := 14
def theMethod : MethodId := ⟨1, 1⟩
def args0 : Array Value := #[.int 97, .int 300, .int 99, .int 8364, .int 1, .int 2]
def aboutOver (below : List Frame) : State where
  vm := { classes := classes, interned := interned.toArray }
  heap := heap
  slotsUsed := slotsUsed
  threads := #[{ frames := .invoking theMethod args0 :: below }]
def below0 : List Frame := [.native { method := ⟨0, 0⟩, args := #[] }]
def about1 : State := aboutOver below0
def p0 : Program := .bare "" "" ""
def e0 : Env := launch0.env 0 0 0
theorem w_frames : about1.frames = Frame.invoking theMethod args0 :: below0 := rfl
set_option maxRecDepth 65536 in
theorem w_args : argsFit about1.vm theMethod args0 = true := by decide +kernel
set_option maxRecDepth 65536 in
theorem w_heap : heapFits about1 = true := by decide +kernel
set_option maxRecDepth 65536 in
theorem w_runnable : about1.curStatus? = some .runnable := by decide +kernel
set_option maxRecDepth 65536 in
theorem w_alone : about1.alone = true := by decide +kernel
set_option maxRecDepth 65536 in
theorem w_named : about1.methodNamed? x = some theMethod := by decide +kernel
set_option maxRecDepth 65536 in
theorem w_hears : about1.hears theMethod below0 = true := by decide +kernel
set_option maxRecDepth 65536 in
theorem w_ripe : about1.ripe theMethod args0 below0 = true := by decide +kernel
theorem w_running : about1.status = .running := rfl
set_option maxRecDepth 65536 in
theorem w_room : about1.hasRoom e0.platform room_1 = true :=
  launch0.hasRoom_least _ room_1 (by decide +kernel) (by decide +kernel) (by decide +kernel) (by decide +kernel) (by decide +kernel) (by decide +kernel)
theorem allAtoms_all (ts : List Jvm.Cond) (a : Array Jvm.Value) (st : Jvm.State) : (allAtoms ts).before a st = ts.all (fun c => c.before a st) := by
  induction ts with
  | nil => rfl
  | cons c t ih =>
    show (Jvm.Cond.and c (allAtoms t)).before a st = _
    rw [Jvm.Cond.before_and, ih, List.all_cons]
def words1 : List Jvm.Cond := Jvm.Cond.code x code maxLocals ret :: tables_1
/-- a 'code' word, met by the world's own term for the bytes: nothing is compared byte by byte -/
theorem code_word {y : MethodName} {bytes : ByteArray} {mx : Nat} {rt : Option FieldType} {a : Array Value} {s : State} {m : MethodId} {meth : Method} {c : Code} (h1 : s.methodNamed? y = some m) (h2 : s.vm.method? m = some meth) (h3 : meth.code = some c) (h4 : c.code = bytes)
    (h5 : (c.maxLocals == mx && c.exceptionTable.isEmpty && decide (c.maxStack ≤ mostOperands) && decide (meth.sig.returnType = rt) && !meth.locks && decide (parseMethodDescriptor y.desc = some meth.sig)) = true) : (Jvm.Cond.code y bytes mx rt).before a s = true := by
  simp only [Bool.and_eq_true, beq_iff_eq, Bool.not_eq_true', decide_eq_true_eq] at h5
  obtain ⟨⟨⟨⟨⟨g1, g2⟩, g3⟩, g4⟩, g5⟩, g6⟩ := h5
  simp [Cond.before, Cond.holds, Cond.value, h1, h2, h3, h4, g1, g2, g3, g4, g5, g6]
def isCode : Jvm.Cond → Bool
  | .code _ _ _ _ => true
  | _ => false
theorem all_split {L : List Jvm.Cond} {P : Jvm.Cond → Bool} (h1 : L.all (fun c => isCode c || P c) = true) (h2 : ∀ c ∈ L.filter isCode, P c = true) : L.all P = true := by
  refine List.all_eq_true.mpr fun c hc => ?_
  have h := List.all_eq_true.mp h1 c hc
  rcases Bool.eq_false_or_eq_true (isCode c) with hi | hi
  · exact h2 c (List.mem_filter.mpr ⟨hc, hi⟩)
  · simpa [hi] using h
set_option maxRecDepth 65536 in
theorem w_c0 : (Jvm.Cond.code x code maxLocals ret).before args0 about1 = true := code_word (m := ⟨1, 1⟩) (meth := k1m1) (c := k1c1) (by decide +kernel) rfl rfl rfl (by decide +kernel)
set_option maxRecDepth 65536 in
theorem w_c1 : (Jvm.Cond.code ({ cls := "java/lang/String", name := "<init>", desc := "([C)V" } : Jvm.MethodName) jdk_42_method_3_code (2 : Nat) (Option.none : Option Jvm.ClassFile.FieldType)).before args0 about1 = true := code_word (m := ⟨7, 1⟩) (meth := k7m1) (c := k7c1) (by decide +kernel) rfl rfl rfl (by decide +kernel)
set_option maxRecDepth 65536 in
theorem w_c2 : (Jvm.Cond.code ({ cls := "java/lang/String", name := "<init>", desc := "([CIILjava/lang/Void;)V" } : Jvm.MethodName) jdk_42_method_149_code (6 : Nat) (Option.none : Option Jvm.ClassFile.FieldType)).before args0 about1 = true := code_word (m := ⟨7, 5⟩) (meth := k7m5) (c := k7c5) (by decide +kernel) rfl rfl rfl (by decide +kernel)
set_option maxRecDepth 65536 in
theorem w_c3 : (Jvm.Cond.code ({ cls := "java/lang/Object", name := "<init>", desc := "()V" } : Jvm.MethodName) object_method_1_code (1 : Nat) (Option.none : Option Jvm.ClassFile.FieldType)).before args0 about1 = true := code_word (m := ⟨0, 0⟩) (meth := k0m0) (c := k0c0) (by decide +kernel) rfl rfl rfl (by decide +kernel)
set_option maxRecDepth 65536 in
theorem w_c4 : (Jvm.Cond.code ({ cls := "java/lang/StringUTF16", name := "compress", desc := "([CII)[B" } : Jvm.MethodName) jdk_52_method_16_code (6 : Nat) (Option.some (Jvm.ClassFile.FieldType.array Jvm.ClassFile.FieldType.byte))).before args0 about1 = true := code_word (m := ⟨8, 8⟩) (meth := k8m8) (c := k8c8) (by decide +kernel) rfl rfl rfl (by decide +kernel)
set_option maxRecDepth 65536 in
theorem w_c5 : (Jvm.Cond.code ({ cls := "java/lang/StringUTF16", name := "compress", desc := "([CI[BII)I" } : Jvm.MethodName) jdk_52_method_21_code (7 : Nat) (Option.some Jvm.ClassFile.FieldType.int)).before args0 about1 = true := code_word (m := ⟨8, 10⟩) (meth := k8m10) (c := k8c10) (by decide +kernel) rfl rfl rfl (by decide +kernel)
set_option maxRecDepth 65536 in
theorem w_c6 : (Jvm.Cond.code ({ cls := "java/lang/StringUTF16", name := "coderFromArrayLen", desc := "([BI)B" } : Jvm.MethodName) jdk_52_method_15_code (2 : Nat) (Option.some Jvm.ClassFile.FieldType.byte)).before args0 about1 = true := code_word (m := ⟨8, 7⟩) (meth := k8m7) (c := k8c7) (by decide +kernel) rfl rfl rfl (by decide +kernel)
set_option maxRecDepth 65536 in
theorem w_c7 : (Jvm.Cond.code ({ cls := "com/example/lexiform/lexiform/logicalform/Phrase", name := "<init>", desc := "(Ljava/lang/String;II)V" } : Jvm.MethodName) prog_23_method_1_code (4 : Nat) (Option.none : Option Jvm.ClassFile.FieldType)).before args0 about1 = true := code_word (m := ⟨10, 0⟩) (meth := k10m0) (c := k10c0) (by decide +kernel) rfl rfl rfl (by decide +kernel)
set_option maxRecDepth 65536 in
theorem w_c8 : (Jvm.Cond.code ({ cls := "java/lang/Record", name := "<init>", desc := "()V" } : Jvm.MethodName) jdk_30_method_1_code (1 : Nat) (Option.none : Option Jvm.ClassFile.FieldType)).before args0 about1 = true := code_word (m := ⟨9, 0⟩) (meth := k9m0) (c := k9c0) (by decide +kernel) rfl rfl rfl (by decide +kernel)
set_option maxRecDepth 65536 in
theorem w_c9 : (Jvm.Cond.code ({ cls := "java/util/Objects", name := "requireNonNull", desc := "(Ljava/lang/Object;Ljava/lang/String;)Ljava/lang/Object;" } : Jvm.MethodName) jdk_31_method_11_code (2 : Nat) (Option.some (Jvm.ClassFile.FieldType.object "java/lang/Object"))).before args0 about1 = true := code_word (m := ⟨11, 1⟩) (meth := k11m1) (c := k11c1) (by decide +kernel) rfl rfl rfl (by decide +kernel)
set_option maxRecDepth 65536 in
theorem w_c10 : (Jvm.Cond.code ({ cls := "com/example/lexiform/lexiform/logicalform/Phrase", name := "in", desc := "(Ljava/lang/String;)Ljava/lang/String;" } : Jvm.MethodName) prog_23_method_2_code (2 : Nat) (Option.some (Jvm.ClassFile.FieldType.object "java/lang/String"))).before args0 about1 = true := code_word (m := ⟨10, 1⟩) (meth := k10m1) (c := k10c1) (by decide +kernel) rfl rfl rfl (by decide +kernel)
set_option maxRecDepth 65536 in
theorem w_c11 : (Jvm.Cond.code ({ cls := "java/lang/String", name := "substring", desc := "(II)Ljava/lang/String;" } : Jvm.MethodName) jdk_42_method_92_code (5 : Nat) (Option.some (Jvm.ClassFile.FieldType.object "java/lang/String"))).before args0 about1 = true := code_word (m := ⟨7, 4⟩) (meth := k7m4) (c := k7c4) (by decide +kernel) rfl rfl rfl (by decide +kernel)
set_option maxRecDepth 65536 in
theorem w_c12 : (Jvm.Cond.code ({ cls := "java/lang/String", name := "length", desc := "()I" } : Jvm.MethodName) jdk_42_method_54_code (1 : Nat) (Option.some Jvm.ClassFile.FieldType.int)).before args0 about1 = true := code_word (m := ⟨7, 2⟩) (meth := k7m2) (c := k7c2) (by decide +kernel) rfl rfl rfl (by decide +kernel)
set_option maxRecDepth 65536 in
theorem w_c13 : (Jvm.Cond.code ({ cls := "java/lang/String", name := "coder", desc := "()B" } : Jvm.MethodName) jdk_42_method_152_code (1 : Nat) (Option.some Jvm.ClassFile.FieldType.byte)).before args0 about1 = true := code_word (m := ⟨7, 7⟩) (meth := k7m7) (c := k7c7) (by decide +kernel) rfl rfl rfl (by decide +kernel)
set_option maxRecDepth 65536 in
theorem w_c14 : (Jvm.Cond.code ({ cls := "java/lang/String", name := "checkBoundsBeginEnd", desc := "(III)V" } : Jvm.MethodName) jdk_42_method_158_code (3 : Nat) (Option.none : Option Jvm.ClassFile.FieldType)).before args0 about1 = true := code_word (m := ⟨7, 11⟩) (meth := k7m11) (c := k7c11) (by decide +kernel) rfl rfl rfl (by decide +kernel)
set_option maxRecDepth 65536 in
theorem w_c15 : (Jvm.Cond.code ({ cls := "jdk/internal/util/Preconditions", name := "checkFromToIndex", desc := "(IIILjava/util/function/BiFunction;)I" } : Jvm.MethodName) jdk_41_method_12_code (4 : Nat) (Option.some Jvm.ClassFile.FieldType.int)).before args0 about1 = true := code_word (m := ⟨12, 2⟩) (meth := k12m2) (c := k12c2) (by decide +kernel) rfl rfl rfl (by decide +kernel)
set_option maxRecDepth 65536 in
theorem w_c16 : (Jvm.Cond.code ({ cls := "java/lang/String", name := "isLatin1", desc := "()Z" } : Jvm.MethodName) jdk_42_method_154_code (1 : Nat) (Option.some Jvm.ClassFile.FieldType.boolean)).before args0 about1 = true := code_word (m := ⟨7, 8⟩) (meth := k7m8) (c := k7c8) (by decide +kernel) rfl rfl rfl (by decide +kernel)
set_option maxRecDepth 65536 in
theorem w_c17 : (Jvm.Cond.code ({ cls := "java/lang/StringLatin1", name := "newString", desc := "([BII)Ljava/lang/String;" } : Jvm.MethodName) jdk_43_method_47_code (3 : Nat) (Option.some (Jvm.ClassFile.FieldType.object "java/lang/String"))).before args0 about1 = true := code_word (m := ⟨13, 2⟩) (meth := k13m2) (c := k13c2) (by decide +kernel) rfl rfl rfl (by decide +kernel)
set_option maxRecDepth 65536 in
theorem w_c18 : (Jvm.Cond.code ({ cls := "java/util/Arrays", name := "copyOfRange", desc := "([BII)[B" } : Jvm.MethodName) jdk_65_method_132_code (3 : Nat) (Option.some (Jvm.ClassFile.FieldType.array Jvm.ClassFile.FieldType.byte))).before args0 about1 = true := code_word (m := ⟨14, 2⟩) (meth := k14m2) (c := k14c2) (by decide +kernel) rfl rfl rfl (by decide +kernel)
set_option maxRecDepth 65536 in
theorem w_c19 : (Jvm.Cond.code ({ cls := "java/util/Arrays", name := "copyOfRangeByte", desc := "([BII)[B" } : Jvm.MethodName) jdk_65_method_133_code (5 : Nat) (Option.some (Jvm.ClassFile.FieldType.array Jvm.ClassFile.FieldType.byte))).before args0 about1 = true := code_word (m := ⟨14, 3⟩) (meth := k14m3) (c := k14c3) (by decide +kernel) rfl rfl rfl (by decide +kernel)
set_option maxRecDepth 65536 in
theorem w_c20 : (Jvm.Cond.code ({ cls := "java/util/Arrays", name := "checkLength", desc := "(II)V" } : Jvm.MethodName) jdk_65_method_131_code (2 : Nat) (Option.none : Option Jvm.ClassFile.FieldType)).before args0 about1 = true := code_word (m := ⟨14, 1⟩) (meth := k14m1) (c := k14c1) (by decide +kernel) rfl rfl rfl (by decide +kernel)
set_option maxRecDepth 65536 in
theorem w_c21 : (Jvm.Cond.code ({ cls := "java/lang/Math", name := "min", desc := "(II)I" } : Jvm.MethodName) jdk_29_method_69_code (2 : Nat) (Option.some Jvm.ClassFile.FieldType.int)).before args0 about1 = true := code_word (m := ⟨15, 1⟩) (meth := k15m1) (c := k15c1) (by decide +kernel) rfl rfl rfl (by decide +kernel)
set_option maxRecDepth 65536 in
theorem w_c22 : (Jvm.Cond.code ({ cls := "java/lang/String", name := "<init>", desc := "([BB)V" } : Jvm.MethodName) jdk_42_method_151_code (3 : Nat) (Option.none : Option Jvm.ClassFile.FieldType)).before args0 about1 = true := code_word (m := ⟨7, 6⟩) (meth := k7m6) (c := k7c6) (by decide +kernel) rfl rfl rfl (by decide +kernel)
set_option maxRecDepth 65536 in
theorem w_c23 : (Jvm.Cond.code ({ cls := "com/example/lexiform/lexiform/logicalform/PhraseInPinLaw", name := "at", desc := "(Ljava/lang/String;[CIII)Z" } : Jvm.MethodName) method_3_code (5 : Nat) (Option.some Jvm.ClassFile.FieldType.boolean)).before args0 about1 = true := code_word (m := ⟨1, 2⟩) (meth := k1m2) (c := k1c2) (by decide +kernel) rfl rfl rfl (by decide +kernel)
set_option maxRecDepth 65536 in
theorem w_c24 : (Jvm.Cond.code ({ cls := "java/lang/String", name := "charAt", desc := "(I)C" } : Jvm.MethodName) jdk_42_method_56_code (2 : Nat) (Option.some Jvm.ClassFile.FieldType.char)).before args0 about1 = true := code_word (m := ⟨7, 3⟩) (meth := k7m3) (c := k7c3) (by decide +kernel) rfl rfl rfl (by decide +kernel)
set_option maxRecDepth 65536 in
theorem w_c25 : (Jvm.Cond.code ({ cls := "java/lang/StringLatin1", name := "charAt", desc := "([BI)C" } : Jvm.MethodName) jdk_43_method_2_code (2 : Nat) (Option.some Jvm.ClassFile.FieldType.char)).before args0 about1 = true := code_word (m := ⟨13, 1⟩) (meth := k13m1) (c := k13c1) (by decide +kernel) rfl rfl rfl (by decide +kernel)
set_option maxRecDepth 65536 in
theorem w_c26 : (Jvm.Cond.code ({ cls := "java/lang/String", name := "checkIndex", desc := "(II)V" } : Jvm.MethodName) jdk_42_method_155_code (2 : Nat) (Option.none : Option Jvm.ClassFile.FieldType)).before args0 about1 = true := code_word (m := ⟨7, 9⟩) (meth := k7m9) (c := k7c9) (by decide +kernel) rfl rfl rfl (by decide +kernel)
set_option maxRecDepth 65536 in
theorem w_c27 : (Jvm.Cond.code ({ cls := "jdk/internal/util/Preconditions", name := "checkIndex", desc := "(IILjava/util/function/BiFunction;)I" } : Jvm.MethodName) jdk_41_method_11_code (3 : Nat) (Option.some Jvm.ClassFile.FieldType.int)).before args0 about1 = true := code_word (m := ⟨12, 1⟩) (meth := k12m1) (c := k12c1) (by decide +kernel) rfl rfl rfl (by decide +kernel)
set_option maxRecDepth 65536 in
theorem w_c28 : (Jvm.Cond.code ({ cls := "java/lang/StringUTF16", name := "toBytes", desc := "([CII)[B" } : Jvm.MethodName) jdk_52_method_14_code (5 : Nat) (Option.some (Jvm.ClassFile.FieldType.array Jvm.ClassFile.FieldType.byte))).before args0 about1 = true := code_word (m := ⟨8, 6⟩) (meth := k8m6) (c := k8c6) (by decide +kernel) rfl rfl rfl (by decide +kernel)
set_option maxRecDepth 65536 in
theorem w_c29 : (Jvm.Cond.code ({ cls := "java/lang/StringUTF16", name := "newBytesFor", desc := "(I)[B" } : Jvm.MethodName) jdk_52_method_2_code (1 : Nat) (Option.some (Jvm.ClassFile.FieldType.array Jvm.ClassFile.FieldType.byte))).before args0 about1 = true := code_word (m := ⟨8, 1⟩) (meth := k8m1) (c := k8c1) (by decide +kernel) rfl rfl rfl (by decide +kernel)
set_option maxRecDepth 65536 in
theorem w_c30 : (Jvm.Cond.code ({ cls := "java/lang/StringUTF16", name := "newBytesLength", desc := "(I)I" } : Jvm.MethodName) jdk_52_method_3_code (1 : Nat) (Option.some Jvm.ClassFile.FieldType.int)).before args0 about1 = true := code_word (m := ⟨8, 2⟩) (meth := k8m2) (c := k8c2) (by decide +kernel) rfl rfl rfl (by decide +kernel)
set_option maxRecDepth 65536 in
theorem w_c31 : (Jvm.Cond.code ({ cls := "java/lang/StringUTF16", name := "putChar", desc := "([BII)V" } : Jvm.MethodName) jdk_52_method_4_code (3 : Nat) (Option.none : Option Jvm.ClassFile.FieldType)).before args0 about1 = true := code_word (m := ⟨8, 3⟩) (meth := k8m3) (c := k8c3) (by decide +kernel) rfl rfl rfl (by decide +kernel)
set_option maxRecDepth 65536 in
theorem w_c32 : (Jvm.Cond.code ({ cls := "java/lang/StringUTF16", name := "getChar", desc := "([BI)C" } : Jvm.MethodName) jdk_52_method_5_code (2 : Nat) (Option.some Jvm.ClassFile.FieldType.char)).before args0 about1 = true := code_word (m := ⟨8, 4⟩) (meth := k8m4) (c := k8c4) (by decide +kernel) rfl rfl rfl (by decide +kernel)
set_option maxRecDepth 65536 in
theorem w_c33 : (Jvm.Cond.code ({ cls := "java/lang/StringUTF16", name := "newString", desc := "([BII)Ljava/lang/String;" } : Jvm.MethodName) jdk_52_method_69_code (5 : Nat) (Option.some (Jvm.ClassFile.FieldType.object "java/lang/String"))).before args0 about1 = true := code_word (m := ⟨8, 12⟩) (meth := k8m12) (c := k8c12) (by decide +kernel) rfl rfl rfl (by decide +kernel)
set_option maxRecDepth 65536 in
theorem w_c34 : (Jvm.Cond.code ({ cls := "java/lang/StringUTF16", name := "compress", desc := "([BII)[B" } : Jvm.MethodName) jdk_52_method_17_code (6 : Nat) (Option.some (Jvm.ClassFile.FieldType.array Jvm.ClassFile.FieldType.byte))).before args0 about1 = true := code_word (m := ⟨8, 9⟩) (meth := k8m9) (c := k8c9) (by decide +kernel) rfl rfl rfl (by decide +kernel)
set_option maxRecDepth 65536 in
theorem w_c35 : (Jvm.Cond.code ({ cls := "java/lang/StringUTF16", name := "compress", desc := "([BI[BII)I" } : Jvm.MethodName) jdk_52_method_22_code (7 : Nat) (Option.some Jvm.ClassFile.FieldType.int)).before args0 about1 = true := code_word (m := ⟨8, 11⟩) (meth := k8m11) (c := k8c11) (by decide +kernel) rfl rfl rfl (by decide +kernel)
set_option maxRecDepth 65536 in
theorem w_c36 : (Jvm.Cond.code ({ cls := "java/lang/StringUTF16", name := "checkBoundsOffCount", desc := "(II[B)V" } : Jvm.MethodName) jdk_52_method_94_code (3 : Nat) (Option.none : Option Jvm.ClassFile.FieldType)).before args0 about1 = true := code_word (m := ⟨8, 15⟩) (meth := k8m15) (c := k8c15) (by decide +kernel) rfl rfl rfl (by decide +kernel)
set_option maxRecDepth 65536 in
theorem w_c37 : (Jvm.Cond.code ({ cls := "java/lang/StringUTF16", name := "length", desc := "([B)I" } : Jvm.MethodName) jdk_52_method_6_code (1 : Nat) (Option.some Jvm.ClassFile.FieldType.int)).before args0 about1 = true := code_word (m := ⟨8, 5⟩) (meth := k8m5) (c := k8c5) (by decide +kernel) rfl rfl rfl (by decide +kernel)
set_option maxRecDepth 65536 in
theorem w_c38 : (Jvm.Cond.code ({ cls := "java/lang/String", name := "checkBoundsOffCount", desc := "(III)I" } : Jvm.MethodName) jdk_42_method_157_code (3 : Nat) (Option.some Jvm.ClassFile.FieldType.int)).before args0 about1 = true := code_word (m := ⟨7, 10⟩) (meth := k7m10) (c := k7c10) (by decide +kernel) rfl rfl rfl (by decide +kernel)
set_option maxRecDepth 65536 in
theorem w_c39 : (Jvm.Cond.code ({ cls := "jdk/internal/util/Preconditions", name := "checkFromIndexSize", desc := "(IIILjava/util/function/BiFunction;)I" } : Jvm.MethodName) jdk_41_method_13_code (4 : Nat) (Option.some Jvm.ClassFile.FieldType.int)).before args0 about1 = true := code_word (m := ⟨12, 3⟩) (meth := k12m3) (c := k12c3) (by decide +kernel) rfl rfl rfl (by decide +kernel)
set_option maxRecDepth 65536 in
theorem w_c40 : (Jvm.Cond.code ({ cls := "java/lang/StringUTF16", name := "charAt", desc := "([BI)C" } : Jvm.MethodName) jdk_52_method_83_code (2 : Nat) (Option.some Jvm.ClassFile.FieldType.char)).before args0 about1 = true := code_word (m := ⟨8, 13⟩) (meth := k8m13) (c := k8c13) (by decide +kernel) rfl rfl rfl (by decide +kernel)
set_option maxRecDepth 65536 in
theorem w_c41 : (Jvm.Cond.code ({ cls := "java/lang/StringUTF16", name := "checkIndex", desc := "(I[B)V" } : Jvm.MethodName) jdk_52_method_91_code (2 : Nat) (Option.none : Option Jvm.ClassFile.FieldType)).before args0 about1 = true := code_word (m := ⟨8, 14⟩) (meth := k8m14) (c := k8c14) (by decide +kernel) rfl rfl rfl (by decide +kernel)
def codes1 : List Jvm.Cond := [Jvm.Cond.code x code maxLocals ret, Jvm.Cond.code ({ cls := "java/lang/String", name := "<init>", desc := "([C)V" } : Jvm.MethodName) jdk_42_method_3_code (2 : Nat) (Option.none : Option Jvm.ClassFile.FieldType), Jvm.Cond.code ({ cls := "java/lang/String", name := "<init>", desc := "([CIILjava/lang/Void;)V" } : Jvm.MethodName) jdk_42_method_149_code (6 : Nat) (Option.none : Option Jvm.ClassFile.FieldType), Jvm.Cond.code ({ cls := "java/lang/Object", name := "<init>", desc := "()V" } : Jvm.MethodName) object_method_1_code (1 : Nat) (Option.none : Option Jvm.ClassFile.FieldType), Jvm.Cond.code ({ cls := "java/lang/StringUTF16", name := "compress", desc := "([CII)[B" } : Jvm.MethodName) jdk_52_method_16_code (6 : Nat) (Option.some (Jvm.ClassFile.FieldType.array Jvm.ClassFile.FieldType.byte)), Jvm.Cond.code ({ cls := "java/lang/StringUTF16", name := "compress", desc := "([CI[BII)I" } : Jvm.MethodName) jdk_52_method_21_code (7 : Nat) (Option.some Jvm.ClassFile.FieldType.int), Jvm.Cond.code ({ cls := "java/lang/StringUTF16", name := "coderFromArrayLen", desc := "([BI)B" } : Jvm.MethodName) jdk_52_method_15_code (2 : Nat) (Option.some Jvm.ClassFile.FieldType.byte), Jvm.Cond.code ({ cls := "com/example/lexiform/lexiform/logicalform/Phrase", name := "<init>", desc := "(Ljava/lang/String;II)V" } : Jvm.MethodName) prog_23_method_1_code (4 : Nat) (Option.none : Option Jvm.ClassFile.FieldType), Jvm.Cond.code ({ cls := "java/lang/Record", name := "<init>", desc := "()V" } : Jvm.MethodName) jdk_30_method_1_code (1 : Nat) (Option.none : Option Jvm.ClassFile.FieldType), Jvm.Cond.code ({ cls := "java/util/Objects", name := "requireNonNull", desc := "(Ljava/lang/Object;Ljava/lang/String;)Ljava/lang/Object;" } : Jvm.MethodName) jdk_31_method_11_code (2 : Nat) (Option.some (Jvm.ClassFile.FieldType.object "java/lang/Object")), Jvm.Cond.code ({ cls := "com/example/lexiform/lexiform/logicalform/Phrase", name := "in", desc := "(Ljava/lang/String;)Ljava/lang/String;" } : Jvm.MethodName) prog_23_method_2_code (2 : Nat) (Option.some (Jvm.ClassFile.FieldType.object "java/lang/String")), Jvm.Cond.code ({ cls := "java/lang/String", name := "substring", desc := "(II)Ljava/lang/String;" } : Jvm.MethodName) jdk_42_method_92_code (5 : Nat) (Option.some (Jvm.ClassFile.FieldType.object "java/lang/String")), Jvm.Cond.code ({ cls := "java/lang/String", name := "length", desc := "()I" } : Jvm.MethodName) jdk_42_method_54_code (1 : Nat) (Option.some Jvm.ClassFile.FieldType.int), Jvm.Cond.code ({ cls := "java/lang/String", name := "coder", desc := "()B" } : Jvm.MethodName) jdk_42_method_152_code (1 : Nat) (Option.some Jvm.ClassFile.FieldType.byte), Jvm.Cond.code ({ cls := "java/lang/String", name := "checkBoundsBeginEnd", desc := "(III)V" } : Jvm.MethodName) jdk_42_method_158_code (3 : Nat) (Option.none : Option Jvm.ClassFile.FieldType), Jvm.Cond.code ({ cls := "jdk/internal/util/Preconditions", name := "checkFromToIndex", desc := "(IIILjava/util/function/BiFunction;)I" } : Jvm.MethodName) jdk_41_method_12_code (4 : Nat) (Option.some Jvm.ClassFile.FieldType.int), Jvm.Cond.code ({ cls := "java/lang/String", name := "isLatin1", desc := "()Z" } : Jvm.MethodName) jdk_42_method_154_code (1 : Nat) (Option.some Jvm.ClassFile.FieldType.boolean), Jvm.Cond.code ({ cls := "java/lang/StringLatin1", name := "newString", desc := "([BII)Ljava/lang/String;" } : Jvm.MethodName) jdk_43_method_47_code (3 : Nat) (Option.some (Jvm.ClassFile.FieldType.object "java/lang/String")), Jvm.Cond.code ({ cls := "java/util/Arrays", name := "copyOfRange", desc := "([BII)[B" } : Jvm.MethodName) jdk_65_method_132_code (3 : Nat) (Option.some (Jvm.ClassFile.FieldType.array Jvm.ClassFile.FieldType.byte)), Jvm.Cond.code ({ cls := "java/util/Arrays", name := "copyOfRangeByte", desc := "([BII)[B" } : Jvm.MethodName) jdk_65_method_133_code (5 : Nat) (Option.some (Jvm.ClassFile.FieldType.array Jvm.ClassFile.FieldType.byte)), Jvm.Cond.code ({ cls := "java/util/Arrays", name := "checkLength", desc := "(II)V" } : Jvm.MethodName) jdk_65_method_131_code (2 : Nat) (Option.none : Option Jvm.ClassFile.FieldType), Jvm.Cond.code ({ cls := "java/lang/Math", name := "min", desc := "(II)I" } : Jvm.MethodName) jdk_29_method_69_code (2 : Nat) (Option.some Jvm.ClassFile.FieldType.int), Jvm.Cond.code ({ cls := "java/lang/String", name := "<init>", desc := "([BB)V" } : Jvm.MethodName) jdk_42_method_151_code (3 : Nat) (Option.none : Option Jvm.ClassFile.FieldType), Jvm.Cond.code ({ cls := "com/example/lexiform/lexiform/logicalform/PhraseInPinLaw", name := "at", desc := "(Ljava/lang/String;[CIII)Z" } : Jvm.MethodName) method_3_code (5 : Nat) (Option.some Jvm.ClassFile.FieldType.boolean), Jvm.Cond.code ({ cls := "java/lang/String", name := "charAt", desc := "(I)C" } : Jvm.MethodName) jdk_42_method_56_code (2 : Nat) (Option.some Jvm.ClassFile.FieldType.char), Jvm.Cond.code ({ cls := "java/lang/StringLatin1", name := "charAt", desc := "([BI)C" } : Jvm.MethodName) jdk_43_method_2_code (2 : Nat) (Option.some Jvm.ClassFile.FieldType.char), Jvm.Cond.code ({ cls := "java/lang/String", name := "checkIndex", desc := "(II)V" } : Jvm.MethodName) jdk_42_method_155_code (2 : Nat) (Option.none : Option Jvm.ClassFile.FieldType), Jvm.Cond.code ({ cls := "jdk/internal/util/Preconditions", name := "checkIndex", desc := "(IILjava/util/function/BiFunction;)I" } : Jvm.MethodName) jdk_41_method_11_code (3 : Nat) (Option.some Jvm.ClassFile.FieldType.int), Jvm.Cond.code ({ cls := "java/lang/StringUTF16", name := "toBytes", desc := "([CII)[B" } : Jvm.MethodName) jdk_52_method_14_code (5 : Nat) (Option.some (Jvm.ClassFile.FieldType.array Jvm.ClassFile.FieldType.byte)), Jvm.Cond.code ({ cls := "java/lang/StringUTF16", name := "newBytesFor", desc := "(I)[B" } : Jvm.MethodName) jdk_52_method_2_code (1 : Nat) (Option.some (Jvm.ClassFile.FieldType.array Jvm.ClassFile.FieldType.byte)), Jvm.Cond.code ({ cls := "java/lang/StringUTF16", name := "newBytesLength", desc := "(I)I" } : Jvm.MethodName) jdk_52_method_3_code (1 : Nat) (Option.some Jvm.ClassFile.FieldType.int), Jvm.Cond.code ({ cls := "java/lang/StringUTF16", name := "putChar", desc := "([BII)V" } : Jvm.MethodName) jdk_52_method_4_code (3 : Nat) (Option.none : Option Jvm.ClassFile.FieldType), Jvm.Cond.code ({ cls := "java/lang/StringUTF16", name := "getChar", desc := "([BI)C" } : Jvm.MethodName) jdk_52_method_5_code (2 : Nat) (Option.some Jvm.ClassFile.FieldType.char), Jvm.Cond.code ({ cls := "java/lang/StringUTF16", name := "newString", desc := "([BII)Ljava/lang/String;" } : Jvm.MethodName) jdk_52_method_69_code (5 : Nat) (Option.some (Jvm.ClassFile.FieldType.object "java/lang/String")), Jvm.Cond.code ({ cls := "java/lang/StringUTF16", name := "compress", desc := "([BII)[B" } : Jvm.MethodName) jdk_52_method_17_code (6 : Nat) (Option.some (Jvm.ClassFile.FieldType.array Jvm.ClassFile.FieldType.byte)), Jvm.Cond.code ({ cls := "java/lang/StringUTF16", name := "compress", desc := "([BI[BII)I" } : Jvm.MethodName) jdk_52_method_22_code (7 : Nat) (Option.some Jvm.ClassFile.FieldType.int), Jvm.Cond.code ({ cls := "java/lang/StringUTF16", name := "checkBoundsOffCount", desc := "(II[B)V" } : Jvm.MethodName) jdk_52_method_94_code (3 : Nat) (Option.none : Option Jvm.ClassFile.FieldType), Jvm.Cond.code ({ cls := "java/lang/StringUTF16", name := "length", desc := "([B)I" } : Jvm.MethodName) jdk_52_method_6_code (1 : Nat) (Option.some Jvm.ClassFile.FieldType.int), Jvm.Cond.code ({ cls := "java/lang/String", name := "checkBoundsOffCount", desc := "(III)I" } : Jvm.MethodName) jdk_42_method_157_code (3 : Nat) (Option.some Jvm.ClassFile.FieldType.int), Jvm.Cond.code ({ cls := "jdk/internal/util/Preconditions", name := "checkFromIndexSize", desc := "(IIILjava/util/function/BiFunction;)I" } : Jvm.MethodName) jdk_41_method_13_code (4 : Nat) (Option.some Jvm.ClassFile.FieldType.int), Jvm.Cond.code ({ cls := "java/lang/StringUTF16", name := "charAt", desc := "([BI)C" } : Jvm.MethodName) jdk_52_method_83_code (2 : Nat) (Option.some Jvm.ClassFile.FieldType.char), Jvm.Cond.code ({ cls := "java/lang/StringUTF16", name := "checkIndex", desc := "(I[B)V" } : Jvm.MethodName) jdk_52_method_91_code (2 : Nat) (Option.none : Option Jvm.ClassFile.FieldType)]
set_option maxRecDepth 65536 in
theorem codes_eq : words1.filter isCode = codes1 := rfl
theorem w_codes : ∀ c ∈ words1.filter isCode, c.before args0 about1 = true := by
  rw [codes_eq]
  intro c hc
  simp only [codes1, List.mem_cons, List.not_mem_nil, or_false] at hc
  rcases hc with rfl | rfl | rfl | rfl | rfl | rfl | rfl | rfl | rfl | rfl | rfl | rfl | rfl | rfl | rfl | rfl | rfl | rfl | rfl | rfl | rfl | rfl | rfl | rfl | rfl | rfl | rfl | rfl | rfl | rfl | rfl | rfl | rfl | rfl | rfl | rfl | rfl | rfl | rfl | rfl | rfl | rfl
  · exact w_c0
  · exact w_c1
  · exact w_c2
  · exact w_c3
  · exact w_c4
  · exact w_c5
  · exact w_c6
  · exact w_c7
  · exact w_c8
  · exact w_c9
  · exact w_c10
  · exact w_c11
  · exact w_c12
  · exact w_c13
  · exact w_c14
  · exact w_c15
  · exact w_c16
  · exact w_c17
  · exact w_c18
  · exact w_c19
  · exact w_c20
  · exact w_c21
  · exact w_c22
  · exact w_c23
  · exact w_c24
  · exact w_c25
  · exact w_c26
  · exact w_c27
  · exact w_c28
  · exact w_c29
  · exact w_c30
  · exact w_c31
  · exact w_c32
  · exact w_c33
  · exact w_c34
  · exact w_c35
  · exact w_c36
  · exact w_c37
  · exact w_c38
  · exact w_c39
  · exact w_c40
  · exact w_c41
set_option maxRecDepth 65536 in
theorem w_t1 : (words1.take 24).all (fun c => isCode c || c.before args0 about1) = true := by decide +kernel
set_option maxRecDepth 65536 in
theorem w_t2 : ((words1.drop 24).take 24).all (fun c => isCode c || c.before args0 about1) = true := by decide +kernel
set_option maxRecDepth 65536 in
theorem w_t3 : (((words1.drop 24).drop 24).take 24).all (fun c => isCode c || c.before args0 about1) = true := by decide +kernel
set_option maxRecDepth 65536 in
theorem w_t4 : ((((words1.drop 24).drop 24).drop 24).take 24).all (fun c => isCode c || c.before args0 about1) = true := by decide +kernel
set_option maxRecDepth 65536 in
theorem w_t5 : (((((words1.drop 24).drop 24).drop 24).drop 24).take 24).all (fun c => isCode c || c.before args0 about1) = true := by decide +kernel
set_option maxRecDepth 65536 in
theorem w_t6 : ((((((words1.drop 24).drop 24).drop 24).drop 24).drop 24).take 24).all (fun c => isCode c || c.before args0 about1) = true := by decide +kernel
set_option maxRecDepth 65536 in
theorem w_t7 : (((((((words1.drop 24).drop 24).drop 24).drop 24).drop 24).drop 24).take 24).all (fun c => isCode c || c.before args0 about1) = true := by decide +kernel
set_option maxRecDepth 65536 in
theorem w_t8 : (((((((words1.drop 24).drop 24).drop 24).drop 24).drop 24).drop 24).drop 24).all (fun c => isCode c || c.before args0 about1) = true := by decide +kernel
theorem w_tables : (allAtoms (Jvm.Cond.code x code maxLocals ret :: tables_1)).before args0 about1 = true := by
  rw [allAtoms_all]
  show words1.all (fun c => c.before args0 about1) = true
  refine all_split ?_ w_codes
  rw [← List.take_append_drop 24 words1, List.all_append, w_t1, ← List.take_append_drop 24 (words1.drop 24), List.all_append, w_t2, ← List.take_append_drop 24 ((words1.drop 24).drop 24), List.all_append, w_t3, ← List.take_append_drop 24 (((words1.drop 24).drop 24).drop 24), List.all_append, w_t4, ← List.take_append_drop 24 ((((words1.drop 24).drop 24).drop 24).drop 24), List.all_append, w_t5, ← List.take_append_drop 24 (((((words1.drop 24).drop 24).drop 24).drop 24).drop 24), List.all_append, w_t6, ← List.take_append_drop 24 ((((((words1.drop 24).drop 24).drop 24).drop 24).drop 24).drop 24), List.all_append, w_t7, w_t8]
  rfl
set_option maxRecDepth 65536 in
theorem w_rest : rest_1_c.before args0 about1 = true := by decide +kernel
set_option maxRecDepth 65536 in
theorem w_case : (Jvm.Cond.and given_1 narrow_1).before args0 about1 = true := by decide +kernel
set_option maxRecDepth 65536 in
theorem w_consts : constsHeld consts_1 about1 := Jvm.Lit.constsHeldB_iff.mp (by decide +kernel)
theorem w_applies : (headSpec (Jvm.Cond.code x code maxLocals ret :: tables_1) room_1).applies x e0.platform about1 = true :=
  (Spec.applies_iff w_frames).mpr ⟨w_running, w_runnable, w_alone, w_named, w_hears, w_ripe, w_room, w_tables⟩
theorem atStart : AtStart classFile x code maxLocals ret World_1 tables_1 room_1 Calls_1 rest_1 Pre_1 launch0 p0 e0 about1 theMethod args0 below0 :=
  ⟨lists_1, trivial, launch0.admits_env _ _ _, launch0.least_env, fairChoices_fair.cas, fairChoices_fair.clock, w_frames, w_args, w_heap, w_applies, ⟨w_consts, trivial⟩, w_rest, w_case⟩
end start1
theorem witness_1 : WitnessClaimed_1 := ⟨start1.p0, start1.e0, start1.about1, start1.theMethod, start1.args0, start1.below0, start1.atStart⟩
end Jvm.Pilot.@@N@@
