import JvmDerived
import JvmDerived.Pilot.@@N@@Statement
import JvmDerived.Pilot.@@N@@Code
set_option linter.unusedVariables false
set_option linter.unusedSimpArgs false
@@BLOCK:NumsL.lean.txt@@
namespace Jvm.RoadKit
open Sem ClassFile Op Lib Jvm.Stand Jvm.Free Jvm.LawKit
section New
variable {p : Program} {l : Launch} {e : Env} {R : Room} {s : State} {m : MethodId} {args : Array Value} {below : List Frame} {meth : Method} {c : Code} {T : State} {locs : List Loc} {cells slots : Nat}
theorem retI (X : Stand p l e R s m args below meth c T locs cells slots) (hx : p.tables.exec = Jvm.exec) {pc : Nat} {Ls : Array Slot} {z : Int32} {rest : List Value} (hret : meth.sig.returnType = some .int) (hd : decode c.code pc = .ok (.ireturn, 1)) {fs : List Frame}
    (hl : ∀ (f : JFrame) (acts : List Action), f.method = m → f.locked = none → f.entered = [] → (doReturn e (T.setTop f) acts (some (.int z))).1 = T.setFrames fs) : Steps p.tables e below (T.setTop (mkF m pc Ls (.int z :: rest))) (T.setFrames fs) := by
  have hm' : T.vm.method? m = some meth := X.method'
  have hn : narrow .int (.int z) = .int z := rfl
  show Steps p.tables e below (T.setTop { method := m, pc := pc, locals := Ls, stack := _ :: rest, locked := none }) _
  jvm_step X.here [X.here.top, hx, hd, hm', hret, hn]
  first | (intro acts; rw [hl _ acts rfl rfl rfl]) | rw [hl _ _ rfl rfl rfl]
  exact Steps.refl _
end New
end Jvm.RoadKit
namespace Jvm.Pilot.@@N@@
open Jvm Jvm.ClassFile Sem Op Lib Jvm.Free Jvm.Stand Jvm.LawKit Jvm.RoadKit Bundle Jvm.Pilot.@@N@@.Jvm.D
/-- the int j is the place i -/
def own_ix (j : Int32) (i : Nat) : Prop := j.toInt = (i : Int)
/-- an array by its places: N of them, the j-th holds f j -/
def Ary (Z : State) (h : Heap) (a : Addr) (ty : FieldType) (N : Nat) (f : Nat → Value) : Prop := ∃ c : Cell, Arr Z h a c ty ∧ c.slots.size = N ∧ ∀ j, j < N → c.slots[j]? = some (f j)
def own_up (f : Nat → Value) (i : Nat) (v : Value) : Nat → Value := fun j => if j = i then v else f j
theorem own_up_at (f : Nat → Value) (i : Nat) (v : Value) : own_up f i v i = v := if_pos rfl
theorem own_up_ne (f : Nat → Value) {i j : Nat} (v : Value) (h : j ≠ i) : own_up f i v j = f j := if_neg h
theorem own_ixn {j : Int32} {i : Nat} (h : own_ix j i) : j.toNatClampNeg = i := by
  show j.toInt.toNat = i
  rw [show j.toInt = (i : Int) from h]; rfl
theorem own_ix0 {j : Int32} {i : Nat} (h : own_ix j i) : ¬ j < 0 := by
  rw [Int32.lt_iff_toInt_lt, show j.toInt = (i : Int) from h, show (0 : Int32).toInt = 0 from rfl]; omega
theorem own_ixc {i : Nat} (h : i < 2147483648) : own_ix (Int32.ofNat i) i := Int32.toInt_ofNat_of_lt (by omega)
theorem own_ixe {j : Int32} {i : Nat} (h : own_ix j i) : j = Int32.ofNat i := by
  apply Int32.toInt_inj.mp
  have hb := j.toInt_lt
  have h' : j.toInt = (i : Int) := h
  rw [Int32.toInt_ofNat_of_lt (by omega)]; exact h'
theorem own_ixa {j c : Int32} {i k : Nat} (h : own_ix j i) (hc : own_ix c k) (hb : i + k < 2147483648) : own_ix (j + c) (i + k) := by
  show (j + c).toInt = ((i + k : Nat) : Int)
  have h' : j.toInt = (i : Int) := h
  have hc' : c.toInt = (k : Int) := hc
  rw [Int32.toInt_add, h', hc', Int.bmod_eq_of_le (by omega) (by omega)]; omega
theorem own_ixs {j c : Int32} {i k : Nat} (h : own_ix j i) (hc : own_ix c k) (hb : k ≤ i) : own_ix (j - c) (i - k) := by
  show (j - c).toInt = ((i - k : Nat) : Int)
  have hj := j.toInt_lt
  have h' : j.toInt = (i : Int) := h
  have hc' : c.toInt = (k : Int) := hc
  rw [Int32.toInt_sub, h', hc', Int.bmod_eq_of_le (by omega) (by omega)]; omega
theorem own_ixm {j c : Int32} {i k : Nat} (h : own_ix j i) (hc : own_ix c k) (hb : k * i < 2147483648) : own_ix (c * j) (k * i) := by
  show (c * j).toInt = ((k * i : Nat) : Int)
  have h' : j.toInt = (i : Int) := h
  have hc' : c.toInt = (k : Int) := hc
  have e : (k : Int) * (i : Int) = ((k * i : Nat) : Int) := by simp
  rw [Int32.toInt_mul, h', hc', e, Int.bmod_eq_of_le (by omega) (by omega)]
theorem own_ixlt {j c : Int32} {i k : Nat} (h : own_ix j i) (hc : own_ix c k) : j < c ↔ i < k := by
  have h' : j.toInt = (i : Int) := h
  have hc' : c.toInt = (k : Int) := hc
  rw [Int32.lt_iff_toInt_lt, h', hc']; omega
theorem own_ixeq {j c : Int32} {i k : Nat} (h : own_ix j i) (hc : own_ix c k) : j = c ↔ i = k := by
  have h' : j.toInt = (i : Int) := h
  have hc' : c.toInt = (k : Int) := hc
  rw [← Int32.toInt_inj, h', hc']; omega
theorem own_exteq {h h' : Heap} (e : h' = h) : Ext h h' := by subst e; exact ⟨Nat.le_refl _, fun _ _ q => q⟩
theorem own_ni {a b : Addr} (h : a ≠ b) : a ∉ [b] := fun q => h (List.mem_singleton.mp q)
theorem Ary.lt {Z : State} {h : Heap} {a : Addr} {ty : FieldType} {N : Nat} {f : Nat → Value} (F : Ary Z h a ty N f) : a < h.size := by obtain ⟨c, A, -⟩ := F; exact A.lt
theorem Ary.ext {Z : State} {h h' : Heap} {a : Addr} {ty : FieldType} {N : Nat} {f : Nat → Value} (F : Ary Z h a ty N f) (E : Ext h h') : Ary Z h' a ty N f := by obtain ⟨c, A, r⟩ := F; exact ⟨c, A.ext E, r⟩
theorem Ary.other {Z : State} {h h' : Heap} {a b : Addr} {ty : FieldType} {N sl : Nat} {f : Nat → Value} {v : Value} (F : Ary Z h a ty N f) (W : Wr h h' b sl v) (q : a ≠ b) : Ary Z h' a ty N f := by obtain ⟨c, A, r⟩ := F; exact ⟨c, A.other W q, r⟩
theorem Ary.keep {Z : State} {h h' : Heap} {a : Addr} {ty : FieldType} {N : Nat} {f : Nat → Value} {ws : List Addr} (F : Ary Z h a ty N f) (K : Keep h h' ws) (q : a ∉ ws) : Ary Z h' a ty N f := by obtain ⟨c, A, r⟩ := F; exact ⟨c, ⟨K.2.1 a c A.1 q, A.2⟩, r⟩
theorem Ary.cong {Z : State} {h : Heap} {a : Addr} {ty : FieldType} {N : Nat} {f g : Nat → Value} (F : Ary Z h a ty N f) (q : ∀ j, j < N → f j = g j) : Ary Z h a ty N g := by obtain ⟨c, A, S, H⟩ := F; exact ⟨c, A, S, fun j hj => by rw [← q j hj]; exact H j hj⟩
theorem Ary.new {Z : State} {h : Heap} {a : Addr} {ty : FieldType} {N : Nat} {k : ClassId} {z : Int32} (A : Arr Z h a (newA k ty z) ty) (q : ¬ z < 0) (e : z.toNatClampNeg = N) : Ary Z h a ty N (fun _ => defaultValue ty) := by
  obtain ⟨c, A', -, S, -, H, -⟩ := Arv.new A q
  exact ⟨c, A', by rw [S, e], fun j hj => H j (by rw [S, e]; exact hj)⟩
theorem Ary.inn {c : Cell} {N i : Nat} {j : Int32} (S : c.slots.size = N) (ix : own_ix j i) (hi : i < N) : ¬ (j < 0 ∨ c.slots.size ≤ (j).toNatClampNeg) := by
  rw [S, own_ixn ix]
  exact fun q => q.elim (own_ix0 ix) (fun q => absurd hi (Nat.not_lt.mpr q))
theorem Ary.get {c : Cell} {N i : Nat} {j : Int32} {f : Nat → Value} (H : ∀ j, j < N → c.slots[j]? = some (f j)) (ix : own_ix j i) (hi : i < N) {v : Value} (hv : f i = v) : c.slots[(j).toNatClampNeg]? = some v := by
  rw [own_ixn ix, H i hi, hv]
theorem Ary.set {Z : State} {h h' : Heap} {a : Addr} {ty : FieldType} {N i : Nat} {f : Nat → Value} {c : Cell} {j : Int32} {v : Value} (A : Arr Z h a c ty) (S : c.slots.size = N) (H : ∀ j, j < N → c.slots[j]? = some (f j)) (W : Wr h h' a (j).toNatClampNeg v) (ix : own_ix j i) : Ary Z h' a ty N (own_up f i v) := by
  refine ⟨_, A.same W, by rw [sz_set]; exact S, fun k hk => ?_⟩
  rw [own_ixn ix]
  show (c.slots.setIfInBounds i v)[k]? = _
  rw [Array.getElem?_setIfInBounds]
  by_cases q : i = k
  · subst q
    rw [if_pos rfl, if_pos (by rw [S]; exact hk), own_up_at]
  · rw [if_neg q, own_up_ne f v (fun e => q e.symm)]
    exact H k hk
theorem own_bv (v : BitVec 32) : ((((v &&& 255#32) ||| (((v >>> 8) &&& 255#32) <<< 8)) ||| (((v >>> 16) &&& 255#32) <<< 16)) ||| (((v >>> 24) &&& 255#32) <<< 24)) = v := by
  have h255 : ∀ i, (255#32).getLsbD i = decide (i < 8) := by
    intro i
    by_cases hi : i < 8
    · have : i = 0 ∨ i = 1 ∨ i = 2 ∨ i = 3 ∨ i = 4 ∨ i = 5 ∨ i = 6 ∨ i = 7 := by omega
      rcases this with rfl | rfl | rfl | rfl | rfl | rfl | rfl | rfl <;> decide
    · rw [decide_eq_false hi]
      have : (255#32) = (255#8).setWidth 32 := by decide
      rw [this, BitVec.getLsbD_setWidth, BitVec.getLsbD_of_ge _ _ (by omega)]; simp
  apply BitVec.eq_of_getLsbD_eq
  intro i hi
  simp only [BitVec.getLsbD_or, BitVec.getLsbD_and, BitVec.getLsbD_shiftLeft, BitVec.getLsbD_ushiftRight, h255]
  by_cases h1 : i < 8
  · simp [h1, hi, show i < 16 by omega, show i < 24 by omega]
  · by_cases h2 : i < 16
    · simp [h1, h2, hi, show i < 24 by omega, show i - 8 < 8 by omega, show 8 + (i - 8) = i by omega]
    · by_cases h3 : i < 24
      · simp [h1, h2, h3, hi, show ¬ (i - 8 < 8) by omega, show i - 16 < 8 by omega, show 16 + (i - 16) = i by omega]
      · simp [h1, h2, h3, hi, show ¬ (i - 8 < 8) by omega, show ¬ (i - 16 < 8) by omega, show i - 24 < 8 by omega, show 24 + (i - 24) = i by omega]
theorem own_by8 (y : Int32) : (((y.toInt8.toInt32).toInt8.toInt32) &&& (255 : Int32)).toBitVec = y.toBitVec &&& 255#32 := by
  have h255 : ∀ i, (255#32).getLsbD i = decide (i < 8) := by
    intro i
    by_cases hi : i < 8
    · have : i = 0 ∨ i = 1 ∨ i = 2 ∨ i = 3 ∨ i = 4 ∨ i = 5 ∨ i = 6 ∨ i = 7 := by omega
      rcases this with rfl | rfl | rfl | rfl | rfl | rfl | rfl | rfl <;> decide
    · rw [decide_eq_false hi]
      have : (255#32) = (255#8).setWidth 32 := by decide
      rw [this, BitVec.getLsbD_setWidth, BitVec.getLsbD_of_ge _ _ (by omega)]; simp
  have e : (255 : Int32).toBitVec = 255#32 := rfl
  rw [Int8.toInt8_toInt32, Int32.toBitVec_and, e]
  have e2 : (y.toInt8.toInt32).toBitVec = (y.toBitVec.signExtend 8).signExtend 32 := by simp
  rw [e2]
  apply BitVec.eq_of_getLsbD_eq
  intro i hi
  simp only [BitVec.getLsbD_and, h255, BitVec.getLsbD_signExtend]
  by_cases h1 : i < 8
  · simp [h1, hi]
  · simp [h1]
theorem own_le (p1 : Int32) : (((((nar .byte (p1.toInt8.toInt32)) &&& (255 : Int32)) ||| (((nar .byte (((p1.toUInt32 >>> ((8 : Int32) &&& 31).toUInt32).toInt32).toInt8.toInt32)) &&& (255 : Int32)) <<< ((8 : Int32) &&& 31))) ||| (((nar .byte (((p1.toUInt32 >>> ((16 : Int32) &&& 31).toUInt32).toInt32).toInt8.toInt32)) &&& (255 : Int32)) <<< ((16 : Int32) &&& 31))) ||| (((nar .byte (((p1.toUInt32 >>> ((24 : Int32) &&& 31).toUInt32).toInt32).toInt8.toInt32)) &&& (255 : Int32)) <<< ((24 : Int32) &&& 31))) = p1 := by
  show (((((p1.toInt8.toInt32).toInt8.toInt32) &&& (255 : Int32)) ||| (((((p1.toUInt32 >>> ((8 : Int32) &&& 31).toUInt32).toInt32).toInt8.toInt32).toInt8.toInt32 &&& (255 : Int32)) <<< ((8 : Int32) &&& 31))) ||| (((((p1.toUInt32 >>> ((16 : Int32) &&& 31).toUInt32).toInt32).toInt8.toInt32).toInt8.toInt32 &&& (255 : Int32)) <<< ((16 : Int32) &&& 31))) ||| (((((p1.toUInt32 >>> ((24 : Int32) &&& 31).toUInt32).toInt32).toInt8.toInt32).toInt8.toInt32 &&& (255 : Int32)) <<< ((24 : Int32) &&& 31)) = p1
  apply Int32.toBitVec_inj.mp
  have s8 : ∀ x : Int32, (x <<< ((8 : Int32) &&& 31)).toBitVec = x.toBitVec <<< 8 := fun x => by rw [Int32.toBitVec_shiftLeft]; rfl
  have s16 : ∀ x : Int32, (x <<< ((16 : Int32) &&& 31)).toBitVec = x.toBitVec <<< 16 := fun x => by rw [Int32.toBitVec_shiftLeft]; rfl
  have s24 : ∀ x : Int32, (x <<< ((24 : Int32) &&& 31)).toBitVec = x.toBitVec <<< 24 := fun x => by rw [Int32.toBitVec_shiftLeft]; rfl
  have r8 : ((p1.toUInt32 >>> ((8 : Int32) &&& 31).toUInt32).toInt32).toBitVec = p1.toBitVec >>> 8 := by
    show (p1.toUInt32 >>> ((8 : Int32) &&& 31).toUInt32).toBitVec = _
    rw [UInt32.toBitVec_shiftRight]; rfl
  have r16 : ((p1.toUInt32 >>> ((16 : Int32) &&& 31).toUInt32).toInt32).toBitVec = p1.toBitVec >>> 16 := by
    show (p1.toUInt32 >>> ((16 : Int32) &&& 31).toUInt32).toBitVec = _
    rw [UInt32.toBitVec_shiftRight]; rfl
  have r24 : ((p1.toUInt32 >>> ((24 : Int32) &&& 31).toUInt32).toInt32).toBitVec = p1.toBitVec >>> 24 := by
    show (p1.toUInt32 >>> ((24 : Int32) &&& 31).toUInt32).toBitVec = _
    rw [UInt32.toBitVec_shiftRight]; rfl
  rw [Int32.toBitVec_or, Int32.toBitVec_or, Int32.toBitVec_or, s8, s16, s24, own_by8, own_by8, own_by8, own_by8, r8, r16, r24]
  exact own_bv _
theorem own_mask3 (x : Int32) : ∃ n : Nat, n ≤ 3 ∧ own_ix (x &&& (3 : Int32)) n := by
  have m : (x &&& (3 : Int32)).toInt = x.toInt % 2 ^ 2 := Jvm.Kit.i32_mask x 3 (k := 2) (by decide) (by decide)
  refine ⟨(x &&& (3 : Int32)).toInt.toNat, by omega, ?_⟩
  show (x &&& (3 : Int32)).toInt = _
  omega
theorem d1_0 : decode prog_29_method_5_code 0 = .ok (.aload_n 0, 1) := by decide +kernel
theorem d1_1 : decode prog_29_method_5_code 1 = .ok (.iload_n 1, 1) := by decide +kernel
theorem d1_2 : decode prog_29_method_5_code 2 = .ok (.baload, 1) := by decide +kernel
theorem d1_3 : decode prog_29_method_5_code 3 = .ok (.sipush 255, 3) := by decide +kernel
theorem d1_6 : decode prog_29_method_5_code 6 = .ok (.iand, 1) := by decide +kernel
theorem d1_7 : decode prog_29_method_5_code 7 = .ok (.aload_n 0, 1) := by decide +kernel
theorem d1_8 : decode prog_29_method_5_code 8 = .ok (.iload_n 1, 1) := by decide +kernel
theorem d1_9 : decode prog_29_method_5_code 9 = .ok (.iconst 1, 1) := by decide +kernel
theorem d1_10 : decode prog_29_method_5_code 10 = .ok (.iadd, 1) := by decide +kernel
theorem d1_11 : decode prog_29_method_5_code 11 = .ok (.baload, 1) := by decide +kernel
theorem d1_12 : decode prog_29_method_5_code 12 = .ok (.sipush 255, 3) := by decide +kernel
theorem d1_15 : decode prog_29_method_5_code 15 = .ok (.iand, 1) := by decide +kernel
theorem d1_16 : decode prog_29_method_5_code 16 = .ok (.bipush 8, 2) := by decide +kernel
theorem d1_18 : decode prog_29_method_5_code 18 = .ok (.ishl, 1) := by decide +kernel
theorem d1_19 : decode prog_29_method_5_code 19 = .ok (.ior, 1) := by decide +kernel
theorem d1_20 : decode prog_29_method_5_code 20 = .ok (.aload_n 0, 1) := by decide +kernel
theorem d1_21 : decode prog_29_method_5_code 21 = .ok (.iload_n 1, 1) := by decide +kernel
theorem d1_22 : decode prog_29_method_5_code 22 = .ok (.iconst 2, 1) := by decide +kernel
theorem d1_23 : decode prog_29_method_5_code 23 = .ok (.iadd, 1) := by decide +kernel
theorem d1_24 : decode prog_29_method_5_code 24 = .ok (.baload, 1) := by decide +kernel
theorem d1_25 : decode prog_29_method_5_code 25 = .ok (.sipush 255, 3) := by decide +kernel
theorem d1_28 : decode prog_29_method_5_code 28 = .ok (.iand, 1) := by decide +kernel
theorem d1_29 : decode prog_29_method_5_code 29 = .ok (.bipush 16, 2) := by decide +kernel
theorem d1_31 : decode prog_29_method_5_code 31 = .ok (.ishl, 1) := by decide +kernel
theorem d1_32 : decode prog_29_method_5_code 32 = .ok (.ior, 1) := by decide +kernel
theorem d1_33 : decode prog_29_method_5_code 33 = .ok (.aload_n 0, 1) := by decide +kernel
theorem d1_34 : decode prog_29_method_5_code 34 = .ok (.iload_n 1, 1) := by decide +kernel
theorem d1_35 : decode prog_29_method_5_code 35 = .ok (.iconst 3, 1) := by decide +kernel
theorem d1_36 : decode prog_29_method_5_code 36 = .ok (.iadd, 1) := by decide +kernel
theorem d1_37 : decode prog_29_method_5_code 37 = .ok (.baload, 1) := by decide +kernel
theorem d1_38 : decode prog_29_method_5_code 38 = .ok (.sipush 255, 3) := by decide +kernel
theorem d1_41 : decode prog_29_method_5_code 41 = .ok (.iand, 1) := by decide +kernel
theorem d1_42 : decode prog_29_method_5_code 42 = .ok (.bipush 24, 2) := by decide +kernel
theorem d1_44 : decode prog_29_method_5_code 44 = .ok (.ishl, 1) := by decide +kernel
theorem d1_45 : decode prog_29_method_5_code 45 = .ok (.ior, 1) := by decide +kernel
theorem d1_46 : decode prog_29_method_5_code 46 = .ok (.ireturn, 1) := by decide +kernel
theorem pn_1 : plainName "com/example/ferrule/ferrule/bench/HandWritten" = true := by first | (simp [plainName, overriddenIn]; done) | decide +kernel
theorem ef_1 (m : MethodId) (x0 : Addr) (x1 : Int32) : entryFrame m #[(.ref x0), (.int x1)] 2 = mkF m 0 #[.val (.ref x0), .val (.int x1)] [] := by first | (simp [entryFrame, mkF, argsToLocals, Value.category]; done) | rfl
def Q1 (Z : State) (a1 : Addr) (p2 : Int32) (n : Nat) (w0 : Int32) (w1 : Int32) (w2 : Int32) (w3 : Int32) (f_a1 : Nat → Value) (h0 : Heap) (n0 : Nat) (v : Option Value) (h : Heap) (L : List Loc) : Prop := v = some (.int ((((w0 &&& (255 : Int32)) ||| ((w1 &&& (255 : Int32)) <<< ((8 : Int32) &&& 31))) ||| ((w2 &&& (255 : Int32)) <<< ((16 : Int32) &&& 31))) ||| ((w3 &&& (255 : Int32)) <<< ((24 : Int32) &&& 31)))) ∧ Fr n0 L ∧ h = h0
set_option maxRecDepth 65536 in
set_option maxHeartbeats 40000000 in
theorem rm1 (l : Launch) (Z : State) (a0 : Array Value) (hw : ∀ d ∈ tables_1, d.before a0 Z = true) (ws : List Jvm.Cond) (a1 : Addr) (p2 : Int32) (n : Nat) (w0 : Int32) (w1 : Int32) (w2 : Int32) (w3 : Int32) (f_a1 : Nat → Value) (h0 : Heap) (n0 : Nat) (Z0 : n0 ≤ h0.size) (ix : own_ix p2 n) (hn : n ≤ 3) (v0 : f_a1 (n + 0) = .int w0) (v1 : f_a1 (n + 1) = .int w1) (v2 : f_a1 (n + 2) = .int w2) (v3 : f_a1 (n + 3) = .int w3) (V_a1 : Ary Z h0 a1 .byte 8 f_a1) :
    MetFree l (⟨"com/example/ferrule/ferrule/bench/HandWritten", "littleEndianInt", "([BI)I"⟩ : MethodName) (head1 (Jvm.Cond.code (⟨"com/example/ferrule/ferrule/bench/HandWritten", "littleEndianInt", "([BI)I"⟩ : MethodName) prog_29_method_5_code 2 (some .int) :: ws) ({ frames := 0, cells := 0, slots := 0, locals := 0 } : Room)) (fun a U => a = #[(.ref a1), (.int p2)] ∧ Z.Warmed39 U.vm ∧ U.heap = h0) (fun _ _ _ _ _ => True) (fun _ U o U' => ∃ v L, o = .returned v ∧ Q1 Z a1 p2 n w0 w1 w2 w3 f_a1 h0 n0 v U'.heap L ∧ FrameEnd U o U' L ({ frames := 0, cells := 0, slots := 0, locals := 0 } : Room).cells ({ frames := 0, cells := 0, slots := 0, locals := 0 } : Room).slots) := by
  refine MetFree.of_bodySF (plainFor_of_name pn_1) hisR ?_
  intro p e s m args below meth c s₁ Bd hml0 hP hK
  obtain ⟨rfl, hZ, hh⟩ := hP
  have hx := Bd.exec
  have hby := Bd.bytes
  have hml : c.maxLocals = 2 := hml0
  have hown : s.vm.findClass "com/example/ferrule/ferrule/bench/HandWritten" = some m.cls := findClass_of_methodNamed Bd.named
  have hnm := (name_of_methodNamed Bd.named Bd.method).1
  have X0 : Stand p l e ({ frames := 0, cells := 0, slots := 0, locals := 0 } : Room) s m #[(.ref a1), (.int p2)] below meth c s₁ [] 0 0 := Stand.of_body Bd
  have e0 : s₁.heap = h0 := by rw [← hh, Bd.state]; rfl
  have N0 := Fr.nil n0
  have pre0 : ∀ t, Steps p.tables e below (s₁.setTop (mkF m 0 #[.val (.ref a1), .val (.int p2)] [])) t → Steps p.tables e below (s₁.setTop (entryFrame m #[(.ref a1), (.int p2)] 2)) t := fun t k => castTop (ef_1 m a1 p2) k
  obtain ⟨cl_2, Ar_2, S_2, H_2⟩ := id V_a1
  have hin2 := Ary.inn S_2 ix (by omega)
  have hat2 := Ary.get H_2 ix (by omega) (v := (.int w0)) v0
  obtain ⟨cl_11, Ar_11, S_11, H_11⟩ := id V_a1
  have hin11 := Ary.inn S_11 (own_ixa ix (show own_ix (1 : Int32) 1 from rfl) (by omega)) (by omega)
  have hat11 := Ary.get H_11 (own_ixa ix (show own_ix (1 : Int32) 1 from rfl) (by omega)) (by omega) (v := (.int w1)) v1
  obtain ⟨cl_24, Ar_24, S_24, H_24⟩ := id V_a1
  have hin24 := Ary.inn S_24 (own_ixa ix (show own_ix (2 : Int32) 2 from rfl) (by omega)) (by omega)
  have hat24 := Ary.get H_24 (own_ixa ix (show own_ix (2 : Int32) 2 from rfl) (by omega)) (by omega) (v := (.int w2)) v2
  obtain ⟨cl_37, Ar_37, S_37, H_37⟩ := id V_a1
  have hin37 := Ary.inn S_37 (own_ixa ix (show own_ix (3 : Int32) 3 from rfl) (by omega)) (by omega)
  have hat37 := Ary.get H_37 (own_ixa ix (show own_ix (3 : Int32) 3 from rfl) (by omega)) (by omega) (v := (.int w3)) v3
  obtain ⟨fs, hr, hrun, hended, hW, hsame⟩ := X0.leave (v := some (.int ((((w0 &&& (255 : Int32)) ||| ((w1 &&& (255 : Int32)) <<< ((8 : Int32) &&& 31))) ||| ((w2 &&& (255 : Int32)) <<< ((16 : Int32) &&& 31))) ||| ((w3 &&& (255 : Int32)) <<< ((24 : Int32) &&& 31))))) (fun h => by rw [Bd.returns] at h; cases h)
  refine ⟨_, _, pre0 _ ?_, hrun, hended, _, _, rfl, ?_, ⟨_, rfl⟩, hW, hsame.mono (by decide) (by decide)⟩
  · show Steps p.tables e below (s₁.setTop (mkF m 0 #[.val (.ref a1), .val (.int p2)] [])) _
    refine XS.aloadN X0.here hx rfl (hb hby d1_0) rfl rfl ?_
    show Steps p.tables e below (s₁.setTop (mkF m 1 #[.val (.ref a1), .val (.int p2)] [(.ref a1)])) _
    refine XS.iloadN X0.here hx rfl (hb hby d1_1) rfl ?_
    show Steps p.tables e below (s₁.setTop (mkF m 2 #[.val (.ref a1), .val (.int p2)] [(.int p2), (.ref a1)])) _
    refine X0.baloadBytes hx (j := p2) (v := (.int w0)) (by rw [e0]; exact Ar_2.1) (State.isArrayOf_alike hZ.alike Ar_2.2.1) Ar_2.2.2 hin2 hat2 (g := (mkF m 2 #[.val (.ref a1), .val (.int p2)] [(.int p2), (.ref a1)])) rfl rfl (hb hby d1_2) _ ?_
    show Steps p.tables e below (s₁.setTop (mkF m 3 #[.val (.ref a1), .val (.int p2)] [(.int w0)])) _
    refine XS.sipush X0.here hx rfl (hb hby d1_3) ?_
    show Steps p.tables e below (s₁.setTop (mkF m 6 #[.val (.ref a1), .val (.int p2)] [(.int (255 : Int32)), (.int w0)])) _
    refine XS.iand X0.here hx rfl (hb hby d1_6) rfl ?_
    show Steps p.tables e below (s₁.setTop (mkF m 7 #[.val (.ref a1), .val (.int p2)] [(.int (w0 &&& (255 : Int32)))])) _
    refine XS.aloadN X0.here hx rfl (hb hby d1_7) rfl rfl ?_
    show Steps p.tables e below (s₁.setTop (mkF m 8 #[.val (.ref a1), .val (.int p2)] [(.ref a1), (.int (w0 &&& (255 : Int32)))])) _
    refine XS.iloadN X0.here hx rfl (hb hby d1_8) rfl ?_
    show Steps p.tables e below (s₁.setTop (mkF m 9 #[.val (.ref a1), .val (.int p2)] [(.int p2), (.ref a1), (.int (w0 &&& (255 : Int32)))])) _
    refine XS.iconst X0.here hx rfl (hb hby d1_9) ?_
    show Steps p.tables e below (s₁.setTop (mkF m 10 #[.val (.ref a1), .val (.int p2)] [(.int (1 : Int32)), (.int p2), (.ref a1), (.int (w0 &&& (255 : Int32)))])) _
    refine XS.iadd X0.here hx rfl (hb hby d1_10) rfl ?_
    show Steps p.tables e below (s₁.setTop (mkF m 11 #[.val (.ref a1), .val (.int p2)] [(.int (p2 + (1 : Int32))), (.ref a1), (.int (w0 &&& (255 : Int32)))])) _
    refine X0.baloadBytes hx (j := (p2 + (1 : Int32))) (v := (.int w1)) (by rw [e0]; exact Ar_11.1) (State.isArrayOf_alike hZ.alike Ar_11.2.1) Ar_11.2.2 hin11 hat11 (g := (mkF m 11 #[.val (.ref a1), .val (.int p2)] [(.int (p2 + (1 : Int32))), (.ref a1), (.int (w0 &&& (255 : Int32)))])) rfl rfl (hb hby d1_11) _ ?_
    show Steps p.tables e below (s₁.setTop (mkF m 12 #[.val (.ref a1), .val (.int p2)] [(.int w1), (.int (w0 &&& (255 : Int32)))])) _
    refine XS.sipush X0.here hx rfl (hb hby d1_12) ?_
    show Steps p.tables e below (s₁.setTop (mkF m 15 #[.val (.ref a1), .val (.int p2)] [(.int (255 : Int32)), (.int w1), (.int (w0 &&& (255 : Int32)))])) _
    refine XS.iand X0.here hx rfl (hb hby d1_15) rfl ?_
    show Steps p.tables e below (s₁.setTop (mkF m 16 #[.val (.ref a1), .val (.int p2)] [(.int (w1 &&& (255 : Int32))), (.int (w0 &&& (255 : Int32)))])) _
    refine XS.bipush X0.here hx rfl (hb hby d1_16) ?_
    show Steps p.tables e below (s₁.setTop (mkF m 18 #[.val (.ref a1), .val (.int p2)] [(.int (8 : Int32)), (.int (w1 &&& (255 : Int32))), (.int (w0 &&& (255 : Int32)))])) _
    refine XS.ishl X0.here hx rfl (hb hby d1_18) rfl ?_
    show Steps p.tables e below (s₁.setTop (mkF m 19 #[.val (.ref a1), .val (.int p2)] [(.int ((w1 &&& (255 : Int32)) <<< ((8 : Int32) &&& 31))), (.int (w0 &&& (255 : Int32)))])) _
    refine XS.ior X0.here hx rfl (hb hby d1_19) rfl ?_
    show Steps p.tables e below (s₁.setTop (mkF m 20 #[.val (.ref a1), .val (.int p2)] [(.int ((w0 &&& (255 : Int32)) ||| ((w1 &&& (255 : Int32)) <<< ((8 : Int32) &&& 31))))])) _
    refine XS.aloadN X0.here hx rfl (hb hby d1_20) rfl rfl ?_
    show Steps p.tables e below (s₁.setTop (mkF m 21 #[.val (.ref a1), .val (.int p2)] [(.ref a1), (.int ((w0 &&& (255 : Int32)) ||| ((w1 &&& (255 : Int32)) <<< ((8 : Int32) &&& 31))))])) _
    refine XS.iloadN X0.here hx rfl (hb hby d1_21) rfl ?_
    show Steps p.tables e below (s₁.setTop (mkF m 22 #[.val (.ref a1), .val (.int p2)] [(.int p2), (.ref a1), (.int ((w0 &&& (255 : Int32)) ||| ((w1 &&& (255 : Int32)) <<< ((8 : Int32) &&& 31))))])) _
    refine XS.iconst X0.here hx rfl (hb hby d1_22) ?_
    show Steps p.tables e below (s₁.setTop (mkF m 23 #[.val (.ref a1), .val (.int p2)] [(.int (2 : Int32)), (.int p2), (.ref a1), (.int ((w0 &&& (255 : Int32)) ||| ((w1 &&& (255 : Int32)) <<< ((8 : Int32) &&& 31))))])) _
    refine XS.iadd X0.here hx rfl (hb hby d1_23) rfl ?_
    show Steps p.tables e below (s₁.setTop (mkF m 24 #[.val (.ref a1), .val (.int p2)] [(.int (p2 + (2 : Int32))), (.ref a1), (.int ((w0 &&& (255 : Int32)) ||| ((w1 &&& (255 : Int32)) <<< ((8 : Int32) &&& 31))))])) _
    refine X0.baloadBytes hx (j := (p2 + (2 : Int32))) (v := (.int w2)) (by rw [e0]; exact Ar_24.1) (State.isArrayOf_alike hZ.alike Ar_24.2.1) Ar_24.2.2 hin24 hat24 (g := (mkF m 24 #[.val (.ref a1), .val (.int p2)] [(.int (p2 + (2 : Int32))), (.ref a1), (.int ((w0 &&& (255 : Int32)) ||| ((w1 &&& (255 : Int32)) <<< ((8 : Int32) &&& 31))))])) rfl rfl (hb hby d1_24) _ ?_
    show Steps p.tables e below (s₁.setTop (mkF m 25 #[.val (.ref a1), .val (.int p2)] [(.int w2), (.int ((w0 &&& (255 : Int32)) ||| ((w1 &&& (255 : Int32)) <<< ((8 : Int32) &&& 31))))])) _
    refine XS.sipush X0.here hx rfl (hb hby d1_25) ?_
    show Steps p.tables e below (s₁.setTop (mkF m 28 #[.val (.ref a1), .val (.int p2)] [(.int (255 : Int32)), (.int w2), (.int ((w0 &&& (255 : Int32)) ||| ((w1 &&& (255 : Int32)) <<< ((8 : Int32) &&& 31))))])) _
    refine XS.iand X0.here hx rfl (hb hby d1_28) rfl ?_
    show Steps p.tables e below (s₁.setTop (mkF m 29 #[.val (.ref a1), .val (.int p2)] [(.int (w2 &&& (255 : Int32))), (.int ((w0 &&& (255 : Int32)) ||| ((w1 &&& (255 : Int32)) <<< ((8 : Int32) &&& 31))))])) _
    refine XS.bipush X0.here hx rfl (hb hby d1_29) ?_
    show Steps p.tables e below (s₁.setTop (mkF m 31 #[.val (.ref a1), .val (.int p2)] [(.int (16 : Int32)), (.int (w2 &&& (255 : Int32))), (.int ((w0 &&& (255 : Int32)) ||| ((w1 &&& (255 : Int32)) <<< ((8 : Int32) &&& 31))))])) _
    refine XS.ishl X0.here hx rfl (hb hby d1_31) rfl ?_
    show Steps p.tables e below (s₁.setTop (mkF m 32 #[.val (.ref a1), .val (.int p2)] [(.int ((w2 &&& (255 : Int32)) <<< ((16 : Int32) &&& 31))), (.int ((w0 &&& (255 : Int32)) ||| ((w1 &&& (255 : Int32)) <<< ((8 : Int32) &&& 31))))])) _
    refine XS.ior X0.here hx rfl (hb hby d1_32) rfl ?_
    show Steps p.tables e below (s₁.setTop (mkF m 33 #[.val (.ref a1), .val (.int p2)] [(.int (((w0 &&& (255 : Int32)) ||| ((w1 &&& (255 : Int32)) <<< ((8 : Int32) &&& 31))) ||| ((w2 &&& (255 : Int32)) <<< ((16 : Int32) &&& 31))))])) _
    refine XS.aloadN X0.here hx rfl (hb hby d1_33) rfl rfl ?_
    show Steps p.tables e below (s₁.setTop (mkF m 34 #[.val (.ref a1), .val (.int p2)] [(.ref a1), (.int (((w0 &&& (255 : Int32)) ||| ((w1 &&& (255 : Int32)) <<< ((8 : Int32) &&& 31))) ||| ((w2 &&& (255 : Int32)) <<< ((16 : Int32) &&& 31))))])) _
    refine XS.iloadN X0.here hx rfl (hb hby d1_34) rfl ?_
    show Steps p.tables e below (s₁.setTop (mkF m 35 #[.val (.ref a1), .val (.int p2)] [(.int p2), (.ref a1), (.int (((w0 &&& (255 : Int32)) ||| ((w1 &&& (255 : Int32)) <<< ((8 : Int32) &&& 31))) ||| ((w2 &&& (255 : Int32)) <<< ((16 : Int32) &&& 31))))])) _
    refine XS.iconst X0.here hx rfl (hb hby d1_35) ?_
    show Steps p.tables e below (s₁.setTop (mkF m 36 #[.val (.ref a1), .val (.int p2)] [(.int (3 : Int32)), (.int p2), (.ref a1), (.int (((w0 &&& (255 : Int32)) ||| ((w1 &&& (255 : Int32)) <<< ((8 : Int32) &&& 31))) ||| ((w2 &&& (255 : Int32)) <<< ((16 : Int32) &&& 31))))])) _
    refine XS.iadd X0.here hx rfl (hb hby d1_36) rfl ?_
    show Steps p.tables e below (s₁.setTop (mkF m 37 #[.val (.ref a1), .val (.int p2)] [(.int (p2 + (3 : Int32))), (.ref a1), (.int (((w0 &&& (255 : Int32)) ||| ((w1 &&& (255 : Int32)) <<< ((8 : Int32) &&& 31))) ||| ((w2 &&& (255 : Int32)) <<< ((16 : Int32) &&& 31))))])) _
    refine X0.baloadBytes hx (j := (p2 + (3 : Int32))) (v := (.int w3)) (by rw [e0]; exact Ar_37.1) (State.isArrayOf_alike hZ.alike Ar_37.2.1) Ar_37.2.2 hin37 hat37 (g := (mkF m 37 #[.val (.ref a1), .val (.int p2)] [(.int (p2 + (3 : Int32))), (.ref a1), (.int (((w0 &&& (255 : Int32)) ||| ((w1 &&& (255 : Int32)) <<< ((8 : Int32) &&& 31))) ||| ((w2 &&& (255 : Int32)) <<< ((16 : Int32) &&& 31))))])) rfl rfl (hb hby d1_37) _ ?_
    show Steps p.tables e below (s₁.setTop (mkF m 38 #[.val (.ref a1), .val (.int p2)] [(.int w3), (.int (((w0 &&& (255 : Int32)) ||| ((w1 &&& (255 : Int32)) <<< ((8 : Int32) &&& 31))) ||| ((w2 &&& (255 : Int32)) <<< ((16 : Int32) &&& 31))))])) _
    refine XS.sipush X0.here hx rfl (hb hby d1_38) ?_
    show Steps p.tables e below (s₁.setTop (mkF m 41 #[.val (.ref a1), .val (.int p2)] [(.int (255 : Int32)), (.int w3), (.int (((w0 &&& (255 : Int32)) ||| ((w1 &&& (255 : Int32)) <<< ((8 : Int32) &&& 31))) ||| ((w2 &&& (255 : Int32)) <<< ((16 : Int32) &&& 31))))])) _
    refine XS.iand X0.here hx rfl (hb hby d1_41) rfl ?_
    show Steps p.tables e below (s₁.setTop (mkF m 42 #[.val (.ref a1), .val (.int p2)] [(.int (w3 &&& (255 : Int32))), (.int (((w0 &&& (255 : Int32)) ||| ((w1 &&& (255 : Int32)) <<< ((8 : Int32) &&& 31))) ||| ((w2 &&& (255 : Int32)) <<< ((16 : Int32) &&& 31))))])) _
    refine XS.bipush X0.here hx rfl (hb hby d1_42) ?_
    show Steps p.tables e below (s₁.setTop (mkF m 44 #[.val (.ref a1), .val (.int p2)] [(.int (24 : Int32)), (.int (w3 &&& (255 : Int32))), (.int (((w0 &&& (255 : Int32)) ||| ((w1 &&& (255 : Int32)) <<< ((8 : Int32) &&& 31))) ||| ((w2 &&& (255 : Int32)) <<< ((16 : Int32) &&& 31))))])) _
    refine XS.ishl X0.here hx rfl (hb hby d1_44) rfl ?_
    show Steps p.tables e below (s₁.setTop (mkF m 45 #[.val (.ref a1), .val (.int p2)] [(.int ((w3 &&& (255 : Int32)) <<< ((24 : Int32) &&& 31))), (.int (((w0 &&& (255 : Int32)) ||| ((w1 &&& (255 : Int32)) <<< ((8 : Int32) &&& 31))) ||| ((w2 &&& (255 : Int32)) <<< ((16 : Int32) &&& 31))))])) _
    refine XS.ior X0.here hx rfl (hb hby d1_45) rfl ?_
    show Steps p.tables e below (s₁.setTop (mkF m 46 #[.val (.ref a1), .val (.int p2)] [(.int ((((w0 &&& (255 : Int32)) ||| ((w1 &&& (255 : Int32)) <<< ((8 : Int32) &&& 31))) ||| ((w2 &&& (255 : Int32)) <<< ((16 : Int32) &&& 31))) ||| ((w3 &&& (255 : Int32)) <<< ((24 : Int32) &&& 31))))])) _
    exact retI X0 hx Bd.returns (hb hby d1_46) hr
  · show Q1 Z a1 p2 n w0 w1 w2 w3 f_a1 h0 n0 _ s₁.heap _
    rw [e0]
    exact ⟨rfl, N0, rfl⟩
theorem pn_0 : plainName "com/example/ferrule/ferrule/bench/HandWrittenLittleEndianIntPinLaw" = true := by first | (simp [plainName, overriddenIn]; done) | decide +kernel
theorem pd_0_0 : parseMethodDescriptor "([BI)I" = some ⟨[(.array .byte), .int], some .int⟩ := by decide +kernel
theorem ef_0 (m : MethodId) (x0 : Int32) (x1 : Int32) (x2 : Int32) : entryFrame m #[(.int x0), (.int x1), (.int x2)] maxLocals = mkF m 0 #[.val (.int x0), .val (.int x1), .val (.int x2), .unset, .unset, .unset] [] := by first | (simp [entryFrame, mkF, argsToLocals, Value.category, maxLocals]; done) | rfl
def Q0 (Z : State) (p1 : Int32) (p2 : Int32) (p3 : Int32) (n : Nat) (h0 : Heap) (n0 : Nat) (v : Option Value) (h : Heap) (L : List Loc) : Prop := v = some (.int (1 : Int32)) ∧ Fr n0 L
set_option maxRecDepth 65536 in
set_option maxHeartbeats 40000000 in
theorem rm0n (l : Launch) (Z : State) (a0 : Array Value) (hw : ∀ d ∈ tables_1, d.before a0 Z = true) (ws : List Jvm.Cond) (p1 : Int32) (p2 : Int32) (p3 : Int32) (n : Nat) (h0 : Heap) (n0 : Nat) (Z0 : n0 ≤ h0.size) (ixn : own_ix (p2 &&& (3 : Int32)) n) (hn : n ≤ 3) :
    MetFree l x (head1 (Jvm.Cond.code x code maxLocals ret :: ws) room_1) (fun a U => a = #[(.int p1), (.int p2), (.int p3)] ∧ Z.Warmed39 U.vm ∧ U.heap = h0) (fun _ _ _ _ _ => True) (fun _ U o U' => ∃ v L, o = .returned v ∧ Q0 Z p1 p2 p3 n h0 n0 v U'.heap L ∧ FrameEnd U o U' L room_1.cells room_1.slots) := by
  refine MetFree.of_bodySF (plainFor_of_name pn_0) hisR ?_
  intro p e s m args below meth c s₁ Bd hml0 hP hK
  obtain ⟨rfl, hZ, hh⟩ := hP
  have hx := Bd.exec
  have hby := Bd.bytes
  have hml : c.maxLocals = 6 := hml0
  have hown : s.vm.findClass "com/example/ferrule/ferrule/bench/HandWrittenLittleEndianIntPinLaw" = some m.cls := findClass_of_methodNamed Bd.named
  have hnm := (name_of_methodNamed Bd.named Bd.method).1
  have X0 : Stand p l e room_1 s m #[(.int p1), (.int p2), (.int p3)] below meth c s₁ [] 0 0 := Stand.of_body Bd
  have e0 : s₁.heap = h0 := by rw [← hh, Bd.state]; rfl
  have N0 := Fr.nil n0
  have pre0 : ∀ t, Steps p.tables e below (s₁.setTop (mkF m 0 #[.val (.int p1), .val (.int p2), .val (.int p3), .unset, .unset, .unset] [])) t → Steps p.tables e below (s₁.setTop (entryFrame m #[(.int p1), (.int p2), (.int p3)] maxLocals)) t := fun t k => castTop (ef_0 m p1 p2 p3) k
  obtain ⟨T4, h4, k4, X4, e4, E4, A4, st4⟩ := newP X0 hx hZ (hw _ (List.mem_of_getElem? (i := 0) rfl)) e0 (g := (mkF m 11 #[.val (.int p1), .val (.int p2), .val (.int p3), .val (.int (p2 &&& (3 : Int32))), .val (.int (p3 ^^^ (-1 : Int32))), .unset] [(.int (8 : Int32))])) rfl (hb hby at_11) rfl (by decide) (cap := 8) (by decide) (by decide) (by decide) (by decide)
  obtain ⟨b4, g4⟩ : ∃ z, z = h0.size := ⟨_, rfl⟩
  rw [← g4] at A4 st4
  have V_b4 : Ary Z h4 b4 .byte 8 (fun _ => (.int (0 : Int32))) := Ary.new A4 (by decide) rfl
  have g_b4 : n0 ≤ b4 := Nat.le_trans Z0 (Nat.le_of_eq g4.symm)
  have sz_b4 : h0.size ≤ b4 := (Nat.le_trans (Keep.refl h0 []).1 (Nat.le_of_eq g4.symm))
  have K4 : Keep h0 h4 [] := (Keep.refl h0 []).ext E4
  obtain ⟨cl_20, Ar_20, S_20, H_20⟩ := id V_b4
  have hin20 := Ary.inn S_20 (show own_ix (0 : Int32) 0 from rfl) (by decide)
  obtain ⟨T5, h5, X5, e5, W5, st5⟩ := stB X4 hx hZ e4 Ar_20 (j := (0 : Int32)) hin20 (g := (mkF m 20 #[.val (.int p1), .val (.int p2), .val (.int p3), .val (.int (p2 &&& (3 : Int32))), .val (.int (p3 ^^^ (-1 : Int32))), .val (.ref b4)] [(.int (p3.toInt8.toInt32)), (.int (0 : Int32)), (.ref b4)])) rfl rfl (hb hby at_20)
  have V_b4_5 := Ary.set Ar_20 S_20 H_20 W5 (show own_ix (0 : Int32) 0 from rfl)
  have K5 : Keep h0 h5 [] := K4.wr W5 (Or.inr sz_b4)
  have N5 := Fr.snoc X5 N0 g_b4
  obtain ⟨cl_29, Ar_29, S_29, H_29⟩ := id V_b4_5
  have hin29 := Ary.inn S_29 (show own_ix (1 : Int32) 1 from rfl) (by decide)
  obtain ⟨T6, h6, X6, e6, W6, st6⟩ := stB X5 hx hZ e5 Ar_29 (j := (1 : Int32)) hin29 (g := (mkF m 29 #[.val (.int p1), .val (.int p2), .val (.int p3), .val (.int (p2 &&& (3 : Int32))), .val (.int (p3 ^^^ (-1 : Int32))), .val (.ref b4)] [(.int (((p3.toUInt32 >>> ((8 : Int32) &&& 31).toUInt32).toInt32).toInt8.toInt32)), (.int (1 : Int32)), (.ref b4)])) rfl rfl (hb hby at_29)
  have V_b4_6 := Ary.set Ar_29 S_29 H_29 W6 (show own_ix (1 : Int32) 1 from rfl)
  have K6 : Keep h0 h6 [] := K5.wr W6 (Or.inr sz_b4)
  have N6 := Fr.snoc X6 N5 g_b4
  obtain ⟨cl_38, Ar_38, S_38, H_38⟩ := id V_b4_6
  have hin38 := Ary.inn S_38 (show own_ix (2 : Int32) 2 from rfl) (by decide)
  obtain ⟨T7, h7, X7, e7, W7, st7⟩ := stB X6 hx hZ e6 Ar_38 (j := (2 : Int32)) hin38 (g := (mkF m 38 #[.val (.int p1), .val (.int p2), .val (.int p3), .val (.int (p2 &&& (3 : Int32))), .val (.int (p3 ^^^ (-1 : Int32))), .val (.ref b4)] [(.int (((p3.toUInt32 >>> ((16 : Int32) &&& 31).toUInt32).toInt32).toInt8.toInt32)), (.int (2 : Int32)), (.ref b4)])) rfl rfl (hb hby at_38)
  have V_b4_7 := Ary.set Ar_38 S_38 H_38 W7 (show own_ix (2 : Int32) 2 from rfl)
  have K7 : Keep h0 h7 [] := K6.wr W7 (Or.inr sz_b4)
  have N7 := Fr.snoc X7 N6 g_b4
  obtain ⟨cl_47, Ar_47, S_47, H_47⟩ := id V_b4_7
  have hin47 := Ary.inn S_47 (show own_ix (3 : Int32) 3 from rfl) (by decide)
  obtain ⟨T8, h8, X8, e8, W8, st8⟩ := stB X7 hx hZ e7 Ar_47 (j := (3 : Int32)) hin47 (g := (mkF m 47 #[.val (.int p1), .val (.int p2), .val (.int p3), .val (.int (p2 &&& (3 : Int32))), .val (.int (p3 ^^^ (-1 : Int32))), .val (.ref b4)] [(.int (((p3.toUInt32 >>> ((24 : Int32) &&& 31).toUInt32).toInt32).toInt8.toInt32)), (.int (3 : Int32)), (.ref b4)])) rfl rfl (hb hby at_47)
  have V_b4_8 := Ary.set Ar_47 S_47 H_47 W8 (show own_ix (3 : Int32) 3 from rfl)
  have K8 : Keep h0 h8 [] := K7.wr W8 (Or.inr sz_b4)
  have N8 := Fr.snoc X8 N7 g_b4
  obtain ⟨cl_54, Ar_54, S_54, H_54⟩ := id V_b4_8
  have hin54 := Ary.inn S_54 (show own_ix (4 : Int32) 4 from rfl) (by decide)
  obtain ⟨T9, h9, X9, e9, W9, st9⟩ := stB X8 hx hZ e8 Ar_54 (j := (4 : Int32)) hin54 (g := (mkF m 54 #[.val (.int p1), .val (.int p2), .val (.int p3), .val (.int (p2 &&& (3 : Int32))), .val (.int (p3 ^^^ (-1 : Int32))), .val (.ref b4)] [(.int ((p3 ^^^ (-1 : Int32)).toInt8.toInt32)), (.int (4 : Int32)), (.ref b4)])) rfl rfl (hb hby at_54)
  have V_b4_9 := Ary.set Ar_54 S_54 H_54 W9 (show own_ix (4 : Int32) 4 from rfl)
  have K9 : Keep h0 h9 [] := K8.wr W9 (Or.inr sz_b4)
  have N9 := Fr.snoc X9 N8 g_b4
  obtain ⟨cl_64, Ar_64, S_64, H_64⟩ := id V_b4_9
  have hin64 := Ary.inn S_64 (show own_ix (5 : Int32) 5 from rfl) (by decide)
  obtain ⟨T10, h10, X10, e10, W10, st10⟩ := stB X9 hx hZ e9 Ar_64 (j := (5 : Int32)) hin64 (g := (mkF m 64 #[.val (.int p1), .val (.int p2), .val (.int p3), .val (.int (p2 &&& (3 : Int32))), .val (.int (p3 ^^^ (-1 : Int32))), .val (.ref b4)] [(.int ((((p3 ^^^ (-1 : Int32)).toUInt32 >>> ((8 : Int32) &&& 31).toUInt32).toInt32).toInt8.toInt32)), (.int (5 : Int32)), (.ref b4)])) rfl rfl (hb hby at_64)
  have V_b4_10 := Ary.set Ar_64 S_64 H_64 W10 (show own_ix (5 : Int32) 5 from rfl)
  have K10 : Keep h0 h10 [] := K9.wr W10 (Or.inr sz_b4)
  have N10 := Fr.snoc X10 N9 g_b4
  obtain ⟨cl_75, Ar_75, S_75, H_75⟩ := id V_b4_10
  have hin75 := Ary.inn S_75 (show own_ix (6 : Int32) 6 from rfl) (by decide)
  obtain ⟨T11, h11, X11, e11, W11, st11⟩ := stB X10 hx hZ e10 Ar_75 (j := (6 : Int32)) hin75 (g := (mkF m 75 #[.val (.int p1), .val (.int p2), .val (.int p3), .val (.int (p2 &&& (3 : Int32))), .val (.int (p3 ^^^ (-1 : Int32))), .val (.ref b4)] [(.int ((((p3 ^^^ (-1 : Int32)).toUInt32 >>> ((16 : Int32) &&& 31).toUInt32).toInt32).toInt8.toInt32)), (.int (6 : Int32)), (.ref b4)])) rfl rfl (hb hby at_75)
  have V_b4_11 := Ary.set Ar_75 S_75 H_75 W11 (show own_ix (6 : Int32) 6 from rfl)
  have K11 : Keep h0 h11 [] := K10.wr W11 (Or.inr sz_b4)
  have N11 := Fr.snoc X11 N10 g_b4
  obtain ⟨cl_86, Ar_86, S_86, H_86⟩ := id V_b4_11
  have hin86 := Ary.inn S_86 (show own_ix (7 : Int32) 7 from rfl) (by decide)
  obtain ⟨T12, h12, X12, e12, W12, st12⟩ := stB X11 hx hZ e11 Ar_86 (j := (7 : Int32)) hin86 (g := (mkF m 86 #[.val (.int p1), .val (.int p2), .val (.int p3), .val (.int (p2 &&& (3 : Int32))), .val (.int (p3 ^^^ (-1 : Int32))), .val (.ref b4)] [(.int ((((p3 ^^^ (-1 : Int32)).toUInt32 >>> ((24 : Int32) &&& 31).toUInt32).toInt32).toInt8.toInt32)), (.int (7 : Int32)), (.ref b4)])) rfl rfl (hb hby at_86)
  have V_b4_12 := Ary.set Ar_86 S_86 H_86 W12 (show own_ix (7 : Int32) 7 from rfl)
  have K12 : Keep h0 h12 [] := K11.wr W12 (Or.inr sz_b4)
  have N12 := Fr.snoc X12 N11 g_b4
  obtain ⟨cl_92, Ar_92, S_92, H_92⟩ := id V_b4_12
  have hin92 := Ary.inn S_92 ixn (by omega)
  obtain ⟨T13, h13, X13, e13, W13, st13⟩ := stB X12 hx hZ e12 Ar_92 (j := (p2 &&& (3 : Int32))) hin92 (g := (mkF m 92 #[.val (.int p1), .val (.int p2), .val (.int p3), .val (.int (p2 &&& (3 : Int32))), .val (.int (p3 ^^^ (-1 : Int32))), .val (.ref b4)] [(.int (p1.toInt8.toInt32)), (.int (p2 &&& (3 : Int32))), (.ref b4)])) rfl rfl (hb hby at_92)
  have V_b4_13 := Ary.set Ar_92 S_92 H_92 W13 ixn
  have K13 : Keep h0 h13 [] := K12.wr W13 (Or.inr sz_b4)
  have N13 := Fr.snoc X13 N12 g_b4
  obtain ⟨cl_103, Ar_103, S_103, H_103⟩ := id V_b4_13
  have hin103 := Ary.inn S_103 (own_ixa ixn (show own_ix (1 : Int32) 1 from rfl) (by omega)) (by omega)
  obtain ⟨T14, h14, X14, e14, W14, st14⟩ := stB X13 hx hZ e13 Ar_103 (j := ((p2 &&& (3 : Int32)) + (1 : Int32))) hin103 (g := (mkF m 103 #[.val (.int p1), .val (.int p2), .val (.int p3), .val (.int (p2 &&& (3 : Int32))), .val (.int (p3 ^^^ (-1 : Int32))), .val (.ref b4)] [(.int (((p1.toUInt32 >>> ((8 : Int32) &&& 31).toUInt32).toInt32).toInt8.toInt32)), (.int ((p2 &&& (3 : Int32)) + (1 : Int32))), (.ref b4)])) rfl rfl (hb hby at_103)
  have V_b4_14 := Ary.set Ar_103 S_103 H_103 W14 (own_ixa ixn (show own_ix (1 : Int32) 1 from rfl) (by omega))
  have K14 : Keep h0 h14 [] := K13.wr W14 (Or.inr sz_b4)
  have N14 := Fr.snoc X14 N13 g_b4
  obtain ⟨cl_114, Ar_114, S_114, H_114⟩ := id V_b4_14
  have hin114 := Ary.inn S_114 (own_ixa ixn (show own_ix (2 : Int32) 2 from rfl) (by omega)) (by omega)
  obtain ⟨T15, h15, X15, e15, W15, st15⟩ := stB X14 hx hZ e14 Ar_114 (j := ((p2 &&& (3 : Int32)) + (2 : Int32))) hin114 (g := (mkF m 114 #[.val (.int p1), .val (.int p2), .val (.int p3), .val (.int (p2 &&& (3 : Int32))), .val (.int (p3 ^^^ (-1 : Int32))), .val (.ref b4)] [(.int (((p1.toUInt32 >>> ((16 : Int32) &&& 31).toUInt32).toInt32).toInt8.toInt32)), (.int ((p2 &&& (3 : Int32)) + (2 : Int32))), (.ref b4)])) rfl rfl (hb hby at_114)
  have V_b4_15 := Ary.set Ar_114 S_114 H_114 W15 (own_ixa ixn (show own_ix (2 : Int32) 2 from rfl) (by omega))
  have K15 : Keep h0 h15 [] := K14.wr W15 (Or.inr sz_b4)
  have N15 := Fr.snoc X15 N14 g_b4
  obtain ⟨cl_125, Ar_125, S_125, H_125⟩ := id V_b4_15
  have hin125 := Ary.inn S_125 (own_ixa ixn (show own_ix (3 : Int32) 3 from rfl) (by omega)) (by omega)
  obtain ⟨T16, h16, X16, e16, W16, st16⟩ := stB X15 hx hZ e15 Ar_125 (j := ((p2 &&& (3 : Int32)) + (3 : Int32))) hin125 (g := (mkF m 125 #[.val (.int p1), .val (.int p2), .val (.int p3), .val (.int (p2 &&& (3 : Int32))), .val (.int (p3 ^^^ (-1 : Int32))), .val (.ref b4)] [(.int (((p1.toUInt32 >>> ((24 : Int32) &&& 31).toUInt32).toInt32).toInt8.toInt32)), (.int ((p2 &&& (3 : Int32)) + (3 : Int32))), (.ref b4)])) rfl rfl (hb hby at_125)
  have V_b4_16 := Ary.set Ar_125 S_125 H_125 W16 (own_ixa ixn (show own_ix (3 : Int32) 3 from rfl) (by omega))
  have K16 : Keep h0 h16 [] := K15.wr W16 (Or.inr sz_b4)
  have N16 := Fr.snoc X16 N15 g_b4
  have Zc17 : n0 ≤ h16.size := (Nat.le_trans (Nat.le_trans (Nat.le_trans (Nat.le_trans (Nat.le_trans (Nat.le_trans (Nat.le_trans (Nat.le_trans (Nat.le_trans (Nat.le_trans (Nat.le_trans (Nat.le_trans (Nat.le_trans Z0 E4.1) (Keep.of_wr W5).1) (Keep.of_wr W6).1) (Keep.of_wr W7).1) (Keep.of_wr W8).1) (Keep.of_wr W9).1) (Keep.of_wr W10).1) (Keep.of_wr W11).1) (Keep.of_wr W12).1) (Keep.of_wr W13).1) (Keep.of_wr W14).1) (Keep.of_wr W15).1) (Keep.of_wr W16).1)
  have Vc17_b4 := V_b4_16
  obtain ⟨_, _, ⟨T17, L17, k17, n17⟩, -, X17, ⟨Lc17, hQ17, l17, y17, z17⟩, st17⟩ := Jvm.LawKit.callS X16 hx (y := (⟨"com/example/ferrule/ferrule/bench/HandWritten", "littleEndianInt", "([BI)I"⟩ : MethodName)) hown (mvT hZ (hw _ (List.mem_of_getElem? (i := 1) rfl))) (mvT hZ (hw _ (List.mem_of_getElem? (i := 2) rfl))) (mvT hZ (hw _ (List.mem_of_getElem? (i := 3) rfl))) (mvT hZ (hw _ (List.mem_of_getElem? (i := 4) rfl))) (by decide) (backOf (W := 0) (rm1 l Z a0 hw [] b4 (p2 &&& (3 : Int32)) n (nar .byte (p1.toInt8.toInt32)) (nar .byte (((p1.toUInt32 >>> ((8 : Int32) &&& 31).toUInt32).toInt32).toInt8.toInt32)) (nar .byte (((p1.toUInt32 >>> ((16 : Int32) &&& 31).toUInt32).toInt32).toInt8.toInt32)) (nar .byte (((p1.toUInt32 >>> ((24 : Int32) &&& 31).toUInt32).toInt32).toInt8.toInt32)) _ h16 n0 (Nat.le_trans Z0 K16.1) ixn hn ((own_up_ne _ _ (by omega)).trans ((own_up_ne _ _ (by omega)).trans ((own_up_ne _ _ (by omega)).trans (own_up_at _ _ _)))) ((own_up_ne _ _ (by omega)).trans ((own_up_ne _ _ (by omega)).trans (own_up_at _ _ _))) ((own_up_ne _ _ (by omega)).trans (own_up_at _ _ _)) (own_up_at _ _ _) V_b4_16) hZ (hw _ (List.mem_of_getElem? (i := 4) rfl)) (hw _ (List.mem_of_getElem? (i := 3) rfl)) (by decide) (by decide)) (g := (mkF m 129 #[.val (.int p1), .val (.int p2), .val (.int p3), .val (.int (p2 &&& (3 : Int32))), .val (.int (p3 ^^^ (-1 : Int32))), .val (.ref b4)] [(.int (p2 &&& (3 : Int32))), (.ref b4)])) rfl (by rw [hml]; rfl) (argsL := [(.ref b4), (.int (p2 &&& (3 : Int32)))]) (rest := []) (lenOf pd_0_0 rfl) rfl (by show 2 * 0 + _ ≤ _; exact Nat.le_of_eq rfl) (hb hby at_129) (fun _ _ => ⟨rfl, e16, (by decide : 1 + 0 ≤ _), (by decide : 8 + 0 ≤ _)⟩)
  dsimp only [Pt.U, Pt.locs, Pt.cells, Pt.slots] at X17 l17 y17 z17 st17 hQ17
  subst l17 y17 z17
  obtain ⟨rfl, N17q, eq17⟩ := hQ17
  have N17 := Fr.app N16 N17q
  have E17 : Ext h16 T17.heap := own_exteq eq17
  have K17 : Keep h0 T17.heap [] := K16.ext E17
  obtain ⟨fs, hr, hrun, hended, hW, hsame⟩ := X17.leave (v := some (.int (1 : Int32))) (fun h => by rw [Bd.returns] at h; cases h)
  refine ⟨_, _, pre0 _ ?_, hrun, hended, _, _, rfl, ?_, ⟨_, rfl⟩, hW, hsame.mono (by decide) (by decide)⟩
  · show Steps p.tables e below (s₁.setTop (mkF m 0 #[.val (.int p1), .val (.int p2), .val (.int p3), .unset, .unset, .unset] [])) _
    refine XS.iloadN X0.here hx rfl (hb hby at_0) rfl ?_
    show Steps p.tables e below (s₁.setTop (mkF m 1 #[.val (.int p1), .val (.int p2), .val (.int p3), .unset, .unset, .unset] [(.int p2)])) _
    refine XS.iconst X0.here hx rfl (hb hby at_1) ?_
    show Steps p.tables e below (s₁.setTop (mkF m 2 #[.val (.int p1), .val (.int p2), .val (.int p3), .unset, .unset, .unset] [(.int (3 : Int32)), (.int p2)])) _
    refine XS.iand X0.here hx rfl (hb hby at_2) rfl ?_
    show Steps p.tables e below (s₁.setTop (mkF m 3 #[.val (.int p1), .val (.int p2), .val (.int p3), .unset, .unset, .unset] [(.int (p2 &&& (3 : Int32)))])) _
    refine XS.istoreN X0.here hx rfl (hb hby at_3) rfl (l' := #[.val (.int p1), .val (.int p2), .val (.int p3), .val (.int (p2 &&& (3 : Int32))), .unset, .unset]) rfl ?_
    show Steps p.tables e below (s₁.setTop (mkF m 4 #[.val (.int p1), .val (.int p2), .val (.int p3), .val (.int (p2 &&& (3 : Int32))), .unset, .unset] [])) _
    refine XS.iloadN X0.here hx rfl (hb hby at_4) rfl ?_
    show Steps p.tables e below (s₁.setTop (mkF m 5 #[.val (.int p1), .val (.int p2), .val (.int p3), .val (.int (p2 &&& (3 : Int32))), .unset, .unset] [(.int p3)])) _
    refine XS.iconst X0.here hx rfl (hb hby at_5) ?_
    show Steps p.tables e below (s₁.setTop (mkF m 6 #[.val (.int p1), .val (.int p2), .val (.int p3), .val (.int (p2 &&& (3 : Int32))), .unset, .unset] [(.int (-1 : Int32)), (.int p3)])) _
    refine XS.ixor X0.here hx rfl (hb hby at_6) rfl ?_
    show Steps p.tables e below (s₁.setTop (mkF m 7 #[.val (.int p1), .val (.int p2), .val (.int p3), .val (.int (p2 &&& (3 : Int32))), .unset, .unset] [(.int (p3 ^^^ (-1 : Int32)))])) _
    refine XS.istore X0.here hx rfl (hb hby at_7) rfl (l' := #[.val (.int p1), .val (.int p2), .val (.int p3), .val (.int (p2 &&& (3 : Int32))), .val (.int (p3 ^^^ (-1 : Int32))), .unset]) rfl ?_
    show Steps p.tables e below (s₁.setTop (mkF m 9 #[.val (.int p1), .val (.int p2), .val (.int p3), .val (.int (p2 &&& (3 : Int32))), .val (.int (p3 ^^^ (-1 : Int32))), .unset] [])) _
    refine XS.bipush X0.here hx rfl (hb hby at_9) ?_
    show Steps p.tables e below (s₁.setTop (mkF m 11 #[.val (.int p1), .val (.int p2), .val (.int p3), .val (.int (p2 &&& (3 : Int32))), .val (.int (p3 ^^^ (-1 : Int32))), .unset] [(.int (8 : Int32))])) _
    refine st4 _ ?_
    show Steps p.tables e below (T4.setTop (mkF m 13 #[.val (.int p1), .val (.int p2), .val (.int p3), .val (.int (p2 &&& (3 : Int32))), .val (.int (p3 ^^^ (-1 : Int32))), .unset] [(.ref b4)])) _
    refine XS.astore X4.here hx rfl (hb hby at_13) rfl rfl (l' := #[.val (.int p1), .val (.int p2), .val (.int p3), .val (.int (p2 &&& (3 : Int32))), .val (.int (p3 ^^^ (-1 : Int32))), .val (.ref b4)]) rfl ?_
    show Steps p.tables e below (T4.setTop (mkF m 15 #[.val (.int p1), .val (.int p2), .val (.int p3), .val (.int (p2 &&& (3 : Int32))), .val (.int (p3 ^^^ (-1 : Int32))), .val (.ref b4)] [])) _
    refine XS.aload X4.here hx rfl (hb hby at_15) rfl rfl ?_
    show Steps p.tables e below (T4.setTop (mkF m 17 #[.val (.int p1), .val (.int p2), .val (.int p3), .val (.int (p2 &&& (3 : Int32))), .val (.int (p3 ^^^ (-1 : Int32))), .val (.ref b4)] [(.ref b4)])) _
    refine XS.iconst X4.here hx rfl (hb hby at_17) ?_
    show Steps p.tables e below (T4.setTop (mkF m 18 #[.val (.int p1), .val (.int p2), .val (.int p3), .val (.int (p2 &&& (3 : Int32))), .val (.int (p3 ^^^ (-1 : Int32))), .val (.ref b4)] [(.int (0 : Int32)), (.ref b4)])) _
    refine XS.iloadN X4.here hx rfl (hb hby at_18) rfl ?_
    show Steps p.tables e below (T4.setTop (mkF m 19 #[.val (.int p1), .val (.int p2), .val (.int p3), .val (.int (p2 &&& (3 : Int32))), .val (.int (p3 ^^^ (-1 : Int32))), .val (.ref b4)] [(.int p3), (.int (0 : Int32)), (.ref b4)])) _
    refine XS.i2b X4.here hx rfl (hb hby at_19) rfl ?_
    show Steps p.tables e below (T4.setTop (mkF m 20 #[.val (.int p1), .val (.int p2), .val (.int p3), .val (.int (p2 &&& (3 : Int32))), .val (.int (p3 ^^^ (-1 : Int32))), .val (.ref b4)] [(.int (p3.toInt8.toInt32)), (.int (0 : Int32)), (.ref b4)])) _
    refine st5 _ ?_
    show Steps p.tables e below (T5.setTop (mkF m 21 #[.val (.int p1), .val (.int p2), .val (.int p3), .val (.int (p2 &&& (3 : Int32))), .val (.int (p3 ^^^ (-1 : Int32))), .val (.ref b4)] [])) _
    refine XS.aload X5.here hx rfl (hb hby at_21) rfl rfl ?_
    show Steps p.tables e below (T5.setTop (mkF m 23 #[.val (.int p1), .val (.int p2), .val (.int p3), .val (.int (p2 &&& (3 : Int32))), .val (.int (p3 ^^^ (-1 : Int32))), .val (.ref b4)] [(.ref b4)])) _
    refine XS.iconst X5.here hx rfl (hb hby at_23) ?_
    show Steps p.tables e below (T5.setTop (mkF m 24 #[.val (.int p1), .val (.int p2), .val (.int p3), .val (.int (p2 &&& (3 : Int32))), .val (.int (p3 ^^^ (-1 : Int32))), .val (.ref b4)] [(.int (1 : Int32)), (.ref b4)])) _
    refine XS.iloadN X5.here hx rfl (hb hby at_24) rfl ?_
    show Steps p.tables e below (T5.setTop (mkF m 25 #[.val (.int p1), .val (.int p2), .val (.int p3), .val (.int (p2 &&& (3 : Int32))), .val (.int (p3 ^^^ (-1 : Int32))), .val (.ref b4)] [(.int p3), (.int (1 : Int32)), (.ref b4)])) _
    refine XS.bipush X5.here hx rfl (hb hby at_25) ?_
    show Steps p.tables e below (T5.setTop (mkF m 27 #[.val (.int p1), .val (.int p2), .val (.int p3), .val (.int (p2 &&& (3 : Int32))), .val (.int (p3 ^^^ (-1 : Int32))), .val (.ref b4)] [(.int (8 : Int32)), (.int p3), (.int (1 : Int32)), (.ref b4)])) _
    refine XS.iushr X5.here hx rfl (hb hby at_27) rfl ?_
    show Steps p.tables e below (T5.setTop (mkF m 28 #[.val (.int p1), .val (.int p2), .val (.int p3), .val (.int (p2 &&& (3 : Int32))), .val (.int (p3 ^^^ (-1 : Int32))), .val (.ref b4)] [(.int ((p3.toUInt32 >>> ((8 : Int32) &&& 31).toUInt32).toInt32)), (.int (1 : Int32)), (.ref b4)])) _
    refine XS.i2b X5.here hx rfl (hb hby at_28) rfl ?_
    show Steps p.tables e below (T5.setTop (mkF m 29 #[.val (.int p1), .val (.int p2), .val (.int p3), .val (.int (p2 &&& (3 : Int32))), .val (.int (p3 ^^^ (-1 : Int32))), .val (.ref b4)] [(.int (((p3.toUInt32 >>> ((8 : Int32) &&& 31).toUInt32).toInt32).toInt8.toInt32)), (.int (1 : Int32)), (.ref b4)])) _
    refine st6 _ ?_
    show Steps p.tables e below (T6.setTop (mkF m 30 #[.val (.int p1), .val (.int p2), .val (.int p3), .val (.int (p2 &&& (3 : Int32))), .val (.int (p3 ^^^ (-1 : Int32))), .val (.ref b4)] [])) _
    refine XS.aload X6.here hx rfl (hb hby at_30) rfl rfl ?_
    show Steps p.tables e below (T6.setTop (mkF m 32 #[.val (.int p1), .val (.int p2), .val (.int p3), .val (.int (p2 &&& (3 : Int32))), .val (.int (p3 ^^^ (-1 : Int32))), .val (.ref b4)] [(.ref b4)])) _
    refine XS.iconst X6.here hx rfl (hb hby at_32) ?_
    show Steps p.tables e below (T6.setTop (mkF m 33 #[.val (.int p1), .val (.int p2), .val (.int p3), .val (.int (p2 &&& (3 : Int32))), .val (.int (p3 ^^^ (-1 : Int32))), .val (.ref b4)] [(.int (2 : Int32)), (.ref b4)])) _
    refine XS.iloadN X6.here hx rfl (hb hby at_33) rfl ?_
    show Steps p.tables e below (T6.setTop (mkF m 34 #[.val (.int p1), .val (.int p2), .val (.int p3), .val (.int (p2 &&& (3 : Int32))), .val (.int (p3 ^^^ (-1 : Int32))), .val (.ref b4)] [(.int p3), (.int (2 : Int32)), (.ref b4)])) _
    refine XS.bipush X6.here hx rfl (hb hby at_34) ?_
    show Steps p.tables e below (T6.setTop (mkF m 36 #[.val (.int p1), .val (.int p2), .val (.int p3), .val (.int (p2 &&& (3 : Int32))), .val (.int (p3 ^^^ (-1 : Int32))), .val (.ref b4)] [(.int (16 : Int32)), (.int p3), (.int (2 : Int32)), (.ref b4)])) _
    refine XS.iushr X6.here hx rfl (hb hby at_36) rfl ?_
    show Steps p.tables e below (T6.setTop (mkF m 37 #[.val (.int p1), .val (.int p2), .val (.int p3), .val (.int (p2 &&& (3 : Int32))), .val (.int (p3 ^^^ (-1 : Int32))), .val (.ref b4)] [(.int ((p3.toUInt32 >>> ((16 : Int32) &&& 31).toUInt32).toInt32)), (.int (2 : Int32)), (.ref b4)])) _
    refine XS.i2b X6.here hx rfl (hb hby at_37) rfl ?_
    show Steps p.tables e below (T6.setTop (mkF m 38 #[.val (.int p1), .val (.int p2), .val (.int p3), .val (.int (p2 &&& (3 : Int32))), .val (.int (p3 ^^^ (-1 : Int32))), .val (.ref b4)] [(.int (((p3.toUInt32 >>> ((16 : Int32) &&& 31).toUInt32).toInt32).toInt8.toInt32)), (.int (2 : Int32)), (.ref b4)])) _
    refine st7 _ ?_
    show Steps p.tables e below (T7.setTop (mkF m 39 #[.val (.int p1), .val (.int p2), .val (.int p3), .val (.int (p2 &&& (3 : Int32))), .val (.int (p3 ^^^ (-1 : Int32))), .val (.ref b4)] [])) _
    refine XS.aload X7.here hx rfl (hb hby at_39) rfl rfl ?_
    show Steps p.tables e below (T7.setTop (mkF m 41 #[.val (.int p1), .val (.int p2), .val (.int p3), .val (.int (p2 &&& (3 : Int32))), .val (.int (p3 ^^^ (-1 : Int32))), .val (.ref b4)] [(.ref b4)])) _
    refine XS.iconst X7.here hx rfl (hb hby at_41) ?_
    show Steps p.tables e below (T7.setTop (mkF m 42 #[.val (.int p1), .val (.int p2), .val (.int p3), .val (.int (p2 &&& (3 : Int32))), .val (.int (p3 ^^^ (-1 : Int32))), .val (.ref b4)] [(.int (3 : Int32)), (.ref b4)])) _
    refine XS.iloadN X7.here hx rfl (hb hby at_42) rfl ?_
    show Steps p.tables e below (T7.setTop (mkF m 43 #[.val (.int p1), .val (.int p2), .val (.int p3), .val (.int (p2 &&& (3 : Int32))), .val (.int (p3 ^^^ (-1 : Int32))), .val (.ref b4)] [(.int p3), (.int (3 : Int32)), (.ref b4)])) _
    refine XS.bipush X7.here hx rfl (hb hby at_43) ?_
    show Steps p.tables e below (T7.setTop (mkF m 45 #[.val (.int p1), .val (.int p2), .val (.int p3), .val (.int (p2 &&& (3 : Int32))), .val (.int (p3 ^^^ (-1 : Int32))), .val (.ref b4)] [(.int (24 : Int32)), (.int p3), (.int (3 : Int32)), (.ref b4)])) _
    refine XS.iushr X7.here hx rfl (hb hby at_45) rfl ?_
    show Steps p.tables e below (T7.setTop (mkF m 46 #[.val (.int p1), .val (.int p2), .val (.int p3), .val (.int (p2 &&& (3 : Int32))), .val (.int (p3 ^^^ (-1 : Int32))), .val (.ref b4)] [(.int ((p3.toUInt32 >>> ((24 : Int32) &&& 31).toUInt32).toInt32)), (.int (3 : Int32)), (.ref b4)])) _
    refine XS.i2b X7.here hx rfl (hb hby at_46) rfl ?_
    show Steps p.tables e below (T7.setTop (mkF m 47 #[.val (.int p1), .val (.int p2), .val (.int p3), .val (.int (p2 &&& (3 : Int32))), .val (.int (p3 ^^^ (-1 : Int32))), .val (.ref b4)] [(.int (((p3.toUInt32 >>> ((24 : Int32) &&& 31).toUInt32).toInt32).toInt8.toInt32)), (.int (3 : Int32)), (.ref b4)])) _
    refine st8 _ ?_
    show Steps p.tables e below (T8.setTop (mkF m 48 #[.val (.int p1), .val (.int p2), .val (.int p3), .val (.int (p2 &&& (3 : Int32))), .val (.int (p3 ^^^ (-1 : Int32))), .val (.ref b4)] [])) _
    refine XS.aload X8.here hx rfl (hb hby at_48) rfl rfl ?_
    show Steps p.tables e below (T8.setTop (mkF m 50 #[.val (.int p1), .val (.int p2), .val (.int p3), .val (.int (p2 &&& (3 : Int32))), .val (.int (p3 ^^^ (-1 : Int32))), .val (.ref b4)] [(.ref b4)])) _
    refine XS.iconst X8.here hx rfl (hb hby at_50) ?_
    show Steps p.tables e below (T8.setTop (mkF m 51 #[.val (.int p1), .val (.int p2), .val (.int p3), .val (.int (p2 &&& (3 : Int32))), .val (.int (p3 ^^^ (-1 : Int32))), .val (.ref b4)] [(.int (4 : Int32)), (.ref b4)])) _
    refine XS.iload X8.here hx rfl (hb hby at_51) rfl ?_
    show Steps p.tables e below (T8.setTop (mkF m 53 #[.val (.int p1), .val (.int p2), .val (.int p3), .val (.int (p2 &&& (3 : Int32))), .val (.int (p3 ^^^ (-1 : Int32))), .val (.ref b4)] [(.int (p3 ^^^ (-1 : Int32))), (.int (4 : Int32)), (.ref b4)])) _
    refine XS.i2b X8.here hx rfl (hb hby at_53) rfl ?_
    show Steps p.tables e below (T8.setTop (mkF m 54 #[.val (.int p1), .val (.int p2), .val (.int p3), .val (.int (p2 &&& (3 : Int32))), .val (.int (p3 ^^^ (-1 : Int32))), .val (.ref b4)] [(.int ((p3 ^^^ (-1 : Int32)).toInt8.toInt32)), (.int (4 : Int32)), (.ref b4)])) _
    refine st9 _ ?_
    show Steps p.tables e below (T9.setTop (mkF m 55 #[.val (.int p1), .val (.int p2), .val (.int p3), .val (.int (p2 &&& (3 : Int32))), .val (.int (p3 ^^^ (-1 : Int32))), .val (.ref b4)] [])) _
    refine XS.aload X9.here hx rfl (hb hby at_55) rfl rfl ?_
    show Steps p.tables e below (T9.setTop (mkF m 57 #[.val (.int p1), .val (.int p2), .val (.int p3), .val (.int (p2 &&& (3 : Int32))), .val (.int (p3 ^^^ (-1 : Int32))), .val (.ref b4)] [(.ref b4)])) _
    refine XS.iconst X9.here hx rfl (hb hby at_57) ?_
    show Steps p.tables e below (T9.setTop (mkF m 58 #[.val (.int p1), .val (.int p2), .val (.int p3), .val (.int (p2 &&& (3 : Int32))), .val (.int (p3 ^^^ (-1 : Int32))), .val (.ref b4)] [(.int (5 : Int32)), (.ref b4)])) _
    refine XS.iload X9.here hx rfl (hb hby at_58) rfl ?_
    show Steps p.tables e below (T9.setTop (mkF m 60 #[.val (.int p1), .val (.int p2), .val (.int p3), .val (.int (p2 &&& (3 : Int32))), .val (.int (p3 ^^^ (-1 : Int32))), .val (.ref b4)] [(.int (p3 ^^^ (-1 : Int32))), (.int (5 : Int32)), (.ref b4)])) _
    refine XS.bipush X9.here hx rfl (hb hby at_60) ?_
    show Steps p.tables e below (T9.setTop (mkF m 62 #[.val (.int p1), .val (.int p2), .val (.int p3), .val (.int (p2 &&& (3 : Int32))), .val (.int (p3 ^^^ (-1 : Int32))), .val (.ref b4)] [(.int (8 : Int32)), (.int (p3 ^^^ (-1 : Int32))), (.int (5 : Int32)), (.ref b4)])) _
    refine XS.iushr X9.here hx rfl (hb hby at_62) rfl ?_
    show Steps p.tables e below (T9.setTop (mkF m 63 #[.val (.int p1), .val (.int p2), .val (.int p3), .val (.int (p2 &&& (3 : Int32))), .val (.int (p3 ^^^ (-1 : Int32))), .val (.ref b4)] [(.int (((p3 ^^^ (-1 : Int32)).toUInt32 >>> ((8 : Int32) &&& 31).toUInt32).toInt32)), (.int (5 : Int32)), (.ref b4)])) _
    refine XS.i2b X9.here hx rfl (hb hby at_63) rfl ?_
    show Steps p.tables e below (T9.setTop (mkF m 64 #[.val (.int p1), .val (.int p2), .val (.int p3), .val (.int (p2 &&& (3 : Int32))), .val (.int (p3 ^^^ (-1 : Int32))), .val (.ref b4)] [(.int ((((p3 ^^^ (-1 : Int32)).toUInt32 >>> ((8 : Int32) &&& 31).toUInt32).toInt32).toInt8.toInt32)), (.int (5 : Int32)), (.ref b4)])) _
    refine st10 _ ?_
    show Steps p.tables e below (T10.setTop (mkF m 65 #[.val (.int p1), .val (.int p2), .val (.int p3), .val (.int (p2 &&& (3 : Int32))), .val (.int (p3 ^^^ (-1 : Int32))), .val (.ref b4)] [])) _
    refine XS.aload X10.here hx rfl (hb hby at_65) rfl rfl ?_
    show Steps p.tables e below (T10.setTop (mkF m 67 #[.val (.int p1), .val (.int p2), .val (.int p3), .val (.int (p2 &&& (3 : Int32))), .val (.int (p3 ^^^ (-1 : Int32))), .val (.ref b4)] [(.ref b4)])) _
    refine XS.bipush X10.here hx rfl (hb hby at_67) ?_
    show Steps p.tables e below (T10.setTop (mkF m 69 #[.val (.int p1), .val (.int p2), .val (.int p3), .val (.int (p2 &&& (3 : Int32))), .val (.int (p3 ^^^ (-1 : Int32))), .val (.ref b4)] [(.int (6 : Int32)), (.ref b4)])) _
    refine XS.iload X10.here hx rfl (hb hby at_69) rfl ?_
    show Steps p.tables e below (T10.setTop (mkF m 71 #[.val (.int p1), .val (.int p2), .val (.int p3), .val (.int (p2 &&& (3 : Int32))), .val (.int (p3 ^^^ (-1 : Int32))), .val (.ref b4)] [(.int (p3 ^^^ (-1 : Int32))), (.int (6 : Int32)), (.ref b4)])) _
    refine XS.bipush X10.here hx rfl (hb hby at_71) ?_
    show Steps p.tables e below (T10.setTop (mkF m 73 #[.val (.int p1), .val (.int p2), .val (.int p3), .val (.int (p2 &&& (3 : Int32))), .val (.int (p3 ^^^ (-1 : Int32))), .val (.ref b4)] [(.int (16 : Int32)), (.int (p3 ^^^ (-1 : Int32))), (.int (6 : Int32)), (.ref b4)])) _
    refine XS.iushr X10.here hx rfl (hb hby at_73) rfl ?_
    show Steps p.tables e below (T10.setTop (mkF m 74 #[.val (.int p1), .val (.int p2), .val (.int p3), .val (.int (p2 &&& (3 : Int32))), .val (.int (p3 ^^^ (-1 : Int32))), .val (.ref b4)] [(.int (((p3 ^^^ (-1 : Int32)).toUInt32 >>> ((16 : Int32) &&& 31).toUInt32).toInt32)), (.int (6 : Int32)), (.ref b4)])) _
    refine XS.i2b X10.here hx rfl (hb hby at_74) rfl ?_
    show Steps p.tables e below (T10.setTop (mkF m 75 #[.val (.int p1), .val (.int p2), .val (.int p3), .val (.int (p2 &&& (3 : Int32))), .val (.int (p3 ^^^ (-1 : Int32))), .val (.ref b4)] [(.int ((((p3 ^^^ (-1 : Int32)).toUInt32 >>> ((16 : Int32) &&& 31).toUInt32).toInt32).toInt8.toInt32)), (.int (6 : Int32)), (.ref b4)])) _
    refine st11 _ ?_
    show Steps p.tables e below (T11.setTop (mkF m 76 #[.val (.int p1), .val (.int p2), .val (.int p3), .val (.int (p2 &&& (3 : Int32))), .val (.int (p3 ^^^ (-1 : Int32))), .val (.ref b4)] [])) _
    refine XS.aload X11.here hx rfl (hb hby at_76) rfl rfl ?_
    show Steps p.tables e below (T11.setTop (mkF m 78 #[.val (.int p1), .val (.int p2), .val (.int p3), .val (.int (p2 &&& (3 : Int32))), .val (.int (p3 ^^^ (-1 : Int32))), .val (.ref b4)] [(.ref b4)])) _
    refine XS.bipush X11.here hx rfl (hb hby at_78) ?_
    show Steps p.tables e below (T11.setTop (mkF m 80 #[.val (.int p1), .val (.int p2), .val (.int p3), .val (.int (p2 &&& (3 : Int32))), .val (.int (p3 ^^^ (-1 : Int32))), .val (.ref b4)] [(.int (7 : Int32)), (.ref b4)])) _
    refine XS.iload X11.here hx rfl (hb hby at_80) rfl ?_
    show Steps p.tables e below (T11.setTop (mkF m 82 #[.val (.int p1), .val (.int p2), .val (.int p3), .val (.int (p2 &&& (3 : Int32))), .val (.int (p3 ^^^ (-1 : Int32))), .val (.ref b4)] [(.int (p3 ^^^ (-1 : Int32))), (.int (7 : Int32)), (.ref b4)])) _
    refine XS.bipush X11.here hx rfl (hb hby at_82) ?_
    show Steps p.tables e below (T11.setTop (mkF m 84 #[.val (.int p1), .val (.int p2), .val (.int p3), .val (.int (p2 &&& (3 : Int32))), .val (.int (p3 ^^^ (-1 : Int32))), .val (.ref b4)] [(.int (24 : Int32)), (.int (p3 ^^^ (-1 : Int32))), (.int (7 : Int32)), (.ref b4)])) _
    refine XS.iushr X11.here hx rfl (hb hby at_84) rfl ?_
    show Steps p.tables e below (T11.setTop (mkF m 85 #[.val (.int p1), .val (.int p2), .val (.int p3), .val (.int (p2 &&& (3 : Int32))), .val (.int (p3 ^^^ (-1 : Int32))), .val (.ref b4)] [(.int (((p3 ^^^ (-1 : Int32)).toUInt32 >>> ((24 : Int32) &&& 31).toUInt32).toInt32)), (.int (7 : Int32)), (.ref b4)])) _
    refine XS.i2b X11.here hx rfl (hb hby at_85) rfl ?_
    show Steps p.tables e below (T11.setTop (mkF m 86 #[.val (.int p1), .val (.int p2), .val (.int p3), .val (.int (p2 &&& (3 : Int32))), .val (.int (p3 ^^^ (-1 : Int32))), .val (.ref b4)] [(.int ((((p3 ^^^ (-1 : Int32)).toUInt32 >>> ((24 : Int32) &&& 31).toUInt32).toInt32).toInt8.toInt32)), (.int (7 : Int32)), (.ref b4)])) _
    refine st12 _ ?_
    show Steps p.tables e below (T12.setTop (mkF m 87 #[.val (.int p1), .val (.int p2), .val (.int p3), .val (.int (p2 &&& (3 : Int32))), .val (.int (p3 ^^^ (-1 : Int32))), .val (.ref b4)] [])) _
    refine XS.aload X12.here hx rfl (hb hby at_87) rfl rfl ?_
    show Steps p.tables e below (T12.setTop (mkF m 89 #[.val (.int p1), .val (.int p2), .val (.int p3), .val (.int (p2 &&& (3 : Int32))), .val (.int (p3 ^^^ (-1 : Int32))), .val (.ref b4)] [(.ref b4)])) _
    refine XS.iloadN X12.here hx rfl (hb hby at_89) rfl ?_
    show Steps p.tables e below (T12.setTop (mkF m 90 #[.val (.int p1), .val (.int p2), .val (.int p3), .val (.int (p2 &&& (3 : Int32))), .val (.int (p3 ^^^ (-1 : Int32))), .val (.ref b4)] [(.int (p2 &&& (3 : Int32))), (.ref b4)])) _
    refine XS.iloadN X12.here hx rfl (hb hby at_90) rfl ?_
    show Steps p.tables e below (T12.setTop (mkF m 91 #[.val (.int p1), .val (.int p2), .val (.int p3), .val (.int (p2 &&& (3 : Int32))), .val (.int (p3 ^^^ (-1 : Int32))), .val (.ref b4)] [(.int p1), (.int (p2 &&& (3 : Int32))), (.ref b4)])) _
    refine XS.i2b X12.here hx rfl (hb hby at_91) rfl ?_
    show Steps p.tables e below (T12.setTop (mkF m 92 #[.val (.int p1), .val (.int p2), .val (.int p3), .val (.int (p2 &&& (3 : Int32))), .val (.int (p3 ^^^ (-1 : Int32))), .val (.ref b4)] [(.int (p1.toInt8.toInt32)), (.int (p2 &&& (3 : Int32))), (.ref b4)])) _
    refine st13 _ ?_
    show Steps p.tables e below (T13.setTop (mkF m 93 #[.val (.int p1), .val (.int p2), .val (.int p3), .val (.int (p2 &&& (3 : Int32))), .val (.int (p3 ^^^ (-1 : Int32))), .val (.ref b4)] [])) _
    refine XS.aload X13.here hx rfl (hb hby at_93) rfl rfl ?_
    show Steps p.tables e below (T13.setTop (mkF m 95 #[.val (.int p1), .val (.int p2), .val (.int p3), .val (.int (p2 &&& (3 : Int32))), .val (.int (p3 ^^^ (-1 : Int32))), .val (.ref b4)] [(.ref b4)])) _
    refine XS.iloadN X13.here hx rfl (hb hby at_95) rfl ?_
    show Steps p.tables e below (T13.setTop (mkF m 96 #[.val (.int p1), .val (.int p2), .val (.int p3), .val (.int (p2 &&& (3 : Int32))), .val (.int (p3 ^^^ (-1 : Int32))), .val (.ref b4)] [(.int (p2 &&& (3 : Int32))), (.ref b4)])) _
    refine XS.iconst X13.here hx rfl (hb hby at_96) ?_
    show Steps p.tables e below (T13.setTop (mkF m 97 #[.val (.int p1), .val (.int p2), .val (.int p3), .val (.int (p2 &&& (3 : Int32))), .val (.int (p3 ^^^ (-1 : Int32))), .val (.ref b4)] [(.int (1 : Int32)), (.int (p2 &&& (3 : Int32))), (.ref b4)])) _
    refine XS.iadd X13.here hx rfl (hb hby at_97) rfl ?_
    show Steps p.tables e below (T13.setTop (mkF m 98 #[.val (.int p1), .val (.int p2), .val (.int p3), .val (.int (p2 &&& (3 : Int32))), .val (.int (p3 ^^^ (-1 : Int32))), .val (.ref b4)] [(.int ((p2 &&& (3 : Int32)) + (1 : Int32))), (.ref b4)])) _
    refine XS.iloadN X13.here hx rfl (hb hby at_98) rfl ?_
    show Steps p.tables e below (T13.setTop (mkF m 99 #[.val (.int p1), .val (.int p2), .val (.int p3), .val (.int (p2 &&& (3 : Int32))), .val (.int (p3 ^^^ (-1 : Int32))), .val (.ref b4)] [(.int p1), (.int ((p2 &&& (3 : Int32)) + (1 : Int32))), (.ref b4)])) _
    refine XS.bipush X13.here hx rfl (hb hby at_99) ?_
    show Steps p.tables e below (T13.setTop (mkF m 101 #[.val (.int p1), .val (.int p2), .val (.int p3), .val (.int (p2 &&& (3 : Int32))), .val (.int (p3 ^^^ (-1 : Int32))), .val (.ref b4)] [(.int (8 : Int32)), (.int p1), (.int ((p2 &&& (3 : Int32)) + (1 : Int32))), (.ref b4)])) _
    refine XS.iushr X13.here hx rfl (hb hby at_101) rfl ?_
    show Steps p.tables e below (T13.setTop (mkF m 102 #[.val (.int p1), .val (.int p2), .val (.int p3), .val (.int (p2 &&& (3 : Int32))), .val (.int (p3 ^^^ (-1 : Int32))), .val (.ref b4)] [(.int ((p1.toUInt32 >>> ((8 : Int32) &&& 31).toUInt32).toInt32)), (.int ((p2 &&& (3 : Int32)) + (1 : Int32))), (.ref b4)])) _
    refine XS.i2b X13.here hx rfl (hb hby at_102) rfl ?_
    show Steps p.tables e below (T13.setTop (mkF m 103 #[.val (.int p1), .val (.int p2), .val (.int p3), .val (.int (p2 &&& (3 : Int32))), .val (.int (p3 ^^^ (-1 : Int32))), .val (.ref b4)] [(.int (((p1.toUInt32 >>> ((8 : Int32) &&& 31).toUInt32).toInt32).toInt8.toInt32)), (.int ((p2 &&& (3 : Int32)) + (1 : Int32))), (.ref b4)])) _
    refine st14 _ ?_
    show Steps p.tables e below (T14.setTop (mkF m 104 #[.val (.int p1), .val (.int p2), .val (.int p3), .val (.int (p2 &&& (3 : Int32))), .val (.int (p3 ^^^ (-1 : Int32))), .val (.ref b4)] [])) _
    refine XS.aload X14.here hx rfl (hb hby at_104) rfl rfl ?_
    show Steps p.tables e below (T14.setTop (mkF m 106 #[.val (.int p1), .val (.int p2), .val (.int p3), .val (.int (p2 &&& (3 : Int32))), .val (.int (p3 ^^^ (-1 : Int32))), .val (.ref b4)] [(.ref b4)])) _
    refine XS.iloadN X14.here hx rfl (hb hby at_106) rfl ?_
    show Steps p.tables e below (T14.setTop (mkF m 107 #[.val (.int p1), .val (.int p2), .val (.int p3), .val (.int (p2 &&& (3 : Int32))), .val (.int (p3 ^^^ (-1 : Int32))), .val (.ref b4)] [(.int (p2 &&& (3 : Int32))), (.ref b4)])) _
    refine XS.iconst X14.here hx rfl (hb hby at_107) ?_
    show Steps p.tables e below (T14.setTop (mkF m 108 #[.val (.int p1), .val (.int p2), .val (.int p3), .val (.int (p2 &&& (3 : Int32))), .val (.int (p3 ^^^ (-1 : Int32))), .val (.ref b4)] [(.int (2 : Int32)), (.int (p2 &&& (3 : Int32))), (.ref b4)])) _
    refine XS.iadd X14.here hx rfl (hb hby at_108) rfl ?_
    show Steps p.tables e below (T14.setTop (mkF m 109 #[.val (.int p1), .val (.int p2), .val (.int p3), .val (.int (p2 &&& (3 : Int32))), .val (.int (p3 ^^^ (-1 : Int32))), .val (.ref b4)] [(.int ((p2 &&& (3 : Int32)) + (2 : Int32))), (.ref b4)])) _
    refine XS.iloadN X14.here hx rfl (hb hby at_109) rfl ?_
    show Steps p.tables e below (T14.setTop (mkF m 110 #[.val (.int p1), .val (.int p2), .val (.int p3), .val (.int (p2 &&& (3 : Int32))), .val (.int (p3 ^^^ (-1 : Int32))), .val (.ref b4)] [(.int p1), (.int ((p2 &&& (3 : Int32)) + (2 : Int32))), (.ref b4)])) _
    refine XS.bipush X14.here hx rfl (hb hby at_110) ?_
    show Steps p.tables e below (T14.setTop (mkF m 112 #[.val (.int p1), .val (.int p2), .val (.int p3), .val (.int (p2 &&& (3 : Int32))), .val (.int (p3 ^^^ (-1 : Int32))), .val (.ref b4)] [(.int (16 : Int32)), (.int p1), (.int ((p2 &&& (3 : Int32)) + (2 : Int32))), (.ref b4)])) _
    refine XS.iushr X14.here hx rfl (hb hby at_112) rfl ?_
    show Steps p.tables e below (T14.setTop (mkF m 113 #[.val (.int p1), .val (.int p2), .val (.int p3), .val (.int (p2 &&& (3 : Int32))), .val (.int (p3 ^^^ (-1 : Int32))), .val (.ref b4)] [(.int ((p1.toUInt32 >>> ((16 : Int32) &&& 31).toUInt32).toInt32)), (.int ((p2 &&& (3 : Int32)) + (2 : Int32))), (.ref b4)])) _
    refine XS.i2b X14.here hx rfl (hb hby at_113) rfl ?_
    show Steps p.tables e below (T14.setTop (mkF m 114 #[.val (.int p1), .val (.int p2), .val (.int p3), .val (.int (p2 &&& (3 : Int32))), .val (.int (p3 ^^^ (-1 : Int32))), .val (.ref b4)] [(.int (((p1.toUInt32 >>> ((16 : Int32) &&& 31).toUInt32).toInt32).toInt8.toInt32)), (.int ((p2 &&& (3 : Int32)) + (2 : Int32))), (.ref b4)])) _
    refine st15 _ ?_
    show Steps p.tables e below (T15.setTop (mkF m 115 #[.val (.int p1), .val (.int p2), .val (.int p3), .val (.int (p2 &&& (3 : Int32))), .val (.int (p3 ^^^ (-1 : Int32))), .val (.ref b4)] [])) _
    refine XS.aload X15.here hx rfl (hb hby at_115) rfl rfl ?_
    show Steps p.tables e below (T15.setTop (mkF m 117 #[.val (.int p1), .val (.int p2), .val (.int p3), .val (.int (p2 &&& (3 : Int32))), .val (.int (p3 ^^^ (-1 : Int32))), .val (.ref b4)] [(.ref b4)])) _
    refine XS.iloadN X15.here hx rfl (hb hby at_117) rfl ?_
    show Steps p.tables e below (T15.setTop (mkF m 118 #[.val (.int p1), .val (.int p2), .val (.int p3), .val (.int (p2 &&& (3 : Int32))), .val (.int (p3 ^^^ (-1 : Int32))), .val (.ref b4)] [(.int (p2 &&& (3 : Int32))), (.ref b4)])) _
    refine XS.iconst X15.here hx rfl (hb hby at_118) ?_
    show Steps p.tables e below (T15.setTop (mkF m 119 #[.val (.int p1), .val (.int p2), .val (.int p3), .val (.int (p2 &&& (3 : Int32))), .val (.int (p3 ^^^ (-1 : Int32))), .val (.ref b4)] [(.int (3 : Int32)), (.int (p2 &&& (3 : Int32))), (.ref b4)])) _
    refine XS.iadd X15.here hx rfl (hb hby at_119) rfl ?_
    show Steps p.tables e below (T15.setTop (mkF m 120 #[.val (.int p1), .val (.int p2), .val (.int p3), .val (.int (p2 &&& (3 : Int32))), .val (.int (p3 ^^^ (-1 : Int32))), .val (.ref b4)] [(.int ((p2 &&& (3 : Int32)) + (3 : Int32))), (.ref b4)])) _
    refine XS.iloadN X15.here hx rfl (hb hby at_120) rfl ?_
    show Steps p.tables e below (T15.setTop (mkF m 121 #[.val (.int p1), .val (.int p2), .val (.int p3), .val (.int (p2 &&& (3 : Int32))), .val (.int (p3 ^^^ (-1 : Int32))), .val (.ref b4)] [(.int p1), (.int ((p2 &&& (3 : Int32)) + (3 : Int32))), (.ref b4)])) _
    refine XS.bipush X15.here hx rfl (hb hby at_121) ?_
    show Steps p.tables e below (T15.setTop (mkF m 123 #[.val (.int p1), .val (.int p2), .val (.int p3), .val (.int (p2 &&& (3 : Int32))), .val (.int (p3 ^^^ (-1 : Int32))), .val (.ref b4)] [(.int (24 : Int32)), (.int p1), (.int ((p2 &&& (3 : Int32)) + (3 : Int32))), (.ref b4)])) _
    refine XS.iushr X15.here hx rfl (hb hby at_123) rfl ?_
    show Steps p.tables e below (T15.setTop (mkF m 124 #[.val (.int p1), .val (.int p2), .val (.int p3), .val (.int (p2 &&& (3 : Int32))), .val (.int (p3 ^^^ (-1 : Int32))), .val (.ref b4)] [(.int ((p1.toUInt32 >>> ((24 : Int32) &&& 31).toUInt32).toInt32)), (.int ((p2 &&& (3 : Int32)) + (3 : Int32))), (.ref b4)])) _
    refine XS.i2b X15.here hx rfl (hb hby at_124) rfl ?_
    show Steps p.tables e below (T15.setTop (mkF m 125 #[.val (.int p1), .val (.int p2), .val (.int p3), .val (.int (p2 &&& (3 : Int32))), .val (.int (p3 ^^^ (-1 : Int32))), .val (.ref b4)] [(.int (((p1.toUInt32 >>> ((24 : Int32) &&& 31).toUInt32).toInt32).toInt8.toInt32)), (.int ((p2 &&& (3 : Int32)) + (3 : Int32))), (.ref b4)])) _
    refine st16 _ ?_
    show Steps p.tables e below (T16.setTop (mkF m 126 #[.val (.int p1), .val (.int p2), .val (.int p3), .val (.int (p2 &&& (3 : Int32))), .val (.int (p3 ^^^ (-1 : Int32))), .val (.ref b4)] [])) _
    refine XS.aload X16.here hx rfl (hb hby at_126) rfl rfl ?_
    show Steps p.tables e below (T16.setTop (mkF m 128 #[.val (.int p1), .val (.int p2), .val (.int p3), .val (.int (p2 &&& (3 : Int32))), .val (.int (p3 ^^^ (-1 : Int32))), .val (.ref b4)] [(.ref b4)])) _
    refine XS.iloadN X16.here hx rfl (hb hby at_128) rfl ?_
    show Steps p.tables e below (T16.setTop (mkF m 129 #[.val (.int p1), .val (.int p2), .val (.int p3), .val (.int (p2 &&& (3 : Int32))), .val (.int (p3 ^^^ (-1 : Int32))), .val (.ref b4)] [(.int (p2 &&& (3 : Int32))), (.ref b4)])) _
    refine st17 _ ?_
    show Steps p.tables e below (T17.setTop (mkF m 132 #[.val (.int p1), .val (.int p2), .val (.int p3), .val (.int (p2 &&& (3 : Int32))), .val (.int (p3 ^^^ (-1 : Int32))), .val (.ref b4)] [(.int (((((nar .byte (p1.toInt8.toInt32)) &&& (255 : Int32)) ||| (((nar .byte (((p1.toUInt32 >>> ((8 : Int32) &&& 31).toUInt32).toInt32).toInt8.toInt32)) &&& (255 : Int32)) <<< ((8 : Int32) &&& 31))) ||| (((nar .byte (((p1.toUInt32 >>> ((16 : Int32) &&& 31).toUInt32).toInt32).toInt8.toInt32)) &&& (255 : Int32)) <<< ((16 : Int32) &&& 31))) ||| (((nar .byte (((p1.toUInt32 >>> ((24 : Int32) &&& 31).toUInt32).toInt32).toInt8.toInt32)) &&& (255 : Int32)) <<< ((24 : Int32) &&& 31))))])) _
    refine XS.iloadN X17.here hx rfl (hb hby at_132) rfl ?_
    show Steps p.tables e below (T17.setTop (mkF m 133 #[.val (.int p1), .val (.int p2), .val (.int p3), .val (.int (p2 &&& (3 : Int32))), .val (.int (p3 ^^^ (-1 : Int32))), .val (.ref b4)] [(.int p1), (.int (((((nar .byte (p1.toInt8.toInt32)) &&& (255 : Int32)) ||| (((nar .byte (((p1.toUInt32 >>> ((8 : Int32) &&& 31).toUInt32).toInt32).toInt8.toInt32)) &&& (255 : Int32)) <<< ((8 : Int32) &&& 31))) ||| (((nar .byte (((p1.toUInt32 >>> ((16 : Int32) &&& 31).toUInt32).toInt32).toInt8.toInt32)) &&& (255 : Int32)) <<< ((16 : Int32) &&& 31))) ||| (((nar .byte (((p1.toUInt32 >>> ((24 : Int32) &&& 31).toUInt32).toInt32).toInt8.toInt32)) &&& (255 : Int32)) <<< ((24 : Int32) &&& 31))))])) _
    refine XS.icmpNo X17.here hx rfl (hb hby at_133) rfl (teq (own_le p1 : (((((nar .byte (p1.toInt8.toInt32)) &&& (255 : Int32)) ||| (((nar .byte (((p1.toUInt32 >>> ((8 : Int32) &&& 31).toUInt32).toInt32).toInt8.toInt32)) &&& (255 : Int32)) <<< ((8 : Int32) &&& 31))) ||| (((nar .byte (((p1.toUInt32 >>> ((16 : Int32) &&& 31).toUInt32).toInt32).toInt8.toInt32)) &&& (255 : Int32)) <<< ((16 : Int32) &&& 31))) ||| (((nar .byte (((p1.toUInt32 >>> ((24 : Int32) &&& 31).toUInt32).toInt32).toInt8.toInt32)) &&& (255 : Int32)) <<< ((24 : Int32) &&& 31))) = p1)).2 ?_
    show Steps p.tables e below (T17.setTop (mkF m 136 #[.val (.int p1), .val (.int p2), .val (.int p3), .val (.int (p2 &&& (3 : Int32))), .val (.int (p3 ^^^ (-1 : Int32))), .val (.ref b4)] [])) _
    refine XS.iconst X17.here hx rfl (hb hby at_136) ?_
    show Steps p.tables e below (T17.setTop (mkF m 137 #[.val (.int p1), .val (.int p2), .val (.int p3), .val (.int (p2 &&& (3 : Int32))), .val (.int (p3 ^^^ (-1 : Int32))), .val (.ref b4)] [(.int (1 : Int32))])) _
    refine XS.goto X17.here hx rfl (pc0 := 137) (pc' := 141) rfl (hb hby at_137) (by decide) (by decide) ?_
    show Steps p.tables e below (T17.setTop (mkF m 141 #[.val (.int p1), .val (.int p2), .val (.int p3), .val (.int (p2 &&& (3 : Int32))), .val (.int (p3 ^^^ (-1 : Int32))), .val (.ref b4)] [(.int (1 : Int32))])) _
    exact retN X17 hx (t := .boolean) Bd.returns (by simp) (hb hby at_141) hr
  · show Q0 Z p1 p2 p3 n h0 n0 _ T17.heap _
    exact ⟨rfl, N17⟩
theorem rm0 (l : Launch) (Z : State) (a0 : Array Value) (hw : ∀ d ∈ tables_1, d.before a0 Z = true) (ws : List Jvm.Cond) (p1 : Int32) (p2 : Int32) (p3 : Int32) (h0 : Heap) (n0 : Nat) (Z0 : n0 ≤ h0.size) :
    MetFree l x (head1 (Jvm.Cond.code x code maxLocals ret :: ws) room_1) (fun a U => a = #[(.int p1), (.int p2), (.int p3)] ∧ Z.Warmed39 U.vm ∧ U.heap = h0) (fun _ _ _ _ _ => True) (fun _ U o U' => ∃ v L, o = .returned v ∧ Q0 Z p1 p2 p3 0 h0 n0 v U'.heap L ∧ FrameEnd U o U' L room_1.cells room_1.slots) := by
  obtain ⟨n, hn, ixn⟩ := own_mask3 p2
  exact rm0n l Z a0 hw ws p1 p2 p3 n h0 n0 Z0 ixn hn
set_option maxRecDepth 65536 in
set_option maxHeartbeats 40000000 in
theorem comes_1 {Post : Tables → Env → Array Value → State → Outcome → State → Prop} (hpost : ∀ tb e args s v u, (limb_1_1.after args s (.returned v) u = true ∧ limb_1_2.after args s (.returned v) u = true ∧ True) → FrameEnd s (.returned v) u (Jvm.fieldLocs frame_1_writes args s ++ Jvm.arrayLocs frame_1_arrays args s ++ Jvm.staticLocs frame_1_statics s) 16 128 → Post tb e args s (.returned v) u) :
    ArmFor flags0 classFile x code maxLocals ret World_1 tables_1 room_1 Calls_1 rest_1 Pre_1 Post := by
  intro l hfl _ _ p e ha hc hk s m args below hf hA hF happ hP
  obtain ⟨hcalls, hrest, hpre⟩ := hP
  obtain ⟨-, -, -, hnamed, -, -, -, hat⟩ := (Spec.applies_iff hf).mp happ
  obtain ⟨hg, hn⟩ := and_e (Cond.before_iff.mp (show (Jvm.Cond.and given_1 narrow_1).before args s = true from hpre))
  obtain ⟨g18, g19⟩ := and_e hg
  obtain ⟨g20, g21⟩ := and_e g19
  obtain ⟨g22, g23⟩ := and_e g21
  obtain ⟨w0, w1, w2, rfl⟩ : ∃ w0 w1 w2 : Value, args = #[w0, w1, w2] := by
    have hs : args.size = 3 := by simpa [Cond.value, given_1] using g18
    obtain ⟨L⟩ := args
    match L, hs with
    | [w0, w1, w2], _ => exact ⟨w0, w1, w2, rfl⟩
  have hw := fun d (hd : d ∈ tables_1) => atoms_spec (ws := Jvm.Cond.code x code maxLocals ret :: tables_1) hat d (List.mem_cons_of_mem _ hd)
  have hfit : Fit s := fun {y c} hc i hi => by
    obtain ⟨ha, rfl⟩ := Array.getElem?_eq_some_iff.mp hc
    have q := List.all_eq_true.mp ((Array.all_eq_true_iff_forall_mem.mp hF) _ (Array.getElem_mem ha)) i (List.mem_range.mpr hi)
    simpa [Array.getElem?_eq_getElem hi] using q
  obtain ⟨i0, ei0⟩ := is_v g20
  obtain rfl : w0 = (.int i0) := Option.some.inj ei0
  obtain ⟨i1, ei1⟩ := is_v g22
  obtain rfl : w1 = (.int i1) := Option.some.inj ei1
  obtain ⟨i2, ei2⟩ := is_v g23
  obtain rfl : w2 = (.int i2) := Option.some.inj ei2
  obtain ⟨n, o, h1, h2, h3, _, L, rfl, ⟨rfl, N⟩, hq⟩ := rm0 l s _ hw tables_1 i0 i1 i2 s.heap s.heap.size (Nat.le_refl _) p e ha hc hk s m _ below hf ((Spec.applies_iff_loose hf).mp happ).1 ⟨rfl, State.Warmed39.refl s, rfl⟩ trivial
  refine ⟨n, _, h1, h2, h3, hpost _ _ _ _ _ _ ⟨Cond.after_iff.mpr rfl, Cond.after_iff.mpr (eq_i res_at (Term.int_eval (1)) rfl), trivial⟩ ⟨hq.1, hq.2.1, (hq.2.2.sift fun y hy => Or.inr (N y hy)).mono (by decide) (by decide)⟩⟩
theorem main_1_1 : Claimed_1_1 := comes_1 fun _ _ _ _ _ _ h hF => ⟨h.1, hF⟩
theorem main_1_2 : Claimed_1_2 := comes_1 fun _ _ _ _ _ _ h hF => ⟨h.2.1, hF⟩
end Jvm.Pilot.@@N@@
namespace Jvm.Pilot.@@N@@
open Jvm Jvm.ClassFile Sem Op Lib Jvm.Free Jvm.Stand Jvm.Pilot.@@N@@.Jvm.D
/-! MADE BY PROGRAM (witnessworld.py) out of the Statement's table words and the real class files: 9 classes; the members and pool entries that the words name. The judged class is class 1, her method 1. -/
namespace start1
open Jvm.ClassFile
def u (s : String) : CpInfo := .utf8 (stringToUtf16 s)
/-- a pool by its gaps: so many unusable entries, then the entry; so many at the end -/
def gap : Nat → List CpInfo → List CpInfo
  | 0, r => r
  | n + 1, r => .unusable :: gap n r
def poolList (es : List (Nat × CpInfo)) (last : Nat) : List CpInfo := es.foldr (fun e r => gap e.1 (e.2 :: r)) (gap last [])
def pool (es : List (Nat × CpInfo)) (last : Nat) : Array CpInfo := ⟨poolList es last⟩
def fileOf (pool : Array CpInfo) (this : Nat) (attrs : Array Attribute := #[]) (ms : Array MethodInfo := #[]) (fl : Nat := 33) (sup : Nat := 0) (ifs : Array Nat := #[]) (fds : Array FieldInfo := #[]) : ClassFile where
  minorVersion := 0
  majorVersion := 65
  constantPool := pool
  accessFlags := fl
  thisClass := this
  superClass := sup
  interfaces := ifs
  fields := fds
  methods := ms
  attributes := attrs
def plain (name : String) (sup : Option ClassId) : Class where
  name := name
  kind := .ordinary
  loader := none
  accessFlags := 33
  super := sup
  interfaces := #[]
  cf := none
  fields := #[]
  methods := #[]
  instanceTypes := #[]
  staticTypes := #[]
  resolved := #[]
  callSites := []
  init := .initialized
  statics := none
  mirror := none

def pool0 : Array CpInfo := pool [(5, u "<init>"), (0, u "()V"), (1, .class_ 10), (1, u "java/lang/Object")] 113

def k0m0 : Method := { name := "<init>", desc := "()V", sig := { parameters := [], returnType := none }, accessFlags := 1, code := none }
/-- java/lang/Object -/
def k0 : Class := { plain "java/lang/Object" none with
  accessFlags := 33
  interfaces := #[]
  cf := some (fileOf pool0 8 #[] #[{ accessFlags := 1, nameIndex := 5, descriptorIndex := 6, attributes := #[] }] 33 0 #[] #[])
  fields := #[]
  methods := #[k0m0]
  instanceTypes := #[]
  staticTypes := #[]
  resolved := Array.replicate 124 none
  statics := none }

def pool1 : Array CpInfo := pool [(2, .class_ 4), (1, u "java/lang/Object"), (0, u "<init>"), (0, u "()V"), (0, .methodref 8 9), (0, .class_ 10), (0, .nameAndType 11 12), (0, u "com/example/ferrule/ferrule/bench/HandWritten"), (0, u "littleEndianInt"), (0, u "([BI)I"), (0, .class_ 14), (0, u "com/example/ferrule/ferrule/bench/HandWrittenLittleEndianIntPinLaw"), (2, u "law"), (0, u "(III)Z")] 5

def k1m0 : Method := { name := "<init>", desc := "()V", sig := { parameters := [], returnType := none }, accessFlags := 2, code := none }
def k1c1 : Code := { maxStack := 4, maxLocals := 6, code := code, exceptionTable := #[], attributes := #[] }
def k1m1 : Method := { name := "law", desc := "(III)Z", sig := { parameters := [.int, .int, .int], returnType := some .boolean }, accessFlags := 9, code := some k1c1 }
/-- com/example/ferrule/ferrule/bench/HandWrittenLittleEndianIntPinLaw -/
def k1 : Class := { plain "com/example/ferrule/ferrule/bench/HandWrittenLittleEndianIntPinLaw" (some 0) with
  accessFlags := 49
  interfaces := #[]
  cf := some (fileOf pool1 13 #[] #[{ accessFlags := 2, nameIndex := 5, descriptorIndex := 6, attributes := #[] }, { accessFlags := 9, nameIndex := 17, descriptorIndex := 18, attributes := #[] }] 49 2 #[] #[])
  fields := #[]
  methods := #[k1m0, k1m1]
  instanceTypes := #[]
  staticTypes := #[]
  resolved := Array.replicate 24 none
  statics := none }

def pool2 : Array CpInfo := pool [(4, .class_ 6), (1, u "java/lang/Object"), (0, u "<init>"), (0, u "()V"), (9, .class_ 19), (0, u "com/example/ferrule/ferrule/bench/HandWritten"), (18, u "BUFFER_SIZE"), (0, u "I"), (1, u "MAX_ARRAY_LENGTH"), (12, u "([BI)I"), (0, u "littleEndianInt")] 2

def k2m0 : Method := { name := "<init>", desc := "()V", sig := { parameters := [], returnType := none }, accessFlags := 2, code := none }
def k2c1 : Code := { maxStack := 4, maxLocals := 2, code := prog_29_method_5_code, exceptionTable := #[], attributes := #[] }
def k2m1 : Method := { name := "littleEndianInt", desc := "([BI)I", sig := { parameters := [(.array .byte), .int], returnType := some .int }, accessFlags := 8, code := some k2c1 }
/-- com/example/ferrule/ferrule/bench/HandWritten -/
def k2 : Class := { plain "com/example/ferrule/ferrule/bench/HandWritten" (some 0) with
  accessFlags := 48
  interfaces := #[]
  cf := some (fileOf pool2 18 #[] #[{ accessFlags := 2, nameIndex := 7, descriptorIndex := 8, attributes := #[] }, { accessFlags := 8, nameIndex := 55, descriptorIndex := 54, attributes := #[] }] 48 4 #[] #[{ accessFlags := 24, nameIndex := 38, descriptorIndex := 39, attributes := #[] }, { accessFlags := 24, nameIndex := 41, descriptorIndex := 39, attributes := #[] }])
  fields := #[{ name := "BUFFER_SIZE", type := .int, accessFlags := 24, slot := 0, constantValue := 0 }, { name := "MAX_ARRAY_LENGTH", type := .int, accessFlags := 24, slot := 1, constantValue := 0 }]
  methods := #[k2m0, k2m1]
  instanceTypes := #[]
  staticTypes := #[.int, .int]
  resolved := Array.replicate 58 none
  statics := none }

def pool3 : Array CpInfo := pool [(1, u "java/lang/Cloneable"), (0, .class_ 1), (0, u "java/lang/Object"), (0, .class_ 3)] 3

/-- java/lang/Cloneable -/
def k3 : Class := { plain "java/lang/Cloneable" (some 0) with
  accessFlags := 1537
  interfaces := #[]
  cf := some (fileOf pool3 2 #[] #[] 1537 4 #[] #[])
  fields := #[]
  methods := #[]
  instanceTypes := #[]
  staticTypes := #[]
  resolved := Array.replicate 8 none
  statics := none }

def pool4 : Array CpInfo := pool [(1, u "java/io/Serializable"), (0, .class_ 1), (0, u "java/lang/Object"), (0, .class_ 3)] 3

/-- java/io/Serializable -/
def k4 : Class := { plain "java/io/Serializable" (some 0) with
  accessFlags := 1537
  interfaces := #[]
  cf := some (fileOf pool4 2 #[] #[] 1537 4 #[] #[])
  fields := #[]
  methods := #[]
  instanceTypes := #[]
  staticTypes := #[]
  resolved := Array.replicate 8 none
  statics := none }

/-- the primitive byte -/
def k5 : Class := { plain "byte" none with kind := .primitive 'B', accessFlags := 0x411 }
/-- [B -/
def k6 : Class := { plain "[B" (some 0) with kind := .array 5 .byte, interfaces := #[3, 4], accessFlags := 1041 }

/-- the primitive int -/
def k7 : Class := { plain "int" none with kind := .primitive 'I', accessFlags := 0x411 }
/-- [I -/
def k8 : Class := { plain "[I" (some 0) with kind := .array 7 .int, interfaces := #[3, 4], accessFlags := 1041 }

def heap : Heap := #[]
def classes : Array Class := #[k0, k1, k2, k3, k4, k5, k6, k7, k8]
def interned : List (Array UInt16 × Addr) := []
def slotsUsed : Nat := 0
def theMethod : MethodId := ⟨1, 1⟩
def args0 : Array Value := #[.int 70, .int 2, .int 9]
def aboutOver (below : List Frame) : State where
  vm := { classes := classes, interned := interned.toArray }
  heap := heap
  slotsUsed := slotsUsed
  threads := #[{ frames := .invoking theMethod args0 :: below }]
def below0 : List Frame := [.native { method := ⟨0, 0⟩, args := #[] }]
def about1 : State := aboutOver below0
def p0 : Program := .bare "" "" ""
def e0 : Env := launch0.env 0 0 0
theorem w_frames : about1.frames = Frame.invoking theMethod args0 :: below0 := rfl
set_option maxRecDepth 65536 in
theorem w_args : argsFit about1.vm theMethod args0 = true := by decide +kernel
set_option maxRecDepth 65536 in
theorem w_heap : heapFits about1 = true := by decide +kernel
set_option maxRecDepth 65536 in
theorem w_runnable : about1.curStatus? = some .runnable := by decide +kernel
set_option maxRecDepth 65536 in
theorem w_alone : about1.alone = true := by decide +kernel
set_option maxRecDepth 65536 in
theorem w_named : about1.methodNamed? x = some theMethod := by decide +kernel
set_option maxRecDepth 65536 in
theorem w_hears : about1.hears theMethod below0 = true := by decide +kernel
set_option maxRecDepth 65536 in
theorem w_ripe : about1.ripe theMethod args0 below0 = true := by decide +kernel
theorem w_running : about1.status = .running := rfl
set_option maxRecDepth 65536 in
theorem w_room : about1.hasRoom e0.platform room_1 = true :=
  launch0.hasRoom_least _ room_1 (by decide +kernel) (by decide +kernel) (by decide +kernel) (by decide +kernel) (by decide +kernel) (by decide +kernel)
theorem allAtoms_all (ts : List Jvm.Cond) (a : Array Jvm.Value) (st : Jvm.State) : (allAtoms ts).before a st = ts.all (fun c => c.before a st) := by
  induction ts with
  | nil => rfl
  | cons c t ih =>
    show (Jvm.Cond.and c (allAtoms t)).before a st = _
    rw [Jvm.Cond.before_and, ih, List.all_cons]
def words1 : List Jvm.Cond := Jvm.Cond.code x code maxLocals ret :: tables_1
/-- a 'code' word, met by the world's own term for the bytes: nothing is compared byte by byte -/
theorem code_word {y : MethodName} {bytes : ByteArray} {mx : Nat} {rt : Option FieldType} {a : Array Value} {s : State} {m : MethodId} {meth : Method} {c : Code} (h1 : s.methodNamed? y = some m) (h2 : s.vm.method? m = some meth) (h3 : meth.code = some c) (h4 : c.code = bytes)
    (h5 : (c.maxLocals == mx && c.exceptionTable.isEmpty && decide (c.maxStack ≤ mostOperands) && decide (meth.sig.returnType = rt) && !meth.locks && decide (parseMethodDescriptor y.desc = some meth.sig)) = true) : (Jvm.Cond.code y bytes mx rt).before a s = true := by
  simp only [Bool.and_eq_true, beq_iff_eq, Bool.not_eq_true', decide_eq_true_eq] at h5
  obtain ⟨⟨⟨⟨⟨g1, g2⟩, g3⟩, g4⟩, g5⟩, g6⟩ := h5
  simp [Cond.before, Cond.holds, Cond.value, h1, h2, h3, h4, g1, g2, g3, g4, g5, g6]
def isCode : Jvm.Cond → Bool
  | .code _ _ _ _ => true
  | _ => false
theorem all_split {L : List Jvm.Cond} {P : Jvm.Cond → Bool} (h1 : L.all (fun c => isCode c || P c) = true) (h2 : ∀ c ∈ L.filter isCode, P c = true) : L.all P = true := by
  refine List.all_eq_true.mpr fun c hc => ?_
  have h := List.all_eq_true.mp h1 c hc
  rcases Bool.eq_false_or_eq_true (isCode c) with hi | hi
  · exact h2 c (List.mem_filter.mpr ⟨hc, hi⟩)
  · simpa [hi] using h
set_option maxRecDepth 65536 in
theorem w_c0 : (Jvm.Cond.code x code maxLocals ret).before args0 about1 = true := code_word (m := ⟨1, 1⟩) (meth := k1m1) (c := k1c1) (by decide +kernel) rfl rfl rfl (by decide +kernel)
set_option maxRecDepth 65536 in
theorem w_c1 : (Jvm.Cond.code ({ cls := "com/example/ferrule/ferrule/bench/HandWritten", name := "littleEndianInt", desc := "([BI)I" } : Jvm.MethodName) prog_29_method_5_code (2 : Nat) (Option.some Jvm.ClassFile.FieldType.int)).before args0 about1 = true := code_word (m := ⟨2, 1⟩) (meth := k2m1) (c := k2c1) (by decide +kernel) rfl rfl rfl (by decide +kernel)
def codes1 : List Jvm.Cond := [Jvm.Cond.code x code maxLocals ret, Jvm.Cond.code ({ cls := "com/example/ferrule/ferrule/bench/HandWritten", name := "littleEndianInt", desc := "([BI)I" } : Jvm.MethodName) prog_29_method_5_code (2 : Nat) (Option.some Jvm.ClassFile.FieldType.int)]
set_option maxRecDepth 65536 in
theorem codes_eq : words1.filter isCode = codes1 := rfl
theorem w_codes : ∀ c ∈ words1.filter isCode, c.before args0 about1 = true := by
  rw [codes_eq]
  intro c hc
  simp only [codes1, List.mem_cons, List.not_mem_nil, or_false] at hc
  rcases hc with rfl | rfl
  · exact w_c0
  · exact w_c1
set_option maxRecDepth 65536 in
theorem w_t1 : words1.all (fun c => isCode c || c.before args0 about1) = true := by decide +kernel
theorem w_tables : (allAtoms (Jvm.Cond.code x code maxLocals ret :: tables_1)).before args0 about1 = true := by
  rw [allAtoms_all]
  show words1.all (fun c => c.before args0 about1) = true
  refine all_split ?_ w_codes
  rw [w_t1]
set_option maxRecDepth 65536 in
theorem w_case : (Jvm.Cond.and given_1 narrow_1).before args0 about1 = true := by decide +kernel
theorem w_applies : (headSpec (Jvm.Cond.code x code maxLocals ret :: tables_1) room_1).applies x e0.platform about1 = true :=
  (Spec.applies_iff w_frames).mpr ⟨w_running, w_runnable, w_alone, w_named, w_hears, w_ripe, w_room, w_tables⟩
theorem atStart : AtStart classFile x code maxLocals ret World_1 tables_1 room_1 Calls_1 rest_1 Pre_1 launch0 p0 e0 about1 theMethod args0 below0 :=
  ⟨lists_1, trivial, launch0.admits_env _ _ _, launch0.least_env, fairChoices_fair.cas, fairChoices_fair.clock, w_frames, w_args, w_heap, w_applies, trivial, trivial, w_case⟩
end start1
theorem witness_1 : WitnessClaimed_1 := ⟨start1.p0, start1.e0, start1.about1, start1.theMethod, start1.args0, start1.below0, start1.atStart⟩
end Jvm.Pilot.@@N@@
