import JvmDerived
import JvmDerived.Pilot.@@N@@Statement
import JvmDerived.Pilot.@@N@@Code
set_option linter.unusedVariables false
set_option linter.unusedSimpArgs false
@@BLOCK:NumsL.lean.txt@@
namespace Jvm.RoadKit
open Sem ClassFile Op Lib Jvm.Stand Jvm.Free Jvm.LawKit
section New
variable {p : Program} {l : Launch} {e : Env} {R : Room} {s : State} {m : MethodId} {args : Array Value} {below : List Frame} {meth : Method} {c : Code} {T : State} {locs : List Loc} {cells slots : Nat}
theorem retI (X : Stand p l e R s m args below meth c T locs cells slots) (hx : p.tables.exec = Jvm.exec) {pc : Nat} {Ls : Array Slot} {z : Int32} {rest : List Value} (hret : meth.sig.returnType = some .int) (hd : decode c.code pc = .ok (.ireturn, 1)) {fs : List Frame}
    (hl : ∀ (f : JFrame) (acts : List Action), f.method = m → f.locked = none → f.entered = [] → (doReturn e (T.setTop f) acts (some (.int z))).1 = T.setFrames fs) : Steps p.tables e below (T.setTop (mkF m pc Ls (.int z :: rest))) (T.setFrames fs) := by
  have hm' : T.vm.method? m = some meth := X.method'
  have hn : narrow .int (.int z) = .int z := rfl
  show Steps p.tables e below (T.setTop { method := m, pc := pc, locals := Ls, stack := _ :: rest, locked := none }) _
  jvm_step X.here [X.here.top, hx, hd, hm', hret, hn]
  first | (intro acts; rw [hl _ acts rfl rfl rfl]) | rw [hl _ _ rfl rfl rfl]
  exact Steps.refl _
end New
end Jvm.RoadKit
namespace Jvm.Pilot.@@N@@
open Jvm Jvm.ClassFile Sem Op Lib Jvm.Free Jvm.Stand Jvm.LawKit Jvm.RoadKit Bundle Jvm.Pilot.@@N@@.Jvm.D
theorem own_nn (x : Int32) : nar .char (x.toUInt32.toUInt16.toUInt32.toInt32) = x.toUInt32.toUInt16.toUInt32.toInt32 := by
  simp only [nar, UInt32.toUInt32_toInt32, UInt16.toUInt16_toUInt32]
theorem own_rg (x : Int32) : 0 ≤ (x.toUInt32.toUInt16.toUInt32.toInt32).toInt ∧ (x.toUInt32.toUInt16.toUInt32.toInt32).toInt < 65536 := by
  generalize x.toUInt32.toUInt16 = c
  have h : (c.toUInt32.toInt32).toInt = c.toNat := by
    have hc := c.toNat_lt
    show c.toUInt32.toBitVec.toInt = _
    rw [BitVec.toInt_eq_toNat_of_lt]
    · simp
    · have : c.toUInt32.toBitVec.toNat = c.toNat := by simp
      rw [this]; omega
  have hc := c.toNat_lt
  omega
theorem own_up {z : Int32} (h1 : ¬ (z < (65 : Int32))) (h2 : ¬ ((90 : Int32) < z)) :
    ((z - (65 : Int32)) &&& (65535 : Int32)) < (26 : Int32) ∧ nar .char ((z + (32 : Int32)).toUInt32.toUInt16.toUInt32.toInt32) = ((z ||| (32 : Int32)).toUInt32.toUInt16.toUInt32.toInt32) ∧ (90 : Int32) < nar .char ((z + (32 : Int32)).toUInt32.toUInt16.toUInt32.toInt32) := by
  rw [Int32.lt_iff_toInt_lt] at h1 h2
  have e1 : (65 : Int32).toInt = 65 := rfl
  have e2 : (90 : Int32).toInt = 90 := rfl
  have hz : z = Int32.ofInt z.toInt := (Int32.ofInt_toInt z).symm
  have hk : z.toInt = 65 ∨ z.toInt = 66 ∨ z.toInt = 67 ∨ z.toInt = 68 ∨ z.toInt = 69 ∨ z.toInt = 70 ∨ z.toInt = 71 ∨ z.toInt = 72 ∨ z.toInt = 73 ∨ z.toInt = 74 ∨ z.toInt = 75 ∨ z.toInt = 76 ∨ z.toInt = 77 ∨ z.toInt = 78 ∨ z.toInt = 79 ∨ z.toInt = 80 ∨ z.toInt = 81 ∨ z.toInt = 82 ∨ z.toInt = 83 ∨ z.toInt = 84 ∨ z.toInt = 85 ∨ z.toInt = 86 ∨ z.toInt = 87 ∨ z.toInt = 88 ∨ z.toInt = 89 ∨ z.toInt = 90 := by omega
  generalize z.toInt = k at hz hk
  subst hz
  rcases hk with rfl | rfl | rfl | rfl | rfl | rfl | rfl | rfl | rfl | rfl | rfl | rfl | rfl | rfl | rfl | rfl | rfl | rfl | rfl | rfl | rfl | rfl | rfl | rfl | rfl | rfl <;> decide +kernel
theorem own_out {z : Int32} (h0 : 0 ≤ z.toInt ∧ z.toInt < 65536) (h : z < (65 : Int32) ∨ (90 : Int32) < z) : ¬ (((z - (65 : Int32)) &&& (65535 : Int32)) < (26 : Int32)) := by
  have e1 : (65 : Int32).toInt = 65 := rfl
  have e2 : (90 : Int32).toInt = 90 := rfl
  have e3 : (26 : Int32).toInt = 26 := rfl
  have m1 : ((z - (65 : Int32)) &&& (65535 : Int32)).toInt = (z - (65 : Int32)).toInt % 2 ^ 16 := Jvm.Kit.i32_mask (z - (65 : Int32)) 65535 (k := 16) (by decide) (by decide)
  have m2 : (z - (65 : Int32)).toInt = z.toInt - 65 := by
    rw [Int32.toInt_sub, e1]; exact Int.bmod_eq_of_le (by omega) (by omega)
  rw [Int32.lt_iff_toInt_lt, m1, m2]
  rw [Int32.lt_iff_toInt_lt, Int32.lt_iff_toInt_lt] at h
  omega
theorem d1_0 : decode prog_19_method_2_code 0 = .ok (.iload_n 0, 1) := by decide +kernel
theorem d1_1 : decode prog_19_method_2_code 1 = .ok (.istore_n 1, 1) := by decide +kernel
theorem d1_2 : decode prog_19_method_2_code 2 = .ok (.iload_n 0, 1) := by decide +kernel
theorem d1_3 : decode prog_19_method_2_code 3 = .ok (.bipush 65, 2) := by decide +kernel
theorem d1_5 : decode prog_19_method_2_code 5 = .ok (.if_icmp .lt 15, 3) := by decide +kernel
theorem d1_20 : decode prog_19_method_2_code 20 = .ok (.iload_n 1, 1) := by decide +kernel
theorem d1_21 : decode prog_19_method_2_code 21 = .ok (.ireturn, 1) := by decide +kernel
theorem pn_1 : plainName "com/example/speicher/speicher/schema/TextGrams" = true := by first | (simp [plainName, overriddenIn]; done) | decide +kernel
theorem ef_1 (m : MethodId) (x0 : Int32) : entryFrame m #[(.int x0)] 2 = mkF m 0 #[.val (.int x0), .unset] [] := by first | (simp [entryFrame, mkF, argsToLocals, Value.category]; done) | rfl
def Q1t (Z : State) (p1 : Int32) (h0 : Heap) (n0 : Nat) (v : Option Value) (h : Heap) (L : List Loc) : Prop := v = some (.int (nar .char p1)) ∧ Fr n0 L ∧ h = h0
set_option maxRecDepth 65536 in
set_option maxHeartbeats 40000000 in
theorem rm1t (l : Launch) (Z : State) (a0 : Array Value) (hw : ∀ d ∈ tables_1, d.before a0 Z = true) (ws : List Jvm.Cond) (p1 : Int32) (h0 : Heap) (n0 : Nat) (Z0 : n0 ≤ h0.size) (hc5 : p1 < (65 : Int32)) :
    MetFree l (⟨"com/example/speicher/speicher/schema/TextGrams", "fold", "(C)C"⟩ : MethodName) (head1 (Jvm.Cond.code (⟨"com/example/speicher/speicher/schema/TextGrams", "fold", "(C)C"⟩ : MethodName) prog_19_method_2_code 2 (some .char) :: ws) ({ frames := 0, cells := 0, slots := 0, locals := 0 } : Room)) (fun a U => a = #[(.int p1)] ∧ Z.Warmed39 U.vm ∧ U.heap = h0) (fun _ _ _ _ _ => True) (fun _ U o U' => ∃ v L, o = .returned v ∧ Q1t Z p1 h0 n0 v U'.heap L ∧ FrameEnd U o U' L ({ frames := 0, cells := 0, slots := 0, locals := 0 } : Room).cells ({ frames := 0, cells := 0, slots := 0, locals := 0 } : Room).slots) := by
  refine MetFree.of_bodySF (plainFor_of_name pn_1) hisR ?_
  intro p e s m args below meth c s₁ Bd hml0 hP hK
  obtain ⟨rfl, hZ, hh⟩ := hP
  have hx := Bd.exec
  have hby := Bd.bytes
  have hml : c.maxLocals = 2 := hml0
  have hown : s.vm.findClass "com/example/speicher/speicher/schema/TextGrams" = some m.cls := findClass_of_methodNamed Bd.named
  have hnm := (name_of_methodNamed Bd.named Bd.method).1
  have X0 : Stand p l e ({ frames := 0, cells := 0, slots := 0, locals := 0 } : Room) s m #[(.int p1)] below meth c s₁ [] 0 0 := Stand.of_body Bd
  have e0 : s₁.heap = h0 := by rw [← hh, Bd.state]; rfl
  have N0 := Fr.nil n0
  have pre0 : ∀ t, Steps p.tables e below (s₁.setTop (mkF m 0 #[.val (.int p1), .unset] [])) t → Steps p.tables e below (s₁.setTop (entryFrame m #[(.int p1)] 2)) t := fun t k => castTop (ef_1 m p1) k
  obtain ⟨fs, hr, hrun, hended, hW, hsame⟩ := X0.leave (v := some (.int (nar .char p1))) (fun h => by rw [Bd.returns] at h; cases h)
  refine ⟨_, _, pre0 _ ?_, hrun, hended, _, _, rfl, ?_, ⟨_, rfl⟩, hW, hsame.mono (by decide) (by decide)⟩
  · show Steps p.tables e below (s₁.setTop (mkF m 0 #[.val (.int p1), .unset] [])) _
    refine XS.iloadN X0.here hx rfl (hb hby d1_0) rfl ?_
    show Steps p.tables e below (s₁.setTop (mkF m 1 #[.val (.int p1), .unset] [(.int p1)])) _
    refine XS.istoreN X0.here hx rfl (hb hby d1_1) rfl (l' := #[.val (.int p1), .val (.int p1)]) rfl ?_
    show Steps p.tables e below (s₁.setTop (mkF m 2 #[.val (.int p1), .val (.int p1)] [])) _
    refine XS.iloadN X0.here hx rfl (hb hby d1_2) rfl ?_
    show Steps p.tables e below (s₁.setTop (mkF m 3 #[.val (.int p1), .val (.int p1)] [(.int p1)])) _
    refine XS.bipush X0.here hx rfl (hb hby d1_3) ?_
    show Steps p.tables e below (s₁.setTop (mkF m 5 #[.val (.int p1), .val (.int p1)] [(.int (65 : Int32)), (.int p1)])) _
    refine XS.icmpYes X0.here hx rfl (pc0 := 5) (pc' := 20) rfl (hb hby d1_5) rfl (tlt hc5).1 (by decide) (by decide) ?_
    show Steps p.tables e below (s₁.setTop (mkF m 20 #[.val (.int p1), .val (.int p1)] [])) _
    refine XS.iloadN X0.here hx rfl (hb hby d1_20) rfl ?_
    show Steps p.tables e below (s₁.setTop (mkF m 21 #[.val (.int p1), .val (.int p1)] [(.int p1)])) _
    exact retN X0 hx (t := .char) Bd.returns (by simp) (hb hby d1_21) hr
  · show Q1t Z p1 h0 n0 _ s₁.heap _
    rw [e0]
    exact ⟨rfl, N0, rfl⟩
theorem d1_8 : decode prog_19_method_2_code 8 = .ok (.iload_n 0, 1) := by decide +kernel
theorem d1_9 : decode prog_19_method_2_code 9 = .ok (.bipush 90, 2) := by decide +kernel
theorem d1_11 : decode prog_19_method_2_code 11 = .ok (.if_icmp .gt 9, 3) := by decide +kernel
def Q1ft (Z : State) (p1 : Int32) (h0 : Heap) (n0 : Nat) (v : Option Value) (h : Heap) (L : List Loc) : Prop := v = some (.int (nar .char p1)) ∧ Fr n0 L ∧ h = h0
set_option maxRecDepth 65536 in
set_option maxHeartbeats 40000000 in
theorem rm1ft (l : Launch) (Z : State) (a0 : Array Value) (hw : ∀ d ∈ tables_1, d.before a0 Z = true) (ws : List Jvm.Cond) (p1 : Int32) (h0 : Heap) (n0 : Nat) (Z0 : n0 ≤ h0.size) (hc5 : ¬ (p1 < (65 : Int32))) (hc11 : (90 : Int32) < p1) :
    MetFree l (⟨"com/example/speicher/speicher/schema/TextGrams", "fold", "(C)C"⟩ : MethodName) (head1 (Jvm.Cond.code (⟨"com/example/speicher/speicher/schema/TextGrams", "fold", "(C)C"⟩ : MethodName) prog_19_method_2_code 2 (some .char) :: ws) ({ frames := 0, cells := 0, slots := 0, locals := 0 } : Room)) (fun a U => a = #[(.int p1)] ∧ Z.Warmed39 U.vm ∧ U.heap = h0) (fun _ _ _ _ _ => True) (fun _ U o U' => ∃ v L, o = .returned v ∧ Q1ft Z p1 h0 n0 v U'.heap L ∧ FrameEnd U o U' L ({ frames := 0, cells := 0, slots := 0, locals := 0 } : Room).cells ({ frames := 0, cells := 0, slots := 0, locals := 0 } : Room).slots) := by
  refine MetFree.of_bodySF (plainFor_of_name pn_1) hisR ?_
  intro p e s m args below meth c s₁ Bd hml0 hP hK
  obtain ⟨rfl, hZ, hh⟩ := hP
  have hx := Bd.exec
  have hby := Bd.bytes
  have hml : c.maxLocals = 2 := hml0
  have hown : s.vm.findClass "com/example/speicher/speicher/schema/TextGrams" = some m.cls := findClass_of_methodNamed Bd.named
  have hnm := (name_of_methodNamed Bd.named Bd.method).1
  have X0 : Stand p l e ({ frames := 0, cells := 0, slots := 0, locals := 0 } : Room) s m #[(.int p1)] below meth c s₁ [] 0 0 := Stand.of_body Bd
  have e0 : s₁.heap = h0 := by rw [← hh, Bd.state]; rfl
  have N0 := Fr.nil n0
  have pre0 : ∀ t, Steps p.tables e below (s₁.setTop (mkF m 0 #[.val (.int p1), .unset] [])) t → Steps p.tables e below (s₁.setTop (entryFrame m #[(.int p1)] 2)) t := fun t k => castTop (ef_1 m p1) k
  obtain ⟨fs, hr, hrun, hended, hW, hsame⟩ := X0.leave (v := some (.int (nar .char p1))) (fun h => by rw [Bd.returns] at h; cases h)
  refine ⟨_, _, pre0 _ ?_, hrun, hended, _, _, rfl, ?_, ⟨_, rfl⟩, hW, hsame.mono (by decide) (by decide)⟩
  · show Steps p.tables e below (s₁.setTop (mkF m 0 #[.val (.int p1), .unset] [])) _
    refine XS.iloadN X0.here hx rfl (hb hby d1_0) rfl ?_
    show Steps p.tables e below (s₁.setTop (mkF m 1 #[.val (.int p1), .unset] [(.int p1)])) _
    refine XS.istoreN X0.here hx rfl (hb hby d1_1) rfl (l' := #[.val (.int p1), .val (.int p1)]) rfl ?_
    show Steps p.tables e below (s₁.setTop (mkF m 2 #[.val (.int p1), .val (.int p1)] [])) _
    refine XS.iloadN X0.here hx rfl (hb hby d1_2) rfl ?_
    show Steps p.tables e below (s₁.setTop (mkF m 3 #[.val (.int p1), .val (.int p1)] [(.int p1)])) _
    refine XS.bipush X0.here hx rfl (hb hby d1_3) ?_
    show Steps p.tables e below (s₁.setTop (mkF m 5 #[.val (.int p1), .val (.int p1)] [(.int (65 : Int32)), (.int p1)])) _
    refine XS.icmpNo X0.here hx rfl (hb hby d1_5) rfl (flt hc5).1 ?_
    show Steps p.tables e below (s₁.setTop (mkF m 8 #[.val (.int p1), .val (.int p1)] [])) _
    refine XS.iloadN X0.here hx rfl (hb hby d1_8) rfl ?_
    show Steps p.tables e below (s₁.setTop (mkF m 9 #[.val (.int p1), .val (.int p1)] [(.int p1)])) _
    refine XS.bipush X0.here hx rfl (hb hby d1_9) ?_
    show Steps p.tables e below (s₁.setTop (mkF m 11 #[.val (.int p1), .val (.int p1)] [(.int (90 : Int32)), (.int p1)])) _
    refine XS.icmpYes X0.here hx rfl (pc0 := 11) (pc' := 20) rfl (hb hby d1_11) rfl (tlt hc11).2.2.1 (by decide) (by decide) ?_
    show Steps p.tables e below (s₁.setTop (mkF m 20 #[.val (.int p1), .val (.int p1)] [])) _
    refine XS.iloadN X0.here hx rfl (hb hby d1_20) rfl ?_
    show Steps p.tables e below (s₁.setTop (mkF m 21 #[.val (.int p1), .val (.int p1)] [(.int p1)])) _
    exact retN X0 hx (t := .char) Bd.returns (by simp) (hb hby d1_21) hr
  · show Q1ft Z p1 h0 n0 _ s₁.heap _
    rw [e0]
    exact ⟨rfl, N0, rfl⟩
theorem d1_14 : decode prog_19_method_2_code 14 = .ok (.iload_n 0, 1) := by decide +kernel
theorem d1_15 : decode prog_19_method_2_code 15 = .ok (.bipush 32, 2) := by decide +kernel
theorem d1_17 : decode prog_19_method_2_code 17 = .ok (.iadd, 1) := by decide +kernel
theorem d1_18 : decode prog_19_method_2_code 18 = .ok (.i2c, 1) := by decide +kernel
theorem d1_19 : decode prog_19_method_2_code 19 = .ok (.istore_n 1, 1) := by decide +kernel
def Q1ff (Z : State) (p1 : Int32) (h0 : Heap) (n0 : Nat) (v : Option Value) (h : Heap) (L : List Loc) : Prop := v = some (.int (nar .char ((p1 + (32 : Int32)).toUInt32.toUInt16.toUInt32.toInt32))) ∧ Fr n0 L ∧ h = h0
set_option maxRecDepth 65536 in
set_option maxHeartbeats 40000000 in
theorem rm1ff (l : Launch) (Z : State) (a0 : Array Value) (hw : ∀ d ∈ tables_1, d.before a0 Z = true) (ws : List Jvm.Cond) (p1 : Int32) (h0 : Heap) (n0 : Nat) (Z0 : n0 ≤ h0.size) (hc5 : ¬ (p1 < (65 : Int32))) (hc11 : ¬ ((90 : Int32) < p1)) :
    MetFree l (⟨"com/example/speicher/speicher/schema/TextGrams", "fold", "(C)C"⟩ : MethodName) (head1 (Jvm.Cond.code (⟨"com/example/speicher/speicher/schema/TextGrams", "fold", "(C)C"⟩ : MethodName) prog_19_method_2_code 2 (some .char) :: ws) ({ frames := 0, cells := 0, slots := 0, locals := 0 } : Room)) (fun a U => a = #[(.int p1)] ∧ Z.Warmed39 U.vm ∧ U.heap = h0) (fun _ _ _ _ _ => True) (fun _ U o U' => ∃ v L, o = .returned v ∧ Q1ff Z p1 h0 n0 v U'.heap L ∧ FrameEnd U o U' L ({ frames := 0, cells := 0, slots := 0, locals := 0 } : Room).cells ({ frames := 0, cells := 0, slots := 0, locals := 0 } : Room).slots) := by
  refine MetFree.of_bodySF (plainFor_of_name pn_1) hisR ?_
  intro p e s m args below meth c s₁ Bd hml0 hP hK
  obtain ⟨rfl, hZ, hh⟩ := hP
  have hx := Bd.exec
  have hby := Bd.bytes
  have hml : c.maxLocals = 2 := hml0
  have hown : s.vm.findClass "com/example/speicher/speicher/schema/TextGrams" = some m.cls := findClass_of_methodNamed Bd.named
  have hnm := (name_of_methodNamed Bd.named Bd.method).1
  have X0 : Stand p l e ({ frames := 0, cells := 0, slots := 0, locals := 0 } : Room) s m #[(.int p1)] below meth c s₁ [] 0 0 := Stand.of_body Bd
  have e0 : s₁.heap = h0 := by rw [← hh, Bd.state]; rfl
  have N0 := Fr.nil n0
  have pre0 : ∀ t, Steps p.tables e below (s₁.setTop (mkF m 0 #[.val (.int p1), .unset] [])) t → Steps p.tables e below (s₁.setTop (entryFrame m #[(.int p1)] 2)) t := fun t k => castTop (ef_1 m p1) k
  obtain ⟨fs, hr, hrun, hended, hW, hsame⟩ := X0.leave (v := some (.int (nar .char ((p1 + (32 : Int32)).toUInt32.toUInt16.toUInt32.toInt32)))) (fun h => by rw [Bd.returns] at h; cases h)
  refine ⟨_, _, pre0 _ ?_, hrun, hended, _, _, rfl, ?_, ⟨_, rfl⟩, hW, hsame.mono (by decide) (by decide)⟩
  · show Steps p.tables e below (s₁.setTop (mkF m 0 #[.val (.int p1), .unset] [])) _
    refine XS.iloadN X0.here hx rfl (hb hby d1_0) rfl ?_
    show Steps p.tables e below (s₁.setTop (mkF m 1 #[.val (.int p1), .unset] [(.int p1)])) _
    refine XS.istoreN X0.here hx rfl (hb hby d1_1) rfl (l' := #[.val (.int p1), .val (.int p1)]) rfl ?_
    show Steps p.tables e below (s₁.setTop (mkF m 2 #[.val (.int p1), .val (.int p1)] [])) _
    refine XS.iloadN X0.here hx rfl (hb hby d1_2) rfl ?_
    show Steps p.tables e below (s₁.setTop (mkF m 3 #[.val (.int p1), .val (.int p1)] [(.int p1)])) _
    refine XS.bipush X0.here hx rfl (hb hby d1_3) ?_
    show Steps p.tables e below (s₁.setTop (mkF m 5 #[.val (.int p1), .val (.int p1)] [(.int (65 : Int32)), (.int p1)])) _
    refine XS.icmpNo X0.here hx rfl (hb hby d1_5) rfl (flt hc5).1 ?_
    show Steps p.tables e below (s₁.setTop (mkF m 8 #[.val (.int p1), .val (.int p1)] [])) _
    refine XS.iloadN X0.here hx rfl (hb hby d1_8) rfl ?_
    show Steps p.tables e below (s₁.setTop (mkF m 9 #[.val (.int p1), .val (.int p1)] [(.int p1)])) _
    refine XS.bipush X0.here hx rfl (hb hby d1_9) ?_
    show Steps p.tables e below (s₁.setTop (mkF m 11 #[.val (.int p1), .val (.int p1)] [(.int (90 : Int32)), (.int p1)])) _
    refine XS.icmpNo X0.here hx rfl (hb hby d1_11) rfl (flt hc11).2.2.1 ?_
    show Steps p.tables e below (s₁.setTop (mkF m 14 #[.val (.int p1), .val (.int p1)] [])) _
    refine XS.iloadN X0.here hx rfl (hb hby d1_14) rfl ?_
    show Steps p.tables e below (s₁.setTop (mkF m 15 #[.val (.int p1), .val (.int p1)] [(.int p1)])) _
    refine XS.bipush X0.here hx rfl (hb hby d1_15) ?_
    show Steps p.tables e below (s₁.setTop (mkF m 17 #[.val (.int p1), .val (.int p1)] [(.int (32 : Int32)), (.int p1)])) _
    refine XS.iadd X0.here hx rfl (hb hby d1_17) rfl ?_
    show Steps p.tables e below (s₁.setTop (mkF m 18 #[.val (.int p1), .val (.int p1)] [(.int (p1 + (32 : Int32)))])) _
    refine XS.i2c X0.here hx rfl (hb hby d1_18) rfl ?_
    show Steps p.tables e below (s₁.setTop (mkF m 19 #[.val (.int p1), .val (.int p1)] [(.int ((p1 + (32 : Int32)).toUInt32.toUInt16.toUInt32.toInt32))])) _
    refine XS.istoreN X0.here hx rfl (hb hby d1_19) rfl (l' := #[.val (.int p1), .val (.int ((p1 + (32 : Int32)).toUInt32.toUInt16.toUInt32.toInt32))]) rfl ?_
    show Steps p.tables e below (s₁.setTop (mkF m 20 #[.val (.int p1), .val (.int ((p1 + (32 : Int32)).toUInt32.toUInt16.toUInt32.toInt32))] [])) _
    refine XS.iloadN X0.here hx rfl (hb hby d1_20) rfl ?_
    show Steps p.tables e below (s₁.setTop (mkF m 21 #[.val (.int p1), .val (.int ((p1 + (32 : Int32)).toUInt32.toUInt16.toUInt32.toInt32))] [(.int ((p1 + (32 : Int32)).toUInt32.toUInt16.toUInt32.toInt32))])) _
    exact retN X0 hx (t := .char) Bd.returns (by simp) (hb hby d1_21) hr
  · show Q1ff Z p1 h0 n0 _ s₁.heap _
    rw [e0]
    exact ⟨rfl, N0, rfl⟩
theorem pn_0 : plainName "com/example/speicher/speicher/schema/TextGramsFoldPinLaw" = true := by first | (simp [plainName, overriddenIn]; done) | decide +kernel
theorem pd_0_0 : parseMethodDescriptor "(C)C" = some ⟨[.char], some .char⟩ := by decide +kernel
theorem ef_0 (m : MethodId) (x0 : Int32) : entryFrame m #[(.int x0)] maxLocals = mkF m 0 #[.val (.int x0), .unset, .unset, .unset, .unset] [] := by first | (simp [entryFrame, mkF, argsToLocals, Value.category, maxLocals]; done) | rfl
theorem own_g65 {z : Int32} (h : (90 : Int32) < z) : ¬ (z < (65 : Int32)) := by
  rw [Int32.lt_iff_toInt_lt] at h ⊢
  have e1 : (65 : Int32).toInt = 65 := rfl
  have e2 : (90 : Int32).toInt = 90 := rfl
  omega
theorem own_nar2 (x : Int32) : nar .char (nar .char x) = nar .char x := own_nn x
def Q0 (Z : State) (p1 : Int32) (h0 : Heap) (n0 : Nat) (v : Option Value) (h : Heap) (L : List Loc) : Prop := v = some (.int (1 : Int32)) ∧ Fr n0 L
set_option maxRecDepth 65536 in
set_option maxHeartbeats 40000000 in
theorem rm0u (l : Launch) (Z : State) (a0 : Array Value) (hw : ∀ d ∈ tables_1, d.before a0 Z = true) (ws : List Jvm.Cond) (p1 : Int32) (h0 : Heap) (n0 : Nat) (Z0 : n0 ≤ h0.size) (hz1 : ¬ ((p1.toUInt32.toUInt16.toUInt32.toInt32) < (65 : Int32))) (hz2 : ¬ ((90 : Int32) < (p1.toUInt32.toUInt16.toUInt32.toInt32))) (hc17 : (((p1.toUInt32.toUInt16.toUInt32.toInt32) - (65 : Int32)) &&& (65535 : Int32)) < (26 : Int32)) (hc30 : ¬ ((1 : Int32) = (0 : Int32))) :
    MetFree l x (head1 (Jvm.Cond.code x code maxLocals ret :: ws) room_1) (fun a U => a = #[(.int p1)] ∧ Z.Warmed39 U.vm ∧ U.heap = h0) (fun _ _ _ _ _ => True) (fun _ U o U' => ∃ v L, o = .returned v ∧ Q0 Z p1 h0 n0 v U'.heap L ∧ FrameEnd U o U' L room_1.cells room_1.slots) := by
  refine MetFree.of_bodySF (plainFor_of_name pn_0) hisR ?_
  intro p e s m args below meth c s₁ Bd hml0 hP hK
  obtain ⟨rfl, hZ, hh⟩ := hP
  have hx := Bd.exec
  have hby := Bd.bytes
  have hml : c.maxLocals = 5 := hml0
  have hown : s.vm.findClass "com/example/speicher/speicher/schema/TextGramsFoldPinLaw" = some m.cls := findClass_of_methodNamed Bd.named
  have hnm := (name_of_methodNamed Bd.named Bd.method).1
  have X0 : Stand p l e room_1 s m #[(.int p1)] below meth c s₁ [] 0 0 := Stand.of_body Bd
  have e0 : s₁.heap = h0 := by rw [← hh, Bd.state]; rfl
  have N0 := Fr.nil n0
  have pre0 : ∀ t, Steps p.tables e below (s₁.setTop (mkF m 0 #[.val (.int p1), .unset, .unset, .unset, .unset] [])) t → Steps p.tables e below (s₁.setTop (entryFrame m #[(.int p1)] maxLocals)) t := fun t k => castTop (ef_0 m p1) k
  obtain ⟨_, _, ⟨T2, L2, k2, n2⟩, -, X2, ⟨Lc2, hQ2, l2, y2, z2⟩, st2⟩ := Jvm.LawKit.callS X0 hx (y := (⟨"com/example/speicher/speicher/schema/TextGrams", "fold", "(C)C"⟩ : MethodName)) hown (mvT hZ (hw _ (List.mem_of_getElem? (i := 0) rfl))) (mvT hZ (hw _ (List.mem_of_getElem? (i := 1) rfl))) (mvT hZ (hw _ (List.mem_of_getElem? (i := 2) rfl))) (mvT hZ (hw _ (List.mem_of_getElem? (i := 3) rfl))) (by decide) (backOf (W := 0) (rm1ff l Z a0 hw [] (p1.toUInt32.toUInt16.toUInt32.toInt32)  h0 n0 Z0 hz1 hz2) hZ (hw _ (List.mem_of_getElem? (i := 3) rfl)) (hw _ (List.mem_of_getElem? (i := 2) rfl)) (by decide) (by decide)) (g := (mkF m 4 #[.val (.int p1), .val (.int (p1.toUInt32.toUInt16.toUInt32.toInt32)), .unset, .unset, .unset] [(.int (p1.toUInt32.toUInt16.toUInt32.toInt32))])) rfl (by rw [hml]; rfl) (argsL := [(.int (p1.toUInt32.toUInt16.toUInt32.toInt32))]) (rest := []) (lenOf pd_0_0 rfl) rfl (by show 2 * 0 + _ ≤ _; exact Nat.le_of_eq rfl) (hb hby at_4) (fun _ _ => ⟨rfl, e0, (by decide : 0 + 0 ≤ _), (by decide : 0 + 0 ≤ _)⟩)
  dsimp only [Pt.U, Pt.locs, Pt.cells, Pt.slots] at X2 l2 y2 z2 st2 hQ2
  subst l2 y2 z2
  obtain ⟨rfl, N2q, e2⟩ := hQ2
  have N2 := Fr.app N0 N2q
  obtain ⟨_, _, ⟨T3, L3, k3, n3⟩, -, X3, ⟨Lc3, hQ3, l3, y3, z3⟩, st3⟩ := Jvm.LawKit.callS X2 hx (y := (⟨"com/example/speicher/speicher/schema/TextGrams", "fold", "(C)C"⟩ : MethodName)) hown (mvT hZ (hw _ (List.mem_of_getElem? (i := 0) rfl))) (mvT hZ (hw _ (List.mem_of_getElem? (i := 1) rfl))) (mvT hZ (hw _ (List.mem_of_getElem? (i := 2) rfl))) (mvT hZ (hw _ (List.mem_of_getElem? (i := 3) rfl))) (by decide) (backOf (W := 0) (rm1ft l Z a0 hw [] (nar .char (((p1.toUInt32.toUInt16.toUInt32.toInt32) + (32 : Int32)).toUInt32.toUInt16.toUInt32.toInt32))  T2.heap n0 (by rw [e2]; exact Z0) (own_g65 (own_up hz1 hz2).2.2) (own_up hz1 hz2).2.2) hZ (hw _ (List.mem_of_getElem? (i := 3) rfl)) (hw _ (List.mem_of_getElem? (i := 2) rfl)) (by decide) (by decide)) (g := (mkF m 47 #[.val (.int p1), .val (.int (p1.toUInt32.toUInt16.toUInt32.toInt32)), .val (.int (nar .char (((p1.toUInt32.toUInt16.toUInt32.toInt32) + (32 : Int32)).toUInt32.toUInt16.toUInt32.toInt32))), .val (.int (1 : Int32)), .val (.int (((p1.toUInt32.toUInt16.toUInt32.toInt32) ||| (32 : Int32)).toUInt32.toUInt16.toUInt32.toInt32))] [(.int (nar .char (((p1.toUInt32.toUInt16.toUInt32.toInt32) + (32 : Int32)).toUInt32.toUInt16.toUInt32.toInt32)))])) rfl (by rw [hml]; rfl) (argsL := [(.int (nar .char (((p1.toUInt32.toUInt16.toUInt32.toInt32) + (32 : Int32)).toUInt32.toUInt16.toUInt32.toInt32)))]) (rest := []) (lenOf pd_0_0 rfl) rfl (by show 2 * 0 + _ ≤ _; exact Nat.le_of_eq rfl) (hb hby at_47) (fun _ _ => ⟨rfl, rfl, (by decide : 0 + 0 ≤ _), (by decide : 0 + 0 ≤ _)⟩)
  dsimp only [Pt.U, Pt.locs, Pt.cells, Pt.slots] at X3 l3 y3 z3 st3 hQ3
  subst l3 y3 z3
  obtain ⟨rfl, N3q, e3⟩ := hQ3
  have N3 := Fr.app N2 N3q
  obtain ⟨fs, hr, hrun, hended, hW, hsame⟩ := X3.leave (v := some (.int (1 : Int32))) (fun h => by rw [Bd.returns] at h; cases h)
  refine ⟨_, _, pre0 _ ?_, hrun, hended, _, _, rfl, ?_, ⟨_, rfl⟩, hW, hsame.mono (by decide) (by decide)⟩
  · show Steps p.tables e below (s₁.setTop (mkF m 0 #[.val (.int p1), .unset, .unset, .unset, .unset] [])) _
    refine XS.iloadN X0.here hx rfl (hb hby at_0) rfl ?_
    show Steps p.tables e below (s₁.setTop (mkF m 1 #[.val (.int p1), .unset, .unset, .unset, .unset] [(.int p1)])) _
    refine XS.i2c X0.here hx rfl (hb hby at_1) rfl ?_
    show Steps p.tables e below (s₁.setTop (mkF m 2 #[.val (.int p1), .unset, .unset, .unset, .unset] [(.int (p1.toUInt32.toUInt16.toUInt32.toInt32))])) _
    refine XS.istoreN X0.here hx rfl (hb hby at_2) rfl (l' := #[.val (.int p1), .val (.int (p1.toUInt32.toUInt16.toUInt32.toInt32)), .unset, .unset, .unset]) rfl ?_
    show Steps p.tables e below (s₁.setTop (mkF m 3 #[.val (.int p1), .val (.int (p1.toUInt32.toUInt16.toUInt32.toInt32)), .unset, .unset, .unset] [])) _
    refine XS.iloadN X0.here hx rfl (hb hby at_3) rfl ?_
    show Steps p.tables e below (s₁.setTop (mkF m 4 #[.val (.int p1), .val (.int (p1.toUInt32.toUInt16.toUInt32.toInt32)), .unset, .unset, .unset] [(.int (p1.toUInt32.toUInt16.toUInt32.toInt32))])) _
    refine st2 _ ?_
    show Steps p.tables e below (T2.setTop (mkF m 7 #[.val (.int p1), .val (.int (p1.toUInt32.toUInt16.toUInt32.toInt32)), .unset, .unset, .unset] [(.int (nar .char (((p1.toUInt32.toUInt16.toUInt32.toInt32) + (32 : Int32)).toUInt32.toUInt16.toUInt32.toInt32)))])) _
    refine XS.istoreN X2.here hx rfl (hb hby at_7) rfl (l' := #[.val (.int p1), .val (.int (p1.toUInt32.toUInt16.toUInt32.toInt32)), .val (.int (nar .char (((p1.toUInt32.toUInt16.toUInt32.toInt32) + (32 : Int32)).toUInt32.toUInt16.toUInt32.toInt32))), .unset, .unset]) rfl ?_
    show Steps p.tables e below (T2.setTop (mkF m 8 #[.val (.int p1), .val (.int (p1.toUInt32.toUInt16.toUInt32.toInt32)), .val (.int (nar .char (((p1.toUInt32.toUInt16.toUInt32.toInt32) + (32 : Int32)).toUInt32.toUInt16.toUInt32.toInt32))), .unset, .unset] [])) _
    refine XS.iloadN X2.here hx rfl (hb hby at_8) rfl ?_
    show Steps p.tables e below (T2.setTop (mkF m 9 #[.val (.int p1), .val (.int (p1.toUInt32.toUInt16.toUInt32.toInt32)), .val (.int (nar .char (((p1.toUInt32.toUInt16.toUInt32.toInt32) + (32 : Int32)).toUInt32.toUInt16.toUInt32.toInt32))), .unset, .unset] [(.int (p1.toUInt32.toUInt16.toUInt32.toInt32))])) _
    refine XS.bipush X2.here hx rfl (hb hby at_9) ?_
    show Steps p.tables e below (T2.setTop (mkF m 11 #[.val (.int p1), .val (.int (p1.toUInt32.toUInt16.toUInt32.toInt32)), .val (.int (nar .char (((p1.toUInt32.toUInt16.toUInt32.toInt32) + (32 : Int32)).toUInt32.toUInt16.toUInt32.toInt32))), .unset, .unset] [(.int (65 : Int32)), (.int (p1.toUInt32.toUInt16.toUInt32.toInt32))])) _
    refine XS.isub X2.here hx rfl (hb hby at_11) rfl ?_
    show Steps p.tables e below (T2.setTop (mkF m 12 #[.val (.int p1), .val (.int (p1.toUInt32.toUInt16.toUInt32.toInt32)), .val (.int (nar .char (((p1.toUInt32.toUInt16.toUInt32.toInt32) + (32 : Int32)).toUInt32.toUInt16.toUInt32.toInt32))), .unset, .unset] [(.int ((p1.toUInt32.toUInt16.toUInt32.toInt32) - (65 : Int32)))])) _
    refine X2.ldcInt hx hown (mvT hZ (hw _ (List.mem_of_getElem? (i := 4) rfl))) (g := (mkF m 12 #[.val (.int p1), .val (.int (p1.toUInt32.toUInt16.toUInt32.toInt32)), .val (.int (nar .char (((p1.toUInt32.toUInt16.toUInt32.toInt32) + (32 : Int32)).toUInt32.toUInt16.toUInt32.toInt32))), .unset, .unset] [(.int ((p1.toUInt32.toUInt16.toUInt32.toInt32) - (65 : Int32)))])) rfl (hb hby at_12) _ ?_
    show Steps p.tables e below (T2.setTop (mkF m 14 #[.val (.int p1), .val (.int (p1.toUInt32.toUInt16.toUInt32.toInt32)), .val (.int (nar .char (((p1.toUInt32.toUInt16.toUInt32.toInt32) + (32 : Int32)).toUInt32.toUInt16.toUInt32.toInt32))), .unset, .unset] [(.int (65535 : Int32)), (.int ((p1.toUInt32.toUInt16.toUInt32.toInt32) - (65 : Int32)))])) _
    refine XS.iand X2.here hx rfl (hb hby at_14) rfl ?_
    show Steps p.tables e below (T2.setTop (mkF m 15 #[.val (.int p1), .val (.int (p1.toUInt32.toUInt16.toUInt32.toInt32)), .val (.int (nar .char (((p1.toUInt32.toUInt16.toUInt32.toInt32) + (32 : Int32)).toUInt32.toUInt16.toUInt32.toInt32))), .unset, .unset] [(.int (((p1.toUInt32.toUInt16.toUInt32.toInt32) - (65 : Int32)) &&& (65535 : Int32)))])) _
    refine XS.bipush X2.here hx rfl (hb hby at_15) ?_
    show Steps p.tables e below (T2.setTop (mkF m 17 #[.val (.int p1), .val (.int (p1.toUInt32.toUInt16.toUInt32.toInt32)), .val (.int (nar .char (((p1.toUInt32.toUInt16.toUInt32.toInt32) + (32 : Int32)).toUInt32.toUInt16.toUInt32.toInt32))), .unset, .unset] [(.int (26 : Int32)), (.int (((p1.toUInt32.toUInt16.toUInt32.toInt32) - (65 : Int32)) &&& (65535 : Int32)))])) _
    refine XS.icmpNo X2.here hx rfl (hb hby at_17) rfl (tlt hc17).2.1 ?_
    show Steps p.tables e below (T2.setTop (mkF m 20 #[.val (.int p1), .val (.int (p1.toUInt32.toUInt16.toUInt32.toInt32)), .val (.int (nar .char (((p1.toUInt32.toUInt16.toUInt32.toInt32) + (32 : Int32)).toUInt32.toUInt16.toUInt32.toInt32))), .unset, .unset] [])) _
    refine XS.iconst X2.here hx rfl (hb hby at_20) ?_
    show Steps p.tables e below (T2.setTop (mkF m 21 #[.val (.int p1), .val (.int (p1.toUInt32.toUInt16.toUInt32.toInt32)), .val (.int (nar .char (((p1.toUInt32.toUInt16.toUInt32.toInt32) + (32 : Int32)).toUInt32.toUInt16.toUInt32.toInt32))), .unset, .unset] [(.int (1 : Int32))])) _
    refine XS.goto X2.here hx rfl (pc0 := 21) (pc' := 25) rfl (hb hby at_21) (by decide) (by decide) ?_
    show Steps p.tables e below (T2.setTop (mkF m 25 #[.val (.int p1), .val (.int (p1.toUInt32.toUInt16.toUInt32.toInt32)), .val (.int (nar .char (((p1.toUInt32.toUInt16.toUInt32.toInt32) + (32 : Int32)).toUInt32.toUInt16.toUInt32.toInt32))), .unset, .unset] [(.int (1 : Int32))])) _
    refine XS.istoreN X2.here hx rfl (hb hby at_25) rfl (l' := #[.val (.int p1), .val (.int (p1.toUInt32.toUInt16.toUInt32.toInt32)), .val (.int (nar .char (((p1.toUInt32.toUInt16.toUInt32.toInt32) + (32 : Int32)).toUInt32.toUInt16.toUInt32.toInt32))), .val (.int (1 : Int32)), .unset]) rfl ?_
    show Steps p.tables e below (T2.setTop (mkF m 26 #[.val (.int p1), .val (.int (p1.toUInt32.toUInt16.toUInt32.toInt32)), .val (.int (nar .char (((p1.toUInt32.toUInt16.toUInt32.toInt32) + (32 : Int32)).toUInt32.toUInt16.toUInt32.toInt32))), .val (.int (1 : Int32)), .unset] [])) _
    refine XS.iloadN X2.here hx rfl (hb hby at_26) rfl ?_
    show Steps p.tables e below (T2.setTop (mkF m 27 #[.val (.int p1), .val (.int (p1.toUInt32.toUInt16.toUInt32.toInt32)), .val (.int (nar .char (((p1.toUInt32.toUInt16.toUInt32.toInt32) + (32 : Int32)).toUInt32.toUInt16.toUInt32.toInt32))), .val (.int (1 : Int32)), .unset] [(.int (p1.toUInt32.toUInt16.toUInt32.toInt32))])) _
    refine XS.istore X2.here hx rfl (hb hby at_27) rfl (l' := #[.val (.int p1), .val (.int (p1.toUInt32.toUInt16.toUInt32.toInt32)), .val (.int (nar .char (((p1.toUInt32.toUInt16.toUInt32.toInt32) + (32 : Int32)).toUInt32.toUInt16.toUInt32.toInt32))), .val (.int (1 : Int32)), .val (.int (p1.toUInt32.toUInt16.toUInt32.toInt32))]) rfl ?_
    show Steps p.tables e below (T2.setTop (mkF m 29 #[.val (.int p1), .val (.int (p1.toUInt32.toUInt16.toUInt32.toInt32)), .val (.int (nar .char (((p1.toUInt32.toUInt16.toUInt32.toInt32) + (32 : Int32)).toUInt32.toUInt16.toUInt32.toInt32))), .val (.int (1 : Int32)), .val (.int (p1.toUInt32.toUInt16.toUInt32.toInt32))] [])) _
    refine XS.iloadN X2.here hx rfl (hb hby at_29) rfl ?_
    show Steps p.tables e below (T2.setTop (mkF m 30 #[.val (.int p1), .val (.int (p1.toUInt32.toUInt16.toUInt32.toInt32)), .val (.int (nar .char (((p1.toUInt32.toUInt16.toUInt32.toInt32) + (32 : Int32)).toUInt32.toUInt16.toUInt32.toInt32))), .val (.int (1 : Int32)), .val (.int (p1.toUInt32.toUInt16.toUInt32.toInt32))] [(.int (1 : Int32))])) _
    refine XS.ifNo X2.here hx rfl (hb hby at_30) rfl ((if0 _ _).trans (feq hc30).1) ?_
    show Steps p.tables e below (T2.setTop (mkF m 33 #[.val (.int p1), .val (.int (p1.toUInt32.toUInt16.toUInt32.toInt32)), .val (.int (nar .char (((p1.toUInt32.toUInt16.toUInt32.toInt32) + (32 : Int32)).toUInt32.toUInt16.toUInt32.toInt32))), .val (.int (1 : Int32)), .val (.int (p1.toUInt32.toUInt16.toUInt32.toInt32))] [])) _
    refine XS.iloadN X2.here hx rfl (hb hby at_33) rfl ?_
    show Steps p.tables e below (T2.setTop (mkF m 34 #[.val (.int p1), .val (.int (p1.toUInt32.toUInt16.toUInt32.toInt32)), .val (.int (nar .char (((p1.toUInt32.toUInt16.toUInt32.toInt32) + (32 : Int32)).toUInt32.toUInt16.toUInt32.toInt32))), .val (.int (1 : Int32)), .val (.int (p1.toUInt32.toUInt16.toUInt32.toInt32))] [(.int (p1.toUInt32.toUInt16.toUInt32.toInt32))])) _
    refine XS.bipush X2.here hx rfl (hb hby at_34) ?_
    show Steps p.tables e below (T2.setTop (mkF m 36 #[.val (.int p1), .val (.int (p1.toUInt32.toUInt16.toUInt32.toInt32)), .val (.int (nar .char (((p1.toUInt32.toUInt16.toUInt32.toInt32) + (32 : Int32)).toUInt32.toUInt16.toUInt32.toInt32))), .val (.int (1 : Int32)), .val (.int (p1.toUInt32.toUInt16.toUInt32.toInt32))] [(.int (32 : Int32)), (.int (p1.toUInt32.toUInt16.toUInt32.toInt32))])) _
    refine XS.ior X2.here hx rfl (hb hby at_36) rfl ?_
    show Steps p.tables e below (T2.setTop (mkF m 37 #[.val (.int p1), .val (.int (p1.toUInt32.toUInt16.toUInt32.toInt32)), .val (.int (nar .char (((p1.toUInt32.toUInt16.toUInt32.toInt32) + (32 : Int32)).toUInt32.toUInt16.toUInt32.toInt32))), .val (.int (1 : Int32)), .val (.int (p1.toUInt32.toUInt16.toUInt32.toInt32))] [(.int ((p1.toUInt32.toUInt16.toUInt32.toInt32) ||| (32 : Int32)))])) _
    refine XS.i2c X2.here hx rfl (hb hby at_37) rfl ?_
    show Steps p.tables e below (T2.setTop (mkF m 38 #[.val (.int p1), .val (.int (p1.toUInt32.toUInt16.toUInt32.toInt32)), .val (.int (nar .char (((p1.toUInt32.toUInt16.toUInt32.toInt32) + (32 : Int32)).toUInt32.toUInt16.toUInt32.toInt32))), .val (.int (1 : Int32)), .val (.int (p1.toUInt32.toUInt16.toUInt32.toInt32))] [(.int (((p1.toUInt32.toUInt16.toUInt32.toInt32) ||| (32 : Int32)).toUInt32.toUInt16.toUInt32.toInt32))])) _
    refine XS.istore X2.here hx rfl (hb hby at_38) rfl (l' := #[.val (.int p1), .val (.int (p1.toUInt32.toUInt16.toUInt32.toInt32)), .val (.int (nar .char (((p1.toUInt32.toUInt16.toUInt32.toInt32) + (32 : Int32)).toUInt32.toUInt16.toUInt32.toInt32))), .val (.int (1 : Int32)), .val (.int (((p1.toUInt32.toUInt16.toUInt32.toInt32) ||| (32 : Int32)).toUInt32.toUInt16.toUInt32.toInt32))]) rfl ?_
    show Steps p.tables e below (T2.setTop (mkF m 40 #[.val (.int p1), .val (.int (p1.toUInt32.toUInt16.toUInt32.toInt32)), .val (.int (nar .char (((p1.toUInt32.toUInt16.toUInt32.toInt32) + (32 : Int32)).toUInt32.toUInt16.toUInt32.toInt32))), .val (.int (1 : Int32)), .val (.int (((p1.toUInt32.toUInt16.toUInt32.toInt32) ||| (32 : Int32)).toUInt32.toUInt16.toUInt32.toInt32))] [])) _
    refine XS.iloadN X2.here hx rfl (hb hby at_40) rfl ?_
    show Steps p.tables e below (T2.setTop (mkF m 41 #[.val (.int p1), .val (.int (p1.toUInt32.toUInt16.toUInt32.toInt32)), .val (.int (nar .char (((p1.toUInt32.toUInt16.toUInt32.toInt32) + (32 : Int32)).toUInt32.toUInt16.toUInt32.toInt32))), .val (.int (1 : Int32)), .val (.int (((p1.toUInt32.toUInt16.toUInt32.toInt32) ||| (32 : Int32)).toUInt32.toUInt16.toUInt32.toInt32))] [(.int (nar .char (((p1.toUInt32.toUInt16.toUInt32.toInt32) + (32 : Int32)).toUInt32.toUInt16.toUInt32.toInt32)))])) _
    refine XS.iload X2.here hx rfl (hb hby at_41) rfl ?_
    show Steps p.tables e below (T2.setTop (mkF m 43 #[.val (.int p1), .val (.int (p1.toUInt32.toUInt16.toUInt32.toInt32)), .val (.int (nar .char (((p1.toUInt32.toUInt16.toUInt32.toInt32) + (32 : Int32)).toUInt32.toUInt16.toUInt32.toInt32))), .val (.int (1 : Int32)), .val (.int (((p1.toUInt32.toUInt16.toUInt32.toInt32) ||| (32 : Int32)).toUInt32.toUInt16.toUInt32.toInt32))] [(.int (((p1.toUInt32.toUInt16.toUInt32.toInt32) ||| (32 : Int32)).toUInt32.toUInt16.toUInt32.toInt32)), (.int (nar .char (((p1.toUInt32.toUInt16.toUInt32.toInt32) + (32 : Int32)).toUInt32.toUInt16.toUInt32.toInt32)))])) _
    refine XS.icmpNo X2.here hx rfl (hb hby at_43) rfl (teq ((own_up hz1 hz2).2.1 : (nar .char (((p1.toUInt32.toUInt16.toUInt32.toInt32) + (32 : Int32)).toUInt32.toUInt16.toUInt32.toInt32)) = (((p1.toUInt32.toUInt16.toUInt32.toInt32) ||| (32 : Int32)).toUInt32.toUInt16.toUInt32.toInt32))).2 ?_
    show Steps p.tables e below (T2.setTop (mkF m 46 #[.val (.int p1), .val (.int (p1.toUInt32.toUInt16.toUInt32.toInt32)), .val (.int (nar .char (((p1.toUInt32.toUInt16.toUInt32.toInt32) + (32 : Int32)).toUInt32.toUInt16.toUInt32.toInt32))), .val (.int (1 : Int32)), .val (.int (((p1.toUInt32.toUInt16.toUInt32.toInt32) ||| (32 : Int32)).toUInt32.toUInt16.toUInt32.toInt32))] [])) _
    refine XS.iloadN X2.here hx rfl (hb hby at_46) rfl ?_
    show Steps p.tables e below (T2.setTop (mkF m 47 #[.val (.int p1), .val (.int (p1.toUInt32.toUInt16.toUInt32.toInt32)), .val (.int (nar .char (((p1.toUInt32.toUInt16.toUInt32.toInt32) + (32 : Int32)).toUInt32.toUInt16.toUInt32.toInt32))), .val (.int (1 : Int32)), .val (.int (((p1.toUInt32.toUInt16.toUInt32.toInt32) ||| (32 : Int32)).toUInt32.toUInt16.toUInt32.toInt32))] [(.int (nar .char (((p1.toUInt32.toUInt16.toUInt32.toInt32) + (32 : Int32)).toUInt32.toUInt16.toUInt32.toInt32)))])) _
    refine st3 _ ?_
    show Steps p.tables e below (T3.setTop (mkF m 50 #[.val (.int p1), .val (.int (p1.toUInt32.toUInt16.toUInt32.toInt32)), .val (.int (nar .char (((p1.toUInt32.toUInt16.toUInt32.toInt32) + (32 : Int32)).toUInt32.toUInt16.toUInt32.toInt32))), .val (.int (1 : Int32)), .val (.int (((p1.toUInt32.toUInt16.toUInt32.toInt32) ||| (32 : Int32)).toUInt32.toUInt16.toUInt32.toInt32))] [(.int (nar .char (nar .char (((p1.toUInt32.toUInt16.toUInt32.toInt32) + (32 : Int32)).toUInt32.toUInt16.toUInt32.toInt32))))])) _
    refine XS.iloadN X3.here hx rfl (hb hby at_50) rfl ?_
    show Steps p.tables e below (T3.setTop (mkF m 51 #[.val (.int p1), .val (.int (p1.toUInt32.toUInt16.toUInt32.toInt32)), .val (.int (nar .char (((p1.toUInt32.toUInt16.toUInt32.toInt32) + (32 : Int32)).toUInt32.toUInt16.toUInt32.toInt32))), .val (.int (1 : Int32)), .val (.int (((p1.toUInt32.toUInt16.toUInt32.toInt32) ||| (32 : Int32)).toUInt32.toUInt16.toUInt32.toInt32))] [(.int (nar .char (((p1.toUInt32.toUInt16.toUInt32.toInt32) + (32 : Int32)).toUInt32.toUInt16.toUInt32.toInt32))), (.int (nar .char (nar .char (((p1.toUInt32.toUInt16.toUInt32.toInt32) + (32 : Int32)).toUInt32.toUInt16.toUInt32.toInt32))))])) _
    refine XS.icmpNo X3.here hx rfl (hb hby at_51) rfl (teq (own_nar2 _ : (nar .char (nar .char (((p1.toUInt32.toUInt16.toUInt32.toInt32) + (32 : Int32)).toUInt32.toUInt16.toUInt32.toInt32))) = (nar .char (((p1.toUInt32.toUInt16.toUInt32.toInt32) + (32 : Int32)).toUInt32.toUInt16.toUInt32.toInt32)))).2 ?_
    show Steps p.tables e below (T3.setTop (mkF m 54 #[.val (.int p1), .val (.int (p1.toUInt32.toUInt16.toUInt32.toInt32)), .val (.int (nar .char (((p1.toUInt32.toUInt16.toUInt32.toInt32) + (32 : Int32)).toUInt32.toUInt16.toUInt32.toInt32))), .val (.int (1 : Int32)), .val (.int (((p1.toUInt32.toUInt16.toUInt32.toInt32) ||| (32 : Int32)).toUInt32.toUInt16.toUInt32.toInt32))] [])) _
    refine XS.iconst X3.here hx rfl (hb hby at_54) ?_
    show Steps p.tables e below (T3.setTop (mkF m 55 #[.val (.int p1), .val (.int (p1.toUInt32.toUInt16.toUInt32.toInt32)), .val (.int (nar .char (((p1.toUInt32.toUInt16.toUInt32.toInt32) + (32 : Int32)).toUInt32.toUInt16.toUInt32.toInt32))), .val (.int (1 : Int32)), .val (.int (((p1.toUInt32.toUInt16.toUInt32.toInt32) ||| (32 : Int32)).toUInt32.toUInt16.toUInt32.toInt32))] [(.int (1 : Int32))])) _
    refine XS.goto X3.here hx rfl (pc0 := 55) (pc' := 59) rfl (hb hby at_55) (by decide) (by decide) ?_
    show Steps p.tables e below (T3.setTop (mkF m 59 #[.val (.int p1), .val (.int (p1.toUInt32.toUInt16.toUInt32.toInt32)), .val (.int (nar .char (((p1.toUInt32.toUInt16.toUInt32.toInt32) + (32 : Int32)).toUInt32.toUInt16.toUInt32.toInt32))), .val (.int (1 : Int32)), .val (.int (((p1.toUInt32.toUInt16.toUInt32.toInt32) ||| (32 : Int32)).toUInt32.toUInt16.toUInt32.toInt32))] [(.int (1 : Int32))])) _
    exact retN X3 hx (t := .boolean) Bd.returns (by simp) (hb hby at_59) hr
  · show Q0 Z p1 h0 n0 _ T3.heap _
    exact ⟨rfl, N3⟩
set_option maxRecDepth 65536 in
set_option maxHeartbeats 40000000 in
theorem rm0l (l : Launch) (Z : State) (a0 : Array Value) (hw : ∀ d ∈ tables_1, d.before a0 Z = true) (ws : List Jvm.Cond) (p1 : Int32) (h0 : Heap) (n0 : Nat) (Z0 : n0 ≤ h0.size) (hz : (p1.toUInt32.toUInt16.toUInt32.toInt32) < (65 : Int32)) (hc17 : ¬ ((((p1.toUInt32.toUInt16.toUInt32.toInt32) - (65 : Int32)) &&& (65535 : Int32)) < (26 : Int32))) :
    MetFree l x (head1 (Jvm.Cond.code x code maxLocals ret :: ws) room_1) (fun a U => a = #[(.int p1)] ∧ Z.Warmed39 U.vm ∧ U.heap = h0) (fun _ _ _ _ _ => True) (fun _ U o U' => ∃ v L, o = .returned v ∧ Q0 Z p1 h0 n0 v U'.heap L ∧ FrameEnd U o U' L room_1.cells room_1.slots) := by
  refine MetFree.of_bodySF (plainFor_of_name pn_0) hisR ?_
  intro p e s m args below meth c s₁ Bd hml0 hP hK
  obtain ⟨rfl, hZ, hh⟩ := hP
  have hx := Bd.exec
  have hby := Bd.bytes
  have hml : c.maxLocals = 5 := hml0
  have hown : s.vm.findClass "com/example/speicher/speicher/schema/TextGramsFoldPinLaw" = some m.cls := findClass_of_methodNamed Bd.named
  have hnm := (name_of_methodNamed Bd.named Bd.method).1
  have X0 : Stand p l e room_1 s m #[(.int p1)] below meth c s₁ [] 0 0 := Stand.of_body Bd
  have e0 : s₁.heap = h0 := by rw [← hh, Bd.state]; rfl
  have N0 := Fr.nil n0
  have pre0 : ∀ t, Steps p.tables e below (s₁.setTop (mkF m 0 #[.val (.int p1), .unset, .unset, .unset, .unset] [])) t → Steps p.tables e below (s₁.setTop (entryFrame m #[(.int p1)] maxLocals)) t := fun t k => castTop (ef_0 m p1) k
  obtain ⟨_, _, ⟨T2, L2, k2, n2⟩, -, X2, ⟨Lc2, hQ2, l2, y2, z2⟩, st2⟩ := Jvm.LawKit.callS X0 hx (y := (⟨"com/example/speicher/speicher/schema/TextGrams", "fold", "(C)C"⟩ : MethodName)) hown (mvT hZ (hw _ (List.mem_of_getElem? (i := 0) rfl))) (mvT hZ (hw _ (List.mem_of_getElem? (i := 1) rfl))) (mvT hZ (hw _ (List.mem_of_getElem? (i := 2) rfl))) (mvT hZ (hw _ (List.mem_of_getElem? (i := 3) rfl))) (by decide) (backOf (W := 0) (rm1t l Z a0 hw [] (p1.toUInt32.toUInt16.toUInt32.toInt32)  h0 n0 Z0 hz) hZ (hw _ (List.mem_of_getElem? (i := 3) rfl)) (hw _ (List.mem_of_getElem? (i := 2) rfl)) (by decide) (by decide)) (g := (mkF m 4 #[.val (.int p1), .val (.int (p1.toUInt32.toUInt16.toUInt32.toInt32)), .unset, .unset, .unset] [(.int (p1.toUInt32.toUInt16.toUInt32.toInt32))])) rfl (by rw [hml]; rfl) (argsL := [(.int (p1.toUInt32.toUInt16.toUInt32.toInt32))]) (rest := []) (lenOf pd_0_0 rfl) rfl (by show 2 * 0 + _ ≤ _; exact Nat.le_of_eq rfl) (hb hby at_4) (fun _ _ => ⟨rfl, e0, (by decide : 0 + 0 ≤ _), (by decide : 0 + 0 ≤ _)⟩)
  dsimp only [Pt.U, Pt.locs, Pt.cells, Pt.slots] at X2 l2 y2 z2 st2 hQ2
  subst l2 y2 z2
  obtain ⟨rfl, N2q, e2⟩ := hQ2
  have N2 := Fr.app N0 N2q
  obtain ⟨_, _, ⟨T3, L3, k3, n3⟩, -, X3, ⟨Lc3, hQ3, l3, y3, z3⟩, st3⟩ := Jvm.LawKit.callS X2 hx (y := (⟨"com/example/speicher/speicher/schema/TextGrams", "fold", "(C)C"⟩ : MethodName)) hown (mvT hZ (hw _ (List.mem_of_getElem? (i := 0) rfl))) (mvT hZ (hw _ (List.mem_of_getElem? (i := 1) rfl))) (mvT hZ (hw _ (List.mem_of_getElem? (i := 2) rfl))) (mvT hZ (hw _ (List.mem_of_getElem? (i := 3) rfl))) (by decide) (backOf (W := 0) (rm1t l Z a0 hw [] (nar .char (p1.toUInt32.toUInt16.toUInt32.toInt32))  T2.heap n0 (by rw [e2]; exact Z0) (by rw [own_nn]; exact hz)) hZ (hw _ (List.mem_of_getElem? (i := 3) rfl)) (hw _ (List.mem_of_getElem? (i := 2) rfl)) (by decide) (by decide)) (g := (mkF m 47 #[.val (.int p1), .val (.int (p1.toUInt32.toUInt16.toUInt32.toInt32)), .val (.int (nar .char (p1.toUInt32.toUInt16.toUInt32.toInt32))), .val (.int (0 : Int32)), .val (.int (p1.toUInt32.toUInt16.toUInt32.toInt32))] [(.int (nar .char (p1.toUInt32.toUInt16.toUInt32.toInt32)))])) rfl (by rw [hml]; rfl) (argsL := [(.int (nar .char (p1.toUInt32.toUInt16.toUInt32.toInt32)))]) (rest := []) (lenOf pd_0_0 rfl) rfl (by show 2 * 0 + _ ≤ _; exact Nat.le_of_eq rfl) (hb hby at_47) (fun _ _ => ⟨rfl, rfl, (by decide : 0 + 0 ≤ _), (by decide : 0 + 0 ≤ _)⟩)
  dsimp only [Pt.U, Pt.locs, Pt.cells, Pt.slots] at X3 l3 y3 z3 st3 hQ3
  subst l3 y3 z3
  obtain ⟨rfl, N3q, e3⟩ := hQ3
  have N3 := Fr.app N2 N3q
  obtain ⟨fs, hr, hrun, hended, hW, hsame⟩ := X3.leave (v := some (.int (1 : Int32))) (fun h => by rw [Bd.returns] at h; cases h)
  refine ⟨_, _, pre0 _ ?_, hrun, hended, _, _, rfl, ?_, ⟨_, rfl⟩, hW, hsame.mono (by decide) (by decide)⟩
  · show Steps p.tables e below (s₁.setTop (mkF m 0 #[.val (.int p1), .unset, .unset, .unset, .unset] [])) _
    refine XS.iloadN X0.here hx rfl (hb hby at_0) rfl ?_
    show Steps p.tables e below (s₁.setTop (mkF m 1 #[.val (.int p1), .unset, .unset, .unset, .unset] [(.int p1)])) _
    refine XS.i2c X0.here hx rfl (hb hby at_1) rfl ?_
    show Steps p.tables e below (s₁.setTop (mkF m 2 #[.val (.int p1), .unset, .unset, .unset, .unset] [(.int (p1.toUInt32.toUInt16.toUInt32.toInt32))])) _
    refine XS.istoreN X0.here hx rfl (hb hby at_2) rfl (l' := #[.val (.int p1), .val (.int (p1.toUInt32.toUInt16.toUInt32.toInt32)), .unset, .unset, .unset]) rfl ?_
    show Steps p.tables e below (s₁.setTop (mkF m 3 #[.val (.int p1), .val (.int (p1.toUInt32.toUInt16.toUInt32.toInt32)), .unset, .unset, .unset] [])) _
    refine XS.iloadN X0.here hx rfl (hb hby at_3) rfl ?_
    show Steps p.tables e below (s₁.setTop (mkF m 4 #[.val (.int p1), .val (.int (p1.toUInt32.toUInt16.toUInt32.toInt32)), .unset, .unset, .unset] [(.int (p1.toUInt32.toUInt16.toUInt32.toInt32))])) _
    refine st2 _ ?_
    show Steps p.tables e below (T2.setTop (mkF m 7 #[.val (.int p1), .val (.int (p1.toUInt32.toUInt16.toUInt32.toInt32)), .unset, .unset, .unset] [(.int (nar .char (p1.toUInt32.toUInt16.toUInt32.toInt32)))])) _
    refine XS.istoreN X2.here hx rfl (hb hby at_7) rfl (l' := #[.val (.int p1), .val (.int (p1.toUInt32.toUInt16.toUInt32.toInt32)), .val (.int (nar .char (p1.toUInt32.toUInt16.toUInt32.toInt32))), .unset, .unset]) rfl ?_
    show Steps p.tables e below (T2.setTop (mkF m 8 #[.val (.int p1), .val (.int (p1.toUInt32.toUInt16.toUInt32.toInt32)), .val (.int (nar .char (p1.toUInt32.toUInt16.toUInt32.toInt32))), .unset, .unset] [])) _
    refine XS.iloadN X2.here hx rfl (hb hby at_8) rfl ?_
    show Steps p.tables e below (T2.setTop (mkF m 9 #[.val (.int p1), .val (.int (p1.toUInt32.toUInt16.toUInt32.toInt32)), .val (.int (nar .char (p1.toUInt32.toUInt16.toUInt32.toInt32))), .unset, .unset] [(.int (p1.toUInt32.toUInt16.toUInt32.toInt32))])) _
    refine XS.bipush X2.here hx rfl (hb hby at_9) ?_
    show Steps p.tables e below (T2.setTop (mkF m 11 #[.val (.int p1), .val (.int (p1.toUInt32.toUInt16.toUInt32.toInt32)), .val (.int (nar .char (p1.toUInt32.toUInt16.toUInt32.toInt32))), .unset, .unset] [(.int (65 : Int32)), (.int (p1.toUInt32.toUInt16.toUInt32.toInt32))])) _
    refine XS.isub X2.here hx rfl (hb hby at_11) rfl ?_
    show Steps p.tables e below (T2.setTop (mkF m 12 #[.val (.int p1), .val (.int (p1.toUInt32.toUInt16.toUInt32.toInt32)), .val (.int (nar .char (p1.toUInt32.toUInt16.toUInt32.toInt32))), .unset, .unset] [(.int ((p1.toUInt32.toUInt16.toUInt32.toInt32) - (65 : Int32)))])) _
    refine X2.ldcInt hx hown (mvT hZ (hw _ (List.mem_of_getElem? (i := 4) rfl))) (g := (mkF m 12 #[.val (.int p1), .val (.int (p1.toUInt32.toUInt16.toUInt32.toInt32)), .val (.int (nar .char (p1.toUInt32.toUInt16.toUInt32.toInt32))), .unset, .unset] [(.int ((p1.toUInt32.toUInt16.toUInt32.toInt32) - (65 : Int32)))])) rfl (hb hby at_12) _ ?_
    show Steps p.tables e below (T2.setTop (mkF m 14 #[.val (.int p1), .val (.int (p1.toUInt32.toUInt16.toUInt32.toInt32)), .val (.int (nar .char (p1.toUInt32.toUInt16.toUInt32.toInt32))), .unset, .unset] [(.int (65535 : Int32)), (.int ((p1.toUInt32.toUInt16.toUInt32.toInt32) - (65 : Int32)))])) _
    refine XS.iand X2.here hx rfl (hb hby at_14) rfl ?_
    show Steps p.tables e below (T2.setTop (mkF m 15 #[.val (.int p1), .val (.int (p1.toUInt32.toUInt16.toUInt32.toInt32)), .val (.int (nar .char (p1.toUInt32.toUInt16.toUInt32.toInt32))), .unset, .unset] [(.int (((p1.toUInt32.toUInt16.toUInt32.toInt32) - (65 : Int32)) &&& (65535 : Int32)))])) _
    refine XS.bipush X2.here hx rfl (hb hby at_15) ?_
    show Steps p.tables e below (T2.setTop (mkF m 17 #[.val (.int p1), .val (.int (p1.toUInt32.toUInt16.toUInt32.toInt32)), .val (.int (nar .char (p1.toUInt32.toUInt16.toUInt32.toInt32))), .unset, .unset] [(.int (26 : Int32)), (.int (((p1.toUInt32.toUInt16.toUInt32.toInt32) - (65 : Int32)) &&& (65535 : Int32)))])) _
    refine XS.icmpYes X2.here hx rfl (pc0 := 17) (pc' := 24) rfl (hb hby at_17) rfl (flt hc17).2.1 (by decide) (by decide) ?_
    show Steps p.tables e below (T2.setTop (mkF m 24 #[.val (.int p1), .val (.int (p1.toUInt32.toUInt16.toUInt32.toInt32)), .val (.int (nar .char (p1.toUInt32.toUInt16.toUInt32.toInt32))), .unset, .unset] [])) _
    refine XS.iconst X2.here hx rfl (hb hby at_24) ?_
    show Steps p.tables e below (T2.setTop (mkF m 25 #[.val (.int p1), .val (.int (p1.toUInt32.toUInt16.toUInt32.toInt32)), .val (.int (nar .char (p1.toUInt32.toUInt16.toUInt32.toInt32))), .unset, .unset] [(.int (0 : Int32))])) _
    refine XS.istoreN X2.here hx rfl (hb hby at_25) rfl (l' := #[.val (.int p1), .val (.int (p1.toUInt32.toUInt16.toUInt32.toInt32)), .val (.int (nar .char (p1.toUInt32.toUInt16.toUInt32.toInt32))), .val (.int (0 : Int32)), .unset]) rfl ?_
    show Steps p.tables e below (T2.setTop (mkF m 26 #[.val (.int p1), .val (.int (p1.toUInt32.toUInt16.toUInt32.toInt32)), .val (.int (nar .char (p1.toUInt32.toUInt16.toUInt32.toInt32))), .val (.int (0 : Int32)), .unset] [])) _
    refine XS.iloadN X2.here hx rfl (hb hby at_26) rfl ?_
    show Steps p.tables e below (T2.setTop (mkF m 27 #[.val (.int p1), .val (.int (p1.toUInt32.toUInt16.toUInt32.toInt32)), .val (.int (nar .char (p1.toUInt32.toUInt16.toUInt32.toInt32))), .val (.int (0 : Int32)), .unset] [(.int (p1.toUInt32.toUInt16.toUInt32.toInt32))])) _
    refine XS.istore X2.here hx rfl (hb hby at_27) rfl (l' := #[.val (.int p1), .val (.int (p1.toUInt32.toUInt16.toUInt32.toInt32)), .val (.int (nar .char (p1.toUInt32.toUInt16.toUInt32.toInt32))), .val (.int (0 : Int32)), .val (.int (p1.toUInt32.toUInt16.toUInt32.toInt32))]) rfl ?_
    show Steps p.tables e below (T2.setTop (mkF m 29 #[.val (.int p1), .val (.int (p1.toUInt32.toUInt16.toUInt32.toInt32)), .val (.int (nar .char (p1.toUInt32.toUInt16.toUInt32.toInt32))), .val (.int (0 : Int32)), .val (.int (p1.toUInt32.toUInt16.toUInt32.toInt32))] [])) _
    refine XS.iloadN X2.here hx rfl (hb hby at_29) rfl ?_
    show Steps p.tables e below (T2.setTop (mkF m 30 #[.val (.int p1), .val (.int (p1.toUInt32.toUInt16.toUInt32.toInt32)), .val (.int (nar .char (p1.toUInt32.toUInt16.toUInt32.toInt32))), .val (.int (0 : Int32)), .val (.int (p1.toUInt32.toUInt16.toUInt32.toInt32))] [(.int (0 : Int32))])) _
    refine XS.ifYes X2.here hx rfl (pc0 := 30) (pc' := 40) rfl (hb hby at_30) rfl ((if0 _ _).trans (teq (rfl : (0 : Int32) = (0 : Int32))).1) (by decide) (by decide) ?_
    show Steps p.tables e below (T2.setTop (mkF m 40 #[.val (.int p1), .val (.int (p1.toUInt32.toUInt16.toUInt32.toInt32)), .val (.int (nar .char (p1.toUInt32.toUInt16.toUInt32.toInt32))), .val (.int (0 : Int32)), .val (.int (p1.toUInt32.toUInt16.toUInt32.toInt32))] [])) _
    refine XS.iloadN X2.here hx rfl (hb hby at_40) rfl ?_
    show Steps p.tables e below (T2.setTop (mkF m 41 #[.val (.int p1), .val (.int (p1.toUInt32.toUInt16.toUInt32.toInt32)), .val (.int (nar .char (p1.toUInt32.toUInt16.toUInt32.toInt32))), .val (.int (0 : Int32)), .val (.int (p1.toUInt32.toUInt16.toUInt32.toInt32))] [(.int (nar .char (p1.toUInt32.toUInt16.toUInt32.toInt32)))])) _
    refine XS.iload X2.here hx rfl (hb hby at_41) rfl ?_
    show Steps p.tables e below (T2.setTop (mkF m 43 #[.val (.int p1), .val (.int (p1.toUInt32.toUInt16.toUInt32.toInt32)), .val (.int (nar .char (p1.toUInt32.toUInt16.toUInt32.toInt32))), .val (.int (0 : Int32)), .val (.int (p1.toUInt32.toUInt16.toUInt32.toInt32))] [(.int (p1.toUInt32.toUInt16.toUInt32.toInt32)), (.int (nar .char (p1.toUInt32.toUInt16.toUInt32.toInt32)))])) _
    refine XS.icmpNo X2.here hx rfl (hb hby at_43) rfl (teq (own_nn _ : (nar .char (p1.toUInt32.toUInt16.toUInt32.toInt32)) = (p1.toUInt32.toUInt16.toUInt32.toInt32))).2 ?_
    show Steps p.tables e below (T2.setTop (mkF m 46 #[.val (.int p1), .val (.int (p1.toUInt32.toUInt16.toUInt32.toInt32)), .val (.int (nar .char (p1.toUInt32.toUInt16.toUInt32.toInt32))), .val (.int (0 : Int32)), .val (.int (p1.toUInt32.toUInt16.toUInt32.toInt32))] [])) _
    refine XS.iloadN X2.here hx rfl (hb hby at_46) rfl ?_
    show Steps p.tables e below (T2.setTop (mkF m 47 #[.val (.int p1), .val (.int (p1.toUInt32.toUInt16.toUInt32.toInt32)), .val (.int (nar .char (p1.toUInt32.toUInt16.toUInt32.toInt32))), .val (.int (0 : Int32)), .val (.int (p1.toUInt32.toUInt16.toUInt32.toInt32))] [(.int (nar .char (p1.toUInt32.toUInt16.toUInt32.toInt32)))])) _
    refine st3 _ ?_
    show Steps p.tables e below (T3.setTop (mkF m 50 #[.val (.int p1), .val (.int (p1.toUInt32.toUInt16.toUInt32.toInt32)), .val (.int (nar .char (p1.toUInt32.toUInt16.toUInt32.toInt32))), .val (.int (0 : Int32)), .val (.int (p1.toUInt32.toUInt16.toUInt32.toInt32))] [(.int (nar .char (nar .char (p1.toUInt32.toUInt16.toUInt32.toInt32))))])) _
    refine XS.iloadN X3.here hx rfl (hb hby at_50) rfl ?_
    show Steps p.tables e below (T3.setTop (mkF m 51 #[.val (.int p1), .val (.int (p1.toUInt32.toUInt16.toUInt32.toInt32)), .val (.int (nar .char (p1.toUInt32.toUInt16.toUInt32.toInt32))), .val (.int (0 : Int32)), .val (.int (p1.toUInt32.toUInt16.toUInt32.toInt32))] [(.int (nar .char (p1.toUInt32.toUInt16.toUInt32.toInt32))), (.int (nar .char (nar .char (p1.toUInt32.toUInt16.toUInt32.toInt32))))])) _
    refine XS.icmpNo X3.here hx rfl (hb hby at_51) rfl (teq (own_nar2 _ : (nar .char (nar .char (p1.toUInt32.toUInt16.toUInt32.toInt32))) = (nar .char (p1.toUInt32.toUInt16.toUInt32.toInt32)))).2 ?_
    show Steps p.tables e below (T3.setTop (mkF m 54 #[.val (.int p1), .val (.int (p1.toUInt32.toUInt16.toUInt32.toInt32)), .val (.int (nar .char (p1.toUInt32.toUInt16.toUInt32.toInt32))), .val (.int (0 : Int32)), .val (.int (p1.toUInt32.toUInt16.toUInt32.toInt32))] [])) _
    refine XS.iconst X3.here hx rfl (hb hby at_54) ?_
    show Steps p.tables e below (T3.setTop (mkF m 55 #[.val (.int p1), .val (.int (p1.toUInt32.toUInt16.toUInt32.toInt32)), .val (.int (nar .char (p1.toUInt32.toUInt16.toUInt32.toInt32))), .val (.int (0 : Int32)), .val (.int (p1.toUInt32.toUInt16.toUInt32.toInt32))] [(.int (1 : Int32))])) _
    refine XS.goto X3.here hx rfl (pc0 := 55) (pc' := 59) rfl (hb hby at_55) (by decide) (by decide) ?_
    show Steps p.tables e below (T3.setTop (mkF m 59 #[.val (.int p1), .val (.int (p1.toUInt32.toUInt16.toUInt32.toInt32)), .val (.int (nar .char (p1.toUInt32.toUInt16.toUInt32.toInt32))), .val (.int (0 : Int32)), .val (.int (p1.toUInt32.toUInt16.toUInt32.toInt32))] [(.int (1 : Int32))])) _
    exact retN X3 hx (t := .boolean) Bd.returns (by simp) (hb hby at_59) hr
  · show Q0 Z p1 h0 n0 _ T3.heap _
    exact ⟨rfl, N3⟩
set_option maxRecDepth 65536 in
set_option maxHeartbeats 40000000 in
theorem rm0g (l : Launch) (Z : State) (a0 : Array Value) (hw : ∀ d ∈ tables_1, d.before a0 Z = true) (ws : List Jvm.Cond) (p1 : Int32) (h0 : Heap) (n0 : Nat) (Z0 : n0 ≤ h0.size) (hz : (90 : Int32) < (p1.toUInt32.toUInt16.toUInt32.toInt32)) (hc17 : ¬ ((((p1.toUInt32.toUInt16.toUInt32.toInt32) - (65 : Int32)) &&& (65535 : Int32)) < (26 : Int32))) :
    MetFree l x (head1 (Jvm.Cond.code x code maxLocals ret :: ws) room_1) (fun a U => a = #[(.int p1)] ∧ Z.Warmed39 U.vm ∧ U.heap = h0) (fun _ _ _ _ _ => True) (fun _ U o U' => ∃ v L, o = .returned v ∧ Q0 Z p1 h0 n0 v U'.heap L ∧ FrameEnd U o U' L room_1.cells room_1.slots) := by
  refine MetFree.of_bodySF (plainFor_of_name pn_0) hisR ?_
  intro p e s m args below meth c s₁ Bd hml0 hP hK
  obtain ⟨rfl, hZ, hh⟩ := hP
  have hx := Bd.exec
  have hby := Bd.bytes
  have hml : c.maxLocals = 5 := hml0
  have hown : s.vm.findClass "com/example/speicher/speicher/schema/TextGramsFoldPinLaw" = some m.cls := findClass_of_methodNamed Bd.named
  have hnm := (name_of_methodNamed Bd.named Bd.method).1
  have X0 : Stand p l e room_1 s m #[(.int p1)] below meth c s₁ [] 0 0 := Stand.of_body Bd
  have e0 : s₁.heap = h0 := by rw [← hh, Bd.state]; rfl
  have N0 := Fr.nil n0
  have pre0 : ∀ t, Steps p.tables e below (s₁.setTop (mkF m 0 #[.val (.int p1), .unset, .unset, .unset, .unset] [])) t → Steps p.tables e below (s₁.setTop (entryFrame m #[(.int p1)] maxLocals)) t := fun t k => castTop (ef_0 m p1) k
  obtain ⟨_, _, ⟨T2, L2, k2, n2⟩, -, X2, ⟨Lc2, hQ2, l2, y2, z2⟩, st2⟩ := Jvm.LawKit.callS X0 hx (y := (⟨"com/example/speicher/speicher/schema/TextGrams", "fold", "(C)C"⟩ : MethodName)) hown (mvT hZ (hw _ (List.mem_of_getElem? (i := 0) rfl))) (mvT hZ (hw _ (List.mem_of_getElem? (i := 1) rfl))) (mvT hZ (hw _ (List.mem_of_getElem? (i := 2) rfl))) (mvT hZ (hw _ (List.mem_of_getElem? (i := 3) rfl))) (by decide) (backOf (W := 0) (rm1ft l Z a0 hw [] (p1.toUInt32.toUInt16.toUInt32.toInt32)  h0 n0 Z0 (own_g65 hz) hz) hZ (hw _ (List.mem_of_getElem? (i := 3) rfl)) (hw _ (List.mem_of_getElem? (i := 2) rfl)) (by decide) (by decide)) (g := (mkF m 4 #[.val (.int p1), .val (.int (p1.toUInt32.toUInt16.toUInt32.toInt32)), .unset, .unset, .unset] [(.int (p1.toUInt32.toUInt16.toUInt32.toInt32))])) rfl (by rw [hml]; rfl) (argsL := [(.int (p1.toUInt32.toUInt16.toUInt32.toInt32))]) (rest := []) (lenOf pd_0_0 rfl) rfl (by show 2 * 0 + _ ≤ _; exact Nat.le_of_eq rfl) (hb hby at_4) (fun _ _ => ⟨rfl, e0, (by decide : 0 + 0 ≤ _), (by decide : 0 + 0 ≤ _)⟩)
  dsimp only [Pt.U, Pt.locs, Pt.cells, Pt.slots] at X2 l2 y2 z2 st2 hQ2
  subst l2 y2 z2
  obtain ⟨rfl, N2q, e2⟩ := hQ2
  have N2 := Fr.app N0 N2q
  obtain ⟨_, _, ⟨T3, L3, k3, n3⟩, -, X3, ⟨Lc3, hQ3, l3, y3, z3⟩, st3⟩ := Jvm.LawKit.callS X2 hx (y := (⟨"com/example/speicher/speicher/schema/TextGrams", "fold", "(C)C"⟩ : MethodName)) hown (mvT hZ (hw _ (List.mem_of_getElem? (i := 0) rfl))) (mvT hZ (hw _ (List.mem_of_getElem? (i := 1) rfl))) (mvT hZ (hw _ (List.mem_of_getElem? (i := 2) rfl))) (mvT hZ (hw _ (List.mem_of_getElem? (i := 3) rfl))) (by decide) (backOf (W := 0) (rm1ft l Z a0 hw [] (nar .char (p1.toUInt32.toUInt16.toUInt32.toInt32))  T2.heap n0 (by rw [e2]; exact Z0) (own_g65 (by rw [own_nn]; exact hz)) (by rw [own_nn]; exact hz)) hZ (hw _ (List.mem_of_getElem? (i := 3) rfl)) (hw _ (List.mem_of_getElem? (i := 2) rfl)) (by decide) (by decide)) (g := (mkF m 47 #[.val (.int p1), .val (.int (p1.toUInt32.toUInt16.toUInt32.toInt32)), .val (.int (nar .char (p1.toUInt32.toUInt16.toUInt32.toInt32))), .val (.int (0 : Int32)), .val (.int (p1.toUInt32.toUInt16.toUInt32.toInt32))] [(.int (nar .char (p1.toUInt32.toUInt16.toUInt32.toInt32)))])) rfl (by rw [hml]; rfl) (argsL := [(.int (nar .char (p1.toUInt32.toUInt16.toUInt32.toInt32)))]) (rest := []) (lenOf pd_0_0 rfl) rfl (by show 2 * 0 + _ ≤ _; exact Nat.le_of_eq rfl) (hb hby at_47) (fun _ _ => ⟨rfl, rfl, (by decide : 0 + 0 ≤ _), (by decide : 0 + 0 ≤ _)⟩)
  dsimp only [Pt.U, Pt.locs, Pt.cells, Pt.slots] at X3 l3 y3 z3 st3 hQ3
  subst l3 y3 z3
  obtain ⟨rfl, N3q, e3⟩ := hQ3
  have N3 := Fr.app N2 N3q
  obtain ⟨fs, hr, hrun, hended, hW, hsame⟩ := X3.leave (v := some (.int (1 : Int32))) (fun h => by rw [Bd.returns] at h; cases h)
  refine ⟨_, _, pre0 _ ?_, hrun, hended, _, _, rfl, ?_, ⟨_, rfl⟩, hW, hsame.mono (by decide) (by decide)⟩
  · show Steps p.tables e below (s₁.setTop (mkF m 0 #[.val (.int p1), .unset, .unset, .unset, .unset] [])) _
    refine XS.iloadN X0.here hx rfl (hb hby at_0) rfl ?_
    show Steps p.tables e below (s₁.setTop (mkF m 1 #[.val (.int p1), .unset, .unset, .unset, .unset] [(.int p1)])) _
    refine XS.i2c X0.here hx rfl (hb hby at_1) rfl ?_
    show Steps p.tables e below (s₁.setTop (mkF m 2 #[.val (.int p1), .unset, .unset, .unset, .unset] [(.int (p1.toUInt32.toUInt16.toUInt32.toInt32))])) _
    refine XS.istoreN X0.here hx rfl (hb hby at_2) rfl (l' := #[.val (.int p1), .val (.int (p1.toUInt32.toUInt16.toUInt32.toInt32)), .unset, .unset, .unset]) rfl ?_
    show Steps p.tables e below (s₁.setTop (mkF m 3 #[.val (.int p1), .val (.int (p1.toUInt32.toUInt16.toUInt32.toInt32)), .unset, .unset, .unset] [])) _
    refine XS.iloadN X0.here hx rfl (hb hby at_3) rfl ?_
    show Steps p.tables e below (s₁.setTop (mkF m 4 #[.val (.int p1), .val (.int (p1.toUInt32.toUInt16.toUInt32.toInt32)), .unset, .unset, .unset] [(.int (p1.toUInt32.toUInt16.toUInt32.toInt32))])) _
    refine st2 _ ?_
    show Steps p.tables e below (T2.setTop (mkF m 7 #[.val (.int p1), .val (.int (p1.toUInt32.toUInt16.toUInt32.toInt32)), .unset, .unset, .unset] [(.int (nar .char (p1.toUInt32.toUInt16.toUInt32.toInt32)))])) _
    refine XS.istoreN X2.here hx rfl (hb hby at_7) rfl (l' := #[.val (.int p1), .val (.int (p1.toUInt32.toUInt16.toUInt32.toInt32)), .val (.int (nar .char (p1.toUInt32.toUInt16.toUInt32.toInt32))), .unset, .unset]) rfl ?_
    show Steps p.tables e below (T2.setTop (mkF m 8 #[.val (.int p1), .val (.int (p1.toUInt32.toUInt16.toUInt32.toInt32)), .val (.int (nar .char (p1.toUInt32.toUInt16.toUInt32.toInt32))), .unset, .unset] [])) _
    refine XS.iloadN X2.here hx rfl (hb hby at_8) rfl ?_
    show Steps p.tables e below (T2.setTop (mkF m 9 #[.val (.int p1), .val (.int (p1.toUInt32.toUInt16.toUInt32.toInt32)), .val (.int (nar .char (p1.toUInt32.toUInt16.toUInt32.toInt32))), .unset, .unset] [(.int (p1.toUInt32.toUInt16.toUInt32.toInt32))])) _
    refine XS.bipush X2.here hx rfl (hb hby at_9) ?_
    show Steps p.tables e below (T2.setTop (mkF m 11 #[.val (.int p1), .val (.int (p1.toUInt32.toUInt16.toUInt32.toInt32)), .val (.int (nar .char (p1.toUInt32.toUInt16.toUInt32.toInt32))), .unset, .unset] [(.int (65 : Int32)), (.int (p1.toUInt32.toUInt16.toUInt32.toInt32))])) _
    refine XS.isub X2.here hx rfl (hb hby at_11) rfl ?_
    show Steps p.tables e below (T2.setTop (mkF m 12 #[.val (.int p1), .val (.int (p1.toUInt32.toUInt16.toUInt32.toInt32)), .val (.int (nar .char (p1.toUInt32.toUInt16.toUInt32.toInt32))), .unset, .unset] [(.int ((p1.toUInt32.toUInt16.toUInt32.toInt32) - (65 : Int32)))])) _
    refine X2.ldcInt hx hown (mvT hZ (hw _ (List.mem_of_getElem? (i := 4) rfl))) (g := (mkF m 12 #[.val (.int p1), .val (.int (p1.toUInt32.toUInt16.toUInt32.toInt32)), .val (.int (nar .char (p1.toUInt32.toUInt16.toUInt32.toInt32))), .unset, .unset] [(.int ((p1.toUInt32.toUInt16.toUInt32.toInt32) - (65 : Int32)))])) rfl (hb hby at_12) _ ?_
    show Steps p.tables e below (T2.setTop (mkF m 14 #[.val (.int p1), .val (.int (p1.toUInt32.toUInt16.toUInt32.toInt32)), .val (.int (nar .char (p1.toUInt32.toUInt16.toUInt32.toInt32))), .unset, .unset] [(.int (65535 : Int32)), (.int ((p1.toUInt32.toUInt16.toUInt32.toInt32) - (65 : Int32)))])) _
    refine XS.iand X2.here hx rfl (hb hby at_14) rfl ?_
    show Steps p.tables e below (T2.setTop (mkF m 15 #[.val (.int p1), .val (.int (p1.toUInt32.toUInt16.toUInt32.toInt32)), .val (.int (nar .char (p1.toUInt32.toUInt16.toUInt32.toInt32))), .unset, .unset] [(.int (((p1.toUInt32.toUInt16.toUInt32.toInt32) - (65 : Int32)) &&& (65535 : Int32)))])) _
    refine XS.bipush X2.here hx rfl (hb hby at_15) ?_
    show Steps p.tables e below (T2.setTop (mkF m 17 #[.val (.int p1), .val (.int (p1.toUInt32.toUInt16.toUInt32.toInt32)), .val (.int (nar .char (p1.toUInt32.toUInt16.toUInt32.toInt32))), .unset, .unset] [(.int (26 : Int32)), (.int (((p1.toUInt32.toUInt16.toUInt32.toInt32) - (65 : Int32)) &&& (65535 : Int32)))])) _
    refine XS.icmpYes X2.here hx rfl (pc0 := 17) (pc' := 24) rfl (hb hby at_17) rfl (flt hc17).2.1 (by decide) (by decide) ?_
    show Steps p.tables e below (T2.setTop (mkF m 24 #[.val (.int p1), .val (.int (p1.toUInt32.toUInt16.toUInt32.toInt32)), .val (.int (nar .char (p1.toUInt32.toUInt16.toUInt32.toInt32))), .unset, .unset] [])) _
    refine XS.iconst X2.here hx rfl (hb hby at_24) ?_
    show Steps p.tables e below (T2.setTop (mkF m 25 #[.val (.int p1), .val (.int (p1.toUInt32.toUInt16.toUInt32.toInt32)), .val (.int (nar .char (p1.toUInt32.toUInt16.toUInt32.toInt32))), .unset, .unset] [(.int (0 : Int32))])) _
    refine XS.istoreN X2.here hx rfl (hb hby at_25) rfl (l' := #[.val (.int p1), .val (.int (p1.toUInt32.toUInt16.toUInt32.toInt32)), .val (.int (nar .char (p1.toUInt32.toUInt16.toUInt32.toInt32))), .val (.int (0 : Int32)), .unset]) rfl ?_
    show Steps p.tables e below (T2.setTop (mkF m 26 #[.val (.int p1), .val (.int (p1.toUInt32.toUInt16.toUInt32.toInt32)), .val (.int (nar .char (p1.toUInt32.toUInt16.toUInt32.toInt32))), .val (.int (0 : Int32)), .unset] [])) _
    refine XS.iloadN X2.here hx rfl (hb hby at_26) rfl ?_
    show Steps p.tables e below (T2.setTop (mkF m 27 #[.val (.int p1), .val (.int (p1.toUInt32.toUInt16.toUInt32.toInt32)), .val (.int (nar .char (p1.toUInt32.toUInt16.toUInt32.toInt32))), .val (.int (0 : Int32)), .unset] [(.int (p1.toUInt32.toUInt16.toUInt32.toInt32))])) _
    refine XS.istore X2.here hx rfl (hb hby at_27) rfl (l' := #[.val (.int p1), .val (.int (p1.toUInt32.toUInt16.toUInt32.toInt32)), .val (.int (nar .char (p1.toUInt32.toUInt16.toUInt32.toInt32))), .val (.int (0 : Int32)), .val (.int (p1.toUInt32.toUInt16.toUInt32.toInt32))]) rfl ?_
    show Steps p.tables e below (T2.setTop (mkF m 29 #[.val (.int p1), .val (.int (p1.toUInt32.toUInt16.toUInt32.toInt32)), .val (.int (nar .char (p1.toUInt32.toUInt16.toUInt32.toInt32))), .val (.int (0 : Int32)), .val (.int (p1.toUInt32.toUInt16.toUInt32.toInt32))] [])) _
    refine XS.iloadN X2.here hx rfl (hb hby at_29) rfl ?_
    show Steps p.tables e below (T2.setTop (mkF m 30 #[.val (.int p1), .val (.int (p1.toUInt32.toUInt16.toUInt32.toInt32)), .val (.int (nar .char (p1.toUInt32.toUInt16.toUInt32.toInt32))), .val (.int (0 : Int32)), .val (.int (p1.toUInt32.toUInt16.toUInt32.toInt32))] [(.int (0 : Int32))])) _
    refine XS.ifYes X2.here hx rfl (pc0 := 30) (pc' := 40) rfl (hb hby at_30) rfl ((if0 _ _).trans (teq (rfl : (0 : Int32) = (0 : Int32))).1) (by decide) (by decide) ?_
    show Steps p.tables e below (T2.setTop (mkF m 40 #[.val (.int p1), .val (.int (p1.toUInt32.toUInt16.toUInt32.toInt32)), .val (.int (nar .char (p1.toUInt32.toUInt16.toUInt32.toInt32))), .val (.int (0 : Int32)), .val (.int (p1.toUInt32.toUInt16.toUInt32.toInt32))] [])) _
    refine XS.iloadN X2.here hx rfl (hb hby at_40) rfl ?_
    show Steps p.tables e below (T2.setTop (mkF m 41 #[.val (.int p1), .val (.int (p1.toUInt32.toUInt16.toUInt32.toInt32)), .val (.int (nar .char (p1.toUInt32.toUInt16.toUInt32.toInt32))), .val (.int (0 : Int32)), .val (.int (p1.toUInt32.toUInt16.toUInt32.toInt32))] [(.int (nar .char (p1.toUInt32.toUInt16.toUInt32.toInt32)))])) _
    refine XS.iload X2.here hx rfl (hb hby at_41) rfl ?_
    show Steps p.tables e below (T2.setTop (mkF m 43 #[.val (.int p1), .val (.int (p1.toUInt32.toUInt16.toUInt32.toInt32)), .val (.int (nar .char (p1.toUInt32.toUInt16.toUInt32.toInt32))), .val (.int (0 : Int32)), .val (.int (p1.toUInt32.toUInt16.toUInt32.toInt32))] [(.int (p1.toUInt32.toUInt16.toUInt32.toInt32)), (.int (nar .char (p1.toUInt32.toUInt16.toUInt32.toInt32)))])) _
    refine XS.icmpNo X2.here hx rfl (hb hby at_43) rfl (teq (own_nn _ : (nar .char (p1.toUInt32.toUInt16.toUInt32.toInt32)) = (p1.toUInt32.toUInt16.toUInt32.toInt32))).2 ?_
    show Steps p.tables e below (T2.setTop (mkF m 46 #[.val (.int p1), .val (.int (p1.toUInt32.toUInt16.toUInt32.toInt32)), .val (.int (nar .char (p1.toUInt32.toUInt16.toUInt32.toInt32))), .val (.int (0 : Int32)), .val (.int (p1.toUInt32.toUInt16.toUInt32.toInt32))] [])) _
    refine XS.iloadN X2.here hx rfl (hb hby at_46) rfl ?_
    show Steps p.tables e below (T2.setTop (mkF m 47 #[.val (.int p1), .val (.int (p1.toUInt32.toUInt16.toUInt32.toInt32)), .val (.int (nar .char (p1.toUInt32.toUInt16.toUInt32.toInt32))), .val (.int (0 : Int32)), .val (.int (p1.toUInt32.toUInt16.toUInt32.toInt32))] [(.int (nar .char (p1.toUInt32.toUInt16.toUInt32.toInt32)))])) _
    refine st3 _ ?_
    show Steps p.tables e below (T3.setTop (mkF m 50 #[.val (.int p1), .val (.int (p1.toUInt32.toUInt16.toUInt32.toInt32)), .val (.int (nar .char (p1.toUInt32.toUInt16.toUInt32.toInt32))), .val (.int (0 : Int32)), .val (.int (p1.toUInt32.toUInt16.toUInt32.toInt32))] [(.int (nar .char (nar .char (p1.toUInt32.toUInt16.toUInt32.toInt32))))])) _
    refine XS.iloadN X3.here hx rfl (hb hby at_50) rfl ?_
    show Steps p.tables e below (T3.setTop (mkF m 51 #[.val (.int p1), .val (.int (p1.toUInt32.toUInt16.toUInt32.toInt32)), .val (.int (nar .char (p1.toUInt32.toUInt16.toUInt32.toInt32))), .val (.int (0 : Int32)), .val (.int (p1.toUInt32.toUInt16.toUInt32.toInt32))] [(.int (nar .char (p1.toUInt32.toUInt16.toUInt32.toInt32))), (.int (nar .char (nar .char (p1.toUInt32.toUInt16.toUInt32.toInt32))))])) _
    refine XS.icmpNo X3.here hx rfl (hb hby at_51) rfl (teq (own_nar2 _ : (nar .char (nar .char (p1.toUInt32.toUInt16.toUInt32.toInt32))) = (nar .char (p1.toUInt32.toUInt16.toUInt32.toInt32)))).2 ?_
    show Steps p.tables e below (T3.setTop (mkF m 54 #[.val (.int p1), .val (.int (p1.toUInt32.toUInt16.toUInt32.toInt32)), .val (.int (nar .char (p1.toUInt32.toUInt16.toUInt32.toInt32))), .val (.int (0 : Int32)), .val (.int (p1.toUInt32.toUInt16.toUInt32.toInt32))] [])) _
    refine XS.iconst X3.here hx rfl (hb hby at_54) ?_
    show Steps p.tables e below (T3.setTop (mkF m 55 #[.val (.int p1), .val (.int (p1.toUInt32.toUInt16.toUInt32.toInt32)), .val (.int (nar .char (p1.toUInt32.toUInt16.toUInt32.toInt32))), .val (.int (0 : Int32)), .val (.int (p1.toUInt32.toUInt16.toUInt32.toInt32))] [(.int (1 : Int32))])) _
    refine XS.goto X3.here hx rfl (pc0 := 55) (pc' := 59) rfl (hb hby at_55) (by decide) (by decide) ?_
    show Steps p.tables e below (T3.setTop (mkF m 59 #[.val (.int p1), .val (.int (p1.toUInt32.toUInt16.toUInt32.toInt32)), .val (.int (nar .char (p1.toUInt32.toUInt16.toUInt32.toInt32))), .val (.int (0 : Int32)), .val (.int (p1.toUInt32.toUInt16.toUInt32.toInt32))] [(.int (1 : Int32))])) _
    exact retN X3 hx (t := .boolean) Bd.returns (by simp) (hb hby at_59) hr
  · show Q0 Z p1 h0 n0 _ T3.heap _
    exact ⟨rfl, N3⟩
theorem rm0 (l : Launch) (Z : State) (a0 : Array Value) (hw : ∀ d ∈ tables_1, d.before a0 Z = true) (ws : List Jvm.Cond) (p1 : Int32) (h0 : Heap) (n0 : Nat) (Z0 : n0 ≤ h0.size) :
    MetFree l x (head1 (Jvm.Cond.code x code maxLocals ret :: ws) room_1) (fun a U => a = #[(.int p1)] ∧ Z.Warmed39 U.vm ∧ U.heap = h0) (fun _ _ _ _ _ => True) (fun _ U o U' => ∃ v L, o = .returned v ∧ Q0 Z p1 h0 n0 v U'.heap L ∧ FrameEnd U o U' L room_1.cells room_1.slots) := by
  by_cases h1 : (p1.toUInt32.toUInt16.toUInt32.toInt32) < (65 : Int32)
  · exact rm0l l Z a0 hw ws p1 h0 n0 Z0 h1 (own_out (own_rg p1) (Or.inl h1))
  · by_cases h2 : (90 : Int32) < (p1.toUInt32.toUInt16.toUInt32.toInt32)
    · exact rm0g l Z a0 hw ws p1 h0 n0 Z0 h2 (own_out (own_rg p1) (Or.inr h2))
    · exact rm0u l Z a0 hw ws p1 h0 n0 Z0 h1 h2 (own_up h1 h2).1 (by decide)
set_option maxRecDepth 65536 in
set_option maxHeartbeats 40000000 in
theorem comes_1 {Post : Tables → Env → Array Value → State → Outcome → State → Prop} (hpost : ∀ tb e args s v u, (limb_1_1.after args s (.returned v) u = true ∧ limb_1_2.after args s (.returned v) u = true ∧ True) → FrameEnd s (.returned v) u (Jvm.fieldLocs frame_1_writes args s ++ Jvm.arrayLocs frame_1_arrays args s ++ Jvm.staticLocs frame_1_statics s) 0 0 → Post tb e args s (.returned v) u) :
    ArmFor flags0 classFile x code maxLocals ret World_1 tables_1 room_1 Calls_1 rest_1 Pre_1 Post := by
  intro l hfl _ _ p e ha hc hk s m args below hf hA hF happ hP
  obtain ⟨hcalls, hrest, hpre⟩ := hP
  obtain ⟨-, -, -, hnamed, -, -, -, hat⟩ := (Spec.applies_iff hf).mp happ
  obtain ⟨hg, hn⟩ := and_e (Cond.before_iff.mp (show (Jvm.Cond.and given_1 narrow_1).before args s = true from hpre))
  obtain ⟨g4, g5⟩ := and_e hg
  obtain ⟨w0, rfl⟩ : ∃ w0 : Value, args = #[w0] := by
    have hs : args.size = 1 := by simpa [Cond.value, given_1] using g4
    obtain ⟨L⟩ := args
    match L, hs with
    | [w0], _ => exact ⟨w0, rfl⟩
  have hw := fun d (hd : d ∈ tables_1) => atoms_spec (ws := Jvm.Cond.code x code maxLocals ret :: tables_1) hat d (List.mem_cons_of_mem _ hd)
  have hfit : Fit s := fun {y c} hc i hi => by
    obtain ⟨ha, rfl⟩ := Array.getElem?_eq_some_iff.mp hc
    have q := List.all_eq_true.mp ((Array.all_eq_true_iff_forall_mem.mp hF) _ (Array.getElem_mem ha)) i (List.mem_range.mpr hi)
    simpa [Array.getElem?_eq_getElem hi] using q
  obtain ⟨i0, ei0⟩ := is_v g5
  obtain rfl : w0 = (.int i0) := Option.some.inj ei0
  obtain ⟨n, o, h1, h2, h3, _, L, rfl, ⟨rfl, N⟩, hq⟩ := rm0 l s _ hw tables_1 i0 s.heap s.heap.size (Nat.le_refl _) p e ha hc hk s m _ below hf ((Spec.applies_iff_loose hf).mp happ).1 ⟨rfl, State.Warmed39.refl s, rfl⟩ trivial
  refine ⟨n, _, h1, h2, h3, hpost _ _ _ _ _ _ ⟨Cond.after_iff.mpr rfl, Cond.after_iff.mpr (eq_i res_at (Term.int_eval (1)) rfl), trivial⟩ ⟨hq.1, hq.2.1, (hq.2.2.sift fun y hy => Or.inr (N y hy)).mono (by decide) (by decide)⟩⟩
theorem main_1_1 : Claimed_1_1 := comes_1 fun _ _ _ _ _ _ h hF => ⟨h.1, hF⟩
theorem main_1_2 : Claimed_1_2 := comes_1 fun _ _ _ _ _ _ h hF => ⟨h.2.1, hF⟩
end Jvm.Pilot.@@N@@
namespace Jvm.Pilot.@@N@@
open Jvm Jvm.ClassFile Sem Op Lib Jvm.Free Jvm.Stand Jvm.Pilot.@@N@@.Jvm.D
/-! MADE BY PROGRAM (witnessworld.py) out of the Statement's table words and the real class files: 7 classes; the members and pool entries that the words name. The judged class is class 1, her method 1. -/
namespace start1
open Jvm.ClassFile
def u (s : String) : CpInfo := .utf8 (stringToUtf16 s)
/-- a pool by its gaps: so many unusable entries, then the entry; so many at the end -/
def gap : Nat → List CpInfo → List CpInfo
  | 0, r => r
  | n + 1, r => .unusable :: gap n r
def poolList (es : List (Nat × CpInfo)) (last : Nat) : List CpInfo := es.foldr (fun e r => gap e.1 (e.2 :: r)) (gap last [])
def pool (es : List (Nat × CpInfo)) (last : Nat) : Array CpInfo := ⟨poolList es last⟩
def fileOf (pool : Array CpInfo) (this : Nat) (attrs : Array Attribute := #[]) (ms : Array MethodInfo := #[]) (fl : Nat := 33) (sup : Nat := 0) (ifs : Array Nat := #[]) (fds : Array FieldInfo := #[]) : ClassFile where
  minorVersion := 0
  majorVersion := 65
  constantPool := pool
  accessFlags := fl
  thisClass := this
  superClass := sup
  interfaces := ifs
  fields := fds
  methods := ms
  attributes := attrs
def plain (name : String) (sup : Option ClassId) : Class where
  name := name
  kind := .ordinary
  loader := none
  accessFlags := 33
  super := sup
  interfaces := #[]
  cf := none
  fields := #[]
  methods := #[]
  instanceTypes := #[]
  staticTypes := #[]
  resolved := #[]
  callSites := []
  init := .initialized
  statics := none
  mirror := none

def pool0 : Array CpInfo := pool [(5, u "<init>"), (0, u "()V"), (1, .class_ 10), (1, u "java/lang/Object")] 113

def k0m0 : Method := { name := "<init>", desc := "()V", sig := { parameters := [], returnType := none }, accessFlags := 1, code := none }
/-- java/lang/Object -/
def k0 : Class := { plain "java/lang/Object" none with
  accessFlags := 33
  interfaces := #[]
  cf := some (fileOf pool0 8 #[] #[{ accessFlags := 1, nameIndex := 5, descriptorIndex := 6, attributes := #[] }] 33 0 #[] #[])
  fields := #[]
  methods := #[k0m0]
  instanceTypes := #[]
  staticTypes := #[]
  resolved := Array.replicate 124 none
  statics := none }

def pool1 : Array CpInfo := pool [(2, .class_ 4), (1, u "java/lang/Object"), (0, u "<init>"), (0, u "()V"), (0, .methodref 8 9), (0, .class_ 10), (0, .nameAndType 11 12), (0, u "com/example/speicher/speicher/schema/TextGrams"), (0, u "fold"), (0, u "(C)C"), (0, .integer 65535), (0, .class_ 15), (0, u "com/example/speicher/speicher/schema/TextGramsFoldPinLaw"), (2, u "law"), (0, u "(I)Z")] 3

def k1m0 : Method := { name := "<init>", desc := "()V", sig := { parameters := [], returnType := none }, accessFlags := 2, code := none }
def k1c1 : Code := { maxStack := 2, maxLocals := 5, code := code, exceptionTable := #[], attributes := #[] }
def k1m1 : Method := { name := "law", desc := "(I)Z", sig := { parameters := [.int], returnType := some .boolean }, accessFlags := 9, code := some k1c1 }
/-- com/example/speicher/speicher/schema/TextGramsFoldPinLaw -/
def k1 : Class := { plain "com/example/speicher/speicher/schema/TextGramsFoldPinLaw" (some 0) with
  accessFlags := 49
  interfaces := #[]
  cf := some (fileOf pool1 14 #[] #[{ accessFlags := 2, nameIndex := 5, descriptorIndex := 6, attributes := #[] }, { accessFlags := 9, nameIndex := 18, descriptorIndex := 19, attributes := #[] }] 49 2 #[] #[])
  fields := #[]
  methods := #[k1m0, k1m1]
  instanceTypes := #[]
  staticTypes := #[]
  resolved := Array.replicate 23 none
  statics := none }

def pool2 : Array CpInfo := pool [(4, .class_ 6), (1, u "java/lang/Object"), (0, u "<init>"), (0, u "()V"), (1, .class_ 12), (1, u "com/example/speicher/speicher/schema/TextGrams"), (0, u "SPREADS"), (0, u "[J"), (18, u "fold"), (6, u "(C)C"), (4, u "PIECE"), (0, u "I"), (2, u "PLACE")] 12

def k2m0 : Method := { name := "<init>", desc := "()V", sig := { parameters := [], returnType := none }, accessFlags := 2, code := none }
def k2c1 : Code := { maxStack := 2, maxLocals := 2, code := prog_19_method_2_code, exceptionTable := #[], attributes := #[] }
def k2m1 : Method := { name := "fold", desc := "(C)C", sig := { parameters := [.char], returnType := some .char }, accessFlags := 9, code := some k2c1 }
/-- com/example/speicher/speicher/schema/TextGrams -/
def k2 : Class := { plain "com/example/speicher/speicher/schema/TextGrams" (some 0) with
  accessFlags := 33
  interfaces := #[]
  cf := some (fileOf pool2 10 #[] #[{ accessFlags := 2, nameIndex := 7, descriptorIndex := 8, attributes := #[] }, { accessFlags := 9, nameIndex := 33, descriptorIndex := 40, attributes := #[] }] 33 4 #[] #[{ accessFlags := 26, nameIndex := 45, descriptorIndex := 46, attributes := #[] }, { accessFlags := 26, nameIndex := 13, descriptorIndex := 14, attributes := #[] }, { accessFlags := 26, nameIndex := 49, descriptorIndex := 46, attributes := #[] }])
  fields := #[{ name := "PIECE", type := .int, accessFlags := 26, slot := 0, constantValue := 0 }, { name := "SPREADS", type := (.array .long), accessFlags := 26, slot := 1, constantValue := 0 }, { name := "PLACE", type := .int, accessFlags := 26, slot := 2, constantValue := 0 }]
  methods := #[k2m0, k2m1]
  instanceTypes := #[]
  staticTypes := #[.int, (.array .long), .int]
  resolved := Array.replicate 62 none
  statics := none }

def pool3 : Array CpInfo := pool [(1, u "java/lang/Cloneable"), (0, .class_ 1), (0, u "java/lang/Object"), (0, .class_ 3)] 3

/-- java/lang/Cloneable -/
def k3 : Class := { plain "java/lang/Cloneable" (some 0) with
  accessFlags := 1537
  interfaces := #[]
  cf := some (fileOf pool3 2 #[] #[] 1537 4 #[] #[])
  fields := #[]
  methods := #[]
  instanceTypes := #[]
  staticTypes := #[]
  resolved := Array.replicate 8 none
  statics := none }

def pool4 : Array CpInfo := pool [(1, u "java/io/Serializable"), (0, .class_ 1), (0, u "java/lang/Object"), (0, .class_ 3)] 3

/-- java/io/Serializable -/
def k4 : Class := { plain "java/io/Serializable" (some 0) with
  accessFlags := 1537
  interfaces := #[]
  cf := some (fileOf pool4 2 #[] #[] 1537 4 #[] #[])
  fields := #[]
  methods := #[]
  instanceTypes := #[]
  staticTypes := #[]
  resolved := Array.replicate 8 none
  statics := none }

/-- the primitive byte -/
def k5 : Class := { plain "byte" none with kind := .primitive 'B', accessFlags := 0x411 }
/-- [B -/
def k6 : Class := { plain "[B" (some 0) with kind := .array 5 .byte, interfaces := #[3, 4], accessFlags := 1041 }

def heap : Heap := #[]
def classes : Array Class := #[k0, k1, k2, k3, k4, k5, k6]
def interned : List (Array UInt16 × Addr) := []
def slotsUsed : Nat := 0
def theMethod : MethodId := ⟨1, 1⟩
def args0 : Array Value := #[.int 70]
def aboutOver (below : List Frame) : State where
  vm := { classes := classes, interned := interned.toArray }
  heap := heap
  slotsUsed := slotsUsed
  threads := #[{ frames := .invoking theMethod args0 :: below }]
def below0 : List Frame := [.native { method := ⟨0, 0⟩, args := #[] }]
def about1 : State := aboutOver below0
def p0 : Program := .bare "" "" ""
def e0 : Env := launch0.env 0 0 0
theorem w_frames : about1.frames = Frame.invoking theMethod args0 :: below0 := rfl
set_option maxRecDepth 65536 in
theorem w_args : argsFit about1.vm theMethod args0 = true := by decide +kernel
set_option maxRecDepth 65536 in
theorem w_heap : heapFits about1 = true := by decide +kernel
set_option maxRecDepth 65536 in
theorem w_runnable : about1.curStatus? = some .runnable := by decide +kernel
set_option maxRecDepth 65536 in
theorem w_alone : about1.alone = true := by decide +kernel
set_option maxRecDepth 65536 in
theorem w_named : about1.methodNamed? x = some theMethod := by decide +kernel
set_option maxRecDepth 65536 in
theorem w_hears : about1.hears theMethod below0 = true := by decide +kernel
set_option maxRecDepth 65536 in
theorem w_ripe : about1.ripe theMethod args0 below0 = true := by decide +kernel
theorem w_running : about1.status = .running := rfl
set_option maxRecDepth 65536 in
theorem w_room : about1.hasRoom e0.platform room_1 = true :=
  launch0.hasRoom_least _ room_1 (by decide +kernel) (by decide +kernel) (by decide +kernel) (by decide +kernel) (by decide +kernel) (by decide +kernel)
theorem allAtoms_all (ts : List Jvm.Cond) (a : Array Jvm.Value) (st : Jvm.State) : (allAtoms ts).before a st = ts.all (fun c => c.before a st) := by
  induction ts with
  | nil => rfl
  | cons c t ih =>
    show (Jvm.Cond.and c (allAtoms t)).before a st = _
    rw [Jvm.Cond.before_and, ih, List.all_cons]
def words1 : List Jvm.Cond := Jvm.Cond.code x code maxLocals ret :: tables_1
/-- a 'code' word, met by the world's own term for the bytes: nothing is compared byte by byte -/
theorem code_word {y : MethodName} {bytes : ByteArray} {mx : Nat} {rt : Option FieldType} {a : Array Value} {s : State} {m : MethodId} {meth : Method} {c : Code} (h1 : s.methodNamed? y = some m) (h2 : s.vm.method? m = some meth) (h3 : meth.code = some c) (h4 : c.code = bytes)
    (h5 : (c.maxLocals == mx && c.exceptionTable.isEmpty && decide (c.maxStack ≤ mostOperands) && decide (meth.sig.returnType = rt) && !meth.locks && decide (parseMethodDescriptor y.desc = some meth.sig)) = true) : (Jvm.Cond.code y bytes mx rt).before a s = true := by
  simp only [Bool.and_eq_true, beq_iff_eq, Bool.not_eq_true', decide_eq_true_eq] at h5
  obtain ⟨⟨⟨⟨⟨g1, g2⟩, g3⟩, g4⟩, g5⟩, g6⟩ := h5
  simp [Cond.before, Cond.holds, Cond.value, h1, h2, h3, h4, g1, g2, g3, g4, g5, g6]
def isCode : Jvm.Cond → Bool
  | .code _ _ _ _ => true
  | _ => false
theorem all_split {L : List Jvm.Cond} {P : Jvm.Cond → Bool} (h1 : L.all (fun c => isCode c || P c) = true) (h2 : ∀ c ∈ L.filter isCode, P c = true) : L.all P = true := by
  refine List.all_eq_true.mpr fun c hc => ?_
  have h := List.all_eq_true.mp h1 c hc
  rcases Bool.eq_false_or_eq_true (isCode c) with hi | hi
  · exact h2 c (List.mem_filter.mpr ⟨hc, hi⟩)
  · simpa [hi] using h
set_option maxRecDepth 65536 in
theorem w_c0 : (Jvm.Cond.code x code maxLocals ret).before args0 about1 = true := code_word (m := ⟨1, 1⟩) (meth := k1m1) (c := k1c1) (by decide +kernel) rfl rfl rfl (by decide +kernel)
set_option maxRecDepth 65536 in
theorem w_c1 : (Jvm.Cond.code ({ cls := "com/example/speicher/speicher/schema/TextGrams", name := "fold", desc := "(C)C" } : Jvm.MethodName) prog_19_method_2_code (2 : Nat) (Option.some Jvm.ClassFile.FieldType.char)).before args0 about1 = true := code_word (m := ⟨2, 1⟩) (meth := k2m1) (c := k2c1) (by decide +kernel) rfl rfl rfl (by decide +kernel)
def codes1 : List Jvm.Cond := [Jvm.Cond.code x code maxLocals ret, Jvm.Cond.code ({ cls := "com/example/speicher/speicher/schema/TextGrams", name := "fold", desc := "(C)C" } : Jvm.MethodName) prog_19_method_2_code (2 : Nat) (Option.some Jvm.ClassFile.FieldType.char)]
set_option maxRecDepth 65536 in
theorem codes_eq : words1.filter isCode = codes1 := rfl
theorem w_codes : ∀ c ∈ words1.filter isCode, c.before args0 about1 = true := by
  rw [codes_eq]
  intro c hc
  simp only [codes1, List.mem_cons, List.not_mem_nil, or_false] at hc
  rcases hc with rfl | rfl
  · exact w_c0
  · exact w_c1
set_option maxRecDepth 65536 in
theorem w_t1 : words1.all (fun c => isCode c || c.before args0 about1) = true := by decide +kernel
theorem w_tables : (allAtoms (Jvm.Cond.code x code maxLocals ret :: tables_1)).before args0 about1 = true := by
  rw [allAtoms_all]
  show words1.all (fun c => c.before args0 about1) = true
  refine all_split ?_ w_codes
  rw [w_t1]
set_option maxRecDepth 65536 in
theorem w_case : (Jvm.Cond.and given_1 narrow_1).before args0 about1 = true := by decide +kernel
theorem w_applies : (headSpec (Jvm.Cond.code x code maxLocals ret :: tables_1) room_1).applies x e0.platform about1 = true :=
  (Spec.applies_iff w_frames).mpr ⟨w_running, w_runnable, w_alone, w_named, w_hears, w_ripe, w_room, w_tables⟩
theorem atStart : AtStart classFile x code maxLocals ret World_1 tables_1 room_1 Calls_1 rest_1 Pre_1 launch0 p0 e0 about1 theMethod args0 below0 :=
  ⟨lists_1, trivial, launch0.admits_env _ _ _, launch0.least_env, fairChoices_fair.cas, fairChoices_fair.clock, w_frames, w_args, w_heap, w_applies, trivial, trivial, w_case⟩
end start1
theorem witness_1 : WitnessClaimed_1 := ⟨start1.p0, start1.e0, start1.about1, start1.theMethod, start1.args0, start1.below0, start1.atStart⟩
end Jvm.Pilot.@@N@@
