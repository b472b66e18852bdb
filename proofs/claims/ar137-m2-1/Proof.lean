import JvmDerived
import JvmDerived.Pilot.@@N@@Statement
import JvmDerived.Pilot.@@N@@Code
set_option linter.unusedVariables false
set_option linter.unusedSimpArgs false
@@BLOCK:NumsL.lean.txt@@
@@BLOCK:Masks.lean.txt@@
namespace Jvm.RoadKit
open Sem ClassFile Op Lib Jvm.Stand Jvm.Free Jvm.LawKit
section New
variable {p : Program} {l : Launch} {e : Env} {R : Room} {s : State} {m : MethodId} {args : Array Value} {below : List Frame} {meth : Method} {c : Code} {T : State} {locs : List Loc} {cells slots : Nat}
theorem retI (X : Stand p l e R s m args below meth c T locs cells slots) (hx : p.tables.exec = Jvm.exec) {pc : Nat} {Ls : Array Slot} {z : Int32} {rest : List Value} (hret : meth.sig.returnType = some .int) (hd : decode c.code pc = .ok (.ireturn, 1)) {fs : List Frame}
    (hl : ∀ (f : JFrame) (acts : List Action), f.method = m → f.locked = none → f.entered = [] → (doReturn e (T.setTop f) acts (some (.int z))).1 = T.setFrames fs) : Steps p.tables e below (T.setTop (mkF m pc Ls (.int z :: rest))) (T.setFrames fs) := by
  have hm' : T.vm.method? m = some meth := X.method'
  have hn : narrow .int (.int z) = .int z := rfl
  show Steps p.tables e below (T.setTop { method := m, pc := pc, locals := Ls, stack := _ :: rest, locked := none }) _
  jvm_step X.here [X.here.top, hx, hd, hm', hret, hn]
  first | (intro acts; rw [hl _ acts rfl rfl rfl]) | rw [hl _ _ rfl rfl rfl]
  exact Steps.refl _
end New
end Jvm.RoadKit
namespace Jvm.Pilot.@@N@@
open Jvm Jvm.ClassFile Sem Op Lib Jvm.Free Jvm.Stand Jvm.LawKit Jvm.RoadKit Bundle Jvm.Pilot.@@N@@.Jvm.D
/-- the int j is the place i -/
def own_ix (j : Int32) (i : Nat) : Prop := j.toInt = (i : Int)
/-- an array by its places: N of them, the j-th holds f j -/
def Ary (Z : State) (h : Heap) (a : Addr) (ty : FieldType) (N : Nat) (f : Nat → Value) : Prop := ∃ c : Cell, Arr Z h a c ty ∧ c.slots.size = N ∧ ∀ j, j < N → c.slots[j]? = some (f j)
def own_up (f : Nat → Value) (i : Nat) (v : Value) : Nat → Value := fun j => if j = i then v else f j
theorem own_up_at (f : Nat → Value) (i : Nat) (v : Value) : own_up f i v i = v := if_pos rfl
theorem own_up_ne (f : Nat → Value) {i j : Nat} (v : Value) (h : j ≠ i) : own_up f i v j = f j := if_neg h
theorem own_ixn {j : Int32} {i : Nat} (h : own_ix j i) : j.toNatClampNeg = i := by
  show j.toInt.toNat = i
  rw [show j.toInt = (i : Int) from h]; rfl
theorem own_ix0 {j : Int32} {i : Nat} (h : own_ix j i) : ¬ j < 0 := by
  rw [Int32.lt_iff_toInt_lt, show j.toInt = (i : Int) from h, show (0 : Int32).toInt = 0 from rfl]; omega
theorem own_ixc {i : Nat} (h : i < 2147483648) : own_ix (Int32.ofNat i) i := Int32.toInt_ofNat_of_lt (by omega)
theorem own_ixe {j : Int32} {i : Nat} (h : own_ix j i) : j = Int32.ofNat i := by
  apply Int32.toInt_inj.mp
  have hb := j.toInt_lt
  have h' : j.toInt = (i : Int) := h
  rw [Int32.toInt_ofNat_of_lt (by omega)]; exact h'
theorem own_ixa {j c : Int32} {i k : Nat} (h : own_ix j i) (hc : own_ix c k) (hb : i + k < 2147483648) : own_ix (j + c) (i + k) := by
  show (j + c).toInt = ((i + k : Nat) : Int)
  have h' : j.toInt = (i : Int) := h
  have hc' : c.toInt = (k : Int) := hc
  rw [Int32.toInt_add, h', hc', Int.bmod_eq_of_le (by omega) (by omega)]; omega
theorem own_ixs {j c : Int32} {i k : Nat} (h : own_ix j i) (hc : own_ix c k) (hb : k ≤ i) : own_ix (j - c) (i - k) := by
  show (j - c).toInt = ((i - k : Nat) : Int)
  have hj := j.toInt_lt
  have h' : j.toInt = (i : Int) := h
  have hc' : c.toInt = (k : Int) := hc
  rw [Int32.toInt_sub, h', hc', Int.bmod_eq_of_le (by omega) (by omega)]; omega
theorem own_ixm {j c : Int32} {i k : Nat} (h : own_ix j i) (hc : own_ix c k) (hb : k * i < 2147483648) : own_ix (c * j) (k * i) := by
  show (c * j).toInt = ((k * i : Nat) : Int)
  have h' : j.toInt = (i : Int) := h
  have hc' : c.toInt = (k : Int) := hc
  have e : (k : Int) * (i : Int) = ((k * i : Nat) : Int) := by simp
  rw [Int32.toInt_mul, h', hc', e, Int.bmod_eq_of_le (by omega) (by omega)]
theorem own_ixlt {j c : Int32} {i k : Nat} (h : own_ix j i) (hc : own_ix c k) : j < c ↔ i < k := by
  have h' : j.toInt = (i : Int) := h
  have hc' : c.toInt = (k : Int) := hc
  rw [Int32.lt_iff_toInt_lt, h', hc']; omega
theorem own_ixeq {j c : Int32} {i k : Nat} (h : own_ix j i) (hc : own_ix c k) : j = c ↔ i = k := by
  have h' : j.toInt = (i : Int) := h
  have hc' : c.toInt = (k : Int) := hc
  rw [← Int32.toInt_inj, h', hc']; omega
theorem own_exteq {h h' : Heap} (e : h' = h) : Ext h h' := by subst e; exact ⟨Nat.le_refl _, fun _ _ q => q⟩
theorem own_ni {a b : Addr} (h : a ≠ b) : a ∉ [b] := fun q => h (List.mem_singleton.mp q)
theorem Ary.lt {Z : State} {h : Heap} {a : Addr} {ty : FieldType} {N : Nat} {f : Nat → Value} (F : Ary Z h a ty N f) : a < h.size := by obtain ⟨c, A, -⟩ := F; exact A.lt
theorem Ary.ext {Z : State} {h h' : Heap} {a : Addr} {ty : FieldType} {N : Nat} {f : Nat → Value} (F : Ary Z h a ty N f) (E : Ext h h') : Ary Z h' a ty N f := by obtain ⟨c, A, r⟩ := F; exact ⟨c, A.ext E, r⟩
theorem Ary.other {Z : State} {h h' : Heap} {a b : Addr} {ty : FieldType} {N sl : Nat} {f : Nat → Value} {v : Value} (F : Ary Z h a ty N f) (W : Wr h h' b sl v) (q : a ≠ b) : Ary Z h' a ty N f := by obtain ⟨c, A, r⟩ := F; exact ⟨c, A.other W q, r⟩
theorem Ary.keep {Z : State} {h h' : Heap} {a : Addr} {ty : FieldType} {N : Nat} {f : Nat → Value} {ws : List Addr} (F : Ary Z h a ty N f) (K : Keep h h' ws) (q : a ∉ ws) : Ary Z h' a ty N f := by obtain ⟨c, A, r⟩ := F; exact ⟨c, ⟨K.2.1 a c A.1 q, A.2⟩, r⟩
theorem Ary.cong {Z : State} {h : Heap} {a : Addr} {ty : FieldType} {N : Nat} {f g : Nat → Value} (F : Ary Z h a ty N f) (q : ∀ j, j < N → f j = g j) : Ary Z h a ty N g := by obtain ⟨c, A, S, H⟩ := F; exact ⟨c, A, S, fun j hj => by rw [← q j hj]; exact H j hj⟩
theorem Ary.new {Z : State} {h : Heap} {a : Addr} {ty : FieldType} {N : Nat} {k : ClassId} {z : Int32} (A : Arr Z h a (newA k ty z) ty) (q : ¬ z < 0) (e : z.toNatClampNeg = N) : Ary Z h a ty N (fun _ => defaultValue ty) := by
  obtain ⟨c, A', -, S, -, H, -⟩ := Arv.new A q
  exact ⟨c, A', by rw [S, e], fun j hj => H j (by rw [S, e]; exact hj)⟩
theorem Ary.inn {c : Cell} {N i : Nat} {j : Int32} (S : c.slots.size = N) (ix : own_ix j i) (hi : i < N) : ¬ (j < 0 ∨ c.slots.size ≤ (j).toNatClampNeg) := by
  rw [S, own_ixn ix]
  exact fun q => q.elim (own_ix0 ix) (fun q => absurd hi (Nat.not_lt.mpr q))
theorem Ary.get {c : Cell} {N i : Nat} {j : Int32} {f : Nat → Value} (H : ∀ j, j < N → c.slots[j]? = some (f j)) (ix : own_ix j i) (hi : i < N) {v : Value} (hv : f i = v) : c.slots[(j).toNatClampNeg]? = some v := by
  rw [own_ixn ix, H i hi, hv]
theorem Ary.set {Z : State} {h h' : Heap} {a : Addr} {ty : FieldType} {N i : Nat} {f : Nat → Value} {c : Cell} {j : Int32} {v : Value} (A : Arr Z h a c ty) (S : c.slots.size = N) (H : ∀ j, j < N → c.slots[j]? = some (f j)) (W : Wr h h' a (j).toNatClampNeg v) (ix : own_ix j i) : Ary Z h' a ty N (own_up f i v) := by
  refine ⟨_, A.same W, by rw [sz_set]; exact S, fun k hk => ?_⟩
  rw [own_ixn ix]
  show (c.slots.setIfInBounds i v)[k]? = _
  rw [Array.getElem?_setIfInBounds]
  by_cases q : i = k
  · subst q
    rw [if_pos rfl, if_pos (by rw [S]; exact hk), own_up_at]
  · rw [if_neg q, own_up_ne f v (fun e => q e.symm)]
    exact H k hk
def own_pick (i : Int32) (r0 r1 r2 r3 : Int64) : Int64 := if i = 0 then r0 else if i = 1 then r1 else if i = 2 then r2 else r3
def own_rm (r0 r1 r2 r3 : Int64) : Nat → Int64
  | 0 => r0
  | 1 => r1
  | 2 => r2
  | _ => r3
theorem own_pick_rm {i : Int32} {k : Nat} (ix : own_ix i k) (hk : k ≤ 3) (r0 r1 r2 r3 : Int64) : own_pick i r0 r1 r2 r3 = own_rm r0 r1 r2 r3 k := by
  have h0 := own_ixeq ix (show own_ix (0 : Int32) 0 from rfl)
  have h1 := own_ixeq ix (show own_ix (1 : Int32) 1 from rfl)
  have h2 := own_ixeq ix (show own_ix (2 : Int32) 2 from rfl)
  rw [own_pick]
  obtain rfl | rfl | rfl | rfl : k = 0 ∨ k = 1 ∨ k = 2 ∨ k = 3 := by omega
  · rw [if_pos (h0.mpr rfl)]; rfl
  · rw [if_neg (fun q => by have := h0.mp q; omega), if_pos (h1.mpr rfl)]; rfl
  · rw [if_neg (fun q => by have := h0.mp q; omega), if_neg (fun q => by have := h1.mp q; omega), if_pos (h2.mpr rfl)]; rfl
  · rw [if_neg (fun q => by have := h0.mp q; omega), if_neg (fun q => by have := h1.mp q; omega), if_neg (fun q => by have := h2.mp q; omega)]; rfl
/-- the answer over the first N places of the path -/
def own_fit (Rm : Nat → Int64) (q : Nat → Nat) (dm : Int64) : Nat → Int32
  | 0 => 1
  | N + 1 => if lcmpW (Rm (q N)) dm < 0 then 0 else own_fit Rm q dm N
theorem own_fit_all {Rm : Nat → Int64} {q : Nat → Nat} {dm : Int64} : ∀ {N : Nat}, (∀ j, j < N → ¬ (lcmpW (Rm (q j)) dm < (0 : Int32))) → own_fit Rm q dm N = 1
  | 0, _ => rfl
  | N + 1, h => by rw [own_fit, if_neg (h N (by omega))]; exact own_fit_all (fun j hj => h j (by omega))
theorem own_fit_bad {Rm : Nat → Int64} {q : Nat → Nat} {dm : Int64} : ∀ {N : Nat}, (∃ j, j < N ∧ lcmpW (Rm (q j)) dm < (0 : Int32)) → own_fit Rm q dm N = 0
  | 0, h => by obtain ⟨j, hj, -⟩ := h; omega
  | N + 1, h => by
    rw [own_fit]
    by_cases hN : lcmpW (Rm (q N)) dm < 0
    · rw [if_pos hN]
    · rw [if_neg hN]
      obtain ⟨j, hj, hb⟩ := h
      refine own_fit_bad ⟨j, ?_, hb⟩
      by_cases e : j = N
      · subst e; exact absurd hb hN
      · omega
def own_ok (i12 k : Int32) (pv dm : Int64) : Int32 := if i12 < k then 1 else if lcmpW pv dm < 0 then 0 else 1
def own_and3 (a b c : Int32) : Int32 := if a = 0 then 0 else if b = 0 then 0 else if c = 0 then 0 else 1
theorem own_lc2 {x y : Int64} (h : x = y) : lcmpW x y = 0 := (lw_eq x y).mpr h
theorem own_fit01 {Rm : Nat → Int64} {q : Nat → Nat} {dm : Int64} (N : Nat) : own_fit Rm q dm N = 0 ∨ own_fit Rm q dm N = 1 := by
  induction N with
  | zero => exact Or.inr rfl
  | succ N ih =>
    rw [own_fit]
    by_cases h : lcmpW (Rm (q N)) dm < 0
    · rw [if_pos h]; exact Or.inl rfl
    · rw [if_neg h]; exact ih
theorem own_mask3 (x : Int32) : ∃ n : Nat, n ≤ 3 ∧ own_ix (x &&& (3 : Int32)) n := by
  have m : (x &&& (3 : Int32)).toInt = x.toInt % 2 ^ 2 := Jvm.Kit.i32_mask x 3 (k := 2) (by decide) (by decide)
  refine ⟨(x &&& (3 : Int32)).toInt.toNat, by omega, ?_⟩
  show (x &&& (3 : Int32)).toInt = _
  omega
theorem d1_0 : decode method_3_code 0 = .ok (.iload_n 0, 1) := by decide +kernel
theorem d1_1 : decode method_3_code 1 = .ok (.ifCond .ne 5, 3) := by decide +kernel
theorem d1_4 : decode method_3_code 4 = .ok (.lload_n 1, 1) := by decide +kernel
theorem d1_5 : decode method_3_code 5 = .ok (.lreturn, 1) := by decide +kernel
theorem pn_1 : plainName "com/example/sluice/sluice/NetworkFitsPinLaw" = true := by first | (simp [plainName, overriddenIn]; done) | decide +kernel
theorem ef_1 (m : MethodId) (x0 : Int32) (x1 : Int64) (x2 : Int64) (x3 : Int64) (x4 : Int64) : entryFrame m #[(.int x0), (.long x1), (.long x2), (.long x3), (.long x4)] 9 = mkF m 0 #[.val (.int x0), .val (.long x1), .second, .val (.long x2), .second, .val (.long x3), .second, .val (.long x4), .second] [] := by first | (simp [entryFrame, mkF, argsToLocals, Value.category]; done) | rfl
def Q1 (Z : State) (p1 : Int32) (q2 : Int64) (q3 : Int64) (q4 : Int64) (q5 : Int64) (h0 : Heap) (n0 : Nat) (v : Option Value) (h : Heap) (L : List Loc) : Prop := v = some (.long (own_pick p1 q2 q3 q4 q5)) ∧ Fr n0 L ∧ h = h0
set_option maxRecDepth 65536 in
set_option maxHeartbeats 40000000 in
theorem rm1f (l : Launch) (Z : State) (a0 : Array Value) (hw : ∀ d ∈ tables_1, d.before a0 Z = true) (ws : List Jvm.Cond) (p1 : Int32) (q2 : Int64) (q3 : Int64) (q4 : Int64) (q5 : Int64) (h0 : Heap) (n0 : Nat) (Z0 : n0 ≤ h0.size) (hc1 : p1 = (0 : Int32)) :
    MetFree l (⟨"com/example/sluice/sluice/NetworkFitsPinLaw", "pick", "(IJJJJ)J"⟩ : MethodName) (head1 (Jvm.Cond.code (⟨"com/example/sluice/sluice/NetworkFitsPinLaw", "pick", "(IJJJJ)J"⟩ : MethodName) method_3_code 9 (some .long) :: ws) ({ frames := 0, cells := 0, slots := 0, locals := 0 } : Room)) (fun a U => a = #[(.int p1), (.long q2), (.long q3), (.long q4), (.long q5)] ∧ Z.Warmed39 U.vm ∧ U.heap = h0) (fun _ _ _ _ _ => True) (fun _ U o U' => ∃ v L, o = .returned v ∧ Q1 Z p1 q2 q3 q4 q5 h0 n0 v U'.heap L ∧ FrameEnd U o U' L ({ frames := 0, cells := 0, slots := 0, locals := 0 } : Room).cells ({ frames := 0, cells := 0, slots := 0, locals := 0 } : Room).slots) := by
  refine MetFree.of_bodySF (plainFor_of_name pn_1) hisR ?_
  intro p e s m args below meth c s₁ Bd hml0 hP hK
  obtain ⟨rfl, hZ, hh⟩ := hP
  have hx := Bd.exec
  have hby := Bd.bytes
  have hml : c.maxLocals = 9 := hml0
  have hown : s.vm.findClass "com/example/sluice/sluice/NetworkFitsPinLaw" = some m.cls := findClass_of_methodNamed Bd.named
  have hnm := (name_of_methodNamed Bd.named Bd.method).1
  have X0 : Stand p l e ({ frames := 0, cells := 0, slots := 0, locals := 0 } : Room) s m #[(.int p1), (.long q2), (.long q3), (.long q4), (.long q5)] below meth c s₁ [] 0 0 := Stand.of_body Bd
  have e0 : s₁.heap = h0 := by rw [← hh, Bd.state]; rfl
  have N0 := Fr.nil n0
  have pre0 : ∀ t, Steps p.tables e below (s₁.setTop (mkF m 0 #[.val (.int p1), .val (.long q2), .second, .val (.long q3), .second, .val (.long q4), .second, .val (.long q5), .second] [])) t → Steps p.tables e below (s₁.setTop (entryFrame m #[(.int p1), (.long q2), (.long q3), (.long q4), (.long q5)] 9)) t := fun t k => castTop (ef_1 m p1 q2 q3 q4 q5) k
  obtain ⟨fs, hr, hrun, hended, hW, hsame⟩ := X0.leave (v := some (.long q2)) (fun h => by rw [Bd.returns] at h; cases h)
  refine ⟨_, _, pre0 _ ?_, hrun, hended, _, _, rfl, ?_, ⟨_, rfl⟩, hW, hsame.mono (by decide) (by decide)⟩
  · show Steps p.tables e below (s₁.setTop (mkF m 0 #[.val (.int p1), .val (.long q2), .second, .val (.long q3), .second, .val (.long q4), .second, .val (.long q5), .second] [])) _
    refine XS.iloadN X0.here hx rfl (hb hby d1_0) rfl ?_
    show Steps p.tables e below (s₁.setTop (mkF m 1 #[.val (.int p1), .val (.long q2), .second, .val (.long q3), .second, .val (.long q4), .second, .val (.long q5), .second] [(.int p1)])) _
    refine XS.ifNo X0.here hx rfl (hb hby d1_1) rfl ((if0 _ _).trans (teq hc1).2) ?_
    show Steps p.tables e below (s₁.setTop (mkF m 4 #[.val (.int p1), .val (.long q2), .second, .val (.long q3), .second, .val (.long q4), .second, .val (.long q5), .second] [])) _
    refine XS.lloadN X0.here hx rfl (hb hby d1_4) rfl ?_
    show Steps p.tables e below (s₁.setTop (mkF m 5 #[.val (.int p1), .val (.long q2), .second, .val (.long q3), .second, .val (.long q4), .second, .val (.long q5), .second] [(.long q2)])) _
    jvm_step X0.here [X0.here.top, hx, (hb hby d1_5), X0.method', Bd.returns, narrow]
    first | (intro acts; rw [hr _ acts rfl rfl rfl]) | rw [hr _ _ rfl rfl rfl]
    exact Steps.refl _
  · show Q1 Z p1 q2 q3 q4 q5 h0 n0 _ s₁.heap _
    rw [e0]
    exact ⟨by rw [own_pick, if_pos hc1], N0, rfl⟩
theorem d1_6 : decode method_3_code 6 = .ok (.iload_n 0, 1) := by decide +kernel
theorem d1_7 : decode method_3_code 7 = .ok (.iconst 1, 1) := by decide +kernel
theorem d1_8 : decode method_3_code 8 = .ok (.if_icmp .ne 5, 3) := by decide +kernel
theorem d1_11 : decode method_3_code 11 = .ok (.lload_n 3, 1) := by decide +kernel
theorem d1_12 : decode method_3_code 12 = .ok (.lreturn, 1) := by decide +kernel
set_option maxRecDepth 65536 in
set_option maxHeartbeats 40000000 in
theorem rm1tf (l : Launch) (Z : State) (a0 : Array Value) (hw : ∀ d ∈ tables_1, d.before a0 Z = true) (ws : List Jvm.Cond) (p1 : Int32) (q2 : Int64) (q3 : Int64) (q4 : Int64) (q5 : Int64) (h0 : Heap) (n0 : Nat) (Z0 : n0 ≤ h0.size) (hc1 : ¬ (p1 = (0 : Int32))) (hc8 : p1 = (1 : Int32)) :
    MetFree l (⟨"com/example/sluice/sluice/NetworkFitsPinLaw", "pick", "(IJJJJ)J"⟩ : MethodName) (head1 (Jvm.Cond.code (⟨"com/example/sluice/sluice/NetworkFitsPinLaw", "pick", "(IJJJJ)J"⟩ : MethodName) method_3_code 9 (some .long) :: ws) ({ frames := 0, cells := 0, slots := 0, locals := 0 } : Room)) (fun a U => a = #[(.int p1), (.long q2), (.long q3), (.long q4), (.long q5)] ∧ Z.Warmed39 U.vm ∧ U.heap = h0) (fun _ _ _ _ _ => True) (fun _ U o U' => ∃ v L, o = .returned v ∧ Q1 Z p1 q2 q3 q4 q5 h0 n0 v U'.heap L ∧ FrameEnd U o U' L ({ frames := 0, cells := 0, slots := 0, locals := 0 } : Room).cells ({ frames := 0, cells := 0, slots := 0, locals := 0 } : Room).slots) := by
  refine MetFree.of_bodySF (plainFor_of_name pn_1) hisR ?_
  intro p e s m args below meth c s₁ Bd hml0 hP hK
  obtain ⟨rfl, hZ, hh⟩ := hP
  have hx := Bd.exec
  have hby := Bd.bytes
  have hml : c.maxLocals = 9 := hml0
  have hown : s.vm.findClass "com/example/sluice/sluice/NetworkFitsPinLaw" = some m.cls := findClass_of_methodNamed Bd.named
  have hnm := (name_of_methodNamed Bd.named Bd.method).1
  have X0 : Stand p l e ({ frames := 0, cells := 0, slots := 0, locals := 0 } : Room) s m #[(.int p1), (.long q2), (.long q3), (.long q4), (.long q5)] below meth c s₁ [] 0 0 := Stand.of_body Bd
  have e0 : s₁.heap = h0 := by rw [← hh, Bd.state]; rfl
  have N0 := Fr.nil n0
  have pre0 : ∀ t, Steps p.tables e below (s₁.setTop (mkF m 0 #[.val (.int p1), .val (.long q2), .second, .val (.long q3), .second, .val (.long q4), .second, .val (.long q5), .second] [])) t → Steps p.tables e below (s₁.setTop (entryFrame m #[(.int p1), (.long q2), (.long q3), (.long q4), (.long q5)] 9)) t := fun t k => castTop (ef_1 m p1 q2 q3 q4 q5) k
  obtain ⟨fs, hr, hrun, hended, hW, hsame⟩ := X0.leave (v := some (.long q3)) (fun h => by rw [Bd.returns] at h; cases h)
  refine ⟨_, _, pre0 _ ?_, hrun, hended, _, _, rfl, ?_, ⟨_, rfl⟩, hW, hsame.mono (by decide) (by decide)⟩
  · show Steps p.tables e below (s₁.setTop (mkF m 0 #[.val (.int p1), .val (.long q2), .second, .val (.long q3), .second, .val (.long q4), .second, .val (.long q5), .second] [])) _
    refine XS.iloadN X0.here hx rfl (hb hby d1_0) rfl ?_
    show Steps p.tables e below (s₁.setTop (mkF m 1 #[.val (.int p1), .val (.long q2), .second, .val (.long q3), .second, .val (.long q4), .second, .val (.long q5), .second] [(.int p1)])) _
    refine XS.ifYes X0.here hx rfl (pc0 := 1) (pc' := 6) rfl (hb hby d1_1) rfl ((if0 _ _).trans (feq hc1).2) (by decide) (by decide) ?_
    show Steps p.tables e below (s₁.setTop (mkF m 6 #[.val (.int p1), .val (.long q2), .second, .val (.long q3), .second, .val (.long q4), .second, .val (.long q5), .second] [])) _
    refine XS.iloadN X0.here hx rfl (hb hby d1_6) rfl ?_
    show Steps p.tables e below (s₁.setTop (mkF m 7 #[.val (.int p1), .val (.long q2), .second, .val (.long q3), .second, .val (.long q4), .second, .val (.long q5), .second] [(.int p1)])) _
    refine XS.iconst X0.here hx rfl (hb hby d1_7) ?_
    show Steps p.tables e below (s₁.setTop (mkF m 8 #[.val (.int p1), .val (.long q2), .second, .val (.long q3), .second, .val (.long q4), .second, .val (.long q5), .second] [(.int (1 : Int32)), (.int p1)])) _
    refine XS.icmpNo X0.here hx rfl (hb hby d1_8) rfl (teq hc8).2 ?_
    show Steps p.tables e below (s₁.setTop (mkF m 11 #[.val (.int p1), .val (.long q2), .second, .val (.long q3), .second, .val (.long q4), .second, .val (.long q5), .second] [])) _
    refine XS.lloadN X0.here hx rfl (hb hby d1_11) rfl ?_
    show Steps p.tables e below (s₁.setTop (mkF m 12 #[.val (.int p1), .val (.long q2), .second, .val (.long q3), .second, .val (.long q4), .second, .val (.long q5), .second] [(.long q3)])) _
    jvm_step X0.here [X0.here.top, hx, (hb hby d1_12), X0.method', Bd.returns, narrow]
    first | (intro acts; rw [hr _ acts rfl rfl rfl]) | rw [hr _ _ rfl rfl rfl]
    exact Steps.refl _
  · show Q1 Z p1 q2 q3 q4 q5 h0 n0 _ s₁.heap _
    rw [e0]
    exact ⟨by rw [own_pick, if_neg hc1, if_pos hc8], N0, rfl⟩
theorem d1_13 : decode method_3_code 13 = .ok (.iload_n 0, 1) := by decide +kernel
theorem d1_14 : decode method_3_code 14 = .ok (.iconst 2, 1) := by decide +kernel
theorem d1_15 : decode method_3_code 15 = .ok (.if_icmp .ne 6, 3) := by decide +kernel
theorem d1_18 : decode method_3_code 18 = .ok (.lload 5, 2) := by decide +kernel
theorem d1_20 : decode method_3_code 20 = .ok (.lreturn, 1) := by decide +kernel
set_option maxRecDepth 65536 in
set_option maxHeartbeats 40000000 in
theorem rm1ttf (l : Launch) (Z : State) (a0 : Array Value) (hw : ∀ d ∈ tables_1, d.before a0 Z = true) (ws : List Jvm.Cond) (p1 : Int32) (q2 : Int64) (q3 : Int64) (q4 : Int64) (q5 : Int64) (h0 : Heap) (n0 : Nat) (Z0 : n0 ≤ h0.size) (hc1 : ¬ (p1 = (0 : Int32))) (hc8 : ¬ (p1 = (1 : Int32))) (hc15 : p1 = (2 : Int32)) :
    MetFree l (⟨"com/example/sluice/sluice/NetworkFitsPinLaw", "pick", "(IJJJJ)J"⟩ : MethodName) (head1 (Jvm.Cond.code (⟨"com/example/sluice/sluice/NetworkFitsPinLaw", "pick", "(IJJJJ)J"⟩ : MethodName) method_3_code 9 (some .long) :: ws) ({ frames := 0, cells := 0, slots := 0, locals := 0 } : Room)) (fun a U => a = #[(.int p1), (.long q2), (.long q3), (.long q4), (.long q5)] ∧ Z.Warmed39 U.vm ∧ U.heap = h0) (fun _ _ _ _ _ => True) (fun _ U o U' => ∃ v L, o = .returned v ∧ Q1 Z p1 q2 q3 q4 q5 h0 n0 v U'.heap L ∧ FrameEnd U o U' L ({ frames := 0, cells := 0, slots := 0, locals := 0 } : Room).cells ({ frames := 0, cells := 0, slots := 0, locals := 0 } : Room).slots) := by
  refine MetFree.of_bodySF (plainFor_of_name pn_1) hisR ?_
  intro p e s m args below meth c s₁ Bd hml0 hP hK
  obtain ⟨rfl, hZ, hh⟩ := hP
  have hx := Bd.exec
  have hby := Bd.bytes
  have hml : c.maxLocals = 9 := hml0
  have hown : s.vm.findClass "com/example/sluice/sluice/NetworkFitsPinLaw" = some m.cls := findClass_of_methodNamed Bd.named
  have hnm := (name_of_methodNamed Bd.named Bd.method).1
  have X0 : Stand p l e ({ frames := 0, cells := 0, slots := 0, locals := 0 } : Room) s m #[(.int p1), (.long q2), (.long q3), (.long q4), (.long q5)] below meth c s₁ [] 0 0 := Stand.of_body Bd
  have e0 : s₁.heap = h0 := by rw [← hh, Bd.state]; rfl
  have N0 := Fr.nil n0
  have pre0 : ∀ t, Steps p.tables e below (s₁.setTop (mkF m 0 #[.val (.int p1), .val (.long q2), .second, .val (.long q3), .second, .val (.long q4), .second, .val (.long q5), .second] [])) t → Steps p.tables e below (s₁.setTop (entryFrame m #[(.int p1), (.long q2), (.long q3), (.long q4), (.long q5)] 9)) t := fun t k => castTop (ef_1 m p1 q2 q3 q4 q5) k
  obtain ⟨fs, hr, hrun, hended, hW, hsame⟩ := X0.leave (v := some (.long q4)) (fun h => by rw [Bd.returns] at h; cases h)
  refine ⟨_, _, pre0 _ ?_, hrun, hended, _, _, rfl, ?_, ⟨_, rfl⟩, hW, hsame.mono (by decide) (by decide)⟩
  · show Steps p.tables e below (s₁.setTop (mkF m 0 #[.val (.int p1), .val (.long q2), .second, .val (.long q3), .second, .val (.long q4), .second, .val (.long q5), .second] [])) _
    refine XS.iloadN X0.here hx rfl (hb hby d1_0) rfl ?_
    show Steps p.tables e below (s₁.setTop (mkF m 1 #[.val (.int p1), .val (.long q2), .second, .val (.long q3), .second, .val (.long q4), .second, .val (.long q5), .second] [(.int p1)])) _
    refine XS.ifYes X0.here hx rfl (pc0 := 1) (pc' := 6) rfl (hb hby d1_1) rfl ((if0 _ _).trans (feq hc1).2) (by decide) (by decide) ?_
    show Steps p.tables e below (s₁.setTop (mkF m 6 #[.val (.int p1), .val (.long q2), .second, .val (.long q3), .second, .val (.long q4), .second, .val (.long q5), .second] [])) _
    refine XS.iloadN X0.here hx rfl (hb hby d1_6) rfl ?_
    show Steps p.tables e below (s₁.setTop (mkF m 7 #[.val (.int p1), .val (.long q2), .second, .val (.long q3), .second, .val (.long q4), .second, .val (.long q5), .second] [(.int p1)])) _
    refine XS.iconst X0.here hx rfl (hb hby d1_7) ?_
    show Steps p.tables e below (s₁.setTop (mkF m 8 #[.val (.int p1), .val (.long q2), .second, .val (.long q3), .second, .val (.long q4), .second, .val (.long q5), .second] [(.int (1 : Int32)), (.int p1)])) _
    refine XS.icmpYes X0.here hx rfl (pc0 := 8) (pc' := 13) rfl (hb hby d1_8) rfl (feq hc8).2 (by decide) (by decide) ?_
    show Steps p.tables e below (s₁.setTop (mkF m 13 #[.val (.int p1), .val (.long q2), .second, .val (.long q3), .second, .val (.long q4), .second, .val (.long q5), .second] [])) _
    refine XS.iloadN X0.here hx rfl (hb hby d1_13) rfl ?_
    show Steps p.tables e below (s₁.setTop (mkF m 14 #[.val (.int p1), .val (.long q2), .second, .val (.long q3), .second, .val (.long q4), .second, .val (.long q5), .second] [(.int p1)])) _
    refine XS.iconst X0.here hx rfl (hb hby d1_14) ?_
    show Steps p.tables e below (s₁.setTop (mkF m 15 #[.val (.int p1), .val (.long q2), .second, .val (.long q3), .second, .val (.long q4), .second, .val (.long q5), .second] [(.int (2 : Int32)), (.int p1)])) _
    refine XS.icmpNo X0.here hx rfl (hb hby d1_15) rfl (teq hc15).2 ?_
    show Steps p.tables e below (s₁.setTop (mkF m 18 #[.val (.int p1), .val (.long q2), .second, .val (.long q3), .second, .val (.long q4), .second, .val (.long q5), .second] [])) _
    refine XS.lload X0.here hx rfl (hb hby d1_18) rfl ?_
    show Steps p.tables e below (s₁.setTop (mkF m 20 #[.val (.int p1), .val (.long q2), .second, .val (.long q3), .second, .val (.long q4), .second, .val (.long q5), .second] [(.long q4)])) _
    jvm_step X0.here [X0.here.top, hx, (hb hby d1_20), X0.method', Bd.returns, narrow]
    first | (intro acts; rw [hr _ acts rfl rfl rfl]) | rw [hr _ _ rfl rfl rfl]
    exact Steps.refl _
  · show Q1 Z p1 q2 q3 q4 q5 h0 n0 _ s₁.heap _
    rw [e0]
    exact ⟨by rw [own_pick, if_neg hc1, if_neg hc8, if_pos hc15], N0, rfl⟩
theorem d1_21 : decode method_3_code 21 = .ok (.lload 7, 2) := by decide +kernel
theorem d1_23 : decode method_3_code 23 = .ok (.lreturn, 1) := by decide +kernel
set_option maxRecDepth 65536 in
set_option maxHeartbeats 40000000 in
theorem rm1ttt (l : Launch) (Z : State) (a0 : Array Value) (hw : ∀ d ∈ tables_1, d.before a0 Z = true) (ws : List Jvm.Cond) (p1 : Int32) (q2 : Int64) (q3 : Int64) (q4 : Int64) (q5 : Int64) (h0 : Heap) (n0 : Nat) (Z0 : n0 ≤ h0.size) (hc1 : ¬ (p1 = (0 : Int32))) (hc8 : ¬ (p1 = (1 : Int32))) (hc15 : ¬ (p1 = (2 : Int32))) :
    MetFree l (⟨"com/example/sluice/sluice/NetworkFitsPinLaw", "pick", "(IJJJJ)J"⟩ : MethodName) (head1 (Jvm.Cond.code (⟨"com/example/sluice/sluice/NetworkFitsPinLaw", "pick", "(IJJJJ)J"⟩ : MethodName) method_3_code 9 (some .long) :: ws) ({ frames := 0, cells := 0, slots := 0, locals := 0 } : Room)) (fun a U => a = #[(.int p1), (.long q2), (.long q3), (.long q4), (.long q5)] ∧ Z.Warmed39 U.vm ∧ U.heap = h0) (fun _ _ _ _ _ => True) (fun _ U o U' => ∃ v L, o = .returned v ∧ Q1 Z p1 q2 q3 q4 q5 h0 n0 v U'.heap L ∧ FrameEnd U o U' L ({ frames := 0, cells := 0, slots := 0, locals := 0 } : Room).cells ({ frames := 0, cells := 0, slots := 0, locals := 0 } : Room).slots) := by
  refine MetFree.of_bodySF (plainFor_of_name pn_1) hisR ?_
  intro p e s m args below meth c s₁ Bd hml0 hP hK
  obtain ⟨rfl, hZ, hh⟩ := hP
  have hx := Bd.exec
  have hby := Bd.bytes
  have hml : c.maxLocals = 9 := hml0
  have hown : s.vm.findClass "com/example/sluice/sluice/NetworkFitsPinLaw" = some m.cls := findClass_of_methodNamed Bd.named
  have hnm := (name_of_methodNamed Bd.named Bd.method).1
  have X0 : Stand p l e ({ frames := 0, cells := 0, slots := 0, locals := 0 } : Room) s m #[(.int p1), (.long q2), (.long q3), (.long q4), (.long q5)] below meth c s₁ [] 0 0 := Stand.of_body Bd
  have e0 : s₁.heap = h0 := by rw [← hh, Bd.state]; rfl
  have N0 := Fr.nil n0
  have pre0 : ∀ t, Steps p.tables e below (s₁.setTop (mkF m 0 #[.val (.int p1), .val (.long q2), .second, .val (.long q3), .second, .val (.long q4), .second, .val (.long q5), .second] [])) t → Steps p.tables e below (s₁.setTop (entryFrame m #[(.int p1), (.long q2), (.long q3), (.long q4), (.long q5)] 9)) t := fun t k => castTop (ef_1 m p1 q2 q3 q4 q5) k
  obtain ⟨fs, hr, hrun, hended, hW, hsame⟩ := X0.leave (v := some (.long q5)) (fun h => by rw [Bd.returns] at h; cases h)
  refine ⟨_, _, pre0 _ ?_, hrun, hended, _, _, rfl, ?_, ⟨_, rfl⟩, hW, hsame.mono (by decide) (by decide)⟩
  · show Steps p.tables e below (s₁.setTop (mkF m 0 #[.val (.int p1), .val (.long q2), .second, .val (.long q3), .second, .val (.long q4), .second, .val (.long q5), .second] [])) _
    refine XS.iloadN X0.here hx rfl (hb hby d1_0) rfl ?_
    show Steps p.tables e below (s₁.setTop (mkF m 1 #[.val (.int p1), .val (.long q2), .second, .val (.long q3), .second, .val (.long q4), .second, .val (.long q5), .second] [(.int p1)])) _
    refine XS.ifYes X0.here hx rfl (pc0 := 1) (pc' := 6) rfl (hb hby d1_1) rfl ((if0 _ _).trans (feq hc1).2) (by decide) (by decide) ?_
    show Steps p.tables e below (s₁.setTop (mkF m 6 #[.val (.int p1), .val (.long q2), .second, .val (.long q3), .second, .val (.long q4), .second, .val (.long q5), .second] [])) _
    refine XS.iloadN X0.here hx rfl (hb hby d1_6) rfl ?_
    show Steps p.tables e below (s₁.setTop (mkF m 7 #[.val (.int p1), .val (.long q2), .second, .val (.long q3), .second, .val (.long q4), .second, .val (.long q5), .second] [(.int p1)])) _
    refine XS.iconst X0.here hx rfl (hb hby d1_7) ?_
    show Steps p.tables e below (s₁.setTop (mkF m 8 #[.val (.int p1), .val (.long q2), .second, .val (.long q3), .second, .val (.long q4), .second, .val (.long q5), .second] [(.int (1 : Int32)), (.int p1)])) _
    refine XS.icmpYes X0.here hx rfl (pc0 := 8) (pc' := 13) rfl (hb hby d1_8) rfl (feq hc8).2 (by decide) (by decide) ?_
    show Steps p.tables e below (s₁.setTop (mkF m 13 #[.val (.int p1), .val (.long q2), .second, .val (.long q3), .second, .val (.long q4), .second, .val (.long q5), .second] [])) _
    refine XS.iloadN X0.here hx rfl (hb hby d1_13) rfl ?_
    show Steps p.tables e below (s₁.setTop (mkF m 14 #[.val (.int p1), .val (.long q2), .second, .val (.long q3), .second, .val (.long q4), .second, .val (.long q5), .second] [(.int p1)])) _
    refine XS.iconst X0.here hx rfl (hb hby d1_14) ?_
    show Steps p.tables e below (s₁.setTop (mkF m 15 #[.val (.int p1), .val (.long q2), .second, .val (.long q3), .second, .val (.long q4), .second, .val (.long q5), .second] [(.int (2 : Int32)), (.int p1)])) _
    refine XS.icmpYes X0.here hx rfl (pc0 := 15) (pc' := 21) rfl (hb hby d1_15) rfl (feq hc15).2 (by decide) (by decide) ?_
    show Steps p.tables e below (s₁.setTop (mkF m 21 #[.val (.int p1), .val (.long q2), .second, .val (.long q3), .second, .val (.long q4), .second, .val (.long q5), .second] [])) _
    refine XS.lload X0.here hx rfl (hb hby d1_21) rfl ?_
    show Steps p.tables e below (s₁.setTop (mkF m 23 #[.val (.int p1), .val (.long q2), .second, .val (.long q3), .second, .val (.long q4), .second, .val (.long q5), .second] [(.long q5)])) _
    jvm_step X0.here [X0.here.top, hx, (hb hby d1_23), X0.method', Bd.returns, narrow]
    first | (intro acts; rw [hr _ acts rfl rfl rfl]) | rw [hr _ _ rfl rfl rfl]
    exact Steps.refl _
  · show Q1 Z p1 q2 q3 q4 q5 h0 n0 _ s₁.heap _
    rw [e0]
    exact ⟨by rw [own_pick, if_neg hc1, if_neg hc8, if_neg hc15], N0, rfl⟩
theorem rm1 (l : Launch) (Z : State) (a0 : Array Value) (hw : ∀ d ∈ tables_1, d.before a0 Z = true) (ws : List Jvm.Cond) (p1 : Int32) (q2 : Int64) (q3 : Int64) (q4 : Int64) (q5 : Int64) (h0 : Heap) (n0 : Nat) (Z0 : n0 ≤ h0.size) :
    MetFree l (⟨"com/example/sluice/sluice/NetworkFitsPinLaw", "pick", "(IJJJJ)J"⟩ : MethodName) (head1 (Jvm.Cond.code (⟨"com/example/sluice/sluice/NetworkFitsPinLaw", "pick", "(IJJJJ)J"⟩ : MethodName) method_3_code 9 (some .long) :: ws) ({ frames := 0, cells := 0, slots := 0, locals := 0 } : Room)) (fun a U => a = #[(.int p1), (.long q2), (.long q3), (.long q4), (.long q5)] ∧ Z.Warmed39 U.vm ∧ U.heap = h0) (fun _ _ _ _ _ => True) (fun _ U o U' => ∃ v L, o = .returned v ∧ Q1 Z p1 q2 q3 q4 q5 h0 n0 v U'.heap L ∧ FrameEnd U o U' L ({ frames := 0, cells := 0, slots := 0, locals := 0 } : Room).cells ({ frames := 0, cells := 0, slots := 0, locals := 0 } : Room).slots) := by
  by_cases h1 : p1 = (0 : Int32)
  · exact rm1f l Z a0 hw ws p1 q2 q3 q4 q5 h0 n0 Z0 h1
  · by_cases h2 : p1 = (1 : Int32)
    · exact rm1tf l Z a0 hw ws p1 q2 q3 q4 q5 h0 n0 Z0 h1 h2
    · by_cases h3 : p1 = (2 : Int32)
      · exact rm1ttf l Z a0 hw ws p1 q2 q3 q4 q5 h0 n0 Z0 h1 h2 h3
      · exact rm1ttt l Z a0 hw ws p1 q2 q3 q4 q5 h0 n0 Z0 h1 h2 h3
theorem d2_0 : decode prog_24_method_32_code 0 = .ok (.aload_n 0, 1) := by decide +kernel
theorem d2_1 : decode prog_24_method_32_code 1 = .ok (.astore 4, 2) := by decide +kernel
theorem d2_3 : decode prog_24_method_32_code 3 = .ok (.aload 4, 2) := by decide +kernel
theorem d2_5 : decode prog_24_method_32_code 5 = .ok (.arraylength, 1) := by decide +kernel
theorem d2_6 : decode prog_24_method_32_code 6 = .ok (.istore 5, 2) := by decide +kernel
theorem d2_8 : decode prog_24_method_32_code 8 = .ok (.iconst 0, 1) := by decide +kernel
theorem d2_9 : decode prog_24_method_32_code 9 = .ok (.istore 6, 2) := by decide +kernel
set_option maxRecDepth 65536 in
set_option maxHeartbeats 40000000 in
theorem tn2_0_11 {p : Program} {l : Launch} {e : Env} {R : Room} {s : State} {m : MethodId} {args : Array Value} {below : List Frame} {meth : Method} {c : Code} {T0 : State} {locs : List Loc} {cells slots : Nat} {Z : State} {a0 : Array Value} {h0 : Heap} (o0 : Addr) (o1 : Addr) (j2 : Int64) (N_o0 : Nat) (f_o0 : Nat → Value)
    (X0 : Stand p l e R s m args below meth c T0 locs cells slots) (hx : p.tables.exec = Jvm.exec) (hZ : Z.Warmed39 s.vm) (hw : ∀ d ∈ tables_1, d.before a0 Z = true) (hby : c.code = prog_24_method_32_code) (hml : c.maxLocals = 8) (hown : s.vm.findClass "com/example/sluice/sluice/Network" = some m.cls) (e0 : T0.heap = h0) (V_o0 : Ary Z h0 o0 .int N_o0 f_o0) :
    ∃ (T' : State), Stand p l e R s m args below meth c T' locs cells slots ∧ T'.heap = h0 ∧
      ∀ target, Steps p.tables e below (T'.setTop (mkF m 11 #[.val (.ref o0), .val (.ref o1), .val (.long j2), .second, .val (.ref o0), .val (.int (Int32.ofNat N_o0)), .val (.int (0 : Int32)), .unset] [])) target → Steps p.tables e below (T0.setTop (mkF m 0 #[.val (.ref o0), .val (.ref o1), .val (.long j2), .second, .unset, .unset, .unset, .unset] [])) target := by
  obtain ⟨cl_5, Ar_5, S_5, H_5⟩ := id V_o0
  refine ⟨T0, X0, e0, fun target kt => ?_⟩
  show Steps p.tables e below (T0.setTop (mkF m 0 #[.val (.ref o0), .val (.ref o1), .val (.long j2), .second, .unset, .unset, .unset, .unset] [])) _
  refine XS.aloadN X0.here hx rfl (hb hby d2_0) rfl rfl ?_
  show Steps p.tables e below (T0.setTop (mkF m 1 #[.val (.ref o0), .val (.ref o1), .val (.long j2), .second, .unset, .unset, .unset, .unset] [(.ref o0)])) _
  refine XS.astore X0.here hx rfl (hb hby d2_1) rfl rfl (l' := #[.val (.ref o0), .val (.ref o1), .val (.long j2), .second, .val (.ref o0), .unset, .unset, .unset]) rfl ?_
  show Steps p.tables e below (T0.setTop (mkF m 3 #[.val (.ref o0), .val (.ref o1), .val (.long j2), .second, .val (.ref o0), .unset, .unset, .unset] [])) _
  refine XS.aload X0.here hx rfl (hb hby d2_3) rfl rfl ?_
  show Steps p.tables e below (T0.setTop (mkF m 5 #[.val (.ref o0), .val (.ref o1), .val (.long j2), .second, .val (.ref o0), .unset, .unset, .unset] [(.ref o0)])) _
  refine X0.arraylength hx (by rw [e0]; exact Ar_5.1) (State.isArrayOf_alike hZ.alike Ar_5.2.1) (g := (mkF m 5 #[.val (.ref o0), .val (.ref o1), .val (.long j2), .second, .val (.ref o0), .unset, .unset, .unset] [(.ref o0)])) rfl rfl (hb hby d2_5) _ ?_
  rw [S_5]
  show Steps p.tables e below (T0.setTop (mkF m 6 #[.val (.ref o0), .val (.ref o1), .val (.long j2), .second, .val (.ref o0), .unset, .unset, .unset] [(.int (Int32.ofNat N_o0))])) _
  refine XS.istore X0.here hx rfl (hb hby d2_6) rfl (l' := #[.val (.ref o0), .val (.ref o1), .val (.long j2), .second, .val (.ref o0), .val (.int (Int32.ofNat N_o0)), .unset, .unset]) rfl ?_
  show Steps p.tables e below (T0.setTop (mkF m 8 #[.val (.ref o0), .val (.ref o1), .val (.long j2), .second, .val (.ref o0), .val (.int (Int32.ofNat N_o0)), .unset, .unset] [])) _
  refine XS.iconst X0.here hx rfl (hb hby d2_8) ?_
  show Steps p.tables e below (T0.setTop (mkF m 9 #[.val (.ref o0), .val (.ref o1), .val (.long j2), .second, .val (.ref o0), .val (.int (Int32.ofNat N_o0)), .unset, .unset] [(.int (0 : Int32))])) _
  refine XS.istore X0.here hx rfl (hb hby d2_9) rfl (l' := #[.val (.ref o0), .val (.ref o1), .val (.long j2), .second, .val (.ref o0), .val (.int (Int32.ofNat N_o0)), .val (.int (0 : Int32)), .unset]) rfl ?_
  exact kt
theorem d2_11 : decode prog_24_method_32_code 11 = .ok (.iload 6, 2) := by decide +kernel
theorem d2_13 : decode prog_24_method_32_code 13 = .ok (.iload 5, 2) := by decide +kernel
theorem d2_15 : decode prog_24_method_32_code 15 = .ok (.if_icmp .ge 27, 3) := by decide +kernel
theorem d2_18 : decode prog_24_method_32_code 18 = .ok (.aload 4, 2) := by decide +kernel
theorem d2_20 : decode prog_24_method_32_code 20 = .ok (.iload 6, 2) := by decide +kernel
theorem d2_22 : decode prog_24_method_32_code 22 = .ok (.iaload, 1) := by decide +kernel
theorem d2_23 : decode prog_24_method_32_code 23 = .ok (.istore 7, 2) := by decide +kernel
theorem d2_25 : decode prog_24_method_32_code 25 = .ok (.aload_n 1, 1) := by decide +kernel
theorem d2_26 : decode prog_24_method_32_code 26 = .ok (.iload 7, 2) := by decide +kernel
theorem d2_28 : decode prog_24_method_32_code 28 = .ok (.laload, 1) := by decide +kernel
theorem d2_29 : decode prog_24_method_32_code 29 = .ok (.lload_n 2, 1) := by decide +kernel
theorem d2_30 : decode prog_24_method_32_code 30 = .ok (.lcmp, 1) := by decide +kernel
theorem d2_31 : decode prog_24_method_32_code 31 = .ok (.ifCond .ge 5, 3) := by decide +kernel
theorem d2_36 : decode prog_24_method_32_code 36 = .ok (.iinc 6 1, 3) := by decide +kernel
theorem d2_39 : decode prog_24_method_32_code 39 = .ok (.goto (-28), 3) := by decide +kernel
theorem os2_23 {s0 : Slot} {z1 : Value} {z2 : Value} {z4 : Value} {z5 : Value} {z6 : Value} {s7 : Slot} {v : Int32} (h : One s7) : storeLocals #[s0, .val z1, .val z2, .second, .val z4, .val z5, .val z6, s7] 7 (.int v) = some #[s0, .val z1, .val z2, .second, .val z4, .val z5, .val z6, .val (.int v)] := by
  rcases h with rfl | ⟨w, rfl, hw⟩
  · rfl
  · cases w <;> first | rfl | (simp [Value.category] at hw)
set_option maxRecDepth 65536 in
set_option maxHeartbeats 40000000 in
theorem tn2_11_11 {p : Program} {l : Launch} {e : Env} {R : Room} {s : State} {m : MethodId} {args : Array Value} {below : List Frame} {meth : Method} {c : Code} {T0 : State} {locs : List Loc} {cells slots : Nat} {Z : State} {a0 : Array Value} {h0 : Heap} (s0 : Slot) (o1 : Addr) (j2 : Int64) (o4 : Addr) (i5 : Int32) (i6 : Int32) (s7 : Slot) (i : Nat) (k : Nat) (w : Int32) (r : Int64) (N_o4 : Nat) (f_o4 : Nat → Value) (f_o1 : Nat → Value)
    (X0 : Stand p l e R s m args below meth c T0 locs cells slots) (hx : p.tables.exec = Jvm.exec) (hZ : Z.Warmed39 s.vm) (hw : ∀ d ∈ tables_1, d.before a0 Z = true) (hby : c.code = prog_24_method_32_code) (hml : c.maxLocals = 8) (hown : s.vm.findClass "com/example/sluice/sluice/Network" = some m.cls) (e0 : T0.heap = h0) (ix : own_ix i6 i) (hi : i < N_o4) (hv : f_o4 i = .int w) (ixw : own_ix w k) (hk : k < 4) (hr : f_o1 k = .long r) (V_o4 : Ary Z h0 o4 .int N_o4 f_o4) (hs7 : One s7) (V_o1 : Ary Z h0 o1 .long 4 f_o1) (hc15 : i6 < i5) (hc31 : ¬ ((lcmpW r j2) < (0 : Int32))) :
    ∃ (T' : State), Stand p l e R s m args below meth c T' locs cells slots ∧ T'.heap = h0 ∧
      ∀ target, Steps p.tables e below (T'.setTop (mkF m 11 #[s0, .val (.ref o1), .val (.long j2), .second, .val (.ref o4), .val (.int i5), .val (.int (i6 + (1 : Int32))), .val (.int w)] [])) target → Steps p.tables e below (T0.setTop (mkF m 11 #[s0, .val (.ref o1), .val (.long j2), .second, .val (.ref o4), .val (.int i5), .val (.int i6), s7] [])) target := by
  obtain ⟨cl_22, Ar_22, S_22, H_22⟩ := id V_o4
  have hin22 := Ary.inn S_22 ix hi
  have hat22 := Ary.get H_22 ix hi (v := (.int w)) hv
  obtain ⟨cl_28, Ar_28, S_28, H_28⟩ := id V_o1
  have hin28 := Ary.inn S_28 ixw hk
  have hat28 := Ary.get H_28 ixw hk (v := (.long r)) hr
  refine ⟨T0, X0, e0, fun target kt => ?_⟩
  show Steps p.tables e below (T0.setTop (mkF m 11 #[s0, .val (.ref o1), .val (.long j2), .second, .val (.ref o4), .val (.int i5), .val (.int i6), s7] [])) _
  refine XS.iload X0.here hx rfl (hb hby d2_11) rfl ?_
  show Steps p.tables e below (T0.setTop (mkF m 13 #[s0, .val (.ref o1), .val (.long j2), .second, .val (.ref o4), .val (.int i5), .val (.int i6), s7] [(.int i6)])) _
  refine XS.iload X0.here hx rfl (hb hby d2_13) rfl ?_
  show Steps p.tables e below (T0.setTop (mkF m 15 #[s0, .val (.ref o1), .val (.long j2), .second, .val (.ref o4), .val (.int i5), .val (.int i6), s7] [(.int i5), (.int i6)])) _
  refine XS.icmpNo X0.here hx rfl (hb hby d2_15) rfl (tlt hc15).2.1 ?_
  show Steps p.tables e below (T0.setTop (mkF m 18 #[s0, .val (.ref o1), .val (.long j2), .second, .val (.ref o4), .val (.int i5), .val (.int i6), s7] [])) _
  refine XS.aload X0.here hx rfl (hb hby d2_18) rfl rfl ?_
  show Steps p.tables e below (T0.setTop (mkF m 20 #[s0, .val (.ref o1), .val (.long j2), .second, .val (.ref o4), .val (.int i5), .val (.int i6), s7] [(.ref o4)])) _
  refine XS.iload X0.here hx rfl (hb hby d2_20) rfl ?_
  show Steps p.tables e below (T0.setTop (mkF m 22 #[s0, .val (.ref o1), .val (.long j2), .second, .val (.ref o4), .val (.int i5), .val (.int i6), s7] [(.int i6), (.ref o4)])) _
  refine X0.iaload hx (j := i6) (v := (.int w)) (by rw [e0]; exact Ar_22.1) (State.isArrayOf_alike hZ.alike Ar_22.2.1) Ar_22.2.2 hin22 hat22 (g := (mkF m 22 #[s0, .val (.ref o1), .val (.long j2), .second, .val (.ref o4), .val (.int i5), .val (.int i6), s7] [(.int i6), (.ref o4)])) rfl rfl (hb hby d2_22) _ ?_
  show Steps p.tables e below (T0.setTop (mkF m 23 #[s0, .val (.ref o1), .val (.long j2), .second, .val (.ref o4), .val (.int i5), .val (.int i6), s7] [(.int w)])) _
  refine XS.istore X0.here hx rfl (hb hby d2_23) rfl (l' := #[s0, .val (.ref o1), .val (.long j2), .second, .val (.ref o4), .val (.int i5), .val (.int i6), .val (.int w)]) (os2_23 hs7) ?_
  show Steps p.tables e below (T0.setTop (mkF m 25 #[s0, .val (.ref o1), .val (.long j2), .second, .val (.ref o4), .val (.int i5), .val (.int i6), .val (.int w)] [])) _
  refine XS.aloadN X0.here hx rfl (hb hby d2_25) rfl rfl ?_
  show Steps p.tables e below (T0.setTop (mkF m 26 #[s0, .val (.ref o1), .val (.long j2), .second, .val (.ref o4), .val (.int i5), .val (.int i6), .val (.int w)] [(.ref o1)])) _
  refine XS.iload X0.here hx rfl (hb hby d2_26) rfl ?_
  show Steps p.tables e below (T0.setTop (mkF m 28 #[s0, .val (.ref o1), .val (.long j2), .second, .val (.ref o4), .val (.int i5), .val (.int i6), .val (.int w)] [(.int w), (.ref o1)])) _
  refine X0.laload hx (j := w) (v := (.long r)) (by rw [e0]; exact Ar_28.1) (State.isArrayOf_alike hZ.alike Ar_28.2.1) Ar_28.2.2 hin28 hat28 (g := (mkF m 28 #[s0, .val (.ref o1), .val (.long j2), .second, .val (.ref o4), .val (.int i5), .val (.int i6), .val (.int w)] [(.int w), (.ref o1)])) rfl rfl (hb hby d2_28) _ ?_
  show Steps p.tables e below (T0.setTop (mkF m 29 #[s0, .val (.ref o1), .val (.long j2), .second, .val (.ref o4), .val (.int i5), .val (.int i6), .val (.int w)] [(.long r)])) _
  refine XS.lloadN X0.here hx rfl (hb hby d2_29) rfl ?_
  show Steps p.tables e below (T0.setTop (mkF m 30 #[s0, .val (.ref o1), .val (.long j2), .second, .val (.ref o4), .val (.int i5), .val (.int i6), .val (.int w)] [(.long j2), (.long r)])) _
  refine XS.lcmp X0.here hx rfl (hb hby d2_30) rfl ?_
  show Steps p.tables e below (T0.setTop (mkF m 31 #[s0, .val (.ref o1), .val (.long j2), .second, .val (.ref o4), .val (.int i5), .val (.int i6), .val (.int w)] [(.int (lcmpW r j2))])) _
  refine XS.ifYes X0.here hx rfl (pc0 := 31) (pc' := 36) rfl (hb hby d2_31) rfl ((if0 _ _).trans (flt hc31).2.1) (by decide) (by decide) ?_
  show Steps p.tables e below (T0.setTop (mkF m 36 #[s0, .val (.ref o1), .val (.long j2), .second, .val (.ref o4), .val (.int i5), .val (.int i6), .val (.int w)] [])) _
  refine XS.iinc X0.here hx rfl (hb hby d2_36) rfl (l' := #[s0, .val (.ref o1), .val (.long j2), .second, .val (.ref o4), .val (.int i5), .val (.int (i6 + (1 : Int32))), .val (.int w)]) rfl ?_
  show Steps p.tables e below (T0.setTop (mkF m 39 #[s0, .val (.ref o1), .val (.long j2), .second, .val (.ref o4), .val (.int i5), .val (.int (i6 + (1 : Int32))), .val (.int w)] [])) _
  refine XS.goto X0.here hx rfl (pc0 := 39) (pc' := 11) rfl (hb hby d2_39) (by decide) (by decide) ?_
  exact kt
set_option maxRecDepth 65536 in
set_option maxHeartbeats 40000000 in
theorem tn2_11_34 {p : Program} {l : Launch} {e : Env} {R : Room} {s : State} {m : MethodId} {args : Array Value} {below : List Frame} {meth : Method} {c : Code} {T0 : State} {locs : List Loc} {cells slots : Nat} {Z : State} {a0 : Array Value} {h0 : Heap} (s0 : Slot) (o1 : Addr) (j2 : Int64) (o4 : Addr) (i5 : Int32) (i6 : Int32) (s7 : Slot) (i : Nat) (k : Nat) (w : Int32) (r : Int64) (N_o4 : Nat) (f_o4 : Nat → Value) (f_o1 : Nat → Value)
    (X0 : Stand p l e R s m args below meth c T0 locs cells slots) (hx : p.tables.exec = Jvm.exec) (hZ : Z.Warmed39 s.vm) (hw : ∀ d ∈ tables_1, d.before a0 Z = true) (hby : c.code = prog_24_method_32_code) (hml : c.maxLocals = 8) (hown : s.vm.findClass "com/example/sluice/sluice/Network" = some m.cls) (e0 : T0.heap = h0) (ix : own_ix i6 i) (hi : i < N_o4) (hv : f_o4 i = .int w) (ixw : own_ix w k) (hk : k < 4) (hr : f_o1 k = .long r) (V_o4 : Ary Z h0 o4 .int N_o4 f_o4) (hs7 : One s7) (V_o1 : Ary Z h0 o1 .long 4 f_o1) (hc15 : i6 < i5) (hc31 : (lcmpW r j2) < (0 : Int32)) :
    ∃ (T' : State), Stand p l e R s m args below meth c T' locs cells slots ∧ T'.heap = h0 ∧
      ∀ target, Steps p.tables e below (T'.setTop (mkF m 34 #[s0, .val (.ref o1), .val (.long j2), .second, .val (.ref o4), .val (.int i5), .val (.int i6), .val (.int w)] [])) target → Steps p.tables e below (T0.setTop (mkF m 11 #[s0, .val (.ref o1), .val (.long j2), .second, .val (.ref o4), .val (.int i5), .val (.int i6), s7] [])) target := by
  obtain ⟨cl_22, Ar_22, S_22, H_22⟩ := id V_o4
  have hin22 := Ary.inn S_22 ix hi
  have hat22 := Ary.get H_22 ix hi (v := (.int w)) hv
  obtain ⟨cl_28, Ar_28, S_28, H_28⟩ := id V_o1
  have hin28 := Ary.inn S_28 ixw hk
  have hat28 := Ary.get H_28 ixw hk (v := (.long r)) hr
  refine ⟨T0, X0, e0, fun target kt => ?_⟩
  show Steps p.tables e below (T0.setTop (mkF m 11 #[s0, .val (.ref o1), .val (.long j2), .second, .val (.ref o4), .val (.int i5), .val (.int i6), s7] [])) _
  refine XS.iload X0.here hx rfl (hb hby d2_11) rfl ?_
  show Steps p.tables e below (T0.setTop (mkF m 13 #[s0, .val (.ref o1), .val (.long j2), .second, .val (.ref o4), .val (.int i5), .val (.int i6), s7] [(.int i6)])) _
  refine XS.iload X0.here hx rfl (hb hby d2_13) rfl ?_
  show Steps p.tables e below (T0.setTop (mkF m 15 #[s0, .val (.ref o1), .val (.long j2), .second, .val (.ref o4), .val (.int i5), .val (.int i6), s7] [(.int i5), (.int i6)])) _
  refine XS.icmpNo X0.here hx rfl (hb hby d2_15) rfl (tlt hc15).2.1 ?_
  show Steps p.tables e below (T0.setTop (mkF m 18 #[s0, .val (.ref o1), .val (.long j2), .second, .val (.ref o4), .val (.int i5), .val (.int i6), s7] [])) _
  refine XS.aload X0.here hx rfl (hb hby d2_18) rfl rfl ?_
  show Steps p.tables e below (T0.setTop (mkF m 20 #[s0, .val (.ref o1), .val (.long j2), .second, .val (.ref o4), .val (.int i5), .val (.int i6), s7] [(.ref o4)])) _
  refine XS.iload X0.here hx rfl (hb hby d2_20) rfl ?_
  show Steps p.tables e below (T0.setTop (mkF m 22 #[s0, .val (.ref o1), .val (.long j2), .second, .val (.ref o4), .val (.int i5), .val (.int i6), s7] [(.int i6), (.ref o4)])) _
  refine X0.iaload hx (j := i6) (v := (.int w)) (by rw [e0]; exact Ar_22.1) (State.isArrayOf_alike hZ.alike Ar_22.2.1) Ar_22.2.2 hin22 hat22 (g := (mkF m 22 #[s0, .val (.ref o1), .val (.long j2), .second, .val (.ref o4), .val (.int i5), .val (.int i6), s7] [(.int i6), (.ref o4)])) rfl rfl (hb hby d2_22) _ ?_
  show Steps p.tables e below (T0.setTop (mkF m 23 #[s0, .val (.ref o1), .val (.long j2), .second, .val (.ref o4), .val (.int i5), .val (.int i6), s7] [(.int w)])) _
  refine XS.istore X0.here hx rfl (hb hby d2_23) rfl (l' := #[s0, .val (.ref o1), .val (.long j2), .second, .val (.ref o4), .val (.int i5), .val (.int i6), .val (.int w)]) (os2_23 hs7) ?_
  show Steps p.tables e below (T0.setTop (mkF m 25 #[s0, .val (.ref o1), .val (.long j2), .second, .val (.ref o4), .val (.int i5), .val (.int i6), .val (.int w)] [])) _
  refine XS.aloadN X0.here hx rfl (hb hby d2_25) rfl rfl ?_
  show Steps p.tables e below (T0.setTop (mkF m 26 #[s0, .val (.ref o1), .val (.long j2), .second, .val (.ref o4), .val (.int i5), .val (.int i6), .val (.int w)] [(.ref o1)])) _
  refine XS.iload X0.here hx rfl (hb hby d2_26) rfl ?_
  show Steps p.tables e below (T0.setTop (mkF m 28 #[s0, .val (.ref o1), .val (.long j2), .second, .val (.ref o4), .val (.int i5), .val (.int i6), .val (.int w)] [(.int w), (.ref o1)])) _
  refine X0.laload hx (j := w) (v := (.long r)) (by rw [e0]; exact Ar_28.1) (State.isArrayOf_alike hZ.alike Ar_28.2.1) Ar_28.2.2 hin28 hat28 (g := (mkF m 28 #[s0, .val (.ref o1), .val (.long j2), .second, .val (.ref o4), .val (.int i5), .val (.int i6), .val (.int w)] [(.int w), (.ref o1)])) rfl rfl (hb hby d2_28) _ ?_
  show Steps p.tables e below (T0.setTop (mkF m 29 #[s0, .val (.ref o1), .val (.long j2), .second, .val (.ref o4), .val (.int i5), .val (.int i6), .val (.int w)] [(.long r)])) _
  refine XS.lloadN X0.here hx rfl (hb hby d2_29) rfl ?_
  show Steps p.tables e below (T0.setTop (mkF m 30 #[s0, .val (.ref o1), .val (.long j2), .second, .val (.ref o4), .val (.int i5), .val (.int i6), .val (.int w)] [(.long j2), (.long r)])) _
  refine XS.lcmp X0.here hx rfl (hb hby d2_30) rfl ?_
  show Steps p.tables e below (T0.setTop (mkF m 31 #[s0, .val (.ref o1), .val (.long j2), .second, .val (.ref o4), .val (.int i5), .val (.int i6), .val (.int w)] [(.int (lcmpW r j2))])) _
  refine XS.ifNo X0.here hx rfl (hb hby d2_31) rfl ((if0 _ _).trans (tlt hc31).2.1) ?_
  exact kt
set_option maxRecDepth 65536 in
set_option maxHeartbeats 40000000 in
theorem tn2_11_42 {p : Program} {l : Launch} {e : Env} {R : Room} {s : State} {m : MethodId} {args : Array Value} {below : List Frame} {meth : Method} {c : Code} {T0 : State} {locs : List Loc} {cells slots : Nat} {Z : State} {a0 : Array Value} {h0 : Heap} (s0 : Slot) (s1 : Slot) (s2 : Slot) (s3 : Slot) (s4 : Slot) (i5 : Int32) (i6 : Int32) (s7 : Slot)
    (X0 : Stand p l e R s m args below meth c T0 locs cells slots) (hx : p.tables.exec = Jvm.exec) (hZ : Z.Warmed39 s.vm) (hw : ∀ d ∈ tables_1, d.before a0 Z = true) (hby : c.code = prog_24_method_32_code) (hml : c.maxLocals = 8) (hown : s.vm.findClass "com/example/sluice/sluice/Network" = some m.cls) (e0 : T0.heap = h0) (hc15 : ¬ (i6 < i5)) :
    ∃ (T' : State), Stand p l e R s m args below meth c T' locs cells slots ∧ T'.heap = h0 ∧
      ∀ target, Steps p.tables e below (T'.setTop (mkF m 42 #[s0, s1, s2, s3, s4, .val (.int i5), .val (.int i6), s7] [])) target → Steps p.tables e below (T0.setTop (mkF m 11 #[s0, s1, s2, s3, s4, .val (.int i5), .val (.int i6), s7] [])) target := by
  refine ⟨T0, X0, e0, fun target kt => ?_⟩
  show Steps p.tables e below (T0.setTop (mkF m 11 #[s0, s1, s2, s3, s4, .val (.int i5), .val (.int i6), s7] [])) _
  refine XS.iload X0.here hx rfl (hb hby d2_11) rfl ?_
  show Steps p.tables e below (T0.setTop (mkF m 13 #[s0, s1, s2, s3, s4, .val (.int i5), .val (.int i6), s7] [(.int i6)])) _
  refine XS.iload X0.here hx rfl (hb hby d2_13) rfl ?_
  show Steps p.tables e below (T0.setTop (mkF m 15 #[s0, s1, s2, s3, s4, .val (.int i5), .val (.int i6), s7] [(.int i5), (.int i6)])) _
  refine XS.icmpYes X0.here hx rfl (pc0 := 15) (pc' := 42) rfl (hb hby d2_15) rfl (flt hc15).2.1 (by decide) (by decide) ?_
  exact kt
theorem loop2 {p : Program} {l : Launch} {e : Env} {R : Room} {s : State} {m : MethodId} {args : Array Value} {below : List Frame} {meth : Method} {c : Code} {locs : List Loc} {cells slots : Nat} {Z : State} {a0 : Array Value} {h0 : Heap} (s0 : Slot) (o1 : Addr) (dm : Int64) (o4 : Addr) (i5 : Int32) (N : Nat) (f g : Nat → Value) (Rm : Nat → Int64) (q : Nat → Nat) (hx : p.tables.exec = Jvm.exec) (hZ : Z.Warmed39 s.vm) (hw : ∀ d ∈ tables_1, d.before a0 Z = true) (hby : c.code = prog_24_method_32_code) (hml : c.maxLocals = 8) (hown : s.vm.findClass "com/example/sluice/sluice/Network" = some m.cls) (V4 : Ary Z h0 o4 .int N f) (V1 : Ary Z h0 o1 .long 4 g) (ixe : own_ix i5 N) (hq : ∀ j, j < N → q j < 4) (hf : ∀ j, j < N → ∃ w, f j = .int w ∧ own_ix w (q j)) (hg : ∀ k, k < 4 → g k = .long (Rm k)) :
    ∀ (k i : Nat) (i6 : Int32) (s7 : Slot) (T0 : State), i + k = N → own_ix i6 i → One s7 → Stand p l e R s m args below meth c T0 locs cells slots → T0.heap = h0 →
    ∃ (T' : State) (i6' : Int32) (s7' : Slot), Stand p l e R s m args below meth c T' locs cells slots ∧ T'.heap = h0 ∧
      (((∀ j, i ≤ j → j < N → ¬ (lcmpW (Rm (q j)) dm < (0 : Int32))) ∧ ∀ target, Steps p.tables e below (T'.setTop (mkF m 42 #[s0, .val (.ref o1), .val (.long dm), .second, .val (.ref o4), .val (.int i5), .val (.int i6'), s7'] [])) target → Steps p.tables e below (T0.setTop (mkF m 11 #[s0, .val (.ref o1), .val (.long dm), .second, .val (.ref o4), .val (.int i5), .val (.int i6), s7] [])) target) ∨
       ((∃ j, j < N ∧ lcmpW (Rm (q j)) dm < (0 : Int32)) ∧ ∀ target, Steps p.tables e below (T'.setTop (mkF m 34 #[s0, .val (.ref o1), .val (.long dm), .second, .val (.ref o4), .val (.int i5), .val (.int i6'), s7'] [])) target → Steps p.tables e below (T0.setTop (mkF m 11 #[s0, .val (.ref o1), .val (.long dm), .second, .val (.ref o4), .val (.int i5), .val (.int i6), s7] [])) target)) := by
  intro k
  induction k with
  | zero =>
    intro i i6 s7 T0 hk ix o7 X0 e0
    have hc : ¬ (i6 < i5) := fun q => by have := (own_ixlt ix ixe).mp q; omega
    obtain ⟨T1, X1, e1, st1⟩ := tn2_11_42 s0 (.val (.ref o1)) (.val (.long dm)) .second (.val (.ref o4)) i5 i6 s7 X0 hx hZ hw hby hml hown e0 hc
    exact ⟨T1, i6, s7, X1, e1, Or.inl ⟨fun j h1 h2 => by omega, st1⟩⟩
  | succ k ih =>
    intro i i6 s7 T0 hk ix o7 X0 e0
    have hc : i6 < i5 := (own_ixlt ix ixe).mpr (by omega)
    have hb := i5.toInt_lt
    have he : i5.toInt = (N : Int) := ixe
    obtain ⟨w, hv, ixw⟩ := hf i (by omega)
    by_cases hl : lcmpW (Rm (q i)) dm < (0 : Int32)
    · obtain ⟨T1, X1, e1, st1⟩ := tn2_11_34 s0 o1 dm o4 i5 i6 s7 i (q i) w (Rm (q i)) N f g X0 hx hZ hw hby hml hown e0 ix (by omega) hv ixw (hq i (by omega)) (hg _ (hq i (by omega))) V4 o7 V1 hc hl
      exact ⟨T1, i6, _, X1, e1, Or.inr ⟨⟨i, by omega, hl⟩, st1⟩⟩
    · obtain ⟨T1, X1, e1, st1⟩ := tn2_11_11 s0 o1 dm o4 i5 i6 s7 i (q i) w (Rm (q i)) N f g X0 hx hZ hw hby hml hown e0 ix (by omega) hv ixw (hq i (by omega)) (hg _ (hq i (by omega))) V4 o7 V1 hc hl
      obtain ⟨T2, i6', s7', X2, e2, r2⟩ := ih (i + 1) (i6 + (1 : Int32)) (.val (.int w)) T1 (by omega) (own_ixa ix (show own_ix (1 : Int32) 1 from rfl) (by omega)) (One.val rfl) X1 e1
      refine ⟨T2, i6', s7', X2, e2, ?_⟩
      rcases r2 with ⟨ha, st2⟩ | ⟨hbad, st2⟩
      · refine Or.inl ⟨fun j h1 h2 => ?_, fun target kt => st1 target (st2 target kt)⟩
        by_cases hj : j = i
        · subst hj; exact hl
        · exact ha j (by omega) h2
      · exact Or.inr ⟨hbad, fun target kt => st1 target (st2 target kt)⟩
theorem d2_42 : decode prog_24_method_32_code 42 = .ok (.iconst 1, 1) := by decide +kernel
theorem d2_43 : decode prog_24_method_32_code 43 = .ok (.ireturn, 1) := by decide +kernel
theorem pn_2 : plainName "com/example/sluice/sluice/Network" = true := by first | (simp [plainName, overriddenIn]; done) | decide +kernel
theorem ef_2 (m : MethodId) (x0 : Addr) (x1 : Addr) (x2 : Int64) : entryFrame m #[(.ref x0), (.ref x1), (.long x2)] 8 = mkF m 0 #[.val (.ref x0), .val (.ref x1), .val (.long x2), .second, .unset, .unset, .unset, .unset] [] := by first | (simp [entryFrame, mkF, argsToLocals, Value.category]; done) | rfl
set_option maxRecDepth 65536 in
set_option maxHeartbeats 40000000 in
theorem tn2_42_43 {p : Program} {l : Launch} {e : Env} {R : Room} {s : State} {m : MethodId} {args : Array Value} {below : List Frame} {meth : Method} {c : Code} {T0 : State} {locs : List Loc} {cells slots : Nat} {Z : State} {a0 : Array Value} {h0 : Heap} (s0 : Slot) (s1 : Slot) (s2 : Slot) (s3 : Slot) (s4 : Slot) (s5 : Slot) (s6 : Slot) (s7 : Slot)
    (X0 : Stand p l e R s m args below meth c T0 locs cells slots) (hx : p.tables.exec = Jvm.exec) (hZ : Z.Warmed39 s.vm) (hw : ∀ d ∈ tables_1, d.before a0 Z = true) (hby : c.code = prog_24_method_32_code) (hml : c.maxLocals = 8) (hown : s.vm.findClass "com/example/sluice/sluice/Network" = some m.cls) (e0 : T0.heap = h0) :
    ∃ (T' : State), Stand p l e R s m args below meth c T' locs cells slots ∧ T'.heap = h0 ∧
      ∀ target, Steps p.tables e below (T'.setTop (mkF m 43 #[s0, s1, s2, s3, s4, s5, s6, s7] [(.int (1 : Int32))])) target → Steps p.tables e below (T0.setTop (mkF m 42 #[s0, s1, s2, s3, s4, s5, s6, s7] [])) target := by
  refine ⟨T0, X0, e0, fun target kt => ?_⟩
  show Steps p.tables e below (T0.setTop (mkF m 42 #[s0, s1, s2, s3, s4, s5, s6, s7] [])) _
  refine XS.iconst X0.here hx rfl (hb hby d2_42) ?_
  exact kt
theorem d2_34 : decode prog_24_method_32_code 34 = .ok (.iconst 0, 1) := by decide +kernel
set_option maxRecDepth 65536 in
set_option maxHeartbeats 40000000 in
theorem tn2_34_35 {p : Program} {l : Launch} {e : Env} {R : Room} {s : State} {m : MethodId} {args : Array Value} {below : List Frame} {meth : Method} {c : Code} {T0 : State} {locs : List Loc} {cells slots : Nat} {Z : State} {a0 : Array Value} {h0 : Heap} (s0 : Slot) (s1 : Slot) (s2 : Slot) (s3 : Slot) (s4 : Slot) (s5 : Slot) (s6 : Slot) (s7 : Slot)
    (X0 : Stand p l e R s m args below meth c T0 locs cells slots) (hx : p.tables.exec = Jvm.exec) (hZ : Z.Warmed39 s.vm) (hw : ∀ d ∈ tables_1, d.before a0 Z = true) (hby : c.code = prog_24_method_32_code) (hml : c.maxLocals = 8) (hown : s.vm.findClass "com/example/sluice/sluice/Network" = some m.cls) (e0 : T0.heap = h0) :
    ∃ (T' : State), Stand p l e R s m args below meth c T' locs cells slots ∧ T'.heap = h0 ∧
      ∀ target, Steps p.tables e below (T'.setTop (mkF m 35 #[s0, s1, s2, s3, s4, s5, s6, s7] [(.int (0 : Int32))])) target → Steps p.tables e below (T0.setTop (mkF m 34 #[s0, s1, s2, s3, s4, s5, s6, s7] [])) target := by
  refine ⟨T0, X0, e0, fun target kt => ?_⟩
  show Steps p.tables e below (T0.setTop (mkF m 34 #[s0, s1, s2, s3, s4, s5, s6, s7] [])) _
  refine XS.iconst X0.here hx rfl (hb hby d2_34) ?_
  exact kt

theorem d2_35 : decode prog_24_method_32_code 35 = .ok (.ireturn, 1) := by decide +kernel
def Q2 (Z : State) (a1 : Addr) (a2 : Addr) (q3 : Int64) (N : Nat) (f : Nat → Value) (g : Nat → Value) (Rm : Nat → Int64) (q : Nat → Nat) (h0 : Heap) (n0 : Nat) (v : Option Value) (h : Heap) (L : List Loc) : Prop := v = some (.int (own_fit Rm q q3 N)) ∧ Fr n0 L ∧ h = h0
set_option maxRecDepth 65536 in
set_option maxHeartbeats 40000000 in
theorem rm2 (l : Launch) (Z : State) (a0 : Array Value) (hw : ∀ d ∈ tables_1, d.before a0 Z = true) (ws : List Jvm.Cond) (a1 : Addr) (a2 : Addr) (q3 : Int64) (N : Nat) (f : Nat → Value) (g : Nat → Value) (Rm : Nat → Int64) (q : Nat → Nat) (h0 : Heap) (n0 : Nat) (Z0 : n0 ≤ h0.size) (hN : N < 1000) (hq : ∀ j, j < N → q j < 4) (hf : ∀ j, j < N → ∃ w, f j = .int w ∧ own_ix w (q j)) (hg : ∀ k, k < 4 → g k = .long (Rm k)) (V0 : Ary Z h0 a1 .int N f) (V1 : Ary Z h0 a2 .long 4 g) :
    MetFree l (⟨"com/example/sluice/sluice/Network", "fits", "([I[JJ)Z"⟩ : MethodName) (head1 (Jvm.Cond.code (⟨"com/example/sluice/sluice/Network", "fits", "([I[JJ)Z"⟩ : MethodName) prog_24_method_32_code 8 (some .boolean) :: ws) ({ frames := 0, cells := 0, slots := 0, locals := 0 } : Room)) (fun a U => a = #[(.ref a1), (.ref a2), (.long q3)] ∧ Z.Warmed39 U.vm ∧ U.heap = h0) (fun _ _ _ _ _ => True) (fun _ U o U' => ∃ v L, o = .returned v ∧ Q2 Z a1 a2 q3 N f g Rm q h0 n0 v U'.heap L ∧ FrameEnd U o U' L ({ frames := 0, cells := 0, slots := 0, locals := 0 } : Room).cells ({ frames := 0, cells := 0, slots := 0, locals := 0 } : Room).slots) := by
  refine MetFree.of_bodySF (plainFor_of_name pn_2) hisR ?_
  intro p e s m args below meth c s₁ Bd hml0 hP hK
  obtain ⟨rfl, hZ, hh⟩ := hP
  have hx := Bd.exec
  have hby := Bd.bytes
  have hml : c.maxLocals = 8 := hml0
  have hown : s.vm.findClass "com/example/sluice/sluice/Network" = some m.cls := findClass_of_methodNamed Bd.named
  have hnm := (name_of_methodNamed Bd.named Bd.method).1
  have X0 : Stand p l e ({ frames := 0, cells := 0, slots := 0, locals := 0 } : Room) s m #[(.ref a1), (.ref a2), (.long q3)] below meth c s₁ [] 0 0 := Stand.of_body Bd
  have e0 : s₁.heap = h0 := by rw [← hh, Bd.state]; rfl
  have N0 := Fr.nil n0
  have pre0 : ∀ t, Steps p.tables e below (s₁.setTop (mkF m 0 #[.val (.ref a1), .val (.ref a2), .val (.long q3), .second, .unset, .unset, .unset, .unset] [])) t → Steps p.tables e below (s₁.setTop (entryFrame m #[(.ref a1), (.ref a2), (.long q3)] 8)) t := fun t k => castTop (ef_2 m a1 a2 q3) k
  obtain ⟨T1, X1, e1, st1⟩ := tn2_0_11 a1 a2 q3 N f X0 hx hZ hw hby hml hown e0 V0
  obtain ⟨T2, i6, s7, X2, e2, r2⟩ := loop2 (.val (.ref a1)) a2 q3 a1 (Int32.ofNat N) N f g Rm q hx hZ hw hby hml hown V0 V1 (own_ixc (by omega)) hq hf hg N 0 (0 : Int32) .unset T1 (by omega) (show own_ix (0 : Int32) 0 from rfl) One.u X1 e1
  rcases r2 with ⟨ha, st2⟩ | ⟨hbad, st2⟩
  · have hv : own_fit Rm q q3 N = 1 := own_fit_all (fun j hj => ha j (Nat.zero_le _) hj)
    obtain ⟨T3, X3, e3, st3⟩ := tn2_42_43 (.val (.ref a1)) (.val (.ref a2)) (.val (.long q3)) .second (.val (.ref a1)) (.val (.int (Int32.ofNat N))) (.val (.int i6)) s7 X2 hx hZ hw hby hml hown e2
    obtain ⟨fs, hr, hrun, hended, hW, hsame⟩ := X3.leave (v := some (.int (1 : Int32))) (fun h => by rw [Bd.returns] at h; cases h)
    refine ⟨_, _, pre0 _ ?_, hrun, hended, _, _, rfl, ?_, ⟨_, rfl⟩, hW, hsame.mono (by decide) (by decide)⟩
    · refine st1 _ (st2 _ (st3 _ ?_))
      exact retN X3 hx (t := .boolean) Bd.returns (by simp) (hb hby d2_43) hr
    · show Q2 Z a1 a2 q3 N f g Rm q h0 n0 _ T3.heap _
      rw [e3]
      exact ⟨by rw [hv], N0, rfl⟩
  · have hv : own_fit Rm q q3 N = 0 := own_fit_bad hbad
    obtain ⟨T3, X3, e3, st3⟩ := tn2_34_35 (.val (.ref a1)) (.val (.ref a2)) (.val (.long q3)) .second (.val (.ref a1)) (.val (.int (Int32.ofNat N))) (.val (.int i6)) s7 X2 hx hZ hw hby hml hown e2
    obtain ⟨fs, hr, hrun, hended, hW, hsame⟩ := X3.leave (v := some (.int (0 : Int32))) (fun h => by rw [Bd.returns] at h; cases h)
    refine ⟨_, _, pre0 _ ?_, hrun, hended, _, _, rfl, ?_, ⟨_, rfl⟩, hW, hsame.mono (by decide) (by decide)⟩
    · refine st1 _ (st2 _ (st3 _ ?_))
      exact retN X3 hx (t := .boolean) Bd.returns (by simp) (hb hby d2_35) hr
    · show Q2 Z a1 a2 q3 N f g Rm q h0 n0 _ T3.heap _
      rw [e3]
      exact ⟨by rw [hv], N0, rfl⟩
set_option maxRecDepth 65536 in
set_option maxHeartbeats 40000000 in
theorem sgA {p : Program} {l : Launch} {e : Env} {s : State} {m : MethodId} {args : Array Value} {below : List Frame} {meth : Method} {c : Code} {T0 : State} {locs : List Loc} {Z : State} {a0 : Array Value} {h0 : Heap} (j0 : Int64) (j2 : Int64) (j4 : Int64) (j6 : Int64) (j8 : Int64) (i10 : Int32) (n0 : Nat)
    (X0 : Stand p l e room_1 s m args below meth c T0 locs 0 0) (hx : p.tables.exec = Jvm.exec) (hZ : Z.Warmed39 s.vm) (hw : ∀ d ∈ tables_1, d.before a0 Z = true) (hby : c.code = code) (hml : c.maxLocals = 23) (hown : s.vm.findClass "com/example/sluice/sluice/NetworkFitsPinLaw" = some m.cls) (e0 : T0.heap = h0) (Z0 : n0 ≤ h0.size) (N0 : Fr n0 locs) :
    ∃ (T' : State) (h' : Heap) (locs' : List Loc) (b : Addr) (f : Nat → Value), Stand p l e room_1 s m args below meth c T' locs' (0 + 1) (0 + 4) ∧ T'.heap = h' ∧ Fr n0 locs' ∧ n0 ≤ b ∧ Ary Z h' b .long 4 f ∧ f 0 = .long j0 ∧ f 1 = .long j2 ∧ f 2 = .long j4 ∧ f 3 = .long j6 ∧ n0 ≤ h'.size ∧
      ∀ target, Steps p.tables e below (T'.setTop (mkF m 54 #[.val (.long j0), .second, .val (.long j2), .second, .val (.long j4), .second, .val (.long j6), .second, .val (.long j8), .second, .val (.int i10), .val (.ref b), .val (.int (i10 &&& (3 : Int32))), .val (.int (((i10.toUInt32 >>> ((2 : Int32) &&& 31).toUInt32).toInt32) &&& (3 : Int32))), .val (.int (((i10.toUInt32 >>> ((4 : Int32) &&& 31).toUInt32).toInt32) &&& (3 : Int32))), .val (.int (((i10.toUInt32 >>> ((6 : Int32) &&& 31).toUInt32).toInt32) &&& (3 : Int32))), .unset, .unset, .unset, .unset, .unset, .unset, .unset] [])) target → Steps p.tables e below (T0.setTop (mkF m 0 #[.val (.long j0), .second, .val (.long j2), .second, .val (.long j4), .second, .val (.long j6), .second, .val (.long j8), .second, .val (.int i10), .unset, .unset, .unset, .unset, .unset, .unset, .unset, .unset, .unset, .unset, .unset, .unset] [])) target := by
  obtain ⟨T7, h7, k7, X7, e7, E7, A7, st7⟩ := newP X0 hx hZ (hw _ (List.mem_of_getElem? (i := 0) rfl)) e0 (g := (mkF m 1 #[.val (.long j0), .second, .val (.long j2), .second, .val (.long j4), .second, .val (.long j6), .second, .val (.long j8), .second, .val (.int i10), .unset, .unset, .unset, .unset, .unset, .unset, .unset, .unset, .unset, .unset, .unset, .unset] [(.int (4 : Int32))])) rfl (hb hby at_1) rfl (by decide) (cap := 4) (by decide) (by decide) (by decide) (by decide)
  obtain ⟨b7, g7⟩ : ∃ z, z = h0.size := ⟨_, rfl⟩
  rw [← g7] at A7 st7
  have V_b7 : Ary Z h7 b7 .long 4 (fun _ => (.long (0 : Int64))) := Ary.new A7 (by decide) rfl
  have g_b7 : n0 ≤ b7 := Nat.le_trans Z0 (Nat.le_of_eq g7.symm)
  have sz_b7 : h0.size ≤ b7 := (Nat.le_trans (Keep.refl h0 []).1 (Nat.le_of_eq g7.symm))
  have K7 : Keep h0 h7 [] := (Keep.refl h0 []).ext E7
  obtain ⟨cl_6, Ar_6, S_6, H_6⟩ := id V_b7
  have hin6 := Ary.inn S_6 (show own_ix (0 : Int32) 0 from rfl) (by decide)
  obtain ⟨T8, h8, X8, e8, W8, st8⟩ := stJ X7 hx hZ e7 Ar_6 (j := (0 : Int32)) hin6 (g := (mkF m 6 #[.val (.long j0), .second, .val (.long j2), .second, .val (.long j4), .second, .val (.long j6), .second, .val (.long j8), .second, .val (.int i10), .unset, .unset, .unset, .unset, .unset, .unset, .unset, .unset, .unset, .unset, .unset, .unset] [(.long j0), (.int (0 : Int32)), (.ref b7), (.ref b7)])) rfl rfl (hb hby at_6)
  have V_b7_8 := Ary.set Ar_6 S_6 H_6 W8 (show own_ix (0 : Int32) 0 from rfl)
  have K8 : Keep h0 h8 [] := K7.wr W8 (Or.inr sz_b7)
  have N8 := Fr.snoc X8 N0 g_b7
  obtain ⟨cl_10, Ar_10, S_10, H_10⟩ := id V_b7_8
  have hin10 := Ary.inn S_10 (show own_ix (1 : Int32) 1 from rfl) (by decide)
  obtain ⟨T9, h9, X9, e9, W9, st9⟩ := stJ X8 hx hZ e8 Ar_10 (j := (1 : Int32)) hin10 (g := (mkF m 10 #[.val (.long j0), .second, .val (.long j2), .second, .val (.long j4), .second, .val (.long j6), .second, .val (.long j8), .second, .val (.int i10), .unset, .unset, .unset, .unset, .unset, .unset, .unset, .unset, .unset, .unset, .unset, .unset] [(.long j2), (.int (1 : Int32)), (.ref b7), (.ref b7)])) rfl rfl (hb hby at_10)
  have V_b7_9 := Ary.set Ar_10 S_10 H_10 W9 (show own_ix (1 : Int32) 1 from rfl)
  have K9 : Keep h0 h9 [] := K8.wr W9 (Or.inr sz_b7)
  have N9 := Fr.snoc X9 N8 g_b7
  obtain ⟨cl_15, Ar_15, S_15, H_15⟩ := id V_b7_9
  have hin15 := Ary.inn S_15 (show own_ix (2 : Int32) 2 from rfl) (by decide)
  obtain ⟨T10, h10, X10, e10, W10, st10⟩ := stJ X9 hx hZ e9 Ar_15 (j := (2 : Int32)) hin15 (g := (mkF m 15 #[.val (.long j0), .second, .val (.long j2), .second, .val (.long j4), .second, .val (.long j6), .second, .val (.long j8), .second, .val (.int i10), .unset, .unset, .unset, .unset, .unset, .unset, .unset, .unset, .unset, .unset, .unset, .unset] [(.long j4), (.int (2 : Int32)), (.ref b7), (.ref b7)])) rfl rfl (hb hby at_15)
  have V_b7_10 := Ary.set Ar_15 S_15 H_15 W10 (show own_ix (2 : Int32) 2 from rfl)
  have K10 : Keep h0 h10 [] := K9.wr W10 (Or.inr sz_b7)
  have N10 := Fr.snoc X10 N9 g_b7
  obtain ⟨cl_20, Ar_20, S_20, H_20⟩ := id V_b7_10
  have hin20 := Ary.inn S_20 (show own_ix (3 : Int32) 3 from rfl) (by decide)
  obtain ⟨T11, h11, X11, e11, W11, st11⟩ := stJ X10 hx hZ e10 Ar_20 (j := (3 : Int32)) hin20 (g := (mkF m 20 #[.val (.long j0), .second, .val (.long j2), .second, .val (.long j4), .second, .val (.long j6), .second, .val (.long j8), .second, .val (.int i10), .unset, .unset, .unset, .unset, .unset, .unset, .unset, .unset, .unset, .unset, .unset, .unset] [(.long j6), (.int (3 : Int32)), (.ref b7), (.ref b7)])) rfl rfl (hb hby at_20)
  have V_b7_11 := Ary.set Ar_20 S_20 H_20 W11 (show own_ix (3 : Int32) 3 from rfl)
  have K11 : Keep h0 h11 [] := K10.wr W11 (Or.inr sz_b7)
  have N11 := Fr.snoc X11 N10 g_b7
  have Vend_b7 := V_b7_11
  have Zend : n0 ≤ h11.size := (Nat.le_trans (Nat.le_trans (Nat.le_trans (Nat.le_trans (Nat.le_trans Z0 E7.1) (Keep.of_wr W8).1) (Keep.of_wr W9).1) (Keep.of_wr W10).1) (Keep.of_wr W11).1)
  have Kend := K11
  refine ⟨T11, _, _, b7, _, X11, e11, N11, g_b7, Vend_b7, ((own_up_ne _ _ (by decide)).trans ((own_up_ne _ _ (by decide)).trans ((own_up_ne _ _ (by decide)).trans (own_up_at _ _ _)))), ((own_up_ne _ _ (by decide)).trans ((own_up_ne _ _ (by decide)).trans (own_up_at _ _ _))), ((own_up_ne _ _ (by decide)).trans (own_up_at _ _ _)), (own_up_at _ _ _), Zend, fun target kt => ?_⟩
  show Steps p.tables e below (T0.setTop (mkF m 0 #[.val (.long j0), .second, .val (.long j2), .second, .val (.long j4), .second, .val (.long j6), .second, .val (.long j8), .second, .val (.int i10), .unset, .unset, .unset, .unset, .unset, .unset, .unset, .unset, .unset, .unset, .unset, .unset] [])) _
  refine XS.iconst X0.here hx rfl (hb hby at_0) ?_
  show Steps p.tables e below (T0.setTop (mkF m 1 #[.val (.long j0), .second, .val (.long j2), .second, .val (.long j4), .second, .val (.long j6), .second, .val (.long j8), .second, .val (.int i10), .unset, .unset, .unset, .unset, .unset, .unset, .unset, .unset, .unset, .unset, .unset, .unset] [(.int (4 : Int32))])) _
  refine st7 _ ?_
  show Steps p.tables e below (T7.setTop (mkF m 3 #[.val (.long j0), .second, .val (.long j2), .second, .val (.long j4), .second, .val (.long j6), .second, .val (.long j8), .second, .val (.int i10), .unset, .unset, .unset, .unset, .unset, .unset, .unset, .unset, .unset, .unset, .unset, .unset] [(.ref b7)])) _
  refine XS.dup X7.here hx rfl (hb hby at_3) rfl rfl ?_
  show Steps p.tables e below (T7.setTop (mkF m 4 #[.val (.long j0), .second, .val (.long j2), .second, .val (.long j4), .second, .val (.long j6), .second, .val (.long j8), .second, .val (.int i10), .unset, .unset, .unset, .unset, .unset, .unset, .unset, .unset, .unset, .unset, .unset, .unset] [(.ref b7), (.ref b7)])) _
  refine XS.iconst X7.here hx rfl (hb hby at_4) ?_
  show Steps p.tables e below (T7.setTop (mkF m 5 #[.val (.long j0), .second, .val (.long j2), .second, .val (.long j4), .second, .val (.long j6), .second, .val (.long j8), .second, .val (.int i10), .unset, .unset, .unset, .unset, .unset, .unset, .unset, .unset, .unset, .unset, .unset, .unset] [(.int (0 : Int32)), (.ref b7), (.ref b7)])) _
  refine XS.lloadN X7.here hx rfl (hb hby at_5) rfl ?_
  show Steps p.tables e below (T7.setTop (mkF m 6 #[.val (.long j0), .second, .val (.long j2), .second, .val (.long j4), .second, .val (.long j6), .second, .val (.long j8), .second, .val (.int i10), .unset, .unset, .unset, .unset, .unset, .unset, .unset, .unset, .unset, .unset, .unset, .unset] [(.long j0), (.int (0 : Int32)), (.ref b7), (.ref b7)])) _
  refine st8 _ ?_
  show Steps p.tables e below (T8.setTop (mkF m 7 #[.val (.long j0), .second, .val (.long j2), .second, .val (.long j4), .second, .val (.long j6), .second, .val (.long j8), .second, .val (.int i10), .unset, .unset, .unset, .unset, .unset, .unset, .unset, .unset, .unset, .unset, .unset, .unset] [(.ref b7)])) _
  refine XS.dup X8.here hx rfl (hb hby at_7) rfl rfl ?_
  show Steps p.tables e below (T8.setTop (mkF m 8 #[.val (.long j0), .second, .val (.long j2), .second, .val (.long j4), .second, .val (.long j6), .second, .val (.long j8), .second, .val (.int i10), .unset, .unset, .unset, .unset, .unset, .unset, .unset, .unset, .unset, .unset, .unset, .unset] [(.ref b7), (.ref b7)])) _
  refine XS.iconst X8.here hx rfl (hb hby at_8) ?_
  show Steps p.tables e below (T8.setTop (mkF m 9 #[.val (.long j0), .second, .val (.long j2), .second, .val (.long j4), .second, .val (.long j6), .second, .val (.long j8), .second, .val (.int i10), .unset, .unset, .unset, .unset, .unset, .unset, .unset, .unset, .unset, .unset, .unset, .unset] [(.int (1 : Int32)), (.ref b7), (.ref b7)])) _
  refine XS.lloadN X8.here hx rfl (hb hby at_9) rfl ?_
  show Steps p.tables e below (T8.setTop (mkF m 10 #[.val (.long j0), .second, .val (.long j2), .second, .val (.long j4), .second, .val (.long j6), .second, .val (.long j8), .second, .val (.int i10), .unset, .unset, .unset, .unset, .unset, .unset, .unset, .unset, .unset, .unset, .unset, .unset] [(.long j2), (.int (1 : Int32)), (.ref b7), (.ref b7)])) _
  refine st9 _ ?_
  show Steps p.tables e below (T9.setTop (mkF m 11 #[.val (.long j0), .second, .val (.long j2), .second, .val (.long j4), .second, .val (.long j6), .second, .val (.long j8), .second, .val (.int i10), .unset, .unset, .unset, .unset, .unset, .unset, .unset, .unset, .unset, .unset, .unset, .unset] [(.ref b7)])) _
  refine XS.dup X9.here hx rfl (hb hby at_11) rfl rfl ?_
  show Steps p.tables e below (T9.setTop (mkF m 12 #[.val (.long j0), .second, .val (.long j2), .second, .val (.long j4), .second, .val (.long j6), .second, .val (.long j8), .second, .val (.int i10), .unset, .unset, .unset, .unset, .unset, .unset, .unset, .unset, .unset, .unset, .unset, .unset] [(.ref b7), (.ref b7)])) _
  refine XS.iconst X9.here hx rfl (hb hby at_12) ?_
  show Steps p.tables e below (T9.setTop (mkF m 13 #[.val (.long j0), .second, .val (.long j2), .second, .val (.long j4), .second, .val (.long j6), .second, .val (.long j8), .second, .val (.int i10), .unset, .unset, .unset, .unset, .unset, .unset, .unset, .unset, .unset, .unset, .unset, .unset] [(.int (2 : Int32)), (.ref b7), (.ref b7)])) _
  refine XS.lload X9.here hx rfl (hb hby at_13) rfl ?_
  show Steps p.tables e below (T9.setTop (mkF m 15 #[.val (.long j0), .second, .val (.long j2), .second, .val (.long j4), .second, .val (.long j6), .second, .val (.long j8), .second, .val (.int i10), .unset, .unset, .unset, .unset, .unset, .unset, .unset, .unset, .unset, .unset, .unset, .unset] [(.long j4), (.int (2 : Int32)), (.ref b7), (.ref b7)])) _
  refine st10 _ ?_
  show Steps p.tables e below (T10.setTop (mkF m 16 #[.val (.long j0), .second, .val (.long j2), .second, .val (.long j4), .second, .val (.long j6), .second, .val (.long j8), .second, .val (.int i10), .unset, .unset, .unset, .unset, .unset, .unset, .unset, .unset, .unset, .unset, .unset, .unset] [(.ref b7)])) _
  refine XS.dup X10.here hx rfl (hb hby at_16) rfl rfl ?_
  show Steps p.tables e below (T10.setTop (mkF m 17 #[.val (.long j0), .second, .val (.long j2), .second, .val (.long j4), .second, .val (.long j6), .second, .val (.long j8), .second, .val (.int i10), .unset, .unset, .unset, .unset, .unset, .unset, .unset, .unset, .unset, .unset, .unset, .unset] [(.ref b7), (.ref b7)])) _
  refine XS.iconst X10.here hx rfl (hb hby at_17) ?_
  show Steps p.tables e below (T10.setTop (mkF m 18 #[.val (.long j0), .second, .val (.long j2), .second, .val (.long j4), .second, .val (.long j6), .second, .val (.long j8), .second, .val (.int i10), .unset, .unset, .unset, .unset, .unset, .unset, .unset, .unset, .unset, .unset, .unset, .unset] [(.int (3 : Int32)), (.ref b7), (.ref b7)])) _
  refine XS.lload X10.here hx rfl (hb hby at_18) rfl ?_
  show Steps p.tables e below (T10.setTop (mkF m 20 #[.val (.long j0), .second, .val (.long j2), .second, .val (.long j4), .second, .val (.long j6), .second, .val (.long j8), .second, .val (.int i10), .unset, .unset, .unset, .unset, .unset, .unset, .unset, .unset, .unset, .unset, .unset, .unset] [(.long j6), (.int (3 : Int32)), (.ref b7), (.ref b7)])) _
  refine st11 _ ?_
  show Steps p.tables e below (T11.setTop (mkF m 21 #[.val (.long j0), .second, .val (.long j2), .second, .val (.long j4), .second, .val (.long j6), .second, .val (.long j8), .second, .val (.int i10), .unset, .unset, .unset, .unset, .unset, .unset, .unset, .unset, .unset, .unset, .unset, .unset] [(.ref b7)])) _
  refine XS.astore X11.here hx rfl (hb hby at_21) rfl rfl (l' := #[.val (.long j0), .second, .val (.long j2), .second, .val (.long j4), .second, .val (.long j6), .second, .val (.long j8), .second, .val (.int i10), .val (.ref b7), .unset, .unset, .unset, .unset, .unset, .unset, .unset, .unset, .unset, .unset, .unset]) rfl ?_
  show Steps p.tables e below (T11.setTop (mkF m 23 #[.val (.long j0), .second, .val (.long j2), .second, .val (.long j4), .second, .val (.long j6), .second, .val (.long j8), .second, .val (.int i10), .val (.ref b7), .unset, .unset, .unset, .unset, .unset, .unset, .unset, .unset, .unset, .unset, .unset] [])) _
  refine XS.iload X11.here hx rfl (hb hby at_23) rfl ?_
  show Steps p.tables e below (T11.setTop (mkF m 25 #[.val (.long j0), .second, .val (.long j2), .second, .val (.long j4), .second, .val (.long j6), .second, .val (.long j8), .second, .val (.int i10), .val (.ref b7), .unset, .unset, .unset, .unset, .unset, .unset, .unset, .unset, .unset, .unset, .unset] [(.int i10)])) _
  refine XS.iconst X11.here hx rfl (hb hby at_25) ?_
  show Steps p.tables e below (T11.setTop (mkF m 26 #[.val (.long j0), .second, .val (.long j2), .second, .val (.long j4), .second, .val (.long j6), .second, .val (.long j8), .second, .val (.int i10), .val (.ref b7), .unset, .unset, .unset, .unset, .unset, .unset, .unset, .unset, .unset, .unset, .unset] [(.int (3 : Int32)), (.int i10)])) _
  refine XS.iand X11.here hx rfl (hb hby at_26) rfl ?_
  show Steps p.tables e below (T11.setTop (mkF m 27 #[.val (.long j0), .second, .val (.long j2), .second, .val (.long j4), .second, .val (.long j6), .second, .val (.long j8), .second, .val (.int i10), .val (.ref b7), .unset, .unset, .unset, .unset, .unset, .unset, .unset, .unset, .unset, .unset, .unset] [(.int (i10 &&& (3 : Int32)))])) _
  refine XS.istore X11.here hx rfl (hb hby at_27) rfl (l' := #[.val (.long j0), .second, .val (.long j2), .second, .val (.long j4), .second, .val (.long j6), .second, .val (.long j8), .second, .val (.int i10), .val (.ref b7), .val (.int (i10 &&& (3 : Int32))), .unset, .unset, .unset, .unset, .unset, .unset, .unset, .unset, .unset, .unset]) rfl ?_
  show Steps p.tables e below (T11.setTop (mkF m 29 #[.val (.long j0), .second, .val (.long j2), .second, .val (.long j4), .second, .val (.long j6), .second, .val (.long j8), .second, .val (.int i10), .val (.ref b7), .val (.int (i10 &&& (3 : Int32))), .unset, .unset, .unset, .unset, .unset, .unset, .unset, .unset, .unset, .unset] [])) _
  refine XS.iload X11.here hx rfl (hb hby at_29) rfl ?_
  show Steps p.tables e below (T11.setTop (mkF m 31 #[.val (.long j0), .second, .val (.long j2), .second, .val (.long j4), .second, .val (.long j6), .second, .val (.long j8), .second, .val (.int i10), .val (.ref b7), .val (.int (i10 &&& (3 : Int32))), .unset, .unset, .unset, .unset, .unset, .unset, .unset, .unset, .unset, .unset] [(.int i10)])) _
  refine XS.iconst X11.here hx rfl (hb hby at_31) ?_
  show Steps p.tables e below (T11.setTop (mkF m 32 #[.val (.long j0), .second, .val (.long j2), .second, .val (.long j4), .second, .val (.long j6), .second, .val (.long j8), .second, .val (.int i10), .val (.ref b7), .val (.int (i10 &&& (3 : Int32))), .unset, .unset, .unset, .unset, .unset, .unset, .unset, .unset, .unset, .unset] [(.int (2 : Int32)), (.int i10)])) _
  refine XS.iushr X11.here hx rfl (hb hby at_32) rfl ?_
  show Steps p.tables e below (T11.setTop (mkF m 33 #[.val (.long j0), .second, .val (.long j2), .second, .val (.long j4), .second, .val (.long j6), .second, .val (.long j8), .second, .val (.int i10), .val (.ref b7), .val (.int (i10 &&& (3 : Int32))), .unset, .unset, .unset, .unset, .unset, .unset, .unset, .unset, .unset, .unset] [(.int ((i10.toUInt32 >>> ((2 : Int32) &&& 31).toUInt32).toInt32))])) _
  refine XS.iconst X11.here hx rfl (hb hby at_33) ?_
  show Steps p.tables e below (T11.setTop (mkF m 34 #[.val (.long j0), .second, .val (.long j2), .second, .val (.long j4), .second, .val (.long j6), .second, .val (.long j8), .second, .val (.int i10), .val (.ref b7), .val (.int (i10 &&& (3 : Int32))), .unset, .unset, .unset, .unset, .unset, .unset, .unset, .unset, .unset, .unset] [(.int (3 : Int32)), (.int ((i10.toUInt32 >>> ((2 : Int32) &&& 31).toUInt32).toInt32))])) _
  refine XS.iand X11.here hx rfl (hb hby at_34) rfl ?_
  show Steps p.tables e below (T11.setTop (mkF m 35 #[.val (.long j0), .second, .val (.long j2), .second, .val (.long j4), .second, .val (.long j6), .second, .val (.long j8), .second, .val (.int i10), .val (.ref b7), .val (.int (i10 &&& (3 : Int32))), .unset, .unset, .unset, .unset, .unset, .unset, .unset, .unset, .unset, .unset] [(.int (((i10.toUInt32 >>> ((2 : Int32) &&& 31).toUInt32).toInt32) &&& (3 : Int32)))])) _
  refine XS.istore X11.here hx rfl (hb hby at_35) rfl (l' := #[.val (.long j0), .second, .val (.long j2), .second, .val (.long j4), .second, .val (.long j6), .second, .val (.long j8), .second, .val (.int i10), .val (.ref b7), .val (.int (i10 &&& (3 : Int32))), .val (.int (((i10.toUInt32 >>> ((2 : Int32) &&& 31).toUInt32).toInt32) &&& (3 : Int32))), .unset, .unset, .unset, .unset, .unset, .unset, .unset, .unset, .unset]) rfl ?_
  show Steps p.tables e below (T11.setTop (mkF m 37 #[.val (.long j0), .second, .val (.long j2), .second, .val (.long j4), .second, .val (.long j6), .second, .val (.long j8), .second, .val (.int i10), .val (.ref b7), .val (.int (i10 &&& (3 : Int32))), .val (.int (((i10.toUInt32 >>> ((2 : Int32) &&& 31).toUInt32).toInt32) &&& (3 : Int32))), .unset, .unset, .unset, .unset, .unset, .unset, .unset, .unset, .unset] [])) _
  refine XS.iload X11.here hx rfl (hb hby at_37) rfl ?_
  show Steps p.tables e below (T11.setTop (mkF m 39 #[.val (.long j0), .second, .val (.long j2), .second, .val (.long j4), .second, .val (.long j6), .second, .val (.long j8), .second, .val (.int i10), .val (.ref b7), .val (.int (i10 &&& (3 : Int32))), .val (.int (((i10.toUInt32 >>> ((2 : Int32) &&& 31).toUInt32).toInt32) &&& (3 : Int32))), .unset, .unset, .unset, .unset, .unset, .unset, .unset, .unset, .unset] [(.int i10)])) _
  refine XS.iconst X11.here hx rfl (hb hby at_39) ?_
  show Steps p.tables e below (T11.setTop (mkF m 40 #[.val (.long j0), .second, .val (.long j2), .second, .val (.long j4), .second, .val (.long j6), .second, .val (.long j8), .second, .val (.int i10), .val (.ref b7), .val (.int (i10 &&& (3 : Int32))), .val (.int (((i10.toUInt32 >>> ((2 : Int32) &&& 31).toUInt32).toInt32) &&& (3 : Int32))), .unset, .unset, .unset, .unset, .unset, .unset, .unset, .unset, .unset] [(.int (4 : Int32)), (.int i10)])) _
  refine XS.iushr X11.here hx rfl (hb hby at_40) rfl ?_
  show Steps p.tables e below (T11.setTop (mkF m 41 #[.val (.long j0), .second, .val (.long j2), .second, .val (.long j4), .second, .val (.long j6), .second, .val (.long j8), .second, .val (.int i10), .val (.ref b7), .val (.int (i10 &&& (3 : Int32))), .val (.int (((i10.toUInt32 >>> ((2 : Int32) &&& 31).toUInt32).toInt32) &&& (3 : Int32))), .unset, .unset, .unset, .unset, .unset, .unset, .unset, .unset, .unset] [(.int ((i10.toUInt32 >>> ((4 : Int32) &&& 31).toUInt32).toInt32))])) _
  refine XS.iconst X11.here hx rfl (hb hby at_41) ?_
  show Steps p.tables e below (T11.setTop (mkF m 42 #[.val (.long j0), .second, .val (.long j2), .second, .val (.long j4), .second, .val (.long j6), .second, .val (.long j8), .second, .val (.int i10), .val (.ref b7), .val (.int (i10 &&& (3 : Int32))), .val (.int (((i10.toUInt32 >>> ((2 : Int32) &&& 31).toUInt32).toInt32) &&& (3 : Int32))), .unset, .unset, .unset, .unset, .unset, .unset, .unset, .unset, .unset] [(.int (3 : Int32)), (.int ((i10.toUInt32 >>> ((4 : Int32) &&& 31).toUInt32).toInt32))])) _
  refine XS.iand X11.here hx rfl (hb hby at_42) rfl ?_
  show Steps p.tables e below (T11.setTop (mkF m 43 #[.val (.long j0), .second, .val (.long j2), .second, .val (.long j4), .second, .val (.long j6), .second, .val (.long j8), .second, .val (.int i10), .val (.ref b7), .val (.int (i10 &&& (3 : Int32))), .val (.int (((i10.toUInt32 >>> ((2 : Int32) &&& 31).toUInt32).toInt32) &&& (3 : Int32))), .unset, .unset, .unset, .unset, .unset, .unset, .unset, .unset, .unset] [(.int (((i10.toUInt32 >>> ((4 : Int32) &&& 31).toUInt32).toInt32) &&& (3 : Int32)))])) _
  refine XS.istore X11.here hx rfl (hb hby at_43) rfl (l' := #[.val (.long j0), .second, .val (.long j2), .second, .val (.long j4), .second, .val (.long j6), .second, .val (.long j8), .second, .val (.int i10), .val (.ref b7), .val (.int (i10 &&& (3 : Int32))), .val (.int (((i10.toUInt32 >>> ((2 : Int32) &&& 31).toUInt32).toInt32) &&& (3 : Int32))), .val (.int (((i10.toUInt32 >>> ((4 : Int32) &&& 31).toUInt32).toInt32) &&& (3 : Int32))), .unset, .unset, .unset, .unset, .unset, .unset, .unset, .unset]) rfl ?_
  show Steps p.tables e below (T11.setTop (mkF m 45 #[.val (.long j0), .second, .val (.long j2), .second, .val (.long j4), .second, .val (.long j6), .second, .val (.long j8), .second, .val (.int i10), .val (.ref b7), .val (.int (i10 &&& (3 : Int32))), .val (.int (((i10.toUInt32 >>> ((2 : Int32) &&& 31).toUInt32).toInt32) &&& (3 : Int32))), .val (.int (((i10.toUInt32 >>> ((4 : Int32) &&& 31).toUInt32).toInt32) &&& (3 : Int32))), .unset, .unset, .unset, .unset, .unset, .unset, .unset, .unset] [])) _
  refine XS.iload X11.here hx rfl (hb hby at_45) rfl ?_
  show Steps p.tables e below (T11.setTop (mkF m 47 #[.val (.long j0), .second, .val (.long j2), .second, .val (.long j4), .second, .val (.long j6), .second, .val (.long j8), .second, .val (.int i10), .val (.ref b7), .val (.int (i10 &&& (3 : Int32))), .val (.int (((i10.toUInt32 >>> ((2 : Int32) &&& 31).toUInt32).toInt32) &&& (3 : Int32))), .val (.int (((i10.toUInt32 >>> ((4 : Int32) &&& 31).toUInt32).toInt32) &&& (3 : Int32))), .unset, .unset, .unset, .unset, .unset, .unset, .unset, .unset] [(.int i10)])) _
  refine XS.bipush X11.here hx rfl (hb hby at_47) ?_
  show Steps p.tables e below (T11.setTop (mkF m 49 #[.val (.long j0), .second, .val (.long j2), .second, .val (.long j4), .second, .val (.long j6), .second, .val (.long j8), .second, .val (.int i10), .val (.ref b7), .val (.int (i10 &&& (3 : Int32))), .val (.int (((i10.toUInt32 >>> ((2 : Int32) &&& 31).toUInt32).toInt32) &&& (3 : Int32))), .val (.int (((i10.toUInt32 >>> ((4 : Int32) &&& 31).toUInt32).toInt32) &&& (3 : Int32))), .unset, .unset, .unset, .unset, .unset, .unset, .unset, .unset] [(.int (6 : Int32)), (.int i10)])) _
  refine XS.iushr X11.here hx rfl (hb hby at_49) rfl ?_
  show Steps p.tables e below (T11.setTop (mkF m 50 #[.val (.long j0), .second, .val (.long j2), .second, .val (.long j4), .second, .val (.long j6), .second, .val (.long j8), .second, .val (.int i10), .val (.ref b7), .val (.int (i10 &&& (3 : Int32))), .val (.int (((i10.toUInt32 >>> ((2 : Int32) &&& 31).toUInt32).toInt32) &&& (3 : Int32))), .val (.int (((i10.toUInt32 >>> ((4 : Int32) &&& 31).toUInt32).toInt32) &&& (3 : Int32))), .unset, .unset, .unset, .unset, .unset, .unset, .unset, .unset] [(.int ((i10.toUInt32 >>> ((6 : Int32) &&& 31).toUInt32).toInt32))])) _
  refine XS.iconst X11.here hx rfl (hb hby at_50) ?_
  show Steps p.tables e below (T11.setTop (mkF m 51 #[.val (.long j0), .second, .val (.long j2), .second, .val (.long j4), .second, .val (.long j6), .second, .val (.long j8), .second, .val (.int i10), .val (.ref b7), .val (.int (i10 &&& (3 : Int32))), .val (.int (((i10.toUInt32 >>> ((2 : Int32) &&& 31).toUInt32).toInt32) &&& (3 : Int32))), .val (.int (((i10.toUInt32 >>> ((4 : Int32) &&& 31).toUInt32).toInt32) &&& (3 : Int32))), .unset, .unset, .unset, .unset, .unset, .unset, .unset, .unset] [(.int (3 : Int32)), (.int ((i10.toUInt32 >>> ((6 : Int32) &&& 31).toUInt32).toInt32))])) _
  refine XS.iand X11.here hx rfl (hb hby at_51) rfl ?_
  show Steps p.tables e below (T11.setTop (mkF m 52 #[.val (.long j0), .second, .val (.long j2), .second, .val (.long j4), .second, .val (.long j6), .second, .val (.long j8), .second, .val (.int i10), .val (.ref b7), .val (.int (i10 &&& (3 : Int32))), .val (.int (((i10.toUInt32 >>> ((2 : Int32) &&& 31).toUInt32).toInt32) &&& (3 : Int32))), .val (.int (((i10.toUInt32 >>> ((4 : Int32) &&& 31).toUInt32).toInt32) &&& (3 : Int32))), .unset, .unset, .unset, .unset, .unset, .unset, .unset, .unset] [(.int (((i10.toUInt32 >>> ((6 : Int32) &&& 31).toUInt32).toInt32) &&& (3 : Int32)))])) _
  refine XS.istore X11.here hx rfl (hb hby at_52) rfl (l' := #[.val (.long j0), .second, .val (.long j2), .second, .val (.long j4), .second, .val (.long j6), .second, .val (.long j8), .second, .val (.int i10), .val (.ref b7), .val (.int (i10 &&& (3 : Int32))), .val (.int (((i10.toUInt32 >>> ((2 : Int32) &&& 31).toUInt32).toInt32) &&& (3 : Int32))), .val (.int (((i10.toUInt32 >>> ((4 : Int32) &&& 31).toUInt32).toInt32) &&& (3 : Int32))), .val (.int (((i10.toUInt32 >>> ((6 : Int32) &&& 31).toUInt32).toInt32) &&& (3 : Int32))), .unset, .unset, .unset, .unset, .unset, .unset, .unset]) rfl ?_
  exact kt
set_option maxRecDepth 65536 in
set_option maxHeartbeats 40000000 in
theorem sgB0 {p : Program} {l : Launch} {e : Env} {s : State} {m : MethodId} {args : Array Value} {below : List Frame} {meth : Method} {c : Code} {T0 : State} {locs : List Loc} {Z : State} {a0 : Array Value} {h0 : Heap} (s0 : Slot) (s1 : Slot) (s2 : Slot) (s3 : Slot) (s4 : Slot) (s5 : Slot) (s6 : Slot) (s7 : Slot) (s8 : Slot) (s9 : Slot) (s10 : Slot) (o11 : Addr) (i12 : Int32) (s13 : Slot) (s14 : Slot) (s15 : Slot) (n0 : Nat) (f_o11 : Nat → Value)
    (X0 : Stand p l e room_1 s m args below meth c T0 locs 1 4) (hx : p.tables.exec = Jvm.exec) (hZ : Z.Warmed39 s.vm) (hw : ∀ d ∈ tables_1, d.before a0 Z = true) (hby : c.code = code) (hml : c.maxLocals = 23) (hown : s.vm.findClass "com/example/sluice/sluice/NetworkFitsPinLaw" = some m.cls) (e0 : T0.heap = h0) (Z0 : n0 ≤ h0.size) (N0 : Fr n0 locs) (V_o11 : Ary Z h0 o11 .long 4 f_o11) (hc56 : i12 = (0 : Int32)) :
    ∃ (T' : State) (h' : Heap) (locs' : List Loc) (b : Addr) (g : Nat → Value), Stand p l e room_1 s m args below meth c T' locs' (1 + 1) 4 ∧ T'.heap = h' ∧ Fr n0 locs' ∧ Ary Z h' o11 .long 4 f_o11 ∧ Ary Z h' b .int 0 g ∧ n0 ≤ h'.size ∧
      ∀ target, Steps p.tables e below (T'.setTop (mkF m 130 #[s0, s1, s2, s3, s4, s5, s6, s7, s8, s9, s10, .val (.ref o11), .val (.int i12), s13, s14, s15, .val (.ref b), .unset, .unset, .unset, .unset, .unset, .unset] [])) target → Steps p.tables e below (T0.setTop (mkF m 54 #[s0, s1, s2, s3, s4, s5, s6, s7, s8, s9, s10, .val (.ref o11), .val (.int i12), s13, s14, s15, .unset, .unset, .unset, .unset, .unset, .unset, .unset] [])) target := by
  obtain ⟨T7, h7, k7, X7, e7, E7, A7, st7⟩ := newP X0 hx hZ (hw _ (List.mem_of_getElem? (i := 1) rfl)) e0 (g := (mkF m 60 #[s0, s1, s2, s3, s4, s5, s6, s7, s8, s9, s10, .val (.ref o11), .val (.int i12), s13, s14, s15, .unset, .unset, .unset, .unset, .unset, .unset, .unset] [(.int (0 : Int32))])) rfl (hb hby at_60) rfl (by decide) (cap := 0) (by decide) (by decide) (by decide) (by decide)
  obtain ⟨b7, g7⟩ : ∃ z, z = h0.size := ⟨_, rfl⟩
  rw [← g7] at A7 st7
  have V_b7 : Ary Z h7 b7 .int 0 (fun _ => (.int (0 : Int32))) := Ary.new A7 (by decide) rfl
  have g_b7 : n0 ≤ b7 := Nat.le_trans Z0 (Nat.le_of_eq g7.symm)
  have sz_b7 : h0.size ≤ b7 := (Nat.le_trans (Keep.refl h0 []).1 (Nat.le_of_eq g7.symm))
  have K7 : Keep h0 h7 [] := (Keep.refl h0 []).ext E7
  have Vend_o11 := (V_o11.ext E7)
  have Vend_b7 := V_b7
  have Zend : n0 ≤ h7.size := (Nat.le_trans Z0 E7.1)
  have Kend := K7
  refine ⟨T7, _, _, b7, _, X7, e7, N0, Vend_o11, Vend_b7, Zend, fun target kt => ?_⟩
  show Steps p.tables e below (T0.setTop (mkF m 54 #[s0, s1, s2, s3, s4, s5, s6, s7, s8, s9, s10, .val (.ref o11), .val (.int i12), s13, s14, s15, .unset, .unset, .unset, .unset, .unset, .unset, .unset] [])) _
  refine XS.iload X0.here hx rfl (hb hby at_54) rfl ?_
  show Steps p.tables e below (T0.setTop (mkF m 56 #[s0, s1, s2, s3, s4, s5, s6, s7, s8, s9, s10, .val (.ref o11), .val (.int i12), s13, s14, s15, .unset, .unset, .unset, .unset, .unset, .unset, .unset] [(.int i12)])) _
  refine XS.ifNo X0.here hx rfl (hb hby at_56) rfl ((if0 _ _).trans (teq hc56).2) ?_
  show Steps p.tables e below (T0.setTop (mkF m 59 #[s0, s1, s2, s3, s4, s5, s6, s7, s8, s9, s10, .val (.ref o11), .val (.int i12), s13, s14, s15, .unset, .unset, .unset, .unset, .unset, .unset, .unset] [])) _
  refine XS.iconst X0.here hx rfl (hb hby at_59) ?_
  show Steps p.tables e below (T0.setTop (mkF m 60 #[s0, s1, s2, s3, s4, s5, s6, s7, s8, s9, s10, .val (.ref o11), .val (.int i12), s13, s14, s15, .unset, .unset, .unset, .unset, .unset, .unset, .unset] [(.int (0 : Int32))])) _
  refine st7 _ ?_
  show Steps p.tables e below (T7.setTop (mkF m 62 #[s0, s1, s2, s3, s4, s5, s6, s7, s8, s9, s10, .val (.ref o11), .val (.int i12), s13, s14, s15, .unset, .unset, .unset, .unset, .unset, .unset, .unset] [(.ref b7)])) _
  refine XS.astore X7.here hx rfl (hb hby at_62) rfl rfl (l' := #[s0, s1, s2, s3, s4, s5, s6, s7, s8, s9, s10, .val (.ref o11), .val (.int i12), s13, s14, s15, .val (.ref b7), .unset, .unset, .unset, .unset, .unset, .unset]) rfl ?_
  show Steps p.tables e below (T7.setTop (mkF m 64 #[s0, s1, s2, s3, s4, s5, s6, s7, s8, s9, s10, .val (.ref o11), .val (.int i12), s13, s14, s15, .val (.ref b7), .unset, .unset, .unset, .unset, .unset, .unset] [])) _
  refine XS.goto X7.here hx rfl (pc0 := 64) (pc' := 130) rfl (hb hby at_64) (by decide) (by decide) ?_
  exact kt
set_option maxRecDepth 65536 in
set_option maxHeartbeats 40000000 in
theorem sgB1 {p : Program} {l : Launch} {e : Env} {s : State} {m : MethodId} {args : Array Value} {below : List Frame} {meth : Method} {c : Code} {T0 : State} {locs : List Loc} {Z : State} {a0 : Array Value} {h0 : Heap} (s0 : Slot) (s1 : Slot) (s2 : Slot) (s3 : Slot) (s4 : Slot) (s5 : Slot) (s6 : Slot) (s7 : Slot) (s8 : Slot) (s9 : Slot) (s10 : Slot) (o11 : Addr) (i12 : Int32) (i13 : Int32) (s14 : Slot) (s15 : Slot) (n0 : Nat) (f_o11 : Nat → Value)
    (X0 : Stand p l e room_1 s m args below meth c T0 locs 1 4) (hx : p.tables.exec = Jvm.exec) (hZ : Z.Warmed39 s.vm) (hw : ∀ d ∈ tables_1, d.before a0 Z = true) (hby : c.code = code) (hml : c.maxLocals = 23) (hown : s.vm.findClass "com/example/sluice/sluice/NetworkFitsPinLaw" = some m.cls) (e0 : T0.heap = h0) (Z0 : n0 ≤ h0.size) (N0 : Fr n0 locs) (V_o11 : Ary Z h0 o11 .long 4 f_o11) (hc56 : ¬ (i12 = (0 : Int32))) (hc70 : i12 = (1 : Int32)) :
    ∃ (T' : State) (h' : Heap) (locs' : List Loc) (b : Addr) (g : Nat → Value), Stand p l e room_1 s m args below meth c T' locs' (1 + 1) (4 + 1) ∧ T'.heap = h' ∧ Fr n0 locs' ∧ Ary Z h' o11 .long 4 f_o11 ∧ Ary Z h' b .int 1 g ∧ g 0 = .int i13 ∧ n0 ≤ h'.size ∧
      ∀ target, Steps p.tables e below (T'.setTop (mkF m 130 #[s0, s1, s2, s3, s4, s5, s6, s7, s8, s9, s10, .val (.ref o11), .val (.int i12), .val (.int i13), s14, s15, .val (.ref b), .unset, .unset, .unset, .unset, .unset, .unset] [])) target → Steps p.tables e below (T0.setTop (mkF m 54 #[s0, s1, s2, s3, s4, s5, s6, s7, s8, s9, s10, .val (.ref o11), .val (.int i12), .val (.int i13), s14, s15, .unset, .unset, .unset, .unset, .unset, .unset, .unset] [])) target := by
  obtain ⟨T7, h7, k7, X7, e7, E7, A7, st7⟩ := newP X0 hx hZ (hw _ (List.mem_of_getElem? (i := 1) rfl)) e0 (g := (mkF m 74 #[s0, s1, s2, s3, s4, s5, s6, s7, s8, s9, s10, .val (.ref o11), .val (.int i12), .val (.int i13), s14, s15, .unset, .unset, .unset, .unset, .unset, .unset, .unset] [(.int (1 : Int32))])) rfl (hb hby at_74) rfl (by decide) (cap := 1) (by decide) (by decide) (by decide) (by decide)
  obtain ⟨b7, g7⟩ : ∃ z, z = h0.size := ⟨_, rfl⟩
  rw [← g7] at A7 st7
  have V_b7 : Ary Z h7 b7 .int 1 (fun _ => (.int (0 : Int32))) := Ary.new A7 (by decide) rfl
  have g_b7 : n0 ≤ b7 := Nat.le_trans Z0 (Nat.le_of_eq g7.symm)
  have sz_b7 : h0.size ≤ b7 := (Nat.le_trans (Keep.refl h0 []).1 (Nat.le_of_eq g7.symm))
  have K7 : Keep h0 h7 [] := (Keep.refl h0 []).ext E7
  obtain ⟨cl_80, Ar_80, S_80, H_80⟩ := id V_b7
  have hin80 := Ary.inn S_80 (show own_ix (0 : Int32) 0 from rfl) (by decide)
  obtain ⟨T8, h8, X8, e8, W8, st8⟩ := stI X7 hx hZ e7 Ar_80 (j := (0 : Int32)) hin80 (g := (mkF m 80 #[s0, s1, s2, s3, s4, s5, s6, s7, s8, s9, s10, .val (.ref o11), .val (.int i12), .val (.int i13), s14, s15, .unset, .unset, .unset, .unset, .unset, .unset, .unset] [(.int i13), (.int (0 : Int32)), (.ref b7), (.ref b7)])) rfl rfl (hb hby at_80)
  have V_b7_8 := Ary.set Ar_80 S_80 H_80 W8 (show own_ix (0 : Int32) 0 from rfl)
  have K8 : Keep h0 h8 [] := K7.wr W8 (Or.inr sz_b7)
  have N8 := Fr.snoc X8 N0 g_b7
  have Vend_o11 := ((V_o11.ext E7).other W8 (Nat.ne_of_lt (Nat.lt_of_lt_of_le V_o11.lt (Nat.le_of_eq g7.symm))))
  have Vend_b7 := V_b7_8
  have Zend : n0 ≤ h8.size := (Nat.le_trans (Nat.le_trans Z0 E7.1) (Keep.of_wr W8).1)
  have Kend := K8
  refine ⟨T8, _, _, b7, _, X8, e8, N8, Vend_o11, Vend_b7, (own_up_at _ _ _), Zend, fun target kt => ?_⟩
  show Steps p.tables e below (T0.setTop (mkF m 54 #[s0, s1, s2, s3, s4, s5, s6, s7, s8, s9, s10, .val (.ref o11), .val (.int i12), .val (.int i13), s14, s15, .unset, .unset, .unset, .unset, .unset, .unset, .unset] [])) _
  refine XS.iload X0.here hx rfl (hb hby at_54) rfl ?_
  show Steps p.tables e below (T0.setTop (mkF m 56 #[s0, s1, s2, s3, s4, s5, s6, s7, s8, s9, s10, .val (.ref o11), .val (.int i12), .val (.int i13), s14, s15, .unset, .unset, .unset, .unset, .unset, .unset, .unset] [(.int i12)])) _
  refine XS.ifYes X0.here hx rfl (pc0 := 56) (pc' := 67) rfl (hb hby at_56) rfl ((if0 _ _).trans (feq hc56).2) (by decide) (by decide) ?_
  show Steps p.tables e below (T0.setTop (mkF m 67 #[s0, s1, s2, s3, s4, s5, s6, s7, s8, s9, s10, .val (.ref o11), .val (.int i12), .val (.int i13), s14, s15, .unset, .unset, .unset, .unset, .unset, .unset, .unset] [])) _
  refine XS.iload X0.here hx rfl (hb hby at_67) rfl ?_
  show Steps p.tables e below (T0.setTop (mkF m 69 #[s0, s1, s2, s3, s4, s5, s6, s7, s8, s9, s10, .val (.ref o11), .val (.int i12), .val (.int i13), s14, s15, .unset, .unset, .unset, .unset, .unset, .unset, .unset] [(.int i12)])) _
  refine XS.iconst X0.here hx rfl (hb hby at_69) ?_
  show Steps p.tables e below (T0.setTop (mkF m 70 #[s0, s1, s2, s3, s4, s5, s6, s7, s8, s9, s10, .val (.ref o11), .val (.int i12), .val (.int i13), s14, s15, .unset, .unset, .unset, .unset, .unset, .unset, .unset] [(.int (1 : Int32)), (.int i12)])) _
  refine XS.icmpNo X0.here hx rfl (hb hby at_70) rfl (teq hc70).2 ?_
  show Steps p.tables e below (T0.setTop (mkF m 73 #[s0, s1, s2, s3, s4, s5, s6, s7, s8, s9, s10, .val (.ref o11), .val (.int i12), .val (.int i13), s14, s15, .unset, .unset, .unset, .unset, .unset, .unset, .unset] [])) _
  refine XS.iconst X0.here hx rfl (hb hby at_73) ?_
  show Steps p.tables e below (T0.setTop (mkF m 74 #[s0, s1, s2, s3, s4, s5, s6, s7, s8, s9, s10, .val (.ref o11), .val (.int i12), .val (.int i13), s14, s15, .unset, .unset, .unset, .unset, .unset, .unset, .unset] [(.int (1 : Int32))])) _
  refine st7 _ ?_
  show Steps p.tables e below (T7.setTop (mkF m 76 #[s0, s1, s2, s3, s4, s5, s6, s7, s8, s9, s10, .val (.ref o11), .val (.int i12), .val (.int i13), s14, s15, .unset, .unset, .unset, .unset, .unset, .unset, .unset] [(.ref b7)])) _
  refine XS.dup X7.here hx rfl (hb hby at_76) rfl rfl ?_
  show Steps p.tables e below (T7.setTop (mkF m 77 #[s0, s1, s2, s3, s4, s5, s6, s7, s8, s9, s10, .val (.ref o11), .val (.int i12), .val (.int i13), s14, s15, .unset, .unset, .unset, .unset, .unset, .unset, .unset] [(.ref b7), (.ref b7)])) _
  refine XS.iconst X7.here hx rfl (hb hby at_77) ?_
  show Steps p.tables e below (T7.setTop (mkF m 78 #[s0, s1, s2, s3, s4, s5, s6, s7, s8, s9, s10, .val (.ref o11), .val (.int i12), .val (.int i13), s14, s15, .unset, .unset, .unset, .unset, .unset, .unset, .unset] [(.int (0 : Int32)), (.ref b7), (.ref b7)])) _
  refine XS.iload X7.here hx rfl (hb hby at_78) rfl ?_
  show Steps p.tables e below (T7.setTop (mkF m 80 #[s0, s1, s2, s3, s4, s5, s6, s7, s8, s9, s10, .val (.ref o11), .val (.int i12), .val (.int i13), s14, s15, .unset, .unset, .unset, .unset, .unset, .unset, .unset] [(.int i13), (.int (0 : Int32)), (.ref b7), (.ref b7)])) _
  refine st8 _ ?_
  show Steps p.tables e below (T8.setTop (mkF m 81 #[s0, s1, s2, s3, s4, s5, s6, s7, s8, s9, s10, .val (.ref o11), .val (.int i12), .val (.int i13), s14, s15, .unset, .unset, .unset, .unset, .unset, .unset, .unset] [(.ref b7)])) _
  refine XS.astore X8.here hx rfl (hb hby at_81) rfl rfl (l' := #[s0, s1, s2, s3, s4, s5, s6, s7, s8, s9, s10, .val (.ref o11), .val (.int i12), .val (.int i13), s14, s15, .val (.ref b7), .unset, .unset, .unset, .unset, .unset, .unset]) rfl ?_
  show Steps p.tables e below (T8.setTop (mkF m 83 #[s0, s1, s2, s3, s4, s5, s6, s7, s8, s9, s10, .val (.ref o11), .val (.int i12), .val (.int i13), s14, s15, .val (.ref b7), .unset, .unset, .unset, .unset, .unset, .unset] [])) _
  refine XS.goto X8.here hx rfl (pc0 := 83) (pc' := 130) rfl (hb hby at_83) (by decide) (by decide) ?_
  exact kt
set_option maxRecDepth 65536 in
set_option maxHeartbeats 40000000 in
theorem sgB2 {p : Program} {l : Launch} {e : Env} {s : State} {m : MethodId} {args : Array Value} {below : List Frame} {meth : Method} {c : Code} {T0 : State} {locs : List Loc} {Z : State} {a0 : Array Value} {h0 : Heap} (s0 : Slot) (s1 : Slot) (s2 : Slot) (s3 : Slot) (s4 : Slot) (s5 : Slot) (s6 : Slot) (s7 : Slot) (s8 : Slot) (s9 : Slot) (s10 : Slot) (o11 : Addr) (i12 : Int32) (i13 : Int32) (i14 : Int32) (s15 : Slot) (n0 : Nat) (f_o11 : Nat → Value)
    (X0 : Stand p l e room_1 s m args below meth c T0 locs 1 4) (hx : p.tables.exec = Jvm.exec) (hZ : Z.Warmed39 s.vm) (hw : ∀ d ∈ tables_1, d.before a0 Z = true) (hby : c.code = code) (hml : c.maxLocals = 23) (hown : s.vm.findClass "com/example/sluice/sluice/NetworkFitsPinLaw" = some m.cls) (e0 : T0.heap = h0) (Z0 : n0 ≤ h0.size) (N0 : Fr n0 locs) (V_o11 : Ary Z h0 o11 .long 4 f_o11) (hc56 : ¬ (i12 = (0 : Int32))) (hc70 : ¬ (i12 = (1 : Int32))) (hc89 : i12 = (2 : Int32)) :
    ∃ (T' : State) (h' : Heap) (locs' : List Loc) (b : Addr) (g : Nat → Value), Stand p l e room_1 s m args below meth c T' locs' (1 + 1) (4 + 2) ∧ T'.heap = h' ∧ Fr n0 locs' ∧ Ary Z h' o11 .long 4 f_o11 ∧ Ary Z h' b .int 2 g ∧ g 0 = .int i13 ∧ g 1 = .int i14 ∧ n0 ≤ h'.size ∧
      ∀ target, Steps p.tables e below (T'.setTop (mkF m 130 #[s0, s1, s2, s3, s4, s5, s6, s7, s8, s9, s10, .val (.ref o11), .val (.int i12), .val (.int i13), .val (.int i14), s15, .val (.ref b), .unset, .unset, .unset, .unset, .unset, .unset] [])) target → Steps p.tables e below (T0.setTop (mkF m 54 #[s0, s1, s2, s3, s4, s5, s6, s7, s8, s9, s10, .val (.ref o11), .val (.int i12), .val (.int i13), .val (.int i14), s15, .unset, .unset, .unset, .unset, .unset, .unset, .unset] [])) target := by
  obtain ⟨T7, h7, k7, X7, e7, E7, A7, st7⟩ := newP X0 hx hZ (hw _ (List.mem_of_getElem? (i := 1) rfl)) e0 (g := (mkF m 93 #[s0, s1, s2, s3, s4, s5, s6, s7, s8, s9, s10, .val (.ref o11), .val (.int i12), .val (.int i13), .val (.int i14), s15, .unset, .unset, .unset, .unset, .unset, .unset, .unset] [(.int (2 : Int32))])) rfl (hb hby at_93) rfl (by decide) (cap := 2) (by decide) (by decide) (by decide) (by decide)
  obtain ⟨b7, g7⟩ : ∃ z, z = h0.size := ⟨_, rfl⟩
  rw [← g7] at A7 st7
  have V_b7 : Ary Z h7 b7 .int 2 (fun _ => (.int (0 : Int32))) := Ary.new A7 (by decide) rfl
  have g_b7 : n0 ≤ b7 := Nat.le_trans Z0 (Nat.le_of_eq g7.symm)
  have sz_b7 : h0.size ≤ b7 := (Nat.le_trans (Keep.refl h0 []).1 (Nat.le_of_eq g7.symm))
  have K7 : Keep h0 h7 [] := (Keep.refl h0 []).ext E7
  obtain ⟨cl_99, Ar_99, S_99, H_99⟩ := id V_b7
  have hin99 := Ary.inn S_99 (show own_ix (0 : Int32) 0 from rfl) (by decide)
  obtain ⟨T8, h8, X8, e8, W8, st8⟩ := stI X7 hx hZ e7 Ar_99 (j := (0 : Int32)) hin99 (g := (mkF m 99 #[s0, s1, s2, s3, s4, s5, s6, s7, s8, s9, s10, .val (.ref o11), .val (.int i12), .val (.int i13), .val (.int i14), s15, .unset, .unset, .unset, .unset, .unset, .unset, .unset] [(.int i13), (.int (0 : Int32)), (.ref b7), (.ref b7)])) rfl rfl (hb hby at_99)
  have V_b7_8 := Ary.set Ar_99 S_99 H_99 W8 (show own_ix (0 : Int32) 0 from rfl)
  have K8 : Keep h0 h8 [] := K7.wr W8 (Or.inr sz_b7)
  have N8 := Fr.snoc X8 N0 g_b7
  obtain ⟨cl_104, Ar_104, S_104, H_104⟩ := id V_b7_8
  have hin104 := Ary.inn S_104 (show own_ix (1 : Int32) 1 from rfl) (by decide)
  obtain ⟨T9, h9, X9, e9, W9, st9⟩ := stI X8 hx hZ e8 Ar_104 (j := (1 : Int32)) hin104 (g := (mkF m 104 #[s0, s1, s2, s3, s4, s5, s6, s7, s8, s9, s10, .val (.ref o11), .val (.int i12), .val (.int i13), .val (.int i14), s15, .unset, .unset, .unset, .unset, .unset, .unset, .unset] [(.int i14), (.int (1 : Int32)), (.ref b7), (.ref b7)])) rfl rfl (hb hby at_104)
  have V_b7_9 := Ary.set Ar_104 S_104 H_104 W9 (show own_ix (1 : Int32) 1 from rfl)
  have K9 : Keep h0 h9 [] := K8.wr W9 (Or.inr sz_b7)
  have N9 := Fr.snoc X9 N8 g_b7
  have Vend_o11 := (((V_o11.ext E7).other W8 (Nat.ne_of_lt (Nat.lt_of_lt_of_le V_o11.lt (Nat.le_of_eq g7.symm)))).other W9 (Nat.ne_of_lt (Nat.lt_of_lt_of_le V_o11.lt (Nat.le_of_eq g7.symm))))
  have Vend_b7 := V_b7_9
  have Zend : n0 ≤ h9.size := (Nat.le_trans (Nat.le_trans (Nat.le_trans Z0 E7.1) (Keep.of_wr W8).1) (Keep.of_wr W9).1)
  have Kend := K9
  refine ⟨T9, _, _, b7, _, X9, e9, N9, Vend_o11, Vend_b7, ((own_up_ne _ _ (by decide)).trans (own_up_at _ _ _)), (own_up_at _ _ _), Zend, fun target kt => ?_⟩
  show Steps p.tables e below (T0.setTop (mkF m 54 #[s0, s1, s2, s3, s4, s5, s6, s7, s8, s9, s10, .val (.ref o11), .val (.int i12), .val (.int i13), .val (.int i14), s15, .unset, .unset, .unset, .unset, .unset, .unset, .unset] [])) _
  refine XS.iload X0.here hx rfl (hb hby at_54) rfl ?_
  show Steps p.tables e below (T0.setTop (mkF m 56 #[s0, s1, s2, s3, s4, s5, s6, s7, s8, s9, s10, .val (.ref o11), .val (.int i12), .val (.int i13), .val (.int i14), s15, .unset, .unset, .unset, .unset, .unset, .unset, .unset] [(.int i12)])) _
  refine XS.ifYes X0.here hx rfl (pc0 := 56) (pc' := 67) rfl (hb hby at_56) rfl ((if0 _ _).trans (feq hc56).2) (by decide) (by decide) ?_
  show Steps p.tables e below (T0.setTop (mkF m 67 #[s0, s1, s2, s3, s4, s5, s6, s7, s8, s9, s10, .val (.ref o11), .val (.int i12), .val (.int i13), .val (.int i14), s15, .unset, .unset, .unset, .unset, .unset, .unset, .unset] [])) _
  refine XS.iload X0.here hx rfl (hb hby at_67) rfl ?_
  show Steps p.tables e below (T0.setTop (mkF m 69 #[s0, s1, s2, s3, s4, s5, s6, s7, s8, s9, s10, .val (.ref o11), .val (.int i12), .val (.int i13), .val (.int i14), s15, .unset, .unset, .unset, .unset, .unset, .unset, .unset] [(.int i12)])) _
  refine XS.iconst X0.here hx rfl (hb hby at_69) ?_
  show Steps p.tables e below (T0.setTop (mkF m 70 #[s0, s1, s2, s3, s4, s5, s6, s7, s8, s9, s10, .val (.ref o11), .val (.int i12), .val (.int i13), .val (.int i14), s15, .unset, .unset, .unset, .unset, .unset, .unset, .unset] [(.int (1 : Int32)), (.int i12)])) _
  refine XS.icmpYes X0.here hx rfl (pc0 := 70) (pc' := 86) rfl (hb hby at_70) rfl (feq hc70).2 (by decide) (by decide) ?_
  show Steps p.tables e below (T0.setTop (mkF m 86 #[s0, s1, s2, s3, s4, s5, s6, s7, s8, s9, s10, .val (.ref o11), .val (.int i12), .val (.int i13), .val (.int i14), s15, .unset, .unset, .unset, .unset, .unset, .unset, .unset] [])) _
  refine XS.iload X0.here hx rfl (hb hby at_86) rfl ?_
  show Steps p.tables e below (T0.setTop (mkF m 88 #[s0, s1, s2, s3, s4, s5, s6, s7, s8, s9, s10, .val (.ref o11), .val (.int i12), .val (.int i13), .val (.int i14), s15, .unset, .unset, .unset, .unset, .unset, .unset, .unset] [(.int i12)])) _
  refine XS.iconst X0.here hx rfl (hb hby at_88) ?_
  show Steps p.tables e below (T0.setTop (mkF m 89 #[s0, s1, s2, s3, s4, s5, s6, s7, s8, s9, s10, .val (.ref o11), .val (.int i12), .val (.int i13), .val (.int i14), s15, .unset, .unset, .unset, .unset, .unset, .unset, .unset] [(.int (2 : Int32)), (.int i12)])) _
  refine XS.icmpNo X0.here hx rfl (hb hby at_89) rfl (teq hc89).2 ?_
  show Steps p.tables e below (T0.setTop (mkF m 92 #[s0, s1, s2, s3, s4, s5, s6, s7, s8, s9, s10, .val (.ref o11), .val (.int i12), .val (.int i13), .val (.int i14), s15, .unset, .unset, .unset, .unset, .unset, .unset, .unset] [])) _
  refine XS.iconst X0.here hx rfl (hb hby at_92) ?_
  show Steps p.tables e below (T0.setTop (mkF m 93 #[s0, s1, s2, s3, s4, s5, s6, s7, s8, s9, s10, .val (.ref o11), .val (.int i12), .val (.int i13), .val (.int i14), s15, .unset, .unset, .unset, .unset, .unset, .unset, .unset] [(.int (2 : Int32))])) _
  refine st7 _ ?_
  show Steps p.tables e below (T7.setTop (mkF m 95 #[s0, s1, s2, s3, s4, s5, s6, s7, s8, s9, s10, .val (.ref o11), .val (.int i12), .val (.int i13), .val (.int i14), s15, .unset, .unset, .unset, .unset, .unset, .unset, .unset] [(.ref b7)])) _
  refine XS.dup X7.here hx rfl (hb hby at_95) rfl rfl ?_
  show Steps p.tables e below (T7.setTop (mkF m 96 #[s0, s1, s2, s3, s4, s5, s6, s7, s8, s9, s10, .val (.ref o11), .val (.int i12), .val (.int i13), .val (.int i14), s15, .unset, .unset, .unset, .unset, .unset, .unset, .unset] [(.ref b7), (.ref b7)])) _
  refine XS.iconst X7.here hx rfl (hb hby at_96) ?_
  show Steps p.tables e below (T7.setTop (mkF m 97 #[s0, s1, s2, s3, s4, s5, s6, s7, s8, s9, s10, .val (.ref o11), .val (.int i12), .val (.int i13), .val (.int i14), s15, .unset, .unset, .unset, .unset, .unset, .unset, .unset] [(.int (0 : Int32)), (.ref b7), (.ref b7)])) _
  refine XS.iload X7.here hx rfl (hb hby at_97) rfl ?_
  show Steps p.tables e below (T7.setTop (mkF m 99 #[s0, s1, s2, s3, s4, s5, s6, s7, s8, s9, s10, .val (.ref o11), .val (.int i12), .val (.int i13), .val (.int i14), s15, .unset, .unset, .unset, .unset, .unset, .unset, .unset] [(.int i13), (.int (0 : Int32)), (.ref b7), (.ref b7)])) _
  refine st8 _ ?_
  show Steps p.tables e below (T8.setTop (mkF m 100 #[s0, s1, s2, s3, s4, s5, s6, s7, s8, s9, s10, .val (.ref o11), .val (.int i12), .val (.int i13), .val (.int i14), s15, .unset, .unset, .unset, .unset, .unset, .unset, .unset] [(.ref b7)])) _
  refine XS.dup X8.here hx rfl (hb hby at_100) rfl rfl ?_
  show Steps p.tables e below (T8.setTop (mkF m 101 #[s0, s1, s2, s3, s4, s5, s6, s7, s8, s9, s10, .val (.ref o11), .val (.int i12), .val (.int i13), .val (.int i14), s15, .unset, .unset, .unset, .unset, .unset, .unset, .unset] [(.ref b7), (.ref b7)])) _
  refine XS.iconst X8.here hx rfl (hb hby at_101) ?_
  show Steps p.tables e below (T8.setTop (mkF m 102 #[s0, s1, s2, s3, s4, s5, s6, s7, s8, s9, s10, .val (.ref o11), .val (.int i12), .val (.int i13), .val (.int i14), s15, .unset, .unset, .unset, .unset, .unset, .unset, .unset] [(.int (1 : Int32)), (.ref b7), (.ref b7)])) _
  refine XS.iload X8.here hx rfl (hb hby at_102) rfl ?_
  show Steps p.tables e below (T8.setTop (mkF m 104 #[s0, s1, s2, s3, s4, s5, s6, s7, s8, s9, s10, .val (.ref o11), .val (.int i12), .val (.int i13), .val (.int i14), s15, .unset, .unset, .unset, .unset, .unset, .unset, .unset] [(.int i14), (.int (1 : Int32)), (.ref b7), (.ref b7)])) _
  refine st9 _ ?_
  show Steps p.tables e below (T9.setTop (mkF m 105 #[s0, s1, s2, s3, s4, s5, s6, s7, s8, s9, s10, .val (.ref o11), .val (.int i12), .val (.int i13), .val (.int i14), s15, .unset, .unset, .unset, .unset, .unset, .unset, .unset] [(.ref b7)])) _
  refine XS.astore X9.here hx rfl (hb hby at_105) rfl rfl (l' := #[s0, s1, s2, s3, s4, s5, s6, s7, s8, s9, s10, .val (.ref o11), .val (.int i12), .val (.int i13), .val (.int i14), s15, .val (.ref b7), .unset, .unset, .unset, .unset, .unset, .unset]) rfl ?_
  show Steps p.tables e below (T9.setTop (mkF m 107 #[s0, s1, s2, s3, s4, s5, s6, s7, s8, s9, s10, .val (.ref o11), .val (.int i12), .val (.int i13), .val (.int i14), s15, .val (.ref b7), .unset, .unset, .unset, .unset, .unset, .unset] [])) _
  refine XS.goto X9.here hx rfl (pc0 := 107) (pc' := 130) rfl (hb hby at_107) (by decide) (by decide) ?_
  exact kt
set_option maxRecDepth 65536 in
set_option maxHeartbeats 40000000 in
theorem sgB3 {p : Program} {l : Launch} {e : Env} {s : State} {m : MethodId} {args : Array Value} {below : List Frame} {meth : Method} {c : Code} {T0 : State} {locs : List Loc} {Z : State} {a0 : Array Value} {h0 : Heap} (s0 : Slot) (s1 : Slot) (s2 : Slot) (s3 : Slot) (s4 : Slot) (s5 : Slot) (s6 : Slot) (s7 : Slot) (s8 : Slot) (s9 : Slot) (s10 : Slot) (o11 : Addr) (i12 : Int32) (i13 : Int32) (i14 : Int32) (i15 : Int32) (n0 : Nat) (f_o11 : Nat → Value)
    (X0 : Stand p l e room_1 s m args below meth c T0 locs 1 4) (hx : p.tables.exec = Jvm.exec) (hZ : Z.Warmed39 s.vm) (hw : ∀ d ∈ tables_1, d.before a0 Z = true) (hby : c.code = code) (hml : c.maxLocals = 23) (hown : s.vm.findClass "com/example/sluice/sluice/NetworkFitsPinLaw" = some m.cls) (e0 : T0.heap = h0) (Z0 : n0 ≤ h0.size) (N0 : Fr n0 locs) (V_o11 : Ary Z h0 o11 .long 4 f_o11) (hc56 : ¬ (i12 = (0 : Int32))) (hc70 : ¬ (i12 = (1 : Int32))) (hc89 : ¬ (i12 = (2 : Int32))) :
    ∃ (T' : State) (h' : Heap) (locs' : List Loc) (b : Addr) (g : Nat → Value), Stand p l e room_1 s m args below meth c T' locs' (1 + 1) (4 + 3) ∧ T'.heap = h' ∧ Fr n0 locs' ∧ Ary Z h' o11 .long 4 f_o11 ∧ Ary Z h' b .int 3 g ∧ g 0 = .int i13 ∧ g 1 = .int i14 ∧ g 2 = .int i15 ∧ n0 ≤ h'.size ∧
      ∀ target, Steps p.tables e below (T'.setTop (mkF m 130 #[s0, s1, s2, s3, s4, s5, s6, s7, s8, s9, s10, .val (.ref o11), .val (.int i12), .val (.int i13), .val (.int i14), .val (.int i15), .val (.ref b), .unset, .unset, .unset, .unset, .unset, .unset] [])) target → Steps p.tables e below (T0.setTop (mkF m 54 #[s0, s1, s2, s3, s4, s5, s6, s7, s8, s9, s10, .val (.ref o11), .val (.int i12), .val (.int i13), .val (.int i14), .val (.int i15), .unset, .unset, .unset, .unset, .unset, .unset, .unset] [])) target := by
  obtain ⟨T7, h7, k7, X7, e7, E7, A7, st7⟩ := newP X0 hx hZ (hw _ (List.mem_of_getElem? (i := 1) rfl)) e0 (g := (mkF m 111 #[s0, s1, s2, s3, s4, s5, s6, s7, s8, s9, s10, .val (.ref o11), .val (.int i12), .val (.int i13), .val (.int i14), .val (.int i15), .unset, .unset, .unset, .unset, .unset, .unset, .unset] [(.int (3 : Int32))])) rfl (hb hby at_111) rfl (by decide) (cap := 3) (by decide) (by decide) (by decide) (by decide)
  obtain ⟨b7, g7⟩ : ∃ z, z = h0.size := ⟨_, rfl⟩
  rw [← g7] at A7 st7
  have V_b7 : Ary Z h7 b7 .int 3 (fun _ => (.int (0 : Int32))) := Ary.new A7 (by decide) rfl
  have g_b7 : n0 ≤ b7 := Nat.le_trans Z0 (Nat.le_of_eq g7.symm)
  have sz_b7 : h0.size ≤ b7 := (Nat.le_trans (Keep.refl h0 []).1 (Nat.le_of_eq g7.symm))
  have K7 : Keep h0 h7 [] := (Keep.refl h0 []).ext E7
  obtain ⟨cl_117, Ar_117, S_117, H_117⟩ := id V_b7
  have hin117 := Ary.inn S_117 (show own_ix (0 : Int32) 0 from rfl) (by decide)
  obtain ⟨T8, h8, X8, e8, W8, st8⟩ := stI X7 hx hZ e7 Ar_117 (j := (0 : Int32)) hin117 (g := (mkF m 117 #[s0, s1, s2, s3, s4, s5, s6, s7, s8, s9, s10, .val (.ref o11), .val (.int i12), .val (.int i13), .val (.int i14), .val (.int i15), .unset, .unset, .unset, .unset, .unset, .unset, .unset] [(.int i13), (.int (0 : Int32)), (.ref b7), (.ref b7)])) rfl rfl (hb hby at_117)
  have V_b7_8 := Ary.set Ar_117 S_117 H_117 W8 (show own_ix (0 : Int32) 0 from rfl)
  have K8 : Keep h0 h8 [] := K7.wr W8 (Or.inr sz_b7)
  have N8 := Fr.snoc X8 N0 g_b7
  obtain ⟨cl_122, Ar_122, S_122, H_122⟩ := id V_b7_8
  have hin122 := Ary.inn S_122 (show own_ix (1 : Int32) 1 from rfl) (by decide)
  obtain ⟨T9, h9, X9, e9, W9, st9⟩ := stI X8 hx hZ e8 Ar_122 (j := (1 : Int32)) hin122 (g := (mkF m 122 #[s0, s1, s2, s3, s4, s5, s6, s7, s8, s9, s10, .val (.ref o11), .val (.int i12), .val (.int i13), .val (.int i14), .val (.int i15), .unset, .unset, .unset, .unset, .unset, .unset, .unset] [(.int i14), (.int (1 : Int32)), (.ref b7), (.ref b7)])) rfl rfl (hb hby at_122)
  have V_b7_9 := Ary.set Ar_122 S_122 H_122 W9 (show own_ix (1 : Int32) 1 from rfl)
  have K9 : Keep h0 h9 [] := K8.wr W9 (Or.inr sz_b7)
  have N9 := Fr.snoc X9 N8 g_b7
  obtain ⟨cl_127, Ar_127, S_127, H_127⟩ := id V_b7_9
  have hin127 := Ary.inn S_127 (show own_ix (2 : Int32) 2 from rfl) (by decide)
  obtain ⟨T10, h10, X10, e10, W10, st10⟩ := stI X9 hx hZ e9 Ar_127 (j := (2 : Int32)) hin127 (g := (mkF m 127 #[s0, s1, s2, s3, s4, s5, s6, s7, s8, s9, s10, .val (.ref o11), .val (.int i12), .val (.int i13), .val (.int i14), .val (.int i15), .unset, .unset, .unset, .unset, .unset, .unset, .unset] [(.int i15), (.int (2 : Int32)), (.ref b7), (.ref b7)])) rfl rfl (hb hby at_127)
  have V_b7_10 := Ary.set Ar_127 S_127 H_127 W10 (show own_ix (2 : Int32) 2 from rfl)
  have K10 : Keep h0 h10 [] := K9.wr W10 (Or.inr sz_b7)
  have N10 := Fr.snoc X10 N9 g_b7
  have Vend_o11 := ((((V_o11.ext E7).other W8 (Nat.ne_of_lt (Nat.lt_of_lt_of_le V_o11.lt (Nat.le_of_eq g7.symm)))).other W9 (Nat.ne_of_lt (Nat.lt_of_lt_of_le V_o11.lt (Nat.le_of_eq g7.symm)))).other W10 (Nat.ne_of_lt (Nat.lt_of_lt_of_le V_o11.lt (Nat.le_of_eq g7.symm))))
  have Vend_b7 := V_b7_10
  have Zend : n0 ≤ h10.size := (Nat.le_trans (Nat.le_trans (Nat.le_trans (Nat.le_trans Z0 E7.1) (Keep.of_wr W8).1) (Keep.of_wr W9).1) (Keep.of_wr W10).1)
  have Kend := K10
  refine ⟨T10, _, _, b7, _, X10, e10, N10, Vend_o11, Vend_b7, ((own_up_ne _ _ (by decide)).trans ((own_up_ne _ _ (by decide)).trans (own_up_at _ _ _))), ((own_up_ne _ _ (by decide)).trans (own_up_at _ _ _)), (own_up_at _ _ _), Zend, fun target kt => ?_⟩
  show Steps p.tables e below (T0.setTop (mkF m 54 #[s0, s1, s2, s3, s4, s5, s6, s7, s8, s9, s10, .val (.ref o11), .val (.int i12), .val (.int i13), .val (.int i14), .val (.int i15), .unset, .unset, .unset, .unset, .unset, .unset, .unset] [])) _
  refine XS.iload X0.here hx rfl (hb hby at_54) rfl ?_
  show Steps p.tables e below (T0.setTop (mkF m 56 #[s0, s1, s2, s3, s4, s5, s6, s7, s8, s9, s10, .val (.ref o11), .val (.int i12), .val (.int i13), .val (.int i14), .val (.int i15), .unset, .unset, .unset, .unset, .unset, .unset, .unset] [(.int i12)])) _
  refine XS.ifYes X0.here hx rfl (pc0 := 56) (pc' := 67) rfl (hb hby at_56) rfl ((if0 _ _).trans (feq hc56).2) (by decide) (by decide) ?_
  show Steps p.tables e below (T0.setTop (mkF m 67 #[s0, s1, s2, s3, s4, s5, s6, s7, s8, s9, s10, .val (.ref o11), .val (.int i12), .val (.int i13), .val (.int i14), .val (.int i15), .unset, .unset, .unset, .unset, .unset, .unset, .unset] [])) _
  refine XS.iload X0.here hx rfl (hb hby at_67) rfl ?_
  show Steps p.tables e below (T0.setTop (mkF m 69 #[s0, s1, s2, s3, s4, s5, s6, s7, s8, s9, s10, .val (.ref o11), .val (.int i12), .val (.int i13), .val (.int i14), .val (.int i15), .unset, .unset, .unset, .unset, .unset, .unset, .unset] [(.int i12)])) _
  refine XS.iconst X0.here hx rfl (hb hby at_69) ?_
  show Steps p.tables e below (T0.setTop (mkF m 70 #[s0, s1, s2, s3, s4, s5, s6, s7, s8, s9, s10, .val (.ref o11), .val (.int i12), .val (.int i13), .val (.int i14), .val (.int i15), .unset, .unset, .unset, .unset, .unset, .unset, .unset] [(.int (1 : Int32)), (.int i12)])) _
  refine XS.icmpYes X0.here hx rfl (pc0 := 70) (pc' := 86) rfl (hb hby at_70) rfl (feq hc70).2 (by decide) (by decide) ?_
  show Steps p.tables e below (T0.setTop (mkF m 86 #[s0, s1, s2, s3, s4, s5, s6, s7, s8, s9, s10, .val (.ref o11), .val (.int i12), .val (.int i13), .val (.int i14), .val (.int i15), .unset, .unset, .unset, .unset, .unset, .unset, .unset] [])) _
  refine XS.iload X0.here hx rfl (hb hby at_86) rfl ?_
  show Steps p.tables e below (T0.setTop (mkF m 88 #[s0, s1, s2, s3, s4, s5, s6, s7, s8, s9, s10, .val (.ref o11), .val (.int i12), .val (.int i13), .val (.int i14), .val (.int i15), .unset, .unset, .unset, .unset, .unset, .unset, .unset] [(.int i12)])) _
  refine XS.iconst X0.here hx rfl (hb hby at_88) ?_
  show Steps p.tables e below (T0.setTop (mkF m 89 #[s0, s1, s2, s3, s4, s5, s6, s7, s8, s9, s10, .val (.ref o11), .val (.int i12), .val (.int i13), .val (.int i14), .val (.int i15), .unset, .unset, .unset, .unset, .unset, .unset, .unset] [(.int (2 : Int32)), (.int i12)])) _
  refine XS.icmpYes X0.here hx rfl (pc0 := 89) (pc' := 110) rfl (hb hby at_89) rfl (feq hc89).2 (by decide) (by decide) ?_
  show Steps p.tables e below (T0.setTop (mkF m 110 #[s0, s1, s2, s3, s4, s5, s6, s7, s8, s9, s10, .val (.ref o11), .val (.int i12), .val (.int i13), .val (.int i14), .val (.int i15), .unset, .unset, .unset, .unset, .unset, .unset, .unset] [])) _
  refine XS.iconst X0.here hx rfl (hb hby at_110) ?_
  show Steps p.tables e below (T0.setTop (mkF m 111 #[s0, s1, s2, s3, s4, s5, s6, s7, s8, s9, s10, .val (.ref o11), .val (.int i12), .val (.int i13), .val (.int i14), .val (.int i15), .unset, .unset, .unset, .unset, .unset, .unset, .unset] [(.int (3 : Int32))])) _
  refine st7 _ ?_
  show Steps p.tables e below (T7.setTop (mkF m 113 #[s0, s1, s2, s3, s4, s5, s6, s7, s8, s9, s10, .val (.ref o11), .val (.int i12), .val (.int i13), .val (.int i14), .val (.int i15), .unset, .unset, .unset, .unset, .unset, .unset, .unset] [(.ref b7)])) _
  refine XS.dup X7.here hx rfl (hb hby at_113) rfl rfl ?_
  show Steps p.tables e below (T7.setTop (mkF m 114 #[s0, s1, s2, s3, s4, s5, s6, s7, s8, s9, s10, .val (.ref o11), .val (.int i12), .val (.int i13), .val (.int i14), .val (.int i15), .unset, .unset, .unset, .unset, .unset, .unset, .unset] [(.ref b7), (.ref b7)])) _
  refine XS.iconst X7.here hx rfl (hb hby at_114) ?_
  show Steps p.tables e below (T7.setTop (mkF m 115 #[s0, s1, s2, s3, s4, s5, s6, s7, s8, s9, s10, .val (.ref o11), .val (.int i12), .val (.int i13), .val (.int i14), .val (.int i15), .unset, .unset, .unset, .unset, .unset, .unset, .unset] [(.int (0 : Int32)), (.ref b7), (.ref b7)])) _
  refine XS.iload X7.here hx rfl (hb hby at_115) rfl ?_
  show Steps p.tables e below (T7.setTop (mkF m 117 #[s0, s1, s2, s3, s4, s5, s6, s7, s8, s9, s10, .val (.ref o11), .val (.int i12), .val (.int i13), .val (.int i14), .val (.int i15), .unset, .unset, .unset, .unset, .unset, .unset, .unset] [(.int i13), (.int (0 : Int32)), (.ref b7), (.ref b7)])) _
  refine st8 _ ?_
  show Steps p.tables e below (T8.setTop (mkF m 118 #[s0, s1, s2, s3, s4, s5, s6, s7, s8, s9, s10, .val (.ref o11), .val (.int i12), .val (.int i13), .val (.int i14), .val (.int i15), .unset, .unset, .unset, .unset, .unset, .unset, .unset] [(.ref b7)])) _
  refine XS.dup X8.here hx rfl (hb hby at_118) rfl rfl ?_
  show Steps p.tables e below (T8.setTop (mkF m 119 #[s0, s1, s2, s3, s4, s5, s6, s7, s8, s9, s10, .val (.ref o11), .val (.int i12), .val (.int i13), .val (.int i14), .val (.int i15), .unset, .unset, .unset, .unset, .unset, .unset, .unset] [(.ref b7), (.ref b7)])) _
  refine XS.iconst X8.here hx rfl (hb hby at_119) ?_
  show Steps p.tables e below (T8.setTop (mkF m 120 #[s0, s1, s2, s3, s4, s5, s6, s7, s8, s9, s10, .val (.ref o11), .val (.int i12), .val (.int i13), .val (.int i14), .val (.int i15), .unset, .unset, .unset, .unset, .unset, .unset, .unset] [(.int (1 : Int32)), (.ref b7), (.ref b7)])) _
  refine XS.iload X8.here hx rfl (hb hby at_120) rfl ?_
  show Steps p.tables e below (T8.setTop (mkF m 122 #[s0, s1, s2, s3, s4, s5, s6, s7, s8, s9, s10, .val (.ref o11), .val (.int i12), .val (.int i13), .val (.int i14), .val (.int i15), .unset, .unset, .unset, .unset, .unset, .unset, .unset] [(.int i14), (.int (1 : Int32)), (.ref b7), (.ref b7)])) _
  refine st9 _ ?_
  show Steps p.tables e below (T9.setTop (mkF m 123 #[s0, s1, s2, s3, s4, s5, s6, s7, s8, s9, s10, .val (.ref o11), .val (.int i12), .val (.int i13), .val (.int i14), .val (.int i15), .unset, .unset, .unset, .unset, .unset, .unset, .unset] [(.ref b7)])) _
  refine XS.dup X9.here hx rfl (hb hby at_123) rfl rfl ?_
  show Steps p.tables e below (T9.setTop (mkF m 124 #[s0, s1, s2, s3, s4, s5, s6, s7, s8, s9, s10, .val (.ref o11), .val (.int i12), .val (.int i13), .val (.int i14), .val (.int i15), .unset, .unset, .unset, .unset, .unset, .unset, .unset] [(.ref b7), (.ref b7)])) _
  refine XS.iconst X9.here hx rfl (hb hby at_124) ?_
  show Steps p.tables e below (T9.setTop (mkF m 125 #[s0, s1, s2, s3, s4, s5, s6, s7, s8, s9, s10, .val (.ref o11), .val (.int i12), .val (.int i13), .val (.int i14), .val (.int i15), .unset, .unset, .unset, .unset, .unset, .unset, .unset] [(.int (2 : Int32)), (.ref b7), (.ref b7)])) _
  refine XS.iload X9.here hx rfl (hb hby at_125) rfl ?_
  show Steps p.tables e below (T9.setTop (mkF m 127 #[s0, s1, s2, s3, s4, s5, s6, s7, s8, s9, s10, .val (.ref o11), .val (.int i12), .val (.int i13), .val (.int i14), .val (.int i15), .unset, .unset, .unset, .unset, .unset, .unset, .unset] [(.int i15), (.int (2 : Int32)), (.ref b7), (.ref b7)])) _
  refine st10 _ ?_
  show Steps p.tables e below (T10.setTop (mkF m 128 #[s0, s1, s2, s3, s4, s5, s6, s7, s8, s9, s10, .val (.ref o11), .val (.int i12), .val (.int i13), .val (.int i14), .val (.int i15), .unset, .unset, .unset, .unset, .unset, .unset, .unset] [(.ref b7)])) _
  refine XS.astore X10.here hx rfl (hb hby at_128) rfl rfl (l' := #[s0, s1, s2, s3, s4, s5, s6, s7, s8, s9, s10, .val (.ref o11), .val (.int i12), .val (.int i13), .val (.int i14), .val (.int i15), .val (.ref b7), .unset, .unset, .unset, .unset, .unset, .unset]) rfl ?_
  exact kt
set_option maxRecDepth 65536 in
set_option maxHeartbeats 40000000 in
theorem ok0t {p : Program} {l : Launch} {e : Env} {s : State} {m : MethodId} {args : Array Value} {below : List Frame} {meth : Method} {c : Code} {T0 : State} {locs : List Loc} {cells slots : Nat} {Z : State} {a0 : Array Value} {h0 : Heap} (j0 : Int64) (j2 : Int64) (j4 : Int64) (j6 : Int64) (j8 : Int64) (s10 : Slot) (s11 : Slot) (i12 : Int32) (i13 : Int32) (s14 : Slot) (s15 : Slot) (s16 : Slot) (n0 : Nat)
    (X0 : Stand p l e room_1 s m args below meth c T0 locs cells slots) (hx : p.tables.exec = Jvm.exec) (hZ : Z.Warmed39 s.vm) (hw : ∀ d ∈ tables_1, d.before a0 Z = true) (hby : c.code = code) (hml : c.maxLocals = 23) (hown : s.vm.findClass "com/example/sluice/sluice/NetworkFitsPinLaw" = some m.cls) (e0 : T0.heap = h0) (Z0 : n0 ≤ h0.size) (N0 : Fr n0 locs) (hcl : cells ≤ 16) (hsl : slots ≤ 128) (hc133 : i12 < (1 : Int32)) :
    ∃ (T' : State) (h' : Heap) (locs' : List Loc), Stand p l e room_1 s m args below meth c T' locs' cells slots ∧ T'.heap = h' ∧ Fr n0 locs' ∧ h' = h0 ∧
      ∀ target, Steps p.tables e below (T'.setTop (mkF m 160 #[.val (.long j0), .second, .val (.long j2), .second, .val (.long j4), .second, .val (.long j6), .second, .val (.long j8), .second, s10, s11, .val (.int i12), .val (.int i13), s14, s15, s16, .val (.int (1 : Int32)), .unset, .unset, .unset, .unset, .unset] [])) target → Steps p.tables e below (T0.setTop (mkF m 130 #[.val (.long j0), .second, .val (.long j2), .second, .val (.long j4), .second, .val (.long j6), .second, .val (.long j8), .second, s10, s11, .val (.int i12), .val (.int i13), s14, s15, s16, .unset, .unset, .unset, .unset, .unset, .unset] [])) target := by
  refine ⟨T0, _, _, X0, e0, N0, rfl, fun target kt => ?_⟩
  show Steps p.tables e below (T0.setTop (mkF m 130 #[.val (.long j0), .second, .val (.long j2), .second, .val (.long j4), .second, .val (.long j6), .second, .val (.long j8), .second, s10, s11, .val (.int i12), .val (.int i13), s14, s15, s16, .unset, .unset, .unset, .unset, .unset, .unset] [])) _
  refine XS.iload X0.here hx rfl (hb hby at_130) rfl ?_
  show Steps p.tables e below (T0.setTop (mkF m 132 #[.val (.long j0), .second, .val (.long j2), .second, .val (.long j4), .second, .val (.long j6), .second, .val (.long j8), .second, s10, s11, .val (.int i12), .val (.int i13), s14, s15, s16, .unset, .unset, .unset, .unset, .unset, .unset] [(.int i12)])) _
  refine XS.iconst X0.here hx rfl (hb hby at_132) ?_
  show Steps p.tables e below (T0.setTop (mkF m 133 #[.val (.long j0), .second, .val (.long j2), .second, .val (.long j4), .second, .val (.long j6), .second, .val (.long j8), .second, s10, s11, .val (.int i12), .val (.int i13), s14, s15, s16, .unset, .unset, .unset, .unset, .unset, .unset] [(.int (1 : Int32)), (.int i12)])) _
  refine XS.icmpYes X0.here hx rfl (pc0 := 133) (pc' := 153) rfl (hb hby at_133) rfl (tlt hc133).1 (by decide) (by decide) ?_
  show Steps p.tables e below (T0.setTop (mkF m 153 #[.val (.long j0), .second, .val (.long j2), .second, .val (.long j4), .second, .val (.long j6), .second, .val (.long j8), .second, s10, s11, .val (.int i12), .val (.int i13), s14, s15, s16, .unset, .unset, .unset, .unset, .unset, .unset] [])) _
  refine XS.iconst X0.here hx rfl (hb hby at_153) ?_
  show Steps p.tables e below (T0.setTop (mkF m 154 #[.val (.long j0), .second, .val (.long j2), .second, .val (.long j4), .second, .val (.long j6), .second, .val (.long j8), .second, s10, s11, .val (.int i12), .val (.int i13), s14, s15, s16, .unset, .unset, .unset, .unset, .unset, .unset] [(.int (1 : Int32))])) _
  refine XS.goto X0.here hx rfl (pc0 := 154) (pc' := 158) rfl (hb hby at_154) (by decide) (by decide) ?_
  show Steps p.tables e below (T0.setTop (mkF m 158 #[.val (.long j0), .second, .val (.long j2), .second, .val (.long j4), .second, .val (.long j6), .second, .val (.long j8), .second, s10, s11, .val (.int i12), .val (.int i13), s14, s15, s16, .unset, .unset, .unset, .unset, .unset, .unset] [(.int (1 : Int32))])) _
  refine XS.istore X0.here hx rfl (hb hby at_158) rfl (l' := #[.val (.long j0), .second, .val (.long j2), .second, .val (.long j4), .second, .val (.long j6), .second, .val (.long j8), .second, s10, s11, .val (.int i12), .val (.int i13), s14, s15, s16, .val (.int (1 : Int32)), .unset, .unset, .unset, .unset, .unset]) rfl ?_
  exact kt
theorem pd_0_0 : parseMethodDescriptor "(IJJJJ)J" = some ⟨[.int, .long, .long, .long, .long], some .long⟩ := by decide +kernel
set_option maxRecDepth 65536 in
set_option maxHeartbeats 40000000 in
theorem ok0ff {p : Program} {l : Launch} {e : Env} {s : State} {m : MethodId} {args : Array Value} {below : List Frame} {meth : Method} {c : Code} {T0 : State} {locs : List Loc} {cells slots : Nat} {Z : State} {a0 : Array Value} {h0 : Heap} (j0 : Int64) (j2 : Int64) (j4 : Int64) (j6 : Int64) (j8 : Int64) (s10 : Slot) (s11 : Slot) (i12 : Int32) (i13 : Int32) (s14 : Slot) (s15 : Slot) (s16 : Slot) (n0 : Nat)
    (X0 : Stand p l e room_1 s m args below meth c T0 locs cells slots) (hx : p.tables.exec = Jvm.exec) (hZ : Z.Warmed39 s.vm) (hw : ∀ d ∈ tables_1, d.before a0 Z = true) (hby : c.code = code) (hml : c.maxLocals = 23) (hown : s.vm.findClass "com/example/sluice/sluice/NetworkFitsPinLaw" = some m.cls) (e0 : T0.heap = h0) (Z0 : n0 ≤ h0.size) (N0 : Fr n0 locs) (hcl : cells ≤ 16) (hsl : slots ≤ 128) (hlt : ¬ ((lcmpW (own_pick i13 j0 j2 j4 j6) j8) < (0 : Int32))) (hc133 : ¬ (i12 < (1 : Int32))) :
    ∃ (T' : State) (h' : Heap) (locs' : List Loc), Stand p l e room_1 s m args below meth c T' locs' cells slots ∧ T'.heap = h' ∧ Fr n0 locs' ∧ h' = h0 ∧
      ∀ target, Steps p.tables e below (T'.setTop (mkF m 160 #[.val (.long j0), .second, .val (.long j2), .second, .val (.long j4), .second, .val (.long j6), .second, .val (.long j8), .second, s10, s11, .val (.int i12), .val (.int i13), s14, s15, s16, .val (.int (1 : Int32)), .unset, .unset, .unset, .unset, .unset] [])) target → Steps p.tables e below (T0.setTop (mkF m 130 #[.val (.long j0), .second, .val (.long j2), .second, .val (.long j4), .second, .val (.long j6), .second, .val (.long j8), .second, s10, s11, .val (.int i12), .val (.int i13), s14, s15, s16, .unset, .unset, .unset, .unset, .unset, .unset] [])) target := by
  have Zc7 : n0 ≤ h0.size := Z0
  obtain ⟨_, _, ⟨T7, L7, k7, n7⟩, -, X7, ⟨Lc7, hQ7, l7, y7, z7⟩, st7⟩ := Jvm.LawKit.callS X0 hx (y := (⟨"com/example/sluice/sluice/NetworkFitsPinLaw", "pick", "(IJJJJ)J"⟩ : MethodName)) hown (mvT hZ (hw _ (List.mem_of_getElem? (i := 2) rfl))) (mvT hZ (hw _ (List.mem_of_getElem? (i := 3) rfl))) (mvT hZ (hw _ (List.mem_of_getElem? (i := 4) rfl))) (mvT hZ (hw _ (List.mem_of_getElem? (i := 5) rfl))) (by decide) (backOf (W := 0) (rm1 l Z a0 hw [] i13 j0 j2 j4 j6  h0 n0 Zc7) hZ (hw _ (List.mem_of_getElem? (i := 5) rfl)) (hw _ (List.mem_of_getElem? (i := 4) rfl)) (by decide) (by decide)) (g := (mkF m 144 #[.val (.long j0), .second, .val (.long j2), .second, .val (.long j4), .second, .val (.long j6), .second, .val (.long j8), .second, s10, s11, .val (.int i12), .val (.int i13), s14, s15, s16, .unset, .unset, .unset, .unset, .unset, .unset] [(.long j6), (.long j4), (.long j2), (.long j0), (.int i13)])) rfl (by rw [hml]; rfl) (argsL := [(.int i13), (.long j0), (.long j2), (.long j4), (.long j6)]) (rest := []) (lenOf pd_0_0 rfl) rfl (by show 2 * 0 + _ ≤ _; exact Nat.le_of_eq rfl) (hb hby at_144) (fun _ _ => ⟨rfl, e0, hcl, hsl⟩)
  dsimp only [Pt.U, Pt.locs, Pt.cells, Pt.slots] at X7 l7 y7 z7 st7 hQ7
  subst l7 y7 z7
  obtain ⟨rfl, N7q, eq7⟩ := hQ7
  have N7 := Fr.app N0 N7q
  have E7 : Ext h0 T7.heap := own_exteq eq7
  have K7 : Keep h0 T7.heap [] := (Keep.refl h0 []).ext E7
  refine ⟨T7, _, _, X7, rfl, N7, eq7, fun target kt => ?_⟩
  show Steps p.tables e below (T0.setTop (mkF m 130 #[.val (.long j0), .second, .val (.long j2), .second, .val (.long j4), .second, .val (.long j6), .second, .val (.long j8), .second, s10, s11, .val (.int i12), .val (.int i13), s14, s15, s16, .unset, .unset, .unset, .unset, .unset, .unset] [])) _
  refine XS.iload X0.here hx rfl (hb hby at_130) rfl ?_
  show Steps p.tables e below (T0.setTop (mkF m 132 #[.val (.long j0), .second, .val (.long j2), .second, .val (.long j4), .second, .val (.long j6), .second, .val (.long j8), .second, s10, s11, .val (.int i12), .val (.int i13), s14, s15, s16, .unset, .unset, .unset, .unset, .unset, .unset] [(.int i12)])) _
  refine XS.iconst X0.here hx rfl (hb hby at_132) ?_
  show Steps p.tables e below (T0.setTop (mkF m 133 #[.val (.long j0), .second, .val (.long j2), .second, .val (.long j4), .second, .val (.long j6), .second, .val (.long j8), .second, s10, s11, .val (.int i12), .val (.int i13), s14, s15, s16, .unset, .unset, .unset, .unset, .unset, .unset] [(.int (1 : Int32)), (.int i12)])) _
  refine XS.icmpNo X0.here hx rfl (hb hby at_133) rfl (flt hc133).1 ?_
  show Steps p.tables e below (T0.setTop (mkF m 136 #[.val (.long j0), .second, .val (.long j2), .second, .val (.long j4), .second, .val (.long j6), .second, .val (.long j8), .second, s10, s11, .val (.int i12), .val (.int i13), s14, s15, s16, .unset, .unset, .unset, .unset, .unset, .unset] [])) _
  refine XS.iload X0.here hx rfl (hb hby at_136) rfl ?_
  show Steps p.tables e below (T0.setTop (mkF m 138 #[.val (.long j0), .second, .val (.long j2), .second, .val (.long j4), .second, .val (.long j6), .second, .val (.long j8), .second, s10, s11, .val (.int i12), .val (.int i13), s14, s15, s16, .unset, .unset, .unset, .unset, .unset, .unset] [(.int i13)])) _
  refine XS.lloadN X0.here hx rfl (hb hby at_138) rfl ?_
  show Steps p.tables e below (T0.setTop (mkF m 139 #[.val (.long j0), .second, .val (.long j2), .second, .val (.long j4), .second, .val (.long j6), .second, .val (.long j8), .second, s10, s11, .val (.int i12), .val (.int i13), s14, s15, s16, .unset, .unset, .unset, .unset, .unset, .unset] [(.long j0), (.int i13)])) _
  refine XS.lloadN X0.here hx rfl (hb hby at_139) rfl ?_
  show Steps p.tables e below (T0.setTop (mkF m 140 #[.val (.long j0), .second, .val (.long j2), .second, .val (.long j4), .second, .val (.long j6), .second, .val (.long j8), .second, s10, s11, .val (.int i12), .val (.int i13), s14, s15, s16, .unset, .unset, .unset, .unset, .unset, .unset] [(.long j2), (.long j0), (.int i13)])) _
  refine XS.lload X0.here hx rfl (hb hby at_140) rfl ?_
  show Steps p.tables e below (T0.setTop (mkF m 142 #[.val (.long j0), .second, .val (.long j2), .second, .val (.long j4), .second, .val (.long j6), .second, .val (.long j8), .second, s10, s11, .val (.int i12), .val (.int i13), s14, s15, s16, .unset, .unset, .unset, .unset, .unset, .unset] [(.long j4), (.long j2), (.long j0), (.int i13)])) _
  refine XS.lload X0.here hx rfl (hb hby at_142) rfl ?_
  show Steps p.tables e below (T0.setTop (mkF m 144 #[.val (.long j0), .second, .val (.long j2), .second, .val (.long j4), .second, .val (.long j6), .second, .val (.long j8), .second, s10, s11, .val (.int i12), .val (.int i13), s14, s15, s16, .unset, .unset, .unset, .unset, .unset, .unset] [(.long j6), (.long j4), (.long j2), (.long j0), (.int i13)])) _
  refine st7 _ ?_
  show Steps p.tables e below (T7.setTop (mkF m 147 #[.val (.long j0), .second, .val (.long j2), .second, .val (.long j4), .second, .val (.long j6), .second, .val (.long j8), .second, s10, s11, .val (.int i12), .val (.int i13), s14, s15, s16, .unset, .unset, .unset, .unset, .unset, .unset] [(.long (own_pick i13 j0 j2 j4 j6))])) _
  refine XS.lload X7.here hx rfl (hb hby at_147) rfl ?_
  show Steps p.tables e below (T7.setTop (mkF m 149 #[.val (.long j0), .second, .val (.long j2), .second, .val (.long j4), .second, .val (.long j6), .second, .val (.long j8), .second, s10, s11, .val (.int i12), .val (.int i13), s14, s15, s16, .unset, .unset, .unset, .unset, .unset, .unset] [(.long j8), (.long (own_pick i13 j0 j2 j4 j6))])) _
  refine XS.lcmp X7.here hx rfl (hb hby at_149) rfl ?_
  show Steps p.tables e below (T7.setTop (mkF m 150 #[.val (.long j0), .second, .val (.long j2), .second, .val (.long j4), .second, .val (.long j6), .second, .val (.long j8), .second, s10, s11, .val (.int i12), .val (.int i13), s14, s15, s16, .unset, .unset, .unset, .unset, .unset, .unset] [(.int (lcmpW (own_pick i13 j0 j2 j4 j6) j8))])) _
  refine XS.ifNo X7.here hx rfl (hb hby at_150) rfl ((if0 _ _).trans (flt (hlt : ¬ ((lcmpW (own_pick i13 j0 j2 j4 j6) j8) < (0 : Int32)))).1) ?_
  show Steps p.tables e below (T7.setTop (mkF m 153 #[.val (.long j0), .second, .val (.long j2), .second, .val (.long j4), .second, .val (.long j6), .second, .val (.long j8), .second, s10, s11, .val (.int i12), .val (.int i13), s14, s15, s16, .unset, .unset, .unset, .unset, .unset, .unset] [])) _
  refine XS.iconst X7.here hx rfl (hb hby at_153) ?_
  show Steps p.tables e below (T7.setTop (mkF m 154 #[.val (.long j0), .second, .val (.long j2), .second, .val (.long j4), .second, .val (.long j6), .second, .val (.long j8), .second, s10, s11, .val (.int i12), .val (.int i13), s14, s15, s16, .unset, .unset, .unset, .unset, .unset, .unset] [(.int (1 : Int32))])) _
  refine XS.goto X7.here hx rfl (pc0 := 154) (pc' := 158) rfl (hb hby at_154) (by decide) (by decide) ?_
  show Steps p.tables e below (T7.setTop (mkF m 158 #[.val (.long j0), .second, .val (.long j2), .second, .val (.long j4), .second, .val (.long j6), .second, .val (.long j8), .second, s10, s11, .val (.int i12), .val (.int i13), s14, s15, s16, .unset, .unset, .unset, .unset, .unset, .unset] [(.int (1 : Int32))])) _
  refine XS.istore X7.here hx rfl (hb hby at_158) rfl (l' := #[.val (.long j0), .second, .val (.long j2), .second, .val (.long j4), .second, .val (.long j6), .second, .val (.long j8), .second, s10, s11, .val (.int i12), .val (.int i13), s14, s15, s16, .val (.int (1 : Int32)), .unset, .unset, .unset, .unset, .unset]) rfl ?_
  exact kt
set_option maxRecDepth 65536 in
set_option maxHeartbeats 40000000 in
theorem ok0ft {p : Program} {l : Launch} {e : Env} {s : State} {m : MethodId} {args : Array Value} {below : List Frame} {meth : Method} {c : Code} {T0 : State} {locs : List Loc} {cells slots : Nat} {Z : State} {a0 : Array Value} {h0 : Heap} (j0 : Int64) (j2 : Int64) (j4 : Int64) (j6 : Int64) (j8 : Int64) (s10 : Slot) (s11 : Slot) (i12 : Int32) (i13 : Int32) (s14 : Slot) (s15 : Slot) (s16 : Slot) (n0 : Nat)
    (X0 : Stand p l e room_1 s m args below meth c T0 locs cells slots) (hx : p.tables.exec = Jvm.exec) (hZ : Z.Warmed39 s.vm) (hw : ∀ d ∈ tables_1, d.before a0 Z = true) (hby : c.code = code) (hml : c.maxLocals = 23) (hown : s.vm.findClass "com/example/sluice/sluice/NetworkFitsPinLaw" = some m.cls) (e0 : T0.heap = h0) (Z0 : n0 ≤ h0.size) (N0 : Fr n0 locs) (hcl : cells ≤ 16) (hsl : slots ≤ 128) (hlt : (lcmpW (own_pick i13 j0 j2 j4 j6) j8) < (0 : Int32)) (hc133 : ¬ (i12 < (1 : Int32))) :
    ∃ (T' : State) (h' : Heap) (locs' : List Loc), Stand p l e room_1 s m args below meth c T' locs' cells slots ∧ T'.heap = h' ∧ Fr n0 locs' ∧ h' = h0 ∧
      ∀ target, Steps p.tables e below (T'.setTop (mkF m 160 #[.val (.long j0), .second, .val (.long j2), .second, .val (.long j4), .second, .val (.long j6), .second, .val (.long j8), .second, s10, s11, .val (.int i12), .val (.int i13), s14, s15, s16, .val (.int (0 : Int32)), .unset, .unset, .unset, .unset, .unset] [])) target → Steps p.tables e below (T0.setTop (mkF m 130 #[.val (.long j0), .second, .val (.long j2), .second, .val (.long j4), .second, .val (.long j6), .second, .val (.long j8), .second, s10, s11, .val (.int i12), .val (.int i13), s14, s15, s16, .unset, .unset, .unset, .unset, .unset, .unset] [])) target := by
  have Zc7 : n0 ≤ h0.size := Z0
  obtain ⟨_, _, ⟨T7, L7, k7, n7⟩, -, X7, ⟨Lc7, hQ7, l7, y7, z7⟩, st7⟩ := Jvm.LawKit.callS X0 hx (y := (⟨"com/example/sluice/sluice/NetworkFitsPinLaw", "pick", "(IJJJJ)J"⟩ : MethodName)) hown (mvT hZ (hw _ (List.mem_of_getElem? (i := 2) rfl))) (mvT hZ (hw _ (List.mem_of_getElem? (i := 3) rfl))) (mvT hZ (hw _ (List.mem_of_getElem? (i := 4) rfl))) (mvT hZ (hw _ (List.mem_of_getElem? (i := 5) rfl))) (by decide) (backOf (W := 0) (rm1 l Z a0 hw [] i13 j0 j2 j4 j6  h0 n0 Zc7) hZ (hw _ (List.mem_of_getElem? (i := 5) rfl)) (hw _ (List.mem_of_getElem? (i := 4) rfl)) (by decide) (by decide)) (g := (mkF m 144 #[.val (.long j0), .second, .val (.long j2), .second, .val (.long j4), .second, .val (.long j6), .second, .val (.long j8), .second, s10, s11, .val (.int i12), .val (.int i13), s14, s15, s16, .unset, .unset, .unset, .unset, .unset, .unset] [(.long j6), (.long j4), (.long j2), (.long j0), (.int i13)])) rfl (by rw [hml]; rfl) (argsL := [(.int i13), (.long j0), (.long j2), (.long j4), (.long j6)]) (rest := []) (lenOf pd_0_0 rfl) rfl (by show 2 * 0 + _ ≤ _; exact Nat.le_of_eq rfl) (hb hby at_144) (fun _ _ => ⟨rfl, e0, hcl, hsl⟩)
  dsimp only [Pt.U, Pt.locs, Pt.cells, Pt.slots] at X7 l7 y7 z7 st7 hQ7
  subst l7 y7 z7
  obtain ⟨rfl, N7q, eq7⟩ := hQ7
  have N7 := Fr.app N0 N7q
  have E7 : Ext h0 T7.heap := own_exteq eq7
  have K7 : Keep h0 T7.heap [] := (Keep.refl h0 []).ext E7
  refine ⟨T7, _, _, X7, rfl, N7, eq7, fun target kt => ?_⟩
  show Steps p.tables e below (T0.setTop (mkF m 130 #[.val (.long j0), .second, .val (.long j2), .second, .val (.long j4), .second, .val (.long j6), .second, .val (.long j8), .second, s10, s11, .val (.int i12), .val (.int i13), s14, s15, s16, .unset, .unset, .unset, .unset, .unset, .unset] [])) _
  refine XS.iload X0.here hx rfl (hb hby at_130) rfl ?_
  show Steps p.tables e below (T0.setTop (mkF m 132 #[.val (.long j0), .second, .val (.long j2), .second, .val (.long j4), .second, .val (.long j6), .second, .val (.long j8), .second, s10, s11, .val (.int i12), .val (.int i13), s14, s15, s16, .unset, .unset, .unset, .unset, .unset, .unset] [(.int i12)])) _
  refine XS.iconst X0.here hx rfl (hb hby at_132) ?_
  show Steps p.tables e below (T0.setTop (mkF m 133 #[.val (.long j0), .second, .val (.long j2), .second, .val (.long j4), .second, .val (.long j6), .second, .val (.long j8), .second, s10, s11, .val (.int i12), .val (.int i13), s14, s15, s16, .unset, .unset, .unset, .unset, .unset, .unset] [(.int (1 : Int32)), (.int i12)])) _
  refine XS.icmpNo X0.here hx rfl (hb hby at_133) rfl (flt hc133).1 ?_
  show Steps p.tables e below (T0.setTop (mkF m 136 #[.val (.long j0), .second, .val (.long j2), .second, .val (.long j4), .second, .val (.long j6), .second, .val (.long j8), .second, s10, s11, .val (.int i12), .val (.int i13), s14, s15, s16, .unset, .unset, .unset, .unset, .unset, .unset] [])) _
  refine XS.iload X0.here hx rfl (hb hby at_136) rfl ?_
  show Steps p.tables e below (T0.setTop (mkF m 138 #[.val (.long j0), .second, .val (.long j2), .second, .val (.long j4), .second, .val (.long j6), .second, .val (.long j8), .second, s10, s11, .val (.int i12), .val (.int i13), s14, s15, s16, .unset, .unset, .unset, .unset, .unset, .unset] [(.int i13)])) _
  refine XS.lloadN X0.here hx rfl (hb hby at_138) rfl ?_
  show Steps p.tables e below (T0.setTop (mkF m 139 #[.val (.long j0), .second, .val (.long j2), .second, .val (.long j4), .second, .val (.long j6), .second, .val (.long j8), .second, s10, s11, .val (.int i12), .val (.int i13), s14, s15, s16, .unset, .unset, .unset, .unset, .unset, .unset] [(.long j0), (.int i13)])) _
  refine XS.lloadN X0.here hx rfl (hb hby at_139) rfl ?_
  show Steps p.tables e below (T0.setTop (mkF m 140 #[.val (.long j0), .second, .val (.long j2), .second, .val (.long j4), .second, .val (.long j6), .second, .val (.long j8), .second, s10, s11, .val (.int i12), .val (.int i13), s14, s15, s16, .unset, .unset, .unset, .unset, .unset, .unset] [(.long j2), (.long j0), (.int i13)])) _
  refine XS.lload X0.here hx rfl (hb hby at_140) rfl ?_
  show Steps p.tables e below (T0.setTop (mkF m 142 #[.val (.long j0), .second, .val (.long j2), .second, .val (.long j4), .second, .val (.long j6), .second, .val (.long j8), .second, s10, s11, .val (.int i12), .val (.int i13), s14, s15, s16, .unset, .unset, .unset, .unset, .unset, .unset] [(.long j4), (.long j2), (.long j0), (.int i13)])) _
  refine XS.lload X0.here hx rfl (hb hby at_142) rfl ?_
  show Steps p.tables e below (T0.setTop (mkF m 144 #[.val (.long j0), .second, .val (.long j2), .second, .val (.long j4), .second, .val (.long j6), .second, .val (.long j8), .second, s10, s11, .val (.int i12), .val (.int i13), s14, s15, s16, .unset, .unset, .unset, .unset, .unset, .unset] [(.long j6), (.long j4), (.long j2), (.long j0), (.int i13)])) _
  refine st7 _ ?_
  show Steps p.tables e below (T7.setTop (mkF m 147 #[.val (.long j0), .second, .val (.long j2), .second, .val (.long j4), .second, .val (.long j6), .second, .val (.long j8), .second, s10, s11, .val (.int i12), .val (.int i13), s14, s15, s16, .unset, .unset, .unset, .unset, .unset, .unset] [(.long (own_pick i13 j0 j2 j4 j6))])) _
  refine XS.lload X7.here hx rfl (hb hby at_147) rfl ?_
  show Steps p.tables e below (T7.setTop (mkF m 149 #[.val (.long j0), .second, .val (.long j2), .second, .val (.long j4), .second, .val (.long j6), .second, .val (.long j8), .second, s10, s11, .val (.int i12), .val (.int i13), s14, s15, s16, .unset, .unset, .unset, .unset, .unset, .unset] [(.long j8), (.long (own_pick i13 j0 j2 j4 j6))])) _
  refine XS.lcmp X7.here hx rfl (hb hby at_149) rfl ?_
  show Steps p.tables e below (T7.setTop (mkF m 150 #[.val (.long j0), .second, .val (.long j2), .second, .val (.long j4), .second, .val (.long j6), .second, .val (.long j8), .second, s10, s11, .val (.int i12), .val (.int i13), s14, s15, s16, .unset, .unset, .unset, .unset, .unset, .unset] [(.int (lcmpW (own_pick i13 j0 j2 j4 j6) j8))])) _
  refine XS.ifYes X7.here hx rfl (pc0 := 150) (pc' := 157) rfl (hb hby at_150) rfl ((if0 _ _).trans (tlt (hlt : (lcmpW (own_pick i13 j0 j2 j4 j6) j8) < (0 : Int32))).1) (by decide) (by decide) ?_
  show Steps p.tables e below (T7.setTop (mkF m 157 #[.val (.long j0), .second, .val (.long j2), .second, .val (.long j4), .second, .val (.long j6), .second, .val (.long j8), .second, s10, s11, .val (.int i12), .val (.int i13), s14, s15, s16, .unset, .unset, .unset, .unset, .unset, .unset] [])) _
  refine XS.iconst X7.here hx rfl (hb hby at_157) ?_
  show Steps p.tables e below (T7.setTop (mkF m 158 #[.val (.long j0), .second, .val (.long j2), .second, .val (.long j4), .second, .val (.long j6), .second, .val (.long j8), .second, s10, s11, .val (.int i12), .val (.int i13), s14, s15, s16, .unset, .unset, .unset, .unset, .unset, .unset] [(.int (0 : Int32))])) _
  refine XS.istore X7.here hx rfl (hb hby at_158) rfl (l' := #[.val (.long j0), .second, .val (.long j2), .second, .val (.long j4), .second, .val (.long j6), .second, .val (.long j8), .second, s10, s11, .val (.int i12), .val (.int i13), s14, s15, s16, .val (.int (0 : Int32)), .unset, .unset, .unset, .unset, .unset]) rfl ?_
  exact kt
set_option maxRecDepth 65536 in
set_option maxHeartbeats 40000000 in
theorem ok1t {p : Program} {l : Launch} {e : Env} {s : State} {m : MethodId} {args : Array Value} {below : List Frame} {meth : Method} {c : Code} {T0 : State} {locs : List Loc} {cells slots : Nat} {Z : State} {a0 : Array Value} {h0 : Heap} (j0 : Int64) (j2 : Int64) (j4 : Int64) (j6 : Int64) (j8 : Int64) (s10 : Slot) (s11 : Slot) (i12 : Int32) (s13 : Slot) (i14 : Int32) (s15 : Slot) (s16 : Slot) (s17 : Slot) (n0 : Nat)
    (X0 : Stand p l e room_1 s m args below meth c T0 locs cells slots) (hx : p.tables.exec = Jvm.exec) (hZ : Z.Warmed39 s.vm) (hw : ∀ d ∈ tables_1, d.before a0 Z = true) (hby : c.code = code) (hml : c.maxLocals = 23) (hown : s.vm.findClass "com/example/sluice/sluice/NetworkFitsPinLaw" = some m.cls) (e0 : T0.heap = h0) (Z0 : n0 ≤ h0.size) (N0 : Fr n0 locs) (hcl : cells ≤ 16) (hsl : slots ≤ 128) (hc163 : i12 < (2 : Int32)) :
    ∃ (T' : State) (h' : Heap) (locs' : List Loc), Stand p l e room_1 s m args below meth c T' locs' cells slots ∧ T'.heap = h' ∧ Fr n0 locs' ∧ h' = h0 ∧
      ∀ target, Steps p.tables e below (T'.setTop (mkF m 190 #[.val (.long j0), .second, .val (.long j2), .second, .val (.long j4), .second, .val (.long j6), .second, .val (.long j8), .second, s10, s11, .val (.int i12), s13, .val (.int i14), s15, s16, s17, .val (.int (1 : Int32)), .unset, .unset, .unset, .unset] [])) target → Steps p.tables e below (T0.setTop (mkF m 160 #[.val (.long j0), .second, .val (.long j2), .second, .val (.long j4), .second, .val (.long j6), .second, .val (.long j8), .second, s10, s11, .val (.int i12), s13, .val (.int i14), s15, s16, s17, .unset, .unset, .unset, .unset, .unset] [])) target := by
  refine ⟨T0, _, _, X0, e0, N0, rfl, fun target kt => ?_⟩
  show Steps p.tables e below (T0.setTop (mkF m 160 #[.val (.long j0), .second, .val (.long j2), .second, .val (.long j4), .second, .val (.long j6), .second, .val (.long j8), .second, s10, s11, .val (.int i12), s13, .val (.int i14), s15, s16, s17, .unset, .unset, .unset, .unset, .unset] [])) _
  refine XS.iload X0.here hx rfl (hb hby at_160) rfl ?_
  show Steps p.tables e below (T0.setTop (mkF m 162 #[.val (.long j0), .second, .val (.long j2), .second, .val (.long j4), .second, .val (.long j6), .second, .val (.long j8), .second, s10, s11, .val (.int i12), s13, .val (.int i14), s15, s16, s17, .unset, .unset, .unset, .unset, .unset] [(.int i12)])) _
  refine XS.iconst X0.here hx rfl (hb hby at_162) ?_
  show Steps p.tables e below (T0.setTop (mkF m 163 #[.val (.long j0), .second, .val (.long j2), .second, .val (.long j4), .second, .val (.long j6), .second, .val (.long j8), .second, s10, s11, .val (.int i12), s13, .val (.int i14), s15, s16, s17, .unset, .unset, .unset, .unset, .unset] [(.int (2 : Int32)), (.int i12)])) _
  refine XS.icmpYes X0.here hx rfl (pc0 := 163) (pc' := 183) rfl (hb hby at_163) rfl (tlt hc163).1 (by decide) (by decide) ?_
  show Steps p.tables e below (T0.setTop (mkF m 183 #[.val (.long j0), .second, .val (.long j2), .second, .val (.long j4), .second, .val (.long j6), .second, .val (.long j8), .second, s10, s11, .val (.int i12), s13, .val (.int i14), s15, s16, s17, .unset, .unset, .unset, .unset, .unset] [])) _
  refine XS.iconst X0.here hx rfl (hb hby at_183) ?_
  show Steps p.tables e below (T0.setTop (mkF m 184 #[.val (.long j0), .second, .val (.long j2), .second, .val (.long j4), .second, .val (.long j6), .second, .val (.long j8), .second, s10, s11, .val (.int i12), s13, .val (.int i14), s15, s16, s17, .unset, .unset, .unset, .unset, .unset] [(.int (1 : Int32))])) _
  refine XS.goto X0.here hx rfl (pc0 := 184) (pc' := 188) rfl (hb hby at_184) (by decide) (by decide) ?_
  show Steps p.tables e below (T0.setTop (mkF m 188 #[.val (.long j0), .second, .val (.long j2), .second, .val (.long j4), .second, .val (.long j6), .second, .val (.long j8), .second, s10, s11, .val (.int i12), s13, .val (.int i14), s15, s16, s17, .unset, .unset, .unset, .unset, .unset] [(.int (1 : Int32))])) _
  refine XS.istore X0.here hx rfl (hb hby at_188) rfl (l' := #[.val (.long j0), .second, .val (.long j2), .second, .val (.long j4), .second, .val (.long j6), .second, .val (.long j8), .second, s10, s11, .val (.int i12), s13, .val (.int i14), s15, s16, s17, .val (.int (1 : Int32)), .unset, .unset, .unset, .unset]) rfl ?_
  exact kt
set_option maxRecDepth 65536 in
set_option maxHeartbeats 40000000 in
theorem ok1ff {p : Program} {l : Launch} {e : Env} {s : State} {m : MethodId} {args : Array Value} {below : List Frame} {meth : Method} {c : Code} {T0 : State} {locs : List Loc} {cells slots : Nat} {Z : State} {a0 : Array Value} {h0 : Heap} (j0 : Int64) (j2 : Int64) (j4 : Int64) (j6 : Int64) (j8 : Int64) (s10 : Slot) (s11 : Slot) (i12 : Int32) (s13 : Slot) (i14 : Int32) (s15 : Slot) (s16 : Slot) (s17 : Slot) (n0 : Nat)
    (X0 : Stand p l e room_1 s m args below meth c T0 locs cells slots) (hx : p.tables.exec = Jvm.exec) (hZ : Z.Warmed39 s.vm) (hw : ∀ d ∈ tables_1, d.before a0 Z = true) (hby : c.code = code) (hml : c.maxLocals = 23) (hown : s.vm.findClass "com/example/sluice/sluice/NetworkFitsPinLaw" = some m.cls) (e0 : T0.heap = h0) (Z0 : n0 ≤ h0.size) (N0 : Fr n0 locs) (hcl : cells ≤ 16) (hsl : slots ≤ 128) (hlt : ¬ ((lcmpW (own_pick i14 j0 j2 j4 j6) j8) < (0 : Int32))) (hc163 : ¬ (i12 < (2 : Int32))) :
    ∃ (T' : State) (h' : Heap) (locs' : List Loc), Stand p l e room_1 s m args below meth c T' locs' cells slots ∧ T'.heap = h' ∧ Fr n0 locs' ∧ h' = h0 ∧
      ∀ target, Steps p.tables e below (T'.setTop (mkF m 190 #[.val (.long j0), .second, .val (.long j2), .second, .val (.long j4), .second, .val (.long j6), .second, .val (.long j8), .second, s10, s11, .val (.int i12), s13, .val (.int i14), s15, s16, s17, .val (.int (1 : Int32)), .unset, .unset, .unset, .unset] [])) target → Steps p.tables e below (T0.setTop (mkF m 160 #[.val (.long j0), .second, .val (.long j2), .second, .val (.long j4), .second, .val (.long j6), .second, .val (.long j8), .second, s10, s11, .val (.int i12), s13, .val (.int i14), s15, s16, s17, .unset, .unset, .unset, .unset, .unset] [])) target := by
  have Zc7 : n0 ≤ h0.size := Z0
  obtain ⟨_, _, ⟨T7, L7, k7, n7⟩, -, X7, ⟨Lc7, hQ7, l7, y7, z7⟩, st7⟩ := Jvm.LawKit.callS X0 hx (y := (⟨"com/example/sluice/sluice/NetworkFitsPinLaw", "pick", "(IJJJJ)J"⟩ : MethodName)) hown (mvT hZ (hw _ (List.mem_of_getElem? (i := 2) rfl))) (mvT hZ (hw _ (List.mem_of_getElem? (i := 3) rfl))) (mvT hZ (hw _ (List.mem_of_getElem? (i := 4) rfl))) (mvT hZ (hw _ (List.mem_of_getElem? (i := 5) rfl))) (by decide) (backOf (W := 0) (rm1 l Z a0 hw [] i14 j0 j2 j4 j6  h0 n0 Zc7) hZ (hw _ (List.mem_of_getElem? (i := 5) rfl)) (hw _ (List.mem_of_getElem? (i := 4) rfl)) (by decide) (by decide)) (g := (mkF m 174 #[.val (.long j0), .second, .val (.long j2), .second, .val (.long j4), .second, .val (.long j6), .second, .val (.long j8), .second, s10, s11, .val (.int i12), s13, .val (.int i14), s15, s16, s17, .unset, .unset, .unset, .unset, .unset] [(.long j6), (.long j4), (.long j2), (.long j0), (.int i14)])) rfl (by rw [hml]; rfl) (argsL := [(.int i14), (.long j0), (.long j2), (.long j4), (.long j6)]) (rest := []) (lenOf pd_0_0 rfl) rfl (by show 2 * 0 + _ ≤ _; exact Nat.le_of_eq rfl) (hb hby at_174) (fun _ _ => ⟨rfl, e0, hcl, hsl⟩)
  dsimp only [Pt.U, Pt.locs, Pt.cells, Pt.slots] at X7 l7 y7 z7 st7 hQ7
  subst l7 y7 z7
  obtain ⟨rfl, N7q, eq7⟩ := hQ7
  have N7 := Fr.app N0 N7q
  have E7 : Ext h0 T7.heap := own_exteq eq7
  have K7 : Keep h0 T7.heap [] := (Keep.refl h0 []).ext E7
  refine ⟨T7, _, _, X7, rfl, N7, eq7, fun target kt => ?_⟩
  show Steps p.tables e below (T0.setTop (mkF m 160 #[.val (.long j0), .second, .val (.long j2), .second, .val (.long j4), .second, .val (.long j6), .second, .val (.long j8), .second, s10, s11, .val (.int i12), s13, .val (.int i14), s15, s16, s17, .unset, .unset, .unset, .unset, .unset] [])) _
  refine XS.iload X0.here hx rfl (hb hby at_160) rfl ?_
  show Steps p.tables e below (T0.setTop (mkF m 162 #[.val (.long j0), .second, .val (.long j2), .second, .val (.long j4), .second, .val (.long j6), .second, .val (.long j8), .second, s10, s11, .val (.int i12), s13, .val (.int i14), s15, s16, s17, .unset, .unset, .unset, .unset, .unset] [(.int i12)])) _
  refine XS.iconst X0.here hx rfl (hb hby at_162) ?_
  show Steps p.tables e below (T0.setTop (mkF m 163 #[.val (.long j0), .second, .val (.long j2), .second, .val (.long j4), .second, .val (.long j6), .second, .val (.long j8), .second, s10, s11, .val (.int i12), s13, .val (.int i14), s15, s16, s17, .unset, .unset, .unset, .unset, .unset] [(.int (2 : Int32)), (.int i12)])) _
  refine XS.icmpNo X0.here hx rfl (hb hby at_163) rfl (flt hc163).1 ?_
  show Steps p.tables e below (T0.setTop (mkF m 166 #[.val (.long j0), .second, .val (.long j2), .second, .val (.long j4), .second, .val (.long j6), .second, .val (.long j8), .second, s10, s11, .val (.int i12), s13, .val (.int i14), s15, s16, s17, .unset, .unset, .unset, .unset, .unset] [])) _
  refine XS.iload X0.here hx rfl (hb hby at_166) rfl ?_
  show Steps p.tables e below (T0.setTop (mkF m 168 #[.val (.long j0), .second, .val (.long j2), .second, .val (.long j4), .second, .val (.long j6), .second, .val (.long j8), .second, s10, s11, .val (.int i12), s13, .val (.int i14), s15, s16, s17, .unset, .unset, .unset, .unset, .unset] [(.int i14)])) _
  refine XS.lloadN X0.here hx rfl (hb hby at_168) rfl ?_
  show Steps p.tables e below (T0.setTop (mkF m 169 #[.val (.long j0), .second, .val (.long j2), .second, .val (.long j4), .second, .val (.long j6), .second, .val (.long j8), .second, s10, s11, .val (.int i12), s13, .val (.int i14), s15, s16, s17, .unset, .unset, .unset, .unset, .unset] [(.long j0), (.int i14)])) _
  refine XS.lloadN X0.here hx rfl (hb hby at_169) rfl ?_
  show Steps p.tables e below (T0.setTop (mkF m 170 #[.val (.long j0), .second, .val (.long j2), .second, .val (.long j4), .second, .val (.long j6), .second, .val (.long j8), .second, s10, s11, .val (.int i12), s13, .val (.int i14), s15, s16, s17, .unset, .unset, .unset, .unset, .unset] [(.long j2), (.long j0), (.int i14)])) _
  refine XS.lload X0.here hx rfl (hb hby at_170) rfl ?_
  show Steps p.tables e below (T0.setTop (mkF m 172 #[.val (.long j0), .second, .val (.long j2), .second, .val (.long j4), .second, .val (.long j6), .second, .val (.long j8), .second, s10, s11, .val (.int i12), s13, .val (.int i14), s15, s16, s17, .unset, .unset, .unset, .unset, .unset] [(.long j4), (.long j2), (.long j0), (.int i14)])) _
  refine XS.lload X0.here hx rfl (hb hby at_172) rfl ?_
  show Steps p.tables e below (T0.setTop (mkF m 174 #[.val (.long j0), .second, .val (.long j2), .second, .val (.long j4), .second, .val (.long j6), .second, .val (.long j8), .second, s10, s11, .val (.int i12), s13, .val (.int i14), s15, s16, s17, .unset, .unset, .unset, .unset, .unset] [(.long j6), (.long j4), (.long j2), (.long j0), (.int i14)])) _
  refine st7 _ ?_
  show Steps p.tables e below (T7.setTop (mkF m 177 #[.val (.long j0), .second, .val (.long j2), .second, .val (.long j4), .second, .val (.long j6), .second, .val (.long j8), .second, s10, s11, .val (.int i12), s13, .val (.int i14), s15, s16, s17, .unset, .unset, .unset, .unset, .unset] [(.long (own_pick i14 j0 j2 j4 j6))])) _
  refine XS.lload X7.here hx rfl (hb hby at_177) rfl ?_
  show Steps p.tables e below (T7.setTop (mkF m 179 #[.val (.long j0), .second, .val (.long j2), .second, .val (.long j4), .second, .val (.long j6), .second, .val (.long j8), .second, s10, s11, .val (.int i12), s13, .val (.int i14), s15, s16, s17, .unset, .unset, .unset, .unset, .unset] [(.long j8), (.long (own_pick i14 j0 j2 j4 j6))])) _
  refine XS.lcmp X7.here hx rfl (hb hby at_179) rfl ?_
  show Steps p.tables e below (T7.setTop (mkF m 180 #[.val (.long j0), .second, .val (.long j2), .second, .val (.long j4), .second, .val (.long j6), .second, .val (.long j8), .second, s10, s11, .val (.int i12), s13, .val (.int i14), s15, s16, s17, .unset, .unset, .unset, .unset, .unset] [(.int (lcmpW (own_pick i14 j0 j2 j4 j6) j8))])) _
  refine XS.ifNo X7.here hx rfl (hb hby at_180) rfl ((if0 _ _).trans (flt (hlt : ¬ ((lcmpW (own_pick i14 j0 j2 j4 j6) j8) < (0 : Int32)))).1) ?_
  show Steps p.tables e below (T7.setTop (mkF m 183 #[.val (.long j0), .second, .val (.long j2), .second, .val (.long j4), .second, .val (.long j6), .second, .val (.long j8), .second, s10, s11, .val (.int i12), s13, .val (.int i14), s15, s16, s17, .unset, .unset, .unset, .unset, .unset] [])) _
  refine XS.iconst X7.here hx rfl (hb hby at_183) ?_
  show Steps p.tables e below (T7.setTop (mkF m 184 #[.val (.long j0), .second, .val (.long j2), .second, .val (.long j4), .second, .val (.long j6), .second, .val (.long j8), .second, s10, s11, .val (.int i12), s13, .val (.int i14), s15, s16, s17, .unset, .unset, .unset, .unset, .unset] [(.int (1 : Int32))])) _
  refine XS.goto X7.here hx rfl (pc0 := 184) (pc' := 188) rfl (hb hby at_184) (by decide) (by decide) ?_
  show Steps p.tables e below (T7.setTop (mkF m 188 #[.val (.long j0), .second, .val (.long j2), .second, .val (.long j4), .second, .val (.long j6), .second, .val (.long j8), .second, s10, s11, .val (.int i12), s13, .val (.int i14), s15, s16, s17, .unset, .unset, .unset, .unset, .unset] [(.int (1 : Int32))])) _
  refine XS.istore X7.here hx rfl (hb hby at_188) rfl (l' := #[.val (.long j0), .second, .val (.long j2), .second, .val (.long j4), .second, .val (.long j6), .second, .val (.long j8), .second, s10, s11, .val (.int i12), s13, .val (.int i14), s15, s16, s17, .val (.int (1 : Int32)), .unset, .unset, .unset, .unset]) rfl ?_
  exact kt
set_option maxRecDepth 65536 in
set_option maxHeartbeats 40000000 in
theorem ok1ft {p : Program} {l : Launch} {e : Env} {s : State} {m : MethodId} {args : Array Value} {below : List Frame} {meth : Method} {c : Code} {T0 : State} {locs : List Loc} {cells slots : Nat} {Z : State} {a0 : Array Value} {h0 : Heap} (j0 : Int64) (j2 : Int64) (j4 : Int64) (j6 : Int64) (j8 : Int64) (s10 : Slot) (s11 : Slot) (i12 : Int32) (s13 : Slot) (i14 : Int32) (s15 : Slot) (s16 : Slot) (s17 : Slot) (n0 : Nat)
    (X0 : Stand p l e room_1 s m args below meth c T0 locs cells slots) (hx : p.tables.exec = Jvm.exec) (hZ : Z.Warmed39 s.vm) (hw : ∀ d ∈ tables_1, d.before a0 Z = true) (hby : c.code = code) (hml : c.maxLocals = 23) (hown : s.vm.findClass "com/example/sluice/sluice/NetworkFitsPinLaw" = some m.cls) (e0 : T0.heap = h0) (Z0 : n0 ≤ h0.size) (N0 : Fr n0 locs) (hcl : cells ≤ 16) (hsl : slots ≤ 128) (hlt : (lcmpW (own_pick i14 j0 j2 j4 j6) j8) < (0 : Int32)) (hc163 : ¬ (i12 < (2 : Int32))) :
    ∃ (T' : State) (h' : Heap) (locs' : List Loc), Stand p l e room_1 s m args below meth c T' locs' cells slots ∧ T'.heap = h' ∧ Fr n0 locs' ∧ h' = h0 ∧
      ∀ target, Steps p.tables e below (T'.setTop (mkF m 190 #[.val (.long j0), .second, .val (.long j2), .second, .val (.long j4), .second, .val (.long j6), .second, .val (.long j8), .second, s10, s11, .val (.int i12), s13, .val (.int i14), s15, s16, s17, .val (.int (0 : Int32)), .unset, .unset, .unset, .unset] [])) target → Steps p.tables e below (T0.setTop (mkF m 160 #[.val (.long j0), .second, .val (.long j2), .second, .val (.long j4), .second, .val (.long j6), .second, .val (.long j8), .second, s10, s11, .val (.int i12), s13, .val (.int i14), s15, s16, s17, .unset, .unset, .unset, .unset, .unset] [])) target := by
  have Zc7 : n0 ≤ h0.size := Z0
  obtain ⟨_, _, ⟨T7, L7, k7, n7⟩, -, X7, ⟨Lc7, hQ7, l7, y7, z7⟩, st7⟩ := Jvm.LawKit.callS X0 hx (y := (⟨"com/example/sluice/sluice/NetworkFitsPinLaw", "pick", "(IJJJJ)J"⟩ : MethodName)) hown (mvT hZ (hw _ (List.mem_of_getElem? (i := 2) rfl))) (mvT hZ (hw _ (List.mem_of_getElem? (i := 3) rfl))) (mvT hZ (hw _ (List.mem_of_getElem? (i := 4) rfl))) (mvT hZ (hw _ (List.mem_of_getElem? (i := 5) rfl))) (by decide) (backOf (W := 0) (rm1 l Z a0 hw [] i14 j0 j2 j4 j6  h0 n0 Zc7) hZ (hw _ (List.mem_of_getElem? (i := 5) rfl)) (hw _ (List.mem_of_getElem? (i := 4) rfl)) (by decide) (by decide)) (g := (mkF m 174 #[.val (.long j0), .second, .val (.long j2), .second, .val (.long j4), .second, .val (.long j6), .second, .val (.long j8), .second, s10, s11, .val (.int i12), s13, .val (.int i14), s15, s16, s17, .unset, .unset, .unset, .unset, .unset] [(.long j6), (.long j4), (.long j2), (.long j0), (.int i14)])) rfl (by rw [hml]; rfl) (argsL := [(.int i14), (.long j0), (.long j2), (.long j4), (.long j6)]) (rest := []) (lenOf pd_0_0 rfl) rfl (by show 2 * 0 + _ ≤ _; exact Nat.le_of_eq rfl) (hb hby at_174) (fun _ _ => ⟨rfl, e0, hcl, hsl⟩)
  dsimp only [Pt.U, Pt.locs, Pt.cells, Pt.slots] at X7 l7 y7 z7 st7 hQ7
  subst l7 y7 z7
  obtain ⟨rfl, N7q, eq7⟩ := hQ7
  have N7 := Fr.app N0 N7q
  have E7 : Ext h0 T7.heap := own_exteq eq7
  have K7 : Keep h0 T7.heap [] := (Keep.refl h0 []).ext E7
  refine ⟨T7, _, _, X7, rfl, N7, eq7, fun target kt => ?_⟩
  show Steps p.tables e below (T0.setTop (mkF m 160 #[.val (.long j0), .second, .val (.long j2), .second, .val (.long j4), .second, .val (.long j6), .second, .val (.long j8), .second, s10, s11, .val (.int i12), s13, .val (.int i14), s15, s16, s17, .unset, .unset, .unset, .unset, .unset] [])) _
  refine XS.iload X0.here hx rfl (hb hby at_160) rfl ?_
  show Steps p.tables e below (T0.setTop (mkF m 162 #[.val (.long j0), .second, .val (.long j2), .second, .val (.long j4), .second, .val (.long j6), .second, .val (.long j8), .second, s10, s11, .val (.int i12), s13, .val (.int i14), s15, s16, s17, .unset, .unset, .unset, .unset, .unset] [(.int i12)])) _
  refine XS.iconst X0.here hx rfl (hb hby at_162) ?_
  show Steps p.tables e below (T0.setTop (mkF m 163 #[.val (.long j0), .second, .val (.long j2), .second, .val (.long j4), .second, .val (.long j6), .second, .val (.long j8), .second, s10, s11, .val (.int i12), s13, .val (.int i14), s15, s16, s17, .unset, .unset, .unset, .unset, .unset] [(.int (2 : Int32)), (.int i12)])) _
  refine XS.icmpNo X0.here hx rfl (hb hby at_163) rfl (flt hc163).1 ?_
  show Steps p.tables e below (T0.setTop (mkF m 166 #[.val (.long j0), .second, .val (.long j2), .second, .val (.long j4), .second, .val (.long j6), .second, .val (.long j8), .second, s10, s11, .val (.int i12), s13, .val (.int i14), s15, s16, s17, .unset, .unset, .unset, .unset, .unset] [])) _
  refine XS.iload X0.here hx rfl (hb hby at_166) rfl ?_
  show Steps p.tables e below (T0.setTop (mkF m 168 #[.val (.long j0), .second, .val (.long j2), .second, .val (.long j4), .second, .val (.long j6), .second, .val (.long j8), .second, s10, s11, .val (.int i12), s13, .val (.int i14), s15, s16, s17, .unset, .unset, .unset, .unset, .unset] [(.int i14)])) _
  refine XS.lloadN X0.here hx rfl (hb hby at_168) rfl ?_
  show Steps p.tables e below (T0.setTop (mkF m 169 #[.val (.long j0), .second, .val (.long j2), .second, .val (.long j4), .second, .val (.long j6), .second, .val (.long j8), .second, s10, s11, .val (.int i12), s13, .val (.int i14), s15, s16, s17, .unset, .unset, .unset, .unset, .unset] [(.long j0), (.int i14)])) _
  refine XS.lloadN X0.here hx rfl (hb hby at_169) rfl ?_
  show Steps p.tables e below (T0.setTop (mkF m 170 #[.val (.long j0), .second, .val (.long j2), .second, .val (.long j4), .second, .val (.long j6), .second, .val (.long j8), .second, s10, s11, .val (.int i12), s13, .val (.int i14), s15, s16, s17, .unset, .unset, .unset, .unset, .unset] [(.long j2), (.long j0), (.int i14)])) _
  refine XS.lload X0.here hx rfl (hb hby at_170) rfl ?_
  show Steps p.tables e below (T0.setTop (mkF m 172 #[.val (.long j0), .second, .val (.long j2), .second, .val (.long j4), .second, .val (.long j6), .second, .val (.long j8), .second, s10, s11, .val (.int i12), s13, .val (.int i14), s15, s16, s17, .unset, .unset, .unset, .unset, .unset] [(.long j4), (.long j2), (.long j0), (.int i14)])) _
  refine XS.lload X0.here hx rfl (hb hby at_172) rfl ?_
  show Steps p.tables e below (T0.setTop (mkF m 174 #[.val (.long j0), .second, .val (.long j2), .second, .val (.long j4), .second, .val (.long j6), .second, .val (.long j8), .second, s10, s11, .val (.int i12), s13, .val (.int i14), s15, s16, s17, .unset, .unset, .unset, .unset, .unset] [(.long j6), (.long j4), (.long j2), (.long j0), (.int i14)])) _
  refine st7 _ ?_
  show Steps p.tables e below (T7.setTop (mkF m 177 #[.val (.long j0), .second, .val (.long j2), .second, .val (.long j4), .second, .val (.long j6), .second, .val (.long j8), .second, s10, s11, .val (.int i12), s13, .val (.int i14), s15, s16, s17, .unset, .unset, .unset, .unset, .unset] [(.long (own_pick i14 j0 j2 j4 j6))])) _
  refine XS.lload X7.here hx rfl (hb hby at_177) rfl ?_
  show Steps p.tables e below (T7.setTop (mkF m 179 #[.val (.long j0), .second, .val (.long j2), .second, .val (.long j4), .second, .val (.long j6), .second, .val (.long j8), .second, s10, s11, .val (.int i12), s13, .val (.int i14), s15, s16, s17, .unset, .unset, .unset, .unset, .unset] [(.long j8), (.long (own_pick i14 j0 j2 j4 j6))])) _
  refine XS.lcmp X7.here hx rfl (hb hby at_179) rfl ?_
  show Steps p.tables e below (T7.setTop (mkF m 180 #[.val (.long j0), .second, .val (.long j2), .second, .val (.long j4), .second, .val (.long j6), .second, .val (.long j8), .second, s10, s11, .val (.int i12), s13, .val (.int i14), s15, s16, s17, .unset, .unset, .unset, .unset, .unset] [(.int (lcmpW (own_pick i14 j0 j2 j4 j6) j8))])) _
  refine XS.ifYes X7.here hx rfl (pc0 := 180) (pc' := 187) rfl (hb hby at_180) rfl ((if0 _ _).trans (tlt (hlt : (lcmpW (own_pick i14 j0 j2 j4 j6) j8) < (0 : Int32))).1) (by decide) (by decide) ?_
  show Steps p.tables e below (T7.setTop (mkF m 187 #[.val (.long j0), .second, .val (.long j2), .second, .val (.long j4), .second, .val (.long j6), .second, .val (.long j8), .second, s10, s11, .val (.int i12), s13, .val (.int i14), s15, s16, s17, .unset, .unset, .unset, .unset, .unset] [])) _
  refine XS.iconst X7.here hx rfl (hb hby at_187) ?_
  show Steps p.tables e below (T7.setTop (mkF m 188 #[.val (.long j0), .second, .val (.long j2), .second, .val (.long j4), .second, .val (.long j6), .second, .val (.long j8), .second, s10, s11, .val (.int i12), s13, .val (.int i14), s15, s16, s17, .unset, .unset, .unset, .unset, .unset] [(.int (0 : Int32))])) _
  refine XS.istore X7.here hx rfl (hb hby at_188) rfl (l' := #[.val (.long j0), .second, .val (.long j2), .second, .val (.long j4), .second, .val (.long j6), .second, .val (.long j8), .second, s10, s11, .val (.int i12), s13, .val (.int i14), s15, s16, s17, .val (.int (0 : Int32)), .unset, .unset, .unset, .unset]) rfl ?_
  exact kt
set_option maxRecDepth 65536 in
set_option maxHeartbeats 40000000 in
theorem ok2t {p : Program} {l : Launch} {e : Env} {s : State} {m : MethodId} {args : Array Value} {below : List Frame} {meth : Method} {c : Code} {T0 : State} {locs : List Loc} {cells slots : Nat} {Z : State} {a0 : Array Value} {h0 : Heap} (j0 : Int64) (j2 : Int64) (j4 : Int64) (j6 : Int64) (j8 : Int64) (s10 : Slot) (s11 : Slot) (i12 : Int32) (s13 : Slot) (s14 : Slot) (i15 : Int32) (s16 : Slot) (s17 : Slot) (s18 : Slot) (n0 : Nat)
    (X0 : Stand p l e room_1 s m args below meth c T0 locs cells slots) (hx : p.tables.exec = Jvm.exec) (hZ : Z.Warmed39 s.vm) (hw : ∀ d ∈ tables_1, d.before a0 Z = true) (hby : c.code = code) (hml : c.maxLocals = 23) (hown : s.vm.findClass "com/example/sluice/sluice/NetworkFitsPinLaw" = some m.cls) (e0 : T0.heap = h0) (Z0 : n0 ≤ h0.size) (N0 : Fr n0 locs) (hcl : cells ≤ 16) (hsl : slots ≤ 128) (hc193 : i12 < (3 : Int32)) :
    ∃ (T' : State) (h' : Heap) (locs' : List Loc), Stand p l e room_1 s m args below meth c T' locs' cells slots ∧ T'.heap = h' ∧ Fr n0 locs' ∧ h' = h0 ∧
      ∀ target, Steps p.tables e below (T'.setTop (mkF m 220 #[.val (.long j0), .second, .val (.long j2), .second, .val (.long j4), .second, .val (.long j6), .second, .val (.long j8), .second, s10, s11, .val (.int i12), s13, s14, .val (.int i15), s16, s17, s18, .val (.int (1 : Int32)), .unset, .unset, .unset] [])) target → Steps p.tables e below (T0.setTop (mkF m 190 #[.val (.long j0), .second, .val (.long j2), .second, .val (.long j4), .second, .val (.long j6), .second, .val (.long j8), .second, s10, s11, .val (.int i12), s13, s14, .val (.int i15), s16, s17, s18, .unset, .unset, .unset, .unset] [])) target := by
  refine ⟨T0, _, _, X0, e0, N0, rfl, fun target kt => ?_⟩
  show Steps p.tables e below (T0.setTop (mkF m 190 #[.val (.long j0), .second, .val (.long j2), .second, .val (.long j4), .second, .val (.long j6), .second, .val (.long j8), .second, s10, s11, .val (.int i12), s13, s14, .val (.int i15), s16, s17, s18, .unset, .unset, .unset, .unset] [])) _
  refine XS.iload X0.here hx rfl (hb hby at_190) rfl ?_
  show Steps p.tables e below (T0.setTop (mkF m 192 #[.val (.long j0), .second, .val (.long j2), .second, .val (.long j4), .second, .val (.long j6), .second, .val (.long j8), .second, s10, s11, .val (.int i12), s13, s14, .val (.int i15), s16, s17, s18, .unset, .unset, .unset, .unset] [(.int i12)])) _
  refine XS.iconst X0.here hx rfl (hb hby at_192) ?_
  show Steps p.tables e below (T0.setTop (mkF m 193 #[.val (.long j0), .second, .val (.long j2), .second, .val (.long j4), .second, .val (.long j6), .second, .val (.long j8), .second, s10, s11, .val (.int i12), s13, s14, .val (.int i15), s16, s17, s18, .unset, .unset, .unset, .unset] [(.int (3 : Int32)), (.int i12)])) _
  refine XS.icmpYes X0.here hx rfl (pc0 := 193) (pc' := 213) rfl (hb hby at_193) rfl (tlt hc193).1 (by decide) (by decide) ?_
  show Steps p.tables e below (T0.setTop (mkF m 213 #[.val (.long j0), .second, .val (.long j2), .second, .val (.long j4), .second, .val (.long j6), .second, .val (.long j8), .second, s10, s11, .val (.int i12), s13, s14, .val (.int i15), s16, s17, s18, .unset, .unset, .unset, .unset] [])) _
  refine XS.iconst X0.here hx rfl (hb hby at_213) ?_
  show Steps p.tables e below (T0.setTop (mkF m 214 #[.val (.long j0), .second, .val (.long j2), .second, .val (.long j4), .second, .val (.long j6), .second, .val (.long j8), .second, s10, s11, .val (.int i12), s13, s14, .val (.int i15), s16, s17, s18, .unset, .unset, .unset, .unset] [(.int (1 : Int32))])) _
  refine XS.goto X0.here hx rfl (pc0 := 214) (pc' := 218) rfl (hb hby at_214) (by decide) (by decide) ?_
  show Steps p.tables e below (T0.setTop (mkF m 218 #[.val (.long j0), .second, .val (.long j2), .second, .val (.long j4), .second, .val (.long j6), .second, .val (.long j8), .second, s10, s11, .val (.int i12), s13, s14, .val (.int i15), s16, s17, s18, .unset, .unset, .unset, .unset] [(.int (1 : Int32))])) _
  refine XS.istore X0.here hx rfl (hb hby at_218) rfl (l' := #[.val (.long j0), .second, .val (.long j2), .second, .val (.long j4), .second, .val (.long j6), .second, .val (.long j8), .second, s10, s11, .val (.int i12), s13, s14, .val (.int i15), s16, s17, s18, .val (.int (1 : Int32)), .unset, .unset, .unset]) rfl ?_
  exact kt
set_option maxRecDepth 65536 in
set_option maxHeartbeats 40000000 in
theorem ok2ff {p : Program} {l : Launch} {e : Env} {s : State} {m : MethodId} {args : Array Value} {below : List Frame} {meth : Method} {c : Code} {T0 : State} {locs : List Loc} {cells slots : Nat} {Z : State} {a0 : Array Value} {h0 : Heap} (j0 : Int64) (j2 : Int64) (j4 : Int64) (j6 : Int64) (j8 : Int64) (s10 : Slot) (s11 : Slot) (i12 : Int32) (s13 : Slot) (s14 : Slot) (i15 : Int32) (s16 : Slot) (s17 : Slot) (s18 : Slot) (n0 : Nat)
    (X0 : Stand p l e room_1 s m args below meth c T0 locs cells slots) (hx : p.tables.exec = Jvm.exec) (hZ : Z.Warmed39 s.vm) (hw : ∀ d ∈ tables_1, d.before a0 Z = true) (hby : c.code = code) (hml : c.maxLocals = 23) (hown : s.vm.findClass "com/example/sluice/sluice/NetworkFitsPinLaw" = some m.cls) (e0 : T0.heap = h0) (Z0 : n0 ≤ h0.size) (N0 : Fr n0 locs) (hcl : cells ≤ 16) (hsl : slots ≤ 128) (hlt : ¬ ((lcmpW (own_pick i15 j0 j2 j4 j6) j8) < (0 : Int32))) (hc193 : ¬ (i12 < (3 : Int32))) :
    ∃ (T' : State) (h' : Heap) (locs' : List Loc), Stand p l e room_1 s m args below meth c T' locs' cells slots ∧ T'.heap = h' ∧ Fr n0 locs' ∧ h' = h0 ∧
      ∀ target, Steps p.tables e below (T'.setTop (mkF m 220 #[.val (.long j0), .second, .val (.long j2), .second, .val (.long j4), .second, .val (.long j6), .second, .val (.long j8), .second, s10, s11, .val (.int i12), s13, s14, .val (.int i15), s16, s17, s18, .val (.int (1 : Int32)), .unset, .unset, .unset] [])) target → Steps p.tables e below (T0.setTop (mkF m 190 #[.val (.long j0), .second, .val (.long j2), .second, .val (.long j4), .second, .val (.long j6), .second, .val (.long j8), .second, s10, s11, .val (.int i12), s13, s14, .val (.int i15), s16, s17, s18, .unset, .unset, .unset, .unset] [])) target := by
  have Zc7 : n0 ≤ h0.size := Z0
  obtain ⟨_, _, ⟨T7, L7, k7, n7⟩, -, X7, ⟨Lc7, hQ7, l7, y7, z7⟩, st7⟩ := Jvm.LawKit.callS X0 hx (y := (⟨"com/example/sluice/sluice/NetworkFitsPinLaw", "pick", "(IJJJJ)J"⟩ : MethodName)) hown (mvT hZ (hw _ (List.mem_of_getElem? (i := 2) rfl))) (mvT hZ (hw _ (List.mem_of_getElem? (i := 3) rfl))) (mvT hZ (hw _ (List.mem_of_getElem? (i := 4) rfl))) (mvT hZ (hw _ (List.mem_of_getElem? (i := 5) rfl))) (by decide) (backOf (W := 0) (rm1 l Z a0 hw [] i15 j0 j2 j4 j6  h0 n0 Zc7) hZ (hw _ (List.mem_of_getElem? (i := 5) rfl)) (hw _ (List.mem_of_getElem? (i := 4) rfl)) (by decide) (by decide)) (g := (mkF m 204 #[.val (.long j0), .second, .val (.long j2), .second, .val (.long j4), .second, .val (.long j6), .second, .val (.long j8), .second, s10, s11, .val (.int i12), s13, s14, .val (.int i15), s16, s17, s18, .unset, .unset, .unset, .unset] [(.long j6), (.long j4), (.long j2), (.long j0), (.int i15)])) rfl (by rw [hml]; rfl) (argsL := [(.int i15), (.long j0), (.long j2), (.long j4), (.long j6)]) (rest := []) (lenOf pd_0_0 rfl) rfl (by show 2 * 0 + _ ≤ _; exact Nat.le_of_eq rfl) (hb hby at_204) (fun _ _ => ⟨rfl, e0, hcl, hsl⟩)
  dsimp only [Pt.U, Pt.locs, Pt.cells, Pt.slots] at X7 l7 y7 z7 st7 hQ7
  subst l7 y7 z7
  obtain ⟨rfl, N7q, eq7⟩ := hQ7
  have N7 := Fr.app N0 N7q
  have E7 : Ext h0 T7.heap := own_exteq eq7
  have K7 : Keep h0 T7.heap [] := (Keep.refl h0 []).ext E7
  refine ⟨T7, _, _, X7, rfl, N7, eq7, fun target kt => ?_⟩
  show Steps p.tables e below (T0.setTop (mkF m 190 #[.val (.long j0), .second, .val (.long j2), .second, .val (.long j4), .second, .val (.long j6), .second, .val (.long j8), .second, s10, s11, .val (.int i12), s13, s14, .val (.int i15), s16, s17, s18, .unset, .unset, .unset, .unset] [])) _
  refine XS.iload X0.here hx rfl (hb hby at_190) rfl ?_
  show Steps p.tables e below (T0.setTop (mkF m 192 #[.val (.long j0), .second, .val (.long j2), .second, .val (.long j4), .second, .val (.long j6), .second, .val (.long j8), .second, s10, s11, .val (.int i12), s13, s14, .val (.int i15), s16, s17, s18, .unset, .unset, .unset, .unset] [(.int i12)])) _
  refine XS.iconst X0.here hx rfl (hb hby at_192) ?_
  show Steps p.tables e below (T0.setTop (mkF m 193 #[.val (.long j0), .second, .val (.long j2), .second, .val (.long j4), .second, .val (.long j6), .second, .val (.long j8), .second, s10, s11, .val (.int i12), s13, s14, .val (.int i15), s16, s17, s18, .unset, .unset, .unset, .unset] [(.int (3 : Int32)), (.int i12)])) _
  refine XS.icmpNo X0.here hx rfl (hb hby at_193) rfl (flt hc193).1 ?_
  show Steps p.tables e below (T0.setTop (mkF m 196 #[.val (.long j0), .second, .val (.long j2), .second, .val (.long j4), .second, .val (.long j6), .second, .val (.long j8), .second, s10, s11, .val (.int i12), s13, s14, .val (.int i15), s16, s17, s18, .unset, .unset, .unset, .unset] [])) _
  refine XS.iload X0.here hx rfl (hb hby at_196) rfl ?_
  show Steps p.tables e below (T0.setTop (mkF m 198 #[.val (.long j0), .second, .val (.long j2), .second, .val (.long j4), .second, .val (.long j6), .second, .val (.long j8), .second, s10, s11, .val (.int i12), s13, s14, .val (.int i15), s16, s17, s18, .unset, .unset, .unset, .unset] [(.int i15)])) _
  refine XS.lloadN X0.here hx rfl (hb hby at_198) rfl ?_
  show Steps p.tables e below (T0.setTop (mkF m 199 #[.val (.long j0), .second, .val (.long j2), .second, .val (.long j4), .second, .val (.long j6), .second, .val (.long j8), .second, s10, s11, .val (.int i12), s13, s14, .val (.int i15), s16, s17, s18, .unset, .unset, .unset, .unset] [(.long j0), (.int i15)])) _
  refine XS.lloadN X0.here hx rfl (hb hby at_199) rfl ?_
  show Steps p.tables e below (T0.setTop (mkF m 200 #[.val (.long j0), .second, .val (.long j2), .second, .val (.long j4), .second, .val (.long j6), .second, .val (.long j8), .second, s10, s11, .val (.int i12), s13, s14, .val (.int i15), s16, s17, s18, .unset, .unset, .unset, .unset] [(.long j2), (.long j0), (.int i15)])) _
  refine XS.lload X0.here hx rfl (hb hby at_200) rfl ?_
  show Steps p.tables e below (T0.setTop (mkF m 202 #[.val (.long j0), .second, .val (.long j2), .second, .val (.long j4), .second, .val (.long j6), .second, .val (.long j8), .second, s10, s11, .val (.int i12), s13, s14, .val (.int i15), s16, s17, s18, .unset, .unset, .unset, .unset] [(.long j4), (.long j2), (.long j0), (.int i15)])) _
  refine XS.lload X0.here hx rfl (hb hby at_202) rfl ?_
  show Steps p.tables e below (T0.setTop (mkF m 204 #[.val (.long j0), .second, .val (.long j2), .second, .val (.long j4), .second, .val (.long j6), .second, .val (.long j8), .second, s10, s11, .val (.int i12), s13, s14, .val (.int i15), s16, s17, s18, .unset, .unset, .unset, .unset] [(.long j6), (.long j4), (.long j2), (.long j0), (.int i15)])) _
  refine st7 _ ?_
  show Steps p.tables e below (T7.setTop (mkF m 207 #[.val (.long j0), .second, .val (.long j2), .second, .val (.long j4), .second, .val (.long j6), .second, .val (.long j8), .second, s10, s11, .val (.int i12), s13, s14, .val (.int i15), s16, s17, s18, .unset, .unset, .unset, .unset] [(.long (own_pick i15 j0 j2 j4 j6))])) _
  refine XS.lload X7.here hx rfl (hb hby at_207) rfl ?_
  show Steps p.tables e below (T7.setTop (mkF m 209 #[.val (.long j0), .second, .val (.long j2), .second, .val (.long j4), .second, .val (.long j6), .second, .val (.long j8), .second, s10, s11, .val (.int i12), s13, s14, .val (.int i15), s16, s17, s18, .unset, .unset, .unset, .unset] [(.long j8), (.long (own_pick i15 j0 j2 j4 j6))])) _
  refine XS.lcmp X7.here hx rfl (hb hby at_209) rfl ?_
  show Steps p.tables e below (T7.setTop (mkF m 210 #[.val (.long j0), .second, .val (.long j2), .second, .val (.long j4), .second, .val (.long j6), .second, .val (.long j8), .second, s10, s11, .val (.int i12), s13, s14, .val (.int i15), s16, s17, s18, .unset, .unset, .unset, .unset] [(.int (lcmpW (own_pick i15 j0 j2 j4 j6) j8))])) _
  refine XS.ifNo X7.here hx rfl (hb hby at_210) rfl ((if0 _ _).trans (flt (hlt : ¬ ((lcmpW (own_pick i15 j0 j2 j4 j6) j8) < (0 : Int32)))).1) ?_
  show Steps p.tables e below (T7.setTop (mkF m 213 #[.val (.long j0), .second, .val (.long j2), .second, .val (.long j4), .second, .val (.long j6), .second, .val (.long j8), .second, s10, s11, .val (.int i12), s13, s14, .val (.int i15), s16, s17, s18, .unset, .unset, .unset, .unset] [])) _
  refine XS.iconst X7.here hx rfl (hb hby at_213) ?_
  show Steps p.tables e below (T7.setTop (mkF m 214 #[.val (.long j0), .second, .val (.long j2), .second, .val (.long j4), .second, .val (.long j6), .second, .val (.long j8), .second, s10, s11, .val (.int i12), s13, s14, .val (.int i15), s16, s17, s18, .unset, .unset, .unset, .unset] [(.int (1 : Int32))])) _
  refine XS.goto X7.here hx rfl (pc0 := 214) (pc' := 218) rfl (hb hby at_214) (by decide) (by decide) ?_
  show Steps p.tables e below (T7.setTop (mkF m 218 #[.val (.long j0), .second, .val (.long j2), .second, .val (.long j4), .second, .val (.long j6), .second, .val (.long j8), .second, s10, s11, .val (.int i12), s13, s14, .val (.int i15), s16, s17, s18, .unset, .unset, .unset, .unset] [(.int (1 : Int32))])) _
  refine XS.istore X7.here hx rfl (hb hby at_218) rfl (l' := #[.val (.long j0), .second, .val (.long j2), .second, .val (.long j4), .second, .val (.long j6), .second, .val (.long j8), .second, s10, s11, .val (.int i12), s13, s14, .val (.int i15), s16, s17, s18, .val (.int (1 : Int32)), .unset, .unset, .unset]) rfl ?_
  exact kt
set_option maxRecDepth 65536 in
set_option maxHeartbeats 40000000 in
theorem ok2ft {p : Program} {l : Launch} {e : Env} {s : State} {m : MethodId} {args : Array Value} {below : List Frame} {meth : Method} {c : Code} {T0 : State} {locs : List Loc} {cells slots : Nat} {Z : State} {a0 : Array Value} {h0 : Heap} (j0 : Int64) (j2 : Int64) (j4 : Int64) (j6 : Int64) (j8 : Int64) (s10 : Slot) (s11 : Slot) (i12 : Int32) (s13 : Slot) (s14 : Slot) (i15 : Int32) (s16 : Slot) (s17 : Slot) (s18 : Slot) (n0 : Nat)
    (X0 : Stand p l e room_1 s m args below meth c T0 locs cells slots) (hx : p.tables.exec = Jvm.exec) (hZ : Z.Warmed39 s.vm) (hw : ∀ d ∈ tables_1, d.before a0 Z = true) (hby : c.code = code) (hml : c.maxLocals = 23) (hown : s.vm.findClass "com/example/sluice/sluice/NetworkFitsPinLaw" = some m.cls) (e0 : T0.heap = h0) (Z0 : n0 ≤ h0.size) (N0 : Fr n0 locs) (hcl : cells ≤ 16) (hsl : slots ≤ 128) (hlt : (lcmpW (own_pick i15 j0 j2 j4 j6) j8) < (0 : Int32)) (hc193 : ¬ (i12 < (3 : Int32))) :
    ∃ (T' : State) (h' : Heap) (locs' : List Loc), Stand p l e room_1 s m args below meth c T' locs' cells slots ∧ T'.heap = h' ∧ Fr n0 locs' ∧ h' = h0 ∧
      ∀ target, Steps p.tables e below (T'.setTop (mkF m 220 #[.val (.long j0), .second, .val (.long j2), .second, .val (.long j4), .second, .val (.long j6), .second, .val (.long j8), .second, s10, s11, .val (.int i12), s13, s14, .val (.int i15), s16, s17, s18, .val (.int (0 : Int32)), .unset, .unset, .unset] [])) target → Steps p.tables e below (T0.setTop (mkF m 190 #[.val (.long j0), .second, .val (.long j2), .second, .val (.long j4), .second, .val (.long j6), .second, .val (.long j8), .second, s10, s11, .val (.int i12), s13, s14, .val (.int i15), s16, s17, s18, .unset, .unset, .unset, .unset] [])) target := by
  have Zc7 : n0 ≤ h0.size := Z0
  obtain ⟨_, _, ⟨T7, L7, k7, n7⟩, -, X7, ⟨Lc7, hQ7, l7, y7, z7⟩, st7⟩ := Jvm.LawKit.callS X0 hx (y := (⟨"com/example/sluice/sluice/NetworkFitsPinLaw", "pick", "(IJJJJ)J"⟩ : MethodName)) hown (mvT hZ (hw _ (List.mem_of_getElem? (i := 2) rfl))) (mvT hZ (hw _ (List.mem_of_getElem? (i := 3) rfl))) (mvT hZ (hw _ (List.mem_of_getElem? (i := 4) rfl))) (mvT hZ (hw _ (List.mem_of_getElem? (i := 5) rfl))) (by decide) (backOf (W := 0) (rm1 l Z a0 hw [] i15 j0 j2 j4 j6  h0 n0 Zc7) hZ (hw _ (List.mem_of_getElem? (i := 5) rfl)) (hw _ (List.mem_of_getElem? (i := 4) rfl)) (by decide) (by decide)) (g := (mkF m 204 #[.val (.long j0), .second, .val (.long j2), .second, .val (.long j4), .second, .val (.long j6), .second, .val (.long j8), .second, s10, s11, .val (.int i12), s13, s14, .val (.int i15), s16, s17, s18, .unset, .unset, .unset, .unset] [(.long j6), (.long j4), (.long j2), (.long j0), (.int i15)])) rfl (by rw [hml]; rfl) (argsL := [(.int i15), (.long j0), (.long j2), (.long j4), (.long j6)]) (rest := []) (lenOf pd_0_0 rfl) rfl (by show 2 * 0 + _ ≤ _; exact Nat.le_of_eq rfl) (hb hby at_204) (fun _ _ => ⟨rfl, e0, hcl, hsl⟩)
  dsimp only [Pt.U, Pt.locs, Pt.cells, Pt.slots] at X7 l7 y7 z7 st7 hQ7
  subst l7 y7 z7
  obtain ⟨rfl, N7q, eq7⟩ := hQ7
  have N7 := Fr.app N0 N7q
  have E7 : Ext h0 T7.heap := own_exteq eq7
  have K7 : Keep h0 T7.heap [] := (Keep.refl h0 []).ext E7
  refine ⟨T7, _, _, X7, rfl, N7, eq7, fun target kt => ?_⟩
  show Steps p.tables e below (T0.setTop (mkF m 190 #[.val (.long j0), .second, .val (.long j2), .second, .val (.long j4), .second, .val (.long j6), .second, .val (.long j8), .second, s10, s11, .val (.int i12), s13, s14, .val (.int i15), s16, s17, s18, .unset, .unset, .unset, .unset] [])) _
  refine XS.iload X0.here hx rfl (hb hby at_190) rfl ?_
  show Steps p.tables e below (T0.setTop (mkF m 192 #[.val (.long j0), .second, .val (.long j2), .second, .val (.long j4), .second, .val (.long j6), .second, .val (.long j8), .second, s10, s11, .val (.int i12), s13, s14, .val (.int i15), s16, s17, s18, .unset, .unset, .unset, .unset] [(.int i12)])) _
  refine XS.iconst X0.here hx rfl (hb hby at_192) ?_
  show Steps p.tables e below (T0.setTop (mkF m 193 #[.val (.long j0), .second, .val (.long j2), .second, .val (.long j4), .second, .val (.long j6), .second, .val (.long j8), .second, s10, s11, .val (.int i12), s13, s14, .val (.int i15), s16, s17, s18, .unset, .unset, .unset, .unset] [(.int (3 : Int32)), (.int i12)])) _
  refine XS.icmpNo X0.here hx rfl (hb hby at_193) rfl (flt hc193).1 ?_
  show Steps p.tables e below (T0.setTop (mkF m 196 #[.val (.long j0), .second, .val (.long j2), .second, .val (.long j4), .second, .val (.long j6), .second, .val (.long j8), .second, s10, s11, .val (.int i12), s13, s14, .val (.int i15), s16, s17, s18, .unset, .unset, .unset, .unset] [])) _
  refine XS.iload X0.here hx rfl (hb hby at_196) rfl ?_
  show Steps p.tables e below (T0.setTop (mkF m 198 #[.val (.long j0), .second, .val (.long j2), .second, .val (.long j4), .second, .val (.long j6), .second, .val (.long j8), .second, s10, s11, .val (.int i12), s13, s14, .val (.int i15), s16, s17, s18, .unset, .unset, .unset, .unset] [(.int i15)])) _
  refine XS.lloadN X0.here hx rfl (hb hby at_198) rfl ?_
  show Steps p.tables e below (T0.setTop (mkF m 199 #[.val (.long j0), .second, .val (.long j2), .second, .val (.long j4), .second, .val (.long j6), .second, .val (.long j8), .second, s10, s11, .val (.int i12), s13, s14, .val (.int i15), s16, s17, s18, .unset, .unset, .unset, .unset] [(.long j0), (.int i15)])) _
  refine XS.lloadN X0.here hx rfl (hb hby at_199) rfl ?_
  show Steps p.tables e below (T0.setTop (mkF m 200 #[.val (.long j0), .second, .val (.long j2), .second, .val (.long j4), .second, .val (.long j6), .second, .val (.long j8), .second, s10, s11, .val (.int i12), s13, s14, .val (.int i15), s16, s17, s18, .unset, .unset, .unset, .unset] [(.long j2), (.long j0), (.int i15)])) _
  refine XS.lload X0.here hx rfl (hb hby at_200) rfl ?_
  show Steps p.tables e below (T0.setTop (mkF m 202 #[.val (.long j0), .second, .val (.long j2), .second, .val (.long j4), .second, .val (.long j6), .second, .val (.long j8), .second, s10, s11, .val (.int i12), s13, s14, .val (.int i15), s16, s17, s18, .unset, .unset, .unset, .unset] [(.long j4), (.long j2), (.long j0), (.int i15)])) _
  refine XS.lload X0.here hx rfl (hb hby at_202) rfl ?_
  show Steps p.tables e below (T0.setTop (mkF m 204 #[.val (.long j0), .second, .val (.long j2), .second, .val (.long j4), .second, .val (.long j6), .second, .val (.long j8), .second, s10, s11, .val (.int i12), s13, s14, .val (.int i15), s16, s17, s18, .unset, .unset, .unset, .unset] [(.long j6), (.long j4), (.long j2), (.long j0), (.int i15)])) _
  refine st7 _ ?_
  show Steps p.tables e below (T7.setTop (mkF m 207 #[.val (.long j0), .second, .val (.long j2), .second, .val (.long j4), .second, .val (.long j6), .second, .val (.long j8), .second, s10, s11, .val (.int i12), s13, s14, .val (.int i15), s16, s17, s18, .unset, .unset, .unset, .unset] [(.long (own_pick i15 j0 j2 j4 j6))])) _
  refine XS.lload X7.here hx rfl (hb hby at_207) rfl ?_
  show Steps p.tables e below (T7.setTop (mkF m 209 #[.val (.long j0), .second, .val (.long j2), .second, .val (.long j4), .second, .val (.long j6), .second, .val (.long j8), .second, s10, s11, .val (.int i12), s13, s14, .val (.int i15), s16, s17, s18, .unset, .unset, .unset, .unset] [(.long j8), (.long (own_pick i15 j0 j2 j4 j6))])) _
  refine XS.lcmp X7.here hx rfl (hb hby at_209) rfl ?_
  show Steps p.tables e below (T7.setTop (mkF m 210 #[.val (.long j0), .second, .val (.long j2), .second, .val (.long j4), .second, .val (.long j6), .second, .val (.long j8), .second, s10, s11, .val (.int i12), s13, s14, .val (.int i15), s16, s17, s18, .unset, .unset, .unset, .unset] [(.int (lcmpW (own_pick i15 j0 j2 j4 j6) j8))])) _
  refine XS.ifYes X7.here hx rfl (pc0 := 210) (pc' := 217) rfl (hb hby at_210) rfl ((if0 _ _).trans (tlt (hlt : (lcmpW (own_pick i15 j0 j2 j4 j6) j8) < (0 : Int32))).1) (by decide) (by decide) ?_
  show Steps p.tables e below (T7.setTop (mkF m 217 #[.val (.long j0), .second, .val (.long j2), .second, .val (.long j4), .second, .val (.long j6), .second, .val (.long j8), .second, s10, s11, .val (.int i12), s13, s14, .val (.int i15), s16, s17, s18, .unset, .unset, .unset, .unset] [])) _
  refine XS.iconst X7.here hx rfl (hb hby at_217) ?_
  show Steps p.tables e below (T7.setTop (mkF m 218 #[.val (.long j0), .second, .val (.long j2), .second, .val (.long j4), .second, .val (.long j6), .second, .val (.long j8), .second, s10, s11, .val (.int i12), s13, s14, .val (.int i15), s16, s17, s18, .unset, .unset, .unset, .unset] [(.int (0 : Int32))])) _
  refine XS.istore X7.here hx rfl (hb hby at_218) rfl (l' := #[.val (.long j0), .second, .val (.long j2), .second, .val (.long j4), .second, .val (.long j6), .second, .val (.long j8), .second, s10, s11, .val (.int i12), s13, s14, .val (.int i15), s16, s17, s18, .val (.int (0 : Int32)), .unset, .unset, .unset]) rfl ?_
  exact kt
theorem okm0 {p : Program} {l : Launch} {e : Env} {s : State} {m : MethodId} {args : Array Value} {below : List Frame} {meth : Method} {c : Code} {locs : List Loc} {cells slots : Nat} {Z : State} {a0 : Array Value} {h0 : Heap} {T0 : State} (j0 j2 j4 j6 j8 : Int64) (s10 s11 : Slot) (i12 : Int32) (i13 : Int32) (s14 : Slot) (s15 : Slot) (s16 : Slot) (n0 : Nat) (X0 : Stand p l e room_1 s m args below meth c T0 locs cells slots) (hx : p.tables.exec = Jvm.exec) (hZ : Z.Warmed39 s.vm) (hw : ∀ d ∈ tables_1, d.before a0 Z = true) (hby : c.code = code) (hml : c.maxLocals = 23) (hown : s.vm.findClass "com/example/sluice/sluice/NetworkFitsPinLaw" = some m.cls) (e0 : T0.heap = h0) (Z0 : n0 ≤ h0.size) (N0 : Fr n0 locs) (hcl : cells ≤ 16) (hsl : slots ≤ 128) :
    ∃ (T' : State) (h' : Heap) (locs' : List Loc), Stand p l e room_1 s m args below meth c T' locs' cells slots ∧ T'.heap = h' ∧ Fr n0 locs' ∧ h' = h0 ∧ ∀ target, Steps p.tables e below (T'.setTop (mkF m 160 #[.val (.long j0), .second, .val (.long j2), .second, .val (.long j4), .second, .val (.long j6), .second, .val (.long j8), .second, s10, s11, .val (.int i12), .val (.int i13), s14, s15, s16, .val (.int (own_ok i12 (1 : Int32) (own_pick i13 j0 j2 j4 j6) j8)), .unset, .unset, .unset, .unset, .unset] [])) target → Steps p.tables e below (T0.setTop (mkF m 130 #[.val (.long j0), .second, .val (.long j2), .second, .val (.long j4), .second, .val (.long j6), .second, .val (.long j8), .second, s10, s11, .val (.int i12), .val (.int i13), s14, s15, s16, .unset, .unset, .unset, .unset, .unset, .unset] [])) target := by
  by_cases hlen : i12 < (1 : Int32)
  · rw [show own_ok i12 (1 : Int32) (own_pick i13 j0 j2 j4 j6) j8 = 1 from if_pos hlen]
    exact ok0t j0 j2 j4 j6 j8 s10 s11 i12 i13 s14 s15 s16  n0 X0 hx hZ hw hby hml hown e0 Z0 N0 hcl hsl hlen
  · by_cases hlt : (lcmpW (own_pick i13 j0 j2 j4 j6) j8) < (0 : Int32)
    · rw [show own_ok i12 (1 : Int32) (own_pick i13 j0 j2 j4 j6) j8 = 0 from (if_neg hlen).trans (if_pos hlt)]
      exact ok0ft j0 j2 j4 j6 j8 s10 s11 i12 i13 s14 s15 s16  n0 X0 hx hZ hw hby hml hown e0 Z0 N0 hcl hsl hlt hlen
    · rw [show own_ok i12 (1 : Int32) (own_pick i13 j0 j2 j4 j6) j8 = 1 from (if_neg hlen).trans (if_neg hlt)]
      exact ok0ff j0 j2 j4 j6 j8 s10 s11 i12 i13 s14 s15 s16  n0 X0 hx hZ hw hby hml hown e0 Z0 N0 hcl hsl hlt hlen
theorem okm1 {p : Program} {l : Launch} {e : Env} {s : State} {m : MethodId} {args : Array Value} {below : List Frame} {meth : Method} {c : Code} {locs : List Loc} {cells slots : Nat} {Z : State} {a0 : Array Value} {h0 : Heap} {T0 : State} (j0 j2 j4 j6 j8 : Int64) (s10 s11 : Slot) (i12 : Int32) (s13 : Slot) (i14 : Int32) (s15 : Slot) (s16 : Slot) (s17 : Slot) (n0 : Nat) (X0 : Stand p l e room_1 s m args below meth c T0 locs cells slots) (hx : p.tables.exec = Jvm.exec) (hZ : Z.Warmed39 s.vm) (hw : ∀ d ∈ tables_1, d.before a0 Z = true) (hby : c.code = code) (hml : c.maxLocals = 23) (hown : s.vm.findClass "com/example/sluice/sluice/NetworkFitsPinLaw" = some m.cls) (e0 : T0.heap = h0) (Z0 : n0 ≤ h0.size) (N0 : Fr n0 locs) (hcl : cells ≤ 16) (hsl : slots ≤ 128) :
    ∃ (T' : State) (h' : Heap) (locs' : List Loc), Stand p l e room_1 s m args below meth c T' locs' cells slots ∧ T'.heap = h' ∧ Fr n0 locs' ∧ h' = h0 ∧ ∀ target, Steps p.tables e below (T'.setTop (mkF m 190 #[.val (.long j0), .second, .val (.long j2), .second, .val (.long j4), .second, .val (.long j6), .second, .val (.long j8), .second, s10, s11, .val (.int i12), s13, .val (.int i14), s15, s16, s17, .val (.int (own_ok i12 (2 : Int32) (own_pick i14 j0 j2 j4 j6) j8)), .unset, .unset, .unset, .unset] [])) target → Steps p.tables e below (T0.setTop (mkF m 160 #[.val (.long j0), .second, .val (.long j2), .second, .val (.long j4), .second, .val (.long j6), .second, .val (.long j8), .second, s10, s11, .val (.int i12), s13, .val (.int i14), s15, s16, s17, .unset, .unset, .unset, .unset, .unset] [])) target := by
  by_cases hlen : i12 < (2 : Int32)
  · rw [show own_ok i12 (2 : Int32) (own_pick i14 j0 j2 j4 j6) j8 = 1 from if_pos hlen]
    exact ok1t j0 j2 j4 j6 j8 s10 s11 i12 s13 i14 s15 s16 s17 n0 X0 hx hZ hw hby hml hown e0 Z0 N0 hcl hsl hlen
  · by_cases hlt : (lcmpW (own_pick i14 j0 j2 j4 j6) j8) < (0 : Int32)
    · rw [show own_ok i12 (2 : Int32) (own_pick i14 j0 j2 j4 j6) j8 = 0 from (if_neg hlen).trans (if_pos hlt)]
      exact ok1ft j0 j2 j4 j6 j8 s10 s11 i12 s13 i14 s15 s16 s17 n0 X0 hx hZ hw hby hml hown e0 Z0 N0 hcl hsl hlt hlen
    · rw [show own_ok i12 (2 : Int32) (own_pick i14 j0 j2 j4 j6) j8 = 1 from (if_neg hlen).trans (if_neg hlt)]
      exact ok1ff j0 j2 j4 j6 j8 s10 s11 i12 s13 i14 s15 s16 s17 n0 X0 hx hZ hw hby hml hown e0 Z0 N0 hcl hsl hlt hlen
theorem okm2 {p : Program} {l : Launch} {e : Env} {s : State} {m : MethodId} {args : Array Value} {below : List Frame} {meth : Method} {c : Code} {locs : List Loc} {cells slots : Nat} {Z : State} {a0 : Array Value} {h0 : Heap} {T0 : State} (j0 j2 j4 j6 j8 : Int64) (s10 s11 : Slot) (i12 : Int32) (s13 : Slot) (s14 : Slot) (i15 : Int32) (s16 : Slot) (s17 : Slot) (s18 : Slot) (n0 : Nat) (X0 : Stand p l e room_1 s m args below meth c T0 locs cells slots) (hx : p.tables.exec = Jvm.exec) (hZ : Z.Warmed39 s.vm) (hw : ∀ d ∈ tables_1, d.before a0 Z = true) (hby : c.code = code) (hml : c.maxLocals = 23) (hown : s.vm.findClass "com/example/sluice/sluice/NetworkFitsPinLaw" = some m.cls) (e0 : T0.heap = h0) (Z0 : n0 ≤ h0.size) (N0 : Fr n0 locs) (hcl : cells ≤ 16) (hsl : slots ≤ 128) :
    ∃ (T' : State) (h' : Heap) (locs' : List Loc), Stand p l e room_1 s m args below meth c T' locs' cells slots ∧ T'.heap = h' ∧ Fr n0 locs' ∧ h' = h0 ∧ ∀ target, Steps p.tables e below (T'.setTop (mkF m 220 #[.val (.long j0), .second, .val (.long j2), .second, .val (.long j4), .second, .val (.long j6), .second, .val (.long j8), .second, s10, s11, .val (.int i12), s13, s14, .val (.int i15), s16, s17, s18, .val (.int (own_ok i12 (3 : Int32) (own_pick i15 j0 j2 j4 j6) j8)), .unset, .unset, .unset] [])) target → Steps p.tables e below (T0.setTop (mkF m 190 #[.val (.long j0), .second, .val (.long j2), .second, .val (.long j4), .second, .val (.long j6), .second, .val (.long j8), .second, s10, s11, .val (.int i12), s13, s14, .val (.int i15), s16, s17, s18, .unset, .unset, .unset, .unset] [])) target := by
  by_cases hlen : i12 < (3 : Int32)
  · rw [show own_ok i12 (3 : Int32) (own_pick i15 j0 j2 j4 j6) j8 = 1 from if_pos hlen]
    exact ok2t j0 j2 j4 j6 j8 s10 s11 i12 s13 s14 i15 s16 s17 s18 n0 X0 hx hZ hw hby hml hown e0 Z0 N0 hcl hsl hlen
  · by_cases hlt : (lcmpW (own_pick i15 j0 j2 j4 j6) j8) < (0 : Int32)
    · rw [show own_ok i12 (3 : Int32) (own_pick i15 j0 j2 j4 j6) j8 = 0 from (if_neg hlen).trans (if_pos hlt)]
      exact ok2ft j0 j2 j4 j6 j8 s10 s11 i12 s13 s14 i15 s16 s17 s18 n0 X0 hx hZ hw hby hml hown e0 Z0 N0 hcl hsl hlt hlen
    · rw [show own_ok i12 (3 : Int32) (own_pick i15 j0 j2 j4 j6) j8 = 1 from (if_neg hlen).trans (if_neg hlt)]
      exact ok2ff j0 j2 j4 j6 j8 s10 s11 i12 s13 s14 i15 s16 s17 s18 n0 X0 hx hZ hw hby hml hown e0 Z0 N0 hcl hsl hlt hlen
set_option maxRecDepth 65536 in
set_option maxHeartbeats 40000000 in
theorem andt {p : Program} {l : Launch} {e : Env} {R : Room} {s : State} {m : MethodId} {args : Array Value} {below : List Frame} {meth : Method} {c : Code} {T0 : State} {locs : List Loc} {cells slots : Nat} {Z : State} {a0 : Array Value} {h0 : Heap} (s0 : Slot) (s1 : Slot) (s2 : Slot) (s3 : Slot) (s4 : Slot) (s5 : Slot) (s6 : Slot) (s7 : Slot) (s8 : Slot) (s9 : Slot) (s10 : Slot) (s11 : Slot) (s12 : Slot) (s13 : Slot) (s14 : Slot) (s15 : Slot) (s16 : Slot) (i17 : Int32) (i18 : Int32) (i19 : Int32)
    (X0 : Stand p l e R s m args below meth c T0 locs cells slots) (hx : p.tables.exec = Jvm.exec) (hZ : Z.Warmed39 s.vm) (hw : ∀ d ∈ tables_1, d.before a0 Z = true) (hby : c.code = code) (hml : c.maxLocals = 23) (hown : s.vm.findClass "com/example/sluice/sluice/NetworkFitsPinLaw" = some m.cls) (e0 : T0.heap = h0) (hc222 : i17 = (0 : Int32)) :
    ∃ (T' : State), Stand p l e R s m args below meth c T' locs cells slots ∧ T'.heap = h0 ∧
      ∀ target, Steps p.tables e below (T'.setTop (mkF m 242 #[s0, s1, s2, s3, s4, s5, s6, s7, s8, s9, s10, s11, s12, s13, s14, s15, s16, .val (.int i17), .val (.int i18), .val (.int i19), .val (.int (0 : Int32)), .unset, .unset] [])) target → Steps p.tables e below (T0.setTop (mkF m 220 #[s0, s1, s2, s3, s4, s5, s6, s7, s8, s9, s10, s11, s12, s13, s14, s15, s16, .val (.int i17), .val (.int i18), .val (.int i19), .unset, .unset, .unset] [])) target := by
  refine ⟨T0, X0, e0, fun target kt => ?_⟩
  show Steps p.tables e below (T0.setTop (mkF m 220 #[s0, s1, s2, s3, s4, s5, s6, s7, s8, s9, s10, s11, s12, s13, s14, s15, s16, .val (.int i17), .val (.int i18), .val (.int i19), .unset, .unset, .unset] [])) _
  refine XS.iload X0.here hx rfl (hb hby at_220) rfl ?_
  show Steps p.tables e below (T0.setTop (mkF m 222 #[s0, s1, s2, s3, s4, s5, s6, s7, s8, s9, s10, s11, s12, s13, s14, s15, s16, .val (.int i17), .val (.int i18), .val (.int i19), .unset, .unset, .unset] [(.int i17)])) _
  refine XS.ifYes X0.here hx rfl (pc0 := 222) (pc' := 239) rfl (hb hby at_222) rfl ((if0 _ _).trans (teq hc222).1) (by decide) (by decide) ?_
  show Steps p.tables e below (T0.setTop (mkF m 239 #[s0, s1, s2, s3, s4, s5, s6, s7, s8, s9, s10, s11, s12, s13, s14, s15, s16, .val (.int i17), .val (.int i18), .val (.int i19), .unset, .unset, .unset] [])) _
  refine XS.iconst X0.here hx rfl (hb hby at_239) ?_
  show Steps p.tables e below (T0.setTop (mkF m 240 #[s0, s1, s2, s3, s4, s5, s6, s7, s8, s9, s10, s11, s12, s13, s14, s15, s16, .val (.int i17), .val (.int i18), .val (.int i19), .unset, .unset, .unset] [(.int (0 : Int32))])) _
  refine XS.istore X0.here hx rfl (hb hby at_240) rfl (l' := #[s0, s1, s2, s3, s4, s5, s6, s7, s8, s9, s10, s11, s12, s13, s14, s15, s16, .val (.int i17), .val (.int i18), .val (.int i19), .val (.int (0 : Int32)), .unset, .unset]) rfl ?_
  exact kt
set_option maxRecDepth 65536 in
set_option maxHeartbeats 40000000 in
theorem andft {p : Program} {l : Launch} {e : Env} {R : Room} {s : State} {m : MethodId} {args : Array Value} {below : List Frame} {meth : Method} {c : Code} {T0 : State} {locs : List Loc} {cells slots : Nat} {Z : State} {a0 : Array Value} {h0 : Heap} (s0 : Slot) (s1 : Slot) (s2 : Slot) (s3 : Slot) (s4 : Slot) (s5 : Slot) (s6 : Slot) (s7 : Slot) (s8 : Slot) (s9 : Slot) (s10 : Slot) (s11 : Slot) (s12 : Slot) (s13 : Slot) (s14 : Slot) (s15 : Slot) (s16 : Slot) (i17 : Int32) (i18 : Int32) (i19 : Int32)
    (X0 : Stand p l e R s m args below meth c T0 locs cells slots) (hx : p.tables.exec = Jvm.exec) (hZ : Z.Warmed39 s.vm) (hw : ∀ d ∈ tables_1, d.before a0 Z = true) (hby : c.code = code) (hml : c.maxLocals = 23) (hown : s.vm.findClass "com/example/sluice/sluice/NetworkFitsPinLaw" = some m.cls) (e0 : T0.heap = h0) (hc222 : ¬ (i17 = (0 : Int32))) (hc227 : i18 = (0 : Int32)) :
    ∃ (T' : State), Stand p l e R s m args below meth c T' locs cells slots ∧ T'.heap = h0 ∧
      ∀ target, Steps p.tables e below (T'.setTop (mkF m 242 #[s0, s1, s2, s3, s4, s5, s6, s7, s8, s9, s10, s11, s12, s13, s14, s15, s16, .val (.int i17), .val (.int i18), .val (.int i19), .val (.int (0 : Int32)), .unset, .unset] [])) target → Steps p.tables e below (T0.setTop (mkF m 220 #[s0, s1, s2, s3, s4, s5, s6, s7, s8, s9, s10, s11, s12, s13, s14, s15, s16, .val (.int i17), .val (.int i18), .val (.int i19), .unset, .unset, .unset] [])) target := by
  refine ⟨T0, X0, e0, fun target kt => ?_⟩
  show Steps p.tables e below (T0.setTop (mkF m 220 #[s0, s1, s2, s3, s4, s5, s6, s7, s8, s9, s10, s11, s12, s13, s14, s15, s16, .val (.int i17), .val (.int i18), .val (.int i19), .unset, .unset, .unset] [])) _
  refine XS.iload X0.here hx rfl (hb hby at_220) rfl ?_
  show Steps p.tables e below (T0.setTop (mkF m 222 #[s0, s1, s2, s3, s4, s5, s6, s7, s8, s9, s10, s11, s12, s13, s14, s15, s16, .val (.int i17), .val (.int i18), .val (.int i19), .unset, .unset, .unset] [(.int i17)])) _
  refine XS.ifNo X0.here hx rfl (hb hby at_222) rfl ((if0 _ _).trans (feq hc222).1) ?_
  show Steps p.tables e below (T0.setTop (mkF m 225 #[s0, s1, s2, s3, s4, s5, s6, s7, s8, s9, s10, s11, s12, s13, s14, s15, s16, .val (.int i17), .val (.int i18), .val (.int i19), .unset, .unset, .unset] [])) _
  refine XS.iload X0.here hx rfl (hb hby at_225) rfl ?_
  show Steps p.tables e below (T0.setTop (mkF m 227 #[s0, s1, s2, s3, s4, s5, s6, s7, s8, s9, s10, s11, s12, s13, s14, s15, s16, .val (.int i17), .val (.int i18), .val (.int i19), .unset, .unset, .unset] [(.int i18)])) _
  refine XS.ifYes X0.here hx rfl (pc0 := 227) (pc' := 239) rfl (hb hby at_227) rfl ((if0 _ _).trans (teq hc227).1) (by decide) (by decide) ?_
  show Steps p.tables e below (T0.setTop (mkF m 239 #[s0, s1, s2, s3, s4, s5, s6, s7, s8, s9, s10, s11, s12, s13, s14, s15, s16, .val (.int i17), .val (.int i18), .val (.int i19), .unset, .unset, .unset] [])) _
  refine XS.iconst X0.here hx rfl (hb hby at_239) ?_
  show Steps p.tables e below (T0.setTop (mkF m 240 #[s0, s1, s2, s3, s4, s5, s6, s7, s8, s9, s10, s11, s12, s13, s14, s15, s16, .val (.int i17), .val (.int i18), .val (.int i19), .unset, .unset, .unset] [(.int (0 : Int32))])) _
  refine XS.istore X0.here hx rfl (hb hby at_240) rfl (l' := #[s0, s1, s2, s3, s4, s5, s6, s7, s8, s9, s10, s11, s12, s13, s14, s15, s16, .val (.int i17), .val (.int i18), .val (.int i19), .val (.int (0 : Int32)), .unset, .unset]) rfl ?_
  exact kt
set_option maxRecDepth 65536 in
set_option maxHeartbeats 40000000 in
theorem andfft {p : Program} {l : Launch} {e : Env} {R : Room} {s : State} {m : MethodId} {args : Array Value} {below : List Frame} {meth : Method} {c : Code} {T0 : State} {locs : List Loc} {cells slots : Nat} {Z : State} {a0 : Array Value} {h0 : Heap} (s0 : Slot) (s1 : Slot) (s2 : Slot) (s3 : Slot) (s4 : Slot) (s5 : Slot) (s6 : Slot) (s7 : Slot) (s8 : Slot) (s9 : Slot) (s10 : Slot) (s11 : Slot) (s12 : Slot) (s13 : Slot) (s14 : Slot) (s15 : Slot) (s16 : Slot) (i17 : Int32) (i18 : Int32) (i19 : Int32)
    (X0 : Stand p l e R s m args below meth c T0 locs cells slots) (hx : p.tables.exec = Jvm.exec) (hZ : Z.Warmed39 s.vm) (hw : ∀ d ∈ tables_1, d.before a0 Z = true) (hby : c.code = code) (hml : c.maxLocals = 23) (hown : s.vm.findClass "com/example/sluice/sluice/NetworkFitsPinLaw" = some m.cls) (e0 : T0.heap = h0) (hc222 : ¬ (i17 = (0 : Int32))) (hc227 : ¬ (i18 = (0 : Int32))) (hc232 : i19 = (0 : Int32)) :
    ∃ (T' : State), Stand p l e R s m args below meth c T' locs cells slots ∧ T'.heap = h0 ∧
      ∀ target, Steps p.tables e below (T'.setTop (mkF m 242 #[s0, s1, s2, s3, s4, s5, s6, s7, s8, s9, s10, s11, s12, s13, s14, s15, s16, .val (.int i17), .val (.int i18), .val (.int i19), .val (.int (0 : Int32)), .unset, .unset] [])) target → Steps p.tables e below (T0.setTop (mkF m 220 #[s0, s1, s2, s3, s4, s5, s6, s7, s8, s9, s10, s11, s12, s13, s14, s15, s16, .val (.int i17), .val (.int i18), .val (.int i19), .unset, .unset, .unset] [])) target := by
  refine ⟨T0, X0, e0, fun target kt => ?_⟩
  show Steps p.tables e below (T0.setTop (mkF m 220 #[s0, s1, s2, s3, s4, s5, s6, s7, s8, s9, s10, s11, s12, s13, s14, s15, s16, .val (.int i17), .val (.int i18), .val (.int i19), .unset, .unset, .unset] [])) _
  refine XS.iload X0.here hx rfl (hb hby at_220) rfl ?_
  show Steps p.tables e below (T0.setTop (mkF m 222 #[s0, s1, s2, s3, s4, s5, s6, s7, s8, s9, s10, s11, s12, s13, s14, s15, s16, .val (.int i17), .val (.int i18), .val (.int i19), .unset, .unset, .unset] [(.int i17)])) _
  refine XS.ifNo X0.here hx rfl (hb hby at_222) rfl ((if0 _ _).trans (feq hc222).1) ?_
  show Steps p.tables e below (T0.setTop (mkF m 225 #[s0, s1, s2, s3, s4, s5, s6, s7, s8, s9, s10, s11, s12, s13, s14, s15, s16, .val (.int i17), .val (.int i18), .val (.int i19), .unset, .unset, .unset] [])) _
  refine XS.iload X0.here hx rfl (hb hby at_225) rfl ?_
  show Steps p.tables e below (T0.setTop (mkF m 227 #[s0, s1, s2, s3, s4, s5, s6, s7, s8, s9, s10, s11, s12, s13, s14, s15, s16, .val (.int i17), .val (.int i18), .val (.int i19), .unset, .unset, .unset] [(.int i18)])) _
  refine XS.ifNo X0.here hx rfl (hb hby at_227) rfl ((if0 _ _).trans (feq hc227).1) ?_
  show Steps p.tables e below (T0.setTop (mkF m 230 #[s0, s1, s2, s3, s4, s5, s6, s7, s8, s9, s10, s11, s12, s13, s14, s15, s16, .val (.int i17), .val (.int i18), .val (.int i19), .unset, .unset, .unset] [])) _
  refine XS.iload X0.here hx rfl (hb hby at_230) rfl ?_
  show Steps p.tables e below (T0.setTop (mkF m 232 #[s0, s1, s2, s3, s4, s5, s6, s7, s8, s9, s10, s11, s12, s13, s14, s15, s16, .val (.int i17), .val (.int i18), .val (.int i19), .unset, .unset, .unset] [(.int i19)])) _
  refine XS.ifYes X0.here hx rfl (pc0 := 232) (pc' := 239) rfl (hb hby at_232) rfl ((if0 _ _).trans (teq hc232).1) (by decide) (by decide) ?_
  show Steps p.tables e below (T0.setTop (mkF m 239 #[s0, s1, s2, s3, s4, s5, s6, s7, s8, s9, s10, s11, s12, s13, s14, s15, s16, .val (.int i17), .val (.int i18), .val (.int i19), .unset, .unset, .unset] [])) _
  refine XS.iconst X0.here hx rfl (hb hby at_239) ?_
  show Steps p.tables e below (T0.setTop (mkF m 240 #[s0, s1, s2, s3, s4, s5, s6, s7, s8, s9, s10, s11, s12, s13, s14, s15, s16, .val (.int i17), .val (.int i18), .val (.int i19), .unset, .unset, .unset] [(.int (0 : Int32))])) _
  refine XS.istore X0.here hx rfl (hb hby at_240) rfl (l' := #[s0, s1, s2, s3, s4, s5, s6, s7, s8, s9, s10, s11, s12, s13, s14, s15, s16, .val (.int i17), .val (.int i18), .val (.int i19), .val (.int (0 : Int32)), .unset, .unset]) rfl ?_
  exact kt
set_option maxRecDepth 65536 in
set_option maxHeartbeats 40000000 in
theorem andfff {p : Program} {l : Launch} {e : Env} {R : Room} {s : State} {m : MethodId} {args : Array Value} {below : List Frame} {meth : Method} {c : Code} {T0 : State} {locs : List Loc} {cells slots : Nat} {Z : State} {a0 : Array Value} {h0 : Heap} (s0 : Slot) (s1 : Slot) (s2 : Slot) (s3 : Slot) (s4 : Slot) (s5 : Slot) (s6 : Slot) (s7 : Slot) (s8 : Slot) (s9 : Slot) (s10 : Slot) (s11 : Slot) (s12 : Slot) (s13 : Slot) (s14 : Slot) (s15 : Slot) (s16 : Slot) (i17 : Int32) (i18 : Int32) (i19 : Int32)
    (X0 : Stand p l e R s m args below meth c T0 locs cells slots) (hx : p.tables.exec = Jvm.exec) (hZ : Z.Warmed39 s.vm) (hw : ∀ d ∈ tables_1, d.before a0 Z = true) (hby : c.code = code) (hml : c.maxLocals = 23) (hown : s.vm.findClass "com/example/sluice/sluice/NetworkFitsPinLaw" = some m.cls) (e0 : T0.heap = h0) (hc222 : ¬ (i17 = (0 : Int32))) (hc227 : ¬ (i18 = (0 : Int32))) (hc232 : ¬ (i19 = (0 : Int32))) :
    ∃ (T' : State), Stand p l e R s m args below meth c T' locs cells slots ∧ T'.heap = h0 ∧
      ∀ target, Steps p.tables e below (T'.setTop (mkF m 242 #[s0, s1, s2, s3, s4, s5, s6, s7, s8, s9, s10, s11, s12, s13, s14, s15, s16, .val (.int i17), .val (.int i18), .val (.int i19), .val (.int (1 : Int32)), .unset, .unset] [])) target → Steps p.tables e below (T0.setTop (mkF m 220 #[s0, s1, s2, s3, s4, s5, s6, s7, s8, s9, s10, s11, s12, s13, s14, s15, s16, .val (.int i17), .val (.int i18), .val (.int i19), .unset, .unset, .unset] [])) target := by
  refine ⟨T0, X0, e0, fun target kt => ?_⟩
  show Steps p.tables e below (T0.setTop (mkF m 220 #[s0, s1, s2, s3, s4, s5, s6, s7, s8, s9, s10, s11, s12, s13, s14, s15, s16, .val (.int i17), .val (.int i18), .val (.int i19), .unset, .unset, .unset] [])) _
  refine XS.iload X0.here hx rfl (hb hby at_220) rfl ?_
  show Steps p.tables e below (T0.setTop (mkF m 222 #[s0, s1, s2, s3, s4, s5, s6, s7, s8, s9, s10, s11, s12, s13, s14, s15, s16, .val (.int i17), .val (.int i18), .val (.int i19), .unset, .unset, .unset] [(.int i17)])) _
  refine XS.ifNo X0.here hx rfl (hb hby at_222) rfl ((if0 _ _).trans (feq hc222).1) ?_
  show Steps p.tables e below (T0.setTop (mkF m 225 #[s0, s1, s2, s3, s4, s5, s6, s7, s8, s9, s10, s11, s12, s13, s14, s15, s16, .val (.int i17), .val (.int i18), .val (.int i19), .unset, .unset, .unset] [])) _
  refine XS.iload X0.here hx rfl (hb hby at_225) rfl ?_
  show Steps p.tables e below (T0.setTop (mkF m 227 #[s0, s1, s2, s3, s4, s5, s6, s7, s8, s9, s10, s11, s12, s13, s14, s15, s16, .val (.int i17), .val (.int i18), .val (.int i19), .unset, .unset, .unset] [(.int i18)])) _
  refine XS.ifNo X0.here hx rfl (hb hby at_227) rfl ((if0 _ _).trans (feq hc227).1) ?_
  show Steps p.tables e below (T0.setTop (mkF m 230 #[s0, s1, s2, s3, s4, s5, s6, s7, s8, s9, s10, s11, s12, s13, s14, s15, s16, .val (.int i17), .val (.int i18), .val (.int i19), .unset, .unset, .unset] [])) _
  refine XS.iload X0.here hx rfl (hb hby at_230) rfl ?_
  show Steps p.tables e below (T0.setTop (mkF m 232 #[s0, s1, s2, s3, s4, s5, s6, s7, s8, s9, s10, s11, s12, s13, s14, s15, s16, .val (.int i17), .val (.int i18), .val (.int i19), .unset, .unset, .unset] [(.int i19)])) _
  refine XS.ifNo X0.here hx rfl (hb hby at_232) rfl ((if0 _ _).trans (feq hc232).1) ?_
  show Steps p.tables e below (T0.setTop (mkF m 235 #[s0, s1, s2, s3, s4, s5, s6, s7, s8, s9, s10, s11, s12, s13, s14, s15, s16, .val (.int i17), .val (.int i18), .val (.int i19), .unset, .unset, .unset] [])) _
  refine XS.iconst X0.here hx rfl (hb hby at_235) ?_
  show Steps p.tables e below (T0.setTop (mkF m 236 #[s0, s1, s2, s3, s4, s5, s6, s7, s8, s9, s10, s11, s12, s13, s14, s15, s16, .val (.int i17), .val (.int i18), .val (.int i19), .unset, .unset, .unset] [(.int (1 : Int32))])) _
  refine XS.goto X0.here hx rfl (pc0 := 236) (pc' := 240) rfl (hb hby at_236) (by decide) (by decide) ?_
  show Steps p.tables e below (T0.setTop (mkF m 240 #[s0, s1, s2, s3, s4, s5, s6, s7, s8, s9, s10, s11, s12, s13, s14, s15, s16, .val (.int i17), .val (.int i18), .val (.int i19), .unset, .unset, .unset] [(.int (1 : Int32))])) _
  refine XS.istore X0.here hx rfl (hb hby at_240) rfl (l' := #[s0, s1, s2, s3, s4, s5, s6, s7, s8, s9, s10, s11, s12, s13, s14, s15, s16, .val (.int i17), .val (.int i18), .val (.int i19), .val (.int (1 : Int32)), .unset, .unset]) rfl ?_
  exact kt
theorem andm {p : Program} {l : Launch} {e : Env} {s : State} {m : MethodId} {args : Array Value} {below : List Frame} {meth : Method} {c : Code} {locs : List Loc} {cells slots : Nat} {Z : State} {a0 : Array Value} {h0 : Heap} {T0 : State} (s0 s1 s2 s3 s4 s5 s6 s7 s8 s9 s10 s11 s12 s13 s14 s15 s16 : Slot) (i17 i18 i19 : Int32) (X0 : Stand p l e room_1 s m args below meth c T0 locs cells slots) (hx : p.tables.exec = Jvm.exec) (hZ : Z.Warmed39 s.vm) (hw : ∀ d ∈ tables_1, d.before a0 Z = true) (hby : c.code = code) (hml : c.maxLocals = 23) (hown : s.vm.findClass "com/example/sluice/sluice/NetworkFitsPinLaw" = some m.cls) (e0 : T0.heap = h0) :
    ∃ (T' : State), Stand p l e room_1 s m args below meth c T' locs cells slots ∧ T'.heap = h0 ∧ ∀ target, Steps p.tables e below (T'.setTop (mkF m 242 #[s0, s1, s2, s3, s4, s5, s6, s7, s8, s9, s10, s11, s12, s13, s14, s15, s16, .val (.int i17), .val (.int i18), .val (.int i19), .val (.int (own_and3 i17 i18 i19)), .unset, .unset] [])) target → Steps p.tables e below (T0.setTop (mkF m 220 #[s0, s1, s2, s3, s4, s5, s6, s7, s8, s9, s10, s11, s12, s13, s14, s15, s16, .val (.int i17), .val (.int i18), .val (.int i19), .unset, .unset, .unset] [])) target := by
  by_cases h1 : i17 = (0 : Int32)
  · rw [show own_and3 i17 i18 i19 = 0 from if_pos h1]
    exact andt s0 s1 s2 s3 s4 s5 s6 s7 s8 s9 s10 s11 s12 s13 s14 s15 s16 i17 i18 i19 X0 hx hZ hw hby hml hown e0 h1
  · by_cases h2 : i18 = (0 : Int32)
    · rw [show own_and3 i17 i18 i19 = 0 from (if_neg h1).trans (if_pos h2)]
      exact andft s0 s1 s2 s3 s4 s5 s6 s7 s8 s9 s10 s11 s12 s13 s14 s15 s16 i17 i18 i19 X0 hx hZ hw hby hml hown e0 h1 h2
    · by_cases h3 : i19 = (0 : Int32)
      · rw [show own_and3 i17 i18 i19 = 0 from (if_neg h1).trans ((if_neg h2).trans (if_pos h3))]
        exact andfft s0 s1 s2 s3 s4 s5 s6 s7 s8 s9 s10 s11 s12 s13 s14 s15 s16 i17 i18 i19 X0 hx hZ hw hby hml hown e0 h1 h2 h3
      · rw [show own_and3 i17 i18 i19 = 1 from (if_neg h1).trans ((if_neg h2).trans (if_neg h3))]
        exact andfff s0 s1 s2 s3 s4 s5 s6 s7 s8 s9 s10 s11 s12 s13 s14 s15 s16 i17 i18 i19 X0 hx hZ hw hby hml hown e0 h1 h2 h3
theorem pd_0_1 : parseMethodDescriptor "([I[JJ)Z" = some ⟨[(.array .int), (.array .long), .long], some .boolean⟩ := by decide +kernel
set_option maxRecDepth 65536 in
set_option maxHeartbeats 40000000 in
theorem sgE {p : Program} {l : Launch} {e : Env} {s : State} {m : MethodId} {args : Array Value} {below : List Frame} {meth : Method} {c : Code} {T0 : State} {locs : List Loc} {cells slots : Nat} {Z : State} {a0 : Array Value} {h0 : Heap} (j0 : Int64) (j2 : Int64) (j4 : Int64) (j6 : Int64) (j8 : Int64) (s10 : Slot) (o11 : Addr) (s12 : Slot) (s13 : Slot) (s14 : Slot) (s15 : Slot) (o16 : Addr) (s17 : Slot) (s18 : Slot) (s19 : Slot) (i20 : Int32) (n0 : Nat) (Rm : Nat → Int64) (q : Nat → Nat) (f_o11 : Nat → Value) (N_o16 : Nat) (f_o16 : Nat → Value)
    (X0 : Stand p l e room_1 s m args below meth c T0 locs cells slots) (hx : p.tables.exec = Jvm.exec) (hZ : Z.Warmed39 s.vm) (hw : ∀ d ∈ tables_1, d.before a0 Z = true) (hby : c.code = code) (hml : c.maxLocals = 23) (hown : s.vm.findClass "com/example/sluice/sluice/NetworkFitsPinLaw" = some m.cls) (e0 : T0.heap = h0) (Z0 : n0 ≤ h0.size) (N0 : Fr n0 locs) (hcl : cells ≤ 16) (hsl : slots ≤ 128) (hN : N_o16 < 1000) (hq : ∀ j, j < N_o16 → q j < 4) (hf : ∀ j, j < N_o16 → ∃ w, f_o16 j = .int w ∧ own_ix w (q j)) (hg : ∀ k, k < 4 → f_o11 k = .long (Rm k)) (hfit : own_fit Rm q j8 N_o16 = i20) (V_o11 : Ary Z h0 o11 .long 4 f_o11) (V_o16 : Ary Z h0 o16 .int N_o16 f_o16) (hc259 : (lcmpW (Rm 0) j0) = (0 : Int32)) (hc268 : (lcmpW (Rm 1) j2) = (0 : Int32)) (hc278 : (lcmpW (Rm 2) j4) = (0 : Int32)) (hc288 : (lcmpW (Rm 3) j6) = (0 : Int32)) (hc307 : ¬ ((1 : Int32) = (0 : Int32))) :
    ∃ (T' : State) (h' : Heap) (locs' : List Loc), Stand p l e room_1 s m args below meth c T' locs' cells slots ∧ T'.heap = h' ∧ Fr n0 locs' ∧
      ∀ target, Steps p.tables e below (T'.setTop (mkF m 315 #[.val (.long j0), .second, .val (.long j2), .second, .val (.long j4), .second, .val (.long j6), .second, .val (.long j8), .second, s10, .val (.ref o11), s12, s13, s14, s15, .val (.ref o16), s17, s18, s19, .val (.int i20), .val (.int (own_fit Rm q j8 N_o16)), .val (.int (1 : Int32))] [(.int (1 : Int32))])) target → Steps p.tables e below (T0.setTop (mkF m 242 #[.val (.long j0), .second, .val (.long j2), .second, .val (.long j4), .second, .val (.long j6), .second, .val (.long j8), .second, s10, .val (.ref o11), s12, s13, s14, s15, .val (.ref o16), s17, s18, s19, .val (.int i20), .unset, .unset] [])) target := by
  have Zc7 : n0 ≤ h0.size := Z0
  have Vc7_o16 := V_o16
  have Vc7_o11 := V_o11
  obtain ⟨_, _, ⟨T7, L7, k7, n7⟩, -, X7, ⟨Lc7, hQ7, l7, y7, z7⟩, st7⟩ := Jvm.LawKit.callS X0 hx (y := (⟨"com/example/sluice/sluice/Network", "fits", "([I[JJ)Z"⟩ : MethodName)) hown (mvT hZ (hw _ (List.mem_of_getElem? (i := 6) rfl))) (mvT hZ (hw _ (List.mem_of_getElem? (i := 7) rfl))) (mvT hZ (hw _ (List.mem_of_getElem? (i := 8) rfl))) (mvT hZ (hw _ (List.mem_of_getElem? (i := 9) rfl))) (by decide) (backOf (W := 0) (rm2 l Z a0 hw [] o16 o11 j8 N_o16 f_o16 f_o11 Rm q h0 n0 Zc7 hN hq hf hg Vc7_o16 Vc7_o11) hZ (hw _ (List.mem_of_getElem? (i := 9) rfl)) (hw _ (List.mem_of_getElem? (i := 8) rfl)) (by decide) (by decide)) (g := (mkF m 248 #[.val (.long j0), .second, .val (.long j2), .second, .val (.long j4), .second, .val (.long j6), .second, .val (.long j8), .second, s10, .val (.ref o11), s12, s13, s14, s15, .val (.ref o16), s17, s18, s19, .val (.int i20), .unset, .unset] [(.long j8), (.ref o11), (.ref o16)])) rfl (by rw [hml]; rfl) (argsL := [(.ref o16), (.ref o11), (.long j8)]) (rest := []) (lenOf pd_0_1 rfl) rfl (by show 2 * 0 + _ ≤ _; exact Nat.le_of_eq rfl) (hb hby at_248) (fun _ _ => ⟨rfl, e0, hcl, hsl⟩)
  dsimp only [Pt.U, Pt.locs, Pt.cells, Pt.slots] at X7 l7 y7 z7 st7 hQ7
  subst l7 y7 z7
  obtain ⟨rfl, N7q, eq7⟩ := hQ7
  have N7 := Fr.app N0 N7q
  have E7 : Ext h0 T7.heap := own_exteq eq7
  have K7 : Keep h0 T7.heap [] := (Keep.refl h0 []).ext E7
  obtain ⟨cl_256, Ar_256, S_256, H_256⟩ := id (V_o11.ext E7)
  have hin256 := Ary.inn S_256 (show own_ix (0 : Int32) 0 from rfl) (by decide)
  have hat256 := Ary.get H_256 (show own_ix (0 : Int32) 0 from rfl) (by decide) (v := (.long (Rm 0))) (hg 0 (by decide))
  obtain ⟨cl_265, Ar_265, S_265, H_265⟩ := id (V_o11.ext E7)
  have hin265 := Ary.inn S_265 (show own_ix (1 : Int32) 1 from rfl) (by decide)
  have hat265 := Ary.get H_265 (show own_ix (1 : Int32) 1 from rfl) (by decide) (v := (.long (Rm 1))) (hg 1 (by decide))
  obtain ⟨cl_274, Ar_274, S_274, H_274⟩ := id (V_o11.ext E7)
  have hin274 := Ary.inn S_274 (show own_ix (2 : Int32) 2 from rfl) (by decide)
  have hat274 := Ary.get H_274 (show own_ix (2 : Int32) 2 from rfl) (by decide) (v := (.long (Rm 2))) (hg 2 (by decide))
  obtain ⟨cl_284, Ar_284, S_284, H_284⟩ := id (V_o11.ext E7)
  have hin284 := Ary.inn S_284 (show own_ix (3 : Int32) 3 from rfl) (by decide)
  have hat284 := Ary.get H_284 (show own_ix (3 : Int32) 3 from rfl) (by decide) (v := (.long (Rm 3))) (hg 3 (by decide))
  refine ⟨T7, _, _, X7, rfl, N7, fun target kt => ?_⟩
  show Steps p.tables e below (T0.setTop (mkF m 242 #[.val (.long j0), .second, .val (.long j2), .second, .val (.long j4), .second, .val (.long j6), .second, .val (.long j8), .second, s10, .val (.ref o11), s12, s13, s14, s15, .val (.ref o16), s17, s18, s19, .val (.int i20), .unset, .unset] [])) _
  refine XS.aload X0.here hx rfl (hb hby at_242) rfl rfl ?_
  show Steps p.tables e below (T0.setTop (mkF m 244 #[.val (.long j0), .second, .val (.long j2), .second, .val (.long j4), .second, .val (.long j6), .second, .val (.long j8), .second, s10, .val (.ref o11), s12, s13, s14, s15, .val (.ref o16), s17, s18, s19, .val (.int i20), .unset, .unset] [(.ref o16)])) _
  refine XS.aload X0.here hx rfl (hb hby at_244) rfl rfl ?_
  show Steps p.tables e below (T0.setTop (mkF m 246 #[.val (.long j0), .second, .val (.long j2), .second, .val (.long j4), .second, .val (.long j6), .second, .val (.long j8), .second, s10, .val (.ref o11), s12, s13, s14, s15, .val (.ref o16), s17, s18, s19, .val (.int i20), .unset, .unset] [(.ref o11), (.ref o16)])) _
  refine XS.lload X0.here hx rfl (hb hby at_246) rfl ?_
  show Steps p.tables e below (T0.setTop (mkF m 248 #[.val (.long j0), .second, .val (.long j2), .second, .val (.long j4), .second, .val (.long j6), .second, .val (.long j8), .second, s10, .val (.ref o11), s12, s13, s14, s15, .val (.ref o16), s17, s18, s19, .val (.int i20), .unset, .unset] [(.long j8), (.ref o11), (.ref o16)])) _
  refine st7 _ ?_
  show Steps p.tables e below (T7.setTop (mkF m 251 #[.val (.long j0), .second, .val (.long j2), .second, .val (.long j4), .second, .val (.long j6), .second, .val (.long j8), .second, s10, .val (.ref o11), s12, s13, s14, s15, .val (.ref o16), s17, s18, s19, .val (.int i20), .unset, .unset] [(.int (own_fit Rm q j8 N_o16))])) _
  refine XS.istore X7.here hx rfl (hb hby at_251) rfl (l' := #[.val (.long j0), .second, .val (.long j2), .second, .val (.long j4), .second, .val (.long j6), .second, .val (.long j8), .second, s10, .val (.ref o11), s12, s13, s14, s15, .val (.ref o16), s17, s18, s19, .val (.int i20), .val (.int (own_fit Rm q j8 N_o16)), .unset]) rfl ?_
  show Steps p.tables e below (T7.setTop (mkF m 253 #[.val (.long j0), .second, .val (.long j2), .second, .val (.long j4), .second, .val (.long j6), .second, .val (.long j8), .second, s10, .val (.ref o11), s12, s13, s14, s15, .val (.ref o16), s17, s18, s19, .val (.int i20), .val (.int (own_fit Rm q j8 N_o16)), .unset] [])) _
  refine XS.aload X7.here hx rfl (hb hby at_253) rfl rfl ?_
  show Steps p.tables e below (T7.setTop (mkF m 255 #[.val (.long j0), .second, .val (.long j2), .second, .val (.long j4), .second, .val (.long j6), .second, .val (.long j8), .second, s10, .val (.ref o11), s12, s13, s14, s15, .val (.ref o16), s17, s18, s19, .val (.int i20), .val (.int (own_fit Rm q j8 N_o16)), .unset] [(.ref o11)])) _
  refine XS.iconst X7.here hx rfl (hb hby at_255) ?_
  show Steps p.tables e below (T7.setTop (mkF m 256 #[.val (.long j0), .second, .val (.long j2), .second, .val (.long j4), .second, .val (.long j6), .second, .val (.long j8), .second, s10, .val (.ref o11), s12, s13, s14, s15, .val (.ref o16), s17, s18, s19, .val (.int i20), .val (.int (own_fit Rm q j8 N_o16)), .unset] [(.int (0 : Int32)), (.ref o11)])) _
  refine X7.laload hx (j := (0 : Int32)) (v := (.long (Rm 0))) Ar_256.1 (State.isArrayOf_alike hZ.alike Ar_256.2.1) Ar_256.2.2 hin256 hat256 (g := (mkF m 256 #[.val (.long j0), .second, .val (.long j2), .second, .val (.long j4), .second, .val (.long j6), .second, .val (.long j8), .second, s10, .val (.ref o11), s12, s13, s14, s15, .val (.ref o16), s17, s18, s19, .val (.int i20), .val (.int (own_fit Rm q j8 N_o16)), .unset] [(.int (0 : Int32)), (.ref o11)])) rfl rfl (hb hby at_256) _ ?_
  show Steps p.tables e below (T7.setTop (mkF m 257 #[.val (.long j0), .second, .val (.long j2), .second, .val (.long j4), .second, .val (.long j6), .second, .val (.long j8), .second, s10, .val (.ref o11), s12, s13, s14, s15, .val (.ref o16), s17, s18, s19, .val (.int i20), .val (.int (own_fit Rm q j8 N_o16)), .unset] [(.long (Rm 0))])) _
  refine XS.lloadN X7.here hx rfl (hb hby at_257) rfl ?_
  show Steps p.tables e below (T7.setTop (mkF m 258 #[.val (.long j0), .second, .val (.long j2), .second, .val (.long j4), .second, .val (.long j6), .second, .val (.long j8), .second, s10, .val (.ref o11), s12, s13, s14, s15, .val (.ref o16), s17, s18, s19, .val (.int i20), .val (.int (own_fit Rm q j8 N_o16)), .unset] [(.long j0), (.long (Rm 0))])) _
  refine XS.lcmp X7.here hx rfl (hb hby at_258) rfl ?_
  show Steps p.tables e below (T7.setTop (mkF m 259 #[.val (.long j0), .second, .val (.long j2), .second, .val (.long j4), .second, .val (.long j6), .second, .val (.long j8), .second, s10, .val (.ref o11), s12, s13, s14, s15, .val (.ref o16), s17, s18, s19, .val (.int i20), .val (.int (own_fit Rm q j8 N_o16)), .unset] [(.int (lcmpW (Rm 0) j0))])) _
  refine XS.ifNo X7.here hx rfl (hb hby at_259) rfl ((if0 _ _).trans (teq hc259).2) ?_
  show Steps p.tables e below (T7.setTop (mkF m 262 #[.val (.long j0), .second, .val (.long j2), .second, .val (.long j4), .second, .val (.long j6), .second, .val (.long j8), .second, s10, .val (.ref o11), s12, s13, s14, s15, .val (.ref o16), s17, s18, s19, .val (.int i20), .val (.int (own_fit Rm q j8 N_o16)), .unset] [])) _
  refine XS.aload X7.here hx rfl (hb hby at_262) rfl rfl ?_
  show Steps p.tables e below (T7.setTop (mkF m 264 #[.val (.long j0), .second, .val (.long j2), .second, .val (.long j4), .second, .val (.long j6), .second, .val (.long j8), .second, s10, .val (.ref o11), s12, s13, s14, s15, .val (.ref o16), s17, s18, s19, .val (.int i20), .val (.int (own_fit Rm q j8 N_o16)), .unset] [(.ref o11)])) _
  refine XS.iconst X7.here hx rfl (hb hby at_264) ?_
  show Steps p.tables e below (T7.setTop (mkF m 265 #[.val (.long j0), .second, .val (.long j2), .second, .val (.long j4), .second, .val (.long j6), .second, .val (.long j8), .second, s10, .val (.ref o11), s12, s13, s14, s15, .val (.ref o16), s17, s18, s19, .val (.int i20), .val (.int (own_fit Rm q j8 N_o16)), .unset] [(.int (1 : Int32)), (.ref o11)])) _
  refine X7.laload hx (j := (1 : Int32)) (v := (.long (Rm 1))) Ar_265.1 (State.isArrayOf_alike hZ.alike Ar_265.2.1) Ar_265.2.2 hin265 hat265 (g := (mkF m 265 #[.val (.long j0), .second, .val (.long j2), .second, .val (.long j4), .second, .val (.long j6), .second, .val (.long j8), .second, s10, .val (.ref o11), s12, s13, s14, s15, .val (.ref o16), s17, s18, s19, .val (.int i20), .val (.int (own_fit Rm q j8 N_o16)), .unset] [(.int (1 : Int32)), (.ref o11)])) rfl rfl (hb hby at_265) _ ?_
  show Steps p.tables e below (T7.setTop (mkF m 266 #[.val (.long j0), .second, .val (.long j2), .second, .val (.long j4), .second, .val (.long j6), .second, .val (.long j8), .second, s10, .val (.ref o11), s12, s13, s14, s15, .val (.ref o16), s17, s18, s19, .val (.int i20), .val (.int (own_fit Rm q j8 N_o16)), .unset] [(.long (Rm 1))])) _
  refine XS.lloadN X7.here hx rfl (hb hby at_266) rfl ?_
  show Steps p.tables e below (T7.setTop (mkF m 267 #[.val (.long j0), .second, .val (.long j2), .second, .val (.long j4), .second, .val (.long j6), .second, .val (.long j8), .second, s10, .val (.ref o11), s12, s13, s14, s15, .val (.ref o16), s17, s18, s19, .val (.int i20), .val (.int (own_fit Rm q j8 N_o16)), .unset] [(.long j2), (.long (Rm 1))])) _
  refine XS.lcmp X7.here hx rfl (hb hby at_267) rfl ?_
  show Steps p.tables e below (T7.setTop (mkF m 268 #[.val (.long j0), .second, .val (.long j2), .second, .val (.long j4), .second, .val (.long j6), .second, .val (.long j8), .second, s10, .val (.ref o11), s12, s13, s14, s15, .val (.ref o16), s17, s18, s19, .val (.int i20), .val (.int (own_fit Rm q j8 N_o16)), .unset] [(.int (lcmpW (Rm 1) j2))])) _
  refine XS.ifNo X7.here hx rfl (hb hby at_268) rfl ((if0 _ _).trans (teq hc268).2) ?_
  show Steps p.tables e below (T7.setTop (mkF m 271 #[.val (.long j0), .second, .val (.long j2), .second, .val (.long j4), .second, .val (.long j6), .second, .val (.long j8), .second, s10, .val (.ref o11), s12, s13, s14, s15, .val (.ref o16), s17, s18, s19, .val (.int i20), .val (.int (own_fit Rm q j8 N_o16)), .unset] [])) _
  refine XS.aload X7.here hx rfl (hb hby at_271) rfl rfl ?_
  show Steps p.tables e below (T7.setTop (mkF m 273 #[.val (.long j0), .second, .val (.long j2), .second, .val (.long j4), .second, .val (.long j6), .second, .val (.long j8), .second, s10, .val (.ref o11), s12, s13, s14, s15, .val (.ref o16), s17, s18, s19, .val (.int i20), .val (.int (own_fit Rm q j8 N_o16)), .unset] [(.ref o11)])) _
  refine XS.iconst X7.here hx rfl (hb hby at_273) ?_
  show Steps p.tables e below (T7.setTop (mkF m 274 #[.val (.long j0), .second, .val (.long j2), .second, .val (.long j4), .second, .val (.long j6), .second, .val (.long j8), .second, s10, .val (.ref o11), s12, s13, s14, s15, .val (.ref o16), s17, s18, s19, .val (.int i20), .val (.int (own_fit Rm q j8 N_o16)), .unset] [(.int (2 : Int32)), (.ref o11)])) _
  refine X7.laload hx (j := (2 : Int32)) (v := (.long (Rm 2))) Ar_274.1 (State.isArrayOf_alike hZ.alike Ar_274.2.1) Ar_274.2.2 hin274 hat274 (g := (mkF m 274 #[.val (.long j0), .second, .val (.long j2), .second, .val (.long j4), .second, .val (.long j6), .second, .val (.long j8), .second, s10, .val (.ref o11), s12, s13, s14, s15, .val (.ref o16), s17, s18, s19, .val (.int i20), .val (.int (own_fit Rm q j8 N_o16)), .unset] [(.int (2 : Int32)), (.ref o11)])) rfl rfl (hb hby at_274) _ ?_
  show Steps p.tables e below (T7.setTop (mkF m 275 #[.val (.long j0), .second, .val (.long j2), .second, .val (.long j4), .second, .val (.long j6), .second, .val (.long j8), .second, s10, .val (.ref o11), s12, s13, s14, s15, .val (.ref o16), s17, s18, s19, .val (.int i20), .val (.int (own_fit Rm q j8 N_o16)), .unset] [(.long (Rm 2))])) _
  refine XS.lload X7.here hx rfl (hb hby at_275) rfl ?_
  show Steps p.tables e below (T7.setTop (mkF m 277 #[.val (.long j0), .second, .val (.long j2), .second, .val (.long j4), .second, .val (.long j6), .second, .val (.long j8), .second, s10, .val (.ref o11), s12, s13, s14, s15, .val (.ref o16), s17, s18, s19, .val (.int i20), .val (.int (own_fit Rm q j8 N_o16)), .unset] [(.long j4), (.long (Rm 2))])) _
  refine XS.lcmp X7.here hx rfl (hb hby at_277) rfl ?_
  show Steps p.tables e below (T7.setTop (mkF m 278 #[.val (.long j0), .second, .val (.long j2), .second, .val (.long j4), .second, .val (.long j6), .second, .val (.long j8), .second, s10, .val (.ref o11), s12, s13, s14, s15, .val (.ref o16), s17, s18, s19, .val (.int i20), .val (.int (own_fit Rm q j8 N_o16)), .unset] [(.int (lcmpW (Rm 2) j4))])) _
  refine XS.ifNo X7.here hx rfl (hb hby at_278) rfl ((if0 _ _).trans (teq hc278).2) ?_
  show Steps p.tables e below (T7.setTop (mkF m 281 #[.val (.long j0), .second, .val (.long j2), .second, .val (.long j4), .second, .val (.long j6), .second, .val (.long j8), .second, s10, .val (.ref o11), s12, s13, s14, s15, .val (.ref o16), s17, s18, s19, .val (.int i20), .val (.int (own_fit Rm q j8 N_o16)), .unset] [])) _
  refine XS.aload X7.here hx rfl (hb hby at_281) rfl rfl ?_
  show Steps p.tables e below (T7.setTop (mkF m 283 #[.val (.long j0), .second, .val (.long j2), .second, .val (.long j4), .second, .val (.long j6), .second, .val (.long j8), .second, s10, .val (.ref o11), s12, s13, s14, s15, .val (.ref o16), s17, s18, s19, .val (.int i20), .val (.int (own_fit Rm q j8 N_o16)), .unset] [(.ref o11)])) _
  refine XS.iconst X7.here hx rfl (hb hby at_283) ?_
  show Steps p.tables e below (T7.setTop (mkF m 284 #[.val (.long j0), .second, .val (.long j2), .second, .val (.long j4), .second, .val (.long j6), .second, .val (.long j8), .second, s10, .val (.ref o11), s12, s13, s14, s15, .val (.ref o16), s17, s18, s19, .val (.int i20), .val (.int (own_fit Rm q j8 N_o16)), .unset] [(.int (3 : Int32)), (.ref o11)])) _
  refine X7.laload hx (j := (3 : Int32)) (v := (.long (Rm 3))) Ar_284.1 (State.isArrayOf_alike hZ.alike Ar_284.2.1) Ar_284.2.2 hin284 hat284 (g := (mkF m 284 #[.val (.long j0), .second, .val (.long j2), .second, .val (.long j4), .second, .val (.long j6), .second, .val (.long j8), .second, s10, .val (.ref o11), s12, s13, s14, s15, .val (.ref o16), s17, s18, s19, .val (.int i20), .val (.int (own_fit Rm q j8 N_o16)), .unset] [(.int (3 : Int32)), (.ref o11)])) rfl rfl (hb hby at_284) _ ?_
  show Steps p.tables e below (T7.setTop (mkF m 285 #[.val (.long j0), .second, .val (.long j2), .second, .val (.long j4), .second, .val (.long j6), .second, .val (.long j8), .second, s10, .val (.ref o11), s12, s13, s14, s15, .val (.ref o16), s17, s18, s19, .val (.int i20), .val (.int (own_fit Rm q j8 N_o16)), .unset] [(.long (Rm 3))])) _
  refine XS.lload X7.here hx rfl (hb hby at_285) rfl ?_
  show Steps p.tables e below (T7.setTop (mkF m 287 #[.val (.long j0), .second, .val (.long j2), .second, .val (.long j4), .second, .val (.long j6), .second, .val (.long j8), .second, s10, .val (.ref o11), s12, s13, s14, s15, .val (.ref o16), s17, s18, s19, .val (.int i20), .val (.int (own_fit Rm q j8 N_o16)), .unset] [(.long j6), (.long (Rm 3))])) _
  refine XS.lcmp X7.here hx rfl (hb hby at_287) rfl ?_
  show Steps p.tables e below (T7.setTop (mkF m 288 #[.val (.long j0), .second, .val (.long j2), .second, .val (.long j4), .second, .val (.long j6), .second, .val (.long j8), .second, s10, .val (.ref o11), s12, s13, s14, s15, .val (.ref o16), s17, s18, s19, .val (.int i20), .val (.int (own_fit Rm q j8 N_o16)), .unset] [(.int (lcmpW (Rm 3) j6))])) _
  refine XS.ifNo X7.here hx rfl (hb hby at_288) rfl ((if0 _ _).trans (teq hc288).2) ?_
  show Steps p.tables e below (T7.setTop (mkF m 291 #[.val (.long j0), .second, .val (.long j2), .second, .val (.long j4), .second, .val (.long j6), .second, .val (.long j8), .second, s10, .val (.ref o11), s12, s13, s14, s15, .val (.ref o16), s17, s18, s19, .val (.int i20), .val (.int (own_fit Rm q j8 N_o16)), .unset] [])) _
  refine XS.iconst X7.here hx rfl (hb hby at_291) ?_
  show Steps p.tables e below (T7.setTop (mkF m 292 #[.val (.long j0), .second, .val (.long j2), .second, .val (.long j4), .second, .val (.long j6), .second, .val (.long j8), .second, s10, .val (.ref o11), s12, s13, s14, s15, .val (.ref o16), s17, s18, s19, .val (.int i20), .val (.int (own_fit Rm q j8 N_o16)), .unset] [(.int (1 : Int32))])) _
  refine XS.goto X7.here hx rfl (pc0 := 292) (pc' := 296) rfl (hb hby at_292) (by decide) (by decide) ?_
  show Steps p.tables e below (T7.setTop (mkF m 296 #[.val (.long j0), .second, .val (.long j2), .second, .val (.long j4), .second, .val (.long j6), .second, .val (.long j8), .second, s10, .val (.ref o11), s12, s13, s14, s15, .val (.ref o16), s17, s18, s19, .val (.int i20), .val (.int (own_fit Rm q j8 N_o16)), .unset] [(.int (1 : Int32))])) _
  refine XS.istore X7.here hx rfl (hb hby at_296) rfl (l' := #[.val (.long j0), .second, .val (.long j2), .second, .val (.long j4), .second, .val (.long j6), .second, .val (.long j8), .second, s10, .val (.ref o11), s12, s13, s14, s15, .val (.ref o16), s17, s18, s19, .val (.int i20), .val (.int (own_fit Rm q j8 N_o16)), .val (.int (1 : Int32))]) rfl ?_
  show Steps p.tables e below (T7.setTop (mkF m 298 #[.val (.long j0), .second, .val (.long j2), .second, .val (.long j4), .second, .val (.long j6), .second, .val (.long j8), .second, s10, .val (.ref o11), s12, s13, s14, s15, .val (.ref o16), s17, s18, s19, .val (.int i20), .val (.int (own_fit Rm q j8 N_o16)), .val (.int (1 : Int32))] [])) _
  refine XS.iload X7.here hx rfl (hb hby at_298) rfl ?_
  show Steps p.tables e below (T7.setTop (mkF m 300 #[.val (.long j0), .second, .val (.long j2), .second, .val (.long j4), .second, .val (.long j6), .second, .val (.long j8), .second, s10, .val (.ref o11), s12, s13, s14, s15, .val (.ref o16), s17, s18, s19, .val (.int i20), .val (.int (own_fit Rm q j8 N_o16)), .val (.int (1 : Int32))] [(.int (own_fit Rm q j8 N_o16))])) _
  refine XS.iload X7.here hx rfl (hb hby at_300) rfl ?_
  show Steps p.tables e below (T7.setTop (mkF m 302 #[.val (.long j0), .second, .val (.long j2), .second, .val (.long j4), .second, .val (.long j6), .second, .val (.long j8), .second, s10, .val (.ref o11), s12, s13, s14, s15, .val (.ref o16), s17, s18, s19, .val (.int i20), .val (.int (own_fit Rm q j8 N_o16)), .val (.int (1 : Int32))] [(.int i20), (.int (own_fit Rm q j8 N_o16))])) _
  refine XS.icmpNo X7.here hx rfl (hb hby at_302) rfl (teq (hfit : (own_fit Rm q j8 N_o16) = i20)).2 ?_
  show Steps p.tables e below (T7.setTop (mkF m 305 #[.val (.long j0), .second, .val (.long j2), .second, .val (.long j4), .second, .val (.long j6), .second, .val (.long j8), .second, s10, .val (.ref o11), s12, s13, s14, s15, .val (.ref o16), s17, s18, s19, .val (.int i20), .val (.int (own_fit Rm q j8 N_o16)), .val (.int (1 : Int32))] [])) _
  refine XS.iload X7.here hx rfl (hb hby at_305) rfl ?_
  show Steps p.tables e below (T7.setTop (mkF m 307 #[.val (.long j0), .second, .val (.long j2), .second, .val (.long j4), .second, .val (.long j6), .second, .val (.long j8), .second, s10, .val (.ref o11), s12, s13, s14, s15, .val (.ref o16), s17, s18, s19, .val (.int i20), .val (.int (own_fit Rm q j8 N_o16)), .val (.int (1 : Int32))] [(.int (1 : Int32))])) _
  refine XS.ifNo X7.here hx rfl (hb hby at_307) rfl ((if0 _ _).trans (feq hc307).1) ?_
  show Steps p.tables e below (T7.setTop (mkF m 310 #[.val (.long j0), .second, .val (.long j2), .second, .val (.long j4), .second, .val (.long j6), .second, .val (.long j8), .second, s10, .val (.ref o11), s12, s13, s14, s15, .val (.ref o16), s17, s18, s19, .val (.int i20), .val (.int (own_fit Rm q j8 N_o16)), .val (.int (1 : Int32))] [])) _
  refine XS.iconst X7.here hx rfl (hb hby at_310) ?_
  show Steps p.tables e below (T7.setTop (mkF m 311 #[.val (.long j0), .second, .val (.long j2), .second, .val (.long j4), .second, .val (.long j6), .second, .val (.long j8), .second, s10, .val (.ref o11), s12, s13, s14, s15, .val (.ref o16), s17, s18, s19, .val (.int i20), .val (.int (own_fit Rm q j8 N_o16)), .val (.int (1 : Int32))] [(.int (1 : Int32))])) _
  refine XS.goto X7.here hx rfl (pc0 := 311) (pc' := 315) rfl (hb hby at_311) (by decide) (by decide) ?_
  exact kt
def own_q (k0 k1 k2 : Nat) : Nat → Nat
  | 0 => k0
  | 1 => k1
  | _ => k2
theorem own_fin {i12 i13 i14 i15 : Int32} {N k0 k1 k2 : Nat} (hN : N ≤ 3) (x12 : own_ix i12 N) (x13 : own_ix i13 k0) (x14 : own_ix i14 k1) (x15 : own_ix i15 k2) (h0 : k0 ≤ 3) (h1 : k1 ≤ 3) (h2 : k2 ≤ 3) (r0 r1 r2 r3 dm : Int64) :
    own_fit (own_rm r0 r1 r2 r3) (own_q k0 k1 k2) dm N = own_and3 (own_ok i12 (1 : Int32) (own_pick i13 r0 r1 r2 r3) dm) (own_ok i12 (2 : Int32) (own_pick i14 r0 r1 r2 r3) dm) (own_ok i12 (3 : Int32) (own_pick i15 r0 r1 r2 r3) dm) := by
  rw [own_pick_rm x13 h0, own_pick_rm x14 h1, own_pick_rm x15 h2]
  have l1 := own_ixlt x12 (show own_ix (1 : Int32) 1 from rfl)
  have l2 := own_ixlt x12 (show own_ix (2 : Int32) 2 from rfl)
  have l3 := own_ixlt x12 (show own_ix (3 : Int32) 3 from rfl)
  generalize own_rm r0 r1 r2 r3 = Rm
  obtain rfl | rfl | rfl | rfl : N = 0 ∨ N = 1 ∨ N = 2 ∨ N = 3 := by omega
  · simp [own_fit, own_ok, own_and3, l1, l2, l3]
  · by_cases b0 : lcmpW (Rm k0) dm < 0 <;> simp [own_fit, own_ok, own_and3, own_q, l1, l2, l3, b0]
  · by_cases b0 : lcmpW (Rm k0) dm < 0 <;> by_cases b1 : lcmpW (Rm k1) dm < 0 <;> simp [own_fit, own_ok, own_and3, own_q, l1, l2, l3, b0, b1]
  · by_cases b0 : lcmpW (Rm k0) dm < 0 <;> by_cases b1 : lcmpW (Rm k1) dm < 0 <;> by_cases b2 : lcmpW (Rm k2) dm < 0 <;> simp [own_fit, own_ok, own_and3, own_q, l1, l2, l3, b0, b1, b2]
theorem tail130 {p : Program} {l : Launch} {e : Env} {s : State} {m : MethodId} {args : Array Value} {below : List Frame} {meth : Method} {c : Code} {locs : List Loc} {cells slots : Nat} {Z : State} {a0 : Array Value} {h0 : Heap} {T0 : State} (j0 j2 j4 j6 j8 : Int64) (s10 : Slot) (o11 : Addr) (i12 i13 i14 i15 : Int32) (o16 : Addr) (n0 N k0 k1 k2 : Nat) (f g : Nat → Value) (X0 : Stand p l e room_1 s m args below meth c T0 locs cells slots) (hx : p.tables.exec = Jvm.exec) (hZ : Z.Warmed39 s.vm) (hw : ∀ d ∈ tables_1, d.before a0 Z = true) (hby : c.code = code) (hml : c.maxLocals = 23) (hown : s.vm.findClass "com/example/sluice/sluice/NetworkFitsPinLaw" = some m.cls) (e0 : T0.heap = h0) (Z0 : n0 ≤ h0.size) (N0 : Fr n0 locs) (hcl : cells ≤ 16) (hsl : slots ≤ 128)
    (hN : N ≤ 3) (x12 : own_ix i12 N) (x13 : own_ix i13 k0) (x14 : own_ix i14 k1) (x15 : own_ix i15 k2) (h0' : k0 ≤ 3) (h1' : k1 ≤ 3) (h2' : k2 ≤ 3) (V11 : Ary Z h0 o11 .long 4 f) (V16 : Ary Z h0 o16 .int N g) (hf0 : f 0 = .long j0) (hf1 : f 1 = .long j2) (hf2 : f 2 = .long j4) (hf3 : f 3 = .long j6) (hg0 : 0 < N → g 0 = .int i13) (hg1 : 1 < N → g 1 = .int i14) (hg2 : 2 < N → g 2 = .int i15) :
    ∃ (T' : State) (locs' : List Loc) (Ls : Array Slot), Stand p l e room_1 s m args below meth c T' locs' cells slots ∧ Fr n0 locs' ∧ ∀ target, Steps p.tables e below (T'.setTop (mkF m 315 Ls [(.int (1 : Int32))])) target → Steps p.tables e below (T0.setTop (mkF m 130 #[.val (.long j0), .second, .val (.long j2), .second, .val (.long j4), .second, .val (.long j6), .second, .val (.long j8), .second, s10, .val (.ref o11), .val (.int i12), .val (.int i13), .val (.int i14), .val (.int i15), .val (.ref o16), .unset, .unset, .unset, .unset, .unset, .unset] [])) target := by
  obtain ⟨T1, h1, L1, X1, e1, N1, q1, st1⟩ := okm0 j0 j2 j4 j6 j8 s10 (.val (.ref o11)) i12 i13 (.val (.int i14)) (.val (.int i15)) (.val (.ref o16)) n0 X0 hx hZ hw hby hml hown e0 Z0 N0 hcl hsl
  subst q1
  obtain ⟨T2, h2, L2, X2, e2, N2, q2, st2⟩ := okm1 j0 j2 j4 j6 j8 s10 (.val (.ref o11)) i12 (.val (.int i13)) i14 (.val (.int i15)) (.val (.ref o16)) (.val (.int (own_ok i12 (1 : Int32) (own_pick i13 j0 j2 j4 j6) j8))) n0 X1 hx hZ hw hby hml hown e1 Z0 N1 hcl hsl
  subst q2
  obtain ⟨T3, h3, L3, X3, e3, N3, q3, st3⟩ := okm2 j0 j2 j4 j6 j8 s10 (.val (.ref o11)) i12 (.val (.int i13)) (.val (.int i14)) i15 (.val (.ref o16)) (.val (.int (own_ok i12 (1 : Int32) (own_pick i13 j0 j2 j4 j6) j8))) (.val (.int (own_ok i12 (2 : Int32) (own_pick i14 j0 j2 j4 j6) j8))) n0 X2 hx hZ hw hby hml hown e2 Z0 N2 hcl hsl
  subst q3
  obtain ⟨T4, X4, e4, st4⟩ := andm (.val (.long j0)) .second (.val (.long j2)) .second (.val (.long j4)) .second (.val (.long j6)) .second (.val (.long j8)) .second s10 (.val (.ref o11)) (.val (.int i12)) (.val (.int i13)) (.val (.int i14)) (.val (.int i15)) (.val (.ref o16)) (own_ok i12 (1 : Int32) (own_pick i13 j0 j2 j4 j6) j8) (own_ok i12 (2 : Int32) (own_pick i14 j0 j2 j4 j6) j8) (own_ok i12 (3 : Int32) (own_pick i15 j0 j2 j4 j6) j8) X3 hx hZ hw hby hml hown e3
  have hq : ∀ j, j < N → own_q k0 k1 k2 j < 4 := fun j hj => by
    obtain rfl | rfl | rfl : j = 0 ∨ j = 1 ∨ j = 2 := by omega
    · show k0 < 4; omega
    · show k1 < 4; omega
    · show k2 < 4; omega
  have hf : ∀ j, j < N → ∃ w, g j = .int w ∧ own_ix w (own_q k0 k1 k2 j) := fun j hj => by
    obtain rfl | rfl | rfl : j = 0 ∨ j = 1 ∨ j = 2 := by omega
    · exact ⟨i13, hg0 hj, x13⟩
    · exact ⟨i14, hg1 hj, x14⟩
    · exact ⟨i15, hg2 hj, x15⟩
  have hg : ∀ k, k < 4 → f k = .long (own_rm j0 j2 j4 j6 k) := fun k hk => by
    obtain rfl | rfl | rfl | rfl : k = 0 ∨ k = 1 ∨ k = 2 ∨ k = 3 := by omega
    · exact hf0
    · exact hf1
    · exact hf2
    · exact hf3
  obtain ⟨T5, h5, L5, X5, e5, N5, st5⟩ := sgE j0 j2 j4 j6 j8 s10 o11 (.val (.int i12)) (.val (.int i13)) (.val (.int i14)) (.val (.int i15)) o16 (.val (.int (own_ok i12 (1 : Int32) (own_pick i13 j0 j2 j4 j6) j8))) (.val (.int (own_ok i12 (2 : Int32) (own_pick i14 j0 j2 j4 j6) j8))) (.val (.int (own_ok i12 (3 : Int32) (own_pick i15 j0 j2 j4 j6) j8))) _ n0 (own_rm j0 j2 j4 j6) (own_q k0 k1 k2) f N g X4 hx hZ hw hby hml hown e4 Z0 N3 hcl hsl (by omega) hq hf hg (own_fin hN x12 x13 x14 x15 h0' h1' h2' j0 j2 j4 j6 j8) V11 V16 (own_lc2 rfl) (own_lc2 rfl) (own_lc2 rfl) (own_lc2 rfl) (by decide)
  exact ⟨T5, L5, _, X5, N5, fun target kt => st1 target (st2 target (st3 target (st4 target (st5 target kt))))⟩
theorem pn_0 : plainName "com/example/sluice/sluice/NetworkFitsPinLaw" = true := by first | (simp [plainName, overriddenIn]; done) | decide +kernel
theorem ef_0 (m : MethodId) (x0 : Int64) (x1 : Int64) (x2 : Int64) (x3 : Int64) (x4 : Int64) (x5 : Int32) : entryFrame m #[(.long x0), (.long x1), (.long x2), (.long x3), (.long x4), (.int x5)] maxLocals = mkF m 0 #[.val (.long x0), .second, .val (.long x1), .second, .val (.long x2), .second, .val (.long x3), .second, .val (.long x4), .second, .val (.int x5), .unset, .unset, .unset, .unset, .unset, .unset, .unset, .unset, .unset, .unset, .unset, .unset] [] := by first | (simp [entryFrame, mkF, argsToLocals, Value.category, maxLocals]; done) | rfl
def Q0 (Z : State) (q1 : Int64) (q2 : Int64) (q3 : Int64) (q4 : Int64) (q5 : Int64) (p6 : Int32) (h0 : Heap) (n0 : Nat) (v : Option Value) (h : Heap) (L : List Loc) : Prop := v = some (.int (1 : Int32)) ∧ Fr n0 L
set_option maxRecDepth 65536 in
set_option maxHeartbeats 40000000 in
theorem rm0 (l : Launch) (Z : State) (a0 : Array Value) (hw : ∀ d ∈ tables_1, d.before a0 Z = true) (ws : List Jvm.Cond) (q1 : Int64) (q2 : Int64) (q3 : Int64) (q4 : Int64) (q5 : Int64) (p6 : Int32) (h0 : Heap) (n0 : Nat) (Z0 : n0 ≤ h0.size) :
    MetFree l x (head1 (Jvm.Cond.code x code maxLocals ret :: ws) room_1) (fun a U => a = #[(.long q1), (.long q2), (.long q3), (.long q4), (.long q5), (.int p6)] ∧ Z.Warmed39 U.vm ∧ U.heap = h0) (fun _ _ _ _ _ => True) (fun _ U o U' => ∃ v L, o = .returned v ∧ Q0 Z q1 q2 q3 q4 q5 p6 h0 n0 v U'.heap L ∧ FrameEnd U o U' L room_1.cells room_1.slots) := by
  refine MetFree.of_bodySF (plainFor_of_name pn_0) hisR ?_
  intro p e s m args below meth c s₁ Bd hml0 hP hK
  obtain ⟨rfl, hZ, hh⟩ := hP
  have hx := Bd.exec
  have hby := Bd.bytes
  have hml : c.maxLocals = 23 := hml0
  have hown : s.vm.findClass "com/example/sluice/sluice/NetworkFitsPinLaw" = some m.cls := findClass_of_methodNamed Bd.named
  have hnm := (name_of_methodNamed Bd.named Bd.method).1
  have X0 : Stand p l e room_1 s m #[(.long q1), (.long q2), (.long q3), (.long q4), (.long q5), (.int p6)] below meth c s₁ [] 0 0 := Stand.of_body Bd
  have e0 : s₁.heap = h0 := by rw [← hh, Bd.state]; rfl
  have N0 := Fr.nil n0
  have pre0 : ∀ t, Steps p.tables e below (s₁.setTop (mkF m 0 #[.val (.long q1), .second, .val (.long q2), .second, .val (.long q3), .second, .val (.long q4), .second, .val (.long q5), .second, .val (.int p6), .unset, .unset, .unset, .unset, .unset, .unset, .unset, .unset, .unset, .unset, .unset, .unset] [])) t → Steps p.tables e below (s₁.setTop (entryFrame m #[(.long q1), (.long q2), (.long q3), (.long q4), (.long q5), (.int p6)] maxLocals)) t := fun t k => castTop (ef_0 m q1 q2 q3 q4 q5 p6) k
  obtain ⟨T1, h1, L1, b, f, X1, e1, N1, gb, V1, f0, f1, f2, f3, Z1, st1⟩ := sgA q1 q2 q3 q4 q5 p6 n0 X0 hx hZ hw hby hml hown e0 Z0 N0
  obtain ⟨N, hN, x12⟩ := own_mask3 p6
  obtain ⟨k0, hk0, x13⟩ := own_mask3 ((p6.toUInt32 >>> ((2 : Int32) &&& 31).toUInt32).toInt32)
  obtain ⟨k1, hk1, x14⟩ := own_mask3 ((p6.toUInt32 >>> ((4 : Int32) &&& 31).toUInt32).toInt32)
  obtain ⟨k2, hk2, x15⟩ := own_mask3 ((p6.toUInt32 >>> ((6 : Int32) &&& 31).toUInt32).toInt32)
  have hfin : ∃ (T' : State) (locs' : List Loc) (Ls : Array Slot) (cells slots : Nat), Stand p l e room_1 s m #[(.long q1), (.long q2), (.long q3), (.long q4), (.long q5), (.int p6)] below meth c T' locs' cells slots ∧ Fr n0 locs' ∧ cells ≤ 16 ∧ slots ≤ 128 ∧ ∀ target, Steps p.tables e below (T'.setTop (mkF m 315 Ls [(.int (1 : Int32))])) target → Steps p.tables e below (s₁.setTop (mkF m 0 #[.val (.long q1), .second, .val (.long q2), .second, .val (.long q3), .second, .val (.long q4), .second, .val (.long q5), .second, .val (.int p6), .unset, .unset, .unset, .unset, .unset, .unset, .unset, .unset, .unset, .unset, .unset, .unset] [])) target := by
    obtain rfl | rfl | rfl | rfl : N = 0 ∨ N = 1 ∨ N = 2 ∨ N = 3 := by omega
    · obtain ⟨T2, h2, L2, b2, g, X2, e2, N2, V2, U2, Z2, st2⟩ := sgB0 (.val (.long q1)) .second (.val (.long q2)) .second (.val (.long q3)) .second (.val (.long q4)) .second (.val (.long q5)) .second (.val (.int p6)) b (p6 &&& (3 : Int32)) (.val (.int (((p6.toUInt32 >>> ((2 : Int32) &&& 31).toUInt32).toInt32) &&& (3 : Int32)))) (.val (.int (((p6.toUInt32 >>> ((4 : Int32) &&& 31).toUInt32).toInt32) &&& (3 : Int32)))) (.val (.int (((p6.toUInt32 >>> ((6 : Int32) &&& 31).toUInt32).toInt32) &&& (3 : Int32)))) n0 f X1 hx hZ hw hby hml hown e1 Z1 N1 V1 ((own_ixeq x12 (show own_ix (0 : Int32) 0 from rfl)).mpr rfl)
      obtain ⟨T3, L3, Ls, X3, N3, st3⟩ := tail130 q1 q2 q3 q4 q5 (.val (.int p6)) b (p6 &&& (3 : Int32)) (((p6.toUInt32 >>> ((2 : Int32) &&& 31).toUInt32).toInt32) &&& (3 : Int32)) (((p6.toUInt32 >>> ((4 : Int32) &&& 31).toUInt32).toInt32) &&& (3 : Int32)) (((p6.toUInt32 >>> ((6 : Int32) &&& 31).toUInt32).toInt32) &&& (3 : Int32)) b2 n0 0 k0 k1 k2 f g X2 hx hZ hw hby hml hown e2 Z2 N2 (by decide) (by decide) (by decide) x12 x13 x14 x15 hk0 hk1 hk2 V2 U2 f0 f1 f2 f3 (fun h => absurd h (by decide)) (fun h => absurd h (by decide)) (fun h => absurd h (by decide))
      exact ⟨T3, L3, Ls, _, _, X3, N3, by decide, by decide, fun t k => st1 t (st2 t (st3 t k))⟩
    · obtain ⟨T2, h2, L2, b2, g, X2, e2, N2, V2, U2, d0, Z2, st2⟩ := sgB1 (.val (.long q1)) .second (.val (.long q2)) .second (.val (.long q3)) .second (.val (.long q4)) .second (.val (.long q5)) .second (.val (.int p6)) b (p6 &&& (3 : Int32)) (((p6.toUInt32 >>> ((2 : Int32) &&& 31).toUInt32).toInt32) &&& (3 : Int32)) (.val (.int (((p6.toUInt32 >>> ((4 : Int32) &&& 31).toUInt32).toInt32) &&& (3 : Int32)))) (.val (.int (((p6.toUInt32 >>> ((6 : Int32) &&& 31).toUInt32).toInt32) &&& (3 : Int32)))) n0 f X1 hx hZ hw hby hml hown e1 Z1 N1 V1 (fun q => by have := (own_ixeq x12 (show own_ix (0 : Int32) 0 from rfl)).mp q; omega) ((own_ixeq x12 (show own_ix (1 : Int32) 1 from rfl)).mpr rfl)
      obtain ⟨T3, L3, Ls, X3, N3, st3⟩ := tail130 q1 q2 q3 q4 q5 (.val (.int p6)) b (p6 &&& (3 : Int32)) (((p6.toUInt32 >>> ((2 : Int32) &&& 31).toUInt32).toInt32) &&& (3 : Int32)) (((p6.toUInt32 >>> ((4 : Int32) &&& 31).toUInt32).toInt32) &&& (3 : Int32)) (((p6.toUInt32 >>> ((6 : Int32) &&& 31).toUInt32).toInt32) &&& (3 : Int32)) b2 n0 1 k0 k1 k2 f g X2 hx hZ hw hby hml hown e2 Z2 N2 (by decide) (by decide) (by decide) x12 x13 x14 x15 hk0 hk1 hk2 V2 U2 f0 f1 f2 f3 (fun _ => d0) (fun h => absurd h (by decide)) (fun h => absurd h (by decide))
      exact ⟨T3, L3, Ls, _, _, X3, N3, by decide, by decide, fun t k => st1 t (st2 t (st3 t k))⟩
    · obtain ⟨T2, h2, L2, b2, g, X2, e2, N2, V2, U2, d0, d1, Z2, st2⟩ := sgB2 (.val (.long q1)) .second (.val (.long q2)) .second (.val (.long q3)) .second (.val (.long q4)) .second (.val (.long q5)) .second (.val (.int p6)) b (p6 &&& (3 : Int32)) (((p6.toUInt32 >>> ((2 : Int32) &&& 31).toUInt32).toInt32) &&& (3 : Int32)) (((p6.toUInt32 >>> ((4 : Int32) &&& 31).toUInt32).toInt32) &&& (3 : Int32)) (.val (.int (((p6.toUInt32 >>> ((6 : Int32) &&& 31).toUInt32).toInt32) &&& (3 : Int32)))) n0 f X1 hx hZ hw hby hml hown e1 Z1 N1 V1 (fun q => by have := (own_ixeq x12 (show own_ix (0 : Int32) 0 from rfl)).mp q; omega) (fun q => by have := (own_ixeq x12 (show own_ix (1 : Int32) 1 from rfl)).mp q; omega) ((own_ixeq x12 (show own_ix (2 : Int32) 2 from rfl)).mpr rfl)
      obtain ⟨T3, L3, Ls, X3, N3, st3⟩ := tail130 q1 q2 q3 q4 q5 (.val (.int p6)) b (p6 &&& (3 : Int32)) (((p6.toUInt32 >>> ((2 : Int32) &&& 31).toUInt32).toInt32) &&& (3 : Int32)) (((p6.toUInt32 >>> ((4 : Int32) &&& 31).toUInt32).toInt32) &&& (3 : Int32)) (((p6.toUInt32 >>> ((6 : Int32) &&& 31).toUInt32).toInt32) &&& (3 : Int32)) b2 n0 2 k0 k1 k2 f g X2 hx hZ hw hby hml hown e2 Z2 N2 (by decide) (by decide) (by decide) x12 x13 x14 x15 hk0 hk1 hk2 V2 U2 f0 f1 f2 f3 (fun _ => d0) (fun _ => d1) (fun h => absurd h (by decide))
      exact ⟨T3, L3, Ls, _, _, X3, N3, by decide, by decide, fun t k => st1 t (st2 t (st3 t k))⟩
    · obtain ⟨T2, h2, L2, b2, g, X2, e2, N2, V2, U2, d0, d1, d2, Z2, st2⟩ := sgB3 (.val (.long q1)) .second (.val (.long q2)) .second (.val (.long q3)) .second (.val (.long q4)) .second (.val (.long q5)) .second (.val (.int p6)) b (p6 &&& (3 : Int32)) (((p6.toUInt32 >>> ((2 : Int32) &&& 31).toUInt32).toInt32) &&& (3 : Int32)) (((p6.toUInt32 >>> ((4 : Int32) &&& 31).toUInt32).toInt32) &&& (3 : Int32)) (((p6.toUInt32 >>> ((6 : Int32) &&& 31).toUInt32).toInt32) &&& (3 : Int32)) n0 f X1 hx hZ hw hby hml hown e1 Z1 N1 V1 (fun q => by have := (own_ixeq x12 (show own_ix (0 : Int32) 0 from rfl)).mp q; omega) (fun q => by have := (own_ixeq x12 (show own_ix (1 : Int32) 1 from rfl)).mp q; omega) (fun q => by have := (own_ixeq x12 (show own_ix (2 : Int32) 2 from rfl)).mp q; omega)
      obtain ⟨T3, L3, Ls, X3, N3, st3⟩ := tail130 q1 q2 q3 q4 q5 (.val (.int p6)) b (p6 &&& (3 : Int32)) (((p6.toUInt32 >>> ((2 : Int32) &&& 31).toUInt32).toInt32) &&& (3 : Int32)) (((p6.toUInt32 >>> ((4 : Int32) &&& 31).toUInt32).toInt32) &&& (3 : Int32)) (((p6.toUInt32 >>> ((6 : Int32) &&& 31).toUInt32).toInt32) &&& (3 : Int32)) b2 n0 3 k0 k1 k2 f g X2 hx hZ hw hby hml hown e2 Z2 N2 (by decide) (by decide) (by decide) x12 x13 x14 x15 hk0 hk1 hk2 V2 U2 f0 f1 f2 f3 (fun _ => d0) (fun _ => d1) (fun _ => d2)
      exact ⟨T3, L3, Ls, _, _, X3, N3, by decide, by decide, fun t k => st1 t (st2 t (st3 t k))⟩
  obtain ⟨T5, L5, Ls, cl, sl, X5, N5, hcl, hsl, st5⟩ := hfin
  obtain ⟨fs, hr, hrun, hended, hW, hsame⟩ := X5.leave (v := some (.int (1 : Int32))) (fun h => by rw [Bd.returns] at h; cases h)
  refine ⟨_, _, pre0 _ ?_, hrun, hended, _, _, rfl, ?_, ⟨_, rfl⟩, hW, hsame.mono hcl hsl⟩
  · refine st5 _ ?_
    exact retN X5 hx (t := .boolean) Bd.returns (by simp) (hb hby at_315) hr
  · exact ⟨rfl, N5⟩
set_option maxRecDepth 65536 in
set_option maxHeartbeats 40000000 in
theorem comes_1 {Post : Tables → Env → Array Value → State → Outcome → State → Prop} (hpost : ∀ tb e args s v u, (limb_1_1.after args s (.returned v) u = true ∧ limb_1_2.after args s (.returned v) u = true ∧ True) → FrameEnd s (.returned v) u (Jvm.fieldLocs frame_1_writes args s ++ Jvm.arrayLocs frame_1_arrays args s ++ Jvm.staticLocs frame_1_statics s) 16 128 → Post tb e args s (.returned v) u) :
    ArmFor flags0 classFile x code maxLocals ret World_1 tables_1 room_1 Calls_1 rest_1 Pre_1 Post := by
  intro l hfl _ _ p e ha hc hk s m args below hf hA hF happ hP
  obtain ⟨hcalls, hrest, hpre⟩ := hP
  obtain ⟨-, -, -, hnamed, -, -, -, hat⟩ := (Spec.applies_iff hf).mp happ
  obtain ⟨hg, hn⟩ := and_e (Cond.before_iff.mp (show (Jvm.Cond.and given_1 narrow_1).before args s = true from hpre))
  obtain ⟨g14, g15⟩ := and_e hg
  obtain ⟨g16, g17⟩ := and_e g15
  obtain ⟨g18, g19⟩ := and_e g17
  obtain ⟨g20, g21⟩ := and_e g19
  obtain ⟨g22, g23⟩ := and_e g21
  obtain ⟨g24, g25⟩ := and_e g23
  obtain ⟨w0, w1, w2, w3, w4, w5, rfl⟩ : ∃ w0 w1 w2 w3 w4 w5 : Value, args = #[w0, w1, w2, w3, w4, w5] := by
    have hs : args.size = 6 := by simpa [Cond.value, given_1] using g14
    obtain ⟨L⟩ := args
    match L, hs with
    | [w0, w1, w2, w3, w4, w5], _ => exact ⟨w0, w1, w2, w3, w4, w5, rfl⟩
  have hw := fun d (hd : d ∈ tables_1) => atoms_spec (ws := Jvm.Cond.code x code maxLocals ret :: tables_1) hat d (List.mem_cons_of_mem _ hd)
  have hfit : Fit s := fun {y c} hc i hi => by
    obtain ⟨ha, rfl⟩ := Array.getElem?_eq_some_iff.mp hc
    have q := List.all_eq_true.mp ((Array.all_eq_true_iff_forall_mem.mp hF) _ (Array.getElem_mem ha)) i (List.mem_range.mpr hi)
    simpa [Array.getElem?_eq_getElem hi] using q
  obtain ⟨i0, ei0⟩ := isL_v g16
  obtain rfl : w0 = (.long i0) := Option.some.inj ei0
  obtain ⟨i1, ei1⟩ := isL_v g18
  obtain rfl : w1 = (.long i1) := Option.some.inj ei1
  obtain ⟨i2, ei2⟩ := isL_v g20
  obtain rfl : w2 = (.long i2) := Option.some.inj ei2
  obtain ⟨i3, ei3⟩ := isL_v g22
  obtain rfl : w3 = (.long i3) := Option.some.inj ei3
  obtain ⟨i4, ei4⟩ := isL_v g24
  obtain rfl : w4 = (.long i4) := Option.some.inj ei4
  obtain ⟨i5, ei5⟩ := is_v g25
  obtain rfl : w5 = (.int i5) := Option.some.inj ei5
  obtain ⟨n, o, h1, h2, h3, _, L, rfl, ⟨rfl, N⟩, hq⟩ := rm0 l s _ hw tables_1 i0 i1 i2 i3 i4 i5 s.heap s.heap.size (Nat.le_refl _) p e ha hc hk s m _ below hf ((Spec.applies_iff_loose hf).mp happ).1 ⟨rfl, State.Warmed39.refl s, rfl⟩ trivial
  refine ⟨n, _, h1, h2, h3, hpost _ _ _ _ _ _ ⟨Cond.after_iff.mpr rfl, Cond.after_iff.mpr (eq_i res_at (Term.int_eval (1)) rfl), trivial⟩ ⟨hq.1, hq.2.1, (hq.2.2.sift fun y hy => Or.inr (N y hy)).mono (by decide) (by decide)⟩⟩
theorem main_1_1 : Claimed_1_1 := comes_1 fun _ _ _ _ _ _ h hF => ⟨h.1, hF⟩
theorem main_1_2 : Claimed_1_2 := comes_1 fun _ _ _ _ _ _ h hF => ⟨h.2.1, hF⟩
end Jvm.Pilot.@@N@@
namespace Jvm.Pilot.@@N@@
open Jvm Jvm.ClassFile Sem Op Lib Jvm.Free Jvm.Stand Jvm.Pilot.@@N@@.Jvm.D
/-! MADE BY PROGRAM (witnessworld.py) out of the Statement's table words and the real class files: 11 classes; the members and pool entries that the words name. The judged class is class 1, her method 1. -/
namespace start1
open Jvm.ClassFile
def u (s : String) : CpInfo := .utf8 (stringToUtf16 s)
/-- a pool by its gaps: so many unusable entries, then the entry; so many at the end -/
def gap : Nat → List CpInfo → List CpInfo
  | 0, r => r
  | n + 1, r => .unusable :: gap n r
def poolList (es : List (Nat × CpInfo)) (last : Nat) : List CpInfo := es.foldr (fun e r => gap e.1 (e.2 :: r)) (gap last [])
def pool (es : List (Nat × CpInfo)) (last : Nat) : Array CpInfo := ⟨poolList es last⟩
def fileOf (pool : Array CpInfo) (this : Nat) (attrs : Array Attribute := #[]) (ms : Array MethodInfo := #[]) (fl : Nat := 33) (sup : Nat := 0) (ifs : Array Nat := #[]) (fds : Array FieldInfo := #[]) : ClassFile where
  minorVersion := 0
  majorVersion := 65
  constantPool := pool
  accessFlags := fl
  thisClass := this
  superClass := sup
  interfaces := ifs
  fields := fds
  methods := ms
  attributes := attrs
def plain (name : String) (sup : Option ClassId) : Class where
  name := name
  kind := .ordinary
  loader := none
  accessFlags := 33
  super := sup
  interfaces := #[]
  cf := none
  fields := #[]
  methods := #[]
  instanceTypes := #[]
  staticTypes := #[]
  resolved := #[]
  callSites := []
  init := .initialized
  statics := none
  mirror := none

def pool0 : Array CpInfo := pool [(5, u "<init>"), (0, u "()V"), (1, .class_ 10), (1, u "java/lang/Object")] 113

def k0m0 : Method := { name := "<init>", desc := "()V", sig := { parameters := [], returnType := none }, accessFlags := 1, code := none }
/-- java/lang/Object -/
def k0 : Class := { plain "java/lang/Object" none with
  accessFlags := 33
  interfaces := #[]
  cf := some (fileOf pool0 8 #[] #[{ accessFlags := 1, nameIndex := 5, descriptorIndex := 6, attributes := #[] }] 33 0 #[] #[])
  fields := #[]
  methods := #[k0m0]
  instanceTypes := #[]
  staticTypes := #[]
  resolved := Array.replicate 124 none
  statics := none }

def pool1 : Array CpInfo := pool [(2, .class_ 4), (1, u "java/lang/Object"), (0, u "<init>"), (0, u "()V"), (0, .methodref 8 9), (0, .class_ 10), (0, .nameAndType 11 12), (0, u "com/example/sluice/sluice/NetworkFitsPinLaw"), (0, u "pick"), (0, u "(IJJJJ)J"), (0, .methodref 14 15), (0, .class_ 16), (0, .nameAndType 17 18), (0, u "com/example/sluice/sluice/Network"), (0, u "fits"), (0, u "([I[JJ)Z"), (2, u "law"), (0, u "(JJJJJI)Z")] 7

def k1m0 : Method := { name := "<init>", desc := "()V", sig := { parameters := [], returnType := none }, accessFlags := 1, code := none }
def k1c1 : Code := { maxStack := 9, maxLocals := 23, code := code, exceptionTable := #[], attributes := #[] }
def k1m1 : Method := { name := "law", desc := "(JJJJJI)Z", sig := { parameters := [.long, .long, .long, .long, .long, .int], returnType := some .boolean }, accessFlags := 9, code := some k1c1 }
def k1c2 : Code := { maxStack := 2, maxLocals := 9, code := method_3_code, exceptionTable := #[], attributes := #[] }
def k1m2 : Method := { name := "pick", desc := "(IJJJJ)J", sig := { parameters := [.int, .long, .long, .long, .long], returnType := some .long }, accessFlags := 10, code := some k1c2 }
/-- com/example/sluice/sluice/NetworkFitsPinLaw -/
def k1 : Class := { plain "com/example/sluice/sluice/NetworkFitsPinLaw" (some 0) with
  accessFlags := 49
  interfaces := #[]
  cf := some (fileOf pool1 8 #[] #[{ accessFlags := 1, nameIndex := 5, descriptorIndex := 6, attributes := #[] }, { accessFlags := 9, nameIndex := 21, descriptorIndex := 22, attributes := #[] }, { accessFlags := 10, nameIndex := 11, descriptorIndex := 12, attributes := #[] }] 49 2 #[] #[])
  fields := #[]
  methods := #[k1m0, k1m1, k1m2]
  instanceTypes := #[]
  staticTypes := #[]
  resolved := Array.replicate 30 none
  statics := none }

def pool2 : Array CpInfo := pool [(2, .class_ 4), (1, u "java/lang/Object"), (6, .class_ 13), (1, u "com/example/sluice/sluice/Network"), (0, u "nodeIndex"), (0, u "Ljava/util/Map;"), (4, u "directed"), (3, u "Z"), (71, u "firstArc"), (0, u "[I"), (6, u "arcTail"), (2, u "arcHead"), (2, u "arcEdge"), (2, u "firstIn"), (2, u "arcIn"), (7, u "marks"), (0, u "Lcom/example/sluice/sluice/SearchMarks;"), (2, u "via"), (2, u "distance"), (0, u "[D"), (2, u "settled"), (0, u "[Z"), (2, u "wanted"), (2, u "ahead"), (2, u "order"), (11, u "steps"), (0, u "J"), (293, u "UNREACHED"), (0, u "I"), (2, u "START"), (1, u "BATCH_PARTS"), (30, u "fits"), (0, u "([I[JJ)Z")] 114

def k2c0 : Code := { maxStack := 4, maxLocals := 8, code := prog_24_method_32_code, exceptionTable := #[], attributes := #[] }
def k2m0 : Method := { name := "fits", desc := "([I[JJ)Z", sig := { parameters := [(.array .int), (.array .long), .long], returnType := some .boolean }, accessFlags := 8, code := some k2c0 }
/-- com/example/sluice/sluice/Network -/
def k2 : Class := { plain "com/example/sluice/sluice/Network" (some 0) with
  accessFlags := 48
  interfaces := #[]
  cf := some (fileOf pool2 11 #[] #[{ accessFlags := 8, nameIndex := 489, descriptorIndex := 490, attributes := #[] }] 48 2 #[] #[{ accessFlags := 26, nameIndex := 452, descriptorIndex := 453, attributes := #[] }, { accessFlags := 26, nameIndex := 456, descriptorIndex := 453, attributes := #[] }, { accessFlags := 26, nameIndex := 458, descriptorIndex := 453, attributes := #[] }, { accessFlags := 18, nameIndex := 14, descriptorIndex := 15, attributes := #[] }, { accessFlags := 18, nameIndex := 20, descriptorIndex := 24, attributes := #[] }, { accessFlags := 18, nameIndex := 96, descriptorIndex := 97, attributes := #[] }, { accessFlags := 18, nameIndex := 104, descriptorIndex := 97, attributes := #[] }, { accessFlags := 18, nameIndex := 107, descriptorIndex := 97, attributes := #[] }, { accessFlags := 18, nameIndex := 110, descriptorIndex := 97, attributes := #[] }, { accessFlags := 18, nameIndex := 113, descriptorIndex := 97, attributes := #[] }, { accessFlags := 18, nameIndex := 116, descriptorIndex := 97, attributes := #[] }, { accessFlags := 2, nameIndex := 157, descriptorIndex := 158, attributes := #[] }, { accessFlags := 18, nameIndex := 124, descriptorIndex := 125, attributes := #[] }, { accessFlags := 18, nameIndex := 128, descriptorIndex := 97, attributes := #[] }, { accessFlags := 18, nameIndex := 131, descriptorIndex := 132, attributes := #[] }, { accessFlags := 18, nameIndex := 135, descriptorIndex := 136, attributes := #[] }, { accessFlags := 18, nameIndex := 139, descriptorIndex := 136, attributes := #[] }, { accessFlags := 18, nameIndex := 142, descriptorIndex := 132, attributes := #[] }, { accessFlags := 18, nameIndex := 145, descriptorIndex := 97, attributes := #[] }])
  fields := #[{ name := "UNREACHED", type := .int, accessFlags := 26, slot := 0, constantValue := 0 }, { name := "START", type := .int, accessFlags := 26, slot := 1, constantValue := 0 }, { name := "BATCH_PARTS", type := .int, accessFlags := 26, slot := 2, constantValue := 0 }, { name := "nodeIndex", type := (.object "java/util/Map"), accessFlags := 18, slot := 0, constantValue := 0 }, { name := "directed", type := .boolean, accessFlags := 18, slot := 1, constantValue := 0 }, { name := "firstArc", type := (.array .int), accessFlags := 18, slot := 2, constantValue := 0 }, { name := "arcTail", type := (.array .int), accessFlags := 18, slot := 3, constantValue := 0 }, { name := "arcHead", type := (.array .int), accessFlags := 18, slot := 4, constantValue := 0 }, { name := "arcEdge", type := (.array .int), accessFlags := 18, slot := 5, constantValue := 0 }, { name := "firstIn", type := (.array .int), accessFlags := 18, slot := 6, constantValue := 0 }, { name := "arcIn", type := (.array .int), accessFlags := 18, slot := 7, constantValue := 0 }, { name := "steps", type := .long, accessFlags := 2, slot := 8, constantValue := 0 }, { name := "marks", type := (.object "com/example/sluice/sluice/SearchMarks"), accessFlags := 18, slot := 9, constantValue := 0 }, { name := "via", type := (.array .int), accessFlags := 18, slot := 10, constantValue := 0 }, { name := "distance", type := (.array .double), accessFlags := 18, slot := 11, constantValue := 0 }, { name := "settled", type := (.array .boolean), accessFlags := 18, slot := 12, constantValue := 0 }, { name := "wanted", type := (.array .boolean), accessFlags := 18, slot := 13, constantValue := 0 }, { name := "ahead", type := (.array .double), accessFlags := 18, slot := 14, constantValue := 0 }, { name := "order", type := (.array .int), accessFlags := 18, slot := 15, constantValue := 0 }]
  methods := #[k2m0]
  instanceTypes := #[(.object "java/util/Map"), .boolean, (.array .int), (.array .int), (.array .int), (.array .int), (.array .int), (.array .int), .long, (.object "com/example/sluice/sluice/SearchMarks"), (.array .int), (.array .double), (.array .boolean), (.array .boolean), (.array .double), (.array .int)]
  staticTypes := #[.int, .int, .int]
  resolved := Array.replicate 605 none
  statics := none }

def pool3 : Array CpInfo := pool [(1, u "java/lang/Cloneable"), (0, .class_ 1), (0, u "java/lang/Object"), (0, .class_ 3)] 3

/-- java/lang/Cloneable -/
def k3 : Class := { plain "java/lang/Cloneable" (some 0) with
  accessFlags := 1537
  interfaces := #[]
  cf := some (fileOf pool3 2 #[] #[] 1537 4 #[] #[])
  fields := #[]
  methods := #[]
  instanceTypes := #[]
  staticTypes := #[]
  resolved := Array.replicate 8 none
  statics := none }

def pool4 : Array CpInfo := pool [(1, u "java/io/Serializable"), (0, .class_ 1), (0, u "java/lang/Object"), (0, .class_ 3)] 3

/-- java/io/Serializable -/
def k4 : Class := { plain "java/io/Serializable" (some 0) with
  accessFlags := 1537
  interfaces := #[]
  cf := some (fileOf pool4 2 #[] #[] 1537 4 #[] #[])
  fields := #[]
  methods := #[]
  instanceTypes := #[]
  staticTypes := #[]
  resolved := Array.replicate 8 none
  statics := none }

/-- the primitive byte -/
def k5 : Class := { plain "byte" none with kind := .primitive 'B', accessFlags := 0x411 }
/-- [B -/
def k6 : Class := { plain "[B" (some 0) with kind := .array 5 .byte, interfaces := #[3, 4], accessFlags := 1041 }

/-- the primitive int -/
def k7 : Class := { plain "int" none with kind := .primitive 'I', accessFlags := 0x411 }
/-- [I -/
def k8 : Class := { plain "[I" (some 0) with kind := .array 7 .int, interfaces := #[3, 4], accessFlags := 1041 }

/-- the primitive long -/
def k9 : Class := { plain "long" none with kind := .primitive 'J', accessFlags := 0x411 }
/-- [J -/
def k10 : Class := { plain "[J" (some 0) with kind := .array 9 .long, interfaces := #[3, 4], accessFlags := 1041 }

def heap : Heap := #[]
def classes : Array Class := #[k0, k1, k2, k3, k4, k5, k6, k7, k8, k9, k10]
def interned : List (Array UInt16 × Addr) := []
def slotsUsed : Nat := 0
def theMethod : MethodId := ⟨1, 1⟩
def args0 : Array Value := #[.long 5, .long 7, .long 1, .long 3, .long 2, .int 2]
def aboutOver (below : List Frame) : State where
  vm := { classes := classes, interned := interned.toArray }
  heap := heap
  slotsUsed := slotsUsed
  threads := #[{ frames := .invoking theMethod args0 :: below }]
def below0 : List Frame := [.native { method := ⟨0, 0⟩, args := #[] }]
def about1 : State := aboutOver below0
def p0 : Program := .bare "" "" ""
def e0 : Env := launch0.env 0 0 0
theorem w_frames : about1.frames = Frame.invoking theMethod args0 :: below0 := rfl
set_option maxRecDepth 65536 in
theorem w_args : argsFit about1.vm theMethod args0 = true := by decide +kernel
set_option maxRecDepth 65536 in
theorem w_heap : heapFits about1 = true := by decide +kernel
set_option maxRecDepth 65536 in
theorem w_runnable : about1.curStatus? = some .runnable := by decide +kernel
set_option maxRecDepth 65536 in
theorem w_alone : about1.alone = true := by decide +kernel
set_option maxRecDepth 65536 in
theorem w_named : about1.methodNamed? x = some theMethod := by decide +kernel
set_option maxRecDepth 65536 in
theorem w_hears : about1.hears theMethod below0 = true := by decide +kernel
set_option maxRecDepth 65536 in
theorem w_ripe : about1.ripe theMethod args0 below0 = true := by decide +kernel
theorem w_running : about1.status = .running := rfl
set_option maxRecDepth 65536 in
theorem w_room : about1.hasRoom e0.platform room_1 = true :=
  launch0.hasRoom_least _ room_1 (by decide +kernel) (by decide +kernel) (by decide +kernel) (by decide +kernel) (by decide +kernel) (by decide +kernel)
theorem allAtoms_all (ts : List Jvm.Cond) (a : Array Jvm.Value) (st : Jvm.State) : (allAtoms ts).before a st = ts.all (fun c => c.before a st) := by
  induction ts with
  | nil => rfl
  | cons c t ih =>
    show (Jvm.Cond.and c (allAtoms t)).before a st = _
    rw [Jvm.Cond.before_and, ih, List.all_cons]
def words1 : List Jvm.Cond := Jvm.Cond.code x code maxLocals ret :: tables_1
/-- a 'code' word, met by the world's own term for the bytes: nothing is compared byte by byte -/
theorem code_word {y : MethodName} {bytes : ByteArray} {mx : Nat} {rt : Option FieldType} {a : Array Value} {s : State} {m : MethodId} {meth : Method} {c : Code} (h1 : s.methodNamed? y = some m) (h2 : s.vm.method? m = some meth) (h3 : meth.code = some c) (h4 : c.code = bytes)
    (h5 : (c.maxLocals == mx && c.exceptionTable.isEmpty && decide (c.maxStack ≤ mostOperands) && decide (meth.sig.returnType = rt) && !meth.locks && decide (parseMethodDescriptor y.desc = some meth.sig)) = true) : (Jvm.Cond.code y bytes mx rt).before a s = true := by
  simp only [Bool.and_eq_true, beq_iff_eq, Bool.not_eq_true', decide_eq_true_eq] at h5
  obtain ⟨⟨⟨⟨⟨g1, g2⟩, g3⟩, g4⟩, g5⟩, g6⟩ := h5
  simp [Cond.before, Cond.holds, Cond.value, h1, h2, h3, h4, g1, g2, g3, g4, g5, g6]
def isCode : Jvm.Cond → Bool
  | .code _ _ _ _ => true
  | _ => false
theorem all_split {L : List Jvm.Cond} {P : Jvm.Cond → Bool} (h1 : L.all (fun c => isCode c || P c) = true) (h2 : ∀ c ∈ L.filter isCode, P c = true) : L.all P = true := by
  refine List.all_eq_true.mpr fun c hc => ?_
  have h := List.all_eq_true.mp h1 c hc
  rcases Bool.eq_false_or_eq_true (isCode c) with hi | hi
  · exact h2 c (List.mem_filter.mpr ⟨hc, hi⟩)
  · simpa [hi] using h
set_option maxRecDepth 65536 in
theorem w_c0 : (Jvm.Cond.code x code maxLocals ret).before args0 about1 = true := code_word (m := ⟨1, 1⟩) (meth := k1m1) (c := k1c1) (by decide +kernel) rfl rfl rfl (by decide +kernel)
set_option maxRecDepth 65536 in
theorem w_c1 : (Jvm.Cond.code ({ cls := "com/example/sluice/sluice/NetworkFitsPinLaw", name := "pick", desc := "(IJJJJ)J" } : Jvm.MethodName) method_3_code (9 : Nat) (Option.some Jvm.ClassFile.FieldType.long)).before args0 about1 = true := code_word (m := ⟨1, 2⟩) (meth := k1m2) (c := k1c2) (by decide +kernel) rfl rfl rfl (by decide +kernel)
set_option maxRecDepth 65536 in
theorem w_c2 : (Jvm.Cond.code ({ cls := "com/example/sluice/sluice/Network", name := "fits", desc := "([I[JJ)Z" } : Jvm.MethodName) prog_24_method_32_code (8 : Nat) (Option.some Jvm.ClassFile.FieldType.boolean)).before args0 about1 = true := code_word (m := ⟨2, 0⟩) (meth := k2m0) (c := k2c0) (by decide +kernel) rfl rfl rfl (by decide +kernel)
def codes1 : List Jvm.Cond := [Jvm.Cond.code x code maxLocals ret, Jvm.Cond.code ({ cls := "com/example/sluice/sluice/NetworkFitsPinLaw", name := "pick", desc := "(IJJJJ)J" } : Jvm.MethodName) method_3_code (9 : Nat) (Option.some Jvm.ClassFile.FieldType.long), Jvm.Cond.code ({ cls := "com/example/sluice/sluice/Network", name := "fits", desc := "([I[JJ)Z" } : Jvm.MethodName) prog_24_method_32_code (8 : Nat) (Option.some Jvm.ClassFile.FieldType.boolean)]
set_option maxRecDepth 65536 in
theorem codes_eq : words1.filter isCode = codes1 := rfl
theorem w_codes : ∀ c ∈ words1.filter isCode, c.before args0 about1 = true := by
  rw [codes_eq]
  intro c hc
  simp only [codes1, List.mem_cons, List.not_mem_nil, or_false] at hc
  rcases hc with rfl | rfl | rfl
  · exact w_c0
  · exact w_c1
  · exact w_c2
set_option maxRecDepth 65536 in
theorem w_t1 : words1.all (fun c => isCode c || c.before args0 about1) = true := by decide +kernel
theorem w_tables : (allAtoms (Jvm.Cond.code x code maxLocals ret :: tables_1)).before args0 about1 = true := by
  rw [allAtoms_all]
  show words1.all (fun c => c.before args0 about1) = true
  refine all_split ?_ w_codes
  rw [w_t1]
set_option maxRecDepth 65536 in
theorem w_case : (Jvm.Cond.and given_1 narrow_1).before args0 about1 = true := by decide +kernel
theorem w_applies : (headSpec (Jvm.Cond.code x code maxLocals ret :: tables_1) room_1).applies x e0.platform about1 = true :=
  (Spec.applies_iff w_frames).mpr ⟨w_running, w_runnable, w_alone, w_named, w_hears, w_ripe, w_room, w_tables⟩
theorem atStart : AtStart classFile x code maxLocals ret World_1 tables_1 room_1 Calls_1 rest_1 Pre_1 launch0 p0 e0 about1 theMethod args0 below0 :=
  ⟨lists_1, trivial, launch0.admits_env _ _ _, launch0.least_env, fairChoices_fair.cas, fairChoices_fair.clock, w_frames, w_args, w_heap, w_applies, trivial, trivial, w_case⟩
end start1
theorem witness_1 : WitnessClaimed_1 := ⟨start1.p0, start1.e0, start1.about1, start1.theMethod, start1.args0, start1.below0, start1.atStart⟩
end Jvm.Pilot.@@N@@
