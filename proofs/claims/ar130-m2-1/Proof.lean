import JvmDerived
import JvmDerived.Pilot.@@N@@Statement
import JvmDerived.Pilot.@@N@@Code
set_option linter.unusedVariables false
set_option linter.unusedSimpArgs false
@@BLOCK:NumsL.lean.txt@@
namespace Jvm.RoadKit
open Sem ClassFile Op Lib Jvm.Stand Jvm.Free Jvm.LawKit
section New
variable {p : Program} {l : Launch} {e : Env} {R : Room} {s : State} {m : MethodId} {args : Array Value} {below : List Frame} {meth : Method} {c : Code} {T : State} {locs : List Loc} {cells slots : Nat}
theorem retI (X : Stand p l e R s m args below meth c T locs cells slots) (hx : p.tables.exec = Jvm.exec) {pc : Nat} {Ls : Array Slot} {z : Int32} {rest : List Value} (hret : meth.sig.returnType = some .int) (hd : decode c.code pc = .ok (.ireturn, 1)) {fs : List Frame}
    (hl : ∀ (f : JFrame) (acts : List Action), f.method = m → f.locked = none → f.entered = [] → (doReturn e (T.setTop f) acts (some (.int z))).1 = T.setFrames fs) : Steps p.tables e below (T.setTop (mkF m pc Ls (.int z :: rest))) (T.setFrames fs) := by
  have hm' : T.vm.method? m = some meth := X.method'
  have hn : narrow .int (.int z) = .int z := rfl
  show Steps p.tables e below (T.setTop { method := m, pc := pc, locals := Ls, stack := _ :: rest, locked := none }) _
  jvm_step X.here [X.here.top, hx, hd, hm', hret, hn]
  first | (intro acts; rw [hl _ acts rfl rfl rfl]) | rw [hl _ _ rfl rfl rfl]
  exact Steps.refl _
end New
end Jvm.RoadKit
namespace Jvm.Pilot.@@N@@
open Jvm Jvm.ClassFile Sem Op Lib Jvm.Free Jvm.Stand Jvm.LawKit Jvm.RoadKit Bundle Jvm.Pilot.@@N@@.Jvm.D
/-- the int j is the place i -/
def own_ix (j : Int32) (i : Nat) : Prop := j.toInt = (i : Int)
/-- an array by its places: N of them, the j-th holds f j -/
def Ary (Z : State) (h : Heap) (a : Addr) (ty : FieldType) (N : Nat) (f : Nat → Value) : Prop := ∃ c : Cell, Arr Z h a c ty ∧ c.slots.size = N ∧ ∀ j, j < N → c.slots[j]? = some (f j)
def own_up (f : Nat → Value) (i : Nat) (v : Value) : Nat → Value := fun j => if j = i then v else f j
theorem own_up_at (f : Nat → Value) (i : Nat) (v : Value) : own_up f i v i = v := if_pos rfl
theorem own_up_ne (f : Nat → Value) {i j : Nat} (v : Value) (h : j ≠ i) : own_up f i v j = f j := if_neg h
theorem own_ixn {j : Int32} {i : Nat} (h : own_ix j i) : j.toNatClampNeg = i := by
  show j.toInt.toNat = i
  rw [show j.toInt = (i : Int) from h]; rfl
theorem own_ix0 {j : Int32} {i : Nat} (h : own_ix j i) : ¬ j < 0 := by
  rw [Int32.lt_iff_toInt_lt, show j.toInt = (i : Int) from h, show (0 : Int32).toInt = 0 from rfl]; omega
theorem own_ixc {i : Nat} (h : i < 2147483648) : own_ix (Int32.ofNat i) i := Int32.toInt_ofNat_of_lt (by omega)
theorem own_ixe {j : Int32} {i : Nat} (h : own_ix j i) : j = Int32.ofNat i := by
  apply Int32.toInt_inj.mp
  have hb := j.toInt_lt
  have h' : j.toInt = (i : Int) := h
  rw [Int32.toInt_ofNat_of_lt (by omega)]; exact h'
theorem own_ixa {j c : Int32} {i k : Nat} (h : own_ix j i) (hc : own_ix c k) (hb : i + k < 2147483648) : own_ix (j + c) (i + k) := by
  show (j + c).toInt = ((i + k : Nat) : Int)
  have h' : j.toInt = (i : Int) := h
  have hc' : c.toInt = (k : Int) := hc
  rw [Int32.toInt_add, h', hc', Int.bmod_eq_of_le (by omega) (by omega)]; omega
theorem own_ixs {j c : Int32} {i k : Nat} (h : own_ix j i) (hc : own_ix c k) (hb : k ≤ i) : own_ix (j - c) (i - k) := by
  show (j - c).toInt = ((i - k : Nat) : Int)
  have hj := j.toInt_lt
  have h' : j.toInt = (i : Int) := h
  have hc' : c.toInt = (k : Int) := hc
  rw [Int32.toInt_sub, h', hc', Int.bmod_eq_of_le (by omega) (by omega)]; omega
theorem own_ixm {j c : Int32} {i k : Nat} (h : own_ix j i) (hc : own_ix c k) (hb : k * i < 2147483648) : own_ix (c * j) (k * i) := by
  show (c * j).toInt = ((k * i : Nat) : Int)
  have h' : j.toInt = (i : Int) := h
  have hc' : c.toInt = (k : Int) := hc
  have e : (k : Int) * (i : Int) = ((k * i : Nat) : Int) := by simp
  rw [Int32.toInt_mul, h', hc', e, Int.bmod_eq_of_le (by omega) (by omega)]
theorem own_ixlt {j c : Int32} {i k : Nat} (h : own_ix j i) (hc : own_ix c k) : j < c ↔ i < k := by
  have h' : j.toInt = (i : Int) := h
  have hc' : c.toInt = (k : Int) := hc
  rw [Int32.lt_iff_toInt_lt, h', hc']; omega
theorem own_ixeq {j c : Int32} {i k : Nat} (h : own_ix j i) (hc : own_ix c k) : j = c ↔ i = k := by
  have h' : j.toInt = (i : Int) := h
  have hc' : c.toInt = (k : Int) := hc
  rw [← Int32.toInt_inj, h', hc']; omega
theorem own_exteq {h h' : Heap} (e : h' = h) : Ext h h' := by subst e; exact ⟨Nat.le_refl _, fun _ _ q => q⟩
theorem own_ni {a b : Addr} (h : a ≠ b) : a ∉ [b] := fun q => h (List.mem_singleton.mp q)
theorem Ary.lt {Z : State} {h : Heap} {a : Addr} {ty : FieldType} {N : Nat} {f : Nat → Value} (F : Ary Z h a ty N f) : a < h.size := by obtain ⟨c, A, -⟩ := F; exact A.lt
theorem Ary.ext {Z : State} {h h' : Heap} {a : Addr} {ty : FieldType} {N : Nat} {f : Nat → Value} (F : Ary Z h a ty N f) (E : Ext h h') : Ary Z h' a ty N f := by obtain ⟨c, A, r⟩ := F; exact ⟨c, A.ext E, r⟩
theorem Ary.other {Z : State} {h h' : Heap} {a b : Addr} {ty : FieldType} {N sl : Nat} {f : Nat → Value} {v : Value} (F : Ary Z h a ty N f) (W : Wr h h' b sl v) (q : a ≠ b) : Ary Z h' a ty N f := by obtain ⟨c, A, r⟩ := F; exact ⟨c, A.other W q, r⟩
theorem Ary.keep {Z : State} {h h' : Heap} {a : Addr} {ty : FieldType} {N : Nat} {f : Nat → Value} {ws : List Addr} (F : Ary Z h a ty N f) (K : Keep h h' ws) (q : a ∉ ws) : Ary Z h' a ty N f := by obtain ⟨c, A, r⟩ := F; exact ⟨c, ⟨K.2.1 a c A.1 q, A.2⟩, r⟩
theorem Ary.cong {Z : State} {h : Heap} {a : Addr} {ty : FieldType} {N : Nat} {f g : Nat → Value} (F : Ary Z h a ty N f) (q : ∀ j, j < N → f j = g j) : Ary Z h a ty N g := by obtain ⟨c, A, S, H⟩ := F; exact ⟨c, A, S, fun j hj => by rw [← q j hj]; exact H j hj⟩
theorem Ary.new {Z : State} {h : Heap} {a : Addr} {ty : FieldType} {N : Nat} {k : ClassId} {z : Int32} (A : Arr Z h a (newA k ty z) ty) (q : ¬ z < 0) (e : z.toNatClampNeg = N) : Ary Z h a ty N (fun _ => defaultValue ty) := by
  obtain ⟨c, A', -, S, -, H, -⟩ := Arv.new A q
  exact ⟨c, A', by rw [S, e], fun j hj => H j (by rw [S, e]; exact hj)⟩
theorem Ary.inn {c : Cell} {N i : Nat} {j : Int32} (S : c.slots.size = N) (ix : own_ix j i) (hi : i < N) : ¬ (j < 0 ∨ c.slots.size ≤ (j).toNatClampNeg) := by
  rw [S, own_ixn ix]
  exact fun q => q.elim (own_ix0 ix) (fun q => absurd hi (Nat.not_lt.mpr q))
theorem Ary.get {c : Cell} {N i : Nat} {j : Int32} {f : Nat → Value} (H : ∀ j, j < N → c.slots[j]? = some (f j)) (ix : own_ix j i) (hi : i < N) {v : Value} (hv : f i = v) : c.slots[(j).toNatClampNeg]? = some v := by
  rw [own_ixn ix, H i hi, hv]
theorem Ary.set {Z : State} {h h' : Heap} {a : Addr} {ty : FieldType} {N i : Nat} {f : Nat → Value} {c : Cell} {j : Int32} {v : Value} (A : Arr Z h a c ty) (S : c.slots.size = N) (H : ∀ j, j < N → c.slots[j]? = some (f j)) (W : Wr h h' a (j).toNatClampNeg v) (ix : own_ix j i) : Ary Z h' a ty N (own_up f i v) := by
  refine ⟨_, A.same W, by rw [sz_set]; exact S, fun k hk => ?_⟩
  rw [own_ixn ix]
  show (c.slots.setIfInBounds i v)[k]? = _
  rw [Array.getElem?_setIfInBounds]
  by_cases q : i = k
  · subst q
    rw [if_pos rfl, if_pos (by rw [S]; exact hk), own_up_at]
  · rw [if_neg q, own_up_ne f v (fun e => q e.symm)]
    exact H k hk
def own_nz (r : Int64) (z : Int32) : Prop := (r = 1 ∧ z = 63) ∨ (r = 4294967295 ∧ z = 32)
theorem own_fitC {Z : State} {h : Heap} {a : Addr} {c : Cell} {N : Nat} {f : Nat → Value} (A : Arr Z h a c .int) (S : c.slots.size = N) (H : ∀ j, j < N → c.slots[j]? = some (f j)) (q : ∀ j, j < N → ∃ w, f j = .int w) : FitC Z c := fitC_of A fun i hi v hv => by
  rw [H i (by rw [← S]; exact hi)] at hv
  obtain ⟨w, hw⟩ := q i (by rw [← S]; exact hi)
  rw [hw] at hv
  cases hv; rfl
def own_R1 : Room := { frames := 3, cells := 4, slots := 20, locals := 60 }
def own_R5 : Room := { frames := 1, cells := 0, slots := 0, locals := 20 }
/-- one turn of the layout's loop over (word, bit) -/
def own_tn (W : Int32) (p : Int32 × Int32) : Int32 × Int32 := if (64 : Int32) < p.2 + W then (p.1 + 1, 0 + W) else (p.1, p.2 + W)
def own_it (W : Int32) : Nat → Int32 × Int32 → Int32 × Int32
  | 0, p => p
  | k + 1, p => own_it W k (own_tn W p)
def own_lay (Z : State) (h : Heap) (k : Nat) (o0 o1 o2 w s m : Addr) (N : Nat) (lo hi : Int32) : Prop :=
  k ≤ w ∧ k ≤ s ∧ k ≤ m ∧ Exa Z h o0 "com/example/tight_bounds/tightbounds/model/StateLayout" ∧ Fld Z h o0 "com/example/tight_bounds/tightbounds/model/StateLayout" "words" "[I" (.ref w) ∧ Fld Z h o0 "com/example/tight_bounds/tightbounds/model/StateLayout" "shifts" "[I" (.ref s) ∧ Fld Z h o0 "com/example/tight_bounds/tightbounds/model/StateLayout" "masks" "[J" (.ref m) ∧ Fld Z h o0 "com/example/tight_bounds/tightbounds/model/StateLayout" "wordCount" "I" (.int (0 : Int32)) ∧ Ary Z h o1 .int N (fun _ => .int lo) ∧ Ary Z h o2 .int N (fun _ => .int hi) ∧ (∃ f, Ary Z h w .int N f) ∧ (∃ f, Ary Z h s .int N f) ∧ (∃ f, Ary Z h m .long N f) ∧
  o0 ≠ w ∧ o0 ≠ s ∧ o0 ≠ m ∧ o1 ≠ w ∧ o1 ≠ s ∧ o1 ≠ m ∧ o2 ≠ w ∧ o2 ≠ s ∧ o2 ≠ m ∧ w ≠ s ∧ w ≠ m ∧ s ≠ m
def own_apv (C : Nat → Int64) (x : Int64) (fr ap wn j : Nat) : Int64 := if ap ≤ j ∧ j < ap + wn then (x &&& C (fr + 2 * (j - ap))) ||| C (fr + 2 * (j - ap) + 1) else x
theorem own_apv_in {C : Nat → Int64} {x : Int64} {fr ap wn j : Nat} (h : ap ≤ j ∧ j < ap + wn) : own_apv C x fr ap wn j = (x &&& C (fr + 2 * (j - ap))) ||| C (fr + 2 * (j - ap) + 1) := if_pos h
theorem own_apv_out {C : Nat → Int64} {x : Int64} {fr ap wn j : Nat} (h : ¬ (ap ≤ j ∧ j < ap + wn)) : own_apv C x fr ap wn j = x := if_neg h
theorem own_apstep (C D : Nat → Int64) (fr ap i : Nat) (j : Nat) : own_up (fun j => .long (own_apv C (D j) fr ap i j)) (ap + i) (.long ((D (ap + i) &&& C (fr + 2 * i)) ||| C (fr + 2 * i + 1))) j = .long (own_apv C (D j) fr ap (i + 1) j) := by
  by_cases q : j = ap + i
  · subst q
    rw [own_up_at, own_apv_in ⟨by omega, by omega⟩, show ap + i - ap = i by omega]
  · rw [own_up_ne _ _ q]
    by_cases r : ap ≤ j ∧ j < ap + i
    · rw [own_apv_in r, own_apv_in ⟨r.1, by omega⟩]
    · rw [own_apv_out r, own_apv_out (fun z => r ⟨z.1, by omega⟩)]
theorem own_subneg {j c : Int32} {i k : Nat} (h : own_ix j i) (hc : own_ix c k) (hb : i < k) : (j - c) < (0 : Int32) := by
  have hj := c.toInt_lt
  have h' : j.toInt = (i : Int) := h
  have hc' : c.toInt = (k : Int) := hc
  rw [Int32.lt_iff_toInt_lt, Int32.toInt_sub, h', hc', Int.bmod_eq_of_le (by omega) (by omega), show (0 : Int32).toInt = 0 from rfl]; omega
theorem own_lc2 {x y : Int64} (h : x = y) : lcmpW x y = 0 := (lw_eq x y).mpr h
def own_lo (k : Nat) (g : Nat → Value) : Prop := ∀ j, j < k → ∃ x, g j = .long x
theorem own_lo0 (g : Nat → Value) : own_lo 0 g := fun j hj => absurd hj (Nat.not_lt_zero j)
theorem own_los {k : Nat} {g : Nat → Value} {x : Int64} (h : own_lo k g) : own_lo (k + 1) (own_up g k (.long x)) := fun j hj => by
  by_cases q : j = k
  · subst q; exact ⟨x, own_up_at _ _ _⟩
  · obtain ⟨y, hy⟩ := h j (by omega)
    exact ⟨y, by rw [own_up_ne _ _ q]; exact hy⟩
def own_lng : Value → Int64
  | .long x => x
  | _ => 0
theorem own_mask3 (x : Int32) : ∃ n : Nat, n ≤ 3 ∧ own_ix (x &&& (3 : Int32)) n := by
  have m : (x &&& (3 : Int32)).toInt = x.toInt % 2 ^ 2 := Jvm.Kit.i32_mask x 3 (k := 2) (by decide) (by decide)
  refine ⟨(x &&& (3 : Int32)).toInt.toNat, by omega, ?_⟩
  show (x &&& (3 : Int32)).toInt = _
  omega
theorem d6_0 : decode jdk_33_method_47_code 0 = .ok (.iload_n 0, 1) := by decide +kernel
theorem d6_1 : decode jdk_33_method_47_code 1 = .ok (.ifCond .gt 14, 3) := by decide +kernel
theorem d6_15 : decode jdk_33_method_47_code 15 = .ok (.bipush 31, 2) := by decide +kernel
theorem d6_17 : decode jdk_33_method_47_code 17 = .ok (.istore_n 1, 1) := by decide +kernel
theorem d6_18 : decode jdk_33_method_47_code 18 = .ok (.iload_n 0, 1) := by decide +kernel
theorem d6_19 : decode jdk_33_method_47_code 19 = .ok (.ldc_w 264, 3) := by decide +kernel
theorem d6_22 : decode jdk_33_method_47_code 22 = .ok (.if_icmp .lt 11, 3) := by decide +kernel
theorem d6_33 : decode jdk_33_method_47_code 33 = .ok (.iload_n 0, 1) := by decide +kernel
theorem d6_34 : decode jdk_33_method_47_code 34 = .ok (.sipush 256, 3) := by decide +kernel
theorem d6_37 : decode jdk_33_method_47_code 37 = .ok (.if_icmp .lt 11, 3) := by decide +kernel
theorem d6_48 : decode jdk_33_method_47_code 48 = .ok (.iload_n 0, 1) := by decide +kernel
theorem d6_49 : decode jdk_33_method_47_code 49 = .ok (.bipush 16, 2) := by decide +kernel
theorem d6_51 : decode jdk_33_method_47_code 51 = .ok (.if_icmp .lt 10, 3) := by decide +kernel
theorem d6_61 : decode jdk_33_method_47_code 61 = .ok (.iload_n 0, 1) := by decide +kernel
theorem d6_62 : decode jdk_33_method_47_code 62 = .ok (.iconst 4, 1) := by decide +kernel
theorem d6_63 : decode jdk_33_method_47_code 63 = .ok (.if_icmp .lt 10, 3) := by decide +kernel
theorem d6_73 : decode jdk_33_method_47_code 73 = .ok (.iload_n 1, 1) := by decide +kernel
theorem d6_74 : decode jdk_33_method_47_code 74 = .ok (.iload_n 0, 1) := by decide +kernel
theorem d6_75 : decode jdk_33_method_47_code 75 = .ok (.iconst 1, 1) := by decide +kernel
theorem d6_76 : decode jdk_33_method_47_code 76 = .ok (.iushr, 1) := by decide +kernel
theorem d6_77 : decode jdk_33_method_47_code 77 = .ok (.isub, 1) := by decide +kernel
theorem d6_78 : decode jdk_33_method_47_code 78 = .ok (.ireturn, 1) := by decide +kernel
theorem pn_6 : plainName "java/lang/Integer" = true := by first | (simp [plainName, overriddenIn]; done) | decide +kernel
theorem ef_6 (m : MethodId) (x0 : Int32) : entryFrame m #[(.int x0)] 2 = mkF m 0 #[.val (.int x0), .unset] [] := by first | (simp [entryFrame, mkF, argsToLocals, Value.category]; done) | rfl
def Q6a (Z : State) (p1 : Int32) (h0 : Heap) (n0 : Nat) (v : Option Value) (h : Heap) (L : List Loc) : Prop := v = some (.int ((31 : Int32) - ((p1.toUInt32 >>> ((1 : Int32) &&& 31).toUInt32).toInt32))) ∧ Fr n0 L ∧ h = h0
set_option maxRecDepth 65536 in
set_option maxHeartbeats 40000000 in
theorem rm6a (l : Launch) (Z : State) (a0 : Array Value) (hw : ∀ d ∈ tables_1, d.before a0 Z = true) (ws : List Jvm.Cond) (p1 : Int32) (h0 : Heap) (n0 : Nat) (Z0 : n0 ≤ h0.size) (hc1 : (0 : Int32) < p1) (hc22 : p1 < (65536 : Int32)) (hc37 : p1 < (256 : Int32)) (hc51 : p1 < (16 : Int32)) (hc63 : p1 < (4 : Int32)) :
    MetFree l (⟨"java/lang/Integer", "numberOfLeadingZeros", "(I)I"⟩ : MethodName) (head1 (Jvm.Cond.code (⟨"java/lang/Integer", "numberOfLeadingZeros", "(I)I"⟩ : MethodName) jdk_33_method_47_code 2 (some .int) :: ws) ({ frames := 0, cells := 0, slots := 0, locals := 0 } : Room)) (fun a U => a = #[(.int p1)] ∧ Z.Warmed39 U.vm ∧ U.heap = h0) (fun _ _ _ _ _ => True) (fun _ U o U' => ∃ v L, o = .returned v ∧ Q6a Z p1 h0 n0 v U'.heap L ∧ FrameEnd U o U' L ({ frames := 0, cells := 0, slots := 0, locals := 0 } : Room).cells ({ frames := 0, cells := 0, slots := 0, locals := 0 } : Room).slots) := by
  refine MetFree.of_bodySF (plainFor_of_name pn_6) hisR ?_
  intro p e s m args below meth c s₁ Bd hml0 hP hK
  obtain ⟨rfl, hZ, hh⟩ := hP
  have hx := Bd.exec
  have hby := Bd.bytes
  have hml : c.maxLocals = 2 := hml0
  have hown : s.vm.findClass "java/lang/Integer" = some m.cls := findClass_of_methodNamed Bd.named
  have hnm := (name_of_methodNamed Bd.named Bd.method).1
  have X0 : Stand p l e ({ frames := 0, cells := 0, slots := 0, locals := 0 } : Room) s m #[(.int p1)] below meth c s₁ [] 0 0 := Stand.of_body Bd
  have e0 : s₁.heap = h0 := by rw [← hh, Bd.state]; rfl
  have N0 := Fr.nil n0
  have pre0 : ∀ t, Steps p.tables e below (s₁.setTop (mkF m 0 #[.val (.int p1), .unset] [])) t → Steps p.tables e below (s₁.setTop (entryFrame m #[(.int p1)] 2)) t := fun t k => castTop (ef_6 m p1) k
  obtain ⟨fs, hr, hrun, hended, hW, hsame⟩ := X0.leave (v := some (.int ((31 : Int32) - ((p1.toUInt32 >>> ((1 : Int32) &&& 31).toUInt32).toInt32)))) (fun h => by rw [Bd.returns] at h; cases h)
  refine ⟨_, _, pre0 _ ?_, hrun, hended, _, _, rfl, ?_, ⟨_, rfl⟩, hW, hsame.mono (by decide) (by decide)⟩
  · show Steps p.tables e below (s₁.setTop (mkF m 0 #[.val (.int p1), .unset] [])) _
    refine XS.iloadN X0.here hx rfl (hb hby d6_0) rfl ?_
    show Steps p.tables e below (s₁.setTop (mkF m 1 #[.val (.int p1), .unset] [(.int p1)])) _
    refine XS.ifYes X0.here hx rfl (pc0 := 1) (pc' := 15) rfl (hb hby d6_1) rfl ((if0 _ _).trans (tlt hc1).2.2.1) (by decide) (by decide) ?_
    show Steps p.tables e below (s₁.setTop (mkF m 15 #[.val (.int p1), .unset] [])) _
    refine XS.bipush X0.here hx rfl (hb hby d6_15) ?_
    show Steps p.tables e below (s₁.setTop (mkF m 17 #[.val (.int p1), .unset] [(.int (31 : Int32))])) _
    refine XS.istoreN X0.here hx rfl (hb hby d6_17) rfl (l' := #[.val (.int p1), .val (.int (31 : Int32))]) rfl ?_
    show Steps p.tables e below (s₁.setTop (mkF m 18 #[.val (.int p1), .val (.int (31 : Int32))] [])) _
    refine XS.iloadN X0.here hx rfl (hb hby d6_18) rfl ?_
    show Steps p.tables e below (s₁.setTop (mkF m 19 #[.val (.int p1), .val (.int (31 : Int32))] [(.int p1)])) _
    refine X0.ldcwInt hx hown (mvT hZ (hw _ (List.mem_of_getElem? (i := 50) rfl))) (g := (mkF m 19 #[.val (.int p1), .val (.int (31 : Int32))] [(.int p1)])) rfl (hb hby d6_19) _ ?_
    show Steps p.tables e below (s₁.setTop (mkF m 22 #[.val (.int p1), .val (.int (31 : Int32))] [(.int (65536 : Int32)), (.int p1)])) _
    refine XS.icmpYes X0.here hx rfl (pc0 := 22) (pc' := 33) rfl (hb hby d6_22) rfl (tlt hc22).1 (by decide) (by decide) ?_
    show Steps p.tables e below (s₁.setTop (mkF m 33 #[.val (.int p1), .val (.int (31 : Int32))] [])) _
    refine XS.iloadN X0.here hx rfl (hb hby d6_33) rfl ?_
    show Steps p.tables e below (s₁.setTop (mkF m 34 #[.val (.int p1), .val (.int (31 : Int32))] [(.int p1)])) _
    refine XS.sipush X0.here hx rfl (hb hby d6_34) ?_
    show Steps p.tables e below (s₁.setTop (mkF m 37 #[.val (.int p1), .val (.int (31 : Int32))] [(.int (256 : Int32)), (.int p1)])) _
    refine XS.icmpYes X0.here hx rfl (pc0 := 37) (pc' := 48) rfl (hb hby d6_37) rfl (tlt hc37).1 (by decide) (by decide) ?_
    show Steps p.tables e below (s₁.setTop (mkF m 48 #[.val (.int p1), .val (.int (31 : Int32))] [])) _
    refine XS.iloadN X0.here hx rfl (hb hby d6_48) rfl ?_
    show Steps p.tables e below (s₁.setTop (mkF m 49 #[.val (.int p1), .val (.int (31 : Int32))] [(.int p1)])) _
    refine XS.bipush X0.here hx rfl (hb hby d6_49) ?_
    show Steps p.tables e below (s₁.setTop (mkF m 51 #[.val (.int p1), .val (.int (31 : Int32))] [(.int (16 : Int32)), (.int p1)])) _
    refine XS.icmpYes X0.here hx rfl (pc0 := 51) (pc' := 61) rfl (hb hby d6_51) rfl (tlt hc51).1 (by decide) (by decide) ?_
    show Steps p.tables e below (s₁.setTop (mkF m 61 #[.val (.int p1), .val (.int (31 : Int32))] [])) _
    refine XS.iloadN X0.here hx rfl (hb hby d6_61) rfl ?_
    show Steps p.tables e below (s₁.setTop (mkF m 62 #[.val (.int p1), .val (.int (31 : Int32))] [(.int p1)])) _
    refine XS.iconst X0.here hx rfl (hb hby d6_62) ?_
    show Steps p.tables e below (s₁.setTop (mkF m 63 #[.val (.int p1), .val (.int (31 : Int32))] [(.int (4 : Int32)), (.int p1)])) _
    refine XS.icmpYes X0.here hx rfl (pc0 := 63) (pc' := 73) rfl (hb hby d6_63) rfl (tlt hc63).1 (by decide) (by decide) ?_
    show Steps p.tables e below (s₁.setTop (mkF m 73 #[.val (.int p1), .val (.int (31 : Int32))] [])) _
    refine XS.iloadN X0.here hx rfl (hb hby d6_73) rfl ?_
    show Steps p.tables e below (s₁.setTop (mkF m 74 #[.val (.int p1), .val (.int (31 : Int32))] [(.int (31 : Int32))])) _
    refine XS.iloadN X0.here hx rfl (hb hby d6_74) rfl ?_
    show Steps p.tables e below (s₁.setTop (mkF m 75 #[.val (.int p1), .val (.int (31 : Int32))] [(.int p1), (.int (31 : Int32))])) _
    refine XS.iconst X0.here hx rfl (hb hby d6_75) ?_
    show Steps p.tables e below (s₁.setTop (mkF m 76 #[.val (.int p1), .val (.int (31 : Int32))] [(.int (1 : Int32)), (.int p1), (.int (31 : Int32))])) _
    refine XS.iushr X0.here hx rfl (hb hby d6_76) rfl ?_
    show Steps p.tables e below (s₁.setTop (mkF m 77 #[.val (.int p1), .val (.int (31 : Int32))] [(.int ((p1.toUInt32 >>> ((1 : Int32) &&& 31).toUInt32).toInt32)), (.int (31 : Int32))])) _
    refine XS.isub X0.here hx rfl (hb hby d6_77) rfl ?_
    show Steps p.tables e below (s₁.setTop (mkF m 78 #[.val (.int p1), .val (.int (31 : Int32))] [(.int ((31 : Int32) - ((p1.toUInt32 >>> ((1 : Int32) &&& 31).toUInt32).toInt32)))])) _
    exact retI X0 hx Bd.returns (hb hby d6_78) hr
  · show Q6a Z p1 h0 n0 _ s₁.heap _
    rw [e0]
    exact ⟨rfl, N0, rfl⟩
theorem d6_4 : decode jdk_33_method_47_code 4 = .ok (.iload_n 0, 1) := by decide +kernel
theorem d6_5 : decode jdk_33_method_47_code 5 = .ok (.ifCond .ne 8, 3) := by decide +kernel
theorem d6_13 : decode jdk_33_method_47_code 13 = .ok (.iconst 0, 1) := by decide +kernel
theorem d6_14 : decode jdk_33_method_47_code 14 = .ok (.ireturn, 1) := by decide +kernel
def Q6b (Z : State) (p1 : Int32) (h0 : Heap) (n0 : Nat) (v : Option Value) (h : Heap) (L : List Loc) : Prop := v = some (.int (0 : Int32)) ∧ Fr n0 L ∧ h = h0
set_option maxRecDepth 65536 in
set_option maxHeartbeats 40000000 in
theorem rm6b (l : Launch) (Z : State) (a0 : Array Value) (hw : ∀ d ∈ tables_1, d.before a0 Z = true) (ws : List Jvm.Cond) (p1 : Int32) (h0 : Heap) (n0 : Nat) (Z0 : n0 ≤ h0.size) (hc1 : ¬ ((0 : Int32) < p1)) (hc5 : ¬ (p1 = (0 : Int32))) :
    MetFree l (⟨"java/lang/Integer", "numberOfLeadingZeros", "(I)I"⟩ : MethodName) (head1 (Jvm.Cond.code (⟨"java/lang/Integer", "numberOfLeadingZeros", "(I)I"⟩ : MethodName) jdk_33_method_47_code 2 (some .int) :: ws) ({ frames := 0, cells := 0, slots := 0, locals := 0 } : Room)) (fun a U => a = #[(.int p1)] ∧ Z.Warmed39 U.vm ∧ U.heap = h0) (fun _ _ _ _ _ => True) (fun _ U o U' => ∃ v L, o = .returned v ∧ Q6b Z p1 h0 n0 v U'.heap L ∧ FrameEnd U o U' L ({ frames := 0, cells := 0, slots := 0, locals := 0 } : Room).cells ({ frames := 0, cells := 0, slots := 0, locals := 0 } : Room).slots) := by
  refine MetFree.of_bodySF (plainFor_of_name pn_6) hisR ?_
  intro p e s m args below meth c s₁ Bd hml0 hP hK
  obtain ⟨rfl, hZ, hh⟩ := hP
  have hx := Bd.exec
  have hby := Bd.bytes
  have hml : c.maxLocals = 2 := hml0
  have hown : s.vm.findClass "java/lang/Integer" = some m.cls := findClass_of_methodNamed Bd.named
  have hnm := (name_of_methodNamed Bd.named Bd.method).1
  have X0 : Stand p l e ({ frames := 0, cells := 0, slots := 0, locals := 0 } : Room) s m #[(.int p1)] below meth c s₁ [] 0 0 := Stand.of_body Bd
  have e0 : s₁.heap = h0 := by rw [← hh, Bd.state]; rfl
  have N0 := Fr.nil n0
  have pre0 : ∀ t, Steps p.tables e below (s₁.setTop (mkF m 0 #[.val (.int p1), .unset] [])) t → Steps p.tables e below (s₁.setTop (entryFrame m #[(.int p1)] 2)) t := fun t k => castTop (ef_6 m p1) k
  obtain ⟨fs, hr, hrun, hended, hW, hsame⟩ := X0.leave (v := some (.int (0 : Int32))) (fun h => by rw [Bd.returns] at h; cases h)
  refine ⟨_, _, pre0 _ ?_, hrun, hended, _, _, rfl, ?_, ⟨_, rfl⟩, hW, hsame.mono (by decide) (by decide)⟩
  · show Steps p.tables e below (s₁.setTop (mkF m 0 #[.val (.int p1), .unset] [])) _
    refine XS.iloadN X0.here hx rfl (hb hby d6_0) rfl ?_
    show Steps p.tables e below (s₁.setTop (mkF m 1 #[.val (.int p1), .unset] [(.int p1)])) _
    refine XS.ifNo X0.here hx rfl (hb hby d6_1) rfl ((if0 _ _).trans (flt hc1).2.2.1) ?_
    show Steps p.tables e below (s₁.setTop (mkF m 4 #[.val (.int p1), .unset] [])) _
    refine XS.iloadN X0.here hx rfl (hb hby d6_4) rfl ?_
    show Steps p.tables e below (s₁.setTop (mkF m 5 #[.val (.int p1), .unset] [(.int p1)])) _
    refine XS.ifYes X0.here hx rfl (pc0 := 5) (pc' := 13) rfl (hb hby d6_5) rfl ((if0 _ _).trans (feq hc5).2) (by decide) (by decide) ?_
    show Steps p.tables e below (s₁.setTop (mkF m 13 #[.val (.int p1), .unset] [])) _
    refine XS.iconst X0.here hx rfl (hb hby d6_13) ?_
    show Steps p.tables e below (s₁.setTop (mkF m 14 #[.val (.int p1), .unset] [(.int (0 : Int32))])) _
    exact retI X0 hx Bd.returns (hb hby d6_14) hr
  · show Q6b Z p1 h0 n0 _ s₁.heap _
    rw [e0]
    exact ⟨rfl, N0, rfl⟩
theorem d5_0 : decode jdk_35_method_48_code 0 = .ok (.lload_n 0, 1) := by decide +kernel
theorem d5_1 : decode jdk_35_method_48_code 1 = .ok (.bipush 32, 2) := by decide +kernel
theorem d5_3 : decode jdk_35_method_48_code 3 = .ok (.lushr, 1) := by decide +kernel
theorem d5_4 : decode jdk_35_method_48_code 4 = .ok (.l2i, 1) := by decide +kernel
theorem d5_5 : decode jdk_35_method_48_code 5 = .ok (.istore_n 2, 1) := by decide +kernel
theorem d5_6 : decode jdk_35_method_48_code 6 = .ok (.iload_n 2, 1) := by decide +kernel
theorem d5_7 : decode jdk_35_method_48_code 7 = .ok (.ifCond .ne 14, 3) := by decide +kernel
theorem d5_10 : decode jdk_35_method_48_code 10 = .ok (.bipush 32, 2) := by decide +kernel
theorem d5_12 : decode jdk_35_method_48_code 12 = .ok (.lload_n 0, 1) := by decide +kernel
theorem d5_13 : decode jdk_35_method_48_code 13 = .ok (.l2i, 1) := by decide +kernel
theorem d5_14 : decode jdk_35_method_48_code 14 = .ok (.invokestatic 308, 3) := by decide +kernel
theorem d5_17 : decode jdk_35_method_48_code 17 = .ok (.iadd, 1) := by decide +kernel
theorem d5_18 : decode jdk_35_method_48_code 18 = .ok (.goto 7, 3) := by decide +kernel
theorem d5_25 : decode jdk_35_method_48_code 25 = .ok (.ireturn, 1) := by decide +kernel
theorem pn_5 : plainName "java/lang/Long" = true := by first | (simp [plainName, overriddenIn]; done) | decide +kernel
theorem pd_5_6 : parseMethodDescriptor "(I)I" = some ⟨[.int], some .int⟩ := by decide +kernel
theorem ef_5 (m : MethodId) (x0 : Int64) : entryFrame m #[(.long x0)] 3 = mkF m 0 #[.val (.long x0), .second, .unset] [] := by first | (simp [entryFrame, mkF, argsToLocals, Value.category]; done) | rfl
def Q5 (Z : State) (q1 : Int64) (zz : Int32) (h0 : Heap) (n0 : Nat) (v : Option Value) (h : Heap) (L : List Loc) : Prop := v = some (.int zz) ∧ Fr n0 L ∧ h = h0
set_option maxRecDepth 65536 in
set_option maxHeartbeats 40000000 in
theorem rm5a (l : Launch) (Z : State) (a0 : Array Value) (hw : ∀ d ∈ tables_1, d.before a0 Z = true) (ws : List Jvm.Cond) (q1 : Int64) (zz : Int32) (h0 : Heap) (n0 : Nat) (Z0 : n0 ≤ h0.size) (hq : q1 = 1) (hzz : zz = 63) (hc7 : (((q1.toUInt64 >>> ((32 : Int32) &&& 0x3f).toInt64.toUInt64).toInt64).toInt32) = (0 : Int32)) :
    MetFree l (⟨"java/lang/Long", "numberOfLeadingZeros", "(J)I"⟩ : MethodName) (head1 (Jvm.Cond.code (⟨"java/lang/Long", "numberOfLeadingZeros", "(J)I"⟩ : MethodName) jdk_35_method_48_code 3 (some .int) :: ws) own_R5) (fun a U => a = #[(.long q1)] ∧ Z.Warmed39 U.vm ∧ U.heap = h0) (fun _ _ _ _ _ => True) (fun _ U o U' => ∃ v L, o = .returned v ∧ Q5 Z q1 zz h0 n0 v U'.heap L ∧ FrameEnd U o U' L own_R5.cells own_R5.slots) := by
  refine MetFree.of_bodySF (plainFor_of_name pn_5) hisR ?_
  intro p e s m args below meth c s₁ Bd hml0 hP hK
  obtain ⟨rfl, hZ, hh⟩ := hP
  have hx := Bd.exec
  have hby := Bd.bytes
  have hml : c.maxLocals = 3 := hml0
  have hown : s.vm.findClass "java/lang/Long" = some m.cls := findClass_of_methodNamed Bd.named
  have hnm := (name_of_methodNamed Bd.named Bd.method).1
  have X0 : Stand p l e own_R5 s m #[(.long q1)] below meth c s₁ [] 0 0 := Stand.of_body Bd
  have e0 : s₁.heap = h0 := by rw [← hh, Bd.state]; rfl
  have N0 := Fr.nil n0
  have pre0 : ∀ t, Steps p.tables e below (s₁.setTop (mkF m 0 #[.val (.long q1), .second, .unset] [])) t → Steps p.tables e below (s₁.setTop (entryFrame m #[(.long q1)] 3)) t := fun t k => castTop (ef_5 m q1) k
  have Zc2 : n0 ≤ h0.size := Z0
  obtain ⟨_, _, ⟨T2, L2, k2, n2⟩, -, X2, ⟨Lc2, hQ2, l2, y2, z2⟩, st2⟩ := Jvm.LawKit.callS X0 hx (y := (⟨"java/lang/Integer", "numberOfLeadingZeros", "(I)I"⟩ : MethodName)) hown (mvT hZ (hw _ (List.mem_of_getElem? (i := 46) rfl))) (mvT hZ (hw _ (List.mem_of_getElem? (i := 47) rfl))) (mvT hZ (hw _ (List.mem_of_getElem? (i := 48) rfl))) (mvT hZ (hw _ (List.mem_of_getElem? (i := 49) rfl))) (by decide) (backOf (W := 1) (rm6a l Z a0 hw [] (q1.toInt32)  h0 n0 Zc2 (by rw [hq]; decide) (by rw [hq]; decide) (by rw [hq]; decide) (by rw [hq]; decide) (by rw [hq]; decide)) hZ (hw _ (List.mem_of_getElem? (i := 49) rfl)) (hw _ (List.mem_of_getElem? (i := 48) rfl)) (by decide) (by decide)) (g := (mkF m 14 #[.val (.long q1), .second, .val (.int (((q1.toUInt64 >>> ((32 : Int32) &&& 0x3f).toInt64.toUInt64).toInt64).toInt32))] [(.int (q1.toInt32)), (.int (32 : Int32))])) rfl (by rw [hml]; rfl) (argsL := [(.int (q1.toInt32))]) (rest := [(.int (32 : Int32))]) (lenOf pd_5_6 rfl) rfl (by show 2 * 0 + _ ≤ _; exact Nat.le_of_eq rfl) (hb hby d5_14) (fun _ _ => ⟨rfl, e0, (by decide : 0 + 0 ≤ _), (by decide : 0 + 0 ≤ _)⟩)
  dsimp only [Pt.U, Pt.locs, Pt.cells, Pt.slots] at X2 l2 y2 z2 st2 hQ2
  subst l2 y2 z2
  obtain ⟨rfl, N2q, eq2⟩ := hQ2
  have N2 := Fr.app N0 N2q
  have E2 : Ext h0 T2.heap := own_exteq eq2
  have K2 : Keep h0 T2.heap [] := (Keep.refl h0 []).ext E2
  obtain ⟨fs, hr, hrun, hended, hW, hsame⟩ := X2.leave (v := some (.int ((32 : Int32) + ((31 : Int32) - (((q1.toInt32).toUInt32 >>> ((1 : Int32) &&& 31).toUInt32).toInt32))))) (fun h => by rw [Bd.returns] at h; cases h)
  refine ⟨_, _, pre0 _ ?_, hrun, hended, _, _, rfl, ?_, ⟨_, rfl⟩, hW, hsame.mono (by decide) (by decide)⟩
  · show Steps p.tables e below (s₁.setTop (mkF m 0 #[.val (.long q1), .second, .unset] [])) _
    refine XS.lloadN X0.here hx rfl (hb hby d5_0) rfl ?_
    show Steps p.tables e below (s₁.setTop (mkF m 1 #[.val (.long q1), .second, .unset] [(.long q1)])) _
    refine XS.bipush X0.here hx rfl (hb hby d5_1) ?_
    show Steps p.tables e below (s₁.setTop (mkF m 3 #[.val (.long q1), .second, .unset] [(.int (32 : Int32)), (.long q1)])) _
    refine XS.lushr X0.here hx rfl (hb hby d5_3) rfl ?_
    show Steps p.tables e below (s₁.setTop (mkF m 4 #[.val (.long q1), .second, .unset] [(.long ((q1.toUInt64 >>> ((32 : Int32) &&& 0x3f).toInt64.toUInt64).toInt64))])) _
    refine XS.l2i X0.here hx rfl (hb hby d5_4) rfl ?_
    show Steps p.tables e below (s₁.setTop (mkF m 5 #[.val (.long q1), .second, .unset] [(.int (((q1.toUInt64 >>> ((32 : Int32) &&& 0x3f).toInt64.toUInt64).toInt64).toInt32))])) _
    refine XS.istoreN X0.here hx rfl (hb hby d5_5) rfl (l' := #[.val (.long q1), .second, .val (.int (((q1.toUInt64 >>> ((32 : Int32) &&& 0x3f).toInt64.toUInt64).toInt64).toInt32))]) rfl ?_
    show Steps p.tables e below (s₁.setTop (mkF m 6 #[.val (.long q1), .second, .val (.int (((q1.toUInt64 >>> ((32 : Int32) &&& 0x3f).toInt64.toUInt64).toInt64).toInt32))] [])) _
    refine XS.iloadN X0.here hx rfl (hb hby d5_6) rfl ?_
    show Steps p.tables e below (s₁.setTop (mkF m 7 #[.val (.long q1), .second, .val (.int (((q1.toUInt64 >>> ((32 : Int32) &&& 0x3f).toInt64.toUInt64).toInt64).toInt32))] [(.int (((q1.toUInt64 >>> ((32 : Int32) &&& 0x3f).toInt64.toUInt64).toInt64).toInt32))])) _
    refine XS.ifNo X0.here hx rfl (hb hby d5_7) rfl ((if0 _ _).trans (teq hc7).2) ?_
    show Steps p.tables e below (s₁.setTop (mkF m 10 #[.val (.long q1), .second, .val (.int (((q1.toUInt64 >>> ((32 : Int32) &&& 0x3f).toInt64.toUInt64).toInt64).toInt32))] [])) _
    refine XS.bipush X0.here hx rfl (hb hby d5_10) ?_
    show Steps p.tables e below (s₁.setTop (mkF m 12 #[.val (.long q1), .second, .val (.int (((q1.toUInt64 >>> ((32 : Int32) &&& 0x3f).toInt64.toUInt64).toInt64).toInt32))] [(.int (32 : Int32))])) _
    refine XS.lloadN X0.here hx rfl (hb hby d5_12) rfl ?_
    show Steps p.tables e below (s₁.setTop (mkF m 13 #[.val (.long q1), .second, .val (.int (((q1.toUInt64 >>> ((32 : Int32) &&& 0x3f).toInt64.toUInt64).toInt64).toInt32))] [(.long q1), (.int (32 : Int32))])) _
    refine XS.l2i X0.here hx rfl (hb hby d5_13) rfl ?_
    show Steps p.tables e below (s₁.setTop (mkF m 14 #[.val (.long q1), .second, .val (.int (((q1.toUInt64 >>> ((32 : Int32) &&& 0x3f).toInt64.toUInt64).toInt64).toInt32))] [(.int (q1.toInt32)), (.int (32 : Int32))])) _
    refine st2 _ ?_
    show Steps p.tables e below (T2.setTop (mkF m 17 #[.val (.long q1), .second, .val (.int (((q1.toUInt64 >>> ((32 : Int32) &&& 0x3f).toInt64.toUInt64).toInt64).toInt32))] [(.int ((31 : Int32) - (((q1.toInt32).toUInt32 >>> ((1 : Int32) &&& 31).toUInt32).toInt32))), (.int (32 : Int32))])) _
    refine XS.iadd X2.here hx rfl (hb hby d5_17) rfl ?_
    show Steps p.tables e below (T2.setTop (mkF m 18 #[.val (.long q1), .second, .val (.int (((q1.toUInt64 >>> ((32 : Int32) &&& 0x3f).toInt64.toUInt64).toInt64).toInt32))] [(.int ((32 : Int32) + ((31 : Int32) - (((q1.toInt32).toUInt32 >>> ((1 : Int32) &&& 31).toUInt32).toInt32))))])) _
    refine XS.goto X2.here hx rfl (pc0 := 18) (pc' := 25) rfl (hb hby d5_18) (by decide) (by decide) ?_
    show Steps p.tables e below (T2.setTop (mkF m 25 #[.val (.long q1), .second, .val (.int (((q1.toUInt64 >>> ((32 : Int32) &&& 0x3f).toInt64.toUInt64).toInt64).toInt32))] [(.int ((32 : Int32) + ((31 : Int32) - (((q1.toInt32).toUInt32 >>> ((1 : Int32) &&& 31).toUInt32).toInt32))))])) _
    exact retI X2 hx Bd.returns (hb hby d5_25) hr
  · show Q5 Z q1 zz h0 n0 _ T2.heap _
    exact ⟨congrArg (fun z => some (Value.int z)) (by rw [hzz]; rw [hq]; decide), N2, eq2⟩
set_option maxRecDepth 65536 in
set_option maxHeartbeats 40000000 in
theorem rm5b (l : Launch) (Z : State) (a0 : Array Value) (hw : ∀ d ∈ tables_1, d.before a0 Z = true) (ws : List Jvm.Cond) (q1 : Int64) (zz : Int32) (h0 : Heap) (n0 : Nat) (Z0 : n0 ≤ h0.size) (hq : q1 = 4294967295) (hzz : zz = 32) (hc7 : (((q1.toUInt64 >>> ((32 : Int32) &&& 0x3f).toInt64.toUInt64).toInt64).toInt32) = (0 : Int32)) :
    MetFree l (⟨"java/lang/Long", "numberOfLeadingZeros", "(J)I"⟩ : MethodName) (head1 (Jvm.Cond.code (⟨"java/lang/Long", "numberOfLeadingZeros", "(J)I"⟩ : MethodName) jdk_35_method_48_code 3 (some .int) :: ws) own_R5) (fun a U => a = #[(.long q1)] ∧ Z.Warmed39 U.vm ∧ U.heap = h0) (fun _ _ _ _ _ => True) (fun _ U o U' => ∃ v L, o = .returned v ∧ Q5 Z q1 zz h0 n0 v U'.heap L ∧ FrameEnd U o U' L own_R5.cells own_R5.slots) := by
  refine MetFree.of_bodySF (plainFor_of_name pn_5) hisR ?_
  intro p e s m args below meth c s₁ Bd hml0 hP hK
  obtain ⟨rfl, hZ, hh⟩ := hP
  have hx := Bd.exec
  have hby := Bd.bytes
  have hml : c.maxLocals = 3 := hml0
  have hown : s.vm.findClass "java/lang/Long" = some m.cls := findClass_of_methodNamed Bd.named
  have hnm := (name_of_methodNamed Bd.named Bd.method).1
  have X0 : Stand p l e own_R5 s m #[(.long q1)] below meth c s₁ [] 0 0 := Stand.of_body Bd
  have e0 : s₁.heap = h0 := by rw [← hh, Bd.state]; rfl
  have N0 := Fr.nil n0
  have pre0 : ∀ t, Steps p.tables e below (s₁.setTop (mkF m 0 #[.val (.long q1), .second, .unset] [])) t → Steps p.tables e below (s₁.setTop (entryFrame m #[(.long q1)] 3)) t := fun t k => castTop (ef_5 m q1) k
  have Zc2 : n0 ≤ h0.size := Z0
  obtain ⟨_, _, ⟨T2, L2, k2, n2⟩, -, X2, ⟨Lc2, hQ2, l2, y2, z2⟩, st2⟩ := Jvm.LawKit.callS X0 hx (y := (⟨"java/lang/Integer", "numberOfLeadingZeros", "(I)I"⟩ : MethodName)) hown (mvT hZ (hw _ (List.mem_of_getElem? (i := 46) rfl))) (mvT hZ (hw _ (List.mem_of_getElem? (i := 47) rfl))) (mvT hZ (hw _ (List.mem_of_getElem? (i := 48) rfl))) (mvT hZ (hw _ (List.mem_of_getElem? (i := 49) rfl))) (by decide) (backOf (W := 1) (rm6b l Z a0 hw [] (q1.toInt32)  h0 n0 Zc2 (by rw [hq]; decide) (by rw [hq]; decide)) hZ (hw _ (List.mem_of_getElem? (i := 49) rfl)) (hw _ (List.mem_of_getElem? (i := 48) rfl)) (by decide) (by decide)) (g := (mkF m 14 #[.val (.long q1), .second, .val (.int (((q1.toUInt64 >>> ((32 : Int32) &&& 0x3f).toInt64.toUInt64).toInt64).toInt32))] [(.int (q1.toInt32)), (.int (32 : Int32))])) rfl (by rw [hml]; rfl) (argsL := [(.int (q1.toInt32))]) (rest := [(.int (32 : Int32))]) (lenOf pd_5_6 rfl) rfl (by show 2 * 0 + _ ≤ _; exact Nat.le_of_eq rfl) (hb hby d5_14) (fun _ _ => ⟨rfl, e0, (by decide : 0 + 0 ≤ _), (by decide : 0 + 0 ≤ _)⟩)
  dsimp only [Pt.U, Pt.locs, Pt.cells, Pt.slots] at X2 l2 y2 z2 st2 hQ2
  subst l2 y2 z2
  obtain ⟨rfl, N2q, eq2⟩ := hQ2
  have N2 := Fr.app N0 N2q
  have E2 : Ext h0 T2.heap := own_exteq eq2
  have K2 : Keep h0 T2.heap [] := (Keep.refl h0 []).ext E2
  obtain ⟨fs, hr, hrun, hended, hW, hsame⟩ := X2.leave (v := some (.int ((32 : Int32) + (0 : Int32)))) (fun h => by rw [Bd.returns] at h; cases h)
  refine ⟨_, _, pre0 _ ?_, hrun, hended, _, _, rfl, ?_, ⟨_, rfl⟩, hW, hsame.mono (by decide) (by decide)⟩
  · show Steps p.tables e below (s₁.setTop (mkF m 0 #[.val (.long q1), .second, .unset] [])) _
    refine XS.lloadN X0.here hx rfl (hb hby d5_0) rfl ?_
    show Steps p.tables e below (s₁.setTop (mkF m 1 #[.val (.long q1), .second, .unset] [(.long q1)])) _
    refine XS.bipush X0.here hx rfl (hb hby d5_1) ?_
    show Steps p.tables e below (s₁.setTop (mkF m 3 #[.val (.long q1), .second, .unset] [(.int (32 : Int32)), (.long q1)])) _
    refine XS.lushr X0.here hx rfl (hb hby d5_3) rfl ?_
    show Steps p.tables e below (s₁.setTop (mkF m 4 #[.val (.long q1), .second, .unset] [(.long ((q1.toUInt64 >>> ((32 : Int32) &&& 0x3f).toInt64.toUInt64).toInt64))])) _
    refine XS.l2i X0.here hx rfl (hb hby d5_4) rfl ?_
    show Steps p.tables e below (s₁.setTop (mkF m 5 #[.val (.long q1), .second, .unset] [(.int (((q1.toUInt64 >>> ((32 : Int32) &&& 0x3f).toInt64.toUInt64).toInt64).toInt32))])) _
    refine XS.istoreN X0.here hx rfl (hb hby d5_5) rfl (l' := #[.val (.long q1), .second, .val (.int (((q1.toUInt64 >>> ((32 : Int32) &&& 0x3f).toInt64.toUInt64).toInt64).toInt32))]) rfl ?_
    show Steps p.tables e below (s₁.setTop (mkF m 6 #[.val (.long q1), .second, .val (.int (((q1.toUInt64 >>> ((32 : Int32) &&& 0x3f).toInt64.toUInt64).toInt64).toInt32))] [])) _
    refine XS.iloadN X0.here hx rfl (hb hby d5_6) rfl ?_
    show Steps p.tables e below (s₁.setTop (mkF m 7 #[.val (.long q1), .second, .val (.int (((q1.toUInt64 >>> ((32 : Int32) &&& 0x3f).toInt64.toUInt64).toInt64).toInt32))] [(.int (((q1.toUInt64 >>> ((32 : Int32) &&& 0x3f).toInt64.toUInt64).toInt64).toInt32))])) _
    refine XS.ifNo X0.here hx rfl (hb hby d5_7) rfl ((if0 _ _).trans (teq hc7).2) ?_
    show Steps p.tables e below (s₁.setTop (mkF m 10 #[.val (.long q1), .second, .val (.int (((q1.toUInt64 >>> ((32 : Int32) &&& 0x3f).toInt64.toUInt64).toInt64).toInt32))] [])) _
    refine XS.bipush X0.here hx rfl (hb hby d5_10) ?_
    show Steps p.tables e below (s₁.setTop (mkF m 12 #[.val (.long q1), .second, .val (.int (((q1.toUInt64 >>> ((32 : Int32) &&& 0x3f).toInt64.toUInt64).toInt64).toInt32))] [(.int (32 : Int32))])) _
    refine XS.lloadN X0.here hx rfl (hb hby d5_12) rfl ?_
    show Steps p.tables e below (s₁.setTop (mkF m 13 #[.val (.long q1), .second, .val (.int (((q1.toUInt64 >>> ((32 : Int32) &&& 0x3f).toInt64.toUInt64).toInt64).toInt32))] [(.long q1), (.int (32 : Int32))])) _
    refine XS.l2i X0.here hx rfl (hb hby d5_13) rfl ?_
    show Steps p.tables e below (s₁.setTop (mkF m 14 #[.val (.long q1), .second, .val (.int (((q1.toUInt64 >>> ((32 : Int32) &&& 0x3f).toInt64.toUInt64).toInt64).toInt32))] [(.int (q1.toInt32)), (.int (32 : Int32))])) _
    refine st2 _ ?_
    show Steps p.tables e below (T2.setTop (mkF m 17 #[.val (.long q1), .second, .val (.int (((q1.toUInt64 >>> ((32 : Int32) &&& 0x3f).toInt64.toUInt64).toInt64).toInt32))] [(.int (0 : Int32)), (.int (32 : Int32))])) _
    refine XS.iadd X2.here hx rfl (hb hby d5_17) rfl ?_
    show Steps p.tables e below (T2.setTop (mkF m 18 #[.val (.long q1), .second, .val (.int (((q1.toUInt64 >>> ((32 : Int32) &&& 0x3f).toInt64.toUInt64).toInt64).toInt32))] [(.int ((32 : Int32) + (0 : Int32)))])) _
    refine XS.goto X2.here hx rfl (pc0 := 18) (pc' := 25) rfl (hb hby d5_18) (by decide) (by decide) ?_
    show Steps p.tables e below (T2.setTop (mkF m 25 #[.val (.long q1), .second, .val (.int (((q1.toUInt64 >>> ((32 : Int32) &&& 0x3f).toInt64.toUInt64).toInt64).toInt32))] [(.int ((32 : Int32) + (0 : Int32)))])) _
    exact retI X2 hx Bd.returns (hb hby d5_25) hr
  · show Q5 Z q1 zz h0 n0 _ T2.heap _
    exact ⟨congrArg (fun z => some (Value.int z)) (by rw [hzz]; decide), N2, eq2⟩
theorem rm5 (l : Launch) (Z : State) (a0 : Array Value) (hw : ∀ d ∈ tables_1, d.before a0 Z = true) (ws : List Jvm.Cond) (q1 : Int64) (zz : Int32) (h0 : Heap) (n0 : Nat) (Z0 : n0 ≤ h0.size) (hz : own_nz q1 zz) :
    MetFree l (⟨"java/lang/Long", "numberOfLeadingZeros", "(J)I"⟩ : MethodName) (head1 (Jvm.Cond.code (⟨"java/lang/Long", "numberOfLeadingZeros", "(J)I"⟩ : MethodName) jdk_35_method_48_code 3 (some .int) :: ws) own_R5) (fun a U => a = #[(.long q1)] ∧ Z.Warmed39 U.vm ∧ U.heap = h0) (fun _ _ _ _ _ => True) (fun _ U o U' => ∃ v L, o = .returned v ∧ Q5 Z q1 zz h0 n0 v U'.heap L ∧ FrameEnd U o U' L own_R5.cells own_R5.slots) := by
  rcases hz with ⟨hq, hzz⟩ | ⟨hq, hzz⟩
  · exact rm5a l Z a0 hw ws q1 zz h0 n0 Z0 hq hzz (by rw [hq]; decide)
  · exact rm5b l Z a0 hw ws q1 zz h0 n0 Z0 hq hzz (by rw [hq]; decide)
theorem d1_0 : decode prog_77_method_1_code 0 = .ok (.aload_n 0, 1) := by decide +kernel
theorem d1_1 : decode prog_77_method_1_code 1 = .ok (.invokespecial 1, 3) := by decide +kernel
theorem d1_4 : decode prog_77_method_1_code 4 = .ok (.aload_n 0, 1) := by decide +kernel
theorem d1_5 : decode prog_77_method_1_code 5 = .ok (.aload_n 1, 1) := by decide +kernel
theorem d1_6 : decode prog_77_method_1_code 6 = .ok (.invokevirtual 7, 3) := by decide +kernel
theorem d1_9 : decode prog_77_method_1_code 9 = .ok (.checkcast 8, 3) := by decide +kernel
theorem d1_12 : decode prog_77_method_1_code 12 = .ok (.putfield 13, 3) := by decide +kernel
theorem d1_15 : decode prog_77_method_1_code 15 = .ok (.aload_n 0, 1) := by decide +kernel
theorem d1_16 : decode prog_77_method_1_code 16 = .ok (.aload_n 1, 1) := by decide +kernel
theorem d1_17 : decode prog_77_method_1_code 17 = .ok (.arraylength, 1) := by decide +kernel
theorem d1_18 : decode prog_77_method_1_code 18 = .ok (.newarray .int, 2) := by decide +kernel
theorem d1_20 : decode prog_77_method_1_code 20 = .ok (.putfield 18, 3) := by decide +kernel
theorem d1_23 : decode prog_77_method_1_code 23 = .ok (.aload_n 0, 1) := by decide +kernel
theorem d1_24 : decode prog_77_method_1_code 24 = .ok (.aload_n 1, 1) := by decide +kernel
theorem d1_25 : decode prog_77_method_1_code 25 = .ok (.arraylength, 1) := by decide +kernel
theorem d1_26 : decode prog_77_method_1_code 26 = .ok (.newarray .int, 2) := by decide +kernel
theorem d1_28 : decode prog_77_method_1_code 28 = .ok (.putfield 21, 3) := by decide +kernel
theorem d1_31 : decode prog_77_method_1_code 31 = .ok (.aload_n 0, 1) := by decide +kernel
theorem d1_32 : decode prog_77_method_1_code 32 = .ok (.aload_n 1, 1) := by decide +kernel
theorem d1_33 : decode prog_77_method_1_code 33 = .ok (.arraylength, 1) := by decide +kernel
theorem d1_34 : decode prog_77_method_1_code 34 = .ok (.newarray .long, 2) := by decide +kernel
theorem d1_36 : decode prog_77_method_1_code 36 = .ok (.putfield 24, 3) := by decide +kernel
theorem d1_39 : decode prog_77_method_1_code 39 = .ok (.iconst 0, 1) := by decide +kernel
theorem d1_40 : decode prog_77_method_1_code 40 = .ok (.istore_n 3, 1) := by decide +kernel
theorem d1_41 : decode prog_77_method_1_code 41 = .ok (.iconst 0, 1) := by decide +kernel
theorem d1_42 : decode prog_77_method_1_code 42 = .ok (.istore 4, 2) := by decide +kernel
theorem d1_44 : decode prog_77_method_1_code 44 = .ok (.iconst 0, 1) := by decide +kernel
theorem d1_45 : decode prog_77_method_1_code 45 = .ok (.istore 5, 2) := by decide +kernel
set_option maxRecDepth 65536 in
set_option maxHeartbeats 40000000 in
theorem pf0 {p : Program} {l : Launch} {e : Env} {s : State} {m : MethodId} {args : Array Value} {below : List Frame} {meth : Method} {c : Code} {T0 : State} {locs : List Loc} {Z : State} {a0 : Array Value} {h0 : Heap} (o0 : Addr) (o1 : Addr) (o2 : Addr) (n0 : Nat) (lo hi : Int32) (u_lows_o0 : Value) (u_words_o0 : Value) (u_shifts_o0 : Value) (u_masks_o0 : Value)
    (X0 : Stand p l e own_R1 s m args below meth c T0 locs 0 0) (hx : p.tables.exec = Jvm.exec) (hZ : Z.Warmed39 s.vm) (hw : ∀ d ∈ tables_1, d.before a0 Z = true) (hby : c.code = prog_77_method_1_code) (hml : c.maxLocals = 9) (hown : s.vm.findClass "com/example/tight_bounds/tightbounds/model/StateLayout" = some m.cls) (e0 : T0.heap = h0) (Z0 : n0 ≤ h0.size) (N0 : Fr n0 locs) (hnm : meth.name = "<init>") (ne_o1_o0 : o1 ≠ o0) (ne_o2_o0 : o2 ≠ o0) (hint : ∀ j, j < 0 → ∃ w, (fun _ => Value.int lo) j = .int w) (V_o1 : Ary Z h0 o1 .int 0 (fun _ => .int lo)) (V_o2 : Ary Z h0 o2 .int 0 (fun _ => .int hi)) (F_wordCount_o0 : Fld Z h0 o0 "com/example/tight_bounds/tightbounds/model/StateLayout" "wordCount" "I" (.int (0 : Int32))) (E_o1 : Exa Z h0 o1 "[I") (E_o0 : Exa Z h0 o0 "com/example/tight_bounds/tightbounds/model/StateLayout") (F_lows_o0 : Fld Z h0 o0 "com/example/tight_bounds/tightbounds/model/StateLayout" "lows" "[I" u_lows_o0) (g_o0 : n0 ≤ o0) (F_words_o0 : Fld Z h0 o0 "com/example/tight_bounds/tightbounds/model/StateLayout" "words" "[I" u_words_o0) (F_shifts_o0 : Fld Z h0 o0 "com/example/tight_bounds/tightbounds/model/StateLayout" "shifts" "[I" u_shifts_o0) (F_masks_o0 : Fld Z h0 o0 "com/example/tight_bounds/tightbounds/model/StateLayout" "masks" "[J" u_masks_o0) :
    ∃ (T' : State) (h' : Heap) (locs' : List Loc) (w s' m' : Addr), Stand p l e own_R1 s m args below meth c T' locs' (0 + 4) 0 ∧ T'.heap = h' ∧ Fr n0 locs' ∧ Keep h0 h' [o0] ∧ n0 ≤ h'.size ∧ own_lay Z h' h0.size o0 o1 o2 w s' m' 0 lo hi ∧
      ∀ target, Steps p.tables e below (T'.setTop (mkF m 47 #[.val (.ref o0), .val (.ref o1), .val (.ref o2), .val (.int (0 : Int32)), .val (.int (0 : Int32)), .val (.int (0 : Int32)), .unset, .unset, .unset] [])) target → Steps p.tables e below (T0.setTop (mkF m 0 #[.val (.ref o0), .val (.ref o1), .val (.ref o2), .unset, .unset, .unset, .unset, .unset, .unset] [])) target := by
  obtain ⟨T4, X4, e4, st4⟩ := initO X0 hx hZ hown (hw _ (List.mem_of_getElem? (i := 11) rfl)) (hw _ (List.mem_of_getElem? (i := 12) rfl)) (hw _ (List.mem_of_getElem? (i := 13) rfl)) e0 (g := (mkF m 1 #[.val (.ref o0), .val (.ref o1), .val (.ref o2), .unset, .unset, .unset, .unset, .unset, .unset] [(.ref o0)])) rfl (by rw [hml]; rfl) rfl (hb hby d1_1) (by decide) (W := 0) (by show 2 * 0 + _ ≤ _; exact Nat.le_of_eq rfl) (by decide)
  obtain ⟨cl_6, Ar_6, S_6, H_6⟩ := id V_o1
  obtain ⟨T5, h5, X5, e5, E5, A5, Q5, st5⟩ := cloneA X4 hx hZ hown (hw _ (List.mem_of_getElem? (i := 14) rfl)) (hw _ (List.mem_of_getElem? (i := 15) rfl)) (hw _ (List.mem_of_getElem? (i := 19) rfl)) (hw _ (List.mem_of_getElem? (i := 17) rfl)) (hw _ (List.mem_of_getElem? (i := 18) rfl)) (hw _ (List.mem_of_getElem? (i := 20) rfl)) e4 Ar_6 E_o1 (own_fitC Ar_6 S_6 H_6 hint) (g := (mkF m 6 #[.val (.ref o0), .val (.ref o1), .val (.ref o2), .unset, .unset, .unset, .unset, .unset, .unset] [(.ref o1), (.ref o0)])) rfl (by rw [hml]; rfl) rfl (hb hby d1_6) (by decide) (W := 1) (by show 2 * 0 + _ ≤ _; exact Nat.le_of_eq rfl) (by decide) (cap := 0) (Nat.le_of_eq S_6) (by decide) (by decide)
  obtain ⟨b5, g5⟩ : ∃ z, z = h0.size := ⟨_, rfl⟩
  rw [← g5] at A5 Q5 st5
  have V_b5 : Ary Z h5 b5 .int 0 _ := ⟨_, A5, S_6, H_6⟩
  have E_b5 := Q5
  have g_b5 : n0 ≤ b5 := Nat.le_trans Z0 (Nat.le_of_eq g5.symm)
  have sz_b5 : h0.size ≤ b5 := (Nat.le_trans (Keep.refl h0 [o0]).1 (Nat.le_of_eq g5.symm))
  have K5 : Keep h0 h5 [o0] := (Keep.refl h0 [o0]).ext E5
  obtain ⟨T6, X6, e6, st6⟩ := castY X5 hx hZ hown (hw _ (List.mem_of_getElem? (i := 21) rfl)) e5 (Ins.self E_b5) (g := (mkF m 9 #[.val (.ref o0), .val (.ref o1), .val (.ref o2), .unset, .unset, .unset, .unset, .unset, .unset] [(.ref b5), (.ref o0)])) rfl rfl (hb hby d1_9)
  obtain ⟨T7, h7, X7, e7, W7, st7⟩ := putF X6 hx hZ hown (host := "") (Or.inl (hw _ (List.mem_of_getElem? (i := 23) rfl))) Via.refl e6 (F_lows_o0.ext E5) (E_o0.ext E5) (Or.inr ⟨(hw _ (List.mem_of_getElem? (i := 24) rfl)), rfl, hnm⟩) (hw _ (List.mem_of_getElem? (i := 6) rfl)) (ty := (.array .int)) (by decide) rfl rfl (g := (mkF m 12 #[.val (.ref o0), .val (.ref o1), .val (.ref o2), .unset, .unset, .unset, .unset, .unset, .unset] [(.ref b5), (.ref o0)])) rfl rfl (hb hby d1_12)
  have Fw7 := (F_lows_o0.ext E5).same W7
  have K7 : Keep h0 h7 [o0] := K5.wr W7 (Or.inl (List.mem_of_getElem? (i := 0) rfl))
  have N7 := Fr.snoc X7 N0 g_o0
  obtain ⟨cl_17, Ar_17, S_17, H_17⟩ := id ((V_o1.ext E5).other W7 ne_o1_o0)
  obtain ⟨T8, h8, k8, X8, e8, E8, A8, st8⟩ := newP X7 hx hZ (hw _ (List.mem_of_getElem? (i := 2) rfl)) e7 (g := (mkF m 18 #[.val (.ref o0), .val (.ref o1), .val (.ref o2), .unset, .unset, .unset, .unset, .unset, .unset] [(.int (0 : Int32)), (.ref o0)])) rfl (hb hby d1_18) rfl (by decide) (cap := 0) (by decide) (by decide) (by decide) (by decide)
  obtain ⟨b8, g8⟩ : ∃ z, z = h7.size := ⟨_, rfl⟩
  rw [← g8] at A8 st8
  have V_b8 : Ary Z h8 b8 .int 0 (fun _ => (.int (0 : Int32))) := Ary.new A8 (by decide) rfl
  have g_b8 : n0 ≤ b8 := Nat.le_trans (Nat.le_trans (Nat.le_trans Z0 E5.1) (Keep.of_wr W7).1) (Nat.le_of_eq g8.symm)
  have sz_b8 : h0.size ≤ b8 := (Nat.le_trans K7.1 (Nat.le_of_eq g8.symm))
  have K8 : Keep h0 h8 [o0] := K7.ext E8
  obtain ⟨T9, h9, X9, e9, W9, st9⟩ := putF X8 hx hZ hown (host := "") (Or.inl (hw _ (List.mem_of_getElem? (i := 25) rfl))) Via.refl e8 (((F_words_o0.ext E5).other W7 (Or.inr (slot_ne (Or.inr (hw _ (List.mem_of_getElem? (i := 26) rfl))) (Or.inr (hw _ (List.mem_of_getElem? (i := 24) rfl))) (by decide) (t := (.array .int)) (t' := (.array .int)) (by decide) (by decide)))).ext E8) (((E_o0.ext E5).wr W7).ext E8) (Or.inr ⟨(hw _ (List.mem_of_getElem? (i := 26) rfl)), rfl, hnm⟩) (hw _ (List.mem_of_getElem? (i := 6) rfl)) (ty := (.array .int)) (by decide) rfl rfl (g := (mkF m 20 #[.val (.ref o0), .val (.ref o1), .val (.ref o2), .unset, .unset, .unset, .unset, .unset, .unset] [(.ref b8), (.ref o0)])) rfl rfl (hb hby d1_20)
  have Fw9 := (((F_words_o0.ext E5).other W7 (Or.inr (slot_ne (Or.inr (hw _ (List.mem_of_getElem? (i := 26) rfl))) (Or.inr (hw _ (List.mem_of_getElem? (i := 24) rfl))) (by decide) (t := (.array .int)) (t' := (.array .int)) (by decide) (by decide)))).ext E8).same W9
  have K9 : Keep h0 h9 [o0] := K8.wr W9 (Or.inl (List.mem_of_getElem? (i := 0) rfl))
  have N9 := Fr.snoc X9 N7 g_o0
  obtain ⟨cl_25, Ar_25, S_25, H_25⟩ := id ((((V_o1.ext E5).other W7 ne_o1_o0).ext E8).other W9 ne_o1_o0)
  obtain ⟨T10, h10, k10, X10, e10, E10, A10, st10⟩ := newP X9 hx hZ (hw _ (List.mem_of_getElem? (i := 2) rfl)) e9 (g := (mkF m 26 #[.val (.ref o0), .val (.ref o1), .val (.ref o2), .unset, .unset, .unset, .unset, .unset, .unset] [(.int (0 : Int32)), (.ref o0)])) rfl (hb hby d1_26) rfl (by decide) (cap := 0) (by decide) (by decide) (by decide) (by decide)
  obtain ⟨b10, g10⟩ : ∃ z, z = h9.size := ⟨_, rfl⟩
  rw [← g10] at A10 st10
  have V_b10 : Ary Z h10 b10 .int 0 (fun _ => (.int (0 : Int32))) := Ary.new A10 (by decide) rfl
  have g_b10 : n0 ≤ b10 := Nat.le_trans (Nat.le_trans (Nat.le_trans (Nat.le_trans (Nat.le_trans Z0 E5.1) (Keep.of_wr W7).1) E8.1) (Keep.of_wr W9).1) (Nat.le_of_eq g10.symm)
  have sz_b10 : h0.size ≤ b10 := (Nat.le_trans K9.1 (Nat.le_of_eq g10.symm))
  have K10 : Keep h0 h10 [o0] := K9.ext E10
  obtain ⟨T11, h11, X11, e11, W11, st11⟩ := putF X10 hx hZ hown (host := "") (Or.inl (hw _ (List.mem_of_getElem? (i := 27) rfl))) Via.refl e10 (((((F_shifts_o0.ext E5).other W7 (Or.inr (slot_ne (Or.inr (hw _ (List.mem_of_getElem? (i := 28) rfl))) (Or.inr (hw _ (List.mem_of_getElem? (i := 24) rfl))) (by decide) (t := (.array .int)) (t' := (.array .int)) (by decide) (by decide)))).ext E8).other W9 (Or.inr (slot_ne (Or.inr (hw _ (List.mem_of_getElem? (i := 28) rfl))) (Or.inr (hw _ (List.mem_of_getElem? (i := 26) rfl))) (by decide) (t := (.array .int)) (t' := (.array .int)) (by decide) (by decide)))).ext E10) (((((E_o0.ext E5).wr W7).ext E8).wr W9).ext E10) (Or.inr ⟨(hw _ (List.mem_of_getElem? (i := 28) rfl)), rfl, hnm⟩) (hw _ (List.mem_of_getElem? (i := 6) rfl)) (ty := (.array .int)) (by decide) rfl rfl (g := (mkF m 28 #[.val (.ref o0), .val (.ref o1), .val (.ref o2), .unset, .unset, .unset, .unset, .unset, .unset] [(.ref b10), (.ref o0)])) rfl rfl (hb hby d1_28)
  have Fw11 := (((((F_shifts_o0.ext E5).other W7 (Or.inr (slot_ne (Or.inr (hw _ (List.mem_of_getElem? (i := 28) rfl))) (Or.inr (hw _ (List.mem_of_getElem? (i := 24) rfl))) (by decide) (t := (.array .int)) (t' := (.array .int)) (by decide) (by decide)))).ext E8).other W9 (Or.inr (slot_ne (Or.inr (hw _ (List.mem_of_getElem? (i := 28) rfl))) (Or.inr (hw _ (List.mem_of_getElem? (i := 26) rfl))) (by decide) (t := (.array .int)) (t' := (.array .int)) (by decide) (by decide)))).ext E10).same W11
  have K11 : Keep h0 h11 [o0] := K10.wr W11 (Or.inl (List.mem_of_getElem? (i := 0) rfl))
  have N11 := Fr.snoc X11 N9 g_o0
  obtain ⟨cl_33, Ar_33, S_33, H_33⟩ := id ((((((V_o1.ext E5).other W7 ne_o1_o0).ext E8).other W9 ne_o1_o0).ext E10).other W11 ne_o1_o0)
  obtain ⟨T12, h12, k12, X12, e12, E12, A12, st12⟩ := newP X11 hx hZ (hw _ (List.mem_of_getElem? (i := 3) rfl)) e11 (g := (mkF m 34 #[.val (.ref o0), .val (.ref o1), .val (.ref o2), .unset, .unset, .unset, .unset, .unset, .unset] [(.int (0 : Int32)), (.ref o0)])) rfl (hb hby d1_34) rfl (by decide) (cap := 0) (by decide) (by decide) (by decide) (by decide)
  obtain ⟨b12, g12⟩ : ∃ z, z = h11.size := ⟨_, rfl⟩
  rw [← g12] at A12 st12
  have V_b12 : Ary Z h12 b12 .long 0 (fun _ => (.long (0 : Int64))) := Ary.new A12 (by decide) rfl
  have g_b12 : n0 ≤ b12 := Nat.le_trans (Nat.le_trans (Nat.le_trans (Nat.le_trans (Nat.le_trans (Nat.le_trans (Nat.le_trans Z0 E5.1) (Keep.of_wr W7).1) E8.1) (Keep.of_wr W9).1) E10.1) (Keep.of_wr W11).1) (Nat.le_of_eq g12.symm)
  have sz_b12 : h0.size ≤ b12 := (Nat.le_trans K11.1 (Nat.le_of_eq g12.symm))
  have K12 : Keep h0 h12 [o0] := K11.ext E12
  obtain ⟨T13, h13, X13, e13, W13, st13⟩ := putF X12 hx hZ hown (host := "") (Or.inl (hw _ (List.mem_of_getElem? (i := 29) rfl))) Via.refl e12 (((((((F_masks_o0.ext E5).other W7 (Or.inr (slot_ne (Or.inr (hw _ (List.mem_of_getElem? (i := 30) rfl))) (Or.inr (hw _ (List.mem_of_getElem? (i := 24) rfl))) (by decide) (t := (.array .long)) (t' := (.array .int)) (by decide) (by decide)))).ext E8).other W9 (Or.inr (slot_ne (Or.inr (hw _ (List.mem_of_getElem? (i := 30) rfl))) (Or.inr (hw _ (List.mem_of_getElem? (i := 26) rfl))) (by decide) (t := (.array .long)) (t' := (.array .int)) (by decide) (by decide)))).ext E10).other W11 (Or.inr (slot_ne (Or.inr (hw _ (List.mem_of_getElem? (i := 30) rfl))) (Or.inr (hw _ (List.mem_of_getElem? (i := 28) rfl))) (by decide) (t := (.array .long)) (t' := (.array .int)) (by decide) (by decide)))).ext E12) (((((((E_o0.ext E5).wr W7).ext E8).wr W9).ext E10).wr W11).ext E12) (Or.inr ⟨(hw _ (List.mem_of_getElem? (i := 30) rfl)), rfl, hnm⟩) (hw _ (List.mem_of_getElem? (i := 6) rfl)) (ty := (.array .long)) (by decide) rfl rfl (g := (mkF m 36 #[.val (.ref o0), .val (.ref o1), .val (.ref o2), .unset, .unset, .unset, .unset, .unset, .unset] [(.ref b12), (.ref o0)])) rfl rfl (hb hby d1_36)
  have Fw13 := (((((((F_masks_o0.ext E5).other W7 (Or.inr (slot_ne (Or.inr (hw _ (List.mem_of_getElem? (i := 30) rfl))) (Or.inr (hw _ (List.mem_of_getElem? (i := 24) rfl))) (by decide) (t := (.array .long)) (t' := (.array .int)) (by decide) (by decide)))).ext E8).other W9 (Or.inr (slot_ne (Or.inr (hw _ (List.mem_of_getElem? (i := 30) rfl))) (Or.inr (hw _ (List.mem_of_getElem? (i := 26) rfl))) (by decide) (t := (.array .long)) (t' := (.array .int)) (by decide) (by decide)))).ext E10).other W11 (Or.inr (slot_ne (Or.inr (hw _ (List.mem_of_getElem? (i := 30) rfl))) (Or.inr (hw _ (List.mem_of_getElem? (i := 28) rfl))) (by decide) (t := (.array .long)) (t' := (.array .int)) (by decide) (by decide)))).ext E12).same W13
  have K13 : Keep h0 h13 [o0] := K12.wr W13 (Or.inl (List.mem_of_getElem? (i := 0) rfl))
  have N13 := Fr.snoc X13 N11 g_o0
  have Vend_o1 := ((((((((V_o1.ext E5).other W7 ne_o1_o0).ext E8).other W9 ne_o1_o0).ext E10).other W11 ne_o1_o0).ext E12).other W13 ne_o1_o0)
  have Vend_o2 := ((((((((V_o2.ext E5).other W7 ne_o2_o0).ext E8).other W9 ne_o2_o0).ext E10).other W11 ne_o2_o0).ext E12).other W13 ne_o2_o0)
  have Fend_wordCount_o0 := ((((((((F_wordCount_o0.ext E5).other W7 (Or.inr (slot_ne (Or.inr (hw _ (List.mem_of_getElem? (i := 32) rfl))) (Or.inr (hw _ (List.mem_of_getElem? (i := 24) rfl))) (by decide) (t := .int) (t' := (.array .int)) (by decide) (by decide)))).ext E8).other W9 (Or.inr (slot_ne (Or.inr (hw _ (List.mem_of_getElem? (i := 32) rfl))) (Or.inr (hw _ (List.mem_of_getElem? (i := 26) rfl))) (by decide) (t := .int) (t' := (.array .int)) (by decide) (by decide)))).ext E10).other W11 (Or.inr (slot_ne (Or.inr (hw _ (List.mem_of_getElem? (i := 32) rfl))) (Or.inr (hw _ (List.mem_of_getElem? (i := 28) rfl))) (by decide) (t := .int) (t' := (.array .int)) (by decide) (by decide)))).ext E12).other W13 (Or.inr (slot_ne (Or.inr (hw _ (List.mem_of_getElem? (i := 32) rfl))) (Or.inr (hw _ (List.mem_of_getElem? (i := 30) rfl))) (by decide) (t := .int) (t' := (.array .long)) (by decide) (by decide))))
  have Eend_o1 := ((((((((E_o1.ext E5).wr W7).ext E8).wr W9).ext E10).wr W11).ext E12).wr W13)
  have Vend_b5 := (((((((V_b5.other W7 (Ne.symm (Nat.ne_of_lt (Nat.lt_of_lt_of_le F_wordCount_o0.lt (Nat.le_of_eq g5.symm))))).ext E8).other W9 (Ne.symm (Nat.ne_of_lt (Nat.lt_of_lt_of_le F_wordCount_o0.lt (Nat.le_of_eq g5.symm))))).ext E10).other W11 (Ne.symm (Nat.ne_of_lt (Nat.lt_of_lt_of_le F_wordCount_o0.lt (Nat.le_of_eq g5.symm))))).ext E12).other W13 (Ne.symm (Nat.ne_of_lt (Nat.lt_of_lt_of_le F_wordCount_o0.lt (Nat.le_of_eq g5.symm)))))
  have Eend_b5 := (((((((E_b5.wr W7).ext E8).wr W9).ext E10).wr W11).ext E12).wr W13)
  have Eend_o0 := ((((((((E_o0.ext E5).wr W7).ext E8).wr W9).ext E10).wr W11).ext E12).wr W13)
  have Fend_lows_o0 := ((((((Fw7.ext E8).other W9 (Or.inr (slot_ne (Or.inr (hw _ (List.mem_of_getElem? (i := 24) rfl))) (Or.inr (hw _ (List.mem_of_getElem? (i := 26) rfl))) (by decide) (t := (.array .int)) (t' := (.array .int)) (by decide) (by decide)))).ext E10).other W11 (Or.inr (slot_ne (Or.inr (hw _ (List.mem_of_getElem? (i := 24) rfl))) (Or.inr (hw _ (List.mem_of_getElem? (i := 28) rfl))) (by decide) (t := (.array .int)) (t' := (.array .int)) (by decide) (by decide)))).ext E12).other W13 (Or.inr (slot_ne (Or.inr (hw _ (List.mem_of_getElem? (i := 24) rfl))) (Or.inr (hw _ (List.mem_of_getElem? (i := 30) rfl))) (by decide) (t := (.array .int)) (t' := (.array .long)) (by decide) (by decide))))
  have Vend_b8 := (((((V_b8.other W9 (Ne.symm (Nat.ne_of_lt (Nat.lt_of_lt_of_le ((F_wordCount_o0.ext E5).other W7 (Or.inr (slot_ne (Or.inr (hw _ (List.mem_of_getElem? (i := 32) rfl))) (Or.inr (hw _ (List.mem_of_getElem? (i := 24) rfl))) (by decide) (t := .int) (t' := (.array .int)) (by decide) (by decide)))).lt (Nat.le_of_eq g8.symm))))).ext E10).other W11 (Ne.symm (Nat.ne_of_lt (Nat.lt_of_lt_of_le ((F_wordCount_o0.ext E5).other W7 (Or.inr (slot_ne (Or.inr (hw _ (List.mem_of_getElem? (i := 32) rfl))) (Or.inr (hw _ (List.mem_of_getElem? (i := 24) rfl))) (by decide) (t := .int) (t' := (.array .int)) (by decide) (by decide)))).lt (Nat.le_of_eq g8.symm))))).ext E12).other W13 (Ne.symm (Nat.ne_of_lt (Nat.lt_of_lt_of_le ((F_wordCount_o0.ext E5).other W7 (Or.inr (slot_ne (Or.inr (hw _ (List.mem_of_getElem? (i := 32) rfl))) (Or.inr (hw _ (List.mem_of_getElem? (i := 24) rfl))) (by decide) (t := .int) (t' := (.array .int)) (by decide) (by decide)))).lt (Nat.le_of_eq g8.symm)))))
  have Fend_words_o0 := ((((Fw9.ext E10).other W11 (Or.inr (slot_ne (Or.inr (hw _ (List.mem_of_getElem? (i := 26) rfl))) (Or.inr (hw _ (List.mem_of_getElem? (i := 28) rfl))) (by decide) (t := (.array .int)) (t' := (.array .int)) (by decide) (by decide)))).ext E12).other W13 (Or.inr (slot_ne (Or.inr (hw _ (List.mem_of_getElem? (i := 26) rfl))) (Or.inr (hw _ (List.mem_of_getElem? (i := 30) rfl))) (by decide) (t := (.array .int)) (t' := (.array .long)) (by decide) (by decide))))
  have Vend_b10 := (((V_b10.other W11 (Ne.symm (Nat.ne_of_lt (Nat.lt_of_lt_of_le ((((F_wordCount_o0.ext E5).other W7 (Or.inr (slot_ne (Or.inr (hw _ (List.mem_of_getElem? (i := 32) rfl))) (Or.inr (hw _ (List.mem_of_getElem? (i := 24) rfl))) (by decide) (t := .int) (t' := (.array .int)) (by decide) (by decide)))).ext E8).other W9 (Or.inr (slot_ne (Or.inr (hw _ (List.mem_of_getElem? (i := 32) rfl))) (Or.inr (hw _ (List.mem_of_getElem? (i := 26) rfl))) (by decide) (t := .int) (t' := (.array .int)) (by decide) (by decide)))).lt (Nat.le_of_eq g10.symm))))).ext E12).other W13 (Ne.symm (Nat.ne_of_lt (Nat.lt_of_lt_of_le ((((F_wordCount_o0.ext E5).other W7 (Or.inr (slot_ne (Or.inr (hw _ (List.mem_of_getElem? (i := 32) rfl))) (Or.inr (hw _ (List.mem_of_getElem? (i := 24) rfl))) (by decide) (t := .int) (t' := (.array .int)) (by decide) (by decide)))).ext E8).other W9 (Or.inr (slot_ne (Or.inr (hw _ (List.mem_of_getElem? (i := 32) rfl))) (Or.inr (hw _ (List.mem_of_getElem? (i := 26) rfl))) (by decide) (t := .int) (t' := (.array .int)) (by decide) (by decide)))).lt (Nat.le_of_eq g10.symm)))))
  have Fend_shifts_o0 := ((Fw11.ext E12).other W13 (Or.inr (slot_ne (Or.inr (hw _ (List.mem_of_getElem? (i := 28) rfl))) (Or.inr (hw _ (List.mem_of_getElem? (i := 30) rfl))) (by decide) (t := (.array .int)) (t' := (.array .long)) (by decide) (by decide))))
  have Vend_b12 := (V_b12.other W13 (Ne.symm (Nat.ne_of_lt (Nat.lt_of_lt_of_le ((((((F_wordCount_o0.ext E5).other W7 (Or.inr (slot_ne (Or.inr (hw _ (List.mem_of_getElem? (i := 32) rfl))) (Or.inr (hw _ (List.mem_of_getElem? (i := 24) rfl))) (by decide) (t := .int) (t' := (.array .int)) (by decide) (by decide)))).ext E8).other W9 (Or.inr (slot_ne (Or.inr (hw _ (List.mem_of_getElem? (i := 32) rfl))) (Or.inr (hw _ (List.mem_of_getElem? (i := 26) rfl))) (by decide) (t := .int) (t' := (.array .int)) (by decide) (by decide)))).ext E10).other W11 (Or.inr (slot_ne (Or.inr (hw _ (List.mem_of_getElem? (i := 32) rfl))) (Or.inr (hw _ (List.mem_of_getElem? (i := 28) rfl))) (by decide) (t := .int) (t' := (.array .int)) (by decide) (by decide)))).lt (Nat.le_of_eq g12.symm)))))
  have Fend_masks_o0 := Fw13
  have ne_o1_b5 : o1 ≠ b5 := (Nat.ne_of_lt (Nat.lt_of_lt_of_le V_o1.lt (Nat.le_of_eq g5.symm)))
  have ne_o2_b5 : o2 ≠ b5 := (Nat.ne_of_lt (Nat.lt_of_lt_of_le V_o2.lt (Nat.le_of_eq g5.symm)))
  have ne_o0_b5 : o0 ≠ b5 := (Nat.ne_of_lt (Nat.lt_of_lt_of_le F_wordCount_o0.lt (Nat.le_of_eq g5.symm)))
  have ne_o1_b8 : o1 ≠ b8 := (Nat.ne_of_lt (Nat.lt_of_lt_of_le ((V_o1.ext E5).other W7 ne_o1_o0).lt (Nat.le_of_eq g8.symm)))
  have ne_o2_b8 : o2 ≠ b8 := (Nat.ne_of_lt (Nat.lt_of_lt_of_le ((V_o2.ext E5).other W7 ne_o2_o0).lt (Nat.le_of_eq g8.symm)))
  have ne_o0_b8 : o0 ≠ b8 := (Nat.ne_of_lt (Nat.lt_of_lt_of_le ((F_wordCount_o0.ext E5).other W7 (Or.inr (slot_ne (Or.inr (hw _ (List.mem_of_getElem? (i := 32) rfl))) (Or.inr (hw _ (List.mem_of_getElem? (i := 24) rfl))) (by decide) (t := .int) (t' := (.array .int)) (by decide) (by decide)))).lt (Nat.le_of_eq g8.symm)))
  have ne_b5_b8 : b5 ≠ b8 := (Nat.ne_of_lt (Nat.lt_of_lt_of_le (V_b5.other W7 (Ne.symm (Nat.ne_of_lt (Nat.lt_of_lt_of_le F_wordCount_o0.lt (Nat.le_of_eq g5.symm))))).lt (Nat.le_of_eq g8.symm)))
  have ne_o1_b10 : o1 ≠ b10 := (Nat.ne_of_lt (Nat.lt_of_lt_of_le ((((V_o1.ext E5).other W7 ne_o1_o0).ext E8).other W9 ne_o1_o0).lt (Nat.le_of_eq g10.symm)))
  have ne_o2_b10 : o2 ≠ b10 := (Nat.ne_of_lt (Nat.lt_of_lt_of_le ((((V_o2.ext E5).other W7 ne_o2_o0).ext E8).other W9 ne_o2_o0).lt (Nat.le_of_eq g10.symm)))
  have ne_o0_b10 : o0 ≠ b10 := (Nat.ne_of_lt (Nat.lt_of_lt_of_le ((((F_wordCount_o0.ext E5).other W7 (Or.inr (slot_ne (Or.inr (hw _ (List.mem_of_getElem? (i := 32) rfl))) (Or.inr (hw _ (List.mem_of_getElem? (i := 24) rfl))) (by decide) (t := .int) (t' := (.array .int)) (by decide) (by decide)))).ext E8).other W9 (Or.inr (slot_ne (Or.inr (hw _ (List.mem_of_getElem? (i := 32) rfl))) (Or.inr (hw _ (List.mem_of_getElem? (i := 26) rfl))) (by decide) (t := .int) (t' := (.array .int)) (by decide) (by decide)))).lt (Nat.le_of_eq g10.symm)))
  have ne_b5_b10 : b5 ≠ b10 := (Nat.ne_of_lt (Nat.lt_of_lt_of_le (((V_b5.other W7 (Ne.symm (Nat.ne_of_lt (Nat.lt_of_lt_of_le F_wordCount_o0.lt (Nat.le_of_eq g5.symm))))).ext E8).other W9 (Ne.symm (Nat.ne_of_lt (Nat.lt_of_lt_of_le F_wordCount_o0.lt (Nat.le_of_eq g5.symm))))).lt (Nat.le_of_eq g10.symm)))
  have ne_b8_b10 : b8 ≠ b10 := (Nat.ne_of_lt (Nat.lt_of_lt_of_le (V_b8.other W9 (Ne.symm (Nat.ne_of_lt (Nat.lt_of_lt_of_le ((F_wordCount_o0.ext E5).other W7 (Or.inr (slot_ne (Or.inr (hw _ (List.mem_of_getElem? (i := 32) rfl))) (Or.inr (hw _ (List.mem_of_getElem? (i := 24) rfl))) (by decide) (t := .int) (t' := (.array .int)) (by decide) (by decide)))).lt (Nat.le_of_eq g8.symm))))).lt (Nat.le_of_eq g10.symm)))
  have ne_o1_b12 : o1 ≠ b12 := (Nat.ne_of_lt (Nat.lt_of_lt_of_le ((((((V_o1.ext E5).other W7 ne_o1_o0).ext E8).other W9 ne_o1_o0).ext E10).other W11 ne_o1_o0).lt (Nat.le_of_eq g12.symm)))
  have ne_o2_b12 : o2 ≠ b12 := (Nat.ne_of_lt (Nat.lt_of_lt_of_le ((((((V_o2.ext E5).other W7 ne_o2_o0).ext E8).other W9 ne_o2_o0).ext E10).other W11 ne_o2_o0).lt (Nat.le_of_eq g12.symm)))
  have ne_o0_b12 : o0 ≠ b12 := (Nat.ne_of_lt (Nat.lt_of_lt_of_le ((((((F_wordCount_o0.ext E5).other W7 (Or.inr (slot_ne (Or.inr (hw _ (List.mem_of_getElem? (i := 32) rfl))) (Or.inr (hw _ (List.mem_of_getElem? (i := 24) rfl))) (by decide) (t := .int) (t' := (.array .int)) (by decide) (by decide)))).ext E8).other W9 (Or.inr (slot_ne (Or.inr (hw _ (List.mem_of_getElem? (i := 32) rfl))) (Or.inr (hw _ (List.mem_of_getElem? (i := 26) rfl))) (by decide) (t := .int) (t' := (.array .int)) (by decide) (by decide)))).ext E10).other W11 (Or.inr (slot_ne (Or.inr (hw _ (List.mem_of_getElem? (i := 32) rfl))) (Or.inr (hw _ (List.mem_of_getElem? (i := 28) rfl))) (by decide) (t := .int) (t' := (.array .int)) (by decide) (by decide)))).lt (Nat.le_of_eq g12.symm)))
  have ne_b5_b12 : b5 ≠ b12 := (Nat.ne_of_lt (Nat.lt_of_lt_of_le (((((V_b5.other W7 (Ne.symm (Nat.ne_of_lt (Nat.lt_of_lt_of_le F_wordCount_o0.lt (Nat.le_of_eq g5.symm))))).ext E8).other W9 (Ne.symm (Nat.ne_of_lt (Nat.lt_of_lt_of_le F_wordCount_o0.lt (Nat.le_of_eq g5.symm))))).ext E10).other W11 (Ne.symm (Nat.ne_of_lt (Nat.lt_of_lt_of_le F_wordCount_o0.lt (Nat.le_of_eq g5.symm))))).lt (Nat.le_of_eq g12.symm)))
  have ne_b8_b12 : b8 ≠ b12 := (Nat.ne_of_lt (Nat.lt_of_lt_of_le (((V_b8.other W9 (Ne.symm (Nat.ne_of_lt (Nat.lt_of_lt_of_le ((F_wordCount_o0.ext E5).other W7 (Or.inr (slot_ne (Or.inr (hw _ (List.mem_of_getElem? (i := 32) rfl))) (Or.inr (hw _ (List.mem_of_getElem? (i := 24) rfl))) (by decide) (t := .int) (t' := (.array .int)) (by decide) (by decide)))).lt (Nat.le_of_eq g8.symm))))).ext E10).other W11 (Ne.symm (Nat.ne_of_lt (Nat.lt_of_lt_of_le ((F_wordCount_o0.ext E5).other W7 (Or.inr (slot_ne (Or.inr (hw _ (List.mem_of_getElem? (i := 32) rfl))) (Or.inr (hw _ (List.mem_of_getElem? (i := 24) rfl))) (by decide) (t := .int) (t' := (.array .int)) (by decide) (by decide)))).lt (Nat.le_of_eq g8.symm))))).lt (Nat.le_of_eq g12.symm)))
  have ne_b10_b12 : b10 ≠ b12 := (Nat.ne_of_lt (Nat.lt_of_lt_of_le (V_b10.other W11 (Ne.symm (Nat.ne_of_lt (Nat.lt_of_lt_of_le ((((F_wordCount_o0.ext E5).other W7 (Or.inr (slot_ne (Or.inr (hw _ (List.mem_of_getElem? (i := 32) rfl))) (Or.inr (hw _ (List.mem_of_getElem? (i := 24) rfl))) (by decide) (t := .int) (t' := (.array .int)) (by decide) (by decide)))).ext E8).other W9 (Or.inr (slot_ne (Or.inr (hw _ (List.mem_of_getElem? (i := 32) rfl))) (Or.inr (hw _ (List.mem_of_getElem? (i := 26) rfl))) (by decide) (t := .int) (t' := (.array .int)) (by decide) (by decide)))).lt (Nat.le_of_eq g10.symm))))).lt (Nat.le_of_eq g12.symm)))
  have Zend : n0 ≤ h13.size := (Nat.le_trans (Nat.le_trans (Nat.le_trans (Nat.le_trans (Nat.le_trans (Nat.le_trans (Nat.le_trans (Nat.le_trans Z0 E5.1) (Keep.of_wr W7).1) E8.1) (Keep.of_wr W9).1) E10.1) (Keep.of_wr W11).1) E12.1) (Keep.of_wr W13).1)
  have Kend := K13
  refine ⟨T13, _, _, b8, b10, b12, X13, e13, N13, Kend, Zend, ⟨sz_b8, sz_b10, sz_b12, Eend_o0, Fend_words_o0, Fend_shifts_o0, Fend_masks_o0, Fend_wordCount_o0, Vend_o1, Vend_o2, ⟨_, Vend_b8⟩, ⟨_, Vend_b10⟩, ⟨_, Vend_b12⟩, ne_o0_b8, ne_o0_b10, ne_o0_b12, ne_o1_b8, ne_o1_b10, ne_o1_b12, ne_o2_b8, ne_o2_b10, ne_o2_b12, ne_b8_b10, ne_b8_b12, ne_b10_b12⟩, fun target kt => ?_⟩
  show Steps p.tables e below (T0.setTop (mkF m 0 #[.val (.ref o0), .val (.ref o1), .val (.ref o2), .unset, .unset, .unset, .unset, .unset, .unset] [])) _
  refine XS.aloadN X0.here hx rfl (hb hby d1_0) rfl rfl ?_
  show Steps p.tables e below (T0.setTop (mkF m 1 #[.val (.ref o0), .val (.ref o1), .val (.ref o2), .unset, .unset, .unset, .unset, .unset, .unset] [(.ref o0)])) _
  refine st4 _ ?_
  show Steps p.tables e below (T4.setTop (mkF m 4 #[.val (.ref o0), .val (.ref o1), .val (.ref o2), .unset, .unset, .unset, .unset, .unset, .unset] [])) _
  refine XS.aloadN X4.here hx rfl (hb hby d1_4) rfl rfl ?_
  show Steps p.tables e below (T4.setTop (mkF m 5 #[.val (.ref o0), .val (.ref o1), .val (.ref o2), .unset, .unset, .unset, .unset, .unset, .unset] [(.ref o0)])) _
  refine XS.aloadN X4.here hx rfl (hb hby d1_5) rfl rfl ?_
  show Steps p.tables e below (T4.setTop (mkF m 6 #[.val (.ref o0), .val (.ref o1), .val (.ref o2), .unset, .unset, .unset, .unset, .unset, .unset] [(.ref o1), (.ref o0)])) _
  refine st5 _ ?_
  show Steps p.tables e below (T5.setTop (mkF m 9 #[.val (.ref o0), .val (.ref o1), .val (.ref o2), .unset, .unset, .unset, .unset, .unset, .unset] [(.ref b5), (.ref o0)])) _
  refine st6 _ ?_
  show Steps p.tables e below (T6.setTop (mkF m 12 #[.val (.ref o0), .val (.ref o1), .val (.ref o2), .unset, .unset, .unset, .unset, .unset, .unset] [(.ref b5), (.ref o0)])) _
  refine st7 _ ?_
  show Steps p.tables e below (T7.setTop (mkF m 15 #[.val (.ref o0), .val (.ref o1), .val (.ref o2), .unset, .unset, .unset, .unset, .unset, .unset] [])) _
  refine XS.aloadN X7.here hx rfl (hb hby d1_15) rfl rfl ?_
  show Steps p.tables e below (T7.setTop (mkF m 16 #[.val (.ref o0), .val (.ref o1), .val (.ref o2), .unset, .unset, .unset, .unset, .unset, .unset] [(.ref o0)])) _
  refine XS.aloadN X7.here hx rfl (hb hby d1_16) rfl rfl ?_
  show Steps p.tables e below (T7.setTop (mkF m 17 #[.val (.ref o0), .val (.ref o1), .val (.ref o2), .unset, .unset, .unset, .unset, .unset, .unset] [(.ref o1), (.ref o0)])) _
  refine X7.arraylength hx (by rw [e7]; exact Ar_17.1) (State.isArrayOf_alike hZ.alike Ar_17.2.1) (g := (mkF m 17 #[.val (.ref o0), .val (.ref o1), .val (.ref o2), .unset, .unset, .unset, .unset, .unset, .unset] [(.ref o1), (.ref o0)])) rfl rfl (hb hby d1_17) _ ?_
  rw [S_17]
  show Steps p.tables e below (T7.setTop (mkF m 18 #[.val (.ref o0), .val (.ref o1), .val (.ref o2), .unset, .unset, .unset, .unset, .unset, .unset] [(.int (0 : Int32)), (.ref o0)])) _
  refine st8 _ ?_
  show Steps p.tables e below (T8.setTop (mkF m 20 #[.val (.ref o0), .val (.ref o1), .val (.ref o2), .unset, .unset, .unset, .unset, .unset, .unset] [(.ref b8), (.ref o0)])) _
  refine st9 _ ?_
  show Steps p.tables e below (T9.setTop (mkF m 23 #[.val (.ref o0), .val (.ref o1), .val (.ref o2), .unset, .unset, .unset, .unset, .unset, .unset] [])) _
  refine XS.aloadN X9.here hx rfl (hb hby d1_23) rfl rfl ?_
  show Steps p.tables e below (T9.setTop (mkF m 24 #[.val (.ref o0), .val (.ref o1), .val (.ref o2), .unset, .unset, .unset, .unset, .unset, .unset] [(.ref o0)])) _
  refine XS.aloadN X9.here hx rfl (hb hby d1_24) rfl rfl ?_
  show Steps p.tables e below (T9.setTop (mkF m 25 #[.val (.ref o0), .val (.ref o1), .val (.ref o2), .unset, .unset, .unset, .unset, .unset, .unset] [(.ref o1), (.ref o0)])) _
  refine X9.arraylength hx (by rw [e9]; exact Ar_25.1) (State.isArrayOf_alike hZ.alike Ar_25.2.1) (g := (mkF m 25 #[.val (.ref o0), .val (.ref o1), .val (.ref o2), .unset, .unset, .unset, .unset, .unset, .unset] [(.ref o1), (.ref o0)])) rfl rfl (hb hby d1_25) _ ?_
  rw [S_25]
  show Steps p.tables e below (T9.setTop (mkF m 26 #[.val (.ref o0), .val (.ref o1), .val (.ref o2), .unset, .unset, .unset, .unset, .unset, .unset] [(.int (0 : Int32)), (.ref o0)])) _
  refine st10 _ ?_
  show Steps p.tables e below (T10.setTop (mkF m 28 #[.val (.ref o0), .val (.ref o1), .val (.ref o2), .unset, .unset, .unset, .unset, .unset, .unset] [(.ref b10), (.ref o0)])) _
  refine st11 _ ?_
  show Steps p.tables e below (T11.setTop (mkF m 31 #[.val (.ref o0), .val (.ref o1), .val (.ref o2), .unset, .unset, .unset, .unset, .unset, .unset] [])) _
  refine XS.aloadN X11.here hx rfl (hb hby d1_31) rfl rfl ?_
  show Steps p.tables e below (T11.setTop (mkF m 32 #[.val (.ref o0), .val (.ref o1), .val (.ref o2), .unset, .unset, .unset, .unset, .unset, .unset] [(.ref o0)])) _
  refine XS.aloadN X11.here hx rfl (hb hby d1_32) rfl rfl ?_
  show Steps p.tables e below (T11.setTop (mkF m 33 #[.val (.ref o0), .val (.ref o1), .val (.ref o2), .unset, .unset, .unset, .unset, .unset, .unset] [(.ref o1), (.ref o0)])) _
  refine X11.arraylength hx (by rw [e11]; exact Ar_33.1) (State.isArrayOf_alike hZ.alike Ar_33.2.1) (g := (mkF m 33 #[.val (.ref o0), .val (.ref o1), .val (.ref o2), .unset, .unset, .unset, .unset, .unset, .unset] [(.ref o1), (.ref o0)])) rfl rfl (hb hby d1_33) _ ?_
  rw [S_33]
  show Steps p.tables e below (T11.setTop (mkF m 34 #[.val (.ref o0), .val (.ref o1), .val (.ref o2), .unset, .unset, .unset, .unset, .unset, .unset] [(.int (0 : Int32)), (.ref o0)])) _
  refine st12 _ ?_
  show Steps p.tables e below (T12.setTop (mkF m 36 #[.val (.ref o0), .val (.ref o1), .val (.ref o2), .unset, .unset, .unset, .unset, .unset, .unset] [(.ref b12), (.ref o0)])) _
  refine st13 _ ?_
  show Steps p.tables e below (T13.setTop (mkF m 39 #[.val (.ref o0), .val (.ref o1), .val (.ref o2), .unset, .unset, .unset, .unset, .unset, .unset] [])) _
  refine XS.iconst X13.here hx rfl (hb hby d1_39) ?_
  show Steps p.tables e below (T13.setTop (mkF m 40 #[.val (.ref o0), .val (.ref o1), .val (.ref o2), .unset, .unset, .unset, .unset, .unset, .unset] [(.int (0 : Int32))])) _
  refine XS.istoreN X13.here hx rfl (hb hby d1_40) rfl (l' := #[.val (.ref o0), .val (.ref o1), .val (.ref o2), .val (.int (0 : Int32)), .unset, .unset, .unset, .unset, .unset]) rfl ?_
  show Steps p.tables e below (T13.setTop (mkF m 41 #[.val (.ref o0), .val (.ref o1), .val (.ref o2), .val (.int (0 : Int32)), .unset, .unset, .unset, .unset, .unset] [])) _
  refine XS.iconst X13.here hx rfl (hb hby d1_41) ?_
  show Steps p.tables e below (T13.setTop (mkF m 42 #[.val (.ref o0), .val (.ref o1), .val (.ref o2), .val (.int (0 : Int32)), .unset, .unset, .unset, .unset, .unset] [(.int (0 : Int32))])) _
  refine XS.istore X13.here hx rfl (hb hby d1_42) rfl (l' := #[.val (.ref o0), .val (.ref o1), .val (.ref o2), .val (.int (0 : Int32)), .val (.int (0 : Int32)), .unset, .unset, .unset, .unset]) rfl ?_
  show Steps p.tables e below (T13.setTop (mkF m 44 #[.val (.ref o0), .val (.ref o1), .val (.ref o2), .val (.int (0 : Int32)), .val (.int (0 : Int32)), .unset, .unset, .unset, .unset] [])) _
  refine XS.iconst X13.here hx rfl (hb hby d1_44) ?_
  show Steps p.tables e below (T13.setTop (mkF m 45 #[.val (.ref o0), .val (.ref o1), .val (.ref o2), .val (.int (0 : Int32)), .val (.int (0 : Int32)), .unset, .unset, .unset, .unset] [(.int (0 : Int32))])) _
  refine XS.istore X13.here hx rfl (hb hby d1_45) rfl (l' := #[.val (.ref o0), .val (.ref o1), .val (.ref o2), .val (.int (0 : Int32)), .val (.int (0 : Int32)), .val (.int (0 : Int32)), .unset, .unset, .unset]) rfl ?_
  exact kt
set_option maxRecDepth 65536 in
set_option maxHeartbeats 40000000 in
theorem pf1 {p : Program} {l : Launch} {e : Env} {s : State} {m : MethodId} {args : Array Value} {below : List Frame} {meth : Method} {c : Code} {T0 : State} {locs : List Loc} {Z : State} {a0 : Array Value} {h0 : Heap} (o0 : Addr) (o1 : Addr) (o2 : Addr) (n0 : Nat) (lo hi : Int32) (u_lows_o0 : Value) (u_words_o0 : Value) (u_shifts_o0 : Value) (u_masks_o0 : Value)
    (X0 : Stand p l e own_R1 s m args below meth c T0 locs 0 0) (hx : p.tables.exec = Jvm.exec) (hZ : Z.Warmed39 s.vm) (hw : ∀ d ∈ tables_1, d.before a0 Z = true) (hby : c.code = prog_77_method_1_code) (hml : c.maxLocals = 9) (hown : s.vm.findClass "com/example/tight_bounds/tightbounds/model/StateLayout" = some m.cls) (e0 : T0.heap = h0) (Z0 : n0 ≤ h0.size) (N0 : Fr n0 locs) (hnm : meth.name = "<init>") (ne_o1_o0 : o1 ≠ o0) (ne_o2_o0 : o2 ≠ o0) (hint : ∀ j, j < 1 → ∃ w, (fun _ => Value.int lo) j = .int w) (V_o1 : Ary Z h0 o1 .int 1 (fun _ => .int lo)) (V_o2 : Ary Z h0 o2 .int 1 (fun _ => .int hi)) (F_wordCount_o0 : Fld Z h0 o0 "com/example/tight_bounds/tightbounds/model/StateLayout" "wordCount" "I" (.int (0 : Int32))) (E_o1 : Exa Z h0 o1 "[I") (E_o0 : Exa Z h0 o0 "com/example/tight_bounds/tightbounds/model/StateLayout") (F_lows_o0 : Fld Z h0 o0 "com/example/tight_bounds/tightbounds/model/StateLayout" "lows" "[I" u_lows_o0) (g_o0 : n0 ≤ o0) (F_words_o0 : Fld Z h0 o0 "com/example/tight_bounds/tightbounds/model/StateLayout" "words" "[I" u_words_o0) (F_shifts_o0 : Fld Z h0 o0 "com/example/tight_bounds/tightbounds/model/StateLayout" "shifts" "[I" u_shifts_o0) (F_masks_o0 : Fld Z h0 o0 "com/example/tight_bounds/tightbounds/model/StateLayout" "masks" "[J" u_masks_o0) :
    ∃ (T' : State) (h' : Heap) (locs' : List Loc) (w s' m' : Addr), Stand p l e own_R1 s m args below meth c T' locs' (0 + 4) (0 + 4) ∧ T'.heap = h' ∧ Fr n0 locs' ∧ Keep h0 h' [o0] ∧ n0 ≤ h'.size ∧ own_lay Z h' h0.size o0 o1 o2 w s' m' 1 lo hi ∧
      ∀ target, Steps p.tables e below (T'.setTop (mkF m 47 #[.val (.ref o0), .val (.ref o1), .val (.ref o2), .val (.int (0 : Int32)), .val (.int (0 : Int32)), .val (.int (0 : Int32)), .unset, .unset, .unset] [])) target → Steps p.tables e below (T0.setTop (mkF m 0 #[.val (.ref o0), .val (.ref o1), .val (.ref o2), .unset, .unset, .unset, .unset, .unset, .unset] [])) target := by
  obtain ⟨T4, X4, e4, st4⟩ := initO X0 hx hZ hown (hw _ (List.mem_of_getElem? (i := 11) rfl)) (hw _ (List.mem_of_getElem? (i := 12) rfl)) (hw _ (List.mem_of_getElem? (i := 13) rfl)) e0 (g := (mkF m 1 #[.val (.ref o0), .val (.ref o1), .val (.ref o2), .unset, .unset, .unset, .unset, .unset, .unset] [(.ref o0)])) rfl (by rw [hml]; rfl) rfl (hb hby d1_1) (by decide) (W := 0) (by show 2 * 0 + _ ≤ _; exact Nat.le_of_eq rfl) (by decide)
  obtain ⟨cl_6, Ar_6, S_6, H_6⟩ := id V_o1
  obtain ⟨T5, h5, X5, e5, E5, A5, Q5, st5⟩ := cloneA X4 hx hZ hown (hw _ (List.mem_of_getElem? (i := 14) rfl)) (hw _ (List.mem_of_getElem? (i := 15) rfl)) (hw _ (List.mem_of_getElem? (i := 19) rfl)) (hw _ (List.mem_of_getElem? (i := 17) rfl)) (hw _ (List.mem_of_getElem? (i := 18) rfl)) (hw _ (List.mem_of_getElem? (i := 20) rfl)) e4 Ar_6 E_o1 (own_fitC Ar_6 S_6 H_6 hint) (g := (mkF m 6 #[.val (.ref o0), .val (.ref o1), .val (.ref o2), .unset, .unset, .unset, .unset, .unset, .unset] [(.ref o1), (.ref o0)])) rfl (by rw [hml]; rfl) rfl (hb hby d1_6) (by decide) (W := 1) (by show 2 * 0 + _ ≤ _; exact Nat.le_of_eq rfl) (by decide) (cap := 1) (Nat.le_of_eq S_6) (by decide) (by decide)
  obtain ⟨b5, g5⟩ : ∃ z, z = h0.size := ⟨_, rfl⟩
  rw [← g5] at A5 Q5 st5
  have V_b5 : Ary Z h5 b5 .int 1 _ := ⟨_, A5, S_6, H_6⟩
  have E_b5 := Q5
  have g_b5 : n0 ≤ b5 := Nat.le_trans Z0 (Nat.le_of_eq g5.symm)
  have sz_b5 : h0.size ≤ b5 := (Nat.le_trans (Keep.refl h0 [o0]).1 (Nat.le_of_eq g5.symm))
  have K5 : Keep h0 h5 [o0] := (Keep.refl h0 [o0]).ext E5
  obtain ⟨T6, X6, e6, st6⟩ := castY X5 hx hZ hown (hw _ (List.mem_of_getElem? (i := 21) rfl)) e5 (Ins.self E_b5) (g := (mkF m 9 #[.val (.ref o0), .val (.ref o1), .val (.ref o2), .unset, .unset, .unset, .unset, .unset, .unset] [(.ref b5), (.ref o0)])) rfl rfl (hb hby d1_9)
  obtain ⟨T7, h7, X7, e7, W7, st7⟩ := putF X6 hx hZ hown (host := "") (Or.inl (hw _ (List.mem_of_getElem? (i := 23) rfl))) Via.refl e6 (F_lows_o0.ext E5) (E_o0.ext E5) (Or.inr ⟨(hw _ (List.mem_of_getElem? (i := 24) rfl)), rfl, hnm⟩) (hw _ (List.mem_of_getElem? (i := 6) rfl)) (ty := (.array .int)) (by decide) rfl rfl (g := (mkF m 12 #[.val (.ref o0), .val (.ref o1), .val (.ref o2), .unset, .unset, .unset, .unset, .unset, .unset] [(.ref b5), (.ref o0)])) rfl rfl (hb hby d1_12)
  have Fw7 := (F_lows_o0.ext E5).same W7
  have K7 : Keep h0 h7 [o0] := K5.wr W7 (Or.inl (List.mem_of_getElem? (i := 0) rfl))
  have N7 := Fr.snoc X7 N0 g_o0
  obtain ⟨cl_17, Ar_17, S_17, H_17⟩ := id ((V_o1.ext E5).other W7 ne_o1_o0)
  obtain ⟨T8, h8, k8, X8, e8, E8, A8, st8⟩ := newP X7 hx hZ (hw _ (List.mem_of_getElem? (i := 2) rfl)) e7 (g := (mkF m 18 #[.val (.ref o0), .val (.ref o1), .val (.ref o2), .unset, .unset, .unset, .unset, .unset, .unset] [(.int (1 : Int32)), (.ref o0)])) rfl (hb hby d1_18) rfl (by decide) (cap := 1) (by decide) (by decide) (by decide) (by decide)
  obtain ⟨b8, g8⟩ : ∃ z, z = h7.size := ⟨_, rfl⟩
  rw [← g8] at A8 st8
  have V_b8 : Ary Z h8 b8 .int 1 (fun _ => (.int (0 : Int32))) := Ary.new A8 (by decide) rfl
  have g_b8 : n0 ≤ b8 := Nat.le_trans (Nat.le_trans (Nat.le_trans Z0 E5.1) (Keep.of_wr W7).1) (Nat.le_of_eq g8.symm)
  have sz_b8 : h0.size ≤ b8 := (Nat.le_trans K7.1 (Nat.le_of_eq g8.symm))
  have K8 : Keep h0 h8 [o0] := K7.ext E8
  obtain ⟨T9, h9, X9, e9, W9, st9⟩ := putF X8 hx hZ hown (host := "") (Or.inl (hw _ (List.mem_of_getElem? (i := 25) rfl))) Via.refl e8 (((F_words_o0.ext E5).other W7 (Or.inr (slot_ne (Or.inr (hw _ (List.mem_of_getElem? (i := 26) rfl))) (Or.inr (hw _ (List.mem_of_getElem? (i := 24) rfl))) (by decide) (t := (.array .int)) (t' := (.array .int)) (by decide) (by decide)))).ext E8) (((E_o0.ext E5).wr W7).ext E8) (Or.inr ⟨(hw _ (List.mem_of_getElem? (i := 26) rfl)), rfl, hnm⟩) (hw _ (List.mem_of_getElem? (i := 6) rfl)) (ty := (.array .int)) (by decide) rfl rfl (g := (mkF m 20 #[.val (.ref o0), .val (.ref o1), .val (.ref o2), .unset, .unset, .unset, .unset, .unset, .unset] [(.ref b8), (.ref o0)])) rfl rfl (hb hby d1_20)
  have Fw9 := (((F_words_o0.ext E5).other W7 (Or.inr (slot_ne (Or.inr (hw _ (List.mem_of_getElem? (i := 26) rfl))) (Or.inr (hw _ (List.mem_of_getElem? (i := 24) rfl))) (by decide) (t := (.array .int)) (t' := (.array .int)) (by decide) (by decide)))).ext E8).same W9
  have K9 : Keep h0 h9 [o0] := K8.wr W9 (Or.inl (List.mem_of_getElem? (i := 0) rfl))
  have N9 := Fr.snoc X9 N7 g_o0
  obtain ⟨cl_25, Ar_25, S_25, H_25⟩ := id ((((V_o1.ext E5).other W7 ne_o1_o0).ext E8).other W9 ne_o1_o0)
  obtain ⟨T10, h10, k10, X10, e10, E10, A10, st10⟩ := newP X9 hx hZ (hw _ (List.mem_of_getElem? (i := 2) rfl)) e9 (g := (mkF m 26 #[.val (.ref o0), .val (.ref o1), .val (.ref o2), .unset, .unset, .unset, .unset, .unset, .unset] [(.int (1 : Int32)), (.ref o0)])) rfl (hb hby d1_26) rfl (by decide) (cap := 1) (by decide) (by decide) (by decide) (by decide)
  obtain ⟨b10, g10⟩ : ∃ z, z = h9.size := ⟨_, rfl⟩
  rw [← g10] at A10 st10
  have V_b10 : Ary Z h10 b10 .int 1 (fun _ => (.int (0 : Int32))) := Ary.new A10 (by decide) rfl
  have g_b10 : n0 ≤ b10 := Nat.le_trans (Nat.le_trans (Nat.le_trans (Nat.le_trans (Nat.le_trans Z0 E5.1) (Keep.of_wr W7).1) E8.1) (Keep.of_wr W9).1) (Nat.le_of_eq g10.symm)
  have sz_b10 : h0.size ≤ b10 := (Nat.le_trans K9.1 (Nat.le_of_eq g10.symm))
  have K10 : Keep h0 h10 [o0] := K9.ext E10
  obtain ⟨T11, h11, X11, e11, W11, st11⟩ := putF X10 hx hZ hown (host := "") (Or.inl (hw _ (List.mem_of_getElem? (i := 27) rfl))) Via.refl e10 (((((F_shifts_o0.ext E5).other W7 (Or.inr (slot_ne (Or.inr (hw _ (List.mem_of_getElem? (i := 28) rfl))) (Or.inr (hw _ (List.mem_of_getElem? (i := 24) rfl))) (by decide) (t := (.array .int)) (t' := (.array .int)) (by decide) (by decide)))).ext E8).other W9 (Or.inr (slot_ne (Or.inr (hw _ (List.mem_of_getElem? (i := 28) rfl))) (Or.inr (hw _ (List.mem_of_getElem? (i := 26) rfl))) (by decide) (t := (.array .int)) (t' := (.array .int)) (by decide) (by decide)))).ext E10) (((((E_o0.ext E5).wr W7).ext E8).wr W9).ext E10) (Or.inr ⟨(hw _ (List.mem_of_getElem? (i := 28) rfl)), rfl, hnm⟩) (hw _ (List.mem_of_getElem? (i := 6) rfl)) (ty := (.array .int)) (by decide) rfl rfl (g := (mkF m 28 #[.val (.ref o0), .val (.ref o1), .val (.ref o2), .unset, .unset, .unset, .unset, .unset, .unset] [(.ref b10), (.ref o0)])) rfl rfl (hb hby d1_28)
  have Fw11 := (((((F_shifts_o0.ext E5).other W7 (Or.inr (slot_ne (Or.inr (hw _ (List.mem_of_getElem? (i := 28) rfl))) (Or.inr (hw _ (List.mem_of_getElem? (i := 24) rfl))) (by decide) (t := (.array .int)) (t' := (.array .int)) (by decide) (by decide)))).ext E8).other W9 (Or.inr (slot_ne (Or.inr (hw _ (List.mem_of_getElem? (i := 28) rfl))) (Or.inr (hw _ (List.mem_of_getElem? (i := 26) rfl))) (by decide) (t := (.array .int)) (t' := (.array .int)) (by decide) (by decide)))).ext E10).same W11
  have K11 : Keep h0 h11 [o0] := K10.wr W11 (Or.inl (List.mem_of_getElem? (i := 0) rfl))
  have N11 := Fr.snoc X11 N9 g_o0
  obtain ⟨cl_33, Ar_33, S_33, H_33⟩ := id ((((((V_o1.ext E5).other W7 ne_o1_o0).ext E8).other W9 ne_o1_o0).ext E10).other W11 ne_o1_o0)
  obtain ⟨T12, h12, k12, X12, e12, E12, A12, st12⟩ := newP X11 hx hZ (hw _ (List.mem_of_getElem? (i := 3) rfl)) e11 (g := (mkF m 34 #[.val (.ref o0), .val (.ref o1), .val (.ref o2), .unset, .unset, .unset, .unset, .unset, .unset] [(.int (1 : Int32)), (.ref o0)])) rfl (hb hby d1_34) rfl (by decide) (cap := 1) (by decide) (by decide) (by decide) (by decide)
  obtain ⟨b12, g12⟩ : ∃ z, z = h11.size := ⟨_, rfl⟩
  rw [← g12] at A12 st12
  have V_b12 : Ary Z h12 b12 .long 1 (fun _ => (.long (0 : Int64))) := Ary.new A12 (by decide) rfl
  have g_b12 : n0 ≤ b12 := Nat.le_trans (Nat.le_trans (Nat.le_trans (Nat.le_trans (Nat.le_trans (Nat.le_trans (Nat.le_trans Z0 E5.1) (Keep.of_wr W7).1) E8.1) (Keep.of_wr W9).1) E10.1) (Keep.of_wr W11).1) (Nat.le_of_eq g12.symm)
  have sz_b12 : h0.size ≤ b12 := (Nat.le_trans K11.1 (Nat.le_of_eq g12.symm))
  have K12 : Keep h0 h12 [o0] := K11.ext E12
  obtain ⟨T13, h13, X13, e13, W13, st13⟩ := putF X12 hx hZ hown (host := "") (Or.inl (hw _ (List.mem_of_getElem? (i := 29) rfl))) Via.refl e12 (((((((F_masks_o0.ext E5).other W7 (Or.inr (slot_ne (Or.inr (hw _ (List.mem_of_getElem? (i := 30) rfl))) (Or.inr (hw _ (List.mem_of_getElem? (i := 24) rfl))) (by decide) (t := (.array .long)) (t' := (.array .int)) (by decide) (by decide)))).ext E8).other W9 (Or.inr (slot_ne (Or.inr (hw _ (List.mem_of_getElem? (i := 30) rfl))) (Or.inr (hw _ (List.mem_of_getElem? (i := 26) rfl))) (by decide) (t := (.array .long)) (t' := (.array .int)) (by decide) (by decide)))).ext E10).other W11 (Or.inr (slot_ne (Or.inr (hw _ (List.mem_of_getElem? (i := 30) rfl))) (Or.inr (hw _ (List.mem_of_getElem? (i := 28) rfl))) (by decide) (t := (.array .long)) (t' := (.array .int)) (by decide) (by decide)))).ext E12) (((((((E_o0.ext E5).wr W7).ext E8).wr W9).ext E10).wr W11).ext E12) (Or.inr ⟨(hw _ (List.mem_of_getElem? (i := 30) rfl)), rfl, hnm⟩) (hw _ (List.mem_of_getElem? (i := 6) rfl)) (ty := (.array .long)) (by decide) rfl rfl (g := (mkF m 36 #[.val (.ref o0), .val (.ref o1), .val (.ref o2), .unset, .unset, .unset, .unset, .unset, .unset] [(.ref b12), (.ref o0)])) rfl rfl (hb hby d1_36)
  have Fw13 := (((((((F_masks_o0.ext E5).other W7 (Or.inr (slot_ne (Or.inr (hw _ (List.mem_of_getElem? (i := 30) rfl))) (Or.inr (hw _ (List.mem_of_getElem? (i := 24) rfl))) (by decide) (t := (.array .long)) (t' := (.array .int)) (by decide) (by decide)))).ext E8).other W9 (Or.inr (slot_ne (Or.inr (hw _ (List.mem_of_getElem? (i := 30) rfl))) (Or.inr (hw _ (List.mem_of_getElem? (i := 26) rfl))) (by decide) (t := (.array .long)) (t' := (.array .int)) (by decide) (by decide)))).ext E10).other W11 (Or.inr (slot_ne (Or.inr (hw _ (List.mem_of_getElem? (i := 30) rfl))) (Or.inr (hw _ (List.mem_of_getElem? (i := 28) rfl))) (by decide) (t := (.array .long)) (t' := (.array .int)) (by decide) (by decide)))).ext E12).same W13
  have K13 : Keep h0 h13 [o0] := K12.wr W13 (Or.inl (List.mem_of_getElem? (i := 0) rfl))
  have N13 := Fr.snoc X13 N11 g_o0
  have Vend_o1 := ((((((((V_o1.ext E5).other W7 ne_o1_o0).ext E8).other W9 ne_o1_o0).ext E10).other W11 ne_o1_o0).ext E12).other W13 ne_o1_o0)
  have Vend_o2 := ((((((((V_o2.ext E5).other W7 ne_o2_o0).ext E8).other W9 ne_o2_o0).ext E10).other W11 ne_o2_o0).ext E12).other W13 ne_o2_o0)
  have Fend_wordCount_o0 := ((((((((F_wordCount_o0.ext E5).other W7 (Or.inr (slot_ne (Or.inr (hw _ (List.mem_of_getElem? (i := 32) rfl))) (Or.inr (hw _ (List.mem_of_getElem? (i := 24) rfl))) (by decide) (t := .int) (t' := (.array .int)) (by decide) (by decide)))).ext E8).other W9 (Or.inr (slot_ne (Or.inr (hw _ (List.mem_of_getElem? (i := 32) rfl))) (Or.inr (hw _ (List.mem_of_getElem? (i := 26) rfl))) (by decide) (t := .int) (t' := (.array .int)) (by decide) (by decide)))).ext E10).other W11 (Or.inr (slot_ne (Or.inr (hw _ (List.mem_of_getElem? (i := 32) rfl))) (Or.inr (hw _ (List.mem_of_getElem? (i := 28) rfl))) (by decide) (t := .int) (t' := (.array .int)) (by decide) (by decide)))).ext E12).other W13 (Or.inr (slot_ne (Or.inr (hw _ (List.mem_of_getElem? (i := 32) rfl))) (Or.inr (hw _ (List.mem_of_getElem? (i := 30) rfl))) (by decide) (t := .int) (t' := (.array .long)) (by decide) (by decide))))
  have Eend_o1 := ((((((((E_o1.ext E5).wr W7).ext E8).wr W9).ext E10).wr W11).ext E12).wr W13)
  have Vend_b5 := (((((((V_b5.other W7 (Ne.symm (Nat.ne_of_lt (Nat.lt_of_lt_of_le F_wordCount_o0.lt (Nat.le_of_eq g5.symm))))).ext E8).other W9 (Ne.symm (Nat.ne_of_lt (Nat.lt_of_lt_of_le F_wordCount_o0.lt (Nat.le_of_eq g5.symm))))).ext E10).other W11 (Ne.symm (Nat.ne_of_lt (Nat.lt_of_lt_of_le F_wordCount_o0.lt (Nat.le_of_eq g5.symm))))).ext E12).other W13 (Ne.symm (Nat.ne_of_lt (Nat.lt_of_lt_of_le F_wordCount_o0.lt (Nat.le_of_eq g5.symm)))))
  have Eend_b5 := (((((((E_b5.wr W7).ext E8).wr W9).ext E10).wr W11).ext E12).wr W13)
  have Eend_o0 := ((((((((E_o0.ext E5).wr W7).ext E8).wr W9).ext E10).wr W11).ext E12).wr W13)
  have Fend_lows_o0 := ((((((Fw7.ext E8).other W9 (Or.inr (slot_ne (Or.inr (hw _ (List.mem_of_getElem? (i := 24) rfl))) (Or.inr (hw _ (List.mem_of_getElem? (i := 26) rfl))) (by decide) (t := (.array .int)) (t' := (.array .int)) (by decide) (by decide)))).ext E10).other W11 (Or.inr (slot_ne (Or.inr (hw _ (List.mem_of_getElem? (i := 24) rfl))) (Or.inr (hw _ (List.mem_of_getElem? (i := 28) rfl))) (by decide) (t := (.array .int)) (t' := (.array .int)) (by decide) (by decide)))).ext E12).other W13 (Or.inr (slot_ne (Or.inr (hw _ (List.mem_of_getElem? (i := 24) rfl))) (Or.inr (hw _ (List.mem_of_getElem? (i := 30) rfl))) (by decide) (t := (.array .int)) (t' := (.array .long)) (by decide) (by decide))))
  have Vend_b8 := (((((V_b8.other W9 (Ne.symm (Nat.ne_of_lt (Nat.lt_of_lt_of_le ((F_wordCount_o0.ext E5).other W7 (Or.inr (slot_ne (Or.inr (hw _ (List.mem_of_getElem? (i := 32) rfl))) (Or.inr (hw _ (List.mem_of_getElem? (i := 24) rfl))) (by decide) (t := .int) (t' := (.array .int)) (by decide) (by decide)))).lt (Nat.le_of_eq g8.symm))))).ext E10).other W11 (Ne.symm (Nat.ne_of_lt (Nat.lt_of_lt_of_le ((F_wordCount_o0.ext E5).other W7 (Or.inr (slot_ne (Or.inr (hw _ (List.mem_of_getElem? (i := 32) rfl))) (Or.inr (hw _ (List.mem_of_getElem? (i := 24) rfl))) (by decide) (t := .int) (t' := (.array .int)) (by decide) (by decide)))).lt (Nat.le_of_eq g8.symm))))).ext E12).other W13 (Ne.symm (Nat.ne_of_lt (Nat.lt_of_lt_of_le ((F_wordCount_o0.ext E5).other W7 (Or.inr (slot_ne (Or.inr (hw _ (List.mem_of_getElem? (i := 32) rfl))) (Or.inr (hw _ (List.mem_of_getElem? (i := 24) rfl))) (by decide) (t := .int) (t' := (.array .int)) (by decide) (by decide)))).lt (Nat.le_of_eq g8.symm)))))
  have Fend_words_o0 := ((((Fw9.ext E10).other W11 (Or.inr (slot_ne (Or.inr (hw _ (List.mem_of_getElem? (i := 26) rfl))) (Or.inr (hw _ (List.mem_of_getElem? (i := 28) rfl))) (by decide) (t := (.array .int)) (t' := (.array .int)) (by decide) (by decide)))).ext E12).other W13 (Or.inr (slot_ne (Or.inr (hw _ (List.mem_of_getElem? (i := 26) rfl))) (Or.inr (hw _ (List.mem_of_getElem? (i := 30) rfl))) (by decide) (t := (.array .int)) (t' := (.array .long)) (by decide) (by decide))))
  have Vend_b10 := (((V_b10.other W11 (Ne.symm (Nat.ne_of_lt (Nat.lt_of_lt_of_le ((((F_wordCount_o0.ext E5).other W7 (Or.inr (slot_ne (Or.inr (hw _ (List.mem_of_getElem? (i := 32) rfl))) (Or.inr (hw _ (List.mem_of_getElem? (i := 24) rfl))) (by decide) (t := .int) (t' := (.array .int)) (by decide) (by decide)))).ext E8).other W9 (Or.inr (slot_ne (Or.inr (hw _ (List.mem_of_getElem? (i := 32) rfl))) (Or.inr (hw _ (List.mem_of_getElem? (i := 26) rfl))) (by decide) (t := .int) (t' := (.array .int)) (by decide) (by decide)))).lt (Nat.le_of_eq g10.symm))))).ext E12).other W13 (Ne.symm (Nat.ne_of_lt (Nat.lt_of_lt_of_le ((((F_wordCount_o0.ext E5).other W7 (Or.inr (slot_ne (Or.inr (hw _ (List.mem_of_getElem? (i := 32) rfl))) (Or.inr (hw _ (List.mem_of_getElem? (i := 24) rfl))) (by decide) (t := .int) (t' := (.array .int)) (by decide) (by decide)))).ext E8).other W9 (Or.inr (slot_ne (Or.inr (hw _ (List.mem_of_getElem? (i := 32) rfl))) (Or.inr (hw _ (List.mem_of_getElem? (i := 26) rfl))) (by decide) (t := .int) (t' := (.array .int)) (by decide) (by decide)))).lt (Nat.le_of_eq g10.symm)))))
  have Fend_shifts_o0 := ((Fw11.ext E12).other W13 (Or.inr (slot_ne (Or.inr (hw _ (List.mem_of_getElem? (i := 28) rfl))) (Or.inr (hw _ (List.mem_of_getElem? (i := 30) rfl))) (by decide) (t := (.array .int)) (t' := (.array .long)) (by decide) (by decide))))
  have Vend_b12 := (V_b12.other W13 (Ne.symm (Nat.ne_of_lt (Nat.lt_of_lt_of_le ((((((F_wordCount_o0.ext E5).other W7 (Or.inr (slot_ne (Or.inr (hw _ (List.mem_of_getElem? (i := 32) rfl))) (Or.inr (hw _ (List.mem_of_getElem? (i := 24) rfl))) (by decide) (t := .int) (t' := (.array .int)) (by decide) (by decide)))).ext E8).other W9 (Or.inr (slot_ne (Or.inr (hw _ (List.mem_of_getElem? (i := 32) rfl))) (Or.inr (hw _ (List.mem_of_getElem? (i := 26) rfl))) (by decide) (t := .int) (t' := (.array .int)) (by decide) (by decide)))).ext E10).other W11 (Or.inr (slot_ne (Or.inr (hw _ (List.mem_of_getElem? (i := 32) rfl))) (Or.inr (hw _ (List.mem_of_getElem? (i := 28) rfl))) (by decide) (t := .int) (t' := (.array .int)) (by decide) (by decide)))).lt (Nat.le_of_eq g12.symm)))))
  have Fend_masks_o0 := Fw13
  have ne_o1_b5 : o1 ≠ b5 := (Nat.ne_of_lt (Nat.lt_of_lt_of_le V_o1.lt (Nat.le_of_eq g5.symm)))
  have ne_o2_b5 : o2 ≠ b5 := (Nat.ne_of_lt (Nat.lt_of_lt_of_le V_o2.lt (Nat.le_of_eq g5.symm)))
  have ne_o0_b5 : o0 ≠ b5 := (Nat.ne_of_lt (Nat.lt_of_lt_of_le F_wordCount_o0.lt (Nat.le_of_eq g5.symm)))
  have ne_o1_b8 : o1 ≠ b8 := (Nat.ne_of_lt (Nat.lt_of_lt_of_le ((V_o1.ext E5).other W7 ne_o1_o0).lt (Nat.le_of_eq g8.symm)))
  have ne_o2_b8 : o2 ≠ b8 := (Nat.ne_of_lt (Nat.lt_of_lt_of_le ((V_o2.ext E5).other W7 ne_o2_o0).lt (Nat.le_of_eq g8.symm)))
  have ne_o0_b8 : o0 ≠ b8 := (Nat.ne_of_lt (Nat.lt_of_lt_of_le ((F_wordCount_o0.ext E5).other W7 (Or.inr (slot_ne (Or.inr (hw _ (List.mem_of_getElem? (i := 32) rfl))) (Or.inr (hw _ (List.mem_of_getElem? (i := 24) rfl))) (by decide) (t := .int) (t' := (.array .int)) (by decide) (by decide)))).lt (Nat.le_of_eq g8.symm)))
  have ne_b5_b8 : b5 ≠ b8 := (Nat.ne_of_lt (Nat.lt_of_lt_of_le (V_b5.other W7 (Ne.symm (Nat.ne_of_lt (Nat.lt_of_lt_of_le F_wordCount_o0.lt (Nat.le_of_eq g5.symm))))).lt (Nat.le_of_eq g8.symm)))
  have ne_o1_b10 : o1 ≠ b10 := (Nat.ne_of_lt (Nat.lt_of_lt_of_le ((((V_o1.ext E5).other W7 ne_o1_o0).ext E8).other W9 ne_o1_o0).lt (Nat.le_of_eq g10.symm)))
  have ne_o2_b10 : o2 ≠ b10 := (Nat.ne_of_lt (Nat.lt_of_lt_of_le ((((V_o2.ext E5).other W7 ne_o2_o0).ext E8).other W9 ne_o2_o0).lt (Nat.le_of_eq g10.symm)))
  have ne_o0_b10 : o0 ≠ b10 := (Nat.ne_of_lt (Nat.lt_of_lt_of_le ((((F_wordCount_o0.ext E5).other W7 (Or.inr (slot_ne (Or.inr (hw _ (List.mem_of_getElem? (i := 32) rfl))) (Or.inr (hw _ (List.mem_of_getElem? (i := 24) rfl))) (by decide) (t := .int) (t' := (.array .int)) (by decide) (by decide)))).ext E8).other W9 (Or.inr (slot_ne (Or.inr (hw _ (List.mem_of_getElem? (i := 32) rfl))) (Or.inr (hw _ (List.mem_of_getElem? (i := 26) rfl))) (by decide) (t := .int) (t' := (.array .int)) (by decide) (by decide)))).lt (Nat.le_of_eq g10.symm)))
  have ne_b5_b10 : b5 ≠ b10 := (Nat.ne_of_lt (Nat.lt_of_lt_of_le (((V_b5.other W7 (Ne.symm (Nat.ne_of_lt (Nat.lt_of_lt_of_le F_wordCount_o0.lt (Nat.le_of_eq g5.symm))))).ext E8).other W9 (Ne.symm (Nat.ne_of_lt (Nat.lt_of_lt_of_le F_wordCount_o0.lt (Nat.le_of_eq g5.symm))))).lt (Nat.le_of_eq g10.symm)))
  have ne_b8_b10 : b8 ≠ b10 := (Nat.ne_of_lt (Nat.lt_of_lt_of_le (V_b8.other W9 (Ne.symm (Nat.ne_of_lt (Nat.lt_of_lt_of_le ((F_wordCount_o0.ext E5).other W7 (Or.inr (slot_ne (Or.inr (hw _ (List.mem_of_getElem? (i := 32) rfl))) (Or.inr (hw _ (List.mem_of_getElem? (i := 24) rfl))) (by decide) (t := .int) (t' := (.array .int)) (by decide) (by decide)))).lt (Nat.le_of_eq g8.symm))))).lt (Nat.le_of_eq g10.symm)))
  have ne_o1_b12 : o1 ≠ b12 := (Nat.ne_of_lt (Nat.lt_of_lt_of_le ((((((V_o1.ext E5).other W7 ne_o1_o0).ext E8).other W9 ne_o1_o0).ext E10).other W11 ne_o1_o0).lt (Nat.le_of_eq g12.symm)))
  have ne_o2_b12 : o2 ≠ b12 := (Nat.ne_of_lt (Nat.lt_of_lt_of_le ((((((V_o2.ext E5).other W7 ne_o2_o0).ext E8).other W9 ne_o2_o0).ext E10).other W11 ne_o2_o0).lt (Nat.le_of_eq g12.symm)))
  have ne_o0_b12 : o0 ≠ b12 := (Nat.ne_of_lt (Nat.lt_of_lt_of_le ((((((F_wordCount_o0.ext E5).other W7 (Or.inr (slot_ne (Or.inr (hw _ (List.mem_of_getElem? (i := 32) rfl))) (Or.inr (hw _ (List.mem_of_getElem? (i := 24) rfl))) (by decide) (t := .int) (t' := (.array .int)) (by decide) (by decide)))).ext E8).other W9 (Or.inr (slot_ne (Or.inr (hw _ (List.mem_of_getElem? (i := 32) rfl))) (Or.inr (hw _ (List.mem_of_getElem? (i := 26) rfl))) (by decide) (t := .int) (t' := (.array .int)) (by decide) (by decide)))).ext E10).other W11 (Or.inr (slot_ne (Or.inr (hw _ (List.mem_of_getElem? (i := 32) rfl))) (Or.inr (hw _ (List.mem_of_getElem? (i := 28) rfl))) (by decide) (t := .int) (t' := (.array .int)) (by decide) (by decide)))).lt (Nat.le_of_eq g12.symm)))
  have ne_b5_b12 : b5 ≠ b12 := (Nat.ne_of_lt (Nat.lt_of_lt_of_le (((((V_b5.other W7 (Ne.symm (Nat.ne_of_lt (Nat.lt_of_lt_of_le F_wordCount_o0.lt (Nat.le_of_eq g5.symm))))).ext E8).other W9 (Ne.symm (Nat.ne_of_lt (Nat.lt_of_lt_of_le F_wordCount_o0.lt (Nat.le_of_eq g5.symm))))).ext E10).other W11 (Ne.symm (Nat.ne_of_lt (Nat.lt_of_lt_of_le F_wordCount_o0.lt (Nat.le_of_eq g5.symm))))).lt (Nat.le_of_eq g12.symm)))
  have ne_b8_b12 : b8 ≠ b12 := (Nat.ne_of_lt (Nat.lt_of_lt_of_le (((V_b8.other W9 (Ne.symm (Nat.ne_of_lt (Nat.lt_of_lt_of_le ((F_wordCount_o0.ext E5).other W7 (Or.inr (slot_ne (Or.inr (hw _ (List.mem_of_getElem? (i := 32) rfl))) (Or.inr (hw _ (List.mem_of_getElem? (i := 24) rfl))) (by decide) (t := .int) (t' := (.array .int)) (by decide) (by decide)))).lt (Nat.le_of_eq g8.symm))))).ext E10).other W11 (Ne.symm (Nat.ne_of_lt (Nat.lt_of_lt_of_le ((F_wordCount_o0.ext E5).other W7 (Or.inr (slot_ne (Or.inr (hw _ (List.mem_of_getElem? (i := 32) rfl))) (Or.inr (hw _ (List.mem_of_getElem? (i := 24) rfl))) (by decide) (t := .int) (t' := (.array .int)) (by decide) (by decide)))).lt (Nat.le_of_eq g8.symm))))).lt (Nat.le_of_eq g12.symm)))
  have ne_b10_b12 : b10 ≠ b12 := (Nat.ne_of_lt (Nat.lt_of_lt_of_le (V_b10.other W11 (Ne.symm (Nat.ne_of_lt (Nat.lt_of_lt_of_le ((((F_wordCount_o0.ext E5).other W7 (Or.inr (slot_ne (Or.inr (hw _ (List.mem_of_getElem? (i := 32) rfl))) (Or.inr (hw _ (List.mem_of_getElem? (i := 24) rfl))) (by decide) (t := .int) (t' := (.array .int)) (by decide) (by decide)))).ext E8).other W9 (Or.inr (slot_ne (Or.inr (hw _ (List.mem_of_getElem? (i := 32) rfl))) (Or.inr (hw _ (List.mem_of_getElem? (i := 26) rfl))) (by decide) (t := .int) (t' := (.array .int)) (by decide) (by decide)))).lt (Nat.le_of_eq g10.symm))))).lt (Nat.le_of_eq g12.symm)))
  have Zend : n0 ≤ h13.size := (Nat.le_trans (Nat.le_trans (Nat.le_trans (Nat.le_trans (Nat.le_trans (Nat.le_trans (Nat.le_trans (Nat.le_trans Z0 E5.1) (Keep.of_wr W7).1) E8.1) (Keep.of_wr W9).1) E10.1) (Keep.of_wr W11).1) E12.1) (Keep.of_wr W13).1)
  have Kend := K13
  refine ⟨T13, _, _, b8, b10, b12, X13, e13, N13, Kend, Zend, ⟨sz_b8, sz_b10, sz_b12, Eend_o0, Fend_words_o0, Fend_shifts_o0, Fend_masks_o0, Fend_wordCount_o0, Vend_o1, Vend_o2, ⟨_, Vend_b8⟩, ⟨_, Vend_b10⟩, ⟨_, Vend_b12⟩, ne_o0_b8, ne_o0_b10, ne_o0_b12, ne_o1_b8, ne_o1_b10, ne_o1_b12, ne_o2_b8, ne_o2_b10, ne_o2_b12, ne_b8_b10, ne_b8_b12, ne_b10_b12⟩, fun target kt => ?_⟩
  show Steps p.tables e below (T0.setTop (mkF m 0 #[.val (.ref o0), .val (.ref o1), .val (.ref o2), .unset, .unset, .unset, .unset, .unset, .unset] [])) _
  refine XS.aloadN X0.here hx rfl (hb hby d1_0) rfl rfl ?_
  show Steps p.tables e below (T0.setTop (mkF m 1 #[.val (.ref o0), .val (.ref o1), .val (.ref o2), .unset, .unset, .unset, .unset, .unset, .unset] [(.ref o0)])) _
  refine st4 _ ?_
  show Steps p.tables e below (T4.setTop (mkF m 4 #[.val (.ref o0), .val (.ref o1), .val (.ref o2), .unset, .unset, .unset, .unset, .unset, .unset] [])) _
  refine XS.aloadN X4.here hx rfl (hb hby d1_4) rfl rfl ?_
  show Steps p.tables e below (T4.setTop (mkF m 5 #[.val (.ref o0), .val (.ref o1), .val (.ref o2), .unset, .unset, .unset, .unset, .unset, .unset] [(.ref o0)])) _
  refine XS.aloadN X4.here hx rfl (hb hby d1_5) rfl rfl ?_
  show Steps p.tables e below (T4.setTop (mkF m 6 #[.val (.ref o0), .val (.ref o1), .val (.ref o2), .unset, .unset, .unset, .unset, .unset, .unset] [(.ref o1), (.ref o0)])) _
  refine st5 _ ?_
  show Steps p.tables e below (T5.setTop (mkF m 9 #[.val (.ref o0), .val (.ref o1), .val (.ref o2), .unset, .unset, .unset, .unset, .unset, .unset] [(.ref b5), (.ref o0)])) _
  refine st6 _ ?_
  show Steps p.tables e below (T6.setTop (mkF m 12 #[.val (.ref o0), .val (.ref o1), .val (.ref o2), .unset, .unset, .unset, .unset, .unset, .unset] [(.ref b5), (.ref o0)])) _
  refine st7 _ ?_
  show Steps p.tables e below (T7.setTop (mkF m 15 #[.val (.ref o0), .val (.ref o1), .val (.ref o2), .unset, .unset, .unset, .unset, .unset, .unset] [])) _
  refine XS.aloadN X7.here hx rfl (hb hby d1_15) rfl rfl ?_
  show Steps p.tables e below (T7.setTop (mkF m 16 #[.val (.ref o0), .val (.ref o1), .val (.ref o2), .unset, .unset, .unset, .unset, .unset, .unset] [(.ref o0)])) _
  refine XS.aloadN X7.here hx rfl (hb hby d1_16) rfl rfl ?_
  show Steps p.tables e below (T7.setTop (mkF m 17 #[.val (.ref o0), .val (.ref o1), .val (.ref o2), .unset, .unset, .unset, .unset, .unset, .unset] [(.ref o1), (.ref o0)])) _
  refine X7.arraylength hx (by rw [e7]; exact Ar_17.1) (State.isArrayOf_alike hZ.alike Ar_17.2.1) (g := (mkF m 17 #[.val (.ref o0), .val (.ref o1), .val (.ref o2), .unset, .unset, .unset, .unset, .unset, .unset] [(.ref o1), (.ref o0)])) rfl rfl (hb hby d1_17) _ ?_
  rw [S_17]
  show Steps p.tables e below (T7.setTop (mkF m 18 #[.val (.ref o0), .val (.ref o1), .val (.ref o2), .unset, .unset, .unset, .unset, .unset, .unset] [(.int (1 : Int32)), (.ref o0)])) _
  refine st8 _ ?_
  show Steps p.tables e below (T8.setTop (mkF m 20 #[.val (.ref o0), .val (.ref o1), .val (.ref o2), .unset, .unset, .unset, .unset, .unset, .unset] [(.ref b8), (.ref o0)])) _
  refine st9 _ ?_
  show Steps p.tables e below (T9.setTop (mkF m 23 #[.val (.ref o0), .val (.ref o1), .val (.ref o2), .unset, .unset, .unset, .unset, .unset, .unset] [])) _
  refine XS.aloadN X9.here hx rfl (hb hby d1_23) rfl rfl ?_
  show Steps p.tables e below (T9.setTop (mkF m 24 #[.val (.ref o0), .val (.ref o1), .val (.ref o2), .unset, .unset, .unset, .unset, .unset, .unset] [(.ref o0)])) _
  refine XS.aloadN X9.here hx rfl (hb hby d1_24) rfl rfl ?_
  show Steps p.tables e below (T9.setTop (mkF m 25 #[.val (.ref o0), .val (.ref o1), .val (.ref o2), .unset, .unset, .unset, .unset, .unset, .unset] [(.ref o1), (.ref o0)])) _
  refine X9.arraylength hx (by rw [e9]; exact Ar_25.1) (State.isArrayOf_alike hZ.alike Ar_25.2.1) (g := (mkF m 25 #[.val (.ref o0), .val (.ref o1), .val (.ref o2), .unset, .unset, .unset, .unset, .unset, .unset] [(.ref o1), (.ref o0)])) rfl rfl (hb hby d1_25) _ ?_
  rw [S_25]
  show Steps p.tables e below (T9.setTop (mkF m 26 #[.val (.ref o0), .val (.ref o1), .val (.ref o2), .unset, .unset, .unset, .unset, .unset, .unset] [(.int (1 : Int32)), (.ref o0)])) _
  refine st10 _ ?_
  show Steps p.tables e below (T10.setTop (mkF m 28 #[.val (.ref o0), .val (.ref o1), .val (.ref o2), .unset, .unset, .unset, .unset, .unset, .unset] [(.ref b10), (.ref o0)])) _
  refine st11 _ ?_
  show Steps p.tables e below (T11.setTop (mkF m 31 #[.val (.ref o0), .val (.ref o1), .val (.ref o2), .unset, .unset, .unset, .unset, .unset, .unset] [])) _
  refine XS.aloadN X11.here hx rfl (hb hby d1_31) rfl rfl ?_
  show Steps p.tables e below (T11.setTop (mkF m 32 #[.val (.ref o0), .val (.ref o1), .val (.ref o2), .unset, .unset, .unset, .unset, .unset, .unset] [(.ref o0)])) _
  refine XS.aloadN X11.here hx rfl (hb hby d1_32) rfl rfl ?_
  show Steps p.tables e below (T11.setTop (mkF m 33 #[.val (.ref o0), .val (.ref o1), .val (.ref o2), .unset, .unset, .unset, .unset, .unset, .unset] [(.ref o1), (.ref o0)])) _
  refine X11.arraylength hx (by rw [e11]; exact Ar_33.1) (State.isArrayOf_alike hZ.alike Ar_33.2.1) (g := (mkF m 33 #[.val (.ref o0), .val (.ref o1), .val (.ref o2), .unset, .unset, .unset, .unset, .unset, .unset] [(.ref o1), (.ref o0)])) rfl rfl (hb hby d1_33) _ ?_
  rw [S_33]
  show Steps p.tables e below (T11.setTop (mkF m 34 #[.val (.ref o0), .val (.ref o1), .val (.ref o2), .unset, .unset, .unset, .unset, .unset, .unset] [(.int (1 : Int32)), (.ref o0)])) _
  refine st12 _ ?_
  show Steps p.tables e below (T12.setTop (mkF m 36 #[.val (.ref o0), .val (.ref o1), .val (.ref o2), .unset, .unset, .unset, .unset, .unset, .unset] [(.ref b12), (.ref o0)])) _
  refine st13 _ ?_
  show Steps p.tables e below (T13.setTop (mkF m 39 #[.val (.ref o0), .val (.ref o1), .val (.ref o2), .unset, .unset, .unset, .unset, .unset, .unset] [])) _
  refine XS.iconst X13.here hx rfl (hb hby d1_39) ?_
  show Steps p.tables e below (T13.setTop (mkF m 40 #[.val (.ref o0), .val (.ref o1), .val (.ref o2), .unset, .unset, .unset, .unset, .unset, .unset] [(.int (0 : Int32))])) _
  refine XS.istoreN X13.here hx rfl (hb hby d1_40) rfl (l' := #[.val (.ref o0), .val (.ref o1), .val (.ref o2), .val (.int (0 : Int32)), .unset, .unset, .unset, .unset, .unset]) rfl ?_
  show Steps p.tables e below (T13.setTop (mkF m 41 #[.val (.ref o0), .val (.ref o1), .val (.ref o2), .val (.int (0 : Int32)), .unset, .unset, .unset, .unset, .unset] [])) _
  refine XS.iconst X13.here hx rfl (hb hby d1_41) ?_
  show Steps p.tables e below (T13.setTop (mkF m 42 #[.val (.ref o0), .val (.ref o1), .val (.ref o2), .val (.int (0 : Int32)), .unset, .unset, .unset, .unset, .unset] [(.int (0 : Int32))])) _
  refine XS.istore X13.here hx rfl (hb hby d1_42) rfl (l' := #[.val (.ref o0), .val (.ref o1), .val (.ref o2), .val (.int (0 : Int32)), .val (.int (0 : Int32)), .unset, .unset, .unset, .unset]) rfl ?_
  show Steps p.tables e below (T13.setTop (mkF m 44 #[.val (.ref o0), .val (.ref o1), .val (.ref o2), .val (.int (0 : Int32)), .val (.int (0 : Int32)), .unset, .unset, .unset, .unset] [])) _
  refine XS.iconst X13.here hx rfl (hb hby d1_44) ?_
  show Steps p.tables e below (T13.setTop (mkF m 45 #[.val (.ref o0), .val (.ref o1), .val (.ref o2), .val (.int (0 : Int32)), .val (.int (0 : Int32)), .unset, .unset, .unset, .unset] [(.int (0 : Int32))])) _
  refine XS.istore X13.here hx rfl (hb hby d1_45) rfl (l' := #[.val (.ref o0), .val (.ref o1), .val (.ref o2), .val (.int (0 : Int32)), .val (.int (0 : Int32)), .val (.int (0 : Int32)), .unset, .unset, .unset]) rfl ?_
  exact kt
set_option maxRecDepth 65536 in
set_option maxHeartbeats 40000000 in
theorem pf3 {p : Program} {l : Launch} {e : Env} {s : State} {m : MethodId} {args : Array Value} {below : List Frame} {meth : Method} {c : Code} {T0 : State} {locs : List Loc} {Z : State} {a0 : Array Value} {h0 : Heap} (o0 : Addr) (o1 : Addr) (o2 : Addr) (n0 : Nat) (lo hi : Int32) (u_lows_o0 : Value) (u_words_o0 : Value) (u_shifts_o0 : Value) (u_masks_o0 : Value)
    (X0 : Stand p l e own_R1 s m args below meth c T0 locs 0 0) (hx : p.tables.exec = Jvm.exec) (hZ : Z.Warmed39 s.vm) (hw : ∀ d ∈ tables_1, d.before a0 Z = true) (hby : c.code = prog_77_method_1_code) (hml : c.maxLocals = 9) (hown : s.vm.findClass "com/example/tight_bounds/tightbounds/model/StateLayout" = some m.cls) (e0 : T0.heap = h0) (Z0 : n0 ≤ h0.size) (N0 : Fr n0 locs) (hnm : meth.name = "<init>") (ne_o1_o0 : o1 ≠ o0) (ne_o2_o0 : o2 ≠ o0) (hint : ∀ j, j < 3 → ∃ w, (fun _ => Value.int lo) j = .int w) (V_o1 : Ary Z h0 o1 .int 3 (fun _ => .int lo)) (V_o2 : Ary Z h0 o2 .int 3 (fun _ => .int hi)) (F_wordCount_o0 : Fld Z h0 o0 "com/example/tight_bounds/tightbounds/model/StateLayout" "wordCount" "I" (.int (0 : Int32))) (E_o1 : Exa Z h0 o1 "[I") (E_o0 : Exa Z h0 o0 "com/example/tight_bounds/tightbounds/model/StateLayout") (F_lows_o0 : Fld Z h0 o0 "com/example/tight_bounds/tightbounds/model/StateLayout" "lows" "[I" u_lows_o0) (g_o0 : n0 ≤ o0) (F_words_o0 : Fld Z h0 o0 "com/example/tight_bounds/tightbounds/model/StateLayout" "words" "[I" u_words_o0) (F_shifts_o0 : Fld Z h0 o0 "com/example/tight_bounds/tightbounds/model/StateLayout" "shifts" "[I" u_shifts_o0) (F_masks_o0 : Fld Z h0 o0 "com/example/tight_bounds/tightbounds/model/StateLayout" "masks" "[J" u_masks_o0) :
    ∃ (T' : State) (h' : Heap) (locs' : List Loc) (w s' m' : Addr), Stand p l e own_R1 s m args below meth c T' locs' (0 + 4) (0 + 12) ∧ T'.heap = h' ∧ Fr n0 locs' ∧ Keep h0 h' [o0] ∧ n0 ≤ h'.size ∧ own_lay Z h' h0.size o0 o1 o2 w s' m' 3 lo hi ∧
      ∀ target, Steps p.tables e below (T'.setTop (mkF m 47 #[.val (.ref o0), .val (.ref o1), .val (.ref o2), .val (.int (0 : Int32)), .val (.int (0 : Int32)), .val (.int (0 : Int32)), .unset, .unset, .unset] [])) target → Steps p.tables e below (T0.setTop (mkF m 0 #[.val (.ref o0), .val (.ref o1), .val (.ref o2), .unset, .unset, .unset, .unset, .unset, .unset] [])) target := by
  obtain ⟨T4, X4, e4, st4⟩ := initO X0 hx hZ hown (hw _ (List.mem_of_getElem? (i := 11) rfl)) (hw _ (List.mem_of_getElem? (i := 12) rfl)) (hw _ (List.mem_of_getElem? (i := 13) rfl)) e0 (g := (mkF m 1 #[.val (.ref o0), .val (.ref o1), .val (.ref o2), .unset, .unset, .unset, .unset, .unset, .unset] [(.ref o0)])) rfl (by rw [hml]; rfl) rfl (hb hby d1_1) (by decide) (W := 0) (by show 2 * 0 + _ ≤ _; exact Nat.le_of_eq rfl) (by decide)
  obtain ⟨cl_6, Ar_6, S_6, H_6⟩ := id V_o1
  obtain ⟨T5, h5, X5, e5, E5, A5, Q5, st5⟩ := cloneA X4 hx hZ hown (hw _ (List.mem_of_getElem? (i := 14) rfl)) (hw _ (List.mem_of_getElem? (i := 15) rfl)) (hw _ (List.mem_of_getElem? (i := 19) rfl)) (hw _ (List.mem_of_getElem? (i := 17) rfl)) (hw _ (List.mem_of_getElem? (i := 18) rfl)) (hw _ (List.mem_of_getElem? (i := 20) rfl)) e4 Ar_6 E_o1 (own_fitC Ar_6 S_6 H_6 hint) (g := (mkF m 6 #[.val (.ref o0), .val (.ref o1), .val (.ref o2), .unset, .unset, .unset, .unset, .unset, .unset] [(.ref o1), (.ref o0)])) rfl (by rw [hml]; rfl) rfl (hb hby d1_6) (by decide) (W := 1) (by show 2 * 0 + _ ≤ _; exact Nat.le_of_eq rfl) (by decide) (cap := 3) (Nat.le_of_eq S_6) (by decide) (by decide)
  obtain ⟨b5, g5⟩ : ∃ z, z = h0.size := ⟨_, rfl⟩
  rw [← g5] at A5 Q5 st5
  have V_b5 : Ary Z h5 b5 .int 3 _ := ⟨_, A5, S_6, H_6⟩
  have E_b5 := Q5
  have g_b5 : n0 ≤ b5 := Nat.le_trans Z0 (Nat.le_of_eq g5.symm)
  have sz_b5 : h0.size ≤ b5 := (Nat.le_trans (Keep.refl h0 [o0]).1 (Nat.le_of_eq g5.symm))
  have K5 : Keep h0 h5 [o0] := (Keep.refl h0 [o0]).ext E5
  obtain ⟨T6, X6, e6, st6⟩ := castY X5 hx hZ hown (hw _ (List.mem_of_getElem? (i := 21) rfl)) e5 (Ins.self E_b5) (g := (mkF m 9 #[.val (.ref o0), .val (.ref o1), .val (.ref o2), .unset, .unset, .unset, .unset, .unset, .unset] [(.ref b5), (.ref o0)])) rfl rfl (hb hby d1_9)
  obtain ⟨T7, h7, X7, e7, W7, st7⟩ := putF X6 hx hZ hown (host := "") (Or.inl (hw _ (List.mem_of_getElem? (i := 23) rfl))) Via.refl e6 (F_lows_o0.ext E5) (E_o0.ext E5) (Or.inr ⟨(hw _ (List.mem_of_getElem? (i := 24) rfl)), rfl, hnm⟩) (hw _ (List.mem_of_getElem? (i := 6) rfl)) (ty := (.array .int)) (by decide) rfl rfl (g := (mkF m 12 #[.val (.ref o0), .val (.ref o1), .val (.ref o2), .unset, .unset, .unset, .unset, .unset, .unset] [(.ref b5), (.ref o0)])) rfl rfl (hb hby d1_12)
  have Fw7 := (F_lows_o0.ext E5).same W7
  have K7 : Keep h0 h7 [o0] := K5.wr W7 (Or.inl (List.mem_of_getElem? (i := 0) rfl))
  have N7 := Fr.snoc X7 N0 g_o0
  obtain ⟨cl_17, Ar_17, S_17, H_17⟩ := id ((V_o1.ext E5).other W7 ne_o1_o0)
  obtain ⟨T8, h8, k8, X8, e8, E8, A8, st8⟩ := newP X7 hx hZ (hw _ (List.mem_of_getElem? (i := 2) rfl)) e7 (g := (mkF m 18 #[.val (.ref o0), .val (.ref o1), .val (.ref o2), .unset, .unset, .unset, .unset, .unset, .unset] [(.int (3 : Int32)), (.ref o0)])) rfl (hb hby d1_18) rfl (by decide) (cap := 3) (by decide) (by decide) (by decide) (by decide)
  obtain ⟨b8, g8⟩ : ∃ z, z = h7.size := ⟨_, rfl⟩
  rw [← g8] at A8 st8
  have V_b8 : Ary Z h8 b8 .int 3 (fun _ => (.int (0 : Int32))) := Ary.new A8 (by decide) rfl
  have g_b8 : n0 ≤ b8 := Nat.le_trans (Nat.le_trans (Nat.le_trans Z0 E5.1) (Keep.of_wr W7).1) (Nat.le_of_eq g8.symm)
  have sz_b8 : h0.size ≤ b8 := (Nat.le_trans K7.1 (Nat.le_of_eq g8.symm))
  have K8 : Keep h0 h8 [o0] := K7.ext E8
  obtain ⟨T9, h9, X9, e9, W9, st9⟩ := putF X8 hx hZ hown (host := "") (Or.inl (hw _ (List.mem_of_getElem? (i := 25) rfl))) Via.refl e8 (((F_words_o0.ext E5).other W7 (Or.inr (slot_ne (Or.inr (hw _ (List.mem_of_getElem? (i := 26) rfl))) (Or.inr (hw _ (List.mem_of_getElem? (i := 24) rfl))) (by decide) (t := (.array .int)) (t' := (.array .int)) (by decide) (by decide)))).ext E8) (((E_o0.ext E5).wr W7).ext E8) (Or.inr ⟨(hw _ (List.mem_of_getElem? (i := 26) rfl)), rfl, hnm⟩) (hw _ (List.mem_of_getElem? (i := 6) rfl)) (ty := (.array .int)) (by decide) rfl rfl (g := (mkF m 20 #[.val (.ref o0), .val (.ref o1), .val (.ref o2), .unset, .unset, .unset, .unset, .unset, .unset] [(.ref b8), (.ref o0)])) rfl rfl (hb hby d1_20)
  have Fw9 := (((F_words_o0.ext E5).other W7 (Or.inr (slot_ne (Or.inr (hw _ (List.mem_of_getElem? (i := 26) rfl))) (Or.inr (hw _ (List.mem_of_getElem? (i := 24) rfl))) (by decide) (t := (.array .int)) (t' := (.array .int)) (by decide) (by decide)))).ext E8).same W9
  have K9 : Keep h0 h9 [o0] := K8.wr W9 (Or.inl (List.mem_of_getElem? (i := 0) rfl))
  have N9 := Fr.snoc X9 N7 g_o0
  obtain ⟨cl_25, Ar_25, S_25, H_25⟩ := id ((((V_o1.ext E5).other W7 ne_o1_o0).ext E8).other W9 ne_o1_o0)
  obtain ⟨T10, h10, k10, X10, e10, E10, A10, st10⟩ := newP X9 hx hZ (hw _ (List.mem_of_getElem? (i := 2) rfl)) e9 (g := (mkF m 26 #[.val (.ref o0), .val (.ref o1), .val (.ref o2), .unset, .unset, .unset, .unset, .unset, .unset] [(.int (3 : Int32)), (.ref o0)])) rfl (hb hby d1_26) rfl (by decide) (cap := 3) (by decide) (by decide) (by decide) (by decide)
  obtain ⟨b10, g10⟩ : ∃ z, z = h9.size := ⟨_, rfl⟩
  rw [← g10] at A10 st10
  have V_b10 : Ary Z h10 b10 .int 3 (fun _ => (.int (0 : Int32))) := Ary.new A10 (by decide) rfl
  have g_b10 : n0 ≤ b10 := Nat.le_trans (Nat.le_trans (Nat.le_trans (Nat.le_trans (Nat.le_trans Z0 E5.1) (Keep.of_wr W7).1) E8.1) (Keep.of_wr W9).1) (Nat.le_of_eq g10.symm)
  have sz_b10 : h0.size ≤ b10 := (Nat.le_trans K9.1 (Nat.le_of_eq g10.symm))
  have K10 : Keep h0 h10 [o0] := K9.ext E10
  obtain ⟨T11, h11, X11, e11, W11, st11⟩ := putF X10 hx hZ hown (host := "") (Or.inl (hw _ (List.mem_of_getElem? (i := 27) rfl))) Via.refl e10 (((((F_shifts_o0.ext E5).other W7 (Or.inr (slot_ne (Or.inr (hw _ (List.mem_of_getElem? (i := 28) rfl))) (Or.inr (hw _ (List.mem_of_getElem? (i := 24) rfl))) (by decide) (t := (.array .int)) (t' := (.array .int)) (by decide) (by decide)))).ext E8).other W9 (Or.inr (slot_ne (Or.inr (hw _ (List.mem_of_getElem? (i := 28) rfl))) (Or.inr (hw _ (List.mem_of_getElem? (i := 26) rfl))) (by decide) (t := (.array .int)) (t' := (.array .int)) (by decide) (by decide)))).ext E10) (((((E_o0.ext E5).wr W7).ext E8).wr W9).ext E10) (Or.inr ⟨(hw _ (List.mem_of_getElem? (i := 28) rfl)), rfl, hnm⟩) (hw _ (List.mem_of_getElem? (i := 6) rfl)) (ty := (.array .int)) (by decide) rfl rfl (g := (mkF m 28 #[.val (.ref o0), .val (.ref o1), .val (.ref o2), .unset, .unset, .unset, .unset, .unset, .unset] [(.ref b10), (.ref o0)])) rfl rfl (hb hby d1_28)
  have Fw11 := (((((F_shifts_o0.ext E5).other W7 (Or.inr (slot_ne (Or.inr (hw _ (List.mem_of_getElem? (i := 28) rfl))) (Or.inr (hw _ (List.mem_of_getElem? (i := 24) rfl))) (by decide) (t := (.array .int)) (t' := (.array .int)) (by decide) (by decide)))).ext E8).other W9 (Or.inr (slot_ne (Or.inr (hw _ (List.mem_of_getElem? (i := 28) rfl))) (Or.inr (hw _ (List.mem_of_getElem? (i := 26) rfl))) (by decide) (t := (.array .int)) (t' := (.array .int)) (by decide) (by decide)))).ext E10).same W11
  have K11 : Keep h0 h11 [o0] := K10.wr W11 (Or.inl (List.mem_of_getElem? (i := 0) rfl))
  have N11 := Fr.snoc X11 N9 g_o0
  obtain ⟨cl_33, Ar_33, S_33, H_33⟩ := id ((((((V_o1.ext E5).other W7 ne_o1_o0).ext E8).other W9 ne_o1_o0).ext E10).other W11 ne_o1_o0)
  obtain ⟨T12, h12, k12, X12, e12, E12, A12, st12⟩ := newP X11 hx hZ (hw _ (List.mem_of_getElem? (i := 3) rfl)) e11 (g := (mkF m 34 #[.val (.ref o0), .val (.ref o1), .val (.ref o2), .unset, .unset, .unset, .unset, .unset, .unset] [(.int (3 : Int32)), (.ref o0)])) rfl (hb hby d1_34) rfl (by decide) (cap := 3) (by decide) (by decide) (by decide) (by decide)
  obtain ⟨b12, g12⟩ : ∃ z, z = h11.size := ⟨_, rfl⟩
  rw [← g12] at A12 st12
  have V_b12 : Ary Z h12 b12 .long 3 (fun _ => (.long (0 : Int64))) := Ary.new A12 (by decide) rfl
  have g_b12 : n0 ≤ b12 := Nat.le_trans (Nat.le_trans (Nat.le_trans (Nat.le_trans (Nat.le_trans (Nat.le_trans (Nat.le_trans Z0 E5.1) (Keep.of_wr W7).1) E8.1) (Keep.of_wr W9).1) E10.1) (Keep.of_wr W11).1) (Nat.le_of_eq g12.symm)
  have sz_b12 : h0.size ≤ b12 := (Nat.le_trans K11.1 (Nat.le_of_eq g12.symm))
  have K12 : Keep h0 h12 [o0] := K11.ext E12
  obtain ⟨T13, h13, X13, e13, W13, st13⟩ := putF X12 hx hZ hown (host := "") (Or.inl (hw _ (List.mem_of_getElem? (i := 29) rfl))) Via.refl e12 (((((((F_masks_o0.ext E5).other W7 (Or.inr (slot_ne (Or.inr (hw _ (List.mem_of_getElem? (i := 30) rfl))) (Or.inr (hw _ (List.mem_of_getElem? (i := 24) rfl))) (by decide) (t := (.array .long)) (t' := (.array .int)) (by decide) (by decide)))).ext E8).other W9 (Or.inr (slot_ne (Or.inr (hw _ (List.mem_of_getElem? (i := 30) rfl))) (Or.inr (hw _ (List.mem_of_getElem? (i := 26) rfl))) (by decide) (t := (.array .long)) (t' := (.array .int)) (by decide) (by decide)))).ext E10).other W11 (Or.inr (slot_ne (Or.inr (hw _ (List.mem_of_getElem? (i := 30) rfl))) (Or.inr (hw _ (List.mem_of_getElem? (i := 28) rfl))) (by decide) (t := (.array .long)) (t' := (.array .int)) (by decide) (by decide)))).ext E12) (((((((E_o0.ext E5).wr W7).ext E8).wr W9).ext E10).wr W11).ext E12) (Or.inr ⟨(hw _ (List.mem_of_getElem? (i := 30) rfl)), rfl, hnm⟩) (hw _ (List.mem_of_getElem? (i := 6) rfl)) (ty := (.array .long)) (by decide) rfl rfl (g := (mkF m 36 #[.val (.ref o0), .val (.ref o1), .val (.ref o2), .unset, .unset, .unset, .unset, .unset, .unset] [(.ref b12), (.ref o0)])) rfl rfl (hb hby d1_36)
  have Fw13 := (((((((F_masks_o0.ext E5).other W7 (Or.inr (slot_ne (Or.inr (hw _ (List.mem_of_getElem? (i := 30) rfl))) (Or.inr (hw _ (List.mem_of_getElem? (i := 24) rfl))) (by decide) (t := (.array .long)) (t' := (.array .int)) (by decide) (by decide)))).ext E8).other W9 (Or.inr (slot_ne (Or.inr (hw _ (List.mem_of_getElem? (i := 30) rfl))) (Or.inr (hw _ (List.mem_of_getElem? (i := 26) rfl))) (by decide) (t := (.array .long)) (t' := (.array .int)) (by decide) (by decide)))).ext E10).other W11 (Or.inr (slot_ne (Or.inr (hw _ (List.mem_of_getElem? (i := 30) rfl))) (Or.inr (hw _ (List.mem_of_getElem? (i := 28) rfl))) (by decide) (t := (.array .long)) (t' := (.array .int)) (by decide) (by decide)))).ext E12).same W13
  have K13 : Keep h0 h13 [o0] := K12.wr W13 (Or.inl (List.mem_of_getElem? (i := 0) rfl))
  have N13 := Fr.snoc X13 N11 g_o0
  have Vend_o1 := ((((((((V_o1.ext E5).other W7 ne_o1_o0).ext E8).other W9 ne_o1_o0).ext E10).other W11 ne_o1_o0).ext E12).other W13 ne_o1_o0)
  have Vend_o2 := ((((((((V_o2.ext E5).other W7 ne_o2_o0).ext E8).other W9 ne_o2_o0).ext E10).other W11 ne_o2_o0).ext E12).other W13 ne_o2_o0)
  have Fend_wordCount_o0 := ((((((((F_wordCount_o0.ext E5).other W7 (Or.inr (slot_ne (Or.inr (hw _ (List.mem_of_getElem? (i := 32) rfl))) (Or.inr (hw _ (List.mem_of_getElem? (i := 24) rfl))) (by decide) (t := .int) (t' := (.array .int)) (by decide) (by decide)))).ext E8).other W9 (Or.inr (slot_ne (Or.inr (hw _ (List.mem_of_getElem? (i := 32) rfl))) (Or.inr (hw _ (List.mem_of_getElem? (i := 26) rfl))) (by decide) (t := .int) (t' := (.array .int)) (by decide) (by decide)))).ext E10).other W11 (Or.inr (slot_ne (Or.inr (hw _ (List.mem_of_getElem? (i := 32) rfl))) (Or.inr (hw _ (List.mem_of_getElem? (i := 28) rfl))) (by decide) (t := .int) (t' := (.array .int)) (by decide) (by decide)))).ext E12).other W13 (Or.inr (slot_ne (Or.inr (hw _ (List.mem_of_getElem? (i := 32) rfl))) (Or.inr (hw _ (List.mem_of_getElem? (i := 30) rfl))) (by decide) (t := .int) (t' := (.array .long)) (by decide) (by decide))))
  have Eend_o1 := ((((((((E_o1.ext E5).wr W7).ext E8).wr W9).ext E10).wr W11).ext E12).wr W13)
  have Vend_b5 := (((((((V_b5.other W7 (Ne.symm (Nat.ne_of_lt (Nat.lt_of_lt_of_le F_wordCount_o0.lt (Nat.le_of_eq g5.symm))))).ext E8).other W9 (Ne.symm (Nat.ne_of_lt (Nat.lt_of_lt_of_le F_wordCount_o0.lt (Nat.le_of_eq g5.symm))))).ext E10).other W11 (Ne.symm (Nat.ne_of_lt (Nat.lt_of_lt_of_le F_wordCount_o0.lt (Nat.le_of_eq g5.symm))))).ext E12).other W13 (Ne.symm (Nat.ne_of_lt (Nat.lt_of_lt_of_le F_wordCount_o0.lt (Nat.le_of_eq g5.symm)))))
  have Eend_b5 := (((((((E_b5.wr W7).ext E8).wr W9).ext E10).wr W11).ext E12).wr W13)
  have Eend_o0 := ((((((((E_o0.ext E5).wr W7).ext E8).wr W9).ext E10).wr W11).ext E12).wr W13)
  have Fend_lows_o0 := ((((((Fw7.ext E8).other W9 (Or.inr (slot_ne (Or.inr (hw _ (List.mem_of_getElem? (i := 24) rfl))) (Or.inr (hw _ (List.mem_of_getElem? (i := 26) rfl))) (by decide) (t := (.array .int)) (t' := (.array .int)) (by decide) (by decide)))).ext E10).other W11 (Or.inr (slot_ne (Or.inr (hw _ (List.mem_of_getElem? (i := 24) rfl))) (Or.inr (hw _ (List.mem_of_getElem? (i := 28) rfl))) (by decide) (t := (.array .int)) (t' := (.array .int)) (by decide) (by decide)))).ext E12).other W13 (Or.inr (slot_ne (Or.inr (hw _ (List.mem_of_getElem? (i := 24) rfl))) (Or.inr (hw _ (List.mem_of_getElem? (i := 30) rfl))) (by decide) (t := (.array .int)) (t' := (.array .long)) (by decide) (by decide))))
  have Vend_b8 := (((((V_b8.other W9 (Ne.symm (Nat.ne_of_lt (Nat.lt_of_lt_of_le ((F_wordCount_o0.ext E5).other W7 (Or.inr (slot_ne (Or.inr (hw _ (List.mem_of_getElem? (i := 32) rfl))) (Or.inr (hw _ (List.mem_of_getElem? (i := 24) rfl))) (by decide) (t := .int) (t' := (.array .int)) (by decide) (by decide)))).lt (Nat.le_of_eq g8.symm))))).ext E10).other W11 (Ne.symm (Nat.ne_of_lt (Nat.lt_of_lt_of_le ((F_wordCount_o0.ext E5).other W7 (Or.inr (slot_ne (Or.inr (hw _ (List.mem_of_getElem? (i := 32) rfl))) (Or.inr (hw _ (List.mem_of_getElem? (i := 24) rfl))) (by decide) (t := .int) (t' := (.array .int)) (by decide) (by decide)))).lt (Nat.le_of_eq g8.symm))))).ext E12).other W13 (Ne.symm (Nat.ne_of_lt (Nat.lt_of_lt_of_le ((F_wordCount_o0.ext E5).other W7 (Or.inr (slot_ne (Or.inr (hw _ (List.mem_of_getElem? (i := 32) rfl))) (Or.inr (hw _ (List.mem_of_getElem? (i := 24) rfl))) (by decide) (t := .int) (t' := (.array .int)) (by decide) (by decide)))).lt (Nat.le_of_eq g8.symm)))))
  have Fend_words_o0 := ((((Fw9.ext E10).other W11 (Or.inr (slot_ne (Or.inr (hw _ (List.mem_of_getElem? (i := 26) rfl))) (Or.inr (hw _ (List.mem_of_getElem? (i := 28) rfl))) (by decide) (t := (.array .int)) (t' := (.array .int)) (by decide) (by decide)))).ext E12).other W13 (Or.inr (slot_ne (Or.inr (hw _ (List.mem_of_getElem? (i := 26) rfl))) (Or.inr (hw _ (List.mem_of_getElem? (i := 30) rfl))) (by decide) (t := (.array .int)) (t' := (.array .long)) (by decide) (by decide))))
  have Vend_b10 := (((V_b10.other W11 (Ne.symm (Nat.ne_of_lt (Nat.lt_of_lt_of_le ((((F_wordCount_o0.ext E5).other W7 (Or.inr (slot_ne (Or.inr (hw _ (List.mem_of_getElem? (i := 32) rfl))) (Or.inr (hw _ (List.mem_of_getElem? (i := 24) rfl))) (by decide) (t := .int) (t' := (.array .int)) (by decide) (by decide)))).ext E8).other W9 (Or.inr (slot_ne (Or.inr (hw _ (List.mem_of_getElem? (i := 32) rfl))) (Or.inr (hw _ (List.mem_of_getElem? (i := 26) rfl))) (by decide) (t := .int) (t' := (.array .int)) (by decide) (by decide)))).lt (Nat.le_of_eq g10.symm))))).ext E12).other W13 (Ne.symm (Nat.ne_of_lt (Nat.lt_of_lt_of_le ((((F_wordCount_o0.ext E5).other W7 (Or.inr (slot_ne (Or.inr (hw _ (List.mem_of_getElem? (i := 32) rfl))) (Or.inr (hw _ (List.mem_of_getElem? (i := 24) rfl))) (by decide) (t := .int) (t' := (.array .int)) (by decide) (by decide)))).ext E8).other W9 (Or.inr (slot_ne (Or.inr (hw _ (List.mem_of_getElem? (i := 32) rfl))) (Or.inr (hw _ (List.mem_of_getElem? (i := 26) rfl))) (by decide) (t := .int) (t' := (.array .int)) (by decide) (by decide)))).lt (Nat.le_of_eq g10.symm)))))
  have Fend_shifts_o0 := ((Fw11.ext E12).other W13 (Or.inr (slot_ne (Or.inr (hw _ (List.mem_of_getElem? (i := 28) rfl))) (Or.inr (hw _ (List.mem_of_getElem? (i := 30) rfl))) (by decide) (t := (.array .int)) (t' := (.array .long)) (by decide) (by decide))))
  have Vend_b12 := (V_b12.other W13 (Ne.symm (Nat.ne_of_lt (Nat.lt_of_lt_of_le ((((((F_wordCount_o0.ext E5).other W7 (Or.inr (slot_ne (Or.inr (hw _ (List.mem_of_getElem? (i := 32) rfl))) (Or.inr (hw _ (List.mem_of_getElem? (i := 24) rfl))) (by decide) (t := .int) (t' := (.array .int)) (by decide) (by decide)))).ext E8).other W9 (Or.inr (slot_ne (Or.inr (hw _ (List.mem_of_getElem? (i := 32) rfl))) (Or.inr (hw _ (List.mem_of_getElem? (i := 26) rfl))) (by decide) (t := .int) (t' := (.array .int)) (by decide) (by decide)))).ext E10).other W11 (Or.inr (slot_ne (Or.inr (hw _ (List.mem_of_getElem? (i := 32) rfl))) (Or.inr (hw _ (List.mem_of_getElem? (i := 28) rfl))) (by decide) (t := .int) (t' := (.array .int)) (by decide) (by decide)))).lt (Nat.le_of_eq g12.symm)))))
  have Fend_masks_o0 := Fw13
  have ne_o1_b5 : o1 ≠ b5 := (Nat.ne_of_lt (Nat.lt_of_lt_of_le V_o1.lt (Nat.le_of_eq g5.symm)))
  have ne_o2_b5 : o2 ≠ b5 := (Nat.ne_of_lt (Nat.lt_of_lt_of_le V_o2.lt (Nat.le_of_eq g5.symm)))
  have ne_o0_b5 : o0 ≠ b5 := (Nat.ne_of_lt (Nat.lt_of_lt_of_le F_wordCount_o0.lt (Nat.le_of_eq g5.symm)))
  have ne_o1_b8 : o1 ≠ b8 := (Nat.ne_of_lt (Nat.lt_of_lt_of_le ((V_o1.ext E5).other W7 ne_o1_o0).lt (Nat.le_of_eq g8.symm)))
  have ne_o2_b8 : o2 ≠ b8 := (Nat.ne_of_lt (Nat.lt_of_lt_of_le ((V_o2.ext E5).other W7 ne_o2_o0).lt (Nat.le_of_eq g8.symm)))
  have ne_o0_b8 : o0 ≠ b8 := (Nat.ne_of_lt (Nat.lt_of_lt_of_le ((F_wordCount_o0.ext E5).other W7 (Or.inr (slot_ne (Or.inr (hw _ (List.mem_of_getElem? (i := 32) rfl))) (Or.inr (hw _ (List.mem_of_getElem? (i := 24) rfl))) (by decide) (t := .int) (t' := (.array .int)) (by decide) (by decide)))).lt (Nat.le_of_eq g8.symm)))
  have ne_b5_b8 : b5 ≠ b8 := (Nat.ne_of_lt (Nat.lt_of_lt_of_le (V_b5.other W7 (Ne.symm (Nat.ne_of_lt (Nat.lt_of_lt_of_le F_wordCount_o0.lt (Nat.le_of_eq g5.symm))))).lt (Nat.le_of_eq g8.symm)))
  have ne_o1_b10 : o1 ≠ b10 := (Nat.ne_of_lt (Nat.lt_of_lt_of_le ((((V_o1.ext E5).other W7 ne_o1_o0).ext E8).other W9 ne_o1_o0).lt (Nat.le_of_eq g10.symm)))
  have ne_o2_b10 : o2 ≠ b10 := (Nat.ne_of_lt (Nat.lt_of_lt_of_le ((((V_o2.ext E5).other W7 ne_o2_o0).ext E8).other W9 ne_o2_o0).lt (Nat.le_of_eq g10.symm)))
  have ne_o0_b10 : o0 ≠ b10 := (Nat.ne_of_lt (Nat.lt_of_lt_of_le ((((F_wordCount_o0.ext E5).other W7 (Or.inr (slot_ne (Or.inr (hw _ (List.mem_of_getElem? (i := 32) rfl))) (Or.inr (hw _ (List.mem_of_getElem? (i := 24) rfl))) (by decide) (t := .int) (t' := (.array .int)) (by decide) (by decide)))).ext E8).other W9 (Or.inr (slot_ne (Or.inr (hw _ (List.mem_of_getElem? (i := 32) rfl))) (Or.inr (hw _ (List.mem_of_getElem? (i := 26) rfl))) (by decide) (t := .int) (t' := (.array .int)) (by decide) (by decide)))).lt (Nat.le_of_eq g10.symm)))
  have ne_b5_b10 : b5 ≠ b10 := (Nat.ne_of_lt (Nat.lt_of_lt_of_le (((V_b5.other W7 (Ne.symm (Nat.ne_of_lt (Nat.lt_of_lt_of_le F_wordCount_o0.lt (Nat.le_of_eq g5.symm))))).ext E8).other W9 (Ne.symm (Nat.ne_of_lt (Nat.lt_of_lt_of_le F_wordCount_o0.lt (Nat.le_of_eq g5.symm))))).lt (Nat.le_of_eq g10.symm)))
  have ne_b8_b10 : b8 ≠ b10 := (Nat.ne_of_lt (Nat.lt_of_lt_of_le (V_b8.other W9 (Ne.symm (Nat.ne_of_lt (Nat.lt_of_lt_of_le ((F_wordCount_o0.ext E5).other W7 (Or.inr (slot_ne (Or.inr (hw _ (List.mem_of_getElem? (i := 32) rfl))) (Or.inr (hw _ (List.mem_of_getElem? (i := 24) rfl))) (by decide) (t := .int) (t' := (.array .int)) (by decide) (by decide)))).lt (Nat.le_of_eq g8.symm))))).lt (Nat.le_of_eq g10.symm)))
  have ne_o1_b12 : o1 ≠ b12 := (Nat.ne_of_lt (Nat.lt_of_lt_of_le ((((((V_o1.ext E5).other W7 ne_o1_o0).ext E8).other W9 ne_o1_o0).ext E10).other W11 ne_o1_o0).lt (Nat.le_of_eq g12.symm)))
  have ne_o2_b12 : o2 ≠ b12 := (Nat.ne_of_lt (Nat.lt_of_lt_of_le ((((((V_o2.ext E5).other W7 ne_o2_o0).ext E8).other W9 ne_o2_o0).ext E10).other W11 ne_o2_o0).lt (Nat.le_of_eq g12.symm)))
  have ne_o0_b12 : o0 ≠ b12 := (Nat.ne_of_lt (Nat.lt_of_lt_of_le ((((((F_wordCount_o0.ext E5).other W7 (Or.inr (slot_ne (Or.inr (hw _ (List.mem_of_getElem? (i := 32) rfl))) (Or.inr (hw _ (List.mem_of_getElem? (i := 24) rfl))) (by decide) (t := .int) (t' := (.array .int)) (by decide) (by decide)))).ext E8).other W9 (Or.inr (slot_ne (Or.inr (hw _ (List.mem_of_getElem? (i := 32) rfl))) (Or.inr (hw _ (List.mem_of_getElem? (i := 26) rfl))) (by decide) (t := .int) (t' := (.array .int)) (by decide) (by decide)))).ext E10).other W11 (Or.inr (slot_ne (Or.inr (hw _ (List.mem_of_getElem? (i := 32) rfl))) (Or.inr (hw _ (List.mem_of_getElem? (i := 28) rfl))) (by decide) (t := .int) (t' := (.array .int)) (by decide) (by decide)))).lt (Nat.le_of_eq g12.symm)))
  have ne_b5_b12 : b5 ≠ b12 := (Nat.ne_of_lt (Nat.lt_of_lt_of_le (((((V_b5.other W7 (Ne.symm (Nat.ne_of_lt (Nat.lt_of_lt_of_le F_wordCount_o0.lt (Nat.le_of_eq g5.symm))))).ext E8).other W9 (Ne.symm (Nat.ne_of_lt (Nat.lt_of_lt_of_le F_wordCount_o0.lt (Nat.le_of_eq g5.symm))))).ext E10).other W11 (Ne.symm (Nat.ne_of_lt (Nat.lt_of_lt_of_le F_wordCount_o0.lt (Nat.le_of_eq g5.symm))))).lt (Nat.le_of_eq g12.symm)))
  have ne_b8_b12 : b8 ≠ b12 := (Nat.ne_of_lt (Nat.lt_of_lt_of_le (((V_b8.other W9 (Ne.symm (Nat.ne_of_lt (Nat.lt_of_lt_of_le ((F_wordCount_o0.ext E5).other W7 (Or.inr (slot_ne (Or.inr (hw _ (List.mem_of_getElem? (i := 32) rfl))) (Or.inr (hw _ (List.mem_of_getElem? (i := 24) rfl))) (by decide) (t := .int) (t' := (.array .int)) (by decide) (by decide)))).lt (Nat.le_of_eq g8.symm))))).ext E10).other W11 (Ne.symm (Nat.ne_of_lt (Nat.lt_of_lt_of_le ((F_wordCount_o0.ext E5).other W7 (Or.inr (slot_ne (Or.inr (hw _ (List.mem_of_getElem? (i := 32) rfl))) (Or.inr (hw _ (List.mem_of_getElem? (i := 24) rfl))) (by decide) (t := .int) (t' := (.array .int)) (by decide) (by decide)))).lt (Nat.le_of_eq g8.symm))))).lt (Nat.le_of_eq g12.symm)))
  have ne_b10_b12 : b10 ≠ b12 := (Nat.ne_of_lt (Nat.lt_of_lt_of_le (V_b10.other W11 (Ne.symm (Nat.ne_of_lt (Nat.lt_of_lt_of_le ((((F_wordCount_o0.ext E5).other W7 (Or.inr (slot_ne (Or.inr (hw _ (List.mem_of_getElem? (i := 32) rfl))) (Or.inr (hw _ (List.mem_of_getElem? (i := 24) rfl))) (by decide) (t := .int) (t' := (.array .int)) (by decide) (by decide)))).ext E8).other W9 (Or.inr (slot_ne (Or.inr (hw _ (List.mem_of_getElem? (i := 32) rfl))) (Or.inr (hw _ (List.mem_of_getElem? (i := 26) rfl))) (by decide) (t := .int) (t' := (.array .int)) (by decide) (by decide)))).lt (Nat.le_of_eq g10.symm))))).lt (Nat.le_of_eq g12.symm)))
  have Zend : n0 ≤ h13.size := (Nat.le_trans (Nat.le_trans (Nat.le_trans (Nat.le_trans (Nat.le_trans (Nat.le_trans (Nat.le_trans (Nat.le_trans Z0 E5.1) (Keep.of_wr W7).1) E8.1) (Keep.of_wr W9).1) E10.1) (Keep.of_wr W11).1) E12.1) (Keep.of_wr W13).1)
  have Kend := K13
  refine ⟨T13, _, _, b8, b10, b12, X13, e13, N13, Kend, Zend, ⟨sz_b8, sz_b10, sz_b12, Eend_o0, Fend_words_o0, Fend_shifts_o0, Fend_masks_o0, Fend_wordCount_o0, Vend_o1, Vend_o2, ⟨_, Vend_b8⟩, ⟨_, Vend_b10⟩, ⟨_, Vend_b12⟩, ne_o0_b8, ne_o0_b10, ne_o0_b12, ne_o1_b8, ne_o1_b10, ne_o1_b12, ne_o2_b8, ne_o2_b10, ne_o2_b12, ne_b8_b10, ne_b8_b12, ne_b10_b12⟩, fun target kt => ?_⟩
  show Steps p.tables e below (T0.setTop (mkF m 0 #[.val (.ref o0), .val (.ref o1), .val (.ref o2), .unset, .unset, .unset, .unset, .unset, .unset] [])) _
  refine XS.aloadN X0.here hx rfl (hb hby d1_0) rfl rfl ?_
  show Steps p.tables e below (T0.setTop (mkF m 1 #[.val (.ref o0), .val (.ref o1), .val (.ref o2), .unset, .unset, .unset, .unset, .unset, .unset] [(.ref o0)])) _
  refine st4 _ ?_
  show Steps p.tables e below (T4.setTop (mkF m 4 #[.val (.ref o0), .val (.ref o1), .val (.ref o2), .unset, .unset, .unset, .unset, .unset, .unset] [])) _
  refine XS.aloadN X4.here hx rfl (hb hby d1_4) rfl rfl ?_
  show Steps p.tables e below (T4.setTop (mkF m 5 #[.val (.ref o0), .val (.ref o1), .val (.ref o2), .unset, .unset, .unset, .unset, .unset, .unset] [(.ref o0)])) _
  refine XS.aloadN X4.here hx rfl (hb hby d1_5) rfl rfl ?_
  show Steps p.tables e below (T4.setTop (mkF m 6 #[.val (.ref o0), .val (.ref o1), .val (.ref o2), .unset, .unset, .unset, .unset, .unset, .unset] [(.ref o1), (.ref o0)])) _
  refine st5 _ ?_
  show Steps p.tables e below (T5.setTop (mkF m 9 #[.val (.ref o0), .val (.ref o1), .val (.ref o2), .unset, .unset, .unset, .unset, .unset, .unset] [(.ref b5), (.ref o0)])) _
  refine st6 _ ?_
  show Steps p.tables e below (T6.setTop (mkF m 12 #[.val (.ref o0), .val (.ref o1), .val (.ref o2), .unset, .unset, .unset, .unset, .unset, .unset] [(.ref b5), (.ref o0)])) _
  refine st7 _ ?_
  show Steps p.tables e below (T7.setTop (mkF m 15 #[.val (.ref o0), .val (.ref o1), .val (.ref o2), .unset, .unset, .unset, .unset, .unset, .unset] [])) _
  refine XS.aloadN X7.here hx rfl (hb hby d1_15) rfl rfl ?_
  show Steps p.tables e below (T7.setTop (mkF m 16 #[.val (.ref o0), .val (.ref o1), .val (.ref o2), .unset, .unset, .unset, .unset, .unset, .unset] [(.ref o0)])) _
  refine XS.aloadN X7.here hx rfl (hb hby d1_16) rfl rfl ?_
  show Steps p.tables e below (T7.setTop (mkF m 17 #[.val (.ref o0), .val (.ref o1), .val (.ref o2), .unset, .unset, .unset, .unset, .unset, .unset] [(.ref o1), (.ref o0)])) _
  refine X7.arraylength hx (by rw [e7]; exact Ar_17.1) (State.isArrayOf_alike hZ.alike Ar_17.2.1) (g := (mkF m 17 #[.val (.ref o0), .val (.ref o1), .val (.ref o2), .unset, .unset, .unset, .unset, .unset, .unset] [(.ref o1), (.ref o0)])) rfl rfl (hb hby d1_17) _ ?_
  rw [S_17]
  show Steps p.tables e below (T7.setTop (mkF m 18 #[.val (.ref o0), .val (.ref o1), .val (.ref o2), .unset, .unset, .unset, .unset, .unset, .unset] [(.int (3 : Int32)), (.ref o0)])) _
  refine st8 _ ?_
  show Steps p.tables e below (T8.setTop (mkF m 20 #[.val (.ref o0), .val (.ref o1), .val (.ref o2), .unset, .unset, .unset, .unset, .unset, .unset] [(.ref b8), (.ref o0)])) _
  refine st9 _ ?_
  show Steps p.tables e below (T9.setTop (mkF m 23 #[.val (.ref o0), .val (.ref o1), .val (.ref o2), .unset, .unset, .unset, .unset, .unset, .unset] [])) _
  refine XS.aloadN X9.here hx rfl (hb hby d1_23) rfl rfl ?_
  show Steps p.tables e below (T9.setTop (mkF m 24 #[.val (.ref o0), .val (.ref o1), .val (.ref o2), .unset, .unset, .unset, .unset, .unset, .unset] [(.ref o0)])) _
  refine XS.aloadN X9.here hx rfl (hb hby d1_24) rfl rfl ?_
  show Steps p.tables e below (T9.setTop (mkF m 25 #[.val (.ref o0), .val (.ref o1), .val (.ref o2), .unset, .unset, .unset, .unset, .unset, .unset] [(.ref o1), (.ref o0)])) _
  refine X9.arraylength hx (by rw [e9]; exact Ar_25.1) (State.isArrayOf_alike hZ.alike Ar_25.2.1) (g := (mkF m 25 #[.val (.ref o0), .val (.ref o1), .val (.ref o2), .unset, .unset, .unset, .unset, .unset, .unset] [(.ref o1), (.ref o0)])) rfl rfl (hb hby d1_25) _ ?_
  rw [S_25]
  show Steps p.tables e below (T9.setTop (mkF m 26 #[.val (.ref o0), .val (.ref o1), .val (.ref o2), .unset, .unset, .unset, .unset, .unset, .unset] [(.int (3 : Int32)), (.ref o0)])) _
  refine st10 _ ?_
  show Steps p.tables e below (T10.setTop (mkF m 28 #[.val (.ref o0), .val (.ref o1), .val (.ref o2), .unset, .unset, .unset, .unset, .unset, .unset] [(.ref b10), (.ref o0)])) _
  refine st11 _ ?_
  show Steps p.tables e below (T11.setTop (mkF m 31 #[.val (.ref o0), .val (.ref o1), .val (.ref o2), .unset, .unset, .unset, .unset, .unset, .unset] [])) _
  refine XS.aloadN X11.here hx rfl (hb hby d1_31) rfl rfl ?_
  show Steps p.tables e below (T11.setTop (mkF m 32 #[.val (.ref o0), .val (.ref o1), .val (.ref o2), .unset, .unset, .unset, .unset, .unset, .unset] [(.ref o0)])) _
  refine XS.aloadN X11.here hx rfl (hb hby d1_32) rfl rfl ?_
  show Steps p.tables e below (T11.setTop (mkF m 33 #[.val (.ref o0), .val (.ref o1), .val (.ref o2), .unset, .unset, .unset, .unset, .unset, .unset] [(.ref o1), (.ref o0)])) _
  refine X11.arraylength hx (by rw [e11]; exact Ar_33.1) (State.isArrayOf_alike hZ.alike Ar_33.2.1) (g := (mkF m 33 #[.val (.ref o0), .val (.ref o1), .val (.ref o2), .unset, .unset, .unset, .unset, .unset, .unset] [(.ref o1), (.ref o0)])) rfl rfl (hb hby d1_33) _ ?_
  rw [S_33]
  show Steps p.tables e below (T11.setTop (mkF m 34 #[.val (.ref o0), .val (.ref o1), .val (.ref o2), .unset, .unset, .unset, .unset, .unset, .unset] [(.int (3 : Int32)), (.ref o0)])) _
  refine st12 _ ?_
  show Steps p.tables e below (T12.setTop (mkF m 36 #[.val (.ref o0), .val (.ref o1), .val (.ref o2), .unset, .unset, .unset, .unset, .unset, .unset] [(.ref b12), (.ref o0)])) _
  refine st13 _ ?_
  show Steps p.tables e below (T13.setTop (mkF m 39 #[.val (.ref o0), .val (.ref o1), .val (.ref o2), .unset, .unset, .unset, .unset, .unset, .unset] [])) _
  refine XS.iconst X13.here hx rfl (hb hby d1_39) ?_
  show Steps p.tables e below (T13.setTop (mkF m 40 #[.val (.ref o0), .val (.ref o1), .val (.ref o2), .unset, .unset, .unset, .unset, .unset, .unset] [(.int (0 : Int32))])) _
  refine XS.istoreN X13.here hx rfl (hb hby d1_40) rfl (l' := #[.val (.ref o0), .val (.ref o1), .val (.ref o2), .val (.int (0 : Int32)), .unset, .unset, .unset, .unset, .unset]) rfl ?_
  show Steps p.tables e below (T13.setTop (mkF m 41 #[.val (.ref o0), .val (.ref o1), .val (.ref o2), .val (.int (0 : Int32)), .unset, .unset, .unset, .unset, .unset] [])) _
  refine XS.iconst X13.here hx rfl (hb hby d1_41) ?_
  show Steps p.tables e below (T13.setTop (mkF m 42 #[.val (.ref o0), .val (.ref o1), .val (.ref o2), .val (.int (0 : Int32)), .unset, .unset, .unset, .unset, .unset] [(.int (0 : Int32))])) _
  refine XS.istore X13.here hx rfl (hb hby d1_42) rfl (l' := #[.val (.ref o0), .val (.ref o1), .val (.ref o2), .val (.int (0 : Int32)), .val (.int (0 : Int32)), .unset, .unset, .unset, .unset]) rfl ?_
  show Steps p.tables e below (T13.setTop (mkF m 44 #[.val (.ref o0), .val (.ref o1), .val (.ref o2), .val (.int (0 : Int32)), .val (.int (0 : Int32)), .unset, .unset, .unset, .unset] [])) _
  refine XS.iconst X13.here hx rfl (hb hby d1_44) ?_
  show Steps p.tables e below (T13.setTop (mkF m 45 #[.val (.ref o0), .val (.ref o1), .val (.ref o2), .val (.int (0 : Int32)), .val (.int (0 : Int32)), .unset, .unset, .unset, .unset] [(.int (0 : Int32))])) _
  refine XS.istore X13.here hx rfl (hb hby d1_45) rfl (l' := #[.val (.ref o0), .val (.ref o1), .val (.ref o2), .val (.int (0 : Int32)), .val (.int (0 : Int32)), .val (.int (0 : Int32)), .unset, .unset, .unset]) rfl ?_
  exact kt
set_option maxRecDepth 65536 in
set_option maxHeartbeats 40000000 in
theorem pf5 {p : Program} {l : Launch} {e : Env} {s : State} {m : MethodId} {args : Array Value} {below : List Frame} {meth : Method} {c : Code} {T0 : State} {locs : List Loc} {Z : State} {a0 : Array Value} {h0 : Heap} (o0 : Addr) (o1 : Addr) (o2 : Addr) (n0 : Nat) (lo hi : Int32) (u_lows_o0 : Value) (u_words_o0 : Value) (u_shifts_o0 : Value) (u_masks_o0 : Value)
    (X0 : Stand p l e own_R1 s m args below meth c T0 locs 0 0) (hx : p.tables.exec = Jvm.exec) (hZ : Z.Warmed39 s.vm) (hw : ∀ d ∈ tables_1, d.before a0 Z = true) (hby : c.code = prog_77_method_1_code) (hml : c.maxLocals = 9) (hown : s.vm.findClass "com/example/tight_bounds/tightbounds/model/StateLayout" = some m.cls) (e0 : T0.heap = h0) (Z0 : n0 ≤ h0.size) (N0 : Fr n0 locs) (hnm : meth.name = "<init>") (ne_o1_o0 : o1 ≠ o0) (ne_o2_o0 : o2 ≠ o0) (hint : ∀ j, j < 5 → ∃ w, (fun _ => Value.int lo) j = .int w) (V_o1 : Ary Z h0 o1 .int 5 (fun _ => .int lo)) (V_o2 : Ary Z h0 o2 .int 5 (fun _ => .int hi)) (F_wordCount_o0 : Fld Z h0 o0 "com/example/tight_bounds/tightbounds/model/StateLayout" "wordCount" "I" (.int (0 : Int32))) (E_o1 : Exa Z h0 o1 "[I") (E_o0 : Exa Z h0 o0 "com/example/tight_bounds/tightbounds/model/StateLayout") (F_lows_o0 : Fld Z h0 o0 "com/example/tight_bounds/tightbounds/model/StateLayout" "lows" "[I" u_lows_o0) (g_o0 : n0 ≤ o0) (F_words_o0 : Fld Z h0 o0 "com/example/tight_bounds/tightbounds/model/StateLayout" "words" "[I" u_words_o0) (F_shifts_o0 : Fld Z h0 o0 "com/example/tight_bounds/tightbounds/model/StateLayout" "shifts" "[I" u_shifts_o0) (F_masks_o0 : Fld Z h0 o0 "com/example/tight_bounds/tightbounds/model/StateLayout" "masks" "[J" u_masks_o0) :
    ∃ (T' : State) (h' : Heap) (locs' : List Loc) (w s' m' : Addr), Stand p l e own_R1 s m args below meth c T' locs' (0 + 4) (0 + 20) ∧ T'.heap = h' ∧ Fr n0 locs' ∧ Keep h0 h' [o0] ∧ n0 ≤ h'.size ∧ own_lay Z h' h0.size o0 o1 o2 w s' m' 5 lo hi ∧
      ∀ target, Steps p.tables e below (T'.setTop (mkF m 47 #[.val (.ref o0), .val (.ref o1), .val (.ref o2), .val (.int (0 : Int32)), .val (.int (0 : Int32)), .val (.int (0 : Int32)), .unset, .unset, .unset] [])) target → Steps p.tables e below (T0.setTop (mkF m 0 #[.val (.ref o0), .val (.ref o1), .val (.ref o2), .unset, .unset, .unset, .unset, .unset, .unset] [])) target := by
  obtain ⟨T4, X4, e4, st4⟩ := initO X0 hx hZ hown (hw _ (List.mem_of_getElem? (i := 11) rfl)) (hw _ (List.mem_of_getElem? (i := 12) rfl)) (hw _ (List.mem_of_getElem? (i := 13) rfl)) e0 (g := (mkF m 1 #[.val (.ref o0), .val (.ref o1), .val (.ref o2), .unset, .unset, .unset, .unset, .unset, .unset] [(.ref o0)])) rfl (by rw [hml]; rfl) rfl (hb hby d1_1) (by decide) (W := 0) (by show 2 * 0 + _ ≤ _; exact Nat.le_of_eq rfl) (by decide)
  obtain ⟨cl_6, Ar_6, S_6, H_6⟩ := id V_o1
  obtain ⟨T5, h5, X5, e5, E5, A5, Q5, st5⟩ := cloneA X4 hx hZ hown (hw _ (List.mem_of_getElem? (i := 14) rfl)) (hw _ (List.mem_of_getElem? (i := 15) rfl)) (hw _ (List.mem_of_getElem? (i := 19) rfl)) (hw _ (List.mem_of_getElem? (i := 17) rfl)) (hw _ (List.mem_of_getElem? (i := 18) rfl)) (hw _ (List.mem_of_getElem? (i := 20) rfl)) e4 Ar_6 E_o1 (own_fitC Ar_6 S_6 H_6 hint) (g := (mkF m 6 #[.val (.ref o0), .val (.ref o1), .val (.ref o2), .unset, .unset, .unset, .unset, .unset, .unset] [(.ref o1), (.ref o0)])) rfl (by rw [hml]; rfl) rfl (hb hby d1_6) (by decide) (W := 1) (by show 2 * 0 + _ ≤ _; exact Nat.le_of_eq rfl) (by decide) (cap := 5) (Nat.le_of_eq S_6) (by decide) (by decide)
  obtain ⟨b5, g5⟩ : ∃ z, z = h0.size := ⟨_, rfl⟩
  rw [← g5] at A5 Q5 st5
  have V_b5 : Ary Z h5 b5 .int 5 _ := ⟨_, A5, S_6, H_6⟩
  have E_b5 := Q5
  have g_b5 : n0 ≤ b5 := Nat.le_trans Z0 (Nat.le_of_eq g5.symm)
  have sz_b5 : h0.size ≤ b5 := (Nat.le_trans (Keep.refl h0 [o0]).1 (Nat.le_of_eq g5.symm))
  have K5 : Keep h0 h5 [o0] := (Keep.refl h0 [o0]).ext E5
  obtain ⟨T6, X6, e6, st6⟩ := castY X5 hx hZ hown (hw _ (List.mem_of_getElem? (i := 21) rfl)) e5 (Ins.self E_b5) (g := (mkF m 9 #[.val (.ref o0), .val (.ref o1), .val (.ref o2), .unset, .unset, .unset, .unset, .unset, .unset] [(.ref b5), (.ref o0)])) rfl rfl (hb hby d1_9)
  obtain ⟨T7, h7, X7, e7, W7, st7⟩ := putF X6 hx hZ hown (host := "") (Or.inl (hw _ (List.mem_of_getElem? (i := 23) rfl))) Via.refl e6 (F_lows_o0.ext E5) (E_o0.ext E5) (Or.inr ⟨(hw _ (List.mem_of_getElem? (i := 24) rfl)), rfl, hnm⟩) (hw _ (List.mem_of_getElem? (i := 6) rfl)) (ty := (.array .int)) (by decide) rfl rfl (g := (mkF m 12 #[.val (.ref o0), .val (.ref o1), .val (.ref o2), .unset, .unset, .unset, .unset, .unset, .unset] [(.ref b5), (.ref o0)])) rfl rfl (hb hby d1_12)
  have Fw7 := (F_lows_o0.ext E5).same W7
  have K7 : Keep h0 h7 [o0] := K5.wr W7 (Or.inl (List.mem_of_getElem? (i := 0) rfl))
  have N7 := Fr.snoc X7 N0 g_o0
  obtain ⟨cl_17, Ar_17, S_17, H_17⟩ := id ((V_o1.ext E5).other W7 ne_o1_o0)
  obtain ⟨T8, h8, k8, X8, e8, E8, A8, st8⟩ := newP X7 hx hZ (hw _ (List.mem_of_getElem? (i := 2) rfl)) e7 (g := (mkF m 18 #[.val (.ref o0), .val (.ref o1), .val (.ref o2), .unset, .unset, .unset, .unset, .unset, .unset] [(.int (5 : Int32)), (.ref o0)])) rfl (hb hby d1_18) rfl (by decide) (cap := 5) (by decide) (by decide) (by decide) (by decide)
  obtain ⟨b8, g8⟩ : ∃ z, z = h7.size := ⟨_, rfl⟩
  rw [← g8] at A8 st8
  have V_b8 : Ary Z h8 b8 .int 5 (fun _ => (.int (0 : Int32))) := Ary.new A8 (by decide) rfl
  have g_b8 : n0 ≤ b8 := Nat.le_trans (Nat.le_trans (Nat.le_trans Z0 E5.1) (Keep.of_wr W7).1) (Nat.le_of_eq g8.symm)
  have sz_b8 : h0.size ≤ b8 := (Nat.le_trans K7.1 (Nat.le_of_eq g8.symm))
  have K8 : Keep h0 h8 [o0] := K7.ext E8
  obtain ⟨T9, h9, X9, e9, W9, st9⟩ := putF X8 hx hZ hown (host := "") (Or.inl (hw _ (List.mem_of_getElem? (i := 25) rfl))) Via.refl e8 (((F_words_o0.ext E5).other W7 (Or.inr (slot_ne (Or.inr (hw _ (List.mem_of_getElem? (i := 26) rfl))) (Or.inr (hw _ (List.mem_of_getElem? (i := 24) rfl))) (by decide) (t := (.array .int)) (t' := (.array .int)) (by decide) (by decide)))).ext E8) (((E_o0.ext E5).wr W7).ext E8) (Or.inr ⟨(hw _ (List.mem_of_getElem? (i := 26) rfl)), rfl, hnm⟩) (hw _ (List.mem_of_getElem? (i := 6) rfl)) (ty := (.array .int)) (by decide) rfl rfl (g := (mkF m 20 #[.val (.ref o0), .val (.ref o1), .val (.ref o2), .unset, .unset, .unset, .unset, .unset, .unset] [(.ref b8), (.ref o0)])) rfl rfl (hb hby d1_20)
  have Fw9 := (((F_words_o0.ext E5).other W7 (Or.inr (slot_ne (Or.inr (hw _ (List.mem_of_getElem? (i := 26) rfl))) (Or.inr (hw _ (List.mem_of_getElem? (i := 24) rfl))) (by decide) (t := (.array .int)) (t' := (.array .int)) (by decide) (by decide)))).ext E8).same W9
  have K9 : Keep h0 h9 [o0] := K8.wr W9 (Or.inl (List.mem_of_getElem? (i := 0) rfl))
  have N9 := Fr.snoc X9 N7 g_o0
  obtain ⟨cl_25, Ar_25, S_25, H_25⟩ := id ((((V_o1.ext E5).other W7 ne_o1_o0).ext E8).other W9 ne_o1_o0)
  obtain ⟨T10, h10, k10, X10, e10, E10, A10, st10⟩ := newP X9 hx hZ (hw _ (List.mem_of_getElem? (i := 2) rfl)) e9 (g := (mkF m 26 #[.val (.ref o0), .val (.ref o1), .val (.ref o2), .unset, .unset, .unset, .unset, .unset, .unset] [(.int (5 : Int32)), (.ref o0)])) rfl (hb hby d1_26) rfl (by decide) (cap := 5) (by decide) (by decide) (by decide) (by decide)
  obtain ⟨b10, g10⟩ : ∃ z, z = h9.size := ⟨_, rfl⟩
  rw [← g10] at A10 st10
  have V_b10 : Ary Z h10 b10 .int 5 (fun _ => (.int (0 : Int32))) := Ary.new A10 (by decide) rfl
  have g_b10 : n0 ≤ b10 := Nat.le_trans (Nat.le_trans (Nat.le_trans (Nat.le_trans (Nat.le_trans Z0 E5.1) (Keep.of_wr W7).1) E8.1) (Keep.of_wr W9).1) (Nat.le_of_eq g10.symm)
  have sz_b10 : h0.size ≤ b10 := (Nat.le_trans K9.1 (Nat.le_of_eq g10.symm))
  have K10 : Keep h0 h10 [o0] := K9.ext E10
  obtain ⟨T11, h11, X11, e11, W11, st11⟩ := putF X10 hx hZ hown (host := "") (Or.inl (hw _ (List.mem_of_getElem? (i := 27) rfl))) Via.refl e10 (((((F_shifts_o0.ext E5).other W7 (Or.inr (slot_ne (Or.inr (hw _ (List.mem_of_getElem? (i := 28) rfl))) (Or.inr (hw _ (List.mem_of_getElem? (i := 24) rfl))) (by decide) (t := (.array .int)) (t' := (.array .int)) (by decide) (by decide)))).ext E8).other W9 (Or.inr (slot_ne (Or.inr (hw _ (List.mem_of_getElem? (i := 28) rfl))) (Or.inr (hw _ (List.mem_of_getElem? (i := 26) rfl))) (by decide) (t := (.array .int)) (t' := (.array .int)) (by decide) (by decide)))).ext E10) (((((E_o0.ext E5).wr W7).ext E8).wr W9).ext E10) (Or.inr ⟨(hw _ (List.mem_of_getElem? (i := 28) rfl)), rfl, hnm⟩) (hw _ (List.mem_of_getElem? (i := 6) rfl)) (ty := (.array .int)) (by decide) rfl rfl (g := (mkF m 28 #[.val (.ref o0), .val (.ref o1), .val (.ref o2), .unset, .unset, .unset, .unset, .unset, .unset] [(.ref b10), (.ref o0)])) rfl rfl (hb hby d1_28)
  have Fw11 := (((((F_shifts_o0.ext E5).other W7 (Or.inr (slot_ne (Or.inr (hw _ (List.mem_of_getElem? (i := 28) rfl))) (Or.inr (hw _ (List.mem_of_getElem? (i := 24) rfl))) (by decide) (t := (.array .int)) (t' := (.array .int)) (by decide) (by decide)))).ext E8).other W9 (Or.inr (slot_ne (Or.inr (hw _ (List.mem_of_getElem? (i := 28) rfl))) (Or.inr (hw _ (List.mem_of_getElem? (i := 26) rfl))) (by decide) (t := (.array .int)) (t' := (.array .int)) (by decide) (by decide)))).ext E10).same W11
  have K11 : Keep h0 h11 [o0] := K10.wr W11 (Or.inl (List.mem_of_getElem? (i := 0) rfl))
  have N11 := Fr.snoc X11 N9 g_o0
  obtain ⟨cl_33, Ar_33, S_33, H_33⟩ := id ((((((V_o1.ext E5).other W7 ne_o1_o0).ext E8).other W9 ne_o1_o0).ext E10).other W11 ne_o1_o0)
  obtain ⟨T12, h12, k12, X12, e12, E12, A12, st12⟩ := newP X11 hx hZ (hw _ (List.mem_of_getElem? (i := 3) rfl)) e11 (g := (mkF m 34 #[.val (.ref o0), .val (.ref o1), .val (.ref o2), .unset, .unset, .unset, .unset, .unset, .unset] [(.int (5 : Int32)), (.ref o0)])) rfl (hb hby d1_34) rfl (by decide) (cap := 5) (by decide) (by decide) (by decide) (by decide)
  obtain ⟨b12, g12⟩ : ∃ z, z = h11.size := ⟨_, rfl⟩
  rw [← g12] at A12 st12
  have V_b12 : Ary Z h12 b12 .long 5 (fun _ => (.long (0 : Int64))) := Ary.new A12 (by decide) rfl
  have g_b12 : n0 ≤ b12 := Nat.le_trans (Nat.le_trans (Nat.le_trans (Nat.le_trans (Nat.le_trans (Nat.le_trans (Nat.le_trans Z0 E5.1) (Keep.of_wr W7).1) E8.1) (Keep.of_wr W9).1) E10.1) (Keep.of_wr W11).1) (Nat.le_of_eq g12.symm)
  have sz_b12 : h0.size ≤ b12 := (Nat.le_trans K11.1 (Nat.le_of_eq g12.symm))
  have K12 : Keep h0 h12 [o0] := K11.ext E12
  obtain ⟨T13, h13, X13, e13, W13, st13⟩ := putF X12 hx hZ hown (host := "") (Or.inl (hw _ (List.mem_of_getElem? (i := 29) rfl))) Via.refl e12 (((((((F_masks_o0.ext E5).other W7 (Or.inr (slot_ne (Or.inr (hw _ (List.mem_of_getElem? (i := 30) rfl))) (Or.inr (hw _ (List.mem_of_getElem? (i := 24) rfl))) (by decide) (t := (.array .long)) (t' := (.array .int)) (by decide) (by decide)))).ext E8).other W9 (Or.inr (slot_ne (Or.inr (hw _ (List.mem_of_getElem? (i := 30) rfl))) (Or.inr (hw _ (List.mem_of_getElem? (i := 26) rfl))) (by decide) (t := (.array .long)) (t' := (.array .int)) (by decide) (by decide)))).ext E10).other W11 (Or.inr (slot_ne (Or.inr (hw _ (List.mem_of_getElem? (i := 30) rfl))) (Or.inr (hw _ (List.mem_of_getElem? (i := 28) rfl))) (by decide) (t := (.array .long)) (t' := (.array .int)) (by decide) (by decide)))).ext E12) (((((((E_o0.ext E5).wr W7).ext E8).wr W9).ext E10).wr W11).ext E12) (Or.inr ⟨(hw _ (List.mem_of_getElem? (i := 30) rfl)), rfl, hnm⟩) (hw _ (List.mem_of_getElem? (i := 6) rfl)) (ty := (.array .long)) (by decide) rfl rfl (g := (mkF m 36 #[.val (.ref o0), .val (.ref o1), .val (.ref o2), .unset, .unset, .unset, .unset, .unset, .unset] [(.ref b12), (.ref o0)])) rfl rfl (hb hby d1_36)
  have Fw13 := (((((((F_masks_o0.ext E5).other W7 (Or.inr (slot_ne (Or.inr (hw _ (List.mem_of_getElem? (i := 30) rfl))) (Or.inr (hw _ (List.mem_of_getElem? (i := 24) rfl))) (by decide) (t := (.array .long)) (t' := (.array .int)) (by decide) (by decide)))).ext E8).other W9 (Or.inr (slot_ne (Or.inr (hw _ (List.mem_of_getElem? (i := 30) rfl))) (Or.inr (hw _ (List.mem_of_getElem? (i := 26) rfl))) (by decide) (t := (.array .long)) (t' := (.array .int)) (by decide) (by decide)))).ext E10).other W11 (Or.inr (slot_ne (Or.inr (hw _ (List.mem_of_getElem? (i := 30) rfl))) (Or.inr (hw _ (List.mem_of_getElem? (i := 28) rfl))) (by decide) (t := (.array .long)) (t' := (.array .int)) (by decide) (by decide)))).ext E12).same W13
  have K13 : Keep h0 h13 [o0] := K12.wr W13 (Or.inl (List.mem_of_getElem? (i := 0) rfl))
  have N13 := Fr.snoc X13 N11 g_o0
  have Vend_o1 := ((((((((V_o1.ext E5).other W7 ne_o1_o0).ext E8).other W9 ne_o1_o0).ext E10).other W11 ne_o1_o0).ext E12).other W13 ne_o1_o0)
  have Vend_o2 := ((((((((V_o2.ext E5).other W7 ne_o2_o0).ext E8).other W9 ne_o2_o0).ext E10).other W11 ne_o2_o0).ext E12).other W13 ne_o2_o0)
  have Fend_wordCount_o0 := ((((((((F_wordCount_o0.ext E5).other W7 (Or.inr (slot_ne (Or.inr (hw _ (List.mem_of_getElem? (i := 32) rfl))) (Or.inr (hw _ (List.mem_of_getElem? (i := 24) rfl))) (by decide) (t := .int) (t' := (.array .int)) (by decide) (by decide)))).ext E8).other W9 (Or.inr (slot_ne (Or.inr (hw _ (List.mem_of_getElem? (i := 32) rfl))) (Or.inr (hw _ (List.mem_of_getElem? (i := 26) rfl))) (by decide) (t := .int) (t' := (.array .int)) (by decide) (by decide)))).ext E10).other W11 (Or.inr (slot_ne (Or.inr (hw _ (List.mem_of_getElem? (i := 32) rfl))) (Or.inr (hw _ (List.mem_of_getElem? (i := 28) rfl))) (by decide) (t := .int) (t' := (.array .int)) (by decide) (by decide)))).ext E12).other W13 (Or.inr (slot_ne (Or.inr (hw _ (List.mem_of_getElem? (i := 32) rfl))) (Or.inr (hw _ (List.mem_of_getElem? (i := 30) rfl))) (by decide) (t := .int) (t' := (.array .long)) (by decide) (by decide))))
  have Eend_o1 := ((((((((E_o1.ext E5).wr W7).ext E8).wr W9).ext E10).wr W11).ext E12).wr W13)
  have Vend_b5 := (((((((V_b5.other W7 (Ne.symm (Nat.ne_of_lt (Nat.lt_of_lt_of_le F_wordCount_o0.lt (Nat.le_of_eq g5.symm))))).ext E8).other W9 (Ne.symm (Nat.ne_of_lt (Nat.lt_of_lt_of_le F_wordCount_o0.lt (Nat.le_of_eq g5.symm))))).ext E10).other W11 (Ne.symm (Nat.ne_of_lt (Nat.lt_of_lt_of_le F_wordCount_o0.lt (Nat.le_of_eq g5.symm))))).ext E12).other W13 (Ne.symm (Nat.ne_of_lt (Nat.lt_of_lt_of_le F_wordCount_o0.lt (Nat.le_of_eq g5.symm)))))
  have Eend_b5 := (((((((E_b5.wr W7).ext E8).wr W9).ext E10).wr W11).ext E12).wr W13)
  have Eend_o0 := ((((((((E_o0.ext E5).wr W7).ext E8).wr W9).ext E10).wr W11).ext E12).wr W13)
  have Fend_lows_o0 := ((((((Fw7.ext E8).other W9 (Or.inr (slot_ne (Or.inr (hw _ (List.mem_of_getElem? (i := 24) rfl))) (Or.inr (hw _ (List.mem_of_getElem? (i := 26) rfl))) (by decide) (t := (.array .int)) (t' := (.array .int)) (by decide) (by decide)))).ext E10).other W11 (Or.inr (slot_ne (Or.inr (hw _ (List.mem_of_getElem? (i := 24) rfl))) (Or.inr (hw _ (List.mem_of_getElem? (i := 28) rfl))) (by decide) (t := (.array .int)) (t' := (.array .int)) (by decide) (by decide)))).ext E12).other W13 (Or.inr (slot_ne (Or.inr (hw _ (List.mem_of_getElem? (i := 24) rfl))) (Or.inr (hw _ (List.mem_of_getElem? (i := 30) rfl))) (by decide) (t := (.array .int)) (t' := (.array .long)) (by decide) (by decide))))
  have Vend_b8 := (((((V_b8.other W9 (Ne.symm (Nat.ne_of_lt (Nat.lt_of_lt_of_le ((F_wordCount_o0.ext E5).other W7 (Or.inr (slot_ne (Or.inr (hw _ (List.mem_of_getElem? (i := 32) rfl))) (Or.inr (hw _ (List.mem_of_getElem? (i := 24) rfl))) (by decide) (t := .int) (t' := (.array .int)) (by decide) (by decide)))).lt (Nat.le_of_eq g8.symm))))).ext E10).other W11 (Ne.symm (Nat.ne_of_lt (Nat.lt_of_lt_of_le ((F_wordCount_o0.ext E5).other W7 (Or.inr (slot_ne (Or.inr (hw _ (List.mem_of_getElem? (i := 32) rfl))) (Or.inr (hw _ (List.mem_of_getElem? (i := 24) rfl))) (by decide) (t := .int) (t' := (.array .int)) (by decide) (by decide)))).lt (Nat.le_of_eq g8.symm))))).ext E12).other W13 (Ne.symm (Nat.ne_of_lt (Nat.lt_of_lt_of_le ((F_wordCount_o0.ext E5).other W7 (Or.inr (slot_ne (Or.inr (hw _ (List.mem_of_getElem? (i := 32) rfl))) (Or.inr (hw _ (List.mem_of_getElem? (i := 24) rfl))) (by decide) (t := .int) (t' := (.array .int)) (by decide) (by decide)))).lt (Nat.le_of_eq g8.symm)))))
  have Fend_words_o0 := ((((Fw9.ext E10).other W11 (Or.inr (slot_ne (Or.inr (hw _ (List.mem_of_getElem? (i := 26) rfl))) (Or.inr (hw _ (List.mem_of_getElem? (i := 28) rfl))) (by decide) (t := (.array .int)) (t' := (.array .int)) (by decide) (by decide)))).ext E12).other W13 (Or.inr (slot_ne (Or.inr (hw _ (List.mem_of_getElem? (i := 26) rfl))) (Or.inr (hw _ (List.mem_of_getElem? (i := 30) rfl))) (by decide) (t := (.array .int)) (t' := (.array .long)) (by decide) (by decide))))
  have Vend_b10 := (((V_b10.other W11 (Ne.symm (Nat.ne_of_lt (Nat.lt_of_lt_of_le ((((F_wordCount_o0.ext E5).other W7 (Or.inr (slot_ne (Or.inr (hw _ (List.mem_of_getElem? (i := 32) rfl))) (Or.inr (hw _ (List.mem_of_getElem? (i := 24) rfl))) (by decide) (t := .int) (t' := (.array .int)) (by decide) (by decide)))).ext E8).other W9 (Or.inr (slot_ne (Or.inr (hw _ (List.mem_of_getElem? (i := 32) rfl))) (Or.inr (hw _ (List.mem_of_getElem? (i := 26) rfl))) (by decide) (t := .int) (t' := (.array .int)) (by decide) (by decide)))).lt (Nat.le_of_eq g10.symm))))).ext E12).other W13 (Ne.symm (Nat.ne_of_lt (Nat.lt_of_lt_of_le ((((F_wordCount_o0.ext E5).other W7 (Or.inr (slot_ne (Or.inr (hw _ (List.mem_of_getElem? (i := 32) rfl))) (Or.inr (hw _ (List.mem_of_getElem? (i := 24) rfl))) (by decide) (t := .int) (t' := (.array .int)) (by decide) (by decide)))).ext E8).other W9 (Or.inr (slot_ne (Or.inr (hw _ (List.mem_of_getElem? (i := 32) rfl))) (Or.inr (hw _ (List.mem_of_getElem? (i := 26) rfl))) (by decide) (t := .int) (t' := (.array .int)) (by decide) (by decide)))).lt (Nat.le_of_eq g10.symm)))))
  have Fend_shifts_o0 := ((Fw11.ext E12).other W13 (Or.inr (slot_ne (Or.inr (hw _ (List.mem_of_getElem? (i := 28) rfl))) (Or.inr (hw _ (List.mem_of_getElem? (i := 30) rfl))) (by decide) (t := (.array .int)) (t' := (.array .long)) (by decide) (by decide))))
  have Vend_b12 := (V_b12.other W13 (Ne.symm (Nat.ne_of_lt (Nat.lt_of_lt_of_le ((((((F_wordCount_o0.ext E5).other W7 (Or.inr (slot_ne (Or.inr (hw _ (List.mem_of_getElem? (i := 32) rfl))) (Or.inr (hw _ (List.mem_of_getElem? (i := 24) rfl))) (by decide) (t := .int) (t' := (.array .int)) (by decide) (by decide)))).ext E8).other W9 (Or.inr (slot_ne (Or.inr (hw _ (List.mem_of_getElem? (i := 32) rfl))) (Or.inr (hw _ (List.mem_of_getElem? (i := 26) rfl))) (by decide) (t := .int) (t' := (.array .int)) (by decide) (by decide)))).ext E10).other W11 (Or.inr (slot_ne (Or.inr (hw _ (List.mem_of_getElem? (i := 32) rfl))) (Or.inr (hw _ (List.mem_of_getElem? (i := 28) rfl))) (by decide) (t := .int) (t' := (.array .int)) (by decide) (by decide)))).lt (Nat.le_of_eq g12.symm)))))
  have Fend_masks_o0 := Fw13
  have ne_o1_b5 : o1 ≠ b5 := (Nat.ne_of_lt (Nat.lt_of_lt_of_le V_o1.lt (Nat.le_of_eq g5.symm)))
  have ne_o2_b5 : o2 ≠ b5 := (Nat.ne_of_lt (Nat.lt_of_lt_of_le V_o2.lt (Nat.le_of_eq g5.symm)))
  have ne_o0_b5 : o0 ≠ b5 := (Nat.ne_of_lt (Nat.lt_of_lt_of_le F_wordCount_o0.lt (Nat.le_of_eq g5.symm)))
  have ne_o1_b8 : o1 ≠ b8 := (Nat.ne_of_lt (Nat.lt_of_lt_of_le ((V_o1.ext E5).other W7 ne_o1_o0).lt (Nat.le_of_eq g8.symm)))
  have ne_o2_b8 : o2 ≠ b8 := (Nat.ne_of_lt (Nat.lt_of_lt_of_le ((V_o2.ext E5).other W7 ne_o2_o0).lt (Nat.le_of_eq g8.symm)))
  have ne_o0_b8 : o0 ≠ b8 := (Nat.ne_of_lt (Nat.lt_of_lt_of_le ((F_wordCount_o0.ext E5).other W7 (Or.inr (slot_ne (Or.inr (hw _ (List.mem_of_getElem? (i := 32) rfl))) (Or.inr (hw _ (List.mem_of_getElem? (i := 24) rfl))) (by decide) (t := .int) (t' := (.array .int)) (by decide) (by decide)))).lt (Nat.le_of_eq g8.symm)))
  have ne_b5_b8 : b5 ≠ b8 := (Nat.ne_of_lt (Nat.lt_of_lt_of_le (V_b5.other W7 (Ne.symm (Nat.ne_of_lt (Nat.lt_of_lt_of_le F_wordCount_o0.lt (Nat.le_of_eq g5.symm))))).lt (Nat.le_of_eq g8.symm)))
  have ne_o1_b10 : o1 ≠ b10 := (Nat.ne_of_lt (Nat.lt_of_lt_of_le ((((V_o1.ext E5).other W7 ne_o1_o0).ext E8).other W9 ne_o1_o0).lt (Nat.le_of_eq g10.symm)))
  have ne_o2_b10 : o2 ≠ b10 := (Nat.ne_of_lt (Nat.lt_of_lt_of_le ((((V_o2.ext E5).other W7 ne_o2_o0).ext E8).other W9 ne_o2_o0).lt (Nat.le_of_eq g10.symm)))
  have ne_o0_b10 : o0 ≠ b10 := (Nat.ne_of_lt (Nat.lt_of_lt_of_le ((((F_wordCount_o0.ext E5).other W7 (Or.inr (slot_ne (Or.inr (hw _ (List.mem_of_getElem? (i := 32) rfl))) (Or.inr (hw _ (List.mem_of_getElem? (i := 24) rfl))) (by decide) (t := .int) (t' := (.array .int)) (by decide) (by decide)))).ext E8).other W9 (Or.inr (slot_ne (Or.inr (hw _ (List.mem_of_getElem? (i := 32) rfl))) (Or.inr (hw _ (List.mem_of_getElem? (i := 26) rfl))) (by decide) (t := .int) (t' := (.array .int)) (by decide) (by decide)))).lt (Nat.le_of_eq g10.symm)))
  have ne_b5_b10 : b5 ≠ b10 := (Nat.ne_of_lt (Nat.lt_of_lt_of_le (((V_b5.other W7 (Ne.symm (Nat.ne_of_lt (Nat.lt_of_lt_of_le F_wordCount_o0.lt (Nat.le_of_eq g5.symm))))).ext E8).other W9 (Ne.symm (Nat.ne_of_lt (Nat.lt_of_lt_of_le F_wordCount_o0.lt (Nat.le_of_eq g5.symm))))).lt (Nat.le_of_eq g10.symm)))
  have ne_b8_b10 : b8 ≠ b10 := (Nat.ne_of_lt (Nat.lt_of_lt_of_le (V_b8.other W9 (Ne.symm (Nat.ne_of_lt (Nat.lt_of_lt_of_le ((F_wordCount_o0.ext E5).other W7 (Or.inr (slot_ne (Or.inr (hw _ (List.mem_of_getElem? (i := 32) rfl))) (Or.inr (hw _ (List.mem_of_getElem? (i := 24) rfl))) (by decide) (t := .int) (t' := (.array .int)) (by decide) (by decide)))).lt (Nat.le_of_eq g8.symm))))).lt (Nat.le_of_eq g10.symm)))
  have ne_o1_b12 : o1 ≠ b12 := (Nat.ne_of_lt (Nat.lt_of_lt_of_le ((((((V_o1.ext E5).other W7 ne_o1_o0).ext E8).other W9 ne_o1_o0).ext E10).other W11 ne_o1_o0).lt (Nat.le_of_eq g12.symm)))
  have ne_o2_b12 : o2 ≠ b12 := (Nat.ne_of_lt (Nat.lt_of_lt_of_le ((((((V_o2.ext E5).other W7 ne_o2_o0).ext E8).other W9 ne_o2_o0).ext E10).other W11 ne_o2_o0).lt (Nat.le_of_eq g12.symm)))
  have ne_o0_b12 : o0 ≠ b12 := (Nat.ne_of_lt (Nat.lt_of_lt_of_le ((((((F_wordCount_o0.ext E5).other W7 (Or.inr (slot_ne (Or.inr (hw _ (List.mem_of_getElem? (i := 32) rfl))) (Or.inr (hw _ (List.mem_of_getElem? (i := 24) rfl))) (by decide) (t := .int) (t' := (.array .int)) (by decide) (by decide)))).ext E8).other W9 (Or.inr (slot_ne (Or.inr (hw _ (List.mem_of_getElem? (i := 32) rfl))) (Or.inr (hw _ (List.mem_of_getElem? (i := 26) rfl))) (by decide) (t := .int) (t' := (.array .int)) (by decide) (by decide)))).ext E10).other W11 (Or.inr (slot_ne (Or.inr (hw _ (List.mem_of_getElem? (i := 32) rfl))) (Or.inr (hw _ (List.mem_of_getElem? (i := 28) rfl))) (by decide) (t := .int) (t' := (.array .int)) (by decide) (by decide)))).lt (Nat.le_of_eq g12.symm)))
  have ne_b5_b12 : b5 ≠ b12 := (Nat.ne_of_lt (Nat.lt_of_lt_of_le (((((V_b5.other W7 (Ne.symm (Nat.ne_of_lt (Nat.lt_of_lt_of_le F_wordCount_o0.lt (Nat.le_of_eq g5.symm))))).ext E8).other W9 (Ne.symm (Nat.ne_of_lt (Nat.lt_of_lt_of_le F_wordCount_o0.lt (Nat.le_of_eq g5.symm))))).ext E10).other W11 (Ne.symm (Nat.ne_of_lt (Nat.lt_of_lt_of_le F_wordCount_o0.lt (Nat.le_of_eq g5.symm))))).lt (Nat.le_of_eq g12.symm)))
  have ne_b8_b12 : b8 ≠ b12 := (Nat.ne_of_lt (Nat.lt_of_lt_of_le (((V_b8.other W9 (Ne.symm (Nat.ne_of_lt (Nat.lt_of_lt_of_le ((F_wordCount_o0.ext E5).other W7 (Or.inr (slot_ne (Or.inr (hw _ (List.mem_of_getElem? (i := 32) rfl))) (Or.inr (hw _ (List.mem_of_getElem? (i := 24) rfl))) (by decide) (t := .int) (t' := (.array .int)) (by decide) (by decide)))).lt (Nat.le_of_eq g8.symm))))).ext E10).other W11 (Ne.symm (Nat.ne_of_lt (Nat.lt_of_lt_of_le ((F_wordCount_o0.ext E5).other W7 (Or.inr (slot_ne (Or.inr (hw _ (List.mem_of_getElem? (i := 32) rfl))) (Or.inr (hw _ (List.mem_of_getElem? (i := 24) rfl))) (by decide) (t := .int) (t' := (.array .int)) (by decide) (by decide)))).lt (Nat.le_of_eq g8.symm))))).lt (Nat.le_of_eq g12.symm)))
  have ne_b10_b12 : b10 ≠ b12 := (Nat.ne_of_lt (Nat.lt_of_lt_of_le (V_b10.other W11 (Ne.symm (Nat.ne_of_lt (Nat.lt_of_lt_of_le ((((F_wordCount_o0.ext E5).other W7 (Or.inr (slot_ne (Or.inr (hw _ (List.mem_of_getElem? (i := 32) rfl))) (Or.inr (hw _ (List.mem_of_getElem? (i := 24) rfl))) (by decide) (t := .int) (t' := (.array .int)) (by decide) (by decide)))).ext E8).other W9 (Or.inr (slot_ne (Or.inr (hw _ (List.mem_of_getElem? (i := 32) rfl))) (Or.inr (hw _ (List.mem_of_getElem? (i := 26) rfl))) (by decide) (t := .int) (t' := (.array .int)) (by decide) (by decide)))).lt (Nat.le_of_eq g10.symm))))).lt (Nat.le_of_eq g12.symm)))
  have Zend : n0 ≤ h13.size := (Nat.le_trans (Nat.le_trans (Nat.le_trans (Nat.le_trans (Nat.le_trans (Nat.le_trans (Nat.le_trans (Nat.le_trans Z0 E5.1) (Keep.of_wr W7).1) E8.1) (Keep.of_wr W9).1) E10.1) (Keep.of_wr W11).1) E12.1) (Keep.of_wr W13).1)
  have Kend := K13
  refine ⟨T13, _, _, b8, b10, b12, X13, e13, N13, Kend, Zend, ⟨sz_b8, sz_b10, sz_b12, Eend_o0, Fend_words_o0, Fend_shifts_o0, Fend_masks_o0, Fend_wordCount_o0, Vend_o1, Vend_o2, ⟨_, Vend_b8⟩, ⟨_, Vend_b10⟩, ⟨_, Vend_b12⟩, ne_o0_b8, ne_o0_b10, ne_o0_b12, ne_o1_b8, ne_o1_b10, ne_o1_b12, ne_o2_b8, ne_o2_b10, ne_o2_b12, ne_b8_b10, ne_b8_b12, ne_b10_b12⟩, fun target kt => ?_⟩
  show Steps p.tables e below (T0.setTop (mkF m 0 #[.val (.ref o0), .val (.ref o1), .val (.ref o2), .unset, .unset, .unset, .unset, .unset, .unset] [])) _
  refine XS.aloadN X0.here hx rfl (hb hby d1_0) rfl rfl ?_
  show Steps p.tables e below (T0.setTop (mkF m 1 #[.val (.ref o0), .val (.ref o1), .val (.ref o2), .unset, .unset, .unset, .unset, .unset, .unset] [(.ref o0)])) _
  refine st4 _ ?_
  show Steps p.tables e below (T4.setTop (mkF m 4 #[.val (.ref o0), .val (.ref o1), .val (.ref o2), .unset, .unset, .unset, .unset, .unset, .unset] [])) _
  refine XS.aloadN X4.here hx rfl (hb hby d1_4) rfl rfl ?_
  show Steps p.tables e below (T4.setTop (mkF m 5 #[.val (.ref o0), .val (.ref o1), .val (.ref o2), .unset, .unset, .unset, .unset, .unset, .unset] [(.ref o0)])) _
  refine XS.aloadN X4.here hx rfl (hb hby d1_5) rfl rfl ?_
  show Steps p.tables e below (T4.setTop (mkF m 6 #[.val (.ref o0), .val (.ref o1), .val (.ref o2), .unset, .unset, .unset, .unset, .unset, .unset] [(.ref o1), (.ref o0)])) _
  refine st5 _ ?_
  show Steps p.tables e below (T5.setTop (mkF m 9 #[.val (.ref o0), .val (.ref o1), .val (.ref o2), .unset, .unset, .unset, .unset, .unset, .unset] [(.ref b5), (.ref o0)])) _
  refine st6 _ ?_
  show Steps p.tables e below (T6.setTop (mkF m 12 #[.val (.ref o0), .val (.ref o1), .val (.ref o2), .unset, .unset, .unset, .unset, .unset, .unset] [(.ref b5), (.ref o0)])) _
  refine st7 _ ?_
  show Steps p.tables e below (T7.setTop (mkF m 15 #[.val (.ref o0), .val (.ref o1), .val (.ref o2), .unset, .unset, .unset, .unset, .unset, .unset] [])) _
  refine XS.aloadN X7.here hx rfl (hb hby d1_15) rfl rfl ?_
  show Steps p.tables e below (T7.setTop (mkF m 16 #[.val (.ref o0), .val (.ref o1), .val (.ref o2), .unset, .unset, .unset, .unset, .unset, .unset] [(.ref o0)])) _
  refine XS.aloadN X7.here hx rfl (hb hby d1_16) rfl rfl ?_
  show Steps p.tables e below (T7.setTop (mkF m 17 #[.val (.ref o0), .val (.ref o1), .val (.ref o2), .unset, .unset, .unset, .unset, .unset, .unset] [(.ref o1), (.ref o0)])) _
  refine X7.arraylength hx (by rw [e7]; exact Ar_17.1) (State.isArrayOf_alike hZ.alike Ar_17.2.1) (g := (mkF m 17 #[.val (.ref o0), .val (.ref o1), .val (.ref o2), .unset, .unset, .unset, .unset, .unset, .unset] [(.ref o1), (.ref o0)])) rfl rfl (hb hby d1_17) _ ?_
  rw [S_17]
  show Steps p.tables e below (T7.setTop (mkF m 18 #[.val (.ref o0), .val (.ref o1), .val (.ref o2), .unset, .unset, .unset, .unset, .unset, .unset] [(.int (5 : Int32)), (.ref o0)])) _
  refine st8 _ ?_
  show Steps p.tables e below (T8.setTop (mkF m 20 #[.val (.ref o0), .val (.ref o1), .val (.ref o2), .unset, .unset, .unset, .unset, .unset, .unset] [(.ref b8), (.ref o0)])) _
  refine st9 _ ?_
  show Steps p.tables e below (T9.setTop (mkF m 23 #[.val (.ref o0), .val (.ref o1), .val (.ref o2), .unset, .unset, .unset, .unset, .unset, .unset] [])) _
  refine XS.aloadN X9.here hx rfl (hb hby d1_23) rfl rfl ?_
  show Steps p.tables e below (T9.setTop (mkF m 24 #[.val (.ref o0), .val (.ref o1), .val (.ref o2), .unset, .unset, .unset, .unset, .unset, .unset] [(.ref o0)])) _
  refine XS.aloadN X9.here hx rfl (hb hby d1_24) rfl rfl ?_
  show Steps p.tables e below (T9.setTop (mkF m 25 #[.val (.ref o0), .val (.ref o1), .val (.ref o2), .unset, .unset, .unset, .unset, .unset, .unset] [(.ref o1), (.ref o0)])) _
  refine X9.arraylength hx (by rw [e9]; exact Ar_25.1) (State.isArrayOf_alike hZ.alike Ar_25.2.1) (g := (mkF m 25 #[.val (.ref o0), .val (.ref o1), .val (.ref o2), .unset, .unset, .unset, .unset, .unset, .unset] [(.ref o1), (.ref o0)])) rfl rfl (hb hby d1_25) _ ?_
  rw [S_25]
  show Steps p.tables e below (T9.setTop (mkF m 26 #[.val (.ref o0), .val (.ref o1), .val (.ref o2), .unset, .unset, .unset, .unset, .unset, .unset] [(.int (5 : Int32)), (.ref o0)])) _
  refine st10 _ ?_
  show Steps p.tables e below (T10.setTop (mkF m 28 #[.val (.ref o0), .val (.ref o1), .val (.ref o2), .unset, .unset, .unset, .unset, .unset, .unset] [(.ref b10), (.ref o0)])) _
  refine st11 _ ?_
  show Steps p.tables e below (T11.setTop (mkF m 31 #[.val (.ref o0), .val (.ref o1), .val (.ref o2), .unset, .unset, .unset, .unset, .unset, .unset] [])) _
  refine XS.aloadN X11.here hx rfl (hb hby d1_31) rfl rfl ?_
  show Steps p.tables e below (T11.setTop (mkF m 32 #[.val (.ref o0), .val (.ref o1), .val (.ref o2), .unset, .unset, .unset, .unset, .unset, .unset] [(.ref o0)])) _
  refine XS.aloadN X11.here hx rfl (hb hby d1_32) rfl rfl ?_
  show Steps p.tables e below (T11.setTop (mkF m 33 #[.val (.ref o0), .val (.ref o1), .val (.ref o2), .unset, .unset, .unset, .unset, .unset, .unset] [(.ref o1), (.ref o0)])) _
  refine X11.arraylength hx (by rw [e11]; exact Ar_33.1) (State.isArrayOf_alike hZ.alike Ar_33.2.1) (g := (mkF m 33 #[.val (.ref o0), .val (.ref o1), .val (.ref o2), .unset, .unset, .unset, .unset, .unset, .unset] [(.ref o1), (.ref o0)])) rfl rfl (hb hby d1_33) _ ?_
  rw [S_33]
  show Steps p.tables e below (T11.setTop (mkF m 34 #[.val (.ref o0), .val (.ref o1), .val (.ref o2), .unset, .unset, .unset, .unset, .unset, .unset] [(.int (5 : Int32)), (.ref o0)])) _
  refine st12 _ ?_
  show Steps p.tables e below (T12.setTop (mkF m 36 #[.val (.ref o0), .val (.ref o1), .val (.ref o2), .unset, .unset, .unset, .unset, .unset, .unset] [(.ref b12), (.ref o0)])) _
  refine st13 _ ?_
  show Steps p.tables e below (T13.setTop (mkF m 39 #[.val (.ref o0), .val (.ref o1), .val (.ref o2), .unset, .unset, .unset, .unset, .unset, .unset] [])) _
  refine XS.iconst X13.here hx rfl (hb hby d1_39) ?_
  show Steps p.tables e below (T13.setTop (mkF m 40 #[.val (.ref o0), .val (.ref o1), .val (.ref o2), .unset, .unset, .unset, .unset, .unset, .unset] [(.int (0 : Int32))])) _
  refine XS.istoreN X13.here hx rfl (hb hby d1_40) rfl (l' := #[.val (.ref o0), .val (.ref o1), .val (.ref o2), .val (.int (0 : Int32)), .unset, .unset, .unset, .unset, .unset]) rfl ?_
  show Steps p.tables e below (T13.setTop (mkF m 41 #[.val (.ref o0), .val (.ref o1), .val (.ref o2), .val (.int (0 : Int32)), .unset, .unset, .unset, .unset, .unset] [])) _
  refine XS.iconst X13.here hx rfl (hb hby d1_41) ?_
  show Steps p.tables e below (T13.setTop (mkF m 42 #[.val (.ref o0), .val (.ref o1), .val (.ref o2), .val (.int (0 : Int32)), .unset, .unset, .unset, .unset, .unset] [(.int (0 : Int32))])) _
  refine XS.istore X13.here hx rfl (hb hby d1_42) rfl (l' := #[.val (.ref o0), .val (.ref o1), .val (.ref o2), .val (.int (0 : Int32)), .val (.int (0 : Int32)), .unset, .unset, .unset, .unset]) rfl ?_
  show Steps p.tables e below (T13.setTop (mkF m 44 #[.val (.ref o0), .val (.ref o1), .val (.ref o2), .val (.int (0 : Int32)), .val (.int (0 : Int32)), .unset, .unset, .unset, .unset] [])) _
  refine XS.iconst X13.here hx rfl (hb hby d1_44) ?_
  show Steps p.tables e below (T13.setTop (mkF m 45 #[.val (.ref o0), .val (.ref o1), .val (.ref o2), .val (.int (0 : Int32)), .val (.int (0 : Int32)), .unset, .unset, .unset, .unset] [(.int (0 : Int32))])) _
  refine XS.istore X13.here hx rfl (hb hby d1_45) rfl (l' := #[.val (.ref o0), .val (.ref o1), .val (.ref o2), .val (.int (0 : Int32)), .val (.int (0 : Int32)), .val (.int (0 : Int32)), .unset, .unset, .unset]) rfl ?_
  exact kt
theorem d1_47 : decode prog_77_method_1_code 47 = .ok (.iload 5, 2) := by decide +kernel
theorem d1_49 : decode prog_77_method_1_code 49 = .ok (.aload_n 1, 1) := by decide +kernel
theorem d1_50 : decode prog_77_method_1_code 50 = .ok (.arraylength, 1) := by decide +kernel
theorem d1_51 : decode prog_77_method_1_code 51 = .ok (.if_icmp .ge 85, 3) := by decide +kernel
theorem d1_54 : decode prog_77_method_1_code 54 = .ok (.aload_n 2, 1) := by decide +kernel
theorem d1_55 : decode prog_77_method_1_code 55 = .ok (.iload 5, 2) := by decide +kernel
theorem d1_57 : decode prog_77_method_1_code 57 = .ok (.iaload, 1) := by decide +kernel
theorem d1_58 : decode prog_77_method_1_code 58 = .ok (.i2l, 1) := by decide +kernel
theorem d1_59 : decode prog_77_method_1_code 59 = .ok (.aload_n 1, 1) := by decide +kernel
theorem d1_60 : decode prog_77_method_1_code 60 = .ok (.iload 5, 2) := by decide +kernel
theorem d1_62 : decode prog_77_method_1_code 62 = .ok (.iaload, 1) := by decide +kernel
theorem d1_63 : decode prog_77_method_1_code 63 = .ok (.i2l, 1) := by decide +kernel
theorem d1_64 : decode prog_77_method_1_code 64 = .ok (.lsub, 1) := by decide +kernel
theorem d1_65 : decode prog_77_method_1_code 65 = .ok (.lstore 6, 2) := by decide +kernel
theorem d1_67 : decode prog_77_method_1_code 67 = .ok (.bipush 64, 2) := by decide +kernel
theorem d1_69 : decode prog_77_method_1_code 69 = .ok (.lload 6, 2) := by decide +kernel
theorem d1_71 : decode prog_77_method_1_code 71 = .ok (.invokestatic 30, 3) := by decide +kernel
theorem d1_74 : decode prog_77_method_1_code 74 = .ok (.isub, 1) := by decide +kernel
theorem d1_75 : decode prog_77_method_1_code 75 = .ok (.istore 8, 2) := by decide +kernel
theorem d1_77 : decode prog_77_method_1_code 77 = .ok (.iload 4, 2) := by decide +kernel
theorem d1_79 : decode prog_77_method_1_code 79 = .ok (.iload 8, 2) := by decide +kernel
theorem d1_81 : decode prog_77_method_1_code 81 = .ok (.iadd, 1) := by decide +kernel
theorem d1_82 : decode prog_77_method_1_code 82 = .ok (.bipush 64, 2) := by decide +kernel
theorem d1_84 : decode prog_77_method_1_code 84 = .ok (.if_icmp .le 9, 3) := by decide +kernel
theorem d1_93 : decode prog_77_method_1_code 93 = .ok (.aload_n 0, 1) := by decide +kernel
theorem d1_94 : decode prog_77_method_1_code 94 = .ok (.getfield 18, 3) := by decide +kernel
theorem d1_97 : decode prog_77_method_1_code 97 = .ok (.iload 5, 2) := by decide +kernel
theorem d1_99 : decode prog_77_method_1_code 99 = .ok (.iload_n 3, 1) := by decide +kernel
theorem d1_100 : decode prog_77_method_1_code 100 = .ok (.iastore, 1) := by decide +kernel
theorem d1_101 : decode prog_77_method_1_code 101 = .ok (.aload_n 0, 1) := by decide +kernel
theorem d1_102 : decode prog_77_method_1_code 102 = .ok (.getfield 21, 3) := by decide +kernel
theorem d1_105 : decode prog_77_method_1_code 105 = .ok (.iload 5, 2) := by decide +kernel
theorem d1_107 : decode prog_77_method_1_code 107 = .ok (.iload 4, 2) := by decide +kernel
theorem d1_109 : decode prog_77_method_1_code 109 = .ok (.iastore, 1) := by decide +kernel
theorem d1_110 : decode prog_77_method_1_code 110 = .ok (.aload_n 0, 1) := by decide +kernel
theorem d1_111 : decode prog_77_method_1_code 111 = .ok (.getfield 24, 3) := by decide +kernel
theorem d1_114 : decode prog_77_method_1_code 114 = .ok (.iload 5, 2) := by decide +kernel
theorem d1_116 : decode prog_77_method_1_code 116 = .ok (.lconst 1, 1) := by decide +kernel
theorem d1_117 : decode prog_77_method_1_code 117 = .ok (.iload 8, 2) := by decide +kernel
theorem d1_119 : decode prog_77_method_1_code 119 = .ok (.lshl, 1) := by decide +kernel
theorem d1_120 : decode prog_77_method_1_code 120 = .ok (.lconst 1, 1) := by decide +kernel
theorem d1_121 : decode prog_77_method_1_code 121 = .ok (.lsub, 1) := by decide +kernel
theorem d1_122 : decode prog_77_method_1_code 122 = .ok (.lastore, 1) := by decide +kernel
theorem d1_123 : decode prog_77_method_1_code 123 = .ok (.iload 4, 2) := by decide +kernel
theorem d1_125 : decode prog_77_method_1_code 125 = .ok (.iload 8, 2) := by decide +kernel
theorem d1_127 : decode prog_77_method_1_code 127 = .ok (.iadd, 1) := by decide +kernel
theorem d1_128 : decode prog_77_method_1_code 128 = .ok (.istore 4, 2) := by decide +kernel
theorem d1_130 : decode prog_77_method_1_code 130 = .ok (.iinc 5 1, 3) := by decide +kernel
theorem d1_133 : decode prog_77_method_1_code 133 = .ok (.goto (-86), 3) := by decide +kernel
theorem pd_1_5 : parseMethodDescriptor "(J)I" = some ⟨[.long], some .int⟩ := by decide +kernel
set_option maxRecDepth 65536 in
set_option maxHeartbeats 40000000 in
theorem tuA {p : Program} {l : Launch} {e : Env} {s : State} {m : MethodId} {args : Array Value} {below : List Frame} {meth : Method} {c : Code} {T0 : State} {locs : List Loc} {cells slots : Nat} {Z : State} {a0 : Array Value} {h0 : Heap} (o0 : Addr) (o1 : Addr) (o2 : Addr) (i3 : Int32) (i4 : Int32) (i5 : Int32) (n0 : Nat) (N : Nat) (i : Nat) (lo : Int32) (hi : Int32) (zz : Int32) (f_o1 : Nat → Value) (f_o2 : Nat → Value) (w5 : Addr) (f_w5 : Nat → Value) (w8 : Addr) (f_w8 : Nat → Value) (w11 : Addr) (f_w11 : Nat → Value)
    (X0 : Stand p l e own_R1 s m args below meth c T0 locs cells slots) (hx : p.tables.exec = Jvm.exec) (hZ : Z.Warmed39 s.vm) (hw : ∀ d ∈ tables_1, d.before a0 Z = true) (hby : c.code = prog_77_method_1_code) (hml : c.maxLocals = 9) (hown : s.vm.findClass "com/example/tight_bounds/tightbounds/model/StateLayout" = some m.cls) (e0 : T0.heap = h0) (Z0 : n0 ≤ h0.size) (N0 : Fr n0 locs) (hcl : cells ≤ own_R1.cells) (hsl : slots ≤ own_R1.slots) (ix : own_ix i5 i) (hiN : i < N) (hlo : f_o1 i = .int lo) (hhi : f_o2 i = .int hi) (hz : own_nz ((hi.toInt64) - (lo.toInt64)) zz) (ne_o0_w5 : o0 ≠ w5) (ne_o0_w8 : o0 ≠ w8) (ne_o0_w11 : o0 ≠ w11) (ne_o1_w5 : o1 ≠ w5) (ne_o1_w8 : o1 ≠ w8) (ne_o1_w11 : o1 ≠ w11) (ne_o2_w5 : o2 ≠ w5) (ne_o2_w8 : o2 ≠ w8) (ne_o2_w11 : o2 ≠ w11) (ne_w5_w8 : w5 ≠ w8) (ne_w5_w11 : w5 ≠ w11) (ne_w8_w11 : w8 ≠ w11) (hc84 : ¬ ((64 : Int32) < (i4 + ((64 : Int32) - zz)))) (V_o1 : Ary Z h0 o1 .int N f_o1) (V_o2 : Ary Z h0 o2 .int N f_o2) (F_wordCount_o0 : Fld Z h0 o0 "com/example/tight_bounds/tightbounds/model/StateLayout" "wordCount" "I" (.int (0 : Int32))) (E_o0 : Exa Z h0 o0 "com/example/tight_bounds/tightbounds/model/StateLayout") (F_words_o0 : Fld Z h0 o0 "com/example/tight_bounds/tightbounds/model/StateLayout" "words" "[I" (.ref w5)) (V_w5 : Ary Z h0 w5 .int N f_w5) (g_w5 : n0 ≤ w5) (F_shifts_o0 : Fld Z h0 o0 "com/example/tight_bounds/tightbounds/model/StateLayout" "shifts" "[I" (.ref w8)) (V_w8 : Ary Z h0 w8 .int N f_w8) (g_w8 : n0 ≤ w8) (F_masks_o0 : Fld Z h0 o0 "com/example/tight_bounds/tightbounds/model/StateLayout" "masks" "[J" (.ref w11)) (V_w11 : Ary Z h0 w11 .long N f_w11) (g_w11 : n0 ≤ w11) (hc51 : i5 < (Int32.ofNat N)) :
    ∃ (T' : State) (h' : Heap) (locs' : List Loc), Stand p l e own_R1 s m args below meth c T' locs' cells slots ∧ T'.heap = h' ∧ Fr n0 locs' ∧ Keep h0 h' [w5, w8, w11] ∧ n0 ≤ h'.size ∧ Exa Z h' o0 "com/example/tight_bounds/tightbounds/model/StateLayout" ∧ Fld Z h' o0 "com/example/tight_bounds/tightbounds/model/StateLayout" "words" "[I" (.ref w5) ∧ Fld Z h' o0 "com/example/tight_bounds/tightbounds/model/StateLayout" "shifts" "[I" (.ref w8) ∧ Fld Z h' o0 "com/example/tight_bounds/tightbounds/model/StateLayout" "masks" "[J" (.ref w11) ∧ Fld Z h' o0 "com/example/tight_bounds/tightbounds/model/StateLayout" "wordCount" "I" (.int (0 : Int32)) ∧ Ary Z h' o1 .int N f_o1 ∧ Ary Z h' o2 .int N f_o2 ∧ (∃ f, Ary Z h' w5 .int N f) ∧ (∃ f, Ary Z h' w8 .int N f) ∧ (∃ f, Ary Z h' w11 .long N f) ∧
      ∀ target, Steps p.tables e below (T'.setTop (mkF m 47 #[.val (.ref o0), .val (.ref o1), .val (.ref o2), .val (.int i3), .val (.int (i4 + ((64 : Int32) - zz))), .val (.int (i5 + (1 : Int32))), .val (.long ((hi.toInt64) - (lo.toInt64))), .second, .val (.int ((64 : Int32) - zz))] [])) target → Steps p.tables e below (T0.setTop (mkF m 47 #[.val (.ref o0), .val (.ref o1), .val (.ref o2), .val (.int i3), .val (.int i4), .val (.int i5), .unset, .unset, .unset] [])) target := by
  obtain ⟨cl_50, Ar_50, S_50, H_50⟩ := id V_o1
  obtain ⟨cl_57, Ar_57, S_57, H_57⟩ := id V_o2
  have hin57 := Ary.inn S_57 ix hiN
  have hat57 := Ary.get H_57 ix hiN (v := (.int hi)) hhi
  obtain ⟨cl_62, Ar_62, S_62, H_62⟩ := id V_o1
  have hin62 := Ary.inn S_62 ix hiN
  have hat62 := Ary.get H_62 ix hiN (v := (.int lo)) hlo
  have Zc4 : n0 ≤ h0.size := Z0
  obtain ⟨_, _, ⟨T4, L4, k4, n4⟩, -, X4, ⟨Lc4, hQ4, l4, y4, z4⟩, st4⟩ := Jvm.LawKit.callS X0 hx (y := (⟨"java/lang/Long", "numberOfLeadingZeros", "(J)I"⟩ : MethodName)) hown (mvT hZ (hw _ (List.mem_of_getElem? (i := 42) rfl))) (mvT hZ (hw _ (List.mem_of_getElem? (i := 43) rfl))) (mvT hZ (hw _ (List.mem_of_getElem? (i := 44) rfl))) (mvT hZ (hw _ (List.mem_of_getElem? (i := 45) rfl))) (by decide) (backOf (W := 1) (rm5 l Z a0 hw [] ((hi.toInt64) - (lo.toInt64)) zz h0 n0 Zc4 hz) hZ (hw _ (List.mem_of_getElem? (i := 45) rfl)) (hw _ (List.mem_of_getElem? (i := 44) rfl)) (by decide) (by decide)) (g := (mkF m 71 #[.val (.ref o0), .val (.ref o1), .val (.ref o2), .val (.int i3), .val (.int i4), .val (.int i5), .val (.long ((hi.toInt64) - (lo.toInt64))), .second, .unset] [(.long ((hi.toInt64) - (lo.toInt64))), (.int (64 : Int32))])) rfl (by rw [hml]; rfl) (argsL := [(.long ((hi.toInt64) - (lo.toInt64)))]) (rest := [(.int (64 : Int32))]) (lenOf pd_1_5 rfl) rfl (by show 2 * 0 + _ ≤ _; exact Nat.le_of_eq rfl) (hb hby d1_71) (fun _ _ => ⟨rfl, e0, hcl, hsl⟩)
  dsimp only [Pt.U, Pt.locs, Pt.cells, Pt.slots] at X4 l4 y4 z4 st4 hQ4
  subst l4 y4 z4
  obtain ⟨rfl, N4q, eq4⟩ := hQ4
  have N4 := Fr.app N0 N4q
  have E4 : Ext h0 T4.heap := own_exteq eq4
  have K4 : Keep h0 T4.heap [w5, w8, w11] := (Keep.refl h0 [w5, w8, w11]).ext E4
  obtain ⟨T6, X6, e6, st6⟩ := getF X4 hx hZ hown (host := "") (Or.inl (hw _ (List.mem_of_getElem? (i := 25) rfl))) Via.refl rfl (F_words_o0.ext E4) (g := (mkF m 94 #[.val (.ref o0), .val (.ref o1), .val (.ref o2), .val (.int i3), .val (.int i4), .val (.int i5), .val (.long ((hi.toInt64) - (lo.toInt64))), .second, .val (.int ((64 : Int32) - zz))] [(.ref o0)])) rfl rfl (hb hby d1_94)
  obtain ⟨cl_100, Ar_100, S_100, H_100⟩ := id (V_w5.ext E4)
  have hin100 := Ary.inn S_100 ix hiN
  obtain ⟨T7, h7, X7, e7, W7, st7⟩ := stI X6 hx hZ e6 Ar_100 (j := i5) hin100 (g := (mkF m 100 #[.val (.ref o0), .val (.ref o1), .val (.ref o2), .val (.int i3), .val (.int i4), .val (.int i5), .val (.long ((hi.toInt64) - (lo.toInt64))), .second, .val (.int ((64 : Int32) - zz))] [(.int i3), (.int i5), (.ref w5)])) rfl rfl (hb hby d1_100)
  have V_w5_7 := Ary.set Ar_100 S_100 H_100 W7 ix
  have K7 : Keep h0 h7 [w5, w8, w11] := K4.wr W7 (Or.inl (List.mem_of_getElem? (i := 0) rfl))
  have N7 := Fr.snoc X7 N4 g_w5
  obtain ⟨T9, X9, e9, st9⟩ := getF X7 hx hZ hown (host := "") (Or.inl (hw _ (List.mem_of_getElem? (i := 27) rfl))) Via.refl e7 ((F_shifts_o0.ext E4).other W7 (Or.inl ne_o0_w5)) (g := (mkF m 102 #[.val (.ref o0), .val (.ref o1), .val (.ref o2), .val (.int i3), .val (.int i4), .val (.int i5), .val (.long ((hi.toInt64) - (lo.toInt64))), .second, .val (.int ((64 : Int32) - zz))] [(.ref o0)])) rfl rfl (hb hby d1_102)
  obtain ⟨cl_109, Ar_109, S_109, H_109⟩ := id ((V_w8.ext E4).other W7 ne_w5_w8.symm)
  have hin109 := Ary.inn S_109 ix hiN
  obtain ⟨T10, h10, X10, e10, W10, st10⟩ := stI X9 hx hZ e9 Ar_109 (j := i5) hin109 (g := (mkF m 109 #[.val (.ref o0), .val (.ref o1), .val (.ref o2), .val (.int i3), .val (.int i4), .val (.int i5), .val (.long ((hi.toInt64) - (lo.toInt64))), .second, .val (.int ((64 : Int32) - zz))] [(.int i4), (.int i5), (.ref w8)])) rfl rfl (hb hby d1_109)
  have V_w8_10 := Ary.set Ar_109 S_109 H_109 W10 ix
  have K10 : Keep h0 h10 [w5, w8, w11] := K7.wr W10 (Or.inl (List.mem_of_getElem? (i := 1) rfl))
  have N10 := Fr.snoc X10 N7 g_w8
  obtain ⟨T12, X12, e12, st12⟩ := getF X10 hx hZ hown (host := "") (Or.inl (hw _ (List.mem_of_getElem? (i := 29) rfl))) Via.refl e10 (((F_masks_o0.ext E4).other W7 (Or.inl ne_o0_w5)).other W10 (Or.inl ne_o0_w8)) (g := (mkF m 111 #[.val (.ref o0), .val (.ref o1), .val (.ref o2), .val (.int i3), .val (.int i4), .val (.int i5), .val (.long ((hi.toInt64) - (lo.toInt64))), .second, .val (.int ((64 : Int32) - zz))] [(.ref o0)])) rfl rfl (hb hby d1_111)
  obtain ⟨cl_122, Ar_122, S_122, H_122⟩ := id (((V_w11.ext E4).other W7 ne_w5_w11.symm).other W10 ne_w8_w11.symm)
  have hin122 := Ary.inn S_122 ix hiN
  obtain ⟨T13, h13, X13, e13, W13, st13⟩ := stJ X12 hx hZ e12 Ar_122 (j := i5) hin122 (g := (mkF m 122 #[.val (.ref o0), .val (.ref o1), .val (.ref o2), .val (.int i3), .val (.int i4), .val (.int i5), .val (.long ((hi.toInt64) - (lo.toInt64))), .second, .val (.int ((64 : Int32) - zz))] [(.long (((1 : Int64) <<< (((64 : Int32) - zz) &&& 0x3f).toInt64) - (1 : Int64))), (.int i5), (.ref w11)])) rfl rfl (hb hby d1_122)
  have V_w11_13 := Ary.set Ar_122 S_122 H_122 W13 ix
  have K13 : Keep h0 h13 [w5, w8, w11] := K10.wr W13 (Or.inl (List.mem_of_getElem? (i := 2) rfl))
  have N13 := Fr.snoc X13 N10 g_w11
  have Vend_o1 := ((((V_o1.ext E4).other W7 ne_o1_w5).other W10 ne_o1_w8).other W13 ne_o1_w11)
  have Vend_o2 := ((((V_o2.ext E4).other W7 ne_o2_w5).other W10 ne_o2_w8).other W13 ne_o2_w11)
  have Fend_wordCount_o0 := ((((F_wordCount_o0.ext E4).other W7 (Or.inl ne_o0_w5)).other W10 (Or.inl ne_o0_w8)).other W13 (Or.inl ne_o0_w11))
  have Eend_o0 := ((((E_o0.ext E4).wr W7).wr W10).wr W13)
  have Fend_words_o0 := ((((F_words_o0.ext E4).other W7 (Or.inl ne_o0_w5)).other W10 (Or.inl ne_o0_w8)).other W13 (Or.inl ne_o0_w11))
  have Vend_w5 := ((V_w5_7.other W10 ne_w5_w8).other W13 ne_w5_w11)
  have Fend_shifts_o0 := ((((F_shifts_o0.ext E4).other W7 (Or.inl ne_o0_w5)).other W10 (Or.inl ne_o0_w8)).other W13 (Or.inl ne_o0_w11))
  have Vend_w8 := (V_w8_10.other W13 ne_w8_w11)
  have Fend_masks_o0 := ((((F_masks_o0.ext E4).other W7 (Or.inl ne_o0_w5)).other W10 (Or.inl ne_o0_w8)).other W13 (Or.inl ne_o0_w11))
  have Vend_w11 := V_w11_13
  have Zend : n0 ≤ h13.size := (Nat.le_trans (Nat.le_trans (Nat.le_trans (Nat.le_trans Z0 E4.1) (Keep.of_wr W7).1) (Keep.of_wr W10).1) (Keep.of_wr W13).1)
  have Kend := K13
  refine ⟨T13, _, _, X13, e13, N13, Kend, Zend, Eend_o0, Fend_words_o0, Fend_shifts_o0, Fend_masks_o0, Fend_wordCount_o0, Vend_o1, Vend_o2, ⟨_, Vend_w5⟩, ⟨_, Vend_w8⟩, ⟨_, Vend_w11⟩, fun target kt => ?_⟩
  show Steps p.tables e below (T0.setTop (mkF m 47 #[.val (.ref o0), .val (.ref o1), .val (.ref o2), .val (.int i3), .val (.int i4), .val (.int i5), .unset, .unset, .unset] [])) _
  refine XS.iload X0.here hx rfl (hb hby d1_47) rfl ?_
  show Steps p.tables e below (T0.setTop (mkF m 49 #[.val (.ref o0), .val (.ref o1), .val (.ref o2), .val (.int i3), .val (.int i4), .val (.int i5), .unset, .unset, .unset] [(.int i5)])) _
  refine XS.aloadN X0.here hx rfl (hb hby d1_49) rfl rfl ?_
  show Steps p.tables e below (T0.setTop (mkF m 50 #[.val (.ref o0), .val (.ref o1), .val (.ref o2), .val (.int i3), .val (.int i4), .val (.int i5), .unset, .unset, .unset] [(.ref o1), (.int i5)])) _
  refine X0.arraylength hx (by rw [e0]; exact Ar_50.1) (State.isArrayOf_alike hZ.alike Ar_50.2.1) (g := (mkF m 50 #[.val (.ref o0), .val (.ref o1), .val (.ref o2), .val (.int i3), .val (.int i4), .val (.int i5), .unset, .unset, .unset] [(.ref o1), (.int i5)])) rfl rfl (hb hby d1_50) _ ?_
  rw [S_50]
  show Steps p.tables e below (T0.setTop (mkF m 51 #[.val (.ref o0), .val (.ref o1), .val (.ref o2), .val (.int i3), .val (.int i4), .val (.int i5), .unset, .unset, .unset] [(.int (Int32.ofNat N)), (.int i5)])) _
  refine XS.icmpNo X0.here hx rfl (hb hby d1_51) rfl (tlt hc51).2.1 ?_
  show Steps p.tables e below (T0.setTop (mkF m 54 #[.val (.ref o0), .val (.ref o1), .val (.ref o2), .val (.int i3), .val (.int i4), .val (.int i5), .unset, .unset, .unset] [])) _
  refine XS.aloadN X0.here hx rfl (hb hby d1_54) rfl rfl ?_
  show Steps p.tables e below (T0.setTop (mkF m 55 #[.val (.ref o0), .val (.ref o1), .val (.ref o2), .val (.int i3), .val (.int i4), .val (.int i5), .unset, .unset, .unset] [(.ref o2)])) _
  refine XS.iload X0.here hx rfl (hb hby d1_55) rfl ?_
  show Steps p.tables e below (T0.setTop (mkF m 57 #[.val (.ref o0), .val (.ref o1), .val (.ref o2), .val (.int i3), .val (.int i4), .val (.int i5), .unset, .unset, .unset] [(.int i5), (.ref o2)])) _
  refine X0.iaload hx (j := i5) (v := (.int hi)) (by rw [e0]; exact Ar_57.1) (State.isArrayOf_alike hZ.alike Ar_57.2.1) Ar_57.2.2 hin57 hat57 (g := (mkF m 57 #[.val (.ref o0), .val (.ref o1), .val (.ref o2), .val (.int i3), .val (.int i4), .val (.int i5), .unset, .unset, .unset] [(.int i5), (.ref o2)])) rfl rfl (hb hby d1_57) _ ?_
  show Steps p.tables e below (T0.setTop (mkF m 58 #[.val (.ref o0), .val (.ref o1), .val (.ref o2), .val (.int i3), .val (.int i4), .val (.int i5), .unset, .unset, .unset] [(.int hi)])) _
  refine XS.i2l X0.here hx rfl (hb hby d1_58) rfl ?_
  show Steps p.tables e below (T0.setTop (mkF m 59 #[.val (.ref o0), .val (.ref o1), .val (.ref o2), .val (.int i3), .val (.int i4), .val (.int i5), .unset, .unset, .unset] [(.long (hi.toInt64))])) _
  refine XS.aloadN X0.here hx rfl (hb hby d1_59) rfl rfl ?_
  show Steps p.tables e below (T0.setTop (mkF m 60 #[.val (.ref o0), .val (.ref o1), .val (.ref o2), .val (.int i3), .val (.int i4), .val (.int i5), .unset, .unset, .unset] [(.ref o1), (.long (hi.toInt64))])) _
  refine XS.iload X0.here hx rfl (hb hby d1_60) rfl ?_
  show Steps p.tables e below (T0.setTop (mkF m 62 #[.val (.ref o0), .val (.ref o1), .val (.ref o2), .val (.int i3), .val (.int i4), .val (.int i5), .unset, .unset, .unset] [(.int i5), (.ref o1), (.long (hi.toInt64))])) _
  refine X0.iaload hx (j := i5) (v := (.int lo)) (by rw [e0]; exact Ar_62.1) (State.isArrayOf_alike hZ.alike Ar_62.2.1) Ar_62.2.2 hin62 hat62 (g := (mkF m 62 #[.val (.ref o0), .val (.ref o1), .val (.ref o2), .val (.int i3), .val (.int i4), .val (.int i5), .unset, .unset, .unset] [(.int i5), (.ref o1), (.long (hi.toInt64))])) rfl rfl (hb hby d1_62) _ ?_
  show Steps p.tables e below (T0.setTop (mkF m 63 #[.val (.ref o0), .val (.ref o1), .val (.ref o2), .val (.int i3), .val (.int i4), .val (.int i5), .unset, .unset, .unset] [(.int lo), (.long (hi.toInt64))])) _
  refine XS.i2l X0.here hx rfl (hb hby d1_63) rfl ?_
  show Steps p.tables e below (T0.setTop (mkF m 64 #[.val (.ref o0), .val (.ref o1), .val (.ref o2), .val (.int i3), .val (.int i4), .val (.int i5), .unset, .unset, .unset] [(.long (lo.toInt64)), (.long (hi.toInt64))])) _
  refine XS.lsub X0.here hx rfl (hb hby d1_64) rfl ?_
  show Steps p.tables e below (T0.setTop (mkF m 65 #[.val (.ref o0), .val (.ref o1), .val (.ref o2), .val (.int i3), .val (.int i4), .val (.int i5), .unset, .unset, .unset] [(.long ((hi.toInt64) - (lo.toInt64)))])) _
  refine XS.lstore X0.here hx rfl (hb hby d1_65) rfl (l' := #[.val (.ref o0), .val (.ref o1), .val (.ref o2), .val (.int i3), .val (.int i4), .val (.int i5), .val (.long ((hi.toInt64) - (lo.toInt64))), .second, .unset]) rfl ?_
  show Steps p.tables e below (T0.setTop (mkF m 67 #[.val (.ref o0), .val (.ref o1), .val (.ref o2), .val (.int i3), .val (.int i4), .val (.int i5), .val (.long ((hi.toInt64) - (lo.toInt64))), .second, .unset] [])) _
  refine XS.bipush X0.here hx rfl (hb hby d1_67) ?_
  show Steps p.tables e below (T0.setTop (mkF m 69 #[.val (.ref o0), .val (.ref o1), .val (.ref o2), .val (.int i3), .val (.int i4), .val (.int i5), .val (.long ((hi.toInt64) - (lo.toInt64))), .second, .unset] [(.int (64 : Int32))])) _
  refine XS.lload X0.here hx rfl (hb hby d1_69) rfl ?_
  show Steps p.tables e below (T0.setTop (mkF m 71 #[.val (.ref o0), .val (.ref o1), .val (.ref o2), .val (.int i3), .val (.int i4), .val (.int i5), .val (.long ((hi.toInt64) - (lo.toInt64))), .second, .unset] [(.long ((hi.toInt64) - (lo.toInt64))), (.int (64 : Int32))])) _
  refine st4 _ ?_
  show Steps p.tables e below (T4.setTop (mkF m 74 #[.val (.ref o0), .val (.ref o1), .val (.ref o2), .val (.int i3), .val (.int i4), .val (.int i5), .val (.long ((hi.toInt64) - (lo.toInt64))), .second, .unset] [(.int zz), (.int (64 : Int32))])) _
  refine XS.isub X4.here hx rfl (hb hby d1_74) rfl ?_
  show Steps p.tables e below (T4.setTop (mkF m 75 #[.val (.ref o0), .val (.ref o1), .val (.ref o2), .val (.int i3), .val (.int i4), .val (.int i5), .val (.long ((hi.toInt64) - (lo.toInt64))), .second, .unset] [(.int ((64 : Int32) - zz))])) _
  refine XS.istore X4.here hx rfl (hb hby d1_75) rfl (l' := #[.val (.ref o0), .val (.ref o1), .val (.ref o2), .val (.int i3), .val (.int i4), .val (.int i5), .val (.long ((hi.toInt64) - (lo.toInt64))), .second, .val (.int ((64 : Int32) - zz))]) rfl ?_
  show Steps p.tables e below (T4.setTop (mkF m 77 #[.val (.ref o0), .val (.ref o1), .val (.ref o2), .val (.int i3), .val (.int i4), .val (.int i5), .val (.long ((hi.toInt64) - (lo.toInt64))), .second, .val (.int ((64 : Int32) - zz))] [])) _
  refine XS.iload X4.here hx rfl (hb hby d1_77) rfl ?_
  show Steps p.tables e below (T4.setTop (mkF m 79 #[.val (.ref o0), .val (.ref o1), .val (.ref o2), .val (.int i3), .val (.int i4), .val (.int i5), .val (.long ((hi.toInt64) - (lo.toInt64))), .second, .val (.int ((64 : Int32) - zz))] [(.int i4)])) _
  refine XS.iload X4.here hx rfl (hb hby d1_79) rfl ?_
  show Steps p.tables e below (T4.setTop (mkF m 81 #[.val (.ref o0), .val (.ref o1), .val (.ref o2), .val (.int i3), .val (.int i4), .val (.int i5), .val (.long ((hi.toInt64) - (lo.toInt64))), .second, .val (.int ((64 : Int32) - zz))] [(.int ((64 : Int32) - zz)), (.int i4)])) _
  refine XS.iadd X4.here hx rfl (hb hby d1_81) rfl ?_
  show Steps p.tables e below (T4.setTop (mkF m 82 #[.val (.ref o0), .val (.ref o1), .val (.ref o2), .val (.int i3), .val (.int i4), .val (.int i5), .val (.long ((hi.toInt64) - (lo.toInt64))), .second, .val (.int ((64 : Int32) - zz))] [(.int (i4 + ((64 : Int32) - zz)))])) _
  refine XS.bipush X4.here hx rfl (hb hby d1_82) ?_
  show Steps p.tables e below (T4.setTop (mkF m 84 #[.val (.ref o0), .val (.ref o1), .val (.ref o2), .val (.int i3), .val (.int i4), .val (.int i5), .val (.long ((hi.toInt64) - (lo.toInt64))), .second, .val (.int ((64 : Int32) - zz))] [(.int (64 : Int32)), (.int (i4 + ((64 : Int32) - zz)))])) _
  refine XS.icmpYes X4.here hx rfl (pc0 := 84) (pc' := 93) rfl (hb hby d1_84) rfl (flt (hc84 : ¬ ((64 : Int32) < (i4 + ((64 : Int32) - zz))))).2.2.2 (by decide) (by decide) ?_
  show Steps p.tables e below (T4.setTop (mkF m 93 #[.val (.ref o0), .val (.ref o1), .val (.ref o2), .val (.int i3), .val (.int i4), .val (.int i5), .val (.long ((hi.toInt64) - (lo.toInt64))), .second, .val (.int ((64 : Int32) - zz))] [])) _
  refine XS.aloadN X4.here hx rfl (hb hby d1_93) rfl rfl ?_
  show Steps p.tables e below (T4.setTop (mkF m 94 #[.val (.ref o0), .val (.ref o1), .val (.ref o2), .val (.int i3), .val (.int i4), .val (.int i5), .val (.long ((hi.toInt64) - (lo.toInt64))), .second, .val (.int ((64 : Int32) - zz))] [(.ref o0)])) _
  refine st6 _ ?_
  show Steps p.tables e below (T6.setTop (mkF m 97 #[.val (.ref o0), .val (.ref o1), .val (.ref o2), .val (.int i3), .val (.int i4), .val (.int i5), .val (.long ((hi.toInt64) - (lo.toInt64))), .second, .val (.int ((64 : Int32) - zz))] [(.ref w5)])) _
  refine XS.iload X6.here hx rfl (hb hby d1_97) rfl ?_
  show Steps p.tables e below (T6.setTop (mkF m 99 #[.val (.ref o0), .val (.ref o1), .val (.ref o2), .val (.int i3), .val (.int i4), .val (.int i5), .val (.long ((hi.toInt64) - (lo.toInt64))), .second, .val (.int ((64 : Int32) - zz))] [(.int i5), (.ref w5)])) _
  refine XS.iloadN X6.here hx rfl (hb hby d1_99) rfl ?_
  show Steps p.tables e below (T6.setTop (mkF m 100 #[.val (.ref o0), .val (.ref o1), .val (.ref o2), .val (.int i3), .val (.int i4), .val (.int i5), .val (.long ((hi.toInt64) - (lo.toInt64))), .second, .val (.int ((64 : Int32) - zz))] [(.int i3), (.int i5), (.ref w5)])) _
  refine st7 _ ?_
  show Steps p.tables e below (T7.setTop (mkF m 101 #[.val (.ref o0), .val (.ref o1), .val (.ref o2), .val (.int i3), .val (.int i4), .val (.int i5), .val (.long ((hi.toInt64) - (lo.toInt64))), .second, .val (.int ((64 : Int32) - zz))] [])) _
  refine XS.aloadN X7.here hx rfl (hb hby d1_101) rfl rfl ?_
  show Steps p.tables e below (T7.setTop (mkF m 102 #[.val (.ref o0), .val (.ref o1), .val (.ref o2), .val (.int i3), .val (.int i4), .val (.int i5), .val (.long ((hi.toInt64) - (lo.toInt64))), .second, .val (.int ((64 : Int32) - zz))] [(.ref o0)])) _
  refine st9 _ ?_
  show Steps p.tables e below (T9.setTop (mkF m 105 #[.val (.ref o0), .val (.ref o1), .val (.ref o2), .val (.int i3), .val (.int i4), .val (.int i5), .val (.long ((hi.toInt64) - (lo.toInt64))), .second, .val (.int ((64 : Int32) - zz))] [(.ref w8)])) _
  refine XS.iload X9.here hx rfl (hb hby d1_105) rfl ?_
  show Steps p.tables e below (T9.setTop (mkF m 107 #[.val (.ref o0), .val (.ref o1), .val (.ref o2), .val (.int i3), .val (.int i4), .val (.int i5), .val (.long ((hi.toInt64) - (lo.toInt64))), .second, .val (.int ((64 : Int32) - zz))] [(.int i5), (.ref w8)])) _
  refine XS.iload X9.here hx rfl (hb hby d1_107) rfl ?_
  show Steps p.tables e below (T9.setTop (mkF m 109 #[.val (.ref o0), .val (.ref o1), .val (.ref o2), .val (.int i3), .val (.int i4), .val (.int i5), .val (.long ((hi.toInt64) - (lo.toInt64))), .second, .val (.int ((64 : Int32) - zz))] [(.int i4), (.int i5), (.ref w8)])) _
  refine st10 _ ?_
  show Steps p.tables e below (T10.setTop (mkF m 110 #[.val (.ref o0), .val (.ref o1), .val (.ref o2), .val (.int i3), .val (.int i4), .val (.int i5), .val (.long ((hi.toInt64) - (lo.toInt64))), .second, .val (.int ((64 : Int32) - zz))] [])) _
  refine XS.aloadN X10.here hx rfl (hb hby d1_110) rfl rfl ?_
  show Steps p.tables e below (T10.setTop (mkF m 111 #[.val (.ref o0), .val (.ref o1), .val (.ref o2), .val (.int i3), .val (.int i4), .val (.int i5), .val (.long ((hi.toInt64) - (lo.toInt64))), .second, .val (.int ((64 : Int32) - zz))] [(.ref o0)])) _
  refine st12 _ ?_
  show Steps p.tables e below (T12.setTop (mkF m 114 #[.val (.ref o0), .val (.ref o1), .val (.ref o2), .val (.int i3), .val (.int i4), .val (.int i5), .val (.long ((hi.toInt64) - (lo.toInt64))), .second, .val (.int ((64 : Int32) - zz))] [(.ref w11)])) _
  refine XS.iload X12.here hx rfl (hb hby d1_114) rfl ?_
  show Steps p.tables e below (T12.setTop (mkF m 116 #[.val (.ref o0), .val (.ref o1), .val (.ref o2), .val (.int i3), .val (.int i4), .val (.int i5), .val (.long ((hi.toInt64) - (lo.toInt64))), .second, .val (.int ((64 : Int32) - zz))] [(.int i5), (.ref w11)])) _
  refine XS.lconst X12.here hx rfl (hb hby d1_116) ?_
  show Steps p.tables e below (T12.setTop (mkF m 117 #[.val (.ref o0), .val (.ref o1), .val (.ref o2), .val (.int i3), .val (.int i4), .val (.int i5), .val (.long ((hi.toInt64) - (lo.toInt64))), .second, .val (.int ((64 : Int32) - zz))] [(.long (1 : Int64)), (.int i5), (.ref w11)])) _
  refine XS.iload X12.here hx rfl (hb hby d1_117) rfl ?_
  show Steps p.tables e below (T12.setTop (mkF m 119 #[.val (.ref o0), .val (.ref o1), .val (.ref o2), .val (.int i3), .val (.int i4), .val (.int i5), .val (.long ((hi.toInt64) - (lo.toInt64))), .second, .val (.int ((64 : Int32) - zz))] [(.int ((64 : Int32) - zz)), (.long (1 : Int64)), (.int i5), (.ref w11)])) _
  refine XS.lshl X12.here hx rfl (hb hby d1_119) rfl ?_
  show Steps p.tables e below (T12.setTop (mkF m 120 #[.val (.ref o0), .val (.ref o1), .val (.ref o2), .val (.int i3), .val (.int i4), .val (.int i5), .val (.long ((hi.toInt64) - (lo.toInt64))), .second, .val (.int ((64 : Int32) - zz))] [(.long ((1 : Int64) <<< (((64 : Int32) - zz) &&& 0x3f).toInt64)), (.int i5), (.ref w11)])) _
  refine XS.lconst X12.here hx rfl (hb hby d1_120) ?_
  show Steps p.tables e below (T12.setTop (mkF m 121 #[.val (.ref o0), .val (.ref o1), .val (.ref o2), .val (.int i3), .val (.int i4), .val (.int i5), .val (.long ((hi.toInt64) - (lo.toInt64))), .second, .val (.int ((64 : Int32) - zz))] [(.long (1 : Int64)), (.long ((1 : Int64) <<< (((64 : Int32) - zz) &&& 0x3f).toInt64)), (.int i5), (.ref w11)])) _
  refine XS.lsub X12.here hx rfl (hb hby d1_121) rfl ?_
  show Steps p.tables e below (T12.setTop (mkF m 122 #[.val (.ref o0), .val (.ref o1), .val (.ref o2), .val (.int i3), .val (.int i4), .val (.int i5), .val (.long ((hi.toInt64) - (lo.toInt64))), .second, .val (.int ((64 : Int32) - zz))] [(.long (((1 : Int64) <<< (((64 : Int32) - zz) &&& 0x3f).toInt64) - (1 : Int64))), (.int i5), (.ref w11)])) _
  refine st13 _ ?_
  show Steps p.tables e below (T13.setTop (mkF m 123 #[.val (.ref o0), .val (.ref o1), .val (.ref o2), .val (.int i3), .val (.int i4), .val (.int i5), .val (.long ((hi.toInt64) - (lo.toInt64))), .second, .val (.int ((64 : Int32) - zz))] [])) _
  refine XS.iload X13.here hx rfl (hb hby d1_123) rfl ?_
  show Steps p.tables e below (T13.setTop (mkF m 125 #[.val (.ref o0), .val (.ref o1), .val (.ref o2), .val (.int i3), .val (.int i4), .val (.int i5), .val (.long ((hi.toInt64) - (lo.toInt64))), .second, .val (.int ((64 : Int32) - zz))] [(.int i4)])) _
  refine XS.iload X13.here hx rfl (hb hby d1_125) rfl ?_
  show Steps p.tables e below (T13.setTop (mkF m 127 #[.val (.ref o0), .val (.ref o1), .val (.ref o2), .val (.int i3), .val (.int i4), .val (.int i5), .val (.long ((hi.toInt64) - (lo.toInt64))), .second, .val (.int ((64 : Int32) - zz))] [(.int ((64 : Int32) - zz)), (.int i4)])) _
  refine XS.iadd X13.here hx rfl (hb hby d1_127) rfl ?_
  show Steps p.tables e below (T13.setTop (mkF m 128 #[.val (.ref o0), .val (.ref o1), .val (.ref o2), .val (.int i3), .val (.int i4), .val (.int i5), .val (.long ((hi.toInt64) - (lo.toInt64))), .second, .val (.int ((64 : Int32) - zz))] [(.int (i4 + ((64 : Int32) - zz)))])) _
  refine XS.istore X13.here hx rfl (hb hby d1_128) rfl (l' := #[.val (.ref o0), .val (.ref o1), .val (.ref o2), .val (.int i3), .val (.int (i4 + ((64 : Int32) - zz))), .val (.int i5), .val (.long ((hi.toInt64) - (lo.toInt64))), .second, .val (.int ((64 : Int32) - zz))]) rfl ?_
  show Steps p.tables e below (T13.setTop (mkF m 130 #[.val (.ref o0), .val (.ref o1), .val (.ref o2), .val (.int i3), .val (.int (i4 + ((64 : Int32) - zz))), .val (.int i5), .val (.long ((hi.toInt64) - (lo.toInt64))), .second, .val (.int ((64 : Int32) - zz))] [])) _
  refine XS.iinc X13.here hx rfl (hb hby d1_130) rfl (l' := #[.val (.ref o0), .val (.ref o1), .val (.ref o2), .val (.int i3), .val (.int (i4 + ((64 : Int32) - zz))), .val (.int (i5 + (1 : Int32))), .val (.long ((hi.toInt64) - (lo.toInt64))), .second, .val (.int ((64 : Int32) - zz))]) rfl ?_
  show Steps p.tables e below (T13.setTop (mkF m 133 #[.val (.ref o0), .val (.ref o1), .val (.ref o2), .val (.int i3), .val (.int (i4 + ((64 : Int32) - zz))), .val (.int (i5 + (1 : Int32))), .val (.long ((hi.toInt64) - (lo.toInt64))), .second, .val (.int ((64 : Int32) - zz))] [])) _
  refine XS.goto X13.here hx rfl (pc0 := 133) (pc' := 47) rfl (hb hby d1_133) (by decide) (by decide) ?_
  exact kt
set_option maxRecDepth 65536 in
set_option maxHeartbeats 40000000 in
theorem tuN {p : Program} {l : Launch} {e : Env} {s : State} {m : MethodId} {args : Array Value} {below : List Frame} {meth : Method} {c : Code} {T0 : State} {locs : List Loc} {cells slots : Nat} {Z : State} {a0 : Array Value} {h0 : Heap} (o0 : Addr) (o1 : Addr) (o2 : Addr) (i3 : Int32) (i4 : Int32) (i5 : Int32) (j6 : Int64) (i8 : Int32) (n0 : Nat) (N : Nat) (i : Nat) (lo : Int32) (hi : Int32) (zz : Int32) (f_o1 : Nat → Value) (f_o2 : Nat → Value) (w5 : Addr) (f_w5 : Nat → Value) (w8 : Addr) (f_w8 : Nat → Value) (w11 : Addr) (f_w11 : Nat → Value)
    (X0 : Stand p l e own_R1 s m args below meth c T0 locs cells slots) (hx : p.tables.exec = Jvm.exec) (hZ : Z.Warmed39 s.vm) (hw : ∀ d ∈ tables_1, d.before a0 Z = true) (hby : c.code = prog_77_method_1_code) (hml : c.maxLocals = 9) (hown : s.vm.findClass "com/example/tight_bounds/tightbounds/model/StateLayout" = some m.cls) (e0 : T0.heap = h0) (Z0 : n0 ≤ h0.size) (N0 : Fr n0 locs) (hcl : cells ≤ own_R1.cells) (hsl : slots ≤ own_R1.slots) (ix : own_ix i5 i) (hiN : i < N) (hlo : f_o1 i = .int lo) (hhi : f_o2 i = .int hi) (hz : own_nz ((hi.toInt64) - (lo.toInt64)) zz) (ne_o0_w5 : o0 ≠ w5) (ne_o0_w8 : o0 ≠ w8) (ne_o0_w11 : o0 ≠ w11) (ne_o1_w5 : o1 ≠ w5) (ne_o1_w8 : o1 ≠ w8) (ne_o1_w11 : o1 ≠ w11) (ne_o2_w5 : o2 ≠ w5) (ne_o2_w8 : o2 ≠ w8) (ne_o2_w11 : o2 ≠ w11) (ne_w5_w8 : w5 ≠ w8) (ne_w5_w11 : w5 ≠ w11) (ne_w8_w11 : w8 ≠ w11) (hc84 : ¬ ((64 : Int32) < (i4 + ((64 : Int32) - zz)))) (V_o1 : Ary Z h0 o1 .int N f_o1) (V_o2 : Ary Z h0 o2 .int N f_o2) (F_wordCount_o0 : Fld Z h0 o0 "com/example/tight_bounds/tightbounds/model/StateLayout" "wordCount" "I" (.int (0 : Int32))) (E_o0 : Exa Z h0 o0 "com/example/tight_bounds/tightbounds/model/StateLayout") (F_words_o0 : Fld Z h0 o0 "com/example/tight_bounds/tightbounds/model/StateLayout" "words" "[I" (.ref w5)) (V_w5 : Ary Z h0 w5 .int N f_w5) (g_w5 : n0 ≤ w5) (F_shifts_o0 : Fld Z h0 o0 "com/example/tight_bounds/tightbounds/model/StateLayout" "shifts" "[I" (.ref w8)) (V_w8 : Ary Z h0 w8 .int N f_w8) (g_w8 : n0 ≤ w8) (F_masks_o0 : Fld Z h0 o0 "com/example/tight_bounds/tightbounds/model/StateLayout" "masks" "[J" (.ref w11)) (V_w11 : Ary Z h0 w11 .long N f_w11) (g_w11 : n0 ≤ w11) (hc51 : i5 < (Int32.ofNat N)) :
    ∃ (T' : State) (h' : Heap) (locs' : List Loc), Stand p l e own_R1 s m args below meth c T' locs' cells slots ∧ T'.heap = h' ∧ Fr n0 locs' ∧ Keep h0 h' [w5, w8, w11] ∧ n0 ≤ h'.size ∧ Exa Z h' o0 "com/example/tight_bounds/tightbounds/model/StateLayout" ∧ Fld Z h' o0 "com/example/tight_bounds/tightbounds/model/StateLayout" "words" "[I" (.ref w5) ∧ Fld Z h' o0 "com/example/tight_bounds/tightbounds/model/StateLayout" "shifts" "[I" (.ref w8) ∧ Fld Z h' o0 "com/example/tight_bounds/tightbounds/model/StateLayout" "masks" "[J" (.ref w11) ∧ Fld Z h' o0 "com/example/tight_bounds/tightbounds/model/StateLayout" "wordCount" "I" (.int (0 : Int32)) ∧ Ary Z h' o1 .int N f_o1 ∧ Ary Z h' o2 .int N f_o2 ∧ (∃ f, Ary Z h' w5 .int N f) ∧ (∃ f, Ary Z h' w8 .int N f) ∧ (∃ f, Ary Z h' w11 .long N f) ∧
      ∀ target, Steps p.tables e below (T'.setTop (mkF m 47 #[.val (.ref o0), .val (.ref o1), .val (.ref o2), .val (.int i3), .val (.int (i4 + ((64 : Int32) - zz))), .val (.int (i5 + (1 : Int32))), .val (.long ((hi.toInt64) - (lo.toInt64))), .second, .val (.int ((64 : Int32) - zz))] [])) target → Steps p.tables e below (T0.setTop (mkF m 47 #[.val (.ref o0), .val (.ref o1), .val (.ref o2), .val (.int i3), .val (.int i4), .val (.int i5), .val (.long j6), .second, .val (.int i8)] [])) target := by
  obtain ⟨cl_50, Ar_50, S_50, H_50⟩ := id V_o1
  obtain ⟨cl_57, Ar_57, S_57, H_57⟩ := id V_o2
  have hin57 := Ary.inn S_57 ix hiN
  have hat57 := Ary.get H_57 ix hiN (v := (.int hi)) hhi
  obtain ⟨cl_62, Ar_62, S_62, H_62⟩ := id V_o1
  have hin62 := Ary.inn S_62 ix hiN
  have hat62 := Ary.get H_62 ix hiN (v := (.int lo)) hlo
  have Zc4 : n0 ≤ h0.size := Z0
  obtain ⟨_, _, ⟨T4, L4, k4, n4⟩, -, X4, ⟨Lc4, hQ4, l4, y4, z4⟩, st4⟩ := Jvm.LawKit.callS X0 hx (y := (⟨"java/lang/Long", "numberOfLeadingZeros", "(J)I"⟩ : MethodName)) hown (mvT hZ (hw _ (List.mem_of_getElem? (i := 42) rfl))) (mvT hZ (hw _ (List.mem_of_getElem? (i := 43) rfl))) (mvT hZ (hw _ (List.mem_of_getElem? (i := 44) rfl))) (mvT hZ (hw _ (List.mem_of_getElem? (i := 45) rfl))) (by decide) (backOf (W := 1) (rm5 l Z a0 hw [] ((hi.toInt64) - (lo.toInt64)) zz h0 n0 Zc4 hz) hZ (hw _ (List.mem_of_getElem? (i := 45) rfl)) (hw _ (List.mem_of_getElem? (i := 44) rfl)) (by decide) (by decide)) (g := (mkF m 71 #[.val (.ref o0), .val (.ref o1), .val (.ref o2), .val (.int i3), .val (.int i4), .val (.int i5), .val (.long ((hi.toInt64) - (lo.toInt64))), .second, .val (.int i8)] [(.long ((hi.toInt64) - (lo.toInt64))), (.int (64 : Int32))])) rfl (by rw [hml]; rfl) (argsL := [(.long ((hi.toInt64) - (lo.toInt64)))]) (rest := [(.int (64 : Int32))]) (lenOf pd_1_5 rfl) rfl (by show 2 * 0 + _ ≤ _; exact Nat.le_of_eq rfl) (hb hby d1_71) (fun _ _ => ⟨rfl, e0, hcl, hsl⟩)
  dsimp only [Pt.U, Pt.locs, Pt.cells, Pt.slots] at X4 l4 y4 z4 st4 hQ4
  subst l4 y4 z4
  obtain ⟨rfl, N4q, eq4⟩ := hQ4
  have N4 := Fr.app N0 N4q
  have E4 : Ext h0 T4.heap := own_exteq eq4
  have K4 : Keep h0 T4.heap [w5, w8, w11] := (Keep.refl h0 [w5, w8, w11]).ext E4
  obtain ⟨T6, X6, e6, st6⟩ := getF X4 hx hZ hown (host := "") (Or.inl (hw _ (List.mem_of_getElem? (i := 25) rfl))) Via.refl rfl (F_words_o0.ext E4) (g := (mkF m 94 #[.val (.ref o0), .val (.ref o1), .val (.ref o2), .val (.int i3), .val (.int i4), .val (.int i5), .val (.long ((hi.toInt64) - (lo.toInt64))), .second, .val (.int ((64 : Int32) - zz))] [(.ref o0)])) rfl rfl (hb hby d1_94)
  obtain ⟨cl_100, Ar_100, S_100, H_100⟩ := id (V_w5.ext E4)
  have hin100 := Ary.inn S_100 ix hiN
  obtain ⟨T7, h7, X7, e7, W7, st7⟩ := stI X6 hx hZ e6 Ar_100 (j := i5) hin100 (g := (mkF m 100 #[.val (.ref o0), .val (.ref o1), .val (.ref o2), .val (.int i3), .val (.int i4), .val (.int i5), .val (.long ((hi.toInt64) - (lo.toInt64))), .second, .val (.int ((64 : Int32) - zz))] [(.int i3), (.int i5), (.ref w5)])) rfl rfl (hb hby d1_100)
  have V_w5_7 := Ary.set Ar_100 S_100 H_100 W7 ix
  have K7 : Keep h0 h7 [w5, w8, w11] := K4.wr W7 (Or.inl (List.mem_of_getElem? (i := 0) rfl))
  have N7 := Fr.snoc X7 N4 g_w5
  obtain ⟨T9, X9, e9, st9⟩ := getF X7 hx hZ hown (host := "") (Or.inl (hw _ (List.mem_of_getElem? (i := 27) rfl))) Via.refl e7 ((F_shifts_o0.ext E4).other W7 (Or.inl ne_o0_w5)) (g := (mkF m 102 #[.val (.ref o0), .val (.ref o1), .val (.ref o2), .val (.int i3), .val (.int i4), .val (.int i5), .val (.long ((hi.toInt64) - (lo.toInt64))), .second, .val (.int ((64 : Int32) - zz))] [(.ref o0)])) rfl rfl (hb hby d1_102)
  obtain ⟨cl_109, Ar_109, S_109, H_109⟩ := id ((V_w8.ext E4).other W7 ne_w5_w8.symm)
  have hin109 := Ary.inn S_109 ix hiN
  obtain ⟨T10, h10, X10, e10, W10, st10⟩ := stI X9 hx hZ e9 Ar_109 (j := i5) hin109 (g := (mkF m 109 #[.val (.ref o0), .val (.ref o1), .val (.ref o2), .val (.int i3), .val (.int i4), .val (.int i5), .val (.long ((hi.toInt64) - (lo.toInt64))), .second, .val (.int ((64 : Int32) - zz))] [(.int i4), (.int i5), (.ref w8)])) rfl rfl (hb hby d1_109)
  have V_w8_10 := Ary.set Ar_109 S_109 H_109 W10 ix
  have K10 : Keep h0 h10 [w5, w8, w11] := K7.wr W10 (Or.inl (List.mem_of_getElem? (i := 1) rfl))
  have N10 := Fr.snoc X10 N7 g_w8
  obtain ⟨T12, X12, e12, st12⟩ := getF X10 hx hZ hown (host := "") (Or.inl (hw _ (List.mem_of_getElem? (i := 29) rfl))) Via.refl e10 (((F_masks_o0.ext E4).other W7 (Or.inl ne_o0_w5)).other W10 (Or.inl ne_o0_w8)) (g := (mkF m 111 #[.val (.ref o0), .val (.ref o1), .val (.ref o2), .val (.int i3), .val (.int i4), .val (.int i5), .val (.long ((hi.toInt64) - (lo.toInt64))), .second, .val (.int ((64 : Int32) - zz))] [(.ref o0)])) rfl rfl (hb hby d1_111)
  obtain ⟨cl_122, Ar_122, S_122, H_122⟩ := id (((V_w11.ext E4).other W7 ne_w5_w11.symm).other W10 ne_w8_w11.symm)
  have hin122 := Ary.inn S_122 ix hiN
  obtain ⟨T13, h13, X13, e13, W13, st13⟩ := stJ X12 hx hZ e12 Ar_122 (j := i5) hin122 (g := (mkF m 122 #[.val (.ref o0), .val (.ref o1), .val (.ref o2), .val (.int i3), .val (.int i4), .val (.int i5), .val (.long ((hi.toInt64) - (lo.toInt64))), .second, .val (.int ((64 : Int32) - zz))] [(.long (((1 : Int64) <<< (((64 : Int32) - zz) &&& 0x3f).toInt64) - (1 : Int64))), (.int i5), (.ref w11)])) rfl rfl (hb hby d1_122)
  have V_w11_13 := Ary.set Ar_122 S_122 H_122 W13 ix
  have K13 : Keep h0 h13 [w5, w8, w11] := K10.wr W13 (Or.inl (List.mem_of_getElem? (i := 2) rfl))
  have N13 := Fr.snoc X13 N10 g_w11
  have Vend_o1 := ((((V_o1.ext E4).other W7 ne_o1_w5).other W10 ne_o1_w8).other W13 ne_o1_w11)
  have Vend_o2 := ((((V_o2.ext E4).other W7 ne_o2_w5).other W10 ne_o2_w8).other W13 ne_o2_w11)
  have Fend_wordCount_o0 := ((((F_wordCount_o0.ext E4).other W7 (Or.inl ne_o0_w5)).other W10 (Or.inl ne_o0_w8)).other W13 (Or.inl ne_o0_w11))
  have Eend_o0 := ((((E_o0.ext E4).wr W7).wr W10).wr W13)
  have Fend_words_o0 := ((((F_words_o0.ext E4).other W7 (Or.inl ne_o0_w5)).other W10 (Or.inl ne_o0_w8)).other W13 (Or.inl ne_o0_w11))
  have Vend_w5 := ((V_w5_7.other W10 ne_w5_w8).other W13 ne_w5_w11)
  have Fend_shifts_o0 := ((((F_shifts_o0.ext E4).other W7 (Or.inl ne_o0_w5)).other W10 (Or.inl ne_o0_w8)).other W13 (Or.inl ne_o0_w11))
  have Vend_w8 := (V_w8_10.other W13 ne_w8_w11)
  have Fend_masks_o0 := ((((F_masks_o0.ext E4).other W7 (Or.inl ne_o0_w5)).other W10 (Or.inl ne_o0_w8)).other W13 (Or.inl ne_o0_w11))
  have Vend_w11 := V_w11_13
  have Zend : n0 ≤ h13.size := (Nat.le_trans (Nat.le_trans (Nat.le_trans (Nat.le_trans Z0 E4.1) (Keep.of_wr W7).1) (Keep.of_wr W10).1) (Keep.of_wr W13).1)
  have Kend := K13
  refine ⟨T13, _, _, X13, e13, N13, Kend, Zend, Eend_o0, Fend_words_o0, Fend_shifts_o0, Fend_masks_o0, Fend_wordCount_o0, Vend_o1, Vend_o2, ⟨_, Vend_w5⟩, ⟨_, Vend_w8⟩, ⟨_, Vend_w11⟩, fun target kt => ?_⟩
  show Steps p.tables e below (T0.setTop (mkF m 47 #[.val (.ref o0), .val (.ref o1), .val (.ref o2), .val (.int i3), .val (.int i4), .val (.int i5), .val (.long j6), .second, .val (.int i8)] [])) _
  refine XS.iload X0.here hx rfl (hb hby d1_47) rfl ?_
  show Steps p.tables e below (T0.setTop (mkF m 49 #[.val (.ref o0), .val (.ref o1), .val (.ref o2), .val (.int i3), .val (.int i4), .val (.int i5), .val (.long j6), .second, .val (.int i8)] [(.int i5)])) _
  refine XS.aloadN X0.here hx rfl (hb hby d1_49) rfl rfl ?_
  show Steps p.tables e below (T0.setTop (mkF m 50 #[.val (.ref o0), .val (.ref o1), .val (.ref o2), .val (.int i3), .val (.int i4), .val (.int i5), .val (.long j6), .second, .val (.int i8)] [(.ref o1), (.int i5)])) _
  refine X0.arraylength hx (by rw [e0]; exact Ar_50.1) (State.isArrayOf_alike hZ.alike Ar_50.2.1) (g := (mkF m 50 #[.val (.ref o0), .val (.ref o1), .val (.ref o2), .val (.int i3), .val (.int i4), .val (.int i5), .val (.long j6), .second, .val (.int i8)] [(.ref o1), (.int i5)])) rfl rfl (hb hby d1_50) _ ?_
  rw [S_50]
  show Steps p.tables e below (T0.setTop (mkF m 51 #[.val (.ref o0), .val (.ref o1), .val (.ref o2), .val (.int i3), .val (.int i4), .val (.int i5), .val (.long j6), .second, .val (.int i8)] [(.int (Int32.ofNat N)), (.int i5)])) _
  refine XS.icmpNo X0.here hx rfl (hb hby d1_51) rfl (tlt hc51).2.1 ?_
  show Steps p.tables e below (T0.setTop (mkF m 54 #[.val (.ref o0), .val (.ref o1), .val (.ref o2), .val (.int i3), .val (.int i4), .val (.int i5), .val (.long j6), .second, .val (.int i8)] [])) _
  refine XS.aloadN X0.here hx rfl (hb hby d1_54) rfl rfl ?_
  show Steps p.tables e below (T0.setTop (mkF m 55 #[.val (.ref o0), .val (.ref o1), .val (.ref o2), .val (.int i3), .val (.int i4), .val (.int i5), .val (.long j6), .second, .val (.int i8)] [(.ref o2)])) _
  refine XS.iload X0.here hx rfl (hb hby d1_55) rfl ?_
  show Steps p.tables e below (T0.setTop (mkF m 57 #[.val (.ref o0), .val (.ref o1), .val (.ref o2), .val (.int i3), .val (.int i4), .val (.int i5), .val (.long j6), .second, .val (.int i8)] [(.int i5), (.ref o2)])) _
  refine X0.iaload hx (j := i5) (v := (.int hi)) (by rw [e0]; exact Ar_57.1) (State.isArrayOf_alike hZ.alike Ar_57.2.1) Ar_57.2.2 hin57 hat57 (g := (mkF m 57 #[.val (.ref o0), .val (.ref o1), .val (.ref o2), .val (.int i3), .val (.int i4), .val (.int i5), .val (.long j6), .second, .val (.int i8)] [(.int i5), (.ref o2)])) rfl rfl (hb hby d1_57) _ ?_
  show Steps p.tables e below (T0.setTop (mkF m 58 #[.val (.ref o0), .val (.ref o1), .val (.ref o2), .val (.int i3), .val (.int i4), .val (.int i5), .val (.long j6), .second, .val (.int i8)] [(.int hi)])) _
  refine XS.i2l X0.here hx rfl (hb hby d1_58) rfl ?_
  show Steps p.tables e below (T0.setTop (mkF m 59 #[.val (.ref o0), .val (.ref o1), .val (.ref o2), .val (.int i3), .val (.int i4), .val (.int i5), .val (.long j6), .second, .val (.int i8)] [(.long (hi.toInt64))])) _
  refine XS.aloadN X0.here hx rfl (hb hby d1_59) rfl rfl ?_
  show Steps p.tables e below (T0.setTop (mkF m 60 #[.val (.ref o0), .val (.ref o1), .val (.ref o2), .val (.int i3), .val (.int i4), .val (.int i5), .val (.long j6), .second, .val (.int i8)] [(.ref o1), (.long (hi.toInt64))])) _
  refine XS.iload X0.here hx rfl (hb hby d1_60) rfl ?_
  show Steps p.tables e below (T0.setTop (mkF m 62 #[.val (.ref o0), .val (.ref o1), .val (.ref o2), .val (.int i3), .val (.int i4), .val (.int i5), .val (.long j6), .second, .val (.int i8)] [(.int i5), (.ref o1), (.long (hi.toInt64))])) _
  refine X0.iaload hx (j := i5) (v := (.int lo)) (by rw [e0]; exact Ar_62.1) (State.isArrayOf_alike hZ.alike Ar_62.2.1) Ar_62.2.2 hin62 hat62 (g := (mkF m 62 #[.val (.ref o0), .val (.ref o1), .val (.ref o2), .val (.int i3), .val (.int i4), .val (.int i5), .val (.long j6), .second, .val (.int i8)] [(.int i5), (.ref o1), (.long (hi.toInt64))])) rfl rfl (hb hby d1_62) _ ?_
  show Steps p.tables e below (T0.setTop (mkF m 63 #[.val (.ref o0), .val (.ref o1), .val (.ref o2), .val (.int i3), .val (.int i4), .val (.int i5), .val (.long j6), .second, .val (.int i8)] [(.int lo), (.long (hi.toInt64))])) _
  refine XS.i2l X0.here hx rfl (hb hby d1_63) rfl ?_
  show Steps p.tables e below (T0.setTop (mkF m 64 #[.val (.ref o0), .val (.ref o1), .val (.ref o2), .val (.int i3), .val (.int i4), .val (.int i5), .val (.long j6), .second, .val (.int i8)] [(.long (lo.toInt64)), (.long (hi.toInt64))])) _
  refine XS.lsub X0.here hx rfl (hb hby d1_64) rfl ?_
  show Steps p.tables e below (T0.setTop (mkF m 65 #[.val (.ref o0), .val (.ref o1), .val (.ref o2), .val (.int i3), .val (.int i4), .val (.int i5), .val (.long j6), .second, .val (.int i8)] [(.long ((hi.toInt64) - (lo.toInt64)))])) _
  refine XS.lstore X0.here hx rfl (hb hby d1_65) rfl (l' := #[.val (.ref o0), .val (.ref o1), .val (.ref o2), .val (.int i3), .val (.int i4), .val (.int i5), .val (.long ((hi.toInt64) - (lo.toInt64))), .second, .val (.int i8)]) rfl ?_
  show Steps p.tables e below (T0.setTop (mkF m 67 #[.val (.ref o0), .val (.ref o1), .val (.ref o2), .val (.int i3), .val (.int i4), .val (.int i5), .val (.long ((hi.toInt64) - (lo.toInt64))), .second, .val (.int i8)] [])) _
  refine XS.bipush X0.here hx rfl (hb hby d1_67) ?_
  show Steps p.tables e below (T0.setTop (mkF m 69 #[.val (.ref o0), .val (.ref o1), .val (.ref o2), .val (.int i3), .val (.int i4), .val (.int i5), .val (.long ((hi.toInt64) - (lo.toInt64))), .second, .val (.int i8)] [(.int (64 : Int32))])) _
  refine XS.lload X0.here hx rfl (hb hby d1_69) rfl ?_
  show Steps p.tables e below (T0.setTop (mkF m 71 #[.val (.ref o0), .val (.ref o1), .val (.ref o2), .val (.int i3), .val (.int i4), .val (.int i5), .val (.long ((hi.toInt64) - (lo.toInt64))), .second, .val (.int i8)] [(.long ((hi.toInt64) - (lo.toInt64))), (.int (64 : Int32))])) _
  refine st4 _ ?_
  show Steps p.tables e below (T4.setTop (mkF m 74 #[.val (.ref o0), .val (.ref o1), .val (.ref o2), .val (.int i3), .val (.int i4), .val (.int i5), .val (.long ((hi.toInt64) - (lo.toInt64))), .second, .val (.int i8)] [(.int zz), (.int (64 : Int32))])) _
  refine XS.isub X4.here hx rfl (hb hby d1_74) rfl ?_
  show Steps p.tables e below (T4.setTop (mkF m 75 #[.val (.ref o0), .val (.ref o1), .val (.ref o2), .val (.int i3), .val (.int i4), .val (.int i5), .val (.long ((hi.toInt64) - (lo.toInt64))), .second, .val (.int i8)] [(.int ((64 : Int32) - zz))])) _
  refine XS.istore X4.here hx rfl (hb hby d1_75) rfl (l' := #[.val (.ref o0), .val (.ref o1), .val (.ref o2), .val (.int i3), .val (.int i4), .val (.int i5), .val (.long ((hi.toInt64) - (lo.toInt64))), .second, .val (.int ((64 : Int32) - zz))]) rfl ?_
  show Steps p.tables e below (T4.setTop (mkF m 77 #[.val (.ref o0), .val (.ref o1), .val (.ref o2), .val (.int i3), .val (.int i4), .val (.int i5), .val (.long ((hi.toInt64) - (lo.toInt64))), .second, .val (.int ((64 : Int32) - zz))] [])) _
  refine XS.iload X4.here hx rfl (hb hby d1_77) rfl ?_
  show Steps p.tables e below (T4.setTop (mkF m 79 #[.val (.ref o0), .val (.ref o1), .val (.ref o2), .val (.int i3), .val (.int i4), .val (.int i5), .val (.long ((hi.toInt64) - (lo.toInt64))), .second, .val (.int ((64 : Int32) - zz))] [(.int i4)])) _
  refine XS.iload X4.here hx rfl (hb hby d1_79) rfl ?_
  show Steps p.tables e below (T4.setTop (mkF m 81 #[.val (.ref o0), .val (.ref o1), .val (.ref o2), .val (.int i3), .val (.int i4), .val (.int i5), .val (.long ((hi.toInt64) - (lo.toInt64))), .second, .val (.int ((64 : Int32) - zz))] [(.int ((64 : Int32) - zz)), (.int i4)])) _
  refine XS.iadd X4.here hx rfl (hb hby d1_81) rfl ?_
  show Steps p.tables e below (T4.setTop (mkF m 82 #[.val (.ref o0), .val (.ref o1), .val (.ref o2), .val (.int i3), .val (.int i4), .val (.int i5), .val (.long ((hi.toInt64) - (lo.toInt64))), .second, .val (.int ((64 : Int32) - zz))] [(.int (i4 + ((64 : Int32) - zz)))])) _
  refine XS.bipush X4.here hx rfl (hb hby d1_82) ?_
  show Steps p.tables e below (T4.setTop (mkF m 84 #[.val (.ref o0), .val (.ref o1), .val (.ref o2), .val (.int i3), .val (.int i4), .val (.int i5), .val (.long ((hi.toInt64) - (lo.toInt64))), .second, .val (.int ((64 : Int32) - zz))] [(.int (64 : Int32)), (.int (i4 + ((64 : Int32) - zz)))])) _
  refine XS.icmpYes X4.here hx rfl (pc0 := 84) (pc' := 93) rfl (hb hby d1_84) rfl (flt (hc84 : ¬ ((64 : Int32) < (i4 + ((64 : Int32) - zz))))).2.2.2 (by decide) (by decide) ?_
  show Steps p.tables e below (T4.setTop (mkF m 93 #[.val (.ref o0), .val (.ref o1), .val (.ref o2), .val (.int i3), .val (.int i4), .val (.int i5), .val (.long ((hi.toInt64) - (lo.toInt64))), .second, .val (.int ((64 : Int32) - zz))] [])) _
  refine XS.aloadN X4.here hx rfl (hb hby d1_93) rfl rfl ?_
  show Steps p.tables e below (T4.setTop (mkF m 94 #[.val (.ref o0), .val (.ref o1), .val (.ref o2), .val (.int i3), .val (.int i4), .val (.int i5), .val (.long ((hi.toInt64) - (lo.toInt64))), .second, .val (.int ((64 : Int32) - zz))] [(.ref o0)])) _
  refine st6 _ ?_
  show Steps p.tables e below (T6.setTop (mkF m 97 #[.val (.ref o0), .val (.ref o1), .val (.ref o2), .val (.int i3), .val (.int i4), .val (.int i5), .val (.long ((hi.toInt64) - (lo.toInt64))), .second, .val (.int ((64 : Int32) - zz))] [(.ref w5)])) _
  refine XS.iload X6.here hx rfl (hb hby d1_97) rfl ?_
  show Steps p.tables e below (T6.setTop (mkF m 99 #[.val (.ref o0), .val (.ref o1), .val (.ref o2), .val (.int i3), .val (.int i4), .val (.int i5), .val (.long ((hi.toInt64) - (lo.toInt64))), .second, .val (.int ((64 : Int32) - zz))] [(.int i5), (.ref w5)])) _
  refine XS.iloadN X6.here hx rfl (hb hby d1_99) rfl ?_
  show Steps p.tables e below (T6.setTop (mkF m 100 #[.val (.ref o0), .val (.ref o1), .val (.ref o2), .val (.int i3), .val (.int i4), .val (.int i5), .val (.long ((hi.toInt64) - (lo.toInt64))), .second, .val (.int ((64 : Int32) - zz))] [(.int i3), (.int i5), (.ref w5)])) _
  refine st7 _ ?_
  show Steps p.tables e below (T7.setTop (mkF m 101 #[.val (.ref o0), .val (.ref o1), .val (.ref o2), .val (.int i3), .val (.int i4), .val (.int i5), .val (.long ((hi.toInt64) - (lo.toInt64))), .second, .val (.int ((64 : Int32) - zz))] [])) _
  refine XS.aloadN X7.here hx rfl (hb hby d1_101) rfl rfl ?_
  show Steps p.tables e below (T7.setTop (mkF m 102 #[.val (.ref o0), .val (.ref o1), .val (.ref o2), .val (.int i3), .val (.int i4), .val (.int i5), .val (.long ((hi.toInt64) - (lo.toInt64))), .second, .val (.int ((64 : Int32) - zz))] [(.ref o0)])) _
  refine st9 _ ?_
  show Steps p.tables e below (T9.setTop (mkF m 105 #[.val (.ref o0), .val (.ref o1), .val (.ref o2), .val (.int i3), .val (.int i4), .val (.int i5), .val (.long ((hi.toInt64) - (lo.toInt64))), .second, .val (.int ((64 : Int32) - zz))] [(.ref w8)])) _
  refine XS.iload X9.here hx rfl (hb hby d1_105) rfl ?_
  show Steps p.tables e below (T9.setTop (mkF m 107 #[.val (.ref o0), .val (.ref o1), .val (.ref o2), .val (.int i3), .val (.int i4), .val (.int i5), .val (.long ((hi.toInt64) - (lo.toInt64))), .second, .val (.int ((64 : Int32) - zz))] [(.int i5), (.ref w8)])) _
  refine XS.iload X9.here hx rfl (hb hby d1_107) rfl ?_
  show Steps p.tables e below (T9.setTop (mkF m 109 #[.val (.ref o0), .val (.ref o1), .val (.ref o2), .val (.int i3), .val (.int i4), .val (.int i5), .val (.long ((hi.toInt64) - (lo.toInt64))), .second, .val (.int ((64 : Int32) - zz))] [(.int i4), (.int i5), (.ref w8)])) _
  refine st10 _ ?_
  show Steps p.tables e below (T10.setTop (mkF m 110 #[.val (.ref o0), .val (.ref o1), .val (.ref o2), .val (.int i3), .val (.int i4), .val (.int i5), .val (.long ((hi.toInt64) - (lo.toInt64))), .second, .val (.int ((64 : Int32) - zz))] [])) _
  refine XS.aloadN X10.here hx rfl (hb hby d1_110) rfl rfl ?_
  show Steps p.tables e below (T10.setTop (mkF m 111 #[.val (.ref o0), .val (.ref o1), .val (.ref o2), .val (.int i3), .val (.int i4), .val (.int i5), .val (.long ((hi.toInt64) - (lo.toInt64))), .second, .val (.int ((64 : Int32) - zz))] [(.ref o0)])) _
  refine st12 _ ?_
  show Steps p.tables e below (T12.setTop (mkF m 114 #[.val (.ref o0), .val (.ref o1), .val (.ref o2), .val (.int i3), .val (.int i4), .val (.int i5), .val (.long ((hi.toInt64) - (lo.toInt64))), .second, .val (.int ((64 : Int32) - zz))] [(.ref w11)])) _
  refine XS.iload X12.here hx rfl (hb hby d1_114) rfl ?_
  show Steps p.tables e below (T12.setTop (mkF m 116 #[.val (.ref o0), .val (.ref o1), .val (.ref o2), .val (.int i3), .val (.int i4), .val (.int i5), .val (.long ((hi.toInt64) - (lo.toInt64))), .second, .val (.int ((64 : Int32) - zz))] [(.int i5), (.ref w11)])) _
  refine XS.lconst X12.here hx rfl (hb hby d1_116) ?_
  show Steps p.tables e below (T12.setTop (mkF m 117 #[.val (.ref o0), .val (.ref o1), .val (.ref o2), .val (.int i3), .val (.int i4), .val (.int i5), .val (.long ((hi.toInt64) - (lo.toInt64))), .second, .val (.int ((64 : Int32) - zz))] [(.long (1 : Int64)), (.int i5), (.ref w11)])) _
  refine XS.iload X12.here hx rfl (hb hby d1_117) rfl ?_
  show Steps p.tables e below (T12.setTop (mkF m 119 #[.val (.ref o0), .val (.ref o1), .val (.ref o2), .val (.int i3), .val (.int i4), .val (.int i5), .val (.long ((hi.toInt64) - (lo.toInt64))), .second, .val (.int ((64 : Int32) - zz))] [(.int ((64 : Int32) - zz)), (.long (1 : Int64)), (.int i5), (.ref w11)])) _
  refine XS.lshl X12.here hx rfl (hb hby d1_119) rfl ?_
  show Steps p.tables e below (T12.setTop (mkF m 120 #[.val (.ref o0), .val (.ref o1), .val (.ref o2), .val (.int i3), .val (.int i4), .val (.int i5), .val (.long ((hi.toInt64) - (lo.toInt64))), .second, .val (.int ((64 : Int32) - zz))] [(.long ((1 : Int64) <<< (((64 : Int32) - zz) &&& 0x3f).toInt64)), (.int i5), (.ref w11)])) _
  refine XS.lconst X12.here hx rfl (hb hby d1_120) ?_
  show Steps p.tables e below (T12.setTop (mkF m 121 #[.val (.ref o0), .val (.ref o1), .val (.ref o2), .val (.int i3), .val (.int i4), .val (.int i5), .val (.long ((hi.toInt64) - (lo.toInt64))), .second, .val (.int ((64 : Int32) - zz))] [(.long (1 : Int64)), (.long ((1 : Int64) <<< (((64 : Int32) - zz) &&& 0x3f).toInt64)), (.int i5), (.ref w11)])) _
  refine XS.lsub X12.here hx rfl (hb hby d1_121) rfl ?_
  show Steps p.tables e below (T12.setTop (mkF m 122 #[.val (.ref o0), .val (.ref o1), .val (.ref o2), .val (.int i3), .val (.int i4), .val (.int i5), .val (.long ((hi.toInt64) - (lo.toInt64))), .second, .val (.int ((64 : Int32) - zz))] [(.long (((1 : Int64) <<< (((64 : Int32) - zz) &&& 0x3f).toInt64) - (1 : Int64))), (.int i5), (.ref w11)])) _
  refine st13 _ ?_
  show Steps p.tables e below (T13.setTop (mkF m 123 #[.val (.ref o0), .val (.ref o1), .val (.ref o2), .val (.int i3), .val (.int i4), .val (.int i5), .val (.long ((hi.toInt64) - (lo.toInt64))), .second, .val (.int ((64 : Int32) - zz))] [])) _
  refine XS.iload X13.here hx rfl (hb hby d1_123) rfl ?_
  show Steps p.tables e below (T13.setTop (mkF m 125 #[.val (.ref o0), .val (.ref o1), .val (.ref o2), .val (.int i3), .val (.int i4), .val (.int i5), .val (.long ((hi.toInt64) - (lo.toInt64))), .second, .val (.int ((64 : Int32) - zz))] [(.int i4)])) _
  refine XS.iload X13.here hx rfl (hb hby d1_125) rfl ?_
  show Steps p.tables e below (T13.setTop (mkF m 127 #[.val (.ref o0), .val (.ref o1), .val (.ref o2), .val (.int i3), .val (.int i4), .val (.int i5), .val (.long ((hi.toInt64) - (lo.toInt64))), .second, .val (.int ((64 : Int32) - zz))] [(.int ((64 : Int32) - zz)), (.int i4)])) _
  refine XS.iadd X13.here hx rfl (hb hby d1_127) rfl ?_
  show Steps p.tables e below (T13.setTop (mkF m 128 #[.val (.ref o0), .val (.ref o1), .val (.ref o2), .val (.int i3), .val (.int i4), .val (.int i5), .val (.long ((hi.toInt64) - (lo.toInt64))), .second, .val (.int ((64 : Int32) - zz))] [(.int (i4 + ((64 : Int32) - zz)))])) _
  refine XS.istore X13.here hx rfl (hb hby d1_128) rfl (l' := #[.val (.ref o0), .val (.ref o1), .val (.ref o2), .val (.int i3), .val (.int (i4 + ((64 : Int32) - zz))), .val (.int i5), .val (.long ((hi.toInt64) - (lo.toInt64))), .second, .val (.int ((64 : Int32) - zz))]) rfl ?_
  show Steps p.tables e below (T13.setTop (mkF m 130 #[.val (.ref o0), .val (.ref o1), .val (.ref o2), .val (.int i3), .val (.int (i4 + ((64 : Int32) - zz))), .val (.int i5), .val (.long ((hi.toInt64) - (lo.toInt64))), .second, .val (.int ((64 : Int32) - zz))] [])) _
  refine XS.iinc X13.here hx rfl (hb hby d1_130) rfl (l' := #[.val (.ref o0), .val (.ref o1), .val (.ref o2), .val (.int i3), .val (.int (i4 + ((64 : Int32) - zz))), .val (.int (i5 + (1 : Int32))), .val (.long ((hi.toInt64) - (lo.toInt64))), .second, .val (.int ((64 : Int32) - zz))]) rfl ?_
  show Steps p.tables e below (T13.setTop (mkF m 133 #[.val (.ref o0), .val (.ref o1), .val (.ref o2), .val (.int i3), .val (.int (i4 + ((64 : Int32) - zz))), .val (.int (i5 + (1 : Int32))), .val (.long ((hi.toInt64) - (lo.toInt64))), .second, .val (.int ((64 : Int32) - zz))] [])) _
  refine XS.goto X13.here hx rfl (pc0 := 133) (pc' := 47) rfl (hb hby d1_133) (by decide) (by decide) ?_
  exact kt
theorem d1_87 : decode prog_77_method_1_code 87 = .ok (.iinc 3 1, 3) := by decide +kernel
theorem d1_90 : decode prog_77_method_1_code 90 = .ok (.iconst 0, 1) := by decide +kernel
theorem d1_91 : decode prog_77_method_1_code 91 = .ok (.istore 4, 2) := by decide +kernel
set_option maxRecDepth 65536 in
set_option maxHeartbeats 40000000 in
theorem tuO {p : Program} {l : Launch} {e : Env} {s : State} {m : MethodId} {args : Array Value} {below : List Frame} {meth : Method} {c : Code} {T0 : State} {locs : List Loc} {cells slots : Nat} {Z : State} {a0 : Array Value} {h0 : Heap} (o0 : Addr) (o1 : Addr) (o2 : Addr) (i3 : Int32) (i4 : Int32) (i5 : Int32) (j6 : Int64) (i8 : Int32) (n0 : Nat) (N : Nat) (i : Nat) (lo : Int32) (hi : Int32) (zz : Int32) (f_o1 : Nat → Value) (f_o2 : Nat → Value) (w5 : Addr) (f_w5 : Nat → Value) (w8 : Addr) (f_w8 : Nat → Value) (w11 : Addr) (f_w11 : Nat → Value)
    (X0 : Stand p l e own_R1 s m args below meth c T0 locs cells slots) (hx : p.tables.exec = Jvm.exec) (hZ : Z.Warmed39 s.vm) (hw : ∀ d ∈ tables_1, d.before a0 Z = true) (hby : c.code = prog_77_method_1_code) (hml : c.maxLocals = 9) (hown : s.vm.findClass "com/example/tight_bounds/tightbounds/model/StateLayout" = some m.cls) (e0 : T0.heap = h0) (Z0 : n0 ≤ h0.size) (N0 : Fr n0 locs) (hcl : cells ≤ own_R1.cells) (hsl : slots ≤ own_R1.slots) (ix : own_ix i5 i) (hiN : i < N) (hlo : f_o1 i = .int lo) (hhi : f_o2 i = .int hi) (hz : own_nz ((hi.toInt64) - (lo.toInt64)) zz) (ne_o0_w5 : o0 ≠ w5) (ne_o0_w8 : o0 ≠ w8) (ne_o0_w11 : o0 ≠ w11) (ne_o1_w5 : o1 ≠ w5) (ne_o1_w8 : o1 ≠ w8) (ne_o1_w11 : o1 ≠ w11) (ne_o2_w5 : o2 ≠ w5) (ne_o2_w8 : o2 ≠ w8) (ne_o2_w11 : o2 ≠ w11) (ne_w5_w8 : w5 ≠ w8) (ne_w5_w11 : w5 ≠ w11) (ne_w8_w11 : w8 ≠ w11) (hc84 : (64 : Int32) < (i4 + ((64 : Int32) - zz))) (V_o1 : Ary Z h0 o1 .int N f_o1) (V_o2 : Ary Z h0 o2 .int N f_o2) (F_wordCount_o0 : Fld Z h0 o0 "com/example/tight_bounds/tightbounds/model/StateLayout" "wordCount" "I" (.int (0 : Int32))) (E_o0 : Exa Z h0 o0 "com/example/tight_bounds/tightbounds/model/StateLayout") (F_words_o0 : Fld Z h0 o0 "com/example/tight_bounds/tightbounds/model/StateLayout" "words" "[I" (.ref w5)) (V_w5 : Ary Z h0 w5 .int N f_w5) (g_w5 : n0 ≤ w5) (F_shifts_o0 : Fld Z h0 o0 "com/example/tight_bounds/tightbounds/model/StateLayout" "shifts" "[I" (.ref w8)) (V_w8 : Ary Z h0 w8 .int N f_w8) (g_w8 : n0 ≤ w8) (F_masks_o0 : Fld Z h0 o0 "com/example/tight_bounds/tightbounds/model/StateLayout" "masks" "[J" (.ref w11)) (V_w11 : Ary Z h0 w11 .long N f_w11) (g_w11 : n0 ≤ w11) (hc51 : i5 < (Int32.ofNat N)) :
    ∃ (T' : State) (h' : Heap) (locs' : List Loc), Stand p l e own_R1 s m args below meth c T' locs' cells slots ∧ T'.heap = h' ∧ Fr n0 locs' ∧ Keep h0 h' [w5, w8, w11] ∧ n0 ≤ h'.size ∧ Exa Z h' o0 "com/example/tight_bounds/tightbounds/model/StateLayout" ∧ Fld Z h' o0 "com/example/tight_bounds/tightbounds/model/StateLayout" "words" "[I" (.ref w5) ∧ Fld Z h' o0 "com/example/tight_bounds/tightbounds/model/StateLayout" "shifts" "[I" (.ref w8) ∧ Fld Z h' o0 "com/example/tight_bounds/tightbounds/model/StateLayout" "masks" "[J" (.ref w11) ∧ Fld Z h' o0 "com/example/tight_bounds/tightbounds/model/StateLayout" "wordCount" "I" (.int (0 : Int32)) ∧ Ary Z h' o1 .int N f_o1 ∧ Ary Z h' o2 .int N f_o2 ∧ (∃ f, Ary Z h' w5 .int N f) ∧ (∃ f, Ary Z h' w8 .int N f) ∧ (∃ f, Ary Z h' w11 .long N f) ∧
      ∀ target, Steps p.tables e below (T'.setTop (mkF m 47 #[.val (.ref o0), .val (.ref o1), .val (.ref o2), .val (.int (i3 + (1 : Int32))), .val (.int ((0 : Int32) + ((64 : Int32) - zz))), .val (.int (i5 + (1 : Int32))), .val (.long ((hi.toInt64) - (lo.toInt64))), .second, .val (.int ((64 : Int32) - zz))] [])) target → Steps p.tables e below (T0.setTop (mkF m 47 #[.val (.ref o0), .val (.ref o1), .val (.ref o2), .val (.int i3), .val (.int i4), .val (.int i5), .val (.long j6), .second, .val (.int i8)] [])) target := by
  obtain ⟨cl_50, Ar_50, S_50, H_50⟩ := id V_o1
  obtain ⟨cl_57, Ar_57, S_57, H_57⟩ := id V_o2
  have hin57 := Ary.inn S_57 ix hiN
  have hat57 := Ary.get H_57 ix hiN (v := (.int hi)) hhi
  obtain ⟨cl_62, Ar_62, S_62, H_62⟩ := id V_o1
  have hin62 := Ary.inn S_62 ix hiN
  have hat62 := Ary.get H_62 ix hiN (v := (.int lo)) hlo
  have Zc4 : n0 ≤ h0.size := Z0
  obtain ⟨_, _, ⟨T4, L4, k4, n4⟩, -, X4, ⟨Lc4, hQ4, l4, y4, z4⟩, st4⟩ := Jvm.LawKit.callS X0 hx (y := (⟨"java/lang/Long", "numberOfLeadingZeros", "(J)I"⟩ : MethodName)) hown (mvT hZ (hw _ (List.mem_of_getElem? (i := 42) rfl))) (mvT hZ (hw _ (List.mem_of_getElem? (i := 43) rfl))) (mvT hZ (hw _ (List.mem_of_getElem? (i := 44) rfl))) (mvT hZ (hw _ (List.mem_of_getElem? (i := 45) rfl))) (by decide) (backOf (W := 1) (rm5 l Z a0 hw [] ((hi.toInt64) - (lo.toInt64)) zz h0 n0 Zc4 hz) hZ (hw _ (List.mem_of_getElem? (i := 45) rfl)) (hw _ (List.mem_of_getElem? (i := 44) rfl)) (by decide) (by decide)) (g := (mkF m 71 #[.val (.ref o0), .val (.ref o1), .val (.ref o2), .val (.int i3), .val (.int i4), .val (.int i5), .val (.long ((hi.toInt64) - (lo.toInt64))), .second, .val (.int i8)] [(.long ((hi.toInt64) - (lo.toInt64))), (.int (64 : Int32))])) rfl (by rw [hml]; rfl) (argsL := [(.long ((hi.toInt64) - (lo.toInt64)))]) (rest := [(.int (64 : Int32))]) (lenOf pd_1_5 rfl) rfl (by show 2 * 0 + _ ≤ _; exact Nat.le_of_eq rfl) (hb hby d1_71) (fun _ _ => ⟨rfl, e0, hcl, hsl⟩)
  dsimp only [Pt.U, Pt.locs, Pt.cells, Pt.slots] at X4 l4 y4 z4 st4 hQ4
  subst l4 y4 z4
  obtain ⟨rfl, N4q, eq4⟩ := hQ4
  have N4 := Fr.app N0 N4q
  have E4 : Ext h0 T4.heap := own_exteq eq4
  have K4 : Keep h0 T4.heap [w5, w8, w11] := (Keep.refl h0 [w5, w8, w11]).ext E4
  obtain ⟨T6, X6, e6, st6⟩ := getF X4 hx hZ hown (host := "") (Or.inl (hw _ (List.mem_of_getElem? (i := 25) rfl))) Via.refl rfl (F_words_o0.ext E4) (g := (mkF m 94 #[.val (.ref o0), .val (.ref o1), .val (.ref o2), .val (.int (i3 + (1 : Int32))), .val (.int (0 : Int32)), .val (.int i5), .val (.long ((hi.toInt64) - (lo.toInt64))), .second, .val (.int ((64 : Int32) - zz))] [(.ref o0)])) rfl rfl (hb hby d1_94)
  obtain ⟨cl_100, Ar_100, S_100, H_100⟩ := id (V_w5.ext E4)
  have hin100 := Ary.inn S_100 ix hiN
  obtain ⟨T7, h7, X7, e7, W7, st7⟩ := stI X6 hx hZ e6 Ar_100 (j := i5) hin100 (g := (mkF m 100 #[.val (.ref o0), .val (.ref o1), .val (.ref o2), .val (.int (i3 + (1 : Int32))), .val (.int (0 : Int32)), .val (.int i5), .val (.long ((hi.toInt64) - (lo.toInt64))), .second, .val (.int ((64 : Int32) - zz))] [(.int (i3 + (1 : Int32))), (.int i5), (.ref w5)])) rfl rfl (hb hby d1_100)
  have V_w5_7 := Ary.set Ar_100 S_100 H_100 W7 ix
  have K7 : Keep h0 h7 [w5, w8, w11] := K4.wr W7 (Or.inl (List.mem_of_getElem? (i := 0) rfl))
  have N7 := Fr.snoc X7 N4 g_w5
  obtain ⟨T9, X9, e9, st9⟩ := getF X7 hx hZ hown (host := "") (Or.inl (hw _ (List.mem_of_getElem? (i := 27) rfl))) Via.refl e7 ((F_shifts_o0.ext E4).other W7 (Or.inl ne_o0_w5)) (g := (mkF m 102 #[.val (.ref o0), .val (.ref o1), .val (.ref o2), .val (.int (i3 + (1 : Int32))), .val (.int (0 : Int32)), .val (.int i5), .val (.long ((hi.toInt64) - (lo.toInt64))), .second, .val (.int ((64 : Int32) - zz))] [(.ref o0)])) rfl rfl (hb hby d1_102)
  obtain ⟨cl_109, Ar_109, S_109, H_109⟩ := id ((V_w8.ext E4).other W7 ne_w5_w8.symm)
  have hin109 := Ary.inn S_109 ix hiN
  obtain ⟨T10, h10, X10, e10, W10, st10⟩ := stI X9 hx hZ e9 Ar_109 (j := i5) hin109 (g := (mkF m 109 #[.val (.ref o0), .val (.ref o1), .val (.ref o2), .val (.int (i3 + (1 : Int32))), .val (.int (0 : Int32)), .val (.int i5), .val (.long ((hi.toInt64) - (lo.toInt64))), .second, .val (.int ((64 : Int32) - zz))] [(.int (0 : Int32)), (.int i5), (.ref w8)])) rfl rfl (hb hby d1_109)
  have V_w8_10 := Ary.set Ar_109 S_109 H_109 W10 ix
  have K10 : Keep h0 h10 [w5, w8, w11] := K7.wr W10 (Or.inl (List.mem_of_getElem? (i := 1) rfl))
  have N10 := Fr.snoc X10 N7 g_w8
  obtain ⟨T12, X12, e12, st12⟩ := getF X10 hx hZ hown (host := "") (Or.inl (hw _ (List.mem_of_getElem? (i := 29) rfl))) Via.refl e10 (((F_masks_o0.ext E4).other W7 (Or.inl ne_o0_w5)).other W10 (Or.inl ne_o0_w8)) (g := (mkF m 111 #[.val (.ref o0), .val (.ref o1), .val (.ref o2), .val (.int (i3 + (1 : Int32))), .val (.int (0 : Int32)), .val (.int i5), .val (.long ((hi.toInt64) - (lo.toInt64))), .second, .val (.int ((64 : Int32) - zz))] [(.ref o0)])) rfl rfl (hb hby d1_111)
  obtain ⟨cl_122, Ar_122, S_122, H_122⟩ := id (((V_w11.ext E4).other W7 ne_w5_w11.symm).other W10 ne_w8_w11.symm)
  have hin122 := Ary.inn S_122 ix hiN
  obtain ⟨T13, h13, X13, e13, W13, st13⟩ := stJ X12 hx hZ e12 Ar_122 (j := i5) hin122 (g := (mkF m 122 #[.val (.ref o0), .val (.ref o1), .val (.ref o2), .val (.int (i3 + (1 : Int32))), .val (.int (0 : Int32)), .val (.int i5), .val (.long ((hi.toInt64) - (lo.toInt64))), .second, .val (.int ((64 : Int32) - zz))] [(.long (((1 : Int64) <<< (((64 : Int32) - zz) &&& 0x3f).toInt64) - (1 : Int64))), (.int i5), (.ref w11)])) rfl rfl (hb hby d1_122)
  have V_w11_13 := Ary.set Ar_122 S_122 H_122 W13 ix
  have K13 : Keep h0 h13 [w5, w8, w11] := K10.wr W13 (Or.inl (List.mem_of_getElem? (i := 2) rfl))
  have N13 := Fr.snoc X13 N10 g_w11
  have Vend_o1 := ((((V_o1.ext E4).other W7 ne_o1_w5).other W10 ne_o1_w8).other W13 ne_o1_w11)
  have Vend_o2 := ((((V_o2.ext E4).other W7 ne_o2_w5).other W10 ne_o2_w8).other W13 ne_o2_w11)
  have Fend_wordCount_o0 := ((((F_wordCount_o0.ext E4).other W7 (Or.inl ne_o0_w5)).other W10 (Or.inl ne_o0_w8)).other W13 (Or.inl ne_o0_w11))
  have Eend_o0 := ((((E_o0.ext E4).wr W7).wr W10).wr W13)
  have Fend_words_o0 := ((((F_words_o0.ext E4).other W7 (Or.inl ne_o0_w5)).other W10 (Or.inl ne_o0_w8)).other W13 (Or.inl ne_o0_w11))
  have Vend_w5 := ((V_w5_7.other W10 ne_w5_w8).other W13 ne_w5_w11)
  have Fend_shifts_o0 := ((((F_shifts_o0.ext E4).other W7 (Or.inl ne_o0_w5)).other W10 (Or.inl ne_o0_w8)).other W13 (Or.inl ne_o0_w11))
  have Vend_w8 := (V_w8_10.other W13 ne_w8_w11)
  have Fend_masks_o0 := ((((F_masks_o0.ext E4).other W7 (Or.inl ne_o0_w5)).other W10 (Or.inl ne_o0_w8)).other W13 (Or.inl ne_o0_w11))
  have Vend_w11 := V_w11_13
  have Zend : n0 ≤ h13.size := (Nat.le_trans (Nat.le_trans (Nat.le_trans (Nat.le_trans Z0 E4.1) (Keep.of_wr W7).1) (Keep.of_wr W10).1) (Keep.of_wr W13).1)
  have Kend := K13
  refine ⟨T13, _, _, X13, e13, N13, Kend, Zend, Eend_o0, Fend_words_o0, Fend_shifts_o0, Fend_masks_o0, Fend_wordCount_o0, Vend_o1, Vend_o2, ⟨_, Vend_w5⟩, ⟨_, Vend_w8⟩, ⟨_, Vend_w11⟩, fun target kt => ?_⟩
  show Steps p.tables e below (T0.setTop (mkF m 47 #[.val (.ref o0), .val (.ref o1), .val (.ref o2), .val (.int i3), .val (.int i4), .val (.int i5), .val (.long j6), .second, .val (.int i8)] [])) _
  refine XS.iload X0.here hx rfl (hb hby d1_47) rfl ?_
  show Steps p.tables e below (T0.setTop (mkF m 49 #[.val (.ref o0), .val (.ref o1), .val (.ref o2), .val (.int i3), .val (.int i4), .val (.int i5), .val (.long j6), .second, .val (.int i8)] [(.int i5)])) _
  refine XS.aloadN X0.here hx rfl (hb hby d1_49) rfl rfl ?_
  show Steps p.tables e below (T0.setTop (mkF m 50 #[.val (.ref o0), .val (.ref o1), .val (.ref o2), .val (.int i3), .val (.int i4), .val (.int i5), .val (.long j6), .second, .val (.int i8)] [(.ref o1), (.int i5)])) _
  refine X0.arraylength hx (by rw [e0]; exact Ar_50.1) (State.isArrayOf_alike hZ.alike Ar_50.2.1) (g := (mkF m 50 #[.val (.ref o0), .val (.ref o1), .val (.ref o2), .val (.int i3), .val (.int i4), .val (.int i5), .val (.long j6), .second, .val (.int i8)] [(.ref o1), (.int i5)])) rfl rfl (hb hby d1_50) _ ?_
  rw [S_50]
  show Steps p.tables e below (T0.setTop (mkF m 51 #[.val (.ref o0), .val (.ref o1), .val (.ref o2), .val (.int i3), .val (.int i4), .val (.int i5), .val (.long j6), .second, .val (.int i8)] [(.int (Int32.ofNat N)), (.int i5)])) _
  refine XS.icmpNo X0.here hx rfl (hb hby d1_51) rfl (tlt hc51).2.1 ?_
  show Steps p.tables e below (T0.setTop (mkF m 54 #[.val (.ref o0), .val (.ref o1), .val (.ref o2), .val (.int i3), .val (.int i4), .val (.int i5), .val (.long j6), .second, .val (.int i8)] [])) _
  refine XS.aloadN X0.here hx rfl (hb hby d1_54) rfl rfl ?_
  show Steps p.tables e below (T0.setTop (mkF m 55 #[.val (.ref o0), .val (.ref o1), .val (.ref o2), .val (.int i3), .val (.int i4), .val (.int i5), .val (.long j6), .second, .val (.int i8)] [(.ref o2)])) _
  refine XS.iload X0.here hx rfl (hb hby d1_55) rfl ?_
  show Steps p.tables e below (T0.setTop (mkF m 57 #[.val (.ref o0), .val (.ref o1), .val (.ref o2), .val (.int i3), .val (.int i4), .val (.int i5), .val (.long j6), .second, .val (.int i8)] [(.int i5), (.ref o2)])) _
  refine X0.iaload hx (j := i5) (v := (.int hi)) (by rw [e0]; exact Ar_57.1) (State.isArrayOf_alike hZ.alike Ar_57.2.1) Ar_57.2.2 hin57 hat57 (g := (mkF m 57 #[.val (.ref o0), .val (.ref o1), .val (.ref o2), .val (.int i3), .val (.int i4), .val (.int i5), .val (.long j6), .second, .val (.int i8)] [(.int i5), (.ref o2)])) rfl rfl (hb hby d1_57) _ ?_
  show Steps p.tables e below (T0.setTop (mkF m 58 #[.val (.ref o0), .val (.ref o1), .val (.ref o2), .val (.int i3), .val (.int i4), .val (.int i5), .val (.long j6), .second, .val (.int i8)] [(.int hi)])) _
  refine XS.i2l X0.here hx rfl (hb hby d1_58) rfl ?_
  show Steps p.tables e below (T0.setTop (mkF m 59 #[.val (.ref o0), .val (.ref o1), .val (.ref o2), .val (.int i3), .val (.int i4), .val (.int i5), .val (.long j6), .second, .val (.int i8)] [(.long (hi.toInt64))])) _
  refine XS.aloadN X0.here hx rfl (hb hby d1_59) rfl rfl ?_
  show Steps p.tables e below (T0.setTop (mkF m 60 #[.val (.ref o0), .val (.ref o1), .val (.ref o2), .val (.int i3), .val (.int i4), .val (.int i5), .val (.long j6), .second, .val (.int i8)] [(.ref o1), (.long (hi.toInt64))])) _
  refine XS.iload X0.here hx rfl (hb hby d1_60) rfl ?_
  show Steps p.tables e below (T0.setTop (mkF m 62 #[.val (.ref o0), .val (.ref o1), .val (.ref o2), .val (.int i3), .val (.int i4), .val (.int i5), .val (.long j6), .second, .val (.int i8)] [(.int i5), (.ref o1), (.long (hi.toInt64))])) _
  refine X0.iaload hx (j := i5) (v := (.int lo)) (by rw [e0]; exact Ar_62.1) (State.isArrayOf_alike hZ.alike Ar_62.2.1) Ar_62.2.2 hin62 hat62 (g := (mkF m 62 #[.val (.ref o0), .val (.ref o1), .val (.ref o2), .val (.int i3), .val (.int i4), .val (.int i5), .val (.long j6), .second, .val (.int i8)] [(.int i5), (.ref o1), (.long (hi.toInt64))])) rfl rfl (hb hby d1_62) _ ?_
  show Steps p.tables e below (T0.setTop (mkF m 63 #[.val (.ref o0), .val (.ref o1), .val (.ref o2), .val (.int i3), .val (.int i4), .val (.int i5), .val (.long j6), .second, .val (.int i8)] [(.int lo), (.long (hi.toInt64))])) _
  refine XS.i2l X0.here hx rfl (hb hby d1_63) rfl ?_
  show Steps p.tables e below (T0.setTop (mkF m 64 #[.val (.ref o0), .val (.ref o1), .val (.ref o2), .val (.int i3), .val (.int i4), .val (.int i5), .val (.long j6), .second, .val (.int i8)] [(.long (lo.toInt64)), (.long (hi.toInt64))])) _
  refine XS.lsub X0.here hx rfl (hb hby d1_64) rfl ?_
  show Steps p.tables e below (T0.setTop (mkF m 65 #[.val (.ref o0), .val (.ref o1), .val (.ref o2), .val (.int i3), .val (.int i4), .val (.int i5), .val (.long j6), .second, .val (.int i8)] [(.long ((hi.toInt64) - (lo.toInt64)))])) _
  refine XS.lstore X0.here hx rfl (hb hby d1_65) rfl (l' := #[.val (.ref o0), .val (.ref o1), .val (.ref o2), .val (.int i3), .val (.int i4), .val (.int i5), .val (.long ((hi.toInt64) - (lo.toInt64))), .second, .val (.int i8)]) rfl ?_
  show Steps p.tables e below (T0.setTop (mkF m 67 #[.val (.ref o0), .val (.ref o1), .val (.ref o2), .val (.int i3), .val (.int i4), .val (.int i5), .val (.long ((hi.toInt64) - (lo.toInt64))), .second, .val (.int i8)] [])) _
  refine XS.bipush X0.here hx rfl (hb hby d1_67) ?_
  show Steps p.tables e below (T0.setTop (mkF m 69 #[.val (.ref o0), .val (.ref o1), .val (.ref o2), .val (.int i3), .val (.int i4), .val (.int i5), .val (.long ((hi.toInt64) - (lo.toInt64))), .second, .val (.int i8)] [(.int (64 : Int32))])) _
  refine XS.lload X0.here hx rfl (hb hby d1_69) rfl ?_
  show Steps p.tables e below (T0.setTop (mkF m 71 #[.val (.ref o0), .val (.ref o1), .val (.ref o2), .val (.int i3), .val (.int i4), .val (.int i5), .val (.long ((hi.toInt64) - (lo.toInt64))), .second, .val (.int i8)] [(.long ((hi.toInt64) - (lo.toInt64))), (.int (64 : Int32))])) _
  refine st4 _ ?_
  show Steps p.tables e below (T4.setTop (mkF m 74 #[.val (.ref o0), .val (.ref o1), .val (.ref o2), .val (.int i3), .val (.int i4), .val (.int i5), .val (.long ((hi.toInt64) - (lo.toInt64))), .second, .val (.int i8)] [(.int zz), (.int (64 : Int32))])) _
  refine XS.isub X4.here hx rfl (hb hby d1_74) rfl ?_
  show Steps p.tables e below (T4.setTop (mkF m 75 #[.val (.ref o0), .val (.ref o1), .val (.ref o2), .val (.int i3), .val (.int i4), .val (.int i5), .val (.long ((hi.toInt64) - (lo.toInt64))), .second, .val (.int i8)] [(.int ((64 : Int32) - zz))])) _
  refine XS.istore X4.here hx rfl (hb hby d1_75) rfl (l' := #[.val (.ref o0), .val (.ref o1), .val (.ref o2), .val (.int i3), .val (.int i4), .val (.int i5), .val (.long ((hi.toInt64) - (lo.toInt64))), .second, .val (.int ((64 : Int32) - zz))]) rfl ?_
  show Steps p.tables e below (T4.setTop (mkF m 77 #[.val (.ref o0), .val (.ref o1), .val (.ref o2), .val (.int i3), .val (.int i4), .val (.int i5), .val (.long ((hi.toInt64) - (lo.toInt64))), .second, .val (.int ((64 : Int32) - zz))] [])) _
  refine XS.iload X4.here hx rfl (hb hby d1_77) rfl ?_
  show Steps p.tables e below (T4.setTop (mkF m 79 #[.val (.ref o0), .val (.ref o1), .val (.ref o2), .val (.int i3), .val (.int i4), .val (.int i5), .val (.long ((hi.toInt64) - (lo.toInt64))), .second, .val (.int ((64 : Int32) - zz))] [(.int i4)])) _
  refine XS.iload X4.here hx rfl (hb hby d1_79) rfl ?_
  show Steps p.tables e below (T4.setTop (mkF m 81 #[.val (.ref o0), .val (.ref o1), .val (.ref o2), .val (.int i3), .val (.int i4), .val (.int i5), .val (.long ((hi.toInt64) - (lo.toInt64))), .second, .val (.int ((64 : Int32) - zz))] [(.int ((64 : Int32) - zz)), (.int i4)])) _
  refine XS.iadd X4.here hx rfl (hb hby d1_81) rfl ?_
  show Steps p.tables e below (T4.setTop (mkF m 82 #[.val (.ref o0), .val (.ref o1), .val (.ref o2), .val (.int i3), .val (.int i4), .val (.int i5), .val (.long ((hi.toInt64) - (lo.toInt64))), .second, .val (.int ((64 : Int32) - zz))] [(.int (i4 + ((64 : Int32) - zz)))])) _
  refine XS.bipush X4.here hx rfl (hb hby d1_82) ?_
  show Steps p.tables e below (T4.setTop (mkF m 84 #[.val (.ref o0), .val (.ref o1), .val (.ref o2), .val (.int i3), .val (.int i4), .val (.int i5), .val (.long ((hi.toInt64) - (lo.toInt64))), .second, .val (.int ((64 : Int32) - zz))] [(.int (64 : Int32)), (.int (i4 + ((64 : Int32) - zz)))])) _
  refine XS.icmpNo X4.here hx rfl (hb hby d1_84) rfl (tlt (hc84 : (64 : Int32) < (i4 + ((64 : Int32) - zz)))).2.2.2 ?_
  show Steps p.tables e below (T4.setTop (mkF m 87 #[.val (.ref o0), .val (.ref o1), .val (.ref o2), .val (.int i3), .val (.int i4), .val (.int i5), .val (.long ((hi.toInt64) - (lo.toInt64))), .second, .val (.int ((64 : Int32) - zz))] [])) _
  refine XS.iinc X4.here hx rfl (hb hby d1_87) rfl (l' := #[.val (.ref o0), .val (.ref o1), .val (.ref o2), .val (.int (i3 + (1 : Int32))), .val (.int i4), .val (.int i5), .val (.long ((hi.toInt64) - (lo.toInt64))), .second, .val (.int ((64 : Int32) - zz))]) rfl ?_
  show Steps p.tables e below (T4.setTop (mkF m 90 #[.val (.ref o0), .val (.ref o1), .val (.ref o2), .val (.int (i3 + (1 : Int32))), .val (.int i4), .val (.int i5), .val (.long ((hi.toInt64) - (lo.toInt64))), .second, .val (.int ((64 : Int32) - zz))] [])) _
  refine XS.iconst X4.here hx rfl (hb hby d1_90) ?_
  show Steps p.tables e below (T4.setTop (mkF m 91 #[.val (.ref o0), .val (.ref o1), .val (.ref o2), .val (.int (i3 + (1 : Int32))), .val (.int i4), .val (.int i5), .val (.long ((hi.toInt64) - (lo.toInt64))), .second, .val (.int ((64 : Int32) - zz))] [(.int (0 : Int32))])) _
  refine XS.istore X4.here hx rfl (hb hby d1_91) rfl (l' := #[.val (.ref o0), .val (.ref o1), .val (.ref o2), .val (.int (i3 + (1 : Int32))), .val (.int (0 : Int32)), .val (.int i5), .val (.long ((hi.toInt64) - (lo.toInt64))), .second, .val (.int ((64 : Int32) - zz))]) rfl ?_
  show Steps p.tables e below (T4.setTop (mkF m 93 #[.val (.ref o0), .val (.ref o1), .val (.ref o2), .val (.int (i3 + (1 : Int32))), .val (.int (0 : Int32)), .val (.int i5), .val (.long ((hi.toInt64) - (lo.toInt64))), .second, .val (.int ((64 : Int32) - zz))] [])) _
  refine XS.aloadN X4.here hx rfl (hb hby d1_93) rfl rfl ?_
  show Steps p.tables e below (T4.setTop (mkF m 94 #[.val (.ref o0), .val (.ref o1), .val (.ref o2), .val (.int (i3 + (1 : Int32))), .val (.int (0 : Int32)), .val (.int i5), .val (.long ((hi.toInt64) - (lo.toInt64))), .second, .val (.int ((64 : Int32) - zz))] [(.ref o0)])) _
  refine st6 _ ?_
  show Steps p.tables e below (T6.setTop (mkF m 97 #[.val (.ref o0), .val (.ref o1), .val (.ref o2), .val (.int (i3 + (1 : Int32))), .val (.int (0 : Int32)), .val (.int i5), .val (.long ((hi.toInt64) - (lo.toInt64))), .second, .val (.int ((64 : Int32) - zz))] [(.ref w5)])) _
  refine XS.iload X6.here hx rfl (hb hby d1_97) rfl ?_
  show Steps p.tables e below (T6.setTop (mkF m 99 #[.val (.ref o0), .val (.ref o1), .val (.ref o2), .val (.int (i3 + (1 : Int32))), .val (.int (0 : Int32)), .val (.int i5), .val (.long ((hi.toInt64) - (lo.toInt64))), .second, .val (.int ((64 : Int32) - zz))] [(.int i5), (.ref w5)])) _
  refine XS.iloadN X6.here hx rfl (hb hby d1_99) rfl ?_
  show Steps p.tables e below (T6.setTop (mkF m 100 #[.val (.ref o0), .val (.ref o1), .val (.ref o2), .val (.int (i3 + (1 : Int32))), .val (.int (0 : Int32)), .val (.int i5), .val (.long ((hi.toInt64) - (lo.toInt64))), .second, .val (.int ((64 : Int32) - zz))] [(.int (i3 + (1 : Int32))), (.int i5), (.ref w5)])) _
  refine st7 _ ?_
  show Steps p.tables e below (T7.setTop (mkF m 101 #[.val (.ref o0), .val (.ref o1), .val (.ref o2), .val (.int (i3 + (1 : Int32))), .val (.int (0 : Int32)), .val (.int i5), .val (.long ((hi.toInt64) - (lo.toInt64))), .second, .val (.int ((64 : Int32) - zz))] [])) _
  refine XS.aloadN X7.here hx rfl (hb hby d1_101) rfl rfl ?_
  show Steps p.tables e below (T7.setTop (mkF m 102 #[.val (.ref o0), .val (.ref o1), .val (.ref o2), .val (.int (i3 + (1 : Int32))), .val (.int (0 : Int32)), .val (.int i5), .val (.long ((hi.toInt64) - (lo.toInt64))), .second, .val (.int ((64 : Int32) - zz))] [(.ref o0)])) _
  refine st9 _ ?_
  show Steps p.tables e below (T9.setTop (mkF m 105 #[.val (.ref o0), .val (.ref o1), .val (.ref o2), .val (.int (i3 + (1 : Int32))), .val (.int (0 : Int32)), .val (.int i5), .val (.long ((hi.toInt64) - (lo.toInt64))), .second, .val (.int ((64 : Int32) - zz))] [(.ref w8)])) _
  refine XS.iload X9.here hx rfl (hb hby d1_105) rfl ?_
  show Steps p.tables e below (T9.setTop (mkF m 107 #[.val (.ref o0), .val (.ref o1), .val (.ref o2), .val (.int (i3 + (1 : Int32))), .val (.int (0 : Int32)), .val (.int i5), .val (.long ((hi.toInt64) - (lo.toInt64))), .second, .val (.int ((64 : Int32) - zz))] [(.int i5), (.ref w8)])) _
  refine XS.iload X9.here hx rfl (hb hby d1_107) rfl ?_
  show Steps p.tables e below (T9.setTop (mkF m 109 #[.val (.ref o0), .val (.ref o1), .val (.ref o2), .val (.int (i3 + (1 : Int32))), .val (.int (0 : Int32)), .val (.int i5), .val (.long ((hi.toInt64) - (lo.toInt64))), .second, .val (.int ((64 : Int32) - zz))] [(.int (0 : Int32)), (.int i5), (.ref w8)])) _
  refine st10 _ ?_
  show Steps p.tables e below (T10.setTop (mkF m 110 #[.val (.ref o0), .val (.ref o1), .val (.ref o2), .val (.int (i3 + (1 : Int32))), .val (.int (0 : Int32)), .val (.int i5), .val (.long ((hi.toInt64) - (lo.toInt64))), .second, .val (.int ((64 : Int32) - zz))] [])) _
  refine XS.aloadN X10.here hx rfl (hb hby d1_110) rfl rfl ?_
  show Steps p.tables e below (T10.setTop (mkF m 111 #[.val (.ref o0), .val (.ref o1), .val (.ref o2), .val (.int (i3 + (1 : Int32))), .val (.int (0 : Int32)), .val (.int i5), .val (.long ((hi.toInt64) - (lo.toInt64))), .second, .val (.int ((64 : Int32) - zz))] [(.ref o0)])) _
  refine st12 _ ?_
  show Steps p.tables e below (T12.setTop (mkF m 114 #[.val (.ref o0), .val (.ref o1), .val (.ref o2), .val (.int (i3 + (1 : Int32))), .val (.int (0 : Int32)), .val (.int i5), .val (.long ((hi.toInt64) - (lo.toInt64))), .second, .val (.int ((64 : Int32) - zz))] [(.ref w11)])) _
  refine XS.iload X12.here hx rfl (hb hby d1_114) rfl ?_
  show Steps p.tables e below (T12.setTop (mkF m 116 #[.val (.ref o0), .val (.ref o1), .val (.ref o2), .val (.int (i3 + (1 : Int32))), .val (.int (0 : Int32)), .val (.int i5), .val (.long ((hi.toInt64) - (lo.toInt64))), .second, .val (.int ((64 : Int32) - zz))] [(.int i5), (.ref w11)])) _
  refine XS.lconst X12.here hx rfl (hb hby d1_116) ?_
  show Steps p.tables e below (T12.setTop (mkF m 117 #[.val (.ref o0), .val (.ref o1), .val (.ref o2), .val (.int (i3 + (1 : Int32))), .val (.int (0 : Int32)), .val (.int i5), .val (.long ((hi.toInt64) - (lo.toInt64))), .second, .val (.int ((64 : Int32) - zz))] [(.long (1 : Int64)), (.int i5), (.ref w11)])) _
  refine XS.iload X12.here hx rfl (hb hby d1_117) rfl ?_
  show Steps p.tables e below (T12.setTop (mkF m 119 #[.val (.ref o0), .val (.ref o1), .val (.ref o2), .val (.int (i3 + (1 : Int32))), .val (.int (0 : Int32)), .val (.int i5), .val (.long ((hi.toInt64) - (lo.toInt64))), .second, .val (.int ((64 : Int32) - zz))] [(.int ((64 : Int32) - zz)), (.long (1 : Int64)), (.int i5), (.ref w11)])) _
  refine XS.lshl X12.here hx rfl (hb hby d1_119) rfl ?_
  show Steps p.tables e below (T12.setTop (mkF m 120 #[.val (.ref o0), .val (.ref o1), .val (.ref o2), .val (.int (i3 + (1 : Int32))), .val (.int (0 : Int32)), .val (.int i5), .val (.long ((hi.toInt64) - (lo.toInt64))), .second, .val (.int ((64 : Int32) - zz))] [(.long ((1 : Int64) <<< (((64 : Int32) - zz) &&& 0x3f).toInt64)), (.int i5), (.ref w11)])) _
  refine XS.lconst X12.here hx rfl (hb hby d1_120) ?_
  show Steps p.tables e below (T12.setTop (mkF m 121 #[.val (.ref o0), .val (.ref o1), .val (.ref o2), .val (.int (i3 + (1 : Int32))), .val (.int (0 : Int32)), .val (.int i5), .val (.long ((hi.toInt64) - (lo.toInt64))), .second, .val (.int ((64 : Int32) - zz))] [(.long (1 : Int64)), (.long ((1 : Int64) <<< (((64 : Int32) - zz) &&& 0x3f).toInt64)), (.int i5), (.ref w11)])) _
  refine XS.lsub X12.here hx rfl (hb hby d1_121) rfl ?_
  show Steps p.tables e below (T12.setTop (mkF m 122 #[.val (.ref o0), .val (.ref o1), .val (.ref o2), .val (.int (i3 + (1 : Int32))), .val (.int (0 : Int32)), .val (.int i5), .val (.long ((hi.toInt64) - (lo.toInt64))), .second, .val (.int ((64 : Int32) - zz))] [(.long (((1 : Int64) <<< (((64 : Int32) - zz) &&& 0x3f).toInt64) - (1 : Int64))), (.int i5), (.ref w11)])) _
  refine st13 _ ?_
  show Steps p.tables e below (T13.setTop (mkF m 123 #[.val (.ref o0), .val (.ref o1), .val (.ref o2), .val (.int (i3 + (1 : Int32))), .val (.int (0 : Int32)), .val (.int i5), .val (.long ((hi.toInt64) - (lo.toInt64))), .second, .val (.int ((64 : Int32) - zz))] [])) _
  refine XS.iload X13.here hx rfl (hb hby d1_123) rfl ?_
  show Steps p.tables e below (T13.setTop (mkF m 125 #[.val (.ref o0), .val (.ref o1), .val (.ref o2), .val (.int (i3 + (1 : Int32))), .val (.int (0 : Int32)), .val (.int i5), .val (.long ((hi.toInt64) - (lo.toInt64))), .second, .val (.int ((64 : Int32) - zz))] [(.int (0 : Int32))])) _
  refine XS.iload X13.here hx rfl (hb hby d1_125) rfl ?_
  show Steps p.tables e below (T13.setTop (mkF m 127 #[.val (.ref o0), .val (.ref o1), .val (.ref o2), .val (.int (i3 + (1 : Int32))), .val (.int (0 : Int32)), .val (.int i5), .val (.long ((hi.toInt64) - (lo.toInt64))), .second, .val (.int ((64 : Int32) - zz))] [(.int ((64 : Int32) - zz)), (.int (0 : Int32))])) _
  refine XS.iadd X13.here hx rfl (hb hby d1_127) rfl ?_
  show Steps p.tables e below (T13.setTop (mkF m 128 #[.val (.ref o0), .val (.ref o1), .val (.ref o2), .val (.int (i3 + (1 : Int32))), .val (.int (0 : Int32)), .val (.int i5), .val (.long ((hi.toInt64) - (lo.toInt64))), .second, .val (.int ((64 : Int32) - zz))] [(.int ((0 : Int32) + ((64 : Int32) - zz)))])) _
  refine XS.istore X13.here hx rfl (hb hby d1_128) rfl (l' := #[.val (.ref o0), .val (.ref o1), .val (.ref o2), .val (.int (i3 + (1 : Int32))), .val (.int ((0 : Int32) + ((64 : Int32) - zz))), .val (.int i5), .val (.long ((hi.toInt64) - (lo.toInt64))), .second, .val (.int ((64 : Int32) - zz))]) rfl ?_
  show Steps p.tables e below (T13.setTop (mkF m 130 #[.val (.ref o0), .val (.ref o1), .val (.ref o2), .val (.int (i3 + (1 : Int32))), .val (.int ((0 : Int32) + ((64 : Int32) - zz))), .val (.int i5), .val (.long ((hi.toInt64) - (lo.toInt64))), .second, .val (.int ((64 : Int32) - zz))] [])) _
  refine XS.iinc X13.here hx rfl (hb hby d1_130) rfl (l' := #[.val (.ref o0), .val (.ref o1), .val (.ref o2), .val (.int (i3 + (1 : Int32))), .val (.int ((0 : Int32) + ((64 : Int32) - zz))), .val (.int (i5 + (1 : Int32))), .val (.long ((hi.toInt64) - (lo.toInt64))), .second, .val (.int ((64 : Int32) - zz))]) rfl ?_
  show Steps p.tables e below (T13.setTop (mkF m 133 #[.val (.ref o0), .val (.ref o1), .val (.ref o2), .val (.int (i3 + (1 : Int32))), .val (.int ((0 : Int32) + ((64 : Int32) - zz))), .val (.int (i5 + (1 : Int32))), .val (.long ((hi.toInt64) - (lo.toInt64))), .second, .val (.int ((64 : Int32) - zz))] [])) _
  refine XS.goto X13.here hx rfl (pc0 := 133) (pc' := 47) rfl (hb hby d1_133) (by decide) (by decide) ?_
  exact kt
theorem layA {p : Program} {l : Launch} {e : Env} {s : State} {m : MethodId} {args : Array Value} {below : List Frame} {meth : Method} {c : Code} {cells slots : Nat} {Z : State} {a0 : Array Value} {T0 : State} {h0 : Heap} {locs : List Loc} (o0 o1 o2 : Addr) (i3 i4 i5 : Int32) (w s' m' : Addr) (n0 k N i : Nat) (lo hi zz : Int32) (X0 : Stand p l e own_R1 s m args below meth c T0 locs cells slots) (hx : p.tables.exec = Jvm.exec) (hZ : Z.Warmed39 s.vm) (hw : ∀ d ∈ tables_1, d.before a0 Z = true) (hby : c.code = prog_77_method_1_code) (hml : c.maxLocals = 9) (hown : s.vm.findClass "com/example/tight_bounds/tightbounds/model/StateLayout" = some m.cls) (e0 : T0.heap = h0) (Z0 : n0 ≤ h0.size) (N0 : Fr n0 locs) (hcl : cells ≤ own_R1.cells) (hsl : slots ≤ own_R1.slots) (ix : own_ix i5 i) (hiN : i < N) (hN : N < 1000) (h64 : ¬ ((64 : Int32) < (i4 + ((64 : Int32) - zz)))) (hz : own_nz ((hi.toInt64) - (lo.toInt64)) zz) (hn : n0 ≤ k) (LAY : own_lay Z h0 k o0 o1 o2 w s' m' N lo hi) :
    ∃ (T' : State) (h' : Heap) (locs' : List Loc), Stand p l e own_R1 s m args below meth c T' locs' cells slots ∧ T'.heap = h' ∧ Fr n0 locs' ∧ Keep h0 h' [w, s', m'] ∧ n0 ≤ h'.size ∧ own_lay Z h' k o0 o1 o2 w s' m' N lo hi ∧ ∀ target, Steps p.tables e below (T'.setTop (mkF m 47 #[.val (.ref o0), .val (.ref o1), .val (.ref o2), .val (.int (own_tn ((64 : Int32) - zz) (i3, i4)).1), .val (.int (own_tn ((64 : Int32) - zz) (i3, i4)).2), .val (.int (i5 + (1 : Int32))), .val (.long ((hi.toInt64) - (lo.toInt64))), .second, .val (.int ((64 : Int32) - zz))] [])) target → Steps p.tables e below (T0.setTop (mkF m 47 #[.val (.ref o0), .val (.ref o1), .val (.ref o2), .val (.int i3), .val (.int i4), .val (.int i5), .unset, .unset, .unset] [])) target := by
  obtain ⟨k1, k2, k3, E0, F1, F2, F3, F4, A1, A2, ⟨fw, Aw⟩, ⟨fs, As⟩, ⟨fm, Am⟩, q0w, q0s, q0m, q1w, q1s, q1m, q2w, q2s, q2m, qws, qwm, qsm⟩ := LAY
  have hc51 : i5 < Int32.ofNat N := (own_ixlt ix (own_ixc (by omega))).mpr hiN
  have hc84 : ¬ ((64 : Int32) < (i4 + ((64 : Int32) - zz))) := h64
  rw [show own_tn ((64 : Int32) - zz) (i3, i4) = (i3, i4 + ((64 : Int32) - zz)) from if_neg hc84]
  obtain ⟨T1, h1, L1, X1, e1, N1, K1, Z1, e0', f1', f2', f3', f4', a1', a2', aw', as', am', st1⟩ := tuA o0 o1 o2 i3 i4 i5 n0 N i lo hi zz (fun _ => .int lo) (fun _ => .int hi) w fw s' fs m' fm X0 hx hZ hw hby hml hown e0 Z0 N0 hcl hsl ix hiN rfl rfl hz q0w q0s q0m q1w q1s q1m q2w q2s q2m qws qwm qsm hc84 A1 A2 F4 E0 F1 Aw (Nat.le_trans hn k1) F2 As (Nat.le_trans hn k2) F3 Am (Nat.le_trans hn k3) hc51
  exact ⟨T1, h1, L1, X1, e1, N1, K1, Z1, ⟨k1, k2, k3, e0', f1', f2', f3', f4', a1', a2', aw', as', am', q0w, q0s, q0m, q1w, q1s, q1m, q2w, q2s, q2m, qws, qwm, qsm⟩, st1⟩
theorem layN {p : Program} {l : Launch} {e : Env} {s : State} {m : MethodId} {args : Array Value} {below : List Frame} {meth : Method} {c : Code} {cells slots : Nat} {Z : State} {a0 : Array Value} {T0 : State} {h0 : Heap} {locs : List Loc} (o0 o1 o2 : Addr) (i3 i4 i5 : Int32) (j6 : Int64) (i8 : Int32) (w s' m' : Addr) (n0 k N i : Nat) (lo hi zz : Int32) (X0 : Stand p l e own_R1 s m args below meth c T0 locs cells slots) (hx : p.tables.exec = Jvm.exec) (hZ : Z.Warmed39 s.vm) (hw : ∀ d ∈ tables_1, d.before a0 Z = true) (hby : c.code = prog_77_method_1_code) (hml : c.maxLocals = 9) (hown : s.vm.findClass "com/example/tight_bounds/tightbounds/model/StateLayout" = some m.cls) (e0 : T0.heap = h0) (Z0 : n0 ≤ h0.size) (N0 : Fr n0 locs) (hcl : cells ≤ own_R1.cells) (hsl : slots ≤ own_R1.slots) (ix : own_ix i5 i) (hiN : i < N) (hN : N < 1000) (hz : own_nz ((hi.toInt64) - (lo.toInt64)) zz) (hn : n0 ≤ k) (LAY : own_lay Z h0 k o0 o1 o2 w s' m' N lo hi) :
    ∃ (T' : State) (h' : Heap) (locs' : List Loc), Stand p l e own_R1 s m args below meth c T' locs' cells slots ∧ T'.heap = h' ∧ Fr n0 locs' ∧ Keep h0 h' [w, s', m'] ∧ n0 ≤ h'.size ∧ own_lay Z h' k o0 o1 o2 w s' m' N lo hi ∧ ∀ target, Steps p.tables e below (T'.setTop (mkF m 47 #[.val (.ref o0), .val (.ref o1), .val (.ref o2), .val (.int (own_tn ((64 : Int32) - zz) (i3, i4)).1), .val (.int (own_tn ((64 : Int32) - zz) (i3, i4)).2), .val (.int (i5 + (1 : Int32))), .val (.long ((hi.toInt64) - (lo.toInt64))), .second, .val (.int ((64 : Int32) - zz))] [])) target → Steps p.tables e below (T0.setTop (mkF m 47 #[.val (.ref o0), .val (.ref o1), .val (.ref o2), .val (.int i3), .val (.int i4), .val (.int i5), .val (.long j6), .second, .val (.int i8)] [])) target := by
  obtain ⟨k1, k2, k3, E0, F1, F2, F3, F4, A1, A2, ⟨fw, Aw⟩, ⟨fs, As⟩, ⟨fm, Am⟩, q0w, q0s, q0m, q1w, q1s, q1m, q2w, q2s, q2m, qws, qwm, qsm⟩ := LAY
  have hc51 : i5 < Int32.ofNat N := (own_ixlt ix (own_ixc (by omega))).mpr hiN
  by_cases hc84 : (64 : Int32) < (i4 + ((64 : Int32) - zz))
  · rw [show own_tn ((64 : Int32) - zz) (i3, i4) = (i3 + 1, 0 + ((64 : Int32) - zz)) from if_pos hc84]
    obtain ⟨T1, h1, L1, X1, e1, N1, K1, Z1, e0', f1', f2', f3', f4', a1', a2', aw', as', am', st1⟩ := tuO o0 o1 o2 i3 i4 i5 j6 i8 n0 N i lo hi zz (fun _ => .int lo) (fun _ => .int hi) w fw s' fs m' fm X0 hx hZ hw hby hml hown e0 Z0 N0 hcl hsl ix hiN rfl rfl hz q0w q0s q0m q1w q1s q1m q2w q2s q2m qws qwm qsm hc84 A1 A2 F4 E0 F1 Aw (Nat.le_trans hn k1) F2 As (Nat.le_trans hn k2) F3 Am (Nat.le_trans hn k3) hc51
    exact ⟨T1, h1, L1, X1, e1, N1, K1, Z1, ⟨k1, k2, k3, e0', f1', f2', f3', f4', a1', a2', aw', as', am', q0w, q0s, q0m, q1w, q1s, q1m, q2w, q2s, q2m, qws, qwm, qsm⟩, st1⟩
  · rw [show own_tn ((64 : Int32) - zz) (i3, i4) = (i3, i4 + ((64 : Int32) - zz)) from if_neg hc84]
    obtain ⟨T1, h1, L1, X1, e1, N1, K1, Z1, e0', f1', f2', f3', f4', a1', a2', aw', as', am', st1⟩ := tuN o0 o1 o2 i3 i4 i5 j6 i8 n0 N i lo hi zz (fun _ => .int lo) (fun _ => .int hi) w fw s' fs m' fm X0 hx hZ hw hby hml hown e0 Z0 N0 hcl hsl ix hiN rfl rfl hz q0w q0s q0m q1w q1s q1m q2w q2s q2m qws qwm qsm hc84 A1 A2 F4 E0 F1 Aw (Nat.le_trans hn k1) F2 As (Nat.le_trans hn k2) F3 Am (Nat.le_trans hn k3) hc51
    exact ⟨T1, h1, L1, X1, e1, N1, K1, Z1, ⟨k1, k2, k3, e0', f1', f2', f3', f4', a1', a2', aw', as', am', q0w, q0s, q0m, q1w, q1s, q1m, q2w, q2s, q2m, qws, qwm, qsm⟩, st1⟩
set_option maxRecDepth 65536 in
set_option maxHeartbeats 40000000 in
theorem tn1_47_136 {p : Program} {l : Launch} {e : Env} {R : Room} {s : State} {m : MethodId} {args : Array Value} {below : List Frame} {meth : Method} {c : Code} {T0 : State} {locs : List Loc} {cells slots : Nat} {Z : State} {a0 : Array Value} {h0 : Heap} (s0 : Slot) (o1 : Addr) (s2 : Slot) (s3 : Slot) (s4 : Slot) (i5 : Int32) (s6 : Slot) (s7 : Slot) (s8 : Slot) (N : Nat) (f_o1 : Nat → Value)
    (X0 : Stand p l e R s m args below meth c T0 locs cells slots) (hx : p.tables.exec = Jvm.exec) (hZ : Z.Warmed39 s.vm) (hw : ∀ d ∈ tables_1, d.before a0 Z = true) (hby : c.code = prog_77_method_1_code) (hml : c.maxLocals = 9) (hown : s.vm.findClass "com/example/tight_bounds/tightbounds/model/StateLayout" = some m.cls) (e0 : T0.heap = h0) (V_o1 : Ary Z h0 o1 .int N f_o1) (hc51 : ¬ (i5 < (Int32.ofNat N))) :
    ∃ (T' : State), Stand p l e R s m args below meth c T' locs cells slots ∧ T'.heap = h0 ∧
      ∀ target, Steps p.tables e below (T'.setTop (mkF m 136 #[s0, .val (.ref o1), s2, s3, s4, .val (.int i5), s6, s7, s8] [])) target → Steps p.tables e below (T0.setTop (mkF m 47 #[s0, .val (.ref o1), s2, s3, s4, .val (.int i5), s6, s7, s8] [])) target := by
  obtain ⟨cl_50, Ar_50, S_50, H_50⟩ := id V_o1
  refine ⟨T0, X0, e0, fun target kt => ?_⟩
  show Steps p.tables e below (T0.setTop (mkF m 47 #[s0, .val (.ref o1), s2, s3, s4, .val (.int i5), s6, s7, s8] [])) _
  refine XS.iload X0.here hx rfl (hb hby d1_47) rfl ?_
  show Steps p.tables e below (T0.setTop (mkF m 49 #[s0, .val (.ref o1), s2, s3, s4, .val (.int i5), s6, s7, s8] [(.int i5)])) _
  refine XS.aloadN X0.here hx rfl (hb hby d1_49) rfl rfl ?_
  show Steps p.tables e below (T0.setTop (mkF m 50 #[s0, .val (.ref o1), s2, s3, s4, .val (.int i5), s6, s7, s8] [(.ref o1), (.int i5)])) _
  refine X0.arraylength hx (by rw [e0]; exact Ar_50.1) (State.isArrayOf_alike hZ.alike Ar_50.2.1) (g := (mkF m 50 #[s0, .val (.ref o1), s2, s3, s4, .val (.int i5), s6, s7, s8] [(.ref o1), (.int i5)])) rfl rfl (hb hby d1_50) _ ?_
  rw [S_50]
  show Steps p.tables e below (T0.setTop (mkF m 51 #[s0, .val (.ref o1), s2, s3, s4, .val (.int i5), s6, s7, s8] [(.int (Int32.ofNat N)), (.int i5)])) _
  refine XS.icmpYes X0.here hx rfl (pc0 := 51) (pc' := 136) rfl (hb hby d1_51) rfl (flt hc51).2.1 (by decide) (by decide) ?_
  exact kt
theorem loop1 {p : Program} {l : Launch} {e : Env} {s : State} {m : MethodId} {args : Array Value} {below : List Frame} {meth : Method} {c : Code} {cells slots : Nat} {Z : State} {a0 : Array Value} (o0 o1 o2 : Addr) (w s' m' : Addr) (n0 k0 N : Nat) (lo hi zz : Int32) (hx : p.tables.exec = Jvm.exec) (hZ : Z.Warmed39 s.vm) (hw : ∀ d ∈ tables_1, d.before a0 Z = true) (hby : c.code = prog_77_method_1_code) (hml : c.maxLocals = 9) (hown : s.vm.findClass "com/example/tight_bounds/tightbounds/model/StateLayout" = some m.cls) (hcl : cells ≤ own_R1.cells) (hsl : slots ≤ own_R1.slots) (hN : N < 1000) (hz : own_nz ((hi.toInt64) - (lo.toInt64)) zz) (hn : n0 ≤ k0) :
    ∀ (k i : Nat) (i3 i4 i5 : Int32) (j6 : Int64) (i8 : Int32) (T0 : State) (h0 : Heap) (locs : List Loc), i + k = N → own_ix i5 i → Stand p l e own_R1 s m args below meth c T0 locs cells slots → T0.heap = h0 → n0 ≤ h0.size → Fr n0 locs → own_lay Z h0 k0 o0 o1 o2 w s' m' N lo hi →
    ∃ (T' : State) (h' : Heap) (locs' : List Loc) (i4' i5' : Int32) (j6' : Int64) (i8' : Int32), Stand p l e own_R1 s m args below meth c T' locs' cells slots ∧ T'.heap = h' ∧ Fr n0 locs' ∧ Keep h0 h' [w, s', m'] ∧ n0 ≤ h'.size ∧ own_lay Z h' k0 o0 o1 o2 w s' m' N lo hi ∧ ∀ target, Steps p.tables e below (T'.setTop (mkF m 136 #[.val (.ref o0), .val (.ref o1), .val (.ref o2), .val (.int (own_it ((64 : Int32) - zz) k (i3, i4)).1), .val (.int i4'), .val (.int i5'), .val (.long j6'), .second, .val (.int i8')] [])) target → Steps p.tables e below (T0.setTop (mkF m 47 #[.val (.ref o0), .val (.ref o1), .val (.ref o2), .val (.int i3), .val (.int i4), .val (.int i5), .val (.long j6), .second, .val (.int i8)] [])) target := by
  intro k
  induction k with
  | zero =>
    intro i i3 i4 i5 j6 i8 T0 h0 locs hk ix X0 e0 Z0 N0 LAY
    have hc : ¬ (i5 < Int32.ofNat N) := fun q => by have := (own_ixlt ix (own_ixc (by omega))).mp q; omega
    obtain ⟨T1, X1, e1, st1⟩ := tn1_47_136 (.val (.ref o0)) o1 (.val (.ref o2)) (.val (.int i3)) (.val (.int i4)) i5 (.val (.long j6)) .second (.val (.int i8)) N (fun _ => .int lo) X0 hx hZ hw hby hml hown e0 LAY.2.2.2.2.2.2.2.2.1 hc
    exact ⟨T1, h0, locs, i4, i5, j6, i8, X1, e1, N0, Keep.refl _ _, Z0, LAY, st1⟩
  | succ k ih =>
    intro i i3 i4 i5 j6 i8 T0 h0 locs hk ix X0 e0 Z0 N0 LAY
    obtain ⟨T1, h1, L1, X1, e1, N1, K1, Z1, LAY1, st1⟩ := layN o0 o1 o2 i3 i4 i5 j6 i8 w s' m' n0 k0 N i lo hi zz X0 hx hZ hw hby hml hown e0 Z0 N0 hcl hsl ix (by omega) hN hz hn LAY
    obtain ⟨T2, h2, L2, i4', i5', j6', i8', X2, e2, N2, K2, Z2, LAY2, st2⟩ := ih (i + 1) _ _ _ _ _ T1 h1 L1 (by omega) (own_ixa ix (show own_ix (1 : Int32) 1 from rfl) (by omega)) X1 e1 Z1 N1 LAY1
    exact ⟨T2, h2, L2, i4', i5', j6', i8', X2, e2, N2, K1.trans K2 (fun x hx => Or.inl hx), Z2, LAY2, fun target kt => st1 target (st2 target kt)⟩
theorem d1_136 : decode prog_77_method_1_code 136 = .ok (.aload_n 0, 1) := by decide +kernel
theorem d1_137 : decode prog_77_method_1_code 137 = .ok (.aload_n 1, 1) := by decide +kernel
theorem d1_138 : decode prog_77_method_1_code 138 = .ok (.arraylength, 1) := by decide +kernel
theorem d1_139 : decode prog_77_method_1_code 139 = .ok (.ifCond .ne 7, 3) := by decide +kernel
theorem d1_142 : decode prog_77_method_1_code 142 = .ok (.iconst 0, 1) := by decide +kernel
theorem d1_143 : decode prog_77_method_1_code 143 = .ok (.goto 6, 3) := by decide +kernel
theorem d1_149 : decode prog_77_method_1_code 149 = .ok (.putfield 34, 3) := by decide +kernel
set_option maxRecDepth 65536 in
set_option maxHeartbeats 40000000 in
theorem fi0 {p : Program} {l : Launch} {e : Env} {s : State} {m : MethodId} {args : Array Value} {below : List Frame} {meth : Method} {c : Code} {T0 : State} {locs : List Loc} {cells slots : Nat} {Z : State} {a0 : Array Value} {h0 : Heap} (o0 : Addr) (o1 : Addr) (s2 : Slot) (s3 : Slot) (s4 : Slot) (s5 : Slot) (s6 : Slot) (s7 : Slot) (s8 : Slot) (n0 : Nat) (N : Nat) (f_o1 : Nat → Value)
    (X0 : Stand p l e own_R1 s m args below meth c T0 locs cells slots) (hx : p.tables.exec = Jvm.exec) (hZ : Z.Warmed39 s.vm) (hw : ∀ d ∈ tables_1, d.before a0 Z = true) (hby : c.code = prog_77_method_1_code) (hml : c.maxLocals = 9) (hown : s.vm.findClass "com/example/tight_bounds/tightbounds/model/StateLayout" = some m.cls) (e0 : T0.heap = h0) (Z0 : n0 ≤ h0.size) (N0 : Fr n0 locs) (hnm : meth.name = "<init>") (ne_o1_o0 : o1 ≠ o0) (V_o1 : Ary Z h0 o1 .int N f_o1) (F_wordCount_o0 : Fld Z h0 o0 "com/example/tight_bounds/tightbounds/model/StateLayout" "wordCount" "I" (.int (0 : Int32))) (E_o0 : Exa Z h0 o0 "com/example/tight_bounds/tightbounds/model/StateLayout") (g_o0 : n0 ≤ o0) (hc139 : (Int32.ofNat N) = (0 : Int32)) :
    ∃ (T' : State) (h' : Heap) (locs' : List Loc), Stand p l e own_R1 s m args below meth c T' locs' cells slots ∧ T'.heap = h' ∧ Fr n0 locs' ∧ Keep h0 h' [o0] ∧ Exa Z h' o0 "com/example/tight_bounds/tightbounds/model/StateLayout" ∧ Fld Z h' o0 "com/example/tight_bounds/tightbounds/model/StateLayout" "wordCount" "I" (.int (0 : Int32)) ∧
      ∀ target, Steps p.tables e below (T'.setTop (mkF m 152 #[.val (.ref o0), .val (.ref o1), s2, s3, s4, s5, s6, s7, s8] [])) target → Steps p.tables e below (T0.setTop (mkF m 136 #[.val (.ref o0), .val (.ref o1), s2, s3, s4, s5, s6, s7, s8] [])) target := by
  obtain ⟨cl_138, Ar_138, S_138, H_138⟩ := id V_o1
  obtain ⟨T4, h4, X4, e4, W4, st4⟩ := putF X0 hx hZ hown (host := "") (Or.inl (hw _ (List.mem_of_getElem? (i := 31) rfl))) Via.refl e0 F_wordCount_o0 E_o0 (Or.inr ⟨(hw _ (List.mem_of_getElem? (i := 32) rfl)), rfl, hnm⟩) (hw _ (List.mem_of_getElem? (i := 6) rfl)) (ty := .int) (by decide) rfl rfl (g := (mkF m 149 #[.val (.ref o0), .val (.ref o1), s2, s3, s4, s5, s6, s7, s8] [(.int (0 : Int32)), (.ref o0)])) rfl rfl (hb hby d1_149)
  have Fw4 := F_wordCount_o0.same W4
  have K4 : Keep h0 h4 [o0] := (Keep.refl h0 [o0]).wr W4 (Or.inl (List.mem_of_getElem? (i := 0) rfl))
  have N4 := Fr.snoc X4 N0 g_o0
  have Vend_o1 := (V_o1.other W4 ne_o1_o0)
  have Fend_wordCount_o0 := Fw4
  have Eend_o0 := (E_o0.wr W4)
  have Zend : n0 ≤ h4.size := (Nat.le_trans Z0 (Keep.of_wr W4).1)
  have Kend := K4
  refine ⟨T4, _, _, X4, e4, N4, Kend, Eend_o0, Fend_wordCount_o0, fun target kt => ?_⟩
  show Steps p.tables e below (T0.setTop (mkF m 136 #[.val (.ref o0), .val (.ref o1), s2, s3, s4, s5, s6, s7, s8] [])) _
  refine XS.aloadN X0.here hx rfl (hb hby d1_136) rfl rfl ?_
  show Steps p.tables e below (T0.setTop (mkF m 137 #[.val (.ref o0), .val (.ref o1), s2, s3, s4, s5, s6, s7, s8] [(.ref o0)])) _
  refine XS.aloadN X0.here hx rfl (hb hby d1_137) rfl rfl ?_
  show Steps p.tables e below (T0.setTop (mkF m 138 #[.val (.ref o0), .val (.ref o1), s2, s3, s4, s5, s6, s7, s8] [(.ref o1), (.ref o0)])) _
  refine X0.arraylength hx (by rw [e0]; exact Ar_138.1) (State.isArrayOf_alike hZ.alike Ar_138.2.1) (g := (mkF m 138 #[.val (.ref o0), .val (.ref o1), s2, s3, s4, s5, s6, s7, s8] [(.ref o1), (.ref o0)])) rfl rfl (hb hby d1_138) _ ?_
  rw [S_138]
  show Steps p.tables e below (T0.setTop (mkF m 139 #[.val (.ref o0), .val (.ref o1), s2, s3, s4, s5, s6, s7, s8] [(.int (Int32.ofNat N)), (.ref o0)])) _
  refine XS.ifNo X0.here hx rfl (hb hby d1_139) rfl ((if0 _ _).trans (teq hc139).2) ?_
  show Steps p.tables e below (T0.setTop (mkF m 142 #[.val (.ref o0), .val (.ref o1), s2, s3, s4, s5, s6, s7, s8] [(.ref o0)])) _
  refine XS.iconst X0.here hx rfl (hb hby d1_142) ?_
  show Steps p.tables e below (T0.setTop (mkF m 143 #[.val (.ref o0), .val (.ref o1), s2, s3, s4, s5, s6, s7, s8] [(.int (0 : Int32)), (.ref o0)])) _
  refine XS.goto X0.here hx rfl (pc0 := 143) (pc' := 149) rfl (hb hby d1_143) (by decide) (by decide) ?_
  show Steps p.tables e below (T0.setTop (mkF m 149 #[.val (.ref o0), .val (.ref o1), s2, s3, s4, s5, s6, s7, s8] [(.int (0 : Int32)), (.ref o0)])) _
  refine st4 _ ?_
  exact kt
theorem d1_146 : decode prog_77_method_1_code 146 = .ok (.iload_n 3, 1) := by decide +kernel
theorem d1_147 : decode prog_77_method_1_code 147 = .ok (.iconst 1, 1) := by decide +kernel
theorem d1_148 : decode prog_77_method_1_code 148 = .ok (.iadd, 1) := by decide +kernel
set_option maxRecDepth 65536 in
set_option maxHeartbeats 40000000 in
theorem fi1 {p : Program} {l : Launch} {e : Env} {s : State} {m : MethodId} {args : Array Value} {below : List Frame} {meth : Method} {c : Code} {T0 : State} {locs : List Loc} {cells slots : Nat} {Z : State} {a0 : Array Value} {h0 : Heap} (o0 : Addr) (o1 : Addr) (s2 : Slot) (i3 : Int32) (s4 : Slot) (s5 : Slot) (s6 : Slot) (s7 : Slot) (s8 : Slot) (n0 : Nat) (N : Nat) (f_o1 : Nat → Value)
    (X0 : Stand p l e own_R1 s m args below meth c T0 locs cells slots) (hx : p.tables.exec = Jvm.exec) (hZ : Z.Warmed39 s.vm) (hw : ∀ d ∈ tables_1, d.before a0 Z = true) (hby : c.code = prog_77_method_1_code) (hml : c.maxLocals = 9) (hown : s.vm.findClass "com/example/tight_bounds/tightbounds/model/StateLayout" = some m.cls) (e0 : T0.heap = h0) (Z0 : n0 ≤ h0.size) (N0 : Fr n0 locs) (hnm : meth.name = "<init>") (ne_o1_o0 : o1 ≠ o0) (V_o1 : Ary Z h0 o1 .int N f_o1) (F_wordCount_o0 : Fld Z h0 o0 "com/example/tight_bounds/tightbounds/model/StateLayout" "wordCount" "I" (.int (0 : Int32))) (E_o0 : Exa Z h0 o0 "com/example/tight_bounds/tightbounds/model/StateLayout") (g_o0 : n0 ≤ o0) (hc139 : ¬ ((Int32.ofNat N) = (0 : Int32))) :
    ∃ (T' : State) (h' : Heap) (locs' : List Loc), Stand p l e own_R1 s m args below meth c T' locs' cells slots ∧ T'.heap = h' ∧ Fr n0 locs' ∧ Keep h0 h' [o0] ∧ Exa Z h' o0 "com/example/tight_bounds/tightbounds/model/StateLayout" ∧ Fld Z h' o0 "com/example/tight_bounds/tightbounds/model/StateLayout" "wordCount" "I" (.int (i3 + (1 : Int32))) ∧
      ∀ target, Steps p.tables e below (T'.setTop (mkF m 152 #[.val (.ref o0), .val (.ref o1), s2, .val (.int i3), s4, s5, s6, s7, s8] [])) target → Steps p.tables e below (T0.setTop (mkF m 136 #[.val (.ref o0), .val (.ref o1), s2, .val (.int i3), s4, s5, s6, s7, s8] [])) target := by
  obtain ⟨cl_138, Ar_138, S_138, H_138⟩ := id V_o1
  obtain ⟨T4, h4, X4, e4, W4, st4⟩ := putF X0 hx hZ hown (host := "") (Or.inl (hw _ (List.mem_of_getElem? (i := 31) rfl))) Via.refl e0 F_wordCount_o0 E_o0 (Or.inr ⟨(hw _ (List.mem_of_getElem? (i := 32) rfl)), rfl, hnm⟩) (hw _ (List.mem_of_getElem? (i := 6) rfl)) (ty := .int) (by decide) rfl rfl (g := (mkF m 149 #[.val (.ref o0), .val (.ref o1), s2, .val (.int i3), s4, s5, s6, s7, s8] [(.int (i3 + (1 : Int32))), (.ref o0)])) rfl rfl (hb hby d1_149)
  have Fw4 := F_wordCount_o0.same W4
  have K4 : Keep h0 h4 [o0] := (Keep.refl h0 [o0]).wr W4 (Or.inl (List.mem_of_getElem? (i := 0) rfl))
  have N4 := Fr.snoc X4 N0 g_o0
  have Vend_o1 := (V_o1.other W4 ne_o1_o0)
  have Fend_wordCount_o0 := Fw4
  have Eend_o0 := (E_o0.wr W4)
  have Zend : n0 ≤ h4.size := (Nat.le_trans Z0 (Keep.of_wr W4).1)
  have Kend := K4
  refine ⟨T4, _, _, X4, e4, N4, Kend, Eend_o0, Fend_wordCount_o0, fun target kt => ?_⟩
  show Steps p.tables e below (T0.setTop (mkF m 136 #[.val (.ref o0), .val (.ref o1), s2, .val (.int i3), s4, s5, s6, s7, s8] [])) _
  refine XS.aloadN X0.here hx rfl (hb hby d1_136) rfl rfl ?_
  show Steps p.tables e below (T0.setTop (mkF m 137 #[.val (.ref o0), .val (.ref o1), s2, .val (.int i3), s4, s5, s6, s7, s8] [(.ref o0)])) _
  refine XS.aloadN X0.here hx rfl (hb hby d1_137) rfl rfl ?_
  show Steps p.tables e below (T0.setTop (mkF m 138 #[.val (.ref o0), .val (.ref o1), s2, .val (.int i3), s4, s5, s6, s7, s8] [(.ref o1), (.ref o0)])) _
  refine X0.arraylength hx (by rw [e0]; exact Ar_138.1) (State.isArrayOf_alike hZ.alike Ar_138.2.1) (g := (mkF m 138 #[.val (.ref o0), .val (.ref o1), s2, .val (.int i3), s4, s5, s6, s7, s8] [(.ref o1), (.ref o0)])) rfl rfl (hb hby d1_138) _ ?_
  rw [S_138]
  show Steps p.tables e below (T0.setTop (mkF m 139 #[.val (.ref o0), .val (.ref o1), s2, .val (.int i3), s4, s5, s6, s7, s8] [(.int (Int32.ofNat N)), (.ref o0)])) _
  refine XS.ifYes X0.here hx rfl (pc0 := 139) (pc' := 146) rfl (hb hby d1_139) rfl ((if0 _ _).trans (feq hc139).2) (by decide) (by decide) ?_
  show Steps p.tables e below (T0.setTop (mkF m 146 #[.val (.ref o0), .val (.ref o1), s2, .val (.int i3), s4, s5, s6, s7, s8] [(.ref o0)])) _
  refine XS.iloadN X0.here hx rfl (hb hby d1_146) rfl ?_
  show Steps p.tables e below (T0.setTop (mkF m 147 #[.val (.ref o0), .val (.ref o1), s2, .val (.int i3), s4, s5, s6, s7, s8] [(.int i3), (.ref o0)])) _
  refine XS.iconst X0.here hx rfl (hb hby d1_147) ?_
  show Steps p.tables e below (T0.setTop (mkF m 148 #[.val (.ref o0), .val (.ref o1), s2, .val (.int i3), s4, s5, s6, s7, s8] [(.int (1 : Int32)), (.int i3), (.ref o0)])) _
  refine XS.iadd X0.here hx rfl (hb hby d1_148) rfl ?_
  show Steps p.tables e below (T0.setTop (mkF m 149 #[.val (.ref o0), .val (.ref o1), s2, .val (.int i3), s4, s5, s6, s7, s8] [(.int (i3 + (1 : Int32))), (.ref o0)])) _
  refine st4 _ ?_
  exact kt
theorem d1_152 : decode prog_77_method_1_code 152 = .ok (.return_, 1) := by decide +kernel
theorem pn_1 : plainName "com/example/tight_bounds/tightbounds/model/StateLayout" = true := by first | (simp [plainName, overriddenIn]; done) | decide +kernel
theorem ef_1 (m : MethodId) (x0 : Addr) (x1 : Addr) (x2 : Addr) : entryFrame m #[(.ref x0), (.ref x1), (.ref x2)] 9 = mkF m 0 #[.val (.ref x0), .val (.ref x1), .val (.ref x2), .unset, .unset, .unset, .unset, .unset, .unset] [] := by first | (simp [entryFrame, mkF, argsToLocals, Value.category]; done) | rfl
def Q1 (Z : State) (a1 : Addr) (a2 : Addr) (a3 : Addr) (lo : Int32) (hi : Int32) (zz : Int32) (wc : Int32) (h0 : Heap) (n0 : Nat) (v : Option Value) (h : Heap) (L : List Loc) : Prop := v = none ∧ Fr n0 L ∧ Keep h0 h [a1] ∧ Exa Z h a1 "com/example/tight_bounds/tightbounds/model/StateLayout" ∧ Fld Z h a1 "com/example/tight_bounds/tightbounds/model/StateLayout" "wordCount" "I" (.int wc)
set_option maxRecDepth 65536 in
set_option maxHeartbeats 40000000 in
theorem rm1_0 (l : Launch) (Z : State) (a0 : Array Value) (hw : ∀ d ∈ tables_1, d.before a0 Z = true) (ws : List Jvm.Cond) (a1 : Addr) (a2 : Addr) (a3 : Addr) (lo : Int32) (hi : Int32) (zz : Int32) (wc : Int32) (h0 : Heap) (n0 : Nat) (Z0 : n0 ≤ h0.size) (g_a1 : n0 ≤ a1) (E_a1 : Exa Z h0 a1 "com/example/tight_bounds/tightbounds/model/StateLayout") (Flows : Fld Z h0 a1 "com/example/tight_bounds/tightbounds/model/StateLayout" "lows" "[I" .null) (Fwords : Fld Z h0 a1 "com/example/tight_bounds/tightbounds/model/StateLayout" "words" "[I" .null) (Fshifts : Fld Z h0 a1 "com/example/tight_bounds/tightbounds/model/StateLayout" "shifts" "[I" .null) (Fmasks : Fld Z h0 a1 "com/example/tight_bounds/tightbounds/model/StateLayout" "masks" "[J" .null) (Fwc : Fld Z h0 a1 "com/example/tight_bounds/tightbounds/model/StateLayout" "wordCount" "I" (.int (0 : Int32))) (V2 : Ary Z h0 a2 .int 0 (fun _ => .int lo)) (V3 : Ary Z h0 a3 .int 0 (fun _ => .int hi)) (E2 : Exa Z h0 a2 "[I") (ne10 : a2 ≠ a1) (ne20 : a3 ≠ a1) (hz : own_nz ((hi.toInt64) - (lo.toInt64)) zz) (h64 : ¬ ((64 : Int32) < ((0 : Int32) + ((64 : Int32) - zz)))) (hwc : wc = 0) :
    MetFree l (⟨"com/example/tight_bounds/tightbounds/model/StateLayout", "<init>", "([I[I)V"⟩ : MethodName) (head1 (Jvm.Cond.code (⟨"com/example/tight_bounds/tightbounds/model/StateLayout", "<init>", "([I[I)V"⟩ : MethodName) prog_77_method_1_code 9 none :: ws) own_R1) (fun a U => a = #[(.ref a1), (.ref a2), (.ref a3)] ∧ Z.Warmed39 U.vm ∧ U.heap = h0) (fun _ _ _ _ _ => True) (fun _ U o U' => ∃ v L, o = .returned v ∧ Q1 Z a1 a2 a3 lo hi zz wc h0 n0 v U'.heap L ∧ FrameEnd U o U' L own_R1.cells own_R1.slots) := by
  refine MetFree.of_bodySF (plainFor_of_name pn_1) hisR ?_
  intro p e s m args below meth c s₁ Bd hml0 hP hK
  obtain ⟨rfl, hZ, hh⟩ := hP
  have hx := Bd.exec
  have hby := Bd.bytes
  have hml : c.maxLocals = 9 := hml0
  have hown : s.vm.findClass "com/example/tight_bounds/tightbounds/model/StateLayout" = some m.cls := findClass_of_methodNamed Bd.named
  have hnm := (name_of_methodNamed Bd.named Bd.method).1
  have X0 : Stand p l e own_R1 s m #[(.ref a1), (.ref a2), (.ref a3)] below meth c s₁ [] 0 0 := Stand.of_body Bd
  have e0 : s₁.heap = h0 := by rw [← hh, Bd.state]; rfl
  have N0 := Fr.nil n0
  have pre0 : ∀ t, Steps p.tables e below (s₁.setTop (mkF m 0 #[.val (.ref a1), .val (.ref a2), .val (.ref a3), .unset, .unset, .unset, .unset, .unset, .unset] [])) t → Steps p.tables e below (s₁.setTop (entryFrame m #[(.ref a1), (.ref a2), (.ref a3)] 9)) t := fun t k => castTop (ef_1 m a1 a2 a3) k
  obtain ⟨T1, h1, L1, w, s', m', X1, e1, N1, K1, Z1, LAY1, st1⟩ := pf0 a1 a2 a3 n0 lo hi _ _ _ _ X0 hx hZ hw hby hml hown e0 Z0 N0 hnm ne10 ne20 (fun j _ => ⟨lo, rfl⟩) V2 V3 Fwc E2 E_a1 Flows g_a1 Fwords Fshifts Fmasks
  have hc : ¬ ((0 : Int32) < Int32.ofNat 0) := by decide
  obtain ⟨T3, X3, e3, st3⟩ := tn1_47_136 (.val (.ref a1)) a2 (.val (.ref a3)) (.val (.int (0 : Int32))) (.val (.int (0 : Int32))) (0 : Int32) .unset .unset .unset 0 (fun _ => .int lo) X1 hx hZ hw hby hml hown e1 LAY1.2.2.2.2.2.2.2.2.1 hc
  have M3 : Keep h0 h1 [a1] := K1
  have LAY3 := LAY1
  have N3 := N1
  have Z3 := Z1
  obtain ⟨T4, h4, L4, X4, e4, N4, K4, E4, F4, st4⟩ := fi0 a1 a2 (.val (.ref a3)) (.val (.int (0 : Int32))) (.val (.int (0 : Int32))) (.val (.int (0 : Int32))) .unset .unset .unset n0 0 (fun _ => .int lo) X3 hx hZ hw hby hml hown e3 Z3 N3 hnm ne10 LAY3.2.2.2.2.2.2.2.2.1 LAY3.2.2.2.2.2.2.2.1 LAY3.2.2.2.1 g_a1 (by decide)
  obtain ⟨fs, hr, hrun, hended, hW, hsame⟩ := X4.leave (v := none) (fun _ => rfl)
  refine ⟨_, _, pre0 _ ?_, hrun, hended, _, _, rfl, ?_, ⟨_, rfl⟩, hW, hsame.mono (by decide) (by decide)⟩
  · refine st1 _ ((st3 _ (st4 _ ?_)))
    exact X4.returnOut hx Bd.returns (hb hby d1_152) hr
  · show Q1 Z a1 a2 a3 lo hi zz wc h0 n0 _ T4.heap _
    rw [e4]
    exact ⟨rfl, N4, M3.trans K4 (fun x hx => Or.inl hx), E4, by rw [hwc]; exact F4⟩
set_option maxRecDepth 65536 in
set_option maxHeartbeats 40000000 in
theorem rm1_1 (l : Launch) (Z : State) (a0 : Array Value) (hw : ∀ d ∈ tables_1, d.before a0 Z = true) (ws : List Jvm.Cond) (a1 : Addr) (a2 : Addr) (a3 : Addr) (lo : Int32) (hi : Int32) (zz : Int32) (wc : Int32) (h0 : Heap) (n0 : Nat) (Z0 : n0 ≤ h0.size) (g_a1 : n0 ≤ a1) (E_a1 : Exa Z h0 a1 "com/example/tight_bounds/tightbounds/model/StateLayout") (Flows : Fld Z h0 a1 "com/example/tight_bounds/tightbounds/model/StateLayout" "lows" "[I" .null) (Fwords : Fld Z h0 a1 "com/example/tight_bounds/tightbounds/model/StateLayout" "words" "[I" .null) (Fshifts : Fld Z h0 a1 "com/example/tight_bounds/tightbounds/model/StateLayout" "shifts" "[I" .null) (Fmasks : Fld Z h0 a1 "com/example/tight_bounds/tightbounds/model/StateLayout" "masks" "[J" .null) (Fwc : Fld Z h0 a1 "com/example/tight_bounds/tightbounds/model/StateLayout" "wordCount" "I" (.int (0 : Int32))) (V2 : Ary Z h0 a2 .int 1 (fun _ => .int lo)) (V3 : Ary Z h0 a3 .int 1 (fun _ => .int hi)) (E2 : Exa Z h0 a2 "[I") (ne10 : a2 ≠ a1) (ne20 : a3 ≠ a1) (hz : own_nz ((hi.toInt64) - (lo.toInt64)) zz) (h64 : ¬ ((64 : Int32) < ((0 : Int32) + ((64 : Int32) - zz)))) (hwc : wc = (own_it ((64 : Int32) - zz) 0 (own_tn ((64 : Int32) - zz) ((0 : Int32), (0 : Int32)))).1 + 1) :
    MetFree l (⟨"com/example/tight_bounds/tightbounds/model/StateLayout", "<init>", "([I[I)V"⟩ : MethodName) (head1 (Jvm.Cond.code (⟨"com/example/tight_bounds/tightbounds/model/StateLayout", "<init>", "([I[I)V"⟩ : MethodName) prog_77_method_1_code 9 none :: ws) own_R1) (fun a U => a = #[(.ref a1), (.ref a2), (.ref a3)] ∧ Z.Warmed39 U.vm ∧ U.heap = h0) (fun _ _ _ _ _ => True) (fun _ U o U' => ∃ v L, o = .returned v ∧ Q1 Z a1 a2 a3 lo hi zz wc h0 n0 v U'.heap L ∧ FrameEnd U o U' L own_R1.cells own_R1.slots) := by
  refine MetFree.of_bodySF (plainFor_of_name pn_1) hisR ?_
  intro p e s m args below meth c s₁ Bd hml0 hP hK
  obtain ⟨rfl, hZ, hh⟩ := hP
  have hx := Bd.exec
  have hby := Bd.bytes
  have hml : c.maxLocals = 9 := hml0
  have hown : s.vm.findClass "com/example/tight_bounds/tightbounds/model/StateLayout" = some m.cls := findClass_of_methodNamed Bd.named
  have hnm := (name_of_methodNamed Bd.named Bd.method).1
  have X0 : Stand p l e own_R1 s m #[(.ref a1), (.ref a2), (.ref a3)] below meth c s₁ [] 0 0 := Stand.of_body Bd
  have e0 : s₁.heap = h0 := by rw [← hh, Bd.state]; rfl
  have N0 := Fr.nil n0
  have pre0 : ∀ t, Steps p.tables e below (s₁.setTop (mkF m 0 #[.val (.ref a1), .val (.ref a2), .val (.ref a3), .unset, .unset, .unset, .unset, .unset, .unset] [])) t → Steps p.tables e below (s₁.setTop (entryFrame m #[(.ref a1), (.ref a2), (.ref a3)] 9)) t := fun t k => castTop (ef_1 m a1 a2 a3) k
  obtain ⟨T1, h1, L1, w, s', m', X1, e1, N1, K1, Z1, LAY1, st1⟩ := pf1 a1 a2 a3 n0 lo hi _ _ _ _ X0 hx hZ hw hby hml hown e0 Z0 N0 hnm ne10 ne20 (fun j _ => ⟨lo, rfl⟩) V2 V3 Fwc E2 E_a1 Flows g_a1 Fwords Fshifts Fmasks
  obtain ⟨T2, h2, L2, X2, e2, N2, K2, Z2, LAY2, st2⟩ := layA a1 a2 a3 (0 : Int32) (0 : Int32) (0 : Int32) w s' m' n0 h0.size 1 0 lo hi zz X1 hx hZ hw hby hml hown e1 Z1 N1 (by decide) (by decide) (show own_ix (0 : Int32) 0 from rfl) (by decide) (by decide) h64 hz Z0 LAY1
  obtain ⟨T3, h3, L3, i4', i5', j6', i8', X3, e3, N3, K3, Z3, LAY3, st3⟩ := loop1 a1 a2 a3 w s' m' n0 h0.size 1 lo hi zz hx hZ hw hby hml hown (by decide) (by decide) (by decide) hz Z0 0 1 (own_tn ((64 : Int32) - zz) ((0 : Int32), (0 : Int32))).1 (own_tn ((64 : Int32) - zz) ((0 : Int32), (0 : Int32))).2 ((0 : Int32) + (1 : Int32)) ((hi.toInt64) - (lo.toInt64)) ((64 : Int32) - zz) T2 h2 L2 (by decide) (show own_ix ((0 : Int32) + (1 : Int32)) 1 from rfl) X2 e2 Z2 N2 LAY2
  have qk : ∀ x ∈ [w, s', m'], x ∈ [a1] ∨ h0.size ≤ x := fun x hx => by
    simp only [List.mem_cons, List.not_mem_nil, or_false] at hx
    rcases hx with rfl | rfl | rfl
    · exact Or.inr LAY1.1
    · exact Or.inr LAY1.2.1
    · exact Or.inr LAY1.2.2.1
  have M3 : Keep h0 h3 [a1] := (K1.trans K2 qk).trans K3 qk
  obtain ⟨T4, h4, L4, X4, e4, N4, K4, E4, F4, st4⟩ := fi1 a1 a2 (.val (.ref a3)) _ (.val (.int i4')) (.val (.int i5')) (.val (.long j6')) .second (.val (.int i8')) n0 1 (fun _ => .int lo) X3 hx hZ hw hby hml hown e3 Z3 N3 hnm ne10 LAY3.2.2.2.2.2.2.2.2.1 LAY3.2.2.2.2.2.2.2.1 LAY3.2.2.2.1 g_a1 (by decide)
  obtain ⟨fs, hr, hrun, hended, hW, hsame⟩ := X4.leave (v := none) (fun _ => rfl)
  refine ⟨_, _, pre0 _ ?_, hrun, hended, _, _, rfl, ?_, ⟨_, rfl⟩, hW, hsame.mono (by decide) (by decide)⟩
  · refine st1 _ (st2 _ ((st3 _ (st4 _ ?_))))
    exact X4.returnOut hx Bd.returns (hb hby d1_152) hr
  · show Q1 Z a1 a2 a3 lo hi zz wc h0 n0 _ T4.heap _
    rw [e4]
    exact ⟨rfl, N4, M3.trans K4 (fun x hx => Or.inl hx), E4, by rw [hwc]; exact F4⟩
set_option maxRecDepth 65536 in
set_option maxHeartbeats 40000000 in
theorem rm1_3 (l : Launch) (Z : State) (a0 : Array Value) (hw : ∀ d ∈ tables_1, d.before a0 Z = true) (ws : List Jvm.Cond) (a1 : Addr) (a2 : Addr) (a3 : Addr) (lo : Int32) (hi : Int32) (zz : Int32) (wc : Int32) (h0 : Heap) (n0 : Nat) (Z0 : n0 ≤ h0.size) (g_a1 : n0 ≤ a1) (E_a1 : Exa Z h0 a1 "com/example/tight_bounds/tightbounds/model/StateLayout") (Flows : Fld Z h0 a1 "com/example/tight_bounds/tightbounds/model/StateLayout" "lows" "[I" .null) (Fwords : Fld Z h0 a1 "com/example/tight_bounds/tightbounds/model/StateLayout" "words" "[I" .null) (Fshifts : Fld Z h0 a1 "com/example/tight_bounds/tightbounds/model/StateLayout" "shifts" "[I" .null) (Fmasks : Fld Z h0 a1 "com/example/tight_bounds/tightbounds/model/StateLayout" "masks" "[J" .null) (Fwc : Fld Z h0 a1 "com/example/tight_bounds/tightbounds/model/StateLayout" "wordCount" "I" (.int (0 : Int32))) (V2 : Ary Z h0 a2 .int 3 (fun _ => .int lo)) (V3 : Ary Z h0 a3 .int 3 (fun _ => .int hi)) (E2 : Exa Z h0 a2 "[I") (ne10 : a2 ≠ a1) (ne20 : a3 ≠ a1) (hz : own_nz ((hi.toInt64) - (lo.toInt64)) zz) (h64 : ¬ ((64 : Int32) < ((0 : Int32) + ((64 : Int32) - zz)))) (hwc : wc = (own_it ((64 : Int32) - zz) 2 (own_tn ((64 : Int32) - zz) ((0 : Int32), (0 : Int32)))).1 + 1) :
    MetFree l (⟨"com/example/tight_bounds/tightbounds/model/StateLayout", "<init>", "([I[I)V"⟩ : MethodName) (head1 (Jvm.Cond.code (⟨"com/example/tight_bounds/tightbounds/model/StateLayout", "<init>", "([I[I)V"⟩ : MethodName) prog_77_method_1_code 9 none :: ws) own_R1) (fun a U => a = #[(.ref a1), (.ref a2), (.ref a3)] ∧ Z.Warmed39 U.vm ∧ U.heap = h0) (fun _ _ _ _ _ => True) (fun _ U o U' => ∃ v L, o = .returned v ∧ Q1 Z a1 a2 a3 lo hi zz wc h0 n0 v U'.heap L ∧ FrameEnd U o U' L own_R1.cells own_R1.slots) := by
  refine MetFree.of_bodySF (plainFor_of_name pn_1) hisR ?_
  intro p e s m args below meth c s₁ Bd hml0 hP hK
  obtain ⟨rfl, hZ, hh⟩ := hP
  have hx := Bd.exec
  have hby := Bd.bytes
  have hml : c.maxLocals = 9 := hml0
  have hown : s.vm.findClass "com/example/tight_bounds/tightbounds/model/StateLayout" = some m.cls := findClass_of_methodNamed Bd.named
  have hnm := (name_of_methodNamed Bd.named Bd.method).1
  have X0 : Stand p l e own_R1 s m #[(.ref a1), (.ref a2), (.ref a3)] below meth c s₁ [] 0 0 := Stand.of_body Bd
  have e0 : s₁.heap = h0 := by rw [← hh, Bd.state]; rfl
  have N0 := Fr.nil n0
  have pre0 : ∀ t, Steps p.tables e below (s₁.setTop (mkF m 0 #[.val (.ref a1), .val (.ref a2), .val (.ref a3), .unset, .unset, .unset, .unset, .unset, .unset] [])) t → Steps p.tables e below (s₁.setTop (entryFrame m #[(.ref a1), (.ref a2), (.ref a3)] 9)) t := fun t k => castTop (ef_1 m a1 a2 a3) k
  obtain ⟨T1, h1, L1, w, s', m', X1, e1, N1, K1, Z1, LAY1, st1⟩ := pf3 a1 a2 a3 n0 lo hi _ _ _ _ X0 hx hZ hw hby hml hown e0 Z0 N0 hnm ne10 ne20 (fun j _ => ⟨lo, rfl⟩) V2 V3 Fwc E2 E_a1 Flows g_a1 Fwords Fshifts Fmasks
  obtain ⟨T2, h2, L2, X2, e2, N2, K2, Z2, LAY2, st2⟩ := layA a1 a2 a3 (0 : Int32) (0 : Int32) (0 : Int32) w s' m' n0 h0.size 3 0 lo hi zz X1 hx hZ hw hby hml hown e1 Z1 N1 (by decide) (by decide) (show own_ix (0 : Int32) 0 from rfl) (by decide) (by decide) h64 hz Z0 LAY1
  obtain ⟨T3, h3, L3, i4', i5', j6', i8', X3, e3, N3, K3, Z3, LAY3, st3⟩ := loop1 a1 a2 a3 w s' m' n0 h0.size 3 lo hi zz hx hZ hw hby hml hown (by decide) (by decide) (by decide) hz Z0 2 1 (own_tn ((64 : Int32) - zz) ((0 : Int32), (0 : Int32))).1 (own_tn ((64 : Int32) - zz) ((0 : Int32), (0 : Int32))).2 ((0 : Int32) + (1 : Int32)) ((hi.toInt64) - (lo.toInt64)) ((64 : Int32) - zz) T2 h2 L2 (by decide) (show own_ix ((0 : Int32) + (1 : Int32)) 1 from rfl) X2 e2 Z2 N2 LAY2
  have qk : ∀ x ∈ [w, s', m'], x ∈ [a1] ∨ h0.size ≤ x := fun x hx => by
    simp only [List.mem_cons, List.not_mem_nil, or_false] at hx
    rcases hx with rfl | rfl | rfl
    · exact Or.inr LAY1.1
    · exact Or.inr LAY1.2.1
    · exact Or.inr LAY1.2.2.1
  have M3 : Keep h0 h3 [a1] := (K1.trans K2 qk).trans K3 qk
  obtain ⟨T4, h4, L4, X4, e4, N4, K4, E4, F4, st4⟩ := fi1 a1 a2 (.val (.ref a3)) _ (.val (.int i4')) (.val (.int i5')) (.val (.long j6')) .second (.val (.int i8')) n0 3 (fun _ => .int lo) X3 hx hZ hw hby hml hown e3 Z3 N3 hnm ne10 LAY3.2.2.2.2.2.2.2.2.1 LAY3.2.2.2.2.2.2.2.1 LAY3.2.2.2.1 g_a1 (by decide)
  obtain ⟨fs, hr, hrun, hended, hW, hsame⟩ := X4.leave (v := none) (fun _ => rfl)
  refine ⟨_, _, pre0 _ ?_, hrun, hended, _, _, rfl, ?_, ⟨_, rfl⟩, hW, hsame.mono (by decide) (by decide)⟩
  · refine st1 _ (st2 _ ((st3 _ (st4 _ ?_))))
    exact X4.returnOut hx Bd.returns (hb hby d1_152) hr
  · show Q1 Z a1 a2 a3 lo hi zz wc h0 n0 _ T4.heap _
    rw [e4]
    exact ⟨rfl, N4, M3.trans K4 (fun x hx => Or.inl hx), E4, by rw [hwc]; exact F4⟩
set_option maxRecDepth 65536 in
set_option maxHeartbeats 40000000 in
theorem rm1_5 (l : Launch) (Z : State) (a0 : Array Value) (hw : ∀ d ∈ tables_1, d.before a0 Z = true) (ws : List Jvm.Cond) (a1 : Addr) (a2 : Addr) (a3 : Addr) (lo : Int32) (hi : Int32) (zz : Int32) (wc : Int32) (h0 : Heap) (n0 : Nat) (Z0 : n0 ≤ h0.size) (g_a1 : n0 ≤ a1) (E_a1 : Exa Z h0 a1 "com/example/tight_bounds/tightbounds/model/StateLayout") (Flows : Fld Z h0 a1 "com/example/tight_bounds/tightbounds/model/StateLayout" "lows" "[I" .null) (Fwords : Fld Z h0 a1 "com/example/tight_bounds/tightbounds/model/StateLayout" "words" "[I" .null) (Fshifts : Fld Z h0 a1 "com/example/tight_bounds/tightbounds/model/StateLayout" "shifts" "[I" .null) (Fmasks : Fld Z h0 a1 "com/example/tight_bounds/tightbounds/model/StateLayout" "masks" "[J" .null) (Fwc : Fld Z h0 a1 "com/example/tight_bounds/tightbounds/model/StateLayout" "wordCount" "I" (.int (0 : Int32))) (V2 : Ary Z h0 a2 .int 5 (fun _ => .int lo)) (V3 : Ary Z h0 a3 .int 5 (fun _ => .int hi)) (E2 : Exa Z h0 a2 "[I") (ne10 : a2 ≠ a1) (ne20 : a3 ≠ a1) (hz : own_nz ((hi.toInt64) - (lo.toInt64)) zz) (h64 : ¬ ((64 : Int32) < ((0 : Int32) + ((64 : Int32) - zz)))) (hwc : wc = (own_it ((64 : Int32) - zz) 4 (own_tn ((64 : Int32) - zz) ((0 : Int32), (0 : Int32)))).1 + 1) :
    MetFree l (⟨"com/example/tight_bounds/tightbounds/model/StateLayout", "<init>", "([I[I)V"⟩ : MethodName) (head1 (Jvm.Cond.code (⟨"com/example/tight_bounds/tightbounds/model/StateLayout", "<init>", "([I[I)V"⟩ : MethodName) prog_77_method_1_code 9 none :: ws) own_R1) (fun a U => a = #[(.ref a1), (.ref a2), (.ref a3)] ∧ Z.Warmed39 U.vm ∧ U.heap = h0) (fun _ _ _ _ _ => True) (fun _ U o U' => ∃ v L, o = .returned v ∧ Q1 Z a1 a2 a3 lo hi zz wc h0 n0 v U'.heap L ∧ FrameEnd U o U' L own_R1.cells own_R1.slots) := by
  refine MetFree.of_bodySF (plainFor_of_name pn_1) hisR ?_
  intro p e s m args below meth c s₁ Bd hml0 hP hK
  obtain ⟨rfl, hZ, hh⟩ := hP
  have hx := Bd.exec
  have hby := Bd.bytes
  have hml : c.maxLocals = 9 := hml0
  have hown : s.vm.findClass "com/example/tight_bounds/tightbounds/model/StateLayout" = some m.cls := findClass_of_methodNamed Bd.named
  have hnm := (name_of_methodNamed Bd.named Bd.method).1
  have X0 : Stand p l e own_R1 s m #[(.ref a1), (.ref a2), (.ref a3)] below meth c s₁ [] 0 0 := Stand.of_body Bd
  have e0 : s₁.heap = h0 := by rw [← hh, Bd.state]; rfl
  have N0 := Fr.nil n0
  have pre0 : ∀ t, Steps p.tables e below (s₁.setTop (mkF m 0 #[.val (.ref a1), .val (.ref a2), .val (.ref a3), .unset, .unset, .unset, .unset, .unset, .unset] [])) t → Steps p.tables e below (s₁.setTop (entryFrame m #[(.ref a1), (.ref a2), (.ref a3)] 9)) t := fun t k => castTop (ef_1 m a1 a2 a3) k
  obtain ⟨T1, h1, L1, w, s', m', X1, e1, N1, K1, Z1, LAY1, st1⟩ := pf5 a1 a2 a3 n0 lo hi _ _ _ _ X0 hx hZ hw hby hml hown e0 Z0 N0 hnm ne10 ne20 (fun j _ => ⟨lo, rfl⟩) V2 V3 Fwc E2 E_a1 Flows g_a1 Fwords Fshifts Fmasks
  obtain ⟨T2, h2, L2, X2, e2, N2, K2, Z2, LAY2, st2⟩ := layA a1 a2 a3 (0 : Int32) (0 : Int32) (0 : Int32) w s' m' n0 h0.size 5 0 lo hi zz X1 hx hZ hw hby hml hown e1 Z1 N1 (by decide) (by decide) (show own_ix (0 : Int32) 0 from rfl) (by decide) (by decide) h64 hz Z0 LAY1
  obtain ⟨T3, h3, L3, i4', i5', j6', i8', X3, e3, N3, K3, Z3, LAY3, st3⟩ := loop1 a1 a2 a3 w s' m' n0 h0.size 5 lo hi zz hx hZ hw hby hml hown (by decide) (by decide) (by decide) hz Z0 4 1 (own_tn ((64 : Int32) - zz) ((0 : Int32), (0 : Int32))).1 (own_tn ((64 : Int32) - zz) ((0 : Int32), (0 : Int32))).2 ((0 : Int32) + (1 : Int32)) ((hi.toInt64) - (lo.toInt64)) ((64 : Int32) - zz) T2 h2 L2 (by decide) (show own_ix ((0 : Int32) + (1 : Int32)) 1 from rfl) X2 e2 Z2 N2 LAY2
  have qk : ∀ x ∈ [w, s', m'], x ∈ [a1] ∨ h0.size ≤ x := fun x hx => by
    simp only [List.mem_cons, List.not_mem_nil, or_false] at hx
    rcases hx with rfl | rfl | rfl
    · exact Or.inr LAY1.1
    · exact Or.inr LAY1.2.1
    · exact Or.inr LAY1.2.2.1
  have M3 : Keep h0 h3 [a1] := (K1.trans K2 qk).trans K3 qk
  obtain ⟨T4, h4, L4, X4, e4, N4, K4, E4, F4, st4⟩ := fi1 a1 a2 (.val (.ref a3)) _ (.val (.int i4')) (.val (.int i5')) (.val (.long j6')) .second (.val (.int i8')) n0 5 (fun _ => .int lo) X3 hx hZ hw hby hml hown e3 Z3 N3 hnm ne10 LAY3.2.2.2.2.2.2.2.2.1 LAY3.2.2.2.2.2.2.2.1 LAY3.2.2.2.1 g_a1 (by decide)
  obtain ⟨fs, hr, hrun, hended, hW, hsame⟩ := X4.leave (v := none) (fun _ => rfl)
  refine ⟨_, _, pre0 _ ?_, hrun, hended, _, _, rfl, ?_, ⟨_, rfl⟩, hW, hsame.mono (by decide) (by decide)⟩
  · refine st1 _ (st2 _ ((st3 _ (st4 _ ?_))))
    exact X4.returnOut hx Bd.returns (hb hby d1_152) hr
  · show Q1 Z a1 a2 a3 lo hi zz wc h0 n0 _ T4.heap _
    rw [e4]
    exact ⟨rfl, N4, M3.trans K4 (fun x hx => Or.inl hx), E4, by rw [hwc]; exact F4⟩
theorem d3_0 : decode prog_77_method_10_code 0 = .ok (.aload_n 0, 1) := by decide +kernel
theorem d3_1 : decode prog_77_method_10_code 1 = .ok (.getfield 34, 3) := by decide +kernel
theorem d3_4 : decode prog_77_method_10_code 4 = .ok (.iconst 1, 1) := by decide +kernel
theorem d3_5 : decode prog_77_method_10_code 5 = .ok (.if_icmp .ne 24, 3) := by decide +kernel
set_option maxRecDepth 65536 in
set_option maxHeartbeats 40000000 in
theorem tn3_0_29 {p : Program} {l : Launch} {e : Env} {R : Room} {s : State} {m : MethodId} {args : Array Value} {below : List Frame} {meth : Method} {c : Code} {T0 : State} {locs : List Loc} {cells slots : Nat} {Z : State} {a0 : Array Value} {h0 : Heap} (o0 : Addr) (s1 : Slot) (s2 : Slot) (s3 : Slot) (s4 : Slot) (s5 : Slot) (wc : Int32)
    (X0 : Stand p l e R s m args below meth c T0 locs cells slots) (hx : p.tables.exec = Jvm.exec) (hZ : Z.Warmed39 s.vm) (hw : ∀ d ∈ tables_1, d.before a0 Z = true) (hby : c.code = prog_77_method_10_code) (hml : c.maxLocals = 6) (hown : s.vm.findClass "com/example/tight_bounds/tightbounds/model/StateLayout" = some m.cls) (e0 : T0.heap = h0) (F_wordCount_o0 : Fld Z h0 o0 "com/example/tight_bounds/tightbounds/model/StateLayout" "wordCount" "I" (.int wc)) (hc5 : ¬ (wc = (1 : Int32))) :
    ∃ (T' : State), Stand p l e R s m args below meth c T' locs cells slots ∧ T'.heap = h0 ∧
      ∀ target, Steps p.tables e below (T'.setTop (mkF m 29 #[.val (.ref o0), s1, s2, s3, s4, s5] [])) target → Steps p.tables e below (T0.setTop (mkF m 0 #[.val (.ref o0), s1, s2, s3, s4, s5] [])) target := by
  obtain ⟨T6, X6, e6, st6⟩ := getF X0 hx hZ hown (host := "") (Or.inl (hw _ (List.mem_of_getElem? (i := 31) rfl))) Via.refl e0 F_wordCount_o0 (g := (mkF m 1 #[.val (.ref o0), s1, s2, s3, s4, s5] [(.ref o0)])) rfl rfl (hb hby d3_1)
  refine ⟨T6, X6, e6, fun target kt => ?_⟩
  show Steps p.tables e below (T0.setTop (mkF m 0 #[.val (.ref o0), s1, s2, s3, s4, s5] [])) _
  refine XS.aloadN X0.here hx rfl (hb hby d3_0) rfl rfl ?_
  show Steps p.tables e below (T0.setTop (mkF m 1 #[.val (.ref o0), s1, s2, s3, s4, s5] [(.ref o0)])) _
  refine st6 _ ?_
  show Steps p.tables e below (T6.setTop (mkF m 4 #[.val (.ref o0), s1, s2, s3, s4, s5] [(.int wc)])) _
  refine XS.iconst X6.here hx rfl (hb hby d3_4) ?_
  show Steps p.tables e below (T6.setTop (mkF m 5 #[.val (.ref o0), s1, s2, s3, s4, s5] [(.int (1 : Int32)), (.int wc)])) _
  refine XS.icmpYes X6.here hx rfl (pc0 := 5) (pc' := 29) rfl (hb hby d3_5) rfl (feq hc5).2 (by decide) (by decide) ?_
  exact kt
theorem d3_29 : decode prog_77_method_10_code 29 = .ok (.iconst 0, 1) := by decide +kernel
theorem d3_30 : decode prog_77_method_10_code 30 = .ok (.istore 5, 2) := by decide +kernel
theorem os3_30 {s0 : Slot} {s1 : Slot} {s2 : Slot} {s3 : Slot} {s4 : Slot} {s5 : Slot} {v : Int32} (h : One s5) : storeLocals #[s0, s1, s2, s3, s4, s5] 5 (.int v) = some #[s0, s1, s2, s3, s4, .val (.int v)] := by
  rcases h with rfl | ⟨w, rfl, hw⟩
  · rfl
  · cases w <;> first | rfl | (simp [Value.category] at hw)
set_option maxRecDepth 65536 in
set_option maxHeartbeats 40000000 in
theorem tn3_29_32 {p : Program} {l : Launch} {e : Env} {R : Room} {s : State} {m : MethodId} {args : Array Value} {below : List Frame} {meth : Method} {c : Code} {T0 : State} {locs : List Loc} {cells slots : Nat} {Z : State} {a0 : Array Value} {h0 : Heap} (s0 : Slot) (s1 : Slot) (s2 : Slot) (s3 : Slot) (s4 : Slot)
    (X0 : Stand p l e R s m args below meth c T0 locs cells slots) (hx : p.tables.exec = Jvm.exec) (hZ : Z.Warmed39 s.vm) (hw : ∀ d ∈ tables_1, d.before a0 Z = true) (hby : c.code = prog_77_method_10_code) (hml : c.maxLocals = 6) (hown : s.vm.findClass "com/example/tight_bounds/tightbounds/model/StateLayout" = some m.cls) (e0 : T0.heap = h0) :
    ∃ (T' : State), Stand p l e R s m args below meth c T' locs cells slots ∧ T'.heap = h0 ∧
      ∀ target, Steps p.tables e below (T'.setTop (mkF m 32 #[s0, s1, s2, s3, s4, .val (.int (0 : Int32))] [])) target → Steps p.tables e below (T0.setTop (mkF m 29 #[s0, s1, s2, s3, s4, .unset] [])) target := by
  refine ⟨T0, X0, e0, fun target kt => ?_⟩
  show Steps p.tables e below (T0.setTop (mkF m 29 #[s0, s1, s2, s3, s4, .unset] [])) _
  refine XS.iconst X0.here hx rfl (hb hby d3_29) ?_
  show Steps p.tables e below (T0.setTop (mkF m 30 #[s0, s1, s2, s3, s4, .unset] [(.int (0 : Int32))])) _
  refine XS.istore X0.here hx rfl (hb hby d3_30) rfl (l' := #[s0, s1, s2, s3, s4, .val (.int (0 : Int32))]) rfl ?_
  exact kt
theorem d3_32 : decode prog_77_method_10_code 32 = .ok (.iload 5, 2) := by decide +kernel
theorem d3_34 : decode prog_77_method_10_code 34 = .ok (.aload_n 0, 1) := by decide +kernel
theorem d3_35 : decode prog_77_method_10_code 35 = .ok (.getfield 34, 3) := by decide +kernel
theorem d3_38 : decode prog_77_method_10_code 38 = .ok (.if_icmp .ge 43, 3) := by decide +kernel
set_option maxRecDepth 65536 in
set_option maxHeartbeats 40000000 in
theorem tn3_32_81 {p : Program} {l : Launch} {e : Env} {R : Room} {s : State} {m : MethodId} {args : Array Value} {below : List Frame} {meth : Method} {c : Code} {T0 : State} {locs : List Loc} {cells slots : Nat} {Z : State} {a0 : Array Value} {h0 : Heap} (o0 : Addr) (s1 : Slot) (s2 : Slot) (s3 : Slot) (s4 : Slot) (i5 : Int32) (wc : Int32)
    (X0 : Stand p l e R s m args below meth c T0 locs cells slots) (hx : p.tables.exec = Jvm.exec) (hZ : Z.Warmed39 s.vm) (hw : ∀ d ∈ tables_1, d.before a0 Z = true) (hby : c.code = prog_77_method_10_code) (hml : c.maxLocals = 6) (hown : s.vm.findClass "com/example/tight_bounds/tightbounds/model/StateLayout" = some m.cls) (e0 : T0.heap = h0) (F_wordCount_o0 : Fld Z h0 o0 "com/example/tight_bounds/tightbounds/model/StateLayout" "wordCount" "I" (.int wc)) (hc38 : ¬ (i5 < wc)) :
    ∃ (T' : State), Stand p l e R s m args below meth c T' locs cells slots ∧ T'.heap = h0 ∧
      ∀ target, Steps p.tables e below (T'.setTop (mkF m 81 #[.val (.ref o0), s1, s2, s3, s4, .val (.int i5)] [])) target → Steps p.tables e below (T0.setTop (mkF m 32 #[.val (.ref o0), s1, s2, s3, s4, .val (.int i5)] [])) target := by
  obtain ⟨T6, X6, e6, st6⟩ := getF X0 hx hZ hown (host := "") (Or.inl (hw _ (List.mem_of_getElem? (i := 31) rfl))) Via.refl e0 F_wordCount_o0 (g := (mkF m 35 #[.val (.ref o0), s1, s2, s3, s4, .val (.int i5)] [(.ref o0), (.int i5)])) rfl rfl (hb hby d3_35)
  refine ⟨T6, X6, e6, fun target kt => ?_⟩
  show Steps p.tables e below (T0.setTop (mkF m 32 #[.val (.ref o0), s1, s2, s3, s4, .val (.int i5)] [])) _
  refine XS.iload X0.here hx rfl (hb hby d3_32) rfl ?_
  show Steps p.tables e below (T0.setTop (mkF m 34 #[.val (.ref o0), s1, s2, s3, s4, .val (.int i5)] [(.int i5)])) _
  refine XS.aloadN X0.here hx rfl (hb hby d3_34) rfl rfl ?_
  show Steps p.tables e below (T0.setTop (mkF m 35 #[.val (.ref o0), s1, s2, s3, s4, .val (.int i5)] [(.ref o0), (.int i5)])) _
  refine st6 _ ?_
  show Steps p.tables e below (T6.setTop (mkF m 38 #[.val (.ref o0), s1, s2, s3, s4, .val (.int i5)] [(.int wc), (.int i5)])) _
  refine XS.icmpYes X6.here hx rfl (pc0 := 38) (pc' := 81) rfl (hb hby d3_38) rfl (flt hc38).2.1 (by decide) (by decide) ?_
  exact kt
theorem d3_8 : decode prog_77_method_10_code 8 = .ok (.aload_n 3, 1) := by decide +kernel
theorem d3_9 : decode prog_77_method_10_code 9 = .ok (.iload 4, 2) := by decide +kernel
theorem d3_11 : decode prog_77_method_10_code 11 = .ok (.aload_n 3, 1) := by decide +kernel
theorem d3_12 : decode prog_77_method_10_code 12 = .ok (.iload 4, 2) := by decide +kernel
theorem d3_14 : decode prog_77_method_10_code 14 = .ok (.laload, 1) := by decide +kernel
theorem d3_15 : decode prog_77_method_10_code 15 = .ok (.aload_n 1, 1) := by decide +kernel
theorem d3_16 : decode prog_77_method_10_code 16 = .ok (.iload_n 2, 1) := by decide +kernel
theorem d3_17 : decode prog_77_method_10_code 17 = .ok (.laload, 1) := by decide +kernel
theorem d3_18 : decode prog_77_method_10_code 18 = .ok (.land, 1) := by decide +kernel
theorem d3_19 : decode prog_77_method_10_code 19 = .ok (.aload_n 1, 1) := by decide +kernel
theorem d3_20 : decode prog_77_method_10_code 20 = .ok (.iload_n 2, 1) := by decide +kernel
theorem d3_21 : decode prog_77_method_10_code 21 = .ok (.iconst 1, 1) := by decide +kernel
theorem d3_22 : decode prog_77_method_10_code 22 = .ok (.iadd, 1) := by decide +kernel
theorem d3_23 : decode prog_77_method_10_code 23 = .ok (.laload, 1) := by decide +kernel
theorem d3_24 : decode prog_77_method_10_code 24 = .ok (.lor, 1) := by decide +kernel
theorem d3_25 : decode prog_77_method_10_code 25 = .ok (.lastore, 1) := by decide +kernel
theorem d3_26 : decode prog_77_method_10_code 26 = .ok (.goto 55, 3) := by decide +kernel
set_option maxRecDepth 65536 in
set_option maxHeartbeats 40000000 in
theorem ap1 {p : Program} {l : Launch} {e : Env} {R : Room} {s : State} {m : MethodId} {args : Array Value} {below : List Frame} {meth : Method} {c : Code} {T0 : State} {locs : List Loc} {cells slots : Nat} {Z : State} {a0 : Array Value} {h0 : Heap} (o0 : Addr) (o1 : Addr) (i2 : Int32) (o3 : Addr) (i4 : Int32) (s5 : Slot) (n0 : Nat) (wc : Int32) (fr : Nat) (ap : Nat) (x : Int64) (y : Int64) (z : Int64) (f_o1 : Nat → Value) (f_o3 : Nat → Value)
    (X0 : Stand p l e R s m args below meth c T0 locs cells slots) (hx : p.tables.exec = Jvm.exec) (hZ : Z.Warmed39 s.vm) (hw : ∀ d ∈ tables_1, d.before a0 Z = true) (hby : c.code = prog_77_method_10_code) (hml : c.maxLocals = 6) (hown : s.vm.findClass "com/example/tight_bounds/tightbounds/model/StateLayout" = some m.cls) (e0 : T0.heap = h0) (Z0 : n0 ≤ h0.size) (N0 : Fr n0 locs) (ixf : own_ix i2 fr) (ixa : own_ix i4 ap) (hw6 : ap < 6) (hc10 : fr + 1 < 10) (vx : f_o3 ap = .long x) (vy : f_o1 fr = .long y) (vz : f_o1 (fr + 1) = .long z) (ne_o0_o3 : o0 ≠ o3) (ne_o1_o3 : o1 ≠ o3) (V_o1 : Ary Z h0 o1 .long 10 f_o1) (V_o3 : Ary Z h0 o3 .long 6 f_o3) (F_wordCount_o0 : Fld Z h0 o0 "com/example/tight_bounds/tightbounds/model/StateLayout" "wordCount" "I" (.int wc)) (g_o3 : n0 ≤ o3) (hc5 : wc = (1 : Int32)) :
    ∃ (T' : State) (h' : Heap) (locs' : List Loc), Stand p l e R s m args below meth c T' locs' cells slots ∧ T'.heap = h' ∧ Fr n0 locs' ∧ Keep h0 h' [o3] ∧ n0 ≤ h'.size ∧ Ary Z h' o3 .long 6 (own_up f_o3 ap (.long ((x &&& y) ||| z))) ∧ Ary Z h' o1 .long 10 f_o1 ∧ Fld Z h' o0 "com/example/tight_bounds/tightbounds/model/StateLayout" "wordCount" "I" (.int wc) ∧
      ∀ target, Steps p.tables e below (T'.setTop (mkF m 81 #[.val (.ref o0), .val (.ref o1), .val (.int i2), .val (.ref o3), .val (.int i4), s5] [])) target → Steps p.tables e below (T0.setTop (mkF m 0 #[.val (.ref o0), .val (.ref o1), .val (.int i2), .val (.ref o3), .val (.int i4), s5] [])) target := by
  obtain ⟨T6, X6, e6, st6⟩ := getF X0 hx hZ hown (host := "") (Or.inl (hw _ (List.mem_of_getElem? (i := 31) rfl))) Via.refl e0 F_wordCount_o0 (g := (mkF m 1 #[.val (.ref o0), .val (.ref o1), .val (.int i2), .val (.ref o3), .val (.int i4), s5] [(.ref o0)])) rfl rfl (hb hby d3_1)
  obtain ⟨cl_14, Ar_14, S_14, H_14⟩ := id V_o3
  have hin14 := Ary.inn S_14 ixa (by omega)
  have hat14 := Ary.get H_14 ixa (by omega) (v := (.long x)) vx
  obtain ⟨cl_17, Ar_17, S_17, H_17⟩ := id V_o1
  have hin17 := Ary.inn S_17 ixf (by omega)
  have hat17 := Ary.get H_17 ixf (by omega) (v := (.long y)) vy
  obtain ⟨cl_23, Ar_23, S_23, H_23⟩ := id V_o1
  have hin23 := Ary.inn S_23 (own_ixa ixf (show own_ix (1 : Int32) 1 from rfl) (by omega)) (by omega)
  have hat23 := Ary.get H_23 (own_ixa ixf (show own_ix (1 : Int32) 1 from rfl) (by omega)) (by omega) (v := (.long z)) vz
  obtain ⟨cl_25, Ar_25, S_25, H_25⟩ := id V_o3
  have hin25 := Ary.inn S_25 ixa (by omega)
  obtain ⟨T7, h7, X7, e7, W7, st7⟩ := stJ X6 hx hZ e6 Ar_25 (j := i4) hin25 (g := (mkF m 25 #[.val (.ref o0), .val (.ref o1), .val (.int i2), .val (.ref o3), .val (.int i4), s5] [(.long ((x &&& y) ||| z)), (.int i4), (.ref o3)])) rfl rfl (hb hby d3_25)
  have V_o3_7 := Ary.set Ar_25 S_25 H_25 W7 ixa
  have K7 : Keep h0 h7 [o3] := (Keep.refl h0 [o3]).wr W7 (Or.inl (List.mem_of_getElem? (i := 0) rfl))
  have N7 := Fr.snoc X7 N0 g_o3
  have Vend_o1 := (V_o1.other W7 ne_o1_o3)
  have Vend_o3 := V_o3_7
  have Fend_wordCount_o0 := (F_wordCount_o0.other W7 (Or.inl ne_o0_o3))
  have Zend : n0 ≤ h7.size := (Nat.le_trans Z0 (Keep.of_wr W7).1)
  have Kend := K7
  refine ⟨T7, _, _, X7, e7, N7, Kend, Zend, Vend_o3, Vend_o1, Fend_wordCount_o0, fun target kt => ?_⟩
  show Steps p.tables e below (T0.setTop (mkF m 0 #[.val (.ref o0), .val (.ref o1), .val (.int i2), .val (.ref o3), .val (.int i4), s5] [])) _
  refine XS.aloadN X0.here hx rfl (hb hby d3_0) rfl rfl ?_
  show Steps p.tables e below (T0.setTop (mkF m 1 #[.val (.ref o0), .val (.ref o1), .val (.int i2), .val (.ref o3), .val (.int i4), s5] [(.ref o0)])) _
  refine st6 _ ?_
  show Steps p.tables e below (T6.setTop (mkF m 4 #[.val (.ref o0), .val (.ref o1), .val (.int i2), .val (.ref o3), .val (.int i4), s5] [(.int wc)])) _
  refine XS.iconst X6.here hx rfl (hb hby d3_4) ?_
  show Steps p.tables e below (T6.setTop (mkF m 5 #[.val (.ref o0), .val (.ref o1), .val (.int i2), .val (.ref o3), .val (.int i4), s5] [(.int (1 : Int32)), (.int wc)])) _
  refine XS.icmpNo X6.here hx rfl (hb hby d3_5) rfl (teq hc5).2 ?_
  show Steps p.tables e below (T6.setTop (mkF m 8 #[.val (.ref o0), .val (.ref o1), .val (.int i2), .val (.ref o3), .val (.int i4), s5] [])) _
  refine XS.aloadN X6.here hx rfl (hb hby d3_8) rfl rfl ?_
  show Steps p.tables e below (T6.setTop (mkF m 9 #[.val (.ref o0), .val (.ref o1), .val (.int i2), .val (.ref o3), .val (.int i4), s5] [(.ref o3)])) _
  refine XS.iload X6.here hx rfl (hb hby d3_9) rfl ?_
  show Steps p.tables e below (T6.setTop (mkF m 11 #[.val (.ref o0), .val (.ref o1), .val (.int i2), .val (.ref o3), .val (.int i4), s5] [(.int i4), (.ref o3)])) _
  refine XS.aloadN X6.here hx rfl (hb hby d3_11) rfl rfl ?_
  show Steps p.tables e below (T6.setTop (mkF m 12 #[.val (.ref o0), .val (.ref o1), .val (.int i2), .val (.ref o3), .val (.int i4), s5] [(.ref o3), (.int i4), (.ref o3)])) _
  refine XS.iload X6.here hx rfl (hb hby d3_12) rfl ?_
  show Steps p.tables e below (T6.setTop (mkF m 14 #[.val (.ref o0), .val (.ref o1), .val (.int i2), .val (.ref o3), .val (.int i4), s5] [(.int i4), (.ref o3), (.int i4), (.ref o3)])) _
  refine X6.laload hx (j := i4) (v := (.long x)) (by rw [e6]; exact Ar_14.1) (State.isArrayOf_alike hZ.alike Ar_14.2.1) Ar_14.2.2 hin14 hat14 (g := (mkF m 14 #[.val (.ref o0), .val (.ref o1), .val (.int i2), .val (.ref o3), .val (.int i4), s5] [(.int i4), (.ref o3), (.int i4), (.ref o3)])) rfl rfl (hb hby d3_14) _ ?_
  show Steps p.tables e below (T6.setTop (mkF m 15 #[.val (.ref o0), .val (.ref o1), .val (.int i2), .val (.ref o3), .val (.int i4), s5] [(.long x), (.int i4), (.ref o3)])) _
  refine XS.aloadN X6.here hx rfl (hb hby d3_15) rfl rfl ?_
  show Steps p.tables e below (T6.setTop (mkF m 16 #[.val (.ref o0), .val (.ref o1), .val (.int i2), .val (.ref o3), .val (.int i4), s5] [(.ref o1), (.long x), (.int i4), (.ref o3)])) _
  refine XS.iloadN X6.here hx rfl (hb hby d3_16) rfl ?_
  show Steps p.tables e below (T6.setTop (mkF m 17 #[.val (.ref o0), .val (.ref o1), .val (.int i2), .val (.ref o3), .val (.int i4), s5] [(.int i2), (.ref o1), (.long x), (.int i4), (.ref o3)])) _
  refine X6.laload hx (j := i2) (v := (.long y)) (by rw [e6]; exact Ar_17.1) (State.isArrayOf_alike hZ.alike Ar_17.2.1) Ar_17.2.2 hin17 hat17 (g := (mkF m 17 #[.val (.ref o0), .val (.ref o1), .val (.int i2), .val (.ref o3), .val (.int i4), s5] [(.int i2), (.ref o1), (.long x), (.int i4), (.ref o3)])) rfl rfl (hb hby d3_17) _ ?_
  show Steps p.tables e below (T6.setTop (mkF m 18 #[.val (.ref o0), .val (.ref o1), .val (.int i2), .val (.ref o3), .val (.int i4), s5] [(.long y), (.long x), (.int i4), (.ref o3)])) _
  refine XS.land X6.here hx rfl (hb hby d3_18) rfl ?_
  show Steps p.tables e below (T6.setTop (mkF m 19 #[.val (.ref o0), .val (.ref o1), .val (.int i2), .val (.ref o3), .val (.int i4), s5] [(.long (x &&& y)), (.int i4), (.ref o3)])) _
  refine XS.aloadN X6.here hx rfl (hb hby d3_19) rfl rfl ?_
  show Steps p.tables e below (T6.setTop (mkF m 20 #[.val (.ref o0), .val (.ref o1), .val (.int i2), .val (.ref o3), .val (.int i4), s5] [(.ref o1), (.long (x &&& y)), (.int i4), (.ref o3)])) _
  refine XS.iloadN X6.here hx rfl (hb hby d3_20) rfl ?_
  show Steps p.tables e below (T6.setTop (mkF m 21 #[.val (.ref o0), .val (.ref o1), .val (.int i2), .val (.ref o3), .val (.int i4), s5] [(.int i2), (.ref o1), (.long (x &&& y)), (.int i4), (.ref o3)])) _
  refine XS.iconst X6.here hx rfl (hb hby d3_21) ?_
  show Steps p.tables e below (T6.setTop (mkF m 22 #[.val (.ref o0), .val (.ref o1), .val (.int i2), .val (.ref o3), .val (.int i4), s5] [(.int (1 : Int32)), (.int i2), (.ref o1), (.long (x &&& y)), (.int i4), (.ref o3)])) _
  refine XS.iadd X6.here hx rfl (hb hby d3_22) rfl ?_
  show Steps p.tables e below (T6.setTop (mkF m 23 #[.val (.ref o0), .val (.ref o1), .val (.int i2), .val (.ref o3), .val (.int i4), s5] [(.int (i2 + (1 : Int32))), (.ref o1), (.long (x &&& y)), (.int i4), (.ref o3)])) _
  refine X6.laload hx (j := (i2 + (1 : Int32))) (v := (.long z)) (by rw [e6]; exact Ar_23.1) (State.isArrayOf_alike hZ.alike Ar_23.2.1) Ar_23.2.2 hin23 hat23 (g := (mkF m 23 #[.val (.ref o0), .val (.ref o1), .val (.int i2), .val (.ref o3), .val (.int i4), s5] [(.int (i2 + (1 : Int32))), (.ref o1), (.long (x &&& y)), (.int i4), (.ref o3)])) rfl rfl (hb hby d3_23) _ ?_
  show Steps p.tables e below (T6.setTop (mkF m 24 #[.val (.ref o0), .val (.ref o1), .val (.int i2), .val (.ref o3), .val (.int i4), s5] [(.long z), (.long (x &&& y)), (.int i4), (.ref o3)])) _
  refine XS.lor X6.here hx rfl (hb hby d3_24) rfl ?_
  show Steps p.tables e below (T6.setTop (mkF m 25 #[.val (.ref o0), .val (.ref o1), .val (.int i2), .val (.ref o3), .val (.int i4), s5] [(.long ((x &&& y) ||| z)), (.int i4), (.ref o3)])) _
  refine st7 _ ?_
  show Steps p.tables e below (T7.setTop (mkF m 26 #[.val (.ref o0), .val (.ref o1), .val (.int i2), .val (.ref o3), .val (.int i4), s5] [])) _
  refine XS.goto X7.here hx rfl (pc0 := 26) (pc' := 81) rfl (hb hby d3_26) (by decide) (by decide) ?_
  exact kt
theorem d3_41 : decode prog_77_method_10_code 41 = .ok (.aload_n 3, 1) := by decide +kernel
theorem d3_42 : decode prog_77_method_10_code 42 = .ok (.iload 4, 2) := by decide +kernel
theorem d3_44 : decode prog_77_method_10_code 44 = .ok (.iload 5, 2) := by decide +kernel
theorem d3_46 : decode prog_77_method_10_code 46 = .ok (.iadd, 1) := by decide +kernel
theorem d3_47 : decode prog_77_method_10_code 47 = .ok (.aload_n 3, 1) := by decide +kernel
theorem d3_48 : decode prog_77_method_10_code 48 = .ok (.iload 4, 2) := by decide +kernel
theorem d3_50 : decode prog_77_method_10_code 50 = .ok (.iload 5, 2) := by decide +kernel
theorem d3_52 : decode prog_77_method_10_code 52 = .ok (.iadd, 1) := by decide +kernel
theorem d3_53 : decode prog_77_method_10_code 53 = .ok (.laload, 1) := by decide +kernel
theorem d3_54 : decode prog_77_method_10_code 54 = .ok (.aload_n 1, 1) := by decide +kernel
theorem d3_55 : decode prog_77_method_10_code 55 = .ok (.iload_n 2, 1) := by decide +kernel
theorem d3_56 : decode prog_77_method_10_code 56 = .ok (.iconst 2, 1) := by decide +kernel
theorem d3_57 : decode prog_77_method_10_code 57 = .ok (.iload 5, 2) := by decide +kernel
theorem d3_59 : decode prog_77_method_10_code 59 = .ok (.imul, 1) := by decide +kernel
theorem d3_60 : decode prog_77_method_10_code 60 = .ok (.iadd, 1) := by decide +kernel
theorem d3_61 : decode prog_77_method_10_code 61 = .ok (.laload, 1) := by decide +kernel
theorem d3_62 : decode prog_77_method_10_code 62 = .ok (.land, 1) := by decide +kernel
theorem d3_63 : decode prog_77_method_10_code 63 = .ok (.aload_n 1, 1) := by decide +kernel
theorem d3_64 : decode prog_77_method_10_code 64 = .ok (.iload_n 2, 1) := by decide +kernel
theorem d3_65 : decode prog_77_method_10_code 65 = .ok (.iconst 2, 1) := by decide +kernel
theorem d3_66 : decode prog_77_method_10_code 66 = .ok (.iload 5, 2) := by decide +kernel
theorem d3_68 : decode prog_77_method_10_code 68 = .ok (.imul, 1) := by decide +kernel
theorem d3_69 : decode prog_77_method_10_code 69 = .ok (.iadd, 1) := by decide +kernel
theorem d3_70 : decode prog_77_method_10_code 70 = .ok (.iconst 1, 1) := by decide +kernel
theorem d3_71 : decode prog_77_method_10_code 71 = .ok (.iadd, 1) := by decide +kernel
theorem d3_72 : decode prog_77_method_10_code 72 = .ok (.laload, 1) := by decide +kernel
theorem d3_73 : decode prog_77_method_10_code 73 = .ok (.lor, 1) := by decide +kernel
theorem d3_74 : decode prog_77_method_10_code 74 = .ok (.lastore, 1) := by decide +kernel
theorem d3_75 : decode prog_77_method_10_code 75 = .ok (.iinc 5 1, 3) := by decide +kernel
theorem d3_78 : decode prog_77_method_10_code 78 = .ok (.goto (-46), 3) := by decide +kernel
set_option maxRecDepth 65536 in
set_option maxHeartbeats 40000000 in
theorem apn {p : Program} {l : Launch} {e : Env} {R : Room} {s : State} {m : MethodId} {args : Array Value} {below : List Frame} {meth : Method} {c : Code} {T0 : State} {locs : List Loc} {cells slots : Nat} {Z : State} {a0 : Array Value} {h0 : Heap} (o0 : Addr) (o1 : Addr) (i2 : Int32) (o3 : Addr) (i4 : Int32) (i5 : Int32) (n0 : Nat) (wc : Int32) (fr : Nat) (ap : Nat) (i : Nat) (x : Int64) (y : Int64) (z : Int64) (f_o1 : Nat → Value) (f_o3 : Nat → Value)
    (X0 : Stand p l e R s m args below meth c T0 locs cells slots) (hx : p.tables.exec = Jvm.exec) (hZ : Z.Warmed39 s.vm) (hw : ∀ d ∈ tables_1, d.before a0 Z = true) (hby : c.code = prog_77_method_10_code) (hml : c.maxLocals = 6) (hown : s.vm.findClass "com/example/tight_bounds/tightbounds/model/StateLayout" = some m.cls) (e0 : T0.heap = h0) (Z0 : n0 ≤ h0.size) (N0 : Fr n0 locs) (ixf : own_ix i2 fr) (ixa : own_ix i4 ap) (ixi : own_ix i5 i) (hw6 : ap + i < 6) (hc10 : fr + 2 * i + 1 < 10) (vx : f_o3 (ap + i) = .long x) (vy : f_o1 (fr + 2 * i) = .long y) (vz : f_o1 (fr + 2 * i + 1) = .long z) (ne_o0_o3 : o0 ≠ o3) (ne_o1_o3 : o1 ≠ o3) (V_o1 : Ary Z h0 o1 .long 10 f_o1) (V_o3 : Ary Z h0 o3 .long 6 f_o3) (F_wordCount_o0 : Fld Z h0 o0 "com/example/tight_bounds/tightbounds/model/StateLayout" "wordCount" "I" (.int wc)) (g_o3 : n0 ≤ o3) (hc38 : i5 < wc) :
    ∃ (T' : State) (h' : Heap) (locs' : List Loc), Stand p l e R s m args below meth c T' locs' cells slots ∧ T'.heap = h' ∧ Fr n0 locs' ∧ Keep h0 h' [o3] ∧ n0 ≤ h'.size ∧ Ary Z h' o3 .long 6 (own_up f_o3 (ap + i) (.long ((x &&& y) ||| z))) ∧ Ary Z h' o1 .long 10 f_o1 ∧ Fld Z h' o0 "com/example/tight_bounds/tightbounds/model/StateLayout" "wordCount" "I" (.int wc) ∧
      ∀ target, Steps p.tables e below (T'.setTop (mkF m 32 #[.val (.ref o0), .val (.ref o1), .val (.int i2), .val (.ref o3), .val (.int i4), .val (.int (i5 + (1 : Int32)))] [])) target → Steps p.tables e below (T0.setTop (mkF m 32 #[.val (.ref o0), .val (.ref o1), .val (.int i2), .val (.ref o3), .val (.int i4), .val (.int i5)] [])) target := by
  obtain ⟨T6, X6, e6, st6⟩ := getF X0 hx hZ hown (host := "") (Or.inl (hw _ (List.mem_of_getElem? (i := 31) rfl))) Via.refl e0 F_wordCount_o0 (g := (mkF m 35 #[.val (.ref o0), .val (.ref o1), .val (.int i2), .val (.ref o3), .val (.int i4), .val (.int i5)] [(.ref o0), (.int i5)])) rfl rfl (hb hby d3_35)
  obtain ⟨cl_53, Ar_53, S_53, H_53⟩ := id V_o3
  have hin53 := Ary.inn S_53 (own_ixa ixa ixi (by omega)) (by omega)
  have hat53 := Ary.get H_53 (own_ixa ixa ixi (by omega)) (by omega) (v := (.long x)) vx
  obtain ⟨cl_61, Ar_61, S_61, H_61⟩ := id V_o1
  have hin61 := Ary.inn S_61 (own_ixa ixf (own_ixm ixi (show own_ix (2 : Int32) 2 from rfl) (by omega)) (by omega)) (by omega)
  have hat61 := Ary.get H_61 (own_ixa ixf (own_ixm ixi (show own_ix (2 : Int32) 2 from rfl) (by omega)) (by omega)) (by omega) (v := (.long y)) vy
  obtain ⟨cl_72, Ar_72, S_72, H_72⟩ := id V_o1
  have hin72 := Ary.inn S_72 (own_ixa (own_ixa ixf (own_ixm ixi (show own_ix (2 : Int32) 2 from rfl) (by omega)) (by omega)) (show own_ix (1 : Int32) 1 from rfl) (by omega)) (by omega)
  have hat72 := Ary.get H_72 (own_ixa (own_ixa ixf (own_ixm ixi (show own_ix (2 : Int32) 2 from rfl) (by omega)) (by omega)) (show own_ix (1 : Int32) 1 from rfl) (by omega)) (by omega) (v := (.long z)) vz
  obtain ⟨cl_74, Ar_74, S_74, H_74⟩ := id V_o3
  have hin74 := Ary.inn S_74 (own_ixa ixa ixi (by omega)) (by omega)
  obtain ⟨T7, h7, X7, e7, W7, st7⟩ := stJ X6 hx hZ e6 Ar_74 (j := (i4 + i5)) hin74 (g := (mkF m 74 #[.val (.ref o0), .val (.ref o1), .val (.int i2), .val (.ref o3), .val (.int i4), .val (.int i5)] [(.long ((x &&& y) ||| z)), (.int (i4 + i5)), (.ref o3)])) rfl rfl (hb hby d3_74)
  have V_o3_7 := Ary.set Ar_74 S_74 H_74 W7 (own_ixa ixa ixi (by omega))
  have K7 : Keep h0 h7 [o3] := (Keep.refl h0 [o3]).wr W7 (Or.inl (List.mem_of_getElem? (i := 0) rfl))
  have N7 := Fr.snoc X7 N0 g_o3
  have Vend_o1 := (V_o1.other W7 ne_o1_o3)
  have Vend_o3 := V_o3_7
  have Fend_wordCount_o0 := (F_wordCount_o0.other W7 (Or.inl ne_o0_o3))
  have Zend : n0 ≤ h7.size := (Nat.le_trans Z0 (Keep.of_wr W7).1)
  have Kend := K7
  refine ⟨T7, _, _, X7, e7, N7, Kend, Zend, Vend_o3, Vend_o1, Fend_wordCount_o0, fun target kt => ?_⟩
  show Steps p.tables e below (T0.setTop (mkF m 32 #[.val (.ref o0), .val (.ref o1), .val (.int i2), .val (.ref o3), .val (.int i4), .val (.int i5)] [])) _
  refine XS.iload X0.here hx rfl (hb hby d3_32) rfl ?_
  show Steps p.tables e below (T0.setTop (mkF m 34 #[.val (.ref o0), .val (.ref o1), .val (.int i2), .val (.ref o3), .val (.int i4), .val (.int i5)] [(.int i5)])) _
  refine XS.aloadN X0.here hx rfl (hb hby d3_34) rfl rfl ?_
  show Steps p.tables e below (T0.setTop (mkF m 35 #[.val (.ref o0), .val (.ref o1), .val (.int i2), .val (.ref o3), .val (.int i4), .val (.int i5)] [(.ref o0), (.int i5)])) _
  refine st6 _ ?_
  show Steps p.tables e below (T6.setTop (mkF m 38 #[.val (.ref o0), .val (.ref o1), .val (.int i2), .val (.ref o3), .val (.int i4), .val (.int i5)] [(.int wc), (.int i5)])) _
  refine XS.icmpNo X6.here hx rfl (hb hby d3_38) rfl (tlt hc38).2.1 ?_
  show Steps p.tables e below (T6.setTop (mkF m 41 #[.val (.ref o0), .val (.ref o1), .val (.int i2), .val (.ref o3), .val (.int i4), .val (.int i5)] [])) _
  refine XS.aloadN X6.here hx rfl (hb hby d3_41) rfl rfl ?_
  show Steps p.tables e below (T6.setTop (mkF m 42 #[.val (.ref o0), .val (.ref o1), .val (.int i2), .val (.ref o3), .val (.int i4), .val (.int i5)] [(.ref o3)])) _
  refine XS.iload X6.here hx rfl (hb hby d3_42) rfl ?_
  show Steps p.tables e below (T6.setTop (mkF m 44 #[.val (.ref o0), .val (.ref o1), .val (.int i2), .val (.ref o3), .val (.int i4), .val (.int i5)] [(.int i4), (.ref o3)])) _
  refine XS.iload X6.here hx rfl (hb hby d3_44) rfl ?_
  show Steps p.tables e below (T6.setTop (mkF m 46 #[.val (.ref o0), .val (.ref o1), .val (.int i2), .val (.ref o3), .val (.int i4), .val (.int i5)] [(.int i5), (.int i4), (.ref o3)])) _
  refine XS.iadd X6.here hx rfl (hb hby d3_46) rfl ?_
  show Steps p.tables e below (T6.setTop (mkF m 47 #[.val (.ref o0), .val (.ref o1), .val (.int i2), .val (.ref o3), .val (.int i4), .val (.int i5)] [(.int (i4 + i5)), (.ref o3)])) _
  refine XS.aloadN X6.here hx rfl (hb hby d3_47) rfl rfl ?_
  show Steps p.tables e below (T6.setTop (mkF m 48 #[.val (.ref o0), .val (.ref o1), .val (.int i2), .val (.ref o3), .val (.int i4), .val (.int i5)] [(.ref o3), (.int (i4 + i5)), (.ref o3)])) _
  refine XS.iload X6.here hx rfl (hb hby d3_48) rfl ?_
  show Steps p.tables e below (T6.setTop (mkF m 50 #[.val (.ref o0), .val (.ref o1), .val (.int i2), .val (.ref o3), .val (.int i4), .val (.int i5)] [(.int i4), (.ref o3), (.int (i4 + i5)), (.ref o3)])) _
  refine XS.iload X6.here hx rfl (hb hby d3_50) rfl ?_
  show Steps p.tables e below (T6.setTop (mkF m 52 #[.val (.ref o0), .val (.ref o1), .val (.int i2), .val (.ref o3), .val (.int i4), .val (.int i5)] [(.int i5), (.int i4), (.ref o3), (.int (i4 + i5)), (.ref o3)])) _
  refine XS.iadd X6.here hx rfl (hb hby d3_52) rfl ?_
  show Steps p.tables e below (T6.setTop (mkF m 53 #[.val (.ref o0), .val (.ref o1), .val (.int i2), .val (.ref o3), .val (.int i4), .val (.int i5)] [(.int (i4 + i5)), (.ref o3), (.int (i4 + i5)), (.ref o3)])) _
  refine X6.laload hx (j := (i4 + i5)) (v := (.long x)) (by rw [e6]; exact Ar_53.1) (State.isArrayOf_alike hZ.alike Ar_53.2.1) Ar_53.2.2 hin53 hat53 (g := (mkF m 53 #[.val (.ref o0), .val (.ref o1), .val (.int i2), .val (.ref o3), .val (.int i4), .val (.int i5)] [(.int (i4 + i5)), (.ref o3), (.int (i4 + i5)), (.ref o3)])) rfl rfl (hb hby d3_53) _ ?_
  show Steps p.tables e below (T6.setTop (mkF m 54 #[.val (.ref o0), .val (.ref o1), .val (.int i2), .val (.ref o3), .val (.int i4), .val (.int i5)] [(.long x), (.int (i4 + i5)), (.ref o3)])) _
  refine XS.aloadN X6.here hx rfl (hb hby d3_54) rfl rfl ?_
  show Steps p.tables e below (T6.setTop (mkF m 55 #[.val (.ref o0), .val (.ref o1), .val (.int i2), .val (.ref o3), .val (.int i4), .val (.int i5)] [(.ref o1), (.long x), (.int (i4 + i5)), (.ref o3)])) _
  refine XS.iloadN X6.here hx rfl (hb hby d3_55) rfl ?_
  show Steps p.tables e below (T6.setTop (mkF m 56 #[.val (.ref o0), .val (.ref o1), .val (.int i2), .val (.ref o3), .val (.int i4), .val (.int i5)] [(.int i2), (.ref o1), (.long x), (.int (i4 + i5)), (.ref o3)])) _
  refine XS.iconst X6.here hx rfl (hb hby d3_56) ?_
  show Steps p.tables e below (T6.setTop (mkF m 57 #[.val (.ref o0), .val (.ref o1), .val (.int i2), .val (.ref o3), .val (.int i4), .val (.int i5)] [(.int (2 : Int32)), (.int i2), (.ref o1), (.long x), (.int (i4 + i5)), (.ref o3)])) _
  refine XS.iload X6.here hx rfl (hb hby d3_57) rfl ?_
  show Steps p.tables e below (T6.setTop (mkF m 59 #[.val (.ref o0), .val (.ref o1), .val (.int i2), .val (.ref o3), .val (.int i4), .val (.int i5)] [(.int i5), (.int (2 : Int32)), (.int i2), (.ref o1), (.long x), (.int (i4 + i5)), (.ref o3)])) _
  refine XS.imul X6.here hx rfl (hb hby d3_59) rfl ?_
  show Steps p.tables e below (T6.setTop (mkF m 60 #[.val (.ref o0), .val (.ref o1), .val (.int i2), .val (.ref o3), .val (.int i4), .val (.int i5)] [(.int ((2 : Int32) * i5)), (.int i2), (.ref o1), (.long x), (.int (i4 + i5)), (.ref o3)])) _
  refine XS.iadd X6.here hx rfl (hb hby d3_60) rfl ?_
  show Steps p.tables e below (T6.setTop (mkF m 61 #[.val (.ref o0), .val (.ref o1), .val (.int i2), .val (.ref o3), .val (.int i4), .val (.int i5)] [(.int (i2 + ((2 : Int32) * i5))), (.ref o1), (.long x), (.int (i4 + i5)), (.ref o3)])) _
  refine X6.laload hx (j := (i2 + ((2 : Int32) * i5))) (v := (.long y)) (by rw [e6]; exact Ar_61.1) (State.isArrayOf_alike hZ.alike Ar_61.2.1) Ar_61.2.2 hin61 hat61 (g := (mkF m 61 #[.val (.ref o0), .val (.ref o1), .val (.int i2), .val (.ref o3), .val (.int i4), .val (.int i5)] [(.int (i2 + ((2 : Int32) * i5))), (.ref o1), (.long x), (.int (i4 + i5)), (.ref o3)])) rfl rfl (hb hby d3_61) _ ?_
  show Steps p.tables e below (T6.setTop (mkF m 62 #[.val (.ref o0), .val (.ref o1), .val (.int i2), .val (.ref o3), .val (.int i4), .val (.int i5)] [(.long y), (.long x), (.int (i4 + i5)), (.ref o3)])) _
  refine XS.land X6.here hx rfl (hb hby d3_62) rfl ?_
  show Steps p.tables e below (T6.setTop (mkF m 63 #[.val (.ref o0), .val (.ref o1), .val (.int i2), .val (.ref o3), .val (.int i4), .val (.int i5)] [(.long (x &&& y)), (.int (i4 + i5)), (.ref o3)])) _
  refine XS.aloadN X6.here hx rfl (hb hby d3_63) rfl rfl ?_
  show Steps p.tables e below (T6.setTop (mkF m 64 #[.val (.ref o0), .val (.ref o1), .val (.int i2), .val (.ref o3), .val (.int i4), .val (.int i5)] [(.ref o1), (.long (x &&& y)), (.int (i4 + i5)), (.ref o3)])) _
  refine XS.iloadN X6.here hx rfl (hb hby d3_64) rfl ?_
  show Steps p.tables e below (T6.setTop (mkF m 65 #[.val (.ref o0), .val (.ref o1), .val (.int i2), .val (.ref o3), .val (.int i4), .val (.int i5)] [(.int i2), (.ref o1), (.long (x &&& y)), (.int (i4 + i5)), (.ref o3)])) _
  refine XS.iconst X6.here hx rfl (hb hby d3_65) ?_
  show Steps p.tables e below (T6.setTop (mkF m 66 #[.val (.ref o0), .val (.ref o1), .val (.int i2), .val (.ref o3), .val (.int i4), .val (.int i5)] [(.int (2 : Int32)), (.int i2), (.ref o1), (.long (x &&& y)), (.int (i4 + i5)), (.ref o3)])) _
  refine XS.iload X6.here hx rfl (hb hby d3_66) rfl ?_
  show Steps p.tables e below (T6.setTop (mkF m 68 #[.val (.ref o0), .val (.ref o1), .val (.int i2), .val (.ref o3), .val (.int i4), .val (.int i5)] [(.int i5), (.int (2 : Int32)), (.int i2), (.ref o1), (.long (x &&& y)), (.int (i4 + i5)), (.ref o3)])) _
  refine XS.imul X6.here hx rfl (hb hby d3_68) rfl ?_
  show Steps p.tables e below (T6.setTop (mkF m 69 #[.val (.ref o0), .val (.ref o1), .val (.int i2), .val (.ref o3), .val (.int i4), .val (.int i5)] [(.int ((2 : Int32) * i5)), (.int i2), (.ref o1), (.long (x &&& y)), (.int (i4 + i5)), (.ref o3)])) _
  refine XS.iadd X6.here hx rfl (hb hby d3_69) rfl ?_
  show Steps p.tables e below (T6.setTop (mkF m 70 #[.val (.ref o0), .val (.ref o1), .val (.int i2), .val (.ref o3), .val (.int i4), .val (.int i5)] [(.int (i2 + ((2 : Int32) * i5))), (.ref o1), (.long (x &&& y)), (.int (i4 + i5)), (.ref o3)])) _
  refine XS.iconst X6.here hx rfl (hb hby d3_70) ?_
  show Steps p.tables e below (T6.setTop (mkF m 71 #[.val (.ref o0), .val (.ref o1), .val (.int i2), .val (.ref o3), .val (.int i4), .val (.int i5)] [(.int (1 : Int32)), (.int (i2 + ((2 : Int32) * i5))), (.ref o1), (.long (x &&& y)), (.int (i4 + i5)), (.ref o3)])) _
  refine XS.iadd X6.here hx rfl (hb hby d3_71) rfl ?_
  show Steps p.tables e below (T6.setTop (mkF m 72 #[.val (.ref o0), .val (.ref o1), .val (.int i2), .val (.ref o3), .val (.int i4), .val (.int i5)] [(.int ((i2 + ((2 : Int32) * i5)) + (1 : Int32))), (.ref o1), (.long (x &&& y)), (.int (i4 + i5)), (.ref o3)])) _
  refine X6.laload hx (j := ((i2 + ((2 : Int32) * i5)) + (1 : Int32))) (v := (.long z)) (by rw [e6]; exact Ar_72.1) (State.isArrayOf_alike hZ.alike Ar_72.2.1) Ar_72.2.2 hin72 hat72 (g := (mkF m 72 #[.val (.ref o0), .val (.ref o1), .val (.int i2), .val (.ref o3), .val (.int i4), .val (.int i5)] [(.int ((i2 + ((2 : Int32) * i5)) + (1 : Int32))), (.ref o1), (.long (x &&& y)), (.int (i4 + i5)), (.ref o3)])) rfl rfl (hb hby d3_72) _ ?_
  show Steps p.tables e below (T6.setTop (mkF m 73 #[.val (.ref o0), .val (.ref o1), .val (.int i2), .val (.ref o3), .val (.int i4), .val (.int i5)] [(.long z), (.long (x &&& y)), (.int (i4 + i5)), (.ref o3)])) _
  refine XS.lor X6.here hx rfl (hb hby d3_73) rfl ?_
  show Steps p.tables e below (T6.setTop (mkF m 74 #[.val (.ref o0), .val (.ref o1), .val (.int i2), .val (.ref o3), .val (.int i4), .val (.int i5)] [(.long ((x &&& y) ||| z)), (.int (i4 + i5)), (.ref o3)])) _
  refine st7 _ ?_
  show Steps p.tables e below (T7.setTop (mkF m 75 #[.val (.ref o0), .val (.ref o1), .val (.int i2), .val (.ref o3), .val (.int i4), .val (.int i5)] [])) _
  refine XS.iinc X7.here hx rfl (hb hby d3_75) rfl (l' := #[.val (.ref o0), .val (.ref o1), .val (.int i2), .val (.ref o3), .val (.int i4), .val (.int (i5 + (1 : Int32)))]) rfl ?_
  show Steps p.tables e below (T7.setTop (mkF m 78 #[.val (.ref o0), .val (.ref o1), .val (.int i2), .val (.ref o3), .val (.int i4), .val (.int (i5 + (1 : Int32)))] [])) _
  refine XS.goto X7.here hx rfl (pc0 := 78) (pc' := 32) rfl (hb hby d3_78) (by decide) (by decide) ?_
  exact kt
theorem loop3 {p : Program} {l : Launch} {e : Env} {s : State} {m : MethodId} {args : Array Value} {below : List Frame} {meth : Method} {c : Code} {cells slots : Nat} {Z : State} {a0 : Array Value} {R : Room} (o0 o1 : Addr) (i2 : Int32) (o3 : Addr) (i4 wc : Int32) (n0 fr ap wn : Nat) (C D : Nat → Int64) (hx : p.tables.exec = Jvm.exec) (hZ : Z.Warmed39 s.vm) (hw : ∀ d ∈ tables_1, d.before a0 Z = true) (hby : c.code = prog_77_method_10_code) (hml : c.maxLocals = 6) (hown : s.vm.findClass "com/example/tight_bounds/tightbounds/model/StateLayout" = some m.cls) (ixf : own_ix i2 fr) (ixa : own_ix i4 ap) (ixw : own_ix wc wn) (h6 : ap + wn ≤ 6) (h10 : fr + 2 * wn ≤ 10) (ne03 : o0 ≠ o3) (ne13 : o1 ≠ o3) (g3 : n0 ≤ o3) :
    ∀ (k i : Nat) (i5 : Int32) (T0 : State) (h0 : Heap) (locs : List Loc), i + k = wn → own_ix i5 i → Stand p l e R s m args below meth c T0 locs cells slots → T0.heap = h0 → n0 ≤ h0.size → Fr n0 locs → Ary Z h0 o1 .long 10 (fun j => .long (C j)) → Ary Z h0 o3 .long 6 (fun j => .long (own_apv C (D j) fr ap i j)) → Fld Z h0 o0 "com/example/tight_bounds/tightbounds/model/StateLayout" "wordCount" "I" (.int wc) →
    ∃ (T' : State) (h' : Heap) (locs' : List Loc) (i5' : Int32), Stand p l e R s m args below meth c T' locs' cells slots ∧ T'.heap = h' ∧ Fr n0 locs' ∧ Keep h0 h' [o3] ∧ Ary Z h' o3 .long 6 (fun j => .long (own_apv C (D j) fr ap wn j)) ∧ ∀ target, Steps p.tables e below (T'.setTop (mkF m 81 #[.val (.ref o0), .val (.ref o1), .val (.int i2), .val (.ref o3), .val (.int i4), .val (.int i5')] [])) target → Steps p.tables e below (T0.setTop (mkF m 32 #[.val (.ref o0), .val (.ref o1), .val (.int i2), .val (.ref o3), .val (.int i4), .val (.int i5)] [])) target := by
  intro k
  induction k with
  | zero =>
    intro i i5 T0 h0 locs hk ix X0 e0 Z0 N0 V1 V3 FW
    obtain rfl : i = wn := by omega
    have hc : ¬ (i5 < wc) := fun q => by have := (own_ixlt ix ixw).mp q; omega
    obtain ⟨T1, X1, e1, st1⟩ := tn3_32_81 o0 (.val (.ref o1)) (.val (.int i2)) (.val (.ref o3)) (.val (.int i4)) i5 wc X0 hx hZ hw hby hml hown e0 FW hc
    exact ⟨T1, h0, locs, i5, X1, e1, N0, Keep.refl _ _, V3, st1⟩
  | succ k ih =>
    intro i i5 T0 h0 locs hk ix X0 e0 Z0 N0 V1 V3 FW
    have hc : i5 < wc := (own_ixlt ix ixw).mpr (by omega)
    obtain ⟨T1, h1, L1, X1, e1, N1, K1, Z1, V3', V1', FW', st1⟩ := apn o0 o1 i2 o3 i4 i5 n0 wc fr ap i (D (ap + i)) (C (fr + 2 * i)) (C (fr + 2 * i + 1)) (fun j => .long (C j)) (fun j => .long (own_apv C (D j) fr ap i j)) X0 hx hZ hw hby hml hown e0 Z0 N0 ixf ixa ix (by omega) (by omega) (congrArg Value.long (own_apv_out (by omega))) rfl rfl ne03 ne13 V1 V3 FW g3 hc
    obtain ⟨T2, h2, L2, i5', X2, e2, N2, K2, V2, st2⟩ := ih (i + 1) (i5 + (1 : Int32)) T1 h1 L1 (by omega) (own_ixa ix (show own_ix (1 : Int32) 1 from rfl) (by omega)) X1 e1 Z1 N1 V1' (V3'.cong (fun j _ => own_apstep C D fr ap i j)) FW'
    exact ⟨T2, h2, L2, i5', X2, e2, N2, K1.trans K2 (fun x hx => Or.inl hx), V2, fun target kt => st1 target (st2 target kt)⟩
theorem d3_81 : decode prog_77_method_10_code 81 = .ok (.return_, 1) := by decide +kernel
theorem pn_3 : plainName "com/example/tight_bounds/tightbounds/model/StateLayout" = true := by first | (simp [plainName, overriddenIn]; done) | decide +kernel
theorem ef_3 (m : MethodId) (x0 : Addr) (x1 : Addr) (x2 : Int32) (x3 : Addr) (x4 : Int32) : entryFrame m #[(.ref x0), (.ref x1), (.int x2), (.ref x3), (.int x4)] 6 = mkF m 0 #[.val (.ref x0), .val (.ref x1), .val (.int x2), .val (.ref x3), .val (.int x4), .unset] [] := by first | (simp [entryFrame, mkF, argsToLocals, Value.category]; done) | rfl
def Q3 (Z : State) (a1 : Addr) (a2 : Addr) (p3 : Int32) (a4 : Addr) (p5 : Int32) (wc : Int32) (C : Nat → Int64) (D : Nat → Int64) (fr : Nat) (ap : Nat) (wn : Nat) (h0 : Heap) (n0 : Nat) (v : Option Value) (h : Heap) (L : List Loc) : Prop := v = none ∧ Fr n0 L ∧ Keep h0 h [a4] ∧ Ary Z h a4 .long 6 (fun j => .long (own_apv C (D j) fr ap wn j))
set_option maxRecDepth 65536 in
set_option maxHeartbeats 40000000 in
theorem rm3 (l : Launch) (Z : State) (a0 : Array Value) (hw : ∀ d ∈ tables_1, d.before a0 Z = true) (ws : List Jvm.Cond) (a1 : Addr) (a2 : Addr) (p3 : Int32) (a4 : Addr) (p5 : Int32) (wc : Int32) (C : Nat → Int64) (D : Nat → Int64) (fr : Nat) (ap : Nat) (wn : Nat) (h0 : Heap) (n0 : Nat) (Z0 : n0 ≤ h0.size) (ixf : own_ix p3 fr) (ixa : own_ix p5 ap) (ixw : own_ix wc wn) (h6 : ap + wn ≤ 6) (h10 : fr + 2 * wn ≤ 10) (ne14 : a1 ≠ a4) (ne24 : a2 ≠ a4) (g_a4 : n0 ≤ a4) (V2 : Ary Z h0 a2 .long 10 (fun j => .long (C j))) (V4 : Ary Z h0 a4 .long 6 (fun j => .long (D j))) (FW : Fld Z h0 a1 "com/example/tight_bounds/tightbounds/model/StateLayout" "wordCount" "I" (.int wc)) :
    MetFree l (⟨"com/example/tight_bounds/tightbounds/model/StateLayout", "apply", "([JI[JI)V"⟩ : MethodName) (head1 (Jvm.Cond.code (⟨"com/example/tight_bounds/tightbounds/model/StateLayout", "apply", "([JI[JI)V"⟩ : MethodName) prog_77_method_10_code 6 none :: ws) ({ frames := 0, cells := 0, slots := 0, locals := 0 } : Room)) (fun a U => a = #[(.ref a1), (.ref a2), (.int p3), (.ref a4), (.int p5)] ∧ Z.Warmed39 U.vm ∧ U.heap = h0) (fun _ _ _ _ _ => True) (fun _ U o U' => ∃ v L, o = .returned v ∧ Q3 Z a1 a2 p3 a4 p5 wc C D fr ap wn h0 n0 v U'.heap L ∧ FrameEnd U o U' L ({ frames := 0, cells := 0, slots := 0, locals := 0 } : Room).cells ({ frames := 0, cells := 0, slots := 0, locals := 0 } : Room).slots) := by
  refine MetFree.of_bodySF (plainFor_of_name pn_3) hisR ?_
  intro p e s m args below meth c s₁ Bd hml0 hP hK
  obtain ⟨rfl, hZ, hh⟩ := hP
  have hx := Bd.exec
  have hby := Bd.bytes
  have hml : c.maxLocals = 6 := hml0
  have hown : s.vm.findClass "com/example/tight_bounds/tightbounds/model/StateLayout" = some m.cls := findClass_of_methodNamed Bd.named
  have hnm := (name_of_methodNamed Bd.named Bd.method).1
  have X0 : Stand p l e ({ frames := 0, cells := 0, slots := 0, locals := 0 } : Room) s m #[(.ref a1), (.ref a2), (.int p3), (.ref a4), (.int p5)] below meth c s₁ [] 0 0 := Stand.of_body Bd
  have e0 : s₁.heap = h0 := by rw [← hh, Bd.state]; rfl
  have N0 := Fr.nil n0
  have pre0 : ∀ t, Steps p.tables e below (s₁.setTop (mkF m 0 #[.val (.ref a1), .val (.ref a2), .val (.int p3), .val (.ref a4), .val (.int p5), .unset] [])) t → Steps p.tables e below (s₁.setTop (entryFrame m #[(.ref a1), (.ref a2), (.int p3), (.ref a4), (.int p5)] 6)) t := fun t k => castTop (ef_3 m a1 a2 p3 a4 p5) k
  have V4' : Ary Z h0 a4 .long 6 (fun j => .long (own_apv C (D j) fr ap 0 j)) := V4.cong (fun j _ => congrArg Value.long (own_apv_out (by omega)).symm)
  by_cases h1 : wn = 1
  · subst h1
    have hc : wc = (1 : Int32) := (own_ixeq ixw (show own_ix (1 : Int32) 1 from rfl)).mpr rfl
    obtain ⟨T9, h9, L9, X9, e9, N9, K9, Z9, V9, V2', FW', st9⟩ := ap1 a1 a2 p3 a4 p5 .unset n0 wc fr ap (D ap) (C fr) (C (fr + 1)) (fun j => .long (C j)) (fun j => .long (own_apv C (D j) fr ap 0 j)) X0 hx hZ hw hby hml hown e0 Z0 N0 ixf ixa (by omega) (by omega) (congrArg Value.long (own_apv_out (by omega))) rfl rfl ne14 ne24 V2 V4' FW g_a4 hc
    obtain ⟨fs, hr, hrun, hended, hW, hsame⟩ := X9.leave (v := none) (fun _ => rfl)
    refine ⟨_, _, pre0 _ ?_, hrun, hended, _, _, rfl, ?_, ⟨_, rfl⟩, hW, hsame.mono (by decide) (by decide)⟩
    · refine st9 _ ?_
      exact X9.returnOut hx Bd.returns (hb hby d3_81) hr
    · show Q3 Z a1 a2 p3 a4 p5 wc C D fr ap 1 h0 n0 _ T9.heap _
      rw [e9]
      exact ⟨rfl, N9, K9, V9.cong (fun j _ => own_apstep C D fr ap 0 j)⟩
  · have hc : ¬ (wc = (1 : Int32)) := fun q => h1 ((own_ixeq ixw (show own_ix (1 : Int32) 1 from rfl)).mp q)
    obtain ⟨T1, X1, e1, st1⟩ := tn3_0_29 a1 (.val (.ref a2)) (.val (.int p3)) (.val (.ref a4)) (.val (.int p5)) .unset wc X0 hx hZ hw hby hml hown e0 FW hc
    obtain ⟨T2, X2, e2, st2⟩ := tn3_29_32 (.val (.ref a1)) (.val (.ref a2)) (.val (.int p3)) (.val (.ref a4)) (.val (.int p5)) X1 hx hZ hw hby hml hown e1
    obtain ⟨T9, h9, L9, i5', X9, e9, N9, K9, V9, st9⟩ := loop3 a1 a2 p3 a4 p5 wc n0 fr ap wn C D hx hZ hw hby hml hown ixf ixa ixw h6 h10 ne14 ne24 g_a4 wn 0 (0 : Int32) T2 h0 [] (by omega) (show own_ix (0 : Int32) 0 from rfl) X2 e2 Z0 N0 V2 V4' FW
    obtain ⟨fs, hr, hrun, hended, hW, hsame⟩ := X9.leave (v := none) (fun _ => rfl)
    refine ⟨_, _, pre0 _ ?_, hrun, hended, _, _, rfl, ?_, ⟨_, rfl⟩, hW, hsame.mono (by decide) (by decide)⟩
    · refine st1 _ (st2 _ (st9 _ ?_))
      exact X9.returnOut hx Bd.returns (hb hby d3_81) hr
    · show Q3 Z a1 a2 p3 a4 p5 wc C D fr ap wn h0 n0 _ T9.heap _
      rw [e9]
      exact ⟨rfl, N9, K9, V9⟩
theorem d4_0 : decode method_3_code 0 = .ok (.iload 5, 2) := by decide +kernel
theorem d4_2 : decode method_3_code 2 = .ok (.iload 6, 2) := by decide +kernel
theorem d4_4 : decode method_3_code 4 = .ok (.isub, 1) := by decide +kernel
theorem d4_5 : decode method_3_code 5 = .ok (.istore 9, 2) := by decide +kernel
theorem d4_7 : decode method_3_code 7 = .ok (.iload 9, 2) := by decide +kernel
theorem d4_9 : decode method_3_code 9 = .ok (.ifCond .lt 10, 3) := by decide +kernel
theorem d4_19 : decode method_3_code 19 = .ok (.lload_n 2, 1) := by decide +kernel
theorem d4_20 : decode method_3_code 20 = .ok (.lload_n 0, 1) := by decide +kernel
theorem d4_21 : decode method_3_code 21 = .ok (.lcmp, 1) := by decide +kernel
theorem d4_22 : decode method_3_code 22 = .ok (.ifCond .ne 7, 3) := by decide +kernel
theorem d4_25 : decode method_3_code 25 = .ok (.iconst 1, 1) := by decide +kernel
theorem d4_26 : decode method_3_code 26 = .ok (.goto 4, 3) := by decide +kernel
theorem d4_30 : decode method_3_code 30 = .ok (.ireturn, 1) := by decide +kernel
theorem pn_4 : plainName "com/example/tight_bounds/tightbounds/model/StateLayoutApplyPinLaw" = true := by first | (simp [plainName, overriddenIn]; done) | decide +kernel
theorem ef_4 (m : MethodId) (x0 : Int64) (x1 : Int64) (x2 : Addr) (x3 : Int32) (x4 : Int32) (x5 : Int32) (x6 : Int32) : entryFrame m #[(.long x0), (.long x1), (.ref x2), (.int x3), (.int x4), (.int x5), (.int x6)] 10 = mkF m 0 #[.val (.long x0), .second, .val (.long x1), .second, .val (.ref x2), .val (.int x3), .val (.int x4), .val (.int x5), .val (.int x6), .unset] [] := by first | (simp [entryFrame, mkF, argsToLocals, Value.category]; done) | rfl
def Q4 (Z : State) (q1 : Int64) (q2 : Int64) (a3 : Addr) (p4 : Int32) (p5 : Int32) (p6 : Int32) (p7 : Int32) (C : Nat → Int64) (i : Nat) (fr : Nat) (ap : Nat) (wn : Nat) (h0 : Heap) (n0 : Nat) (v : Option Value) (h : Heap) (L : List Loc) : Prop := v = some (.int (1 : Int32)) ∧ Fr n0 L ∧ h = h0
set_option maxRecDepth 65536 in
set_option maxHeartbeats 40000000 in
theorem rm4tf (l : Launch) (Z : State) (a0 : Array Value) (hw : ∀ d ∈ tables_1, d.before a0 Z = true) (ws : List Jvm.Cond) (q1 : Int64) (q2 : Int64) (a3 : Addr) (p4 : Int32) (p5 : Int32) (p6 : Int32) (p7 : Int32) (C : Nat → Int64) (i : Nat) (fr : Nat) (ap : Nat) (wn : Nat) (h0 : Heap) (n0 : Nat) (Z0 : n0 ≤ h0.size) (hc9 : (p4 - p5) < (0 : Int32)) (hc22 : (lcmpW q2 q1) = (0 : Int32)) :
    MetFree l (⟨"com/example/tight_bounds/tightbounds/model/StateLayoutApplyPinLaw", "ok", "(JJ[JIIII)Z"⟩ : MethodName) (head1 (Jvm.Cond.code (⟨"com/example/tight_bounds/tightbounds/model/StateLayoutApplyPinLaw", "ok", "(JJ[JIIII)Z"⟩ : MethodName) method_3_code 10 (some .boolean) :: ws) ({ frames := 0, cells := 0, slots := 0, locals := 0 } : Room)) (fun a U => a = #[(.long q1), (.long q2), (.ref a3), (.int p4), (.int p5), (.int p6), (.int p7)] ∧ Z.Warmed39 U.vm ∧ U.heap = h0) (fun _ _ _ _ _ => True) (fun _ U o U' => ∃ v L, o = .returned v ∧ Q4 Z q1 q2 a3 p4 p5 p6 p7 C i fr ap wn h0 n0 v U'.heap L ∧ FrameEnd U o U' L ({ frames := 0, cells := 0, slots := 0, locals := 0 } : Room).cells ({ frames := 0, cells := 0, slots := 0, locals := 0 } : Room).slots) := by
  refine MetFree.of_bodySF (plainFor_of_name pn_4) hisR ?_
  intro p e s m args below meth c s₁ Bd hml0 hP hK
  obtain ⟨rfl, hZ, hh⟩ := hP
  have hx := Bd.exec
  have hby := Bd.bytes
  have hml : c.maxLocals = 10 := hml0
  have hown : s.vm.findClass "com/example/tight_bounds/tightbounds/model/StateLayoutApplyPinLaw" = some m.cls := findClass_of_methodNamed Bd.named
  have hnm := (name_of_methodNamed Bd.named Bd.method).1
  have X0 : Stand p l e ({ frames := 0, cells := 0, slots := 0, locals := 0 } : Room) s m #[(.long q1), (.long q2), (.ref a3), (.int p4), (.int p5), (.int p6), (.int p7)] below meth c s₁ [] 0 0 := Stand.of_body Bd
  have e0 : s₁.heap = h0 := by rw [← hh, Bd.state]; rfl
  have N0 := Fr.nil n0
  have pre0 : ∀ t, Steps p.tables e below (s₁.setTop (mkF m 0 #[.val (.long q1), .second, .val (.long q2), .second, .val (.ref a3), .val (.int p4), .val (.int p5), .val (.int p6), .val (.int p7), .unset] [])) t → Steps p.tables e below (s₁.setTop (entryFrame m #[(.long q1), (.long q2), (.ref a3), (.int p4), (.int p5), (.int p6), (.int p7)] 10)) t := fun t k => castTop (ef_4 m q1 q2 a3 p4 p5 p6 p7) k
  obtain ⟨fs, hr, hrun, hended, hW, hsame⟩ := X0.leave (v := some (.int (1 : Int32))) (fun h => by rw [Bd.returns] at h; cases h)
  refine ⟨_, _, pre0 _ ?_, hrun, hended, _, _, rfl, ?_, ⟨_, rfl⟩, hW, hsame.mono (by decide) (by decide)⟩
  · show Steps p.tables e below (s₁.setTop (mkF m 0 #[.val (.long q1), .second, .val (.long q2), .second, .val (.ref a3), .val (.int p4), .val (.int p5), .val (.int p6), .val (.int p7), .unset] [])) _
    refine XS.iload X0.here hx rfl (hb hby d4_0) rfl ?_
    show Steps p.tables e below (s₁.setTop (mkF m 2 #[.val (.long q1), .second, .val (.long q2), .second, .val (.ref a3), .val (.int p4), .val (.int p5), .val (.int p6), .val (.int p7), .unset] [(.int p4)])) _
    refine XS.iload X0.here hx rfl (hb hby d4_2) rfl ?_
    show Steps p.tables e below (s₁.setTop (mkF m 4 #[.val (.long q1), .second, .val (.long q2), .second, .val (.ref a3), .val (.int p4), .val (.int p5), .val (.int p6), .val (.int p7), .unset] [(.int p5), (.int p4)])) _
    refine XS.isub X0.here hx rfl (hb hby d4_4) rfl ?_
    show Steps p.tables e below (s₁.setTop (mkF m 5 #[.val (.long q1), .second, .val (.long q2), .second, .val (.ref a3), .val (.int p4), .val (.int p5), .val (.int p6), .val (.int p7), .unset] [(.int (p4 - p5))])) _
    refine XS.istore X0.here hx rfl (hb hby d4_5) rfl (l' := #[.val (.long q1), .second, .val (.long q2), .second, .val (.ref a3), .val (.int p4), .val (.int p5), .val (.int p6), .val (.int p7), .val (.int (p4 - p5))]) rfl ?_
    show Steps p.tables e below (s₁.setTop (mkF m 7 #[.val (.long q1), .second, .val (.long q2), .second, .val (.ref a3), .val (.int p4), .val (.int p5), .val (.int p6), .val (.int p7), .val (.int (p4 - p5))] [])) _
    refine XS.iload X0.here hx rfl (hb hby d4_7) rfl ?_
    show Steps p.tables e below (s₁.setTop (mkF m 9 #[.val (.long q1), .second, .val (.long q2), .second, .val (.ref a3), .val (.int p4), .val (.int p5), .val (.int p6), .val (.int p7), .val (.int (p4 - p5))] [(.int (p4 - p5))])) _
    refine XS.ifYes X0.here hx rfl (pc0 := 9) (pc' := 19) rfl (hb hby d4_9) rfl ((if0 _ _).trans (tlt hc9).1) (by decide) (by decide) ?_
    show Steps p.tables e below (s₁.setTop (mkF m 19 #[.val (.long q1), .second, .val (.long q2), .second, .val (.ref a3), .val (.int p4), .val (.int p5), .val (.int p6), .val (.int p7), .val (.int (p4 - p5))] [])) _
    refine XS.lloadN X0.here hx rfl (hb hby d4_19) rfl ?_
    show Steps p.tables e below (s₁.setTop (mkF m 20 #[.val (.long q1), .second, .val (.long q2), .second, .val (.ref a3), .val (.int p4), .val (.int p5), .val (.int p6), .val (.int p7), .val (.int (p4 - p5))] [(.long q2)])) _
    refine XS.lloadN X0.here hx rfl (hb hby d4_20) rfl ?_
    show Steps p.tables e below (s₁.setTop (mkF m 21 #[.val (.long q1), .second, .val (.long q2), .second, .val (.ref a3), .val (.int p4), .val (.int p5), .val (.int p6), .val (.int p7), .val (.int (p4 - p5))] [(.long q1), (.long q2)])) _
    refine XS.lcmp X0.here hx rfl (hb hby d4_21) rfl ?_
    show Steps p.tables e below (s₁.setTop (mkF m 22 #[.val (.long q1), .second, .val (.long q2), .second, .val (.ref a3), .val (.int p4), .val (.int p5), .val (.int p6), .val (.int p7), .val (.int (p4 - p5))] [(.int (lcmpW q2 q1))])) _
    refine XS.ifNo X0.here hx rfl (hb hby d4_22) rfl ((if0 _ _).trans (teq hc22).2) ?_
    show Steps p.tables e below (s₁.setTop (mkF m 25 #[.val (.long q1), .second, .val (.long q2), .second, .val (.ref a3), .val (.int p4), .val (.int p5), .val (.int p6), .val (.int p7), .val (.int (p4 - p5))] [])) _
    refine XS.iconst X0.here hx rfl (hb hby d4_25) ?_
    show Steps p.tables e below (s₁.setTop (mkF m 26 #[.val (.long q1), .second, .val (.long q2), .second, .val (.ref a3), .val (.int p4), .val (.int p5), .val (.int p6), .val (.int p7), .val (.int (p4 - p5))] [(.int (1 : Int32))])) _
    refine XS.goto X0.here hx rfl (pc0 := 26) (pc' := 30) rfl (hb hby d4_26) (by decide) (by decide) ?_
    show Steps p.tables e below (s₁.setTop (mkF m 30 #[.val (.long q1), .second, .val (.long q2), .second, .val (.ref a3), .val (.int p4), .val (.int p5), .val (.int p6), .val (.int p7), .val (.int (p4 - p5))] [(.int (1 : Int32))])) _
    exact retN X0 hx (t := .boolean) Bd.returns (by simp) (hb hby d4_30) hr
  · show Q4 Z q1 q2 a3 p4 p5 p6 p7 C i fr ap wn h0 n0 _ s₁.heap _
    rw [e0]
    exact ⟨rfl, N0, rfl⟩
theorem d4_12 : decode method_3_code 12 = .ok (.iload 9, 2) := by decide +kernel
theorem d4_14 : decode method_3_code 14 = .ok (.iload 8, 2) := by decide +kernel
theorem d4_16 : decode method_3_code 16 = .ok (.if_icmp .lt 15, 3) := by decide +kernel
set_option maxRecDepth 65536 in
set_option maxHeartbeats 40000000 in
theorem rm4fff (l : Launch) (Z : State) (a0 : Array Value) (hw : ∀ d ∈ tables_1, d.before a0 Z = true) (ws : List Jvm.Cond) (q1 : Int64) (q2 : Int64) (a3 : Addr) (p4 : Int32) (p5 : Int32) (p6 : Int32) (p7 : Int32) (C : Nat → Int64) (i : Nat) (fr : Nat) (ap : Nat) (wn : Nat) (h0 : Heap) (n0 : Nat) (Z0 : n0 ≤ h0.size) (hc9 : ¬ ((p4 - p5) < (0 : Int32))) (hc16 : ¬ ((p4 - p5) < p7)) (hc22 : (lcmpW q2 q1) = (0 : Int32)) :
    MetFree l (⟨"com/example/tight_bounds/tightbounds/model/StateLayoutApplyPinLaw", "ok", "(JJ[JIIII)Z"⟩ : MethodName) (head1 (Jvm.Cond.code (⟨"com/example/tight_bounds/tightbounds/model/StateLayoutApplyPinLaw", "ok", "(JJ[JIIII)Z"⟩ : MethodName) method_3_code 10 (some .boolean) :: ws) ({ frames := 0, cells := 0, slots := 0, locals := 0 } : Room)) (fun a U => a = #[(.long q1), (.long q2), (.ref a3), (.int p4), (.int p5), (.int p6), (.int p7)] ∧ Z.Warmed39 U.vm ∧ U.heap = h0) (fun _ _ _ _ _ => True) (fun _ U o U' => ∃ v L, o = .returned v ∧ Q4 Z q1 q2 a3 p4 p5 p6 p7 C i fr ap wn h0 n0 v U'.heap L ∧ FrameEnd U o U' L ({ frames := 0, cells := 0, slots := 0, locals := 0 } : Room).cells ({ frames := 0, cells := 0, slots := 0, locals := 0 } : Room).slots) := by
  refine MetFree.of_bodySF (plainFor_of_name pn_4) hisR ?_
  intro p e s m args below meth c s₁ Bd hml0 hP hK
  obtain ⟨rfl, hZ, hh⟩ := hP
  have hx := Bd.exec
  have hby := Bd.bytes
  have hml : c.maxLocals = 10 := hml0
  have hown : s.vm.findClass "com/example/tight_bounds/tightbounds/model/StateLayoutApplyPinLaw" = some m.cls := findClass_of_methodNamed Bd.named
  have hnm := (name_of_methodNamed Bd.named Bd.method).1
  have X0 : Stand p l e ({ frames := 0, cells := 0, slots := 0, locals := 0 } : Room) s m #[(.long q1), (.long q2), (.ref a3), (.int p4), (.int p5), (.int p6), (.int p7)] below meth c s₁ [] 0 0 := Stand.of_body Bd
  have e0 : s₁.heap = h0 := by rw [← hh, Bd.state]; rfl
  have N0 := Fr.nil n0
  have pre0 : ∀ t, Steps p.tables e below (s₁.setTop (mkF m 0 #[.val (.long q1), .second, .val (.long q2), .second, .val (.ref a3), .val (.int p4), .val (.int p5), .val (.int p6), .val (.int p7), .unset] [])) t → Steps p.tables e below (s₁.setTop (entryFrame m #[(.long q1), (.long q2), (.ref a3), (.int p4), (.int p5), (.int p6), (.int p7)] 10)) t := fun t k => castTop (ef_4 m q1 q2 a3 p4 p5 p6 p7) k
  obtain ⟨fs, hr, hrun, hended, hW, hsame⟩ := X0.leave (v := some (.int (1 : Int32))) (fun h => by rw [Bd.returns] at h; cases h)
  refine ⟨_, _, pre0 _ ?_, hrun, hended, _, _, rfl, ?_, ⟨_, rfl⟩, hW, hsame.mono (by decide) (by decide)⟩
  · show Steps p.tables e below (s₁.setTop (mkF m 0 #[.val (.long q1), .second, .val (.long q2), .second, .val (.ref a3), .val (.int p4), .val (.int p5), .val (.int p6), .val (.int p7), .unset] [])) _
    refine XS.iload X0.here hx rfl (hb hby d4_0) rfl ?_
    show Steps p.tables e below (s₁.setTop (mkF m 2 #[.val (.long q1), .second, .val (.long q2), .second, .val (.ref a3), .val (.int p4), .val (.int p5), .val (.int p6), .val (.int p7), .unset] [(.int p4)])) _
    refine XS.iload X0.here hx rfl (hb hby d4_2) rfl ?_
    show Steps p.tables e below (s₁.setTop (mkF m 4 #[.val (.long q1), .second, .val (.long q2), .second, .val (.ref a3), .val (.int p4), .val (.int p5), .val (.int p6), .val (.int p7), .unset] [(.int p5), (.int p4)])) _
    refine XS.isub X0.here hx rfl (hb hby d4_4) rfl ?_
    show Steps p.tables e below (s₁.setTop (mkF m 5 #[.val (.long q1), .second, .val (.long q2), .second, .val (.ref a3), .val (.int p4), .val (.int p5), .val (.int p6), .val (.int p7), .unset] [(.int (p4 - p5))])) _
    refine XS.istore X0.here hx rfl (hb hby d4_5) rfl (l' := #[.val (.long q1), .second, .val (.long q2), .second, .val (.ref a3), .val (.int p4), .val (.int p5), .val (.int p6), .val (.int p7), .val (.int (p4 - p5))]) rfl ?_
    show Steps p.tables e below (s₁.setTop (mkF m 7 #[.val (.long q1), .second, .val (.long q2), .second, .val (.ref a3), .val (.int p4), .val (.int p5), .val (.int p6), .val (.int p7), .val (.int (p4 - p5))] [])) _
    refine XS.iload X0.here hx rfl (hb hby d4_7) rfl ?_
    show Steps p.tables e below (s₁.setTop (mkF m 9 #[.val (.long q1), .second, .val (.long q2), .second, .val (.ref a3), .val (.int p4), .val (.int p5), .val (.int p6), .val (.int p7), .val (.int (p4 - p5))] [(.int (p4 - p5))])) _
    refine XS.ifNo X0.here hx rfl (hb hby d4_9) rfl ((if0 _ _).trans (flt hc9).1) ?_
    show Steps p.tables e below (s₁.setTop (mkF m 12 #[.val (.long q1), .second, .val (.long q2), .second, .val (.ref a3), .val (.int p4), .val (.int p5), .val (.int p6), .val (.int p7), .val (.int (p4 - p5))] [])) _
    refine XS.iload X0.here hx rfl (hb hby d4_12) rfl ?_
    show Steps p.tables e below (s₁.setTop (mkF m 14 #[.val (.long q1), .second, .val (.long q2), .second, .val (.ref a3), .val (.int p4), .val (.int p5), .val (.int p6), .val (.int p7), .val (.int (p4 - p5))] [(.int (p4 - p5))])) _
    refine XS.iload X0.here hx rfl (hb hby d4_14) rfl ?_
    show Steps p.tables e below (s₁.setTop (mkF m 16 #[.val (.long q1), .second, .val (.long q2), .second, .val (.ref a3), .val (.int p4), .val (.int p5), .val (.int p6), .val (.int p7), .val (.int (p4 - p5))] [(.int p7), (.int (p4 - p5))])) _
    refine XS.icmpNo X0.here hx rfl (hb hby d4_16) rfl (flt hc16).1 ?_
    show Steps p.tables e below (s₁.setTop (mkF m 19 #[.val (.long q1), .second, .val (.long q2), .second, .val (.ref a3), .val (.int p4), .val (.int p5), .val (.int p6), .val (.int p7), .val (.int (p4 - p5))] [])) _
    refine XS.lloadN X0.here hx rfl (hb hby d4_19) rfl ?_
    show Steps p.tables e below (s₁.setTop (mkF m 20 #[.val (.long q1), .second, .val (.long q2), .second, .val (.ref a3), .val (.int p4), .val (.int p5), .val (.int p6), .val (.int p7), .val (.int (p4 - p5))] [(.long q2)])) _
    refine XS.lloadN X0.here hx rfl (hb hby d4_20) rfl ?_
    show Steps p.tables e below (s₁.setTop (mkF m 21 #[.val (.long q1), .second, .val (.long q2), .second, .val (.ref a3), .val (.int p4), .val (.int p5), .val (.int p6), .val (.int p7), .val (.int (p4 - p5))] [(.long q1), (.long q2)])) _
    refine XS.lcmp X0.here hx rfl (hb hby d4_21) rfl ?_
    show Steps p.tables e below (s₁.setTop (mkF m 22 #[.val (.long q1), .second, .val (.long q2), .second, .val (.ref a3), .val (.int p4), .val (.int p5), .val (.int p6), .val (.int p7), .val (.int (p4 - p5))] [(.int (lcmpW q2 q1))])) _
    refine XS.ifNo X0.here hx rfl (hb hby d4_22) rfl ((if0 _ _).trans (teq hc22).2) ?_
    show Steps p.tables e below (s₁.setTop (mkF m 25 #[.val (.long q1), .second, .val (.long q2), .second, .val (.ref a3), .val (.int p4), .val (.int p5), .val (.int p6), .val (.int p7), .val (.int (p4 - p5))] [])) _
    refine XS.iconst X0.here hx rfl (hb hby d4_25) ?_
    show Steps p.tables e below (s₁.setTop (mkF m 26 #[.val (.long q1), .second, .val (.long q2), .second, .val (.ref a3), .val (.int p4), .val (.int p5), .val (.int p6), .val (.int p7), .val (.int (p4 - p5))] [(.int (1 : Int32))])) _
    refine XS.goto X0.here hx rfl (pc0 := 26) (pc' := 30) rfl (hb hby d4_26) (by decide) (by decide) ?_
    show Steps p.tables e below (s₁.setTop (mkF m 30 #[.val (.long q1), .second, .val (.long q2), .second, .val (.ref a3), .val (.int p4), .val (.int p5), .val (.int p6), .val (.int p7), .val (.int (p4 - p5))] [(.int (1 : Int32))])) _
    exact retN X0 hx (t := .boolean) Bd.returns (by simp) (hb hby d4_30) hr
  · show Q4 Z q1 q2 a3 p4 p5 p6 p7 C i fr ap wn h0 n0 _ s₁.heap _
    rw [e0]
    exact ⟨rfl, N0, rfl⟩
theorem d4_31 : decode method_3_code 31 = .ok (.lload_n 2, 1) := by decide +kernel
theorem d4_32 : decode method_3_code 32 = .ok (.lload_n 0, 1) := by decide +kernel
theorem d4_33 : decode method_3_code 33 = .ok (.aload 4, 2) := by decide +kernel
theorem d4_35 : decode method_3_code 35 = .ok (.iload 7, 2) := by decide +kernel
theorem d4_37 : decode method_3_code 37 = .ok (.iconst 2, 1) := by decide +kernel
theorem d4_38 : decode method_3_code 38 = .ok (.iload 9, 2) := by decide +kernel
theorem d4_40 : decode method_3_code 40 = .ok (.imul, 1) := by decide +kernel
theorem d4_41 : decode method_3_code 41 = .ok (.iadd, 1) := by decide +kernel
theorem d4_42 : decode method_3_code 42 = .ok (.laload, 1) := by decide +kernel
theorem d4_43 : decode method_3_code 43 = .ok (.land, 1) := by decide +kernel
theorem d4_44 : decode method_3_code 44 = .ok (.aload 4, 2) := by decide +kernel
theorem d4_46 : decode method_3_code 46 = .ok (.iload 7, 2) := by decide +kernel
theorem d4_48 : decode method_3_code 48 = .ok (.iconst 2, 1) := by decide +kernel
theorem d4_49 : decode method_3_code 49 = .ok (.iload 9, 2) := by decide +kernel
theorem d4_51 : decode method_3_code 51 = .ok (.imul, 1) := by decide +kernel
theorem d4_52 : decode method_3_code 52 = .ok (.iadd, 1) := by decide +kernel
theorem d4_53 : decode method_3_code 53 = .ok (.iconst 1, 1) := by decide +kernel
theorem d4_54 : decode method_3_code 54 = .ok (.iadd, 1) := by decide +kernel
theorem d4_55 : decode method_3_code 55 = .ok (.laload, 1) := by decide +kernel
theorem d4_56 : decode method_3_code 56 = .ok (.lor, 1) := by decide +kernel
theorem d4_57 : decode method_3_code 57 = .ok (.lcmp, 1) := by decide +kernel
theorem d4_58 : decode method_3_code 58 = .ok (.ifCond .ne 7, 3) := by decide +kernel
theorem d4_61 : decode method_3_code 61 = .ok (.iconst 1, 1) := by decide +kernel
theorem d4_62 : decode method_3_code 62 = .ok (.goto 4, 3) := by decide +kernel
theorem d4_66 : decode method_3_code 66 = .ok (.ireturn, 1) := by decide +kernel
set_option maxRecDepth 65536 in
set_option maxHeartbeats 40000000 in
theorem rm4ftf (l : Launch) (Z : State) (a0 : Array Value) (hw : ∀ d ∈ tables_1, d.before a0 Z = true) (ws : List Jvm.Cond) (q1 : Int64) (q2 : Int64) (a3 : Addr) (p4 : Int32) (p5 : Int32) (p6 : Int32) (p7 : Int32) (C : Nat → Int64) (i : Nat) (fr : Nat) (ap : Nat) (wn : Nat) (h0 : Heap) (n0 : Nat) (Z0 : n0 ≤ h0.size) (ixk : own_ix (p4 - p5) (i - ap)) (ixf : own_ix p6 fr) (hk : i - ap < wn) (h10 : fr + 2 * wn ≤ 10) (V_a3 : Ary Z h0 a3 .long 10 (fun j => .long (C j))) (hc9 : ¬ ((p4 - p5) < (0 : Int32))) (hc16 : (p4 - p5) < p7) (hc58 : (lcmpW q2 ((q1 &&& (C (fr + 2 * (i - ap)))) ||| (C (fr + 2 * (i - ap) + 1)))) = (0 : Int32)) :
    MetFree l (⟨"com/example/tight_bounds/tightbounds/model/StateLayoutApplyPinLaw", "ok", "(JJ[JIIII)Z"⟩ : MethodName) (head1 (Jvm.Cond.code (⟨"com/example/tight_bounds/tightbounds/model/StateLayoutApplyPinLaw", "ok", "(JJ[JIIII)Z"⟩ : MethodName) method_3_code 10 (some .boolean) :: ws) ({ frames := 0, cells := 0, slots := 0, locals := 0 } : Room)) (fun a U => a = #[(.long q1), (.long q2), (.ref a3), (.int p4), (.int p5), (.int p6), (.int p7)] ∧ Z.Warmed39 U.vm ∧ U.heap = h0) (fun _ _ _ _ _ => True) (fun _ U o U' => ∃ v L, o = .returned v ∧ Q4 Z q1 q2 a3 p4 p5 p6 p7 C i fr ap wn h0 n0 v U'.heap L ∧ FrameEnd U o U' L ({ frames := 0, cells := 0, slots := 0, locals := 0 } : Room).cells ({ frames := 0, cells := 0, slots := 0, locals := 0 } : Room).slots) := by
  refine MetFree.of_bodySF (plainFor_of_name pn_4) hisR ?_
  intro p e s m args below meth c s₁ Bd hml0 hP hK
  obtain ⟨rfl, hZ, hh⟩ := hP
  have hx := Bd.exec
  have hby := Bd.bytes
  have hml : c.maxLocals = 10 := hml0
  have hown : s.vm.findClass "com/example/tight_bounds/tightbounds/model/StateLayoutApplyPinLaw" = some m.cls := findClass_of_methodNamed Bd.named
  have hnm := (name_of_methodNamed Bd.named Bd.method).1
  have X0 : Stand p l e ({ frames := 0, cells := 0, slots := 0, locals := 0 } : Room) s m #[(.long q1), (.long q2), (.ref a3), (.int p4), (.int p5), (.int p6), (.int p7)] below meth c s₁ [] 0 0 := Stand.of_body Bd
  have e0 : s₁.heap = h0 := by rw [← hh, Bd.state]; rfl
  have N0 := Fr.nil n0
  have pre0 : ∀ t, Steps p.tables e below (s₁.setTop (mkF m 0 #[.val (.long q1), .second, .val (.long q2), .second, .val (.ref a3), .val (.int p4), .val (.int p5), .val (.int p6), .val (.int p7), .unset] [])) t → Steps p.tables e below (s₁.setTop (entryFrame m #[(.long q1), (.long q2), (.ref a3), (.int p4), (.int p5), (.int p6), (.int p7)] 10)) t := fun t k => castTop (ef_4 m q1 q2 a3 p4 p5 p6 p7) k
  obtain ⟨cl_42, Ar_42, S_42, H_42⟩ := id V_a3
  have hin42 := Ary.inn S_42 (own_ixa ixf (own_ixm ixk (show own_ix (2 : Int32) 2 from rfl) (by omega)) (by omega)) (by omega)
  have hat42 := Ary.get H_42 (own_ixa ixf (own_ixm ixk (show own_ix (2 : Int32) 2 from rfl) (by omega)) (by omega)) (by omega) (v := (.long (C (fr + 2 * (i - ap))))) rfl
  obtain ⟨cl_55, Ar_55, S_55, H_55⟩ := id V_a3
  have hin55 := Ary.inn S_55 (own_ixa (own_ixa ixf (own_ixm ixk (show own_ix (2 : Int32) 2 from rfl) (by omega)) (by omega)) (show own_ix (1 : Int32) 1 from rfl) (by omega)) (by omega)
  have hat55 := Ary.get H_55 (own_ixa (own_ixa ixf (own_ixm ixk (show own_ix (2 : Int32) 2 from rfl) (by omega)) (by omega)) (show own_ix (1 : Int32) 1 from rfl) (by omega)) (by omega) (v := (.long (C (fr + 2 * (i - ap) + 1)))) rfl
  obtain ⟨fs, hr, hrun, hended, hW, hsame⟩ := X0.leave (v := some (.int (1 : Int32))) (fun h => by rw [Bd.returns] at h; cases h)
  refine ⟨_, _, pre0 _ ?_, hrun, hended, _, _, rfl, ?_, ⟨_, rfl⟩, hW, hsame.mono (by decide) (by decide)⟩
  · show Steps p.tables e below (s₁.setTop (mkF m 0 #[.val (.long q1), .second, .val (.long q2), .second, .val (.ref a3), .val (.int p4), .val (.int p5), .val (.int p6), .val (.int p7), .unset] [])) _
    refine XS.iload X0.here hx rfl (hb hby d4_0) rfl ?_
    show Steps p.tables e below (s₁.setTop (mkF m 2 #[.val (.long q1), .second, .val (.long q2), .second, .val (.ref a3), .val (.int p4), .val (.int p5), .val (.int p6), .val (.int p7), .unset] [(.int p4)])) _
    refine XS.iload X0.here hx rfl (hb hby d4_2) rfl ?_
    show Steps p.tables e below (s₁.setTop (mkF m 4 #[.val (.long q1), .second, .val (.long q2), .second, .val (.ref a3), .val (.int p4), .val (.int p5), .val (.int p6), .val (.int p7), .unset] [(.int p5), (.int p4)])) _
    refine XS.isub X0.here hx rfl (hb hby d4_4) rfl ?_
    show Steps p.tables e below (s₁.setTop (mkF m 5 #[.val (.long q1), .second, .val (.long q2), .second, .val (.ref a3), .val (.int p4), .val (.int p5), .val (.int p6), .val (.int p7), .unset] [(.int (p4 - p5))])) _
    refine XS.istore X0.here hx rfl (hb hby d4_5) rfl (l' := #[.val (.long q1), .second, .val (.long q2), .second, .val (.ref a3), .val (.int p4), .val (.int p5), .val (.int p6), .val (.int p7), .val (.int (p4 - p5))]) rfl ?_
    show Steps p.tables e below (s₁.setTop (mkF m 7 #[.val (.long q1), .second, .val (.long q2), .second, .val (.ref a3), .val (.int p4), .val (.int p5), .val (.int p6), .val (.int p7), .val (.int (p4 - p5))] [])) _
    refine XS.iload X0.here hx rfl (hb hby d4_7) rfl ?_
    show Steps p.tables e below (s₁.setTop (mkF m 9 #[.val (.long q1), .second, .val (.long q2), .second, .val (.ref a3), .val (.int p4), .val (.int p5), .val (.int p6), .val (.int p7), .val (.int (p4 - p5))] [(.int (p4 - p5))])) _
    refine XS.ifNo X0.here hx rfl (hb hby d4_9) rfl ((if0 _ _).trans (flt hc9).1) ?_
    show Steps p.tables e below (s₁.setTop (mkF m 12 #[.val (.long q1), .second, .val (.long q2), .second, .val (.ref a3), .val (.int p4), .val (.int p5), .val (.int p6), .val (.int p7), .val (.int (p4 - p5))] [])) _
    refine XS.iload X0.here hx rfl (hb hby d4_12) rfl ?_
    show Steps p.tables e below (s₁.setTop (mkF m 14 #[.val (.long q1), .second, .val (.long q2), .second, .val (.ref a3), .val (.int p4), .val (.int p5), .val (.int p6), .val (.int p7), .val (.int (p4 - p5))] [(.int (p4 - p5))])) _
    refine XS.iload X0.here hx rfl (hb hby d4_14) rfl ?_
    show Steps p.tables e below (s₁.setTop (mkF m 16 #[.val (.long q1), .second, .val (.long q2), .second, .val (.ref a3), .val (.int p4), .val (.int p5), .val (.int p6), .val (.int p7), .val (.int (p4 - p5))] [(.int p7), (.int (p4 - p5))])) _
    refine XS.icmpYes X0.here hx rfl (pc0 := 16) (pc' := 31) rfl (hb hby d4_16) rfl (tlt hc16).1 (by decide) (by decide) ?_
    show Steps p.tables e below (s₁.setTop (mkF m 31 #[.val (.long q1), .second, .val (.long q2), .second, .val (.ref a3), .val (.int p4), .val (.int p5), .val (.int p6), .val (.int p7), .val (.int (p4 - p5))] [])) _
    refine XS.lloadN X0.here hx rfl (hb hby d4_31) rfl ?_
    show Steps p.tables e below (s₁.setTop (mkF m 32 #[.val (.long q1), .second, .val (.long q2), .second, .val (.ref a3), .val (.int p4), .val (.int p5), .val (.int p6), .val (.int p7), .val (.int (p4 - p5))] [(.long q2)])) _
    refine XS.lloadN X0.here hx rfl (hb hby d4_32) rfl ?_
    show Steps p.tables e below (s₁.setTop (mkF m 33 #[.val (.long q1), .second, .val (.long q2), .second, .val (.ref a3), .val (.int p4), .val (.int p5), .val (.int p6), .val (.int p7), .val (.int (p4 - p5))] [(.long q1), (.long q2)])) _
    refine XS.aload X0.here hx rfl (hb hby d4_33) rfl rfl ?_
    show Steps p.tables e below (s₁.setTop (mkF m 35 #[.val (.long q1), .second, .val (.long q2), .second, .val (.ref a3), .val (.int p4), .val (.int p5), .val (.int p6), .val (.int p7), .val (.int (p4 - p5))] [(.ref a3), (.long q1), (.long q2)])) _
    refine XS.iload X0.here hx rfl (hb hby d4_35) rfl ?_
    show Steps p.tables e below (s₁.setTop (mkF m 37 #[.val (.long q1), .second, .val (.long q2), .second, .val (.ref a3), .val (.int p4), .val (.int p5), .val (.int p6), .val (.int p7), .val (.int (p4 - p5))] [(.int p6), (.ref a3), (.long q1), (.long q2)])) _
    refine XS.iconst X0.here hx rfl (hb hby d4_37) ?_
    show Steps p.tables e below (s₁.setTop (mkF m 38 #[.val (.long q1), .second, .val (.long q2), .second, .val (.ref a3), .val (.int p4), .val (.int p5), .val (.int p6), .val (.int p7), .val (.int (p4 - p5))] [(.int (2 : Int32)), (.int p6), (.ref a3), (.long q1), (.long q2)])) _
    refine XS.iload X0.here hx rfl (hb hby d4_38) rfl ?_
    show Steps p.tables e below (s₁.setTop (mkF m 40 #[.val (.long q1), .second, .val (.long q2), .second, .val (.ref a3), .val (.int p4), .val (.int p5), .val (.int p6), .val (.int p7), .val (.int (p4 - p5))] [(.int (p4 - p5)), (.int (2 : Int32)), (.int p6), (.ref a3), (.long q1), (.long q2)])) _
    refine XS.imul X0.here hx rfl (hb hby d4_40) rfl ?_
    show Steps p.tables e below (s₁.setTop (mkF m 41 #[.val (.long q1), .second, .val (.long q2), .second, .val (.ref a3), .val (.int p4), .val (.int p5), .val (.int p6), .val (.int p7), .val (.int (p4 - p5))] [(.int ((2 : Int32) * (p4 - p5))), (.int p6), (.ref a3), (.long q1), (.long q2)])) _
    refine XS.iadd X0.here hx rfl (hb hby d4_41) rfl ?_
    show Steps p.tables e below (s₁.setTop (mkF m 42 #[.val (.long q1), .second, .val (.long q2), .second, .val (.ref a3), .val (.int p4), .val (.int p5), .val (.int p6), .val (.int p7), .val (.int (p4 - p5))] [(.int (p6 + ((2 : Int32) * (p4 - p5)))), (.ref a3), (.long q1), (.long q2)])) _
    refine X0.laload hx (j := (p6 + ((2 : Int32) * (p4 - p5)))) (v := (.long (C (fr + 2 * (i - ap))))) (by rw [e0]; exact Ar_42.1) (State.isArrayOf_alike hZ.alike Ar_42.2.1) Ar_42.2.2 hin42 hat42 (g := (mkF m 42 #[.val (.long q1), .second, .val (.long q2), .second, .val (.ref a3), .val (.int p4), .val (.int p5), .val (.int p6), .val (.int p7), .val (.int (p4 - p5))] [(.int (p6 + ((2 : Int32) * (p4 - p5)))), (.ref a3), (.long q1), (.long q2)])) rfl rfl (hb hby d4_42) _ ?_
    show Steps p.tables e below (s₁.setTop (mkF m 43 #[.val (.long q1), .second, .val (.long q2), .second, .val (.ref a3), .val (.int p4), .val (.int p5), .val (.int p6), .val (.int p7), .val (.int (p4 - p5))] [(.long (C (fr + 2 * (i - ap)))), (.long q1), (.long q2)])) _
    refine XS.land X0.here hx rfl (hb hby d4_43) rfl ?_
    show Steps p.tables e below (s₁.setTop (mkF m 44 #[.val (.long q1), .second, .val (.long q2), .second, .val (.ref a3), .val (.int p4), .val (.int p5), .val (.int p6), .val (.int p7), .val (.int (p4 - p5))] [(.long (q1 &&& (C (fr + 2 * (i - ap))))), (.long q2)])) _
    refine XS.aload X0.here hx rfl (hb hby d4_44) rfl rfl ?_
    show Steps p.tables e below (s₁.setTop (mkF m 46 #[.val (.long q1), .second, .val (.long q2), .second, .val (.ref a3), .val (.int p4), .val (.int p5), .val (.int p6), .val (.int p7), .val (.int (p4 - p5))] [(.ref a3), (.long (q1 &&& (C (fr + 2 * (i - ap))))), (.long q2)])) _
    refine XS.iload X0.here hx rfl (hb hby d4_46) rfl ?_
    show Steps p.tables e below (s₁.setTop (mkF m 48 #[.val (.long q1), .second, .val (.long q2), .second, .val (.ref a3), .val (.int p4), .val (.int p5), .val (.int p6), .val (.int p7), .val (.int (p4 - p5))] [(.int p6), (.ref a3), (.long (q1 &&& (C (fr + 2 * (i - ap))))), (.long q2)])) _
    refine XS.iconst X0.here hx rfl (hb hby d4_48) ?_
    show Steps p.tables e below (s₁.setTop (mkF m 49 #[.val (.long q1), .second, .val (.long q2), .second, .val (.ref a3), .val (.int p4), .val (.int p5), .val (.int p6), .val (.int p7), .val (.int (p4 - p5))] [(.int (2 : Int32)), (.int p6), (.ref a3), (.long (q1 &&& (C (fr + 2 * (i - ap))))), (.long q2)])) _
    refine XS.iload X0.here hx rfl (hb hby d4_49) rfl ?_
    show Steps p.tables e below (s₁.setTop (mkF m 51 #[.val (.long q1), .second, .val (.long q2), .second, .val (.ref a3), .val (.int p4), .val (.int p5), .val (.int p6), .val (.int p7), .val (.int (p4 - p5))] [(.int (p4 - p5)), (.int (2 : Int32)), (.int p6), (.ref a3), (.long (q1 &&& (C (fr + 2 * (i - ap))))), (.long q2)])) _
    refine XS.imul X0.here hx rfl (hb hby d4_51) rfl ?_
    show Steps p.tables e below (s₁.setTop (mkF m 52 #[.val (.long q1), .second, .val (.long q2), .second, .val (.ref a3), .val (.int p4), .val (.int p5), .val (.int p6), .val (.int p7), .val (.int (p4 - p5))] [(.int ((2 : Int32) * (p4 - p5))), (.int p6), (.ref a3), (.long (q1 &&& (C (fr + 2 * (i - ap))))), (.long q2)])) _
    refine XS.iadd X0.here hx rfl (hb hby d4_52) rfl ?_
    show Steps p.tables e below (s₁.setTop (mkF m 53 #[.val (.long q1), .second, .val (.long q2), .second, .val (.ref a3), .val (.int p4), .val (.int p5), .val (.int p6), .val (.int p7), .val (.int (p4 - p5))] [(.int (p6 + ((2 : Int32) * (p4 - p5)))), (.ref a3), (.long (q1 &&& (C (fr + 2 * (i - ap))))), (.long q2)])) _
    refine XS.iconst X0.here hx rfl (hb hby d4_53) ?_
    show Steps p.tables e below (s₁.setTop (mkF m 54 #[.val (.long q1), .second, .val (.long q2), .second, .val (.ref a3), .val (.int p4), .val (.int p5), .val (.int p6), .val (.int p7), .val (.int (p4 - p5))] [(.int (1 : Int32)), (.int (p6 + ((2 : Int32) * (p4 - p5)))), (.ref a3), (.long (q1 &&& (C (fr + 2 * (i - ap))))), (.long q2)])) _
    refine XS.iadd X0.here hx rfl (hb hby d4_54) rfl ?_
    show Steps p.tables e below (s₁.setTop (mkF m 55 #[.val (.long q1), .second, .val (.long q2), .second, .val (.ref a3), .val (.int p4), .val (.int p5), .val (.int p6), .val (.int p7), .val (.int (p4 - p5))] [(.int ((p6 + ((2 : Int32) * (p4 - p5))) + (1 : Int32))), (.ref a3), (.long (q1 &&& (C (fr + 2 * (i - ap))))), (.long q2)])) _
    refine X0.laload hx (j := ((p6 + ((2 : Int32) * (p4 - p5))) + (1 : Int32))) (v := (.long (C (fr + 2 * (i - ap) + 1)))) (by rw [e0]; exact Ar_55.1) (State.isArrayOf_alike hZ.alike Ar_55.2.1) Ar_55.2.2 hin55 hat55 (g := (mkF m 55 #[.val (.long q1), .second, .val (.long q2), .second, .val (.ref a3), .val (.int p4), .val (.int p5), .val (.int p6), .val (.int p7), .val (.int (p4 - p5))] [(.int ((p6 + ((2 : Int32) * (p4 - p5))) + (1 : Int32))), (.ref a3), (.long (q1 &&& (C (fr + 2 * (i - ap))))), (.long q2)])) rfl rfl (hb hby d4_55) _ ?_
    show Steps p.tables e below (s₁.setTop (mkF m 56 #[.val (.long q1), .second, .val (.long q2), .second, .val (.ref a3), .val (.int p4), .val (.int p5), .val (.int p6), .val (.int p7), .val (.int (p4 - p5))] [(.long (C (fr + 2 * (i - ap) + 1))), (.long (q1 &&& (C (fr + 2 * (i - ap))))), (.long q2)])) _
    refine XS.lor X0.here hx rfl (hb hby d4_56) rfl ?_
    show Steps p.tables e below (s₁.setTop (mkF m 57 #[.val (.long q1), .second, .val (.long q2), .second, .val (.ref a3), .val (.int p4), .val (.int p5), .val (.int p6), .val (.int p7), .val (.int (p4 - p5))] [(.long ((q1 &&& (C (fr + 2 * (i - ap)))) ||| (C (fr + 2 * (i - ap) + 1)))), (.long q2)])) _
    refine XS.lcmp X0.here hx rfl (hb hby d4_57) rfl ?_
    show Steps p.tables e below (s₁.setTop (mkF m 58 #[.val (.long q1), .second, .val (.long q2), .second, .val (.ref a3), .val (.int p4), .val (.int p5), .val (.int p6), .val (.int p7), .val (.int (p4 - p5))] [(.int (lcmpW q2 ((q1 &&& (C (fr + 2 * (i - ap)))) ||| (C (fr + 2 * (i - ap) + 1)))))])) _
    refine XS.ifNo X0.here hx rfl (hb hby d4_58) rfl ((if0 _ _).trans (teq hc58).2) ?_
    show Steps p.tables e below (s₁.setTop (mkF m 61 #[.val (.long q1), .second, .val (.long q2), .second, .val (.ref a3), .val (.int p4), .val (.int p5), .val (.int p6), .val (.int p7), .val (.int (p4 - p5))] [])) _
    refine XS.iconst X0.here hx rfl (hb hby d4_61) ?_
    show Steps p.tables e below (s₁.setTop (mkF m 62 #[.val (.long q1), .second, .val (.long q2), .second, .val (.ref a3), .val (.int p4), .val (.int p5), .val (.int p6), .val (.int p7), .val (.int (p4 - p5))] [(.int (1 : Int32))])) _
    refine XS.goto X0.here hx rfl (pc0 := 62) (pc' := 66) rfl (hb hby d4_62) (by decide) (by decide) ?_
    show Steps p.tables e below (s₁.setTop (mkF m 66 #[.val (.long q1), .second, .val (.long q2), .second, .val (.ref a3), .val (.int p4), .val (.int p5), .val (.int p6), .val (.int p7), .val (.int (p4 - p5))] [(.int (1 : Int32))])) _
    exact retN X0 hx (t := .boolean) Bd.returns (by simp) (hb hby d4_66) hr
  · show Q4 Z q1 q2 a3 p4 p5 p6 p7 C i fr ap wn h0 n0 _ s₁.heap _
    rw [e0]
    exact ⟨rfl, N0, rfl⟩
theorem rm4 (l : Launch) (Z : State) (a0 : Array Value) (hw : ∀ d ∈ tables_1, d.before a0 Z = true) (ws : List Jvm.Cond) (q1 : Int64) (q2 : Int64) (a3 : Addr) (p4 : Int32) (p5 : Int32) (p6 : Int32) (p7 : Int32) (C : Nat → Int64) (i : Nat) (fr : Nat) (ap : Nat) (wn : Nat) (h0 : Heap) (n0 : Nat) (Z0 : n0 ≤ h0.size) (ixi : own_ix p4 i) (ixa : own_ix p5 ap) (ixf : own_ix p6 fr) (ixw : own_ix p7 wn) (h10 : fr + 2 * wn ≤ 10) (hq : q2 = own_apv C q1 fr ap wn i) (V3 : Ary Z h0 a3 .long 10 (fun j => .long (C j))) :
    MetFree l (⟨"com/example/tight_bounds/tightbounds/model/StateLayoutApplyPinLaw", "ok", "(JJ[JIIII)Z"⟩ : MethodName) (head1 (Jvm.Cond.code (⟨"com/example/tight_bounds/tightbounds/model/StateLayoutApplyPinLaw", "ok", "(JJ[JIIII)Z"⟩ : MethodName) method_3_code 10 (some .boolean) :: ws) ({ frames := 0, cells := 0, slots := 0, locals := 0 } : Room)) (fun a U => a = #[(.long q1), (.long q2), (.ref a3), (.int p4), (.int p5), (.int p6), (.int p7)] ∧ Z.Warmed39 U.vm ∧ U.heap = h0) (fun _ _ _ _ _ => True) (fun _ U o U' => ∃ v L, o = .returned v ∧ Q4 Z q1 q2 a3 p4 p5 p6 p7 C i fr ap wn h0 n0 v U'.heap L ∧ FrameEnd U o U' L ({ frames := 0, cells := 0, slots := 0, locals := 0 } : Room).cells ({ frames := 0, cells := 0, slots := 0, locals := 0 } : Room).slots) := by
  by_cases h1 : i < ap
  · exact rm4tf l Z a0 hw ws q1 q2 a3 p4 p5 p6 p7 C i fr ap wn h0 n0 Z0 (own_subneg ixi ixa h1) (own_lc2 (by rw [hq]; exact own_apv_out (by omega)))
  · have ixk : own_ix (p4 - p5) (i - ap) := own_ixs ixi ixa (by omega)
    by_cases h2 : i - ap < wn
    · exact rm4ftf l Z a0 hw ws q1 q2 a3 p4 p5 p6 p7 C i fr ap wn h0 n0 Z0 ixk ixf h2 h10 V3 (own_ix0 ixk) ((own_ixlt ixk ixw).mpr h2) (own_lc2 (by rw [hq]; exact own_apv_in ⟨by omega, by omega⟩))
    · exact rm4fff l Z a0 hw ws q1 q2 a3 p4 p5 p6 p7 C i fr ap wn h0 n0 Z0 (own_ix0 ixk) (fun q => h2 ((own_ixlt ixk ixw).mp q)) (own_lc2 (by rw [hq]; exact own_apv_out (by omega)))
set_option maxRecDepth 65536 in
set_option maxHeartbeats 40000000 in
theorem tn0_0_27 {p : Program} {l : Launch} {e : Env} {R : Room} {s : State} {m : MethodId} {args : Array Value} {below : List Frame} {meth : Method} {c : Code} {T0 : State} {locs : List Loc} {cells slots : Nat} {Z : State} {a0 : Array Value} {h0 : Heap} (i0 : Int32) (s1 : Slot) (s2 : Slot) (s3 : Slot) (s4 : Slot) (s5 : Slot) (s6 : Slot) (s7 : Slot) (s8 : Slot) (s9 : Slot) (s10 : Slot)
    (X0 : Stand p l e R s m args below meth c T0 locs cells slots) (hx : p.tables.exec = Jvm.exec) (hZ : Z.Warmed39 s.vm) (hw : ∀ d ∈ tables_1, d.before a0 Z = true) (hby : c.code = code) (hml : c.maxLocals = 23) (hown : s.vm.findClass "com/example/tight_bounds/tightbounds/model/StateLayoutApplyPinLaw" = some m.cls) (e0 : T0.heap = h0) :
    ∃ (T' : State), Stand p l e R s m args below meth c T' locs cells slots ∧ T'.heap = h0 ∧
      ∀ target, Steps p.tables e below (T'.setTop (mkF m 27 #[.val (.int i0), s1, s2, s3, s4, s5, s6, s7, s8, s9, s10, .val (.int (i0 &&& (3 : Int32))), .val (.int (((i0.toUInt32 >>> ((2 : Int32) &&& 31).toUInt32).toInt32) &&& (3 : Int32))), .val (.int (((i0.toUInt32 >>> ((4 : Int32) &&& 31).toUInt32).toInt32) &&& (3 : Int32))), .val (.int (-2147483648 : Int32)), .val (.int (2147483647 : Int32)), .unset, .unset, .unset, .unset, .unset, .unset, .unset] [])) target → Steps p.tables e below (T0.setTop (mkF m 0 #[.val (.int i0), s1, s2, s3, s4, s5, s6, s7, s8, s9, s10, .unset, .unset, .unset, .unset, .unset, .unset, .unset, .unset, .unset, .unset, .unset, .unset] [])) target := by
  refine ⟨T0, X0, e0, fun target kt => ?_⟩
  show Steps p.tables e below (T0.setTop (mkF m 0 #[.val (.int i0), s1, s2, s3, s4, s5, s6, s7, s8, s9, s10, .unset, .unset, .unset, .unset, .unset, .unset, .unset, .unset, .unset, .unset, .unset, .unset] [])) _
  refine XS.iloadN X0.here hx rfl (hb hby at_0) rfl ?_
  show Steps p.tables e below (T0.setTop (mkF m 1 #[.val (.int i0), s1, s2, s3, s4, s5, s6, s7, s8, s9, s10, .unset, .unset, .unset, .unset, .unset, .unset, .unset, .unset, .unset, .unset, .unset, .unset] [(.int i0)])) _
  refine XS.iconst X0.here hx rfl (hb hby at_1) ?_
  show Steps p.tables e below (T0.setTop (mkF m 2 #[.val (.int i0), s1, s2, s3, s4, s5, s6, s7, s8, s9, s10, .unset, .unset, .unset, .unset, .unset, .unset, .unset, .unset, .unset, .unset, .unset, .unset] [(.int (3 : Int32)), (.int i0)])) _
  refine XS.iand X0.here hx rfl (hb hby at_2) rfl ?_
  show Steps p.tables e below (T0.setTop (mkF m 3 #[.val (.int i0), s1, s2, s3, s4, s5, s6, s7, s8, s9, s10, .unset, .unset, .unset, .unset, .unset, .unset, .unset, .unset, .unset, .unset, .unset, .unset] [(.int (i0 &&& (3 : Int32)))])) _
  refine XS.istore X0.here hx rfl (hb hby at_3) rfl (l' := #[.val (.int i0), s1, s2, s3, s4, s5, s6, s7, s8, s9, s10, .val (.int (i0 &&& (3 : Int32))), .unset, .unset, .unset, .unset, .unset, .unset, .unset, .unset, .unset, .unset, .unset]) rfl ?_
  show Steps p.tables e below (T0.setTop (mkF m 5 #[.val (.int i0), s1, s2, s3, s4, s5, s6, s7, s8, s9, s10, .val (.int (i0 &&& (3 : Int32))), .unset, .unset, .unset, .unset, .unset, .unset, .unset, .unset, .unset, .unset, .unset] [])) _
  refine XS.iloadN X0.here hx rfl (hb hby at_5) rfl ?_
  show Steps p.tables e below (T0.setTop (mkF m 6 #[.val (.int i0), s1, s2, s3, s4, s5, s6, s7, s8, s9, s10, .val (.int (i0 &&& (3 : Int32))), .unset, .unset, .unset, .unset, .unset, .unset, .unset, .unset, .unset, .unset, .unset] [(.int i0)])) _
  refine XS.iconst X0.here hx rfl (hb hby at_6) ?_
  show Steps p.tables e below (T0.setTop (mkF m 7 #[.val (.int i0), s1, s2, s3, s4, s5, s6, s7, s8, s9, s10, .val (.int (i0 &&& (3 : Int32))), .unset, .unset, .unset, .unset, .unset, .unset, .unset, .unset, .unset, .unset, .unset] [(.int (2 : Int32)), (.int i0)])) _
  refine XS.iushr X0.here hx rfl (hb hby at_7) rfl ?_
  show Steps p.tables e below (T0.setTop (mkF m 8 #[.val (.int i0), s1, s2, s3, s4, s5, s6, s7, s8, s9, s10, .val (.int (i0 &&& (3 : Int32))), .unset, .unset, .unset, .unset, .unset, .unset, .unset, .unset, .unset, .unset, .unset] [(.int ((i0.toUInt32 >>> ((2 : Int32) &&& 31).toUInt32).toInt32))])) _
  refine XS.iconst X0.here hx rfl (hb hby at_8) ?_
  show Steps p.tables e below (T0.setTop (mkF m 9 #[.val (.int i0), s1, s2, s3, s4, s5, s6, s7, s8, s9, s10, .val (.int (i0 &&& (3 : Int32))), .unset, .unset, .unset, .unset, .unset, .unset, .unset, .unset, .unset, .unset, .unset] [(.int (3 : Int32)), (.int ((i0.toUInt32 >>> ((2 : Int32) &&& 31).toUInt32).toInt32))])) _
  refine XS.iand X0.here hx rfl (hb hby at_9) rfl ?_
  show Steps p.tables e below (T0.setTop (mkF m 10 #[.val (.int i0), s1, s2, s3, s4, s5, s6, s7, s8, s9, s10, .val (.int (i0 &&& (3 : Int32))), .unset, .unset, .unset, .unset, .unset, .unset, .unset, .unset, .unset, .unset, .unset] [(.int (((i0.toUInt32 >>> ((2 : Int32) &&& 31).toUInt32).toInt32) &&& (3 : Int32)))])) _
  refine XS.istore X0.here hx rfl (hb hby at_10) rfl (l' := #[.val (.int i0), s1, s2, s3, s4, s5, s6, s7, s8, s9, s10, .val (.int (i0 &&& (3 : Int32))), .val (.int (((i0.toUInt32 >>> ((2 : Int32) &&& 31).toUInt32).toInt32) &&& (3 : Int32))), .unset, .unset, .unset, .unset, .unset, .unset, .unset, .unset, .unset, .unset]) rfl ?_
  show Steps p.tables e below (T0.setTop (mkF m 12 #[.val (.int i0), s1, s2, s3, s4, s5, s6, s7, s8, s9, s10, .val (.int (i0 &&& (3 : Int32))), .val (.int (((i0.toUInt32 >>> ((2 : Int32) &&& 31).toUInt32).toInt32) &&& (3 : Int32))), .unset, .unset, .unset, .unset, .unset, .unset, .unset, .unset, .unset, .unset] [])) _
  refine XS.iloadN X0.here hx rfl (hb hby at_12) rfl ?_
  show Steps p.tables e below (T0.setTop (mkF m 13 #[.val (.int i0), s1, s2, s3, s4, s5, s6, s7, s8, s9, s10, .val (.int (i0 &&& (3 : Int32))), .val (.int (((i0.toUInt32 >>> ((2 : Int32) &&& 31).toUInt32).toInt32) &&& (3 : Int32))), .unset, .unset, .unset, .unset, .unset, .unset, .unset, .unset, .unset, .unset] [(.int i0)])) _
  refine XS.iconst X0.here hx rfl (hb hby at_13) ?_
  show Steps p.tables e below (T0.setTop (mkF m 14 #[.val (.int i0), s1, s2, s3, s4, s5, s6, s7, s8, s9, s10, .val (.int (i0 &&& (3 : Int32))), .val (.int (((i0.toUInt32 >>> ((2 : Int32) &&& 31).toUInt32).toInt32) &&& (3 : Int32))), .unset, .unset, .unset, .unset, .unset, .unset, .unset, .unset, .unset, .unset] [(.int (4 : Int32)), (.int i0)])) _
  refine XS.iushr X0.here hx rfl (hb hby at_14) rfl ?_
  show Steps p.tables e below (T0.setTop (mkF m 15 #[.val (.int i0), s1, s2, s3, s4, s5, s6, s7, s8, s9, s10, .val (.int (i0 &&& (3 : Int32))), .val (.int (((i0.toUInt32 >>> ((2 : Int32) &&& 31).toUInt32).toInt32) &&& (3 : Int32))), .unset, .unset, .unset, .unset, .unset, .unset, .unset, .unset, .unset, .unset] [(.int ((i0.toUInt32 >>> ((4 : Int32) &&& 31).toUInt32).toInt32))])) _
  refine XS.iconst X0.here hx rfl (hb hby at_15) ?_
  show Steps p.tables e below (T0.setTop (mkF m 16 #[.val (.int i0), s1, s2, s3, s4, s5, s6, s7, s8, s9, s10, .val (.int (i0 &&& (3 : Int32))), .val (.int (((i0.toUInt32 >>> ((2 : Int32) &&& 31).toUInt32).toInt32) &&& (3 : Int32))), .unset, .unset, .unset, .unset, .unset, .unset, .unset, .unset, .unset, .unset] [(.int (3 : Int32)), (.int ((i0.toUInt32 >>> ((4 : Int32) &&& 31).toUInt32).toInt32))])) _
  refine XS.iand X0.here hx rfl (hb hby at_16) rfl ?_
  show Steps p.tables e below (T0.setTop (mkF m 17 #[.val (.int i0), s1, s2, s3, s4, s5, s6, s7, s8, s9, s10, .val (.int (i0 &&& (3 : Int32))), .val (.int (((i0.toUInt32 >>> ((2 : Int32) &&& 31).toUInt32).toInt32) &&& (3 : Int32))), .unset, .unset, .unset, .unset, .unset, .unset, .unset, .unset, .unset, .unset] [(.int (((i0.toUInt32 >>> ((4 : Int32) &&& 31).toUInt32).toInt32) &&& (3 : Int32)))])) _
  refine XS.istore X0.here hx rfl (hb hby at_17) rfl (l' := #[.val (.int i0), s1, s2, s3, s4, s5, s6, s7, s8, s9, s10, .val (.int (i0 &&& (3 : Int32))), .val (.int (((i0.toUInt32 >>> ((2 : Int32) &&& 31).toUInt32).toInt32) &&& (3 : Int32))), .val (.int (((i0.toUInt32 >>> ((4 : Int32) &&& 31).toUInt32).toInt32) &&& (3 : Int32))), .unset, .unset, .unset, .unset, .unset, .unset, .unset, .unset, .unset]) rfl ?_
  show Steps p.tables e below (T0.setTop (mkF m 19 #[.val (.int i0), s1, s2, s3, s4, s5, s6, s7, s8, s9, s10, .val (.int (i0 &&& (3 : Int32))), .val (.int (((i0.toUInt32 >>> ((2 : Int32) &&& 31).toUInt32).toInt32) &&& (3 : Int32))), .val (.int (((i0.toUInt32 >>> ((4 : Int32) &&& 31).toUInt32).toInt32) &&& (3 : Int32))), .unset, .unset, .unset, .unset, .unset, .unset, .unset, .unset, .unset] [])) _
  refine X0.ldcInt hx hown (mvT hZ (hw _ (List.mem_of_getElem? (i := 0) rfl))) (g := (mkF m 19 #[.val (.int i0), s1, s2, s3, s4, s5, s6, s7, s8, s9, s10, .val (.int (i0 &&& (3 : Int32))), .val (.int (((i0.toUInt32 >>> ((2 : Int32) &&& 31).toUInt32).toInt32) &&& (3 : Int32))), .val (.int (((i0.toUInt32 >>> ((4 : Int32) &&& 31).toUInt32).toInt32) &&& (3 : Int32))), .unset, .unset, .unset, .unset, .unset, .unset, .unset, .unset, .unset] [])) rfl (hb hby at_19) _ ?_
  show Steps p.tables e below (T0.setTop (mkF m 21 #[.val (.int i0), s1, s2, s3, s4, s5, s6, s7, s8, s9, s10, .val (.int (i0 &&& (3 : Int32))), .val (.int (((i0.toUInt32 >>> ((2 : Int32) &&& 31).toUInt32).toInt32) &&& (3 : Int32))), .val (.int (((i0.toUInt32 >>> ((4 : Int32) &&& 31).toUInt32).toInt32) &&& (3 : Int32))), .unset, .unset, .unset, .unset, .unset, .unset, .unset, .unset, .unset] [(.int (-2147483648 : Int32))])) _
  refine XS.istore X0.here hx rfl (hb hby at_21) rfl (l' := #[.val (.int i0), s1, s2, s3, s4, s5, s6, s7, s8, s9, s10, .val (.int (i0 &&& (3 : Int32))), .val (.int (((i0.toUInt32 >>> ((2 : Int32) &&& 31).toUInt32).toInt32) &&& (3 : Int32))), .val (.int (((i0.toUInt32 >>> ((4 : Int32) &&& 31).toUInt32).toInt32) &&& (3 : Int32))), .val (.int (-2147483648 : Int32)), .unset, .unset, .unset, .unset, .unset, .unset, .unset, .unset]) rfl ?_
  show Steps p.tables e below (T0.setTop (mkF m 23 #[.val (.int i0), s1, s2, s3, s4, s5, s6, s7, s8, s9, s10, .val (.int (i0 &&& (3 : Int32))), .val (.int (((i0.toUInt32 >>> ((2 : Int32) &&& 31).toUInt32).toInt32) &&& (3 : Int32))), .val (.int (((i0.toUInt32 >>> ((4 : Int32) &&& 31).toUInt32).toInt32) &&& (3 : Int32))), .val (.int (-2147483648 : Int32)), .unset, .unset, .unset, .unset, .unset, .unset, .unset, .unset] [])) _
  refine X0.ldcInt hx hown (mvT hZ (hw _ (List.mem_of_getElem? (i := 1) rfl))) (g := (mkF m 23 #[.val (.int i0), s1, s2, s3, s4, s5, s6, s7, s8, s9, s10, .val (.int (i0 &&& (3 : Int32))), .val (.int (((i0.toUInt32 >>> ((2 : Int32) &&& 31).toUInt32).toInt32) &&& (3 : Int32))), .val (.int (((i0.toUInt32 >>> ((4 : Int32) &&& 31).toUInt32).toInt32) &&& (3 : Int32))), .val (.int (-2147483648 : Int32)), .unset, .unset, .unset, .unset, .unset, .unset, .unset, .unset] [])) rfl (hb hby at_23) _ ?_
  show Steps p.tables e below (T0.setTop (mkF m 25 #[.val (.int i0), s1, s2, s3, s4, s5, s6, s7, s8, s9, s10, .val (.int (i0 &&& (3 : Int32))), .val (.int (((i0.toUInt32 >>> ((2 : Int32) &&& 31).toUInt32).toInt32) &&& (3 : Int32))), .val (.int (((i0.toUInt32 >>> ((4 : Int32) &&& 31).toUInt32).toInt32) &&& (3 : Int32))), .val (.int (-2147483648 : Int32)), .unset, .unset, .unset, .unset, .unset, .unset, .unset, .unset] [(.int (2147483647 : Int32))])) _
  refine XS.istore X0.here hx rfl (hb hby at_25) rfl (l' := #[.val (.int i0), s1, s2, s3, s4, s5, s6, s7, s8, s9, s10, .val (.int (i0 &&& (3 : Int32))), .val (.int (((i0.toUInt32 >>> ((2 : Int32) &&& 31).toUInt32).toInt32) &&& (3 : Int32))), .val (.int (((i0.toUInt32 >>> ((4 : Int32) &&& 31).toUInt32).toInt32) &&& (3 : Int32))), .val (.int (-2147483648 : Int32)), .val (.int (2147483647 : Int32)), .unset, .unset, .unset, .unset, .unset, .unset, .unset]) rfl ?_
  exact kt
set_option maxRecDepth 65536 in
set_option maxHeartbeats 40000000 in
theorem sB0 {p : Program} {l : Launch} {e : Env} {s : State} {m : MethodId} {args : Array Value} {below : List Frame} {meth : Method} {c : Code} {T0 : State} {locs : List Loc} {Z : State} {a0 : Array Value} {h0 : Heap} (s0 : Slot) (s1 : Slot) (s2 : Slot) (s3 : Slot) (s4 : Slot) (s5 : Slot) (s6 : Slot) (s7 : Slot) (s8 : Slot) (s9 : Slot) (s10 : Slot) (i11 : Int32) (s12 : Slot) (s13 : Slot) (i14 : Int32) (i15 : Int32) (n0 : Nat)
    (X0 : Stand p l e room_1 s m args below meth c T0 locs 0 0) (hx : p.tables.exec = Jvm.exec) (hZ : Z.Warmed39 s.vm) (hw : ∀ d ∈ tables_1, d.before a0 Z = true) (hby : c.code = code) (hml : c.maxLocals = 23) (hown : s.vm.findClass "com/example/tight_bounds/tightbounds/model/StateLayoutApplyPinLaw" = some m.cls) (e0 : T0.heap = h0) (Z0 : n0 ≤ h0.size) (N0 : Fr n0 locs) (hc29 : i11 = (0 : Int32)) :
    ∃ (T' : State) (h' : Heap) (locs' : List Loc) (b c' : Addr), Stand p l e room_1 s m args below meth c T' locs' (0 + 2) 0 ∧ T'.heap = h' ∧ Fr n0 locs' ∧ Ary Z h' b .int 0 (fun _ => .int (0 : Int32)) ∧ Ary Z h' c' .int 0 (fun _ => .int (1 : Int32)) ∧ Exa Z h' b "[I" ∧ n0 ≤ h'.size ∧
      ∀ target, Steps p.tables e below (T'.setTop (mkF m 193 #[s0, s1, s2, s3, s4, s5, s6, s7, s8, s9, s10, .val (.int i11), s12, s13, .val (.int i14), .val (.int i15), .val (.ref b), .val (.ref c'), .val (.int (0 : Int32)), .unset, .unset, .unset, .unset] [])) target → Steps p.tables e below (T0.setTop (mkF m 27 #[s0, s1, s2, s3, s4, s5, s6, s7, s8, s9, s10, .val (.int i11), s12, s13, .val (.int i14), .val (.int i15), .unset, .unset, .unset, .unset, .unset, .unset, .unset] [])) target := by
  obtain ⟨T7, h7, k7, X7, e7, E7, A7, Q7, st7⟩ := newPE X0 hx hZ (hw _ (List.mem_of_getElem? (i := 2) rfl)) e0 (g := (mkF m 33 #[s0, s1, s2, s3, s4, s5, s6, s7, s8, s9, s10, .val (.int i11), s12, s13, .val (.int i14), .val (.int i15), .unset, .unset, .unset, .unset, .unset, .unset, .unset] [(.int (0 : Int32))])) rfl (hb hby at_33) rfl (by decide) (cap := 0) (by decide) (by decide) (by decide) (by decide) (ad := "[I") rfl
  obtain ⟨b7, g7⟩ : ∃ z, z = h0.size := ⟨_, rfl⟩
  rw [← g7] at A7 Q7 st7
  have V_b7 : Ary Z h7 b7 .int 0 (fun _ => (.int (0 : Int32))) := Ary.new A7 (by decide) rfl
  have g_b7 : n0 ≤ b7 := Nat.le_trans Z0 (Nat.le_of_eq g7.symm)
  have sz_b7 : h0.size ≤ b7 := (Nat.le_trans (Keep.refl h0 []).1 (Nat.le_of_eq g7.symm))
  have K7 : Keep h0 h7 [] := (Keep.refl h0 []).ext E7
  have E_b7 := Q7
  obtain ⟨T8, h8, k8, X8, e8, E8, A8, Q8, st8⟩ := newPE X7 hx hZ (hw _ (List.mem_of_getElem? (i := 2) rfl)) e7 (g := (mkF m 38 #[s0, s1, s2, s3, s4, s5, s6, s7, s8, s9, s10, .val (.int i11), s12, s13, .val (.int i14), .val (.int i15), .val (.ref b7), .unset, .unset, .unset, .unset, .unset, .unset] [(.int (0 : Int32))])) rfl (hb hby at_38) rfl (by decide) (cap := 0) (by decide) (by decide) (by decide) (by decide) (ad := "[I") rfl
  obtain ⟨b8, g8⟩ : ∃ z, z = h7.size := ⟨_, rfl⟩
  rw [← g8] at A8 Q8 st8
  have V_b8 : Ary Z h8 b8 .int 0 (fun _ => (.int (0 : Int32))) := Ary.new A8 (by decide) rfl
  have g_b8 : n0 ≤ b8 := Nat.le_trans (Nat.le_trans Z0 E7.1) (Nat.le_of_eq g8.symm)
  have sz_b8 : h0.size ≤ b8 := (Nat.le_trans K7.1 (Nat.le_of_eq g8.symm))
  have K8 : Keep h0 h8 [] := K7.ext E8
  have E_b8 := Q8
  have Vend_b7 := (V_b7.ext E8)
  have Eend_b7 := (E_b7.ext E8)
  have Vend_b8 := V_b8
  have Eend_b8 := E_b8
  have Zend : n0 ≤ h8.size := (Nat.le_trans (Nat.le_trans Z0 E7.1) E8.1)
  have Kend := K8
  refine ⟨T8, _, _, b7, b8, X8, e8, N0, Vend_b7.cong (fun j hj => absurd hj (Nat.not_lt_zero j)), Vend_b8.cong (fun j hj => absurd hj (Nat.not_lt_zero j)), Eend_b7, Zend, fun target kt => ?_⟩
  show Steps p.tables e below (T0.setTop (mkF m 27 #[s0, s1, s2, s3, s4, s5, s6, s7, s8, s9, s10, .val (.int i11), s12, s13, .val (.int i14), .val (.int i15), .unset, .unset, .unset, .unset, .unset, .unset, .unset] [])) _
  refine XS.iload X0.here hx rfl (hb hby at_27) rfl ?_
  show Steps p.tables e below (T0.setTop (mkF m 29 #[s0, s1, s2, s3, s4, s5, s6, s7, s8, s9, s10, .val (.int i11), s12, s13, .val (.int i14), .val (.int i15), .unset, .unset, .unset, .unset, .unset, .unset, .unset] [(.int i11)])) _
  refine XS.ifNo X0.here hx rfl (hb hby at_29) rfl ((if0 _ _).trans (teq hc29).2) ?_
  show Steps p.tables e below (T0.setTop (mkF m 32 #[s0, s1, s2, s3, s4, s5, s6, s7, s8, s9, s10, .val (.int i11), s12, s13, .val (.int i14), .val (.int i15), .unset, .unset, .unset, .unset, .unset, .unset, .unset] [])) _
  refine XS.iconst X0.here hx rfl (hb hby at_32) ?_
  show Steps p.tables e below (T0.setTop (mkF m 33 #[s0, s1, s2, s3, s4, s5, s6, s7, s8, s9, s10, .val (.int i11), s12, s13, .val (.int i14), .val (.int i15), .unset, .unset, .unset, .unset, .unset, .unset, .unset] [(.int (0 : Int32))])) _
  refine st7 _ ?_
  show Steps p.tables e below (T7.setTop (mkF m 35 #[s0, s1, s2, s3, s4, s5, s6, s7, s8, s9, s10, .val (.int i11), s12, s13, .val (.int i14), .val (.int i15), .unset, .unset, .unset, .unset, .unset, .unset, .unset] [(.ref b7)])) _
  refine XS.astore X7.here hx rfl (hb hby at_35) rfl rfl (l' := #[s0, s1, s2, s3, s4, s5, s6, s7, s8, s9, s10, .val (.int i11), s12, s13, .val (.int i14), .val (.int i15), .val (.ref b7), .unset, .unset, .unset, .unset, .unset, .unset]) rfl ?_
  show Steps p.tables e below (T7.setTop (mkF m 37 #[s0, s1, s2, s3, s4, s5, s6, s7, s8, s9, s10, .val (.int i11), s12, s13, .val (.int i14), .val (.int i15), .val (.ref b7), .unset, .unset, .unset, .unset, .unset, .unset] [])) _
  refine XS.iconst X7.here hx rfl (hb hby at_37) ?_
  show Steps p.tables e below (T7.setTop (mkF m 38 #[s0, s1, s2, s3, s4, s5, s6, s7, s8, s9, s10, .val (.int i11), s12, s13, .val (.int i14), .val (.int i15), .val (.ref b7), .unset, .unset, .unset, .unset, .unset, .unset] [(.int (0 : Int32))])) _
  refine st8 _ ?_
  show Steps p.tables e below (T8.setTop (mkF m 40 #[s0, s1, s2, s3, s4, s5, s6, s7, s8, s9, s10, .val (.int i11), s12, s13, .val (.int i14), .val (.int i15), .val (.ref b7), .unset, .unset, .unset, .unset, .unset, .unset] [(.ref b8)])) _
  refine XS.astore X8.here hx rfl (hb hby at_40) rfl rfl (l' := #[s0, s1, s2, s3, s4, s5, s6, s7, s8, s9, s10, .val (.int i11), s12, s13, .val (.int i14), .val (.int i15), .val (.ref b7), .val (.ref b8), .unset, .unset, .unset, .unset, .unset]) rfl ?_
  show Steps p.tables e below (T8.setTop (mkF m 42 #[s0, s1, s2, s3, s4, s5, s6, s7, s8, s9, s10, .val (.int i11), s12, s13, .val (.int i14), .val (.int i15), .val (.ref b7), .val (.ref b8), .unset, .unset, .unset, .unset, .unset] [])) _
  refine XS.iconst X8.here hx rfl (hb hby at_42) ?_
  show Steps p.tables e below (T8.setTop (mkF m 43 #[s0, s1, s2, s3, s4, s5, s6, s7, s8, s9, s10, .val (.int i11), s12, s13, .val (.int i14), .val (.int i15), .val (.ref b7), .val (.ref b8), .unset, .unset, .unset, .unset, .unset] [(.int (0 : Int32))])) _
  refine XS.istore X8.here hx rfl (hb hby at_43) rfl (l' := #[s0, s1, s2, s3, s4, s5, s6, s7, s8, s9, s10, .val (.int i11), s12, s13, .val (.int i14), .val (.int i15), .val (.ref b7), .val (.ref b8), .val (.int (0 : Int32)), .unset, .unset, .unset, .unset]) rfl ?_
  show Steps p.tables e below (T8.setTop (mkF m 45 #[s0, s1, s2, s3, s4, s5, s6, s7, s8, s9, s10, .val (.int i11), s12, s13, .val (.int i14), .val (.int i15), .val (.ref b7), .val (.ref b8), .val (.int (0 : Int32)), .unset, .unset, .unset, .unset] [])) _
  refine XS.goto X8.here hx rfl (pc0 := 45) (pc' := 193) rfl (hb hby at_45) (by decide) (by decide) ?_
  exact kt
set_option maxRecDepth 65536 in
set_option maxHeartbeats 40000000 in
theorem sB1 {p : Program} {l : Launch} {e : Env} {s : State} {m : MethodId} {args : Array Value} {below : List Frame} {meth : Method} {c : Code} {T0 : State} {locs : List Loc} {Z : State} {a0 : Array Value} {h0 : Heap} (s0 : Slot) (s1 : Slot) (s2 : Slot) (s3 : Slot) (s4 : Slot) (s5 : Slot) (s6 : Slot) (s7 : Slot) (s8 : Slot) (s9 : Slot) (s10 : Slot) (i11 : Int32) (s12 : Slot) (s13 : Slot) (i14 : Int32) (i15 : Int32) (n0 : Nat)
    (X0 : Stand p l e room_1 s m args below meth c T0 locs 0 0) (hx : p.tables.exec = Jvm.exec) (hZ : Z.Warmed39 s.vm) (hw : ∀ d ∈ tables_1, d.before a0 Z = true) (hby : c.code = code) (hml : c.maxLocals = 23) (hown : s.vm.findClass "com/example/tight_bounds/tightbounds/model/StateLayoutApplyPinLaw" = some m.cls) (e0 : T0.heap = h0) (Z0 : n0 ≤ h0.size) (N0 : Fr n0 locs) (hc29 : ¬ (i11 = (0 : Int32))) (hc51 : i11 = (1 : Int32)) :
    ∃ (T' : State) (h' : Heap) (locs' : List Loc) (b c' : Addr), Stand p l e room_1 s m args below meth c T' locs' (0 + 2) (0 + 2) ∧ T'.heap = h' ∧ Fr n0 locs' ∧ Ary Z h' b .int 1 (fun _ => .int (0 : Int32)) ∧ Ary Z h' c' .int 1 (fun _ => .int (1 : Int32)) ∧ Exa Z h' b "[I" ∧ n0 ≤ h'.size ∧
      ∀ target, Steps p.tables e below (T'.setTop (mkF m 193 #[s0, s1, s2, s3, s4, s5, s6, s7, s8, s9, s10, .val (.int i11), s12, s13, .val (.int i14), .val (.int i15), .val (.ref b), .val (.ref c'), .val (.int (1 : Int32)), .unset, .unset, .unset, .unset] [])) target → Steps p.tables e below (T0.setTop (mkF m 27 #[s0, s1, s2, s3, s4, s5, s6, s7, s8, s9, s10, .val (.int i11), s12, s13, .val (.int i14), .val (.int i15), .unset, .unset, .unset, .unset, .unset, .unset, .unset] [])) target := by
  obtain ⟨T7, h7, k7, X7, e7, E7, A7, Q7, st7⟩ := newPE X0 hx hZ (hw _ (List.mem_of_getElem? (i := 2) rfl)) e0 (g := (mkF m 55 #[s0, s1, s2, s3, s4, s5, s6, s7, s8, s9, s10, .val (.int i11), s12, s13, .val (.int i14), .val (.int i15), .unset, .unset, .unset, .unset, .unset, .unset, .unset] [(.int (1 : Int32))])) rfl (hb hby at_55) rfl (by decide) (cap := 1) (by decide) (by decide) (by decide) (by decide) (ad := "[I") rfl
  obtain ⟨b7, g7⟩ : ∃ z, z = h0.size := ⟨_, rfl⟩
  rw [← g7] at A7 Q7 st7
  have V_b7 : Ary Z h7 b7 .int 1 (fun _ => (.int (0 : Int32))) := Ary.new A7 (by decide) rfl
  have g_b7 : n0 ≤ b7 := Nat.le_trans Z0 (Nat.le_of_eq g7.symm)
  have sz_b7 : h0.size ≤ b7 := (Nat.le_trans (Keep.refl h0 []).1 (Nat.le_of_eq g7.symm))
  have K7 : Keep h0 h7 [] := (Keep.refl h0 []).ext E7
  have E_b7 := Q7
  obtain ⟨cl_60, Ar_60, S_60, H_60⟩ := id V_b7
  have hin60 := Ary.inn S_60 (show own_ix (0 : Int32) 0 from rfl) (by decide)
  obtain ⟨T8, h8, X8, e8, W8, st8⟩ := stI X7 hx hZ e7 Ar_60 (j := (0 : Int32)) hin60 (g := (mkF m 60 #[s0, s1, s2, s3, s4, s5, s6, s7, s8, s9, s10, .val (.int i11), s12, s13, .val (.int i14), .val (.int i15), .unset, .unset, .unset, .unset, .unset, .unset, .unset] [(.int (0 : Int32)), (.int (0 : Int32)), (.ref b7), (.ref b7)])) rfl rfl (hb hby at_60)
  have V_b7_8 := Ary.set Ar_60 S_60 H_60 W8 (show own_ix (0 : Int32) 0 from rfl)
  have K8 : Keep h0 h8 [] := K7.wr W8 (Or.inr sz_b7)
  have N8 := Fr.snoc X8 N0 g_b7
  obtain ⟨T9, h9, k9, X9, e9, E9, A9, Q9, st9⟩ := newPE X8 hx hZ (hw _ (List.mem_of_getElem? (i := 2) rfl)) e8 (g := (mkF m 64 #[s0, s1, s2, s3, s4, s5, s6, s7, s8, s9, s10, .val (.int i11), s12, s13, .val (.int i14), .val (.int i15), .val (.ref b7), .unset, .unset, .unset, .unset, .unset, .unset] [(.int (1 : Int32))])) rfl (hb hby at_64) rfl (by decide) (cap := 1) (by decide) (by decide) (by decide) (by decide) (ad := "[I") rfl
  obtain ⟨b9, g9⟩ : ∃ z, z = h8.size := ⟨_, rfl⟩
  rw [← g9] at A9 Q9 st9
  have V_b9 : Ary Z h9 b9 .int 1 (fun _ => (.int (0 : Int32))) := Ary.new A9 (by decide) rfl
  have g_b9 : n0 ≤ b9 := Nat.le_trans (Nat.le_trans (Nat.le_trans Z0 E7.1) (Keep.of_wr W8).1) (Nat.le_of_eq g9.symm)
  have sz_b9 : h0.size ≤ b9 := (Nat.le_trans K8.1 (Nat.le_of_eq g9.symm))
  have K9 : Keep h0 h9 [] := K8.ext E9
  have E_b9 := Q9
  obtain ⟨cl_69, Ar_69, S_69, H_69⟩ := id V_b9
  have hin69 := Ary.inn S_69 (show own_ix (0 : Int32) 0 from rfl) (by decide)
  obtain ⟨T10, h10, X10, e10, W10, st10⟩ := stI X9 hx hZ e9 Ar_69 (j := (0 : Int32)) hin69 (g := (mkF m 69 #[s0, s1, s2, s3, s4, s5, s6, s7, s8, s9, s10, .val (.int i11), s12, s13, .val (.int i14), .val (.int i15), .val (.ref b7), .unset, .unset, .unset, .unset, .unset, .unset] [(.int (1 : Int32)), (.int (0 : Int32)), (.ref b9), (.ref b9)])) rfl rfl (hb hby at_69)
  have V_b9_10 := Ary.set Ar_69 S_69 H_69 W10 (show own_ix (0 : Int32) 0 from rfl)
  have K10 : Keep h0 h10 [] := K9.wr W10 (Or.inr sz_b9)
  have N10 := Fr.snoc X10 N8 g_b9
  have Vend_b7 := ((V_b7_8.ext E9).other W10 (Nat.ne_of_lt (Nat.lt_of_lt_of_le V_b7_8.lt (Nat.le_of_eq g9.symm))))
  have Eend_b7 := (((E_b7.wr W8).ext E9).wr W10)
  have Vend_b9 := V_b9_10
  have Eend_b9 := (E_b9.wr W10)
  have Zend : n0 ≤ h10.size := (Nat.le_trans (Nat.le_trans (Nat.le_trans (Nat.le_trans Z0 E7.1) (Keep.of_wr W8).1) E9.1) (Keep.of_wr W10).1)
  have Kend := K10
  refine ⟨T10, _, _, b7, b9, X10, e10, N10, Vend_b7.cong (fun j hj => by
      obtain rfl : j = 0 := by omega
      all_goals rfl), Vend_b9.cong (fun j hj => by
      obtain rfl : j = 0 := by omega
      all_goals rfl), Eend_b7, Zend, fun target kt => ?_⟩
  show Steps p.tables e below (T0.setTop (mkF m 27 #[s0, s1, s2, s3, s4, s5, s6, s7, s8, s9, s10, .val (.int i11), s12, s13, .val (.int i14), .val (.int i15), .unset, .unset, .unset, .unset, .unset, .unset, .unset] [])) _
  refine XS.iload X0.here hx rfl (hb hby at_27) rfl ?_
  show Steps p.tables e below (T0.setTop (mkF m 29 #[s0, s1, s2, s3, s4, s5, s6, s7, s8, s9, s10, .val (.int i11), s12, s13, .val (.int i14), .val (.int i15), .unset, .unset, .unset, .unset, .unset, .unset, .unset] [(.int i11)])) _
  refine XS.ifYes X0.here hx rfl (pc0 := 29) (pc' := 48) rfl (hb hby at_29) rfl ((if0 _ _).trans (feq hc29).2) (by decide) (by decide) ?_
  show Steps p.tables e below (T0.setTop (mkF m 48 #[s0, s1, s2, s3, s4, s5, s6, s7, s8, s9, s10, .val (.int i11), s12, s13, .val (.int i14), .val (.int i15), .unset, .unset, .unset, .unset, .unset, .unset, .unset] [])) _
  refine XS.iload X0.here hx rfl (hb hby at_48) rfl ?_
  show Steps p.tables e below (T0.setTop (mkF m 50 #[s0, s1, s2, s3, s4, s5, s6, s7, s8, s9, s10, .val (.int i11), s12, s13, .val (.int i14), .val (.int i15), .unset, .unset, .unset, .unset, .unset, .unset, .unset] [(.int i11)])) _
  refine XS.iconst X0.here hx rfl (hb hby at_50) ?_
  show Steps p.tables e below (T0.setTop (mkF m 51 #[s0, s1, s2, s3, s4, s5, s6, s7, s8, s9, s10, .val (.int i11), s12, s13, .val (.int i14), .val (.int i15), .unset, .unset, .unset, .unset, .unset, .unset, .unset] [(.int (1 : Int32)), (.int i11)])) _
  refine XS.icmpNo X0.here hx rfl (hb hby at_51) rfl (teq hc51).2 ?_
  show Steps p.tables e below (T0.setTop (mkF m 54 #[s0, s1, s2, s3, s4, s5, s6, s7, s8, s9, s10, .val (.int i11), s12, s13, .val (.int i14), .val (.int i15), .unset, .unset, .unset, .unset, .unset, .unset, .unset] [])) _
  refine XS.iconst X0.here hx rfl (hb hby at_54) ?_
  show Steps p.tables e below (T0.setTop (mkF m 55 #[s0, s1, s2, s3, s4, s5, s6, s7, s8, s9, s10, .val (.int i11), s12, s13, .val (.int i14), .val (.int i15), .unset, .unset, .unset, .unset, .unset, .unset, .unset] [(.int (1 : Int32))])) _
  refine st7 _ ?_
  show Steps p.tables e below (T7.setTop (mkF m 57 #[s0, s1, s2, s3, s4, s5, s6, s7, s8, s9, s10, .val (.int i11), s12, s13, .val (.int i14), .val (.int i15), .unset, .unset, .unset, .unset, .unset, .unset, .unset] [(.ref b7)])) _
  refine XS.dup X7.here hx rfl (hb hby at_57) rfl rfl ?_
  show Steps p.tables e below (T7.setTop (mkF m 58 #[s0, s1, s2, s3, s4, s5, s6, s7, s8, s9, s10, .val (.int i11), s12, s13, .val (.int i14), .val (.int i15), .unset, .unset, .unset, .unset, .unset, .unset, .unset] [(.ref b7), (.ref b7)])) _
  refine XS.iconst X7.here hx rfl (hb hby at_58) ?_
  show Steps p.tables e below (T7.setTop (mkF m 59 #[s0, s1, s2, s3, s4, s5, s6, s7, s8, s9, s10, .val (.int i11), s12, s13, .val (.int i14), .val (.int i15), .unset, .unset, .unset, .unset, .unset, .unset, .unset] [(.int (0 : Int32)), (.ref b7), (.ref b7)])) _
  refine XS.iconst X7.here hx rfl (hb hby at_59) ?_
  show Steps p.tables e below (T7.setTop (mkF m 60 #[s0, s1, s2, s3, s4, s5, s6, s7, s8, s9, s10, .val (.int i11), s12, s13, .val (.int i14), .val (.int i15), .unset, .unset, .unset, .unset, .unset, .unset, .unset] [(.int (0 : Int32)), (.int (0 : Int32)), (.ref b7), (.ref b7)])) _
  refine st8 _ ?_
  show Steps p.tables e below (T8.setTop (mkF m 61 #[s0, s1, s2, s3, s4, s5, s6, s7, s8, s9, s10, .val (.int i11), s12, s13, .val (.int i14), .val (.int i15), .unset, .unset, .unset, .unset, .unset, .unset, .unset] [(.ref b7)])) _
  refine XS.astore X8.here hx rfl (hb hby at_61) rfl rfl (l' := #[s0, s1, s2, s3, s4, s5, s6, s7, s8, s9, s10, .val (.int i11), s12, s13, .val (.int i14), .val (.int i15), .val (.ref b7), .unset, .unset, .unset, .unset, .unset, .unset]) rfl ?_
  show Steps p.tables e below (T8.setTop (mkF m 63 #[s0, s1, s2, s3, s4, s5, s6, s7, s8, s9, s10, .val (.int i11), s12, s13, .val (.int i14), .val (.int i15), .val (.ref b7), .unset, .unset, .unset, .unset, .unset, .unset] [])) _
  refine XS.iconst X8.here hx rfl (hb hby at_63) ?_
  show Steps p.tables e below (T8.setTop (mkF m 64 #[s0, s1, s2, s3, s4, s5, s6, s7, s8, s9, s10, .val (.int i11), s12, s13, .val (.int i14), .val (.int i15), .val (.ref b7), .unset, .unset, .unset, .unset, .unset, .unset] [(.int (1 : Int32))])) _
  refine st9 _ ?_
  show Steps p.tables e below (T9.setTop (mkF m 66 #[s0, s1, s2, s3, s4, s5, s6, s7, s8, s9, s10, .val (.int i11), s12, s13, .val (.int i14), .val (.int i15), .val (.ref b7), .unset, .unset, .unset, .unset, .unset, .unset] [(.ref b9)])) _
  refine XS.dup X9.here hx rfl (hb hby at_66) rfl rfl ?_
  show Steps p.tables e below (T9.setTop (mkF m 67 #[s0, s1, s2, s3, s4, s5, s6, s7, s8, s9, s10, .val (.int i11), s12, s13, .val (.int i14), .val (.int i15), .val (.ref b7), .unset, .unset, .unset, .unset, .unset, .unset] [(.ref b9), (.ref b9)])) _
  refine XS.iconst X9.here hx rfl (hb hby at_67) ?_
  show Steps p.tables e below (T9.setTop (mkF m 68 #[s0, s1, s2, s3, s4, s5, s6, s7, s8, s9, s10, .val (.int i11), s12, s13, .val (.int i14), .val (.int i15), .val (.ref b7), .unset, .unset, .unset, .unset, .unset, .unset] [(.int (0 : Int32)), (.ref b9), (.ref b9)])) _
  refine XS.iconst X9.here hx rfl (hb hby at_68) ?_
  show Steps p.tables e below (T9.setTop (mkF m 69 #[s0, s1, s2, s3, s4, s5, s6, s7, s8, s9, s10, .val (.int i11), s12, s13, .val (.int i14), .val (.int i15), .val (.ref b7), .unset, .unset, .unset, .unset, .unset, .unset] [(.int (1 : Int32)), (.int (0 : Int32)), (.ref b9), (.ref b9)])) _
  refine st10 _ ?_
  show Steps p.tables e below (T10.setTop (mkF m 70 #[s0, s1, s2, s3, s4, s5, s6, s7, s8, s9, s10, .val (.int i11), s12, s13, .val (.int i14), .val (.int i15), .val (.ref b7), .unset, .unset, .unset, .unset, .unset, .unset] [(.ref b9)])) _
  refine XS.astore X10.here hx rfl (hb hby at_70) rfl rfl (l' := #[s0, s1, s2, s3, s4, s5, s6, s7, s8, s9, s10, .val (.int i11), s12, s13, .val (.int i14), .val (.int i15), .val (.ref b7), .val (.ref b9), .unset, .unset, .unset, .unset, .unset]) rfl ?_
  show Steps p.tables e below (T10.setTop (mkF m 72 #[s0, s1, s2, s3, s4, s5, s6, s7, s8, s9, s10, .val (.int i11), s12, s13, .val (.int i14), .val (.int i15), .val (.ref b7), .val (.ref b9), .unset, .unset, .unset, .unset, .unset] [])) _
  refine XS.iconst X10.here hx rfl (hb hby at_72) ?_
  show Steps p.tables e below (T10.setTop (mkF m 73 #[s0, s1, s2, s3, s4, s5, s6, s7, s8, s9, s10, .val (.int i11), s12, s13, .val (.int i14), .val (.int i15), .val (.ref b7), .val (.ref b9), .unset, .unset, .unset, .unset, .unset] [(.int (1 : Int32))])) _
  refine XS.istore X10.here hx rfl (hb hby at_73) rfl (l' := #[s0, s1, s2, s3, s4, s5, s6, s7, s8, s9, s10, .val (.int i11), s12, s13, .val (.int i14), .val (.int i15), .val (.ref b7), .val (.ref b9), .val (.int (1 : Int32)), .unset, .unset, .unset, .unset]) rfl ?_
  show Steps p.tables e below (T10.setTop (mkF m 75 #[s0, s1, s2, s3, s4, s5, s6, s7, s8, s9, s10, .val (.int i11), s12, s13, .val (.int i14), .val (.int i15), .val (.ref b7), .val (.ref b9), .val (.int (1 : Int32)), .unset, .unset, .unset, .unset] [])) _
  refine XS.goto X10.here hx rfl (pc0 := 75) (pc' := 193) rfl (hb hby at_75) (by decide) (by decide) ?_
  exact kt
set_option maxRecDepth 65536 in
set_option maxHeartbeats 40000000 in
theorem sB3 {p : Program} {l : Launch} {e : Env} {s : State} {m : MethodId} {args : Array Value} {below : List Frame} {meth : Method} {c : Code} {T0 : State} {locs : List Loc} {Z : State} {a0 : Array Value} {h0 : Heap} (s0 : Slot) (s1 : Slot) (s2 : Slot) (s3 : Slot) (s4 : Slot) (s5 : Slot) (s6 : Slot) (s7 : Slot) (s8 : Slot) (s9 : Slot) (s10 : Slot) (i11 : Int32) (s12 : Slot) (s13 : Slot) (i14 : Int32) (i15 : Int32) (n0 : Nat)
    (X0 : Stand p l e room_1 s m args below meth c T0 locs 0 0) (hx : p.tables.exec = Jvm.exec) (hZ : Z.Warmed39 s.vm) (hw : ∀ d ∈ tables_1, d.before a0 Z = true) (hby : c.code = code) (hml : c.maxLocals = 23) (hown : s.vm.findClass "com/example/tight_bounds/tightbounds/model/StateLayoutApplyPinLaw" = some m.cls) (e0 : T0.heap = h0) (Z0 : n0 ≤ h0.size) (N0 : Fr n0 locs) (hc29 : ¬ (i11 = (0 : Int32))) (hc51 : ¬ (i11 = (1 : Int32))) (hc81 : i11 = (2 : Int32)) :
    ∃ (T' : State) (h' : Heap) (locs' : List Loc) (b c' : Addr), Stand p l e room_1 s m args below meth c T' locs' (0 + 2) (0 + 6) ∧ T'.heap = h' ∧ Fr n0 locs' ∧ Ary Z h' b .int 3 (fun _ => .int i14) ∧ Ary Z h' c' .int 3 (fun _ => .int i15) ∧ Exa Z h' b "[I" ∧ n0 ≤ h'.size ∧
      ∀ target, Steps p.tables e below (T'.setTop (mkF m 193 #[s0, s1, s2, s3, s4, s5, s6, s7, s8, s9, s10, .val (.int i11), s12, s13, .val (.int i14), .val (.int i15), .val (.ref b), .val (.ref c'), .val (.int (2 : Int32)), .unset, .unset, .unset, .unset] [])) target → Steps p.tables e below (T0.setTop (mkF m 27 #[s0, s1, s2, s3, s4, s5, s6, s7, s8, s9, s10, .val (.int i11), s12, s13, .val (.int i14), .val (.int i15), .unset, .unset, .unset, .unset, .unset, .unset, .unset] [])) target := by
  obtain ⟨T7, h7, k7, X7, e7, E7, A7, Q7, st7⟩ := newPE X0 hx hZ (hw _ (List.mem_of_getElem? (i := 2) rfl)) e0 (g := (mkF m 85 #[s0, s1, s2, s3, s4, s5, s6, s7, s8, s9, s10, .val (.int i11), s12, s13, .val (.int i14), .val (.int i15), .unset, .unset, .unset, .unset, .unset, .unset, .unset] [(.int (3 : Int32))])) rfl (hb hby at_85) rfl (by decide) (cap := 3) (by decide) (by decide) (by decide) (by decide) (ad := "[I") rfl
  obtain ⟨b7, g7⟩ : ∃ z, z = h0.size := ⟨_, rfl⟩
  rw [← g7] at A7 Q7 st7
  have V_b7 : Ary Z h7 b7 .int 3 (fun _ => (.int (0 : Int32))) := Ary.new A7 (by decide) rfl
  have g_b7 : n0 ≤ b7 := Nat.le_trans Z0 (Nat.le_of_eq g7.symm)
  have sz_b7 : h0.size ≤ b7 := (Nat.le_trans (Keep.refl h0 []).1 (Nat.le_of_eq g7.symm))
  have K7 : Keep h0 h7 [] := (Keep.refl h0 []).ext E7
  have E_b7 := Q7
  obtain ⟨cl_91, Ar_91, S_91, H_91⟩ := id V_b7
  have hin91 := Ary.inn S_91 (show own_ix (0 : Int32) 0 from rfl) (by decide)
  obtain ⟨T8, h8, X8, e8, W8, st8⟩ := stI X7 hx hZ e7 Ar_91 (j := (0 : Int32)) hin91 (g := (mkF m 91 #[s0, s1, s2, s3, s4, s5, s6, s7, s8, s9, s10, .val (.int i11), s12, s13, .val (.int i14), .val (.int i15), .unset, .unset, .unset, .unset, .unset, .unset, .unset] [(.int i14), (.int (0 : Int32)), (.ref b7), (.ref b7)])) rfl rfl (hb hby at_91)
  have V_b7_8 := Ary.set Ar_91 S_91 H_91 W8 (show own_ix (0 : Int32) 0 from rfl)
  have K8 : Keep h0 h8 [] := K7.wr W8 (Or.inr sz_b7)
  have N8 := Fr.snoc X8 N0 g_b7
  obtain ⟨cl_96, Ar_96, S_96, H_96⟩ := id V_b7_8
  have hin96 := Ary.inn S_96 (show own_ix (1 : Int32) 1 from rfl) (by decide)
  obtain ⟨T9, h9, X9, e9, W9, st9⟩ := stI X8 hx hZ e8 Ar_96 (j := (1 : Int32)) hin96 (g := (mkF m 96 #[s0, s1, s2, s3, s4, s5, s6, s7, s8, s9, s10, .val (.int i11), s12, s13, .val (.int i14), .val (.int i15), .unset, .unset, .unset, .unset, .unset, .unset, .unset] [(.int i14), (.int (1 : Int32)), (.ref b7), (.ref b7)])) rfl rfl (hb hby at_96)
  have V_b7_9 := Ary.set Ar_96 S_96 H_96 W9 (show own_ix (1 : Int32) 1 from rfl)
  have K9 : Keep h0 h9 [] := K8.wr W9 (Or.inr sz_b7)
  have N9 := Fr.snoc X9 N8 g_b7
  obtain ⟨cl_101, Ar_101, S_101, H_101⟩ := id V_b7_9
  have hin101 := Ary.inn S_101 (show own_ix (2 : Int32) 2 from rfl) (by decide)
  obtain ⟨T10, h10, X10, e10, W10, st10⟩ := stI X9 hx hZ e9 Ar_101 (j := (2 : Int32)) hin101 (g := (mkF m 101 #[s0, s1, s2, s3, s4, s5, s6, s7, s8, s9, s10, .val (.int i11), s12, s13, .val (.int i14), .val (.int i15), .unset, .unset, .unset, .unset, .unset, .unset, .unset] [(.int i14), (.int (2 : Int32)), (.ref b7), (.ref b7)])) rfl rfl (hb hby at_101)
  have V_b7_10 := Ary.set Ar_101 S_101 H_101 W10 (show own_ix (2 : Int32) 2 from rfl)
  have K10 : Keep h0 h10 [] := K9.wr W10 (Or.inr sz_b7)
  have N10 := Fr.snoc X10 N9 g_b7
  obtain ⟨T11, h11, k11, X11, e11, E11, A11, Q11, st11⟩ := newPE X10 hx hZ (hw _ (List.mem_of_getElem? (i := 2) rfl)) e10 (g := (mkF m 105 #[s0, s1, s2, s3, s4, s5, s6, s7, s8, s9, s10, .val (.int i11), s12, s13, .val (.int i14), .val (.int i15), .val (.ref b7), .unset, .unset, .unset, .unset, .unset, .unset] [(.int (3 : Int32))])) rfl (hb hby at_105) rfl (by decide) (cap := 3) (by decide) (by decide) (by decide) (by decide) (ad := "[I") rfl
  obtain ⟨b11, g11⟩ : ∃ z, z = h10.size := ⟨_, rfl⟩
  rw [← g11] at A11 Q11 st11
  have V_b11 : Ary Z h11 b11 .int 3 (fun _ => (.int (0 : Int32))) := Ary.new A11 (by decide) rfl
  have g_b11 : n0 ≤ b11 := Nat.le_trans (Nat.le_trans (Nat.le_trans (Nat.le_trans (Nat.le_trans Z0 E7.1) (Keep.of_wr W8).1) (Keep.of_wr W9).1) (Keep.of_wr W10).1) (Nat.le_of_eq g11.symm)
  have sz_b11 : h0.size ≤ b11 := (Nat.le_trans K10.1 (Nat.le_of_eq g11.symm))
  have K11 : Keep h0 h11 [] := K10.ext E11
  have E_b11 := Q11
  obtain ⟨cl_111, Ar_111, S_111, H_111⟩ := id V_b11
  have hin111 := Ary.inn S_111 (show own_ix (0 : Int32) 0 from rfl) (by decide)
  obtain ⟨T12, h12, X12, e12, W12, st12⟩ := stI X11 hx hZ e11 Ar_111 (j := (0 : Int32)) hin111 (g := (mkF m 111 #[s0, s1, s2, s3, s4, s5, s6, s7, s8, s9, s10, .val (.int i11), s12, s13, .val (.int i14), .val (.int i15), .val (.ref b7), .unset, .unset, .unset, .unset, .unset, .unset] [(.int i15), (.int (0 : Int32)), (.ref b11), (.ref b11)])) rfl rfl (hb hby at_111)
  have V_b11_12 := Ary.set Ar_111 S_111 H_111 W12 (show own_ix (0 : Int32) 0 from rfl)
  have K12 : Keep h0 h12 [] := K11.wr W12 (Or.inr sz_b11)
  have N12 := Fr.snoc X12 N10 g_b11
  obtain ⟨cl_116, Ar_116, S_116, H_116⟩ := id V_b11_12
  have hin116 := Ary.inn S_116 (show own_ix (1 : Int32) 1 from rfl) (by decide)
  obtain ⟨T13, h13, X13, e13, W13, st13⟩ := stI X12 hx hZ e12 Ar_116 (j := (1 : Int32)) hin116 (g := (mkF m 116 #[s0, s1, s2, s3, s4, s5, s6, s7, s8, s9, s10, .val (.int i11), s12, s13, .val (.int i14), .val (.int i15), .val (.ref b7), .unset, .unset, .unset, .unset, .unset, .unset] [(.int i15), (.int (1 : Int32)), (.ref b11), (.ref b11)])) rfl rfl (hb hby at_116)
  have V_b11_13 := Ary.set Ar_116 S_116 H_116 W13 (show own_ix (1 : Int32) 1 from rfl)
  have K13 : Keep h0 h13 [] := K12.wr W13 (Or.inr sz_b11)
  have N13 := Fr.snoc X13 N12 g_b11
  obtain ⟨cl_121, Ar_121, S_121, H_121⟩ := id V_b11_13
  have hin121 := Ary.inn S_121 (show own_ix (2 : Int32) 2 from rfl) (by decide)
  obtain ⟨T14, h14, X14, e14, W14, st14⟩ := stI X13 hx hZ e13 Ar_121 (j := (2 : Int32)) hin121 (g := (mkF m 121 #[s0, s1, s2, s3, s4, s5, s6, s7, s8, s9, s10, .val (.int i11), s12, s13, .val (.int i14), .val (.int i15), .val (.ref b7), .unset, .unset, .unset, .unset, .unset, .unset] [(.int i15), (.int (2 : Int32)), (.ref b11), (.ref b11)])) rfl rfl (hb hby at_121)
  have V_b11_14 := Ary.set Ar_121 S_121 H_121 W14 (show own_ix (2 : Int32) 2 from rfl)
  have K14 : Keep h0 h14 [] := K13.wr W14 (Or.inr sz_b11)
  have N14 := Fr.snoc X14 N13 g_b11
  have Vend_b7 := ((((V_b7_10.ext E11).other W12 (Nat.ne_of_lt (Nat.lt_of_lt_of_le V_b7_10.lt (Nat.le_of_eq g11.symm)))).other W13 (Nat.ne_of_lt (Nat.lt_of_lt_of_le V_b7_10.lt (Nat.le_of_eq g11.symm)))).other W14 (Nat.ne_of_lt (Nat.lt_of_lt_of_le V_b7_10.lt (Nat.le_of_eq g11.symm))))
  have Eend_b7 := (((((((E_b7.wr W8).wr W9).wr W10).ext E11).wr W12).wr W13).wr W14)
  have Vend_b11 := V_b11_14
  have Eend_b11 := (((E_b11.wr W12).wr W13).wr W14)
  have Zend : n0 ≤ h14.size := (Nat.le_trans (Nat.le_trans (Nat.le_trans (Nat.le_trans (Nat.le_trans (Nat.le_trans (Nat.le_trans (Nat.le_trans Z0 E7.1) (Keep.of_wr W8).1) (Keep.of_wr W9).1) (Keep.of_wr W10).1) E11.1) (Keep.of_wr W12).1) (Keep.of_wr W13).1) (Keep.of_wr W14).1)
  have Kend := K14
  refine ⟨T14, _, _, b7, b11, X14, e14, N14, Vend_b7.cong (fun j hj => by
      obtain rfl | rfl | rfl : j = 0 ∨ j = 1 ∨ j = 2 := by omega
      all_goals rfl), Vend_b11.cong (fun j hj => by
      obtain rfl | rfl | rfl : j = 0 ∨ j = 1 ∨ j = 2 := by omega
      all_goals rfl), Eend_b7, Zend, fun target kt => ?_⟩
  show Steps p.tables e below (T0.setTop (mkF m 27 #[s0, s1, s2, s3, s4, s5, s6, s7, s8, s9, s10, .val (.int i11), s12, s13, .val (.int i14), .val (.int i15), .unset, .unset, .unset, .unset, .unset, .unset, .unset] [])) _
  refine XS.iload X0.here hx rfl (hb hby at_27) rfl ?_
  show Steps p.tables e below (T0.setTop (mkF m 29 #[s0, s1, s2, s3, s4, s5, s6, s7, s8, s9, s10, .val (.int i11), s12, s13, .val (.int i14), .val (.int i15), .unset, .unset, .unset, .unset, .unset, .unset, .unset] [(.int i11)])) _
  refine XS.ifYes X0.here hx rfl (pc0 := 29) (pc' := 48) rfl (hb hby at_29) rfl ((if0 _ _).trans (feq hc29).2) (by decide) (by decide) ?_
  show Steps p.tables e below (T0.setTop (mkF m 48 #[s0, s1, s2, s3, s4, s5, s6, s7, s8, s9, s10, .val (.int i11), s12, s13, .val (.int i14), .val (.int i15), .unset, .unset, .unset, .unset, .unset, .unset, .unset] [])) _
  refine XS.iload X0.here hx rfl (hb hby at_48) rfl ?_
  show Steps p.tables e below (T0.setTop (mkF m 50 #[s0, s1, s2, s3, s4, s5, s6, s7, s8, s9, s10, .val (.int i11), s12, s13, .val (.int i14), .val (.int i15), .unset, .unset, .unset, .unset, .unset, .unset, .unset] [(.int i11)])) _
  refine XS.iconst X0.here hx rfl (hb hby at_50) ?_
  show Steps p.tables e below (T0.setTop (mkF m 51 #[s0, s1, s2, s3, s4, s5, s6, s7, s8, s9, s10, .val (.int i11), s12, s13, .val (.int i14), .val (.int i15), .unset, .unset, .unset, .unset, .unset, .unset, .unset] [(.int (1 : Int32)), (.int i11)])) _
  refine XS.icmpYes X0.here hx rfl (pc0 := 51) (pc' := 78) rfl (hb hby at_51) rfl (feq hc51).2 (by decide) (by decide) ?_
  show Steps p.tables e below (T0.setTop (mkF m 78 #[s0, s1, s2, s3, s4, s5, s6, s7, s8, s9, s10, .val (.int i11), s12, s13, .val (.int i14), .val (.int i15), .unset, .unset, .unset, .unset, .unset, .unset, .unset] [])) _
  refine XS.iload X0.here hx rfl (hb hby at_78) rfl ?_
  show Steps p.tables e below (T0.setTop (mkF m 80 #[s0, s1, s2, s3, s4, s5, s6, s7, s8, s9, s10, .val (.int i11), s12, s13, .val (.int i14), .val (.int i15), .unset, .unset, .unset, .unset, .unset, .unset, .unset] [(.int i11)])) _
  refine XS.iconst X0.here hx rfl (hb hby at_80) ?_
  show Steps p.tables e below (T0.setTop (mkF m 81 #[s0, s1, s2, s3, s4, s5, s6, s7, s8, s9, s10, .val (.int i11), s12, s13, .val (.int i14), .val (.int i15), .unset, .unset, .unset, .unset, .unset, .unset, .unset] [(.int (2 : Int32)), (.int i11)])) _
  refine XS.icmpNo X0.here hx rfl (hb hby at_81) rfl (teq hc81).2 ?_
  show Steps p.tables e below (T0.setTop (mkF m 84 #[s0, s1, s2, s3, s4, s5, s6, s7, s8, s9, s10, .val (.int i11), s12, s13, .val (.int i14), .val (.int i15), .unset, .unset, .unset, .unset, .unset, .unset, .unset] [])) _
  refine XS.iconst X0.here hx rfl (hb hby at_84) ?_
  show Steps p.tables e below (T0.setTop (mkF m 85 #[s0, s1, s2, s3, s4, s5, s6, s7, s8, s9, s10, .val (.int i11), s12, s13, .val (.int i14), .val (.int i15), .unset, .unset, .unset, .unset, .unset, .unset, .unset] [(.int (3 : Int32))])) _
  refine st7 _ ?_
  show Steps p.tables e below (T7.setTop (mkF m 87 #[s0, s1, s2, s3, s4, s5, s6, s7, s8, s9, s10, .val (.int i11), s12, s13, .val (.int i14), .val (.int i15), .unset, .unset, .unset, .unset, .unset, .unset, .unset] [(.ref b7)])) _
  refine XS.dup X7.here hx rfl (hb hby at_87) rfl rfl ?_
  show Steps p.tables e below (T7.setTop (mkF m 88 #[s0, s1, s2, s3, s4, s5, s6, s7, s8, s9, s10, .val (.int i11), s12, s13, .val (.int i14), .val (.int i15), .unset, .unset, .unset, .unset, .unset, .unset, .unset] [(.ref b7), (.ref b7)])) _
  refine XS.iconst X7.here hx rfl (hb hby at_88) ?_
  show Steps p.tables e below (T7.setTop (mkF m 89 #[s0, s1, s2, s3, s4, s5, s6, s7, s8, s9, s10, .val (.int i11), s12, s13, .val (.int i14), .val (.int i15), .unset, .unset, .unset, .unset, .unset, .unset, .unset] [(.int (0 : Int32)), (.ref b7), (.ref b7)])) _
  refine XS.iload X7.here hx rfl (hb hby at_89) rfl ?_
  show Steps p.tables e below (T7.setTop (mkF m 91 #[s0, s1, s2, s3, s4, s5, s6, s7, s8, s9, s10, .val (.int i11), s12, s13, .val (.int i14), .val (.int i15), .unset, .unset, .unset, .unset, .unset, .unset, .unset] [(.int i14), (.int (0 : Int32)), (.ref b7), (.ref b7)])) _
  refine st8 _ ?_
  show Steps p.tables e below (T8.setTop (mkF m 92 #[s0, s1, s2, s3, s4, s5, s6, s7, s8, s9, s10, .val (.int i11), s12, s13, .val (.int i14), .val (.int i15), .unset, .unset, .unset, .unset, .unset, .unset, .unset] [(.ref b7)])) _
  refine XS.dup X8.here hx rfl (hb hby at_92) rfl rfl ?_
  show Steps p.tables e below (T8.setTop (mkF m 93 #[s0, s1, s2, s3, s4, s5, s6, s7, s8, s9, s10, .val (.int i11), s12, s13, .val (.int i14), .val (.int i15), .unset, .unset, .unset, .unset, .unset, .unset, .unset] [(.ref b7), (.ref b7)])) _
  refine XS.iconst X8.here hx rfl (hb hby at_93) ?_
  show Steps p.tables e below (T8.setTop (mkF m 94 #[s0, s1, s2, s3, s4, s5, s6, s7, s8, s9, s10, .val (.int i11), s12, s13, .val (.int i14), .val (.int i15), .unset, .unset, .unset, .unset, .unset, .unset, .unset] [(.int (1 : Int32)), (.ref b7), (.ref b7)])) _
  refine XS.iload X8.here hx rfl (hb hby at_94) rfl ?_
  show Steps p.tables e below (T8.setTop (mkF m 96 #[s0, s1, s2, s3, s4, s5, s6, s7, s8, s9, s10, .val (.int i11), s12, s13, .val (.int i14), .val (.int i15), .unset, .unset, .unset, .unset, .unset, .unset, .unset] [(.int i14), (.int (1 : Int32)), (.ref b7), (.ref b7)])) _
  refine st9 _ ?_
  show Steps p.tables e below (T9.setTop (mkF m 97 #[s0, s1, s2, s3, s4, s5, s6, s7, s8, s9, s10, .val (.int i11), s12, s13, .val (.int i14), .val (.int i15), .unset, .unset, .unset, .unset, .unset, .unset, .unset] [(.ref b7)])) _
  refine XS.dup X9.here hx rfl (hb hby at_97) rfl rfl ?_
  show Steps p.tables e below (T9.setTop (mkF m 98 #[s0, s1, s2, s3, s4, s5, s6, s7, s8, s9, s10, .val (.int i11), s12, s13, .val (.int i14), .val (.int i15), .unset, .unset, .unset, .unset, .unset, .unset, .unset] [(.ref b7), (.ref b7)])) _
  refine XS.iconst X9.here hx rfl (hb hby at_98) ?_
  show Steps p.tables e below (T9.setTop (mkF m 99 #[s0, s1, s2, s3, s4, s5, s6, s7, s8, s9, s10, .val (.int i11), s12, s13, .val (.int i14), .val (.int i15), .unset, .unset, .unset, .unset, .unset, .unset, .unset] [(.int (2 : Int32)), (.ref b7), (.ref b7)])) _
  refine XS.iload X9.here hx rfl (hb hby at_99) rfl ?_
  show Steps p.tables e below (T9.setTop (mkF m 101 #[s0, s1, s2, s3, s4, s5, s6, s7, s8, s9, s10, .val (.int i11), s12, s13, .val (.int i14), .val (.int i15), .unset, .unset, .unset, .unset, .unset, .unset, .unset] [(.int i14), (.int (2 : Int32)), (.ref b7), (.ref b7)])) _
  refine st10 _ ?_
  show Steps p.tables e below (T10.setTop (mkF m 102 #[s0, s1, s2, s3, s4, s5, s6, s7, s8, s9, s10, .val (.int i11), s12, s13, .val (.int i14), .val (.int i15), .unset, .unset, .unset, .unset, .unset, .unset, .unset] [(.ref b7)])) _
  refine XS.astore X10.here hx rfl (hb hby at_102) rfl rfl (l' := #[s0, s1, s2, s3, s4, s5, s6, s7, s8, s9, s10, .val (.int i11), s12, s13, .val (.int i14), .val (.int i15), .val (.ref b7), .unset, .unset, .unset, .unset, .unset, .unset]) rfl ?_
  show Steps p.tables e below (T10.setTop (mkF m 104 #[s0, s1, s2, s3, s4, s5, s6, s7, s8, s9, s10, .val (.int i11), s12, s13, .val (.int i14), .val (.int i15), .val (.ref b7), .unset, .unset, .unset, .unset, .unset, .unset] [])) _
  refine XS.iconst X10.here hx rfl (hb hby at_104) ?_
  show Steps p.tables e below (T10.setTop (mkF m 105 #[s0, s1, s2, s3, s4, s5, s6, s7, s8, s9, s10, .val (.int i11), s12, s13, .val (.int i14), .val (.int i15), .val (.ref b7), .unset, .unset, .unset, .unset, .unset, .unset] [(.int (3 : Int32))])) _
  refine st11 _ ?_
  show Steps p.tables e below (T11.setTop (mkF m 107 #[s0, s1, s2, s3, s4, s5, s6, s7, s8, s9, s10, .val (.int i11), s12, s13, .val (.int i14), .val (.int i15), .val (.ref b7), .unset, .unset, .unset, .unset, .unset, .unset] [(.ref b11)])) _
  refine XS.dup X11.here hx rfl (hb hby at_107) rfl rfl ?_
  show Steps p.tables e below (T11.setTop (mkF m 108 #[s0, s1, s2, s3, s4, s5, s6, s7, s8, s9, s10, .val (.int i11), s12, s13, .val (.int i14), .val (.int i15), .val (.ref b7), .unset, .unset, .unset, .unset, .unset, .unset] [(.ref b11), (.ref b11)])) _
  refine XS.iconst X11.here hx rfl (hb hby at_108) ?_
  show Steps p.tables e below (T11.setTop (mkF m 109 #[s0, s1, s2, s3, s4, s5, s6, s7, s8, s9, s10, .val (.int i11), s12, s13, .val (.int i14), .val (.int i15), .val (.ref b7), .unset, .unset, .unset, .unset, .unset, .unset] [(.int (0 : Int32)), (.ref b11), (.ref b11)])) _
  refine XS.iload X11.here hx rfl (hb hby at_109) rfl ?_
  show Steps p.tables e below (T11.setTop (mkF m 111 #[s0, s1, s2, s3, s4, s5, s6, s7, s8, s9, s10, .val (.int i11), s12, s13, .val (.int i14), .val (.int i15), .val (.ref b7), .unset, .unset, .unset, .unset, .unset, .unset] [(.int i15), (.int (0 : Int32)), (.ref b11), (.ref b11)])) _
  refine st12 _ ?_
  show Steps p.tables e below (T12.setTop (mkF m 112 #[s0, s1, s2, s3, s4, s5, s6, s7, s8, s9, s10, .val (.int i11), s12, s13, .val (.int i14), .val (.int i15), .val (.ref b7), .unset, .unset, .unset, .unset, .unset, .unset] [(.ref b11)])) _
  refine XS.dup X12.here hx rfl (hb hby at_112) rfl rfl ?_
  show Steps p.tables e below (T12.setTop (mkF m 113 #[s0, s1, s2, s3, s4, s5, s6, s7, s8, s9, s10, .val (.int i11), s12, s13, .val (.int i14), .val (.int i15), .val (.ref b7), .unset, .unset, .unset, .unset, .unset, .unset] [(.ref b11), (.ref b11)])) _
  refine XS.iconst X12.here hx rfl (hb hby at_113) ?_
  show Steps p.tables e below (T12.setTop (mkF m 114 #[s0, s1, s2, s3, s4, s5, s6, s7, s8, s9, s10, .val (.int i11), s12, s13, .val (.int i14), .val (.int i15), .val (.ref b7), .unset, .unset, .unset, .unset, .unset, .unset] [(.int (1 : Int32)), (.ref b11), (.ref b11)])) _
  refine XS.iload X12.here hx rfl (hb hby at_114) rfl ?_
  show Steps p.tables e below (T12.setTop (mkF m 116 #[s0, s1, s2, s3, s4, s5, s6, s7, s8, s9, s10, .val (.int i11), s12, s13, .val (.int i14), .val (.int i15), .val (.ref b7), .unset, .unset, .unset, .unset, .unset, .unset] [(.int i15), (.int (1 : Int32)), (.ref b11), (.ref b11)])) _
  refine st13 _ ?_
  show Steps p.tables e below (T13.setTop (mkF m 117 #[s0, s1, s2, s3, s4, s5, s6, s7, s8, s9, s10, .val (.int i11), s12, s13, .val (.int i14), .val (.int i15), .val (.ref b7), .unset, .unset, .unset, .unset, .unset, .unset] [(.ref b11)])) _
  refine XS.dup X13.here hx rfl (hb hby at_117) rfl rfl ?_
  show Steps p.tables e below (T13.setTop (mkF m 118 #[s0, s1, s2, s3, s4, s5, s6, s7, s8, s9, s10, .val (.int i11), s12, s13, .val (.int i14), .val (.int i15), .val (.ref b7), .unset, .unset, .unset, .unset, .unset, .unset] [(.ref b11), (.ref b11)])) _
  refine XS.iconst X13.here hx rfl (hb hby at_118) ?_
  show Steps p.tables e below (T13.setTop (mkF m 119 #[s0, s1, s2, s3, s4, s5, s6, s7, s8, s9, s10, .val (.int i11), s12, s13, .val (.int i14), .val (.int i15), .val (.ref b7), .unset, .unset, .unset, .unset, .unset, .unset] [(.int (2 : Int32)), (.ref b11), (.ref b11)])) _
  refine XS.iload X13.here hx rfl (hb hby at_119) rfl ?_
  show Steps p.tables e below (T13.setTop (mkF m 121 #[s0, s1, s2, s3, s4, s5, s6, s7, s8, s9, s10, .val (.int i11), s12, s13, .val (.int i14), .val (.int i15), .val (.ref b7), .unset, .unset, .unset, .unset, .unset, .unset] [(.int i15), (.int (2 : Int32)), (.ref b11), (.ref b11)])) _
  refine st14 _ ?_
  show Steps p.tables e below (T14.setTop (mkF m 122 #[s0, s1, s2, s3, s4, s5, s6, s7, s8, s9, s10, .val (.int i11), s12, s13, .val (.int i14), .val (.int i15), .val (.ref b7), .unset, .unset, .unset, .unset, .unset, .unset] [(.ref b11)])) _
  refine XS.astore X14.here hx rfl (hb hby at_122) rfl rfl (l' := #[s0, s1, s2, s3, s4, s5, s6, s7, s8, s9, s10, .val (.int i11), s12, s13, .val (.int i14), .val (.int i15), .val (.ref b7), .val (.ref b11), .unset, .unset, .unset, .unset, .unset]) rfl ?_
  show Steps p.tables e below (T14.setTop (mkF m 124 #[s0, s1, s2, s3, s4, s5, s6, s7, s8, s9, s10, .val (.int i11), s12, s13, .val (.int i14), .val (.int i15), .val (.ref b7), .val (.ref b11), .unset, .unset, .unset, .unset, .unset] [])) _
  refine XS.iconst X14.here hx rfl (hb hby at_124) ?_
  show Steps p.tables e below (T14.setTop (mkF m 125 #[s0, s1, s2, s3, s4, s5, s6, s7, s8, s9, s10, .val (.int i11), s12, s13, .val (.int i14), .val (.int i15), .val (.ref b7), .val (.ref b11), .unset, .unset, .unset, .unset, .unset] [(.int (2 : Int32))])) _
  refine XS.istore X14.here hx rfl (hb hby at_125) rfl (l' := #[s0, s1, s2, s3, s4, s5, s6, s7, s8, s9, s10, .val (.int i11), s12, s13, .val (.int i14), .val (.int i15), .val (.ref b7), .val (.ref b11), .val (.int (2 : Int32)), .unset, .unset, .unset, .unset]) rfl ?_
  show Steps p.tables e below (T14.setTop (mkF m 127 #[s0, s1, s2, s3, s4, s5, s6, s7, s8, s9, s10, .val (.int i11), s12, s13, .val (.int i14), .val (.int i15), .val (.ref b7), .val (.ref b11), .val (.int (2 : Int32)), .unset, .unset, .unset, .unset] [])) _
  refine XS.goto X14.here hx rfl (pc0 := 127) (pc' := 193) rfl (hb hby at_127) (by decide) (by decide) ?_
  exact kt
set_option maxRecDepth 65536 in
set_option maxHeartbeats 40000000 in
theorem sB5 {p : Program} {l : Launch} {e : Env} {s : State} {m : MethodId} {args : Array Value} {below : List Frame} {meth : Method} {c : Code} {T0 : State} {locs : List Loc} {Z : State} {a0 : Array Value} {h0 : Heap} (s0 : Slot) (s1 : Slot) (s2 : Slot) (s3 : Slot) (s4 : Slot) (s5 : Slot) (s6 : Slot) (s7 : Slot) (s8 : Slot) (s9 : Slot) (s10 : Slot) (i11 : Int32) (s12 : Slot) (s13 : Slot) (i14 : Int32) (i15 : Int32) (n0 : Nat)
    (X0 : Stand p l e room_1 s m args below meth c T0 locs 0 0) (hx : p.tables.exec = Jvm.exec) (hZ : Z.Warmed39 s.vm) (hw : ∀ d ∈ tables_1, d.before a0 Z = true) (hby : c.code = code) (hml : c.maxLocals = 23) (hown : s.vm.findClass "com/example/tight_bounds/tightbounds/model/StateLayoutApplyPinLaw" = some m.cls) (e0 : T0.heap = h0) (Z0 : n0 ≤ h0.size) (N0 : Fr n0 locs) (hc29 : ¬ (i11 = (0 : Int32))) (hc51 : ¬ (i11 = (1 : Int32))) (hc81 : ¬ (i11 = (2 : Int32))) :
    ∃ (T' : State) (h' : Heap) (locs' : List Loc) (b c' : Addr), Stand p l e room_1 s m args below meth c T' locs' (0 + 2) (0 + 10) ∧ T'.heap = h' ∧ Fr n0 locs' ∧ Ary Z h' b .int 5 (fun _ => .int i14) ∧ Ary Z h' c' .int 5 (fun _ => .int i15) ∧ Exa Z h' b "[I" ∧ n0 ≤ h'.size ∧
      ∀ target, Steps p.tables e below (T'.setTop (mkF m 193 #[s0, s1, s2, s3, s4, s5, s6, s7, s8, s9, s10, .val (.int i11), s12, s13, .val (.int i14), .val (.int i15), .val (.ref b), .val (.ref c'), .val (.int (3 : Int32)), .unset, .unset, .unset, .unset] [])) target → Steps p.tables e below (T0.setTop (mkF m 27 #[s0, s1, s2, s3, s4, s5, s6, s7, s8, s9, s10, .val (.int i11), s12, s13, .val (.int i14), .val (.int i15), .unset, .unset, .unset, .unset, .unset, .unset, .unset] [])) target := by
  obtain ⟨T7, h7, k7, X7, e7, E7, A7, Q7, st7⟩ := newPE X0 hx hZ (hw _ (List.mem_of_getElem? (i := 2) rfl)) e0 (g := (mkF m 131 #[s0, s1, s2, s3, s4, s5, s6, s7, s8, s9, s10, .val (.int i11), s12, s13, .val (.int i14), .val (.int i15), .unset, .unset, .unset, .unset, .unset, .unset, .unset] [(.int (5 : Int32))])) rfl (hb hby at_131) rfl (by decide) (cap := 5) (by decide) (by decide) (by decide) (by decide) (ad := "[I") rfl
  obtain ⟨b7, g7⟩ : ∃ z, z = h0.size := ⟨_, rfl⟩
  rw [← g7] at A7 Q7 st7
  have V_b7 : Ary Z h7 b7 .int 5 (fun _ => (.int (0 : Int32))) := Ary.new A7 (by decide) rfl
  have g_b7 : n0 ≤ b7 := Nat.le_trans Z0 (Nat.le_of_eq g7.symm)
  have sz_b7 : h0.size ≤ b7 := (Nat.le_trans (Keep.refl h0 []).1 (Nat.le_of_eq g7.symm))
  have K7 : Keep h0 h7 [] := (Keep.refl h0 []).ext E7
  have E_b7 := Q7
  obtain ⟨cl_137, Ar_137, S_137, H_137⟩ := id V_b7
  have hin137 := Ary.inn S_137 (show own_ix (0 : Int32) 0 from rfl) (by decide)
  obtain ⟨T8, h8, X8, e8, W8, st8⟩ := stI X7 hx hZ e7 Ar_137 (j := (0 : Int32)) hin137 (g := (mkF m 137 #[s0, s1, s2, s3, s4, s5, s6, s7, s8, s9, s10, .val (.int i11), s12, s13, .val (.int i14), .val (.int i15), .unset, .unset, .unset, .unset, .unset, .unset, .unset] [(.int i14), (.int (0 : Int32)), (.ref b7), (.ref b7)])) rfl rfl (hb hby at_137)
  have V_b7_8 := Ary.set Ar_137 S_137 H_137 W8 (show own_ix (0 : Int32) 0 from rfl)
  have K8 : Keep h0 h8 [] := K7.wr W8 (Or.inr sz_b7)
  have N8 := Fr.snoc X8 N0 g_b7
  obtain ⟨cl_142, Ar_142, S_142, H_142⟩ := id V_b7_8
  have hin142 := Ary.inn S_142 (show own_ix (1 : Int32) 1 from rfl) (by decide)
  obtain ⟨T9, h9, X9, e9, W9, st9⟩ := stI X8 hx hZ e8 Ar_142 (j := (1 : Int32)) hin142 (g := (mkF m 142 #[s0, s1, s2, s3, s4, s5, s6, s7, s8, s9, s10, .val (.int i11), s12, s13, .val (.int i14), .val (.int i15), .unset, .unset, .unset, .unset, .unset, .unset, .unset] [(.int i14), (.int (1 : Int32)), (.ref b7), (.ref b7)])) rfl rfl (hb hby at_142)
  have V_b7_9 := Ary.set Ar_142 S_142 H_142 W9 (show own_ix (1 : Int32) 1 from rfl)
  have K9 : Keep h0 h9 [] := K8.wr W9 (Or.inr sz_b7)
  have N9 := Fr.snoc X9 N8 g_b7
  obtain ⟨cl_147, Ar_147, S_147, H_147⟩ := id V_b7_9
  have hin147 := Ary.inn S_147 (show own_ix (2 : Int32) 2 from rfl) (by decide)
  obtain ⟨T10, h10, X10, e10, W10, st10⟩ := stI X9 hx hZ e9 Ar_147 (j := (2 : Int32)) hin147 (g := (mkF m 147 #[s0, s1, s2, s3, s4, s5, s6, s7, s8, s9, s10, .val (.int i11), s12, s13, .val (.int i14), .val (.int i15), .unset, .unset, .unset, .unset, .unset, .unset, .unset] [(.int i14), (.int (2 : Int32)), (.ref b7), (.ref b7)])) rfl rfl (hb hby at_147)
  have V_b7_10 := Ary.set Ar_147 S_147 H_147 W10 (show own_ix (2 : Int32) 2 from rfl)
  have K10 : Keep h0 h10 [] := K9.wr W10 (Or.inr sz_b7)
  have N10 := Fr.snoc X10 N9 g_b7
  obtain ⟨cl_152, Ar_152, S_152, H_152⟩ := id V_b7_10
  have hin152 := Ary.inn S_152 (show own_ix (3 : Int32) 3 from rfl) (by decide)
  obtain ⟨T11, h11, X11, e11, W11, st11⟩ := stI X10 hx hZ e10 Ar_152 (j := (3 : Int32)) hin152 (g := (mkF m 152 #[s0, s1, s2, s3, s4, s5, s6, s7, s8, s9, s10, .val (.int i11), s12, s13, .val (.int i14), .val (.int i15), .unset, .unset, .unset, .unset, .unset, .unset, .unset] [(.int i14), (.int (3 : Int32)), (.ref b7), (.ref b7)])) rfl rfl (hb hby at_152)
  have V_b7_11 := Ary.set Ar_152 S_152 H_152 W11 (show own_ix (3 : Int32) 3 from rfl)
  have K11 : Keep h0 h11 [] := K10.wr W11 (Or.inr sz_b7)
  have N11 := Fr.snoc X11 N10 g_b7
  obtain ⟨cl_157, Ar_157, S_157, H_157⟩ := id V_b7_11
  have hin157 := Ary.inn S_157 (show own_ix (4 : Int32) 4 from rfl) (by decide)
  obtain ⟨T12, h12, X12, e12, W12, st12⟩ := stI X11 hx hZ e11 Ar_157 (j := (4 : Int32)) hin157 (g := (mkF m 157 #[s0, s1, s2, s3, s4, s5, s6, s7, s8, s9, s10, .val (.int i11), s12, s13, .val (.int i14), .val (.int i15), .unset, .unset, .unset, .unset, .unset, .unset, .unset] [(.int i14), (.int (4 : Int32)), (.ref b7), (.ref b7)])) rfl rfl (hb hby at_157)
  have V_b7_12 := Ary.set Ar_157 S_157 H_157 W12 (show own_ix (4 : Int32) 4 from rfl)
  have K12 : Keep h0 h12 [] := K11.wr W12 (Or.inr sz_b7)
  have N12 := Fr.snoc X12 N11 g_b7
  obtain ⟨T13, h13, k13, X13, e13, E13, A13, Q13, st13⟩ := newPE X12 hx hZ (hw _ (List.mem_of_getElem? (i := 2) rfl)) e12 (g := (mkF m 161 #[s0, s1, s2, s3, s4, s5, s6, s7, s8, s9, s10, .val (.int i11), s12, s13, .val (.int i14), .val (.int i15), .val (.ref b7), .unset, .unset, .unset, .unset, .unset, .unset] [(.int (5 : Int32))])) rfl (hb hby at_161) rfl (by decide) (cap := 5) (by decide) (by decide) (by decide) (by decide) (ad := "[I") rfl
  obtain ⟨b13, g13⟩ : ∃ z, z = h12.size := ⟨_, rfl⟩
  rw [← g13] at A13 Q13 st13
  have V_b13 : Ary Z h13 b13 .int 5 (fun _ => (.int (0 : Int32))) := Ary.new A13 (by decide) rfl
  have g_b13 : n0 ≤ b13 := Nat.le_trans (Nat.le_trans (Nat.le_trans (Nat.le_trans (Nat.le_trans (Nat.le_trans (Nat.le_trans Z0 E7.1) (Keep.of_wr W8).1) (Keep.of_wr W9).1) (Keep.of_wr W10).1) (Keep.of_wr W11).1) (Keep.of_wr W12).1) (Nat.le_of_eq g13.symm)
  have sz_b13 : h0.size ≤ b13 := (Nat.le_trans K12.1 (Nat.le_of_eq g13.symm))
  have K13 : Keep h0 h13 [] := K12.ext E13
  have E_b13 := Q13
  obtain ⟨cl_167, Ar_167, S_167, H_167⟩ := id V_b13
  have hin167 := Ary.inn S_167 (show own_ix (0 : Int32) 0 from rfl) (by decide)
  obtain ⟨T14, h14, X14, e14, W14, st14⟩ := stI X13 hx hZ e13 Ar_167 (j := (0 : Int32)) hin167 (g := (mkF m 167 #[s0, s1, s2, s3, s4, s5, s6, s7, s8, s9, s10, .val (.int i11), s12, s13, .val (.int i14), .val (.int i15), .val (.ref b7), .unset, .unset, .unset, .unset, .unset, .unset] [(.int i15), (.int (0 : Int32)), (.ref b13), (.ref b13)])) rfl rfl (hb hby at_167)
  have V_b13_14 := Ary.set Ar_167 S_167 H_167 W14 (show own_ix (0 : Int32) 0 from rfl)
  have K14 : Keep h0 h14 [] := K13.wr W14 (Or.inr sz_b13)
  have N14 := Fr.snoc X14 N12 g_b13
  obtain ⟨cl_172, Ar_172, S_172, H_172⟩ := id V_b13_14
  have hin172 := Ary.inn S_172 (show own_ix (1 : Int32) 1 from rfl) (by decide)
  obtain ⟨T15, h15, X15, e15, W15, st15⟩ := stI X14 hx hZ e14 Ar_172 (j := (1 : Int32)) hin172 (g := (mkF m 172 #[s0, s1, s2, s3, s4, s5, s6, s7, s8, s9, s10, .val (.int i11), s12, s13, .val (.int i14), .val (.int i15), .val (.ref b7), .unset, .unset, .unset, .unset, .unset, .unset] [(.int i15), (.int (1 : Int32)), (.ref b13), (.ref b13)])) rfl rfl (hb hby at_172)
  have V_b13_15 := Ary.set Ar_172 S_172 H_172 W15 (show own_ix (1 : Int32) 1 from rfl)
  have K15 : Keep h0 h15 [] := K14.wr W15 (Or.inr sz_b13)
  have N15 := Fr.snoc X15 N14 g_b13
  obtain ⟨cl_177, Ar_177, S_177, H_177⟩ := id V_b13_15
  have hin177 := Ary.inn S_177 (show own_ix (2 : Int32) 2 from rfl) (by decide)
  obtain ⟨T16, h16, X16, e16, W16, st16⟩ := stI X15 hx hZ e15 Ar_177 (j := (2 : Int32)) hin177 (g := (mkF m 177 #[s0, s1, s2, s3, s4, s5, s6, s7, s8, s9, s10, .val (.int i11), s12, s13, .val (.int i14), .val (.int i15), .val (.ref b7), .unset, .unset, .unset, .unset, .unset, .unset] [(.int i15), (.int (2 : Int32)), (.ref b13), (.ref b13)])) rfl rfl (hb hby at_177)
  have V_b13_16 := Ary.set Ar_177 S_177 H_177 W16 (show own_ix (2 : Int32) 2 from rfl)
  have K16 : Keep h0 h16 [] := K15.wr W16 (Or.inr sz_b13)
  have N16 := Fr.snoc X16 N15 g_b13
  obtain ⟨cl_182, Ar_182, S_182, H_182⟩ := id V_b13_16
  have hin182 := Ary.inn S_182 (show own_ix (3 : Int32) 3 from rfl) (by decide)
  obtain ⟨T17, h17, X17, e17, W17, st17⟩ := stI X16 hx hZ e16 Ar_182 (j := (3 : Int32)) hin182 (g := (mkF m 182 #[s0, s1, s2, s3, s4, s5, s6, s7, s8, s9, s10, .val (.int i11), s12, s13, .val (.int i14), .val (.int i15), .val (.ref b7), .unset, .unset, .unset, .unset, .unset, .unset] [(.int i15), (.int (3 : Int32)), (.ref b13), (.ref b13)])) rfl rfl (hb hby at_182)
  have V_b13_17 := Ary.set Ar_182 S_182 H_182 W17 (show own_ix (3 : Int32) 3 from rfl)
  have K17 : Keep h0 h17 [] := K16.wr W17 (Or.inr sz_b13)
  have N17 := Fr.snoc X17 N16 g_b13
  obtain ⟨cl_187, Ar_187, S_187, H_187⟩ := id V_b13_17
  have hin187 := Ary.inn S_187 (show own_ix (4 : Int32) 4 from rfl) (by decide)
  obtain ⟨T18, h18, X18, e18, W18, st18⟩ := stI X17 hx hZ e17 Ar_187 (j := (4 : Int32)) hin187 (g := (mkF m 187 #[s0, s1, s2, s3, s4, s5, s6, s7, s8, s9, s10, .val (.int i11), s12, s13, .val (.int i14), .val (.int i15), .val (.ref b7), .unset, .unset, .unset, .unset, .unset, .unset] [(.int i15), (.int (4 : Int32)), (.ref b13), (.ref b13)])) rfl rfl (hb hby at_187)
  have V_b13_18 := Ary.set Ar_187 S_187 H_187 W18 (show own_ix (4 : Int32) 4 from rfl)
  have K18 : Keep h0 h18 [] := K17.wr W18 (Or.inr sz_b13)
  have N18 := Fr.snoc X18 N17 g_b13
  have Vend_b7 := ((((((V_b7_12.ext E13).other W14 (Nat.ne_of_lt (Nat.lt_of_lt_of_le V_b7_12.lt (Nat.le_of_eq g13.symm)))).other W15 (Nat.ne_of_lt (Nat.lt_of_lt_of_le V_b7_12.lt (Nat.le_of_eq g13.symm)))).other W16 (Nat.ne_of_lt (Nat.lt_of_lt_of_le V_b7_12.lt (Nat.le_of_eq g13.symm)))).other W17 (Nat.ne_of_lt (Nat.lt_of_lt_of_le V_b7_12.lt (Nat.le_of_eq g13.symm)))).other W18 (Nat.ne_of_lt (Nat.lt_of_lt_of_le V_b7_12.lt (Nat.le_of_eq g13.symm))))
  have Eend_b7 := (((((((((((E_b7.wr W8).wr W9).wr W10).wr W11).wr W12).ext E13).wr W14).wr W15).wr W16).wr W17).wr W18)
  have Vend_b13 := V_b13_18
  have Eend_b13 := (((((E_b13.wr W14).wr W15).wr W16).wr W17).wr W18)
  have Zend : n0 ≤ h18.size := (Nat.le_trans (Nat.le_trans (Nat.le_trans (Nat.le_trans (Nat.le_trans (Nat.le_trans (Nat.le_trans (Nat.le_trans (Nat.le_trans (Nat.le_trans (Nat.le_trans (Nat.le_trans Z0 E7.1) (Keep.of_wr W8).1) (Keep.of_wr W9).1) (Keep.of_wr W10).1) (Keep.of_wr W11).1) (Keep.of_wr W12).1) E13.1) (Keep.of_wr W14).1) (Keep.of_wr W15).1) (Keep.of_wr W16).1) (Keep.of_wr W17).1) (Keep.of_wr W18).1)
  have Kend := K18
  refine ⟨T18, _, _, b7, b13, X18, e18, N18, Vend_b7.cong (fun j hj => by
      obtain rfl | rfl | rfl | rfl | rfl : j = 0 ∨ j = 1 ∨ j = 2 ∨ j = 3 ∨ j = 4 := by omega
      all_goals rfl), Vend_b13.cong (fun j hj => by
      obtain rfl | rfl | rfl | rfl | rfl : j = 0 ∨ j = 1 ∨ j = 2 ∨ j = 3 ∨ j = 4 := by omega
      all_goals rfl), Eend_b7, Zend, fun target kt => ?_⟩
  show Steps p.tables e below (T0.setTop (mkF m 27 #[s0, s1, s2, s3, s4, s5, s6, s7, s8, s9, s10, .val (.int i11), s12, s13, .val (.int i14), .val (.int i15), .unset, .unset, .unset, .unset, .unset, .unset, .unset] [])) _
  refine XS.iload X0.here hx rfl (hb hby at_27) rfl ?_
  show Steps p.tables e below (T0.setTop (mkF m 29 #[s0, s1, s2, s3, s4, s5, s6, s7, s8, s9, s10, .val (.int i11), s12, s13, .val (.int i14), .val (.int i15), .unset, .unset, .unset, .unset, .unset, .unset, .unset] [(.int i11)])) _
  refine XS.ifYes X0.here hx rfl (pc0 := 29) (pc' := 48) rfl (hb hby at_29) rfl ((if0 _ _).trans (feq hc29).2) (by decide) (by decide) ?_
  show Steps p.tables e below (T0.setTop (mkF m 48 #[s0, s1, s2, s3, s4, s5, s6, s7, s8, s9, s10, .val (.int i11), s12, s13, .val (.int i14), .val (.int i15), .unset, .unset, .unset, .unset, .unset, .unset, .unset] [])) _
  refine XS.iload X0.here hx rfl (hb hby at_48) rfl ?_
  show Steps p.tables e below (T0.setTop (mkF m 50 #[s0, s1, s2, s3, s4, s5, s6, s7, s8, s9, s10, .val (.int i11), s12, s13, .val (.int i14), .val (.int i15), .unset, .unset, .unset, .unset, .unset, .unset, .unset] [(.int i11)])) _
  refine XS.iconst X0.here hx rfl (hb hby at_50) ?_
  show Steps p.tables e below (T0.setTop (mkF m 51 #[s0, s1, s2, s3, s4, s5, s6, s7, s8, s9, s10, .val (.int i11), s12, s13, .val (.int i14), .val (.int i15), .unset, .unset, .unset, .unset, .unset, .unset, .unset] [(.int (1 : Int32)), (.int i11)])) _
  refine XS.icmpYes X0.here hx rfl (pc0 := 51) (pc' := 78) rfl (hb hby at_51) rfl (feq hc51).2 (by decide) (by decide) ?_
  show Steps p.tables e below (T0.setTop (mkF m 78 #[s0, s1, s2, s3, s4, s5, s6, s7, s8, s9, s10, .val (.int i11), s12, s13, .val (.int i14), .val (.int i15), .unset, .unset, .unset, .unset, .unset, .unset, .unset] [])) _
  refine XS.iload X0.here hx rfl (hb hby at_78) rfl ?_
  show Steps p.tables e below (T0.setTop (mkF m 80 #[s0, s1, s2, s3, s4, s5, s6, s7, s8, s9, s10, .val (.int i11), s12, s13, .val (.int i14), .val (.int i15), .unset, .unset, .unset, .unset, .unset, .unset, .unset] [(.int i11)])) _
  refine XS.iconst X0.here hx rfl (hb hby at_80) ?_
  show Steps p.tables e below (T0.setTop (mkF m 81 #[s0, s1, s2, s3, s4, s5, s6, s7, s8, s9, s10, .val (.int i11), s12, s13, .val (.int i14), .val (.int i15), .unset, .unset, .unset, .unset, .unset, .unset, .unset] [(.int (2 : Int32)), (.int i11)])) _
  refine XS.icmpYes X0.here hx rfl (pc0 := 81) (pc' := 130) rfl (hb hby at_81) rfl (feq hc81).2 (by decide) (by decide) ?_
  show Steps p.tables e below (T0.setTop (mkF m 130 #[s0, s1, s2, s3, s4, s5, s6, s7, s8, s9, s10, .val (.int i11), s12, s13, .val (.int i14), .val (.int i15), .unset, .unset, .unset, .unset, .unset, .unset, .unset] [])) _
  refine XS.iconst X0.here hx rfl (hb hby at_130) ?_
  show Steps p.tables e below (T0.setTop (mkF m 131 #[s0, s1, s2, s3, s4, s5, s6, s7, s8, s9, s10, .val (.int i11), s12, s13, .val (.int i14), .val (.int i15), .unset, .unset, .unset, .unset, .unset, .unset, .unset] [(.int (5 : Int32))])) _
  refine st7 _ ?_
  show Steps p.tables e below (T7.setTop (mkF m 133 #[s0, s1, s2, s3, s4, s5, s6, s7, s8, s9, s10, .val (.int i11), s12, s13, .val (.int i14), .val (.int i15), .unset, .unset, .unset, .unset, .unset, .unset, .unset] [(.ref b7)])) _
  refine XS.dup X7.here hx rfl (hb hby at_133) rfl rfl ?_
  show Steps p.tables e below (T7.setTop (mkF m 134 #[s0, s1, s2, s3, s4, s5, s6, s7, s8, s9, s10, .val (.int i11), s12, s13, .val (.int i14), .val (.int i15), .unset, .unset, .unset, .unset, .unset, .unset, .unset] [(.ref b7), (.ref b7)])) _
  refine XS.iconst X7.here hx rfl (hb hby at_134) ?_
  show Steps p.tables e below (T7.setTop (mkF m 135 #[s0, s1, s2, s3, s4, s5, s6, s7, s8, s9, s10, .val (.int i11), s12, s13, .val (.int i14), .val (.int i15), .unset, .unset, .unset, .unset, .unset, .unset, .unset] [(.int (0 : Int32)), (.ref b7), (.ref b7)])) _
  refine XS.iload X7.here hx rfl (hb hby at_135) rfl ?_
  show Steps p.tables e below (T7.setTop (mkF m 137 #[s0, s1, s2, s3, s4, s5, s6, s7, s8, s9, s10, .val (.int i11), s12, s13, .val (.int i14), .val (.int i15), .unset, .unset, .unset, .unset, .unset, .unset, .unset] [(.int i14), (.int (0 : Int32)), (.ref b7), (.ref b7)])) _
  refine st8 _ ?_
  show Steps p.tables e below (T8.setTop (mkF m 138 #[s0, s1, s2, s3, s4, s5, s6, s7, s8, s9, s10, .val (.int i11), s12, s13, .val (.int i14), .val (.int i15), .unset, .unset, .unset, .unset, .unset, .unset, .unset] [(.ref b7)])) _
  refine XS.dup X8.here hx rfl (hb hby at_138) rfl rfl ?_
  show Steps p.tables e below (T8.setTop (mkF m 139 #[s0, s1, s2, s3, s4, s5, s6, s7, s8, s9, s10, .val (.int i11), s12, s13, .val (.int i14), .val (.int i15), .unset, .unset, .unset, .unset, .unset, .unset, .unset] [(.ref b7), (.ref b7)])) _
  refine XS.iconst X8.here hx rfl (hb hby at_139) ?_
  show Steps p.tables e below (T8.setTop (mkF m 140 #[s0, s1, s2, s3, s4, s5, s6, s7, s8, s9, s10, .val (.int i11), s12, s13, .val (.int i14), .val (.int i15), .unset, .unset, .unset, .unset, .unset, .unset, .unset] [(.int (1 : Int32)), (.ref b7), (.ref b7)])) _
  refine XS.iload X8.here hx rfl (hb hby at_140) rfl ?_
  show Steps p.tables e below (T8.setTop (mkF m 142 #[s0, s1, s2, s3, s4, s5, s6, s7, s8, s9, s10, .val (.int i11), s12, s13, .val (.int i14), .val (.int i15), .unset, .unset, .unset, .unset, .unset, .unset, .unset] [(.int i14), (.int (1 : Int32)), (.ref b7), (.ref b7)])) _
  refine st9 _ ?_
  show Steps p.tables e below (T9.setTop (mkF m 143 #[s0, s1, s2, s3, s4, s5, s6, s7, s8, s9, s10, .val (.int i11), s12, s13, .val (.int i14), .val (.int i15), .unset, .unset, .unset, .unset, .unset, .unset, .unset] [(.ref b7)])) _
  refine XS.dup X9.here hx rfl (hb hby at_143) rfl rfl ?_
  show Steps p.tables e below (T9.setTop (mkF m 144 #[s0, s1, s2, s3, s4, s5, s6, s7, s8, s9, s10, .val (.int i11), s12, s13, .val (.int i14), .val (.int i15), .unset, .unset, .unset, .unset, .unset, .unset, .unset] [(.ref b7), (.ref b7)])) _
  refine XS.iconst X9.here hx rfl (hb hby at_144) ?_
  show Steps p.tables e below (T9.setTop (mkF m 145 #[s0, s1, s2, s3, s4, s5, s6, s7, s8, s9, s10, .val (.int i11), s12, s13, .val (.int i14), .val (.int i15), .unset, .unset, .unset, .unset, .unset, .unset, .unset] [(.int (2 : Int32)), (.ref b7), (.ref b7)])) _
  refine XS.iload X9.here hx rfl (hb hby at_145) rfl ?_
  show Steps p.tables e below (T9.setTop (mkF m 147 #[s0, s1, s2, s3, s4, s5, s6, s7, s8, s9, s10, .val (.int i11), s12, s13, .val (.int i14), .val (.int i15), .unset, .unset, .unset, .unset, .unset, .unset, .unset] [(.int i14), (.int (2 : Int32)), (.ref b7), (.ref b7)])) _
  refine st10 _ ?_
  show Steps p.tables e below (T10.setTop (mkF m 148 #[s0, s1, s2, s3, s4, s5, s6, s7, s8, s9, s10, .val (.int i11), s12, s13, .val (.int i14), .val (.int i15), .unset, .unset, .unset, .unset, .unset, .unset, .unset] [(.ref b7)])) _
  refine XS.dup X10.here hx rfl (hb hby at_148) rfl rfl ?_
  show Steps p.tables e below (T10.setTop (mkF m 149 #[s0, s1, s2, s3, s4, s5, s6, s7, s8, s9, s10, .val (.int i11), s12, s13, .val (.int i14), .val (.int i15), .unset, .unset, .unset, .unset, .unset, .unset, .unset] [(.ref b7), (.ref b7)])) _
  refine XS.iconst X10.here hx rfl (hb hby at_149) ?_
  show Steps p.tables e below (T10.setTop (mkF m 150 #[s0, s1, s2, s3, s4, s5, s6, s7, s8, s9, s10, .val (.int i11), s12, s13, .val (.int i14), .val (.int i15), .unset, .unset, .unset, .unset, .unset, .unset, .unset] [(.int (3 : Int32)), (.ref b7), (.ref b7)])) _
  refine XS.iload X10.here hx rfl (hb hby at_150) rfl ?_
  show Steps p.tables e below (T10.setTop (mkF m 152 #[s0, s1, s2, s3, s4, s5, s6, s7, s8, s9, s10, .val (.int i11), s12, s13, .val (.int i14), .val (.int i15), .unset, .unset, .unset, .unset, .unset, .unset, .unset] [(.int i14), (.int (3 : Int32)), (.ref b7), (.ref b7)])) _
  refine st11 _ ?_
  show Steps p.tables e below (T11.setTop (mkF m 153 #[s0, s1, s2, s3, s4, s5, s6, s7, s8, s9, s10, .val (.int i11), s12, s13, .val (.int i14), .val (.int i15), .unset, .unset, .unset, .unset, .unset, .unset, .unset] [(.ref b7)])) _
  refine XS.dup X11.here hx rfl (hb hby at_153) rfl rfl ?_
  show Steps p.tables e below (T11.setTop (mkF m 154 #[s0, s1, s2, s3, s4, s5, s6, s7, s8, s9, s10, .val (.int i11), s12, s13, .val (.int i14), .val (.int i15), .unset, .unset, .unset, .unset, .unset, .unset, .unset] [(.ref b7), (.ref b7)])) _
  refine XS.iconst X11.here hx rfl (hb hby at_154) ?_
  show Steps p.tables e below (T11.setTop (mkF m 155 #[s0, s1, s2, s3, s4, s5, s6, s7, s8, s9, s10, .val (.int i11), s12, s13, .val (.int i14), .val (.int i15), .unset, .unset, .unset, .unset, .unset, .unset, .unset] [(.int (4 : Int32)), (.ref b7), (.ref b7)])) _
  refine XS.iload X11.here hx rfl (hb hby at_155) rfl ?_
  show Steps p.tables e below (T11.setTop (mkF m 157 #[s0, s1, s2, s3, s4, s5, s6, s7, s8, s9, s10, .val (.int i11), s12, s13, .val (.int i14), .val (.int i15), .unset, .unset, .unset, .unset, .unset, .unset, .unset] [(.int i14), (.int (4 : Int32)), (.ref b7), (.ref b7)])) _
  refine st12 _ ?_
  show Steps p.tables e below (T12.setTop (mkF m 158 #[s0, s1, s2, s3, s4, s5, s6, s7, s8, s9, s10, .val (.int i11), s12, s13, .val (.int i14), .val (.int i15), .unset, .unset, .unset, .unset, .unset, .unset, .unset] [(.ref b7)])) _
  refine XS.astore X12.here hx rfl (hb hby at_158) rfl rfl (l' := #[s0, s1, s2, s3, s4, s5, s6, s7, s8, s9, s10, .val (.int i11), s12, s13, .val (.int i14), .val (.int i15), .val (.ref b7), .unset, .unset, .unset, .unset, .unset, .unset]) rfl ?_
  show Steps p.tables e below (T12.setTop (mkF m 160 #[s0, s1, s2, s3, s4, s5, s6, s7, s8, s9, s10, .val (.int i11), s12, s13, .val (.int i14), .val (.int i15), .val (.ref b7), .unset, .unset, .unset, .unset, .unset, .unset] [])) _
  refine XS.iconst X12.here hx rfl (hb hby at_160) ?_
  show Steps p.tables e below (T12.setTop (mkF m 161 #[s0, s1, s2, s3, s4, s5, s6, s7, s8, s9, s10, .val (.int i11), s12, s13, .val (.int i14), .val (.int i15), .val (.ref b7), .unset, .unset, .unset, .unset, .unset, .unset] [(.int (5 : Int32))])) _
  refine st13 _ ?_
  show Steps p.tables e below (T13.setTop (mkF m 163 #[s0, s1, s2, s3, s4, s5, s6, s7, s8, s9, s10, .val (.int i11), s12, s13, .val (.int i14), .val (.int i15), .val (.ref b7), .unset, .unset, .unset, .unset, .unset, .unset] [(.ref b13)])) _
  refine XS.dup X13.here hx rfl (hb hby at_163) rfl rfl ?_
  show Steps p.tables e below (T13.setTop (mkF m 164 #[s0, s1, s2, s3, s4, s5, s6, s7, s8, s9, s10, .val (.int i11), s12, s13, .val (.int i14), .val (.int i15), .val (.ref b7), .unset, .unset, .unset, .unset, .unset, .unset] [(.ref b13), (.ref b13)])) _
  refine XS.iconst X13.here hx rfl (hb hby at_164) ?_
  show Steps p.tables e below (T13.setTop (mkF m 165 #[s0, s1, s2, s3, s4, s5, s6, s7, s8, s9, s10, .val (.int i11), s12, s13, .val (.int i14), .val (.int i15), .val (.ref b7), .unset, .unset, .unset, .unset, .unset, .unset] [(.int (0 : Int32)), (.ref b13), (.ref b13)])) _
  refine XS.iload X13.here hx rfl (hb hby at_165) rfl ?_
  show Steps p.tables e below (T13.setTop (mkF m 167 #[s0, s1, s2, s3, s4, s5, s6, s7, s8, s9, s10, .val (.int i11), s12, s13, .val (.int i14), .val (.int i15), .val (.ref b7), .unset, .unset, .unset, .unset, .unset, .unset] [(.int i15), (.int (0 : Int32)), (.ref b13), (.ref b13)])) _
  refine st14 _ ?_
  show Steps p.tables e below (T14.setTop (mkF m 168 #[s0, s1, s2, s3, s4, s5, s6, s7, s8, s9, s10, .val (.int i11), s12, s13, .val (.int i14), .val (.int i15), .val (.ref b7), .unset, .unset, .unset, .unset, .unset, .unset] [(.ref b13)])) _
  refine XS.dup X14.here hx rfl (hb hby at_168) rfl rfl ?_
  show Steps p.tables e below (T14.setTop (mkF m 169 #[s0, s1, s2, s3, s4, s5, s6, s7, s8, s9, s10, .val (.int i11), s12, s13, .val (.int i14), .val (.int i15), .val (.ref b7), .unset, .unset, .unset, .unset, .unset, .unset] [(.ref b13), (.ref b13)])) _
  refine XS.iconst X14.here hx rfl (hb hby at_169) ?_
  show Steps p.tables e below (T14.setTop (mkF m 170 #[s0, s1, s2, s3, s4, s5, s6, s7, s8, s9, s10, .val (.int i11), s12, s13, .val (.int i14), .val (.int i15), .val (.ref b7), .unset, .unset, .unset, .unset, .unset, .unset] [(.int (1 : Int32)), (.ref b13), (.ref b13)])) _
  refine XS.iload X14.here hx rfl (hb hby at_170) rfl ?_
  show Steps p.tables e below (T14.setTop (mkF m 172 #[s0, s1, s2, s3, s4, s5, s6, s7, s8, s9, s10, .val (.int i11), s12, s13, .val (.int i14), .val (.int i15), .val (.ref b7), .unset, .unset, .unset, .unset, .unset, .unset] [(.int i15), (.int (1 : Int32)), (.ref b13), (.ref b13)])) _
  refine st15 _ ?_
  show Steps p.tables e below (T15.setTop (mkF m 173 #[s0, s1, s2, s3, s4, s5, s6, s7, s8, s9, s10, .val (.int i11), s12, s13, .val (.int i14), .val (.int i15), .val (.ref b7), .unset, .unset, .unset, .unset, .unset, .unset] [(.ref b13)])) _
  refine XS.dup X15.here hx rfl (hb hby at_173) rfl rfl ?_
  show Steps p.tables e below (T15.setTop (mkF m 174 #[s0, s1, s2, s3, s4, s5, s6, s7, s8, s9, s10, .val (.int i11), s12, s13, .val (.int i14), .val (.int i15), .val (.ref b7), .unset, .unset, .unset, .unset, .unset, .unset] [(.ref b13), (.ref b13)])) _
  refine XS.iconst X15.here hx rfl (hb hby at_174) ?_
  show Steps p.tables e below (T15.setTop (mkF m 175 #[s0, s1, s2, s3, s4, s5, s6, s7, s8, s9, s10, .val (.int i11), s12, s13, .val (.int i14), .val (.int i15), .val (.ref b7), .unset, .unset, .unset, .unset, .unset, .unset] [(.int (2 : Int32)), (.ref b13), (.ref b13)])) _
  refine XS.iload X15.here hx rfl (hb hby at_175) rfl ?_
  show Steps p.tables e below (T15.setTop (mkF m 177 #[s0, s1, s2, s3, s4, s5, s6, s7, s8, s9, s10, .val (.int i11), s12, s13, .val (.int i14), .val (.int i15), .val (.ref b7), .unset, .unset, .unset, .unset, .unset, .unset] [(.int i15), (.int (2 : Int32)), (.ref b13), (.ref b13)])) _
  refine st16 _ ?_
  show Steps p.tables e below (T16.setTop (mkF m 178 #[s0, s1, s2, s3, s4, s5, s6, s7, s8, s9, s10, .val (.int i11), s12, s13, .val (.int i14), .val (.int i15), .val (.ref b7), .unset, .unset, .unset, .unset, .unset, .unset] [(.ref b13)])) _
  refine XS.dup X16.here hx rfl (hb hby at_178) rfl rfl ?_
  show Steps p.tables e below (T16.setTop (mkF m 179 #[s0, s1, s2, s3, s4, s5, s6, s7, s8, s9, s10, .val (.int i11), s12, s13, .val (.int i14), .val (.int i15), .val (.ref b7), .unset, .unset, .unset, .unset, .unset, .unset] [(.ref b13), (.ref b13)])) _
  refine XS.iconst X16.here hx rfl (hb hby at_179) ?_
  show Steps p.tables e below (T16.setTop (mkF m 180 #[s0, s1, s2, s3, s4, s5, s6, s7, s8, s9, s10, .val (.int i11), s12, s13, .val (.int i14), .val (.int i15), .val (.ref b7), .unset, .unset, .unset, .unset, .unset, .unset] [(.int (3 : Int32)), (.ref b13), (.ref b13)])) _
  refine XS.iload X16.here hx rfl (hb hby at_180) rfl ?_
  show Steps p.tables e below (T16.setTop (mkF m 182 #[s0, s1, s2, s3, s4, s5, s6, s7, s8, s9, s10, .val (.int i11), s12, s13, .val (.int i14), .val (.int i15), .val (.ref b7), .unset, .unset, .unset, .unset, .unset, .unset] [(.int i15), (.int (3 : Int32)), (.ref b13), (.ref b13)])) _
  refine st17 _ ?_
  show Steps p.tables e below (T17.setTop (mkF m 183 #[s0, s1, s2, s3, s4, s5, s6, s7, s8, s9, s10, .val (.int i11), s12, s13, .val (.int i14), .val (.int i15), .val (.ref b7), .unset, .unset, .unset, .unset, .unset, .unset] [(.ref b13)])) _
  refine XS.dup X17.here hx rfl (hb hby at_183) rfl rfl ?_
  show Steps p.tables e below (T17.setTop (mkF m 184 #[s0, s1, s2, s3, s4, s5, s6, s7, s8, s9, s10, .val (.int i11), s12, s13, .val (.int i14), .val (.int i15), .val (.ref b7), .unset, .unset, .unset, .unset, .unset, .unset] [(.ref b13), (.ref b13)])) _
  refine XS.iconst X17.here hx rfl (hb hby at_184) ?_
  show Steps p.tables e below (T17.setTop (mkF m 185 #[s0, s1, s2, s3, s4, s5, s6, s7, s8, s9, s10, .val (.int i11), s12, s13, .val (.int i14), .val (.int i15), .val (.ref b7), .unset, .unset, .unset, .unset, .unset, .unset] [(.int (4 : Int32)), (.ref b13), (.ref b13)])) _
  refine XS.iload X17.here hx rfl (hb hby at_185) rfl ?_
  show Steps p.tables e below (T17.setTop (mkF m 187 #[s0, s1, s2, s3, s4, s5, s6, s7, s8, s9, s10, .val (.int i11), s12, s13, .val (.int i14), .val (.int i15), .val (.ref b7), .unset, .unset, .unset, .unset, .unset, .unset] [(.int i15), (.int (4 : Int32)), (.ref b13), (.ref b13)])) _
  refine st18 _ ?_
  show Steps p.tables e below (T18.setTop (mkF m 188 #[s0, s1, s2, s3, s4, s5, s6, s7, s8, s9, s10, .val (.int i11), s12, s13, .val (.int i14), .val (.int i15), .val (.ref b7), .unset, .unset, .unset, .unset, .unset, .unset] [(.ref b13)])) _
  refine XS.astore X18.here hx rfl (hb hby at_188) rfl rfl (l' := #[s0, s1, s2, s3, s4, s5, s6, s7, s8, s9, s10, .val (.int i11), s12, s13, .val (.int i14), .val (.int i15), .val (.ref b7), .val (.ref b13), .unset, .unset, .unset, .unset, .unset]) rfl ?_
  show Steps p.tables e below (T18.setTop (mkF m 190 #[s0, s1, s2, s3, s4, s5, s6, s7, s8, s9, s10, .val (.int i11), s12, s13, .val (.int i14), .val (.int i15), .val (.ref b7), .val (.ref b13), .unset, .unset, .unset, .unset, .unset] [])) _
  refine XS.iconst X18.here hx rfl (hb hby at_190) ?_
  show Steps p.tables e below (T18.setTop (mkF m 191 #[s0, s1, s2, s3, s4, s5, s6, s7, s8, s9, s10, .val (.int i11), s12, s13, .val (.int i14), .val (.int i15), .val (.ref b7), .val (.ref b13), .unset, .unset, .unset, .unset, .unset] [(.int (3 : Int32))])) _
  refine XS.istore X18.here hx rfl (hb hby at_191) rfl (l' := #[s0, s1, s2, s3, s4, s5, s6, s7, s8, s9, s10, .val (.int i11), s12, s13, .val (.int i14), .val (.int i15), .val (.ref b7), .val (.ref b13), .val (.int (3 : Int32)), .unset, .unset, .unset, .unset]) rfl ?_
  exact kt
set_option maxRecDepth 65536 in
set_option maxHeartbeats 40000000 in
theorem sC {p : Program} {l : Launch} {e : Env} {s : State} {m : MethodId} {args : Array Value} {below : List Frame} {meth : Method} {c : Code} {T0 : State} {locs : List Loc} {cells slots : Nat} {Z : State} {a0 : Array Value} {h0 : Heap} (s0 : Slot) (j1 : Int64) (j3 : Int64) (j5 : Int64) (j7 : Int64) (j9 : Int64) (s11 : Slot) (s12 : Slot) (s13 : Slot) (s14 : Slot) (s15 : Slot) (o16 : Addr) (o17 : Addr) (s18 : Slot) (n0 : Nat) (N : Nat) (f_o16 : Nat → Value) (f_o17 : Nat → Value)
    (X0 : Stand p l e room_1 s m args below meth c T0 locs cells slots) (hx : p.tables.exec = Jvm.exec) (hZ : Z.Warmed39 s.vm) (hw : ∀ d ∈ tables_1, d.before a0 Z = true) (hby : c.code = code) (hml : c.maxLocals = 23) (hown : s.vm.findClass "com/example/tight_bounds/tightbounds/model/StateLayoutApplyPinLaw" = some m.cls) (e0 : T0.heap = h0) (Z0 : n0 ≤ h0.size) (N0 : Fr n0 locs) (hcl : cells + 3 ≤ room_1.cells) (hsl : slots + 22 ≤ room_1.slots) (V_o16 : Ary Z h0 o16 .int N f_o16) (V_o17 : Ary Z h0 o17 .int N f_o17) (E_o16 : Exa Z h0 o16 "[I") :
    ∃ (T' : State) (h' : Heap) (locs' : List Loc) (b d' c' : Addr) (f g : Nat → Value), Stand p l e room_1 s m args below meth c T' locs' (cells + 3) (slots + 22) ∧ T'.heap = h' ∧ Fr n0 locs' ∧ n0 ≤ c' ∧ b ≠ c' ∧ d' ≠ c' ∧ Ary Z h' b .long 10 f ∧ own_lo 10 f ∧ Ary Z h' d' .long 6 g ∧ Ary Z h' c' .long 6 g ∧ own_lo 6 g ∧ Ary Z h' o16 .int N f_o16 ∧ Ary Z h' o17 .int N f_o17 ∧ Exa Z h' o16 "[I" ∧ n0 ≤ h'.size ∧
      ∀ target, Steps p.tables e below (T'.setTop (mkF m 368 #[s0, .val (.long j1), .second, .val (.long j3), .second, .val (.long j5), .second, .val (.long j7), .second, .val (.long j9), .second, s11, s12, s13, s14, s15, .val (.ref o16), .val (.ref o17), s18, .val (.ref b), .val (.ref d'), .val (.ref c'), .unset] [])) target → Steps p.tables e below (T0.setTop (mkF m 193 #[s0, .val (.long j1), .second, .val (.long j3), .second, .val (.long j5), .second, .val (.long j7), .second, .val (.long j9), .second, s11, s12, s13, s14, s15, .val (.ref o16), .val (.ref o17), s18, .unset, .unset, .unset, .unset] [])) target := by
  obtain ⟨T7, h7, k7, X7, e7, E7, A7, st7⟩ := newP X0 hx hZ (hw _ (List.mem_of_getElem? (i := 3) rfl)) e0 (g := (mkF m 195 #[s0, .val (.long j1), .second, .val (.long j3), .second, .val (.long j5), .second, .val (.long j7), .second, .val (.long j9), .second, s11, s12, s13, s14, s15, .val (.ref o16), .val (.ref o17), s18, .unset, .unset, .unset, .unset] [(.int (10 : Int32))])) rfl (hb hby at_195) rfl (by decide) (cap := 10) (by decide) (by decide) (by omega) (by omega)
  obtain ⟨b7, g7⟩ : ∃ z, z = h0.size := ⟨_, rfl⟩
  rw [← g7] at A7 st7
  have V_b7 : Ary Z h7 b7 .long 10 (fun _ => (.long (0 : Int64))) := Ary.new A7 (by decide) rfl
  have g_b7 : n0 ≤ b7 := Nat.le_trans Z0 (Nat.le_of_eq g7.symm)
  have sz_b7 : h0.size ≤ b7 := (Nat.le_trans (Keep.refl h0 []).1 (Nat.le_of_eq g7.symm))
  have K7 : Keep h0 h7 [] := (Keep.refl h0 []).ext E7
  obtain ⟨cl_200, Ar_200, S_200, H_200⟩ := id V_b7
  have hin200 := Ary.inn S_200 (show own_ix (0 : Int32) 0 from rfl) (by decide)
  obtain ⟨T8, h8, X8, e8, W8, st8⟩ := stJ X7 hx hZ e7 Ar_200 (j := (0 : Int32)) hin200 (g := (mkF m 200 #[s0, .val (.long j1), .second, .val (.long j3), .second, .val (.long j5), .second, .val (.long j7), .second, .val (.long j9), .second, s11, s12, s13, s14, s15, .val (.ref o16), .val (.ref o17), s18, .unset, .unset, .unset, .unset] [(.long j1), (.int (0 : Int32)), (.ref b7), (.ref b7)])) rfl rfl (hb hby at_200)
  have V_b7_8 := Ary.set Ar_200 S_200 H_200 W8 (show own_ix (0 : Int32) 0 from rfl)
  have K8 : Keep h0 h8 [] := K7.wr W8 (Or.inr sz_b7)
  have N8 := Fr.snoc X8 N0 g_b7
  obtain ⟨cl_204, Ar_204, S_204, H_204⟩ := id V_b7_8
  have hin204 := Ary.inn S_204 (show own_ix (1 : Int32) 1 from rfl) (by decide)
  obtain ⟨T9, h9, X9, e9, W9, st9⟩ := stJ X8 hx hZ e8 Ar_204 (j := (1 : Int32)) hin204 (g := (mkF m 204 #[s0, .val (.long j1), .second, .val (.long j3), .second, .val (.long j5), .second, .val (.long j7), .second, .val (.long j9), .second, s11, s12, s13, s14, s15, .val (.ref o16), .val (.ref o17), s18, .unset, .unset, .unset, .unset] [(.long j3), (.int (1 : Int32)), (.ref b7), (.ref b7)])) rfl rfl (hb hby at_204)
  have V_b7_9 := Ary.set Ar_204 S_204 H_204 W9 (show own_ix (1 : Int32) 1 from rfl)
  have K9 : Keep h0 h9 [] := K8.wr W9 (Or.inr sz_b7)
  have N9 := Fr.snoc X9 N8 g_b7
  obtain ⟨cl_209, Ar_209, S_209, H_209⟩ := id V_b7_9
  have hin209 := Ary.inn S_209 (show own_ix (2 : Int32) 2 from rfl) (by decide)
  obtain ⟨T10, h10, X10, e10, W10, st10⟩ := stJ X9 hx hZ e9 Ar_209 (j := (2 : Int32)) hin209 (g := (mkF m 209 #[s0, .val (.long j1), .second, .val (.long j3), .second, .val (.long j5), .second, .val (.long j7), .second, .val (.long j9), .second, s11, s12, s13, s14, s15, .val (.ref o16), .val (.ref o17), s18, .unset, .unset, .unset, .unset] [(.long j5), (.int (2 : Int32)), (.ref b7), (.ref b7)])) rfl rfl (hb hby at_209)
  have V_b7_10 := Ary.set Ar_209 S_209 H_209 W10 (show own_ix (2 : Int32) 2 from rfl)
  have K10 : Keep h0 h10 [] := K9.wr W10 (Or.inr sz_b7)
  have N10 := Fr.snoc X10 N9 g_b7
  obtain ⟨cl_214, Ar_214, S_214, H_214⟩ := id V_b7_10
  have hin214 := Ary.inn S_214 (show own_ix (3 : Int32) 3 from rfl) (by decide)
  obtain ⟨T11, h11, X11, e11, W11, st11⟩ := stJ X10 hx hZ e10 Ar_214 (j := (3 : Int32)) hin214 (g := (mkF m 214 #[s0, .val (.long j1), .second, .val (.long j3), .second, .val (.long j5), .second, .val (.long j7), .second, .val (.long j9), .second, s11, s12, s13, s14, s15, .val (.ref o16), .val (.ref o17), s18, .unset, .unset, .unset, .unset] [(.long j7), (.int (3 : Int32)), (.ref b7), (.ref b7)])) rfl rfl (hb hby at_214)
  have V_b7_11 := Ary.set Ar_214 S_214 H_214 W11 (show own_ix (3 : Int32) 3 from rfl)
  have K11 : Keep h0 h11 [] := K10.wr W11 (Or.inr sz_b7)
  have N11 := Fr.snoc X11 N10 g_b7
  obtain ⟨cl_221, Ar_221, S_221, H_221⟩ := id V_b7_11
  have hin221 := Ary.inn S_221 (show own_ix (4 : Int32) 4 from rfl) (by decide)
  obtain ⟨T12, h12, X12, e12, W12, st12⟩ := stJ X11 hx hZ e11 Ar_221 (j := (4 : Int32)) hin221 (g := (mkF m 221 #[s0, .val (.long j1), .second, .val (.long j3), .second, .val (.long j5), .second, .val (.long j7), .second, .val (.long j9), .second, s11, s12, s13, s14, s15, .val (.ref o16), .val (.ref o17), s18, .unset, .unset, .unset, .unset] [(.long (j1 ^^^ j5)), (.int (4 : Int32)), (.ref b7), (.ref b7)])) rfl rfl (hb hby at_221)
  have V_b7_12 := Ary.set Ar_221 S_221 H_221 W12 (show own_ix (4 : Int32) 4 from rfl)
  have K12 : Keep h0 h12 [] := K11.wr W12 (Or.inr sz_b7)
  have N12 := Fr.snoc X12 N11 g_b7
  obtain ⟨cl_228, Ar_228, S_228, H_228⟩ := id V_b7_12
  have hin228 := Ary.inn S_228 (show own_ix (5 : Int32) 5 from rfl) (by decide)
  obtain ⟨T13, h13, X13, e13, W13, st13⟩ := stJ X12 hx hZ e12 Ar_228 (j := (5 : Int32)) hin228 (g := (mkF m 228 #[s0, .val (.long j1), .second, .val (.long j3), .second, .val (.long j5), .second, .val (.long j7), .second, .val (.long j9), .second, s11, s12, s13, s14, s15, .val (.ref o16), .val (.ref o17), s18, .unset, .unset, .unset, .unset] [(.long (j3 ^^^ j7)), (.int (5 : Int32)), (.ref b7), (.ref b7)])) rfl rfl (hb hby at_228)
  have V_b7_13 := Ary.set Ar_228 S_228 H_228 W13 (show own_ix (5 : Int32) 5 from rfl)
  have K13 : Keep h0 h13 [] := K12.wr W13 (Or.inr sz_b7)
  have N13 := Fr.snoc X13 N12 g_b7
  obtain ⟨cl_237, Ar_237, S_237, H_237⟩ := id V_b7_13
  have hin237 := Ary.inn S_237 (show own_ix (6 : Int32) 6 from rfl) (by decide)
  obtain ⟨T14, h14, X14, e14, W14, st14⟩ := stJ X13 hx hZ e13 Ar_237 (j := (6 : Int32)) hin237 (g := (mkF m 237 #[s0, .val (.long j1), .second, .val (.long j3), .second, .val (.long j5), .second, .val (.long j7), .second, .val (.long j9), .second, s11, s12, s13, s14, s15, .val (.ref o16), .val (.ref o17), s18, .unset, .unset, .unset, .unset] [(.long (j1 ^^^ (-1 : Int64))), (.int (6 : Int32)), (.ref b7), (.ref b7)])) rfl rfl (hb hby at_237)
  have V_b7_14 := Ary.set Ar_237 S_237 H_237 W14 (show own_ix (6 : Int32) 6 from rfl)
  have K14 : Keep h0 h14 [] := K13.wr W14 (Or.inr sz_b7)
  have N14 := Fr.snoc X14 N13 g_b7
  obtain ⟨cl_247, Ar_247, S_247, H_247⟩ := id V_b7_14
  have hin247 := Ary.inn S_247 (show own_ix (7 : Int32) 7 from rfl) (by decide)
  obtain ⟨T15, h15, X15, e15, W15, st15⟩ := stJ X14 hx hZ e14 Ar_247 (j := (7 : Int32)) hin247 (g := (mkF m 247 #[s0, .val (.long j1), .second, .val (.long j3), .second, .val (.long j5), .second, .val (.long j7), .second, .val (.long j9), .second, s11, s12, s13, s14, s15, .val (.ref o16), .val (.ref o17), s18, .unset, .unset, .unset, .unset] [(.long (j7 ^^^ (-1 : Int64))), (.int (7 : Int32)), (.ref b7), (.ref b7)])) rfl rfl (hb hby at_247)
  have V_b7_15 := Ary.set Ar_247 S_247 H_247 W15 (show own_ix (7 : Int32) 7 from rfl)
  have K15 : Keep h0 h15 [] := K14.wr W15 (Or.inr sz_b7)
  have N15 := Fr.snoc X15 N14 g_b7
  obtain ⟨cl_256, Ar_256, S_256, H_256⟩ := id V_b7_15
  have hin256 := Ary.inn S_256 (show own_ix (8 : Int32) 8 from rfl) (by decide)
  obtain ⟨T16, h16, X16, e16, W16, st16⟩ := stJ X15 hx hZ e15 Ar_256 (j := (8 : Int32)) hin256 (g := (mkF m 256 #[s0, .val (.long j1), .second, .val (.long j3), .second, .val (.long j5), .second, .val (.long j7), .second, .val (.long j9), .second, s11, s12, s13, s14, s15, .val (.ref o16), .val (.ref o17), s18, .unset, .unset, .unset, .unset] [(.long (j5 ^^^ j9)), (.int (8 : Int32)), (.ref b7), (.ref b7)])) rfl rfl (hb hby at_256)
  have V_b7_16 := Ary.set Ar_256 S_256 H_256 W16 (show own_ix (8 : Int32) 8 from rfl)
  have K16 : Keep h0 h16 [] := K15.wr W16 (Or.inr sz_b7)
  have N16 := Fr.snoc X16 N15 g_b7
  obtain ⟨cl_265, Ar_265, S_265, H_265⟩ := id V_b7_16
  have hin265 := Ary.inn S_265 (show own_ix (9 : Int32) 9 from rfl) (by decide)
  obtain ⟨T17, h17, X17, e17, W17, st17⟩ := stJ X16 hx hZ e16 Ar_265 (j := (9 : Int32)) hin265 (g := (mkF m 265 #[s0, .val (.long j1), .second, .val (.long j3), .second, .val (.long j5), .second, .val (.long j7), .second, .val (.long j9), .second, s11, s12, s13, s14, s15, .val (.ref o16), .val (.ref o17), s18, .unset, .unset, .unset, .unset] [(.long (j7 ^^^ j9)), (.int (9 : Int32)), (.ref b7), (.ref b7)])) rfl rfl (hb hby at_265)
  have V_b7_17 := Ary.set Ar_265 S_265 H_265 W17 (show own_ix (9 : Int32) 9 from rfl)
  have K17 : Keep h0 h17 [] := K16.wr W17 (Or.inr sz_b7)
  have N17 := Fr.snoc X17 N16 g_b7
  obtain ⟨T18, h18, k18, X18, e18, E18, A18, st18⟩ := newP X17 hx hZ (hw _ (List.mem_of_getElem? (i := 3) rfl)) e17 (g := (mkF m 270 #[s0, .val (.long j1), .second, .val (.long j3), .second, .val (.long j5), .second, .val (.long j7), .second, .val (.long j9), .second, s11, s12, s13, s14, s15, .val (.ref o16), .val (.ref o17), s18, .val (.ref b7), .unset, .unset, .unset] [(.int (6 : Int32))])) rfl (hb hby at_270) rfl (by decide) (cap := 6) (by decide) (by decide) (by omega) (by omega)
  obtain ⟨b18, g18⟩ : ∃ z, z = h17.size := ⟨_, rfl⟩
  rw [← g18] at A18 st18
  have V_b18 : Ary Z h18 b18 .long 6 (fun _ => (.long (0 : Int64))) := Ary.new A18 (by decide) rfl
  have g_b18 : n0 ≤ b18 := Nat.le_trans (Nat.le_trans (Nat.le_trans (Nat.le_trans (Nat.le_trans (Nat.le_trans (Nat.le_trans (Nat.le_trans (Nat.le_trans (Nat.le_trans (Nat.le_trans (Nat.le_trans Z0 E7.1) (Keep.of_wr W8).1) (Keep.of_wr W9).1) (Keep.of_wr W10).1) (Keep.of_wr W11).1) (Keep.of_wr W12).1) (Keep.of_wr W13).1) (Keep.of_wr W14).1) (Keep.of_wr W15).1) (Keep.of_wr W16).1) (Keep.of_wr W17).1) (Nat.le_of_eq g18.symm)
  have sz_b18 : h0.size ≤ b18 := (Nat.le_trans K17.1 (Nat.le_of_eq g18.symm))
  have K18 : Keep h0 h18 [] := K17.ext E18
  obtain ⟨cl_276, Ar_276, S_276, H_276⟩ := id V_b18
  have hin276 := Ary.inn S_276 (show own_ix (0 : Int32) 0 from rfl) (by decide)
  obtain ⟨T19, h19, X19, e19, W19, st19⟩ := stJ X18 hx hZ e18 Ar_276 (j := (0 : Int32)) hin276 (g := (mkF m 276 #[s0, .val (.long j1), .second, .val (.long j3), .second, .val (.long j5), .second, .val (.long j7), .second, .val (.long j9), .second, s11, s12, s13, s14, s15, .val (.ref o16), .val (.ref o17), s18, .val (.ref b7), .unset, .unset, .unset] [(.long j9), (.int (0 : Int32)), (.ref b18), (.ref b18)])) rfl rfl (hb hby at_276)
  have V_b18_19 := Ary.set Ar_276 S_276 H_276 W19 (show own_ix (0 : Int32) 0 from rfl)
  have K19 : Keep h0 h19 [] := K18.wr W19 (Or.inr sz_b18)
  have N19 := Fr.snoc X19 N17 g_b18
  obtain ⟨cl_285, Ar_285, S_285, H_285⟩ := id V_b18_19
  have hin285 := Ary.inn S_285 (show own_ix (1 : Int32) 1 from rfl) (by decide)
  obtain ⟨T20, h20, X20, e20, W20, st20⟩ := stJ X19 hx hZ e19 Ar_285 (j := (1 : Int32)) hin285 (g := (mkF m 285 #[s0, .val (.long j1), .second, .val (.long j3), .second, .val (.long j5), .second, .val (.long j7), .second, .val (.long j9), .second, s11, s12, s13, s14, s15, .val (.ref o16), .val (.ref o17), s18, .val (.ref b7), .unset, .unset, .unset] [(.long (j9 ^^^ (-1 : Int64))), (.int (1 : Int32)), (.ref b18), (.ref b18)])) rfl rfl (hb hby at_285)
  have V_b18_20 := Ary.set Ar_285 S_285 H_285 W20 (show own_ix (1 : Int32) 1 from rfl)
  have K20 : Keep h0 h20 [] := K19.wr W20 (Or.inr sz_b18)
  have N20 := Fr.snoc X20 N19 g_b18
  obtain ⟨cl_292, Ar_292, S_292, H_292⟩ := id V_b18_20
  have hin292 := Ary.inn S_292 (show own_ix (2 : Int32) 2 from rfl) (by decide)
  obtain ⟨T21, h21, X21, e21, W21, st21⟩ := stJ X20 hx hZ e20 Ar_292 (j := (2 : Int32)) hin292 (g := (mkF m 292 #[s0, .val (.long j1), .second, .val (.long j3), .second, .val (.long j5), .second, .val (.long j7), .second, .val (.long j9), .second, s11, s12, s13, s14, s15, .val (.ref o16), .val (.ref o17), s18, .val (.ref b7), .unset, .unset, .unset] [(.long (j9 ^^^ j1)), (.int (2 : Int32)), (.ref b18), (.ref b18)])) rfl rfl (hb hby at_292)
  have V_b18_21 := Ary.set Ar_292 S_292 H_292 W21 (show own_ix (2 : Int32) 2 from rfl)
  have K21 : Keep h0 h21 [] := K20.wr W21 (Or.inr sz_b18)
  have N21 := Fr.snoc X21 N20 g_b18
  obtain ⟨cl_299, Ar_299, S_299, H_299⟩ := id V_b18_21
  have hin299 := Ary.inn S_299 (show own_ix (3 : Int32) 3 from rfl) (by decide)
  obtain ⟨T22, h22, X22, e22, W22, st22⟩ := stJ X21 hx hZ e21 Ar_299 (j := (3 : Int32)) hin299 (g := (mkF m 299 #[s0, .val (.long j1), .second, .val (.long j3), .second, .val (.long j5), .second, .val (.long j7), .second, .val (.long j9), .second, s11, s12, s13, s14, s15, .val (.ref o16), .val (.ref o17), s18, .val (.ref b7), .unset, .unset, .unset] [(.long (j9 ^^^ j3)), (.int (3 : Int32)), (.ref b18), (.ref b18)])) rfl rfl (hb hby at_299)
  have V_b18_22 := Ary.set Ar_299 S_299 H_299 W22 (show own_ix (3 : Int32) 3 from rfl)
  have K22 : Keep h0 h22 [] := K21.wr W22 (Or.inr sz_b18)
  have N22 := Fr.snoc X22 N21 g_b18
  obtain ⟨cl_307, Ar_307, S_307, H_307⟩ := id V_b18_22
  have hin307 := Ary.inn S_307 (show own_ix (4 : Int32) 4 from rfl) (by decide)
  obtain ⟨T23, h23, X23, e23, W23, st23⟩ := stJ X22 hx hZ e22 Ar_307 (j := (4 : Int32)) hin307 (g := (mkF m 307 #[s0, .val (.long j1), .second, .val (.long j3), .second, .val (.long j5), .second, .val (.long j7), .second, .val (.long j9), .second, s11, s12, s13, s14, s15, .val (.ref o16), .val (.ref o17), s18, .val (.ref b7), .unset, .unset, .unset] [(.long (j9 ^^^ j5)), (.int (4 : Int32)), (.ref b18), (.ref b18)])) rfl rfl (hb hby at_307)
  have V_b18_23 := Ary.set Ar_307 S_307 H_307 W23 (show own_ix (4 : Int32) 4 from rfl)
  have K23 : Keep h0 h23 [] := K22.wr W23 (Or.inr sz_b18)
  have N23 := Fr.snoc X23 N22 g_b18
  obtain ⟨cl_315, Ar_315, S_315, H_315⟩ := id V_b18_23
  have hin315 := Ary.inn S_315 (show own_ix (5 : Int32) 5 from rfl) (by decide)
  obtain ⟨T24, h24, X24, e24, W24, st24⟩ := stJ X23 hx hZ e23 Ar_315 (j := (5 : Int32)) hin315 (g := (mkF m 315 #[s0, .val (.long j1), .second, .val (.long j3), .second, .val (.long j5), .second, .val (.long j7), .second, .val (.long j9), .second, s11, s12, s13, s14, s15, .val (.ref o16), .val (.ref o17), s18, .val (.ref b7), .unset, .unset, .unset] [(.long (j9 ^^^ j7)), (.int (5 : Int32)), (.ref b18), (.ref b18)])) rfl rfl (hb hby at_315)
  have V_b18_24 := Ary.set Ar_315 S_315 H_315 W24 (show own_ix (5 : Int32) 5 from rfl)
  have K24 : Keep h0 h24 [] := K23.wr W24 (Or.inr sz_b18)
  have N24 := Fr.snoc X24 N23 g_b18
  obtain ⟨T25, h25, k25, X25, e25, E25, A25, st25⟩ := newP X24 hx hZ (hw _ (List.mem_of_getElem? (i := 3) rfl)) e24 (g := (mkF m 320 #[s0, .val (.long j1), .second, .val (.long j3), .second, .val (.long j5), .second, .val (.long j7), .second, .val (.long j9), .second, s11, s12, s13, s14, s15, .val (.ref o16), .val (.ref o17), s18, .val (.ref b7), .val (.ref b18), .unset, .unset] [(.int (6 : Int32))])) rfl (hb hby at_320) rfl (by decide) (cap := 6) (by decide) (by decide) (by omega) (by omega)
  obtain ⟨b25, g25⟩ : ∃ z, z = h24.size := ⟨_, rfl⟩
  rw [← g25] at A25 st25
  have V_b25 : Ary Z h25 b25 .long 6 (fun _ => (.long (0 : Int64))) := Ary.new A25 (by decide) rfl
  have g_b25 : n0 ≤ b25 := Nat.le_trans (Nat.le_trans (Nat.le_trans (Nat.le_trans (Nat.le_trans (Nat.le_trans (Nat.le_trans (Nat.le_trans (Nat.le_trans (Nat.le_trans (Nat.le_trans (Nat.le_trans (Nat.le_trans (Nat.le_trans (Nat.le_trans (Nat.le_trans (Nat.le_trans (Nat.le_trans (Nat.le_trans Z0 E7.1) (Keep.of_wr W8).1) (Keep.of_wr W9).1) (Keep.of_wr W10).1) (Keep.of_wr W11).1) (Keep.of_wr W12).1) (Keep.of_wr W13).1) (Keep.of_wr W14).1) (Keep.of_wr W15).1) (Keep.of_wr W16).1) (Keep.of_wr W17).1) E18.1) (Keep.of_wr W19).1) (Keep.of_wr W20).1) (Keep.of_wr W21).1) (Keep.of_wr W22).1) (Keep.of_wr W23).1) (Keep.of_wr W24).1) (Nat.le_of_eq g25.symm)
  have sz_b25 : h0.size ≤ b25 := (Nat.le_trans K24.1 (Nat.le_of_eq g25.symm))
  have K25 : Keep h0 h25 [] := K24.ext E25
  obtain ⟨cl_326, Ar_326, S_326, H_326⟩ := id V_b25
  have hin326 := Ary.inn S_326 (show own_ix (0 : Int32) 0 from rfl) (by decide)
  obtain ⟨T26, h26, X26, e26, W26, st26⟩ := stJ X25 hx hZ e25 Ar_326 (j := (0 : Int32)) hin326 (g := (mkF m 326 #[s0, .val (.long j1), .second, .val (.long j3), .second, .val (.long j5), .second, .val (.long j7), .second, .val (.long j9), .second, s11, s12, s13, s14, s15, .val (.ref o16), .val (.ref o17), s18, .val (.ref b7), .val (.ref b18), .unset, .unset] [(.long j9), (.int (0 : Int32)), (.ref b25), (.ref b25)])) rfl rfl (hb hby at_326)
  have V_b25_26 := Ary.set Ar_326 S_326 H_326 W26 (show own_ix (0 : Int32) 0 from rfl)
  have K26 : Keep h0 h26 [] := K25.wr W26 (Or.inr sz_b25)
  have N26 := Fr.snoc X26 N24 g_b25
  obtain ⟨cl_335, Ar_335, S_335, H_335⟩ := id V_b25_26
  have hin335 := Ary.inn S_335 (show own_ix (1 : Int32) 1 from rfl) (by decide)
  obtain ⟨T27, h27, X27, e27, W27, st27⟩ := stJ X26 hx hZ e26 Ar_335 (j := (1 : Int32)) hin335 (g := (mkF m 335 #[s0, .val (.long j1), .second, .val (.long j3), .second, .val (.long j5), .second, .val (.long j7), .second, .val (.long j9), .second, s11, s12, s13, s14, s15, .val (.ref o16), .val (.ref o17), s18, .val (.ref b7), .val (.ref b18), .unset, .unset] [(.long (j9 ^^^ (-1 : Int64))), (.int (1 : Int32)), (.ref b25), (.ref b25)])) rfl rfl (hb hby at_335)
  have V_b25_27 := Ary.set Ar_335 S_335 H_335 W27 (show own_ix (1 : Int32) 1 from rfl)
  have K27 : Keep h0 h27 [] := K26.wr W27 (Or.inr sz_b25)
  have N27 := Fr.snoc X27 N26 g_b25
  obtain ⟨cl_342, Ar_342, S_342, H_342⟩ := id V_b25_27
  have hin342 := Ary.inn S_342 (show own_ix (2 : Int32) 2 from rfl) (by decide)
  obtain ⟨T28, h28, X28, e28, W28, st28⟩ := stJ X27 hx hZ e27 Ar_342 (j := (2 : Int32)) hin342 (g := (mkF m 342 #[s0, .val (.long j1), .second, .val (.long j3), .second, .val (.long j5), .second, .val (.long j7), .second, .val (.long j9), .second, s11, s12, s13, s14, s15, .val (.ref o16), .val (.ref o17), s18, .val (.ref b7), .val (.ref b18), .unset, .unset] [(.long (j9 ^^^ j1)), (.int (2 : Int32)), (.ref b25), (.ref b25)])) rfl rfl (hb hby at_342)
  have V_b25_28 := Ary.set Ar_342 S_342 H_342 W28 (show own_ix (2 : Int32) 2 from rfl)
  have K28 : Keep h0 h28 [] := K27.wr W28 (Or.inr sz_b25)
  have N28 := Fr.snoc X28 N27 g_b25
  obtain ⟨cl_349, Ar_349, S_349, H_349⟩ := id V_b25_28
  have hin349 := Ary.inn S_349 (show own_ix (3 : Int32) 3 from rfl) (by decide)
  obtain ⟨T29, h29, X29, e29, W29, st29⟩ := stJ X28 hx hZ e28 Ar_349 (j := (3 : Int32)) hin349 (g := (mkF m 349 #[s0, .val (.long j1), .second, .val (.long j3), .second, .val (.long j5), .second, .val (.long j7), .second, .val (.long j9), .second, s11, s12, s13, s14, s15, .val (.ref o16), .val (.ref o17), s18, .val (.ref b7), .val (.ref b18), .unset, .unset] [(.long (j9 ^^^ j3)), (.int (3 : Int32)), (.ref b25), (.ref b25)])) rfl rfl (hb hby at_349)
  have V_b25_29 := Ary.set Ar_349 S_349 H_349 W29 (show own_ix (3 : Int32) 3 from rfl)
  have K29 : Keep h0 h29 [] := K28.wr W29 (Or.inr sz_b25)
  have N29 := Fr.snoc X29 N28 g_b25
  obtain ⟨cl_357, Ar_357, S_357, H_357⟩ := id V_b25_29
  have hin357 := Ary.inn S_357 (show own_ix (4 : Int32) 4 from rfl) (by decide)
  obtain ⟨T30, h30, X30, e30, W30, st30⟩ := stJ X29 hx hZ e29 Ar_357 (j := (4 : Int32)) hin357 (g := (mkF m 357 #[s0, .val (.long j1), .second, .val (.long j3), .second, .val (.long j5), .second, .val (.long j7), .second, .val (.long j9), .second, s11, s12, s13, s14, s15, .val (.ref o16), .val (.ref o17), s18, .val (.ref b7), .val (.ref b18), .unset, .unset] [(.long (j9 ^^^ j5)), (.int (4 : Int32)), (.ref b25), (.ref b25)])) rfl rfl (hb hby at_357)
  have V_b25_30 := Ary.set Ar_357 S_357 H_357 W30 (show own_ix (4 : Int32) 4 from rfl)
  have K30 : Keep h0 h30 [] := K29.wr W30 (Or.inr sz_b25)
  have N30 := Fr.snoc X30 N29 g_b25
  obtain ⟨cl_365, Ar_365, S_365, H_365⟩ := id V_b25_30
  have hin365 := Ary.inn S_365 (show own_ix (5 : Int32) 5 from rfl) (by decide)
  obtain ⟨T31, h31, X31, e31, W31, st31⟩ := stJ X30 hx hZ e30 Ar_365 (j := (5 : Int32)) hin365 (g := (mkF m 365 #[s0, .val (.long j1), .second, .val (.long j3), .second, .val (.long j5), .second, .val (.long j7), .second, .val (.long j9), .second, s11, s12, s13, s14, s15, .val (.ref o16), .val (.ref o17), s18, .val (.ref b7), .val (.ref b18), .unset, .unset] [(.long (j9 ^^^ j7)), (.int (5 : Int32)), (.ref b25), (.ref b25)])) rfl rfl (hb hby at_365)
  have V_b25_31 := Ary.set Ar_365 S_365 H_365 W31 (show own_ix (5 : Int32) 5 from rfl)
  have K31 : Keep h0 h31 [] := K30.wr W31 (Or.inr sz_b25)
  have N31 := Fr.snoc X31 N30 g_b25
  have Vend_o16 := (((((((((((((((((((((((((V_o16.ext E7).other W8 (Nat.ne_of_lt (Nat.lt_of_lt_of_le V_o16.lt (Nat.le_of_eq g7.symm)))).other W9 (Nat.ne_of_lt (Nat.lt_of_lt_of_le V_o16.lt (Nat.le_of_eq g7.symm)))).other W10 (Nat.ne_of_lt (Nat.lt_of_lt_of_le V_o16.lt (Nat.le_of_eq g7.symm)))).other W11 (Nat.ne_of_lt (Nat.lt_of_lt_of_le V_o16.lt (Nat.le_of_eq g7.symm)))).other W12 (Nat.ne_of_lt (Nat.lt_of_lt_of_le V_o16.lt (Nat.le_of_eq g7.symm)))).other W13 (Nat.ne_of_lt (Nat.lt_of_lt_of_le V_o16.lt (Nat.le_of_eq g7.symm)))).other W14 (Nat.ne_of_lt (Nat.lt_of_lt_of_le V_o16.lt (Nat.le_of_eq g7.symm)))).other W15 (Nat.ne_of_lt (Nat.lt_of_lt_of_le V_o16.lt (Nat.le_of_eq g7.symm)))).other W16 (Nat.ne_of_lt (Nat.lt_of_lt_of_le V_o16.lt (Nat.le_of_eq g7.symm)))).other W17 (Nat.ne_of_lt (Nat.lt_of_lt_of_le V_o16.lt (Nat.le_of_eq g7.symm)))).ext E18).other W19 (Nat.ne_of_lt (Nat.lt_of_lt_of_le (((((((((((V_o16.ext E7).other W8 (Nat.ne_of_lt (Nat.lt_of_lt_of_le V_o16.lt (Nat.le_of_eq g7.symm)))).other W9 (Nat.ne_of_lt (Nat.lt_of_lt_of_le V_o16.lt (Nat.le_of_eq g7.symm)))).other W10 (Nat.ne_of_lt (Nat.lt_of_lt_of_le V_o16.lt (Nat.le_of_eq g7.symm)))).other W11 (Nat.ne_of_lt (Nat.lt_of_lt_of_le V_o16.lt (Nat.le_of_eq g7.symm)))).other W12 (Nat.ne_of_lt (Nat.lt_of_lt_of_le V_o16.lt (Nat.le_of_eq g7.symm)))).other W13 (Nat.ne_of_lt (Nat.lt_of_lt_of_le V_o16.lt (Nat.le_of_eq g7.symm)))).other W14 (Nat.ne_of_lt (Nat.lt_of_lt_of_le V_o16.lt (Nat.le_of_eq g7.symm)))).other W15 (Nat.ne_of_lt (Nat.lt_of_lt_of_le V_o16.lt (Nat.le_of_eq g7.symm)))).other W16 (Nat.ne_of_lt (Nat.lt_of_lt_of_le V_o16.lt (Nat.le_of_eq g7.symm)))).other W17 (Nat.ne_of_lt (Nat.lt_of_lt_of_le V_o16.lt (Nat.le_of_eq g7.symm)))).lt (Nat.le_of_eq g18.symm)))).other W20 (Nat.ne_of_lt (Nat.lt_of_lt_of_le (((((((((((V_o16.ext E7).other W8 (Nat.ne_of_lt (Nat.lt_of_lt_of_le V_o16.lt (Nat.le_of_eq g7.symm)))).other W9 (Nat.ne_of_lt (Nat.lt_of_lt_of_le V_o16.lt (Nat.le_of_eq g7.symm)))).other W10 (Nat.ne_of_lt (Nat.lt_of_lt_of_le V_o16.lt (Nat.le_of_eq g7.symm)))).other W11 (Nat.ne_of_lt (Nat.lt_of_lt_of_le V_o16.lt (Nat.le_of_eq g7.symm)))).other W12 (Nat.ne_of_lt (Nat.lt_of_lt_of_le V_o16.lt (Nat.le_of_eq g7.symm)))).other W13 (Nat.ne_of_lt (Nat.lt_of_lt_of_le V_o16.lt (Nat.le_of_eq g7.symm)))).other W14 (Nat.ne_of_lt (Nat.lt_of_lt_of_le V_o16.lt (Nat.le_of_eq g7.symm)))).other W15 (Nat.ne_of_lt (Nat.lt_of_lt_of_le V_o16.lt (Nat.le_of_eq g7.symm)))).other W16 (Nat.ne_of_lt (Nat.lt_of_lt_of_le V_o16.lt (Nat.le_of_eq g7.symm)))).other W17 (Nat.ne_of_lt (Nat.lt_of_lt_of_le V_o16.lt (Nat.le_of_eq g7.symm)))).lt (Nat.le_of_eq g18.symm)))).other W21 (Nat.ne_of_lt (Nat.lt_of_lt_of_le (((((((((((V_o16.ext E7).other W8 (Nat.ne_of_lt (Nat.lt_of_lt_of_le V_o16.lt (Nat.le_of_eq g7.symm)))).other W9 (Nat.ne_of_lt (Nat.lt_of_lt_of_le V_o16.lt (Nat.le_of_eq g7.symm)))).other W10 (Nat.ne_of_lt (Nat.lt_of_lt_of_le V_o16.lt (Nat.le_of_eq g7.symm)))).other W11 (Nat.ne_of_lt (Nat.lt_of_lt_of_le V_o16.lt (Nat.le_of_eq g7.symm)))).other W12 (Nat.ne_of_lt (Nat.lt_of_lt_of_le V_o16.lt (Nat.le_of_eq g7.symm)))).other W13 (Nat.ne_of_lt (Nat.lt_of_lt_of_le V_o16.lt (Nat.le_of_eq g7.symm)))).other W14 (Nat.ne_of_lt (Nat.lt_of_lt_of_le V_o16.lt (Nat.le_of_eq g7.symm)))).other W15 (Nat.ne_of_lt (Nat.lt_of_lt_of_le V_o16.lt (Nat.le_of_eq g7.symm)))).other W16 (Nat.ne_of_lt (Nat.lt_of_lt_of_le V_o16.lt (Nat.le_of_eq g7.symm)))).other W17 (Nat.ne_of_lt (Nat.lt_of_lt_of_le V_o16.lt (Nat.le_of_eq g7.symm)))).lt (Nat.le_of_eq g18.symm)))).other W22 (Nat.ne_of_lt (Nat.lt_of_lt_of_le (((((((((((V_o16.ext E7).other W8 (Nat.ne_of_lt (Nat.lt_of_lt_of_le V_o16.lt (Nat.le_of_eq g7.symm)))).other W9 (Nat.ne_of_lt (Nat.lt_of_lt_of_le V_o16.lt (Nat.le_of_eq g7.symm)))).other W10 (Nat.ne_of_lt (Nat.lt_of_lt_of_le V_o16.lt (Nat.le_of_eq g7.symm)))).other W11 (Nat.ne_of_lt (Nat.lt_of_lt_of_le V_o16.lt (Nat.le_of_eq g7.symm)))).other W12 (Nat.ne_of_lt (Nat.lt_of_lt_of_le V_o16.lt (Nat.le_of_eq g7.symm)))).other W13 (Nat.ne_of_lt (Nat.lt_of_lt_of_le V_o16.lt (Nat.le_of_eq g7.symm)))).other W14 (Nat.ne_of_lt (Nat.lt_of_lt_of_le V_o16.lt (Nat.le_of_eq g7.symm)))).other W15 (Nat.ne_of_lt (Nat.lt_of_lt_of_le V_o16.lt (Nat.le_of_eq g7.symm)))).other W16 (Nat.ne_of_lt (Nat.lt_of_lt_of_le V_o16.lt (Nat.le_of_eq g7.symm)))).other W17 (Nat.ne_of_lt (Nat.lt_of_lt_of_le V_o16.lt (Nat.le_of_eq g7.symm)))).lt (Nat.le_of_eq g18.symm)))).other W23 (Nat.ne_of_lt (Nat.lt_of_lt_of_le (((((((((((V_o16.ext E7).other W8 (Nat.ne_of_lt (Nat.lt_of_lt_of_le V_o16.lt (Nat.le_of_eq g7.symm)))).other W9 (Nat.ne_of_lt (Nat.lt_of_lt_of_le V_o16.lt (Nat.le_of_eq g7.symm)))).other W10 (Nat.ne_of_lt (Nat.lt_of_lt_of_le V_o16.lt (Nat.le_of_eq g7.symm)))).other W11 (Nat.ne_of_lt (Nat.lt_of_lt_of_le V_o16.lt (Nat.le_of_eq g7.symm)))).other W12 (Nat.ne_of_lt (Nat.lt_of_lt_of_le V_o16.lt (Nat.le_of_eq g7.symm)))).other W13 (Nat.ne_of_lt (Nat.lt_of_lt_of_le V_o16.lt (Nat.le_of_eq g7.symm)))).other W14 (Nat.ne_of_lt (Nat.lt_of_lt_of_le V_o16.lt (Nat.le_of_eq g7.symm)))).other W15 (Nat.ne_of_lt (Nat.lt_of_lt_of_le V_o16.lt (Nat.le_of_eq g7.symm)))).other W16 (Nat.ne_of_lt (Nat.lt_of_lt_of_le V_o16.lt (Nat.le_of_eq g7.symm)))).other W17 (Nat.ne_of_lt (Nat.lt_of_lt_of_le V_o16.lt (Nat.le_of_eq g7.symm)))).lt (Nat.le_of_eq g18.symm)))).other W24 (Nat.ne_of_lt (Nat.lt_of_lt_of_le (((((((((((V_o16.ext E7).other W8 (Nat.ne_of_lt (Nat.lt_of_lt_of_le V_o16.lt (Nat.le_of_eq g7.symm)))).other W9 (Nat.ne_of_lt (Nat.lt_of_lt_of_le V_o16.lt (Nat.le_of_eq g7.symm)))).other W10 (Nat.ne_of_lt (Nat.lt_of_lt_of_le V_o16.lt (Nat.le_of_eq g7.symm)))).other W11 (Nat.ne_of_lt (Nat.lt_of_lt_of_le V_o16.lt (Nat.le_of_eq g7.symm)))).other W12 (Nat.ne_of_lt (Nat.lt_of_lt_of_le V_o16.lt (Nat.le_of_eq g7.symm)))).other W13 (Nat.ne_of_lt (Nat.lt_of_lt_of_le V_o16.lt (Nat.le_of_eq g7.symm)))).other W14 (Nat.ne_of_lt (Nat.lt_of_lt_of_le V_o16.lt (Nat.le_of_eq g7.symm)))).other W15 (Nat.ne_of_lt (Nat.lt_of_lt_of_le V_o16.lt (Nat.le_of_eq g7.symm)))).other W16 (Nat.ne_of_lt (Nat.lt_of_lt_of_le V_o16.lt (Nat.le_of_eq g7.symm)))).other W17 (Nat.ne_of_lt (Nat.lt_of_lt_of_le V_o16.lt (Nat.le_of_eq g7.symm)))).lt (Nat.le_of_eq g18.symm)))).ext E25).other W26 (Nat.ne_of_lt (Nat.lt_of_lt_of_le ((((((((((((((((((V_o16.ext E7).other W8 (Nat.ne_of_lt (Nat.lt_of_lt_of_le V_o16.lt (Nat.le_of_eq g7.symm)))).other W9 (Nat.ne_of_lt (Nat.lt_of_lt_of_le V_o16.lt (Nat.le_of_eq g7.symm)))).other W10 (Nat.ne_of_lt (Nat.lt_of_lt_of_le V_o16.lt (Nat.le_of_eq g7.symm)))).other W11 (Nat.ne_of_lt (Nat.lt_of_lt_of_le V_o16.lt (Nat.le_of_eq g7.symm)))).other W12 (Nat.ne_of_lt (Nat.lt_of_lt_of_le V_o16.lt (Nat.le_of_eq g7.symm)))).other W13 (Nat.ne_of_lt (Nat.lt_of_lt_of_le V_o16.lt (Nat.le_of_eq g7.symm)))).other W14 (Nat.ne_of_lt (Nat.lt_of_lt_of_le V_o16.lt (Nat.le_of_eq g7.symm)))).other W15 (Nat.ne_of_lt (Nat.lt_of_lt_of_le V_o16.lt (Nat.le_of_eq g7.symm)))).other W16 (Nat.ne_of_lt (Nat.lt_of_lt_of_le V_o16.lt (Nat.le_of_eq g7.symm)))).other W17 (Nat.ne_of_lt (Nat.lt_of_lt_of_le V_o16.lt (Nat.le_of_eq g7.symm)))).ext E18).other W19 (Nat.ne_of_lt (Nat.lt_of_lt_of_le (((((((((((V_o16.ext E7).other W8 (Nat.ne_of_lt (Nat.lt_of_lt_of_le V_o16.lt (Nat.le_of_eq g7.symm)))).other W9 (Nat.ne_of_lt (Nat.lt_of_lt_of_le V_o16.lt (Nat.le_of_eq g7.symm)))).other W10 (Nat.ne_of_lt (Nat.lt_of_lt_of_le V_o16.lt (Nat.le_of_eq g7.symm)))).other W11 (Nat.ne_of_lt (Nat.lt_of_lt_of_le V_o16.lt (Nat.le_of_eq g7.symm)))).other W12 (Nat.ne_of_lt (Nat.lt_of_lt_of_le V_o16.lt (Nat.le_of_eq g7.symm)))).other W13 (Nat.ne_of_lt (Nat.lt_of_lt_of_le V_o16.lt (Nat.le_of_eq g7.symm)))).other W14 (Nat.ne_of_lt (Nat.lt_of_lt_of_le V_o16.lt (Nat.le_of_eq g7.symm)))).other W15 (Nat.ne_of_lt (Nat.lt_of_lt_of_le V_o16.lt (Nat.le_of_eq g7.symm)))).other W16 (Nat.ne_of_lt (Nat.lt_of_lt_of_le V_o16.lt (Nat.le_of_eq g7.symm)))).other W17 (Nat.ne_of_lt (Nat.lt_of_lt_of_le V_o16.lt (Nat.le_of_eq g7.symm)))).lt (Nat.le_of_eq g18.symm)))).other W20 (Nat.ne_of_lt (Nat.lt_of_lt_of_le (((((((((((V_o16.ext E7).other W8 (Nat.ne_of_lt (Nat.lt_of_lt_of_le V_o16.lt (Nat.le_of_eq g7.symm)))).other W9 (Nat.ne_of_lt (Nat.lt_of_lt_of_le V_o16.lt (Nat.le_of_eq g7.symm)))).other W10 (Nat.ne_of_lt (Nat.lt_of_lt_of_le V_o16.lt (Nat.le_of_eq g7.symm)))).other W11 (Nat.ne_of_lt (Nat.lt_of_lt_of_le V_o16.lt (Nat.le_of_eq g7.symm)))).other W12 (Nat.ne_of_lt (Nat.lt_of_lt_of_le V_o16.lt (Nat.le_of_eq g7.symm)))).other W13 (Nat.ne_of_lt (Nat.lt_of_lt_of_le V_o16.lt (Nat.le_of_eq g7.symm)))).other W14 (Nat.ne_of_lt (Nat.lt_of_lt_of_le V_o16.lt (Nat.le_of_eq g7.symm)))).other W15 (Nat.ne_of_lt (Nat.lt_of_lt_of_le V_o16.lt (Nat.le_of_eq g7.symm)))).other W16 (Nat.ne_of_lt (Nat.lt_of_lt_of_le V_o16.lt (Nat.le_of_eq g7.symm)))).other W17 (Nat.ne_of_lt (Nat.lt_of_lt_of_le V_o16.lt (Nat.le_of_eq g7.symm)))).lt (Nat.le_of_eq g18.symm)))).other W21 (Nat.ne_of_lt (Nat.lt_of_lt_of_le (((((((((((V_o16.ext E7).other W8 (Nat.ne_of_lt (Nat.lt_of_lt_of_le V_o16.lt (Nat.le_of_eq g7.symm)))).other W9 (Nat.ne_of_lt (Nat.lt_of_lt_of_le V_o16.lt (Nat.le_of_eq g7.symm)))).other W10 (Nat.ne_of_lt (Nat.lt_of_lt_of_le V_o16.lt (Nat.le_of_eq g7.symm)))).other W11 (Nat.ne_of_lt (Nat.lt_of_lt_of_le V_o16.lt (Nat.le_of_eq g7.symm)))).other W12 (Nat.ne_of_lt (Nat.lt_of_lt_of_le V_o16.lt (Nat.le_of_eq g7.symm)))).other W13 (Nat.ne_of_lt (Nat.lt_of_lt_of_le V_o16.lt (Nat.le_of_eq g7.symm)))).other W14 (Nat.ne_of_lt (Nat.lt_of_lt_of_le V_o16.lt (Nat.le_of_eq g7.symm)))).other W15 (Nat.ne_of_lt (Nat.lt_of_lt_of_le V_o16.lt (Nat.le_of_eq g7.symm)))).other W16 (Nat.ne_of_lt (Nat.lt_of_lt_of_le V_o16.lt (Nat.le_of_eq g7.symm)))).other W17 (Nat.ne_of_lt (Nat.lt_of_lt_of_le V_o16.lt (Nat.le_of_eq g7.symm)))).lt (Nat.le_of_eq g18.symm)))).other W22 (Nat.ne_of_lt (Nat.lt_of_lt_of_le (((((((((((V_o16.ext E7).other W8 (Nat.ne_of_lt (Nat.lt_of_lt_of_le V_o16.lt (Nat.le_of_eq g7.symm)))).other W9 (Nat.ne_of_lt (Nat.lt_of_lt_of_le V_o16.lt (Nat.le_of_eq g7.symm)))).other W10 (Nat.ne_of_lt (Nat.lt_of_lt_of_le V_o16.lt (Nat.le_of_eq g7.symm)))).other W11 (Nat.ne_of_lt (Nat.lt_of_lt_of_le V_o16.lt (Nat.le_of_eq g7.symm)))).other W12 (Nat.ne_of_lt (Nat.lt_of_lt_of_le V_o16.lt (Nat.le_of_eq g7.symm)))).other W13 (Nat.ne_of_lt (Nat.lt_of_lt_of_le V_o16.lt (Nat.le_of_eq g7.symm)))).other W14 (Nat.ne_of_lt (Nat.lt_of_lt_of_le V_o16.lt (Nat.le_of_eq g7.symm)))).other W15 (Nat.ne_of_lt (Nat.lt_of_lt_of_le V_o16.lt (Nat.le_of_eq g7.symm)))).other W16 (Nat.ne_of_lt (Nat.lt_of_lt_of_le V_o16.lt (Nat.le_of_eq g7.symm)))).other W17 (Nat.ne_of_lt (Nat.lt_of_lt_of_le V_o16.lt (Nat.le_of_eq g7.symm)))).lt (Nat.le_of_eq g18.symm)))).other W23 (Nat.ne_of_lt (Nat.lt_of_lt_of_le (((((((((((V_o16.ext E7).other W8 (Nat.ne_of_lt (Nat.lt_of_lt_of_le V_o16.lt (Nat.le_of_eq g7.symm)))).other W9 (Nat.ne_of_lt (Nat.lt_of_lt_of_le V_o16.lt (Nat.le_of_eq g7.symm)))).other W10 (Nat.ne_of_lt (Nat.lt_of_lt_of_le V_o16.lt (Nat.le_of_eq g7.symm)))).other W11 (Nat.ne_of_lt (Nat.lt_of_lt_of_le V_o16.lt (Nat.le_of_eq g7.symm)))).other W12 (Nat.ne_of_lt (Nat.lt_of_lt_of_le V_o16.lt (Nat.le_of_eq g7.symm)))).other W13 (Nat.ne_of_lt (Nat.lt_of_lt_of_le V_o16.lt (Nat.le_of_eq g7.symm)))).other W14 (Nat.ne_of_lt (Nat.lt_of_lt_of_le V_o16.lt (Nat.le_of_eq g7.symm)))).other W15 (Nat.ne_of_lt (Nat.lt_of_lt_of_le V_o16.lt (Nat.le_of_eq g7.symm)))).other W16 (Nat.ne_of_lt (Nat.lt_of_lt_of_le V_o16.lt (Nat.le_of_eq g7.symm)))).other W17 (Nat.ne_of_lt (Nat.lt_of_lt_of_le V_o16.lt (Nat.le_of_eq g7.symm)))).lt (Nat.le_of_eq g18.symm)))).other W24 (Nat.ne_of_lt (Nat.lt_of_lt_of_le (((((((((((V_o16.ext E7).other W8 (Nat.ne_of_lt (Nat.lt_of_lt_of_le V_o16.lt (Nat.le_of_eq g7.symm)))).other W9 (Nat.ne_of_lt (Nat.lt_of_lt_of_le V_o16.lt (Nat.le_of_eq g7.symm)))).other W10 (Nat.ne_of_lt (Nat.lt_of_lt_of_le V_o16.lt (Nat.le_of_eq g7.symm)))).other W11 (Nat.ne_of_lt (Nat.lt_of_lt_of_le V_o16.lt (Nat.le_of_eq g7.symm)))).other W12 (Nat.ne_of_lt (Nat.lt_of_lt_of_le V_o16.lt (Nat.le_of_eq g7.symm)))).other W13 (Nat.ne_of_lt (Nat.lt_of_lt_of_le V_o16.lt (Nat.le_of_eq g7.symm)))).other W14 (Nat.ne_of_lt (Nat.lt_of_lt_of_le V_o16.lt (Nat.le_of_eq g7.symm)))).other W15 (Nat.ne_of_lt (Nat.lt_of_lt_of_le V_o16.lt (Nat.le_of_eq g7.symm)))).other W16 (Nat.ne_of_lt (Nat.lt_of_lt_of_le V_o16.lt (Nat.le_of_eq g7.symm)))).other W17 (Nat.ne_of_lt (Nat.lt_of_lt_of_le V_o16.lt (Nat.le_of_eq g7.symm)))).lt (Nat.le_of_eq g18.symm)))).lt (Nat.le_of_eq g25.symm)))).other W27 (Nat.ne_of_lt (Nat.lt_of_lt_of_le ((((((((((((((((((V_o16.ext E7).other W8 (Nat.ne_of_lt (Nat.lt_of_lt_of_le V_o16.lt (Nat.le_of_eq g7.symm)))).other W9 (Nat.ne_of_lt (Nat.lt_of_lt_of_le V_o16.lt (Nat.le_of_eq g7.symm)))).other W10 (Nat.ne_of_lt (Nat.lt_of_lt_of_le V_o16.lt (Nat.le_of_eq g7.symm)))).other W11 (Nat.ne_of_lt (Nat.lt_of_lt_of_le V_o16.lt (Nat.le_of_eq g7.symm)))).other W12 (Nat.ne_of_lt (Nat.lt_of_lt_of_le V_o16.lt (Nat.le_of_eq g7.symm)))).other W13 (Nat.ne_of_lt (Nat.lt_of_lt_of_le V_o16.lt (Nat.le_of_eq g7.symm)))).other W14 (Nat.ne_of_lt (Nat.lt_of_lt_of_le V_o16.lt (Nat.le_of_eq g7.symm)))).other W15 (Nat.ne_of_lt (Nat.lt_of_lt_of_le V_o16.lt (Nat.le_of_eq g7.symm)))).other W16 (Nat.ne_of_lt (Nat.lt_of_lt_of_le V_o16.lt (Nat.le_of_eq g7.symm)))).other W17 (Nat.ne_of_lt (Nat.lt_of_lt_of_le V_o16.lt (Nat.le_of_eq g7.symm)))).ext E18).other W19 (Nat.ne_of_lt (Nat.lt_of_lt_of_le (((((((((((V_o16.ext E7).other W8 (Nat.ne_of_lt (Nat.lt_of_lt_of_le V_o16.lt (Nat.le_of_eq g7.symm)))).other W9 (Nat.ne_of_lt (Nat.lt_of_lt_of_le V_o16.lt (Nat.le_of_eq g7.symm)))).other W10 (Nat.ne_of_lt (Nat.lt_of_lt_of_le V_o16.lt (Nat.le_of_eq g7.symm)))).other W11 (Nat.ne_of_lt (Nat.lt_of_lt_of_le V_o16.lt (Nat.le_of_eq g7.symm)))).other W12 (Nat.ne_of_lt (Nat.lt_of_lt_of_le V_o16.lt (Nat.le_of_eq g7.symm)))).other W13 (Nat.ne_of_lt (Nat.lt_of_lt_of_le V_o16.lt (Nat.le_of_eq g7.symm)))).other W14 (Nat.ne_of_lt (Nat.lt_of_lt_of_le V_o16.lt (Nat.le_of_eq g7.symm)))).other W15 (Nat.ne_of_lt (Nat.lt_of_lt_of_le V_o16.lt (Nat.le_of_eq g7.symm)))).other W16 (Nat.ne_of_lt (Nat.lt_of_lt_of_le V_o16.lt (Nat.le_of_eq g7.symm)))).other W17 (Nat.ne_of_lt (Nat.lt_of_lt_of_le V_o16.lt (Nat.le_of_eq g7.symm)))).lt (Nat.le_of_eq g18.symm)))).other W20 (Nat.ne_of_lt (Nat.lt_of_lt_of_le (((((((((((V_o16.ext E7).other W8 (Nat.ne_of_lt (Nat.lt_of_lt_of_le V_o16.lt (Nat.le_of_eq g7.symm)))).other W9 (Nat.ne_of_lt (Nat.lt_of_lt_of_le V_o16.lt (Nat.le_of_eq g7.symm)))).other W10 (Nat.ne_of_lt (Nat.lt_of_lt_of_le V_o16.lt (Nat.le_of_eq g7.symm)))).other W11 (Nat.ne_of_lt (Nat.lt_of_lt_of_le V_o16.lt (Nat.le_of_eq g7.symm)))).other W12 (Nat.ne_of_lt (Nat.lt_of_lt_of_le V_o16.lt (Nat.le_of_eq g7.symm)))).other W13 (Nat.ne_of_lt (Nat.lt_of_lt_of_le V_o16.lt (Nat.le_of_eq g7.symm)))).other W14 (Nat.ne_of_lt (Nat.lt_of_lt_of_le V_o16.lt (Nat.le_of_eq g7.symm)))).other W15 (Nat.ne_of_lt (Nat.lt_of_lt_of_le V_o16.lt (Nat.le_of_eq g7.symm)))).other W16 (Nat.ne_of_lt (Nat.lt_of_lt_of_le V_o16.lt (Nat.le_of_eq g7.symm)))).other W17 (Nat.ne_of_lt (Nat.lt_of_lt_of_le V_o16.lt (Nat.le_of_eq g7.symm)))).lt (Nat.le_of_eq g18.symm)))).other W21 (Nat.ne_of_lt (Nat.lt_of_lt_of_le (((((((((((V_o16.ext E7).other W8 (Nat.ne_of_lt (Nat.lt_of_lt_of_le V_o16.lt (Nat.le_of_eq g7.symm)))).other W9 (Nat.ne_of_lt (Nat.lt_of_lt_of_le V_o16.lt (Nat.le_of_eq g7.symm)))).other W10 (Nat.ne_of_lt (Nat.lt_of_lt_of_le V_o16.lt (Nat.le_of_eq g7.symm)))).other W11 (Nat.ne_of_lt (Nat.lt_of_lt_of_le V_o16.lt (Nat.le_of_eq g7.symm)))).other W12 (Nat.ne_of_lt (Nat.lt_of_lt_of_le V_o16.lt (Nat.le_of_eq g7.symm)))).other W13 (Nat.ne_of_lt (Nat.lt_of_lt_of_le V_o16.lt (Nat.le_of_eq g7.symm)))).other W14 (Nat.ne_of_lt (Nat.lt_of_lt_of_le V_o16.lt (Nat.le_of_eq g7.symm)))).other W15 (Nat.ne_of_lt (Nat.lt_of_lt_of_le V_o16.lt (Nat.le_of_eq g7.symm)))).other W16 (Nat.ne_of_lt (Nat.lt_of_lt_of_le V_o16.lt (Nat.le_of_eq g7.symm)))).other W17 (Nat.ne_of_lt (Nat.lt_of_lt_of_le V_o16.lt (Nat.le_of_eq g7.symm)))).lt (Nat.le_of_eq g18.symm)))).other W22 (Nat.ne_of_lt (Nat.lt_of_lt_of_le (((((((((((V_o16.ext E7).other W8 (Nat.ne_of_lt (Nat.lt_of_lt_of_le V_o16.lt (Nat.le_of_eq g7.symm)))).other W9 (Nat.ne_of_lt (Nat.lt_of_lt_of_le V_o16.lt (Nat.le_of_eq g7.symm)))).other W10 (Nat.ne_of_lt (Nat.lt_of_lt_of_le V_o16.lt (Nat.le_of_eq g7.symm)))).other W11 (Nat.ne_of_lt (Nat.lt_of_lt_of_le V_o16.lt (Nat.le_of_eq g7.symm)))).other W12 (Nat.ne_of_lt (Nat.lt_of_lt_of_le V_o16.lt (Nat.le_of_eq g7.symm)))).other W13 (Nat.ne_of_lt (Nat.lt_of_lt_of_le V_o16.lt (Nat.le_of_eq g7.symm)))).other W14 (Nat.ne_of_lt (Nat.lt_of_lt_of_le V_o16.lt (Nat.le_of_eq g7.symm)))).other W15 (Nat.ne_of_lt (Nat.lt_of_lt_of_le V_o16.lt (Nat.le_of_eq g7.symm)))).other W16 (Nat.ne_of_lt (Nat.lt_of_lt_of_le V_o16.lt (Nat.le_of_eq g7.symm)))).other W17 (Nat.ne_of_lt (Nat.lt_of_lt_of_le V_o16.lt (Nat.le_of_eq g7.symm)))).lt (Nat.le_of_eq g18.symm)))).other W23 (Nat.ne_of_lt (Nat.lt_of_lt_of_le (((((((((((V_o16.ext E7).other W8 (Nat.ne_of_lt (Nat.lt_of_lt_of_le V_o16.lt (Nat.le_of_eq g7.symm)))).other W9 (Nat.ne_of_lt (Nat.lt_of_lt_of_le V_o16.lt (Nat.le_of_eq g7.symm)))).other W10 (Nat.ne_of_lt (Nat.lt_of_lt_of_le V_o16.lt (Nat.le_of_eq g7.symm)))).other W11 (Nat.ne_of_lt (Nat.lt_of_lt_of_le V_o16.lt (Nat.le_of_eq g7.symm)))).other W12 (Nat.ne_of_lt (Nat.lt_of_lt_of_le V_o16.lt (Nat.le_of_eq g7.symm)))).other W13 (Nat.ne_of_lt (Nat.lt_of_lt_of_le V_o16.lt (Nat.le_of_eq g7.symm)))).other W14 (Nat.ne_of_lt (Nat.lt_of_lt_of_le V_o16.lt (Nat.le_of_eq g7.symm)))).other W15 (Nat.ne_of_lt (Nat.lt_of_lt_of_le V_o16.lt (Nat.le_of_eq g7.symm)))).other W16 (Nat.ne_of_lt (Nat.lt_of_lt_of_le V_o16.lt (Nat.le_of_eq g7.symm)))).other W17 (Nat.ne_of_lt (Nat.lt_of_lt_of_le V_o16.lt (Nat.le_of_eq g7.symm)))).lt (Nat.le_of_eq g18.symm)))).other W24 (Nat.ne_of_lt (Nat.lt_of_lt_of_le (((((((((((V_o16.ext E7).other W8 (Nat.ne_of_lt (Nat.lt_of_lt_of_le V_o16.lt (Nat.le_of_eq g7.symm)))).other W9 (Nat.ne_of_lt (Nat.lt_of_lt_of_le V_o16.lt (Nat.le_of_eq g7.symm)))).other W10 (Nat.ne_of_lt (Nat.lt_of_lt_of_le V_o16.lt (Nat.le_of_eq g7.symm)))).other W11 (Nat.ne_of_lt (Nat.lt_of_lt_of_le V_o16.lt (Nat.le_of_eq g7.symm)))).other W12 (Nat.ne_of_lt (Nat.lt_of_lt_of_le V_o16.lt (Nat.le_of_eq g7.symm)))).other W13 (Nat.ne_of_lt (Nat.lt_of_lt_of_le V_o16.lt (Nat.le_of_eq g7.symm)))).other W14 (Nat.ne_of_lt (Nat.lt_of_lt_of_le V_o16.lt (Nat.le_of_eq g7.symm)))).other W15 (Nat.ne_of_lt (Nat.lt_of_lt_of_le V_o16.lt (Nat.le_of_eq g7.symm)))).other W16 (Nat.ne_of_lt (Nat.lt_of_lt_of_le V_o16.lt (Nat.le_of_eq g7.symm)))).other W17 (Nat.ne_of_lt (Nat.lt_of_lt_of_le V_o16.lt (Nat.le_of_eq g7.symm)))).lt (Nat.le_of_eq g18.symm)))).lt (Nat.le_of_eq g25.symm)))).other W28 (Nat.ne_of_lt (Nat.lt_of_lt_of_le ((((((((((((((((((V_o16.ext E7).other W8 (Nat.ne_of_lt (Nat.lt_of_lt_of_le V_o16.lt (Nat.le_of_eq g7.symm)))).other W9 (Nat.ne_of_lt (Nat.lt_of_lt_of_le V_o16.lt (Nat.le_of_eq g7.symm)))).other W10 (Nat.ne_of_lt (Nat.lt_of_lt_of_le V_o16.lt (Nat.le_of_eq g7.symm)))).other W11 (Nat.ne_of_lt (Nat.lt_of_lt_of_le V_o16.lt (Nat.le_of_eq g7.symm)))).other W12 (Nat.ne_of_lt (Nat.lt_of_lt_of_le V_o16.lt (Nat.le_of_eq g7.symm)))).other W13 (Nat.ne_of_lt (Nat.lt_of_lt_of_le V_o16.lt (Nat.le_of_eq g7.symm)))).other W14 (Nat.ne_of_lt (Nat.lt_of_lt_of_le V_o16.lt (Nat.le_of_eq g7.symm)))).other W15 (Nat.ne_of_lt (Nat.lt_of_lt_of_le V_o16.lt (Nat.le_of_eq g7.symm)))).other W16 (Nat.ne_of_lt (Nat.lt_of_lt_of_le V_o16.lt (Nat.le_of_eq g7.symm)))).other W17 (Nat.ne_of_lt (Nat.lt_of_lt_of_le V_o16.lt (Nat.le_of_eq g7.symm)))).ext E18).other W19 (Nat.ne_of_lt (Nat.lt_of_lt_of_le (((((((((((V_o16.ext E7).other W8 (Nat.ne_of_lt (Nat.lt_of_lt_of_le V_o16.lt (Nat.le_of_eq g7.symm)))).other W9 (Nat.ne_of_lt (Nat.lt_of_lt_of_le V_o16.lt (Nat.le_of_eq g7.symm)))).other W10 (Nat.ne_of_lt (Nat.lt_of_lt_of_le V_o16.lt (Nat.le_of_eq g7.symm)))).other W11 (Nat.ne_of_lt (Nat.lt_of_lt_of_le V_o16.lt (Nat.le_of_eq g7.symm)))).other W12 (Nat.ne_of_lt (Nat.lt_of_lt_of_le V_o16.lt (Nat.le_of_eq g7.symm)))).other W13 (Nat.ne_of_lt (Nat.lt_of_lt_of_le V_o16.lt (Nat.le_of_eq g7.symm)))).other W14 (Nat.ne_of_lt (Nat.lt_of_lt_of_le V_o16.lt (Nat.le_of_eq g7.symm)))).other W15 (Nat.ne_of_lt (Nat.lt_of_lt_of_le V_o16.lt (Nat.le_of_eq g7.symm)))).other W16 (Nat.ne_of_lt (Nat.lt_of_lt_of_le V_o16.lt (Nat.le_of_eq g7.symm)))).other W17 (Nat.ne_of_lt (Nat.lt_of_lt_of_le V_o16.lt (Nat.le_of_eq g7.symm)))).lt (Nat.le_of_eq g18.symm)))).other W20 (Nat.ne_of_lt (Nat.lt_of_lt_of_le (((((((((((V_o16.ext E7).other W8 (Nat.ne_of_lt (Nat.lt_of_lt_of_le V_o16.lt (Nat.le_of_eq g7.symm)))).other W9 (Nat.ne_of_lt (Nat.lt_of_lt_of_le V_o16.lt (Nat.le_of_eq g7.symm)))).other W10 (Nat.ne_of_lt (Nat.lt_of_lt_of_le V_o16.lt (Nat.le_of_eq g7.symm)))).other W11 (Nat.ne_of_lt (Nat.lt_of_lt_of_le V_o16.lt (Nat.le_of_eq g7.symm)))).other W12 (Nat.ne_of_lt (Nat.lt_of_lt_of_le V_o16.lt (Nat.le_of_eq g7.symm)))).other W13 (Nat.ne_of_lt (Nat.lt_of_lt_of_le V_o16.lt (Nat.le_of_eq g7.symm)))).other W14 (Nat.ne_of_lt (Nat.lt_of_lt_of_le V_o16.lt (Nat.le_of_eq g7.symm)))).other W15 (Nat.ne_of_lt (Nat.lt_of_lt_of_le V_o16.lt (Nat.le_of_eq g7.symm)))).other W16 (Nat.ne_of_lt (Nat.lt_of_lt_of_le V_o16.lt (Nat.le_of_eq g7.symm)))).other W17 (Nat.ne_of_lt (Nat.lt_of_lt_of_le V_o16.lt (Nat.le_of_eq g7.symm)))).lt (Nat.le_of_eq g18.symm)))).other W21 (Nat.ne_of_lt (Nat.lt_of_lt_of_le (((((((((((V_o16.ext E7).other W8 (Nat.ne_of_lt (Nat.lt_of_lt_of_le V_o16.lt (Nat.le_of_eq g7.symm)))).other W9 (Nat.ne_of_lt (Nat.lt_of_lt_of_le V_o16.lt (Nat.le_of_eq g7.symm)))).other W10 (Nat.ne_of_lt (Nat.lt_of_lt_of_le V_o16.lt (Nat.le_of_eq g7.symm)))).other W11 (Nat.ne_of_lt (Nat.lt_of_lt_of_le V_o16.lt (Nat.le_of_eq g7.symm)))).other W12 (Nat.ne_of_lt (Nat.lt_of_lt_of_le V_o16.lt (Nat.le_of_eq g7.symm)))).other W13 (Nat.ne_of_lt (Nat.lt_of_lt_of_le V_o16.lt (Nat.le_of_eq g7.symm)))).other W14 (Nat.ne_of_lt (Nat.lt_of_lt_of_le V_o16.lt (Nat.le_of_eq g7.symm)))).other W15 (Nat.ne_of_lt (Nat.lt_of_lt_of_le V_o16.lt (Nat.le_of_eq g7.symm)))).other W16 (Nat.ne_of_lt (Nat.lt_of_lt_of_le V_o16.lt (Nat.le_of_eq g7.symm)))).other W17 (Nat.ne_of_lt (Nat.lt_of_lt_of_le V_o16.lt (Nat.le_of_eq g7.symm)))).lt (Nat.le_of_eq g18.symm)))).other W22 (Nat.ne_of_lt (Nat.lt_of_lt_of_le (((((((((((V_o16.ext E7).other W8 (Nat.ne_of_lt (Nat.lt_of_lt_of_le V_o16.lt (Nat.le_of_eq g7.symm)))).other W9 (Nat.ne_of_lt (Nat.lt_of_lt_of_le V_o16.lt (Nat.le_of_eq g7.symm)))).other W10 (Nat.ne_of_lt (Nat.lt_of_lt_of_le V_o16.lt (Nat.le_of_eq g7.symm)))).other W11 (Nat.ne_of_lt (Nat.lt_of_lt_of_le V_o16.lt (Nat.le_of_eq g7.symm)))).other W12 (Nat.ne_of_lt (Nat.lt_of_lt_of_le V_o16.lt (Nat.le_of_eq g7.symm)))).other W13 (Nat.ne_of_lt (Nat.lt_of_lt_of_le V_o16.lt (Nat.le_of_eq g7.symm)))).other W14 (Nat.ne_of_lt (Nat.lt_of_lt_of_le V_o16.lt (Nat.le_of_eq g7.symm)))).other W15 (Nat.ne_of_lt (Nat.lt_of_lt_of_le V_o16.lt (Nat.le_of_eq g7.symm)))).other W16 (Nat.ne_of_lt (Nat.lt_of_lt_of_le V_o16.lt (Nat.le_of_eq g7.symm)))).other W17 (Nat.ne_of_lt (Nat.lt_of_lt_of_le V_o16.lt (Nat.le_of_eq g7.symm)))).lt (Nat.le_of_eq g18.symm)))).other W23 (Nat.ne_of_lt (Nat.lt_of_lt_of_le (((((((((((V_o16.ext E7).other W8 (Nat.ne_of_lt (Nat.lt_of_lt_of_le V_o16.lt (Nat.le_of_eq g7.symm)))).other W9 (Nat.ne_of_lt (Nat.lt_of_lt_of_le V_o16.lt (Nat.le_of_eq g7.symm)))).other W10 (Nat.ne_of_lt (Nat.lt_of_lt_of_le V_o16.lt (Nat.le_of_eq g7.symm)))).other W11 (Nat.ne_of_lt (Nat.lt_of_lt_of_le V_o16.lt (Nat.le_of_eq g7.symm)))).other W12 (Nat.ne_of_lt (Nat.lt_of_lt_of_le V_o16.lt (Nat.le_of_eq g7.symm)))).other W13 (Nat.ne_of_lt (Nat.lt_of_lt_of_le V_o16.lt (Nat.le_of_eq g7.symm)))).other W14 (Nat.ne_of_lt (Nat.lt_of_lt_of_le V_o16.lt (Nat.le_of_eq g7.symm)))).other W15 (Nat.ne_of_lt (Nat.lt_of_lt_of_le V_o16.lt (Nat.le_of_eq g7.symm)))).other W16 (Nat.ne_of_lt (Nat.lt_of_lt_of_le V_o16.lt (Nat.le_of_eq g7.symm)))).other W17 (Nat.ne_of_lt (Nat.lt_of_lt_of_le V_o16.lt (Nat.le_of_eq g7.symm)))).lt (Nat.le_of_eq g18.symm)))).other W24 (Nat.ne_of_lt (Nat.lt_of_lt_of_le (((((((((((V_o16.ext E7).other W8 (Nat.ne_of_lt (Nat.lt_of_lt_of_le V_o16.lt (Nat.le_of_eq g7.symm)))).other W9 (Nat.ne_of_lt (Nat.lt_of_lt_of_le V_o16.lt (Nat.le_of_eq g7.symm)))).other W10 (Nat.ne_of_lt (Nat.lt_of_lt_of_le V_o16.lt (Nat.le_of_eq g7.symm)))).other W11 (Nat.ne_of_lt (Nat.lt_of_lt_of_le V_o16.lt (Nat.le_of_eq g7.symm)))).other W12 (Nat.ne_of_lt (Nat.lt_of_lt_of_le V_o16.lt (Nat.le_of_eq g7.symm)))).other W13 (Nat.ne_of_lt (Nat.lt_of_lt_of_le V_o16.lt (Nat.le_of_eq g7.symm)))).other W14 (Nat.ne_of_lt (Nat.lt_of_lt_of_le V_o16.lt (Nat.le_of_eq g7.symm)))).other W15 (Nat.ne_of_lt (Nat.lt_of_lt_of_le V_o16.lt (Nat.le_of_eq g7.symm)))).other W16 (Nat.ne_of_lt (Nat.lt_of_lt_of_le V_o16.lt (Nat.le_of_eq g7.symm)))).other W17 (Nat.ne_of_lt (Nat.lt_of_lt_of_le V_o16.lt (Nat.le_of_eq g7.symm)))).lt (Nat.le_of_eq g18.symm)))).lt (Nat.le_of_eq g25.symm)))).other W29 (Nat.ne_of_lt (Nat.lt_of_lt_of_le ((((((((((((((((((V_o16.ext E7).other W8 (Nat.ne_of_lt (Nat.lt_of_lt_of_le V_o16.lt (Nat.le_of_eq g7.symm)))).other W9 (Nat.ne_of_lt (Nat.lt_of_lt_of_le V_o16.lt (Nat.le_of_eq g7.symm)))).other W10 (Nat.ne_of_lt (Nat.lt_of_lt_of_le V_o16.lt (Nat.le_of_eq g7.symm)))).other W11 (Nat.ne_of_lt (Nat.lt_of_lt_of_le V_o16.lt (Nat.le_of_eq g7.symm)))).other W12 (Nat.ne_of_lt (Nat.lt_of_lt_of_le V_o16.lt (Nat.le_of_eq g7.symm)))).other W13 (Nat.ne_of_lt (Nat.lt_of_lt_of_le V_o16.lt (Nat.le_of_eq g7.symm)))).other W14 (Nat.ne_of_lt (Nat.lt_of_lt_of_le V_o16.lt (Nat.le_of_eq g7.symm)))).other W15 (Nat.ne_of_lt (Nat.lt_of_lt_of_le V_o16.lt (Nat.le_of_eq g7.symm)))).other W16 (Nat.ne_of_lt (Nat.lt_of_lt_of_le V_o16.lt (Nat.le_of_eq g7.symm)))).other W17 (Nat.ne_of_lt (Nat.lt_of_lt_of_le V_o16.lt (Nat.le_of_eq g7.symm)))).ext E18).other W19 (Nat.ne_of_lt (Nat.lt_of_lt_of_le (((((((((((V_o16.ext E7).other W8 (Nat.ne_of_lt (Nat.lt_of_lt_of_le V_o16.lt (Nat.le_of_eq g7.symm)))).other W9 (Nat.ne_of_lt (Nat.lt_of_lt_of_le V_o16.lt (Nat.le_of_eq g7.symm)))).other W10 (Nat.ne_of_lt (Nat.lt_of_lt_of_le V_o16.lt (Nat.le_of_eq g7.symm)))).other W11 (Nat.ne_of_lt (Nat.lt_of_lt_of_le V_o16.lt (Nat.le_of_eq g7.symm)))).other W12 (Nat.ne_of_lt (Nat.lt_of_lt_of_le V_o16.lt (Nat.le_of_eq g7.symm)))).other W13 (Nat.ne_of_lt (Nat.lt_of_lt_of_le V_o16.lt (Nat.le_of_eq g7.symm)))).other W14 (Nat.ne_of_lt (Nat.lt_of_lt_of_le V_o16.lt (Nat.le_of_eq g7.symm)))).other W15 (Nat.ne_of_lt (Nat.lt_of_lt_of_le V_o16.lt (Nat.le_of_eq g7.symm)))).other W16 (Nat.ne_of_lt (Nat.lt_of_lt_of_le V_o16.lt (Nat.le_of_eq g7.symm)))).other W17 (Nat.ne_of_lt (Nat.lt_of_lt_of_le V_o16.lt (Nat.le_of_eq g7.symm)))).lt (Nat.le_of_eq g18.symm)))).other W20 (Nat.ne_of_lt (Nat.lt_of_lt_of_le (((((((((((V_o16.ext E7).other W8 (Nat.ne_of_lt (Nat.lt_of_lt_of_le V_o16.lt (Nat.le_of_eq g7.symm)))).other W9 (Nat.ne_of_lt (Nat.lt_of_lt_of_le V_o16.lt (Nat.le_of_eq g7.symm)))).other W10 (Nat.ne_of_lt (Nat.lt_of_lt_of_le V_o16.lt (Nat.le_of_eq g7.symm)))).other W11 (Nat.ne_of_lt (Nat.lt_of_lt_of_le V_o16.lt (Nat.le_of_eq g7.symm)))).other W12 (Nat.ne_of_lt (Nat.lt_of_lt_of_le V_o16.lt (Nat.le_of_eq g7.symm)))).other W13 (Nat.ne_of_lt (Nat.lt_of_lt_of_le V_o16.lt (Nat.le_of_eq g7.symm)))).other W14 (Nat.ne_of_lt (Nat.lt_of_lt_of_le V_o16.lt (Nat.le_of_eq g7.symm)))).other W15 (Nat.ne_of_lt (Nat.lt_of_lt_of_le V_o16.lt (Nat.le_of_eq g7.symm)))).other W16 (Nat.ne_of_lt (Nat.lt_of_lt_of_le V_o16.lt (Nat.le_of_eq g7.symm)))).other W17 (Nat.ne_of_lt (Nat.lt_of_lt_of_le V_o16.lt (Nat.le_of_eq g7.symm)))).lt (Nat.le_of_eq g18.symm)))).other W21 (Nat.ne_of_lt (Nat.lt_of_lt_of_le (((((((((((V_o16.ext E7).other W8 (Nat.ne_of_lt (Nat.lt_of_lt_of_le V_o16.lt (Nat.le_of_eq g7.symm)))).other W9 (Nat.ne_of_lt (Nat.lt_of_lt_of_le V_o16.lt (Nat.le_of_eq g7.symm)))).other W10 (Nat.ne_of_lt (Nat.lt_of_lt_of_le V_o16.lt (Nat.le_of_eq g7.symm)))).other W11 (Nat.ne_of_lt (Nat.lt_of_lt_of_le V_o16.lt (Nat.le_of_eq g7.symm)))).other W12 (Nat.ne_of_lt (Nat.lt_of_lt_of_le V_o16.lt (Nat.le_of_eq g7.symm)))).other W13 (Nat.ne_of_lt (Nat.lt_of_lt_of_le V_o16.lt (Nat.le_of_eq g7.symm)))).other W14 (Nat.ne_of_lt (Nat.lt_of_lt_of_le V_o16.lt (Nat.le_of_eq g7.symm)))).other W15 (Nat.ne_of_lt (Nat.lt_of_lt_of_le V_o16.lt (Nat.le_of_eq g7.symm)))).other W16 (Nat.ne_of_lt (Nat.lt_of_lt_of_le V_o16.lt (Nat.le_of_eq g7.symm)))).other W17 (Nat.ne_of_lt (Nat.lt_of_lt_of_le V_o16.lt (Nat.le_of_eq g7.symm)))).lt (Nat.le_of_eq g18.symm)))).other W22 (Nat.ne_of_lt (Nat.lt_of_lt_of_le (((((((((((V_o16.ext E7).other W8 (Nat.ne_of_lt (Nat.lt_of_lt_of_le V_o16.lt (Nat.le_of_eq g7.symm)))).other W9 (Nat.ne_of_lt (Nat.lt_of_lt_of_le V_o16.lt (Nat.le_of_eq g7.symm)))).other W10 (Nat.ne_of_lt (Nat.lt_of_lt_of_le V_o16.lt (Nat.le_of_eq g7.symm)))).other W11 (Nat.ne_of_lt (Nat.lt_of_lt_of_le V_o16.lt (Nat.le_of_eq g7.symm)))).other W12 (Nat.ne_of_lt (Nat.lt_of_lt_of_le V_o16.lt (Nat.le_of_eq g7.symm)))).other W13 (Nat.ne_of_lt (Nat.lt_of_lt_of_le V_o16.lt (Nat.le_of_eq g7.symm)))).other W14 (Nat.ne_of_lt (Nat.lt_of_lt_of_le V_o16.lt (Nat.le_of_eq g7.symm)))).other W15 (Nat.ne_of_lt (Nat.lt_of_lt_of_le V_o16.lt (Nat.le_of_eq g7.symm)))).other W16 (Nat.ne_of_lt (Nat.lt_of_lt_of_le V_o16.lt (Nat.le_of_eq g7.symm)))).other W17 (Nat.ne_of_lt (Nat.lt_of_lt_of_le V_o16.lt (Nat.le_of_eq g7.symm)))).lt (Nat.le_of_eq g18.symm)))).other W23 (Nat.ne_of_lt (Nat.lt_of_lt_of_le (((((((((((V_o16.ext E7).other W8 (Nat.ne_of_lt (Nat.lt_of_lt_of_le V_o16.lt (Nat.le_of_eq g7.symm)))).other W9 (Nat.ne_of_lt (Nat.lt_of_lt_of_le V_o16.lt (Nat.le_of_eq g7.symm)))).other W10 (Nat.ne_of_lt (Nat.lt_of_lt_of_le V_o16.lt (Nat.le_of_eq g7.symm)))).other W11 (Nat.ne_of_lt (Nat.lt_of_lt_of_le V_o16.lt (Nat.le_of_eq g7.symm)))).other W12 (Nat.ne_of_lt (Nat.lt_of_lt_of_le V_o16.lt (Nat.le_of_eq g7.symm)))).other W13 (Nat.ne_of_lt (Nat.lt_of_lt_of_le V_o16.lt (Nat.le_of_eq g7.symm)))).other W14 (Nat.ne_of_lt (Nat.lt_of_lt_of_le V_o16.lt (Nat.le_of_eq g7.symm)))).other W15 (Nat.ne_of_lt (Nat.lt_of_lt_of_le V_o16.lt (Nat.le_of_eq g7.symm)))).other W16 (Nat.ne_of_lt (Nat.lt_of_lt_of_le V_o16.lt (Nat.le_of_eq g7.symm)))).other W17 (Nat.ne_of_lt (Nat.lt_of_lt_of_le V_o16.lt (Nat.le_of_eq g7.symm)))).lt (Nat.le_of_eq g18.symm)))).other W24 (Nat.ne_of_lt (Nat.lt_of_lt_of_le (((((((((((V_o16.ext E7).other W8 (Nat.ne_of_lt (Nat.lt_of_lt_of_le V_o16.lt (Nat.le_of_eq g7.symm)))).other W9 (Nat.ne_of_lt (Nat.lt_of_lt_of_le V_o16.lt (Nat.le_of_eq g7.symm)))).other W10 (Nat.ne_of_lt (Nat.lt_of_lt_of_le V_o16.lt (Nat.le_of_eq g7.symm)))).other W11 (Nat.ne_of_lt (Nat.lt_of_lt_of_le V_o16.lt (Nat.le_of_eq g7.symm)))).other W12 (Nat.ne_of_lt (Nat.lt_of_lt_of_le V_o16.lt (Nat.le_of_eq g7.symm)))).other W13 (Nat.ne_of_lt (Nat.lt_of_lt_of_le V_o16.lt (Nat.le_of_eq g7.symm)))).other W14 (Nat.ne_of_lt (Nat.lt_of_lt_of_le V_o16.lt (Nat.le_of_eq g7.symm)))).other W15 (Nat.ne_of_lt (Nat.lt_of_lt_of_le V_o16.lt (Nat.le_of_eq g7.symm)))).other W16 (Nat.ne_of_lt (Nat.lt_of_lt_of_le V_o16.lt (Nat.le_of_eq g7.symm)))).other W17 (Nat.ne_of_lt (Nat.lt_of_lt_of_le V_o16.lt (Nat.le_of_eq g7.symm)))).lt (Nat.le_of_eq g18.symm)))).lt (Nat.le_of_eq g25.symm)))).other W30 (Nat.ne_of_lt (Nat.lt_of_lt_of_le ((((((((((((((((((V_o16.ext E7).other W8 (Nat.ne_of_lt (Nat.lt_of_lt_of_le V_o16.lt (Nat.le_of_eq g7.symm)))).other W9 (Nat.ne_of_lt (Nat.lt_of_lt_of_le V_o16.lt (Nat.le_of_eq g7.symm)))).other W10 (Nat.ne_of_lt (Nat.lt_of_lt_of_le V_o16.lt (Nat.le_of_eq g7.symm)))).other W11 (Nat.ne_of_lt (Nat.lt_of_lt_of_le V_o16.lt (Nat.le_of_eq g7.symm)))).other W12 (Nat.ne_of_lt (Nat.lt_of_lt_of_le V_o16.lt (Nat.le_of_eq g7.symm)))).other W13 (Nat.ne_of_lt (Nat.lt_of_lt_of_le V_o16.lt (Nat.le_of_eq g7.symm)))).other W14 (Nat.ne_of_lt (Nat.lt_of_lt_of_le V_o16.lt (Nat.le_of_eq g7.symm)))).other W15 (Nat.ne_of_lt (Nat.lt_of_lt_of_le V_o16.lt (Nat.le_of_eq g7.symm)))).other W16 (Nat.ne_of_lt (Nat.lt_of_lt_of_le V_o16.lt (Nat.le_of_eq g7.symm)))).other W17 (Nat.ne_of_lt (Nat.lt_of_lt_of_le V_o16.lt (Nat.le_of_eq g7.symm)))).ext E18).other W19 (Nat.ne_of_lt (Nat.lt_of_lt_of_le (((((((((((V_o16.ext E7).other W8 (Nat.ne_of_lt (Nat.lt_of_lt_of_le V_o16.lt (Nat.le_of_eq g7.symm)))).other W9 (Nat.ne_of_lt (Nat.lt_of_lt_of_le V_o16.lt (Nat.le_of_eq g7.symm)))).other W10 (Nat.ne_of_lt (Nat.lt_of_lt_of_le V_o16.lt (Nat.le_of_eq g7.symm)))).other W11 (Nat.ne_of_lt (Nat.lt_of_lt_of_le V_o16.lt (Nat.le_of_eq g7.symm)))).other W12 (Nat.ne_of_lt (Nat.lt_of_lt_of_le V_o16.lt (Nat.le_of_eq g7.symm)))).other W13 (Nat.ne_of_lt (Nat.lt_of_lt_of_le V_o16.lt (Nat.le_of_eq g7.symm)))).other W14 (Nat.ne_of_lt (Nat.lt_of_lt_of_le V_o16.lt (Nat.le_of_eq g7.symm)))).other W15 (Nat.ne_of_lt (Nat.lt_of_lt_of_le V_o16.lt (Nat.le_of_eq g7.symm)))).other W16 (Nat.ne_of_lt (Nat.lt_of_lt_of_le V_o16.lt (Nat.le_of_eq g7.symm)))).other W17 (Nat.ne_of_lt (Nat.lt_of_lt_of_le V_o16.lt (Nat.le_of_eq g7.symm)))).lt (Nat.le_of_eq g18.symm)))).other W20 (Nat.ne_of_lt (Nat.lt_of_lt_of_le (((((((((((V_o16.ext E7).other W8 (Nat.ne_of_lt (Nat.lt_of_lt_of_le V_o16.lt (Nat.le_of_eq g7.symm)))).other W9 (Nat.ne_of_lt (Nat.lt_of_lt_of_le V_o16.lt (Nat.le_of_eq g7.symm)))).other W10 (Nat.ne_of_lt (Nat.lt_of_lt_of_le V_o16.lt (Nat.le_of_eq g7.symm)))).other W11 (Nat.ne_of_lt (Nat.lt_of_lt_of_le V_o16.lt (Nat.le_of_eq g7.symm)))).other W12 (Nat.ne_of_lt (Nat.lt_of_lt_of_le V_o16.lt (Nat.le_of_eq g7.symm)))).other W13 (Nat.ne_of_lt (Nat.lt_of_lt_of_le V_o16.lt (Nat.le_of_eq g7.symm)))).other W14 (Nat.ne_of_lt (Nat.lt_of_lt_of_le V_o16.lt (Nat.le_of_eq g7.symm)))).other W15 (Nat.ne_of_lt (Nat.lt_of_lt_of_le V_o16.lt (Nat.le_of_eq g7.symm)))).other W16 (Nat.ne_of_lt (Nat.lt_of_lt_of_le V_o16.lt (Nat.le_of_eq g7.symm)))).other W17 (Nat.ne_of_lt (Nat.lt_of_lt_of_le V_o16.lt (Nat.le_of_eq g7.symm)))).lt (Nat.le_of_eq g18.symm)))).other W21 (Nat.ne_of_lt (Nat.lt_of_lt_of_le (((((((((((V_o16.ext E7).other W8 (Nat.ne_of_lt (Nat.lt_of_lt_of_le V_o16.lt (Nat.le_of_eq g7.symm)))).other W9 (Nat.ne_of_lt (Nat.lt_of_lt_of_le V_o16.lt (Nat.le_of_eq g7.symm)))).other W10 (Nat.ne_of_lt (Nat.lt_of_lt_of_le V_o16.lt (Nat.le_of_eq g7.symm)))).other W11 (Nat.ne_of_lt (Nat.lt_of_lt_of_le V_o16.lt (Nat.le_of_eq g7.symm)))).other W12 (Nat.ne_of_lt (Nat.lt_of_lt_of_le V_o16.lt (Nat.le_of_eq g7.symm)))).other W13 (Nat.ne_of_lt (Nat.lt_of_lt_of_le V_o16.lt (Nat.le_of_eq g7.symm)))).other W14 (Nat.ne_of_lt (Nat.lt_of_lt_of_le V_o16.lt (Nat.le_of_eq g7.symm)))).other W15 (Nat.ne_of_lt (Nat.lt_of_lt_of_le V_o16.lt (Nat.le_of_eq g7.symm)))).other W16 (Nat.ne_of_lt (Nat.lt_of_lt_of_le V_o16.lt (Nat.le_of_eq g7.symm)))).other W17 (Nat.ne_of_lt (Nat.lt_of_lt_of_le V_o16.lt (Nat.le_of_eq g7.symm)))).lt (Nat.le_of_eq g18.symm)))).other W22 (Nat.ne_of_lt (Nat.lt_of_lt_of_le (((((((((((V_o16.ext E7).other W8 (Nat.ne_of_lt (Nat.lt_of_lt_of_le V_o16.lt (Nat.le_of_eq g7.symm)))).other W9 (Nat.ne_of_lt (Nat.lt_of_lt_of_le V_o16.lt (Nat.le_of_eq g7.symm)))).other W10 (Nat.ne_of_lt (Nat.lt_of_lt_of_le V_o16.lt (Nat.le_of_eq g7.symm)))).other W11 (Nat.ne_of_lt (Nat.lt_of_lt_of_le V_o16.lt (Nat.le_of_eq g7.symm)))).other W12 (Nat.ne_of_lt (Nat.lt_of_lt_of_le V_o16.lt (Nat.le_of_eq g7.symm)))).other W13 (Nat.ne_of_lt (Nat.lt_of_lt_of_le V_o16.lt (Nat.le_of_eq g7.symm)))).other W14 (Nat.ne_of_lt (Nat.lt_of_lt_of_le V_o16.lt (Nat.le_of_eq g7.symm)))).other W15 (Nat.ne_of_lt (Nat.lt_of_lt_of_le V_o16.lt (Nat.le_of_eq g7.symm)))).other W16 (Nat.ne_of_lt (Nat.lt_of_lt_of_le V_o16.lt (Nat.le_of_eq g7.symm)))).other W17 (Nat.ne_of_lt (Nat.lt_of_lt_of_le V_o16.lt (Nat.le_of_eq g7.symm)))).lt (Nat.le_of_eq g18.symm)))).other W23 (Nat.ne_of_lt (Nat.lt_of_lt_of_le (((((((((((V_o16.ext E7).other W8 (Nat.ne_of_lt (Nat.lt_of_lt_of_le V_o16.lt (Nat.le_of_eq g7.symm)))).other W9 (Nat.ne_of_lt (Nat.lt_of_lt_of_le V_o16.lt (Nat.le_of_eq g7.symm)))).other W10 (Nat.ne_of_lt (Nat.lt_of_lt_of_le V_o16.lt (Nat.le_of_eq g7.symm)))).other W11 (Nat.ne_of_lt (Nat.lt_of_lt_of_le V_o16.lt (Nat.le_of_eq g7.symm)))).other W12 (Nat.ne_of_lt (Nat.lt_of_lt_of_le V_o16.lt (Nat.le_of_eq g7.symm)))).other W13 (Nat.ne_of_lt (Nat.lt_of_lt_of_le V_o16.lt (Nat.le_of_eq g7.symm)))).other W14 (Nat.ne_of_lt (Nat.lt_of_lt_of_le V_o16.lt (Nat.le_of_eq g7.symm)))).other W15 (Nat.ne_of_lt (Nat.lt_of_lt_of_le V_o16.lt (Nat.le_of_eq g7.symm)))).other W16 (Nat.ne_of_lt (Nat.lt_of_lt_of_le V_o16.lt (Nat.le_of_eq g7.symm)))).other W17 (Nat.ne_of_lt (Nat.lt_of_lt_of_le V_o16.lt (Nat.le_of_eq g7.symm)))).lt (Nat.le_of_eq g18.symm)))).other W24 (Nat.ne_of_lt (Nat.lt_of_lt_of_le (((((((((((V_o16.ext E7).other W8 (Nat.ne_of_lt (Nat.lt_of_lt_of_le V_o16.lt (Nat.le_of_eq g7.symm)))).other W9 (Nat.ne_of_lt (Nat.lt_of_lt_of_le V_o16.lt (Nat.le_of_eq g7.symm)))).other W10 (Nat.ne_of_lt (Nat.lt_of_lt_of_le V_o16.lt (Nat.le_of_eq g7.symm)))).other W11 (Nat.ne_of_lt (Nat.lt_of_lt_of_le V_o16.lt (Nat.le_of_eq g7.symm)))).other W12 (Nat.ne_of_lt (Nat.lt_of_lt_of_le V_o16.lt (Nat.le_of_eq g7.symm)))).other W13 (Nat.ne_of_lt (Nat.lt_of_lt_of_le V_o16.lt (Nat.le_of_eq g7.symm)))).other W14 (Nat.ne_of_lt (Nat.lt_of_lt_of_le V_o16.lt (Nat.le_of_eq g7.symm)))).other W15 (Nat.ne_of_lt (Nat.lt_of_lt_of_le V_o16.lt (Nat.le_of_eq g7.symm)))).other W16 (Nat.ne_of_lt (Nat.lt_of_lt_of_le V_o16.lt (Nat.le_of_eq g7.symm)))).other W17 (Nat.ne_of_lt (Nat.lt_of_lt_of_le V_o16.lt (Nat.le_of_eq g7.symm)))).lt (Nat.le_of_eq g18.symm)))).lt (Nat.le_of_eq g25.symm)))).other W31 (Nat.ne_of_lt (Nat.lt_of_lt_of_le ((((((((((((((((((V_o16.ext E7).other W8 (Nat.ne_of_lt (Nat.lt_of_lt_of_le V_o16.lt (Nat.le_of_eq g7.symm)))).other W9 (Nat.ne_of_lt (Nat.lt_of_lt_of_le V_o16.lt (Nat.le_of_eq g7.symm)))).other W10 (Nat.ne_of_lt (Nat.lt_of_lt_of_le V_o16.lt (Nat.le_of_eq g7.symm)))).other W11 (Nat.ne_of_lt (Nat.lt_of_lt_of_le V_o16.lt (Nat.le_of_eq g7.symm)))).other W12 (Nat.ne_of_lt (Nat.lt_of_lt_of_le V_o16.lt (Nat.le_of_eq g7.symm)))).other W13 (Nat.ne_of_lt (Nat.lt_of_lt_of_le V_o16.lt (Nat.le_of_eq g7.symm)))).other W14 (Nat.ne_of_lt (Nat.lt_of_lt_of_le V_o16.lt (Nat.le_of_eq g7.symm)))).other W15 (Nat.ne_of_lt (Nat.lt_of_lt_of_le V_o16.lt (Nat.le_of_eq g7.symm)))).other W16 (Nat.ne_of_lt (Nat.lt_of_lt_of_le V_o16.lt (Nat.le_of_eq g7.symm)))).other W17 (Nat.ne_of_lt (Nat.lt_of_lt_of_le V_o16.lt (Nat.le_of_eq g7.symm)))).ext E18).other W19 (Nat.ne_of_lt (Nat.lt_of_lt_of_le (((((((((((V_o16.ext E7).other W8 (Nat.ne_of_lt (Nat.lt_of_lt_of_le V_o16.lt (Nat.le_of_eq g7.symm)))).other W9 (Nat.ne_of_lt (Nat.lt_of_lt_of_le V_o16.lt (Nat.le_of_eq g7.symm)))).other W10 (Nat.ne_of_lt (Nat.lt_of_lt_of_le V_o16.lt (Nat.le_of_eq g7.symm)))).other W11 (Nat.ne_of_lt (Nat.lt_of_lt_of_le V_o16.lt (Nat.le_of_eq g7.symm)))).other W12 (Nat.ne_of_lt (Nat.lt_of_lt_of_le V_o16.lt (Nat.le_of_eq g7.symm)))).other W13 (Nat.ne_of_lt (Nat.lt_of_lt_of_le V_o16.lt (Nat.le_of_eq g7.symm)))).other W14 (Nat.ne_of_lt (Nat.lt_of_lt_of_le V_o16.lt (Nat.le_of_eq g7.symm)))).other W15 (Nat.ne_of_lt (Nat.lt_of_lt_of_le V_o16.lt (Nat.le_of_eq g7.symm)))).other W16 (Nat.ne_of_lt (Nat.lt_of_lt_of_le V_o16.lt (Nat.le_of_eq g7.symm)))).other W17 (Nat.ne_of_lt (Nat.lt_of_lt_of_le V_o16.lt (Nat.le_of_eq g7.symm)))).lt (Nat.le_of_eq g18.symm)))).other W20 (Nat.ne_of_lt (Nat.lt_of_lt_of_le (((((((((((V_o16.ext E7).other W8 (Nat.ne_of_lt (Nat.lt_of_lt_of_le V_o16.lt (Nat.le_of_eq g7.symm)))).other W9 (Nat.ne_of_lt (Nat.lt_of_lt_of_le V_o16.lt (Nat.le_of_eq g7.symm)))).other W10 (Nat.ne_of_lt (Nat.lt_of_lt_of_le V_o16.lt (Nat.le_of_eq g7.symm)))).other W11 (Nat.ne_of_lt (Nat.lt_of_lt_of_le V_o16.lt (Nat.le_of_eq g7.symm)))).other W12 (Nat.ne_of_lt (Nat.lt_of_lt_of_le V_o16.lt (Nat.le_of_eq g7.symm)))).other W13 (Nat.ne_of_lt (Nat.lt_of_lt_of_le V_o16.lt (Nat.le_of_eq g7.symm)))).other W14 (Nat.ne_of_lt (Nat.lt_of_lt_of_le V_o16.lt (Nat.le_of_eq g7.symm)))).other W15 (Nat.ne_of_lt (Nat.lt_of_lt_of_le V_o16.lt (Nat.le_of_eq g7.symm)))).other W16 (Nat.ne_of_lt (Nat.lt_of_lt_of_le V_o16.lt (Nat.le_of_eq g7.symm)))).other W17 (Nat.ne_of_lt (Nat.lt_of_lt_of_le V_o16.lt (Nat.le_of_eq g7.symm)))).lt (Nat.le_of_eq g18.symm)))).other W21 (Nat.ne_of_lt (Nat.lt_of_lt_of_le (((((((((((V_o16.ext E7).other W8 (Nat.ne_of_lt (Nat.lt_of_lt_of_le V_o16.lt (Nat.le_of_eq g7.symm)))).other W9 (Nat.ne_of_lt (Nat.lt_of_lt_of_le V_o16.lt (Nat.le_of_eq g7.symm)))).other W10 (Nat.ne_of_lt (Nat.lt_of_lt_of_le V_o16.lt (Nat.le_of_eq g7.symm)))).other W11 (Nat.ne_of_lt (Nat.lt_of_lt_of_le V_o16.lt (Nat.le_of_eq g7.symm)))).other W12 (Nat.ne_of_lt (Nat.lt_of_lt_of_le V_o16.lt (Nat.le_of_eq g7.symm)))).other W13 (Nat.ne_of_lt (Nat.lt_of_lt_of_le V_o16.lt (Nat.le_of_eq g7.symm)))).other W14 (Nat.ne_of_lt (Nat.lt_of_lt_of_le V_o16.lt (Nat.le_of_eq g7.symm)))).other W15 (Nat.ne_of_lt (Nat.lt_of_lt_of_le V_o16.lt (Nat.le_of_eq g7.symm)))).other W16 (Nat.ne_of_lt (Nat.lt_of_lt_of_le V_o16.lt (Nat.le_of_eq g7.symm)))).other W17 (Nat.ne_of_lt (Nat.lt_of_lt_of_le V_o16.lt (Nat.le_of_eq g7.symm)))).lt (Nat.le_of_eq g18.symm)))).other W22 (Nat.ne_of_lt (Nat.lt_of_lt_of_le (((((((((((V_o16.ext E7).other W8 (Nat.ne_of_lt (Nat.lt_of_lt_of_le V_o16.lt (Nat.le_of_eq g7.symm)))).other W9 (Nat.ne_of_lt (Nat.lt_of_lt_of_le V_o16.lt (Nat.le_of_eq g7.symm)))).other W10 (Nat.ne_of_lt (Nat.lt_of_lt_of_le V_o16.lt (Nat.le_of_eq g7.symm)))).other W11 (Nat.ne_of_lt (Nat.lt_of_lt_of_le V_o16.lt (Nat.le_of_eq g7.symm)))).other W12 (Nat.ne_of_lt (Nat.lt_of_lt_of_le V_o16.lt (Nat.le_of_eq g7.symm)))).other W13 (Nat.ne_of_lt (Nat.lt_of_lt_of_le V_o16.lt (Nat.le_of_eq g7.symm)))).other W14 (Nat.ne_of_lt (Nat.lt_of_lt_of_le V_o16.lt (Nat.le_of_eq g7.symm)))).other W15 (Nat.ne_of_lt (Nat.lt_of_lt_of_le V_o16.lt (Nat.le_of_eq g7.symm)))).other W16 (Nat.ne_of_lt (Nat.lt_of_lt_of_le V_o16.lt (Nat.le_of_eq g7.symm)))).other W17 (Nat.ne_of_lt (Nat.lt_of_lt_of_le V_o16.lt (Nat.le_of_eq g7.symm)))).lt (Nat.le_of_eq g18.symm)))).other W23 (Nat.ne_of_lt (Nat.lt_of_lt_of_le (((((((((((V_o16.ext E7).other W8 (Nat.ne_of_lt (Nat.lt_of_lt_of_le V_o16.lt (Nat.le_of_eq g7.symm)))).other W9 (Nat.ne_of_lt (Nat.lt_of_lt_of_le V_o16.lt (Nat.le_of_eq g7.symm)))).other W10 (Nat.ne_of_lt (Nat.lt_of_lt_of_le V_o16.lt (Nat.le_of_eq g7.symm)))).other W11 (Nat.ne_of_lt (Nat.lt_of_lt_of_le V_o16.lt (Nat.le_of_eq g7.symm)))).other W12 (Nat.ne_of_lt (Nat.lt_of_lt_of_le V_o16.lt (Nat.le_of_eq g7.symm)))).other W13 (Nat.ne_of_lt (Nat.lt_of_lt_of_le V_o16.lt (Nat.le_of_eq g7.symm)))).other W14 (Nat.ne_of_lt (Nat.lt_of_lt_of_le V_o16.lt (Nat.le_of_eq g7.symm)))).other W15 (Nat.ne_of_lt (Nat.lt_of_lt_of_le V_o16.lt (Nat.le_of_eq g7.symm)))).other W16 (Nat.ne_of_lt (Nat.lt_of_lt_of_le V_o16.lt (Nat.le_of_eq g7.symm)))).other W17 (Nat.ne_of_lt (Nat.lt_of_lt_of_le V_o16.lt (Nat.le_of_eq g7.symm)))).lt (Nat.le_of_eq g18.symm)))).other W24 (Nat.ne_of_lt (Nat.lt_of_lt_of_le (((((((((((V_o16.ext E7).other W8 (Nat.ne_of_lt (Nat.lt_of_lt_of_le V_o16.lt (Nat.le_of_eq g7.symm)))).other W9 (Nat.ne_of_lt (Nat.lt_of_lt_of_le V_o16.lt (Nat.le_of_eq g7.symm)))).other W10 (Nat.ne_of_lt (Nat.lt_of_lt_of_le V_o16.lt (Nat.le_of_eq g7.symm)))).other W11 (Nat.ne_of_lt (Nat.lt_of_lt_of_le V_o16.lt (Nat.le_of_eq g7.symm)))).other W12 (Nat.ne_of_lt (Nat.lt_of_lt_of_le V_o16.lt (Nat.le_of_eq g7.symm)))).other W13 (Nat.ne_of_lt (Nat.lt_of_lt_of_le V_o16.lt (Nat.le_of_eq g7.symm)))).other W14 (Nat.ne_of_lt (Nat.lt_of_lt_of_le V_o16.lt (Nat.le_of_eq g7.symm)))).other W15 (Nat.ne_of_lt (Nat.lt_of_lt_of_le V_o16.lt (Nat.le_of_eq g7.symm)))).other W16 (Nat.ne_of_lt (Nat.lt_of_lt_of_le V_o16.lt (Nat.le_of_eq g7.symm)))).other W17 (Nat.ne_of_lt (Nat.lt_of_lt_of_le V_o16.lt (Nat.le_of_eq g7.symm)))).lt (Nat.le_of_eq g18.symm)))).lt (Nat.le_of_eq g25.symm))))
  have Vend_o17 := (((((((((((((((((((((((((V_o17.ext E7).other W8 (Nat.ne_of_lt (Nat.lt_of_lt_of_le V_o17.lt (Nat.le_of_eq g7.symm)))).other W9 (Nat.ne_of_lt (Nat.lt_of_lt_of_le V_o17.lt (Nat.le_of_eq g7.symm)))).other W10 (Nat.ne_of_lt (Nat.lt_of_lt_of_le V_o17.lt (Nat.le_of_eq g7.symm)))).other W11 (Nat.ne_of_lt (Nat.lt_of_lt_of_le V_o17.lt (Nat.le_of_eq g7.symm)))).other W12 (Nat.ne_of_lt (Nat.lt_of_lt_of_le V_o17.lt (Nat.le_of_eq g7.symm)))).other W13 (Nat.ne_of_lt (Nat.lt_of_lt_of_le V_o17.lt (Nat.le_of_eq g7.symm)))).other W14 (Nat.ne_of_lt (Nat.lt_of_lt_of_le V_o17.lt (Nat.le_of_eq g7.symm)))).other W15 (Nat.ne_of_lt (Nat.lt_of_lt_of_le V_o17.lt (Nat.le_of_eq g7.symm)))).other W16 (Nat.ne_of_lt (Nat.lt_of_lt_of_le V_o17.lt (Nat.le_of_eq g7.symm)))).other W17 (Nat.ne_of_lt (Nat.lt_of_lt_of_le V_o17.lt (Nat.le_of_eq g7.symm)))).ext E18).other W19 (Nat.ne_of_lt (Nat.lt_of_lt_of_le (((((((((((V_o17.ext E7).other W8 (Nat.ne_of_lt (Nat.lt_of_lt_of_le V_o17.lt (Nat.le_of_eq g7.symm)))).other W9 (Nat.ne_of_lt (Nat.lt_of_lt_of_le V_o17.lt (Nat.le_of_eq g7.symm)))).other W10 (Nat.ne_of_lt (Nat.lt_of_lt_of_le V_o17.lt (Nat.le_of_eq g7.symm)))).other W11 (Nat.ne_of_lt (Nat.lt_of_lt_of_le V_o17.lt (Nat.le_of_eq g7.symm)))).other W12 (Nat.ne_of_lt (Nat.lt_of_lt_of_le V_o17.lt (Nat.le_of_eq g7.symm)))).other W13 (Nat.ne_of_lt (Nat.lt_of_lt_of_le V_o17.lt (Nat.le_of_eq g7.symm)))).other W14 (Nat.ne_of_lt (Nat.lt_of_lt_of_le V_o17.lt (Nat.le_of_eq g7.symm)))).other W15 (Nat.ne_of_lt (Nat.lt_of_lt_of_le V_o17.lt (Nat.le_of_eq g7.symm)))).other W16 (Nat.ne_of_lt (Nat.lt_of_lt_of_le V_o17.lt (Nat.le_of_eq g7.symm)))).other W17 (Nat.ne_of_lt (Nat.lt_of_lt_of_le V_o17.lt (Nat.le_of_eq g7.symm)))).lt (Nat.le_of_eq g18.symm)))).other W20 (Nat.ne_of_lt (Nat.lt_of_lt_of_le (((((((((((V_o17.ext E7).other W8 (Nat.ne_of_lt (Nat.lt_of_lt_of_le V_o17.lt (Nat.le_of_eq g7.symm)))).other W9 (Nat.ne_of_lt (Nat.lt_of_lt_of_le V_o17.lt (Nat.le_of_eq g7.symm)))).other W10 (Nat.ne_of_lt (Nat.lt_of_lt_of_le V_o17.lt (Nat.le_of_eq g7.symm)))).other W11 (Nat.ne_of_lt (Nat.lt_of_lt_of_le V_o17.lt (Nat.le_of_eq g7.symm)))).other W12 (Nat.ne_of_lt (Nat.lt_of_lt_of_le V_o17.lt (Nat.le_of_eq g7.symm)))).other W13 (Nat.ne_of_lt (Nat.lt_of_lt_of_le V_o17.lt (Nat.le_of_eq g7.symm)))).other W14 (Nat.ne_of_lt (Nat.lt_of_lt_of_le V_o17.lt (Nat.le_of_eq g7.symm)))).other W15 (Nat.ne_of_lt (Nat.lt_of_lt_of_le V_o17.lt (Nat.le_of_eq g7.symm)))).other W16 (Nat.ne_of_lt (Nat.lt_of_lt_of_le V_o17.lt (Nat.le_of_eq g7.symm)))).other W17 (Nat.ne_of_lt (Nat.lt_of_lt_of_le V_o17.lt (Nat.le_of_eq g7.symm)))).lt (Nat.le_of_eq g18.symm)))).other W21 (Nat.ne_of_lt (Nat.lt_of_lt_of_le (((((((((((V_o17.ext E7).other W8 (Nat.ne_of_lt (Nat.lt_of_lt_of_le V_o17.lt (Nat.le_of_eq g7.symm)))).other W9 (Nat.ne_of_lt (Nat.lt_of_lt_of_le V_o17.lt (Nat.le_of_eq g7.symm)))).other W10 (Nat.ne_of_lt (Nat.lt_of_lt_of_le V_o17.lt (Nat.le_of_eq g7.symm)))).other W11 (Nat.ne_of_lt (Nat.lt_of_lt_of_le V_o17.lt (Nat.le_of_eq g7.symm)))).other W12 (Nat.ne_of_lt (Nat.lt_of_lt_of_le V_o17.lt (Nat.le_of_eq g7.symm)))).other W13 (Nat.ne_of_lt (Nat.lt_of_lt_of_le V_o17.lt (Nat.le_of_eq g7.symm)))).other W14 (Nat.ne_of_lt (Nat.lt_of_lt_of_le V_o17.lt (Nat.le_of_eq g7.symm)))).other W15 (Nat.ne_of_lt (Nat.lt_of_lt_of_le V_o17.lt (Nat.le_of_eq g7.symm)))).other W16 (Nat.ne_of_lt (Nat.lt_of_lt_of_le V_o17.lt (Nat.le_of_eq g7.symm)))).other W17 (Nat.ne_of_lt (Nat.lt_of_lt_of_le V_o17.lt (Nat.le_of_eq g7.symm)))).lt (Nat.le_of_eq g18.symm)))).other W22 (Nat.ne_of_lt (Nat.lt_of_lt_of_le (((((((((((V_o17.ext E7).other W8 (Nat.ne_of_lt (Nat.lt_of_lt_of_le V_o17.lt (Nat.le_of_eq g7.symm)))).other W9 (Nat.ne_of_lt (Nat.lt_of_lt_of_le V_o17.lt (Nat.le_of_eq g7.symm)))).other W10 (Nat.ne_of_lt (Nat.lt_of_lt_of_le V_o17.lt (Nat.le_of_eq g7.symm)))).other W11 (Nat.ne_of_lt (Nat.lt_of_lt_of_le V_o17.lt (Nat.le_of_eq g7.symm)))).other W12 (Nat.ne_of_lt (Nat.lt_of_lt_of_le V_o17.lt (Nat.le_of_eq g7.symm)))).other W13 (Nat.ne_of_lt (Nat.lt_of_lt_of_le V_o17.lt (Nat.le_of_eq g7.symm)))).other W14 (Nat.ne_of_lt (Nat.lt_of_lt_of_le V_o17.lt (Nat.le_of_eq g7.symm)))).other W15 (Nat.ne_of_lt (Nat.lt_of_lt_of_le V_o17.lt (Nat.le_of_eq g7.symm)))).other W16 (Nat.ne_of_lt (Nat.lt_of_lt_of_le V_o17.lt (Nat.le_of_eq g7.symm)))).other W17 (Nat.ne_of_lt (Nat.lt_of_lt_of_le V_o17.lt (Nat.le_of_eq g7.symm)))).lt (Nat.le_of_eq g18.symm)))).other W23 (Nat.ne_of_lt (Nat.lt_of_lt_of_le (((((((((((V_o17.ext E7).other W8 (Nat.ne_of_lt (Nat.lt_of_lt_of_le V_o17.lt (Nat.le_of_eq g7.symm)))).other W9 (Nat.ne_of_lt (Nat.lt_of_lt_of_le V_o17.lt (Nat.le_of_eq g7.symm)))).other W10 (Nat.ne_of_lt (Nat.lt_of_lt_of_le V_o17.lt (Nat.le_of_eq g7.symm)))).other W11 (Nat.ne_of_lt (Nat.lt_of_lt_of_le V_o17.lt (Nat.le_of_eq g7.symm)))).other W12 (Nat.ne_of_lt (Nat.lt_of_lt_of_le V_o17.lt (Nat.le_of_eq g7.symm)))).other W13 (Nat.ne_of_lt (Nat.lt_of_lt_of_le V_o17.lt (Nat.le_of_eq g7.symm)))).other W14 (Nat.ne_of_lt (Nat.lt_of_lt_of_le V_o17.lt (Nat.le_of_eq g7.symm)))).other W15 (Nat.ne_of_lt (Nat.lt_of_lt_of_le V_o17.lt (Nat.le_of_eq g7.symm)))).other W16 (Nat.ne_of_lt (Nat.lt_of_lt_of_le V_o17.lt (Nat.le_of_eq g7.symm)))).other W17 (Nat.ne_of_lt (Nat.lt_of_lt_of_le V_o17.lt (Nat.le_of_eq g7.symm)))).lt (Nat.le_of_eq g18.symm)))).other W24 (Nat.ne_of_lt (Nat.lt_of_lt_of_le (((((((((((V_o17.ext E7).other W8 (Nat.ne_of_lt (Nat.lt_of_lt_of_le V_o17.lt (Nat.le_of_eq g7.symm)))).other W9 (Nat.ne_of_lt (Nat.lt_of_lt_of_le V_o17.lt (Nat.le_of_eq g7.symm)))).other W10 (Nat.ne_of_lt (Nat.lt_of_lt_of_le V_o17.lt (Nat.le_of_eq g7.symm)))).other W11 (Nat.ne_of_lt (Nat.lt_of_lt_of_le V_o17.lt (Nat.le_of_eq g7.symm)))).other W12 (Nat.ne_of_lt (Nat.lt_of_lt_of_le V_o17.lt (Nat.le_of_eq g7.symm)))).other W13 (Nat.ne_of_lt (Nat.lt_of_lt_of_le V_o17.lt (Nat.le_of_eq g7.symm)))).other W14 (Nat.ne_of_lt (Nat.lt_of_lt_of_le V_o17.lt (Nat.le_of_eq g7.symm)))).other W15 (Nat.ne_of_lt (Nat.lt_of_lt_of_le V_o17.lt (Nat.le_of_eq g7.symm)))).other W16 (Nat.ne_of_lt (Nat.lt_of_lt_of_le V_o17.lt (Nat.le_of_eq g7.symm)))).other W17 (Nat.ne_of_lt (Nat.lt_of_lt_of_le V_o17.lt (Nat.le_of_eq g7.symm)))).lt (Nat.le_of_eq g18.symm)))).ext E25).other W26 (Nat.ne_of_lt (Nat.lt_of_lt_of_le ((((((((((((((((((V_o17.ext E7).other W8 (Nat.ne_of_lt (Nat.lt_of_lt_of_le V_o17.lt (Nat.le_of_eq g7.symm)))).other W9 (Nat.ne_of_lt (Nat.lt_of_lt_of_le V_o17.lt (Nat.le_of_eq g7.symm)))).other W10 (Nat.ne_of_lt (Nat.lt_of_lt_of_le V_o17.lt (Nat.le_of_eq g7.symm)))).other W11 (Nat.ne_of_lt (Nat.lt_of_lt_of_le V_o17.lt (Nat.le_of_eq g7.symm)))).other W12 (Nat.ne_of_lt (Nat.lt_of_lt_of_le V_o17.lt (Nat.le_of_eq g7.symm)))).other W13 (Nat.ne_of_lt (Nat.lt_of_lt_of_le V_o17.lt (Nat.le_of_eq g7.symm)))).other W14 (Nat.ne_of_lt (Nat.lt_of_lt_of_le V_o17.lt (Nat.le_of_eq g7.symm)))).other W15 (Nat.ne_of_lt (Nat.lt_of_lt_of_le V_o17.lt (Nat.le_of_eq g7.symm)))).other W16 (Nat.ne_of_lt (Nat.lt_of_lt_of_le V_o17.lt (Nat.le_of_eq g7.symm)))).other W17 (Nat.ne_of_lt (Nat.lt_of_lt_of_le V_o17.lt (Nat.le_of_eq g7.symm)))).ext E18).other W19 (Nat.ne_of_lt (Nat.lt_of_lt_of_le (((((((((((V_o17.ext E7).other W8 (Nat.ne_of_lt (Nat.lt_of_lt_of_le V_o17.lt (Nat.le_of_eq g7.symm)))).other W9 (Nat.ne_of_lt (Nat.lt_of_lt_of_le V_o17.lt (Nat.le_of_eq g7.symm)))).other W10 (Nat.ne_of_lt (Nat.lt_of_lt_of_le V_o17.lt (Nat.le_of_eq g7.symm)))).other W11 (Nat.ne_of_lt (Nat.lt_of_lt_of_le V_o17.lt (Nat.le_of_eq g7.symm)))).other W12 (Nat.ne_of_lt (Nat.lt_of_lt_of_le V_o17.lt (Nat.le_of_eq g7.symm)))).other W13 (Nat.ne_of_lt (Nat.lt_of_lt_of_le V_o17.lt (Nat.le_of_eq g7.symm)))).other W14 (Nat.ne_of_lt (Nat.lt_of_lt_of_le V_o17.lt (Nat.le_of_eq g7.symm)))).other W15 (Nat.ne_of_lt (Nat.lt_of_lt_of_le V_o17.lt (Nat.le_of_eq g7.symm)))).other W16 (Nat.ne_of_lt (Nat.lt_of_lt_of_le V_o17.lt (Nat.le_of_eq g7.symm)))).other W17 (Nat.ne_of_lt (Nat.lt_of_lt_of_le V_o17.lt (Nat.le_of_eq g7.symm)))).lt (Nat.le_of_eq g18.symm)))).other W20 (Nat.ne_of_lt (Nat.lt_of_lt_of_le (((((((((((V_o17.ext E7).other W8 (Nat.ne_of_lt (Nat.lt_of_lt_of_le V_o17.lt (Nat.le_of_eq g7.symm)))).other W9 (Nat.ne_of_lt (Nat.lt_of_lt_of_le V_o17.lt (Nat.le_of_eq g7.symm)))).other W10 (Nat.ne_of_lt (Nat.lt_of_lt_of_le V_o17.lt (Nat.le_of_eq g7.symm)))).other W11 (Nat.ne_of_lt (Nat.lt_of_lt_of_le V_o17.lt (Nat.le_of_eq g7.symm)))).other W12 (Nat.ne_of_lt (Nat.lt_of_lt_of_le V_o17.lt (Nat.le_of_eq g7.symm)))).other W13 (Nat.ne_of_lt (Nat.lt_of_lt_of_le V_o17.lt (Nat.le_of_eq g7.symm)))).other W14 (Nat.ne_of_lt (Nat.lt_of_lt_of_le V_o17.lt (Nat.le_of_eq g7.symm)))).other W15 (Nat.ne_of_lt (Nat.lt_of_lt_of_le V_o17.lt (Nat.le_of_eq g7.symm)))).other W16 (Nat.ne_of_lt (Nat.lt_of_lt_of_le V_o17.lt (Nat.le_of_eq g7.symm)))).other W17 (Nat.ne_of_lt (Nat.lt_of_lt_of_le V_o17.lt (Nat.le_of_eq g7.symm)))).lt (Nat.le_of_eq g18.symm)))).other W21 (Nat.ne_of_lt (Nat.lt_of_lt_of_le (((((((((((V_o17.ext E7).other W8 (Nat.ne_of_lt (Nat.lt_of_lt_of_le V_o17.lt (Nat.le_of_eq g7.symm)))).other W9 (Nat.ne_of_lt (Nat.lt_of_lt_of_le V_o17.lt (Nat.le_of_eq g7.symm)))).other W10 (Nat.ne_of_lt (Nat.lt_of_lt_of_le V_o17.lt (Nat.le_of_eq g7.symm)))).other W11 (Nat.ne_of_lt (Nat.lt_of_lt_of_le V_o17.lt (Nat.le_of_eq g7.symm)))).other W12 (Nat.ne_of_lt (Nat.lt_of_lt_of_le V_o17.lt (Nat.le_of_eq g7.symm)))).other W13 (Nat.ne_of_lt (Nat.lt_of_lt_of_le V_o17.lt (Nat.le_of_eq g7.symm)))).other W14 (Nat.ne_of_lt (Nat.lt_of_lt_of_le V_o17.lt (Nat.le_of_eq g7.symm)))).other W15 (Nat.ne_of_lt (Nat.lt_of_lt_of_le V_o17.lt (Nat.le_of_eq g7.symm)))).other W16 (Nat.ne_of_lt (Nat.lt_of_lt_of_le V_o17.lt (Nat.le_of_eq g7.symm)))).other W17 (Nat.ne_of_lt (Nat.lt_of_lt_of_le V_o17.lt (Nat.le_of_eq g7.symm)))).lt (Nat.le_of_eq g18.symm)))).other W22 (Nat.ne_of_lt (Nat.lt_of_lt_of_le (((((((((((V_o17.ext E7).other W8 (Nat.ne_of_lt (Nat.lt_of_lt_of_le V_o17.lt (Nat.le_of_eq g7.symm)))).other W9 (Nat.ne_of_lt (Nat.lt_of_lt_of_le V_o17.lt (Nat.le_of_eq g7.symm)))).other W10 (Nat.ne_of_lt (Nat.lt_of_lt_of_le V_o17.lt (Nat.le_of_eq g7.symm)))).other W11 (Nat.ne_of_lt (Nat.lt_of_lt_of_le V_o17.lt (Nat.le_of_eq g7.symm)))).other W12 (Nat.ne_of_lt (Nat.lt_of_lt_of_le V_o17.lt (Nat.le_of_eq g7.symm)))).other W13 (Nat.ne_of_lt (Nat.lt_of_lt_of_le V_o17.lt (Nat.le_of_eq g7.symm)))).other W14 (Nat.ne_of_lt (Nat.lt_of_lt_of_le V_o17.lt (Nat.le_of_eq g7.symm)))).other W15 (Nat.ne_of_lt (Nat.lt_of_lt_of_le V_o17.lt (Nat.le_of_eq g7.symm)))).other W16 (Nat.ne_of_lt (Nat.lt_of_lt_of_le V_o17.lt (Nat.le_of_eq g7.symm)))).other W17 (Nat.ne_of_lt (Nat.lt_of_lt_of_le V_o17.lt (Nat.le_of_eq g7.symm)))).lt (Nat.le_of_eq g18.symm)))).other W23 (Nat.ne_of_lt (Nat.lt_of_lt_of_le (((((((((((V_o17.ext E7).other W8 (Nat.ne_of_lt (Nat.lt_of_lt_of_le V_o17.lt (Nat.le_of_eq g7.symm)))).other W9 (Nat.ne_of_lt (Nat.lt_of_lt_of_le V_o17.lt (Nat.le_of_eq g7.symm)))).other W10 (Nat.ne_of_lt (Nat.lt_of_lt_of_le V_o17.lt (Nat.le_of_eq g7.symm)))).other W11 (Nat.ne_of_lt (Nat.lt_of_lt_of_le V_o17.lt (Nat.le_of_eq g7.symm)))).other W12 (Nat.ne_of_lt (Nat.lt_of_lt_of_le V_o17.lt (Nat.le_of_eq g7.symm)))).other W13 (Nat.ne_of_lt (Nat.lt_of_lt_of_le V_o17.lt (Nat.le_of_eq g7.symm)))).other W14 (Nat.ne_of_lt (Nat.lt_of_lt_of_le V_o17.lt (Nat.le_of_eq g7.symm)))).other W15 (Nat.ne_of_lt (Nat.lt_of_lt_of_le V_o17.lt (Nat.le_of_eq g7.symm)))).other W16 (Nat.ne_of_lt (Nat.lt_of_lt_of_le V_o17.lt (Nat.le_of_eq g7.symm)))).other W17 (Nat.ne_of_lt (Nat.lt_of_lt_of_le V_o17.lt (Nat.le_of_eq g7.symm)))).lt (Nat.le_of_eq g18.symm)))).other W24 (Nat.ne_of_lt (Nat.lt_of_lt_of_le (((((((((((V_o17.ext E7).other W8 (Nat.ne_of_lt (Nat.lt_of_lt_of_le V_o17.lt (Nat.le_of_eq g7.symm)))).other W9 (Nat.ne_of_lt (Nat.lt_of_lt_of_le V_o17.lt (Nat.le_of_eq g7.symm)))).other W10 (Nat.ne_of_lt (Nat.lt_of_lt_of_le V_o17.lt (Nat.le_of_eq g7.symm)))).other W11 (Nat.ne_of_lt (Nat.lt_of_lt_of_le V_o17.lt (Nat.le_of_eq g7.symm)))).other W12 (Nat.ne_of_lt (Nat.lt_of_lt_of_le V_o17.lt (Nat.le_of_eq g7.symm)))).other W13 (Nat.ne_of_lt (Nat.lt_of_lt_of_le V_o17.lt (Nat.le_of_eq g7.symm)))).other W14 (Nat.ne_of_lt (Nat.lt_of_lt_of_le V_o17.lt (Nat.le_of_eq g7.symm)))).other W15 (Nat.ne_of_lt (Nat.lt_of_lt_of_le V_o17.lt (Nat.le_of_eq g7.symm)))).other W16 (Nat.ne_of_lt (Nat.lt_of_lt_of_le V_o17.lt (Nat.le_of_eq g7.symm)))).other W17 (Nat.ne_of_lt (Nat.lt_of_lt_of_le V_o17.lt (Nat.le_of_eq g7.symm)))).lt (Nat.le_of_eq g18.symm)))).lt (Nat.le_of_eq g25.symm)))).other W27 (Nat.ne_of_lt (Nat.lt_of_lt_of_le ((((((((((((((((((V_o17.ext E7).other W8 (Nat.ne_of_lt (Nat.lt_of_lt_of_le V_o17.lt (Nat.le_of_eq g7.symm)))).other W9 (Nat.ne_of_lt (Nat.lt_of_lt_of_le V_o17.lt (Nat.le_of_eq g7.symm)))).other W10 (Nat.ne_of_lt (Nat.lt_of_lt_of_le V_o17.lt (Nat.le_of_eq g7.symm)))).other W11 (Nat.ne_of_lt (Nat.lt_of_lt_of_le V_o17.lt (Nat.le_of_eq g7.symm)))).other W12 (Nat.ne_of_lt (Nat.lt_of_lt_of_le V_o17.lt (Nat.le_of_eq g7.symm)))).other W13 (Nat.ne_of_lt (Nat.lt_of_lt_of_le V_o17.lt (Nat.le_of_eq g7.symm)))).other W14 (Nat.ne_of_lt (Nat.lt_of_lt_of_le V_o17.lt (Nat.le_of_eq g7.symm)))).other W15 (Nat.ne_of_lt (Nat.lt_of_lt_of_le V_o17.lt (Nat.le_of_eq g7.symm)))).other W16 (Nat.ne_of_lt (Nat.lt_of_lt_of_le V_o17.lt (Nat.le_of_eq g7.symm)))).other W17 (Nat.ne_of_lt (Nat.lt_of_lt_of_le V_o17.lt (Nat.le_of_eq g7.symm)))).ext E18).other W19 (Nat.ne_of_lt (Nat.lt_of_lt_of_le (((((((((((V_o17.ext E7).other W8 (Nat.ne_of_lt (Nat.lt_of_lt_of_le V_o17.lt (Nat.le_of_eq g7.symm)))).other W9 (Nat.ne_of_lt (Nat.lt_of_lt_of_le V_o17.lt (Nat.le_of_eq g7.symm)))).other W10 (Nat.ne_of_lt (Nat.lt_of_lt_of_le V_o17.lt (Nat.le_of_eq g7.symm)))).other W11 (Nat.ne_of_lt (Nat.lt_of_lt_of_le V_o17.lt (Nat.le_of_eq g7.symm)))).other W12 (Nat.ne_of_lt (Nat.lt_of_lt_of_le V_o17.lt (Nat.le_of_eq g7.symm)))).other W13 (Nat.ne_of_lt (Nat.lt_of_lt_of_le V_o17.lt (Nat.le_of_eq g7.symm)))).other W14 (Nat.ne_of_lt (Nat.lt_of_lt_of_le V_o17.lt (Nat.le_of_eq g7.symm)))).other W15 (Nat.ne_of_lt (Nat.lt_of_lt_of_le V_o17.lt (Nat.le_of_eq g7.symm)))).other W16 (Nat.ne_of_lt (Nat.lt_of_lt_of_le V_o17.lt (Nat.le_of_eq g7.symm)))).other W17 (Nat.ne_of_lt (Nat.lt_of_lt_of_le V_o17.lt (Nat.le_of_eq g7.symm)))).lt (Nat.le_of_eq g18.symm)))).other W20 (Nat.ne_of_lt (Nat.lt_of_lt_of_le (((((((((((V_o17.ext E7).other W8 (Nat.ne_of_lt (Nat.lt_of_lt_of_le V_o17.lt (Nat.le_of_eq g7.symm)))).other W9 (Nat.ne_of_lt (Nat.lt_of_lt_of_le V_o17.lt (Nat.le_of_eq g7.symm)))).other W10 (Nat.ne_of_lt (Nat.lt_of_lt_of_le V_o17.lt (Nat.le_of_eq g7.symm)))).other W11 (Nat.ne_of_lt (Nat.lt_of_lt_of_le V_o17.lt (Nat.le_of_eq g7.symm)))).other W12 (Nat.ne_of_lt (Nat.lt_of_lt_of_le V_o17.lt (Nat.le_of_eq g7.symm)))).other W13 (Nat.ne_of_lt (Nat.lt_of_lt_of_le V_o17.lt (Nat.le_of_eq g7.symm)))).other W14 (Nat.ne_of_lt (Nat.lt_of_lt_of_le V_o17.lt (Nat.le_of_eq g7.symm)))).other W15 (Nat.ne_of_lt (Nat.lt_of_lt_of_le V_o17.lt (Nat.le_of_eq g7.symm)))).other W16 (Nat.ne_of_lt (Nat.lt_of_lt_of_le V_o17.lt (Nat.le_of_eq g7.symm)))).other W17 (Nat.ne_of_lt (Nat.lt_of_lt_of_le V_o17.lt (Nat.le_of_eq g7.symm)))).lt (Nat.le_of_eq g18.symm)))).other W21 (Nat.ne_of_lt (Nat.lt_of_lt_of_le (((((((((((V_o17.ext E7).other W8 (Nat.ne_of_lt (Nat.lt_of_lt_of_le V_o17.lt (Nat.le_of_eq g7.symm)))).other W9 (Nat.ne_of_lt (Nat.lt_of_lt_of_le V_o17.lt (Nat.le_of_eq g7.symm)))).other W10 (Nat.ne_of_lt (Nat.lt_of_lt_of_le V_o17.lt (Nat.le_of_eq g7.symm)))).other W11 (Nat.ne_of_lt (Nat.lt_of_lt_of_le V_o17.lt (Nat.le_of_eq g7.symm)))).other W12 (Nat.ne_of_lt (Nat.lt_of_lt_of_le V_o17.lt (Nat.le_of_eq g7.symm)))).other W13 (Nat.ne_of_lt (Nat.lt_of_lt_of_le V_o17.lt (Nat.le_of_eq g7.symm)))).other W14 (Nat.ne_of_lt (Nat.lt_of_lt_of_le V_o17.lt (Nat.le_of_eq g7.symm)))).other W15 (Nat.ne_of_lt (Nat.lt_of_lt_of_le V_o17.lt (Nat.le_of_eq g7.symm)))).other W16 (Nat.ne_of_lt (Nat.lt_of_lt_of_le V_o17.lt (Nat.le_of_eq g7.symm)))).other W17 (Nat.ne_of_lt (Nat.lt_of_lt_of_le V_o17.lt (Nat.le_of_eq g7.symm)))).lt (Nat.le_of_eq g18.symm)))).other W22 (Nat.ne_of_lt (Nat.lt_of_lt_of_le (((((((((((V_o17.ext E7).other W8 (Nat.ne_of_lt (Nat.lt_of_lt_of_le V_o17.lt (Nat.le_of_eq g7.symm)))).other W9 (Nat.ne_of_lt (Nat.lt_of_lt_of_le V_o17.lt (Nat.le_of_eq g7.symm)))).other W10 (Nat.ne_of_lt (Nat.lt_of_lt_of_le V_o17.lt (Nat.le_of_eq g7.symm)))).other W11 (Nat.ne_of_lt (Nat.lt_of_lt_of_le V_o17.lt (Nat.le_of_eq g7.symm)))).other W12 (Nat.ne_of_lt (Nat.lt_of_lt_of_le V_o17.lt (Nat.le_of_eq g7.symm)))).other W13 (Nat.ne_of_lt (Nat.lt_of_lt_of_le V_o17.lt (Nat.le_of_eq g7.symm)))).other W14 (Nat.ne_of_lt (Nat.lt_of_lt_of_le V_o17.lt (Nat.le_of_eq g7.symm)))).other W15 (Nat.ne_of_lt (Nat.lt_of_lt_of_le V_o17.lt (Nat.le_of_eq g7.symm)))).other W16 (Nat.ne_of_lt (Nat.lt_of_lt_of_le V_o17.lt (Nat.le_of_eq g7.symm)))).other W17 (Nat.ne_of_lt (Nat.lt_of_lt_of_le V_o17.lt (Nat.le_of_eq g7.symm)))).lt (Nat.le_of_eq g18.symm)))).other W23 (Nat.ne_of_lt (Nat.lt_of_lt_of_le (((((((((((V_o17.ext E7).other W8 (Nat.ne_of_lt (Nat.lt_of_lt_of_le V_o17.lt (Nat.le_of_eq g7.symm)))).other W9 (Nat.ne_of_lt (Nat.lt_of_lt_of_le V_o17.lt (Nat.le_of_eq g7.symm)))).other W10 (Nat.ne_of_lt (Nat.lt_of_lt_of_le V_o17.lt (Nat.le_of_eq g7.symm)))).other W11 (Nat.ne_of_lt (Nat.lt_of_lt_of_le V_o17.lt (Nat.le_of_eq g7.symm)))).other W12 (Nat.ne_of_lt (Nat.lt_of_lt_of_le V_o17.lt (Nat.le_of_eq g7.symm)))).other W13 (Nat.ne_of_lt (Nat.lt_of_lt_of_le V_o17.lt (Nat.le_of_eq g7.symm)))).other W14 (Nat.ne_of_lt (Nat.lt_of_lt_of_le V_o17.lt (Nat.le_of_eq g7.symm)))).other W15 (Nat.ne_of_lt (Nat.lt_of_lt_of_le V_o17.lt (Nat.le_of_eq g7.symm)))).other W16 (Nat.ne_of_lt (Nat.lt_of_lt_of_le V_o17.lt (Nat.le_of_eq g7.symm)))).other W17 (Nat.ne_of_lt (Nat.lt_of_lt_of_le V_o17.lt (Nat.le_of_eq g7.symm)))).lt (Nat.le_of_eq g18.symm)))).other W24 (Nat.ne_of_lt (Nat.lt_of_lt_of_le (((((((((((V_o17.ext E7).other W8 (Nat.ne_of_lt (Nat.lt_of_lt_of_le V_o17.lt (Nat.le_of_eq g7.symm)))).other W9 (Nat.ne_of_lt (Nat.lt_of_lt_of_le V_o17.lt (Nat.le_of_eq g7.symm)))).other W10 (Nat.ne_of_lt (Nat.lt_of_lt_of_le V_o17.lt (Nat.le_of_eq g7.symm)))).other W11 (Nat.ne_of_lt (Nat.lt_of_lt_of_le V_o17.lt (Nat.le_of_eq g7.symm)))).other W12 (Nat.ne_of_lt (Nat.lt_of_lt_of_le V_o17.lt (Nat.le_of_eq g7.symm)))).other W13 (Nat.ne_of_lt (Nat.lt_of_lt_of_le V_o17.lt (Nat.le_of_eq g7.symm)))).other W14 (Nat.ne_of_lt (Nat.lt_of_lt_of_le V_o17.lt (Nat.le_of_eq g7.symm)))).other W15 (Nat.ne_of_lt (Nat.lt_of_lt_of_le V_o17.lt (Nat.le_of_eq g7.symm)))).other W16 (Nat.ne_of_lt (Nat.lt_of_lt_of_le V_o17.lt (Nat.le_of_eq g7.symm)))).other W17 (Nat.ne_of_lt (Nat.lt_of_lt_of_le V_o17.lt (Nat.le_of_eq g7.symm)))).lt (Nat.le_of_eq g18.symm)))).lt (Nat.le_of_eq g25.symm)))).other W28 (Nat.ne_of_lt (Nat.lt_of_lt_of_le ((((((((((((((((((V_o17.ext E7).other W8 (Nat.ne_of_lt (Nat.lt_of_lt_of_le V_o17.lt (Nat.le_of_eq g7.symm)))).other W9 (Nat.ne_of_lt (Nat.lt_of_lt_of_le V_o17.lt (Nat.le_of_eq g7.symm)))).other W10 (Nat.ne_of_lt (Nat.lt_of_lt_of_le V_o17.lt (Nat.le_of_eq g7.symm)))).other W11 (Nat.ne_of_lt (Nat.lt_of_lt_of_le V_o17.lt (Nat.le_of_eq g7.symm)))).other W12 (Nat.ne_of_lt (Nat.lt_of_lt_of_le V_o17.lt (Nat.le_of_eq g7.symm)))).other W13 (Nat.ne_of_lt (Nat.lt_of_lt_of_le V_o17.lt (Nat.le_of_eq g7.symm)))).other W14 (Nat.ne_of_lt (Nat.lt_of_lt_of_le V_o17.lt (Nat.le_of_eq g7.symm)))).other W15 (Nat.ne_of_lt (Nat.lt_of_lt_of_le V_o17.lt (Nat.le_of_eq g7.symm)))).other W16 (Nat.ne_of_lt (Nat.lt_of_lt_of_le V_o17.lt (Nat.le_of_eq g7.symm)))).other W17 (Nat.ne_of_lt (Nat.lt_of_lt_of_le V_o17.lt (Nat.le_of_eq g7.symm)))).ext E18).other W19 (Nat.ne_of_lt (Nat.lt_of_lt_of_le (((((((((((V_o17.ext E7).other W8 (Nat.ne_of_lt (Nat.lt_of_lt_of_le V_o17.lt (Nat.le_of_eq g7.symm)))).other W9 (Nat.ne_of_lt (Nat.lt_of_lt_of_le V_o17.lt (Nat.le_of_eq g7.symm)))).other W10 (Nat.ne_of_lt (Nat.lt_of_lt_of_le V_o17.lt (Nat.le_of_eq g7.symm)))).other W11 (Nat.ne_of_lt (Nat.lt_of_lt_of_le V_o17.lt (Nat.le_of_eq g7.symm)))).other W12 (Nat.ne_of_lt (Nat.lt_of_lt_of_le V_o17.lt (Nat.le_of_eq g7.symm)))).other W13 (Nat.ne_of_lt (Nat.lt_of_lt_of_le V_o17.lt (Nat.le_of_eq g7.symm)))).other W14 (Nat.ne_of_lt (Nat.lt_of_lt_of_le V_o17.lt (Nat.le_of_eq g7.symm)))).other W15 (Nat.ne_of_lt (Nat.lt_of_lt_of_le V_o17.lt (Nat.le_of_eq g7.symm)))).other W16 (Nat.ne_of_lt (Nat.lt_of_lt_of_le V_o17.lt (Nat.le_of_eq g7.symm)))).other W17 (Nat.ne_of_lt (Nat.lt_of_lt_of_le V_o17.lt (Nat.le_of_eq g7.symm)))).lt (Nat.le_of_eq g18.symm)))).other W20 (Nat.ne_of_lt (Nat.lt_of_lt_of_le (((((((((((V_o17.ext E7).other W8 (Nat.ne_of_lt (Nat.lt_of_lt_of_le V_o17.lt (Nat.le_of_eq g7.symm)))).other W9 (Nat.ne_of_lt (Nat.lt_of_lt_of_le V_o17.lt (Nat.le_of_eq g7.symm)))).other W10 (Nat.ne_of_lt (Nat.lt_of_lt_of_le V_o17.lt (Nat.le_of_eq g7.symm)))).other W11 (Nat.ne_of_lt (Nat.lt_of_lt_of_le V_o17.lt (Nat.le_of_eq g7.symm)))).other W12 (Nat.ne_of_lt (Nat.lt_of_lt_of_le V_o17.lt (Nat.le_of_eq g7.symm)))).other W13 (Nat.ne_of_lt (Nat.lt_of_lt_of_le V_o17.lt (Nat.le_of_eq g7.symm)))).other W14 (Nat.ne_of_lt (Nat.lt_of_lt_of_le V_o17.lt (Nat.le_of_eq g7.symm)))).other W15 (Nat.ne_of_lt (Nat.lt_of_lt_of_le V_o17.lt (Nat.le_of_eq g7.symm)))).other W16 (Nat.ne_of_lt (Nat.lt_of_lt_of_le V_o17.lt (Nat.le_of_eq g7.symm)))).other W17 (Nat.ne_of_lt (Nat.lt_of_lt_of_le V_o17.lt (Nat.le_of_eq g7.symm)))).lt (Nat.le_of_eq g18.symm)))).other W21 (Nat.ne_of_lt (Nat.lt_of_lt_of_le (((((((((((V_o17.ext E7).other W8 (Nat.ne_of_lt (Nat.lt_of_lt_of_le V_o17.lt (Nat.le_of_eq g7.symm)))).other W9 (Nat.ne_of_lt (Nat.lt_of_lt_of_le V_o17.lt (Nat.le_of_eq g7.symm)))).other W10 (Nat.ne_of_lt (Nat.lt_of_lt_of_le V_o17.lt (Nat.le_of_eq g7.symm)))).other W11 (Nat.ne_of_lt (Nat.lt_of_lt_of_le V_o17.lt (Nat.le_of_eq g7.symm)))).other W12 (Nat.ne_of_lt (Nat.lt_of_lt_of_le V_o17.lt (Nat.le_of_eq g7.symm)))).other W13 (Nat.ne_of_lt (Nat.lt_of_lt_of_le V_o17.lt (Nat.le_of_eq g7.symm)))).other W14 (Nat.ne_of_lt (Nat.lt_of_lt_of_le V_o17.lt (Nat.le_of_eq g7.symm)))).other W15 (Nat.ne_of_lt (Nat.lt_of_lt_of_le V_o17.lt (Nat.le_of_eq g7.symm)))).other W16 (Nat.ne_of_lt (Nat.lt_of_lt_of_le V_o17.lt (Nat.le_of_eq g7.symm)))).other W17 (Nat.ne_of_lt (Nat.lt_of_lt_of_le V_o17.lt (Nat.le_of_eq g7.symm)))).lt (Nat.le_of_eq g18.symm)))).other W22 (Nat.ne_of_lt (Nat.lt_of_lt_of_le (((((((((((V_o17.ext E7).other W8 (Nat.ne_of_lt (Nat.lt_of_lt_of_le V_o17.lt (Nat.le_of_eq g7.symm)))).other W9 (Nat.ne_of_lt (Nat.lt_of_lt_of_le V_o17.lt (Nat.le_of_eq g7.symm)))).other W10 (Nat.ne_of_lt (Nat.lt_of_lt_of_le V_o17.lt (Nat.le_of_eq g7.symm)))).other W11 (Nat.ne_of_lt (Nat.lt_of_lt_of_le V_o17.lt (Nat.le_of_eq g7.symm)))).other W12 (Nat.ne_of_lt (Nat.lt_of_lt_of_le V_o17.lt (Nat.le_of_eq g7.symm)))).other W13 (Nat.ne_of_lt (Nat.lt_of_lt_of_le V_o17.lt (Nat.le_of_eq g7.symm)))).other W14 (Nat.ne_of_lt (Nat.lt_of_lt_of_le V_o17.lt (Nat.le_of_eq g7.symm)))).other W15 (Nat.ne_of_lt (Nat.lt_of_lt_of_le V_o17.lt (Nat.le_of_eq g7.symm)))).other W16 (Nat.ne_of_lt (Nat.lt_of_lt_of_le V_o17.lt (Nat.le_of_eq g7.symm)))).other W17 (Nat.ne_of_lt (Nat.lt_of_lt_of_le V_o17.lt (Nat.le_of_eq g7.symm)))).lt (Nat.le_of_eq g18.symm)))).other W23 (Nat.ne_of_lt (Nat.lt_of_lt_of_le (((((((((((V_o17.ext E7).other W8 (Nat.ne_of_lt (Nat.lt_of_lt_of_le V_o17.lt (Nat.le_of_eq g7.symm)))).other W9 (Nat.ne_of_lt (Nat.lt_of_lt_of_le V_o17.lt (Nat.le_of_eq g7.symm)))).other W10 (Nat.ne_of_lt (Nat.lt_of_lt_of_le V_o17.lt (Nat.le_of_eq g7.symm)))).other W11 (Nat.ne_of_lt (Nat.lt_of_lt_of_le V_o17.lt (Nat.le_of_eq g7.symm)))).other W12 (Nat.ne_of_lt (Nat.lt_of_lt_of_le V_o17.lt (Nat.le_of_eq g7.symm)))).other W13 (Nat.ne_of_lt (Nat.lt_of_lt_of_le V_o17.lt (Nat.le_of_eq g7.symm)))).other W14 (Nat.ne_of_lt (Nat.lt_of_lt_of_le V_o17.lt (Nat.le_of_eq g7.symm)))).other W15 (Nat.ne_of_lt (Nat.lt_of_lt_of_le V_o17.lt (Nat.le_of_eq g7.symm)))).other W16 (Nat.ne_of_lt (Nat.lt_of_lt_of_le V_o17.lt (Nat.le_of_eq g7.symm)))).other W17 (Nat.ne_of_lt (Nat.lt_of_lt_of_le V_o17.lt (Nat.le_of_eq g7.symm)))).lt (Nat.le_of_eq g18.symm)))).other W24 (Nat.ne_of_lt (Nat.lt_of_lt_of_le (((((((((((V_o17.ext E7).other W8 (Nat.ne_of_lt (Nat.lt_of_lt_of_le V_o17.lt (Nat.le_of_eq g7.symm)))).other W9 (Nat.ne_of_lt (Nat.lt_of_lt_of_le V_o17.lt (Nat.le_of_eq g7.symm)))).other W10 (Nat.ne_of_lt (Nat.lt_of_lt_of_le V_o17.lt (Nat.le_of_eq g7.symm)))).other W11 (Nat.ne_of_lt (Nat.lt_of_lt_of_le V_o17.lt (Nat.le_of_eq g7.symm)))).other W12 (Nat.ne_of_lt (Nat.lt_of_lt_of_le V_o17.lt (Nat.le_of_eq g7.symm)))).other W13 (Nat.ne_of_lt (Nat.lt_of_lt_of_le V_o17.lt (Nat.le_of_eq g7.symm)))).other W14 (Nat.ne_of_lt (Nat.lt_of_lt_of_le V_o17.lt (Nat.le_of_eq g7.symm)))).other W15 (Nat.ne_of_lt (Nat.lt_of_lt_of_le V_o17.lt (Nat.le_of_eq g7.symm)))).other W16 (Nat.ne_of_lt (Nat.lt_of_lt_of_le V_o17.lt (Nat.le_of_eq g7.symm)))).other W17 (Nat.ne_of_lt (Nat.lt_of_lt_of_le V_o17.lt (Nat.le_of_eq g7.symm)))).lt (Nat.le_of_eq g18.symm)))).lt (Nat.le_of_eq g25.symm)))).other W29 (Nat.ne_of_lt (Nat.lt_of_lt_of_le ((((((((((((((((((V_o17.ext E7).other W8 (Nat.ne_of_lt (Nat.lt_of_lt_of_le V_o17.lt (Nat.le_of_eq g7.symm)))).other W9 (Nat.ne_of_lt (Nat.lt_of_lt_of_le V_o17.lt (Nat.le_of_eq g7.symm)))).other W10 (Nat.ne_of_lt (Nat.lt_of_lt_of_le V_o17.lt (Nat.le_of_eq g7.symm)))).other W11 (Nat.ne_of_lt (Nat.lt_of_lt_of_le V_o17.lt (Nat.le_of_eq g7.symm)))).other W12 (Nat.ne_of_lt (Nat.lt_of_lt_of_le V_o17.lt (Nat.le_of_eq g7.symm)))).other W13 (Nat.ne_of_lt (Nat.lt_of_lt_of_le V_o17.lt (Nat.le_of_eq g7.symm)))).other W14 (Nat.ne_of_lt (Nat.lt_of_lt_of_le V_o17.lt (Nat.le_of_eq g7.symm)))).other W15 (Nat.ne_of_lt (Nat.lt_of_lt_of_le V_o17.lt (Nat.le_of_eq g7.symm)))).other W16 (Nat.ne_of_lt (Nat.lt_of_lt_of_le V_o17.lt (Nat.le_of_eq g7.symm)))).other W17 (Nat.ne_of_lt (Nat.lt_of_lt_of_le V_o17.lt (Nat.le_of_eq g7.symm)))).ext E18).other W19 (Nat.ne_of_lt (Nat.lt_of_lt_of_le (((((((((((V_o17.ext E7).other W8 (Nat.ne_of_lt (Nat.lt_of_lt_of_le V_o17.lt (Nat.le_of_eq g7.symm)))).other W9 (Nat.ne_of_lt (Nat.lt_of_lt_of_le V_o17.lt (Nat.le_of_eq g7.symm)))).other W10 (Nat.ne_of_lt (Nat.lt_of_lt_of_le V_o17.lt (Nat.le_of_eq g7.symm)))).other W11 (Nat.ne_of_lt (Nat.lt_of_lt_of_le V_o17.lt (Nat.le_of_eq g7.symm)))).other W12 (Nat.ne_of_lt (Nat.lt_of_lt_of_le V_o17.lt (Nat.le_of_eq g7.symm)))).other W13 (Nat.ne_of_lt (Nat.lt_of_lt_of_le V_o17.lt (Nat.le_of_eq g7.symm)))).other W14 (Nat.ne_of_lt (Nat.lt_of_lt_of_le V_o17.lt (Nat.le_of_eq g7.symm)))).other W15 (Nat.ne_of_lt (Nat.lt_of_lt_of_le V_o17.lt (Nat.le_of_eq g7.symm)))).other W16 (Nat.ne_of_lt (Nat.lt_of_lt_of_le V_o17.lt (Nat.le_of_eq g7.symm)))).other W17 (Nat.ne_of_lt (Nat.lt_of_lt_of_le V_o17.lt (Nat.le_of_eq g7.symm)))).lt (Nat.le_of_eq g18.symm)))).other W20 (Nat.ne_of_lt (Nat.lt_of_lt_of_le (((((((((((V_o17.ext E7).other W8 (Nat.ne_of_lt (Nat.lt_of_lt_of_le V_o17.lt (Nat.le_of_eq g7.symm)))).other W9 (Nat.ne_of_lt (Nat.lt_of_lt_of_le V_o17.lt (Nat.le_of_eq g7.symm)))).other W10 (Nat.ne_of_lt (Nat.lt_of_lt_of_le V_o17.lt (Nat.le_of_eq g7.symm)))).other W11 (Nat.ne_of_lt (Nat.lt_of_lt_of_le V_o17.lt (Nat.le_of_eq g7.symm)))).other W12 (Nat.ne_of_lt (Nat.lt_of_lt_of_le V_o17.lt (Nat.le_of_eq g7.symm)))).other W13 (Nat.ne_of_lt (Nat.lt_of_lt_of_le V_o17.lt (Nat.le_of_eq g7.symm)))).other W14 (Nat.ne_of_lt (Nat.lt_of_lt_of_le V_o17.lt (Nat.le_of_eq g7.symm)))).other W15 (Nat.ne_of_lt (Nat.lt_of_lt_of_le V_o17.lt (Nat.le_of_eq g7.symm)))).other W16 (Nat.ne_of_lt (Nat.lt_of_lt_of_le V_o17.lt (Nat.le_of_eq g7.symm)))).other W17 (Nat.ne_of_lt (Nat.lt_of_lt_of_le V_o17.lt (Nat.le_of_eq g7.symm)))).lt (Nat.le_of_eq g18.symm)))).other W21 (Nat.ne_of_lt (Nat.lt_of_lt_of_le (((((((((((V_o17.ext E7).other W8 (Nat.ne_of_lt (Nat.lt_of_lt_of_le V_o17.lt (Nat.le_of_eq g7.symm)))).other W9 (Nat.ne_of_lt (Nat.lt_of_lt_of_le V_o17.lt (Nat.le_of_eq g7.symm)))).other W10 (Nat.ne_of_lt (Nat.lt_of_lt_of_le V_o17.lt (Nat.le_of_eq g7.symm)))).other W11 (Nat.ne_of_lt (Nat.lt_of_lt_of_le V_o17.lt (Nat.le_of_eq g7.symm)))).other W12 (Nat.ne_of_lt (Nat.lt_of_lt_of_le V_o17.lt (Nat.le_of_eq g7.symm)))).other W13 (Nat.ne_of_lt (Nat.lt_of_lt_of_le V_o17.lt (Nat.le_of_eq g7.symm)))).other W14 (Nat.ne_of_lt (Nat.lt_of_lt_of_le V_o17.lt (Nat.le_of_eq g7.symm)))).other W15 (Nat.ne_of_lt (Nat.lt_of_lt_of_le V_o17.lt (Nat.le_of_eq g7.symm)))).other W16 (Nat.ne_of_lt (Nat.lt_of_lt_of_le V_o17.lt (Nat.le_of_eq g7.symm)))).other W17 (Nat.ne_of_lt (Nat.lt_of_lt_of_le V_o17.lt (Nat.le_of_eq g7.symm)))).lt (Nat.le_of_eq g18.symm)))).other W22 (Nat.ne_of_lt (Nat.lt_of_lt_of_le (((((((((((V_o17.ext E7).other W8 (Nat.ne_of_lt (Nat.lt_of_lt_of_le V_o17.lt (Nat.le_of_eq g7.symm)))).other W9 (Nat.ne_of_lt (Nat.lt_of_lt_of_le V_o17.lt (Nat.le_of_eq g7.symm)))).other W10 (Nat.ne_of_lt (Nat.lt_of_lt_of_le V_o17.lt (Nat.le_of_eq g7.symm)))).other W11 (Nat.ne_of_lt (Nat.lt_of_lt_of_le V_o17.lt (Nat.le_of_eq g7.symm)))).other W12 (Nat.ne_of_lt (Nat.lt_of_lt_of_le V_o17.lt (Nat.le_of_eq g7.symm)))).other W13 (Nat.ne_of_lt (Nat.lt_of_lt_of_le V_o17.lt (Nat.le_of_eq g7.symm)))).other W14 (Nat.ne_of_lt (Nat.lt_of_lt_of_le V_o17.lt (Nat.le_of_eq g7.symm)))).other W15 (Nat.ne_of_lt (Nat.lt_of_lt_of_le V_o17.lt (Nat.le_of_eq g7.symm)))).other W16 (Nat.ne_of_lt (Nat.lt_of_lt_of_le V_o17.lt (Nat.le_of_eq g7.symm)))).other W17 (Nat.ne_of_lt (Nat.lt_of_lt_of_le V_o17.lt (Nat.le_of_eq g7.symm)))).lt (Nat.le_of_eq g18.symm)))).other W23 (Nat.ne_of_lt (Nat.lt_of_lt_of_le (((((((((((V_o17.ext E7).other W8 (Nat.ne_of_lt (Nat.lt_of_lt_of_le V_o17.lt (Nat.le_of_eq g7.symm)))).other W9 (Nat.ne_of_lt (Nat.lt_of_lt_of_le V_o17.lt (Nat.le_of_eq g7.symm)))).other W10 (Nat.ne_of_lt (Nat.lt_of_lt_of_le V_o17.lt (Nat.le_of_eq g7.symm)))).other W11 (Nat.ne_of_lt (Nat.lt_of_lt_of_le V_o17.lt (Nat.le_of_eq g7.symm)))).other W12 (Nat.ne_of_lt (Nat.lt_of_lt_of_le V_o17.lt (Nat.le_of_eq g7.symm)))).other W13 (Nat.ne_of_lt (Nat.lt_of_lt_of_le V_o17.lt (Nat.le_of_eq g7.symm)))).other W14 (Nat.ne_of_lt (Nat.lt_of_lt_of_le V_o17.lt (Nat.le_of_eq g7.symm)))).other W15 (Nat.ne_of_lt (Nat.lt_of_lt_of_le V_o17.lt (Nat.le_of_eq g7.symm)))).other W16 (Nat.ne_of_lt (Nat.lt_of_lt_of_le V_o17.lt (Nat.le_of_eq g7.symm)))).other W17 (Nat.ne_of_lt (Nat.lt_of_lt_of_le V_o17.lt (Nat.le_of_eq g7.symm)))).lt (Nat.le_of_eq g18.symm)))).other W24 (Nat.ne_of_lt (Nat.lt_of_lt_of_le (((((((((((V_o17.ext E7).other W8 (Nat.ne_of_lt (Nat.lt_of_lt_of_le V_o17.lt (Nat.le_of_eq g7.symm)))).other W9 (Nat.ne_of_lt (Nat.lt_of_lt_of_le V_o17.lt (Nat.le_of_eq g7.symm)))).other W10 (Nat.ne_of_lt (Nat.lt_of_lt_of_le V_o17.lt (Nat.le_of_eq g7.symm)))).other W11 (Nat.ne_of_lt (Nat.lt_of_lt_of_le V_o17.lt (Nat.le_of_eq g7.symm)))).other W12 (Nat.ne_of_lt (Nat.lt_of_lt_of_le V_o17.lt (Nat.le_of_eq g7.symm)))).other W13 (Nat.ne_of_lt (Nat.lt_of_lt_of_le V_o17.lt (Nat.le_of_eq g7.symm)))).other W14 (Nat.ne_of_lt (Nat.lt_of_lt_of_le V_o17.lt (Nat.le_of_eq g7.symm)))).other W15 (Nat.ne_of_lt (Nat.lt_of_lt_of_le V_o17.lt (Nat.le_of_eq g7.symm)))).other W16 (Nat.ne_of_lt (Nat.lt_of_lt_of_le V_o17.lt (Nat.le_of_eq g7.symm)))).other W17 (Nat.ne_of_lt (Nat.lt_of_lt_of_le V_o17.lt (Nat.le_of_eq g7.symm)))).lt (Nat.le_of_eq g18.symm)))).lt (Nat.le_of_eq g25.symm)))).other W30 (Nat.ne_of_lt (Nat.lt_of_lt_of_le ((((((((((((((((((V_o17.ext E7).other W8 (Nat.ne_of_lt (Nat.lt_of_lt_of_le V_o17.lt (Nat.le_of_eq g7.symm)))).other W9 (Nat.ne_of_lt (Nat.lt_of_lt_of_le V_o17.lt (Nat.le_of_eq g7.symm)))).other W10 (Nat.ne_of_lt (Nat.lt_of_lt_of_le V_o17.lt (Nat.le_of_eq g7.symm)))).other W11 (Nat.ne_of_lt (Nat.lt_of_lt_of_le V_o17.lt (Nat.le_of_eq g7.symm)))).other W12 (Nat.ne_of_lt (Nat.lt_of_lt_of_le V_o17.lt (Nat.le_of_eq g7.symm)))).other W13 (Nat.ne_of_lt (Nat.lt_of_lt_of_le V_o17.lt (Nat.le_of_eq g7.symm)))).other W14 (Nat.ne_of_lt (Nat.lt_of_lt_of_le V_o17.lt (Nat.le_of_eq g7.symm)))).other W15 (Nat.ne_of_lt (Nat.lt_of_lt_of_le V_o17.lt (Nat.le_of_eq g7.symm)))).other W16 (Nat.ne_of_lt (Nat.lt_of_lt_of_le V_o17.lt (Nat.le_of_eq g7.symm)))).other W17 (Nat.ne_of_lt (Nat.lt_of_lt_of_le V_o17.lt (Nat.le_of_eq g7.symm)))).ext E18).other W19 (Nat.ne_of_lt (Nat.lt_of_lt_of_le (((((((((((V_o17.ext E7).other W8 (Nat.ne_of_lt (Nat.lt_of_lt_of_le V_o17.lt (Nat.le_of_eq g7.symm)))).other W9 (Nat.ne_of_lt (Nat.lt_of_lt_of_le V_o17.lt (Nat.le_of_eq g7.symm)))).other W10 (Nat.ne_of_lt (Nat.lt_of_lt_of_le V_o17.lt (Nat.le_of_eq g7.symm)))).other W11 (Nat.ne_of_lt (Nat.lt_of_lt_of_le V_o17.lt (Nat.le_of_eq g7.symm)))).other W12 (Nat.ne_of_lt (Nat.lt_of_lt_of_le V_o17.lt (Nat.le_of_eq g7.symm)))).other W13 (Nat.ne_of_lt (Nat.lt_of_lt_of_le V_o17.lt (Nat.le_of_eq g7.symm)))).other W14 (Nat.ne_of_lt (Nat.lt_of_lt_of_le V_o17.lt (Nat.le_of_eq g7.symm)))).other W15 (Nat.ne_of_lt (Nat.lt_of_lt_of_le V_o17.lt (Nat.le_of_eq g7.symm)))).other W16 (Nat.ne_of_lt (Nat.lt_of_lt_of_le V_o17.lt (Nat.le_of_eq g7.symm)))).other W17 (Nat.ne_of_lt (Nat.lt_of_lt_of_le V_o17.lt (Nat.le_of_eq g7.symm)))).lt (Nat.le_of_eq g18.symm)))).other W20 (Nat.ne_of_lt (Nat.lt_of_lt_of_le (((((((((((V_o17.ext E7).other W8 (Nat.ne_of_lt (Nat.lt_of_lt_of_le V_o17.lt (Nat.le_of_eq g7.symm)))).other W9 (Nat.ne_of_lt (Nat.lt_of_lt_of_le V_o17.lt (Nat.le_of_eq g7.symm)))).other W10 (Nat.ne_of_lt (Nat.lt_of_lt_of_le V_o17.lt (Nat.le_of_eq g7.symm)))).other W11 (Nat.ne_of_lt (Nat.lt_of_lt_of_le V_o17.lt (Nat.le_of_eq g7.symm)))).other W12 (Nat.ne_of_lt (Nat.lt_of_lt_of_le V_o17.lt (Nat.le_of_eq g7.symm)))).other W13 (Nat.ne_of_lt (Nat.lt_of_lt_of_le V_o17.lt (Nat.le_of_eq g7.symm)))).other W14 (Nat.ne_of_lt (Nat.lt_of_lt_of_le V_o17.lt (Nat.le_of_eq g7.symm)))).other W15 (Nat.ne_of_lt (Nat.lt_of_lt_of_le V_o17.lt (Nat.le_of_eq g7.symm)))).other W16 (Nat.ne_of_lt (Nat.lt_of_lt_of_le V_o17.lt (Nat.le_of_eq g7.symm)))).other W17 (Nat.ne_of_lt (Nat.lt_of_lt_of_le V_o17.lt (Nat.le_of_eq g7.symm)))).lt (Nat.le_of_eq g18.symm)))).other W21 (Nat.ne_of_lt (Nat.lt_of_lt_of_le (((((((((((V_o17.ext E7).other W8 (Nat.ne_of_lt (Nat.lt_of_lt_of_le V_o17.lt (Nat.le_of_eq g7.symm)))).other W9 (Nat.ne_of_lt (Nat.lt_of_lt_of_le V_o17.lt (Nat.le_of_eq g7.symm)))).other W10 (Nat.ne_of_lt (Nat.lt_of_lt_of_le V_o17.lt (Nat.le_of_eq g7.symm)))).other W11 (Nat.ne_of_lt (Nat.lt_of_lt_of_le V_o17.lt (Nat.le_of_eq g7.symm)))).other W12 (Nat.ne_of_lt (Nat.lt_of_lt_of_le V_o17.lt (Nat.le_of_eq g7.symm)))).other W13 (Nat.ne_of_lt (Nat.lt_of_lt_of_le V_o17.lt (Nat.le_of_eq g7.symm)))).other W14 (Nat.ne_of_lt (Nat.lt_of_lt_of_le V_o17.lt (Nat.le_of_eq g7.symm)))).other W15 (Nat.ne_of_lt (Nat.lt_of_lt_of_le V_o17.lt (Nat.le_of_eq g7.symm)))).other W16 (Nat.ne_of_lt (Nat.lt_of_lt_of_le V_o17.lt (Nat.le_of_eq g7.symm)))).other W17 (Nat.ne_of_lt (Nat.lt_of_lt_of_le V_o17.lt (Nat.le_of_eq g7.symm)))).lt (Nat.le_of_eq g18.symm)))).other W22 (Nat.ne_of_lt (Nat.lt_of_lt_of_le (((((((((((V_o17.ext E7).other W8 (Nat.ne_of_lt (Nat.lt_of_lt_of_le V_o17.lt (Nat.le_of_eq g7.symm)))).other W9 (Nat.ne_of_lt (Nat.lt_of_lt_of_le V_o17.lt (Nat.le_of_eq g7.symm)))).other W10 (Nat.ne_of_lt (Nat.lt_of_lt_of_le V_o17.lt (Nat.le_of_eq g7.symm)))).other W11 (Nat.ne_of_lt (Nat.lt_of_lt_of_le V_o17.lt (Nat.le_of_eq g7.symm)))).other W12 (Nat.ne_of_lt (Nat.lt_of_lt_of_le V_o17.lt (Nat.le_of_eq g7.symm)))).other W13 (Nat.ne_of_lt (Nat.lt_of_lt_of_le V_o17.lt (Nat.le_of_eq g7.symm)))).other W14 (Nat.ne_of_lt (Nat.lt_of_lt_of_le V_o17.lt (Nat.le_of_eq g7.symm)))).other W15 (Nat.ne_of_lt (Nat.lt_of_lt_of_le V_o17.lt (Nat.le_of_eq g7.symm)))).other W16 (Nat.ne_of_lt (Nat.lt_of_lt_of_le V_o17.lt (Nat.le_of_eq g7.symm)))).other W17 (Nat.ne_of_lt (Nat.lt_of_lt_of_le V_o17.lt (Nat.le_of_eq g7.symm)))).lt (Nat.le_of_eq g18.symm)))).other W23 (Nat.ne_of_lt (Nat.lt_of_lt_of_le (((((((((((V_o17.ext E7).other W8 (Nat.ne_of_lt (Nat.lt_of_lt_of_le V_o17.lt (Nat.le_of_eq g7.symm)))).other W9 (Nat.ne_of_lt (Nat.lt_of_lt_of_le V_o17.lt (Nat.le_of_eq g7.symm)))).other W10 (Nat.ne_of_lt (Nat.lt_of_lt_of_le V_o17.lt (Nat.le_of_eq g7.symm)))).other W11 (Nat.ne_of_lt (Nat.lt_of_lt_of_le V_o17.lt (Nat.le_of_eq g7.symm)))).other W12 (Nat.ne_of_lt (Nat.lt_of_lt_of_le V_o17.lt (Nat.le_of_eq g7.symm)))).other W13 (Nat.ne_of_lt (Nat.lt_of_lt_of_le V_o17.lt (Nat.le_of_eq g7.symm)))).other W14 (Nat.ne_of_lt (Nat.lt_of_lt_of_le V_o17.lt (Nat.le_of_eq g7.symm)))).other W15 (Nat.ne_of_lt (Nat.lt_of_lt_of_le V_o17.lt (Nat.le_of_eq g7.symm)))).other W16 (Nat.ne_of_lt (Nat.lt_of_lt_of_le V_o17.lt (Nat.le_of_eq g7.symm)))).other W17 (Nat.ne_of_lt (Nat.lt_of_lt_of_le V_o17.lt (Nat.le_of_eq g7.symm)))).lt (Nat.le_of_eq g18.symm)))).other W24 (Nat.ne_of_lt (Nat.lt_of_lt_of_le (((((((((((V_o17.ext E7).other W8 (Nat.ne_of_lt (Nat.lt_of_lt_of_le V_o17.lt (Nat.le_of_eq g7.symm)))).other W9 (Nat.ne_of_lt (Nat.lt_of_lt_of_le V_o17.lt (Nat.le_of_eq g7.symm)))).other W10 (Nat.ne_of_lt (Nat.lt_of_lt_of_le V_o17.lt (Nat.le_of_eq g7.symm)))).other W11 (Nat.ne_of_lt (Nat.lt_of_lt_of_le V_o17.lt (Nat.le_of_eq g7.symm)))).other W12 (Nat.ne_of_lt (Nat.lt_of_lt_of_le V_o17.lt (Nat.le_of_eq g7.symm)))).other W13 (Nat.ne_of_lt (Nat.lt_of_lt_of_le V_o17.lt (Nat.le_of_eq g7.symm)))).other W14 (Nat.ne_of_lt (Nat.lt_of_lt_of_le V_o17.lt (Nat.le_of_eq g7.symm)))).other W15 (Nat.ne_of_lt (Nat.lt_of_lt_of_le V_o17.lt (Nat.le_of_eq g7.symm)))).other W16 (Nat.ne_of_lt (Nat.lt_of_lt_of_le V_o17.lt (Nat.le_of_eq g7.symm)))).other W17 (Nat.ne_of_lt (Nat.lt_of_lt_of_le V_o17.lt (Nat.le_of_eq g7.symm)))).lt (Nat.le_of_eq g18.symm)))).lt (Nat.le_of_eq g25.symm)))).other W31 (Nat.ne_of_lt (Nat.lt_of_lt_of_le ((((((((((((((((((V_o17.ext E7).other W8 (Nat.ne_of_lt (Nat.lt_of_lt_of_le V_o17.lt (Nat.le_of_eq g7.symm)))).other W9 (Nat.ne_of_lt (Nat.lt_of_lt_of_le V_o17.lt (Nat.le_of_eq g7.symm)))).other W10 (Nat.ne_of_lt (Nat.lt_of_lt_of_le V_o17.lt (Nat.le_of_eq g7.symm)))).other W11 (Nat.ne_of_lt (Nat.lt_of_lt_of_le V_o17.lt (Nat.le_of_eq g7.symm)))).other W12 (Nat.ne_of_lt (Nat.lt_of_lt_of_le V_o17.lt (Nat.le_of_eq g7.symm)))).other W13 (Nat.ne_of_lt (Nat.lt_of_lt_of_le V_o17.lt (Nat.le_of_eq g7.symm)))).other W14 (Nat.ne_of_lt (Nat.lt_of_lt_of_le V_o17.lt (Nat.le_of_eq g7.symm)))).other W15 (Nat.ne_of_lt (Nat.lt_of_lt_of_le V_o17.lt (Nat.le_of_eq g7.symm)))).other W16 (Nat.ne_of_lt (Nat.lt_of_lt_of_le V_o17.lt (Nat.le_of_eq g7.symm)))).other W17 (Nat.ne_of_lt (Nat.lt_of_lt_of_le V_o17.lt (Nat.le_of_eq g7.symm)))).ext E18).other W19 (Nat.ne_of_lt (Nat.lt_of_lt_of_le (((((((((((V_o17.ext E7).other W8 (Nat.ne_of_lt (Nat.lt_of_lt_of_le V_o17.lt (Nat.le_of_eq g7.symm)))).other W9 (Nat.ne_of_lt (Nat.lt_of_lt_of_le V_o17.lt (Nat.le_of_eq g7.symm)))).other W10 (Nat.ne_of_lt (Nat.lt_of_lt_of_le V_o17.lt (Nat.le_of_eq g7.symm)))).other W11 (Nat.ne_of_lt (Nat.lt_of_lt_of_le V_o17.lt (Nat.le_of_eq g7.symm)))).other W12 (Nat.ne_of_lt (Nat.lt_of_lt_of_le V_o17.lt (Nat.le_of_eq g7.symm)))).other W13 (Nat.ne_of_lt (Nat.lt_of_lt_of_le V_o17.lt (Nat.le_of_eq g7.symm)))).other W14 (Nat.ne_of_lt (Nat.lt_of_lt_of_le V_o17.lt (Nat.le_of_eq g7.symm)))).other W15 (Nat.ne_of_lt (Nat.lt_of_lt_of_le V_o17.lt (Nat.le_of_eq g7.symm)))).other W16 (Nat.ne_of_lt (Nat.lt_of_lt_of_le V_o17.lt (Nat.le_of_eq g7.symm)))).other W17 (Nat.ne_of_lt (Nat.lt_of_lt_of_le V_o17.lt (Nat.le_of_eq g7.symm)))).lt (Nat.le_of_eq g18.symm)))).other W20 (Nat.ne_of_lt (Nat.lt_of_lt_of_le (((((((((((V_o17.ext E7).other W8 (Nat.ne_of_lt (Nat.lt_of_lt_of_le V_o17.lt (Nat.le_of_eq g7.symm)))).other W9 (Nat.ne_of_lt (Nat.lt_of_lt_of_le V_o17.lt (Nat.le_of_eq g7.symm)))).other W10 (Nat.ne_of_lt (Nat.lt_of_lt_of_le V_o17.lt (Nat.le_of_eq g7.symm)))).other W11 (Nat.ne_of_lt (Nat.lt_of_lt_of_le V_o17.lt (Nat.le_of_eq g7.symm)))).other W12 (Nat.ne_of_lt (Nat.lt_of_lt_of_le V_o17.lt (Nat.le_of_eq g7.symm)))).other W13 (Nat.ne_of_lt (Nat.lt_of_lt_of_le V_o17.lt (Nat.le_of_eq g7.symm)))).other W14 (Nat.ne_of_lt (Nat.lt_of_lt_of_le V_o17.lt (Nat.le_of_eq g7.symm)))).other W15 (Nat.ne_of_lt (Nat.lt_of_lt_of_le V_o17.lt (Nat.le_of_eq g7.symm)))).other W16 (Nat.ne_of_lt (Nat.lt_of_lt_of_le V_o17.lt (Nat.le_of_eq g7.symm)))).other W17 (Nat.ne_of_lt (Nat.lt_of_lt_of_le V_o17.lt (Nat.le_of_eq g7.symm)))).lt (Nat.le_of_eq g18.symm)))).other W21 (Nat.ne_of_lt (Nat.lt_of_lt_of_le (((((((((((V_o17.ext E7).other W8 (Nat.ne_of_lt (Nat.lt_of_lt_of_le V_o17.lt (Nat.le_of_eq g7.symm)))).other W9 (Nat.ne_of_lt (Nat.lt_of_lt_of_le V_o17.lt (Nat.le_of_eq g7.symm)))).other W10 (Nat.ne_of_lt (Nat.lt_of_lt_of_le V_o17.lt (Nat.le_of_eq g7.symm)))).other W11 (Nat.ne_of_lt (Nat.lt_of_lt_of_le V_o17.lt (Nat.le_of_eq g7.symm)))).other W12 (Nat.ne_of_lt (Nat.lt_of_lt_of_le V_o17.lt (Nat.le_of_eq g7.symm)))).other W13 (Nat.ne_of_lt (Nat.lt_of_lt_of_le V_o17.lt (Nat.le_of_eq g7.symm)))).other W14 (Nat.ne_of_lt (Nat.lt_of_lt_of_le V_o17.lt (Nat.le_of_eq g7.symm)))).other W15 (Nat.ne_of_lt (Nat.lt_of_lt_of_le V_o17.lt (Nat.le_of_eq g7.symm)))).other W16 (Nat.ne_of_lt (Nat.lt_of_lt_of_le V_o17.lt (Nat.le_of_eq g7.symm)))).other W17 (Nat.ne_of_lt (Nat.lt_of_lt_of_le V_o17.lt (Nat.le_of_eq g7.symm)))).lt (Nat.le_of_eq g18.symm)))).other W22 (Nat.ne_of_lt (Nat.lt_of_lt_of_le (((((((((((V_o17.ext E7).other W8 (Nat.ne_of_lt (Nat.lt_of_lt_of_le V_o17.lt (Nat.le_of_eq g7.symm)))).other W9 (Nat.ne_of_lt (Nat.lt_of_lt_of_le V_o17.lt (Nat.le_of_eq g7.symm)))).other W10 (Nat.ne_of_lt (Nat.lt_of_lt_of_le V_o17.lt (Nat.le_of_eq g7.symm)))).other W11 (Nat.ne_of_lt (Nat.lt_of_lt_of_le V_o17.lt (Nat.le_of_eq g7.symm)))).other W12 (Nat.ne_of_lt (Nat.lt_of_lt_of_le V_o17.lt (Nat.le_of_eq g7.symm)))).other W13 (Nat.ne_of_lt (Nat.lt_of_lt_of_le V_o17.lt (Nat.le_of_eq g7.symm)))).other W14 (Nat.ne_of_lt (Nat.lt_of_lt_of_le V_o17.lt (Nat.le_of_eq g7.symm)))).other W15 (Nat.ne_of_lt (Nat.lt_of_lt_of_le V_o17.lt (Nat.le_of_eq g7.symm)))).other W16 (Nat.ne_of_lt (Nat.lt_of_lt_of_le V_o17.lt (Nat.le_of_eq g7.symm)))).other W17 (Nat.ne_of_lt (Nat.lt_of_lt_of_le V_o17.lt (Nat.le_of_eq g7.symm)))).lt (Nat.le_of_eq g18.symm)))).other W23 (Nat.ne_of_lt (Nat.lt_of_lt_of_le (((((((((((V_o17.ext E7).other W8 (Nat.ne_of_lt (Nat.lt_of_lt_of_le V_o17.lt (Nat.le_of_eq g7.symm)))).other W9 (Nat.ne_of_lt (Nat.lt_of_lt_of_le V_o17.lt (Nat.le_of_eq g7.symm)))).other W10 (Nat.ne_of_lt (Nat.lt_of_lt_of_le V_o17.lt (Nat.le_of_eq g7.symm)))).other W11 (Nat.ne_of_lt (Nat.lt_of_lt_of_le V_o17.lt (Nat.le_of_eq g7.symm)))).other W12 (Nat.ne_of_lt (Nat.lt_of_lt_of_le V_o17.lt (Nat.le_of_eq g7.symm)))).other W13 (Nat.ne_of_lt (Nat.lt_of_lt_of_le V_o17.lt (Nat.le_of_eq g7.symm)))).other W14 (Nat.ne_of_lt (Nat.lt_of_lt_of_le V_o17.lt (Nat.le_of_eq g7.symm)))).other W15 (Nat.ne_of_lt (Nat.lt_of_lt_of_le V_o17.lt (Nat.le_of_eq g7.symm)))).other W16 (Nat.ne_of_lt (Nat.lt_of_lt_of_le V_o17.lt (Nat.le_of_eq g7.symm)))).other W17 (Nat.ne_of_lt (Nat.lt_of_lt_of_le V_o17.lt (Nat.le_of_eq g7.symm)))).lt (Nat.le_of_eq g18.symm)))).other W24 (Nat.ne_of_lt (Nat.lt_of_lt_of_le (((((((((((V_o17.ext E7).other W8 (Nat.ne_of_lt (Nat.lt_of_lt_of_le V_o17.lt (Nat.le_of_eq g7.symm)))).other W9 (Nat.ne_of_lt (Nat.lt_of_lt_of_le V_o17.lt (Nat.le_of_eq g7.symm)))).other W10 (Nat.ne_of_lt (Nat.lt_of_lt_of_le V_o17.lt (Nat.le_of_eq g7.symm)))).other W11 (Nat.ne_of_lt (Nat.lt_of_lt_of_le V_o17.lt (Nat.le_of_eq g7.symm)))).other W12 (Nat.ne_of_lt (Nat.lt_of_lt_of_le V_o17.lt (Nat.le_of_eq g7.symm)))).other W13 (Nat.ne_of_lt (Nat.lt_of_lt_of_le V_o17.lt (Nat.le_of_eq g7.symm)))).other W14 (Nat.ne_of_lt (Nat.lt_of_lt_of_le V_o17.lt (Nat.le_of_eq g7.symm)))).other W15 (Nat.ne_of_lt (Nat.lt_of_lt_of_le V_o17.lt (Nat.le_of_eq g7.symm)))).other W16 (Nat.ne_of_lt (Nat.lt_of_lt_of_le V_o17.lt (Nat.le_of_eq g7.symm)))).other W17 (Nat.ne_of_lt (Nat.lt_of_lt_of_le V_o17.lt (Nat.le_of_eq g7.symm)))).lt (Nat.le_of_eq g18.symm)))).lt (Nat.le_of_eq g25.symm))))
  have Eend_o16 := (((((((((((((((((((((((((E_o16.ext E7).wr W8).wr W9).wr W10).wr W11).wr W12).wr W13).wr W14).wr W15).wr W16).wr W17).ext E18).wr W19).wr W20).wr W21).wr W22).wr W23).wr W24).ext E25).wr W26).wr W27).wr W28).wr W29).wr W30).wr W31)
  have Vend_b7 := ((((((((((((((V_b7_17.ext E18).other W19 (Nat.ne_of_lt (Nat.lt_of_lt_of_le V_b7_17.lt (Nat.le_of_eq g18.symm)))).other W20 (Nat.ne_of_lt (Nat.lt_of_lt_of_le V_b7_17.lt (Nat.le_of_eq g18.symm)))).other W21 (Nat.ne_of_lt (Nat.lt_of_lt_of_le V_b7_17.lt (Nat.le_of_eq g18.symm)))).other W22 (Nat.ne_of_lt (Nat.lt_of_lt_of_le V_b7_17.lt (Nat.le_of_eq g18.symm)))).other W23 (Nat.ne_of_lt (Nat.lt_of_lt_of_le V_b7_17.lt (Nat.le_of_eq g18.symm)))).other W24 (Nat.ne_of_lt (Nat.lt_of_lt_of_le V_b7_17.lt (Nat.le_of_eq g18.symm)))).ext E25).other W26 (Nat.ne_of_lt (Nat.lt_of_lt_of_le (((((((V_b7_17.ext E18).other W19 (Nat.ne_of_lt (Nat.lt_of_lt_of_le V_b7_17.lt (Nat.le_of_eq g18.symm)))).other W20 (Nat.ne_of_lt (Nat.lt_of_lt_of_le V_b7_17.lt (Nat.le_of_eq g18.symm)))).other W21 (Nat.ne_of_lt (Nat.lt_of_lt_of_le V_b7_17.lt (Nat.le_of_eq g18.symm)))).other W22 (Nat.ne_of_lt (Nat.lt_of_lt_of_le V_b7_17.lt (Nat.le_of_eq g18.symm)))).other W23 (Nat.ne_of_lt (Nat.lt_of_lt_of_le V_b7_17.lt (Nat.le_of_eq g18.symm)))).other W24 (Nat.ne_of_lt (Nat.lt_of_lt_of_le V_b7_17.lt (Nat.le_of_eq g18.symm)))).lt (Nat.le_of_eq g25.symm)))).other W27 (Nat.ne_of_lt (Nat.lt_of_lt_of_le (((((((V_b7_17.ext E18).other W19 (Nat.ne_of_lt (Nat.lt_of_lt_of_le V_b7_17.lt (Nat.le_of_eq g18.symm)))).other W20 (Nat.ne_of_lt (Nat.lt_of_lt_of_le V_b7_17.lt (Nat.le_of_eq g18.symm)))).other W21 (Nat.ne_of_lt (Nat.lt_of_lt_of_le V_b7_17.lt (Nat.le_of_eq g18.symm)))).other W22 (Nat.ne_of_lt (Nat.lt_of_lt_of_le V_b7_17.lt (Nat.le_of_eq g18.symm)))).other W23 (Nat.ne_of_lt (Nat.lt_of_lt_of_le V_b7_17.lt (Nat.le_of_eq g18.symm)))).other W24 (Nat.ne_of_lt (Nat.lt_of_lt_of_le V_b7_17.lt (Nat.le_of_eq g18.symm)))).lt (Nat.le_of_eq g25.symm)))).other W28 (Nat.ne_of_lt (Nat.lt_of_lt_of_le (((((((V_b7_17.ext E18).other W19 (Nat.ne_of_lt (Nat.lt_of_lt_of_le V_b7_17.lt (Nat.le_of_eq g18.symm)))).other W20 (Nat.ne_of_lt (Nat.lt_of_lt_of_le V_b7_17.lt (Nat.le_of_eq g18.symm)))).other W21 (Nat.ne_of_lt (Nat.lt_of_lt_of_le V_b7_17.lt (Nat.le_of_eq g18.symm)))).other W22 (Nat.ne_of_lt (Nat.lt_of_lt_of_le V_b7_17.lt (Nat.le_of_eq g18.symm)))).other W23 (Nat.ne_of_lt (Nat.lt_of_lt_of_le V_b7_17.lt (Nat.le_of_eq g18.symm)))).other W24 (Nat.ne_of_lt (Nat.lt_of_lt_of_le V_b7_17.lt (Nat.le_of_eq g18.symm)))).lt (Nat.le_of_eq g25.symm)))).other W29 (Nat.ne_of_lt (Nat.lt_of_lt_of_le (((((((V_b7_17.ext E18).other W19 (Nat.ne_of_lt (Nat.lt_of_lt_of_le V_b7_17.lt (Nat.le_of_eq g18.symm)))).other W20 (Nat.ne_of_lt (Nat.lt_of_lt_of_le V_b7_17.lt (Nat.le_of_eq g18.symm)))).other W21 (Nat.ne_of_lt (Nat.lt_of_lt_of_le V_b7_17.lt (Nat.le_of_eq g18.symm)))).other W22 (Nat.ne_of_lt (Nat.lt_of_lt_of_le V_b7_17.lt (Nat.le_of_eq g18.symm)))).other W23 (Nat.ne_of_lt (Nat.lt_of_lt_of_le V_b7_17.lt (Nat.le_of_eq g18.symm)))).other W24 (Nat.ne_of_lt (Nat.lt_of_lt_of_le V_b7_17.lt (Nat.le_of_eq g18.symm)))).lt (Nat.le_of_eq g25.symm)))).other W30 (Nat.ne_of_lt (Nat.lt_of_lt_of_le (((((((V_b7_17.ext E18).other W19 (Nat.ne_of_lt (Nat.lt_of_lt_of_le V_b7_17.lt (Nat.le_of_eq g18.symm)))).other W20 (Nat.ne_of_lt (Nat.lt_of_lt_of_le V_b7_17.lt (Nat.le_of_eq g18.symm)))).other W21 (Nat.ne_of_lt (Nat.lt_of_lt_of_le V_b7_17.lt (Nat.le_of_eq g18.symm)))).other W22 (Nat.ne_of_lt (Nat.lt_of_lt_of_le V_b7_17.lt (Nat.le_of_eq g18.symm)))).other W23 (Nat.ne_of_lt (Nat.lt_of_lt_of_le V_b7_17.lt (Nat.le_of_eq g18.symm)))).other W24 (Nat.ne_of_lt (Nat.lt_of_lt_of_le V_b7_17.lt (Nat.le_of_eq g18.symm)))).lt (Nat.le_of_eq g25.symm)))).other W31 (Nat.ne_of_lt (Nat.lt_of_lt_of_le (((((((V_b7_17.ext E18).other W19 (Nat.ne_of_lt (Nat.lt_of_lt_of_le V_b7_17.lt (Nat.le_of_eq g18.symm)))).other W20 (Nat.ne_of_lt (Nat.lt_of_lt_of_le V_b7_17.lt (Nat.le_of_eq g18.symm)))).other W21 (Nat.ne_of_lt (Nat.lt_of_lt_of_le V_b7_17.lt (Nat.le_of_eq g18.symm)))).other W22 (Nat.ne_of_lt (Nat.lt_of_lt_of_le V_b7_17.lt (Nat.le_of_eq g18.symm)))).other W23 (Nat.ne_of_lt (Nat.lt_of_lt_of_le V_b7_17.lt (Nat.le_of_eq g18.symm)))).other W24 (Nat.ne_of_lt (Nat.lt_of_lt_of_le V_b7_17.lt (Nat.le_of_eq g18.symm)))).lt (Nat.le_of_eq g25.symm))))
  have Vend_b18 := (((((((V_b18_24.ext E25).other W26 (Nat.ne_of_lt (Nat.lt_of_lt_of_le V_b18_24.lt (Nat.le_of_eq g25.symm)))).other W27 (Nat.ne_of_lt (Nat.lt_of_lt_of_le V_b18_24.lt (Nat.le_of_eq g25.symm)))).other W28 (Nat.ne_of_lt (Nat.lt_of_lt_of_le V_b18_24.lt (Nat.le_of_eq g25.symm)))).other W29 (Nat.ne_of_lt (Nat.lt_of_lt_of_le V_b18_24.lt (Nat.le_of_eq g25.symm)))).other W30 (Nat.ne_of_lt (Nat.lt_of_lt_of_le V_b18_24.lt (Nat.le_of_eq g25.symm)))).other W31 (Nat.ne_of_lt (Nat.lt_of_lt_of_le V_b18_24.lt (Nat.le_of_eq g25.symm))))
  have Vend_b25 := V_b25_31
  have ne_o16_b7 : o16 ≠ b7 := (Nat.ne_of_lt (Nat.lt_of_lt_of_le V_o16.lt (Nat.le_of_eq g7.symm)))
  have ne_o17_b7 : o17 ≠ b7 := (Nat.ne_of_lt (Nat.lt_of_lt_of_le V_o17.lt (Nat.le_of_eq g7.symm)))
  have ne_o16_b18 : o16 ≠ b18 := (Nat.ne_of_lt (Nat.lt_of_lt_of_le (((((((((((V_o16.ext E7).other W8 (Nat.ne_of_lt (Nat.lt_of_lt_of_le V_o16.lt (Nat.le_of_eq g7.symm)))).other W9 (Nat.ne_of_lt (Nat.lt_of_lt_of_le V_o16.lt (Nat.le_of_eq g7.symm)))).other W10 (Nat.ne_of_lt (Nat.lt_of_lt_of_le V_o16.lt (Nat.le_of_eq g7.symm)))).other W11 (Nat.ne_of_lt (Nat.lt_of_lt_of_le V_o16.lt (Nat.le_of_eq g7.symm)))).other W12 (Nat.ne_of_lt (Nat.lt_of_lt_of_le V_o16.lt (Nat.le_of_eq g7.symm)))).other W13 (Nat.ne_of_lt (Nat.lt_of_lt_of_le V_o16.lt (Nat.le_of_eq g7.symm)))).other W14 (Nat.ne_of_lt (Nat.lt_of_lt_of_le V_o16.lt (Nat.le_of_eq g7.symm)))).other W15 (Nat.ne_of_lt (Nat.lt_of_lt_of_le V_o16.lt (Nat.le_of_eq g7.symm)))).other W16 (Nat.ne_of_lt (Nat.lt_of_lt_of_le V_o16.lt (Nat.le_of_eq g7.symm)))).other W17 (Nat.ne_of_lt (Nat.lt_of_lt_of_le V_o16.lt (Nat.le_of_eq g7.symm)))).lt (Nat.le_of_eq g18.symm)))
  have ne_o17_b18 : o17 ≠ b18 := (Nat.ne_of_lt (Nat.lt_of_lt_of_le (((((((((((V_o17.ext E7).other W8 (Nat.ne_of_lt (Nat.lt_of_lt_of_le V_o17.lt (Nat.le_of_eq g7.symm)))).other W9 (Nat.ne_of_lt (Nat.lt_of_lt_of_le V_o17.lt (Nat.le_of_eq g7.symm)))).other W10 (Nat.ne_of_lt (Nat.lt_of_lt_of_le V_o17.lt (Nat.le_of_eq g7.symm)))).other W11 (Nat.ne_of_lt (Nat.lt_of_lt_of_le V_o17.lt (Nat.le_of_eq g7.symm)))).other W12 (Nat.ne_of_lt (Nat.lt_of_lt_of_le V_o17.lt (Nat.le_of_eq g7.symm)))).other W13 (Nat.ne_of_lt (Nat.lt_of_lt_of_le V_o17.lt (Nat.le_of_eq g7.symm)))).other W14 (Nat.ne_of_lt (Nat.lt_of_lt_of_le V_o17.lt (Nat.le_of_eq g7.symm)))).other W15 (Nat.ne_of_lt (Nat.lt_of_lt_of_le V_o17.lt (Nat.le_of_eq g7.symm)))).other W16 (Nat.ne_of_lt (Nat.lt_of_lt_of_le V_o17.lt (Nat.le_of_eq g7.symm)))).other W17 (Nat.ne_of_lt (Nat.lt_of_lt_of_le V_o17.lt (Nat.le_of_eq g7.symm)))).lt (Nat.le_of_eq g18.symm)))
  have ne_b7_b18 : b7 ≠ b18 := (Nat.ne_of_lt (Nat.lt_of_lt_of_le V_b7_17.lt (Nat.le_of_eq g18.symm)))
  have ne_o16_b25 : o16 ≠ b25 := (Nat.ne_of_lt (Nat.lt_of_lt_of_le ((((((((((((((((((V_o16.ext E7).other W8 (Nat.ne_of_lt (Nat.lt_of_lt_of_le V_o16.lt (Nat.le_of_eq g7.symm)))).other W9 (Nat.ne_of_lt (Nat.lt_of_lt_of_le V_o16.lt (Nat.le_of_eq g7.symm)))).other W10 (Nat.ne_of_lt (Nat.lt_of_lt_of_le V_o16.lt (Nat.le_of_eq g7.symm)))).other W11 (Nat.ne_of_lt (Nat.lt_of_lt_of_le V_o16.lt (Nat.le_of_eq g7.symm)))).other W12 (Nat.ne_of_lt (Nat.lt_of_lt_of_le V_o16.lt (Nat.le_of_eq g7.symm)))).other W13 (Nat.ne_of_lt (Nat.lt_of_lt_of_le V_o16.lt (Nat.le_of_eq g7.symm)))).other W14 (Nat.ne_of_lt (Nat.lt_of_lt_of_le V_o16.lt (Nat.le_of_eq g7.symm)))).other W15 (Nat.ne_of_lt (Nat.lt_of_lt_of_le V_o16.lt (Nat.le_of_eq g7.symm)))).other W16 (Nat.ne_of_lt (Nat.lt_of_lt_of_le V_o16.lt (Nat.le_of_eq g7.symm)))).other W17 (Nat.ne_of_lt (Nat.lt_of_lt_of_le V_o16.lt (Nat.le_of_eq g7.symm)))).ext E18).other W19 (Nat.ne_of_lt (Nat.lt_of_lt_of_le (((((((((((V_o16.ext E7).other W8 (Nat.ne_of_lt (Nat.lt_of_lt_of_le V_o16.lt (Nat.le_of_eq g7.symm)))).other W9 (Nat.ne_of_lt (Nat.lt_of_lt_of_le V_o16.lt (Nat.le_of_eq g7.symm)))).other W10 (Nat.ne_of_lt (Nat.lt_of_lt_of_le V_o16.lt (Nat.le_of_eq g7.symm)))).other W11 (Nat.ne_of_lt (Nat.lt_of_lt_of_le V_o16.lt (Nat.le_of_eq g7.symm)))).other W12 (Nat.ne_of_lt (Nat.lt_of_lt_of_le V_o16.lt (Nat.le_of_eq g7.symm)))).other W13 (Nat.ne_of_lt (Nat.lt_of_lt_of_le V_o16.lt (Nat.le_of_eq g7.symm)))).other W14 (Nat.ne_of_lt (Nat.lt_of_lt_of_le V_o16.lt (Nat.le_of_eq g7.symm)))).other W15 (Nat.ne_of_lt (Nat.lt_of_lt_of_le V_o16.lt (Nat.le_of_eq g7.symm)))).other W16 (Nat.ne_of_lt (Nat.lt_of_lt_of_le V_o16.lt (Nat.le_of_eq g7.symm)))).other W17 (Nat.ne_of_lt (Nat.lt_of_lt_of_le V_o16.lt (Nat.le_of_eq g7.symm)))).lt (Nat.le_of_eq g18.symm)))).other W20 (Nat.ne_of_lt (Nat.lt_of_lt_of_le (((((((((((V_o16.ext E7).other W8 (Nat.ne_of_lt (Nat.lt_of_lt_of_le V_o16.lt (Nat.le_of_eq g7.symm)))).other W9 (Nat.ne_of_lt (Nat.lt_of_lt_of_le V_o16.lt (Nat.le_of_eq g7.symm)))).other W10 (Nat.ne_of_lt (Nat.lt_of_lt_of_le V_o16.lt (Nat.le_of_eq g7.symm)))).other W11 (Nat.ne_of_lt (Nat.lt_of_lt_of_le V_o16.lt (Nat.le_of_eq g7.symm)))).other W12 (Nat.ne_of_lt (Nat.lt_of_lt_of_le V_o16.lt (Nat.le_of_eq g7.symm)))).other W13 (Nat.ne_of_lt (Nat.lt_of_lt_of_le V_o16.lt (Nat.le_of_eq g7.symm)))).other W14 (Nat.ne_of_lt (Nat.lt_of_lt_of_le V_o16.lt (Nat.le_of_eq g7.symm)))).other W15 (Nat.ne_of_lt (Nat.lt_of_lt_of_le V_o16.lt (Nat.le_of_eq g7.symm)))).other W16 (Nat.ne_of_lt (Nat.lt_of_lt_of_le V_o16.lt (Nat.le_of_eq g7.symm)))).other W17 (Nat.ne_of_lt (Nat.lt_of_lt_of_le V_o16.lt (Nat.le_of_eq g7.symm)))).lt (Nat.le_of_eq g18.symm)))).other W21 (Nat.ne_of_lt (Nat.lt_of_lt_of_le (((((((((((V_o16.ext E7).other W8 (Nat.ne_of_lt (Nat.lt_of_lt_of_le V_o16.lt (Nat.le_of_eq g7.symm)))).other W9 (Nat.ne_of_lt (Nat.lt_of_lt_of_le V_o16.lt (Nat.le_of_eq g7.symm)))).other W10 (Nat.ne_of_lt (Nat.lt_of_lt_of_le V_o16.lt (Nat.le_of_eq g7.symm)))).other W11 (Nat.ne_of_lt (Nat.lt_of_lt_of_le V_o16.lt (Nat.le_of_eq g7.symm)))).other W12 (Nat.ne_of_lt (Nat.lt_of_lt_of_le V_o16.lt (Nat.le_of_eq g7.symm)))).other W13 (Nat.ne_of_lt (Nat.lt_of_lt_of_le V_o16.lt (Nat.le_of_eq g7.symm)))).other W14 (Nat.ne_of_lt (Nat.lt_of_lt_of_le V_o16.lt (Nat.le_of_eq g7.symm)))).other W15 (Nat.ne_of_lt (Nat.lt_of_lt_of_le V_o16.lt (Nat.le_of_eq g7.symm)))).other W16 (Nat.ne_of_lt (Nat.lt_of_lt_of_le V_o16.lt (Nat.le_of_eq g7.symm)))).other W17 (Nat.ne_of_lt (Nat.lt_of_lt_of_le V_o16.lt (Nat.le_of_eq g7.symm)))).lt (Nat.le_of_eq g18.symm)))).other W22 (Nat.ne_of_lt (Nat.lt_of_lt_of_le (((((((((((V_o16.ext E7).other W8 (Nat.ne_of_lt (Nat.lt_of_lt_of_le V_o16.lt (Nat.le_of_eq g7.symm)))).other W9 (Nat.ne_of_lt (Nat.lt_of_lt_of_le V_o16.lt (Nat.le_of_eq g7.symm)))).other W10 (Nat.ne_of_lt (Nat.lt_of_lt_of_le V_o16.lt (Nat.le_of_eq g7.symm)))).other W11 (Nat.ne_of_lt (Nat.lt_of_lt_of_le V_o16.lt (Nat.le_of_eq g7.symm)))).other W12 (Nat.ne_of_lt (Nat.lt_of_lt_of_le V_o16.lt (Nat.le_of_eq g7.symm)))).other W13 (Nat.ne_of_lt (Nat.lt_of_lt_of_le V_o16.lt (Nat.le_of_eq g7.symm)))).other W14 (Nat.ne_of_lt (Nat.lt_of_lt_of_le V_o16.lt (Nat.le_of_eq g7.symm)))).other W15 (Nat.ne_of_lt (Nat.lt_of_lt_of_le V_o16.lt (Nat.le_of_eq g7.symm)))).other W16 (Nat.ne_of_lt (Nat.lt_of_lt_of_le V_o16.lt (Nat.le_of_eq g7.symm)))).other W17 (Nat.ne_of_lt (Nat.lt_of_lt_of_le V_o16.lt (Nat.le_of_eq g7.symm)))).lt (Nat.le_of_eq g18.symm)))).other W23 (Nat.ne_of_lt (Nat.lt_of_lt_of_le (((((((((((V_o16.ext E7).other W8 (Nat.ne_of_lt (Nat.lt_of_lt_of_le V_o16.lt (Nat.le_of_eq g7.symm)))).other W9 (Nat.ne_of_lt (Nat.lt_of_lt_of_le V_o16.lt (Nat.le_of_eq g7.symm)))).other W10 (Nat.ne_of_lt (Nat.lt_of_lt_of_le V_o16.lt (Nat.le_of_eq g7.symm)))).other W11 (Nat.ne_of_lt (Nat.lt_of_lt_of_le V_o16.lt (Nat.le_of_eq g7.symm)))).other W12 (Nat.ne_of_lt (Nat.lt_of_lt_of_le V_o16.lt (Nat.le_of_eq g7.symm)))).other W13 (Nat.ne_of_lt (Nat.lt_of_lt_of_le V_o16.lt (Nat.le_of_eq g7.symm)))).other W14 (Nat.ne_of_lt (Nat.lt_of_lt_of_le V_o16.lt (Nat.le_of_eq g7.symm)))).other W15 (Nat.ne_of_lt (Nat.lt_of_lt_of_le V_o16.lt (Nat.le_of_eq g7.symm)))).other W16 (Nat.ne_of_lt (Nat.lt_of_lt_of_le V_o16.lt (Nat.le_of_eq g7.symm)))).other W17 (Nat.ne_of_lt (Nat.lt_of_lt_of_le V_o16.lt (Nat.le_of_eq g7.symm)))).lt (Nat.le_of_eq g18.symm)))).other W24 (Nat.ne_of_lt (Nat.lt_of_lt_of_le (((((((((((V_o16.ext E7).other W8 (Nat.ne_of_lt (Nat.lt_of_lt_of_le V_o16.lt (Nat.le_of_eq g7.symm)))).other W9 (Nat.ne_of_lt (Nat.lt_of_lt_of_le V_o16.lt (Nat.le_of_eq g7.symm)))).other W10 (Nat.ne_of_lt (Nat.lt_of_lt_of_le V_o16.lt (Nat.le_of_eq g7.symm)))).other W11 (Nat.ne_of_lt (Nat.lt_of_lt_of_le V_o16.lt (Nat.le_of_eq g7.symm)))).other W12 (Nat.ne_of_lt (Nat.lt_of_lt_of_le V_o16.lt (Nat.le_of_eq g7.symm)))).other W13 (Nat.ne_of_lt (Nat.lt_of_lt_of_le V_o16.lt (Nat.le_of_eq g7.symm)))).other W14 (Nat.ne_of_lt (Nat.lt_of_lt_of_le V_o16.lt (Nat.le_of_eq g7.symm)))).other W15 (Nat.ne_of_lt (Nat.lt_of_lt_of_le V_o16.lt (Nat.le_of_eq g7.symm)))).other W16 (Nat.ne_of_lt (Nat.lt_of_lt_of_le V_o16.lt (Nat.le_of_eq g7.symm)))).other W17 (Nat.ne_of_lt (Nat.lt_of_lt_of_le V_o16.lt (Nat.le_of_eq g7.symm)))).lt (Nat.le_of_eq g18.symm)))).lt (Nat.le_of_eq g25.symm)))
  have ne_o17_b25 : o17 ≠ b25 := (Nat.ne_of_lt (Nat.lt_of_lt_of_le ((((((((((((((((((V_o17.ext E7).other W8 (Nat.ne_of_lt (Nat.lt_of_lt_of_le V_o17.lt (Nat.le_of_eq g7.symm)))).other W9 (Nat.ne_of_lt (Nat.lt_of_lt_of_le V_o17.lt (Nat.le_of_eq g7.symm)))).other W10 (Nat.ne_of_lt (Nat.lt_of_lt_of_le V_o17.lt (Nat.le_of_eq g7.symm)))).other W11 (Nat.ne_of_lt (Nat.lt_of_lt_of_le V_o17.lt (Nat.le_of_eq g7.symm)))).other W12 (Nat.ne_of_lt (Nat.lt_of_lt_of_le V_o17.lt (Nat.le_of_eq g7.symm)))).other W13 (Nat.ne_of_lt (Nat.lt_of_lt_of_le V_o17.lt (Nat.le_of_eq g7.symm)))).other W14 (Nat.ne_of_lt (Nat.lt_of_lt_of_le V_o17.lt (Nat.le_of_eq g7.symm)))).other W15 (Nat.ne_of_lt (Nat.lt_of_lt_of_le V_o17.lt (Nat.le_of_eq g7.symm)))).other W16 (Nat.ne_of_lt (Nat.lt_of_lt_of_le V_o17.lt (Nat.le_of_eq g7.symm)))).other W17 (Nat.ne_of_lt (Nat.lt_of_lt_of_le V_o17.lt (Nat.le_of_eq g7.symm)))).ext E18).other W19 (Nat.ne_of_lt (Nat.lt_of_lt_of_le (((((((((((V_o17.ext E7).other W8 (Nat.ne_of_lt (Nat.lt_of_lt_of_le V_o17.lt (Nat.le_of_eq g7.symm)))).other W9 (Nat.ne_of_lt (Nat.lt_of_lt_of_le V_o17.lt (Nat.le_of_eq g7.symm)))).other W10 (Nat.ne_of_lt (Nat.lt_of_lt_of_le V_o17.lt (Nat.le_of_eq g7.symm)))).other W11 (Nat.ne_of_lt (Nat.lt_of_lt_of_le V_o17.lt (Nat.le_of_eq g7.symm)))).other W12 (Nat.ne_of_lt (Nat.lt_of_lt_of_le V_o17.lt (Nat.le_of_eq g7.symm)))).other W13 (Nat.ne_of_lt (Nat.lt_of_lt_of_le V_o17.lt (Nat.le_of_eq g7.symm)))).other W14 (Nat.ne_of_lt (Nat.lt_of_lt_of_le V_o17.lt (Nat.le_of_eq g7.symm)))).other W15 (Nat.ne_of_lt (Nat.lt_of_lt_of_le V_o17.lt (Nat.le_of_eq g7.symm)))).other W16 (Nat.ne_of_lt (Nat.lt_of_lt_of_le V_o17.lt (Nat.le_of_eq g7.symm)))).other W17 (Nat.ne_of_lt (Nat.lt_of_lt_of_le V_o17.lt (Nat.le_of_eq g7.symm)))).lt (Nat.le_of_eq g18.symm)))).other W20 (Nat.ne_of_lt (Nat.lt_of_lt_of_le (((((((((((V_o17.ext E7).other W8 (Nat.ne_of_lt (Nat.lt_of_lt_of_le V_o17.lt (Nat.le_of_eq g7.symm)))).other W9 (Nat.ne_of_lt (Nat.lt_of_lt_of_le V_o17.lt (Nat.le_of_eq g7.symm)))).other W10 (Nat.ne_of_lt (Nat.lt_of_lt_of_le V_o17.lt (Nat.le_of_eq g7.symm)))).other W11 (Nat.ne_of_lt (Nat.lt_of_lt_of_le V_o17.lt (Nat.le_of_eq g7.symm)))).other W12 (Nat.ne_of_lt (Nat.lt_of_lt_of_le V_o17.lt (Nat.le_of_eq g7.symm)))).other W13 (Nat.ne_of_lt (Nat.lt_of_lt_of_le V_o17.lt (Nat.le_of_eq g7.symm)))).other W14 (Nat.ne_of_lt (Nat.lt_of_lt_of_le V_o17.lt (Nat.le_of_eq g7.symm)))).other W15 (Nat.ne_of_lt (Nat.lt_of_lt_of_le V_o17.lt (Nat.le_of_eq g7.symm)))).other W16 (Nat.ne_of_lt (Nat.lt_of_lt_of_le V_o17.lt (Nat.le_of_eq g7.symm)))).other W17 (Nat.ne_of_lt (Nat.lt_of_lt_of_le V_o17.lt (Nat.le_of_eq g7.symm)))).lt (Nat.le_of_eq g18.symm)))).other W21 (Nat.ne_of_lt (Nat.lt_of_lt_of_le (((((((((((V_o17.ext E7).other W8 (Nat.ne_of_lt (Nat.lt_of_lt_of_le V_o17.lt (Nat.le_of_eq g7.symm)))).other W9 (Nat.ne_of_lt (Nat.lt_of_lt_of_le V_o17.lt (Nat.le_of_eq g7.symm)))).other W10 (Nat.ne_of_lt (Nat.lt_of_lt_of_le V_o17.lt (Nat.le_of_eq g7.symm)))).other W11 (Nat.ne_of_lt (Nat.lt_of_lt_of_le V_o17.lt (Nat.le_of_eq g7.symm)))).other W12 (Nat.ne_of_lt (Nat.lt_of_lt_of_le V_o17.lt (Nat.le_of_eq g7.symm)))).other W13 (Nat.ne_of_lt (Nat.lt_of_lt_of_le V_o17.lt (Nat.le_of_eq g7.symm)))).other W14 (Nat.ne_of_lt (Nat.lt_of_lt_of_le V_o17.lt (Nat.le_of_eq g7.symm)))).other W15 (Nat.ne_of_lt (Nat.lt_of_lt_of_le V_o17.lt (Nat.le_of_eq g7.symm)))).other W16 (Nat.ne_of_lt (Nat.lt_of_lt_of_le V_o17.lt (Nat.le_of_eq g7.symm)))).other W17 (Nat.ne_of_lt (Nat.lt_of_lt_of_le V_o17.lt (Nat.le_of_eq g7.symm)))).lt (Nat.le_of_eq g18.symm)))).other W22 (Nat.ne_of_lt (Nat.lt_of_lt_of_le (((((((((((V_o17.ext E7).other W8 (Nat.ne_of_lt (Nat.lt_of_lt_of_le V_o17.lt (Nat.le_of_eq g7.symm)))).other W9 (Nat.ne_of_lt (Nat.lt_of_lt_of_le V_o17.lt (Nat.le_of_eq g7.symm)))).other W10 (Nat.ne_of_lt (Nat.lt_of_lt_of_le V_o17.lt (Nat.le_of_eq g7.symm)))).other W11 (Nat.ne_of_lt (Nat.lt_of_lt_of_le V_o17.lt (Nat.le_of_eq g7.symm)))).other W12 (Nat.ne_of_lt (Nat.lt_of_lt_of_le V_o17.lt (Nat.le_of_eq g7.symm)))).other W13 (Nat.ne_of_lt (Nat.lt_of_lt_of_le V_o17.lt (Nat.le_of_eq g7.symm)))).other W14 (Nat.ne_of_lt (Nat.lt_of_lt_of_le V_o17.lt (Nat.le_of_eq g7.symm)))).other W15 (Nat.ne_of_lt (Nat.lt_of_lt_of_le V_o17.lt (Nat.le_of_eq g7.symm)))).other W16 (Nat.ne_of_lt (Nat.lt_of_lt_of_le V_o17.lt (Nat.le_of_eq g7.symm)))).other W17 (Nat.ne_of_lt (Nat.lt_of_lt_of_le V_o17.lt (Nat.le_of_eq g7.symm)))).lt (Nat.le_of_eq g18.symm)))).other W23 (Nat.ne_of_lt (Nat.lt_of_lt_of_le (((((((((((V_o17.ext E7).other W8 (Nat.ne_of_lt (Nat.lt_of_lt_of_le V_o17.lt (Nat.le_of_eq g7.symm)))).other W9 (Nat.ne_of_lt (Nat.lt_of_lt_of_le V_o17.lt (Nat.le_of_eq g7.symm)))).other W10 (Nat.ne_of_lt (Nat.lt_of_lt_of_le V_o17.lt (Nat.le_of_eq g7.symm)))).other W11 (Nat.ne_of_lt (Nat.lt_of_lt_of_le V_o17.lt (Nat.le_of_eq g7.symm)))).other W12 (Nat.ne_of_lt (Nat.lt_of_lt_of_le V_o17.lt (Nat.le_of_eq g7.symm)))).other W13 (Nat.ne_of_lt (Nat.lt_of_lt_of_le V_o17.lt (Nat.le_of_eq g7.symm)))).other W14 (Nat.ne_of_lt (Nat.lt_of_lt_of_le V_o17.lt (Nat.le_of_eq g7.symm)))).other W15 (Nat.ne_of_lt (Nat.lt_of_lt_of_le V_o17.lt (Nat.le_of_eq g7.symm)))).other W16 (Nat.ne_of_lt (Nat.lt_of_lt_of_le V_o17.lt (Nat.le_of_eq g7.symm)))).other W17 (Nat.ne_of_lt (Nat.lt_of_lt_of_le V_o17.lt (Nat.le_of_eq g7.symm)))).lt (Nat.le_of_eq g18.symm)))).other W24 (Nat.ne_of_lt (Nat.lt_of_lt_of_le (((((((((((V_o17.ext E7).other W8 (Nat.ne_of_lt (Nat.lt_of_lt_of_le V_o17.lt (Nat.le_of_eq g7.symm)))).other W9 (Nat.ne_of_lt (Nat.lt_of_lt_of_le V_o17.lt (Nat.le_of_eq g7.symm)))).other W10 (Nat.ne_of_lt (Nat.lt_of_lt_of_le V_o17.lt (Nat.le_of_eq g7.symm)))).other W11 (Nat.ne_of_lt (Nat.lt_of_lt_of_le V_o17.lt (Nat.le_of_eq g7.symm)))).other W12 (Nat.ne_of_lt (Nat.lt_of_lt_of_le V_o17.lt (Nat.le_of_eq g7.symm)))).other W13 (Nat.ne_of_lt (Nat.lt_of_lt_of_le V_o17.lt (Nat.le_of_eq g7.symm)))).other W14 (Nat.ne_of_lt (Nat.lt_of_lt_of_le V_o17.lt (Nat.le_of_eq g7.symm)))).other W15 (Nat.ne_of_lt (Nat.lt_of_lt_of_le V_o17.lt (Nat.le_of_eq g7.symm)))).other W16 (Nat.ne_of_lt (Nat.lt_of_lt_of_le V_o17.lt (Nat.le_of_eq g7.symm)))).other W17 (Nat.ne_of_lt (Nat.lt_of_lt_of_le V_o17.lt (Nat.le_of_eq g7.symm)))).lt (Nat.le_of_eq g18.symm)))).lt (Nat.le_of_eq g25.symm)))
  have ne_b7_b25 : b7 ≠ b25 := (Nat.ne_of_lt (Nat.lt_of_lt_of_le (((((((V_b7_17.ext E18).other W19 (Nat.ne_of_lt (Nat.lt_of_lt_of_le V_b7_17.lt (Nat.le_of_eq g18.symm)))).other W20 (Nat.ne_of_lt (Nat.lt_of_lt_of_le V_b7_17.lt (Nat.le_of_eq g18.symm)))).other W21 (Nat.ne_of_lt (Nat.lt_of_lt_of_le V_b7_17.lt (Nat.le_of_eq g18.symm)))).other W22 (Nat.ne_of_lt (Nat.lt_of_lt_of_le V_b7_17.lt (Nat.le_of_eq g18.symm)))).other W23 (Nat.ne_of_lt (Nat.lt_of_lt_of_le V_b7_17.lt (Nat.le_of_eq g18.symm)))).other W24 (Nat.ne_of_lt (Nat.lt_of_lt_of_le V_b7_17.lt (Nat.le_of_eq g18.symm)))).lt (Nat.le_of_eq g25.symm)))
  have ne_b18_b25 : b18 ≠ b25 := (Nat.ne_of_lt (Nat.lt_of_lt_of_le V_b18_24.lt (Nat.le_of_eq g25.symm)))
  have Zend : n0 ≤ h31.size := (Nat.le_trans (Nat.le_trans (Nat.le_trans (Nat.le_trans (Nat.le_trans (Nat.le_trans (Nat.le_trans (Nat.le_trans (Nat.le_trans (Nat.le_trans (Nat.le_trans (Nat.le_trans (Nat.le_trans (Nat.le_trans (Nat.le_trans (Nat.le_trans (Nat.le_trans (Nat.le_trans (Nat.le_trans (Nat.le_trans (Nat.le_trans (Nat.le_trans (Nat.le_trans (Nat.le_trans (Nat.le_trans Z0 E7.1) (Keep.of_wr W8).1) (Keep.of_wr W9).1) (Keep.of_wr W10).1) (Keep.of_wr W11).1) (Keep.of_wr W12).1) (Keep.of_wr W13).1) (Keep.of_wr W14).1) (Keep.of_wr W15).1) (Keep.of_wr W16).1) (Keep.of_wr W17).1) E18.1) (Keep.of_wr W19).1) (Keep.of_wr W20).1) (Keep.of_wr W21).1) (Keep.of_wr W22).1) (Keep.of_wr W23).1) (Keep.of_wr W24).1) E25.1) (Keep.of_wr W26).1) (Keep.of_wr W27).1) (Keep.of_wr W28).1) (Keep.of_wr W29).1) (Keep.of_wr W30).1) (Keep.of_wr W31).1)
  have Kend := K31
  refine ⟨T31, _, _, b7, b18, b25, _, _, X31, e31, N31, g_b25, ne_b7_b25, ne_b18_b25, Vend_b7, own_los (own_los (own_los (own_los (own_los (own_los (own_los (own_los (own_los (own_los (own_lo0 _)))))))))), Vend_b18, Vend_b25, own_los (own_los (own_los (own_los (own_los (own_los (own_lo0 _)))))), Vend_o16, Vend_o17, Eend_o16, Zend, fun target kt => ?_⟩
  show Steps p.tables e below (T0.setTop (mkF m 193 #[s0, .val (.long j1), .second, .val (.long j3), .second, .val (.long j5), .second, .val (.long j7), .second, .val (.long j9), .second, s11, s12, s13, s14, s15, .val (.ref o16), .val (.ref o17), s18, .unset, .unset, .unset, .unset] [])) _
  refine XS.bipush X0.here hx rfl (hb hby at_193) ?_
  show Steps p.tables e below (T0.setTop (mkF m 195 #[s0, .val (.long j1), .second, .val (.long j3), .second, .val (.long j5), .second, .val (.long j7), .second, .val (.long j9), .second, s11, s12, s13, s14, s15, .val (.ref o16), .val (.ref o17), s18, .unset, .unset, .unset, .unset] [(.int (10 : Int32))])) _
  refine st7 _ ?_
  show Steps p.tables e below (T7.setTop (mkF m 197 #[s0, .val (.long j1), .second, .val (.long j3), .second, .val (.long j5), .second, .val (.long j7), .second, .val (.long j9), .second, s11, s12, s13, s14, s15, .val (.ref o16), .val (.ref o17), s18, .unset, .unset, .unset, .unset] [(.ref b7)])) _
  refine XS.dup X7.here hx rfl (hb hby at_197) rfl rfl ?_
  show Steps p.tables e below (T7.setTop (mkF m 198 #[s0, .val (.long j1), .second, .val (.long j3), .second, .val (.long j5), .second, .val (.long j7), .second, .val (.long j9), .second, s11, s12, s13, s14, s15, .val (.ref o16), .val (.ref o17), s18, .unset, .unset, .unset, .unset] [(.ref b7), (.ref b7)])) _
  refine XS.iconst X7.here hx rfl (hb hby at_198) ?_
  show Steps p.tables e below (T7.setTop (mkF m 199 #[s0, .val (.long j1), .second, .val (.long j3), .second, .val (.long j5), .second, .val (.long j7), .second, .val (.long j9), .second, s11, s12, s13, s14, s15, .val (.ref o16), .val (.ref o17), s18, .unset, .unset, .unset, .unset] [(.int (0 : Int32)), (.ref b7), (.ref b7)])) _
  refine XS.lloadN X7.here hx rfl (hb hby at_199) rfl ?_
  show Steps p.tables e below (T7.setTop (mkF m 200 #[s0, .val (.long j1), .second, .val (.long j3), .second, .val (.long j5), .second, .val (.long j7), .second, .val (.long j9), .second, s11, s12, s13, s14, s15, .val (.ref o16), .val (.ref o17), s18, .unset, .unset, .unset, .unset] [(.long j1), (.int (0 : Int32)), (.ref b7), (.ref b7)])) _
  refine st8 _ ?_
  show Steps p.tables e below (T8.setTop (mkF m 201 #[s0, .val (.long j1), .second, .val (.long j3), .second, .val (.long j5), .second, .val (.long j7), .second, .val (.long j9), .second, s11, s12, s13, s14, s15, .val (.ref o16), .val (.ref o17), s18, .unset, .unset, .unset, .unset] [(.ref b7)])) _
  refine XS.dup X8.here hx rfl (hb hby at_201) rfl rfl ?_
  show Steps p.tables e below (T8.setTop (mkF m 202 #[s0, .val (.long j1), .second, .val (.long j3), .second, .val (.long j5), .second, .val (.long j7), .second, .val (.long j9), .second, s11, s12, s13, s14, s15, .val (.ref o16), .val (.ref o17), s18, .unset, .unset, .unset, .unset] [(.ref b7), (.ref b7)])) _
  refine XS.iconst X8.here hx rfl (hb hby at_202) ?_
  show Steps p.tables e below (T8.setTop (mkF m 203 #[s0, .val (.long j1), .second, .val (.long j3), .second, .val (.long j5), .second, .val (.long j7), .second, .val (.long j9), .second, s11, s12, s13, s14, s15, .val (.ref o16), .val (.ref o17), s18, .unset, .unset, .unset, .unset] [(.int (1 : Int32)), (.ref b7), (.ref b7)])) _
  refine XS.lloadN X8.here hx rfl (hb hby at_203) rfl ?_
  show Steps p.tables e below (T8.setTop (mkF m 204 #[s0, .val (.long j1), .second, .val (.long j3), .second, .val (.long j5), .second, .val (.long j7), .second, .val (.long j9), .second, s11, s12, s13, s14, s15, .val (.ref o16), .val (.ref o17), s18, .unset, .unset, .unset, .unset] [(.long j3), (.int (1 : Int32)), (.ref b7), (.ref b7)])) _
  refine st9 _ ?_
  show Steps p.tables e below (T9.setTop (mkF m 205 #[s0, .val (.long j1), .second, .val (.long j3), .second, .val (.long j5), .second, .val (.long j7), .second, .val (.long j9), .second, s11, s12, s13, s14, s15, .val (.ref o16), .val (.ref o17), s18, .unset, .unset, .unset, .unset] [(.ref b7)])) _
  refine XS.dup X9.here hx rfl (hb hby at_205) rfl rfl ?_
  show Steps p.tables e below (T9.setTop (mkF m 206 #[s0, .val (.long j1), .second, .val (.long j3), .second, .val (.long j5), .second, .val (.long j7), .second, .val (.long j9), .second, s11, s12, s13, s14, s15, .val (.ref o16), .val (.ref o17), s18, .unset, .unset, .unset, .unset] [(.ref b7), (.ref b7)])) _
  refine XS.iconst X9.here hx rfl (hb hby at_206) ?_
  show Steps p.tables e below (T9.setTop (mkF m 207 #[s0, .val (.long j1), .second, .val (.long j3), .second, .val (.long j5), .second, .val (.long j7), .second, .val (.long j9), .second, s11, s12, s13, s14, s15, .val (.ref o16), .val (.ref o17), s18, .unset, .unset, .unset, .unset] [(.int (2 : Int32)), (.ref b7), (.ref b7)])) _
  refine XS.lload X9.here hx rfl (hb hby at_207) rfl ?_
  show Steps p.tables e below (T9.setTop (mkF m 209 #[s0, .val (.long j1), .second, .val (.long j3), .second, .val (.long j5), .second, .val (.long j7), .second, .val (.long j9), .second, s11, s12, s13, s14, s15, .val (.ref o16), .val (.ref o17), s18, .unset, .unset, .unset, .unset] [(.long j5), (.int (2 : Int32)), (.ref b7), (.ref b7)])) _
  refine st10 _ ?_
  show Steps p.tables e below (T10.setTop (mkF m 210 #[s0, .val (.long j1), .second, .val (.long j3), .second, .val (.long j5), .second, .val (.long j7), .second, .val (.long j9), .second, s11, s12, s13, s14, s15, .val (.ref o16), .val (.ref o17), s18, .unset, .unset, .unset, .unset] [(.ref b7)])) _
  refine XS.dup X10.here hx rfl (hb hby at_210) rfl rfl ?_
  show Steps p.tables e below (T10.setTop (mkF m 211 #[s0, .val (.long j1), .second, .val (.long j3), .second, .val (.long j5), .second, .val (.long j7), .second, .val (.long j9), .second, s11, s12, s13, s14, s15, .val (.ref o16), .val (.ref o17), s18, .unset, .unset, .unset, .unset] [(.ref b7), (.ref b7)])) _
  refine XS.iconst X10.here hx rfl (hb hby at_211) ?_
  show Steps p.tables e below (T10.setTop (mkF m 212 #[s0, .val (.long j1), .second, .val (.long j3), .second, .val (.long j5), .second, .val (.long j7), .second, .val (.long j9), .second, s11, s12, s13, s14, s15, .val (.ref o16), .val (.ref o17), s18, .unset, .unset, .unset, .unset] [(.int (3 : Int32)), (.ref b7), (.ref b7)])) _
  refine XS.lload X10.here hx rfl (hb hby at_212) rfl ?_
  show Steps p.tables e below (T10.setTop (mkF m 214 #[s0, .val (.long j1), .second, .val (.long j3), .second, .val (.long j5), .second, .val (.long j7), .second, .val (.long j9), .second, s11, s12, s13, s14, s15, .val (.ref o16), .val (.ref o17), s18, .unset, .unset, .unset, .unset] [(.long j7), (.int (3 : Int32)), (.ref b7), (.ref b7)])) _
  refine st11 _ ?_
  show Steps p.tables e below (T11.setTop (mkF m 215 #[s0, .val (.long j1), .second, .val (.long j3), .second, .val (.long j5), .second, .val (.long j7), .second, .val (.long j9), .second, s11, s12, s13, s14, s15, .val (.ref o16), .val (.ref o17), s18, .unset, .unset, .unset, .unset] [(.ref b7)])) _
  refine XS.dup X11.here hx rfl (hb hby at_215) rfl rfl ?_
  show Steps p.tables e below (T11.setTop (mkF m 216 #[s0, .val (.long j1), .second, .val (.long j3), .second, .val (.long j5), .second, .val (.long j7), .second, .val (.long j9), .second, s11, s12, s13, s14, s15, .val (.ref o16), .val (.ref o17), s18, .unset, .unset, .unset, .unset] [(.ref b7), (.ref b7)])) _
  refine XS.iconst X11.here hx rfl (hb hby at_216) ?_
  show Steps p.tables e below (T11.setTop (mkF m 217 #[s0, .val (.long j1), .second, .val (.long j3), .second, .val (.long j5), .second, .val (.long j7), .second, .val (.long j9), .second, s11, s12, s13, s14, s15, .val (.ref o16), .val (.ref o17), s18, .unset, .unset, .unset, .unset] [(.int (4 : Int32)), (.ref b7), (.ref b7)])) _
  refine XS.lloadN X11.here hx rfl (hb hby at_217) rfl ?_
  show Steps p.tables e below (T11.setTop (mkF m 218 #[s0, .val (.long j1), .second, .val (.long j3), .second, .val (.long j5), .second, .val (.long j7), .second, .val (.long j9), .second, s11, s12, s13, s14, s15, .val (.ref o16), .val (.ref o17), s18, .unset, .unset, .unset, .unset] [(.long j1), (.int (4 : Int32)), (.ref b7), (.ref b7)])) _
  refine XS.lload X11.here hx rfl (hb hby at_218) rfl ?_
  show Steps p.tables e below (T11.setTop (mkF m 220 #[s0, .val (.long j1), .second, .val (.long j3), .second, .val (.long j5), .second, .val (.long j7), .second, .val (.long j9), .second, s11, s12, s13, s14, s15, .val (.ref o16), .val (.ref o17), s18, .unset, .unset, .unset, .unset] [(.long j5), (.long j1), (.int (4 : Int32)), (.ref b7), (.ref b7)])) _
  refine XS.lxor X11.here hx rfl (hb hby at_220) rfl ?_
  show Steps p.tables e below (T11.setTop (mkF m 221 #[s0, .val (.long j1), .second, .val (.long j3), .second, .val (.long j5), .second, .val (.long j7), .second, .val (.long j9), .second, s11, s12, s13, s14, s15, .val (.ref o16), .val (.ref o17), s18, .unset, .unset, .unset, .unset] [(.long (j1 ^^^ j5)), (.int (4 : Int32)), (.ref b7), (.ref b7)])) _
  refine st12 _ ?_
  show Steps p.tables e below (T12.setTop (mkF m 222 #[s0, .val (.long j1), .second, .val (.long j3), .second, .val (.long j5), .second, .val (.long j7), .second, .val (.long j9), .second, s11, s12, s13, s14, s15, .val (.ref o16), .val (.ref o17), s18, .unset, .unset, .unset, .unset] [(.ref b7)])) _
  refine XS.dup X12.here hx rfl (hb hby at_222) rfl rfl ?_
  show Steps p.tables e below (T12.setTop (mkF m 223 #[s0, .val (.long j1), .second, .val (.long j3), .second, .val (.long j5), .second, .val (.long j7), .second, .val (.long j9), .second, s11, s12, s13, s14, s15, .val (.ref o16), .val (.ref o17), s18, .unset, .unset, .unset, .unset] [(.ref b7), (.ref b7)])) _
  refine XS.iconst X12.here hx rfl (hb hby at_223) ?_
  show Steps p.tables e below (T12.setTop (mkF m 224 #[s0, .val (.long j1), .second, .val (.long j3), .second, .val (.long j5), .second, .val (.long j7), .second, .val (.long j9), .second, s11, s12, s13, s14, s15, .val (.ref o16), .val (.ref o17), s18, .unset, .unset, .unset, .unset] [(.int (5 : Int32)), (.ref b7), (.ref b7)])) _
  refine XS.lloadN X12.here hx rfl (hb hby at_224) rfl ?_
  show Steps p.tables e below (T12.setTop (mkF m 225 #[s0, .val (.long j1), .second, .val (.long j3), .second, .val (.long j5), .second, .val (.long j7), .second, .val (.long j9), .second, s11, s12, s13, s14, s15, .val (.ref o16), .val (.ref o17), s18, .unset, .unset, .unset, .unset] [(.long j3), (.int (5 : Int32)), (.ref b7), (.ref b7)])) _
  refine XS.lload X12.here hx rfl (hb hby at_225) rfl ?_
  show Steps p.tables e below (T12.setTop (mkF m 227 #[s0, .val (.long j1), .second, .val (.long j3), .second, .val (.long j5), .second, .val (.long j7), .second, .val (.long j9), .second, s11, s12, s13, s14, s15, .val (.ref o16), .val (.ref o17), s18, .unset, .unset, .unset, .unset] [(.long j7), (.long j3), (.int (5 : Int32)), (.ref b7), (.ref b7)])) _
  refine XS.lxor X12.here hx rfl (hb hby at_227) rfl ?_
  show Steps p.tables e below (T12.setTop (mkF m 228 #[s0, .val (.long j1), .second, .val (.long j3), .second, .val (.long j5), .second, .val (.long j7), .second, .val (.long j9), .second, s11, s12, s13, s14, s15, .val (.ref o16), .val (.ref o17), s18, .unset, .unset, .unset, .unset] [(.long (j3 ^^^ j7)), (.int (5 : Int32)), (.ref b7), (.ref b7)])) _
  refine st13 _ ?_
  show Steps p.tables e below (T13.setTop (mkF m 229 #[s0, .val (.long j1), .second, .val (.long j3), .second, .val (.long j5), .second, .val (.long j7), .second, .val (.long j9), .second, s11, s12, s13, s14, s15, .val (.ref o16), .val (.ref o17), s18, .unset, .unset, .unset, .unset] [(.ref b7)])) _
  refine XS.dup X13.here hx rfl (hb hby at_229) rfl rfl ?_
  show Steps p.tables e below (T13.setTop (mkF m 230 #[s0, .val (.long j1), .second, .val (.long j3), .second, .val (.long j5), .second, .val (.long j7), .second, .val (.long j9), .second, s11, s12, s13, s14, s15, .val (.ref o16), .val (.ref o17), s18, .unset, .unset, .unset, .unset] [(.ref b7), (.ref b7)])) _
  refine XS.bipush X13.here hx rfl (hb hby at_230) ?_
  show Steps p.tables e below (T13.setTop (mkF m 232 #[s0, .val (.long j1), .second, .val (.long j3), .second, .val (.long j5), .second, .val (.long j7), .second, .val (.long j9), .second, s11, s12, s13, s14, s15, .val (.ref o16), .val (.ref o17), s18, .unset, .unset, .unset, .unset] [(.int (6 : Int32)), (.ref b7), (.ref b7)])) _
  refine XS.lloadN X13.here hx rfl (hb hby at_232) rfl ?_
  show Steps p.tables e below (T13.setTop (mkF m 233 #[s0, .val (.long j1), .second, .val (.long j3), .second, .val (.long j5), .second, .val (.long j7), .second, .val (.long j9), .second, s11, s12, s13, s14, s15, .val (.ref o16), .val (.ref o17), s18, .unset, .unset, .unset, .unset] [(.long j1), (.int (6 : Int32)), (.ref b7), (.ref b7)])) _
  refine X13.ldc2Long hx hown (mvT hZ (hw _ (List.mem_of_getElem? (i := 4) rfl))) (g := (mkF m 233 #[s0, .val (.long j1), .second, .val (.long j3), .second, .val (.long j5), .second, .val (.long j7), .second, .val (.long j9), .second, s11, s12, s13, s14, s15, .val (.ref o16), .val (.ref o17), s18, .unset, .unset, .unset, .unset] [(.long j1), (.int (6 : Int32)), (.ref b7), (.ref b7)])) rfl (hb hby at_233) _ ?_
  show Steps p.tables e below (T13.setTop (mkF m 236 #[s0, .val (.long j1), .second, .val (.long j3), .second, .val (.long j5), .second, .val (.long j7), .second, .val (.long j9), .second, s11, s12, s13, s14, s15, .val (.ref o16), .val (.ref o17), s18, .unset, .unset, .unset, .unset] [(.long (-1 : Int64)), (.long j1), (.int (6 : Int32)), (.ref b7), (.ref b7)])) _
  refine XS.lxor X13.here hx rfl (hb hby at_236) rfl ?_
  show Steps p.tables e below (T13.setTop (mkF m 237 #[s0, .val (.long j1), .second, .val (.long j3), .second, .val (.long j5), .second, .val (.long j7), .second, .val (.long j9), .second, s11, s12, s13, s14, s15, .val (.ref o16), .val (.ref o17), s18, .unset, .unset, .unset, .unset] [(.long (j1 ^^^ (-1 : Int64))), (.int (6 : Int32)), (.ref b7), (.ref b7)])) _
  refine st14 _ ?_
  show Steps p.tables e below (T14.setTop (mkF m 238 #[s0, .val (.long j1), .second, .val (.long j3), .second, .val (.long j5), .second, .val (.long j7), .second, .val (.long j9), .second, s11, s12, s13, s14, s15, .val (.ref o16), .val (.ref o17), s18, .unset, .unset, .unset, .unset] [(.ref b7)])) _
  refine XS.dup X14.here hx rfl (hb hby at_238) rfl rfl ?_
  show Steps p.tables e below (T14.setTop (mkF m 239 #[s0, .val (.long j1), .second, .val (.long j3), .second, .val (.long j5), .second, .val (.long j7), .second, .val (.long j9), .second, s11, s12, s13, s14, s15, .val (.ref o16), .val (.ref o17), s18, .unset, .unset, .unset, .unset] [(.ref b7), (.ref b7)])) _
  refine XS.bipush X14.here hx rfl (hb hby at_239) ?_
  show Steps p.tables e below (T14.setTop (mkF m 241 #[s0, .val (.long j1), .second, .val (.long j3), .second, .val (.long j5), .second, .val (.long j7), .second, .val (.long j9), .second, s11, s12, s13, s14, s15, .val (.ref o16), .val (.ref o17), s18, .unset, .unset, .unset, .unset] [(.int (7 : Int32)), (.ref b7), (.ref b7)])) _
  refine XS.lload X14.here hx rfl (hb hby at_241) rfl ?_
  show Steps p.tables e below (T14.setTop (mkF m 243 #[s0, .val (.long j1), .second, .val (.long j3), .second, .val (.long j5), .second, .val (.long j7), .second, .val (.long j9), .second, s11, s12, s13, s14, s15, .val (.ref o16), .val (.ref o17), s18, .unset, .unset, .unset, .unset] [(.long j7), (.int (7 : Int32)), (.ref b7), (.ref b7)])) _
  refine X14.ldc2Long hx hown (mvT hZ (hw _ (List.mem_of_getElem? (i := 4) rfl))) (g := (mkF m 243 #[s0, .val (.long j1), .second, .val (.long j3), .second, .val (.long j5), .second, .val (.long j7), .second, .val (.long j9), .second, s11, s12, s13, s14, s15, .val (.ref o16), .val (.ref o17), s18, .unset, .unset, .unset, .unset] [(.long j7), (.int (7 : Int32)), (.ref b7), (.ref b7)])) rfl (hb hby at_243) _ ?_
  show Steps p.tables e below (T14.setTop (mkF m 246 #[s0, .val (.long j1), .second, .val (.long j3), .second, .val (.long j5), .second, .val (.long j7), .second, .val (.long j9), .second, s11, s12, s13, s14, s15, .val (.ref o16), .val (.ref o17), s18, .unset, .unset, .unset, .unset] [(.long (-1 : Int64)), (.long j7), (.int (7 : Int32)), (.ref b7), (.ref b7)])) _
  refine XS.lxor X14.here hx rfl (hb hby at_246) rfl ?_
  show Steps p.tables e below (T14.setTop (mkF m 247 #[s0, .val (.long j1), .second, .val (.long j3), .second, .val (.long j5), .second, .val (.long j7), .second, .val (.long j9), .second, s11, s12, s13, s14, s15, .val (.ref o16), .val (.ref o17), s18, .unset, .unset, .unset, .unset] [(.long (j7 ^^^ (-1 : Int64))), (.int (7 : Int32)), (.ref b7), (.ref b7)])) _
  refine st15 _ ?_
  show Steps p.tables e below (T15.setTop (mkF m 248 #[s0, .val (.long j1), .second, .val (.long j3), .second, .val (.long j5), .second, .val (.long j7), .second, .val (.long j9), .second, s11, s12, s13, s14, s15, .val (.ref o16), .val (.ref o17), s18, .unset, .unset, .unset, .unset] [(.ref b7)])) _
  refine XS.dup X15.here hx rfl (hb hby at_248) rfl rfl ?_
  show Steps p.tables e below (T15.setTop (mkF m 249 #[s0, .val (.long j1), .second, .val (.long j3), .second, .val (.long j5), .second, .val (.long j7), .second, .val (.long j9), .second, s11, s12, s13, s14, s15, .val (.ref o16), .val (.ref o17), s18, .unset, .unset, .unset, .unset] [(.ref b7), (.ref b7)])) _
  refine XS.bipush X15.here hx rfl (hb hby at_249) ?_
  show Steps p.tables e below (T15.setTop (mkF m 251 #[s0, .val (.long j1), .second, .val (.long j3), .second, .val (.long j5), .second, .val (.long j7), .second, .val (.long j9), .second, s11, s12, s13, s14, s15, .val (.ref o16), .val (.ref o17), s18, .unset, .unset, .unset, .unset] [(.int (8 : Int32)), (.ref b7), (.ref b7)])) _
  refine XS.lload X15.here hx rfl (hb hby at_251) rfl ?_
  show Steps p.tables e below (T15.setTop (mkF m 253 #[s0, .val (.long j1), .second, .val (.long j3), .second, .val (.long j5), .second, .val (.long j7), .second, .val (.long j9), .second, s11, s12, s13, s14, s15, .val (.ref o16), .val (.ref o17), s18, .unset, .unset, .unset, .unset] [(.long j5), (.int (8 : Int32)), (.ref b7), (.ref b7)])) _
  refine XS.lload X15.here hx rfl (hb hby at_253) rfl ?_
  show Steps p.tables e below (T15.setTop (mkF m 255 #[s0, .val (.long j1), .second, .val (.long j3), .second, .val (.long j5), .second, .val (.long j7), .second, .val (.long j9), .second, s11, s12, s13, s14, s15, .val (.ref o16), .val (.ref o17), s18, .unset, .unset, .unset, .unset] [(.long j9), (.long j5), (.int (8 : Int32)), (.ref b7), (.ref b7)])) _
  refine XS.lxor X15.here hx rfl (hb hby at_255) rfl ?_
  show Steps p.tables e below (T15.setTop (mkF m 256 #[s0, .val (.long j1), .second, .val (.long j3), .second, .val (.long j5), .second, .val (.long j7), .second, .val (.long j9), .second, s11, s12, s13, s14, s15, .val (.ref o16), .val (.ref o17), s18, .unset, .unset, .unset, .unset] [(.long (j5 ^^^ j9)), (.int (8 : Int32)), (.ref b7), (.ref b7)])) _
  refine st16 _ ?_
  show Steps p.tables e below (T16.setTop (mkF m 257 #[s0, .val (.long j1), .second, .val (.long j3), .second, .val (.long j5), .second, .val (.long j7), .second, .val (.long j9), .second, s11, s12, s13, s14, s15, .val (.ref o16), .val (.ref o17), s18, .unset, .unset, .unset, .unset] [(.ref b7)])) _
  refine XS.dup X16.here hx rfl (hb hby at_257) rfl rfl ?_
  show Steps p.tables e below (T16.setTop (mkF m 258 #[s0, .val (.long j1), .second, .val (.long j3), .second, .val (.long j5), .second, .val (.long j7), .second, .val (.long j9), .second, s11, s12, s13, s14, s15, .val (.ref o16), .val (.ref o17), s18, .unset, .unset, .unset, .unset] [(.ref b7), (.ref b7)])) _
  refine XS.bipush X16.here hx rfl (hb hby at_258) ?_
  show Steps p.tables e below (T16.setTop (mkF m 260 #[s0, .val (.long j1), .second, .val (.long j3), .second, .val (.long j5), .second, .val (.long j7), .second, .val (.long j9), .second, s11, s12, s13, s14, s15, .val (.ref o16), .val (.ref o17), s18, .unset, .unset, .unset, .unset] [(.int (9 : Int32)), (.ref b7), (.ref b7)])) _
  refine XS.lload X16.here hx rfl (hb hby at_260) rfl ?_
  show Steps p.tables e below (T16.setTop (mkF m 262 #[s0, .val (.long j1), .second, .val (.long j3), .second, .val (.long j5), .second, .val (.long j7), .second, .val (.long j9), .second, s11, s12, s13, s14, s15, .val (.ref o16), .val (.ref o17), s18, .unset, .unset, .unset, .unset] [(.long j7), (.int (9 : Int32)), (.ref b7), (.ref b7)])) _
  refine XS.lload X16.here hx rfl (hb hby at_262) rfl ?_
  show Steps p.tables e below (T16.setTop (mkF m 264 #[s0, .val (.long j1), .second, .val (.long j3), .second, .val (.long j5), .second, .val (.long j7), .second, .val (.long j9), .second, s11, s12, s13, s14, s15, .val (.ref o16), .val (.ref o17), s18, .unset, .unset, .unset, .unset] [(.long j9), (.long j7), (.int (9 : Int32)), (.ref b7), (.ref b7)])) _
  refine XS.lxor X16.here hx rfl (hb hby at_264) rfl ?_
  show Steps p.tables e below (T16.setTop (mkF m 265 #[s0, .val (.long j1), .second, .val (.long j3), .second, .val (.long j5), .second, .val (.long j7), .second, .val (.long j9), .second, s11, s12, s13, s14, s15, .val (.ref o16), .val (.ref o17), s18, .unset, .unset, .unset, .unset] [(.long (j7 ^^^ j9)), (.int (9 : Int32)), (.ref b7), (.ref b7)])) _
  refine st17 _ ?_
  show Steps p.tables e below (T17.setTop (mkF m 266 #[s0, .val (.long j1), .second, .val (.long j3), .second, .val (.long j5), .second, .val (.long j7), .second, .val (.long j9), .second, s11, s12, s13, s14, s15, .val (.ref o16), .val (.ref o17), s18, .unset, .unset, .unset, .unset] [(.ref b7)])) _
  refine XS.astore X17.here hx rfl (hb hby at_266) rfl rfl (l' := #[s0, .val (.long j1), .second, .val (.long j3), .second, .val (.long j5), .second, .val (.long j7), .second, .val (.long j9), .second, s11, s12, s13, s14, s15, .val (.ref o16), .val (.ref o17), s18, .val (.ref b7), .unset, .unset, .unset]) rfl ?_
  show Steps p.tables e below (T17.setTop (mkF m 268 #[s0, .val (.long j1), .second, .val (.long j3), .second, .val (.long j5), .second, .val (.long j7), .second, .val (.long j9), .second, s11, s12, s13, s14, s15, .val (.ref o16), .val (.ref o17), s18, .val (.ref b7), .unset, .unset, .unset] [])) _
  refine XS.bipush X17.here hx rfl (hb hby at_268) ?_
  show Steps p.tables e below (T17.setTop (mkF m 270 #[s0, .val (.long j1), .second, .val (.long j3), .second, .val (.long j5), .second, .val (.long j7), .second, .val (.long j9), .second, s11, s12, s13, s14, s15, .val (.ref o16), .val (.ref o17), s18, .val (.ref b7), .unset, .unset, .unset] [(.int (6 : Int32))])) _
  refine st18 _ ?_
  show Steps p.tables e below (T18.setTop (mkF m 272 #[s0, .val (.long j1), .second, .val (.long j3), .second, .val (.long j5), .second, .val (.long j7), .second, .val (.long j9), .second, s11, s12, s13, s14, s15, .val (.ref o16), .val (.ref o17), s18, .val (.ref b7), .unset, .unset, .unset] [(.ref b18)])) _
  refine XS.dup X18.here hx rfl (hb hby at_272) rfl rfl ?_
  show Steps p.tables e below (T18.setTop (mkF m 273 #[s0, .val (.long j1), .second, .val (.long j3), .second, .val (.long j5), .second, .val (.long j7), .second, .val (.long j9), .second, s11, s12, s13, s14, s15, .val (.ref o16), .val (.ref o17), s18, .val (.ref b7), .unset, .unset, .unset] [(.ref b18), (.ref b18)])) _
  refine XS.iconst X18.here hx rfl (hb hby at_273) ?_
  show Steps p.tables e below (T18.setTop (mkF m 274 #[s0, .val (.long j1), .second, .val (.long j3), .second, .val (.long j5), .second, .val (.long j7), .second, .val (.long j9), .second, s11, s12, s13, s14, s15, .val (.ref o16), .val (.ref o17), s18, .val (.ref b7), .unset, .unset, .unset] [(.int (0 : Int32)), (.ref b18), (.ref b18)])) _
  refine XS.lload X18.here hx rfl (hb hby at_274) rfl ?_
  show Steps p.tables e below (T18.setTop (mkF m 276 #[s0, .val (.long j1), .second, .val (.long j3), .second, .val (.long j5), .second, .val (.long j7), .second, .val (.long j9), .second, s11, s12, s13, s14, s15, .val (.ref o16), .val (.ref o17), s18, .val (.ref b7), .unset, .unset, .unset] [(.long j9), (.int (0 : Int32)), (.ref b18), (.ref b18)])) _
  refine st19 _ ?_
  show Steps p.tables e below (T19.setTop (mkF m 277 #[s0, .val (.long j1), .second, .val (.long j3), .second, .val (.long j5), .second, .val (.long j7), .second, .val (.long j9), .second, s11, s12, s13, s14, s15, .val (.ref o16), .val (.ref o17), s18, .val (.ref b7), .unset, .unset, .unset] [(.ref b18)])) _
  refine XS.dup X19.here hx rfl (hb hby at_277) rfl rfl ?_
  show Steps p.tables e below (T19.setTop (mkF m 278 #[s0, .val (.long j1), .second, .val (.long j3), .second, .val (.long j5), .second, .val (.long j7), .second, .val (.long j9), .second, s11, s12, s13, s14, s15, .val (.ref o16), .val (.ref o17), s18, .val (.ref b7), .unset, .unset, .unset] [(.ref b18), (.ref b18)])) _
  refine XS.iconst X19.here hx rfl (hb hby at_278) ?_
  show Steps p.tables e below (T19.setTop (mkF m 279 #[s0, .val (.long j1), .second, .val (.long j3), .second, .val (.long j5), .second, .val (.long j7), .second, .val (.long j9), .second, s11, s12, s13, s14, s15, .val (.ref o16), .val (.ref o17), s18, .val (.ref b7), .unset, .unset, .unset] [(.int (1 : Int32)), (.ref b18), (.ref b18)])) _
  refine XS.lload X19.here hx rfl (hb hby at_279) rfl ?_
  show Steps p.tables e below (T19.setTop (mkF m 281 #[s0, .val (.long j1), .second, .val (.long j3), .second, .val (.long j5), .second, .val (.long j7), .second, .val (.long j9), .second, s11, s12, s13, s14, s15, .val (.ref o16), .val (.ref o17), s18, .val (.ref b7), .unset, .unset, .unset] [(.long j9), (.int (1 : Int32)), (.ref b18), (.ref b18)])) _
  refine X19.ldc2Long hx hown (mvT hZ (hw _ (List.mem_of_getElem? (i := 4) rfl))) (g := (mkF m 281 #[s0, .val (.long j1), .second, .val (.long j3), .second, .val (.long j5), .second, .val (.long j7), .second, .val (.long j9), .second, s11, s12, s13, s14, s15, .val (.ref o16), .val (.ref o17), s18, .val (.ref b7), .unset, .unset, .unset] [(.long j9), (.int (1 : Int32)), (.ref b18), (.ref b18)])) rfl (hb hby at_281) _ ?_
  show Steps p.tables e below (T19.setTop (mkF m 284 #[s0, .val (.long j1), .second, .val (.long j3), .second, .val (.long j5), .second, .val (.long j7), .second, .val (.long j9), .second, s11, s12, s13, s14, s15, .val (.ref o16), .val (.ref o17), s18, .val (.ref b7), .unset, .unset, .unset] [(.long (-1 : Int64)), (.long j9), (.int (1 : Int32)), (.ref b18), (.ref b18)])) _
  refine XS.lxor X19.here hx rfl (hb hby at_284) rfl ?_
  show Steps p.tables e below (T19.setTop (mkF m 285 #[s0, .val (.long j1), .second, .val (.long j3), .second, .val (.long j5), .second, .val (.long j7), .second, .val (.long j9), .second, s11, s12, s13, s14, s15, .val (.ref o16), .val (.ref o17), s18, .val (.ref b7), .unset, .unset, .unset] [(.long (j9 ^^^ (-1 : Int64))), (.int (1 : Int32)), (.ref b18), (.ref b18)])) _
  refine st20 _ ?_
  show Steps p.tables e below (T20.setTop (mkF m 286 #[s0, .val (.long j1), .second, .val (.long j3), .second, .val (.long j5), .second, .val (.long j7), .second, .val (.long j9), .second, s11, s12, s13, s14, s15, .val (.ref o16), .val (.ref o17), s18, .val (.ref b7), .unset, .unset, .unset] [(.ref b18)])) _
  refine XS.dup X20.here hx rfl (hb hby at_286) rfl rfl ?_
  show Steps p.tables e below (T20.setTop (mkF m 287 #[s0, .val (.long j1), .second, .val (.long j3), .second, .val (.long j5), .second, .val (.long j7), .second, .val (.long j9), .second, s11, s12, s13, s14, s15, .val (.ref o16), .val (.ref o17), s18, .val (.ref b7), .unset, .unset, .unset] [(.ref b18), (.ref b18)])) _
  refine XS.iconst X20.here hx rfl (hb hby at_287) ?_
  show Steps p.tables e below (T20.setTop (mkF m 288 #[s0, .val (.long j1), .second, .val (.long j3), .second, .val (.long j5), .second, .val (.long j7), .second, .val (.long j9), .second, s11, s12, s13, s14, s15, .val (.ref o16), .val (.ref o17), s18, .val (.ref b7), .unset, .unset, .unset] [(.int (2 : Int32)), (.ref b18), (.ref b18)])) _
  refine XS.lload X20.here hx rfl (hb hby at_288) rfl ?_
  show Steps p.tables e below (T20.setTop (mkF m 290 #[s0, .val (.long j1), .second, .val (.long j3), .second, .val (.long j5), .second, .val (.long j7), .second, .val (.long j9), .second, s11, s12, s13, s14, s15, .val (.ref o16), .val (.ref o17), s18, .val (.ref b7), .unset, .unset, .unset] [(.long j9), (.int (2 : Int32)), (.ref b18), (.ref b18)])) _
  refine XS.lloadN X20.here hx rfl (hb hby at_290) rfl ?_
  show Steps p.tables e below (T20.setTop (mkF m 291 #[s0, .val (.long j1), .second, .val (.long j3), .second, .val (.long j5), .second, .val (.long j7), .second, .val (.long j9), .second, s11, s12, s13, s14, s15, .val (.ref o16), .val (.ref o17), s18, .val (.ref b7), .unset, .unset, .unset] [(.long j1), (.long j9), (.int (2 : Int32)), (.ref b18), (.ref b18)])) _
  refine XS.lxor X20.here hx rfl (hb hby at_291) rfl ?_
  show Steps p.tables e below (T20.setTop (mkF m 292 #[s0, .val (.long j1), .second, .val (.long j3), .second, .val (.long j5), .second, .val (.long j7), .second, .val (.long j9), .second, s11, s12, s13, s14, s15, .val (.ref o16), .val (.ref o17), s18, .val (.ref b7), .unset, .unset, .unset] [(.long (j9 ^^^ j1)), (.int (2 : Int32)), (.ref b18), (.ref b18)])) _
  refine st21 _ ?_
  show Steps p.tables e below (T21.setTop (mkF m 293 #[s0, .val (.long j1), .second, .val (.long j3), .second, .val (.long j5), .second, .val (.long j7), .second, .val (.long j9), .second, s11, s12, s13, s14, s15, .val (.ref o16), .val (.ref o17), s18, .val (.ref b7), .unset, .unset, .unset] [(.ref b18)])) _
  refine XS.dup X21.here hx rfl (hb hby at_293) rfl rfl ?_
  show Steps p.tables e below (T21.setTop (mkF m 294 #[s0, .val (.long j1), .second, .val (.long j3), .second, .val (.long j5), .second, .val (.long j7), .second, .val (.long j9), .second, s11, s12, s13, s14, s15, .val (.ref o16), .val (.ref o17), s18, .val (.ref b7), .unset, .unset, .unset] [(.ref b18), (.ref b18)])) _
  refine XS.iconst X21.here hx rfl (hb hby at_294) ?_
  show Steps p.tables e below (T21.setTop (mkF m 295 #[s0, .val (.long j1), .second, .val (.long j3), .second, .val (.long j5), .second, .val (.long j7), .second, .val (.long j9), .second, s11, s12, s13, s14, s15, .val (.ref o16), .val (.ref o17), s18, .val (.ref b7), .unset, .unset, .unset] [(.int (3 : Int32)), (.ref b18), (.ref b18)])) _
  refine XS.lload X21.here hx rfl (hb hby at_295) rfl ?_
  show Steps p.tables e below (T21.setTop (mkF m 297 #[s0, .val (.long j1), .second, .val (.long j3), .second, .val (.long j5), .second, .val (.long j7), .second, .val (.long j9), .second, s11, s12, s13, s14, s15, .val (.ref o16), .val (.ref o17), s18, .val (.ref b7), .unset, .unset, .unset] [(.long j9), (.int (3 : Int32)), (.ref b18), (.ref b18)])) _
  refine XS.lloadN X21.here hx rfl (hb hby at_297) rfl ?_
  show Steps p.tables e below (T21.setTop (mkF m 298 #[s0, .val (.long j1), .second, .val (.long j3), .second, .val (.long j5), .second, .val (.long j7), .second, .val (.long j9), .second, s11, s12, s13, s14, s15, .val (.ref o16), .val (.ref o17), s18, .val (.ref b7), .unset, .unset, .unset] [(.long j3), (.long j9), (.int (3 : Int32)), (.ref b18), (.ref b18)])) _
  refine XS.lxor X21.here hx rfl (hb hby at_298) rfl ?_
  show Steps p.tables e below (T21.setTop (mkF m 299 #[s0, .val (.long j1), .second, .val (.long j3), .second, .val (.long j5), .second, .val (.long j7), .second, .val (.long j9), .second, s11, s12, s13, s14, s15, .val (.ref o16), .val (.ref o17), s18, .val (.ref b7), .unset, .unset, .unset] [(.long (j9 ^^^ j3)), (.int (3 : Int32)), (.ref b18), (.ref b18)])) _
  refine st22 _ ?_
  show Steps p.tables e below (T22.setTop (mkF m 300 #[s0, .val (.long j1), .second, .val (.long j3), .second, .val (.long j5), .second, .val (.long j7), .second, .val (.long j9), .second, s11, s12, s13, s14, s15, .val (.ref o16), .val (.ref o17), s18, .val (.ref b7), .unset, .unset, .unset] [(.ref b18)])) _
  refine XS.dup X22.here hx rfl (hb hby at_300) rfl rfl ?_
  show Steps p.tables e below (T22.setTop (mkF m 301 #[s0, .val (.long j1), .second, .val (.long j3), .second, .val (.long j5), .second, .val (.long j7), .second, .val (.long j9), .second, s11, s12, s13, s14, s15, .val (.ref o16), .val (.ref o17), s18, .val (.ref b7), .unset, .unset, .unset] [(.ref b18), (.ref b18)])) _
  refine XS.iconst X22.here hx rfl (hb hby at_301) ?_
  show Steps p.tables e below (T22.setTop (mkF m 302 #[s0, .val (.long j1), .second, .val (.long j3), .second, .val (.long j5), .second, .val (.long j7), .second, .val (.long j9), .second, s11, s12, s13, s14, s15, .val (.ref o16), .val (.ref o17), s18, .val (.ref b7), .unset, .unset, .unset] [(.int (4 : Int32)), (.ref b18), (.ref b18)])) _
  refine XS.lload X22.here hx rfl (hb hby at_302) rfl ?_
  show Steps p.tables e below (T22.setTop (mkF m 304 #[s0, .val (.long j1), .second, .val (.long j3), .second, .val (.long j5), .second, .val (.long j7), .second, .val (.long j9), .second, s11, s12, s13, s14, s15, .val (.ref o16), .val (.ref o17), s18, .val (.ref b7), .unset, .unset, .unset] [(.long j9), (.int (4 : Int32)), (.ref b18), (.ref b18)])) _
  refine XS.lload X22.here hx rfl (hb hby at_304) rfl ?_
  show Steps p.tables e below (T22.setTop (mkF m 306 #[s0, .val (.long j1), .second, .val (.long j3), .second, .val (.long j5), .second, .val (.long j7), .second, .val (.long j9), .second, s11, s12, s13, s14, s15, .val (.ref o16), .val (.ref o17), s18, .val (.ref b7), .unset, .unset, .unset] [(.long j5), (.long j9), (.int (4 : Int32)), (.ref b18), (.ref b18)])) _
  refine XS.lxor X22.here hx rfl (hb hby at_306) rfl ?_
  show Steps p.tables e below (T22.setTop (mkF m 307 #[s0, .val (.long j1), .second, .val (.long j3), .second, .val (.long j5), .second, .val (.long j7), .second, .val (.long j9), .second, s11, s12, s13, s14, s15, .val (.ref o16), .val (.ref o17), s18, .val (.ref b7), .unset, .unset, .unset] [(.long (j9 ^^^ j5)), (.int (4 : Int32)), (.ref b18), (.ref b18)])) _
  refine st23 _ ?_
  show Steps p.tables e below (T23.setTop (mkF m 308 #[s0, .val (.long j1), .second, .val (.long j3), .second, .val (.long j5), .second, .val (.long j7), .second, .val (.long j9), .second, s11, s12, s13, s14, s15, .val (.ref o16), .val (.ref o17), s18, .val (.ref b7), .unset, .unset, .unset] [(.ref b18)])) _
  refine XS.dup X23.here hx rfl (hb hby at_308) rfl rfl ?_
  show Steps p.tables e below (T23.setTop (mkF m 309 #[s0, .val (.long j1), .second, .val (.long j3), .second, .val (.long j5), .second, .val (.long j7), .second, .val (.long j9), .second, s11, s12, s13, s14, s15, .val (.ref o16), .val (.ref o17), s18, .val (.ref b7), .unset, .unset, .unset] [(.ref b18), (.ref b18)])) _
  refine XS.iconst X23.here hx rfl (hb hby at_309) ?_
  show Steps p.tables e below (T23.setTop (mkF m 310 #[s0, .val (.long j1), .second, .val (.long j3), .second, .val (.long j5), .second, .val (.long j7), .second, .val (.long j9), .second, s11, s12, s13, s14, s15, .val (.ref o16), .val (.ref o17), s18, .val (.ref b7), .unset, .unset, .unset] [(.int (5 : Int32)), (.ref b18), (.ref b18)])) _
  refine XS.lload X23.here hx rfl (hb hby at_310) rfl ?_
  show Steps p.tables e below (T23.setTop (mkF m 312 #[s0, .val (.long j1), .second, .val (.long j3), .second, .val (.long j5), .second, .val (.long j7), .second, .val (.long j9), .second, s11, s12, s13, s14, s15, .val (.ref o16), .val (.ref o17), s18, .val (.ref b7), .unset, .unset, .unset] [(.long j9), (.int (5 : Int32)), (.ref b18), (.ref b18)])) _
  refine XS.lload X23.here hx rfl (hb hby at_312) rfl ?_
  show Steps p.tables e below (T23.setTop (mkF m 314 #[s0, .val (.long j1), .second, .val (.long j3), .second, .val (.long j5), .second, .val (.long j7), .second, .val (.long j9), .second, s11, s12, s13, s14, s15, .val (.ref o16), .val (.ref o17), s18, .val (.ref b7), .unset, .unset, .unset] [(.long j7), (.long j9), (.int (5 : Int32)), (.ref b18), (.ref b18)])) _
  refine XS.lxor X23.here hx rfl (hb hby at_314) rfl ?_
  show Steps p.tables e below (T23.setTop (mkF m 315 #[s0, .val (.long j1), .second, .val (.long j3), .second, .val (.long j5), .second, .val (.long j7), .second, .val (.long j9), .second, s11, s12, s13, s14, s15, .val (.ref o16), .val (.ref o17), s18, .val (.ref b7), .unset, .unset, .unset] [(.long (j9 ^^^ j7)), (.int (5 : Int32)), (.ref b18), (.ref b18)])) _
  refine st24 _ ?_
  show Steps p.tables e below (T24.setTop (mkF m 316 #[s0, .val (.long j1), .second, .val (.long j3), .second, .val (.long j5), .second, .val (.long j7), .second, .val (.long j9), .second, s11, s12, s13, s14, s15, .val (.ref o16), .val (.ref o17), s18, .val (.ref b7), .unset, .unset, .unset] [(.ref b18)])) _
  refine XS.astore X24.here hx rfl (hb hby at_316) rfl rfl (l' := #[s0, .val (.long j1), .second, .val (.long j3), .second, .val (.long j5), .second, .val (.long j7), .second, .val (.long j9), .second, s11, s12, s13, s14, s15, .val (.ref o16), .val (.ref o17), s18, .val (.ref b7), .val (.ref b18), .unset, .unset]) rfl ?_
  show Steps p.tables e below (T24.setTop (mkF m 318 #[s0, .val (.long j1), .second, .val (.long j3), .second, .val (.long j5), .second, .val (.long j7), .second, .val (.long j9), .second, s11, s12, s13, s14, s15, .val (.ref o16), .val (.ref o17), s18, .val (.ref b7), .val (.ref b18), .unset, .unset] [])) _
  refine XS.bipush X24.here hx rfl (hb hby at_318) ?_
  show Steps p.tables e below (T24.setTop (mkF m 320 #[s0, .val (.long j1), .second, .val (.long j3), .second, .val (.long j5), .second, .val (.long j7), .second, .val (.long j9), .second, s11, s12, s13, s14, s15, .val (.ref o16), .val (.ref o17), s18, .val (.ref b7), .val (.ref b18), .unset, .unset] [(.int (6 : Int32))])) _
  refine st25 _ ?_
  show Steps p.tables e below (T25.setTop (mkF m 322 #[s0, .val (.long j1), .second, .val (.long j3), .second, .val (.long j5), .second, .val (.long j7), .second, .val (.long j9), .second, s11, s12, s13, s14, s15, .val (.ref o16), .val (.ref o17), s18, .val (.ref b7), .val (.ref b18), .unset, .unset] [(.ref b25)])) _
  refine XS.dup X25.here hx rfl (hb hby at_322) rfl rfl ?_
  show Steps p.tables e below (T25.setTop (mkF m 323 #[s0, .val (.long j1), .second, .val (.long j3), .second, .val (.long j5), .second, .val (.long j7), .second, .val (.long j9), .second, s11, s12, s13, s14, s15, .val (.ref o16), .val (.ref o17), s18, .val (.ref b7), .val (.ref b18), .unset, .unset] [(.ref b25), (.ref b25)])) _
  refine XS.iconst X25.here hx rfl (hb hby at_323) ?_
  show Steps p.tables e below (T25.setTop (mkF m 324 #[s0, .val (.long j1), .second, .val (.long j3), .second, .val (.long j5), .second, .val (.long j7), .second, .val (.long j9), .second, s11, s12, s13, s14, s15, .val (.ref o16), .val (.ref o17), s18, .val (.ref b7), .val (.ref b18), .unset, .unset] [(.int (0 : Int32)), (.ref b25), (.ref b25)])) _
  refine XS.lload X25.here hx rfl (hb hby at_324) rfl ?_
  show Steps p.tables e below (T25.setTop (mkF m 326 #[s0, .val (.long j1), .second, .val (.long j3), .second, .val (.long j5), .second, .val (.long j7), .second, .val (.long j9), .second, s11, s12, s13, s14, s15, .val (.ref o16), .val (.ref o17), s18, .val (.ref b7), .val (.ref b18), .unset, .unset] [(.long j9), (.int (0 : Int32)), (.ref b25), (.ref b25)])) _
  refine st26 _ ?_
  show Steps p.tables e below (T26.setTop (mkF m 327 #[s0, .val (.long j1), .second, .val (.long j3), .second, .val (.long j5), .second, .val (.long j7), .second, .val (.long j9), .second, s11, s12, s13, s14, s15, .val (.ref o16), .val (.ref o17), s18, .val (.ref b7), .val (.ref b18), .unset, .unset] [(.ref b25)])) _
  refine XS.dup X26.here hx rfl (hb hby at_327) rfl rfl ?_
  show Steps p.tables e below (T26.setTop (mkF m 328 #[s0, .val (.long j1), .second, .val (.long j3), .second, .val (.long j5), .second, .val (.long j7), .second, .val (.long j9), .second, s11, s12, s13, s14, s15, .val (.ref o16), .val (.ref o17), s18, .val (.ref b7), .val (.ref b18), .unset, .unset] [(.ref b25), (.ref b25)])) _
  refine XS.iconst X26.here hx rfl (hb hby at_328) ?_
  show Steps p.tables e below (T26.setTop (mkF m 329 #[s0, .val (.long j1), .second, .val (.long j3), .second, .val (.long j5), .second, .val (.long j7), .second, .val (.long j9), .second, s11, s12, s13, s14, s15, .val (.ref o16), .val (.ref o17), s18, .val (.ref b7), .val (.ref b18), .unset, .unset] [(.int (1 : Int32)), (.ref b25), (.ref b25)])) _
  refine XS.lload X26.here hx rfl (hb hby at_329) rfl ?_
  show Steps p.tables e below (T26.setTop (mkF m 331 #[s0, .val (.long j1), .second, .val (.long j3), .second, .val (.long j5), .second, .val (.long j7), .second, .val (.long j9), .second, s11, s12, s13, s14, s15, .val (.ref o16), .val (.ref o17), s18, .val (.ref b7), .val (.ref b18), .unset, .unset] [(.long j9), (.int (1 : Int32)), (.ref b25), (.ref b25)])) _
  refine X26.ldc2Long hx hown (mvT hZ (hw _ (List.mem_of_getElem? (i := 4) rfl))) (g := (mkF m 331 #[s0, .val (.long j1), .second, .val (.long j3), .second, .val (.long j5), .second, .val (.long j7), .second, .val (.long j9), .second, s11, s12, s13, s14, s15, .val (.ref o16), .val (.ref o17), s18, .val (.ref b7), .val (.ref b18), .unset, .unset] [(.long j9), (.int (1 : Int32)), (.ref b25), (.ref b25)])) rfl (hb hby at_331) _ ?_
  show Steps p.tables e below (T26.setTop (mkF m 334 #[s0, .val (.long j1), .second, .val (.long j3), .second, .val (.long j5), .second, .val (.long j7), .second, .val (.long j9), .second, s11, s12, s13, s14, s15, .val (.ref o16), .val (.ref o17), s18, .val (.ref b7), .val (.ref b18), .unset, .unset] [(.long (-1 : Int64)), (.long j9), (.int (1 : Int32)), (.ref b25), (.ref b25)])) _
  refine XS.lxor X26.here hx rfl (hb hby at_334) rfl ?_
  show Steps p.tables e below (T26.setTop (mkF m 335 #[s0, .val (.long j1), .second, .val (.long j3), .second, .val (.long j5), .second, .val (.long j7), .second, .val (.long j9), .second, s11, s12, s13, s14, s15, .val (.ref o16), .val (.ref o17), s18, .val (.ref b7), .val (.ref b18), .unset, .unset] [(.long (j9 ^^^ (-1 : Int64))), (.int (1 : Int32)), (.ref b25), (.ref b25)])) _
  refine st27 _ ?_
  show Steps p.tables e below (T27.setTop (mkF m 336 #[s0, .val (.long j1), .second, .val (.long j3), .second, .val (.long j5), .second, .val (.long j7), .second, .val (.long j9), .second, s11, s12, s13, s14, s15, .val (.ref o16), .val (.ref o17), s18, .val (.ref b7), .val (.ref b18), .unset, .unset] [(.ref b25)])) _
  refine XS.dup X27.here hx rfl (hb hby at_336) rfl rfl ?_
  show Steps p.tables e below (T27.setTop (mkF m 337 #[s0, .val (.long j1), .second, .val (.long j3), .second, .val (.long j5), .second, .val (.long j7), .second, .val (.long j9), .second, s11, s12, s13, s14, s15, .val (.ref o16), .val (.ref o17), s18, .val (.ref b7), .val (.ref b18), .unset, .unset] [(.ref b25), (.ref b25)])) _
  refine XS.iconst X27.here hx rfl (hb hby at_337) ?_
  show Steps p.tables e below (T27.setTop (mkF m 338 #[s0, .val (.long j1), .second, .val (.long j3), .second, .val (.long j5), .second, .val (.long j7), .second, .val (.long j9), .second, s11, s12, s13, s14, s15, .val (.ref o16), .val (.ref o17), s18, .val (.ref b7), .val (.ref b18), .unset, .unset] [(.int (2 : Int32)), (.ref b25), (.ref b25)])) _
  refine XS.lload X27.here hx rfl (hb hby at_338) rfl ?_
  show Steps p.tables e below (T27.setTop (mkF m 340 #[s0, .val (.long j1), .second, .val (.long j3), .second, .val (.long j5), .second, .val (.long j7), .second, .val (.long j9), .second, s11, s12, s13, s14, s15, .val (.ref o16), .val (.ref o17), s18, .val (.ref b7), .val (.ref b18), .unset, .unset] [(.long j9), (.int (2 : Int32)), (.ref b25), (.ref b25)])) _
  refine XS.lloadN X27.here hx rfl (hb hby at_340) rfl ?_
  show Steps p.tables e below (T27.setTop (mkF m 341 #[s0, .val (.long j1), .second, .val (.long j3), .second, .val (.long j5), .second, .val (.long j7), .second, .val (.long j9), .second, s11, s12, s13, s14, s15, .val (.ref o16), .val (.ref o17), s18, .val (.ref b7), .val (.ref b18), .unset, .unset] [(.long j1), (.long j9), (.int (2 : Int32)), (.ref b25), (.ref b25)])) _
  refine XS.lxor X27.here hx rfl (hb hby at_341) rfl ?_
  show Steps p.tables e below (T27.setTop (mkF m 342 #[s0, .val (.long j1), .second, .val (.long j3), .second, .val (.long j5), .second, .val (.long j7), .second, .val (.long j9), .second, s11, s12, s13, s14, s15, .val (.ref o16), .val (.ref o17), s18, .val (.ref b7), .val (.ref b18), .unset, .unset] [(.long (j9 ^^^ j1)), (.int (2 : Int32)), (.ref b25), (.ref b25)])) _
  refine st28 _ ?_
  show Steps p.tables e below (T28.setTop (mkF m 343 #[s0, .val (.long j1), .second, .val (.long j3), .second, .val (.long j5), .second, .val (.long j7), .second, .val (.long j9), .second, s11, s12, s13, s14, s15, .val (.ref o16), .val (.ref o17), s18, .val (.ref b7), .val (.ref b18), .unset, .unset] [(.ref b25)])) _
  refine XS.dup X28.here hx rfl (hb hby at_343) rfl rfl ?_
  show Steps p.tables e below (T28.setTop (mkF m 344 #[s0, .val (.long j1), .second, .val (.long j3), .second, .val (.long j5), .second, .val (.long j7), .second, .val (.long j9), .second, s11, s12, s13, s14, s15, .val (.ref o16), .val (.ref o17), s18, .val (.ref b7), .val (.ref b18), .unset, .unset] [(.ref b25), (.ref b25)])) _
  refine XS.iconst X28.here hx rfl (hb hby at_344) ?_
  show Steps p.tables e below (T28.setTop (mkF m 345 #[s0, .val (.long j1), .second, .val (.long j3), .second, .val (.long j5), .second, .val (.long j7), .second, .val (.long j9), .second, s11, s12, s13, s14, s15, .val (.ref o16), .val (.ref o17), s18, .val (.ref b7), .val (.ref b18), .unset, .unset] [(.int (3 : Int32)), (.ref b25), (.ref b25)])) _
  refine XS.lload X28.here hx rfl (hb hby at_345) rfl ?_
  show Steps p.tables e below (T28.setTop (mkF m 347 #[s0, .val (.long j1), .second, .val (.long j3), .second, .val (.long j5), .second, .val (.long j7), .second, .val (.long j9), .second, s11, s12, s13, s14, s15, .val (.ref o16), .val (.ref o17), s18, .val (.ref b7), .val (.ref b18), .unset, .unset] [(.long j9), (.int (3 : Int32)), (.ref b25), (.ref b25)])) _
  refine XS.lloadN X28.here hx rfl (hb hby at_347) rfl ?_
  show Steps p.tables e below (T28.setTop (mkF m 348 #[s0, .val (.long j1), .second, .val (.long j3), .second, .val (.long j5), .second, .val (.long j7), .second, .val (.long j9), .second, s11, s12, s13, s14, s15, .val (.ref o16), .val (.ref o17), s18, .val (.ref b7), .val (.ref b18), .unset, .unset] [(.long j3), (.long j9), (.int (3 : Int32)), (.ref b25), (.ref b25)])) _
  refine XS.lxor X28.here hx rfl (hb hby at_348) rfl ?_
  show Steps p.tables e below (T28.setTop (mkF m 349 #[s0, .val (.long j1), .second, .val (.long j3), .second, .val (.long j5), .second, .val (.long j7), .second, .val (.long j9), .second, s11, s12, s13, s14, s15, .val (.ref o16), .val (.ref o17), s18, .val (.ref b7), .val (.ref b18), .unset, .unset] [(.long (j9 ^^^ j3)), (.int (3 : Int32)), (.ref b25), (.ref b25)])) _
  refine st29 _ ?_
  show Steps p.tables e below (T29.setTop (mkF m 350 #[s0, .val (.long j1), .second, .val (.long j3), .second, .val (.long j5), .second, .val (.long j7), .second, .val (.long j9), .second, s11, s12, s13, s14, s15, .val (.ref o16), .val (.ref o17), s18, .val (.ref b7), .val (.ref b18), .unset, .unset] [(.ref b25)])) _
  refine XS.dup X29.here hx rfl (hb hby at_350) rfl rfl ?_
  show Steps p.tables e below (T29.setTop (mkF m 351 #[s0, .val (.long j1), .second, .val (.long j3), .second, .val (.long j5), .second, .val (.long j7), .second, .val (.long j9), .second, s11, s12, s13, s14, s15, .val (.ref o16), .val (.ref o17), s18, .val (.ref b7), .val (.ref b18), .unset, .unset] [(.ref b25), (.ref b25)])) _
  refine XS.iconst X29.here hx rfl (hb hby at_351) ?_
  show Steps p.tables e below (T29.setTop (mkF m 352 #[s0, .val (.long j1), .second, .val (.long j3), .second, .val (.long j5), .second, .val (.long j7), .second, .val (.long j9), .second, s11, s12, s13, s14, s15, .val (.ref o16), .val (.ref o17), s18, .val (.ref b7), .val (.ref b18), .unset, .unset] [(.int (4 : Int32)), (.ref b25), (.ref b25)])) _
  refine XS.lload X29.here hx rfl (hb hby at_352) rfl ?_
  show Steps p.tables e below (T29.setTop (mkF m 354 #[s0, .val (.long j1), .second, .val (.long j3), .second, .val (.long j5), .second, .val (.long j7), .second, .val (.long j9), .second, s11, s12, s13, s14, s15, .val (.ref o16), .val (.ref o17), s18, .val (.ref b7), .val (.ref b18), .unset, .unset] [(.long j9), (.int (4 : Int32)), (.ref b25), (.ref b25)])) _
  refine XS.lload X29.here hx rfl (hb hby at_354) rfl ?_
  show Steps p.tables e below (T29.setTop (mkF m 356 #[s0, .val (.long j1), .second, .val (.long j3), .second, .val (.long j5), .second, .val (.long j7), .second, .val (.long j9), .second, s11, s12, s13, s14, s15, .val (.ref o16), .val (.ref o17), s18, .val (.ref b7), .val (.ref b18), .unset, .unset] [(.long j5), (.long j9), (.int (4 : Int32)), (.ref b25), (.ref b25)])) _
  refine XS.lxor X29.here hx rfl (hb hby at_356) rfl ?_
  show Steps p.tables e below (T29.setTop (mkF m 357 #[s0, .val (.long j1), .second, .val (.long j3), .second, .val (.long j5), .second, .val (.long j7), .second, .val (.long j9), .second, s11, s12, s13, s14, s15, .val (.ref o16), .val (.ref o17), s18, .val (.ref b7), .val (.ref b18), .unset, .unset] [(.long (j9 ^^^ j5)), (.int (4 : Int32)), (.ref b25), (.ref b25)])) _
  refine st30 _ ?_
  show Steps p.tables e below (T30.setTop (mkF m 358 #[s0, .val (.long j1), .second, .val (.long j3), .second, .val (.long j5), .second, .val (.long j7), .second, .val (.long j9), .second, s11, s12, s13, s14, s15, .val (.ref o16), .val (.ref o17), s18, .val (.ref b7), .val (.ref b18), .unset, .unset] [(.ref b25)])) _
  refine XS.dup X30.here hx rfl (hb hby at_358) rfl rfl ?_
  show Steps p.tables e below (T30.setTop (mkF m 359 #[s0, .val (.long j1), .second, .val (.long j3), .second, .val (.long j5), .second, .val (.long j7), .second, .val (.long j9), .second, s11, s12, s13, s14, s15, .val (.ref o16), .val (.ref o17), s18, .val (.ref b7), .val (.ref b18), .unset, .unset] [(.ref b25), (.ref b25)])) _
  refine XS.iconst X30.here hx rfl (hb hby at_359) ?_
  show Steps p.tables e below (T30.setTop (mkF m 360 #[s0, .val (.long j1), .second, .val (.long j3), .second, .val (.long j5), .second, .val (.long j7), .second, .val (.long j9), .second, s11, s12, s13, s14, s15, .val (.ref o16), .val (.ref o17), s18, .val (.ref b7), .val (.ref b18), .unset, .unset] [(.int (5 : Int32)), (.ref b25), (.ref b25)])) _
  refine XS.lload X30.here hx rfl (hb hby at_360) rfl ?_
  show Steps p.tables e below (T30.setTop (mkF m 362 #[s0, .val (.long j1), .second, .val (.long j3), .second, .val (.long j5), .second, .val (.long j7), .second, .val (.long j9), .second, s11, s12, s13, s14, s15, .val (.ref o16), .val (.ref o17), s18, .val (.ref b7), .val (.ref b18), .unset, .unset] [(.long j9), (.int (5 : Int32)), (.ref b25), (.ref b25)])) _
  refine XS.lload X30.here hx rfl (hb hby at_362) rfl ?_
  show Steps p.tables e below (T30.setTop (mkF m 364 #[s0, .val (.long j1), .second, .val (.long j3), .second, .val (.long j5), .second, .val (.long j7), .second, .val (.long j9), .second, s11, s12, s13, s14, s15, .val (.ref o16), .val (.ref o17), s18, .val (.ref b7), .val (.ref b18), .unset, .unset] [(.long j7), (.long j9), (.int (5 : Int32)), (.ref b25), (.ref b25)])) _
  refine XS.lxor X30.here hx rfl (hb hby at_364) rfl ?_
  show Steps p.tables e below (T30.setTop (mkF m 365 #[s0, .val (.long j1), .second, .val (.long j3), .second, .val (.long j5), .second, .val (.long j7), .second, .val (.long j9), .second, s11, s12, s13, s14, s15, .val (.ref o16), .val (.ref o17), s18, .val (.ref b7), .val (.ref b18), .unset, .unset] [(.long (j9 ^^^ j7)), (.int (5 : Int32)), (.ref b25), (.ref b25)])) _
  refine st31 _ ?_
  show Steps p.tables e below (T31.setTop (mkF m 366 #[s0, .val (.long j1), .second, .val (.long j3), .second, .val (.long j5), .second, .val (.long j7), .second, .val (.long j9), .second, s11, s12, s13, s14, s15, .val (.ref o16), .val (.ref o17), s18, .val (.ref b7), .val (.ref b18), .unset, .unset] [(.ref b25)])) _
  refine XS.astore X31.here hx rfl (hb hby at_366) rfl rfl (l' := #[s0, .val (.long j1), .second, .val (.long j3), .second, .val (.long j5), .second, .val (.long j7), .second, .val (.long j9), .second, s11, s12, s13, s14, s15, .val (.ref o16), .val (.ref o17), s18, .val (.ref b7), .val (.ref b18), .val (.ref b25), .unset]) rfl ?_
  exact kt
theorem pd_0_0 : parseMethodDescriptor "([I[I)V" = some ⟨[(.array .int), (.array .int)], none⟩ := by decide +kernel
set_option maxRecDepth 65536 in
set_option maxHeartbeats 40000000 in
theorem sD0 {p : Program} {l : Launch} {e : Env} {s : State} {m : MethodId} {args : Array Value} {below : List Frame} {meth : Method} {c : Code} {T0 : State} {locs : List Loc} {Z : State} {a0 : Array Value} {h0 : Heap} (s0 : Slot) (s1 : Slot) (s2 : Slot) (s3 : Slot) (s4 : Slot) (s5 : Slot) (s6 : Slot) (s7 : Slot) (s8 : Slot) (s9 : Slot) (s10 : Slot) (s11 : Slot) (s12 : Slot) (s13 : Slot) (s14 : Slot) (s15 : Slot) (o16 : Addr) (o17 : Addr) (s18 : Slot) (o19 : Addr) (o20 : Addr) (o21 : Addr) (n0 : Nat) (lo : Int32) (hi : Int32) (zz : Int32) (wc : Int32) (f_o19 : Nat → Value) (f_o20 : Nat → Value) (f_o21 : Nat → Value)
    (X0 : Stand p l e room_1 s m args below meth c T0 locs 5 22) (hx : p.tables.exec = Jvm.exec) (hZ : Z.Warmed39 s.vm) (hw : ∀ d ∈ tables_1, d.before a0 Z = true) (hby : c.code = code) (hml : c.maxLocals = 23) (hown : s.vm.findClass "com/example/tight_bounds/tightbounds/model/StateLayoutApplyPinLaw" = some m.cls) (e0 : T0.heap = h0) (Z0 : n0 ≤ h0.size) (N0 : Fr n0 locs) (hz : own_nz ((hi.toInt64) - (lo.toInt64)) zz) (h64 : ¬ ((64 : Int32) < ((0 : Int32) + ((64 : Int32) - zz)))) (hwc : wc = 0) (V_o16 : Ary Z h0 o16 .int 0 (fun _ => .int lo)) (V_o17 : Ary Z h0 o17 .int 0 (fun _ => .int hi)) (V_o19 : Ary Z h0 o19 .long 10 f_o19) (V_o20 : Ary Z h0 o20 .long 6 f_o20) (V_o21 : Ary Z h0 o21 .long 6 f_o21) (E_o16 : Exa Z h0 o16 "[I") :
    ∃ (T' : State) (h' : Heap) (locs' : List Loc) (b : Addr), Stand p l e room_1 s m args below meth c T' locs' (5 + 5) (22 + 25) ∧ T'.heap = h' ∧ Fr n0 locs' ∧ b ≠ o21 ∧ Ary Z h' o19 .long 10 f_o19 ∧ Ary Z h' o20 .long 6 f_o20 ∧ Ary Z h' o21 .long 6 f_o21 ∧ Exa Z h' b "com/example/tight_bounds/tightbounds/model/StateLayout" ∧ Fld Z h' b "com/example/tight_bounds/tightbounds/model/StateLayout" "wordCount" "I" (.int wc) ∧ n0 ≤ h'.size ∧
      ∀ target, Steps p.tables e below (T'.setTop (mkF m 381 #[s0, s1, s2, s3, s4, s5, s6, s7, s8, s9, s10, s11, s12, s13, s14, s15, .val (.ref o16), .val (.ref o17), s18, .val (.ref o19), .val (.ref o20), .val (.ref o21), .val (.ref b)] [])) target → Steps p.tables e below (T0.setTop (mkF m 368 #[s0, s1, s2, s3, s4, s5, s6, s7, s8, s9, s10, s11, s12, s13, s14, s15, .val (.ref o16), .val (.ref o17), s18, .val (.ref o19), .val (.ref o20), .val (.ref o21), .unset] [])) target := by
  obtain ⟨T7, h7, X7, e7, E7, A7, D7, -, st7⟩ := newO X0 hx hZ hown (hw _ (List.mem_of_getElem? (i := 5) rfl)) (hw _ (List.mem_of_getElem? (i := 6) rfl)) (hw _ (List.mem_of_getElem? (i := 7) rfl)) e0 (g := (mkF m 368 #[s0, s1, s2, s3, s4, s5, s6, s7, s8, s9, s10, s11, s12, s13, s14, s15, .val (.ref o16), .val (.ref o17), s18, .val (.ref o19), .val (.ref o20), .val (.ref o21), .unset] [])) rfl (hb hby at_368) (by decide) (by decide)
  obtain ⟨b7, g7⟩ : ∃ z, z = h0.size := ⟨_, rfl⟩
  rw [← g7] at A7 D7 st7
  have F_lows_b7 : Fld Z h7 b7 "com/example/tight_bounds/tightbounds/model/StateLayout" "lows" "[I" .null := D7 (Or.inr (hw _ (List.mem_of_getElem? (i := 24) rfl))) (ty := (.array .int)) (by decide)
  have F_words_b7 : Fld Z h7 b7 "com/example/tight_bounds/tightbounds/model/StateLayout" "words" "[I" .null := D7 (Or.inr (hw _ (List.mem_of_getElem? (i := 26) rfl))) (ty := (.array .int)) (by decide)
  have F_shifts_b7 : Fld Z h7 b7 "com/example/tight_bounds/tightbounds/model/StateLayout" "shifts" "[I" .null := D7 (Or.inr (hw _ (List.mem_of_getElem? (i := 28) rfl))) (ty := (.array .int)) (by decide)
  have F_masks_b7 : Fld Z h7 b7 "com/example/tight_bounds/tightbounds/model/StateLayout" "masks" "[J" .null := D7 (Or.inr (hw _ (List.mem_of_getElem? (i := 30) rfl))) (ty := (.array .long)) (by decide)
  have F_wordCount_b7 : Fld Z h7 b7 "com/example/tight_bounds/tightbounds/model/StateLayout" "wordCount" "I" (.int (0 : Int32)) := D7 (Or.inr (hw _ (List.mem_of_getElem? (i := 32) rfl))) (ty := .int) (by decide)
  have E_b7 := A7
  have g_b7 : n0 ≤ b7 := Nat.le_trans Z0 (Nat.le_of_eq g7.symm)
  have sz_b7 : h0.size ≤ b7 := (Nat.le_trans (Keep.refl h0 []).1 (Nat.le_of_eq g7.symm))
  have K7 : Keep h0 h7 [] := (Keep.refl h0 []).ext E7
  have Zc8 : n0 ≤ h7.size := (Nat.le_trans Z0 E7.1)
  have Ec8_b7 := E_b7
  have Vc8_o16 := (V_o16.ext E7)
  have Ec8_o16 := (E_o16.ext E7)
  have Vc8_o17 := (V_o17.ext E7)
  obtain ⟨_, _, ⟨T8, L8, k8, n8⟩, -, X8, ⟨Lc8, hQ8, l8, y8, z8⟩, st8⟩ := X7.specialBack hx (y := (⟨"com/example/tight_bounds/tightbounds/model/StateLayout", "<init>", "([I[I)V"⟩ : MethodName)) rfl hown (mvT hZ (hw _ (List.mem_of_getElem? (i := 8) rfl))) (mvT hZ (hw _ (List.mem_of_getElem? (i := 9) rfl))) (mvT hZ (hw _ (List.mem_of_getElem? (i := 10) rfl))) (by decide) (backOf (W := 1) (rm1_0 l Z a0 hw [] b7 o16 o17 lo hi zz wc h7 n0 Zc8 g_b7 Ec8_b7 F_lows_b7 F_words_b7 F_shifts_b7 F_masks_b7 F_wordCount_b7 Vc8_o16 Vc8_o17 Ec8_o16 (Nat.ne_of_lt (Nat.lt_of_lt_of_le V_o16.lt (Nat.le_of_eq g7.symm))) (Nat.ne_of_lt (Nat.lt_of_lt_of_le V_o17.lt (Nat.le_of_eq g7.symm))) hz h64 hwc) hZ (hw _ (List.mem_of_getElem? (i := 10) rfl)) (hw _ (List.mem_of_getElem? (i := 7) rfl)) (by decide) (by decide)) (g := (mkF m 376 #[s0, s1, s2, s3, s4, s5, s6, s7, s8, s9, s10, s11, s12, s13, s14, s15, .val (.ref o16), .val (.ref o17), s18, .val (.ref o19), .val (.ref o20), .val (.ref o21), .unset] [(.ref o17), (.ref o16), (.ref b7), (.ref b7)])) rfl (by rw [hml]; rfl) (Steps.refl _) (a := b7) (argsL := [(.ref o16), (.ref o17)]) (rest := [(.ref b7)]) (lenOf pd_0_0 rfl) rfl (by show 2 * 0 + _ ≤ _; exact Nat.le_of_eq rfl) (hb hby at_376) (fun _ _ => ⟨rfl, e7, (by decide : 5 + 1 + 4 ≤ room_1.cells), (by decide : 22 + 5 + 20 ≤ room_1.slots)⟩)
  dsimp only [Pt.U, Pt.locs, Pt.cells, Pt.slots] at X8 l8 y8 z8 st8 hQ8
  subst l8 y8 z8
  obtain ⟨rfl, N8q, Kq8, Eq8, Fq8⟩ := hQ8
  have N8 := Fr.app N0 N8q
  have K8 : Keep h0 T8.heap [] := K7.trans Kq8 (fun x hx => by cases List.mem_singleton.mp hx; exact Or.inr sz_b7)
  have Vend_o16 := ((V_o16.ext E7).keep Kq8 (own_ni (Nat.ne_of_lt (Nat.lt_of_lt_of_le V_o16.lt (Nat.le_of_eq g7.symm)))))
  have Vend_o17 := ((V_o17.ext E7).keep Kq8 (own_ni (Nat.ne_of_lt (Nat.lt_of_lt_of_le V_o17.lt (Nat.le_of_eq g7.symm)))))
  have Vend_o19 := ((V_o19.ext E7).keep Kq8 (own_ni (Nat.ne_of_lt (Nat.lt_of_lt_of_le V_o19.lt (Nat.le_of_eq g7.symm)))))
  have Vend_o20 := ((V_o20.ext E7).keep Kq8 (own_ni (Nat.ne_of_lt (Nat.lt_of_lt_of_le V_o20.lt (Nat.le_of_eq g7.symm)))))
  have Vend_o21 := ((V_o21.ext E7).keep Kq8 (own_ni (Nat.ne_of_lt (Nat.lt_of_lt_of_le V_o21.lt (Nat.le_of_eq g7.symm)))))
  have Eend_o16 := ((E_o16.ext E7).keep Kq8)
  have Eend_b7 := (E_b7.keep Kq8)
  have ne_o16_b7 : o16 ≠ b7 := (Nat.ne_of_lt (Nat.lt_of_lt_of_le V_o16.lt (Nat.le_of_eq g7.symm)))
  have ne_o17_b7 : o17 ≠ b7 := (Nat.ne_of_lt (Nat.lt_of_lt_of_le V_o17.lt (Nat.le_of_eq g7.symm)))
  have ne_o19_b7 : o19 ≠ b7 := (Nat.ne_of_lt (Nat.lt_of_lt_of_le V_o19.lt (Nat.le_of_eq g7.symm)))
  have ne_o20_b7 : o20 ≠ b7 := (Nat.ne_of_lt (Nat.lt_of_lt_of_le V_o20.lt (Nat.le_of_eq g7.symm)))
  have ne_o21_b7 : o21 ≠ b7 := (Nat.ne_of_lt (Nat.lt_of_lt_of_le V_o21.lt (Nat.le_of_eq g7.symm)))
  have Zend : n0 ≤ T8.heap.size := (Nat.le_trans (Nat.le_trans Z0 E7.1) Kq8.1)
  have Kend := K8
  refine ⟨T8, _, _, b7, X8, rfl, N8, (Nat.ne_of_lt (Nat.lt_of_lt_of_le V_o21.lt (Nat.le_of_eq g7.symm))).symm, Vend_o19, Vend_o20, Vend_o21, Eq8, Fq8, Zend, fun target kt => ?_⟩
  show Steps p.tables e below (T0.setTop (mkF m 368 #[s0, s1, s2, s3, s4, s5, s6, s7, s8, s9, s10, s11, s12, s13, s14, s15, .val (.ref o16), .val (.ref o17), s18, .val (.ref o19), .val (.ref o20), .val (.ref o21), .unset] [])) _
  refine st7 _ ?_
  show Steps p.tables e below (T7.setTop (mkF m 371 #[s0, s1, s2, s3, s4, s5, s6, s7, s8, s9, s10, s11, s12, s13, s14, s15, .val (.ref o16), .val (.ref o17), s18, .val (.ref o19), .val (.ref o20), .val (.ref o21), .unset] [(.ref b7)])) _
  refine XS.dup X7.here hx rfl (hb hby at_371) rfl rfl ?_
  show Steps p.tables e below (T7.setTop (mkF m 372 #[s0, s1, s2, s3, s4, s5, s6, s7, s8, s9, s10, s11, s12, s13, s14, s15, .val (.ref o16), .val (.ref o17), s18, .val (.ref o19), .val (.ref o20), .val (.ref o21), .unset] [(.ref b7), (.ref b7)])) _
  refine XS.aload X7.here hx rfl (hb hby at_372) rfl rfl ?_
  show Steps p.tables e below (T7.setTop (mkF m 374 #[s0, s1, s2, s3, s4, s5, s6, s7, s8, s9, s10, s11, s12, s13, s14, s15, .val (.ref o16), .val (.ref o17), s18, .val (.ref o19), .val (.ref o20), .val (.ref o21), .unset] [(.ref o16), (.ref b7), (.ref b7)])) _
  refine XS.aload X7.here hx rfl (hb hby at_374) rfl rfl ?_
  show Steps p.tables e below (T7.setTop (mkF m 376 #[s0, s1, s2, s3, s4, s5, s6, s7, s8, s9, s10, s11, s12, s13, s14, s15, .val (.ref o16), .val (.ref o17), s18, .val (.ref o19), .val (.ref o20), .val (.ref o21), .unset] [(.ref o17), (.ref o16), (.ref b7), (.ref b7)])) _
  refine st8.trans ?_
  show Steps p.tables e below (T8.setTop (mkF m 379 #[s0, s1, s2, s3, s4, s5, s6, s7, s8, s9, s10, s11, s12, s13, s14, s15, .val (.ref o16), .val (.ref o17), s18, .val (.ref o19), .val (.ref o20), .val (.ref o21), .unset] [(.ref b7)])) _
  refine XS.astore X8.here hx rfl (hb hby at_379) rfl rfl (l' := #[s0, s1, s2, s3, s4, s5, s6, s7, s8, s9, s10, s11, s12, s13, s14, s15, .val (.ref o16), .val (.ref o17), s18, .val (.ref o19), .val (.ref o20), .val (.ref o21), .val (.ref b7)]) rfl ?_
  exact kt
set_option maxRecDepth 65536 in
set_option maxHeartbeats 40000000 in
theorem sD1 {p : Program} {l : Launch} {e : Env} {s : State} {m : MethodId} {args : Array Value} {below : List Frame} {meth : Method} {c : Code} {T0 : State} {locs : List Loc} {Z : State} {a0 : Array Value} {h0 : Heap} (s0 : Slot) (s1 : Slot) (s2 : Slot) (s3 : Slot) (s4 : Slot) (s5 : Slot) (s6 : Slot) (s7 : Slot) (s8 : Slot) (s9 : Slot) (s10 : Slot) (s11 : Slot) (s12 : Slot) (s13 : Slot) (s14 : Slot) (s15 : Slot) (o16 : Addr) (o17 : Addr) (s18 : Slot) (o19 : Addr) (o20 : Addr) (o21 : Addr) (n0 : Nat) (lo : Int32) (hi : Int32) (zz : Int32) (wc : Int32) (f_o19 : Nat → Value) (f_o20 : Nat → Value) (f_o21 : Nat → Value)
    (X0 : Stand p l e room_1 s m args below meth c T0 locs 5 24) (hx : p.tables.exec = Jvm.exec) (hZ : Z.Warmed39 s.vm) (hw : ∀ d ∈ tables_1, d.before a0 Z = true) (hby : c.code = code) (hml : c.maxLocals = 23) (hown : s.vm.findClass "com/example/tight_bounds/tightbounds/model/StateLayoutApplyPinLaw" = some m.cls) (e0 : T0.heap = h0) (Z0 : n0 ≤ h0.size) (N0 : Fr n0 locs) (hz : own_nz ((hi.toInt64) - (lo.toInt64)) zz) (h64 : ¬ ((64 : Int32) < ((0 : Int32) + ((64 : Int32) - zz)))) (hwc : wc = (own_it ((64 : Int32) - zz) 0 (own_tn ((64 : Int32) - zz) ((0 : Int32), (0 : Int32)))).1 + 1) (V_o16 : Ary Z h0 o16 .int 1 (fun _ => .int lo)) (V_o17 : Ary Z h0 o17 .int 1 (fun _ => .int hi)) (V_o19 : Ary Z h0 o19 .long 10 f_o19) (V_o20 : Ary Z h0 o20 .long 6 f_o20) (V_o21 : Ary Z h0 o21 .long 6 f_o21) (E_o16 : Exa Z h0 o16 "[I") :
    ∃ (T' : State) (h' : Heap) (locs' : List Loc) (b : Addr), Stand p l e room_1 s m args below meth c T' locs' (5 + 5) (24 + 25) ∧ T'.heap = h' ∧ Fr n0 locs' ∧ b ≠ o21 ∧ Ary Z h' o19 .long 10 f_o19 ∧ Ary Z h' o20 .long 6 f_o20 ∧ Ary Z h' o21 .long 6 f_o21 ∧ Exa Z h' b "com/example/tight_bounds/tightbounds/model/StateLayout" ∧ Fld Z h' b "com/example/tight_bounds/tightbounds/model/StateLayout" "wordCount" "I" (.int wc) ∧ n0 ≤ h'.size ∧
      ∀ target, Steps p.tables e below (T'.setTop (mkF m 381 #[s0, s1, s2, s3, s4, s5, s6, s7, s8, s9, s10, s11, s12, s13, s14, s15, .val (.ref o16), .val (.ref o17), s18, .val (.ref o19), .val (.ref o20), .val (.ref o21), .val (.ref b)] [])) target → Steps p.tables e below (T0.setTop (mkF m 368 #[s0, s1, s2, s3, s4, s5, s6, s7, s8, s9, s10, s11, s12, s13, s14, s15, .val (.ref o16), .val (.ref o17), s18, .val (.ref o19), .val (.ref o20), .val (.ref o21), .unset] [])) target := by
  obtain ⟨T7, h7, X7, e7, E7, A7, D7, -, st7⟩ := newO X0 hx hZ hown (hw _ (List.mem_of_getElem? (i := 5) rfl)) (hw _ (List.mem_of_getElem? (i := 6) rfl)) (hw _ (List.mem_of_getElem? (i := 7) rfl)) e0 (g := (mkF m 368 #[s0, s1, s2, s3, s4, s5, s6, s7, s8, s9, s10, s11, s12, s13, s14, s15, .val (.ref o16), .val (.ref o17), s18, .val (.ref o19), .val (.ref o20), .val (.ref o21), .unset] [])) rfl (hb hby at_368) (by decide) (by decide)
  obtain ⟨b7, g7⟩ : ∃ z, z = h0.size := ⟨_, rfl⟩
  rw [← g7] at A7 D7 st7
  have F_lows_b7 : Fld Z h7 b7 "com/example/tight_bounds/tightbounds/model/StateLayout" "lows" "[I" .null := D7 (Or.inr (hw _ (List.mem_of_getElem? (i := 24) rfl))) (ty := (.array .int)) (by decide)
  have F_words_b7 : Fld Z h7 b7 "com/example/tight_bounds/tightbounds/model/StateLayout" "words" "[I" .null := D7 (Or.inr (hw _ (List.mem_of_getElem? (i := 26) rfl))) (ty := (.array .int)) (by decide)
  have F_shifts_b7 : Fld Z h7 b7 "com/example/tight_bounds/tightbounds/model/StateLayout" "shifts" "[I" .null := D7 (Or.inr (hw _ (List.mem_of_getElem? (i := 28) rfl))) (ty := (.array .int)) (by decide)
  have F_masks_b7 : Fld Z h7 b7 "com/example/tight_bounds/tightbounds/model/StateLayout" "masks" "[J" .null := D7 (Or.inr (hw _ (List.mem_of_getElem? (i := 30) rfl))) (ty := (.array .long)) (by decide)
  have F_wordCount_b7 : Fld Z h7 b7 "com/example/tight_bounds/tightbounds/model/StateLayout" "wordCount" "I" (.int (0 : Int32)) := D7 (Or.inr (hw _ (List.mem_of_getElem? (i := 32) rfl))) (ty := .int) (by decide)
  have E_b7 := A7
  have g_b7 : n0 ≤ b7 := Nat.le_trans Z0 (Nat.le_of_eq g7.symm)
  have sz_b7 : h0.size ≤ b7 := (Nat.le_trans (Keep.refl h0 []).1 (Nat.le_of_eq g7.symm))
  have K7 : Keep h0 h7 [] := (Keep.refl h0 []).ext E7
  have Zc8 : n0 ≤ h7.size := (Nat.le_trans Z0 E7.1)
  have Ec8_b7 := E_b7
  have Vc8_o16 := (V_o16.ext E7)
  have Ec8_o16 := (E_o16.ext E7)
  have Vc8_o17 := (V_o17.ext E7)
  obtain ⟨_, _, ⟨T8, L8, k8, n8⟩, -, X8, ⟨Lc8, hQ8, l8, y8, z8⟩, st8⟩ := X7.specialBack hx (y := (⟨"com/example/tight_bounds/tightbounds/model/StateLayout", "<init>", "([I[I)V"⟩ : MethodName)) rfl hown (mvT hZ (hw _ (List.mem_of_getElem? (i := 8) rfl))) (mvT hZ (hw _ (List.mem_of_getElem? (i := 9) rfl))) (mvT hZ (hw _ (List.mem_of_getElem? (i := 10) rfl))) (by decide) (backOf (W := 1) (rm1_1 l Z a0 hw [] b7 o16 o17 lo hi zz wc h7 n0 Zc8 g_b7 Ec8_b7 F_lows_b7 F_words_b7 F_shifts_b7 F_masks_b7 F_wordCount_b7 Vc8_o16 Vc8_o17 Ec8_o16 (Nat.ne_of_lt (Nat.lt_of_lt_of_le V_o16.lt (Nat.le_of_eq g7.symm))) (Nat.ne_of_lt (Nat.lt_of_lt_of_le V_o17.lt (Nat.le_of_eq g7.symm))) hz h64 hwc) hZ (hw _ (List.mem_of_getElem? (i := 10) rfl)) (hw _ (List.mem_of_getElem? (i := 7) rfl)) (by decide) (by decide)) (g := (mkF m 376 #[s0, s1, s2, s3, s4, s5, s6, s7, s8, s9, s10, s11, s12, s13, s14, s15, .val (.ref o16), .val (.ref o17), s18, .val (.ref o19), .val (.ref o20), .val (.ref o21), .unset] [(.ref o17), (.ref o16), (.ref b7), (.ref b7)])) rfl (by rw [hml]; rfl) (Steps.refl _) (a := b7) (argsL := [(.ref o16), (.ref o17)]) (rest := [(.ref b7)]) (lenOf pd_0_0 rfl) rfl (by show 2 * 0 + _ ≤ _; exact Nat.le_of_eq rfl) (hb hby at_376) (fun _ _ => ⟨rfl, e7, (by decide : 5 + 1 + 4 ≤ room_1.cells), (by decide : 24 + 5 + 20 ≤ room_1.slots)⟩)
  dsimp only [Pt.U, Pt.locs, Pt.cells, Pt.slots] at X8 l8 y8 z8 st8 hQ8
  subst l8 y8 z8
  obtain ⟨rfl, N8q, Kq8, Eq8, Fq8⟩ := hQ8
  have N8 := Fr.app N0 N8q
  have K8 : Keep h0 T8.heap [] := K7.trans Kq8 (fun x hx => by cases List.mem_singleton.mp hx; exact Or.inr sz_b7)
  have Vend_o16 := ((V_o16.ext E7).keep Kq8 (own_ni (Nat.ne_of_lt (Nat.lt_of_lt_of_le V_o16.lt (Nat.le_of_eq g7.symm)))))
  have Vend_o17 := ((V_o17.ext E7).keep Kq8 (own_ni (Nat.ne_of_lt (Nat.lt_of_lt_of_le V_o17.lt (Nat.le_of_eq g7.symm)))))
  have Vend_o19 := ((V_o19.ext E7).keep Kq8 (own_ni (Nat.ne_of_lt (Nat.lt_of_lt_of_le V_o19.lt (Nat.le_of_eq g7.symm)))))
  have Vend_o20 := ((V_o20.ext E7).keep Kq8 (own_ni (Nat.ne_of_lt (Nat.lt_of_lt_of_le V_o20.lt (Nat.le_of_eq g7.symm)))))
  have Vend_o21 := ((V_o21.ext E7).keep Kq8 (own_ni (Nat.ne_of_lt (Nat.lt_of_lt_of_le V_o21.lt (Nat.le_of_eq g7.symm)))))
  have Eend_o16 := ((E_o16.ext E7).keep Kq8)
  have Eend_b7 := (E_b7.keep Kq8)
  have ne_o16_b7 : o16 ≠ b7 := (Nat.ne_of_lt (Nat.lt_of_lt_of_le V_o16.lt (Nat.le_of_eq g7.symm)))
  have ne_o17_b7 : o17 ≠ b7 := (Nat.ne_of_lt (Nat.lt_of_lt_of_le V_o17.lt (Nat.le_of_eq g7.symm)))
  have ne_o19_b7 : o19 ≠ b7 := (Nat.ne_of_lt (Nat.lt_of_lt_of_le V_o19.lt (Nat.le_of_eq g7.symm)))
  have ne_o20_b7 : o20 ≠ b7 := (Nat.ne_of_lt (Nat.lt_of_lt_of_le V_o20.lt (Nat.le_of_eq g7.symm)))
  have ne_o21_b7 : o21 ≠ b7 := (Nat.ne_of_lt (Nat.lt_of_lt_of_le V_o21.lt (Nat.le_of_eq g7.symm)))
  have Zend : n0 ≤ T8.heap.size := (Nat.le_trans (Nat.le_trans Z0 E7.1) Kq8.1)
  have Kend := K8
  refine ⟨T8, _, _, b7, X8, rfl, N8, (Nat.ne_of_lt (Nat.lt_of_lt_of_le V_o21.lt (Nat.le_of_eq g7.symm))).symm, Vend_o19, Vend_o20, Vend_o21, Eq8, Fq8, Zend, fun target kt => ?_⟩
  show Steps p.tables e below (T0.setTop (mkF m 368 #[s0, s1, s2, s3, s4, s5, s6, s7, s8, s9, s10, s11, s12, s13, s14, s15, .val (.ref o16), .val (.ref o17), s18, .val (.ref o19), .val (.ref o20), .val (.ref o21), .unset] [])) _
  refine st7 _ ?_
  show Steps p.tables e below (T7.setTop (mkF m 371 #[s0, s1, s2, s3, s4, s5, s6, s7, s8, s9, s10, s11, s12, s13, s14, s15, .val (.ref o16), .val (.ref o17), s18, .val (.ref o19), .val (.ref o20), .val (.ref o21), .unset] [(.ref b7)])) _
  refine XS.dup X7.here hx rfl (hb hby at_371) rfl rfl ?_
  show Steps p.tables e below (T7.setTop (mkF m 372 #[s0, s1, s2, s3, s4, s5, s6, s7, s8, s9, s10, s11, s12, s13, s14, s15, .val (.ref o16), .val (.ref o17), s18, .val (.ref o19), .val (.ref o20), .val (.ref o21), .unset] [(.ref b7), (.ref b7)])) _
  refine XS.aload X7.here hx rfl (hb hby at_372) rfl rfl ?_
  show Steps p.tables e below (T7.setTop (mkF m 374 #[s0, s1, s2, s3, s4, s5, s6, s7, s8, s9, s10, s11, s12, s13, s14, s15, .val (.ref o16), .val (.ref o17), s18, .val (.ref o19), .val (.ref o20), .val (.ref o21), .unset] [(.ref o16), (.ref b7), (.ref b7)])) _
  refine XS.aload X7.here hx rfl (hb hby at_374) rfl rfl ?_
  show Steps p.tables e below (T7.setTop (mkF m 376 #[s0, s1, s2, s3, s4, s5, s6, s7, s8, s9, s10, s11, s12, s13, s14, s15, .val (.ref o16), .val (.ref o17), s18, .val (.ref o19), .val (.ref o20), .val (.ref o21), .unset] [(.ref o17), (.ref o16), (.ref b7), (.ref b7)])) _
  refine st8.trans ?_
  show Steps p.tables e below (T8.setTop (mkF m 379 #[s0, s1, s2, s3, s4, s5, s6, s7, s8, s9, s10, s11, s12, s13, s14, s15, .val (.ref o16), .val (.ref o17), s18, .val (.ref o19), .val (.ref o20), .val (.ref o21), .unset] [(.ref b7)])) _
  refine XS.astore X8.here hx rfl (hb hby at_379) rfl rfl (l' := #[s0, s1, s2, s3, s4, s5, s6, s7, s8, s9, s10, s11, s12, s13, s14, s15, .val (.ref o16), .val (.ref o17), s18, .val (.ref o19), .val (.ref o20), .val (.ref o21), .val (.ref b7)]) rfl ?_
  exact kt
set_option maxRecDepth 65536 in
set_option maxHeartbeats 40000000 in
theorem sD3 {p : Program} {l : Launch} {e : Env} {s : State} {m : MethodId} {args : Array Value} {below : List Frame} {meth : Method} {c : Code} {T0 : State} {locs : List Loc} {Z : State} {a0 : Array Value} {h0 : Heap} (s0 : Slot) (s1 : Slot) (s2 : Slot) (s3 : Slot) (s4 : Slot) (s5 : Slot) (s6 : Slot) (s7 : Slot) (s8 : Slot) (s9 : Slot) (s10 : Slot) (s11 : Slot) (s12 : Slot) (s13 : Slot) (s14 : Slot) (s15 : Slot) (o16 : Addr) (o17 : Addr) (s18 : Slot) (o19 : Addr) (o20 : Addr) (o21 : Addr) (n0 : Nat) (lo : Int32) (hi : Int32) (zz : Int32) (wc : Int32) (f_o19 : Nat → Value) (f_o20 : Nat → Value) (f_o21 : Nat → Value)
    (X0 : Stand p l e room_1 s m args below meth c T0 locs 5 28) (hx : p.tables.exec = Jvm.exec) (hZ : Z.Warmed39 s.vm) (hw : ∀ d ∈ tables_1, d.before a0 Z = true) (hby : c.code = code) (hml : c.maxLocals = 23) (hown : s.vm.findClass "com/example/tight_bounds/tightbounds/model/StateLayoutApplyPinLaw" = some m.cls) (e0 : T0.heap = h0) (Z0 : n0 ≤ h0.size) (N0 : Fr n0 locs) (hz : own_nz ((hi.toInt64) - (lo.toInt64)) zz) (h64 : ¬ ((64 : Int32) < ((0 : Int32) + ((64 : Int32) - zz)))) (hwc : wc = (own_it ((64 : Int32) - zz) 2 (own_tn ((64 : Int32) - zz) ((0 : Int32), (0 : Int32)))).1 + 1) (V_o16 : Ary Z h0 o16 .int 3 (fun _ => .int lo)) (V_o17 : Ary Z h0 o17 .int 3 (fun _ => .int hi)) (V_o19 : Ary Z h0 o19 .long 10 f_o19) (V_o20 : Ary Z h0 o20 .long 6 f_o20) (V_o21 : Ary Z h0 o21 .long 6 f_o21) (E_o16 : Exa Z h0 o16 "[I") :
    ∃ (T' : State) (h' : Heap) (locs' : List Loc) (b : Addr), Stand p l e room_1 s m args below meth c T' locs' (5 + 5) (28 + 25) ∧ T'.heap = h' ∧ Fr n0 locs' ∧ b ≠ o21 ∧ Ary Z h' o19 .long 10 f_o19 ∧ Ary Z h' o20 .long 6 f_o20 ∧ Ary Z h' o21 .long 6 f_o21 ∧ Exa Z h' b "com/example/tight_bounds/tightbounds/model/StateLayout" ∧ Fld Z h' b "com/example/tight_bounds/tightbounds/model/StateLayout" "wordCount" "I" (.int wc) ∧ n0 ≤ h'.size ∧
      ∀ target, Steps p.tables e below (T'.setTop (mkF m 381 #[s0, s1, s2, s3, s4, s5, s6, s7, s8, s9, s10, s11, s12, s13, s14, s15, .val (.ref o16), .val (.ref o17), s18, .val (.ref o19), .val (.ref o20), .val (.ref o21), .val (.ref b)] [])) target → Steps p.tables e below (T0.setTop (mkF m 368 #[s0, s1, s2, s3, s4, s5, s6, s7, s8, s9, s10, s11, s12, s13, s14, s15, .val (.ref o16), .val (.ref o17), s18, .val (.ref o19), .val (.ref o20), .val (.ref o21), .unset] [])) target := by
  obtain ⟨T7, h7, X7, e7, E7, A7, D7, -, st7⟩ := newO X0 hx hZ hown (hw _ (List.mem_of_getElem? (i := 5) rfl)) (hw _ (List.mem_of_getElem? (i := 6) rfl)) (hw _ (List.mem_of_getElem? (i := 7) rfl)) e0 (g := (mkF m 368 #[s0, s1, s2, s3, s4, s5, s6, s7, s8, s9, s10, s11, s12, s13, s14, s15, .val (.ref o16), .val (.ref o17), s18, .val (.ref o19), .val (.ref o20), .val (.ref o21), .unset] [])) rfl (hb hby at_368) (by decide) (by decide)
  obtain ⟨b7, g7⟩ : ∃ z, z = h0.size := ⟨_, rfl⟩
  rw [← g7] at A7 D7 st7
  have F_lows_b7 : Fld Z h7 b7 "com/example/tight_bounds/tightbounds/model/StateLayout" "lows" "[I" .null := D7 (Or.inr (hw _ (List.mem_of_getElem? (i := 24) rfl))) (ty := (.array .int)) (by decide)
  have F_words_b7 : Fld Z h7 b7 "com/example/tight_bounds/tightbounds/model/StateLayout" "words" "[I" .null := D7 (Or.inr (hw _ (List.mem_of_getElem? (i := 26) rfl))) (ty := (.array .int)) (by decide)
  have F_shifts_b7 : Fld Z h7 b7 "com/example/tight_bounds/tightbounds/model/StateLayout" "shifts" "[I" .null := D7 (Or.inr (hw _ (List.mem_of_getElem? (i := 28) rfl))) (ty := (.array .int)) (by decide)
  have F_masks_b7 : Fld Z h7 b7 "com/example/tight_bounds/tightbounds/model/StateLayout" "masks" "[J" .null := D7 (Or.inr (hw _ (List.mem_of_getElem? (i := 30) rfl))) (ty := (.array .long)) (by decide)
  have F_wordCount_b7 : Fld Z h7 b7 "com/example/tight_bounds/tightbounds/model/StateLayout" "wordCount" "I" (.int (0 : Int32)) := D7 (Or.inr (hw _ (List.mem_of_getElem? (i := 32) rfl))) (ty := .int) (by decide)
  have E_b7 := A7
  have g_b7 : n0 ≤ b7 := Nat.le_trans Z0 (Nat.le_of_eq g7.symm)
  have sz_b7 : h0.size ≤ b7 := (Nat.le_trans (Keep.refl h0 []).1 (Nat.le_of_eq g7.symm))
  have K7 : Keep h0 h7 [] := (Keep.refl h0 []).ext E7
  have Zc8 : n0 ≤ h7.size := (Nat.le_trans Z0 E7.1)
  have Ec8_b7 := E_b7
  have Vc8_o16 := (V_o16.ext E7)
  have Ec8_o16 := (E_o16.ext E7)
  have Vc8_o17 := (V_o17.ext E7)
  obtain ⟨_, _, ⟨T8, L8, k8, n8⟩, -, X8, ⟨Lc8, hQ8, l8, y8, z8⟩, st8⟩ := X7.specialBack hx (y := (⟨"com/example/tight_bounds/tightbounds/model/StateLayout", "<init>", "([I[I)V"⟩ : MethodName)) rfl hown (mvT hZ (hw _ (List.mem_of_getElem? (i := 8) rfl))) (mvT hZ (hw _ (List.mem_of_getElem? (i := 9) rfl))) (mvT hZ (hw _ (List.mem_of_getElem? (i := 10) rfl))) (by decide) (backOf (W := 1) (rm1_3 l Z a0 hw [] b7 o16 o17 lo hi zz wc h7 n0 Zc8 g_b7 Ec8_b7 F_lows_b7 F_words_b7 F_shifts_b7 F_masks_b7 F_wordCount_b7 Vc8_o16 Vc8_o17 Ec8_o16 (Nat.ne_of_lt (Nat.lt_of_lt_of_le V_o16.lt (Nat.le_of_eq g7.symm))) (Nat.ne_of_lt (Nat.lt_of_lt_of_le V_o17.lt (Nat.le_of_eq g7.symm))) hz h64 hwc) hZ (hw _ (List.mem_of_getElem? (i := 10) rfl)) (hw _ (List.mem_of_getElem? (i := 7) rfl)) (by decide) (by decide)) (g := (mkF m 376 #[s0, s1, s2, s3, s4, s5, s6, s7, s8, s9, s10, s11, s12, s13, s14, s15, .val (.ref o16), .val (.ref o17), s18, .val (.ref o19), .val (.ref o20), .val (.ref o21), .unset] [(.ref o17), (.ref o16), (.ref b7), (.ref b7)])) rfl (by rw [hml]; rfl) (Steps.refl _) (a := b7) (argsL := [(.ref o16), (.ref o17)]) (rest := [(.ref b7)]) (lenOf pd_0_0 rfl) rfl (by show 2 * 0 + _ ≤ _; exact Nat.le_of_eq rfl) (hb hby at_376) (fun _ _ => ⟨rfl, e7, (by decide : 5 + 1 + 4 ≤ room_1.cells), (by decide : 28 + 5 + 20 ≤ room_1.slots)⟩)
  dsimp only [Pt.U, Pt.locs, Pt.cells, Pt.slots] at X8 l8 y8 z8 st8 hQ8
  subst l8 y8 z8
  obtain ⟨rfl, N8q, Kq8, Eq8, Fq8⟩ := hQ8
  have N8 := Fr.app N0 N8q
  have K8 : Keep h0 T8.heap [] := K7.trans Kq8 (fun x hx => by cases List.mem_singleton.mp hx; exact Or.inr sz_b7)
  have Vend_o16 := ((V_o16.ext E7).keep Kq8 (own_ni (Nat.ne_of_lt (Nat.lt_of_lt_of_le V_o16.lt (Nat.le_of_eq g7.symm)))))
  have Vend_o17 := ((V_o17.ext E7).keep Kq8 (own_ni (Nat.ne_of_lt (Nat.lt_of_lt_of_le V_o17.lt (Nat.le_of_eq g7.symm)))))
  have Vend_o19 := ((V_o19.ext E7).keep Kq8 (own_ni (Nat.ne_of_lt (Nat.lt_of_lt_of_le V_o19.lt (Nat.le_of_eq g7.symm)))))
  have Vend_o20 := ((V_o20.ext E7).keep Kq8 (own_ni (Nat.ne_of_lt (Nat.lt_of_lt_of_le V_o20.lt (Nat.le_of_eq g7.symm)))))
  have Vend_o21 := ((V_o21.ext E7).keep Kq8 (own_ni (Nat.ne_of_lt (Nat.lt_of_lt_of_le V_o21.lt (Nat.le_of_eq g7.symm)))))
  have Eend_o16 := ((E_o16.ext E7).keep Kq8)
  have Eend_b7 := (E_b7.keep Kq8)
  have ne_o16_b7 : o16 ≠ b7 := (Nat.ne_of_lt (Nat.lt_of_lt_of_le V_o16.lt (Nat.le_of_eq g7.symm)))
  have ne_o17_b7 : o17 ≠ b7 := (Nat.ne_of_lt (Nat.lt_of_lt_of_le V_o17.lt (Nat.le_of_eq g7.symm)))
  have ne_o19_b7 : o19 ≠ b7 := (Nat.ne_of_lt (Nat.lt_of_lt_of_le V_o19.lt (Nat.le_of_eq g7.symm)))
  have ne_o20_b7 : o20 ≠ b7 := (Nat.ne_of_lt (Nat.lt_of_lt_of_le V_o20.lt (Nat.le_of_eq g7.symm)))
  have ne_o21_b7 : o21 ≠ b7 := (Nat.ne_of_lt (Nat.lt_of_lt_of_le V_o21.lt (Nat.le_of_eq g7.symm)))
  have Zend : n0 ≤ T8.heap.size := (Nat.le_trans (Nat.le_trans Z0 E7.1) Kq8.1)
  have Kend := K8
  refine ⟨T8, _, _, b7, X8, rfl, N8, (Nat.ne_of_lt (Nat.lt_of_lt_of_le V_o21.lt (Nat.le_of_eq g7.symm))).symm, Vend_o19, Vend_o20, Vend_o21, Eq8, Fq8, Zend, fun target kt => ?_⟩
  show Steps p.tables e below (T0.setTop (mkF m 368 #[s0, s1, s2, s3, s4, s5, s6, s7, s8, s9, s10, s11, s12, s13, s14, s15, .val (.ref o16), .val (.ref o17), s18, .val (.ref o19), .val (.ref o20), .val (.ref o21), .unset] [])) _
  refine st7 _ ?_
  show Steps p.tables e below (T7.setTop (mkF m 371 #[s0, s1, s2, s3, s4, s5, s6, s7, s8, s9, s10, s11, s12, s13, s14, s15, .val (.ref o16), .val (.ref o17), s18, .val (.ref o19), .val (.ref o20), .val (.ref o21), .unset] [(.ref b7)])) _
  refine XS.dup X7.here hx rfl (hb hby at_371) rfl rfl ?_
  show Steps p.tables e below (T7.setTop (mkF m 372 #[s0, s1, s2, s3, s4, s5, s6, s7, s8, s9, s10, s11, s12, s13, s14, s15, .val (.ref o16), .val (.ref o17), s18, .val (.ref o19), .val (.ref o20), .val (.ref o21), .unset] [(.ref b7), (.ref b7)])) _
  refine XS.aload X7.here hx rfl (hb hby at_372) rfl rfl ?_
  show Steps p.tables e below (T7.setTop (mkF m 374 #[s0, s1, s2, s3, s4, s5, s6, s7, s8, s9, s10, s11, s12, s13, s14, s15, .val (.ref o16), .val (.ref o17), s18, .val (.ref o19), .val (.ref o20), .val (.ref o21), .unset] [(.ref o16), (.ref b7), (.ref b7)])) _
  refine XS.aload X7.here hx rfl (hb hby at_374) rfl rfl ?_
  show Steps p.tables e below (T7.setTop (mkF m 376 #[s0, s1, s2, s3, s4, s5, s6, s7, s8, s9, s10, s11, s12, s13, s14, s15, .val (.ref o16), .val (.ref o17), s18, .val (.ref o19), .val (.ref o20), .val (.ref o21), .unset] [(.ref o17), (.ref o16), (.ref b7), (.ref b7)])) _
  refine st8.trans ?_
  show Steps p.tables e below (T8.setTop (mkF m 379 #[s0, s1, s2, s3, s4, s5, s6, s7, s8, s9, s10, s11, s12, s13, s14, s15, .val (.ref o16), .val (.ref o17), s18, .val (.ref o19), .val (.ref o20), .val (.ref o21), .unset] [(.ref b7)])) _
  refine XS.astore X8.here hx rfl (hb hby at_379) rfl rfl (l' := #[s0, s1, s2, s3, s4, s5, s6, s7, s8, s9, s10, s11, s12, s13, s14, s15, .val (.ref o16), .val (.ref o17), s18, .val (.ref o19), .val (.ref o20), .val (.ref o21), .val (.ref b7)]) rfl ?_
  exact kt
set_option maxRecDepth 65536 in
set_option maxHeartbeats 40000000 in
theorem sD5 {p : Program} {l : Launch} {e : Env} {s : State} {m : MethodId} {args : Array Value} {below : List Frame} {meth : Method} {c : Code} {T0 : State} {locs : List Loc} {Z : State} {a0 : Array Value} {h0 : Heap} (s0 : Slot) (s1 : Slot) (s2 : Slot) (s3 : Slot) (s4 : Slot) (s5 : Slot) (s6 : Slot) (s7 : Slot) (s8 : Slot) (s9 : Slot) (s10 : Slot) (s11 : Slot) (s12 : Slot) (s13 : Slot) (s14 : Slot) (s15 : Slot) (o16 : Addr) (o17 : Addr) (s18 : Slot) (o19 : Addr) (o20 : Addr) (o21 : Addr) (n0 : Nat) (lo : Int32) (hi : Int32) (zz : Int32) (wc : Int32) (f_o19 : Nat → Value) (f_o20 : Nat → Value) (f_o21 : Nat → Value)
    (X0 : Stand p l e room_1 s m args below meth c T0 locs 5 32) (hx : p.tables.exec = Jvm.exec) (hZ : Z.Warmed39 s.vm) (hw : ∀ d ∈ tables_1, d.before a0 Z = true) (hby : c.code = code) (hml : c.maxLocals = 23) (hown : s.vm.findClass "com/example/tight_bounds/tightbounds/model/StateLayoutApplyPinLaw" = some m.cls) (e0 : T0.heap = h0) (Z0 : n0 ≤ h0.size) (N0 : Fr n0 locs) (hz : own_nz ((hi.toInt64) - (lo.toInt64)) zz) (h64 : ¬ ((64 : Int32) < ((0 : Int32) + ((64 : Int32) - zz)))) (hwc : wc = (own_it ((64 : Int32) - zz) 4 (own_tn ((64 : Int32) - zz) ((0 : Int32), (0 : Int32)))).1 + 1) (V_o16 : Ary Z h0 o16 .int 5 (fun _ => .int lo)) (V_o17 : Ary Z h0 o17 .int 5 (fun _ => .int hi)) (V_o19 : Ary Z h0 o19 .long 10 f_o19) (V_o20 : Ary Z h0 o20 .long 6 f_o20) (V_o21 : Ary Z h0 o21 .long 6 f_o21) (E_o16 : Exa Z h0 o16 "[I") :
    ∃ (T' : State) (h' : Heap) (locs' : List Loc) (b : Addr), Stand p l e room_1 s m args below meth c T' locs' (5 + 5) (32 + 25) ∧ T'.heap = h' ∧ Fr n0 locs' ∧ b ≠ o21 ∧ Ary Z h' o19 .long 10 f_o19 ∧ Ary Z h' o20 .long 6 f_o20 ∧ Ary Z h' o21 .long 6 f_o21 ∧ Exa Z h' b "com/example/tight_bounds/tightbounds/model/StateLayout" ∧ Fld Z h' b "com/example/tight_bounds/tightbounds/model/StateLayout" "wordCount" "I" (.int wc) ∧ n0 ≤ h'.size ∧
      ∀ target, Steps p.tables e below (T'.setTop (mkF m 381 #[s0, s1, s2, s3, s4, s5, s6, s7, s8, s9, s10, s11, s12, s13, s14, s15, .val (.ref o16), .val (.ref o17), s18, .val (.ref o19), .val (.ref o20), .val (.ref o21), .val (.ref b)] [])) target → Steps p.tables e below (T0.setTop (mkF m 368 #[s0, s1, s2, s3, s4, s5, s6, s7, s8, s9, s10, s11, s12, s13, s14, s15, .val (.ref o16), .val (.ref o17), s18, .val (.ref o19), .val (.ref o20), .val (.ref o21), .unset] [])) target := by
  obtain ⟨T7, h7, X7, e7, E7, A7, D7, -, st7⟩ := newO X0 hx hZ hown (hw _ (List.mem_of_getElem? (i := 5) rfl)) (hw _ (List.mem_of_getElem? (i := 6) rfl)) (hw _ (List.mem_of_getElem? (i := 7) rfl)) e0 (g := (mkF m 368 #[s0, s1, s2, s3, s4, s5, s6, s7, s8, s9, s10, s11, s12, s13, s14, s15, .val (.ref o16), .val (.ref o17), s18, .val (.ref o19), .val (.ref o20), .val (.ref o21), .unset] [])) rfl (hb hby at_368) (by decide) (by decide)
  obtain ⟨b7, g7⟩ : ∃ z, z = h0.size := ⟨_, rfl⟩
  rw [← g7] at A7 D7 st7
  have F_lows_b7 : Fld Z h7 b7 "com/example/tight_bounds/tightbounds/model/StateLayout" "lows" "[I" .null := D7 (Or.inr (hw _ (List.mem_of_getElem? (i := 24) rfl))) (ty := (.array .int)) (by decide)
  have F_words_b7 : Fld Z h7 b7 "com/example/tight_bounds/tightbounds/model/StateLayout" "words" "[I" .null := D7 (Or.inr (hw _ (List.mem_of_getElem? (i := 26) rfl))) (ty := (.array .int)) (by decide)
  have F_shifts_b7 : Fld Z h7 b7 "com/example/tight_bounds/tightbounds/model/StateLayout" "shifts" "[I" .null := D7 (Or.inr (hw _ (List.mem_of_getElem? (i := 28) rfl))) (ty := (.array .int)) (by decide)
  have F_masks_b7 : Fld Z h7 b7 "com/example/tight_bounds/tightbounds/model/StateLayout" "masks" "[J" .null := D7 (Or.inr (hw _ (List.mem_of_getElem? (i := 30) rfl))) (ty := (.array .long)) (by decide)
  have F_wordCount_b7 : Fld Z h7 b7 "com/example/tight_bounds/tightbounds/model/StateLayout" "wordCount" "I" (.int (0 : Int32)) := D7 (Or.inr (hw _ (List.mem_of_getElem? (i := 32) rfl))) (ty := .int) (by decide)
  have E_b7 := A7
  have g_b7 : n0 ≤ b7 := Nat.le_trans Z0 (Nat.le_of_eq g7.symm)
  have sz_b7 : h0.size ≤ b7 := (Nat.le_trans (Keep.refl h0 []).1 (Nat.le_of_eq g7.symm))
  have K7 : Keep h0 h7 [] := (Keep.refl h0 []).ext E7
  have Zc8 : n0 ≤ h7.size := (Nat.le_trans Z0 E7.1)
  have Ec8_b7 := E_b7
  have Vc8_o16 := (V_o16.ext E7)
  have Ec8_o16 := (E_o16.ext E7)
  have Vc8_o17 := (V_o17.ext E7)
  obtain ⟨_, _, ⟨T8, L8, k8, n8⟩, -, X8, ⟨Lc8, hQ8, l8, y8, z8⟩, st8⟩ := X7.specialBack hx (y := (⟨"com/example/tight_bounds/tightbounds/model/StateLayout", "<init>", "([I[I)V"⟩ : MethodName)) rfl hown (mvT hZ (hw _ (List.mem_of_getElem? (i := 8) rfl))) (mvT hZ (hw _ (List.mem_of_getElem? (i := 9) rfl))) (mvT hZ (hw _ (List.mem_of_getElem? (i := 10) rfl))) (by decide) (backOf (W := 1) (rm1_5 l Z a0 hw [] b7 o16 o17 lo hi zz wc h7 n0 Zc8 g_b7 Ec8_b7 F_lows_b7 F_words_b7 F_shifts_b7 F_masks_b7 F_wordCount_b7 Vc8_o16 Vc8_o17 Ec8_o16 (Nat.ne_of_lt (Nat.lt_of_lt_of_le V_o16.lt (Nat.le_of_eq g7.symm))) (Nat.ne_of_lt (Nat.lt_of_lt_of_le V_o17.lt (Nat.le_of_eq g7.symm))) hz h64 hwc) hZ (hw _ (List.mem_of_getElem? (i := 10) rfl)) (hw _ (List.mem_of_getElem? (i := 7) rfl)) (by decide) (by decide)) (g := (mkF m 376 #[s0, s1, s2, s3, s4, s5, s6, s7, s8, s9, s10, s11, s12, s13, s14, s15, .val (.ref o16), .val (.ref o17), s18, .val (.ref o19), .val (.ref o20), .val (.ref o21), .unset] [(.ref o17), (.ref o16), (.ref b7), (.ref b7)])) rfl (by rw [hml]; rfl) (Steps.refl _) (a := b7) (argsL := [(.ref o16), (.ref o17)]) (rest := [(.ref b7)]) (lenOf pd_0_0 rfl) rfl (by show 2 * 0 + _ ≤ _; exact Nat.le_of_eq rfl) (hb hby at_376) (fun _ _ => ⟨rfl, e7, (by decide : 5 + 1 + 4 ≤ room_1.cells), (by decide : 32 + 5 + 20 ≤ room_1.slots)⟩)
  dsimp only [Pt.U, Pt.locs, Pt.cells, Pt.slots] at X8 l8 y8 z8 st8 hQ8
  subst l8 y8 z8
  obtain ⟨rfl, N8q, Kq8, Eq8, Fq8⟩ := hQ8
  have N8 := Fr.app N0 N8q
  have K8 : Keep h0 T8.heap [] := K7.trans Kq8 (fun x hx => by cases List.mem_singleton.mp hx; exact Or.inr sz_b7)
  have Vend_o16 := ((V_o16.ext E7).keep Kq8 (own_ni (Nat.ne_of_lt (Nat.lt_of_lt_of_le V_o16.lt (Nat.le_of_eq g7.symm)))))
  have Vend_o17 := ((V_o17.ext E7).keep Kq8 (own_ni (Nat.ne_of_lt (Nat.lt_of_lt_of_le V_o17.lt (Nat.le_of_eq g7.symm)))))
  have Vend_o19 := ((V_o19.ext E7).keep Kq8 (own_ni (Nat.ne_of_lt (Nat.lt_of_lt_of_le V_o19.lt (Nat.le_of_eq g7.symm)))))
  have Vend_o20 := ((V_o20.ext E7).keep Kq8 (own_ni (Nat.ne_of_lt (Nat.lt_of_lt_of_le V_o20.lt (Nat.le_of_eq g7.symm)))))
  have Vend_o21 := ((V_o21.ext E7).keep Kq8 (own_ni (Nat.ne_of_lt (Nat.lt_of_lt_of_le V_o21.lt (Nat.le_of_eq g7.symm)))))
  have Eend_o16 := ((E_o16.ext E7).keep Kq8)
  have Eend_b7 := (E_b7.keep Kq8)
  have ne_o16_b7 : o16 ≠ b7 := (Nat.ne_of_lt (Nat.lt_of_lt_of_le V_o16.lt (Nat.le_of_eq g7.symm)))
  have ne_o17_b7 : o17 ≠ b7 := (Nat.ne_of_lt (Nat.lt_of_lt_of_le V_o17.lt (Nat.le_of_eq g7.symm)))
  have ne_o19_b7 : o19 ≠ b7 := (Nat.ne_of_lt (Nat.lt_of_lt_of_le V_o19.lt (Nat.le_of_eq g7.symm)))
  have ne_o20_b7 : o20 ≠ b7 := (Nat.ne_of_lt (Nat.lt_of_lt_of_le V_o20.lt (Nat.le_of_eq g7.symm)))
  have ne_o21_b7 : o21 ≠ b7 := (Nat.ne_of_lt (Nat.lt_of_lt_of_le V_o21.lt (Nat.le_of_eq g7.symm)))
  have Zend : n0 ≤ T8.heap.size := (Nat.le_trans (Nat.le_trans Z0 E7.1) Kq8.1)
  have Kend := K8
  refine ⟨T8, _, _, b7, X8, rfl, N8, (Nat.ne_of_lt (Nat.lt_of_lt_of_le V_o21.lt (Nat.le_of_eq g7.symm))).symm, Vend_o19, Vend_o20, Vend_o21, Eq8, Fq8, Zend, fun target kt => ?_⟩
  show Steps p.tables e below (T0.setTop (mkF m 368 #[s0, s1, s2, s3, s4, s5, s6, s7, s8, s9, s10, s11, s12, s13, s14, s15, .val (.ref o16), .val (.ref o17), s18, .val (.ref o19), .val (.ref o20), .val (.ref o21), .unset] [])) _
  refine st7 _ ?_
  show Steps p.tables e below (T7.setTop (mkF m 371 #[s0, s1, s2, s3, s4, s5, s6, s7, s8, s9, s10, s11, s12, s13, s14, s15, .val (.ref o16), .val (.ref o17), s18, .val (.ref o19), .val (.ref o20), .val (.ref o21), .unset] [(.ref b7)])) _
  refine XS.dup X7.here hx rfl (hb hby at_371) rfl rfl ?_
  show Steps p.tables e below (T7.setTop (mkF m 372 #[s0, s1, s2, s3, s4, s5, s6, s7, s8, s9, s10, s11, s12, s13, s14, s15, .val (.ref o16), .val (.ref o17), s18, .val (.ref o19), .val (.ref o20), .val (.ref o21), .unset] [(.ref b7), (.ref b7)])) _
  refine XS.aload X7.here hx rfl (hb hby at_372) rfl rfl ?_
  show Steps p.tables e below (T7.setTop (mkF m 374 #[s0, s1, s2, s3, s4, s5, s6, s7, s8, s9, s10, s11, s12, s13, s14, s15, .val (.ref o16), .val (.ref o17), s18, .val (.ref o19), .val (.ref o20), .val (.ref o21), .unset] [(.ref o16), (.ref b7), (.ref b7)])) _
  refine XS.aload X7.here hx rfl (hb hby at_374) rfl rfl ?_
  show Steps p.tables e below (T7.setTop (mkF m 376 #[s0, s1, s2, s3, s4, s5, s6, s7, s8, s9, s10, s11, s12, s13, s14, s15, .val (.ref o16), .val (.ref o17), s18, .val (.ref o19), .val (.ref o20), .val (.ref o21), .unset] [(.ref o17), (.ref o16), (.ref b7), (.ref b7)])) _
  refine st8.trans ?_
  show Steps p.tables e below (T8.setTop (mkF m 379 #[s0, s1, s2, s3, s4, s5, s6, s7, s8, s9, s10, s11, s12, s13, s14, s15, .val (.ref o16), .val (.ref o17), s18, .val (.ref o19), .val (.ref o20), .val (.ref o21), .unset] [(.ref b7)])) _
  refine XS.astore X8.here hx rfl (hb hby at_379) rfl rfl (l' := #[s0, s1, s2, s3, s4, s5, s6, s7, s8, s9, s10, s11, s12, s13, s14, s15, .val (.ref o16), .val (.ref o17), s18, .val (.ref o19), .val (.ref o20), .val (.ref o21), .val (.ref b7)]) rfl ?_
  exact kt
theorem pd_0_3 : parseMethodDescriptor "([JI[JI)V" = some ⟨[(.array .long), .int, (.array .long), .int], none⟩ := by decide +kernel
set_option maxRecDepth 65536 in
set_option maxHeartbeats 40000000 in
theorem sE {p : Program} {l : Launch} {e : Env} {s : State} {m : MethodId} {args : Array Value} {below : List Frame} {meth : Method} {c : Code} {T0 : State} {locs : List Loc} {cells slots : Nat} {Z : State} {a0 : Array Value} {h0 : Heap} (s0 : Slot) (s1 : Slot) (s2 : Slot) (s3 : Slot) (s4 : Slot) (s5 : Slot) (s6 : Slot) (s7 : Slot) (s8 : Slot) (s9 : Slot) (s10 : Slot) (s11 : Slot) (i12 : Int32) (i13 : Int32) (s14 : Slot) (s15 : Slot) (s16 : Slot) (s17 : Slot) (s18 : Slot) (o19 : Addr) (o20 : Addr) (o21 : Addr) (o22 : Addr) (n0 : Nat) (wc : Int32) (C : Nat → Int64) (D : Nat → Int64) (fr : Nat) (ap : Nat) (wn : Nat) 
    (X0 : Stand p l e room_1 s m args below meth c T0 locs cells slots) (hx : p.tables.exec = Jvm.exec) (hZ : Z.Warmed39 s.vm) (hw : ∀ d ∈ tables_1, d.before a0 Z = true) (hby : c.code = code) (hml : c.maxLocals = 23) (hown : s.vm.findClass "com/example/tight_bounds/tightbounds/model/StateLayoutApplyPinLaw" = some m.cls) (e0 : T0.heap = h0) (Z0 : n0 ≤ h0.size) (N0 : Fr n0 locs) (hcl : cells ≤ room_1.cells) (hsl : slots ≤ room_1.slots) (ixf : own_ix i12 fr) (ixa : own_ix i13 ap) (ixw : own_ix wc wn) (h6 : ap + wn ≤ 6) (h10 : fr + 2 * wn ≤ 10) (ne_o22_o21 : o22 ≠ o21) (ne_o19_o21 : o19 ≠ o21) (ne_o20_o21 : o20 ≠ o21) (g_o21 : n0 ≤ o21) (FW : Fld Z h0 o22 "com/example/tight_bounds/tightbounds/model/StateLayout" "wordCount" "I" (.int wc)) (V_o19 : Ary Z h0 o19 .long 10 (fun j => .long (C j))) (V_o20 : Ary Z h0 o20 .long 6 (fun j => .long (D j))) (V_o21 : Ary Z h0 o21 .long 6 (fun j => .long (D j))) (E_o22 : Exa Z h0 o22 "com/example/tight_bounds/tightbounds/model/StateLayout") :
    ∃ (T' : State) (h' : Heap) (locs' : List Loc), Stand p l e room_1 s m args below meth c T' locs' cells slots ∧ T'.heap = h' ∧ Fr n0 locs' ∧ Ary Z h' o19 .long 10 (fun j => .long (C j)) ∧ Ary Z h' o20 .long 6 (fun j => .long (D j)) ∧ Ary Z h' o21 .long 6 (fun j => .long (own_apv C (D j) fr ap wn j)) ∧ n0 ≤ h'.size ∧
      ∀ target, Steps p.tables e below (T'.setTop (mkF m 394 #[s0, s1, s2, s3, s4, s5, s6, s7, s8, s9, s10, s11, .val (.int i12), .val (.int i13), s14, s15, s16, s17, s18, .val (.ref o19), .val (.ref o20), .val (.ref o21), .val (.ref o22)] [])) target → Steps p.tables e below (T0.setTop (mkF m 381 #[s0, s1, s2, s3, s4, s5, s6, s7, s8, s9, s10, s11, .val (.int i12), .val (.int i13), s14, s15, s16, s17, s18, .val (.ref o19), .val (.ref o20), .val (.ref o21), .val (.ref o22)] [])) target := by
  have Zc7 : n0 ≤ h0.size := Z0
  have Ec7_o22 := E_o22
  have Vc7_o19 := V_o19
  have Vc7_o21 := V_o21
  obtain ⟨cq7, kq7, q7a, q7b, q7c⟩ := isOf hZ e0 E_o22
  obtain ⟨_, _, ⟨T7, L7, k7, n7⟩, -, X7, ⟨Lc7, hQ7, l7, y7, z7⟩, st7⟩ := X0.virtualBack hx (y := (⟨"com/example/tight_bounds/tightbounds/model/StateLayout", "apply", "([JI[JI)V"⟩ : MethodName)) (z := (⟨"com/example/tight_bounds/tightbounds/model/StateLayout", "apply", "([JI[JI)V"⟩ : MethodName)) hown (mvT hZ (hw _ (List.mem_of_getElem? (i := 33) rfl))) (mvT hZ (hw _ (List.mem_of_getElem? (i := 34) rfl))) (notFace_of_selects (args := #[]) (mvT hZ (hw _ (List.mem_of_getElem? (i := 36) rfl)))) (mvT hZ (hw _ (List.mem_of_getElem? (i := 36) rfl))) (mvT hZ (hw _ (List.mem_of_getElem? (i := 35) rfl))) (by decide) (backOf (W := 0) (rm3 l Z a0 hw [] o22 o19 i12 o21 i13 wc C D fr ap wn h0 n0 Zc7 ixf ixa ixw h6 h10 ne_o22_o21 ne_o19_o21 g_o21 Vc7_o19 Vc7_o21 FW) hZ (hw _ (List.mem_of_getElem? (i := 37) rfl)) (hw _ (List.mem_of_getElem? (i := 7) rfl)) (by decide) (by decide)) q7a q7c (g := (mkF m 391 #[s0, s1, s2, s3, s4, s5, s6, s7, s8, s9, s10, s11, .val (.int i12), .val (.int i13), s14, s15, s16, s17, s18, .val (.ref o19), .val (.ref o20), .val (.ref o21), .val (.ref o22)] [(.int i13), (.ref o21), (.int i12), (.ref o19), (.ref o22)])) rfl (by rw [hml]; rfl) (Steps.refl _) (argsL := [(.ref o19), (.int i12), (.ref o21), (.int i13)]) (rest := []) (lenOf pd_0_3 rfl) rfl (by show 2 * 0 + _ ≤ _; exact Nat.le_of_eq rfl) (hb hby at_391) (fun _ _ => ⟨rfl, e0, hcl, hsl⟩)
  dsimp only [Pt.U, Pt.locs, Pt.cells, Pt.slots] at X7 l7 y7 z7 st7 hQ7
  subst l7 y7 z7
  obtain ⟨rfl, N7q, Kq7, Vq7⟩ := hQ7
  have N7 := Fr.app N0 N7q
  have K7 : Keep h0 T7.heap [o21] := (Keep.refl h0 [o21]).trans Kq7 (fun x hx => by cases List.mem_singleton.mp hx; exact Or.inl (List.mem_of_getElem? (i := 0) rfl))
  have Vend_o19 := (V_o19.keep Kq7 (own_ni ne_o19_o21))
  have Vend_o20 := (V_o20.keep Kq7 (own_ni ne_o20_o21))
  have Eend_o22 := (E_o22.keep Kq7)
  have Vend_o21 := Vq7
  have Zend : n0 ≤ T7.heap.size := (Nat.le_trans Z0 Kq7.1)
  have Kend := K7
  refine ⟨T7, _, _, X7, rfl, N7, Vend_o19, Vend_o20, Vend_o21, Zend, fun target kt => ?_⟩
  show Steps p.tables e below (T0.setTop (mkF m 381 #[s0, s1, s2, s3, s4, s5, s6, s7, s8, s9, s10, s11, .val (.int i12), .val (.int i13), s14, s15, s16, s17, s18, .val (.ref o19), .val (.ref o20), .val (.ref o21), .val (.ref o22)] [])) _
  refine XS.aload X0.here hx rfl (hb hby at_381) rfl rfl ?_
  show Steps p.tables e below (T0.setTop (mkF m 383 #[s0, s1, s2, s3, s4, s5, s6, s7, s8, s9, s10, s11, .val (.int i12), .val (.int i13), s14, s15, s16, s17, s18, .val (.ref o19), .val (.ref o20), .val (.ref o21), .val (.ref o22)] [(.ref o22)])) _
  refine XS.aload X0.here hx rfl (hb hby at_383) rfl rfl ?_
  show Steps p.tables e below (T0.setTop (mkF m 385 #[s0, s1, s2, s3, s4, s5, s6, s7, s8, s9, s10, s11, .val (.int i12), .val (.int i13), s14, s15, s16, s17, s18, .val (.ref o19), .val (.ref o20), .val (.ref o21), .val (.ref o22)] [(.ref o19), (.ref o22)])) _
  refine XS.iload X0.here hx rfl (hb hby at_385) rfl ?_
  show Steps p.tables e below (T0.setTop (mkF m 387 #[s0, s1, s2, s3, s4, s5, s6, s7, s8, s9, s10, s11, .val (.int i12), .val (.int i13), s14, s15, s16, s17, s18, .val (.ref o19), .val (.ref o20), .val (.ref o21), .val (.ref o22)] [(.int i12), (.ref o19), (.ref o22)])) _
  refine XS.aload X0.here hx rfl (hb hby at_387) rfl rfl ?_
  show Steps p.tables e below (T0.setTop (mkF m 389 #[s0, s1, s2, s3, s4, s5, s6, s7, s8, s9, s10, s11, .val (.int i12), .val (.int i13), s14, s15, s16, s17, s18, .val (.ref o19), .val (.ref o20), .val (.ref o21), .val (.ref o22)] [(.ref o21), (.int i12), (.ref o19), (.ref o22)])) _
  refine XS.iload X0.here hx rfl (hb hby at_389) rfl ?_
  show Steps p.tables e below (T0.setTop (mkF m 391 #[s0, s1, s2, s3, s4, s5, s6, s7, s8, s9, s10, s11, .val (.int i12), .val (.int i13), s14, s15, s16, s17, s18, .val (.ref o19), .val (.ref o20), .val (.ref o21), .val (.ref o22)] [(.int i13), (.ref o21), (.int i12), (.ref o19), (.ref o22)])) _
  refine st7.trans ?_
  exact kt
theorem pd_0_4 : parseMethodDescriptor "(JJ[JIIII)Z" = some ⟨[.long, .long, (.array .long), .int, .int, .int, .int], some .boolean⟩ := by decide +kernel
set_option maxRecDepth 65536 in
set_option maxHeartbeats 40000000 in
theorem sF {p : Program} {l : Launch} {e : Env} {s : State} {m : MethodId} {args : Array Value} {below : List Frame} {meth : Method} {c : Code} {T0 : State} {locs : List Loc} {cells slots : Nat} {Z : State} {a0 : Array Value} {h0 : Heap} (s0 : Slot) (s1 : Slot) (s2 : Slot) (s3 : Slot) (s4 : Slot) (s5 : Slot) (s6 : Slot) (s7 : Slot) (s8 : Slot) (s9 : Slot) (s10 : Slot) (s11 : Slot) (i12 : Int32) (i13 : Int32) (s14 : Slot) (s15 : Slot) (s16 : Slot) (s17 : Slot) (i18 : Int32) (o19 : Addr) (o20 : Addr) (o21 : Addr) (s22 : Slot) (n0 : Nat) (C : Nat → Int64) (D : Nat → Int64) (fr : Nat) (ap : Nat) (wn : Nat) 
    (X0 : Stand p l e room_1 s m args below meth c T0 locs cells slots) (hx : p.tables.exec = Jvm.exec) (hZ : Z.Warmed39 s.vm) (hw : ∀ d ∈ tables_1, d.before a0 Z = true) (hby : c.code = code) (hml : c.maxLocals = 23) (hown : s.vm.findClass "com/example/tight_bounds/tightbounds/model/StateLayoutApplyPinLaw" = some m.cls) (e0 : T0.heap = h0) (Z0 : n0 ≤ h0.size) (N0 : Fr n0 locs) (hcl : cells ≤ room_1.cells) (hsl : slots ≤ room_1.slots) (ixf : own_ix i12 fr) (ixa : own_ix i13 ap) (ixw : own_ix i18 wn) (h10 : fr + 2 * wn ≤ 10) (V_o19 : Ary Z h0 o19 .long 10 (fun j => .long (C j))) (V_o20 : Ary Z h0 o20 .long 6 (fun j => .long (D j))) (V_o21 : Ary Z h0 o21 .long 6 (fun j => .long (own_apv C (D j) fr ap wn j))) :
    ∃ (T' : State) (h' : Heap) (locs' : List Loc), Stand p l e room_1 s m args below meth c T' locs' cells slots ∧ T'.heap = h' ∧ Fr n0 locs' ∧
      ∀ target, Steps p.tables e below (T'.setTop (mkF m 537 #[s0, s1, s2, s3, s4, s5, s6, s7, s8, s9, s10, s11, .val (.int i12), .val (.int i13), s14, s15, s16, s17, .val (.int i18), .val (.ref o19), .val (.ref o20), .val (.ref o21), s22] [(.int (1 : Int32))])) target → Steps p.tables e below (T0.setTop (mkF m 394 #[s0, s1, s2, s3, s4, s5, s6, s7, s8, s9, s10, s11, .val (.int i12), .val (.int i13), s14, s15, s16, s17, .val (.int i18), .val (.ref o19), .val (.ref o20), .val (.ref o21), s22] [])) target := by
  obtain ⟨cl_397, Ar_397, S_397, H_397⟩ := id V_o20
  have hin397 := Ary.inn S_397 (show own_ix (0 : Int32) 0 from rfl) (by decide)
  have hat397 := Ary.get H_397 (show own_ix (0 : Int32) 0 from rfl) (by decide) (v := (.long (D 0))) rfl
  obtain ⟨cl_401, Ar_401, S_401, H_401⟩ := id V_o21
  have hin401 := Ary.inn S_401 (show own_ix (0 : Int32) 0 from rfl) (by decide)
  have hat401 := Ary.get H_401 (show own_ix (0 : Int32) 0 from rfl) (by decide) (v := (.long (own_apv C (D 0) fr ap wn 0))) rfl
  have Zc7 : n0 ≤ h0.size := Z0
  have Vc7_o19 := V_o19
  obtain ⟨_, _, ⟨T7, L7, k7, n7⟩, -, X7, ⟨Lc7, hQ7, l7, y7, z7⟩, st7⟩ := Jvm.LawKit.callS X0 hx (y := (⟨"com/example/tight_bounds/tightbounds/model/StateLayoutApplyPinLaw", "ok", "(JJ[JIIII)Z"⟩ : MethodName)) hown (mvT hZ (hw _ (List.mem_of_getElem? (i := 38) rfl))) (mvT hZ (hw _ (List.mem_of_getElem? (i := 39) rfl))) (mvT hZ (hw _ (List.mem_of_getElem? (i := 40) rfl))) (mvT hZ (hw _ (List.mem_of_getElem? (i := 41) rfl))) (by decide) (backOf (W := 0) (rm4 l Z a0 hw [] (D 0) (own_apv C (D 0) fr ap wn 0) o19 (0 : Int32) i13 i12 i18 C 0 fr ap wn h0 n0 Zc7 (show own_ix (0 : Int32) 0 from rfl) ixa ixf ixw h10 rfl Vc7_o19) hZ (hw _ (List.mem_of_getElem? (i := 41) rfl)) (hw _ (List.mem_of_getElem? (i := 40) rfl)) (by decide) (by decide)) (g := (mkF m 411 #[s0, s1, s2, s3, s4, s5, s6, s7, s8, s9, s10, s11, .val (.int i12), .val (.int i13), s14, s15, s16, s17, .val (.int i18), .val (.ref o19), .val (.ref o20), .val (.ref o21), s22] [(.int i18), (.int i12), (.int i13), (.int (0 : Int32)), (.ref o19), (.long (own_apv C (D 0) fr ap wn 0)), (.long (D 0))])) rfl (by rw [hml]; rfl) (argsL := [(.long (D 0)), (.long (own_apv C (D 0) fr ap wn 0)), (.ref o19), (.int (0 : Int32)), (.int i13), (.int i12), (.int i18)]) (rest := []) (lenOf pd_0_4 rfl) rfl (by show 2 * 0 + _ ≤ _; exact Nat.le_of_eq rfl) (hb hby at_411) (fun _ _ => ⟨rfl, e0, hcl, hsl⟩)
  dsimp only [Pt.U, Pt.locs, Pt.cells, Pt.slots] at X7 l7 y7 z7 st7 hQ7
  subst l7 y7 z7
  obtain ⟨rfl, N7q, eq7⟩ := hQ7
  have N7 := Fr.app N0 N7q
  have E7 : Ext h0 T7.heap := own_exteq eq7
  have K7 : Keep h0 T7.heap [] := (Keep.refl h0 []).ext E7
  obtain ⟨cl_420, Ar_420, S_420, H_420⟩ := id (V_o20.ext E7)
  have hin420 := Ary.inn S_420 (show own_ix (1 : Int32) 1 from rfl) (by decide)
  have hat420 := Ary.get H_420 (show own_ix (1 : Int32) 1 from rfl) (by decide) (v := (.long (D 1))) rfl
  obtain ⟨cl_424, Ar_424, S_424, H_424⟩ := id (V_o21.ext E7)
  have hin424 := Ary.inn S_424 (show own_ix (1 : Int32) 1 from rfl) (by decide)
  have hat424 := Ary.get H_424 (show own_ix (1 : Int32) 1 from rfl) (by decide) (v := (.long (own_apv C (D 1) fr ap wn 1))) rfl
  have Zc8 : n0 ≤ T7.heap.size := (Nat.le_trans Z0 E7.1)
  have Vc8_o19 := (V_o19.ext E7)
  obtain ⟨_, _, ⟨T8, L8, k8, n8⟩, -, X8, ⟨Lc8, hQ8, l8, y8, z8⟩, st8⟩ := Jvm.LawKit.callS X7 hx (y := (⟨"com/example/tight_bounds/tightbounds/model/StateLayoutApplyPinLaw", "ok", "(JJ[JIIII)Z"⟩ : MethodName)) hown (mvT hZ (hw _ (List.mem_of_getElem? (i := 38) rfl))) (mvT hZ (hw _ (List.mem_of_getElem? (i := 39) rfl))) (mvT hZ (hw _ (List.mem_of_getElem? (i := 40) rfl))) (mvT hZ (hw _ (List.mem_of_getElem? (i := 41) rfl))) (by decide) (backOf (W := 0) (rm4 l Z a0 hw [] (D 1) (own_apv C (D 1) fr ap wn 1) o19 (1 : Int32) i13 i12 i18 C 1 fr ap wn T7.heap n0 Zc8 (show own_ix (1 : Int32) 1 from rfl) ixa ixf ixw h10 rfl Vc8_o19) hZ (hw _ (List.mem_of_getElem? (i := 41) rfl)) (hw _ (List.mem_of_getElem? (i := 40) rfl)) (by decide) (by decide)) (g := (mkF m 434 #[s0, s1, s2, s3, s4, s5, s6, s7, s8, s9, s10, s11, .val (.int i12), .val (.int i13), s14, s15, s16, s17, .val (.int i18), .val (.ref o19), .val (.ref o20), .val (.ref o21), s22] [(.int i18), (.int i12), (.int i13), (.int (1 : Int32)), (.ref o19), (.long (own_apv C (D 1) fr ap wn 1)), (.long (D 1))])) rfl (by rw [hml]; rfl) (argsL := [(.long (D 1)), (.long (own_apv C (D 1) fr ap wn 1)), (.ref o19), (.int (1 : Int32)), (.int i13), (.int i12), (.int i18)]) (rest := []) (lenOf pd_0_4 rfl) rfl (by show 2 * 0 + _ ≤ _; exact Nat.le_of_eq rfl) (hb hby at_434) (fun _ _ => ⟨rfl, rfl, hcl, hsl⟩)
  dsimp only [Pt.U, Pt.locs, Pt.cells, Pt.slots] at X8 l8 y8 z8 st8 hQ8
  subst l8 y8 z8
  obtain ⟨rfl, N8q, eq8⟩ := hQ8
  have N8 := Fr.app N7 N8q
  have E8 : Ext T7.heap T8.heap := own_exteq eq8
  have K8 : Keep h0 T8.heap [] := K7.ext E8
  obtain ⟨cl_443, Ar_443, S_443, H_443⟩ := id ((V_o20.ext E7).ext E8)
  have hin443 := Ary.inn S_443 (show own_ix (2 : Int32) 2 from rfl) (by decide)
  have hat443 := Ary.get H_443 (show own_ix (2 : Int32) 2 from rfl) (by decide) (v := (.long (D 2))) rfl
  obtain ⟨cl_447, Ar_447, S_447, H_447⟩ := id ((V_o21.ext E7).ext E8)
  have hin447 := Ary.inn S_447 (show own_ix (2 : Int32) 2 from rfl) (by decide)
  have hat447 := Ary.get H_447 (show own_ix (2 : Int32) 2 from rfl) (by decide) (v := (.long (own_apv C (D 2) fr ap wn 2))) rfl
  have Zc9 : n0 ≤ T8.heap.size := (Nat.le_trans (Nat.le_trans Z0 E7.1) E8.1)
  have Vc9_o19 := ((V_o19.ext E7).ext E8)
  obtain ⟨_, _, ⟨T9, L9, k9, n9⟩, -, X9, ⟨Lc9, hQ9, l9, y9, z9⟩, st9⟩ := Jvm.LawKit.callS X8 hx (y := (⟨"com/example/tight_bounds/tightbounds/model/StateLayoutApplyPinLaw", "ok", "(JJ[JIIII)Z"⟩ : MethodName)) hown (mvT hZ (hw _ (List.mem_of_getElem? (i := 38) rfl))) (mvT hZ (hw _ (List.mem_of_getElem? (i := 39) rfl))) (mvT hZ (hw _ (List.mem_of_getElem? (i := 40) rfl))) (mvT hZ (hw _ (List.mem_of_getElem? (i := 41) rfl))) (by decide) (backOf (W := 0) (rm4 l Z a0 hw [] (D 2) (own_apv C (D 2) fr ap wn 2) o19 (2 : Int32) i13 i12 i18 C 2 fr ap wn T8.heap n0 Zc9 (show own_ix (2 : Int32) 2 from rfl) ixa ixf ixw h10 rfl Vc9_o19) hZ (hw _ (List.mem_of_getElem? (i := 41) rfl)) (hw _ (List.mem_of_getElem? (i := 40) rfl)) (by decide) (by decide)) (g := (mkF m 457 #[s0, s1, s2, s3, s4, s5, s6, s7, s8, s9, s10, s11, .val (.int i12), .val (.int i13), s14, s15, s16, s17, .val (.int i18), .val (.ref o19), .val (.ref o20), .val (.ref o21), s22] [(.int i18), (.int i12), (.int i13), (.int (2 : Int32)), (.ref o19), (.long (own_apv C (D 2) fr ap wn 2)), (.long (D 2))])) rfl (by rw [hml]; rfl) (argsL := [(.long (D 2)), (.long (own_apv C (D 2) fr ap wn 2)), (.ref o19), (.int (2 : Int32)), (.int i13), (.int i12), (.int i18)]) (rest := []) (lenOf pd_0_4 rfl) rfl (by show 2 * 0 + _ ≤ _; exact Nat.le_of_eq rfl) (hb hby at_457) (fun _ _ => ⟨rfl, rfl, hcl, hsl⟩)
  dsimp only [Pt.U, Pt.locs, Pt.cells, Pt.slots] at X9 l9 y9 z9 st9 hQ9
  subst l9 y9 z9
  obtain ⟨rfl, N9q, eq9⟩ := hQ9
  have N9 := Fr.app N8 N9q
  have E9 : Ext T8.heap T9.heap := own_exteq eq9
  have K9 : Keep h0 T9.heap [] := K8.ext E9
  obtain ⟨cl_466, Ar_466, S_466, H_466⟩ := id (((V_o20.ext E7).ext E8).ext E9)
  have hin466 := Ary.inn S_466 (show own_ix (3 : Int32) 3 from rfl) (by decide)
  have hat466 := Ary.get H_466 (show own_ix (3 : Int32) 3 from rfl) (by decide) (v := (.long (D 3))) rfl
  obtain ⟨cl_470, Ar_470, S_470, H_470⟩ := id (((V_o21.ext E7).ext E8).ext E9)
  have hin470 := Ary.inn S_470 (show own_ix (3 : Int32) 3 from rfl) (by decide)
  have hat470 := Ary.get H_470 (show own_ix (3 : Int32) 3 from rfl) (by decide) (v := (.long (own_apv C (D 3) fr ap wn 3))) rfl
  have Zc10 : n0 ≤ T9.heap.size := (Nat.le_trans (Nat.le_trans (Nat.le_trans Z0 E7.1) E8.1) E9.1)
  have Vc10_o19 := (((V_o19.ext E7).ext E8).ext E9)
  obtain ⟨_, _, ⟨T10, L10, k10, n10⟩, -, X10, ⟨Lc10, hQ10, l10, y10, z10⟩, st10⟩ := Jvm.LawKit.callS X9 hx (y := (⟨"com/example/tight_bounds/tightbounds/model/StateLayoutApplyPinLaw", "ok", "(JJ[JIIII)Z"⟩ : MethodName)) hown (mvT hZ (hw _ (List.mem_of_getElem? (i := 38) rfl))) (mvT hZ (hw _ (List.mem_of_getElem? (i := 39) rfl))) (mvT hZ (hw _ (List.mem_of_getElem? (i := 40) rfl))) (mvT hZ (hw _ (List.mem_of_getElem? (i := 41) rfl))) (by decide) (backOf (W := 0) (rm4 l Z a0 hw [] (D 3) (own_apv C (D 3) fr ap wn 3) o19 (3 : Int32) i13 i12 i18 C 3 fr ap wn T9.heap n0 Zc10 (show own_ix (3 : Int32) 3 from rfl) ixa ixf ixw h10 rfl Vc10_o19) hZ (hw _ (List.mem_of_getElem? (i := 41) rfl)) (hw _ (List.mem_of_getElem? (i := 40) rfl)) (by decide) (by decide)) (g := (mkF m 480 #[s0, s1, s2, s3, s4, s5, s6, s7, s8, s9, s10, s11, .val (.int i12), .val (.int i13), s14, s15, s16, s17, .val (.int i18), .val (.ref o19), .val (.ref o20), .val (.ref o21), s22] [(.int i18), (.int i12), (.int i13), (.int (3 : Int32)), (.ref o19), (.long (own_apv C (D 3) fr ap wn 3)), (.long (D 3))])) rfl (by rw [hml]; rfl) (argsL := [(.long (D 3)), (.long (own_apv C (D 3) fr ap wn 3)), (.ref o19), (.int (3 : Int32)), (.int i13), (.int i12), (.int i18)]) (rest := []) (lenOf pd_0_4 rfl) rfl (by show 2 * 0 + _ ≤ _; exact Nat.le_of_eq rfl) (hb hby at_480) (fun _ _ => ⟨rfl, rfl, hcl, hsl⟩)
  dsimp only [Pt.U, Pt.locs, Pt.cells, Pt.slots] at X10 l10 y10 z10 st10 hQ10
  subst l10 y10 z10
  obtain ⟨rfl, N10q, eq10⟩ := hQ10
  have N10 := Fr.app N9 N10q
  have E10 : Ext T9.heap T10.heap := own_exteq eq10
  have K10 : Keep h0 T10.heap [] := K9.ext E10
  obtain ⟨cl_489, Ar_489, S_489, H_489⟩ := id ((((V_o20.ext E7).ext E8).ext E9).ext E10)
  have hin489 := Ary.inn S_489 (show own_ix (4 : Int32) 4 from rfl) (by decide)
  have hat489 := Ary.get H_489 (show own_ix (4 : Int32) 4 from rfl) (by decide) (v := (.long (D 4))) rfl
  obtain ⟨cl_493, Ar_493, S_493, H_493⟩ := id ((((V_o21.ext E7).ext E8).ext E9).ext E10)
  have hin493 := Ary.inn S_493 (show own_ix (4 : Int32) 4 from rfl) (by decide)
  have hat493 := Ary.get H_493 (show own_ix (4 : Int32) 4 from rfl) (by decide) (v := (.long (own_apv C (D 4) fr ap wn 4))) rfl
  have Zc11 : n0 ≤ T10.heap.size := (Nat.le_trans (Nat.le_trans (Nat.le_trans (Nat.le_trans Z0 E7.1) E8.1) E9.1) E10.1)
  have Vc11_o19 := ((((V_o19.ext E7).ext E8).ext E9).ext E10)
  obtain ⟨_, _, ⟨T11, L11, k11, n11⟩, -, X11, ⟨Lc11, hQ11, l11, y11, z11⟩, st11⟩ := Jvm.LawKit.callS X10 hx (y := (⟨"com/example/tight_bounds/tightbounds/model/StateLayoutApplyPinLaw", "ok", "(JJ[JIIII)Z"⟩ : MethodName)) hown (mvT hZ (hw _ (List.mem_of_getElem? (i := 38) rfl))) (mvT hZ (hw _ (List.mem_of_getElem? (i := 39) rfl))) (mvT hZ (hw _ (List.mem_of_getElem? (i := 40) rfl))) (mvT hZ (hw _ (List.mem_of_getElem? (i := 41) rfl))) (by decide) (backOf (W := 0) (rm4 l Z a0 hw [] (D 4) (own_apv C (D 4) fr ap wn 4) o19 (4 : Int32) i13 i12 i18 C 4 fr ap wn T10.heap n0 Zc11 (show own_ix (4 : Int32) 4 from rfl) ixa ixf ixw h10 rfl Vc11_o19) hZ (hw _ (List.mem_of_getElem? (i := 41) rfl)) (hw _ (List.mem_of_getElem? (i := 40) rfl)) (by decide) (by decide)) (g := (mkF m 503 #[s0, s1, s2, s3, s4, s5, s6, s7, s8, s9, s10, s11, .val (.int i12), .val (.int i13), s14, s15, s16, s17, .val (.int i18), .val (.ref o19), .val (.ref o20), .val (.ref o21), s22] [(.int i18), (.int i12), (.int i13), (.int (4 : Int32)), (.ref o19), (.long (own_apv C (D 4) fr ap wn 4)), (.long (D 4))])) rfl (by rw [hml]; rfl) (argsL := [(.long (D 4)), (.long (own_apv C (D 4) fr ap wn 4)), (.ref o19), (.int (4 : Int32)), (.int i13), (.int i12), (.int i18)]) (rest := []) (lenOf pd_0_4 rfl) rfl (by show 2 * 0 + _ ≤ _; exact Nat.le_of_eq rfl) (hb hby at_503) (fun _ _ => ⟨rfl, rfl, hcl, hsl⟩)
  dsimp only [Pt.U, Pt.locs, Pt.cells, Pt.slots] at X11 l11 y11 z11 st11 hQ11
  subst l11 y11 z11
  obtain ⟨rfl, N11q, eq11⟩ := hQ11
  have N11 := Fr.app N10 N11q
  have E11 : Ext T10.heap T11.heap := own_exteq eq11
  have K11 : Keep h0 T11.heap [] := K10.ext E11
  obtain ⟨cl_512, Ar_512, S_512, H_512⟩ := id (((((V_o20.ext E7).ext E8).ext E9).ext E10).ext E11)
  have hin512 := Ary.inn S_512 (show own_ix (5 : Int32) 5 from rfl) (by decide)
  have hat512 := Ary.get H_512 (show own_ix (5 : Int32) 5 from rfl) (by decide) (v := (.long (D 5))) rfl
  obtain ⟨cl_516, Ar_516, S_516, H_516⟩ := id (((((V_o21.ext E7).ext E8).ext E9).ext E10).ext E11)
  have hin516 := Ary.inn S_516 (show own_ix (5 : Int32) 5 from rfl) (by decide)
  have hat516 := Ary.get H_516 (show own_ix (5 : Int32) 5 from rfl) (by decide) (v := (.long (own_apv C (D 5) fr ap wn 5))) rfl
  have Zc12 : n0 ≤ T11.heap.size := (Nat.le_trans (Nat.le_trans (Nat.le_trans (Nat.le_trans (Nat.le_trans Z0 E7.1) E8.1) E9.1) E10.1) E11.1)
  have Vc12_o19 := (((((V_o19.ext E7).ext E8).ext E9).ext E10).ext E11)
  obtain ⟨_, _, ⟨T12, L12, k12, n12⟩, -, X12, ⟨Lc12, hQ12, l12, y12, z12⟩, st12⟩ := Jvm.LawKit.callS X11 hx (y := (⟨"com/example/tight_bounds/tightbounds/model/StateLayoutApplyPinLaw", "ok", "(JJ[JIIII)Z"⟩ : MethodName)) hown (mvT hZ (hw _ (List.mem_of_getElem? (i := 38) rfl))) (mvT hZ (hw _ (List.mem_of_getElem? (i := 39) rfl))) (mvT hZ (hw _ (List.mem_of_getElem? (i := 40) rfl))) (mvT hZ (hw _ (List.mem_of_getElem? (i := 41) rfl))) (by decide) (backOf (W := 0) (rm4 l Z a0 hw [] (D 5) (own_apv C (D 5) fr ap wn 5) o19 (5 : Int32) i13 i12 i18 C 5 fr ap wn T11.heap n0 Zc12 (show own_ix (5 : Int32) 5 from rfl) ixa ixf ixw h10 rfl Vc12_o19) hZ (hw _ (List.mem_of_getElem? (i := 41) rfl)) (hw _ (List.mem_of_getElem? (i := 40) rfl)) (by decide) (by decide)) (g := (mkF m 526 #[s0, s1, s2, s3, s4, s5, s6, s7, s8, s9, s10, s11, .val (.int i12), .val (.int i13), s14, s15, s16, s17, .val (.int i18), .val (.ref o19), .val (.ref o20), .val (.ref o21), s22] [(.int i18), (.int i12), (.int i13), (.int (5 : Int32)), (.ref o19), (.long (own_apv C (D 5) fr ap wn 5)), (.long (D 5))])) rfl (by rw [hml]; rfl) (argsL := [(.long (D 5)), (.long (own_apv C (D 5) fr ap wn 5)), (.ref o19), (.int (5 : Int32)), (.int i13), (.int i12), (.int i18)]) (rest := []) (lenOf pd_0_4 rfl) rfl (by show 2 * 0 + _ ≤ _; exact Nat.le_of_eq rfl) (hb hby at_526) (fun _ _ => ⟨rfl, rfl, hcl, hsl⟩)
  dsimp only [Pt.U, Pt.locs, Pt.cells, Pt.slots] at X12 l12 y12 z12 st12 hQ12
  subst l12 y12 z12
  obtain ⟨rfl, N12q, eq12⟩ := hQ12
  have N12 := Fr.app N11 N12q
  have E12 : Ext T11.heap T12.heap := own_exteq eq12
  have K12 : Keep h0 T12.heap [] := K11.ext E12
  refine ⟨T12, _, _, X12, rfl, N12, fun target kt => ?_⟩
  show Steps p.tables e below (T0.setTop (mkF m 394 #[s0, s1, s2, s3, s4, s5, s6, s7, s8, s9, s10, s11, .val (.int i12), .val (.int i13), s14, s15, s16, s17, .val (.int i18), .val (.ref o19), .val (.ref o20), .val (.ref o21), s22] [])) _
  refine XS.aload X0.here hx rfl (hb hby at_394) rfl rfl ?_
  show Steps p.tables e below (T0.setTop (mkF m 396 #[s0, s1, s2, s3, s4, s5, s6, s7, s8, s9, s10, s11, .val (.int i12), .val (.int i13), s14, s15, s16, s17, .val (.int i18), .val (.ref o19), .val (.ref o20), .val (.ref o21), s22] [(.ref o20)])) _
  refine XS.iconst X0.here hx rfl (hb hby at_396) ?_
  show Steps p.tables e below (T0.setTop (mkF m 397 #[s0, s1, s2, s3, s4, s5, s6, s7, s8, s9, s10, s11, .val (.int i12), .val (.int i13), s14, s15, s16, s17, .val (.int i18), .val (.ref o19), .val (.ref o20), .val (.ref o21), s22] [(.int (0 : Int32)), (.ref o20)])) _
  refine X0.laload hx (j := (0 : Int32)) (v := (.long (D 0))) (by rw [e0]; exact Ar_397.1) (State.isArrayOf_alike hZ.alike Ar_397.2.1) Ar_397.2.2 hin397 hat397 (g := (mkF m 397 #[s0, s1, s2, s3, s4, s5, s6, s7, s8, s9, s10, s11, .val (.int i12), .val (.int i13), s14, s15, s16, s17, .val (.int i18), .val (.ref o19), .val (.ref o20), .val (.ref o21), s22] [(.int (0 : Int32)), (.ref o20)])) rfl rfl (hb hby at_397) _ ?_
  show Steps p.tables e below (T0.setTop (mkF m 398 #[s0, s1, s2, s3, s4, s5, s6, s7, s8, s9, s10, s11, .val (.int i12), .val (.int i13), s14, s15, s16, s17, .val (.int i18), .val (.ref o19), .val (.ref o20), .val (.ref o21), s22] [(.long (D 0))])) _
  refine XS.aload X0.here hx rfl (hb hby at_398) rfl rfl ?_
  show Steps p.tables e below (T0.setTop (mkF m 400 #[s0, s1, s2, s3, s4, s5, s6, s7, s8, s9, s10, s11, .val (.int i12), .val (.int i13), s14, s15, s16, s17, .val (.int i18), .val (.ref o19), .val (.ref o20), .val (.ref o21), s22] [(.ref o21), (.long (D 0))])) _
  refine XS.iconst X0.here hx rfl (hb hby at_400) ?_
  show Steps p.tables e below (T0.setTop (mkF m 401 #[s0, s1, s2, s3, s4, s5, s6, s7, s8, s9, s10, s11, .val (.int i12), .val (.int i13), s14, s15, s16, s17, .val (.int i18), .val (.ref o19), .val (.ref o20), .val (.ref o21), s22] [(.int (0 : Int32)), (.ref o21), (.long (D 0))])) _
  refine X0.laload hx (j := (0 : Int32)) (v := (.long (own_apv C (D 0) fr ap wn 0))) (by rw [e0]; exact Ar_401.1) (State.isArrayOf_alike hZ.alike Ar_401.2.1) Ar_401.2.2 hin401 hat401 (g := (mkF m 401 #[s0, s1, s2, s3, s4, s5, s6, s7, s8, s9, s10, s11, .val (.int i12), .val (.int i13), s14, s15, s16, s17, .val (.int i18), .val (.ref o19), .val (.ref o20), .val (.ref o21), s22] [(.int (0 : Int32)), (.ref o21), (.long (D 0))])) rfl rfl (hb hby at_401) _ ?_
  show Steps p.tables e below (T0.setTop (mkF m 402 #[s0, s1, s2, s3, s4, s5, s6, s7, s8, s9, s10, s11, .val (.int i12), .val (.int i13), s14, s15, s16, s17, .val (.int i18), .val (.ref o19), .val (.ref o20), .val (.ref o21), s22] [(.long (own_apv C (D 0) fr ap wn 0)), (.long (D 0))])) _
  refine XS.aload X0.here hx rfl (hb hby at_402) rfl rfl ?_
  show Steps p.tables e below (T0.setTop (mkF m 404 #[s0, s1, s2, s3, s4, s5, s6, s7, s8, s9, s10, s11, .val (.int i12), .val (.int i13), s14, s15, s16, s17, .val (.int i18), .val (.ref o19), .val (.ref o20), .val (.ref o21), s22] [(.ref o19), (.long (own_apv C (D 0) fr ap wn 0)), (.long (D 0))])) _
  refine XS.iconst X0.here hx rfl (hb hby at_404) ?_
  show Steps p.tables e below (T0.setTop (mkF m 405 #[s0, s1, s2, s3, s4, s5, s6, s7, s8, s9, s10, s11, .val (.int i12), .val (.int i13), s14, s15, s16, s17, .val (.int i18), .val (.ref o19), .val (.ref o20), .val (.ref o21), s22] [(.int (0 : Int32)), (.ref o19), (.long (own_apv C (D 0) fr ap wn 0)), (.long (D 0))])) _
  refine XS.iload X0.here hx rfl (hb hby at_405) rfl ?_
  show Steps p.tables e below (T0.setTop (mkF m 407 #[s0, s1, s2, s3, s4, s5, s6, s7, s8, s9, s10, s11, .val (.int i12), .val (.int i13), s14, s15, s16, s17, .val (.int i18), .val (.ref o19), .val (.ref o20), .val (.ref o21), s22] [(.int i13), (.int (0 : Int32)), (.ref o19), (.long (own_apv C (D 0) fr ap wn 0)), (.long (D 0))])) _
  refine XS.iload X0.here hx rfl (hb hby at_407) rfl ?_
  show Steps p.tables e below (T0.setTop (mkF m 409 #[s0, s1, s2, s3, s4, s5, s6, s7, s8, s9, s10, s11, .val (.int i12), .val (.int i13), s14, s15, s16, s17, .val (.int i18), .val (.ref o19), .val (.ref o20), .val (.ref o21), s22] [(.int i12), (.int i13), (.int (0 : Int32)), (.ref o19), (.long (own_apv C (D 0) fr ap wn 0)), (.long (D 0))])) _
  refine XS.iload X0.here hx rfl (hb hby at_409) rfl ?_
  show Steps p.tables e below (T0.setTop (mkF m 411 #[s0, s1, s2, s3, s4, s5, s6, s7, s8, s9, s10, s11, .val (.int i12), .val (.int i13), s14, s15, s16, s17, .val (.int i18), .val (.ref o19), .val (.ref o20), .val (.ref o21), s22] [(.int i18), (.int i12), (.int i13), (.int (0 : Int32)), (.ref o19), (.long (own_apv C (D 0) fr ap wn 0)), (.long (D 0))])) _
  refine st7 _ ?_
  show Steps p.tables e below (T7.setTop (mkF m 414 #[s0, s1, s2, s3, s4, s5, s6, s7, s8, s9, s10, s11, .val (.int i12), .val (.int i13), s14, s15, s16, s17, .val (.int i18), .val (.ref o19), .val (.ref o20), .val (.ref o21), s22] [(.int (1 : Int32))])) _
  refine XS.ifNo X7.here hx rfl (hb hby at_414) rfl ((if0 _ _).trans (feq ((by decide) : ¬ ((1 : Int32) = (0 : Int32)))).1) ?_
  show Steps p.tables e below (T7.setTop (mkF m 417 #[s0, s1, s2, s3, s4, s5, s6, s7, s8, s9, s10, s11, .val (.int i12), .val (.int i13), s14, s15, s16, s17, .val (.int i18), .val (.ref o19), .val (.ref o20), .val (.ref o21), s22] [])) _
  refine XS.aload X7.here hx rfl (hb hby at_417) rfl rfl ?_
  show Steps p.tables e below (T7.setTop (mkF m 419 #[s0, s1, s2, s3, s4, s5, s6, s7, s8, s9, s10, s11, .val (.int i12), .val (.int i13), s14, s15, s16, s17, .val (.int i18), .val (.ref o19), .val (.ref o20), .val (.ref o21), s22] [(.ref o20)])) _
  refine XS.iconst X7.here hx rfl (hb hby at_419) ?_
  show Steps p.tables e below (T7.setTop (mkF m 420 #[s0, s1, s2, s3, s4, s5, s6, s7, s8, s9, s10, s11, .val (.int i12), .val (.int i13), s14, s15, s16, s17, .val (.int i18), .val (.ref o19), .val (.ref o20), .val (.ref o21), s22] [(.int (1 : Int32)), (.ref o20)])) _
  refine X7.laload hx (j := (1 : Int32)) (v := (.long (D 1))) Ar_420.1 (State.isArrayOf_alike hZ.alike Ar_420.2.1) Ar_420.2.2 hin420 hat420 (g := (mkF m 420 #[s0, s1, s2, s3, s4, s5, s6, s7, s8, s9, s10, s11, .val (.int i12), .val (.int i13), s14, s15, s16, s17, .val (.int i18), .val (.ref o19), .val (.ref o20), .val (.ref o21), s22] [(.int (1 : Int32)), (.ref o20)])) rfl rfl (hb hby at_420) _ ?_
  show Steps p.tables e below (T7.setTop (mkF m 421 #[s0, s1, s2, s3, s4, s5, s6, s7, s8, s9, s10, s11, .val (.int i12), .val (.int i13), s14, s15, s16, s17, .val (.int i18), .val (.ref o19), .val (.ref o20), .val (.ref o21), s22] [(.long (D 1))])) _
  refine XS.aload X7.here hx rfl (hb hby at_421) rfl rfl ?_
  show Steps p.tables e below (T7.setTop (mkF m 423 #[s0, s1, s2, s3, s4, s5, s6, s7, s8, s9, s10, s11, .val (.int i12), .val (.int i13), s14, s15, s16, s17, .val (.int i18), .val (.ref o19), .val (.ref o20), .val (.ref o21), s22] [(.ref o21), (.long (D 1))])) _
  refine XS.iconst X7.here hx rfl (hb hby at_423) ?_
  show Steps p.tables e below (T7.setTop (mkF m 424 #[s0, s1, s2, s3, s4, s5, s6, s7, s8, s9, s10, s11, .val (.int i12), .val (.int i13), s14, s15, s16, s17, .val (.int i18), .val (.ref o19), .val (.ref o20), .val (.ref o21), s22] [(.int (1 : Int32)), (.ref o21), (.long (D 1))])) _
  refine X7.laload hx (j := (1 : Int32)) (v := (.long (own_apv C (D 1) fr ap wn 1))) Ar_424.1 (State.isArrayOf_alike hZ.alike Ar_424.2.1) Ar_424.2.2 hin424 hat424 (g := (mkF m 424 #[s0, s1, s2, s3, s4, s5, s6, s7, s8, s9, s10, s11, .val (.int i12), .val (.int i13), s14, s15, s16, s17, .val (.int i18), .val (.ref o19), .val (.ref o20), .val (.ref o21), s22] [(.int (1 : Int32)), (.ref o21), (.long (D 1))])) rfl rfl (hb hby at_424) _ ?_
  show Steps p.tables e below (T7.setTop (mkF m 425 #[s0, s1, s2, s3, s4, s5, s6, s7, s8, s9, s10, s11, .val (.int i12), .val (.int i13), s14, s15, s16, s17, .val (.int i18), .val (.ref o19), .val (.ref o20), .val (.ref o21), s22] [(.long (own_apv C (D 1) fr ap wn 1)), (.long (D 1))])) _
  refine XS.aload X7.here hx rfl (hb hby at_425) rfl rfl ?_
  show Steps p.tables e below (T7.setTop (mkF m 427 #[s0, s1, s2, s3, s4, s5, s6, s7, s8, s9, s10, s11, .val (.int i12), .val (.int i13), s14, s15, s16, s17, .val (.int i18), .val (.ref o19), .val (.ref o20), .val (.ref o21), s22] [(.ref o19), (.long (own_apv C (D 1) fr ap wn 1)), (.long (D 1))])) _
  refine XS.iconst X7.here hx rfl (hb hby at_427) ?_
  show Steps p.tables e below (T7.setTop (mkF m 428 #[s0, s1, s2, s3, s4, s5, s6, s7, s8, s9, s10, s11, .val (.int i12), .val (.int i13), s14, s15, s16, s17, .val (.int i18), .val (.ref o19), .val (.ref o20), .val (.ref o21), s22] [(.int (1 : Int32)), (.ref o19), (.long (own_apv C (D 1) fr ap wn 1)), (.long (D 1))])) _
  refine XS.iload X7.here hx rfl (hb hby at_428) rfl ?_
  show Steps p.tables e below (T7.setTop (mkF m 430 #[s0, s1, s2, s3, s4, s5, s6, s7, s8, s9, s10, s11, .val (.int i12), .val (.int i13), s14, s15, s16, s17, .val (.int i18), .val (.ref o19), .val (.ref o20), .val (.ref o21), s22] [(.int i13), (.int (1 : Int32)), (.ref o19), (.long (own_apv C (D 1) fr ap wn 1)), (.long (D 1))])) _
  refine XS.iload X7.here hx rfl (hb hby at_430) rfl ?_
  show Steps p.tables e below (T7.setTop (mkF m 432 #[s0, s1, s2, s3, s4, s5, s6, s7, s8, s9, s10, s11, .val (.int i12), .val (.int i13), s14, s15, s16, s17, .val (.int i18), .val (.ref o19), .val (.ref o20), .val (.ref o21), s22] [(.int i12), (.int i13), (.int (1 : Int32)), (.ref o19), (.long (own_apv C (D 1) fr ap wn 1)), (.long (D 1))])) _
  refine XS.iload X7.here hx rfl (hb hby at_432) rfl ?_
  show Steps p.tables e below (T7.setTop (mkF m 434 #[s0, s1, s2, s3, s4, s5, s6, s7, s8, s9, s10, s11, .val (.int i12), .val (.int i13), s14, s15, s16, s17, .val (.int i18), .val (.ref o19), .val (.ref o20), .val (.ref o21), s22] [(.int i18), (.int i12), (.int i13), (.int (1 : Int32)), (.ref o19), (.long (own_apv C (D 1) fr ap wn 1)), (.long (D 1))])) _
  refine st8 _ ?_
  show Steps p.tables e below (T8.setTop (mkF m 437 #[s0, s1, s2, s3, s4, s5, s6, s7, s8, s9, s10, s11, .val (.int i12), .val (.int i13), s14, s15, s16, s17, .val (.int i18), .val (.ref o19), .val (.ref o20), .val (.ref o21), s22] [(.int (1 : Int32))])) _
  refine XS.ifNo X8.here hx rfl (hb hby at_437) rfl ((if0 _ _).trans (feq ((by decide) : ¬ ((1 : Int32) = (0 : Int32)))).1) ?_
  show Steps p.tables e below (T8.setTop (mkF m 440 #[s0, s1, s2, s3, s4, s5, s6, s7, s8, s9, s10, s11, .val (.int i12), .val (.int i13), s14, s15, s16, s17, .val (.int i18), .val (.ref o19), .val (.ref o20), .val (.ref o21), s22] [])) _
  refine XS.aload X8.here hx rfl (hb hby at_440) rfl rfl ?_
  show Steps p.tables e below (T8.setTop (mkF m 442 #[s0, s1, s2, s3, s4, s5, s6, s7, s8, s9, s10, s11, .val (.int i12), .val (.int i13), s14, s15, s16, s17, .val (.int i18), .val (.ref o19), .val (.ref o20), .val (.ref o21), s22] [(.ref o20)])) _
  refine XS.iconst X8.here hx rfl (hb hby at_442) ?_
  show Steps p.tables e below (T8.setTop (mkF m 443 #[s0, s1, s2, s3, s4, s5, s6, s7, s8, s9, s10, s11, .val (.int i12), .val (.int i13), s14, s15, s16, s17, .val (.int i18), .val (.ref o19), .val (.ref o20), .val (.ref o21), s22] [(.int (2 : Int32)), (.ref o20)])) _
  refine X8.laload hx (j := (2 : Int32)) (v := (.long (D 2))) Ar_443.1 (State.isArrayOf_alike hZ.alike Ar_443.2.1) Ar_443.2.2 hin443 hat443 (g := (mkF m 443 #[s0, s1, s2, s3, s4, s5, s6, s7, s8, s9, s10, s11, .val (.int i12), .val (.int i13), s14, s15, s16, s17, .val (.int i18), .val (.ref o19), .val (.ref o20), .val (.ref o21), s22] [(.int (2 : Int32)), (.ref o20)])) rfl rfl (hb hby at_443) _ ?_
  show Steps p.tables e below (T8.setTop (mkF m 444 #[s0, s1, s2, s3, s4, s5, s6, s7, s8, s9, s10, s11, .val (.int i12), .val (.int i13), s14, s15, s16, s17, .val (.int i18), .val (.ref o19), .val (.ref o20), .val (.ref o21), s22] [(.long (D 2))])) _
  refine XS.aload X8.here hx rfl (hb hby at_444) rfl rfl ?_
  show Steps p.tables e below (T8.setTop (mkF m 446 #[s0, s1, s2, s3, s4, s5, s6, s7, s8, s9, s10, s11, .val (.int i12), .val (.int i13), s14, s15, s16, s17, .val (.int i18), .val (.ref o19), .val (.ref o20), .val (.ref o21), s22] [(.ref o21), (.long (D 2))])) _
  refine XS.iconst X8.here hx rfl (hb hby at_446) ?_
  show Steps p.tables e below (T8.setTop (mkF m 447 #[s0, s1, s2, s3, s4, s5, s6, s7, s8, s9, s10, s11, .val (.int i12), .val (.int i13), s14, s15, s16, s17, .val (.int i18), .val (.ref o19), .val (.ref o20), .val (.ref o21), s22] [(.int (2 : Int32)), (.ref o21), (.long (D 2))])) _
  refine X8.laload hx (j := (2 : Int32)) (v := (.long (own_apv C (D 2) fr ap wn 2))) Ar_447.1 (State.isArrayOf_alike hZ.alike Ar_447.2.1) Ar_447.2.2 hin447 hat447 (g := (mkF m 447 #[s0, s1, s2, s3, s4, s5, s6, s7, s8, s9, s10, s11, .val (.int i12), .val (.int i13), s14, s15, s16, s17, .val (.int i18), .val (.ref o19), .val (.ref o20), .val (.ref o21), s22] [(.int (2 : Int32)), (.ref o21), (.long (D 2))])) rfl rfl (hb hby at_447) _ ?_
  show Steps p.tables e below (T8.setTop (mkF m 448 #[s0, s1, s2, s3, s4, s5, s6, s7, s8, s9, s10, s11, .val (.int i12), .val (.int i13), s14, s15, s16, s17, .val (.int i18), .val (.ref o19), .val (.ref o20), .val (.ref o21), s22] [(.long (own_apv C (D 2) fr ap wn 2)), (.long (D 2))])) _
  refine XS.aload X8.here hx rfl (hb hby at_448) rfl rfl ?_
  show Steps p.tables e below (T8.setTop (mkF m 450 #[s0, s1, s2, s3, s4, s5, s6, s7, s8, s9, s10, s11, .val (.int i12), .val (.int i13), s14, s15, s16, s17, .val (.int i18), .val (.ref o19), .val (.ref o20), .val (.ref o21), s22] [(.ref o19), (.long (own_apv C (D 2) fr ap wn 2)), (.long (D 2))])) _
  refine XS.iconst X8.here hx rfl (hb hby at_450) ?_
  show Steps p.tables e below (T8.setTop (mkF m 451 #[s0, s1, s2, s3, s4, s5, s6, s7, s8, s9, s10, s11, .val (.int i12), .val (.int i13), s14, s15, s16, s17, .val (.int i18), .val (.ref o19), .val (.ref o20), .val (.ref o21), s22] [(.int (2 : Int32)), (.ref o19), (.long (own_apv C (D 2) fr ap wn 2)), (.long (D 2))])) _
  refine XS.iload X8.here hx rfl (hb hby at_451) rfl ?_
  show Steps p.tables e below (T8.setTop (mkF m 453 #[s0, s1, s2, s3, s4, s5, s6, s7, s8, s9, s10, s11, .val (.int i12), .val (.int i13), s14, s15, s16, s17, .val (.int i18), .val (.ref o19), .val (.ref o20), .val (.ref o21), s22] [(.int i13), (.int (2 : Int32)), (.ref o19), (.long (own_apv C (D 2) fr ap wn 2)), (.long (D 2))])) _
  refine XS.iload X8.here hx rfl (hb hby at_453) rfl ?_
  show Steps p.tables e below (T8.setTop (mkF m 455 #[s0, s1, s2, s3, s4, s5, s6, s7, s8, s9, s10, s11, .val (.int i12), .val (.int i13), s14, s15, s16, s17, .val (.int i18), .val (.ref o19), .val (.ref o20), .val (.ref o21), s22] [(.int i12), (.int i13), (.int (2 : Int32)), (.ref o19), (.long (own_apv C (D 2) fr ap wn 2)), (.long (D 2))])) _
  refine XS.iload X8.here hx rfl (hb hby at_455) rfl ?_
  show Steps p.tables e below (T8.setTop (mkF m 457 #[s0, s1, s2, s3, s4, s5, s6, s7, s8, s9, s10, s11, .val (.int i12), .val (.int i13), s14, s15, s16, s17, .val (.int i18), .val (.ref o19), .val (.ref o20), .val (.ref o21), s22] [(.int i18), (.int i12), (.int i13), (.int (2 : Int32)), (.ref o19), (.long (own_apv C (D 2) fr ap wn 2)), (.long (D 2))])) _
  refine st9 _ ?_
  show Steps p.tables e below (T9.setTop (mkF m 460 #[s0, s1, s2, s3, s4, s5, s6, s7, s8, s9, s10, s11, .val (.int i12), .val (.int i13), s14, s15, s16, s17, .val (.int i18), .val (.ref o19), .val (.ref o20), .val (.ref o21), s22] [(.int (1 : Int32))])) _
  refine XS.ifNo X9.here hx rfl (hb hby at_460) rfl ((if0 _ _).trans (feq ((by decide) : ¬ ((1 : Int32) = (0 : Int32)))).1) ?_
  show Steps p.tables e below (T9.setTop (mkF m 463 #[s0, s1, s2, s3, s4, s5, s6, s7, s8, s9, s10, s11, .val (.int i12), .val (.int i13), s14, s15, s16, s17, .val (.int i18), .val (.ref o19), .val (.ref o20), .val (.ref o21), s22] [])) _
  refine XS.aload X9.here hx rfl (hb hby at_463) rfl rfl ?_
  show Steps p.tables e below (T9.setTop (mkF m 465 #[s0, s1, s2, s3, s4, s5, s6, s7, s8, s9, s10, s11, .val (.int i12), .val (.int i13), s14, s15, s16, s17, .val (.int i18), .val (.ref o19), .val (.ref o20), .val (.ref o21), s22] [(.ref o20)])) _
  refine XS.iconst X9.here hx rfl (hb hby at_465) ?_
  show Steps p.tables e below (T9.setTop (mkF m 466 #[s0, s1, s2, s3, s4, s5, s6, s7, s8, s9, s10, s11, .val (.int i12), .val (.int i13), s14, s15, s16, s17, .val (.int i18), .val (.ref o19), .val (.ref o20), .val (.ref o21), s22] [(.int (3 : Int32)), (.ref o20)])) _
  refine X9.laload hx (j := (3 : Int32)) (v := (.long (D 3))) Ar_466.1 (State.isArrayOf_alike hZ.alike Ar_466.2.1) Ar_466.2.2 hin466 hat466 (g := (mkF m 466 #[s0, s1, s2, s3, s4, s5, s6, s7, s8, s9, s10, s11, .val (.int i12), .val (.int i13), s14, s15, s16, s17, .val (.int i18), .val (.ref o19), .val (.ref o20), .val (.ref o21), s22] [(.int (3 : Int32)), (.ref o20)])) rfl rfl (hb hby at_466) _ ?_
  show Steps p.tables e below (T9.setTop (mkF m 467 #[s0, s1, s2, s3, s4, s5, s6, s7, s8, s9, s10, s11, .val (.int i12), .val (.int i13), s14, s15, s16, s17, .val (.int i18), .val (.ref o19), .val (.ref o20), .val (.ref o21), s22] [(.long (D 3))])) _
  refine XS.aload X9.here hx rfl (hb hby at_467) rfl rfl ?_
  show Steps p.tables e below (T9.setTop (mkF m 469 #[s0, s1, s2, s3, s4, s5, s6, s7, s8, s9, s10, s11, .val (.int i12), .val (.int i13), s14, s15, s16, s17, .val (.int i18), .val (.ref o19), .val (.ref o20), .val (.ref o21), s22] [(.ref o21), (.long (D 3))])) _
  refine XS.iconst X9.here hx rfl (hb hby at_469) ?_
  show Steps p.tables e below (T9.setTop (mkF m 470 #[s0, s1, s2, s3, s4, s5, s6, s7, s8, s9, s10, s11, .val (.int i12), .val (.int i13), s14, s15, s16, s17, .val (.int i18), .val (.ref o19), .val (.ref o20), .val (.ref o21), s22] [(.int (3 : Int32)), (.ref o21), (.long (D 3))])) _
  refine X9.laload hx (j := (3 : Int32)) (v := (.long (own_apv C (D 3) fr ap wn 3))) Ar_470.1 (State.isArrayOf_alike hZ.alike Ar_470.2.1) Ar_470.2.2 hin470 hat470 (g := (mkF m 470 #[s0, s1, s2, s3, s4, s5, s6, s7, s8, s9, s10, s11, .val (.int i12), .val (.int i13), s14, s15, s16, s17, .val (.int i18), .val (.ref o19), .val (.ref o20), .val (.ref o21), s22] [(.int (3 : Int32)), (.ref o21), (.long (D 3))])) rfl rfl (hb hby at_470) _ ?_
  show Steps p.tables e below (T9.setTop (mkF m 471 #[s0, s1, s2, s3, s4, s5, s6, s7, s8, s9, s10, s11, .val (.int i12), .val (.int i13), s14, s15, s16, s17, .val (.int i18), .val (.ref o19), .val (.ref o20), .val (.ref o21), s22] [(.long (own_apv C (D 3) fr ap wn 3)), (.long (D 3))])) _
  refine XS.aload X9.here hx rfl (hb hby at_471) rfl rfl ?_
  show Steps p.tables e below (T9.setTop (mkF m 473 #[s0, s1, s2, s3, s4, s5, s6, s7, s8, s9, s10, s11, .val (.int i12), .val (.int i13), s14, s15, s16, s17, .val (.int i18), .val (.ref o19), .val (.ref o20), .val (.ref o21), s22] [(.ref o19), (.long (own_apv C (D 3) fr ap wn 3)), (.long (D 3))])) _
  refine XS.iconst X9.here hx rfl (hb hby at_473) ?_
  show Steps p.tables e below (T9.setTop (mkF m 474 #[s0, s1, s2, s3, s4, s5, s6, s7, s8, s9, s10, s11, .val (.int i12), .val (.int i13), s14, s15, s16, s17, .val (.int i18), .val (.ref o19), .val (.ref o20), .val (.ref o21), s22] [(.int (3 : Int32)), (.ref o19), (.long (own_apv C (D 3) fr ap wn 3)), (.long (D 3))])) _
  refine XS.iload X9.here hx rfl (hb hby at_474) rfl ?_
  show Steps p.tables e below (T9.setTop (mkF m 476 #[s0, s1, s2, s3, s4, s5, s6, s7, s8, s9, s10, s11, .val (.int i12), .val (.int i13), s14, s15, s16, s17, .val (.int i18), .val (.ref o19), .val (.ref o20), .val (.ref o21), s22] [(.int i13), (.int (3 : Int32)), (.ref o19), (.long (own_apv C (D 3) fr ap wn 3)), (.long (D 3))])) _
  refine XS.iload X9.here hx rfl (hb hby at_476) rfl ?_
  show Steps p.tables e below (T9.setTop (mkF m 478 #[s0, s1, s2, s3, s4, s5, s6, s7, s8, s9, s10, s11, .val (.int i12), .val (.int i13), s14, s15, s16, s17, .val (.int i18), .val (.ref o19), .val (.ref o20), .val (.ref o21), s22] [(.int i12), (.int i13), (.int (3 : Int32)), (.ref o19), (.long (own_apv C (D 3) fr ap wn 3)), (.long (D 3))])) _
  refine XS.iload X9.here hx rfl (hb hby at_478) rfl ?_
  show Steps p.tables e below (T9.setTop (mkF m 480 #[s0, s1, s2, s3, s4, s5, s6, s7, s8, s9, s10, s11, .val (.int i12), .val (.int i13), s14, s15, s16, s17, .val (.int i18), .val (.ref o19), .val (.ref o20), .val (.ref o21), s22] [(.int i18), (.int i12), (.int i13), (.int (3 : Int32)), (.ref o19), (.long (own_apv C (D 3) fr ap wn 3)), (.long (D 3))])) _
  refine st10 _ ?_
  show Steps p.tables e below (T10.setTop (mkF m 483 #[s0, s1, s2, s3, s4, s5, s6, s7, s8, s9, s10, s11, .val (.int i12), .val (.int i13), s14, s15, s16, s17, .val (.int i18), .val (.ref o19), .val (.ref o20), .val (.ref o21), s22] [(.int (1 : Int32))])) _
  refine XS.ifNo X10.here hx rfl (hb hby at_483) rfl ((if0 _ _).trans (feq ((by decide) : ¬ ((1 : Int32) = (0 : Int32)))).1) ?_
  show Steps p.tables e below (T10.setTop (mkF m 486 #[s0, s1, s2, s3, s4, s5, s6, s7, s8, s9, s10, s11, .val (.int i12), .val (.int i13), s14, s15, s16, s17, .val (.int i18), .val (.ref o19), .val (.ref o20), .val (.ref o21), s22] [])) _
  refine XS.aload X10.here hx rfl (hb hby at_486) rfl rfl ?_
  show Steps p.tables e below (T10.setTop (mkF m 488 #[s0, s1, s2, s3, s4, s5, s6, s7, s8, s9, s10, s11, .val (.int i12), .val (.int i13), s14, s15, s16, s17, .val (.int i18), .val (.ref o19), .val (.ref o20), .val (.ref o21), s22] [(.ref o20)])) _
  refine XS.iconst X10.here hx rfl (hb hby at_488) ?_
  show Steps p.tables e below (T10.setTop (mkF m 489 #[s0, s1, s2, s3, s4, s5, s6, s7, s8, s9, s10, s11, .val (.int i12), .val (.int i13), s14, s15, s16, s17, .val (.int i18), .val (.ref o19), .val (.ref o20), .val (.ref o21), s22] [(.int (4 : Int32)), (.ref o20)])) _
  refine X10.laload hx (j := (4 : Int32)) (v := (.long (D 4))) Ar_489.1 (State.isArrayOf_alike hZ.alike Ar_489.2.1) Ar_489.2.2 hin489 hat489 (g := (mkF m 489 #[s0, s1, s2, s3, s4, s5, s6, s7, s8, s9, s10, s11, .val (.int i12), .val (.int i13), s14, s15, s16, s17, .val (.int i18), .val (.ref o19), .val (.ref o20), .val (.ref o21), s22] [(.int (4 : Int32)), (.ref o20)])) rfl rfl (hb hby at_489) _ ?_
  show Steps p.tables e below (T10.setTop (mkF m 490 #[s0, s1, s2, s3, s4, s5, s6, s7, s8, s9, s10, s11, .val (.int i12), .val (.int i13), s14, s15, s16, s17, .val (.int i18), .val (.ref o19), .val (.ref o20), .val (.ref o21), s22] [(.long (D 4))])) _
  refine XS.aload X10.here hx rfl (hb hby at_490) rfl rfl ?_
  show Steps p.tables e below (T10.setTop (mkF m 492 #[s0, s1, s2, s3, s4, s5, s6, s7, s8, s9, s10, s11, .val (.int i12), .val (.int i13), s14, s15, s16, s17, .val (.int i18), .val (.ref o19), .val (.ref o20), .val (.ref o21), s22] [(.ref o21), (.long (D 4))])) _
  refine XS.iconst X10.here hx rfl (hb hby at_492) ?_
  show Steps p.tables e below (T10.setTop (mkF m 493 #[s0, s1, s2, s3, s4, s5, s6, s7, s8, s9, s10, s11, .val (.int i12), .val (.int i13), s14, s15, s16, s17, .val (.int i18), .val (.ref o19), .val (.ref o20), .val (.ref o21), s22] [(.int (4 : Int32)), (.ref o21), (.long (D 4))])) _
  refine X10.laload hx (j := (4 : Int32)) (v := (.long (own_apv C (D 4) fr ap wn 4))) Ar_493.1 (State.isArrayOf_alike hZ.alike Ar_493.2.1) Ar_493.2.2 hin493 hat493 (g := (mkF m 493 #[s0, s1, s2, s3, s4, s5, s6, s7, s8, s9, s10, s11, .val (.int i12), .val (.int i13), s14, s15, s16, s17, .val (.int i18), .val (.ref o19), .val (.ref o20), .val (.ref o21), s22] [(.int (4 : Int32)), (.ref o21), (.long (D 4))])) rfl rfl (hb hby at_493) _ ?_
  show Steps p.tables e below (T10.setTop (mkF m 494 #[s0, s1, s2, s3, s4, s5, s6, s7, s8, s9, s10, s11, .val (.int i12), .val (.int i13), s14, s15, s16, s17, .val (.int i18), .val (.ref o19), .val (.ref o20), .val (.ref o21), s22] [(.long (own_apv C (D 4) fr ap wn 4)), (.long (D 4))])) _
  refine XS.aload X10.here hx rfl (hb hby at_494) rfl rfl ?_
  show Steps p.tables e below (T10.setTop (mkF m 496 #[s0, s1, s2, s3, s4, s5, s6, s7, s8, s9, s10, s11, .val (.int i12), .val (.int i13), s14, s15, s16, s17, .val (.int i18), .val (.ref o19), .val (.ref o20), .val (.ref o21), s22] [(.ref o19), (.long (own_apv C (D 4) fr ap wn 4)), (.long (D 4))])) _
  refine XS.iconst X10.here hx rfl (hb hby at_496) ?_
  show Steps p.tables e below (T10.setTop (mkF m 497 #[s0, s1, s2, s3, s4, s5, s6, s7, s8, s9, s10, s11, .val (.int i12), .val (.int i13), s14, s15, s16, s17, .val (.int i18), .val (.ref o19), .val (.ref o20), .val (.ref o21), s22] [(.int (4 : Int32)), (.ref o19), (.long (own_apv C (D 4) fr ap wn 4)), (.long (D 4))])) _
  refine XS.iload X10.here hx rfl (hb hby at_497) rfl ?_
  show Steps p.tables e below (T10.setTop (mkF m 499 #[s0, s1, s2, s3, s4, s5, s6, s7, s8, s9, s10, s11, .val (.int i12), .val (.int i13), s14, s15, s16, s17, .val (.int i18), .val (.ref o19), .val (.ref o20), .val (.ref o21), s22] [(.int i13), (.int (4 : Int32)), (.ref o19), (.long (own_apv C (D 4) fr ap wn 4)), (.long (D 4))])) _
  refine XS.iload X10.here hx rfl (hb hby at_499) rfl ?_
  show Steps p.tables e below (T10.setTop (mkF m 501 #[s0, s1, s2, s3, s4, s5, s6, s7, s8, s9, s10, s11, .val (.int i12), .val (.int i13), s14, s15, s16, s17, .val (.int i18), .val (.ref o19), .val (.ref o20), .val (.ref o21), s22] [(.int i12), (.int i13), (.int (4 : Int32)), (.ref o19), (.long (own_apv C (D 4) fr ap wn 4)), (.long (D 4))])) _
  refine XS.iload X10.here hx rfl (hb hby at_501) rfl ?_
  show Steps p.tables e below (T10.setTop (mkF m 503 #[s0, s1, s2, s3, s4, s5, s6, s7, s8, s9, s10, s11, .val (.int i12), .val (.int i13), s14, s15, s16, s17, .val (.int i18), .val (.ref o19), .val (.ref o20), .val (.ref o21), s22] [(.int i18), (.int i12), (.int i13), (.int (4 : Int32)), (.ref o19), (.long (own_apv C (D 4) fr ap wn 4)), (.long (D 4))])) _
  refine st11 _ ?_
  show Steps p.tables e below (T11.setTop (mkF m 506 #[s0, s1, s2, s3, s4, s5, s6, s7, s8, s9, s10, s11, .val (.int i12), .val (.int i13), s14, s15, s16, s17, .val (.int i18), .val (.ref o19), .val (.ref o20), .val (.ref o21), s22] [(.int (1 : Int32))])) _
  refine XS.ifNo X11.here hx rfl (hb hby at_506) rfl ((if0 _ _).trans (feq ((by decide) : ¬ ((1 : Int32) = (0 : Int32)))).1) ?_
  show Steps p.tables e below (T11.setTop (mkF m 509 #[s0, s1, s2, s3, s4, s5, s6, s7, s8, s9, s10, s11, .val (.int i12), .val (.int i13), s14, s15, s16, s17, .val (.int i18), .val (.ref o19), .val (.ref o20), .val (.ref o21), s22] [])) _
  refine XS.aload X11.here hx rfl (hb hby at_509) rfl rfl ?_
  show Steps p.tables e below (T11.setTop (mkF m 511 #[s0, s1, s2, s3, s4, s5, s6, s7, s8, s9, s10, s11, .val (.int i12), .val (.int i13), s14, s15, s16, s17, .val (.int i18), .val (.ref o19), .val (.ref o20), .val (.ref o21), s22] [(.ref o20)])) _
  refine XS.iconst X11.here hx rfl (hb hby at_511) ?_
  show Steps p.tables e below (T11.setTop (mkF m 512 #[s0, s1, s2, s3, s4, s5, s6, s7, s8, s9, s10, s11, .val (.int i12), .val (.int i13), s14, s15, s16, s17, .val (.int i18), .val (.ref o19), .val (.ref o20), .val (.ref o21), s22] [(.int (5 : Int32)), (.ref o20)])) _
  refine X11.laload hx (j := (5 : Int32)) (v := (.long (D 5))) Ar_512.1 (State.isArrayOf_alike hZ.alike Ar_512.2.1) Ar_512.2.2 hin512 hat512 (g := (mkF m 512 #[s0, s1, s2, s3, s4, s5, s6, s7, s8, s9, s10, s11, .val (.int i12), .val (.int i13), s14, s15, s16, s17, .val (.int i18), .val (.ref o19), .val (.ref o20), .val (.ref o21), s22] [(.int (5 : Int32)), (.ref o20)])) rfl rfl (hb hby at_512) _ ?_
  show Steps p.tables e below (T11.setTop (mkF m 513 #[s0, s1, s2, s3, s4, s5, s6, s7, s8, s9, s10, s11, .val (.int i12), .val (.int i13), s14, s15, s16, s17, .val (.int i18), .val (.ref o19), .val (.ref o20), .val (.ref o21), s22] [(.long (D 5))])) _
  refine XS.aload X11.here hx rfl (hb hby at_513) rfl rfl ?_
  show Steps p.tables e below (T11.setTop (mkF m 515 #[s0, s1, s2, s3, s4, s5, s6, s7, s8, s9, s10, s11, .val (.int i12), .val (.int i13), s14, s15, s16, s17, .val (.int i18), .val (.ref o19), .val (.ref o20), .val (.ref o21), s22] [(.ref o21), (.long (D 5))])) _
  refine XS.iconst X11.here hx rfl (hb hby at_515) ?_
  show Steps p.tables e below (T11.setTop (mkF m 516 #[s0, s1, s2, s3, s4, s5, s6, s7, s8, s9, s10, s11, .val (.int i12), .val (.int i13), s14, s15, s16, s17, .val (.int i18), .val (.ref o19), .val (.ref o20), .val (.ref o21), s22] [(.int (5 : Int32)), (.ref o21), (.long (D 5))])) _
  refine X11.laload hx (j := (5 : Int32)) (v := (.long (own_apv C (D 5) fr ap wn 5))) Ar_516.1 (State.isArrayOf_alike hZ.alike Ar_516.2.1) Ar_516.2.2 hin516 hat516 (g := (mkF m 516 #[s0, s1, s2, s3, s4, s5, s6, s7, s8, s9, s10, s11, .val (.int i12), .val (.int i13), s14, s15, s16, s17, .val (.int i18), .val (.ref o19), .val (.ref o20), .val (.ref o21), s22] [(.int (5 : Int32)), (.ref o21), (.long (D 5))])) rfl rfl (hb hby at_516) _ ?_
  show Steps p.tables e below (T11.setTop (mkF m 517 #[s0, s1, s2, s3, s4, s5, s6, s7, s8, s9, s10, s11, .val (.int i12), .val (.int i13), s14, s15, s16, s17, .val (.int i18), .val (.ref o19), .val (.ref o20), .val (.ref o21), s22] [(.long (own_apv C (D 5) fr ap wn 5)), (.long (D 5))])) _
  refine XS.aload X11.here hx rfl (hb hby at_517) rfl rfl ?_
  show Steps p.tables e below (T11.setTop (mkF m 519 #[s0, s1, s2, s3, s4, s5, s6, s7, s8, s9, s10, s11, .val (.int i12), .val (.int i13), s14, s15, s16, s17, .val (.int i18), .val (.ref o19), .val (.ref o20), .val (.ref o21), s22] [(.ref o19), (.long (own_apv C (D 5) fr ap wn 5)), (.long (D 5))])) _
  refine XS.iconst X11.here hx rfl (hb hby at_519) ?_
  show Steps p.tables e below (T11.setTop (mkF m 520 #[s0, s1, s2, s3, s4, s5, s6, s7, s8, s9, s10, s11, .val (.int i12), .val (.int i13), s14, s15, s16, s17, .val (.int i18), .val (.ref o19), .val (.ref o20), .val (.ref o21), s22] [(.int (5 : Int32)), (.ref o19), (.long (own_apv C (D 5) fr ap wn 5)), (.long (D 5))])) _
  refine XS.iload X11.here hx rfl (hb hby at_520) rfl ?_
  show Steps p.tables e below (T11.setTop (mkF m 522 #[s0, s1, s2, s3, s4, s5, s6, s7, s8, s9, s10, s11, .val (.int i12), .val (.int i13), s14, s15, s16, s17, .val (.int i18), .val (.ref o19), .val (.ref o20), .val (.ref o21), s22] [(.int i13), (.int (5 : Int32)), (.ref o19), (.long (own_apv C (D 5) fr ap wn 5)), (.long (D 5))])) _
  refine XS.iload X11.here hx rfl (hb hby at_522) rfl ?_
  show Steps p.tables e below (T11.setTop (mkF m 524 #[s0, s1, s2, s3, s4, s5, s6, s7, s8, s9, s10, s11, .val (.int i12), .val (.int i13), s14, s15, s16, s17, .val (.int i18), .val (.ref o19), .val (.ref o20), .val (.ref o21), s22] [(.int i12), (.int i13), (.int (5 : Int32)), (.ref o19), (.long (own_apv C (D 5) fr ap wn 5)), (.long (D 5))])) _
  refine XS.iload X11.here hx rfl (hb hby at_524) rfl ?_
  show Steps p.tables e below (T11.setTop (mkF m 526 #[s0, s1, s2, s3, s4, s5, s6, s7, s8, s9, s10, s11, .val (.int i12), .val (.int i13), s14, s15, s16, s17, .val (.int i18), .val (.ref o19), .val (.ref o20), .val (.ref o21), s22] [(.int i18), (.int i12), (.int i13), (.int (5 : Int32)), (.ref o19), (.long (own_apv C (D 5) fr ap wn 5)), (.long (D 5))])) _
  refine st12 _ ?_
  show Steps p.tables e below (T12.setTop (mkF m 529 #[s0, s1, s2, s3, s4, s5, s6, s7, s8, s9, s10, s11, .val (.int i12), .val (.int i13), s14, s15, s16, s17, .val (.int i18), .val (.ref o19), .val (.ref o20), .val (.ref o21), s22] [(.int (1 : Int32))])) _
  refine XS.ifNo X12.here hx rfl (hb hby at_529) rfl ((if0 _ _).trans (feq ((by decide) : ¬ ((1 : Int32) = (0 : Int32)))).1) ?_
  show Steps p.tables e below (T12.setTop (mkF m 532 #[s0, s1, s2, s3, s4, s5, s6, s7, s8, s9, s10, s11, .val (.int i12), .val (.int i13), s14, s15, s16, s17, .val (.int i18), .val (.ref o19), .val (.ref o20), .val (.ref o21), s22] [])) _
  refine XS.iconst X12.here hx rfl (hb hby at_532) ?_
  show Steps p.tables e below (T12.setTop (mkF m 533 #[s0, s1, s2, s3, s4, s5, s6, s7, s8, s9, s10, s11, .val (.int i12), .val (.int i13), s14, s15, s16, s17, .val (.int i18), .val (.ref o19), .val (.ref o20), .val (.ref o21), s22] [(.int (1 : Int32))])) _
  refine XS.goto X12.here hx rfl (pc0 := 533) (pc' := 537) rfl (hb hby at_533) (by decide) (by decide) ?_
  exact kt
theorem own_lol {k j : Nat} {g : Nat → Value} (h : own_lo k g) (hj : j < k) : g j = .long (own_lng (g j)) := by
  obtain ⟨x, hx⟩ := h j hj
  rw [hx]; rfl
theorem pn_0 : plainName "com/example/tight_bounds/tightbounds/model/StateLayoutApplyPinLaw" = true := by first | (simp [plainName, overriddenIn]; done) | decide +kernel
theorem ef_0 (m : MethodId) (x0 : Int32) (x1 : Int64) (x2 : Int64) (x3 : Int64) (x4 : Int64) (x5 : Int64) : entryFrame m #[(.int x0), (.long x1), (.long x2), (.long x3), (.long x4), (.long x5)] maxLocals = mkF m 0 #[.val (.int x0), .val (.long x1), .second, .val (.long x2), .second, .val (.long x3), .second, .val (.long x4), .second, .val (.long x5), .second, .unset, .unset, .unset, .unset, .unset, .unset, .unset, .unset, .unset, .unset, .unset, .unset] [] := by first | (simp [entryFrame, mkF, argsToLocals, Value.category, maxLocals]; done) | rfl
def Q0 (Z : State) (p1 : Int32) (q2 : Int64) (q3 : Int64) (q4 : Int64) (q5 : Int64) (q6 : Int64) (h0 : Heap) (n0 : Nat) (v : Option Value) (h : Heap) (L : List Loc) : Prop := v = some (.int (1 : Int32)) ∧ Fr n0 L
set_option maxRecDepth 65536 in
set_option maxHeartbeats 40000000 in
theorem rm0 (l : Launch) (Z : State) (a0 : Array Value) (hw : ∀ d ∈ tables_1, d.before a0 Z = true) (ws : List Jvm.Cond) (p1 : Int32) (q2 : Int64) (q3 : Int64) (q4 : Int64) (q5 : Int64) (q6 : Int64) (h0 : Heap) (n0 : Nat) (Z0 : n0 ≤ h0.size) :
    MetFree l x (head1 (Jvm.Cond.code x code maxLocals ret :: ws) room_1) (fun a U => a = #[(.int p1), (.long q2), (.long q3), (.long q4), (.long q5), (.long q6)] ∧ Z.Warmed39 U.vm ∧ U.heap = h0) (fun _ _ _ _ _ => True) (fun _ U o U' => ∃ v L, o = .returned v ∧ Q0 Z p1 q2 q3 q4 q5 q6 h0 n0 v U'.heap L ∧ FrameEnd U o U' L room_1.cells room_1.slots) := by
  refine MetFree.of_bodySF (plainFor_of_name pn_0) hisR ?_
  intro p e s m args below meth c s₁ Bd hml0 hP hK
  obtain ⟨rfl, hZ, hh⟩ := hP
  have hx := Bd.exec
  have hby := Bd.bytes
  have hml : c.maxLocals = 23 := hml0
  have hown : s.vm.findClass "com/example/tight_bounds/tightbounds/model/StateLayoutApplyPinLaw" = some m.cls := findClass_of_methodNamed Bd.named
  have hnm := (name_of_methodNamed Bd.named Bd.method).1
  have X0 : Stand p l e room_1 s m #[(.int p1), (.long q2), (.long q3), (.long q4), (.long q5), (.long q6)] below meth c s₁ [] 0 0 := Stand.of_body Bd
  have e0 : s₁.heap = h0 := by rw [← hh, Bd.state]; rfl
  have N0 := Fr.nil n0
  have pre0 : ∀ t, Steps p.tables e below (s₁.setTop (mkF m 0 #[.val (.int p1), .val (.long q2), .second, .val (.long q3), .second, .val (.long q4), .second, .val (.long q5), .second, .val (.long q6), .second, .unset, .unset, .unset, .unset, .unset, .unset, .unset, .unset, .unset, .unset, .unset, .unset] [])) t → Steps p.tables e below (s₁.setTop (entryFrame m #[(.int p1), (.long q2), (.long q3), (.long q4), (.long q5), (.long q6)] maxLocals)) t := fun t k => castTop (ef_0 m p1 q2 q3 q4 q5 q6) k
  obtain ⟨T1, X1, e1, st1⟩ := tn0_0_27 p1 (.val (.long q2)) .second (.val (.long q3)) .second (.val (.long q4)) .second (.val (.long q5)) .second (.val (.long q6)) .second X0 hx hZ hw hby hml hown e0
  obtain ⟨K, hK, x11⟩ := own_mask3 p1
  obtain ⟨fr, hfr, x12⟩ := own_mask3 ((p1.toUInt32 >>> ((2 : Int32) &&& 31).toUInt32).toInt32)
  obtain ⟨ap, hap, x13⟩ := own_mask3 ((p1.toUInt32 >>> ((4 : Int32) &&& 31).toUInt32).toInt32)
  have hfin : ∃ (T' : State) (locs' : List Loc) (Ls : Array Slot) (cells slots : Nat), Stand p l e room_1 s m #[(.int p1), (.long q2), (.long q3), (.long q4), (.long q5), (.long q6)] below meth c T' locs' cells slots ∧ Fr n0 locs' ∧ cells ≤ 32 ∧ slots ≤ 192 ∧ ∀ target, Steps p.tables e below (T'.setTop (mkF m 537 Ls [(.int (1 : Int32))])) target → Steps p.tables e below (s₁.setTop (mkF m 0 #[.val (.int p1), .val (.long q2), .second, .val (.long q3), .second, .val (.long q4), .second, .val (.long q5), .second, .val (.long q6), .second, .unset, .unset, .unset, .unset, .unset, .unset, .unset, .unset, .unset, .unset, .unset, .unset] [])) target := by
    obtain rfl | rfl | rfl | rfl : K = 0 ∨ K = 1 ∨ K = 2 ∨ K = 3 := by omega
    · obtain ⟨T2, h2, L2, b, c', X2, e2, N2, V16, V17, E16, Z2, st2⟩ := sB0 (.val (.int p1)) (.val (.long q2)) .second (.val (.long q3)) .second (.val (.long q4)) .second (.val (.long q5)) .second (.val (.long q6)) .second (p1 &&& (3 : Int32)) (.val (.int (((p1.toUInt32 >>> ((2 : Int32) &&& 31).toUInt32).toInt32) &&& (3 : Int32)))) (.val (.int (((p1.toUInt32 >>> ((4 : Int32) &&& 31).toUInt32).toInt32) &&& (3 : Int32)))) (-2147483648 : Int32) (2147483647 : Int32) n0 X1 hx hZ hw hby hml hown e1 Z0 N0 ((own_ixeq x11 (show own_ix (0 : Int32) 0 from rfl)).mpr rfl)
      obtain ⟨T3, h3, L3, b19, b20, b21, f, g, X3, e3, N3, g21, n1921, n2021, V19, l19, V20, V21, l20, V16', V17', E16', Z3, st3⟩ := sC (.val (.int p1)) q2 q3 q4 q5 q6 (.val (.int (p1 &&& (3 : Int32)))) (.val (.int (((p1.toUInt32 >>> ((2 : Int32) &&& 31).toUInt32).toInt32) &&& (3 : Int32)))) (.val (.int (((p1.toUInt32 >>> ((4 : Int32) &&& 31).toUInt32).toInt32) &&& (3 : Int32)))) (.val (.int (-2147483648 : Int32))) (.val (.int (2147483647 : Int32))) b c' (.val (.int (0 : Int32))) n0 0 _ _ X2 hx hZ hw hby hml hown e2 Z2 N2 (by decide) (by decide) V16 V17 E16
      have U19 : Ary Z h3 b19 .long 10 (fun j => .long (own_lng (f j))) := V19.cong (fun j hj => own_lol l19 hj)
      have U20 : Ary Z h3 b20 .long 6 (fun j => .long (own_lng (g j))) := V20.cong (fun j hj => own_lol l20 hj)
      have U21 : Ary Z h3 b21 .long 6 (fun j => .long (own_lng (g j))) := V21.cong (fun j hj => own_lol l20 hj)
      obtain ⟨T4, h4, L4, b22, X4, e4, N4, n2221, V19', V20', V21', E22, F22, Z4, st4⟩ := sD0 (.val (.int p1)) (.val (.long q2)) .second (.val (.long q3)) .second (.val (.long q4)) .second (.val (.long q5)) .second (.val (.long q6)) .second (.val (.int (p1 &&& (3 : Int32)))) (.val (.int (((p1.toUInt32 >>> ((2 : Int32) &&& 31).toUInt32).toInt32) &&& (3 : Int32)))) (.val (.int (((p1.toUInt32 >>> ((4 : Int32) &&& 31).toUInt32).toInt32) &&& (3 : Int32)))) (.val (.int (-2147483648 : Int32))) (.val (.int (2147483647 : Int32))) b c' (.val (.int (0 : Int32))) b19 b20 b21 n0 (0 : Int32) (1 : Int32) (63 : Int32) (0 : Int32) _ _ _ X3 hx hZ hw hby hml hown e3 Z3 N3 (Or.inl ⟨by decide, rfl⟩) (by decide) (by decide) V16' V17' U19 U20 U21 E16'
      obtain ⟨T5, h5, L5, X5, e5, N5, V19'', V20'', V21'', Z5, st5⟩ := sE (.val (.int p1)) (.val (.long q2)) .second (.val (.long q3)) .second (.val (.long q4)) .second (.val (.long q5)) .second (.val (.long q6)) .second (.val (.int (p1 &&& (3 : Int32)))) (((p1.toUInt32 >>> ((2 : Int32) &&& 31).toUInt32).toInt32) &&& (3 : Int32)) (((p1.toUInt32 >>> ((4 : Int32) &&& 31).toUInt32).toInt32) &&& (3 : Int32)) (.val (.int (-2147483648 : Int32))) (.val (.int (2147483647 : Int32))) (.val (.ref b)) (.val (.ref c')) (.val (.int (0 : Int32))) b19 b20 b21 b22 n0 (0 : Int32) (fun j => own_lng (f j)) (fun j => own_lng (g j)) fr ap 0 X4 hx hZ hw hby hml hown e4 Z4 N4 (by decide) (by decide) x12 x13 (show own_ix (0 : Int32) 0 from rfl) (by omega) (by omega) n2221 n1921 n2021 g21 F22 V19' V20' V21' E22
      obtain ⟨T6, h6, L6, X6, e6, N6, st6⟩ := sF (.val (.int p1)) (.val (.long q2)) .second (.val (.long q3)) .second (.val (.long q4)) .second (.val (.long q5)) .second (.val (.long q6)) .second (.val (.int (p1 &&& (3 : Int32)))) (((p1.toUInt32 >>> ((2 : Int32) &&& 31).toUInt32).toInt32) &&& (3 : Int32)) (((p1.toUInt32 >>> ((4 : Int32) &&& 31).toUInt32).toInt32) &&& (3 : Int32)) (.val (.int (-2147483648 : Int32))) (.val (.int (2147483647 : Int32))) (.val (.ref b)) (.val (.ref c')) (0 : Int32) b19 b20 b21 (.val (.ref b22)) n0 (fun j => own_lng (f j)) (fun j => own_lng (g j)) fr ap 0 X5 hx hZ hw hby hml hown e5 Z5 N5 (by decide) (by decide) x12 x13 (show own_ix (0 : Int32) 0 from rfl) (by omega) V19'' V20'' V21''
      exact ⟨T6, L6, _, _, _, X6, N6, by decide, by decide, fun t k => st1 t (st2 t (st3 t (st4 t (st5 t (st6 t k)))))⟩
    · obtain ⟨T2, h2, L2, b, c', X2, e2, N2, V16, V17, E16, Z2, st2⟩ := sB1 (.val (.int p1)) (.val (.long q2)) .second (.val (.long q3)) .second (.val (.long q4)) .second (.val (.long q5)) .second (.val (.long q6)) .second (p1 &&& (3 : Int32)) (.val (.int (((p1.toUInt32 >>> ((2 : Int32) &&& 31).toUInt32).toInt32) &&& (3 : Int32)))) (.val (.int (((p1.toUInt32 >>> ((4 : Int32) &&& 31).toUInt32).toInt32) &&& (3 : Int32)))) (-2147483648 : Int32) (2147483647 : Int32) n0 X1 hx hZ hw hby hml hown e1 Z0 N0 (fun q => by have := (own_ixeq x11 (show own_ix (0 : Int32) 0 from rfl)).mp q; omega) ((own_ixeq x11 (show own_ix (1 : Int32) 1 from rfl)).mpr rfl)
      obtain ⟨T3, h3, L3, b19, b20, b21, f, g, X3, e3, N3, g21, n1921, n2021, V19, l19, V20, V21, l20, V16', V17', E16', Z3, st3⟩ := sC (.val (.int p1)) q2 q3 q4 q5 q6 (.val (.int (p1 &&& (3 : Int32)))) (.val (.int (((p1.toUInt32 >>> ((2 : Int32) &&& 31).toUInt32).toInt32) &&& (3 : Int32)))) (.val (.int (((p1.toUInt32 >>> ((4 : Int32) &&& 31).toUInt32).toInt32) &&& (3 : Int32)))) (.val (.int (-2147483648 : Int32))) (.val (.int (2147483647 : Int32))) b c' (.val (.int (1 : Int32))) n0 1 _ _ X2 hx hZ hw hby hml hown e2 Z2 N2 (by decide) (by decide) V16 V17 E16
      have U19 : Ary Z h3 b19 .long 10 (fun j => .long (own_lng (f j))) := V19.cong (fun j hj => own_lol l19 hj)
      have U20 : Ary Z h3 b20 .long 6 (fun j => .long (own_lng (g j))) := V20.cong (fun j hj => own_lol l20 hj)
      have U21 : Ary Z h3 b21 .long 6 (fun j => .long (own_lng (g j))) := V21.cong (fun j hj => own_lol l20 hj)
      obtain ⟨T4, h4, L4, b22, X4, e4, N4, n2221, V19', V20', V21', E22, F22, Z4, st4⟩ := sD1 (.val (.int p1)) (.val (.long q2)) .second (.val (.long q3)) .second (.val (.long q4)) .second (.val (.long q5)) .second (.val (.long q6)) .second (.val (.int (p1 &&& (3 : Int32)))) (.val (.int (((p1.toUInt32 >>> ((2 : Int32) &&& 31).toUInt32).toInt32) &&& (3 : Int32)))) (.val (.int (((p1.toUInt32 >>> ((4 : Int32) &&& 31).toUInt32).toInt32) &&& (3 : Int32)))) (.val (.int (-2147483648 : Int32))) (.val (.int (2147483647 : Int32))) b c' (.val (.int (1 : Int32))) b19 b20 b21 n0 (0 : Int32) (1 : Int32) (63 : Int32) (1 : Int32) _ _ _ X3 hx hZ hw hby hml hown e3 Z3 N3 (Or.inl ⟨by decide, rfl⟩) (by decide) (by decide) V16' V17' U19 U20 U21 E16'
      obtain ⟨T5, h5, L5, X5, e5, N5, V19'', V20'', V21'', Z5, st5⟩ := sE (.val (.int p1)) (.val (.long q2)) .second (.val (.long q3)) .second (.val (.long q4)) .second (.val (.long q5)) .second (.val (.long q6)) .second (.val (.int (p1 &&& (3 : Int32)))) (((p1.toUInt32 >>> ((2 : Int32) &&& 31).toUInt32).toInt32) &&& (3 : Int32)) (((p1.toUInt32 >>> ((4 : Int32) &&& 31).toUInt32).toInt32) &&& (3 : Int32)) (.val (.int (-2147483648 : Int32))) (.val (.int (2147483647 : Int32))) (.val (.ref b)) (.val (.ref c')) (.val (.int (1 : Int32))) b19 b20 b21 b22 n0 (1 : Int32) (fun j => own_lng (f j)) (fun j => own_lng (g j)) fr ap 1 X4 hx hZ hw hby hml hown e4 Z4 N4 (by decide) (by decide) x12 x13 (show own_ix (1 : Int32) 1 from rfl) (by omega) (by omega) n2221 n1921 n2021 g21 F22 V19' V20' V21' E22
      obtain ⟨T6, h6, L6, X6, e6, N6, st6⟩ := sF (.val (.int p1)) (.val (.long q2)) .second (.val (.long q3)) .second (.val (.long q4)) .second (.val (.long q5)) .second (.val (.long q6)) .second (.val (.int (p1 &&& (3 : Int32)))) (((p1.toUInt32 >>> ((2 : Int32) &&& 31).toUInt32).toInt32) &&& (3 : Int32)) (((p1.toUInt32 >>> ((4 : Int32) &&& 31).toUInt32).toInt32) &&& (3 : Int32)) (.val (.int (-2147483648 : Int32))) (.val (.int (2147483647 : Int32))) (.val (.ref b)) (.val (.ref c')) (1 : Int32) b19 b20 b21 (.val (.ref b22)) n0 (fun j => own_lng (f j)) (fun j => own_lng (g j)) fr ap 1 X5 hx hZ hw hby hml hown e5 Z5 N5 (by decide) (by decide) x12 x13 (show own_ix (1 : Int32) 1 from rfl) (by omega) V19'' V20'' V21''
      exact ⟨T6, L6, _, _, _, X6, N6, by decide, by decide, fun t k => st1 t (st2 t (st3 t (st4 t (st5 t (st6 t k)))))⟩
    · obtain ⟨T2, h2, L2, b, c', X2, e2, N2, V16, V17, E16, Z2, st2⟩ := sB3 (.val (.int p1)) (.val (.long q2)) .second (.val (.long q3)) .second (.val (.long q4)) .second (.val (.long q5)) .second (.val (.long q6)) .second (p1 &&& (3 : Int32)) (.val (.int (((p1.toUInt32 >>> ((2 : Int32) &&& 31).toUInt32).toInt32) &&& (3 : Int32)))) (.val (.int (((p1.toUInt32 >>> ((4 : Int32) &&& 31).toUInt32).toInt32) &&& (3 : Int32)))) (-2147483648 : Int32) (2147483647 : Int32) n0 X1 hx hZ hw hby hml hown e1 Z0 N0 (fun q => by have := (own_ixeq x11 (show own_ix (0 : Int32) 0 from rfl)).mp q; omega) (fun q => by have := (own_ixeq x11 (show own_ix (1 : Int32) 1 from rfl)).mp q; omega) ((own_ixeq x11 (show own_ix (2 : Int32) 2 from rfl)).mpr rfl)
      obtain ⟨T3, h3, L3, b19, b20, b21, f, g, X3, e3, N3, g21, n1921, n2021, V19, l19, V20, V21, l20, V16', V17', E16', Z3, st3⟩ := sC (.val (.int p1)) q2 q3 q4 q5 q6 (.val (.int (p1 &&& (3 : Int32)))) (.val (.int (((p1.toUInt32 >>> ((2 : Int32) &&& 31).toUInt32).toInt32) &&& (3 : Int32)))) (.val (.int (((p1.toUInt32 >>> ((4 : Int32) &&& 31).toUInt32).toInt32) &&& (3 : Int32)))) (.val (.int (-2147483648 : Int32))) (.val (.int (2147483647 : Int32))) b c' (.val (.int (2 : Int32))) n0 3 _ _ X2 hx hZ hw hby hml hown e2 Z2 N2 (by decide) (by decide) V16 V17 E16
      have U19 : Ary Z h3 b19 .long 10 (fun j => .long (own_lng (f j))) := V19.cong (fun j hj => own_lol l19 hj)
      have U20 : Ary Z h3 b20 .long 6 (fun j => .long (own_lng (g j))) := V20.cong (fun j hj => own_lol l20 hj)
      have U21 : Ary Z h3 b21 .long 6 (fun j => .long (own_lng (g j))) := V21.cong (fun j hj => own_lol l20 hj)
      obtain ⟨T4, h4, L4, b22, X4, e4, N4, n2221, V19', V20', V21', E22, F22, Z4, st4⟩ := sD3 (.val (.int p1)) (.val (.long q2)) .second (.val (.long q3)) .second (.val (.long q4)) .second (.val (.long q5)) .second (.val (.long q6)) .second (.val (.int (p1 &&& (3 : Int32)))) (.val (.int (((p1.toUInt32 >>> ((2 : Int32) &&& 31).toUInt32).toInt32) &&& (3 : Int32)))) (.val (.int (((p1.toUInt32 >>> ((4 : Int32) &&& 31).toUInt32).toInt32) &&& (3 : Int32)))) (.val (.int (-2147483648 : Int32))) (.val (.int (2147483647 : Int32))) b c' (.val (.int (2 : Int32))) b19 b20 b21 n0 (-2147483648 : Int32) (2147483647 : Int32) (32 : Int32) (2 : Int32) _ _ _ X3 hx hZ hw hby hml hown e3 Z3 N3 (Or.inr ⟨by decide, rfl⟩) (by decide) (by decide) V16' V17' U19 U20 U21 E16'
      obtain ⟨T5, h5, L5, X5, e5, N5, V19'', V20'', V21'', Z5, st5⟩ := sE (.val (.int p1)) (.val (.long q2)) .second (.val (.long q3)) .second (.val (.long q4)) .second (.val (.long q5)) .second (.val (.long q6)) .second (.val (.int (p1 &&& (3 : Int32)))) (((p1.toUInt32 >>> ((2 : Int32) &&& 31).toUInt32).toInt32) &&& (3 : Int32)) (((p1.toUInt32 >>> ((4 : Int32) &&& 31).toUInt32).toInt32) &&& (3 : Int32)) (.val (.int (-2147483648 : Int32))) (.val (.int (2147483647 : Int32))) (.val (.ref b)) (.val (.ref c')) (.val (.int (2 : Int32))) b19 b20 b21 b22 n0 (2 : Int32) (fun j => own_lng (f j)) (fun j => own_lng (g j)) fr ap 2 X4 hx hZ hw hby hml hown e4 Z4 N4 (by decide) (by decide) x12 x13 (show own_ix (2 : Int32) 2 from rfl) (by omega) (by omega) n2221 n1921 n2021 g21 F22 V19' V20' V21' E22
      obtain ⟨T6, h6, L6, X6, e6, N6, st6⟩ := sF (.val (.int p1)) (.val (.long q2)) .second (.val (.long q3)) .second (.val (.long q4)) .second (.val (.long q5)) .second (.val (.long q6)) .second (.val (.int (p1 &&& (3 : Int32)))) (((p1.toUInt32 >>> ((2 : Int32) &&& 31).toUInt32).toInt32) &&& (3 : Int32)) (((p1.toUInt32 >>> ((4 : Int32) &&& 31).toUInt32).toInt32) &&& (3 : Int32)) (.val (.int (-2147483648 : Int32))) (.val (.int (2147483647 : Int32))) (.val (.ref b)) (.val (.ref c')) (2 : Int32) b19 b20 b21 (.val (.ref b22)) n0 (fun j => own_lng (f j)) (fun j => own_lng (g j)) fr ap 2 X5 hx hZ hw hby hml hown e5 Z5 N5 (by decide) (by decide) x12 x13 (show own_ix (2 : Int32) 2 from rfl) (by omega) V19'' V20'' V21''
      exact ⟨T6, L6, _, _, _, X6, N6, by decide, by decide, fun t k => st1 t (st2 t (st3 t (st4 t (st5 t (st6 t k)))))⟩
    · obtain ⟨T2, h2, L2, b, c', X2, e2, N2, V16, V17, E16, Z2, st2⟩ := sB5 (.val (.int p1)) (.val (.long q2)) .second (.val (.long q3)) .second (.val (.long q4)) .second (.val (.long q5)) .second (.val (.long q6)) .second (p1 &&& (3 : Int32)) (.val (.int (((p1.toUInt32 >>> ((2 : Int32) &&& 31).toUInt32).toInt32) &&& (3 : Int32)))) (.val (.int (((p1.toUInt32 >>> ((4 : Int32) &&& 31).toUInt32).toInt32) &&& (3 : Int32)))) (-2147483648 : Int32) (2147483647 : Int32) n0 X1 hx hZ hw hby hml hown e1 Z0 N0 (fun q => by have := (own_ixeq x11 (show own_ix (0 : Int32) 0 from rfl)).mp q; omega) (fun q => by have := (own_ixeq x11 (show own_ix (1 : Int32) 1 from rfl)).mp q; omega) (fun q => by have := (own_ixeq x11 (show own_ix (2 : Int32) 2 from rfl)).mp q; omega)
      obtain ⟨T3, h3, L3, b19, b20, b21, f, g, X3, e3, N3, g21, n1921, n2021, V19, l19, V20, V21, l20, V16', V17', E16', Z3, st3⟩ := sC (.val (.int p1)) q2 q3 q4 q5 q6 (.val (.int (p1 &&& (3 : Int32)))) (.val (.int (((p1.toUInt32 >>> ((2 : Int32) &&& 31).toUInt32).toInt32) &&& (3 : Int32)))) (.val (.int (((p1.toUInt32 >>> ((4 : Int32) &&& 31).toUInt32).toInt32) &&& (3 : Int32)))) (.val (.int (-2147483648 : Int32))) (.val (.int (2147483647 : Int32))) b c' (.val (.int (3 : Int32))) n0 5 _ _ X2 hx hZ hw hby hml hown e2 Z2 N2 (by decide) (by decide) V16 V17 E16
      have U19 : Ary Z h3 b19 .long 10 (fun j => .long (own_lng (f j))) := V19.cong (fun j hj => own_lol l19 hj)
      have U20 : Ary Z h3 b20 .long 6 (fun j => .long (own_lng (g j))) := V20.cong (fun j hj => own_lol l20 hj)
      have U21 : Ary Z h3 b21 .long 6 (fun j => .long (own_lng (g j))) := V21.cong (fun j hj => own_lol l20 hj)
      obtain ⟨T4, h4, L4, b22, X4, e4, N4, n2221, V19', V20', V21', E22, F22, Z4, st4⟩ := sD5 (.val (.int p1)) (.val (.long q2)) .second (.val (.long q3)) .second (.val (.long q4)) .second (.val (.long q5)) .second (.val (.long q6)) .second (.val (.int (p1 &&& (3 : Int32)))) (.val (.int (((p1.toUInt32 >>> ((2 : Int32) &&& 31).toUInt32).toInt32) &&& (3 : Int32)))) (.val (.int (((p1.toUInt32 >>> ((4 : Int32) &&& 31).toUInt32).toInt32) &&& (3 : Int32)))) (.val (.int (-2147483648 : Int32))) (.val (.int (2147483647 : Int32))) b c' (.val (.int (3 : Int32))) b19 b20 b21 n0 (-2147483648 : Int32) (2147483647 : Int32) (32 : Int32) (3 : Int32) _ _ _ X3 hx hZ hw hby hml hown e3 Z3 N3 (Or.inr ⟨by decide, rfl⟩) (by decide) (by decide) V16' V17' U19 U20 U21 E16'
      obtain ⟨T5, h5, L5, X5, e5, N5, V19'', V20'', V21'', Z5, st5⟩ := sE (.val (.int p1)) (.val (.long q2)) .second (.val (.long q3)) .second (.val (.long q4)) .second (.val (.long q5)) .second (.val (.long q6)) .second (.val (.int (p1 &&& (3 : Int32)))) (((p1.toUInt32 >>> ((2 : Int32) &&& 31).toUInt32).toInt32) &&& (3 : Int32)) (((p1.toUInt32 >>> ((4 : Int32) &&& 31).toUInt32).toInt32) &&& (3 : Int32)) (.val (.int (-2147483648 : Int32))) (.val (.int (2147483647 : Int32))) (.val (.ref b)) (.val (.ref c')) (.val (.int (3 : Int32))) b19 b20 b21 b22 n0 (3 : Int32) (fun j => own_lng (f j)) (fun j => own_lng (g j)) fr ap 3 X4 hx hZ hw hby hml hown e4 Z4 N4 (by decide) (by decide) x12 x13 (show own_ix (3 : Int32) 3 from rfl) (by omega) (by omega) n2221 n1921 n2021 g21 F22 V19' V20' V21' E22
      obtain ⟨T6, h6, L6, X6, e6, N6, st6⟩ := sF (.val (.int p1)) (.val (.long q2)) .second (.val (.long q3)) .second (.val (.long q4)) .second (.val (.long q5)) .second (.val (.long q6)) .second (.val (.int (p1 &&& (3 : Int32)))) (((p1.toUInt32 >>> ((2 : Int32) &&& 31).toUInt32).toInt32) &&& (3 : Int32)) (((p1.toUInt32 >>> ((4 : Int32) &&& 31).toUInt32).toInt32) &&& (3 : Int32)) (.val (.int (-2147483648 : Int32))) (.val (.int (2147483647 : Int32))) (.val (.ref b)) (.val (.ref c')) (3 : Int32) b19 b20 b21 (.val (.ref b22)) n0 (fun j => own_lng (f j)) (fun j => own_lng (g j)) fr ap 3 X5 hx hZ hw hby hml hown e5 Z5 N5 (by decide) (by decide) x12 x13 (show own_ix (3 : Int32) 3 from rfl) (by omega) V19'' V20'' V21''
      exact ⟨T6, L6, _, _, _, X6, N6, by decide, by decide, fun t k => st1 t (st2 t (st3 t (st4 t (st5 t (st6 t k)))))⟩
  obtain ⟨T9, L9, Ls, cl, sl, X9, N9, hcl, hsl, st9⟩ := hfin
  obtain ⟨fs, hr, hrun, hended, hW, hsame⟩ := X9.leave (v := some (.int (1 : Int32))) (fun h => by rw [Bd.returns] at h; cases h)
  refine ⟨_, _, pre0 _ ?_, hrun, hended, _, _, rfl, ?_, ⟨_, rfl⟩, hW, hsame.mono hcl hsl⟩
  · refine st9 _ ?_
    exact retN X9 hx (t := .boolean) Bd.returns (by simp) (hb hby at_537) hr
  · exact ⟨rfl, N9⟩
set_option maxRecDepth 65536 in
set_option maxHeartbeats 40000000 in
theorem comes_1 {Post : Tables → Env → Array Value → State → Outcome → State → Prop} (hpost : ∀ tb e args s v u, (limb_1_1.after args s (.returned v) u = true ∧ limb_1_2.after args s (.returned v) u = true ∧ True) → FrameEnd s (.returned v) u (Jvm.fieldLocs frame_1_writes args s ++ Jvm.arrayLocs frame_1_arrays args s ++ Jvm.staticLocs frame_1_statics s) 32 192 → Post tb e args s (.returned v) u) :
    ArmFor flags0 classFile x code maxLocals ret World_1 tables_1 room_1 Calls_1 rest_1 Pre_1 Post := by
  intro l hfl _ _ p e ha hc hk s m args below hf hA hF happ hP
  obtain ⟨hcalls, hrest, hpre⟩ := hP
  obtain ⟨-, -, -, hnamed, -, -, -, hat⟩ := (Spec.applies_iff hf).mp happ
  obtain ⟨hg, hn⟩ := and_e (Cond.before_iff.mp (show (Jvm.Cond.and given_1 narrow_1).before args s = true from hpre))
  obtain ⟨g43, g44⟩ := and_e hg
  obtain ⟨g45, g46⟩ := and_e g44
  obtain ⟨g47, g48⟩ := and_e g46
  obtain ⟨g49, g50⟩ := and_e g48
  obtain ⟨g51, g52⟩ := and_e g50
  obtain ⟨g53, g54⟩ := and_e g52
  obtain ⟨w0, w1, w2, w3, w4, w5, rfl⟩ : ∃ w0 w1 w2 w3 w4 w5 : Value, args = #[w0, w1, w2, w3, w4, w5] := by
    have hs : args.size = 6 := by simpa [Cond.value, given_1] using g43
    obtain ⟨L⟩ := args
    match L, hs with
    | [w0, w1, w2, w3, w4, w5], _ => exact ⟨w0, w1, w2, w3, w4, w5, rfl⟩
  have hw := fun d (hd : d ∈ tables_1) => atoms_spec (ws := Jvm.Cond.code x code maxLocals ret :: tables_1) hat d (List.mem_cons_of_mem _ hd)
  have hfit : Fit s := fun {y c} hc i hi => by
    obtain ⟨ha, rfl⟩ := Array.getElem?_eq_some_iff.mp hc
    have q := List.all_eq_true.mp ((Array.all_eq_true_iff_forall_mem.mp hF) _ (Array.getElem_mem ha)) i (List.mem_range.mpr hi)
    simpa [Array.getElem?_eq_getElem hi] using q
  obtain ⟨i0, ei0⟩ := is_v g45
  obtain rfl : w0 = (.int i0) := Option.some.inj ei0
  obtain ⟨i1, ei1⟩ := isL_v g47
  obtain rfl : w1 = (.long i1) := Option.some.inj ei1
  obtain ⟨i2, ei2⟩ := isL_v g49
  obtain rfl : w2 = (.long i2) := Option.some.inj ei2
  obtain ⟨i3, ei3⟩ := isL_v g51
  obtain rfl : w3 = (.long i3) := Option.some.inj ei3
  obtain ⟨i4, ei4⟩ := isL_v g53
  obtain rfl : w4 = (.long i4) := Option.some.inj ei4
  obtain ⟨i5, ei5⟩ := isL_v g54
  obtain rfl : w5 = (.long i5) := Option.some.inj ei5
  obtain ⟨n, o, h1, h2, h3, _, L, rfl, ⟨rfl, N⟩, hq⟩ := rm0 l s _ hw tables_1 i0 i1 i2 i3 i4 i5 s.heap s.heap.size (Nat.le_refl _) p e ha hc hk s m _ below hf ((Spec.applies_iff_loose hf).mp happ).1 ⟨rfl, State.Warmed39.refl s, rfl⟩ trivial
  refine ⟨n, _, h1, h2, h3, hpost _ _ _ _ _ _ ⟨Cond.after_iff.mpr rfl, Cond.after_iff.mpr (eq_i res_at (Term.int_eval (1)) rfl), trivial⟩ ⟨hq.1, hq.2.1, (hq.2.2.sift fun y hy => Or.inr (N y hy)).mono (by decide) (by decide)⟩⟩
theorem main_1_1 : Claimed_1_1 := comes_1 fun _ _ _ _ _ _ h hF => ⟨h.1, hF⟩
theorem main_1_2 : Claimed_1_2 := comes_1 fun _ _ _ _ _ _ h hF => ⟨h.2.1, hF⟩
end Jvm.Pilot.@@N@@
namespace Jvm.Pilot.@@N@@
open Jvm Jvm.ClassFile Sem Op Lib Jvm.Free Jvm.Stand Jvm.Pilot.@@N@@.Jvm.D
/-! MADE BY PROGRAM (witnessworld.py) out of the Statement's table words and the real class files: 17 classes; the members and pool entries that the words name. The judged class is class 1, her method 1. -/
namespace start1
open Jvm.ClassFile
def u (s : String) : CpInfo := .utf8 (stringToUtf16 s)
/-- a pool by its gaps: so many unusable entries, then the entry; so many at the end -/
def gap : Nat → List CpInfo → List CpInfo
  | 0, r => r
  | n + 1, r => .unusable :: gap n r
def poolList (es : List (Nat × CpInfo)) (last : Nat) : List CpInfo := es.foldr (fun e r => gap e.1 (e.2 :: r)) (gap last [])
def pool (es : List (Nat × CpInfo)) (last : Nat) : Array CpInfo := ⟨poolList es last⟩
def fileOf (pool : Array CpInfo) (this : Nat) (attrs : Array Attribute := #[]) (ms : Array MethodInfo := #[]) (fl : Nat := 33) (sup : Nat := 0) (ifs : Array Nat := #[]) (fds : Array FieldInfo := #[]) : ClassFile where
  minorVersion := 0
  majorVersion := 65
  constantPool := pool
  accessFlags := fl
  thisClass := this
  superClass := sup
  interfaces := ifs
  fields := fds
  methods := ms
  attributes := attrs
def plain (name : String) (sup : Option ClassId) : Class where
  name := name
  kind := .ordinary
  loader := none
  accessFlags := 33
  super := sup
  interfaces := #[]
  cf := none
  fields := #[]
  methods := #[]
  instanceTypes := #[]
  staticTypes := #[]
  resolved := #[]
  callSites := []
  init := .initialized
  statics := none
  mirror := none

def pool0 : Array CpInfo := pool [(5, u "<init>"), (0, u "()V"), (1, .class_ 10), (1, u "java/lang/Object"), (85, u "clone"), (0, u "()Ljava/lang/Object;")] 26

def k0c0 : Code := { maxStack := 0, maxLocals := 1, code := object_method_1_code, exceptionTable := #[], attributes := #[] }
def k0m0 : Method := { name := "<init>", desc := "()V", sig := { parameters := [], returnType := none }, accessFlags := 1, code := some k0c0 }
def k0m1 : Method := { name := "clone", desc := "()Ljava/lang/Object;", sig := { parameters := [], returnType := some (.object "java/lang/Object") }, accessFlags := 260, code := none }
/-- java/lang/Object -/
def k0 : Class := { plain "java/lang/Object" none with
  accessFlags := 33
  interfaces := #[]
  cf := some (fileOf pool0 8 #[] #[{ accessFlags := 1, nameIndex := 5, descriptorIndex := 6, attributes := #[] }, { accessFlags := 260, nameIndex := 96, descriptorIndex := 97, attributes := #[] }] 33 0 #[] #[])
  fields := #[]
  methods := #[k0m0, k0m1]
  instanceTypes := #[]
  staticTypes := #[]
  resolved := Array.replicate 124 none
  statics := none }

def pool1 : Array CpInfo := pool [(2, .class_ 4), (1, u "java/lang/Object"), (0, u "<init>"), (0, u "()V"), (2, .integer 2147483648), (0, .integer 2147483647), (0, .long 18446744073709551615), (1, .class_ 14), (0, u "com/example/tight_bounds/tightbounds/model/StateLayout"), (0, .methodref 13 16), (0, .nameAndType 5 17), (0, u "([I[I)V"), (0, .methodref 13 19), (0, .nameAndType 20 21), (0, u "apply"), (0, u "([JI[JI)V"), (0, .methodref 23 24), (0, .class_ 25), (0, .nameAndType 26 27), (0, u "com/example/tight_bounds/tightbounds/model/StateLayoutApplyPinLaw"), (0, u "ok"), (0, u "(JJ[JIIII)Z"), (2, u "law"), (0, u "(IJJJJJ)Z")] 7

def k1m0 : Method := { name := "<init>", desc := "()V", sig := { parameters := [], returnType := none }, accessFlags := 2, code := none }
def k1c1 : Code := { maxStack := 9, maxLocals := 23, code := code, exceptionTable := #[], attributes := #[] }
def k1m1 : Method := { name := "law", desc := "(IJJJJJ)Z", sig := { parameters := [.int, .long, .long, .long, .long, .long], returnType := some .boolean }, accessFlags := 9, code := some k1c1 }
def k1c2 : Code := { maxStack := 8, maxLocals := 10, code := method_3_code, exceptionTable := #[], attributes := #[] }
def k1m2 : Method := { name := "ok", desc := "(JJ[JIIII)Z", sig := { parameters := [.long, .long, (.array .long), .int, .int, .int, .int], returnType := some .boolean }, accessFlags := 10, code := some k1c2 }
/-- com/example/tight_bounds/tightbounds/model/StateLayoutApplyPinLaw -/
def k1 : Class := { plain "com/example/tight_bounds/tightbounds/model/StateLayoutApplyPinLaw" (some 0) with
  accessFlags := 49
  interfaces := #[]
  cf := some (fileOf pool1 23 #[] #[{ accessFlags := 2, nameIndex := 5, descriptorIndex := 6, attributes := #[] }, { accessFlags := 9, nameIndex := 30, descriptorIndex := 31, attributes := #[] }, { accessFlags := 10, nameIndex := 26, descriptorIndex := 27, attributes := #[] }] 49 2 #[] #[])
  fields := #[]
  methods := #[k1m0, k1m1, k1m2]
  instanceTypes := #[]
  staticTypes := #[]
  resolved := Array.replicate 39 none
  statics := none }

def pool2 : Array CpInfo := pool [(1, .methodref 2 3), (0, .class_ 4), (0, .nameAndType 5 6), (0, u "java/lang/Object"), (0, u "<init>"), (0, u "()V"), (0, .methodref 8 9), (0, .class_ 10), (0, .nameAndType 11 12), (0, u "[I"), (0, u "clone"), (0, u "()Ljava/lang/Object;"), (0, .fieldref 14 15), (0, .class_ 16), (0, .nameAndType 17 10), (0, u "com/example/tight_bounds/tightbounds/model/StateLayout"), (0, u "lows"), (0, .fieldref 14 19), (0, .nameAndType 20 10), (0, u "words"), (0, .fieldref 14 22), (0, .nameAndType 23 10), (0, u "shifts"), (0, .fieldref 14 25), (0, .nameAndType 26 27), (0, u "masks"), (0, u "[J"), (0, .class_ 29), (0, u "java/lang/Long"), (0, .methodref 28 31), (0, .nameAndType 32 33), (0, u "numberOfLeadingZeros"), (0, u "(J)I"), (0, .fieldref 14 35), (0, .nameAndType 36 37), (0, u "wordCount"), (0, u "I"), (32, u "([I[I)V"), (21, u "EMPTY"), (0, u "Lcom/example/tight_bounds/tightbounds/model/StateLayout;"), (16, u "apply"), (0, u "([JI[JI)V")] 6

def k2c0 : Code := { maxStack := 6, maxLocals := 9, code := prog_77_method_1_code, exceptionTable := #[], attributes := #[] }
def k2m0 : Method := { name := "<init>", desc := "([I[I)V", sig := { parameters := [(.array .int), (.array .int)], returnType := none }, accessFlags := 0, code := some k2c0 }
def k2c1 : Code := { maxStack := 8, maxLocals := 6, code := prog_77_method_10_code, exceptionTable := #[], attributes := #[] }
def k2m1 : Method := { name := "apply", desc := "([JI[JI)V", sig := { parameters := [(.array .long), .int, (.array .long), .int], returnType := none }, accessFlags := 0, code := some k2c1 }
/-- com/example/tight_bounds/tightbounds/model/StateLayout -/
def k2 : Class := { plain "com/example/tight_bounds/tightbounds/model/StateLayout" (some 0) with
  accessFlags := 48
  interfaces := #[]
  cf := some (fileOf pool2 14 #[] #[{ accessFlags := 0, nameIndex := 5, descriptorIndex := 70, attributes := #[] }, { accessFlags := 0, nameIndex := 110, descriptorIndex := 111, attributes := #[] }] 48 2 #[] #[{ accessFlags := 24, nameIndex := 92, descriptorIndex := 93, attributes := #[] }, { accessFlags := 18, nameIndex := 17, descriptorIndex := 10, attributes := #[] }, { accessFlags := 18, nameIndex := 20, descriptorIndex := 10, attributes := #[] }, { accessFlags := 18, nameIndex := 23, descriptorIndex := 10, attributes := #[] }, { accessFlags := 18, nameIndex := 26, descriptorIndex := 27, attributes := #[] }, { accessFlags := 18, nameIndex := 36, descriptorIndex := 37, attributes := #[] }])
  fields := #[{ name := "EMPTY", type := (.object "com/example/tight_bounds/tightbounds/model/StateLayout"), accessFlags := 24, slot := 0, constantValue := 0 }, { name := "lows", type := (.array .int), accessFlags := 18, slot := 0, constantValue := 0 }, { name := "words", type := (.array .int), accessFlags := 18, slot := 1, constantValue := 0 }, { name := "shifts", type := (.array .int), accessFlags := 18, slot := 2, constantValue := 0 }, { name := "masks", type := (.array .long), accessFlags := 18, slot := 3, constantValue := 0 }, { name := "wordCount", type := .int, accessFlags := 18, slot := 4, constantValue := 0 }]
  methods := #[k2m0, k2m1]
  instanceTypes := #[(.array .int), (.array .int), (.array .int), (.array .long), .int]
  staticTypes := #[(.object "com/example/tight_bounds/tightbounds/model/StateLayout")]
  resolved := Array.replicate 118 none
  statics := none }

def pool3 : Array CpInfo := pool [(1, .class_ 2), (0, u "java/lang/Cloneable"), (0, .class_ 4), (0, u "java/lang/Object")] 2

/-- java/lang/Cloneable -/
def k3 : Class := { plain "java/lang/Cloneable" (some 0) with
  accessFlags := 1537
  interfaces := #[]
  cf := some (fileOf pool3 1 #[] #[] 1537 3 #[] #[])
  fields := #[]
  methods := #[]
  instanceTypes := #[]
  staticTypes := #[]
  resolved := Array.replicate 7 none
  statics := none }

def pool4 : Array CpInfo := pool [(1, .class_ 2), (0, u "java/io/Serializable"), (0, .class_ 4), (0, u "java/lang/Object")] 2

/-- java/io/Serializable -/
def k4 : Class := { plain "java/io/Serializable" (some 0) with
  accessFlags := 1537
  interfaces := #[]
  cf := some (fileOf pool4 1 #[] #[] 1537 3 #[] #[])
  fields := #[]
  methods := #[]
  instanceTypes := #[]
  staticTypes := #[]
  resolved := Array.replicate 7 none
  statics := none }

def pool5 : Array CpInfo := pool [(2, .class_ 4), (1, u "java/lang/Object"), (0, u "<init>"), (0, u "()V"), (1, .class_ 10), (1, u "java/lang/Number"), (2, .class_ 14), (0, u "java/io/Serializable"), (0, u "serialVersionUID"), (0, u "J")] 20

def k5m0 : Method := { name := "<init>", desc := "()V", sig := { parameters := [], returnType := none }, accessFlags := 1, code := none }
/-- java/lang/Number -/
def k5 : Class := { plain "java/lang/Number" (some 0) with
  accessFlags := 1057
  interfaces := #[4]
  cf := some (fileOf pool5 8 #[] #[{ accessFlags := 1, nameIndex := 5, descriptorIndex := 6, attributes := #[] }] 1057 2 #[13] #[{ accessFlags := 26, nameIndex := 15, descriptorIndex := 16, attributes := #[] }])
  fields := #[{ name := "serialVersionUID", type := .long, accessFlags := 26, slot := 0, constantValue := 0 }]
  methods := #[k5m0]
  instanceTypes := #[]
  staticTypes := #[.long]
  resolved := Array.replicate 37 none
  statics := none }

def pool6 : Array CpInfo := pool [(1, .class_ 2), (0, u "java/lang/Comparable"), (0, .class_ 4), (0, u "java/lang/Object")] 7

/-- java/lang/Comparable -/
def k6 : Class := { plain "java/lang/Comparable" (some 0) with
  accessFlags := 1537
  interfaces := #[]
  cf := some (fileOf pool6 1 #[] #[] 1537 3 #[] #[])
  fields := #[]
  methods := #[]
  instanceTypes := #[]
  staticTypes := #[]
  resolved := Array.replicate 12 none
  statics := none }

def pool7 : Array CpInfo := pool [(1, .class_ 2), (0, u "java/lang/constant/Constable"), (0, .class_ 4), (0, u "java/lang/Object")] 6

/-- java/lang/constant/Constable -/
def k7 : Class := { plain "java/lang/constant/Constable" (some 0) with
  accessFlags := 1537
  interfaces := #[]
  cf := some (fileOf pool7 1 #[] #[] 1537 3 #[] #[])
  fields := #[]
  methods := #[]
  instanceTypes := #[]
  staticTypes := #[]
  resolved := Array.replicate 11 none
  statics := none }

def pool8 : Array CpInfo := pool [(1, .class_ 2), (0, u "java/lang/constant/ConstantDesc"), (0, .class_ 4), (0, u "java/lang/Object")] 32

/-- java/lang/constant/ConstantDesc -/
def k8 : Class := { plain "java/lang/constant/ConstantDesc" (some 0) with
  accessFlags := 1537
  interfaces := #[]
  cf := some (fileOf pool8 1 #[] #[] 1537 3 #[] #[])
  fields := #[]
  methods := #[]
  instanceTypes := #[]
  staticTypes := #[]
  resolved := Array.replicate 37 none
  statics := none }

def pool9 : Array CpInfo := pool [(1, .class_ 2), (0, u "java/lang/Long"), (15, .class_ 20), (1, u "java/lang/Integer"), (79, u "numberOfLeadingZeros"), (0, u "(J)I"), (133, .class_ 237), (1, u "java/lang/Long$LongCache"), (33, .class_ 272), (0, u "java/lang/Number"), (2, u "value"), (0, u "J"), (31, .methodref 18 309), (0, .nameAndType 100 310), (0, u "(I)I"), (50, u "TYPE"), (0, u "Ljava/lang/Class;"), (0, .class_ 364), (0, u "java/lang/Comparable"), (0, .class_ 366), (0, u "java/lang/constant/Constable"), (0, .class_ 368), (0, u "java/lang/constant/ConstantDesc"), (0, u "MIN_VALUE"), (1, u "MAX_VALUE"), (4, u "SIZE"), (0, u "I"), (1, u "BYTES"), (1, u "serialVersionUID")] 142

def k9c0 : Code := { maxStack := 3, maxLocals := 3, code := jdk_35_method_48_code, exceptionTable := #[], attributes := #[] }
def k9m0 : Method := { name := "numberOfLeadingZeros", desc := "(J)I", sig := { parameters := [.long], returnType := some .int }, accessFlags := 9, code := some k9c0 }
/-- java/lang/Long -/
def k9 : Class := { plain "java/lang/Long" (some 5) with
  accessFlags := 49
  interfaces := #[6, 7, 8]
  cf := some (fileOf pool9 1 #[.nestMembers #[235]] #[{ accessFlags := 9, nameIndex := 100, descriptorIndex := 101, attributes := #[] }] 49 271 #[363, 365, 367] #[{ accessFlags := 25, nameIndex := 369, descriptorIndex := 276, attributes := #[] }, { accessFlags := 25, nameIndex := 371, descriptorIndex := 276, attributes := #[] }, { accessFlags := 25, nameIndex := 361, descriptorIndex := 362, attributes := #[] }, { accessFlags := 18, nameIndex := 275, descriptorIndex := 276, attributes := #[] }, { accessFlags := 25, nameIndex := 376, descriptorIndex := 377, attributes := #[] }, { accessFlags := 25, nameIndex := 379, descriptorIndex := 377, attributes := #[] }, { accessFlags := 26, nameIndex := 381, descriptorIndex := 276, attributes := #[] }])
  fields := #[{ name := "MIN_VALUE", type := .long, accessFlags := 25, slot := 0, constantValue := 0 }, { name := "MAX_VALUE", type := .long, accessFlags := 25, slot := 1, constantValue := 0 }, { name := "TYPE", type := (.object "java/lang/Class"), accessFlags := 25, slot := 2, constantValue := 0 }, { name := "value", type := .long, accessFlags := 18, slot := 0, constantValue := 0 }, { name := "SIZE", type := .int, accessFlags := 25, slot := 3, constantValue := 0 }, { name := "BYTES", type := .int, accessFlags := 25, slot := 4, constantValue := 0 }, { name := "serialVersionUID", type := .long, accessFlags := 26, slot := 5, constantValue := 0 }]
  methods := #[k9m0]
  instanceTypes := #[.long]
  staticTypes := #[.long, .long, (.object "java/lang/Class"), .int, .int, .long]
  resolved := Array.replicate 524 none
  statics := none }

def pool10 : Array CpInfo := pool [(1, .class_ 2), (0, u "java/lang/Integer"), (16, u "digits"), (0, u "[C"), (32, u "numberOfLeadingZeros"), (0, u "(I)I"), (30, u "DigitOnes"), (0, u "[B"), (2, u "DigitTens"), (99, .class_ 190), (0, u "java/lang/Integer$IntegerCache"), (3, u "I"), (8, .class_ 204), (0, u "java/lang/Number"), (2, u "value"), (56, .integer 65536), (37, u "TYPE"), (0, u "Ljava/lang/Class;"), (0, .class_ 305), (0, u "java/lang/Comparable"), (0, .class_ 307), (0, u "java/lang/constant/Constable"), (0, .class_ 309), (0, u "java/lang/constant/ConstantDesc"), (0, u "MIN_VALUE"), (1, u "MAX_VALUE"), (3, u "SIZE"), (1, u "BYTES"), (1, u "serialVersionUID"), (0, u "J")] 131

def k10c0 : Code := { maxStack := 3, maxLocals := 2, code := jdk_33_method_47_code, exceptionTable := #[], attributes := #[] }
def k10m0 : Method := { name := "numberOfLeadingZeros", desc := "(I)I", sig := { parameters := [.int], returnType := some .int }, accessFlags := 9, code := some k10c0 }
/-- java/lang/Integer -/
def k10 : Class := { plain "java/lang/Integer" (some 5) with
  accessFlags := 49
  interfaces := #[6, 7, 8]
  cf := some (fileOf pool10 1 #[.nestMembers #[189]] #[{ accessFlags := 9, nameIndex := 53, descriptorIndex := 54, attributes := #[] }] 49 203 #[304, 306, 308] #[{ accessFlags := 25, nameIndex := 310, descriptorIndex := 194, attributes := #[] }, { accessFlags := 25, nameIndex := 312, descriptorIndex := 194, attributes := #[] }, { accessFlags := 25, nameIndex := 302, descriptorIndex := 303, attributes := #[] }, { accessFlags := 24, nameIndex := 19, descriptorIndex := 20, attributes := #[] }, { accessFlags := 24, nameIndex := 89, descriptorIndex := 86, attributes := #[] }, { accessFlags := 24, nameIndex := 85, descriptorIndex := 86, attributes := #[] }, { accessFlags := 18, nameIndex := 207, descriptorIndex := 194, attributes := #[] }, { accessFlags := 25, nameIndex := 316, descriptorIndex := 194, attributes := #[] }, { accessFlags := 25, nameIndex := 318, descriptorIndex := 194, attributes := #[] }, { accessFlags := 26, nameIndex := 320, descriptorIndex := 321, attributes := #[] }])
  fields := #[{ name := "MIN_VALUE", type := .int, accessFlags := 25, slot := 0, constantValue := 0 }, { name := "MAX_VALUE", type := .int, accessFlags := 25, slot := 1, constantValue := 0 }, { name := "TYPE", type := (.object "java/lang/Class"), accessFlags := 25, slot := 2, constantValue := 0 }, { name := "digits", type := (.array .char), accessFlags := 24, slot := 3, constantValue := 0 }, { name := "DigitTens", type := (.array .byte), accessFlags := 24, slot := 4, constantValue := 0 }, { name := "DigitOnes", type := (.array .byte), accessFlags := 24, slot := 5, constantValue := 0 }, { name := "value", type := .int, accessFlags := 18, slot := 0, constantValue := 0 }, { name := "SIZE", type := .int, accessFlags := 25, slot := 6, constantValue := 0 }, { name := "BYTES", type := .int, accessFlags := 25, slot := 7, constantValue := 0 }, { name := "serialVersionUID", type := .long, accessFlags := 26, slot := 8, constantValue := 0 }]
  methods := #[k10m0]
  instanceTypes := #[.int]
  staticTypes := #[.int, .int, (.object "java/lang/Class"), (.array .char), (.array .byte), (.array .byte), .int, .int, .long]
  resolved := Array.replicate 453 none
  statics := none }

/-- the primitive byte -/
def k11 : Class := { plain "byte" none with kind := .primitive 'B', accessFlags := 0x411 }
/-- [B -/
def k12 : Class := { plain "[B" (some 0) with kind := .array 11 .byte, interfaces := #[3, 4], accessFlags := 1041 }

/-- the primitive int -/
def k13 : Class := { plain "int" none with kind := .primitive 'I', accessFlags := 0x411 }
/-- [I -/
def k14 : Class := { plain "[I" (some 0) with kind := .array 13 .int, interfaces := #[3, 4], accessFlags := 1041 }

/-- the primitive long -/
def k15 : Class := { plain "long" none with kind := .primitive 'J', accessFlags := 0x411 }
/-- [J -/
def k16 : Class := { plain "[J" (some 0) with kind := .array 15 .long, interfaces := #[3, 4], accessFlags := 1041 }

def heap : Heap := #[]
def classes : Array Class := #[k0, k1, k2, k3, k4, k5, k6, k7, k8, k9, k10, k11, k12, k13, k14, k15, k16]
def interned : List (Array UInt16 × Addr) := []
def slotsUsed : Nat := 0
def theMethod : MethodId := ⟨1, 1⟩
def args0 : Array Value := #[.int 5, .long 7, .long 1, .long 3, .long 2, .long 9]
def aboutOver (below : List Frame) : State where
  vm := { classes := classes, interned := interned.toArray }
  heap := heap
  slotsUsed := slotsUsed
  threads := #[{ frames := .invoking theMethod args0 :: below }]
def below0 : List Frame := [.native { method := ⟨0, 0⟩, args := #[] }]
def about1 : State := aboutOver below0
def p0 : Program := .bare "" "" ""
def e0 : Env := launch0.env 0 0 0
theorem w_frames : about1.frames = Frame.invoking theMethod args0 :: below0 := rfl
set_option maxRecDepth 65536 in
theorem w_args : argsFit about1.vm theMethod args0 = true := by decide +kernel
set_option maxRecDepth 65536 in
theorem w_heap : heapFits about1 = true := by decide +kernel
set_option maxRecDepth 65536 in
theorem w_runnable : about1.curStatus? = some .runnable := by decide +kernel
set_option maxRecDepth 65536 in
theorem w_alone : about1.alone = true := by decide +kernel
set_option maxRecDepth 65536 in
theorem w_named : about1.methodNamed? x = some theMethod := by decide +kernel
set_option maxRecDepth 65536 in
theorem w_hears : about1.hears theMethod below0 = true := by decide +kernel
set_option maxRecDepth 65536 in
theorem w_ripe : about1.ripe theMethod args0 below0 = true := by decide +kernel
theorem w_running : about1.status = .running := rfl
set_option maxRecDepth 65536 in
theorem w_room : about1.hasRoom e0.platform room_1 = true :=
  launch0.hasRoom_least _ room_1 (by decide +kernel) (by decide +kernel) (by decide +kernel) (by decide +kernel) (by decide +kernel) (by decide +kernel)
theorem allAtoms_all (ts : List Jvm.Cond) (a : Array Jvm.Value) (st : Jvm.State) : (allAtoms ts).before a st = ts.all (fun c => c.before a st) := by
  induction ts with
  | nil => rfl
  | cons c t ih =>
    show (Jvm.Cond.and c (allAtoms t)).before a st = _
    rw [Jvm.Cond.before_and, ih, List.all_cons]
def words1 : List Jvm.Cond := Jvm.Cond.code x code maxLocals ret :: tables_1
/-- a 'code' word, met by the world's own term for the bytes: nothing is compared byte by byte -/
theorem code_word {y : MethodName} {bytes : ByteArray} {mx : Nat} {rt : Option FieldType} {a : Array Value} {s : State} {m : MethodId} {meth : Method} {c : Code} (h1 : s.methodNamed? y = some m) (h2 : s.vm.method? m = some meth) (h3 : meth.code = some c) (h4 : c.code = bytes)
    (h5 : (c.maxLocals == mx && c.exceptionTable.isEmpty && decide (c.maxStack ≤ mostOperands) && decide (meth.sig.returnType = rt) && !meth.locks && decide (parseMethodDescriptor y.desc = some meth.sig)) = true) : (Jvm.Cond.code y bytes mx rt).before a s = true := by
  simp only [Bool.and_eq_true, beq_iff_eq, Bool.not_eq_true', decide_eq_true_eq] at h5
  obtain ⟨⟨⟨⟨⟨g1, g2⟩, g3⟩, g4⟩, g5⟩, g6⟩ := h5
  simp [Cond.before, Cond.holds, Cond.value, h1, h2, h3, h4, g1, g2, g3, g4, g5, g6]
def isCode : Jvm.Cond → Bool
  | .code _ _ _ _ => true
  | _ => false
theorem all_split {L : List Jvm.Cond} {P : Jvm.Cond → Bool} (h1 : L.all (fun c => isCode c || P c) = true) (h2 : ∀ c ∈ L.filter isCode, P c = true) : L.all P = true := by
  refine List.all_eq_true.mpr fun c hc => ?_
  have h := List.all_eq_true.mp h1 c hc
  rcases Bool.eq_false_or_eq_true (isCode c) with hi | hi
  · exact h2 c (List.mem_filter.mpr ⟨hc, hi⟩)
  · simpa [hi] using h
set_option maxRecDepth 65536 in
theorem w_c0 : (Jvm.Cond.code x code maxLocals ret).before args0 about1 = true := code_word (m := ⟨1, 1⟩) (meth := k1m1) (c := k1c1) (by decide +kernel) rfl rfl rfl (by decide +kernel)
set_option maxRecDepth 65536 in
theorem w_c1 : (Jvm.Cond.code ({ cls := "com/example/tight_bounds/tightbounds/model/StateLayout", name := "<init>", desc := "([I[I)V" } : Jvm.MethodName) prog_77_method_1_code (9 : Nat) (Option.none : Option Jvm.ClassFile.FieldType)).before args0 about1 = true := code_word (m := ⟨2, 0⟩) (meth := k2m0) (c := k2c0) (by decide +kernel) rfl rfl rfl (by decide +kernel)
set_option maxRecDepth 65536 in
theorem w_c2 : (Jvm.Cond.code ({ cls := "java/lang/Object", name := "<init>", desc := "()V" } : Jvm.MethodName) object_method_1_code (1 : Nat) (Option.none : Option Jvm.ClassFile.FieldType)).before args0 about1 = true := code_word (m := ⟨0, 0⟩) (meth := k0m0) (c := k0c0) (by decide +kernel) rfl rfl rfl (by decide +kernel)
set_option maxRecDepth 65536 in
theorem w_c3 : (Jvm.Cond.code ({ cls := "com/example/tight_bounds/tightbounds/model/StateLayout", name := "apply", desc := "([JI[JI)V" } : Jvm.MethodName) prog_77_method_10_code (6 : Nat) (Option.none : Option Jvm.ClassFile.FieldType)).before args0 about1 = true := code_word (m := ⟨2, 1⟩) (meth := k2m1) (c := k2c1) (by decide +kernel) rfl rfl rfl (by decide +kernel)
set_option maxRecDepth 65536 in
theorem w_c4 : (Jvm.Cond.code ({ cls := "com/example/tight_bounds/tightbounds/model/StateLayoutApplyPinLaw", name := "ok", desc := "(JJ[JIIII)Z" } : Jvm.MethodName) method_3_code (10 : Nat) (Option.some Jvm.ClassFile.FieldType.boolean)).before args0 about1 = true := code_word (m := ⟨1, 2⟩) (meth := k1m2) (c := k1c2) (by decide +kernel) rfl rfl rfl (by decide +kernel)
set_option maxRecDepth 65536 in
theorem w_c5 : (Jvm.Cond.code ({ cls := "java/lang/Long", name := "numberOfLeadingZeros", desc := "(J)I" } : Jvm.MethodName) jdk_35_method_48_code (3 : Nat) (Option.some Jvm.ClassFile.FieldType.int)).before args0 about1 = true := code_word (m := ⟨9, 0⟩) (meth := k9m0) (c := k9c0) (by decide +kernel) rfl rfl rfl (by decide +kernel)
set_option maxRecDepth 65536 in
theorem w_c6 : (Jvm.Cond.code ({ cls := "java/lang/Integer", name := "numberOfLeadingZeros", desc := "(I)I" } : Jvm.MethodName) jdk_33_method_47_code (2 : Nat) (Option.some Jvm.ClassFile.FieldType.int)).before args0 about1 = true := code_word (m := ⟨10, 0⟩) (meth := k10m0) (c := k10c0) (by decide +kernel) rfl rfl rfl (by decide +kernel)
def codes1 : List Jvm.Cond := [Jvm.Cond.code x code maxLocals ret, Jvm.Cond.code ({ cls := "com/example/tight_bounds/tightbounds/model/StateLayout", name := "<init>", desc := "([I[I)V" } : Jvm.MethodName) prog_77_method_1_code (9 : Nat) (Option.none : Option Jvm.ClassFile.FieldType), Jvm.Cond.code ({ cls := "java/lang/Object", name := "<init>", desc := "()V" } : Jvm.MethodName) object_method_1_code (1 : Nat) (Option.none : Option Jvm.ClassFile.FieldType), Jvm.Cond.code ({ cls := "com/example/tight_bounds/tightbounds/model/StateLayout", name := "apply", desc := "([JI[JI)V" } : Jvm.MethodName) prog_77_method_10_code (6 : Nat) (Option.none : Option Jvm.ClassFile.FieldType), Jvm.Cond.code ({ cls := "com/example/tight_bounds/tightbounds/model/StateLayoutApplyPinLaw", name := "ok", desc := "(JJ[JIIII)Z" } : Jvm.MethodName) method_3_code (10 : Nat) (Option.some Jvm.ClassFile.FieldType.boolean), Jvm.Cond.code ({ cls := "java/lang/Long", name := "numberOfLeadingZeros", desc := "(J)I" } : Jvm.MethodName) jdk_35_method_48_code (3 : Nat) (Option.some Jvm.ClassFile.FieldType.int), Jvm.Cond.code ({ cls := "java/lang/Integer", name := "numberOfLeadingZeros", desc := "(I)I" } : Jvm.MethodName) jdk_33_method_47_code (2 : Nat) (Option.some Jvm.ClassFile.FieldType.int)]
set_option maxRecDepth 65536 in
theorem codes_eq : words1.filter isCode = codes1 := rfl
theorem w_codes : ∀ c ∈ words1.filter isCode, c.before args0 about1 = true := by
  rw [codes_eq]
  intro c hc
  simp only [codes1, List.mem_cons, List.not_mem_nil, or_false] at hc
  rcases hc with rfl | rfl | rfl | rfl | rfl | rfl | rfl
  · exact w_c0
  · exact w_c1
  · exact w_c2
  · exact w_c3
  · exact w_c4
  · exact w_c5
  · exact w_c6
set_option maxRecDepth 65536 in
theorem w_t1 : (words1.take 24).all (fun c => isCode c || c.before args0 about1) = true := by decide +kernel
set_option maxRecDepth 65536 in
theorem w_t2 : ((words1.drop 24).take 24).all (fun c => isCode c || c.before args0 about1) = true := by decide +kernel
set_option maxRecDepth 65536 in
theorem w_t3 : ((words1.drop 24).drop 24).all (fun c => isCode c || c.before args0 about1) = true := by decide +kernel
theorem w_tables : (allAtoms (Jvm.Cond.code x code maxLocals ret :: tables_1)).before args0 about1 = true := by
  rw [allAtoms_all]
  show words1.all (fun c => c.before args0 about1) = true
  refine all_split ?_ w_codes
  rw [← List.take_append_drop 24 words1, List.all_append, w_t1, ← List.take_append_drop 24 (words1.drop 24), List.all_append, w_t2, w_t3]
  rfl
set_option maxRecDepth 65536 in
theorem w_case : (Jvm.Cond.and given_1 narrow_1).before args0 about1 = true := by decide +kernel
theorem w_applies : (headSpec (Jvm.Cond.code x code maxLocals ret :: tables_1) room_1).applies x e0.platform about1 = true :=
  (Spec.applies_iff w_frames).mpr ⟨w_running, w_runnable, w_alone, w_named, w_hears, w_ripe, w_room, w_tables⟩
theorem atStart : AtStart classFile x code maxLocals ret World_1 tables_1 room_1 Calls_1 rest_1 Pre_1 launch0 p0 e0 about1 theMethod args0 below0 :=
  ⟨lists_1, trivial, launch0.admits_env _ _ _, launch0.least_env, fairChoices_fair.cas, fairChoices_fair.clock, w_frames, w_args, w_heap, w_applies, trivial, trivial, w_case⟩
end start1
theorem witness_1 : WitnessClaimed_1 := ⟨start1.p0, start1.e0, start1.about1, start1.theMethod, start1.args0, start1.below0, start1.atStart⟩
end Jvm.Pilot.@@N@@
