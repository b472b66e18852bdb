import JvmDerived
import JvmDerived.Pilot.@@N@@Statement
import JvmDerived.Pilot.@@N@@Code
set_option linter.unusedVariables false
set_option linter.unusedSimpArgs false
@@BLOCK:NumsL.lean.txt@@
namespace Jvm.RoadKit
open Sem ClassFile Op Lib Jvm.Stand Jvm.Free Jvm.LawKit
section New
variable {p : Program} {l : Launch} {e : Env} {R : Room} {s : State} {m : MethodId} {args : Array Value} {below : List Frame} {meth : Method} {c : Code} {T : State} {locs : List Loc} {cells slots : Nat}
theorem retI (X : Stand p l e R s m args below meth c T locs cells slots) (hx : p.tables.exec = Jvm.exec) {pc : Nat} {Ls : Array Slot} {z : Int32} {rest : List Value} (hret : meth.sig.returnType = some .int) (hd : decode c.code pc = .ok (.ireturn, 1)) {fs : List Frame}
    (hl : ∀ (f : JFrame) (acts : List Action), f.method = m → f.locked = none → f.entered = [] → (doReturn e (T.setTop f) acts (some (.int z))).1 = T.setFrames fs) : Steps p.tables e below (T.setTop (mkF m pc Ls (.int z :: rest))) (T.setFrames fs) := by
  have hm' : T.vm.method? m = some meth := X.method'
  have hn : narrow .int (.int z) = .int z := rfl
  show Steps p.tables e below (T.setTop { method := m, pc := pc, locals := Ls, stack := _ :: rest, locked := none }) _
  jvm_step X.here [X.here.top, hx, hd, hm', hret, hn]
  first | (intro acts; rw [hl _ acts rfl rfl rfl]) | rw [hl _ _ rfl rfl rfl]
  exact Steps.refl _
end New
end Jvm.RoadKit
namespace Jvm.Pilot.@@N@@
open Jvm Jvm.ClassFile Sem Op Lib Jvm.Free Jvm.Stand Jvm.LawKit Jvm.RoadKit Bundle Jvm.Pilot.@@N@@.Jvm.D
/-- the int j is the place i -/
def own_ix (j : Int32) (i : Nat) : Prop := j.toInt = (i : Int)
/-- an array by its places: N of them, the j-th holds f j -/
def Ary (Z : State) (h : Heap) (a : Addr) (ty : FieldType) (N : Nat) (f : Nat → Value) : Prop := ∃ c : Cell, Arr Z h a c ty ∧ c.slots.size = N ∧ ∀ j, j < N → c.slots[j]? = some (f j)
def own_up (f : Nat → Value) (i : Nat) (v : Value) : Nat → Value := fun j => if j = i then v else f j
theorem own_up_at (f : Nat → Value) (i : Nat) (v : Value) : own_up f i v i = v := if_pos rfl
theorem own_up_ne (f : Nat → Value) {i j : Nat} (v : Value) (h : j ≠ i) : own_up f i v j = f j := if_neg h
theorem own_ixn {j : Int32} {i : Nat} (h : own_ix j i) : j.toNatClampNeg = i := by
  show j.toInt.toNat = i
  rw [show j.toInt = (i : Int) from h]; rfl
theorem own_ix0 {j : Int32} {i : Nat} (h : own_ix j i) : ¬ j < 0 := by
  rw [Int32.lt_iff_toInt_lt, show j.toInt = (i : Int) from h, show (0 : Int32).toInt = 0 from rfl]; omega
theorem own_ixc {i : Nat} (h : i < 2147483648) : own_ix (Int32.ofNat i) i := Int32.toInt_ofNat_of_lt (by omega)
theorem own_ixe {j : Int32} {i : Nat} (h : own_ix j i) : j = Int32.ofNat i := by
  apply Int32.toInt_inj.mp
  have hb := j.toInt_lt
  have h' : j.toInt = (i : Int) := h
  rw [Int32.toInt_ofNat_of_lt (by omega)]; exact h'
theorem own_ixa {j c : Int32} {i k : Nat} (h : own_ix j i) (hc : own_ix c k) (hb : i + k < 2147483648) : own_ix (j + c) (i + k) := by
  show (j + c).toInt = ((i + k : Nat) : Int)
  have h' : j.toInt = (i : Int) := h
  have hc' : c.toInt = (k : Int) := hc
  rw [Int32.toInt_add, h', hc', Int.bmod_eq_of_le (by omega) (by omega)]; omega
theorem own_ixs {j c : Int32} {i k : Nat} (h : own_ix j i) (hc : own_ix c k) (hb : k ≤ i) : own_ix (j - c) (i - k) := by
  show (j - c).toInt = ((i - k : Nat) : Int)
  have hj := j.toInt_lt
  have h' : j.toInt = (i : Int) := h
  have hc' : c.toInt = (k : Int) := hc
  rw [Int32.toInt_sub, h', hc', Int.bmod_eq_of_le (by omega) (by omega)]; omega
theorem own_ixm {j c : Int32} {i k : Nat} (h : own_ix j i) (hc : own_ix c k) (hb : k * i < 2147483648) : own_ix (c * j) (k * i) := by
  show (c * j).toInt = ((k * i : Nat) : Int)
  have h' : j.toInt = (i : Int) := h
  have hc' : c.toInt = (k : Int) := hc
  have e : (k : Int) * (i : Int) = ((k * i : Nat) : Int) := by simp
  rw [Int32.toInt_mul, h', hc', e, Int.bmod_eq_of_le (by omega) (by omega)]
theorem own_ixlt {j c : Int32} {i k : Nat} (h : own_ix j i) (hc : own_ix c k) : j < c ↔ i < k := by
  have h' : j.toInt = (i : Int) := h
  have hc' : c.toInt = (k : Int) := hc
  rw [Int32.lt_iff_toInt_lt, h', hc']; omega
theorem own_ixeq {j c : Int32} {i k : Nat} (h : own_ix j i) (hc : own_ix c k) : j = c ↔ i = k := by
  have h' : j.toInt = (i : Int) := h
  have hc' : c.toInt = (k : Int) := hc
  rw [← Int32.toInt_inj, h', hc']; omega
theorem own_exteq {h h' : Heap} (e : h' = h) : Ext h h' := by subst e; exact ⟨Nat.le_refl _, fun _ _ q => q⟩
theorem own_ni {a b : Addr} (h : a ≠ b) : a ∉ [b] := fun q => h (List.mem_singleton.mp q)
theorem Ary.lt {Z : State} {h : Heap} {a : Addr} {ty : FieldType} {N : Nat} {f : Nat → Value} (F : Ary Z h a ty N f) : a < h.size := by obtain ⟨c, A, -⟩ := F; exact A.lt
theorem Ary.ext {Z : State} {h h' : Heap} {a : Addr} {ty : FieldType} {N : Nat} {f : Nat → Value} (F : Ary Z h a ty N f) (E : Ext h h') : Ary Z h' a ty N f := by obtain ⟨c, A, r⟩ := F; exact ⟨c, A.ext E, r⟩
theorem Ary.other {Z : State} {h h' : Heap} {a b : Addr} {ty : FieldType} {N sl : Nat} {f : Nat → Value} {v : Value} (F : Ary Z h a ty N f) (W : Wr h h' b sl v) (q : a ≠ b) : Ary Z h' a ty N f := by obtain ⟨c, A, r⟩ := F; exact ⟨c, A.other W q, r⟩
theorem Ary.keep {Z : State} {h h' : Heap} {a : Addr} {ty : FieldType} {N : Nat} {f : Nat → Value} {ws : List Addr} (F : Ary Z h a ty N f) (K : Keep h h' ws) (q : a ∉ ws) : Ary Z h' a ty N f := by obtain ⟨c, A, r⟩ := F; exact ⟨c, ⟨K.2.1 a c A.1 q, A.2⟩, r⟩
theorem Ary.cong {Z : State} {h : Heap} {a : Addr} {ty : FieldType} {N : Nat} {f g : Nat → Value} (F : Ary Z h a ty N f) (q : ∀ j, j < N → f j = g j) : Ary Z h a ty N g := by obtain ⟨c, A, S, H⟩ := F; exact ⟨c, A, S, fun j hj => by rw [← q j hj]; exact H j hj⟩
theorem Ary.new {Z : State} {h : Heap} {a : Addr} {ty : FieldType} {N : Nat} {k : ClassId} {z : Int32} (A : Arr Z h a (newA k ty z) ty) (q : ¬ z < 0) (e : z.toNatClampNeg = N) : Ary Z h a ty N (fun _ => defaultValue ty) := by
  obtain ⟨c, A', -, S, -, H, -⟩ := Arv.new A q
  exact ⟨c, A', by rw [S, e], fun j hj => H j (by rw [S, e]; exact hj)⟩
theorem Ary.inn {c : Cell} {N i : Nat} {j : Int32} (S : c.slots.size = N) (ix : own_ix j i) (hi : i < N) : ¬ (j < 0 ∨ c.slots.size ≤ (j).toNatClampNeg) := by
  rw [S, own_ixn ix]
  exact fun q => q.elim (own_ix0 ix) (fun q => absurd hi (Nat.not_lt.mpr q))
theorem Ary.get {c : Cell} {N i : Nat} {j : Int32} {f : Nat → Value} (H : ∀ j, j < N → c.slots[j]? = some (f j)) (ix : own_ix j i) (hi : i < N) {v : Value} (hv : f i = v) : c.slots[(j).toNatClampNeg]? = some v := by
  rw [own_ixn ix, H i hi, hv]
theorem Ary.set {Z : State} {h h' : Heap} {a : Addr} {ty : FieldType} {N i : Nat} {f : Nat → Value} {c : Cell} {j : Int32} {v : Value} (A : Arr Z h a c ty) (S : c.slots.size = N) (H : ∀ j, j < N → c.slots[j]? = some (f j)) (W : Wr h h' a (j).toNatClampNeg v) (ix : own_ix j i) : Ary Z h' a ty N (own_up f i v) := by
  refine ⟨_, A.same W, by rw [sz_set]; exact S, fun k hk => ?_⟩
  rw [own_ixn ix]
  show (c.slots.setIfInBounds i v)[k]? = _
  rw [Array.getElem?_setIfInBounds]
  by_cases q : i = k
  · subst q
    rw [if_pos rfl, if_pos (by rw [S]; exact hk), own_up_at]
  · rw [if_neg q, own_up_ne f v (fun e => q e.symm)]
    exact H k hk
/-- the first k places hold bytes -/
def own_by (k : Nat) (g : Nat → Value) : Prop := ∀ j, j < k → ∃ w, g j = .int (nar .byte w)
theorem own_by0 (g : Nat → Value) : own_by 0 g := fun j hj => absurd hj (Nat.not_lt_zero j)
theorem own_bys {k : Nat} {g : Nat → Value} {w : Int32} (h : own_by k g) : own_by (k + 1) (own_up g k (.int (nar .byte w))) := fun j hj => by
  by_cases q : j = k
  · subst q; exact ⟨w, own_up_at _ _ _⟩
  · obtain ⟨w', hw⟩ := h j (by omega)
    exact ⟨w', by rw [own_up_ne _ _ q]; exact hw⟩
theorem own_nar2 (w : Int32) : nar .byte (nar .byte w) = nar .byte w := by simp [nar]
/-- of the n places the first k are copied -/
def own_cp (f g : Nat → Value) (o d n k : Nat) : Prop := ∀ j, j < k → j < n → g (d + j) = f (o + j)
theorem own_cps {f g : Nat → Value} {o d n k : Nat} {w : Int32} (P : own_cp f g o d n k) (hv : f (o + k) = .int (nar .byte w)) : own_cp f (own_up g (d + k) (.int (nar .byte (nar .byte w)))) o d n (k + 1) := fun j hj hn => by
  by_cases q : j = k
  · subst q; rw [own_up_at, own_nar2, hv]
  · rw [own_up_ne _ _ (by omega)]; exact P j (by omega) hn
theorem own_cpn {f g : Nat → Value} {o d n k : Nat} (P : own_cp f g o d n k) (h : ¬ k < n) : own_cp f g o d n (k + 1) := fun j hj hn => P j (by omega) hn
/-- the hash of k places from i on -/
def own_step (H : Int64) (w : Int32) : Int64 := (H ^^^ ((w &&& (255 : Int32)).toInt64)) * (1099511628211 : Int64)
def own_fold {A B : Type} (st : A → B → A) (F : Nat → B) : Nat → Nat → A → A
  | 0, _, H => H
  | k + 1, i, H => own_fold st F k (i + 1) (st H (F i))
theorem own_fold_succ {A B : Type} (st : A → B → A) (F : Nat → B) (k i : Nat) (H : A) : own_fold st F (k + 1) i H = own_fold st F k (i + 1) (st H (F i)) := rfl
theorem own_fold_last {A B : Type} (st : A → B → A) (F : Nat → B) : ∀ (k i : Nat) (H : A), own_fold st F (k + 1) i H = st (own_fold st F k i H) (F (i + k)) := by
  intro k
  induction k with
  | zero => intro i H; rfl
  | succ k ih =>
    intro i H
    rw [own_fold_succ, ih (i + 1), own_fold_succ, show i + 1 + k = i + (k + 1) by omega]
theorem own_fold_cong {A B : Type} (st : A → B → A) {F G : Nat → B} : ∀ (k i i' : Nat) (H : A), (∀ j, j < k → F (i + j) = G (i' + j)) → own_fold st F k i H = own_fold st G k i' H := by
  intro k
  induction k with
  | zero => intro i i' H _; rfl
  | succ k ih =>
    intro i i' H h
    rw [own_fold_succ, own_fold_succ, show F i = G i' from h 0 (by omega)]
    exact ih (i + 1) (i' + 1) _ (fun j hj => by rw [show i + 1 + j = i + (j + 1) by omega, show i' + 1 + j = i' + (j + 1) by omega]; exact h (j + 1) (by omega))
theorem own_fold_pred {A B : Type} (st : A → B → A) {F : Nat → B} {o : Nat} {H : A} (n : Nat) (hn : 0 < n) : own_fold st F n o H = st (own_fold st F (n - 1) o H) (F (o + n - 1)) := by
  obtain ⟨k, rfl⟩ : ∃ k, n = k + 1 := ⟨n - 1, by omega⟩
  exact own_fold_last st F k o H
theorem own_fold_0 {A B : Type} (st : A → B → A) {F : Nat → B} {o n : Nat} {H : A} (hn : n = 0) : own_fold st F n o H = H := by subst hn; rfl
def own_int : Value → Int32
  | .int w => w
  | _ => 0
theorem own_rem {x y : Int32} (hx : 0 ≤ x.toInt) {k : Nat} (hy : own_ix y k) (hk : 0 < k) : ∃ r : Nat, r < k ∧ own_ix (x - (x / y) * y) r := by
  have hy' : y.toInt = (k : Int) := hy
  have b1 := x.toInt_lt
  have b2 := y.toInt_lt
  have d0 : (x / y).toInt = x.toInt / (k : Int) := by
    rw [Int32.toInt_div, hy', Int.tdiv_eq_ediv_of_nonneg hx]
    have h1 : 0 ≤ x.toInt / (k : Int) := Int.ediv_nonneg hx (by omega)
    have h2 : x.toInt / (k : Int) ≤ x.toInt := Int.ediv_le_self _ hx
    exact Int.bmod_eq_of_le (by omega) (by omega)
  have e := Int.mul_ediv_add_emod x.toInt (k : Int)
  have m1 := Int.emod_nonneg x.toInt (b := (k : Int)) (by omega)
  have m2 := Int.emod_lt_of_pos x.toInt (b := (k : Int)) (by omega)
  have p0 : ((x / y) * y).toInt = (k : Int) * (x.toInt / (k : Int)) := by
    rw [Int32.toInt_mul, d0, hy', Int.mul_comm]
    exact Int.bmod_eq_of_le (by omega) (by omega)
  refine ⟨(x.toInt % (k : Int)).toNat, by omega, ?_⟩
  show (x - (x / y) * y).toInt = _
  rw [Int32.toInt_sub, p0, Int.bmod_eq_of_le (by omega) (by omega)]
  omega
theorem own_pos (x : Int32) : 0 ≤ (x &&& (2147483647 : Int32)).toInt := by
  have m : (x &&& (2147483647 : Int32)).toInt = x.toInt % 2 ^ 31 := Jvm.Kit.i32_mask x 2147483647 (k := 31) (by decide) (by decide)
  omega
theorem own_lc2 {x y : Int64} (h : x = y) : lcmpW x y = 0 := (lw_eq x y).mpr h
theorem d1_0 : decode method_3_code 0 = .ok (.aload_n 0, 1) := by decide +kernel
theorem d1_1 : decode method_3_code 1 = .ok (.iconst 0, 1) := by decide +kernel
theorem d1_2 : decode method_3_code 2 = .ok (.lload_n 1, 1) := by decide +kernel
theorem d1_3 : decode method_3_code 3 = .ok (.l2i, 1) := by decide +kernel
theorem d1_4 : decode method_3_code 4 = .ok (.i2b, 1) := by decide +kernel
theorem d1_5 : decode method_3_code 5 = .ok (.bastore, 1) := by decide +kernel
theorem d1_6 : decode method_3_code 6 = .ok (.aload_n 0, 1) := by decide +kernel
theorem d1_7 : decode method_3_code 7 = .ok (.iconst 1, 1) := by decide +kernel
theorem d1_8 : decode method_3_code 8 = .ok (.lload_n 1, 1) := by decide +kernel
theorem d1_9 : decode method_3_code 9 = .ok (.bipush 8, 2) := by decide +kernel
theorem d1_11 : decode method_3_code 11 = .ok (.lushr, 1) := by decide +kernel
theorem d1_12 : decode method_3_code 12 = .ok (.l2i, 1) := by decide +kernel
theorem d1_13 : decode method_3_code 13 = .ok (.i2b, 1) := by decide +kernel
theorem d1_14 : decode method_3_code 14 = .ok (.bastore, 1) := by decide +kernel
theorem d1_15 : decode method_3_code 15 = .ok (.aload_n 0, 1) := by decide +kernel
theorem d1_16 : decode method_3_code 16 = .ok (.iconst 2, 1) := by decide +kernel
theorem d1_17 : decode method_3_code 17 = .ok (.lload_n 1, 1) := by decide +kernel
theorem d1_18 : decode method_3_code 18 = .ok (.bipush 16, 2) := by decide +kernel
theorem d1_20 : decode method_3_code 20 = .ok (.lushr, 1) := by decide +kernel
theorem d1_21 : decode method_3_code 21 = .ok (.l2i, 1) := by decide +kernel
theorem d1_22 : decode method_3_code 22 = .ok (.i2b, 1) := by decide +kernel
theorem d1_23 : decode method_3_code 23 = .ok (.bastore, 1) := by decide +kernel
theorem d1_24 : decode method_3_code 24 = .ok (.aload_n 0, 1) := by decide +kernel
theorem d1_25 : decode method_3_code 25 = .ok (.iconst 3, 1) := by decide +kernel
theorem d1_26 : decode method_3_code 26 = .ok (.lload_n 1, 1) := by decide +kernel
theorem d1_27 : decode method_3_code 27 = .ok (.bipush 24, 2) := by decide +kernel
theorem d1_29 : decode method_3_code 29 = .ok (.lushr, 1) := by decide +kernel
theorem d1_30 : decode method_3_code 30 = .ok (.l2i, 1) := by decide +kernel
theorem d1_31 : decode method_3_code 31 = .ok (.i2b, 1) := by decide +kernel
theorem d1_32 : decode method_3_code 32 = .ok (.bastore, 1) := by decide +kernel
theorem d1_33 : decode method_3_code 33 = .ok (.aload_n 0, 1) := by decide +kernel
theorem d1_34 : decode method_3_code 34 = .ok (.iconst 4, 1) := by decide +kernel
theorem d1_35 : decode method_3_code 35 = .ok (.lload_n 1, 1) := by decide +kernel
theorem d1_36 : decode method_3_code 36 = .ok (.bipush 32, 2) := by decide +kernel
theorem d1_38 : decode method_3_code 38 = .ok (.lushr, 1) := by decide +kernel
theorem d1_39 : decode method_3_code 39 = .ok (.l2i, 1) := by decide +kernel
theorem d1_40 : decode method_3_code 40 = .ok (.i2b, 1) := by decide +kernel
theorem d1_41 : decode method_3_code 41 = .ok (.bastore, 1) := by decide +kernel
theorem d1_42 : decode method_3_code 42 = .ok (.aload_n 0, 1) := by decide +kernel
theorem d1_43 : decode method_3_code 43 = .ok (.iconst 5, 1) := by decide +kernel
theorem d1_44 : decode method_3_code 44 = .ok (.lload_n 1, 1) := by decide +kernel
theorem d1_45 : decode method_3_code 45 = .ok (.bipush 40, 2) := by decide +kernel
theorem d1_47 : decode method_3_code 47 = .ok (.lushr, 1) := by decide +kernel
theorem d1_48 : decode method_3_code 48 = .ok (.l2i, 1) := by decide +kernel
theorem d1_49 : decode method_3_code 49 = .ok (.i2b, 1) := by decide +kernel
theorem d1_50 : decode method_3_code 50 = .ok (.bastore, 1) := by decide +kernel
theorem d1_51 : decode method_3_code 51 = .ok (.aload_n 0, 1) := by decide +kernel
theorem d1_52 : decode method_3_code 52 = .ok (.bipush 6, 2) := by decide +kernel
theorem d1_54 : decode method_3_code 54 = .ok (.lload_n 1, 1) := by decide +kernel
theorem d1_55 : decode method_3_code 55 = .ok (.bipush 48, 2) := by decide +kernel
theorem d1_57 : decode method_3_code 57 = .ok (.lushr, 1) := by decide +kernel
theorem d1_58 : decode method_3_code 58 = .ok (.l2i, 1) := by decide +kernel
theorem d1_59 : decode method_3_code 59 = .ok (.i2b, 1) := by decide +kernel
theorem d1_60 : decode method_3_code 60 = .ok (.bastore, 1) := by decide +kernel
theorem d1_61 : decode method_3_code 61 = .ok (.aload_n 0, 1) := by decide +kernel
theorem d1_62 : decode method_3_code 62 = .ok (.bipush 7, 2) := by decide +kernel
theorem d1_64 : decode method_3_code 64 = .ok (.lload_n 1, 1) := by decide +kernel
theorem d1_65 : decode method_3_code 65 = .ok (.bipush 56, 2) := by decide +kernel
theorem d1_67 : decode method_3_code 67 = .ok (.lushr, 1) := by decide +kernel
theorem d1_68 : decode method_3_code 68 = .ok (.l2i, 1) := by decide +kernel
theorem d1_69 : decode method_3_code 69 = .ok (.i2b, 1) := by decide +kernel
theorem d1_70 : decode method_3_code 70 = .ok (.bastore, 1) := by decide +kernel
theorem d1_71 : decode method_3_code 71 = .ok (.return_, 1) := by decide +kernel
theorem pn_1 : plainName "com/example/patras/patras/BloomFilterHashPinLaw" = true := by first | (simp [plainName, overriddenIn]; done) | decide +kernel
theorem ef_1 (m : MethodId) (x0 : Addr) (x1 : Int64) : entryFrame m #[(.ref x0), (.long x1)] 3 = mkF m 0 #[.val (.ref x0), .val (.long x1), .second] [] := by first | (simp [entryFrame, mkF, argsToLocals, Value.category]; done) | rfl
def Q1 (Z : State) (a1 : Addr) (q2 : Int64) (N_a1 : Nat) (f_a1 : Nat → Value) (h0 : Heap) (n0 : Nat) (v : Option Value) (h : Heap) (L : List Loc) : Prop := v = none ∧ Fr n0 L ∧ Keep h0 h [a1] ∧ ∃ g, Ary Z h a1 .byte N_a1 g ∧ own_by 8 g
set_option maxRecDepth 65536 in
set_option maxHeartbeats 40000000 in
theorem rm1 (l : Launch) (Z : State) (a0 : Array Value) (hw : ∀ d ∈ tables_1, d.before a0 Z = true) (ws : List Jvm.Cond) (a1 : Addr) (q2 : Int64) (N_a1 : Nat) (f_a1 : Nat → Value) (h0 : Heap) (n0 : Nat) (Z0 : n0 ≤ h0.size) (h8 : 8 ≤ N_a1) (V_a1 : Ary Z h0 a1 .byte N_a1 f_a1) (g_a1 : n0 ≤ a1) :
    MetFree l (⟨"com/example/patras/patras/BloomFilterHashPinLaw", "fill", "([BJ)V"⟩ : MethodName) (head1 (Jvm.Cond.code (⟨"com/example/patras/patras/BloomFilterHashPinLaw", "fill", "([BJ)V"⟩ : MethodName) method_3_code 3 none :: ws) ({ frames := 0, cells := 0, slots := 0, locals := 0 } : Room)) (fun a U => a = #[(.ref a1), (.long q2)] ∧ Z.Warmed39 U.vm ∧ U.heap = h0) (fun _ _ _ _ _ => True) (fun _ U o U' => ∃ v L, o = .returned v ∧ Q1 Z a1 q2 N_a1 f_a1 h0 n0 v U'.heap L ∧ FrameEnd U o U' L ({ frames := 0, cells := 0, slots := 0, locals := 0 } : Room).cells ({ frames := 0, cells := 0, slots := 0, locals := 0 } : Room).slots) := by
  refine MetFree.of_bodySF (plainFor_of_name pn_1) hisR ?_
  intro p e s m args below meth c s₁ Bd hml0 hP hK
  obtain ⟨rfl, hZ, hh⟩ := hP
  have hx := Bd.exec
  have hby := Bd.bytes
  have hml : c.maxLocals = 3 := hml0
  have hown : s.vm.findClass "com/example/patras/patras/BloomFilterHashPinLaw" = some m.cls := findClass_of_methodNamed Bd.named
  have hnm := (name_of_methodNamed Bd.named Bd.method).1
  have X0 : Stand p l e ({ frames := 0, cells := 0, slots := 0, locals := 0 } : Room) s m #[(.ref a1), (.long q2)] below meth c s₁ [] 0 0 := Stand.of_body Bd
  have e0 : s₁.heap = h0 := by rw [← hh, Bd.state]; rfl
  have N0 := Fr.nil n0
  have pre0 : ∀ t, Steps p.tables e below (s₁.setTop (mkF m 0 #[.val (.ref a1), .val (.long q2), .second] [])) t → Steps p.tables e below (s₁.setTop (entryFrame m #[(.ref a1), (.long q2)] 3)) t := fun t k => castTop (ef_1 m a1 q2) k
  obtain ⟨cl_5, Ar_5, S_5, H_5⟩ := id V_a1
  have hin5 := Ary.inn S_5 (show own_ix (0 : Int32) 0 from rfl) (by omega)
  obtain ⟨T3, h3, X3, e3, W3, st3⟩ := stB X0 hx hZ e0 Ar_5 (j := (0 : Int32)) hin5 (g := (mkF m 5 #[.val (.ref a1), .val (.long q2), .second] [(.int ((q2.toInt32).toInt8.toInt32)), (.int (0 : Int32)), (.ref a1)])) rfl rfl (hb hby d1_5)
  have V_a1_3 := Ary.set Ar_5 S_5 H_5 W3 (show own_ix (0 : Int32) 0 from rfl)
  have K3 : Keep h0 h3 [a1] := (Keep.refl h0 [a1]).wr W3 (Or.inl (List.mem_of_getElem? (i := 0) rfl))
  have N3 := Fr.snoc X3 N0 g_a1
  obtain ⟨cl_14, Ar_14, S_14, H_14⟩ := id V_a1_3
  have hin14 := Ary.inn S_14 (show own_ix (1 : Int32) 1 from rfl) (by omega)
  obtain ⟨T4, h4, X4, e4, W4, st4⟩ := stB X3 hx hZ e3 Ar_14 (j := (1 : Int32)) hin14 (g := (mkF m 14 #[.val (.ref a1), .val (.long q2), .second] [(.int ((((q2.toUInt64 >>> ((8 : Int32) &&& 0x3f).toInt64.toUInt64).toInt64).toInt32).toInt8.toInt32)), (.int (1 : Int32)), (.ref a1)])) rfl rfl (hb hby d1_14)
  have V_a1_4 := Ary.set Ar_14 S_14 H_14 W4 (show own_ix (1 : Int32) 1 from rfl)
  have K4 : Keep h0 h4 [a1] := K3.wr W4 (Or.inl (List.mem_of_getElem? (i := 0) rfl))
  have N4 := Fr.snoc X4 N3 g_a1
  obtain ⟨cl_23, Ar_23, S_23, H_23⟩ := id V_a1_4
  have hin23 := Ary.inn S_23 (show own_ix (2 : Int32) 2 from rfl) (by omega)
  obtain ⟨T5, h5, X5, e5, W5, st5⟩ := stB X4 hx hZ e4 Ar_23 (j := (2 : Int32)) hin23 (g := (mkF m 23 #[.val (.ref a1), .val (.long q2), .second] [(.int ((((q2.toUInt64 >>> ((16 : Int32) &&& 0x3f).toInt64.toUInt64).toInt64).toInt32).toInt8.toInt32)), (.int (2 : Int32)), (.ref a1)])) rfl rfl (hb hby d1_23)
  have V_a1_5 := Ary.set Ar_23 S_23 H_23 W5 (show own_ix (2 : Int32) 2 from rfl)
  have K5 : Keep h0 h5 [a1] := K4.wr W5 (Or.inl (List.mem_of_getElem? (i := 0) rfl))
  have N5 := Fr.snoc X5 N4 g_a1
  obtain ⟨cl_32, Ar_32, S_32, H_32⟩ := id V_a1_5
  have hin32 := Ary.inn S_32 (show own_ix (3 : Int32) 3 from rfl) (by omega)
  obtain ⟨T6, h6, X6, e6, W6, st6⟩ := stB X5 hx hZ e5 Ar_32 (j := (3 : Int32)) hin32 (g := (mkF m 32 #[.val (.ref a1), .val (.long q2), .second] [(.int ((((q2.toUInt64 >>> ((24 : Int32) &&& 0x3f).toInt64.toUInt64).toInt64).toInt32).toInt8.toInt32)), (.int (3 : Int32)), (.ref a1)])) rfl rfl (hb hby d1_32)
  have V_a1_6 := Ary.set Ar_32 S_32 H_32 W6 (show own_ix (3 : Int32) 3 from rfl)
  have K6 : Keep h0 h6 [a1] := K5.wr W6 (Or.inl (List.mem_of_getElem? (i := 0) rfl))
  have N6 := Fr.snoc X6 N5 g_a1
  obtain ⟨cl_41, Ar_41, S_41, H_41⟩ := id V_a1_6
  have hin41 := Ary.inn S_41 (show own_ix (4 : Int32) 4 from rfl) (by omega)
  obtain ⟨T7, h7, X7, e7, W7, st7⟩ := stB X6 hx hZ e6 Ar_41 (j := (4 : Int32)) hin41 (g := (mkF m 41 #[.val (.ref a1), .val (.long q2), .second] [(.int ((((q2.toUInt64 >>> ((32 : Int32) &&& 0x3f).toInt64.toUInt64).toInt64).toInt32).toInt8.toInt32)), (.int (4 : Int32)), (.ref a1)])) rfl rfl (hb hby d1_41)
  have V_a1_7 := Ary.set Ar_41 S_41 H_41 W7 (show own_ix (4 : Int32) 4 from rfl)
  have K7 : Keep h0 h7 [a1] := K6.wr W7 (Or.inl (List.mem_of_getElem? (i := 0) rfl))
  have N7 := Fr.snoc X7 N6 g_a1
  obtain ⟨cl_50, Ar_50, S_50, H_50⟩ := id V_a1_7
  have hin50 := Ary.inn S_50 (show own_ix (5 : Int32) 5 from rfl) (by omega)
  obtain ⟨T8, h8, X8, e8, W8, st8⟩ := stB X7 hx hZ e7 Ar_50 (j := (5 : Int32)) hin50 (g := (mkF m 50 #[.val (.ref a1), .val (.long q2), .second] [(.int ((((q2.toUInt64 >>> ((40 : Int32) &&& 0x3f).toInt64.toUInt64).toInt64).toInt32).toInt8.toInt32)), (.int (5 : Int32)), (.ref a1)])) rfl rfl (hb hby d1_50)
  have V_a1_8 := Ary.set Ar_50 S_50 H_50 W8 (show own_ix (5 : Int32) 5 from rfl)
  have K8 : Keep h0 h8 [a1] := K7.wr W8 (Or.inl (List.mem_of_getElem? (i := 0) rfl))
  have N8 := Fr.snoc X8 N7 g_a1
  obtain ⟨cl_60, Ar_60, S_60, H_60⟩ := id V_a1_8
  have hin60 := Ary.inn S_60 (show own_ix (6 : Int32) 6 from rfl) (by omega)
  obtain ⟨T9, h9, X9, e9, W9, st9⟩ := stB X8 hx hZ e8 Ar_60 (j := (6 : Int32)) hin60 (g := (mkF m 60 #[.val (.ref a1), .val (.long q2), .second] [(.int ((((q2.toUInt64 >>> ((48 : Int32) &&& 0x3f).toInt64.toUInt64).toInt64).toInt32).toInt8.toInt32)), (.int (6 : Int32)), (.ref a1)])) rfl rfl (hb hby d1_60)
  have V_a1_9 := Ary.set Ar_60 S_60 H_60 W9 (show own_ix (6 : Int32) 6 from rfl)
  have K9 : Keep h0 h9 [a1] := K8.wr W9 (Or.inl (List.mem_of_getElem? (i := 0) rfl))
  have N9 := Fr.snoc X9 N8 g_a1
  obtain ⟨cl_70, Ar_70, S_70, H_70⟩ := id V_a1_9
  have hin70 := Ary.inn S_70 (show own_ix (7 : Int32) 7 from rfl) (by omega)
  obtain ⟨T10, h10, X10, e10, W10, st10⟩ := stB X9 hx hZ e9 Ar_70 (j := (7 : Int32)) hin70 (g := (mkF m 70 #[.val (.ref a1), .val (.long q2), .second] [(.int ((((q2.toUInt64 >>> ((56 : Int32) &&& 0x3f).toInt64.toUInt64).toInt64).toInt32).toInt8.toInt32)), (.int (7 : Int32)), (.ref a1)])) rfl rfl (hb hby d1_70)
  have V_a1_10 := Ary.set Ar_70 S_70 H_70 W10 (show own_ix (7 : Int32) 7 from rfl)
  have K10 : Keep h0 h10 [a1] := K9.wr W10 (Or.inl (List.mem_of_getElem? (i := 0) rfl))
  have N10 := Fr.snoc X10 N9 g_a1
  obtain ⟨fs, hr, hrun, hended, hW, hsame⟩ := X10.leave (v := none) (fun _ => rfl)
  refine ⟨_, _, pre0 _ ?_, hrun, hended, _, _, rfl, ?_, ⟨_, rfl⟩, hW, hsame.mono (by decide) (by decide)⟩
  · show Steps p.tables e below (s₁.setTop (mkF m 0 #[.val (.ref a1), .val (.long q2), .second] [])) _
    refine XS.aloadN X0.here hx rfl (hb hby d1_0) rfl rfl ?_
    show Steps p.tables e below (s₁.setTop (mkF m 1 #[.val (.ref a1), .val (.long q2), .second] [(.ref a1)])) _
    refine XS.iconst X0.here hx rfl (hb hby d1_1) ?_
    show Steps p.tables e below (s₁.setTop (mkF m 2 #[.val (.ref a1), .val (.long q2), .second] [(.int (0 : Int32)), (.ref a1)])) _
    refine XS.lloadN X0.here hx rfl (hb hby d1_2) rfl ?_
    show Steps p.tables e below (s₁.setTop (mkF m 3 #[.val (.ref a1), .val (.long q2), .second] [(.long q2), (.int (0 : Int32)), (.ref a1)])) _
    refine XS.l2i X0.here hx rfl (hb hby d1_3) rfl ?_
    show Steps p.tables e below (s₁.setTop (mkF m 4 #[.val (.ref a1), .val (.long q2), .second] [(.int (q2.toInt32)), (.int (0 : Int32)), (.ref a1)])) _
    refine XS.i2b X0.here hx rfl (hb hby d1_4) rfl ?_
    show Steps p.tables e below (s₁.setTop (mkF m 5 #[.val (.ref a1), .val (.long q2), .second] [(.int ((q2.toInt32).toInt8.toInt32)), (.int (0 : Int32)), (.ref a1)])) _
    refine st3 _ ?_
    show Steps p.tables e below (T3.setTop (mkF m 6 #[.val (.ref a1), .val (.long q2), .second] [])) _
    refine XS.aloadN X3.here hx rfl (hb hby d1_6) rfl rfl ?_
    show Steps p.tables e below (T3.setTop (mkF m 7 #[.val (.ref a1), .val (.long q2), .second] [(.ref a1)])) _
    refine XS.iconst X3.here hx rfl (hb hby d1_7) ?_
    show Steps p.tables e below (T3.setTop (mkF m 8 #[.val (.ref a1), .val (.long q2), .second] [(.int (1 : Int32)), (.ref a1)])) _
    refine XS.lloadN X3.here hx rfl (hb hby d1_8) rfl ?_
    show Steps p.tables e below (T3.setTop (mkF m 9 #[.val (.ref a1), .val (.long q2), .second] [(.long q2), (.int (1 : Int32)), (.ref a1)])) _
    refine XS.bipush X3.here hx rfl (hb hby d1_9) ?_
    show Steps p.tables e below (T3.setTop (mkF m 11 #[.val (.ref a1), .val (.long q2), .second] [(.int (8 : Int32)), (.long q2), (.int (1 : Int32)), (.ref a1)])) _
    refine XS.lushr X3.here hx rfl (hb hby d1_11) rfl ?_
    show Steps p.tables e below (T3.setTop (mkF m 12 #[.val (.ref a1), .val (.long q2), .second] [(.long ((q2.toUInt64 >>> ((8 : Int32) &&& 0x3f).toInt64.toUInt64).toInt64)), (.int (1 : Int32)), (.ref a1)])) _
    refine XS.l2i X3.here hx rfl (hb hby d1_12) rfl ?_
    show Steps p.tables e below (T3.setTop (mkF m 13 #[.val (.ref a1), .val (.long q2), .second] [(.int (((q2.toUInt64 >>> ((8 : Int32) &&& 0x3f).toInt64.toUInt64).toInt64).toInt32)), (.int (1 : Int32)), (.ref a1)])) _
    refine XS.i2b X3.here hx rfl (hb hby d1_13) rfl ?_
    show Steps p.tables e below (T3.setTop (mkF m 14 #[.val (.ref a1), .val (.long q2), .second] [(.int ((((q2.toUInt64 >>> ((8 : Int32) &&& 0x3f).toInt64.toUInt64).toInt64).toInt32).toInt8.toInt32)), (.int (1 : Int32)), (.ref a1)])) _
    refine st4 _ ?_
    show Steps p.tables e below (T4.setTop (mkF m 15 #[.val (.ref a1), .val (.long q2), .second] [])) _
    refine XS.aloadN X4.here hx rfl (hb hby d1_15) rfl rfl ?_
    show Steps p.tables e below (T4.setTop (mkF m 16 #[.val (.ref a1), .val (.long q2), .second] [(.ref a1)])) _
    refine XS.iconst X4.here hx rfl (hb hby d1_16) ?_
    show Steps p.tables e below (T4.setTop (mkF m 17 #[.val (.ref a1), .val (.long q2), .second] [(.int (2 : Int32)), (.ref a1)])) _
    refine XS.lloadN X4.here hx rfl (hb hby d1_17) rfl ?_
    show Steps p.tables e below (T4.setTop (mkF m 18 #[.val (.ref a1), .val (.long q2), .second] [(.long q2), (.int (2 : Int32)), (.ref a1)])) _
    refine XS.bipush X4.here hx rfl (hb hby d1_18) ?_
    show Steps p.tables e below (T4.setTop (mkF m 20 #[.val (.ref a1), .val (.long q2), .second] [(.int (16 : Int32)), (.long q2), (.int (2 : Int32)), (.ref a1)])) _
    refine XS.lushr X4.here hx rfl (hb hby d1_20) rfl ?_
    show Steps p.tables e below (T4.setTop (mkF m 21 #[.val (.ref a1), .val (.long q2), .second] [(.long ((q2.toUInt64 >>> ((16 : Int32) &&& 0x3f).toInt64.toUInt64).toInt64)), (.int (2 : Int32)), (.ref a1)])) _
    refine XS.l2i X4.here hx rfl (hb hby d1_21) rfl ?_
    show Steps p.tables e below (T4.setTop (mkF m 22 #[.val (.ref a1), .val (.long q2), .second] [(.int (((q2.toUInt64 >>> ((16 : Int32) &&& 0x3f).toInt64.toUInt64).toInt64).toInt32)), (.int (2 : Int32)), (.ref a1)])) _
    refine XS.i2b X4.here hx rfl (hb hby d1_22) rfl ?_
    show Steps p.tables e below (T4.setTop (mkF m 23 #[.val (.ref a1), .val (.long q2), .second] [(.int ((((q2.toUInt64 >>> ((16 : Int32) &&& 0x3f).toInt64.toUInt64).toInt64).toInt32).toInt8.toInt32)), (.int (2 : Int32)), (.ref a1)])) _
    refine st5 _ ?_
    show Steps p.tables e below (T5.setTop (mkF m 24 #[.val (.ref a1), .val (.long q2), .second] [])) _
    refine XS.aloadN X5.here hx rfl (hb hby d1_24) rfl rfl ?_
    show Steps p.tables e below (T5.setTop (mkF m 25 #[.val (.ref a1), .val (.long q2), .second] [(.ref a1)])) _
    refine XS.iconst X5.here hx rfl (hb hby d1_25) ?_
    show Steps p.tables e below (T5.setTop (mkF m 26 #[.val (.ref a1), .val (.long q2), .second] [(.int (3 : Int32)), (.ref a1)])) _
    refine XS.lloadN X5.here hx rfl (hb hby d1_26) rfl ?_
    show Steps p.tables e below (T5.setTop (mkF m 27 #[.val (.ref a1), .val (.long q2), .second] [(.long q2), (.int (3 : Int32)), (.ref a1)])) _
    refine XS.bipush X5.here hx rfl (hb hby d1_27) ?_
    show Steps p.tables e below (T5.setTop (mkF m 29 #[.val (.ref a1), .val (.long q2), .second] [(.int (24 : Int32)), (.long q2), (.int (3 : Int32)), (.ref a1)])) _
    refine XS.lushr X5.here hx rfl (hb hby d1_29) rfl ?_
    show Steps p.tables e below (T5.setTop (mkF m 30 #[.val (.ref a1), .val (.long q2), .second] [(.long ((q2.toUInt64 >>> ((24 : Int32) &&& 0x3f).toInt64.toUInt64).toInt64)), (.int (3 : Int32)), (.ref a1)])) _
    refine XS.l2i X5.here hx rfl (hb hby d1_30) rfl ?_
    show Steps p.tables e below (T5.setTop (mkF m 31 #[.val (.ref a1), .val (.long q2), .second] [(.int (((q2.toUInt64 >>> ((24 : Int32) &&& 0x3f).toInt64.toUInt64).toInt64).toInt32)), (.int (3 : Int32)), (.ref a1)])) _
    refine XS.i2b X5.here hx rfl (hb hby d1_31) rfl ?_
    show Steps p.tables e below (T5.setTop (mkF m 32 #[.val (.ref a1), .val (.long q2), .second] [(.int ((((q2.toUInt64 >>> ((24 : Int32) &&& 0x3f).toInt64.toUInt64).toInt64).toInt32).toInt8.toInt32)), (.int (3 : Int32)), (.ref a1)])) _
    refine st6 _ ?_
    show Steps p.tables e below (T6.setTop (mkF m 33 #[.val (.ref a1), .val (.long q2), .second] [])) _
    refine XS.aloadN X6.here hx rfl (hb hby d1_33) rfl rfl ?_
    show Steps p.tables e below (T6.setTop (mkF m 34 #[.val (.ref a1), .val (.long q2), .second] [(.ref a1)])) _
    refine XS.iconst X6.here hx rfl (hb hby d1_34) ?_
    show Steps p.tables e below (T6.setTop (mkF m 35 #[.val (.ref a1), .val (.long q2), .second] [(.int (4 : Int32)), (.ref a1)])) _
    refine XS.lloadN X6.here hx rfl (hb hby d1_35) rfl ?_
    show Steps p.tables e below (T6.setTop (mkF m 36 #[.val (.ref a1), .val (.long q2), .second] [(.long q2), (.int (4 : Int32)), (.ref a1)])) _
    refine XS.bipush X6.here hx rfl (hb hby d1_36) ?_
    show Steps p.tables e below (T6.setTop (mkF m 38 #[.val (.ref a1), .val (.long q2), .second] [(.int (32 : Int32)), (.long q2), (.int (4 : Int32)), (.ref a1)])) _
    refine XS.lushr X6.here hx rfl (hb hby d1_38) rfl ?_
    show Steps p.tables e below (T6.setTop (mkF m 39 #[.val (.ref a1), .val (.long q2), .second] [(.long ((q2.toUInt64 >>> ((32 : Int32) &&& 0x3f).toInt64.toUInt64).toInt64)), (.int (4 : Int32)), (.ref a1)])) _
    refine XS.l2i X6.here hx rfl (hb hby d1_39) rfl ?_
    show Steps p.tables e below (T6.setTop (mkF m 40 #[.val (.ref a1), .val (.long q2), .second] [(.int (((q2.toUInt64 >>> ((32 : Int32) &&& 0x3f).toInt64.toUInt64).toInt64).toInt32)), (.int (4 : Int32)), (.ref a1)])) _
    refine XS.i2b X6.here hx rfl (hb hby d1_40) rfl ?_
    show Steps p.tables e below (T6.setTop (mkF m 41 #[.val (.ref a1), .val (.long q2), .second] [(.int ((((q2.toUInt64 >>> ((32 : Int32) &&& 0x3f).toInt64.toUInt64).toInt64).toInt32).toInt8.toInt32)), (.int (4 : Int32)), (.ref a1)])) _
    refine st7 _ ?_
    show Steps p.tables e below (T7.setTop (mkF m 42 #[.val (.ref a1), .val (.long q2), .second] [])) _
    refine XS.aloadN X7.here hx rfl (hb hby d1_42) rfl rfl ?_
    show Steps p.tables e below (T7.setTop (mkF m 43 #[.val (.ref a1), .val (.long q2), .second] [(.ref a1)])) _
    refine XS.iconst X7.here hx rfl (hb hby d1_43) ?_
    show Steps p.tables e below (T7.setTop (mkF m 44 #[.val (.ref a1), .val (.long q2), .second] [(.int (5 : Int32)), (.ref a1)])) _
    refine XS.lloadN X7.here hx rfl (hb hby d1_44) rfl ?_
    show Steps p.tables e below (T7.setTop (mkF m 45 #[.val (.ref a1), .val (.long q2), .second] [(.long q2), (.int (5 : Int32)), (.ref a1)])) _
    refine XS.bipush X7.here hx rfl (hb hby d1_45) ?_
    show Steps p.tables e below (T7.setTop (mkF m 47 #[.val (.ref a1), .val (.long q2), .second] [(.int (40 : Int32)), (.long q2), (.int (5 : Int32)), (.ref a1)])) _
    refine XS.lushr X7.here hx rfl (hb hby d1_47) rfl ?_
    show Steps p.tables e below (T7.setTop (mkF m 48 #[.val (.ref a1), .val (.long q2), .second] [(.long ((q2.toUInt64 >>> ((40 : Int32) &&& 0x3f).toInt64.toUInt64).toInt64)), (.int (5 : Int32)), (.ref a1)])) _
    refine XS.l2i X7.here hx rfl (hb hby d1_48) rfl ?_
    show Steps p.tables e below (T7.setTop (mkF m 49 #[.val (.ref a1), .val (.long q2), .second] [(.int (((q2.toUInt64 >>> ((40 : Int32) &&& 0x3f).toInt64.toUInt64).toInt64).toInt32)), (.int (5 : Int32)), (.ref a1)])) _
    refine XS.i2b X7.here hx rfl (hb hby d1_49) rfl ?_
    show Steps p.tables e below (T7.setTop (mkF m 50 #[.val (.ref a1), .val (.long q2), .second] [(.int ((((q2.toUInt64 >>> ((40 : Int32) &&& 0x3f).toInt64.toUInt64).toInt64).toInt32).toInt8.toInt32)), (.int (5 : Int32)), (.ref a1)])) _
    refine st8 _ ?_
    show Steps p.tables e below (T8.setTop (mkF m 51 #[.val (.ref a1), .val (.long q2), .second] [])) _
    refine XS.aloadN X8.here hx rfl (hb hby d1_51) rfl rfl ?_
    show Steps p.tables e below (T8.setTop (mkF m 52 #[.val (.ref a1), .val (.long q2), .second] [(.ref a1)])) _
    refine XS.bipush X8.here hx rfl (hb hby d1_52) ?_
    show Steps p.tables e below (T8.setTop (mkF m 54 #[.val (.ref a1), .val (.long q2), .second] [(.int (6 : Int32)), (.ref a1)])) _
    refine XS.lloadN X8.here hx rfl (hb hby d1_54) rfl ?_
    show Steps p.tables e below (T8.setTop (mkF m 55 #[.val (.ref a1), .val (.long q2), .second] [(.long q2), (.int (6 : Int32)), (.ref a1)])) _
    refine XS.bipush X8.here hx rfl (hb hby d1_55) ?_
    show Steps p.tables e below (T8.setTop (mkF m 57 #[.val (.ref a1), .val (.long q2), .second] [(.int (48 : Int32)), (.long q2), (.int (6 : Int32)), (.ref a1)])) _
    refine XS.lushr X8.here hx rfl (hb hby d1_57) rfl ?_
    show Steps p.tables e below (T8.setTop (mkF m 58 #[.val (.ref a1), .val (.long q2), .second] [(.long ((q2.toUInt64 >>> ((48 : Int32) &&& 0x3f).toInt64.toUInt64).toInt64)), (.int (6 : Int32)), (.ref a1)])) _
    refine XS.l2i X8.here hx rfl (hb hby d1_58) rfl ?_
    show Steps p.tables e below (T8.setTop (mkF m 59 #[.val (.ref a1), .val (.long q2), .second] [(.int (((q2.toUInt64 >>> ((48 : Int32) &&& 0x3f).toInt64.toUInt64).toInt64).toInt32)), (.int (6 : Int32)), (.ref a1)])) _
    refine XS.i2b X8.here hx rfl (hb hby d1_59) rfl ?_
    show Steps p.tables e below (T8.setTop (mkF m 60 #[.val (.ref a1), .val (.long q2), .second] [(.int ((((q2.toUInt64 >>> ((48 : Int32) &&& 0x3f).toInt64.toUInt64).toInt64).toInt32).toInt8.toInt32)), (.int (6 : Int32)), (.ref a1)])) _
    refine st9 _ ?_
    show Steps p.tables e below (T9.setTop (mkF m 61 #[.val (.ref a1), .val (.long q2), .second] [])) _
    refine XS.aloadN X9.here hx rfl (hb hby d1_61) rfl rfl ?_
    show Steps p.tables e below (T9.setTop (mkF m 62 #[.val (.ref a1), .val (.long q2), .second] [(.ref a1)])) _
    refine XS.bipush X9.here hx rfl (hb hby d1_62) ?_
    show Steps p.tables e below (T9.setTop (mkF m 64 #[.val (.ref a1), .val (.long q2), .second] [(.int (7 : Int32)), (.ref a1)])) _
    refine XS.lloadN X9.here hx rfl (hb hby d1_64) rfl ?_
    show Steps p.tables e below (T9.setTop (mkF m 65 #[.val (.ref a1), .val (.long q2), .second] [(.long q2), (.int (7 : Int32)), (.ref a1)])) _
    refine XS.bipush X9.here hx rfl (hb hby d1_65) ?_
    show Steps p.tables e below (T9.setTop (mkF m 67 #[.val (.ref a1), .val (.long q2), .second] [(.int (56 : Int32)), (.long q2), (.int (7 : Int32)), (.ref a1)])) _
    refine XS.lushr X9.here hx rfl (hb hby d1_67) rfl ?_
    show Steps p.tables e below (T9.setTop (mkF m 68 #[.val (.ref a1), .val (.long q2), .second] [(.long ((q2.toUInt64 >>> ((56 : Int32) &&& 0x3f).toInt64.toUInt64).toInt64)), (.int (7 : Int32)), (.ref a1)])) _
    refine XS.l2i X9.here hx rfl (hb hby d1_68) rfl ?_
    show Steps p.tables e below (T9.setTop (mkF m 69 #[.val (.ref a1), .val (.long q2), .second] [(.int (((q2.toUInt64 >>> ((56 : Int32) &&& 0x3f).toInt64.toUInt64).toInt64).toInt32)), (.int (7 : Int32)), (.ref a1)])) _
    refine XS.i2b X9.here hx rfl (hb hby d1_69) rfl ?_
    show Steps p.tables e below (T9.setTop (mkF m 70 #[.val (.ref a1), .val (.long q2), .second] [(.int ((((q2.toUInt64 >>> ((56 : Int32) &&& 0x3f).toInt64.toUInt64).toInt64).toInt32).toInt8.toInt32)), (.int (7 : Int32)), (.ref a1)])) _
    refine st10 _ ?_
    show Steps p.tables e below (T10.setTop (mkF m 71 #[.val (.ref a1), .val (.long q2), .second] [])) _
    exact X10.returnOut hx Bd.returns (hb hby d1_71) hr
  · show Q1 Z a1 q2 N_a1 f_a1 h0 n0 _ T10.heap _
    rw [e10]
    exact ⟨rfl, N10, K10, _, V_a1_10, own_bys (own_bys (own_bys (own_bys (own_bys (own_bys (own_bys (own_bys (own_by0 _))))))))⟩
theorem d2_0 : decode method_4_code 0 = .ok (.iload 4, 2) := by decide +kernel
theorem d2_2 : decode method_4_code 2 = .ok (.ifCond .le 9, 3) := by decide +kernel
theorem d2_5 : decode method_4_code 5 = .ok (.aload_n 2, 1) := by decide +kernel
theorem d2_6 : decode method_4_code 6 = .ok (.iload_n 3, 1) := by decide +kernel
theorem d2_7 : decode method_4_code 7 = .ok (.aload_n 0, 1) := by decide +kernel
theorem d2_8 : decode method_4_code 8 = .ok (.iload_n 1, 1) := by decide +kernel
theorem d2_9 : decode method_4_code 9 = .ok (.baload, 1) := by decide +kernel
theorem d2_10 : decode method_4_code 10 = .ok (.bastore, 1) := by decide +kernel
set_option maxRecDepth 65536 in
set_option maxHeartbeats 40000000 in
theorem cpf_0 {p : Program} {l : Launch} {e : Env} {R : Room} {s : State} {m : MethodId} {args : Array Value} {below : List Frame} {meth : Method} {c : Code} {T0 : State} {locs : List Loc} {cells slots : Nat} {Z : State} {a0 : Array Value} {h0 : Heap} (o0 : Addr) (i1 : Int32) (o2 : Addr) (i3 : Int32) (i4 : Int32) (o : Nat) (d : Nat) (w : Int32) (n0 : Nat) (f_o0 : Nat → Value) (f_o2 : Nat → Value)
    (X0 : Stand p l e R s m args below meth c T0 locs cells slots) (hx : p.tables.exec = Jvm.exec) (hZ : Z.Warmed39 s.vm) (hw : ∀ d ∈ tables_1, d.before a0 Z = true) (hby : c.code = method_4_code) (hml : c.maxLocals = 5) (hown : s.vm.findClass "com/example/patras/patras/BloomFilterHashPinLaw" = some m.cls) (e0 : T0.heap = h0) (N0 : Fr n0 locs) (ixo : own_ix i1 o) (ixd : own_ix i3 d) (hs : o + 0 < 8) (hd : d + 0 < 10) (hv : f_o0 (o + 0) = .int w) (V_o0 : Ary Z h0 o0 .byte 8 f_o0) (V_o2 : Ary Z h0 o2 .byte 10 f_o2) (g_o2 : n0 ≤ o2) (hc2 : (0 : Int32) < i4) :
    ∃ (T' : State) (h' : Heap) (locs' : List Loc), Stand p l e R s m args below meth c T' locs' cells slots ∧ T'.heap = h' ∧ Fr n0 locs' ∧ Keep h0 h' [o2] ∧ Ary Z h' o2 .byte 10 (own_up f_o2 (d + 0) (.int (nar .byte w))) ∧
      ∀ target, Steps p.tables e below (T'.setTop (mkF m 11 #[.val (.ref o0), .val (.int i1), .val (.ref o2), .val (.int i3), .val (.int i4)] [])) target → Steps p.tables e below (T0.setTop (mkF m 0 #[.val (.ref o0), .val (.int i1), .val (.ref o2), .val (.int i3), .val (.int i4)] [])) target := by
  obtain ⟨cl_9, Ar_9, S_9, H_9⟩ := id V_o0
  have hin9 := Ary.inn S_9 ixo hs
  have hat9 := Ary.get H_9 ixo hs (v := (.int w)) hv
  obtain ⟨cl_10, Ar_10, S_10, H_10⟩ := id V_o2
  have hin10 := Ary.inn S_10 ixd hd
  obtain ⟨T6, h6, X6, e6, W6, st6⟩ := stB X0 hx hZ e0 Ar_10 (j := i3) hin10 (g := (mkF m 10 #[.val (.ref o0), .val (.int i1), .val (.ref o2), .val (.int i3), .val (.int i4)] [(.int w), (.int i3), (.ref o2)])) rfl rfl (hb hby d2_10)
  have V_o2_6 := Ary.set Ar_10 S_10 H_10 W6 ixd
  have K6 : Keep h0 h6 [o2] := (Keep.refl h0 [o2]).wr W6 (Or.inl (List.mem_of_getElem? (i := 0) rfl))
  have N6 := Fr.snoc X6 N0 g_o2
  refine ⟨T6, _, _, X6, e6, N6, K6, V_o2_6, fun target kt => ?_⟩
  show Steps p.tables e below (T0.setTop (mkF m 0 #[.val (.ref o0), .val (.int i1), .val (.ref o2), .val (.int i3), .val (.int i4)] [])) _
  refine XS.iload X0.here hx rfl (hb hby d2_0) rfl ?_
  show Steps p.tables e below (T0.setTop (mkF m 2 #[.val (.ref o0), .val (.int i1), .val (.ref o2), .val (.int i3), .val (.int i4)] [(.int i4)])) _
  refine XS.ifNo X0.here hx rfl (hb hby d2_2) rfl ((if0 _ _).trans (tlt hc2).2.2.2) ?_
  show Steps p.tables e below (T0.setTop (mkF m 5 #[.val (.ref o0), .val (.int i1), .val (.ref o2), .val (.int i3), .val (.int i4)] [])) _
  refine XS.aloadN X0.here hx rfl (hb hby d2_5) rfl rfl ?_
  show Steps p.tables e below (T0.setTop (mkF m 6 #[.val (.ref o0), .val (.int i1), .val (.ref o2), .val (.int i3), .val (.int i4)] [(.ref o2)])) _
  refine XS.iloadN X0.here hx rfl (hb hby d2_6) rfl ?_
  show Steps p.tables e below (T0.setTop (mkF m 7 #[.val (.ref o0), .val (.int i1), .val (.ref o2), .val (.int i3), .val (.int i4)] [(.int i3), (.ref o2)])) _
  refine XS.aloadN X0.here hx rfl (hb hby d2_7) rfl rfl ?_
  show Steps p.tables e below (T0.setTop (mkF m 8 #[.val (.ref o0), .val (.int i1), .val (.ref o2), .val (.int i3), .val (.int i4)] [(.ref o0), (.int i3), (.ref o2)])) _
  refine XS.iloadN X0.here hx rfl (hb hby d2_8) rfl ?_
  show Steps p.tables e below (T0.setTop (mkF m 9 #[.val (.ref o0), .val (.int i1), .val (.ref o2), .val (.int i3), .val (.int i4)] [(.int i1), (.ref o0), (.int i3), (.ref o2)])) _
  refine X0.baloadBytes hx (j := i1) (v := (.int w)) (by rw [e0]; exact Ar_9.1) (State.isArrayOf_alike hZ.alike Ar_9.2.1) Ar_9.2.2 hin9 hat9 (g := (mkF m 9 #[.val (.ref o0), .val (.int i1), .val (.ref o2), .val (.int i3), .val (.int i4)] [(.int i1), (.ref o0), (.int i3), (.ref o2)])) rfl rfl (hb hby d2_9) _ ?_
  show Steps p.tables e below (T0.setTop (mkF m 10 #[.val (.ref o0), .val (.int i1), .val (.ref o2), .val (.int i3), .val (.int i4)] [(.int w), (.int i3), (.ref o2)])) _
  refine st6 _ ?_
  exact kt
set_option maxRecDepth 65536 in
set_option maxHeartbeats 40000000 in
theorem cpt_0 {p : Program} {l : Launch} {e : Env} {R : Room} {s : State} {m : MethodId} {args : Array Value} {below : List Frame} {meth : Method} {c : Code} {T0 : State} {locs : List Loc} {cells slots : Nat} {Z : State} {a0 : Array Value} {h0 : Heap} (s0 : Slot) (s1 : Slot) (s2 : Slot) (s3 : Slot) (i4 : Int32)
    (X0 : Stand p l e R s m args below meth c T0 locs cells slots) (hx : p.tables.exec = Jvm.exec) (hZ : Z.Warmed39 s.vm) (hw : ∀ d ∈ tables_1, d.before a0 Z = true) (hby : c.code = method_4_code) (hml : c.maxLocals = 5) (hown : s.vm.findClass "com/example/patras/patras/BloomFilterHashPinLaw" = some m.cls) (e0 : T0.heap = h0) (hc2 : ¬ ((0 : Int32) < i4)) :
    ∃ (T' : State), Stand p l e R s m args below meth c T' locs cells slots ∧ T'.heap = h0 ∧
      ∀ target, Steps p.tables e below (T'.setTop (mkF m 11 #[s0, s1, s2, s3, .val (.int i4)] [])) target → Steps p.tables e below (T0.setTop (mkF m 0 #[s0, s1, s2, s3, .val (.int i4)] [])) target := by
  refine ⟨T0, X0, e0, fun target kt => ?_⟩
  show Steps p.tables e below (T0.setTop (mkF m 0 #[s0, s1, s2, s3, .val (.int i4)] [])) _
  refine XS.iload X0.here hx rfl (hb hby d2_0) rfl ?_
  show Steps p.tables e below (T0.setTop (mkF m 2 #[s0, s1, s2, s3, .val (.int i4)] [(.int i4)])) _
  refine XS.ifYes X0.here hx rfl (pc0 := 2) (pc' := 11) rfl (hb hby d2_2) rfl ((if0 _ _).trans (flt hc2).2.2.2) (by decide) (by decide) ?_
  exact kt
theorem cp_0 {p : Program} {l : Launch} {e : Env} {R : Room} {s : State} {m : MethodId} {args : Array Value} {below : List Frame} {meth : Method} {c : Code} {T0 : State} {locs : List Loc} {cells slots : Nat} {Z : State} {a0 : Array Value} {h0 : Heap} (o0 : Addr) (i1 : Int32) (o2 : Addr) (i3 i4 : Int32) (f g : Nat → Value) (o d n n0 : Nat) (X0 : Stand p l e R s m args below meth c T0 locs cells slots) (hx : p.tables.exec = Jvm.exec) (hZ : Z.Warmed39 s.vm) (hw : ∀ d ∈ tables_1, d.before a0 Z = true) (hby : c.code = method_4_code) (hml : c.maxLocals = 5) (hown : s.vm.findClass "com/example/patras/patras/BloomFilterHashPinLaw" = some m.cls) (e0 : T0.heap = h0) (N0 : Fr n0 locs) (ixo : own_ix i1 o) (ixd : own_ix i3 d) (ixn : own_ix i4 n) (hs : o + n ≤ 8) (hd : d + n ≤ 10) (hb : own_by 8 f) (g_o2 : n0 ≤ o2) (V0 : Ary Z h0 o0 .byte 8 f) (V2 : Ary Z h0 o2 .byte 10 g) (P : own_cp f g o d n 0) :
    ∃ (T' : State) (h' : Heap) (locs' : List Loc) (g' : Nat → Value), Stand p l e R s m args below meth c T' locs' cells slots ∧ T'.heap = h' ∧ Fr n0 locs' ∧ Keep h0 h' [o2] ∧ Ary Z h' o2 .byte 10 g' ∧ own_cp f g' o d n (0 + 1) ∧ ∀ target, Steps p.tables e below (T'.setTop (mkF m 11 #[.val (.ref o0), .val (.int i1), .val (.ref o2), .val (.int i3), .val (.int i4)] [])) target → Steps p.tables e below (T0.setTop (mkF m 0 #[.val (.ref o0), .val (.int i1), .val (.ref o2), .val (.int i3), .val (.int i4)] [])) target := by
  by_cases hc : (0 : Int32) < i4
  · have hk : 0 < n := (own_ixlt (show own_ix (0 : Int32) 0 from rfl) ixn).mp hc
    obtain ⟨w, hv⟩ := hb (o + 0) (by omega)
    obtain ⟨T1, h1, L1, X1, e1, N1, K1, V1, st1⟩ := cpf_0 o0 i1 o2 i3 i4 o d (nar .byte w) n0 f g X0 hx hZ hw hby hml hown e0 N0 ixo ixd (by omega) (by omega) hv V0 V2 g_o2 hc
    exact ⟨T1, h1, L1, _, X1, e1, N1, K1, V1, own_cps P hv, st1⟩
  · have hk : ¬ 0 < n := fun q => hc ((own_ixlt (show own_ix (0 : Int32) 0 from rfl) ixn).mpr q)
    obtain ⟨T1, X1, e1, st1⟩ := cpt_0 (.val (.ref o0)) (.val (.int i1)) (.val (.ref o2)) (.val (.int i3)) i4 X0 hx hZ hw hby hml hown e0 hc
    exact ⟨T1, h0, locs, g, X1, e1, N0, Keep.refl _ _, V2, own_cpn P hk, st1⟩
theorem d2_11 : decode method_4_code 11 = .ok (.iload 4, 2) := by decide +kernel
theorem d2_13 : decode method_4_code 13 = .ok (.iconst 1, 1) := by decide +kernel
theorem d2_14 : decode method_4_code 14 = .ok (.if_icmp .le 13, 3) := by decide +kernel
theorem d2_17 : decode method_4_code 17 = .ok (.aload_n 2, 1) := by decide +kernel
theorem d2_18 : decode method_4_code 18 = .ok (.iload_n 3, 1) := by decide +kernel
theorem d2_19 : decode method_4_code 19 = .ok (.iconst 1, 1) := by decide +kernel
theorem d2_20 : decode method_4_code 20 = .ok (.iadd, 1) := by decide +kernel
theorem d2_21 : decode method_4_code 21 = .ok (.aload_n 0, 1) := by decide +kernel
theorem d2_22 : decode method_4_code 22 = .ok (.iload_n 1, 1) := by decide +kernel
theorem d2_23 : decode method_4_code 23 = .ok (.iconst 1, 1) := by decide +kernel
theorem d2_24 : decode method_4_code 24 = .ok (.iadd, 1) := by decide +kernel
theorem d2_25 : decode method_4_code 25 = .ok (.baload, 1) := by decide +kernel
theorem d2_26 : decode method_4_code 26 = .ok (.bastore, 1) := by decide +kernel
set_option maxRecDepth 65536 in
set_option maxHeartbeats 40000000 in
theorem cpf_1 {p : Program} {l : Launch} {e : Env} {R : Room} {s : State} {m : MethodId} {args : Array Value} {below : List Frame} {meth : Method} {c : Code} {T0 : State} {locs : List Loc} {cells slots : Nat} {Z : State} {a0 : Array Value} {h0 : Heap} (o0 : Addr) (i1 : Int32) (o2 : Addr) (i3 : Int32) (i4 : Int32) (o : Nat) (d : Nat) (w : Int32) (n0 : Nat) (f_o0 : Nat → Value) (f_o2 : Nat → Value)
    (X0 : Stand p l e R s m args below meth c T0 locs cells slots) (hx : p.tables.exec = Jvm.exec) (hZ : Z.Warmed39 s.vm) (hw : ∀ d ∈ tables_1, d.before a0 Z = true) (hby : c.code = method_4_code) (hml : c.maxLocals = 5) (hown : s.vm.findClass "com/example/patras/patras/BloomFilterHashPinLaw" = some m.cls) (e0 : T0.heap = h0) (N0 : Fr n0 locs) (ixo : own_ix i1 o) (ixd : own_ix i3 d) (hs : o + 1 < 8) (hd : d + 1 < 10) (hv : f_o0 (o + 1) = .int w) (V_o0 : Ary Z h0 o0 .byte 8 f_o0) (V_o2 : Ary Z h0 o2 .byte 10 f_o2) (g_o2 : n0 ≤ o2) (hc14 : (1 : Int32) < i4) :
    ∃ (T' : State) (h' : Heap) (locs' : List Loc), Stand p l e R s m args below meth c T' locs' cells slots ∧ T'.heap = h' ∧ Fr n0 locs' ∧ Keep h0 h' [o2] ∧ Ary Z h' o2 .byte 10 (own_up f_o2 (d + 1) (.int (nar .byte w))) ∧
      ∀ target, Steps p.tables e below (T'.setTop (mkF m 27 #[.val (.ref o0), .val (.int i1), .val (.ref o2), .val (.int i3), .val (.int i4)] [])) target → Steps p.tables e below (T0.setTop (mkF m 11 #[.val (.ref o0), .val (.int i1), .val (.ref o2), .val (.int i3), .val (.int i4)] [])) target := by
  obtain ⟨cl_25, Ar_25, S_25, H_25⟩ := id V_o0
  have hin25 := Ary.inn S_25 (own_ixa ixo (show own_ix (1 : Int32) 1 from rfl) (by omega)) hs
  have hat25 := Ary.get H_25 (own_ixa ixo (show own_ix (1 : Int32) 1 from rfl) (by omega)) hs (v := (.int w)) hv
  obtain ⟨cl_26, Ar_26, S_26, H_26⟩ := id V_o2
  have hin26 := Ary.inn S_26 (own_ixa ixd (show own_ix (1 : Int32) 1 from rfl) (by omega)) hd
  obtain ⟨T6, h6, X6, e6, W6, st6⟩ := stB X0 hx hZ e0 Ar_26 (j := (i3 + (1 : Int32))) hin26 (g := (mkF m 26 #[.val (.ref o0), .val (.int i1), .val (.ref o2), .val (.int i3), .val (.int i4)] [(.int w), (.int (i3 + (1 : Int32))), (.ref o2)])) rfl rfl (hb hby d2_26)
  have V_o2_6 := Ary.set Ar_26 S_26 H_26 W6 (own_ixa ixd (show own_ix (1 : Int32) 1 from rfl) (by omega))
  have K6 : Keep h0 h6 [o2] := (Keep.refl h0 [o2]).wr W6 (Or.inl (List.mem_of_getElem? (i := 0) rfl))
  have N6 := Fr.snoc X6 N0 g_o2
  refine ⟨T6, _, _, X6, e6, N6, K6, V_o2_6, fun target kt => ?_⟩
  show Steps p.tables e below (T0.setTop (mkF m 11 #[.val (.ref o0), .val (.int i1), .val (.ref o2), .val (.int i3), .val (.int i4)] [])) _
  refine XS.iload X0.here hx rfl (hb hby d2_11) rfl ?_
  show Steps p.tables e below (T0.setTop (mkF m 13 #[.val (.ref o0), .val (.int i1), .val (.ref o2), .val (.int i3), .val (.int i4)] [(.int i4)])) _
  refine XS.iconst X0.here hx rfl (hb hby d2_13) ?_
  show Steps p.tables e below (T0.setTop (mkF m 14 #[.val (.ref o0), .val (.int i1), .val (.ref o2), .val (.int i3), .val (.int i4)] [(.int (1 : Int32)), (.int i4)])) _
  refine XS.icmpNo X0.here hx rfl (hb hby d2_14) rfl (tlt hc14).2.2.2 ?_
  show Steps p.tables e below (T0.setTop (mkF m 17 #[.val (.ref o0), .val (.int i1), .val (.ref o2), .val (.int i3), .val (.int i4)] [])) _
  refine XS.aloadN X0.here hx rfl (hb hby d2_17) rfl rfl ?_
  show Steps p.tables e below (T0.setTop (mkF m 18 #[.val (.ref o0), .val (.int i1), .val (.ref o2), .val (.int i3), .val (.int i4)] [(.ref o2)])) _
  refine XS.iloadN X0.here hx rfl (hb hby d2_18) rfl ?_
  show Steps p.tables e below (T0.setTop (mkF m 19 #[.val (.ref o0), .val (.int i1), .val (.ref o2), .val (.int i3), .val (.int i4)] [(.int i3), (.ref o2)])) _
  refine XS.iconst X0.here hx rfl (hb hby d2_19) ?_
  show Steps p.tables e below (T0.setTop (mkF m 20 #[.val (.ref o0), .val (.int i1), .val (.ref o2), .val (.int i3), .val (.int i4)] [(.int (1 : Int32)), (.int i3), (.ref o2)])) _
  refine XS.iadd X0.here hx rfl (hb hby d2_20) rfl ?_
  show Steps p.tables e below (T0.setTop (mkF m 21 #[.val (.ref o0), .val (.int i1), .val (.ref o2), .val (.int i3), .val (.int i4)] [(.int (i3 + (1 : Int32))), (.ref o2)])) _
  refine XS.aloadN X0.here hx rfl (hb hby d2_21) rfl rfl ?_
  show Steps p.tables e below (T0.setTop (mkF m 22 #[.val (.ref o0), .val (.int i1), .val (.ref o2), .val (.int i3), .val (.int i4)] [(.ref o0), (.int (i3 + (1 : Int32))), (.ref o2)])) _
  refine XS.iloadN X0.here hx rfl (hb hby d2_22) rfl ?_
  show Steps p.tables e below (T0.setTop (mkF m 23 #[.val (.ref o0), .val (.int i1), .val (.ref o2), .val (.int i3), .val (.int i4)] [(.int i1), (.ref o0), (.int (i3 + (1 : Int32))), (.ref o2)])) _
  refine XS.iconst X0.here hx rfl (hb hby d2_23) ?_
  show Steps p.tables e below (T0.setTop (mkF m 24 #[.val (.ref o0), .val (.int i1), .val (.ref o2), .val (.int i3), .val (.int i4)] [(.int (1 : Int32)), (.int i1), (.ref o0), (.int (i3 + (1 : Int32))), (.ref o2)])) _
  refine XS.iadd X0.here hx rfl (hb hby d2_24) rfl ?_
  show Steps p.tables e below (T0.setTop (mkF m 25 #[.val (.ref o0), .val (.int i1), .val (.ref o2), .val (.int i3), .val (.int i4)] [(.int (i1 + (1 : Int32))), (.ref o0), (.int (i3 + (1 : Int32))), (.ref o2)])) _
  refine X0.baloadBytes hx (j := (i1 + (1 : Int32))) (v := (.int w)) (by rw [e0]; exact Ar_25.1) (State.isArrayOf_alike hZ.alike Ar_25.2.1) Ar_25.2.2 hin25 hat25 (g := (mkF m 25 #[.val (.ref o0), .val (.int i1), .val (.ref o2), .val (.int i3), .val (.int i4)] [(.int (i1 + (1 : Int32))), (.ref o0), (.int (i3 + (1 : Int32))), (.ref o2)])) rfl rfl (hb hby d2_25) _ ?_
  show Steps p.tables e below (T0.setTop (mkF m 26 #[.val (.ref o0), .val (.int i1), .val (.ref o2), .val (.int i3), .val (.int i4)] [(.int w), (.int (i3 + (1 : Int32))), (.ref o2)])) _
  refine st6 _ ?_
  exact kt
set_option maxRecDepth 65536 in
set_option maxHeartbeats 40000000 in
theorem cpt_1 {p : Program} {l : Launch} {e : Env} {R : Room} {s : State} {m : MethodId} {args : Array Value} {below : List Frame} {meth : Method} {c : Code} {T0 : State} {locs : List Loc} {cells slots : Nat} {Z : State} {a0 : Array Value} {h0 : Heap} (s0 : Slot) (s1 : Slot) (s2 : Slot) (s3 : Slot) (i4 : Int32)
    (X0 : Stand p l e R s m args below meth c T0 locs cells slots) (hx : p.tables.exec = Jvm.exec) (hZ : Z.Warmed39 s.vm) (hw : ∀ d ∈ tables_1, d.before a0 Z = true) (hby : c.code = method_4_code) (hml : c.maxLocals = 5) (hown : s.vm.findClass "com/example/patras/patras/BloomFilterHashPinLaw" = some m.cls) (e0 : T0.heap = h0) (hc14 : ¬ ((1 : Int32) < i4)) :
    ∃ (T' : State), Stand p l e R s m args below meth c T' locs cells slots ∧ T'.heap = h0 ∧
      ∀ target, Steps p.tables e below (T'.setTop (mkF m 27 #[s0, s1, s2, s3, .val (.int i4)] [])) target → Steps p.tables e below (T0.setTop (mkF m 11 #[s0, s1, s2, s3, .val (.int i4)] [])) target := by
  refine ⟨T0, X0, e0, fun target kt => ?_⟩
  show Steps p.tables e below (T0.setTop (mkF m 11 #[s0, s1, s2, s3, .val (.int i4)] [])) _
  refine XS.iload X0.here hx rfl (hb hby d2_11) rfl ?_
  show Steps p.tables e below (T0.setTop (mkF m 13 #[s0, s1, s2, s3, .val (.int i4)] [(.int i4)])) _
  refine XS.iconst X0.here hx rfl (hb hby d2_13) ?_
  show Steps p.tables e below (T0.setTop (mkF m 14 #[s0, s1, s2, s3, .val (.int i4)] [(.int (1 : Int32)), (.int i4)])) _
  refine XS.icmpYes X0.here hx rfl (pc0 := 14) (pc' := 27) rfl (hb hby d2_14) rfl (flt hc14).2.2.2 (by decide) (by decide) ?_
  exact kt
theorem cp_1 {p : Program} {l : Launch} {e : Env} {R : Room} {s : State} {m : MethodId} {args : Array Value} {below : List Frame} {meth : Method} {c : Code} {T0 : State} {locs : List Loc} {cells slots : Nat} {Z : State} {a0 : Array Value} {h0 : Heap} (o0 : Addr) (i1 : Int32) (o2 : Addr) (i3 i4 : Int32) (f g : Nat → Value) (o d n n0 : Nat) (X0 : Stand p l e R s m args below meth c T0 locs cells slots) (hx : p.tables.exec = Jvm.exec) (hZ : Z.Warmed39 s.vm) (hw : ∀ d ∈ tables_1, d.before a0 Z = true) (hby : c.code = method_4_code) (hml : c.maxLocals = 5) (hown : s.vm.findClass "com/example/patras/patras/BloomFilterHashPinLaw" = some m.cls) (e0 : T0.heap = h0) (N0 : Fr n0 locs) (ixo : own_ix i1 o) (ixd : own_ix i3 d) (ixn : own_ix i4 n) (hs : o + n ≤ 8) (hd : d + n ≤ 10) (hb : own_by 8 f) (g_o2 : n0 ≤ o2) (V0 : Ary Z h0 o0 .byte 8 f) (V2 : Ary Z h0 o2 .byte 10 g) (P : own_cp f g o d n 1) :
    ∃ (T' : State) (h' : Heap) (locs' : List Loc) (g' : Nat → Value), Stand p l e R s m args below meth c T' locs' cells slots ∧ T'.heap = h' ∧ Fr n0 locs' ∧ Keep h0 h' [o2] ∧ Ary Z h' o2 .byte 10 g' ∧ own_cp f g' o d n (1 + 1) ∧ ∀ target, Steps p.tables e below (T'.setTop (mkF m 27 #[.val (.ref o0), .val (.int i1), .val (.ref o2), .val (.int i3), .val (.int i4)] [])) target → Steps p.tables e below (T0.setTop (mkF m 11 #[.val (.ref o0), .val (.int i1), .val (.ref o2), .val (.int i3), .val (.int i4)] [])) target := by
  by_cases hc : (1 : Int32) < i4
  · have hk : 1 < n := (own_ixlt (show own_ix (1 : Int32) 1 from rfl) ixn).mp hc
    obtain ⟨w, hv⟩ := hb (o + 1) (by omega)
    obtain ⟨T1, h1, L1, X1, e1, N1, K1, V1, st1⟩ := cpf_1 o0 i1 o2 i3 i4 o d (nar .byte w) n0 f g X0 hx hZ hw hby hml hown e0 N0 ixo ixd (by omega) (by omega) hv V0 V2 g_o2 hc
    exact ⟨T1, h1, L1, _, X1, e1, N1, K1, V1, own_cps P hv, st1⟩
  · have hk : ¬ 1 < n := fun q => hc ((own_ixlt (show own_ix (1 : Int32) 1 from rfl) ixn).mpr q)
    obtain ⟨T1, X1, e1, st1⟩ := cpt_1 (.val (.ref o0)) (.val (.int i1)) (.val (.ref o2)) (.val (.int i3)) i4 X0 hx hZ hw hby hml hown e0 hc
    exact ⟨T1, h0, locs, g, X1, e1, N0, Keep.refl _ _, V2, own_cpn P hk, st1⟩
theorem d2_27 : decode method_4_code 27 = .ok (.iload 4, 2) := by decide +kernel
theorem d2_29 : decode method_4_code 29 = .ok (.iconst 2, 1) := by decide +kernel
theorem d2_30 : decode method_4_code 30 = .ok (.if_icmp .le 13, 3) := by decide +kernel
theorem d2_33 : decode method_4_code 33 = .ok (.aload_n 2, 1) := by decide +kernel
theorem d2_34 : decode method_4_code 34 = .ok (.iload_n 3, 1) := by decide +kernel
theorem d2_35 : decode method_4_code 35 = .ok (.iconst 2, 1) := by decide +kernel
theorem d2_36 : decode method_4_code 36 = .ok (.iadd, 1) := by decide +kernel
theorem d2_37 : decode method_4_code 37 = .ok (.aload_n 0, 1) := by decide +kernel
theorem d2_38 : decode method_4_code 38 = .ok (.iload_n 1, 1) := by decide +kernel
theorem d2_39 : decode method_4_code 39 = .ok (.iconst 2, 1) := by decide +kernel
theorem d2_40 : decode method_4_code 40 = .ok (.iadd, 1) := by decide +kernel
theorem d2_41 : decode method_4_code 41 = .ok (.baload, 1) := by decide +kernel
theorem d2_42 : decode method_4_code 42 = .ok (.bastore, 1) := by decide +kernel
set_option maxRecDepth 65536 in
set_option maxHeartbeats 40000000 in
theorem cpf_2 {p : Program} {l : Launch} {e : Env} {R : Room} {s : State} {m : MethodId} {args : Array Value} {below : List Frame} {meth : Method} {c : Code} {T0 : State} {locs : List Loc} {cells slots : Nat} {Z : State} {a0 : Array Value} {h0 : Heap} (o0 : Addr) (i1 : Int32) (o2 : Addr) (i3 : Int32) (i4 : Int32) (o : Nat) (d : Nat) (w : Int32) (n0 : Nat) (f_o0 : Nat → Value) (f_o2 : Nat → Value)
    (X0 : Stand p l e R s m args below meth c T0 locs cells slots) (hx : p.tables.exec = Jvm.exec) (hZ : Z.Warmed39 s.vm) (hw : ∀ d ∈ tables_1, d.before a0 Z = true) (hby : c.code = method_4_code) (hml : c.maxLocals = 5) (hown : s.vm.findClass "com/example/patras/patras/BloomFilterHashPinLaw" = some m.cls) (e0 : T0.heap = h0) (N0 : Fr n0 locs) (ixo : own_ix i1 o) (ixd : own_ix i3 d) (hs : o + 2 < 8) (hd : d + 2 < 10) (hv : f_o0 (o + 2) = .int w) (V_o0 : Ary Z h0 o0 .byte 8 f_o0) (V_o2 : Ary Z h0 o2 .byte 10 f_o2) (g_o2 : n0 ≤ o2) (hc30 : (2 : Int32) < i4) :
    ∃ (T' : State) (h' : Heap) (locs' : List Loc), Stand p l e R s m args below meth c T' locs' cells slots ∧ T'.heap = h' ∧ Fr n0 locs' ∧ Keep h0 h' [o2] ∧ Ary Z h' o2 .byte 10 (own_up f_o2 (d + 2) (.int (nar .byte w))) ∧
      ∀ target, Steps p.tables e below (T'.setTop (mkF m 43 #[.val (.ref o0), .val (.int i1), .val (.ref o2), .val (.int i3), .val (.int i4)] [])) target → Steps p.tables e below (T0.setTop (mkF m 27 #[.val (.ref o0), .val (.int i1), .val (.ref o2), .val (.int i3), .val (.int i4)] [])) target := by
  obtain ⟨cl_41, Ar_41, S_41, H_41⟩ := id V_o0
  have hin41 := Ary.inn S_41 (own_ixa ixo (show own_ix (2 : Int32) 2 from rfl) (by omega)) hs
  have hat41 := Ary.get H_41 (own_ixa ixo (show own_ix (2 : Int32) 2 from rfl) (by omega)) hs (v := (.int w)) hv
  obtain ⟨cl_42, Ar_42, S_42, H_42⟩ := id V_o2
  have hin42 := Ary.inn S_42 (own_ixa ixd (show own_ix (2 : Int32) 2 from rfl) (by omega)) hd
  obtain ⟨T6, h6, X6, e6, W6, st6⟩ := stB X0 hx hZ e0 Ar_42 (j := (i3 + (2 : Int32))) hin42 (g := (mkF m 42 #[.val (.ref o0), .val (.int i1), .val (.ref o2), .val (.int i3), .val (.int i4)] [(.int w), (.int (i3 + (2 : Int32))), (.ref o2)])) rfl rfl (hb hby d2_42)
  have V_o2_6 := Ary.set Ar_42 S_42 H_42 W6 (own_ixa ixd (show own_ix (2 : Int32) 2 from rfl) (by omega))
  have K6 : Keep h0 h6 [o2] := (Keep.refl h0 [o2]).wr W6 (Or.inl (List.mem_of_getElem? (i := 0) rfl))
  have N6 := Fr.snoc X6 N0 g_o2
  refine ⟨T6, _, _, X6, e6, N6, K6, V_o2_6, fun target kt => ?_⟩
  show Steps p.tables e below (T0.setTop (mkF m 27 #[.val (.ref o0), .val (.int i1), .val (.ref o2), .val (.int i3), .val (.int i4)] [])) _
  refine XS.iload X0.here hx rfl (hb hby d2_27) rfl ?_
  show Steps p.tables e below (T0.setTop (mkF m 29 #[.val (.ref o0), .val (.int i1), .val (.ref o2), .val (.int i3), .val (.int i4)] [(.int i4)])) _
  refine XS.iconst X0.here hx rfl (hb hby d2_29) ?_
  show Steps p.tables e below (T0.setTop (mkF m 30 #[.val (.ref o0), .val (.int i1), .val (.ref o2), .val (.int i3), .val (.int i4)] [(.int (2 : Int32)), (.int i4)])) _
  refine XS.icmpNo X0.here hx rfl (hb hby d2_30) rfl (tlt hc30).2.2.2 ?_
  show Steps p.tables e below (T0.setTop (mkF m 33 #[.val (.ref o0), .val (.int i1), .val (.ref o2), .val (.int i3), .val (.int i4)] [])) _
  refine XS.aloadN X0.here hx rfl (hb hby d2_33) rfl rfl ?_
  show Steps p.tables e below (T0.setTop (mkF m 34 #[.val (.ref o0), .val (.int i1), .val (.ref o2), .val (.int i3), .val (.int i4)] [(.ref o2)])) _
  refine XS.iloadN X0.here hx rfl (hb hby d2_34) rfl ?_
  show Steps p.tables e below (T0.setTop (mkF m 35 #[.val (.ref o0), .val (.int i1), .val (.ref o2), .val (.int i3), .val (.int i4)] [(.int i3), (.ref o2)])) _
  refine XS.iconst X0.here hx rfl (hb hby d2_35) ?_
  show Steps p.tables e below (T0.setTop (mkF m 36 #[.val (.ref o0), .val (.int i1), .val (.ref o2), .val (.int i3), .val (.int i4)] [(.int (2 : Int32)), (.int i3), (.ref o2)])) _
  refine XS.iadd X0.here hx rfl (hb hby d2_36) rfl ?_
  show Steps p.tables e below (T0.setTop (mkF m 37 #[.val (.ref o0), .val (.int i1), .val (.ref o2), .val (.int i3), .val (.int i4)] [(.int (i3 + (2 : Int32))), (.ref o2)])) _
  refine XS.aloadN X0.here hx rfl (hb hby d2_37) rfl rfl ?_
  show Steps p.tables e below (T0.setTop (mkF m 38 #[.val (.ref o0), .val (.int i1), .val (.ref o2), .val (.int i3), .val (.int i4)] [(.ref o0), (.int (i3 + (2 : Int32))), (.ref o2)])) _
  refine XS.iloadN X0.here hx rfl (hb hby d2_38) rfl ?_
  show Steps p.tables e below (T0.setTop (mkF m 39 #[.val (.ref o0), .val (.int i1), .val (.ref o2), .val (.int i3), .val (.int i4)] [(.int i1), (.ref o0), (.int (i3 + (2 : Int32))), (.ref o2)])) _
  refine XS.iconst X0.here hx rfl (hb hby d2_39) ?_
  show Steps p.tables e below (T0.setTop (mkF m 40 #[.val (.ref o0), .val (.int i1), .val (.ref o2), .val (.int i3), .val (.int i4)] [(.int (2 : Int32)), (.int i1), (.ref o0), (.int (i3 + (2 : Int32))), (.ref o2)])) _
  refine XS.iadd X0.here hx rfl (hb hby d2_40) rfl ?_
  show Steps p.tables e below (T0.setTop (mkF m 41 #[.val (.ref o0), .val (.int i1), .val (.ref o2), .val (.int i3), .val (.int i4)] [(.int (i1 + (2 : Int32))), (.ref o0), (.int (i3 + (2 : Int32))), (.ref o2)])) _
  refine X0.baloadBytes hx (j := (i1 + (2 : Int32))) (v := (.int w)) (by rw [e0]; exact Ar_41.1) (State.isArrayOf_alike hZ.alike Ar_41.2.1) Ar_41.2.2 hin41 hat41 (g := (mkF m 41 #[.val (.ref o0), .val (.int i1), .val (.ref o2), .val (.int i3), .val (.int i4)] [(.int (i1 + (2 : Int32))), (.ref o0), (.int (i3 + (2 : Int32))), (.ref o2)])) rfl rfl (hb hby d2_41) _ ?_
  show Steps p.tables e below (T0.setTop (mkF m 42 #[.val (.ref o0), .val (.int i1), .val (.ref o2), .val (.int i3), .val (.int i4)] [(.int w), (.int (i3 + (2 : Int32))), (.ref o2)])) _
  refine st6 _ ?_
  exact kt
set_option maxRecDepth 65536 in
set_option maxHeartbeats 40000000 in
theorem cpt_2 {p : Program} {l : Launch} {e : Env} {R : Room} {s : State} {m : MethodId} {args : Array Value} {below : List Frame} {meth : Method} {c : Code} {T0 : State} {locs : List Loc} {cells slots : Nat} {Z : State} {a0 : Array Value} {h0 : Heap} (s0 : Slot) (s1 : Slot) (s2 : Slot) (s3 : Slot) (i4 : Int32)
    (X0 : Stand p l e R s m args below meth c T0 locs cells slots) (hx : p.tables.exec = Jvm.exec) (hZ : Z.Warmed39 s.vm) (hw : ∀ d ∈ tables_1, d.before a0 Z = true) (hby : c.code = method_4_code) (hml : c.maxLocals = 5) (hown : s.vm.findClass "com/example/patras/patras/BloomFilterHashPinLaw" = some m.cls) (e0 : T0.heap = h0) (hc30 : ¬ ((2 : Int32) < i4)) :
    ∃ (T' : State), Stand p l e R s m args below meth c T' locs cells slots ∧ T'.heap = h0 ∧
      ∀ target, Steps p.tables e below (T'.setTop (mkF m 43 #[s0, s1, s2, s3, .val (.int i4)] [])) target → Steps p.tables e below (T0.setTop (mkF m 27 #[s0, s1, s2, s3, .val (.int i4)] [])) target := by
  refine ⟨T0, X0, e0, fun target kt => ?_⟩
  show Steps p.tables e below (T0.setTop (mkF m 27 #[s0, s1, s2, s3, .val (.int i4)] [])) _
  refine XS.iload X0.here hx rfl (hb hby d2_27) rfl ?_
  show Steps p.tables e below (T0.setTop (mkF m 29 #[s0, s1, s2, s3, .val (.int i4)] [(.int i4)])) _
  refine XS.iconst X0.here hx rfl (hb hby d2_29) ?_
  show Steps p.tables e below (T0.setTop (mkF m 30 #[s0, s1, s2, s3, .val (.int i4)] [(.int (2 : Int32)), (.int i4)])) _
  refine XS.icmpYes X0.here hx rfl (pc0 := 30) (pc' := 43) rfl (hb hby d2_30) rfl (flt hc30).2.2.2 (by decide) (by decide) ?_
  exact kt
theorem cp_2 {p : Program} {l : Launch} {e : Env} {R : Room} {s : State} {m : MethodId} {args : Array Value} {below : List Frame} {meth : Method} {c : Code} {T0 : State} {locs : List Loc} {cells slots : Nat} {Z : State} {a0 : Array Value} {h0 : Heap} (o0 : Addr) (i1 : Int32) (o2 : Addr) (i3 i4 : Int32) (f g : Nat → Value) (o d n n0 : Nat) (X0 : Stand p l e R s m args below meth c T0 locs cells slots) (hx : p.tables.exec = Jvm.exec) (hZ : Z.Warmed39 s.vm) (hw : ∀ d ∈ tables_1, d.before a0 Z = true) (hby : c.code = method_4_code) (hml : c.maxLocals = 5) (hown : s.vm.findClass "com/example/patras/patras/BloomFilterHashPinLaw" = some m.cls) (e0 : T0.heap = h0) (N0 : Fr n0 locs) (ixo : own_ix i1 o) (ixd : own_ix i3 d) (ixn : own_ix i4 n) (hs : o + n ≤ 8) (hd : d + n ≤ 10) (hb : own_by 8 f) (g_o2 : n0 ≤ o2) (V0 : Ary Z h0 o0 .byte 8 f) (V2 : Ary Z h0 o2 .byte 10 g) (P : own_cp f g o d n 2) :
    ∃ (T' : State) (h' : Heap) (locs' : List Loc) (g' : Nat → Value), Stand p l e R s m args below meth c T' locs' cells slots ∧ T'.heap = h' ∧ Fr n0 locs' ∧ Keep h0 h' [o2] ∧ Ary Z h' o2 .byte 10 g' ∧ own_cp f g' o d n (2 + 1) ∧ ∀ target, Steps p.tables e below (T'.setTop (mkF m 43 #[.val (.ref o0), .val (.int i1), .val (.ref o2), .val (.int i3), .val (.int i4)] [])) target → Steps p.tables e below (T0.setTop (mkF m 27 #[.val (.ref o0), .val (.int i1), .val (.ref o2), .val (.int i3), .val (.int i4)] [])) target := by
  by_cases hc : (2 : Int32) < i4
  · have hk : 2 < n := (own_ixlt (show own_ix (2 : Int32) 2 from rfl) ixn).mp hc
    obtain ⟨w, hv⟩ := hb (o + 2) (by omega)
    obtain ⟨T1, h1, L1, X1, e1, N1, K1, V1, st1⟩ := cpf_2 o0 i1 o2 i3 i4 o d (nar .byte w) n0 f g X0 hx hZ hw hby hml hown e0 N0 ixo ixd (by omega) (by omega) hv V0 V2 g_o2 hc
    exact ⟨T1, h1, L1, _, X1, e1, N1, K1, V1, own_cps P hv, st1⟩
  · have hk : ¬ 2 < n := fun q => hc ((own_ixlt (show own_ix (2 : Int32) 2 from rfl) ixn).mpr q)
    obtain ⟨T1, X1, e1, st1⟩ := cpt_2 (.val (.ref o0)) (.val (.int i1)) (.val (.ref o2)) (.val (.int i3)) i4 X0 hx hZ hw hby hml hown e0 hc
    exact ⟨T1, h0, locs, g, X1, e1, N0, Keep.refl _ _, V2, own_cpn P hk, st1⟩
theorem d2_43 : decode method_4_code 43 = .ok (.iload 4, 2) := by decide +kernel
theorem d2_45 : decode method_4_code 45 = .ok (.iconst 3, 1) := by decide +kernel
theorem d2_46 : decode method_4_code 46 = .ok (.if_icmp .le 13, 3) := by decide +kernel
theorem d2_49 : decode method_4_code 49 = .ok (.aload_n 2, 1) := by decide +kernel
theorem d2_50 : decode method_4_code 50 = .ok (.iload_n 3, 1) := by decide +kernel
theorem d2_51 : decode method_4_code 51 = .ok (.iconst 3, 1) := by decide +kernel
theorem d2_52 : decode method_4_code 52 = .ok (.iadd, 1) := by decide +kernel
theorem d2_53 : decode method_4_code 53 = .ok (.aload_n 0, 1) := by decide +kernel
theorem d2_54 : decode method_4_code 54 = .ok (.iload_n 1, 1) := by decide +kernel
theorem d2_55 : decode method_4_code 55 = .ok (.iconst 3, 1) := by decide +kernel
theorem d2_56 : decode method_4_code 56 = .ok (.iadd, 1) := by decide +kernel
theorem d2_57 : decode method_4_code 57 = .ok (.baload, 1) := by decide +kernel
theorem d2_58 : decode method_4_code 58 = .ok (.bastore, 1) := by decide +kernel
set_option maxRecDepth 65536 in
set_option maxHeartbeats 40000000 in
theorem cpf_3 {p : Program} {l : Launch} {e : Env} {R : Room} {s : State} {m : MethodId} {args : Array Value} {below : List Frame} {meth : Method} {c : Code} {T0 : State} {locs : List Loc} {cells slots : Nat} {Z : State} {a0 : Array Value} {h0 : Heap} (o0 : Addr) (i1 : Int32) (o2 : Addr) (i3 : Int32) (i4 : Int32) (o : Nat) (d : Nat) (w : Int32) (n0 : Nat) (f_o0 : Nat → Value) (f_o2 : Nat → Value)
    (X0 : Stand p l e R s m args below meth c T0 locs cells slots) (hx : p.tables.exec = Jvm.exec) (hZ : Z.Warmed39 s.vm) (hw : ∀ d ∈ tables_1, d.before a0 Z = true) (hby : c.code = method_4_code) (hml : c.maxLocals = 5) (hown : s.vm.findClass "com/example/patras/patras/BloomFilterHashPinLaw" = some m.cls) (e0 : T0.heap = h0) (N0 : Fr n0 locs) (ixo : own_ix i1 o) (ixd : own_ix i3 d) (hs : o + 3 < 8) (hd : d + 3 < 10) (hv : f_o0 (o + 3) = .int w) (V_o0 : Ary Z h0 o0 .byte 8 f_o0) (V_o2 : Ary Z h0 o2 .byte 10 f_o2) (g_o2 : n0 ≤ o2) (hc46 : (3 : Int32) < i4) :
    ∃ (T' : State) (h' : Heap) (locs' : List Loc), Stand p l e R s m args below meth c T' locs' cells slots ∧ T'.heap = h' ∧ Fr n0 locs' ∧ Keep h0 h' [o2] ∧ Ary Z h' o2 .byte 10 (own_up f_o2 (d + 3) (.int (nar .byte w))) ∧
      ∀ target, Steps p.tables e below (T'.setTop (mkF m 59 #[.val (.ref o0), .val (.int i1), .val (.ref o2), .val (.int i3), .val (.int i4)] [])) target → Steps p.tables e below (T0.setTop (mkF m 43 #[.val (.ref o0), .val (.int i1), .val (.ref o2), .val (.int i3), .val (.int i4)] [])) target := by
  obtain ⟨cl_57, Ar_57, S_57, H_57⟩ := id V_o0
  have hin57 := Ary.inn S_57 (own_ixa ixo (show own_ix (3 : Int32) 3 from rfl) (by omega)) hs
  have hat57 := Ary.get H_57 (own_ixa ixo (show own_ix (3 : Int32) 3 from rfl) (by omega)) hs (v := (.int w)) hv
  obtain ⟨cl_58, Ar_58, S_58, H_58⟩ := id V_o2
  have hin58 := Ary.inn S_58 (own_ixa ixd (show own_ix (3 : Int32) 3 from rfl) (by omega)) hd
  obtain ⟨T6, h6, X6, e6, W6, st6⟩ := stB X0 hx hZ e0 Ar_58 (j := (i3 + (3 : Int32))) hin58 (g := (mkF m 58 #[.val (.ref o0), .val (.int i1), .val (.ref o2), .val (.int i3), .val (.int i4)] [(.int w), (.int (i3 + (3 : Int32))), (.ref o2)])) rfl rfl (hb hby d2_58)
  have V_o2_6 := Ary.set Ar_58 S_58 H_58 W6 (own_ixa ixd (show own_ix (3 : Int32) 3 from rfl) (by omega))
  have K6 : Keep h0 h6 [o2] := (Keep.refl h0 [o2]).wr W6 (Or.inl (List.mem_of_getElem? (i := 0) rfl))
  have N6 := Fr.snoc X6 N0 g_o2
  refine ⟨T6, _, _, X6, e6, N6, K6, V_o2_6, fun target kt => ?_⟩
  show Steps p.tables e below (T0.setTop (mkF m 43 #[.val (.ref o0), .val (.int i1), .val (.ref o2), .val (.int i3), .val (.int i4)] [])) _
  refine XS.iload X0.here hx rfl (hb hby d2_43) rfl ?_
  show Steps p.tables e below (T0.setTop (mkF m 45 #[.val (.ref o0), .val (.int i1), .val (.ref o2), .val (.int i3), .val (.int i4)] [(.int i4)])) _
  refine XS.iconst X0.here hx rfl (hb hby d2_45) ?_
  show Steps p.tables e below (T0.setTop (mkF m 46 #[.val (.ref o0), .val (.int i1), .val (.ref o2), .val (.int i3), .val (.int i4)] [(.int (3 : Int32)), (.int i4)])) _
  refine XS.icmpNo X0.here hx rfl (hb hby d2_46) rfl (tlt hc46).2.2.2 ?_
  show Steps p.tables e below (T0.setTop (mkF m 49 #[.val (.ref o0), .val (.int i1), .val (.ref o2), .val (.int i3), .val (.int i4)] [])) _
  refine XS.aloadN X0.here hx rfl (hb hby d2_49) rfl rfl ?_
  show Steps p.tables e below (T0.setTop (mkF m 50 #[.val (.ref o0), .val (.int i1), .val (.ref o2), .val (.int i3), .val (.int i4)] [(.ref o2)])) _
  refine XS.iloadN X0.here hx rfl (hb hby d2_50) rfl ?_
  show Steps p.tables e below (T0.setTop (mkF m 51 #[.val (.ref o0), .val (.int i1), .val (.ref o2), .val (.int i3), .val (.int i4)] [(.int i3), (.ref o2)])) _
  refine XS.iconst X0.here hx rfl (hb hby d2_51) ?_
  show Steps p.tables e below (T0.setTop (mkF m 52 #[.val (.ref o0), .val (.int i1), .val (.ref o2), .val (.int i3), .val (.int i4)] [(.int (3 : Int32)), (.int i3), (.ref o2)])) _
  refine XS.iadd X0.here hx rfl (hb hby d2_52) rfl ?_
  show Steps p.tables e below (T0.setTop (mkF m 53 #[.val (.ref o0), .val (.int i1), .val (.ref o2), .val (.int i3), .val (.int i4)] [(.int (i3 + (3 : Int32))), (.ref o2)])) _
  refine XS.aloadN X0.here hx rfl (hb hby d2_53) rfl rfl ?_
  show Steps p.tables e below (T0.setTop (mkF m 54 #[.val (.ref o0), .val (.int i1), .val (.ref o2), .val (.int i3), .val (.int i4)] [(.ref o0), (.int (i3 + (3 : Int32))), (.ref o2)])) _
  refine XS.iloadN X0.here hx rfl (hb hby d2_54) rfl ?_
  show Steps p.tables e below (T0.setTop (mkF m 55 #[.val (.ref o0), .val (.int i1), .val (.ref o2), .val (.int i3), .val (.int i4)] [(.int i1), (.ref o0), (.int (i3 + (3 : Int32))), (.ref o2)])) _
  refine XS.iconst X0.here hx rfl (hb hby d2_55) ?_
  show Steps p.tables e below (T0.setTop (mkF m 56 #[.val (.ref o0), .val (.int i1), .val (.ref o2), .val (.int i3), .val (.int i4)] [(.int (3 : Int32)), (.int i1), (.ref o0), (.int (i3 + (3 : Int32))), (.ref o2)])) _
  refine XS.iadd X0.here hx rfl (hb hby d2_56) rfl ?_
  show Steps p.tables e below (T0.setTop (mkF m 57 #[.val (.ref o0), .val (.int i1), .val (.ref o2), .val (.int i3), .val (.int i4)] [(.int (i1 + (3 : Int32))), (.ref o0), (.int (i3 + (3 : Int32))), (.ref o2)])) _
  refine X0.baloadBytes hx (j := (i1 + (3 : Int32))) (v := (.int w)) (by rw [e0]; exact Ar_57.1) (State.isArrayOf_alike hZ.alike Ar_57.2.1) Ar_57.2.2 hin57 hat57 (g := (mkF m 57 #[.val (.ref o0), .val (.int i1), .val (.ref o2), .val (.int i3), .val (.int i4)] [(.int (i1 + (3 : Int32))), (.ref o0), (.int (i3 + (3 : Int32))), (.ref o2)])) rfl rfl (hb hby d2_57) _ ?_
  show Steps p.tables e below (T0.setTop (mkF m 58 #[.val (.ref o0), .val (.int i1), .val (.ref o2), .val (.int i3), .val (.int i4)] [(.int w), (.int (i3 + (3 : Int32))), (.ref o2)])) _
  refine st6 _ ?_
  exact kt
set_option maxRecDepth 65536 in
set_option maxHeartbeats 40000000 in
theorem cpt_3 {p : Program} {l : Launch} {e : Env} {R : Room} {s : State} {m : MethodId} {args : Array Value} {below : List Frame} {meth : Method} {c : Code} {T0 : State} {locs : List Loc} {cells slots : Nat} {Z : State} {a0 : Array Value} {h0 : Heap} (s0 : Slot) (s1 : Slot) (s2 : Slot) (s3 : Slot) (i4 : Int32)
    (X0 : Stand p l e R s m args below meth c T0 locs cells slots) (hx : p.tables.exec = Jvm.exec) (hZ : Z.Warmed39 s.vm) (hw : ∀ d ∈ tables_1, d.before a0 Z = true) (hby : c.code = method_4_code) (hml : c.maxLocals = 5) (hown : s.vm.findClass "com/example/patras/patras/BloomFilterHashPinLaw" = some m.cls) (e0 : T0.heap = h0) (hc46 : ¬ ((3 : Int32) < i4)) :
    ∃ (T' : State), Stand p l e R s m args below meth c T' locs cells slots ∧ T'.heap = h0 ∧
      ∀ target, Steps p.tables e below (T'.setTop (mkF m 59 #[s0, s1, s2, s3, .val (.int i4)] [])) target → Steps p.tables e below (T0.setTop (mkF m 43 #[s0, s1, s2, s3, .val (.int i4)] [])) target := by
  refine ⟨T0, X0, e0, fun target kt => ?_⟩
  show Steps p.tables e below (T0.setTop (mkF m 43 #[s0, s1, s2, s3, .val (.int i4)] [])) _
  refine XS.iload X0.here hx rfl (hb hby d2_43) rfl ?_
  show Steps p.tables e below (T0.setTop (mkF m 45 #[s0, s1, s2, s3, .val (.int i4)] [(.int i4)])) _
  refine XS.iconst X0.here hx rfl (hb hby d2_45) ?_
  show Steps p.tables e below (T0.setTop (mkF m 46 #[s0, s1, s2, s3, .val (.int i4)] [(.int (3 : Int32)), (.int i4)])) _
  refine XS.icmpYes X0.here hx rfl (pc0 := 46) (pc' := 59) rfl (hb hby d2_46) rfl (flt hc46).2.2.2 (by decide) (by decide) ?_
  exact kt
theorem cp_3 {p : Program} {l : Launch} {e : Env} {R : Room} {s : State} {m : MethodId} {args : Array Value} {below : List Frame} {meth : Method} {c : Code} {T0 : State} {locs : List Loc} {cells slots : Nat} {Z : State} {a0 : Array Value} {h0 : Heap} (o0 : Addr) (i1 : Int32) (o2 : Addr) (i3 i4 : Int32) (f g : Nat → Value) (o d n n0 : Nat) (X0 : Stand p l e R s m args below meth c T0 locs cells slots) (hx : p.tables.exec = Jvm.exec) (hZ : Z.Warmed39 s.vm) (hw : ∀ d ∈ tables_1, d.before a0 Z = true) (hby : c.code = method_4_code) (hml : c.maxLocals = 5) (hown : s.vm.findClass "com/example/patras/patras/BloomFilterHashPinLaw" = some m.cls) (e0 : T0.heap = h0) (N0 : Fr n0 locs) (ixo : own_ix i1 o) (ixd : own_ix i3 d) (ixn : own_ix i4 n) (hs : o + n ≤ 8) (hd : d + n ≤ 10) (hb : own_by 8 f) (g_o2 : n0 ≤ o2) (V0 : Ary Z h0 o0 .byte 8 f) (V2 : Ary Z h0 o2 .byte 10 g) (P : own_cp f g o d n 3) :
    ∃ (T' : State) (h' : Heap) (locs' : List Loc) (g' : Nat → Value), Stand p l e R s m args below meth c T' locs' cells slots ∧ T'.heap = h' ∧ Fr n0 locs' ∧ Keep h0 h' [o2] ∧ Ary Z h' o2 .byte 10 g' ∧ own_cp f g' o d n (3 + 1) ∧ ∀ target, Steps p.tables e below (T'.setTop (mkF m 59 #[.val (.ref o0), .val (.int i1), .val (.ref o2), .val (.int i3), .val (.int i4)] [])) target → Steps p.tables e below (T0.setTop (mkF m 43 #[.val (.ref o0), .val (.int i1), .val (.ref o2), .val (.int i3), .val (.int i4)] [])) target := by
  by_cases hc : (3 : Int32) < i4
  · have hk : 3 < n := (own_ixlt (show own_ix (3 : Int32) 3 from rfl) ixn).mp hc
    obtain ⟨w, hv⟩ := hb (o + 3) (by omega)
    obtain ⟨T1, h1, L1, X1, e1, N1, K1, V1, st1⟩ := cpf_3 o0 i1 o2 i3 i4 o d (nar .byte w) n0 f g X0 hx hZ hw hby hml hown e0 N0 ixo ixd (by omega) (by omega) hv V0 V2 g_o2 hc
    exact ⟨T1, h1, L1, _, X1, e1, N1, K1, V1, own_cps P hv, st1⟩
  · have hk : ¬ 3 < n := fun q => hc ((own_ixlt (show own_ix (3 : Int32) 3 from rfl) ixn).mpr q)
    obtain ⟨T1, X1, e1, st1⟩ := cpt_3 (.val (.ref o0)) (.val (.int i1)) (.val (.ref o2)) (.val (.int i3)) i4 X0 hx hZ hw hby hml hown e0 hc
    exact ⟨T1, h0, locs, g, X1, e1, N0, Keep.refl _ _, V2, own_cpn P hk, st1⟩
theorem d2_59 : decode method_4_code 59 = .ok (.iload 4, 2) := by decide +kernel
theorem d2_61 : decode method_4_code 61 = .ok (.iconst 4, 1) := by decide +kernel
theorem d2_62 : decode method_4_code 62 = .ok (.if_icmp .le 13, 3) := by decide +kernel
theorem d2_65 : decode method_4_code 65 = .ok (.aload_n 2, 1) := by decide +kernel
theorem d2_66 : decode method_4_code 66 = .ok (.iload_n 3, 1) := by decide +kernel
theorem d2_67 : decode method_4_code 67 = .ok (.iconst 4, 1) := by decide +kernel
theorem d2_68 : decode method_4_code 68 = .ok (.iadd, 1) := by decide +kernel
theorem d2_69 : decode method_4_code 69 = .ok (.aload_n 0, 1) := by decide +kernel
theorem d2_70 : decode method_4_code 70 = .ok (.iload_n 1, 1) := by decide +kernel
theorem d2_71 : decode method_4_code 71 = .ok (.iconst 4, 1) := by decide +kernel
theorem d2_72 : decode method_4_code 72 = .ok (.iadd, 1) := by decide +kernel
theorem d2_73 : decode method_4_code 73 = .ok (.baload, 1) := by decide +kernel
theorem d2_74 : decode method_4_code 74 = .ok (.bastore, 1) := by decide +kernel
set_option maxRecDepth 65536 in
set_option maxHeartbeats 40000000 in
theorem cpf_4 {p : Program} {l : Launch} {e : Env} {R : Room} {s : State} {m : MethodId} {args : Array Value} {below : List Frame} {meth : Method} {c : Code} {T0 : State} {locs : List Loc} {cells slots : Nat} {Z : State} {a0 : Array Value} {h0 : Heap} (o0 : Addr) (i1 : Int32) (o2 : Addr) (i3 : Int32) (i4 : Int32) (o : Nat) (d : Nat) (w : Int32) (n0 : Nat) (f_o0 : Nat → Value) (f_o2 : Nat → Value)
    (X0 : Stand p l e R s m args below meth c T0 locs cells slots) (hx : p.tables.exec = Jvm.exec) (hZ : Z.Warmed39 s.vm) (hw : ∀ d ∈ tables_1, d.before a0 Z = true) (hby : c.code = method_4_code) (hml : c.maxLocals = 5) (hown : s.vm.findClass "com/example/patras/patras/BloomFilterHashPinLaw" = some m.cls) (e0 : T0.heap = h0) (N0 : Fr n0 locs) (ixo : own_ix i1 o) (ixd : own_ix i3 d) (hs : o + 4 < 8) (hd : d + 4 < 10) (hv : f_o0 (o + 4) = .int w) (V_o0 : Ary Z h0 o0 .byte 8 f_o0) (V_o2 : Ary Z h0 o2 .byte 10 f_o2) (g_o2 : n0 ≤ o2) (hc62 : (4 : Int32) < i4) :
    ∃ (T' : State) (h' : Heap) (locs' : List Loc), Stand p l e R s m args below meth c T' locs' cells slots ∧ T'.heap = h' ∧ Fr n0 locs' ∧ Keep h0 h' [o2] ∧ Ary Z h' o2 .byte 10 (own_up f_o2 (d + 4) (.int (nar .byte w))) ∧
      ∀ target, Steps p.tables e below (T'.setTop (mkF m 75 #[.val (.ref o0), .val (.int i1), .val (.ref o2), .val (.int i3), .val (.int i4)] [])) target → Steps p.tables e below (T0.setTop (mkF m 59 #[.val (.ref o0), .val (.int i1), .val (.ref o2), .val (.int i3), .val (.int i4)] [])) target := by
  obtain ⟨cl_73, Ar_73, S_73, H_73⟩ := id V_o0
  have hin73 := Ary.inn S_73 (own_ixa ixo (show own_ix (4 : Int32) 4 from rfl) (by omega)) hs
  have hat73 := Ary.get H_73 (own_ixa ixo (show own_ix (4 : Int32) 4 from rfl) (by omega)) hs (v := (.int w)) hv
  obtain ⟨cl_74, Ar_74, S_74, H_74⟩ := id V_o2
  have hin74 := Ary.inn S_74 (own_ixa ixd (show own_ix (4 : Int32) 4 from rfl) (by omega)) hd
  obtain ⟨T6, h6, X6, e6, W6, st6⟩ := stB X0 hx hZ e0 Ar_74 (j := (i3 + (4 : Int32))) hin74 (g := (mkF m 74 #[.val (.ref o0), .val (.int i1), .val (.ref o2), .val (.int i3), .val (.int i4)] [(.int w), (.int (i3 + (4 : Int32))), (.ref o2)])) rfl rfl (hb hby d2_74)
  have V_o2_6 := Ary.set Ar_74 S_74 H_74 W6 (own_ixa ixd (show own_ix (4 : Int32) 4 from rfl) (by omega))
  have K6 : Keep h0 h6 [o2] := (Keep.refl h0 [o2]).wr W6 (Or.inl (List.mem_of_getElem? (i := 0) rfl))
  have N6 := Fr.snoc X6 N0 g_o2
  refine ⟨T6, _, _, X6, e6, N6, K6, V_o2_6, fun target kt => ?_⟩
  show Steps p.tables e below (T0.setTop (mkF m 59 #[.val (.ref o0), .val (.int i1), .val (.ref o2), .val (.int i3), .val (.int i4)] [])) _
  refine XS.iload X0.here hx rfl (hb hby d2_59) rfl ?_
  show Steps p.tables e below (T0.setTop (mkF m 61 #[.val (.ref o0), .val (.int i1), .val (.ref o2), .val (.int i3), .val (.int i4)] [(.int i4)])) _
  refine XS.iconst X0.here hx rfl (hb hby d2_61) ?_
  show Steps p.tables e below (T0.setTop (mkF m 62 #[.val (.ref o0), .val (.int i1), .val (.ref o2), .val (.int i3), .val (.int i4)] [(.int (4 : Int32)), (.int i4)])) _
  refine XS.icmpNo X0.here hx rfl (hb hby d2_62) rfl (tlt hc62).2.2.2 ?_
  show Steps p.tables e below (T0.setTop (mkF m 65 #[.val (.ref o0), .val (.int i1), .val (.ref o2), .val (.int i3), .val (.int i4)] [])) _
  refine XS.aloadN X0.here hx rfl (hb hby d2_65) rfl rfl ?_
  show Steps p.tables e below (T0.setTop (mkF m 66 #[.val (.ref o0), .val (.int i1), .val (.ref o2), .val (.int i3), .val (.int i4)] [(.ref o2)])) _
  refine XS.iloadN X0.here hx rfl (hb hby d2_66) rfl ?_
  show Steps p.tables e below (T0.setTop (mkF m 67 #[.val (.ref o0), .val (.int i1), .val (.ref o2), .val (.int i3), .val (.int i4)] [(.int i3), (.ref o2)])) _
  refine XS.iconst X0.here hx rfl (hb hby d2_67) ?_
  show Steps p.tables e below (T0.setTop (mkF m 68 #[.val (.ref o0), .val (.int i1), .val (.ref o2), .val (.int i3), .val (.int i4)] [(.int (4 : Int32)), (.int i3), (.ref o2)])) _
  refine XS.iadd X0.here hx rfl (hb hby d2_68) rfl ?_
  show Steps p.tables e below (T0.setTop (mkF m 69 #[.val (.ref o0), .val (.int i1), .val (.ref o2), .val (.int i3), .val (.int i4)] [(.int (i3 + (4 : Int32))), (.ref o2)])) _
  refine XS.aloadN X0.here hx rfl (hb hby d2_69) rfl rfl ?_
  show Steps p.tables e below (T0.setTop (mkF m 70 #[.val (.ref o0), .val (.int i1), .val (.ref o2), .val (.int i3), .val (.int i4)] [(.ref o0), (.int (i3 + (4 : Int32))), (.ref o2)])) _
  refine XS.iloadN X0.here hx rfl (hb hby d2_70) rfl ?_
  show Steps p.tables e below (T0.setTop (mkF m 71 #[.val (.ref o0), .val (.int i1), .val (.ref o2), .val (.int i3), .val (.int i4)] [(.int i1), (.ref o0), (.int (i3 + (4 : Int32))), (.ref o2)])) _
  refine XS.iconst X0.here hx rfl (hb hby d2_71) ?_
  show Steps p.tables e below (T0.setTop (mkF m 72 #[.val (.ref o0), .val (.int i1), .val (.ref o2), .val (.int i3), .val (.int i4)] [(.int (4 : Int32)), (.int i1), (.ref o0), (.int (i3 + (4 : Int32))), (.ref o2)])) _
  refine XS.iadd X0.here hx rfl (hb hby d2_72) rfl ?_
  show Steps p.tables e below (T0.setTop (mkF m 73 #[.val (.ref o0), .val (.int i1), .val (.ref o2), .val (.int i3), .val (.int i4)] [(.int (i1 + (4 : Int32))), (.ref o0), (.int (i3 + (4 : Int32))), (.ref o2)])) _
  refine X0.baloadBytes hx (j := (i1 + (4 : Int32))) (v := (.int w)) (by rw [e0]; exact Ar_73.1) (State.isArrayOf_alike hZ.alike Ar_73.2.1) Ar_73.2.2 hin73 hat73 (g := (mkF m 73 #[.val (.ref o0), .val (.int i1), .val (.ref o2), .val (.int i3), .val (.int i4)] [(.int (i1 + (4 : Int32))), (.ref o0), (.int (i3 + (4 : Int32))), (.ref o2)])) rfl rfl (hb hby d2_73) _ ?_
  show Steps p.tables e below (T0.setTop (mkF m 74 #[.val (.ref o0), .val (.int i1), .val (.ref o2), .val (.int i3), .val (.int i4)] [(.int w), (.int (i3 + (4 : Int32))), (.ref o2)])) _
  refine st6 _ ?_
  exact kt
set_option maxRecDepth 65536 in
set_option maxHeartbeats 40000000 in
theorem cpt_4 {p : Program} {l : Launch} {e : Env} {R : Room} {s : State} {m : MethodId} {args : Array Value} {below : List Frame} {meth : Method} {c : Code} {T0 : State} {locs : List Loc} {cells slots : Nat} {Z : State} {a0 : Array Value} {h0 : Heap} (s0 : Slot) (s1 : Slot) (s2 : Slot) (s3 : Slot) (i4 : Int32)
    (X0 : Stand p l e R s m args below meth c T0 locs cells slots) (hx : p.tables.exec = Jvm.exec) (hZ : Z.Warmed39 s.vm) (hw : ∀ d ∈ tables_1, d.before a0 Z = true) (hby : c.code = method_4_code) (hml : c.maxLocals = 5) (hown : s.vm.findClass "com/example/patras/patras/BloomFilterHashPinLaw" = some m.cls) (e0 : T0.heap = h0) (hc62 : ¬ ((4 : Int32) < i4)) :
    ∃ (T' : State), Stand p l e R s m args below meth c T' locs cells slots ∧ T'.heap = h0 ∧
      ∀ target, Steps p.tables e below (T'.setTop (mkF m 75 #[s0, s1, s2, s3, .val (.int i4)] [])) target → Steps p.tables e below (T0.setTop (mkF m 59 #[s0, s1, s2, s3, .val (.int i4)] [])) target := by
  refine ⟨T0, X0, e0, fun target kt => ?_⟩
  show Steps p.tables e below (T0.setTop (mkF m 59 #[s0, s1, s2, s3, .val (.int i4)] [])) _
  refine XS.iload X0.here hx rfl (hb hby d2_59) rfl ?_
  show Steps p.tables e below (T0.setTop (mkF m 61 #[s0, s1, s2, s3, .val (.int i4)] [(.int i4)])) _
  refine XS.iconst X0.here hx rfl (hb hby d2_61) ?_
  show Steps p.tables e below (T0.setTop (mkF m 62 #[s0, s1, s2, s3, .val (.int i4)] [(.int (4 : Int32)), (.int i4)])) _
  refine XS.icmpYes X0.here hx rfl (pc0 := 62) (pc' := 75) rfl (hb hby d2_62) rfl (flt hc62).2.2.2 (by decide) (by decide) ?_
  exact kt
theorem cp_4 {p : Program} {l : Launch} {e : Env} {R : Room} {s : State} {m : MethodId} {args : Array Value} {below : List Frame} {meth : Method} {c : Code} {T0 : State} {locs : List Loc} {cells slots : Nat} {Z : State} {a0 : Array Value} {h0 : Heap} (o0 : Addr) (i1 : Int32) (o2 : Addr) (i3 i4 : Int32) (f g : Nat → Value) (o d n n0 : Nat) (X0 : Stand p l e R s m args below meth c T0 locs cells slots) (hx : p.tables.exec = Jvm.exec) (hZ : Z.Warmed39 s.vm) (hw : ∀ d ∈ tables_1, d.before a0 Z = true) (hby : c.code = method_4_code) (hml : c.maxLocals = 5) (hown : s.vm.findClass "com/example/patras/patras/BloomFilterHashPinLaw" = some m.cls) (e0 : T0.heap = h0) (N0 : Fr n0 locs) (ixo : own_ix i1 o) (ixd : own_ix i3 d) (ixn : own_ix i4 n) (hs : o + n ≤ 8) (hd : d + n ≤ 10) (hb : own_by 8 f) (g_o2 : n0 ≤ o2) (V0 : Ary Z h0 o0 .byte 8 f) (V2 : Ary Z h0 o2 .byte 10 g) (P : own_cp f g o d n 4) :
    ∃ (T' : State) (h' : Heap) (locs' : List Loc) (g' : Nat → Value), Stand p l e R s m args below meth c T' locs' cells slots ∧ T'.heap = h' ∧ Fr n0 locs' ∧ Keep h0 h' [o2] ∧ Ary Z h' o2 .byte 10 g' ∧ own_cp f g' o d n (4 + 1) ∧ ∀ target, Steps p.tables e below (T'.setTop (mkF m 75 #[.val (.ref o0), .val (.int i1), .val (.ref o2), .val (.int i3), .val (.int i4)] [])) target → Steps p.tables e below (T0.setTop (mkF m 59 #[.val (.ref o0), .val (.int i1), .val (.ref o2), .val (.int i3), .val (.int i4)] [])) target := by
  by_cases hc : (4 : Int32) < i4
  · have hk : 4 < n := (own_ixlt (show own_ix (4 : Int32) 4 from rfl) ixn).mp hc
    obtain ⟨w, hv⟩ := hb (o + 4) (by omega)
    obtain ⟨T1, h1, L1, X1, e1, N1, K1, V1, st1⟩ := cpf_4 o0 i1 o2 i3 i4 o d (nar .byte w) n0 f g X0 hx hZ hw hby hml hown e0 N0 ixo ixd (by omega) (by omega) hv V0 V2 g_o2 hc
    exact ⟨T1, h1, L1, _, X1, e1, N1, K1, V1, own_cps P hv, st1⟩
  · have hk : ¬ 4 < n := fun q => hc ((own_ixlt (show own_ix (4 : Int32) 4 from rfl) ixn).mpr q)
    obtain ⟨T1, X1, e1, st1⟩ := cpt_4 (.val (.ref o0)) (.val (.int i1)) (.val (.ref o2)) (.val (.int i3)) i4 X0 hx hZ hw hby hml hown e0 hc
    exact ⟨T1, h0, locs, g, X1, e1, N0, Keep.refl _ _, V2, own_cpn P hk, st1⟩
theorem d2_75 : decode method_4_code 75 = .ok (.iload 4, 2) := by decide +kernel
theorem d2_77 : decode method_4_code 77 = .ok (.iconst 5, 1) := by decide +kernel
theorem d2_78 : decode method_4_code 78 = .ok (.if_icmp .le 13, 3) := by decide +kernel
theorem d2_81 : decode method_4_code 81 = .ok (.aload_n 2, 1) := by decide +kernel
theorem d2_82 : decode method_4_code 82 = .ok (.iload_n 3, 1) := by decide +kernel
theorem d2_83 : decode method_4_code 83 = .ok (.iconst 5, 1) := by decide +kernel
theorem d2_84 : decode method_4_code 84 = .ok (.iadd, 1) := by decide +kernel
theorem d2_85 : decode method_4_code 85 = .ok (.aload_n 0, 1) := by decide +kernel
theorem d2_86 : decode method_4_code 86 = .ok (.iload_n 1, 1) := by decide +kernel
theorem d2_87 : decode method_4_code 87 = .ok (.iconst 5, 1) := by decide +kernel
theorem d2_88 : decode method_4_code 88 = .ok (.iadd, 1) := by decide +kernel
theorem d2_89 : decode method_4_code 89 = .ok (.baload, 1) := by decide +kernel
theorem d2_90 : decode method_4_code 90 = .ok (.bastore, 1) := by decide +kernel
set_option maxRecDepth 65536 in
set_option maxHeartbeats 40000000 in
theorem cpf_5 {p : Program} {l : Launch} {e : Env} {R : Room} {s : State} {m : MethodId} {args : Array Value} {below : List Frame} {meth : Method} {c : Code} {T0 : State} {locs : List Loc} {cells slots : Nat} {Z : State} {a0 : Array Value} {h0 : Heap} (o0 : Addr) (i1 : Int32) (o2 : Addr) (i3 : Int32) (i4 : Int32) (o : Nat) (d : Nat) (w : Int32) (n0 : Nat) (f_o0 : Nat → Value) (f_o2 : Nat → Value)
    (X0 : Stand p l e R s m args below meth c T0 locs cells slots) (hx : p.tables.exec = Jvm.exec) (hZ : Z.Warmed39 s.vm) (hw : ∀ d ∈ tables_1, d.before a0 Z = true) (hby : c.code = method_4_code) (hml : c.maxLocals = 5) (hown : s.vm.findClass "com/example/patras/patras/BloomFilterHashPinLaw" = some m.cls) (e0 : T0.heap = h0) (N0 : Fr n0 locs) (ixo : own_ix i1 o) (ixd : own_ix i3 d) (hs : o + 5 < 8) (hd : d + 5 < 10) (hv : f_o0 (o + 5) = .int w) (V_o0 : Ary Z h0 o0 .byte 8 f_o0) (V_o2 : Ary Z h0 o2 .byte 10 f_o2) (g_o2 : n0 ≤ o2) (hc78 : (5 : Int32) < i4) :
    ∃ (T' : State) (h' : Heap) (locs' : List Loc), Stand p l e R s m args below meth c T' locs' cells slots ∧ T'.heap = h' ∧ Fr n0 locs' ∧ Keep h0 h' [o2] ∧ Ary Z h' o2 .byte 10 (own_up f_o2 (d + 5) (.int (nar .byte w))) ∧
      ∀ target, Steps p.tables e below (T'.setTop (mkF m 91 #[.val (.ref o0), .val (.int i1), .val (.ref o2), .val (.int i3), .val (.int i4)] [])) target → Steps p.tables e below (T0.setTop (mkF m 75 #[.val (.ref o0), .val (.int i1), .val (.ref o2), .val (.int i3), .val (.int i4)] [])) target := by
  obtain ⟨cl_89, Ar_89, S_89, H_89⟩ := id V_o0
  have hin89 := Ary.inn S_89 (own_ixa ixo (show own_ix (5 : Int32) 5 from rfl) (by omega)) hs
  have hat89 := Ary.get H_89 (own_ixa ixo (show own_ix (5 : Int32) 5 from rfl) (by omega)) hs (v := (.int w)) hv
  obtain ⟨cl_90, Ar_90, S_90, H_90⟩ := id V_o2
  have hin90 := Ary.inn S_90 (own_ixa ixd (show own_ix (5 : Int32) 5 from rfl) (by omega)) hd
  obtain ⟨T6, h6, X6, e6, W6, st6⟩ := stB X0 hx hZ e0 Ar_90 (j := (i3 + (5 : Int32))) hin90 (g := (mkF m 90 #[.val (.ref o0), .val (.int i1), .val (.ref o2), .val (.int i3), .val (.int i4)] [(.int w), (.int (i3 + (5 : Int32))), (.ref o2)])) rfl rfl (hb hby d2_90)
  have V_o2_6 := Ary.set Ar_90 S_90 H_90 W6 (own_ixa ixd (show own_ix (5 : Int32) 5 from rfl) (by omega))
  have K6 : Keep h0 h6 [o2] := (Keep.refl h0 [o2]).wr W6 (Or.inl (List.mem_of_getElem? (i := 0) rfl))
  have N6 := Fr.snoc X6 N0 g_o2
  refine ⟨T6, _, _, X6, e6, N6, K6, V_o2_6, fun target kt => ?_⟩
  show Steps p.tables e below (T0.setTop (mkF m 75 #[.val (.ref o0), .val (.int i1), .val (.ref o2), .val (.int i3), .val (.int i4)] [])) _
  refine XS.iload X0.here hx rfl (hb hby d2_75) rfl ?_
  show Steps p.tables e below (T0.setTop (mkF m 77 #[.val (.ref o0), .val (.int i1), .val (.ref o2), .val (.int i3), .val (.int i4)] [(.int i4)])) _
  refine XS.iconst X0.here hx rfl (hb hby d2_77) ?_
  show Steps p.tables e below (T0.setTop (mkF m 78 #[.val (.ref o0), .val (.int i1), .val (.ref o2), .val (.int i3), .val (.int i4)] [(.int (5 : Int32)), (.int i4)])) _
  refine XS.icmpNo X0.here hx rfl (hb hby d2_78) rfl (tlt hc78).2.2.2 ?_
  show Steps p.tables e below (T0.setTop (mkF m 81 #[.val (.ref o0), .val (.int i1), .val (.ref o2), .val (.int i3), .val (.int i4)] [])) _
  refine XS.aloadN X0.here hx rfl (hb hby d2_81) rfl rfl ?_
  show Steps p.tables e below (T0.setTop (mkF m 82 #[.val (.ref o0), .val (.int i1), .val (.ref o2), .val (.int i3), .val (.int i4)] [(.ref o2)])) _
  refine XS.iloadN X0.here hx rfl (hb hby d2_82) rfl ?_
  show Steps p.tables e below (T0.setTop (mkF m 83 #[.val (.ref o0), .val (.int i1), .val (.ref o2), .val (.int i3), .val (.int i4)] [(.int i3), (.ref o2)])) _
  refine XS.iconst X0.here hx rfl (hb hby d2_83) ?_
  show Steps p.tables e below (T0.setTop (mkF m 84 #[.val (.ref o0), .val (.int i1), .val (.ref o2), .val (.int i3), .val (.int i4)] [(.int (5 : Int32)), (.int i3), (.ref o2)])) _
  refine XS.iadd X0.here hx rfl (hb hby d2_84) rfl ?_
  show Steps p.tables e below (T0.setTop (mkF m 85 #[.val (.ref o0), .val (.int i1), .val (.ref o2), .val (.int i3), .val (.int i4)] [(.int (i3 + (5 : Int32))), (.ref o2)])) _
  refine XS.aloadN X0.here hx rfl (hb hby d2_85) rfl rfl ?_
  show Steps p.tables e below (T0.setTop (mkF m 86 #[.val (.ref o0), .val (.int i1), .val (.ref o2), .val (.int i3), .val (.int i4)] [(.ref o0), (.int (i3 + (5 : Int32))), (.ref o2)])) _
  refine XS.iloadN X0.here hx rfl (hb hby d2_86) rfl ?_
  show Steps p.tables e below (T0.setTop (mkF m 87 #[.val (.ref o0), .val (.int i1), .val (.ref o2), .val (.int i3), .val (.int i4)] [(.int i1), (.ref o0), (.int (i3 + (5 : Int32))), (.ref o2)])) _
  refine XS.iconst X0.here hx rfl (hb hby d2_87) ?_
  show Steps p.tables e below (T0.setTop (mkF m 88 #[.val (.ref o0), .val (.int i1), .val (.ref o2), .val (.int i3), .val (.int i4)] [(.int (5 : Int32)), (.int i1), (.ref o0), (.int (i3 + (5 : Int32))), (.ref o2)])) _
  refine XS.iadd X0.here hx rfl (hb hby d2_88) rfl ?_
  show Steps p.tables e below (T0.setTop (mkF m 89 #[.val (.ref o0), .val (.int i1), .val (.ref o2), .val (.int i3), .val (.int i4)] [(.int (i1 + (5 : Int32))), (.ref o0), (.int (i3 + (5 : Int32))), (.ref o2)])) _
  refine X0.baloadBytes hx (j := (i1 + (5 : Int32))) (v := (.int w)) (by rw [e0]; exact Ar_89.1) (State.isArrayOf_alike hZ.alike Ar_89.2.1) Ar_89.2.2 hin89 hat89 (g := (mkF m 89 #[.val (.ref o0), .val (.int i1), .val (.ref o2), .val (.int i3), .val (.int i4)] [(.int (i1 + (5 : Int32))), (.ref o0), (.int (i3 + (5 : Int32))), (.ref o2)])) rfl rfl (hb hby d2_89) _ ?_
  show Steps p.tables e below (T0.setTop (mkF m 90 #[.val (.ref o0), .val (.int i1), .val (.ref o2), .val (.int i3), .val (.int i4)] [(.int w), (.int (i3 + (5 : Int32))), (.ref o2)])) _
  refine st6 _ ?_
  exact kt
set_option maxRecDepth 65536 in
set_option maxHeartbeats 40000000 in
theorem cpt_5 {p : Program} {l : Launch} {e : Env} {R : Room} {s : State} {m : MethodId} {args : Array Value} {below : List Frame} {meth : Method} {c : Code} {T0 : State} {locs : List Loc} {cells slots : Nat} {Z : State} {a0 : Array Value} {h0 : Heap} (s0 : Slot) (s1 : Slot) (s2 : Slot) (s3 : Slot) (i4 : Int32)
    (X0 : Stand p l e R s m args below meth c T0 locs cells slots) (hx : p.tables.exec = Jvm.exec) (hZ : Z.Warmed39 s.vm) (hw : ∀ d ∈ tables_1, d.before a0 Z = true) (hby : c.code = method_4_code) (hml : c.maxLocals = 5) (hown : s.vm.findClass "com/example/patras/patras/BloomFilterHashPinLaw" = some m.cls) (e0 : T0.heap = h0) (hc78 : ¬ ((5 : Int32) < i4)) :
    ∃ (T' : State), Stand p l e R s m args below meth c T' locs cells slots ∧ T'.heap = h0 ∧
      ∀ target, Steps p.tables e below (T'.setTop (mkF m 91 #[s0, s1, s2, s3, .val (.int i4)] [])) target → Steps p.tables e below (T0.setTop (mkF m 75 #[s0, s1, s2, s3, .val (.int i4)] [])) target := by
  refine ⟨T0, X0, e0, fun target kt => ?_⟩
  show Steps p.tables e below (T0.setTop (mkF m 75 #[s0, s1, s2, s3, .val (.int i4)] [])) _
  refine XS.iload X0.here hx rfl (hb hby d2_75) rfl ?_
  show Steps p.tables e below (T0.setTop (mkF m 77 #[s0, s1, s2, s3, .val (.int i4)] [(.int i4)])) _
  refine XS.iconst X0.here hx rfl (hb hby d2_77) ?_
  show Steps p.tables e below (T0.setTop (mkF m 78 #[s0, s1, s2, s3, .val (.int i4)] [(.int (5 : Int32)), (.int i4)])) _
  refine XS.icmpYes X0.here hx rfl (pc0 := 78) (pc' := 91) rfl (hb hby d2_78) rfl (flt hc78).2.2.2 (by decide) (by decide) ?_
  exact kt
theorem cp_5 {p : Program} {l : Launch} {e : Env} {R : Room} {s : State} {m : MethodId} {args : Array Value} {below : List Frame} {meth : Method} {c : Code} {T0 : State} {locs : List Loc} {cells slots : Nat} {Z : State} {a0 : Array Value} {h0 : Heap} (o0 : Addr) (i1 : Int32) (o2 : Addr) (i3 i4 : Int32) (f g : Nat → Value) (o d n n0 : Nat) (X0 : Stand p l e R s m args below meth c T0 locs cells slots) (hx : p.tables.exec = Jvm.exec) (hZ : Z.Warmed39 s.vm) (hw : ∀ d ∈ tables_1, d.before a0 Z = true) (hby : c.code = method_4_code) (hml : c.maxLocals = 5) (hown : s.vm.findClass "com/example/patras/patras/BloomFilterHashPinLaw" = some m.cls) (e0 : T0.heap = h0) (N0 : Fr n0 locs) (ixo : own_ix i1 o) (ixd : own_ix i3 d) (ixn : own_ix i4 n) (hs : o + n ≤ 8) (hd : d + n ≤ 10) (hb : own_by 8 f) (g_o2 : n0 ≤ o2) (V0 : Ary Z h0 o0 .byte 8 f) (V2 : Ary Z h0 o2 .byte 10 g) (P : own_cp f g o d n 5) :
    ∃ (T' : State) (h' : Heap) (locs' : List Loc) (g' : Nat → Value), Stand p l e R s m args below meth c T' locs' cells slots ∧ T'.heap = h' ∧ Fr n0 locs' ∧ Keep h0 h' [o2] ∧ Ary Z h' o2 .byte 10 g' ∧ own_cp f g' o d n (5 + 1) ∧ ∀ target, Steps p.tables e below (T'.setTop (mkF m 91 #[.val (.ref o0), .val (.int i1), .val (.ref o2), .val (.int i3), .val (.int i4)] [])) target → Steps p.tables e below (T0.setTop (mkF m 75 #[.val (.ref o0), .val (.int i1), .val (.ref o2), .val (.int i3), .val (.int i4)] [])) target := by
  by_cases hc : (5 : Int32) < i4
  · have hk : 5 < n := (own_ixlt (show own_ix (5 : Int32) 5 from rfl) ixn).mp hc
    obtain ⟨w, hv⟩ := hb (o + 5) (by omega)
    obtain ⟨T1, h1, L1, X1, e1, N1, K1, V1, st1⟩ := cpf_5 o0 i1 o2 i3 i4 o d (nar .byte w) n0 f g X0 hx hZ hw hby hml hown e0 N0 ixo ixd (by omega) (by omega) hv V0 V2 g_o2 hc
    exact ⟨T1, h1, L1, _, X1, e1, N1, K1, V1, own_cps P hv, st1⟩
  · have hk : ¬ 5 < n := fun q => hc ((own_ixlt (show own_ix (5 : Int32) 5 from rfl) ixn).mpr q)
    obtain ⟨T1, X1, e1, st1⟩ := cpt_5 (.val (.ref o0)) (.val (.int i1)) (.val (.ref o2)) (.val (.int i3)) i4 X0 hx hZ hw hby hml hown e0 hc
    exact ⟨T1, h0, locs, g, X1, e1, N0, Keep.refl _ _, V2, own_cpn P hk, st1⟩
theorem d2_91 : decode method_4_code 91 = .ok (.iload 4, 2) := by decide +kernel
theorem d2_93 : decode method_4_code 93 = .ok (.bipush 6, 2) := by decide +kernel
theorem d2_95 : decode method_4_code 95 = .ok (.if_icmp .le 15, 3) := by decide +kernel
theorem d2_98 : decode method_4_code 98 = .ok (.aload_n 2, 1) := by decide +kernel
theorem d2_99 : decode method_4_code 99 = .ok (.iload_n 3, 1) := by decide +kernel
theorem d2_100 : decode method_4_code 100 = .ok (.bipush 6, 2) := by decide +kernel
theorem d2_102 : decode method_4_code 102 = .ok (.iadd, 1) := by decide +kernel
theorem d2_103 : decode method_4_code 103 = .ok (.aload_n 0, 1) := by decide +kernel
theorem d2_104 : decode method_4_code 104 = .ok (.iload_n 1, 1) := by decide +kernel
theorem d2_105 : decode method_4_code 105 = .ok (.bipush 6, 2) := by decide +kernel
theorem d2_107 : decode method_4_code 107 = .ok (.iadd, 1) := by decide +kernel
theorem d2_108 : decode method_4_code 108 = .ok (.baload, 1) := by decide +kernel
theorem d2_109 : decode method_4_code 109 = .ok (.bastore, 1) := by decide +kernel
set_option maxRecDepth 65536 in
set_option maxHeartbeats 40000000 in
theorem cpf_6 {p : Program} {l : Launch} {e : Env} {R : Room} {s : State} {m : MethodId} {args : Array Value} {below : List Frame} {meth : Method} {c : Code} {T0 : State} {locs : List Loc} {cells slots : Nat} {Z : State} {a0 : Array Value} {h0 : Heap} (o0 : Addr) (i1 : Int32) (o2 : Addr) (i3 : Int32) (i4 : Int32) (o : Nat) (d : Nat) (w : Int32) (n0 : Nat) (f_o0 : Nat → Value) (f_o2 : Nat → Value)
    (X0 : Stand p l e R s m args below meth c T0 locs cells slots) (hx : p.tables.exec = Jvm.exec) (hZ : Z.Warmed39 s.vm) (hw : ∀ d ∈ tables_1, d.before a0 Z = true) (hby : c.code = method_4_code) (hml : c.maxLocals = 5) (hown : s.vm.findClass "com/example/patras/patras/BloomFilterHashPinLaw" = some m.cls) (e0 : T0.heap = h0) (N0 : Fr n0 locs) (ixo : own_ix i1 o) (ixd : own_ix i3 d) (hs : o + 6 < 8) (hd : d + 6 < 10) (hv : f_o0 (o + 6) = .int w) (V_o0 : Ary Z h0 o0 .byte 8 f_o0) (V_o2 : Ary Z h0 o2 .byte 10 f_o2) (g_o2 : n0 ≤ o2) (hc95 : (6 : Int32) < i4) :
    ∃ (T' : State) (h' : Heap) (locs' : List Loc), Stand p l e R s m args below meth c T' locs' cells slots ∧ T'.heap = h' ∧ Fr n0 locs' ∧ Keep h0 h' [o2] ∧ Ary Z h' o2 .byte 10 (own_up f_o2 (d + 6) (.int (nar .byte w))) ∧
      ∀ target, Steps p.tables e below (T'.setTop (mkF m 110 #[.val (.ref o0), .val (.int i1), .val (.ref o2), .val (.int i3), .val (.int i4)] [])) target → Steps p.tables e below (T0.setTop (mkF m 91 #[.val (.ref o0), .val (.int i1), .val (.ref o2), .val (.int i3), .val (.int i4)] [])) target := by
  obtain ⟨cl_108, Ar_108, S_108, H_108⟩ := id V_o0
  have hin108 := Ary.inn S_108 (own_ixa ixo (show own_ix (6 : Int32) 6 from rfl) (by omega)) hs
  have hat108 := Ary.get H_108 (own_ixa ixo (show own_ix (6 : Int32) 6 from rfl) (by omega)) hs (v := (.int w)) hv
  obtain ⟨cl_109, Ar_109, S_109, H_109⟩ := id V_o2
  have hin109 := Ary.inn S_109 (own_ixa ixd (show own_ix (6 : Int32) 6 from rfl) (by omega)) hd
  obtain ⟨T6, h6, X6, e6, W6, st6⟩ := stB X0 hx hZ e0 Ar_109 (j := (i3 + (6 : Int32))) hin109 (g := (mkF m 109 #[.val (.ref o0), .val (.int i1), .val (.ref o2), .val (.int i3), .val (.int i4)] [(.int w), (.int (i3 + (6 : Int32))), (.ref o2)])) rfl rfl (hb hby d2_109)
  have V_o2_6 := Ary.set Ar_109 S_109 H_109 W6 (own_ixa ixd (show own_ix (6 : Int32) 6 from rfl) (by omega))
  have K6 : Keep h0 h6 [o2] := (Keep.refl h0 [o2]).wr W6 (Or.inl (List.mem_of_getElem? (i := 0) rfl))
  have N6 := Fr.snoc X6 N0 g_o2
  refine ⟨T6, _, _, X6, e6, N6, K6, V_o2_6, fun target kt => ?_⟩
  show Steps p.tables e below (T0.setTop (mkF m 91 #[.val (.ref o0), .val (.int i1), .val (.ref o2), .val (.int i3), .val (.int i4)] [])) _
  refine XS.iload X0.here hx rfl (hb hby d2_91) rfl ?_
  show Steps p.tables e below (T0.setTop (mkF m 93 #[.val (.ref o0), .val (.int i1), .val (.ref o2), .val (.int i3), .val (.int i4)] [(.int i4)])) _
  refine XS.bipush X0.here hx rfl (hb hby d2_93) ?_
  show Steps p.tables e below (T0.setTop (mkF m 95 #[.val (.ref o0), .val (.int i1), .val (.ref o2), .val (.int i3), .val (.int i4)] [(.int (6 : Int32)), (.int i4)])) _
  refine XS.icmpNo X0.here hx rfl (hb hby d2_95) rfl (tlt hc95).2.2.2 ?_
  show Steps p.tables e below (T0.setTop (mkF m 98 #[.val (.ref o0), .val (.int i1), .val (.ref o2), .val (.int i3), .val (.int i4)] [])) _
  refine XS.aloadN X0.here hx rfl (hb hby d2_98) rfl rfl ?_
  show Steps p.tables e below (T0.setTop (mkF m 99 #[.val (.ref o0), .val (.int i1), .val (.ref o2), .val (.int i3), .val (.int i4)] [(.ref o2)])) _
  refine XS.iloadN X0.here hx rfl (hb hby d2_99) rfl ?_
  show Steps p.tables e below (T0.setTop (mkF m 100 #[.val (.ref o0), .val (.int i1), .val (.ref o2), .val (.int i3), .val (.int i4)] [(.int i3), (.ref o2)])) _
  refine XS.bipush X0.here hx rfl (hb hby d2_100) ?_
  show Steps p.tables e below (T0.setTop (mkF m 102 #[.val (.ref o0), .val (.int i1), .val (.ref o2), .val (.int i3), .val (.int i4)] [(.int (6 : Int32)), (.int i3), (.ref o2)])) _
  refine XS.iadd X0.here hx rfl (hb hby d2_102) rfl ?_
  show Steps p.tables e below (T0.setTop (mkF m 103 #[.val (.ref o0), .val (.int i1), .val (.ref o2), .val (.int i3), .val (.int i4)] [(.int (i3 + (6 : Int32))), (.ref o2)])) _
  refine XS.aloadN X0.here hx rfl (hb hby d2_103) rfl rfl ?_
  show Steps p.tables e below (T0.setTop (mkF m 104 #[.val (.ref o0), .val (.int i1), .val (.ref o2), .val (.int i3), .val (.int i4)] [(.ref o0), (.int (i3 + (6 : Int32))), (.ref o2)])) _
  refine XS.iloadN X0.here hx rfl (hb hby d2_104) rfl ?_
  show Steps p.tables e below (T0.setTop (mkF m 105 #[.val (.ref o0), .val (.int i1), .val (.ref o2), .val (.int i3), .val (.int i4)] [(.int i1), (.ref o0), (.int (i3 + (6 : Int32))), (.ref o2)])) _
  refine XS.bipush X0.here hx rfl (hb hby d2_105) ?_
  show Steps p.tables e below (T0.setTop (mkF m 107 #[.val (.ref o0), .val (.int i1), .val (.ref o2), .val (.int i3), .val (.int i4)] [(.int (6 : Int32)), (.int i1), (.ref o0), (.int (i3 + (6 : Int32))), (.ref o2)])) _
  refine XS.iadd X0.here hx rfl (hb hby d2_107) rfl ?_
  show Steps p.tables e below (T0.setTop (mkF m 108 #[.val (.ref o0), .val (.int i1), .val (.ref o2), .val (.int i3), .val (.int i4)] [(.int (i1 + (6 : Int32))), (.ref o0), (.int (i3 + (6 : Int32))), (.ref o2)])) _
  refine X0.baloadBytes hx (j := (i1 + (6 : Int32))) (v := (.int w)) (by rw [e0]; exact Ar_108.1) (State.isArrayOf_alike hZ.alike Ar_108.2.1) Ar_108.2.2 hin108 hat108 (g := (mkF m 108 #[.val (.ref o0), .val (.int i1), .val (.ref o2), .val (.int i3), .val (.int i4)] [(.int (i1 + (6 : Int32))), (.ref o0), (.int (i3 + (6 : Int32))), (.ref o2)])) rfl rfl (hb hby d2_108) _ ?_
  show Steps p.tables e below (T0.setTop (mkF m 109 #[.val (.ref o0), .val (.int i1), .val (.ref o2), .val (.int i3), .val (.int i4)] [(.int w), (.int (i3 + (6 : Int32))), (.ref o2)])) _
  refine st6 _ ?_
  exact kt
set_option maxRecDepth 65536 in
set_option maxHeartbeats 40000000 in
theorem cpt_6 {p : Program} {l : Launch} {e : Env} {R : Room} {s : State} {m : MethodId} {args : Array Value} {below : List Frame} {meth : Method} {c : Code} {T0 : State} {locs : List Loc} {cells slots : Nat} {Z : State} {a0 : Array Value} {h0 : Heap} (s0 : Slot) (s1 : Slot) (s2 : Slot) (s3 : Slot) (i4 : Int32)
    (X0 : Stand p l e R s m args below meth c T0 locs cells slots) (hx : p.tables.exec = Jvm.exec) (hZ : Z.Warmed39 s.vm) (hw : ∀ d ∈ tables_1, d.before a0 Z = true) (hby : c.code = method_4_code) (hml : c.maxLocals = 5) (hown : s.vm.findClass "com/example/patras/patras/BloomFilterHashPinLaw" = some m.cls) (e0 : T0.heap = h0) (hc95 : ¬ ((6 : Int32) < i4)) :
    ∃ (T' : State), Stand p l e R s m args below meth c T' locs cells slots ∧ T'.heap = h0 ∧
      ∀ target, Steps p.tables e below (T'.setTop (mkF m 110 #[s0, s1, s2, s3, .val (.int i4)] [])) target → Steps p.tables e below (T0.setTop (mkF m 91 #[s0, s1, s2, s3, .val (.int i4)] [])) target := by
  refine ⟨T0, X0, e0, fun target kt => ?_⟩
  show Steps p.tables e below (T0.setTop (mkF m 91 #[s0, s1, s2, s3, .val (.int i4)] [])) _
  refine XS.iload X0.here hx rfl (hb hby d2_91) rfl ?_
  show Steps p.tables e below (T0.setTop (mkF m 93 #[s0, s1, s2, s3, .val (.int i4)] [(.int i4)])) _
  refine XS.bipush X0.here hx rfl (hb hby d2_93) ?_
  show Steps p.tables e below (T0.setTop (mkF m 95 #[s0, s1, s2, s3, .val (.int i4)] [(.int (6 : Int32)), (.int i4)])) _
  refine XS.icmpYes X0.here hx rfl (pc0 := 95) (pc' := 110) rfl (hb hby d2_95) rfl (flt hc95).2.2.2 (by decide) (by decide) ?_
  exact kt
theorem cp_6 {p : Program} {l : Launch} {e : Env} {R : Room} {s : State} {m : MethodId} {args : Array Value} {below : List Frame} {meth : Method} {c : Code} {T0 : State} {locs : List Loc} {cells slots : Nat} {Z : State} {a0 : Array Value} {h0 : Heap} (o0 : Addr) (i1 : Int32) (o2 : Addr) (i3 i4 : Int32) (f g : Nat → Value) (o d n n0 : Nat) (X0 : Stand p l e R s m args below meth c T0 locs cells slots) (hx : p.tables.exec = Jvm.exec) (hZ : Z.Warmed39 s.vm) (hw : ∀ d ∈ tables_1, d.before a0 Z = true) (hby : c.code = method_4_code) (hml : c.maxLocals = 5) (hown : s.vm.findClass "com/example/patras/patras/BloomFilterHashPinLaw" = some m.cls) (e0 : T0.heap = h0) (N0 : Fr n0 locs) (ixo : own_ix i1 o) (ixd : own_ix i3 d) (ixn : own_ix i4 n) (hs : o + n ≤ 8) (hd : d + n ≤ 10) (hb : own_by 8 f) (g_o2 : n0 ≤ o2) (V0 : Ary Z h0 o0 .byte 8 f) (V2 : Ary Z h0 o2 .byte 10 g) (P : own_cp f g o d n 6) :
    ∃ (T' : State) (h' : Heap) (locs' : List Loc) (g' : Nat → Value), Stand p l e R s m args below meth c T' locs' cells slots ∧ T'.heap = h' ∧ Fr n0 locs' ∧ Keep h0 h' [o2] ∧ Ary Z h' o2 .byte 10 g' ∧ own_cp f g' o d n (6 + 1) ∧ ∀ target, Steps p.tables e below (T'.setTop (mkF m 110 #[.val (.ref o0), .val (.int i1), .val (.ref o2), .val (.int i3), .val (.int i4)] [])) target → Steps p.tables e below (T0.setTop (mkF m 91 #[.val (.ref o0), .val (.int i1), .val (.ref o2), .val (.int i3), .val (.int i4)] [])) target := by
  by_cases hc : (6 : Int32) < i4
  · have hk : 6 < n := (own_ixlt (show own_ix (6 : Int32) 6 from rfl) ixn).mp hc
    obtain ⟨w, hv⟩ := hb (o + 6) (by omega)
    obtain ⟨T1, h1, L1, X1, e1, N1, K1, V1, st1⟩ := cpf_6 o0 i1 o2 i3 i4 o d (nar .byte w) n0 f g X0 hx hZ hw hby hml hown e0 N0 ixo ixd (by omega) (by omega) hv V0 V2 g_o2 hc
    exact ⟨T1, h1, L1, _, X1, e1, N1, K1, V1, own_cps P hv, st1⟩
  · have hk : ¬ 6 < n := fun q => hc ((own_ixlt (show own_ix (6 : Int32) 6 from rfl) ixn).mpr q)
    obtain ⟨T1, X1, e1, st1⟩ := cpt_6 (.val (.ref o0)) (.val (.int i1)) (.val (.ref o2)) (.val (.int i3)) i4 X0 hx hZ hw hby hml hown e0 hc
    exact ⟨T1, h0, locs, g, X1, e1, N0, Keep.refl _ _, V2, own_cpn P hk, st1⟩
theorem d2_110 : decode method_4_code 110 = .ok (.iload 4, 2) := by decide +kernel
theorem d2_112 : decode method_4_code 112 = .ok (.bipush 7, 2) := by decide +kernel
theorem d2_114 : decode method_4_code 114 = .ok (.if_icmp .le 15, 3) := by decide +kernel
theorem d2_117 : decode method_4_code 117 = .ok (.aload_n 2, 1) := by decide +kernel
theorem d2_118 : decode method_4_code 118 = .ok (.iload_n 3, 1) := by decide +kernel
theorem d2_119 : decode method_4_code 119 = .ok (.bipush 7, 2) := by decide +kernel
theorem d2_121 : decode method_4_code 121 = .ok (.iadd, 1) := by decide +kernel
theorem d2_122 : decode method_4_code 122 = .ok (.aload_n 0, 1) := by decide +kernel
theorem d2_123 : decode method_4_code 123 = .ok (.iload_n 1, 1) := by decide +kernel
theorem d2_124 : decode method_4_code 124 = .ok (.bipush 7, 2) := by decide +kernel
theorem d2_126 : decode method_4_code 126 = .ok (.iadd, 1) := by decide +kernel
theorem d2_127 : decode method_4_code 127 = .ok (.baload, 1) := by decide +kernel
theorem d2_128 : decode method_4_code 128 = .ok (.bastore, 1) := by decide +kernel
set_option maxRecDepth 65536 in
set_option maxHeartbeats 40000000 in
theorem cpf_7 {p : Program} {l : Launch} {e : Env} {R : Room} {s : State} {m : MethodId} {args : Array Value} {below : List Frame} {meth : Method} {c : Code} {T0 : State} {locs : List Loc} {cells slots : Nat} {Z : State} {a0 : Array Value} {h0 : Heap} (o0 : Addr) (i1 : Int32) (o2 : Addr) (i3 : Int32) (i4 : Int32) (o : Nat) (d : Nat) (w : Int32) (n0 : Nat) (f_o0 : Nat → Value) (f_o2 : Nat → Value)
    (X0 : Stand p l e R s m args below meth c T0 locs cells slots) (hx : p.tables.exec = Jvm.exec) (hZ : Z.Warmed39 s.vm) (hw : ∀ d ∈ tables_1, d.before a0 Z = true) (hby : c.code = method_4_code) (hml : c.maxLocals = 5) (hown : s.vm.findClass "com/example/patras/patras/BloomFilterHashPinLaw" = some m.cls) (e0 : T0.heap = h0) (N0 : Fr n0 locs) (ixo : own_ix i1 o) (ixd : own_ix i3 d) (hs : o + 7 < 8) (hd : d + 7 < 10) (hv : f_o0 (o + 7) = .int w) (V_o0 : Ary Z h0 o0 .byte 8 f_o0) (V_o2 : Ary Z h0 o2 .byte 10 f_o2) (g_o2 : n0 ≤ o2) (hc114 : (7 : Int32) < i4) :
    ∃ (T' : State) (h' : Heap) (locs' : List Loc), Stand p l e R s m args below meth c T' locs' cells slots ∧ T'.heap = h' ∧ Fr n0 locs' ∧ Keep h0 h' [o2] ∧ Ary Z h' o2 .byte 10 (own_up f_o2 (d + 7) (.int (nar .byte w))) ∧
      ∀ target, Steps p.tables e below (T'.setTop (mkF m 129 #[.val (.ref o0), .val (.int i1), .val (.ref o2), .val (.int i3), .val (.int i4)] [])) target → Steps p.tables e below (T0.setTop (mkF m 110 #[.val (.ref o0), .val (.int i1), .val (.ref o2), .val (.int i3), .val (.int i4)] [])) target := by
  obtain ⟨cl_127, Ar_127, S_127, H_127⟩ := id V_o0
  have hin127 := Ary.inn S_127 (own_ixa ixo (show own_ix (7 : Int32) 7 from rfl) (by omega)) hs
  have hat127 := Ary.get H_127 (own_ixa ixo (show own_ix (7 : Int32) 7 from rfl) (by omega)) hs (v := (.int w)) hv
  obtain ⟨cl_128, Ar_128, S_128, H_128⟩ := id V_o2
  have hin128 := Ary.inn S_128 (own_ixa ixd (show own_ix (7 : Int32) 7 from rfl) (by omega)) hd
  obtain ⟨T6, h6, X6, e6, W6, st6⟩ := stB X0 hx hZ e0 Ar_128 (j := (i3 + (7 : Int32))) hin128 (g := (mkF m 128 #[.val (.ref o0), .val (.int i1), .val (.ref o2), .val (.int i3), .val (.int i4)] [(.int w), (.int (i3 + (7 : Int32))), (.ref o2)])) rfl rfl (hb hby d2_128)
  have V_o2_6 := Ary.set Ar_128 S_128 H_128 W6 (own_ixa ixd (show own_ix (7 : Int32) 7 from rfl) (by omega))
  have K6 : Keep h0 h6 [o2] := (Keep.refl h0 [o2]).wr W6 (Or.inl (List.mem_of_getElem? (i := 0) rfl))
  have N6 := Fr.snoc X6 N0 g_o2
  refine ⟨T6, _, _, X6, e6, N6, K6, V_o2_6, fun target kt => ?_⟩
  show Steps p.tables e below (T0.setTop (mkF m 110 #[.val (.ref o0), .val (.int i1), .val (.ref o2), .val (.int i3), .val (.int i4)] [])) _
  refine XS.iload X0.here hx rfl (hb hby d2_110) rfl ?_
  show Steps p.tables e below (T0.setTop (mkF m 112 #[.val (.ref o0), .val (.int i1), .val (.ref o2), .val (.int i3), .val (.int i4)] [(.int i4)])) _
  refine XS.bipush X0.here hx rfl (hb hby d2_112) ?_
  show Steps p.tables e below (T0.setTop (mkF m 114 #[.val (.ref o0), .val (.int i1), .val (.ref o2), .val (.int i3), .val (.int i4)] [(.int (7 : Int32)), (.int i4)])) _
  refine XS.icmpNo X0.here hx rfl (hb hby d2_114) rfl (tlt hc114).2.2.2 ?_
  show Steps p.tables e below (T0.setTop (mkF m 117 #[.val (.ref o0), .val (.int i1), .val (.ref o2), .val (.int i3), .val (.int i4)] [])) _
  refine XS.aloadN X0.here hx rfl (hb hby d2_117) rfl rfl ?_
  show Steps p.tables e below (T0.setTop (mkF m 118 #[.val (.ref o0), .val (.int i1), .val (.ref o2), .val (.int i3), .val (.int i4)] [(.ref o2)])) _
  refine XS.iloadN X0.here hx rfl (hb hby d2_118) rfl ?_
  show Steps p.tables e below (T0.setTop (mkF m 119 #[.val (.ref o0), .val (.int i1), .val (.ref o2), .val (.int i3), .val (.int i4)] [(.int i3), (.ref o2)])) _
  refine XS.bipush X0.here hx rfl (hb hby d2_119) ?_
  show Steps p.tables e below (T0.setTop (mkF m 121 #[.val (.ref o0), .val (.int i1), .val (.ref o2), .val (.int i3), .val (.int i4)] [(.int (7 : Int32)), (.int i3), (.ref o2)])) _
  refine XS.iadd X0.here hx rfl (hb hby d2_121) rfl ?_
  show Steps p.tables e below (T0.setTop (mkF m 122 #[.val (.ref o0), .val (.int i1), .val (.ref o2), .val (.int i3), .val (.int i4)] [(.int (i3 + (7 : Int32))), (.ref o2)])) _
  refine XS.aloadN X0.here hx rfl (hb hby d2_122) rfl rfl ?_
  show Steps p.tables e below (T0.setTop (mkF m 123 #[.val (.ref o0), .val (.int i1), .val (.ref o2), .val (.int i3), .val (.int i4)] [(.ref o0), (.int (i3 + (7 : Int32))), (.ref o2)])) _
  refine XS.iloadN X0.here hx rfl (hb hby d2_123) rfl ?_
  show Steps p.tables e below (T0.setTop (mkF m 124 #[.val (.ref o0), .val (.int i1), .val (.ref o2), .val (.int i3), .val (.int i4)] [(.int i1), (.ref o0), (.int (i3 + (7 : Int32))), (.ref o2)])) _
  refine XS.bipush X0.here hx rfl (hb hby d2_124) ?_
  show Steps p.tables e below (T0.setTop (mkF m 126 #[.val (.ref o0), .val (.int i1), .val (.ref o2), .val (.int i3), .val (.int i4)] [(.int (7 : Int32)), (.int i1), (.ref o0), (.int (i3 + (7 : Int32))), (.ref o2)])) _
  refine XS.iadd X0.here hx rfl (hb hby d2_126) rfl ?_
  show Steps p.tables e below (T0.setTop (mkF m 127 #[.val (.ref o0), .val (.int i1), .val (.ref o2), .val (.int i3), .val (.int i4)] [(.int (i1 + (7 : Int32))), (.ref o0), (.int (i3 + (7 : Int32))), (.ref o2)])) _
  refine X0.baloadBytes hx (j := (i1 + (7 : Int32))) (v := (.int w)) (by rw [e0]; exact Ar_127.1) (State.isArrayOf_alike hZ.alike Ar_127.2.1) Ar_127.2.2 hin127 hat127 (g := (mkF m 127 #[.val (.ref o0), .val (.int i1), .val (.ref o2), .val (.int i3), .val (.int i4)] [(.int (i1 + (7 : Int32))), (.ref o0), (.int (i3 + (7 : Int32))), (.ref o2)])) rfl rfl (hb hby d2_127) _ ?_
  show Steps p.tables e below (T0.setTop (mkF m 128 #[.val (.ref o0), .val (.int i1), .val (.ref o2), .val (.int i3), .val (.int i4)] [(.int w), (.int (i3 + (7 : Int32))), (.ref o2)])) _
  refine st6 _ ?_
  exact kt
set_option maxRecDepth 65536 in
set_option maxHeartbeats 40000000 in
theorem cpt_7 {p : Program} {l : Launch} {e : Env} {R : Room} {s : State} {m : MethodId} {args : Array Value} {below : List Frame} {meth : Method} {c : Code} {T0 : State} {locs : List Loc} {cells slots : Nat} {Z : State} {a0 : Array Value} {h0 : Heap} (s0 : Slot) (s1 : Slot) (s2 : Slot) (s3 : Slot) (i4 : Int32)
    (X0 : Stand p l e R s m args below meth c T0 locs cells slots) (hx : p.tables.exec = Jvm.exec) (hZ : Z.Warmed39 s.vm) (hw : ∀ d ∈ tables_1, d.before a0 Z = true) (hby : c.code = method_4_code) (hml : c.maxLocals = 5) (hown : s.vm.findClass "com/example/patras/patras/BloomFilterHashPinLaw" = some m.cls) (e0 : T0.heap = h0) (hc114 : ¬ ((7 : Int32) < i4)) :
    ∃ (T' : State), Stand p l e R s m args below meth c T' locs cells slots ∧ T'.heap = h0 ∧
      ∀ target, Steps p.tables e below (T'.setTop (mkF m 129 #[s0, s1, s2, s3, .val (.int i4)] [])) target → Steps p.tables e below (T0.setTop (mkF m 110 #[s0, s1, s2, s3, .val (.int i4)] [])) target := by
  refine ⟨T0, X0, e0, fun target kt => ?_⟩
  show Steps p.tables e below (T0.setTop (mkF m 110 #[s0, s1, s2, s3, .val (.int i4)] [])) _
  refine XS.iload X0.here hx rfl (hb hby d2_110) rfl ?_
  show Steps p.tables e below (T0.setTop (mkF m 112 #[s0, s1, s2, s3, .val (.int i4)] [(.int i4)])) _
  refine XS.bipush X0.here hx rfl (hb hby d2_112) ?_
  show Steps p.tables e below (T0.setTop (mkF m 114 #[s0, s1, s2, s3, .val (.int i4)] [(.int (7 : Int32)), (.int i4)])) _
  refine XS.icmpYes X0.here hx rfl (pc0 := 114) (pc' := 129) rfl (hb hby d2_114) rfl (flt hc114).2.2.2 (by decide) (by decide) ?_
  exact kt
theorem cp_7 {p : Program} {l : Launch} {e : Env} {R : Room} {s : State} {m : MethodId} {args : Array Value} {below : List Frame} {meth : Method} {c : Code} {T0 : State} {locs : List Loc} {cells slots : Nat} {Z : State} {a0 : Array Value} {h0 : Heap} (o0 : Addr) (i1 : Int32) (o2 : Addr) (i3 i4 : Int32) (f g : Nat → Value) (o d n n0 : Nat) (X0 : Stand p l e R s m args below meth c T0 locs cells slots) (hx : p.tables.exec = Jvm.exec) (hZ : Z.Warmed39 s.vm) (hw : ∀ d ∈ tables_1, d.before a0 Z = true) (hby : c.code = method_4_code) (hml : c.maxLocals = 5) (hown : s.vm.findClass "com/example/patras/patras/BloomFilterHashPinLaw" = some m.cls) (e0 : T0.heap = h0) (N0 : Fr n0 locs) (ixo : own_ix i1 o) (ixd : own_ix i3 d) (ixn : own_ix i4 n) (hs : o + n ≤ 8) (hd : d + n ≤ 10) (hb : own_by 8 f) (g_o2 : n0 ≤ o2) (V0 : Ary Z h0 o0 .byte 8 f) (V2 : Ary Z h0 o2 .byte 10 g) (P : own_cp f g o d n 7) :
    ∃ (T' : State) (h' : Heap) (locs' : List Loc) (g' : Nat → Value), Stand p l e R s m args below meth c T' locs' cells slots ∧ T'.heap = h' ∧ Fr n0 locs' ∧ Keep h0 h' [o2] ∧ Ary Z h' o2 .byte 10 g' ∧ own_cp f g' o d n (7 + 1) ∧ ∀ target, Steps p.tables e below (T'.setTop (mkF m 129 #[.val (.ref o0), .val (.int i1), .val (.ref o2), .val (.int i3), .val (.int i4)] [])) target → Steps p.tables e below (T0.setTop (mkF m 110 #[.val (.ref o0), .val (.int i1), .val (.ref o2), .val (.int i3), .val (.int i4)] [])) target := by
  by_cases hc : (7 : Int32) < i4
  · have hk : 7 < n := (own_ixlt (show own_ix (7 : Int32) 7 from rfl) ixn).mp hc
    obtain ⟨w, hv⟩ := hb (o + 7) (by omega)
    obtain ⟨T1, h1, L1, X1, e1, N1, K1, V1, st1⟩ := cpf_7 o0 i1 o2 i3 i4 o d (nar .byte w) n0 f g X0 hx hZ hw hby hml hown e0 N0 ixo ixd (by omega) (by omega) hv V0 V2 g_o2 hc
    exact ⟨T1, h1, L1, _, X1, e1, N1, K1, V1, own_cps P hv, st1⟩
  · have hk : ¬ 7 < n := fun q => hc ((own_ixlt (show own_ix (7 : Int32) 7 from rfl) ixn).mpr q)
    obtain ⟨T1, X1, e1, st1⟩ := cpt_7 (.val (.ref o0)) (.val (.int i1)) (.val (.ref o2)) (.val (.int i3)) i4 X0 hx hZ hw hby hml hown e0 hc
    exact ⟨T1, h0, locs, g, X1, e1, N0, Keep.refl _ _, V2, own_cpn P hk, st1⟩
theorem d2_129 : decode method_4_code 129 = .ok (.return_, 1) := by decide +kernel
theorem pn_2 : plainName "com/example/patras/patras/BloomFilterHashPinLaw" = true := by first | (simp [plainName, overriddenIn]; done) | decide +kernel
theorem ef_2 (m : MethodId) (x0 : Addr) (x1 : Int32) (x2 : Addr) (x3 : Int32) (x4 : Int32) : entryFrame m #[(.ref x0), (.int x1), (.ref x2), (.int x3), (.int x4)] 5 = mkF m 0 #[.val (.ref x0), .val (.int x1), .val (.ref x2), .val (.int x3), .val (.int x4)] [] := by first | (simp [entryFrame, mkF, argsToLocals, Value.category]; done) | rfl
def Q2 (Z : State) (a1 : Addr) (p2 : Int32) (a3 : Addr) (p4 : Int32) (p5 : Int32) (f : Nat → Value) (g : Nat → Value) (ko : Nat) (d : Nat) (n : Nat) (h0 : Heap) (n0 : Nat) (v : Option Value) (h : Heap) (L : List Loc) : Prop := v = none ∧ Fr n0 L ∧ Keep h0 h [a3] ∧ ∃ g', Ary Z h a3 .byte 10 g' ∧ own_cp f g' ko d n 8
set_option maxRecDepth 65536 in
set_option maxHeartbeats 40000000 in
theorem rm2 (l : Launch) (Z : State) (a0 : Array Value) (hw : ∀ d ∈ tables_1, d.before a0 Z = true) (ws : List Jvm.Cond) (a1 : Addr) (p2 : Int32) (a3 : Addr) (p4 : Int32) (p5 : Int32) (f : Nat → Value) (g : Nat → Value) (ko : Nat) (d : Nat) (n : Nat) (h0 : Heap) (n0 : Nat) (Z0 : n0 ≤ h0.size) (ixo : own_ix p2 ko) (ixd : own_ix p4 d) (ixn : own_ix p5 n) (hs : ko + n ≤ 8) (hd : d + n ≤ 10) (hb8 : own_by 8 f) (ne : a1 ≠ a3) (g_a3 : n0 ≤ a3) (V0 : Ary Z h0 a1 .byte 8 f) (V2 : Ary Z h0 a3 .byte 10 g) :
    MetFree l (⟨"com/example/patras/patras/BloomFilterHashPinLaw", "copy", "([BI[BII)V"⟩ : MethodName) (head1 (Jvm.Cond.code (⟨"com/example/patras/patras/BloomFilterHashPinLaw", "copy", "([BI[BII)V"⟩ : MethodName) method_4_code 5 none :: ws) ({ frames := 0, cells := 0, slots := 0, locals := 0 } : Room)) (fun a U => a = #[(.ref a1), (.int p2), (.ref a3), (.int p4), (.int p5)] ∧ Z.Warmed39 U.vm ∧ U.heap = h0) (fun _ _ _ _ _ => True) (fun _ U o U' => ∃ v L, o = .returned v ∧ Q2 Z a1 p2 a3 p4 p5 f g ko d n h0 n0 v U'.heap L ∧ FrameEnd U o U' L ({ frames := 0, cells := 0, slots := 0, locals := 0 } : Room).cells ({ frames := 0, cells := 0, slots := 0, locals := 0 } : Room).slots) := by
  refine MetFree.of_bodySF (plainFor_of_name pn_2) hisR ?_
  intro p e s m args below meth c s₁ Bd hml0 hP hK
  obtain ⟨rfl, hZ, hh⟩ := hP
  have hx := Bd.exec
  have hby := Bd.bytes
  have hml : c.maxLocals = 5 := hml0
  have hown : s.vm.findClass "com/example/patras/patras/BloomFilterHashPinLaw" = some m.cls := findClass_of_methodNamed Bd.named
  have hnm := (name_of_methodNamed Bd.named Bd.method).1
  have X0 : Stand p l e ({ frames := 0, cells := 0, slots := 0, locals := 0 } : Room) s m #[(.ref a1), (.int p2), (.ref a3), (.int p4), (.int p5)] below meth c s₁ [] 0 0 := Stand.of_body Bd
  have e0 : s₁.heap = h0 := by rw [← hh, Bd.state]; rfl
  have N0 := Fr.nil n0
  have pre0 : ∀ t, Steps p.tables e below (s₁.setTop (mkF m 0 #[.val (.ref a1), .val (.int p2), .val (.ref a3), .val (.int p4), .val (.int p5)] [])) t → Steps p.tables e below (s₁.setTop (entryFrame m #[(.ref a1), (.int p2), (.ref a3), (.int p4), (.int p5)] 5)) t := fun t k => castTop (ef_2 m a1 p2 a3 p4 p5) k
  obtain ⟨T1, h1, L1, g1, X1, e1, N1, K1, V3, P1, st1⟩ := cp_0 a1 p2 a3 p4 p5 f g ko d n n0 X0 hx hZ hw hby hml hown e0 N0 ixo ixd ixn hs hd hb8 g_a3 V0 V2 (fun j hj _ => absurd hj (Nat.not_lt_zero j))
  have U1 := V0.keep K1 (own_ni ne)
  have M1 : Keep h0 h1 [a3] := K1
  obtain ⟨T2, h2, L2, g2, X2, e2, N2, K2, V4, P2, st2⟩ := cp_1 a1 p2 a3 p4 p5 f g1 ko d n n0 X1 hx hZ hw hby hml hown e1 N1 ixo ixd ixn hs hd hb8 g_a3 U1 V3 P1
  have U2 := U1.keep K2 (own_ni ne)
  have M2 : Keep h0 h2 [a3] := M1.trans K2 (fun x hx => Or.inl hx)
  obtain ⟨T3, h3, L3, g3, X3, e3, N3, K3, V5, P3, st3⟩ := cp_2 a1 p2 a3 p4 p5 f g2 ko d n n0 X2 hx hZ hw hby hml hown e2 N2 ixo ixd ixn hs hd hb8 g_a3 U2 V4 P2
  have U3 := U2.keep K3 (own_ni ne)
  have M3 : Keep h0 h3 [a3] := M2.trans K3 (fun x hx => Or.inl hx)
  obtain ⟨T4, h4, L4, g4, X4, e4, N4, K4, V6, P4, st4⟩ := cp_3 a1 p2 a3 p4 p5 f g3 ko d n n0 X3 hx hZ hw hby hml hown e3 N3 ixo ixd ixn hs hd hb8 g_a3 U3 V5 P3
  have U4 := U3.keep K4 (own_ni ne)
  have M4 : Keep h0 h4 [a3] := M3.trans K4 (fun x hx => Or.inl hx)
  obtain ⟨T5, h5, L5, g5, X5, e5, N5, K5, V7, P5, st5⟩ := cp_4 a1 p2 a3 p4 p5 f g4 ko d n n0 X4 hx hZ hw hby hml hown e4 N4 ixo ixd ixn hs hd hb8 g_a3 U4 V6 P4
  have U5 := U4.keep K5 (own_ni ne)
  have M5 : Keep h0 h5 [a3] := M4.trans K5 (fun x hx => Or.inl hx)
  obtain ⟨T6, h6, L6, g6, X6, e6, N6, K6, V8, P6, st6⟩ := cp_5 a1 p2 a3 p4 p5 f g5 ko d n n0 X5 hx hZ hw hby hml hown e5 N5 ixo ixd ixn hs hd hb8 g_a3 U5 V7 P5
  have U6 := U5.keep K6 (own_ni ne)
  have M6 : Keep h0 h6 [a3] := M5.trans K6 (fun x hx => Or.inl hx)
  obtain ⟨T7, h7, L7, g7, X7, e7, N7, K7, V9, P7, st7⟩ := cp_6 a1 p2 a3 p4 p5 f g6 ko d n n0 X6 hx hZ hw hby hml hown e6 N6 ixo ixd ixn hs hd hb8 g_a3 U6 V8 P6
  have U7 := U6.keep K7 (own_ni ne)
  have M7 : Keep h0 h7 [a3] := M6.trans K7 (fun x hx => Or.inl hx)
  obtain ⟨T8, h8, L8, g8, X8, e8, N8, K8, V10, P8, st8⟩ := cp_7 a1 p2 a3 p4 p5 f g7 ko d n n0 X7 hx hZ hw hby hml hown e7 N7 ixo ixd ixn hs hd hb8 g_a3 U7 V9 P7
  have U8 := U7.keep K8 (own_ni ne)
  have M8 : Keep h0 h8 [a3] := M7.trans K8 (fun x hx => Or.inl hx)
  obtain ⟨fs, hr, hrun, hended, hW, hsame⟩ := X8.leave (v := none) (fun _ => rfl)
  refine ⟨_, _, pre0 _ ?_, hrun, hended, _, _, rfl, ?_, ⟨_, rfl⟩, hW, hsame.mono (by decide) (by decide)⟩
  · refine st1 _ (st2 _ (st3 _ (st4 _ (st5 _ (st6 _ (st7 _ (st8 _ ?_)))))))
    exact X8.returnOut hx Bd.returns (hb hby d2_129) hr
  · show Q2 Z a1 p2 a3 p4 p5 f g ko d n h0 n0 _ T8.heap _
    rw [e8]
    exact ⟨rfl, N8, M8, g8, V10, P8⟩
theorem d3_7 : decode prog_9_method_3_code 7 = .ok (.iload 5, 2) := by decide +kernel
theorem d3_9 : decode prog_9_method_3_code 9 = .ok (.iload_n 1, 1) := by decide +kernel
theorem d3_10 : decode prog_9_method_3_code 10 = .ok (.iload_n 2, 1) := by decide +kernel
theorem d3_11 : decode prog_9_method_3_code 11 = .ok (.iadd, 1) := by decide +kernel
theorem d3_12 : decode prog_9_method_3_code 12 = .ok (.if_icmp .ge 27, 3) := by decide +kernel
theorem d3_15 : decode prog_9_method_3_code 15 = .ok (.lload_n 3, 1) := by decide +kernel
theorem d3_16 : decode prog_9_method_3_code 16 = .ok (.aload_n 0, 1) := by decide +kernel
theorem d3_17 : decode prog_9_method_3_code 17 = .ok (.iload 5, 2) := by decide +kernel
theorem d3_19 : decode prog_9_method_3_code 19 = .ok (.baload, 1) := by decide +kernel
theorem d3_20 : decode prog_9_method_3_code 20 = .ok (.sipush 255, 3) := by decide +kernel
theorem d3_23 : decode prog_9_method_3_code 23 = .ok (.iand, 1) := by decide +kernel
theorem d3_24 : decode prog_9_method_3_code 24 = .ok (.i2l, 1) := by decide +kernel
theorem d3_25 : decode prog_9_method_3_code 25 = .ok (.lxor, 1) := by decide +kernel
theorem d3_26 : decode prog_9_method_3_code 26 = .ok (.lstore_n 3, 1) := by decide +kernel
theorem d3_27 : decode prog_9_method_3_code 27 = .ok (.lload_n 3, 1) := by decide +kernel
theorem d3_28 : decode prog_9_method_3_code 28 = .ok (.ldc2_w 50, 3) := by decide +kernel
theorem d3_31 : decode prog_9_method_3_code 31 = .ok (.lmul, 1) := by decide +kernel
theorem d3_32 : decode prog_9_method_3_code 32 = .ok (.lstore_n 3, 1) := by decide +kernel
theorem d3_33 : decode prog_9_method_3_code 33 = .ok (.iinc 5 1, 3) := by decide +kernel
theorem d3_36 : decode prog_9_method_3_code 36 = .ok (.goto (-29), 3) := by decide +kernel
set_option maxRecDepth 65536 in
set_option maxHeartbeats 40000000 in
theorem tn3_7_7 {p : Program} {l : Launch} {e : Env} {R : Room} {s : State} {m : MethodId} {args : Array Value} {below : List Frame} {meth : Method} {c : Code} {T0 : State} {locs : List Loc} {cells slots : Nat} {Z : State} {a0 : Array Value} {h0 : Heap} (o0 : Addr) (i1 : Int32) (i2 : Int32) (j3 : Int64) (i5 : Int32) (i : Nat) (w : Int32) (N_o0 : Nat) (f_o0 : Nat → Value)
    (X0 : Stand p l e R s m args below meth c T0 locs cells slots) (hx : p.tables.exec = Jvm.exec) (hZ : Z.Warmed39 s.vm) (hw : ∀ d ∈ tables_1, d.before a0 Z = true) (hby : c.code = prog_9_method_3_code) (hml : c.maxLocals = 6) (hown : s.vm.findClass "com/example/patras/patras/BloomFilter" = some m.cls) (e0 : T0.heap = h0) (ix : own_ix i5 i) (hi : i < N_o0) (hv : f_o0 i = .int w) (V_o0 : Ary Z h0 o0 .byte N_o0 f_o0) (hc12 : i5 < (i1 + i2)) :
    ∃ (T' : State), Stand p l e R s m args below meth c T' locs cells slots ∧ T'.heap = h0 ∧
      ∀ target, Steps p.tables e below (T'.setTop (mkF m 7 #[.val (.ref o0), .val (.int i1), .val (.int i2), .val (.long (own_step j3 w)), .second, .val (.int (i5 + (1 : Int32)))] [])) target → Steps p.tables e below (T0.setTop (mkF m 7 #[.val (.ref o0), .val (.int i1), .val (.int i2), .val (.long j3), .second, .val (.int i5)] [])) target := by
  obtain ⟨cl_19, Ar_19, S_19, H_19⟩ := id V_o0
  have hin19 := Ary.inn S_19 ix hi
  have hat19 := Ary.get H_19 ix hi (v := (.int w)) hv
  refine ⟨T0, X0, e0, fun target kt => ?_⟩
  show Steps p.tables e below (T0.setTop (mkF m 7 #[.val (.ref o0), .val (.int i1), .val (.int i2), .val (.long j3), .second, .val (.int i5)] [])) _
  refine XS.iload X0.here hx rfl (hb hby d3_7) rfl ?_
  show Steps p.tables e below (T0.setTop (mkF m 9 #[.val (.ref o0), .val (.int i1), .val (.int i2), .val (.long j3), .second, .val (.int i5)] [(.int i5)])) _
  refine XS.iloadN X0.here hx rfl (hb hby d3_9) rfl ?_
  show Steps p.tables e below (T0.setTop (mkF m 10 #[.val (.ref o0), .val (.int i1), .val (.int i2), .val (.long j3), .second, .val (.int i5)] [(.int i1), (.int i5)])) _
  refine XS.iloadN X0.here hx rfl (hb hby d3_10) rfl ?_
  show Steps p.tables e below (T0.setTop (mkF m 11 #[.val (.ref o0), .val (.int i1), .val (.int i2), .val (.long j3), .second, .val (.int i5)] [(.int i2), (.int i1), (.int i5)])) _
  refine XS.iadd X0.here hx rfl (hb hby d3_11) rfl ?_
  show Steps p.tables e below (T0.setTop (mkF m 12 #[.val (.ref o0), .val (.int i1), .val (.int i2), .val (.long j3), .second, .val (.int i5)] [(.int (i1 + i2)), (.int i5)])) _
  refine XS.icmpNo X0.here hx rfl (hb hby d3_12) rfl (tlt hc12).2.1 ?_
  show Steps p.tables e below (T0.setTop (mkF m 15 #[.val (.ref o0), .val (.int i1), .val (.int i2), .val (.long j3), .second, .val (.int i5)] [])) _
  refine XS.lloadN X0.here hx rfl (hb hby d3_15) rfl ?_
  show Steps p.tables e below (T0.setTop (mkF m 16 #[.val (.ref o0), .val (.int i1), .val (.int i2), .val (.long j3), .second, .val (.int i5)] [(.long j3)])) _
  refine XS.aloadN X0.here hx rfl (hb hby d3_16) rfl rfl ?_
  show Steps p.tables e below (T0.setTop (mkF m 17 #[.val (.ref o0), .val (.int i1), .val (.int i2), .val (.long j3), .second, .val (.int i5)] [(.ref o0), (.long j3)])) _
  refine XS.iload X0.here hx rfl (hb hby d3_17) rfl ?_
  show Steps p.tables e below (T0.setTop (mkF m 19 #[.val (.ref o0), .val (.int i1), .val (.int i2), .val (.long j3), .second, .val (.int i5)] [(.int i5), (.ref o0), (.long j3)])) _
  refine X0.baloadBytes hx (j := i5) (v := (.int w)) (by rw [e0]; exact Ar_19.1) (State.isArrayOf_alike hZ.alike Ar_19.2.1) Ar_19.2.2 hin19 hat19 (g := (mkF m 19 #[.val (.ref o0), .val (.int i1), .val (.int i2), .val (.long j3), .second, .val (.int i5)] [(.int i5), (.ref o0), (.long j3)])) rfl rfl (hb hby d3_19) _ ?_
  show Steps p.tables e below (T0.setTop (mkF m 20 #[.val (.ref o0), .val (.int i1), .val (.int i2), .val (.long j3), .second, .val (.int i5)] [(.int w), (.long j3)])) _
  refine XS.sipush X0.here hx rfl (hb hby d3_20) ?_
  show Steps p.tables e below (T0.setTop (mkF m 23 #[.val (.ref o0), .val (.int i1), .val (.int i2), .val (.long j3), .second, .val (.int i5)] [(.int (255 : Int32)), (.int w), (.long j3)])) _
  refine XS.iand X0.here hx rfl (hb hby d3_23) rfl ?_
  show Steps p.tables e below (T0.setTop (mkF m 24 #[.val (.ref o0), .val (.int i1), .val (.int i2), .val (.long j3), .second, .val (.int i5)] [(.int (w &&& (255 : Int32))), (.long j3)])) _
  refine XS.i2l X0.here hx rfl (hb hby d3_24) rfl ?_
  show Steps p.tables e below (T0.setTop (mkF m 25 #[.val (.ref o0), .val (.int i1), .val (.int i2), .val (.long j3), .second, .val (.int i5)] [(.long ((w &&& (255 : Int32)).toInt64)), (.long j3)])) _
  refine XS.lxor X0.here hx rfl (hb hby d3_25) rfl ?_
  show Steps p.tables e below (T0.setTop (mkF m 26 #[.val (.ref o0), .val (.int i1), .val (.int i2), .val (.long j3), .second, .val (.int i5)] [(.long (j3 ^^^ ((w &&& (255 : Int32)).toInt64)))])) _
  refine XS.lstoreN X0.here hx rfl (hb hby d3_26) rfl (l' := #[.val (.ref o0), .val (.int i1), .val (.int i2), .val (.long (j3 ^^^ ((w &&& (255 : Int32)).toInt64))), .second, .val (.int i5)]) rfl ?_
  show Steps p.tables e below (T0.setTop (mkF m 27 #[.val (.ref o0), .val (.int i1), .val (.int i2), .val (.long (j3 ^^^ ((w &&& (255 : Int32)).toInt64))), .second, .val (.int i5)] [])) _
  refine XS.lloadN X0.here hx rfl (hb hby d3_27) rfl ?_
  show Steps p.tables e below (T0.setTop (mkF m 28 #[.val (.ref o0), .val (.int i1), .val (.int i2), .val (.long (j3 ^^^ ((w &&& (255 : Int32)).toInt64))), .second, .val (.int i5)] [(.long (j3 ^^^ ((w &&& (255 : Int32)).toInt64)))])) _
  refine X0.ldc2Long hx hown (mvT hZ (hw _ (List.mem_of_getElem? (i := 14) rfl))) (g := (mkF m 28 #[.val (.ref o0), .val (.int i1), .val (.int i2), .val (.long (j3 ^^^ ((w &&& (255 : Int32)).toInt64))), .second, .val (.int i5)] [(.long (j3 ^^^ ((w &&& (255 : Int32)).toInt64)))])) rfl (hb hby d3_28) _ ?_
  show Steps p.tables e below (T0.setTop (mkF m 31 #[.val (.ref o0), .val (.int i1), .val (.int i2), .val (.long (j3 ^^^ ((w &&& (255 : Int32)).toInt64))), .second, .val (.int i5)] [(.long (1099511628211 : Int64)), (.long (j3 ^^^ ((w &&& (255 : Int32)).toInt64)))])) _
  refine XS.lmul X0.here hx rfl (hb hby d3_31) rfl ?_
  show Steps p.tables e below (T0.setTop (mkF m 32 #[.val (.ref o0), .val (.int i1), .val (.int i2), .val (.long (j3 ^^^ ((w &&& (255 : Int32)).toInt64))), .second, .val (.int i5)] [(.long (own_step j3 w))])) _
  refine XS.lstoreN X0.here hx rfl (hb hby d3_32) rfl (l' := #[.val (.ref o0), .val (.int i1), .val (.int i2), .val (.long (own_step j3 w)), .second, .val (.int i5)]) rfl ?_
  show Steps p.tables e below (T0.setTop (mkF m 33 #[.val (.ref o0), .val (.int i1), .val (.int i2), .val (.long (own_step j3 w)), .second, .val (.int i5)] [])) _
  refine XS.iinc X0.here hx rfl (hb hby d3_33) rfl (l' := #[.val (.ref o0), .val (.int i1), .val (.int i2), .val (.long (own_step j3 w)), .second, .val (.int (i5 + (1 : Int32)))]) rfl ?_
  show Steps p.tables e below (T0.setTop (mkF m 36 #[.val (.ref o0), .val (.int i1), .val (.int i2), .val (.long (own_step j3 w)), .second, .val (.int (i5 + (1 : Int32)))] [])) _
  refine XS.goto X0.here hx rfl (pc0 := 36) (pc' := 7) rfl (hb hby d3_36) (by decide) (by decide) ?_
  exact kt
set_option maxRecDepth 65536 in
set_option maxHeartbeats 40000000 in
theorem tn3_7_39 {p : Program} {l : Launch} {e : Env} {R : Room} {s : State} {m : MethodId} {args : Array Value} {below : List Frame} {meth : Method} {c : Code} {T0 : State} {locs : List Loc} {cells slots : Nat} {Z : State} {a0 : Array Value} {h0 : Heap} (s0 : Slot) (i1 : Int32) (i2 : Int32) (s3 : Slot) (s4 : Slot) (i5 : Int32)
    (X0 : Stand p l e R s m args below meth c T0 locs cells slots) (hx : p.tables.exec = Jvm.exec) (hZ : Z.Warmed39 s.vm) (hw : ∀ d ∈ tables_1, d.before a0 Z = true) (hby : c.code = prog_9_method_3_code) (hml : c.maxLocals = 6) (hown : s.vm.findClass "com/example/patras/patras/BloomFilter" = some m.cls) (e0 : T0.heap = h0) (hc12 : ¬ (i5 < (i1 + i2))) :
    ∃ (T' : State), Stand p l e R s m args below meth c T' locs cells slots ∧ T'.heap = h0 ∧
      ∀ target, Steps p.tables e below (T'.setTop (mkF m 39 #[s0, .val (.int i1), .val (.int i2), s3, s4, .val (.int i5)] [])) target → Steps p.tables e below (T0.setTop (mkF m 7 #[s0, .val (.int i1), .val (.int i2), s3, s4, .val (.int i5)] [])) target := by
  refine ⟨T0, X0, e0, fun target kt => ?_⟩
  show Steps p.tables e below (T0.setTop (mkF m 7 #[s0, .val (.int i1), .val (.int i2), s3, s4, .val (.int i5)] [])) _
  refine XS.iload X0.here hx rfl (hb hby d3_7) rfl ?_
  show Steps p.tables e below (T0.setTop (mkF m 9 #[s0, .val (.int i1), .val (.int i2), s3, s4, .val (.int i5)] [(.int i5)])) _
  refine XS.iloadN X0.here hx rfl (hb hby d3_9) rfl ?_
  show Steps p.tables e below (T0.setTop (mkF m 10 #[s0, .val (.int i1), .val (.int i2), s3, s4, .val (.int i5)] [(.int i1), (.int i5)])) _
  refine XS.iloadN X0.here hx rfl (hb hby d3_10) rfl ?_
  show Steps p.tables e below (T0.setTop (mkF m 11 #[s0, .val (.int i1), .val (.int i2), s3, s4, .val (.int i5)] [(.int i2), (.int i1), (.int i5)])) _
  refine XS.iadd X0.here hx rfl (hb hby d3_11) rfl ?_
  show Steps p.tables e below (T0.setTop (mkF m 12 #[s0, .val (.int i1), .val (.int i2), s3, s4, .val (.int i5)] [(.int (i1 + i2)), (.int i5)])) _
  refine XS.icmpYes X0.here hx rfl (pc0 := 12) (pc' := 39) rfl (hb hby d3_12) rfl (flt hc12).2.1 (by decide) (by decide) ?_
  exact kt
theorem d3_0 : decode prog_9_method_3_code 0 = .ok (.ldc2_w 48, 3) := by decide +kernel
theorem d3_3 : decode prog_9_method_3_code 3 = .ok (.lstore_n 3, 1) := by decide +kernel
theorem d3_4 : decode prog_9_method_3_code 4 = .ok (.iload_n 1, 1) := by decide +kernel
theorem d3_5 : decode prog_9_method_3_code 5 = .ok (.istore 5, 2) := by decide +kernel
set_option maxRecDepth 65536 in
set_option maxHeartbeats 40000000 in
theorem tn3_0_7 {p : Program} {l : Launch} {e : Env} {R : Room} {s : State} {m : MethodId} {args : Array Value} {below : List Frame} {meth : Method} {c : Code} {T0 : State} {locs : List Loc} {cells slots : Nat} {Z : State} {a0 : Array Value} {h0 : Heap} (o0 : Addr) (i1 : Int32) (i2 : Int32)
    (X0 : Stand p l e R s m args below meth c T0 locs cells slots) (hx : p.tables.exec = Jvm.exec) (hZ : Z.Warmed39 s.vm) (hw : ∀ d ∈ tables_1, d.before a0 Z = true) (hby : c.code = prog_9_method_3_code) (hml : c.maxLocals = 6) (hown : s.vm.findClass "com/example/patras/patras/BloomFilter" = some m.cls) (e0 : T0.heap = h0) :
    ∃ (T' : State), Stand p l e R s m args below meth c T' locs cells slots ∧ T'.heap = h0 ∧
      ∀ target, Steps p.tables e below (T'.setTop (mkF m 7 #[.val (.ref o0), .val (.int i1), .val (.int i2), .val (.long (-3750763034362895579 : Int64)), .second, .val (.int i1)] [])) target → Steps p.tables e below (T0.setTop (mkF m 0 #[.val (.ref o0), .val (.int i1), .val (.int i2), .unset, .unset, .unset] [])) target := by
  refine ⟨T0, X0, e0, fun target kt => ?_⟩
  show Steps p.tables e below (T0.setTop (mkF m 0 #[.val (.ref o0), .val (.int i1), .val (.int i2), .unset, .unset, .unset] [])) _
  refine X0.ldc2Long hx hown (mvT hZ (hw _ (List.mem_of_getElem? (i := 13) rfl))) (g := (mkF m 0 #[.val (.ref o0), .val (.int i1), .val (.int i2), .unset, .unset, .unset] [])) rfl (hb hby d3_0) _ ?_
  show Steps p.tables e below (T0.setTop (mkF m 3 #[.val (.ref o0), .val (.int i1), .val (.int i2), .unset, .unset, .unset] [(.long (-3750763034362895579 : Int64))])) _
  refine XS.lstoreN X0.here hx rfl (hb hby d3_3) rfl (l' := #[.val (.ref o0), .val (.int i1), .val (.int i2), .val (.long (-3750763034362895579 : Int64)), .second, .unset]) rfl ?_
  show Steps p.tables e below (T0.setTop (mkF m 4 #[.val (.ref o0), .val (.int i1), .val (.int i2), .val (.long (-3750763034362895579 : Int64)), .second, .unset] [])) _
  refine XS.iloadN X0.here hx rfl (hb hby d3_4) rfl ?_
  show Steps p.tables e below (T0.setTop (mkF m 5 #[.val (.ref o0), .val (.int i1), .val (.int i2), .val (.long (-3750763034362895579 : Int64)), .second, .unset] [(.int i1)])) _
  refine XS.istore X0.here hx rfl (hb hby d3_5) rfl (l' := #[.val (.ref o0), .val (.int i1), .val (.int i2), .val (.long (-3750763034362895579 : Int64)), .second, .val (.int i1)]) rfl ?_
  exact kt
theorem d3_39 : decode prog_9_method_3_code 39 = .ok (.lload_n 3, 1) := by decide +kernel
set_option maxRecDepth 65536 in
set_option maxHeartbeats 40000000 in
theorem tn3_39_40 {p : Program} {l : Launch} {e : Env} {R : Room} {s : State} {m : MethodId} {args : Array Value} {below : List Frame} {meth : Method} {c : Code} {T0 : State} {locs : List Loc} {cells slots : Nat} {Z : State} {a0 : Array Value} {h0 : Heap} (s0 : Slot) (s1 : Slot) (s2 : Slot) (j3 : Int64) (s5 : Slot)
    (X0 : Stand p l e R s m args below meth c T0 locs cells slots) (hx : p.tables.exec = Jvm.exec) (hZ : Z.Warmed39 s.vm) (hw : ∀ d ∈ tables_1, d.before a0 Z = true) (hby : c.code = prog_9_method_3_code) (hml : c.maxLocals = 6) (hown : s.vm.findClass "com/example/patras/patras/BloomFilter" = some m.cls) (e0 : T0.heap = h0) :
    ∃ (T' : State), Stand p l e R s m args below meth c T' locs cells slots ∧ T'.heap = h0 ∧
      ∀ target, Steps p.tables e below (T'.setTop (mkF m 40 #[s0, s1, s2, .val (.long j3), .second, s5] [(.long j3)])) target → Steps p.tables e below (T0.setTop (mkF m 39 #[s0, s1, s2, .val (.long j3), .second, s5] [])) target := by
  refine ⟨T0, X0, e0, fun target kt => ?_⟩
  show Steps p.tables e below (T0.setTop (mkF m 39 #[s0, s1, s2, .val (.long j3), .second, s5] [])) _
  refine XS.lloadN X0.here hx rfl (hb hby d3_39) rfl ?_
  exact kt
theorem loop3 {p : Program} {l : Launch} {e : Env} {R : Room} {s : State} {m : MethodId} {args : Array Value} {below : List Frame} {meth : Method} {c : Code} {locs : List Loc} {cells slots : Nat} {Z : State} {a0 : Array Value} {h0 : Heap} (o0 : Addr) (i1 i2 : Int32) (N en st : Nat) (f : Nat → Value) (F : Nat → Int32) (hx : p.tables.exec = Jvm.exec) (hZ : Z.Warmed39 s.vm) (hw : ∀ d ∈ tables_1, d.before a0 Z = true) (hby : c.code = prog_9_method_3_code) (hml : c.maxLocals = 6) (hown : s.vm.findClass "com/example/patras/patras/BloomFilter" = some m.cls) (V : Ary Z h0 o0 .byte N f) (ixe : own_ix (i1 + i2) en) (hN : en ≤ N) (hF : ∀ j, st ≤ j → j < en → f j = .int (F j)) :
    ∀ (k i : Nat) (i5 : Int32) (H : Int64) (T0 : State), i + k = en → st ≤ i → own_ix i5 i → Stand p l e R s m args below meth c T0 locs cells slots → T0.heap = h0 →
    ∃ (T' : State) (i5' : Int32), Stand p l e R s m args below meth c T' locs cells slots ∧ T'.heap = h0 ∧ ∀ target, Steps p.tables e below (T'.setTop (mkF m 39 #[.val (.ref o0), .val (.int i1), .val (.int i2), .val (.long (own_fold own_step F k i H)), .second, .val (.int i5')] [])) target → Steps p.tables e below (T0.setTop (mkF m 7 #[.val (.ref o0), .val (.int i1), .val (.int i2), .val (.long H), .second, .val (.int i5)] [])) target := by
  intro k
  induction k with
  | zero =>
    intro i i5 H T0 hk hst ix X0 e0
    have hc : ¬ (i5 < (i1 + i2)) := fun q => by have := (own_ixlt ix ixe).mp q; omega
    obtain ⟨T1, X1, e1, st1⟩ := tn3_7_39 (.val (.ref o0)) i1 i2 (.val (.long H)) .second i5 X0 hx hZ hw hby hml hown e0 hc
    exact ⟨T1, i5, X1, e1, st1⟩
  | succ k ih =>
    intro i i5 H T0 hk hst ix X0 e0
    have hc : i5 < (i1 + i2) := (own_ixlt ix ixe).mpr (by omega)
    have hb := (i1 + i2).toInt_lt
    have he : (i1 + i2).toInt = (en : Int) := ixe
    obtain ⟨T1, X1, e1, st1⟩ := tn3_7_7 o0 i1 i2 H i5 i (F i) N f X0 hx hZ hw hby hml hown e0 ix (by omega) (hF i hst (by omega)) V hc
    obtain ⟨T2, i5', X2, e2, st2⟩ := ih (i + 1) (i5 + (1 : Int32)) (own_step H (F i)) T1 (by omega) (by omega) (own_ixa ix (show own_ix (1 : Int32) 1 from rfl) (by omega)) X1 e1
    refine ⟨T2, i5', X2, e2, fun target kt => st1 target (st2 target ?_)⟩
    rw [own_fold_succ] at kt
    exact kt
theorem d3_40 : decode prog_9_method_3_code 40 = .ok (.lreturn, 1) := by decide +kernel
theorem pn_3 : plainName "com/example/patras/patras/BloomFilter" = true := by first | (simp [plainName, overriddenIn]; done) | decide +kernel
theorem ef_3 (m : MethodId) (x0 : Addr) (x1 : Int32) (x2 : Int32) : entryFrame m #[(.ref x0), (.int x1), (.int x2)] 6 = mkF m 0 #[.val (.ref x0), .val (.int x1), .val (.int x2), .unset, .unset, .unset] [] := by first | (simp [entryFrame, mkF, argsToLocals, Value.category]; done) | rfl
def Q3 (Z : State) (a1 : Addr) (p2 : Int32) (p3 : Int32) (N : Nat) (f : Nat → Value) (F : Nat → Int32) (ko : Nat) (n : Nat) (h0 : Heap) (n0 : Nat) (v : Option Value) (h : Heap) (L : List Loc) : Prop := v = some (.long (own_fold own_step F n ko (-3750763034362895579 : Int64))) ∧ Fr n0 L ∧ h = h0
set_option maxRecDepth 65536 in
set_option maxHeartbeats 40000000 in
theorem rm3 (l : Launch) (Z : State) (a0 : Array Value) (hw : ∀ d ∈ tables_1, d.before a0 Z = true) (ws : List Jvm.Cond) (a1 : Addr) (p2 : Int32) (p3 : Int32) (N : Nat) (f : Nat → Value) (F : Nat → Int32) (ko : Nat) (n : Nat) (h0 : Heap) (n0 : Nat) (Z0 : n0 ≤ h0.size) (ixo : own_ix p2 ko) (ixn : own_ix p3 n) (hN : ko + n ≤ N) (hb31 : N < 1000) (hF : ∀ j, ko ≤ j → j < ko + n → f j = .int (F j)) (V0 : Ary Z h0 a1 .byte N f) :
    MetFree l (⟨"com/example/patras/patras/BloomFilter", "hash", "([BII)J"⟩ : MethodName) (head1 (Jvm.Cond.code (⟨"com/example/patras/patras/BloomFilter", "hash", "([BII)J"⟩ : MethodName) prog_9_method_3_code 6 (some .long) :: ws) ({ frames := 0, cells := 0, slots := 0, locals := 0 } : Room)) (fun a U => a = #[(.ref a1), (.int p2), (.int p3)] ∧ Z.Warmed39 U.vm ∧ U.heap = h0) (fun _ _ _ _ _ => True) (fun _ U o U' => ∃ v L, o = .returned v ∧ Q3 Z a1 p2 p3 N f F ko n h0 n0 v U'.heap L ∧ FrameEnd U o U' L ({ frames := 0, cells := 0, slots := 0, locals := 0 } : Room).cells ({ frames := 0, cells := 0, slots := 0, locals := 0 } : Room).slots) := by
  refine MetFree.of_bodySF (plainFor_of_name pn_3) hisR ?_
  intro p e s m args below meth c s₁ Bd hml0 hP hK
  obtain ⟨rfl, hZ, hh⟩ := hP
  have hx := Bd.exec
  have hby := Bd.bytes
  have hml : c.maxLocals = 6 := hml0
  have hown : s.vm.findClass "com/example/patras/patras/BloomFilter" = some m.cls := findClass_of_methodNamed Bd.named
  have hnm := (name_of_methodNamed Bd.named Bd.method).1
  have X0 : Stand p l e ({ frames := 0, cells := 0, slots := 0, locals := 0 } : Room) s m #[(.ref a1), (.int p2), (.int p3)] below meth c s₁ [] 0 0 := Stand.of_body Bd
  have e0 : s₁.heap = h0 := by rw [← hh, Bd.state]; rfl
  have N0 := Fr.nil n0
  have pre0 : ∀ t, Steps p.tables e below (s₁.setTop (mkF m 0 #[.val (.ref a1), .val (.int p2), .val (.int p3), .unset, .unset, .unset] [])) t → Steps p.tables e below (s₁.setTop (entryFrame m #[(.ref a1), (.int p2), (.int p3)] 6)) t := fun t k => castTop (ef_3 m a1 p2 p3) k
  obtain ⟨T1, X1, e1, st1⟩ := tn3_0_7 a1 p2 p3 X0 hx hZ hw hby hml hown e0
  obtain ⟨T2, i5, X2, e2, st2⟩ := loop3 a1 p2 p3 N (ko + n) ko f F hx hZ hw hby hml hown V0 (own_ixa ixo ixn (by omega)) hN hF n ko p2 (-3750763034362895579 : Int64) T1 rfl (Nat.le_refl _) ixo X1 e1
  obtain ⟨T3, X3, e3, st3⟩ := tn3_39_40 (.val (.ref a1)) (.val (.int p2)) (.val (.int p3)) (own_fold own_step F n ko (-3750763034362895579 : Int64)) (.val (.int i5)) X2 hx hZ hw hby hml hown e2
  obtain ⟨fs, hr, hrun, hended, hW, hsame⟩ := X3.leave (v := some (.long (own_fold own_step F n ko (-3750763034362895579 : Int64)))) (fun h => by rw [Bd.returns] at h; cases h)
  refine ⟨_, _, pre0 _ ?_, hrun, hended, _, _, rfl, ?_, ⟨_, rfl⟩, hW, hsame.mono (by decide) (by decide)⟩
  · refine st1 _ (st2 _ (st3 _ ?_))
    jvm_step X3.here [X3.here.top, hx, (hb hby d3_40), X3.method', Bd.returns, narrow]
    first | (intro acts; rw [hr _ acts rfl rfl rfl]) | rw [hr _ _ rfl rfl rfl]
    exact Steps.refl _
  · show Q3 Z a1 p2 p3 N f F ko n h0 n0 _ T3.heap _
    rw [e3]
    exact ⟨rfl, N0, rfl⟩
theorem pd_0_0 : parseMethodDescriptor "([BJ)V" = some ⟨[(.array .byte), .long], none⟩ := by decide +kernel
set_option maxRecDepth 65536 in
set_option maxHeartbeats 40000000 in
theorem sgA {p : Program} {l : Launch} {e : Env} {s : State} {m : MethodId} {args : Array Value} {below : List Frame} {meth : Method} {c : Code} {T0 : State} {locs : List Loc} {Z : State} {a0 : Array Value} {h0 : Heap} (j0 : Int64) (j2 : Int64) (i4 : Int32) (i5 : Int32) (i6 : Int32) (i7 : Int32) (n0 : Nat)
    (X0 : Stand p l e room_1 s m args below meth c T0 locs 0 0) (hx : p.tables.exec = Jvm.exec) (hZ : Z.Warmed39 s.vm) (hw : ∀ d ∈ tables_1, d.before a0 Z = true) (hby : c.code = code) (hml : c.maxLocals = 18) (hown : s.vm.findClass "com/example/patras/patras/BloomFilterHashPinLaw" = some m.cls) (e0 : T0.heap = h0) (Z0 : n0 ≤ h0.size) (N0 : Fr n0 locs) :
    ∃ (T' : State) (h' : Heap) (locs' : List Loc) (b c' : Addr) (f g : Nat → Value), Stand p l e room_1 s m args below meth c T' locs' (0 + 2) (0 + 18) ∧ T'.heap = h' ∧ Fr n0 locs' ∧ n0 ≤ b ∧ n0 ≤ c' ∧ b ≠ c' ∧ Ary Z h' b .byte 8 f ∧ own_by 8 f ∧ Ary Z h' c' .byte 10 g ∧ n0 ≤ h'.size ∧
      ∀ target, Steps p.tables e below (T'.setTop (mkF m 43 #[.val (.long j0), .second, .val (.long j2), .second, .val (.int i4), .val (.int i5), .val (.int i6), .val (.int i7), .val (.ref b), .val (.ref c'), .unset, .unset, .unset, .unset, .unset, .unset, .unset, .unset] [])) target → Steps p.tables e below (T0.setTop (mkF m 0 #[.val (.long j0), .second, .val (.long j2), .second, .val (.int i4), .val (.int i5), .val (.int i6), .val (.int i7), .unset, .unset, .unset, .unset, .unset, .unset, .unset, .unset, .unset, .unset] [])) target := by
  obtain ⟨T7, h7, k7, X7, e7, E7, A7, st7⟩ := newP X0 hx hZ (hw _ (List.mem_of_getElem? (i := 0) rfl)) e0 (g := (mkF m 2 #[.val (.long j0), .second, .val (.long j2), .second, .val (.int i4), .val (.int i5), .val (.int i6), .val (.int i7), .unset, .unset, .unset, .unset, .unset, .unset, .unset, .unset, .unset, .unset] [(.int (8 : Int32))])) rfl (hb hby at_2) rfl (by decide) (cap := 8) (by decide) (by decide) (by decide) (by decide)
  obtain ⟨b7, g7⟩ : ∃ z, z = h0.size := ⟨_, rfl⟩
  rw [← g7] at A7 st7
  have V_b7 : Ary Z h7 b7 .byte 8 (fun _ => (.int (0 : Int32))) := Ary.new A7 (by decide) rfl
  have g_b7 : n0 ≤ b7 := Nat.le_trans Z0 (Nat.le_of_eq g7.symm)
  have sz_b7 : h0.size ≤ b7 := (Nat.le_trans (Keep.refl h0 []).1 (Nat.le_of_eq g7.symm))
  have K7 : Keep h0 h7 [] := (Keep.refl h0 []).ext E7
  have Zc8 : n0 ≤ h7.size := (Nat.le_trans Z0 E7.1)
  have Vc8_b7 := V_b7
  obtain ⟨_, _, ⟨T8, L8, k8, n8⟩, -, X8, ⟨Lc8, hQ8, l8, y8, z8⟩, st8⟩ := Jvm.LawKit.callS X7 hx (y := (⟨"com/example/patras/patras/BloomFilterHashPinLaw", "fill", "([BJ)V"⟩ : MethodName)) hown (mvT hZ (hw _ (List.mem_of_getElem? (i := 1) rfl))) (mvT hZ (hw _ (List.mem_of_getElem? (i := 2) rfl))) (mvT hZ (hw _ (List.mem_of_getElem? (i := 3) rfl))) (mvT hZ (hw _ (List.mem_of_getElem? (i := 4) rfl))) (by decide) (backOf (W := 0) (rm1 l Z a0 hw [] b7 j0 8 _ h7 n0 Zc8 (by decide) Vc8_b7 g_b7) hZ (hw _ (List.mem_of_getElem? (i := 4) rfl)) (hw _ (List.mem_of_getElem? (i := 3) rfl)) (by decide) (by decide)) (g := (mkF m 9 #[.val (.long j0), .second, .val (.long j2), .second, .val (.int i4), .val (.int i5), .val (.int i6), .val (.int i7), .val (.ref b7), .unset, .unset, .unset, .unset, .unset, .unset, .unset, .unset, .unset] [(.long j0), (.ref b7)])) rfl (by rw [hml]; rfl) (argsL := [(.ref b7), (.long j0)]) (rest := []) (lenOf pd_0_0 rfl) rfl (by show 2 * 0 + _ ≤ _; exact Nat.le_of_eq rfl) (hb hby at_9) (fun _ _ => ⟨rfl, e7, (by decide : 0 + 1 + 0 ≤ room_1.cells), (by decide : 0 + 8 + 0 ≤ room_1.slots)⟩)
  dsimp only [Pt.U, Pt.locs, Pt.cells, Pt.slots] at X8 l8 y8 z8 st8 hQ8
  subst l8 y8 z8
  obtain ⟨rfl, N8q, Kq8, gq8, Vq8, Bq8⟩ := hQ8
  have N8 := Fr.app N0 N8q
  have K8 : Keep h0 T8.heap [] := K7.trans Kq8 (fun x hx => by cases List.mem_singleton.mp hx; exact Or.inr sz_b7)
  obtain ⟨T9, h9, k9, X9, e9, E9, A9, st9⟩ := newP X8 hx hZ (hw _ (List.mem_of_getElem? (i := 0) rfl)) rfl (g := (mkF m 14 #[.val (.long j0), .second, .val (.long j2), .second, .val (.int i4), .val (.int i5), .val (.int i6), .val (.int i7), .val (.ref b7), .unset, .unset, .unset, .unset, .unset, .unset, .unset, .unset, .unset] [(.int (10 : Int32))])) rfl (hb hby at_14) rfl (by decide) (cap := 10) (by decide) (by decide) (by decide) (by decide)
  obtain ⟨b9, g9⟩ : ∃ z, z = T8.heap.size := ⟨_, rfl⟩
  rw [← g9] at A9 st9
  have V_b9 : Ary Z h9 b9 .byte 10 (fun _ => (.int (0 : Int32))) := Ary.new A9 (by decide) rfl
  have g_b9 : n0 ≤ b9 := Nat.le_trans (Nat.le_trans (Nat.le_trans Z0 E7.1) Kq8.1) (Nat.le_of_eq g9.symm)
  have sz_b9 : h0.size ≤ b9 := (Nat.le_trans K8.1 (Nat.le_of_eq g9.symm))
  have K9 : Keep h0 h9 [] := K8.ext E9
  have Zc10 : n0 ≤ h9.size := (Nat.le_trans (Nat.le_trans (Nat.le_trans Z0 E7.1) Kq8.1) E9.1)
  have Vc10_b9 := V_b9
  obtain ⟨_, _, ⟨T10, L10, k10, n10⟩, -, X10, ⟨Lc10, hQ10, l10, y10, z10⟩, st10⟩ := Jvm.LawKit.callS X9 hx (y := (⟨"com/example/patras/patras/BloomFilterHashPinLaw", "fill", "([BJ)V"⟩ : MethodName)) hown (mvT hZ (hw _ (List.mem_of_getElem? (i := 1) rfl))) (mvT hZ (hw _ (List.mem_of_getElem? (i := 2) rfl))) (mvT hZ (hw _ (List.mem_of_getElem? (i := 3) rfl))) (mvT hZ (hw _ (List.mem_of_getElem? (i := 4) rfl))) (by decide) (backOf (W := 0) (rm1 l Z a0 hw [] b9 j2 10 _ h9 n0 Zc10 (by decide) Vc10_b9 g_b9) hZ (hw _ (List.mem_of_getElem? (i := 4) rfl)) (hw _ (List.mem_of_getElem? (i := 3) rfl)) (by decide) (by decide)) (g := (mkF m 21 #[.val (.long j0), .second, .val (.long j2), .second, .val (.int i4), .val (.int i5), .val (.int i6), .val (.int i7), .val (.ref b7), .val (.ref b9), .unset, .unset, .unset, .unset, .unset, .unset, .unset, .unset] [(.long j2), (.ref b9)])) rfl (by rw [hml]; rfl) (argsL := [(.ref b9), (.long j2)]) (rest := []) (lenOf pd_0_0 rfl) rfl (by show 2 * 0 + _ ≤ _; exact Nat.le_of_eq rfl) (hb hby at_21) (fun _ _ => ⟨rfl, e9, (by decide : 0 + 2 + 0 ≤ room_1.cells), (by decide : 0 + 18 + 0 ≤ room_1.slots)⟩)
  dsimp only [Pt.U, Pt.locs, Pt.cells, Pt.slots] at X10 l10 y10 z10 st10 hQ10
  subst l10 y10 z10
  obtain ⟨rfl, N10q, Kq10, gq10, Vq10, -⟩ := hQ10
  have N10 := Fr.app N8 N10q
  have K10 : Keep h0 T10.heap [] := K9.trans Kq10 (fun x hx => by cases List.mem_singleton.mp hx; exact Or.inr sz_b9)
  obtain ⟨cl_31, Ar_31, S_31, H_31⟩ := id Vq10
  have hin31 := Ary.inn S_31 (show own_ix (8 : Int32) 8 from rfl) (by decide)
  obtain ⟨T11, h11, X11, e11, W11, st11⟩ := stB X10 hx hZ rfl Ar_31 (j := (8 : Int32)) hin31 (g := (mkF m 31 #[.val (.long j0), .second, .val (.long j2), .second, .val (.int i4), .val (.int i5), .val (.int i6), .val (.int i7), .val (.ref b7), .val (.ref b9), .unset, .unset, .unset, .unset, .unset, .unset, .unset, .unset] [(.int (i7.toInt8.toInt32)), (.int (8 : Int32)), (.ref b9)])) rfl rfl (hb hby at_31)
  have V_b9_11 := Ary.set Ar_31 S_31 H_31 W11 (show own_ix (8 : Int32) 8 from rfl)
  have K11 : Keep h0 h11 [] := K10.wr W11 (Or.inr sz_b9)
  have N11 := Fr.snoc X11 N10 g_b9
  obtain ⟨cl_42, Ar_42, S_42, H_42⟩ := id V_b9_11
  have hin42 := Ary.inn S_42 (show own_ix (9 : Int32) 9 from rfl) (by decide)
  obtain ⟨T12, h12, X12, e12, W12, st12⟩ := stB X11 hx hZ e11 Ar_42 (j := (9 : Int32)) hin42 (g := (mkF m 42 #[.val (.long j0), .second, .val (.long j2), .second, .val (.int i4), .val (.int i5), .val (.int i6), .val (.int i7), .val (.ref b7), .val (.ref b9), .unset, .unset, .unset, .unset, .unset, .unset, .unset, .unset] [(.int (((i7.toUInt32 >>> ((8 : Int32) &&& 31).toUInt32).toInt32).toInt8.toInt32)), (.int (9 : Int32)), (.ref b9)])) rfl rfl (hb hby at_42)
  have V_b9_12 := Ary.set Ar_42 S_42 H_42 W12 (show own_ix (9 : Int32) 9 from rfl)
  have K12 : Keep h0 h12 [] := K11.wr W12 (Or.inr sz_b9)
  have N12 := Fr.snoc X12 N11 g_b9
  have Vend_b7 := ((((Vq8.ext E9).keep Kq10 (own_ni (Nat.ne_of_lt (Nat.lt_of_lt_of_le Vq8.lt (Nat.le_of_eq g9.symm))))).other W11 (Nat.ne_of_lt (Nat.lt_of_lt_of_le Vq8.lt (Nat.le_of_eq g9.symm)))).other W12 (Nat.ne_of_lt (Nat.lt_of_lt_of_le Vq8.lt (Nat.le_of_eq g9.symm))))
  have Vend_b9 := V_b9_12
  have Zend : n0 ≤ h12.size := (Nat.le_trans (Nat.le_trans (Nat.le_trans (Nat.le_trans (Nat.le_trans (Nat.le_trans Z0 E7.1) Kq8.1) E9.1) Kq10.1) (Keep.of_wr W11).1) (Keep.of_wr W12).1)
  have Kend := K12
  refine ⟨T12, _, _, b7, b9, gq8, _, X12, e12, N12, g_b7, g_b9, Nat.ne_of_lt (Nat.lt_of_lt_of_le Vq8.lt (Nat.le_of_eq g9.symm)), Vend_b7, Bq8, Vend_b9, Zend, fun target kt => ?_⟩
  show Steps p.tables e below (T0.setTop (mkF m 0 #[.val (.long j0), .second, .val (.long j2), .second, .val (.int i4), .val (.int i5), .val (.int i6), .val (.int i7), .unset, .unset, .unset, .unset, .unset, .unset, .unset, .unset, .unset, .unset] [])) _
  refine XS.bipush X0.here hx rfl (hb hby at_0) ?_
  show Steps p.tables e below (T0.setTop (mkF m 2 #[.val (.long j0), .second, .val (.long j2), .second, .val (.int i4), .val (.int i5), .val (.int i6), .val (.int i7), .unset, .unset, .unset, .unset, .unset, .unset, .unset, .unset, .unset, .unset] [(.int (8 : Int32))])) _
  refine st7 _ ?_
  show Steps p.tables e below (T7.setTop (mkF m 4 #[.val (.long j0), .second, .val (.long j2), .second, .val (.int i4), .val (.int i5), .val (.int i6), .val (.int i7), .unset, .unset, .unset, .unset, .unset, .unset, .unset, .unset, .unset, .unset] [(.ref b7)])) _
  refine XS.astore X7.here hx rfl (hb hby at_4) rfl rfl (l' := #[.val (.long j0), .second, .val (.long j2), .second, .val (.int i4), .val (.int i5), .val (.int i6), .val (.int i7), .val (.ref b7), .unset, .unset, .unset, .unset, .unset, .unset, .unset, .unset, .unset]) rfl ?_
  show Steps p.tables e below (T7.setTop (mkF m 6 #[.val (.long j0), .second, .val (.long j2), .second, .val (.int i4), .val (.int i5), .val (.int i6), .val (.int i7), .val (.ref b7), .unset, .unset, .unset, .unset, .unset, .unset, .unset, .unset, .unset] [])) _
  refine XS.aload X7.here hx rfl (hb hby at_6) rfl rfl ?_
  show Steps p.tables e below (T7.setTop (mkF m 8 #[.val (.long j0), .second, .val (.long j2), .second, .val (.int i4), .val (.int i5), .val (.int i6), .val (.int i7), .val (.ref b7), .unset, .unset, .unset, .unset, .unset, .unset, .unset, .unset, .unset] [(.ref b7)])) _
  refine XS.lloadN X7.here hx rfl (hb hby at_8) rfl ?_
  show Steps p.tables e below (T7.setTop (mkF m 9 #[.val (.long j0), .second, .val (.long j2), .second, .val (.int i4), .val (.int i5), .val (.int i6), .val (.int i7), .val (.ref b7), .unset, .unset, .unset, .unset, .unset, .unset, .unset, .unset, .unset] [(.long j0), (.ref b7)])) _
  refine st8 _ ?_
  show Steps p.tables e below (T8.setTop (mkF m 12 #[.val (.long j0), .second, .val (.long j2), .second, .val (.int i4), .val (.int i5), .val (.int i6), .val (.int i7), .val (.ref b7), .unset, .unset, .unset, .unset, .unset, .unset, .unset, .unset, .unset] [])) _
  refine XS.bipush X8.here hx rfl (hb hby at_12) ?_
  show Steps p.tables e below (T8.setTop (mkF m 14 #[.val (.long j0), .second, .val (.long j2), .second, .val (.int i4), .val (.int i5), .val (.int i6), .val (.int i7), .val (.ref b7), .unset, .unset, .unset, .unset, .unset, .unset, .unset, .unset, .unset] [(.int (10 : Int32))])) _
  refine st9 _ ?_
  show Steps p.tables e below (T9.setTop (mkF m 16 #[.val (.long j0), .second, .val (.long j2), .second, .val (.int i4), .val (.int i5), .val (.int i6), .val (.int i7), .val (.ref b7), .unset, .unset, .unset, .unset, .unset, .unset, .unset, .unset, .unset] [(.ref b9)])) _
  refine XS.astore X9.here hx rfl (hb hby at_16) rfl rfl (l' := #[.val (.long j0), .second, .val (.long j2), .second, .val (.int i4), .val (.int i5), .val (.int i6), .val (.int i7), .val (.ref b7), .val (.ref b9), .unset, .unset, .unset, .unset, .unset, .unset, .unset, .unset]) rfl ?_
  show Steps p.tables e below (T9.setTop (mkF m 18 #[.val (.long j0), .second, .val (.long j2), .second, .val (.int i4), .val (.int i5), .val (.int i6), .val (.int i7), .val (.ref b7), .val (.ref b9), .unset, .unset, .unset, .unset, .unset, .unset, .unset, .unset] [])) _
  refine XS.aload X9.here hx rfl (hb hby at_18) rfl rfl ?_
  show Steps p.tables e below (T9.setTop (mkF m 20 #[.val (.long j0), .second, .val (.long j2), .second, .val (.int i4), .val (.int i5), .val (.int i6), .val (.int i7), .val (.ref b7), .val (.ref b9), .unset, .unset, .unset, .unset, .unset, .unset, .unset, .unset] [(.ref b9)])) _
  refine XS.lloadN X9.here hx rfl (hb hby at_20) rfl ?_
  show Steps p.tables e below (T9.setTop (mkF m 21 #[.val (.long j0), .second, .val (.long j2), .second, .val (.int i4), .val (.int i5), .val (.int i6), .val (.int i7), .val (.ref b7), .val (.ref b9), .unset, .unset, .unset, .unset, .unset, .unset, .unset, .unset] [(.long j2), (.ref b9)])) _
  refine st10 _ ?_
  show Steps p.tables e below (T10.setTop (mkF m 24 #[.val (.long j0), .second, .val (.long j2), .second, .val (.int i4), .val (.int i5), .val (.int i6), .val (.int i7), .val (.ref b7), .val (.ref b9), .unset, .unset, .unset, .unset, .unset, .unset, .unset, .unset] [])) _
  refine XS.aload X10.here hx rfl (hb hby at_24) rfl rfl ?_
  show Steps p.tables e below (T10.setTop (mkF m 26 #[.val (.long j0), .second, .val (.long j2), .second, .val (.int i4), .val (.int i5), .val (.int i6), .val (.int i7), .val (.ref b7), .val (.ref b9), .unset, .unset, .unset, .unset, .unset, .unset, .unset, .unset] [(.ref b9)])) _
  refine XS.bipush X10.here hx rfl (hb hby at_26) ?_
  show Steps p.tables e below (T10.setTop (mkF m 28 #[.val (.long j0), .second, .val (.long j2), .second, .val (.int i4), .val (.int i5), .val (.int i6), .val (.int i7), .val (.ref b7), .val (.ref b9), .unset, .unset, .unset, .unset, .unset, .unset, .unset, .unset] [(.int (8 : Int32)), (.ref b9)])) _
  refine XS.iload X10.here hx rfl (hb hby at_28) rfl ?_
  show Steps p.tables e below (T10.setTop (mkF m 30 #[.val (.long j0), .second, .val (.long j2), .second, .val (.int i4), .val (.int i5), .val (.int i6), .val (.int i7), .val (.ref b7), .val (.ref b9), .unset, .unset, .unset, .unset, .unset, .unset, .unset, .unset] [(.int i7), (.int (8 : Int32)), (.ref b9)])) _
  refine XS.i2b X10.here hx rfl (hb hby at_30) rfl ?_
  show Steps p.tables e below (T10.setTop (mkF m 31 #[.val (.long j0), .second, .val (.long j2), .second, .val (.int i4), .val (.int i5), .val (.int i6), .val (.int i7), .val (.ref b7), .val (.ref b9), .unset, .unset, .unset, .unset, .unset, .unset, .unset, .unset] [(.int (i7.toInt8.toInt32)), (.int (8 : Int32)), (.ref b9)])) _
  refine st11 _ ?_
  show Steps p.tables e below (T11.setTop (mkF m 32 #[.val (.long j0), .second, .val (.long j2), .second, .val (.int i4), .val (.int i5), .val (.int i6), .val (.int i7), .val (.ref b7), .val (.ref b9), .unset, .unset, .unset, .unset, .unset, .unset, .unset, .unset] [])) _
  refine XS.aload X11.here hx rfl (hb hby at_32) rfl rfl ?_
  show Steps p.tables e below (T11.setTop (mkF m 34 #[.val (.long j0), .second, .val (.long j2), .second, .val (.int i4), .val (.int i5), .val (.int i6), .val (.int i7), .val (.ref b7), .val (.ref b9), .unset, .unset, .unset, .unset, .unset, .unset, .unset, .unset] [(.ref b9)])) _
  refine XS.bipush X11.here hx rfl (hb hby at_34) ?_
  show Steps p.tables e below (T11.setTop (mkF m 36 #[.val (.long j0), .second, .val (.long j2), .second, .val (.int i4), .val (.int i5), .val (.int i6), .val (.int i7), .val (.ref b7), .val (.ref b9), .unset, .unset, .unset, .unset, .unset, .unset, .unset, .unset] [(.int (9 : Int32)), (.ref b9)])) _
  refine XS.iload X11.here hx rfl (hb hby at_36) rfl ?_
  show Steps p.tables e below (T11.setTop (mkF m 38 #[.val (.long j0), .second, .val (.long j2), .second, .val (.int i4), .val (.int i5), .val (.int i6), .val (.int i7), .val (.ref b7), .val (.ref b9), .unset, .unset, .unset, .unset, .unset, .unset, .unset, .unset] [(.int i7), (.int (9 : Int32)), (.ref b9)])) _
  refine XS.bipush X11.here hx rfl (hb hby at_38) ?_
  show Steps p.tables e below (T11.setTop (mkF m 40 #[.val (.long j0), .second, .val (.long j2), .second, .val (.int i4), .val (.int i5), .val (.int i6), .val (.int i7), .val (.ref b7), .val (.ref b9), .unset, .unset, .unset, .unset, .unset, .unset, .unset, .unset] [(.int (8 : Int32)), (.int i7), (.int (9 : Int32)), (.ref b9)])) _
  refine XS.iushr X11.here hx rfl (hb hby at_40) rfl ?_
  show Steps p.tables e below (T11.setTop (mkF m 41 #[.val (.long j0), .second, .val (.long j2), .second, .val (.int i4), .val (.int i5), .val (.int i6), .val (.int i7), .val (.ref b7), .val (.ref b9), .unset, .unset, .unset, .unset, .unset, .unset, .unset, .unset] [(.int ((i7.toUInt32 >>> ((8 : Int32) &&& 31).toUInt32).toInt32)), (.int (9 : Int32)), (.ref b9)])) _
  refine XS.i2b X11.here hx rfl (hb hby at_41) rfl ?_
  show Steps p.tables e below (T11.setTop (mkF m 42 #[.val (.long j0), .second, .val (.long j2), .second, .val (.int i4), .val (.int i5), .val (.int i6), .val (.int i7), .val (.ref b7), .val (.ref b9), .unset, .unset, .unset, .unset, .unset, .unset, .unset, .unset] [(.int (((i7.toUInt32 >>> ((8 : Int32) &&& 31).toUInt32).toInt32).toInt8.toInt32)), (.int (9 : Int32)), (.ref b9)])) _
  refine st12 _ ?_
  exact kt
set_option maxRecDepth 65536 in
set_option maxHeartbeats 40000000 in
theorem tn0_43_53 {p : Program} {l : Launch} {e : Env} {R : Room} {s : State} {m : MethodId} {args : Array Value} {below : List Frame} {meth : Method} {c : Code} {T0 : State} {locs : List Loc} {cells slots : Nat} {Z : State} {a0 : Array Value} {h0 : Heap} (s0 : Slot) (s1 : Slot) (s2 : Slot) (s3 : Slot) (i4 : Int32) (s5 : Slot) (s6 : Slot) (s7 : Slot) (s8 : Slot) (s9 : Slot)
    (X0 : Stand p l e R s m args below meth c T0 locs cells slots) (hx : p.tables.exec = Jvm.exec) (hZ : Z.Warmed39 s.vm) (hw : ∀ d ∈ tables_1, d.before a0 Z = true) (hby : c.code = code) (hml : c.maxLocals = 18) (hown : s.vm.findClass "com/example/patras/patras/BloomFilterHashPinLaw" = some m.cls) (e0 : T0.heap = h0) (hnz50 : ¬ ((9 : Int32) = (0 : Int32))) :
    ∃ (T' : State), Stand p l e R s m args below meth c T' locs cells slots ∧ T'.heap = h0 ∧
      ∀ target, Steps p.tables e below (T'.setTop (mkF m 53 #[s0, s1, s2, s3, .val (.int i4), s5, s6, s7, s8, s9, .val (.int ((i4 &&& (2147483647 : Int32)) - ((i4 &&& (2147483647 : Int32)) / (9 : Int32)) * (9 : Int32))), .unset, .unset, .unset, .unset, .unset, .unset, .unset] [])) target → Steps p.tables e below (T0.setTop (mkF m 43 #[s0, s1, s2, s3, .val (.int i4), s5, s6, s7, s8, s9, .unset, .unset, .unset, .unset, .unset, .unset, .unset, .unset] [])) target := by
  refine ⟨T0, X0, e0, fun target kt => ?_⟩
  show Steps p.tables e below (T0.setTop (mkF m 43 #[s0, s1, s2, s3, .val (.int i4), s5, s6, s7, s8, s9, .unset, .unset, .unset, .unset, .unset, .unset, .unset, .unset] [])) _
  refine XS.iload X0.here hx rfl (hb hby at_43) rfl ?_
  show Steps p.tables e below (T0.setTop (mkF m 45 #[s0, s1, s2, s3, .val (.int i4), s5, s6, s7, s8, s9, .unset, .unset, .unset, .unset, .unset, .unset, .unset, .unset] [(.int i4)])) _
  refine X0.ldcInt hx hown (mvT hZ (hw _ (List.mem_of_getElem? (i := 5) rfl))) (g := (mkF m 45 #[s0, s1, s2, s3, .val (.int i4), s5, s6, s7, s8, s9, .unset, .unset, .unset, .unset, .unset, .unset, .unset, .unset] [(.int i4)])) rfl (hb hby at_45) _ ?_
  show Steps p.tables e below (T0.setTop (mkF m 47 #[s0, s1, s2, s3, .val (.int i4), s5, s6, s7, s8, s9, .unset, .unset, .unset, .unset, .unset, .unset, .unset, .unset] [(.int (2147483647 : Int32)), (.int i4)])) _
  refine XS.iand X0.here hx rfl (hb hby at_47) rfl ?_
  show Steps p.tables e below (T0.setTop (mkF m 48 #[s0, s1, s2, s3, .val (.int i4), s5, s6, s7, s8, s9, .unset, .unset, .unset, .unset, .unset, .unset, .unset, .unset] [(.int (i4 &&& (2147483647 : Int32)))])) _
  refine XS.bipush X0.here hx rfl (hb hby at_48) ?_
  show Steps p.tables e below (T0.setTop (mkF m 50 #[s0, s1, s2, s3, .val (.int i4), s5, s6, s7, s8, s9, .unset, .unset, .unset, .unset, .unset, .unset, .unset, .unset] [(.int (9 : Int32)), (.int (i4 &&& (2147483647 : Int32)))])) _
  refine XS.irem X0.here hx rfl (hb hby at_50) rfl hnz50 ?_
  show Steps p.tables e below (T0.setTop (mkF m 51 #[s0, s1, s2, s3, .val (.int i4), s5, s6, s7, s8, s9, .unset, .unset, .unset, .unset, .unset, .unset, .unset, .unset] [(.int ((i4 &&& (2147483647 : Int32)) - ((i4 &&& (2147483647 : Int32)) / (9 : Int32)) * (9 : Int32)))])) _
  refine XS.istore X0.here hx rfl (hb hby at_51) rfl (l' := #[s0, s1, s2, s3, .val (.int i4), s5, s6, s7, s8, s9, .val (.int ((i4 &&& (2147483647 : Int32)) - ((i4 &&& (2147483647 : Int32)) / (9 : Int32)) * (9 : Int32))), .unset, .unset, .unset, .unset, .unset, .unset, .unset]) rfl ?_
  exact kt
set_option maxRecDepth 65536 in
set_option maxHeartbeats 40000000 in
theorem tn0_53_66 {p : Program} {l : Launch} {e : Env} {R : Room} {s : State} {m : MethodId} {args : Array Value} {below : List Frame} {meth : Method} {c : Code} {T0 : State} {locs : List Loc} {cells slots : Nat} {Z : State} {a0 : Array Value} {h0 : Heap} (s0 : Slot) (s1 : Slot) (s2 : Slot) (s3 : Slot) (s4 : Slot) (i5 : Int32) (s6 : Slot) (s7 : Slot) (s8 : Slot) (s9 : Slot) (i10 : Int32)
    (X0 : Stand p l e R s m args below meth c T0 locs cells slots) (hx : p.tables.exec = Jvm.exec) (hZ : Z.Warmed39 s.vm) (hw : ∀ d ∈ tables_1, d.before a0 Z = true) (hby : c.code = code) (hml : c.maxLocals = 18) (hown : s.vm.findClass "com/example/patras/patras/BloomFilterHashPinLaw" = some m.cls) (e0 : T0.heap = h0) (hnz63 : ¬ (((9 : Int32) - i10) = (0 : Int32))) :
    ∃ (T' : State), Stand p l e R s m args below meth c T' locs cells slots ∧ T'.heap = h0 ∧
      ∀ target, Steps p.tables e below (T'.setTop (mkF m 66 #[s0, s1, s2, s3, s4, .val (.int i5), s6, s7, s8, s9, .val (.int i10), .val (.int ((i5 &&& (2147483647 : Int32)) - ((i5 &&& (2147483647 : Int32)) / ((9 : Int32) - i10)) * ((9 : Int32) - i10))), .unset, .unset, .unset, .unset, .unset, .unset] [])) target → Steps p.tables e below (T0.setTop (mkF m 53 #[s0, s1, s2, s3, s4, .val (.int i5), s6, s7, s8, s9, .val (.int i10), .unset, .unset, .unset, .unset, .unset, .unset, .unset] [])) target := by
  refine ⟨T0, X0, e0, fun target kt => ?_⟩
  show Steps p.tables e below (T0.setTop (mkF m 53 #[s0, s1, s2, s3, s4, .val (.int i5), s6, s7, s8, s9, .val (.int i10), .unset, .unset, .unset, .unset, .unset, .unset, .unset] [])) _
  refine XS.iload X0.here hx rfl (hb hby at_53) rfl ?_
  show Steps p.tables e below (T0.setTop (mkF m 55 #[s0, s1, s2, s3, s4, .val (.int i5), s6, s7, s8, s9, .val (.int i10), .unset, .unset, .unset, .unset, .unset, .unset, .unset] [(.int i5)])) _
  refine X0.ldcInt hx hown (mvT hZ (hw _ (List.mem_of_getElem? (i := 5) rfl))) (g := (mkF m 55 #[s0, s1, s2, s3, s4, .val (.int i5), s6, s7, s8, s9, .val (.int i10), .unset, .unset, .unset, .unset, .unset, .unset, .unset] [(.int i5)])) rfl (hb hby at_55) _ ?_
  show Steps p.tables e below (T0.setTop (mkF m 57 #[s0, s1, s2, s3, s4, .val (.int i5), s6, s7, s8, s9, .val (.int i10), .unset, .unset, .unset, .unset, .unset, .unset, .unset] [(.int (2147483647 : Int32)), (.int i5)])) _
  refine XS.iand X0.here hx rfl (hb hby at_57) rfl ?_
  show Steps p.tables e below (T0.setTop (mkF m 58 #[s0, s1, s2, s3, s4, .val (.int i5), s6, s7, s8, s9, .val (.int i10), .unset, .unset, .unset, .unset, .unset, .unset, .unset] [(.int (i5 &&& (2147483647 : Int32)))])) _
  refine XS.bipush X0.here hx rfl (hb hby at_58) ?_
  show Steps p.tables e below (T0.setTop (mkF m 60 #[s0, s1, s2, s3, s4, .val (.int i5), s6, s7, s8, s9, .val (.int i10), .unset, .unset, .unset, .unset, .unset, .unset, .unset] [(.int (9 : Int32)), (.int (i5 &&& (2147483647 : Int32)))])) _
  refine XS.iload X0.here hx rfl (hb hby at_60) rfl ?_
  show Steps p.tables e below (T0.setTop (mkF m 62 #[s0, s1, s2, s3, s4, .val (.int i5), s6, s7, s8, s9, .val (.int i10), .unset, .unset, .unset, .unset, .unset, .unset, .unset] [(.int i10), (.int (9 : Int32)), (.int (i5 &&& (2147483647 : Int32)))])) _
  refine XS.isub X0.here hx rfl (hb hby at_62) rfl ?_
  show Steps p.tables e below (T0.setTop (mkF m 63 #[s0, s1, s2, s3, s4, .val (.int i5), s6, s7, s8, s9, .val (.int i10), .unset, .unset, .unset, .unset, .unset, .unset, .unset] [(.int ((9 : Int32) - i10)), (.int (i5 &&& (2147483647 : Int32)))])) _
  refine XS.irem X0.here hx rfl (hb hby at_63) rfl hnz63 ?_
  show Steps p.tables e below (T0.setTop (mkF m 64 #[s0, s1, s2, s3, s4, .val (.int i5), s6, s7, s8, s9, .val (.int i10), .unset, .unset, .unset, .unset, .unset, .unset, .unset] [(.int ((i5 &&& (2147483647 : Int32)) - ((i5 &&& (2147483647 : Int32)) / ((9 : Int32) - i10)) * ((9 : Int32) - i10)))])) _
  refine XS.istore X0.here hx rfl (hb hby at_64) rfl (l' := #[s0, s1, s2, s3, s4, .val (.int i5), s6, s7, s8, s9, .val (.int i10), .val (.int ((i5 &&& (2147483647 : Int32)) - ((i5 &&& (2147483647 : Int32)) / ((9 : Int32) - i10)) * ((9 : Int32) - i10))), .unset, .unset, .unset, .unset, .unset, .unset]) rfl ?_
  exact kt
set_option maxRecDepth 65536 in
set_option maxHeartbeats 40000000 in
theorem tn0_66_79 {p : Program} {l : Launch} {e : Env} {R : Room} {s : State} {m : MethodId} {args : Array Value} {below : List Frame} {meth : Method} {c : Code} {T0 : State} {locs : List Loc} {cells slots : Nat} {Z : State} {a0 : Array Value} {h0 : Heap} (s0 : Slot) (s1 : Slot) (s2 : Slot) (s3 : Slot) (s4 : Slot) (s5 : Slot) (i6 : Int32) (s7 : Slot) (s8 : Slot) (s9 : Slot) (s10 : Slot) (i11 : Int32)
    (X0 : Stand p l e R s m args below meth c T0 locs cells slots) (hx : p.tables.exec = Jvm.exec) (hZ : Z.Warmed39 s.vm) (hw : ∀ d ∈ tables_1, d.before a0 Z = true) (hby : c.code = code) (hml : c.maxLocals = 18) (hown : s.vm.findClass "com/example/patras/patras/BloomFilterHashPinLaw" = some m.cls) (e0 : T0.heap = h0) (hnz76 : ¬ (((11 : Int32) - i11) = (0 : Int32))) :
    ∃ (T' : State), Stand p l e R s m args below meth c T' locs cells slots ∧ T'.heap = h0 ∧
      ∀ target, Steps p.tables e below (T'.setTop (mkF m 79 #[s0, s1, s2, s3, s4, s5, .val (.int i6), s7, s8, s9, s10, .val (.int i11), .val (.int ((i6 &&& (2147483647 : Int32)) - ((i6 &&& (2147483647 : Int32)) / ((11 : Int32) - i11)) * ((11 : Int32) - i11))), .unset, .unset, .unset, .unset, .unset] [])) target → Steps p.tables e below (T0.setTop (mkF m 66 #[s0, s1, s2, s3, s4, s5, .val (.int i6), s7, s8, s9, s10, .val (.int i11), .unset, .unset, .unset, .unset, .unset, .unset] [])) target := by
  refine ⟨T0, X0, e0, fun target kt => ?_⟩
  show Steps p.tables e below (T0.setTop (mkF m 66 #[s0, s1, s2, s3, s4, s5, .val (.int i6), s7, s8, s9, s10, .val (.int i11), .unset, .unset, .unset, .unset, .unset, .unset] [])) _
  refine XS.iload X0.here hx rfl (hb hby at_66) rfl ?_
  show Steps p.tables e below (T0.setTop (mkF m 68 #[s0, s1, s2, s3, s4, s5, .val (.int i6), s7, s8, s9, s10, .val (.int i11), .unset, .unset, .unset, .unset, .unset, .unset] [(.int i6)])) _
  refine X0.ldcInt hx hown (mvT hZ (hw _ (List.mem_of_getElem? (i := 5) rfl))) (g := (mkF m 68 #[s0, s1, s2, s3, s4, s5, .val (.int i6), s7, s8, s9, s10, .val (.int i11), .unset, .unset, .unset, .unset, .unset, .unset] [(.int i6)])) rfl (hb hby at_68) _ ?_
  show Steps p.tables e below (T0.setTop (mkF m 70 #[s0, s1, s2, s3, s4, s5, .val (.int i6), s7, s8, s9, s10, .val (.int i11), .unset, .unset, .unset, .unset, .unset, .unset] [(.int (2147483647 : Int32)), (.int i6)])) _
  refine XS.iand X0.here hx rfl (hb hby at_70) rfl ?_
  show Steps p.tables e below (T0.setTop (mkF m 71 #[s0, s1, s2, s3, s4, s5, .val (.int i6), s7, s8, s9, s10, .val (.int i11), .unset, .unset, .unset, .unset, .unset, .unset] [(.int (i6 &&& (2147483647 : Int32)))])) _
  refine XS.bipush X0.here hx rfl (hb hby at_71) ?_
  show Steps p.tables e below (T0.setTop (mkF m 73 #[s0, s1, s2, s3, s4, s5, .val (.int i6), s7, s8, s9, s10, .val (.int i11), .unset, .unset, .unset, .unset, .unset, .unset] [(.int (11 : Int32)), (.int (i6 &&& (2147483647 : Int32)))])) _
  refine XS.iload X0.here hx rfl (hb hby at_73) rfl ?_
  show Steps p.tables e below (T0.setTop (mkF m 75 #[s0, s1, s2, s3, s4, s5, .val (.int i6), s7, s8, s9, s10, .val (.int i11), .unset, .unset, .unset, .unset, .unset, .unset] [(.int i11), (.int (11 : Int32)), (.int (i6 &&& (2147483647 : Int32)))])) _
  refine XS.isub X0.here hx rfl (hb hby at_75) rfl ?_
  show Steps p.tables e below (T0.setTop (mkF m 76 #[s0, s1, s2, s3, s4, s5, .val (.int i6), s7, s8, s9, s10, .val (.int i11), .unset, .unset, .unset, .unset, .unset, .unset] [(.int ((11 : Int32) - i11)), (.int (i6 &&& (2147483647 : Int32)))])) _
  refine XS.irem X0.here hx rfl (hb hby at_76) rfl hnz76 ?_
  show Steps p.tables e below (T0.setTop (mkF m 77 #[s0, s1, s2, s3, s4, s5, .val (.int i6), s7, s8, s9, s10, .val (.int i11), .unset, .unset, .unset, .unset, .unset, .unset] [(.int ((i6 &&& (2147483647 : Int32)) - ((i6 &&& (2147483647 : Int32)) / ((11 : Int32) - i11)) * ((11 : Int32) - i11)))])) _
  refine XS.istore X0.here hx rfl (hb hby at_77) rfl (l' := #[s0, s1, s2, s3, s4, s5, .val (.int i6), s7, s8, s9, s10, .val (.int i11), .val (.int ((i6 &&& (2147483647 : Int32)) - ((i6 &&& (2147483647 : Int32)) / ((11 : Int32) - i11)) * ((11 : Int32) - i11))), .unset, .unset, .unset, .unset, .unset]) rfl ?_
  exact kt
theorem pd_0_1 : parseMethodDescriptor "([BI[BII)V" = some ⟨[(.array .byte), .int, (.array .byte), .int, .int], none⟩ := by decide +kernel
theorem pd_0_2 : parseMethodDescriptor "([BII)J" = some ⟨[(.array .byte), .int, .int], some .long⟩ := by decide +kernel
set_option maxRecDepth 65536 in
set_option maxHeartbeats 40000000 in
theorem sgCp {p : Program} {l : Launch} {e : Env} {s : State} {m : MethodId} {args : Array Value} {below : List Frame} {meth : Method} {c : Code} {T0 : State} {locs : List Loc} {Z : State} {a0 : Array Value} {h0 : Heap} (s0 : Slot) (s1 : Slot) (s2 : Slot) (s3 : Slot) (s4 : Slot) (s5 : Slot) (s6 : Slot) (s7 : Slot) (o8 : Addr) (o9 : Addr) (i10 : Int32) (i11 : Int32) (i12 : Int32) (n0 : Nat) (o : Nat) (d : Nat) (n : Nat) (f_o8 : Nat → Value) (f_o9 : Nat → Value)
    (X0 : Stand p l e room_1 s m args below meth c T0 locs 2 18) (hx : p.tables.exec = Jvm.exec) (hZ : Z.Warmed39 s.vm) (hw : ∀ d ∈ tables_1, d.before a0 Z = true) (hby : c.code = code) (hml : c.maxLocals = 18) (hown : s.vm.findClass "com/example/patras/patras/BloomFilterHashPinLaw" = some m.cls) (e0 : T0.heap = h0) (Z0 : n0 ≤ h0.size) (N0 : Fr n0 locs) (ixo : own_ix i10 o) (ixn : own_ix i11 n) (ixd : own_ix i12 d) (hs : o + n ≤ 8) (hd : d + n ≤ 10) (hb8 : own_by 8 f_o8) (hFs : ∀ j, j < 8 → f_o8 j = .int (own_int (f_o8 j))) (ne : o8 ≠ o9) (g_o9 : n0 ≤ o9) (hn : 0 < n) (V_o8 : Ary Z h0 o8 .byte 8 f_o8) (V_o9 : Ary Z h0 o9 .byte 10 f_o9) (hc127 : (0 : Int32) < i11) (hc145 : ¬ ((1 : Int32) = (0 : Int32))) (hc209 : ¬ ((1 : Int32) = (0 : Int32))) :
    ∃ (T' : State) (h' : Heap) (locs' : List Loc), Stand p l e room_1 s m args below meth c T' locs' 2 18 ∧ T'.heap = h' ∧ Fr n0 locs' ∧
      ∀ target, Steps p.tables e below (T'.setTop (mkF m 236 #[s0, s1, s2, s3, s4, s5, s6, s7, .val (.ref o8), .val (.ref o9), .val (.int i10), .val (.int i11), .val (.int i12), .val (.long (own_fold own_step (fun j => own_int (f_o8 j)) n o (-3750763034362895579 : Int64))), .second, .val (.int (1 : Int32)), .val (.long (own_fold own_step (fun j => own_int (f_o8 j)) (n - 1) o (-3750763034362895579 : Int64))), .second] [(.int (1 : Int32))])) target → Steps p.tables e below (T0.setTop (mkF m 79 #[s0, s1, s2, s3, s4, s5, s6, s7, .val (.ref o8), .val (.ref o9), .val (.int i10), .val (.int i11), .val (.int i12), .unset, .unset, .unset, .unset, .unset] [])) target := by
  have Zc7 : n0 ≤ h0.size := Z0
  have Vc7_o8 := V_o8
  have Vc7_o9 := V_o9
  obtain ⟨_, _, ⟨T7, L7, k7, n7⟩, -, X7, ⟨Lc7, hQ7, l7, y7, z7⟩, st7⟩ := Jvm.LawKit.callS X0 hx (y := (⟨"com/example/patras/patras/BloomFilterHashPinLaw", "copy", "([BI[BII)V"⟩ : MethodName)) hown (mvT hZ (hw _ (List.mem_of_getElem? (i := 6) rfl))) (mvT hZ (hw _ (List.mem_of_getElem? (i := 7) rfl))) (mvT hZ (hw _ (List.mem_of_getElem? (i := 3) rfl))) (mvT hZ (hw _ (List.mem_of_getElem? (i := 8) rfl))) (by decide) (backOf (W := 0) (rm2 l Z a0 hw [] o8 i10 o9 i12 i11 f_o8 f_o9 o d n h0 n0 Zc7 ixo ixd ixn hs hd hb8 ne g_o9 Vc7_o8 Vc7_o9) hZ (hw _ (List.mem_of_getElem? (i := 8) rfl)) (hw _ (List.mem_of_getElem? (i := 3) rfl)) (by decide) (by decide)) (g := (mkF m 89 #[s0, s1, s2, s3, s4, s5, s6, s7, .val (.ref o8), .val (.ref o9), .val (.int i10), .val (.int i11), .val (.int i12), .unset, .unset, .unset, .unset, .unset] [(.int i11), (.int i12), (.ref o9), (.int i10), (.ref o8)])) rfl (by rw [hml]; rfl) (argsL := [(.ref o8), (.int i10), (.ref o9), (.int i12), (.int i11)]) (rest := []) (lenOf pd_0_1 rfl) rfl (by show 2 * 0 + _ ≤ _; exact Nat.le_of_eq rfl) (hb hby at_89) (fun _ _ => ⟨rfl, e0, (by decide : 2 + 0 + 0 ≤ room_1.cells), (by decide : 18 + 0 + 0 ≤ room_1.slots)⟩)
  dsimp only [Pt.U, Pt.locs, Pt.cells, Pt.slots] at X7 l7 y7 z7 st7 hQ7
  subst l7 y7 z7
  obtain ⟨rfl, N7q, Kq7, gq7, Vq7, Pq7⟩ := hQ7
  have N7 := Fr.app N0 N7q
  have hFd : ∀ j, d ≤ j → j < d + n → gq7 j = .int (own_int (gq7 j)) := fun j h1 h2 => by
    have q := Pq7 (j - d) (by omega) (by omega)
    rw [show d + (j - d) = j by omega] at q
    rw [q]; exact hFs _ (by omega)
  have hsame0 : (own_fold own_step (fun j => own_int (gq7 j)) n d (-3750763034362895579 : Int64)) = (own_fold own_step (fun j => own_int (f_o8 j)) n o (-3750763034362895579 : Int64)) := own_fold_cong own_step n d o _ (fun j hj => by show own_int (gq7 (d + j)) = own_int (f_o8 (o + j)); rw [Pq7 j (by omega) hj])
  have K7 : Keep h0 T7.heap [o9] := (Keep.refl h0 [o9]).trans Kq7 (fun x hx => by cases List.mem_singleton.mp hx; exact Or.inl (List.mem_of_getElem? (i := 0) rfl))
  have Zc8 : n0 ≤ T7.heap.size := (Nat.le_trans Z0 Kq7.1)
  have Vc8_o8 := (V_o8.keep Kq7 (own_ni ne))
  obtain ⟨_, _, ⟨T8, L8, k8, n8⟩, -, X8, ⟨Lc8, hQ8, l8, y8, z8⟩, st8⟩ := Jvm.LawKit.callS X7 hx (y := (⟨"com/example/patras/patras/BloomFilter", "hash", "([BII)J"⟩ : MethodName)) hown (mvT hZ (hw _ (List.mem_of_getElem? (i := 9) rfl))) (mvT hZ (hw _ (List.mem_of_getElem? (i := 10) rfl))) (mvT hZ (hw _ (List.mem_of_getElem? (i := 11) rfl))) (mvT hZ (hw _ (List.mem_of_getElem? (i := 12) rfl))) (by decide) (backOf (W := 0) (rm3 l Z a0 hw [] o8 i10 i11 8 f_o8 (fun j => own_int (f_o8 j)) o n T7.heap n0 Zc8 ixo ixn hs (by decide) (fun j _ h => hFs j (by omega)) Vc8_o8) hZ (hw _ (List.mem_of_getElem? (i := 12) rfl)) (hw _ (List.mem_of_getElem? (i := 11) rfl)) (by decide) (by decide)) (g := (mkF m 98 #[s0, s1, s2, s3, s4, s5, s6, s7, .val (.ref o8), .val (.ref o9), .val (.int i10), .val (.int i11), .val (.int i12), .unset, .unset, .unset, .unset, .unset] [(.int i11), (.int i10), (.ref o8)])) rfl (by rw [hml]; rfl) (argsL := [(.ref o8), (.int i10), (.int i11)]) (rest := []) (lenOf pd_0_2 rfl) rfl (by show 2 * 0 + _ ≤ _; exact Nat.le_of_eq rfl) (hb hby at_98) (fun _ _ => ⟨rfl, rfl, (by decide : 2 + 0 + 0 ≤ room_1.cells), (by decide : 18 + 0 + 0 ≤ room_1.slots)⟩)
  dsimp only [Pt.U, Pt.locs, Pt.cells, Pt.slots] at X8 l8 y8 z8 st8 hQ8
  subst l8 y8 z8
  obtain ⟨rfl, N8q, eq8⟩ := hQ8
  have N8 := Fr.app N7 N8q
  have E8 : Ext T7.heap T8.heap := own_exteq eq8
  have K8 : Keep h0 T8.heap [o9] := K7.ext E8
  have Zc9 : n0 ≤ T8.heap.size := (Nat.le_trans (Nat.le_trans Z0 Kq7.1) E8.1)
  have Vc9_o8 := ((V_o8.keep Kq7 (own_ni ne)).ext E8)
  obtain ⟨_, _, ⟨T9, L9, k9, n9⟩, -, X9, ⟨Lc9, hQ9, l9, y9, z9⟩, st9⟩ := Jvm.LawKit.callS X8 hx (y := (⟨"com/example/patras/patras/BloomFilter", "hash", "([BII)J"⟩ : MethodName)) hown (mvT hZ (hw _ (List.mem_of_getElem? (i := 9) rfl))) (mvT hZ (hw _ (List.mem_of_getElem? (i := 10) rfl))) (mvT hZ (hw _ (List.mem_of_getElem? (i := 11) rfl))) (mvT hZ (hw _ (List.mem_of_getElem? (i := 12) rfl))) (by decide) (backOf (W := 0) (rm3 l Z a0 hw [] o8 i10 (0 : Int32) 8 f_o8 (fun j => own_int (f_o8 j)) o 0 T8.heap n0 Zc9 ixo (show own_ix (0 : Int32) 0 from rfl) (by omega) (by decide) (fun j _ h => hFs j (by omega)) Vc9_o8) hZ (hw _ (List.mem_of_getElem? (i := 12) rfl)) (hw _ (List.mem_of_getElem? (i := 11) rfl)) (by decide) (by decide)) (g := (mkF m 108 #[s0, s1, s2, s3, s4, s5, s6, s7, .val (.ref o8), .val (.ref o9), .val (.int i10), .val (.int i11), .val (.int i12), .val (.long (own_fold own_step (fun j => own_int (f_o8 j)) n o (-3750763034362895579 : Int64))), .second, .unset, .unset, .unset] [(.int (0 : Int32)), (.int i10), (.ref o8)])) rfl (by rw [hml]; rfl) (argsL := [(.ref o8), (.int i10), (.int (0 : Int32))]) (rest := []) (lenOf pd_0_2 rfl) rfl (by show 2 * 0 + _ ≤ _; exact Nat.le_of_eq rfl) (hb hby at_108) (fun _ _ => ⟨rfl, rfl, (by decide : 2 + 0 + 0 ≤ room_1.cells), (by decide : 18 + 0 + 0 ≤ room_1.slots)⟩)
  dsimp only [Pt.U, Pt.locs, Pt.cells, Pt.slots] at X9 l9 y9 z9 st9 hQ9
  subst l9 y9 z9
  obtain ⟨rfl, N9q, eq9⟩ := hQ9
  have N9 := Fr.app N8 N9q
  have E9 : Ext T8.heap T9.heap := own_exteq eq9
  have K9 : Keep h0 T9.heap [o9] := K8.ext E9
  have Zc10 : n0 ≤ T9.heap.size := (Nat.le_trans (Nat.le_trans (Nat.le_trans Z0 Kq7.1) E8.1) E9.1)
  have Vc10_o8 := (((V_o8.keep Kq7 (own_ni ne)).ext E8).ext E9)
  obtain ⟨_, _, ⟨T10, L10, k10, n10⟩, -, X10, ⟨Lc10, hQ10, l10, y10, z10⟩, st10⟩ := Jvm.LawKit.callS X9 hx (y := (⟨"com/example/patras/patras/BloomFilter", "hash", "([BII)J"⟩ : MethodName)) hown (mvT hZ (hw _ (List.mem_of_getElem? (i := 9) rfl))) (mvT hZ (hw _ (List.mem_of_getElem? (i := 10) rfl))) (mvT hZ (hw _ (List.mem_of_getElem? (i := 11) rfl))) (mvT hZ (hw _ (List.mem_of_getElem? (i := 12) rfl))) (by decide) (backOf (W := 0) (rm3 l Z a0 hw [] o8 i10 (i11 - (1 : Int32)) 8 f_o8 (fun j => own_int (f_o8 j)) o (n - 1) T9.heap n0 Zc10 ixo (own_ixs ixn (show own_ix (1 : Int32) 1 from rfl) (by omega)) (by omega) (by decide) (fun j _ h => hFs j (by omega)) Vc10_o8) hZ (hw _ (List.mem_of_getElem? (i := 12) rfl)) (hw _ (List.mem_of_getElem? (i := 11) rfl)) (by decide) (by decide)) (g := (mkF m 138 #[s0, s1, s2, s3, s4, s5, s6, s7, .val (.ref o8), .val (.ref o9), .val (.int i10), .val (.int i11), .val (.int i12), .val (.long (own_fold own_step (fun j => own_int (f_o8 j)) n o (-3750763034362895579 : Int64))), .second, .val (.int (1 : Int32)), .unset, .unset] [(.int (i11 - (1 : Int32))), (.int i10), (.ref o8)])) rfl (by rw [hml]; rfl) (argsL := [(.ref o8), (.int i10), (.int (i11 - (1 : Int32)))]) (rest := []) (lenOf pd_0_2 rfl) rfl (by show 2 * 0 + _ ≤ _; exact Nat.le_of_eq rfl) (hb hby at_138) (fun _ _ => ⟨rfl, rfl, (by decide : 2 + 0 + 0 ≤ room_1.cells), (by decide : 18 + 0 + 0 ≤ room_1.slots)⟩)
  dsimp only [Pt.U, Pt.locs, Pt.cells, Pt.slots] at X10 l10 y10 z10 st10 hQ10
  subst l10 y10 z10
  obtain ⟨rfl, N10q, eq10⟩ := hQ10
  have N10 := Fr.app N9 N10q
  have E10 : Ext T9.heap T10.heap := own_exteq eq10
  have K10 : Keep h0 T10.heap [o9] := K9.ext E10
  obtain ⟨cl_161, Ar_161, S_161, H_161⟩ := id ((((V_o8.keep Kq7 (own_ni ne)).ext E8).ext E9).ext E10)
  have hin161 := Ary.inn S_161 (own_ixs (own_ixa ixo ixn (by omega)) (show own_ix (1 : Int32) 1 from rfl) (by omega)) (by omega)
  have hat161 := Ary.get H_161 (own_ixs (own_ixa ixo ixn (by omega)) (show own_ix (1 : Int32) 1 from rfl) (by omega)) (by omega) (v := (.int (own_int (f_o8 (o + n - 1))))) (hFs _ (by omega))
  have Zc11 : n0 ≤ T10.heap.size := (Nat.le_trans (Nat.le_trans (Nat.le_trans (Nat.le_trans Z0 Kq7.1) E8.1) E9.1) E10.1)
  have Vc11_o9 := (((Vq7.ext E8).ext E9).ext E10)
  obtain ⟨_, _, ⟨T11, L11, k11, n11⟩, -, X11, ⟨Lc11, hQ11, l11, y11, z11⟩, st11⟩ := Jvm.LawKit.callS X10 hx (y := (⟨"com/example/patras/patras/BloomFilter", "hash", "([BII)J"⟩ : MethodName)) hown (mvT hZ (hw _ (List.mem_of_getElem? (i := 9) rfl))) (mvT hZ (hw _ (List.mem_of_getElem? (i := 10) rfl))) (mvT hZ (hw _ (List.mem_of_getElem? (i := 11) rfl))) (mvT hZ (hw _ (List.mem_of_getElem? (i := 12) rfl))) (by decide) (backOf (W := 0) (rm3 l Z a0 hw [] o9 i12 i11 10 gq7 (fun j => own_int (gq7 j)) d n T10.heap n0 Zc11 ixd ixn hd (by decide) hFd Vc11_o9) hZ (hw _ (List.mem_of_getElem? (i := 12) rfl)) (hw _ (List.mem_of_getElem? (i := 11) rfl)) (by decide) (by decide)) (g := (mkF m 218 #[s0, s1, s2, s3, s4, s5, s6, s7, .val (.ref o8), .val (.ref o9), .val (.int i10), .val (.int i11), .val (.int i12), .val (.long (own_fold own_step (fun j => own_int (f_o8 j)) n o (-3750763034362895579 : Int64))), .second, .val (.int (1 : Int32)), .val (.long (own_fold own_step (fun j => own_int (f_o8 j)) (n - 1) o (-3750763034362895579 : Int64))), .second] [(.int i11), (.int i12), (.ref o9)])) rfl (by rw [hml]; rfl) (argsL := [(.ref o9), (.int i12), (.int i11)]) (rest := []) (lenOf pd_0_2 rfl) rfl (by show 2 * 0 + _ ≤ _; exact Nat.le_of_eq rfl) (hb hby at_218) (fun _ _ => ⟨rfl, rfl, (by decide : 2 + 0 + 0 ≤ room_1.cells), (by decide : 18 + 0 + 0 ≤ room_1.slots)⟩)
  dsimp only [Pt.U, Pt.locs, Pt.cells, Pt.slots] at X11 l11 y11 z11 st11 hQ11
  subst l11 y11 z11
  obtain ⟨rfl, N11q, eq11⟩ := hQ11
  have N11 := Fr.app N10 N11q
  have E11 : Ext T10.heap T11.heap := own_exteq eq11
  have K11 : Keep h0 T11.heap [o9] := K10.ext E11
  have Vend_o8 := (((((V_o8.keep Kq7 (own_ni ne)).ext E8).ext E9).ext E10).ext E11)
  have Vend_o9 := ((((Vq7.ext E8).ext E9).ext E10).ext E11)
  have Zend : n0 ≤ T11.heap.size := (Nat.le_trans (Nat.le_trans (Nat.le_trans (Nat.le_trans (Nat.le_trans Z0 Kq7.1) E8.1) E9.1) E10.1) E11.1)
  have Kend := K11
  refine ⟨T11, _, _, X11, rfl, N11, fun target kt => ?_⟩
  show Steps p.tables e below (T0.setTop (mkF m 79 #[s0, s1, s2, s3, s4, s5, s6, s7, .val (.ref o8), .val (.ref o9), .val (.int i10), .val (.int i11), .val (.int i12), .unset, .unset, .unset, .unset, .unset] [])) _
  refine XS.aload X0.here hx rfl (hb hby at_79) rfl rfl ?_
  show Steps p.tables e below (T0.setTop (mkF m 81 #[s0, s1, s2, s3, s4, s5, s6, s7, .val (.ref o8), .val (.ref o9), .val (.int i10), .val (.int i11), .val (.int i12), .unset, .unset, .unset, .unset, .unset] [(.ref o8)])) _
  refine XS.iload X0.here hx rfl (hb hby at_81) rfl ?_
  show Steps p.tables e below (T0.setTop (mkF m 83 #[s0, s1, s2, s3, s4, s5, s6, s7, .val (.ref o8), .val (.ref o9), .val (.int i10), .val (.int i11), .val (.int i12), .unset, .unset, .unset, .unset, .unset] [(.int i10), (.ref o8)])) _
  refine XS.aload X0.here hx rfl (hb hby at_83) rfl rfl ?_
  show Steps p.tables e below (T0.setTop (mkF m 85 #[s0, s1, s2, s3, s4, s5, s6, s7, .val (.ref o8), .val (.ref o9), .val (.int i10), .val (.int i11), .val (.int i12), .unset, .unset, .unset, .unset, .unset] [(.ref o9), (.int i10), (.ref o8)])) _
  refine XS.iload X0.here hx rfl (hb hby at_85) rfl ?_
  show Steps p.tables e below (T0.setTop (mkF m 87 #[s0, s1, s2, s3, s4, s5, s6, s7, .val (.ref o8), .val (.ref o9), .val (.int i10), .val (.int i11), .val (.int i12), .unset, .unset, .unset, .unset, .unset] [(.int i12), (.ref o9), (.int i10), (.ref o8)])) _
  refine XS.iload X0.here hx rfl (hb hby at_87) rfl ?_
  show Steps p.tables e below (T0.setTop (mkF m 89 #[s0, s1, s2, s3, s4, s5, s6, s7, .val (.ref o8), .val (.ref o9), .val (.int i10), .val (.int i11), .val (.int i12), .unset, .unset, .unset, .unset, .unset] [(.int i11), (.int i12), (.ref o9), (.int i10), (.ref o8)])) _
  refine st7 _ ?_
  show Steps p.tables e below (T7.setTop (mkF m 92 #[s0, s1, s2, s3, s4, s5, s6, s7, .val (.ref o8), .val (.ref o9), .val (.int i10), .val (.int i11), .val (.int i12), .unset, .unset, .unset, .unset, .unset] [])) _
  refine XS.aload X7.here hx rfl (hb hby at_92) rfl rfl ?_
  show Steps p.tables e below (T7.setTop (mkF m 94 #[s0, s1, s2, s3, s4, s5, s6, s7, .val (.ref o8), .val (.ref o9), .val (.int i10), .val (.int i11), .val (.int i12), .unset, .unset, .unset, .unset, .unset] [(.ref o8)])) _
  refine XS.iload X7.here hx rfl (hb hby at_94) rfl ?_
  show Steps p.tables e below (T7.setTop (mkF m 96 #[s0, s1, s2, s3, s4, s5, s6, s7, .val (.ref o8), .val (.ref o9), .val (.int i10), .val (.int i11), .val (.int i12), .unset, .unset, .unset, .unset, .unset] [(.int i10), (.ref o8)])) _
  refine XS.iload X7.here hx rfl (hb hby at_96) rfl ?_
  show Steps p.tables e below (T7.setTop (mkF m 98 #[s0, s1, s2, s3, s4, s5, s6, s7, .val (.ref o8), .val (.ref o9), .val (.int i10), .val (.int i11), .val (.int i12), .unset, .unset, .unset, .unset, .unset] [(.int i11), (.int i10), (.ref o8)])) _
  refine st8 _ ?_
  show Steps p.tables e below (T8.setTop (mkF m 101 #[s0, s1, s2, s3, s4, s5, s6, s7, .val (.ref o8), .val (.ref o9), .val (.int i10), .val (.int i11), .val (.int i12), .unset, .unset, .unset, .unset, .unset] [(.long (own_fold own_step (fun j => own_int (f_o8 j)) n o (-3750763034362895579 : Int64)))])) _
  refine XS.lstore X8.here hx rfl (hb hby at_101) rfl (l' := #[s0, s1, s2, s3, s4, s5, s6, s7, .val (.ref o8), .val (.ref o9), .val (.int i10), .val (.int i11), .val (.int i12), .val (.long (own_fold own_step (fun j => own_int (f_o8 j)) n o (-3750763034362895579 : Int64))), .second, .unset, .unset, .unset]) rfl ?_
  show Steps p.tables e below (T8.setTop (mkF m 103 #[s0, s1, s2, s3, s4, s5, s6, s7, .val (.ref o8), .val (.ref o9), .val (.int i10), .val (.int i11), .val (.int i12), .val (.long (own_fold own_step (fun j => own_int (f_o8 j)) n o (-3750763034362895579 : Int64))), .second, .unset, .unset, .unset] [])) _
  refine XS.aload X8.here hx rfl (hb hby at_103) rfl rfl ?_
  show Steps p.tables e below (T8.setTop (mkF m 105 #[s0, s1, s2, s3, s4, s5, s6, s7, .val (.ref o8), .val (.ref o9), .val (.int i10), .val (.int i11), .val (.int i12), .val (.long (own_fold own_step (fun j => own_int (f_o8 j)) n o (-3750763034362895579 : Int64))), .second, .unset, .unset, .unset] [(.ref o8)])) _
  refine XS.iload X8.here hx rfl (hb hby at_105) rfl ?_
  show Steps p.tables e below (T8.setTop (mkF m 107 #[s0, s1, s2, s3, s4, s5, s6, s7, .val (.ref o8), .val (.ref o9), .val (.int i10), .val (.int i11), .val (.int i12), .val (.long (own_fold own_step (fun j => own_int (f_o8 j)) n o (-3750763034362895579 : Int64))), .second, .unset, .unset, .unset] [(.int i10), (.ref o8)])) _
  refine XS.iconst X8.here hx rfl (hb hby at_107) ?_
  show Steps p.tables e below (T8.setTop (mkF m 108 #[s0, s1, s2, s3, s4, s5, s6, s7, .val (.ref o8), .val (.ref o9), .val (.int i10), .val (.int i11), .val (.int i12), .val (.long (own_fold own_step (fun j => own_int (f_o8 j)) n o (-3750763034362895579 : Int64))), .second, .unset, .unset, .unset] [(.int (0 : Int32)), (.int i10), (.ref o8)])) _
  refine st9 _ ?_
  show Steps p.tables e below (T9.setTop (mkF m 111 #[s0, s1, s2, s3, s4, s5, s6, s7, .val (.ref o8), .val (.ref o9), .val (.int i10), .val (.int i11), .val (.int i12), .val (.long (own_fold own_step (fun j => own_int (f_o8 j)) n o (-3750763034362895579 : Int64))), .second, .unset, .unset, .unset] [(.long (own_fold own_step (fun j => own_int (f_o8 j)) 0 o (-3750763034362895579 : Int64)))])) _
  refine X9.ldc2Long hx hown (mvT hZ (hw _ (List.mem_of_getElem? (i := 15) rfl))) (g := (mkF m 111 #[s0, s1, s2, s3, s4, s5, s6, s7, .val (.ref o8), .val (.ref o9), .val (.int i10), .val (.int i11), .val (.int i12), .val (.long (own_fold own_step (fun j => own_int (f_o8 j)) n o (-3750763034362895579 : Int64))), .second, .unset, .unset, .unset] [(.long (own_fold own_step (fun j => own_int (f_o8 j)) 0 o (-3750763034362895579 : Int64)))])) rfl (hb hby at_111) _ ?_
  show Steps p.tables e below (T9.setTop (mkF m 114 #[s0, s1, s2, s3, s4, s5, s6, s7, .val (.ref o8), .val (.ref o9), .val (.int i10), .val (.int i11), .val (.int i12), .val (.long (own_fold own_step (fun j => own_int (f_o8 j)) n o (-3750763034362895579 : Int64))), .second, .unset, .unset, .unset] [(.long (-3750763034362895579 : Int64)), (.long (own_fold own_step (fun j => own_int (f_o8 j)) 0 o (-3750763034362895579 : Int64)))])) _
  refine XS.lcmp X9.here hx rfl (hb hby at_114) rfl ?_
  show Steps p.tables e below (T9.setTop (mkF m 115 #[s0, s1, s2, s3, s4, s5, s6, s7, .val (.ref o8), .val (.ref o9), .val (.int i10), .val (.int i11), .val (.int i12), .val (.long (own_fold own_step (fun j => own_int (f_o8 j)) n o (-3750763034362895579 : Int64))), .second, .unset, .unset, .unset] [(.int (lcmpW (own_fold own_step (fun j => own_int (f_o8 j)) 0 o (-3750763034362895579 : Int64)) (-3750763034362895579 : Int64)))])) _
  refine XS.ifNo X9.here hx rfl (hb hby at_115) rfl ((if0 _ _).trans (teq (own_lc2 (own_fold_0 own_step rfl) : (lcmpW (own_fold own_step (fun j => own_int (f_o8 j)) 0 o (-3750763034362895579 : Int64)) (-3750763034362895579 : Int64)) = (0 : Int32))).2) ?_
  show Steps p.tables e below (T9.setTop (mkF m 118 #[s0, s1, s2, s3, s4, s5, s6, s7, .val (.ref o8), .val (.ref o9), .val (.int i10), .val (.int i11), .val (.int i12), .val (.long (own_fold own_step (fun j => own_int (f_o8 j)) n o (-3750763034362895579 : Int64))), .second, .unset, .unset, .unset] [])) _
  refine XS.iconst X9.here hx rfl (hb hby at_118) ?_
  show Steps p.tables e below (T9.setTop (mkF m 119 #[s0, s1, s2, s3, s4, s5, s6, s7, .val (.ref o8), .val (.ref o9), .val (.int i10), .val (.int i11), .val (.int i12), .val (.long (own_fold own_step (fun j => own_int (f_o8 j)) n o (-3750763034362895579 : Int64))), .second, .unset, .unset, .unset] [(.int (1 : Int32))])) _
  refine XS.goto X9.here hx rfl (pc0 := 119) (pc' := 123) rfl (hb hby at_119) (by decide) (by decide) ?_
  show Steps p.tables e below (T9.setTop (mkF m 123 #[s0, s1, s2, s3, s4, s5, s6, s7, .val (.ref o8), .val (.ref o9), .val (.int i10), .val (.int i11), .val (.int i12), .val (.long (own_fold own_step (fun j => own_int (f_o8 j)) n o (-3750763034362895579 : Int64))), .second, .unset, .unset, .unset] [(.int (1 : Int32))])) _
  refine XS.istore X9.here hx rfl (hb hby at_123) rfl (l' := #[s0, s1, s2, s3, s4, s5, s6, s7, .val (.ref o8), .val (.ref o9), .val (.int i10), .val (.int i11), .val (.int i12), .val (.long (own_fold own_step (fun j => own_int (f_o8 j)) n o (-3750763034362895579 : Int64))), .second, .val (.int (1 : Int32)), .unset, .unset]) rfl ?_
  show Steps p.tables e below (T9.setTop (mkF m 125 #[s0, s1, s2, s3, s4, s5, s6, s7, .val (.ref o8), .val (.ref o9), .val (.int i10), .val (.int i11), .val (.int i12), .val (.long (own_fold own_step (fun j => own_int (f_o8 j)) n o (-3750763034362895579 : Int64))), .second, .val (.int (1 : Int32)), .unset, .unset] [])) _
  refine XS.iload X9.here hx rfl (hb hby at_125) rfl ?_
  show Steps p.tables e below (T9.setTop (mkF m 127 #[s0, s1, s2, s3, s4, s5, s6, s7, .val (.ref o8), .val (.ref o9), .val (.int i10), .val (.int i11), .val (.int i12), .val (.long (own_fold own_step (fun j => own_int (f_o8 j)) n o (-3750763034362895579 : Int64))), .second, .val (.int (1 : Int32)), .unset, .unset] [(.int i11)])) _
  refine XS.ifNo X9.here hx rfl (hb hby at_127) rfl ((if0 _ _).trans (tlt hc127).2.2.2) ?_
  show Steps p.tables e below (T9.setTop (mkF m 130 #[s0, s1, s2, s3, s4, s5, s6, s7, .val (.ref o8), .val (.ref o9), .val (.int i10), .val (.int i11), .val (.int i12), .val (.long (own_fold own_step (fun j => own_int (f_o8 j)) n o (-3750763034362895579 : Int64))), .second, .val (.int (1 : Int32)), .unset, .unset] [])) _
  refine XS.aload X9.here hx rfl (hb hby at_130) rfl rfl ?_
  show Steps p.tables e below (T9.setTop (mkF m 132 #[s0, s1, s2, s3, s4, s5, s6, s7, .val (.ref o8), .val (.ref o9), .val (.int i10), .val (.int i11), .val (.int i12), .val (.long (own_fold own_step (fun j => own_int (f_o8 j)) n o (-3750763034362895579 : Int64))), .second, .val (.int (1 : Int32)), .unset, .unset] [(.ref o8)])) _
  refine XS.iload X9.here hx rfl (hb hby at_132) rfl ?_
  show Steps p.tables e below (T9.setTop (mkF m 134 #[s0, s1, s2, s3, s4, s5, s6, s7, .val (.ref o8), .val (.ref o9), .val (.int i10), .val (.int i11), .val (.int i12), .val (.long (own_fold own_step (fun j => own_int (f_o8 j)) n o (-3750763034362895579 : Int64))), .second, .val (.int (1 : Int32)), .unset, .unset] [(.int i10), (.ref o8)])) _
  refine XS.iload X9.here hx rfl (hb hby at_134) rfl ?_
  show Steps p.tables e below (T9.setTop (mkF m 136 #[s0, s1, s2, s3, s4, s5, s6, s7, .val (.ref o8), .val (.ref o9), .val (.int i10), .val (.int i11), .val (.int i12), .val (.long (own_fold own_step (fun j => own_int (f_o8 j)) n o (-3750763034362895579 : Int64))), .second, .val (.int (1 : Int32)), .unset, .unset] [(.int i11), (.int i10), (.ref o8)])) _
  refine XS.iconst X9.here hx rfl (hb hby at_136) ?_
  show Steps p.tables e below (T9.setTop (mkF m 137 #[s0, s1, s2, s3, s4, s5, s6, s7, .val (.ref o8), .val (.ref o9), .val (.int i10), .val (.int i11), .val (.int i12), .val (.long (own_fold own_step (fun j => own_int (f_o8 j)) n o (-3750763034362895579 : Int64))), .second, .val (.int (1 : Int32)), .unset, .unset] [(.int (1 : Int32)), (.int i11), (.int i10), (.ref o8)])) _
  refine XS.isub X9.here hx rfl (hb hby at_137) rfl ?_
  show Steps p.tables e below (T9.setTop (mkF m 138 #[s0, s1, s2, s3, s4, s5, s6, s7, .val (.ref o8), .val (.ref o9), .val (.int i10), .val (.int i11), .val (.int i12), .val (.long (own_fold own_step (fun j => own_int (f_o8 j)) n o (-3750763034362895579 : Int64))), .second, .val (.int (1 : Int32)), .unset, .unset] [(.int (i11 - (1 : Int32))), (.int i10), (.ref o8)])) _
  refine st10 _ ?_
  show Steps p.tables e below (T10.setTop (mkF m 141 #[s0, s1, s2, s3, s4, s5, s6, s7, .val (.ref o8), .val (.ref o9), .val (.int i10), .val (.int i11), .val (.int i12), .val (.long (own_fold own_step (fun j => own_int (f_o8 j)) n o (-3750763034362895579 : Int64))), .second, .val (.int (1 : Int32)), .unset, .unset] [(.long (own_fold own_step (fun j => own_int (f_o8 j)) (n - 1) o (-3750763034362895579 : Int64)))])) _
  refine XS.lstore X10.here hx rfl (hb hby at_141) rfl (l' := #[s0, s1, s2, s3, s4, s5, s6, s7, .val (.ref o8), .val (.ref o9), .val (.int i10), .val (.int i11), .val (.int i12), .val (.long (own_fold own_step (fun j => own_int (f_o8 j)) n o (-3750763034362895579 : Int64))), .second, .val (.int (1 : Int32)), .val (.long (own_fold own_step (fun j => own_int (f_o8 j)) (n - 1) o (-3750763034362895579 : Int64))), .second]) rfl ?_
  show Steps p.tables e below (T10.setTop (mkF m 143 #[s0, s1, s2, s3, s4, s5, s6, s7, .val (.ref o8), .val (.ref o9), .val (.int i10), .val (.int i11), .val (.int i12), .val (.long (own_fold own_step (fun j => own_int (f_o8 j)) n o (-3750763034362895579 : Int64))), .second, .val (.int (1 : Int32)), .val (.long (own_fold own_step (fun j => own_int (f_o8 j)) (n - 1) o (-3750763034362895579 : Int64))), .second] [])) _
  refine XS.iload X10.here hx rfl (hb hby at_143) rfl ?_
  show Steps p.tables e below (T10.setTop (mkF m 145 #[s0, s1, s2, s3, s4, s5, s6, s7, .val (.ref o8), .val (.ref o9), .val (.int i10), .val (.int i11), .val (.int i12), .val (.long (own_fold own_step (fun j => own_int (f_o8 j)) n o (-3750763034362895579 : Int64))), .second, .val (.int (1 : Int32)), .val (.long (own_fold own_step (fun j => own_int (f_o8 j)) (n - 1) o (-3750763034362895579 : Int64))), .second] [(.int (1 : Int32))])) _
  refine XS.ifNo X10.here hx rfl (hb hby at_145) rfl ((if0 _ _).trans (feq hc145).1) ?_
  show Steps p.tables e below (T10.setTop (mkF m 148 #[s0, s1, s2, s3, s4, s5, s6, s7, .val (.ref o8), .val (.ref o9), .val (.int i10), .val (.int i11), .val (.int i12), .val (.long (own_fold own_step (fun j => own_int (f_o8 j)) n o (-3750763034362895579 : Int64))), .second, .val (.int (1 : Int32)), .val (.long (own_fold own_step (fun j => own_int (f_o8 j)) (n - 1) o (-3750763034362895579 : Int64))), .second] [])) _
  refine XS.lload X10.here hx rfl (hb hby at_148) rfl ?_
  show Steps p.tables e below (T10.setTop (mkF m 150 #[s0, s1, s2, s3, s4, s5, s6, s7, .val (.ref o8), .val (.ref o9), .val (.int i10), .val (.int i11), .val (.int i12), .val (.long (own_fold own_step (fun j => own_int (f_o8 j)) n o (-3750763034362895579 : Int64))), .second, .val (.int (1 : Int32)), .val (.long (own_fold own_step (fun j => own_int (f_o8 j)) (n - 1) o (-3750763034362895579 : Int64))), .second] [(.long (own_fold own_step (fun j => own_int (f_o8 j)) n o (-3750763034362895579 : Int64)))])) _
  refine XS.lload X10.here hx rfl (hb hby at_150) rfl ?_
  show Steps p.tables e below (T10.setTop (mkF m 152 #[s0, s1, s2, s3, s4, s5, s6, s7, .val (.ref o8), .val (.ref o9), .val (.int i10), .val (.int i11), .val (.int i12), .val (.long (own_fold own_step (fun j => own_int (f_o8 j)) n o (-3750763034362895579 : Int64))), .second, .val (.int (1 : Int32)), .val (.long (own_fold own_step (fun j => own_int (f_o8 j)) (n - 1) o (-3750763034362895579 : Int64))), .second] [(.long (own_fold own_step (fun j => own_int (f_o8 j)) (n - 1) o (-3750763034362895579 : Int64))), (.long (own_fold own_step (fun j => own_int (f_o8 j)) n o (-3750763034362895579 : Int64)))])) _
  refine XS.aload X10.here hx rfl (hb hby at_152) rfl rfl ?_
  show Steps p.tables e below (T10.setTop (mkF m 154 #[s0, s1, s2, s3, s4, s5, s6, s7, .val (.ref o8), .val (.ref o9), .val (.int i10), .val (.int i11), .val (.int i12), .val (.long (own_fold own_step (fun j => own_int (f_o8 j)) n o (-3750763034362895579 : Int64))), .second, .val (.int (1 : Int32)), .val (.long (own_fold own_step (fun j => own_int (f_o8 j)) (n - 1) o (-3750763034362895579 : Int64))), .second] [(.ref o8), (.long (own_fold own_step (fun j => own_int (f_o8 j)) (n - 1) o (-3750763034362895579 : Int64))), (.long (own_fold own_step (fun j => own_int (f_o8 j)) n o (-3750763034362895579 : Int64)))])) _
  refine XS.iload X10.here hx rfl (hb hby at_154) rfl ?_
  show Steps p.tables e below (T10.setTop (mkF m 156 #[s0, s1, s2, s3, s4, s5, s6, s7, .val (.ref o8), .val (.ref o9), .val (.int i10), .val (.int i11), .val (.int i12), .val (.long (own_fold own_step (fun j => own_int (f_o8 j)) n o (-3750763034362895579 : Int64))), .second, .val (.int (1 : Int32)), .val (.long (own_fold own_step (fun j => own_int (f_o8 j)) (n - 1) o (-3750763034362895579 : Int64))), .second] [(.int i10), (.ref o8), (.long (own_fold own_step (fun j => own_int (f_o8 j)) (n - 1) o (-3750763034362895579 : Int64))), (.long (own_fold own_step (fun j => own_int (f_o8 j)) n o (-3750763034362895579 : Int64)))])) _
  refine XS.iload X10.here hx rfl (hb hby at_156) rfl ?_
  show Steps p.tables e below (T10.setTop (mkF m 158 #[s0, s1, s2, s3, s4, s5, s6, s7, .val (.ref o8), .val (.ref o9), .val (.int i10), .val (.int i11), .val (.int i12), .val (.long (own_fold own_step (fun j => own_int (f_o8 j)) n o (-3750763034362895579 : Int64))), .second, .val (.int (1 : Int32)), .val (.long (own_fold own_step (fun j => own_int (f_o8 j)) (n - 1) o (-3750763034362895579 : Int64))), .second] [(.int i11), (.int i10), (.ref o8), (.long (own_fold own_step (fun j => own_int (f_o8 j)) (n - 1) o (-3750763034362895579 : Int64))), (.long (own_fold own_step (fun j => own_int (f_o8 j)) n o (-3750763034362895579 : Int64)))])) _
  refine XS.iadd X10.here hx rfl (hb hby at_158) rfl ?_
  show Steps p.tables e below (T10.setTop (mkF m 159 #[s0, s1, s2, s3, s4, s5, s6, s7, .val (.ref o8), .val (.ref o9), .val (.int i10), .val (.int i11), .val (.int i12), .val (.long (own_fold own_step (fun j => own_int (f_o8 j)) n o (-3750763034362895579 : Int64))), .second, .val (.int (1 : Int32)), .val (.long (own_fold own_step (fun j => own_int (f_o8 j)) (n - 1) o (-3750763034362895579 : Int64))), .second] [(.int (i10 + i11)), (.ref o8), (.long (own_fold own_step (fun j => own_int (f_o8 j)) (n - 1) o (-3750763034362895579 : Int64))), (.long (own_fold own_step (fun j => own_int (f_o8 j)) n o (-3750763034362895579 : Int64)))])) _
  refine XS.iconst X10.here hx rfl (hb hby at_159) ?_
  show Steps p.tables e below (T10.setTop (mkF m 160 #[s0, s1, s2, s3, s4, s5, s6, s7, .val (.ref o8), .val (.ref o9), .val (.int i10), .val (.int i11), .val (.int i12), .val (.long (own_fold own_step (fun j => own_int (f_o8 j)) n o (-3750763034362895579 : Int64))), .second, .val (.int (1 : Int32)), .val (.long (own_fold own_step (fun j => own_int (f_o8 j)) (n - 1) o (-3750763034362895579 : Int64))), .second] [(.int (1 : Int32)), (.int (i10 + i11)), (.ref o8), (.long (own_fold own_step (fun j => own_int (f_o8 j)) (n - 1) o (-3750763034362895579 : Int64))), (.long (own_fold own_step (fun j => own_int (f_o8 j)) n o (-3750763034362895579 : Int64)))])) _
  refine XS.isub X10.here hx rfl (hb hby at_160) rfl ?_
  show Steps p.tables e below (T10.setTop (mkF m 161 #[s0, s1, s2, s3, s4, s5, s6, s7, .val (.ref o8), .val (.ref o9), .val (.int i10), .val (.int i11), .val (.int i12), .val (.long (own_fold own_step (fun j => own_int (f_o8 j)) n o (-3750763034362895579 : Int64))), .second, .val (.int (1 : Int32)), .val (.long (own_fold own_step (fun j => own_int (f_o8 j)) (n - 1) o (-3750763034362895579 : Int64))), .second] [(.int ((i10 + i11) - (1 : Int32))), (.ref o8), (.long (own_fold own_step (fun j => own_int (f_o8 j)) (n - 1) o (-3750763034362895579 : Int64))), (.long (own_fold own_step (fun j => own_int (f_o8 j)) n o (-3750763034362895579 : Int64)))])) _
  refine X10.baloadBytes hx (j := ((i10 + i11) - (1 : Int32))) (v := (.int (own_int (f_o8 (o + n - 1))))) Ar_161.1 (State.isArrayOf_alike hZ.alike Ar_161.2.1) Ar_161.2.2 hin161 hat161 (g := (mkF m 161 #[s0, s1, s2, s3, s4, s5, s6, s7, .val (.ref o8), .val (.ref o9), .val (.int i10), .val (.int i11), .val (.int i12), .val (.long (own_fold own_step (fun j => own_int (f_o8 j)) n o (-3750763034362895579 : Int64))), .second, .val (.int (1 : Int32)), .val (.long (own_fold own_step (fun j => own_int (f_o8 j)) (n - 1) o (-3750763034362895579 : Int64))), .second] [(.int ((i10 + i11) - (1 : Int32))), (.ref o8), (.long (own_fold own_step (fun j => own_int (f_o8 j)) (n - 1) o (-3750763034362895579 : Int64))), (.long (own_fold own_step (fun j => own_int (f_o8 j)) n o (-3750763034362895579 : Int64)))])) rfl rfl (hb hby at_161) _ ?_
  show Steps p.tables e below (T10.setTop (mkF m 162 #[s0, s1, s2, s3, s4, s5, s6, s7, .val (.ref o8), .val (.ref o9), .val (.int i10), .val (.int i11), .val (.int i12), .val (.long (own_fold own_step (fun j => own_int (f_o8 j)) n o (-3750763034362895579 : Int64))), .second, .val (.int (1 : Int32)), .val (.long (own_fold own_step (fun j => own_int (f_o8 j)) (n - 1) o (-3750763034362895579 : Int64))), .second] [(.int (own_int (f_o8 (o + n - 1)))), (.long (own_fold own_step (fun j => own_int (f_o8 j)) (n - 1) o (-3750763034362895579 : Int64))), (.long (own_fold own_step (fun j => own_int (f_o8 j)) n o (-3750763034362895579 : Int64)))])) _
  refine XS.sipush X10.here hx rfl (hb hby at_162) ?_
  show Steps p.tables e below (T10.setTop (mkF m 165 #[s0, s1, s2, s3, s4, s5, s6, s7, .val (.ref o8), .val (.ref o9), .val (.int i10), .val (.int i11), .val (.int i12), .val (.long (own_fold own_step (fun j => own_int (f_o8 j)) n o (-3750763034362895579 : Int64))), .second, .val (.int (1 : Int32)), .val (.long (own_fold own_step (fun j => own_int (f_o8 j)) (n - 1) o (-3750763034362895579 : Int64))), .second] [(.int (255 : Int32)), (.int (own_int (f_o8 (o + n - 1)))), (.long (own_fold own_step (fun j => own_int (f_o8 j)) (n - 1) o (-3750763034362895579 : Int64))), (.long (own_fold own_step (fun j => own_int (f_o8 j)) n o (-3750763034362895579 : Int64)))])) _
  refine XS.iand X10.here hx rfl (hb hby at_165) rfl ?_
  show Steps p.tables e below (T10.setTop (mkF m 166 #[s0, s1, s2, s3, s4, s5, s6, s7, .val (.ref o8), .val (.ref o9), .val (.int i10), .val (.int i11), .val (.int i12), .val (.long (own_fold own_step (fun j => own_int (f_o8 j)) n o (-3750763034362895579 : Int64))), .second, .val (.int (1 : Int32)), .val (.long (own_fold own_step (fun j => own_int (f_o8 j)) (n - 1) o (-3750763034362895579 : Int64))), .second] [(.int ((own_int (f_o8 (o + n - 1))) &&& (255 : Int32))), (.long (own_fold own_step (fun j => own_int (f_o8 j)) (n - 1) o (-3750763034362895579 : Int64))), (.long (own_fold own_step (fun j => own_int (f_o8 j)) n o (-3750763034362895579 : Int64)))])) _
  refine XS.i2l X10.here hx rfl (hb hby at_166) rfl ?_
  show Steps p.tables e below (T10.setTop (mkF m 167 #[s0, s1, s2, s3, s4, s5, s6, s7, .val (.ref o8), .val (.ref o9), .val (.int i10), .val (.int i11), .val (.int i12), .val (.long (own_fold own_step (fun j => own_int (f_o8 j)) n o (-3750763034362895579 : Int64))), .second, .val (.int (1 : Int32)), .val (.long (own_fold own_step (fun j => own_int (f_o8 j)) (n - 1) o (-3750763034362895579 : Int64))), .second] [(.long (((own_int (f_o8 (o + n - 1))) &&& (255 : Int32)).toInt64)), (.long (own_fold own_step (fun j => own_int (f_o8 j)) (n - 1) o (-3750763034362895579 : Int64))), (.long (own_fold own_step (fun j => own_int (f_o8 j)) n o (-3750763034362895579 : Int64)))])) _
  refine XS.lxor X10.here hx rfl (hb hby at_167) rfl ?_
  show Steps p.tables e below (T10.setTop (mkF m 168 #[s0, s1, s2, s3, s4, s5, s6, s7, .val (.ref o8), .val (.ref o9), .val (.int i10), .val (.int i11), .val (.int i12), .val (.long (own_fold own_step (fun j => own_int (f_o8 j)) n o (-3750763034362895579 : Int64))), .second, .val (.int (1 : Int32)), .val (.long (own_fold own_step (fun j => own_int (f_o8 j)) (n - 1) o (-3750763034362895579 : Int64))), .second] [(.long ((own_fold own_step (fun j => own_int (f_o8 j)) (n - 1) o (-3750763034362895579 : Int64)) ^^^ (((own_int (f_o8 (o + n - 1))) &&& (255 : Int32)).toInt64))), (.long (own_fold own_step (fun j => own_int (f_o8 j)) n o (-3750763034362895579 : Int64)))])) _
  refine X10.ldc2Long hx hown (mvT hZ (hw _ (List.mem_of_getElem? (i := 16) rfl))) (g := (mkF m 168 #[s0, s1, s2, s3, s4, s5, s6, s7, .val (.ref o8), .val (.ref o9), .val (.int i10), .val (.int i11), .val (.int i12), .val (.long (own_fold own_step (fun j => own_int (f_o8 j)) n o (-3750763034362895579 : Int64))), .second, .val (.int (1 : Int32)), .val (.long (own_fold own_step (fun j => own_int (f_o8 j)) (n - 1) o (-3750763034362895579 : Int64))), .second] [(.long ((own_fold own_step (fun j => own_int (f_o8 j)) (n - 1) o (-3750763034362895579 : Int64)) ^^^ (((own_int (f_o8 (o + n - 1))) &&& (255 : Int32)).toInt64))), (.long (own_fold own_step (fun j => own_int (f_o8 j)) n o (-3750763034362895579 : Int64)))])) rfl (hb hby at_168) _ ?_
  show Steps p.tables e below (T10.setTop (mkF m 171 #[s0, s1, s2, s3, s4, s5, s6, s7, .val (.ref o8), .val (.ref o9), .val (.int i10), .val (.int i11), .val (.int i12), .val (.long (own_fold own_step (fun j => own_int (f_o8 j)) n o (-3750763034362895579 : Int64))), .second, .val (.int (1 : Int32)), .val (.long (own_fold own_step (fun j => own_int (f_o8 j)) (n - 1) o (-3750763034362895579 : Int64))), .second] [(.long (1099511628211 : Int64)), (.long ((own_fold own_step (fun j => own_int (f_o8 j)) (n - 1) o (-3750763034362895579 : Int64)) ^^^ (((own_int (f_o8 (o + n - 1))) &&& (255 : Int32)).toInt64))), (.long (own_fold own_step (fun j => own_int (f_o8 j)) n o (-3750763034362895579 : Int64)))])) _
  refine XS.lmul X10.here hx rfl (hb hby at_171) rfl ?_
  show Steps p.tables e below (T10.setTop (mkF m 172 #[s0, s1, s2, s3, s4, s5, s6, s7, .val (.ref o8), .val (.ref o9), .val (.int i10), .val (.int i11), .val (.int i12), .val (.long (own_fold own_step (fun j => own_int (f_o8 j)) n o (-3750763034362895579 : Int64))), .second, .val (.int (1 : Int32)), .val (.long (own_fold own_step (fun j => own_int (f_o8 j)) (n - 1) o (-3750763034362895579 : Int64))), .second] [(.long (((own_fold own_step (fun j => own_int (f_o8 j)) (n - 1) o (-3750763034362895579 : Int64)) ^^^ (((own_int (f_o8 (o + n - 1))) &&& (255 : Int32)).toInt64)) * (1099511628211 : Int64))), (.long (own_fold own_step (fun j => own_int (f_o8 j)) n o (-3750763034362895579 : Int64)))])) _
  refine XS.lcmp X10.here hx rfl (hb hby at_172) rfl ?_
  show Steps p.tables e below (T10.setTop (mkF m 173 #[s0, s1, s2, s3, s4, s5, s6, s7, .val (.ref o8), .val (.ref o9), .val (.int i10), .val (.int i11), .val (.int i12), .val (.long (own_fold own_step (fun j => own_int (f_o8 j)) n o (-3750763034362895579 : Int64))), .second, .val (.int (1 : Int32)), .val (.long (own_fold own_step (fun j => own_int (f_o8 j)) (n - 1) o (-3750763034362895579 : Int64))), .second] [(.int (lcmpW (own_fold own_step (fun j => own_int (f_o8 j)) n o (-3750763034362895579 : Int64)) (((own_fold own_step (fun j => own_int (f_o8 j)) (n - 1) o (-3750763034362895579 : Int64)) ^^^ (((own_int (f_o8 (o + n - 1))) &&& (255 : Int32)).toInt64)) * (1099511628211 : Int64))))])) _
  refine XS.ifNo X10.here hx rfl (hb hby at_173) rfl ((if0 _ _).trans (teq (own_lc2 (own_fold_pred own_step _ hn) : (lcmpW (own_fold own_step (fun j => own_int (f_o8 j)) n o (-3750763034362895579 : Int64)) (((own_fold own_step (fun j => own_int (f_o8 j)) (n - 1) o (-3750763034362895579 : Int64)) ^^^ (((own_int (f_o8 (o + n - 1))) &&& (255 : Int32)).toInt64)) * (1099511628211 : Int64))) = (0 : Int32))).2) ?_
  show Steps p.tables e below (T10.setTop (mkF m 176 #[s0, s1, s2, s3, s4, s5, s6, s7, .val (.ref o8), .val (.ref o9), .val (.int i10), .val (.int i11), .val (.int i12), .val (.long (own_fold own_step (fun j => own_int (f_o8 j)) n o (-3750763034362895579 : Int64))), .second, .val (.int (1 : Int32)), .val (.long (own_fold own_step (fun j => own_int (f_o8 j)) (n - 1) o (-3750763034362895579 : Int64))), .second] [])) _
  refine XS.iconst X10.here hx rfl (hb hby at_176) ?_
  show Steps p.tables e below (T10.setTop (mkF m 177 #[s0, s1, s2, s3, s4, s5, s6, s7, .val (.ref o8), .val (.ref o9), .val (.int i10), .val (.int i11), .val (.int i12), .val (.long (own_fold own_step (fun j => own_int (f_o8 j)) n o (-3750763034362895579 : Int64))), .second, .val (.int (1 : Int32)), .val (.long (own_fold own_step (fun j => own_int (f_o8 j)) (n - 1) o (-3750763034362895579 : Int64))), .second] [(.int (1 : Int32))])) _
  refine XS.goto X10.here hx rfl (pc0 := 177) (pc' := 181) rfl (hb hby at_177) (by decide) (by decide) ?_
  show Steps p.tables e below (T10.setTop (mkF m 181 #[s0, s1, s2, s3, s4, s5, s6, s7, .val (.ref o8), .val (.ref o9), .val (.int i10), .val (.int i11), .val (.int i12), .val (.long (own_fold own_step (fun j => own_int (f_o8 j)) n o (-3750763034362895579 : Int64))), .second, .val (.int (1 : Int32)), .val (.long (own_fold own_step (fun j => own_int (f_o8 j)) (n - 1) o (-3750763034362895579 : Int64))), .second] [(.int (1 : Int32))])) _
  refine XS.istore X10.here hx rfl (hb hby at_181) rfl (l' := #[s0, s1, s2, s3, s4, s5, s6, s7, .val (.ref o8), .val (.ref o9), .val (.int i10), .val (.int i11), .val (.int i12), .val (.long (own_fold own_step (fun j => own_int (f_o8 j)) n o (-3750763034362895579 : Int64))), .second, .val (.int (1 : Int32)), .val (.long (own_fold own_step (fun j => own_int (f_o8 j)) (n - 1) o (-3750763034362895579 : Int64))), .second]) rfl ?_
  show Steps p.tables e below (T10.setTop (mkF m 183 #[s0, s1, s2, s3, s4, s5, s6, s7, .val (.ref o8), .val (.ref o9), .val (.int i10), .val (.int i11), .val (.int i12), .val (.long (own_fold own_step (fun j => own_int (f_o8 j)) n o (-3750763034362895579 : Int64))), .second, .val (.int (1 : Int32)), .val (.long (own_fold own_step (fun j => own_int (f_o8 j)) (n - 1) o (-3750763034362895579 : Int64))), .second] [])) _
  refine XS.goto X10.here hx rfl (pc0 := 183) (pc' := 207) rfl (hb hby at_183) (by decide) (by decide) ?_
  show Steps p.tables e below (T10.setTop (mkF m 207 #[s0, s1, s2, s3, s4, s5, s6, s7, .val (.ref o8), .val (.ref o9), .val (.int i10), .val (.int i11), .val (.int i12), .val (.long (own_fold own_step (fun j => own_int (f_o8 j)) n o (-3750763034362895579 : Int64))), .second, .val (.int (1 : Int32)), .val (.long (own_fold own_step (fun j => own_int (f_o8 j)) (n - 1) o (-3750763034362895579 : Int64))), .second] [])) _
  refine XS.iload X10.here hx rfl (hb hby at_207) rfl ?_
  show Steps p.tables e below (T10.setTop (mkF m 209 #[s0, s1, s2, s3, s4, s5, s6, s7, .val (.ref o8), .val (.ref o9), .val (.int i10), .val (.int i11), .val (.int i12), .val (.long (own_fold own_step (fun j => own_int (f_o8 j)) n o (-3750763034362895579 : Int64))), .second, .val (.int (1 : Int32)), .val (.long (own_fold own_step (fun j => own_int (f_o8 j)) (n - 1) o (-3750763034362895579 : Int64))), .second] [(.int (1 : Int32))])) _
  refine XS.ifNo X10.here hx rfl (hb hby at_209) rfl ((if0 _ _).trans (feq hc209).1) ?_
  show Steps p.tables e below (T10.setTop (mkF m 212 #[s0, s1, s2, s3, s4, s5, s6, s7, .val (.ref o8), .val (.ref o9), .val (.int i10), .val (.int i11), .val (.int i12), .val (.long (own_fold own_step (fun j => own_int (f_o8 j)) n o (-3750763034362895579 : Int64))), .second, .val (.int (1 : Int32)), .val (.long (own_fold own_step (fun j => own_int (f_o8 j)) (n - 1) o (-3750763034362895579 : Int64))), .second] [])) _
  refine XS.aload X10.here hx rfl (hb hby at_212) rfl rfl ?_
  show Steps p.tables e below (T10.setTop (mkF m 214 #[s0, s1, s2, s3, s4, s5, s6, s7, .val (.ref o8), .val (.ref o9), .val (.int i10), .val (.int i11), .val (.int i12), .val (.long (own_fold own_step (fun j => own_int (f_o8 j)) n o (-3750763034362895579 : Int64))), .second, .val (.int (1 : Int32)), .val (.long (own_fold own_step (fun j => own_int (f_o8 j)) (n - 1) o (-3750763034362895579 : Int64))), .second] [(.ref o9)])) _
  refine XS.iload X10.here hx rfl (hb hby at_214) rfl ?_
  show Steps p.tables e below (T10.setTop (mkF m 216 #[s0, s1, s2, s3, s4, s5, s6, s7, .val (.ref o8), .val (.ref o9), .val (.int i10), .val (.int i11), .val (.int i12), .val (.long (own_fold own_step (fun j => own_int (f_o8 j)) n o (-3750763034362895579 : Int64))), .second, .val (.int (1 : Int32)), .val (.long (own_fold own_step (fun j => own_int (f_o8 j)) (n - 1) o (-3750763034362895579 : Int64))), .second] [(.int i12), (.ref o9)])) _
  refine XS.iload X10.here hx rfl (hb hby at_216) rfl ?_
  show Steps p.tables e below (T10.setTop (mkF m 218 #[s0, s1, s2, s3, s4, s5, s6, s7, .val (.ref o8), .val (.ref o9), .val (.int i10), .val (.int i11), .val (.int i12), .val (.long (own_fold own_step (fun j => own_int (f_o8 j)) n o (-3750763034362895579 : Int64))), .second, .val (.int (1 : Int32)), .val (.long (own_fold own_step (fun j => own_int (f_o8 j)) (n - 1) o (-3750763034362895579 : Int64))), .second] [(.int i11), (.int i12), (.ref o9)])) _
  refine st11 _ ?_
  show Steps p.tables e below (T11.setTop (mkF m 221 #[s0, s1, s2, s3, s4, s5, s6, s7, .val (.ref o8), .val (.ref o9), .val (.int i10), .val (.int i11), .val (.int i12), .val (.long (own_fold own_step (fun j => own_int (f_o8 j)) n o (-3750763034362895579 : Int64))), .second, .val (.int (1 : Int32)), .val (.long (own_fold own_step (fun j => own_int (f_o8 j)) (n - 1) o (-3750763034362895579 : Int64))), .second] [(.long (own_fold own_step (fun j => own_int (gq7 j)) n d (-3750763034362895579 : Int64)))])) _
  refine XS.lload X11.here hx rfl (hb hby at_221) rfl ?_
  show Steps p.tables e below (T11.setTop (mkF m 223 #[s0, s1, s2, s3, s4, s5, s6, s7, .val (.ref o8), .val (.ref o9), .val (.int i10), .val (.int i11), .val (.int i12), .val (.long (own_fold own_step (fun j => own_int (f_o8 j)) n o (-3750763034362895579 : Int64))), .second, .val (.int (1 : Int32)), .val (.long (own_fold own_step (fun j => own_int (f_o8 j)) (n - 1) o (-3750763034362895579 : Int64))), .second] [(.long (own_fold own_step (fun j => own_int (f_o8 j)) n o (-3750763034362895579 : Int64))), (.long (own_fold own_step (fun j => own_int (gq7 j)) n d (-3750763034362895579 : Int64)))])) _
  refine XS.lcmp X11.here hx rfl (hb hby at_223) rfl ?_
  show Steps p.tables e below (T11.setTop (mkF m 224 #[s0, s1, s2, s3, s4, s5, s6, s7, .val (.ref o8), .val (.ref o9), .val (.int i10), .val (.int i11), .val (.int i12), .val (.long (own_fold own_step (fun j => own_int (f_o8 j)) n o (-3750763034362895579 : Int64))), .second, .val (.int (1 : Int32)), .val (.long (own_fold own_step (fun j => own_int (f_o8 j)) (n - 1) o (-3750763034362895579 : Int64))), .second] [(.int (lcmpW (own_fold own_step (fun j => own_int (gq7 j)) n d (-3750763034362895579 : Int64)) (own_fold own_step (fun j => own_int (f_o8 j)) n o (-3750763034362895579 : Int64))))])) _
  refine XS.ifNo X11.here hx rfl (hb hby at_224) rfl ((if0 _ _).trans (teq (own_lc2 hsame0 : (lcmpW (own_fold own_step (fun j => own_int (gq7 j)) n d (-3750763034362895579 : Int64)) (own_fold own_step (fun j => own_int (f_o8 j)) n o (-3750763034362895579 : Int64))) = (0 : Int32))).2) ?_
  show Steps p.tables e below (T11.setTop (mkF m 227 #[s0, s1, s2, s3, s4, s5, s6, s7, .val (.ref o8), .val (.ref o9), .val (.int i10), .val (.int i11), .val (.int i12), .val (.long (own_fold own_step (fun j => own_int (f_o8 j)) n o (-3750763034362895579 : Int64))), .second, .val (.int (1 : Int32)), .val (.long (own_fold own_step (fun j => own_int (f_o8 j)) (n - 1) o (-3750763034362895579 : Int64))), .second] [])) _
  refine XS.iconst X11.here hx rfl (hb hby at_227) ?_
  show Steps p.tables e below (T11.setTop (mkF m 228 #[s0, s1, s2, s3, s4, s5, s6, s7, .val (.ref o8), .val (.ref o9), .val (.int i10), .val (.int i11), .val (.int i12), .val (.long (own_fold own_step (fun j => own_int (f_o8 j)) n o (-3750763034362895579 : Int64))), .second, .val (.int (1 : Int32)), .val (.long (own_fold own_step (fun j => own_int (f_o8 j)) (n - 1) o (-3750763034362895579 : Int64))), .second] [(.int (1 : Int32))])) _
  refine XS.goto X11.here hx rfl (pc0 := 228) (pc' := 232) rfl (hb hby at_228) (by decide) (by decide) ?_
  show Steps p.tables e below (T11.setTop (mkF m 232 #[s0, s1, s2, s3, s4, s5, s6, s7, .val (.ref o8), .val (.ref o9), .val (.int i10), .val (.int i11), .val (.int i12), .val (.long (own_fold own_step (fun j => own_int (f_o8 j)) n o (-3750763034362895579 : Int64))), .second, .val (.int (1 : Int32)), .val (.long (own_fold own_step (fun j => own_int (f_o8 j)) (n - 1) o (-3750763034362895579 : Int64))), .second] [(.int (1 : Int32))])) _
  refine XS.istore X11.here hx rfl (hb hby at_232) rfl (l' := #[s0, s1, s2, s3, s4, s5, s6, s7, .val (.ref o8), .val (.ref o9), .val (.int i10), .val (.int i11), .val (.int i12), .val (.long (own_fold own_step (fun j => own_int (f_o8 j)) n o (-3750763034362895579 : Int64))), .second, .val (.int (1 : Int32)), .val (.long (own_fold own_step (fun j => own_int (f_o8 j)) (n - 1) o (-3750763034362895579 : Int64))), .second]) rfl ?_
  show Steps p.tables e below (T11.setTop (mkF m 234 #[s0, s1, s2, s3, s4, s5, s6, s7, .val (.ref o8), .val (.ref o9), .val (.int i10), .val (.int i11), .val (.int i12), .val (.long (own_fold own_step (fun j => own_int (f_o8 j)) n o (-3750763034362895579 : Int64))), .second, .val (.int (1 : Int32)), .val (.long (own_fold own_step (fun j => own_int (f_o8 j)) (n - 1) o (-3750763034362895579 : Int64))), .second] [])) _
  refine XS.iload X11.here hx rfl (hb hby at_234) rfl ?_
  exact kt
set_option maxRecDepth 65536 in
set_option maxHeartbeats 40000000 in
theorem sgCz {p : Program} {l : Launch} {e : Env} {s : State} {m : MethodId} {args : Array Value} {below : List Frame} {meth : Method} {c : Code} {T0 : State} {locs : List Loc} {Z : State} {a0 : Array Value} {h0 : Heap} (s0 : Slot) (s1 : Slot) (s2 : Slot) (s3 : Slot) (s4 : Slot) (s5 : Slot) (s6 : Slot) (s7 : Slot) (o8 : Addr) (o9 : Addr) (i10 : Int32) (i11 : Int32) (i12 : Int32) (n0 : Nat) (o : Nat) (d : Nat) (n : Nat) (f_o8 : Nat → Value) (f_o9 : Nat → Value)
    (X0 : Stand p l e room_1 s m args below meth c T0 locs 2 18) (hx : p.tables.exec = Jvm.exec) (hZ : Z.Warmed39 s.vm) (hw : ∀ d ∈ tables_1, d.before a0 Z = true) (hby : c.code = code) (hml : c.maxLocals = 18) (hown : s.vm.findClass "com/example/patras/patras/BloomFilterHashPinLaw" = some m.cls) (e0 : T0.heap = h0) (Z0 : n0 ≤ h0.size) (N0 : Fr n0 locs) (ixo : own_ix i10 o) (ixn : own_ix i11 n) (ixd : own_ix i12 d) (hs : o + n ≤ 8) (hd : d + n ≤ 10) (hb8 : own_by 8 f_o8) (hFs : ∀ j, j < 8 → f_o8 j = .int (own_int (f_o8 j))) (ne : o8 ≠ o9) (g_o9 : n0 ≤ o9) (hn : n = 0) (V_o8 : Ary Z h0 o8 .byte 8 f_o8) (V_o9 : Ary Z h0 o9 .byte 10 f_o9) (hc127 : ¬ ((0 : Int32) < i11)) (hc188 : ¬ ((1 : Int32) = (0 : Int32))) (hc209 : ¬ ((1 : Int32) = (0 : Int32))) :
    ∃ (T' : State) (h' : Heap) (locs' : List Loc), Stand p l e room_1 s m args below meth c T' locs' 2 18 ∧ T'.heap = h' ∧ Fr n0 locs' ∧
      ∀ target, Steps p.tables e below (T'.setTop (mkF m 236 #[s0, s1, s2, s3, s4, s5, s6, s7, .val (.ref o8), .val (.ref o9), .val (.int i10), .val (.int i11), .val (.int i12), .val (.long (own_fold own_step (fun j => own_int (f_o8 j)) n o (-3750763034362895579 : Int64))), .second, .val (.int (1 : Int32)), .unset, .unset] [(.int (1 : Int32))])) target → Steps p.tables e below (T0.setTop (mkF m 79 #[s0, s1, s2, s3, s4, s5, s6, s7, .val (.ref o8), .val (.ref o9), .val (.int i10), .val (.int i11), .val (.int i12), .unset, .unset, .unset, .unset, .unset] [])) target := by
  have Zc7 : n0 ≤ h0.size := Z0
  have Vc7_o8 := V_o8
  have Vc7_o9 := V_o9
  obtain ⟨_, _, ⟨T7, L7, k7, n7⟩, -, X7, ⟨Lc7, hQ7, l7, y7, z7⟩, st7⟩ := Jvm.LawKit.callS X0 hx (y := (⟨"com/example/patras/patras/BloomFilterHashPinLaw", "copy", "([BI[BII)V"⟩ : MethodName)) hown (mvT hZ (hw _ (List.mem_of_getElem? (i := 6) rfl))) (mvT hZ (hw _ (List.mem_of_getElem? (i := 7) rfl))) (mvT hZ (hw _ (List.mem_of_getElem? (i := 3) rfl))) (mvT hZ (hw _ (List.mem_of_getElem? (i := 8) rfl))) (by decide) (backOf (W := 0) (rm2 l Z a0 hw [] o8 i10 o9 i12 i11 f_o8 f_o9 o d n h0 n0 Zc7 ixo ixd ixn hs hd hb8 ne g_o9 Vc7_o8 Vc7_o9) hZ (hw _ (List.mem_of_getElem? (i := 8) rfl)) (hw _ (List.mem_of_getElem? (i := 3) rfl)) (by decide) (by decide)) (g := (mkF m 89 #[s0, s1, s2, s3, s4, s5, s6, s7, .val (.ref o8), .val (.ref o9), .val (.int i10), .val (.int i11), .val (.int i12), .unset, .unset, .unset, .unset, .unset] [(.int i11), (.int i12), (.ref o9), (.int i10), (.ref o8)])) rfl (by rw [hml]; rfl) (argsL := [(.ref o8), (.int i10), (.ref o9), (.int i12), (.int i11)]) (rest := []) (lenOf pd_0_1 rfl) rfl (by show 2 * 0 + _ ≤ _; exact Nat.le_of_eq rfl) (hb hby at_89) (fun _ _ => ⟨rfl, e0, (by decide : 2 + 0 + 0 ≤ room_1.cells), (by decide : 18 + 0 + 0 ≤ room_1.slots)⟩)
  dsimp only [Pt.U, Pt.locs, Pt.cells, Pt.slots] at X7 l7 y7 z7 st7 hQ7
  subst l7 y7 z7
  obtain ⟨rfl, N7q, Kq7, gq7, Vq7, Pq7⟩ := hQ7
  have N7 := Fr.app N0 N7q
  have hFd : ∀ j, d ≤ j → j < d + n → gq7 j = .int (own_int (gq7 j)) := fun j h1 h2 => by
    have q := Pq7 (j - d) (by omega) (by omega)
    rw [show d + (j - d) = j by omega] at q
    rw [q]; exact hFs _ (by omega)
  have hsame0 : (own_fold own_step (fun j => own_int (gq7 j)) n d (-3750763034362895579 : Int64)) = (own_fold own_step (fun j => own_int (f_o8 j)) n o (-3750763034362895579 : Int64)) := own_fold_cong own_step n d o _ (fun j hj => by show own_int (gq7 (d + j)) = own_int (f_o8 (o + j)); rw [Pq7 j (by omega) hj])
  have K7 : Keep h0 T7.heap [o9] := (Keep.refl h0 [o9]).trans Kq7 (fun x hx => by cases List.mem_singleton.mp hx; exact Or.inl (List.mem_of_getElem? (i := 0) rfl))
  have Zc8 : n0 ≤ T7.heap.size := (Nat.le_trans Z0 Kq7.1)
  have Vc8_o8 := (V_o8.keep Kq7 (own_ni ne))
  obtain ⟨_, _, ⟨T8, L8, k8, n8⟩, -, X8, ⟨Lc8, hQ8, l8, y8, z8⟩, st8⟩ := Jvm.LawKit.callS X7 hx (y := (⟨"com/example/patras/patras/BloomFilter", "hash", "([BII)J"⟩ : MethodName)) hown (mvT hZ (hw _ (List.mem_of_getElem? (i := 9) rfl))) (mvT hZ (hw _ (List.mem_of_getElem? (i := 10) rfl))) (mvT hZ (hw _ (List.mem_of_getElem? (i := 11) rfl))) (mvT hZ (hw _ (List.mem_of_getElem? (i := 12) rfl))) (by decide) (backOf (W := 0) (rm3 l Z a0 hw [] o8 i10 i11 8 f_o8 (fun j => own_int (f_o8 j)) o n T7.heap n0 Zc8 ixo ixn hs (by decide) (fun j _ h => hFs j (by omega)) Vc8_o8) hZ (hw _ (List.mem_of_getElem? (i := 12) rfl)) (hw _ (List.mem_of_getElem? (i := 11) rfl)) (by decide) (by decide)) (g := (mkF m 98 #[s0, s1, s2, s3, s4, s5, s6, s7, .val (.ref o8), .val (.ref o9), .val (.int i10), .val (.int i11), .val (.int i12), .unset, .unset, .unset, .unset, .unset] [(.int i11), (.int i10), (.ref o8)])) rfl (by rw [hml]; rfl) (argsL := [(.ref o8), (.int i10), (.int i11)]) (rest := []) (lenOf pd_0_2 rfl) rfl (by show 2 * 0 + _ ≤ _; exact Nat.le_of_eq rfl) (hb hby at_98) (fun _ _ => ⟨rfl, rfl, (by decide : 2 + 0 + 0 ≤ room_1.cells), (by decide : 18 + 0 + 0 ≤ room_1.slots)⟩)
  dsimp only [Pt.U, Pt.locs, Pt.cells, Pt.slots] at X8 l8 y8 z8 st8 hQ8
  subst l8 y8 z8
  obtain ⟨rfl, N8q, eq8⟩ := hQ8
  have N8 := Fr.app N7 N8q
  have E8 : Ext T7.heap T8.heap := own_exteq eq8
  have K8 : Keep h0 T8.heap [o9] := K7.ext E8
  have Zc9 : n0 ≤ T8.heap.size := (Nat.le_trans (Nat.le_trans Z0 Kq7.1) E8.1)
  have Vc9_o8 := ((V_o8.keep Kq7 (own_ni ne)).ext E8)
  obtain ⟨_, _, ⟨T9, L9, k9, n9⟩, -, X9, ⟨Lc9, hQ9, l9, y9, z9⟩, st9⟩ := Jvm.LawKit.callS X8 hx (y := (⟨"com/example/patras/patras/BloomFilter", "hash", "([BII)J"⟩ : MethodName)) hown (mvT hZ (hw _ (List.mem_of_getElem? (i := 9) rfl))) (mvT hZ (hw _ (List.mem_of_getElem? (i := 10) rfl))) (mvT hZ (hw _ (List.mem_of_getElem? (i := 11) rfl))) (mvT hZ (hw _ (List.mem_of_getElem? (i := 12) rfl))) (by decide) (backOf (W := 0) (rm3 l Z a0 hw [] o8 i10 (0 : Int32) 8 f_o8 (fun j => own_int (f_o8 j)) o 0 T8.heap n0 Zc9 ixo (show own_ix (0 : Int32) 0 from rfl) (by omega) (by decide) (fun j _ h => hFs j (by omega)) Vc9_o8) hZ (hw _ (List.mem_of_getElem? (i := 12) rfl)) (hw _ (List.mem_of_getElem? (i := 11) rfl)) (by decide) (by decide)) (g := (mkF m 108 #[s0, s1, s2, s3, s4, s5, s6, s7, .val (.ref o8), .val (.ref o9), .val (.int i10), .val (.int i11), .val (.int i12), .val (.long (own_fold own_step (fun j => own_int (f_o8 j)) n o (-3750763034362895579 : Int64))), .second, .unset, .unset, .unset] [(.int (0 : Int32)), (.int i10), (.ref o8)])) rfl (by rw [hml]; rfl) (argsL := [(.ref o8), (.int i10), (.int (0 : Int32))]) (rest := []) (lenOf pd_0_2 rfl) rfl (by show 2 * 0 + _ ≤ _; exact Nat.le_of_eq rfl) (hb hby at_108) (fun _ _ => ⟨rfl, rfl, (by decide : 2 + 0 + 0 ≤ room_1.cells), (by decide : 18 + 0 + 0 ≤ room_1.slots)⟩)
  dsimp only [Pt.U, Pt.locs, Pt.cells, Pt.slots] at X9 l9 y9 z9 st9 hQ9
  subst l9 y9 z9
  obtain ⟨rfl, N9q, eq9⟩ := hQ9
  have N9 := Fr.app N8 N9q
  have E9 : Ext T8.heap T9.heap := own_exteq eq9
  have K9 : Keep h0 T9.heap [o9] := K8.ext E9
  have Zc10 : n0 ≤ T9.heap.size := (Nat.le_trans (Nat.le_trans (Nat.le_trans Z0 Kq7.1) E8.1) E9.1)
  have Vc10_o9 := ((Vq7.ext E8).ext E9)
  obtain ⟨_, _, ⟨T10, L10, k10, n10⟩, -, X10, ⟨Lc10, hQ10, l10, y10, z10⟩, st10⟩ := Jvm.LawKit.callS X9 hx (y := (⟨"com/example/patras/patras/BloomFilter", "hash", "([BII)J"⟩ : MethodName)) hown (mvT hZ (hw _ (List.mem_of_getElem? (i := 9) rfl))) (mvT hZ (hw _ (List.mem_of_getElem? (i := 10) rfl))) (mvT hZ (hw _ (List.mem_of_getElem? (i := 11) rfl))) (mvT hZ (hw _ (List.mem_of_getElem? (i := 12) rfl))) (by decide) (backOf (W := 0) (rm3 l Z a0 hw [] o9 i12 i11 10 gq7 (fun j => own_int (gq7 j)) d n T9.heap n0 Zc10 ixd ixn hd (by decide) hFd Vc10_o9) hZ (hw _ (List.mem_of_getElem? (i := 12) rfl)) (hw _ (List.mem_of_getElem? (i := 11) rfl)) (by decide) (by decide)) (g := (mkF m 218 #[s0, s1, s2, s3, s4, s5, s6, s7, .val (.ref o8), .val (.ref o9), .val (.int i10), .val (.int i11), .val (.int i12), .val (.long (own_fold own_step (fun j => own_int (f_o8 j)) n o (-3750763034362895579 : Int64))), .second, .val (.int (1 : Int32)), .unset, .unset] [(.int i11), (.int i12), (.ref o9)])) rfl (by rw [hml]; rfl) (argsL := [(.ref o9), (.int i12), (.int i11)]) (rest := []) (lenOf pd_0_2 rfl) rfl (by show 2 * 0 + _ ≤ _; exact Nat.le_of_eq rfl) (hb hby at_218) (fun _ _ => ⟨rfl, rfl, (by decide : 2 + 0 + 0 ≤ room_1.cells), (by decide : 18 + 0 + 0 ≤ room_1.slots)⟩)
  dsimp only [Pt.U, Pt.locs, Pt.cells, Pt.slots] at X10 l10 y10 z10 st10 hQ10
  subst l10 y10 z10
  obtain ⟨rfl, N10q, eq10⟩ := hQ10
  have N10 := Fr.app N9 N10q
  have E10 : Ext T9.heap T10.heap := own_exteq eq10
  have K10 : Keep h0 T10.heap [o9] := K9.ext E10
  have Vend_o8 := ((((V_o8.keep Kq7 (own_ni ne)).ext E8).ext E9).ext E10)
  have Vend_o9 := (((Vq7.ext E8).ext E9).ext E10)
  have Zend : n0 ≤ T10.heap.size := (Nat.le_trans (Nat.le_trans (Nat.le_trans (Nat.le_trans Z0 Kq7.1) E8.1) E9.1) E10.1)
  have Kend := K10
  refine ⟨T10, _, _, X10, rfl, N10, fun target kt => ?_⟩
  show Steps p.tables e below (T0.setTop (mkF m 79 #[s0, s1, s2, s3, s4, s5, s6, s7, .val (.ref o8), .val (.ref o9), .val (.int i10), .val (.int i11), .val (.int i12), .unset, .unset, .unset, .unset, .unset] [])) _
  refine XS.aload X0.here hx rfl (hb hby at_79) rfl rfl ?_
  show Steps p.tables e below (T0.setTop (mkF m 81 #[s0, s1, s2, s3, s4, s5, s6, s7, .val (.ref o8), .val (.ref o9), .val (.int i10), .val (.int i11), .val (.int i12), .unset, .unset, .unset, .unset, .unset] [(.ref o8)])) _
  refine XS.iload X0.here hx rfl (hb hby at_81) rfl ?_
  show Steps p.tables e below (T0.setTop (mkF m 83 #[s0, s1, s2, s3, s4, s5, s6, s7, .val (.ref o8), .val (.ref o9), .val (.int i10), .val (.int i11), .val (.int i12), .unset, .unset, .unset, .unset, .unset] [(.int i10), (.ref o8)])) _
  refine XS.aload X0.here hx rfl (hb hby at_83) rfl rfl ?_
  show Steps p.tables e below (T0.setTop (mkF m 85 #[s0, s1, s2, s3, s4, s5, s6, s7, .val (.ref o8), .val (.ref o9), .val (.int i10), .val (.int i11), .val (.int i12), .unset, .unset, .unset, .unset, .unset] [(.ref o9), (.int i10), (.ref o8)])) _
  refine XS.iload X0.here hx rfl (hb hby at_85) rfl ?_
  show Steps p.tables e below (T0.setTop (mkF m 87 #[s0, s1, s2, s3, s4, s5, s6, s7, .val (.ref o8), .val (.ref o9), .val (.int i10), .val (.int i11), .val (.int i12), .unset, .unset, .unset, .unset, .unset] [(.int i12), (.ref o9), (.int i10), (.ref o8)])) _
  refine XS.iload X0.here hx rfl (hb hby at_87) rfl ?_
  show Steps p.tables e below (T0.setTop (mkF m 89 #[s0, s1, s2, s3, s4, s5, s6, s7, .val (.ref o8), .val (.ref o9), .val (.int i10), .val (.int i11), .val (.int i12), .unset, .unset, .unset, .unset, .unset] [(.int i11), (.int i12), (.ref o9), (.int i10), (.ref o8)])) _
  refine st7 _ ?_
  show Steps p.tables e below (T7.setTop (mkF m 92 #[s0, s1, s2, s3, s4, s5, s6, s7, .val (.ref o8), .val (.ref o9), .val (.int i10), .val (.int i11), .val (.int i12), .unset, .unset, .unset, .unset, .unset] [])) _
  refine XS.aload X7.here hx rfl (hb hby at_92) rfl rfl ?_
  show Steps p.tables e below (T7.setTop (mkF m 94 #[s0, s1, s2, s3, s4, s5, s6, s7, .val (.ref o8), .val (.ref o9), .val (.int i10), .val (.int i11), .val (.int i12), .unset, .unset, .unset, .unset, .unset] [(.ref o8)])) _
  refine XS.iload X7.here hx rfl (hb hby at_94) rfl ?_
  show Steps p.tables e below (T7.setTop (mkF m 96 #[s0, s1, s2, s3, s4, s5, s6, s7, .val (.ref o8), .val (.ref o9), .val (.int i10), .val (.int i11), .val (.int i12), .unset, .unset, .unset, .unset, .unset] [(.int i10), (.ref o8)])) _
  refine XS.iload X7.here hx rfl (hb hby at_96) rfl ?_
  show Steps p.tables e below (T7.setTop (mkF m 98 #[s0, s1, s2, s3, s4, s5, s6, s7, .val (.ref o8), .val (.ref o9), .val (.int i10), .val (.int i11), .val (.int i12), .unset, .unset, .unset, .unset, .unset] [(.int i11), (.int i10), (.ref o8)])) _
  refine st8 _ ?_
  show Steps p.tables e below (T8.setTop (mkF m 101 #[s0, s1, s2, s3, s4, s5, s6, s7, .val (.ref o8), .val (.ref o9), .val (.int i10), .val (.int i11), .val (.int i12), .unset, .unset, .unset, .unset, .unset] [(.long (own_fold own_step (fun j => own_int (f_o8 j)) n o (-3750763034362895579 : Int64)))])) _
  refine XS.lstore X8.here hx rfl (hb hby at_101) rfl (l' := #[s0, s1, s2, s3, s4, s5, s6, s7, .val (.ref o8), .val (.ref o9), .val (.int i10), .val (.int i11), .val (.int i12), .val (.long (own_fold own_step (fun j => own_int (f_o8 j)) n o (-3750763034362895579 : Int64))), .second, .unset, .unset, .unset]) rfl ?_
  show Steps p.tables e below (T8.setTop (mkF m 103 #[s0, s1, s2, s3, s4, s5, s6, s7, .val (.ref o8), .val (.ref o9), .val (.int i10), .val (.int i11), .val (.int i12), .val (.long (own_fold own_step (fun j => own_int (f_o8 j)) n o (-3750763034362895579 : Int64))), .second, .unset, .unset, .unset] [])) _
  refine XS.aload X8.here hx rfl (hb hby at_103) rfl rfl ?_
  show Steps p.tables e below (T8.setTop (mkF m 105 #[s0, s1, s2, s3, s4, s5, s6, s7, .val (.ref o8), .val (.ref o9), .val (.int i10), .val (.int i11), .val (.int i12), .val (.long (own_fold own_step (fun j => own_int (f_o8 j)) n o (-3750763034362895579 : Int64))), .second, .unset, .unset, .unset] [(.ref o8)])) _
  refine XS.iload X8.here hx rfl (hb hby at_105) rfl ?_
  show Steps p.tables e below (T8.setTop (mkF m 107 #[s0, s1, s2, s3, s4, s5, s6, s7, .val (.ref o8), .val (.ref o9), .val (.int i10), .val (.int i11), .val (.int i12), .val (.long (own_fold own_step (fun j => own_int (f_o8 j)) n o (-3750763034362895579 : Int64))), .second, .unset, .unset, .unset] [(.int i10), (.ref o8)])) _
  refine XS.iconst X8.here hx rfl (hb hby at_107) ?_
  show Steps p.tables e below (T8.setTop (mkF m 108 #[s0, s1, s2, s3, s4, s5, s6, s7, .val (.ref o8), .val (.ref o9), .val (.int i10), .val (.int i11), .val (.int i12), .val (.long (own_fold own_step (fun j => own_int (f_o8 j)) n o (-3750763034362895579 : Int64))), .second, .unset, .unset, .unset] [(.int (0 : Int32)), (.int i10), (.ref o8)])) _
  refine st9 _ ?_
  show Steps p.tables e below (T9.setTop (mkF m 111 #[s0, s1, s2, s3, s4, s5, s6, s7, .val (.ref o8), .val (.ref o9), .val (.int i10), .val (.int i11), .val (.int i12), .val (.long (own_fold own_step (fun j => own_int (f_o8 j)) n o (-3750763034362895579 : Int64))), .second, .unset, .unset, .unset] [(.long (own_fold own_step (fun j => own_int (f_o8 j)) 0 o (-3750763034362895579 : Int64)))])) _
  refine X9.ldc2Long hx hown (mvT hZ (hw _ (List.mem_of_getElem? (i := 15) rfl))) (g := (mkF m 111 #[s0, s1, s2, s3, s4, s5, s6, s7, .val (.ref o8), .val (.ref o9), .val (.int i10), .val (.int i11), .val (.int i12), .val (.long (own_fold own_step (fun j => own_int (f_o8 j)) n o (-3750763034362895579 : Int64))), .second, .unset, .unset, .unset] [(.long (own_fold own_step (fun j => own_int (f_o8 j)) 0 o (-3750763034362895579 : Int64)))])) rfl (hb hby at_111) _ ?_
  show Steps p.tables e below (T9.setTop (mkF m 114 #[s0, s1, s2, s3, s4, s5, s6, s7, .val (.ref o8), .val (.ref o9), .val (.int i10), .val (.int i11), .val (.int i12), .val (.long (own_fold own_step (fun j => own_int (f_o8 j)) n o (-3750763034362895579 : Int64))), .second, .unset, .unset, .unset] [(.long (-3750763034362895579 : Int64)), (.long (own_fold own_step (fun j => own_int (f_o8 j)) 0 o (-3750763034362895579 : Int64)))])) _
  refine XS.lcmp X9.here hx rfl (hb hby at_114) rfl ?_
  show Steps p.tables e below (T9.setTop (mkF m 115 #[s0, s1, s2, s3, s4, s5, s6, s7, .val (.ref o8), .val (.ref o9), .val (.int i10), .val (.int i11), .val (.int i12), .val (.long (own_fold own_step (fun j => own_int (f_o8 j)) n o (-3750763034362895579 : Int64))), .second, .unset, .unset, .unset] [(.int (lcmpW (own_fold own_step (fun j => own_int (f_o8 j)) 0 o (-3750763034362895579 : Int64)) (-3750763034362895579 : Int64)))])) _
  refine XS.ifNo X9.here hx rfl (hb hby at_115) rfl ((if0 _ _).trans (teq (own_lc2 (own_fold_0 own_step rfl) : (lcmpW (own_fold own_step (fun j => own_int (f_o8 j)) 0 o (-3750763034362895579 : Int64)) (-3750763034362895579 : Int64)) = (0 : Int32))).2) ?_
  show Steps p.tables e below (T9.setTop (mkF m 118 #[s0, s1, s2, s3, s4, s5, s6, s7, .val (.ref o8), .val (.ref o9), .val (.int i10), .val (.int i11), .val (.int i12), .val (.long (own_fold own_step (fun j => own_int (f_o8 j)) n o (-3750763034362895579 : Int64))), .second, .unset, .unset, .unset] [])) _
  refine XS.iconst X9.here hx rfl (hb hby at_118) ?_
  show Steps p.tables e below (T9.setTop (mkF m 119 #[s0, s1, s2, s3, s4, s5, s6, s7, .val (.ref o8), .val (.ref o9), .val (.int i10), .val (.int i11), .val (.int i12), .val (.long (own_fold own_step (fun j => own_int (f_o8 j)) n o (-3750763034362895579 : Int64))), .second, .unset, .unset, .unset] [(.int (1 : Int32))])) _
  refine XS.goto X9.here hx rfl (pc0 := 119) (pc' := 123) rfl (hb hby at_119) (by decide) (by decide) ?_
  show Steps p.tables e below (T9.setTop (mkF m 123 #[s0, s1, s2, s3, s4, s5, s6, s7, .val (.ref o8), .val (.ref o9), .val (.int i10), .val (.int i11), .val (.int i12), .val (.long (own_fold own_step (fun j => own_int (f_o8 j)) n o (-3750763034362895579 : Int64))), .second, .unset, .unset, .unset] [(.int (1 : Int32))])) _
  refine XS.istore X9.here hx rfl (hb hby at_123) rfl (l' := #[s0, s1, s2, s3, s4, s5, s6, s7, .val (.ref o8), .val (.ref o9), .val (.int i10), .val (.int i11), .val (.int i12), .val (.long (own_fold own_step (fun j => own_int (f_o8 j)) n o (-3750763034362895579 : Int64))), .second, .val (.int (1 : Int32)), .unset, .unset]) rfl ?_
  show Steps p.tables e below (T9.setTop (mkF m 125 #[s0, s1, s2, s3, s4, s5, s6, s7, .val (.ref o8), .val (.ref o9), .val (.int i10), .val (.int i11), .val (.int i12), .val (.long (own_fold own_step (fun j => own_int (f_o8 j)) n o (-3750763034362895579 : Int64))), .second, .val (.int (1 : Int32)), .unset, .unset] [])) _
  refine XS.iload X9.here hx rfl (hb hby at_125) rfl ?_
  show Steps p.tables e below (T9.setTop (mkF m 127 #[s0, s1, s2, s3, s4, s5, s6, s7, .val (.ref o8), .val (.ref o9), .val (.int i10), .val (.int i11), .val (.int i12), .val (.long (own_fold own_step (fun j => own_int (f_o8 j)) n o (-3750763034362895579 : Int64))), .second, .val (.int (1 : Int32)), .unset, .unset] [(.int i11)])) _
  refine XS.ifYes X9.here hx rfl (pc0 := 127) (pc' := 186) rfl (hb hby at_127) rfl ((if0 _ _).trans (flt hc127).2.2.2) (by decide) (by decide) ?_
  show Steps p.tables e below (T9.setTop (mkF m 186 #[s0, s1, s2, s3, s4, s5, s6, s7, .val (.ref o8), .val (.ref o9), .val (.int i10), .val (.int i11), .val (.int i12), .val (.long (own_fold own_step (fun j => own_int (f_o8 j)) n o (-3750763034362895579 : Int64))), .second, .val (.int (1 : Int32)), .unset, .unset] [])) _
  refine XS.iload X9.here hx rfl (hb hby at_186) rfl ?_
  show Steps p.tables e below (T9.setTop (mkF m 188 #[s0, s1, s2, s3, s4, s5, s6, s7, .val (.ref o8), .val (.ref o9), .val (.int i10), .val (.int i11), .val (.int i12), .val (.long (own_fold own_step (fun j => own_int (f_o8 j)) n o (-3750763034362895579 : Int64))), .second, .val (.int (1 : Int32)), .unset, .unset] [(.int (1 : Int32))])) _
  refine XS.ifNo X9.here hx rfl (hb hby at_188) rfl ((if0 _ _).trans (feq hc188).1) ?_
  show Steps p.tables e below (T9.setTop (mkF m 191 #[s0, s1, s2, s3, s4, s5, s6, s7, .val (.ref o8), .val (.ref o9), .val (.int i10), .val (.int i11), .val (.int i12), .val (.long (own_fold own_step (fun j => own_int (f_o8 j)) n o (-3750763034362895579 : Int64))), .second, .val (.int (1 : Int32)), .unset, .unset] [])) _
  refine XS.lload X9.here hx rfl (hb hby at_191) rfl ?_
  show Steps p.tables e below (T9.setTop (mkF m 193 #[s0, s1, s2, s3, s4, s5, s6, s7, .val (.ref o8), .val (.ref o9), .val (.int i10), .val (.int i11), .val (.int i12), .val (.long (own_fold own_step (fun j => own_int (f_o8 j)) n o (-3750763034362895579 : Int64))), .second, .val (.int (1 : Int32)), .unset, .unset] [(.long (own_fold own_step (fun j => own_int (f_o8 j)) n o (-3750763034362895579 : Int64)))])) _
  refine X9.ldc2Long hx hown (mvT hZ (hw _ (List.mem_of_getElem? (i := 15) rfl))) (g := (mkF m 193 #[s0, s1, s2, s3, s4, s5, s6, s7, .val (.ref o8), .val (.ref o9), .val (.int i10), .val (.int i11), .val (.int i12), .val (.long (own_fold own_step (fun j => own_int (f_o8 j)) n o (-3750763034362895579 : Int64))), .second, .val (.int (1 : Int32)), .unset, .unset] [(.long (own_fold own_step (fun j => own_int (f_o8 j)) n o (-3750763034362895579 : Int64)))])) rfl (hb hby at_193) _ ?_
  show Steps p.tables e below (T9.setTop (mkF m 196 #[s0, s1, s2, s3, s4, s5, s6, s7, .val (.ref o8), .val (.ref o9), .val (.int i10), .val (.int i11), .val (.int i12), .val (.long (own_fold own_step (fun j => own_int (f_o8 j)) n o (-3750763034362895579 : Int64))), .second, .val (.int (1 : Int32)), .unset, .unset] [(.long (-3750763034362895579 : Int64)), (.long (own_fold own_step (fun j => own_int (f_o8 j)) n o (-3750763034362895579 : Int64)))])) _
  refine XS.lcmp X9.here hx rfl (hb hby at_196) rfl ?_
  show Steps p.tables e below (T9.setTop (mkF m 197 #[s0, s1, s2, s3, s4, s5, s6, s7, .val (.ref o8), .val (.ref o9), .val (.int i10), .val (.int i11), .val (.int i12), .val (.long (own_fold own_step (fun j => own_int (f_o8 j)) n o (-3750763034362895579 : Int64))), .second, .val (.int (1 : Int32)), .unset, .unset] [(.int (lcmpW (own_fold own_step (fun j => own_int (f_o8 j)) n o (-3750763034362895579 : Int64)) (-3750763034362895579 : Int64)))])) _
  refine XS.ifNo X9.here hx rfl (hb hby at_197) rfl ((if0 _ _).trans (teq (own_lc2 (own_fold_0 own_step hn) : (lcmpW (own_fold own_step (fun j => own_int (f_o8 j)) n o (-3750763034362895579 : Int64)) (-3750763034362895579 : Int64)) = (0 : Int32))).2) ?_
  show Steps p.tables e below (T9.setTop (mkF m 200 #[s0, s1, s2, s3, s4, s5, s6, s7, .val (.ref o8), .val (.ref o9), .val (.int i10), .val (.int i11), .val (.int i12), .val (.long (own_fold own_step (fun j => own_int (f_o8 j)) n o (-3750763034362895579 : Int64))), .second, .val (.int (1 : Int32)), .unset, .unset] [])) _
  refine XS.iconst X9.here hx rfl (hb hby at_200) ?_
  show Steps p.tables e below (T9.setTop (mkF m 201 #[s0, s1, s2, s3, s4, s5, s6, s7, .val (.ref o8), .val (.ref o9), .val (.int i10), .val (.int i11), .val (.int i12), .val (.long (own_fold own_step (fun j => own_int (f_o8 j)) n o (-3750763034362895579 : Int64))), .second, .val (.int (1 : Int32)), .unset, .unset] [(.int (1 : Int32))])) _
  refine XS.goto X9.here hx rfl (pc0 := 201) (pc' := 205) rfl (hb hby at_201) (by decide) (by decide) ?_
  show Steps p.tables e below (T9.setTop (mkF m 205 #[s0, s1, s2, s3, s4, s5, s6, s7, .val (.ref o8), .val (.ref o9), .val (.int i10), .val (.int i11), .val (.int i12), .val (.long (own_fold own_step (fun j => own_int (f_o8 j)) n o (-3750763034362895579 : Int64))), .second, .val (.int (1 : Int32)), .unset, .unset] [(.int (1 : Int32))])) _
  refine XS.istore X9.here hx rfl (hb hby at_205) rfl (l' := #[s0, s1, s2, s3, s4, s5, s6, s7, .val (.ref o8), .val (.ref o9), .val (.int i10), .val (.int i11), .val (.int i12), .val (.long (own_fold own_step (fun j => own_int (f_o8 j)) n o (-3750763034362895579 : Int64))), .second, .val (.int (1 : Int32)), .unset, .unset]) rfl ?_
  show Steps p.tables e below (T9.setTop (mkF m 207 #[s0, s1, s2, s3, s4, s5, s6, s7, .val (.ref o8), .val (.ref o9), .val (.int i10), .val (.int i11), .val (.int i12), .val (.long (own_fold own_step (fun j => own_int (f_o8 j)) n o (-3750763034362895579 : Int64))), .second, .val (.int (1 : Int32)), .unset, .unset] [])) _
  refine XS.iload X9.here hx rfl (hb hby at_207) rfl ?_
  show Steps p.tables e below (T9.setTop (mkF m 209 #[s0, s1, s2, s3, s4, s5, s6, s7, .val (.ref o8), .val (.ref o9), .val (.int i10), .val (.int i11), .val (.int i12), .val (.long (own_fold own_step (fun j => own_int (f_o8 j)) n o (-3750763034362895579 : Int64))), .second, .val (.int (1 : Int32)), .unset, .unset] [(.int (1 : Int32))])) _
  refine XS.ifNo X9.here hx rfl (hb hby at_209) rfl ((if0 _ _).trans (feq hc209).1) ?_
  show Steps p.tables e below (T9.setTop (mkF m 212 #[s0, s1, s2, s3, s4, s5, s6, s7, .val (.ref o8), .val (.ref o9), .val (.int i10), .val (.int i11), .val (.int i12), .val (.long (own_fold own_step (fun j => own_int (f_o8 j)) n o (-3750763034362895579 : Int64))), .second, .val (.int (1 : Int32)), .unset, .unset] [])) _
  refine XS.aload X9.here hx rfl (hb hby at_212) rfl rfl ?_
  show Steps p.tables e below (T9.setTop (mkF m 214 #[s0, s1, s2, s3, s4, s5, s6, s7, .val (.ref o8), .val (.ref o9), .val (.int i10), .val (.int i11), .val (.int i12), .val (.long (own_fold own_step (fun j => own_int (f_o8 j)) n o (-3750763034362895579 : Int64))), .second, .val (.int (1 : Int32)), .unset, .unset] [(.ref o9)])) _
  refine XS.iload X9.here hx rfl (hb hby at_214) rfl ?_
  show Steps p.tables e below (T9.setTop (mkF m 216 #[s0, s1, s2, s3, s4, s5, s6, s7, .val (.ref o8), .val (.ref o9), .val (.int i10), .val (.int i11), .val (.int i12), .val (.long (own_fold own_step (fun j => own_int (f_o8 j)) n o (-3750763034362895579 : Int64))), .second, .val (.int (1 : Int32)), .unset, .unset] [(.int i12), (.ref o9)])) _
  refine XS.iload X9.here hx rfl (hb hby at_216) rfl ?_
  show Steps p.tables e below (T9.setTop (mkF m 218 #[s0, s1, s2, s3, s4, s5, s6, s7, .val (.ref o8), .val (.ref o9), .val (.int i10), .val (.int i11), .val (.int i12), .val (.long (own_fold own_step (fun j => own_int (f_o8 j)) n o (-3750763034362895579 : Int64))), .second, .val (.int (1 : Int32)), .unset, .unset] [(.int i11), (.int i12), (.ref o9)])) _
  refine st10 _ ?_
  show Steps p.tables e below (T10.setTop (mkF m 221 #[s0, s1, s2, s3, s4, s5, s6, s7, .val (.ref o8), .val (.ref o9), .val (.int i10), .val (.int i11), .val (.int i12), .val (.long (own_fold own_step (fun j => own_int (f_o8 j)) n o (-3750763034362895579 : Int64))), .second, .val (.int (1 : Int32)), .unset, .unset] [(.long (own_fold own_step (fun j => own_int (gq7 j)) n d (-3750763034362895579 : Int64)))])) _
  refine XS.lload X10.here hx rfl (hb hby at_221) rfl ?_
  show Steps p.tables e below (T10.setTop (mkF m 223 #[s0, s1, s2, s3, s4, s5, s6, s7, .val (.ref o8), .val (.ref o9), .val (.int i10), .val (.int i11), .val (.int i12), .val (.long (own_fold own_step (fun j => own_int (f_o8 j)) n o (-3750763034362895579 : Int64))), .second, .val (.int (1 : Int32)), .unset, .unset] [(.long (own_fold own_step (fun j => own_int (f_o8 j)) n o (-3750763034362895579 : Int64))), (.long (own_fold own_step (fun j => own_int (gq7 j)) n d (-3750763034362895579 : Int64)))])) _
  refine XS.lcmp X10.here hx rfl (hb hby at_223) rfl ?_
  show Steps p.tables e below (T10.setTop (mkF m 224 #[s0, s1, s2, s3, s4, s5, s6, s7, .val (.ref o8), .val (.ref o9), .val (.int i10), .val (.int i11), .val (.int i12), .val (.long (own_fold own_step (fun j => own_int (f_o8 j)) n o (-3750763034362895579 : Int64))), .second, .val (.int (1 : Int32)), .unset, .unset] [(.int (lcmpW (own_fold own_step (fun j => own_int (gq7 j)) n d (-3750763034362895579 : Int64)) (own_fold own_step (fun j => own_int (f_o8 j)) n o (-3750763034362895579 : Int64))))])) _
  refine XS.ifNo X10.here hx rfl (hb hby at_224) rfl ((if0 _ _).trans (teq (own_lc2 hsame0 : (lcmpW (own_fold own_step (fun j => own_int (gq7 j)) n d (-3750763034362895579 : Int64)) (own_fold own_step (fun j => own_int (f_o8 j)) n o (-3750763034362895579 : Int64))) = (0 : Int32))).2) ?_
  show Steps p.tables e below (T10.setTop (mkF m 227 #[s0, s1, s2, s3, s4, s5, s6, s7, .val (.ref o8), .val (.ref o9), .val (.int i10), .val (.int i11), .val (.int i12), .val (.long (own_fold own_step (fun j => own_int (f_o8 j)) n o (-3750763034362895579 : Int64))), .second, .val (.int (1 : Int32)), .unset, .unset] [])) _
  refine XS.iconst X10.here hx rfl (hb hby at_227) ?_
  show Steps p.tables e below (T10.setTop (mkF m 228 #[s0, s1, s2, s3, s4, s5, s6, s7, .val (.ref o8), .val (.ref o9), .val (.int i10), .val (.int i11), .val (.int i12), .val (.long (own_fold own_step (fun j => own_int (f_o8 j)) n o (-3750763034362895579 : Int64))), .second, .val (.int (1 : Int32)), .unset, .unset] [(.int (1 : Int32))])) _
  refine XS.goto X10.here hx rfl (pc0 := 228) (pc' := 232) rfl (hb hby at_228) (by decide) (by decide) ?_
  show Steps p.tables e below (T10.setTop (mkF m 232 #[s0, s1, s2, s3, s4, s5, s6, s7, .val (.ref o8), .val (.ref o9), .val (.int i10), .val (.int i11), .val (.int i12), .val (.long (own_fold own_step (fun j => own_int (f_o8 j)) n o (-3750763034362895579 : Int64))), .second, .val (.int (1 : Int32)), .unset, .unset] [(.int (1 : Int32))])) _
  refine XS.istore X10.here hx rfl (hb hby at_232) rfl (l' := #[s0, s1, s2, s3, s4, s5, s6, s7, .val (.ref o8), .val (.ref o9), .val (.int i10), .val (.int i11), .val (.int i12), .val (.long (own_fold own_step (fun j => own_int (f_o8 j)) n o (-3750763034362895579 : Int64))), .second, .val (.int (1 : Int32)), .unset, .unset]) rfl ?_
  show Steps p.tables e below (T10.setTop (mkF m 234 #[s0, s1, s2, s3, s4, s5, s6, s7, .val (.ref o8), .val (.ref o9), .val (.int i10), .val (.int i11), .val (.int i12), .val (.long (own_fold own_step (fun j => own_int (f_o8 j)) n o (-3750763034362895579 : Int64))), .second, .val (.int (1 : Int32)), .unset, .unset] [])) _
  refine XS.iload X10.here hx rfl (hb hby at_234) rfl ?_
  exact kt
theorem pn_0 : plainName "com/example/patras/patras/BloomFilterHashPinLaw" = true := by first | (simp [plainName, overriddenIn]; done) | decide +kernel
theorem ef_0 (m : MethodId) (x0 : Int64) (x1 : Int64) (x2 : Int32) (x3 : Int32) (x4 : Int32) (x5 : Int32) : entryFrame m #[(.long x0), (.long x1), (.int x2), (.int x3), (.int x4), (.int x5)] maxLocals = mkF m 0 #[.val (.long x0), .second, .val (.long x1), .second, .val (.int x2), .val (.int x3), .val (.int x4), .val (.int x5), .unset, .unset, .unset, .unset, .unset, .unset, .unset, .unset, .unset, .unset] [] := by first | (simp [entryFrame, mkF, argsToLocals, Value.category, maxLocals]; done) | rfl
def Q0 (Z : State) (q1 : Int64) (q2 : Int64) (p3 : Int32) (p4 : Int32) (p5 : Int32) (p6 : Int32) (h0 : Heap) (n0 : Nat) (v : Option Value) (h : Heap) (L : List Loc) : Prop := v = some (.int (1 : Int32)) ∧ Fr n0 L
set_option maxRecDepth 65536 in
set_option maxHeartbeats 40000000 in
theorem rm0 (l : Launch) (Z : State) (a0 : Array Value) (hw : ∀ d ∈ tables_1, d.before a0 Z = true) (ws : List Jvm.Cond) (q1 : Int64) (q2 : Int64) (p3 : Int32) (p4 : Int32) (p5 : Int32) (p6 : Int32) (h0 : Heap) (n0 : Nat) (Z0 : n0 ≤ h0.size) :
    MetFree l x (head1 (Jvm.Cond.code x code maxLocals ret :: ws) room_1) (fun a U => a = #[(.long q1), (.long q2), (.int p3), (.int p4), (.int p5), (.int p6)] ∧ Z.Warmed39 U.vm ∧ U.heap = h0) (fun _ _ _ _ _ => True) (fun _ U o U' => ∃ v L, o = .returned v ∧ Q0 Z q1 q2 p3 p4 p5 p6 h0 n0 v U'.heap L ∧ FrameEnd U o U' L room_1.cells room_1.slots) := by
  refine MetFree.of_bodySF (plainFor_of_name pn_0) hisR ?_
  intro p e s m args below meth c s₁ Bd hml0 hP hK
  obtain ⟨rfl, hZ, hh⟩ := hP
  have hx := Bd.exec
  have hby := Bd.bytes
  have hml : c.maxLocals = 18 := hml0
  have hown : s.vm.findClass "com/example/patras/patras/BloomFilterHashPinLaw" = some m.cls := findClass_of_methodNamed Bd.named
  have hnm := (name_of_methodNamed Bd.named Bd.method).1
  have X0 : Stand p l e room_1 s m #[(.long q1), (.long q2), (.int p3), (.int p4), (.int p5), (.int p6)] below meth c s₁ [] 0 0 := Stand.of_body Bd
  have e0 : s₁.heap = h0 := by rw [← hh, Bd.state]; rfl
  have N0 := Fr.nil n0
  have pre0 : ∀ t, Steps p.tables e below (s₁.setTop (mkF m 0 #[.val (.long q1), .second, .val (.long q2), .second, .val (.int p3), .val (.int p4), .val (.int p5), .val (.int p6), .unset, .unset, .unset, .unset, .unset, .unset, .unset, .unset, .unset, .unset] [])) t → Steps p.tables e below (s₁.setTop (entryFrame m #[(.long q1), (.long q2), (.int p3), (.int p4), (.int p5), (.int p6)] maxLocals)) t := fun t k => castTop (ef_0 m q1 q2 p3 p4 p5 p6) k
  obtain ⟨T1, h1, L1, b, c', f, g, X1, e1, N1, gb, gc, nbc, V1, B1, U1, Z1, st1⟩ := sgA q1 q2 p3 p4 p5 p6 n0 X0 hx hZ hw hby hml hown e0 Z0 N0
  have hFs : ∀ j, j < 8 → f j = .int (own_int (f j)) := fun j hj => by
    obtain ⟨w, hw⟩ := B1 j hj
    rw [hw]; rfl
  obtain ⟨o, ho, ixo⟩ := own_rem (own_pos p3) (show own_ix (9 : Int32) 9 from rfl) (by decide)
  obtain ⟨T2, X2, e2, st2⟩ := tn0_43_53 (.val (.long q1)) .second (.val (.long q2)) .second p3 (.val (.int p4)) (.val (.int p5)) (.val (.int p6)) (.val (.ref b)) (.val (.ref c')) X1 hx hZ hw hby hml hown e1 (by decide)
  generalize ((p3 &&& (2147483647 : Int32)) - ((p3 &&& (2147483647 : Int32)) / (9 : Int32)) * (9 : Int32)) = i10 at ixo st2
  have ix9 : own_ix ((9 : Int32) - i10) (9 - o) := own_ixs (show own_ix (9 : Int32) 9 from rfl) ixo (by omega)
  obtain ⟨n, hn, ixn⟩ := own_rem (own_pos p4) ix9 (by omega)
  obtain ⟨T3, X3, e3, st3⟩ := tn0_53_66 (.val (.long q1)) .second (.val (.long q2)) .second (.val (.int p3)) p4 (.val (.int p5)) (.val (.int p6)) (.val (.ref b)) (.val (.ref c')) i10 X2 hx hZ hw hby hml hown e2 (fun q => by have := (own_ixeq ix9 (show own_ix (0 : Int32) 0 from rfl)).mp q; omega)
  generalize ((p4 &&& (2147483647 : Int32)) - ((p4 &&& (2147483647 : Int32)) / ((9 : Int32) - i10)) * ((9 : Int32) - i10)) = i11 at ixn st3
  have ix11 : own_ix ((11 : Int32) - i11) (11 - n) := own_ixs (show own_ix (11 : Int32) 11 from rfl) ixn (by omega)
  obtain ⟨d, hd, ixd⟩ := own_rem (own_pos p5) ix11 (by omega)
  obtain ⟨T4, X4, e4, st4⟩ := tn0_66_79 (.val (.long q1)) .second (.val (.long q2)) .second (.val (.int p3)) (.val (.int p4)) p5 (.val (.int p6)) (.val (.ref b)) (.val (.ref c')) (.val (.int i10)) i11 X3 hx hZ hw hby hml hown e3 (fun q => by have := (own_ixeq ix11 (show own_ix (0 : Int32) 0 from rfl)).mp q; omega)
  generalize ((p5 &&& (2147483647 : Int32)) - ((p5 &&& (2147483647 : Int32)) / ((11 : Int32) - i11)) * ((11 : Int32) - i11)) = i12 at ixd st4
  by_cases hz : (0 : Int32) < i11
  · obtain ⟨T5, h5, L5, X5, e5, N5, st5⟩ := sgCp (.val (.long q1)) .second (.val (.long q2)) .second (.val (.int p3)) (.val (.int p4)) (.val (.int p5)) (.val (.int p6)) b c' i10 i11 i12 n0 o d n f g X4 hx hZ hw hby hml hown e4 Z1 N1 ixo ixn ixd (by omega) (by omega) B1 hFs nbc gc ((own_ixlt (show own_ix (0 : Int32) 0 from rfl) ixn).mp hz) V1 U1 hz (by decide) (by decide)
    obtain ⟨fs, hr, hrun, hended, hW, hsame⟩ := X5.leave (v := some (.int (1 : Int32))) (fun h => by rw [Bd.returns] at h; cases h)
    refine ⟨_, _, pre0 _ ?_, hrun, hended, _, _, rfl, ?_, ⟨_, rfl⟩, hW, hsame.mono (by decide) (by decide)⟩
    · refine st1 _ (st2 _ (st3 _ (st4 _ (st5 _ ?_))))
      exact retN X5 hx (t := .boolean) Bd.returns (by simp) (hb hby at_236) hr
    · exact ⟨rfl, N5⟩
  · have hn0 : n = 0 := by
      have := mt (own_ixlt (show own_ix (0 : Int32) 0 from rfl) ixn).mpr hz
      omega
    obtain ⟨T5, h5, L5, X5, e5, N5, st5⟩ := sgCz (.val (.long q1)) .second (.val (.long q2)) .second (.val (.int p3)) (.val (.int p4)) (.val (.int p5)) (.val (.int p6)) b c' i10 i11 i12 n0 o d n f g X4 hx hZ hw hby hml hown e4 Z1 N1 ixo ixn ixd (by omega) (by omega) B1 hFs nbc gc hn0 V1 U1 hz (by decide) (by decide)
    obtain ⟨fs, hr, hrun, hended, hW, hsame⟩ := X5.leave (v := some (.int (1 : Int32))) (fun h => by rw [Bd.returns] at h; cases h)
    refine ⟨_, _, pre0 _ ?_, hrun, hended, _, _, rfl, ?_, ⟨_, rfl⟩, hW, hsame.mono (by decide) (by decide)⟩
    · refine st1 _ (st2 _ (st3 _ (st4 _ (st5 _ ?_))))
      exact retN X5 hx (t := .boolean) Bd.returns (by simp) (hb hby at_236) hr
    · exact ⟨rfl, N5⟩
set_option maxRecDepth 65536 in
set_option maxHeartbeats 40000000 in
theorem comes_1 {Post : Tables → Env → Array Value → State → Outcome → State → Prop} (hpost : ∀ tb e args s v u, (limb_1_1.after args s (.returned v) u = true ∧ limb_1_2.after args s (.returned v) u = true ∧ True) → FrameEnd s (.returned v) u (Jvm.fieldLocs frame_1_writes args s ++ Jvm.arrayLocs frame_1_arrays args s ++ Jvm.staticLocs frame_1_statics s) 16 128 → Post tb e args s (.returned v) u) :
    ArmFor flags0 classFile x code maxLocals ret World_1 tables_1 room_1 Calls_1 rest_1 Pre_1 Post := by
  intro l hfl _ _ p e ha hc hk s m args below hf hA hF happ hP
  obtain ⟨hcalls, hrest, hpre⟩ := hP
  obtain ⟨-, -, -, hnamed, -, -, -, hat⟩ := (Spec.applies_iff hf).mp happ
  obtain ⟨hg, hn⟩ := and_e (Cond.before_iff.mp (show (Jvm.Cond.and given_1 narrow_1).before args s = true from hpre))
  obtain ⟨g18, g19⟩ := and_e hg
  obtain ⟨g20, g21⟩ := and_e g19
  obtain ⟨g22, g23⟩ := and_e g21
  obtain ⟨g24, g25⟩ := and_e g23
  obtain ⟨g26, g27⟩ := and_e g25
  obtain ⟨g28, g29⟩ := and_e g27
  obtain ⟨w0, w1, w2, w3, w4, w5, rfl⟩ : ∃ w0 w1 w2 w3 w4 w5 : Value, args = #[w0, w1, w2, w3, w4, w5] := by
    have hs : args.size = 6 := by simpa [Cond.value, given_1] using g18
    obtain ⟨L⟩ := args
    match L, hs with
    | [w0, w1, w2, w3, w4, w5], _ => exact ⟨w0, w1, w2, w3, w4, w5, rfl⟩
  have hw := fun d (hd : d ∈ tables_1) => atoms_spec (ws := Jvm.Cond.code x code maxLocals ret :: tables_1) hat d (List.mem_cons_of_mem _ hd)
  have hfit : Fit s := fun {y c} hc i hi => by
    obtain ⟨ha, rfl⟩ := Array.getElem?_eq_some_iff.mp hc
    have q := List.all_eq_true.mp ((Array.all_eq_true_iff_forall_mem.mp hF) _ (Array.getElem_mem ha)) i (List.mem_range.mpr hi)
    simpa [Array.getElem?_eq_getElem hi] using q
  obtain ⟨i0, ei0⟩ := isL_v g20
  obtain rfl : w0 = (.long i0) := Option.some.inj ei0
  obtain ⟨i1, ei1⟩ := isL_v g22
  obtain rfl : w1 = (.long i1) := Option.some.inj ei1
  obtain ⟨i2, ei2⟩ := is_v g24
  obtain rfl : w2 = (.int i2) := Option.some.inj ei2
  obtain ⟨i3, ei3⟩ := is_v g26
  obtain rfl : w3 = (.int i3) := Option.some.inj ei3
  obtain ⟨i4, ei4⟩ := is_v g28
  obtain rfl : w4 = (.int i4) := Option.some.inj ei4
  obtain ⟨i5, ei5⟩ := is_v g29
  obtain rfl : w5 = (.int i5) := Option.some.inj ei5
  obtain ⟨n, o, h1, h2, h3, _, L, rfl, ⟨rfl, N⟩, hq⟩ := rm0 l s _ hw tables_1 i0 i1 i2 i3 i4 i5 s.heap s.heap.size (Nat.le_refl _) p e ha hc hk s m _ below hf ((Spec.applies_iff_loose hf).mp happ).1 ⟨rfl, State.Warmed39.refl s, rfl⟩ trivial
  refine ⟨n, _, h1, h2, h3, hpost _ _ _ _ _ _ ⟨Cond.after_iff.mpr rfl, Cond.after_iff.mpr (eq_i res_at (Term.int_eval (1)) rfl), trivial⟩ ⟨hq.1, hq.2.1, (hq.2.2.sift fun y hy => Or.inr (N y hy)).mono (by decide) (by decide)⟩⟩
theorem main_1_1 : Claimed_1_1 := comes_1 fun _ _ _ _ _ _ h hF => ⟨h.1, hF⟩
theorem main_1_2 : Claimed_1_2 := comes_1 fun _ _ _ _ _ _ h hF => ⟨h.2.1, hF⟩
end Jvm.Pilot.@@N@@
namespace Jvm.Pilot.@@N@@
open Jvm Jvm.ClassFile Sem Op Lib Jvm.Free Jvm.Stand Jvm.Pilot.@@N@@.Jvm.D
/-! MADE BY PROGRAM (witnessworld.py) out of the Statement's table words and the real class files: 9 classes; the members and pool entries that the words name. The judged class is class 1, her method 1. -/
namespace start1
open Jvm.ClassFile
def u (s : String) : CpInfo := .utf8 (stringToUtf16 s)
/-- a pool by its gaps: so many unusable entries, then the entry; so many at the end -/
def gap : Nat → List CpInfo → List CpInfo
  | 0, r => r
  | n + 1, r => .unusable :: gap n r
def poolList (es : List (Nat × CpInfo)) (last : Nat) : List CpInfo := es.foldr (fun e r => gap e.1 (e.2 :: r)) (gap last [])
def pool (es : List (Nat × CpInfo)) (last : Nat) : Array CpInfo := ⟨poolList es last⟩
def fileOf (pool : Array CpInfo) (this : Nat) (attrs : Array Attribute := #[]) (ms : Array MethodInfo := #[]) (fl : Nat := 33) (sup : Nat := 0) (ifs : Array Nat := #[]) (fds : Array FieldInfo := #[]) : ClassFile where
  minorVersion := 0
  majorVersion := 65
  constantPool := pool
  accessFlags := fl
  thisClass := this
  superClass := sup
  interfaces := ifs
  fields := fds
  methods := ms
  attributes := attrs
def plain (name : String) (sup : Option ClassId) : Class where
  name := name
  kind := .ordinary
  loader := none
  accessFlags := 33
  super := sup
  interfaces := #[]
  cf := none
  fields := #[]
  methods := #[]
  instanceTypes := #[]
  staticTypes := #[]
  resolved := #[]
  callSites := []
  init := .initialized
  statics := none
  mirror := none

def pool0 : Array CpInfo := pool [(5, u "<init>"), (0, u "()V"), (1, .class_ 10), (1, u "java/lang/Object")] 113

def k0m0 : Method := { name := "<init>", desc := "()V", sig := { parameters := [], returnType := none }, accessFlags := 1, code := none }
/-- java/lang/Object -/
def k0 : Class := { plain "java/lang/Object" none with
  accessFlags := 33
  interfaces := #[]
  cf := some (fileOf pool0 8 #[] #[{ accessFlags := 1, nameIndex := 5, descriptorIndex := 6, attributes := #[] }] 33 0 #[] #[])
  fields := #[]
  methods := #[k0m0]
  instanceTypes := #[]
  staticTypes := #[]
  resolved := Array.replicate 124 none
  statics := none }

def pool1 : Array CpInfo := pool [(2, .class_ 4), (1, u "java/lang/Object"), (0, u "<init>"), (0, u "()V"), (0, .methodref 8 9), (0, .class_ 10), (0, .nameAndType 11 12), (0, u "com/example/patras/patras/BloomFilterHashPinLaw"), (0, u "fill"), (0, u "([BJ)V"), (0, .integer 2147483647), (0, .methodref 8 15), (0, .nameAndType 16 17), (0, u "copy"), (0, u "([BI[BII)V"), (0, .methodref 19 20), (0, .class_ 21), (0, .nameAndType 22 23), (0, u "com/example/patras/patras/BloomFilter"), (0, u "hash"), (0, u "([BII)J"), (0, .long 14695981039346656037), (1, .long 1099511628211), (1, u "BASIS"), (0, u "J"), (1, u "PRIME"), (2, u "law"), (0, u "(JJIIII)Z")] 5

def k1m0 : Method := { name := "<init>", desc := "()V", sig := { parameters := [], returnType := none }, accessFlags := 1, code := none }
def k1c1 : Code := { maxStack := 7, maxLocals := 18, code := code, exceptionTable := #[], attributes := #[] }
def k1m1 : Method := { name := "law", desc := "(JJIIII)Z", sig := { parameters := [.long, .long, .int, .int, .int, .int], returnType := some .boolean }, accessFlags := 9, code := some k1c1 }
def k1c2 : Code := { maxStack := 5, maxLocals := 3, code := method_3_code, exceptionTable := #[], attributes := #[] }
def k1m2 : Method := { name := "fill", desc := "([BJ)V", sig := { parameters := [(.array .byte), .long], returnType := none }, accessFlags := 10, code := some k1c2 }
def k1c3 : Code := { maxStack := 5, maxLocals := 5, code := method_4_code, exceptionTable := #[], attributes := #[] }
def k1m3 : Method := { name := "copy", desc := "([BI[BII)V", sig := { parameters := [(.array .byte), .int, (.array .byte), .int, .int], returnType := none }, accessFlags := 10, code := some k1c3 }
/-- com/example/patras/patras/BloomFilterHashPinLaw -/
def k1 : Class := { plain "com/example/patras/patras/BloomFilterHashPinLaw" (some 0) with
  accessFlags := 49
  interfaces := #[]
  cf := some (fileOf pool1 8 #[] #[{ accessFlags := 1, nameIndex := 5, descriptorIndex := 6, attributes := #[] }, { accessFlags := 9, nameIndex := 34, descriptorIndex := 35, attributes := #[] }, { accessFlags := 10, nameIndex := 11, descriptorIndex := 12, attributes := #[] }, { accessFlags := 10, nameIndex := 16, descriptorIndex := 17, attributes := #[] }] 49 2 #[] #[{ accessFlags := 26, nameIndex := 28, descriptorIndex := 29, attributes := #[] }, { accessFlags := 26, nameIndex := 31, descriptorIndex := 29, attributes := #[] }])
  fields := #[{ name := "BASIS", type := .long, accessFlags := 26, slot := 0, constantValue := 0 }, { name := "PRIME", type := .long, accessFlags := 26, slot := 1, constantValue := 0 }]
  methods := #[k1m0, k1m1, k1m2, k1m3]
  instanceTypes := #[]
  staticTypes := #[.long, .long]
  resolved := Array.replicate 41 none
  statics := none }

def pool2 : Array CpInfo := pool [(2, .class_ 4), (1, u "java/lang/Object"), (3, .class_ 10), (1, u "com/example/patras/patras/BloomFilter"), (0, u "words"), (0, u "Lcom/example/patras/patras/PagedArray$Longs;"), (29, u "hash"), (0, u "([BII)J"), (4, .long 14695981039346656037), (1, .long 1099511628211), (46, u "BITS_PER_ITEM"), (0, u "I"), (2, u "PROBES"), (1, u "GOLDEN_GAMMA"), (0, u "J")] 15

def k2c0 : Code := { maxStack := 4, maxLocals := 6, code := prog_9_method_3_code, exceptionTable := #[], attributes := #[] }
def k2m0 : Method := { name := "hash", desc := "([BII)J", sig := { parameters := [(.array .byte), .int, .int], returnType := some .long }, accessFlags := 8, code := some k2c0 }
/-- com/example/patras/patras/BloomFilter -/
def k2 : Class := { plain "com/example/patras/patras/BloomFilter" (some 0) with
  accessFlags := 48
  interfaces := #[]
  cf := some (fileOf pool2 8 #[] #[{ accessFlags := 8, nameIndex := 42, descriptorIndex := 43, attributes := #[] }] 48 2 #[] #[{ accessFlags := 24, nameIndex := 97, descriptorIndex := 98, attributes := #[] }, { accessFlags := 24, nameIndex := 101, descriptorIndex := 98, attributes := #[] }, { accessFlags := 26, nameIndex := 103, descriptorIndex := 104, attributes := #[] }, { accessFlags := 18, nameIndex := 11, descriptorIndex := 12, attributes := #[] }])
  fields := #[{ name := "BITS_PER_ITEM", type := .int, accessFlags := 24, slot := 0, constantValue := 0 }, { name := "PROBES", type := .int, accessFlags := 24, slot := 1, constantValue := 0 }, { name := "GOLDEN_GAMMA", type := .long, accessFlags := 26, slot := 2, constantValue := 0 }, { name := "words", type := (.object "com/example/patras/patras/PagedArray$Longs"), accessFlags := 18, slot := 0, constantValue := 0 }]
  methods := #[k2m0]
  instanceTypes := #[(.object "com/example/patras/patras/PagedArray$Longs")]
  staticTypes := #[.int, .int, .long]
  resolved := Array.replicate 120 none
  statics := none }

def pool3 : Array CpInfo := pool [(1, u "java/lang/Cloneable"), (0, .class_ 1), (0, u "java/lang/Object"), (0, .class_ 3)] 3

/-- java/lang/Cloneable -/
def k3 : Class := { plain "java/lang/Cloneable" (some 0) with
  accessFlags := 1537
  interfaces := #[]
  cf := some (fileOf pool3 2 #[] #[] 1537 4 #[] #[])
  fields := #[]
  methods := #[]
  instanceTypes := #[]
  staticTypes := #[]
  resolved := Array.replicate 8 none
  statics := none }

def pool4 : Array CpInfo := pool [(1, u "java/io/Serializable"), (0, .class_ 1), (0, u "java/lang/Object"), (0, .class_ 3)] 3

/-- java/io/Serializable -/
def k4 : Class := { plain "java/io/Serializable" (some 0) with
  accessFlags := 1537
  interfaces := #[]
  cf := some (fileOf pool4 2 #[] #[] 1537 4 #[] #[])
  fields := #[]
  methods := #[]
  instanceTypes := #[]
  staticTypes := #[]
  resolved := Array.replicate 8 none
  statics := none }

/-- the primitive byte -/
def k5 : Class := { plain "byte" none with kind := .primitive 'B', accessFlags := 0x411 }
/-- [B -/
def k6 : Class := { plain "[B" (some 0) with kind := .array 5 .byte, interfaces := #[3, 4], accessFlags := 1041 }

/-- the primitive int -/
def k7 : Class := { plain "int" none with kind := .primitive 'I', accessFlags := 0x411 }
/-- [I -/
def k8 : Class := { plain "[I" (some 0) with kind := .array 7 .int, interfaces := #[3, 4], accessFlags := 1041 }

def heap : Heap := #[]
def classes : Array Class := #[k0, k1, k2, k3, k4, k5, k6, k7, k8]
def interned : List (Array UInt16 × Addr) := []
def slotsUsed : Nat := 0
def theMethod : MethodId := ⟨1, 1⟩
def args0 : Array Value := #[.long 5, .long 7, .int 1, .int 3, .int 2, .int 4]
def aboutOver (below : List Frame) : State where
  vm := { classes := classes, interned := interned.toArray }
  heap := heap
  slotsUsed := slotsUsed
  threads := #[{ frames := .invoking theMethod args0 :: below }]
def below0 : List Frame := [.native { method := ⟨0, 0⟩, args := #[] }]
def about1 : State := aboutOver below0
def p0 : Program := .bare "" "" ""
def e0 : Env := launch0.env 0 0 0
theorem w_frames : about1.frames = Frame.invoking theMethod args0 :: below0 := rfl
set_option maxRecDepth 65536 in
theorem w_args : argsFit about1.vm theMethod args0 = true := by decide +kernel
set_option maxRecDepth 65536 in
theorem w_heap : heapFits about1 = true := by decide +kernel
set_option maxRecDepth 65536 in
theorem w_runnable : about1.curStatus? = some .runnable := by decide +kernel
set_option maxRecDepth 65536 in
theorem w_alone : about1.alone = true := by decide +kernel
set_option maxRecDepth 65536 in
theorem w_named : about1.methodNamed? x = some theMethod := by decide +kernel
set_option maxRecDepth 65536 in
theorem w_hears : about1.hears theMethod below0 = true := by decide +kernel
set_option maxRecDepth 65536 in
theorem w_ripe : about1.ripe theMethod args0 below0 = true := by decide +kernel
theorem w_running : about1.status = .running := rfl
set_option maxRecDepth 65536 in
theorem w_room : about1.hasRoom e0.platform room_1 = true :=
  launch0.hasRoom_least _ room_1 (by decide +kernel) (by decide +kernel) (by decide +kernel) (by decide +kernel) (by decide +kernel) (by decide +kernel)
theorem allAtoms_all (ts : List Jvm.Cond) (a : Array Jvm.Value) (st : Jvm.State) : (allAtoms ts).before a st = ts.all (fun c => c.before a st) := by
  induction ts with
  | nil => rfl
  | cons c t ih =>
    show (Jvm.Cond.and c (allAtoms t)).before a st = _
    rw [Jvm.Cond.before_and, ih, List.all_cons]
def words1 : List Jvm.Cond := Jvm.Cond.code x code maxLocals ret :: tables_1
/-- a 'code' word, met by the world's own term for the bytes: nothing is compared byte by byte -/
theorem code_word {y : MethodName} {bytes : ByteArray} {mx : Nat} {rt : Option FieldType} {a : Array Value} {s : State} {m : MethodId} {meth : Method} {c : Code} (h1 : s.methodNamed? y = some m) (h2 : s.vm.method? m = some meth) (h3 : meth.code = some c) (h4 : c.code = bytes)
    (h5 : (c.maxLocals == mx && c.exceptionTable.isEmpty && decide (c.maxStack ≤ mostOperands) && decide (meth.sig.returnType = rt) && !meth.locks && decide (parseMethodDescriptor y.desc = some meth.sig)) = true) : (Jvm.Cond.code y bytes mx rt).before a s = true := by
  simp only [Bool.and_eq_true, beq_iff_eq, Bool.not_eq_true', decide_eq_true_eq] at h5
  obtain ⟨⟨⟨⟨⟨g1, g2⟩, g3⟩, g4⟩, g5⟩, g6⟩ := h5
  simp [Cond.before, Cond.holds, Cond.value, h1, h2, h3, h4, g1, g2, g3, g4, g5, g6]
def isCode : Jvm.Cond → Bool
  | .code _ _ _ _ => true
  | _ => false
theorem all_split {L : List Jvm.Cond} {P : Jvm.Cond → Bool} (h1 : L.all (fun c => isCode c || P c) = true) (h2 : ∀ c ∈ L.filter isCode, P c = true) : L.all P = true := by
  refine List.all_eq_true.mpr fun c hc => ?_
  have h := List.all_eq_true.mp h1 c hc
  rcases Bool.eq_false_or_eq_true (isCode c) with hi | hi
  · exact h2 c (List.mem_filter.mpr ⟨hc, hi⟩)
  · simpa [hi] using h
set_option maxRecDepth 65536 in
theorem w_c0 : (Jvm.Cond.code x code maxLocals ret).before args0 about1 = true := code_word (m := ⟨1, 1⟩) (meth := k1m1) (c := k1c1) (by decide +kernel) rfl rfl rfl (by decide +kernel)
set_option maxRecDepth 65536 in
theorem w_c1 : (Jvm.Cond.code ({ cls := "com/example/patras/patras/BloomFilterHashPinLaw", name := "fill", desc := "([BJ)V" } : Jvm.MethodName) method_3_code (3 : Nat) (Option.none : Option Jvm.ClassFile.FieldType)).before args0 about1 = true := code_word (m := ⟨1, 2⟩) (meth := k1m2) (c := k1c2) (by decide +kernel) rfl rfl rfl (by decide +kernel)
set_option maxRecDepth 65536 in
theorem w_c2 : (Jvm.Cond.code ({ cls := "com/example/patras/patras/BloomFilterHashPinLaw", name := "copy", desc := "([BI[BII)V" } : Jvm.MethodName) method_4_code (5 : Nat) (Option.none : Option Jvm.ClassFile.FieldType)).before args0 about1 = true := code_word (m := ⟨1, 3⟩) (meth := k1m3) (c := k1c3) (by decide +kernel) rfl rfl rfl (by decide +kernel)
set_option maxRecDepth 65536 in
theorem w_c3 : (Jvm.Cond.code ({ cls := "com/example/patras/patras/BloomFilter", name := "hash", desc := "([BII)J" } : Jvm.MethodName) prog_9_method_3_code (6 : Nat) (Option.some Jvm.ClassFile.FieldType.long)).before args0 about1 = true := code_word (m := ⟨2, 0⟩) (meth := k2m0) (c := k2c0) (by decide +kernel) rfl rfl rfl (by decide +kernel)
def codes1 : List Jvm.Cond := [Jvm.Cond.code x code maxLocals ret, Jvm.Cond.code ({ cls := "com/example/patras/patras/BloomFilterHashPinLaw", name := "fill", desc := "([BJ)V" } : Jvm.MethodName) method_3_code (3 : Nat) (Option.none : Option Jvm.ClassFile.FieldType), Jvm.Cond.code ({ cls := "com/example/patras/patras/BloomFilterHashPinLaw", name := "copy", desc := "([BI[BII)V" } : Jvm.MethodName) method_4_code (5 : Nat) (Option.none : Option Jvm.ClassFile.FieldType), Jvm.Cond.code ({ cls := "com/example/patras/patras/BloomFilter", name := "hash", desc := "([BII)J" } : Jvm.MethodName) prog_9_method_3_code (6 : Nat) (Option.some Jvm.ClassFile.FieldType.long)]
set_option maxRecDepth 65536 in
theorem codes_eq : words1.filter isCode = codes1 := rfl
theorem w_codes : ∀ c ∈ words1.filter isCode, c.before args0 about1 = true := by
  rw [codes_eq]
  intro c hc
  simp only [codes1, List.mem_cons, List.not_mem_nil, or_false] at hc
  rcases hc with rfl | rfl | rfl | rfl
  · exact w_c0
  · exact w_c1
  · exact w_c2
  · exact w_c3
set_option maxRecDepth 65536 in
theorem w_t1 : words1.all (fun c => isCode c || c.before args0 about1) = true := by decide +kernel
theorem w_tables : (allAtoms (Jvm.Cond.code x code maxLocals ret :: tables_1)).before args0 about1 = true := by
  rw [allAtoms_all]
  show words1.all (fun c => c.before args0 about1) = true
  refine all_split ?_ w_codes
  rw [w_t1]
set_option maxRecDepth 65536 in
theorem w_case : (Jvm.Cond.and given_1 narrow_1).before args0 about1 = true := by decide +kernel
theorem w_applies : (headSpec (Jvm.Cond.code x code maxLocals ret :: tables_1) room_1).applies x e0.platform about1 = true :=
  (Spec.applies_iff w_frames).mpr ⟨w_running, w_runnable, w_alone, w_named, w_hears, w_ripe, w_room, w_tables⟩
theorem atStart : AtStart classFile x code maxLocals ret World_1 tables_1 room_1 Calls_1 rest_1 Pre_1 launch0 p0 e0 about1 theMethod args0 below0 :=
  ⟨lists_1, trivial, launch0.admits_env _ _ _, launch0.least_env, fairChoices_fair.cas, fairChoices_fair.clock, w_frames, w_args, w_heap, w_applies, trivial, trivial, w_case⟩
end start1
theorem witness_1 : WitnessClaimed_1 := ⟨start1.p0, start1.e0, start1.about1, start1.theMethod, start1.args0, start1.below0, start1.atStart⟩
end Jvm.Pilot.@@N@@
