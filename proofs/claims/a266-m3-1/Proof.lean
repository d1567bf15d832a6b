import JvmDerived
import JvmDerived.Pilot.@@N@@Statement
import JvmDerived.Pilot.@@N@@Code
set_option linter.unusedVariables false
set_option linter.unusedSimpArgs false
namespace Jvm.RoadKit
open Sem ClassFile Op Lib Jvm.Stand Jvm.Free Jvm.LawKit
section New
variable {p : Program} {l : Launch} {e : Env} {R : Room} {s : State} {m : MethodId} {args : Array Value} {below : List Frame} {meth : Method} {c : Code} {T : State} {locs : List Loc} {cells slots : Nat}
theorem retI (X : Stand p l e R s m args below meth c T locs cells slots) (hx : p.tables.exec = Jvm.exec) {pc : Nat} {Ls : Array Slot} {z : Int32} {rest : List Value} (hret : meth.sig.returnType = some .int) (hd : decode c.code pc = .ok (.ireturn, 1)) {fs : List Frame}
    (hl : ∀ (f : JFrame) (acts : List Action), f.method = m → f.locked = none → f.entered = [] → (doReturn e (T.setTop f) acts (some (.int z))).1 = T.setFrames fs) : Steps p.tables e below (T.setTop (mkF m pc Ls (.int z :: rest))) (T.setFrames fs) := by
  have hm' : T.vm.method? m = some meth := X.method'
  have hn : narrow .int (.int z) = .int z := rfl
  show Steps p.tables e below (T.setTop { method := m, pc := pc, locals := Ls, stack := _ :: rest, locked := none }) _
  jvm_step X.here [X.here.top, hx, hd, hm', hret, hn]
  first | (intro acts; rw [hl _ acts rfl rfl rfl]) | rw [hl _ _ rfl rfl rfl]
  exact Steps.refl _
end New
end Jvm.RoadKit
namespace Jvm.Pilot.@@N@@
open Jvm Jvm.ClassFile Sem Op Lib Jvm.Free Jvm.Stand Jvm.LawKit Jvm.RoadKit Bundle Jvm.Pilot.@@N@@.Jvm.D
/-- an array of n components, the i-th holding f i -/
def own_Ar (Z : State) (h : Heap) (a : Addr) (ty : FieldType) (n : Nat) (f : Nat → Value) : Prop :=
  ∃ c : Cell, Arr Z h a c ty ∧ c.slots.size = n ∧ n < 2147483648 ∧ (∀ i, i < n → c.slots[i]? = some (f i)) ∧ ∀ i, i < n → fits ty (f i) = true
theorem own_nat {j : Int32} (q : 0 ≤ j.toInt) : (j.toNatClampNeg : Int) = j.toInt := by
  simp only [Int32.toNatClampNeg]; omega
theorem own_lt0 {j : Int32} (q : 0 ≤ j.toInt) : ¬ j < 0 := by
  rw [Int32.lt_iff_toInt_lt]; have : (0 : Int32).toInt = 0 := rfl; omega
theorem own_ge0 {j : Int32} (q : ¬ j < 0) : 0 ≤ j.toInt := by
  rw [Int32.lt_iff_toInt_lt] at q; have : (0 : Int32).toInt = 0 := rfl; omega
theorem own_Ar.lt {Z : State} {h : Heap} {a : Addr} {ty : FieldType} {n : Nat} {f : Nat → Value} (F : own_Ar Z h a ty n f) : a < h.size := by obtain ⟨c, A, -⟩ := F; exact A.lt
theorem own_Ar.ext {Z : State} {h h' : Heap} {a : Addr} {ty : FieldType} {n : Nat} {f : Nat → Value} (F : own_Ar Z h a ty n f) (E : Ext h h') : own_Ar Z h' a ty n f := by obtain ⟨c, A, r⟩ := F; exact ⟨c, A.ext E, r⟩
theorem own_Ar.other {Z : State} {h h' : Heap} {a b : Addr} {sl : Nat} {v : Value} {ty : FieldType} {n : Nat} {f : Nat → Value} (F : own_Ar Z h b ty n f) (W : Wr h h' a sl v) (q : b ≠ a) : own_Ar Z h' b ty n f := by obtain ⟨c, A, r⟩ := F; exact ⟨c, A.other W q, r⟩
theorem own_Ar.keep {Z : State} {h h' : Heap} {a : Addr} {ws : List Addr} {ty : FieldType} {n : Nat} {f : Nat → Value} (F : own_Ar Z h a ty n f) (K : Keep h h' ws) (q : a ∉ ws) : own_Ar Z h' a ty n f := by obtain ⟨c, A, r⟩ := F; exact ⟨c, ⟨K.2.1 a c A.1 q, A.2⟩, r⟩
theorem own_Ar.eq {Z : State} {h : Heap} {a : Addr} {ty : FieldType} {n : Nat} {f g : Nat → Value} (F : own_Ar Z h a ty n f) (q : ∀ i, i < n → f i = g i) : own_Ar Z h a ty n g := by
  obtain ⟨c, A, r1, r2, r3, r4⟩ := F
  exact ⟨c, A, r1, r2, fun i hi => by rw [← q i hi]; exact r3 i hi, fun i hi => by rw [← q i hi]; exact r4 i hi⟩
theorem own_Ar.size {Z : State} {h : Heap} {a : Addr} {ty : FieldType} {n m : Nat} {f : Nat → Value} (F : own_Ar Z h a ty n f) (q : n = m) : own_Ar Z h a ty m f := q ▸ F
theorem own_fits_default (ty : FieldType) : fits ty (defaultValue ty) = true := by cases ty <;> rfl
/-- a new array -/
theorem own_Ar.new {Z : State} {h : Heap} {a : Addr} {k : ClassId} {ty : FieldType} {z : Int32} {n : Nat} (A : Arr Z h a (newA k ty z) ty) (q : z.toInt = n) : own_Ar Z h a ty n (fun _ => defaultValue ty) := by
  have e : z.toNatClampNeg = n := by have := own_nat (j := z) (by omega); omega
  obtain ⟨c, A', q1, S, q3, H, G⟩ := Arv.new A (own_lt0 (by omega))
  have r := z.toInt_lt
  refine ⟨c, A', S.trans e, by omega, fun i hi => by rw [H i (by omega)]; rfl, fun i hi => own_fits_default ty⟩
/-- a component read -/
theorem own_Ar.at {Z : State} {h : Heap} {a : Addr} {ty : FieldType} {n : Nat} {f : Nat → Value} (F : own_Ar Z h a ty n f) {j : Int32} {i : Nat} (hj : j.toInt = i) (hi : i < n) :
    ∃ c : Cell, Arr Z h a c ty ∧ ¬ (j < 0 ∨ c.slots.size ≤ j.toNatClampNeg) ∧ c.slots[j.toNatClampNeg]? = some (f i) := by
  obtain ⟨c, A, r1, r2, r3, r4⟩ := F
  have e : j.toNatClampNeg = i := by have := own_nat (j := j) (by omega); omega
  refine ⟨c, A, fun q => q.elim (own_lt0 (by omega)) (fun u => by omega), by rw [e]; exact r3 i hi⟩
/-- its length -/
theorem own_Ar.len {Z : State} {h : Heap} {a : Addr} {ty : FieldType} {n : Nat} {f : Nat → Value} (F : own_Ar Z h a ty n f) : ∃ c : Cell, Arr Z h a c ty ∧ c.slots.size.toInt32 = Int32.ofNat n ∧ n < 2147483648 := by
  obtain ⟨c, A, r1, r2, r3, r4⟩ := F
  exact ⟨c, A, by rw [r1], r2⟩
theorem own_ofNat {n : Nat} (h : n < 2147483648) : (Int32.ofNat n).toInt = n := Int32.toInt_ofNat_of_lt (by omega)
/-- a component written -/
theorem own_Ar.set {Z : State} {h h' : Heap} {a : Addr} {ty : FieldType} {n : Nat} {f : Nat → Value} {v : Value} (F : own_Ar Z h a ty n f) {j : Int32} {i : Nat} (hj : j.toInt = i) (W : Wr h h' a j.toNatClampNeg v) (hv : fits ty v = true) :
    own_Ar Z h' a ty n (fun k => if k = i then v else f k) := by
  obtain ⟨c, A, r1, r2, r3, r4⟩ := F
  have e : j.toNatClampNeg = i := by have := own_nat (j := j) (by omega); omega
  obtain ⟨c', q1, q2, q3, q4, q5, q6, q7⟩ := wr_at W A.1
  obtain ⟨q8, q9, q10⟩ := q7 rfl
  have A' := A.same W
  rw [← q8] at A'
  refine ⟨c', A', q4.trans r1, r2, fun k hk => ?_, fun k hk => ?_⟩ <;> dsimp only
  · by_cases u : k = i
    · subst u; rw [if_pos rfl, ← e]; exact q9
    · rw [if_neg u, q6 k (by omega)]; exact r3 k hk
  · by_cases u : k = i
    · rw [if_pos u]; exact hv
    · rw [if_neg u]; exact r4 k hk
theorem own_ins {j : Int32} {n i : Nat} {c : Cell} (r1 : c.slots.size = n) (hj : j.toInt = i) (hi : i < n) : ¬ (j < 0 ∨ c.slots.size ≤ j.toNatClampNeg) := by
  have e : j.toNatClampNeg = i := by have := own_nat (j := j) (by omega); omega
  exact fun q => q.elim (own_lt0 (by omega)) (fun u => by omega)
theorem own_six (y : Int64) : y * 6 = y + y + y + y + y + y := by
  have : (6 : Int64) = 1 + 1 + 1 + 1 + 1 + 1 := by decide
  rw [this]; simp only [Int64.mul_add, Int64.mul_one]
def own_at (q1 q2 : Int64) (kn j : Nat) : Int64 := if j = kn then q1 else q2
theorem own_at_v (q1 q2 : Int64) (kn j : Nat) : (if j = kn then q1 else q2) = own_at q1 q2 kn j := rfl
theorem own_tot (q1 q2 : Int64) : ∀ kn : Nat, kn < 7 → own_at q1 q2 kn 0 + own_at q1 q2 kn 1 + own_at q1 q2 kn 2 + own_at q1 q2 kn 3 + own_at q1 q2 kn 4 + own_at q1 q2 kn 5 + own_at q1 q2 kn 6 = q1 + q2 * 6 := by
  intro kn h
  rw [own_six]
  match kn, h with
  | 0, _ => show q1 + q2 + q2 + q2 + q2 + q2 + q2 = _; ac_rfl
  | 1, _ => show q2 + q1 + q2 + q2 + q2 + q2 + q2 = _; ac_rfl
  | 2, _ => show q2 + q2 + q1 + q2 + q2 + q2 + q2 = _; ac_rfl
  | 3, _ => show q2 + q2 + q2 + q1 + q2 + q2 + q2 = _; ac_rfl
  | 4, _ => show q2 + q2 + q2 + q2 + q1 + q2 + q2 = _; ac_rfl
  | 5, _ => show q2 + q2 + q2 + q2 + q2 + q1 + q2 = _; ac_rfl
  | 6, _ => show q2 + q2 + q2 + q2 + q2 + q2 + q1 = _; ac_rfl
def own_k (p3 : Int32) : Int32 := (p3 &&& (2147483647 : Int32)) % (7 : Int32)
theorem own_k_is (p3 : Int32) : ∃ kn : Nat, kn < 7 ∧ ((p3 &&& (2147483647 : Int32)) % (7 : Int32)).toInt = kn := by
  have a := c_and p3 2147483647 (by decide)
  have b := (c_irem (p3 &&& 2147483647) 7 7 rfl).1 a.1
  refine ⟨((p3 &&& (2147483647 : Int32)) % (7 : Int32)).toInt.toNat, ?_, ?_⟩ <;> omega
theorem own_ite (q1 q2 : Int64) (kn j : Nat) : (if j = kn then Value.long q1 else Value.long q2) = Value.long (own_at q1 q2 kn j) := by
  unfold own_at; split <;> rfl
theorem pd_0 : parseMethodDescriptor "(JJJJJJJ)V" = some ⟨[.long, .long, .long, .long, .long, .long, .long], none⟩ := by decide +kernel
theorem pd_1 : parseMethodDescriptor "()V" = some ⟨[], none⟩ := by decide +kernel
theorem pd_2 : parseMethodDescriptor "()J" = some ⟨[], some .long⟩ := by decide +kernel
theorem d1_0 : decode prog_118_method_1_code 0 = .ok (.aload_n 0, 1) := by decide +kernel
theorem d1_1 : decode prog_118_method_1_code 1 = .ok (.invokespecial 1, 3) := by decide +kernel
theorem d1_4 : decode prog_118_method_1_code 4 = .ok (.aload_n 0, 1) := by decide +kernel
theorem d1_5 : decode prog_118_method_1_code 5 = .ok (.lload_n 1, 1) := by decide +kernel
theorem d1_6 : decode prog_118_method_1_code 6 = .ok (.putfield 7, 3) := by decide +kernel
theorem d1_9 : decode prog_118_method_1_code 9 = .ok (.aload_n 0, 1) := by decide +kernel
theorem d1_10 : decode prog_118_method_1_code 10 = .ok (.lload_n 3, 1) := by decide +kernel
theorem d1_11 : decode prog_118_method_1_code 11 = .ok (.putfield 13, 3) := by decide +kernel
theorem d1_14 : decode prog_118_method_1_code 14 = .ok (.aload_n 0, 1) := by decide +kernel
theorem d1_15 : decode prog_118_method_1_code 15 = .ok (.lload 5, 2) := by decide +kernel
theorem d1_17 : decode prog_118_method_1_code 17 = .ok (.putfield 16, 3) := by decide +kernel
theorem d1_20 : decode prog_118_method_1_code 20 = .ok (.aload_n 0, 1) := by decide +kernel
theorem d1_21 : decode prog_118_method_1_code 21 = .ok (.lload 7, 2) := by decide +kernel
theorem d1_23 : decode prog_118_method_1_code 23 = .ok (.putfield 19, 3) := by decide +kernel
theorem d1_26 : decode prog_118_method_1_code 26 = .ok (.aload_n 0, 1) := by decide +kernel
theorem d1_27 : decode prog_118_method_1_code 27 = .ok (.lload 9, 2) := by decide +kernel
theorem d1_29 : decode prog_118_method_1_code 29 = .ok (.putfield 22, 3) := by decide +kernel
theorem d1_32 : decode prog_118_method_1_code 32 = .ok (.aload_n 0, 1) := by decide +kernel
theorem d1_33 : decode prog_118_method_1_code 33 = .ok (.lload 11, 2) := by decide +kernel
theorem d1_35 : decode prog_118_method_1_code 35 = .ok (.putfield 25, 3) := by decide +kernel
theorem d1_38 : decode prog_118_method_1_code 38 = .ok (.aload_n 0, 1) := by decide +kernel
theorem d1_39 : decode prog_118_method_1_code 39 = .ok (.lload 13, 2) := by decide +kernel
theorem d1_41 : decode prog_118_method_1_code 41 = .ok (.putfield 28, 3) := by decide +kernel
theorem d1_44 : decode prog_118_method_1_code 44 = .ok (.return_, 1) := by decide +kernel
theorem pn_1 : plainName "com/example/termwright/termwright/PartSizes" = true := by first | (simp [plainName, overriddenIn]; done) | decide +kernel
theorem d2_0 : decode jdk_30_method_1_code 0 = .ok (.aload_n 0, 1) := by decide +kernel
theorem d2_1 : decode jdk_30_method_1_code 1 = .ok (.invokespecial 1, 3) := by decide +kernel
theorem d2_4 : decode jdk_30_method_1_code 4 = .ok (.return_, 1) := by decide +kernel
theorem pn_2 : plainName "java/lang/Record" = true := by first | (simp [plainName, overriddenIn]; done) | decide +kernel
theorem d4_0 : decode prog_118_method_2_code 0 = .ok (.aload_n 0, 1) := by decide +kernel
theorem d4_1 : decode prog_118_method_2_code 1 = .ok (.getfield 7, 3) := by decide +kernel
theorem d4_4 : decode prog_118_method_2_code 4 = .ok (.aload_n 0, 1) := by decide +kernel
theorem d4_5 : decode prog_118_method_2_code 5 = .ok (.getfield 13, 3) := by decide +kernel
theorem d4_8 : decode prog_118_method_2_code 8 = .ok (.ladd, 1) := by decide +kernel
theorem d4_9 : decode prog_118_method_2_code 9 = .ok (.aload_n 0, 1) := by decide +kernel
theorem d4_10 : decode prog_118_method_2_code 10 = .ok (.getfield 16, 3) := by decide +kernel
theorem d4_13 : decode prog_118_method_2_code 13 = .ok (.ladd, 1) := by decide +kernel
theorem d4_14 : decode prog_118_method_2_code 14 = .ok (.aload_n 0, 1) := by decide +kernel
theorem d4_15 : decode prog_118_method_2_code 15 = .ok (.getfield 19, 3) := by decide +kernel
theorem d4_18 : decode prog_118_method_2_code 18 = .ok (.ladd, 1) := by decide +kernel
theorem d4_19 : decode prog_118_method_2_code 19 = .ok (.aload_n 0, 1) := by decide +kernel
theorem d4_20 : decode prog_118_method_2_code 20 = .ok (.getfield 22, 3) := by decide +kernel
theorem d4_23 : decode prog_118_method_2_code 23 = .ok (.ladd, 1) := by decide +kernel
theorem d4_24 : decode prog_118_method_2_code 24 = .ok (.aload_n 0, 1) := by decide +kernel
theorem d4_25 : decode prog_118_method_2_code 25 = .ok (.getfield 25, 3) := by decide +kernel
theorem d4_28 : decode prog_118_method_2_code 28 = .ok (.ladd, 1) := by decide +kernel
theorem d4_29 : decode prog_118_method_2_code 29 = .ok (.aload_n 0, 1) := by decide +kernel
theorem d4_30 : decode prog_118_method_2_code 30 = .ok (.getfield 28, 3) := by decide +kernel
theorem d4_33 : decode prog_118_method_2_code 33 = .ok (.ladd, 1) := by decide +kernel
theorem d4_34 : decode prog_118_method_2_code 34 = .ok (.lreturn, 1) := by decide +kernel
theorem pn_4 : plainName "com/example/termwright/termwright/PartSizes" = true := by first | (simp [plainName, overriddenIn]; done) | decide +kernel
theorem pn_0 : plainName "com/example/termwright/termwright/PartSizesTotalPinLaw" = true := by first | (simp [plainName, overriddenIn]; done) | decide +kernel
theorem ef_rm2 (m : MethodId) (x0 : Addr) : entryFrame m #[(.ref x0)] 1 = mkF m 0 #[.val (.ref x0)] [] := by first | (simp [entryFrame, mkF, argsToLocals, Value.category]; done) | rfl
def Q2 (Z : State) (a1 : Addr) (h0 : Heap) (n0 : Nat) (v : Option Value) (h : Heap) (L : List Loc) : Prop := v = none ∧ Fr n0 L ∧ h = h0
set_option maxRecDepth 65536 in
set_option maxHeartbeats 40000000 in
theorem rm2 (l : Launch) (Z : State) (a0 : Array Value) (hw : ∀ d ∈ tables_1, d.before a0 Z = true) (ws : List Jvm.Cond) (a1 : Addr) (h0 : Heap) (n0 : Nat) (Z0 : n0 ≤ h0.size) :
    MetFree l (⟨"java/lang/Record", "<init>", "()V"⟩ : MethodName) (head1 (Jvm.Cond.code (⟨"java/lang/Record", "<init>", "()V"⟩ : MethodName) jdk_30_method_1_code 1 none :: ws) ({ frames := 1, cells := 0, slots := 0, locals := 12 } : Room)) (fun a U => a = #[(.ref a1)] ∧ Z.Warmed39 U.vm ∧ U.heap = h0) (fun _ _ _ _ _ => True) (fun _ U o U' => ∃ v L, o = .returned v ∧ Q2 Z a1 h0 n0 v U'.heap L ∧ FrameEnd U o U' L ({ frames := 1, cells := 0, slots := 0, locals := 12 } : Room).cells ({ frames := 1, cells := 0, slots := 0, locals := 12 } : Room).slots) := by
  refine MetFree.of_bodySF (plainFor_of_name pn_2) hisR ?_
  intro p e s m args below meth c s₁ Bd hml0 hP hK
  obtain ⟨rfl, hZ, hh⟩ := hP
  have hx := Bd.exec
  have hby := Bd.bytes
  have hml : c.maxLocals = 1 := hml0
  have hown : s.vm.findClass "java/lang/Record" = some m.cls := findClass_of_methodNamed Bd.named
  have hnm := (name_of_methodNamed Bd.named Bd.method).1
  have X0 : Stand p l e ({ frames := 1, cells := 0, slots := 0, locals := 12 } : Room) s m #[(.ref a1)] below meth c s₁ [] 0 0 := Stand.of_body Bd
  have e0 : s₁.heap = h0 := by rw [← hh, Bd.state]; rfl
  have N0 := Fr.nil n0
  have a0s : ∀ t, Steps p.tables e below (s₁.setTop (mkF m 0 #[.val (.ref a1)] [])) t → Steps p.tables e below (s₁.setTop (entryFrame m #[(.ref a1)] 1)) t := fun t k => castTop (ef_rm2 m a1) k
  have ac1 : ∀ t, Steps p.tables e below (s₁.setTop (mkF m 1 #[.val (.ref a1)] [(.ref a1)])) t → Steps p.tables e below (s₁.setTop (entryFrame m #[(.ref a1)] 1)) t := fun t k => a0s t (by
      show Steps p.tables e below (s₁.setTop (mkF m 0 #[.val (.ref a1)] [])) _
      refine XS.aloadN X0.here hx rfl (hb hby d2_0) rfl rfl ?_
      exact k)
  obtain ⟨T2, X2, e2, st2⟩ := initO X0 hx hZ hown (hw _ (List.mem_of_getElem? (i := 13) rfl)) (hw _ (List.mem_of_getElem? (i := 14) rfl)) (hw _ (List.mem_of_getElem? (i := 15) rfl)) e0 (g := (mkF m 1 #[.val (.ref a1)] [(.ref a1)])) rfl (by rw [hml]; rfl) rfl (hb hby d2_1) (by decide) (W := 0) (by show 2 * 0 + _ ≤ _; exact Nat.le_of_eq rfl) (by decide)
  have ac3 : ∀ t, Steps p.tables e below (T2.setTop (mkF m 4 #[.val (.ref a1)] [])) t → Steps p.tables e below (s₁.setTop (entryFrame m #[(.ref a1)] 1)) t := fun t k => ac1 t (st2 t k)
  obtain ⟨fs, hr, hrun, hended, hW, hsame⟩ := X2.leave (v := none) (fun _ => rfl)
  refine ⟨_, _, ac3 _ ?_, hrun, hended, _, _, rfl, ?_, ⟨_, rfl⟩, hW, hsame.mono (by decide) (by decide)⟩
  · show Steps p.tables e below (T2.setTop (mkF m 4 #[.val (.ref a1)] [])) _
    exact X2.returnOut hx Bd.returns (hb hby d2_4) hr
  · show Q2 Z a1 h0 n0 _ T2.heap _
    rw [e2]
    exact ⟨rfl, N0, rfl⟩
theorem ef_rm1 (m : MethodId) (x0 : Addr) (x1 : Int64) (x2 : Int64) (x3 : Int64) (x4 : Int64) (x5 : Int64) (x6 : Int64) (x7 : Int64) : entryFrame m #[(.ref x0), (.long x1), (.long x2), (.long x3), (.long x4), (.long x5), (.long x6), (.long x7)] 15 = mkF m 0 #[.val (.ref x0), .val (.long x1), .second, .val (.long x2), .second, .val (.long x3), .second, .val (.long x4), .second, .val (.long x5), .second, .val (.long x6), .second, .val (.long x7), .second] [] := by first | (simp [entryFrame, mkF, argsToLocals, Value.category]; done) | rfl
def Q1 (Z : State) (a1 : Addr) (q1 : Int64) (q2 : Int64) (q3 : Int64) (q4 : Int64) (q5 : Int64) (q6 : Int64) (q7 : Int64) (h0 : Heap) (n0 : Nat) (v : Option Value) (h : Heap) (L : List Loc) : Prop := v = none ∧ Fr n0 L ∧ Keep h0 h [a1] ∧ Exa Z h a1 "com/example/termwright/termwright/PartSizes" ∧ Fld Z h a1 "com/example/termwright/termwright/PartSizes" "stored" "J" (.long q1) ∧ Fld Z h a1 "com/example/termwright/termwright/PartSizes" "postings" "J" (.long q2) ∧ Fld Z h a1 "com/example/termwright/termwright/PartSizes" "dictionary" "J" (.long q3) ∧ Fld Z h a1 "com/example/termwright/termwright/PartSizes" "lengths" "J" (.long q4) ∧ Fld Z h a1 "com/example/termwright/termwright/PartSizes" "numbers" "J" (.long q5) ∧ Fld Z h a1 "com/example/termwright/termwright/PartSizes" "sort" "J" (.long q6) ∧ Fld Z h a1 "com/example/termwright/termwright/PartSizes" "other" "J" (.long q7)
set_option maxRecDepth 65536 in
set_option maxHeartbeats 40000000 in
theorem rm1 (l : Launch) (Z : State) (a0 : Array Value) (hw : ∀ d ∈ tables_1, d.before a0 Z = true) (ws : List Jvm.Cond) (a1 : Addr) (q1 : Int64) (q2 : Int64) (q3 : Int64) (q4 : Int64) (q5 : Int64) (q6 : Int64) (q7 : Int64) (h0 : Heap) (n0 : Nat) (Z0 : n0 ≤ h0.size) (E1 : Exa Z h0 a1 "com/example/termwright/termwright/PartSizes") (g_a1 : n0 ≤ a1) (F0 : Fld Z h0 a1 "com/example/termwright/termwright/PartSizes" "stored" "J" (.long 0)) (F1 : Fld Z h0 a1 "com/example/termwright/termwright/PartSizes" "postings" "J" (.long 0)) (F2 : Fld Z h0 a1 "com/example/termwright/termwright/PartSizes" "dictionary" "J" (.long 0)) (F3 : Fld Z h0 a1 "com/example/termwright/termwright/PartSizes" "lengths" "J" (.long 0)) (F4 : Fld Z h0 a1 "com/example/termwright/termwright/PartSizes" "numbers" "J" (.long 0)) (F5 : Fld Z h0 a1 "com/example/termwright/termwright/PartSizes" "sort" "J" (.long 0)) (F6 : Fld Z h0 a1 "com/example/termwright/termwright/PartSizes" "other" "J" (.long 0)) :
    MetFree l (⟨"com/example/termwright/termwright/PartSizes", "<init>", "(JJJJJJJ)V"⟩ : MethodName) (head1 (Jvm.Cond.code (⟨"com/example/termwright/termwright/PartSizes", "<init>", "(JJJJJJJ)V"⟩ : MethodName) prog_118_method_1_code 15 none :: ws) ({ frames := 2, cells := 0, slots := 0, locals := 24 } : Room)) (fun a U => a = #[(.ref a1), (.long q1), (.long q2), (.long q3), (.long q4), (.long q5), (.long q6), (.long q7)] ∧ Z.Warmed39 U.vm ∧ U.heap = h0) (fun _ _ _ _ _ => True) (fun _ U o U' => ∃ v L, o = .returned v ∧ Q1 Z a1 q1 q2 q3 q4 q5 q6 q7 h0 n0 v U'.heap L ∧ FrameEnd U o U' L ({ frames := 2, cells := 0, slots := 0, locals := 24 } : Room).cells ({ frames := 2, cells := 0, slots := 0, locals := 24 } : Room).slots) := by
  refine MetFree.of_bodySF (plainFor_of_name pn_1) hisR ?_
  intro p e s m args below meth c s₁ Bd hml0 hP hK
  obtain ⟨rfl, hZ, hh⟩ := hP
  have hx := Bd.exec
  have hby := Bd.bytes
  have hml : c.maxLocals = 15 := hml0
  have hown : s.vm.findClass "com/example/termwright/termwright/PartSizes" = some m.cls := findClass_of_methodNamed Bd.named
  have hnm := (name_of_methodNamed Bd.named Bd.method).1
  have X0 : Stand p l e ({ frames := 2, cells := 0, slots := 0, locals := 24 } : Room) s m #[(.ref a1), (.long q1), (.long q2), (.long q3), (.long q4), (.long q5), (.long q6), (.long q7)] below meth c s₁ [] 0 0 := Stand.of_body Bd
  have e0 : s₁.heap = h0 := by rw [← hh, Bd.state]; rfl
  have N0 := Fr.nil n0
  have a0s : ∀ t, Steps p.tables e below (s₁.setTop (mkF m 0 #[.val (.ref a1), .val (.long q1), .second, .val (.long q2), .second, .val (.long q3), .second, .val (.long q4), .second, .val (.long q5), .second, .val (.long q6), .second, .val (.long q7), .second] [])) t → Steps p.tables e below (s₁.setTop (entryFrame m #[(.ref a1), (.long q1), (.long q2), (.long q3), (.long q4), (.long q5), (.long q6), (.long q7)] 15)) t := fun t k => castTop (ef_rm1 m a1 q1 q2 q3 q4 q5 q6 q7) k
  have ac1 : ∀ t, Steps p.tables e below (s₁.setTop (mkF m 1 #[.val (.ref a1), .val (.long q1), .second, .val (.long q2), .second, .val (.long q3), .second, .val (.long q4), .second, .val (.long q5), .second, .val (.long q6), .second, .val (.long q7), .second] [(.ref a1)])) t → Steps p.tables e below (s₁.setTop (entryFrame m #[(.ref a1), (.long q1), (.long q2), (.long q3), (.long q4), (.long q5), (.long q6), (.long q7)] 15)) t := fun t k => a0s t (by
      show Steps p.tables e below (s₁.setTop (mkF m 0 #[.val (.ref a1), .val (.long q1), .second, .val (.long q2), .second, .val (.long q3), .second, .val (.long q4), .second, .val (.long q5), .second, .val (.long q6), .second, .val (.long q7), .second] [])) _
      refine XS.aloadN X0.here hx rfl (hb hby d1_0) rfl rfl ?_
      exact k)
  obtain ⟨_, _, ⟨T2, L2, k2, n2⟩, -, X2, ⟨Lc2, hQ2, l2, y2, z2⟩, st2⟩ := X0.specialBack hx (y := (⟨"java/lang/Record", "<init>", "()V"⟩ : MethodName)) rfl hown (mvT hZ (hw _ (List.mem_of_getElem? (i := 8) rfl))) (mvT hZ (hw _ (List.mem_of_getElem? (i := 9) rfl))) (mvT hZ (hw _ (List.mem_of_getElem? (i := 12) rfl))) (by decide) (backOf (W := 0) (rm2 l Z a0 hw [] a1  h0 n0 Z0 ) hZ (hw _ (List.mem_of_getElem? (i := 12) rfl)) (hw _ (List.mem_of_getElem? (i := 11) rfl)) (by decide) (by decide)) (g := (mkF m 1 #[.val (.ref a1), .val (.long q1), .second, .val (.long q2), .second, .val (.long q3), .second, .val (.long q4), .second, .val (.long q5), .second, .val (.long q6), .second, .val (.long q7), .second] [(.ref a1)])) rfl (by rw [hml]; rfl) (Steps.refl _) (a := a1) (argsL := []) (rest := []) (lenOf pd_1 rfl) rfl (by show 2 * 0 + _ ≤ _; exact Nat.le_of_eq rfl) (hb hby d1_1) (fun _ _ => ⟨rfl, e0, (by decide : 0 + 0 ≤ _), (by decide : 0 + 0 ≤ _)⟩)
  dsimp only [Pt.U, Pt.locs, Pt.cells, Pt.slots] at X2 l2 y2 z2 st2 hQ2
  subst l2 y2 z2
  obtain ⟨rfl, N2q, Qe2⟩ := hQ2
  have N2 := Fr.app N0 N2q
  have ac3 : ∀ t, Steps p.tables e below (T2.setTop (mkF m 4 #[.val (.ref a1), .val (.long q1), .second, .val (.long q2), .second, .val (.long q3), .second, .val (.long q4), .second, .val (.long q5), .second, .val (.long q6), .second, .val (.long q7), .second] [])) t → Steps p.tables e below (s₁.setTop (entryFrame m #[(.ref a1), (.long q1), (.long q2), (.long q3), (.long q4), (.long q5), (.long q6), (.long q7)] 15)) t := fun t k => ac1 t (st2.trans k)
  have ac4 : ∀ t, Steps p.tables e below (T2.setTop (mkF m 6 #[.val (.ref a1), .val (.long q1), .second, .val (.long q2), .second, .val (.long q3), .second, .val (.long q4), .second, .val (.long q5), .second, .val (.long q6), .second, .val (.long q7), .second] [(.long q1), (.ref a1)])) t → Steps p.tables e below (s₁.setTop (entryFrame m #[(.ref a1), (.long q1), (.long q2), (.long q3), (.long q4), (.long q5), (.long q6), (.long q7)] 15)) t := fun t k => ac3 t (by
      show Steps p.tables e below (T2.setTop (mkF m 4 #[.val (.ref a1), .val (.long q1), .second, .val (.long q2), .second, .val (.long q3), .second, .val (.long q4), .second, .val (.long q5), .second, .val (.long q6), .second, .val (.long q7), .second] [])) _
      refine XS.aloadN X2.here hx rfl (hb hby d1_4) rfl rfl ?_
      show Steps p.tables e below (T2.setTop (mkF m 5 #[.val (.ref a1), .val (.long q1), .second, .val (.long q2), .second, .val (.long q3), .second, .val (.long q4), .second, .val (.long q5), .second, .val (.long q6), .second, .val (.long q7), .second] [(.ref a1)])) _
      refine XS.lloadN X2.here hx rfl (hb hby d1_5) rfl ?_
      exact k)
  obtain ⟨T5, h5, X5, e5, W5, st5⟩ := putF X2 hx hZ hown (host := "") (Or.inl (hw _ (List.mem_of_getElem? (i := 16) rfl))) Via.refl Qe2 F0 E1 (Or.inr ⟨(hw _ (List.mem_of_getElem? (i := 17) rfl)), rfl, hnm⟩) (hw _ (List.mem_of_getElem? (i := 3) rfl)) (ty := .long) (by decide) rfl rfl (g := (mkF m 6 #[.val (.ref a1), .val (.long q1), .second, .val (.long q2), .second, .val (.long q3), .second, .val (.long q4), .second, .val (.long q5), .second, .val (.long q6), .second, .val (.long q7), .second] [(.long q1), (.ref a1)])) rfl rfl (hb hby d1_6)
  have Fw5 := F0.same W5
  have Ef6 := E1.wr W5
  have Ff7 := F1.other W5 (Or.inr (slot_ne (Or.inr (hw _ (List.mem_of_getElem? (i := 19) rfl))) (Or.inr (hw _ (List.mem_of_getElem? (i := 17) rfl))) (by decide) (t := .long) (t' := .long) (by decide) (by decide)))
  have Ff8 := F2.other W5 (Or.inr (slot_ne (Or.inr (hw _ (List.mem_of_getElem? (i := 21) rfl))) (Or.inr (hw _ (List.mem_of_getElem? (i := 17) rfl))) (by decide) (t := .long) (t' := .long) (by decide) (by decide)))
  have Ff9 := F3.other W5 (Or.inr (slot_ne (Or.inr (hw _ (List.mem_of_getElem? (i := 23) rfl))) (Or.inr (hw _ (List.mem_of_getElem? (i := 17) rfl))) (by decide) (t := .long) (t' := .long) (by decide) (by decide)))
  have Ff10 := F4.other W5 (Or.inr (slot_ne (Or.inr (hw _ (List.mem_of_getElem? (i := 25) rfl))) (Or.inr (hw _ (List.mem_of_getElem? (i := 17) rfl))) (by decide) (t := .long) (t' := .long) (by decide) (by decide)))
  have Ff11 := F5.other W5 (Or.inr (slot_ne (Or.inr (hw _ (List.mem_of_getElem? (i := 27) rfl))) (Or.inr (hw _ (List.mem_of_getElem? (i := 17) rfl))) (by decide) (t := .long) (t' := .long) (by decide) (by decide)))
  have Ff12 := F6.other W5 (Or.inr (slot_ne (Or.inr (hw _ (List.mem_of_getElem? (i := 29) rfl))) (Or.inr (hw _ (List.mem_of_getElem? (i := 17) rfl))) (by decide) (t := .long) (t' := .long) (by decide) (by decide)))
  have N5 := Fr.snoc X5 N2 g_a1
  have Z5 : n0 ≤ h5.size := Nat.le_trans Z0 (Keep.of_wr W5).1
  have Kp13 : Keep h0 h5 [a1] := (Keep.refl h0 [a1]).wr W5 (Or.inl (List.mem_of_getElem? (i := 0) rfl))
  have ac14 : ∀ t, Steps p.tables e below (T5.setTop (mkF m 9 #[.val (.ref a1), .val (.long q1), .second, .val (.long q2), .second, .val (.long q3), .second, .val (.long q4), .second, .val (.long q5), .second, .val (.long q6), .second, .val (.long q7), .second] [])) t → Steps p.tables e below (s₁.setTop (entryFrame m #[(.ref a1), (.long q1), (.long q2), (.long q3), (.long q4), (.long q5), (.long q6), (.long q7)] 15)) t := fun t k => ac4 t (st5 t k)
  have ac15 : ∀ t, Steps p.tables e below (T5.setTop (mkF m 11 #[.val (.ref a1), .val (.long q1), .second, .val (.long q2), .second, .val (.long q3), .second, .val (.long q4), .second, .val (.long q5), .second, .val (.long q6), .second, .val (.long q7), .second] [(.long q2), (.ref a1)])) t → Steps p.tables e below (s₁.setTop (entryFrame m #[(.ref a1), (.long q1), (.long q2), (.long q3), (.long q4), (.long q5), (.long q6), (.long q7)] 15)) t := fun t k => ac14 t (by
      show Steps p.tables e below (T5.setTop (mkF m 9 #[.val (.ref a1), .val (.long q1), .second, .val (.long q2), .second, .val (.long q3), .second, .val (.long q4), .second, .val (.long q5), .second, .val (.long q6), .second, .val (.long q7), .second] [])) _
      refine XS.aloadN X5.here hx rfl (hb hby d1_9) rfl rfl ?_
      show Steps p.tables e below (T5.setTop (mkF m 10 #[.val (.ref a1), .val (.long q1), .second, .val (.long q2), .second, .val (.long q3), .second, .val (.long q4), .second, .val (.long q5), .second, .val (.long q6), .second, .val (.long q7), .second] [(.ref a1)])) _
      refine XS.lloadN X5.here hx rfl (hb hby d1_10) rfl ?_
      exact k)
  obtain ⟨T16, h16, X16, e16, W16, st16⟩ := putF X5 hx hZ hown (host := "") (Or.inl (hw _ (List.mem_of_getElem? (i := 18) rfl))) Via.refl e5 Ff7 Ef6 (Or.inr ⟨(hw _ (List.mem_of_getElem? (i := 19) rfl)), rfl, hnm⟩) (hw _ (List.mem_of_getElem? (i := 3) rfl)) (ty := .long) (by decide) rfl rfl (g := (mkF m 11 #[.val (.ref a1), .val (.long q1), .second, .val (.long q2), .second, .val (.long q3), .second, .val (.long q4), .second, .val (.long q5), .second, .val (.long q6), .second, .val (.long q7), .second] [(.long q2), (.ref a1)])) rfl rfl (hb hby d1_11)
  have Fw16 := Ff7.same W16
  have Ef17 := Ef6.wr W16
  have Ff18 := Ff8.other W16 (Or.inr (slot_ne (Or.inr (hw _ (List.mem_of_getElem? (i := 21) rfl))) (Or.inr (hw _ (List.mem_of_getElem? (i := 19) rfl))) (by decide) (t := .long) (t' := .long) (by decide) (by decide)))
  have Ff19 := Ff9.other W16 (Or.inr (slot_ne (Or.inr (hw _ (List.mem_of_getElem? (i := 23) rfl))) (Or.inr (hw _ (List.mem_of_getElem? (i := 19) rfl))) (by decide) (t := .long) (t' := .long) (by decide) (by decide)))
  have Ff20 := Ff10.other W16 (Or.inr (slot_ne (Or.inr (hw _ (List.mem_of_getElem? (i := 25) rfl))) (Or.inr (hw _ (List.mem_of_getElem? (i := 19) rfl))) (by decide) (t := .long) (t' := .long) (by decide) (by decide)))
  have Ff21 := Ff11.other W16 (Or.inr (slot_ne (Or.inr (hw _ (List.mem_of_getElem? (i := 27) rfl))) (Or.inr (hw _ (List.mem_of_getElem? (i := 19) rfl))) (by decide) (t := .long) (t' := .long) (by decide) (by decide)))
  have Ff22 := Ff12.other W16 (Or.inr (slot_ne (Or.inr (hw _ (List.mem_of_getElem? (i := 29) rfl))) (Or.inr (hw _ (List.mem_of_getElem? (i := 19) rfl))) (by decide) (t := .long) (t' := .long) (by decide) (by decide)))
  have Ff23 := Fw5.other W16 (Or.inr (slot_ne (Or.inr (hw _ (List.mem_of_getElem? (i := 17) rfl))) (Or.inr (hw _ (List.mem_of_getElem? (i := 19) rfl))) (by decide) (t := .long) (t' := .long) (by decide) (by decide)))
  have N16 := Fr.snoc X16 N5 g_a1
  have Z16 : n0 ≤ h16.size := Nat.le_trans Z5 (Keep.of_wr W16).1
  have Kp24 : Keep h0 h16 [a1] := Kp13.wr W16 (Or.inl (List.mem_of_getElem? (i := 0) rfl))
  have ac25 : ∀ t, Steps p.tables e below (T16.setTop (mkF m 14 #[.val (.ref a1), .val (.long q1), .second, .val (.long q2), .second, .val (.long q3), .second, .val (.long q4), .second, .val (.long q5), .second, .val (.long q6), .second, .val (.long q7), .second] [])) t → Steps p.tables e below (s₁.setTop (entryFrame m #[(.ref a1), (.long q1), (.long q2), (.long q3), (.long q4), (.long q5), (.long q6), (.long q7)] 15)) t := fun t k => ac15 t (st16 t k)
  have ac26 : ∀ t, Steps p.tables e below (T16.setTop (mkF m 17 #[.val (.ref a1), .val (.long q1), .second, .val (.long q2), .second, .val (.long q3), .second, .val (.long q4), .second, .val (.long q5), .second, .val (.long q6), .second, .val (.long q7), .second] [(.long q3), (.ref a1)])) t → Steps p.tables e below (s₁.setTop (entryFrame m #[(.ref a1), (.long q1), (.long q2), (.long q3), (.long q4), (.long q5), (.long q6), (.long q7)] 15)) t := fun t k => ac25 t (by
      show Steps p.tables e below (T16.setTop (mkF m 14 #[.val (.ref a1), .val (.long q1), .second, .val (.long q2), .second, .val (.long q3), .second, .val (.long q4), .second, .val (.long q5), .second, .val (.long q6), .second, .val (.long q7), .second] [])) _
      refine XS.aloadN X16.here hx rfl (hb hby d1_14) rfl rfl ?_
      show Steps p.tables e below (T16.setTop (mkF m 15 #[.val (.ref a1), .val (.long q1), .second, .val (.long q2), .second, .val (.long q3), .second, .val (.long q4), .second, .val (.long q5), .second, .val (.long q6), .second, .val (.long q7), .second] [(.ref a1)])) _
      refine XS.lload X16.here hx rfl (hb hby d1_15) rfl ?_
      exact k)
  obtain ⟨T27, h27, X27, e27, W27, st27⟩ := putF X16 hx hZ hown (host := "") (Or.inl (hw _ (List.mem_of_getElem? (i := 20) rfl))) Via.refl e16 Ff18 Ef17 (Or.inr ⟨(hw _ (List.mem_of_getElem? (i := 21) rfl)), rfl, hnm⟩) (hw _ (List.mem_of_getElem? (i := 3) rfl)) (ty := .long) (by decide) rfl rfl (g := (mkF m 17 #[.val (.ref a1), .val (.long q1), .second, .val (.long q2), .second, .val (.long q3), .second, .val (.long q4), .second, .val (.long q5), .second, .val (.long q6), .second, .val (.long q7), .second] [(.long q3), (.ref a1)])) rfl rfl (hb hby d1_17)
  have Fw27 := Ff18.same W27
  have Ef28 := Ef17.wr W27
  have Ff29 := Ff19.other W27 (Or.inr (slot_ne (Or.inr (hw _ (List.mem_of_getElem? (i := 23) rfl))) (Or.inr (hw _ (List.mem_of_getElem? (i := 21) rfl))) (by decide) (t := .long) (t' := .long) (by decide) (by decide)))
  have Ff30 := Ff20.other W27 (Or.inr (slot_ne (Or.inr (hw _ (List.mem_of_getElem? (i := 25) rfl))) (Or.inr (hw _ (List.mem_of_getElem? (i := 21) rfl))) (by decide) (t := .long) (t' := .long) (by decide) (by decide)))
  have Ff31 := Ff21.other W27 (Or.inr (slot_ne (Or.inr (hw _ (List.mem_of_getElem? (i := 27) rfl))) (Or.inr (hw _ (List.mem_of_getElem? (i := 21) rfl))) (by decide) (t := .long) (t' := .long) (by decide) (by decide)))
  have Ff32 := Ff22.other W27 (Or.inr (slot_ne (Or.inr (hw _ (List.mem_of_getElem? (i := 29) rfl))) (Or.inr (hw _ (List.mem_of_getElem? (i := 21) rfl))) (by decide) (t := .long) (t' := .long) (by decide) (by decide)))
  have Ff33 := Ff23.other W27 (Or.inr (slot_ne (Or.inr (hw _ (List.mem_of_getElem? (i := 17) rfl))) (Or.inr (hw _ (List.mem_of_getElem? (i := 21) rfl))) (by decide) (t := .long) (t' := .long) (by decide) (by decide)))
  have Ff34 := Fw16.other W27 (Or.inr (slot_ne (Or.inr (hw _ (List.mem_of_getElem? (i := 19) rfl))) (Or.inr (hw _ (List.mem_of_getElem? (i := 21) rfl))) (by decide) (t := .long) (t' := .long) (by decide) (by decide)))
  have N27 := Fr.snoc X27 N16 g_a1
  have Z27 : n0 ≤ h27.size := Nat.le_trans Z16 (Keep.of_wr W27).1
  have Kp35 : Keep h0 h27 [a1] := Kp24.wr W27 (Or.inl (List.mem_of_getElem? (i := 0) rfl))
  have ac36 : ∀ t, Steps p.tables e below (T27.setTop (mkF m 20 #[.val (.ref a1), .val (.long q1), .second, .val (.long q2), .second, .val (.long q3), .second, .val (.long q4), .second, .val (.long q5), .second, .val (.long q6), .second, .val (.long q7), .second] [])) t → Steps p.tables e below (s₁.setTop (entryFrame m #[(.ref a1), (.long q1), (.long q2), (.long q3), (.long q4), (.long q5), (.long q6), (.long q7)] 15)) t := fun t k => ac26 t (st27 t k)
  have ac37 : ∀ t, Steps p.tables e below (T27.setTop (mkF m 23 #[.val (.ref a1), .val (.long q1), .second, .val (.long q2), .second, .val (.long q3), .second, .val (.long q4), .second, .val (.long q5), .second, .val (.long q6), .second, .val (.long q7), .second] [(.long q4), (.ref a1)])) t → Steps p.tables e below (s₁.setTop (entryFrame m #[(.ref a1), (.long q1), (.long q2), (.long q3), (.long q4), (.long q5), (.long q6), (.long q7)] 15)) t := fun t k => ac36 t (by
      show Steps p.tables e below (T27.setTop (mkF m 20 #[.val (.ref a1), .val (.long q1), .second, .val (.long q2), .second, .val (.long q3), .second, .val (.long q4), .second, .val (.long q5), .second, .val (.long q6), .second, .val (.long q7), .second] [])) _
      refine XS.aloadN X27.here hx rfl (hb hby d1_20) rfl rfl ?_
      show Steps p.tables e below (T27.setTop (mkF m 21 #[.val (.ref a1), .val (.long q1), .second, .val (.long q2), .second, .val (.long q3), .second, .val (.long q4), .second, .val (.long q5), .second, .val (.long q6), .second, .val (.long q7), .second] [(.ref a1)])) _
      refine XS.lload X27.here hx rfl (hb hby d1_21) rfl ?_
      exact k)
  obtain ⟨T38, h38, X38, e38, W38, st38⟩ := putF X27 hx hZ hown (host := "") (Or.inl (hw _ (List.mem_of_getElem? (i := 22) rfl))) Via.refl e27 Ff29 Ef28 (Or.inr ⟨(hw _ (List.mem_of_getElem? (i := 23) rfl)), rfl, hnm⟩) (hw _ (List.mem_of_getElem? (i := 3) rfl)) (ty := .long) (by decide) rfl rfl (g := (mkF m 23 #[.val (.ref a1), .val (.long q1), .second, .val (.long q2), .second, .val (.long q3), .second, .val (.long q4), .second, .val (.long q5), .second, .val (.long q6), .second, .val (.long q7), .second] [(.long q4), (.ref a1)])) rfl rfl (hb hby d1_23)
  have Fw38 := Ff29.same W38
  have Ef39 := Ef28.wr W38
  have Ff40 := Ff30.other W38 (Or.inr (slot_ne (Or.inr (hw _ (List.mem_of_getElem? (i := 25) rfl))) (Or.inr (hw _ (List.mem_of_getElem? (i := 23) rfl))) (by decide) (t := .long) (t' := .long) (by decide) (by decide)))
  have Ff41 := Ff31.other W38 (Or.inr (slot_ne (Or.inr (hw _ (List.mem_of_getElem? (i := 27) rfl))) (Or.inr (hw _ (List.mem_of_getElem? (i := 23) rfl))) (by decide) (t := .long) (t' := .long) (by decide) (by decide)))
  have Ff42 := Ff32.other W38 (Or.inr (slot_ne (Or.inr (hw _ (List.mem_of_getElem? (i := 29) rfl))) (Or.inr (hw _ (List.mem_of_getElem? (i := 23) rfl))) (by decide) (t := .long) (t' := .long) (by decide) (by decide)))
  have Ff43 := Ff33.other W38 (Or.inr (slot_ne (Or.inr (hw _ (List.mem_of_getElem? (i := 17) rfl))) (Or.inr (hw _ (List.mem_of_getElem? (i := 23) rfl))) (by decide) (t := .long) (t' := .long) (by decide) (by decide)))
  have Ff44 := Ff34.other W38 (Or.inr (slot_ne (Or.inr (hw _ (List.mem_of_getElem? (i := 19) rfl))) (Or.inr (hw _ (List.mem_of_getElem? (i := 23) rfl))) (by decide) (t := .long) (t' := .long) (by decide) (by decide)))
  have Ff45 := Fw27.other W38 (Or.inr (slot_ne (Or.inr (hw _ (List.mem_of_getElem? (i := 21) rfl))) (Or.inr (hw _ (List.mem_of_getElem? (i := 23) rfl))) (by decide) (t := .long) (t' := .long) (by decide) (by decide)))
  have N38 := Fr.snoc X38 N27 g_a1
  have Z38 : n0 ≤ h38.size := Nat.le_trans Z27 (Keep.of_wr W38).1
  have Kp46 : Keep h0 h38 [a1] := Kp35.wr W38 (Or.inl (List.mem_of_getElem? (i := 0) rfl))
  have ac47 : ∀ t, Steps p.tables e below (T38.setTop (mkF m 26 #[.val (.ref a1), .val (.long q1), .second, .val (.long q2), .second, .val (.long q3), .second, .val (.long q4), .second, .val (.long q5), .second, .val (.long q6), .second, .val (.long q7), .second] [])) t → Steps p.tables e below (s₁.setTop (entryFrame m #[(.ref a1), (.long q1), (.long q2), (.long q3), (.long q4), (.long q5), (.long q6), (.long q7)] 15)) t := fun t k => ac37 t (st38 t k)
  have ac48 : ∀ t, Steps p.tables e below (T38.setTop (mkF m 29 #[.val (.ref a1), .val (.long q1), .second, .val (.long q2), .second, .val (.long q3), .second, .val (.long q4), .second, .val (.long q5), .second, .val (.long q6), .second, .val (.long q7), .second] [(.long q5), (.ref a1)])) t → Steps p.tables e below (s₁.setTop (entryFrame m #[(.ref a1), (.long q1), (.long q2), (.long q3), (.long q4), (.long q5), (.long q6), (.long q7)] 15)) t := fun t k => ac47 t (by
      show Steps p.tables e below (T38.setTop (mkF m 26 #[.val (.ref a1), .val (.long q1), .second, .val (.long q2), .second, .val (.long q3), .second, .val (.long q4), .second, .val (.long q5), .second, .val (.long q6), .second, .val (.long q7), .second] [])) _
      refine XS.aloadN X38.here hx rfl (hb hby d1_26) rfl rfl ?_
      show Steps p.tables e below (T38.setTop (mkF m 27 #[.val (.ref a1), .val (.long q1), .second, .val (.long q2), .second, .val (.long q3), .second, .val (.long q4), .second, .val (.long q5), .second, .val (.long q6), .second, .val (.long q7), .second] [(.ref a1)])) _
      refine XS.lload X38.here hx rfl (hb hby d1_27) rfl ?_
      exact k)
  obtain ⟨T49, h49, X49, e49, W49, st49⟩ := putF X38 hx hZ hown (host := "") (Or.inl (hw _ (List.mem_of_getElem? (i := 24) rfl))) Via.refl e38 Ff40 Ef39 (Or.inr ⟨(hw _ (List.mem_of_getElem? (i := 25) rfl)), rfl, hnm⟩) (hw _ (List.mem_of_getElem? (i := 3) rfl)) (ty := .long) (by decide) rfl rfl (g := (mkF m 29 #[.val (.ref a1), .val (.long q1), .second, .val (.long q2), .second, .val (.long q3), .second, .val (.long q4), .second, .val (.long q5), .second, .val (.long q6), .second, .val (.long q7), .second] [(.long q5), (.ref a1)])) rfl rfl (hb hby d1_29)
  have Fw49 := Ff40.same W49
  have Ef50 := Ef39.wr W49
  have Ff51 := Ff41.other W49 (Or.inr (slot_ne (Or.inr (hw _ (List.mem_of_getElem? (i := 27) rfl))) (Or.inr (hw _ (List.mem_of_getElem? (i := 25) rfl))) (by decide) (t := .long) (t' := .long) (by decide) (by decide)))
  have Ff52 := Ff42.other W49 (Or.inr (slot_ne (Or.inr (hw _ (List.mem_of_getElem? (i := 29) rfl))) (Or.inr (hw _ (List.mem_of_getElem? (i := 25) rfl))) (by decide) (t := .long) (t' := .long) (by decide) (by decide)))
  have Ff53 := Ff43.other W49 (Or.inr (slot_ne (Or.inr (hw _ (List.mem_of_getElem? (i := 17) rfl))) (Or.inr (hw _ (List.mem_of_getElem? (i := 25) rfl))) (by decide) (t := .long) (t' := .long) (by decide) (by decide)))
  have Ff54 := Ff44.other W49 (Or.inr (slot_ne (Or.inr (hw _ (List.mem_of_getElem? (i := 19) rfl))) (Or.inr (hw _ (List.mem_of_getElem? (i := 25) rfl))) (by decide) (t := .long) (t' := .long) (by decide) (by decide)))
  have Ff55 := Ff45.other W49 (Or.inr (slot_ne (Or.inr (hw _ (List.mem_of_getElem? (i := 21) rfl))) (Or.inr (hw _ (List.mem_of_getElem? (i := 25) rfl))) (by decide) (t := .long) (t' := .long) (by decide) (by decide)))
  have Ff56 := Fw38.other W49 (Or.inr (slot_ne (Or.inr (hw _ (List.mem_of_getElem? (i := 23) rfl))) (Or.inr (hw _ (List.mem_of_getElem? (i := 25) rfl))) (by decide) (t := .long) (t' := .long) (by decide) (by decide)))
  have N49 := Fr.snoc X49 N38 g_a1
  have Z49 : n0 ≤ h49.size := Nat.le_trans Z38 (Keep.of_wr W49).1
  have Kp57 : Keep h0 h49 [a1] := Kp46.wr W49 (Or.inl (List.mem_of_getElem? (i := 0) rfl))
  have ac58 : ∀ t, Steps p.tables e below (T49.setTop (mkF m 32 #[.val (.ref a1), .val (.long q1), .second, .val (.long q2), .second, .val (.long q3), .second, .val (.long q4), .second, .val (.long q5), .second, .val (.long q6), .second, .val (.long q7), .second] [])) t → Steps p.tables e below (s₁.setTop (entryFrame m #[(.ref a1), (.long q1), (.long q2), (.long q3), (.long q4), (.long q5), (.long q6), (.long q7)] 15)) t := fun t k => ac48 t (st49 t k)
  have ac59 : ∀ t, Steps p.tables e below (T49.setTop (mkF m 35 #[.val (.ref a1), .val (.long q1), .second, .val (.long q2), .second, .val (.long q3), .second, .val (.long q4), .second, .val (.long q5), .second, .val (.long q6), .second, .val (.long q7), .second] [(.long q6), (.ref a1)])) t → Steps p.tables e below (s₁.setTop (entryFrame m #[(.ref a1), (.long q1), (.long q2), (.long q3), (.long q4), (.long q5), (.long q6), (.long q7)] 15)) t := fun t k => ac58 t (by
      show Steps p.tables e below (T49.setTop (mkF m 32 #[.val (.ref a1), .val (.long q1), .second, .val (.long q2), .second, .val (.long q3), .second, .val (.long q4), .second, .val (.long q5), .second, .val (.long q6), .second, .val (.long q7), .second] [])) _
      refine XS.aloadN X49.here hx rfl (hb hby d1_32) rfl rfl ?_
      show Steps p.tables e below (T49.setTop (mkF m 33 #[.val (.ref a1), .val (.long q1), .second, .val (.long q2), .second, .val (.long q3), .second, .val (.long q4), .second, .val (.long q5), .second, .val (.long q6), .second, .val (.long q7), .second] [(.ref a1)])) _
      refine XS.lload X49.here hx rfl (hb hby d1_33) rfl ?_
      exact k)
  obtain ⟨T60, h60, X60, e60, W60, st60⟩ := putF X49 hx hZ hown (host := "") (Or.inl (hw _ (List.mem_of_getElem? (i := 26) rfl))) Via.refl e49 Ff51 Ef50 (Or.inr ⟨(hw _ (List.mem_of_getElem? (i := 27) rfl)), rfl, hnm⟩) (hw _ (List.mem_of_getElem? (i := 3) rfl)) (ty := .long) (by decide) rfl rfl (g := (mkF m 35 #[.val (.ref a1), .val (.long q1), .second, .val (.long q2), .second, .val (.long q3), .second, .val (.long q4), .second, .val (.long q5), .second, .val (.long q6), .second, .val (.long q7), .second] [(.long q6), (.ref a1)])) rfl rfl (hb hby d1_35)
  have Fw60 := Ff51.same W60
  have Ef61 := Ef50.wr W60
  have Ff62 := Ff52.other W60 (Or.inr (slot_ne (Or.inr (hw _ (List.mem_of_getElem? (i := 29) rfl))) (Or.inr (hw _ (List.mem_of_getElem? (i := 27) rfl))) (by decide) (t := .long) (t' := .long) (by decide) (by decide)))
  have Ff63 := Ff53.other W60 (Or.inr (slot_ne (Or.inr (hw _ (List.mem_of_getElem? (i := 17) rfl))) (Or.inr (hw _ (List.mem_of_getElem? (i := 27) rfl))) (by decide) (t := .long) (t' := .long) (by decide) (by decide)))
  have Ff64 := Ff54.other W60 (Or.inr (slot_ne (Or.inr (hw _ (List.mem_of_getElem? (i := 19) rfl))) (Or.inr (hw _ (List.mem_of_getElem? (i := 27) rfl))) (by decide) (t := .long) (t' := .long) (by decide) (by decide)))
  have Ff65 := Ff55.other W60 (Or.inr (slot_ne (Or.inr (hw _ (List.mem_of_getElem? (i := 21) rfl))) (Or.inr (hw _ (List.mem_of_getElem? (i := 27) rfl))) (by decide) (t := .long) (t' := .long) (by decide) (by decide)))
  have Ff66 := Ff56.other W60 (Or.inr (slot_ne (Or.inr (hw _ (List.mem_of_getElem? (i := 23) rfl))) (Or.inr (hw _ (List.mem_of_getElem? (i := 27) rfl))) (by decide) (t := .long) (t' := .long) (by decide) (by decide)))
  have Ff67 := Fw49.other W60 (Or.inr (slot_ne (Or.inr (hw _ (List.mem_of_getElem? (i := 25) rfl))) (Or.inr (hw _ (List.mem_of_getElem? (i := 27) rfl))) (by decide) (t := .long) (t' := .long) (by decide) (by decide)))
  have N60 := Fr.snoc X60 N49 g_a1
  have Z60 : n0 ≤ h60.size := Nat.le_trans Z49 (Keep.of_wr W60).1
  have Kp68 : Keep h0 h60 [a1] := Kp57.wr W60 (Or.inl (List.mem_of_getElem? (i := 0) rfl))
  have ac69 : ∀ t, Steps p.tables e below (T60.setTop (mkF m 38 #[.val (.ref a1), .val (.long q1), .second, .val (.long q2), .second, .val (.long q3), .second, .val (.long q4), .second, .val (.long q5), .second, .val (.long q6), .second, .val (.long q7), .second] [])) t → Steps p.tables e below (s₁.setTop (entryFrame m #[(.ref a1), (.long q1), (.long q2), (.long q3), (.long q4), (.long q5), (.long q6), (.long q7)] 15)) t := fun t k => ac59 t (st60 t k)
  have ac70 : ∀ t, Steps p.tables e below (T60.setTop (mkF m 41 #[.val (.ref a1), .val (.long q1), .second, .val (.long q2), .second, .val (.long q3), .second, .val (.long q4), .second, .val (.long q5), .second, .val (.long q6), .second, .val (.long q7), .second] [(.long q7), (.ref a1)])) t → Steps p.tables e below (s₁.setTop (entryFrame m #[(.ref a1), (.long q1), (.long q2), (.long q3), (.long q4), (.long q5), (.long q6), (.long q7)] 15)) t := fun t k => ac69 t (by
      show Steps p.tables e below (T60.setTop (mkF m 38 #[.val (.ref a1), .val (.long q1), .second, .val (.long q2), .second, .val (.long q3), .second, .val (.long q4), .second, .val (.long q5), .second, .val (.long q6), .second, .val (.long q7), .second] [])) _
      refine XS.aloadN X60.here hx rfl (hb hby d1_38) rfl rfl ?_
      show Steps p.tables e below (T60.setTop (mkF m 39 #[.val (.ref a1), .val (.long q1), .second, .val (.long q2), .second, .val (.long q3), .second, .val (.long q4), .second, .val (.long q5), .second, .val (.long q6), .second, .val (.long q7), .second] [(.ref a1)])) _
      refine XS.lload X60.here hx rfl (hb hby d1_39) rfl ?_
      exact k)
  obtain ⟨T71, h71, X71, e71, W71, st71⟩ := putF X60 hx hZ hown (host := "") (Or.inl (hw _ (List.mem_of_getElem? (i := 28) rfl))) Via.refl e60 Ff62 Ef61 (Or.inr ⟨(hw _ (List.mem_of_getElem? (i := 29) rfl)), rfl, hnm⟩) (hw _ (List.mem_of_getElem? (i := 3) rfl)) (ty := .long) (by decide) rfl rfl (g := (mkF m 41 #[.val (.ref a1), .val (.long q1), .second, .val (.long q2), .second, .val (.long q3), .second, .val (.long q4), .second, .val (.long q5), .second, .val (.long q6), .second, .val (.long q7), .second] [(.long q7), (.ref a1)])) rfl rfl (hb hby d1_41)
  have Fw71 := Ff62.same W71
  have Ef72 := Ef61.wr W71
  have Ff73 := Ff63.other W71 (Or.inr (slot_ne (Or.inr (hw _ (List.mem_of_getElem? (i := 17) rfl))) (Or.inr (hw _ (List.mem_of_getElem? (i := 29) rfl))) (by decide) (t := .long) (t' := .long) (by decide) (by decide)))
  have Ff74 := Ff64.other W71 (Or.inr (slot_ne (Or.inr (hw _ (List.mem_of_getElem? (i := 19) rfl))) (Or.inr (hw _ (List.mem_of_getElem? (i := 29) rfl))) (by decide) (t := .long) (t' := .long) (by decide) (by decide)))
  have Ff75 := Ff65.other W71 (Or.inr (slot_ne (Or.inr (hw _ (List.mem_of_getElem? (i := 21) rfl))) (Or.inr (hw _ (List.mem_of_getElem? (i := 29) rfl))) (by decide) (t := .long) (t' := .long) (by decide) (by decide)))
  have Ff76 := Ff66.other W71 (Or.inr (slot_ne (Or.inr (hw _ (List.mem_of_getElem? (i := 23) rfl))) (Or.inr (hw _ (List.mem_of_getElem? (i := 29) rfl))) (by decide) (t := .long) (t' := .long) (by decide) (by decide)))
  have Ff77 := Ff67.other W71 (Or.inr (slot_ne (Or.inr (hw _ (List.mem_of_getElem? (i := 25) rfl))) (Or.inr (hw _ (List.mem_of_getElem? (i := 29) rfl))) (by decide) (t := .long) (t' := .long) (by decide) (by decide)))
  have Ff78 := Fw60.other W71 (Or.inr (slot_ne (Or.inr (hw _ (List.mem_of_getElem? (i := 27) rfl))) (Or.inr (hw _ (List.mem_of_getElem? (i := 29) rfl))) (by decide) (t := .long) (t' := .long) (by decide) (by decide)))
  have N71 := Fr.snoc X71 N60 g_a1
  have Z71 : n0 ≤ h71.size := Nat.le_trans Z60 (Keep.of_wr W71).1
  have Kp79 : Keep h0 h71 [a1] := Kp68.wr W71 (Or.inl (List.mem_of_getElem? (i := 0) rfl))
  have ac80 : ∀ t, Steps p.tables e below (T71.setTop (mkF m 44 #[.val (.ref a1), .val (.long q1), .second, .val (.long q2), .second, .val (.long q3), .second, .val (.long q4), .second, .val (.long q5), .second, .val (.long q6), .second, .val (.long q7), .second] [])) t → Steps p.tables e below (s₁.setTop (entryFrame m #[(.ref a1), (.long q1), (.long q2), (.long q3), (.long q4), (.long q5), (.long q6), (.long q7)] 15)) t := fun t k => ac70 t (st71 t k)
  obtain ⟨fs, hr, hrun, hended, hW, hsame⟩ := X71.leave (v := none) (fun _ => rfl)
  refine ⟨_, _, ac80 _ ?_, hrun, hended, _, _, rfl, ?_, ⟨_, rfl⟩, hW, hsame.mono (by decide) (by decide)⟩
  · show Steps p.tables e below (T71.setTop (mkF m 44 #[.val (.ref a1), .val (.long q1), .second, .val (.long q2), .second, .val (.long q3), .second, .val (.long q4), .second, .val (.long q5), .second, .val (.long q6), .second, .val (.long q7), .second] [])) _
    exact X71.returnOut hx Bd.returns (hb hby d1_44) hr
  · show Q1 Z a1 q1 q2 q3 q4 q5 q6 q7 h0 n0 _ T71.heap _
    rw [e71]
    exact ⟨rfl, N71, Kp79, Ef72, Ff73, Ff74, Ff75, Ff76, Ff77, Ff78, Fw71⟩
theorem ef_rm4 (m : MethodId) (x0 : Addr) : entryFrame m #[(.ref x0)] 1 = mkF m 0 #[.val (.ref x0)] [] := by first | (simp [entryFrame, mkF, argsToLocals, Value.category]; done) | rfl
def Q4 (Z : State) (a1 : Addr) (w1 : Int64) (w2 : Int64) (w3 : Int64) (w4 : Int64) (w5 : Int64) (w6 : Int64) (w7 : Int64) (h0 : Heap) (n0 : Nat) (v : Option Value) (h : Heap) (L : List Loc) : Prop := v = some (.long ((((((w1 + w2) + w3) + w4) + w5) + w6) + w7)) ∧ Fr n0 L ∧ h = h0
set_option maxRecDepth 65536 in
set_option maxHeartbeats 40000000 in
theorem rm4 (l : Launch) (Z : State) (a0 : Array Value) (hw : ∀ d ∈ tables_1, d.before a0 Z = true) (ws : List Jvm.Cond) (a1 : Addr) (w1 : Int64) (w2 : Int64) (w3 : Int64) (w4 : Int64) (w5 : Int64) (w6 : Int64) (w7 : Int64) (h0 : Heap) (n0 : Nat) (Z0 : n0 ≤ h0.size) (F0 : Fld Z h0 a1 "com/example/termwright/termwright/PartSizes" "stored" "J" (.long w1)) (F1 : Fld Z h0 a1 "com/example/termwright/termwright/PartSizes" "postings" "J" (.long w2)) (F2 : Fld Z h0 a1 "com/example/termwright/termwright/PartSizes" "dictionary" "J" (.long w3)) (F3 : Fld Z h0 a1 "com/example/termwright/termwright/PartSizes" "lengths" "J" (.long w4)) (F4 : Fld Z h0 a1 "com/example/termwright/termwright/PartSizes" "numbers" "J" (.long w5)) (F5 : Fld Z h0 a1 "com/example/termwright/termwright/PartSizes" "sort" "J" (.long w6)) (F6 : Fld Z h0 a1 "com/example/termwright/termwright/PartSizes" "other" "J" (.long w7)) :
    MetFree l (⟨"com/example/termwright/termwright/PartSizes", "total", "()J"⟩ : MethodName) (head1 (Jvm.Cond.code (⟨"com/example/termwright/termwright/PartSizes", "total", "()J"⟩ : MethodName) prog_118_method_2_code 1 (some .long) :: ws) ({ frames := 0, cells := 0, slots := 0, locals := 0 } : Room)) (fun a U => a = #[(.ref a1)] ∧ Z.Warmed39 U.vm ∧ U.heap = h0) (fun _ _ _ _ _ => True) (fun _ U o U' => ∃ v L, o = .returned v ∧ Q4 Z a1 w1 w2 w3 w4 w5 w6 w7 h0 n0 v U'.heap L ∧ FrameEnd U o U' L ({ frames := 0, cells := 0, slots := 0, locals := 0 } : Room).cells ({ frames := 0, cells := 0, slots := 0, locals := 0 } : Room).slots) := by
  refine MetFree.of_bodySF (plainFor_of_name pn_4) hisR ?_
  intro p e s m args below meth c s₁ Bd hml0 hP hK
  obtain ⟨rfl, hZ, hh⟩ := hP
  have hx := Bd.exec
  have hby := Bd.bytes
  have hml : c.maxLocals = 1 := hml0
  have hown : s.vm.findClass "com/example/termwright/termwright/PartSizes" = some m.cls := findClass_of_methodNamed Bd.named
  have hnm := (name_of_methodNamed Bd.named Bd.method).1
  have X0 : Stand p l e ({ frames := 0, cells := 0, slots := 0, locals := 0 } : Room) s m #[(.ref a1)] below meth c s₁ [] 0 0 := Stand.of_body Bd
  have e0 : s₁.heap = h0 := by rw [← hh, Bd.state]; rfl
  have N0 := Fr.nil n0
  have a0s : ∀ t, Steps p.tables e below (s₁.setTop (mkF m 0 #[.val (.ref a1)] [])) t → Steps p.tables e below (s₁.setTop (entryFrame m #[(.ref a1)] 1)) t := fun t k => castTop (ef_rm4 m a1) k
  have ac1 : ∀ t, Steps p.tables e below (s₁.setTop (mkF m 1 #[.val (.ref a1)] [(.ref a1)])) t → Steps p.tables e below (s₁.setTop (entryFrame m #[(.ref a1)] 1)) t := fun t k => a0s t (by
      show Steps p.tables e below (s₁.setTop (mkF m 0 #[.val (.ref a1)] [])) _
      refine XS.aloadN X0.here hx rfl (hb hby d4_0) rfl rfl ?_
      exact k)
  obtain ⟨T2, X2, e2, st2⟩ := getF X0 hx hZ hown (host := "") (Or.inl (hw _ (List.mem_of_getElem? (i := 16) rfl))) Via.refl e0 F0 (g := (mkF m 1 #[.val (.ref a1)] [(.ref a1)])) rfl rfl (hb hby d4_1)
  have ac3 : ∀ t, Steps p.tables e below (T2.setTop (mkF m 4 #[.val (.ref a1)] [(.long w1)])) t → Steps p.tables e below (s₁.setTop (entryFrame m #[(.ref a1)] 1)) t := fun t k => ac1 t (st2 t k)
  have ac4 : ∀ t, Steps p.tables e below (T2.setTop (mkF m 5 #[.val (.ref a1)] [(.ref a1), (.long w1)])) t → Steps p.tables e below (s₁.setTop (entryFrame m #[(.ref a1)] 1)) t := fun t k => ac3 t (by
      show Steps p.tables e below (T2.setTop (mkF m 4 #[.val (.ref a1)] [(.long w1)])) _
      refine XS.aloadN X2.here hx rfl (hb hby d4_4) rfl rfl ?_
      exact k)
  obtain ⟨T5, X5, e5, st5⟩ := getF X2 hx hZ hown (host := "") (Or.inl (hw _ (List.mem_of_getElem? (i := 18) rfl))) Via.refl e2 F1 (g := (mkF m 5 #[.val (.ref a1)] [(.ref a1), (.long w1)])) rfl rfl (hb hby d4_5)
  have ac6 : ∀ t, Steps p.tables e below (T5.setTop (mkF m 8 #[.val (.ref a1)] [(.long w2), (.long w1)])) t → Steps p.tables e below (s₁.setTop (entryFrame m #[(.ref a1)] 1)) t := fun t k => ac4 t (st5 t k)
  have ac7 : ∀ t, Steps p.tables e below (T5.setTop (mkF m 10 #[.val (.ref a1)] [(.ref a1), (.long (w1 + w2))])) t → Steps p.tables e below (s₁.setTop (entryFrame m #[(.ref a1)] 1)) t := fun t k => ac6 t (by
      show Steps p.tables e below (T5.setTop (mkF m 8 #[.val (.ref a1)] [(.long w2), (.long w1)])) _
      refine XS.ladd X5.here hx rfl (hb hby d4_8) rfl ?_
      show Steps p.tables e below (T5.setTop (mkF m 9 #[.val (.ref a1)] [(.long (w1 + w2))])) _
      refine XS.aloadN X5.here hx rfl (hb hby d4_9) rfl rfl ?_
      exact k)
  obtain ⟨T8, X8, e8, st8⟩ := getF X5 hx hZ hown (host := "") (Or.inl (hw _ (List.mem_of_getElem? (i := 20) rfl))) Via.refl e5 F2 (g := (mkF m 10 #[.val (.ref a1)] [(.ref a1), (.long (w1 + w2))])) rfl rfl (hb hby d4_10)
  have ac9 : ∀ t, Steps p.tables e below (T8.setTop (mkF m 13 #[.val (.ref a1)] [(.long w3), (.long (w1 + w2))])) t → Steps p.tables e below (s₁.setTop (entryFrame m #[(.ref a1)] 1)) t := fun t k => ac7 t (st8 t k)
  have ac10 : ∀ t, Steps p.tables e below (T8.setTop (mkF m 15 #[.val (.ref a1)] [(.ref a1), (.long ((w1 + w2) + w3))])) t → Steps p.tables e below (s₁.setTop (entryFrame m #[(.ref a1)] 1)) t := fun t k => ac9 t (by
      show Steps p.tables e below (T8.setTop (mkF m 13 #[.val (.ref a1)] [(.long w3), (.long (w1 + w2))])) _
      refine XS.ladd X8.here hx rfl (hb hby d4_13) rfl ?_
      show Steps p.tables e below (T8.setTop (mkF m 14 #[.val (.ref a1)] [(.long ((w1 + w2) + w3))])) _
      refine XS.aloadN X8.here hx rfl (hb hby d4_14) rfl rfl ?_
      exact k)
  obtain ⟨T11, X11, e11, st11⟩ := getF X8 hx hZ hown (host := "") (Or.inl (hw _ (List.mem_of_getElem? (i := 22) rfl))) Via.refl e8 F3 (g := (mkF m 15 #[.val (.ref a1)] [(.ref a1), (.long ((w1 + w2) + w3))])) rfl rfl (hb hby d4_15)
  have ac12 : ∀ t, Steps p.tables e below (T11.setTop (mkF m 18 #[.val (.ref a1)] [(.long w4), (.long ((w1 + w2) + w3))])) t → Steps p.tables e below (s₁.setTop (entryFrame m #[(.ref a1)] 1)) t := fun t k => ac10 t (st11 t k)
  have ac13 : ∀ t, Steps p.tables e below (T11.setTop (mkF m 20 #[.val (.ref a1)] [(.ref a1), (.long (((w1 + w2) + w3) + w4))])) t → Steps p.tables e below (s₁.setTop (entryFrame m #[(.ref a1)] 1)) t := fun t k => ac12 t (by
      show Steps p.tables e below (T11.setTop (mkF m 18 #[.val (.ref a1)] [(.long w4), (.long ((w1 + w2) + w3))])) _
      refine XS.ladd X11.here hx rfl (hb hby d4_18) rfl ?_
      show Steps p.tables e below (T11.setTop (mkF m 19 #[.val (.ref a1)] [(.long (((w1 + w2) + w3) + w4))])) _
      refine XS.aloadN X11.here hx rfl (hb hby d4_19) rfl rfl ?_
      exact k)
  obtain ⟨T14, X14, e14, st14⟩ := getF X11 hx hZ hown (host := "") (Or.inl (hw _ (List.mem_of_getElem? (i := 24) rfl))) Via.refl e11 F4 (g := (mkF m 20 #[.val (.ref a1)] [(.ref a1), (.long (((w1 + w2) + w3) + w4))])) rfl rfl (hb hby d4_20)
  have ac15 : ∀ t, Steps p.tables e below (T14.setTop (mkF m 23 #[.val (.ref a1)] [(.long w5), (.long (((w1 + w2) + w3) + w4))])) t → Steps p.tables e below (s₁.setTop (entryFrame m #[(.ref a1)] 1)) t := fun t k => ac13 t (st14 t k)
  have ac16 : ∀ t, Steps p.tables e below (T14.setTop (mkF m 25 #[.val (.ref a1)] [(.ref a1), (.long ((((w1 + w2) + w3) + w4) + w5))])) t → Steps p.tables e below (s₁.setTop (entryFrame m #[(.ref a1)] 1)) t := fun t k => ac15 t (by
      show Steps p.tables e below (T14.setTop (mkF m 23 #[.val (.ref a1)] [(.long w5), (.long (((w1 + w2) + w3) + w4))])) _
      refine XS.ladd X14.here hx rfl (hb hby d4_23) rfl ?_
      show Steps p.tables e below (T14.setTop (mkF m 24 #[.val (.ref a1)] [(.long ((((w1 + w2) + w3) + w4) + w5))])) _
      refine XS.aloadN X14.here hx rfl (hb hby d4_24) rfl rfl ?_
      exact k)
  obtain ⟨T17, X17, e17, st17⟩ := getF X14 hx hZ hown (host := "") (Or.inl (hw _ (List.mem_of_getElem? (i := 26) rfl))) Via.refl e14 F5 (g := (mkF m 25 #[.val (.ref a1)] [(.ref a1), (.long ((((w1 + w2) + w3) + w4) + w5))])) rfl rfl (hb hby d4_25)
  have ac18 : ∀ t, Steps p.tables e below (T17.setTop (mkF m 28 #[.val (.ref a1)] [(.long w6), (.long ((((w1 + w2) + w3) + w4) + w5))])) t → Steps p.tables e below (s₁.setTop (entryFrame m #[(.ref a1)] 1)) t := fun t k => ac16 t (st17 t k)
  have ac19 : ∀ t, Steps p.tables e below (T17.setTop (mkF m 30 #[.val (.ref a1)] [(.ref a1), (.long (((((w1 + w2) + w3) + w4) + w5) + w6))])) t → Steps p.tables e below (s₁.setTop (entryFrame m #[(.ref a1)] 1)) t := fun t k => ac18 t (by
      show Steps p.tables e below (T17.setTop (mkF m 28 #[.val (.ref a1)] [(.long w6), (.long ((((w1 + w2) + w3) + w4) + w5))])) _
      refine XS.ladd X17.here hx rfl (hb hby d4_28) rfl ?_
      show Steps p.tables e below (T17.setTop (mkF m 29 #[.val (.ref a1)] [(.long (((((w1 + w2) + w3) + w4) + w5) + w6))])) _
      refine XS.aloadN X17.here hx rfl (hb hby d4_29) rfl rfl ?_
      exact k)
  obtain ⟨T20, X20, e20, st20⟩ := getF X17 hx hZ hown (host := "") (Or.inl (hw _ (List.mem_of_getElem? (i := 28) rfl))) Via.refl e17 F6 (g := (mkF m 30 #[.val (.ref a1)] [(.ref a1), (.long (((((w1 + w2) + w3) + w4) + w5) + w6))])) rfl rfl (hb hby d4_30)
  have ac21 : ∀ t, Steps p.tables e below (T20.setTop (mkF m 33 #[.val (.ref a1)] [(.long w7), (.long (((((w1 + w2) + w3) + w4) + w5) + w6))])) t → Steps p.tables e below (s₁.setTop (entryFrame m #[(.ref a1)] 1)) t := fun t k => ac19 t (st20 t k)
  have ac22 : ∀ t, Steps p.tables e below (T20.setTop (mkF m 34 #[.val (.ref a1)] [(.long ((((((w1 + w2) + w3) + w4) + w5) + w6) + w7))])) t → Steps p.tables e below (s₁.setTop (entryFrame m #[(.ref a1)] 1)) t := fun t k => ac21 t (by
      show Steps p.tables e below (T20.setTop (mkF m 33 #[.val (.ref a1)] [(.long w7), (.long (((((w1 + w2) + w3) + w4) + w5) + w6))])) _
      refine XS.ladd X20.here hx rfl (hb hby d4_33) rfl ?_
      exact k)
  obtain ⟨fs, hr, hrun, hended, hW, hsame⟩ := X20.leave (v := some (.long ((((((w1 + w2) + w3) + w4) + w5) + w6) + w7))) (fun h => by rw [Bd.returns] at h; cases h)
  refine ⟨_, _, ac22 _ ?_, hrun, hended, _, _, rfl, ?_, ⟨_, rfl⟩, hW, hsame.mono (by decide) (by decide)⟩
  · show Steps p.tables e below (T20.setTop (mkF m 34 #[.val (.ref a1)] [(.long ((((((w1 + w2) + w3) + w4) + w5) + w6) + w7))])) _
    exact retOut X20 hx Bd.returns rfl (Or.inr (Or.inl ⟨rfl, rfl, _, rfl⟩)) (hb hby d4_34) hr
  · show Q4 Z a1 w1 w2 w3 w4 w5 w6 w7 h0 n0 _ T20.heap _
    rw [e20]
    exact ⟨rfl, N0, rfl⟩
theorem ef_rm0 (m : MethodId) (x0 : Int64) (x1 : Int64) (x2 : Int32) : entryFrame m #[(.long x0), (.long x1), (.int x2)] maxLocals = mkF m 0 #[.val (.long x0), .second, .val (.long x1), .second, .val (.int x2), .unset, .unset, .unset, .unset, .unset] [] := by first | (simp [entryFrame, mkF, argsToLocals, Value.category, maxLocals]; done) | rfl
def Q0 (Z : State) (q1 : Int64) (q2 : Int64) (p3 : Int32) (h0 : Heap) (n0 : Nat) (v : Option Value) (h : Heap) (L : List Loc) : Prop := v = some (.int 1) ∧ Fr n0 L
set_option maxRecDepth 65536 in
set_option maxHeartbeats 40000000 in
theorem rm0 (l : Launch) (Z : State) (a0 : Array Value) (hw : ∀ d ∈ tables_1, d.before a0 Z = true) (ws : List Jvm.Cond) (q1 : Int64) (q2 : Int64) (p3 : Int32) (h0 : Heap) (n0 : Nat) (Z0 : n0 ≤ h0.size) :
    MetFree l x (head1 (Jvm.Cond.code x code maxLocals ret :: ws) room_1) (fun a U => a = #[(.long q1), (.long q2), (.int p3)] ∧ Z.Warmed39 U.vm ∧ U.heap = h0) (fun _ _ _ _ _ => True) (fun _ U o U' => ∃ v L, o = .returned v ∧ Q0 Z q1 q2 p3 h0 n0 v U'.heap L ∧ FrameEnd U o U' L room_1.cells room_1.slots) := by
  refine MetFree.of_bodySF (plainFor_of_name pn_0) hisR ?_
  intro p e s m args below meth c s₁ Bd hml0 hP hK
  obtain ⟨rfl, hZ, hh⟩ := hP
  have hx := Bd.exec
  have hby := Bd.bytes
  have hml : c.maxLocals = 10 := hml0
  have hown : s.vm.findClass "com/example/termwright/termwright/PartSizesTotalPinLaw" = some m.cls := findClass_of_methodNamed Bd.named
  have hnm := (name_of_methodNamed Bd.named Bd.method).1
  have X0 : Stand p l e room_1 s m #[(.long q1), (.long q2), (.int p3)] below meth c s₁ [] 0 0 := Stand.of_body Bd
  have e0 : s₁.heap = h0 := by rw [← hh, Bd.state]; rfl
  have N0 := Fr.nil n0
  have a0s : ∀ t, Steps p.tables e below (s₁.setTop (mkF m 0 #[.val (.long q1), .second, .val (.long q2), .second, .val (.int p3), .unset, .unset, .unset, .unset, .unset] [])) t → Steps p.tables e below (s₁.setTop (entryFrame m #[(.long q1), (.long q2), (.int p3)] maxLocals)) t := fun t k => castTop (ef_rm0 m q1 q2 p3) k
  obtain ⟨kn, hk7, hkn⟩ := own_k_is p3
  have ac1 : ∀ t, Steps p.tables e below (s₁.setTop (mkF m 12 #[.val (.long q1), .second, .val (.long q2), .second, .val (.int p3), .val (.int ((p3 &&& (2147483647 : Int32)) % (7 : Int32))), .unset, .unset, .unset, .unset] [(.int (7 : Int32))])) t → Steps p.tables e below (s₁.setTop (entryFrame m #[(.long q1), (.long q2), (.int p3)] maxLocals)) t := fun t k => a0s t (by
      show Steps p.tables e below (s₁.setTop (mkF m 0 #[.val (.long q1), .second, .val (.long q2), .second, .val (.int p3), .unset, .unset, .unset, .unset, .unset] [])) _
      refine XS.iload X0.here hx rfl (hb hby at_0) rfl ?_
      show Steps p.tables e below (s₁.setTop (mkF m 2 #[.val (.long q1), .second, .val (.long q2), .second, .val (.int p3), .unset, .unset, .unset, .unset, .unset] [(.int p3)])) _
      refine X0.ldcInt hx hown (mvT hZ (hw _ (List.mem_of_getElem? (i := 0) rfl))) (g := (mkF m 2 #[.val (.long q1), .second, .val (.long q2), .second, .val (.int p3), .unset, .unset, .unset, .unset, .unset] [(.int p3)])) rfl (hb hby at_2) _ ?_
      show Steps p.tables e below (s₁.setTop (mkF m 4 #[.val (.long q1), .second, .val (.long q2), .second, .val (.int p3), .unset, .unset, .unset, .unset, .unset] [(.int (2147483647 : Int32)), (.int p3)])) _
      refine XS.iand X0.here hx rfl (hb hby at_4) rfl ?_
      show Steps p.tables e below (s₁.setTop (mkF m 5 #[.val (.long q1), .second, .val (.long q2), .second, .val (.int p3), .unset, .unset, .unset, .unset, .unset] [(.int (p3 &&& (2147483647 : Int32)))])) _
      refine XS.bipush X0.here hx rfl (hb hby at_5) ?_
      show Steps p.tables e below (s₁.setTop (mkF m 7 #[.val (.long q1), .second, .val (.long q2), .second, .val (.int p3), .unset, .unset, .unset, .unset, .unset] [(.int (7 : Int32)), (.int (p3 &&& (2147483647 : Int32)))])) _
      refine iremM X0 hx rfl (hb hby at_7) rfl (by decide) ?_
      show Steps p.tables e below (s₁.setTop (mkF m 8 #[.val (.long q1), .second, .val (.long q2), .second, .val (.int p3), .unset, .unset, .unset, .unset, .unset] [(.int ((p3 &&& (2147483647 : Int32)) % (7 : Int32)))])) _
      refine XS.istore X0.here hx rfl (hb hby at_8) rfl (l' := #[.val (.long q1), .second, .val (.long q2), .second, .val (.int p3), .val (.int ((p3 &&& (2147483647 : Int32)) % (7 : Int32))), .unset, .unset, .unset, .unset]) rfl ?_
      show Steps p.tables e below (s₁.setTop (mkF m 10 #[.val (.long q1), .second, .val (.long q2), .second, .val (.int p3), .val (.int ((p3 &&& (2147483647 : Int32)) % (7 : Int32))), .unset, .unset, .unset, .unset] [])) _
      refine XS.bipush X0.here hx rfl (hb hby at_10) ?_
      exact k)
  obtain ⟨T2, h2, k2, X2, e2, E2, A2, st2⟩ := newP X0 hx hZ (hw _ (List.mem_of_getElem? (i := 1) rfl)) e0 (g := (mkF m 12 #[.val (.long q1), .second, .val (.long q2), .second, .val (.int p3), .val (.int ((p3 &&& (2147483647 : Int32)) % (7 : Int32))), .unset, .unset, .unset, .unset] [(.int (7 : Int32))])) rfl (hb hby at_12) rfl (by decide) (cap := 7) (by decide) (by decide) (by decide) (by decide)
  obtain ⟨b2, g2⟩ : ∃ z, z = h0.size := ⟨_, rfl⟩
  rw [← g2] at A2 st2
  have g_b2 : n0 ≤ b2 := Nat.le_trans Z0 (Nat.le_of_eq g2.symm)
  have Z2 : n0 ≤ h2.size := Nat.le_trans Z0 E2.1
  have V2 : own_Ar Z h2 b2 .long 7 (fun _ => (.long (0 : Int64))) := own_Ar.new A2 rfl
  have ac3 : ∀ t, Steps p.tables e below (T2.setTop (mkF m 14 #[.val (.long q1), .second, .val (.long q2), .second, .val (.int p3), .val (.int ((p3 &&& (2147483647 : Int32)) % (7 : Int32))), .unset, .unset, .unset, .unset] [(.ref b2)])) t → Steps p.tables e below (s₁.setTop (entryFrame m #[(.long q1), (.long q2), (.int p3)] maxLocals)) t := fun t k => ac1 t (st2 t k)
  have ac4 : ∀ t, Steps p.tables e below (T2.setTop (mkF m 20 #[.val (.long q1), .second, .val (.long q2), .second, .val (.int p3), .val (.int ((p3 &&& (2147483647 : Int32)) % (7 : Int32))), .val (.ref b2), .unset, .unset, .unset] [(.long q2), (.int (0 : Int32)), (.ref b2)])) t → Steps p.tables e below (s₁.setTop (entryFrame m #[(.long q1), (.long q2), (.int p3)] maxLocals)) t := fun t k => ac3 t (by
      show Steps p.tables e below (T2.setTop (mkF m 14 #[.val (.long q1), .second, .val (.long q2), .second, .val (.int p3), .val (.int ((p3 &&& (2147483647 : Int32)) % (7 : Int32))), .unset, .unset, .unset, .unset] [(.ref b2)])) _
      refine XS.astore X2.here hx rfl (hb hby at_14) rfl rfl (l' := #[.val (.long q1), .second, .val (.long q2), .second, .val (.int p3), .val (.int ((p3 &&& (2147483647 : Int32)) % (7 : Int32))), .val (.ref b2), .unset, .unset, .unset]) rfl ?_
      show Steps p.tables e below (T2.setTop (mkF m 16 #[.val (.long q1), .second, .val (.long q2), .second, .val (.int p3), .val (.int ((p3 &&& (2147483647 : Int32)) % (7 : Int32))), .val (.ref b2), .unset, .unset, .unset] [])) _
      refine XS.aload X2.here hx rfl (hb hby at_16) rfl rfl ?_
      show Steps p.tables e below (T2.setTop (mkF m 18 #[.val (.long q1), .second, .val (.long q2), .second, .val (.int p3), .val (.int ((p3 &&& (2147483647 : Int32)) % (7 : Int32))), .val (.ref b2), .unset, .unset, .unset] [(.ref b2)])) _
      refine XS.iconst X2.here hx rfl (hb hby at_18) ?_
      show Steps p.tables e below (T2.setTop (mkF m 19 #[.val (.long q1), .second, .val (.long q2), .second, .val (.int p3), .val (.int ((p3 &&& (2147483647 : Int32)) % (7 : Int32))), .val (.ref b2), .unset, .unset, .unset] [(.int (0 : Int32)), (.ref b2)])) _
      refine XS.lloadN X2.here hx rfl (hb hby at_19) rfl ?_
      exact k)
  obtain ⟨cl5, Ac5, hin5, -⟩ := V2.at (j := (0 : Int32)) (i := 0) (by decide) (by decide)
  obtain ⟨T5, h5, X5, e5, W5, st5⟩ := stJ X2 hx hZ e2 Ac5 (j := (0 : Int32)) hin5 (g := (mkF m 20 #[.val (.long q1), .second, .val (.long q2), .second, .val (.int p3), .val (.int ((p3 &&& (2147483647 : Int32)) % (7 : Int32))), .val (.ref b2), .unset, .unset, .unset] [(.long q2), (.int (0 : Int32)), (.ref b2)])) rfl rfl (hb hby at_20)
  have V5 := V2.set (i := 0) (by decide) W5 rfl
  have N5 := Fr.snoc X5 N0 g_b2
  have Z5 : n0 ≤ h5.size := Nat.le_trans Z2 (Keep.of_wr W5).1
  have ac6 : ∀ t, Steps p.tables e below (T5.setTop (mkF m 21 #[.val (.long q1), .second, .val (.long q2), .second, .val (.int p3), .val (.int ((p3 &&& (2147483647 : Int32)) % (7 : Int32))), .val (.ref b2), .unset, .unset, .unset] [])) t → Steps p.tables e below (s₁.setTop (entryFrame m #[(.long q1), (.long q2), (.int p3)] maxLocals)) t := fun t k => ac4 t (st5 t k)
  have ac7 : ∀ t, Steps p.tables e below (T5.setTop (mkF m 25 #[.val (.long q1), .second, .val (.long q2), .second, .val (.int p3), .val (.int ((p3 &&& (2147483647 : Int32)) % (7 : Int32))), .val (.ref b2), .unset, .unset, .unset] [(.long q2), (.int (1 : Int32)), (.ref b2)])) t → Steps p.tables e below (s₁.setTop (entryFrame m #[(.long q1), (.long q2), (.int p3)] maxLocals)) t := fun t k => ac6 t (by
      show Steps p.tables e below (T5.setTop (mkF m 21 #[.val (.long q1), .second, .val (.long q2), .second, .val (.int p3), .val (.int ((p3 &&& (2147483647 : Int32)) % (7 : Int32))), .val (.ref b2), .unset, .unset, .unset] [])) _
      refine XS.aload X5.here hx rfl (hb hby at_21) rfl rfl ?_
      show Steps p.tables e below (T5.setTop (mkF m 23 #[.val (.long q1), .second, .val (.long q2), .second, .val (.int p3), .val (.int ((p3 &&& (2147483647 : Int32)) % (7 : Int32))), .val (.ref b2), .unset, .unset, .unset] [(.ref b2)])) _
      refine XS.iconst X5.here hx rfl (hb hby at_23) ?_
      show Steps p.tables e below (T5.setTop (mkF m 24 #[.val (.long q1), .second, .val (.long q2), .second, .val (.int p3), .val (.int ((p3 &&& (2147483647 : Int32)) % (7 : Int32))), .val (.ref b2), .unset, .unset, .unset] [(.int (1 : Int32)), (.ref b2)])) _
      refine XS.lloadN X5.here hx rfl (hb hby at_24) rfl ?_
      exact k)
  obtain ⟨cl8, Ac8, hin8, -⟩ := V5.at (j := (1 : Int32)) (i := 1) (by decide) (by decide)
  obtain ⟨T8, h8, X8, e8, W8, st8⟩ := stJ X5 hx hZ e5 Ac8 (j := (1 : Int32)) hin8 (g := (mkF m 25 #[.val (.long q1), .second, .val (.long q2), .second, .val (.int p3), .val (.int ((p3 &&& (2147483647 : Int32)) % (7 : Int32))), .val (.ref b2), .unset, .unset, .unset] [(.long q2), (.int (1 : Int32)), (.ref b2)])) rfl rfl (hb hby at_25)
  have V8 := V5.set (i := 1) (by decide) W8 rfl
  have N8 := Fr.snoc X8 N5 g_b2
  have Z8 : n0 ≤ h8.size := Nat.le_trans Z5 (Keep.of_wr W8).1
  have ac9 : ∀ t, Steps p.tables e below (T8.setTop (mkF m 26 #[.val (.long q1), .second, .val (.long q2), .second, .val (.int p3), .val (.int ((p3 &&& (2147483647 : Int32)) % (7 : Int32))), .val (.ref b2), .unset, .unset, .unset] [])) t → Steps p.tables e below (s₁.setTop (entryFrame m #[(.long q1), (.long q2), (.int p3)] maxLocals)) t := fun t k => ac7 t (st8 t k)
  have ac10 : ∀ t, Steps p.tables e below (T8.setTop (mkF m 30 #[.val (.long q1), .second, .val (.long q2), .second, .val (.int p3), .val (.int ((p3 &&& (2147483647 : Int32)) % (7 : Int32))), .val (.ref b2), .unset, .unset, .unset] [(.long q2), (.int (2 : Int32)), (.ref b2)])) t → Steps p.tables e below (s₁.setTop (entryFrame m #[(.long q1), (.long q2), (.int p3)] maxLocals)) t := fun t k => ac9 t (by
      show Steps p.tables e below (T8.setTop (mkF m 26 #[.val (.long q1), .second, .val (.long q2), .second, .val (.int p3), .val (.int ((p3 &&& (2147483647 : Int32)) % (7 : Int32))), .val (.ref b2), .unset, .unset, .unset] [])) _
      refine XS.aload X8.here hx rfl (hb hby at_26) rfl rfl ?_
      show Steps p.tables e below (T8.setTop (mkF m 28 #[.val (.long q1), .second, .val (.long q2), .second, .val (.int p3), .val (.int ((p3 &&& (2147483647 : Int32)) % (7 : Int32))), .val (.ref b2), .unset, .unset, .unset] [(.ref b2)])) _
      refine XS.iconst X8.here hx rfl (hb hby at_28) ?_
      show Steps p.tables e below (T8.setTop (mkF m 29 #[.val (.long q1), .second, .val (.long q2), .second, .val (.int p3), .val (.int ((p3 &&& (2147483647 : Int32)) % (7 : Int32))), .val (.ref b2), .unset, .unset, .unset] [(.int (2 : Int32)), (.ref b2)])) _
      refine XS.lloadN X8.here hx rfl (hb hby at_29) rfl ?_
      exact k)
  obtain ⟨cl11, Ac11, hin11, -⟩ := V8.at (j := (2 : Int32)) (i := 2) (by decide) (by decide)
  obtain ⟨T11, h11, X11, e11, W11, st11⟩ := stJ X8 hx hZ e8 Ac11 (j := (2 : Int32)) hin11 (g := (mkF m 30 #[.val (.long q1), .second, .val (.long q2), .second, .val (.int p3), .val (.int ((p3 &&& (2147483647 : Int32)) % (7 : Int32))), .val (.ref b2), .unset, .unset, .unset] [(.long q2), (.int (2 : Int32)), (.ref b2)])) rfl rfl (hb hby at_30)
  have V11 := V8.set (i := 2) (by decide) W11 rfl
  have N11 := Fr.snoc X11 N8 g_b2
  have Z11 : n0 ≤ h11.size := Nat.le_trans Z8 (Keep.of_wr W11).1
  have ac12 : ∀ t, Steps p.tables e below (T11.setTop (mkF m 31 #[.val (.long q1), .second, .val (.long q2), .second, .val (.int p3), .val (.int ((p3 &&& (2147483647 : Int32)) % (7 : Int32))), .val (.ref b2), .unset, .unset, .unset] [])) t → Steps p.tables e below (s₁.setTop (entryFrame m #[(.long q1), (.long q2), (.int p3)] maxLocals)) t := fun t k => ac10 t (st11 t k)
  have ac13 : ∀ t, Steps p.tables e below (T11.setTop (mkF m 35 #[.val (.long q1), .second, .val (.long q2), .second, .val (.int p3), .val (.int ((p3 &&& (2147483647 : Int32)) % (7 : Int32))), .val (.ref b2), .unset, .unset, .unset] [(.long q2), (.int (3 : Int32)), (.ref b2)])) t → Steps p.tables e below (s₁.setTop (entryFrame m #[(.long q1), (.long q2), (.int p3)] maxLocals)) t := fun t k => ac12 t (by
      show Steps p.tables e below (T11.setTop (mkF m 31 #[.val (.long q1), .second, .val (.long q2), .second, .val (.int p3), .val (.int ((p3 &&& (2147483647 : Int32)) % (7 : Int32))), .val (.ref b2), .unset, .unset, .unset] [])) _
      refine XS.aload X11.here hx rfl (hb hby at_31) rfl rfl ?_
      show Steps p.tables e below (T11.setTop (mkF m 33 #[.val (.long q1), .second, .val (.long q2), .second, .val (.int p3), .val (.int ((p3 &&& (2147483647 : Int32)) % (7 : Int32))), .val (.ref b2), .unset, .unset, .unset] [(.ref b2)])) _
      refine XS.iconst X11.here hx rfl (hb hby at_33) ?_
      show Steps p.tables e below (T11.setTop (mkF m 34 #[.val (.long q1), .second, .val (.long q2), .second, .val (.int p3), .val (.int ((p3 &&& (2147483647 : Int32)) % (7 : Int32))), .val (.ref b2), .unset, .unset, .unset] [(.int (3 : Int32)), (.ref b2)])) _
      refine XS.lloadN X11.here hx rfl (hb hby at_34) rfl ?_
      exact k)
  obtain ⟨cl14, Ac14, hin14, -⟩ := V11.at (j := (3 : Int32)) (i := 3) (by decide) (by decide)
  obtain ⟨T14, h14, X14, e14, W14, st14⟩ := stJ X11 hx hZ e11 Ac14 (j := (3 : Int32)) hin14 (g := (mkF m 35 #[.val (.long q1), .second, .val (.long q2), .second, .val (.int p3), .val (.int ((p3 &&& (2147483647 : Int32)) % (7 : Int32))), .val (.ref b2), .unset, .unset, .unset] [(.long q2), (.int (3 : Int32)), (.ref b2)])) rfl rfl (hb hby at_35)
  have V14 := V11.set (i := 3) (by decide) W14 rfl
  have N14 := Fr.snoc X14 N11 g_b2
  have Z14 : n0 ≤ h14.size := Nat.le_trans Z11 (Keep.of_wr W14).1
  have ac15 : ∀ t, Steps p.tables e below (T14.setTop (mkF m 36 #[.val (.long q1), .second, .val (.long q2), .second, .val (.int p3), .val (.int ((p3 &&& (2147483647 : Int32)) % (7 : Int32))), .val (.ref b2), .unset, .unset, .unset] [])) t → Steps p.tables e below (s₁.setTop (entryFrame m #[(.long q1), (.long q2), (.int p3)] maxLocals)) t := fun t k => ac13 t (st14 t k)
  have ac16 : ∀ t, Steps p.tables e below (T14.setTop (mkF m 40 #[.val (.long q1), .second, .val (.long q2), .second, .val (.int p3), .val (.int ((p3 &&& (2147483647 : Int32)) % (7 : Int32))), .val (.ref b2), .unset, .unset, .unset] [(.long q2), (.int (4 : Int32)), (.ref b2)])) t → Steps p.tables e below (s₁.setTop (entryFrame m #[(.long q1), (.long q2), (.int p3)] maxLocals)) t := fun t k => ac15 t (by
      show Steps p.tables e below (T14.setTop (mkF m 36 #[.val (.long q1), .second, .val (.long q2), .second, .val (.int p3), .val (.int ((p3 &&& (2147483647 : Int32)) % (7 : Int32))), .val (.ref b2), .unset, .unset, .unset] [])) _
      refine XS.aload X14.here hx rfl (hb hby at_36) rfl rfl ?_
      show Steps p.tables e below (T14.setTop (mkF m 38 #[.val (.long q1), .second, .val (.long q2), .second, .val (.int p3), .val (.int ((p3 &&& (2147483647 : Int32)) % (7 : Int32))), .val (.ref b2), .unset, .unset, .unset] [(.ref b2)])) _
      refine XS.iconst X14.here hx rfl (hb hby at_38) ?_
      show Steps p.tables e below (T14.setTop (mkF m 39 #[.val (.long q1), .second, .val (.long q2), .second, .val (.int p3), .val (.int ((p3 &&& (2147483647 : Int32)) % (7 : Int32))), .val (.ref b2), .unset, .unset, .unset] [(.int (4 : Int32)), (.ref b2)])) _
      refine XS.lloadN X14.here hx rfl (hb hby at_39) rfl ?_
      exact k)
  obtain ⟨cl17, Ac17, hin17, -⟩ := V14.at (j := (4 : Int32)) (i := 4) (by decide) (by decide)
  obtain ⟨T17, h17, X17, e17, W17, st17⟩ := stJ X14 hx hZ e14 Ac17 (j := (4 : Int32)) hin17 (g := (mkF m 40 #[.val (.long q1), .second, .val (.long q2), .second, .val (.int p3), .val (.int ((p3 &&& (2147483647 : Int32)) % (7 : Int32))), .val (.ref b2), .unset, .unset, .unset] [(.long q2), (.int (4 : Int32)), (.ref b2)])) rfl rfl (hb hby at_40)
  have V17 := V14.set (i := 4) (by decide) W17 rfl
  have N17 := Fr.snoc X17 N14 g_b2
  have Z17 : n0 ≤ h17.size := Nat.le_trans Z14 (Keep.of_wr W17).1
  have ac18 : ∀ t, Steps p.tables e below (T17.setTop (mkF m 41 #[.val (.long q1), .second, .val (.long q2), .second, .val (.int p3), .val (.int ((p3 &&& (2147483647 : Int32)) % (7 : Int32))), .val (.ref b2), .unset, .unset, .unset] [])) t → Steps p.tables e below (s₁.setTop (entryFrame m #[(.long q1), (.long q2), (.int p3)] maxLocals)) t := fun t k => ac16 t (st17 t k)
  have ac19 : ∀ t, Steps p.tables e below (T17.setTop (mkF m 45 #[.val (.long q1), .second, .val (.long q2), .second, .val (.int p3), .val (.int ((p3 &&& (2147483647 : Int32)) % (7 : Int32))), .val (.ref b2), .unset, .unset, .unset] [(.long q2), (.int (5 : Int32)), (.ref b2)])) t → Steps p.tables e below (s₁.setTop (entryFrame m #[(.long q1), (.long q2), (.int p3)] maxLocals)) t := fun t k => ac18 t (by
      show Steps p.tables e below (T17.setTop (mkF m 41 #[.val (.long q1), .second, .val (.long q2), .second, .val (.int p3), .val (.int ((p3 &&& (2147483647 : Int32)) % (7 : Int32))), .val (.ref b2), .unset, .unset, .unset] [])) _
      refine XS.aload X17.here hx rfl (hb hby at_41) rfl rfl ?_
      show Steps p.tables e below (T17.setTop (mkF m 43 #[.val (.long q1), .second, .val (.long q2), .second, .val (.int p3), .val (.int ((p3 &&& (2147483647 : Int32)) % (7 : Int32))), .val (.ref b2), .unset, .unset, .unset] [(.ref b2)])) _
      refine XS.iconst X17.here hx rfl (hb hby at_43) ?_
      show Steps p.tables e below (T17.setTop (mkF m 44 #[.val (.long q1), .second, .val (.long q2), .second, .val (.int p3), .val (.int ((p3 &&& (2147483647 : Int32)) % (7 : Int32))), .val (.ref b2), .unset, .unset, .unset] [(.int (5 : Int32)), (.ref b2)])) _
      refine XS.lloadN X17.here hx rfl (hb hby at_44) rfl ?_
      exact k)
  obtain ⟨cl20, Ac20, hin20, -⟩ := V17.at (j := (5 : Int32)) (i := 5) (by decide) (by decide)
  obtain ⟨T20, h20, X20, e20, W20, st20⟩ := stJ X17 hx hZ e17 Ac20 (j := (5 : Int32)) hin20 (g := (mkF m 45 #[.val (.long q1), .second, .val (.long q2), .second, .val (.int p3), .val (.int ((p3 &&& (2147483647 : Int32)) % (7 : Int32))), .val (.ref b2), .unset, .unset, .unset] [(.long q2), (.int (5 : Int32)), (.ref b2)])) rfl rfl (hb hby at_45)
  have V20 := V17.set (i := 5) (by decide) W20 rfl
  have N20 := Fr.snoc X20 N17 g_b2
  have Z20 : n0 ≤ h20.size := Nat.le_trans Z17 (Keep.of_wr W20).1
  have ac21 : ∀ t, Steps p.tables e below (T20.setTop (mkF m 46 #[.val (.long q1), .second, .val (.long q2), .second, .val (.int p3), .val (.int ((p3 &&& (2147483647 : Int32)) % (7 : Int32))), .val (.ref b2), .unset, .unset, .unset] [])) t → Steps p.tables e below (s₁.setTop (entryFrame m #[(.long q1), (.long q2), (.int p3)] maxLocals)) t := fun t k => ac19 t (st20 t k)
  have ac22 : ∀ t, Steps p.tables e below (T20.setTop (mkF m 51 #[.val (.long q1), .second, .val (.long q2), .second, .val (.int p3), .val (.int ((p3 &&& (2147483647 : Int32)) % (7 : Int32))), .val (.ref b2), .unset, .unset, .unset] [(.long q2), (.int (6 : Int32)), (.ref b2)])) t → Steps p.tables e below (s₁.setTop (entryFrame m #[(.long q1), (.long q2), (.int p3)] maxLocals)) t := fun t k => ac21 t (by
      show Steps p.tables e below (T20.setTop (mkF m 46 #[.val (.long q1), .second, .val (.long q2), .second, .val (.int p3), .val (.int ((p3 &&& (2147483647 : Int32)) % (7 : Int32))), .val (.ref b2), .unset, .unset, .unset] [])) _
      refine XS.aload X20.here hx rfl (hb hby at_46) rfl rfl ?_
      show Steps p.tables e below (T20.setTop (mkF m 48 #[.val (.long q1), .second, .val (.long q2), .second, .val (.int p3), .val (.int ((p3 &&& (2147483647 : Int32)) % (7 : Int32))), .val (.ref b2), .unset, .unset, .unset] [(.ref b2)])) _
      refine XS.bipush X20.here hx rfl (hb hby at_48) ?_
      show Steps p.tables e below (T20.setTop (mkF m 50 #[.val (.long q1), .second, .val (.long q2), .second, .val (.int p3), .val (.int ((p3 &&& (2147483647 : Int32)) % (7 : Int32))), .val (.ref b2), .unset, .unset, .unset] [(.int (6 : Int32)), (.ref b2)])) _
      refine XS.lloadN X20.here hx rfl (hb hby at_50) rfl ?_
      exact k)
  obtain ⟨cl23, Ac23, hin23, -⟩ := V20.at (j := (6 : Int32)) (i := 6) (by decide) (by decide)
  obtain ⟨T23, h23, X23, e23, W23, st23⟩ := stJ X20 hx hZ e20 Ac23 (j := (6 : Int32)) hin23 (g := (mkF m 51 #[.val (.long q1), .second, .val (.long q2), .second, .val (.int p3), .val (.int ((p3 &&& (2147483647 : Int32)) % (7 : Int32))), .val (.ref b2), .unset, .unset, .unset] [(.long q2), (.int (6 : Int32)), (.ref b2)])) rfl rfl (hb hby at_51)
  have V23 := V20.set (i := 6) (by decide) W23 rfl
  have N23 := Fr.snoc X23 N20 g_b2
  have Z23 : n0 ≤ h23.size := Nat.le_trans Z20 (Keep.of_wr W23).1
  have ac24 : ∀ t, Steps p.tables e below (T23.setTop (mkF m 52 #[.val (.long q1), .second, .val (.long q2), .second, .val (.int p3), .val (.int ((p3 &&& (2147483647 : Int32)) % (7 : Int32))), .val (.ref b2), .unset, .unset, .unset] [])) t → Steps p.tables e below (s₁.setTop (entryFrame m #[(.long q1), (.long q2), (.int p3)] maxLocals)) t := fun t k => ac22 t (st23 t k)
  have V25 : own_Ar Z h23 b2 .long 7 (fun _ => .long q2) := V23.eq (fun i hi => match i, hi with | 0, _ => rfl | 1, _ => rfl | 2, _ => rfl | 3, _ => rfl | 4, _ => rfl | 5, _ => rfl | 6, _ => rfl)
  have ac26 : ∀ t, Steps p.tables e below (T23.setTop (mkF m 57 #[.val (.long q1), .second, .val (.long q2), .second, .val (.int p3), .val (.int ((p3 &&& (2147483647 : Int32)) % (7 : Int32))), .val (.ref b2), .unset, .unset, .unset] [(.long q1), (.int ((p3 &&& (2147483647 : Int32)) % (7 : Int32))), (.ref b2)])) t → Steps p.tables e below (s₁.setTop (entryFrame m #[(.long q1), (.long q2), (.int p3)] maxLocals)) t := fun t k => ac24 t (by
      show Steps p.tables e below (T23.setTop (mkF m 52 #[.val (.long q1), .second, .val (.long q2), .second, .val (.int p3), .val (.int ((p3 &&& (2147483647 : Int32)) % (7 : Int32))), .val (.ref b2), .unset, .unset, .unset] [])) _
      refine XS.aload X23.here hx rfl (hb hby at_52) rfl rfl ?_
      show Steps p.tables e below (T23.setTop (mkF m 54 #[.val (.long q1), .second, .val (.long q2), .second, .val (.int p3), .val (.int ((p3 &&& (2147483647 : Int32)) % (7 : Int32))), .val (.ref b2), .unset, .unset, .unset] [(.ref b2)])) _
      refine XS.iload X23.here hx rfl (hb hby at_54) rfl ?_
      show Steps p.tables e below (T23.setTop (mkF m 56 #[.val (.long q1), .second, .val (.long q2), .second, .val (.int p3), .val (.int ((p3 &&& (2147483647 : Int32)) % (7 : Int32))), .val (.ref b2), .unset, .unset, .unset] [(.int ((p3 &&& (2147483647 : Int32)) % (7 : Int32))), (.ref b2)])) _
      refine XS.lloadN X23.here hx rfl (hb hby at_56) rfl ?_
      exact k)
  obtain ⟨cl27, Ac27, hin27, -⟩ := V25.at (j := ((p3 &&& (2147483647 : Int32)) % (7 : Int32))) (i := kn) hkn hk7
  obtain ⟨T27, h27, X27, e27, W27, st27⟩ := stJ X23 hx hZ e23 Ac27 (j := ((p3 &&& (2147483647 : Int32)) % (7 : Int32))) hin27 (g := (mkF m 57 #[.val (.long q1), .second, .val (.long q2), .second, .val (.int p3), .val (.int ((p3 &&& (2147483647 : Int32)) % (7 : Int32))), .val (.ref b2), .unset, .unset, .unset] [(.long q1), (.int ((p3 &&& (2147483647 : Int32)) % (7 : Int32))), (.ref b2)])) rfl rfl (hb hby at_57)
  have V27 := V25.set (i := kn) hkn W27 rfl
  have N27 := Fr.snoc X27 N23 g_b2
  have Z27 : n0 ≤ h27.size := Nat.le_trans Z23 (Keep.of_wr W27).1
  have ac28 : ∀ t, Steps p.tables e below (T27.setTop (mkF m 58 #[.val (.long q1), .second, .val (.long q2), .second, .val (.int p3), .val (.int ((p3 &&& (2147483647 : Int32)) % (7 : Int32))), .val (.ref b2), .unset, .unset, .unset] [])) t → Steps p.tables e below (s₁.setTop (entryFrame m #[(.long q1), (.long q2), (.int p3)] maxLocals)) t := fun t k => ac26 t (st27 t k)
  obtain ⟨T29, h29, X29, e29, E29, A29, D29, -, st29⟩ := newO X27 hx hZ hown (hw _ (List.mem_of_getElem? (i := 2) rfl)) (hw _ (List.mem_of_getElem? (i := 3) rfl)) (hw _ (List.mem_of_getElem? (i := 4) rfl)) e27 (g := (mkF m 58 #[.val (.long q1), .second, .val (.long q2), .second, .val (.int p3), .val (.int ((p3 &&& (2147483647 : Int32)) % (7 : Int32))), .val (.ref b2), .unset, .unset, .unset] [])) rfl (hb hby at_58) (by decide) (by decide)
  obtain ⟨b29, g29⟩ : ∃ z, z = h27.size := ⟨_, rfl⟩
  rw [← g29] at A29 D29 st29
  have g_b29 : n0 ≤ b29 := Nat.le_trans Z27 (Nat.le_of_eq g29.symm)
  have ne_b2_b29 : b2 ≠ b29 := Nat.ne_of_lt (Nat.lt_of_lt_of_le V27.lt (Nat.le_of_eq g29.symm))
  have Vf30 := V27.ext E29
  have Z29 : n0 ≤ h29.size := Nat.le_trans Z27 E29.1
  have F_stored_b29 : Fld Z h29 b29 "com/example/termwright/termwright/PartSizes" "stored" "J" (.long (0 : Int64)) := D29 (Or.inr (hw _ (List.mem_of_getElem? (i := 17) rfl))) (ty := .long) (by decide)
  have F_postings_b29 : Fld Z h29 b29 "com/example/termwright/termwright/PartSizes" "postings" "J" (.long (0 : Int64)) := D29 (Or.inr (hw _ (List.mem_of_getElem? (i := 19) rfl))) (ty := .long) (by decide)
  have F_dictionary_b29 : Fld Z h29 b29 "com/example/termwright/termwright/PartSizes" "dictionary" "J" (.long (0 : Int64)) := D29 (Or.inr (hw _ (List.mem_of_getElem? (i := 21) rfl))) (ty := .long) (by decide)
  have F_lengths_b29 : Fld Z h29 b29 "com/example/termwright/termwright/PartSizes" "lengths" "J" (.long (0 : Int64)) := D29 (Or.inr (hw _ (List.mem_of_getElem? (i := 23) rfl))) (ty := .long) (by decide)
  have F_numbers_b29 : Fld Z h29 b29 "com/example/termwright/termwright/PartSizes" "numbers" "J" (.long (0 : Int64)) := D29 (Or.inr (hw _ (List.mem_of_getElem? (i := 25) rfl))) (ty := .long) (by decide)
  have F_sort_b29 : Fld Z h29 b29 "com/example/termwright/termwright/PartSizes" "sort" "J" (.long (0 : Int64)) := D29 (Or.inr (hw _ (List.mem_of_getElem? (i := 27) rfl))) (ty := .long) (by decide)
  have F_other_b29 : Fld Z h29 b29 "com/example/termwright/termwright/PartSizes" "other" "J" (.long (0 : Int64)) := D29 (Or.inr (hw _ (List.mem_of_getElem? (i := 29) rfl))) (ty := .long) (by decide)
  have ac31 : ∀ t, Steps p.tables e below (T29.setTop (mkF m 61 #[.val (.long q1), .second, .val (.long q2), .second, .val (.int p3), .val (.int ((p3 &&& (2147483647 : Int32)) % (7 : Int32))), .val (.ref b2), .unset, .unset, .unset] [(.ref b29)])) t → Steps p.tables e below (s₁.setTop (entryFrame m #[(.long q1), (.long q2), (.int p3)] maxLocals)) t := fun t k => ac28 t (st29 t k)
  have ac32 : ∀ t, Steps p.tables e below (T29.setTop (mkF m 65 #[.val (.long q1), .second, .val (.long q2), .second, .val (.int p3), .val (.int ((p3 &&& (2147483647 : Int32)) % (7 : Int32))), .val (.ref b2), .unset, .unset, .unset] [(.int (0 : Int32)), (.ref b2), (.ref b29), (.ref b29)])) t → Steps p.tables e below (s₁.setTop (entryFrame m #[(.long q1), (.long q2), (.int p3)] maxLocals)) t := fun t k => ac31 t (by
      show Steps p.tables e below (T29.setTop (mkF m 61 #[.val (.long q1), .second, .val (.long q2), .second, .val (.int p3), .val (.int ((p3 &&& (2147483647 : Int32)) % (7 : Int32))), .val (.ref b2), .unset, .unset, .unset] [(.ref b29)])) _
      refine XS.dup X29.here hx rfl (hb hby at_61) rfl rfl ?_
      show Steps p.tables e below (T29.setTop (mkF m 62 #[.val (.long q1), .second, .val (.long q2), .second, .val (.int p3), .val (.int ((p3 &&& (2147483647 : Int32)) % (7 : Int32))), .val (.ref b2), .unset, .unset, .unset] [(.ref b29), (.ref b29)])) _
      refine XS.aload X29.here hx rfl (hb hby at_62) rfl rfl ?_
      show Steps p.tables e below (T29.setTop (mkF m 64 #[.val (.long q1), .second, .val (.long q2), .second, .val (.int p3), .val (.int ((p3 &&& (2147483647 : Int32)) % (7 : Int32))), .val (.ref b2), .unset, .unset, .unset] [(.ref b2), (.ref b29), (.ref b29)])) _
      refine XS.iconst X29.here hx rfl (hb hby at_64) ?_
      exact k)
  obtain ⟨cl33, Ac33, hin33, hat33⟩ := Vf30.at (j := (0 : Int32)) (i := 0) (by decide) (by decide)
  have ac34 : ∀ t, Steps p.tables e below (T29.setTop (mkF m 69 #[.val (.long q1), .second, .val (.long q2), .second, .val (.int p3), .val (.int ((p3 &&& (2147483647 : Int32)) % (7 : Int32))), .val (.ref b2), .unset, .unset, .unset] [(.int (1 : Int32)), (.ref b2), (.long (own_at q1 q2 kn 0)), (.ref b29), (.ref b29)])) t → Steps p.tables e below (s₁.setTop (entryFrame m #[(.long q1), (.long q2), (.int p3)] maxLocals)) t := fun t k => ac32 t (by
      show Steps p.tables e below (T29.setTop (mkF m 65 #[.val (.long q1), .second, .val (.long q2), .second, .val (.int p3), .val (.int ((p3 &&& (2147483647 : Int32)) % (7 : Int32))), .val (.ref b2), .unset, .unset, .unset] [(.int (0 : Int32)), (.ref b2), (.ref b29), (.ref b29)])) _
      refine X29.laload hx (j := (0 : Int32)) (v := (.long (own_at q1 q2 kn 0))) (by rw [e29]; exact Ac33.1) (State.isArrayOf_alike hZ.alike Ac33.2.1) Ac33.2.2 hin33 (hat33.trans (congrArg some (own_ite q1 q2 kn 0))) (g := (mkF m 65 #[.val (.long q1), .second, .val (.long q2), .second, .val (.int p3), .val (.int ((p3 &&& (2147483647 : Int32)) % (7 : Int32))), .val (.ref b2), .unset, .unset, .unset] [(.int (0 : Int32)), (.ref b2), (.ref b29), (.ref b29)])) rfl rfl (hb hby at_65) _ ?_
      show Steps p.tables e below (T29.setTop (mkF m 66 #[.val (.long q1), .second, .val (.long q2), .second, .val (.int p3), .val (.int ((p3 &&& (2147483647 : Int32)) % (7 : Int32))), .val (.ref b2), .unset, .unset, .unset] [(.long (own_at q1 q2 kn 0)), (.ref b29), (.ref b29)])) _
      refine XS.aload X29.here hx rfl (hb hby at_66) rfl rfl ?_
      show Steps p.tables e below (T29.setTop (mkF m 68 #[.val (.long q1), .second, .val (.long q2), .second, .val (.int p3), .val (.int ((p3 &&& (2147483647 : Int32)) % (7 : Int32))), .val (.ref b2), .unset, .unset, .unset] [(.ref b2), (.long (own_at q1 q2 kn 0)), (.ref b29), (.ref b29)])) _
      refine XS.iconst X29.here hx rfl (hb hby at_68) ?_
      exact k)
  obtain ⟨cl35, Ac35, hin35, hat35⟩ := Vf30.at (j := (1 : Int32)) (i := 1) (by decide) (by decide)
  have ac36 : ∀ t, Steps p.tables e below (T29.setTop (mkF m 73 #[.val (.long q1), .second, .val (.long q2), .second, .val (.int p3), .val (.int ((p3 &&& (2147483647 : Int32)) % (7 : Int32))), .val (.ref b2), .unset, .unset, .unset] [(.int (2 : Int32)), (.ref b2), (.long (own_at q1 q2 kn 1)), (.long (own_at q1 q2 kn 0)), (.ref b29), (.ref b29)])) t → Steps p.tables e below (s₁.setTop (entryFrame m #[(.long q1), (.long q2), (.int p3)] maxLocals)) t := fun t k => ac34 t (by
      show Steps p.tables e below (T29.setTop (mkF m 69 #[.val (.long q1), .second, .val (.long q2), .second, .val (.int p3), .val (.int ((p3 &&& (2147483647 : Int32)) % (7 : Int32))), .val (.ref b2), .unset, .unset, .unset] [(.int (1 : Int32)), (.ref b2), (.long (own_at q1 q2 kn 0)), (.ref b29), (.ref b29)])) _
      refine X29.laload hx (j := (1 : Int32)) (v := (.long (own_at q1 q2 kn 1))) (by rw [e29]; exact Ac35.1) (State.isArrayOf_alike hZ.alike Ac35.2.1) Ac35.2.2 hin35 (hat35.trans (congrArg some (own_ite q1 q2 kn 1))) (g := (mkF m 69 #[.val (.long q1), .second, .val (.long q2), .second, .val (.int p3), .val (.int ((p3 &&& (2147483647 : Int32)) % (7 : Int32))), .val (.ref b2), .unset, .unset, .unset] [(.int (1 : Int32)), (.ref b2), (.long (own_at q1 q2 kn 0)), (.ref b29), (.ref b29)])) rfl rfl (hb hby at_69) _ ?_
      show Steps p.tables e below (T29.setTop (mkF m 70 #[.val (.long q1), .second, .val (.long q2), .second, .val (.int p3), .val (.int ((p3 &&& (2147483647 : Int32)) % (7 : Int32))), .val (.ref b2), .unset, .unset, .unset] [(.long (own_at q1 q2 kn 1)), (.long (own_at q1 q2 kn 0)), (.ref b29), (.ref b29)])) _
      refine XS.aload X29.here hx rfl (hb hby at_70) rfl rfl ?_
      show Steps p.tables e below (T29.setTop (mkF m 72 #[.val (.long q1), .second, .val (.long q2), .second, .val (.int p3), .val (.int ((p3 &&& (2147483647 : Int32)) % (7 : Int32))), .val (.ref b2), .unset, .unset, .unset] [(.ref b2), (.long (own_at q1 q2 kn 1)), (.long (own_at q1 q2 kn 0)), (.ref b29), (.ref b29)])) _
      refine XS.iconst X29.here hx rfl (hb hby at_72) ?_
      exact k)
  obtain ⟨cl37, Ac37, hin37, hat37⟩ := Vf30.at (j := (2 : Int32)) (i := 2) (by decide) (by decide)
  have ac38 : ∀ t, Steps p.tables e below (T29.setTop (mkF m 77 #[.val (.long q1), .second, .val (.long q2), .second, .val (.int p3), .val (.int ((p3 &&& (2147483647 : Int32)) % (7 : Int32))), .val (.ref b2), .unset, .unset, .unset] [(.int (3 : Int32)), (.ref b2), (.long (own_at q1 q2 kn 2)), (.long (own_at q1 q2 kn 1)), (.long (own_at q1 q2 kn 0)), (.ref b29), (.ref b29)])) t → Steps p.tables e below (s₁.setTop (entryFrame m #[(.long q1), (.long q2), (.int p3)] maxLocals)) t := fun t k => ac36 t (by
      show Steps p.tables e below (T29.setTop (mkF m 73 #[.val (.long q1), .second, .val (.long q2), .second, .val (.int p3), .val (.int ((p3 &&& (2147483647 : Int32)) % (7 : Int32))), .val (.ref b2), .unset, .unset, .unset] [(.int (2 : Int32)), (.ref b2), (.long (own_at q1 q2 kn 1)), (.long (own_at q1 q2 kn 0)), (.ref b29), (.ref b29)])) _
      refine X29.laload hx (j := (2 : Int32)) (v := (.long (own_at q1 q2 kn 2))) (by rw [e29]; exact Ac37.1) (State.isArrayOf_alike hZ.alike Ac37.2.1) Ac37.2.2 hin37 (hat37.trans (congrArg some (own_ite q1 q2 kn 2))) (g := (mkF m 73 #[.val (.long q1), .second, .val (.long q2), .second, .val (.int p3), .val (.int ((p3 &&& (2147483647 : Int32)) % (7 : Int32))), .val (.ref b2), .unset, .unset, .unset] [(.int (2 : Int32)), (.ref b2), (.long (own_at q1 q2 kn 1)), (.long (own_at q1 q2 kn 0)), (.ref b29), (.ref b29)])) rfl rfl (hb hby at_73) _ ?_
      show Steps p.tables e below (T29.setTop (mkF m 74 #[.val (.long q1), .second, .val (.long q2), .second, .val (.int p3), .val (.int ((p3 &&& (2147483647 : Int32)) % (7 : Int32))), .val (.ref b2), .unset, .unset, .unset] [(.long (own_at q1 q2 kn 2)), (.long (own_at q1 q2 kn 1)), (.long (own_at q1 q2 kn 0)), (.ref b29), (.ref b29)])) _
      refine XS.aload X29.here hx rfl (hb hby at_74) rfl rfl ?_
      show Steps p.tables e below (T29.setTop (mkF m 76 #[.val (.long q1), .second, .val (.long q2), .second, .val (.int p3), .val (.int ((p3 &&& (2147483647 : Int32)) % (7 : Int32))), .val (.ref b2), .unset, .unset, .unset] [(.ref b2), (.long (own_at q1 q2 kn 2)), (.long (own_at q1 q2 kn 1)), (.long (own_at q1 q2 kn 0)), (.ref b29), (.ref b29)])) _
      refine XS.iconst X29.here hx rfl (hb hby at_76) ?_
      exact k)
  obtain ⟨cl39, Ac39, hin39, hat39⟩ := Vf30.at (j := (3 : Int32)) (i := 3) (by decide) (by decide)
  have ac40 : ∀ t, Steps p.tables e below (T29.setTop (mkF m 81 #[.val (.long q1), .second, .val (.long q2), .second, .val (.int p3), .val (.int ((p3 &&& (2147483647 : Int32)) % (7 : Int32))), .val (.ref b2), .unset, .unset, .unset] [(.int (4 : Int32)), (.ref b2), (.long (own_at q1 q2 kn 3)), (.long (own_at q1 q2 kn 2)), (.long (own_at q1 q2 kn 1)), (.long (own_at q1 q2 kn 0)), (.ref b29), (.ref b29)])) t → Steps p.tables e below (s₁.setTop (entryFrame m #[(.long q1), (.long q2), (.int p3)] maxLocals)) t := fun t k => ac38 t (by
      show Steps p.tables e below (T29.setTop (mkF m 77 #[.val (.long q1), .second, .val (.long q2), .second, .val (.int p3), .val (.int ((p3 &&& (2147483647 : Int32)) % (7 : Int32))), .val (.ref b2), .unset, .unset, .unset] [(.int (3 : Int32)), (.ref b2), (.long (own_at q1 q2 kn 2)), (.long (own_at q1 q2 kn 1)), (.long (own_at q1 q2 kn 0)), (.ref b29), (.ref b29)])) _
      refine X29.laload hx (j := (3 : Int32)) (v := (.long (own_at q1 q2 kn 3))) (by rw [e29]; exact Ac39.1) (State.isArrayOf_alike hZ.alike Ac39.2.1) Ac39.2.2 hin39 (hat39.trans (congrArg some (own_ite q1 q2 kn 3))) (g := (mkF m 77 #[.val (.long q1), .second, .val (.long q2), .second, .val (.int p3), .val (.int ((p3 &&& (2147483647 : Int32)) % (7 : Int32))), .val (.ref b2), .unset, .unset, .unset] [(.int (3 : Int32)), (.ref b2), (.long (own_at q1 q2 kn 2)), (.long (own_at q1 q2 kn 1)), (.long (own_at q1 q2 kn 0)), (.ref b29), (.ref b29)])) rfl rfl (hb hby at_77) _ ?_
      show Steps p.tables e below (T29.setTop (mkF m 78 #[.val (.long q1), .second, .val (.long q2), .second, .val (.int p3), .val (.int ((p3 &&& (2147483647 : Int32)) % (7 : Int32))), .val (.ref b2), .unset, .unset, .unset] [(.long (own_at q1 q2 kn 3)), (.long (own_at q1 q2 kn 2)), (.long (own_at q1 q2 kn 1)), (.long (own_at q1 q2 kn 0)), (.ref b29), (.ref b29)])) _
      refine XS.aload X29.here hx rfl (hb hby at_78) rfl rfl ?_
      show Steps p.tables e below (T29.setTop (mkF m 80 #[.val (.long q1), .second, .val (.long q2), .second, .val (.int p3), .val (.int ((p3 &&& (2147483647 : Int32)) % (7 : Int32))), .val (.ref b2), .unset, .unset, .unset] [(.ref b2), (.long (own_at q1 q2 kn 3)), (.long (own_at q1 q2 kn 2)), (.long (own_at q1 q2 kn 1)), (.long (own_at q1 q2 kn 0)), (.ref b29), (.ref b29)])) _
      refine XS.iconst X29.here hx rfl (hb hby at_80) ?_
      exact k)
  obtain ⟨cl41, Ac41, hin41, hat41⟩ := Vf30.at (j := (4 : Int32)) (i := 4) (by decide) (by decide)
  have ac42 : ∀ t, Steps p.tables e below (T29.setTop (mkF m 85 #[.val (.long q1), .second, .val (.long q2), .second, .val (.int p3), .val (.int ((p3 &&& (2147483647 : Int32)) % (7 : Int32))), .val (.ref b2), .unset, .unset, .unset] [(.int (5 : Int32)), (.ref b2), (.long (own_at q1 q2 kn 4)), (.long (own_at q1 q2 kn 3)), (.long (own_at q1 q2 kn 2)), (.long (own_at q1 q2 kn 1)), (.long (own_at q1 q2 kn 0)), (.ref b29), (.ref b29)])) t → Steps p.tables e below (s₁.setTop (entryFrame m #[(.long q1), (.long q2), (.int p3)] maxLocals)) t := fun t k => ac40 t (by
      show Steps p.tables e below (T29.setTop (mkF m 81 #[.val (.long q1), .second, .val (.long q2), .second, .val (.int p3), .val (.int ((p3 &&& (2147483647 : Int32)) % (7 : Int32))), .val (.ref b2), .unset, .unset, .unset] [(.int (4 : Int32)), (.ref b2), (.long (own_at q1 q2 kn 3)), (.long (own_at q1 q2 kn 2)), (.long (own_at q1 q2 kn 1)), (.long (own_at q1 q2 kn 0)), (.ref b29), (.ref b29)])) _
      refine X29.laload hx (j := (4 : Int32)) (v := (.long (own_at q1 q2 kn 4))) (by rw [e29]; exact Ac41.1) (State.isArrayOf_alike hZ.alike Ac41.2.1) Ac41.2.2 hin41 (hat41.trans (congrArg some (own_ite q1 q2 kn 4))) (g := (mkF m 81 #[.val (.long q1), .second, .val (.long q2), .second, .val (.int p3), .val (.int ((p3 &&& (2147483647 : Int32)) % (7 : Int32))), .val (.ref b2), .unset, .unset, .unset] [(.int (4 : Int32)), (.ref b2), (.long (own_at q1 q2 kn 3)), (.long (own_at q1 q2 kn 2)), (.long (own_at q1 q2 kn 1)), (.long (own_at q1 q2 kn 0)), (.ref b29), (.ref b29)])) rfl rfl (hb hby at_81) _ ?_
      show Steps p.tables e below (T29.setTop (mkF m 82 #[.val (.long q1), .second, .val (.long q2), .second, .val (.int p3), .val (.int ((p3 &&& (2147483647 : Int32)) % (7 : Int32))), .val (.ref b2), .unset, .unset, .unset] [(.long (own_at q1 q2 kn 4)), (.long (own_at q1 q2 kn 3)), (.long (own_at q1 q2 kn 2)), (.long (own_at q1 q2 kn 1)), (.long (own_at q1 q2 kn 0)), (.ref b29), (.ref b29)])) _
      refine XS.aload X29.here hx rfl (hb hby at_82) rfl rfl ?_
      show Steps p.tables e below (T29.setTop (mkF m 84 #[.val (.long q1), .second, .val (.long q2), .second, .val (.int p3), .val (.int ((p3 &&& (2147483647 : Int32)) % (7 : Int32))), .val (.ref b2), .unset, .unset, .unset] [(.ref b2), (.long (own_at q1 q2 kn 4)), (.long (own_at q1 q2 kn 3)), (.long (own_at q1 q2 kn 2)), (.long (own_at q1 q2 kn 1)), (.long (own_at q1 q2 kn 0)), (.ref b29), (.ref b29)])) _
      refine XS.iconst X29.here hx rfl (hb hby at_84) ?_
      exact k)
  obtain ⟨cl43, Ac43, hin43, hat43⟩ := Vf30.at (j := (5 : Int32)) (i := 5) (by decide) (by decide)
  have ac44 : ∀ t, Steps p.tables e below (T29.setTop (mkF m 90 #[.val (.long q1), .second, .val (.long q2), .second, .val (.int p3), .val (.int ((p3 &&& (2147483647 : Int32)) % (7 : Int32))), .val (.ref b2), .unset, .unset, .unset] [(.int (6 : Int32)), (.ref b2), (.long (own_at q1 q2 kn 5)), (.long (own_at q1 q2 kn 4)), (.long (own_at q1 q2 kn 3)), (.long (own_at q1 q2 kn 2)), (.long (own_at q1 q2 kn 1)), (.long (own_at q1 q2 kn 0)), (.ref b29), (.ref b29)])) t → Steps p.tables e below (s₁.setTop (entryFrame m #[(.long q1), (.long q2), (.int p3)] maxLocals)) t := fun t k => ac42 t (by
      show Steps p.tables e below (T29.setTop (mkF m 85 #[.val (.long q1), .second, .val (.long q2), .second, .val (.int p3), .val (.int ((p3 &&& (2147483647 : Int32)) % (7 : Int32))), .val (.ref b2), .unset, .unset, .unset] [(.int (5 : Int32)), (.ref b2), (.long (own_at q1 q2 kn 4)), (.long (own_at q1 q2 kn 3)), (.long (own_at q1 q2 kn 2)), (.long (own_at q1 q2 kn 1)), (.long (own_at q1 q2 kn 0)), (.ref b29), (.ref b29)])) _
      refine X29.laload hx (j := (5 : Int32)) (v := (.long (own_at q1 q2 kn 5))) (by rw [e29]; exact Ac43.1) (State.isArrayOf_alike hZ.alike Ac43.2.1) Ac43.2.2 hin43 (hat43.trans (congrArg some (own_ite q1 q2 kn 5))) (g := (mkF m 85 #[.val (.long q1), .second, .val (.long q2), .second, .val (.int p3), .val (.int ((p3 &&& (2147483647 : Int32)) % (7 : Int32))), .val (.ref b2), .unset, .unset, .unset] [(.int (5 : Int32)), (.ref b2), (.long (own_at q1 q2 kn 4)), (.long (own_at q1 q2 kn 3)), (.long (own_at q1 q2 kn 2)), (.long (own_at q1 q2 kn 1)), (.long (own_at q1 q2 kn 0)), (.ref b29), (.ref b29)])) rfl rfl (hb hby at_85) _ ?_
      show Steps p.tables e below (T29.setTop (mkF m 86 #[.val (.long q1), .second, .val (.long q2), .second, .val (.int p3), .val (.int ((p3 &&& (2147483647 : Int32)) % (7 : Int32))), .val (.ref b2), .unset, .unset, .unset] [(.long (own_at q1 q2 kn 5)), (.long (own_at q1 q2 kn 4)), (.long (own_at q1 q2 kn 3)), (.long (own_at q1 q2 kn 2)), (.long (own_at q1 q2 kn 1)), (.long (own_at q1 q2 kn 0)), (.ref b29), (.ref b29)])) _
      refine XS.aload X29.here hx rfl (hb hby at_86) rfl rfl ?_
      show Steps p.tables e below (T29.setTop (mkF m 88 #[.val (.long q1), .second, .val (.long q2), .second, .val (.int p3), .val (.int ((p3 &&& (2147483647 : Int32)) % (7 : Int32))), .val (.ref b2), .unset, .unset, .unset] [(.ref b2), (.long (own_at q1 q2 kn 5)), (.long (own_at q1 q2 kn 4)), (.long (own_at q1 q2 kn 3)), (.long (own_at q1 q2 kn 2)), (.long (own_at q1 q2 kn 1)), (.long (own_at q1 q2 kn 0)), (.ref b29), (.ref b29)])) _
      refine XS.bipush X29.here hx rfl (hb hby at_88) ?_
      exact k)
  obtain ⟨cl45, Ac45, hin45, hat45⟩ := Vf30.at (j := (6 : Int32)) (i := 6) (by decide) (by decide)
  have ac46 : ∀ t, Steps p.tables e below (T29.setTop (mkF m 91 #[.val (.long q1), .second, .val (.long q2), .second, .val (.int p3), .val (.int ((p3 &&& (2147483647 : Int32)) % (7 : Int32))), .val (.ref b2), .unset, .unset, .unset] [(.long (own_at q1 q2 kn 6)), (.long (own_at q1 q2 kn 5)), (.long (own_at q1 q2 kn 4)), (.long (own_at q1 q2 kn 3)), (.long (own_at q1 q2 kn 2)), (.long (own_at q1 q2 kn 1)), (.long (own_at q1 q2 kn 0)), (.ref b29), (.ref b29)])) t → Steps p.tables e below (s₁.setTop (entryFrame m #[(.long q1), (.long q2), (.int p3)] maxLocals)) t := fun t k => ac44 t (by
      show Steps p.tables e below (T29.setTop (mkF m 90 #[.val (.long q1), .second, .val (.long q2), .second, .val (.int p3), .val (.int ((p3 &&& (2147483647 : Int32)) % (7 : Int32))), .val (.ref b2), .unset, .unset, .unset] [(.int (6 : Int32)), (.ref b2), (.long (own_at q1 q2 kn 5)), (.long (own_at q1 q2 kn 4)), (.long (own_at q1 q2 kn 3)), (.long (own_at q1 q2 kn 2)), (.long (own_at q1 q2 kn 1)), (.long (own_at q1 q2 kn 0)), (.ref b29), (.ref b29)])) _
      refine X29.laload hx (j := (6 : Int32)) (v := (.long (own_at q1 q2 kn 6))) (by rw [e29]; exact Ac45.1) (State.isArrayOf_alike hZ.alike Ac45.2.1) Ac45.2.2 hin45 (hat45.trans (congrArg some (own_ite q1 q2 kn 6))) (g := (mkF m 90 #[.val (.long q1), .second, .val (.long q2), .second, .val (.int p3), .val (.int ((p3 &&& (2147483647 : Int32)) % (7 : Int32))), .val (.ref b2), .unset, .unset, .unset] [(.int (6 : Int32)), (.ref b2), (.long (own_at q1 q2 kn 5)), (.long (own_at q1 q2 kn 4)), (.long (own_at q1 q2 kn 3)), (.long (own_at q1 q2 kn 2)), (.long (own_at q1 q2 kn 1)), (.long (own_at q1 q2 kn 0)), (.ref b29), (.ref b29)])) rfl rfl (hb hby at_90) _ ?_
      exact k)
  obtain ⟨_, _, ⟨T47, L47, k47, n47⟩, -, X47, ⟨Lc47, hQ47, l47, y47, z47⟩, st47⟩ := X29.specialBack hx (y := (⟨"com/example/termwright/termwright/PartSizes", "<init>", "(JJJJJJJ)V"⟩ : MethodName)) rfl hown (mvT hZ (hw _ (List.mem_of_getElem? (i := 5) rfl))) (mvT hZ (hw _ (List.mem_of_getElem? (i := 6) rfl))) (mvT hZ (hw _ (List.mem_of_getElem? (i := 7) rfl))) (by decide) (backOf (W := 1) (rm1 l Z a0 hw [] b29 (own_at q1 q2 kn 0) (own_at q1 q2 kn 1) (own_at q1 q2 kn 2) (own_at q1 q2 kn 3) (own_at q1 q2 kn 4) (own_at q1 q2 kn 5) (own_at q1 q2 kn 6)  h29 n0 Z29 A29 g_b29 F_stored_b29 F_postings_b29 F_dictionary_b29 F_lengths_b29 F_numbers_b29 F_sort_b29 F_other_b29) hZ (hw _ (List.mem_of_getElem? (i := 7) rfl)) (hw _ (List.mem_of_getElem? (i := 4) rfl)) (by decide) (by decide)) (g := (mkF m 91 #[.val (.long q1), .second, .val (.long q2), .second, .val (.int p3), .val (.int ((p3 &&& (2147483647 : Int32)) % (7 : Int32))), .val (.ref b2), .unset, .unset, .unset] [(.long (own_at q1 q2 kn 6)), (.long (own_at q1 q2 kn 5)), (.long (own_at q1 q2 kn 4)), (.long (own_at q1 q2 kn 3)), (.long (own_at q1 q2 kn 2)), (.long (own_at q1 q2 kn 1)), (.long (own_at q1 q2 kn 0)), (.ref b29), (.ref b29)])) rfl (by rw [hml]; rfl) (Steps.refl _) (a := b29) (argsL := [(.long (own_at q1 q2 kn 0)), (.long (own_at q1 q2 kn 1)), (.long (own_at q1 q2 kn 2)), (.long (own_at q1 q2 kn 3)), (.long (own_at q1 q2 kn 4)), (.long (own_at q1 q2 kn 5)), (.long (own_at q1 q2 kn 6))]) (rest := [(.ref b29)]) (lenOf pd_0 rfl) rfl (by show 2 * 0 + _ ≤ _; exact Nat.le_of_eq rfl) (hb hby at_91) (fun _ _ => ⟨rfl, e29, (by decide : 2 + 0 ≤ _), (by decide : 14 + 0 ≤ _)⟩)
  dsimp only [Pt.U, Pt.locs, Pt.cells, Pt.slots] at X47 l47 y47 z47 st47 hQ47
  subst l47 y47 z47
  obtain ⟨rfl, N47q, K47q, Ex47, Fl47_0, Fl47_1, Fl47_2, Fl47_3, Fl47_4, Fl47_5, Fl47_6⟩ := hQ47
  have N47 := Fr.app N27 N47q
  have Vf48 := Vf30.keep K47q (ninS ne_b2_b29 nin0)
  have Ef49 := A29.keep K47q
  have Z47 : n0 ≤ T47.heap.size := Nat.le_trans Z29 K47q.1
  have ac50 : ∀ t, Steps p.tables e below (T47.setTop (mkF m 94 #[.val (.long q1), .second, .val (.long q2), .second, .val (.int p3), .val (.int ((p3 &&& (2147483647 : Int32)) % (7 : Int32))), .val (.ref b2), .unset, .unset, .unset] [(.ref b29)])) t → Steps p.tables e below (s₁.setTop (entryFrame m #[(.long q1), (.long q2), (.int p3)] maxLocals)) t := fun t k => ac46 t (st47.trans k)
  have ac51 : ∀ t, Steps p.tables e below (T47.setTop (mkF m 107 #[.val (.long q1), .second, .val (.long q2), .second, .val (.int p3), .val (.int ((p3 &&& (2147483647 : Int32)) % (7 : Int32))), .val (.ref b2), .val (.ref b29), .val (.long (q1 + (q2 * (6 : Int64)))), .second] [(.ref b29)])) t → Steps p.tables e below (s₁.setTop (entryFrame m #[(.long q1), (.long q2), (.int p3)] maxLocals)) t := fun t k => ac50 t (by
      show Steps p.tables e below (T47.setTop (mkF m 94 #[.val (.long q1), .second, .val (.long q2), .second, .val (.int p3), .val (.int ((p3 &&& (2147483647 : Int32)) % (7 : Int32))), .val (.ref b2), .unset, .unset, .unset] [(.ref b29)])) _
      refine XS.astore X47.here hx rfl (hb hby at_94) rfl rfl (l' := #[.val (.long q1), .second, .val (.long q2), .second, .val (.int p3), .val (.int ((p3 &&& (2147483647 : Int32)) % (7 : Int32))), .val (.ref b2), .val (.ref b29), .unset, .unset]) rfl ?_
      show Steps p.tables e below (T47.setTop (mkF m 96 #[.val (.long q1), .second, .val (.long q2), .second, .val (.int p3), .val (.int ((p3 &&& (2147483647 : Int32)) % (7 : Int32))), .val (.ref b2), .val (.ref b29), .unset, .unset] [])) _
      refine XS.lloadN X47.here hx rfl (hb hby at_96) rfl ?_
      show Steps p.tables e below (T47.setTop (mkF m 97 #[.val (.long q1), .second, .val (.long q2), .second, .val (.int p3), .val (.int ((p3 &&& (2147483647 : Int32)) % (7 : Int32))), .val (.ref b2), .val (.ref b29), .unset, .unset] [(.long q1)])) _
      refine XS.lloadN X47.here hx rfl (hb hby at_97) rfl ?_
      show Steps p.tables e below (T47.setTop (mkF m 98 #[.val (.long q1), .second, .val (.long q2), .second, .val (.int p3), .val (.int ((p3 &&& (2147483647 : Int32)) % (7 : Int32))), .val (.ref b2), .val (.ref b29), .unset, .unset] [(.long q2), (.long q1)])) _
      refine X47.ldc2Long hx hown (mvT hZ (hw _ (List.mem_of_getElem? (i := 30) rfl))) (g := (mkF m 98 #[.val (.long q1), .second, .val (.long q2), .second, .val (.int p3), .val (.int ((p3 &&& (2147483647 : Int32)) % (7 : Int32))), .val (.ref b2), .val (.ref b29), .unset, .unset] [(.long q2), (.long q1)])) rfl (hb hby at_98) _ ?_
      show Steps p.tables e below (T47.setTop (mkF m 101 #[.val (.long q1), .second, .val (.long q2), .second, .val (.int p3), .val (.int ((p3 &&& (2147483647 : Int32)) % (7 : Int32))), .val (.ref b2), .val (.ref b29), .unset, .unset] [(.long (6 : Int64)), (.long q2), (.long q1)])) _
      refine XS.lmul X47.here hx rfl (hb hby at_101) rfl ?_
      show Steps p.tables e below (T47.setTop (mkF m 102 #[.val (.long q1), .second, .val (.long q2), .second, .val (.int p3), .val (.int ((p3 &&& (2147483647 : Int32)) % (7 : Int32))), .val (.ref b2), .val (.ref b29), .unset, .unset] [(.long (q2 * (6 : Int64))), (.long q1)])) _
      refine XS.ladd X47.here hx rfl (hb hby at_102) rfl ?_
      show Steps p.tables e below (T47.setTop (mkF m 103 #[.val (.long q1), .second, .val (.long q2), .second, .val (.int p3), .val (.int ((p3 &&& (2147483647 : Int32)) % (7 : Int32))), .val (.ref b2), .val (.ref b29), .unset, .unset] [(.long (q1 + (q2 * (6 : Int64))))])) _
      refine XS.lstore X47.here hx rfl (hb hby at_103) rfl (l' := #[.val (.long q1), .second, .val (.long q2), .second, .val (.int p3), .val (.int ((p3 &&& (2147483647 : Int32)) % (7 : Int32))), .val (.ref b2), .val (.ref b29), .val (.long (q1 + (q2 * (6 : Int64)))), .second]) rfl ?_
      show Steps p.tables e below (T47.setTop (mkF m 105 #[.val (.long q1), .second, .val (.long q2), .second, .val (.int p3), .val (.int ((p3 &&& (2147483647 : Int32)) % (7 : Int32))), .val (.ref b2), .val (.ref b29), .val (.long (q1 + (q2 * (6 : Int64)))), .second] [])) _
      refine XS.aload X47.here hx rfl (hb hby at_105) rfl rfl ?_
      exact k)
  obtain ⟨cq52, kq52, q52a, q52b, q52c⟩ := isOf hZ rfl Ef49
  obtain ⟨_, _, ⟨T52, L52, k52, n52⟩, -, X52, ⟨Lc52, hQ52, l52, y52, z52⟩, st52⟩ := X47.virtualBack hx (y := (⟨"com/example/termwright/termwright/PartSizes", "total", "()J"⟩ : MethodName)) (z := (⟨"com/example/termwright/termwright/PartSizes", "total", "()J"⟩ : MethodName)) hown (mvT hZ (hw _ (List.mem_of_getElem? (i := 31) rfl))) (mvT hZ (hw _ (List.mem_of_getElem? (i := 32) rfl))) (notFace_of_selects (args := #[]) (mvT hZ (hw _ (List.mem_of_getElem? (i := 34) rfl)))) (mvT hZ (hw _ (List.mem_of_getElem? (i := 34) rfl))) (mvT hZ (hw _ (List.mem_of_getElem? (i := 33) rfl))) (by decide) (backOf (W := 0) (rm4 l Z a0 hw [] b29 _ _ _ _ _ _ _  T47.heap n0 Z47 Fl47_0 Fl47_1 Fl47_2 Fl47_3 Fl47_4 Fl47_5 Fl47_6) hZ (hw _ (List.mem_of_getElem? (i := 35) rfl)) (hw _ (List.mem_of_getElem? (i := 4) rfl)) (by decide) (by decide)) q52a q52c (g := (mkF m 107 #[.val (.long q1), .second, .val (.long q2), .second, .val (.int p3), .val (.int ((p3 &&& (2147483647 : Int32)) % (7 : Int32))), .val (.ref b2), .val (.ref b29), .val (.long (q1 + (q2 * (6 : Int64)))), .second] [(.ref b29)])) rfl (by rw [hml]; rfl) (Steps.refl _) (argsL := []) (rest := []) (lenOf pd_2 rfl) rfl (by show 2 * 0 + _ ≤ _; exact Nat.le_of_eq rfl) (hb hby at_107) (fun _ _ => ⟨rfl, rfl, (by decide : 2 + 0 ≤ _), (by decide : 14 + 0 ≤ _)⟩)
  dsimp only [Pt.U, Pt.locs, Pt.cells, Pt.slots] at X52 l52 y52 z52 st52 hQ52
  subst l52 y52 z52
  obtain ⟨rfl, N52q, Qe52⟩ := hQ52
  have N52 := Fr.app N47 N52q
  have ac53 : ∀ t, Steps p.tables e below (T52.setTop (mkF m 110 #[.val (.long q1), .second, .val (.long q2), .second, .val (.int p3), .val (.int ((p3 &&& (2147483647 : Int32)) % (7 : Int32))), .val (.ref b2), .val (.ref b29), .val (.long (q1 + (q2 * (6 : Int64)))), .second] [(.long (((((((own_at q1 q2 kn 0) + (own_at q1 q2 kn 1)) + (own_at q1 q2 kn 2)) + (own_at q1 q2 kn 3)) + (own_at q1 q2 kn 4)) + (own_at q1 q2 kn 5)) + (own_at q1 q2 kn 6)))])) t → Steps p.tables e below (s₁.setTop (entryFrame m #[(.long q1), (.long q2), (.int p3)] maxLocals)) t := fun t k => ac51 t (st52.trans k)
  have ac54 : ∀ t, Steps p.tables e below (T52.setTop (mkF m 121 #[.val (.long q1), .second, .val (.long q2), .second, .val (.int p3), .val (.int ((p3 &&& (2147483647 : Int32)) % (7 : Int32))), .val (.ref b2), .val (.ref b29), .val (.long (q1 + (q2 * (6 : Int64)))), .second] [(.int (1 : Int32))])) t → Steps p.tables e below (s₁.setTop (entryFrame m #[(.long q1), (.long q2), (.int p3)] maxLocals)) t := fun t k => ac53 t (by
      show Steps p.tables e below (T52.setTop (mkF m 110 #[.val (.long q1), .second, .val (.long q2), .second, .val (.int p3), .val (.int ((p3 &&& (2147483647 : Int32)) % (7 : Int32))), .val (.ref b2), .val (.ref b29), .val (.long (q1 + (q2 * (6 : Int64)))), .second] [(.long (((((((own_at q1 q2 kn 0) + (own_at q1 q2 kn 1)) + (own_at q1 q2 kn 2)) + (own_at q1 q2 kn 3)) + (own_at q1 q2 kn 4)) + (own_at q1 q2 kn 5)) + (own_at q1 q2 kn 6)))])) _
      refine XS.lload X52.here hx rfl (hb hby at_110) rfl ?_
      show Steps p.tables e below (T52.setTop (mkF m 112 #[.val (.long q1), .second, .val (.long q2), .second, .val (.int p3), .val (.int ((p3 &&& (2147483647 : Int32)) % (7 : Int32))), .val (.ref b2), .val (.ref b29), .val (.long (q1 + (q2 * (6 : Int64)))), .second] [(.long (q1 + (q2 * (6 : Int64)))), (.long (((((((own_at q1 q2 kn 0) + (own_at q1 q2 kn 1)) + (own_at q1 q2 kn 2)) + (own_at q1 q2 kn 3)) + (own_at q1 q2 kn 4)) + (own_at q1 q2 kn 5)) + (own_at q1 q2 kn 6)))])) _
      refine XS.lcmp X52.here hx rfl (hb hby at_112) rfl ?_
      show Steps p.tables e below (T52.setTop (mkF m 113 #[.val (.long q1), .second, .val (.long q2), .second, .val (.int p3), .val (.int ((p3 &&& (2147483647 : Int32)) % (7 : Int32))), .val (.ref b2), .val (.ref b29), .val (.long (q1 + (q2 * (6 : Int64)))), .second] [(.int (lcmpW (((((((own_at q1 q2 kn 0) + (own_at q1 q2 kn 1)) + (own_at q1 q2 kn 2)) + (own_at q1 q2 kn 3)) + (own_at q1 q2 kn 4)) + (own_at q1 q2 kn 5)) + (own_at q1 q2 kn 6)) (q1 + (q2 * (6 : Int64)))))])) _
      refine XS.ifNo X52.here hx rfl (hb hby at_113) rfl ((if0 _ _).trans (teq ((lw_eq _ _).mpr (own_tot q1 q2 kn hk7))).2) ?_
      show Steps p.tables e below (T52.setTop (mkF m 116 #[.val (.long q1), .second, .val (.long q2), .second, .val (.int p3), .val (.int ((p3 &&& (2147483647 : Int32)) % (7 : Int32))), .val (.ref b2), .val (.ref b29), .val (.long (q1 + (q2 * (6 : Int64)))), .second] [])) _
      refine XS.iconst X52.here hx rfl (hb hby at_116) ?_
      show Steps p.tables e below (T52.setTop (mkF m 117 #[.val (.long q1), .second, .val (.long q2), .second, .val (.int p3), .val (.int ((p3 &&& (2147483647 : Int32)) % (7 : Int32))), .val (.ref b2), .val (.ref b29), .val (.long (q1 + (q2 * (6 : Int64)))), .second] [(.int (1 : Int32))])) _
      refine XS.goto X52.here hx rfl (pc0 := 117) (pc' := 121) rfl (hb hby at_117) (by decide) (by decide) ?_
      exact k)
  obtain ⟨fs, hr, hrun, hended, hW, hsame⟩ := X52.leave (v := some (.int (1 : Int32))) (fun h => by rw [Bd.returns] at h; cases h)
  refine ⟨_, _, ac54 _ ?_, hrun, hended, _, _, rfl, ?_, ⟨_, rfl⟩, hW, hsame.mono (by decide) (by decide)⟩
  · show Steps p.tables e below (T52.setTop (mkF m 121 #[.val (.long q1), .second, .val (.long q2), .second, .val (.int p3), .val (.int ((p3 &&& (2147483647 : Int32)) % (7 : Int32))), .val (.ref b2), .val (.ref b29), .val (.long (q1 + (q2 * (6 : Int64)))), .second] [(.int (1 : Int32))])) _
    exact retN X52 hx (t := .boolean) Bd.returns (by simp) (hb hby at_121) hr
  · show Q0 Z q1 q2 p3 h0 n0 _ T52.heap _
    rw [Qe52]
    exact ⟨rfl, N52⟩
set_option maxRecDepth 65536 in
set_option maxHeartbeats 40000000 in
theorem comes_1 {Post : Tables → Env → Array Value → State → Outcome → State → Prop} (hpost : ∀ tb e args s v u, (limb_1_1.after args s (.returned v) u = true ∧ limb_1_2.after args s (.returned v) u = true ∧ True) → FrameEnd s (.returned v) u (Jvm.fieldLocs frame_1_writes args s ++ Jvm.arrayLocs frame_1_arrays args s ++ Jvm.staticLocs frame_1_statics s) 16 128 → Post tb e args s (.returned v) u) :
    ArmFor flags0 classFile x code maxLocals ret World_1 tables_1 room_1 Calls_1 rest_1 Pre_1 Post := by
  intro l hfl _ _ p e ha hc hk s m args below hf hA hF happ hP
  obtain ⟨hcalls, hrest, hpre⟩ := hP
  obtain ⟨-, -, -, hnamed, -, -, -, hat⟩ := (Spec.applies_iff hf).mp happ
  obtain ⟨hg, hn⟩ := and_e (Cond.before_iff.mp (show (Jvm.Cond.and given_1 narrow_1).before args s = true from hpre))
  obtain ⟨hcnt, hk0⟩ := and_e hg
  obtain ⟨g0, hk1⟩ := and_e hk0
  obtain ⟨g1, hk2⟩ := and_e hk1
  have g2 := hk2
  obtain ⟨w0, w1, w2, rfl⟩ : ∃ w0 w1 w2 : Value, args = #[w0, w1, w2] := by
    have hs : args.size = 3 := by simpa [Cond.value, given_1] using hcnt
    obtain ⟨L⟩ := args
    match L, hs with
    | [w0, w1, w2], _ => exact ⟨w0, w1, w2, rfl⟩
  have hw := fun d (hd : d ∈ tables_1) => atoms_spec (ws := Jvm.Cond.code x code maxLocals ret :: tables_1) hat d (List.mem_cons_of_mem _ hd)
  have hfit : Fit s := fun {y c} hc i hi => by
    obtain ⟨ha, rfl⟩ := Array.getElem?_eq_some_iff.mp hc
    have q := List.all_eq_true.mp ((Array.all_eq_true_iff_forall_mem.mp hF) _ (Array.getElem_mem ha)) i (List.mem_range.mpr hi)
    simpa [Array.getElem?_eq_getElem hi] using q
  obtain ⟨i0, ei0⟩ := isL_v g0
  obtain rfl : w0 = (.long i0) := Option.some.inj ei0
  obtain ⟨i1, ei1⟩ := isL_v g1
  obtain rfl : w1 = (.long i1) := Option.some.inj ei1
  obtain ⟨i2, ei2⟩ := is_v g2
  obtain rfl : w2 = (.int i2) := Option.some.inj ei2
  obtain ⟨n, o, h1, h2, h3, _, L, rfl, ⟨rfl, N⟩, hq⟩ := rm0 l s _ hw tables_1 i0 i1 i2  s.heap s.heap.size (Nat.le_refl _)  p e ha hc hk s m _ below hf ((Spec.applies_iff_loose hf).mp happ).1 ⟨rfl, State.Warmed39.refl s, rfl⟩ trivial
  refine ⟨n, _, h1, h2, h3, hpost _ _ _ _ _ _ ⟨Cond.after_iff.mpr rfl, Cond.after_iff.mpr (eq_i res_at (Term.int_eval (1)) rfl), trivial⟩ ⟨hq.1, hq.2.1, (hq.2.2.sift fun y hy => Or.inr (N y hy)).mono (by decide) (by decide)⟩⟩
theorem main_1_1 : Claimed_1_1 := comes_1 fun _ _ _ _ _ _ h hF => ⟨h.1, hF⟩
theorem main_1_2 : Claimed_1_2 := comes_1 fun _ _ _ _ _ _ h hF => ⟨h.2.1, hF⟩
end Jvm.Pilot.@@N@@
namespace Jvm.Pilot.@@N@@
open Jvm Jvm.ClassFile Sem Op Lib Jvm.Free Jvm.Stand Jvm.Pilot.@@N@@.Jvm.D
/-! MADE BY PROGRAM (witnessworld.py) out of the Statement's table words and the real class files: 12 classes; the members and pool entries that the words name. The judged class is class 1, her method 1. -/
namespace start1
open Jvm.ClassFile
def u (s : String) : CpInfo := .utf8 (stringToUtf16 s)
/-- a pool by its gaps: so many unusable entries, then the entry; so many at the end -/
def gap : Nat → List CpInfo → List CpInfo
  | 0, r => r
  | n + 1, r => .unusable :: gap n r
def poolList (es : List (Nat × CpInfo)) (last : Nat) : List CpInfo := es.foldr (fun e r => gap e.1 (e.2 :: r)) (gap last [])
def pool (es : List (Nat × CpInfo)) (last : Nat) : Array CpInfo := ⟨poolList es last⟩
def fileOf (pool : Array CpInfo) (this : Nat) (attrs : Array Attribute := #[]) (ms : Array MethodInfo := #[]) (fl : Nat := 33) (sup : Nat := 0) (ifs : Array Nat := #[]) (fds : Array FieldInfo := #[]) : ClassFile where
  minorVersion := 0
  majorVersion := 65
  constantPool := pool
  accessFlags := fl
  thisClass := this
  superClass := sup
  interfaces := ifs
  fields := fds
  methods := ms
  attributes := attrs
def plain (name : String) (sup : Option ClassId) : Class where
  name := name
  kind := .ordinary
  loader := none
  accessFlags := 33
  super := sup
  interfaces := #[]
  cf := none
  fields := #[]
  methods := #[]
  instanceTypes := #[]
  staticTypes := #[]
  resolved := #[]
  callSites := []
  init := .initialized
  statics := none
  mirror := none

def pool0 : Array CpInfo := pool [(5, u "<init>"), (0, u "()V"), (1, .class_ 10), (1, u "java/lang/Object")] 113

def k0c0 : Code := { maxStack := 0, maxLocals := 1, code := object_method_1_code, exceptionTable := #[], attributes := #[] }
def k0m0 : Method := { name := "<init>", desc := "()V", sig := { parameters := [], returnType := none }, accessFlags := 1, code := some k0c0 }
/-- java/lang/Object -/
def k0 : Class := { plain "java/lang/Object" none with
  accessFlags := 33
  interfaces := #[]
  cf := some (fileOf pool0 8 #[] #[{ accessFlags := 1, nameIndex := 5, descriptorIndex := 6, attributes := #[] }] 33 0 #[] #[])
  fields := #[]
  methods := #[k0m0]
  instanceTypes := #[]
  staticTypes := #[]
  resolved := Array.replicate 124 none
  statics := none }

def pool1 : Array CpInfo := pool [(2, .class_ 4), (1, u "java/lang/Object"), (0, u "<init>"), (0, u "()V"), (0, .integer 2147483647), (0, .class_ 9), (0, u "com/example/termwright/termwright/PartSizes"), (0, .methodref 8 11), (0, .nameAndType 5 12), (0, u "(JJJJJJJ)V"), (0, .long 6), (1, .methodref 8 16), (0, .nameAndType 17 18), (0, u "total"), (0, u "()J"), (0, .class_ 20), (0, u "com/example/termwright/termwright/PartSizesTotalPinLaw"), (2, u "law"), (0, u "(JJI)Z")] 5

def k1m0 : Method := { name := "<init>", desc := "()V", sig := { parameters := [], returnType := none }, accessFlags := 1, code := none }
def k1c1 : Code := { maxStack := 16, maxLocals := 10, code := code, exceptionTable := #[], attributes := #[] }
def k1m1 : Method := { name := "law", desc := "(JJI)Z", sig := { parameters := [.long, .long, .int], returnType := some .boolean }, accessFlags := 9, code := some k1c1 }
/-- com/example/termwright/termwright/PartSizesTotalPinLaw -/
def k1 : Class := { plain "com/example/termwright/termwright/PartSizesTotalPinLaw" (some 0) with
  accessFlags := 49
  interfaces := #[]
  cf := some (fileOf pool1 19 #[] #[{ accessFlags := 1, nameIndex := 5, descriptorIndex := 6, attributes := #[] }, { accessFlags := 9, nameIndex := 23, descriptorIndex := 24, attributes := #[] }] 49 2 #[] #[])
  fields := #[]
  methods := #[k1m0, k1m1]
  instanceTypes := #[]
  staticTypes := #[]
  resolved := Array.replicate 30 none
  statics := none }

def pool2 : Array CpInfo := pool [(1, .methodref 2 3), (0, .class_ 4), (0, .nameAndType 5 6), (0, u "java/lang/Object"), (0, u "<init>"), (0, u "()V"), (0, .class_ 8), (0, u "java/lang/Record")] 13

def k2c0 : Code := { maxStack := 1, maxLocals := 1, code := jdk_30_method_1_code, exceptionTable := #[], attributes := #[] }
def k2m0 : Method := { name := "<init>", desc := "()V", sig := { parameters := [], returnType := none }, accessFlags := 4, code := some k2c0 }
/-- java/lang/Record -/
def k2 : Class := { plain "java/lang/Record" (some 0) with
  accessFlags := 1057
  interfaces := #[]
  cf := some (fileOf pool2 7 #[] #[{ accessFlags := 4, nameIndex := 5, descriptorIndex := 6, attributes := #[] }] 1057 2 #[] #[])
  fields := #[]
  methods := #[k2m0]
  instanceTypes := #[]
  staticTypes := #[]
  resolved := Array.replicate 22 none
  statics := none }

def pool3 : Array CpInfo := pool [(1, .methodref 2 3), (0, .class_ 4), (0, .nameAndType 5 6), (0, u "java/lang/Record"), (0, u "<init>"), (0, u "()V"), (0, .fieldref 8 9), (0, .class_ 10), (0, .nameAndType 11 12), (0, u "com/example/termwright/termwright/PartSizes"), (0, u "stored"), (0, u "J"), (0, .fieldref 8 14), (0, .nameAndType 15 12), (0, u "postings"), (0, .fieldref 8 17), (0, .nameAndType 18 12), (0, u "dictionary"), (0, .fieldref 8 20), (0, .nameAndType 21 12), (0, u "lengths"), (0, .fieldref 8 23), (0, .nameAndType 24 12), (0, u "numbers"), (0, .fieldref 8 26), (0, .nameAndType 27 12), (0, u "sort"), (0, .fieldref 8 29), (0, .nameAndType 30 12), (0, u "other"), (2, u "(JJJJJJJ)V"), (14, u "NONE"), (0, u "Lcom/example/termwright/termwright/PartSizes;"), (3, u "total"), (0, u "()J")] 34

def k3c0 : Code := { maxStack := 3, maxLocals := 15, code := prog_118_method_1_code, exceptionTable := #[], attributes := #[] }
def k3m0 : Method := { name := "<init>", desc := "(JJJJJJJ)V", sig := { parameters := [.long, .long, .long, .long, .long, .long, .long], returnType := none }, accessFlags := 1, code := some k3c0 }
def k3c1 : Code := { maxStack := 4, maxLocals := 1, code := prog_118_method_2_code, exceptionTable := #[], attributes := #[] }
def k3m1 : Method := { name := "total", desc := "()J", sig := { parameters := [], returnType := some .long }, accessFlags := 1, code := some k3c1 }
/-- com/example/termwright/termwright/PartSizes -/
def k3 : Class := { plain "com/example/termwright/termwright/PartSizes" (some 2) with
  accessFlags := 49
  interfaces := #[]
  cf := some (fileOf pool3 8 #[] #[{ accessFlags := 1, nameIndex := 5, descriptorIndex := 33, attributes := #[] }, { accessFlags := 1, nameIndex := 53, descriptorIndex := 54, attributes := #[] }] 49 2 #[] #[{ accessFlags := 18, nameIndex := 11, descriptorIndex := 12, attributes := #[] }, { accessFlags := 18, nameIndex := 15, descriptorIndex := 12, attributes := #[] }, { accessFlags := 18, nameIndex := 18, descriptorIndex := 12, attributes := #[] }, { accessFlags := 18, nameIndex := 21, descriptorIndex := 12, attributes := #[] }, { accessFlags := 18, nameIndex := 24, descriptorIndex := 12, attributes := #[] }, { accessFlags := 18, nameIndex := 27, descriptorIndex := 12, attributes := #[] }, { accessFlags := 18, nameIndex := 30, descriptorIndex := 12, attributes := #[] }, { accessFlags := 24, nameIndex := 48, descriptorIndex := 49, attributes := #[] }])
  fields := #[{ name := "stored", type := .long, accessFlags := 18, slot := 0, constantValue := 0 }, { name := "postings", type := .long, accessFlags := 18, slot := 1, constantValue := 0 }, { name := "dictionary", type := .long, accessFlags := 18, slot := 2, constantValue := 0 }, { name := "lengths", type := .long, accessFlags := 18, slot := 3, constantValue := 0 }, { name := "numbers", type := .long, accessFlags := 18, slot := 4, constantValue := 0 }, { name := "sort", type := .long, accessFlags := 18, slot := 5, constantValue := 0 }, { name := "other", type := .long, accessFlags := 18, slot := 6, constantValue := 0 }, { name := "NONE", type := (.object "com/example/termwright/termwright/PartSizes"), accessFlags := 24, slot := 0, constantValue := 0 }]
  methods := #[k3m0, k3m1]
  instanceTypes := #[.long, .long, .long, .long, .long, .long, .long]
  staticTypes := #[(.object "com/example/termwright/termwright/PartSizes")]
  resolved := Array.replicate 89 none
  statics := none }

def pool4 : Array CpInfo := pool [(1, u "java/lang/Cloneable"), (0, .class_ 1), (0, u "java/lang/Object"), (0, .class_ 3)] 3

/-- java/lang/Cloneable -/
def k4 : Class := { plain "java/lang/Cloneable" (some 0) with
  accessFlags := 1537
  interfaces := #[]
  cf := some (fileOf pool4 2 #[] #[] 1537 4 #[] #[])
  fields := #[]
  methods := #[]
  instanceTypes := #[]
  staticTypes := #[]
  resolved := Array.replicate 8 none
  statics := none }

def pool5 : Array CpInfo := pool [(1, u "java/io/Serializable"), (0, .class_ 1), (0, u "java/lang/Object"), (0, .class_ 3)] 3

/-- java/io/Serializable -/
def k5 : Class := { plain "java/io/Serializable" (some 0) with
  accessFlags := 1537
  interfaces := #[]
  cf := some (fileOf pool5 2 #[] #[] 1537 4 #[] #[])
  fields := #[]
  methods := #[]
  instanceTypes := #[]
  staticTypes := #[]
  resolved := Array.replicate 8 none
  statics := none }

/-- the primitive byte -/
def k6 : Class := { plain "byte" none with kind := .primitive 'B', accessFlags := 0x411 }
/-- [B -/
def k7 : Class := { plain "[B" (some 0) with kind := .array 6 .byte, interfaces := #[4, 5], accessFlags := 1041 }

/-- the primitive int -/
def k8 : Class := { plain "int" none with kind := .primitive 'I', accessFlags := 0x411 }
/-- [I -/
def k9 : Class := { plain "[I" (some 0) with kind := .array 8 .int, interfaces := #[4, 5], accessFlags := 1041 }

/-- the primitive long -/
def k10 : Class := { plain "long" none with kind := .primitive 'J', accessFlags := 0x411 }
/-- [J -/
def k11 : Class := { plain "[J" (some 0) with kind := .array 10 .long, interfaces := #[4, 5], accessFlags := 1041 }

def heap : Heap := #[]
def classes : Array Class := #[k0, k1, k2, k3, k4, k5, k6, k7, k8, k9, k10, k11]
def interned : List (Array UInt16 × Addr) := []
def slotsUsed : Nat := 0
def theMethod : MethodId := ⟨1, 1⟩
def args0 : Array Value := #[.long 3, .long (-4), .int 5]
def aboutOver (below : List Frame) : State where
  vm := { classes := classes, interned := interned.toArray }
  heap := heap
  slotsUsed := slotsUsed
  threads := #[{ frames := .invoking theMethod args0 :: below }]
def below0 : List Frame := [.native { method := ⟨0, 0⟩, args := #[] }]
def about1 : State := aboutOver below0
def p0 : Program := .bare "" "" ""
def e0 : Env := launch0.env 0 0 0
theorem w_frames : about1.frames = Frame.invoking theMethod args0 :: below0 := rfl
set_option maxRecDepth 65536 in
theorem w_args : argsFit about1.vm theMethod args0 = true := by decide +kernel
set_option maxRecDepth 65536 in
theorem w_heap : heapFits about1 = true := by decide +kernel
set_option maxRecDepth 65536 in
theorem w_runnable : about1.curStatus? = some .runnable := by decide +kernel
set_option maxRecDepth 65536 in
theorem w_alone : about1.alone = true := by decide +kernel
set_option maxRecDepth 65536 in
theorem w_named : about1.methodNamed? x = some theMethod := by decide +kernel
set_option maxRecDepth 65536 in
theorem w_hears : about1.hears theMethod below0 = true := by decide +kernel
set_option maxRecDepth 65536 in
theorem w_ripe : about1.ripe theMethod args0 below0 = true := by decide +kernel
theorem w_running : about1.status = .running := rfl
set_option maxRecDepth 65536 in
theorem w_room : about1.hasRoom e0.platform room_1 = true :=
  launch0.hasRoom_least _ room_1 (by decide +kernel) (by decide +kernel) (by decide +kernel) (by decide +kernel) (by decide +kernel) (by decide +kernel)
theorem allAtoms_all (ts : List Jvm.Cond) (a : Array Jvm.Value) (st : Jvm.State) : (allAtoms ts).before a st = ts.all (fun c => c.before a st) := by
  induction ts with
  | nil => rfl
  | cons c t ih =>
    show (Jvm.Cond.and c (allAtoms t)).before a st = _
    rw [Jvm.Cond.before_and, ih, List.all_cons]
def words1 : List Jvm.Cond := Jvm.Cond.code x code maxLocals ret :: tables_1
/-- a 'code' word, met by the world's own term for the bytes: nothing is compared byte by byte -/
theorem code_word {y : MethodName} {bytes : ByteArray} {mx : Nat} {rt : Option FieldType} {a : Array Value} {s : State} {m : MethodId} {meth : Method} {c : Code} (h1 : s.methodNamed? y = some m) (h2 : s.vm.method? m = some meth) (h3 : meth.code = some c) (h4 : c.code = bytes)
    (h5 : (c.maxLocals == mx && c.exceptionTable.isEmpty && decide (c.maxStack ≤ mostOperands) && decide (meth.sig.returnType = rt) && !meth.locks && decide (parseMethodDescriptor y.desc = some meth.sig)) = true) : (Jvm.Cond.code y bytes mx rt).before a s = true := by
  simp only [Bool.and_eq_true, beq_iff_eq, Bool.not_eq_true', decide_eq_true_eq] at h5
  obtain ⟨⟨⟨⟨⟨g1, g2⟩, g3⟩, g4⟩, g5⟩, g6⟩ := h5
  simp [Cond.before, Cond.holds, Cond.value, h1, h2, h3, h4, g1, g2, g3, g4, g5, g6]
def isCode : Jvm.Cond → Bool
  | .code _ _ _ _ => true
  | _ => false
theorem all_split {L : List Jvm.Cond} {P : Jvm.Cond → Bool} (h1 : L.all (fun c => isCode c || P c) = true) (h2 : ∀ c ∈ L.filter isCode, P c = true) : L.all P = true := by
  refine List.all_eq_true.mpr fun c hc => ?_
  have h := List.all_eq_true.mp h1 c hc
  rcases Bool.eq_false_or_eq_true (isCode c) with hi | hi
  · exact h2 c (List.mem_filter.mpr ⟨hc, hi⟩)
  · simpa [hi] using h
set_option maxRecDepth 65536 in
theorem w_c0 : (Jvm.Cond.code x code maxLocals ret).before args0 about1 = true := code_word (m := ⟨1, 1⟩) (meth := k1m1) (c := k1c1) (by decide +kernel) rfl rfl rfl (by decide +kernel)
set_option maxRecDepth 65536 in
theorem w_c1 : (Jvm.Cond.code ({ cls := "com/example/termwright/termwright/PartSizes", name := "<init>", desc := "(JJJJJJJ)V" } : Jvm.MethodName) prog_118_method_1_code (15 : Nat) (Option.none : Option Jvm.ClassFile.FieldType)).before args0 about1 = true := code_word (m := ⟨3, 0⟩) (meth := k3m0) (c := k3c0) (by decide +kernel) rfl rfl rfl (by decide +kernel)
set_option maxRecDepth 65536 in
theorem w_c2 : (Jvm.Cond.code ({ cls := "java/lang/Record", name := "<init>", desc := "()V" } : Jvm.MethodName) jdk_30_method_1_code (1 : Nat) (Option.none : Option Jvm.ClassFile.FieldType)).before args0 about1 = true := code_word (m := ⟨2, 0⟩) (meth := k2m0) (c := k2c0) (by decide +kernel) rfl rfl rfl (by decide +kernel)
set_option maxRecDepth 65536 in
theorem w_c3 : (Jvm.Cond.code ({ cls := "java/lang/Object", name := "<init>", desc := "()V" } : Jvm.MethodName) object_method_1_code (1 : Nat) (Option.none : Option Jvm.ClassFile.FieldType)).before args0 about1 = true := code_word (m := ⟨0, 0⟩) (meth := k0m0) (c := k0c0) (by decide +kernel) rfl rfl rfl (by decide +kernel)
set_option maxRecDepth 65536 in
theorem w_c4 : (Jvm.Cond.code ({ cls := "com/example/termwright/termwright/PartSizes", name := "total", desc := "()J" } : Jvm.MethodName) prog_118_method_2_code (1 : Nat) (Option.some Jvm.ClassFile.FieldType.long)).before args0 about1 = true := code_word (m := ⟨3, 1⟩) (meth := k3m1) (c := k3c1) (by decide +kernel) rfl rfl rfl (by decide +kernel)
def codes1 : List Jvm.Cond := [Jvm.Cond.code x code maxLocals ret, Jvm.Cond.code ({ cls := "com/example/termwright/termwright/PartSizes", name := "<init>", desc := "(JJJJJJJ)V" } : Jvm.MethodName) prog_118_method_1_code (15 : Nat) (Option.none : Option Jvm.ClassFile.FieldType), Jvm.Cond.code ({ cls := "java/lang/Record", name := "<init>", desc := "()V" } : Jvm.MethodName) jdk_30_method_1_code (1 : Nat) (Option.none : Option Jvm.ClassFile.FieldType), Jvm.Cond.code ({ cls := "java/lang/Object", name := "<init>", desc := "()V" } : Jvm.MethodName) object_method_1_code (1 : Nat) (Option.none : Option Jvm.ClassFile.FieldType), Jvm.Cond.code ({ cls := "com/example/termwright/termwright/PartSizes", name := "total", desc := "()J" } : Jvm.MethodName) prog_118_method_2_code (1 : Nat) (Option.some Jvm.ClassFile.FieldType.long)]
set_option maxRecDepth 65536 in
theorem codes_eq : words1.filter isCode = codes1 := rfl
theorem w_codes : ∀ c ∈ words1.filter isCode, c.before args0 about1 = true := by
  rw [codes_eq]
  intro c hc
  simp only [codes1, List.mem_cons, List.not_mem_nil, or_false] at hc
  rcases hc with rfl | rfl | rfl | rfl | rfl
  · exact w_c0
  · exact w_c1
  · exact w_c2
  · exact w_c3
  · exact w_c4
set_option maxRecDepth 65536 in
theorem w_t1 : (words1.take 24).all (fun c => isCode c || c.before args0 about1) = true := by decide +kernel
set_option maxRecDepth 65536 in
theorem w_t2 : (words1.drop 24).all (fun c => isCode c || c.before args0 about1) = true := by decide +kernel
theorem w_tables : (allAtoms (Jvm.Cond.code x code maxLocals ret :: tables_1)).before args0 about1 = true := by
  rw [allAtoms_all]
  show words1.all (fun c => c.before args0 about1) = true
  refine all_split ?_ w_codes
  rw [← List.take_append_drop 24 words1, List.all_append, w_t1, w_t2]
  rfl
set_option maxRecDepth 65536 in
theorem w_case : (Jvm.Cond.and given_1 narrow_1).before args0 about1 = true := by decide +kernel
theorem w_applies : (headSpec (Jvm.Cond.code x code maxLocals ret :: tables_1) room_1).applies x e0.platform about1 = true :=
  (Spec.applies_iff w_frames).mpr ⟨w_running, w_runnable, w_alone, w_named, w_hears, w_ripe, w_room, w_tables⟩
theorem atStart : AtStart classFile x code maxLocals ret World_1 tables_1 room_1 Calls_1 rest_1 Pre_1 launch0 p0 e0 about1 theMethod args0 below0 :=
  ⟨lists_1, trivial, launch0.admits_env _ _ _, launch0.least_env, fairChoices_fair.cas, fairChoices_fair.clock, w_frames, w_args, w_heap, w_applies, trivial, trivial, w_case⟩
end start1
theorem witness_1 : WitnessClaimed_1 := ⟨start1.p0, start1.e0, start1.about1, start1.theMethod, start1.args0, start1.below0, start1.atStart⟩
end Jvm.Pilot.@@N@@
