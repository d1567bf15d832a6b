import JvmDerived
import JvmDerived.Pilot.@@N@@Statement
import JvmDerived.Pilot.@@N@@Code
set_option linter.unusedVariables false
set_option linter.unusedSimpArgs false
namespace Jvm.RoadKit
open Sem ClassFile Op Lib Jvm.Stand Jvm.Free Jvm.LawKit
section New
variable {p : Program} {l : Launch} {e : Env} {R : Room} {s : State} {m : MethodId} {args : Array Value} {below : List Frame} {meth : Method} {c : Code} {T : State} {locs : List Loc} {cells slots : Nat}
theorem retI (X : Stand p l e R s m args below meth c T locs cells slots) (hx : p.tables.exec = Jvm.exec) {pc : Nat} {Ls : Array Slot} {z : Int32} {rest : List Value} (hret : meth.sig.returnType = some .int) (hd : decode c.code pc = .ok (.ireturn, 1)) {fs : List Frame}
    (hl : ∀ (f : JFrame) (acts : List Action), f.method = m → f.locked = none → f.entered = [] → (doReturn e (T.setTop f) acts (some (.int z))).1 = T.setFrames fs) : Steps p.tables e below (T.setTop (mkF m pc Ls (.int z :: rest))) (T.setFrames fs) := by
  have hm' : T.vm.method? m = some meth := X.method'
  have hn : narrow .int (.int z) = .int z := rfl
  show Steps p.tables e below (T.setTop { method := m, pc := pc, locals := Ls, stack := _ :: rest, locked := none }) _
  jvm_step X.here [X.here.top, hx, hd, hm', hret, hn]
  first | (intro acts; rw [hl _ acts rfl rfl rfl]) | rw [hl _ _ rfl rfl rfl]
  exact Steps.refl _
end New
end Jvm.RoadKit
namespace Jvm.Pilot.@@N@@
open Jvm Jvm.ClassFile Sem Op Lib Jvm.Free Jvm.Stand Jvm.LawKit Jvm.RoadKit Bundle Jvm.Pilot.@@N@@.Jvm.D
/-- an array of n components, the i-th holding f i -/
def own_Ar (Z : State) (h : Heap) (a : Addr) (ty : FieldType) (n : Nat) (f : Nat → Value) : Prop :=
  ∃ c : Cell, Arr Z h a c ty ∧ c.slots.size = n ∧ n < 2147483648 ∧ (∀ i, i < n → c.slots[i]? = some (f i)) ∧ ∀ i, i < n → fits ty (f i) = true
theorem own_nat {j : Int32} (q : 0 ≤ j.toInt) : (j.toNatClampNeg : Int) = j.toInt := by
  simp only [Int32.toNatClampNeg]; omega
theorem own_lt0 {j : Int32} (q : 0 ≤ j.toInt) : ¬ j < 0 := by
  rw [Int32.lt_iff_toInt_lt]; have : (0 : Int32).toInt = 0 := rfl; omega
theorem own_ge0 {j : Int32} (q : ¬ j < 0) : 0 ≤ j.toInt := by
  rw [Int32.lt_iff_toInt_lt] at q; have : (0 : Int32).toInt = 0 := rfl; omega
theorem own_Ar.lt {Z : State} {h : Heap} {a : Addr} {ty : FieldType} {n : Nat} {f : Nat → Value} (F : own_Ar Z h a ty n f) : a < h.size := by obtain ⟨c, A, -⟩ := F; exact A.lt
theorem own_Ar.ext {Z : State} {h h' : Heap} {a : Addr} {ty : FieldType} {n : Nat} {f : Nat → Value} (F : own_Ar Z h a ty n f) (E : Ext h h') : own_Ar Z h' a ty n f := by obtain ⟨c, A, r⟩ := F; exact ⟨c, A.ext E, r⟩
theorem own_Ar.other {Z : State} {h h' : Heap} {a b : Addr} {sl : Nat} {v : Value} {ty : FieldType} {n : Nat} {f : Nat → Value} (F : own_Ar Z h b ty n f) (W : Wr h h' a sl v) (q : b ≠ a) : own_Ar Z h' b ty n f := by obtain ⟨c, A, r⟩ := F; exact ⟨c, A.other W q, r⟩
theorem own_Ar.keep {Z : State} {h h' : Heap} {a : Addr} {ws : List Addr} {ty : FieldType} {n : Nat} {f : Nat → Value} (F : own_Ar Z h a ty n f) (K : Keep h h' ws) (q : a ∉ ws) : own_Ar Z h' a ty n f := by obtain ⟨c, A, r⟩ := F; exact ⟨c, ⟨K.2.1 a c A.1 q, A.2⟩, r⟩
theorem own_Ar.eq {Z : State} {h : Heap} {a : Addr} {ty : FieldType} {n : Nat} {f g : Nat → Value} (F : own_Ar Z h a ty n f) (q : ∀ i, i < n → f i = g i) : own_Ar Z h a ty n g := by
  obtain ⟨c, A, r1, r2, r3, r4⟩ := F
  exact ⟨c, A, r1, r2, fun i hi => by rw [← q i hi]; exact r3 i hi, fun i hi => by rw [← q i hi]; exact r4 i hi⟩
theorem own_Ar.size {Z : State} {h : Heap} {a : Addr} {ty : FieldType} {n m : Nat} {f : Nat → Value} (F : own_Ar Z h a ty n f) (q : n = m) : own_Ar Z h a ty m f := q ▸ F
theorem own_fits_default (ty : FieldType) : fits ty (defaultValue ty) = true := by cases ty <;> rfl
/-- a new array -/
theorem own_Ar.new {Z : State} {h : Heap} {a : Addr} {k : ClassId} {ty : FieldType} {z : Int32} {n : Nat} (A : Arr Z h a (newA k ty z) ty) (q : z.toInt = n) : own_Ar Z h a ty n (fun _ => defaultValue ty) := by
  have e : z.toNatClampNeg = n := by have := own_nat (j := z) (by omega); omega
  obtain ⟨c, A', q1, S, q3, H, G⟩ := Arv.new A (own_lt0 (by omega))
  have r := z.toInt_lt
  refine ⟨c, A', S.trans e, by omega, fun i hi => by rw [H i (by omega)]; rfl, fun i hi => own_fits_default ty⟩
/-- a component read -/
theorem own_Ar.at {Z : State} {h : Heap} {a : Addr} {ty : FieldType} {n : Nat} {f : Nat → Value} (F : own_Ar Z h a ty n f) {j : Int32} {i : Nat} (hj : j.toInt = i) (hi : i < n) :
    ∃ c : Cell, Arr Z h a c ty ∧ ¬ (j < 0 ∨ c.slots.size ≤ j.toNatClampNeg) ∧ c.slots[j.toNatClampNeg]? = some (f i) := by
  obtain ⟨c, A, r1, r2, r3, r4⟩ := F
  have e : j.toNatClampNeg = i := by have := own_nat (j := j) (by omega); omega
  refine ⟨c, A, fun q => q.elim (own_lt0 (by omega)) (fun u => by omega), by rw [e]; exact r3 i hi⟩
/-- its length -/
theorem own_Ar.len {Z : State} {h : Heap} {a : Addr} {ty : FieldType} {n : Nat} {f : Nat → Value} (F : own_Ar Z h a ty n f) : ∃ c : Cell, Arr Z h a c ty ∧ c.slots.size.toInt32 = Int32.ofNat n ∧ n < 2147483648 := by
  obtain ⟨c, A, r1, r2, r3, r4⟩ := F
  exact ⟨c, A, by rw [r1], r2⟩
theorem own_ofNat {n : Nat} (h : n < 2147483648) : (Int32.ofNat n).toInt = n := Int32.toInt_ofNat_of_lt (by omega)
/-- a component written -/
theorem own_Ar.set {Z : State} {h h' : Heap} {a : Addr} {ty : FieldType} {n : Nat} {f : Nat → Value} {v : Value} (F : own_Ar Z h a ty n f) {j : Int32} {i : Nat} (hj : j.toInt = i) (W : Wr h h' a j.toNatClampNeg v) (hv : fits ty v = true) :
    own_Ar Z h' a ty n (fun k => if k = i then v else f k) := by
  obtain ⟨c, A, r1, r2, r3, r4⟩ := F
  have e : j.toNatClampNeg = i := by have := own_nat (j := j) (by omega); omega
  obtain ⟨c', q1, q2, q3, q4, q5, q6, q7⟩ := wr_at W A.1
  obtain ⟨q8, q9, q10⟩ := q7 rfl
  have A' := A.same W
  rw [← q8] at A'
  refine ⟨c', A', q4.trans r1, r2, fun k hk => ?_, fun k hk => ?_⟩ <;> dsimp only
  · by_cases u : k = i
    · subst u; rw [if_pos rfl, ← e]; exact q9
    · rw [if_neg u, q6 k (by omega)]; exact r3 k hk
  · by_cases u : k = i
    · rw [if_pos u]; exact hv
    · rw [if_neg u]; exact r4 k hk
theorem own_ins {j : Int32} {n i : Nat} {c : Cell} (r1 : c.slots.size = n) (hj : j.toInt = i) (hi : i < n) : ¬ (j < 0 ∨ c.slots.size ≤ j.toNatClampNeg) := by
  have e : j.toNatClampNeg = i := by have := own_nat (j := j) (by omega); omega
  exact fun q => q.elim (own_lt0 (by omega)) (fun u => by omega)
def own_eq3 (u1 w1 u2 w2 u3 w3 : Int64) : Int32 := if u1 = w1 ∧ u2 = w2 ∧ u3 = w3 then 1 else 0
theorem own_eq3_t {u1 w1 u2 w2 u3 w3 : Int64} (h1 : u1 = w1) (h2 : u2 = w2) (h3 : u3 = w3) : own_eq3 u1 w1 u2 w2 u3 w3 = 1 := if_pos ⟨h1, h2, h3⟩
theorem own_eq3_1 {u1 w1 u2 w2 u3 w3 : Int64} (h1 : ¬ u1 = w1) : own_eq3 u1 w1 u2 w2 u3 w3 = 0 := if_neg fun q => h1 q.1
theorem own_eq3_2 {u1 w1 u2 w2 u3 w3 : Int64} (h1 : ¬ u2 = w2) : own_eq3 u1 w1 u2 w2 u3 w3 = 0 := if_neg fun q => h1 q.2.1
theorem own_eq3_3 {u1 w1 u2 w2 u3 w3 : Int64} (h1 : ¬ u3 = w3) : own_eq3 u1 w1 u2 w2 u3 w3 = 0 := if_neg fun q => h1 q.2.2
theorem own_eq3_c (u1 w1 u2 w2 u3 w3 : Int64) : own_eq3 w1 u1 w2 u2 w3 u3 = own_eq3 u1 w1 u2 w2 u3 w3 := by
  unfold own_eq3; simp only [eq_comm]
def own_sel (p : Int32) (x d : Int64) : Int64 := if p = 0 then d else x
theorem own_sel_0 {p : Int32} {x d : Int64} (h : p = 0) : own_sel p x d = d := if_pos h
theorem own_sel_1 {p : Int32} {x d : Int64} (h : ¬ p = 0) : own_sel p x d = x := if_neg h
theorem own_Sta_keep {Z : State} {h h' : Heap} {C n d : String} {v : Value} (S : Sta Z h C n d v) (K : Keep h h' []) : Sta Z h' C n d v := by
  obtain ⟨cf, i, k, f, st, cell, h1, h2, h3, h4, h5, r⟩ := S
  exact ⟨cf, i, k, f, st, cell, h1, h2, h3, h4, K.2.1 _ _ h5 nin0, r⟩
theorem own_cidx {q : Int64} (h1 : ¬ q < -128) (h2 : ¬ 127 < q) : ∃ i : Nat, i < 256 ∧ (q.toInt32 + 128).toInt = i := by
  rw [Int64.lt_iff_toInt_lt] at h1 h2
  have z1 : (-128 : Int64).toInt = -128 := rfl
  have z2 : (127 : Int64).toInt = 127 := rfl
  have a := c_l2i q
  have r := rng32 q.toInt32
  have b := c_iadd q.toInt32 128
  have r2 := rng32 (q.toInt32 + 128)
  have z3 : (128 : Int32).toInt = 128 := rfl
  exact ⟨(q.toInt32 + 128).toInt.toNat, by omega, by omega⟩
theorem own_no {Z : State} {a0 : Array Value} (hw : ∀ d ∈ tables_1, d.before a0 Z = true) : ∃ c t, Z.vm.findClass "java/lang/Long" = some c ∧ Z.vm.findClass "com/example/termwright/termwright/PostingsStreams" = some t ∧ Z.vm.assignable c t = false := by
  obtain ⟨t, kt, t1, t2, t3, t4, -, -⟩ := Cond.instantiable_spec (show (Cond.instantiable "com/example/termwright/termwright/PostingsStreams" 3).holds a0 Z none Z [] = true from (hw _ (List.mem_of_getElem? (i := 1) rfl)))
  obtain ⟨cO, kO, o1, o2, o3, -, -⟩ := Cond.noSuperclass_spec (show (Cond.noSuperclass "java/lang/Object").holds a0 Z none Z [] = true from (hw _ (List.mem_of_getElem? (i := 49) rfl)))
  have n0 : NS Z "java/lang/Object" "com/example/termwright/termwright/PostingsStreams" := ⟨cO, t, o1, t1, fun fuel => by
    cases fuel with
    | zero => rfl
    | succ f => simp [Vm.isSubclassAux, ids_ne o1 t1 (by decide), o2, o3]⟩
  have n1 := NS.step (hw _ (List.mem_of_getElem? (i := 48) rfl)) n0 (by decide)
  obtain ⟨c, t', h0, g0, n3⟩ := NS.step (hw _ (List.mem_of_getElem? (i := 47) rfl)) n1 (by decide)
  cases g0.symm.trans t1
  obtain ⟨p, k, kp, h1, h2, h3, h4, h5, -, h7⟩ := Cond.superclass_spec h0 (hw _ (List.mem_of_getElem? (i := 47) rfl))
  have t5 : kt.isInterface = false := (Bool.or_eq_false_iff.mp t4).1
  refine ⟨c, _, h0, t1, ?_⟩
  show Z.vm.assignableAux (255 + 1) c _ = false
  simp [Vm.assignableAux, ids_ne h0 t1 (by decide), h2, t2, h5, t3, t5, Vm.isSubclass, n3]
theorem own_cache (s : State) (args : Array Value) (h : ∀ d ∈ jdkStatics_1, d.before args s = true) :
    ∃ (arr : Addr) (bf : Nat → Addr), Sta s s.heap "java/lang/Long$LongCache" "cache" "[Ljava/lang/Long;" (.ref arr) ∧ own_Ar s s.heap arr (.object "java/lang/Long") 256 (fun i => .ref (bf i)) ∧ ∀ i, i < 256 → Exa s s.heap (bf i) "java/lang/Long" := by
  have q1 := h _ (List.mem_of_getElem? (i := 1) rfl)
  have q2 := h _ (List.mem_of_getElem? (i := 2) rfl)
  have q4 := h _ (List.mem_of_getElem? (i := 4) rfl)
  have q5 := h _ (List.mem_of_getElem? (i := 5) rfl)
  obtain ⟨arr, ev⟩ := arr_v (Cond.before_iff.mp q2)
  have S := Sta.start ev (Or.inl q1)
  obtain ⟨cA, Ar⟩ := Arr.start ev (Cond.before_iff.mp q2)
  have hat := IntBox.arrayAt_of Ar.1 Ar.2.1 Ar.2.2
  obtain ⟨hsz, hsize⟩ := IntBox.length_fwd q4 ev Ar.1 Ar.2.1 Ar.2.2
  have hs : cA.slots.size = 256 := by
    have := len_toInt hsz
    rw [hsize] at this
    have z : (256 : Int32).toInt = 256 := rfl
    omega
  have hall := Cond.all_elim ev hat (by simpa [Cond.before, Cond.holds] using q5)
  have hel : ∀ i : Nat, ∃ b : Addr, i < 256 → cA.slots[i]? = some (.ref b) ∧ Exa s s.heap b "java/lang/Long" := fun i => by
    by_cases hi : i < 256
    · have hj := hall i (by omega)
      have hex := (and_e hj).1
      obtain ⟨b, cc, cellB, kB, e1, e2, e3, e4, e5, rfl, e7⟩ := Cond.exactly_spec (show (Cond.exactly ((Term.static "java/lang/Long$LongCache" "cache" "[Ljava/lang/Long;").elem (Term.index 0)) "java/lang/Long").holds args s none s [i] = true by simp [Cond.holds, hex])
      have ev' : (Term.static "java/lang/Long$LongCache" "cache" "[Ljava/lang/Long;").eval args s none [i] s = some (.ref arr) := ev
      obtain ⟨-, e8⟩ := elem_in e1 ev' (j := i.toInt32) rfl Ar.1
      have e9 : (i.toInt32).toNatClampNeg = i := by have := len_toInt (n := i) (by omega); have := own_nat (j := i.toInt32) (by omega); omega
      rw [e9] at e8
      exact ⟨b, fun _ => ⟨e8, cellB, kB, e3, e2, e4, e5, e7⟩⟩
    · exact ⟨0, fun q => absurd q hi⟩
  refine ⟨arr, fun i => Classical.choose (hel i), S, ⟨cA, Ar, hs, by decide, fun i hi => (Classical.choose_spec (hel i) hi).1, fun i hi => rfl⟩, fun i hi => (Classical.choose_spec (hel i) hi).2⟩
theorem pd_0 : parseMethodDescriptor "(JJJ)V" = some ⟨[.long, .long, .long], none⟩ := by decide +kernel
theorem pd_1 : parseMethodDescriptor "()V" = some ⟨[], none⟩ := by decide +kernel
theorem pd_2 : parseMethodDescriptor "(Ljava/lang/Object;)Z" = some ⟨[(.object "java/lang/Object")], some .boolean⟩ := by decide +kernel
theorem pd_3 : parseMethodDescriptor "(J)Ljava/lang/Long;" = some ⟨[.long], some (.object "java/lang/Long")⟩ := by decide +kernel
theorem pd_4 : parseMethodDescriptor "(J)V" = some ⟨[.long], none⟩ := by decide +kernel
theorem d1_0 : decode prog_126_method_1_code 0 = .ok (.aload_n 0, 1) := by decide +kernel
theorem d1_1 : decode prog_126_method_1_code 1 = .ok (.invokespecial 1, 3) := by decide +kernel
theorem d1_4 : decode prog_126_method_1_code 4 = .ok (.aload_n 0, 1) := by decide +kernel
theorem d1_5 : decode prog_126_method_1_code 5 = .ok (.lload_n 1, 1) := by decide +kernel
theorem d1_6 : decode prog_126_method_1_code 6 = .ok (.putfield 7, 3) := by decide +kernel
theorem d1_9 : decode prog_126_method_1_code 9 = .ok (.aload_n 0, 1) := by decide +kernel
theorem d1_10 : decode prog_126_method_1_code 10 = .ok (.lload_n 3, 1) := by decide +kernel
theorem d1_11 : decode prog_126_method_1_code 11 = .ok (.putfield 13, 3) := by decide +kernel
theorem d1_14 : decode prog_126_method_1_code 14 = .ok (.aload_n 0, 1) := by decide +kernel
theorem d1_15 : decode prog_126_method_1_code 15 = .ok (.lload 5, 2) := by decide +kernel
theorem d1_17 : decode prog_126_method_1_code 17 = .ok (.putfield 16, 3) := by decide +kernel
theorem d1_20 : decode prog_126_method_1_code 20 = .ok (.return_, 1) := by decide +kernel
theorem pn_1 : plainName "com/example/termwright/termwright/PostingsStreams" = true := by first | (simp [plainName, overriddenIn]; done) | decide +kernel
theorem d2_0 : decode jdk_30_method_1_code 0 = .ok (.aload_n 0, 1) := by decide +kernel
theorem d2_1 : decode jdk_30_method_1_code 1 = .ok (.invokespecial 1, 3) := by decide +kernel
theorem d2_4 : decode jdk_30_method_1_code 4 = .ok (.return_, 1) := by decide +kernel
theorem pn_2 : plainName "java/lang/Record" = true := by first | (simp [plainName, overriddenIn]; done) | decide +kernel
theorem d4_0 : decode prog_126_method_4_code 0 = .ok (.aload_n 1, 1) := by decide +kernel
theorem d4_1 : decode prog_126_method_4_code 1 = .ok (.instanceof 8, 3) := by decide +kernel
theorem d4_4 : decode prog_126_method_4_code 4 = .ok (.ifCond .eq 48, 3) := by decide +kernel
theorem d4_7 : decode prog_126_method_4_code 7 = .ok (.aload_n 1, 1) := by decide +kernel
theorem d4_8 : decode prog_126_method_4_code 8 = .ok (.checkcast 8, 3) := by decide +kernel
theorem d4_11 : decode prog_126_method_4_code 11 = .ok (.astore_n 2, 1) := by decide +kernel
theorem d4_12 : decode prog_126_method_4_code 12 = .ok (.aload_n 2, 1) := by decide +kernel
theorem d4_13 : decode prog_126_method_4_code 13 = .ok (.getfield 7, 3) := by decide +kernel
theorem d4_16 : decode prog_126_method_4_code 16 = .ok (.aload_n 0, 1) := by decide +kernel
theorem d4_17 : decode prog_126_method_4_code 17 = .ok (.getfield 7, 3) := by decide +kernel
theorem d4_20 : decode prog_126_method_4_code 20 = .ok (.lcmp, 1) := by decide +kernel
theorem d4_21 : decode prog_126_method_4_code 21 = .ok (.ifCond .ne 31, 3) := by decide +kernel
theorem d4_24 : decode prog_126_method_4_code 24 = .ok (.aload_n 2, 1) := by decide +kernel
theorem d4_25 : decode prog_126_method_4_code 25 = .ok (.getfield 13, 3) := by decide +kernel
theorem d4_28 : decode prog_126_method_4_code 28 = .ok (.aload_n 0, 1) := by decide +kernel
theorem d4_29 : decode prog_126_method_4_code 29 = .ok (.getfield 13, 3) := by decide +kernel
theorem d4_32 : decode prog_126_method_4_code 32 = .ok (.lcmp, 1) := by decide +kernel
theorem d4_33 : decode prog_126_method_4_code 33 = .ok (.ifCond .ne 19, 3) := by decide +kernel
theorem d4_36 : decode prog_126_method_4_code 36 = .ok (.aload_n 2, 1) := by decide +kernel
theorem d4_37 : decode prog_126_method_4_code 37 = .ok (.getfield 16, 3) := by decide +kernel
theorem d4_40 : decode prog_126_method_4_code 40 = .ok (.aload_n 0, 1) := by decide +kernel
theorem d4_41 : decode prog_126_method_4_code 41 = .ok (.getfield 16, 3) := by decide +kernel
theorem d4_44 : decode prog_126_method_4_code 44 = .ok (.lcmp, 1) := by decide +kernel
theorem d4_45 : decode prog_126_method_4_code 45 = .ok (.ifCond .ne 7, 3) := by decide +kernel
theorem d4_48 : decode prog_126_method_4_code 48 = .ok (.iconst 1, 1) := by decide +kernel
theorem d4_49 : decode prog_126_method_4_code 49 = .ok (.goto 4, 3) := by decide +kernel
theorem d4_52 : decode prog_126_method_4_code 52 = .ok (.iconst 0, 1) := by decide +kernel
theorem d4_53 : decode prog_126_method_4_code 53 = .ok (.ireturn, 1) := by decide +kernel
theorem pn_4 : plainName "com/example/termwright/termwright/PostingsStreams" = true := by first | (simp [plainName, overriddenIn]; done) | decide +kernel
theorem d5_0 : decode jdk_35_method_24_code 0 = .ok (.sipush 128, 3) := by decide +kernel
theorem d5_3 : decode jdk_35_method_24_code 3 = .ok (.istore_n 2, 1) := by decide +kernel
theorem d5_4 : decode jdk_35_method_24_code 4 = .ok (.lload_n 0, 1) := by decide +kernel
theorem d5_5 : decode jdk_35_method_24_code 5 = .ok (.ldc2_w 230, 3) := by decide +kernel
theorem d5_8 : decode jdk_35_method_24_code 8 = .ok (.lcmp, 1) := by decide +kernel
theorem d5_9 : decode jdk_35_method_24_code 9 = .ok (.ifCond .lt 22, 3) := by decide +kernel
theorem d5_12 : decode jdk_35_method_24_code 12 = .ok (.lload_n 0, 1) := by decide +kernel
theorem d5_13 : decode jdk_35_method_24_code 13 = .ok (.ldc2_w 232, 3) := by decide +kernel
theorem d5_16 : decode jdk_35_method_24_code 16 = .ok (.lcmp, 1) := by decide +kernel
theorem d5_17 : decode jdk_35_method_24_code 17 = .ok (.ifCond .gt 14, 3) := by decide +kernel
theorem d5_20 : decode jdk_35_method_24_code 20 = .ok (.getstatic 234, 3) := by decide +kernel
theorem d5_23 : decode jdk_35_method_24_code 23 = .ok (.lload_n 0, 1) := by decide +kernel
theorem d5_24 : decode jdk_35_method_24_code 24 = .ok (.l2i, 1) := by decide +kernel
theorem d5_25 : decode jdk_35_method_24_code 25 = .ok (.sipush 128, 3) := by decide +kernel
theorem d5_28 : decode jdk_35_method_24_code 28 = .ok (.iadd, 1) := by decide +kernel
theorem d5_29 : decode jdk_35_method_24_code 29 = .ok (.aaload, 1) := by decide +kernel
theorem d5_30 : decode jdk_35_method_24_code 30 = .ok (.areturn, 1) := by decide +kernel
theorem d5_31 : decode jdk_35_method_24_code 31 = .ok (.new 1, 3) := by decide +kernel
theorem d5_34 : decode jdk_35_method_24_code 34 = .ok (.dup, 1) := by decide +kernel
theorem d5_35 : decode jdk_35_method_24_code 35 = .ok (.lload_n 0, 1) := by decide +kernel
theorem d5_36 : decode jdk_35_method_24_code 36 = .ok (.invokespecial 240, 3) := by decide +kernel
theorem d5_39 : decode jdk_35_method_24_code 39 = .ok (.areturn, 1) := by decide +kernel
theorem pn_5 : plainName "java/lang/Long" = true := by first | (simp [plainName, overriddenIn]; done) | decide +kernel
theorem d6_0 : decode jdk_35_method_26_code 0 = .ok (.aload_n 0, 1) := by decide +kernel
theorem d6_1 : decode jdk_35_method_26_code 1 = .ok (.invokespecial 270, 3) := by decide +kernel
theorem d6_4 : decode jdk_35_method_26_code 4 = .ok (.aload_n 0, 1) := by decide +kernel
theorem d6_5 : decode jdk_35_method_26_code 5 = .ok (.lload_n 1, 1) := by decide +kernel
theorem d6_6 : decode jdk_35_method_26_code 6 = .ok (.putfield 273, 3) := by decide +kernel
theorem d6_9 : decode jdk_35_method_26_code 9 = .ok (.return_, 1) := by decide +kernel
theorem pn_6 : plainName "java/lang/Long" = true := by first | (simp [plainName, overriddenIn]; done) | decide +kernel
theorem d7_0 : decode jdk_18_method_1_code 0 = .ok (.aload_n 0, 1) := by decide +kernel
theorem d7_1 : decode jdk_18_method_1_code 1 = .ok (.invokespecial 1, 3) := by decide +kernel
theorem d7_4 : decode jdk_18_method_1_code 4 = .ok (.return_, 1) := by decide +kernel
theorem pn_7 : plainName "java/lang/Number" = true := by first | (simp [plainName, overriddenIn]; done) | decide +kernel
theorem pn_0 : plainName "com/example/termwright/termwright/PostingsStreamsEqualsPinLaw" = true := by first | (simp [plainName, overriddenIn]; done) | decide +kernel
theorem ef_rm2 (m : MethodId) (x0 : Addr) : entryFrame m #[(.ref x0)] 1 = mkF m 0 #[.val (.ref x0)] [] := by first | (simp [entryFrame, mkF, argsToLocals, Value.category]; done) | rfl
def Q2 (Z : State) (a1 : Addr) (h0 : Heap) (n0 : Nat) (v : Option Value) (h : Heap) (L : List Loc) : Prop := v = none ∧ Fr n0 L ∧ h = h0
set_option maxRecDepth 65536 in
set_option maxHeartbeats 40000000 in
theorem rm2 (l : Launch) (Z : State) (a0 : Array Value) (hw : ∀ d ∈ tables_1, d.before a0 Z = true) (ws : List Jvm.Cond) (a1 : Addr) (h0 : Heap) (n0 : Nat) (Z0 : n0 ≤ h0.size) :
    MetFree l (⟨"java/lang/Record", "<init>", "()V"⟩ : MethodName) (head1 (Jvm.Cond.code (⟨"java/lang/Record", "<init>", "()V"⟩ : MethodName) jdk_30_method_1_code 1 none :: ws) ({ frames := 1, cells := 0, slots := 0, locals := 12 } : Room)) (fun a U => a = #[(.ref a1)] ∧ Z.Warmed39 U.vm ∧ U.heap = h0) (fun _ _ _ _ _ => True) (fun _ U o U' => ∃ v L, o = .returned v ∧ Q2 Z a1 h0 n0 v U'.heap L ∧ FrameEnd U o U' L ({ frames := 1, cells := 0, slots := 0, locals := 12 } : Room).cells ({ frames := 1, cells := 0, slots := 0, locals := 12 } : Room).slots) := by
  refine MetFree.of_bodySF (plainFor_of_name pn_2) hisR ?_
  intro p e s m args below meth c s₁ Bd hml0 hP hK
  obtain ⟨rfl, hZ, hh⟩ := hP
  have hx := Bd.exec
  have hby := Bd.bytes
  have hml : c.maxLocals = 1 := hml0
  have hown : s.vm.findClass "java/lang/Record" = some m.cls := findClass_of_methodNamed Bd.named
  have hnm := (name_of_methodNamed Bd.named Bd.method).1
  have X0 : Stand p l e ({ frames := 1, cells := 0, slots := 0, locals := 12 } : Room) s m #[(.ref a1)] below meth c s₁ [] 0 0 := Stand.of_body Bd
  have e0 : s₁.heap = h0 := by rw [← hh, Bd.state]; rfl
  have N0 := Fr.nil n0
  have a0s : ∀ t, Steps p.tables e below (s₁.setTop (mkF m 0 #[.val (.ref a1)] [])) t → Steps p.tables e below (s₁.setTop (entryFrame m #[(.ref a1)] 1)) t := fun t k => castTop (ef_rm2 m a1) k
  have ac1 : ∀ t, Steps p.tables e below (s₁.setTop (mkF m 1 #[.val (.ref a1)] [(.ref a1)])) t → Steps p.tables e below (s₁.setTop (entryFrame m #[(.ref a1)] 1)) t := fun t k => a0s t (by
      show Steps p.tables e below (s₁.setTop (mkF m 0 #[.val (.ref a1)] [])) _
      refine XS.aloadN X0.here hx rfl (hb hby d2_0) rfl rfl ?_
      exact k)
  obtain ⟨T2, X2, e2, st2⟩ := initO X0 hx hZ hown (hw _ (List.mem_of_getElem? (i := 11) rfl)) (hw _ (List.mem_of_getElem? (i := 12) rfl)) (hw _ (List.mem_of_getElem? (i := 13) rfl)) e0 (g := (mkF m 1 #[.val (.ref a1)] [(.ref a1)])) rfl (by rw [hml]; rfl) rfl (hb hby d2_1) (by decide) (W := 0) (by show 2 * 0 + _ ≤ _; exact Nat.le_of_eq rfl) (by decide)
  have ac3 : ∀ t, Steps p.tables e below (T2.setTop (mkF m 4 #[.val (.ref a1)] [])) t → Steps p.tables e below (s₁.setTop (entryFrame m #[(.ref a1)] 1)) t := fun t k => ac1 t (st2 t k)
  obtain ⟨fs, hr, hrun, hended, hW, hsame⟩ := X2.leave (v := none) (fun _ => rfl) (BodyLoose.notSynchronized Bd)
  refine ⟨_, _, ac3 _ ?_, hrun, hended, _, _, rfl, ?_, ⟨_, rfl⟩, hW, hsame.mono (by decide) (by decide)⟩
  · show Steps p.tables e below (T2.setTop (mkF m 4 #[.val (.ref a1)] [])) _
    exact X2.returnOut hx Bd.returns (hb hby d2_4) hr
  · show Q2 Z a1 h0 n0 _ T2.heap _
    rw [e2]
    exact ⟨rfl, N0, rfl⟩
theorem ef_rm7 (m : MethodId) (x0 : Addr) : entryFrame m #[(.ref x0)] 1 = mkF m 0 #[.val (.ref x0)] [] := by first | (simp [entryFrame, mkF, argsToLocals, Value.category]; done) | rfl
def Q7 (Z : State) (a1 : Addr) (h0 : Heap) (n0 : Nat) (v : Option Value) (h : Heap) (L : List Loc) : Prop := v = none ∧ Fr n0 L ∧ h = h0
set_option maxRecDepth 65536 in
set_option maxHeartbeats 40000000 in
theorem rm7 (l : Launch) (Z : State) (a0 : Array Value) (hw : ∀ d ∈ tables_1, d.before a0 Z = true) (ws : List Jvm.Cond) (a1 : Addr) (h0 : Heap) (n0 : Nat) (Z0 : n0 ≤ h0.size) :
    MetFree l (⟨"java/lang/Number", "<init>", "()V"⟩ : MethodName) (head1 (Jvm.Cond.code (⟨"java/lang/Number", "<init>", "()V"⟩ : MethodName) jdk_18_method_1_code 1 none :: ws) ({ frames := 1, cells := 0, slots := 0, locals := 12 } : Room)) (fun a U => a = #[(.ref a1)] ∧ Z.Warmed39 U.vm ∧ U.heap = h0) (fun _ _ _ _ _ => True) (fun _ U o U' => ∃ v L, o = .returned v ∧ Q7 Z a1 h0 n0 v U'.heap L ∧ FrameEnd U o U' L ({ frames := 1, cells := 0, slots := 0, locals := 12 } : Room).cells ({ frames := 1, cells := 0, slots := 0, locals := 12 } : Room).slots) := by
  refine MetFree.of_bodySF (plainFor_of_name pn_7) hisR ?_
  intro p e s m args below meth c s₁ Bd hml0 hP hK
  obtain ⟨rfl, hZ, hh⟩ := hP
  have hx := Bd.exec
  have hby := Bd.bytes
  have hml : c.maxLocals = 1 := hml0
  have hown : s.vm.findClass "java/lang/Number" = some m.cls := findClass_of_methodNamed Bd.named
  have hnm := (name_of_methodNamed Bd.named Bd.method).1
  have X0 : Stand p l e ({ frames := 1, cells := 0, slots := 0, locals := 12 } : Room) s m #[(.ref a1)] below meth c s₁ [] 0 0 := Stand.of_body Bd
  have e0 : s₁.heap = h0 := by rw [← hh, Bd.state]; rfl
  have N0 := Fr.nil n0
  have a0s : ∀ t, Steps p.tables e below (s₁.setTop (mkF m 0 #[.val (.ref a1)] [])) t → Steps p.tables e below (s₁.setTop (entryFrame m #[(.ref a1)] 1)) t := fun t k => castTop (ef_rm7 m a1) k
  have ac1 : ∀ t, Steps p.tables e below (s₁.setTop (mkF m 1 #[.val (.ref a1)] [(.ref a1)])) t → Steps p.tables e below (s₁.setTop (entryFrame m #[(.ref a1)] 1)) t := fun t k => a0s t (by
      show Steps p.tables e below (s₁.setTop (mkF m 0 #[.val (.ref a1)] [])) _
      refine XS.aloadN X0.here hx rfl (hb hby d7_0) rfl rfl ?_
      exact k)
  obtain ⟨T2, X2, e2, st2⟩ := initO X0 hx hZ hown (hw _ (List.mem_of_getElem? (i := 44) rfl)) (hw _ (List.mem_of_getElem? (i := 12) rfl)) (hw _ (List.mem_of_getElem? (i := 13) rfl)) e0 (g := (mkF m 1 #[.val (.ref a1)] [(.ref a1)])) rfl (by rw [hml]; rfl) rfl (hb hby d7_1) (by decide) (W := 0) (by show 2 * 0 + _ ≤ _; exact Nat.le_of_eq rfl) (by decide)
  have ac3 : ∀ t, Steps p.tables e below (T2.setTop (mkF m 4 #[.val (.ref a1)] [])) t → Steps p.tables e below (s₁.setTop (entryFrame m #[(.ref a1)] 1)) t := fun t k => ac1 t (st2 t k)
  obtain ⟨fs, hr, hrun, hended, hW, hsame⟩ := X2.leave (v := none) (fun _ => rfl) (BodyLoose.notSynchronized Bd)
  refine ⟨_, _, ac3 _ ?_, hrun, hended, _, _, rfl, ?_, ⟨_, rfl⟩, hW, hsame.mono (by decide) (by decide)⟩
  · show Steps p.tables e below (T2.setTop (mkF m 4 #[.val (.ref a1)] [])) _
    exact X2.returnOut hx Bd.returns (hb hby d7_4) hr
  · show Q7 Z a1 h0 n0 _ T2.heap _
    rw [e2]
    exact ⟨rfl, N0, rfl⟩
theorem ef_rm1 (m : MethodId) (x0 : Addr) (x1 : Int64) (x2 : Int64) (x3 : Int64) : entryFrame m #[(.ref x0), (.long x1), (.long x2), (.long x3)] 7 = mkF m 0 #[.val (.ref x0), .val (.long x1), .second, .val (.long x2), .second, .val (.long x3), .second] [] := by first | (simp [entryFrame, mkF, argsToLocals, Value.category]; done) | rfl
def Q1 (Z : State) (a1 : Addr) (q1 : Int64) (q2 : Int64) (q3 : Int64) (h0 : Heap) (n0 : Nat) (v : Option Value) (h : Heap) (L : List Loc) : Prop := v = none ∧ Fr n0 L ∧ Keep h0 h [a1] ∧ Exa Z h a1 "com/example/termwright/termwright/PostingsStreams" ∧ Fld Z h a1 "com/example/termwright/termwright/PostingsStreams" "documents" "J" (.long q1) ∧ Fld Z h a1 "com/example/termwright/termwright/PostingsStreams" "positions" "J" (.long q2) ∧ Fld Z h a1 "com/example/termwright/termwright/PostingsStreams" "offsets" "J" (.long q3)
set_option maxRecDepth 65536 in
set_option maxHeartbeats 40000000 in
theorem rm1 (l : Launch) (Z : State) (a0 : Array Value) (hw : ∀ d ∈ tables_1, d.before a0 Z = true) (ws : List Jvm.Cond) (a1 : Addr) (q1 : Int64) (q2 : Int64) (q3 : Int64) (h0 : Heap) (n0 : Nat) (Z0 : n0 ≤ h0.size) (E1 : Exa Z h0 a1 "com/example/termwright/termwright/PostingsStreams") (g_a1 : n0 ≤ a1) (F0 : Fld Z h0 a1 "com/example/termwright/termwright/PostingsStreams" "documents" "J" (.long 0)) (F1 : Fld Z h0 a1 "com/example/termwright/termwright/PostingsStreams" "positions" "J" (.long 0)) (F2 : Fld Z h0 a1 "com/example/termwright/termwright/PostingsStreams" "offsets" "J" (.long 0)) :
    MetFree l (⟨"com/example/termwright/termwright/PostingsStreams", "<init>", "(JJJ)V"⟩ : MethodName) (head1 (Jvm.Cond.code (⟨"com/example/termwright/termwright/PostingsStreams", "<init>", "(JJJ)V"⟩ : MethodName) prog_126_method_1_code 7 none :: ws) ({ frames := 2, cells := 0, slots := 0, locals := 24 } : Room)) (fun a U => a = #[(.ref a1), (.long q1), (.long q2), (.long q3)] ∧ Z.Warmed39 U.vm ∧ U.heap = h0) (fun _ _ _ _ _ => True) (fun _ U o U' => ∃ v L, o = .returned v ∧ Q1 Z a1 q1 q2 q3 h0 n0 v U'.heap L ∧ FrameEnd U o U' L ({ frames := 2, cells := 0, slots := 0, locals := 24 } : Room).cells ({ frames := 2, cells := 0, slots := 0, locals := 24 } : Room).slots) := by
  refine MetFree.of_bodySF (plainFor_of_name pn_1) hisR ?_
  intro p e s m args below meth c s₁ Bd hml0 hP hK
  obtain ⟨rfl, hZ, hh⟩ := hP
  have hx := Bd.exec
  have hby := Bd.bytes
  have hml : c.maxLocals = 7 := hml0
  have hown : s.vm.findClass "com/example/termwright/termwright/PostingsStreams" = some m.cls := findClass_of_methodNamed Bd.named
  have hnm := (name_of_methodNamed Bd.named Bd.method).1
  have X0 : Stand p l e ({ frames := 2, cells := 0, slots := 0, locals := 24 } : Room) s m #[(.ref a1), (.long q1), (.long q2), (.long q3)] below meth c s₁ [] 0 0 := Stand.of_body Bd
  have e0 : s₁.heap = h0 := by rw [← hh, Bd.state]; rfl
  have N0 := Fr.nil n0
  have a0s : ∀ t, Steps p.tables e below (s₁.setTop (mkF m 0 #[.val (.ref a1), .val (.long q1), .second, .val (.long q2), .second, .val (.long q3), .second] [])) t → Steps p.tables e below (s₁.setTop (entryFrame m #[(.ref a1), (.long q1), (.long q2), (.long q3)] 7)) t := fun t k => castTop (ef_rm1 m a1 q1 q2 q3) k
  have ac1 : ∀ t, Steps p.tables e below (s₁.setTop (mkF m 1 #[.val (.ref a1), .val (.long q1), .second, .val (.long q2), .second, .val (.long q3), .second] [(.ref a1)])) t → Steps p.tables e below (s₁.setTop (entryFrame m #[(.ref a1), (.long q1), (.long q2), (.long q3)] 7)) t := fun t k => a0s t (by
      show Steps p.tables e below (s₁.setTop (mkF m 0 #[.val (.ref a1), .val (.long q1), .second, .val (.long q2), .second, .val (.long q3), .second] [])) _
      refine XS.aloadN X0.here hx rfl (hb hby d1_0) rfl rfl ?_
      exact k)
  obtain ⟨_, _, ⟨T2, L2, k2, n2⟩, -, X2, ⟨Lc2, hQ2, l2, y2, z2⟩, st2⟩ := X0.specialBack hx (y := (⟨"java/lang/Record", "<init>", "()V"⟩ : MethodName)) rfl hown (mvT hZ (hw _ (List.mem_of_getElem? (i := 6) rfl))) (mvT hZ (hw _ (List.mem_of_getElem? (i := 7) rfl))) (mvT hZ (hw _ (List.mem_of_getElem? (i := 10) rfl))) (by decide) (backOf (W := 0) (rm2 l Z a0 hw [] a1  h0 n0 Z0 ) hZ (hw _ (List.mem_of_getElem? (i := 10) rfl)) (hw _ (List.mem_of_getElem? (i := 9) rfl)) (by decide) (by decide)) (g := (mkF m 1 #[.val (.ref a1), .val (.long q1), .second, .val (.long q2), .second, .val (.long q3), .second] [(.ref a1)])) rfl (by rw [hml]; rfl) (Steps.refl _) (a := a1) (argsL := []) (rest := []) (lenOf pd_1 rfl) rfl (by show 2 * 0 + _ ≤ _; exact Nat.le_of_eq rfl) (hb hby d1_1) (fun _ _ => ⟨rfl, e0, (by decide : 0 + 0 ≤ _), (by decide : 0 + 0 ≤ _)⟩)
  dsimp only [Pt.U, Pt.locs, Pt.cells, Pt.slots] at X2 l2 y2 z2 st2 hQ2
  subst l2 y2 z2
  obtain ⟨rfl, N2q, Qe2⟩ := hQ2
  have N2 := Fr.app N0 N2q
  have ac3 : ∀ t, Steps p.tables e below (T2.setTop (mkF m 4 #[.val (.ref a1), .val (.long q1), .second, .val (.long q2), .second, .val (.long q3), .second] [])) t → Steps p.tables e below (s₁.setTop (entryFrame m #[(.ref a1), (.long q1), (.long q2), (.long q3)] 7)) t := fun t k => ac1 t (st2.trans k)
  have ac4 : ∀ t, Steps p.tables e below (T2.setTop (mkF m 6 #[.val (.ref a1), .val (.long q1), .second, .val (.long q2), .second, .val (.long q3), .second] [(.long q1), (.ref a1)])) t → Steps p.tables e below (s₁.setTop (entryFrame m #[(.ref a1), (.long q1), (.long q2), (.long q3)] 7)) t := fun t k => ac3 t (by
      show Steps p.tables e below (T2.setTop (mkF m 4 #[.val (.ref a1), .val (.long q1), .second, .val (.long q2), .second, .val (.long q3), .second] [])) _
      refine XS.aloadN X2.here hx rfl (hb hby d1_4) rfl rfl ?_
      show Steps p.tables e below (T2.setTop (mkF m 5 #[.val (.ref a1), .val (.long q1), .second, .val (.long q2), .second, .val (.long q3), .second] [(.ref a1)])) _
      refine XS.lloadN X2.here hx rfl (hb hby d1_5) rfl ?_
      exact k)
  obtain ⟨T5, h5, X5, e5, W5, st5⟩ := putF X2 hx hZ hown (host := "") (Or.inl (hw _ (List.mem_of_getElem? (i := 14) rfl))) Via.refl Qe2 F0 E1 (Or.inr ⟨(hw _ (List.mem_of_getElem? (i := 15) rfl)), rfl, hnm⟩) (hw _ (List.mem_of_getElem? (i := 1) rfl)) (ty := .long) (by decide) rfl rfl (g := (mkF m 6 #[.val (.ref a1), .val (.long q1), .second, .val (.long q2), .second, .val (.long q3), .second] [(.long q1), (.ref a1)])) rfl rfl (hb hby d1_6)
  have Fw5 := F0.same W5
  have Ef6 := E1.wr W5
  have Ff7 := F1.other W5 (Or.inr (slot_ne (Or.inr (hw _ (List.mem_of_getElem? (i := 17) rfl))) (Or.inr (hw _ (List.mem_of_getElem? (i := 15) rfl))) (by decide) (t := .long) (t' := .long) (by decide) (by decide)))
  have Ff8 := F2.other W5 (Or.inr (slot_ne (Or.inr (hw _ (List.mem_of_getElem? (i := 19) rfl))) (Or.inr (hw _ (List.mem_of_getElem? (i := 15) rfl))) (by decide) (t := .long) (t' := .long) (by decide) (by decide)))
  have N5 := Fr.snoc X5 N2 g_a1
  have Z5 : n0 ≤ h5.size := Nat.le_trans Z0 (Keep.of_wr W5).1
  have Kp9 : Keep h0 h5 [a1] := (Keep.refl h0 [a1]).wr W5 (Or.inl (List.mem_of_getElem? (i := 0) rfl))
  have ac10 : ∀ t, Steps p.tables e below (T5.setTop (mkF m 9 #[.val (.ref a1), .val (.long q1), .second, .val (.long q2), .second, .val (.long q3), .second] [])) t → Steps p.tables e below (s₁.setTop (entryFrame m #[(.ref a1), (.long q1), (.long q2), (.long q3)] 7)) t := fun t k => ac4 t (st5 t k)
  have ac11 : ∀ t, Steps p.tables e below (T5.setTop (mkF m 11 #[.val (.ref a1), .val (.long q1), .second, .val (.long q2), .second, .val (.long q3), .second] [(.long q2), (.ref a1)])) t → Steps p.tables e below (s₁.setTop (entryFrame m #[(.ref a1), (.long q1), (.long q2), (.long q3)] 7)) t := fun t k => ac10 t (by
      show Steps p.tables e below (T5.setTop (mkF m 9 #[.val (.ref a1), .val (.long q1), .second, .val (.long q2), .second, .val (.long q3), .second] [])) _
      refine XS.aloadN X5.here hx rfl (hb hby d1_9) rfl rfl ?_
      show Steps p.tables e below (T5.setTop (mkF m 10 #[.val (.ref a1), .val (.long q1), .second, .val (.long q2), .second, .val (.long q3), .second] [(.ref a1)])) _
      refine XS.lloadN X5.here hx rfl (hb hby d1_10) rfl ?_
      exact k)
  obtain ⟨T12, h12, X12, e12, W12, st12⟩ := putF X5 hx hZ hown (host := "") (Or.inl (hw _ (List.mem_of_getElem? (i := 16) rfl))) Via.refl e5 Ff7 Ef6 (Or.inr ⟨(hw _ (List.mem_of_getElem? (i := 17) rfl)), rfl, hnm⟩) (hw _ (List.mem_of_getElem? (i := 1) rfl)) (ty := .long) (by decide) rfl rfl (g := (mkF m 11 #[.val (.ref a1), .val (.long q1), .second, .val (.long q2), .second, .val (.long q3), .second] [(.long q2), (.ref a1)])) rfl rfl (hb hby d1_11)
  have Fw12 := Ff7.same W12
  have Ef13 := Ef6.wr W12
  have Ff14 := Ff8.other W12 (Or.inr (slot_ne (Or.inr (hw _ (List.mem_of_getElem? (i := 19) rfl))) (Or.inr (hw _ (List.mem_of_getElem? (i := 17) rfl))) (by decide) (t := .long) (t' := .long) (by decide) (by decide)))
  have Ff15 := Fw5.other W12 (Or.inr (slot_ne (Or.inr (hw _ (List.mem_of_getElem? (i := 15) rfl))) (Or.inr (hw _ (List.mem_of_getElem? (i := 17) rfl))) (by decide) (t := .long) (t' := .long) (by decide) (by decide)))
  have N12 := Fr.snoc X12 N5 g_a1
  have Z12 : n0 ≤ h12.size := Nat.le_trans Z5 (Keep.of_wr W12).1
  have Kp16 : Keep h0 h12 [a1] := Kp9.wr W12 (Or.inl (List.mem_of_getElem? (i := 0) rfl))
  have ac17 : ∀ t, Steps p.tables e below (T12.setTop (mkF m 14 #[.val (.ref a1), .val (.long q1), .second, .val (.long q2), .second, .val (.long q3), .second] [])) t → Steps p.tables e below (s₁.setTop (entryFrame m #[(.ref a1), (.long q1), (.long q2), (.long q3)] 7)) t := fun t k => ac11 t (st12 t k)
  have ac18 : ∀ t, Steps p.tables e below (T12.setTop (mkF m 17 #[.val (.ref a1), .val (.long q1), .second, .val (.long q2), .second, .val (.long q3), .second] [(.long q3), (.ref a1)])) t → Steps p.tables e below (s₁.setTop (entryFrame m #[(.ref a1), (.long q1), (.long q2), (.long q3)] 7)) t := fun t k => ac17 t (by
      show Steps p.tables e below (T12.setTop (mkF m 14 #[.val (.ref a1), .val (.long q1), .second, .val (.long q2), .second, .val (.long q3), .second] [])) _
      refine XS.aloadN X12.here hx rfl (hb hby d1_14) rfl rfl ?_
      show Steps p.tables e below (T12.setTop (mkF m 15 #[.val (.ref a1), .val (.long q1), .second, .val (.long q2), .second, .val (.long q3), .second] [(.ref a1)])) _
      refine XS.lload X12.here hx rfl (hb hby d1_15) rfl ?_
      exact k)
  obtain ⟨T19, h19, X19, e19, W19, st19⟩ := putF X12 hx hZ hown (host := "") (Or.inl (hw _ (List.mem_of_getElem? (i := 18) rfl))) Via.refl e12 Ff14 Ef13 (Or.inr ⟨(hw _ (List.mem_of_getElem? (i := 19) rfl)), rfl, hnm⟩) (hw _ (List.mem_of_getElem? (i := 1) rfl)) (ty := .long) (by decide) rfl rfl (g := (mkF m 17 #[.val (.ref a1), .val (.long q1), .second, .val (.long q2), .second, .val (.long q3), .second] [(.long q3), (.ref a1)])) rfl rfl (hb hby d1_17)
  have Fw19 := Ff14.same W19
  have Ef20 := Ef13.wr W19
  have Ff21 := Ff15.other W19 (Or.inr (slot_ne (Or.inr (hw _ (List.mem_of_getElem? (i := 15) rfl))) (Or.inr (hw _ (List.mem_of_getElem? (i := 19) rfl))) (by decide) (t := .long) (t' := .long) (by decide) (by decide)))
  have Ff22 := Fw12.other W19 (Or.inr (slot_ne (Or.inr (hw _ (List.mem_of_getElem? (i := 17) rfl))) (Or.inr (hw _ (List.mem_of_getElem? (i := 19) rfl))) (by decide) (t := .long) (t' := .long) (by decide) (by decide)))
  have N19 := Fr.snoc X19 N12 g_a1
  have Z19 : n0 ≤ h19.size := Nat.le_trans Z12 (Keep.of_wr W19).1
  have Kp23 : Keep h0 h19 [a1] := Kp16.wr W19 (Or.inl (List.mem_of_getElem? (i := 0) rfl))
  have ac24 : ∀ t, Steps p.tables e below (T19.setTop (mkF m 20 #[.val (.ref a1), .val (.long q1), .second, .val (.long q2), .second, .val (.long q3), .second] [])) t → Steps p.tables e below (s₁.setTop (entryFrame m #[(.ref a1), (.long q1), (.long q2), (.long q3)] 7)) t := fun t k => ac18 t (st19 t k)
  obtain ⟨fs, hr, hrun, hended, hW, hsame⟩ := X19.leave (v := none) (fun _ => rfl) (BodyLoose.notSynchronized Bd)
  refine ⟨_, _, ac24 _ ?_, hrun, hended, _, _, rfl, ?_, ⟨_, rfl⟩, hW, hsame.mono (by decide) (by decide)⟩
  · show Steps p.tables e below (T19.setTop (mkF m 20 #[.val (.ref a1), .val (.long q1), .second, .val (.long q2), .second, .val (.long q3), .second] [])) _
    exact X19.returnOut hx Bd.returns (hb hby d1_20) hr
  · show Q1 Z a1 q1 q2 q3 h0 n0 _ T19.heap _
    rw [e19]
    exact ⟨rfl, N19, Kp23, Ef20, Ff21, Ff22, Fw19⟩
theorem ef_rm6 (m : MethodId) (x0 : Addr) (x1 : Int64) : entryFrame m #[(.ref x0), (.long x1)] 3 = mkF m 0 #[.val (.ref x0), .val (.long x1), .second] [] := by first | (simp [entryFrame, mkF, argsToLocals, Value.category]; done) | rfl
def Q6 (Z : State) (a1 : Addr) (q2 : Int64) (h0 : Heap) (n0 : Nat) (v : Option Value) (h : Heap) (L : List Loc) : Prop := v = none ∧ Fr n0 L ∧ Keep h0 h [a1] ∧ Exa Z h a1 "java/lang/Long"
set_option maxRecDepth 65536 in
set_option maxHeartbeats 40000000 in
theorem rm6 (l : Launch) (Z : State) (a0 : Array Value) (hw : ∀ d ∈ tables_1, d.before a0 Z = true) (ws : List Jvm.Cond) (a1 : Addr) (q2 : Int64) (h0 : Heap) (n0 : Nat) (Z0 : n0 ≤ h0.size) (E1 : Exa Z h0 a1 "java/lang/Long") (g_a1 : n0 ≤ a1) (F1 : Fld Z h0 a1 "java/lang/Long" "value" "J" (.long 0)) :
    MetFree l (⟨"java/lang/Long", "<init>", "(J)V"⟩ : MethodName) (head1 (Jvm.Cond.code (⟨"java/lang/Long", "<init>", "(J)V"⟩ : MethodName) jdk_35_method_26_code 3 none :: ws) ({ frames := 2, cells := 0, slots := 0, locals := 24 } : Room)) (fun a U => a = #[(.ref a1), (.long q2)] ∧ Z.Warmed39 U.vm ∧ U.heap = h0) (fun _ _ _ _ _ => True) (fun _ U o U' => ∃ v L, o = .returned v ∧ Q6 Z a1 q2 h0 n0 v U'.heap L ∧ FrameEnd U o U' L ({ frames := 2, cells := 0, slots := 0, locals := 24 } : Room).cells ({ frames := 2, cells := 0, slots := 0, locals := 24 } : Room).slots) := by
  refine MetFree.of_bodySF (plainFor_of_name pn_6) hisR ?_
  intro p e s m args below meth c s₁ Bd hml0 hP hK
  obtain ⟨rfl, hZ, hh⟩ := hP
  have hx := Bd.exec
  have hby := Bd.bytes
  have hml : c.maxLocals = 3 := hml0
  have hown : s.vm.findClass "java/lang/Long" = some m.cls := findClass_of_methodNamed Bd.named
  have hnm := (name_of_methodNamed Bd.named Bd.method).1
  have X0 : Stand p l e ({ frames := 2, cells := 0, slots := 0, locals := 24 } : Room) s m #[(.ref a1), (.long q2)] below meth c s₁ [] 0 0 := Stand.of_body Bd
  have e0 : s₁.heap = h0 := by rw [← hh, Bd.state]; rfl
  have N0 := Fr.nil n0
  have a0s : ∀ t, Steps p.tables e below (s₁.setTop (mkF m 0 #[.val (.ref a1), .val (.long q2), .second] [])) t → Steps p.tables e below (s₁.setTop (entryFrame m #[(.ref a1), (.long q2)] 3)) t := fun t k => castTop (ef_rm6 m a1 q2) k
  have ac1 : ∀ t, Steps p.tables e below (s₁.setTop (mkF m 1 #[.val (.ref a1), .val (.long q2), .second] [(.ref a1)])) t → Steps p.tables e below (s₁.setTop (entryFrame m #[(.ref a1), (.long q2)] 3)) t := fun t k => a0s t (by
      show Steps p.tables e below (s₁.setTop (mkF m 0 #[.val (.ref a1), .val (.long q2), .second] [])) _
      refine XS.aloadN X0.here hx rfl (hb hby d6_0) rfl rfl ?_
      exact k)
  obtain ⟨_, _, ⟨T2, L2, k2, n2⟩, -, X2, ⟨Lc2, hQ2, l2, y2, z2⟩, st2⟩ := X0.specialBack hx (y := (⟨"java/lang/Number", "<init>", "()V"⟩ : MethodName)) rfl hown (mvT hZ (hw _ (List.mem_of_getElem? (i := 38) rfl))) (mvT hZ (hw _ (List.mem_of_getElem? (i := 39) rfl))) (mvT hZ (hw _ (List.mem_of_getElem? (i := 43) rfl))) (by decide) (backOf (W := 0) (rm7 l Z a0 hw [] a1  h0 n0 Z0 ) hZ (hw _ (List.mem_of_getElem? (i := 43) rfl)) (hw _ (List.mem_of_getElem? (i := 42) rfl)) (by decide) (by decide)) (g := (mkF m 1 #[.val (.ref a1), .val (.long q2), .second] [(.ref a1)])) rfl (by rw [hml]; rfl) (Steps.refl _) (a := a1) (argsL := []) (rest := []) (lenOf pd_1 rfl) rfl (by show 2 * 0 + _ ≤ _; exact Nat.le_of_eq rfl) (hb hby d6_1) (fun _ _ => ⟨rfl, e0, (by decide : 0 + 0 ≤ _), (by decide : 0 + 0 ≤ _)⟩)
  dsimp only [Pt.U, Pt.locs, Pt.cells, Pt.slots] at X2 l2 y2 z2 st2 hQ2
  subst l2 y2 z2
  obtain ⟨rfl, N2q, Qe2⟩ := hQ2
  have N2 := Fr.app N0 N2q
  have ac3 : ∀ t, Steps p.tables e below (T2.setTop (mkF m 4 #[.val (.ref a1), .val (.long q2), .second] [])) t → Steps p.tables e below (s₁.setTop (entryFrame m #[(.ref a1), (.long q2)] 3)) t := fun t k => ac1 t (st2.trans k)
  have ac4 : ∀ t, Steps p.tables e below (T2.setTop (mkF m 6 #[.val (.ref a1), .val (.long q2), .second] [(.long q2), (.ref a1)])) t → Steps p.tables e below (s₁.setTop (entryFrame m #[(.ref a1), (.long q2)] 3)) t := fun t k => ac3 t (by
      show Steps p.tables e below (T2.setTop (mkF m 4 #[.val (.ref a1), .val (.long q2), .second] [])) _
      refine XS.aloadN X2.here hx rfl (hb hby d6_4) rfl rfl ?_
      show Steps p.tables e below (T2.setTop (mkF m 5 #[.val (.ref a1), .val (.long q2), .second] [(.ref a1)])) _
      refine XS.lloadN X2.here hx rfl (hb hby d6_5) rfl ?_
      exact k)
  obtain ⟨T5, h5, X5, e5, W5, st5⟩ := putF X2 hx hZ hown (host := "") (Or.inl (hw _ (List.mem_of_getElem? (i := 45) rfl))) Via.refl Qe2 F1 E1 (Or.inr ⟨(hw _ (List.mem_of_getElem? (i := 46) rfl)), rfl, hnm⟩) (hw _ (List.mem_of_getElem? (i := 33) rfl)) (ty := .long) (by decide) rfl rfl (g := (mkF m 6 #[.val (.ref a1), .val (.long q2), .second] [(.long q2), (.ref a1)])) rfl rfl (hb hby d6_6)
  have Fw5 := F1.same W5
  have Ef6 := E1.wr W5
  have N5 := Fr.snoc X5 N2 g_a1
  have Z5 : n0 ≤ h5.size := Nat.le_trans Z0 (Keep.of_wr W5).1
  have Kp7 : Keep h0 h5 [a1] := (Keep.refl h0 [a1]).wr W5 (Or.inl (List.mem_of_getElem? (i := 0) rfl))
  have ac8 : ∀ t, Steps p.tables e below (T5.setTop (mkF m 9 #[.val (.ref a1), .val (.long q2), .second] [])) t → Steps p.tables e below (s₁.setTop (entryFrame m #[(.ref a1), (.long q2)] 3)) t := fun t k => ac4 t (st5 t k)
  obtain ⟨fs, hr, hrun, hended, hW, hsame⟩ := X5.leave (v := none) (fun _ => rfl) (BodyLoose.notSynchronized Bd)
  refine ⟨_, _, ac8 _ ?_, hrun, hended, _, _, rfl, ?_, ⟨_, rfl⟩, hW, hsame.mono (by decide) (by decide)⟩
  · show Steps p.tables e below (T5.setTop (mkF m 9 #[.val (.ref a1), .val (.long q2), .second] [])) _
    exact X5.returnOut hx Bd.returns (hb hby d6_9) hr
  · show Q6 Z a1 q2 h0 n0 _ T5.heap _
    rw [e5]
    exact ⟨rfl, N5, Kp7, Ef6⟩
theorem ef_rm5 (m : MethodId) (x0 : Int64) : entryFrame m #[(.long x0)] 3 = mkF m 0 #[.val (.long x0), .second, .unset] [] := by first | (simp [entryFrame, mkF, argsToLocals, Value.category]; done) | rfl
def Q5 (Z : State) (q1 : Int64) (cA : Addr) (bf : Nat → Addr) (h0 : Heap) (n0 : Nat) (v : Option Value) (h : Heap) (L : List Loc) : Prop := ∃ r : Addr, v = some (.ref r) ∧ Fr n0 L ∧ Keep h0 h [] ∧ Exa Z h r "java/lang/Long"
set_option maxRecDepth 65536 in
set_option maxHeartbeats 40000000 in
theorem rm5 (l : Launch) (Z : State) (a0 : Array Value) (hw : ∀ d ∈ tables_1, d.before a0 Z = true) (ws : List Jvm.Cond) (q1 : Int64) (cA : Addr) (bf : Nat → Addr) (h0 : Heap) (n0 : Nat) (Z0 : n0 ≤ h0.size) (Sc : Sta Z h0 "java/lang/Long$LongCache" "cache" "[Ljava/lang/Long;" (.ref cA)) (Vc : own_Ar Z h0 cA (.object "java/lang/Long") 256 (fun i => .ref (bf i))) (Ec : ∀ i, i < 256 → Exa Z h0 (bf i) "java/lang/Long") :
    MetFree l (⟨"java/lang/Long", "valueOf", "(J)Ljava/lang/Long;"⟩ : MethodName) (head1 (Jvm.Cond.code (⟨"java/lang/Long", "valueOf", "(J)Ljava/lang/Long;"⟩ : MethodName) jdk_35_method_24_code 3 (some (.object "java/lang/Long")) :: ws) ({ frames := 3, cells := 1, slots := 1, locals := 39 } : Room)) (fun a U => a = #[(.long q1)] ∧ Z.Warmed39 U.vm ∧ U.heap = h0) (fun _ _ _ _ _ => True) (fun _ U o U' => ∃ v L, o = .returned v ∧ Q5 Z q1 cA bf h0 n0 v U'.heap L ∧ FrameEnd U o U' L ({ frames := 3, cells := 1, slots := 1, locals := 39 } : Room).cells ({ frames := 3, cells := 1, slots := 1, locals := 39 } : Room).slots) := by
  refine MetFree.of_bodySF (plainFor_of_name pn_5) hisR ?_
  intro p e s m args below meth c s₁ Bd hml0 hP hK
  obtain ⟨rfl, hZ, hh⟩ := hP
  have hx := Bd.exec
  have hby := Bd.bytes
  have hml : c.maxLocals = 3 := hml0
  have hown : s.vm.findClass "java/lang/Long" = some m.cls := findClass_of_methodNamed Bd.named
  have hnm := (name_of_methodNamed Bd.named Bd.method).1
  have X0 : Stand p l e ({ frames := 3, cells := 1, slots := 1, locals := 39 } : Room) s m #[(.long q1)] below meth c s₁ [] 0 0 := Stand.of_body Bd
  have e0 : s₁.heap = h0 := by rw [← hh, Bd.state]; rfl
  have N0 := Fr.nil n0
  have a0s : ∀ t, Steps p.tables e below (s₁.setTop (mkF m 0 #[.val (.long q1), .second, .unset] [])) t → Steps p.tables e below (s₁.setTop (entryFrame m #[(.long q1)] 3)) t := fun t k => castTop (ef_rm5 m q1) k
  have ac1 : ∀ t, Steps p.tables e below (s₁.setTop (mkF m 9 #[.val (.long q1), .second, .val (.int (128 : Int32))] [(.int (lcmpW q1 (-128 : Int64)))])) t → Steps p.tables e below (s₁.setTop (entryFrame m #[(.long q1)] 3)) t := fun t k => a0s t (by
      show Steps p.tables e below (s₁.setTop (mkF m 0 #[.val (.long q1), .second, .unset] [])) _
      refine XS.sipush X0.here hx rfl (hb hby d5_0) ?_
      show Steps p.tables e below (s₁.setTop (mkF m 3 #[.val (.long q1), .second, .unset] [(.int (128 : Int32))])) _
      refine XS.istoreN X0.here hx rfl (hb hby d5_3) rfl (l' := #[.val (.long q1), .second, .val (.int (128 : Int32))]) rfl ?_
      show Steps p.tables e below (s₁.setTop (mkF m 4 #[.val (.long q1), .second, .val (.int (128 : Int32))] [])) _
      refine XS.lloadN X0.here hx rfl (hb hby d5_4) rfl ?_
      show Steps p.tables e below (s₁.setTop (mkF m 5 #[.val (.long q1), .second, .val (.int (128 : Int32))] [(.long q1)])) _
      refine X0.ldc2Long hx hown (mvT hZ (hw _ (List.mem_of_getElem? (i := 31) rfl))) (g := (mkF m 5 #[.val (.long q1), .second, .val (.int (128 : Int32))] [(.long q1)])) rfl (hb hby d5_5) _ ?_
      show Steps p.tables e below (s₁.setTop (mkF m 8 #[.val (.long q1), .second, .val (.int (128 : Int32))] [(.long (-128 : Int64)), (.long q1)])) _
      refine XS.lcmp X0.here hx rfl (hb hby d5_8) rfl ?_
      exact k)
  by_cases hlo : q1 < (-128 : Int64)
  ·
    have ac2 : ∀ t, Steps p.tables e below (s₁.setTop (mkF m 31 #[.val (.long q1), .second, .val (.int (128 : Int32))] [])) t → Steps p.tables e below (s₁.setTop (entryFrame m #[(.long q1)] 3)) t := fun t k => ac1 t (by
        show Steps p.tables e below (s₁.setTop (mkF m 9 #[.val (.long q1), .second, .val (.int (128 : Int32))] [(.int (lcmpW q1 (-128 : Int64)))])) _
        refine XS.ifYes X0.here hx rfl (pc0 := 9) (pc' := 31) rfl (hb hby d5_9) rfl ((if0 _ _).trans (tlt ((lw_lt _ _).mpr hlo)).1) (by decide) (by decide) ?_
        exact k)
    obtain ⟨T3, h3, X3, e3, E3, A3, D3, -, st3⟩ := newO X0 hx hZ hown (hw _ (List.mem_of_getElem? (i := 32) rfl)) (hw _ (List.mem_of_getElem? (i := 33) rfl)) (hw _ (List.mem_of_getElem? (i := 29) rfl)) e0 (g := (mkF m 31 #[.val (.long q1), .second, .val (.int (128 : Int32))] [])) rfl (hb hby d5_31) (by decide) (by decide)
    obtain ⟨b3, g3⟩ : ∃ z, z = h0.size := ⟨_, rfl⟩
    rw [← g3] at A3 D3 st3
    have g_b3 : n0 ≤ b3 := Nat.le_trans Z0 (Nat.le_of_eq g3.symm)
    have sz_b3 : h0.size ≤ b3 := Nat.le_trans (Keep.refl h0 []).1 (Nat.le_of_eq g3.symm)
    have Z3 : n0 ≤ h3.size := Nat.le_trans Z0 E3.1
    have Kp4 : Keep h0 h3 [] := (Keep.refl h0 []).ext E3
    have F_value_b3 : Fld Z h3 b3 "java/lang/Long" "value" "J" (.long (0 : Int64)) := D3 (Or.inr (hw _ (List.mem_of_getElem? (i := 46) rfl))) (ty := .long) (by decide)
    have ac5 : ∀ t, Steps p.tables e below (T3.setTop (mkF m 34 #[.val (.long q1), .second, .val (.int (128 : Int32))] [(.ref b3)])) t → Steps p.tables e below (s₁.setTop (entryFrame m #[(.long q1)] 3)) t := fun t k => ac2 t (st3 t k)
    have ac6 : ∀ t, Steps p.tables e below (T3.setTop (mkF m 36 #[.val (.long q1), .second, .val (.int (128 : Int32))] [(.long q1), (.ref b3), (.ref b3)])) t → Steps p.tables e below (s₁.setTop (entryFrame m #[(.long q1)] 3)) t := fun t k => ac5 t (by
        show Steps p.tables e below (T3.setTop (mkF m 34 #[.val (.long q1), .second, .val (.int (128 : Int32))] [(.ref b3)])) _
        refine XS.dup X3.here hx rfl (hb hby d5_34) rfl rfl ?_
        show Steps p.tables e below (T3.setTop (mkF m 35 #[.val (.long q1), .second, .val (.int (128 : Int32))] [(.ref b3), (.ref b3)])) _
        refine XS.lloadN X3.here hx rfl (hb hby d5_35) rfl ?_
        exact k)
    obtain ⟨_, _, ⟨T7, L7, k7, n7⟩, -, X7, ⟨Lc7, hQ7, l7, y7, z7⟩, st7⟩ := X3.specialBack hx (y := (⟨"java/lang/Long", "<init>", "(J)V"⟩ : MethodName)) rfl hown (mvT hZ (hw _ (List.mem_of_getElem? (i := 34) rfl))) (mvT hZ (hw _ (List.mem_of_getElem? (i := 35) rfl))) (mvT hZ (hw _ (List.mem_of_getElem? (i := 37) rfl))) (by decide) (backOf (W := 1) (rm6 l Z a0 hw [] b3 q1  h3 n0 Z3 A3 g_b3 F_value_b3) hZ (hw _ (List.mem_of_getElem? (i := 37) rfl)) (hw _ (List.mem_of_getElem? (i := 29) rfl)) (by decide) (by decide)) (g := (mkF m 36 #[.val (.long q1), .second, .val (.int (128 : Int32))] [(.long q1), (.ref b3), (.ref b3)])) rfl (by rw [hml]; rfl) (Steps.refl _) (a := b3) (argsL := [(.long q1)]) (rest := [(.ref b3)]) (lenOf pd_4 rfl) rfl (by show 2 * 0 + _ ≤ _; exact Nat.le_of_eq rfl) (hb hby d5_36) (fun _ _ => ⟨rfl, e3, (by decide : 1 + 0 ≤ _), (by decide : 1 + 0 ≤ _)⟩)
    dsimp only [Pt.U, Pt.locs, Pt.cells, Pt.slots] at X7 l7 y7 z7 st7 hQ7
    subst l7 y7 z7
    obtain ⟨rfl, N7q, K7q, Ex7⟩ := hQ7
    have N7 := Fr.app N0 N7q
    have Ef8 := A3.keep K7q
    have Z7 : n0 ≤ T7.heap.size := Nat.le_trans Z3 K7q.1
    have Kp9 : Keep h0 T7.heap [] := Kp4.trans K7q (allS (Or.inr sz_b3) all0)
    have ac10 : ∀ t, Steps p.tables e below (T7.setTop (mkF m 39 #[.val (.long q1), .second, .val (.int (128 : Int32))] [(.ref b3)])) t → Steps p.tables e below (s₁.setTop (entryFrame m #[(.long q1)] 3)) t := fun t k => ac6 t (st7.trans k)
    obtain ⟨fs, hr, hrun, hended, hW, hsame⟩ := X7.leave (v := some (.ref b3)) (fun h => by rw [Bd.returns] at h; cases h) (BodyLoose.notSynchronized Bd)
    refine ⟨_, _, ac10 _ ?_, hrun, hended, _, _, rfl, ?_, ⟨_, rfl⟩, hW, hsame.mono (by decide) (by decide)⟩
    · show Steps p.tables e below (T7.setTop (mkF m 39 #[.val (.long q1), .second, .val (.int (128 : Int32))] [(.ref b3)])) _
      exact retOut X7 hx Bd.returns rfl (Or.inr (Or.inr (Or.inr (Or.inr ⟨rfl, rfl, rfl⟩)))) (hb hby d5_39) hr
    · show Q5 Z q1 cA bf h0 n0 _ T7.heap _
      exact ⟨b3, rfl, N7, Kp9, Ef8⟩
  ·
    have ac11 : ∀ t, Steps p.tables e below (s₁.setTop (mkF m 17 #[.val (.long q1), .second, .val (.int (128 : Int32))] [(.int (lcmpW q1 (127 : Int64)))])) t → Steps p.tables e below (s₁.setTop (entryFrame m #[(.long q1)] 3)) t := fun t k => ac1 t (by
        show Steps p.tables e below (s₁.setTop (mkF m 9 #[.val (.long q1), .second, .val (.int (128 : Int32))] [(.int (lcmpW q1 (-128 : Int64)))])) _
        refine XS.ifNo X0.here hx rfl (hb hby d5_9) rfl ((if0 _ _).trans (flt (mt (lw_lt _ _).mp hlo)).1) ?_
        show Steps p.tables e below (s₁.setTop (mkF m 12 #[.val (.long q1), .second, .val (.int (128 : Int32))] [])) _
        refine XS.lloadN X0.here hx rfl (hb hby d5_12) rfl ?_
        show Steps p.tables e below (s₁.setTop (mkF m 13 #[.val (.long q1), .second, .val (.int (128 : Int32))] [(.long q1)])) _
        refine X0.ldc2Long hx hown (mvT hZ (hw _ (List.mem_of_getElem? (i := 50) rfl))) (g := (mkF m 13 #[.val (.long q1), .second, .val (.int (128 : Int32))] [(.long q1)])) rfl (hb hby d5_13) _ ?_
        show Steps p.tables e below (s₁.setTop (mkF m 16 #[.val (.long q1), .second, .val (.int (128 : Int32))] [(.long (127 : Int64)), (.long q1)])) _
        refine XS.lcmp X0.here hx rfl (hb hby d5_16) rfl ?_
        exact k)
    by_cases hhi : (127 : Int64) < q1
    ·
      have ac12 : ∀ t, Steps p.tables e below (s₁.setTop (mkF m 31 #[.val (.long q1), .second, .val (.int (128 : Int32))] [])) t → Steps p.tables e below (s₁.setTop (entryFrame m #[(.long q1)] 3)) t := fun t k => ac11 t (by
          show Steps p.tables e below (s₁.setTop (mkF m 17 #[.val (.long q1), .second, .val (.int (128 : Int32))] [(.int (lcmpW q1 (127 : Int64)))])) _
          refine XS.ifYes X0.here hx rfl (pc0 := 17) (pc' := 31) rfl (hb hby d5_17) rfl ((if0 _ _).trans (tlt ((lw_gt _ _).mpr hhi)).2.2.1) (by decide) (by decide) ?_
          exact k)
      obtain ⟨T13, h13, X13, e13, E13, A13, D13, -, st13⟩ := newO X0 hx hZ hown (hw _ (List.mem_of_getElem? (i := 32) rfl)) (hw _ (List.mem_of_getElem? (i := 33) rfl)) (hw _ (List.mem_of_getElem? (i := 29) rfl)) e0 (g := (mkF m 31 #[.val (.long q1), .second, .val (.int (128 : Int32))] [])) rfl (hb hby d5_31) (by decide) (by decide)
      obtain ⟨b13, g13⟩ : ∃ z, z = h0.size := ⟨_, rfl⟩
      rw [← g13] at A13 D13 st13
      have g_b13 : n0 ≤ b13 := Nat.le_trans Z0 (Nat.le_of_eq g13.symm)
      have sz_b13 : h0.size ≤ b13 := Nat.le_trans (Keep.refl h0 []).1 (Nat.le_of_eq g13.symm)
      have Z13 : n0 ≤ h13.size := Nat.le_trans Z0 E13.1
      have Kp14 : Keep h0 h13 [] := (Keep.refl h0 []).ext E13
      have F_value_b13 : Fld Z h13 b13 "java/lang/Long" "value" "J" (.long (0 : Int64)) := D13 (Or.inr (hw _ (List.mem_of_getElem? (i := 46) rfl))) (ty := .long) (by decide)
      have ac15 : ∀ t, Steps p.tables e below (T13.setTop (mkF m 34 #[.val (.long q1), .second, .val (.int (128 : Int32))] [(.ref b13)])) t → Steps p.tables e below (s₁.setTop (entryFrame m #[(.long q1)] 3)) t := fun t k => ac12 t (st13 t k)
      have ac16 : ∀ t, Steps p.tables e below (T13.setTop (mkF m 36 #[.val (.long q1), .second, .val (.int (128 : Int32))] [(.long q1), (.ref b13), (.ref b13)])) t → Steps p.tables e below (s₁.setTop (entryFrame m #[(.long q1)] 3)) t := fun t k => ac15 t (by
          show Steps p.tables e below (T13.setTop (mkF m 34 #[.val (.long q1), .second, .val (.int (128 : Int32))] [(.ref b13)])) _
          refine XS.dup X13.here hx rfl (hb hby d5_34) rfl rfl ?_
          show Steps p.tables e below (T13.setTop (mkF m 35 #[.val (.long q1), .second, .val (.int (128 : Int32))] [(.ref b13), (.ref b13)])) _
          refine XS.lloadN X13.here hx rfl (hb hby d5_35) rfl ?_
          exact k)
      obtain ⟨_, _, ⟨T17, L17, k17, n17⟩, -, X17, ⟨Lc17, hQ17, l17, y17, z17⟩, st17⟩ := X13.specialBack hx (y := (⟨"java/lang/Long", "<init>", "(J)V"⟩ : MethodName)) rfl hown (mvT hZ (hw _ (List.mem_of_getElem? (i := 34) rfl))) (mvT hZ (hw _ (List.mem_of_getElem? (i := 35) rfl))) (mvT hZ (hw _ (List.mem_of_getElem? (i := 37) rfl))) (by decide) (backOf (W := 1) (rm6 l Z a0 hw [] b13 q1  h13 n0 Z13 A13 g_b13 F_value_b13) hZ (hw _ (List.mem_of_getElem? (i := 37) rfl)) (hw _ (List.mem_of_getElem? (i := 29) rfl)) (by decide) (by decide)) (g := (mkF m 36 #[.val (.long q1), .second, .val (.int (128 : Int32))] [(.long q1), (.ref b13), (.ref b13)])) rfl (by rw [hml]; rfl) (Steps.refl _) (a := b13) (argsL := [(.long q1)]) (rest := [(.ref b13)]) (lenOf pd_4 rfl) rfl (by show 2 * 0 + _ ≤ _; exact Nat.le_of_eq rfl) (hb hby d5_36) (fun _ _ => ⟨rfl, e13, (by decide : 1 + 0 ≤ _), (by decide : 1 + 0 ≤ _)⟩)
      dsimp only [Pt.U, Pt.locs, Pt.cells, Pt.slots] at X17 l17 y17 z17 st17 hQ17
      subst l17 y17 z17
      obtain ⟨rfl, N17q, K17q, Ex17⟩ := hQ17
      have N17 := Fr.app N0 N17q
      have Ef18 := A13.keep K17q
      have Z17 : n0 ≤ T17.heap.size := Nat.le_trans Z13 K17q.1
      have Kp19 : Keep h0 T17.heap [] := Kp14.trans K17q (allS (Or.inr sz_b13) all0)
      have ac20 : ∀ t, Steps p.tables e below (T17.setTop (mkF m 39 #[.val (.long q1), .second, .val (.int (128 : Int32))] [(.ref b13)])) t → Steps p.tables e below (s₁.setTop (entryFrame m #[(.long q1)] 3)) t := fun t k => ac16 t (st17.trans k)
      obtain ⟨fs, hr, hrun, hended, hW, hsame⟩ := X17.leave (v := some (.ref b13)) (fun h => by rw [Bd.returns] at h; cases h) (BodyLoose.notSynchronized Bd)
      refine ⟨_, _, ac20 _ ?_, hrun, hended, _, _, rfl, ?_, ⟨_, rfl⟩, hW, hsame.mono (by decide) (by decide)⟩
      · show Steps p.tables e below (T17.setTop (mkF m 39 #[.val (.long q1), .second, .val (.int (128 : Int32))] [(.ref b13)])) _
        exact retOut X17 hx Bd.returns rfl (Or.inr (Or.inr (Or.inr (Or.inr ⟨rfl, rfl, rfl⟩)))) (hb hby d5_39) hr
      · show Q5 Z q1 cA bf h0 n0 _ T17.heap _
        exact ⟨b13, rfl, N17, Kp19, Ef18⟩
    ·
      obtain ⟨ic, hic, hjc⟩ := own_cidx hlo hhi
      have ac21 : ∀ t, Steps p.tables e below (s₁.setTop (mkF m 20 #[.val (.long q1), .second, .val (.int (128 : Int32))] [])) t → Steps p.tables e below (s₁.setTop (entryFrame m #[(.long q1)] 3)) t := fun t k => ac11 t (by
          show Steps p.tables e below (s₁.setTop (mkF m 17 #[.val (.long q1), .second, .val (.int (128 : Int32))] [(.int (lcmpW q1 (127 : Int64)))])) _
          refine XS.ifNo X0.here hx rfl (hb hby d5_17) rfl ((if0 _ _).trans (flt (mt (lw_gt _ _).mp hhi)).2.2.1) ?_
          exact k)
      obtain ⟨T22, X22, e22, st22⟩ := getS2 X0 hx hZ hown (host := "") (Or.inl (hw _ (List.mem_of_getElem? (i := 51) rfl))) Via.refl e0 Sc (g := (mkF m 20 #[.val (.long q1), .second, .val (.int (128 : Int32))] [])) rfl (hb hby d5_20)
      have ac23 : ∀ t, Steps p.tables e below (T22.setTop (mkF m 23 #[.val (.long q1), .second, .val (.int (128 : Int32))] [(.ref cA)])) t → Steps p.tables e below (s₁.setTop (entryFrame m #[(.long q1)] 3)) t := fun t k => ac21 t (st22 t k)
      have ac24 : ∀ t, Steps p.tables e below (T22.setTop (mkF m 29 #[.val (.long q1), .second, .val (.int (128 : Int32))] [(.int ((q1.toInt32) + (128 : Int32))), (.ref cA)])) t → Steps p.tables e below (s₁.setTop (entryFrame m #[(.long q1)] 3)) t := fun t k => ac23 t (by
          show Steps p.tables e below (T22.setTop (mkF m 23 #[.val (.long q1), .second, .val (.int (128 : Int32))] [(.ref cA)])) _
          refine XS.lloadN X22.here hx rfl (hb hby d5_23) rfl ?_
          show Steps p.tables e below (T22.setTop (mkF m 24 #[.val (.long q1), .second, .val (.int (128 : Int32))] [(.long q1), (.ref cA)])) _
          refine XS.l2i X22.here hx rfl (hb hby d5_24) rfl ?_
          show Steps p.tables e below (T22.setTop (mkF m 25 #[.val (.long q1), .second, .val (.int (128 : Int32))] [(.int (q1.toInt32)), (.ref cA)])) _
          refine XS.sipush X22.here hx rfl (hb hby d5_25) ?_
          show Steps p.tables e below (T22.setTop (mkF m 28 #[.val (.long q1), .second, .val (.int (128 : Int32))] [(.int (128 : Int32)), (.int (q1.toInt32)), (.ref cA)])) _
          refine XS.iadd X22.here hx rfl (hb hby d5_28) rfl ?_
          exact k)
      obtain ⟨cl25, Ac25, hin25, hat25⟩ := Vc.at (j := ((q1.toInt32) + (128 : Int32))) (i := ic) hjc hic
      have ac26 : ∀ t, Steps p.tables e below (T22.setTop (mkF m 30 #[.val (.long q1), .second, .val (.int (128 : Int32))] [(.ref (bf ic))])) t → Steps p.tables e below (s₁.setTop (entryFrame m #[(.long q1)] 3)) t := fun t k => ac24 t (by
          show Steps p.tables e below (T22.setTop (mkF m 29 #[.val (.long q1), .second, .val (.int (128 : Int32))] [(.int ((q1.toInt32) + (128 : Int32))), (.ref cA)])) _
          refine X22.aaload hx (j := ((q1.toInt32) + (128 : Int32))) (v := (.ref (bf ic))) (by rw [e22]; exact Ac25.1) (State.isArrayOf_alike hZ.alike Ac25.2.1) rfl Ac25.2.2 hin25 (hat25.trans (congrArg some rfl)) (g := (mkF m 29 #[.val (.long q1), .second, .val (.int (128 : Int32))] [(.int ((q1.toInt32) + (128 : Int32))), (.ref cA)])) rfl rfl (hb hby d5_29) _ ?_
          exact k)
      obtain ⟨fs, hr, hrun, hended, hW, hsame⟩ := X22.leave (v := some (.ref (bf ic))) (fun h => by rw [Bd.returns] at h; cases h) (BodyLoose.notSynchronized Bd)
      refine ⟨_, _, ac26 _ ?_, hrun, hended, _, _, rfl, ?_, ⟨_, rfl⟩, hW, hsame.mono (by decide) (by decide)⟩
      · show Steps p.tables e below (T22.setTop (mkF m 30 #[.val (.long q1), .second, .val (.int (128 : Int32))] [(.ref (bf ic))])) _
        exact retOut X22 hx Bd.returns rfl (Or.inr (Or.inr (Or.inr (Or.inr ⟨rfl, rfl, rfl⟩)))) (hb hby d5_30) hr
      · show Q5 Z q1 cA bf h0 n0 _ T22.heap _
        rw [e22]
        exact ⟨bf ic, rfl, N0, Keep.refl _ _, Ec ic hic⟩
theorem ef_rm4 (m : MethodId) (x0 : Addr) (x1 : Addr) : entryFrame m #[(.ref x0), (.ref x1)] 3 = mkF m 0 #[.val (.ref x0), .val (.ref x1), .unset] [] := by first | (simp [entryFrame, mkF, argsToLocals, Value.category]; done) | rfl
def Q4 (Z : State) (a1 : Addr) (a2 : Addr) (w1 : Int64) (w2 : Int64) (w3 : Int64) (u1 : Int64) (u2 : Int64) (u3 : Int64) (h0 : Heap) (n0 : Nat) (v : Option Value) (h : Heap) (L : List Loc) : Prop := v = some (.int (own_eq3 u1 w1 u2 w2 u3 w3)) ∧ Fr n0 L ∧ h = h0
set_option maxRecDepth 65536 in
set_option maxHeartbeats 40000000 in
theorem rm4 (l : Launch) (Z : State) (a0 : Array Value) (hw : ∀ d ∈ tables_1, d.before a0 Z = true) (ws : List Jvm.Cond) (a1 : Addr) (a2 : Addr) (w1 : Int64) (w2 : Int64) (w3 : Int64) (u1 : Int64) (u2 : Int64) (u3 : Int64) (h0 : Heap) (n0 : Nat) (Z0 : n0 ≤ h0.size) (E2 : Exa Z h0 a2 "com/example/termwright/termwright/PostingsStreams") (F0 : Fld Z h0 a1 "com/example/termwright/termwright/PostingsStreams" "documents" "J" (.long w1)) (G0 : Fld Z h0 a2 "com/example/termwright/termwright/PostingsStreams" "documents" "J" (.long u1)) (F1 : Fld Z h0 a1 "com/example/termwright/termwright/PostingsStreams" "positions" "J" (.long w2)) (G1 : Fld Z h0 a2 "com/example/termwright/termwright/PostingsStreams" "positions" "J" (.long u2)) (F2 : Fld Z h0 a1 "com/example/termwright/termwright/PostingsStreams" "offsets" "J" (.long w3)) (G2 : Fld Z h0 a2 "com/example/termwright/termwright/PostingsStreams" "offsets" "J" (.long u3)) :
    MetFree l (⟨"com/example/termwright/termwright/PostingsStreams", "equals", "(Ljava/lang/Object;)Z"⟩ : MethodName) (head1 (Jvm.Cond.code (⟨"com/example/termwright/termwright/PostingsStreams", "equals", "(Ljava/lang/Object;)Z"⟩ : MethodName) prog_126_method_4_code 3 (some .boolean) :: ws) ({ frames := 0, cells := 0, slots := 0, locals := 0 } : Room)) (fun a U => a = #[(.ref a1), (.ref a2)] ∧ Z.Warmed39 U.vm ∧ U.heap = h0) (fun _ _ _ _ _ => True) (fun _ U o U' => ∃ v L, o = .returned v ∧ Q4 Z a1 a2 w1 w2 w3 u1 u2 u3 h0 n0 v U'.heap L ∧ FrameEnd U o U' L ({ frames := 0, cells := 0, slots := 0, locals := 0 } : Room).cells ({ frames := 0, cells := 0, slots := 0, locals := 0 } : Room).slots) := by
  refine MetFree.of_bodySF (plainFor_of_name pn_4) hisR ?_
  intro p e s m args below meth c s₁ Bd hml0 hP hK
  obtain ⟨rfl, hZ, hh⟩ := hP
  have hx := Bd.exec
  have hby := Bd.bytes
  have hml : c.maxLocals = 3 := hml0
  have hown : s.vm.findClass "com/example/termwright/termwright/PostingsStreams" = some m.cls := findClass_of_methodNamed Bd.named
  have hnm := (name_of_methodNamed Bd.named Bd.method).1
  have X0 : Stand p l e ({ frames := 0, cells := 0, slots := 0, locals := 0 } : Room) s m #[(.ref a1), (.ref a2)] below meth c s₁ [] 0 0 := Stand.of_body Bd
  have e0 : s₁.heap = h0 := by rw [← hh, Bd.state]; rfl
  have N0 := Fr.nil n0
  have a0s : ∀ t, Steps p.tables e below (s₁.setTop (mkF m 0 #[.val (.ref a1), .val (.ref a2), .unset] [])) t → Steps p.tables e below (s₁.setTop (entryFrame m #[(.ref a1), (.ref a2)] 3)) t := fun t k => castTop (ef_rm4 m a1 a2) k
  have ac1 : ∀ t, Steps p.tables e below (s₁.setTop (mkF m 1 #[.val (.ref a1), .val (.ref a2), .unset] [(.ref a2)])) t → Steps p.tables e below (s₁.setTop (entryFrame m #[(.ref a1), (.ref a2)] 3)) t := fun t k => a0s t (by
      show Steps p.tables e below (s₁.setTop (mkF m 0 #[.val (.ref a1), .val (.ref a2), .unset] [])) _
      refine XS.aloadN X0.here hx rfl (hb hby d4_0) rfl rfl ?_
      exact k)
  obtain ⟨T2, X2, e2, st2⟩ := instY X0 hx hZ hown (hw _ (List.mem_of_getElem? (i := 25) rfl)) e0 (Ins.self E2) (g := (mkF m 1 #[.val (.ref a1), .val (.ref a2), .unset] [(.ref a2)])) rfl rfl (hb hby d4_1)
  have ac3 : ∀ t, Steps p.tables e below (T2.setTop (mkF m 4 #[.val (.ref a1), .val (.ref a2), .unset] [(.int (1 : Int32))])) t → Steps p.tables e below (s₁.setTop (entryFrame m #[(.ref a1), (.ref a2)] 3)) t := fun t k => ac1 t (st2 t k)
  have ac4 : ∀ t, Steps p.tables e below (T2.setTop (mkF m 8 #[.val (.ref a1), .val (.ref a2), .unset] [(.ref a2)])) t → Steps p.tables e below (s₁.setTop (entryFrame m #[(.ref a1), (.ref a2)] 3)) t := fun t k => ac3 t (by
      show Steps p.tables e below (T2.setTop (mkF m 4 #[.val (.ref a1), .val (.ref a2), .unset] [(.int (1 : Int32))])) _
      refine XS.ifNo X2.here hx rfl (hb hby d4_4) rfl ((if0 _ _).trans (feq (by decide)).1) ?_
      show Steps p.tables e below (T2.setTop (mkF m 7 #[.val (.ref a1), .val (.ref a2), .unset] [])) _
      refine XS.aloadN X2.here hx rfl (hb hby d4_7) rfl rfl ?_
      exact k)
  obtain ⟨T5, X5, e5, st5⟩ := castY X2 hx hZ hown (hw _ (List.mem_of_getElem? (i := 25) rfl)) e2 (Ins.self E2) (g := (mkF m 8 #[.val (.ref a1), .val (.ref a2), .unset] [(.ref a2)])) rfl rfl (hb hby d4_8)
  have ac6 : ∀ t, Steps p.tables e below (T5.setTop (mkF m 11 #[.val (.ref a1), .val (.ref a2), .unset] [(.ref a2)])) t → Steps p.tables e below (s₁.setTop (entryFrame m #[(.ref a1), (.ref a2)] 3)) t := fun t k => ac4 t (st5 t k)
  have ac7 : ∀ t, Steps p.tables e below (T5.setTop (mkF m 13 #[.val (.ref a1), .val (.ref a2), .val (.ref a2)] [(.ref a2)])) t → Steps p.tables e below (s₁.setTop (entryFrame m #[(.ref a1), (.ref a2)] 3)) t := fun t k => ac6 t (by
      show Steps p.tables e below (T5.setTop (mkF m 11 #[.val (.ref a1), .val (.ref a2), .unset] [(.ref a2)])) _
      refine XS.astoreN X5.here hx rfl (hb hby d4_11) rfl rfl (l' := #[.val (.ref a1), .val (.ref a2), .val (.ref a2)]) rfl ?_
      show Steps p.tables e below (T5.setTop (mkF m 12 #[.val (.ref a1), .val (.ref a2), .val (.ref a2)] [])) _
      refine XS.aloadN X5.here hx rfl (hb hby d4_12) rfl rfl ?_
      exact k)
  obtain ⟨T8, X8, e8, st8⟩ := getF X5 hx hZ hown (host := "") (Or.inl (hw _ (List.mem_of_getElem? (i := 14) rfl))) Via.refl e5 G0 (g := (mkF m 13 #[.val (.ref a1), .val (.ref a2), .val (.ref a2)] [(.ref a2)])) rfl rfl (hb hby d4_13)
  have ac9 : ∀ t, Steps p.tables e below (T8.setTop (mkF m 16 #[.val (.ref a1), .val (.ref a2), .val (.ref a2)] [(.long u1)])) t → Steps p.tables e below (s₁.setTop (entryFrame m #[(.ref a1), (.ref a2)] 3)) t := fun t k => ac7 t (st8 t k)
  have ac10 : ∀ t, Steps p.tables e below (T8.setTop (mkF m 17 #[.val (.ref a1), .val (.ref a2), .val (.ref a2)] [(.ref a1), (.long u1)])) t → Steps p.tables e below (s₁.setTop (entryFrame m #[(.ref a1), (.ref a2)] 3)) t := fun t k => ac9 t (by
      show Steps p.tables e below (T8.setTop (mkF m 16 #[.val (.ref a1), .val (.ref a2), .val (.ref a2)] [(.long u1)])) _
      refine XS.aloadN X8.here hx rfl (hb hby d4_16) rfl rfl ?_
      exact k)
  obtain ⟨T11, X11, e11, st11⟩ := getF X8 hx hZ hown (host := "") (Or.inl (hw _ (List.mem_of_getElem? (i := 14) rfl))) Via.refl e8 F0 (g := (mkF m 17 #[.val (.ref a1), .val (.ref a2), .val (.ref a2)] [(.ref a1), (.long u1)])) rfl rfl (hb hby d4_17)
  have ac12 : ∀ t, Steps p.tables e below (T11.setTop (mkF m 20 #[.val (.ref a1), .val (.ref a2), .val (.ref a2)] [(.long w1), (.long u1)])) t → Steps p.tables e below (s₁.setTop (entryFrame m #[(.ref a1), (.ref a2)] 3)) t := fun t k => ac10 t (st11 t k)
  have ac13 : ∀ t, Steps p.tables e below (T11.setTop (mkF m 21 #[.val (.ref a1), .val (.ref a2), .val (.ref a2)] [(.int (lcmpW u1 w1))])) t → Steps p.tables e below (s₁.setTop (entryFrame m #[(.ref a1), (.ref a2)] 3)) t := fun t k => ac12 t (by
      show Steps p.tables e below (T11.setTop (mkF m 20 #[.val (.ref a1), .val (.ref a2), .val (.ref a2)] [(.long w1), (.long u1)])) _
      refine XS.lcmp X11.here hx rfl (hb hby d4_20) rfl ?_
      exact k)
  by_cases e1 : u1 = w1
  ·
    have ac14 : ∀ t, Steps p.tables e below (T11.setTop (mkF m 25 #[.val (.ref a1), .val (.ref a2), .val (.ref a2)] [(.ref a2)])) t → Steps p.tables e below (s₁.setTop (entryFrame m #[(.ref a1), (.ref a2)] 3)) t := fun t k => ac13 t (by
        show Steps p.tables e below (T11.setTop (mkF m 21 #[.val (.ref a1), .val (.ref a2), .val (.ref a2)] [(.int (lcmpW u1 w1))])) _
        refine XS.ifNo X11.here hx rfl (hb hby d4_21) rfl ((if0 _ _).trans (teq ((lw_eq _ _).mpr e1)).2) ?_
        show Steps p.tables e below (T11.setTop (mkF m 24 #[.val (.ref a1), .val (.ref a2), .val (.ref a2)] [])) _
        refine XS.aloadN X11.here hx rfl (hb hby d4_24) rfl rfl ?_
        exact k)
    obtain ⟨T15, X15, e15, st15⟩ := getF X11 hx hZ hown (host := "") (Or.inl (hw _ (List.mem_of_getElem? (i := 16) rfl))) Via.refl e11 G1 (g := (mkF m 25 #[.val (.ref a1), .val (.ref a2), .val (.ref a2)] [(.ref a2)])) rfl rfl (hb hby d4_25)
    have ac16 : ∀ t, Steps p.tables e below (T15.setTop (mkF m 28 #[.val (.ref a1), .val (.ref a2), .val (.ref a2)] [(.long u2)])) t → Steps p.tables e below (s₁.setTop (entryFrame m #[(.ref a1), (.ref a2)] 3)) t := fun t k => ac14 t (st15 t k)
    have ac17 : ∀ t, Steps p.tables e below (T15.setTop (mkF m 29 #[.val (.ref a1), .val (.ref a2), .val (.ref a2)] [(.ref a1), (.long u2)])) t → Steps p.tables e below (s₁.setTop (entryFrame m #[(.ref a1), (.ref a2)] 3)) t := fun t k => ac16 t (by
        show Steps p.tables e below (T15.setTop (mkF m 28 #[.val (.ref a1), .val (.ref a2), .val (.ref a2)] [(.long u2)])) _
        refine XS.aloadN X15.here hx rfl (hb hby d4_28) rfl rfl ?_
        exact k)
    obtain ⟨T18, X18, e18, st18⟩ := getF X15 hx hZ hown (host := "") (Or.inl (hw _ (List.mem_of_getElem? (i := 16) rfl))) Via.refl e15 F1 (g := (mkF m 29 #[.val (.ref a1), .val (.ref a2), .val (.ref a2)] [(.ref a1), (.long u2)])) rfl rfl (hb hby d4_29)
    have ac19 : ∀ t, Steps p.tables e below (T18.setTop (mkF m 32 #[.val (.ref a1), .val (.ref a2), .val (.ref a2)] [(.long w2), (.long u2)])) t → Steps p.tables e below (s₁.setTop (entryFrame m #[(.ref a1), (.ref a2)] 3)) t := fun t k => ac17 t (st18 t k)
    have ac20 : ∀ t, Steps p.tables e below (T18.setTop (mkF m 33 #[.val (.ref a1), .val (.ref a2), .val (.ref a2)] [(.int (lcmpW u2 w2))])) t → Steps p.tables e below (s₁.setTop (entryFrame m #[(.ref a1), (.ref a2)] 3)) t := fun t k => ac19 t (by
        show Steps p.tables e below (T18.setTop (mkF m 32 #[.val (.ref a1), .val (.ref a2), .val (.ref a2)] [(.long w2), (.long u2)])) _
        refine XS.lcmp X18.here hx rfl (hb hby d4_32) rfl ?_
        exact k)
    by_cases e2 : u2 = w2
    ·
      have ac21 : ∀ t, Steps p.tables e below (T18.setTop (mkF m 37 #[.val (.ref a1), .val (.ref a2), .val (.ref a2)] [(.ref a2)])) t → Steps p.tables e below (s₁.setTop (entryFrame m #[(.ref a1), (.ref a2)] 3)) t := fun t k => ac20 t (by
          show Steps p.tables e below (T18.setTop (mkF m 33 #[.val (.ref a1), .val (.ref a2), .val (.ref a2)] [(.int (lcmpW u2 w2))])) _
          refine XS.ifNo X18.here hx rfl (hb hby d4_33) rfl ((if0 _ _).trans (teq ((lw_eq _ _).mpr e2)).2) ?_
          show Steps p.tables e below (T18.setTop (mkF m 36 #[.val (.ref a1), .val (.ref a2), .val (.ref a2)] [])) _
          refine XS.aloadN X18.here hx rfl (hb hby d4_36) rfl rfl ?_
          exact k)
      obtain ⟨T22, X22, e22, st22⟩ := getF X18 hx hZ hown (host := "") (Or.inl (hw _ (List.mem_of_getElem? (i := 18) rfl))) Via.refl e18 G2 (g := (mkF m 37 #[.val (.ref a1), .val (.ref a2), .val (.ref a2)] [(.ref a2)])) rfl rfl (hb hby d4_37)
      have ac23 : ∀ t, Steps p.tables e below (T22.setTop (mkF m 40 #[.val (.ref a1), .val (.ref a2), .val (.ref a2)] [(.long u3)])) t → Steps p.tables e below (s₁.setTop (entryFrame m #[(.ref a1), (.ref a2)] 3)) t := fun t k => ac21 t (st22 t k)
      have ac24 : ∀ t, Steps p.tables e below (T22.setTop (mkF m 41 #[.val (.ref a1), .val (.ref a2), .val (.ref a2)] [(.ref a1), (.long u3)])) t → Steps p.tables e below (s₁.setTop (entryFrame m #[(.ref a1), (.ref a2)] 3)) t := fun t k => ac23 t (by
          show Steps p.tables e below (T22.setTop (mkF m 40 #[.val (.ref a1), .val (.ref a2), .val (.ref a2)] [(.long u3)])) _
          refine XS.aloadN X22.here hx rfl (hb hby d4_40) rfl rfl ?_
          exact k)
      obtain ⟨T25, X25, e25, st25⟩ := getF X22 hx hZ hown (host := "") (Or.inl (hw _ (List.mem_of_getElem? (i := 18) rfl))) Via.refl e22 F2 (g := (mkF m 41 #[.val (.ref a1), .val (.ref a2), .val (.ref a2)] [(.ref a1), (.long u3)])) rfl rfl (hb hby d4_41)
      have ac26 : ∀ t, Steps p.tables e below (T25.setTop (mkF m 44 #[.val (.ref a1), .val (.ref a2), .val (.ref a2)] [(.long w3), (.long u3)])) t → Steps p.tables e below (s₁.setTop (entryFrame m #[(.ref a1), (.ref a2)] 3)) t := fun t k => ac24 t (st25 t k)
      have ac27 : ∀ t, Steps p.tables e below (T25.setTop (mkF m 45 #[.val (.ref a1), .val (.ref a2), .val (.ref a2)] [(.int (lcmpW u3 w3))])) t → Steps p.tables e below (s₁.setTop (entryFrame m #[(.ref a1), (.ref a2)] 3)) t := fun t k => ac26 t (by
          show Steps p.tables e below (T25.setTop (mkF m 44 #[.val (.ref a1), .val (.ref a2), .val (.ref a2)] [(.long w3), (.long u3)])) _
          refine XS.lcmp X25.here hx rfl (hb hby d4_44) rfl ?_
          exact k)
      by_cases e3 : u3 = w3
      ·
        have ac28 : ∀ t, Steps p.tables e below (T25.setTop (mkF m 53 #[.val (.ref a1), .val (.ref a2), .val (.ref a2)] [(.int (1 : Int32))])) t → Steps p.tables e below (s₁.setTop (entryFrame m #[(.ref a1), (.ref a2)] 3)) t := fun t k => ac27 t (by
            show Steps p.tables e below (T25.setTop (mkF m 45 #[.val (.ref a1), .val (.ref a2), .val (.ref a2)] [(.int (lcmpW u3 w3))])) _
            refine XS.ifNo X25.here hx rfl (hb hby d4_45) rfl ((if0 _ _).trans (teq ((lw_eq _ _).mpr e3)).2) ?_
            show Steps p.tables e below (T25.setTop (mkF m 48 #[.val (.ref a1), .val (.ref a2), .val (.ref a2)] [])) _
            refine XS.iconst X25.here hx rfl (hb hby d4_48) ?_
            show Steps p.tables e below (T25.setTop (mkF m 49 #[.val (.ref a1), .val (.ref a2), .val (.ref a2)] [(.int (1 : Int32))])) _
            refine XS.goto X25.here hx rfl (pc0 := 49) (pc' := 53) rfl (hb hby d4_49) (by decide) (by decide) ?_
            exact k)
        obtain ⟨fs, hr, hrun, hended, hW, hsame⟩ := X25.leave (v := some (.int (1 : Int32))) (fun h => by rw [Bd.returns] at h; cases h) (BodyLoose.notSynchronized Bd)
        refine ⟨_, _, ac28 _ ?_, hrun, hended, _, _, rfl, ?_, ⟨_, rfl⟩, hW, hsame.mono (by decide) (by decide)⟩
        · show Steps p.tables e below (T25.setTop (mkF m 53 #[.val (.ref a1), .val (.ref a2), .val (.ref a2)] [(.int (1 : Int32))])) _
          exact retN X25 hx (t := .boolean) Bd.returns (by simp) (hb hby d4_53) hr
        · show Q4 Z a1 a2 w1 w2 w3 u1 u2 u3 h0 n0 _ T25.heap _
          rw [e25]
          exact ⟨(congrArg (fun z => some (Value.int z)) (own_eq3_t e1 e2 e3)).symm, N0, rfl⟩
      ·
        have ac29 : ∀ t, Steps p.tables e below (T25.setTop (mkF m 53 #[.val (.ref a1), .val (.ref a2), .val (.ref a2)] [(.int (0 : Int32))])) t → Steps p.tables e below (s₁.setTop (entryFrame m #[(.ref a1), (.ref a2)] 3)) t := fun t k => ac27 t (by
            show Steps p.tables e below (T25.setTop (mkF m 45 #[.val (.ref a1), .val (.ref a2), .val (.ref a2)] [(.int (lcmpW u3 w3))])) _
            refine XS.ifYes X25.here hx rfl (pc0 := 45) (pc' := 52) rfl (hb hby d4_45) rfl ((if0 _ _).trans (feq (mt (lw_eq _ _).mp e3)).2) (by decide) (by decide) ?_
            show Steps p.tables e below (T25.setTop (mkF m 52 #[.val (.ref a1), .val (.ref a2), .val (.ref a2)] [])) _
            refine XS.iconst X25.here hx rfl (hb hby d4_52) ?_
            exact k)
        obtain ⟨fs, hr, hrun, hended, hW, hsame⟩ := X25.leave (v := some (.int (0 : Int32))) (fun h => by rw [Bd.returns] at h; cases h) (BodyLoose.notSynchronized Bd)
        refine ⟨_, _, ac29 _ ?_, hrun, hended, _, _, rfl, ?_, ⟨_, rfl⟩, hW, hsame.mono (by decide) (by decide)⟩
        · show Steps p.tables e below (T25.setTop (mkF m 53 #[.val (.ref a1), .val (.ref a2), .val (.ref a2)] [(.int (0 : Int32))])) _
          exact retN X25 hx (t := .boolean) Bd.returns (by simp) (hb hby d4_53) hr
        · show Q4 Z a1 a2 w1 w2 w3 u1 u2 u3 h0 n0 _ T25.heap _
          rw [e25]
          exact ⟨(congrArg (fun z => some (Value.int z)) (own_eq3_3 e3)).symm, N0, rfl⟩
    ·
      have ac30 : ∀ t, Steps p.tables e below (T18.setTop (mkF m 53 #[.val (.ref a1), .val (.ref a2), .val (.ref a2)] [(.int (0 : Int32))])) t → Steps p.tables e below (s₁.setTop (entryFrame m #[(.ref a1), (.ref a2)] 3)) t := fun t k => ac20 t (by
          show Steps p.tables e below (T18.setTop (mkF m 33 #[.val (.ref a1), .val (.ref a2), .val (.ref a2)] [(.int (lcmpW u2 w2))])) _
          refine XS.ifYes X18.here hx rfl (pc0 := 33) (pc' := 52) rfl (hb hby d4_33) rfl ((if0 _ _).trans (feq (mt (lw_eq _ _).mp e2)).2) (by decide) (by decide) ?_
          show Steps p.tables e below (T18.setTop (mkF m 52 #[.val (.ref a1), .val (.ref a2), .val (.ref a2)] [])) _
          refine XS.iconst X18.here hx rfl (hb hby d4_52) ?_
          exact k)
      obtain ⟨fs, hr, hrun, hended, hW, hsame⟩ := X18.leave (v := some (.int (0 : Int32))) (fun h => by rw [Bd.returns] at h; cases h) (BodyLoose.notSynchronized Bd)
      refine ⟨_, _, ac30 _ ?_, hrun, hended, _, _, rfl, ?_, ⟨_, rfl⟩, hW, hsame.mono (by decide) (by decide)⟩
      · show Steps p.tables e below (T18.setTop (mkF m 53 #[.val (.ref a1), .val (.ref a2), .val (.ref a2)] [(.int (0 : Int32))])) _
        exact retN X18 hx (t := .boolean) Bd.returns (by simp) (hb hby d4_53) hr
      · show Q4 Z a1 a2 w1 w2 w3 u1 u2 u3 h0 n0 _ T18.heap _
        rw [e18]
        exact ⟨(congrArg (fun z => some (Value.int z)) (own_eq3_2 e2)).symm, N0, rfl⟩
  ·
    have ac31 : ∀ t, Steps p.tables e below (T11.setTop (mkF m 53 #[.val (.ref a1), .val (.ref a2), .val (.ref a2)] [(.int (0 : Int32))])) t → Steps p.tables e below (s₁.setTop (entryFrame m #[(.ref a1), (.ref a2)] 3)) t := fun t k => ac13 t (by
        show Steps p.tables e below (T11.setTop (mkF m 21 #[.val (.ref a1), .val (.ref a2), .val (.ref a2)] [(.int (lcmpW u1 w1))])) _
        refine XS.ifYes X11.here hx rfl (pc0 := 21) (pc' := 52) rfl (hb hby d4_21) rfl ((if0 _ _).trans (feq (mt (lw_eq _ _).mp e1)).2) (by decide) (by decide) ?_
        show Steps p.tables e below (T11.setTop (mkF m 52 #[.val (.ref a1), .val (.ref a2), .val (.ref a2)] [])) _
        refine XS.iconst X11.here hx rfl (hb hby d4_52) ?_
        exact k)
    obtain ⟨fs, hr, hrun, hended, hW, hsame⟩ := X11.leave (v := some (.int (0 : Int32))) (fun h => by rw [Bd.returns] at h; cases h) (BodyLoose.notSynchronized Bd)
    refine ⟨_, _, ac31 _ ?_, hrun, hended, _, _, rfl, ?_, ⟨_, rfl⟩, hW, hsame.mono (by decide) (by decide)⟩
    · show Steps p.tables e below (T11.setTop (mkF m 53 #[.val (.ref a1), .val (.ref a2), .val (.ref a2)] [(.int (0 : Int32))])) _
      exact retN X11 hx (t := .boolean) Bd.returns (by simp) (hb hby d4_53) hr
    · show Q4 Z a1 a2 w1 w2 w3 u1 u2 u3 h0 n0 _ T11.heap _
      rw [e11]
      exact ⟨(congrArg (fun z => some (Value.int z)) (own_eq3_1 e1)).symm, N0, rfl⟩
theorem ef_rm4n (m : MethodId) (x0 : Addr) : entryFrame m #[(.ref x0), .null] 3 = mkF m 0 #[.val (.ref x0), .val .null, .unset] [] := by first | (simp [entryFrame, mkF, argsToLocals, Value.category]; done) | rfl
def Q4n (Z : State) (a1 : Addr) (h0 : Heap) (n0 : Nat) (v : Option Value) (h : Heap) (L : List Loc) : Prop := v = some (.int 0) ∧ Fr n0 L ∧ h = h0
set_option maxRecDepth 65536 in
set_option maxHeartbeats 40000000 in
theorem rm4n (l : Launch) (Z : State) (a0 : Array Value) (hw : ∀ d ∈ tables_1, d.before a0 Z = true) (ws : List Jvm.Cond) (a1 : Addr) (h0 : Heap) (n0 : Nat) (Z0 : n0 ≤ h0.size) :
    MetFree l (⟨"com/example/termwright/termwright/PostingsStreams", "equals", "(Ljava/lang/Object;)Z"⟩ : MethodName) (head1 (Jvm.Cond.code (⟨"com/example/termwright/termwright/PostingsStreams", "equals", "(Ljava/lang/Object;)Z"⟩ : MethodName) prog_126_method_4_code 3 (some .boolean) :: ws) ({ frames := 0, cells := 0, slots := 0, locals := 0 } : Room)) (fun a U => a = #[(.ref a1), .null] ∧ Z.Warmed39 U.vm ∧ U.heap = h0) (fun _ _ _ _ _ => True) (fun _ U o U' => ∃ v L, o = .returned v ∧ Q4n Z a1 h0 n0 v U'.heap L ∧ FrameEnd U o U' L ({ frames := 0, cells := 0, slots := 0, locals := 0 } : Room).cells ({ frames := 0, cells := 0, slots := 0, locals := 0 } : Room).slots) := by
  refine MetFree.of_bodySF (plainFor_of_name pn_4) hisR ?_
  intro p e s m args below meth c s₁ Bd hml0 hP hK
  obtain ⟨rfl, hZ, hh⟩ := hP
  have hx := Bd.exec
  have hby := Bd.bytes
  have hml : c.maxLocals = 3 := hml0
  have hown : s.vm.findClass "com/example/termwright/termwright/PostingsStreams" = some m.cls := findClass_of_methodNamed Bd.named
  have hnm := (name_of_methodNamed Bd.named Bd.method).1
  have X0 : Stand p l e ({ frames := 0, cells := 0, slots := 0, locals := 0 } : Room) s m #[(.ref a1), .null] below meth c s₁ [] 0 0 := Stand.of_body Bd
  have e0 : s₁.heap = h0 := by rw [← hh, Bd.state]; rfl
  have N0 := Fr.nil n0
  have a0s : ∀ t, Steps p.tables e below (s₁.setTop (mkF m 0 #[.val (.ref a1), .val .null, .unset] [])) t → Steps p.tables e below (s₁.setTop (entryFrame m #[(.ref a1), .null] 3)) t := fun t k => castTop (ef_rm4n m a1) k
  have ac1 : ∀ t, Steps p.tables e below (s₁.setTop (mkF m 53 #[.val (.ref a1), .val .null, .unset] [(.int (0 : Int32))])) t → Steps p.tables e below (s₁.setTop (entryFrame m #[(.ref a1), .null] 3)) t := fun t k => a0s t (by
      show Steps p.tables e below (s₁.setTop (mkF m 0 #[.val (.ref a1), .val .null, .unset] [])) _
      refine XS.aloadN X0.here hx rfl (hb hby d4_0) rfl rfl ?_
      show Steps p.tables e below (s₁.setTop (mkF m 1 #[.val (.ref a1), .val .null, .unset] [.null])) _
      refine X0.instanceofNull hx (g := (mkF m 1 #[.val (.ref a1), .val .null, .unset] [.null])) rfl rfl (hb hby d4_1) _ ?_
      show Steps p.tables e below (s₁.setTop (mkF m 4 #[.val (.ref a1), .val .null, .unset] [(.int (0 : Int32))])) _
      refine XS.ifYes X0.here hx rfl (pc0 := 4) (pc' := 52) rfl (hb hby d4_4) rfl ((if0 _ _).trans (teq rfl).1) (by decide) (by decide) ?_
      show Steps p.tables e below (s₁.setTop (mkF m 52 #[.val (.ref a1), .val .null, .unset] [])) _
      refine XS.iconst X0.here hx rfl (hb hby d4_52) ?_
      exact k)
  obtain ⟨fs, hr, hrun, hended, hW, hsame⟩ := X0.leave (v := some (.int (0 : Int32))) (fun h => by rw [Bd.returns] at h; cases h) (BodyLoose.notSynchronized Bd)
  refine ⟨_, _, ac1 _ ?_, hrun, hended, _, _, rfl, ?_, ⟨_, rfl⟩, hW, hsame.mono (by decide) (by decide)⟩
  · show Steps p.tables e below (s₁.setTop (mkF m 53 #[.val (.ref a1), .val .null, .unset] [(.int (0 : Int32))])) _
    exact retN X0 hx (t := .boolean) Bd.returns (by simp) (hb hby d4_53) hr
  · show Q4n Z a1 h0 n0 _ s₁.heap _
    rw [e0]
    exact ⟨rfl, N0, rfl⟩
theorem ef_rm4L (m : MethodId) (x0 : Addr) (x1 : Addr) : entryFrame m #[(.ref x0), (.ref x1)] 3 = mkF m 0 #[.val (.ref x0), .val (.ref x1), .unset] [] := by first | (simp [entryFrame, mkF, argsToLocals, Value.category]; done) | rfl
def Q4L (Z : State) (a1 : Addr) (a2 : Addr) (h0 : Heap) (n0 : Nat) (v : Option Value) (h : Heap) (L : List Loc) : Prop := v = some (.int 0) ∧ Fr n0 L ∧ h = h0
set_option maxRecDepth 65536 in
set_option maxHeartbeats 40000000 in
theorem rm4L (l : Launch) (Z : State) (a0 : Array Value) (hw : ∀ d ∈ tables_1, d.before a0 Z = true) (ws : List Jvm.Cond) (a1 : Addr) (a2 : Addr) (h0 : Heap) (n0 : Nat) (Z0 : n0 ≤ h0.size) (E2 : Exa Z h0 a2 "java/lang/Long") :
    MetFree l (⟨"com/example/termwright/termwright/PostingsStreams", "equals", "(Ljava/lang/Object;)Z"⟩ : MethodName) (head1 (Jvm.Cond.code (⟨"com/example/termwright/termwright/PostingsStreams", "equals", "(Ljava/lang/Object;)Z"⟩ : MethodName) prog_126_method_4_code 3 (some .boolean) :: ws) ({ frames := 0, cells := 0, slots := 0, locals := 0 } : Room)) (fun a U => a = #[(.ref a1), (.ref a2)] ∧ Z.Warmed39 U.vm ∧ U.heap = h0) (fun _ _ _ _ _ => True) (fun _ U o U' => ∃ v L, o = .returned v ∧ Q4L Z a1 a2 h0 n0 v U'.heap L ∧ FrameEnd U o U' L ({ frames := 0, cells := 0, slots := 0, locals := 0 } : Room).cells ({ frames := 0, cells := 0, slots := 0, locals := 0 } : Room).slots) := by
  refine MetFree.of_bodySF (plainFor_of_name pn_4) hisR ?_
  intro p e s m args below meth c s₁ Bd hml0 hP hK
  obtain ⟨rfl, hZ, hh⟩ := hP
  have hx := Bd.exec
  have hby := Bd.bytes
  have hml : c.maxLocals = 3 := hml0
  have hown : s.vm.findClass "com/example/termwright/termwright/PostingsStreams" = some m.cls := findClass_of_methodNamed Bd.named
  have hnm := (name_of_methodNamed Bd.named Bd.method).1
  have X0 : Stand p l e ({ frames := 0, cells := 0, slots := 0, locals := 0 } : Room) s m #[(.ref a1), (.ref a2)] below meth c s₁ [] 0 0 := Stand.of_body Bd
  have e0 : s₁.heap = h0 := by rw [← hh, Bd.state]; rfl
  have N0 := Fr.nil n0
  have a0s : ∀ t, Steps p.tables e below (s₁.setTop (mkF m 0 #[.val (.ref a1), .val (.ref a2), .unset] [])) t → Steps p.tables e below (s₁.setTop (entryFrame m #[(.ref a1), (.ref a2)] 3)) t := fun t k => castTop (ef_rm4L m a1 a2) k
  have ac1 : ∀ t, Steps p.tables e below (s₁.setTop (mkF m 1 #[.val (.ref a1), .val (.ref a2), .unset] [(.ref a2)])) t → Steps p.tables e below (s₁.setTop (entryFrame m #[(.ref a1), (.ref a2)] 3)) t := fun t k => a0s t (by
      show Steps p.tables e below (s₁.setTop (mkF m 0 #[.val (.ref a1), .val (.ref a2), .unset] [])) _
      refine XS.aloadN X0.here hx rfl (hb hby d4_0) rfl rfl ?_
      exact k)
  obtain ⟨T2, X2, e2, st2⟩ := instNo X0 hx hZ hown (hw _ (List.mem_of_getElem? (i := 25) rfl)) e0 E2 (own_no hw) (g := (mkF m 1 #[.val (.ref a1), .val (.ref a2), .unset] [(.ref a2)])) rfl rfl (hb hby d4_1)
  have ac3 : ∀ t, Steps p.tables e below (T2.setTop (mkF m 4 #[.val (.ref a1), .val (.ref a2), .unset] [(.int (0 : Int32))])) t → Steps p.tables e below (s₁.setTop (entryFrame m #[(.ref a1), (.ref a2)] 3)) t := fun t k => ac1 t (st2 t k)
  have ac4 : ∀ t, Steps p.tables e below (T2.setTop (mkF m 53 #[.val (.ref a1), .val (.ref a2), .unset] [(.int (0 : Int32))])) t → Steps p.tables e below (s₁.setTop (entryFrame m #[(.ref a1), (.ref a2)] 3)) t := fun t k => ac3 t (by
      show Steps p.tables e below (T2.setTop (mkF m 4 #[.val (.ref a1), .val (.ref a2), .unset] [(.int (0 : Int32))])) _
      refine XS.ifYes X2.here hx rfl (pc0 := 4) (pc' := 52) rfl (hb hby d4_4) rfl ((if0 _ _).trans (teq rfl).1) (by decide) (by decide) ?_
      show Steps p.tables e below (T2.setTop (mkF m 52 #[.val (.ref a1), .val (.ref a2), .unset] [])) _
      refine XS.iconst X2.here hx rfl (hb hby d4_52) ?_
      exact k)
  obtain ⟨fs, hr, hrun, hended, hW, hsame⟩ := X2.leave (v := some (.int (0 : Int32))) (fun h => by rw [Bd.returns] at h; cases h) (BodyLoose.notSynchronized Bd)
  refine ⟨_, _, ac4 _ ?_, hrun, hended, _, _, rfl, ?_, ⟨_, rfl⟩, hW, hsame.mono (by decide) (by decide)⟩
  · show Steps p.tables e below (T2.setTop (mkF m 53 #[.val (.ref a1), .val (.ref a2), .unset] [(.int (0 : Int32))])) _
    exact retN X2 hx (t := .boolean) Bd.returns (by simp) (hb hby d4_53) hr
  · show Q4L Z a1 a2 h0 n0 _ T2.heap _
    rw [e2]
    exact ⟨rfl, N0, rfl⟩
theorem ef_rm0 (m : MethodId) (x0 : Int64) (x1 : Int64) (x2 : Int64) (x3 : Int64) (x4 : Int32) : entryFrame m #[(.long x0), (.long x1), (.long x2), (.long x3), (.int x4)] maxLocals = mkF m 0 #[.val (.long x0), .second, .val (.long x1), .second, .val (.long x2), .second, .val (.long x3), .second, .val (.int x4), .unset, .unset, .unset, .unset, .unset, .unset, .unset, .unset, .unset, .unset] [] := by first | (simp [entryFrame, mkF, argsToLocals, Value.category, maxLocals]; done) | rfl
def Q0 (Z : State) (q1 : Int64) (q2 : Int64) (q3 : Int64) (q4 : Int64) (p5 : Int32) (cA : Addr) (bf : Nat → Addr) (h0 : Heap) (n0 : Nat) (v : Option Value) (h : Heap) (L : List Loc) : Prop := v = some (.int 1) ∧ Fr n0 L
set_option maxRecDepth 65536 in
set_option maxHeartbeats 40000000 in
theorem rm0 (l : Launch) (Z : State) (a0 : Array Value) (hw : ∀ d ∈ tables_1, d.before a0 Z = true) (ws : List Jvm.Cond) (q1 : Int64) (q2 : Int64) (q3 : Int64) (q4 : Int64) (p5 : Int32) (cA : Addr) (bf : Nat → Addr) (h0 : Heap) (n0 : Nat) (Z0 : n0 ≤ h0.size) (Sc : Sta Z h0 "java/lang/Long$LongCache" "cache" "[Ljava/lang/Long;" (.ref cA)) (Vc : own_Ar Z h0 cA (.object "java/lang/Long") 256 (fun i => .ref (bf i))) (Ec : ∀ i, i < 256 → Exa Z h0 (bf i) "java/lang/Long") :
    MetFree l x (head1 (Jvm.Cond.code x code maxLocals ret :: ws) room_1) (fun a U => a = #[(.long q1), (.long q2), (.long q3), (.long q4), (.int p5)] ∧ Z.Warmed39 U.vm ∧ U.heap = h0) (fun _ _ _ _ _ => True) (fun _ U o U' => ∃ v L, o = .returned v ∧ Q0 Z q1 q2 q3 q4 p5 cA bf h0 n0 v U'.heap L ∧ FrameEnd U o U' L room_1.cells room_1.slots) := by
  refine MetFree.of_bodySF (plainFor_of_name pn_0) hisR ?_
  intro p e s m args below meth c s₁ Bd hml0 hP hK
  obtain ⟨rfl, hZ, hh⟩ := hP
  have hx := Bd.exec
  have hby := Bd.bytes
  have hml : c.maxLocals = 19 := hml0
  have hown : s.vm.findClass "com/example/termwright/termwright/PostingsStreamsEqualsPinLaw" = some m.cls := findClass_of_methodNamed Bd.named
  have hnm := (name_of_methodNamed Bd.named Bd.method).1
  have X0 : Stand p l e room_1 s m #[(.long q1), (.long q2), (.long q3), (.long q4), (.int p5)] below meth c s₁ [] 0 0 := Stand.of_body Bd
  have e0 : s₁.heap = h0 := by rw [← hh, Bd.state]; rfl
  have N0 := Fr.nil n0
  have a0s : ∀ t, Steps p.tables e below (s₁.setTop (mkF m 0 #[.val (.long q1), .second, .val (.long q2), .second, .val (.long q3), .second, .val (.long q4), .second, .val (.int p5), .unset, .unset, .unset, .unset, .unset, .unset, .unset, .unset, .unset, .unset] [])) t → Steps p.tables e below (s₁.setTop (entryFrame m #[(.long q1), (.long q2), (.long q3), (.long q4), (.int p5)] maxLocals)) t := fun t k => castTop (ef_rm0 m q1 q2 q3 q4 p5) k
  obtain ⟨T1, h1, X1, e1, E1, A1, D1, -, st1⟩ := newO X0 hx hZ hown (hw _ (List.mem_of_getElem? (i := 0) rfl)) (hw _ (List.mem_of_getElem? (i := 1) rfl)) (hw _ (List.mem_of_getElem? (i := 2) rfl)) e0 (g := (mkF m 0 #[.val (.long q1), .second, .val (.long q2), .second, .val (.long q3), .second, .val (.long q4), .second, .val (.int p5), .unset, .unset, .unset, .unset, .unset, .unset, .unset, .unset, .unset, .unset] [])) rfl (hb hby at_0) (by decide) (by decide)
  obtain ⟨b1, g1⟩ : ∃ z, z = h0.size := ⟨_, rfl⟩
  rw [← g1] at A1 D1 st1
  have g_b1 : n0 ≤ b1 := Nat.le_trans Z0 (Nat.le_of_eq g1.symm)
  have sz_b1 : h0.size ≤ b1 := Nat.le_trans (Keep.refl h0 []).1 (Nat.le_of_eq g1.symm)
  have Z1 : n0 ≤ h1.size := Nat.le_trans Z0 E1.1
  have Kp2 : Keep h0 h1 [] := (Keep.refl h0 []).ext E1
  have F_documents_b1 : Fld Z h1 b1 "com/example/termwright/termwright/PostingsStreams" "documents" "J" (.long (0 : Int64)) := D1 (Or.inr (hw _ (List.mem_of_getElem? (i := 15) rfl))) (ty := .long) (by decide)
  have F_positions_b1 : Fld Z h1 b1 "com/example/termwright/termwright/PostingsStreams" "positions" "J" (.long (0 : Int64)) := D1 (Or.inr (hw _ (List.mem_of_getElem? (i := 17) rfl))) (ty := .long) (by decide)
  have F_offsets_b1 : Fld Z h1 b1 "com/example/termwright/termwright/PostingsStreams" "offsets" "J" (.long (0 : Int64)) := D1 (Or.inr (hw _ (List.mem_of_getElem? (i := 19) rfl))) (ty := .long) (by decide)
  have ac3 : ∀ t, Steps p.tables e below (T1.setTop (mkF m 3 #[.val (.long q1), .second, .val (.long q2), .second, .val (.long q3), .second, .val (.long q4), .second, .val (.int p5), .unset, .unset, .unset, .unset, .unset, .unset, .unset, .unset, .unset, .unset] [(.ref b1)])) t → Steps p.tables e below (s₁.setTop (entryFrame m #[(.long q1), (.long q2), (.long q3), (.long q4), (.int p5)] maxLocals)) t := fun t k => a0s t (st1 t k)
  have ac4 : ∀ t, Steps p.tables e below (T1.setTop (mkF m 8 #[.val (.long q1), .second, .val (.long q2), .second, .val (.long q3), .second, .val (.long q4), .second, .val (.int p5), .unset, .unset, .unset, .unset, .unset, .unset, .unset, .unset, .unset, .unset] [(.long q3), (.long q2), (.long q1), (.ref b1), (.ref b1)])) t → Steps p.tables e below (s₁.setTop (entryFrame m #[(.long q1), (.long q2), (.long q3), (.long q4), (.int p5)] maxLocals)) t := fun t k => ac3 t (by
      show Steps p.tables e below (T1.setTop (mkF m 3 #[.val (.long q1), .second, .val (.long q2), .second, .val (.long q3), .second, .val (.long q4), .second, .val (.int p5), .unset, .unset, .unset, .unset, .unset, .unset, .unset, .unset, .unset, .unset] [(.ref b1)])) _
      refine XS.dup X1.here hx rfl (hb hby at_3) rfl rfl ?_
      show Steps p.tables e below (T1.setTop (mkF m 4 #[.val (.long q1), .second, .val (.long q2), .second, .val (.long q3), .second, .val (.long q4), .second, .val (.int p5), .unset, .unset, .unset, .unset, .unset, .unset, .unset, .unset, .unset, .unset] [(.ref b1), (.ref b1)])) _
      refine XS.lloadN X1.here hx rfl (hb hby at_4) rfl ?_
      show Steps p.tables e below (T1.setTop (mkF m 5 #[.val (.long q1), .second, .val (.long q2), .second, .val (.long q3), .second, .val (.long q4), .second, .val (.int p5), .unset, .unset, .unset, .unset, .unset, .unset, .unset, .unset, .unset, .unset] [(.long q1), (.ref b1), (.ref b1)])) _
      refine XS.lloadN X1.here hx rfl (hb hby at_5) rfl ?_
      show Steps p.tables e below (T1.setTop (mkF m 6 #[.val (.long q1), .second, .val (.long q2), .second, .val (.long q3), .second, .val (.long q4), .second, .val (.int p5), .unset, .unset, .unset, .unset, .unset, .unset, .unset, .unset, .unset, .unset] [(.long q2), (.long q1), (.ref b1), (.ref b1)])) _
      refine XS.lload X1.here hx rfl (hb hby at_6) rfl ?_
      exact k)
  obtain ⟨_, _, ⟨T5, L5, k5, n5⟩, -, X5, ⟨Lc5, hQ5, l5, y5, z5⟩, st5⟩ := X1.specialBack hx (y := (⟨"com/example/termwright/termwright/PostingsStreams", "<init>", "(JJJ)V"⟩ : MethodName)) rfl hown (mvT hZ (hw _ (List.mem_of_getElem? (i := 3) rfl))) (mvT hZ (hw _ (List.mem_of_getElem? (i := 4) rfl))) (mvT hZ (hw _ (List.mem_of_getElem? (i := 5) rfl))) (by decide) (backOf (W := 1) (rm1 l Z a0 hw [] b1 q1 q2 q3  h1 n0 Z1 A1 g_b1 F_documents_b1 F_positions_b1 F_offsets_b1) hZ (hw _ (List.mem_of_getElem? (i := 5) rfl)) (hw _ (List.mem_of_getElem? (i := 2) rfl)) (by decide) (by decide)) (g := (mkF m 8 #[.val (.long q1), .second, .val (.long q2), .second, .val (.long q3), .second, .val (.long q4), .second, .val (.int p5), .unset, .unset, .unset, .unset, .unset, .unset, .unset, .unset, .unset, .unset] [(.long q3), (.long q2), (.long q1), (.ref b1), (.ref b1)])) rfl (by rw [hml]; rfl) (Steps.refl _) (a := b1) (argsL := [(.long q1), (.long q2), (.long q3)]) (rest := [(.ref b1)]) (lenOf pd_0 rfl) rfl (by show 2 * 0 + _ ≤ _; exact Nat.le_of_eq rfl) (hb hby at_8) (fun _ _ => ⟨rfl, e1, (by decide : 1 + 0 ≤ _), (by decide : 3 + 0 ≤ _)⟩)
  dsimp only [Pt.U, Pt.locs, Pt.cells, Pt.slots] at X5 l5 y5 z5 st5 hQ5
  subst l5 y5 z5
  obtain ⟨rfl, N5q, K5q, Ex5, Fl5_0, Fl5_1, Fl5_2⟩ := hQ5
  have N5 := Fr.app N0 N5q
  have Ef6 := A1.keep K5q
  have Z5 : n0 ≤ T5.heap.size := Nat.le_trans Z1 K5q.1
  have Kp7 : Keep h0 T5.heap [] := Kp2.trans K5q (allS (Or.inr sz_b1) all0)
  have ac8 : ∀ t, Steps p.tables e below (T5.setTop (mkF m 11 #[.val (.long q1), .second, .val (.long q2), .second, .val (.long q3), .second, .val (.long q4), .second, .val (.int p5), .unset, .unset, .unset, .unset, .unset, .unset, .unset, .unset, .unset, .unset] [(.ref b1)])) t → Steps p.tables e below (s₁.setTop (entryFrame m #[(.long q1), (.long q2), (.long q3), (.long q4), (.int p5)] maxLocals)) t := fun t k => ac4 t (st5.trans k)
  have ac9 : ∀ t, Steps p.tables e below (T5.setTop (mkF m 17 #[.val (.long q1), .second, .val (.long q2), .second, .val (.long q3), .second, .val (.long q4), .second, .val (.int p5), .val (.ref b1), .unset, .unset, .unset, .unset, .unset, .unset, .unset, .unset, .unset] [(.int (p5 &&& (1 : Int32)))])) t → Steps p.tables e below (s₁.setTop (entryFrame m #[(.long q1), (.long q2), (.long q3), (.long q4), (.int p5)] maxLocals)) t := fun t k => ac8 t (by
      show Steps p.tables e below (T5.setTop (mkF m 11 #[.val (.long q1), .second, .val (.long q2), .second, .val (.long q3), .second, .val (.long q4), .second, .val (.int p5), .unset, .unset, .unset, .unset, .unset, .unset, .unset, .unset, .unset, .unset] [(.ref b1)])) _
      refine XS.astore X5.here hx rfl (hb hby at_11) rfl rfl (l' := #[.val (.long q1), .second, .val (.long q2), .second, .val (.long q3), .second, .val (.long q4), .second, .val (.int p5), .val (.ref b1), .unset, .unset, .unset, .unset, .unset, .unset, .unset, .unset, .unset]) rfl ?_
      show Steps p.tables e below (T5.setTop (mkF m 13 #[.val (.long q1), .second, .val (.long q2), .second, .val (.long q3), .second, .val (.long q4), .second, .val (.int p5), .val (.ref b1), .unset, .unset, .unset, .unset, .unset, .unset, .unset, .unset, .unset] [])) _
      refine XS.iload X5.here hx rfl (hb hby at_13) rfl ?_
      show Steps p.tables e below (T5.setTop (mkF m 15 #[.val (.long q1), .second, .val (.long q2), .second, .val (.long q3), .second, .val (.long q4), .second, .val (.int p5), .val (.ref b1), .unset, .unset, .unset, .unset, .unset, .unset, .unset, .unset, .unset] [(.int p5)])) _
      refine XS.iconst X5.here hx rfl (hb hby at_15) ?_
      show Steps p.tables e below (T5.setTop (mkF m 16 #[.val (.long q1), .second, .val (.long q2), .second, .val (.long q3), .second, .val (.long q4), .second, .val (.int p5), .val (.ref b1), .unset, .unset, .unset, .unset, .unset, .unset, .unset, .unset, .unset] [(.int (1 : Int32)), (.int p5)])) _
      refine XS.iand X5.here hx rfl (hb hby at_16) rfl ?_
      exact k)
  have ac10 : ∀ t, Steps p.tables e below (T5.setTop (mkF m 26 #[.val (.long q1), .second, .val (.long q2), .second, .val (.long q3), .second, .val (.long q4), .second, .val (.int p5), .val (.ref b1), .unset, .unset, .unset, .unset, .unset, .unset, .unset, .unset, .unset] [(.long (own_sel (p5 &&& (1 : Int32)) q4 q1))])) t → Steps p.tables e below (s₁.setTop (entryFrame m #[(.long q1), (.long q2), (.long q3), (.long q4), (.int p5)] maxLocals)) t := fun t k => ac9 t (by
      by_cases hm : (p5 &&& (1 : Int32)) = (0 : Int32)
      ·
        show Steps p.tables e below (T5.setTop (mkF m 17 #[.val (.long q1), .second, .val (.long q2), .second, .val (.long q3), .second, .val (.long q4), .second, .val (.int p5), .val (.ref b1), .unset, .unset, .unset, .unset, .unset, .unset, .unset, .unset, .unset] [(.int (p5 &&& (1 : Int32)))])) _
        refine XS.ifYes X5.here hx rfl (pc0 := 17) (pc' := 25) rfl (hb hby at_17) rfl ((if0 _ _).trans (teq hm).1) (by decide) (by decide) ?_
        show Steps p.tables e below (T5.setTop (mkF m 25 #[.val (.long q1), .second, .val (.long q2), .second, .val (.long q3), .second, .val (.long q4), .second, .val (.int p5), .val (.ref b1), .unset, .unset, .unset, .unset, .unset, .unset, .unset, .unset, .unset] [])) _
        refine XS.lloadN X5.here hx rfl (hb hby at_25) rfl ?_
        rw [own_sel_0 hm] at k; exact k
      ·
        show Steps p.tables e below (T5.setTop (mkF m 17 #[.val (.long q1), .second, .val (.long q2), .second, .val (.long q3), .second, .val (.long q4), .second, .val (.int p5), .val (.ref b1), .unset, .unset, .unset, .unset, .unset, .unset, .unset, .unset, .unset] [(.int (p5 &&& (1 : Int32)))])) _
        refine XS.ifNo X5.here hx rfl (hb hby at_17) rfl ((if0 _ _).trans (feq hm).1) ?_
        show Steps p.tables e below (T5.setTop (mkF m 20 #[.val (.long q1), .second, .val (.long q2), .second, .val (.long q3), .second, .val (.long q4), .second, .val (.int p5), .val (.ref b1), .unset, .unset, .unset, .unset, .unset, .unset, .unset, .unset, .unset] [])) _
        refine XS.lload X5.here hx rfl (hb hby at_20) rfl ?_
        show Steps p.tables e below (T5.setTop (mkF m 22 #[.val (.long q1), .second, .val (.long q2), .second, .val (.long q3), .second, .val (.long q4), .second, .val (.int p5), .val (.ref b1), .unset, .unset, .unset, .unset, .unset, .unset, .unset, .unset, .unset] [(.long q4)])) _
        refine XS.goto X5.here hx rfl (pc0 := 22) (pc' := 26) rfl (hb hby at_22) (by decide) (by decide) ?_
        rw [own_sel_1 hm] at k; exact k)
  have ac11 : ∀ t, Steps p.tables e below (T5.setTop (mkF m 32 #[.val (.long q1), .second, .val (.long q2), .second, .val (.long q3), .second, .val (.long q4), .second, .val (.int p5), .val (.ref b1), .val (.long (own_sel (p5 &&& (1 : Int32)) q4 q1)), .second, .unset, .unset, .unset, .unset, .unset, .unset, .unset] [(.int (p5 &&& (2 : Int32)))])) t → Steps p.tables e below (s₁.setTop (entryFrame m #[(.long q1), (.long q2), (.long q3), (.long q4), (.int p5)] maxLocals)) t := fun t k => ac10 t (by
      show Steps p.tables e below (T5.setTop (mkF m 26 #[.val (.long q1), .second, .val (.long q2), .second, .val (.long q3), .second, .val (.long q4), .second, .val (.int p5), .val (.ref b1), .unset, .unset, .unset, .unset, .unset, .unset, .unset, .unset, .unset] [(.long (own_sel (p5 &&& (1 : Int32)) q4 q1))])) _
      refine XS.lstore X5.here hx rfl (hb hby at_26) rfl (l' := #[.val (.long q1), .second, .val (.long q2), .second, .val (.long q3), .second, .val (.long q4), .second, .val (.int p5), .val (.ref b1), .val (.long (own_sel (p5 &&& (1 : Int32)) q4 q1)), .second, .unset, .unset, .unset, .unset, .unset, .unset, .unset]) rfl ?_
      show Steps p.tables e below (T5.setTop (mkF m 28 #[.val (.long q1), .second, .val (.long q2), .second, .val (.long q3), .second, .val (.long q4), .second, .val (.int p5), .val (.ref b1), .val (.long (own_sel (p5 &&& (1 : Int32)) q4 q1)), .second, .unset, .unset, .unset, .unset, .unset, .unset, .unset] [])) _
      refine XS.iload X5.here hx rfl (hb hby at_28) rfl ?_
      show Steps p.tables e below (T5.setTop (mkF m 30 #[.val (.long q1), .second, .val (.long q2), .second, .val (.long q3), .second, .val (.long q4), .second, .val (.int p5), .val (.ref b1), .val (.long (own_sel (p5 &&& (1 : Int32)) q4 q1)), .second, .unset, .unset, .unset, .unset, .unset, .unset, .unset] [(.int p5)])) _
      refine XS.iconst X5.here hx rfl (hb hby at_30) ?_
      show Steps p.tables e below (T5.setTop (mkF m 31 #[.val (.long q1), .second, .val (.long q2), .second, .val (.long q3), .second, .val (.long q4), .second, .val (.int p5), .val (.ref b1), .val (.long (own_sel (p5 &&& (1 : Int32)) q4 q1)), .second, .unset, .unset, .unset, .unset, .unset, .unset, .unset] [(.int (2 : Int32)), (.int p5)])) _
      refine XS.iand X5.here hx rfl (hb hby at_31) rfl ?_
      exact k)
  have ac12 : ∀ t, Steps p.tables e below (T5.setTop (mkF m 41 #[.val (.long q1), .second, .val (.long q2), .second, .val (.long q3), .second, .val (.long q4), .second, .val (.int p5), .val (.ref b1), .val (.long (own_sel (p5 &&& (1 : Int32)) q4 q1)), .second, .unset, .unset, .unset, .unset, .unset, .unset, .unset] [(.long (own_sel (p5 &&& (2 : Int32)) q4 q2))])) t → Steps p.tables e below (s₁.setTop (entryFrame m #[(.long q1), (.long q2), (.long q3), (.long q4), (.int p5)] maxLocals)) t := fun t k => ac11 t (by
      by_cases hm : (p5 &&& (2 : Int32)) = (0 : Int32)
      ·
        show Steps p.tables e below (T5.setTop (mkF m 32 #[.val (.long q1), .second, .val (.long q2), .second, .val (.long q3), .second, .val (.long q4), .second, .val (.int p5), .val (.ref b1), .val (.long (own_sel (p5 &&& (1 : Int32)) q4 q1)), .second, .unset, .unset, .unset, .unset, .unset, .unset, .unset] [(.int (p5 &&& (2 : Int32)))])) _
        refine XS.ifYes X5.here hx rfl (pc0 := 32) (pc' := 40) rfl (hb hby at_32) rfl ((if0 _ _).trans (teq hm).1) (by decide) (by decide) ?_
        show Steps p.tables e below (T5.setTop (mkF m 40 #[.val (.long q1), .second, .val (.long q2), .second, .val (.long q3), .second, .val (.long q4), .second, .val (.int p5), .val (.ref b1), .val (.long (own_sel (p5 &&& (1 : Int32)) q4 q1)), .second, .unset, .unset, .unset, .unset, .unset, .unset, .unset] [])) _
        refine XS.lloadN X5.here hx rfl (hb hby at_40) rfl ?_
        rw [own_sel_0 hm] at k; exact k
      ·
        show Steps p.tables e below (T5.setTop (mkF m 32 #[.val (.long q1), .second, .val (.long q2), .second, .val (.long q3), .second, .val (.long q4), .second, .val (.int p5), .val (.ref b1), .val (.long (own_sel (p5 &&& (1 : Int32)) q4 q1)), .second, .unset, .unset, .unset, .unset, .unset, .unset, .unset] [(.int (p5 &&& (2 : Int32)))])) _
        refine XS.ifNo X5.here hx rfl (hb hby at_32) rfl ((if0 _ _).trans (feq hm).1) ?_
        show Steps p.tables e below (T5.setTop (mkF m 35 #[.val (.long q1), .second, .val (.long q2), .second, .val (.long q3), .second, .val (.long q4), .second, .val (.int p5), .val (.ref b1), .val (.long (own_sel (p5 &&& (1 : Int32)) q4 q1)), .second, .unset, .unset, .unset, .unset, .unset, .unset, .unset] [])) _
        refine XS.lload X5.here hx rfl (hb hby at_35) rfl ?_
        show Steps p.tables e below (T5.setTop (mkF m 37 #[.val (.long q1), .second, .val (.long q2), .second, .val (.long q3), .second, .val (.long q4), .second, .val (.int p5), .val (.ref b1), .val (.long (own_sel (p5 &&& (1 : Int32)) q4 q1)), .second, .unset, .unset, .unset, .unset, .unset, .unset, .unset] [(.long q4)])) _
        refine XS.goto X5.here hx rfl (pc0 := 37) (pc' := 41) rfl (hb hby at_37) (by decide) (by decide) ?_
        rw [own_sel_1 hm] at k; exact k)
  have ac13 : ∀ t, Steps p.tables e below (T5.setTop (mkF m 47 #[.val (.long q1), .second, .val (.long q2), .second, .val (.long q3), .second, .val (.long q4), .second, .val (.int p5), .val (.ref b1), .val (.long (own_sel (p5 &&& (1 : Int32)) q4 q1)), .second, .val (.long (own_sel (p5 &&& (2 : Int32)) q4 q2)), .second, .unset, .unset, .unset, .unset, .unset] [(.int (p5 &&& (4 : Int32)))])) t → Steps p.tables e below (s₁.setTop (entryFrame m #[(.long q1), (.long q2), (.long q3), (.long q4), (.int p5)] maxLocals)) t := fun t k => ac12 t (by
      show Steps p.tables e below (T5.setTop (mkF m 41 #[.val (.long q1), .second, .val (.long q2), .second, .val (.long q3), .second, .val (.long q4), .second, .val (.int p5), .val (.ref b1), .val (.long (own_sel (p5 &&& (1 : Int32)) q4 q1)), .second, .unset, .unset, .unset, .unset, .unset, .unset, .unset] [(.long (own_sel (p5 &&& (2 : Int32)) q4 q2))])) _
      refine XS.lstore X5.here hx rfl (hb hby at_41) rfl (l' := #[.val (.long q1), .second, .val (.long q2), .second, .val (.long q3), .second, .val (.long q4), .second, .val (.int p5), .val (.ref b1), .val (.long (own_sel (p5 &&& (1 : Int32)) q4 q1)), .second, .val (.long (own_sel (p5 &&& (2 : Int32)) q4 q2)), .second, .unset, .unset, .unset, .unset, .unset]) rfl ?_
      show Steps p.tables e below (T5.setTop (mkF m 43 #[.val (.long q1), .second, .val (.long q2), .second, .val (.long q3), .second, .val (.long q4), .second, .val (.int p5), .val (.ref b1), .val (.long (own_sel (p5 &&& (1 : Int32)) q4 q1)), .second, .val (.long (own_sel (p5 &&& (2 : Int32)) q4 q2)), .second, .unset, .unset, .unset, .unset, .unset] [])) _
      refine XS.iload X5.here hx rfl (hb hby at_43) rfl ?_
      show Steps p.tables e below (T5.setTop (mkF m 45 #[.val (.long q1), .second, .val (.long q2), .second, .val (.long q3), .second, .val (.long q4), .second, .val (.int p5), .val (.ref b1), .val (.long (own_sel (p5 &&& (1 : Int32)) q4 q1)), .second, .val (.long (own_sel (p5 &&& (2 : Int32)) q4 q2)), .second, .unset, .unset, .unset, .unset, .unset] [(.int p5)])) _
      refine XS.iconst X5.here hx rfl (hb hby at_45) ?_
      show Steps p.tables e below (T5.setTop (mkF m 46 #[.val (.long q1), .second, .val (.long q2), .second, .val (.long q3), .second, .val (.long q4), .second, .val (.int p5), .val (.ref b1), .val (.long (own_sel (p5 &&& (1 : Int32)) q4 q1)), .second, .val (.long (own_sel (p5 &&& (2 : Int32)) q4 q2)), .second, .unset, .unset, .unset, .unset, .unset] [(.int (4 : Int32)), (.int p5)])) _
      refine XS.iand X5.here hx rfl (hb hby at_46) rfl ?_
      exact k)
  have ac14 : ∀ t, Steps p.tables e below (T5.setTop (mkF m 57 #[.val (.long q1), .second, .val (.long q2), .second, .val (.long q3), .second, .val (.long q4), .second, .val (.int p5), .val (.ref b1), .val (.long (own_sel (p5 &&& (1 : Int32)) q4 q1)), .second, .val (.long (own_sel (p5 &&& (2 : Int32)) q4 q2)), .second, .unset, .unset, .unset, .unset, .unset] [(.long (own_sel (p5 &&& (4 : Int32)) q4 q3))])) t → Steps p.tables e below (s₁.setTop (entryFrame m #[(.long q1), (.long q2), (.long q3), (.long q4), (.int p5)] maxLocals)) t := fun t k => ac13 t (by
      by_cases hm : (p5 &&& (4 : Int32)) = (0 : Int32)
      ·
        show Steps p.tables e below (T5.setTop (mkF m 47 #[.val (.long q1), .second, .val (.long q2), .second, .val (.long q3), .second, .val (.long q4), .second, .val (.int p5), .val (.ref b1), .val (.long (own_sel (p5 &&& (1 : Int32)) q4 q1)), .second, .val (.long (own_sel (p5 &&& (2 : Int32)) q4 q2)), .second, .unset, .unset, .unset, .unset, .unset] [(.int (p5 &&& (4 : Int32)))])) _
        refine XS.ifYes X5.here hx rfl (pc0 := 47) (pc' := 55) rfl (hb hby at_47) rfl ((if0 _ _).trans (teq hm).1) (by decide) (by decide) ?_
        show Steps p.tables e below (T5.setTop (mkF m 55 #[.val (.long q1), .second, .val (.long q2), .second, .val (.long q3), .second, .val (.long q4), .second, .val (.int p5), .val (.ref b1), .val (.long (own_sel (p5 &&& (1 : Int32)) q4 q1)), .second, .val (.long (own_sel (p5 &&& (2 : Int32)) q4 q2)), .second, .unset, .unset, .unset, .unset, .unset] [])) _
        refine XS.lload X5.here hx rfl (hb hby at_55) rfl ?_
        rw [own_sel_0 hm] at k; exact k
      ·
        show Steps p.tables e below (T5.setTop (mkF m 47 #[.val (.long q1), .second, .val (.long q2), .second, .val (.long q3), .second, .val (.long q4), .second, .val (.int p5), .val (.ref b1), .val (.long (own_sel (p5 &&& (1 : Int32)) q4 q1)), .second, .val (.long (own_sel (p5 &&& (2 : Int32)) q4 q2)), .second, .unset, .unset, .unset, .unset, .unset] [(.int (p5 &&& (4 : Int32)))])) _
        refine XS.ifNo X5.here hx rfl (hb hby at_47) rfl ((if0 _ _).trans (feq hm).1) ?_
        show Steps p.tables e below (T5.setTop (mkF m 50 #[.val (.long q1), .second, .val (.long q2), .second, .val (.long q3), .second, .val (.long q4), .second, .val (.int p5), .val (.ref b1), .val (.long (own_sel (p5 &&& (1 : Int32)) q4 q1)), .second, .val (.long (own_sel (p5 &&& (2 : Int32)) q4 q2)), .second, .unset, .unset, .unset, .unset, .unset] [])) _
        refine XS.lload X5.here hx rfl (hb hby at_50) rfl ?_
        show Steps p.tables e below (T5.setTop (mkF m 52 #[.val (.long q1), .second, .val (.long q2), .second, .val (.long q3), .second, .val (.long q4), .second, .val (.int p5), .val (.ref b1), .val (.long (own_sel (p5 &&& (1 : Int32)) q4 q1)), .second, .val (.long (own_sel (p5 &&& (2 : Int32)) q4 q2)), .second, .unset, .unset, .unset, .unset, .unset] [(.long q4)])) _
        refine XS.goto X5.here hx rfl (pc0 := 52) (pc' := 57) rfl (hb hby at_52) (by decide) (by decide) ?_
        rw [own_sel_1 hm] at k; exact k)
  have ac15 : ∀ t, Steps p.tables e below (T5.setTop (mkF m 59 #[.val (.long q1), .second, .val (.long q2), .second, .val (.long q3), .second, .val (.long q4), .second, .val (.int p5), .val (.ref b1), .val (.long (own_sel (p5 &&& (1 : Int32)) q4 q1)), .second, .val (.long (own_sel (p5 &&& (2 : Int32)) q4 q2)), .second, .val (.long (own_sel (p5 &&& (4 : Int32)) q4 q3)), .second, .unset, .unset, .unset] [])) t → Steps p.tables e below (s₁.setTop (entryFrame m #[(.long q1), (.long q2), (.long q3), (.long q4), (.int p5)] maxLocals)) t := fun t k => ac14 t (by
      show Steps p.tables e below (T5.setTop (mkF m 57 #[.val (.long q1), .second, .val (.long q2), .second, .val (.long q3), .second, .val (.long q4), .second, .val (.int p5), .val (.ref b1), .val (.long (own_sel (p5 &&& (1 : Int32)) q4 q1)), .second, .val (.long (own_sel (p5 &&& (2 : Int32)) q4 q2)), .second, .unset, .unset, .unset, .unset, .unset] [(.long (own_sel (p5 &&& (4 : Int32)) q4 q3))])) _
      refine XS.lstore X5.here hx rfl (hb hby at_57) rfl (l' := #[.val (.long q1), .second, .val (.long q2), .second, .val (.long q3), .second, .val (.long q4), .second, .val (.int p5), .val (.ref b1), .val (.long (own_sel (p5 &&& (1 : Int32)) q4 q1)), .second, .val (.long (own_sel (p5 &&& (2 : Int32)) q4 q2)), .second, .val (.long (own_sel (p5 &&& (4 : Int32)) q4 q3)), .second, .unset, .unset, .unset]) rfl ?_
      exact k)
  obtain ⟨T16, h16, X16, e16, E16, A16, D16, -, st16⟩ := newO X5 hx hZ hown (hw _ (List.mem_of_getElem? (i := 0) rfl)) (hw _ (List.mem_of_getElem? (i := 1) rfl)) (hw _ (List.mem_of_getElem? (i := 2) rfl)) rfl (g := (mkF m 59 #[.val (.long q1), .second, .val (.long q2), .second, .val (.long q3), .second, .val (.long q4), .second, .val (.int p5), .val (.ref b1), .val (.long (own_sel (p5 &&& (1 : Int32)) q4 q1)), .second, .val (.long (own_sel (p5 &&& (2 : Int32)) q4 q2)), .second, .val (.long (own_sel (p5 &&& (4 : Int32)) q4 q3)), .second, .unset, .unset, .unset] [])) rfl (hb hby at_59) (by decide) (by decide)
  obtain ⟨b16, g16⟩ : ∃ z, z = T5.heap.size := ⟨_, rfl⟩
  rw [← g16] at A16 D16 st16
  have g_b16 : n0 ≤ b16 := Nat.le_trans Z5 (Nat.le_of_eq g16.symm)
  have sz_b16 : h0.size ≤ b16 := Nat.le_trans Kp7.1 (Nat.le_of_eq g16.symm)
  have ne_b1_b16 : b1 ≠ b16 := Nat.ne_of_lt (Nat.lt_of_lt_of_le Ef6.lt (Nat.le_of_eq g16.symm))
  have Ef17 := Ef6.ext E16
  have Ff18 := Fl5_0.ext E16
  have Ff19 := Fl5_1.ext E16
  have Ff20 := Fl5_2.ext E16
  have Z16 : n0 ≤ h16.size := Nat.le_trans Z5 E16.1
  have Kp21 : Keep h0 h16 [] := Kp7.ext E16
  have F_documents_b16 : Fld Z h16 b16 "com/example/termwright/termwright/PostingsStreams" "documents" "J" (.long (0 : Int64)) := D16 (Or.inr (hw _ (List.mem_of_getElem? (i := 15) rfl))) (ty := .long) (by decide)
  have F_positions_b16 : Fld Z h16 b16 "com/example/termwright/termwright/PostingsStreams" "positions" "J" (.long (0 : Int64)) := D16 (Or.inr (hw _ (List.mem_of_getElem? (i := 17) rfl))) (ty := .long) (by decide)
  have F_offsets_b16 : Fld Z h16 b16 "com/example/termwright/termwright/PostingsStreams" "offsets" "J" (.long (0 : Int64)) := D16 (Or.inr (hw _ (List.mem_of_getElem? (i := 19) rfl))) (ty := .long) (by decide)
  have ac22 : ∀ t, Steps p.tables e below (T16.setTop (mkF m 62 #[.val (.long q1), .second, .val (.long q2), .second, .val (.long q3), .second, .val (.long q4), .second, .val (.int p5), .val (.ref b1), .val (.long (own_sel (p5 &&& (1 : Int32)) q4 q1)), .second, .val (.long (own_sel (p5 &&& (2 : Int32)) q4 q2)), .second, .val (.long (own_sel (p5 &&& (4 : Int32)) q4 q3)), .second, .unset, .unset, .unset] [(.ref b16)])) t → Steps p.tables e below (s₁.setTop (entryFrame m #[(.long q1), (.long q2), (.long q3), (.long q4), (.int p5)] maxLocals)) t := fun t k => ac15 t (st16 t k)
  have ac23 : ∀ t, Steps p.tables e below (T16.setTop (mkF m 69 #[.val (.long q1), .second, .val (.long q2), .second, .val (.long q3), .second, .val (.long q4), .second, .val (.int p5), .val (.ref b1), .val (.long (own_sel (p5 &&& (1 : Int32)) q4 q1)), .second, .val (.long (own_sel (p5 &&& (2 : Int32)) q4 q2)), .second, .val (.long (own_sel (p5 &&& (4 : Int32)) q4 q3)), .second, .unset, .unset, .unset] [(.long (own_sel (p5 &&& (4 : Int32)) q4 q3)), (.long (own_sel (p5 &&& (2 : Int32)) q4 q2)), (.long (own_sel (p5 &&& (1 : Int32)) q4 q1)), (.ref b16), (.ref b16)])) t → Steps p.tables e below (s₁.setTop (entryFrame m #[(.long q1), (.long q2), (.long q3), (.long q4), (.int p5)] maxLocals)) t := fun t k => ac22 t (by
      show Steps p.tables e below (T16.setTop (mkF m 62 #[.val (.long q1), .second, .val (.long q2), .second, .val (.long q3), .second, .val (.long q4), .second, .val (.int p5), .val (.ref b1), .val (.long (own_sel (p5 &&& (1 : Int32)) q4 q1)), .second, .val (.long (own_sel (p5 &&& (2 : Int32)) q4 q2)), .second, .val (.long (own_sel (p5 &&& (4 : Int32)) q4 q3)), .second, .unset, .unset, .unset] [(.ref b16)])) _
      refine XS.dup X16.here hx rfl (hb hby at_62) rfl rfl ?_
      show Steps p.tables e below (T16.setTop (mkF m 63 #[.val (.long q1), .second, .val (.long q2), .second, .val (.long q3), .second, .val (.long q4), .second, .val (.int p5), .val (.ref b1), .val (.long (own_sel (p5 &&& (1 : Int32)) q4 q1)), .second, .val (.long (own_sel (p5 &&& (2 : Int32)) q4 q2)), .second, .val (.long (own_sel (p5 &&& (4 : Int32)) q4 q3)), .second, .unset, .unset, .unset] [(.ref b16), (.ref b16)])) _
      refine XS.lload X16.here hx rfl (hb hby at_63) rfl ?_
      show Steps p.tables e below (T16.setTop (mkF m 65 #[.val (.long q1), .second, .val (.long q2), .second, .val (.long q3), .second, .val (.long q4), .second, .val (.int p5), .val (.ref b1), .val (.long (own_sel (p5 &&& (1 : Int32)) q4 q1)), .second, .val (.long (own_sel (p5 &&& (2 : Int32)) q4 q2)), .second, .val (.long (own_sel (p5 &&& (4 : Int32)) q4 q3)), .second, .unset, .unset, .unset] [(.long (own_sel (p5 &&& (1 : Int32)) q4 q1)), (.ref b16), (.ref b16)])) _
      refine XS.lload X16.here hx rfl (hb hby at_65) rfl ?_
      show Steps p.tables e below (T16.setTop (mkF m 67 #[.val (.long q1), .second, .val (.long q2), .second, .val (.long q3), .second, .val (.long q4), .second, .val (.int p5), .val (.ref b1), .val (.long (own_sel (p5 &&& (1 : Int32)) q4 q1)), .second, .val (.long (own_sel (p5 &&& (2 : Int32)) q4 q2)), .second, .val (.long (own_sel (p5 &&& (4 : Int32)) q4 q3)), .second, .unset, .unset, .unset] [(.long (own_sel (p5 &&& (2 : Int32)) q4 q2)), (.long (own_sel (p5 &&& (1 : Int32)) q4 q1)), (.ref b16), (.ref b16)])) _
      refine XS.lload X16.here hx rfl (hb hby at_67) rfl ?_
      exact k)
  obtain ⟨_, _, ⟨T24, L24, k24, n24⟩, -, X24, ⟨Lc24, hQ24, l24, y24, z24⟩, st24⟩ := X16.specialBack hx (y := (⟨"com/example/termwright/termwright/PostingsStreams", "<init>", "(JJJ)V"⟩ : MethodName)) rfl hown (mvT hZ (hw _ (List.mem_of_getElem? (i := 3) rfl))) (mvT hZ (hw _ (List.mem_of_getElem? (i := 4) rfl))) (mvT hZ (hw _ (List.mem_of_getElem? (i := 5) rfl))) (by decide) (backOf (W := 1) (rm1 l Z a0 hw [] b16 (own_sel (p5 &&& (1 : Int32)) q4 q1) (own_sel (p5 &&& (2 : Int32)) q4 q2) (own_sel (p5 &&& (4 : Int32)) q4 q3)  h16 n0 Z16 A16 g_b16 F_documents_b16 F_positions_b16 F_offsets_b16) hZ (hw _ (List.mem_of_getElem? (i := 5) rfl)) (hw _ (List.mem_of_getElem? (i := 2) rfl)) (by decide) (by decide)) (g := (mkF m 69 #[.val (.long q1), .second, .val (.long q2), .second, .val (.long q3), .second, .val (.long q4), .second, .val (.int p5), .val (.ref b1), .val (.long (own_sel (p5 &&& (1 : Int32)) q4 q1)), .second, .val (.long (own_sel (p5 &&& (2 : Int32)) q4 q2)), .second, .val (.long (own_sel (p5 &&& (4 : Int32)) q4 q3)), .second, .unset, .unset, .unset] [(.long (own_sel (p5 &&& (4 : Int32)) q4 q3)), (.long (own_sel (p5 &&& (2 : Int32)) q4 q2)), (.long (own_sel (p5 &&& (1 : Int32)) q4 q1)), (.ref b16), (.ref b16)])) rfl (by rw [hml]; rfl) (Steps.refl _) (a := b16) (argsL := [(.long (own_sel (p5 &&& (1 : Int32)) q4 q1)), (.long (own_sel (p5 &&& (2 : Int32)) q4 q2)), (.long (own_sel (p5 &&& (4 : Int32)) q4 q3))]) (rest := [(.ref b16)]) (lenOf pd_0 rfl) rfl (by show 2 * 0 + _ ≤ _; exact Nat.le_of_eq rfl) (hb hby at_69) (fun _ _ => ⟨rfl, e16, (by decide : 2 + 0 ≤ _), (by decide : 6 + 0 ≤ _)⟩)
  dsimp only [Pt.U, Pt.locs, Pt.cells, Pt.slots] at X24 l24 y24 z24 st24 hQ24
  subst l24 y24 z24
  obtain ⟨rfl, N24q, K24q, Ex24, Fl24_0, Fl24_1, Fl24_2⟩ := hQ24
  have N24 := Fr.app N5 N24q
  have Ef25 := Ef17.keep K24q
  have Ff26 := Ff18.keep K24q (ninS ne_b1_b16 nin0)
  have Ff27 := Ff19.keep K24q (ninS ne_b1_b16 nin0)
  have Ff28 := Ff20.keep K24q (ninS ne_b1_b16 nin0)
  have Ef29 := A16.keep K24q
  have Z24 : n0 ≤ T24.heap.size := Nat.le_trans Z16 K24q.1
  have Kp30 : Keep h0 T24.heap [] := Kp21.trans K24q (allS (Or.inr sz_b16) all0)
  have ac31 : ∀ t, Steps p.tables e below (T24.setTop (mkF m 72 #[.val (.long q1), .second, .val (.long q2), .second, .val (.long q3), .second, .val (.long q4), .second, .val (.int p5), .val (.ref b1), .val (.long (own_sel (p5 &&& (1 : Int32)) q4 q1)), .second, .val (.long (own_sel (p5 &&& (2 : Int32)) q4 q2)), .second, .val (.long (own_sel (p5 &&& (4 : Int32)) q4 q3)), .second, .unset, .unset, .unset] [(.ref b16)])) t → Steps p.tables e below (s₁.setTop (entryFrame m #[(.long q1), (.long q2), (.long q3), (.long q4), (.int p5)] maxLocals)) t := fun t k => ac23 t (st24.trans k)
  have ac32 : ∀ t, Steps p.tables e below (T24.setTop (mkF m 85 #[.val (.long q1), .second, .val (.long q2), .second, .val (.long q3), .second, .val (.long q4), .second, .val (.int p5), .val (.ref b1), .val (.long (own_sel (p5 &&& (1 : Int32)) q4 q1)), .second, .val (.long (own_sel (p5 &&& (2 : Int32)) q4 q2)), .second, .val (.long (own_sel (p5 &&& (4 : Int32)) q4 q3)), .second, .val (.ref b16), .val (.int (((p5.toUInt32 >>> ((3 : Int32) &&& 31).toUInt32).toInt32) &&& (3 : Int32))), .unset] [(.int (2 : Int32)), (.int (((p5.toUInt32 >>> ((3 : Int32) &&& 31).toUInt32).toInt32) &&& (3 : Int32)))])) t → Steps p.tables e below (s₁.setTop (entryFrame m #[(.long q1), (.long q2), (.long q3), (.long q4), (.int p5)] maxLocals)) t := fun t k => ac31 t (by
      show Steps p.tables e below (T24.setTop (mkF m 72 #[.val (.long q1), .second, .val (.long q2), .second, .val (.long q3), .second, .val (.long q4), .second, .val (.int p5), .val (.ref b1), .val (.long (own_sel (p5 &&& (1 : Int32)) q4 q1)), .second, .val (.long (own_sel (p5 &&& (2 : Int32)) q4 q2)), .second, .val (.long (own_sel (p5 &&& (4 : Int32)) q4 q3)), .second, .unset, .unset, .unset] [(.ref b16)])) _
      refine XS.astore X24.here hx rfl (hb hby at_72) rfl rfl (l' := #[.val (.long q1), .second, .val (.long q2), .second, .val (.long q3), .second, .val (.long q4), .second, .val (.int p5), .val (.ref b1), .val (.long (own_sel (p5 &&& (1 : Int32)) q4 q1)), .second, .val (.long (own_sel (p5 &&& (2 : Int32)) q4 q2)), .second, .val (.long (own_sel (p5 &&& (4 : Int32)) q4 q3)), .second, .val (.ref b16), .unset, .unset]) rfl ?_
      show Steps p.tables e below (T24.setTop (mkF m 74 #[.val (.long q1), .second, .val (.long q2), .second, .val (.long q3), .second, .val (.long q4), .second, .val (.int p5), .val (.ref b1), .val (.long (own_sel (p5 &&& (1 : Int32)) q4 q1)), .second, .val (.long (own_sel (p5 &&& (2 : Int32)) q4 q2)), .second, .val (.long (own_sel (p5 &&& (4 : Int32)) q4 q3)), .second, .val (.ref b16), .unset, .unset] [])) _
      refine XS.iload X24.here hx rfl (hb hby at_74) rfl ?_
      show Steps p.tables e below (T24.setTop (mkF m 76 #[.val (.long q1), .second, .val (.long q2), .second, .val (.long q3), .second, .val (.long q4), .second, .val (.int p5), .val (.ref b1), .val (.long (own_sel (p5 &&& (1 : Int32)) q4 q1)), .second, .val (.long (own_sel (p5 &&& (2 : Int32)) q4 q2)), .second, .val (.long (own_sel (p5 &&& (4 : Int32)) q4 q3)), .second, .val (.ref b16), .unset, .unset] [(.int p5)])) _
      refine XS.iconst X24.here hx rfl (hb hby at_76) ?_
      show Steps p.tables e below (T24.setTop (mkF m 77 #[.val (.long q1), .second, .val (.long q2), .second, .val (.long q3), .second, .val (.long q4), .second, .val (.int p5), .val (.ref b1), .val (.long (own_sel (p5 &&& (1 : Int32)) q4 q1)), .second, .val (.long (own_sel (p5 &&& (2 : Int32)) q4 q2)), .second, .val (.long (own_sel (p5 &&& (4 : Int32)) q4 q3)), .second, .val (.ref b16), .unset, .unset] [(.int (3 : Int32)), (.int p5)])) _
      refine XS.iushr X24.here hx rfl (hb hby at_77) rfl ?_
      show Steps p.tables e below (T24.setTop (mkF m 78 #[.val (.long q1), .second, .val (.long q2), .second, .val (.long q3), .second, .val (.long q4), .second, .val (.int p5), .val (.ref b1), .val (.long (own_sel (p5 &&& (1 : Int32)) q4 q1)), .second, .val (.long (own_sel (p5 &&& (2 : Int32)) q4 q2)), .second, .val (.long (own_sel (p5 &&& (4 : Int32)) q4 q3)), .second, .val (.ref b16), .unset, .unset] [(.int ((p5.toUInt32 >>> ((3 : Int32) &&& 31).toUInt32).toInt32))])) _
      refine XS.iconst X24.here hx rfl (hb hby at_78) ?_
      show Steps p.tables e below (T24.setTop (mkF m 79 #[.val (.long q1), .second, .val (.long q2), .second, .val (.long q3), .second, .val (.long q4), .second, .val (.int p5), .val (.ref b1), .val (.long (own_sel (p5 &&& (1 : Int32)) q4 q1)), .second, .val (.long (own_sel (p5 &&& (2 : Int32)) q4 q2)), .second, .val (.long (own_sel (p5 &&& (4 : Int32)) q4 q3)), .second, .val (.ref b16), .unset, .unset] [(.int (3 : Int32)), (.int ((p5.toUInt32 >>> ((3 : Int32) &&& 31).toUInt32).toInt32))])) _
      refine XS.iand X24.here hx rfl (hb hby at_79) rfl ?_
      show Steps p.tables e below (T24.setTop (mkF m 80 #[.val (.long q1), .second, .val (.long q2), .second, .val (.long q3), .second, .val (.long q4), .second, .val (.int p5), .val (.ref b1), .val (.long (own_sel (p5 &&& (1 : Int32)) q4 q1)), .second, .val (.long (own_sel (p5 &&& (2 : Int32)) q4 q2)), .second, .val (.long (own_sel (p5 &&& (4 : Int32)) q4 q3)), .second, .val (.ref b16), .unset, .unset] [(.int (((p5.toUInt32 >>> ((3 : Int32) &&& 31).toUInt32).toInt32) &&& (3 : Int32)))])) _
      refine XS.istore X24.here hx rfl (hb hby at_80) rfl (l' := #[.val (.long q1), .second, .val (.long q2), .second, .val (.long q3), .second, .val (.long q4), .second, .val (.int p5), .val (.ref b1), .val (.long (own_sel (p5 &&& (1 : Int32)) q4 q1)), .second, .val (.long (own_sel (p5 &&& (2 : Int32)) q4 q2)), .second, .val (.long (own_sel (p5 &&& (4 : Int32)) q4 q3)), .second, .val (.ref b16), .val (.int (((p5.toUInt32 >>> ((3 : Int32) &&& 31).toUInt32).toInt32) &&& (3 : Int32))), .unset]) rfl ?_
      show Steps p.tables e below (T24.setTop (mkF m 82 #[.val (.long q1), .second, .val (.long q2), .second, .val (.long q3), .second, .val (.long q4), .second, .val (.int p5), .val (.ref b1), .val (.long (own_sel (p5 &&& (1 : Int32)) q4 q1)), .second, .val (.long (own_sel (p5 &&& (2 : Int32)) q4 q2)), .second, .val (.long (own_sel (p5 &&& (4 : Int32)) q4 q3)), .second, .val (.ref b16), .val (.int (((p5.toUInt32 >>> ((3 : Int32) &&& 31).toUInt32).toInt32) &&& (3 : Int32))), .unset] [])) _
      refine XS.iload X24.here hx rfl (hb hby at_82) rfl ?_
      show Steps p.tables e below (T24.setTop (mkF m 84 #[.val (.long q1), .second, .val (.long q2), .second, .val (.long q3), .second, .val (.long q4), .second, .val (.int p5), .val (.ref b1), .val (.long (own_sel (p5 &&& (1 : Int32)) q4 q1)), .second, .val (.long (own_sel (p5 &&& (2 : Int32)) q4 q2)), .second, .val (.long (own_sel (p5 &&& (4 : Int32)) q4 q3)), .second, .val (.ref b16), .val (.int (((p5.toUInt32 >>> ((3 : Int32) &&& 31).toUInt32).toInt32) &&& (3 : Int32))), .unset] [(.int (((p5.toUInt32 >>> ((3 : Int32) &&& 31).toUInt32).toInt32) &&& (3 : Int32)))])) _
      refine XS.iconst X24.here hx rfl (hb hby at_84) ?_
      exact k)
  by_cases h2 : (((p5.toUInt32 >>> ((3 : Int32) &&& 31).toUInt32).toInt32) &&& (3 : Int32)) = (2 : Int32)
  ·
    have ac33 : ∀ t, Steps p.tables e below (T24.setTop (mkF m 91 #[.val (.long q1), .second, .val (.long q2), .second, .val (.long q3), .second, .val (.long q4), .second, .val (.int p5), .val (.ref b1), .val (.long (own_sel (p5 &&& (1 : Int32)) q4 q1)), .second, .val (.long (own_sel (p5 &&& (2 : Int32)) q4 q2)), .second, .val (.long (own_sel (p5 &&& (4 : Int32)) q4 q3)), .second, .val (.ref b16), .val (.int (((p5.toUInt32 >>> ((3 : Int32) &&& 31).toUInt32).toInt32) &&& (3 : Int32))), .unset] [.null, (.ref b1)])) t → Steps p.tables e below (s₁.setTop (entryFrame m #[(.long q1), (.long q2), (.long q3), (.long q4), (.int p5)] maxLocals)) t := fun t k => ac32 t (by
        show Steps p.tables e below (T24.setTop (mkF m 85 #[.val (.long q1), .second, .val (.long q2), .second, .val (.long q3), .second, .val (.long q4), .second, .val (.int p5), .val (.ref b1), .val (.long (own_sel (p5 &&& (1 : Int32)) q4 q1)), .second, .val (.long (own_sel (p5 &&& (2 : Int32)) q4 q2)), .second, .val (.long (own_sel (p5 &&& (4 : Int32)) q4 q3)), .second, .val (.ref b16), .val (.int (((p5.toUInt32 >>> ((3 : Int32) &&& 31).toUInt32).toInt32) &&& (3 : Int32))), .unset] [(.int (2 : Int32)), (.int (((p5.toUInt32 >>> ((3 : Int32) &&& 31).toUInt32).toInt32) &&& (3 : Int32)))])) _
        refine XS.icmpNo X24.here hx rfl (hb hby at_85) rfl (teq h2).2 ?_
        show Steps p.tables e below (T24.setTop (mkF m 88 #[.val (.long q1), .second, .val (.long q2), .second, .val (.long q3), .second, .val (.long q4), .second, .val (.int p5), .val (.ref b1), .val (.long (own_sel (p5 &&& (1 : Int32)) q4 q1)), .second, .val (.long (own_sel (p5 &&& (2 : Int32)) q4 q2)), .second, .val (.long (own_sel (p5 &&& (4 : Int32)) q4 q3)), .second, .val (.ref b16), .val (.int (((p5.toUInt32 >>> ((3 : Int32) &&& 31).toUInt32).toInt32) &&& (3 : Int32))), .unset] [])) _
        refine XS.aload X24.here hx rfl (hb hby at_88) rfl rfl ?_
        show Steps p.tables e below (T24.setTop (mkF m 90 #[.val (.long q1), .second, .val (.long q2), .second, .val (.long q3), .second, .val (.long q4), .second, .val (.int p5), .val (.ref b1), .val (.long (own_sel (p5 &&& (1 : Int32)) q4 q1)), .second, .val (.long (own_sel (p5 &&& (2 : Int32)) q4 q2)), .second, .val (.long (own_sel (p5 &&& (4 : Int32)) q4 q3)), .second, .val (.ref b16), .val (.int (((p5.toUInt32 >>> ((3 : Int32) &&& 31).toUInt32).toInt32) &&& (3 : Int32))), .unset] [(.ref b1)])) _
        refine XS.aconstNull X24.here hx rfl (hb hby at_90) ?_
        exact k)
    obtain ⟨cq34, kq34, q34a, q34b, q34c⟩ := isOf hZ rfl Ef25
    obtain ⟨_, _, ⟨T34, L34, k34, n34⟩, -, X34, ⟨Lc34, hQ34, l34, y34, z34⟩, st34⟩ := X24.virtualBack hx (y := (⟨"com/example/termwright/termwright/PostingsStreams", "equals", "(Ljava/lang/Object;)Z"⟩ : MethodName)) (z := (⟨"com/example/termwright/termwright/PostingsStreams", "equals", "(Ljava/lang/Object;)Z"⟩ : MethodName)) hown (mvT hZ (hw _ (List.mem_of_getElem? (i := 20) rfl))) (mvT hZ (hw _ (List.mem_of_getElem? (i := 21) rfl))) (notFace_of_selects (args := #[]) (mvT hZ (hw _ (List.mem_of_getElem? (i := 23) rfl)))) (mvT hZ (hw _ (List.mem_of_getElem? (i := 23) rfl))) (mvT hZ (hw _ (List.mem_of_getElem? (i := 22) rfl))) (by decide) (backOf (W := 0) (rm4n l Z a0 hw [] b1  T24.heap n0 Z24 ) hZ (hw _ (List.mem_of_getElem? (i := 24) rfl)) (hw _ (List.mem_of_getElem? (i := 2) rfl)) (by decide) (by decide)) q34a q34c (g := (mkF m 91 #[.val (.long q1), .second, .val (.long q2), .second, .val (.long q3), .second, .val (.long q4), .second, .val (.int p5), .val (.ref b1), .val (.long (own_sel (p5 &&& (1 : Int32)) q4 q1)), .second, .val (.long (own_sel (p5 &&& (2 : Int32)) q4 q2)), .second, .val (.long (own_sel (p5 &&& (4 : Int32)) q4 q3)), .second, .val (.ref b16), .val (.int (((p5.toUInt32 >>> ((3 : Int32) &&& 31).toUInt32).toInt32) &&& (3 : Int32))), .unset] [.null, (.ref b1)])) rfl (by rw [hml]; rfl) (Steps.refl _) (argsL := [.null]) (rest := []) (lenOf pd_2 rfl) rfl (by show 2 * 0 + _ ≤ _; exact Nat.le_of_eq rfl) (hb hby at_91) (fun _ _ => ⟨rfl, rfl, (by decide : 2 + 0 ≤ _), (by decide : 6 + 0 ≤ _)⟩)
    dsimp only [Pt.U, Pt.locs, Pt.cells, Pt.slots] at X34 l34 y34 z34 st34 hQ34
    subst l34 y34 z34
    obtain ⟨rfl, N34q, Qe34⟩ := hQ34
    have N34 := Fr.app N24 N34q
    have ac35 : ∀ t, Steps p.tables e below (T34.setTop (mkF m 94 #[.val (.long q1), .second, .val (.long q2), .second, .val (.long q3), .second, .val (.long q4), .second, .val (.int p5), .val (.ref b1), .val (.long (own_sel (p5 &&& (1 : Int32)) q4 q1)), .second, .val (.long (own_sel (p5 &&& (2 : Int32)) q4 q2)), .second, .val (.long (own_sel (p5 &&& (4 : Int32)) q4 q3)), .second, .val (.ref b16), .val (.int (((p5.toUInt32 >>> ((3 : Int32) &&& 31).toUInt32).toInt32) &&& (3 : Int32))), .unset] [(.int (0 : Int32))])) t → Steps p.tables e below (s₁.setTop (entryFrame m #[(.long q1), (.long q2), (.long q3), (.long q4), (.int p5)] maxLocals)) t := fun t k => ac33 t (st34.trans k)
    have ac36 : ∀ t, Steps p.tables e below (T34.setTop (mkF m 102 #[.val (.long q1), .second, .val (.long q2), .second, .val (.long q3), .second, .val (.long q4), .second, .val (.int p5), .val (.ref b1), .val (.long (own_sel (p5 &&& (1 : Int32)) q4 q1)), .second, .val (.long (own_sel (p5 &&& (2 : Int32)) q4 q2)), .second, .val (.long (own_sel (p5 &&& (4 : Int32)) q4 q3)), .second, .val (.ref b16), .val (.int (((p5.toUInt32 >>> ((3 : Int32) &&& 31).toUInt32).toInt32) &&& (3 : Int32))), .unset] [(.int (1 : Int32))])) t → Steps p.tables e below (s₁.setTop (entryFrame m #[(.long q1), (.long q2), (.long q3), (.long q4), (.int p5)] maxLocals)) t := fun t k => ac35 t (by
        show Steps p.tables e below (T34.setTop (mkF m 94 #[.val (.long q1), .second, .val (.long q2), .second, .val (.long q3), .second, .val (.long q4), .second, .val (.int p5), .val (.ref b1), .val (.long (own_sel (p5 &&& (1 : Int32)) q4 q1)), .second, .val (.long (own_sel (p5 &&& (2 : Int32)) q4 q2)), .second, .val (.long (own_sel (p5 &&& (4 : Int32)) q4 q3)), .second, .val (.ref b16), .val (.int (((p5.toUInt32 >>> ((3 : Int32) &&& 31).toUInt32).toInt32) &&& (3 : Int32))), .unset] [(.int (0 : Int32))])) _
        refine XS.ifNo X34.here hx rfl (hb hby at_94) rfl ((if0 _ _).trans (teq rfl).2) ?_
        show Steps p.tables e below (T34.setTop (mkF m 97 #[.val (.long q1), .second, .val (.long q2), .second, .val (.long q3), .second, .val (.long q4), .second, .val (.int p5), .val (.ref b1), .val (.long (own_sel (p5 &&& (1 : Int32)) q4 q1)), .second, .val (.long (own_sel (p5 &&& (2 : Int32)) q4 q2)), .second, .val (.long (own_sel (p5 &&& (4 : Int32)) q4 q3)), .second, .val (.ref b16), .val (.int (((p5.toUInt32 >>> ((3 : Int32) &&& 31).toUInt32).toInt32) &&& (3 : Int32))), .unset] [])) _
        refine XS.iconst X34.here hx rfl (hb hby at_97) ?_
        show Steps p.tables e below (T34.setTop (mkF m 98 #[.val (.long q1), .second, .val (.long q2), .second, .val (.long q3), .second, .val (.long q4), .second, .val (.int p5), .val (.ref b1), .val (.long (own_sel (p5 &&& (1 : Int32)) q4 q1)), .second, .val (.long (own_sel (p5 &&& (2 : Int32)) q4 q2)), .second, .val (.long (own_sel (p5 &&& (4 : Int32)) q4 q3)), .second, .val (.ref b16), .val (.int (((p5.toUInt32 >>> ((3 : Int32) &&& 31).toUInt32).toInt32) &&& (3 : Int32))), .unset] [(.int (1 : Int32))])) _
        refine XS.goto X34.here hx rfl (pc0 := 98) (pc' := 102) rfl (hb hby at_98) (by decide) (by decide) ?_
        exact k)
    obtain ⟨fs, hr, hrun, hended, hW, hsame⟩ := X34.leave (v := some (.int (1 : Int32))) (fun h => by rw [Bd.returns] at h; cases h) (BodyLoose.notSynchronized Bd)
    refine ⟨_, _, ac36 _ ?_, hrun, hended, _, _, rfl, ?_, ⟨_, rfl⟩, hW, hsame.mono (by decide) (by decide)⟩
    · show Steps p.tables e below (T34.setTop (mkF m 102 #[.val (.long q1), .second, .val (.long q2), .second, .val (.long q3), .second, .val (.long q4), .second, .val (.int p5), .val (.ref b1), .val (.long (own_sel (p5 &&& (1 : Int32)) q4 q1)), .second, .val (.long (own_sel (p5 &&& (2 : Int32)) q4 q2)), .second, .val (.long (own_sel (p5 &&& (4 : Int32)) q4 q3)), .second, .val (.ref b16), .val (.int (((p5.toUInt32 >>> ((3 : Int32) &&& 31).toUInt32).toInt32) &&& (3 : Int32))), .unset] [(.int (1 : Int32))])) _
      exact retN X34 hx (t := .boolean) Bd.returns (by simp) (hb hby at_102) hr
    · show Q0 Z q1 q2 q3 q4 p5 cA bf h0 n0 _ T34.heap _
      rw [Qe34]
      exact ⟨rfl, N34⟩
  ·
    have ac37 : ∀ t, Steps p.tables e below (T24.setTop (mkF m 106 #[.val (.long q1), .second, .val (.long q2), .second, .val (.long q3), .second, .val (.long q4), .second, .val (.int p5), .val (.ref b1), .val (.long (own_sel (p5 &&& (1 : Int32)) q4 q1)), .second, .val (.long (own_sel (p5 &&& (2 : Int32)) q4 q2)), .second, .val (.long (own_sel (p5 &&& (4 : Int32)) q4 q3)), .second, .val (.ref b16), .val (.int (((p5.toUInt32 >>> ((3 : Int32) &&& 31).toUInt32).toInt32) &&& (3 : Int32))), .unset] [(.int (3 : Int32)), (.int (((p5.toUInt32 >>> ((3 : Int32) &&& 31).toUInt32).toInt32) &&& (3 : Int32)))])) t → Steps p.tables e below (s₁.setTop (entryFrame m #[(.long q1), (.long q2), (.long q3), (.long q4), (.int p5)] maxLocals)) t := fun t k => ac32 t (by
        show Steps p.tables e below (T24.setTop (mkF m 85 #[.val (.long q1), .second, .val (.long q2), .second, .val (.long q3), .second, .val (.long q4), .second, .val (.int p5), .val (.ref b1), .val (.long (own_sel (p5 &&& (1 : Int32)) q4 q1)), .second, .val (.long (own_sel (p5 &&& (2 : Int32)) q4 q2)), .second, .val (.long (own_sel (p5 &&& (4 : Int32)) q4 q3)), .second, .val (.ref b16), .val (.int (((p5.toUInt32 >>> ((3 : Int32) &&& 31).toUInt32).toInt32) &&& (3 : Int32))), .unset] [(.int (2 : Int32)), (.int (((p5.toUInt32 >>> ((3 : Int32) &&& 31).toUInt32).toInt32) &&& (3 : Int32)))])) _
        refine XS.icmpYes X24.here hx rfl (pc0 := 85) (pc' := 103) rfl (hb hby at_85) rfl (feq h2).2 (by decide) (by decide) ?_
        show Steps p.tables e below (T24.setTop (mkF m 103 #[.val (.long q1), .second, .val (.long q2), .second, .val (.long q3), .second, .val (.long q4), .second, .val (.int p5), .val (.ref b1), .val (.long (own_sel (p5 &&& (1 : Int32)) q4 q1)), .second, .val (.long (own_sel (p5 &&& (2 : Int32)) q4 q2)), .second, .val (.long (own_sel (p5 &&& (4 : Int32)) q4 q3)), .second, .val (.ref b16), .val (.int (((p5.toUInt32 >>> ((3 : Int32) &&& 31).toUInt32).toInt32) &&& (3 : Int32))), .unset] [])) _
        refine XS.iload X24.here hx rfl (hb hby at_103) rfl ?_
        show Steps p.tables e below (T24.setTop (mkF m 105 #[.val (.long q1), .second, .val (.long q2), .second, .val (.long q3), .second, .val (.long q4), .second, .val (.int p5), .val (.ref b1), .val (.long (own_sel (p5 &&& (1 : Int32)) q4 q1)), .second, .val (.long (own_sel (p5 &&& (2 : Int32)) q4 q2)), .second, .val (.long (own_sel (p5 &&& (4 : Int32)) q4 q3)), .second, .val (.ref b16), .val (.int (((p5.toUInt32 >>> ((3 : Int32) &&& 31).toUInt32).toInt32) &&& (3 : Int32))), .unset] [(.int (((p5.toUInt32 >>> ((3 : Int32) &&& 31).toUInt32).toInt32) &&& (3 : Int32)))])) _
        refine XS.iconst X24.here hx rfl (hb hby at_105) ?_
        exact k)
    by_cases h3 : (((p5.toUInt32 >>> ((3 : Int32) &&& 31).toUInt32).toInt32) &&& (3 : Int32)) = (3 : Int32)
    ·
      have ac38 : ∀ t, Steps p.tables e below (T24.setTop (mkF m 110 #[.val (.long q1), .second, .val (.long q2), .second, .val (.long q3), .second, .val (.long q4), .second, .val (.int p5), .val (.ref b1), .val (.long (own_sel (p5 &&& (1 : Int32)) q4 q1)), .second, .val (.long (own_sel (p5 &&& (2 : Int32)) q4 q2)), .second, .val (.long (own_sel (p5 &&& (4 : Int32)) q4 q3)), .second, .val (.ref b16), .val (.int (((p5.toUInt32 >>> ((3 : Int32) &&& 31).toUInt32).toInt32) &&& (3 : Int32))), .unset] [(.long q1)])) t → Steps p.tables e below (s₁.setTop (entryFrame m #[(.long q1), (.long q2), (.long q3), (.long q4), (.int p5)] maxLocals)) t := fun t k => ac37 t (by
          show Steps p.tables e below (T24.setTop (mkF m 106 #[.val (.long q1), .second, .val (.long q2), .second, .val (.long q3), .second, .val (.long q4), .second, .val (.int p5), .val (.ref b1), .val (.long (own_sel (p5 &&& (1 : Int32)) q4 q1)), .second, .val (.long (own_sel (p5 &&& (2 : Int32)) q4 q2)), .second, .val (.long (own_sel (p5 &&& (4 : Int32)) q4 q3)), .second, .val (.ref b16), .val (.int (((p5.toUInt32 >>> ((3 : Int32) &&& 31).toUInt32).toInt32) &&& (3 : Int32))), .unset] [(.int (3 : Int32)), (.int (((p5.toUInt32 >>> ((3 : Int32) &&& 31).toUInt32).toInt32) &&& (3 : Int32)))])) _
          refine XS.icmpNo X24.here hx rfl (hb hby at_106) rfl (teq h3).2 ?_
          show Steps p.tables e below (T24.setTop (mkF m 109 #[.val (.long q1), .second, .val (.long q2), .second, .val (.long q3), .second, .val (.long q4), .second, .val (.int p5), .val (.ref b1), .val (.long (own_sel (p5 &&& (1 : Int32)) q4 q1)), .second, .val (.long (own_sel (p5 &&& (2 : Int32)) q4 q2)), .second, .val (.long (own_sel (p5 &&& (4 : Int32)) q4 q3)), .second, .val (.ref b16), .val (.int (((p5.toUInt32 >>> ((3 : Int32) &&& 31).toUInt32).toInt32) &&& (3 : Int32))), .unset] [])) _
          refine XS.lloadN X24.here hx rfl (hb hby at_109) rfl ?_
          exact k)
      obtain ⟨_, _, ⟨T39, L39, k39, n39⟩, -, X39, ⟨Lc39, hQ39, l39, y39, z39⟩, st39⟩ := Jvm.LawKit.callS X24 hx (y := (⟨"java/lang/Long", "valueOf", "(J)Ljava/lang/Long;"⟩ : MethodName)) hown (mvT hZ (hw _ (List.mem_of_getElem? (i := 27) rfl))) (mvT hZ (hw _ (List.mem_of_getElem? (i := 28) rfl))) (mvT hZ (hw _ (List.mem_of_getElem? (i := 29) rfl))) (mvT hZ (hw _ (List.mem_of_getElem? (i := 30) rfl))) (by decide) (backOf (W := 0) (rm5 l Z a0 hw [] q1 cA bf T24.heap n0 Z24 (own_Sta_keep Sc Kp30) (Vc.keep Kp30 nin0) (fun i hi => (Ec i hi).keep Kp30)) hZ (hw _ (List.mem_of_getElem? (i := 30) rfl)) (hw _ (List.mem_of_getElem? (i := 29) rfl)) (by decide) (by decide)) (g := (mkF m 110 #[.val (.long q1), .second, .val (.long q2), .second, .val (.long q3), .second, .val (.long q4), .second, .val (.int p5), .val (.ref b1), .val (.long (own_sel (p5 &&& (1 : Int32)) q4 q1)), .second, .val (.long (own_sel (p5 &&& (2 : Int32)) q4 q2)), .second, .val (.long (own_sel (p5 &&& (4 : Int32)) q4 q3)), .second, .val (.ref b16), .val (.int (((p5.toUInt32 >>> ((3 : Int32) &&& 31).toUInt32).toInt32) &&& (3 : Int32))), .unset] [(.long q1)])) rfl (by rw [hml]; rfl) (argsL := [(.long q1)]) (rest := []) (lenOf pd_3 rfl) rfl (by show 2 * 0 + _ ≤ _; exact Nat.le_of_eq rfl) (hb hby at_110) (fun _ _ => ⟨rfl, rfl, (by decide : 2 + 1 ≤ _), (by decide : 6 + 1 ≤ _)⟩)
      dsimp only [Pt.U, Pt.locs, Pt.cells, Pt.slots] at X39 l39 y39 z39 st39 hQ39
      subst l39 y39 z39
      obtain ⟨r39, rfl, N39q, K39q, Er39⟩ := hQ39
      have N39 := Fr.app N24 N39q
      have Ef40 := Ef25.keep K39q
      have Ff41 := Ff26.keep K39q nin0
      have Ff42 := Ff27.keep K39q nin0
      have Ff43 := Ff28.keep K39q nin0
      have Ef44 := Ef29.keep K39q
      have Ff45 := Fl24_0.keep K39q nin0
      have Ff46 := Fl24_1.keep K39q nin0
      have Ff47 := Fl24_2.keep K39q nin0
      have Z39 : n0 ≤ T39.heap.size := Nat.le_trans Z24 K39q.1
      have Kp48 : Keep h0 T39.heap [] := Kp30.trans K39q all0
      have ac49 : ∀ t, Steps p.tables e below (T39.setTop (mkF m 113 #[.val (.long q1), .second, .val (.long q2), .second, .val (.long q3), .second, .val (.long q4), .second, .val (.int p5), .val (.ref b1), .val (.long (own_sel (p5 &&& (1 : Int32)) q4 q1)), .second, .val (.long (own_sel (p5 &&& (2 : Int32)) q4 q2)), .second, .val (.long (own_sel (p5 &&& (4 : Int32)) q4 q3)), .second, .val (.ref b16), .val (.int (((p5.toUInt32 >>> ((3 : Int32) &&& 31).toUInt32).toInt32) &&& (3 : Int32))), .unset] [(.ref r39)])) t → Steps p.tables e below (s₁.setTop (entryFrame m #[(.long q1), (.long q2), (.long q3), (.long q4), (.int p5)] maxLocals)) t := fun t k => ac38 t (st39 t k)
      have ac50 : ∀ t, Steps p.tables e below (T39.setTop (mkF m 119 #[.val (.long q1), .second, .val (.long q2), .second, .val (.long q3), .second, .val (.long q4), .second, .val (.int p5), .val (.ref b1), .val (.long (own_sel (p5 &&& (1 : Int32)) q4 q1)), .second, .val (.long (own_sel (p5 &&& (2 : Int32)) q4 q2)), .second, .val (.long (own_sel (p5 &&& (4 : Int32)) q4 q3)), .second, .val (.ref b16), .val (.int (((p5.toUInt32 >>> ((3 : Int32) &&& 31).toUInt32).toInt32) &&& (3 : Int32))), .val (.ref r39)] [(.ref r39), (.ref b1)])) t → Steps p.tables e below (s₁.setTop (entryFrame m #[(.long q1), (.long q2), (.long q3), (.long q4), (.int p5)] maxLocals)) t := fun t k => ac49 t (by
          show Steps p.tables e below (T39.setTop (mkF m 113 #[.val (.long q1), .second, .val (.long q2), .second, .val (.long q3), .second, .val (.long q4), .second, .val (.int p5), .val (.ref b1), .val (.long (own_sel (p5 &&& (1 : Int32)) q4 q1)), .second, .val (.long (own_sel (p5 &&& (2 : Int32)) q4 q2)), .second, .val (.long (own_sel (p5 &&& (4 : Int32)) q4 q3)), .second, .val (.ref b16), .val (.int (((p5.toUInt32 >>> ((3 : Int32) &&& 31).toUInt32).toInt32) &&& (3 : Int32))), .unset] [(.ref r39)])) _
          refine XS.astore X39.here hx rfl (hb hby at_113) rfl rfl (l' := #[.val (.long q1), .second, .val (.long q2), .second, .val (.long q3), .second, .val (.long q4), .second, .val (.int p5), .val (.ref b1), .val (.long (own_sel (p5 &&& (1 : Int32)) q4 q1)), .second, .val (.long (own_sel (p5 &&& (2 : Int32)) q4 q2)), .second, .val (.long (own_sel (p5 &&& (4 : Int32)) q4 q3)), .second, .val (.ref b16), .val (.int (((p5.toUInt32 >>> ((3 : Int32) &&& 31).toUInt32).toInt32) &&& (3 : Int32))), .val (.ref r39)]) rfl ?_
          show Steps p.tables e below (T39.setTop (mkF m 115 #[.val (.long q1), .second, .val (.long q2), .second, .val (.long q3), .second, .val (.long q4), .second, .val (.int p5), .val (.ref b1), .val (.long (own_sel (p5 &&& (1 : Int32)) q4 q1)), .second, .val (.long (own_sel (p5 &&& (2 : Int32)) q4 q2)), .second, .val (.long (own_sel (p5 &&& (4 : Int32)) q4 q3)), .second, .val (.ref b16), .val (.int (((p5.toUInt32 >>> ((3 : Int32) &&& 31).toUInt32).toInt32) &&& (3 : Int32))), .val (.ref r39)] [])) _
          refine XS.aload X39.here hx rfl (hb hby at_115) rfl rfl ?_
          show Steps p.tables e below (T39.setTop (mkF m 117 #[.val (.long q1), .second, .val (.long q2), .second, .val (.long q3), .second, .val (.long q4), .second, .val (.int p5), .val (.ref b1), .val (.long (own_sel (p5 &&& (1 : Int32)) q4 q1)), .second, .val (.long (own_sel (p5 &&& (2 : Int32)) q4 q2)), .second, .val (.long (own_sel (p5 &&& (4 : Int32)) q4 q3)), .second, .val (.ref b16), .val (.int (((p5.toUInt32 >>> ((3 : Int32) &&& 31).toUInt32).toInt32) &&& (3 : Int32))), .val (.ref r39)] [(.ref b1)])) _
          refine XS.aload X39.here hx rfl (hb hby at_117) rfl rfl ?_
          exact k)
      obtain ⟨cq51, kq51, q51a, q51b, q51c⟩ := isOf hZ rfl Ef40
      obtain ⟨_, _, ⟨T51, L51, k51, n51⟩, -, X51, ⟨Lc51, hQ51, l51, y51, z51⟩, st51⟩ := X39.virtualBack hx (y := (⟨"com/example/termwright/termwright/PostingsStreams", "equals", "(Ljava/lang/Object;)Z"⟩ : MethodName)) (z := (⟨"com/example/termwright/termwright/PostingsStreams", "equals", "(Ljava/lang/Object;)Z"⟩ : MethodName)) hown (mvT hZ (hw _ (List.mem_of_getElem? (i := 20) rfl))) (mvT hZ (hw _ (List.mem_of_getElem? (i := 21) rfl))) (notFace_of_selects (args := #[]) (mvT hZ (hw _ (List.mem_of_getElem? (i := 23) rfl)))) (mvT hZ (hw _ (List.mem_of_getElem? (i := 23) rfl))) (mvT hZ (hw _ (List.mem_of_getElem? (i := 22) rfl))) (by decide) (backOf (W := 0) (rm4L l Z a0 hw [] b1 r39  T39.heap n0 Z39 Er39) hZ (hw _ (List.mem_of_getElem? (i := 24) rfl)) (hw _ (List.mem_of_getElem? (i := 2) rfl)) (by decide) (by decide)) q51a q51c (g := (mkF m 119 #[.val (.long q1), .second, .val (.long q2), .second, .val (.long q3), .second, .val (.long q4), .second, .val (.int p5), .val (.ref b1), .val (.long (own_sel (p5 &&& (1 : Int32)) q4 q1)), .second, .val (.long (own_sel (p5 &&& (2 : Int32)) q4 q2)), .second, .val (.long (own_sel (p5 &&& (4 : Int32)) q4 q3)), .second, .val (.ref b16), .val (.int (((p5.toUInt32 >>> ((3 : Int32) &&& 31).toUInt32).toInt32) &&& (3 : Int32))), .val (.ref r39)] [(.ref r39), (.ref b1)])) rfl (by rw [hml]; rfl) (Steps.refl _) (argsL := [(.ref r39)]) (rest := []) (lenOf pd_2 rfl) rfl (by show 2 * 0 + _ ≤ _; exact Nat.le_of_eq rfl) (hb hby at_119) (fun _ _ => ⟨rfl, rfl, (by decide : 3 + 0 ≤ _), (by decide : 7 + 0 ≤ _)⟩)
      dsimp only [Pt.U, Pt.locs, Pt.cells, Pt.slots] at X51 l51 y51 z51 st51 hQ51
      subst l51 y51 z51
      obtain ⟨rfl, N51q, Qe51⟩ := hQ51
      have N51 := Fr.app N39 N51q
      have ac52 : ∀ t, Steps p.tables e below (T51.setTop (mkF m 122 #[.val (.long q1), .second, .val (.long q2), .second, .val (.long q3), .second, .val (.long q4), .second, .val (.int p5), .val (.ref b1), .val (.long (own_sel (p5 &&& (1 : Int32)) q4 q1)), .second, .val (.long (own_sel (p5 &&& (2 : Int32)) q4 q2)), .second, .val (.long (own_sel (p5 &&& (4 : Int32)) q4 q3)), .second, .val (.ref b16), .val (.int (((p5.toUInt32 >>> ((3 : Int32) &&& 31).toUInt32).toInt32) &&& (3 : Int32))), .val (.ref r39)] [(.int (0 : Int32))])) t → Steps p.tables e below (s₁.setTop (entryFrame m #[(.long q1), (.long q2), (.long q3), (.long q4), (.int p5)] maxLocals)) t := fun t k => ac50 t (st51.trans k)
      have ac53 : ∀ t, Steps p.tables e below (T51.setTop (mkF m 130 #[.val (.long q1), .second, .val (.long q2), .second, .val (.long q3), .second, .val (.long q4), .second, .val (.int p5), .val (.ref b1), .val (.long (own_sel (p5 &&& (1 : Int32)) q4 q1)), .second, .val (.long (own_sel (p5 &&& (2 : Int32)) q4 q2)), .second, .val (.long (own_sel (p5 &&& (4 : Int32)) q4 q3)), .second, .val (.ref b16), .val (.int (((p5.toUInt32 >>> ((3 : Int32) &&& 31).toUInt32).toInt32) &&& (3 : Int32))), .val (.ref r39)] [(.int (1 : Int32))])) t → Steps p.tables e below (s₁.setTop (entryFrame m #[(.long q1), (.long q2), (.long q3), (.long q4), (.int p5)] maxLocals)) t := fun t k => ac52 t (by
          show Steps p.tables e below (T51.setTop (mkF m 122 #[.val (.long q1), .second, .val (.long q2), .second, .val (.long q3), .second, .val (.long q4), .second, .val (.int p5), .val (.ref b1), .val (.long (own_sel (p5 &&& (1 : Int32)) q4 q1)), .second, .val (.long (own_sel (p5 &&& (2 : Int32)) q4 q2)), .second, .val (.long (own_sel (p5 &&& (4 : Int32)) q4 q3)), .second, .val (.ref b16), .val (.int (((p5.toUInt32 >>> ((3 : Int32) &&& 31).toUInt32).toInt32) &&& (3 : Int32))), .val (.ref r39)] [(.int (0 : Int32))])) _
          refine XS.ifNo X51.here hx rfl (hb hby at_122) rfl ((if0 _ _).trans (teq rfl).2) ?_
          show Steps p.tables e below (T51.setTop (mkF m 125 #[.val (.long q1), .second, .val (.long q2), .second, .val (.long q3), .second, .val (.long q4), .second, .val (.int p5), .val (.ref b1), .val (.long (own_sel (p5 &&& (1 : Int32)) q4 q1)), .second, .val (.long (own_sel (p5 &&& (2 : Int32)) q4 q2)), .second, .val (.long (own_sel (p5 &&& (4 : Int32)) q4 q3)), .second, .val (.ref b16), .val (.int (((p5.toUInt32 >>> ((3 : Int32) &&& 31).toUInt32).toInt32) &&& (3 : Int32))), .val (.ref r39)] [])) _
          refine XS.iconst X51.here hx rfl (hb hby at_125) ?_
          show Steps p.tables e below (T51.setTop (mkF m 126 #[.val (.long q1), .second, .val (.long q2), .second, .val (.long q3), .second, .val (.long q4), .second, .val (.int p5), .val (.ref b1), .val (.long (own_sel (p5 &&& (1 : Int32)) q4 q1)), .second, .val (.long (own_sel (p5 &&& (2 : Int32)) q4 q2)), .second, .val (.long (own_sel (p5 &&& (4 : Int32)) q4 q3)), .second, .val (.ref b16), .val (.int (((p5.toUInt32 >>> ((3 : Int32) &&& 31).toUInt32).toInt32) &&& (3 : Int32))), .val (.ref r39)] [(.int (1 : Int32))])) _
          refine XS.goto X51.here hx rfl (pc0 := 126) (pc' := 130) rfl (hb hby at_126) (by decide) (by decide) ?_
          exact k)
      obtain ⟨fs, hr, hrun, hended, hW, hsame⟩ := X51.leave (v := some (.int (1 : Int32))) (fun h => by rw [Bd.returns] at h; cases h) (BodyLoose.notSynchronized Bd)
      refine ⟨_, _, ac53 _ ?_, hrun, hended, _, _, rfl, ?_, ⟨_, rfl⟩, hW, hsame.mono (by decide) (by decide)⟩
      · show Steps p.tables e below (T51.setTop (mkF m 130 #[.val (.long q1), .second, .val (.long q2), .second, .val (.long q3), .second, .val (.long q4), .second, .val (.int p5), .val (.ref b1), .val (.long (own_sel (p5 &&& (1 : Int32)) q4 q1)), .second, .val (.long (own_sel (p5 &&& (2 : Int32)) q4 q2)), .second, .val (.long (own_sel (p5 &&& (4 : Int32)) q4 q3)), .second, .val (.ref b16), .val (.int (((p5.toUInt32 >>> ((3 : Int32) &&& 31).toUInt32).toInt32) &&& (3 : Int32))), .val (.ref r39)] [(.int (1 : Int32))])) _
        exact retN X51 hx (t := .boolean) Bd.returns (by simp) (hb hby at_130) hr
      · show Q0 Z q1 q2 q3 q4 p5 cA bf h0 n0 _ T51.heap _
        rw [Qe51]
        exact ⟨rfl, N51⟩
    ·
      have ac54 : ∀ t, Steps p.tables e below (T24.setTop (mkF m 135 #[.val (.long q1), .second, .val (.long q2), .second, .val (.long q3), .second, .val (.long q4), .second, .val (.int p5), .val (.ref b1), .val (.long (own_sel (p5 &&& (1 : Int32)) q4 q1)), .second, .val (.long (own_sel (p5 &&& (2 : Int32)) q4 q2)), .second, .val (.long (own_sel (p5 &&& (4 : Int32)) q4 q3)), .second, .val (.ref b16), .val (.int (((p5.toUInt32 >>> ((3 : Int32) &&& 31).toUInt32).toInt32) &&& (3 : Int32))), .unset] [(.int (lcmpW (own_sel (p5 &&& (1 : Int32)) q4 q1) q1))])) t → Steps p.tables e below (s₁.setTop (entryFrame m #[(.long q1), (.long q2), (.long q3), (.long q4), (.int p5)] maxLocals)) t := fun t k => ac37 t (by
          show Steps p.tables e below (T24.setTop (mkF m 106 #[.val (.long q1), .second, .val (.long q2), .second, .val (.long q3), .second, .val (.long q4), .second, .val (.int p5), .val (.ref b1), .val (.long (own_sel (p5 &&& (1 : Int32)) q4 q1)), .second, .val (.long (own_sel (p5 &&& (2 : Int32)) q4 q2)), .second, .val (.long (own_sel (p5 &&& (4 : Int32)) q4 q3)), .second, .val (.ref b16), .val (.int (((p5.toUInt32 >>> ((3 : Int32) &&& 31).toUInt32).toInt32) &&& (3 : Int32))), .unset] [(.int (3 : Int32)), (.int (((p5.toUInt32 >>> ((3 : Int32) &&& 31).toUInt32).toInt32) &&& (3 : Int32)))])) _
          refine XS.icmpYes X24.here hx rfl (pc0 := 106) (pc' := 131) rfl (hb hby at_106) rfl (feq h3).2 (by decide) (by decide) ?_
          show Steps p.tables e below (T24.setTop (mkF m 131 #[.val (.long q1), .second, .val (.long q2), .second, .val (.long q3), .second, .val (.long q4), .second, .val (.int p5), .val (.ref b1), .val (.long (own_sel (p5 &&& (1 : Int32)) q4 q1)), .second, .val (.long (own_sel (p5 &&& (2 : Int32)) q4 q2)), .second, .val (.long (own_sel (p5 &&& (4 : Int32)) q4 q3)), .second, .val (.ref b16), .val (.int (((p5.toUInt32 >>> ((3 : Int32) &&& 31).toUInt32).toInt32) &&& (3 : Int32))), .unset] [])) _
          refine XS.lload X24.here hx rfl (hb hby at_131) rfl ?_
          show Steps p.tables e below (T24.setTop (mkF m 133 #[.val (.long q1), .second, .val (.long q2), .second, .val (.long q3), .second, .val (.long q4), .second, .val (.int p5), .val (.ref b1), .val (.long (own_sel (p5 &&& (1 : Int32)) q4 q1)), .second, .val (.long (own_sel (p5 &&& (2 : Int32)) q4 q2)), .second, .val (.long (own_sel (p5 &&& (4 : Int32)) q4 q3)), .second, .val (.ref b16), .val (.int (((p5.toUInt32 >>> ((3 : Int32) &&& 31).toUInt32).toInt32) &&& (3 : Int32))), .unset] [(.long (own_sel (p5 &&& (1 : Int32)) q4 q1))])) _
          refine XS.lloadN X24.here hx rfl (hb hby at_133) rfl ?_
          show Steps p.tables e below (T24.setTop (mkF m 134 #[.val (.long q1), .second, .val (.long q2), .second, .val (.long q3), .second, .val (.long q4), .second, .val (.int p5), .val (.ref b1), .val (.long (own_sel (p5 &&& (1 : Int32)) q4 q1)), .second, .val (.long (own_sel (p5 &&& (2 : Int32)) q4 q2)), .second, .val (.long (own_sel (p5 &&& (4 : Int32)) q4 q3)), .second, .val (.ref b16), .val (.int (((p5.toUInt32 >>> ((3 : Int32) &&& 31).toUInt32).toInt32) &&& (3 : Int32))), .unset] [(.long q1), (.long (own_sel (p5 &&& (1 : Int32)) q4 q1))])) _
          refine XS.lcmp X24.here hx rfl (hb hby at_134) rfl ?_
          exact k)
      have ac55 : ∀ t, Steps p.tables e below (T24.setTop (mkF m 158 #[.val (.long q1), .second, .val (.long q2), .second, .val (.long q3), .second, .val (.long q4), .second, .val (.int p5), .val (.ref b1), .val (.long (own_sel (p5 &&& (1 : Int32)) q4 q1)), .second, .val (.long (own_sel (p5 &&& (2 : Int32)) q4 q2)), .second, .val (.long (own_sel (p5 &&& (4 : Int32)) q4 q3)), .second, .val (.ref b16), .val (.int (((p5.toUInt32 >>> ((3 : Int32) &&& 31).toUInt32).toInt32) &&& (3 : Int32))), .unset] [(.int (own_eq3 (own_sel (p5 &&& (1 : Int32)) q4 q1) q1 (own_sel (p5 &&& (2 : Int32)) q4 q2) q2 (own_sel (p5 &&& (4 : Int32)) q4 q3) q3))])) t → Steps p.tables e below (s₁.setTop (entryFrame m #[(.long q1), (.long q2), (.long q3), (.long q4), (.int p5)] maxLocals)) t := fun t k => ac54 t (by
          by_cases e1 : (own_sel (p5 &&& (1 : Int32)) q4 q1) = q1
          ·
            show Steps p.tables e below (T24.setTop (mkF m 135 #[.val (.long q1), .second, .val (.long q2), .second, .val (.long q3), .second, .val (.long q4), .second, .val (.int p5), .val (.ref b1), .val (.long (own_sel (p5 &&& (1 : Int32)) q4 q1)), .second, .val (.long (own_sel (p5 &&& (2 : Int32)) q4 q2)), .second, .val (.long (own_sel (p5 &&& (4 : Int32)) q4 q3)), .second, .val (.ref b16), .val (.int (((p5.toUInt32 >>> ((3 : Int32) &&& 31).toUInt32).toInt32) &&& (3 : Int32))), .unset] [(.int (lcmpW (own_sel (p5 &&& (1 : Int32)) q4 q1) q1))])) _
            refine XS.ifNo X24.here hx rfl (hb hby at_135) rfl ((if0 _ _).trans (teq ((lw_eq _ _).mpr e1)).2) ?_
            show Steps p.tables e below (T24.setTop (mkF m 138 #[.val (.long q1), .second, .val (.long q2), .second, .val (.long q3), .second, .val (.long q4), .second, .val (.int p5), .val (.ref b1), .val (.long (own_sel (p5 &&& (1 : Int32)) q4 q1)), .second, .val (.long (own_sel (p5 &&& (2 : Int32)) q4 q2)), .second, .val (.long (own_sel (p5 &&& (4 : Int32)) q4 q3)), .second, .val (.ref b16), .val (.int (((p5.toUInt32 >>> ((3 : Int32) &&& 31).toUInt32).toInt32) &&& (3 : Int32))), .unset] [])) _
            refine XS.lload X24.here hx rfl (hb hby at_138) rfl ?_
            show Steps p.tables e below (T24.setTop (mkF m 140 #[.val (.long q1), .second, .val (.long q2), .second, .val (.long q3), .second, .val (.long q4), .second, .val (.int p5), .val (.ref b1), .val (.long (own_sel (p5 &&& (1 : Int32)) q4 q1)), .second, .val (.long (own_sel (p5 &&& (2 : Int32)) q4 q2)), .second, .val (.long (own_sel (p5 &&& (4 : Int32)) q4 q3)), .second, .val (.ref b16), .val (.int (((p5.toUInt32 >>> ((3 : Int32) &&& 31).toUInt32).toInt32) &&& (3 : Int32))), .unset] [(.long (own_sel (p5 &&& (2 : Int32)) q4 q2))])) _
            refine XS.lloadN X24.here hx rfl (hb hby at_140) rfl ?_
            show Steps p.tables e below (T24.setTop (mkF m 141 #[.val (.long q1), .second, .val (.long q2), .second, .val (.long q3), .second, .val (.long q4), .second, .val (.int p5), .val (.ref b1), .val (.long (own_sel (p5 &&& (1 : Int32)) q4 q1)), .second, .val (.long (own_sel (p5 &&& (2 : Int32)) q4 q2)), .second, .val (.long (own_sel (p5 &&& (4 : Int32)) q4 q3)), .second, .val (.ref b16), .val (.int (((p5.toUInt32 >>> ((3 : Int32) &&& 31).toUInt32).toInt32) &&& (3 : Int32))), .unset] [(.long q2), (.long (own_sel (p5 &&& (2 : Int32)) q4 q2))])) _
            refine XS.lcmp X24.here hx rfl (hb hby at_141) rfl ?_
            by_cases e2 : (own_sel (p5 &&& (2 : Int32)) q4 q2) = q2
            ·
              show Steps p.tables e below (T24.setTop (mkF m 142 #[.val (.long q1), .second, .val (.long q2), .second, .val (.long q3), .second, .val (.long q4), .second, .val (.int p5), .val (.ref b1), .val (.long (own_sel (p5 &&& (1 : Int32)) q4 q1)), .second, .val (.long (own_sel (p5 &&& (2 : Int32)) q4 q2)), .second, .val (.long (own_sel (p5 &&& (4 : Int32)) q4 q3)), .second, .val (.ref b16), .val (.int (((p5.toUInt32 >>> ((3 : Int32) &&& 31).toUInt32).toInt32) &&& (3 : Int32))), .unset] [(.int (lcmpW (own_sel (p5 &&& (2 : Int32)) q4 q2) q2))])) _
              refine XS.ifNo X24.here hx rfl (hb hby at_142) rfl ((if0 _ _).trans (teq ((lw_eq _ _).mpr e2)).2) ?_
              show Steps p.tables e below (T24.setTop (mkF m 145 #[.val (.long q1), .second, .val (.long q2), .second, .val (.long q3), .second, .val (.long q4), .second, .val (.int p5), .val (.ref b1), .val (.long (own_sel (p5 &&& (1 : Int32)) q4 q1)), .second, .val (.long (own_sel (p5 &&& (2 : Int32)) q4 q2)), .second, .val (.long (own_sel (p5 &&& (4 : Int32)) q4 q3)), .second, .val (.ref b16), .val (.int (((p5.toUInt32 >>> ((3 : Int32) &&& 31).toUInt32).toInt32) &&& (3 : Int32))), .unset] [])) _
              refine XS.lload X24.here hx rfl (hb hby at_145) rfl ?_
              show Steps p.tables e below (T24.setTop (mkF m 147 #[.val (.long q1), .second, .val (.long q2), .second, .val (.long q3), .second, .val (.long q4), .second, .val (.int p5), .val (.ref b1), .val (.long (own_sel (p5 &&& (1 : Int32)) q4 q1)), .second, .val (.long (own_sel (p5 &&& (2 : Int32)) q4 q2)), .second, .val (.long (own_sel (p5 &&& (4 : Int32)) q4 q3)), .second, .val (.ref b16), .val (.int (((p5.toUInt32 >>> ((3 : Int32) &&& 31).toUInt32).toInt32) &&& (3 : Int32))), .unset] [(.long (own_sel (p5 &&& (4 : Int32)) q4 q3))])) _
              refine XS.lload X24.here hx rfl (hb hby at_147) rfl ?_
              show Steps p.tables e below (T24.setTop (mkF m 149 #[.val (.long q1), .second, .val (.long q2), .second, .val (.long q3), .second, .val (.long q4), .second, .val (.int p5), .val (.ref b1), .val (.long (own_sel (p5 &&& (1 : Int32)) q4 q1)), .second, .val (.long (own_sel (p5 &&& (2 : Int32)) q4 q2)), .second, .val (.long (own_sel (p5 &&& (4 : Int32)) q4 q3)), .second, .val (.ref b16), .val (.int (((p5.toUInt32 >>> ((3 : Int32) &&& 31).toUInt32).toInt32) &&& (3 : Int32))), .unset] [(.long q3), (.long (own_sel (p5 &&& (4 : Int32)) q4 q3))])) _
              refine XS.lcmp X24.here hx rfl (hb hby at_149) rfl ?_
              by_cases e3 : (own_sel (p5 &&& (4 : Int32)) q4 q3) = q3
              ·
                show Steps p.tables e below (T24.setTop (mkF m 150 #[.val (.long q1), .second, .val (.long q2), .second, .val (.long q3), .second, .val (.long q4), .second, .val (.int p5), .val (.ref b1), .val (.long (own_sel (p5 &&& (1 : Int32)) q4 q1)), .second, .val (.long (own_sel (p5 &&& (2 : Int32)) q4 q2)), .second, .val (.long (own_sel (p5 &&& (4 : Int32)) q4 q3)), .second, .val (.ref b16), .val (.int (((p5.toUInt32 >>> ((3 : Int32) &&& 31).toUInt32).toInt32) &&& (3 : Int32))), .unset] [(.int (lcmpW (own_sel (p5 &&& (4 : Int32)) q4 q3) q3))])) _
                refine XS.ifNo X24.here hx rfl (hb hby at_150) rfl ((if0 _ _).trans (teq ((lw_eq _ _).mpr e3)).2) ?_
                show Steps p.tables e below (T24.setTop (mkF m 153 #[.val (.long q1), .second, .val (.long q2), .second, .val (.long q3), .second, .val (.long q4), .second, .val (.int p5), .val (.ref b1), .val (.long (own_sel (p5 &&& (1 : Int32)) q4 q1)), .second, .val (.long (own_sel (p5 &&& (2 : Int32)) q4 q2)), .second, .val (.long (own_sel (p5 &&& (4 : Int32)) q4 q3)), .second, .val (.ref b16), .val (.int (((p5.toUInt32 >>> ((3 : Int32) &&& 31).toUInt32).toInt32) &&& (3 : Int32))), .unset] [])) _
                refine XS.iconst X24.here hx rfl (hb hby at_153) ?_
                show Steps p.tables e below (T24.setTop (mkF m 154 #[.val (.long q1), .second, .val (.long q2), .second, .val (.long q3), .second, .val (.long q4), .second, .val (.int p5), .val (.ref b1), .val (.long (own_sel (p5 &&& (1 : Int32)) q4 q1)), .second, .val (.long (own_sel (p5 &&& (2 : Int32)) q4 q2)), .second, .val (.long (own_sel (p5 &&& (4 : Int32)) q4 q3)), .second, .val (.ref b16), .val (.int (((p5.toUInt32 >>> ((3 : Int32) &&& 31).toUInt32).toInt32) &&& (3 : Int32))), .unset] [(.int (1 : Int32))])) _
                refine XS.goto X24.here hx rfl (pc0 := 154) (pc' := 158) rfl (hb hby at_154) (by decide) (by decide) ?_
                rw [own_eq3_t e1 e2 e3] at k; exact k
              ·
                show Steps p.tables e below (T24.setTop (mkF m 150 #[.val (.long q1), .second, .val (.long q2), .second, .val (.long q3), .second, .val (.long q4), .second, .val (.int p5), .val (.ref b1), .val (.long (own_sel (p5 &&& (1 : Int32)) q4 q1)), .second, .val (.long (own_sel (p5 &&& (2 : Int32)) q4 q2)), .second, .val (.long (own_sel (p5 &&& (4 : Int32)) q4 q3)), .second, .val (.ref b16), .val (.int (((p5.toUInt32 >>> ((3 : Int32) &&& 31).toUInt32).toInt32) &&& (3 : Int32))), .unset] [(.int (lcmpW (own_sel (p5 &&& (4 : Int32)) q4 q3) q3))])) _
                refine XS.ifYes X24.here hx rfl (pc0 := 150) (pc' := 157) rfl (hb hby at_150) rfl ((if0 _ _).trans (feq (mt (lw_eq _ _).mp e3)).2) (by decide) (by decide) ?_
                show Steps p.tables e below (T24.setTop (mkF m 157 #[.val (.long q1), .second, .val (.long q2), .second, .val (.long q3), .second, .val (.long q4), .second, .val (.int p5), .val (.ref b1), .val (.long (own_sel (p5 &&& (1 : Int32)) q4 q1)), .second, .val (.long (own_sel (p5 &&& (2 : Int32)) q4 q2)), .second, .val (.long (own_sel (p5 &&& (4 : Int32)) q4 q3)), .second, .val (.ref b16), .val (.int (((p5.toUInt32 >>> ((3 : Int32) &&& 31).toUInt32).toInt32) &&& (3 : Int32))), .unset] [])) _
                refine XS.iconst X24.here hx rfl (hb hby at_157) ?_
                rw [own_eq3_3 e3] at k; exact k
            ·
              show Steps p.tables e below (T24.setTop (mkF m 142 #[.val (.long q1), .second, .val (.long q2), .second, .val (.long q3), .second, .val (.long q4), .second, .val (.int p5), .val (.ref b1), .val (.long (own_sel (p5 &&& (1 : Int32)) q4 q1)), .second, .val (.long (own_sel (p5 &&& (2 : Int32)) q4 q2)), .second, .val (.long (own_sel (p5 &&& (4 : Int32)) q4 q3)), .second, .val (.ref b16), .val (.int (((p5.toUInt32 >>> ((3 : Int32) &&& 31).toUInt32).toInt32) &&& (3 : Int32))), .unset] [(.int (lcmpW (own_sel (p5 &&& (2 : Int32)) q4 q2) q2))])) _
              refine XS.ifYes X24.here hx rfl (pc0 := 142) (pc' := 157) rfl (hb hby at_142) rfl ((if0 _ _).trans (feq (mt (lw_eq _ _).mp e2)).2) (by decide) (by decide) ?_
              show Steps p.tables e below (T24.setTop (mkF m 157 #[.val (.long q1), .second, .val (.long q2), .second, .val (.long q3), .second, .val (.long q4), .second, .val (.int p5), .val (.ref b1), .val (.long (own_sel (p5 &&& (1 : Int32)) q4 q1)), .second, .val (.long (own_sel (p5 &&& (2 : Int32)) q4 q2)), .second, .val (.long (own_sel (p5 &&& (4 : Int32)) q4 q3)), .second, .val (.ref b16), .val (.int (((p5.toUInt32 >>> ((3 : Int32) &&& 31).toUInt32).toInt32) &&& (3 : Int32))), .unset] [])) _
              refine XS.iconst X24.here hx rfl (hb hby at_157) ?_
              rw [own_eq3_2 e2] at k; exact k
          ·
            show Steps p.tables e below (T24.setTop (mkF m 135 #[.val (.long q1), .second, .val (.long q2), .second, .val (.long q3), .second, .val (.long q4), .second, .val (.int p5), .val (.ref b1), .val (.long (own_sel (p5 &&& (1 : Int32)) q4 q1)), .second, .val (.long (own_sel (p5 &&& (2 : Int32)) q4 q2)), .second, .val (.long (own_sel (p5 &&& (4 : Int32)) q4 q3)), .second, .val (.ref b16), .val (.int (((p5.toUInt32 >>> ((3 : Int32) &&& 31).toUInt32).toInt32) &&& (3 : Int32))), .unset] [(.int (lcmpW (own_sel (p5 &&& (1 : Int32)) q4 q1) q1))])) _
            refine XS.ifYes X24.here hx rfl (pc0 := 135) (pc' := 157) rfl (hb hby at_135) rfl ((if0 _ _).trans (feq (mt (lw_eq _ _).mp e1)).2) (by decide) (by decide) ?_
            show Steps p.tables e below (T24.setTop (mkF m 157 #[.val (.long q1), .second, .val (.long q2), .second, .val (.long q3), .second, .val (.long q4), .second, .val (.int p5), .val (.ref b1), .val (.long (own_sel (p5 &&& (1 : Int32)) q4 q1)), .second, .val (.long (own_sel (p5 &&& (2 : Int32)) q4 q2)), .second, .val (.long (own_sel (p5 &&& (4 : Int32)) q4 q3)), .second, .val (.ref b16), .val (.int (((p5.toUInt32 >>> ((3 : Int32) &&& 31).toUInt32).toInt32) &&& (3 : Int32))), .unset] [])) _
            refine XS.iconst X24.here hx rfl (hb hby at_157) ?_
            rw [own_eq3_1 e1] at k; exact k)
      have ac56 : ∀ t, Steps p.tables e below (T24.setTop (mkF m 164 #[.val (.long q1), .second, .val (.long q2), .second, .val (.long q3), .second, .val (.long q4), .second, .val (.int p5), .val (.ref b1), .val (.long (own_sel (p5 &&& (1 : Int32)) q4 q1)), .second, .val (.long (own_sel (p5 &&& (2 : Int32)) q4 q2)), .second, .val (.long (own_sel (p5 &&& (4 : Int32)) q4 q3)), .second, .val (.ref b16), .val (.int (((p5.toUInt32 >>> ((3 : Int32) &&& 31).toUInt32).toInt32) &&& (3 : Int32))), .val (.int (own_eq3 (own_sel (p5 &&& (1 : Int32)) q4 q1) q1 (own_sel (p5 &&& (2 : Int32)) q4 q2) q2 (own_sel (p5 &&& (4 : Int32)) q4 q3) q3))] [(.ref b16), (.ref b1)])) t → Steps p.tables e below (s₁.setTop (entryFrame m #[(.long q1), (.long q2), (.long q3), (.long q4), (.int p5)] maxLocals)) t := fun t k => ac55 t (by
          show Steps p.tables e below (T24.setTop (mkF m 158 #[.val (.long q1), .second, .val (.long q2), .second, .val (.long q3), .second, .val (.long q4), .second, .val (.int p5), .val (.ref b1), .val (.long (own_sel (p5 &&& (1 : Int32)) q4 q1)), .second, .val (.long (own_sel (p5 &&& (2 : Int32)) q4 q2)), .second, .val (.long (own_sel (p5 &&& (4 : Int32)) q4 q3)), .second, .val (.ref b16), .val (.int (((p5.toUInt32 >>> ((3 : Int32) &&& 31).toUInt32).toInt32) &&& (3 : Int32))), .unset] [(.int (own_eq3 (own_sel (p5 &&& (1 : Int32)) q4 q1) q1 (own_sel (p5 &&& (2 : Int32)) q4 q2) q2 (own_sel (p5 &&& (4 : Int32)) q4 q3) q3))])) _
          refine XS.istore X24.here hx rfl (hb hby at_158) rfl (l' := #[.val (.long q1), .second, .val (.long q2), .second, .val (.long q3), .second, .val (.long q4), .second, .val (.int p5), .val (.ref b1), .val (.long (own_sel (p5 &&& (1 : Int32)) q4 q1)), .second, .val (.long (own_sel (p5 &&& (2 : Int32)) q4 q2)), .second, .val (.long (own_sel (p5 &&& (4 : Int32)) q4 q3)), .second, .val (.ref b16), .val (.int (((p5.toUInt32 >>> ((3 : Int32) &&& 31).toUInt32).toInt32) &&& (3 : Int32))), .val (.int (own_eq3 (own_sel (p5 &&& (1 : Int32)) q4 q1) q1 (own_sel (p5 &&& (2 : Int32)) q4 q2) q2 (own_sel (p5 &&& (4 : Int32)) q4 q3) q3))]) rfl ?_
          show Steps p.tables e below (T24.setTop (mkF m 160 #[.val (.long q1), .second, .val (.long q2), .second, .val (.long q3), .second, .val (.long q4), .second, .val (.int p5), .val (.ref b1), .val (.long (own_sel (p5 &&& (1 : Int32)) q4 q1)), .second, .val (.long (own_sel (p5 &&& (2 : Int32)) q4 q2)), .second, .val (.long (own_sel (p5 &&& (4 : Int32)) q4 q3)), .second, .val (.ref b16), .val (.int (((p5.toUInt32 >>> ((3 : Int32) &&& 31).toUInt32).toInt32) &&& (3 : Int32))), .val (.int (own_eq3 (own_sel (p5 &&& (1 : Int32)) q4 q1) q1 (own_sel (p5 &&& (2 : Int32)) q4 q2) q2 (own_sel (p5 &&& (4 : Int32)) q4 q3) q3))] [])) _
          refine XS.aload X24.here hx rfl (hb hby at_160) rfl rfl ?_
          show Steps p.tables e below (T24.setTop (mkF m 162 #[.val (.long q1), .second, .val (.long q2), .second, .val (.long q3), .second, .val (.long q4), .second, .val (.int p5), .val (.ref b1), .val (.long (own_sel (p5 &&& (1 : Int32)) q4 q1)), .second, .val (.long (own_sel (p5 &&& (2 : Int32)) q4 q2)), .second, .val (.long (own_sel (p5 &&& (4 : Int32)) q4 q3)), .second, .val (.ref b16), .val (.int (((p5.toUInt32 >>> ((3 : Int32) &&& 31).toUInt32).toInt32) &&& (3 : Int32))), .val (.int (own_eq3 (own_sel (p5 &&& (1 : Int32)) q4 q1) q1 (own_sel (p5 &&& (2 : Int32)) q4 q2) q2 (own_sel (p5 &&& (4 : Int32)) q4 q3) q3))] [(.ref b1)])) _
          refine XS.aload X24.here hx rfl (hb hby at_162) rfl rfl ?_
          exact k)
      obtain ⟨cq57, kq57, q57a, q57b, q57c⟩ := isOf hZ rfl Ef25
      obtain ⟨_, _, ⟨T57, L57, k57, n57⟩, -, X57, ⟨Lc57, hQ57, l57, y57, z57⟩, st57⟩ := X24.virtualBack hx (y := (⟨"com/example/termwright/termwright/PostingsStreams", "equals", "(Ljava/lang/Object;)Z"⟩ : MethodName)) (z := (⟨"com/example/termwright/termwright/PostingsStreams", "equals", "(Ljava/lang/Object;)Z"⟩ : MethodName)) hown (mvT hZ (hw _ (List.mem_of_getElem? (i := 20) rfl))) (mvT hZ (hw _ (List.mem_of_getElem? (i := 21) rfl))) (notFace_of_selects (args := #[]) (mvT hZ (hw _ (List.mem_of_getElem? (i := 23) rfl)))) (mvT hZ (hw _ (List.mem_of_getElem? (i := 23) rfl))) (mvT hZ (hw _ (List.mem_of_getElem? (i := 22) rfl))) (by decide) (backOf (W := 0) (rm4 l Z a0 hw [] b1 b16 _ _ _ _ _ _ T24.heap n0 Z24 Ef29 Ff26 Fl24_0 Ff27 Fl24_1 Ff28 Fl24_2) hZ (hw _ (List.mem_of_getElem? (i := 24) rfl)) (hw _ (List.mem_of_getElem? (i := 2) rfl)) (by decide) (by decide)) q57a q57c (g := (mkF m 164 #[.val (.long q1), .second, .val (.long q2), .second, .val (.long q3), .second, .val (.long q4), .second, .val (.int p5), .val (.ref b1), .val (.long (own_sel (p5 &&& (1 : Int32)) q4 q1)), .second, .val (.long (own_sel (p5 &&& (2 : Int32)) q4 q2)), .second, .val (.long (own_sel (p5 &&& (4 : Int32)) q4 q3)), .second, .val (.ref b16), .val (.int (((p5.toUInt32 >>> ((3 : Int32) &&& 31).toUInt32).toInt32) &&& (3 : Int32))), .val (.int (own_eq3 (own_sel (p5 &&& (1 : Int32)) q4 q1) q1 (own_sel (p5 &&& (2 : Int32)) q4 q2) q2 (own_sel (p5 &&& (4 : Int32)) q4 q3) q3))] [(.ref b16), (.ref b1)])) rfl (by rw [hml]; rfl) (Steps.refl _) (argsL := [(.ref b16)]) (rest := []) (lenOf pd_2 rfl) rfl (by show 2 * 0 + _ ≤ _; exact Nat.le_of_eq rfl) (hb hby at_164) (fun _ _ => ⟨rfl, rfl, (by decide : 2 + 0 ≤ _), (by decide : 6 + 0 ≤ _)⟩)
      dsimp only [Pt.U, Pt.locs, Pt.cells, Pt.slots] at X57 l57 y57 z57 st57 hQ57
      subst l57 y57 z57
      obtain ⟨rfl, N57q, Qe57⟩ := hQ57
      have N57 := Fr.app N24 N57q
      have ac58 : ∀ t, Steps p.tables e below (T57.setTop (mkF m 167 #[.val (.long q1), .second, .val (.long q2), .second, .val (.long q3), .second, .val (.long q4), .second, .val (.int p5), .val (.ref b1), .val (.long (own_sel (p5 &&& (1 : Int32)) q4 q1)), .second, .val (.long (own_sel (p5 &&& (2 : Int32)) q4 q2)), .second, .val (.long (own_sel (p5 &&& (4 : Int32)) q4 q3)), .second, .val (.ref b16), .val (.int (((p5.toUInt32 >>> ((3 : Int32) &&& 31).toUInt32).toInt32) &&& (3 : Int32))), .val (.int (own_eq3 (own_sel (p5 &&& (1 : Int32)) q4 q1) q1 (own_sel (p5 &&& (2 : Int32)) q4 q2) q2 (own_sel (p5 &&& (4 : Int32)) q4 q3) q3))] [(.int (own_eq3 (own_sel (p5 &&& (1 : Int32)) q4 q1) q1 (own_sel (p5 &&& (2 : Int32)) q4 q2) q2 (own_sel (p5 &&& (4 : Int32)) q4 q3) q3))])) t → Steps p.tables e below (s₁.setTop (entryFrame m #[(.long q1), (.long q2), (.long q3), (.long q4), (.int p5)] maxLocals)) t := fun t k => ac56 t (st57.trans k)
      have ac59 : ∀ t, Steps p.tables e below (T57.setTop (mkF m 176 #[.val (.long q1), .second, .val (.long q2), .second, .val (.long q3), .second, .val (.long q4), .second, .val (.int p5), .val (.ref b1), .val (.long (own_sel (p5 &&& (1 : Int32)) q4 q1)), .second, .val (.long (own_sel (p5 &&& (2 : Int32)) q4 q2)), .second, .val (.long (own_sel (p5 &&& (4 : Int32)) q4 q3)), .second, .val (.ref b16), .val (.int (((p5.toUInt32 >>> ((3 : Int32) &&& 31).toUInt32).toInt32) &&& (3 : Int32))), .val (.int (own_eq3 (own_sel (p5 &&& (1 : Int32)) q4 q1) q1 (own_sel (p5 &&& (2 : Int32)) q4 q2) q2 (own_sel (p5 &&& (4 : Int32)) q4 q3) q3))] [(.ref b1), (.ref b16)])) t → Steps p.tables e below (s₁.setTop (entryFrame m #[(.long q1), (.long q2), (.long q3), (.long q4), (.int p5)] maxLocals)) t := fun t k => ac58 t (by
          show Steps p.tables e below (T57.setTop (mkF m 167 #[.val (.long q1), .second, .val (.long q2), .second, .val (.long q3), .second, .val (.long q4), .second, .val (.int p5), .val (.ref b1), .val (.long (own_sel (p5 &&& (1 : Int32)) q4 q1)), .second, .val (.long (own_sel (p5 &&& (2 : Int32)) q4 q2)), .second, .val (.long (own_sel (p5 &&& (4 : Int32)) q4 q3)), .second, .val (.ref b16), .val (.int (((p5.toUInt32 >>> ((3 : Int32) &&& 31).toUInt32).toInt32) &&& (3 : Int32))), .val (.int (own_eq3 (own_sel (p5 &&& (1 : Int32)) q4 q1) q1 (own_sel (p5 &&& (2 : Int32)) q4 q2) q2 (own_sel (p5 &&& (4 : Int32)) q4 q3) q3))] [(.int (own_eq3 (own_sel (p5 &&& (1 : Int32)) q4 q1) q1 (own_sel (p5 &&& (2 : Int32)) q4 q2) q2 (own_sel (p5 &&& (4 : Int32)) q4 q3) q3))])) _
          refine XS.iload X57.here hx rfl (hb hby at_167) rfl ?_
          show Steps p.tables e below (T57.setTop (mkF m 169 #[.val (.long q1), .second, .val (.long q2), .second, .val (.long q3), .second, .val (.long q4), .second, .val (.int p5), .val (.ref b1), .val (.long (own_sel (p5 &&& (1 : Int32)) q4 q1)), .second, .val (.long (own_sel (p5 &&& (2 : Int32)) q4 q2)), .second, .val (.long (own_sel (p5 &&& (4 : Int32)) q4 q3)), .second, .val (.ref b16), .val (.int (((p5.toUInt32 >>> ((3 : Int32) &&& 31).toUInt32).toInt32) &&& (3 : Int32))), .val (.int (own_eq3 (own_sel (p5 &&& (1 : Int32)) q4 q1) q1 (own_sel (p5 &&& (2 : Int32)) q4 q2) q2 (own_sel (p5 &&& (4 : Int32)) q4 q3) q3))] [(.int (own_eq3 (own_sel (p5 &&& (1 : Int32)) q4 q1) q1 (own_sel (p5 &&& (2 : Int32)) q4 q2) q2 (own_sel (p5 &&& (4 : Int32)) q4 q3) q3)), (.int (own_eq3 (own_sel (p5 &&& (1 : Int32)) q4 q1) q1 (own_sel (p5 &&& (2 : Int32)) q4 q2) q2 (own_sel (p5 &&& (4 : Int32)) q4 q3) q3))])) _
          refine XS.icmpNo X57.here hx rfl (hb hby at_169) rfl (teq rfl).2 ?_
          show Steps p.tables e below (T57.setTop (mkF m 172 #[.val (.long q1), .second, .val (.long q2), .second, .val (.long q3), .second, .val (.long q4), .second, .val (.int p5), .val (.ref b1), .val (.long (own_sel (p5 &&& (1 : Int32)) q4 q1)), .second, .val (.long (own_sel (p5 &&& (2 : Int32)) q4 q2)), .second, .val (.long (own_sel (p5 &&& (4 : Int32)) q4 q3)), .second, .val (.ref b16), .val (.int (((p5.toUInt32 >>> ((3 : Int32) &&& 31).toUInt32).toInt32) &&& (3 : Int32))), .val (.int (own_eq3 (own_sel (p5 &&& (1 : Int32)) q4 q1) q1 (own_sel (p5 &&& (2 : Int32)) q4 q2) q2 (own_sel (p5 &&& (4 : Int32)) q4 q3) q3))] [])) _
          refine XS.aload X57.here hx rfl (hb hby at_172) rfl rfl ?_
          show Steps p.tables e below (T57.setTop (mkF m 174 #[.val (.long q1), .second, .val (.long q2), .second, .val (.long q3), .second, .val (.long q4), .second, .val (.int p5), .val (.ref b1), .val (.long (own_sel (p5 &&& (1 : Int32)) q4 q1)), .second, .val (.long (own_sel (p5 &&& (2 : Int32)) q4 q2)), .second, .val (.long (own_sel (p5 &&& (4 : Int32)) q4 q3)), .second, .val (.ref b16), .val (.int (((p5.toUInt32 >>> ((3 : Int32) &&& 31).toUInt32).toInt32) &&& (3 : Int32))), .val (.int (own_eq3 (own_sel (p5 &&& (1 : Int32)) q4 q1) q1 (own_sel (p5 &&& (2 : Int32)) q4 q2) q2 (own_sel (p5 &&& (4 : Int32)) q4 q3) q3))] [(.ref b16)])) _
          refine XS.aload X57.here hx rfl (hb hby at_174) rfl rfl ?_
          exact k)
      obtain ⟨cq60, kq60, q60a, q60b, q60c⟩ := isOf hZ Qe57 Ef29
      obtain ⟨_, _, ⟨T60, L60, k60, n60⟩, -, X60, ⟨Lc60, hQ60, l60, y60, z60⟩, st60⟩ := X57.virtualBack hx (y := (⟨"com/example/termwright/termwright/PostingsStreams", "equals", "(Ljava/lang/Object;)Z"⟩ : MethodName)) (z := (⟨"com/example/termwright/termwright/PostingsStreams", "equals", "(Ljava/lang/Object;)Z"⟩ : MethodName)) hown (mvT hZ (hw _ (List.mem_of_getElem? (i := 20) rfl))) (mvT hZ (hw _ (List.mem_of_getElem? (i := 21) rfl))) (notFace_of_selects (args := #[]) (mvT hZ (hw _ (List.mem_of_getElem? (i := 23) rfl)))) (mvT hZ (hw _ (List.mem_of_getElem? (i := 23) rfl))) (mvT hZ (hw _ (List.mem_of_getElem? (i := 22) rfl))) (by decide) (backOf (W := 0) (rm4 l Z a0 hw [] b16 b1 _ _ _ _ _ _ T24.heap n0 Z24 Ef25 Fl24_0 Ff26 Fl24_1 Ff27 Fl24_2 Ff28) hZ (hw _ (List.mem_of_getElem? (i := 24) rfl)) (hw _ (List.mem_of_getElem? (i := 2) rfl)) (by decide) (by decide)) q60a q60c (g := (mkF m 176 #[.val (.long q1), .second, .val (.long q2), .second, .val (.long q3), .second, .val (.long q4), .second, .val (.int p5), .val (.ref b1), .val (.long (own_sel (p5 &&& (1 : Int32)) q4 q1)), .second, .val (.long (own_sel (p5 &&& (2 : Int32)) q4 q2)), .second, .val (.long (own_sel (p5 &&& (4 : Int32)) q4 q3)), .second, .val (.ref b16), .val (.int (((p5.toUInt32 >>> ((3 : Int32) &&& 31).toUInt32).toInt32) &&& (3 : Int32))), .val (.int (own_eq3 (own_sel (p5 &&& (1 : Int32)) q4 q1) q1 (own_sel (p5 &&& (2 : Int32)) q4 q2) q2 (own_sel (p5 &&& (4 : Int32)) q4 q3) q3))] [(.ref b1), (.ref b16)])) rfl (by rw [hml]; rfl) (Steps.refl _) (argsL := [(.ref b1)]) (rest := []) (lenOf pd_2 rfl) rfl (by show 2 * 0 + _ ≤ _; exact Nat.le_of_eq rfl) (hb hby at_176) (fun _ _ => ⟨rfl, Qe57, (by decide : 2 + 0 ≤ _), (by decide : 6 + 0 ≤ _)⟩)
      dsimp only [Pt.U, Pt.locs, Pt.cells, Pt.slots] at X60 l60 y60 z60 st60 hQ60
      subst l60 y60 z60
      obtain ⟨rfl, N60q, Qe60⟩ := hQ60
      have N60 := Fr.app N57 N60q
      have ac61 : ∀ t, Steps p.tables e below (T60.setTop (mkF m 179 #[.val (.long q1), .second, .val (.long q2), .second, .val (.long q3), .second, .val (.long q4), .second, .val (.int p5), .val (.ref b1), .val (.long (own_sel (p5 &&& (1 : Int32)) q4 q1)), .second, .val (.long (own_sel (p5 &&& (2 : Int32)) q4 q2)), .second, .val (.long (own_sel (p5 &&& (4 : Int32)) q4 q3)), .second, .val (.ref b16), .val (.int (((p5.toUInt32 >>> ((3 : Int32) &&& 31).toUInt32).toInt32) &&& (3 : Int32))), .val (.int (own_eq3 (own_sel (p5 &&& (1 : Int32)) q4 q1) q1 (own_sel (p5 &&& (2 : Int32)) q4 q2) q2 (own_sel (p5 &&& (4 : Int32)) q4 q3) q3))] [(.int (own_eq3 q1 (own_sel (p5 &&& (1 : Int32)) q4 q1) q2 (own_sel (p5 &&& (2 : Int32)) q4 q2) q3 (own_sel (p5 &&& (4 : Int32)) q4 q3)))])) t → Steps p.tables e below (s₁.setTop (entryFrame m #[(.long q1), (.long q2), (.long q3), (.long q4), (.int p5)] maxLocals)) t := fun t k => ac59 t (st60.trans k)
      have ac62 : ∀ t, Steps p.tables e below (T60.setTop (mkF m 189 #[.val (.long q1), .second, .val (.long q2), .second, .val (.long q3), .second, .val (.long q4), .second, .val (.int p5), .val (.ref b1), .val (.long (own_sel (p5 &&& (1 : Int32)) q4 q1)), .second, .val (.long (own_sel (p5 &&& (2 : Int32)) q4 q2)), .second, .val (.long (own_sel (p5 &&& (4 : Int32)) q4 q3)), .second, .val (.ref b16), .val (.int (((p5.toUInt32 >>> ((3 : Int32) &&& 31).toUInt32).toInt32) &&& (3 : Int32))), .val (.int (own_eq3 (own_sel (p5 &&& (1 : Int32)) q4 q1) q1 (own_sel (p5 &&& (2 : Int32)) q4 q2) q2 (own_sel (p5 &&& (4 : Int32)) q4 q3) q3))] [(.int (1 : Int32))])) t → Steps p.tables e below (s₁.setTop (entryFrame m #[(.long q1), (.long q2), (.long q3), (.long q4), (.int p5)] maxLocals)) t := fun t k => ac61 t (by
          show Steps p.tables e below (T60.setTop (mkF m 179 #[.val (.long q1), .second, .val (.long q2), .second, .val (.long q3), .second, .val (.long q4), .second, .val (.int p5), .val (.ref b1), .val (.long (own_sel (p5 &&& (1 : Int32)) q4 q1)), .second, .val (.long (own_sel (p5 &&& (2 : Int32)) q4 q2)), .second, .val (.long (own_sel (p5 &&& (4 : Int32)) q4 q3)), .second, .val (.ref b16), .val (.int (((p5.toUInt32 >>> ((3 : Int32) &&& 31).toUInt32).toInt32) &&& (3 : Int32))), .val (.int (own_eq3 (own_sel (p5 &&& (1 : Int32)) q4 q1) q1 (own_sel (p5 &&& (2 : Int32)) q4 q2) q2 (own_sel (p5 &&& (4 : Int32)) q4 q3) q3))] [(.int (own_eq3 q1 (own_sel (p5 &&& (1 : Int32)) q4 q1) q2 (own_sel (p5 &&& (2 : Int32)) q4 q2) q3 (own_sel (p5 &&& (4 : Int32)) q4 q3)))])) _
          refine XS.iload X60.here hx rfl (hb hby at_179) rfl ?_
          show Steps p.tables e below (T60.setTop (mkF m 181 #[.val (.long q1), .second, .val (.long q2), .second, .val (.long q3), .second, .val (.long q4), .second, .val (.int p5), .val (.ref b1), .val (.long (own_sel (p5 &&& (1 : Int32)) q4 q1)), .second, .val (.long (own_sel (p5 &&& (2 : Int32)) q4 q2)), .second, .val (.long (own_sel (p5 &&& (4 : Int32)) q4 q3)), .second, .val (.ref b16), .val (.int (((p5.toUInt32 >>> ((3 : Int32) &&& 31).toUInt32).toInt32) &&& (3 : Int32))), .val (.int (own_eq3 (own_sel (p5 &&& (1 : Int32)) q4 q1) q1 (own_sel (p5 &&& (2 : Int32)) q4 q2) q2 (own_sel (p5 &&& (4 : Int32)) q4 q3) q3))] [(.int (own_eq3 (own_sel (p5 &&& (1 : Int32)) q4 q1) q1 (own_sel (p5 &&& (2 : Int32)) q4 q2) q2 (own_sel (p5 &&& (4 : Int32)) q4 q3) q3)), (.int (own_eq3 q1 (own_sel (p5 &&& (1 : Int32)) q4 q1) q2 (own_sel (p5 &&& (2 : Int32)) q4 q2) q3 (own_sel (p5 &&& (4 : Int32)) q4 q3)))])) _
          refine XS.icmpNo X60.here hx rfl (hb hby at_181) rfl (teq (own_eq3_c _ _ _ _ _ _)).2 ?_
          show Steps p.tables e below (T60.setTop (mkF m 184 #[.val (.long q1), .second, .val (.long q2), .second, .val (.long q3), .second, .val (.long q4), .second, .val (.int p5), .val (.ref b1), .val (.long (own_sel (p5 &&& (1 : Int32)) q4 q1)), .second, .val (.long (own_sel (p5 &&& (2 : Int32)) q4 q2)), .second, .val (.long (own_sel (p5 &&& (4 : Int32)) q4 q3)), .second, .val (.ref b16), .val (.int (((p5.toUInt32 >>> ((3 : Int32) &&& 31).toUInt32).toInt32) &&& (3 : Int32))), .val (.int (own_eq3 (own_sel (p5 &&& (1 : Int32)) q4 q1) q1 (own_sel (p5 &&& (2 : Int32)) q4 q2) q2 (own_sel (p5 &&& (4 : Int32)) q4 q3) q3))] [])) _
          refine XS.iconst X60.here hx rfl (hb hby at_184) ?_
          show Steps p.tables e below (T60.setTop (mkF m 185 #[.val (.long q1), .second, .val (.long q2), .second, .val (.long q3), .second, .val (.long q4), .second, .val (.int p5), .val (.ref b1), .val (.long (own_sel (p5 &&& (1 : Int32)) q4 q1)), .second, .val (.long (own_sel (p5 &&& (2 : Int32)) q4 q2)), .second, .val (.long (own_sel (p5 &&& (4 : Int32)) q4 q3)), .second, .val (.ref b16), .val (.int (((p5.toUInt32 >>> ((3 : Int32) &&& 31).toUInt32).toInt32) &&& (3 : Int32))), .val (.int (own_eq3 (own_sel (p5 &&& (1 : Int32)) q4 q1) q1 (own_sel (p5 &&& (2 : Int32)) q4 q2) q2 (own_sel (p5 &&& (4 : Int32)) q4 q3) q3))] [(.int (1 : Int32))])) _
          refine XS.goto X60.here hx rfl (pc0 := 185) (pc' := 189) rfl (hb hby at_185) (by decide) (by decide) ?_
          exact k)
      obtain ⟨fs, hr, hrun, hended, hW, hsame⟩ := X60.leave (v := some (.int (1 : Int32))) (fun h => by rw [Bd.returns] at h; cases h) (BodyLoose.notSynchronized Bd)
      refine ⟨_, _, ac62 _ ?_, hrun, hended, _, _, rfl, ?_, ⟨_, rfl⟩, hW, hsame.mono (by decide) (by decide)⟩
      · show Steps p.tables e below (T60.setTop (mkF m 189 #[.val (.long q1), .second, .val (.long q2), .second, .val (.long q3), .second, .val (.long q4), .second, .val (.int p5), .val (.ref b1), .val (.long (own_sel (p5 &&& (1 : Int32)) q4 q1)), .second, .val (.long (own_sel (p5 &&& (2 : Int32)) q4 q2)), .second, .val (.long (own_sel (p5 &&& (4 : Int32)) q4 q3)), .second, .val (.ref b16), .val (.int (((p5.toUInt32 >>> ((3 : Int32) &&& 31).toUInt32).toInt32) &&& (3 : Int32))), .val (.int (own_eq3 (own_sel (p5 &&& (1 : Int32)) q4 q1) q1 (own_sel (p5 &&& (2 : Int32)) q4 q2) q2 (own_sel (p5 &&& (4 : Int32)) q4 q3) q3))] [(.int (1 : Int32))])) _
        exact retN X60 hx (t := .boolean) Bd.returns (by simp) (hb hby at_189) hr
      · show Q0 Z q1 q2 q3 q4 p5 cA bf h0 n0 _ T60.heap _
        rw [Qe60]
        exact ⟨rfl, N60⟩
set_option maxRecDepth 65536 in
set_option maxHeartbeats 40000000 in
theorem comes_1 {Post : Tables → Env → Array Value → State → Outcome → State → Prop} (hpost : ∀ tb e args s v u, (limb_1_1.after args s (.returned v) u = true ∧ limb_1_2.after args s (.returned v) u = true ∧ True) → FrameEnd s (.returned v) u (Jvm.fieldLocs frame_1_writes args s ++ Jvm.arrayLocs frame_1_arrays args s ++ Jvm.staticLocs frame_1_statics s) 16 128 → Post tb e args s (.returned v) u) :
    ArmFor flags0 classFile x code maxLocals ret World_1 tables_1 room_1 Calls_1 rest_1 Pre_1 Post := by
  intro l hfl _ _ p e ha hc hk s m args below hf hA hF happ hP
  obtain ⟨hcalls, hrest, hpre⟩ := hP
  obtain ⟨-, -, -, hnamed, -, -, -, hat⟩ := (Spec.applies_iff hf).mp happ
  obtain ⟨hg, hn⟩ := and_e (Cond.before_iff.mp (show (Jvm.Cond.and given_1 narrow_1).before args s = true from hpre))
  obtain ⟨hcnt, hk0⟩ := and_e hg
  obtain ⟨g0, hk1⟩ := and_e hk0
  obtain ⟨g1, hk2⟩ := and_e hk1
  obtain ⟨g2, hk3⟩ := and_e hk2
  obtain ⟨g3, hk4⟩ := and_e hk3
  have g4 := hk4
  obtain ⟨w0, w1, w2, w3, w4, rfl⟩ : ∃ w0 w1 w2 w3 w4 : Value, args = #[w0, w1, w2, w3, w4] := by
    have hs : args.size = 5 := by simpa [Cond.value, given_1] using hcnt
    obtain ⟨L⟩ := args
    match L, hs with
    | [w0, w1, w2, w3, w4], _ => exact ⟨w0, w1, w2, w3, w4, rfl⟩
  have hw := fun d (hd : d ∈ tables_1) => atoms_spec (ws := Jvm.Cond.code x code maxLocals ret :: tables_1) hat d (List.mem_cons_of_mem _ hd)
  have hfit : Fit s := fun {y c} hc i hi => by
    obtain ⟨ha, rfl⟩ := Array.getElem?_eq_some_iff.mp hc
    have q := List.all_eq_true.mp ((Array.all_eq_true_iff_forall_mem.mp hF) _ (Array.getElem_mem ha)) i (List.mem_range.mpr hi)
    simpa [Array.getElem?_eq_getElem hi] using q
  obtain ⟨hsets, hown0⟩ := atoms_of _ (rest_1_c_eq ▸ (show rest_1_c.before _ s = true from hrest))
  have hr0 := Cond.before_iff.mp hown0
  obtain ⟨i0, ei0⟩ := isL_v g0
  obtain rfl : w0 = (.long i0) := Option.some.inj ei0
  obtain ⟨i1, ei1⟩ := isL_v g1
  obtain rfl : w1 = (.long i1) := Option.some.inj ei1
  obtain ⟨i2, ei2⟩ := isL_v g2
  obtain rfl : w2 = (.long i2) := Option.some.inj ei2
  obtain ⟨i3, ei3⟩ := isL_v g3
  obtain rfl : w3 = (.long i3) := Option.some.inj ei3
  obtain ⟨i4, ei4⟩ := is_v g4
  obtain rfl : w4 = (.int i4) := Option.some.inj ei4
  obtain ⟨cA, bf, Sc, Vc, Ec⟩ := own_cache s _ hsets
  obtain ⟨n, o, h1, h2, h3, _, L, rfl, ⟨rfl, N⟩, hq⟩ := rm0 l s _ hw tables_1 i0 i1 i2 i3 i4 cA bf s.heap s.heap.size (Nat.le_refl _) Sc Vc Ec p e ha hc hk s m _ below hf ((Spec.applies_iff_loose hf).mp happ).1 ⟨rfl, State.Warmed39.refl s, rfl⟩ trivial
  refine ⟨n, _, h1, h2, h3, hpost _ _ _ _ _ _ ⟨Cond.after_iff.mpr rfl, Cond.after_iff.mpr (eq_i res_at (Term.int_eval (1)) rfl), trivial⟩ ⟨hq.1, hq.2.1, (hq.2.2.sift fun y hy => Or.inr (N y hy)).mono (by decide) (by decide)⟩⟩
theorem main_1_1 : Claimed_1_1 := comes_1 fun _ _ _ _ _ _ h hF => ⟨h.1, hF⟩
theorem main_1_2 : Claimed_1_2 := comes_1 fun _ _ _ _ _ _ h hF => ⟨h.2.1, hF⟩
end Jvm.Pilot.@@N@@
namespace Jvm.Pilot.@@N@@
open Jvm Jvm.ClassFile Sem Op Lib Jvm.Free Jvm.Stand Jvm.Pilot.@@N@@.Jvm.D
/-! MADE BY PROGRAM (witnessworld.py) out of the Statement's table words and the real class files: 17 classes; the members and pool entries that the words name. The judged class is class 1, her method 1. -/
namespace start1
open Jvm.ClassFile
def u (s : String) : CpInfo := .utf8 (stringToUtf16 s)
/-- a pool by its gaps: so many unusable entries, then the entry; so many at the end -/
def gap : Nat → List CpInfo → List CpInfo
  | 0, r => r
  | n + 1, r => .unusable :: gap n r
def poolList (es : List (Nat × CpInfo)) (last : Nat) : List CpInfo := es.foldr (fun e r => gap e.1 (e.2 :: r)) (gap last [])
def pool (es : List (Nat × CpInfo)) (last : Nat) : Array CpInfo := ⟨poolList es last⟩
def fileOf (pool : Array CpInfo) (this : Nat) (attrs : Array Attribute := #[]) (ms : Array MethodInfo := #[]) (fl : Nat := 33) (sup : Nat := 0) (ifs : Array Nat := #[]) (fds : Array FieldInfo := #[]) : ClassFile where
  minorVersion := 0
  majorVersion := 65
  constantPool := pool
  accessFlags := fl
  thisClass := this
  superClass := sup
  interfaces := ifs
  fields := fds
  methods := ms
  attributes := attrs
def plain (name : String) (sup : Option ClassId) : Class where
  name := name
  kind := .ordinary
  loader := none
  accessFlags := 33
  super := sup
  interfaces := #[]
  cf := none
  fields := #[]
  methods := #[]
  instanceTypes := #[]
  staticTypes := #[]
  resolved := #[]
  callSites := []
  init := .initialized
  statics := none
  mirror := none

def pool0 : Array CpInfo := pool [(5, u "<init>"), (0, u "()V"), (1, .class_ 10), (1, u "java/lang/Object")] 113

def k0c0 : Code := { maxStack := 0, maxLocals := 1, code := object_method_1_code, exceptionTable := #[], attributes := #[] }
def k0m0 : Method := { name := "<init>", desc := "()V", sig := { parameters := [], returnType := none }, accessFlags := 1, code := some k0c0 }
/-- java/lang/Object -/
def k0 : Class := { plain "java/lang/Object" none with
  accessFlags := 33
  interfaces := #[]
  cf := some (fileOf pool0 8 #[] #[{ accessFlags := 1, nameIndex := 5, descriptorIndex := 6, attributes := #[] }] 33 0 #[] #[])
  fields := #[]
  methods := #[k0m0]
  instanceTypes := #[]
  staticTypes := #[]
  resolved := Array.replicate 124 none
  statics := none }

def pool1 : Array CpInfo := pool [(2, .class_ 4), (1, u "java/lang/Object"), (0, u "<init>"), (0, u "()V"), (0, .class_ 8), (0, u "com/example/termwright/termwright/PostingsStreams"), (0, .methodref 7 10), (0, .nameAndType 5 11), (0, u "(JJJ)V"), (0, .methodref 7 13), (0, .nameAndType 14 15), (0, u "equals"), (0, u "(Ljava/lang/Object;)Z"), (0, .methodref 17 18), (0, .class_ 19), (0, .nameAndType 20 21), (0, u "java/lang/Long"), (0, u "valueOf"), (0, u "(J)Ljava/lang/Long;"), (0, .class_ 23), (0, u "com/example/termwright/termwright/PostingsStreamsEqualsPinLaw"), (2, u "law"), (0, u "(JJJJI)Z")] 3

def k1m0 : Method := { name := "<init>", desc := "()V", sig := { parameters := [], returnType := none }, accessFlags := 1, code := none }
def k1c1 : Code := { maxStack := 8, maxLocals := 19, code := code, exceptionTable := #[], attributes := #[] }
def k1m1 : Method := { name := "law", desc := "(JJJJI)Z", sig := { parameters := [.long, .long, .long, .long, .int], returnType := some .boolean }, accessFlags := 9, code := some k1c1 }
/-- com/example/termwright/termwright/PostingsStreamsEqualsPinLaw -/
def k1 : Class := { plain "com/example/termwright/termwright/PostingsStreamsEqualsPinLaw" (some 0) with
  accessFlags := 49
  interfaces := #[]
  cf := some (fileOf pool1 22 #[] #[{ accessFlags := 1, nameIndex := 5, descriptorIndex := 6, attributes := #[] }, { accessFlags := 9, nameIndex := 26, descriptorIndex := 27, attributes := #[] }] 49 2 #[] #[])
  fields := #[]
  methods := #[k1m0, k1m1]
  instanceTypes := #[]
  staticTypes := #[]
  resolved := Array.replicate 31 none
  statics := none }

def pool2 : Array CpInfo := pool [(1, .methodref 2 3), (0, .class_ 4), (0, .nameAndType 5 6), (0, u "java/lang/Object"), (0, u "<init>"), (0, u "()V"), (0, .class_ 8), (0, u "java/lang/Record")] 13

def k2c0 : Code := { maxStack := 1, maxLocals := 1, code := jdk_30_method_1_code, exceptionTable := #[], attributes := #[] }
def k2m0 : Method := { name := "<init>", desc := "()V", sig := { parameters := [], returnType := none }, accessFlags := 4, code := some k2c0 }
/-- java/lang/Record -/
def k2 : Class := { plain "java/lang/Record" (some 0) with
  accessFlags := 1057
  interfaces := #[]
  cf := some (fileOf pool2 7 #[] #[{ accessFlags := 4, nameIndex := 5, descriptorIndex := 6, attributes := #[] }] 1057 2 #[] #[])
  fields := #[]
  methods := #[k2m0]
  instanceTypes := #[]
  staticTypes := #[]
  resolved := Array.replicate 22 none
  statics := none }

def pool3 : Array CpInfo := pool [(1, .methodref 2 3), (0, .class_ 4), (0, .nameAndType 5 6), (0, u "java/lang/Record"), (0, u "<init>"), (0, u "()V"), (0, .fieldref 8 9), (0, .class_ 10), (0, .nameAndType 11 12), (0, u "com/example/termwright/termwright/PostingsStreams"), (0, u "documents"), (0, u "J"), (0, .fieldref 8 14), (0, .nameAndType 15 12), (0, u "positions"), (0, .fieldref 8 17), (0, .nameAndType 18 12), (0, u "offsets"), (0, .class_ 20), (0, u "com/example/termwright/termwright/PostingsStreams$Place"), (3, u "UNBOUNDED"), (0, u "Lcom/example/termwright/termwright/PostingsStreams;"), (22, u "(JJJ)V"), (6, u "NONE"), (13, u "equals"), (0, u "(Ljava/lang/Object;)Z")] 34

def k3c0 : Code := { maxStack := 3, maxLocals := 7, code := prog_126_method_1_code, exceptionTable := #[], attributes := #[] }
def k3m0 : Method := { name := "<init>", desc := "(JJJ)V", sig := { parameters := [.long, .long, .long], returnType := none }, accessFlags := 0, code := some k3c0 }
def k3c1 : Code := { maxStack := 4, maxLocals := 3, code := prog_126_method_4_code, exceptionTable := #[], attributes := #[] }
def k3m1 : Method := { name := "equals", desc := "(Ljava/lang/Object;)Z", sig := { parameters := [(.object "java/lang/Object")], returnType := some .boolean }, accessFlags := 1, code := some k3c1 }
/-- com/example/termwright/termwright/PostingsStreams -/
def k3 : Class := { plain "com/example/termwright/termwright/PostingsStreams" (some 2) with
  accessFlags := 48
  interfaces := #[]
  cf := some (fileOf pool3 8 #[.nestMembers #[19]] #[{ accessFlags := 0, nameIndex := 5, descriptorIndex := 48, attributes := #[] }, { accessFlags := 1, nameIndex := 69, descriptorIndex := 70, attributes := #[] }] 48 2 #[] #[{ accessFlags := 18, nameIndex := 11, descriptorIndex := 12, attributes := #[] }, { accessFlags := 18, nameIndex := 15, descriptorIndex := 12, attributes := #[] }, { accessFlags := 18, nameIndex := 18, descriptorIndex := 12, attributes := #[] }, { accessFlags := 24, nameIndex := 55, descriptorIndex := 25, attributes := #[] }, { accessFlags := 26, nameIndex := 24, descriptorIndex := 25, attributes := #[] }])
  fields := #[{ name := "documents", type := .long, accessFlags := 18, slot := 0, constantValue := 0 }, { name := "positions", type := .long, accessFlags := 18, slot := 1, constantValue := 0 }, { name := "offsets", type := .long, accessFlags := 18, slot := 2, constantValue := 0 }, { name := "NONE", type := (.object "com/example/termwright/termwright/PostingsStreams"), accessFlags := 24, slot := 0, constantValue := 0 }, { name := "UNBOUNDED", type := (.object "com/example/termwright/termwright/PostingsStreams"), accessFlags := 26, slot := 1, constantValue := 0 }]
  methods := #[k3m0, k3m1]
  instanceTypes := #[.long, .long, .long]
  staticTypes := #[(.object "com/example/termwright/termwright/PostingsStreams"), (.object "com/example/termwright/termwright/PostingsStreams")]
  resolved := Array.replicate 105 none
  statics := none }

def pool4 : Array CpInfo := pool [(1, .class_ 2), (0, u "java/io/Serializable"), (0, .class_ 4), (0, u "java/lang/Object")] 2

/-- java/io/Serializable -/
def k4 : Class := { plain "java/io/Serializable" (some 0) with
  accessFlags := 1537
  interfaces := #[]
  cf := some (fileOf pool4 1 #[] #[] 1537 3 #[] #[])
  fields := #[]
  methods := #[]
  instanceTypes := #[]
  staticTypes := #[]
  resolved := Array.replicate 7 none
  statics := none }

def pool5 : Array CpInfo := pool [(1, .methodref 2 3), (0, .class_ 4), (0, .nameAndType 5 6), (0, u "java/lang/Object"), (0, u "<init>"), (0, u "()V"), (1, .class_ 10), (1, u "java/lang/Number"), (2, .class_ 14), (0, u "java/io/Serializable"), (0, u "serialVersionUID"), (0, u "J")] 20

def k5c0 : Code := { maxStack := 1, maxLocals := 1, code := jdk_18_method_1_code, exceptionTable := #[], attributes := #[] }
def k5m0 : Method := { name := "<init>", desc := "()V", sig := { parameters := [], returnType := none }, accessFlags := 1, code := some k5c0 }
/-- java/lang/Number -/
def k5 : Class := { plain "java/lang/Number" (some 0) with
  accessFlags := 1057
  interfaces := #[4]
  cf := some (fileOf pool5 8 #[] #[{ accessFlags := 1, nameIndex := 5, descriptorIndex := 6, attributes := #[] }] 1057 2 #[13] #[{ accessFlags := 26, nameIndex := 15, descriptorIndex := 16, attributes := #[] }])
  fields := #[{ name := "serialVersionUID", type := .long, accessFlags := 26, slot := 0, constantValue := 0 }]
  methods := #[k5m0]
  instanceTypes := #[]
  staticTypes := #[.long]
  resolved := Array.replicate 37 none
  statics := none }

def pool6 : Array CpInfo := pool [(1, .class_ 2), (0, u "java/lang/Comparable"), (0, .class_ 4), (0, u "java/lang/Object")] 7

/-- java/lang/Comparable -/
def k6 : Class := { plain "java/lang/Comparable" (some 0) with
  accessFlags := 1537
  interfaces := #[]
  cf := some (fileOf pool6 1 #[] #[] 1537 3 #[] #[])
  fields := #[]
  methods := #[]
  instanceTypes := #[]
  staticTypes := #[]
  resolved := Array.replicate 12 none
  statics := none }

def pool7 : Array CpInfo := pool [(1, .class_ 2), (0, u "java/lang/constant/Constable"), (0, .class_ 4), (0, u "java/lang/Object")] 6

/-- java/lang/constant/Constable -/
def k7 : Class := { plain "java/lang/constant/Constable" (some 0) with
  accessFlags := 1537
  interfaces := #[]
  cf := some (fileOf pool7 1 #[] #[] 1537 3 #[] #[])
  fields := #[]
  methods := #[]
  instanceTypes := #[]
  staticTypes := #[]
  resolved := Array.replicate 11 none
  statics := none }

def pool8 : Array CpInfo := pool [(1, .class_ 2), (0, u "java/lang/constant/ConstantDesc"), (0, .class_ 4), (0, u "java/lang/Object")] 32

/-- java/lang/constant/ConstantDesc -/
def k8 : Class := { plain "java/lang/constant/ConstantDesc" (some 0) with
  accessFlags := 1537
  interfaces := #[]
  cf := some (fileOf pool8 1 #[] #[] 1537 3 #[] #[])
  fields := #[]
  methods := #[]
  instanceTypes := #[]
  staticTypes := #[]
  resolved := Array.replicate 37 none
  statics := none }

def pool9 : Array CpInfo := pool [(1, .class_ 2), (0, u "java/lang/Long"), (55, .nameAndType 59 60), (0, u "<init>"), (0, u "()V"), (24, u "valueOf"), (143, u "(J)Ljava/lang/Long;"), (0, .long 18446744073709551488), (1, .long 127), (1, .fieldref 235 236), (0, .class_ 237), (0, .nameAndType 238 239), (0, u "java/lang/Long$LongCache"), (0, u "cache"), (0, u "[Ljava/lang/Long;"), (0, .methodref 1 241), (0, .nameAndType 59 242), (0, u "(J)V"), (27, .methodref 271 58), (0, .class_ 272), (0, u "java/lang/Number"), (0, .fieldref 1 274), (0, .nameAndType 275 276), (0, u "value"), (0, u "J"), (84, u "TYPE"), (0, u "Ljava/lang/Class;"), (0, .class_ 364), (0, u "java/lang/Comparable"), (0, .class_ 366), (0, u "java/lang/constant/Constable"), (0, .class_ 368), (0, u "java/lang/constant/ConstantDesc"), (0, u "MIN_VALUE"), (1, u "MAX_VALUE"), (4, u "SIZE"), (0, u "I"), (1, u "BYTES"), (1, u "serialVersionUID")] 142

def k9c0 : Code := { maxStack := 4, maxLocals := 3, code := jdk_35_method_24_code, exceptionTable := #[], attributes := #[] }
def k9m0 : Method := { name := "valueOf", desc := "(J)Ljava/lang/Long;", sig := { parameters := [.long], returnType := some (.object "java/lang/Long") }, accessFlags := 9, code := some k9c0 }
def k9c1 : Code := { maxStack := 3, maxLocals := 3, code := jdk_35_method_26_code, exceptionTable := #[], attributes := #[] }
def k9m1 : Method := { name := "<init>", desc := "(J)V", sig := { parameters := [.long], returnType := none }, accessFlags := 1, code := some k9c1 }
/-- java/lang/Long -/
def k9 : Class := { plain "java/lang/Long" (some 5) with
  accessFlags := 49
  interfaces := #[6, 7, 8]
  cf := some (fileOf pool9 1 #[.nestMembers #[235]] #[{ accessFlags := 9, nameIndex := 85, descriptorIndex := 229, attributes := #[] }, { accessFlags := 1, nameIndex := 59, descriptorIndex := 242, attributes := #[] }] 49 271 #[363, 365, 367] #[{ accessFlags := 25, nameIndex := 369, descriptorIndex := 276, attributes := #[] }, { accessFlags := 25, nameIndex := 371, descriptorIndex := 276, attributes := #[] }, { accessFlags := 25, nameIndex := 361, descriptorIndex := 362, attributes := #[] }, { accessFlags := 18, nameIndex := 275, descriptorIndex := 276, attributes := #[] }, { accessFlags := 25, nameIndex := 376, descriptorIndex := 377, attributes := #[] }, { accessFlags := 25, nameIndex := 379, descriptorIndex := 377, attributes := #[] }, { accessFlags := 26, nameIndex := 381, descriptorIndex := 276, attributes := #[] }])
  fields := #[{ name := "MIN_VALUE", type := .long, accessFlags := 25, slot := 0, constantValue := 0 }, { name := "MAX_VALUE", type := .long, accessFlags := 25, slot := 1, constantValue := 0 }, { name := "TYPE", type := (.object "java/lang/Class"), accessFlags := 25, slot := 2, constantValue := 0 }, { name := "value", type := .long, accessFlags := 18, slot := 0, constantValue := 0 }, { name := "SIZE", type := .int, accessFlags := 25, slot := 3, constantValue := 0 }, { name := "BYTES", type := .int, accessFlags := 25, slot := 4, constantValue := 0 }, { name := "serialVersionUID", type := .long, accessFlags := 26, slot := 5, constantValue := 0 }]
  methods := #[k9m0, k9m1]
  instanceTypes := #[.long]
  staticTypes := #[.long, .long, (.object "java/lang/Class"), .int, .int, .long]
  resolved := Array.replicate 524 none
  statics := none }

def pool10 : Array CpInfo := pool [(2, .class_ 4), (1, u "java/lang/Object"), (0, u "<init>"), (0, u "()V"), (0, .class_ 8), (0, u "java/lang/Long"), (7, .class_ 18), (1, u "java/lang/Long$LongCache"), (0, u "$assertionsDisabled"), (0, u "Z"), (8, u "archivedCache"), (0, u "[Ljava/lang/Long;"), (7, u "cache")] 24

def k10m0 : Method := { name := "<init>", desc := "()V", sig := { parameters := [], returnType := none }, accessFlags := 2, code := none }
/-- java/lang/Long$LongCache -/
def k10 : Class := { plain "java/lang/Long$LongCache" (some 0) with
  accessFlags := 48
  interfaces := #[]
  cf := some (fileOf pool10 16 #[.nestHost 7] #[{ accessFlags := 2, nameIndex := 5, descriptorIndex := 6, attributes := #[] }] 48 2 #[] #[{ accessFlags := 24, nameIndex := 38, descriptorIndex := 30, attributes := #[] }, { accessFlags := 8, nameIndex := 29, descriptorIndex := 30, attributes := #[] }, { accessFlags := 4120, nameIndex := 19, descriptorIndex := 20, attributes := #[] }])
  fields := #[{ name := "cache", type := (.array (.object "java/lang/Long")), accessFlags := 24, slot := 0, constantValue := 0 }, { name := "archivedCache", type := (.array (.object "java/lang/Long")), accessFlags := 8, slot := 1, constantValue := 0 }, { name := "$assertionsDisabled", type := .boolean, accessFlags := 4120, slot := 2, constantValue := 0 }]
  methods := #[k10m0]
  instanceTypes := #[]
  staticTypes := #[(.array (.object "java/lang/Long")), (.array (.object "java/lang/Long")), .boolean]
  resolved := Array.replicate 63 none
  statics := some 0 }

def pool11 : Array CpInfo := pool [(1, u "java/lang/Cloneable"), (0, .class_ 1), (0, u "java/lang/Object"), (0, .class_ 3)] 3

/-- java/lang/Cloneable -/
def k11 : Class := { plain "java/lang/Cloneable" (some 0) with
  accessFlags := 1537
  interfaces := #[]
  cf := some (fileOf pool11 2 #[] #[] 1537 4 #[] #[])
  fields := #[]
  methods := #[]
  instanceTypes := #[]
  staticTypes := #[]
  resolved := Array.replicate 8 none
  statics := none }

/-- the primitive byte -/
def k12 : Class := { plain "byte" none with kind := .primitive 'B', accessFlags := 0x411 }
/-- [B -/
def k13 : Class := { plain "[B" (some 0) with kind := .array 12 .byte, interfaces := #[11, 4], accessFlags := 1041 }

/-- the primitive int -/
def k14 : Class := { plain "int" none with kind := .primitive 'I', accessFlags := 0x411 }
/-- [I -/
def k15 : Class := { plain "[I" (some 0) with kind := .array 14 .int, interfaces := #[11, 4], accessFlags := 1041 }

/-- [Ljava/lang/Long; -/
def k16 : Class := { plain "[Ljava/lang/Long;" (some 0) with kind := .array 9 (.object "java/lang/Long"), interfaces := #[11, 4], accessFlags := 1041 }

def heap : Heap := #[{ cls := 10, slots := #[.ref 1, .null, .int 0], vm := .statics 10 },
  { cls := 16, slots := #[.ref 2, .ref 3, .ref 4, .ref 5, .ref 6, .ref 7, .ref 8, .ref 9, .ref 10, .ref 11, .ref 12, .ref 13, .ref 14, .ref 15, .ref 16, .ref 17, .ref 18, .ref 19, .ref 20, .ref 21, .ref 22, .ref 23, .ref 24, .ref 25, .ref 26, .ref 27, .ref 28, .ref 29, .ref 30, .ref 31, .ref 32, .ref 33, .ref 34, .ref 35, .ref 36, .ref 37, .ref 38, .ref 39, .ref 40, .ref 41, .ref 42, .ref 43, .ref 44, .ref 45, .ref 46, .ref 47, .ref 48, .ref 49, .ref 50, .ref 51, .ref 52, .ref 53, .ref 54, .ref 55, .ref 56, .ref 57, .ref 58, .ref 59, .ref 60, .ref 61, .ref 62, .ref 63, .ref 64, .ref 65, .ref 66, .ref 67, .ref 68, .ref 69, .ref 70, .ref 71, .ref 72, .ref 73, .ref 74, .ref 75, .ref 76, .ref 77, .ref 78, .ref 79, .ref 80, .ref 81, .ref 82, .ref 83, .ref 84, .ref 85, .ref 86, .ref 87, .ref 88, .ref 89, .ref 90, .ref 91, .ref 92, .ref 93, .ref 94, .ref 95, .ref 96, .ref 97, .ref 98, .ref 99, .ref 100, .ref 101, .ref 102, .ref 103, .ref 104, .ref 105, .ref 106, .ref 107, .ref 108, .ref 109, .ref 110, .ref 111, .ref 112, .ref 113, .ref 114, .ref 115, .ref 116, .ref 117, .ref 118, .ref 119, .ref 120, .ref 121, .ref 122, .ref 123, .ref 124, .ref 125, .ref 126, .ref 127, .ref 128, .ref 129, .ref 130, .ref 131, .ref 132, .ref 133, .ref 134, .ref 135, .ref 136, .ref 137, .ref 138, .ref 139, .ref 140, .ref 141, .ref 142, .ref 143, .ref 144, .ref 145, .ref 146, .ref 147, .ref 148, .ref 149, .ref 150, .ref 151, .ref 152, .ref 153, .ref 154, .ref 155, .ref 156, .ref 157, .ref 158, .ref 159, .ref 160, .ref 161, .ref 162, .ref 163, .ref 164, .ref 165, .ref 166, .ref 167, .ref 168, .ref 169, .ref 170, .ref 171, .ref 172, .ref 173, .ref 174, .ref 175, .ref 176, .ref 177, .ref 178, .ref 179, .ref 180, .ref 181, .ref 182, .ref 183, .ref 184, .ref 185, .ref 186, .ref 187, .ref 188, .ref 189, .ref 190, .ref 191, .ref 192, .ref 193, .ref 194, .ref 195, .ref 196, .ref 197, .ref 198, .ref 199, .ref 200, .ref 201, .ref 202, .ref 203, .ref 204, .ref 205, .ref 206, .ref 207, .ref 208, .ref 209, .ref 210, .ref 211, .ref 212, .ref 213, .ref 214, .ref 215, .ref 216, .ref 217, .ref 218, .ref 219, .ref 220, .ref 221, .ref 222, .ref 223, .ref 224, .ref 225, .ref 226, .ref 227, .ref 228, .ref 229, .ref 230, .ref 231, .ref 232, .ref 233, .ref 234, .ref 235, .ref 236, .ref 237, .ref 238, .ref 239, .ref 240, .ref 241, .ref 242, .ref 243, .ref 244, .ref 245, .ref 246, .ref 247, .ref 248, .ref 249, .ref 250, .ref 251, .ref 252, .ref 253, .ref 254, .ref 255, .ref 256, .ref 257], vm := .none },
  { cls := 9, slots := #[.long (-128)], vm := .none },
  { cls := 9, slots := #[.long (-127)], vm := .none },
  { cls := 9, slots := #[.long (-126)], vm := .none },
  { cls := 9, slots := #[.long (-125)], vm := .none },
  { cls := 9, slots := #[.long (-124)], vm := .none },
  { cls := 9, slots := #[.long (-123)], vm := .none },
  { cls := 9, slots := #[.long (-122)], vm := .none },
  { cls := 9, slots := #[.long (-121)], vm := .none },
  { cls := 9, slots := #[.long (-120)], vm := .none },
  { cls := 9, slots := #[.long (-119)], vm := .none },
  { cls := 9, slots := #[.long (-118)], vm := .none },
  { cls := 9, slots := #[.long (-117)], vm := .none },
  { cls := 9, slots := #[.long (-116)], vm := .none },
  { cls := 9, slots := #[.long (-115)], vm := .none },
  { cls := 9, slots := #[.long (-114)], vm := .none },
  { cls := 9, slots := #[.long (-113)], vm := .none },
  { cls := 9, slots := #[.long (-112)], vm := .none },
  { cls := 9, slots := #[.long (-111)], vm := .none },
  { cls := 9, slots := #[.long (-110)], vm := .none },
  { cls := 9, slots := #[.long (-109)], vm := .none },
  { cls := 9, slots := #[.long (-108)], vm := .none },
  { cls := 9, slots := #[.long (-107)], vm := .none },
  { cls := 9, slots := #[.long (-106)], vm := .none },
  { cls := 9, slots := #[.long (-105)], vm := .none },
  { cls := 9, slots := #[.long (-104)], vm := .none },
  { cls := 9, slots := #[.long (-103)], vm := .none },
  { cls := 9, slots := #[.long (-102)], vm := .none },
  { cls := 9, slots := #[.long (-101)], vm := .none },
  { cls := 9, slots := #[.long (-100)], vm := .none },
  { cls := 9, slots := #[.long (-99)], vm := .none },
  { cls := 9, slots := #[.long (-98)], vm := .none },
  { cls := 9, slots := #[.long (-97)], vm := .none },
  { cls := 9, slots := #[.long (-96)], vm := .none },
  { cls := 9, slots := #[.long (-95)], vm := .none },
  { cls := 9, slots := #[.long (-94)], vm := .none },
  { cls := 9, slots := #[.long (-93)], vm := .none },
  { cls := 9, slots := #[.long (-92)], vm := .none },
  { cls := 9, slots := #[.long (-91)], vm := .none },
  { cls := 9, slots := #[.long (-90)], vm := .none },
  { cls := 9, slots := #[.long (-89)], vm := .none },
  { cls := 9, slots := #[.long (-88)], vm := .none },
  { cls := 9, slots := #[.long (-87)], vm := .none },
  { cls := 9, slots := #[.long (-86)], vm := .none },
  { cls := 9, slots := #[.long (-85)], vm := .none },
  { cls := 9, slots := #[.long (-84)], vm := .none },
  { cls := 9, slots := #[.long (-83)], vm := .none },
  { cls := 9, slots := #[.long (-82)], vm := .none },
  { cls := 9, slots := #[.long (-81)], vm := .none },
  { cls := 9, slots := #[.long (-80)], vm := .none },
  { cls := 9, slots := #[.long (-79)], vm := .none },
  { cls := 9, slots := #[.long (-78)], vm := .none },
  { cls := 9, slots := #[.long (-77)], vm := .none },
  { cls := 9, slots := #[.long (-76)], vm := .none },
  { cls := 9, slots := #[.long (-75)], vm := .none },
  { cls := 9, slots := #[.long (-74)], vm := .none },
  { cls := 9, slots := #[.long (-73)], vm := .none },
  { cls := 9, slots := #[.long (-72)], vm := .none },
  { cls := 9, slots := #[.long (-71)], vm := .none },
  { cls := 9, slots := #[.long (-70)], vm := .none },
  { cls := 9, slots := #[.long (-69)], vm := .none },
  { cls := 9, slots := #[.long (-68)], vm := .none },
  { cls := 9, slots := #[.long (-67)], vm := .none },
  { cls := 9, slots := #[.long (-66)], vm := .none },
  { cls := 9, slots := #[.long (-65)], vm := .none },
  { cls := 9, slots := #[.long (-64)], vm := .none },
  { cls := 9, slots := #[.long (-63)], vm := .none },
  { cls := 9, slots := #[.long (-62)], vm := .none },
  { cls := 9, slots := #[.long (-61)], vm := .none },
  { cls := 9, slots := #[.long (-60)], vm := .none },
  { cls := 9, slots := #[.long (-59)], vm := .none },
  { cls := 9, slots := #[.long (-58)], vm := .none },
  { cls := 9, slots := #[.long (-57)], vm := .none },
  { cls := 9, slots := #[.long (-56)], vm := .none },
  { cls := 9, slots := #[.long (-55)], vm := .none },
  { cls := 9, slots := #[.long (-54)], vm := .none },
  { cls := 9, slots := #[.long (-53)], vm := .none },
  { cls := 9, slots := #[.long (-52)], vm := .none },
  { cls := 9, slots := #[.long (-51)], vm := .none },
  { cls := 9, slots := #[.long (-50)], vm := .none },
  { cls := 9, slots := #[.long (-49)], vm := .none },
  { cls := 9, slots := #[.long (-48)], vm := .none },
  { cls := 9, slots := #[.long (-47)], vm := .none },
  { cls := 9, slots := #[.long (-46)], vm := .none },
  { cls := 9, slots := #[.long (-45)], vm := .none },
  { cls := 9, slots := #[.long (-44)], vm := .none },
  { cls := 9, slots := #[.long (-43)], vm := .none },
  { cls := 9, slots := #[.long (-42)], vm := .none },
  { cls := 9, slots := #[.long (-41)], vm := .none },
  { cls := 9, slots := #[.long (-40)], vm := .none },
  { cls := 9, slots := #[.long (-39)], vm := .none },
  { cls := 9, slots := #[.long (-38)], vm := .none },
  { cls := 9, slots := #[.long (-37)], vm := .none },
  { cls := 9, slots := #[.long (-36)], vm := .none },
  { cls := 9, slots := #[.long (-35)], vm := .none },
  { cls := 9, slots := #[.long (-34)], vm := .none },
  { cls := 9, slots := #[.long (-33)], vm := .none },
  { cls := 9, slots := #[.long (-32)], vm := .none },
  { cls := 9, slots := #[.long (-31)], vm := .none },
  { cls := 9, slots := #[.long (-30)], vm := .none },
  { cls := 9, slots := #[.long (-29)], vm := .none },
  { cls := 9, slots := #[.long (-28)], vm := .none },
  { cls := 9, slots := #[.long (-27)], vm := .none },
  { cls := 9, slots := #[.long (-26)], vm := .none },
  { cls := 9, slots := #[.long (-25)], vm := .none },
  { cls := 9, slots := #[.long (-24)], vm := .none },
  { cls := 9, slots := #[.long (-23)], vm := .none },
  { cls := 9, slots := #[.long (-22)], vm := .none },
  { cls := 9, slots := #[.long (-21)], vm := .none },
  { cls := 9, slots := #[.long (-20)], vm := .none },
  { cls := 9, slots := #[.long (-19)], vm := .none },
  { cls := 9, slots := #[.long (-18)], vm := .none },
  { cls := 9, slots := #[.long (-17)], vm := .none },
  { cls := 9, slots := #[.long (-16)], vm := .none },
  { cls := 9, slots := #[.long (-15)], vm := .none },
  { cls := 9, slots := #[.long (-14)], vm := .none },
  { cls := 9, slots := #[.long (-13)], vm := .none },
  { cls := 9, slots := #[.long (-12)], vm := .none },
  { cls := 9, slots := #[.long (-11)], vm := .none },
  { cls := 9, slots := #[.long (-10)], vm := .none },
  { cls := 9, slots := #[.long (-9)], vm := .none },
  { cls := 9, slots := #[.long (-8)], vm := .none },
  { cls := 9, slots := #[.long (-7)], vm := .none },
  { cls := 9, slots := #[.long (-6)], vm := .none },
  { cls := 9, slots := #[.long (-5)], vm := .none },
  { cls := 9, slots := #[.long (-4)], vm := .none },
  { cls := 9, slots := #[.long (-3)], vm := .none },
  { cls := 9, slots := #[.long (-2)], vm := .none },
  { cls := 9, slots := #[.long (-1)], vm := .none },
  { cls := 9, slots := #[.long (0)], vm := .none },
  { cls := 9, slots := #[.long (1)], vm := .none },
  { cls := 9, slots := #[.long (2)], vm := .none },
  { cls := 9, slots := #[.long (3)], vm := .none },
  { cls := 9, slots := #[.long (4)], vm := .none },
  { cls := 9, slots := #[.long (5)], vm := .none },
  { cls := 9, slots := #[.long (6)], vm := .none },
  { cls := 9, slots := #[.long (7)], vm := .none },
  { cls := 9, slots := #[.long (8)], vm := .none },
  { cls := 9, slots := #[.long (9)], vm := .none },
  { cls := 9, slots := #[.long (10)], vm := .none },
  { cls := 9, slots := #[.long (11)], vm := .none },
  { cls := 9, slots := #[.long (12)], vm := .none },
  { cls := 9, slots := #[.long (13)], vm := .none },
  { cls := 9, slots := #[.long (14)], vm := .none },
  { cls := 9, slots := #[.long (15)], vm := .none },
  { cls := 9, slots := #[.long (16)], vm := .none },
  { cls := 9, slots := #[.long (17)], vm := .none },
  { cls := 9, slots := #[.long (18)], vm := .none },
  { cls := 9, slots := #[.long (19)], vm := .none },
  { cls := 9, slots := #[.long (20)], vm := .none },
  { cls := 9, slots := #[.long (21)], vm := .none },
  { cls := 9, slots := #[.long (22)], vm := .none },
  { cls := 9, slots := #[.long (23)], vm := .none },
  { cls := 9, slots := #[.long (24)], vm := .none },
  { cls := 9, slots := #[.long (25)], vm := .none },
  { cls := 9, slots := #[.long (26)], vm := .none },
  { cls := 9, slots := #[.long (27)], vm := .none },
  { cls := 9, slots := #[.long (28)], vm := .none },
  { cls := 9, slots := #[.long (29)], vm := .none },
  { cls := 9, slots := #[.long (30)], vm := .none },
  { cls := 9, slots := #[.long (31)], vm := .none },
  { cls := 9, slots := #[.long (32)], vm := .none },
  { cls := 9, slots := #[.long (33)], vm := .none },
  { cls := 9, slots := #[.long (34)], vm := .none },
  { cls := 9, slots := #[.long (35)], vm := .none },
  { cls := 9, slots := #[.long (36)], vm := .none },
  { cls := 9, slots := #[.long (37)], vm := .none },
  { cls := 9, slots := #[.long (38)], vm := .none },
  { cls := 9, slots := #[.long (39)], vm := .none },
  { cls := 9, slots := #[.long (40)], vm := .none },
  { cls := 9, slots := #[.long (41)], vm := .none },
  { cls := 9, slots := #[.long (42)], vm := .none },
  { cls := 9, slots := #[.long (43)], vm := .none },
  { cls := 9, slots := #[.long (44)], vm := .none },
  { cls := 9, slots := #[.long (45)], vm := .none },
  { cls := 9, slots := #[.long (46)], vm := .none },
  { cls := 9, slots := #[.long (47)], vm := .none },
  { cls := 9, slots := #[.long (48)], vm := .none },
  { cls := 9, slots := #[.long (49)], vm := .none },
  { cls := 9, slots := #[.long (50)], vm := .none },
  { cls := 9, slots := #[.long (51)], vm := .none },
  { cls := 9, slots := #[.long (52)], vm := .none },
  { cls := 9, slots := #[.long (53)], vm := .none },
  { cls := 9, slots := #[.long (54)], vm := .none },
  { cls := 9, slots := #[.long (55)], vm := .none },
  { cls := 9, slots := #[.long (56)], vm := .none },
  { cls := 9, slots := #[.long (57)], vm := .none },
  { cls := 9, slots := #[.long (58)], vm := .none },
  { cls := 9, slots := #[.long (59)], vm := .none },
  { cls := 9, slots := #[.long (60)], vm := .none },
  { cls := 9, slots := #[.long (61)], vm := .none },
  { cls := 9, slots := #[.long (62)], vm := .none },
  { cls := 9, slots := #[.long (63)], vm := .none },
  { cls := 9, slots := #[.long (64)], vm := .none },
  { cls := 9, slots := #[.long (65)], vm := .none },
  { cls := 9, slots := #[.long (66)], vm := .none },
  { cls := 9, slots := #[.long (67)], vm := .none },
  { cls := 9, slots := #[.long (68)], vm := .none },
  { cls := 9, slots := #[.long (69)], vm := .none },
  { cls := 9, slots := #[.long (70)], vm := .none },
  { cls := 9, slots := #[.long (71)], vm := .none },
  { cls := 9, slots := #[.long (72)], vm := .none },
  { cls := 9, slots := #[.long (73)], vm := .none },
  { cls := 9, slots := #[.long (74)], vm := .none },
  { cls := 9, slots := #[.long (75)], vm := .none },
  { cls := 9, slots := #[.long (76)], vm := .none },
  { cls := 9, slots := #[.long (77)], vm := .none },
  { cls := 9, slots := #[.long (78)], vm := .none },
  { cls := 9, slots := #[.long (79)], vm := .none },
  { cls := 9, slots := #[.long (80)], vm := .none },
  { cls := 9, slots := #[.long (81)], vm := .none },
  { cls := 9, slots := #[.long (82)], vm := .none },
  { cls := 9, slots := #[.long (83)], vm := .none },
  { cls := 9, slots := #[.long (84)], vm := .none },
  { cls := 9, slots := #[.long (85)], vm := .none },
  { cls := 9, slots := #[.long (86)], vm := .none },
  { cls := 9, slots := #[.long (87)], vm := .none },
  { cls := 9, slots := #[.long (88)], vm := .none },
  { cls := 9, slots := #[.long (89)], vm := .none },
  { cls := 9, slots := #[.long (90)], vm := .none },
  { cls := 9, slots := #[.long (91)], vm := .none },
  { cls := 9, slots := #[.long (92)], vm := .none },
  { cls := 9, slots := #[.long (93)], vm := .none },
  { cls := 9, slots := #[.long (94)], vm := .none },
  { cls := 9, slots := #[.long (95)], vm := .none },
  { cls := 9, slots := #[.long (96)], vm := .none },
  { cls := 9, slots := #[.long (97)], vm := .none },
  { cls := 9, slots := #[.long (98)], vm := .none },
  { cls := 9, slots := #[.long (99)], vm := .none },
  { cls := 9, slots := #[.long (100)], vm := .none },
  { cls := 9, slots := #[.long (101)], vm := .none },
  { cls := 9, slots := #[.long (102)], vm := .none },
  { cls := 9, slots := #[.long (103)], vm := .none },
  { cls := 9, slots := #[.long (104)], vm := .none },
  { cls := 9, slots := #[.long (105)], vm := .none },
  { cls := 9, slots := #[.long (106)], vm := .none },
  { cls := 9, slots := #[.long (107)], vm := .none },
  { cls := 9, slots := #[.long (108)], vm := .none },
  { cls := 9, slots := #[.long (109)], vm := .none },
  { cls := 9, slots := #[.long (110)], vm := .none },
  { cls := 9, slots := #[.long (111)], vm := .none },
  { cls := 9, slots := #[.long (112)], vm := .none },
  { cls := 9, slots := #[.long (113)], vm := .none },
  { cls := 9, slots := #[.long (114)], vm := .none },
  { cls := 9, slots := #[.long (115)], vm := .none },
  { cls := 9, slots := #[.long (116)], vm := .none },
  { cls := 9, slots := #[.long (117)], vm := .none },
  { cls := 9, slots := #[.long (118)], vm := .none },
  { cls := 9, slots := #[.long (119)], vm := .none },
  { cls := 9, slots := #[.long (120)], vm := .none },
  { cls := 9, slots := #[.long (121)], vm := .none },
  { cls := 9, slots := #[.long (122)], vm := .none },
  { cls := 9, slots := #[.long (123)], vm := .none },
  { cls := 9, slots := #[.long (124)], vm := .none },
  { cls := 9, slots := #[.long (125)], vm := .none },
  { cls := 9, slots := #[.long (126)], vm := .none },
  { cls := 9, slots := #[.long (127)], vm := .none }]
def classes : Array Class := #[k0, k1, k2, k3, k4, k5, k6, k7, k8, k9, k10, k11, k12, k13, k14, k15, k16]
def interned : List (Array UInt16 × Addr) := []
def slotsUsed : Nat := 515
def theMethod : MethodId := ⟨1, 1⟩
def args0 : Array Value := #[.long 3, .long (-4), .long 5, .long 6, .int 7]
def aboutOver (below : List Frame) : State where
  vm := { classes := classes, interned := interned.toArray }
  heap := heap
  slotsUsed := slotsUsed
  threads := #[{ frames := .invoking theMethod args0 :: below }]
def below0 : List Frame := [.native { method := ⟨0, 0⟩, args := #[] }]
def about1 : State := aboutOver below0
def p0 : Program := .bare "" "" ""
def e0 : Env := launch0.env 0 0 0
theorem w_frames : about1.frames = Frame.invoking theMethod args0 :: below0 := rfl
set_option maxRecDepth 65536 in
theorem w_args : argsFit about1.vm theMethod args0 = true := by decide +kernel
set_option maxRecDepth 65536 in
theorem w_heap : heapFits about1 = true := by decide +kernel
set_option maxRecDepth 65536 in
theorem w_runnable : about1.curStatus? = some .runnable := by decide +kernel
set_option maxRecDepth 65536 in
theorem w_alone : about1.alone = true := by decide +kernel
set_option maxRecDepth 65536 in
theorem w_named : about1.methodNamed? x = some theMethod := by decide +kernel
set_option maxRecDepth 65536 in
theorem w_hears : about1.hears theMethod below0 = true := by decide +kernel
set_option maxRecDepth 65536 in
theorem w_ripe : about1.ripe theMethod args0 below0 = true := by decide +kernel
theorem w_running : about1.status = .running := rfl
set_option maxRecDepth 65536 in
theorem w_room : about1.hasRoom e0.platform room_1 = true :=
  launch0.hasRoom_least _ room_1 (by decide +kernel) (by decide +kernel) (by decide +kernel) (by decide +kernel) (by decide +kernel) (by decide +kernel)
theorem allAtoms_all (ts : List Jvm.Cond) (a : Array Jvm.Value) (st : Jvm.State) : (allAtoms ts).before a st = ts.all (fun c => c.before a st) := by
  induction ts with
  | nil => rfl
  | cons c t ih =>
    show (Jvm.Cond.and c (allAtoms t)).before a st = _
    rw [Jvm.Cond.before_and, ih, List.all_cons]
def words1 : List Jvm.Cond := Jvm.Cond.code x code maxLocals ret :: tables_1
/-- a 'code' word, met by the world's own term for the bytes: nothing is compared byte by byte -/
theorem code_word {y : MethodName} {bytes : ByteArray} {mx : Nat} {rt : Option FieldType} {a : Array Value} {s : State} {m : MethodId} {meth : Method} {c : Code} (h1 : s.methodNamed? y = some m) (h2 : s.vm.method? m = some meth) (h3 : meth.code = some c) (h4 : c.code = bytes)
    (h5 : (c.maxLocals == mx && c.exceptionTable.isEmpty && decide (c.maxStack ≤ mostOperands) && decide (meth.sig.returnType = rt) && !meth.locks && decide (parseMethodDescriptor y.desc = some meth.sig)) = true) : (Jvm.Cond.code y bytes mx rt).before a s = true := by
  simp only [Bool.and_eq_true, beq_iff_eq, Bool.not_eq_true', decide_eq_true_eq] at h5
  obtain ⟨⟨⟨⟨⟨g1, g2⟩, g3⟩, g4⟩, g5⟩, g6⟩ := h5
  simp [Cond.before, Cond.holds, Cond.value, h1, h2, h3, h4, g1, g2, g3, g4, g5, g6]
def isCode : Jvm.Cond → Bool
  | .code _ _ _ _ => true
  | _ => false
theorem all_split {L : List Jvm.Cond} {P : Jvm.Cond → Bool} (h1 : L.all (fun c => isCode c || P c) = true) (h2 : ∀ c ∈ L.filter isCode, P c = true) : L.all P = true := by
  refine List.all_eq_true.mpr fun c hc => ?_
  have h := List.all_eq_true.mp h1 c hc
  rcases Bool.eq_false_or_eq_true (isCode c) with hi | hi
  · exact h2 c (List.mem_filter.mpr ⟨hc, hi⟩)
  · simpa [hi] using h
set_option maxRecDepth 65536 in
theorem w_c0 : (Jvm.Cond.code x code maxLocals ret).before args0 about1 = true := code_word (m := ⟨1, 1⟩) (meth := k1m1) (c := k1c1) (by decide +kernel) rfl rfl rfl (by decide +kernel)
set_option maxRecDepth 65536 in
theorem w_c1 : (Jvm.Cond.code ({ cls := "com/example/termwright/termwright/PostingsStreams", name := "<init>", desc := "(JJJ)V" } : Jvm.MethodName) prog_126_method_1_code (7 : Nat) (Option.none : Option Jvm.ClassFile.FieldType)).before args0 about1 = true := code_word (m := ⟨3, 0⟩) (meth := k3m0) (c := k3c0) (by decide +kernel) rfl rfl rfl (by decide +kernel)
set_option maxRecDepth 65536 in
theorem w_c2 : (Jvm.Cond.code ({ cls := "java/lang/Record", name := "<init>", desc := "()V" } : Jvm.MethodName) jdk_30_method_1_code (1 : Nat) (Option.none : Option Jvm.ClassFile.FieldType)).before args0 about1 = true := code_word (m := ⟨2, 0⟩) (meth := k2m0) (c := k2c0) (by decide +kernel) rfl rfl rfl (by decide +kernel)
set_option maxRecDepth 65536 in
theorem w_c3 : (Jvm.Cond.code ({ cls := "java/lang/Object", name := "<init>", desc := "()V" } : Jvm.MethodName) object_method_1_code (1 : Nat) (Option.none : Option Jvm.ClassFile.FieldType)).before args0 about1 = true := code_word (m := ⟨0, 0⟩) (meth := k0m0) (c := k0c0) (by decide +kernel) rfl rfl rfl (by decide +kernel)
set_option maxRecDepth 65536 in
theorem w_c4 : (Jvm.Cond.code ({ cls := "com/example/termwright/termwright/PostingsStreams", name := "equals", desc := "(Ljava/lang/Object;)Z" } : Jvm.MethodName) prog_126_method_4_code (3 : Nat) (Option.some Jvm.ClassFile.FieldType.boolean)).before args0 about1 = true := code_word (m := ⟨3, 1⟩) (meth := k3m1) (c := k3c1) (by decide +kernel) rfl rfl rfl (by decide +kernel)
set_option maxRecDepth 65536 in
theorem w_c5 : (Jvm.Cond.code ({ cls := "java/lang/Long", name := "valueOf", desc := "(J)Ljava/lang/Long;" } : Jvm.MethodName) jdk_35_method_24_code (3 : Nat) (Option.some (Jvm.ClassFile.FieldType.object "java/lang/Long"))).before args0 about1 = true := code_word (m := ⟨9, 0⟩) (meth := k9m0) (c := k9c0) (by decide +kernel) rfl rfl rfl (by decide +kernel)
set_option maxRecDepth 65536 in
theorem w_c6 : (Jvm.Cond.code ({ cls := "java/lang/Long", name := "<init>", desc := "(J)V" } : Jvm.MethodName) jdk_35_method_26_code (3 : Nat) (Option.none : Option Jvm.ClassFile.FieldType)).before args0 about1 = true := code_word (m := ⟨9, 1⟩) (meth := k9m1) (c := k9c1) (by decide +kernel) rfl rfl rfl (by decide +kernel)
set_option maxRecDepth 65536 in
theorem w_c7 : (Jvm.Cond.code ({ cls := "java/lang/Number", name := "<init>", desc := "()V" } : Jvm.MethodName) jdk_18_method_1_code (1 : Nat) (Option.none : Option Jvm.ClassFile.FieldType)).before args0 about1 = true := code_word (m := ⟨5, 0⟩) (meth := k5m0) (c := k5c0) (by decide +kernel) rfl rfl rfl (by decide +kernel)
def codes1 : List Jvm.Cond := [Jvm.Cond.code x code maxLocals ret, Jvm.Cond.code ({ cls := "com/example/termwright/termwright/PostingsStreams", name := "<init>", desc := "(JJJ)V" } : Jvm.MethodName) prog_126_method_1_code (7 : Nat) (Option.none : Option Jvm.ClassFile.FieldType), Jvm.Cond.code ({ cls := "java/lang/Record", name := "<init>", desc := "()V" } : Jvm.MethodName) jdk_30_method_1_code (1 : Nat) (Option.none : Option Jvm.ClassFile.FieldType), Jvm.Cond.code ({ cls := "java/lang/Object", name := "<init>", desc := "()V" } : Jvm.MethodName) object_method_1_code (1 : Nat) (Option.none : Option Jvm.ClassFile.FieldType), Jvm.Cond.code ({ cls := "com/example/termwright/termwright/PostingsStreams", name := "equals", desc := "(Ljava/lang/Object;)Z" } : Jvm.MethodName) prog_126_method_4_code (3 : Nat) (Option.some Jvm.ClassFile.FieldType.boolean), Jvm.Cond.code ({ cls := "java/lang/Long", name := "valueOf", desc := "(J)Ljava/lang/Long;" } : Jvm.MethodName) jdk_35_method_24_code (3 : Nat) (Option.some (Jvm.ClassFile.FieldType.object "java/lang/Long")), Jvm.Cond.code ({ cls := "java/lang/Long", name := "<init>", desc := "(J)V" } : Jvm.MethodName) jdk_35_method_26_code (3 : Nat) (Option.none : Option Jvm.ClassFile.FieldType), Jvm.Cond.code ({ cls := "java/lang/Number", name := "<init>", desc := "()V" } : Jvm.MethodName) jdk_18_method_1_code (1 : Nat) (Option.none : Option Jvm.ClassFile.FieldType)]
set_option maxRecDepth 65536 in
theorem codes_eq : words1.filter isCode = codes1 := rfl
theorem w_codes : ∀ c ∈ words1.filter isCode, c.before args0 about1 = true := by
  rw [codes_eq]
  intro c hc
  simp only [codes1, List.mem_cons, List.not_mem_nil, or_false] at hc
  rcases hc with rfl | rfl | rfl | rfl | rfl | rfl | rfl | rfl
  · exact w_c0
  · exact w_c1
  · exact w_c2
  · exact w_c3
  · exact w_c4
  · exact w_c5
  · exact w_c6
  · exact w_c7
set_option maxRecDepth 65536 in
theorem w_t1 : (words1.take 24).all (fun c => isCode c || c.before args0 about1) = true := by decide +kernel
set_option maxRecDepth 65536 in
theorem w_t2 : ((words1.drop 24).take 24).all (fun c => isCode c || c.before args0 about1) = true := by decide +kernel
set_option maxRecDepth 65536 in
theorem w_t3 : ((words1.drop 24).drop 24).all (fun c => isCode c || c.before args0 about1) = true := by decide +kernel
theorem w_tables : (allAtoms (Jvm.Cond.code x code maxLocals ret :: tables_1)).before args0 about1 = true := by
  rw [allAtoms_all]
  show words1.all (fun c => c.before args0 about1) = true
  refine all_split ?_ w_codes
  rw [← List.take_append_drop 24 words1, List.all_append, w_t1, ← List.take_append_drop 24 (words1.drop 24), List.all_append, w_t2, w_t3]
  rfl
set_option maxRecDepth 65536 in
theorem w_rest : rest_1_c.before args0 about1 = true := by decide +kernel
set_option maxRecDepth 65536 in
theorem w_case : (Jvm.Cond.and given_1 narrow_1).before args0 about1 = true := by decide +kernel
theorem w_applies : (headSpec (Jvm.Cond.code x code maxLocals ret :: tables_1) room_1).applies x e0.platform about1 = true :=
  (Spec.applies_iff w_frames).mpr ⟨w_running, w_runnable, w_alone, w_named, w_hears, w_ripe, w_room, w_tables⟩
theorem atStart : AtStart classFile x code maxLocals ret World_1 tables_1 room_1 Calls_1 rest_1 Pre_1 launch0 p0 e0 about1 theMethod args0 below0 :=
  ⟨lists_1, trivial, launch0.admits_env _ _ _, launch0.least_env, fairChoices_fair.cas, fairChoices_fair.clock, w_frames, w_args, w_heap, w_applies, trivial, w_rest, w_case⟩
end start1
theorem witness_1 : WitnessClaimed_1 := ⟨start1.p0, start1.e0, start1.about1, start1.theMethod, start1.args0, start1.below0, start1.atStart⟩
end Jvm.Pilot.@@N@@
