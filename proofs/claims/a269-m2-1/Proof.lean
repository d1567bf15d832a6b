import JvmDerived
import JvmDerived.Pilot.@@N@@Statement
import JvmDerived.Pilot.@@N@@Code
set_option linter.unusedVariables false
set_option linter.unusedSimpArgs false
namespace Jvm.RoadKit
open Sem ClassFile Op Lib Jvm.Stand Jvm.Free Jvm.LawKit
section New
variable {p : Program} {l : Launch} {e : Env} {R : Room} {s : State} {m : MethodId} {args : Array Value} {below : List Frame} {meth : Method} {c : Code} {T : State} {locs : List Loc} {cells slots : Nat}
theorem retI (X : Stand p l e R s m args below meth c T locs cells slots) (hx : p.tables.exec = Jvm.exec) {pc : Nat} {Ls : Array Slot} {z : Int32} {rest : List Value} (hret : meth.sig.returnType = some .int) (hd : decode c.code pc = .ok (.ireturn, 1)) {fs : List Frame}
    (hl : ∀ (f : JFrame) (acts : List Action), f.method = m → f.locked = none → f.entered = [] → (doReturn e (T.setTop f) acts (some (.int z))).1 = T.setFrames fs) : Steps p.tables e below (T.setTop (mkF m pc Ls (.int z :: rest))) (T.setFrames fs) := by
  have hm' : T.vm.method? m = some meth := X.method'
  have hn : narrow .int (.int z) = .int z := rfl
  show Steps p.tables e below (T.setTop { method := m, pc := pc, locals := Ls, stack := _ :: rest, locked := none }) _
  jvm_step X.here [X.here.top, hx, hd, hm', hret, hn]
  first | (intro acts; rw [hl _ acts rfl rfl rfl]) | rw [hl _ _ rfl rfl rfl]
  exact Steps.refl _
end New
end Jvm.RoadKit
namespace Jvm.Pilot.@@N@@
open Jvm Jvm.ClassFile Sem Op Lib Jvm.Free Jvm.Stand Jvm.LawKit Jvm.RoadKit Bundle Jvm.Pilot.@@N@@.Jvm.D
/-- an array of n components, the i-th holding f i -/
def own_Ar (Z : State) (h : Heap) (a : Addr) (ty : FieldType) (n : Nat) (f : Nat → Value) : Prop :=
  ∃ c : Cell, Arr Z h a c ty ∧ c.slots.size = n ∧ n < 2147483648 ∧ (∀ i, i < n → c.slots[i]? = some (f i)) ∧ ∀ i, i < n → fits ty (f i) = true
theorem own_nat {j : Int32} (q : 0 ≤ j.toInt) : (j.toNatClampNeg : Int) = j.toInt := by
  simp only [Int32.toNatClampNeg]; omega
theorem own_lt0 {j : Int32} (q : 0 ≤ j.toInt) : ¬ j < 0 := by
  rw [Int32.lt_iff_toInt_lt]; have : (0 : Int32).toInt = 0 := rfl; omega
theorem own_ge0 {j : Int32} (q : ¬ j < 0) : 0 ≤ j.toInt := by
  rw [Int32.lt_iff_toInt_lt] at q; have : (0 : Int32).toInt = 0 := rfl; omega
theorem own_Ar.lt {Z : State} {h : Heap} {a : Addr} {ty : FieldType} {n : Nat} {f : Nat → Value} (F : own_Ar Z h a ty n f) : a < h.size := by obtain ⟨c, A, -⟩ := F; exact A.lt
theorem own_Ar.ext {Z : State} {h h' : Heap} {a : Addr} {ty : FieldType} {n : Nat} {f : Nat → Value} (F : own_Ar Z h a ty n f) (E : Ext h h') : own_Ar Z h' a ty n f := by obtain ⟨c, A, r⟩ := F; exact ⟨c, A.ext E, r⟩
theorem own_Ar.other {Z : State} {h h' : Heap} {a b : Addr} {sl : Nat} {v : Value} {ty : FieldType} {n : Nat} {f : Nat → Value} (F : own_Ar Z h b ty n f) (W : Wr h h' a sl v) (q : b ≠ a) : own_Ar Z h' b ty n f := by obtain ⟨c, A, r⟩ := F; exact ⟨c, A.other W q, r⟩
theorem own_Ar.keep {Z : State} {h h' : Heap} {a : Addr} {ws : List Addr} {ty : FieldType} {n : Nat} {f : Nat → Value} (F : own_Ar Z h a ty n f) (K : Keep h h' ws) (q : a ∉ ws) : own_Ar Z h' a ty n f := by obtain ⟨c, A, r⟩ := F; exact ⟨c, ⟨K.2.1 a c A.1 q, A.2⟩, r⟩
theorem own_Ar.eq {Z : State} {h : Heap} {a : Addr} {ty : FieldType} {n : Nat} {f g : Nat → Value} (F : own_Ar Z h a ty n f) (q : ∀ i, i < n → f i = g i) : own_Ar Z h a ty n g := by
  obtain ⟨c, A, r1, r2, r3, r4⟩ := F
  exact ⟨c, A, r1, r2, fun i hi => by rw [← q i hi]; exact r3 i hi, fun i hi => by rw [← q i hi]; exact r4 i hi⟩
theorem own_Ar.size {Z : State} {h : Heap} {a : Addr} {ty : FieldType} {n m : Nat} {f : Nat → Value} (F : own_Ar Z h a ty n f) (q : n = m) : own_Ar Z h a ty m f := q ▸ F
theorem own_fits_default (ty : FieldType) : fits ty (defaultValue ty) = true := by cases ty <;> rfl
/-- a new array -/
theorem own_Ar.new {Z : State} {h : Heap} {a : Addr} {k : ClassId} {ty : FieldType} {z : Int32} {n : Nat} (A : Arr Z h a (newA k ty z) ty) (q : z.toInt = n) : own_Ar Z h a ty n (fun _ => defaultValue ty) := by
  have e : z.toNatClampNeg = n := by have := own_nat (j := z) (by omega); omega
  obtain ⟨c, A', q1, S, q3, H, G⟩ := Arv.new A (own_lt0 (by omega))
  have r := z.toInt_lt
  refine ⟨c, A', S.trans e, by omega, fun i hi => by rw [H i (by omega)]; rfl, fun i hi => own_fits_default ty⟩
/-- a component read -/
theorem own_Ar.at {Z : State} {h : Heap} {a : Addr} {ty : FieldType} {n : Nat} {f : Nat → Value} (F : own_Ar Z h a ty n f) {j : Int32} {i : Nat} (hj : j.toInt = i) (hi : i < n) :
    ∃ c : Cell, Arr Z h a c ty ∧ ¬ (j < 0 ∨ c.slots.size ≤ j.toNatClampNeg) ∧ c.slots[j.toNatClampNeg]? = some (f i) := by
  obtain ⟨c, A, r1, r2, r3, r4⟩ := F
  have e : j.toNatClampNeg = i := by have := own_nat (j := j) (by omega); omega
  refine ⟨c, A, fun q => q.elim (own_lt0 (by omega)) (fun u => by omega), by rw [e]; exact r3 i hi⟩
/-- its length -/
theorem own_Ar.len {Z : State} {h : Heap} {a : Addr} {ty : FieldType} {n : Nat} {f : Nat → Value} (F : own_Ar Z h a ty n f) : ∃ c : Cell, Arr Z h a c ty ∧ c.slots.size.toInt32 = Int32.ofNat n ∧ n < 2147483648 := by
  obtain ⟨c, A, r1, r2, r3, r4⟩ := F
  exact ⟨c, A, by rw [r1], r2⟩
theorem own_ofNat {n : Nat} (h : n < 2147483648) : (Int32.ofNat n).toInt = n := Int32.toInt_ofNat_of_lt (by omega)
/-- a component written -/
theorem own_Ar.set {Z : State} {h h' : Heap} {a : Addr} {ty : FieldType} {n : Nat} {f : Nat → Value} {v : Value} (F : own_Ar Z h a ty n f) {j : Int32} {i : Nat} (hj : j.toInt = i) (W : Wr h h' a j.toNatClampNeg v) (hv : fits ty v = true) :
    own_Ar Z h' a ty n (fun k => if k = i then v else f k) := by
  obtain ⟨c, A, r1, r2, r3, r4⟩ := F
  have e : j.toNatClampNeg = i := by have := own_nat (j := j) (by omega); omega
  obtain ⟨c', q1, q2, q3, q4, q5, q6, q7⟩ := wr_at W A.1
  obtain ⟨q8, q9, q10⟩ := q7 rfl
  have A' := A.same W
  rw [← q8] at A'
  refine ⟨c', A', q4.trans r1, r2, fun k hk => ?_, fun k hk => ?_⟩ <;> dsimp only
  · by_cases u : k = i
    · subst u; rw [if_pos rfl, ← e]; exact q9
    · rw [if_neg u, q6 k (by omega)]; exact r3 k hk
  · by_cases u : k = i
    · rw [if_pos u]; exact hv
    · rw [if_neg u]; exact r4 k hk
theorem own_ins {j : Int32} {n i : Nat} {c : Cell} (r1 : c.slots.size = n) (hj : j.toInt = i) (hi : i < n) : ¬ (j < 0 ∨ c.slots.size ≤ j.toNatClampNeg) := by
  have e : j.toNatClampNeg = i := by have := own_nat (j := j) (by omega); omega
  exact fun q => q.elim (own_lt0 (by omega)) (fun u => by omega)
theorem own_clone {p : Program} {l : Launch} {e : Env} {R : Room} {s : State} {m : MethodId} {args : Array Value} {below : List Frame} {meth : Method} {c : Code} {T : State} {locs : List Loc} {cells slots : Nat} {Z : State} {h : Heap} {a : Addr}
    (X : Stand p l e R s m args below meth c T locs cells slots) (hx : p.tables.exec = Jvm.exec) (hZ : Z.Warmed39 s.vm) {a0 : Array Value} {own ad : String} {index : Nat} (hown : s.vm.findClass own = some m.cls)
    (w1 : (Cond.methodLink own index ⟨ad, "clone", "()Ljava/lang/Object;"⟩).before a0 Z = true) (w2 : (Cond.sameMethod ad "java/lang/Object" "clone" "()Ljava/lang/Object;").before a0 Z = true) (w3 : (Cond.native ⟨"java/lang/Object", "clone", "()Ljava/lang/Object;"⟩).before a0 Z = true)
    (w4 : (Cond.instanceMethod ⟨"java/lang/Object", "clone", "()Ljava/lang/Object;"⟩).before a0 Z = true) (w5 : (Cond.selects ad ⟨ad, "clone", "()Ljava/lang/Object;"⟩ ⟨"java/lang/Object", "clone", "()Ljava/lang/Object;"⟩).before a0 Z = true) (w6 : (Cond.castable ad "java/lang/Cloneable").before a0 Z = true)
    (eT : T.heap = h) {ty : FieldType} {n : Nat} {f : Nat → Value} (A : own_Ar Z h a ty n f) (E : Exa Z h a ad) {g : JFrame} (hg : g.method = m) (hsize : g.locals.size = c.maxLocals) {rest : List Value} (hs : g.stack = .ref a :: rest) (hd : decode c.code g.pc = .ok (.invokevirtual index, 3))
    (hf : 1 ≤ R.frames) {W cap : Nat} (hW : 2 * g.monitorRoom + (rest.map fun v => v.category).sum ≤ W) (hl : W + 14 ≤ R.locals) (hcap : n ≤ cap) (hc : cells + 1 ≤ R.cells) (hsl : slots + cap ≤ R.slots) :
    ∃ T' h', Stand p l e R s m args below meth c T' locs (cells + 1) (slots + cap) ∧ T'.heap = h' ∧ Ext h h' ∧ own_Ar Z h' h.size ty n f ∧ Exa Z h' h.size ad ∧
      ∀ target, Steps p.tables e below (T'.setTop { g with pc := g.pc + 3, stack := .ref h.size :: rest }) target → Steps p.tables e below (T.setTop g) target := by
  obtain ⟨cl, A1, r1, r2, r3, r4⟩ := A
  have FC : FitC Z cl := fitC_of A1 fun i hi v hv => by rw [r3 i (by omega)] at hv; cases hv; exact r4 i (by omega)
  obtain ⟨T', h', X', e', ex, A', E', st⟩ := cloneA X hx hZ hown w1 w2 w3 w4 w5 w6 eT A1 E FC hg hsize hs hd hf hW hl (by rw [r1]; exact hcap) hc hsl
  exact ⟨T', h', X', e', ex, ⟨cloneOf cl, A', r1, r2, r3, r4⟩, E', st⟩
def own_max (p1 p2 : Int32) : Int32 := if p1 < p2 then p2 else p1
theorem own_max_t {p1 p2 : Int32} (h : p1 < p2) : own_max p1 p2 = p2 := if_pos h
theorem own_max_f {p1 p2 : Int32} (h : ¬ p1 < p2) : own_max p1 p2 = p1 := if_neg h
def own_min (p1 p2 : Int32) : Int32 := if p2 < p1 then p2 else p1
theorem own_min_t {p1 p2 : Int32} (h : p2 < p1) : own_min p1 p2 = p2 := if_pos h
theorem own_min_f {p1 p2 : Int32} (h : ¬ p2 < p1) : own_min p1 p2 = p1 := if_neg h
def own_maxL (p1 p2 : Int64) : Int64 := if p1 < p2 then p2 else p1
theorem own_maxL_t {p1 p2 : Int64} (h : p1 < p2) : own_maxL p1 p2 = p2 := if_pos h
theorem own_maxL_f {p1 p2 : Int64} (h : ¬ p1 < p2) : own_maxL p1 p2 = p1 := if_neg h
def own_minL (p1 p2 : Int64) : Int64 := if p2 < p1 then p2 else p1
theorem own_minL_t {p1 p2 : Int64} (h : p2 < p1) : own_minL p1 p2 = p2 := if_pos h
theorem own_minL_f {p1 p2 : Int64} (h : ¬ p2 < p1) : own_minL p1 p2 = p1 := if_neg h
theorem own_lt_of {p q : Int32} (h : p.toInt < q.toInt) : p < q := Int32.lt_iff_toInt_lt.mpr h
theorem own_nlt_of {p q : Int32} (h : q.toInt ≤ p.toInt) : ¬ p < q := fun u => by rw [Int32.lt_iff_toInt_lt] at u; omega
theorem own_ltL_of {p q : Int64} (h : p.toInt < q.toInt) : p < q := Int64.lt_iff_toInt_lt.mpr h
theorem own_nltL_of {p q : Int64} (h : q.toInt ≤ p.toInt) : ¬ p < q := fun u => by rw [Int64.lt_iff_toInt_lt] at u; omega
theorem own_ne_of {p q : Int32} (h : p.toInt ≠ q.toInt) : ¬ p = q := fun u => h (by rw [u])
theorem own_eq_of {p q : Int32} (h : p.toInt = q.toInt) : p = q := Int32.toInt_inj.mp h
theorem own_inc {i : Int32} {j n : Nat} (h : i.toInt = j) (q : j < n) (r : n < 2147483648) : (i + 1).toInt = (j + 1 : Nat) := by
  have a := c_iadd i 1
  have b := rng32 (i + 1)
  have z : (1 : Int32).toInt = 1 := rfl
  omega
def own_z (x : Int32) : Int32 := if x = 0 then 1 else 0
theorem own_z_0 {x : Int32} (h : x = 0) : own_z x = 1 := if_pos h
theorem own_z_1 {x : Int32} (h : ¬ x = 0) : own_z x = 0 := if_neg h
theorem own_b2 (x : Int32) : nar .byte (x.toInt8.toInt32) = x.toInt8.toInt32 := by
  show (x.toInt8.toInt32).toInt8.toInt32 = _
  rw [Int8.toInt8_toInt32]
theorem own_m4 (p : Int32) : (p &&& (3 : Int32)) = 0 ∨ (p &&& (3 : Int32)) = 1 ∨ (p &&& (3 : Int32)) = 2 ∨ (p &&& (3 : Int32)) = 3 := by
  have a := c_and p 3 (by decide)
  have z : (3 : Int32).toInt = 3 := rfl
  have z0 : (0 : Int32).toInt = 0 := rfl
  have z1 : (1 : Int32).toInt = 1 := rfl
  have z2 : (2 : Int32).toInt = 2 := rfl
  have : (p &&& 3).toInt = 0 ∨ (p &&& 3).toInt = 1 ∨ (p &&& 3).toInt = 2 ∨ (p &&& 3).toInt = 3 := by omega
  rcases this with h | h | h | h
  · exact Or.inl (own_eq_of (by omega))
  · exact Or.inr (Or.inl (own_eq_of (by omega)))
  · exact Or.inr (Or.inr (Or.inl (own_eq_of (by omega))))
  · exact Or.inr (Or.inr (Or.inr (own_eq_of (by omega))))
theorem own_td (x : Int32) : ∀ i, i < 20 → ∃ y : Int32, (if i = 0 then Value.int x else Value.int 0) = .int y := fun i _ => by
  by_cases h : i = 0
  · exact ⟨x, if_pos h⟩
  · exact ⟨0, if_neg h⟩
theorem own_sA {Z : State} {a0 : Array Value} (hw : ∀ d ∈ tables_1, d.before a0 Z = true) : ∀ a ∈ Bundle.stringAtoms, a.before a0 Z = true := fun a ha => by
  simp only [Bundle.stringAtoms, List.mem_cons, List.not_mem_nil, or_false] at ha
  rcases ha with rfl | rfl | rfl | rfl | rfl | rfl | rfl
  · exact (hw _ (List.mem_of_getElem? (i := 5) rfl))
  · exact (hw _ (List.mem_of_getElem? (i := 6) rfl))
  · exact (hw _ (List.mem_of_getElem? (i := 0) rfl))
  · exact (hw _ (List.mem_of_getElem? (i := 7) rfl))
  · exact (hw _ (List.mem_of_getElem? (i := 8) rfl))
  · exact (hw _ (List.mem_of_getElem? (i := 9) rfl))
  · exact (hw _ (List.mem_of_getElem? (i := 10) rfl))
theorem pd_0 : parseMethodDescriptor "(I[BLjava/lang/String;Ljava/lang/String;[B)V" = some ⟨[.int, (.array .byte), (.object "java/lang/String"), (.object "java/lang/String"), (.array .byte)], none⟩ := by decide +kernel
theorem pd_1 : parseMethodDescriptor "()V" = some ⟨[], none⟩ := by decide +kernel
theorem pd_2 : parseMethodDescriptor "([B)Z" = some ⟨[(.array .byte)], some .boolean⟩ := by decide +kernel
theorem pd_3 : parseMethodDescriptor "()[B" = some ⟨[], some (.array .byte)⟩ := by decide +kernel
theorem pd_4 : parseMethodDescriptor "()Ljava/lang/Object;" = some ⟨[], some (.object "java/lang/Object")⟩ := by decide +kernel
theorem pd_5 : parseMethodDescriptor "([BIII)Z" = some ⟨[(.array .byte), .int, .int, .int], some .boolean⟩ := by decide +kernel
theorem pd_6 : parseMethodDescriptor "([B)V" = some ⟨[(.array .byte)], none⟩ := by decide +kernel
theorem d1_0 : decode prog_49_method_2_code 0 = .ok (.aload_n 0, 1) := by decide +kernel
theorem d1_1 : decode prog_49_method_2_code 1 = .ok (.invokespecial 1, 3) := by decide +kernel
theorem d1_4 : decode prog_49_method_2_code 4 = .ok (.aload_n 0, 1) := by decide +kernel
theorem d1_5 : decode prog_49_method_2_code 5 = .ok (.iload_n 1, 1) := by decide +kernel
theorem d1_6 : decode prog_49_method_2_code 6 = .ok (.putfield 7, 3) := by decide +kernel
theorem d1_9 : decode prog_49_method_2_code 9 = .ok (.aload_n 0, 1) := by decide +kernel
theorem d1_10 : decode prog_49_method_2_code 10 = .ok (.aload_n 2, 1) := by decide +kernel
theorem d1_11 : decode prog_49_method_2_code 11 = .ok (.putfield 13, 3) := by decide +kernel
theorem d1_14 : decode prog_49_method_2_code 14 = .ok (.aload_n 0, 1) := by decide +kernel
theorem d1_15 : decode prog_49_method_2_code 15 = .ok (.aload_n 3, 1) := by decide +kernel
theorem d1_16 : decode prog_49_method_2_code 16 = .ok (.putfield 23, 3) := by decide +kernel
theorem d1_19 : decode prog_49_method_2_code 19 = .ok (.aload_n 0, 1) := by decide +kernel
theorem d1_20 : decode prog_49_method_2_code 20 = .ok (.aconst_null, 1) := by decide +kernel
theorem d1_21 : decode prog_49_method_2_code 21 = .ok (.putfield 27, 3) := by decide +kernel
theorem d1_24 : decode prog_49_method_2_code 24 = .ok (.aload_n 0, 1) := by decide +kernel
theorem d1_25 : decode prog_49_method_2_code 25 = .ok (.aload 4, 2) := by decide +kernel
theorem d1_27 : decode prog_49_method_2_code 27 = .ok (.putfield 31, 3) := by decide +kernel
theorem d1_30 : decode prog_49_method_2_code 30 = .ok (.aload_n 0, 1) := by decide +kernel
theorem d1_31 : decode prog_49_method_2_code 31 = .ok (.aconst_null, 1) := by decide +kernel
theorem d1_32 : decode prog_49_method_2_code 32 = .ok (.putfield 34, 3) := by decide +kernel
theorem d1_35 : decode prog_49_method_2_code 35 = .ok (.aload_n 0, 1) := by decide +kernel
theorem d1_36 : decode prog_49_method_2_code 36 = .ok (.aconst_null, 1) := by decide +kernel
theorem d1_37 : decode prog_49_method_2_code 37 = .ok (.putfield 38, 3) := by decide +kernel
theorem d1_40 : decode prog_49_method_2_code 40 = .ok (.aload_n 0, 1) := by decide +kernel
theorem d1_41 : decode prog_49_method_2_code 41 = .ok (.iconst (-1), 1) := by decide +kernel
theorem d1_42 : decode prog_49_method_2_code 42 = .ok (.putfield 41, 3) := by decide +kernel
theorem d1_45 : decode prog_49_method_2_code 45 = .ok (.aload_n 0, 1) := by decide +kernel
theorem d1_46 : decode prog_49_method_2_code 46 = .ok (.aload 5, 2) := by decide +kernel
theorem d1_48 : decode prog_49_method_2_code 48 = .ok (.putfield 44, 3) := by decide +kernel
theorem d1_51 : decode prog_49_method_2_code 51 = .ok (.aload_n 0, 1) := by decide +kernel
theorem d1_52 : decode prog_49_method_2_code 52 = .ok (.aload_n 2, 1) := by decide +kernel
theorem d1_53 : decode prog_49_method_2_code 53 = .ok (.invokestatic 47, 3) := by decide +kernel
theorem d1_56 : decode prog_49_method_2_code 56 = .ok (.putfield 51, 3) := by decide +kernel
theorem d1_59 : decode prog_49_method_2_code 59 = .ok (.return_, 1) := by decide +kernel
theorem pn_1 : plainName "com/example/votal/votal/log/LogRecord" = true := by first | (simp [plainName, overriddenIn]; done) | decide +kernel
theorem d3_0 : decode prog_49_method_16_code 0 = .ok (.iconst 1, 1) := by decide +kernel
theorem d3_1 : decode prog_49_method_16_code 1 = .ok (.istore_n 1, 1) := by decide +kernel
theorem d3_2 : decode prog_49_method_16_code 2 = .ok (.aload_n 0, 1) := by decide +kernel
theorem d3_3 : decode prog_49_method_16_code 3 = .ok (.astore_n 2, 1) := by decide +kernel
theorem d3_4 : decode prog_49_method_16_code 4 = .ok (.aload_n 2, 1) := by decide +kernel
theorem d3_5 : decode prog_49_method_16_code 5 = .ok (.arraylength, 1) := by decide +kernel
theorem d3_6 : decode prog_49_method_16_code 6 = .ok (.istore_n 3, 1) := by decide +kernel
theorem d3_7 : decode prog_49_method_16_code 7 = .ok (.iconst 0, 1) := by decide +kernel
theorem d3_8 : decode prog_49_method_16_code 8 = .ok (.istore 4, 2) := by decide +kernel
theorem d3_10 : decode prog_49_method_16_code 10 = .ok (.iload 4, 2) := by decide +kernel
theorem d3_12 : decode prog_49_method_16_code 12 = .ok (.iload_n 3, 1) := by decide +kernel
theorem d3_13 : decode prog_49_method_16_code 13 = .ok (.if_icmp .ge 28, 3) := by decide +kernel
theorem d3_16 : decode prog_49_method_16_code 16 = .ok (.aload_n 2, 1) := by decide +kernel
theorem d3_17 : decode prog_49_method_16_code 17 = .ok (.iload 4, 2) := by decide +kernel
theorem d3_19 : decode prog_49_method_16_code 19 = .ok (.baload, 1) := by decide +kernel
theorem d3_20 : decode prog_49_method_16_code 20 = .ok (.istore 5, 2) := by decide +kernel
theorem d3_22 : decode prog_49_method_16_code 22 = .ok (.iload_n 1, 1) := by decide +kernel
theorem d3_23 : decode prog_49_method_16_code 23 = .ok (.iload 5, 2) := by decide +kernel
theorem d3_25 : decode prog_49_method_16_code 25 = .ok (.ifCond .ne 7, 3) := by decide +kernel
theorem d3_28 : decode prog_49_method_16_code 28 = .ok (.iconst 1, 1) := by decide +kernel
theorem d3_29 : decode prog_49_method_16_code 29 = .ok (.goto 4, 3) := by decide +kernel
theorem d3_32 : decode prog_49_method_16_code 32 = .ok (.iconst 0, 1) := by decide +kernel
theorem d3_33 : decode prog_49_method_16_code 33 = .ok (.iand, 1) := by decide +kernel
theorem d3_34 : decode prog_49_method_16_code 34 = .ok (.istore_n 1, 1) := by decide +kernel
theorem d3_35 : decode prog_49_method_16_code 35 = .ok (.iinc 4 1, 3) := by decide +kernel
theorem d3_38 : decode prog_49_method_16_code 38 = .ok (.goto (-28), 3) := by decide +kernel
theorem d3_41 : decode prog_49_method_16_code 41 = .ok (.iload_n 1, 1) := by decide +kernel
theorem d3_42 : decode prog_49_method_16_code 42 = .ok (.ireturn, 1) := by decide +kernel
theorem pn_3 : plainName "com/example/votal/votal/log/LogRecord" = true := by first | (simp [plainName, overriddenIn]; done) | decide +kernel
theorem d4_0 : decode prog_49_method_13_code 0 = .ok (.aload_n 0, 1) := by decide +kernel
theorem d4_1 : decode prog_49_method_13_code 1 = .ok (.getfield 44, 3) := by decide +kernel
theorem d4_4 : decode prog_49_method_13_code 4 = .ok (.ifnonnull 7, 3) := by decide +kernel
theorem d4_7 : decode prog_49_method_13_code 7 = .ok (.aconst_null, 1) := by decide +kernel
theorem d4_8 : decode prog_49_method_13_code 8 = .ok (.goto 13, 3) := by decide +kernel
theorem d4_11 : decode prog_49_method_13_code 11 = .ok (.aload_n 0, 1) := by decide +kernel
theorem d4_12 : decode prog_49_method_13_code 12 = .ok (.getfield 44, 3) := by decide +kernel
theorem d4_15 : decode prog_49_method_13_code 15 = .ok (.invokevirtual 91, 3) := by decide +kernel
theorem d4_18 : decode prog_49_method_13_code 18 = .ok (.checkcast 73, 3) := by decide +kernel
theorem d4_21 : decode prog_49_method_13_code 21 = .ok (.areturn, 1) := by decide +kernel
theorem pn_4 : plainName "com/example/votal/votal/log/LogRecord" = true := by first | (simp [plainName, overriddenIn]; done) | decide +kernel
theorem d5_0 : decode method_2_code 0 = .ok (.aload_n 0, 1) := by decide +kernel
theorem d5_1 : decode method_2_code 1 = .ok (.ifnull 9, 3) := by decide +kernel
theorem d5_4 : decode method_2_code 4 = .ok (.aload_n 0, 1) := by decide +kernel
theorem d5_5 : decode method_2_code 5 = .ok (.arraylength, 1) := by decide +kernel
theorem d5_6 : decode method_2_code 6 = .ok (.iload_n 1, 1) := by decide +kernel
theorem d5_7 : decode method_2_code 7 = .ok (.if_icmp .eq 5, 3) := by decide +kernel
theorem d5_10 : decode method_2_code 10 = .ok (.iconst 0, 1) := by decide +kernel
theorem d5_11 : decode method_2_code 11 = .ok (.ireturn, 1) := by decide +kernel
theorem d5_12 : decode method_2_code 12 = .ok (.iload_n 1, 1) := by decide +kernel
theorem d5_13 : decode method_2_code 13 = .ok (.iconst 2, 1) := by decide +kernel
theorem d5_14 : decode method_2_code 14 = .ok (.if_icmp .lt 24, 3) := by decide +kernel
theorem d5_17 : decode method_2_code 17 = .ok (.aload_n 0, 1) := by decide +kernel
theorem d5_18 : decode method_2_code 18 = .ok (.iconst 0, 1) := by decide +kernel
theorem d5_19 : decode method_2_code 19 = .ok (.baload, 1) := by decide +kernel
theorem d5_20 : decode method_2_code 20 = .ok (.iload_n 2, 1) := by decide +kernel
theorem d5_21 : decode method_2_code 21 = .ok (.i2b, 1) := by decide +kernel
theorem d5_22 : decode method_2_code 22 = .ok (.if_icmp .ne 14, 3) := by decide +kernel
theorem d5_25 : decode method_2_code 25 = .ok (.aload_n 0, 1) := by decide +kernel
theorem d5_26 : decode method_2_code 26 = .ok (.iconst 1, 1) := by decide +kernel
theorem d5_27 : decode method_2_code 27 = .ok (.baload, 1) := by decide +kernel
theorem d5_28 : decode method_2_code 28 = .ok (.iload_n 2, 1) := by decide +kernel
theorem d5_29 : decode method_2_code 29 = .ok (.bipush 8, 2) := by decide +kernel
theorem d5_31 : decode method_2_code 31 = .ok (.ishr, 1) := by decide +kernel
theorem d5_32 : decode method_2_code 32 = .ok (.i2b, 1) := by decide +kernel
theorem d5_33 : decode method_2_code 33 = .ok (.if_icmp .eq 5, 3) := by decide +kernel
theorem d5_36 : decode method_2_code 36 = .ok (.iconst 0, 1) := by decide +kernel
theorem d5_37 : decode method_2_code 37 = .ok (.ireturn, 1) := by decide +kernel
theorem d5_38 : decode method_2_code 38 = .ok (.iload_n 1, 1) := by decide +kernel
theorem d5_39 : decode method_2_code 39 = .ok (.iconst 4, 1) := by decide +kernel
theorem d5_40 : decode method_2_code 40 = .ok (.if_icmp .lt 24, 3) := by decide +kernel
theorem d5_43 : decode method_2_code 43 = .ok (.aload_n 0, 1) := by decide +kernel
theorem d5_44 : decode method_2_code 44 = .ok (.iconst 2, 1) := by decide +kernel
theorem d5_45 : decode method_2_code 45 = .ok (.baload, 1) := by decide +kernel
theorem d5_46 : decode method_2_code 46 = .ok (.iload_n 3, 1) := by decide +kernel
theorem d5_47 : decode method_2_code 47 = .ok (.i2b, 1) := by decide +kernel
theorem d5_48 : decode method_2_code 48 = .ok (.if_icmp .ne 14, 3) := by decide +kernel
theorem d5_51 : decode method_2_code 51 = .ok (.aload_n 0, 1) := by decide +kernel
theorem d5_52 : decode method_2_code 52 = .ok (.iconst 3, 1) := by decide +kernel
theorem d5_53 : decode method_2_code 53 = .ok (.baload, 1) := by decide +kernel
theorem d5_54 : decode method_2_code 54 = .ok (.iload_n 3, 1) := by decide +kernel
theorem d5_55 : decode method_2_code 55 = .ok (.bipush 8, 2) := by decide +kernel
theorem d5_57 : decode method_2_code 57 = .ok (.ishr, 1) := by decide +kernel
theorem d5_58 : decode method_2_code 58 = .ok (.i2b, 1) := by decide +kernel
theorem d5_59 : decode method_2_code 59 = .ok (.if_icmp .eq 5, 3) := by decide +kernel
theorem d5_62 : decode method_2_code 62 = .ok (.iconst 0, 1) := by decide +kernel
theorem d5_63 : decode method_2_code 63 = .ok (.ireturn, 1) := by decide +kernel
theorem d5_64 : decode method_2_code 64 = .ok (.iconst 1, 1) := by decide +kernel
theorem d5_65 : decode method_2_code 65 = .ok (.ireturn, 1) := by decide +kernel
theorem pn_5 : plainName "com/example/votal/votal/log/LogRecordGetTemplateDataPinLaw" = true := by first | (simp [plainName, overriddenIn]; done) | decide +kernel
theorem d6_0 : decode method_3_code 0 = .ok (.aload_n 0, 1) := by decide +kernel
theorem d6_1 : decode method_3_code 1 = .ok (.arraylength, 1) := by decide +kernel
theorem d6_2 : decode method_3_code 2 = .ok (.iconst 2, 1) := by decide +kernel
theorem d6_3 : decode method_3_code 3 = .ok (.if_icmp .lt 21, 3) := by decide +kernel
theorem d6_6 : decode method_3_code 6 = .ok (.aload_n 0, 1) := by decide +kernel
theorem d6_7 : decode method_3_code 7 = .ok (.iconst 0, 1) := by decide +kernel
theorem d6_8 : decode method_3_code 8 = .ok (.aload_n 0, 1) := by decide +kernel
theorem d6_9 : decode method_3_code 9 = .ok (.iconst 0, 1) := by decide +kernel
theorem d6_10 : decode method_3_code 10 = .ok (.baload, 1) := by decide +kernel
theorem d6_11 : decode method_3_code 11 = .ok (.iconst (-1), 1) := by decide +kernel
theorem d6_12 : decode method_3_code 12 = .ok (.ixor, 1) := by decide +kernel
theorem d6_13 : decode method_3_code 13 = .ok (.i2b, 1) := by decide +kernel
theorem d6_14 : decode method_3_code 14 = .ok (.bastore, 1) := by decide +kernel
theorem d6_15 : decode method_3_code 15 = .ok (.aload_n 0, 1) := by decide +kernel
theorem d6_16 : decode method_3_code 16 = .ok (.iconst 1, 1) := by decide +kernel
theorem d6_17 : decode method_3_code 17 = .ok (.aload_n 0, 1) := by decide +kernel
theorem d6_18 : decode method_3_code 18 = .ok (.iconst 1, 1) := by decide +kernel
theorem d6_19 : decode method_3_code 19 = .ok (.baload, 1) := by decide +kernel
theorem d6_20 : decode method_3_code 20 = .ok (.iconst (-1), 1) := by decide +kernel
theorem d6_21 : decode method_3_code 21 = .ok (.ixor, 1) := by decide +kernel
theorem d6_22 : decode method_3_code 22 = .ok (.i2b, 1) := by decide +kernel
theorem d6_23 : decode method_3_code 23 = .ok (.bastore, 1) := by decide +kernel
theorem d6_24 : decode method_3_code 24 = .ok (.aload_n 0, 1) := by decide +kernel
theorem d6_25 : decode method_3_code 25 = .ok (.arraylength, 1) := by decide +kernel
theorem d6_26 : decode method_3_code 26 = .ok (.iconst 4, 1) := by decide +kernel
theorem d6_27 : decode method_3_code 27 = .ok (.if_icmp .lt 21, 3) := by decide +kernel
theorem d6_30 : decode method_3_code 30 = .ok (.aload_n 0, 1) := by decide +kernel
theorem d6_31 : decode method_3_code 31 = .ok (.iconst 2, 1) := by decide +kernel
theorem d6_32 : decode method_3_code 32 = .ok (.aload_n 0, 1) := by decide +kernel
theorem d6_33 : decode method_3_code 33 = .ok (.iconst 2, 1) := by decide +kernel
theorem d6_34 : decode method_3_code 34 = .ok (.baload, 1) := by decide +kernel
theorem d6_35 : decode method_3_code 35 = .ok (.iconst (-1), 1) := by decide +kernel
theorem d6_36 : decode method_3_code 36 = .ok (.ixor, 1) := by decide +kernel
theorem d6_37 : decode method_3_code 37 = .ok (.i2b, 1) := by decide +kernel
theorem d6_38 : decode method_3_code 38 = .ok (.bastore, 1) := by decide +kernel
theorem d6_39 : decode method_3_code 39 = .ok (.aload_n 0, 1) := by decide +kernel
theorem d6_40 : decode method_3_code 40 = .ok (.iconst 3, 1) := by decide +kernel
theorem d6_41 : decode method_3_code 41 = .ok (.aload_n 0, 1) := by decide +kernel
theorem d6_42 : decode method_3_code 42 = .ok (.iconst 3, 1) := by decide +kernel
theorem d6_43 : decode method_3_code 43 = .ok (.baload, 1) := by decide +kernel
theorem d6_44 : decode method_3_code 44 = .ok (.iconst (-1), 1) := by decide +kernel
theorem d6_45 : decode method_3_code 45 = .ok (.ixor, 1) := by decide +kernel
theorem d6_46 : decode method_3_code 46 = .ok (.i2b, 1) := by decide +kernel
theorem d6_47 : decode method_3_code 47 = .ok (.bastore, 1) := by decide +kernel
theorem d6_48 : decode method_3_code 48 = .ok (.return_, 1) := by decide +kernel
theorem pn_6 : plainName "com/example/votal/votal/log/LogRecordGetTemplateDataPinLaw" = true := by first | (simp [plainName, overriddenIn]; done) | decide +kernel
theorem pn_0 : plainName "com/example/votal/votal/log/LogRecordGetTemplateDataPinLaw" = true := by first | (simp [plainName, overriddenIn]; done) | decide +kernel
theorem ef_rm3 (m : MethodId) (x0 : Addr) : entryFrame m #[(.ref x0)] 6 = mkF m 0 #[.val (.ref x0), .unset, .unset, .unset, .unset, .unset] [] := by first | (simp [entryFrame, mkF, argsToLocals, Value.category]; done) | rfl
def Q3 (Z : State) (a1 : Addr) (n1 : Nat) (f : Nat → Value) (h0 : Heap) (n0 : Nat) (v : Option Value) (h : Heap) (L : List Loc) : Prop := ∃ r : Int32, v = some (.int r) ∧ Fr n0 L ∧ h = h0
set_option maxRecDepth 65536 in
set_option maxHeartbeats 40000000 in
theorem rm3 (l : Launch) (Z : State) (a0 : Array Value) (hw : ∀ d ∈ tables_1, d.before a0 Z = true) (ws : List Jvm.Cond) (a1 : Addr) (n1 : Nat) (f : Nat → Value) (h0 : Heap) (n0 : Nat) (Z0 : n0 ≤ h0.size) (V1 : own_Ar Z h0 a1 .byte n1 f) (hf : ∀ i, i < n1 → ∃ x : Int32, f i = .int x) (h1 : 1 ≤ n1) :
    MetFree l (⟨"com/example/votal/votal/log/LogRecord", "isZero", "([B)Z"⟩ : MethodName) (head1 (Jvm.Cond.code (⟨"com/example/votal/votal/log/LogRecord", "isZero", "([B)Z"⟩ : MethodName) prog_49_method_16_code 6 (some .boolean) :: ws) ({ frames := 0, cells := 0, slots := 0, locals := 0 } : Room)) (fun a U => a = #[(.ref a1)] ∧ Z.Warmed39 U.vm ∧ U.heap = h0) (fun _ _ _ _ _ => True) (fun _ U o U' => ∃ v L, o = .returned v ∧ Q3 Z a1 n1 f h0 n0 v U'.heap L ∧ FrameEnd U o U' L ({ frames := 0, cells := 0, slots := 0, locals := 0 } : Room).cells ({ frames := 0, cells := 0, slots := 0, locals := 0 } : Room).slots) := by
  refine MetFree.of_bodySF (plainFor_of_name pn_3) hisR ?_
  intro p e s m args below meth c s₁ Bd hml0 hP hK
  obtain ⟨rfl, hZ, hh⟩ := hP
  have hx := Bd.exec
  have hby := Bd.bytes
  have hml : c.maxLocals = 6 := hml0
  have hown : s.vm.findClass "com/example/votal/votal/log/LogRecord" = some m.cls := findClass_of_methodNamed Bd.named
  have hnm := (name_of_methodNamed Bd.named Bd.method).1
  have X0 : Stand p l e ({ frames := 0, cells := 0, slots := 0, locals := 0 } : Room) s m #[(.ref a1)] below meth c s₁ [] 0 0 := Stand.of_body Bd
  have e0 : s₁.heap = h0 := by rw [← hh, Bd.state]; rfl
  have N0 := Fr.nil n0
  have a0s : ∀ t, Steps p.tables e below (s₁.setTop (mkF m 0 #[.val (.ref a1), .unset, .unset, .unset, .unset, .unset] [])) t → Steps p.tables e below (s₁.setTop (entryFrame m #[(.ref a1)] 6)) t := fun t k => castTop (ef_rm3 m a1) k
  have ac1 : ∀ t, Steps p.tables e below (s₁.setTop (mkF m 5 #[.val (.ref a1), .val (.int (1 : Int32)), .val (.ref a1), .unset, .unset, .unset] [(.ref a1)])) t → Steps p.tables e below (s₁.setTop (entryFrame m #[(.ref a1)] 6)) t := fun t k => a0s t (by
      show Steps p.tables e below (s₁.setTop (mkF m 0 #[.val (.ref a1), .unset, .unset, .unset, .unset, .unset] [])) _
      refine XS.iconst X0.here hx rfl (hb hby d3_0) ?_
      show Steps p.tables e below (s₁.setTop (mkF m 1 #[.val (.ref a1), .unset, .unset, .unset, .unset, .unset] [(.int (1 : Int32))])) _
      refine XS.istoreN X0.here hx rfl (hb hby d3_1) rfl (l' := #[.val (.ref a1), .val (.int (1 : Int32)), .unset, .unset, .unset, .unset]) rfl ?_
      show Steps p.tables e below (s₁.setTop (mkF m 2 #[.val (.ref a1), .val (.int (1 : Int32)), .unset, .unset, .unset, .unset] [])) _
      refine XS.aloadN X0.here hx rfl (hb hby d3_2) rfl rfl ?_
      show Steps p.tables e below (s₁.setTop (mkF m 3 #[.val (.ref a1), .val (.int (1 : Int32)), .unset, .unset, .unset, .unset] [(.ref a1)])) _
      refine XS.astoreN X0.here hx rfl (hb hby d3_3) rfl rfl (l' := #[.val (.ref a1), .val (.int (1 : Int32)), .val (.ref a1), .unset, .unset, .unset]) rfl ?_
      show Steps p.tables e below (s₁.setTop (mkF m 4 #[.val (.ref a1), .val (.int (1 : Int32)), .val (.ref a1), .unset, .unset, .unset] [])) _
      refine XS.aloadN X0.here hx rfl (hb hby d3_4) rfl rfl ?_
      exact k)
  obtain ⟨cl2, Ac2, hl2, hb2⟩ := V1.len
  have hn1 := own_ofNat hb2
  obtain ⟨x0, hx0⟩ := hf 0 (by omega)
  have z0 : (0 : Int32).toInt = (0 : Nat) := rfl
  have ac3 : ∀ t, Steps p.tables e below (s₁.setTop (mkF m 19 #[.val (.ref a1), .val (.int (1 : Int32)), .val (.ref a1), .val (.int (Int32.ofNat n1)), .val (.int (0 : Int32)), .unset] [(.int (0 : Int32)), (.ref a1)])) t → Steps p.tables e below (s₁.setTop (entryFrame m #[(.ref a1)] 6)) t := fun t k => ac1 t (by
      show Steps p.tables e below (s₁.setTop (mkF m 5 #[.val (.ref a1), .val (.int (1 : Int32)), .val (.ref a1), .unset, .unset, .unset] [(.ref a1)])) _
      refine X0.arraylength hx (by rw [e0]; exact Ac2.1) (State.isArrayOf_alike hZ.alike Ac2.2.1) (g := (mkF m 5 #[.val (.ref a1), .val (.int (1 : Int32)), .val (.ref a1), .unset, .unset, .unset] [(.ref a1)])) rfl rfl (hb hby d3_5) _ ?_
      rw [hl2]
      show Steps p.tables e below (s₁.setTop (mkF m 6 #[.val (.ref a1), .val (.int (1 : Int32)), .val (.ref a1), .unset, .unset, .unset] [(.int (Int32.ofNat n1))])) _
      refine XS.istoreN X0.here hx rfl (hb hby d3_6) rfl (l' := #[.val (.ref a1), .val (.int (1 : Int32)), .val (.ref a1), .val (.int (Int32.ofNat n1)), .unset, .unset]) rfl ?_
      show Steps p.tables e below (s₁.setTop (mkF m 7 #[.val (.ref a1), .val (.int (1 : Int32)), .val (.ref a1), .val (.int (Int32.ofNat n1)), .unset, .unset] [])) _
      refine XS.iconst X0.here hx rfl (hb hby d3_7) ?_
      show Steps p.tables e below (s₁.setTop (mkF m 8 #[.val (.ref a1), .val (.int (1 : Int32)), .val (.ref a1), .val (.int (Int32.ofNat n1)), .unset, .unset] [(.int (0 : Int32))])) _
      refine XS.istore X0.here hx rfl (hb hby d3_8) rfl (l' := #[.val (.ref a1), .val (.int (1 : Int32)), .val (.ref a1), .val (.int (Int32.ofNat n1)), .val (.int (0 : Int32)), .unset]) rfl ?_
      show Steps p.tables e below (s₁.setTop (mkF m 10 #[.val (.ref a1), .val (.int (1 : Int32)), .val (.ref a1), .val (.int (Int32.ofNat n1)), .val (.int (0 : Int32)), .unset] [])) _
      refine XS.iload X0.here hx rfl (hb hby d3_10) rfl ?_
      show Steps p.tables e below (s₁.setTop (mkF m 12 #[.val (.ref a1), .val (.int (1 : Int32)), .val (.ref a1), .val (.int (Int32.ofNat n1)), .val (.int (0 : Int32)), .unset] [(.int (0 : Int32))])) _
      refine XS.iloadN X0.here hx rfl (hb hby d3_12) rfl ?_
      show Steps p.tables e below (s₁.setTop (mkF m 13 #[.val (.ref a1), .val (.int (1 : Int32)), .val (.ref a1), .val (.int (Int32.ofNat n1)), .val (.int (0 : Int32)), .unset] [(.int (Int32.ofNat n1)), (.int (0 : Int32))])) _
      refine XS.icmpNo X0.here hx rfl (hb hby d3_13) rfl (tlt (own_lt_of (by rw [hn1]; exact Int.ofNat_lt.mpr h1))).2.1 ?_
      show Steps p.tables e below (s₁.setTop (mkF m 16 #[.val (.ref a1), .val (.int (1 : Int32)), .val (.ref a1), .val (.int (Int32.ofNat n1)), .val (.int (0 : Int32)), .unset] [])) _
      refine XS.aloadN X0.here hx rfl (hb hby d3_16) rfl rfl ?_
      show Steps p.tables e below (s₁.setTop (mkF m 17 #[.val (.ref a1), .val (.int (1 : Int32)), .val (.ref a1), .val (.int (Int32.ofNat n1)), .val (.int (0 : Int32)), .unset] [(.ref a1)])) _
      refine XS.iload X0.here hx rfl (hb hby d3_17) rfl ?_
      exact k)
  obtain ⟨cl4, Ac4, hin4, hat4⟩ := V1.at (j := (0 : Int32)) (i := 0) z0 (by omega)
  have ac5 : ∀ t, Steps p.tables e below (s₁.setTop (mkF m 25 #[.val (.ref a1), .val (.int (1 : Int32)), .val (.ref a1), .val (.int (Int32.ofNat n1)), .val (.int (0 : Int32)), .val (.int x0)] [(.int x0), (.int (1 : Int32))])) t → Steps p.tables e below (s₁.setTop (entryFrame m #[(.ref a1)] 6)) t := fun t k => ac3 t (by
      show Steps p.tables e below (s₁.setTop (mkF m 19 #[.val (.ref a1), .val (.int (1 : Int32)), .val (.ref a1), .val (.int (Int32.ofNat n1)), .val (.int (0 : Int32)), .unset] [(.int (0 : Int32)), (.ref a1)])) _
      refine X0.baloadBytes hx (j := (0 : Int32)) (v := (.int x0)) (by rw [e0]; exact Ac4.1) (State.isArrayOf_alike hZ.alike Ac4.2.1) Ac4.2.2 hin4 (hat4.trans (congrArg some hx0)) (g := (mkF m 19 #[.val (.ref a1), .val (.int (1 : Int32)), .val (.ref a1), .val (.int (Int32.ofNat n1)), .val (.int (0 : Int32)), .unset] [(.int (0 : Int32)), (.ref a1)])) rfl rfl (hb hby d3_19) _ ?_
      show Steps p.tables e below (s₁.setTop (mkF m 20 #[.val (.ref a1), .val (.int (1 : Int32)), .val (.ref a1), .val (.int (Int32.ofNat n1)), .val (.int (0 : Int32)), .unset] [(.int x0)])) _
      refine XS.istore X0.here hx rfl (hb hby d3_20) rfl (l' := #[.val (.ref a1), .val (.int (1 : Int32)), .val (.ref a1), .val (.int (Int32.ofNat n1)), .val (.int (0 : Int32)), .val (.int x0)]) rfl ?_
      show Steps p.tables e below (s₁.setTop (mkF m 22 #[.val (.ref a1), .val (.int (1 : Int32)), .val (.ref a1), .val (.int (Int32.ofNat n1)), .val (.int (0 : Int32)), .val (.int x0)] [])) _
      refine XS.iloadN X0.here hx rfl (hb hby d3_22) rfl ?_
      show Steps p.tables e below (s₁.setTop (mkF m 23 #[.val (.ref a1), .val (.int (1 : Int32)), .val (.ref a1), .val (.int (Int32.ofNat n1)), .val (.int (0 : Int32)), .val (.int x0)] [(.int (1 : Int32))])) _
      refine XS.iload X0.here hx rfl (hb hby d3_23) rfl ?_
      exact k)
  have ac6 : ∀ t, Steps p.tables e below (s₁.setTop (mkF m 35 #[.val (.ref a1), .val (.int ((1 : Int32) &&& own_z x0)), .val (.ref a1), .val (.int (Int32.ofNat n1)), .val (.int (0 : Int32)), .val (.int x0)] [])) t → Steps p.tables e below (s₁.setTop (entryFrame m #[(.ref a1)] 6)) t := fun t k => ac5 t (by
      by_cases hz : x0 = (0 : Int32)
      ·
        show Steps p.tables e below (s₁.setTop (mkF m 25 #[.val (.ref a1), .val (.int (1 : Int32)), .val (.ref a1), .val (.int (Int32.ofNat n1)), .val (.int (0 : Int32)), .val (.int x0)] [(.int x0), (.int (1 : Int32))])) _
        refine XS.ifNo X0.here hx rfl (hb hby d3_25) rfl ((if0 _ _).trans (teq hz).2) ?_
        show Steps p.tables e below (s₁.setTop (mkF m 28 #[.val (.ref a1), .val (.int (1 : Int32)), .val (.ref a1), .val (.int (Int32.ofNat n1)), .val (.int (0 : Int32)), .val (.int x0)] [(.int (1 : Int32))])) _
        refine XS.iconst X0.here hx rfl (hb hby d3_28) ?_
        show Steps p.tables e below (s₁.setTop (mkF m 29 #[.val (.ref a1), .val (.int (1 : Int32)), .val (.ref a1), .val (.int (Int32.ofNat n1)), .val (.int (0 : Int32)), .val (.int x0)] [(.int (1 : Int32)), (.int (1 : Int32))])) _
        refine XS.goto X0.here hx rfl (pc0 := 29) (pc' := 33) rfl (hb hby d3_29) (by decide) (by decide) ?_
        show Steps p.tables e below (s₁.setTop (mkF m 33 #[.val (.ref a1), .val (.int (1 : Int32)), .val (.ref a1), .val (.int (Int32.ofNat n1)), .val (.int (0 : Int32)), .val (.int x0)] [(.int (1 : Int32)), (.int (1 : Int32))])) _
        refine XS.iand X0.here hx rfl (hb hby d3_33) rfl ?_
        show Steps p.tables e below (s₁.setTop (mkF m 34 #[.val (.ref a1), .val (.int (1 : Int32)), .val (.ref a1), .val (.int (Int32.ofNat n1)), .val (.int (0 : Int32)), .val (.int x0)] [(.int ((1 : Int32) &&& (1 : Int32)))])) _
        refine XS.istoreN X0.here hx rfl (hb hby d3_34) rfl (l' := #[.val (.ref a1), .val (.int ((1 : Int32) &&& (1 : Int32))), .val (.ref a1), .val (.int (Int32.ofNat n1)), .val (.int (0 : Int32)), .val (.int x0)]) rfl ?_
        rw [own_z_0 hz] at k; exact k
      ·
        show Steps p.tables e below (s₁.setTop (mkF m 25 #[.val (.ref a1), .val (.int (1 : Int32)), .val (.ref a1), .val (.int (Int32.ofNat n1)), .val (.int (0 : Int32)), .val (.int x0)] [(.int x0), (.int (1 : Int32))])) _
        refine XS.ifYes X0.here hx rfl (pc0 := 25) (pc' := 32) rfl (hb hby d3_25) rfl ((if0 _ _).trans (feq hz).2) (by decide) (by decide) ?_
        show Steps p.tables e below (s₁.setTop (mkF m 32 #[.val (.ref a1), .val (.int (1 : Int32)), .val (.ref a1), .val (.int (Int32.ofNat n1)), .val (.int (0 : Int32)), .val (.int x0)] [(.int (1 : Int32))])) _
        refine XS.iconst X0.here hx rfl (hb hby d3_32) ?_
        show Steps p.tables e below (s₁.setTop (mkF m 33 #[.val (.ref a1), .val (.int (1 : Int32)), .val (.ref a1), .val (.int (Int32.ofNat n1)), .val (.int (0 : Int32)), .val (.int x0)] [(.int (0 : Int32)), (.int (1 : Int32))])) _
        refine XS.iand X0.here hx rfl (hb hby d3_33) rfl ?_
        show Steps p.tables e below (s₁.setTop (mkF m 34 #[.val (.ref a1), .val (.int (1 : Int32)), .val (.ref a1), .val (.int (Int32.ofNat n1)), .val (.int (0 : Int32)), .val (.int x0)] [(.int ((1 : Int32) &&& (0 : Int32)))])) _
        refine XS.istoreN X0.here hx rfl (hb hby d3_34) rfl (l' := #[.val (.ref a1), .val (.int ((1 : Int32) &&& (0 : Int32))), .val (.ref a1), .val (.int (Int32.ofNat n1)), .val (.int (0 : Int32)), .val (.int x0)]) rfl ?_
        rw [own_z_1 hz] at k; exact k)
  have ac7 : ∀ t, Steps p.tables e below (s₁.setTop (mkF m 10 #[.val (.ref a1), .val (.int ((1 : Int32) &&& own_z x0)), .val (.ref a1), .val (.int (Int32.ofNat n1)), .val (.int ((0 : Int32) + (1 : Int32))), .val (.int x0)] [])) t → Steps p.tables e below (s₁.setTop (entryFrame m #[(.ref a1)] 6)) t := fun t k => ac6 t (by
      show Steps p.tables e below (s₁.setTop (mkF m 35 #[.val (.ref a1), .val (.int ((1 : Int32) &&& own_z x0)), .val (.ref a1), .val (.int (Int32.ofNat n1)), .val (.int (0 : Int32)), .val (.int x0)] [])) _
      refine XS.iinc X0.here hx rfl (hb hby d3_35) rfl (l' := #[.val (.ref a1), .val (.int ((1 : Int32) &&& own_z x0)), .val (.ref a1), .val (.int (Int32.ofNat n1)), .val (.int ((0 : Int32) + (1 : Int32))), .val (.int x0)]) rfl ?_
      show Steps p.tables e below (s₁.setTop (mkF m 38 #[.val (.ref a1), .val (.int ((1 : Int32) &&& own_z x0)), .val (.ref a1), .val (.int (Int32.ofNat n1)), .val (.int ((0 : Int32) + (1 : Int32))), .val (.int x0)] [])) _
      refine XS.goto X0.here hx rfl (pc0 := 38) (pc' := 10) rfl (hb hby d3_38) (by decide) (by decide) ?_
      exact k)
  have loop : ∀ (k : Nat) (r i y : Int32) (j : Nat), i.toInt = j → j + k = n1 → ∃ rE iE yE : Int32, ∀ t, Steps p.tables e below (s₁.setTop (mkF m 41 #[.val (.ref a1), .val (.int rE), .val (.ref a1), .val (.int (Int32.ofNat n1)), .val (.int iE), .val (.int yE)] [])) t → Steps p.tables e below (s₁.setTop (mkF m 10 #[.val (.ref a1), .val (.int r), .val (.ref a1), .val (.int (Int32.ofNat n1)), .val (.int i), .val (.int y)] [])) t := by
    intro k
    induction k with
    | zero =>
      intro r i y j hi hk
      have aL : ∀ t, Steps p.tables e below (s₁.setTop (mkF m 10 #[.val (.ref a1), .val (.int r), .val (.ref a1), .val (.int (Int32.ofNat n1)), .val (.int i), .val (.int y)] [])) t → Steps p.tables e below (s₁.setTop (mkF m 10 #[.val (.ref a1), .val (.int r), .val (.ref a1), .val (.int (Int32.ofNat n1)), .val (.int i), .val (.int y)] [])) t := fun t k => k
      have ac8 : ∀ t, Steps p.tables e below (s₁.setTop (mkF m 41 #[.val (.ref a1), .val (.int r), .val (.ref a1), .val (.int (Int32.ofNat n1)), .val (.int i), .val (.int y)] [])) t → Steps p.tables e below (s₁.setTop (mkF m 10 #[.val (.ref a1), .val (.int r), .val (.ref a1), .val (.int (Int32.ofNat n1)), .val (.int i), .val (.int y)] [])) t := fun t k => aL t (by
          show Steps p.tables e below (s₁.setTop (mkF m 10 #[.val (.ref a1), .val (.int r), .val (.ref a1), .val (.int (Int32.ofNat n1)), .val (.int i), .val (.int y)] [])) _
          refine XS.iload X0.here hx rfl (hb hby d3_10) rfl ?_
          show Steps p.tables e below (s₁.setTop (mkF m 12 #[.val (.ref a1), .val (.int r), .val (.ref a1), .val (.int (Int32.ofNat n1)), .val (.int i), .val (.int y)] [(.int i)])) _
          refine XS.iloadN X0.here hx rfl (hb hby d3_12) rfl ?_
          show Steps p.tables e below (s₁.setTop (mkF m 13 #[.val (.ref a1), .val (.int r), .val (.ref a1), .val (.int (Int32.ofNat n1)), .val (.int i), .val (.int y)] [(.int (Int32.ofNat n1)), (.int i)])) _
          refine XS.icmpYes X0.here hx rfl (pc0 := 13) (pc' := 41) rfl (hb hby d3_13) rfl (flt (own_nlt_of (by omega))).2.1 (by decide) (by decide) ?_
          exact k)
      exact ⟨r, i, y, ac8⟩
    | succ k ih =>
      intro r i y j hi hk
      have aL : ∀ t, Steps p.tables e below (s₁.setTop (mkF m 10 #[.val (.ref a1), .val (.int r), .val (.ref a1), .val (.int (Int32.ofNat n1)), .val (.int i), .val (.int y)] [])) t → Steps p.tables e below (s₁.setTop (mkF m 10 #[.val (.ref a1), .val (.int r), .val (.ref a1), .val (.int (Int32.ofNat n1)), .val (.int i), .val (.int y)] [])) t := fun t k => k
      obtain ⟨xj, hxj⟩ := hf j (by omega)
      have ac9 : ∀ t, Steps p.tables e below (s₁.setTop (mkF m 19 #[.val (.ref a1), .val (.int r), .val (.ref a1), .val (.int (Int32.ofNat n1)), .val (.int i), .val (.int y)] [(.int i), (.ref a1)])) t → Steps p.tables e below (s₁.setTop (mkF m 10 #[.val (.ref a1), .val (.int r), .val (.ref a1), .val (.int (Int32.ofNat n1)), .val (.int i), .val (.int y)] [])) t := fun t k => aL t (by
          show Steps p.tables e below (s₁.setTop (mkF m 10 #[.val (.ref a1), .val (.int r), .val (.ref a1), .val (.int (Int32.ofNat n1)), .val (.int i), .val (.int y)] [])) _
          refine XS.iload X0.here hx rfl (hb hby d3_10) rfl ?_
          show Steps p.tables e below (s₁.setTop (mkF m 12 #[.val (.ref a1), .val (.int r), .val (.ref a1), .val (.int (Int32.ofNat n1)), .val (.int i), .val (.int y)] [(.int i)])) _
          refine XS.iloadN X0.here hx rfl (hb hby d3_12) rfl ?_
          show Steps p.tables e below (s₁.setTop (mkF m 13 #[.val (.ref a1), .val (.int r), .val (.ref a1), .val (.int (Int32.ofNat n1)), .val (.int i), .val (.int y)] [(.int (Int32.ofNat n1)), (.int i)])) _
          refine XS.icmpNo X0.here hx rfl (hb hby d3_13) rfl (tlt (own_lt_of (by omega))).2.1 ?_
          show Steps p.tables e below (s₁.setTop (mkF m 16 #[.val (.ref a1), .val (.int r), .val (.ref a1), .val (.int (Int32.ofNat n1)), .val (.int i), .val (.int y)] [])) _
          refine XS.aloadN X0.here hx rfl (hb hby d3_16) rfl rfl ?_
          show Steps p.tables e below (s₁.setTop (mkF m 17 #[.val (.ref a1), .val (.int r), .val (.ref a1), .val (.int (Int32.ofNat n1)), .val (.int i), .val (.int y)] [(.ref a1)])) _
          refine XS.iload X0.here hx rfl (hb hby d3_17) rfl ?_
          exact k)
      obtain ⟨cl10, Ac10, hin10, hat10⟩ := V1.at (j := i) (i := j) hi (by omega)
      have ac11 : ∀ t, Steps p.tables e below (s₁.setTop (mkF m 25 #[.val (.ref a1), .val (.int r), .val (.ref a1), .val (.int (Int32.ofNat n1)), .val (.int i), .val (.int xj)] [(.int xj), (.int r)])) t → Steps p.tables e below (s₁.setTop (mkF m 10 #[.val (.ref a1), .val (.int r), .val (.ref a1), .val (.int (Int32.ofNat n1)), .val (.int i), .val (.int y)] [])) t := fun t k => ac9 t (by
          show Steps p.tables e below (s₁.setTop (mkF m 19 #[.val (.ref a1), .val (.int r), .val (.ref a1), .val (.int (Int32.ofNat n1)), .val (.int i), .val (.int y)] [(.int i), (.ref a1)])) _
          refine X0.baloadBytes hx (j := i) (v := (.int xj)) (by rw [e0]; exact Ac10.1) (State.isArrayOf_alike hZ.alike Ac10.2.1) Ac10.2.2 hin10 (hat10.trans (congrArg some hxj)) (g := (mkF m 19 #[.val (.ref a1), .val (.int r), .val (.ref a1), .val (.int (Int32.ofNat n1)), .val (.int i), .val (.int y)] [(.int i), (.ref a1)])) rfl rfl (hb hby d3_19) _ ?_
          show Steps p.tables e below (s₁.setTop (mkF m 20 #[.val (.ref a1), .val (.int r), .val (.ref a1), .val (.int (Int32.ofNat n1)), .val (.int i), .val (.int y)] [(.int xj)])) _
          refine XS.istore X0.here hx rfl (hb hby d3_20) rfl (l' := #[.val (.ref a1), .val (.int r), .val (.ref a1), .val (.int (Int32.ofNat n1)), .val (.int i), .val (.int xj)]) rfl ?_
          show Steps p.tables e below (s₁.setTop (mkF m 22 #[.val (.ref a1), .val (.int r), .val (.ref a1), .val (.int (Int32.ofNat n1)), .val (.int i), .val (.int xj)] [])) _
          refine XS.iloadN X0.here hx rfl (hb hby d3_22) rfl ?_
          show Steps p.tables e below (s₁.setTop (mkF m 23 #[.val (.ref a1), .val (.int r), .val (.ref a1), .val (.int (Int32.ofNat n1)), .val (.int i), .val (.int xj)] [(.int r)])) _
          refine XS.iload X0.here hx rfl (hb hby d3_23) rfl ?_
          exact k)
      have ac12 : ∀ t, Steps p.tables e below (s₁.setTop (mkF m 35 #[.val (.ref a1), .val (.int (r &&& own_z xj)), .val (.ref a1), .val (.int (Int32.ofNat n1)), .val (.int i), .val (.int xj)] [])) t → Steps p.tables e below (s₁.setTop (mkF m 10 #[.val (.ref a1), .val (.int r), .val (.ref a1), .val (.int (Int32.ofNat n1)), .val (.int i), .val (.int y)] [])) t := fun t k => ac11 t (by
          by_cases hz : xj = (0 : Int32)
          ·
            show Steps p.tables e below (s₁.setTop (mkF m 25 #[.val (.ref a1), .val (.int r), .val (.ref a1), .val (.int (Int32.ofNat n1)), .val (.int i), .val (.int xj)] [(.int xj), (.int r)])) _
            refine XS.ifNo X0.here hx rfl (hb hby d3_25) rfl ((if0 _ _).trans (teq hz).2) ?_
            show Steps p.tables e below (s₁.setTop (mkF m 28 #[.val (.ref a1), .val (.int r), .val (.ref a1), .val (.int (Int32.ofNat n1)), .val (.int i), .val (.int xj)] [(.int r)])) _
            refine XS.iconst X0.here hx rfl (hb hby d3_28) ?_
            show Steps p.tables e below (s₁.setTop (mkF m 29 #[.val (.ref a1), .val (.int r), .val (.ref a1), .val (.int (Int32.ofNat n1)), .val (.int i), .val (.int xj)] [(.int (1 : Int32)), (.int r)])) _
            refine XS.goto X0.here hx rfl (pc0 := 29) (pc' := 33) rfl (hb hby d3_29) (by decide) (by decide) ?_
            show Steps p.tables e below (s₁.setTop (mkF m 33 #[.val (.ref a1), .val (.int r), .val (.ref a1), .val (.int (Int32.ofNat n1)), .val (.int i), .val (.int xj)] [(.int (1 : Int32)), (.int r)])) _
            refine XS.iand X0.here hx rfl (hb hby d3_33) rfl ?_
            show Steps p.tables e below (s₁.setTop (mkF m 34 #[.val (.ref a1), .val (.int r), .val (.ref a1), .val (.int (Int32.ofNat n1)), .val (.int i), .val (.int xj)] [(.int (r &&& (1 : Int32)))])) _
            refine XS.istoreN X0.here hx rfl (hb hby d3_34) rfl (l' := #[.val (.ref a1), .val (.int (r &&& (1 : Int32))), .val (.ref a1), .val (.int (Int32.ofNat n1)), .val (.int i), .val (.int xj)]) rfl ?_
            rw [own_z_0 hz] at k; exact k
          ·
            show Steps p.tables e below (s₁.setTop (mkF m 25 #[.val (.ref a1), .val (.int r), .val (.ref a1), .val (.int (Int32.ofNat n1)), .val (.int i), .val (.int xj)] [(.int xj), (.int r)])) _
            refine XS.ifYes X0.here hx rfl (pc0 := 25) (pc' := 32) rfl (hb hby d3_25) rfl ((if0 _ _).trans (feq hz).2) (by decide) (by decide) ?_
            show Steps p.tables e below (s₁.setTop (mkF m 32 #[.val (.ref a1), .val (.int r), .val (.ref a1), .val (.int (Int32.ofNat n1)), .val (.int i), .val (.int xj)] [(.int r)])) _
            refine XS.iconst X0.here hx rfl (hb hby d3_32) ?_
            show Steps p.tables e below (s₁.setTop (mkF m 33 #[.val (.ref a1), .val (.int r), .val (.ref a1), .val (.int (Int32.ofNat n1)), .val (.int i), .val (.int xj)] [(.int (0 : Int32)), (.int r)])) _
            refine XS.iand X0.here hx rfl (hb hby d3_33) rfl ?_
            show Steps p.tables e below (s₁.setTop (mkF m 34 #[.val (.ref a1), .val (.int r), .val (.ref a1), .val (.int (Int32.ofNat n1)), .val (.int i), .val (.int xj)] [(.int (r &&& (0 : Int32)))])) _
            refine XS.istoreN X0.here hx rfl (hb hby d3_34) rfl (l' := #[.val (.ref a1), .val (.int (r &&& (0 : Int32))), .val (.ref a1), .val (.int (Int32.ofNat n1)), .val (.int i), .val (.int xj)]) rfl ?_
            rw [own_z_1 hz] at k; exact k)
      have ac13 : ∀ t, Steps p.tables e below (s₁.setTop (mkF m 10 #[.val (.ref a1), .val (.int (r &&& own_z xj)), .val (.ref a1), .val (.int (Int32.ofNat n1)), .val (.int (i + (1 : Int32))), .val (.int xj)] [])) t → Steps p.tables e below (s₁.setTop (mkF m 10 #[.val (.ref a1), .val (.int r), .val (.ref a1), .val (.int (Int32.ofNat n1)), .val (.int i), .val (.int y)] [])) t := fun t k => ac12 t (by
          show Steps p.tables e below (s₁.setTop (mkF m 35 #[.val (.ref a1), .val (.int (r &&& own_z xj)), .val (.ref a1), .val (.int (Int32.ofNat n1)), .val (.int i), .val (.int xj)] [])) _
          refine XS.iinc X0.here hx rfl (hb hby d3_35) rfl (l' := #[.val (.ref a1), .val (.int (r &&& own_z xj)), .val (.ref a1), .val (.int (Int32.ofNat n1)), .val (.int (i + (1 : Int32))), .val (.int xj)]) rfl ?_
          show Steps p.tables e below (s₁.setTop (mkF m 38 #[.val (.ref a1), .val (.int (r &&& own_z xj)), .val (.ref a1), .val (.int (Int32.ofNat n1)), .val (.int (i + (1 : Int32))), .val (.int xj)] [])) _
          refine XS.goto X0.here hx rfl (pc0 := 38) (pc' := 10) rfl (hb hby d3_38) (by decide) (by decide) ?_
          exact k)
      obtain ⟨rE, iE, yE, hE⟩ := ih _ (i + (1 : Int32)) xj (j + 1) (own_inc hi (by omega) hb2) (by omega)
      exact ⟨rE, iE, yE, fun t k => ac13 t (hE t k)⟩
  obtain ⟨rE, iE, yE, hE14⟩ := loop (n1 - 1) _ ((0 : Int32) + (1 : Int32)) x0 1 (by decide) (by omega)
  have ac15 : ∀ t, Steps p.tables e below (s₁.setTop (mkF m 41 #[.val (.ref a1), .val (.int rE), .val (.ref a1), .val (.int (Int32.ofNat n1)), .val (.int iE), .val (.int yE)] [])) t → Steps p.tables e below (s₁.setTop (entryFrame m #[(.ref a1)] 6)) t := fun t k => ac7 t (hE14 t k)
  have ac16 : ∀ t, Steps p.tables e below (s₁.setTop (mkF m 42 #[.val (.ref a1), .val (.int rE), .val (.ref a1), .val (.int (Int32.ofNat n1)), .val (.int iE), .val (.int yE)] [(.int rE)])) t → Steps p.tables e below (s₁.setTop (entryFrame m #[(.ref a1)] 6)) t := fun t k => ac15 t (by
      show Steps p.tables e below (s₁.setTop (mkF m 41 #[.val (.ref a1), .val (.int rE), .val (.ref a1), .val (.int (Int32.ofNat n1)), .val (.int iE), .val (.int yE)] [])) _
      refine XS.iloadN X0.here hx rfl (hb hby d3_41) rfl ?_
      exact k)
  obtain ⟨fs, hr, hrun, hended, hW, hsame⟩ := X0.leave (v := some (.int (nar .boolean rE))) (fun h => by rw [Bd.returns] at h; cases h) (BodyLoose.notSynchronized Bd)
  refine ⟨_, _, ac16 _ ?_, hrun, hended, _, _, rfl, ?_, ⟨_, rfl⟩, hW, hsame.mono (by decide) (by decide)⟩
  · show Steps p.tables e below (s₁.setTop (mkF m 42 #[.val (.ref a1), .val (.int rE), .val (.ref a1), .val (.int (Int32.ofNat n1)), .val (.int iE), .val (.int yE)] [(.int rE)])) _
    exact retN X0 hx (t := .boolean) Bd.returns (by simp) (hb hby d3_42) hr
  · show Q3 Z a1 n1 f h0 n0 _ s₁.heap _
    rw [e0]
    exact ⟨_, rfl, N0, rfl⟩
theorem ef_rm1 (m : MethodId) (x0 : Addr) (x1 : Int32) (x2 : Addr) (x3 : Addr) (x4 : Addr) (x5 : Addr) : entryFrame m #[(.ref x0), (.int x1), (.ref x2), (.ref x3), (.ref x4), (.ref x5)] 6 = mkF m 0 #[.val (.ref x0), .val (.int x1), .val (.ref x2), .val (.ref x3), .val (.ref x4), .val (.ref x5)] [] := by first | (simp [entryFrame, mkF, argsToLocals, Value.category]; done) | rfl
def Q1 (Z : State) (a1 : Addr) (p2 : Int32) (a3 : Addr) (a4 : Addr) (a5 : Addr) (a6 : Addr) (n1 : Nat) (f : Nat → Value) (h0 : Heap) (n0 : Nat) (v : Option Value) (h : Heap) (L : List Loc) : Prop := v = none ∧ Fr n0 L ∧ Keep h0 h [a1] ∧ Exa Z h a1 "com/example/votal/votal/log/LogRecord" ∧ Fld Z h a1 "com/example/votal/votal/log/LogRecord" "mTemplateData" "[B" (.ref a6)
set_option maxRecDepth 65536 in
set_option maxHeartbeats 40000000 in
theorem rm1 (l : Launch) (Z : State) (a0 : Array Value) (hw : ∀ d ∈ tables_1, d.before a0 Z = true) (ws : List Jvm.Cond) (a1 : Addr) (p2 : Int32) (a3 : Addr) (a4 : Addr) (a5 : Addr) (a6 : Addr) (n1 : Nat) (f : Nat → Value) (h0 : Heap) (n0 : Nat) (Z0 : n0 ≤ h0.size) (E1 : Exa Z h0 a1 "com/example/votal/votal/log/LogRecord") (g_a1 : n0 ≤ a1) (V3 : own_Ar Z h0 a3 .byte n1 f) (hf : ∀ i, i < n1 → ∃ x : Int32, f i = .int x) (h1 : 1 ≤ n1) (ne_a3_a1 : a3 ≠ a1) (F_mPcr : Fld Z h0 a1 "com/example/votal/votal/log/LogRecord" "mPcr" "I" (.int 0)) (F_mTemplateDigest : Fld Z h0 a1 "com/example/votal/votal/log/LogRecord" "mTemplateDigest" "[B" .null) (F_mTemplateName : Fld Z h0 a1 "com/example/votal/votal/log/LogRecord" "mTemplateName" "Ljava/lang/String;" .null) (F_mTemplate : Fld Z h0 a1 "com/example/votal/votal/log/LogRecord" "mTemplate" "Lcom/example/votal/votal/log/Template;" .null) (F_mName : Fld Z h0 a1 "com/example/votal/votal/log/LogRecord" "mName" "Ljava/lang/String;" .null) (F_mDigestAlgorithm : Fld Z h0 a1 "com/example/votal/votal/log/LogRecord" "mDigestAlgorithm" "Lcom/example/votal/votal/log/DigestAlgorithm;" .null) (F_mDigest : Fld Z h0 a1 "com/example/votal/votal/log/LogRecord" "mDigest" "[B" .null) (F_mEventDataOffset : Fld Z h0 a1 "com/example/votal/votal/log/LogRecord" "mEventDataOffset" "I" (.int 0)) (F_mTemplateData : Fld Z h0 a1 "com/example/votal/votal/log/LogRecord" "mTemplateData" "[B" .null) (F_mViolation : Fld Z h0 a1 "com/example/votal/votal/log/LogRecord" "mViolation" "Z" (.int 0)) :
    MetFree l (⟨"com/example/votal/votal/log/LogRecord", "<init>", "(I[BLjava/lang/String;Ljava/lang/String;[B)V"⟩ : MethodName) (head1 (Jvm.Cond.code (⟨"com/example/votal/votal/log/LogRecord", "<init>", "(I[BLjava/lang/String;Ljava/lang/String;[B)V"⟩ : MethodName) prog_49_method_2_code 6 none :: ws) ({ frames := 1, cells := 0, slots := 0, locals := 18 } : Room)) (fun a U => a = #[(.ref a1), (.int p2), (.ref a3), (.ref a4), (.ref a5), (.ref a6)] ∧ Z.Warmed39 U.vm ∧ U.heap = h0) (fun _ _ _ _ _ => True) (fun _ U o U' => ∃ v L, o = .returned v ∧ Q1 Z a1 p2 a3 a4 a5 a6 n1 f h0 n0 v U'.heap L ∧ FrameEnd U o U' L ({ frames := 1, cells := 0, slots := 0, locals := 18 } : Room).cells ({ frames := 1, cells := 0, slots := 0, locals := 18 } : Room).slots) := by
  refine MetFree.of_bodySF (plainFor_of_name pn_1) hisR ?_
  intro p e s m args below meth c s₁ Bd hml0 hP hK
  obtain ⟨rfl, hZ, hh⟩ := hP
  have hx := Bd.exec
  have hby := Bd.bytes
  have hml : c.maxLocals = 6 := hml0
  have hown : s.vm.findClass "com/example/votal/votal/log/LogRecord" = some m.cls := findClass_of_methodNamed Bd.named
  have hnm := (name_of_methodNamed Bd.named Bd.method).1
  have X0 : Stand p l e ({ frames := 1, cells := 0, slots := 0, locals := 18 } : Room) s m #[(.ref a1), (.int p2), (.ref a3), (.ref a4), (.ref a5), (.ref a6)] below meth c s₁ [] 0 0 := Stand.of_body Bd
  have e0 : s₁.heap = h0 := by rw [← hh, Bd.state]; rfl
  have N0 := Fr.nil n0
  have a0s : ∀ t, Steps p.tables e below (s₁.setTop (mkF m 0 #[.val (.ref a1), .val (.int p2), .val (.ref a3), .val (.ref a4), .val (.ref a5), .val (.ref a6)] [])) t → Steps p.tables e below (s₁.setTop (entryFrame m #[(.ref a1), (.int p2), (.ref a3), (.ref a4), (.ref a5), (.ref a6)] 6)) t := fun t k => castTop (ef_rm1 m a1 p2 a3 a4 a5 a6) k
  have ac1 : ∀ t, Steps p.tables e below (s₁.setTop (mkF m 1 #[.val (.ref a1), .val (.int p2), .val (.ref a3), .val (.ref a4), .val (.ref a5), .val (.ref a6)] [(.ref a1)])) t → Steps p.tables e below (s₁.setTop (entryFrame m #[(.ref a1), (.int p2), (.ref a3), (.ref a4), (.ref a5), (.ref a6)] 6)) t := fun t k => a0s t (by
      show Steps p.tables e below (s₁.setTop (mkF m 0 #[.val (.ref a1), .val (.int p2), .val (.ref a3), .val (.ref a4), .val (.ref a5), .val (.ref a6)] [])) _
      refine XS.aloadN X0.here hx rfl (hb hby d1_0) rfl rfl ?_
      exact k)
  obtain ⟨T2, X2, e2, st2⟩ := initO X0 hx hZ hown (hw _ (List.mem_of_getElem? (i := 15) rfl)) (hw _ (List.mem_of_getElem? (i := 16) rfl)) (hw _ (List.mem_of_getElem? (i := 17) rfl)) e0 (g := (mkF m 1 #[.val (.ref a1), .val (.int p2), .val (.ref a3), .val (.ref a4), .val (.ref a5), .val (.ref a6)] [(.ref a1)])) rfl (by rw [hml]; rfl) rfl (hb hby d1_1) (by decide) (W := 0) (by show 2 * 0 + _ ≤ _; exact Nat.le_of_eq rfl) (by decide)
  have ac3 : ∀ t, Steps p.tables e below (T2.setTop (mkF m 4 #[.val (.ref a1), .val (.int p2), .val (.ref a3), .val (.ref a4), .val (.ref a5), .val (.ref a6)] [])) t → Steps p.tables e below (s₁.setTop (entryFrame m #[(.ref a1), (.int p2), (.ref a3), (.ref a4), (.ref a5), (.ref a6)] 6)) t := fun t k => ac1 t (st2 t k)
  have ac4 : ∀ t, Steps p.tables e below (T2.setTop (mkF m 6 #[.val (.ref a1), .val (.int p2), .val (.ref a3), .val (.ref a4), .val (.ref a5), .val (.ref a6)] [(.int p2), (.ref a1)])) t → Steps p.tables e below (s₁.setTop (entryFrame m #[(.ref a1), (.int p2), (.ref a3), (.ref a4), (.ref a5), (.ref a6)] 6)) t := fun t k => ac3 t (by
      show Steps p.tables e below (T2.setTop (mkF m 4 #[.val (.ref a1), .val (.int p2), .val (.ref a3), .val (.ref a4), .val (.ref a5), .val (.ref a6)] [])) _
      refine XS.aloadN X2.here hx rfl (hb hby d1_4) rfl rfl ?_
      show Steps p.tables e below (T2.setTop (mkF m 5 #[.val (.ref a1), .val (.int p2), .val (.ref a3), .val (.ref a4), .val (.ref a5), .val (.ref a6)] [(.ref a1)])) _
      refine XS.iloadN X2.here hx rfl (hb hby d1_5) rfl ?_
      exact k)
  obtain ⟨T5, h5, X5, e5, W5, st5⟩ := putF X2 hx hZ hown (host := "") (Or.inl (hw _ (List.mem_of_getElem? (i := 18) rfl))) Via.refl e2 F_mPcr E1 (Or.inr ⟨(hw _ (List.mem_of_getElem? (i := 19) rfl)), rfl, hnm⟩) (hw _ (List.mem_of_getElem? (i := 2) rfl)) (ty := .int) (by decide) rfl rfl (g := (mkF m 6 #[.val (.ref a1), .val (.int p2), .val (.ref a3), .val (.ref a4), .val (.ref a5), .val (.ref a6)] [(.int p2), (.ref a1)])) rfl rfl (hb hby d1_6)
  have Fw5 := F_mPcr.same W5
  have Ef6 := E1.wr W5
  have Vf7 := V3.other W5 ne_a3_a1
  have Ff8 := F_mTemplateDigest.other W5 (Or.inr (slot_ne (Or.inr (hw _ (List.mem_of_getElem? (i := 21) rfl))) (Or.inr (hw _ (List.mem_of_getElem? (i := 19) rfl))) (by decide) (t := (.array .byte)) (t' := .int) (by decide) (by decide)))
  have Ff9 := F_mTemplateName.other W5 (Or.inr (slot_ne (Or.inr (hw _ (List.mem_of_getElem? (i := 23) rfl))) (Or.inr (hw _ (List.mem_of_getElem? (i := 19) rfl))) (by decide) (t := (.object "java/lang/String")) (t' := .int) (by decide) (by decide)))
  have Ff10 := F_mTemplate.other W5 (Or.inr (slot_ne (Or.inr (hw _ (List.mem_of_getElem? (i := 25) rfl))) (Or.inr (hw _ (List.mem_of_getElem? (i := 19) rfl))) (by decide) (t := (.object "com/example/votal/votal/log/Template")) (t' := .int) (by decide) (by decide)))
  have Ff11 := F_mName.other W5 (Or.inr (slot_ne (Or.inr (hw _ (List.mem_of_getElem? (i := 27) rfl))) (Or.inr (hw _ (List.mem_of_getElem? (i := 19) rfl))) (by decide) (t := (.object "java/lang/String")) (t' := .int) (by decide) (by decide)))
  have Ff12 := F_mDigestAlgorithm.other W5 (Or.inr (slot_ne (Or.inr (hw _ (List.mem_of_getElem? (i := 29) rfl))) (Or.inr (hw _ (List.mem_of_getElem? (i := 19) rfl))) (by decide) (t := (.object "com/example/votal/votal/log/DigestAlgorithm")) (t' := .int) (by decide) (by decide)))
  have Ff13 := F_mDigest.other W5 (Or.inr (slot_ne (Or.inr (hw _ (List.mem_of_getElem? (i := 31) rfl))) (Or.inr (hw _ (List.mem_of_getElem? (i := 19) rfl))) (by decide) (t := (.array .byte)) (t' := .int) (by decide) (by decide)))
  have Ff14 := F_mEventDataOffset.other W5 (Or.inr (slot_ne (Or.inr (hw _ (List.mem_of_getElem? (i := 33) rfl))) (Or.inr (hw _ (List.mem_of_getElem? (i := 19) rfl))) (by decide) (t := .int) (t' := .int) (by decide) (by decide)))
  have Ff15 := F_mTemplateData.other W5 (Or.inr (slot_ne (Or.inr (hw _ (List.mem_of_getElem? (i := 35) rfl))) (Or.inr (hw _ (List.mem_of_getElem? (i := 19) rfl))) (by decide) (t := (.array .byte)) (t' := .int) (by decide) (by decide)))
  have Ff16 := F_mViolation.other W5 (Or.inr (slot_ne (Or.inr (hw _ (List.mem_of_getElem? (i := 40) rfl))) (Or.inr (hw _ (List.mem_of_getElem? (i := 19) rfl))) (by decide) (t := .boolean) (t' := .int) (by decide) (by decide)))
  have N5 := Fr.snoc X5 N0 g_a1
  have Z5 : n0 ≤ h5.size := Nat.le_trans Z0 (Keep.of_wr W5).1
  have Kp17 : Keep h0 h5 [a1] := (Keep.refl h0 [a1]).wr W5 (Or.inl (List.mem_of_getElem? (i := 0) rfl))
  have ac18 : ∀ t, Steps p.tables e below (T5.setTop (mkF m 9 #[.val (.ref a1), .val (.int p2), .val (.ref a3), .val (.ref a4), .val (.ref a5), .val (.ref a6)] [])) t → Steps p.tables e below (s₁.setTop (entryFrame m #[(.ref a1), (.int p2), (.ref a3), (.ref a4), (.ref a5), (.ref a6)] 6)) t := fun t k => ac4 t (st5 t k)
  have ac19 : ∀ t, Steps p.tables e below (T5.setTop (mkF m 11 #[.val (.ref a1), .val (.int p2), .val (.ref a3), .val (.ref a4), .val (.ref a5), .val (.ref a6)] [(.ref a3), (.ref a1)])) t → Steps p.tables e below (s₁.setTop (entryFrame m #[(.ref a1), (.int p2), (.ref a3), (.ref a4), (.ref a5), (.ref a6)] 6)) t := fun t k => ac18 t (by
      show Steps p.tables e below (T5.setTop (mkF m 9 #[.val (.ref a1), .val (.int p2), .val (.ref a3), .val (.ref a4), .val (.ref a5), .val (.ref a6)] [])) _
      refine XS.aloadN X5.here hx rfl (hb hby d1_9) rfl rfl ?_
      show Steps p.tables e below (T5.setTop (mkF m 10 #[.val (.ref a1), .val (.int p2), .val (.ref a3), .val (.ref a4), .val (.ref a5), .val (.ref a6)] [(.ref a1)])) _
      refine XS.aloadN X5.here hx rfl (hb hby d1_10) rfl rfl ?_
      exact k)
  obtain ⟨T20, h20, X20, e20, W20, st20⟩ := putF X5 hx hZ hown (host := "") (Or.inl (hw _ (List.mem_of_getElem? (i := 20) rfl))) Via.refl e5 Ff8 Ef6 (Or.inr ⟨(hw _ (List.mem_of_getElem? (i := 21) rfl)), rfl, hnm⟩) (hw _ (List.mem_of_getElem? (i := 2) rfl)) (ty := (.array .byte)) (by decide) rfl rfl (g := (mkF m 11 #[.val (.ref a1), .val (.int p2), .val (.ref a3), .val (.ref a4), .val (.ref a5), .val (.ref a6)] [(.ref a3), (.ref a1)])) rfl rfl (hb hby d1_11)
  have Fw20 := Ff8.same W20
  have Ef21 := Ef6.wr W20
  have Vf22 := Vf7.other W20 ne_a3_a1
  have Ff23 := Ff9.other W20 (Or.inr (slot_ne (Or.inr (hw _ (List.mem_of_getElem? (i := 23) rfl))) (Or.inr (hw _ (List.mem_of_getElem? (i := 21) rfl))) (by decide) (t := (.object "java/lang/String")) (t' := (.array .byte)) (by decide) (by decide)))
  have Ff24 := Ff10.other W20 (Or.inr (slot_ne (Or.inr (hw _ (List.mem_of_getElem? (i := 25) rfl))) (Or.inr (hw _ (List.mem_of_getElem? (i := 21) rfl))) (by decide) (t := (.object "com/example/votal/votal/log/Template")) (t' := (.array .byte)) (by decide) (by decide)))
  have Ff25 := Ff11.other W20 (Or.inr (slot_ne (Or.inr (hw _ (List.mem_of_getElem? (i := 27) rfl))) (Or.inr (hw _ (List.mem_of_getElem? (i := 21) rfl))) (by decide) (t := (.object "java/lang/String")) (t' := (.array .byte)) (by decide) (by decide)))
  have Ff26 := Ff12.other W20 (Or.inr (slot_ne (Or.inr (hw _ (List.mem_of_getElem? (i := 29) rfl))) (Or.inr (hw _ (List.mem_of_getElem? (i := 21) rfl))) (by decide) (t := (.object "com/example/votal/votal/log/DigestAlgorithm")) (t' := (.array .byte)) (by decide) (by decide)))
  have Ff27 := Ff13.other W20 (Or.inr (slot_ne (Or.inr (hw _ (List.mem_of_getElem? (i := 31) rfl))) (Or.inr (hw _ (List.mem_of_getElem? (i := 21) rfl))) (by decide) (t := (.array .byte)) (t' := (.array .byte)) (by decide) (by decide)))
  have Ff28 := Ff14.other W20 (Or.inr (slot_ne (Or.inr (hw _ (List.mem_of_getElem? (i := 33) rfl))) (Or.inr (hw _ (List.mem_of_getElem? (i := 21) rfl))) (by decide) (t := .int) (t' := (.array .byte)) (by decide) (by decide)))
  have Ff29 := Ff15.other W20 (Or.inr (slot_ne (Or.inr (hw _ (List.mem_of_getElem? (i := 35) rfl))) (Or.inr (hw _ (List.mem_of_getElem? (i := 21) rfl))) (by decide) (t := (.array .byte)) (t' := (.array .byte)) (by decide) (by decide)))
  have Ff30 := Ff16.other W20 (Or.inr (slot_ne (Or.inr (hw _ (List.mem_of_getElem? (i := 40) rfl))) (Or.inr (hw _ (List.mem_of_getElem? (i := 21) rfl))) (by decide) (t := .boolean) (t' := (.array .byte)) (by decide) (by decide)))
  have Ff31 := Fw5.other W20 (Or.inr (slot_ne (Or.inr (hw _ (List.mem_of_getElem? (i := 19) rfl))) (Or.inr (hw _ (List.mem_of_getElem? (i := 21) rfl))) (by decide) (t := .int) (t' := (.array .byte)) (by decide) (by decide)))
  have N20 := Fr.snoc X20 N5 g_a1
  have Z20 : n0 ≤ h20.size := Nat.le_trans Z5 (Keep.of_wr W20).1
  have Kp32 : Keep h0 h20 [a1] := Kp17.wr W20 (Or.inl (List.mem_of_getElem? (i := 0) rfl))
  have ac33 : ∀ t, Steps p.tables e below (T20.setTop (mkF m 14 #[.val (.ref a1), .val (.int p2), .val (.ref a3), .val (.ref a4), .val (.ref a5), .val (.ref a6)] [])) t → Steps p.tables e below (s₁.setTop (entryFrame m #[(.ref a1), (.int p2), (.ref a3), (.ref a4), (.ref a5), (.ref a6)] 6)) t := fun t k => ac19 t (st20 t k)
  have ac34 : ∀ t, Steps p.tables e below (T20.setTop (mkF m 16 #[.val (.ref a1), .val (.int p2), .val (.ref a3), .val (.ref a4), .val (.ref a5), .val (.ref a6)] [(.ref a4), (.ref a1)])) t → Steps p.tables e below (s₁.setTop (entryFrame m #[(.ref a1), (.int p2), (.ref a3), (.ref a4), (.ref a5), (.ref a6)] 6)) t := fun t k => ac33 t (by
      show Steps p.tables e below (T20.setTop (mkF m 14 #[.val (.ref a1), .val (.int p2), .val (.ref a3), .val (.ref a4), .val (.ref a5), .val (.ref a6)] [])) _
      refine XS.aloadN X20.here hx rfl (hb hby d1_14) rfl rfl ?_
      show Steps p.tables e below (T20.setTop (mkF m 15 #[.val (.ref a1), .val (.int p2), .val (.ref a3), .val (.ref a4), .val (.ref a5), .val (.ref a6)] [(.ref a1)])) _
      refine XS.aloadN X20.here hx rfl (hb hby d1_15) rfl rfl ?_
      exact k)
  obtain ⟨T35, h35, X35, e35, W35, st35⟩ := putF X20 hx hZ hown (host := "") (Or.inl (hw _ (List.mem_of_getElem? (i := 22) rfl))) Via.refl e20 Ff23 Ef21 (Or.inr ⟨(hw _ (List.mem_of_getElem? (i := 23) rfl)), rfl, hnm⟩) (hw _ (List.mem_of_getElem? (i := 2) rfl)) (ty := (.object "java/lang/String")) (by decide) rfl rfl (g := (mkF m 16 #[.val (.ref a1), .val (.int p2), .val (.ref a3), .val (.ref a4), .val (.ref a5), .val (.ref a6)] [(.ref a4), (.ref a1)])) rfl rfl (hb hby d1_16)
  have Fw35 := Ff23.same W35
  have Ef36 := Ef21.wr W35
  have Vf37 := Vf22.other W35 ne_a3_a1
  have Ff38 := Ff24.other W35 (Or.inr (slot_ne (Or.inr (hw _ (List.mem_of_getElem? (i := 25) rfl))) (Or.inr (hw _ (List.mem_of_getElem? (i := 23) rfl))) (by decide) (t := (.object "com/example/votal/votal/log/Template")) (t' := (.object "java/lang/String")) (by decide) (by decide)))
  have Ff39 := Ff25.other W35 (Or.inr (slot_ne (Or.inr (hw _ (List.mem_of_getElem? (i := 27) rfl))) (Or.inr (hw _ (List.mem_of_getElem? (i := 23) rfl))) (by decide) (t := (.object "java/lang/String")) (t' := (.object "java/lang/String")) (by decide) (by decide)))
  have Ff40 := Ff26.other W35 (Or.inr (slot_ne (Or.inr (hw _ (List.mem_of_getElem? (i := 29) rfl))) (Or.inr (hw _ (List.mem_of_getElem? (i := 23) rfl))) (by decide) (t := (.object "com/example/votal/votal/log/DigestAlgorithm")) (t' := (.object "java/lang/String")) (by decide) (by decide)))
  have Ff41 := Ff27.other W35 (Or.inr (slot_ne (Or.inr (hw _ (List.mem_of_getElem? (i := 31) rfl))) (Or.inr (hw _ (List.mem_of_getElem? (i := 23) rfl))) (by decide) (t := (.array .byte)) (t' := (.object "java/lang/String")) (by decide) (by decide)))
  have Ff42 := Ff28.other W35 (Or.inr (slot_ne (Or.inr (hw _ (List.mem_of_getElem? (i := 33) rfl))) (Or.inr (hw _ (List.mem_of_getElem? (i := 23) rfl))) (by decide) (t := .int) (t' := (.object "java/lang/String")) (by decide) (by decide)))
  have Ff43 := Ff29.other W35 (Or.inr (slot_ne (Or.inr (hw _ (List.mem_of_getElem? (i := 35) rfl))) (Or.inr (hw _ (List.mem_of_getElem? (i := 23) rfl))) (by decide) (t := (.array .byte)) (t' := (.object "java/lang/String")) (by decide) (by decide)))
  have Ff44 := Ff30.other W35 (Or.inr (slot_ne (Or.inr (hw _ (List.mem_of_getElem? (i := 40) rfl))) (Or.inr (hw _ (List.mem_of_getElem? (i := 23) rfl))) (by decide) (t := .boolean) (t' := (.object "java/lang/String")) (by decide) (by decide)))
  have Ff45 := Ff31.other W35 (Or.inr (slot_ne (Or.inr (hw _ (List.mem_of_getElem? (i := 19) rfl))) (Or.inr (hw _ (List.mem_of_getElem? (i := 23) rfl))) (by decide) (t := .int) (t' := (.object "java/lang/String")) (by decide) (by decide)))
  have Ff46 := Fw20.other W35 (Or.inr (slot_ne (Or.inr (hw _ (List.mem_of_getElem? (i := 21) rfl))) (Or.inr (hw _ (List.mem_of_getElem? (i := 23) rfl))) (by decide) (t := (.array .byte)) (t' := (.object "java/lang/String")) (by decide) (by decide)))
  have N35 := Fr.snoc X35 N20 g_a1
  have Z35 : n0 ≤ h35.size := Nat.le_trans Z20 (Keep.of_wr W35).1
  have Kp47 : Keep h0 h35 [a1] := Kp32.wr W35 (Or.inl (List.mem_of_getElem? (i := 0) rfl))
  have ac48 : ∀ t, Steps p.tables e below (T35.setTop (mkF m 19 #[.val (.ref a1), .val (.int p2), .val (.ref a3), .val (.ref a4), .val (.ref a5), .val (.ref a6)] [])) t → Steps p.tables e below (s₁.setTop (entryFrame m #[(.ref a1), (.int p2), (.ref a3), (.ref a4), (.ref a5), (.ref a6)] 6)) t := fun t k => ac34 t (st35 t k)
  have ac49 : ∀ t, Steps p.tables e below (T35.setTop (mkF m 21 #[.val (.ref a1), .val (.int p2), .val (.ref a3), .val (.ref a4), .val (.ref a5), .val (.ref a6)] [.null, (.ref a1)])) t → Steps p.tables e below (s₁.setTop (entryFrame m #[(.ref a1), (.int p2), (.ref a3), (.ref a4), (.ref a5), (.ref a6)] 6)) t := fun t k => ac48 t (by
      show Steps p.tables e below (T35.setTop (mkF m 19 #[.val (.ref a1), .val (.int p2), .val (.ref a3), .val (.ref a4), .val (.ref a5), .val (.ref a6)] [])) _
      refine XS.aloadN X35.here hx rfl (hb hby d1_19) rfl rfl ?_
      show Steps p.tables e below (T35.setTop (mkF m 20 #[.val (.ref a1), .val (.int p2), .val (.ref a3), .val (.ref a4), .val (.ref a5), .val (.ref a6)] [(.ref a1)])) _
      refine XS.aconstNull X35.here hx rfl (hb hby d1_20) ?_
      exact k)
  obtain ⟨T50, h50, X50, e50, W50, st50⟩ := putF X35 hx hZ hown (host := "") (Or.inl (hw _ (List.mem_of_getElem? (i := 24) rfl))) Via.refl e35 Ff38 Ef36 (Or.inr ⟨(hw _ (List.mem_of_getElem? (i := 25) rfl)), rfl, hnm⟩) (hw _ (List.mem_of_getElem? (i := 2) rfl)) (ty := (.object "com/example/votal/votal/log/Template")) (by decide) rfl rfl (g := (mkF m 21 #[.val (.ref a1), .val (.int p2), .val (.ref a3), .val (.ref a4), .val (.ref a5), .val (.ref a6)] [.null, (.ref a1)])) rfl rfl (hb hby d1_21)
  have Fw50 := Ff38.same W50
  have Ef51 := Ef36.wr W50
  have Vf52 := Vf37.other W50 ne_a3_a1
  have Ff53 := Ff39.other W50 (Or.inr (slot_ne (Or.inr (hw _ (List.mem_of_getElem? (i := 27) rfl))) (Or.inr (hw _ (List.mem_of_getElem? (i := 25) rfl))) (by decide) (t := (.object "java/lang/String")) (t' := (.object "com/example/votal/votal/log/Template")) (by decide) (by decide)))
  have Ff54 := Ff40.other W50 (Or.inr (slot_ne (Or.inr (hw _ (List.mem_of_getElem? (i := 29) rfl))) (Or.inr (hw _ (List.mem_of_getElem? (i := 25) rfl))) (by decide) (t := (.object "com/example/votal/votal/log/DigestAlgorithm")) (t' := (.object "com/example/votal/votal/log/Template")) (by decide) (by decide)))
  have Ff55 := Ff41.other W50 (Or.inr (slot_ne (Or.inr (hw _ (List.mem_of_getElem? (i := 31) rfl))) (Or.inr (hw _ (List.mem_of_getElem? (i := 25) rfl))) (by decide) (t := (.array .byte)) (t' := (.object "com/example/votal/votal/log/Template")) (by decide) (by decide)))
  have Ff56 := Ff42.other W50 (Or.inr (slot_ne (Or.inr (hw _ (List.mem_of_getElem? (i := 33) rfl))) (Or.inr (hw _ (List.mem_of_getElem? (i := 25) rfl))) (by decide) (t := .int) (t' := (.object "com/example/votal/votal/log/Template")) (by decide) (by decide)))
  have Ff57 := Ff43.other W50 (Or.inr (slot_ne (Or.inr (hw _ (List.mem_of_getElem? (i := 35) rfl))) (Or.inr (hw _ (List.mem_of_getElem? (i := 25) rfl))) (by decide) (t := (.array .byte)) (t' := (.object "com/example/votal/votal/log/Template")) (by decide) (by decide)))
  have Ff58 := Ff44.other W50 (Or.inr (slot_ne (Or.inr (hw _ (List.mem_of_getElem? (i := 40) rfl))) (Or.inr (hw _ (List.mem_of_getElem? (i := 25) rfl))) (by decide) (t := .boolean) (t' := (.object "com/example/votal/votal/log/Template")) (by decide) (by decide)))
  have Ff59 := Ff45.other W50 (Or.inr (slot_ne (Or.inr (hw _ (List.mem_of_getElem? (i := 19) rfl))) (Or.inr (hw _ (List.mem_of_getElem? (i := 25) rfl))) (by decide) (t := .int) (t' := (.object "com/example/votal/votal/log/Template")) (by decide) (by decide)))
  have Ff60 := Ff46.other W50 (Or.inr (slot_ne (Or.inr (hw _ (List.mem_of_getElem? (i := 21) rfl))) (Or.inr (hw _ (List.mem_of_getElem? (i := 25) rfl))) (by decide) (t := (.array .byte)) (t' := (.object "com/example/votal/votal/log/Template")) (by decide) (by decide)))
  have Ff61 := Fw35.other W50 (Or.inr (slot_ne (Or.inr (hw _ (List.mem_of_getElem? (i := 23) rfl))) (Or.inr (hw _ (List.mem_of_getElem? (i := 25) rfl))) (by decide) (t := (.object "java/lang/String")) (t' := (.object "com/example/votal/votal/log/Template")) (by decide) (by decide)))
  have N50 := Fr.snoc X50 N35 g_a1
  have Z50 : n0 ≤ h50.size := Nat.le_trans Z35 (Keep.of_wr W50).1
  have Kp62 : Keep h0 h50 [a1] := Kp47.wr W50 (Or.inl (List.mem_of_getElem? (i := 0) rfl))
  have ac63 : ∀ t, Steps p.tables e below (T50.setTop (mkF m 24 #[.val (.ref a1), .val (.int p2), .val (.ref a3), .val (.ref a4), .val (.ref a5), .val (.ref a6)] [])) t → Steps p.tables e below (s₁.setTop (entryFrame m #[(.ref a1), (.int p2), (.ref a3), (.ref a4), (.ref a5), (.ref a6)] 6)) t := fun t k => ac49 t (st50 t k)
  have ac64 : ∀ t, Steps p.tables e below (T50.setTop (mkF m 27 #[.val (.ref a1), .val (.int p2), .val (.ref a3), .val (.ref a4), .val (.ref a5), .val (.ref a6)] [(.ref a5), (.ref a1)])) t → Steps p.tables e below (s₁.setTop (entryFrame m #[(.ref a1), (.int p2), (.ref a3), (.ref a4), (.ref a5), (.ref a6)] 6)) t := fun t k => ac63 t (by
      show Steps p.tables e below (T50.setTop (mkF m 24 #[.val (.ref a1), .val (.int p2), .val (.ref a3), .val (.ref a4), .val (.ref a5), .val (.ref a6)] [])) _
      refine XS.aloadN X50.here hx rfl (hb hby d1_24) rfl rfl ?_
      show Steps p.tables e below (T50.setTop (mkF m 25 #[.val (.ref a1), .val (.int p2), .val (.ref a3), .val (.ref a4), .val (.ref a5), .val (.ref a6)] [(.ref a1)])) _
      refine XS.aload X50.here hx rfl (hb hby d1_25) rfl rfl ?_
      exact k)
  obtain ⟨T65, h65, X65, e65, W65, st65⟩ := putF X50 hx hZ hown (host := "") (Or.inl (hw _ (List.mem_of_getElem? (i := 26) rfl))) Via.refl e50 Ff53 Ef51 (Or.inr ⟨(hw _ (List.mem_of_getElem? (i := 27) rfl)), rfl, hnm⟩) (hw _ (List.mem_of_getElem? (i := 2) rfl)) (ty := (.object "java/lang/String")) (by decide) rfl rfl (g := (mkF m 27 #[.val (.ref a1), .val (.int p2), .val (.ref a3), .val (.ref a4), .val (.ref a5), .val (.ref a6)] [(.ref a5), (.ref a1)])) rfl rfl (hb hby d1_27)
  have Fw65 := Ff53.same W65
  have Ef66 := Ef51.wr W65
  have Vf67 := Vf52.other W65 ne_a3_a1
  have Ff68 := Ff54.other W65 (Or.inr (slot_ne (Or.inr (hw _ (List.mem_of_getElem? (i := 29) rfl))) (Or.inr (hw _ (List.mem_of_getElem? (i := 27) rfl))) (by decide) (t := (.object "com/example/votal/votal/log/DigestAlgorithm")) (t' := (.object "java/lang/String")) (by decide) (by decide)))
  have Ff69 := Ff55.other W65 (Or.inr (slot_ne (Or.inr (hw _ (List.mem_of_getElem? (i := 31) rfl))) (Or.inr (hw _ (List.mem_of_getElem? (i := 27) rfl))) (by decide) (t := (.array .byte)) (t' := (.object "java/lang/String")) (by decide) (by decide)))
  have Ff70 := Ff56.other W65 (Or.inr (slot_ne (Or.inr (hw _ (List.mem_of_getElem? (i := 33) rfl))) (Or.inr (hw _ (List.mem_of_getElem? (i := 27) rfl))) (by decide) (t := .int) (t' := (.object "java/lang/String")) (by decide) (by decide)))
  have Ff71 := Ff57.other W65 (Or.inr (slot_ne (Or.inr (hw _ (List.mem_of_getElem? (i := 35) rfl))) (Or.inr (hw _ (List.mem_of_getElem? (i := 27) rfl))) (by decide) (t := (.array .byte)) (t' := (.object "java/lang/String")) (by decide) (by decide)))
  have Ff72 := Ff58.other W65 (Or.inr (slot_ne (Or.inr (hw _ (List.mem_of_getElem? (i := 40) rfl))) (Or.inr (hw _ (List.mem_of_getElem? (i := 27) rfl))) (by decide) (t := .boolean) (t' := (.object "java/lang/String")) (by decide) (by decide)))
  have Ff73 := Ff59.other W65 (Or.inr (slot_ne (Or.inr (hw _ (List.mem_of_getElem? (i := 19) rfl))) (Or.inr (hw _ (List.mem_of_getElem? (i := 27) rfl))) (by decide) (t := .int) (t' := (.object "java/lang/String")) (by decide) (by decide)))
  have Ff74 := Ff60.other W65 (Or.inr (slot_ne (Or.inr (hw _ (List.mem_of_getElem? (i := 21) rfl))) (Or.inr (hw _ (List.mem_of_getElem? (i := 27) rfl))) (by decide) (t := (.array .byte)) (t' := (.object "java/lang/String")) (by decide) (by decide)))
  have Ff75 := Ff61.other W65 (Or.inr (slot_ne (Or.inr (hw _ (List.mem_of_getElem? (i := 23) rfl))) (Or.inr (hw _ (List.mem_of_getElem? (i := 27) rfl))) (by decide) (t := (.object "java/lang/String")) (t' := (.object "java/lang/String")) (by decide) (by decide)))
  have Ff76 := Fw50.other W65 (Or.inr (slot_ne (Or.inr (hw _ (List.mem_of_getElem? (i := 25) rfl))) (Or.inr (hw _ (List.mem_of_getElem? (i := 27) rfl))) (by decide) (t := (.object "com/example/votal/votal/log/Template")) (t' := (.object "java/lang/String")) (by decide) (by decide)))
  have N65 := Fr.snoc X65 N50 g_a1
  have Z65 : n0 ≤ h65.size := Nat.le_trans Z50 (Keep.of_wr W65).1
  have Kp77 : Keep h0 h65 [a1] := Kp62.wr W65 (Or.inl (List.mem_of_getElem? (i := 0) rfl))
  have ac78 : ∀ t, Steps p.tables e below (T65.setTop (mkF m 30 #[.val (.ref a1), .val (.int p2), .val (.ref a3), .val (.ref a4), .val (.ref a5), .val (.ref a6)] [])) t → Steps p.tables e below (s₁.setTop (entryFrame m #[(.ref a1), (.int p2), (.ref a3), (.ref a4), (.ref a5), (.ref a6)] 6)) t := fun t k => ac64 t (st65 t k)
  have ac79 : ∀ t, Steps p.tables e below (T65.setTop (mkF m 32 #[.val (.ref a1), .val (.int p2), .val (.ref a3), .val (.ref a4), .val (.ref a5), .val (.ref a6)] [.null, (.ref a1)])) t → Steps p.tables e below (s₁.setTop (entryFrame m #[(.ref a1), (.int p2), (.ref a3), (.ref a4), (.ref a5), (.ref a6)] 6)) t := fun t k => ac78 t (by
      show Steps p.tables e below (T65.setTop (mkF m 30 #[.val (.ref a1), .val (.int p2), .val (.ref a3), .val (.ref a4), .val (.ref a5), .val (.ref a6)] [])) _
      refine XS.aloadN X65.here hx rfl (hb hby d1_30) rfl rfl ?_
      show Steps p.tables e below (T65.setTop (mkF m 31 #[.val (.ref a1), .val (.int p2), .val (.ref a3), .val (.ref a4), .val (.ref a5), .val (.ref a6)] [(.ref a1)])) _
      refine XS.aconstNull X65.here hx rfl (hb hby d1_31) ?_
      exact k)
  obtain ⟨T80, h80, X80, e80, W80, st80⟩ := putF X65 hx hZ hown (host := "") (Or.inl (hw _ (List.mem_of_getElem? (i := 28) rfl))) Via.refl e65 Ff68 Ef66 (Or.inr ⟨(hw _ (List.mem_of_getElem? (i := 29) rfl)), rfl, hnm⟩) (hw _ (List.mem_of_getElem? (i := 2) rfl)) (ty := (.object "com/example/votal/votal/log/DigestAlgorithm")) (by decide) rfl rfl (g := (mkF m 32 #[.val (.ref a1), .val (.int p2), .val (.ref a3), .val (.ref a4), .val (.ref a5), .val (.ref a6)] [.null, (.ref a1)])) rfl rfl (hb hby d1_32)
  have Fw80 := Ff68.same W80
  have Ef81 := Ef66.wr W80
  have Vf82 := Vf67.other W80 ne_a3_a1
  have Ff83 := Ff69.other W80 (Or.inr (slot_ne (Or.inr (hw _ (List.mem_of_getElem? (i := 31) rfl))) (Or.inr (hw _ (List.mem_of_getElem? (i := 29) rfl))) (by decide) (t := (.array .byte)) (t' := (.object "com/example/votal/votal/log/DigestAlgorithm")) (by decide) (by decide)))
  have Ff84 := Ff70.other W80 (Or.inr (slot_ne (Or.inr (hw _ (List.mem_of_getElem? (i := 33) rfl))) (Or.inr (hw _ (List.mem_of_getElem? (i := 29) rfl))) (by decide) (t := .int) (t' := (.object "com/example/votal/votal/log/DigestAlgorithm")) (by decide) (by decide)))
  have Ff85 := Ff71.other W80 (Or.inr (slot_ne (Or.inr (hw _ (List.mem_of_getElem? (i := 35) rfl))) (Or.inr (hw _ (List.mem_of_getElem? (i := 29) rfl))) (by decide) (t := (.array .byte)) (t' := (.object "com/example/votal/votal/log/DigestAlgorithm")) (by decide) (by decide)))
  have Ff86 := Ff72.other W80 (Or.inr (slot_ne (Or.inr (hw _ (List.mem_of_getElem? (i := 40) rfl))) (Or.inr (hw _ (List.mem_of_getElem? (i := 29) rfl))) (by decide) (t := .boolean) (t' := (.object "com/example/votal/votal/log/DigestAlgorithm")) (by decide) (by decide)))
  have Ff87 := Ff73.other W80 (Or.inr (slot_ne (Or.inr (hw _ (List.mem_of_getElem? (i := 19) rfl))) (Or.inr (hw _ (List.mem_of_getElem? (i := 29) rfl))) (by decide) (t := .int) (t' := (.object "com/example/votal/votal/log/DigestAlgorithm")) (by decide) (by decide)))
  have Ff88 := Ff74.other W80 (Or.inr (slot_ne (Or.inr (hw _ (List.mem_of_getElem? (i := 21) rfl))) (Or.inr (hw _ (List.mem_of_getElem? (i := 29) rfl))) (by decide) (t := (.array .byte)) (t' := (.object "com/example/votal/votal/log/DigestAlgorithm")) (by decide) (by decide)))
  have Ff89 := Ff75.other W80 (Or.inr (slot_ne (Or.inr (hw _ (List.mem_of_getElem? (i := 23) rfl))) (Or.inr (hw _ (List.mem_of_getElem? (i := 29) rfl))) (by decide) (t := (.object "java/lang/String")) (t' := (.object "com/example/votal/votal/log/DigestAlgorithm")) (by decide) (by decide)))
  have Ff90 := Ff76.other W80 (Or.inr (slot_ne (Or.inr (hw _ (List.mem_of_getElem? (i := 25) rfl))) (Or.inr (hw _ (List.mem_of_getElem? (i := 29) rfl))) (by decide) (t := (.object "com/example/votal/votal/log/Template")) (t' := (.object "com/example/votal/votal/log/DigestAlgorithm")) (by decide) (by decide)))
  have Ff91 := Fw65.other W80 (Or.inr (slot_ne (Or.inr (hw _ (List.mem_of_getElem? (i := 27) rfl))) (Or.inr (hw _ (List.mem_of_getElem? (i := 29) rfl))) (by decide) (t := (.object "java/lang/String")) (t' := (.object "com/example/votal/votal/log/DigestAlgorithm")) (by decide) (by decide)))
  have N80 := Fr.snoc X80 N65 g_a1
  have Z80 : n0 ≤ h80.size := Nat.le_trans Z65 (Keep.of_wr W80).1
  have Kp92 : Keep h0 h80 [a1] := Kp77.wr W80 (Or.inl (List.mem_of_getElem? (i := 0) rfl))
  have ac93 : ∀ t, Steps p.tables e below (T80.setTop (mkF m 35 #[.val (.ref a1), .val (.int p2), .val (.ref a3), .val (.ref a4), .val (.ref a5), .val (.ref a6)] [])) t → Steps p.tables e below (s₁.setTop (entryFrame m #[(.ref a1), (.int p2), (.ref a3), (.ref a4), (.ref a5), (.ref a6)] 6)) t := fun t k => ac79 t (st80 t k)
  have ac94 : ∀ t, Steps p.tables e below (T80.setTop (mkF m 37 #[.val (.ref a1), .val (.int p2), .val (.ref a3), .val (.ref a4), .val (.ref a5), .val (.ref a6)] [.null, (.ref a1)])) t → Steps p.tables e below (s₁.setTop (entryFrame m #[(.ref a1), (.int p2), (.ref a3), (.ref a4), (.ref a5), (.ref a6)] 6)) t := fun t k => ac93 t (by
      show Steps p.tables e below (T80.setTop (mkF m 35 #[.val (.ref a1), .val (.int p2), .val (.ref a3), .val (.ref a4), .val (.ref a5), .val (.ref a6)] [])) _
      refine XS.aloadN X80.here hx rfl (hb hby d1_35) rfl rfl ?_
      show Steps p.tables e below (T80.setTop (mkF m 36 #[.val (.ref a1), .val (.int p2), .val (.ref a3), .val (.ref a4), .val (.ref a5), .val (.ref a6)] [(.ref a1)])) _
      refine XS.aconstNull X80.here hx rfl (hb hby d1_36) ?_
      exact k)
  obtain ⟨T95, h95, X95, e95, W95, st95⟩ := putF X80 hx hZ hown (host := "") (Or.inl (hw _ (List.mem_of_getElem? (i := 30) rfl))) Via.refl e80 Ff83 Ef81 (Or.inr ⟨(hw _ (List.mem_of_getElem? (i := 31) rfl)), rfl, hnm⟩) (hw _ (List.mem_of_getElem? (i := 2) rfl)) (ty := (.array .byte)) (by decide) rfl rfl (g := (mkF m 37 #[.val (.ref a1), .val (.int p2), .val (.ref a3), .val (.ref a4), .val (.ref a5), .val (.ref a6)] [.null, (.ref a1)])) rfl rfl (hb hby d1_37)
  have Fw95 := Ff83.same W95
  have Ef96 := Ef81.wr W95
  have Vf97 := Vf82.other W95 ne_a3_a1
  have Ff98 := Ff84.other W95 (Or.inr (slot_ne (Or.inr (hw _ (List.mem_of_getElem? (i := 33) rfl))) (Or.inr (hw _ (List.mem_of_getElem? (i := 31) rfl))) (by decide) (t := .int) (t' := (.array .byte)) (by decide) (by decide)))
  have Ff99 := Ff85.other W95 (Or.inr (slot_ne (Or.inr (hw _ (List.mem_of_getElem? (i := 35) rfl))) (Or.inr (hw _ (List.mem_of_getElem? (i := 31) rfl))) (by decide) (t := (.array .byte)) (t' := (.array .byte)) (by decide) (by decide)))
  have Ff100 := Ff86.other W95 (Or.inr (slot_ne (Or.inr (hw _ (List.mem_of_getElem? (i := 40) rfl))) (Or.inr (hw _ (List.mem_of_getElem? (i := 31) rfl))) (by decide) (t := .boolean) (t' := (.array .byte)) (by decide) (by decide)))
  have Ff101 := Ff87.other W95 (Or.inr (slot_ne (Or.inr (hw _ (List.mem_of_getElem? (i := 19) rfl))) (Or.inr (hw _ (List.mem_of_getElem? (i := 31) rfl))) (by decide) (t := .int) (t' := (.array .byte)) (by decide) (by decide)))
  have Ff102 := Ff88.other W95 (Or.inr (slot_ne (Or.inr (hw _ (List.mem_of_getElem? (i := 21) rfl))) (Or.inr (hw _ (List.mem_of_getElem? (i := 31) rfl))) (by decide) (t := (.array .byte)) (t' := (.array .byte)) (by decide) (by decide)))
  have Ff103 := Ff89.other W95 (Or.inr (slot_ne (Or.inr (hw _ (List.mem_of_getElem? (i := 23) rfl))) (Or.inr (hw _ (List.mem_of_getElem? (i := 31) rfl))) (by decide) (t := (.object "java/lang/String")) (t' := (.array .byte)) (by decide) (by decide)))
  have Ff104 := Ff90.other W95 (Or.inr (slot_ne (Or.inr (hw _ (List.mem_of_getElem? (i := 25) rfl))) (Or.inr (hw _ (List.mem_of_getElem? (i := 31) rfl))) (by decide) (t := (.object "com/example/votal/votal/log/Template")) (t' := (.array .byte)) (by decide) (by decide)))
  have Ff105 := Ff91.other W95 (Or.inr (slot_ne (Or.inr (hw _ (List.mem_of_getElem? (i := 27) rfl))) (Or.inr (hw _ (List.mem_of_getElem? (i := 31) rfl))) (by decide) (t := (.object "java/lang/String")) (t' := (.array .byte)) (by decide) (by decide)))
  have Ff106 := Fw80.other W95 (Or.inr (slot_ne (Or.inr (hw _ (List.mem_of_getElem? (i := 29) rfl))) (Or.inr (hw _ (List.mem_of_getElem? (i := 31) rfl))) (by decide) (t := (.object "com/example/votal/votal/log/DigestAlgorithm")) (t' := (.array .byte)) (by decide) (by decide)))
  have N95 := Fr.snoc X95 N80 g_a1
  have Z95 : n0 ≤ h95.size := Nat.le_trans Z80 (Keep.of_wr W95).1
  have Kp107 : Keep h0 h95 [a1] := Kp92.wr W95 (Or.inl (List.mem_of_getElem? (i := 0) rfl))
  have ac108 : ∀ t, Steps p.tables e below (T95.setTop (mkF m 40 #[.val (.ref a1), .val (.int p2), .val (.ref a3), .val (.ref a4), .val (.ref a5), .val (.ref a6)] [])) t → Steps p.tables e below (s₁.setTop (entryFrame m #[(.ref a1), (.int p2), (.ref a3), (.ref a4), (.ref a5), (.ref a6)] 6)) t := fun t k => ac94 t (st95 t k)
  have ac109 : ∀ t, Steps p.tables e below (T95.setTop (mkF m 42 #[.val (.ref a1), .val (.int p2), .val (.ref a3), .val (.ref a4), .val (.ref a5), .val (.ref a6)] [(.int (-1 : Int32)), (.ref a1)])) t → Steps p.tables e below (s₁.setTop (entryFrame m #[(.ref a1), (.int p2), (.ref a3), (.ref a4), (.ref a5), (.ref a6)] 6)) t := fun t k => ac108 t (by
      show Steps p.tables e below (T95.setTop (mkF m 40 #[.val (.ref a1), .val (.int p2), .val (.ref a3), .val (.ref a4), .val (.ref a5), .val (.ref a6)] [])) _
      refine XS.aloadN X95.here hx rfl (hb hby d1_40) rfl rfl ?_
      show Steps p.tables e below (T95.setTop (mkF m 41 #[.val (.ref a1), .val (.int p2), .val (.ref a3), .val (.ref a4), .val (.ref a5), .val (.ref a6)] [(.ref a1)])) _
      refine XS.iconst X95.here hx rfl (hb hby d1_41) ?_
      exact k)
  obtain ⟨T110, h110, X110, e110, W110, st110⟩ := putF X95 hx hZ hown (host := "") (Or.inl (hw _ (List.mem_of_getElem? (i := 32) rfl))) Via.refl e95 Ff98 Ef96 (Or.inr ⟨(hw _ (List.mem_of_getElem? (i := 33) rfl)), rfl, hnm⟩) (hw _ (List.mem_of_getElem? (i := 2) rfl)) (ty := .int) (by decide) rfl rfl (g := (mkF m 42 #[.val (.ref a1), .val (.int p2), .val (.ref a3), .val (.ref a4), .val (.ref a5), .val (.ref a6)] [(.int (-1 : Int32)), (.ref a1)])) rfl rfl (hb hby d1_42)
  have Fw110 := Ff98.same W110
  have Ef111 := Ef96.wr W110
  have Vf112 := Vf97.other W110 ne_a3_a1
  have Ff113 := Ff99.other W110 (Or.inr (slot_ne (Or.inr (hw _ (List.mem_of_getElem? (i := 35) rfl))) (Or.inr (hw _ (List.mem_of_getElem? (i := 33) rfl))) (by decide) (t := (.array .byte)) (t' := .int) (by decide) (by decide)))
  have Ff114 := Ff100.other W110 (Or.inr (slot_ne (Or.inr (hw _ (List.mem_of_getElem? (i := 40) rfl))) (Or.inr (hw _ (List.mem_of_getElem? (i := 33) rfl))) (by decide) (t := .boolean) (t' := .int) (by decide) (by decide)))
  have Ff115 := Ff101.other W110 (Or.inr (slot_ne (Or.inr (hw _ (List.mem_of_getElem? (i := 19) rfl))) (Or.inr (hw _ (List.mem_of_getElem? (i := 33) rfl))) (by decide) (t := .int) (t' := .int) (by decide) (by decide)))
  have Ff116 := Ff102.other W110 (Or.inr (slot_ne (Or.inr (hw _ (List.mem_of_getElem? (i := 21) rfl))) (Or.inr (hw _ (List.mem_of_getElem? (i := 33) rfl))) (by decide) (t := (.array .byte)) (t' := .int) (by decide) (by decide)))
  have Ff117 := Ff103.other W110 (Or.inr (slot_ne (Or.inr (hw _ (List.mem_of_getElem? (i := 23) rfl))) (Or.inr (hw _ (List.mem_of_getElem? (i := 33) rfl))) (by decide) (t := (.object "java/lang/String")) (t' := .int) (by decide) (by decide)))
  have Ff118 := Ff104.other W110 (Or.inr (slot_ne (Or.inr (hw _ (List.mem_of_getElem? (i := 25) rfl))) (Or.inr (hw _ (List.mem_of_getElem? (i := 33) rfl))) (by decide) (t := (.object "com/example/votal/votal/log/Template")) (t' := .int) (by decide) (by decide)))
  have Ff119 := Ff105.other W110 (Or.inr (slot_ne (Or.inr (hw _ (List.mem_of_getElem? (i := 27) rfl))) (Or.inr (hw _ (List.mem_of_getElem? (i := 33) rfl))) (by decide) (t := (.object "java/lang/String")) (t' := .int) (by decide) (by decide)))
  have Ff120 := Ff106.other W110 (Or.inr (slot_ne (Or.inr (hw _ (List.mem_of_getElem? (i := 29) rfl))) (Or.inr (hw _ (List.mem_of_getElem? (i := 33) rfl))) (by decide) (t := (.object "com/example/votal/votal/log/DigestAlgorithm")) (t' := .int) (by decide) (by decide)))
  have Ff121 := Fw95.other W110 (Or.inr (slot_ne (Or.inr (hw _ (List.mem_of_getElem? (i := 31) rfl))) (Or.inr (hw _ (List.mem_of_getElem? (i := 33) rfl))) (by decide) (t := (.array .byte)) (t' := .int) (by decide) (by decide)))
  have N110 := Fr.snoc X110 N95 g_a1
  have Z110 : n0 ≤ h110.size := Nat.le_trans Z95 (Keep.of_wr W110).1
  have Kp122 : Keep h0 h110 [a1] := Kp107.wr W110 (Or.inl (List.mem_of_getElem? (i := 0) rfl))
  have ac123 : ∀ t, Steps p.tables e below (T110.setTop (mkF m 45 #[.val (.ref a1), .val (.int p2), .val (.ref a3), .val (.ref a4), .val (.ref a5), .val (.ref a6)] [])) t → Steps p.tables e below (s₁.setTop (entryFrame m #[(.ref a1), (.int p2), (.ref a3), (.ref a4), (.ref a5), (.ref a6)] 6)) t := fun t k => ac109 t (st110 t k)
  have ac124 : ∀ t, Steps p.tables e below (T110.setTop (mkF m 48 #[.val (.ref a1), .val (.int p2), .val (.ref a3), .val (.ref a4), .val (.ref a5), .val (.ref a6)] [(.ref a6), (.ref a1)])) t → Steps p.tables e below (s₁.setTop (entryFrame m #[(.ref a1), (.int p2), (.ref a3), (.ref a4), (.ref a5), (.ref a6)] 6)) t := fun t k => ac123 t (by
      show Steps p.tables e below (T110.setTop (mkF m 45 #[.val (.ref a1), .val (.int p2), .val (.ref a3), .val (.ref a4), .val (.ref a5), .val (.ref a6)] [])) _
      refine XS.aloadN X110.here hx rfl (hb hby d1_45) rfl rfl ?_
      show Steps p.tables e below (T110.setTop (mkF m 46 #[.val (.ref a1), .val (.int p2), .val (.ref a3), .val (.ref a4), .val (.ref a5), .val (.ref a6)] [(.ref a1)])) _
      refine XS.aload X110.here hx rfl (hb hby d1_46) rfl rfl ?_
      exact k)
  obtain ⟨T125, h125, X125, e125, W125, st125⟩ := putF X110 hx hZ hown (host := "") (Or.inl (hw _ (List.mem_of_getElem? (i := 34) rfl))) Via.refl e110 Ff113 Ef111 (Or.inr ⟨(hw _ (List.mem_of_getElem? (i := 35) rfl)), rfl, hnm⟩) (hw _ (List.mem_of_getElem? (i := 2) rfl)) (ty := (.array .byte)) (by decide) rfl rfl (g := (mkF m 48 #[.val (.ref a1), .val (.int p2), .val (.ref a3), .val (.ref a4), .val (.ref a5), .val (.ref a6)] [(.ref a6), (.ref a1)])) rfl rfl (hb hby d1_48)
  have Fw125 := Ff113.same W125
  have Ef126 := Ef111.wr W125
  have Vf127 := Vf112.other W125 ne_a3_a1
  have Ff128 := Ff114.other W125 (Or.inr (slot_ne (Or.inr (hw _ (List.mem_of_getElem? (i := 40) rfl))) (Or.inr (hw _ (List.mem_of_getElem? (i := 35) rfl))) (by decide) (t := .boolean) (t' := (.array .byte)) (by decide) (by decide)))
  have Ff129 := Ff115.other W125 (Or.inr (slot_ne (Or.inr (hw _ (List.mem_of_getElem? (i := 19) rfl))) (Or.inr (hw _ (List.mem_of_getElem? (i := 35) rfl))) (by decide) (t := .int) (t' := (.array .byte)) (by decide) (by decide)))
  have Ff130 := Ff116.other W125 (Or.inr (slot_ne (Or.inr (hw _ (List.mem_of_getElem? (i := 21) rfl))) (Or.inr (hw _ (List.mem_of_getElem? (i := 35) rfl))) (by decide) (t := (.array .byte)) (t' := (.array .byte)) (by decide) (by decide)))
  have Ff131 := Ff117.other W125 (Or.inr (slot_ne (Or.inr (hw _ (List.mem_of_getElem? (i := 23) rfl))) (Or.inr (hw _ (List.mem_of_getElem? (i := 35) rfl))) (by decide) (t := (.object "java/lang/String")) (t' := (.array .byte)) (by decide) (by decide)))
  have Ff132 := Ff118.other W125 (Or.inr (slot_ne (Or.inr (hw _ (List.mem_of_getElem? (i := 25) rfl))) (Or.inr (hw _ (List.mem_of_getElem? (i := 35) rfl))) (by decide) (t := (.object "com/example/votal/votal/log/Template")) (t' := (.array .byte)) (by decide) (by decide)))
  have Ff133 := Ff119.other W125 (Or.inr (slot_ne (Or.inr (hw _ (List.mem_of_getElem? (i := 27) rfl))) (Or.inr (hw _ (List.mem_of_getElem? (i := 35) rfl))) (by decide) (t := (.object "java/lang/String")) (t' := (.array .byte)) (by decide) (by decide)))
  have Ff134 := Ff120.other W125 (Or.inr (slot_ne (Or.inr (hw _ (List.mem_of_getElem? (i := 29) rfl))) (Or.inr (hw _ (List.mem_of_getElem? (i := 35) rfl))) (by decide) (t := (.object "com/example/votal/votal/log/DigestAlgorithm")) (t' := (.array .byte)) (by decide) (by decide)))
  have Ff135 := Ff121.other W125 (Or.inr (slot_ne (Or.inr (hw _ (List.mem_of_getElem? (i := 31) rfl))) (Or.inr (hw _ (List.mem_of_getElem? (i := 35) rfl))) (by decide) (t := (.array .byte)) (t' := (.array .byte)) (by decide) (by decide)))
  have Ff136 := Fw110.other W125 (Or.inr (slot_ne (Or.inr (hw _ (List.mem_of_getElem? (i := 33) rfl))) (Or.inr (hw _ (List.mem_of_getElem? (i := 35) rfl))) (by decide) (t := .int) (t' := (.array .byte)) (by decide) (by decide)))
  have N125 := Fr.snoc X125 N110 g_a1
  have Z125 : n0 ≤ h125.size := Nat.le_trans Z110 (Keep.of_wr W125).1
  have Kp137 : Keep h0 h125 [a1] := Kp122.wr W125 (Or.inl (List.mem_of_getElem? (i := 0) rfl))
  have ac138 : ∀ t, Steps p.tables e below (T125.setTop (mkF m 51 #[.val (.ref a1), .val (.int p2), .val (.ref a3), .val (.ref a4), .val (.ref a5), .val (.ref a6)] [])) t → Steps p.tables e below (s₁.setTop (entryFrame m #[(.ref a1), (.int p2), (.ref a3), (.ref a4), (.ref a5), (.ref a6)] 6)) t := fun t k => ac124 t (st125 t k)
  have ac139 : ∀ t, Steps p.tables e below (T125.setTop (mkF m 53 #[.val (.ref a1), .val (.int p2), .val (.ref a3), .val (.ref a4), .val (.ref a5), .val (.ref a6)] [(.ref a3), (.ref a1)])) t → Steps p.tables e below (s₁.setTop (entryFrame m #[(.ref a1), (.int p2), (.ref a3), (.ref a4), (.ref a5), (.ref a6)] 6)) t := fun t k => ac138 t (by
      show Steps p.tables e below (T125.setTop (mkF m 51 #[.val (.ref a1), .val (.int p2), .val (.ref a3), .val (.ref a4), .val (.ref a5), .val (.ref a6)] [])) _
      refine XS.aloadN X125.here hx rfl (hb hby d1_51) rfl rfl ?_
      show Steps p.tables e below (T125.setTop (mkF m 52 #[.val (.ref a1), .val (.int p2), .val (.ref a3), .val (.ref a4), .val (.ref a5), .val (.ref a6)] [(.ref a1)])) _
      refine XS.aloadN X125.here hx rfl (hb hby d1_52) rfl rfl ?_
      exact k)
  obtain ⟨_, _, ⟨T140, L140, k140, n140⟩, -, X140, ⟨Lc140, hQ140, l140, y140, z140⟩, st140⟩ := Jvm.LawKit.callS X125 hx (y := (⟨"com/example/votal/votal/log/LogRecord", "isZero", "([B)Z"⟩ : MethodName)) hown (mvT hZ (hw _ (List.mem_of_getElem? (i := 36) rfl))) (mvT hZ (hw _ (List.mem_of_getElem? (i := 37) rfl))) (mvT hZ (hw _ (List.mem_of_getElem? (i := 3) rfl))) (mvT hZ (hw _ (List.mem_of_getElem? (i := 38) rfl))) (by decide) (backOf (W := 1) (rm3 l Z a0 hw [] a3 n1 f h125 n0 Z125 Vf127 hf h1) hZ (hw _ (List.mem_of_getElem? (i := 38) rfl)) (hw _ (List.mem_of_getElem? (i := 3) rfl)) (by decide) (by decide)) (g := (mkF m 53 #[.val (.ref a1), .val (.int p2), .val (.ref a3), .val (.ref a4), .val (.ref a5), .val (.ref a6)] [(.ref a3), (.ref a1)])) rfl (by rw [hml]; rfl) (argsL := [(.ref a3)]) (rest := [(.ref a1)]) (lenOf pd_2 rfl) rfl (by show 2 * 0 + _ ≤ _; exact Nat.le_of_eq rfl) (hb hby d1_53) (fun _ _ => ⟨rfl, e125, (by decide : 0 + 0 ≤ _), (by decide : 0 + 0 ≤ _)⟩)
  dsimp only [Pt.U, Pt.locs, Pt.cells, Pt.slots] at X140 l140 y140 z140 st140 hQ140
  subst l140 y140 z140
  obtain ⟨r140, rfl, N140q, Qe140⟩ := hQ140
  have N140 := Fr.app N125 N140q
  have ac141 : ∀ t, Steps p.tables e below (T140.setTop (mkF m 56 #[.val (.ref a1), .val (.int p2), .val (.ref a3), .val (.ref a4), .val (.ref a5), .val (.ref a6)] [(.int r140), (.ref a1)])) t → Steps p.tables e below (s₁.setTop (entryFrame m #[(.ref a1), (.int p2), (.ref a3), (.ref a4), (.ref a5), (.ref a6)] 6)) t := fun t k => ac139 t (st140 t k)
  obtain ⟨T142, h142, X142, e142, W142, st142⟩ := putFN X140 hx hZ hown (hw _ (List.mem_of_getElem? (i := 39) rfl)) Via.refl Qe140 Ff128 Ef126 (Or.inr ⟨(hw _ (List.mem_of_getElem? (i := 40) rfl)), rfl, hnm⟩) (hw _ (List.mem_of_getElem? (i := 2) rfl)) (ty := .boolean) (v' := (.int (nar .boolean r140))) (by decide) rfl (fits_nar_bool _) (g := (mkF m 56 #[.val (.ref a1), .val (.int p2), .val (.ref a3), .val (.ref a4), .val (.ref a5), .val (.ref a6)] [(.int r140), (.ref a1)])) rfl rfl (hb hby d1_56)
  have Fw142 := Ff128.same W142
  have Ef143 := Ef126.wr W142
  have Vf144 := Vf127.other W142 ne_a3_a1
  have Ff145 := Ff129.other W142 (Or.inr (slot_ne (Or.inr (hw _ (List.mem_of_getElem? (i := 19) rfl))) (Or.inr (hw _ (List.mem_of_getElem? (i := 40) rfl))) (by decide) (t := .int) (t' := .boolean) (by decide) (by decide)))
  have Ff146 := Ff130.other W142 (Or.inr (slot_ne (Or.inr (hw _ (List.mem_of_getElem? (i := 21) rfl))) (Or.inr (hw _ (List.mem_of_getElem? (i := 40) rfl))) (by decide) (t := (.array .byte)) (t' := .boolean) (by decide) (by decide)))
  have Ff147 := Ff131.other W142 (Or.inr (slot_ne (Or.inr (hw _ (List.mem_of_getElem? (i := 23) rfl))) (Or.inr (hw _ (List.mem_of_getElem? (i := 40) rfl))) (by decide) (t := (.object "java/lang/String")) (t' := .boolean) (by decide) (by decide)))
  have Ff148 := Ff132.other W142 (Or.inr (slot_ne (Or.inr (hw _ (List.mem_of_getElem? (i := 25) rfl))) (Or.inr (hw _ (List.mem_of_getElem? (i := 40) rfl))) (by decide) (t := (.object "com/example/votal/votal/log/Template")) (t' := .boolean) (by decide) (by decide)))
  have Ff149 := Ff133.other W142 (Or.inr (slot_ne (Or.inr (hw _ (List.mem_of_getElem? (i := 27) rfl))) (Or.inr (hw _ (List.mem_of_getElem? (i := 40) rfl))) (by decide) (t := (.object "java/lang/String")) (t' := .boolean) (by decide) (by decide)))
  have Ff150 := Ff134.other W142 (Or.inr (slot_ne (Or.inr (hw _ (List.mem_of_getElem? (i := 29) rfl))) (Or.inr (hw _ (List.mem_of_getElem? (i := 40) rfl))) (by decide) (t := (.object "com/example/votal/votal/log/DigestAlgorithm")) (t' := .boolean) (by decide) (by decide)))
  have Ff151 := Ff135.other W142 (Or.inr (slot_ne (Or.inr (hw _ (List.mem_of_getElem? (i := 31) rfl))) (Or.inr (hw _ (List.mem_of_getElem? (i := 40) rfl))) (by decide) (t := (.array .byte)) (t' := .boolean) (by decide) (by decide)))
  have Ff152 := Ff136.other W142 (Or.inr (slot_ne (Or.inr (hw _ (List.mem_of_getElem? (i := 33) rfl))) (Or.inr (hw _ (List.mem_of_getElem? (i := 40) rfl))) (by decide) (t := .int) (t' := .boolean) (by decide) (by decide)))
  have Ff153 := Fw125.other W142 (Or.inr (slot_ne (Or.inr (hw _ (List.mem_of_getElem? (i := 35) rfl))) (Or.inr (hw _ (List.mem_of_getElem? (i := 40) rfl))) (by decide) (t := (.array .byte)) (t' := .boolean) (by decide) (by decide)))
  have N142 := Fr.snoc X142 N140 g_a1
  have Z142 : n0 ≤ h142.size := Nat.le_trans Z125 (Keep.of_wr W142).1
  have Kp154 : Keep h0 h142 [a1] := Kp137.wr W142 (Or.inl (List.mem_of_getElem? (i := 0) rfl))
  have ac155 : ∀ t, Steps p.tables e below (T142.setTop (mkF m 59 #[.val (.ref a1), .val (.int p2), .val (.ref a3), .val (.ref a4), .val (.ref a5), .val (.ref a6)] [])) t → Steps p.tables e below (s₁.setTop (entryFrame m #[(.ref a1), (.int p2), (.ref a3), (.ref a4), (.ref a5), (.ref a6)] 6)) t := fun t k => ac141 t (st142 t k)
  obtain ⟨fs, hr, hrun, hended, hW, hsame⟩ := X142.leave (v := none) (fun _ => rfl) (BodyLoose.notSynchronized Bd)
  refine ⟨_, _, ac155 _ ?_, hrun, hended, _, _, rfl, ?_, ⟨_, rfl⟩, hW, hsame.mono (by decide) (by decide)⟩
  · show Steps p.tables e below (T142.setTop (mkF m 59 #[.val (.ref a1), .val (.int p2), .val (.ref a3), .val (.ref a4), .val (.ref a5), .val (.ref a6)] [])) _
    exact X142.returnOut hx Bd.returns (hb hby d1_59) hr
  · show Q1 Z a1 p2 a3 a4 a5 a6 n1 f h0 n0 _ T142.heap _
    rw [e142]
    exact ⟨rfl, N142, Kp154, Ef143, Ff153⟩
theorem ef_rm1n (m : MethodId) (x0 : Addr) (x1 : Int32) (x2 : Addr) (x3 : Addr) (x4 : Addr) : entryFrame m #[(.ref x0), (.int x1), (.ref x2), (.ref x3), (.ref x4), .null] 6 = mkF m 0 #[.val (.ref x0), .val (.int x1), .val (.ref x2), .val (.ref x3), .val (.ref x4), .val .null] [] := by first | (simp [entryFrame, mkF, argsToLocals, Value.category]; done) | rfl
def Q1n (Z : State) (a1 : Addr) (p2 : Int32) (a3 : Addr) (a4 : Addr) (a5 : Addr) (n1 : Nat) (f : Nat → Value) (h0 : Heap) (n0 : Nat) (v : Option Value) (h : Heap) (L : List Loc) : Prop := v = none ∧ Fr n0 L ∧ Keep h0 h [a1] ∧ Exa Z h a1 "com/example/votal/votal/log/LogRecord" ∧ Fld Z h a1 "com/example/votal/votal/log/LogRecord" "mTemplateData" "[B" .null
set_option maxRecDepth 65536 in
set_option maxHeartbeats 40000000 in
theorem rm1n (l : Launch) (Z : State) (a0 : Array Value) (hw : ∀ d ∈ tables_1, d.before a0 Z = true) (ws : List Jvm.Cond) (a1 : Addr) (p2 : Int32) (a3 : Addr) (a4 : Addr) (a5 : Addr) (n1 : Nat) (f : Nat → Value) (h0 : Heap) (n0 : Nat) (Z0 : n0 ≤ h0.size) (E1 : Exa Z h0 a1 "com/example/votal/votal/log/LogRecord") (g_a1 : n0 ≤ a1) (V3 : own_Ar Z h0 a3 .byte n1 f) (hf : ∀ i, i < n1 → ∃ x : Int32, f i = .int x) (h1 : 1 ≤ n1) (ne_a3_a1 : a3 ≠ a1) (F_mPcr : Fld Z h0 a1 "com/example/votal/votal/log/LogRecord" "mPcr" "I" (.int 0)) (F_mTemplateDigest : Fld Z h0 a1 "com/example/votal/votal/log/LogRecord" "mTemplateDigest" "[B" .null) (F_mTemplateName : Fld Z h0 a1 "com/example/votal/votal/log/LogRecord" "mTemplateName" "Ljava/lang/String;" .null) (F_mTemplate : Fld Z h0 a1 "com/example/votal/votal/log/LogRecord" "mTemplate" "Lcom/example/votal/votal/log/Template;" .null) (F_mName : Fld Z h0 a1 "com/example/votal/votal/log/LogRecord" "mName" "Ljava/lang/String;" .null) (F_mDigestAlgorithm : Fld Z h0 a1 "com/example/votal/votal/log/LogRecord" "mDigestAlgorithm" "Lcom/example/votal/votal/log/DigestAlgorithm;" .null) (F_mDigest : Fld Z h0 a1 "com/example/votal/votal/log/LogRecord" "mDigest" "[B" .null) (F_mEventDataOffset : Fld Z h0 a1 "com/example/votal/votal/log/LogRecord" "mEventDataOffset" "I" (.int 0)) (F_mTemplateData : Fld Z h0 a1 "com/example/votal/votal/log/LogRecord" "mTemplateData" "[B" .null) (F_mViolation : Fld Z h0 a1 "com/example/votal/votal/log/LogRecord" "mViolation" "Z" (.int 0)) :
    MetFree l (⟨"com/example/votal/votal/log/LogRecord", "<init>", "(I[BLjava/lang/String;Ljava/lang/String;[B)V"⟩ : MethodName) (head1 (Jvm.Cond.code (⟨"com/example/votal/votal/log/LogRecord", "<init>", "(I[BLjava/lang/String;Ljava/lang/String;[B)V"⟩ : MethodName) prog_49_method_2_code 6 none :: ws) ({ frames := 1, cells := 0, slots := 0, locals := 18 } : Room)) (fun a U => a = #[(.ref a1), (.int p2), (.ref a3), (.ref a4), (.ref a5), .null] ∧ Z.Warmed39 U.vm ∧ U.heap = h0) (fun _ _ _ _ _ => True) (fun _ U o U' => ∃ v L, o = .returned v ∧ Q1n Z a1 p2 a3 a4 a5 n1 f h0 n0 v U'.heap L ∧ FrameEnd U o U' L ({ frames := 1, cells := 0, slots := 0, locals := 18 } : Room).cells ({ frames := 1, cells := 0, slots := 0, locals := 18 } : Room).slots) := by
  refine MetFree.of_bodySF (plainFor_of_name pn_1) hisR ?_
  intro p e s m args below meth c s₁ Bd hml0 hP hK
  obtain ⟨rfl, hZ, hh⟩ := hP
  have hx := Bd.exec
  have hby := Bd.bytes
  have hml : c.maxLocals = 6 := hml0
  have hown : s.vm.findClass "com/example/votal/votal/log/LogRecord" = some m.cls := findClass_of_methodNamed Bd.named
  have hnm := (name_of_methodNamed Bd.named Bd.method).1
  have X0 : Stand p l e ({ frames := 1, cells := 0, slots := 0, locals := 18 } : Room) s m #[(.ref a1), (.int p2), (.ref a3), (.ref a4), (.ref a5), .null] below meth c s₁ [] 0 0 := Stand.of_body Bd
  have e0 : s₁.heap = h0 := by rw [← hh, Bd.state]; rfl
  have N0 := Fr.nil n0
  have a0s : ∀ t, Steps p.tables e below (s₁.setTop (mkF m 0 #[.val (.ref a1), .val (.int p2), .val (.ref a3), .val (.ref a4), .val (.ref a5), .val .null] [])) t → Steps p.tables e below (s₁.setTop (entryFrame m #[(.ref a1), (.int p2), (.ref a3), (.ref a4), (.ref a5), .null] 6)) t := fun t k => castTop (ef_rm1n m a1 p2 a3 a4 a5) k
  have ac1 : ∀ t, Steps p.tables e below (s₁.setTop (mkF m 1 #[.val (.ref a1), .val (.int p2), .val (.ref a3), .val (.ref a4), .val (.ref a5), .val .null] [(.ref a1)])) t → Steps p.tables e below (s₁.setTop (entryFrame m #[(.ref a1), (.int p2), (.ref a3), (.ref a4), (.ref a5), .null] 6)) t := fun t k => a0s t (by
      show Steps p.tables e below (s₁.setTop (mkF m 0 #[.val (.ref a1), .val (.int p2), .val (.ref a3), .val (.ref a4), .val (.ref a5), .val .null] [])) _
      refine XS.aloadN X0.here hx rfl (hb hby d1_0) rfl rfl ?_
      exact k)
  obtain ⟨T2, X2, e2, st2⟩ := initO X0 hx hZ hown (hw _ (List.mem_of_getElem? (i := 15) rfl)) (hw _ (List.mem_of_getElem? (i := 16) rfl)) (hw _ (List.mem_of_getElem? (i := 17) rfl)) e0 (g := (mkF m 1 #[.val (.ref a1), .val (.int p2), .val (.ref a3), .val (.ref a4), .val (.ref a5), .val .null] [(.ref a1)])) rfl (by rw [hml]; rfl) rfl (hb hby d1_1) (by decide) (W := 0) (by show 2 * 0 + _ ≤ _; exact Nat.le_of_eq rfl) (by decide)
  have ac3 : ∀ t, Steps p.tables e below (T2.setTop (mkF m 4 #[.val (.ref a1), .val (.int p2), .val (.ref a3), .val (.ref a4), .val (.ref a5), .val .null] [])) t → Steps p.tables e below (s₁.setTop (entryFrame m #[(.ref a1), (.int p2), (.ref a3), (.ref a4), (.ref a5), .null] 6)) t := fun t k => ac1 t (st2 t k)
  have ac4 : ∀ t, Steps p.tables e below (T2.setTop (mkF m 6 #[.val (.ref a1), .val (.int p2), .val (.ref a3), .val (.ref a4), .val (.ref a5), .val .null] [(.int p2), (.ref a1)])) t → Steps p.tables e below (s₁.setTop (entryFrame m #[(.ref a1), (.int p2), (.ref a3), (.ref a4), (.ref a5), .null] 6)) t := fun t k => ac3 t (by
      show Steps p.tables e below (T2.setTop (mkF m 4 #[.val (.ref a1), .val (.int p2), .val (.ref a3), .val (.ref a4), .val (.ref a5), .val .null] [])) _
      refine XS.aloadN X2.here hx rfl (hb hby d1_4) rfl rfl ?_
      show Steps p.tables e below (T2.setTop (mkF m 5 #[.val (.ref a1), .val (.int p2), .val (.ref a3), .val (.ref a4), .val (.ref a5), .val .null] [(.ref a1)])) _
      refine XS.iloadN X2.here hx rfl (hb hby d1_5) rfl ?_
      exact k)
  obtain ⟨T5, h5, X5, e5, W5, st5⟩ := putF X2 hx hZ hown (host := "") (Or.inl (hw _ (List.mem_of_getElem? (i := 18) rfl))) Via.refl e2 F_mPcr E1 (Or.inr ⟨(hw _ (List.mem_of_getElem? (i := 19) rfl)), rfl, hnm⟩) (hw _ (List.mem_of_getElem? (i := 2) rfl)) (ty := .int) (by decide) rfl rfl (g := (mkF m 6 #[.val (.ref a1), .val (.int p2), .val (.ref a3), .val (.ref a4), .val (.ref a5), .val .null] [(.int p2), (.ref a1)])) rfl rfl (hb hby d1_6)
  have Fw5 := F_mPcr.same W5
  have Ef6 := E1.wr W5
  have Vf7 := V3.other W5 ne_a3_a1
  have Ff8 := F_mTemplateDigest.other W5 (Or.inr (slot_ne (Or.inr (hw _ (List.mem_of_getElem? (i := 21) rfl))) (Or.inr (hw _ (List.mem_of_getElem? (i := 19) rfl))) (by decide) (t := (.array .byte)) (t' := .int) (by decide) (by decide)))
  have Ff9 := F_mTemplateName.other W5 (Or.inr (slot_ne (Or.inr (hw _ (List.mem_of_getElem? (i := 23) rfl))) (Or.inr (hw _ (List.mem_of_getElem? (i := 19) rfl))) (by decide) (t := (.object "java/lang/String")) (t' := .int) (by decide) (by decide)))
  have Ff10 := F_mTemplate.other W5 (Or.inr (slot_ne (Or.inr (hw _ (List.mem_of_getElem? (i := 25) rfl))) (Or.inr (hw _ (List.mem_of_getElem? (i := 19) rfl))) (by decide) (t := (.object "com/example/votal/votal/log/Template")) (t' := .int) (by decide) (by decide)))
  have Ff11 := F_mName.other W5 (Or.inr (slot_ne (Or.inr (hw _ (List.mem_of_getElem? (i := 27) rfl))) (Or.inr (hw _ (List.mem_of_getElem? (i := 19) rfl))) (by decide) (t := (.object "java/lang/String")) (t' := .int) (by decide) (by decide)))
  have Ff12 := F_mDigestAlgorithm.other W5 (Or.inr (slot_ne (Or.inr (hw _ (List.mem_of_getElem? (i := 29) rfl))) (Or.inr (hw _ (List.mem_of_getElem? (i := 19) rfl))) (by decide) (t := (.object "com/example/votal/votal/log/DigestAlgorithm")) (t' := .int) (by decide) (by decide)))
  have Ff13 := F_mDigest.other W5 (Or.inr (slot_ne (Or.inr (hw _ (List.mem_of_getElem? (i := 31) rfl))) (Or.inr (hw _ (List.mem_of_getElem? (i := 19) rfl))) (by decide) (t := (.array .byte)) (t' := .int) (by decide) (by decide)))
  have Ff14 := F_mEventDataOffset.other W5 (Or.inr (slot_ne (Or.inr (hw _ (List.mem_of_getElem? (i := 33) rfl))) (Or.inr (hw _ (List.mem_of_getElem? (i := 19) rfl))) (by decide) (t := .int) (t' := .int) (by decide) (by decide)))
  have Ff15 := F_mTemplateData.other W5 (Or.inr (slot_ne (Or.inr (hw _ (List.mem_of_getElem? (i := 35) rfl))) (Or.inr (hw _ (List.mem_of_getElem? (i := 19) rfl))) (by decide) (t := (.array .byte)) (t' := .int) (by decide) (by decide)))
  have Ff16 := F_mViolation.other W5 (Or.inr (slot_ne (Or.inr (hw _ (List.mem_of_getElem? (i := 40) rfl))) (Or.inr (hw _ (List.mem_of_getElem? (i := 19) rfl))) (by decide) (t := .boolean) (t' := .int) (by decide) (by decide)))
  have N5 := Fr.snoc X5 N0 g_a1
  have Z5 : n0 ≤ h5.size := Nat.le_trans Z0 (Keep.of_wr W5).1
  have Kp17 : Keep h0 h5 [a1] := (Keep.refl h0 [a1]).wr W5 (Or.inl (List.mem_of_getElem? (i := 0) rfl))
  have ac18 : ∀ t, Steps p.tables e below (T5.setTop (mkF m 9 #[.val (.ref a1), .val (.int p2), .val (.ref a3), .val (.ref a4), .val (.ref a5), .val .null] [])) t → Steps p.tables e below (s₁.setTop (entryFrame m #[(.ref a1), (.int p2), (.ref a3), (.ref a4), (.ref a5), .null] 6)) t := fun t k => ac4 t (st5 t k)
  have ac19 : ∀ t, Steps p.tables e below (T5.setTop (mkF m 11 #[.val (.ref a1), .val (.int p2), .val (.ref a3), .val (.ref a4), .val (.ref a5), .val .null] [(.ref a3), (.ref a1)])) t → Steps p.tables e below (s₁.setTop (entryFrame m #[(.ref a1), (.int p2), (.ref a3), (.ref a4), (.ref a5), .null] 6)) t := fun t k => ac18 t (by
      show Steps p.tables e below (T5.setTop (mkF m 9 #[.val (.ref a1), .val (.int p2), .val (.ref a3), .val (.ref a4), .val (.ref a5), .val .null] [])) _
      refine XS.aloadN X5.here hx rfl (hb hby d1_9) rfl rfl ?_
      show Steps p.tables e below (T5.setTop (mkF m 10 #[.val (.ref a1), .val (.int p2), .val (.ref a3), .val (.ref a4), .val (.ref a5), .val .null] [(.ref a1)])) _
      refine XS.aloadN X5.here hx rfl (hb hby d1_10) rfl rfl ?_
      exact k)
  obtain ⟨T20, h20, X20, e20, W20, st20⟩ := putF X5 hx hZ hown (host := "") (Or.inl (hw _ (List.mem_of_getElem? (i := 20) rfl))) Via.refl e5 Ff8 Ef6 (Or.inr ⟨(hw _ (List.mem_of_getElem? (i := 21) rfl)), rfl, hnm⟩) (hw _ (List.mem_of_getElem? (i := 2) rfl)) (ty := (.array .byte)) (by decide) rfl rfl (g := (mkF m 11 #[.val (.ref a1), .val (.int p2), .val (.ref a3), .val (.ref a4), .val (.ref a5), .val .null] [(.ref a3), (.ref a1)])) rfl rfl (hb hby d1_11)
  have Fw20 := Ff8.same W20
  have Ef21 := Ef6.wr W20
  have Vf22 := Vf7.other W20 ne_a3_a1
  have Ff23 := Ff9.other W20 (Or.inr (slot_ne (Or.inr (hw _ (List.mem_of_getElem? (i := 23) rfl))) (Or.inr (hw _ (List.mem_of_getElem? (i := 21) rfl))) (by decide) (t := (.object "java/lang/String")) (t' := (.array .byte)) (by decide) (by decide)))
  have Ff24 := Ff10.other W20 (Or.inr (slot_ne (Or.inr (hw _ (List.mem_of_getElem? (i := 25) rfl))) (Or.inr (hw _ (List.mem_of_getElem? (i := 21) rfl))) (by decide) (t := (.object "com/example/votal/votal/log/Template")) (t' := (.array .byte)) (by decide) (by decide)))
  have Ff25 := Ff11.other W20 (Or.inr (slot_ne (Or.inr (hw _ (List.mem_of_getElem? (i := 27) rfl))) (Or.inr (hw _ (List.mem_of_getElem? (i := 21) rfl))) (by decide) (t := (.object "java/lang/String")) (t' := (.array .byte)) (by decide) (by decide)))
  have Ff26 := Ff12.other W20 (Or.inr (slot_ne (Or.inr (hw _ (List.mem_of_getElem? (i := 29) rfl))) (Or.inr (hw _ (List.mem_of_getElem? (i := 21) rfl))) (by decide) (t := (.object "com/example/votal/votal/log/DigestAlgorithm")) (t' := (.array .byte)) (by decide) (by decide)))
  have Ff27 := Ff13.other W20 (Or.inr (slot_ne (Or.inr (hw _ (List.mem_of_getElem? (i := 31) rfl))) (Or.inr (hw _ (List.mem_of_getElem? (i := 21) rfl))) (by decide) (t := (.array .byte)) (t' := (.array .byte)) (by decide) (by decide)))
  have Ff28 := Ff14.other W20 (Or.inr (slot_ne (Or.inr (hw _ (List.mem_of_getElem? (i := 33) rfl))) (Or.inr (hw _ (List.mem_of_getElem? (i := 21) rfl))) (by decide) (t := .int) (t' := (.array .byte)) (by decide) (by decide)))
  have Ff29 := Ff15.other W20 (Or.inr (slot_ne (Or.inr (hw _ (List.mem_of_getElem? (i := 35) rfl))) (Or.inr (hw _ (List.mem_of_getElem? (i := 21) rfl))) (by decide) (t := (.array .byte)) (t' := (.array .byte)) (by decide) (by decide)))
  have Ff30 := Ff16.other W20 (Or.inr (slot_ne (Or.inr (hw _ (List.mem_of_getElem? (i := 40) rfl))) (Or.inr (hw _ (List.mem_of_getElem? (i := 21) rfl))) (by decide) (t := .boolean) (t' := (.array .byte)) (by decide) (by decide)))
  have Ff31 := Fw5.other W20 (Or.inr (slot_ne (Or.inr (hw _ (List.mem_of_getElem? (i := 19) rfl))) (Or.inr (hw _ (List.mem_of_getElem? (i := 21) rfl))) (by decide) (t := .int) (t' := (.array .byte)) (by decide) (by decide)))
  have N20 := Fr.snoc X20 N5 g_a1
  have Z20 : n0 ≤ h20.size := Nat.le_trans Z5 (Keep.of_wr W20).1
  have Kp32 : Keep h0 h20 [a1] := Kp17.wr W20 (Or.inl (List.mem_of_getElem? (i := 0) rfl))
  have ac33 : ∀ t, Steps p.tables e below (T20.setTop (mkF m 14 #[.val (.ref a1), .val (.int p2), .val (.ref a3), .val (.ref a4), .val (.ref a5), .val .null] [])) t → Steps p.tables e below (s₁.setTop (entryFrame m #[(.ref a1), (.int p2), (.ref a3), (.ref a4), (.ref a5), .null] 6)) t := fun t k => ac19 t (st20 t k)
  have ac34 : ∀ t, Steps p.tables e below (T20.setTop (mkF m 16 #[.val (.ref a1), .val (.int p2), .val (.ref a3), .val (.ref a4), .val (.ref a5), .val .null] [(.ref a4), (.ref a1)])) t → Steps p.tables e below (s₁.setTop (entryFrame m #[(.ref a1), (.int p2), (.ref a3), (.ref a4), (.ref a5), .null] 6)) t := fun t k => ac33 t (by
      show Steps p.tables e below (T20.setTop (mkF m 14 #[.val (.ref a1), .val (.int p2), .val (.ref a3), .val (.ref a4), .val (.ref a5), .val .null] [])) _
      refine XS.aloadN X20.here hx rfl (hb hby d1_14) rfl rfl ?_
      show Steps p.tables e below (T20.setTop (mkF m 15 #[.val (.ref a1), .val (.int p2), .val (.ref a3), .val (.ref a4), .val (.ref a5), .val .null] [(.ref a1)])) _
      refine XS.aloadN X20.here hx rfl (hb hby d1_15) rfl rfl ?_
      exact k)
  obtain ⟨T35, h35, X35, e35, W35, st35⟩ := putF X20 hx hZ hown (host := "") (Or.inl (hw _ (List.mem_of_getElem? (i := 22) rfl))) Via.refl e20 Ff23 Ef21 (Or.inr ⟨(hw _ (List.mem_of_getElem? (i := 23) rfl)), rfl, hnm⟩) (hw _ (List.mem_of_getElem? (i := 2) rfl)) (ty := (.object "java/lang/String")) (by decide) rfl rfl (g := (mkF m 16 #[.val (.ref a1), .val (.int p2), .val (.ref a3), .val (.ref a4), .val (.ref a5), .val .null] [(.ref a4), (.ref a1)])) rfl rfl (hb hby d1_16)
  have Fw35 := Ff23.same W35
  have Ef36 := Ef21.wr W35
  have Vf37 := Vf22.other W35 ne_a3_a1
  have Ff38 := Ff24.other W35 (Or.inr (slot_ne (Or.inr (hw _ (List.mem_of_getElem? (i := 25) rfl))) (Or.inr (hw _ (List.mem_of_getElem? (i := 23) rfl))) (by decide) (t := (.object "com/example/votal/votal/log/Template")) (t' := (.object "java/lang/String")) (by decide) (by decide)))
  have Ff39 := Ff25.other W35 (Or.inr (slot_ne (Or.inr (hw _ (List.mem_of_getElem? (i := 27) rfl))) (Or.inr (hw _ (List.mem_of_getElem? (i := 23) rfl))) (by decide) (t := (.object "java/lang/String")) (t' := (.object "java/lang/String")) (by decide) (by decide)))
  have Ff40 := Ff26.other W35 (Or.inr (slot_ne (Or.inr (hw _ (List.mem_of_getElem? (i := 29) rfl))) (Or.inr (hw _ (List.mem_of_getElem? (i := 23) rfl))) (by decide) (t := (.object "com/example/votal/votal/log/DigestAlgorithm")) (t' := (.object "java/lang/String")) (by decide) (by decide)))
  have Ff41 := Ff27.other W35 (Or.inr (slot_ne (Or.inr (hw _ (List.mem_of_getElem? (i := 31) rfl))) (Or.inr (hw _ (List.mem_of_getElem? (i := 23) rfl))) (by decide) (t := (.array .byte)) (t' := (.object "java/lang/String")) (by decide) (by decide)))
  have Ff42 := Ff28.other W35 (Or.inr (slot_ne (Or.inr (hw _ (List.mem_of_getElem? (i := 33) rfl))) (Or.inr (hw _ (List.mem_of_getElem? (i := 23) rfl))) (by decide) (t := .int) (t' := (.object "java/lang/String")) (by decide) (by decide)))
  have Ff43 := Ff29.other W35 (Or.inr (slot_ne (Or.inr (hw _ (List.mem_of_getElem? (i := 35) rfl))) (Or.inr (hw _ (List.mem_of_getElem? (i := 23) rfl))) (by decide) (t := (.array .byte)) (t' := (.object "java/lang/String")) (by decide) (by decide)))
  have Ff44 := Ff30.other W35 (Or.inr (slot_ne (Or.inr (hw _ (List.mem_of_getElem? (i := 40) rfl))) (Or.inr (hw _ (List.mem_of_getElem? (i := 23) rfl))) (by decide) (t := .boolean) (t' := (.object "java/lang/String")) (by decide) (by decide)))
  have Ff45 := Ff31.other W35 (Or.inr (slot_ne (Or.inr (hw _ (List.mem_of_getElem? (i := 19) rfl))) (Or.inr (hw _ (List.mem_of_getElem? (i := 23) rfl))) (by decide) (t := .int) (t' := (.object "java/lang/String")) (by decide) (by decide)))
  have Ff46 := Fw20.other W35 (Or.inr (slot_ne (Or.inr (hw _ (List.mem_of_getElem? (i := 21) rfl))) (Or.inr (hw _ (List.mem_of_getElem? (i := 23) rfl))) (by decide) (t := (.array .byte)) (t' := (.object "java/lang/String")) (by decide) (by decide)))
  have N35 := Fr.snoc X35 N20 g_a1
  have Z35 : n0 ≤ h35.size := Nat.le_trans Z20 (Keep.of_wr W35).1
  have Kp47 : Keep h0 h35 [a1] := Kp32.wr W35 (Or.inl (List.mem_of_getElem? (i := 0) rfl))
  have ac48 : ∀ t, Steps p.tables e below (T35.setTop (mkF m 19 #[.val (.ref a1), .val (.int p2), .val (.ref a3), .val (.ref a4), .val (.ref a5), .val .null] [])) t → Steps p.tables e below (s₁.setTop (entryFrame m #[(.ref a1), (.int p2), (.ref a3), (.ref a4), (.ref a5), .null] 6)) t := fun t k => ac34 t (st35 t k)
  have ac49 : ∀ t, Steps p.tables e below (T35.setTop (mkF m 21 #[.val (.ref a1), .val (.int p2), .val (.ref a3), .val (.ref a4), .val (.ref a5), .val .null] [.null, (.ref a1)])) t → Steps p.tables e below (s₁.setTop (entryFrame m #[(.ref a1), (.int p2), (.ref a3), (.ref a4), (.ref a5), .null] 6)) t := fun t k => ac48 t (by
      show Steps p.tables e below (T35.setTop (mkF m 19 #[.val (.ref a1), .val (.int p2), .val (.ref a3), .val (.ref a4), .val (.ref a5), .val .null] [])) _
      refine XS.aloadN X35.here hx rfl (hb hby d1_19) rfl rfl ?_
      show Steps p.tables e below (T35.setTop (mkF m 20 #[.val (.ref a1), .val (.int p2), .val (.ref a3), .val (.ref a4), .val (.ref a5), .val .null] [(.ref a1)])) _
      refine XS.aconstNull X35.here hx rfl (hb hby d1_20) ?_
      exact k)
  obtain ⟨T50, h50, X50, e50, W50, st50⟩ := putF X35 hx hZ hown (host := "") (Or.inl (hw _ (List.mem_of_getElem? (i := 24) rfl))) Via.refl e35 Ff38 Ef36 (Or.inr ⟨(hw _ (List.mem_of_getElem? (i := 25) rfl)), rfl, hnm⟩) (hw _ (List.mem_of_getElem? (i := 2) rfl)) (ty := (.object "com/example/votal/votal/log/Template")) (by decide) rfl rfl (g := (mkF m 21 #[.val (.ref a1), .val (.int p2), .val (.ref a3), .val (.ref a4), .val (.ref a5), .val .null] [.null, (.ref a1)])) rfl rfl (hb hby d1_21)
  have Fw50 := Ff38.same W50
  have Ef51 := Ef36.wr W50
  have Vf52 := Vf37.other W50 ne_a3_a1
  have Ff53 := Ff39.other W50 (Or.inr (slot_ne (Or.inr (hw _ (List.mem_of_getElem? (i := 27) rfl))) (Or.inr (hw _ (List.mem_of_getElem? (i := 25) rfl))) (by decide) (t := (.object "java/lang/String")) (t' := (.object "com/example/votal/votal/log/Template")) (by decide) (by decide)))
  have Ff54 := Ff40.other W50 (Or.inr (slot_ne (Or.inr (hw _ (List.mem_of_getElem? (i := 29) rfl))) (Or.inr (hw _ (List.mem_of_getElem? (i := 25) rfl))) (by decide) (t := (.object "com/example/votal/votal/log/DigestAlgorithm")) (t' := (.object "com/example/votal/votal/log/Template")) (by decide) (by decide)))
  have Ff55 := Ff41.other W50 (Or.inr (slot_ne (Or.inr (hw _ (List.mem_of_getElem? (i := 31) rfl))) (Or.inr (hw _ (List.mem_of_getElem? (i := 25) rfl))) (by decide) (t := (.array .byte)) (t' := (.object "com/example/votal/votal/log/Template")) (by decide) (by decide)))
  have Ff56 := Ff42.other W50 (Or.inr (slot_ne (Or.inr (hw _ (List.mem_of_getElem? (i := 33) rfl))) (Or.inr (hw _ (List.mem_of_getElem? (i := 25) rfl))) (by decide) (t := .int) (t' := (.object "com/example/votal/votal/log/Template")) (by decide) (by decide)))
  have Ff57 := Ff43.other W50 (Or.inr (slot_ne (Or.inr (hw _ (List.mem_of_getElem? (i := 35) rfl))) (Or.inr (hw _ (List.mem_of_getElem? (i := 25) rfl))) (by decide) (t := (.array .byte)) (t' := (.object "com/example/votal/votal/log/Template")) (by decide) (by decide)))
  have Ff58 := Ff44.other W50 (Or.inr (slot_ne (Or.inr (hw _ (List.mem_of_getElem? (i := 40) rfl))) (Or.inr (hw _ (List.mem_of_getElem? (i := 25) rfl))) (by decide) (t := .boolean) (t' := (.object "com/example/votal/votal/log/Template")) (by decide) (by decide)))
  have Ff59 := Ff45.other W50 (Or.inr (slot_ne (Or.inr (hw _ (List.mem_of_getElem? (i := 19) rfl))) (Or.inr (hw _ (List.mem_of_getElem? (i := 25) rfl))) (by decide) (t := .int) (t' := (.object "com/example/votal/votal/log/Template")) (by decide) (by decide)))
  have Ff60 := Ff46.other W50 (Or.inr (slot_ne (Or.inr (hw _ (List.mem_of_getElem? (i := 21) rfl))) (Or.inr (hw _ (List.mem_of_getElem? (i := 25) rfl))) (by decide) (t := (.array .byte)) (t' := (.object "com/example/votal/votal/log/Template")) (by decide) (by decide)))
  have Ff61 := Fw35.other W50 (Or.inr (slot_ne (Or.inr (hw _ (List.mem_of_getElem? (i := 23) rfl))) (Or.inr (hw _ (List.mem_of_getElem? (i := 25) rfl))) (by decide) (t := (.object "java/lang/String")) (t' := (.object "com/example/votal/votal/log/Template")) (by decide) (by decide)))
  have N50 := Fr.snoc X50 N35 g_a1
  have Z50 : n0 ≤ h50.size := Nat.le_trans Z35 (Keep.of_wr W50).1
  have Kp62 : Keep h0 h50 [a1] := Kp47.wr W50 (Or.inl (List.mem_of_getElem? (i := 0) rfl))
  have ac63 : ∀ t, Steps p.tables e below (T50.setTop (mkF m 24 #[.val (.ref a1), .val (.int p2), .val (.ref a3), .val (.ref a4), .val (.ref a5), .val .null] [])) t → Steps p.tables e below (s₁.setTop (entryFrame m #[(.ref a1), (.int p2), (.ref a3), (.ref a4), (.ref a5), .null] 6)) t := fun t k => ac49 t (st50 t k)
  have ac64 : ∀ t, Steps p.tables e below (T50.setTop (mkF m 27 #[.val (.ref a1), .val (.int p2), .val (.ref a3), .val (.ref a4), .val (.ref a5), .val .null] [(.ref a5), (.ref a1)])) t → Steps p.tables e below (s₁.setTop (entryFrame m #[(.ref a1), (.int p2), (.ref a3), (.ref a4), (.ref a5), .null] 6)) t := fun t k => ac63 t (by
      show Steps p.tables e below (T50.setTop (mkF m 24 #[.val (.ref a1), .val (.int p2), .val (.ref a3), .val (.ref a4), .val (.ref a5), .val .null] [])) _
      refine XS.aloadN X50.here hx rfl (hb hby d1_24) rfl rfl ?_
      show Steps p.tables e below (T50.setTop (mkF m 25 #[.val (.ref a1), .val (.int p2), .val (.ref a3), .val (.ref a4), .val (.ref a5), .val .null] [(.ref a1)])) _
      refine XS.aload X50.here hx rfl (hb hby d1_25) rfl rfl ?_
      exact k)
  obtain ⟨T65, h65, X65, e65, W65, st65⟩ := putF X50 hx hZ hown (host := "") (Or.inl (hw _ (List.mem_of_getElem? (i := 26) rfl))) Via.refl e50 Ff53 Ef51 (Or.inr ⟨(hw _ (List.mem_of_getElem? (i := 27) rfl)), rfl, hnm⟩) (hw _ (List.mem_of_getElem? (i := 2) rfl)) (ty := (.object "java/lang/String")) (by decide) rfl rfl (g := (mkF m 27 #[.val (.ref a1), .val (.int p2), .val (.ref a3), .val (.ref a4), .val (.ref a5), .val .null] [(.ref a5), (.ref a1)])) rfl rfl (hb hby d1_27)
  have Fw65 := Ff53.same W65
  have Ef66 := Ef51.wr W65
  have Vf67 := Vf52.other W65 ne_a3_a1
  have Ff68 := Ff54.other W65 (Or.inr (slot_ne (Or.inr (hw _ (List.mem_of_getElem? (i := 29) rfl))) (Or.inr (hw _ (List.mem_of_getElem? (i := 27) rfl))) (by decide) (t := (.object "com/example/votal/votal/log/DigestAlgorithm")) (t' := (.object "java/lang/String")) (by decide) (by decide)))
  have Ff69 := Ff55.other W65 (Or.inr (slot_ne (Or.inr (hw _ (List.mem_of_getElem? (i := 31) rfl))) (Or.inr (hw _ (List.mem_of_getElem? (i := 27) rfl))) (by decide) (t := (.array .byte)) (t' := (.object "java/lang/String")) (by decide) (by decide)))
  have Ff70 := Ff56.other W65 (Or.inr (slot_ne (Or.inr (hw _ (List.mem_of_getElem? (i := 33) rfl))) (Or.inr (hw _ (List.mem_of_getElem? (i := 27) rfl))) (by decide) (t := .int) (t' := (.object "java/lang/String")) (by decide) (by decide)))
  have Ff71 := Ff57.other W65 (Or.inr (slot_ne (Or.inr (hw _ (List.mem_of_getElem? (i := 35) rfl))) (Or.inr (hw _ (List.mem_of_getElem? (i := 27) rfl))) (by decide) (t := (.array .byte)) (t' := (.object "java/lang/String")) (by decide) (by decide)))
  have Ff72 := Ff58.other W65 (Or.inr (slot_ne (Or.inr (hw _ (List.mem_of_getElem? (i := 40) rfl))) (Or.inr (hw _ (List.mem_of_getElem? (i := 27) rfl))) (by decide) (t := .boolean) (t' := (.object "java/lang/String")) (by decide) (by decide)))
  have Ff73 := Ff59.other W65 (Or.inr (slot_ne (Or.inr (hw _ (List.mem_of_getElem? (i := 19) rfl))) (Or.inr (hw _ (List.mem_of_getElem? (i := 27) rfl))) (by decide) (t := .int) (t' := (.object "java/lang/String")) (by decide) (by decide)))
  have Ff74 := Ff60.other W65 (Or.inr (slot_ne (Or.inr (hw _ (List.mem_of_getElem? (i := 21) rfl))) (Or.inr (hw _ (List.mem_of_getElem? (i := 27) rfl))) (by decide) (t := (.array .byte)) (t' := (.object "java/lang/String")) (by decide) (by decide)))
  have Ff75 := Ff61.other W65 (Or.inr (slot_ne (Or.inr (hw _ (List.mem_of_getElem? (i := 23) rfl))) (Or.inr (hw _ (List.mem_of_getElem? (i := 27) rfl))) (by decide) (t := (.object "java/lang/String")) (t' := (.object "java/lang/String")) (by decide) (by decide)))
  have Ff76 := Fw50.other W65 (Or.inr (slot_ne (Or.inr (hw _ (List.mem_of_getElem? (i := 25) rfl))) (Or.inr (hw _ (List.mem_of_getElem? (i := 27) rfl))) (by decide) (t := (.object "com/example/votal/votal/log/Template")) (t' := (.object "java/lang/String")) (by decide) (by decide)))
  have N65 := Fr.snoc X65 N50 g_a1
  have Z65 : n0 ≤ h65.size := Nat.le_trans Z50 (Keep.of_wr W65).1
  have Kp77 : Keep h0 h65 [a1] := Kp62.wr W65 (Or.inl (List.mem_of_getElem? (i := 0) rfl))
  have ac78 : ∀ t, Steps p.tables e below (T65.setTop (mkF m 30 #[.val (.ref a1), .val (.int p2), .val (.ref a3), .val (.ref a4), .val (.ref a5), .val .null] [])) t → Steps p.tables e below (s₁.setTop (entryFrame m #[(.ref a1), (.int p2), (.ref a3), (.ref a4), (.ref a5), .null] 6)) t := fun t k => ac64 t (st65 t k)
  have ac79 : ∀ t, Steps p.tables e below (T65.setTop (mkF m 32 #[.val (.ref a1), .val (.int p2), .val (.ref a3), .val (.ref a4), .val (.ref a5), .val .null] [.null, (.ref a1)])) t → Steps p.tables e below (s₁.setTop (entryFrame m #[(.ref a1), (.int p2), (.ref a3), (.ref a4), (.ref a5), .null] 6)) t := fun t k => ac78 t (by
      show Steps p.tables e below (T65.setTop (mkF m 30 #[.val (.ref a1), .val (.int p2), .val (.ref a3), .val (.ref a4), .val (.ref a5), .val .null] [])) _
      refine XS.aloadN X65.here hx rfl (hb hby d1_30) rfl rfl ?_
      show Steps p.tables e below (T65.setTop (mkF m 31 #[.val (.ref a1), .val (.int p2), .val (.ref a3), .val (.ref a4), .val (.ref a5), .val .null] [(.ref a1)])) _
      refine XS.aconstNull X65.here hx rfl (hb hby d1_31) ?_
      exact k)
  obtain ⟨T80, h80, X80, e80, W80, st80⟩ := putF X65 hx hZ hown (host := "") (Or.inl (hw _ (List.mem_of_getElem? (i := 28) rfl))) Via.refl e65 Ff68 Ef66 (Or.inr ⟨(hw _ (List.mem_of_getElem? (i := 29) rfl)), rfl, hnm⟩) (hw _ (List.mem_of_getElem? (i := 2) rfl)) (ty := (.object "com/example/votal/votal/log/DigestAlgorithm")) (by decide) rfl rfl (g := (mkF m 32 #[.val (.ref a1), .val (.int p2), .val (.ref a3), .val (.ref a4), .val (.ref a5), .val .null] [.null, (.ref a1)])) rfl rfl (hb hby d1_32)
  have Fw80 := Ff68.same W80
  have Ef81 := Ef66.wr W80
  have Vf82 := Vf67.other W80 ne_a3_a1
  have Ff83 := Ff69.other W80 (Or.inr (slot_ne (Or.inr (hw _ (List.mem_of_getElem? (i := 31) rfl))) (Or.inr (hw _ (List.mem_of_getElem? (i := 29) rfl))) (by decide) (t := (.array .byte)) (t' := (.object "com/example/votal/votal/log/DigestAlgorithm")) (by decide) (by decide)))
  have Ff84 := Ff70.other W80 (Or.inr (slot_ne (Or.inr (hw _ (List.mem_of_getElem? (i := 33) rfl))) (Or.inr (hw _ (List.mem_of_getElem? (i := 29) rfl))) (by decide) (t := .int) (t' := (.object "com/example/votal/votal/log/DigestAlgorithm")) (by decide) (by decide)))
  have Ff85 := Ff71.other W80 (Or.inr (slot_ne (Or.inr (hw _ (List.mem_of_getElem? (i := 35) rfl))) (Or.inr (hw _ (List.mem_of_getElem? (i := 29) rfl))) (by decide) (t := (.array .byte)) (t' := (.object "com/example/votal/votal/log/DigestAlgorithm")) (by decide) (by decide)))
  have Ff86 := Ff72.other W80 (Or.inr (slot_ne (Or.inr (hw _ (List.mem_of_getElem? (i := 40) rfl))) (Or.inr (hw _ (List.mem_of_getElem? (i := 29) rfl))) (by decide) (t := .boolean) (t' := (.object "com/example/votal/votal/log/DigestAlgorithm")) (by decide) (by decide)))
  have Ff87 := Ff73.other W80 (Or.inr (slot_ne (Or.inr (hw _ (List.mem_of_getElem? (i := 19) rfl))) (Or.inr (hw _ (List.mem_of_getElem? (i := 29) rfl))) (by decide) (t := .int) (t' := (.object "com/example/votal/votal/log/DigestAlgorithm")) (by decide) (by decide)))
  have Ff88 := Ff74.other W80 (Or.inr (slot_ne (Or.inr (hw _ (List.mem_of_getElem? (i := 21) rfl))) (Or.inr (hw _ (List.mem_of_getElem? (i := 29) rfl))) (by decide) (t := (.array .byte)) (t' := (.object "com/example/votal/votal/log/DigestAlgorithm")) (by decide) (by decide)))
  have Ff89 := Ff75.other W80 (Or.inr (slot_ne (Or.inr (hw _ (List.mem_of_getElem? (i := 23) rfl))) (Or.inr (hw _ (List.mem_of_getElem? (i := 29) rfl))) (by decide) (t := (.object "java/lang/String")) (t' := (.object "com/example/votal/votal/log/DigestAlgorithm")) (by decide) (by decide)))
  have Ff90 := Ff76.other W80 (Or.inr (slot_ne (Or.inr (hw _ (List.mem_of_getElem? (i := 25) rfl))) (Or.inr (hw _ (List.mem_of_getElem? (i := 29) rfl))) (by decide) (t := (.object "com/example/votal/votal/log/Template")) (t' := (.object "com/example/votal/votal/log/DigestAlgorithm")) (by decide) (by decide)))
  have Ff91 := Fw65.other W80 (Or.inr (slot_ne (Or.inr (hw _ (List.mem_of_getElem? (i := 27) rfl))) (Or.inr (hw _ (List.mem_of_getElem? (i := 29) rfl))) (by decide) (t := (.object "java/lang/String")) (t' := (.object "com/example/votal/votal/log/DigestAlgorithm")) (by decide) (by decide)))
  have N80 := Fr.snoc X80 N65 g_a1
  have Z80 : n0 ≤ h80.size := Nat.le_trans Z65 (Keep.of_wr W80).1
  have Kp92 : Keep h0 h80 [a1] := Kp77.wr W80 (Or.inl (List.mem_of_getElem? (i := 0) rfl))
  have ac93 : ∀ t, Steps p.tables e below (T80.setTop (mkF m 35 #[.val (.ref a1), .val (.int p2), .val (.ref a3), .val (.ref a4), .val (.ref a5), .val .null] [])) t → Steps p.tables e below (s₁.setTop (entryFrame m #[(.ref a1), (.int p2), (.ref a3), (.ref a4), (.ref a5), .null] 6)) t := fun t k => ac79 t (st80 t k)
  have ac94 : ∀ t, Steps p.tables e below (T80.setTop (mkF m 37 #[.val (.ref a1), .val (.int p2), .val (.ref a3), .val (.ref a4), .val (.ref a5), .val .null] [.null, (.ref a1)])) t → Steps p.tables e below (s₁.setTop (entryFrame m #[(.ref a1), (.int p2), (.ref a3), (.ref a4), (.ref a5), .null] 6)) t := fun t k => ac93 t (by
      show Steps p.tables e below (T80.setTop (mkF m 35 #[.val (.ref a1), .val (.int p2), .val (.ref a3), .val (.ref a4), .val (.ref a5), .val .null] [])) _
      refine XS.aloadN X80.here hx rfl (hb hby d1_35) rfl rfl ?_
      show Steps p.tables e below (T80.setTop (mkF m 36 #[.val (.ref a1), .val (.int p2), .val (.ref a3), .val (.ref a4), .val (.ref a5), .val .null] [(.ref a1)])) _
      refine XS.aconstNull X80.here hx rfl (hb hby d1_36) ?_
      exact k)
  obtain ⟨T95, h95, X95, e95, W95, st95⟩ := putF X80 hx hZ hown (host := "") (Or.inl (hw _ (List.mem_of_getElem? (i := 30) rfl))) Via.refl e80 Ff83 Ef81 (Or.inr ⟨(hw _ (List.mem_of_getElem? (i := 31) rfl)), rfl, hnm⟩) (hw _ (List.mem_of_getElem? (i := 2) rfl)) (ty := (.array .byte)) (by decide) rfl rfl (g := (mkF m 37 #[.val (.ref a1), .val (.int p2), .val (.ref a3), .val (.ref a4), .val (.ref a5), .val .null] [.null, (.ref a1)])) rfl rfl (hb hby d1_37)
  have Fw95 := Ff83.same W95
  have Ef96 := Ef81.wr W95
  have Vf97 := Vf82.other W95 ne_a3_a1
  have Ff98 := Ff84.other W95 (Or.inr (slot_ne (Or.inr (hw _ (List.mem_of_getElem? (i := 33) rfl))) (Or.inr (hw _ (List.mem_of_getElem? (i := 31) rfl))) (by decide) (t := .int) (t' := (.array .byte)) (by decide) (by decide)))
  have Ff99 := Ff85.other W95 (Or.inr (slot_ne (Or.inr (hw _ (List.mem_of_getElem? (i := 35) rfl))) (Or.inr (hw _ (List.mem_of_getElem? (i := 31) rfl))) (by decide) (t := (.array .byte)) (t' := (.array .byte)) (by decide) (by decide)))
  have Ff100 := Ff86.other W95 (Or.inr (slot_ne (Or.inr (hw _ (List.mem_of_getElem? (i := 40) rfl))) (Or.inr (hw _ (List.mem_of_getElem? (i := 31) rfl))) (by decide) (t := .boolean) (t' := (.array .byte)) (by decide) (by decide)))
  have Ff101 := Ff87.other W95 (Or.inr (slot_ne (Or.inr (hw _ (List.mem_of_getElem? (i := 19) rfl))) (Or.inr (hw _ (List.mem_of_getElem? (i := 31) rfl))) (by decide) (t := .int) (t' := (.array .byte)) (by decide) (by decide)))
  have Ff102 := Ff88.other W95 (Or.inr (slot_ne (Or.inr (hw _ (List.mem_of_getElem? (i := 21) rfl))) (Or.inr (hw _ (List.mem_of_getElem? (i := 31) rfl))) (by decide) (t := (.array .byte)) (t' := (.array .byte)) (by decide) (by decide)))
  have Ff103 := Ff89.other W95 (Or.inr (slot_ne (Or.inr (hw _ (List.mem_of_getElem? (i := 23) rfl))) (Or.inr (hw _ (List.mem_of_getElem? (i := 31) rfl))) (by decide) (t := (.object "java/lang/String")) (t' := (.array .byte)) (by decide) (by decide)))
  have Ff104 := Ff90.other W95 (Or.inr (slot_ne (Or.inr (hw _ (List.mem_of_getElem? (i := 25) rfl))) (Or.inr (hw _ (List.mem_of_getElem? (i := 31) rfl))) (by decide) (t := (.object "com/example/votal/votal/log/Template")) (t' := (.array .byte)) (by decide) (by decide)))
  have Ff105 := Ff91.other W95 (Or.inr (slot_ne (Or.inr (hw _ (List.mem_of_getElem? (i := 27) rfl))) (Or.inr (hw _ (List.mem_of_getElem? (i := 31) rfl))) (by decide) (t := (.object "java/lang/String")) (t' := (.array .byte)) (by decide) (by decide)))
  have Ff106 := Fw80.other W95 (Or.inr (slot_ne (Or.inr (hw _ (List.mem_of_getElem? (i := 29) rfl))) (Or.inr (hw _ (List.mem_of_getElem? (i := 31) rfl))) (by decide) (t := (.object "com/example/votal/votal/log/DigestAlgorithm")) (t' := (.array .byte)) (by decide) (by decide)))
  have N95 := Fr.snoc X95 N80 g_a1
  have Z95 : n0 ≤ h95.size := Nat.le_trans Z80 (Keep.of_wr W95).1
  have Kp107 : Keep h0 h95 [a1] := Kp92.wr W95 (Or.inl (List.mem_of_getElem? (i := 0) rfl))
  have ac108 : ∀ t, Steps p.tables e below (T95.setTop (mkF m 40 #[.val (.ref a1), .val (.int p2), .val (.ref a3), .val (.ref a4), .val (.ref a5), .val .null] [])) t → Steps p.tables e below (s₁.setTop (entryFrame m #[(.ref a1), (.int p2), (.ref a3), (.ref a4), (.ref a5), .null] 6)) t := fun t k => ac94 t (st95 t k)
  have ac109 : ∀ t, Steps p.tables e below (T95.setTop (mkF m 42 #[.val (.ref a1), .val (.int p2), .val (.ref a3), .val (.ref a4), .val (.ref a5), .val .null] [(.int (-1 : Int32)), (.ref a1)])) t → Steps p.tables e below (s₁.setTop (entryFrame m #[(.ref a1), (.int p2), (.ref a3), (.ref a4), (.ref a5), .null] 6)) t := fun t k => ac108 t (by
      show Steps p.tables e below (T95.setTop (mkF m 40 #[.val (.ref a1), .val (.int p2), .val (.ref a3), .val (.ref a4), .val (.ref a5), .val .null] [])) _
      refine XS.aloadN X95.here hx rfl (hb hby d1_40) rfl rfl ?_
      show Steps p.tables e below (T95.setTop (mkF m 41 #[.val (.ref a1), .val (.int p2), .val (.ref a3), .val (.ref a4), .val (.ref a5), .val .null] [(.ref a1)])) _
      refine XS.iconst X95.here hx rfl (hb hby d1_41) ?_
      exact k)
  obtain ⟨T110, h110, X110, e110, W110, st110⟩ := putF X95 hx hZ hown (host := "") (Or.inl (hw _ (List.mem_of_getElem? (i := 32) rfl))) Via.refl e95 Ff98 Ef96 (Or.inr ⟨(hw _ (List.mem_of_getElem? (i := 33) rfl)), rfl, hnm⟩) (hw _ (List.mem_of_getElem? (i := 2) rfl)) (ty := .int) (by decide) rfl rfl (g := (mkF m 42 #[.val (.ref a1), .val (.int p2), .val (.ref a3), .val (.ref a4), .val (.ref a5), .val .null] [(.int (-1 : Int32)), (.ref a1)])) rfl rfl (hb hby d1_42)
  have Fw110 := Ff98.same W110
  have Ef111 := Ef96.wr W110
  have Vf112 := Vf97.other W110 ne_a3_a1
  have Ff113 := Ff99.other W110 (Or.inr (slot_ne (Or.inr (hw _ (List.mem_of_getElem? (i := 35) rfl))) (Or.inr (hw _ (List.mem_of_getElem? (i := 33) rfl))) (by decide) (t := (.array .byte)) (t' := .int) (by decide) (by decide)))
  have Ff114 := Ff100.other W110 (Or.inr (slot_ne (Or.inr (hw _ (List.mem_of_getElem? (i := 40) rfl))) (Or.inr (hw _ (List.mem_of_getElem? (i := 33) rfl))) (by decide) (t := .boolean) (t' := .int) (by decide) (by decide)))
  have Ff115 := Ff101.other W110 (Or.inr (slot_ne (Or.inr (hw _ (List.mem_of_getElem? (i := 19) rfl))) (Or.inr (hw _ (List.mem_of_getElem? (i := 33) rfl))) (by decide) (t := .int) (t' := .int) (by decide) (by decide)))
  have Ff116 := Ff102.other W110 (Or.inr (slot_ne (Or.inr (hw _ (List.mem_of_getElem? (i := 21) rfl))) (Or.inr (hw _ (List.mem_of_getElem? (i := 33) rfl))) (by decide) (t := (.array .byte)) (t' := .int) (by decide) (by decide)))
  have Ff117 := Ff103.other W110 (Or.inr (slot_ne (Or.inr (hw _ (List.mem_of_getElem? (i := 23) rfl))) (Or.inr (hw _ (List.mem_of_getElem? (i := 33) rfl))) (by decide) (t := (.object "java/lang/String")) (t' := .int) (by decide) (by decide)))
  have Ff118 := Ff104.other W110 (Or.inr (slot_ne (Or.inr (hw _ (List.mem_of_getElem? (i := 25) rfl))) (Or.inr (hw _ (List.mem_of_getElem? (i := 33) rfl))) (by decide) (t := (.object "com/example/votal/votal/log/Template")) (t' := .int) (by decide) (by decide)))
  have Ff119 := Ff105.other W110 (Or.inr (slot_ne (Or.inr (hw _ (List.mem_of_getElem? (i := 27) rfl))) (Or.inr (hw _ (List.mem_of_getElem? (i := 33) rfl))) (by decide) (t := (.object "java/lang/String")) (t' := .int) (by decide) (by decide)))
  have Ff120 := Ff106.other W110 (Or.inr (slot_ne (Or.inr (hw _ (List.mem_of_getElem? (i := 29) rfl))) (Or.inr (hw _ (List.mem_of_getElem? (i := 33) rfl))) (by decide) (t := (.object "com/example/votal/votal/log/DigestAlgorithm")) (t' := .int) (by decide) (by decide)))
  have Ff121 := Fw95.other W110 (Or.inr (slot_ne (Or.inr (hw _ (List.mem_of_getElem? (i := 31) rfl))) (Or.inr (hw _ (List.mem_of_getElem? (i := 33) rfl))) (by decide) (t := (.array .byte)) (t' := .int) (by decide) (by decide)))
  have N110 := Fr.snoc X110 N95 g_a1
  have Z110 : n0 ≤ h110.size := Nat.le_trans Z95 (Keep.of_wr W110).1
  have Kp122 : Keep h0 h110 [a1] := Kp107.wr W110 (Or.inl (List.mem_of_getElem? (i := 0) rfl))
  have ac123 : ∀ t, Steps p.tables e below (T110.setTop (mkF m 45 #[.val (.ref a1), .val (.int p2), .val (.ref a3), .val (.ref a4), .val (.ref a5), .val .null] [])) t → Steps p.tables e below (s₁.setTop (entryFrame m #[(.ref a1), (.int p2), (.ref a3), (.ref a4), (.ref a5), .null] 6)) t := fun t k => ac109 t (st110 t k)
  have ac124 : ∀ t, Steps p.tables e below (T110.setTop (mkF m 48 #[.val (.ref a1), .val (.int p2), .val (.ref a3), .val (.ref a4), .val (.ref a5), .val .null] [.null, (.ref a1)])) t → Steps p.tables e below (s₁.setTop (entryFrame m #[(.ref a1), (.int p2), (.ref a3), (.ref a4), (.ref a5), .null] 6)) t := fun t k => ac123 t (by
      show Steps p.tables e below (T110.setTop (mkF m 45 #[.val (.ref a1), .val (.int p2), .val (.ref a3), .val (.ref a4), .val (.ref a5), .val .null] [])) _
      refine XS.aloadN X110.here hx rfl (hb hby d1_45) rfl rfl ?_
      show Steps p.tables e below (T110.setTop (mkF m 46 #[.val (.ref a1), .val (.int p2), .val (.ref a3), .val (.ref a4), .val (.ref a5), .val .null] [(.ref a1)])) _
      refine XS.aload X110.here hx rfl (hb hby d1_46) rfl rfl ?_
      exact k)
  obtain ⟨T125, h125, X125, e125, W125, st125⟩ := putF X110 hx hZ hown (host := "") (Or.inl (hw _ (List.mem_of_getElem? (i := 34) rfl))) Via.refl e110 Ff113 Ef111 (Or.inr ⟨(hw _ (List.mem_of_getElem? (i := 35) rfl)), rfl, hnm⟩) (hw _ (List.mem_of_getElem? (i := 2) rfl)) (ty := (.array .byte)) (by decide) rfl rfl (g := (mkF m 48 #[.val (.ref a1), .val (.int p2), .val (.ref a3), .val (.ref a4), .val (.ref a5), .val .null] [.null, (.ref a1)])) rfl rfl (hb hby d1_48)
  have Fw125 := Ff113.same W125
  have Ef126 := Ef111.wr W125
  have Vf127 := Vf112.other W125 ne_a3_a1
  have Ff128 := Ff114.other W125 (Or.inr (slot_ne (Or.inr (hw _ (List.mem_of_getElem? (i := 40) rfl))) (Or.inr (hw _ (List.mem_of_getElem? (i := 35) rfl))) (by decide) (t := .boolean) (t' := (.array .byte)) (by decide) (by decide)))
  have Ff129 := Ff115.other W125 (Or.inr (slot_ne (Or.inr (hw _ (List.mem_of_getElem? (i := 19) rfl))) (Or.inr (hw _ (List.mem_of_getElem? (i := 35) rfl))) (by decide) (t := .int) (t' := (.array .byte)) (by decide) (by decide)))
  have Ff130 := Ff116.other W125 (Or.inr (slot_ne (Or.inr (hw _ (List.mem_of_getElem? (i := 21) rfl))) (Or.inr (hw _ (List.mem_of_getElem? (i := 35) rfl))) (by decide) (t := (.array .byte)) (t' := (.array .byte)) (by decide) (by decide)))
  have Ff131 := Ff117.other W125 (Or.inr (slot_ne (Or.inr (hw _ (List.mem_of_getElem? (i := 23) rfl))) (Or.inr (hw _ (List.mem_of_getElem? (i := 35) rfl))) (by decide) (t := (.object "java/lang/String")) (t' := (.array .byte)) (by decide) (by decide)))
  have Ff132 := Ff118.other W125 (Or.inr (slot_ne (Or.inr (hw _ (List.mem_of_getElem? (i := 25) rfl))) (Or.inr (hw _ (List.mem_of_getElem? (i := 35) rfl))) (by decide) (t := (.object "com/example/votal/votal/log/Template")) (t' := (.array .byte)) (by decide) (by decide)))
  have Ff133 := Ff119.other W125 (Or.inr (slot_ne (Or.inr (hw _ (List.mem_of_getElem? (i := 27) rfl))) (Or.inr (hw _ (List.mem_of_getElem? (i := 35) rfl))) (by decide) (t := (.object "java/lang/String")) (t' := (.array .byte)) (by decide) (by decide)))
  have Ff134 := Ff120.other W125 (Or.inr (slot_ne (Or.inr (hw _ (List.mem_of_getElem? (i := 29) rfl))) (Or.inr (hw _ (List.mem_of_getElem? (i := 35) rfl))) (by decide) (t := (.object "com/example/votal/votal/log/DigestAlgorithm")) (t' := (.array .byte)) (by decide) (by decide)))
  have Ff135 := Ff121.other W125 (Or.inr (slot_ne (Or.inr (hw _ (List.mem_of_getElem? (i := 31) rfl))) (Or.inr (hw _ (List.mem_of_getElem? (i := 35) rfl))) (by decide) (t := (.array .byte)) (t' := (.array .byte)) (by decide) (by decide)))
  have Ff136 := Fw110.other W125 (Or.inr (slot_ne (Or.inr (hw _ (List.mem_of_getElem? (i := 33) rfl))) (Or.inr (hw _ (List.mem_of_getElem? (i := 35) rfl))) (by decide) (t := .int) (t' := (.array .byte)) (by decide) (by decide)))
  have N125 := Fr.snoc X125 N110 g_a1
  have Z125 : n0 ≤ h125.size := Nat.le_trans Z110 (Keep.of_wr W125).1
  have Kp137 : Keep h0 h125 [a1] := Kp122.wr W125 (Or.inl (List.mem_of_getElem? (i := 0) rfl))
  have ac138 : ∀ t, Steps p.tables e below (T125.setTop (mkF m 51 #[.val (.ref a1), .val (.int p2), .val (.ref a3), .val (.ref a4), .val (.ref a5), .val .null] [])) t → Steps p.tables e below (s₁.setTop (entryFrame m #[(.ref a1), (.int p2), (.ref a3), (.ref a4), (.ref a5), .null] 6)) t := fun t k => ac124 t (st125 t k)
  have ac139 : ∀ t, Steps p.tables e below (T125.setTop (mkF m 53 #[.val (.ref a1), .val (.int p2), .val (.ref a3), .val (.ref a4), .val (.ref a5), .val .null] [(.ref a3), (.ref a1)])) t → Steps p.tables e below (s₁.setTop (entryFrame m #[(.ref a1), (.int p2), (.ref a3), (.ref a4), (.ref a5), .null] 6)) t := fun t k => ac138 t (by
      show Steps p.tables e below (T125.setTop (mkF m 51 #[.val (.ref a1), .val (.int p2), .val (.ref a3), .val (.ref a4), .val (.ref a5), .val .null] [])) _
      refine XS.aloadN X125.here hx rfl (hb hby d1_51) rfl rfl ?_
      show Steps p.tables e below (T125.setTop (mkF m 52 #[.val (.ref a1), .val (.int p2), .val (.ref a3), .val (.ref a4), .val (.ref a5), .val .null] [(.ref a1)])) _
      refine XS.aloadN X125.here hx rfl (hb hby d1_52) rfl rfl ?_
      exact k)
  obtain ⟨_, _, ⟨T140, L140, k140, n140⟩, -, X140, ⟨Lc140, hQ140, l140, y140, z140⟩, st140⟩ := Jvm.LawKit.callS X125 hx (y := (⟨"com/example/votal/votal/log/LogRecord", "isZero", "([B)Z"⟩ : MethodName)) hown (mvT hZ (hw _ (List.mem_of_getElem? (i := 36) rfl))) (mvT hZ (hw _ (List.mem_of_getElem? (i := 37) rfl))) (mvT hZ (hw _ (List.mem_of_getElem? (i := 3) rfl))) (mvT hZ (hw _ (List.mem_of_getElem? (i := 38) rfl))) (by decide) (backOf (W := 1) (rm3 l Z a0 hw [] a3 n1 f h125 n0 Z125 Vf127 hf h1) hZ (hw _ (List.mem_of_getElem? (i := 38) rfl)) (hw _ (List.mem_of_getElem? (i := 3) rfl)) (by decide) (by decide)) (g := (mkF m 53 #[.val (.ref a1), .val (.int p2), .val (.ref a3), .val (.ref a4), .val (.ref a5), .val .null] [(.ref a3), (.ref a1)])) rfl (by rw [hml]; rfl) (argsL := [(.ref a3)]) (rest := [(.ref a1)]) (lenOf pd_2 rfl) rfl (by show 2 * 0 + _ ≤ _; exact Nat.le_of_eq rfl) (hb hby d1_53) (fun _ _ => ⟨rfl, e125, (by decide : 0 + 0 ≤ _), (by decide : 0 + 0 ≤ _)⟩)
  dsimp only [Pt.U, Pt.locs, Pt.cells, Pt.slots] at X140 l140 y140 z140 st140 hQ140
  subst l140 y140 z140
  obtain ⟨r140, rfl, N140q, Qe140⟩ := hQ140
  have N140 := Fr.app N125 N140q
  have ac141 : ∀ t, Steps p.tables e below (T140.setTop (mkF m 56 #[.val (.ref a1), .val (.int p2), .val (.ref a3), .val (.ref a4), .val (.ref a5), .val .null] [(.int r140), (.ref a1)])) t → Steps p.tables e below (s₁.setTop (entryFrame m #[(.ref a1), (.int p2), (.ref a3), (.ref a4), (.ref a5), .null] 6)) t := fun t k => ac139 t (st140 t k)
  obtain ⟨T142, h142, X142, e142, W142, st142⟩ := putFN X140 hx hZ hown (hw _ (List.mem_of_getElem? (i := 39) rfl)) Via.refl Qe140 Ff128 Ef126 (Or.inr ⟨(hw _ (List.mem_of_getElem? (i := 40) rfl)), rfl, hnm⟩) (hw _ (List.mem_of_getElem? (i := 2) rfl)) (ty := .boolean) (v' := (.int (nar .boolean r140))) (by decide) rfl (fits_nar_bool _) (g := (mkF m 56 #[.val (.ref a1), .val (.int p2), .val (.ref a3), .val (.ref a4), .val (.ref a5), .val .null] [(.int r140), (.ref a1)])) rfl rfl (hb hby d1_56)
  have Fw142 := Ff128.same W142
  have Ef143 := Ef126.wr W142
  have Vf144 := Vf127.other W142 ne_a3_a1
  have Ff145 := Ff129.other W142 (Or.inr (slot_ne (Or.inr (hw _ (List.mem_of_getElem? (i := 19) rfl))) (Or.inr (hw _ (List.mem_of_getElem? (i := 40) rfl))) (by decide) (t := .int) (t' := .boolean) (by decide) (by decide)))
  have Ff146 := Ff130.other W142 (Or.inr (slot_ne (Or.inr (hw _ (List.mem_of_getElem? (i := 21) rfl))) (Or.inr (hw _ (List.mem_of_getElem? (i := 40) rfl))) (by decide) (t := (.array .byte)) (t' := .boolean) (by decide) (by decide)))
  have Ff147 := Ff131.other W142 (Or.inr (slot_ne (Or.inr (hw _ (List.mem_of_getElem? (i := 23) rfl))) (Or.inr (hw _ (List.mem_of_getElem? (i := 40) rfl))) (by decide) (t := (.object "java/lang/String")) (t' := .boolean) (by decide) (by decide)))
  have Ff148 := Ff132.other W142 (Or.inr (slot_ne (Or.inr (hw _ (List.mem_of_getElem? (i := 25) rfl))) (Or.inr (hw _ (List.mem_of_getElem? (i := 40) rfl))) (by decide) (t := (.object "com/example/votal/votal/log/Template")) (t' := .boolean) (by decide) (by decide)))
  have Ff149 := Ff133.other W142 (Or.inr (slot_ne (Or.inr (hw _ (List.mem_of_getElem? (i := 27) rfl))) (Or.inr (hw _ (List.mem_of_getElem? (i := 40) rfl))) (by decide) (t := (.object "java/lang/String")) (t' := .boolean) (by decide) (by decide)))
  have Ff150 := Ff134.other W142 (Or.inr (slot_ne (Or.inr (hw _ (List.mem_of_getElem? (i := 29) rfl))) (Or.inr (hw _ (List.mem_of_getElem? (i := 40) rfl))) (by decide) (t := (.object "com/example/votal/votal/log/DigestAlgorithm")) (t' := .boolean) (by decide) (by decide)))
  have Ff151 := Ff135.other W142 (Or.inr (slot_ne (Or.inr (hw _ (List.mem_of_getElem? (i := 31) rfl))) (Or.inr (hw _ (List.mem_of_getElem? (i := 40) rfl))) (by decide) (t := (.array .byte)) (t' := .boolean) (by decide) (by decide)))
  have Ff152 := Ff136.other W142 (Or.inr (slot_ne (Or.inr (hw _ (List.mem_of_getElem? (i := 33) rfl))) (Or.inr (hw _ (List.mem_of_getElem? (i := 40) rfl))) (by decide) (t := .int) (t' := .boolean) (by decide) (by decide)))
  have Ff153 := Fw125.other W142 (Or.inr (slot_ne (Or.inr (hw _ (List.mem_of_getElem? (i := 35) rfl))) (Or.inr (hw _ (List.mem_of_getElem? (i := 40) rfl))) (by decide) (t := (.array .byte)) (t' := .boolean) (by decide) (by decide)))
  have N142 := Fr.snoc X142 N140 g_a1
  have Z142 : n0 ≤ h142.size := Nat.le_trans Z125 (Keep.of_wr W142).1
  have Kp154 : Keep h0 h142 [a1] := Kp137.wr W142 (Or.inl (List.mem_of_getElem? (i := 0) rfl))
  have ac155 : ∀ t, Steps p.tables e below (T142.setTop (mkF m 59 #[.val (.ref a1), .val (.int p2), .val (.ref a3), .val (.ref a4), .val (.ref a5), .val .null] [])) t → Steps p.tables e below (s₁.setTop (entryFrame m #[(.ref a1), (.int p2), (.ref a3), (.ref a4), (.ref a5), .null] 6)) t := fun t k => ac141 t (st142 t k)
  obtain ⟨fs, hr, hrun, hended, hW, hsame⟩ := X142.leave (v := none) (fun _ => rfl) (BodyLoose.notSynchronized Bd)
  refine ⟨_, _, ac155 _ ?_, hrun, hended, _, _, rfl, ?_, ⟨_, rfl⟩, hW, hsame.mono (by decide) (by decide)⟩
  · show Steps p.tables e below (T142.setTop (mkF m 59 #[.val (.ref a1), .val (.int p2), .val (.ref a3), .val (.ref a4), .val (.ref a5), .val .null] [])) _
    exact X142.returnOut hx Bd.returns (hb hby d1_59) hr
  · show Q1n Z a1 p2 a3 a4 a5 n1 f h0 n0 _ T142.heap _
    rw [e142]
    exact ⟨rfl, N142, Kp154, Ef143, Ff153⟩
theorem ef_rm4n (m : MethodId) (x0 : Addr) : entryFrame m #[(.ref x0)] 1 = mkF m 0 #[.val (.ref x0)] [] := by first | (simp [entryFrame, mkF, argsToLocals, Value.category]; done) | rfl
def Q4n (Z : State) (a1 : Addr) (h0 : Heap) (n0 : Nat) (v : Option Value) (h : Heap) (L : List Loc) : Prop := v = some .null ∧ Fr n0 L ∧ h = h0
set_option maxRecDepth 65536 in
set_option maxHeartbeats 40000000 in
theorem rm4n (l : Launch) (Z : State) (a0 : Array Value) (hw : ∀ d ∈ tables_1, d.before a0 Z = true) (ws : List Jvm.Cond) (a1 : Addr) (h0 : Heap) (n0 : Nat) (Z0 : n0 ≤ h0.size) (F1 : Fld Z h0 a1 "com/example/votal/votal/log/LogRecord" "mTemplateData" "[B" .null) :
    MetFree l (⟨"com/example/votal/votal/log/LogRecord", "getTemplateData", "()[B"⟩ : MethodName) (head1 (Jvm.Cond.code (⟨"com/example/votal/votal/log/LogRecord", "getTemplateData", "()[B"⟩ : MethodName) prog_49_method_13_code 1 (some (.array .byte)) :: ws) ({ frames := 0, cells := 0, slots := 0, locals := 0 } : Room)) (fun a U => a = #[(.ref a1)] ∧ Z.Warmed39 U.vm ∧ U.heap = h0) (fun _ _ _ _ _ => True) (fun _ U o U' => ∃ v L, o = .returned v ∧ Q4n Z a1 h0 n0 v U'.heap L ∧ FrameEnd U o U' L ({ frames := 0, cells := 0, slots := 0, locals := 0 } : Room).cells ({ frames := 0, cells := 0, slots := 0, locals := 0 } : Room).slots) := by
  refine MetFree.of_bodySF (plainFor_of_name pn_4) hisR ?_
  intro p e s m args below meth c s₁ Bd hml0 hP hK
  obtain ⟨rfl, hZ, hh⟩ := hP
  have hx := Bd.exec
  have hby := Bd.bytes
  have hml : c.maxLocals = 1 := hml0
  have hown : s.vm.findClass "com/example/votal/votal/log/LogRecord" = some m.cls := findClass_of_methodNamed Bd.named
  have hnm := (name_of_methodNamed Bd.named Bd.method).1
  have X0 : Stand p l e ({ frames := 0, cells := 0, slots := 0, locals := 0 } : Room) s m #[(.ref a1)] below meth c s₁ [] 0 0 := Stand.of_body Bd
  have e0 : s₁.heap = h0 := by rw [← hh, Bd.state]; rfl
  have N0 := Fr.nil n0
  have a0s : ∀ t, Steps p.tables e below (s₁.setTop (mkF m 0 #[.val (.ref a1)] [])) t → Steps p.tables e below (s₁.setTop (entryFrame m #[(.ref a1)] 1)) t := fun t k => castTop (ef_rm4n m a1) k
  have ac1 : ∀ t, Steps p.tables e below (s₁.setTop (mkF m 1 #[.val (.ref a1)] [(.ref a1)])) t → Steps p.tables e below (s₁.setTop (entryFrame m #[(.ref a1)] 1)) t := fun t k => a0s t (by
      show Steps p.tables e below (s₁.setTop (mkF m 0 #[.val (.ref a1)] [])) _
      refine XS.aloadN X0.here hx rfl (hb hby d4_0) rfl rfl ?_
      exact k)
  obtain ⟨T2, X2, e2, st2⟩ := getF X0 hx hZ hown (host := "") (Or.inl (hw _ (List.mem_of_getElem? (i := 34) rfl))) Via.refl e0 F1 (g := (mkF m 1 #[.val (.ref a1)] [(.ref a1)])) rfl rfl (hb hby d4_1)
  have ac3 : ∀ t, Steps p.tables e below (T2.setTop (mkF m 4 #[.val (.ref a1)] [.null])) t → Steps p.tables e below (s₁.setTop (entryFrame m #[(.ref a1)] 1)) t := fun t k => ac1 t (st2 t k)
  have ac4 : ∀ t, Steps p.tables e below (T2.setTop (mkF m 21 #[.val (.ref a1)] [.null])) t → Steps p.tables e below (s₁.setTop (entryFrame m #[(.ref a1)] 1)) t := fun t k => ac3 t (by
      show Steps p.tables e below (T2.setTop (mkF m 4 #[.val (.ref a1)] [.null])) _
      refine XS.ifnonnullNo X2.here hx rfl (hb hby d4_4) rfl ?_
      show Steps p.tables e below (T2.setTop (mkF m 7 #[.val (.ref a1)] [])) _
      refine XS.aconstNull X2.here hx rfl (hb hby d4_7) ?_
      show Steps p.tables e below (T2.setTop (mkF m 8 #[.val (.ref a1)] [.null])) _
      refine XS.goto X2.here hx rfl (pc0 := 8) (pc' := 21) rfl (hb hby d4_8) (by decide) (by decide) ?_
      exact k)
  obtain ⟨fs, hr, hrun, hended, hW, hsame⟩ := X2.leave (v := some .null) (fun h => by rw [Bd.returns] at h; cases h) (BodyLoose.notSynchronized Bd)
  refine ⟨_, _, ac4 _ ?_, hrun, hended, _, _, rfl, ?_, ⟨_, rfl⟩, hW, hsame.mono (by decide) (by decide)⟩
  · show Steps p.tables e below (T2.setTop (mkF m 21 #[.val (.ref a1)] [.null])) _
    exact retOut X2 hx Bd.returns rfl (Or.inr (Or.inr (Or.inr (Or.inr ⟨rfl, rfl, rfl⟩)))) (hb hby d4_21) hr
  · show Q4n Z a1 h0 n0 _ T2.heap _
    rw [e2]
    exact ⟨rfl, N0, rfl⟩
theorem ef_rm4c (m : MethodId) (x0 : Addr) : entryFrame m #[(.ref x0)] 1 = mkF m 0 #[.val (.ref x0)] [] := by first | (simp [entryFrame, mkF, argsToLocals, Value.category]; done) | rfl
def Q4c (Z : State) (a1 : Addr) (d : Addr) (n1 : Nat) (f : Nat → Value) (h0 : Heap) (n0 : Nat) (v : Option Value) (h : Heap) (L : List Loc) : Prop := ∃ r : Addr, v = some (.ref r) ∧ Fr n0 L ∧ Keep h0 h [] ∧ h0.size ≤ r ∧ own_Ar Z h r .byte n1 f
set_option maxRecDepth 65536 in
set_option maxHeartbeats 40000000 in
theorem rm4c (l : Launch) (Z : State) (a0 : Array Value) (hw : ∀ d ∈ tables_1, d.before a0 Z = true) (ws : List Jvm.Cond) (a1 : Addr) (d : Addr) (n1 : Nat) (f : Nat → Value) (h0 : Heap) (n0 : Nat) (Z0 : n0 ≤ h0.size) (F1 : Fld Z h0 a1 "com/example/votal/votal/log/LogRecord" "mTemplateData" "[B" (.ref d)) (V1 : own_Ar Z h0 d .byte n1 f) (E2 : Exa Z h0 d "[B") (h3 : n1 ≤ 4) :
    MetFree l (⟨"com/example/votal/votal/log/LogRecord", "getTemplateData", "()[B"⟩ : MethodName) (head1 (Jvm.Cond.code (⟨"com/example/votal/votal/log/LogRecord", "getTemplateData", "()[B"⟩ : MethodName) prog_49_method_13_code 1 (some (.array .byte)) :: ws) ({ frames := 1, cells := 1, slots := 4, locals := 14 } : Room)) (fun a U => a = #[(.ref a1)] ∧ Z.Warmed39 U.vm ∧ U.heap = h0) (fun _ _ _ _ _ => True) (fun _ U o U' => ∃ v L, o = .returned v ∧ Q4c Z a1 d n1 f h0 n0 v U'.heap L ∧ FrameEnd U o U' L ({ frames := 1, cells := 1, slots := 4, locals := 14 } : Room).cells ({ frames := 1, cells := 1, slots := 4, locals := 14 } : Room).slots) := by
  refine MetFree.of_bodySF (plainFor_of_name pn_4) hisR ?_
  intro p e s m args below meth c s₁ Bd hml0 hP hK
  obtain ⟨rfl, hZ, hh⟩ := hP
  have hx := Bd.exec
  have hby := Bd.bytes
  have hml : c.maxLocals = 1 := hml0
  have hown : s.vm.findClass "com/example/votal/votal/log/LogRecord" = some m.cls := findClass_of_methodNamed Bd.named
  have hnm := (name_of_methodNamed Bd.named Bd.method).1
  have X0 : Stand p l e ({ frames := 1, cells := 1, slots := 4, locals := 14 } : Room) s m #[(.ref a1)] below meth c s₁ [] 0 0 := Stand.of_body Bd
  have e0 : s₁.heap = h0 := by rw [← hh, Bd.state]; rfl
  have N0 := Fr.nil n0
  have a0s : ∀ t, Steps p.tables e below (s₁.setTop (mkF m 0 #[.val (.ref a1)] [])) t → Steps p.tables e below (s₁.setTop (entryFrame m #[(.ref a1)] 1)) t := fun t k => castTop (ef_rm4c m a1) k
  have ac1 : ∀ t, Steps p.tables e below (s₁.setTop (mkF m 1 #[.val (.ref a1)] [(.ref a1)])) t → Steps p.tables e below (s₁.setTop (entryFrame m #[(.ref a1)] 1)) t := fun t k => a0s t (by
      show Steps p.tables e below (s₁.setTop (mkF m 0 #[.val (.ref a1)] [])) _
      refine XS.aloadN X0.here hx rfl (hb hby d4_0) rfl rfl ?_
      exact k)
  obtain ⟨T2, X2, e2, st2⟩ := getF X0 hx hZ hown (host := "") (Or.inl (hw _ (List.mem_of_getElem? (i := 34) rfl))) Via.refl e0 F1 (g := (mkF m 1 #[.val (.ref a1)] [(.ref a1)])) rfl rfl (hb hby d4_1)
  have ac3 : ∀ t, Steps p.tables e below (T2.setTop (mkF m 4 #[.val (.ref a1)] [(.ref d)])) t → Steps p.tables e below (s₁.setTop (entryFrame m #[(.ref a1)] 1)) t := fun t k => ac1 t (st2 t k)
  have ac4 : ∀ t, Steps p.tables e below (T2.setTop (mkF m 12 #[.val (.ref a1)] [(.ref a1)])) t → Steps p.tables e below (s₁.setTop (entryFrame m #[(.ref a1)] 1)) t := fun t k => ac3 t (by
      show Steps p.tables e below (T2.setTop (mkF m 4 #[.val (.ref a1)] [(.ref d)])) _
      refine XS.ifnonnullYes X2.here hx rfl (pc0 := 4) (pc' := 11) rfl (hb hby d4_4) rfl (by decide) (by decide) ?_
      show Steps p.tables e below (T2.setTop (mkF m 11 #[.val (.ref a1)] [])) _
      refine XS.aloadN X2.here hx rfl (hb hby d4_11) rfl rfl ?_
      exact k)
  obtain ⟨T5, X5, e5, st5⟩ := getF X2 hx hZ hown (host := "") (Or.inl (hw _ (List.mem_of_getElem? (i := 34) rfl))) Via.refl e2 F1 (g := (mkF m 12 #[.val (.ref a1)] [(.ref a1)])) rfl rfl (hb hby d4_12)
  have ac6 : ∀ t, Steps p.tables e below (T5.setTop (mkF m 15 #[.val (.ref a1)] [(.ref d)])) t → Steps p.tables e below (s₁.setTop (entryFrame m #[(.ref a1)] 1)) t := fun t k => ac4 t (st5 t k)
  obtain ⟨T7, h7, X7, e7, E7, V7, Ea7, st7⟩ := own_clone X5 hx hZ hown (hw _ (List.mem_of_getElem? (i := 46) rfl)) (hw _ (List.mem_of_getElem? (i := 47) rfl)) (hw _ (List.mem_of_getElem? (i := 51) rfl)) (hw _ (List.mem_of_getElem? (i := 49) rfl)) (hw _ (List.mem_of_getElem? (i := 50) rfl)) (hw _ (List.mem_of_getElem? (i := 52) rfl)) e5 V1 E2 (g := (mkF m 15 #[.val (.ref a1)] [(.ref d)])) rfl (by rw [hml]; rfl) rfl (hb hby d4_15) (by decide) (W := 0) (cap := 4) (by show 2 * 0 + _ ≤ _; exact Nat.le_of_eq rfl) (by decide) h3 (by decide) (by decide)
  obtain ⟨b7, g7⟩ : ∃ z, z = h0.size := ⟨_, rfl⟩
  rw [← g7] at V7 Ea7 st7
  have g_b7 : n0 ≤ b7 := Nat.le_trans Z0 (Nat.le_of_eq g7.symm)
  have sz_b7 : h0.size ≤ b7 := Nat.le_trans (Keep.refl h0 []).1 (Nat.le_of_eq g7.symm)
  have ne_a1_b7 : a1 ≠ b7 := Nat.ne_of_lt (Nat.lt_of_lt_of_le F1.lt (Nat.le_of_eq g7.symm))
  have ne_d_b7 : d ≠ b7 := Nat.ne_of_lt (Nat.lt_of_lt_of_le V1.lt (Nat.le_of_eq g7.symm))
  have Ff8 := F1.ext E7
  have Vf9 := V1.ext E7
  have Ef10 := E2.ext E7
  have Z7 : n0 ≤ h7.size := Nat.le_trans Z0 E7.1
  have Kp11 : Keep h0 h7 [] := (Keep.refl h0 []).ext E7
  have ac12 : ∀ t, Steps p.tables e below (T7.setTop (mkF m 18 #[.val (.ref a1)] [(.ref b7)])) t → Steps p.tables e below (s₁.setTop (entryFrame m #[(.ref a1)] 1)) t := fun t k => ac6 t (st7 t k)
  obtain ⟨T13, X13, e13, st13⟩ := castY X7 hx hZ hown (hw _ (List.mem_of_getElem? (i := 53) rfl)) e7 (Ins.self Ea7) (g := (mkF m 18 #[.val (.ref a1)] [(.ref b7)])) rfl rfl (hb hby d4_18)
  have ac14 : ∀ t, Steps p.tables e below (T13.setTop (mkF m 21 #[.val (.ref a1)] [(.ref b7)])) t → Steps p.tables e below (s₁.setTop (entryFrame m #[(.ref a1)] 1)) t := fun t k => ac12 t (st13 t k)
  obtain ⟨fs, hr, hrun, hended, hW, hsame⟩ := X13.leave (v := some (.ref b7)) (fun h => by rw [Bd.returns] at h; cases h) (BodyLoose.notSynchronized Bd)
  refine ⟨_, _, ac14 _ ?_, hrun, hended, _, _, rfl, ?_, ⟨_, rfl⟩, hW, hsame.mono (by decide) (by decide)⟩
  · show Steps p.tables e below (T13.setTop (mkF m 21 #[.val (.ref a1)] [(.ref b7)])) _
    exact retOut X13 hx Bd.returns rfl (Or.inr (Or.inr (Or.inr (Or.inr ⟨rfl, rfl, rfl⟩)))) (hb hby d4_21) hr
  · show Q4c Z a1 d n1 f h0 n0 _ T13.heap _
    rw [e13]
    exact ⟨b7, rfl, N0, Kp11, sz_b7, V7⟩
theorem ef_rm5_0 (m : MethodId) (x0 : Addr) (x1 : Int32) (x2 : Int32) (x3 : Int32) : entryFrame m #[(.ref x0), (.int x1), (.int x2), (.int x3)] 4 = mkF m 0 #[.val (.ref x0), .val (.int x1), .val (.int x2), .val (.int x3)] [] := by first | (simp [entryFrame, mkF, argsToLocals, Value.category]; done) | rfl
def Q5_0 (Z : State) (a1 : Addr) (p2 : Int32) (p3 : Int32) (p4 : Int32) (f : Nat → Value) (h0 : Heap) (n0 : Nat) (v : Option Value) (h : Heap) (L : List Loc) : Prop := v = some (.int 1) ∧ Fr n0 L ∧ h = h0
set_option maxRecDepth 65536 in
set_option maxHeartbeats 40000000 in
theorem rm5_0 (l : Launch) (Z : State) (a0 : Array Value) (hw : ∀ d ∈ tables_1, d.before a0 Z = true) (ws : List Jvm.Cond) (a1 : Addr) (p2 : Int32) (p3 : Int32) (p4 : Int32) (f : Nat → Value) (h0 : Heap) (n0 : Nat) (Z0 : n0 ≤ h0.size) (V1 : own_Ar Z h0 a1 .byte 0 f) (h2 : p2 = 0)  :
    MetFree l (⟨"com/example/votal/votal/log/LogRecordGetTemplateDataPinLaw", "holds", "([BIII)Z"⟩ : MethodName) (head1 (Jvm.Cond.code (⟨"com/example/votal/votal/log/LogRecordGetTemplateDataPinLaw", "holds", "([BIII)Z"⟩ : MethodName) method_2_code 4 (some .boolean) :: ws) ({ frames := 0, cells := 0, slots := 0, locals := 0 } : Room)) (fun a U => a = #[(.ref a1), (.int p2), (.int p3), (.int p4)] ∧ Z.Warmed39 U.vm ∧ U.heap = h0) (fun _ _ _ _ _ => True) (fun _ U o U' => ∃ v L, o = .returned v ∧ Q5_0 Z a1 p2 p3 p4 f h0 n0 v U'.heap L ∧ FrameEnd U o U' L ({ frames := 0, cells := 0, slots := 0, locals := 0 } : Room).cells ({ frames := 0, cells := 0, slots := 0, locals := 0 } : Room).slots) := by
  refine MetFree.of_bodySF (plainFor_of_name pn_5) hisR ?_
  intro p e s m args below meth c s₁ Bd hml0 hP hK
  obtain ⟨rfl, hZ, hh⟩ := hP
  have hx := Bd.exec
  have hby := Bd.bytes
  have hml : c.maxLocals = 4 := hml0
  have hown : s.vm.findClass "com/example/votal/votal/log/LogRecordGetTemplateDataPinLaw" = some m.cls := findClass_of_methodNamed Bd.named
  have hnm := (name_of_methodNamed Bd.named Bd.method).1
  have X0 : Stand p l e ({ frames := 0, cells := 0, slots := 0, locals := 0 } : Room) s m #[(.ref a1), (.int p2), (.int p3), (.int p4)] below meth c s₁ [] 0 0 := Stand.of_body Bd
  have e0 : s₁.heap = h0 := by rw [← hh, Bd.state]; rfl
  have N0 := Fr.nil n0
  have a0s : ∀ t, Steps p.tables e below (s₁.setTop (mkF m 0 #[.val (.ref a1), .val (.int p2), .val (.int p3), .val (.int p4)] [])) t → Steps p.tables e below (s₁.setTop (entryFrame m #[(.ref a1), (.int p2), (.int p3), (.int p4)] 4)) t := fun t k => castTop (ef_rm5_0 m a1 p2 p3 p4) k
  have ac1 : ∀ t, Steps p.tables e below (s₁.setTop (mkF m 5 #[.val (.ref a1), .val (.int p2), .val (.int p3), .val (.int p4)] [(.ref a1)])) t → Steps p.tables e below (s₁.setTop (entryFrame m #[(.ref a1), (.int p2), (.int p3), (.int p4)] 4)) t := fun t k => a0s t (by
      show Steps p.tables e below (s₁.setTop (mkF m 0 #[.val (.ref a1), .val (.int p2), .val (.int p3), .val (.int p4)] [])) _
      refine XS.aloadN X0.here hx rfl (hb hby d5_0) rfl rfl ?_
      show Steps p.tables e below (s₁.setTop (mkF m 1 #[.val (.ref a1), .val (.int p2), .val (.int p3), .val (.int p4)] [(.ref a1)])) _
      refine XS.ifnullNo X0.here hx rfl (hb hby d5_1) rfl ?_
      show Steps p.tables e below (s₁.setTop (mkF m 4 #[.val (.ref a1), .val (.int p2), .val (.int p3), .val (.int p4)] [])) _
      refine XS.aloadN X0.here hx rfl (hb hby d5_4) rfl rfl ?_
      exact k)
  obtain ⟨cl2, Ac2, hl2, hb2⟩ := V1.len
  have ac3 : ∀ t, Steps p.tables e below (s₁.setTop (mkF m 65 #[.val (.ref a1), .val (.int p2), .val (.int p3), .val (.int p4)] [(.int (1 : Int32))])) t → Steps p.tables e below (s₁.setTop (entryFrame m #[(.ref a1), (.int p2), (.int p3), (.int p4)] 4)) t := fun t k => ac1 t (by
      show Steps p.tables e below (s₁.setTop (mkF m 5 #[.val (.ref a1), .val (.int p2), .val (.int p3), .val (.int p4)] [(.ref a1)])) _
      refine X0.arraylength hx (by rw [e0]; exact Ac2.1) (State.isArrayOf_alike hZ.alike Ac2.2.1) (g := (mkF m 5 #[.val (.ref a1), .val (.int p2), .val (.int p3), .val (.int p4)] [(.ref a1)])) rfl rfl (hb hby d5_5) _ ?_
      rw [hl2]
      show Steps p.tables e below (s₁.setTop (mkF m 6 #[.val (.ref a1), .val (.int p2), .val (.int p3), .val (.int p4)] [(.int (Int32.ofNat 0))])) _
      refine XS.iloadN X0.here hx rfl (hb hby d5_6) rfl ?_
      show Steps p.tables e below (s₁.setTop (mkF m 7 #[.val (.ref a1), .val (.int p2), .val (.int p3), .val (.int p4)] [(.int p2), (.int (Int32.ofNat 0))])) _
      refine XS.icmpYes X0.here hx rfl (pc0 := 7) (pc' := 12) rfl (hb hby d5_7) rfl (teq (by rw [h2]; rfl)).1 (by decide) (by decide) ?_
      show Steps p.tables e below (s₁.setTop (mkF m 12 #[.val (.ref a1), .val (.int p2), .val (.int p3), .val (.int p4)] [])) _
      refine XS.iloadN X0.here hx rfl (hb hby d5_12) rfl ?_
      show Steps p.tables e below (s₁.setTop (mkF m 13 #[.val (.ref a1), .val (.int p2), .val (.int p3), .val (.int p4)] [(.int p2)])) _
      refine XS.iconst X0.here hx rfl (hb hby d5_13) ?_
      show Steps p.tables e below (s₁.setTop (mkF m 14 #[.val (.ref a1), .val (.int p2), .val (.int p3), .val (.int p4)] [(.int (2 : Int32)), (.int p2)])) _
      refine XS.icmpYes X0.here hx rfl (pc0 := 14) (pc' := 38) rfl (hb hby d5_14) rfl (tlt (by rw [h2]; decide)).1 (by decide) (by decide) ?_
      show Steps p.tables e below (s₁.setTop (mkF m 38 #[.val (.ref a1), .val (.int p2), .val (.int p3), .val (.int p4)] [])) _
      refine XS.iloadN X0.here hx rfl (hb hby d5_38) rfl ?_
      show Steps p.tables e below (s₁.setTop (mkF m 39 #[.val (.ref a1), .val (.int p2), .val (.int p3), .val (.int p4)] [(.int p2)])) _
      refine XS.iconst X0.here hx rfl (hb hby d5_39) ?_
      show Steps p.tables e below (s₁.setTop (mkF m 40 #[.val (.ref a1), .val (.int p2), .val (.int p3), .val (.int p4)] [(.int (4 : Int32)), (.int p2)])) _
      refine XS.icmpYes X0.here hx rfl (pc0 := 40) (pc' := 64) rfl (hb hby d5_40) rfl (tlt (by rw [h2]; decide)).1 (by decide) (by decide) ?_
      show Steps p.tables e below (s₁.setTop (mkF m 64 #[.val (.ref a1), .val (.int p2), .val (.int p3), .val (.int p4)] [])) _
      refine XS.iconst X0.here hx rfl (hb hby d5_64) ?_
      exact k)
  obtain ⟨fs, hr, hrun, hended, hW, hsame⟩ := X0.leave (v := some (.int (1 : Int32))) (fun h => by rw [Bd.returns] at h; cases h) (BodyLoose.notSynchronized Bd)
  refine ⟨_, _, ac3 _ ?_, hrun, hended, _, _, rfl, ?_, ⟨_, rfl⟩, hW, hsame.mono (by decide) (by decide)⟩
  · show Steps p.tables e below (s₁.setTop (mkF m 65 #[.val (.ref a1), .val (.int p2), .val (.int p3), .val (.int p4)] [(.int (1 : Int32))])) _
    exact retN X0 hx (t := .boolean) Bd.returns (by simp) (hb hby d5_65) hr
  · show Q5_0 Z a1 p2 p3 p4 f h0 n0 _ s₁.heap _
    rw [e0]
    exact ⟨rfl, N0, rfl⟩
theorem ef_rm6_0 (m : MethodId) (x0 : Addr) : entryFrame m #[(.ref x0)] 1 = mkF m 0 #[.val (.ref x0)] [] := by first | (simp [entryFrame, mkF, argsToLocals, Value.category]; done) | rfl
def Q6_0 (Z : State) (a1 : Addr) (f : Nat → Value) (h0 : Heap) (n0 : Nat) (v : Option Value) (h : Heap) (L : List Loc) : Prop := v = none ∧ Fr n0 L ∧ Keep h0 h [a1] ∧ ∃ f' : Nat → Value, own_Ar Z h a1 .byte 0 f'
set_option maxRecDepth 65536 in
set_option maxHeartbeats 40000000 in
theorem rm6_0 (l : Launch) (Z : State) (a0 : Array Value) (hw : ∀ d ∈ tables_1, d.before a0 Z = true) (ws : List Jvm.Cond) (a1 : Addr) (f : Nat → Value) (h0 : Heap) (n0 : Nat) (Z0 : n0 ≤ h0.size) (V1 : own_Ar Z h0 a1 .byte 0 f) (g_a1 : n0 ≤ a1)  :
    MetFree l (⟨"com/example/votal/votal/log/LogRecordGetTemplateDataPinLaw", "spoil", "([B)V"⟩ : MethodName) (head1 (Jvm.Cond.code (⟨"com/example/votal/votal/log/LogRecordGetTemplateDataPinLaw", "spoil", "([B)V"⟩ : MethodName) method_3_code 1 none :: ws) ({ frames := 0, cells := 0, slots := 0, locals := 0 } : Room)) (fun a U => a = #[(.ref a1)] ∧ Z.Warmed39 U.vm ∧ U.heap = h0) (fun _ _ _ _ _ => True) (fun _ U o U' => ∃ v L, o = .returned v ∧ Q6_0 Z a1 f h0 n0 v U'.heap L ∧ FrameEnd U o U' L ({ frames := 0, cells := 0, slots := 0, locals := 0 } : Room).cells ({ frames := 0, cells := 0, slots := 0, locals := 0 } : Room).slots) := by
  refine MetFree.of_bodySF (plainFor_of_name pn_6) hisR ?_
  intro p e s m args below meth c s₁ Bd hml0 hP hK
  obtain ⟨rfl, hZ, hh⟩ := hP
  have hx := Bd.exec
  have hby := Bd.bytes
  have hml : c.maxLocals = 1 := hml0
  have hown : s.vm.findClass "com/example/votal/votal/log/LogRecordGetTemplateDataPinLaw" = some m.cls := findClass_of_methodNamed Bd.named
  have hnm := (name_of_methodNamed Bd.named Bd.method).1
  have X0 : Stand p l e ({ frames := 0, cells := 0, slots := 0, locals := 0 } : Room) s m #[(.ref a1)] below meth c s₁ [] 0 0 := Stand.of_body Bd
  have e0 : s₁.heap = h0 := by rw [← hh, Bd.state]; rfl
  have N0 := Fr.nil n0
  have a0s : ∀ t, Steps p.tables e below (s₁.setTop (mkF m 0 #[.val (.ref a1)] [])) t → Steps p.tables e below (s₁.setTop (entryFrame m #[(.ref a1)] 1)) t := fun t k => castTop (ef_rm6_0 m a1) k
  have ac1 : ∀ t, Steps p.tables e below (s₁.setTop (mkF m 1 #[.val (.ref a1)] [(.ref a1)])) t → Steps p.tables e below (s₁.setTop (entryFrame m #[(.ref a1)] 1)) t := fun t k => a0s t (by
      show Steps p.tables e below (s₁.setTop (mkF m 0 #[.val (.ref a1)] [])) _
      refine XS.aloadN X0.here hx rfl (hb hby d6_0) rfl rfl ?_
      exact k)
  obtain ⟨cl2, Ac2, hl2, hb2⟩ := V1.len
  have ac3 : ∀ t, Steps p.tables e below (s₁.setTop (mkF m 25 #[.val (.ref a1)] [(.ref a1)])) t → Steps p.tables e below (s₁.setTop (entryFrame m #[(.ref a1)] 1)) t := fun t k => ac1 t (by
      show Steps p.tables e below (s₁.setTop (mkF m 1 #[.val (.ref a1)] [(.ref a1)])) _
      refine X0.arraylength hx (by rw [e0]; exact Ac2.1) (State.isArrayOf_alike hZ.alike Ac2.2.1) (g := (mkF m 1 #[.val (.ref a1)] [(.ref a1)])) rfl rfl (hb hby d6_1) _ ?_
      rw [hl2]
      show Steps p.tables e below (s₁.setTop (mkF m 2 #[.val (.ref a1)] [(.int (Int32.ofNat 0))])) _
      refine XS.iconst X0.here hx rfl (hb hby d6_2) ?_
      show Steps p.tables e below (s₁.setTop (mkF m 3 #[.val (.ref a1)] [(.int (2 : Int32)), (.int (Int32.ofNat 0))])) _
      refine XS.icmpYes X0.here hx rfl (pc0 := 3) (pc' := 24) rfl (hb hby d6_3) rfl (tlt (by decide)).1 (by decide) (by decide) ?_
      show Steps p.tables e below (s₁.setTop (mkF m 24 #[.val (.ref a1)] [])) _
      refine XS.aloadN X0.here hx rfl (hb hby d6_24) rfl rfl ?_
      exact k)
  obtain ⟨cl4, Ac4, hl4, hb4⟩ := V1.len
  have ac5 : ∀ t, Steps p.tables e below (s₁.setTop (mkF m 48 #[.val (.ref a1)] [])) t → Steps p.tables e below (s₁.setTop (entryFrame m #[(.ref a1)] 1)) t := fun t k => ac3 t (by
      show Steps p.tables e below (s₁.setTop (mkF m 25 #[.val (.ref a1)] [(.ref a1)])) _
      refine X0.arraylength hx (by rw [e0]; exact Ac4.1) (State.isArrayOf_alike hZ.alike Ac4.2.1) (g := (mkF m 25 #[.val (.ref a1)] [(.ref a1)])) rfl rfl (hb hby d6_25) _ ?_
      rw [hl4]
      show Steps p.tables e below (s₁.setTop (mkF m 26 #[.val (.ref a1)] [(.int (Int32.ofNat 0))])) _
      refine XS.iconst X0.here hx rfl (hb hby d6_26) ?_
      show Steps p.tables e below (s₁.setTop (mkF m 27 #[.val (.ref a1)] [(.int (4 : Int32)), (.int (Int32.ofNat 0))])) _
      refine XS.icmpYes X0.here hx rfl (pc0 := 27) (pc' := 48) rfl (hb hby d6_27) rfl (tlt (by decide)).1 (by decide) (by decide) ?_
      exact k)
  obtain ⟨fs, hr, hrun, hended, hW, hsame⟩ := X0.leave (v := none) (fun _ => rfl) (BodyLoose.notSynchronized Bd)
  refine ⟨_, _, ac5 _ ?_, hrun, hended, _, _, rfl, ?_, ⟨_, rfl⟩, hW, hsame.mono (by decide) (by decide)⟩
  · show Steps p.tables e below (s₁.setTop (mkF m 48 #[.val (.ref a1)] [])) _
    exact X0.returnOut hx Bd.returns (hb hby d6_48) hr
  · show Q6_0 Z a1 f h0 n0 _ s₁.heap _
    rw [e0]
    exact ⟨rfl, N0, (Keep.refl h0 [a1]), _, V1⟩
theorem ef_rm5_2 (m : MethodId) (x0 : Addr) (x1 : Int32) (x2 : Int32) (x3 : Int32) : entryFrame m #[(.ref x0), (.int x1), (.int x2), (.int x3)] 4 = mkF m 0 #[.val (.ref x0), .val (.int x1), .val (.int x2), .val (.int x3)] [] := by first | (simp [entryFrame, mkF, argsToLocals, Value.category]; done) | rfl
def Q5_2 (Z : State) (a1 : Addr) (p2 : Int32) (p3 : Int32) (p4 : Int32) (f : Nat → Value) (h0 : Heap) (n0 : Nat) (v : Option Value) (h : Heap) (L : List Loc) : Prop := v = some (.int 1) ∧ Fr n0 L ∧ h = h0
set_option maxRecDepth 65536 in
set_option maxHeartbeats 40000000 in
theorem rm5_2 (l : Launch) (Z : State) (a0 : Array Value) (hw : ∀ d ∈ tables_1, d.before a0 Z = true) (ws : List Jvm.Cond) (a1 : Addr) (p2 : Int32) (p3 : Int32) (p4 : Int32) (f : Nat → Value) (h0 : Heap) (n0 : Nat) (Z0 : n0 ≤ h0.size) (V1 : own_Ar Z h0 a1 .byte 2 f) (h2 : p2 = 2) (v0 : f 0 = .int (p3.toInt8.toInt32)) (v1 : f 1 = .int ((p3 >>> ((8 : Int32) &&& 31)).toInt8.toInt32)) :
    MetFree l (⟨"com/example/votal/votal/log/LogRecordGetTemplateDataPinLaw", "holds", "([BIII)Z"⟩ : MethodName) (head1 (Jvm.Cond.code (⟨"com/example/votal/votal/log/LogRecordGetTemplateDataPinLaw", "holds", "([BIII)Z"⟩ : MethodName) method_2_code 4 (some .boolean) :: ws) ({ frames := 0, cells := 0, slots := 0, locals := 0 } : Room)) (fun a U => a = #[(.ref a1), (.int p2), (.int p3), (.int p4)] ∧ Z.Warmed39 U.vm ∧ U.heap = h0) (fun _ _ _ _ _ => True) (fun _ U o U' => ∃ v L, o = .returned v ∧ Q5_2 Z a1 p2 p3 p4 f h0 n0 v U'.heap L ∧ FrameEnd U o U' L ({ frames := 0, cells := 0, slots := 0, locals := 0 } : Room).cells ({ frames := 0, cells := 0, slots := 0, locals := 0 } : Room).slots) := by
  refine MetFree.of_bodySF (plainFor_of_name pn_5) hisR ?_
  intro p e s m args below meth c s₁ Bd hml0 hP hK
  obtain ⟨rfl, hZ, hh⟩ := hP
  have hx := Bd.exec
  have hby := Bd.bytes
  have hml : c.maxLocals = 4 := hml0
  have hown : s.vm.findClass "com/example/votal/votal/log/LogRecordGetTemplateDataPinLaw" = some m.cls := findClass_of_methodNamed Bd.named
  have hnm := (name_of_methodNamed Bd.named Bd.method).1
  have X0 : Stand p l e ({ frames := 0, cells := 0, slots := 0, locals := 0 } : Room) s m #[(.ref a1), (.int p2), (.int p3), (.int p4)] below meth c s₁ [] 0 0 := Stand.of_body Bd
  have e0 : s₁.heap = h0 := by rw [← hh, Bd.state]; rfl
  have N0 := Fr.nil n0
  have a0s : ∀ t, Steps p.tables e below (s₁.setTop (mkF m 0 #[.val (.ref a1), .val (.int p2), .val (.int p3), .val (.int p4)] [])) t → Steps p.tables e below (s₁.setTop (entryFrame m #[(.ref a1), (.int p2), (.int p3), (.int p4)] 4)) t := fun t k => castTop (ef_rm5_2 m a1 p2 p3 p4) k
  have ac1 : ∀ t, Steps p.tables e below (s₁.setTop (mkF m 5 #[.val (.ref a1), .val (.int p2), .val (.int p3), .val (.int p4)] [(.ref a1)])) t → Steps p.tables e below (s₁.setTop (entryFrame m #[(.ref a1), (.int p2), (.int p3), (.int p4)] 4)) t := fun t k => a0s t (by
      show Steps p.tables e below (s₁.setTop (mkF m 0 #[.val (.ref a1), .val (.int p2), .val (.int p3), .val (.int p4)] [])) _
      refine XS.aloadN X0.here hx rfl (hb hby d5_0) rfl rfl ?_
      show Steps p.tables e below (s₁.setTop (mkF m 1 #[.val (.ref a1), .val (.int p2), .val (.int p3), .val (.int p4)] [(.ref a1)])) _
      refine XS.ifnullNo X0.here hx rfl (hb hby d5_1) rfl ?_
      show Steps p.tables e below (s₁.setTop (mkF m 4 #[.val (.ref a1), .val (.int p2), .val (.int p3), .val (.int p4)] [])) _
      refine XS.aloadN X0.here hx rfl (hb hby d5_4) rfl rfl ?_
      exact k)
  obtain ⟨cl2, Ac2, hl2, hb2⟩ := V1.len
  have ac3 : ∀ t, Steps p.tables e below (s₁.setTop (mkF m 19 #[.val (.ref a1), .val (.int p2), .val (.int p3), .val (.int p4)] [(.int (0 : Int32)), (.ref a1)])) t → Steps p.tables e below (s₁.setTop (entryFrame m #[(.ref a1), (.int p2), (.int p3), (.int p4)] 4)) t := fun t k => ac1 t (by
      show Steps p.tables e below (s₁.setTop (mkF m 5 #[.val (.ref a1), .val (.int p2), .val (.int p3), .val (.int p4)] [(.ref a1)])) _
      refine X0.arraylength hx (by rw [e0]; exact Ac2.1) (State.isArrayOf_alike hZ.alike Ac2.2.1) (g := (mkF m 5 #[.val (.ref a1), .val (.int p2), .val (.int p3), .val (.int p4)] [(.ref a1)])) rfl rfl (hb hby d5_5) _ ?_
      rw [hl2]
      show Steps p.tables e below (s₁.setTop (mkF m 6 #[.val (.ref a1), .val (.int p2), .val (.int p3), .val (.int p4)] [(.int (Int32.ofNat 2))])) _
      refine XS.iloadN X0.here hx rfl (hb hby d5_6) rfl ?_
      show Steps p.tables e below (s₁.setTop (mkF m 7 #[.val (.ref a1), .val (.int p2), .val (.int p3), .val (.int p4)] [(.int p2), (.int (Int32.ofNat 2))])) _
      refine XS.icmpYes X0.here hx rfl (pc0 := 7) (pc' := 12) rfl (hb hby d5_7) rfl (teq (by rw [h2]; rfl)).1 (by decide) (by decide) ?_
      show Steps p.tables e below (s₁.setTop (mkF m 12 #[.val (.ref a1), .val (.int p2), .val (.int p3), .val (.int p4)] [])) _
      refine XS.iloadN X0.here hx rfl (hb hby d5_12) rfl ?_
      show Steps p.tables e below (s₁.setTop (mkF m 13 #[.val (.ref a1), .val (.int p2), .val (.int p3), .val (.int p4)] [(.int p2)])) _
      refine XS.iconst X0.here hx rfl (hb hby d5_13) ?_
      show Steps p.tables e below (s₁.setTop (mkF m 14 #[.val (.ref a1), .val (.int p2), .val (.int p3), .val (.int p4)] [(.int (2 : Int32)), (.int p2)])) _
      refine XS.icmpNo X0.here hx rfl (hb hby d5_14) rfl (flt (by rw [h2]; decide)).1 ?_
      show Steps p.tables e below (s₁.setTop (mkF m 17 #[.val (.ref a1), .val (.int p2), .val (.int p3), .val (.int p4)] [])) _
      refine XS.aloadN X0.here hx rfl (hb hby d5_17) rfl rfl ?_
      show Steps p.tables e below (s₁.setTop (mkF m 18 #[.val (.ref a1), .val (.int p2), .val (.int p3), .val (.int p4)] [(.ref a1)])) _
      refine XS.iconst X0.here hx rfl (hb hby d5_18) ?_
      exact k)
  obtain ⟨cl4, Ac4, hin4, hat4⟩ := V1.at (j := (0 : Int32)) (i := 0) rfl (by decide)
  have ac5 : ∀ t, Steps p.tables e below (s₁.setTop (mkF m 27 #[.val (.ref a1), .val (.int p2), .val (.int p3), .val (.int p4)] [(.int (1 : Int32)), (.ref a1)])) t → Steps p.tables e below (s₁.setTop (entryFrame m #[(.ref a1), (.int p2), (.int p3), (.int p4)] 4)) t := fun t k => ac3 t (by
      show Steps p.tables e below (s₁.setTop (mkF m 19 #[.val (.ref a1), .val (.int p2), .val (.int p3), .val (.int p4)] [(.int (0 : Int32)), (.ref a1)])) _
      refine X0.baloadBytes hx (j := (0 : Int32)) (v := (.int (p3.toInt8.toInt32))) (by rw [e0]; exact Ac4.1) (State.isArrayOf_alike hZ.alike Ac4.2.1) Ac4.2.2 hin4 (hat4.trans (congrArg some v0)) (g := (mkF m 19 #[.val (.ref a1), .val (.int p2), .val (.int p3), .val (.int p4)] [(.int (0 : Int32)), (.ref a1)])) rfl rfl (hb hby d5_19) _ ?_
      show Steps p.tables e below (s₁.setTop (mkF m 20 #[.val (.ref a1), .val (.int p2), .val (.int p3), .val (.int p4)] [(.int (p3.toInt8.toInt32))])) _
      refine XS.iloadN X0.here hx rfl (hb hby d5_20) rfl ?_
      show Steps p.tables e below (s₁.setTop (mkF m 21 #[.val (.ref a1), .val (.int p2), .val (.int p3), .val (.int p4)] [(.int p3), (.int (p3.toInt8.toInt32))])) _
      refine XS.i2b X0.here hx rfl (hb hby d5_21) rfl ?_
      show Steps p.tables e below (s₁.setTop (mkF m 22 #[.val (.ref a1), .val (.int p2), .val (.int p3), .val (.int p4)] [(.int (p3.toInt8.toInt32)), (.int (p3.toInt8.toInt32))])) _
      refine XS.icmpNo X0.here hx rfl (hb hby d5_22) rfl (teq rfl).2 ?_
      show Steps p.tables e below (s₁.setTop (mkF m 25 #[.val (.ref a1), .val (.int p2), .val (.int p3), .val (.int p4)] [])) _
      refine XS.aloadN X0.here hx rfl (hb hby d5_25) rfl rfl ?_
      show Steps p.tables e below (s₁.setTop (mkF m 26 #[.val (.ref a1), .val (.int p2), .val (.int p3), .val (.int p4)] [(.ref a1)])) _
      refine XS.iconst X0.here hx rfl (hb hby d5_26) ?_
      exact k)
  obtain ⟨cl6, Ac6, hin6, hat6⟩ := V1.at (j := (1 : Int32)) (i := 1) rfl (by decide)
  have ac7 : ∀ t, Steps p.tables e below (s₁.setTop (mkF m 65 #[.val (.ref a1), .val (.int p2), .val (.int p3), .val (.int p4)] [(.int (1 : Int32))])) t → Steps p.tables e below (s₁.setTop (entryFrame m #[(.ref a1), (.int p2), (.int p3), (.int p4)] 4)) t := fun t k => ac5 t (by
      show Steps p.tables e below (s₁.setTop (mkF m 27 #[.val (.ref a1), .val (.int p2), .val (.int p3), .val (.int p4)] [(.int (1 : Int32)), (.ref a1)])) _
      refine X0.baloadBytes hx (j := (1 : Int32)) (v := (.int ((p3 >>> ((8 : Int32) &&& 31)).toInt8.toInt32))) (by rw [e0]; exact Ac6.1) (State.isArrayOf_alike hZ.alike Ac6.2.1) Ac6.2.2 hin6 (hat6.trans (congrArg some v1)) (g := (mkF m 27 #[.val (.ref a1), .val (.int p2), .val (.int p3), .val (.int p4)] [(.int (1 : Int32)), (.ref a1)])) rfl rfl (hb hby d5_27) _ ?_
      show Steps p.tables e below (s₁.setTop (mkF m 28 #[.val (.ref a1), .val (.int p2), .val (.int p3), .val (.int p4)] [(.int ((p3 >>> ((8 : Int32) &&& 31)).toInt8.toInt32))])) _
      refine XS.iloadN X0.here hx rfl (hb hby d5_28) rfl ?_
      show Steps p.tables e below (s₁.setTop (mkF m 29 #[.val (.ref a1), .val (.int p2), .val (.int p3), .val (.int p4)] [(.int p3), (.int ((p3 >>> ((8 : Int32) &&& 31)).toInt8.toInt32))])) _
      refine XS.bipush X0.here hx rfl (hb hby d5_29) ?_
      show Steps p.tables e below (s₁.setTop (mkF m 31 #[.val (.ref a1), .val (.int p2), .val (.int p3), .val (.int p4)] [(.int (8 : Int32)), (.int p3), (.int ((p3 >>> ((8 : Int32) &&& 31)).toInt8.toInt32))])) _
      refine XS.ishr X0.here hx rfl (hb hby d5_31) rfl ?_
      show Steps p.tables e below (s₁.setTop (mkF m 32 #[.val (.ref a1), .val (.int p2), .val (.int p3), .val (.int p4)] [(.int (p3 >>> ((8 : Int32) &&& 31))), (.int ((p3 >>> ((8 : Int32) &&& 31)).toInt8.toInt32))])) _
      refine XS.i2b X0.here hx rfl (hb hby d5_32) rfl ?_
      show Steps p.tables e below (s₁.setTop (mkF m 33 #[.val (.ref a1), .val (.int p2), .val (.int p3), .val (.int p4)] [(.int ((p3 >>> ((8 : Int32) &&& 31)).toInt8.toInt32)), (.int ((p3 >>> ((8 : Int32) &&& 31)).toInt8.toInt32))])) _
      refine XS.icmpYes X0.here hx rfl (pc0 := 33) (pc' := 38) rfl (hb hby d5_33) rfl (teq rfl).1 (by decide) (by decide) ?_
      show Steps p.tables e below (s₁.setTop (mkF m 38 #[.val (.ref a1), .val (.int p2), .val (.int p3), .val (.int p4)] [])) _
      refine XS.iloadN X0.here hx rfl (hb hby d5_38) rfl ?_
      show Steps p.tables e below (s₁.setTop (mkF m 39 #[.val (.ref a1), .val (.int p2), .val (.int p3), .val (.int p4)] [(.int p2)])) _
      refine XS.iconst X0.here hx rfl (hb hby d5_39) ?_
      show Steps p.tables e below (s₁.setTop (mkF m 40 #[.val (.ref a1), .val (.int p2), .val (.int p3), .val (.int p4)] [(.int (4 : Int32)), (.int p2)])) _
      refine XS.icmpYes X0.here hx rfl (pc0 := 40) (pc' := 64) rfl (hb hby d5_40) rfl (tlt (by rw [h2]; decide)).1 (by decide) (by decide) ?_
      show Steps p.tables e below (s₁.setTop (mkF m 64 #[.val (.ref a1), .val (.int p2), .val (.int p3), .val (.int p4)] [])) _
      refine XS.iconst X0.here hx rfl (hb hby d5_64) ?_
      exact k)
  obtain ⟨fs, hr, hrun, hended, hW, hsame⟩ := X0.leave (v := some (.int (1 : Int32))) (fun h => by rw [Bd.returns] at h; cases h) (BodyLoose.notSynchronized Bd)
  refine ⟨_, _, ac7 _ ?_, hrun, hended, _, _, rfl, ?_, ⟨_, rfl⟩, hW, hsame.mono (by decide) (by decide)⟩
  · show Steps p.tables e below (s₁.setTop (mkF m 65 #[.val (.ref a1), .val (.int p2), .val (.int p3), .val (.int p4)] [(.int (1 : Int32))])) _
    exact retN X0 hx (t := .boolean) Bd.returns (by simp) (hb hby d5_65) hr
  · show Q5_2 Z a1 p2 p3 p4 f h0 n0 _ s₁.heap _
    rw [e0]
    exact ⟨rfl, N0, rfl⟩
theorem ef_rm6_2 (m : MethodId) (x0 : Addr) : entryFrame m #[(.ref x0)] 1 = mkF m 0 #[.val (.ref x0)] [] := by first | (simp [entryFrame, mkF, argsToLocals, Value.category]; done) | rfl
def Q6_2 (Z : State) (a1 : Addr) (f : Nat → Value) (x0 : Int32) (x1 : Int32) (h0 : Heap) (n0 : Nat) (v : Option Value) (h : Heap) (L : List Loc) : Prop := v = none ∧ Fr n0 L ∧ Keep h0 h [a1] ∧ ∃ f' : Nat → Value, own_Ar Z h a1 .byte 2 f'
set_option maxRecDepth 65536 in
set_option maxHeartbeats 40000000 in
theorem rm6_2 (l : Launch) (Z : State) (a0 : Array Value) (hw : ∀ d ∈ tables_1, d.before a0 Z = true) (ws : List Jvm.Cond) (a1 : Addr) (f : Nat → Value) (x0 : Int32) (x1 : Int32) (h0 : Heap) (n0 : Nat) (Z0 : n0 ≤ h0.size) (V1 : own_Ar Z h0 a1 .byte 2 f) (g_a1 : n0 ≤ a1) (v0 : f 0 = .int x0) (v1 : f 1 = .int x1) :
    MetFree l (⟨"com/example/votal/votal/log/LogRecordGetTemplateDataPinLaw", "spoil", "([B)V"⟩ : MethodName) (head1 (Jvm.Cond.code (⟨"com/example/votal/votal/log/LogRecordGetTemplateDataPinLaw", "spoil", "([B)V"⟩ : MethodName) method_3_code 1 none :: ws) ({ frames := 0, cells := 0, slots := 0, locals := 0 } : Room)) (fun a U => a = #[(.ref a1)] ∧ Z.Warmed39 U.vm ∧ U.heap = h0) (fun _ _ _ _ _ => True) (fun _ U o U' => ∃ v L, o = .returned v ∧ Q6_2 Z a1 f x0 x1 h0 n0 v U'.heap L ∧ FrameEnd U o U' L ({ frames := 0, cells := 0, slots := 0, locals := 0 } : Room).cells ({ frames := 0, cells := 0, slots := 0, locals := 0 } : Room).slots) := by
  refine MetFree.of_bodySF (plainFor_of_name pn_6) hisR ?_
  intro p e s m args below meth c s₁ Bd hml0 hP hK
  obtain ⟨rfl, hZ, hh⟩ := hP
  have hx := Bd.exec
  have hby := Bd.bytes
  have hml : c.maxLocals = 1 := hml0
  have hown : s.vm.findClass "com/example/votal/votal/log/LogRecordGetTemplateDataPinLaw" = some m.cls := findClass_of_methodNamed Bd.named
  have hnm := (name_of_methodNamed Bd.named Bd.method).1
  have X0 : Stand p l e ({ frames := 0, cells := 0, slots := 0, locals := 0 } : Room) s m #[(.ref a1)] below meth c s₁ [] 0 0 := Stand.of_body Bd
  have e0 : s₁.heap = h0 := by rw [← hh, Bd.state]; rfl
  have N0 := Fr.nil n0
  have a0s : ∀ t, Steps p.tables e below (s₁.setTop (mkF m 0 #[.val (.ref a1)] [])) t → Steps p.tables e below (s₁.setTop (entryFrame m #[(.ref a1)] 1)) t := fun t k => castTop (ef_rm6_2 m a1) k
  have ac1 : ∀ t, Steps p.tables e below (s₁.setTop (mkF m 1 #[.val (.ref a1)] [(.ref a1)])) t → Steps p.tables e below (s₁.setTop (entryFrame m #[(.ref a1)] 1)) t := fun t k => a0s t (by
      show Steps p.tables e below (s₁.setTop (mkF m 0 #[.val (.ref a1)] [])) _
      refine XS.aloadN X0.here hx rfl (hb hby d6_0) rfl rfl ?_
      exact k)
  obtain ⟨cl2, Ac2, hl2, hb2⟩ := V1.len
  have ac3 : ∀ t, Steps p.tables e below (s₁.setTop (mkF m 10 #[.val (.ref a1)] [(.int (0 : Int32)), (.ref a1), (.int (0 : Int32)), (.ref a1)])) t → Steps p.tables e below (s₁.setTop (entryFrame m #[(.ref a1)] 1)) t := fun t k => ac1 t (by
      show Steps p.tables e below (s₁.setTop (mkF m 1 #[.val (.ref a1)] [(.ref a1)])) _
      refine X0.arraylength hx (by rw [e0]; exact Ac2.1) (State.isArrayOf_alike hZ.alike Ac2.2.1) (g := (mkF m 1 #[.val (.ref a1)] [(.ref a1)])) rfl rfl (hb hby d6_1) _ ?_
      rw [hl2]
      show Steps p.tables e below (s₁.setTop (mkF m 2 #[.val (.ref a1)] [(.int (Int32.ofNat 2))])) _
      refine XS.iconst X0.here hx rfl (hb hby d6_2) ?_
      show Steps p.tables e below (s₁.setTop (mkF m 3 #[.val (.ref a1)] [(.int (2 : Int32)), (.int (Int32.ofNat 2))])) _
      refine XS.icmpNo X0.here hx rfl (hb hby d6_3) rfl (flt (by decide)).1 ?_
      show Steps p.tables e below (s₁.setTop (mkF m 6 #[.val (.ref a1)] [])) _
      refine XS.aloadN X0.here hx rfl (hb hby d6_6) rfl rfl ?_
      show Steps p.tables e below (s₁.setTop (mkF m 7 #[.val (.ref a1)] [(.ref a1)])) _
      refine XS.iconst X0.here hx rfl (hb hby d6_7) ?_
      show Steps p.tables e below (s₁.setTop (mkF m 8 #[.val (.ref a1)] [(.int (0 : Int32)), (.ref a1)])) _
      refine XS.aloadN X0.here hx rfl (hb hby d6_8) rfl rfl ?_
      show Steps p.tables e below (s₁.setTop (mkF m 9 #[.val (.ref a1)] [(.ref a1), (.int (0 : Int32)), (.ref a1)])) _
      refine XS.iconst X0.here hx rfl (hb hby d6_9) ?_
      exact k)
  obtain ⟨cl4, Ac4, hin4, hat4⟩ := V1.at (j := (0 : Int32)) (i := 0) rfl (by decide)
  have ac5 : ∀ t, Steps p.tables e below (s₁.setTop (mkF m 14 #[.val (.ref a1)] [(.int ((x0 ^^^ (-1 : Int32)).toInt8.toInt32)), (.int (0 : Int32)), (.ref a1)])) t → Steps p.tables e below (s₁.setTop (entryFrame m #[(.ref a1)] 1)) t := fun t k => ac3 t (by
      show Steps p.tables e below (s₁.setTop (mkF m 10 #[.val (.ref a1)] [(.int (0 : Int32)), (.ref a1), (.int (0 : Int32)), (.ref a1)])) _
      refine X0.baloadBytes hx (j := (0 : Int32)) (v := (.int x0)) (by rw [e0]; exact Ac4.1) (State.isArrayOf_alike hZ.alike Ac4.2.1) Ac4.2.2 hin4 (hat4.trans (congrArg some v0)) (g := (mkF m 10 #[.val (.ref a1)] [(.int (0 : Int32)), (.ref a1), (.int (0 : Int32)), (.ref a1)])) rfl rfl (hb hby d6_10) _ ?_
      show Steps p.tables e below (s₁.setTop (mkF m 11 #[.val (.ref a1)] [(.int x0), (.int (0 : Int32)), (.ref a1)])) _
      refine XS.iconst X0.here hx rfl (hb hby d6_11) ?_
      show Steps p.tables e below (s₁.setTop (mkF m 12 #[.val (.ref a1)] [(.int (-1 : Int32)), (.int x0), (.int (0 : Int32)), (.ref a1)])) _
      refine XS.ixor X0.here hx rfl (hb hby d6_12) rfl ?_
      show Steps p.tables e below (s₁.setTop (mkF m 13 #[.val (.ref a1)] [(.int (x0 ^^^ (-1 : Int32))), (.int (0 : Int32)), (.ref a1)])) _
      refine XS.i2b X0.here hx rfl (hb hby d6_13) rfl ?_
      exact k)
  obtain ⟨cl6, Ac6, hin6, -⟩ := V1.at (j := (0 : Int32)) (i := 0) rfl (by decide)
  obtain ⟨T6, h6, X6, e6, W6, st6⟩ := stB X0 hx hZ e0 Ac6 (j := (0 : Int32)) hin6 (g := (mkF m 14 #[.val (.ref a1)] [(.int ((x0 ^^^ (-1 : Int32)).toInt8.toInt32)), (.int (0 : Int32)), (.ref a1)])) rfl rfl (hb hby d6_14)
  have V6 := V1.set (i := 0) rfl W6 (fits_nar_byte _)
  have N6 := Fr.snoc X6 N0 g_a1
  have Z6 : n0 ≤ h6.size := Nat.le_trans Z0 (Keep.of_wr W6).1
  have Kp7 : Keep h0 h6 [a1] := (Keep.refl h0 [a1]).wr W6 (Or.inl (List.mem_of_getElem? (i := 0) rfl))
  have ac8 : ∀ t, Steps p.tables e below (T6.setTop (mkF m 15 #[.val (.ref a1)] [])) t → Steps p.tables e below (s₁.setTop (entryFrame m #[(.ref a1)] 1)) t := fun t k => ac5 t (st6 t k)
  have ac9 : ∀ t, Steps p.tables e below (T6.setTop (mkF m 19 #[.val (.ref a1)] [(.int (1 : Int32)), (.ref a1), (.int (1 : Int32)), (.ref a1)])) t → Steps p.tables e below (s₁.setTop (entryFrame m #[(.ref a1)] 1)) t := fun t k => ac8 t (by
      show Steps p.tables e below (T6.setTop (mkF m 15 #[.val (.ref a1)] [])) _
      refine XS.aloadN X6.here hx rfl (hb hby d6_15) rfl rfl ?_
      show Steps p.tables e below (T6.setTop (mkF m 16 #[.val (.ref a1)] [(.ref a1)])) _
      refine XS.iconst X6.here hx rfl (hb hby d6_16) ?_
      show Steps p.tables e below (T6.setTop (mkF m 17 #[.val (.ref a1)] [(.int (1 : Int32)), (.ref a1)])) _
      refine XS.aloadN X6.here hx rfl (hb hby d6_17) rfl rfl ?_
      show Steps p.tables e below (T6.setTop (mkF m 18 #[.val (.ref a1)] [(.ref a1), (.int (1 : Int32)), (.ref a1)])) _
      refine XS.iconst X6.here hx rfl (hb hby d6_18) ?_
      exact k)
  obtain ⟨cl10, Ac10, hin10, hat10⟩ := V6.at (j := (1 : Int32)) (i := 1) rfl (by decide)
  have ac11 : ∀ t, Steps p.tables e below (T6.setTop (mkF m 23 #[.val (.ref a1)] [(.int ((x1 ^^^ (-1 : Int32)).toInt8.toInt32)), (.int (1 : Int32)), (.ref a1)])) t → Steps p.tables e below (s₁.setTop (entryFrame m #[(.ref a1)] 1)) t := fun t k => ac9 t (by
      show Steps p.tables e below (T6.setTop (mkF m 19 #[.val (.ref a1)] [(.int (1 : Int32)), (.ref a1), (.int (1 : Int32)), (.ref a1)])) _
      refine X6.baloadBytes hx (j := (1 : Int32)) (v := (.int x1)) (by rw [e6]; exact Ac10.1) (State.isArrayOf_alike hZ.alike Ac10.2.1) Ac10.2.2 hin10 (hat10.trans (congrArg some v1)) (g := (mkF m 19 #[.val (.ref a1)] [(.int (1 : Int32)), (.ref a1), (.int (1 : Int32)), (.ref a1)])) rfl rfl (hb hby d6_19) _ ?_
      show Steps p.tables e below (T6.setTop (mkF m 20 #[.val (.ref a1)] [(.int x1), (.int (1 : Int32)), (.ref a1)])) _
      refine XS.iconst X6.here hx rfl (hb hby d6_20) ?_
      show Steps p.tables e below (T6.setTop (mkF m 21 #[.val (.ref a1)] [(.int (-1 : Int32)), (.int x1), (.int (1 : Int32)), (.ref a1)])) _
      refine XS.ixor X6.here hx rfl (hb hby d6_21) rfl ?_
      show Steps p.tables e below (T6.setTop (mkF m 22 #[.val (.ref a1)] [(.int (x1 ^^^ (-1 : Int32))), (.int (1 : Int32)), (.ref a1)])) _
      refine XS.i2b X6.here hx rfl (hb hby d6_22) rfl ?_
      exact k)
  obtain ⟨cl12, Ac12, hin12, -⟩ := V6.at (j := (1 : Int32)) (i := 1) rfl (by decide)
  obtain ⟨T12, h12, X12, e12, W12, st12⟩ := stB X6 hx hZ e6 Ac12 (j := (1 : Int32)) hin12 (g := (mkF m 23 #[.val (.ref a1)] [(.int ((x1 ^^^ (-1 : Int32)).toInt8.toInt32)), (.int (1 : Int32)), (.ref a1)])) rfl rfl (hb hby d6_23)
  have V12 := V6.set (i := 1) rfl W12 (fits_nar_byte _)
  have N12 := Fr.snoc X12 N6 g_a1
  have Z12 : n0 ≤ h12.size := Nat.le_trans Z6 (Keep.of_wr W12).1
  have Kp13 : Keep h0 h12 [a1] := Kp7.wr W12 (Or.inl (List.mem_of_getElem? (i := 0) rfl))
  have ac14 : ∀ t, Steps p.tables e below (T12.setTop (mkF m 24 #[.val (.ref a1)] [])) t → Steps p.tables e below (s₁.setTop (entryFrame m #[(.ref a1)] 1)) t := fun t k => ac11 t (st12 t k)
  have ac15 : ∀ t, Steps p.tables e below (T12.setTop (mkF m 25 #[.val (.ref a1)] [(.ref a1)])) t → Steps p.tables e below (s₁.setTop (entryFrame m #[(.ref a1)] 1)) t := fun t k => ac14 t (by
      show Steps p.tables e below (T12.setTop (mkF m 24 #[.val (.ref a1)] [])) _
      refine XS.aloadN X12.here hx rfl (hb hby d6_24) rfl rfl ?_
      exact k)
  obtain ⟨cl16, Ac16, hl16, hb16⟩ := V12.len
  have ac17 : ∀ t, Steps p.tables e below (T12.setTop (mkF m 48 #[.val (.ref a1)] [])) t → Steps p.tables e below (s₁.setTop (entryFrame m #[(.ref a1)] 1)) t := fun t k => ac15 t (by
      show Steps p.tables e below (T12.setTop (mkF m 25 #[.val (.ref a1)] [(.ref a1)])) _
      refine X12.arraylength hx (by rw [e12]; exact Ac16.1) (State.isArrayOf_alike hZ.alike Ac16.2.1) (g := (mkF m 25 #[.val (.ref a1)] [(.ref a1)])) rfl rfl (hb hby d6_25) _ ?_
      rw [hl16]
      show Steps p.tables e below (T12.setTop (mkF m 26 #[.val (.ref a1)] [(.int (Int32.ofNat 2))])) _
      refine XS.iconst X12.here hx rfl (hb hby d6_26) ?_
      show Steps p.tables e below (T12.setTop (mkF m 27 #[.val (.ref a1)] [(.int (4 : Int32)), (.int (Int32.ofNat 2))])) _
      refine XS.icmpYes X12.here hx rfl (pc0 := 27) (pc' := 48) rfl (hb hby d6_27) rfl (tlt (by decide)).1 (by decide) (by decide) ?_
      exact k)
  obtain ⟨fs, hr, hrun, hended, hW, hsame⟩ := X12.leave (v := none) (fun _ => rfl) (BodyLoose.notSynchronized Bd)
  refine ⟨_, _, ac17 _ ?_, hrun, hended, _, _, rfl, ?_, ⟨_, rfl⟩, hW, hsame.mono (by decide) (by decide)⟩
  · show Steps p.tables e below (T12.setTop (mkF m 48 #[.val (.ref a1)] [])) _
    exact X12.returnOut hx Bd.returns (hb hby d6_48) hr
  · show Q6_2 Z a1 f x0 x1 h0 n0 _ T12.heap _
    rw [e12]
    exact ⟨rfl, N12, Kp13, _, V12⟩
theorem ef_rm5_4 (m : MethodId) (x0 : Addr) (x1 : Int32) (x2 : Int32) (x3 : Int32) : entryFrame m #[(.ref x0), (.int x1), (.int x2), (.int x3)] 4 = mkF m 0 #[.val (.ref x0), .val (.int x1), .val (.int x2), .val (.int x3)] [] := by first | (simp [entryFrame, mkF, argsToLocals, Value.category]; done) | rfl
def Q5_4 (Z : State) (a1 : Addr) (p2 : Int32) (p3 : Int32) (p4 : Int32) (f : Nat → Value) (h0 : Heap) (n0 : Nat) (v : Option Value) (h : Heap) (L : List Loc) : Prop := v = some (.int 1) ∧ Fr n0 L ∧ h = h0
set_option maxRecDepth 65536 in
set_option maxHeartbeats 40000000 in
theorem rm5_4 (l : Launch) (Z : State) (a0 : Array Value) (hw : ∀ d ∈ tables_1, d.before a0 Z = true) (ws : List Jvm.Cond) (a1 : Addr) (p2 : Int32) (p3 : Int32) (p4 : Int32) (f : Nat → Value) (h0 : Heap) (n0 : Nat) (Z0 : n0 ≤ h0.size) (V1 : own_Ar Z h0 a1 .byte 4 f) (h2 : p2 = 4) (v0 : f 0 = .int (p3.toInt8.toInt32)) (v1 : f 1 = .int ((p3 >>> ((8 : Int32) &&& 31)).toInt8.toInt32)) (v2 : f 2 = .int (p4.toInt8.toInt32)) (v3 : f 3 = .int ((p4 >>> ((8 : Int32) &&& 31)).toInt8.toInt32)) :
    MetFree l (⟨"com/example/votal/votal/log/LogRecordGetTemplateDataPinLaw", "holds", "([BIII)Z"⟩ : MethodName) (head1 (Jvm.Cond.code (⟨"com/example/votal/votal/log/LogRecordGetTemplateDataPinLaw", "holds", "([BIII)Z"⟩ : MethodName) method_2_code 4 (some .boolean) :: ws) ({ frames := 0, cells := 0, slots := 0, locals := 0 } : Room)) (fun a U => a = #[(.ref a1), (.int p2), (.int p3), (.int p4)] ∧ Z.Warmed39 U.vm ∧ U.heap = h0) (fun _ _ _ _ _ => True) (fun _ U o U' => ∃ v L, o = .returned v ∧ Q5_4 Z a1 p2 p3 p4 f h0 n0 v U'.heap L ∧ FrameEnd U o U' L ({ frames := 0, cells := 0, slots := 0, locals := 0 } : Room).cells ({ frames := 0, cells := 0, slots := 0, locals := 0 } : Room).slots) := by
  refine MetFree.of_bodySF (plainFor_of_name pn_5) hisR ?_
  intro p e s m args below meth c s₁ Bd hml0 hP hK
  obtain ⟨rfl, hZ, hh⟩ := hP
  have hx := Bd.exec
  have hby := Bd.bytes
  have hml : c.maxLocals = 4 := hml0
  have hown : s.vm.findClass "com/example/votal/votal/log/LogRecordGetTemplateDataPinLaw" = some m.cls := findClass_of_methodNamed Bd.named
  have hnm := (name_of_methodNamed Bd.named Bd.method).1
  have X0 : Stand p l e ({ frames := 0, cells := 0, slots := 0, locals := 0 } : Room) s m #[(.ref a1), (.int p2), (.int p3), (.int p4)] below meth c s₁ [] 0 0 := Stand.of_body Bd
  have e0 : s₁.heap = h0 := by rw [← hh, Bd.state]; rfl
  have N0 := Fr.nil n0
  have a0s : ∀ t, Steps p.tables e below (s₁.setTop (mkF m 0 #[.val (.ref a1), .val (.int p2), .val (.int p3), .val (.int p4)] [])) t → Steps p.tables e below (s₁.setTop (entryFrame m #[(.ref a1), (.int p2), (.int p3), (.int p4)] 4)) t := fun t k => castTop (ef_rm5_4 m a1 p2 p3 p4) k
  have ac1 : ∀ t, Steps p.tables e below (s₁.setTop (mkF m 5 #[.val (.ref a1), .val (.int p2), .val (.int p3), .val (.int p4)] [(.ref a1)])) t → Steps p.tables e below (s₁.setTop (entryFrame m #[(.ref a1), (.int p2), (.int p3), (.int p4)] 4)) t := fun t k => a0s t (by
      show Steps p.tables e below (s₁.setTop (mkF m 0 #[.val (.ref a1), .val (.int p2), .val (.int p3), .val (.int p4)] [])) _
      refine XS.aloadN X0.here hx rfl (hb hby d5_0) rfl rfl ?_
      show Steps p.tables e below (s₁.setTop (mkF m 1 #[.val (.ref a1), .val (.int p2), .val (.int p3), .val (.int p4)] [(.ref a1)])) _
      refine XS.ifnullNo X0.here hx rfl (hb hby d5_1) rfl ?_
      show Steps p.tables e below (s₁.setTop (mkF m 4 #[.val (.ref a1), .val (.int p2), .val (.int p3), .val (.int p4)] [])) _
      refine XS.aloadN X0.here hx rfl (hb hby d5_4) rfl rfl ?_
      exact k)
  obtain ⟨cl2, Ac2, hl2, hb2⟩ := V1.len
  have ac3 : ∀ t, Steps p.tables e below (s₁.setTop (mkF m 19 #[.val (.ref a1), .val (.int p2), .val (.int p3), .val (.int p4)] [(.int (0 : Int32)), (.ref a1)])) t → Steps p.tables e below (s₁.setTop (entryFrame m #[(.ref a1), (.int p2), (.int p3), (.int p4)] 4)) t := fun t k => ac1 t (by
      show Steps p.tables e below (s₁.setTop (mkF m 5 #[.val (.ref a1), .val (.int p2), .val (.int p3), .val (.int p4)] [(.ref a1)])) _
      refine X0.arraylength hx (by rw [e0]; exact Ac2.1) (State.isArrayOf_alike hZ.alike Ac2.2.1) (g := (mkF m 5 #[.val (.ref a1), .val (.int p2), .val (.int p3), .val (.int p4)] [(.ref a1)])) rfl rfl (hb hby d5_5) _ ?_
      rw [hl2]
      show Steps p.tables e below (s₁.setTop (mkF m 6 #[.val (.ref a1), .val (.int p2), .val (.int p3), .val (.int p4)] [(.int (Int32.ofNat 4))])) _
      refine XS.iloadN X0.here hx rfl (hb hby d5_6) rfl ?_
      show Steps p.tables e below (s₁.setTop (mkF m 7 #[.val (.ref a1), .val (.int p2), .val (.int p3), .val (.int p4)] [(.int p2), (.int (Int32.ofNat 4))])) _
      refine XS.icmpYes X0.here hx rfl (pc0 := 7) (pc' := 12) rfl (hb hby d5_7) rfl (teq (by rw [h2]; rfl)).1 (by decide) (by decide) ?_
      show Steps p.tables e below (s₁.setTop (mkF m 12 #[.val (.ref a1), .val (.int p2), .val (.int p3), .val (.int p4)] [])) _
      refine XS.iloadN X0.here hx rfl (hb hby d5_12) rfl ?_
      show Steps p.tables e below (s₁.setTop (mkF m 13 #[.val (.ref a1), .val (.int p2), .val (.int p3), .val (.int p4)] [(.int p2)])) _
      refine XS.iconst X0.here hx rfl (hb hby d5_13) ?_
      show Steps p.tables e below (s₁.setTop (mkF m 14 #[.val (.ref a1), .val (.int p2), .val (.int p3), .val (.int p4)] [(.int (2 : Int32)), (.int p2)])) _
      refine XS.icmpNo X0.here hx rfl (hb hby d5_14) rfl (flt (by rw [h2]; decide)).1 ?_
      show Steps p.tables e below (s₁.setTop (mkF m 17 #[.val (.ref a1), .val (.int p2), .val (.int p3), .val (.int p4)] [])) _
      refine XS.aloadN X0.here hx rfl (hb hby d5_17) rfl rfl ?_
      show Steps p.tables e below (s₁.setTop (mkF m 18 #[.val (.ref a1), .val (.int p2), .val (.int p3), .val (.int p4)] [(.ref a1)])) _
      refine XS.iconst X0.here hx rfl (hb hby d5_18) ?_
      exact k)
  obtain ⟨cl4, Ac4, hin4, hat4⟩ := V1.at (j := (0 : Int32)) (i := 0) rfl (by decide)
  have ac5 : ∀ t, Steps p.tables e below (s₁.setTop (mkF m 27 #[.val (.ref a1), .val (.int p2), .val (.int p3), .val (.int p4)] [(.int (1 : Int32)), (.ref a1)])) t → Steps p.tables e below (s₁.setTop (entryFrame m #[(.ref a1), (.int p2), (.int p3), (.int p4)] 4)) t := fun t k => ac3 t (by
      show Steps p.tables e below (s₁.setTop (mkF m 19 #[.val (.ref a1), .val (.int p2), .val (.int p3), .val (.int p4)] [(.int (0 : Int32)), (.ref a1)])) _
      refine X0.baloadBytes hx (j := (0 : Int32)) (v := (.int (p3.toInt8.toInt32))) (by rw [e0]; exact Ac4.1) (State.isArrayOf_alike hZ.alike Ac4.2.1) Ac4.2.2 hin4 (hat4.trans (congrArg some v0)) (g := (mkF m 19 #[.val (.ref a1), .val (.int p2), .val (.int p3), .val (.int p4)] [(.int (0 : Int32)), (.ref a1)])) rfl rfl (hb hby d5_19) _ ?_
      show Steps p.tables e below (s₁.setTop (mkF m 20 #[.val (.ref a1), .val (.int p2), .val (.int p3), .val (.int p4)] [(.int (p3.toInt8.toInt32))])) _
      refine XS.iloadN X0.here hx rfl (hb hby d5_20) rfl ?_
      show Steps p.tables e below (s₁.setTop (mkF m 21 #[.val (.ref a1), .val (.int p2), .val (.int p3), .val (.int p4)] [(.int p3), (.int (p3.toInt8.toInt32))])) _
      refine XS.i2b X0.here hx rfl (hb hby d5_21) rfl ?_
      show Steps p.tables e below (s₁.setTop (mkF m 22 #[.val (.ref a1), .val (.int p2), .val (.int p3), .val (.int p4)] [(.int (p3.toInt8.toInt32)), (.int (p3.toInt8.toInt32))])) _
      refine XS.icmpNo X0.here hx rfl (hb hby d5_22) rfl (teq rfl).2 ?_
      show Steps p.tables e below (s₁.setTop (mkF m 25 #[.val (.ref a1), .val (.int p2), .val (.int p3), .val (.int p4)] [])) _
      refine XS.aloadN X0.here hx rfl (hb hby d5_25) rfl rfl ?_
      show Steps p.tables e below (s₁.setTop (mkF m 26 #[.val (.ref a1), .val (.int p2), .val (.int p3), .val (.int p4)] [(.ref a1)])) _
      refine XS.iconst X0.here hx rfl (hb hby d5_26) ?_
      exact k)
  obtain ⟨cl6, Ac6, hin6, hat6⟩ := V1.at (j := (1 : Int32)) (i := 1) rfl (by decide)
  have ac7 : ∀ t, Steps p.tables e below (s₁.setTop (mkF m 45 #[.val (.ref a1), .val (.int p2), .val (.int p3), .val (.int p4)] [(.int (2 : Int32)), (.ref a1)])) t → Steps p.tables e below (s₁.setTop (entryFrame m #[(.ref a1), (.int p2), (.int p3), (.int p4)] 4)) t := fun t k => ac5 t (by
      show Steps p.tables e below (s₁.setTop (mkF m 27 #[.val (.ref a1), .val (.int p2), .val (.int p3), .val (.int p4)] [(.int (1 : Int32)), (.ref a1)])) _
      refine X0.baloadBytes hx (j := (1 : Int32)) (v := (.int ((p3 >>> ((8 : Int32) &&& 31)).toInt8.toInt32))) (by rw [e0]; exact Ac6.1) (State.isArrayOf_alike hZ.alike Ac6.2.1) Ac6.2.2 hin6 (hat6.trans (congrArg some v1)) (g := (mkF m 27 #[.val (.ref a1), .val (.int p2), .val (.int p3), .val (.int p4)] [(.int (1 : Int32)), (.ref a1)])) rfl rfl (hb hby d5_27) _ ?_
      show Steps p.tables e below (s₁.setTop (mkF m 28 #[.val (.ref a1), .val (.int p2), .val (.int p3), .val (.int p4)] [(.int ((p3 >>> ((8 : Int32) &&& 31)).toInt8.toInt32))])) _
      refine XS.iloadN X0.here hx rfl (hb hby d5_28) rfl ?_
      show Steps p.tables e below (s₁.setTop (mkF m 29 #[.val (.ref a1), .val (.int p2), .val (.int p3), .val (.int p4)] [(.int p3), (.int ((p3 >>> ((8 : Int32) &&& 31)).toInt8.toInt32))])) _
      refine XS.bipush X0.here hx rfl (hb hby d5_29) ?_
      show Steps p.tables e below (s₁.setTop (mkF m 31 #[.val (.ref a1), .val (.int p2), .val (.int p3), .val (.int p4)] [(.int (8 : Int32)), (.int p3), (.int ((p3 >>> ((8 : Int32) &&& 31)).toInt8.toInt32))])) _
      refine XS.ishr X0.here hx rfl (hb hby d5_31) rfl ?_
      show Steps p.tables e below (s₁.setTop (mkF m 32 #[.val (.ref a1), .val (.int p2), .val (.int p3), .val (.int p4)] [(.int (p3 >>> ((8 : Int32) &&& 31))), (.int ((p3 >>> ((8 : Int32) &&& 31)).toInt8.toInt32))])) _
      refine XS.i2b X0.here hx rfl (hb hby d5_32) rfl ?_
      show Steps p.tables e below (s₁.setTop (mkF m 33 #[.val (.ref a1), .val (.int p2), .val (.int p3), .val (.int p4)] [(.int ((p3 >>> ((8 : Int32) &&& 31)).toInt8.toInt32)), (.int ((p3 >>> ((8 : Int32) &&& 31)).toInt8.toInt32))])) _
      refine XS.icmpYes X0.here hx rfl (pc0 := 33) (pc' := 38) rfl (hb hby d5_33) rfl (teq rfl).1 (by decide) (by decide) ?_
      show Steps p.tables e below (s₁.setTop (mkF m 38 #[.val (.ref a1), .val (.int p2), .val (.int p3), .val (.int p4)] [])) _
      refine XS.iloadN X0.here hx rfl (hb hby d5_38) rfl ?_
      show Steps p.tables e below (s₁.setTop (mkF m 39 #[.val (.ref a1), .val (.int p2), .val (.int p3), .val (.int p4)] [(.int p2)])) _
      refine XS.iconst X0.here hx rfl (hb hby d5_39) ?_
      show Steps p.tables e below (s₁.setTop (mkF m 40 #[.val (.ref a1), .val (.int p2), .val (.int p3), .val (.int p4)] [(.int (4 : Int32)), (.int p2)])) _
      refine XS.icmpNo X0.here hx rfl (hb hby d5_40) rfl (flt (by rw [h2]; decide)).1 ?_
      show Steps p.tables e below (s₁.setTop (mkF m 43 #[.val (.ref a1), .val (.int p2), .val (.int p3), .val (.int p4)] [])) _
      refine XS.aloadN X0.here hx rfl (hb hby d5_43) rfl rfl ?_
      show Steps p.tables e below (s₁.setTop (mkF m 44 #[.val (.ref a1), .val (.int p2), .val (.int p3), .val (.int p4)] [(.ref a1)])) _
      refine XS.iconst X0.here hx rfl (hb hby d5_44) ?_
      exact k)
  obtain ⟨cl8, Ac8, hin8, hat8⟩ := V1.at (j := (2 : Int32)) (i := 2) rfl (by decide)
  have ac9 : ∀ t, Steps p.tables e below (s₁.setTop (mkF m 53 #[.val (.ref a1), .val (.int p2), .val (.int p3), .val (.int p4)] [(.int (3 : Int32)), (.ref a1)])) t → Steps p.tables e below (s₁.setTop (entryFrame m #[(.ref a1), (.int p2), (.int p3), (.int p4)] 4)) t := fun t k => ac7 t (by
      show Steps p.tables e below (s₁.setTop (mkF m 45 #[.val (.ref a1), .val (.int p2), .val (.int p3), .val (.int p4)] [(.int (2 : Int32)), (.ref a1)])) _
      refine X0.baloadBytes hx (j := (2 : Int32)) (v := (.int (p4.toInt8.toInt32))) (by rw [e0]; exact Ac8.1) (State.isArrayOf_alike hZ.alike Ac8.2.1) Ac8.2.2 hin8 (hat8.trans (congrArg some v2)) (g := (mkF m 45 #[.val (.ref a1), .val (.int p2), .val (.int p3), .val (.int p4)] [(.int (2 : Int32)), (.ref a1)])) rfl rfl (hb hby d5_45) _ ?_
      show Steps p.tables e below (s₁.setTop (mkF m 46 #[.val (.ref a1), .val (.int p2), .val (.int p3), .val (.int p4)] [(.int (p4.toInt8.toInt32))])) _
      refine XS.iloadN X0.here hx rfl (hb hby d5_46) rfl ?_
      show Steps p.tables e below (s₁.setTop (mkF m 47 #[.val (.ref a1), .val (.int p2), .val (.int p3), .val (.int p4)] [(.int p4), (.int (p4.toInt8.toInt32))])) _
      refine XS.i2b X0.here hx rfl (hb hby d5_47) rfl ?_
      show Steps p.tables e below (s₁.setTop (mkF m 48 #[.val (.ref a1), .val (.int p2), .val (.int p3), .val (.int p4)] [(.int (p4.toInt8.toInt32)), (.int (p4.toInt8.toInt32))])) _
      refine XS.icmpNo X0.here hx rfl (hb hby d5_48) rfl (teq rfl).2 ?_
      show Steps p.tables e below (s₁.setTop (mkF m 51 #[.val (.ref a1), .val (.int p2), .val (.int p3), .val (.int p4)] [])) _
      refine XS.aloadN X0.here hx rfl (hb hby d5_51) rfl rfl ?_
      show Steps p.tables e below (s₁.setTop (mkF m 52 #[.val (.ref a1), .val (.int p2), .val (.int p3), .val (.int p4)] [(.ref a1)])) _
      refine XS.iconst X0.here hx rfl (hb hby d5_52) ?_
      exact k)
  obtain ⟨cl10, Ac10, hin10, hat10⟩ := V1.at (j := (3 : Int32)) (i := 3) rfl (by decide)
  have ac11 : ∀ t, Steps p.tables e below (s₁.setTop (mkF m 65 #[.val (.ref a1), .val (.int p2), .val (.int p3), .val (.int p4)] [(.int (1 : Int32))])) t → Steps p.tables e below (s₁.setTop (entryFrame m #[(.ref a1), (.int p2), (.int p3), (.int p4)] 4)) t := fun t k => ac9 t (by
      show Steps p.tables e below (s₁.setTop (mkF m 53 #[.val (.ref a1), .val (.int p2), .val (.int p3), .val (.int p4)] [(.int (3 : Int32)), (.ref a1)])) _
      refine X0.baloadBytes hx (j := (3 : Int32)) (v := (.int ((p4 >>> ((8 : Int32) &&& 31)).toInt8.toInt32))) (by rw [e0]; exact Ac10.1) (State.isArrayOf_alike hZ.alike Ac10.2.1) Ac10.2.2 hin10 (hat10.trans (congrArg some v3)) (g := (mkF m 53 #[.val (.ref a1), .val (.int p2), .val (.int p3), .val (.int p4)] [(.int (3 : Int32)), (.ref a1)])) rfl rfl (hb hby d5_53) _ ?_
      show Steps p.tables e below (s₁.setTop (mkF m 54 #[.val (.ref a1), .val (.int p2), .val (.int p3), .val (.int p4)] [(.int ((p4 >>> ((8 : Int32) &&& 31)).toInt8.toInt32))])) _
      refine XS.iloadN X0.here hx rfl (hb hby d5_54) rfl ?_
      show Steps p.tables e below (s₁.setTop (mkF m 55 #[.val (.ref a1), .val (.int p2), .val (.int p3), .val (.int p4)] [(.int p4), (.int ((p4 >>> ((8 : Int32) &&& 31)).toInt8.toInt32))])) _
      refine XS.bipush X0.here hx rfl (hb hby d5_55) ?_
      show Steps p.tables e below (s₁.setTop (mkF m 57 #[.val (.ref a1), .val (.int p2), .val (.int p3), .val (.int p4)] [(.int (8 : Int32)), (.int p4), (.int ((p4 >>> ((8 : Int32) &&& 31)).toInt8.toInt32))])) _
      refine XS.ishr X0.here hx rfl (hb hby d5_57) rfl ?_
      show Steps p.tables e below (s₁.setTop (mkF m 58 #[.val (.ref a1), .val (.int p2), .val (.int p3), .val (.int p4)] [(.int (p4 >>> ((8 : Int32) &&& 31))), (.int ((p4 >>> ((8 : Int32) &&& 31)).toInt8.toInt32))])) _
      refine XS.i2b X0.here hx rfl (hb hby d5_58) rfl ?_
      show Steps p.tables e below (s₁.setTop (mkF m 59 #[.val (.ref a1), .val (.int p2), .val (.int p3), .val (.int p4)] [(.int ((p4 >>> ((8 : Int32) &&& 31)).toInt8.toInt32)), (.int ((p4 >>> ((8 : Int32) &&& 31)).toInt8.toInt32))])) _
      refine XS.icmpYes X0.here hx rfl (pc0 := 59) (pc' := 64) rfl (hb hby d5_59) rfl (teq rfl).1 (by decide) (by decide) ?_
      show Steps p.tables e below (s₁.setTop (mkF m 64 #[.val (.ref a1), .val (.int p2), .val (.int p3), .val (.int p4)] [])) _
      refine XS.iconst X0.here hx rfl (hb hby d5_64) ?_
      exact k)
  obtain ⟨fs, hr, hrun, hended, hW, hsame⟩ := X0.leave (v := some (.int (1 : Int32))) (fun h => by rw [Bd.returns] at h; cases h) (BodyLoose.notSynchronized Bd)
  refine ⟨_, _, ac11 _ ?_, hrun, hended, _, _, rfl, ?_, ⟨_, rfl⟩, hW, hsame.mono (by decide) (by decide)⟩
  · show Steps p.tables e below (s₁.setTop (mkF m 65 #[.val (.ref a1), .val (.int p2), .val (.int p3), .val (.int p4)] [(.int (1 : Int32))])) _
    exact retN X0 hx (t := .boolean) Bd.returns (by simp) (hb hby d5_65) hr
  · show Q5_4 Z a1 p2 p3 p4 f h0 n0 _ s₁.heap _
    rw [e0]
    exact ⟨rfl, N0, rfl⟩
theorem ef_rm6_4 (m : MethodId) (x0 : Addr) : entryFrame m #[(.ref x0)] 1 = mkF m 0 #[.val (.ref x0)] [] := by first | (simp [entryFrame, mkF, argsToLocals, Value.category]; done) | rfl
def Q6_4 (Z : State) (a1 : Addr) (f : Nat → Value) (x0 : Int32) (x1 : Int32) (x2 : Int32) (x3 : Int32) (h0 : Heap) (n0 : Nat) (v : Option Value) (h : Heap) (L : List Loc) : Prop := v = none ∧ Fr n0 L ∧ Keep h0 h [a1] ∧ ∃ f' : Nat → Value, own_Ar Z h a1 .byte 4 f'
set_option maxRecDepth 65536 in
set_option maxHeartbeats 40000000 in
theorem rm6_4 (l : Launch) (Z : State) (a0 : Array Value) (hw : ∀ d ∈ tables_1, d.before a0 Z = true) (ws : List Jvm.Cond) (a1 : Addr) (f : Nat → Value) (x0 : Int32) (x1 : Int32) (x2 : Int32) (x3 : Int32) (h0 : Heap) (n0 : Nat) (Z0 : n0 ≤ h0.size) (V1 : own_Ar Z h0 a1 .byte 4 f) (g_a1 : n0 ≤ a1) (v0 : f 0 = .int x0) (v1 : f 1 = .int x1) (v2 : f 2 = .int x2) (v3 : f 3 = .int x3) :
    MetFree l (⟨"com/example/votal/votal/log/LogRecordGetTemplateDataPinLaw", "spoil", "([B)V"⟩ : MethodName) (head1 (Jvm.Cond.code (⟨"com/example/votal/votal/log/LogRecordGetTemplateDataPinLaw", "spoil", "([B)V"⟩ : MethodName) method_3_code 1 none :: ws) ({ frames := 0, cells := 0, slots := 0, locals := 0 } : Room)) (fun a U => a = #[(.ref a1)] ∧ Z.Warmed39 U.vm ∧ U.heap = h0) (fun _ _ _ _ _ => True) (fun _ U o U' => ∃ v L, o = .returned v ∧ Q6_4 Z a1 f x0 x1 x2 x3 h0 n0 v U'.heap L ∧ FrameEnd U o U' L ({ frames := 0, cells := 0, slots := 0, locals := 0 } : Room).cells ({ frames := 0, cells := 0, slots := 0, locals := 0 } : Room).slots) := by
  refine MetFree.of_bodySF (plainFor_of_name pn_6) hisR ?_
  intro p e s m args below meth c s₁ Bd hml0 hP hK
  obtain ⟨rfl, hZ, hh⟩ := hP
  have hx := Bd.exec
  have hby := Bd.bytes
  have hml : c.maxLocals = 1 := hml0
  have hown : s.vm.findClass "com/example/votal/votal/log/LogRecordGetTemplateDataPinLaw" = some m.cls := findClass_of_methodNamed Bd.named
  have hnm := (name_of_methodNamed Bd.named Bd.method).1
  have X0 : Stand p l e ({ frames := 0, cells := 0, slots := 0, locals := 0 } : Room) s m #[(.ref a1)] below meth c s₁ [] 0 0 := Stand.of_body Bd
  have e0 : s₁.heap = h0 := by rw [← hh, Bd.state]; rfl
  have N0 := Fr.nil n0
  have a0s : ∀ t, Steps p.tables e below (s₁.setTop (mkF m 0 #[.val (.ref a1)] [])) t → Steps p.tables e below (s₁.setTop (entryFrame m #[(.ref a1)] 1)) t := fun t k => castTop (ef_rm6_4 m a1) k
  have ac1 : ∀ t, Steps p.tables e below (s₁.setTop (mkF m 1 #[.val (.ref a1)] [(.ref a1)])) t → Steps p.tables e below (s₁.setTop (entryFrame m #[(.ref a1)] 1)) t := fun t k => a0s t (by
      show Steps p.tables e below (s₁.setTop (mkF m 0 #[.val (.ref a1)] [])) _
      refine XS.aloadN X0.here hx rfl (hb hby d6_0) rfl rfl ?_
      exact k)
  obtain ⟨cl2, Ac2, hl2, hb2⟩ := V1.len
  have ac3 : ∀ t, Steps p.tables e below (s₁.setTop (mkF m 10 #[.val (.ref a1)] [(.int (0 : Int32)), (.ref a1), (.int (0 : Int32)), (.ref a1)])) t → Steps p.tables e below (s₁.setTop (entryFrame m #[(.ref a1)] 1)) t := fun t k => ac1 t (by
      show Steps p.tables e below (s₁.setTop (mkF m 1 #[.val (.ref a1)] [(.ref a1)])) _
      refine X0.arraylength hx (by rw [e0]; exact Ac2.1) (State.isArrayOf_alike hZ.alike Ac2.2.1) (g := (mkF m 1 #[.val (.ref a1)] [(.ref a1)])) rfl rfl (hb hby d6_1) _ ?_
      rw [hl2]
      show Steps p.tables e below (s₁.setTop (mkF m 2 #[.val (.ref a1)] [(.int (Int32.ofNat 4))])) _
      refine XS.iconst X0.here hx rfl (hb hby d6_2) ?_
      show Steps p.tables e below (s₁.setTop (mkF m 3 #[.val (.ref a1)] [(.int (2 : Int32)), (.int (Int32.ofNat 4))])) _
      refine XS.icmpNo X0.here hx rfl (hb hby d6_3) rfl (flt (by decide)).1 ?_
      show Steps p.tables e below (s₁.setTop (mkF m 6 #[.val (.ref a1)] [])) _
      refine XS.aloadN X0.here hx rfl (hb hby d6_6) rfl rfl ?_
      show Steps p.tables e below (s₁.setTop (mkF m 7 #[.val (.ref a1)] [(.ref a1)])) _
      refine XS.iconst X0.here hx rfl (hb hby d6_7) ?_
      show Steps p.tables e below (s₁.setTop (mkF m 8 #[.val (.ref a1)] [(.int (0 : Int32)), (.ref a1)])) _
      refine XS.aloadN X0.here hx rfl (hb hby d6_8) rfl rfl ?_
      show Steps p.tables e below (s₁.setTop (mkF m 9 #[.val (.ref a1)] [(.ref a1), (.int (0 : Int32)), (.ref a1)])) _
      refine XS.iconst X0.here hx rfl (hb hby d6_9) ?_
      exact k)
  obtain ⟨cl4, Ac4, hin4, hat4⟩ := V1.at (j := (0 : Int32)) (i := 0) rfl (by decide)
  have ac5 : ∀ t, Steps p.tables e below (s₁.setTop (mkF m 14 #[.val (.ref a1)] [(.int ((x0 ^^^ (-1 : Int32)).toInt8.toInt32)), (.int (0 : Int32)), (.ref a1)])) t → Steps p.tables e below (s₁.setTop (entryFrame m #[(.ref a1)] 1)) t := fun t k => ac3 t (by
      show Steps p.tables e below (s₁.setTop (mkF m 10 #[.val (.ref a1)] [(.int (0 : Int32)), (.ref a1), (.int (0 : Int32)), (.ref a1)])) _
      refine X0.baloadBytes hx (j := (0 : Int32)) (v := (.int x0)) (by rw [e0]; exact Ac4.1) (State.isArrayOf_alike hZ.alike Ac4.2.1) Ac4.2.2 hin4 (hat4.trans (congrArg some v0)) (g := (mkF m 10 #[.val (.ref a1)] [(.int (0 : Int32)), (.ref a1), (.int (0 : Int32)), (.ref a1)])) rfl rfl (hb hby d6_10) _ ?_
      show Steps p.tables e below (s₁.setTop (mkF m 11 #[.val (.ref a1)] [(.int x0), (.int (0 : Int32)), (.ref a1)])) _
      refine XS.iconst X0.here hx rfl (hb hby d6_11) ?_
      show Steps p.tables e below (s₁.setTop (mkF m 12 #[.val (.ref a1)] [(.int (-1 : Int32)), (.int x0), (.int (0 : Int32)), (.ref a1)])) _
      refine XS.ixor X0.here hx rfl (hb hby d6_12) rfl ?_
      show Steps p.tables e below (s₁.setTop (mkF m 13 #[.val (.ref a1)] [(.int (x0 ^^^ (-1 : Int32))), (.int (0 : Int32)), (.ref a1)])) _
      refine XS.i2b X0.here hx rfl (hb hby d6_13) rfl ?_
      exact k)
  obtain ⟨cl6, Ac6, hin6, -⟩ := V1.at (j := (0 : Int32)) (i := 0) rfl (by decide)
  obtain ⟨T6, h6, X6, e6, W6, st6⟩ := stB X0 hx hZ e0 Ac6 (j := (0 : Int32)) hin6 (g := (mkF m 14 #[.val (.ref a1)] [(.int ((x0 ^^^ (-1 : Int32)).toInt8.toInt32)), (.int (0 : Int32)), (.ref a1)])) rfl rfl (hb hby d6_14)
  have V6 := V1.set (i := 0) rfl W6 (fits_nar_byte _)
  have N6 := Fr.snoc X6 N0 g_a1
  have Z6 : n0 ≤ h6.size := Nat.le_trans Z0 (Keep.of_wr W6).1
  have Kp7 : Keep h0 h6 [a1] := (Keep.refl h0 [a1]).wr W6 (Or.inl (List.mem_of_getElem? (i := 0) rfl))
  have ac8 : ∀ t, Steps p.tables e below (T6.setTop (mkF m 15 #[.val (.ref a1)] [])) t → Steps p.tables e below (s₁.setTop (entryFrame m #[(.ref a1)] 1)) t := fun t k => ac5 t (st6 t k)
  have ac9 : ∀ t, Steps p.tables e below (T6.setTop (mkF m 19 #[.val (.ref a1)] [(.int (1 : Int32)), (.ref a1), (.int (1 : Int32)), (.ref a1)])) t → Steps p.tables e below (s₁.setTop (entryFrame m #[(.ref a1)] 1)) t := fun t k => ac8 t (by
      show Steps p.tables e below (T6.setTop (mkF m 15 #[.val (.ref a1)] [])) _
      refine XS.aloadN X6.here hx rfl (hb hby d6_15) rfl rfl ?_
      show Steps p.tables e below (T6.setTop (mkF m 16 #[.val (.ref a1)] [(.ref a1)])) _
      refine XS.iconst X6.here hx rfl (hb hby d6_16) ?_
      show Steps p.tables e below (T6.setTop (mkF m 17 #[.val (.ref a1)] [(.int (1 : Int32)), (.ref a1)])) _
      refine XS.aloadN X6.here hx rfl (hb hby d6_17) rfl rfl ?_
      show Steps p.tables e below (T6.setTop (mkF m 18 #[.val (.ref a1)] [(.ref a1), (.int (1 : Int32)), (.ref a1)])) _
      refine XS.iconst X6.here hx rfl (hb hby d6_18) ?_
      exact k)
  obtain ⟨cl10, Ac10, hin10, hat10⟩ := V6.at (j := (1 : Int32)) (i := 1) rfl (by decide)
  have ac11 : ∀ t, Steps p.tables e below (T6.setTop (mkF m 23 #[.val (.ref a1)] [(.int ((x1 ^^^ (-1 : Int32)).toInt8.toInt32)), (.int (1 : Int32)), (.ref a1)])) t → Steps p.tables e below (s₁.setTop (entryFrame m #[(.ref a1)] 1)) t := fun t k => ac9 t (by
      show Steps p.tables e below (T6.setTop (mkF m 19 #[.val (.ref a1)] [(.int (1 : Int32)), (.ref a1), (.int (1 : Int32)), (.ref a1)])) _
      refine X6.baloadBytes hx (j := (1 : Int32)) (v := (.int x1)) (by rw [e6]; exact Ac10.1) (State.isArrayOf_alike hZ.alike Ac10.2.1) Ac10.2.2 hin10 (hat10.trans (congrArg some v1)) (g := (mkF m 19 #[.val (.ref a1)] [(.int (1 : Int32)), (.ref a1), (.int (1 : Int32)), (.ref a1)])) rfl rfl (hb hby d6_19) _ ?_
      show Steps p.tables e below (T6.setTop (mkF m 20 #[.val (.ref a1)] [(.int x1), (.int (1 : Int32)), (.ref a1)])) _
      refine XS.iconst X6.here hx rfl (hb hby d6_20) ?_
      show Steps p.tables e below (T6.setTop (mkF m 21 #[.val (.ref a1)] [(.int (-1 : Int32)), (.int x1), (.int (1 : Int32)), (.ref a1)])) _
      refine XS.ixor X6.here hx rfl (hb hby d6_21) rfl ?_
      show Steps p.tables e below (T6.setTop (mkF m 22 #[.val (.ref a1)] [(.int (x1 ^^^ (-1 : Int32))), (.int (1 : Int32)), (.ref a1)])) _
      refine XS.i2b X6.here hx rfl (hb hby d6_22) rfl ?_
      exact k)
  obtain ⟨cl12, Ac12, hin12, -⟩ := V6.at (j := (1 : Int32)) (i := 1) rfl (by decide)
  obtain ⟨T12, h12, X12, e12, W12, st12⟩ := stB X6 hx hZ e6 Ac12 (j := (1 : Int32)) hin12 (g := (mkF m 23 #[.val (.ref a1)] [(.int ((x1 ^^^ (-1 : Int32)).toInt8.toInt32)), (.int (1 : Int32)), (.ref a1)])) rfl rfl (hb hby d6_23)
  have V12 := V6.set (i := 1) rfl W12 (fits_nar_byte _)
  have N12 := Fr.snoc X12 N6 g_a1
  have Z12 : n0 ≤ h12.size := Nat.le_trans Z6 (Keep.of_wr W12).1
  have Kp13 : Keep h0 h12 [a1] := Kp7.wr W12 (Or.inl (List.mem_of_getElem? (i := 0) rfl))
  have ac14 : ∀ t, Steps p.tables e below (T12.setTop (mkF m 24 #[.val (.ref a1)] [])) t → Steps p.tables e below (s₁.setTop (entryFrame m #[(.ref a1)] 1)) t := fun t k => ac11 t (st12 t k)
  have ac15 : ∀ t, Steps p.tables e below (T12.setTop (mkF m 25 #[.val (.ref a1)] [(.ref a1)])) t → Steps p.tables e below (s₁.setTop (entryFrame m #[(.ref a1)] 1)) t := fun t k => ac14 t (by
      show Steps p.tables e below (T12.setTop (mkF m 24 #[.val (.ref a1)] [])) _
      refine XS.aloadN X12.here hx rfl (hb hby d6_24) rfl rfl ?_
      exact k)
  obtain ⟨cl16, Ac16, hl16, hb16⟩ := V12.len
  have ac17 : ∀ t, Steps p.tables e below (T12.setTop (mkF m 34 #[.val (.ref a1)] [(.int (2 : Int32)), (.ref a1), (.int (2 : Int32)), (.ref a1)])) t → Steps p.tables e below (s₁.setTop (entryFrame m #[(.ref a1)] 1)) t := fun t k => ac15 t (by
      show Steps p.tables e below (T12.setTop (mkF m 25 #[.val (.ref a1)] [(.ref a1)])) _
      refine X12.arraylength hx (by rw [e12]; exact Ac16.1) (State.isArrayOf_alike hZ.alike Ac16.2.1) (g := (mkF m 25 #[.val (.ref a1)] [(.ref a1)])) rfl rfl (hb hby d6_25) _ ?_
      rw [hl16]
      show Steps p.tables e below (T12.setTop (mkF m 26 #[.val (.ref a1)] [(.int (Int32.ofNat 4))])) _
      refine XS.iconst X12.here hx rfl (hb hby d6_26) ?_
      show Steps p.tables e below (T12.setTop (mkF m 27 #[.val (.ref a1)] [(.int (4 : Int32)), (.int (Int32.ofNat 4))])) _
      refine XS.icmpNo X12.here hx rfl (hb hby d6_27) rfl (flt (by decide)).1 ?_
      show Steps p.tables e below (T12.setTop (mkF m 30 #[.val (.ref a1)] [])) _
      refine XS.aloadN X12.here hx rfl (hb hby d6_30) rfl rfl ?_
      show Steps p.tables e below (T12.setTop (mkF m 31 #[.val (.ref a1)] [(.ref a1)])) _
      refine XS.iconst X12.here hx rfl (hb hby d6_31) ?_
      show Steps p.tables e below (T12.setTop (mkF m 32 #[.val (.ref a1)] [(.int (2 : Int32)), (.ref a1)])) _
      refine XS.aloadN X12.here hx rfl (hb hby d6_32) rfl rfl ?_
      show Steps p.tables e below (T12.setTop (mkF m 33 #[.val (.ref a1)] [(.ref a1), (.int (2 : Int32)), (.ref a1)])) _
      refine XS.iconst X12.here hx rfl (hb hby d6_33) ?_
      exact k)
  obtain ⟨cl18, Ac18, hin18, hat18⟩ := V12.at (j := (2 : Int32)) (i := 2) rfl (by decide)
  have ac19 : ∀ t, Steps p.tables e below (T12.setTop (mkF m 38 #[.val (.ref a1)] [(.int ((x2 ^^^ (-1 : Int32)).toInt8.toInt32)), (.int (2 : Int32)), (.ref a1)])) t → Steps p.tables e below (s₁.setTop (entryFrame m #[(.ref a1)] 1)) t := fun t k => ac17 t (by
      show Steps p.tables e below (T12.setTop (mkF m 34 #[.val (.ref a1)] [(.int (2 : Int32)), (.ref a1), (.int (2 : Int32)), (.ref a1)])) _
      refine X12.baloadBytes hx (j := (2 : Int32)) (v := (.int x2)) (by rw [e12]; exact Ac18.1) (State.isArrayOf_alike hZ.alike Ac18.2.1) Ac18.2.2 hin18 (hat18.trans (congrArg some v2)) (g := (mkF m 34 #[.val (.ref a1)] [(.int (2 : Int32)), (.ref a1), (.int (2 : Int32)), (.ref a1)])) rfl rfl (hb hby d6_34) _ ?_
      show Steps p.tables e below (T12.setTop (mkF m 35 #[.val (.ref a1)] [(.int x2), (.int (2 : Int32)), (.ref a1)])) _
      refine XS.iconst X12.here hx rfl (hb hby d6_35) ?_
      show Steps p.tables e below (T12.setTop (mkF m 36 #[.val (.ref a1)] [(.int (-1 : Int32)), (.int x2), (.int (2 : Int32)), (.ref a1)])) _
      refine XS.ixor X12.here hx rfl (hb hby d6_36) rfl ?_
      show Steps p.tables e below (T12.setTop (mkF m 37 #[.val (.ref a1)] [(.int (x2 ^^^ (-1 : Int32))), (.int (2 : Int32)), (.ref a1)])) _
      refine XS.i2b X12.here hx rfl (hb hby d6_37) rfl ?_
      exact k)
  obtain ⟨cl20, Ac20, hin20, -⟩ := V12.at (j := (2 : Int32)) (i := 2) rfl (by decide)
  obtain ⟨T20, h20, X20, e20, W20, st20⟩ := stB X12 hx hZ e12 Ac20 (j := (2 : Int32)) hin20 (g := (mkF m 38 #[.val (.ref a1)] [(.int ((x2 ^^^ (-1 : Int32)).toInt8.toInt32)), (.int (2 : Int32)), (.ref a1)])) rfl rfl (hb hby d6_38)
  have V20 := V12.set (i := 2) rfl W20 (fits_nar_byte _)
  have N20 := Fr.snoc X20 N12 g_a1
  have Z20 : n0 ≤ h20.size := Nat.le_trans Z12 (Keep.of_wr W20).1
  have Kp21 : Keep h0 h20 [a1] := Kp13.wr W20 (Or.inl (List.mem_of_getElem? (i := 0) rfl))
  have ac22 : ∀ t, Steps p.tables e below (T20.setTop (mkF m 39 #[.val (.ref a1)] [])) t → Steps p.tables e below (s₁.setTop (entryFrame m #[(.ref a1)] 1)) t := fun t k => ac19 t (st20 t k)
  have ac23 : ∀ t, Steps p.tables e below (T20.setTop (mkF m 43 #[.val (.ref a1)] [(.int (3 : Int32)), (.ref a1), (.int (3 : Int32)), (.ref a1)])) t → Steps p.tables e below (s₁.setTop (entryFrame m #[(.ref a1)] 1)) t := fun t k => ac22 t (by
      show Steps p.tables e below (T20.setTop (mkF m 39 #[.val (.ref a1)] [])) _
      refine XS.aloadN X20.here hx rfl (hb hby d6_39) rfl rfl ?_
      show Steps p.tables e below (T20.setTop (mkF m 40 #[.val (.ref a1)] [(.ref a1)])) _
      refine XS.iconst X20.here hx rfl (hb hby d6_40) ?_
      show Steps p.tables e below (T20.setTop (mkF m 41 #[.val (.ref a1)] [(.int (3 : Int32)), (.ref a1)])) _
      refine XS.aloadN X20.here hx rfl (hb hby d6_41) rfl rfl ?_
      show Steps p.tables e below (T20.setTop (mkF m 42 #[.val (.ref a1)] [(.ref a1), (.int (3 : Int32)), (.ref a1)])) _
      refine XS.iconst X20.here hx rfl (hb hby d6_42) ?_
      exact k)
  obtain ⟨cl24, Ac24, hin24, hat24⟩ := V20.at (j := (3 : Int32)) (i := 3) rfl (by decide)
  have ac25 : ∀ t, Steps p.tables e below (T20.setTop (mkF m 47 #[.val (.ref a1)] [(.int ((x3 ^^^ (-1 : Int32)).toInt8.toInt32)), (.int (3 : Int32)), (.ref a1)])) t → Steps p.tables e below (s₁.setTop (entryFrame m #[(.ref a1)] 1)) t := fun t k => ac23 t (by
      show Steps p.tables e below (T20.setTop (mkF m 43 #[.val (.ref a1)] [(.int (3 : Int32)), (.ref a1), (.int (3 : Int32)), (.ref a1)])) _
      refine X20.baloadBytes hx (j := (3 : Int32)) (v := (.int x3)) (by rw [e20]; exact Ac24.1) (State.isArrayOf_alike hZ.alike Ac24.2.1) Ac24.2.2 hin24 (hat24.trans (congrArg some v3)) (g := (mkF m 43 #[.val (.ref a1)] [(.int (3 : Int32)), (.ref a1), (.int (3 : Int32)), (.ref a1)])) rfl rfl (hb hby d6_43) _ ?_
      show Steps p.tables e below (T20.setTop (mkF m 44 #[.val (.ref a1)] [(.int x3), (.int (3 : Int32)), (.ref a1)])) _
      refine XS.iconst X20.here hx rfl (hb hby d6_44) ?_
      show Steps p.tables e below (T20.setTop (mkF m 45 #[.val (.ref a1)] [(.int (-1 : Int32)), (.int x3), (.int (3 : Int32)), (.ref a1)])) _
      refine XS.ixor X20.here hx rfl (hb hby d6_45) rfl ?_
      show Steps p.tables e below (T20.setTop (mkF m 46 #[.val (.ref a1)] [(.int (x3 ^^^ (-1 : Int32))), (.int (3 : Int32)), (.ref a1)])) _
      refine XS.i2b X20.here hx rfl (hb hby d6_46) rfl ?_
      exact k)
  obtain ⟨cl26, Ac26, hin26, -⟩ := V20.at (j := (3 : Int32)) (i := 3) rfl (by decide)
  obtain ⟨T26, h26, X26, e26, W26, st26⟩ := stB X20 hx hZ e20 Ac26 (j := (3 : Int32)) hin26 (g := (mkF m 47 #[.val (.ref a1)] [(.int ((x3 ^^^ (-1 : Int32)).toInt8.toInt32)), (.int (3 : Int32)), (.ref a1)])) rfl rfl (hb hby d6_47)
  have V26 := V20.set (i := 3) rfl W26 (fits_nar_byte _)
  have N26 := Fr.snoc X26 N20 g_a1
  have Z26 : n0 ≤ h26.size := Nat.le_trans Z20 (Keep.of_wr W26).1
  have Kp27 : Keep h0 h26 [a1] := Kp21.wr W26 (Or.inl (List.mem_of_getElem? (i := 0) rfl))
  have ac28 : ∀ t, Steps p.tables e below (T26.setTop (mkF m 48 #[.val (.ref a1)] [])) t → Steps p.tables e below (s₁.setTop (entryFrame m #[(.ref a1)] 1)) t := fun t k => ac25 t (st26 t k)
  obtain ⟨fs, hr, hrun, hended, hW, hsame⟩ := X26.leave (v := none) (fun _ => rfl) (BodyLoose.notSynchronized Bd)
  refine ⟨_, _, ac28 _ ?_, hrun, hended, _, _, rfl, ?_, ⟨_, rfl⟩, hW, hsame.mono (by decide) (by decide)⟩
  · show Steps p.tables e below (T26.setTop (mkF m 48 #[.val (.ref a1)] [])) _
    exact X26.returnOut hx Bd.returns (hb hby d6_48) hr
  · show Q6_4 Z a1 f x0 x1 x2 x3 h0 n0 _ T26.heap _
    rw [e26]
    exact ⟨rfl, N26, Kp27, _, V26⟩
theorem ef_rm0 (m : MethodId) (x0 : Int32) (x1 : Int32) (x2 : Int32) (x3 : Int32) (x4 : Int32) : entryFrame m #[(.int x0), (.int x1), (.int x2), (.int x3), (.int x4)] maxLocals = mkF m 0 #[.val (.int x0), .val (.int x1), .val (.int x2), .val (.int x3), .val (.int x4), .unset, .unset, .unset, .unset, .unset, .unset, .unset] [] := by first | (simp [entryFrame, mkF, argsToLocals, Value.category, maxLocals]; done) | rfl
def Q0 (Z : State) (p1 : Int32) (p2 : Int32) (p3 : Int32) (p4 : Int32) (p5 : Int32) (h0 : Heap) (n0 : Nat) (v : Option Value) (h : Heap) (L : List Loc) : Prop := v = some (.int 1) ∧ Fr n0 L
set_option maxRecDepth 65536 in
set_option maxHeartbeats 40000000 in
theorem rm0 (l : Launch) (Z : State) (a0 : Array Value) (hw : ∀ d ∈ tables_1, d.before a0 Z = true) (ws : List Jvm.Cond) (p1 : Int32) (p2 : Int32) (p3 : Int32) (p4 : Int32) (p5 : Int32) (h0 : Heap) (n0 : Nat) (Z0 : n0 ≤ h0.size) :
    MetFree l x (head1 (Jvm.Cond.code x code maxLocals ret :: ws) room_1) (fun a U => a = #[(.int p1), (.int p2), (.int p3), (.int p4), (.int p5)] ∧ Z.Warmed39 U.vm ∧ U.heap = h0) (fun _ _ _ _ _ => True) (fun _ U o U' => ∃ v L, o = .returned v ∧ Q0 Z p1 p2 p3 p4 p5 h0 n0 v U'.heap L ∧ ReturnedEndW U o U' L room_1.cells room_1.slots) := by
  refine MetFree.of_bodySF (plainFor_of_name pn_0) hisR ?_
  intro p e s m args below meth c s₁ Bd hml0 hP hK
  obtain ⟨rfl, hZ, hh⟩ := hP
  have hx := Bd.exec
  have hby := Bd.bytes
  have hml : c.maxLocals = 12 := hml0
  have hown : s.vm.findClass "com/example/votal/votal/log/LogRecordGetTemplateDataPinLaw" = some m.cls := findClass_of_methodNamed Bd.named
  have hnm := (name_of_methodNamed Bd.named Bd.method).1
  have X0 : Stand p l e room_1 s m #[(.int p1), (.int p2), (.int p3), (.int p4), (.int p5)] below meth c s₁ [] 0 0 := Stand.of_body Bd
  have e0 : s₁.heap = h0 := by rw [← hh, Bd.state]; rfl
  have N0 := Fr.nil n0
  have a0s : ∀ t, Steps p.tables e below (s₁.setTop (mkF m 0 #[.val (.int p1), .val (.int p2), .val (.int p3), .val (.int p4), .val (.int p5), .unset, .unset, .unset, .unset, .unset, .unset, .unset] [])) t → Steps p.tables e below (s₁.setTop (entryFrame m #[(.int p1), (.int p2), (.int p3), (.int p4), (.int p5)] maxLocals)) t := fun t k => castTop (ef_rm0 m p1 p2 p3 p4 p5) k
  have ac1 : ∀ t, Steps p.tables e below (s₁.setTop (mkF m 5 #[.val (.int p1), .val (.int p2), .val (.int p3), .val (.int p4), .val (.int p5), .val (.int (p2 &&& (3 : Int32))), .unset, .unset, .unset, .unset, .unset, .unset] [])) t → Steps p.tables e below (s₁.setTop (entryFrame m #[(.int p1), (.int p2), (.int p3), (.int p4), (.int p5)] maxLocals)) t := fun t k => a0s t (by
      show Steps p.tables e below (s₁.setTop (mkF m 0 #[.val (.int p1), .val (.int p2), .val (.int p3), .val (.int p4), .val (.int p5), .unset, .unset, .unset, .unset, .unset, .unset, .unset] [])) _
      refine XS.iloadN X0.here hx rfl (hb hby at_0) rfl ?_
      show Steps p.tables e below (s₁.setTop (mkF m 1 #[.val (.int p1), .val (.int p2), .val (.int p3), .val (.int p4), .val (.int p5), .unset, .unset, .unset, .unset, .unset, .unset, .unset] [(.int p2)])) _
      refine XS.iconst X0.here hx rfl (hb hby at_1) ?_
      show Steps p.tables e below (s₁.setTop (mkF m 2 #[.val (.int p1), .val (.int p2), .val (.int p3), .val (.int p4), .val (.int p5), .unset, .unset, .unset, .unset, .unset, .unset, .unset] [(.int (3 : Int32)), (.int p2)])) _
      refine XS.iand X0.here hx rfl (hb hby at_2) rfl ?_
      show Steps p.tables e below (s₁.setTop (mkF m 3 #[.val (.int p1), .val (.int p2), .val (.int p3), .val (.int p4), .val (.int p5), .unset, .unset, .unset, .unset, .unset, .unset, .unset] [(.int (p2 &&& (3 : Int32)))])) _
      refine XS.istore X0.here hx rfl (hb hby at_3) rfl (l' := #[.val (.int p1), .val (.int p2), .val (.int p3), .val (.int p4), .val (.int p5), .val (.int (p2 &&& (3 : Int32))), .unset, .unset, .unset, .unset, .unset, .unset]) rfl ?_
      exact k)
  rcases own_m4 p2 with hm | hm | hm | hm
  ·
    rw [hm] at ac1
    have ac2 : ∀ t, Steps p.tables e below (s₁.setTop (mkF m 114 #[.val (.int p1), .val (.int p2), .val (.int p3), .val (.int p4), .val (.int p5), .val (.int (0 : Int32)), .val (.int (0 : Int32)), .val .null, .unset, .unset, .unset, .unset] [(.int (20 : Int32))])) t → Steps p.tables e below (s₁.setTop (entryFrame m #[(.int p1), (.int p2), (.int p3), (.int p4), (.int p5)] maxLocals)) t := fun t k => ac1 t (by
        show Steps p.tables e below (s₁.setTop (mkF m 5 #[.val (.int p1), .val (.int p2), .val (.int p3), .val (.int p4), .val (.int p5), .val (.int (0 : Int32)), .unset, .unset, .unset, .unset, .unset, .unset] [])) _
        refine XS.iload X0.here hx rfl (hb hby at_5) rfl ?_
        show Steps p.tables e below (s₁.setTop (mkF m 7 #[.val (.int p1), .val (.int p2), .val (.int p3), .val (.int p4), .val (.int p5), .val (.int (0 : Int32)), .unset, .unset, .unset, .unset, .unset, .unset] [(.int (0 : Int32))])) _
        refine XS.iconst X0.here hx rfl (hb hby at_7) ?_
        show Steps p.tables e below (s₁.setTop (mkF m 8 #[.val (.int p1), .val (.int p2), .val (.int p3), .val (.int p4), .val (.int p5), .val (.int (0 : Int32)), .unset, .unset, .unset, .unset, .unset, .unset] [(.int (3 : Int32)), (.int (0 : Int32))])) _
        refine XS.icmpYes X0.here hx rfl (pc0 := 8) (pc' := 15) rfl (hb hby at_8) rfl (feq (by decide)).2 (by decide) (by decide) ?_
        show Steps p.tables e below (s₁.setTop (mkF m 15 #[.val (.int p1), .val (.int p2), .val (.int p3), .val (.int p4), .val (.int p5), .val (.int (0 : Int32)), .unset, .unset, .unset, .unset, .unset, .unset] [])) _
        refine XS.iload X0.here hx rfl (hb hby at_15) rfl ?_
        show Steps p.tables e below (s₁.setTop (mkF m 17 #[.val (.int p1), .val (.int p2), .val (.int p3), .val (.int p4), .val (.int p5), .val (.int (0 : Int32)), .unset, .unset, .unset, .unset, .unset, .unset] [(.int (0 : Int32))])) _
        refine XS.iconst X0.here hx rfl (hb hby at_17) ?_
        show Steps p.tables e below (s₁.setTop (mkF m 18 #[.val (.int p1), .val (.int p2), .val (.int p3), .val (.int p4), .val (.int p5), .val (.int (0 : Int32)), .unset, .unset, .unset, .unset, .unset, .unset] [(.int (2 : Int32)), (.int (0 : Int32))])) _
        refine XS.icmpYes X0.here hx rfl (pc0 := 18) (pc' := 25) rfl (hb hby at_18) rfl (feq (by decide)).2 (by decide) (by decide) ?_
        show Steps p.tables e below (s₁.setTop (mkF m 25 #[.val (.int p1), .val (.int p2), .val (.int p3), .val (.int p4), .val (.int p5), .val (.int (0 : Int32)), .unset, .unset, .unset, .unset, .unset, .unset] [])) _
        refine XS.iconst X0.here hx rfl (hb hby at_25) ?_
        show Steps p.tables e below (s₁.setTop (mkF m 26 #[.val (.int p1), .val (.int p2), .val (.int p3), .val (.int p4), .val (.int p5), .val (.int (0 : Int32)), .unset, .unset, .unset, .unset, .unset, .unset] [(.int (0 : Int32))])) _
        refine XS.istore X0.here hx rfl (hb hby at_26) rfl (l' := #[.val (.int p1), .val (.int p2), .val (.int p3), .val (.int p4), .val (.int p5), .val (.int (0 : Int32)), .val (.int (0 : Int32)), .unset, .unset, .unset, .unset, .unset]) rfl ?_
        show Steps p.tables e below (s₁.setTop (mkF m 28 #[.val (.int p1), .val (.int p2), .val (.int p3), .val (.int p4), .val (.int p5), .val (.int (0 : Int32)), .val (.int (0 : Int32)), .unset, .unset, .unset, .unset, .unset] [])) _
        refine XS.aconstNull X0.here hx rfl (hb hby at_28) ?_
        show Steps p.tables e below (s₁.setTop (mkF m 29 #[.val (.int p1), .val (.int p2), .val (.int p3), .val (.int p4), .val (.int p5), .val (.int (0 : Int32)), .val (.int (0 : Int32)), .unset, .unset, .unset, .unset, .unset] [.null])) _
        refine XS.astore X0.here hx rfl (hb hby at_29) rfl rfl (l' := #[.val (.int p1), .val (.int p2), .val (.int p3), .val (.int p4), .val (.int p5), .val (.int (0 : Int32)), .val (.int (0 : Int32)), .val .null, .unset, .unset, .unset, .unset]) rfl ?_
        show Steps p.tables e below (s₁.setTop (mkF m 31 #[.val (.int p1), .val (.int p2), .val (.int p3), .val (.int p4), .val (.int p5), .val (.int (0 : Int32)), .val (.int (0 : Int32)), .val .null, .unset, .unset, .unset, .unset] [])) _
        refine XS.iload X0.here hx rfl (hb hby at_31) rfl ?_
        show Steps p.tables e below (s₁.setTop (mkF m 33 #[.val (.int p1), .val (.int p2), .val (.int p3), .val (.int p4), .val (.int p5), .val (.int (0 : Int32)), .val (.int (0 : Int32)), .val .null, .unset, .unset, .unset, .unset] [(.int (0 : Int32))])) _
        refine XS.iconst X0.here hx rfl (hb hby at_33) ?_
        show Steps p.tables e below (s₁.setTop (mkF m 34 #[.val (.int p1), .val (.int p2), .val (.int p3), .val (.int p4), .val (.int p5), .val (.int (0 : Int32)), .val (.int (0 : Int32)), .val .null, .unset, .unset, .unset, .unset] [(.int (1 : Int32)), (.int (0 : Int32))])) _
        refine XS.icmpYes X0.here hx rfl (pc0 := 34) (pc' := 45) rfl (hb hby at_34) rfl (feq (by decide)).2 (by decide) (by decide) ?_
        show Steps p.tables e below (s₁.setTop (mkF m 45 #[.val (.int p1), .val (.int p2), .val (.int p3), .val (.int p4), .val (.int p5), .val (.int (0 : Int32)), .val (.int (0 : Int32)), .val .null, .unset, .unset, .unset, .unset] [])) _
        refine XS.iload X0.here hx rfl (hb hby at_45) rfl ?_
        show Steps p.tables e below (s₁.setTop (mkF m 47 #[.val (.int p1), .val (.int p2), .val (.int p3), .val (.int p4), .val (.int p5), .val (.int (0 : Int32)), .val (.int (0 : Int32)), .val .null, .unset, .unset, .unset, .unset] [(.int (0 : Int32))])) _
        refine XS.iconst X0.here hx rfl (hb hby at_47) ?_
        show Steps p.tables e below (s₁.setTop (mkF m 48 #[.val (.int p1), .val (.int p2), .val (.int p3), .val (.int p4), .val (.int p5), .val (.int (0 : Int32)), .val (.int (0 : Int32)), .val .null, .unset, .unset, .unset, .unset] [(.int (2 : Int32)), (.int (0 : Int32))])) _
        refine XS.icmpYes X0.here hx rfl (pc0 := 48) (pc' := 59) rfl (hb hby at_48) rfl (feq (by decide)).2 (by decide) (by decide) ?_
        show Steps p.tables e below (s₁.setTop (mkF m 59 #[.val (.int p1), .val (.int p2), .val (.int p3), .val (.int p4), .val (.int p5), .val (.int (0 : Int32)), .val (.int (0 : Int32)), .val .null, .unset, .unset, .unset, .unset] [])) _
        refine XS.iload X0.here hx rfl (hb hby at_59) rfl ?_
        show Steps p.tables e below (s₁.setTop (mkF m 61 #[.val (.int p1), .val (.int p2), .val (.int p3), .val (.int p4), .val (.int p5), .val (.int (0 : Int32)), .val (.int (0 : Int32)), .val .null, .unset, .unset, .unset, .unset] [(.int (0 : Int32))])) _
        refine XS.iconst X0.here hx rfl (hb hby at_61) ?_
        show Steps p.tables e below (s₁.setTop (mkF m 62 #[.val (.int p1), .val (.int p2), .val (.int p3), .val (.int p4), .val (.int p5), .val (.int (0 : Int32)), .val (.int (0 : Int32)), .val .null, .unset, .unset, .unset, .unset] [(.int (3 : Int32)), (.int (0 : Int32))])) _
        refine XS.icmpYes X0.here hx rfl (pc0 := 62) (pc' := 70) rfl (hb hby at_62) rfl (feq (by decide)).2 (by decide) (by decide) ?_
        show Steps p.tables e below (s₁.setTop (mkF m 70 #[.val (.int p1), .val (.int p2), .val (.int p3), .val (.int p4), .val (.int p5), .val (.int (0 : Int32)), .val (.int (0 : Int32)), .val .null, .unset, .unset, .unset, .unset] [])) _
        refine XS.iload X0.here hx rfl (hb hby at_70) rfl ?_
        show Steps p.tables e below (s₁.setTop (mkF m 72 #[.val (.int p1), .val (.int p2), .val (.int p3), .val (.int p4), .val (.int p5), .val (.int (0 : Int32)), .val (.int (0 : Int32)), .val .null, .unset, .unset, .unset, .unset] [(.int (0 : Int32))])) _
        refine XS.iconst X0.here hx rfl (hb hby at_72) ?_
        show Steps p.tables e below (s₁.setTop (mkF m 73 #[.val (.int p1), .val (.int p2), .val (.int p3), .val (.int p4), .val (.int p5), .val (.int (0 : Int32)), .val (.int (0 : Int32)), .val .null, .unset, .unset, .unset, .unset] [(.int (2 : Int32)), (.int (0 : Int32))])) _
        refine XS.icmpYes X0.here hx rfl (pc0 := 73) (pc' := 91) rfl (hb hby at_73) rfl (tlt (by decide)).1 (by decide) (by decide) ?_
        show Steps p.tables e below (s₁.setTop (mkF m 91 #[.val (.int p1), .val (.int p2), .val (.int p3), .val (.int p4), .val (.int p5), .val (.int (0 : Int32)), .val (.int (0 : Int32)), .val .null, .unset, .unset, .unset, .unset] [])) _
        refine XS.iload X0.here hx rfl (hb hby at_91) rfl ?_
        show Steps p.tables e below (s₁.setTop (mkF m 93 #[.val (.int p1), .val (.int p2), .val (.int p3), .val (.int p4), .val (.int p5), .val (.int (0 : Int32)), .val (.int (0 : Int32)), .val .null, .unset, .unset, .unset, .unset] [(.int (0 : Int32))])) _
        refine XS.iconst X0.here hx rfl (hb hby at_93) ?_
        show Steps p.tables e below (s₁.setTop (mkF m 94 #[.val (.int p1), .val (.int p2), .val (.int p3), .val (.int p4), .val (.int p5), .val (.int (0 : Int32)), .val (.int (0 : Int32)), .val .null, .unset, .unset, .unset, .unset] [(.int (4 : Int32)), (.int (0 : Int32))])) _
        refine XS.icmpYes X0.here hx rfl (pc0 := 94) (pc' := 112) rfl (hb hby at_94) rfl (tlt (by decide)).1 (by decide) (by decide) ?_
        show Steps p.tables e below (s₁.setTop (mkF m 112 #[.val (.int p1), .val (.int p2), .val (.int p3), .val (.int p4), .val (.int p5), .val (.int (0 : Int32)), .val (.int (0 : Int32)), .val .null, .unset, .unset, .unset, .unset] [])) _
        refine XS.bipush X0.here hx rfl (hb hby at_112) ?_
        exact k)
    obtain ⟨T3, h3, k3, X3, e3, E3, A3, st3⟩ := newP X0 hx hZ (hw _ (List.mem_of_getElem? (i := 0) rfl)) e0 (g := (mkF m 114 #[.val (.int p1), .val (.int p2), .val (.int p3), .val (.int p4), .val (.int p5), .val (.int (0 : Int32)), .val (.int (0 : Int32)), .val .null, .unset, .unset, .unset, .unset] [(.int (20 : Int32))])) rfl (hb hby at_114) rfl (by decide) (cap := 20) (by decide) (by decide) (by decide) (by decide)
    obtain ⟨b3, g3⟩ : ∃ z, z = h0.size := ⟨_, rfl⟩
    rw [← g3] at A3 st3
    have g_b3 : n0 ≤ b3 := Nat.le_trans Z0 (Nat.le_of_eq g3.symm)
    have Z3 : n0 ≤ h3.size := Nat.le_trans Z0 E3.1
    have V3 : own_Ar Z h3 b3 .byte 20 (fun _ => (.int (0 : Int32))) := own_Ar.new A3 rfl
    have ac4 : ∀ t, Steps p.tables e below (T3.setTop (mkF m 116 #[.val (.int p1), .val (.int p2), .val (.int p3), .val (.int p4), .val (.int p5), .val (.int (0 : Int32)), .val (.int (0 : Int32)), .val .null, .unset, .unset, .unset, .unset] [(.ref b3)])) t → Steps p.tables e below (s₁.setTop (entryFrame m #[(.int p1), (.int p2), (.int p3), (.int p4), (.int p5)] maxLocals)) t := fun t k => ac2 t (st3 t k)
    have ac5 : ∀ t, Steps p.tables e below (T3.setTop (mkF m 124 #[.val (.int p1), .val (.int p2), .val (.int p3), .val (.int p4), .val (.int p5), .val (.int (0 : Int32)), .val (.int (0 : Int32)), .val .null, .val (.ref b3), .unset, .unset, .unset] [(.int (p5.toInt8.toInt32)), (.int (0 : Int32)), (.ref b3)])) t → Steps p.tables e below (s₁.setTop (entryFrame m #[(.int p1), (.int p2), (.int p3), (.int p4), (.int p5)] maxLocals)) t := fun t k => ac4 t (by
        show Steps p.tables e below (T3.setTop (mkF m 116 #[.val (.int p1), .val (.int p2), .val (.int p3), .val (.int p4), .val (.int p5), .val (.int (0 : Int32)), .val (.int (0 : Int32)), .val .null, .unset, .unset, .unset, .unset] [(.ref b3)])) _
        refine XS.astore X3.here hx rfl (hb hby at_116) rfl rfl (l' := #[.val (.int p1), .val (.int p2), .val (.int p3), .val (.int p4), .val (.int p5), .val (.int (0 : Int32)), .val (.int (0 : Int32)), .val .null, .val (.ref b3), .unset, .unset, .unset]) rfl ?_
        show Steps p.tables e below (T3.setTop (mkF m 118 #[.val (.int p1), .val (.int p2), .val (.int p3), .val (.int p4), .val (.int p5), .val (.int (0 : Int32)), .val (.int (0 : Int32)), .val .null, .val (.ref b3), .unset, .unset, .unset] [])) _
        refine XS.aload X3.here hx rfl (hb hby at_118) rfl rfl ?_
        show Steps p.tables e below (T3.setTop (mkF m 120 #[.val (.int p1), .val (.int p2), .val (.int p3), .val (.int p4), .val (.int p5), .val (.int (0 : Int32)), .val (.int (0 : Int32)), .val .null, .val (.ref b3), .unset, .unset, .unset] [(.ref b3)])) _
        refine XS.iconst X3.here hx rfl (hb hby at_120) ?_
        show Steps p.tables e below (T3.setTop (mkF m 121 #[.val (.int p1), .val (.int p2), .val (.int p3), .val (.int p4), .val (.int p5), .val (.int (0 : Int32)), .val (.int (0 : Int32)), .val .null, .val (.ref b3), .unset, .unset, .unset] [(.int (0 : Int32)), (.ref b3)])) _
        refine XS.iload X3.here hx rfl (hb hby at_121) rfl ?_
        show Steps p.tables e below (T3.setTop (mkF m 123 #[.val (.int p1), .val (.int p2), .val (.int p3), .val (.int p4), .val (.int p5), .val (.int (0 : Int32)), .val (.int (0 : Int32)), .val .null, .val (.ref b3), .unset, .unset, .unset] [(.int p5), (.int (0 : Int32)), (.ref b3)])) _
        refine XS.i2b X3.here hx rfl (hb hby at_123) rfl ?_
        exact k)
    obtain ⟨cl6, Ac6, hin6, -⟩ := V3.at (j := (0 : Int32)) (i := 0) rfl (by decide)
    obtain ⟨T6, h6, X6, e6, W6, st6⟩ := stB X3 hx hZ e3 Ac6 (j := (0 : Int32)) hin6 (g := (mkF m 124 #[.val (.int p1), .val (.int p2), .val (.int p3), .val (.int p4), .val (.int p5), .val (.int (0 : Int32)), .val (.int (0 : Int32)), .val .null, .val (.ref b3), .unset, .unset, .unset] [(.int (p5.toInt8.toInt32)), (.int (0 : Int32)), (.ref b3)])) rfl rfl (hb hby at_124)
    have V6 := V3.set (i := 0) rfl W6 (fits_nar_byte _)
    have N6 := Fr.snoc X6 N0 g_b3
    have Z6 : n0 ≤ h6.size := Nat.le_trans Z3 (Keep.of_wr W6).1
    have ac7 : ∀ t, Steps p.tables e below (T6.setTop (mkF m 125 #[.val (.int p1), .val (.int p2), .val (.int p3), .val (.int p4), .val (.int p5), .val (.int (0 : Int32)), .val (.int (0 : Int32)), .val .null, .val (.ref b3), .unset, .unset, .unset] [])) t → Steps p.tables e below (s₁.setTop (entryFrame m #[(.int p1), (.int p2), (.int p3), (.int p4), (.int p5)] maxLocals)) t := fun t k => ac5 t (st6 t k)
    obtain ⟨T8, h8, X8, e8, E8, A8, D8, -, st8⟩ := newO X6 hx hZ hown (hw _ (List.mem_of_getElem? (i := 1) rfl)) (hw _ (List.mem_of_getElem? (i := 2) rfl)) (hw _ (List.mem_of_getElem? (i := 3) rfl)) e6 (g := (mkF m 125 #[.val (.int p1), .val (.int p2), .val (.int p3), .val (.int p4), .val (.int p5), .val (.int (0 : Int32)), .val (.int (0 : Int32)), .val .null, .val (.ref b3), .unset, .unset, .unset] [])) rfl (hb hby at_125) (by decide) (by decide)
    obtain ⟨b8, g8⟩ : ∃ z, z = h6.size := ⟨_, rfl⟩
    rw [← g8] at A8 D8 st8
    have g_b8 : n0 ≤ b8 := Nat.le_trans Z6 (Nat.le_of_eq g8.symm)
    have ne_b3_b8 : b3 ≠ b8 := Nat.ne_of_lt (Nat.lt_of_lt_of_le V6.lt (Nat.le_of_eq g8.symm))
    have Vf9 := V6.ext E8
    have Z8 : n0 ≤ h8.size := Nat.le_trans Z6 E8.1
    have F_mPcr_b8 : Fld Z h8 b8 "com/example/votal/votal/log/LogRecord" "mPcr" "I" (.int (0 : Int32)) := D8 (Or.inr (hw _ (List.mem_of_getElem? (i := 19) rfl))) (ty := .int) (by decide)
    have F_mTemplateDigest_b8 : Fld Z h8 b8 "com/example/votal/votal/log/LogRecord" "mTemplateDigest" "[B" .null := D8 (Or.inr (hw _ (List.mem_of_getElem? (i := 21) rfl))) (ty := (.array .byte)) (by decide)
    have F_mTemplateName_b8 : Fld Z h8 b8 "com/example/votal/votal/log/LogRecord" "mTemplateName" "Ljava/lang/String;" .null := D8 (Or.inr (hw _ (List.mem_of_getElem? (i := 23) rfl))) (ty := (.object "java/lang/String")) (by decide)
    have F_mTemplate_b8 : Fld Z h8 b8 "com/example/votal/votal/log/LogRecord" "mTemplate" "Lcom/example/votal/votal/log/Template;" .null := D8 (Or.inr (hw _ (List.mem_of_getElem? (i := 25) rfl))) (ty := (.object "com/example/votal/votal/log/Template")) (by decide)
    have F_mName_b8 : Fld Z h8 b8 "com/example/votal/votal/log/LogRecord" "mName" "Ljava/lang/String;" .null := D8 (Or.inr (hw _ (List.mem_of_getElem? (i := 27) rfl))) (ty := (.object "java/lang/String")) (by decide)
    have F_mDigestAlgorithm_b8 : Fld Z h8 b8 "com/example/votal/votal/log/LogRecord" "mDigestAlgorithm" "Lcom/example/votal/votal/log/DigestAlgorithm;" .null := D8 (Or.inr (hw _ (List.mem_of_getElem? (i := 29) rfl))) (ty := (.object "com/example/votal/votal/log/DigestAlgorithm")) (by decide)
    have F_mDigest_b8 : Fld Z h8 b8 "com/example/votal/votal/log/LogRecord" "mDigest" "[B" .null := D8 (Or.inr (hw _ (List.mem_of_getElem? (i := 31) rfl))) (ty := (.array .byte)) (by decide)
    have F_mEventDataOffset_b8 : Fld Z h8 b8 "com/example/votal/votal/log/LogRecord" "mEventDataOffset" "I" (.int (0 : Int32)) := D8 (Or.inr (hw _ (List.mem_of_getElem? (i := 33) rfl))) (ty := .int) (by decide)
    have F_mTemplateData_b8 : Fld Z h8 b8 "com/example/votal/votal/log/LogRecord" "mTemplateData" "[B" .null := D8 (Or.inr (hw _ (List.mem_of_getElem? (i := 35) rfl))) (ty := (.array .byte)) (by decide)
    have F_mViolation_b8 : Fld Z h8 b8 "com/example/votal/votal/log/LogRecord" "mViolation" "Z" (.int (0 : Int32)) := D8 (Or.inr (hw _ (List.mem_of_getElem? (i := 40) rfl))) (ty := .boolean) (by decide)
    have ac10 : ∀ t, Steps p.tables e below (T8.setTop (mkF m 128 #[.val (.int p1), .val (.int p2), .val (.int p3), .val (.int p4), .val (.int p5), .val (.int (0 : Int32)), .val (.int (0 : Int32)), .val .null, .val (.ref b3), .unset, .unset, .unset] [(.ref b8)])) t → Steps p.tables e below (s₁.setTop (entryFrame m #[(.int p1), (.int p2), (.int p3), (.int p4), (.int p5)] maxLocals)) t := fun t k => ac7 t (st8 t k)
    have ac11 : ∀ t, Steps p.tables e below (T8.setTop (mkF m 132 #[.val (.int p1), .val (.int p2), .val (.int p3), .val (.int p4), .val (.int p5), .val (.int (0 : Int32)), .val (.int (0 : Int32)), .val .null, .val (.ref b3), .unset, .unset, .unset] [(.ref b3), (.int p1), (.ref b8), (.ref b8)])) t → Steps p.tables e below (s₁.setTop (entryFrame m #[(.int p1), (.int p2), (.int p3), (.int p4), (.int p5)] maxLocals)) t := fun t k => ac10 t (by
        show Steps p.tables e below (T8.setTop (mkF m 128 #[.val (.int p1), .val (.int p2), .val (.int p3), .val (.int p4), .val (.int p5), .val (.int (0 : Int32)), .val (.int (0 : Int32)), .val .null, .val (.ref b3), .unset, .unset, .unset] [(.ref b8)])) _
        refine XS.dup X8.here hx rfl (hb hby at_128) rfl rfl ?_
        show Steps p.tables e below (T8.setTop (mkF m 129 #[.val (.int p1), .val (.int p2), .val (.int p3), .val (.int p4), .val (.int p5), .val (.int (0 : Int32)), .val (.int (0 : Int32)), .val .null, .val (.ref b3), .unset, .unset, .unset] [(.ref b8), (.ref b8)])) _
        refine XS.iloadN X8.here hx rfl (hb hby at_129) rfl ?_
        show Steps p.tables e below (T8.setTop (mkF m 130 #[.val (.int p1), .val (.int p2), .val (.int p3), .val (.int p4), .val (.int p5), .val (.int (0 : Int32)), .val (.int (0 : Int32)), .val .null, .val (.ref b3), .unset, .unset, .unset] [(.int p1), (.ref b8), (.ref b8)])) _
        refine XS.aload X8.here hx rfl (hb hby at_130) rfl rfl ?_
        exact k)
    have hS0 : s.Since s.vm 0 := State.WarmedH.since (State.WarmedH.refl s) 0
    obtain ⟨a12_, T12, h12, k12, X12, e12, E12, hS12, hk12, hZ, hown, st12⟩ := ldcS (s := s) (vm0 := s.vm) X8 hx hZ hown (hw _ (List.mem_of_getElem? (i := 4) rfl)) (own_sA hw) e8 hS0 (Nat.zero_le _) (g := (mkF m 132 #[.val (.int p1), .val (.int p2), .val (.int p3), .val (.int p4), .val (.int p5), .val (.int (0 : Int32)), .val (.int (0 : Int32)), .val .null, .val (.ref b3), .unset, .unset, .unset] [(.ref b3), (.int p1), (.ref b8), (.ref b8)])) rfl (hb hby at_132) (n := 12) (by decide) (by decide) (by decide) (by decide)
    have Vf13 := Vf9.ext E12
    have Ef14 := A8.ext E12
    have Ff15 := F_mPcr_b8.ext E12
    have Ff16 := F_mTemplateDigest_b8.ext E12
    have Ff17 := F_mTemplateName_b8.ext E12
    have Ff18 := F_mTemplate_b8.ext E12
    have Ff19 := F_mName_b8.ext E12
    have Ff20 := F_mDigestAlgorithm_b8.ext E12
    have Ff21 := F_mDigest_b8.ext E12
    have Ff22 := F_mEventDataOffset_b8.ext E12
    have Ff23 := F_mTemplateData_b8.ext E12
    have Ff24 := F_mViolation_b8.ext E12
    have Z12 : n0 ≤ h12.size := Nat.le_trans Z8 E12.1
    have ac25 : ∀ t, Steps p.tables e below (T12.setTop (mkF m 134 #[.val (.int p1), .val (.int p2), .val (.int p3), .val (.int p4), .val (.int p5), .val (.int (0 : Int32)), .val (.int (0 : Int32)), .val .null, .val (.ref b3), .unset, .unset, .unset] [(.ref a12_), (.ref b3), (.int p1), (.ref b8), (.ref b8)])) t → Steps p.tables e below (s₁.setTop (entryFrame m #[(.int p1), (.int p2), (.int p3), (.int p4), (.int p5)] maxLocals)) t := fun t k => ac11 t (st12 t k)
    obtain ⟨a26_, T26, h26, k26, X26, e26, E26, hS26, hk26, hZ, hown, st26⟩ := ldcS (s := s) (vm0 := T12.vm) X12 hx hZ hown (hw _ (List.mem_of_getElem? (i := 11) rfl)) (own_sA hw) e12 hS12 hk12 (g := (mkF m 134 #[.val (.int p1), .val (.int p2), .val (.int p3), .val (.int p4), .val (.int p5), .val (.int (0 : Int32)), .val (.int (0 : Int32)), .val .null, .val (.ref b3), .unset, .unset, .unset] [(.ref a12_), (.ref b3), (.int p1), (.ref b8), (.ref b8)])) rfl (hb hby at_134) (n := 16) (by decide) (by decide) (by decide) (by decide)
    have Vf27 := Vf13.ext E26
    have Ef28 := Ef14.ext E26
    have Ff29 := Ff15.ext E26
    have Ff30 := Ff16.ext E26
    have Ff31 := Ff17.ext E26
    have Ff32 := Ff18.ext E26
    have Ff33 := Ff19.ext E26
    have Ff34 := Ff20.ext E26
    have Ff35 := Ff21.ext E26
    have Ff36 := Ff22.ext E26
    have Ff37 := Ff23.ext E26
    have Ff38 := Ff24.ext E26
    have Z26 : n0 ≤ h26.size := Nat.le_trans Z12 E26.1
    have ac39 : ∀ t, Steps p.tables e below (T26.setTop (mkF m 136 #[.val (.int p1), .val (.int p2), .val (.int p3), .val (.int p4), .val (.int p5), .val (.int (0 : Int32)), .val (.int (0 : Int32)), .val .null, .val (.ref b3), .unset, .unset, .unset] [(.ref a26_), (.ref a12_), (.ref b3), (.int p1), (.ref b8), (.ref b8)])) t → Steps p.tables e below (s₁.setTop (entryFrame m #[(.int p1), (.int p2), (.int p3), (.int p4), (.int p5)] maxLocals)) t := fun t k => ac25 t (st26 t k)
    have ac40 : ∀ t, Steps p.tables e below (T26.setTop (mkF m 138 #[.val (.int p1), .val (.int p2), .val (.int p3), .val (.int p4), .val (.int p5), .val (.int (0 : Int32)), .val (.int (0 : Int32)), .val .null, .val (.ref b3), .unset, .unset, .unset] [.null, (.ref a26_), (.ref a12_), (.ref b3), (.int p1), (.ref b8), (.ref b8)])) t → Steps p.tables e below (s₁.setTop (entryFrame m #[(.int p1), (.int p2), (.int p3), (.int p4), (.int p5)] maxLocals)) t := fun t k => ac39 t (by
        show Steps p.tables e below (T26.setTop (mkF m 136 #[.val (.int p1), .val (.int p2), .val (.int p3), .val (.int p4), .val (.int p5), .val (.int (0 : Int32)), .val (.int (0 : Int32)), .val .null, .val (.ref b3), .unset, .unset, .unset] [(.ref a26_), (.ref a12_), (.ref b3), (.int p1), (.ref b8), (.ref b8)])) _
        refine XS.aload X26.here hx rfl (hb hby at_136) rfl rfl ?_
        exact k)
    obtain ⟨_, _, ⟨T41, L41, k41, n41⟩, -, X41, ⟨Lc41, hQ41, l41, y41, z41⟩, st41⟩ := X26.specialBack hx (y := (⟨"com/example/votal/votal/log/LogRecord", "<init>", "(I[BLjava/lang/String;Ljava/lang/String;[B)V"⟩ : MethodName)) rfl hown (mvT hZ (hw _ (List.mem_of_getElem? (i := 12) rfl))) (mvT hZ (hw _ (List.mem_of_getElem? (i := 13) rfl))) (mvT hZ (hw _ (List.mem_of_getElem? (i := 14) rfl))) (by decide) (backOf (W := 1) (rm1n l Z a0 hw [] b8 p1 b3 a12_ a26_ 20 _ h26 n0 Z26 Ef28 g_b8 Vf27 (own_td _) (by decide) ne_b3_b8 Ff29 Ff30 Ff31 Ff32 Ff33 Ff34 Ff35 Ff36 Ff37 Ff38) hZ (hw _ (List.mem_of_getElem? (i := 14) rfl)) (hw _ (List.mem_of_getElem? (i := 3) rfl)) (by decide) (by decide)) (g := (mkF m 138 #[.val (.int p1), .val (.int p2), .val (.int p3), .val (.int p4), .val (.int p5), .val (.int (0 : Int32)), .val (.int (0 : Int32)), .val .null, .val (.ref b3), .unset, .unset, .unset] [.null, (.ref a26_), (.ref a12_), (.ref b3), (.int p1), (.ref b8), (.ref b8)])) rfl (by rw [hml]; rfl) (Steps.refl _) (a := b8) (argsL := [(.int p1), (.ref b3), (.ref a12_), (.ref a26_), .null]) (rest := [(.ref b8)]) (lenOf pd_0 rfl) rfl (by show 2 * 0 + _ ≤ _; exact Nat.le_of_eq rfl) (hb hby at_138) (fun _ _ => ⟨rfl, e26, (by decide : 6 + 0 ≤ _), (by decide : 66 + 0 ≤ _)⟩)
    dsimp only [Pt.U, Pt.locs, Pt.cells, Pt.slots] at X41 l41 y41 z41 st41 hQ41
    subst l41 y41 z41
    obtain ⟨rfl, N41q, K41q, Ex41, Fl41⟩ := hQ41
    have N41 := Fr.app N6 N41q
    have Vf42 := Vf27.keep K41q (ninS ne_b3_b8 nin0)
    have Ef43 := Ef28.keep K41q
    have Z41 : n0 ≤ T41.heap.size := Nat.le_trans Z26 K41q.1
    have kb44 : k26 ≤ T41.heap.size := Nat.le_trans hk26 K41q.1
    have ac45 : ∀ t, Steps p.tables e below (T41.setTop (mkF m 141 #[.val (.int p1), .val (.int p2), .val (.int p3), .val (.int p4), .val (.int p5), .val (.int (0 : Int32)), .val (.int (0 : Int32)), .val .null, .val (.ref b3), .unset, .unset, .unset] [(.ref b8)])) t → Steps p.tables e below (s₁.setTop (entryFrame m #[(.int p1), (.int p2), (.int p3), (.int p4), (.int p5)] maxLocals)) t := fun t k => ac40 t (st41.trans k)
    have ac46 : ∀ t, Steps p.tables e below (T41.setTop (mkF m 145 #[.val (.int p1), .val (.int p2), .val (.int p3), .val (.int p4), .val (.int p5), .val (.int (0 : Int32)), .val (.int (0 : Int32)), .val .null, .val (.ref b3), .val (.ref b8), .unset, .unset] [(.ref b8)])) t → Steps p.tables e below (s₁.setTop (entryFrame m #[(.int p1), (.int p2), (.int p3), (.int p4), (.int p5)] maxLocals)) t := fun t k => ac45 t (by
        show Steps p.tables e below (T41.setTop (mkF m 141 #[.val (.int p1), .val (.int p2), .val (.int p3), .val (.int p4), .val (.int p5), .val (.int (0 : Int32)), .val (.int (0 : Int32)), .val .null, .val (.ref b3), .unset, .unset, .unset] [(.ref b8)])) _
        refine XS.astore X41.here hx rfl (hb hby at_141) rfl rfl (l' := #[.val (.int p1), .val (.int p2), .val (.int p3), .val (.int p4), .val (.int p5), .val (.int (0 : Int32)), .val (.int (0 : Int32)), .val .null, .val (.ref b3), .val (.ref b8), .unset, .unset]) rfl ?_
        show Steps p.tables e below (T41.setTop (mkF m 143 #[.val (.int p1), .val (.int p2), .val (.int p3), .val (.int p4), .val (.int p5), .val (.int (0 : Int32)), .val (.int (0 : Int32)), .val .null, .val (.ref b3), .val (.ref b8), .unset, .unset] [])) _
        refine XS.aload X41.here hx rfl (hb hby at_143) rfl rfl ?_
        exact k)
    obtain ⟨cq47, kq47, q47a, q47b, q47c⟩ := isOf hZ rfl Ef43
    obtain ⟨_, _, ⟨T47, L47, k47, n47⟩, -, X47, ⟨Lc47, hQ47, l47, y47, z47⟩, st47⟩ := X41.virtualBack hx (y := (⟨"com/example/votal/votal/log/LogRecord", "getTemplateData", "()[B"⟩ : MethodName)) (z := (⟨"com/example/votal/votal/log/LogRecord", "getTemplateData", "()[B"⟩ : MethodName)) hown (mvT hZ (hw _ (List.mem_of_getElem? (i := 41) rfl))) (mvT hZ (hw _ (List.mem_of_getElem? (i := 42) rfl))) (notFace_of_selects (args := #[]) (mvT hZ (hw _ (List.mem_of_getElem? (i := 44) rfl)))) (mvT hZ (hw _ (List.mem_of_getElem? (i := 44) rfl))) (mvT hZ (hw _ (List.mem_of_getElem? (i := 43) rfl))) (by decide) (backOf (W := 0) (rm4n l Z a0 hw [] b8  T41.heap n0 Z41 Fl41) hZ (hw _ (List.mem_of_getElem? (i := 45) rfl)) (hw _ (List.mem_of_getElem? (i := 3) rfl)) (by decide) (by decide)) q47a q47c (g := (mkF m 145 #[.val (.int p1), .val (.int p2), .val (.int p3), .val (.int p4), .val (.int p5), .val (.int (0 : Int32)), .val (.int (0 : Int32)), .val .null, .val (.ref b3), .val (.ref b8), .unset, .unset] [(.ref b8)])) rfl (by rw [hml]; rfl) (Steps.refl _) (argsL := []) (rest := []) (lenOf pd_3 rfl) rfl (by show 2 * 0 + _ ≤ _; exact Nat.le_of_eq rfl) (hb hby at_145) (fun _ _ => ⟨rfl, rfl, (by decide : 6 + 0 ≤ _), (by decide : 66 + 0 ≤ _)⟩)
    dsimp only [Pt.U, Pt.locs, Pt.cells, Pt.slots] at X47 l47 y47 z47 st47 hQ47
    subst l47 y47 z47
    obtain ⟨rfl, N47q, Qe47⟩ := hQ47
    have N47 := Fr.app N41 N47q
    have ac48 : ∀ t, Steps p.tables e below (T47.setTop (mkF m 148 #[.val (.int p1), .val (.int p2), .val (.int p3), .val (.int p4), .val (.int p5), .val (.int (0 : Int32)), .val (.int (0 : Int32)), .val .null, .val (.ref b3), .val (.ref b8), .unset, .unset] [.null])) t → Steps p.tables e below (s₁.setTop (entryFrame m #[(.int p1), (.int p2), (.int p3), (.int p4), (.int p5)] maxLocals)) t := fun t k => ac46 t (st47.trans k)
    have ac49 : ∀ t, Steps p.tables e below (T47.setTop (mkF m 162 #[.val (.int p1), .val (.int p2), .val (.int p3), .val (.int p4), .val (.int p5), .val (.int (0 : Int32)), .val (.int (0 : Int32)), .val .null, .val (.ref b3), .val (.ref b8), .val .null, .unset] [(.ref b8)])) t → Steps p.tables e below (s₁.setTop (entryFrame m #[(.int p1), (.int p2), (.int p3), (.int p4), (.int p5)] maxLocals)) t := fun t k => ac48 t (by
        show Steps p.tables e below (T47.setTop (mkF m 148 #[.val (.int p1), .val (.int p2), .val (.int p3), .val (.int p4), .val (.int p5), .val (.int (0 : Int32)), .val (.int (0 : Int32)), .val .null, .val (.ref b3), .val (.ref b8), .unset, .unset] [.null])) _
        refine XS.astore X47.here hx rfl (hb hby at_148) rfl rfl (l' := #[.val (.int p1), .val (.int p2), .val (.int p3), .val (.int p4), .val (.int p5), .val (.int (0 : Int32)), .val (.int (0 : Int32)), .val .null, .val (.ref b3), .val (.ref b8), .val .null, .unset]) rfl ?_
        show Steps p.tables e below (T47.setTop (mkF m 150 #[.val (.int p1), .val (.int p2), .val (.int p3), .val (.int p4), .val (.int p5), .val (.int (0 : Int32)), .val (.int (0 : Int32)), .val .null, .val (.ref b3), .val (.ref b8), .val .null, .unset] [])) _
        refine XS.aload X47.here hx rfl (hb hby at_150) rfl rfl ?_
        show Steps p.tables e below (T47.setTop (mkF m 152 #[.val (.int p1), .val (.int p2), .val (.int p3), .val (.int p4), .val (.int p5), .val (.int (0 : Int32)), .val (.int (0 : Int32)), .val .null, .val (.ref b3), .val (.ref b8), .val .null, .unset] [.null])) _
        refine XS.ifnonnullNo X47.here hx rfl (hb hby at_152) rfl ?_
        show Steps p.tables e below (T47.setTop (mkF m 155 #[.val (.int p1), .val (.int p2), .val (.int p3), .val (.int p4), .val (.int p5), .val (.int (0 : Int32)), .val (.int (0 : Int32)), .val .null, .val (.ref b3), .val (.ref b8), .val .null, .unset] [])) _
        refine XS.aload X47.here hx rfl (hb hby at_155) rfl rfl ?_
        show Steps p.tables e below (T47.setTop (mkF m 157 #[.val (.int p1), .val (.int p2), .val (.int p3), .val (.int p4), .val (.int p5), .val (.int (0 : Int32)), .val (.int (0 : Int32)), .val .null, .val (.ref b3), .val (.ref b8), .val .null, .unset] [.null])) _
        refine XS.ifnonnullNo X47.here hx rfl (hb hby at_157) rfl ?_
        show Steps p.tables e below (T47.setTop (mkF m 160 #[.val (.int p1), .val (.int p2), .val (.int p3), .val (.int p4), .val (.int p5), .val (.int (0 : Int32)), .val (.int (0 : Int32)), .val .null, .val (.ref b3), .val (.ref b8), .val .null, .unset] [])) _
        refine XS.aload X47.here hx rfl (hb hby at_160) rfl rfl ?_
        exact k)
    obtain ⟨cq50, kq50, q50a, q50b, q50c⟩ := isOf hZ Qe47 Ef43
    obtain ⟨_, _, ⟨T50, L50, k50, n50⟩, -, X50, ⟨Lc50, hQ50, l50, y50, z50⟩, st50⟩ := X47.virtualBack hx (y := (⟨"com/example/votal/votal/log/LogRecord", "getTemplateData", "()[B"⟩ : MethodName)) (z := (⟨"com/example/votal/votal/log/LogRecord", "getTemplateData", "()[B"⟩ : MethodName)) hown (mvT hZ (hw _ (List.mem_of_getElem? (i := 41) rfl))) (mvT hZ (hw _ (List.mem_of_getElem? (i := 42) rfl))) (notFace_of_selects (args := #[]) (mvT hZ (hw _ (List.mem_of_getElem? (i := 44) rfl)))) (mvT hZ (hw _ (List.mem_of_getElem? (i := 44) rfl))) (mvT hZ (hw _ (List.mem_of_getElem? (i := 43) rfl))) (by decide) (backOf (W := 0) (rm4n l Z a0 hw [] b8  T41.heap n0 Z41 Fl41) hZ (hw _ (List.mem_of_getElem? (i := 45) rfl)) (hw _ (List.mem_of_getElem? (i := 3) rfl)) (by decide) (by decide)) q50a q50c (g := (mkF m 162 #[.val (.int p1), .val (.int p2), .val (.int p3), .val (.int p4), .val (.int p5), .val (.int (0 : Int32)), .val (.int (0 : Int32)), .val .null, .val (.ref b3), .val (.ref b8), .val .null, .unset] [(.ref b8)])) rfl (by rw [hml]; rfl) (Steps.refl _) (argsL := []) (rest := []) (lenOf pd_3 rfl) rfl (by show 2 * 0 + _ ≤ _; exact Nat.le_of_eq rfl) (hb hby at_162) (fun _ _ => ⟨rfl, Qe47, (by decide : 6 + 0 ≤ _), (by decide : 66 + 0 ≤ _)⟩)
    dsimp only [Pt.U, Pt.locs, Pt.cells, Pt.slots] at X50 l50 y50 z50 st50 hQ50
    subst l50 y50 z50
    obtain ⟨rfl, N50q, Qe50⟩ := hQ50
    have N50 := Fr.app N47 N50q
    have ac51 : ∀ t, Steps p.tables e below (T50.setTop (mkF m 165 #[.val (.int p1), .val (.int p2), .val (.int p3), .val (.int p4), .val (.int p5), .val (.int (0 : Int32)), .val (.int (0 : Int32)), .val .null, .val (.ref b3), .val (.ref b8), .val .null, .unset] [.null])) t → Steps p.tables e below (s₁.setTop (entryFrame m #[(.int p1), (.int p2), (.int p3), (.int p4), (.int p5)] maxLocals)) t := fun t k => ac49 t (st50.trans k)
    have ac52 : ∀ t, Steps p.tables e below (T50.setTop (mkF m 173 #[.val (.int p1), .val (.int p2), .val (.int p3), .val (.int p4), .val (.int p5), .val (.int (0 : Int32)), .val (.int (0 : Int32)), .val .null, .val (.ref b3), .val (.ref b8), .val .null, .unset] [(.int (1 : Int32))])) t → Steps p.tables e below (s₁.setTop (entryFrame m #[(.int p1), (.int p2), (.int p3), (.int p4), (.int p5)] maxLocals)) t := fun t k => ac51 t (by
        show Steps p.tables e below (T50.setTop (mkF m 165 #[.val (.int p1), .val (.int p2), .val (.int p3), .val (.int p4), .val (.int p5), .val (.int (0 : Int32)), .val (.int (0 : Int32)), .val .null, .val (.ref b3), .val (.ref b8), .val .null, .unset] [.null])) _
        refine XS.ifnonnullNo X50.here hx rfl (hb hby at_165) rfl ?_
        show Steps p.tables e below (T50.setTop (mkF m 168 #[.val (.int p1), .val (.int p2), .val (.int p3), .val (.int p4), .val (.int p5), .val (.int (0 : Int32)), .val (.int (0 : Int32)), .val .null, .val (.ref b3), .val (.ref b8), .val .null, .unset] [])) _
        refine XS.iconst X50.here hx rfl (hb hby at_168) ?_
        show Steps p.tables e below (T50.setTop (mkF m 169 #[.val (.int p1), .val (.int p2), .val (.int p3), .val (.int p4), .val (.int p5), .val (.int (0 : Int32)), .val (.int (0 : Int32)), .val .null, .val (.ref b3), .val (.ref b8), .val .null, .unset] [(.int (1 : Int32))])) _
        refine XS.goto X50.here hx rfl (pc0 := 169) (pc' := 173) rfl (hb hby at_169) (by decide) (by decide) ?_
        exact k)
    obtain ⟨fs, hr, hrun, hended, hEW⟩ := X50.leaveW hS26 (by rw [Qe50]; exact kb44) (v := some (.int (1 : Int32))) (fun h => by rw [Bd.returns] at h; cases h) (BodyLoose.notSynchronized Bd)
    refine ⟨_, _, ac52 _ ?_, hrun, hended, _, _, rfl, ?_, hEW.1, hEW.2.1, hEW.2.2.1, hEW.2.2.2.mono (by decide) (by decide)⟩
    · show Steps p.tables e below (T50.setTop (mkF m 173 #[.val (.int p1), .val (.int p2), .val (.int p3), .val (.int p4), .val (.int p5), .val (.int (0 : Int32)), .val (.int (0 : Int32)), .val .null, .val (.ref b3), .val (.ref b8), .val .null, .unset] [(.int (1 : Int32))])) _
      exact retN X50 hx (t := .boolean) Bd.returns (by simp) (hb hby at_173) hr
    · show Q0 Z p1 p2 p3 p4 p5 h0 n0 _ T50.heap _
      rw [Qe50]
      exact ⟨rfl, N50⟩
  ·
    rw [hm] at ac1
    have ac53 : ∀ t, Steps p.tables e below (s₁.setTop (mkF m 38 #[.val (.int p1), .val (.int p2), .val (.int p3), .val (.int p4), .val (.int p5), .val (.int (1 : Int32)), .val (.int (0 : Int32)), .val .null, .unset, .unset, .unset, .unset] [(.int (0 : Int32))])) t → Steps p.tables e below (s₁.setTop (entryFrame m #[(.int p1), (.int p2), (.int p3), (.int p4), (.int p5)] maxLocals)) t := fun t k => ac1 t (by
        show Steps p.tables e below (s₁.setTop (mkF m 5 #[.val (.int p1), .val (.int p2), .val (.int p3), .val (.int p4), .val (.int p5), .val (.int (1 : Int32)), .unset, .unset, .unset, .unset, .unset, .unset] [])) _
        refine XS.iload X0.here hx rfl (hb hby at_5) rfl ?_
        show Steps p.tables e below (s₁.setTop (mkF m 7 #[.val (.int p1), .val (.int p2), .val (.int p3), .val (.int p4), .val (.int p5), .val (.int (1 : Int32)), .unset, .unset, .unset, .unset, .unset, .unset] [(.int (1 : Int32))])) _
        refine XS.iconst X0.here hx rfl (hb hby at_7) ?_
        show Steps p.tables e below (s₁.setTop (mkF m 8 #[.val (.int p1), .val (.int p2), .val (.int p3), .val (.int p4), .val (.int p5), .val (.int (1 : Int32)), .unset, .unset, .unset, .unset, .unset, .unset] [(.int (3 : Int32)), (.int (1 : Int32))])) _
        refine XS.icmpYes X0.here hx rfl (pc0 := 8) (pc' := 15) rfl (hb hby at_8) rfl (feq (by decide)).2 (by decide) (by decide) ?_
        show Steps p.tables e below (s₁.setTop (mkF m 15 #[.val (.int p1), .val (.int p2), .val (.int p3), .val (.int p4), .val (.int p5), .val (.int (1 : Int32)), .unset, .unset, .unset, .unset, .unset, .unset] [])) _
        refine XS.iload X0.here hx rfl (hb hby at_15) rfl ?_
        show Steps p.tables e below (s₁.setTop (mkF m 17 #[.val (.int p1), .val (.int p2), .val (.int p3), .val (.int p4), .val (.int p5), .val (.int (1 : Int32)), .unset, .unset, .unset, .unset, .unset, .unset] [(.int (1 : Int32))])) _
        refine XS.iconst X0.here hx rfl (hb hby at_17) ?_
        show Steps p.tables e below (s₁.setTop (mkF m 18 #[.val (.int p1), .val (.int p2), .val (.int p3), .val (.int p4), .val (.int p5), .val (.int (1 : Int32)), .unset, .unset, .unset, .unset, .unset, .unset] [(.int (2 : Int32)), (.int (1 : Int32))])) _
        refine XS.icmpYes X0.here hx rfl (pc0 := 18) (pc' := 25) rfl (hb hby at_18) rfl (feq (by decide)).2 (by decide) (by decide) ?_
        show Steps p.tables e below (s₁.setTop (mkF m 25 #[.val (.int p1), .val (.int p2), .val (.int p3), .val (.int p4), .val (.int p5), .val (.int (1 : Int32)), .unset, .unset, .unset, .unset, .unset, .unset] [])) _
        refine XS.iconst X0.here hx rfl (hb hby at_25) ?_
        show Steps p.tables e below (s₁.setTop (mkF m 26 #[.val (.int p1), .val (.int p2), .val (.int p3), .val (.int p4), .val (.int p5), .val (.int (1 : Int32)), .unset, .unset, .unset, .unset, .unset, .unset] [(.int (0 : Int32))])) _
        refine XS.istore X0.here hx rfl (hb hby at_26) rfl (l' := #[.val (.int p1), .val (.int p2), .val (.int p3), .val (.int p4), .val (.int p5), .val (.int (1 : Int32)), .val (.int (0 : Int32)), .unset, .unset, .unset, .unset, .unset]) rfl ?_
        show Steps p.tables e below (s₁.setTop (mkF m 28 #[.val (.int p1), .val (.int p2), .val (.int p3), .val (.int p4), .val (.int p5), .val (.int (1 : Int32)), .val (.int (0 : Int32)), .unset, .unset, .unset, .unset, .unset] [])) _
        refine XS.aconstNull X0.here hx rfl (hb hby at_28) ?_
        show Steps p.tables e below (s₁.setTop (mkF m 29 #[.val (.int p1), .val (.int p2), .val (.int p3), .val (.int p4), .val (.int p5), .val (.int (1 : Int32)), .val (.int (0 : Int32)), .unset, .unset, .unset, .unset, .unset] [.null])) _
        refine XS.astore X0.here hx rfl (hb hby at_29) rfl rfl (l' := #[.val (.int p1), .val (.int p2), .val (.int p3), .val (.int p4), .val (.int p5), .val (.int (1 : Int32)), .val (.int (0 : Int32)), .val .null, .unset, .unset, .unset, .unset]) rfl ?_
        show Steps p.tables e below (s₁.setTop (mkF m 31 #[.val (.int p1), .val (.int p2), .val (.int p3), .val (.int p4), .val (.int p5), .val (.int (1 : Int32)), .val (.int (0 : Int32)), .val .null, .unset, .unset, .unset, .unset] [])) _
        refine XS.iload X0.here hx rfl (hb hby at_31) rfl ?_
        show Steps p.tables e below (s₁.setTop (mkF m 33 #[.val (.int p1), .val (.int p2), .val (.int p3), .val (.int p4), .val (.int p5), .val (.int (1 : Int32)), .val (.int (0 : Int32)), .val .null, .unset, .unset, .unset, .unset] [(.int (1 : Int32))])) _
        refine XS.iconst X0.here hx rfl (hb hby at_33) ?_
        show Steps p.tables e below (s₁.setTop (mkF m 34 #[.val (.int p1), .val (.int p2), .val (.int p3), .val (.int p4), .val (.int p5), .val (.int (1 : Int32)), .val (.int (0 : Int32)), .val .null, .unset, .unset, .unset, .unset] [(.int (1 : Int32)), (.int (1 : Int32))])) _
        refine XS.icmpNo X0.here hx rfl (hb hby at_34) rfl (teq (by decide)).2 ?_
        show Steps p.tables e below (s₁.setTop (mkF m 37 #[.val (.int p1), .val (.int p2), .val (.int p3), .val (.int p4), .val (.int p5), .val (.int (1 : Int32)), .val (.int (0 : Int32)), .val .null, .unset, .unset, .unset, .unset] [])) _
        refine XS.iconst X0.here hx rfl (hb hby at_37) ?_
        exact k)
    obtain ⟨T54, h54, k54, X54, e54, E54, A54, Ea54, st54⟩ := newPE X0 hx hZ (hw _ (List.mem_of_getElem? (i := 0) rfl)) e0 (g := (mkF m 38 #[.val (.int p1), .val (.int p2), .val (.int p3), .val (.int p4), .val (.int p5), .val (.int (1 : Int32)), .val (.int (0 : Int32)), .val .null, .unset, .unset, .unset, .unset] [(.int (0 : Int32))])) rfl (hb hby at_38) rfl (by decide) (cap := 0) (by decide) (by decide) (by decide) (by decide) (ad := "[B") (by decide)
    obtain ⟨b54, g54⟩ : ∃ z, z = h0.size := ⟨_, rfl⟩
    rw [← g54] at A54 st54 Ea54
    have g_b54 : n0 ≤ b54 := Nat.le_trans Z0 (Nat.le_of_eq g54.symm)
    have Z54 : n0 ≤ h54.size := Nat.le_trans Z0 E54.1
    have V54 : own_Ar Z h54 b54 .byte 0 (fun _ => (.int (0 : Int32))) := own_Ar.new A54 rfl
    have ac55 : ∀ t, Steps p.tables e below (T54.setTop (mkF m 40 #[.val (.int p1), .val (.int p2), .val (.int p3), .val (.int p4), .val (.int p5), .val (.int (1 : Int32)), .val (.int (0 : Int32)), .val .null, .unset, .unset, .unset, .unset] [(.ref b54)])) t → Steps p.tables e below (s₁.setTop (entryFrame m #[(.int p1), (.int p2), (.int p3), (.int p4), (.int p5)] maxLocals)) t := fun t k => ac53 t (st54 t k)
    have V56 : own_Ar Z h54 b54 .byte 0 (fun k => .int 0) := V54.eq (fun k hk => absurd hk (Nat.not_lt_zero k))
    have ac57 : ∀ t, Steps p.tables e below (T54.setTop (mkF m 114 #[.val (.int p1), .val (.int p2), .val (.int p3), .val (.int p4), .val (.int p5), .val (.int (1 : Int32)), .val (.int (0 : Int32)), .val (.ref b54), .unset, .unset, .unset, .unset] [(.int (20 : Int32))])) t → Steps p.tables e below (s₁.setTop (entryFrame m #[(.int p1), (.int p2), (.int p3), (.int p4), (.int p5)] maxLocals)) t := fun t k => ac55 t (by
        show Steps p.tables e below (T54.setTop (mkF m 40 #[.val (.int p1), .val (.int p2), .val (.int p3), .val (.int p4), .val (.int p5), .val (.int (1 : Int32)), .val (.int (0 : Int32)), .val .null, .unset, .unset, .unset, .unset] [(.ref b54)])) _
        refine XS.astore X54.here hx rfl (hb hby at_40) rfl rfl (l' := #[.val (.int p1), .val (.int p2), .val (.int p3), .val (.int p4), .val (.int p5), .val (.int (1 : Int32)), .val (.int (0 : Int32)), .val (.ref b54), .unset, .unset, .unset, .unset]) rfl ?_
        show Steps p.tables e below (T54.setTop (mkF m 42 #[.val (.int p1), .val (.int p2), .val (.int p3), .val (.int p4), .val (.int p5), .val (.int (1 : Int32)), .val (.int (0 : Int32)), .val (.ref b54), .unset, .unset, .unset, .unset] [])) _
        refine XS.goto X54.here hx rfl (pc0 := 42) (pc' := 70) rfl (hb hby at_42) (by decide) (by decide) ?_
        show Steps p.tables e below (T54.setTop (mkF m 70 #[.val (.int p1), .val (.int p2), .val (.int p3), .val (.int p4), .val (.int p5), .val (.int (1 : Int32)), .val (.int (0 : Int32)), .val (.ref b54), .unset, .unset, .unset, .unset] [])) _
        refine XS.iload X54.here hx rfl (hb hby at_70) rfl ?_
        show Steps p.tables e below (T54.setTop (mkF m 72 #[.val (.int p1), .val (.int p2), .val (.int p3), .val (.int p4), .val (.int p5), .val (.int (1 : Int32)), .val (.int (0 : Int32)), .val (.ref b54), .unset, .unset, .unset, .unset] [(.int (0 : Int32))])) _
        refine XS.iconst X54.here hx rfl (hb hby at_72) ?_
        show Steps p.tables e below (T54.setTop (mkF m 73 #[.val (.int p1), .val (.int p2), .val (.int p3), .val (.int p4), .val (.int p5), .val (.int (1 : Int32)), .val (.int (0 : Int32)), .val (.ref b54), .unset, .unset, .unset, .unset] [(.int (2 : Int32)), (.int (0 : Int32))])) _
        refine XS.icmpYes X54.here hx rfl (pc0 := 73) (pc' := 91) rfl (hb hby at_73) rfl (tlt (by decide)).1 (by decide) (by decide) ?_
        show Steps p.tables e below (T54.setTop (mkF m 91 #[.val (.int p1), .val (.int p2), .val (.int p3), .val (.int p4), .val (.int p5), .val (.int (1 : Int32)), .val (.int (0 : Int32)), .val (.ref b54), .unset, .unset, .unset, .unset] [])) _
        refine XS.iload X54.here hx rfl (hb hby at_91) rfl ?_
        show Steps p.tables e below (T54.setTop (mkF m 93 #[.val (.int p1), .val (.int p2), .val (.int p3), .val (.int p4), .val (.int p5), .val (.int (1 : Int32)), .val (.int (0 : Int32)), .val (.ref b54), .unset, .unset, .unset, .unset] [(.int (0 : Int32))])) _
        refine XS.iconst X54.here hx rfl (hb hby at_93) ?_
        show Steps p.tables e below (T54.setTop (mkF m 94 #[.val (.int p1), .val (.int p2), .val (.int p3), .val (.int p4), .val (.int p5), .val (.int (1 : Int32)), .val (.int (0 : Int32)), .val (.ref b54), .unset, .unset, .unset, .unset] [(.int (4 : Int32)), (.int (0 : Int32))])) _
        refine XS.icmpYes X54.here hx rfl (pc0 := 94) (pc' := 112) rfl (hb hby at_94) rfl (tlt (by decide)).1 (by decide) (by decide) ?_
        show Steps p.tables e below (T54.setTop (mkF m 112 #[.val (.int p1), .val (.int p2), .val (.int p3), .val (.int p4), .val (.int p5), .val (.int (1 : Int32)), .val (.int (0 : Int32)), .val (.ref b54), .unset, .unset, .unset, .unset] [])) _
        refine XS.bipush X54.here hx rfl (hb hby at_112) ?_
        exact k)
    obtain ⟨T58, h58, k58, X58, e58, E58, A58, st58⟩ := newP X54 hx hZ (hw _ (List.mem_of_getElem? (i := 0) rfl)) e54 (g := (mkF m 114 #[.val (.int p1), .val (.int p2), .val (.int p3), .val (.int p4), .val (.int p5), .val (.int (1 : Int32)), .val (.int (0 : Int32)), .val (.ref b54), .unset, .unset, .unset, .unset] [(.int (20 : Int32))])) rfl (hb hby at_114) rfl (by decide) (cap := 20) (by decide) (by decide) (by decide) (by decide)
    obtain ⟨b58, g58⟩ : ∃ z, z = h54.size := ⟨_, rfl⟩
    rw [← g58] at A58 st58
    have g_b58 : n0 ≤ b58 := Nat.le_trans Z54 (Nat.le_of_eq g58.symm)
    have ne_b54_b58 : b54 ≠ b58 := Nat.ne_of_lt (Nat.lt_of_lt_of_le V56.lt (Nat.le_of_eq g58.symm))
    have Vf59 := V56.ext E58
    have Ef60 := Ea54.ext E58
    have Z58 : n0 ≤ h58.size := Nat.le_trans Z54 E58.1
    have V58 : own_Ar Z h58 b58 .byte 20 (fun _ => (.int (0 : Int32))) := own_Ar.new A58 rfl
    have ac61 : ∀ t, Steps p.tables e below (T58.setTop (mkF m 116 #[.val (.int p1), .val (.int p2), .val (.int p3), .val (.int p4), .val (.int p5), .val (.int (1 : Int32)), .val (.int (0 : Int32)), .val (.ref b54), .unset, .unset, .unset, .unset] [(.ref b58)])) t → Steps p.tables e below (s₁.setTop (entryFrame m #[(.int p1), (.int p2), (.int p3), (.int p4), (.int p5)] maxLocals)) t := fun t k => ac57 t (st58 t k)
    have ac62 : ∀ t, Steps p.tables e below (T58.setTop (mkF m 124 #[.val (.int p1), .val (.int p2), .val (.int p3), .val (.int p4), .val (.int p5), .val (.int (1 : Int32)), .val (.int (0 : Int32)), .val (.ref b54), .val (.ref b58), .unset, .unset, .unset] [(.int (p5.toInt8.toInt32)), (.int (0 : Int32)), (.ref b58)])) t → Steps p.tables e below (s₁.setTop (entryFrame m #[(.int p1), (.int p2), (.int p3), (.int p4), (.int p5)] maxLocals)) t := fun t k => ac61 t (by
        show Steps p.tables e below (T58.setTop (mkF m 116 #[.val (.int p1), .val (.int p2), .val (.int p3), .val (.int p4), .val (.int p5), .val (.int (1 : Int32)), .val (.int (0 : Int32)), .val (.ref b54), .unset, .unset, .unset, .unset] [(.ref b58)])) _
        refine XS.astore X58.here hx rfl (hb hby at_116) rfl rfl (l' := #[.val (.int p1), .val (.int p2), .val (.int p3), .val (.int p4), .val (.int p5), .val (.int (1 : Int32)), .val (.int (0 : Int32)), .val (.ref b54), .val (.ref b58), .unset, .unset, .unset]) rfl ?_
        show Steps p.tables e below (T58.setTop (mkF m 118 #[.val (.int p1), .val (.int p2), .val (.int p3), .val (.int p4), .val (.int p5), .val (.int (1 : Int32)), .val (.int (0 : Int32)), .val (.ref b54), .val (.ref b58), .unset, .unset, .unset] [])) _
        refine XS.aload X58.here hx rfl (hb hby at_118) rfl rfl ?_
        show Steps p.tables e below (T58.setTop (mkF m 120 #[.val (.int p1), .val (.int p2), .val (.int p3), .val (.int p4), .val (.int p5), .val (.int (1 : Int32)), .val (.int (0 : Int32)), .val (.ref b54), .val (.ref b58), .unset, .unset, .unset] [(.ref b58)])) _
        refine XS.iconst X58.here hx rfl (hb hby at_120) ?_
        show Steps p.tables e below (T58.setTop (mkF m 121 #[.val (.int p1), .val (.int p2), .val (.int p3), .val (.int p4), .val (.int p5), .val (.int (1 : Int32)), .val (.int (0 : Int32)), .val (.ref b54), .val (.ref b58), .unset, .unset, .unset] [(.int (0 : Int32)), (.ref b58)])) _
        refine XS.iload X58.here hx rfl (hb hby at_121) rfl ?_
        show Steps p.tables e below (T58.setTop (mkF m 123 #[.val (.int p1), .val (.int p2), .val (.int p3), .val (.int p4), .val (.int p5), .val (.int (1 : Int32)), .val (.int (0 : Int32)), .val (.ref b54), .val (.ref b58), .unset, .unset, .unset] [(.int p5), (.int (0 : Int32)), (.ref b58)])) _
        refine XS.i2b X58.here hx rfl (hb hby at_123) rfl ?_
        exact k)
    obtain ⟨cl63, Ac63, hin63, -⟩ := V58.at (j := (0 : Int32)) (i := 0) rfl (by decide)
    obtain ⟨T63, h63, X63, e63, W63, st63⟩ := stB X58 hx hZ e58 Ac63 (j := (0 : Int32)) hin63 (g := (mkF m 124 #[.val (.int p1), .val (.int p2), .val (.int p3), .val (.int p4), .val (.int p5), .val (.int (1 : Int32)), .val (.int (0 : Int32)), .val (.ref b54), .val (.ref b58), .unset, .unset, .unset] [(.int (p5.toInt8.toInt32)), (.int (0 : Int32)), (.ref b58)])) rfl rfl (hb hby at_124)
    have V63 := V58.set (i := 0) rfl W63 (fits_nar_byte _)
    have Vf64 := Vf59.other W63 ne_b54_b58
    have Ef65 := Ef60.wr W63
    have N63 := Fr.snoc X63 N0 g_b58
    have Z63 : n0 ≤ h63.size := Nat.le_trans Z58 (Keep.of_wr W63).1
    have ac66 : ∀ t, Steps p.tables e below (T63.setTop (mkF m 125 #[.val (.int p1), .val (.int p2), .val (.int p3), .val (.int p4), .val (.int p5), .val (.int (1 : Int32)), .val (.int (0 : Int32)), .val (.ref b54), .val (.ref b58), .unset, .unset, .unset] [])) t → Steps p.tables e below (s₁.setTop (entryFrame m #[(.int p1), (.int p2), (.int p3), (.int p4), (.int p5)] maxLocals)) t := fun t k => ac62 t (st63 t k)
    obtain ⟨T67, h67, X67, e67, E67, A67, D67, -, st67⟩ := newO X63 hx hZ hown (hw _ (List.mem_of_getElem? (i := 1) rfl)) (hw _ (List.mem_of_getElem? (i := 2) rfl)) (hw _ (List.mem_of_getElem? (i := 3) rfl)) e63 (g := (mkF m 125 #[.val (.int p1), .val (.int p2), .val (.int p3), .val (.int p4), .val (.int p5), .val (.int (1 : Int32)), .val (.int (0 : Int32)), .val (.ref b54), .val (.ref b58), .unset, .unset, .unset] [])) rfl (hb hby at_125) (by decide) (by decide)
    obtain ⟨b67, g67⟩ : ∃ z, z = h63.size := ⟨_, rfl⟩
    rw [← g67] at A67 D67 st67
    have g_b67 : n0 ≤ b67 := Nat.le_trans Z63 (Nat.le_of_eq g67.symm)
    have ne_b54_b67 : b54 ≠ b67 := Nat.ne_of_lt (Nat.lt_of_lt_of_le Vf64.lt (Nat.le_of_eq g67.symm))
    have ne_b58_b67 : b58 ≠ b67 := Nat.ne_of_lt (Nat.lt_of_lt_of_le V63.lt (Nat.le_of_eq g67.symm))
    have Vf68 := Vf64.ext E67
    have Ef69 := Ef65.ext E67
    have Vf70 := V63.ext E67
    have Z67 : n0 ≤ h67.size := Nat.le_trans Z63 E67.1
    have F_mPcr_b67 : Fld Z h67 b67 "com/example/votal/votal/log/LogRecord" "mPcr" "I" (.int (0 : Int32)) := D67 (Or.inr (hw _ (List.mem_of_getElem? (i := 19) rfl))) (ty := .int) (by decide)
    have F_mTemplateDigest_b67 : Fld Z h67 b67 "com/example/votal/votal/log/LogRecord" "mTemplateDigest" "[B" .null := D67 (Or.inr (hw _ (List.mem_of_getElem? (i := 21) rfl))) (ty := (.array .byte)) (by decide)
    have F_mTemplateName_b67 : Fld Z h67 b67 "com/example/votal/votal/log/LogRecord" "mTemplateName" "Ljava/lang/String;" .null := D67 (Or.inr (hw _ (List.mem_of_getElem? (i := 23) rfl))) (ty := (.object "java/lang/String")) (by decide)
    have F_mTemplate_b67 : Fld Z h67 b67 "com/example/votal/votal/log/LogRecord" "mTemplate" "Lcom/example/votal/votal/log/Template;" .null := D67 (Or.inr (hw _ (List.mem_of_getElem? (i := 25) rfl))) (ty := (.object "com/example/votal/votal/log/Template")) (by decide)
    have F_mName_b67 : Fld Z h67 b67 "com/example/votal/votal/log/LogRecord" "mName" "Ljava/lang/String;" .null := D67 (Or.inr (hw _ (List.mem_of_getElem? (i := 27) rfl))) (ty := (.object "java/lang/String")) (by decide)
    have F_mDigestAlgorithm_b67 : Fld Z h67 b67 "com/example/votal/votal/log/LogRecord" "mDigestAlgorithm" "Lcom/example/votal/votal/log/DigestAlgorithm;" .null := D67 (Or.inr (hw _ (List.mem_of_getElem? (i := 29) rfl))) (ty := (.object "com/example/votal/votal/log/DigestAlgorithm")) (by decide)
    have F_mDigest_b67 : Fld Z h67 b67 "com/example/votal/votal/log/LogRecord" "mDigest" "[B" .null := D67 (Or.inr (hw _ (List.mem_of_getElem? (i := 31) rfl))) (ty := (.array .byte)) (by decide)
    have F_mEventDataOffset_b67 : Fld Z h67 b67 "com/example/votal/votal/log/LogRecord" "mEventDataOffset" "I" (.int (0 : Int32)) := D67 (Or.inr (hw _ (List.mem_of_getElem? (i := 33) rfl))) (ty := .int) (by decide)
    have F_mTemplateData_b67 : Fld Z h67 b67 "com/example/votal/votal/log/LogRecord" "mTemplateData" "[B" .null := D67 (Or.inr (hw _ (List.mem_of_getElem? (i := 35) rfl))) (ty := (.array .byte)) (by decide)
    have F_mViolation_b67 : Fld Z h67 b67 "com/example/votal/votal/log/LogRecord" "mViolation" "Z" (.int (0 : Int32)) := D67 (Or.inr (hw _ (List.mem_of_getElem? (i := 40) rfl))) (ty := .boolean) (by decide)
    have ac71 : ∀ t, Steps p.tables e below (T67.setTop (mkF m 128 #[.val (.int p1), .val (.int p2), .val (.int p3), .val (.int p4), .val (.int p5), .val (.int (1 : Int32)), .val (.int (0 : Int32)), .val (.ref b54), .val (.ref b58), .unset, .unset, .unset] [(.ref b67)])) t → Steps p.tables e below (s₁.setTop (entryFrame m #[(.int p1), (.int p2), (.int p3), (.int p4), (.int p5)] maxLocals)) t := fun t k => ac66 t (st67 t k)
    have ac72 : ∀ t, Steps p.tables e below (T67.setTop (mkF m 132 #[.val (.int p1), .val (.int p2), .val (.int p3), .val (.int p4), .val (.int p5), .val (.int (1 : Int32)), .val (.int (0 : Int32)), .val (.ref b54), .val (.ref b58), .unset, .unset, .unset] [(.ref b58), (.int p1), (.ref b67), (.ref b67)])) t → Steps p.tables e below (s₁.setTop (entryFrame m #[(.int p1), (.int p2), (.int p3), (.int p4), (.int p5)] maxLocals)) t := fun t k => ac71 t (by
        show Steps p.tables e below (T67.setTop (mkF m 128 #[.val (.int p1), .val (.int p2), .val (.int p3), .val (.int p4), .val (.int p5), .val (.int (1 : Int32)), .val (.int (0 : Int32)), .val (.ref b54), .val (.ref b58), .unset, .unset, .unset] [(.ref b67)])) _
        refine XS.dup X67.here hx rfl (hb hby at_128) rfl rfl ?_
        show Steps p.tables e below (T67.setTop (mkF m 129 #[.val (.int p1), .val (.int p2), .val (.int p3), .val (.int p4), .val (.int p5), .val (.int (1 : Int32)), .val (.int (0 : Int32)), .val (.ref b54), .val (.ref b58), .unset, .unset, .unset] [(.ref b67), (.ref b67)])) _
        refine XS.iloadN X67.here hx rfl (hb hby at_129) rfl ?_
        show Steps p.tables e below (T67.setTop (mkF m 130 #[.val (.int p1), .val (.int p2), .val (.int p3), .val (.int p4), .val (.int p5), .val (.int (1 : Int32)), .val (.int (0 : Int32)), .val (.ref b54), .val (.ref b58), .unset, .unset, .unset] [(.int p1), (.ref b67), (.ref b67)])) _
        refine XS.aload X67.here hx rfl (hb hby at_130) rfl rfl ?_
        exact k)
    have hS0 : s.Since s.vm 0 := State.WarmedH.since (State.WarmedH.refl s) 0
    obtain ⟨a73_, T73, h73, k73, X73, e73, E73, hS73, hk73, hZ, hown, st73⟩ := ldcS (s := s) (vm0 := s.vm) X67 hx hZ hown (hw _ (List.mem_of_getElem? (i := 4) rfl)) (own_sA hw) e67 hS0 (Nat.zero_le _) (g := (mkF m 132 #[.val (.int p1), .val (.int p2), .val (.int p3), .val (.int p4), .val (.int p5), .val (.int (1 : Int32)), .val (.int (0 : Int32)), .val (.ref b54), .val (.ref b58), .unset, .unset, .unset] [(.ref b58), (.int p1), (.ref b67), (.ref b67)])) rfl (hb hby at_132) (n := 12) (by decide) (by decide) (by decide) (by decide)
    have Vf74 := Vf68.ext E73
    have Ef75 := Ef69.ext E73
    have Vf76 := Vf70.ext E73
    have Ef77 := A67.ext E73
    have Ff78 := F_mPcr_b67.ext E73
    have Ff79 := F_mTemplateDigest_b67.ext E73
    have Ff80 := F_mTemplateName_b67.ext E73
    have Ff81 := F_mTemplate_b67.ext E73
    have Ff82 := F_mName_b67.ext E73
    have Ff83 := F_mDigestAlgorithm_b67.ext E73
    have Ff84 := F_mDigest_b67.ext E73
    have Ff85 := F_mEventDataOffset_b67.ext E73
    have Ff86 := F_mTemplateData_b67.ext E73
    have Ff87 := F_mViolation_b67.ext E73
    have Z73 : n0 ≤ h73.size := Nat.le_trans Z67 E73.1
    have ac88 : ∀ t, Steps p.tables e below (T73.setTop (mkF m 134 #[.val (.int p1), .val (.int p2), .val (.int p3), .val (.int p4), .val (.int p5), .val (.int (1 : Int32)), .val (.int (0 : Int32)), .val (.ref b54), .val (.ref b58), .unset, .unset, .unset] [(.ref a73_), (.ref b58), (.int p1), (.ref b67), (.ref b67)])) t → Steps p.tables e below (s₁.setTop (entryFrame m #[(.int p1), (.int p2), (.int p3), (.int p4), (.int p5)] maxLocals)) t := fun t k => ac72 t (st73 t k)
    obtain ⟨a89_, T89, h89, k89, X89, e89, E89, hS89, hk89, hZ, hown, st89⟩ := ldcS (s := s) (vm0 := T73.vm) X73 hx hZ hown (hw _ (List.mem_of_getElem? (i := 11) rfl)) (own_sA hw) e73 hS73 hk73 (g := (mkF m 134 #[.val (.int p1), .val (.int p2), .val (.int p3), .val (.int p4), .val (.int p5), .val (.int (1 : Int32)), .val (.int (0 : Int32)), .val (.ref b54), .val (.ref b58), .unset, .unset, .unset] [(.ref a73_), (.ref b58), (.int p1), (.ref b67), (.ref b67)])) rfl (hb hby at_134) (n := 16) (by decide) (by decide) (by decide) (by decide)
    have Vf90 := Vf74.ext E89
    have Ef91 := Ef75.ext E89
    have Vf92 := Vf76.ext E89
    have Ef93 := Ef77.ext E89
    have Ff94 := Ff78.ext E89
    have Ff95 := Ff79.ext E89
    have Ff96 := Ff80.ext E89
    have Ff97 := Ff81.ext E89
    have Ff98 := Ff82.ext E89
    have Ff99 := Ff83.ext E89
    have Ff100 := Ff84.ext E89
    have Ff101 := Ff85.ext E89
    have Ff102 := Ff86.ext E89
    have Ff103 := Ff87.ext E89
    have Z89 : n0 ≤ h89.size := Nat.le_trans Z73 E89.1
    have ac104 : ∀ t, Steps p.tables e below (T89.setTop (mkF m 136 #[.val (.int p1), .val (.int p2), .val (.int p3), .val (.int p4), .val (.int p5), .val (.int (1 : Int32)), .val (.int (0 : Int32)), .val (.ref b54), .val (.ref b58), .unset, .unset, .unset] [(.ref a89_), (.ref a73_), (.ref b58), (.int p1), (.ref b67), (.ref b67)])) t → Steps p.tables e below (s₁.setTop (entryFrame m #[(.int p1), (.int p2), (.int p3), (.int p4), (.int p5)] maxLocals)) t := fun t k => ac88 t (st89 t k)
    have ac105 : ∀ t, Steps p.tables e below (T89.setTop (mkF m 138 #[.val (.int p1), .val (.int p2), .val (.int p3), .val (.int p4), .val (.int p5), .val (.int (1 : Int32)), .val (.int (0 : Int32)), .val (.ref b54), .val (.ref b58), .unset, .unset, .unset] [(.ref b54), (.ref a89_), (.ref a73_), (.ref b58), (.int p1), (.ref b67), (.ref b67)])) t → Steps p.tables e below (s₁.setTop (entryFrame m #[(.int p1), (.int p2), (.int p3), (.int p4), (.int p5)] maxLocals)) t := fun t k => ac104 t (by
        show Steps p.tables e below (T89.setTop (mkF m 136 #[.val (.int p1), .val (.int p2), .val (.int p3), .val (.int p4), .val (.int p5), .val (.int (1 : Int32)), .val (.int (0 : Int32)), .val (.ref b54), .val (.ref b58), .unset, .unset, .unset] [(.ref a89_), (.ref a73_), (.ref b58), (.int p1), (.ref b67), (.ref b67)])) _
        refine XS.aload X89.here hx rfl (hb hby at_136) rfl rfl ?_
        exact k)
    obtain ⟨_, _, ⟨T106, L106, k106, n106⟩, -, X106, ⟨Lc106, hQ106, l106, y106, z106⟩, st106⟩ := X89.specialBack hx (y := (⟨"com/example/votal/votal/log/LogRecord", "<init>", "(I[BLjava/lang/String;Ljava/lang/String;[B)V"⟩ : MethodName)) rfl hown (mvT hZ (hw _ (List.mem_of_getElem? (i := 12) rfl))) (mvT hZ (hw _ (List.mem_of_getElem? (i := 13) rfl))) (mvT hZ (hw _ (List.mem_of_getElem? (i := 14) rfl))) (by decide) (backOf (W := 1) (rm1 l Z a0 hw [] b67 p1 b58 a73_ a89_ b54 20 _ h89 n0 Z89 Ef93 g_b67 Vf92 (own_td _) (by decide) ne_b58_b67 Ff94 Ff95 Ff96 Ff97 Ff98 Ff99 Ff100 Ff101 Ff102 Ff103) hZ (hw _ (List.mem_of_getElem? (i := 14) rfl)) (hw _ (List.mem_of_getElem? (i := 3) rfl)) (by decide) (by decide)) (g := (mkF m 138 #[.val (.int p1), .val (.int p2), .val (.int p3), .val (.int p4), .val (.int p5), .val (.int (1 : Int32)), .val (.int (0 : Int32)), .val (.ref b54), .val (.ref b58), .unset, .unset, .unset] [(.ref b54), (.ref a89_), (.ref a73_), (.ref b58), (.int p1), (.ref b67), (.ref b67)])) rfl (by rw [hml]; rfl) (Steps.refl _) (a := b67) (argsL := [(.int p1), (.ref b58), (.ref a73_), (.ref a89_), (.ref b54)]) (rest := [(.ref b67)]) (lenOf pd_0 rfl) rfl (by show 2 * 0 + _ ≤ _; exact Nat.le_of_eq rfl) (hb hby at_138) (fun _ _ => ⟨rfl, e89, (by decide : 7 + 0 ≤ _), (by decide : 66 + 0 ≤ _)⟩)
    dsimp only [Pt.U, Pt.locs, Pt.cells, Pt.slots] at X106 l106 y106 z106 st106 hQ106
    subst l106 y106 z106
    obtain ⟨rfl, N106q, K106q, Ex106, Fl106⟩ := hQ106
    have N106 := Fr.app N63 N106q
    have Vf107 := Vf90.keep K106q (ninS ne_b54_b67 nin0)
    have Ef108 := Ef91.keep K106q
    have Vf109 := Vf92.keep K106q (ninS ne_b58_b67 nin0)
    have Ef110 := Ef93.keep K106q
    have Z106 : n0 ≤ T106.heap.size := Nat.le_trans Z89 K106q.1
    have kb111 : k89 ≤ T106.heap.size := Nat.le_trans hk89 K106q.1
    have ac112 : ∀ t, Steps p.tables e below (T106.setTop (mkF m 141 #[.val (.int p1), .val (.int p2), .val (.int p3), .val (.int p4), .val (.int p5), .val (.int (1 : Int32)), .val (.int (0 : Int32)), .val (.ref b54), .val (.ref b58), .unset, .unset, .unset] [(.ref b67)])) t → Steps p.tables e below (s₁.setTop (entryFrame m #[(.int p1), (.int p2), (.int p3), (.int p4), (.int p5)] maxLocals)) t := fun t k => ac105 t (st106.trans k)
    have ac113 : ∀ t, Steps p.tables e below (T106.setTop (mkF m 145 #[.val (.int p1), .val (.int p2), .val (.int p3), .val (.int p4), .val (.int p5), .val (.int (1 : Int32)), .val (.int (0 : Int32)), .val (.ref b54), .val (.ref b58), .val (.ref b67), .unset, .unset] [(.ref b67)])) t → Steps p.tables e below (s₁.setTop (entryFrame m #[(.int p1), (.int p2), (.int p3), (.int p4), (.int p5)] maxLocals)) t := fun t k => ac112 t (by
        show Steps p.tables e below (T106.setTop (mkF m 141 #[.val (.int p1), .val (.int p2), .val (.int p3), .val (.int p4), .val (.int p5), .val (.int (1 : Int32)), .val (.int (0 : Int32)), .val (.ref b54), .val (.ref b58), .unset, .unset, .unset] [(.ref b67)])) _
        refine XS.astore X106.here hx rfl (hb hby at_141) rfl rfl (l' := #[.val (.int p1), .val (.int p2), .val (.int p3), .val (.int p4), .val (.int p5), .val (.int (1 : Int32)), .val (.int (0 : Int32)), .val (.ref b54), .val (.ref b58), .val (.ref b67), .unset, .unset]) rfl ?_
        show Steps p.tables e below (T106.setTop (mkF m 143 #[.val (.int p1), .val (.int p2), .val (.int p3), .val (.int p4), .val (.int p5), .val (.int (1 : Int32)), .val (.int (0 : Int32)), .val (.ref b54), .val (.ref b58), .val (.ref b67), .unset, .unset] [])) _
        refine XS.aload X106.here hx rfl (hb hby at_143) rfl rfl ?_
        exact k)
    obtain ⟨cq114, kq114, q114a, q114b, q114c⟩ := isOf hZ rfl Ef110
    obtain ⟨_, _, ⟨T114, L114, k114, n114⟩, -, X114, ⟨Lc114, hQ114, l114, y114, z114⟩, st114⟩ := X106.virtualBack hx (y := (⟨"com/example/votal/votal/log/LogRecord", "getTemplateData", "()[B"⟩ : MethodName)) (z := (⟨"com/example/votal/votal/log/LogRecord", "getTemplateData", "()[B"⟩ : MethodName)) hown (mvT hZ (hw _ (List.mem_of_getElem? (i := 41) rfl))) (mvT hZ (hw _ (List.mem_of_getElem? (i := 42) rfl))) (notFace_of_selects (args := #[]) (mvT hZ (hw _ (List.mem_of_getElem? (i := 44) rfl)))) (mvT hZ (hw _ (List.mem_of_getElem? (i := 44) rfl))) (mvT hZ (hw _ (List.mem_of_getElem? (i := 43) rfl))) (by decide) (backOf (W := 0) (rm4c l Z a0 hw [] b67 b54 0 _ T106.heap n0 Z106 Fl106 Vf107 Ef108 (by decide)) hZ (hw _ (List.mem_of_getElem? (i := 45) rfl)) (hw _ (List.mem_of_getElem? (i := 3) rfl)) (by decide) (by decide)) q114a q114c (g := (mkF m 145 #[.val (.int p1), .val (.int p2), .val (.int p3), .val (.int p4), .val (.int p5), .val (.int (1 : Int32)), .val (.int (0 : Int32)), .val (.ref b54), .val (.ref b58), .val (.ref b67), .unset, .unset] [(.ref b67)])) rfl (by rw [hml]; rfl) (Steps.refl _) (argsL := []) (rest := []) (lenOf pd_3 rfl) rfl (by show 2 * 0 + _ ≤ _; exact Nat.le_of_eq rfl) (hb hby at_145) (fun _ _ => ⟨rfl, rfl, (by decide : 7 + 1 ≤ _), (by decide : 66 + 4 ≤ _)⟩)
    dsimp only [Pt.U, Pt.locs, Pt.cells, Pt.slots] at X114 l114 y114 z114 st114 hQ114
    subst l114 y114 z114
    obtain ⟨r114, rfl, N114q, K114q, sz114, Vr114⟩ := hQ114
    have N114 := Fr.app N106 N114q
    have Vf115 := Vf107.keep K114q nin0
    have Ef116 := Ef108.keep K114q
    have Vf117 := Vf109.keep K114q nin0
    have Ef118 := Ef110.keep K114q
    have Ff119 := Fl106.keep K114q nin0
    have Z114 : n0 ≤ T114.heap.size := Nat.le_trans Z106 K114q.1
    have kb120 : k89 ≤ T114.heap.size := Nat.le_trans kb111 K114q.1
    have g_r114 : n0 ≤ r114 := Nat.le_trans Z106 sz114
    have ne_b54_r114 : b54 ≠ r114 := Nat.ne_of_lt (Nat.lt_of_lt_of_le Vf107.lt sz114)
    have ne_b58_r114 : b58 ≠ r114 := Nat.ne_of_lt (Nat.lt_of_lt_of_le Vf109.lt sz114)
    have ne_b67_r114 : b67 ≠ r114 := Nat.ne_of_lt (Nat.lt_of_lt_of_le Ef110.lt sz114)
    have ac121 : ∀ t, Steps p.tables e below (T114.setTop (mkF m 148 #[.val (.int p1), .val (.int p2), .val (.int p3), .val (.int p4), .val (.int p5), .val (.int (1 : Int32)), .val (.int (0 : Int32)), .val (.ref b54), .val (.ref b58), .val (.ref b67), .unset, .unset] [(.ref r114)])) t → Steps p.tables e below (s₁.setTop (entryFrame m #[(.int p1), (.int p2), (.int p3), (.int p4), (.int p5)] maxLocals)) t := fun t k => ac113 t (st114.trans k)
    have ac122 : ∀ t, Steps p.tables e below (T114.setTop (mkF m 187 #[.val (.int p1), .val (.int p2), .val (.int p3), .val (.int p4), .val (.int p5), .val (.int (1 : Int32)), .val (.int (0 : Int32)), .val (.ref b54), .val (.ref b58), .val (.ref b67), .val (.ref r114), .unset] [(.int p4), (.int p3), (.int (0 : Int32)), (.ref r114)])) t → Steps p.tables e below (s₁.setTop (entryFrame m #[(.int p1), (.int p2), (.int p3), (.int p4), (.int p5)] maxLocals)) t := fun t k => ac121 t (by
        show Steps p.tables e below (T114.setTop (mkF m 148 #[.val (.int p1), .val (.int p2), .val (.int p3), .val (.int p4), .val (.int p5), .val (.int (1 : Int32)), .val (.int (0 : Int32)), .val (.ref b54), .val (.ref b58), .val (.ref b67), .unset, .unset] [(.ref r114)])) _
        refine XS.astore X114.here hx rfl (hb hby at_148) rfl rfl (l' := #[.val (.int p1), .val (.int p2), .val (.int p3), .val (.int p4), .val (.int p5), .val (.int (1 : Int32)), .val (.int (0 : Int32)), .val (.ref b54), .val (.ref b58), .val (.ref b67), .val (.ref r114), .unset]) rfl ?_
        show Steps p.tables e below (T114.setTop (mkF m 150 #[.val (.int p1), .val (.int p2), .val (.int p3), .val (.int p4), .val (.int p5), .val (.int (1 : Int32)), .val (.int (0 : Int32)), .val (.ref b54), .val (.ref b58), .val (.ref b67), .val (.ref r114), .unset] [])) _
        refine XS.aload X114.here hx rfl (hb hby at_150) rfl rfl ?_
        show Steps p.tables e below (T114.setTop (mkF m 152 #[.val (.int p1), .val (.int p2), .val (.int p3), .val (.int p4), .val (.int p5), .val (.int (1 : Int32)), .val (.int (0 : Int32)), .val (.ref b54), .val (.ref b58), .val (.ref b67), .val (.ref r114), .unset] [(.ref b54)])) _
        refine XS.ifnonnullYes X114.here hx rfl (pc0 := 152) (pc' := 174) rfl (hb hby at_152) rfl (by decide) (by decide) ?_
        show Steps p.tables e below (T114.setTop (mkF m 174 #[.val (.int p1), .val (.int p2), .val (.int p3), .val (.int p4), .val (.int p5), .val (.int (1 : Int32)), .val (.int (0 : Int32)), .val (.ref b54), .val (.ref b58), .val (.ref b67), .val (.ref r114), .unset] [])) _
        refine XS.aload X114.here hx rfl (hb hby at_174) rfl rfl ?_
        show Steps p.tables e below (T114.setTop (mkF m 176 #[.val (.int p1), .val (.int p2), .val (.int p3), .val (.int p4), .val (.int p5), .val (.int (1 : Int32)), .val (.int (0 : Int32)), .val (.ref b54), .val (.ref b58), .val (.ref b67), .val (.ref r114), .unset] [(.ref r114)])) _
        refine XS.aload X114.here hx rfl (hb hby at_176) rfl rfl ?_
        show Steps p.tables e below (T114.setTop (mkF m 178 #[.val (.int p1), .val (.int p2), .val (.int p3), .val (.int p4), .val (.int p5), .val (.int (1 : Int32)), .val (.int (0 : Int32)), .val (.ref b54), .val (.ref b58), .val (.ref b67), .val (.ref r114), .unset] [(.ref b54), (.ref r114)])) _
        refine Jvm.RoadKit.acmp (g := (mkF m 178 #[.val (.int p1), .val (.int p2), .val (.int p3), .val (.int p4), .val (.int p5), .val (.int (1 : Int32)), .val (.int (0 : Int32)), .val (.ref b54), .val (.ref b58), .val (.ref b67), .val (.ref r114), .unset] [(.ref b54), (.ref r114)])) X114 hx rfl rfl rfl (pc0 := 178) (pc' := 181) (same := false) rfl (hb hby at_178) rfl (decide_eq_false fun q => (Ne.symm ne_b54_r114) (Value.ref.inj q)) (by decide) (by decide) ?_
        show Steps p.tables e below (T114.setTop (mkF m 181 #[.val (.int p1), .val (.int p2), .val (.int p3), .val (.int p4), .val (.int p5), .val (.int (1 : Int32)), .val (.int (0 : Int32)), .val (.ref b54), .val (.ref b58), .val (.ref b67), .val (.ref r114), .unset] [])) _
        refine XS.aload X114.here hx rfl (hb hby at_181) rfl rfl ?_
        show Steps p.tables e below (T114.setTop (mkF m 183 #[.val (.int p1), .val (.int p2), .val (.int p3), .val (.int p4), .val (.int p5), .val (.int (1 : Int32)), .val (.int (0 : Int32)), .val (.ref b54), .val (.ref b58), .val (.ref b67), .val (.ref r114), .unset] [(.ref r114)])) _
        refine XS.iload X114.here hx rfl (hb hby at_183) rfl ?_
        show Steps p.tables e below (T114.setTop (mkF m 185 #[.val (.int p1), .val (.int p2), .val (.int p3), .val (.int p4), .val (.int p5), .val (.int (1 : Int32)), .val (.int (0 : Int32)), .val (.ref b54), .val (.ref b58), .val (.ref b67), .val (.ref r114), .unset] [(.int (0 : Int32)), (.ref r114)])) _
        refine XS.iloadN X114.here hx rfl (hb hby at_185) rfl ?_
        show Steps p.tables e below (T114.setTop (mkF m 186 #[.val (.int p1), .val (.int p2), .val (.int p3), .val (.int p4), .val (.int p5), .val (.int (1 : Int32)), .val (.int (0 : Int32)), .val (.ref b54), .val (.ref b58), .val (.ref b67), .val (.ref r114), .unset] [(.int p3), (.int (0 : Int32)), (.ref r114)])) _
        refine XS.iloadN X114.here hx rfl (hb hby at_186) rfl ?_
        exact k)
    obtain ⟨_, _, ⟨T123, L123, k123, n123⟩, -, X123, ⟨Lc123, hQ123, l123, y123, z123⟩, st123⟩ := Jvm.LawKit.callS X114 hx (y := (⟨"com/example/votal/votal/log/LogRecordGetTemplateDataPinLaw", "holds", "([BIII)Z"⟩ : MethodName)) hown (mvT hZ (hw _ (List.mem_of_getElem? (i := 55) rfl))) (mvT hZ (hw _ (List.mem_of_getElem? (i := 56) rfl))) (mvT hZ (hw _ (List.mem_of_getElem? (i := 57) rfl))) (mvT hZ (hw _ (List.mem_of_getElem? (i := 58) rfl))) (by decide) (backOf (W := 0) (rm5_0 l Z a0 hw [] r114 (0 : Int32) p3 p4 _ T114.heap n0 Z114 Vr114 rfl ) hZ (hw _ (List.mem_of_getElem? (i := 58) rfl)) (hw _ (List.mem_of_getElem? (i := 57) rfl)) (by decide) (by decide)) (g := (mkF m 187 #[.val (.int p1), .val (.int p2), .val (.int p3), .val (.int p4), .val (.int p5), .val (.int (1 : Int32)), .val (.int (0 : Int32)), .val (.ref b54), .val (.ref b58), .val (.ref b67), .val (.ref r114), .unset] [(.int p4), (.int p3), (.int (0 : Int32)), (.ref r114)])) rfl (by rw [hml]; rfl) (argsL := [(.ref r114), (.int (0 : Int32)), (.int p3), (.int p4)]) (rest := []) (lenOf pd_5 rfl) rfl (by show 2 * 0 + _ ≤ _; exact Nat.le_of_eq rfl) (hb hby at_187) (fun _ _ => ⟨rfl, rfl, (by decide : 8 + 0 ≤ _), (by decide : 70 + 0 ≤ _)⟩)
    dsimp only [Pt.U, Pt.locs, Pt.cells, Pt.slots] at X123 l123 y123 z123 st123 hQ123
    subst l123 y123 z123
    obtain ⟨rfl, N123q, Qe123⟩ := hQ123
    have N123 := Fr.app N114 N123q
    have ac124 : ∀ t, Steps p.tables e below (T123.setTop (mkF m 190 #[.val (.int p1), .val (.int p2), .val (.int p3), .val (.int p4), .val (.int p5), .val (.int (1 : Int32)), .val (.int (0 : Int32)), .val (.ref b54), .val (.ref b58), .val (.ref b67), .val (.ref r114), .unset] [(.int (1 : Int32))])) t → Steps p.tables e below (s₁.setTop (entryFrame m #[(.int p1), (.int p2), (.int p3), (.int p4), (.int p5)] maxLocals)) t := fun t k => ac122 t (st123 t k)
    have ac125 : ∀ t, Steps p.tables e below (T123.setTop (mkF m 197 #[.val (.int p1), .val (.int p2), .val (.int p3), .val (.int p4), .val (.int p5), .val (.int (1 : Int32)), .val (.int (0 : Int32)), .val (.ref b54), .val (.ref b58), .val (.ref b67), .val (.ref r114), .unset] [(.ref r114)])) t → Steps p.tables e below (s₁.setTop (entryFrame m #[(.int p1), (.int p2), (.int p3), (.int p4), (.int p5)] maxLocals)) t := fun t k => ac124 t (by
        show Steps p.tables e below (T123.setTop (mkF m 190 #[.val (.int p1), .val (.int p2), .val (.int p3), .val (.int p4), .val (.int p5), .val (.int (1 : Int32)), .val (.int (0 : Int32)), .val (.ref b54), .val (.ref b58), .val (.ref b67), .val (.ref r114), .unset] [(.int (1 : Int32))])) _
        refine XS.ifYes X123.here hx rfl (pc0 := 190) (pc' := 195) rfl (hb hby at_190) rfl ((if0 _ _).trans (feq (by decide)).2) (by decide) (by decide) ?_
        show Steps p.tables e below (T123.setTop (mkF m 195 #[.val (.int p1), .val (.int p2), .val (.int p3), .val (.int p4), .val (.int p5), .val (.int (1 : Int32)), .val (.int (0 : Int32)), .val (.ref b54), .val (.ref b58), .val (.ref b67), .val (.ref r114), .unset] [])) _
        refine XS.aload X123.here hx rfl (hb hby at_195) rfl rfl ?_
        exact k)
    obtain ⟨_, _, ⟨T126, L126, k126, n126⟩, -, X126, ⟨Lc126, hQ126, l126, y126, z126⟩, st126⟩ := Jvm.LawKit.callS X123 hx (y := (⟨"com/example/votal/votal/log/LogRecordGetTemplateDataPinLaw", "spoil", "([B)V"⟩ : MethodName)) hown (mvT hZ (hw _ (List.mem_of_getElem? (i := 59) rfl))) (mvT hZ (hw _ (List.mem_of_getElem? (i := 60) rfl))) (mvT hZ (hw _ (List.mem_of_getElem? (i := 57) rfl))) (mvT hZ (hw _ (List.mem_of_getElem? (i := 61) rfl))) (by decide) (backOf (W := 0) (rm6_0 l Z a0 hw [] r114 _  T114.heap n0 Z114 Vr114 g_r114 ) hZ (hw _ (List.mem_of_getElem? (i := 61) rfl)) (hw _ (List.mem_of_getElem? (i := 57) rfl)) (by decide) (by decide)) (g := (mkF m 197 #[.val (.int p1), .val (.int p2), .val (.int p3), .val (.int p4), .val (.int p5), .val (.int (1 : Int32)), .val (.int (0 : Int32)), .val (.ref b54), .val (.ref b58), .val (.ref b67), .val (.ref r114), .unset] [(.ref r114)])) rfl (by rw [hml]; rfl) (argsL := [(.ref r114)]) (rest := []) (lenOf pd_6 rfl) rfl (by show 2 * 0 + _ ≤ _; exact Nat.le_of_eq rfl) (hb hby at_197) (fun _ _ => ⟨rfl, Qe123, (by decide : 8 + 0 ≤ _), (by decide : 70 + 0 ≤ _)⟩)
    dsimp only [Pt.U, Pt.locs, Pt.cells, Pt.slots] at X126 l126 y126 z126 st126 hQ126
    subst l126 y126 z126
    obtain ⟨rfl, N126q, K126q, f126, Vs126⟩ := hQ126
    have N126 := Fr.app N123 N126q
    have Vf127 := Vf115.keep K126q (ninS ne_b54_r114 nin0)
    have Ef128 := Ef116.keep K126q
    have Vf129 := Vf117.keep K126q (ninS ne_b58_r114 nin0)
    have Ef130 := Ef118.keep K126q
    have Ff131 := Ff119.keep K126q (ninS ne_b67_r114 nin0)
    have Z126 : n0 ≤ T126.heap.size := Nat.le_trans Z114 K126q.1
    have kb132 : k89 ≤ T126.heap.size := Nat.le_trans kb120 K126q.1
    have ac133 : ∀ t, Steps p.tables e below (T126.setTop (mkF m 200 #[.val (.int p1), .val (.int p2), .val (.int p3), .val (.int p4), .val (.int p5), .val (.int (1 : Int32)), .val (.int (0 : Int32)), .val (.ref b54), .val (.ref b58), .val (.ref b67), .val (.ref r114), .unset] [])) t → Steps p.tables e below (s₁.setTop (entryFrame m #[(.int p1), (.int p2), (.int p3), (.int p4), (.int p5)] maxLocals)) t := fun t k => ac125 t (st126 t k)
    have ac134 : ∀ t, Steps p.tables e below (T126.setTop (mkF m 202 #[.val (.int p1), .val (.int p2), .val (.int p3), .val (.int p4), .val (.int p5), .val (.int (1 : Int32)), .val (.int (0 : Int32)), .val (.ref b54), .val (.ref b58), .val (.ref b67), .val (.ref r114), .unset] [(.ref b67)])) t → Steps p.tables e below (s₁.setTop (entryFrame m #[(.int p1), (.int p2), (.int p3), (.int p4), (.int p5)] maxLocals)) t := fun t k => ac133 t (by
        show Steps p.tables e below (T126.setTop (mkF m 200 #[.val (.int p1), .val (.int p2), .val (.int p3), .val (.int p4), .val (.int p5), .val (.int (1 : Int32)), .val (.int (0 : Int32)), .val (.ref b54), .val (.ref b58), .val (.ref b67), .val (.ref r114), .unset] [])) _
        refine XS.aload X126.here hx rfl (hb hby at_200) rfl rfl ?_
        exact k)
    obtain ⟨cq135, kq135, q135a, q135b, q135c⟩ := isOf hZ rfl Ef130
    obtain ⟨_, _, ⟨T135, L135, k135, n135⟩, -, X135, ⟨Lc135, hQ135, l135, y135, z135⟩, st135⟩ := X126.virtualBack hx (y := (⟨"com/example/votal/votal/log/LogRecord", "getTemplateData", "()[B"⟩ : MethodName)) (z := (⟨"com/example/votal/votal/log/LogRecord", "getTemplateData", "()[B"⟩ : MethodName)) hown (mvT hZ (hw _ (List.mem_of_getElem? (i := 41) rfl))) (mvT hZ (hw _ (List.mem_of_getElem? (i := 42) rfl))) (notFace_of_selects (args := #[]) (mvT hZ (hw _ (List.mem_of_getElem? (i := 44) rfl)))) (mvT hZ (hw _ (List.mem_of_getElem? (i := 44) rfl))) (mvT hZ (hw _ (List.mem_of_getElem? (i := 43) rfl))) (by decide) (backOf (W := 0) (rm4c l Z a0 hw [] b67 b54 0 _ T126.heap n0 Z126 Ff131 Vf127 Ef128 (by decide)) hZ (hw _ (List.mem_of_getElem? (i := 45) rfl)) (hw _ (List.mem_of_getElem? (i := 3) rfl)) (by decide) (by decide)) q135a q135c (g := (mkF m 202 #[.val (.int p1), .val (.int p2), .val (.int p3), .val (.int p4), .val (.int p5), .val (.int (1 : Int32)), .val (.int (0 : Int32)), .val (.ref b54), .val (.ref b58), .val (.ref b67), .val (.ref r114), .unset] [(.ref b67)])) rfl (by rw [hml]; rfl) (Steps.refl _) (argsL := []) (rest := []) (lenOf pd_3 rfl) rfl (by show 2 * 0 + _ ≤ _; exact Nat.le_of_eq rfl) (hb hby at_202) (fun _ _ => ⟨rfl, rfl, (by decide : 8 + 1 ≤ _), (by decide : 70 + 4 ≤ _)⟩)
    dsimp only [Pt.U, Pt.locs, Pt.cells, Pt.slots] at X135 l135 y135 z135 st135 hQ135
    subst l135 y135 z135
    obtain ⟨r135, rfl, N135q, K135q, sz135, Vr135⟩ := hQ135
    have N135 := Fr.app N126 N135q
    have Vf136 := Vf127.keep K135q nin0
    have Ef137 := Ef128.keep K135q
    have Vf138 := Vf129.keep K135q nin0
    have Ef139 := Ef130.keep K135q
    have Ff140 := Ff131.keep K135q nin0
    have Vf141 := Vs126.keep K135q nin0
    have Z135 : n0 ≤ T135.heap.size := Nat.le_trans Z126 K135q.1
    have kb142 : k89 ≤ T135.heap.size := Nat.le_trans kb132 K135q.1
    have g_r135 : n0 ≤ r135 := Nat.le_trans Z126 sz135
    have ne_b54_r135 : b54 ≠ r135 := Nat.ne_of_lt (Nat.lt_of_lt_of_le Vf127.lt sz135)
    have ne_b58_r135 : b58 ≠ r135 := Nat.ne_of_lt (Nat.lt_of_lt_of_le Vf129.lt sz135)
    have ne_b67_r135 : b67 ≠ r135 := Nat.ne_of_lt (Nat.lt_of_lt_of_le Ef130.lt sz135)
    have ne_r114_r135 : r114 ≠ r135 := Nat.ne_of_lt (Nat.lt_of_lt_of_le Vs126.lt sz135)
    have ac143 : ∀ t, Steps p.tables e below (T135.setTop (mkF m 205 #[.val (.int p1), .val (.int p2), .val (.int p3), .val (.int p4), .val (.int p5), .val (.int (1 : Int32)), .val (.int (0 : Int32)), .val (.ref b54), .val (.ref b58), .val (.ref b67), .val (.ref r114), .unset] [(.ref r135)])) t → Steps p.tables e below (s₁.setTop (entryFrame m #[(.int p1), (.int p2), (.int p3), (.int p4), (.int p5)] maxLocals)) t := fun t k => ac134 t (st135.trans k)
    have ac144 : ∀ t, Steps p.tables e below (T135.setTop (mkF m 227 #[.val (.int p1), .val (.int p2), .val (.int p3), .val (.int p4), .val (.int p5), .val (.int (1 : Int32)), .val (.int (0 : Int32)), .val (.ref b54), .val (.ref b58), .val (.ref b67), .val (.ref r114), .val (.ref r135)] [(.int p4), (.int p3), (.int (0 : Int32)), (.ref r135)])) t → Steps p.tables e below (s₁.setTop (entryFrame m #[(.int p1), (.int p2), (.int p3), (.int p4), (.int p5)] maxLocals)) t := fun t k => ac143 t (by
        show Steps p.tables e below (T135.setTop (mkF m 205 #[.val (.int p1), .val (.int p2), .val (.int p3), .val (.int p4), .val (.int p5), .val (.int (1 : Int32)), .val (.int (0 : Int32)), .val (.ref b54), .val (.ref b58), .val (.ref b67), .val (.ref r114), .unset] [(.ref r135)])) _
        refine XS.astore X135.here hx rfl (hb hby at_205) rfl rfl (l' := #[.val (.int p1), .val (.int p2), .val (.int p3), .val (.int p4), .val (.int p5), .val (.int (1 : Int32)), .val (.int (0 : Int32)), .val (.ref b54), .val (.ref b58), .val (.ref b67), .val (.ref r114), .val (.ref r135)]) rfl ?_
        show Steps p.tables e below (T135.setTop (mkF m 207 #[.val (.int p1), .val (.int p2), .val (.int p3), .val (.int p4), .val (.int p5), .val (.int (1 : Int32)), .val (.int (0 : Int32)), .val (.ref b54), .val (.ref b58), .val (.ref b67), .val (.ref r114), .val (.ref r135)] [])) _
        refine XS.aload X135.here hx rfl (hb hby at_207) rfl rfl ?_
        show Steps p.tables e below (T135.setTop (mkF m 209 #[.val (.int p1), .val (.int p2), .val (.int p3), .val (.int p4), .val (.int p5), .val (.int (1 : Int32)), .val (.int (0 : Int32)), .val (.ref b54), .val (.ref b58), .val (.ref b67), .val (.ref r114), .val (.ref r135)] [(.ref r135)])) _
        refine XS.aload X135.here hx rfl (hb hby at_209) rfl rfl ?_
        show Steps p.tables e below (T135.setTop (mkF m 211 #[.val (.int p1), .val (.int p2), .val (.int p3), .val (.int p4), .val (.int p5), .val (.int (1 : Int32)), .val (.int (0 : Int32)), .val (.ref b54), .val (.ref b58), .val (.ref b67), .val (.ref r114), .val (.ref r135)] [(.ref r114), (.ref r135)])) _
        refine Jvm.RoadKit.acmp (g := (mkF m 211 #[.val (.int p1), .val (.int p2), .val (.int p3), .val (.int p4), .val (.int p5), .val (.int (1 : Int32)), .val (.int (0 : Int32)), .val (.ref b54), .val (.ref b58), .val (.ref b67), .val (.ref r114), .val (.ref r135)] [(.ref r114), (.ref r135)])) X135 hx rfl rfl rfl (pc0 := 211) (pc' := 214) (same := false) rfl (hb hby at_211) rfl (decide_eq_false fun q => (Ne.symm ne_r114_r135) (Value.ref.inj q)) (by decide) (by decide) ?_
        show Steps p.tables e below (T135.setTop (mkF m 214 #[.val (.int p1), .val (.int p2), .val (.int p3), .val (.int p4), .val (.int p5), .val (.int (1 : Int32)), .val (.int (0 : Int32)), .val (.ref b54), .val (.ref b58), .val (.ref b67), .val (.ref r114), .val (.ref r135)] [])) _
        refine XS.aload X135.here hx rfl (hb hby at_214) rfl rfl ?_
        show Steps p.tables e below (T135.setTop (mkF m 216 #[.val (.int p1), .val (.int p2), .val (.int p3), .val (.int p4), .val (.int p5), .val (.int (1 : Int32)), .val (.int (0 : Int32)), .val (.ref b54), .val (.ref b58), .val (.ref b67), .val (.ref r114), .val (.ref r135)] [(.ref r135)])) _
        refine XS.aload X135.here hx rfl (hb hby at_216) rfl rfl ?_
        show Steps p.tables e below (T135.setTop (mkF m 218 #[.val (.int p1), .val (.int p2), .val (.int p3), .val (.int p4), .val (.int p5), .val (.int (1 : Int32)), .val (.int (0 : Int32)), .val (.ref b54), .val (.ref b58), .val (.ref b67), .val (.ref r114), .val (.ref r135)] [(.ref b54), (.ref r135)])) _
        refine Jvm.RoadKit.acmp (g := (mkF m 218 #[.val (.int p1), .val (.int p2), .val (.int p3), .val (.int p4), .val (.int p5), .val (.int (1 : Int32)), .val (.int (0 : Int32)), .val (.ref b54), .val (.ref b58), .val (.ref b67), .val (.ref r114), .val (.ref r135)] [(.ref b54), (.ref r135)])) X135 hx rfl rfl rfl (pc0 := 218) (pc' := 221) (same := false) rfl (hb hby at_218) rfl (decide_eq_false fun q => (Ne.symm ne_b54_r135) (Value.ref.inj q)) (by decide) (by decide) ?_
        show Steps p.tables e below (T135.setTop (mkF m 221 #[.val (.int p1), .val (.int p2), .val (.int p3), .val (.int p4), .val (.int p5), .val (.int (1 : Int32)), .val (.int (0 : Int32)), .val (.ref b54), .val (.ref b58), .val (.ref b67), .val (.ref r114), .val (.ref r135)] [])) _
        refine XS.aload X135.here hx rfl (hb hby at_221) rfl rfl ?_
        show Steps p.tables e below (T135.setTop (mkF m 223 #[.val (.int p1), .val (.int p2), .val (.int p3), .val (.int p4), .val (.int p5), .val (.int (1 : Int32)), .val (.int (0 : Int32)), .val (.ref b54), .val (.ref b58), .val (.ref b67), .val (.ref r114), .val (.ref r135)] [(.ref r135)])) _
        refine XS.iload X135.here hx rfl (hb hby at_223) rfl ?_
        show Steps p.tables e below (T135.setTop (mkF m 225 #[.val (.int p1), .val (.int p2), .val (.int p3), .val (.int p4), .val (.int p5), .val (.int (1 : Int32)), .val (.int (0 : Int32)), .val (.ref b54), .val (.ref b58), .val (.ref b67), .val (.ref r114), .val (.ref r135)] [(.int (0 : Int32)), (.ref r135)])) _
        refine XS.iloadN X135.here hx rfl (hb hby at_225) rfl ?_
        show Steps p.tables e below (T135.setTop (mkF m 226 #[.val (.int p1), .val (.int p2), .val (.int p3), .val (.int p4), .val (.int p5), .val (.int (1 : Int32)), .val (.int (0 : Int32)), .val (.ref b54), .val (.ref b58), .val (.ref b67), .val (.ref r114), .val (.ref r135)] [(.int p3), (.int (0 : Int32)), (.ref r135)])) _
        refine XS.iloadN X135.here hx rfl (hb hby at_226) rfl ?_
        exact k)
    obtain ⟨_, _, ⟨T145, L145, k145, n145⟩, -, X145, ⟨Lc145, hQ145, l145, y145, z145⟩, st145⟩ := Jvm.LawKit.callS X135 hx (y := (⟨"com/example/votal/votal/log/LogRecordGetTemplateDataPinLaw", "holds", "([BIII)Z"⟩ : MethodName)) hown (mvT hZ (hw _ (List.mem_of_getElem? (i := 55) rfl))) (mvT hZ (hw _ (List.mem_of_getElem? (i := 56) rfl))) (mvT hZ (hw _ (List.mem_of_getElem? (i := 57) rfl))) (mvT hZ (hw _ (List.mem_of_getElem? (i := 58) rfl))) (by decide) (backOf (W := 0) (rm5_0 l Z a0 hw [] r135 (0 : Int32) p3 p4 _ T135.heap n0 Z135 Vr135 rfl ) hZ (hw _ (List.mem_of_getElem? (i := 58) rfl)) (hw _ (List.mem_of_getElem? (i := 57) rfl)) (by decide) (by decide)) (g := (mkF m 227 #[.val (.int p1), .val (.int p2), .val (.int p3), .val (.int p4), .val (.int p5), .val (.int (1 : Int32)), .val (.int (0 : Int32)), .val (.ref b54), .val (.ref b58), .val (.ref b67), .val (.ref r114), .val (.ref r135)] [(.int p4), (.int p3), (.int (0 : Int32)), (.ref r135)])) rfl (by rw [hml]; rfl) (argsL := [(.ref r135), (.int (0 : Int32)), (.int p3), (.int p4)]) (rest := []) (lenOf pd_5 rfl) rfl (by show 2 * 0 + _ ≤ _; exact Nat.le_of_eq rfl) (hb hby at_227) (fun _ _ => ⟨rfl, rfl, (by decide : 9 + 0 ≤ _), (by decide : 74 + 0 ≤ _)⟩)
    dsimp only [Pt.U, Pt.locs, Pt.cells, Pt.slots] at X145 l145 y145 z145 st145 hQ145
    subst l145 y145 z145
    obtain ⟨rfl, N145q, Qe145⟩ := hQ145
    have N145 := Fr.app N135 N145q
    have ac146 : ∀ t, Steps p.tables e below (T145.setTop (mkF m 230 #[.val (.int p1), .val (.int p2), .val (.int p3), .val (.int p4), .val (.int p5), .val (.int (1 : Int32)), .val (.int (0 : Int32)), .val (.ref b54), .val (.ref b58), .val (.ref b67), .val (.ref r114), .val (.ref r135)] [(.int (1 : Int32))])) t → Steps p.tables e below (s₁.setTop (entryFrame m #[(.int p1), (.int p2), (.int p3), (.int p4), (.int p5)] maxLocals)) t := fun t k => ac144 t (st145 t k)
    have ac147 : ∀ t, Steps p.tables e below (T145.setTop (mkF m 239 #[.val (.int p1), .val (.int p2), .val (.int p3), .val (.int p4), .val (.int p5), .val (.int (1 : Int32)), .val (.int (0 : Int32)), .val (.ref b54), .val (.ref b58), .val (.ref b67), .val (.ref r114), .val (.ref r135)] [(.int p4), (.int p3), (.int (0 : Int32)), (.ref b54)])) t → Steps p.tables e below (s₁.setTop (entryFrame m #[(.int p1), (.int p2), (.int p3), (.int p4), (.int p5)] maxLocals)) t := fun t k => ac146 t (by
        show Steps p.tables e below (T145.setTop (mkF m 230 #[.val (.int p1), .val (.int p2), .val (.int p3), .val (.int p4), .val (.int p5), .val (.int (1 : Int32)), .val (.int (0 : Int32)), .val (.ref b54), .val (.ref b58), .val (.ref b67), .val (.ref r114), .val (.ref r135)] [(.int (1 : Int32))])) _
        refine XS.ifNo X145.here hx rfl (hb hby at_230) rfl ((if0 _ _).trans (feq (by decide)).1) ?_
        show Steps p.tables e below (T145.setTop (mkF m 233 #[.val (.int p1), .val (.int p2), .val (.int p3), .val (.int p4), .val (.int p5), .val (.int (1 : Int32)), .val (.int (0 : Int32)), .val (.ref b54), .val (.ref b58), .val (.ref b67), .val (.ref r114), .val (.ref r135)] [])) _
        refine XS.aload X145.here hx rfl (hb hby at_233) rfl rfl ?_
        show Steps p.tables e below (T145.setTop (mkF m 235 #[.val (.int p1), .val (.int p2), .val (.int p3), .val (.int p4), .val (.int p5), .val (.int (1 : Int32)), .val (.int (0 : Int32)), .val (.ref b54), .val (.ref b58), .val (.ref b67), .val (.ref r114), .val (.ref r135)] [(.ref b54)])) _
        refine XS.iload X145.here hx rfl (hb hby at_235) rfl ?_
        show Steps p.tables e below (T145.setTop (mkF m 237 #[.val (.int p1), .val (.int p2), .val (.int p3), .val (.int p4), .val (.int p5), .val (.int (1 : Int32)), .val (.int (0 : Int32)), .val (.ref b54), .val (.ref b58), .val (.ref b67), .val (.ref r114), .val (.ref r135)] [(.int (0 : Int32)), (.ref b54)])) _
        refine XS.iloadN X145.here hx rfl (hb hby at_237) rfl ?_
        show Steps p.tables e below (T145.setTop (mkF m 238 #[.val (.int p1), .val (.int p2), .val (.int p3), .val (.int p4), .val (.int p5), .val (.int (1 : Int32)), .val (.int (0 : Int32)), .val (.ref b54), .val (.ref b58), .val (.ref b67), .val (.ref r114), .val (.ref r135)] [(.int p3), (.int (0 : Int32)), (.ref b54)])) _
        refine XS.iloadN X145.here hx rfl (hb hby at_238) rfl ?_
        exact k)
    obtain ⟨_, _, ⟨T148, L148, k148, n148⟩, -, X148, ⟨Lc148, hQ148, l148, y148, z148⟩, st148⟩ := Jvm.LawKit.callS X145 hx (y := (⟨"com/example/votal/votal/log/LogRecordGetTemplateDataPinLaw", "holds", "([BIII)Z"⟩ : MethodName)) hown (mvT hZ (hw _ (List.mem_of_getElem? (i := 55) rfl))) (mvT hZ (hw _ (List.mem_of_getElem? (i := 56) rfl))) (mvT hZ (hw _ (List.mem_of_getElem? (i := 57) rfl))) (mvT hZ (hw _ (List.mem_of_getElem? (i := 58) rfl))) (by decide) (backOf (W := 0) (rm5_0 l Z a0 hw [] b54 (0 : Int32) p3 p4 _ T135.heap n0 Z135 Vf136 rfl ) hZ (hw _ (List.mem_of_getElem? (i := 58) rfl)) (hw _ (List.mem_of_getElem? (i := 57) rfl)) (by decide) (by decide)) (g := (mkF m 239 #[.val (.int p1), .val (.int p2), .val (.int p3), .val (.int p4), .val (.int p5), .val (.int (1 : Int32)), .val (.int (0 : Int32)), .val (.ref b54), .val (.ref b58), .val (.ref b67), .val (.ref r114), .val (.ref r135)] [(.int p4), (.int p3), (.int (0 : Int32)), (.ref b54)])) rfl (by rw [hml]; rfl) (argsL := [(.ref b54), (.int (0 : Int32)), (.int p3), (.int p4)]) (rest := []) (lenOf pd_5 rfl) rfl (by show 2 * 0 + _ ≤ _; exact Nat.le_of_eq rfl) (hb hby at_239) (fun _ _ => ⟨rfl, Qe145, (by decide : 9 + 0 ≤ _), (by decide : 74 + 0 ≤ _)⟩)
    dsimp only [Pt.U, Pt.locs, Pt.cells, Pt.slots] at X148 l148 y148 z148 st148 hQ148
    subst l148 y148 z148
    obtain ⟨rfl, N148q, Qe148⟩ := hQ148
    have N148 := Fr.app N145 N148q
    have ac149 : ∀ t, Steps p.tables e below (T148.setTop (mkF m 242 #[.val (.int p1), .val (.int p2), .val (.int p3), .val (.int p4), .val (.int p5), .val (.int (1 : Int32)), .val (.int (0 : Int32)), .val (.ref b54), .val (.ref b58), .val (.ref b67), .val (.ref r114), .val (.ref r135)] [(.int (1 : Int32))])) t → Steps p.tables e below (s₁.setTop (entryFrame m #[(.int p1), (.int p2), (.int p3), (.int p4), (.int p5)] maxLocals)) t := fun t k => ac147 t (st148 t k)
    have ac150 : ∀ t, Steps p.tables e below (T148.setTop (mkF m 250 #[.val (.int p1), .val (.int p2), .val (.int p3), .val (.int p4), .val (.int p5), .val (.int (1 : Int32)), .val (.int (0 : Int32)), .val (.ref b54), .val (.ref b58), .val (.ref b67), .val (.ref r114), .val (.ref r135)] [(.int (1 : Int32))])) t → Steps p.tables e below (s₁.setTop (entryFrame m #[(.int p1), (.int p2), (.int p3), (.int p4), (.int p5)] maxLocals)) t := fun t k => ac149 t (by
        show Steps p.tables e below (T148.setTop (mkF m 242 #[.val (.int p1), .val (.int p2), .val (.int p3), .val (.int p4), .val (.int p5), .val (.int (1 : Int32)), .val (.int (0 : Int32)), .val (.ref b54), .val (.ref b58), .val (.ref b67), .val (.ref r114), .val (.ref r135)] [(.int (1 : Int32))])) _
        refine XS.ifNo X148.here hx rfl (hb hby at_242) rfl ((if0 _ _).trans (feq (by decide)).1) ?_
        show Steps p.tables e below (T148.setTop (mkF m 245 #[.val (.int p1), .val (.int p2), .val (.int p3), .val (.int p4), .val (.int p5), .val (.int (1 : Int32)), .val (.int (0 : Int32)), .val (.ref b54), .val (.ref b58), .val (.ref b67), .val (.ref r114), .val (.ref r135)] [])) _
        refine XS.iconst X148.here hx rfl (hb hby at_245) ?_
        show Steps p.tables e below (T148.setTop (mkF m 246 #[.val (.int p1), .val (.int p2), .val (.int p3), .val (.int p4), .val (.int p5), .val (.int (1 : Int32)), .val (.int (0 : Int32)), .val (.ref b54), .val (.ref b58), .val (.ref b67), .val (.ref r114), .val (.ref r135)] [(.int (1 : Int32))])) _
        refine XS.goto X148.here hx rfl (pc0 := 246) (pc' := 250) rfl (hb hby at_246) (by decide) (by decide) ?_
        exact k)
    obtain ⟨fs, hr, hrun, hended, hEW⟩ := X148.leaveW hS89 (by rw [Qe148]; exact kb142) (v := some (.int (1 : Int32))) (fun h => by rw [Bd.returns] at h; cases h) (BodyLoose.notSynchronized Bd)
    refine ⟨_, _, ac150 _ ?_, hrun, hended, _, _, rfl, ?_, hEW.1, hEW.2.1, hEW.2.2.1, hEW.2.2.2.mono (by decide) (by decide)⟩
    · show Steps p.tables e below (T148.setTop (mkF m 250 #[.val (.int p1), .val (.int p2), .val (.int p3), .val (.int p4), .val (.int p5), .val (.int (1 : Int32)), .val (.int (0 : Int32)), .val (.ref b54), .val (.ref b58), .val (.ref b67), .val (.ref r114), .val (.ref r135)] [(.int (1 : Int32))])) _
      exact retN X148 hx (t := .boolean) Bd.returns (by simp) (hb hby at_250) hr
    · show Q0 Z p1 p2 p3 p4 p5 h0 n0 _ T148.heap _
      rw [Qe148]
      exact ⟨rfl, N148⟩
  ·
    rw [hm] at ac1
    have ac151 : ∀ t, Steps p.tables e below (s₁.setTop (mkF m 52 #[.val (.int p1), .val (.int p2), .val (.int p3), .val (.int p4), .val (.int p5), .val (.int (2 : Int32)), .val (.int (2 : Int32)), .val .null, .unset, .unset, .unset, .unset] [(.int (2 : Int32))])) t → Steps p.tables e below (s₁.setTop (entryFrame m #[(.int p1), (.int p2), (.int p3), (.int p4), (.int p5)] maxLocals)) t := fun t k => ac1 t (by
        show Steps p.tables e below (s₁.setTop (mkF m 5 #[.val (.int p1), .val (.int p2), .val (.int p3), .val (.int p4), .val (.int p5), .val (.int (2 : Int32)), .unset, .unset, .unset, .unset, .unset, .unset] [])) _
        refine XS.iload X0.here hx rfl (hb hby at_5) rfl ?_
        show Steps p.tables e below (s₁.setTop (mkF m 7 #[.val (.int p1), .val (.int p2), .val (.int p3), .val (.int p4), .val (.int p5), .val (.int (2 : Int32)), .unset, .unset, .unset, .unset, .unset, .unset] [(.int (2 : Int32))])) _
        refine XS.iconst X0.here hx rfl (hb hby at_7) ?_
        show Steps p.tables e below (s₁.setTop (mkF m 8 #[.val (.int p1), .val (.int p2), .val (.int p3), .val (.int p4), .val (.int p5), .val (.int (2 : Int32)), .unset, .unset, .unset, .unset, .unset, .unset] [(.int (3 : Int32)), (.int (2 : Int32))])) _
        refine XS.icmpYes X0.here hx rfl (pc0 := 8) (pc' := 15) rfl (hb hby at_8) rfl (feq (by decide)).2 (by decide) (by decide) ?_
        show Steps p.tables e below (s₁.setTop (mkF m 15 #[.val (.int p1), .val (.int p2), .val (.int p3), .val (.int p4), .val (.int p5), .val (.int (2 : Int32)), .unset, .unset, .unset, .unset, .unset, .unset] [])) _
        refine XS.iload X0.here hx rfl (hb hby at_15) rfl ?_
        show Steps p.tables e below (s₁.setTop (mkF m 17 #[.val (.int p1), .val (.int p2), .val (.int p3), .val (.int p4), .val (.int p5), .val (.int (2 : Int32)), .unset, .unset, .unset, .unset, .unset, .unset] [(.int (2 : Int32))])) _
        refine XS.iconst X0.here hx rfl (hb hby at_17) ?_
        show Steps p.tables e below (s₁.setTop (mkF m 18 #[.val (.int p1), .val (.int p2), .val (.int p3), .val (.int p4), .val (.int p5), .val (.int (2 : Int32)), .unset, .unset, .unset, .unset, .unset, .unset] [(.int (2 : Int32)), (.int (2 : Int32))])) _
        refine XS.icmpNo X0.here hx rfl (hb hby at_18) rfl (teq (by decide)).2 ?_
        show Steps p.tables e below (s₁.setTop (mkF m 21 #[.val (.int p1), .val (.int p2), .val (.int p3), .val (.int p4), .val (.int p5), .val (.int (2 : Int32)), .unset, .unset, .unset, .unset, .unset, .unset] [])) _
        refine XS.iconst X0.here hx rfl (hb hby at_21) ?_
        show Steps p.tables e below (s₁.setTop (mkF m 22 #[.val (.int p1), .val (.int p2), .val (.int p3), .val (.int p4), .val (.int p5), .val (.int (2 : Int32)), .unset, .unset, .unset, .unset, .unset, .unset] [(.int (2 : Int32))])) _
        refine XS.goto X0.here hx rfl (pc0 := 22) (pc' := 26) rfl (hb hby at_22) (by decide) (by decide) ?_
        show Steps p.tables e below (s₁.setTop (mkF m 26 #[.val (.int p1), .val (.int p2), .val (.int p3), .val (.int p4), .val (.int p5), .val (.int (2 : Int32)), .unset, .unset, .unset, .unset, .unset, .unset] [(.int (2 : Int32))])) _
        refine XS.istore X0.here hx rfl (hb hby at_26) rfl (l' := #[.val (.int p1), .val (.int p2), .val (.int p3), .val (.int p4), .val (.int p5), .val (.int (2 : Int32)), .val (.int (2 : Int32)), .unset, .unset, .unset, .unset, .unset]) rfl ?_
        show Steps p.tables e below (s₁.setTop (mkF m 28 #[.val (.int p1), .val (.int p2), .val (.int p3), .val (.int p4), .val (.int p5), .val (.int (2 : Int32)), .val (.int (2 : Int32)), .unset, .unset, .unset, .unset, .unset] [])) _
        refine XS.aconstNull X0.here hx rfl (hb hby at_28) ?_
        show Steps p.tables e below (s₁.setTop (mkF m 29 #[.val (.int p1), .val (.int p2), .val (.int p3), .val (.int p4), .val (.int p5), .val (.int (2 : Int32)), .val (.int (2 : Int32)), .unset, .unset, .unset, .unset, .unset] [.null])) _
        refine XS.astore X0.here hx rfl (hb hby at_29) rfl rfl (l' := #[.val (.int p1), .val (.int p2), .val (.int p3), .val (.int p4), .val (.int p5), .val (.int (2 : Int32)), .val (.int (2 : Int32)), .val .null, .unset, .unset, .unset, .unset]) rfl ?_
        show Steps p.tables e below (s₁.setTop (mkF m 31 #[.val (.int p1), .val (.int p2), .val (.int p3), .val (.int p4), .val (.int p5), .val (.int (2 : Int32)), .val (.int (2 : Int32)), .val .null, .unset, .unset, .unset, .unset] [])) _
        refine XS.iload X0.here hx rfl (hb hby at_31) rfl ?_
        show Steps p.tables e below (s₁.setTop (mkF m 33 #[.val (.int p1), .val (.int p2), .val (.int p3), .val (.int p4), .val (.int p5), .val (.int (2 : Int32)), .val (.int (2 : Int32)), .val .null, .unset, .unset, .unset, .unset] [(.int (2 : Int32))])) _
        refine XS.iconst X0.here hx rfl (hb hby at_33) ?_
        show Steps p.tables e below (s₁.setTop (mkF m 34 #[.val (.int p1), .val (.int p2), .val (.int p3), .val (.int p4), .val (.int p5), .val (.int (2 : Int32)), .val (.int (2 : Int32)), .val .null, .unset, .unset, .unset, .unset] [(.int (1 : Int32)), (.int (2 : Int32))])) _
        refine XS.icmpYes X0.here hx rfl (pc0 := 34) (pc' := 45) rfl (hb hby at_34) rfl (feq (by decide)).2 (by decide) (by decide) ?_
        show Steps p.tables e below (s₁.setTop (mkF m 45 #[.val (.int p1), .val (.int p2), .val (.int p3), .val (.int p4), .val (.int p5), .val (.int (2 : Int32)), .val (.int (2 : Int32)), .val .null, .unset, .unset, .unset, .unset] [])) _
        refine XS.iload X0.here hx rfl (hb hby at_45) rfl ?_
        show Steps p.tables e below (s₁.setTop (mkF m 47 #[.val (.int p1), .val (.int p2), .val (.int p3), .val (.int p4), .val (.int p5), .val (.int (2 : Int32)), .val (.int (2 : Int32)), .val .null, .unset, .unset, .unset, .unset] [(.int (2 : Int32))])) _
        refine XS.iconst X0.here hx rfl (hb hby at_47) ?_
        show Steps p.tables e below (s₁.setTop (mkF m 48 #[.val (.int p1), .val (.int p2), .val (.int p3), .val (.int p4), .val (.int p5), .val (.int (2 : Int32)), .val (.int (2 : Int32)), .val .null, .unset, .unset, .unset, .unset] [(.int (2 : Int32)), (.int (2 : Int32))])) _
        refine XS.icmpNo X0.here hx rfl (hb hby at_48) rfl (teq (by decide)).2 ?_
        show Steps p.tables e below (s₁.setTop (mkF m 51 #[.val (.int p1), .val (.int p2), .val (.int p3), .val (.int p4), .val (.int p5), .val (.int (2 : Int32)), .val (.int (2 : Int32)), .val .null, .unset, .unset, .unset, .unset] [])) _
        refine XS.iconst X0.here hx rfl (hb hby at_51) ?_
        exact k)
    obtain ⟨T152, h152, k152, X152, e152, E152, A152, Ea152, st152⟩ := newPE X0 hx hZ (hw _ (List.mem_of_getElem? (i := 0) rfl)) e0 (g := (mkF m 52 #[.val (.int p1), .val (.int p2), .val (.int p3), .val (.int p4), .val (.int p5), .val (.int (2 : Int32)), .val (.int (2 : Int32)), .val .null, .unset, .unset, .unset, .unset] [(.int (2 : Int32))])) rfl (hb hby at_52) rfl (by decide) (cap := 2) (by decide) (by decide) (by decide) (by decide) (ad := "[B") (by decide)
    obtain ⟨b152, g152⟩ : ∃ z, z = h0.size := ⟨_, rfl⟩
    rw [← g152] at A152 st152 Ea152
    have g_b152 : n0 ≤ b152 := Nat.le_trans Z0 (Nat.le_of_eq g152.symm)
    have Z152 : n0 ≤ h152.size := Nat.le_trans Z0 E152.1
    have V152 : own_Ar Z h152 b152 .byte 2 (fun _ => (.int (0 : Int32))) := own_Ar.new A152 rfl
    have ac153 : ∀ t, Steps p.tables e below (T152.setTop (mkF m 54 #[.val (.int p1), .val (.int p2), .val (.int p3), .val (.int p4), .val (.int p5), .val (.int (2 : Int32)), .val (.int (2 : Int32)), .val .null, .unset, .unset, .unset, .unset] [(.ref b152)])) t → Steps p.tables e below (s₁.setTop (entryFrame m #[(.int p1), (.int p2), (.int p3), (.int p4), (.int p5)] maxLocals)) t := fun t k => ac151 t (st152 t k)
    have ac154 : ∀ t, Steps p.tables e below (T152.setTop (mkF m 81 #[.val (.int p1), .val (.int p2), .val (.int p3), .val (.int p4), .val (.int p5), .val (.int (2 : Int32)), .val (.int (2 : Int32)), .val (.ref b152), .unset, .unset, .unset, .unset] [(.int (p3.toInt8.toInt32)), (.int (0 : Int32)), (.ref b152)])) t → Steps p.tables e below (s₁.setTop (entryFrame m #[(.int p1), (.int p2), (.int p3), (.int p4), (.int p5)] maxLocals)) t := fun t k => ac153 t (by
        show Steps p.tables e below (T152.setTop (mkF m 54 #[.val (.int p1), .val (.int p2), .val (.int p3), .val (.int p4), .val (.int p5), .val (.int (2 : Int32)), .val (.int (2 : Int32)), .val .null, .unset, .unset, .unset, .unset] [(.ref b152)])) _
        refine XS.astore X152.here hx rfl (hb hby at_54) rfl rfl (l' := #[.val (.int p1), .val (.int p2), .val (.int p3), .val (.int p4), .val (.int p5), .val (.int (2 : Int32)), .val (.int (2 : Int32)), .val (.ref b152), .unset, .unset, .unset, .unset]) rfl ?_
        show Steps p.tables e below (T152.setTop (mkF m 56 #[.val (.int p1), .val (.int p2), .val (.int p3), .val (.int p4), .val (.int p5), .val (.int (2 : Int32)), .val (.int (2 : Int32)), .val (.ref b152), .unset, .unset, .unset, .unset] [])) _
        refine XS.goto X152.here hx rfl (pc0 := 56) (pc' := 70) rfl (hb hby at_56) (by decide) (by decide) ?_
        show Steps p.tables e below (T152.setTop (mkF m 70 #[.val (.int p1), .val (.int p2), .val (.int p3), .val (.int p4), .val (.int p5), .val (.int (2 : Int32)), .val (.int (2 : Int32)), .val (.ref b152), .unset, .unset, .unset, .unset] [])) _
        refine XS.iload X152.here hx rfl (hb hby at_70) rfl ?_
        show Steps p.tables e below (T152.setTop (mkF m 72 #[.val (.int p1), .val (.int p2), .val (.int p3), .val (.int p4), .val (.int p5), .val (.int (2 : Int32)), .val (.int (2 : Int32)), .val (.ref b152), .unset, .unset, .unset, .unset] [(.int (2 : Int32))])) _
        refine XS.iconst X152.here hx rfl (hb hby at_72) ?_
        show Steps p.tables e below (T152.setTop (mkF m 73 #[.val (.int p1), .val (.int p2), .val (.int p3), .val (.int p4), .val (.int p5), .val (.int (2 : Int32)), .val (.int (2 : Int32)), .val (.ref b152), .unset, .unset, .unset, .unset] [(.int (2 : Int32)), (.int (2 : Int32))])) _
        refine XS.icmpNo X152.here hx rfl (hb hby at_73) rfl (flt (by decide)).1 ?_
        show Steps p.tables e below (T152.setTop (mkF m 76 #[.val (.int p1), .val (.int p2), .val (.int p3), .val (.int p4), .val (.int p5), .val (.int (2 : Int32)), .val (.int (2 : Int32)), .val (.ref b152), .unset, .unset, .unset, .unset] [])) _
        refine XS.aload X152.here hx rfl (hb hby at_76) rfl rfl ?_
        show Steps p.tables e below (T152.setTop (mkF m 78 #[.val (.int p1), .val (.int p2), .val (.int p3), .val (.int p4), .val (.int p5), .val (.int (2 : Int32)), .val (.int (2 : Int32)), .val (.ref b152), .unset, .unset, .unset, .unset] [(.ref b152)])) _
        refine XS.iconst X152.here hx rfl (hb hby at_78) ?_
        show Steps p.tables e below (T152.setTop (mkF m 79 #[.val (.int p1), .val (.int p2), .val (.int p3), .val (.int p4), .val (.int p5), .val (.int (2 : Int32)), .val (.int (2 : Int32)), .val (.ref b152), .unset, .unset, .unset, .unset] [(.int (0 : Int32)), (.ref b152)])) _
        refine XS.iloadN X152.here hx rfl (hb hby at_79) rfl ?_
        show Steps p.tables e below (T152.setTop (mkF m 80 #[.val (.int p1), .val (.int p2), .val (.int p3), .val (.int p4), .val (.int p5), .val (.int (2 : Int32)), .val (.int (2 : Int32)), .val (.ref b152), .unset, .unset, .unset, .unset] [(.int p3), (.int (0 : Int32)), (.ref b152)])) _
        refine XS.i2b X152.here hx rfl (hb hby at_80) rfl ?_
        exact k)
    obtain ⟨cl155, Ac155, hin155, -⟩ := V152.at (j := (0 : Int32)) (i := 0) rfl (by decide)
    obtain ⟨T155, h155, X155, e155, W155, st155⟩ := stB X152 hx hZ e152 Ac155 (j := (0 : Int32)) hin155 (g := (mkF m 81 #[.val (.int p1), .val (.int p2), .val (.int p3), .val (.int p4), .val (.int p5), .val (.int (2 : Int32)), .val (.int (2 : Int32)), .val (.ref b152), .unset, .unset, .unset, .unset] [(.int (p3.toInt8.toInt32)), (.int (0 : Int32)), (.ref b152)])) rfl rfl (hb hby at_81)
    have V155 := V152.set (i := 0) rfl W155 (fits_nar_byte _)
    have Ef156 := Ea152.wr W155
    have N155 := Fr.snoc X155 N0 g_b152
    have Z155 : n0 ≤ h155.size := Nat.le_trans Z152 (Keep.of_wr W155).1
    have ac157 : ∀ t, Steps p.tables e below (T155.setTop (mkF m 82 #[.val (.int p1), .val (.int p2), .val (.int p3), .val (.int p4), .val (.int p5), .val (.int (2 : Int32)), .val (.int (2 : Int32)), .val (.ref b152), .unset, .unset, .unset, .unset] [])) t → Steps p.tables e below (s₁.setTop (entryFrame m #[(.int p1), (.int p2), (.int p3), (.int p4), (.int p5)] maxLocals)) t := fun t k => ac154 t (st155 t k)
    have ac158 : ∀ t, Steps p.tables e below (T155.setTop (mkF m 90 #[.val (.int p1), .val (.int p2), .val (.int p3), .val (.int p4), .val (.int p5), .val (.int (2 : Int32)), .val (.int (2 : Int32)), .val (.ref b152), .unset, .unset, .unset, .unset] [(.int ((p3 >>> ((8 : Int32) &&& 31)).toInt8.toInt32)), (.int (1 : Int32)), (.ref b152)])) t → Steps p.tables e below (s₁.setTop (entryFrame m #[(.int p1), (.int p2), (.int p3), (.int p4), (.int p5)] maxLocals)) t := fun t k => ac157 t (by
        show Steps p.tables e below (T155.setTop (mkF m 82 #[.val (.int p1), .val (.int p2), .val (.int p3), .val (.int p4), .val (.int p5), .val (.int (2 : Int32)), .val (.int (2 : Int32)), .val (.ref b152), .unset, .unset, .unset, .unset] [])) _
        refine XS.aload X155.here hx rfl (hb hby at_82) rfl rfl ?_
        show Steps p.tables e below (T155.setTop (mkF m 84 #[.val (.int p1), .val (.int p2), .val (.int p3), .val (.int p4), .val (.int p5), .val (.int (2 : Int32)), .val (.int (2 : Int32)), .val (.ref b152), .unset, .unset, .unset, .unset] [(.ref b152)])) _
        refine XS.iconst X155.here hx rfl (hb hby at_84) ?_
        show Steps p.tables e below (T155.setTop (mkF m 85 #[.val (.int p1), .val (.int p2), .val (.int p3), .val (.int p4), .val (.int p5), .val (.int (2 : Int32)), .val (.int (2 : Int32)), .val (.ref b152), .unset, .unset, .unset, .unset] [(.int (1 : Int32)), (.ref b152)])) _
        refine XS.iloadN X155.here hx rfl (hb hby at_85) rfl ?_
        show Steps p.tables e below (T155.setTop (mkF m 86 #[.val (.int p1), .val (.int p2), .val (.int p3), .val (.int p4), .val (.int p5), .val (.int (2 : Int32)), .val (.int (2 : Int32)), .val (.ref b152), .unset, .unset, .unset, .unset] [(.int p3), (.int (1 : Int32)), (.ref b152)])) _
        refine XS.bipush X155.here hx rfl (hb hby at_86) ?_
        show Steps p.tables e below (T155.setTop (mkF m 88 #[.val (.int p1), .val (.int p2), .val (.int p3), .val (.int p4), .val (.int p5), .val (.int (2 : Int32)), .val (.int (2 : Int32)), .val (.ref b152), .unset, .unset, .unset, .unset] [(.int (8 : Int32)), (.int p3), (.int (1 : Int32)), (.ref b152)])) _
        refine XS.ishr X155.here hx rfl (hb hby at_88) rfl ?_
        show Steps p.tables e below (T155.setTop (mkF m 89 #[.val (.int p1), .val (.int p2), .val (.int p3), .val (.int p4), .val (.int p5), .val (.int (2 : Int32)), .val (.int (2 : Int32)), .val (.ref b152), .unset, .unset, .unset, .unset] [(.int (p3 >>> ((8 : Int32) &&& 31))), (.int (1 : Int32)), (.ref b152)])) _
        refine XS.i2b X155.here hx rfl (hb hby at_89) rfl ?_
        exact k)
    obtain ⟨cl159, Ac159, hin159, -⟩ := V155.at (j := (1 : Int32)) (i := 1) rfl (by decide)
    obtain ⟨T159, h159, X159, e159, W159, st159⟩ := stB X155 hx hZ e155 Ac159 (j := (1 : Int32)) hin159 (g := (mkF m 90 #[.val (.int p1), .val (.int p2), .val (.int p3), .val (.int p4), .val (.int p5), .val (.int (2 : Int32)), .val (.int (2 : Int32)), .val (.ref b152), .unset, .unset, .unset, .unset] [(.int ((p3 >>> ((8 : Int32) &&& 31)).toInt8.toInt32)), (.int (1 : Int32)), (.ref b152)])) rfl rfl (hb hby at_90)
    have V159 := V155.set (i := 1) rfl W159 (fits_nar_byte _)
    have Ef160 := Ef156.wr W159
    have N159 := Fr.snoc X159 N155 g_b152
    have Z159 : n0 ≤ h159.size := Nat.le_trans Z155 (Keep.of_wr W159).1
    have ac161 : ∀ t, Steps p.tables e below (T159.setTop (mkF m 91 #[.val (.int p1), .val (.int p2), .val (.int p3), .val (.int p4), .val (.int p5), .val (.int (2 : Int32)), .val (.int (2 : Int32)), .val (.ref b152), .unset, .unset, .unset, .unset] [])) t → Steps p.tables e below (s₁.setTop (entryFrame m #[(.int p1), (.int p2), (.int p3), (.int p4), (.int p5)] maxLocals)) t := fun t k => ac158 t (st159 t k)
    have V162 : own_Ar Z h159 b152 .byte 2 (fun k => if k = 0 then .int (p3.toInt8.toInt32) else if k = 1 then .int ((p3 >>> ((8 : Int32) &&& 31)).toInt8.toInt32) else .int 0) := V159.eq (fun k hk => match k, hk with | 0, _ => congrArg Value.int (own_b2 _) | 1, _ => congrArg Value.int (own_b2 _))
    have ac163 : ∀ t, Steps p.tables e below (T159.setTop (mkF m 114 #[.val (.int p1), .val (.int p2), .val (.int p3), .val (.int p4), .val (.int p5), .val (.int (2 : Int32)), .val (.int (2 : Int32)), .val (.ref b152), .unset, .unset, .unset, .unset] [(.int (20 : Int32))])) t → Steps p.tables e below (s₁.setTop (entryFrame m #[(.int p1), (.int p2), (.int p3), (.int p4), (.int p5)] maxLocals)) t := fun t k => ac161 t (by
        show Steps p.tables e below (T159.setTop (mkF m 91 #[.val (.int p1), .val (.int p2), .val (.int p3), .val (.int p4), .val (.int p5), .val (.int (2 : Int32)), .val (.int (2 : Int32)), .val (.ref b152), .unset, .unset, .unset, .unset] [])) _
        refine XS.iload X159.here hx rfl (hb hby at_91) rfl ?_
        show Steps p.tables e below (T159.setTop (mkF m 93 #[.val (.int p1), .val (.int p2), .val (.int p3), .val (.int p4), .val (.int p5), .val (.int (2 : Int32)), .val (.int (2 : Int32)), .val (.ref b152), .unset, .unset, .unset, .unset] [(.int (2 : Int32))])) _
        refine XS.iconst X159.here hx rfl (hb hby at_93) ?_
        show Steps p.tables e below (T159.setTop (mkF m 94 #[.val (.int p1), .val (.int p2), .val (.int p3), .val (.int p4), .val (.int p5), .val (.int (2 : Int32)), .val (.int (2 : Int32)), .val (.ref b152), .unset, .unset, .unset, .unset] [(.int (4 : Int32)), (.int (2 : Int32))])) _
        refine XS.icmpYes X159.here hx rfl (pc0 := 94) (pc' := 112) rfl (hb hby at_94) rfl (tlt (by decide)).1 (by decide) (by decide) ?_
        show Steps p.tables e below (T159.setTop (mkF m 112 #[.val (.int p1), .val (.int p2), .val (.int p3), .val (.int p4), .val (.int p5), .val (.int (2 : Int32)), .val (.int (2 : Int32)), .val (.ref b152), .unset, .unset, .unset, .unset] [])) _
        refine XS.bipush X159.here hx rfl (hb hby at_112) ?_
        exact k)
    obtain ⟨T164, h164, k164, X164, e164, E164, A164, st164⟩ := newP X159 hx hZ (hw _ (List.mem_of_getElem? (i := 0) rfl)) e159 (g := (mkF m 114 #[.val (.int p1), .val (.int p2), .val (.int p3), .val (.int p4), .val (.int p5), .val (.int (2 : Int32)), .val (.int (2 : Int32)), .val (.ref b152), .unset, .unset, .unset, .unset] [(.int (20 : Int32))])) rfl (hb hby at_114) rfl (by decide) (cap := 20) (by decide) (by decide) (by decide) (by decide)
    obtain ⟨b164, g164⟩ : ∃ z, z = h159.size := ⟨_, rfl⟩
    rw [← g164] at A164 st164
    have g_b164 : n0 ≤ b164 := Nat.le_trans Z159 (Nat.le_of_eq g164.symm)
    have ne_b152_b164 : b152 ≠ b164 := Nat.ne_of_lt (Nat.lt_of_lt_of_le Ef160.lt (Nat.le_of_eq g164.symm))
    have Ef165 := Ef160.ext E164
    have Vf166 := V162.ext E164
    have Z164 : n0 ≤ h164.size := Nat.le_trans Z159 E164.1
    have V164 : own_Ar Z h164 b164 .byte 20 (fun _ => (.int (0 : Int32))) := own_Ar.new A164 rfl
    have ac167 : ∀ t, Steps p.tables e below (T164.setTop (mkF m 116 #[.val (.int p1), .val (.int p2), .val (.int p3), .val (.int p4), .val (.int p5), .val (.int (2 : Int32)), .val (.int (2 : Int32)), .val (.ref b152), .unset, .unset, .unset, .unset] [(.ref b164)])) t → Steps p.tables e below (s₁.setTop (entryFrame m #[(.int p1), (.int p2), (.int p3), (.int p4), (.int p5)] maxLocals)) t := fun t k => ac163 t (st164 t k)
    have ac168 : ∀ t, Steps p.tables e below (T164.setTop (mkF m 124 #[.val (.int p1), .val (.int p2), .val (.int p3), .val (.int p4), .val (.int p5), .val (.int (2 : Int32)), .val (.int (2 : Int32)), .val (.ref b152), .val (.ref b164), .unset, .unset, .unset] [(.int (p5.toInt8.toInt32)), (.int (0 : Int32)), (.ref b164)])) t → Steps p.tables e below (s₁.setTop (entryFrame m #[(.int p1), (.int p2), (.int p3), (.int p4), (.int p5)] maxLocals)) t := fun t k => ac167 t (by
        show Steps p.tables e below (T164.setTop (mkF m 116 #[.val (.int p1), .val (.int p2), .val (.int p3), .val (.int p4), .val (.int p5), .val (.int (2 : Int32)), .val (.int (2 : Int32)), .val (.ref b152), .unset, .unset, .unset, .unset] [(.ref b164)])) _
        refine XS.astore X164.here hx rfl (hb hby at_116) rfl rfl (l' := #[.val (.int p1), .val (.int p2), .val (.int p3), .val (.int p4), .val (.int p5), .val (.int (2 : Int32)), .val (.int (2 : Int32)), .val (.ref b152), .val (.ref b164), .unset, .unset, .unset]) rfl ?_
        show Steps p.tables e below (T164.setTop (mkF m 118 #[.val (.int p1), .val (.int p2), .val (.int p3), .val (.int p4), .val (.int p5), .val (.int (2 : Int32)), .val (.int (2 : Int32)), .val (.ref b152), .val (.ref b164), .unset, .unset, .unset] [])) _
        refine XS.aload X164.here hx rfl (hb hby at_118) rfl rfl ?_
        show Steps p.tables e below (T164.setTop (mkF m 120 #[.val (.int p1), .val (.int p2), .val (.int p3), .val (.int p4), .val (.int p5), .val (.int (2 : Int32)), .val (.int (2 : Int32)), .val (.ref b152), .val (.ref b164), .unset, .unset, .unset] [(.ref b164)])) _
        refine XS.iconst X164.here hx rfl (hb hby at_120) ?_
        show Steps p.tables e below (T164.setTop (mkF m 121 #[.val (.int p1), .val (.int p2), .val (.int p3), .val (.int p4), .val (.int p5), .val (.int (2 : Int32)), .val (.int (2 : Int32)), .val (.ref b152), .val (.ref b164), .unset, .unset, .unset] [(.int (0 : Int32)), (.ref b164)])) _
        refine XS.iload X164.here hx rfl (hb hby at_121) rfl ?_
        show Steps p.tables e below (T164.setTop (mkF m 123 #[.val (.int p1), .val (.int p2), .val (.int p3), .val (.int p4), .val (.int p5), .val (.int (2 : Int32)), .val (.int (2 : Int32)), .val (.ref b152), .val (.ref b164), .unset, .unset, .unset] [(.int p5), (.int (0 : Int32)), (.ref b164)])) _
        refine XS.i2b X164.here hx rfl (hb hby at_123) rfl ?_
        exact k)
    obtain ⟨cl169, Ac169, hin169, -⟩ := V164.at (j := (0 : Int32)) (i := 0) rfl (by decide)
    obtain ⟨T169, h169, X169, e169, W169, st169⟩ := stB X164 hx hZ e164 Ac169 (j := (0 : Int32)) hin169 (g := (mkF m 124 #[.val (.int p1), .val (.int p2), .val (.int p3), .val (.int p4), .val (.int p5), .val (.int (2 : Int32)), .val (.int (2 : Int32)), .val (.ref b152), .val (.ref b164), .unset, .unset, .unset] [(.int (p5.toInt8.toInt32)), (.int (0 : Int32)), (.ref b164)])) rfl rfl (hb hby at_124)
    have V169 := V164.set (i := 0) rfl W169 (fits_nar_byte _)
    have Ef170 := Ef165.wr W169
    have Vf171 := Vf166.other W169 ne_b152_b164
    have N169 := Fr.snoc X169 N159 g_b164
    have Z169 : n0 ≤ h169.size := Nat.le_trans Z164 (Keep.of_wr W169).1
    have ac172 : ∀ t, Steps p.tables e below (T169.setTop (mkF m 125 #[.val (.int p1), .val (.int p2), .val (.int p3), .val (.int p4), .val (.int p5), .val (.int (2 : Int32)), .val (.int (2 : Int32)), .val (.ref b152), .val (.ref b164), .unset, .unset, .unset] [])) t → Steps p.tables e below (s₁.setTop (entryFrame m #[(.int p1), (.int p2), (.int p3), (.int p4), (.int p5)] maxLocals)) t := fun t k => ac168 t (st169 t k)
    obtain ⟨T173, h173, X173, e173, E173, A173, D173, -, st173⟩ := newO X169 hx hZ hown (hw _ (List.mem_of_getElem? (i := 1) rfl)) (hw _ (List.mem_of_getElem? (i := 2) rfl)) (hw _ (List.mem_of_getElem? (i := 3) rfl)) e169 (g := (mkF m 125 #[.val (.int p1), .val (.int p2), .val (.int p3), .val (.int p4), .val (.int p5), .val (.int (2 : Int32)), .val (.int (2 : Int32)), .val (.ref b152), .val (.ref b164), .unset, .unset, .unset] [])) rfl (hb hby at_125) (by decide) (by decide)
    obtain ⟨b173, g173⟩ : ∃ z, z = h169.size := ⟨_, rfl⟩
    rw [← g173] at A173 D173 st173
    have g_b173 : n0 ≤ b173 := Nat.le_trans Z169 (Nat.le_of_eq g173.symm)
    have ne_b152_b173 : b152 ≠ b173 := Nat.ne_of_lt (Nat.lt_of_lt_of_le Ef170.lt (Nat.le_of_eq g173.symm))
    have ne_b164_b173 : b164 ≠ b173 := Nat.ne_of_lt (Nat.lt_of_lt_of_le V169.lt (Nat.le_of_eq g173.symm))
    have Ef174 := Ef170.ext E173
    have Vf175 := Vf171.ext E173
    have Vf176 := V169.ext E173
    have Z173 : n0 ≤ h173.size := Nat.le_trans Z169 E173.1
    have F_mPcr_b173 : Fld Z h173 b173 "com/example/votal/votal/log/LogRecord" "mPcr" "I" (.int (0 : Int32)) := D173 (Or.inr (hw _ (List.mem_of_getElem? (i := 19) rfl))) (ty := .int) (by decide)
    have F_mTemplateDigest_b173 : Fld Z h173 b173 "com/example/votal/votal/log/LogRecord" "mTemplateDigest" "[B" .null := D173 (Or.inr (hw _ (List.mem_of_getElem? (i := 21) rfl))) (ty := (.array .byte)) (by decide)
    have F_mTemplateName_b173 : Fld Z h173 b173 "com/example/votal/votal/log/LogRecord" "mTemplateName" "Ljava/lang/String;" .null := D173 (Or.inr (hw _ (List.mem_of_getElem? (i := 23) rfl))) (ty := (.object "java/lang/String")) (by decide)
    have F_mTemplate_b173 : Fld Z h173 b173 "com/example/votal/votal/log/LogRecord" "mTemplate" "Lcom/example/votal/votal/log/Template;" .null := D173 (Or.inr (hw _ (List.mem_of_getElem? (i := 25) rfl))) (ty := (.object "com/example/votal/votal/log/Template")) (by decide)
    have F_mName_b173 : Fld Z h173 b173 "com/example/votal/votal/log/LogRecord" "mName" "Ljava/lang/String;" .null := D173 (Or.inr (hw _ (List.mem_of_getElem? (i := 27) rfl))) (ty := (.object "java/lang/String")) (by decide)
    have F_mDigestAlgorithm_b173 : Fld Z h173 b173 "com/example/votal/votal/log/LogRecord" "mDigestAlgorithm" "Lcom/example/votal/votal/log/DigestAlgorithm;" .null := D173 (Or.inr (hw _ (List.mem_of_getElem? (i := 29) rfl))) (ty := (.object "com/example/votal/votal/log/DigestAlgorithm")) (by decide)
    have F_mDigest_b173 : Fld Z h173 b173 "com/example/votal/votal/log/LogRecord" "mDigest" "[B" .null := D173 (Or.inr (hw _ (List.mem_of_getElem? (i := 31) rfl))) (ty := (.array .byte)) (by decide)
    have F_mEventDataOffset_b173 : Fld Z h173 b173 "com/example/votal/votal/log/LogRecord" "mEventDataOffset" "I" (.int (0 : Int32)) := D173 (Or.inr (hw _ (List.mem_of_getElem? (i := 33) rfl))) (ty := .int) (by decide)
    have F_mTemplateData_b173 : Fld Z h173 b173 "com/example/votal/votal/log/LogRecord" "mTemplateData" "[B" .null := D173 (Or.inr (hw _ (List.mem_of_getElem? (i := 35) rfl))) (ty := (.array .byte)) (by decide)
    have F_mViolation_b173 : Fld Z h173 b173 "com/example/votal/votal/log/LogRecord" "mViolation" "Z" (.int (0 : Int32)) := D173 (Or.inr (hw _ (List.mem_of_getElem? (i := 40) rfl))) (ty := .boolean) (by decide)
    have ac177 : ∀ t, Steps p.tables e below (T173.setTop (mkF m 128 #[.val (.int p1), .val (.int p2), .val (.int p3), .val (.int p4), .val (.int p5), .val (.int (2 : Int32)), .val (.int (2 : Int32)), .val (.ref b152), .val (.ref b164), .unset, .unset, .unset] [(.ref b173)])) t → Steps p.tables e below (s₁.setTop (entryFrame m #[(.int p1), (.int p2), (.int p3), (.int p4), (.int p5)] maxLocals)) t := fun t k => ac172 t (st173 t k)
    have ac178 : ∀ t, Steps p.tables e below (T173.setTop (mkF m 132 #[.val (.int p1), .val (.int p2), .val (.int p3), .val (.int p4), .val (.int p5), .val (.int (2 : Int32)), .val (.int (2 : Int32)), .val (.ref b152), .val (.ref b164), .unset, .unset, .unset] [(.ref b164), (.int p1), (.ref b173), (.ref b173)])) t → Steps p.tables e below (s₁.setTop (entryFrame m #[(.int p1), (.int p2), (.int p3), (.int p4), (.int p5)] maxLocals)) t := fun t k => ac177 t (by
        show Steps p.tables e below (T173.setTop (mkF m 128 #[.val (.int p1), .val (.int p2), .val (.int p3), .val (.int p4), .val (.int p5), .val (.int (2 : Int32)), .val (.int (2 : Int32)), .val (.ref b152), .val (.ref b164), .unset, .unset, .unset] [(.ref b173)])) _
        refine XS.dup X173.here hx rfl (hb hby at_128) rfl rfl ?_
        show Steps p.tables e below (T173.setTop (mkF m 129 #[.val (.int p1), .val (.int p2), .val (.int p3), .val (.int p4), .val (.int p5), .val (.int (2 : Int32)), .val (.int (2 : Int32)), .val (.ref b152), .val (.ref b164), .unset, .unset, .unset] [(.ref b173), (.ref b173)])) _
        refine XS.iloadN X173.here hx rfl (hb hby at_129) rfl ?_
        show Steps p.tables e below (T173.setTop (mkF m 130 #[.val (.int p1), .val (.int p2), .val (.int p3), .val (.int p4), .val (.int p5), .val (.int (2 : Int32)), .val (.int (2 : Int32)), .val (.ref b152), .val (.ref b164), .unset, .unset, .unset] [(.int p1), (.ref b173), (.ref b173)])) _
        refine XS.aload X173.here hx rfl (hb hby at_130) rfl rfl ?_
        exact k)
    have hS0 : s.Since s.vm 0 := State.WarmedH.since (State.WarmedH.refl s) 0
    obtain ⟨a179_, T179, h179, k179, X179, e179, E179, hS179, hk179, hZ, hown, st179⟩ := ldcS (s := s) (vm0 := s.vm) X173 hx hZ hown (hw _ (List.mem_of_getElem? (i := 4) rfl)) (own_sA hw) e173 hS0 (Nat.zero_le _) (g := (mkF m 132 #[.val (.int p1), .val (.int p2), .val (.int p3), .val (.int p4), .val (.int p5), .val (.int (2 : Int32)), .val (.int (2 : Int32)), .val (.ref b152), .val (.ref b164), .unset, .unset, .unset] [(.ref b164), (.int p1), (.ref b173), (.ref b173)])) rfl (hb hby at_132) (n := 12) (by decide) (by decide) (by decide) (by decide)
    have Ef180 := Ef174.ext E179
    have Vf181 := Vf175.ext E179
    have Vf182 := Vf176.ext E179
    have Ef183 := A173.ext E179
    have Ff184 := F_mPcr_b173.ext E179
    have Ff185 := F_mTemplateDigest_b173.ext E179
    have Ff186 := F_mTemplateName_b173.ext E179
    have Ff187 := F_mTemplate_b173.ext E179
    have Ff188 := F_mName_b173.ext E179
    have Ff189 := F_mDigestAlgorithm_b173.ext E179
    have Ff190 := F_mDigest_b173.ext E179
    have Ff191 := F_mEventDataOffset_b173.ext E179
    have Ff192 := F_mTemplateData_b173.ext E179
    have Ff193 := F_mViolation_b173.ext E179
    have Z179 : n0 ≤ h179.size := Nat.le_trans Z173 E179.1
    have ac194 : ∀ t, Steps p.tables e below (T179.setTop (mkF m 134 #[.val (.int p1), .val (.int p2), .val (.int p3), .val (.int p4), .val (.int p5), .val (.int (2 : Int32)), .val (.int (2 : Int32)), .val (.ref b152), .val (.ref b164), .unset, .unset, .unset] [(.ref a179_), (.ref b164), (.int p1), (.ref b173), (.ref b173)])) t → Steps p.tables e below (s₁.setTop (entryFrame m #[(.int p1), (.int p2), (.int p3), (.int p4), (.int p5)] maxLocals)) t := fun t k => ac178 t (st179 t k)
    obtain ⟨a195_, T195, h195, k195, X195, e195, E195, hS195, hk195, hZ, hown, st195⟩ := ldcS (s := s) (vm0 := T179.vm) X179 hx hZ hown (hw _ (List.mem_of_getElem? (i := 11) rfl)) (own_sA hw) e179 hS179 hk179 (g := (mkF m 134 #[.val (.int p1), .val (.int p2), .val (.int p3), .val (.int p4), .val (.int p5), .val (.int (2 : Int32)), .val (.int (2 : Int32)), .val (.ref b152), .val (.ref b164), .unset, .unset, .unset] [(.ref a179_), (.ref b164), (.int p1), (.ref b173), (.ref b173)])) rfl (hb hby at_134) (n := 16) (by decide) (by decide) (by decide) (by decide)
    have Ef196 := Ef180.ext E195
    have Vf197 := Vf181.ext E195
    have Vf198 := Vf182.ext E195
    have Ef199 := Ef183.ext E195
    have Ff200 := Ff184.ext E195
    have Ff201 := Ff185.ext E195
    have Ff202 := Ff186.ext E195
    have Ff203 := Ff187.ext E195
    have Ff204 := Ff188.ext E195
    have Ff205 := Ff189.ext E195
    have Ff206 := Ff190.ext E195
    have Ff207 := Ff191.ext E195
    have Ff208 := Ff192.ext E195
    have Ff209 := Ff193.ext E195
    have Z195 : n0 ≤ h195.size := Nat.le_trans Z179 E195.1
    have ac210 : ∀ t, Steps p.tables e below (T195.setTop (mkF m 136 #[.val (.int p1), .val (.int p2), .val (.int p3), .val (.int p4), .val (.int p5), .val (.int (2 : Int32)), .val (.int (2 : Int32)), .val (.ref b152), .val (.ref b164), .unset, .unset, .unset] [(.ref a195_), (.ref a179_), (.ref b164), (.int p1), (.ref b173), (.ref b173)])) t → Steps p.tables e below (s₁.setTop (entryFrame m #[(.int p1), (.int p2), (.int p3), (.int p4), (.int p5)] maxLocals)) t := fun t k => ac194 t (st195 t k)
    have ac211 : ∀ t, Steps p.tables e below (T195.setTop (mkF m 138 #[.val (.int p1), .val (.int p2), .val (.int p3), .val (.int p4), .val (.int p5), .val (.int (2 : Int32)), .val (.int (2 : Int32)), .val (.ref b152), .val (.ref b164), .unset, .unset, .unset] [(.ref b152), (.ref a195_), (.ref a179_), (.ref b164), (.int p1), (.ref b173), (.ref b173)])) t → Steps p.tables e below (s₁.setTop (entryFrame m #[(.int p1), (.int p2), (.int p3), (.int p4), (.int p5)] maxLocals)) t := fun t k => ac210 t (by
        show Steps p.tables e below (T195.setTop (mkF m 136 #[.val (.int p1), .val (.int p2), .val (.int p3), .val (.int p4), .val (.int p5), .val (.int (2 : Int32)), .val (.int (2 : Int32)), .val (.ref b152), .val (.ref b164), .unset, .unset, .unset] [(.ref a195_), (.ref a179_), (.ref b164), (.int p1), (.ref b173), (.ref b173)])) _
        refine XS.aload X195.here hx rfl (hb hby at_136) rfl rfl ?_
        exact k)
    obtain ⟨_, _, ⟨T212, L212, k212, n212⟩, -, X212, ⟨Lc212, hQ212, l212, y212, z212⟩, st212⟩ := X195.specialBack hx (y := (⟨"com/example/votal/votal/log/LogRecord", "<init>", "(I[BLjava/lang/String;Ljava/lang/String;[B)V"⟩ : MethodName)) rfl hown (mvT hZ (hw _ (List.mem_of_getElem? (i := 12) rfl))) (mvT hZ (hw _ (List.mem_of_getElem? (i := 13) rfl))) (mvT hZ (hw _ (List.mem_of_getElem? (i := 14) rfl))) (by decide) (backOf (W := 1) (rm1 l Z a0 hw [] b173 p1 b164 a179_ a195_ b152 20 _ h195 n0 Z195 Ef199 g_b173 Vf198 (own_td _) (by decide) ne_b164_b173 Ff200 Ff201 Ff202 Ff203 Ff204 Ff205 Ff206 Ff207 Ff208 Ff209) hZ (hw _ (List.mem_of_getElem? (i := 14) rfl)) (hw _ (List.mem_of_getElem? (i := 3) rfl)) (by decide) (by decide)) (g := (mkF m 138 #[.val (.int p1), .val (.int p2), .val (.int p3), .val (.int p4), .val (.int p5), .val (.int (2 : Int32)), .val (.int (2 : Int32)), .val (.ref b152), .val (.ref b164), .unset, .unset, .unset] [(.ref b152), (.ref a195_), (.ref a179_), (.ref b164), (.int p1), (.ref b173), (.ref b173)])) rfl (by rw [hml]; rfl) (Steps.refl _) (a := b173) (argsL := [(.int p1), (.ref b164), (.ref a179_), (.ref a195_), (.ref b152)]) (rest := [(.ref b173)]) (lenOf pd_0 rfl) rfl (by show 2 * 0 + _ ≤ _; exact Nat.le_of_eq rfl) (hb hby at_138) (fun _ _ => ⟨rfl, e195, (by decide : 7 + 0 ≤ _), (by decide : 68 + 0 ≤ _)⟩)
    dsimp only [Pt.U, Pt.locs, Pt.cells, Pt.slots] at X212 l212 y212 z212 st212 hQ212
    subst l212 y212 z212
    obtain ⟨rfl, N212q, K212q, Ex212, Fl212⟩ := hQ212
    have N212 := Fr.app N169 N212q
    have Ef213 := Ef196.keep K212q
    have Vf214 := Vf197.keep K212q (ninS ne_b152_b173 nin0)
    have Vf215 := Vf198.keep K212q (ninS ne_b164_b173 nin0)
    have Ef216 := Ef199.keep K212q
    have Z212 : n0 ≤ T212.heap.size := Nat.le_trans Z195 K212q.1
    have kb217 : k195 ≤ T212.heap.size := Nat.le_trans hk195 K212q.1
    have ac218 : ∀ t, Steps p.tables e below (T212.setTop (mkF m 141 #[.val (.int p1), .val (.int p2), .val (.int p3), .val (.int p4), .val (.int p5), .val (.int (2 : Int32)), .val (.int (2 : Int32)), .val (.ref b152), .val (.ref b164), .unset, .unset, .unset] [(.ref b173)])) t → Steps p.tables e below (s₁.setTop (entryFrame m #[(.int p1), (.int p2), (.int p3), (.int p4), (.int p5)] maxLocals)) t := fun t k => ac211 t (st212.trans k)
    have ac219 : ∀ t, Steps p.tables e below (T212.setTop (mkF m 145 #[.val (.int p1), .val (.int p2), .val (.int p3), .val (.int p4), .val (.int p5), .val (.int (2 : Int32)), .val (.int (2 : Int32)), .val (.ref b152), .val (.ref b164), .val (.ref b173), .unset, .unset] [(.ref b173)])) t → Steps p.tables e below (s₁.setTop (entryFrame m #[(.int p1), (.int p2), (.int p3), (.int p4), (.int p5)] maxLocals)) t := fun t k => ac218 t (by
        show Steps p.tables e below (T212.setTop (mkF m 141 #[.val (.int p1), .val (.int p2), .val (.int p3), .val (.int p4), .val (.int p5), .val (.int (2 : Int32)), .val (.int (2 : Int32)), .val (.ref b152), .val (.ref b164), .unset, .unset, .unset] [(.ref b173)])) _
        refine XS.astore X212.here hx rfl (hb hby at_141) rfl rfl (l' := #[.val (.int p1), .val (.int p2), .val (.int p3), .val (.int p4), .val (.int p5), .val (.int (2 : Int32)), .val (.int (2 : Int32)), .val (.ref b152), .val (.ref b164), .val (.ref b173), .unset, .unset]) rfl ?_
        show Steps p.tables e below (T212.setTop (mkF m 143 #[.val (.int p1), .val (.int p2), .val (.int p3), .val (.int p4), .val (.int p5), .val (.int (2 : Int32)), .val (.int (2 : Int32)), .val (.ref b152), .val (.ref b164), .val (.ref b173), .unset, .unset] [])) _
        refine XS.aload X212.here hx rfl (hb hby at_143) rfl rfl ?_
        exact k)
    obtain ⟨cq220, kq220, q220a, q220b, q220c⟩ := isOf hZ rfl Ef216
    obtain ⟨_, _, ⟨T220, L220, k220, n220⟩, -, X220, ⟨Lc220, hQ220, l220, y220, z220⟩, st220⟩ := X212.virtualBack hx (y := (⟨"com/example/votal/votal/log/LogRecord", "getTemplateData", "()[B"⟩ : MethodName)) (z := (⟨"com/example/votal/votal/log/LogRecord", "getTemplateData", "()[B"⟩ : MethodName)) hown (mvT hZ (hw _ (List.mem_of_getElem? (i := 41) rfl))) (mvT hZ (hw _ (List.mem_of_getElem? (i := 42) rfl))) (notFace_of_selects (args := #[]) (mvT hZ (hw _ (List.mem_of_getElem? (i := 44) rfl)))) (mvT hZ (hw _ (List.mem_of_getElem? (i := 44) rfl))) (mvT hZ (hw _ (List.mem_of_getElem? (i := 43) rfl))) (by decide) (backOf (W := 0) (rm4c l Z a0 hw [] b173 b152 2 _ T212.heap n0 Z212 Fl212 Vf214 Ef213 (by decide)) hZ (hw _ (List.mem_of_getElem? (i := 45) rfl)) (hw _ (List.mem_of_getElem? (i := 3) rfl)) (by decide) (by decide)) q220a q220c (g := (mkF m 145 #[.val (.int p1), .val (.int p2), .val (.int p3), .val (.int p4), .val (.int p5), .val (.int (2 : Int32)), .val (.int (2 : Int32)), .val (.ref b152), .val (.ref b164), .val (.ref b173), .unset, .unset] [(.ref b173)])) rfl (by rw [hml]; rfl) (Steps.refl _) (argsL := []) (rest := []) (lenOf pd_3 rfl) rfl (by show 2 * 0 + _ ≤ _; exact Nat.le_of_eq rfl) (hb hby at_145) (fun _ _ => ⟨rfl, rfl, (by decide : 7 + 1 ≤ _), (by decide : 68 + 4 ≤ _)⟩)
    dsimp only [Pt.U, Pt.locs, Pt.cells, Pt.slots] at X220 l220 y220 z220 st220 hQ220
    subst l220 y220 z220
    obtain ⟨r220, rfl, N220q, K220q, sz220, Vr220⟩ := hQ220
    have N220 := Fr.app N212 N220q
    have Ef221 := Ef213.keep K220q
    have Vf222 := Vf214.keep K220q nin0
    have Vf223 := Vf215.keep K220q nin0
    have Ef224 := Ef216.keep K220q
    have Ff225 := Fl212.keep K220q nin0
    have Z220 : n0 ≤ T220.heap.size := Nat.le_trans Z212 K220q.1
    have kb226 : k195 ≤ T220.heap.size := Nat.le_trans kb217 K220q.1
    have g_r220 : n0 ≤ r220 := Nat.le_trans Z212 sz220
    have ne_b152_r220 : b152 ≠ r220 := Nat.ne_of_lt (Nat.lt_of_lt_of_le Ef213.lt sz220)
    have ne_b164_r220 : b164 ≠ r220 := Nat.ne_of_lt (Nat.lt_of_lt_of_le Vf215.lt sz220)
    have ne_b173_r220 : b173 ≠ r220 := Nat.ne_of_lt (Nat.lt_of_lt_of_le Ef216.lt sz220)
    have ac227 : ∀ t, Steps p.tables e below (T220.setTop (mkF m 148 #[.val (.int p1), .val (.int p2), .val (.int p3), .val (.int p4), .val (.int p5), .val (.int (2 : Int32)), .val (.int (2 : Int32)), .val (.ref b152), .val (.ref b164), .val (.ref b173), .unset, .unset] [(.ref r220)])) t → Steps p.tables e below (s₁.setTop (entryFrame m #[(.int p1), (.int p2), (.int p3), (.int p4), (.int p5)] maxLocals)) t := fun t k => ac219 t (st220.trans k)
    have ac228 : ∀ t, Steps p.tables e below (T220.setTop (mkF m 187 #[.val (.int p1), .val (.int p2), .val (.int p3), .val (.int p4), .val (.int p5), .val (.int (2 : Int32)), .val (.int (2 : Int32)), .val (.ref b152), .val (.ref b164), .val (.ref b173), .val (.ref r220), .unset] [(.int p4), (.int p3), (.int (2 : Int32)), (.ref r220)])) t → Steps p.tables e below (s₁.setTop (entryFrame m #[(.int p1), (.int p2), (.int p3), (.int p4), (.int p5)] maxLocals)) t := fun t k => ac227 t (by
        show Steps p.tables e below (T220.setTop (mkF m 148 #[.val (.int p1), .val (.int p2), .val (.int p3), .val (.int p4), .val (.int p5), .val (.int (2 : Int32)), .val (.int (2 : Int32)), .val (.ref b152), .val (.ref b164), .val (.ref b173), .unset, .unset] [(.ref r220)])) _
        refine XS.astore X220.here hx rfl (hb hby at_148) rfl rfl (l' := #[.val (.int p1), .val (.int p2), .val (.int p3), .val (.int p4), .val (.int p5), .val (.int (2 : Int32)), .val (.int (2 : Int32)), .val (.ref b152), .val (.ref b164), .val (.ref b173), .val (.ref r220), .unset]) rfl ?_
        show Steps p.tables e below (T220.setTop (mkF m 150 #[.val (.int p1), .val (.int p2), .val (.int p3), .val (.int p4), .val (.int p5), .val (.int (2 : Int32)), .val (.int (2 : Int32)), .val (.ref b152), .val (.ref b164), .val (.ref b173), .val (.ref r220), .unset] [])) _
        refine XS.aload X220.here hx rfl (hb hby at_150) rfl rfl ?_
        show Steps p.tables e below (T220.setTop (mkF m 152 #[.val (.int p1), .val (.int p2), .val (.int p3), .val (.int p4), .val (.int p5), .val (.int (2 : Int32)), .val (.int (2 : Int32)), .val (.ref b152), .val (.ref b164), .val (.ref b173), .val (.ref r220), .unset] [(.ref b152)])) _
        refine XS.ifnonnullYes X220.here hx rfl (pc0 := 152) (pc' := 174) rfl (hb hby at_152) rfl (by decide) (by decide) ?_
        show Steps p.tables e below (T220.setTop (mkF m 174 #[.val (.int p1), .val (.int p2), .val (.int p3), .val (.int p4), .val (.int p5), .val (.int (2 : Int32)), .val (.int (2 : Int32)), .val (.ref b152), .val (.ref b164), .val (.ref b173), .val (.ref r220), .unset] [])) _
        refine XS.aload X220.here hx rfl (hb hby at_174) rfl rfl ?_
        show Steps p.tables e below (T220.setTop (mkF m 176 #[.val (.int p1), .val (.int p2), .val (.int p3), .val (.int p4), .val (.int p5), .val (.int (2 : Int32)), .val (.int (2 : Int32)), .val (.ref b152), .val (.ref b164), .val (.ref b173), .val (.ref r220), .unset] [(.ref r220)])) _
        refine XS.aload X220.here hx rfl (hb hby at_176) rfl rfl ?_
        show Steps p.tables e below (T220.setTop (mkF m 178 #[.val (.int p1), .val (.int p2), .val (.int p3), .val (.int p4), .val (.int p5), .val (.int (2 : Int32)), .val (.int (2 : Int32)), .val (.ref b152), .val (.ref b164), .val (.ref b173), .val (.ref r220), .unset] [(.ref b152), (.ref r220)])) _
        refine Jvm.RoadKit.acmp (g := (mkF m 178 #[.val (.int p1), .val (.int p2), .val (.int p3), .val (.int p4), .val (.int p5), .val (.int (2 : Int32)), .val (.int (2 : Int32)), .val (.ref b152), .val (.ref b164), .val (.ref b173), .val (.ref r220), .unset] [(.ref b152), (.ref r220)])) X220 hx rfl rfl rfl (pc0 := 178) (pc' := 181) (same := false) rfl (hb hby at_178) rfl (decide_eq_false fun q => (Ne.symm ne_b152_r220) (Value.ref.inj q)) (by decide) (by decide) ?_
        show Steps p.tables e below (T220.setTop (mkF m 181 #[.val (.int p1), .val (.int p2), .val (.int p3), .val (.int p4), .val (.int p5), .val (.int (2 : Int32)), .val (.int (2 : Int32)), .val (.ref b152), .val (.ref b164), .val (.ref b173), .val (.ref r220), .unset] [])) _
        refine XS.aload X220.here hx rfl (hb hby at_181) rfl rfl ?_
        show Steps p.tables e below (T220.setTop (mkF m 183 #[.val (.int p1), .val (.int p2), .val (.int p3), .val (.int p4), .val (.int p5), .val (.int (2 : Int32)), .val (.int (2 : Int32)), .val (.ref b152), .val (.ref b164), .val (.ref b173), .val (.ref r220), .unset] [(.ref r220)])) _
        refine XS.iload X220.here hx rfl (hb hby at_183) rfl ?_
        show Steps p.tables e below (T220.setTop (mkF m 185 #[.val (.int p1), .val (.int p2), .val (.int p3), .val (.int p4), .val (.int p5), .val (.int (2 : Int32)), .val (.int (2 : Int32)), .val (.ref b152), .val (.ref b164), .val (.ref b173), .val (.ref r220), .unset] [(.int (2 : Int32)), (.ref r220)])) _
        refine XS.iloadN X220.here hx rfl (hb hby at_185) rfl ?_
        show Steps p.tables e below (T220.setTop (mkF m 186 #[.val (.int p1), .val (.int p2), .val (.int p3), .val (.int p4), .val (.int p5), .val (.int (2 : Int32)), .val (.int (2 : Int32)), .val (.ref b152), .val (.ref b164), .val (.ref b173), .val (.ref r220), .unset] [(.int p3), (.int (2 : Int32)), (.ref r220)])) _
        refine XS.iloadN X220.here hx rfl (hb hby at_186) rfl ?_
        exact k)
    obtain ⟨_, _, ⟨T229, L229, k229, n229⟩, -, X229, ⟨Lc229, hQ229, l229, y229, z229⟩, st229⟩ := Jvm.LawKit.callS X220 hx (y := (⟨"com/example/votal/votal/log/LogRecordGetTemplateDataPinLaw", "holds", "([BIII)Z"⟩ : MethodName)) hown (mvT hZ (hw _ (List.mem_of_getElem? (i := 55) rfl))) (mvT hZ (hw _ (List.mem_of_getElem? (i := 56) rfl))) (mvT hZ (hw _ (List.mem_of_getElem? (i := 57) rfl))) (mvT hZ (hw _ (List.mem_of_getElem? (i := 58) rfl))) (by decide) (backOf (W := 0) (rm5_2 l Z a0 hw [] r220 (2 : Int32) p3 p4 _ T220.heap n0 Z220 Vr220 rfl rfl rfl) hZ (hw _ (List.mem_of_getElem? (i := 58) rfl)) (hw _ (List.mem_of_getElem? (i := 57) rfl)) (by decide) (by decide)) (g := (mkF m 187 #[.val (.int p1), .val (.int p2), .val (.int p3), .val (.int p4), .val (.int p5), .val (.int (2 : Int32)), .val (.int (2 : Int32)), .val (.ref b152), .val (.ref b164), .val (.ref b173), .val (.ref r220), .unset] [(.int p4), (.int p3), (.int (2 : Int32)), (.ref r220)])) rfl (by rw [hml]; rfl) (argsL := [(.ref r220), (.int (2 : Int32)), (.int p3), (.int p4)]) (rest := []) (lenOf pd_5 rfl) rfl (by show 2 * 0 + _ ≤ _; exact Nat.le_of_eq rfl) (hb hby at_187) (fun _ _ => ⟨rfl, rfl, (by decide : 8 + 0 ≤ _), (by decide : 72 + 0 ≤ _)⟩)
    dsimp only [Pt.U, Pt.locs, Pt.cells, Pt.slots] at X229 l229 y229 z229 st229 hQ229
    subst l229 y229 z229
    obtain ⟨rfl, N229q, Qe229⟩ := hQ229
    have N229 := Fr.app N220 N229q
    have ac230 : ∀ t, Steps p.tables e below (T229.setTop (mkF m 190 #[.val (.int p1), .val (.int p2), .val (.int p3), .val (.int p4), .val (.int p5), .val (.int (2 : Int32)), .val (.int (2 : Int32)), .val (.ref b152), .val (.ref b164), .val (.ref b173), .val (.ref r220), .unset] [(.int (1 : Int32))])) t → Steps p.tables e below (s₁.setTop (entryFrame m #[(.int p1), (.int p2), (.int p3), (.int p4), (.int p5)] maxLocals)) t := fun t k => ac228 t (st229 t k)
    have ac231 : ∀ t, Steps p.tables e below (T229.setTop (mkF m 197 #[.val (.int p1), .val (.int p2), .val (.int p3), .val (.int p4), .val (.int p5), .val (.int (2 : Int32)), .val (.int (2 : Int32)), .val (.ref b152), .val (.ref b164), .val (.ref b173), .val (.ref r220), .unset] [(.ref r220)])) t → Steps p.tables e below (s₁.setTop (entryFrame m #[(.int p1), (.int p2), (.int p3), (.int p4), (.int p5)] maxLocals)) t := fun t k => ac230 t (by
        show Steps p.tables e below (T229.setTop (mkF m 190 #[.val (.int p1), .val (.int p2), .val (.int p3), .val (.int p4), .val (.int p5), .val (.int (2 : Int32)), .val (.int (2 : Int32)), .val (.ref b152), .val (.ref b164), .val (.ref b173), .val (.ref r220), .unset] [(.int (1 : Int32))])) _
        refine XS.ifYes X229.here hx rfl (pc0 := 190) (pc' := 195) rfl (hb hby at_190) rfl ((if0 _ _).trans (feq (by decide)).2) (by decide) (by decide) ?_
        show Steps p.tables e below (T229.setTop (mkF m 195 #[.val (.int p1), .val (.int p2), .val (.int p3), .val (.int p4), .val (.int p5), .val (.int (2 : Int32)), .val (.int (2 : Int32)), .val (.ref b152), .val (.ref b164), .val (.ref b173), .val (.ref r220), .unset] [])) _
        refine XS.aload X229.here hx rfl (hb hby at_195) rfl rfl ?_
        exact k)
    obtain ⟨_, _, ⟨T232, L232, k232, n232⟩, -, X232, ⟨Lc232, hQ232, l232, y232, z232⟩, st232⟩ := Jvm.LawKit.callS X229 hx (y := (⟨"com/example/votal/votal/log/LogRecordGetTemplateDataPinLaw", "spoil", "([B)V"⟩ : MethodName)) hown (mvT hZ (hw _ (List.mem_of_getElem? (i := 59) rfl))) (mvT hZ (hw _ (List.mem_of_getElem? (i := 60) rfl))) (mvT hZ (hw _ (List.mem_of_getElem? (i := 57) rfl))) (mvT hZ (hw _ (List.mem_of_getElem? (i := 61) rfl))) (by decide) (backOf (W := 0) (rm6_2 l Z a0 hw [] r220 _ _ _  T220.heap n0 Z220 Vr220 g_r220 rfl rfl) hZ (hw _ (List.mem_of_getElem? (i := 61) rfl)) (hw _ (List.mem_of_getElem? (i := 57) rfl)) (by decide) (by decide)) (g := (mkF m 197 #[.val (.int p1), .val (.int p2), .val (.int p3), .val (.int p4), .val (.int p5), .val (.int (2 : Int32)), .val (.int (2 : Int32)), .val (.ref b152), .val (.ref b164), .val (.ref b173), .val (.ref r220), .unset] [(.ref r220)])) rfl (by rw [hml]; rfl) (argsL := [(.ref r220)]) (rest := []) (lenOf pd_6 rfl) rfl (by show 2 * 0 + _ ≤ _; exact Nat.le_of_eq rfl) (hb hby at_197) (fun _ _ => ⟨rfl, Qe229, (by decide : 8 + 0 ≤ _), (by decide : 72 + 0 ≤ _)⟩)
    dsimp only [Pt.U, Pt.locs, Pt.cells, Pt.slots] at X232 l232 y232 z232 st232 hQ232
    subst l232 y232 z232
    obtain ⟨rfl, N232q, K232q, f232, Vs232⟩ := hQ232
    have N232 := Fr.app N229 N232q
    have Ef233 := Ef221.keep K232q
    have Vf234 := Vf222.keep K232q (ninS ne_b152_r220 nin0)
    have Vf235 := Vf223.keep K232q (ninS ne_b164_r220 nin0)
    have Ef236 := Ef224.keep K232q
    have Ff237 := Ff225.keep K232q (ninS ne_b173_r220 nin0)
    have Z232 : n0 ≤ T232.heap.size := Nat.le_trans Z220 K232q.1
    have kb238 : k195 ≤ T232.heap.size := Nat.le_trans kb226 K232q.1
    have ac239 : ∀ t, Steps p.tables e below (T232.setTop (mkF m 200 #[.val (.int p1), .val (.int p2), .val (.int p3), .val (.int p4), .val (.int p5), .val (.int (2 : Int32)), .val (.int (2 : Int32)), .val (.ref b152), .val (.ref b164), .val (.ref b173), .val (.ref r220), .unset] [])) t → Steps p.tables e below (s₁.setTop (entryFrame m #[(.int p1), (.int p2), (.int p3), (.int p4), (.int p5)] maxLocals)) t := fun t k => ac231 t (st232 t k)
    have ac240 : ∀ t, Steps p.tables e below (T232.setTop (mkF m 202 #[.val (.int p1), .val (.int p2), .val (.int p3), .val (.int p4), .val (.int p5), .val (.int (2 : Int32)), .val (.int (2 : Int32)), .val (.ref b152), .val (.ref b164), .val (.ref b173), .val (.ref r220), .unset] [(.ref b173)])) t → Steps p.tables e below (s₁.setTop (entryFrame m #[(.int p1), (.int p2), (.int p3), (.int p4), (.int p5)] maxLocals)) t := fun t k => ac239 t (by
        show Steps p.tables e below (T232.setTop (mkF m 200 #[.val (.int p1), .val (.int p2), .val (.int p3), .val (.int p4), .val (.int p5), .val (.int (2 : Int32)), .val (.int (2 : Int32)), .val (.ref b152), .val (.ref b164), .val (.ref b173), .val (.ref r220), .unset] [])) _
        refine XS.aload X232.here hx rfl (hb hby at_200) rfl rfl ?_
        exact k)
    obtain ⟨cq241, kq241, q241a, q241b, q241c⟩ := isOf hZ rfl Ef236
    obtain ⟨_, _, ⟨T241, L241, k241, n241⟩, -, X241, ⟨Lc241, hQ241, l241, y241, z241⟩, st241⟩ := X232.virtualBack hx (y := (⟨"com/example/votal/votal/log/LogRecord", "getTemplateData", "()[B"⟩ : MethodName)) (z := (⟨"com/example/votal/votal/log/LogRecord", "getTemplateData", "()[B"⟩ : MethodName)) hown (mvT hZ (hw _ (List.mem_of_getElem? (i := 41) rfl))) (mvT hZ (hw _ (List.mem_of_getElem? (i := 42) rfl))) (notFace_of_selects (args := #[]) (mvT hZ (hw _ (List.mem_of_getElem? (i := 44) rfl)))) (mvT hZ (hw _ (List.mem_of_getElem? (i := 44) rfl))) (mvT hZ (hw _ (List.mem_of_getElem? (i := 43) rfl))) (by decide) (backOf (W := 0) (rm4c l Z a0 hw [] b173 b152 2 _ T232.heap n0 Z232 Ff237 Vf234 Ef233 (by decide)) hZ (hw _ (List.mem_of_getElem? (i := 45) rfl)) (hw _ (List.mem_of_getElem? (i := 3) rfl)) (by decide) (by decide)) q241a q241c (g := (mkF m 202 #[.val (.int p1), .val (.int p2), .val (.int p3), .val (.int p4), .val (.int p5), .val (.int (2 : Int32)), .val (.int (2 : Int32)), .val (.ref b152), .val (.ref b164), .val (.ref b173), .val (.ref r220), .unset] [(.ref b173)])) rfl (by rw [hml]; rfl) (Steps.refl _) (argsL := []) (rest := []) (lenOf pd_3 rfl) rfl (by show 2 * 0 + _ ≤ _; exact Nat.le_of_eq rfl) (hb hby at_202) (fun _ _ => ⟨rfl, rfl, (by decide : 8 + 1 ≤ _), (by decide : 72 + 4 ≤ _)⟩)
    dsimp only [Pt.U, Pt.locs, Pt.cells, Pt.slots] at X241 l241 y241 z241 st241 hQ241
    subst l241 y241 z241
    obtain ⟨r241, rfl, N241q, K241q, sz241, Vr241⟩ := hQ241
    have N241 := Fr.app N232 N241q
    have Ef242 := Ef233.keep K241q
    have Vf243 := Vf234.keep K241q nin0
    have Vf244 := Vf235.keep K241q nin0
    have Ef245 := Ef236.keep K241q
    have Ff246 := Ff237.keep K241q nin0
    have Vf247 := Vs232.keep K241q nin0
    have Z241 : n0 ≤ T241.heap.size := Nat.le_trans Z232 K241q.1
    have kb248 : k195 ≤ T241.heap.size := Nat.le_trans kb238 K241q.1
    have g_r241 : n0 ≤ r241 := Nat.le_trans Z232 sz241
    have ne_b152_r241 : b152 ≠ r241 := Nat.ne_of_lt (Nat.lt_of_lt_of_le Ef233.lt sz241)
    have ne_b164_r241 : b164 ≠ r241 := Nat.ne_of_lt (Nat.lt_of_lt_of_le Vf235.lt sz241)
    have ne_b173_r241 : b173 ≠ r241 := Nat.ne_of_lt (Nat.lt_of_lt_of_le Ef236.lt sz241)
    have ne_r220_r241 : r220 ≠ r241 := Nat.ne_of_lt (Nat.lt_of_lt_of_le Vs232.lt sz241)
    have ac249 : ∀ t, Steps p.tables e below (T241.setTop (mkF m 205 #[.val (.int p1), .val (.int p2), .val (.int p3), .val (.int p4), .val (.int p5), .val (.int (2 : Int32)), .val (.int (2 : Int32)), .val (.ref b152), .val (.ref b164), .val (.ref b173), .val (.ref r220), .unset] [(.ref r241)])) t → Steps p.tables e below (s₁.setTop (entryFrame m #[(.int p1), (.int p2), (.int p3), (.int p4), (.int p5)] maxLocals)) t := fun t k => ac240 t (st241.trans k)
    have ac250 : ∀ t, Steps p.tables e below (T241.setTop (mkF m 227 #[.val (.int p1), .val (.int p2), .val (.int p3), .val (.int p4), .val (.int p5), .val (.int (2 : Int32)), .val (.int (2 : Int32)), .val (.ref b152), .val (.ref b164), .val (.ref b173), .val (.ref r220), .val (.ref r241)] [(.int p4), (.int p3), (.int (2 : Int32)), (.ref r241)])) t → Steps p.tables e below (s₁.setTop (entryFrame m #[(.int p1), (.int p2), (.int p3), (.int p4), (.int p5)] maxLocals)) t := fun t k => ac249 t (by
        show Steps p.tables e below (T241.setTop (mkF m 205 #[.val (.int p1), .val (.int p2), .val (.int p3), .val (.int p4), .val (.int p5), .val (.int (2 : Int32)), .val (.int (2 : Int32)), .val (.ref b152), .val (.ref b164), .val (.ref b173), .val (.ref r220), .unset] [(.ref r241)])) _
        refine XS.astore X241.here hx rfl (hb hby at_205) rfl rfl (l' := #[.val (.int p1), .val (.int p2), .val (.int p3), .val (.int p4), .val (.int p5), .val (.int (2 : Int32)), .val (.int (2 : Int32)), .val (.ref b152), .val (.ref b164), .val (.ref b173), .val (.ref r220), .val (.ref r241)]) rfl ?_
        show Steps p.tables e below (T241.setTop (mkF m 207 #[.val (.int p1), .val (.int p2), .val (.int p3), .val (.int p4), .val (.int p5), .val (.int (2 : Int32)), .val (.int (2 : Int32)), .val (.ref b152), .val (.ref b164), .val (.ref b173), .val (.ref r220), .val (.ref r241)] [])) _
        refine XS.aload X241.here hx rfl (hb hby at_207) rfl rfl ?_
        show Steps p.tables e below (T241.setTop (mkF m 209 #[.val (.int p1), .val (.int p2), .val (.int p3), .val (.int p4), .val (.int p5), .val (.int (2 : Int32)), .val (.int (2 : Int32)), .val (.ref b152), .val (.ref b164), .val (.ref b173), .val (.ref r220), .val (.ref r241)] [(.ref r241)])) _
        refine XS.aload X241.here hx rfl (hb hby at_209) rfl rfl ?_
        show Steps p.tables e below (T241.setTop (mkF m 211 #[.val (.int p1), .val (.int p2), .val (.int p3), .val (.int p4), .val (.int p5), .val (.int (2 : Int32)), .val (.int (2 : Int32)), .val (.ref b152), .val (.ref b164), .val (.ref b173), .val (.ref r220), .val (.ref r241)] [(.ref r220), (.ref r241)])) _
        refine Jvm.RoadKit.acmp (g := (mkF m 211 #[.val (.int p1), .val (.int p2), .val (.int p3), .val (.int p4), .val (.int p5), .val (.int (2 : Int32)), .val (.int (2 : Int32)), .val (.ref b152), .val (.ref b164), .val (.ref b173), .val (.ref r220), .val (.ref r241)] [(.ref r220), (.ref r241)])) X241 hx rfl rfl rfl (pc0 := 211) (pc' := 214) (same := false) rfl (hb hby at_211) rfl (decide_eq_false fun q => (Ne.symm ne_r220_r241) (Value.ref.inj q)) (by decide) (by decide) ?_
        show Steps p.tables e below (T241.setTop (mkF m 214 #[.val (.int p1), .val (.int p2), .val (.int p3), .val (.int p4), .val (.int p5), .val (.int (2 : Int32)), .val (.int (2 : Int32)), .val (.ref b152), .val (.ref b164), .val (.ref b173), .val (.ref r220), .val (.ref r241)] [])) _
        refine XS.aload X241.here hx rfl (hb hby at_214) rfl rfl ?_
        show Steps p.tables e below (T241.setTop (mkF m 216 #[.val (.int p1), .val (.int p2), .val (.int p3), .val (.int p4), .val (.int p5), .val (.int (2 : Int32)), .val (.int (2 : Int32)), .val (.ref b152), .val (.ref b164), .val (.ref b173), .val (.ref r220), .val (.ref r241)] [(.ref r241)])) _
        refine XS.aload X241.here hx rfl (hb hby at_216) rfl rfl ?_
        show Steps p.tables e below (T241.setTop (mkF m 218 #[.val (.int p1), .val (.int p2), .val (.int p3), .val (.int p4), .val (.int p5), .val (.int (2 : Int32)), .val (.int (2 : Int32)), .val (.ref b152), .val (.ref b164), .val (.ref b173), .val (.ref r220), .val (.ref r241)] [(.ref b152), (.ref r241)])) _
        refine Jvm.RoadKit.acmp (g := (mkF m 218 #[.val (.int p1), .val (.int p2), .val (.int p3), .val (.int p4), .val (.int p5), .val (.int (2 : Int32)), .val (.int (2 : Int32)), .val (.ref b152), .val (.ref b164), .val (.ref b173), .val (.ref r220), .val (.ref r241)] [(.ref b152), (.ref r241)])) X241 hx rfl rfl rfl (pc0 := 218) (pc' := 221) (same := false) rfl (hb hby at_218) rfl (decide_eq_false fun q => (Ne.symm ne_b152_r241) (Value.ref.inj q)) (by decide) (by decide) ?_
        show Steps p.tables e below (T241.setTop (mkF m 221 #[.val (.int p1), .val (.int p2), .val (.int p3), .val (.int p4), .val (.int p5), .val (.int (2 : Int32)), .val (.int (2 : Int32)), .val (.ref b152), .val (.ref b164), .val (.ref b173), .val (.ref r220), .val (.ref r241)] [])) _
        refine XS.aload X241.here hx rfl (hb hby at_221) rfl rfl ?_
        show Steps p.tables e below (T241.setTop (mkF m 223 #[.val (.int p1), .val (.int p2), .val (.int p3), .val (.int p4), .val (.int p5), .val (.int (2 : Int32)), .val (.int (2 : Int32)), .val (.ref b152), .val (.ref b164), .val (.ref b173), .val (.ref r220), .val (.ref r241)] [(.ref r241)])) _
        refine XS.iload X241.here hx rfl (hb hby at_223) rfl ?_
        show Steps p.tables e below (T241.setTop (mkF m 225 #[.val (.int p1), .val (.int p2), .val (.int p3), .val (.int p4), .val (.int p5), .val (.int (2 : Int32)), .val (.int (2 : Int32)), .val (.ref b152), .val (.ref b164), .val (.ref b173), .val (.ref r220), .val (.ref r241)] [(.int (2 : Int32)), (.ref r241)])) _
        refine XS.iloadN X241.here hx rfl (hb hby at_225) rfl ?_
        show Steps p.tables e below (T241.setTop (mkF m 226 #[.val (.int p1), .val (.int p2), .val (.int p3), .val (.int p4), .val (.int p5), .val (.int (2 : Int32)), .val (.int (2 : Int32)), .val (.ref b152), .val (.ref b164), .val (.ref b173), .val (.ref r220), .val (.ref r241)] [(.int p3), (.int (2 : Int32)), (.ref r241)])) _
        refine XS.iloadN X241.here hx rfl (hb hby at_226) rfl ?_
        exact k)
    obtain ⟨_, _, ⟨T251, L251, k251, n251⟩, -, X251, ⟨Lc251, hQ251, l251, y251, z251⟩, st251⟩ := Jvm.LawKit.callS X241 hx (y := (⟨"com/example/votal/votal/log/LogRecordGetTemplateDataPinLaw", "holds", "([BIII)Z"⟩ : MethodName)) hown (mvT hZ (hw _ (List.mem_of_getElem? (i := 55) rfl))) (mvT hZ (hw _ (List.mem_of_getElem? (i := 56) rfl))) (mvT hZ (hw _ (List.mem_of_getElem? (i := 57) rfl))) (mvT hZ (hw _ (List.mem_of_getElem? (i := 58) rfl))) (by decide) (backOf (W := 0) (rm5_2 l Z a0 hw [] r241 (2 : Int32) p3 p4 _ T241.heap n0 Z241 Vr241 rfl rfl rfl) hZ (hw _ (List.mem_of_getElem? (i := 58) rfl)) (hw _ (List.mem_of_getElem? (i := 57) rfl)) (by decide) (by decide)) (g := (mkF m 227 #[.val (.int p1), .val (.int p2), .val (.int p3), .val (.int p4), .val (.int p5), .val (.int (2 : Int32)), .val (.int (2 : Int32)), .val (.ref b152), .val (.ref b164), .val (.ref b173), .val (.ref r220), .val (.ref r241)] [(.int p4), (.int p3), (.int (2 : Int32)), (.ref r241)])) rfl (by rw [hml]; rfl) (argsL := [(.ref r241), (.int (2 : Int32)), (.int p3), (.int p4)]) (rest := []) (lenOf pd_5 rfl) rfl (by show 2 * 0 + _ ≤ _; exact Nat.le_of_eq rfl) (hb hby at_227) (fun _ _ => ⟨rfl, rfl, (by decide : 9 + 0 ≤ _), (by decide : 76 + 0 ≤ _)⟩)
    dsimp only [Pt.U, Pt.locs, Pt.cells, Pt.slots] at X251 l251 y251 z251 st251 hQ251
    subst l251 y251 z251
    obtain ⟨rfl, N251q, Qe251⟩ := hQ251
    have N251 := Fr.app N241 N251q
    have ac252 : ∀ t, Steps p.tables e below (T251.setTop (mkF m 230 #[.val (.int p1), .val (.int p2), .val (.int p3), .val (.int p4), .val (.int p5), .val (.int (2 : Int32)), .val (.int (2 : Int32)), .val (.ref b152), .val (.ref b164), .val (.ref b173), .val (.ref r220), .val (.ref r241)] [(.int (1 : Int32))])) t → Steps p.tables e below (s₁.setTop (entryFrame m #[(.int p1), (.int p2), (.int p3), (.int p4), (.int p5)] maxLocals)) t := fun t k => ac250 t (st251 t k)
    have ac253 : ∀ t, Steps p.tables e below (T251.setTop (mkF m 239 #[.val (.int p1), .val (.int p2), .val (.int p3), .val (.int p4), .val (.int p5), .val (.int (2 : Int32)), .val (.int (2 : Int32)), .val (.ref b152), .val (.ref b164), .val (.ref b173), .val (.ref r220), .val (.ref r241)] [(.int p4), (.int p3), (.int (2 : Int32)), (.ref b152)])) t → Steps p.tables e below (s₁.setTop (entryFrame m #[(.int p1), (.int p2), (.int p3), (.int p4), (.int p5)] maxLocals)) t := fun t k => ac252 t (by
        show Steps p.tables e below (T251.setTop (mkF m 230 #[.val (.int p1), .val (.int p2), .val (.int p3), .val (.int p4), .val (.int p5), .val (.int (2 : Int32)), .val (.int (2 : Int32)), .val (.ref b152), .val (.ref b164), .val (.ref b173), .val (.ref r220), .val (.ref r241)] [(.int (1 : Int32))])) _
        refine XS.ifNo X251.here hx rfl (hb hby at_230) rfl ((if0 _ _).trans (feq (by decide)).1) ?_
        show Steps p.tables e below (T251.setTop (mkF m 233 #[.val (.int p1), .val (.int p2), .val (.int p3), .val (.int p4), .val (.int p5), .val (.int (2 : Int32)), .val (.int (2 : Int32)), .val (.ref b152), .val (.ref b164), .val (.ref b173), .val (.ref r220), .val (.ref r241)] [])) _
        refine XS.aload X251.here hx rfl (hb hby at_233) rfl rfl ?_
        show Steps p.tables e below (T251.setTop (mkF m 235 #[.val (.int p1), .val (.int p2), .val (.int p3), .val (.int p4), .val (.int p5), .val (.int (2 : Int32)), .val (.int (2 : Int32)), .val (.ref b152), .val (.ref b164), .val (.ref b173), .val (.ref r220), .val (.ref r241)] [(.ref b152)])) _
        refine XS.iload X251.here hx rfl (hb hby at_235) rfl ?_
        show Steps p.tables e below (T251.setTop (mkF m 237 #[.val (.int p1), .val (.int p2), .val (.int p3), .val (.int p4), .val (.int p5), .val (.int (2 : Int32)), .val (.int (2 : Int32)), .val (.ref b152), .val (.ref b164), .val (.ref b173), .val (.ref r220), .val (.ref r241)] [(.int (2 : Int32)), (.ref b152)])) _
        refine XS.iloadN X251.here hx rfl (hb hby at_237) rfl ?_
        show Steps p.tables e below (T251.setTop (mkF m 238 #[.val (.int p1), .val (.int p2), .val (.int p3), .val (.int p4), .val (.int p5), .val (.int (2 : Int32)), .val (.int (2 : Int32)), .val (.ref b152), .val (.ref b164), .val (.ref b173), .val (.ref r220), .val (.ref r241)] [(.int p3), (.int (2 : Int32)), (.ref b152)])) _
        refine XS.iloadN X251.here hx rfl (hb hby at_238) rfl ?_
        exact k)
    obtain ⟨_, _, ⟨T254, L254, k254, n254⟩, -, X254, ⟨Lc254, hQ254, l254, y254, z254⟩, st254⟩ := Jvm.LawKit.callS X251 hx (y := (⟨"com/example/votal/votal/log/LogRecordGetTemplateDataPinLaw", "holds", "([BIII)Z"⟩ : MethodName)) hown (mvT hZ (hw _ (List.mem_of_getElem? (i := 55) rfl))) (mvT hZ (hw _ (List.mem_of_getElem? (i := 56) rfl))) (mvT hZ (hw _ (List.mem_of_getElem? (i := 57) rfl))) (mvT hZ (hw _ (List.mem_of_getElem? (i := 58) rfl))) (by decide) (backOf (W := 0) (rm5_2 l Z a0 hw [] b152 (2 : Int32) p3 p4 _ T241.heap n0 Z241 Vf243 rfl rfl rfl) hZ (hw _ (List.mem_of_getElem? (i := 58) rfl)) (hw _ (List.mem_of_getElem? (i := 57) rfl)) (by decide) (by decide)) (g := (mkF m 239 #[.val (.int p1), .val (.int p2), .val (.int p3), .val (.int p4), .val (.int p5), .val (.int (2 : Int32)), .val (.int (2 : Int32)), .val (.ref b152), .val (.ref b164), .val (.ref b173), .val (.ref r220), .val (.ref r241)] [(.int p4), (.int p3), (.int (2 : Int32)), (.ref b152)])) rfl (by rw [hml]; rfl) (argsL := [(.ref b152), (.int (2 : Int32)), (.int p3), (.int p4)]) (rest := []) (lenOf pd_5 rfl) rfl (by show 2 * 0 + _ ≤ _; exact Nat.le_of_eq rfl) (hb hby at_239) (fun _ _ => ⟨rfl, Qe251, (by decide : 9 + 0 ≤ _), (by decide : 76 + 0 ≤ _)⟩)
    dsimp only [Pt.U, Pt.locs, Pt.cells, Pt.slots] at X254 l254 y254 z254 st254 hQ254
    subst l254 y254 z254
    obtain ⟨rfl, N254q, Qe254⟩ := hQ254
    have N254 := Fr.app N251 N254q
    have ac255 : ∀ t, Steps p.tables e below (T254.setTop (mkF m 242 #[.val (.int p1), .val (.int p2), .val (.int p3), .val (.int p4), .val (.int p5), .val (.int (2 : Int32)), .val (.int (2 : Int32)), .val (.ref b152), .val (.ref b164), .val (.ref b173), .val (.ref r220), .val (.ref r241)] [(.int (1 : Int32))])) t → Steps p.tables e below (s₁.setTop (entryFrame m #[(.int p1), (.int p2), (.int p3), (.int p4), (.int p5)] maxLocals)) t := fun t k => ac253 t (st254 t k)
    have ac256 : ∀ t, Steps p.tables e below (T254.setTop (mkF m 250 #[.val (.int p1), .val (.int p2), .val (.int p3), .val (.int p4), .val (.int p5), .val (.int (2 : Int32)), .val (.int (2 : Int32)), .val (.ref b152), .val (.ref b164), .val (.ref b173), .val (.ref r220), .val (.ref r241)] [(.int (1 : Int32))])) t → Steps p.tables e below (s₁.setTop (entryFrame m #[(.int p1), (.int p2), (.int p3), (.int p4), (.int p5)] maxLocals)) t := fun t k => ac255 t (by
        show Steps p.tables e below (T254.setTop (mkF m 242 #[.val (.int p1), .val (.int p2), .val (.int p3), .val (.int p4), .val (.int p5), .val (.int (2 : Int32)), .val (.int (2 : Int32)), .val (.ref b152), .val (.ref b164), .val (.ref b173), .val (.ref r220), .val (.ref r241)] [(.int (1 : Int32))])) _
        refine XS.ifNo X254.here hx rfl (hb hby at_242) rfl ((if0 _ _).trans (feq (by decide)).1) ?_
        show Steps p.tables e below (T254.setTop (mkF m 245 #[.val (.int p1), .val (.int p2), .val (.int p3), .val (.int p4), .val (.int p5), .val (.int (2 : Int32)), .val (.int (2 : Int32)), .val (.ref b152), .val (.ref b164), .val (.ref b173), .val (.ref r220), .val (.ref r241)] [])) _
        refine XS.iconst X254.here hx rfl (hb hby at_245) ?_
        show Steps p.tables e below (T254.setTop (mkF m 246 #[.val (.int p1), .val (.int p2), .val (.int p3), .val (.int p4), .val (.int p5), .val (.int (2 : Int32)), .val (.int (2 : Int32)), .val (.ref b152), .val (.ref b164), .val (.ref b173), .val (.ref r220), .val (.ref r241)] [(.int (1 : Int32))])) _
        refine XS.goto X254.here hx rfl (pc0 := 246) (pc' := 250) rfl (hb hby at_246) (by decide) (by decide) ?_
        exact k)
    obtain ⟨fs, hr, hrun, hended, hEW⟩ := X254.leaveW hS195 (by rw [Qe254]; exact kb248) (v := some (.int (1 : Int32))) (fun h => by rw [Bd.returns] at h; cases h) (BodyLoose.notSynchronized Bd)
    refine ⟨_, _, ac256 _ ?_, hrun, hended, _, _, rfl, ?_, hEW.1, hEW.2.1, hEW.2.2.1, hEW.2.2.2.mono (by decide) (by decide)⟩
    · show Steps p.tables e below (T254.setTop (mkF m 250 #[.val (.int p1), .val (.int p2), .val (.int p3), .val (.int p4), .val (.int p5), .val (.int (2 : Int32)), .val (.int (2 : Int32)), .val (.ref b152), .val (.ref b164), .val (.ref b173), .val (.ref r220), .val (.ref r241)] [(.int (1 : Int32))])) _
      exact retN X254 hx (t := .boolean) Bd.returns (by simp) (hb hby at_250) hr
    · show Q0 Z p1 p2 p3 p4 p5 h0 n0 _ T254.heap _
      rw [Qe254]
      exact ⟨rfl, N254⟩
  ·
    rw [hm] at ac1
    have ac257 : ∀ t, Steps p.tables e below (s₁.setTop (mkF m 66 #[.val (.int p1), .val (.int p2), .val (.int p3), .val (.int p4), .val (.int p5), .val (.int (3 : Int32)), .val (.int (4 : Int32)), .val .null, .unset, .unset, .unset, .unset] [(.int (4 : Int32))])) t → Steps p.tables e below (s₁.setTop (entryFrame m #[(.int p1), (.int p2), (.int p3), (.int p4), (.int p5)] maxLocals)) t := fun t k => ac1 t (by
        show Steps p.tables e below (s₁.setTop (mkF m 5 #[.val (.int p1), .val (.int p2), .val (.int p3), .val (.int p4), .val (.int p5), .val (.int (3 : Int32)), .unset, .unset, .unset, .unset, .unset, .unset] [])) _
        refine XS.iload X0.here hx rfl (hb hby at_5) rfl ?_
        show Steps p.tables e below (s₁.setTop (mkF m 7 #[.val (.int p1), .val (.int p2), .val (.int p3), .val (.int p4), .val (.int p5), .val (.int (3 : Int32)), .unset, .unset, .unset, .unset, .unset, .unset] [(.int (3 : Int32))])) _
        refine XS.iconst X0.here hx rfl (hb hby at_7) ?_
        show Steps p.tables e below (s₁.setTop (mkF m 8 #[.val (.int p1), .val (.int p2), .val (.int p3), .val (.int p4), .val (.int p5), .val (.int (3 : Int32)), .unset, .unset, .unset, .unset, .unset, .unset] [(.int (3 : Int32)), (.int (3 : Int32))])) _
        refine XS.icmpNo X0.here hx rfl (hb hby at_8) rfl (teq (by decide)).2 ?_
        show Steps p.tables e below (s₁.setTop (mkF m 11 #[.val (.int p1), .val (.int p2), .val (.int p3), .val (.int p4), .val (.int p5), .val (.int (3 : Int32)), .unset, .unset, .unset, .unset, .unset, .unset] [])) _
        refine XS.iconst X0.here hx rfl (hb hby at_11) ?_
        show Steps p.tables e below (s₁.setTop (mkF m 12 #[.val (.int p1), .val (.int p2), .val (.int p3), .val (.int p4), .val (.int p5), .val (.int (3 : Int32)), .unset, .unset, .unset, .unset, .unset, .unset] [(.int (4 : Int32))])) _
        refine XS.goto X0.here hx rfl (pc0 := 12) (pc' := 26) rfl (hb hby at_12) (by decide) (by decide) ?_
        show Steps p.tables e below (s₁.setTop (mkF m 26 #[.val (.int p1), .val (.int p2), .val (.int p3), .val (.int p4), .val (.int p5), .val (.int (3 : Int32)), .unset, .unset, .unset, .unset, .unset, .unset] [(.int (4 : Int32))])) _
        refine XS.istore X0.here hx rfl (hb hby at_26) rfl (l' := #[.val (.int p1), .val (.int p2), .val (.int p3), .val (.int p4), .val (.int p5), .val (.int (3 : Int32)), .val (.int (4 : Int32)), .unset, .unset, .unset, .unset, .unset]) rfl ?_
        show Steps p.tables e below (s₁.setTop (mkF m 28 #[.val (.int p1), .val (.int p2), .val (.int p3), .val (.int p4), .val (.int p5), .val (.int (3 : Int32)), .val (.int (4 : Int32)), .unset, .unset, .unset, .unset, .unset] [])) _
        refine XS.aconstNull X0.here hx rfl (hb hby at_28) ?_
        show Steps p.tables e below (s₁.setTop (mkF m 29 #[.val (.int p1), .val (.int p2), .val (.int p3), .val (.int p4), .val (.int p5), .val (.int (3 : Int32)), .val (.int (4 : Int32)), .unset, .unset, .unset, .unset, .unset] [.null])) _
        refine XS.astore X0.here hx rfl (hb hby at_29) rfl rfl (l' := #[.val (.int p1), .val (.int p2), .val (.int p3), .val (.int p4), .val (.int p5), .val (.int (3 : Int32)), .val (.int (4 : Int32)), .val .null, .unset, .unset, .unset, .unset]) rfl ?_
        show Steps p.tables e below (s₁.setTop (mkF m 31 #[.val (.int p1), .val (.int p2), .val (.int p3), .val (.int p4), .val (.int p5), .val (.int (3 : Int32)), .val (.int (4 : Int32)), .val .null, .unset, .unset, .unset, .unset] [])) _
        refine XS.iload X0.here hx rfl (hb hby at_31) rfl ?_
        show Steps p.tables e below (s₁.setTop (mkF m 33 #[.val (.int p1), .val (.int p2), .val (.int p3), .val (.int p4), .val (.int p5), .val (.int (3 : Int32)), .val (.int (4 : Int32)), .val .null, .unset, .unset, .unset, .unset] [(.int (3 : Int32))])) _
        refine XS.iconst X0.here hx rfl (hb hby at_33) ?_
        show Steps p.tables e below (s₁.setTop (mkF m 34 #[.val (.int p1), .val (.int p2), .val (.int p3), .val (.int p4), .val (.int p5), .val (.int (3 : Int32)), .val (.int (4 : Int32)), .val .null, .unset, .unset, .unset, .unset] [(.int (1 : Int32)), (.int (3 : Int32))])) _
        refine XS.icmpYes X0.here hx rfl (pc0 := 34) (pc' := 45) rfl (hb hby at_34) rfl (feq (by decide)).2 (by decide) (by decide) ?_
        show Steps p.tables e below (s₁.setTop (mkF m 45 #[.val (.int p1), .val (.int p2), .val (.int p3), .val (.int p4), .val (.int p5), .val (.int (3 : Int32)), .val (.int (4 : Int32)), .val .null, .unset, .unset, .unset, .unset] [])) _
        refine XS.iload X0.here hx rfl (hb hby at_45) rfl ?_
        show Steps p.tables e below (s₁.setTop (mkF m 47 #[.val (.int p1), .val (.int p2), .val (.int p3), .val (.int p4), .val (.int p5), .val (.int (3 : Int32)), .val (.int (4 : Int32)), .val .null, .unset, .unset, .unset, .unset] [(.int (3 : Int32))])) _
        refine XS.iconst X0.here hx rfl (hb hby at_47) ?_
        show Steps p.tables e below (s₁.setTop (mkF m 48 #[.val (.int p1), .val (.int p2), .val (.int p3), .val (.int p4), .val (.int p5), .val (.int (3 : Int32)), .val (.int (4 : Int32)), .val .null, .unset, .unset, .unset, .unset] [(.int (2 : Int32)), (.int (3 : Int32))])) _
        refine XS.icmpYes X0.here hx rfl (pc0 := 48) (pc' := 59) rfl (hb hby at_48) rfl (feq (by decide)).2 (by decide) (by decide) ?_
        show Steps p.tables e below (s₁.setTop (mkF m 59 #[.val (.int p1), .val (.int p2), .val (.int p3), .val (.int p4), .val (.int p5), .val (.int (3 : Int32)), .val (.int (4 : Int32)), .val .null, .unset, .unset, .unset, .unset] [])) _
        refine XS.iload X0.here hx rfl (hb hby at_59) rfl ?_
        show Steps p.tables e below (s₁.setTop (mkF m 61 #[.val (.int p1), .val (.int p2), .val (.int p3), .val (.int p4), .val (.int p5), .val (.int (3 : Int32)), .val (.int (4 : Int32)), .val .null, .unset, .unset, .unset, .unset] [(.int (3 : Int32))])) _
        refine XS.iconst X0.here hx rfl (hb hby at_61) ?_
        show Steps p.tables e below (s₁.setTop (mkF m 62 #[.val (.int p1), .val (.int p2), .val (.int p3), .val (.int p4), .val (.int p5), .val (.int (3 : Int32)), .val (.int (4 : Int32)), .val .null, .unset, .unset, .unset, .unset] [(.int (3 : Int32)), (.int (3 : Int32))])) _
        refine XS.icmpNo X0.here hx rfl (hb hby at_62) rfl (teq (by decide)).2 ?_
        show Steps p.tables e below (s₁.setTop (mkF m 65 #[.val (.int p1), .val (.int p2), .val (.int p3), .val (.int p4), .val (.int p5), .val (.int (3 : Int32)), .val (.int (4 : Int32)), .val .null, .unset, .unset, .unset, .unset] [])) _
        refine XS.iconst X0.here hx rfl (hb hby at_65) ?_
        exact k)
    obtain ⟨T258, h258, k258, X258, e258, E258, A258, Ea258, st258⟩ := newPE X0 hx hZ (hw _ (List.mem_of_getElem? (i := 0) rfl)) e0 (g := (mkF m 66 #[.val (.int p1), .val (.int p2), .val (.int p3), .val (.int p4), .val (.int p5), .val (.int (3 : Int32)), .val (.int (4 : Int32)), .val .null, .unset, .unset, .unset, .unset] [(.int (4 : Int32))])) rfl (hb hby at_66) rfl (by decide) (cap := 4) (by decide) (by decide) (by decide) (by decide) (ad := "[B") (by decide)
    obtain ⟨b258, g258⟩ : ∃ z, z = h0.size := ⟨_, rfl⟩
    rw [← g258] at A258 st258 Ea258
    have g_b258 : n0 ≤ b258 := Nat.le_trans Z0 (Nat.le_of_eq g258.symm)
    have Z258 : n0 ≤ h258.size := Nat.le_trans Z0 E258.1
    have V258 : own_Ar Z h258 b258 .byte 4 (fun _ => (.int (0 : Int32))) := own_Ar.new A258 rfl
    have ac259 : ∀ t, Steps p.tables e below (T258.setTop (mkF m 68 #[.val (.int p1), .val (.int p2), .val (.int p3), .val (.int p4), .val (.int p5), .val (.int (3 : Int32)), .val (.int (4 : Int32)), .val .null, .unset, .unset, .unset, .unset] [(.ref b258)])) t → Steps p.tables e below (s₁.setTop (entryFrame m #[(.int p1), (.int p2), (.int p3), (.int p4), (.int p5)] maxLocals)) t := fun t k => ac257 t (st258 t k)
    have ac260 : ∀ t, Steps p.tables e below (T258.setTop (mkF m 81 #[.val (.int p1), .val (.int p2), .val (.int p3), .val (.int p4), .val (.int p5), .val (.int (3 : Int32)), .val (.int (4 : Int32)), .val (.ref b258), .unset, .unset, .unset, .unset] [(.int (p3.toInt8.toInt32)), (.int (0 : Int32)), (.ref b258)])) t → Steps p.tables e below (s₁.setTop (entryFrame m #[(.int p1), (.int p2), (.int p3), (.int p4), (.int p5)] maxLocals)) t := fun t k => ac259 t (by
        show Steps p.tables e below (T258.setTop (mkF m 68 #[.val (.int p1), .val (.int p2), .val (.int p3), .val (.int p4), .val (.int p5), .val (.int (3 : Int32)), .val (.int (4 : Int32)), .val .null, .unset, .unset, .unset, .unset] [(.ref b258)])) _
        refine XS.astore X258.here hx rfl (hb hby at_68) rfl rfl (l' := #[.val (.int p1), .val (.int p2), .val (.int p3), .val (.int p4), .val (.int p5), .val (.int (3 : Int32)), .val (.int (4 : Int32)), .val (.ref b258), .unset, .unset, .unset, .unset]) rfl ?_
        show Steps p.tables e below (T258.setTop (mkF m 70 #[.val (.int p1), .val (.int p2), .val (.int p3), .val (.int p4), .val (.int p5), .val (.int (3 : Int32)), .val (.int (4 : Int32)), .val (.ref b258), .unset, .unset, .unset, .unset] [])) _
        refine XS.iload X258.here hx rfl (hb hby at_70) rfl ?_
        show Steps p.tables e below (T258.setTop (mkF m 72 #[.val (.int p1), .val (.int p2), .val (.int p3), .val (.int p4), .val (.int p5), .val (.int (3 : Int32)), .val (.int (4 : Int32)), .val (.ref b258), .unset, .unset, .unset, .unset] [(.int (4 : Int32))])) _
        refine XS.iconst X258.here hx rfl (hb hby at_72) ?_
        show Steps p.tables e below (T258.setTop (mkF m 73 #[.val (.int p1), .val (.int p2), .val (.int p3), .val (.int p4), .val (.int p5), .val (.int (3 : Int32)), .val (.int (4 : Int32)), .val (.ref b258), .unset, .unset, .unset, .unset] [(.int (2 : Int32)), (.int (4 : Int32))])) _
        refine XS.icmpNo X258.here hx rfl (hb hby at_73) rfl (flt (by decide)).1 ?_
        show Steps p.tables e below (T258.setTop (mkF m 76 #[.val (.int p1), .val (.int p2), .val (.int p3), .val (.int p4), .val (.int p5), .val (.int (3 : Int32)), .val (.int (4 : Int32)), .val (.ref b258), .unset, .unset, .unset, .unset] [])) _
        refine XS.aload X258.here hx rfl (hb hby at_76) rfl rfl ?_
        show Steps p.tables e below (T258.setTop (mkF m 78 #[.val (.int p1), .val (.int p2), .val (.int p3), .val (.int p4), .val (.int p5), .val (.int (3 : Int32)), .val (.int (4 : Int32)), .val (.ref b258), .unset, .unset, .unset, .unset] [(.ref b258)])) _
        refine XS.iconst X258.here hx rfl (hb hby at_78) ?_
        show Steps p.tables e below (T258.setTop (mkF m 79 #[.val (.int p1), .val (.int p2), .val (.int p3), .val (.int p4), .val (.int p5), .val (.int (3 : Int32)), .val (.int (4 : Int32)), .val (.ref b258), .unset, .unset, .unset, .unset] [(.int (0 : Int32)), (.ref b258)])) _
        refine XS.iloadN X258.here hx rfl (hb hby at_79) rfl ?_
        show Steps p.tables e below (T258.setTop (mkF m 80 #[.val (.int p1), .val (.int p2), .val (.int p3), .val (.int p4), .val (.int p5), .val (.int (3 : Int32)), .val (.int (4 : Int32)), .val (.ref b258), .unset, .unset, .unset, .unset] [(.int p3), (.int (0 : Int32)), (.ref b258)])) _
        refine XS.i2b X258.here hx rfl (hb hby at_80) rfl ?_
        exact k)
    obtain ⟨cl261, Ac261, hin261, -⟩ := V258.at (j := (0 : Int32)) (i := 0) rfl (by decide)
    obtain ⟨T261, h261, X261, e261, W261, st261⟩ := stB X258 hx hZ e258 Ac261 (j := (0 : Int32)) hin261 (g := (mkF m 81 #[.val (.int p1), .val (.int p2), .val (.int p3), .val (.int p4), .val (.int p5), .val (.int (3 : Int32)), .val (.int (4 : Int32)), .val (.ref b258), .unset, .unset, .unset, .unset] [(.int (p3.toInt8.toInt32)), (.int (0 : Int32)), (.ref b258)])) rfl rfl (hb hby at_81)
    have V261 := V258.set (i := 0) rfl W261 (fits_nar_byte _)
    have Ef262 := Ea258.wr W261
    have N261 := Fr.snoc X261 N0 g_b258
    have Z261 : n0 ≤ h261.size := Nat.le_trans Z258 (Keep.of_wr W261).1
    have ac263 : ∀ t, Steps p.tables e below (T261.setTop (mkF m 82 #[.val (.int p1), .val (.int p2), .val (.int p3), .val (.int p4), .val (.int p5), .val (.int (3 : Int32)), .val (.int (4 : Int32)), .val (.ref b258), .unset, .unset, .unset, .unset] [])) t → Steps p.tables e below (s₁.setTop (entryFrame m #[(.int p1), (.int p2), (.int p3), (.int p4), (.int p5)] maxLocals)) t := fun t k => ac260 t (st261 t k)
    have ac264 : ∀ t, Steps p.tables e below (T261.setTop (mkF m 90 #[.val (.int p1), .val (.int p2), .val (.int p3), .val (.int p4), .val (.int p5), .val (.int (3 : Int32)), .val (.int (4 : Int32)), .val (.ref b258), .unset, .unset, .unset, .unset] [(.int ((p3 >>> ((8 : Int32) &&& 31)).toInt8.toInt32)), (.int (1 : Int32)), (.ref b258)])) t → Steps p.tables e below (s₁.setTop (entryFrame m #[(.int p1), (.int p2), (.int p3), (.int p4), (.int p5)] maxLocals)) t := fun t k => ac263 t (by
        show Steps p.tables e below (T261.setTop (mkF m 82 #[.val (.int p1), .val (.int p2), .val (.int p3), .val (.int p4), .val (.int p5), .val (.int (3 : Int32)), .val (.int (4 : Int32)), .val (.ref b258), .unset, .unset, .unset, .unset] [])) _
        refine XS.aload X261.here hx rfl (hb hby at_82) rfl rfl ?_
        show Steps p.tables e below (T261.setTop (mkF m 84 #[.val (.int p1), .val (.int p2), .val (.int p3), .val (.int p4), .val (.int p5), .val (.int (3 : Int32)), .val (.int (4 : Int32)), .val (.ref b258), .unset, .unset, .unset, .unset] [(.ref b258)])) _
        refine XS.iconst X261.here hx rfl (hb hby at_84) ?_
        show Steps p.tables e below (T261.setTop (mkF m 85 #[.val (.int p1), .val (.int p2), .val (.int p3), .val (.int p4), .val (.int p5), .val (.int (3 : Int32)), .val (.int (4 : Int32)), .val (.ref b258), .unset, .unset, .unset, .unset] [(.int (1 : Int32)), (.ref b258)])) _
        refine XS.iloadN X261.here hx rfl (hb hby at_85) rfl ?_
        show Steps p.tables e below (T261.setTop (mkF m 86 #[.val (.int p1), .val (.int p2), .val (.int p3), .val (.int p4), .val (.int p5), .val (.int (3 : Int32)), .val (.int (4 : Int32)), .val (.ref b258), .unset, .unset, .unset, .unset] [(.int p3), (.int (1 : Int32)), (.ref b258)])) _
        refine XS.bipush X261.here hx rfl (hb hby at_86) ?_
        show Steps p.tables e below (T261.setTop (mkF m 88 #[.val (.int p1), .val (.int p2), .val (.int p3), .val (.int p4), .val (.int p5), .val (.int (3 : Int32)), .val (.int (4 : Int32)), .val (.ref b258), .unset, .unset, .unset, .unset] [(.int (8 : Int32)), (.int p3), (.int (1 : Int32)), (.ref b258)])) _
        refine XS.ishr X261.here hx rfl (hb hby at_88) rfl ?_
        show Steps p.tables e below (T261.setTop (mkF m 89 #[.val (.int p1), .val (.int p2), .val (.int p3), .val (.int p4), .val (.int p5), .val (.int (3 : Int32)), .val (.int (4 : Int32)), .val (.ref b258), .unset, .unset, .unset, .unset] [(.int (p3 >>> ((8 : Int32) &&& 31))), (.int (1 : Int32)), (.ref b258)])) _
        refine XS.i2b X261.here hx rfl (hb hby at_89) rfl ?_
        exact k)
    obtain ⟨cl265, Ac265, hin265, -⟩ := V261.at (j := (1 : Int32)) (i := 1) rfl (by decide)
    obtain ⟨T265, h265, X265, e265, W265, st265⟩ := stB X261 hx hZ e261 Ac265 (j := (1 : Int32)) hin265 (g := (mkF m 90 #[.val (.int p1), .val (.int p2), .val (.int p3), .val (.int p4), .val (.int p5), .val (.int (3 : Int32)), .val (.int (4 : Int32)), .val (.ref b258), .unset, .unset, .unset, .unset] [(.int ((p3 >>> ((8 : Int32) &&& 31)).toInt8.toInt32)), (.int (1 : Int32)), (.ref b258)])) rfl rfl (hb hby at_90)
    have V265 := V261.set (i := 1) rfl W265 (fits_nar_byte _)
    have Ef266 := Ef262.wr W265
    have N265 := Fr.snoc X265 N261 g_b258
    have Z265 : n0 ≤ h265.size := Nat.le_trans Z261 (Keep.of_wr W265).1
    have ac267 : ∀ t, Steps p.tables e below (T265.setTop (mkF m 91 #[.val (.int p1), .val (.int p2), .val (.int p3), .val (.int p4), .val (.int p5), .val (.int (3 : Int32)), .val (.int (4 : Int32)), .val (.ref b258), .unset, .unset, .unset, .unset] [])) t → Steps p.tables e below (s₁.setTop (entryFrame m #[(.int p1), (.int p2), (.int p3), (.int p4), (.int p5)] maxLocals)) t := fun t k => ac264 t (st265 t k)
    have ac268 : ∀ t, Steps p.tables e below (T265.setTop (mkF m 102 #[.val (.int p1), .val (.int p2), .val (.int p3), .val (.int p4), .val (.int p5), .val (.int (3 : Int32)), .val (.int (4 : Int32)), .val (.ref b258), .unset, .unset, .unset, .unset] [(.int (p4.toInt8.toInt32)), (.int (2 : Int32)), (.ref b258)])) t → Steps p.tables e below (s₁.setTop (entryFrame m #[(.int p1), (.int p2), (.int p3), (.int p4), (.int p5)] maxLocals)) t := fun t k => ac267 t (by
        show Steps p.tables e below (T265.setTop (mkF m 91 #[.val (.int p1), .val (.int p2), .val (.int p3), .val (.int p4), .val (.int p5), .val (.int (3 : Int32)), .val (.int (4 : Int32)), .val (.ref b258), .unset, .unset, .unset, .unset] [])) _
        refine XS.iload X265.here hx rfl (hb hby at_91) rfl ?_
        show Steps p.tables e below (T265.setTop (mkF m 93 #[.val (.int p1), .val (.int p2), .val (.int p3), .val (.int p4), .val (.int p5), .val (.int (3 : Int32)), .val (.int (4 : Int32)), .val (.ref b258), .unset, .unset, .unset, .unset] [(.int (4 : Int32))])) _
        refine XS.iconst X265.here hx rfl (hb hby at_93) ?_
        show Steps p.tables e below (T265.setTop (mkF m 94 #[.val (.int p1), .val (.int p2), .val (.int p3), .val (.int p4), .val (.int p5), .val (.int (3 : Int32)), .val (.int (4 : Int32)), .val (.ref b258), .unset, .unset, .unset, .unset] [(.int (4 : Int32)), (.int (4 : Int32))])) _
        refine XS.icmpNo X265.here hx rfl (hb hby at_94) rfl (flt (by decide)).1 ?_
        show Steps p.tables e below (T265.setTop (mkF m 97 #[.val (.int p1), .val (.int p2), .val (.int p3), .val (.int p4), .val (.int p5), .val (.int (3 : Int32)), .val (.int (4 : Int32)), .val (.ref b258), .unset, .unset, .unset, .unset] [])) _
        refine XS.aload X265.here hx rfl (hb hby at_97) rfl rfl ?_
        show Steps p.tables e below (T265.setTop (mkF m 99 #[.val (.int p1), .val (.int p2), .val (.int p3), .val (.int p4), .val (.int p5), .val (.int (3 : Int32)), .val (.int (4 : Int32)), .val (.ref b258), .unset, .unset, .unset, .unset] [(.ref b258)])) _
        refine XS.iconst X265.here hx rfl (hb hby at_99) ?_
        show Steps p.tables e below (T265.setTop (mkF m 100 #[.val (.int p1), .val (.int p2), .val (.int p3), .val (.int p4), .val (.int p5), .val (.int (3 : Int32)), .val (.int (4 : Int32)), .val (.ref b258), .unset, .unset, .unset, .unset] [(.int (2 : Int32)), (.ref b258)])) _
        refine XS.iloadN X265.here hx rfl (hb hby at_100) rfl ?_
        show Steps p.tables e below (T265.setTop (mkF m 101 #[.val (.int p1), .val (.int p2), .val (.int p3), .val (.int p4), .val (.int p5), .val (.int (3 : Int32)), .val (.int (4 : Int32)), .val (.ref b258), .unset, .unset, .unset, .unset] [(.int p4), (.int (2 : Int32)), (.ref b258)])) _
        refine XS.i2b X265.here hx rfl (hb hby at_101) rfl ?_
        exact k)
    obtain ⟨cl269, Ac269, hin269, -⟩ := V265.at (j := (2 : Int32)) (i := 2) rfl (by decide)
    obtain ⟨T269, h269, X269, e269, W269, st269⟩ := stB X265 hx hZ e265 Ac269 (j := (2 : Int32)) hin269 (g := (mkF m 102 #[.val (.int p1), .val (.int p2), .val (.int p3), .val (.int p4), .val (.int p5), .val (.int (3 : Int32)), .val (.int (4 : Int32)), .val (.ref b258), .unset, .unset, .unset, .unset] [(.int (p4.toInt8.toInt32)), (.int (2 : Int32)), (.ref b258)])) rfl rfl (hb hby at_102)
    have V269 := V265.set (i := 2) rfl W269 (fits_nar_byte _)
    have Ef270 := Ef266.wr W269
    have N269 := Fr.snoc X269 N265 g_b258
    have Z269 : n0 ≤ h269.size := Nat.le_trans Z265 (Keep.of_wr W269).1
    have ac271 : ∀ t, Steps p.tables e below (T269.setTop (mkF m 103 #[.val (.int p1), .val (.int p2), .val (.int p3), .val (.int p4), .val (.int p5), .val (.int (3 : Int32)), .val (.int (4 : Int32)), .val (.ref b258), .unset, .unset, .unset, .unset] [])) t → Steps p.tables e below (s₁.setTop (entryFrame m #[(.int p1), (.int p2), (.int p3), (.int p4), (.int p5)] maxLocals)) t := fun t k => ac268 t (st269 t k)
    have ac272 : ∀ t, Steps p.tables e below (T269.setTop (mkF m 111 #[.val (.int p1), .val (.int p2), .val (.int p3), .val (.int p4), .val (.int p5), .val (.int (3 : Int32)), .val (.int (4 : Int32)), .val (.ref b258), .unset, .unset, .unset, .unset] [(.int ((p4 >>> ((8 : Int32) &&& 31)).toInt8.toInt32)), (.int (3 : Int32)), (.ref b258)])) t → Steps p.tables e below (s₁.setTop (entryFrame m #[(.int p1), (.int p2), (.int p3), (.int p4), (.int p5)] maxLocals)) t := fun t k => ac271 t (by
        show Steps p.tables e below (T269.setTop (mkF m 103 #[.val (.int p1), .val (.int p2), .val (.int p3), .val (.int p4), .val (.int p5), .val (.int (3 : Int32)), .val (.int (4 : Int32)), .val (.ref b258), .unset, .unset, .unset, .unset] [])) _
        refine XS.aload X269.here hx rfl (hb hby at_103) rfl rfl ?_
        show Steps p.tables e below (T269.setTop (mkF m 105 #[.val (.int p1), .val (.int p2), .val (.int p3), .val (.int p4), .val (.int p5), .val (.int (3 : Int32)), .val (.int (4 : Int32)), .val (.ref b258), .unset, .unset, .unset, .unset] [(.ref b258)])) _
        refine XS.iconst X269.here hx rfl (hb hby at_105) ?_
        show Steps p.tables e below (T269.setTop (mkF m 106 #[.val (.int p1), .val (.int p2), .val (.int p3), .val (.int p4), .val (.int p5), .val (.int (3 : Int32)), .val (.int (4 : Int32)), .val (.ref b258), .unset, .unset, .unset, .unset] [(.int (3 : Int32)), (.ref b258)])) _
        refine XS.iloadN X269.here hx rfl (hb hby at_106) rfl ?_
        show Steps p.tables e below (T269.setTop (mkF m 107 #[.val (.int p1), .val (.int p2), .val (.int p3), .val (.int p4), .val (.int p5), .val (.int (3 : Int32)), .val (.int (4 : Int32)), .val (.ref b258), .unset, .unset, .unset, .unset] [(.int p4), (.int (3 : Int32)), (.ref b258)])) _
        refine XS.bipush X269.here hx rfl (hb hby at_107) ?_
        show Steps p.tables e below (T269.setTop (mkF m 109 #[.val (.int p1), .val (.int p2), .val (.int p3), .val (.int p4), .val (.int p5), .val (.int (3 : Int32)), .val (.int (4 : Int32)), .val (.ref b258), .unset, .unset, .unset, .unset] [(.int (8 : Int32)), (.int p4), (.int (3 : Int32)), (.ref b258)])) _
        refine XS.ishr X269.here hx rfl (hb hby at_109) rfl ?_
        show Steps p.tables e below (T269.setTop (mkF m 110 #[.val (.int p1), .val (.int p2), .val (.int p3), .val (.int p4), .val (.int p5), .val (.int (3 : Int32)), .val (.int (4 : Int32)), .val (.ref b258), .unset, .unset, .unset, .unset] [(.int (p4 >>> ((8 : Int32) &&& 31))), (.int (3 : Int32)), (.ref b258)])) _
        refine XS.i2b X269.here hx rfl (hb hby at_110) rfl ?_
        exact k)
    obtain ⟨cl273, Ac273, hin273, -⟩ := V269.at (j := (3 : Int32)) (i := 3) rfl (by decide)
    obtain ⟨T273, h273, X273, e273, W273, st273⟩ := stB X269 hx hZ e269 Ac273 (j := (3 : Int32)) hin273 (g := (mkF m 111 #[.val (.int p1), .val (.int p2), .val (.int p3), .val (.int p4), .val (.int p5), .val (.int (3 : Int32)), .val (.int (4 : Int32)), .val (.ref b258), .unset, .unset, .unset, .unset] [(.int ((p4 >>> ((8 : Int32) &&& 31)).toInt8.toInt32)), (.int (3 : Int32)), (.ref b258)])) rfl rfl (hb hby at_111)
    have V273 := V269.set (i := 3) rfl W273 (fits_nar_byte _)
    have Ef274 := Ef270.wr W273
    have N273 := Fr.snoc X273 N269 g_b258
    have Z273 : n0 ≤ h273.size := Nat.le_trans Z269 (Keep.of_wr W273).1
    have ac275 : ∀ t, Steps p.tables e below (T273.setTop (mkF m 112 #[.val (.int p1), .val (.int p2), .val (.int p3), .val (.int p4), .val (.int p5), .val (.int (3 : Int32)), .val (.int (4 : Int32)), .val (.ref b258), .unset, .unset, .unset, .unset] [])) t → Steps p.tables e below (s₁.setTop (entryFrame m #[(.int p1), (.int p2), (.int p3), (.int p4), (.int p5)] maxLocals)) t := fun t k => ac272 t (st273 t k)
    have V276 : own_Ar Z h273 b258 .byte 4 (fun k => if k = 0 then .int (p3.toInt8.toInt32) else if k = 1 then .int ((p3 >>> ((8 : Int32) &&& 31)).toInt8.toInt32) else if k = 2 then .int (p4.toInt8.toInt32) else if k = 3 then .int ((p4 >>> ((8 : Int32) &&& 31)).toInt8.toInt32) else .int 0) := V273.eq (fun k hk => match k, hk with | 0, _ => congrArg Value.int (own_b2 _) | 1, _ => congrArg Value.int (own_b2 _) | 2, _ => congrArg Value.int (own_b2 _) | 3, _ => congrArg Value.int (own_b2 _))
    have ac277 : ∀ t, Steps p.tables e below (T273.setTop (mkF m 114 #[.val (.int p1), .val (.int p2), .val (.int p3), .val (.int p4), .val (.int p5), .val (.int (3 : Int32)), .val (.int (4 : Int32)), .val (.ref b258), .unset, .unset, .unset, .unset] [(.int (20 : Int32))])) t → Steps p.tables e below (s₁.setTop (entryFrame m #[(.int p1), (.int p2), (.int p3), (.int p4), (.int p5)] maxLocals)) t := fun t k => ac275 t (by
        show Steps p.tables e below (T273.setTop (mkF m 112 #[.val (.int p1), .val (.int p2), .val (.int p3), .val (.int p4), .val (.int p5), .val (.int (3 : Int32)), .val (.int (4 : Int32)), .val (.ref b258), .unset, .unset, .unset, .unset] [])) _
        refine XS.bipush X273.here hx rfl (hb hby at_112) ?_
        exact k)
    obtain ⟨T278, h278, k278, X278, e278, E278, A278, st278⟩ := newP X273 hx hZ (hw _ (List.mem_of_getElem? (i := 0) rfl)) e273 (g := (mkF m 114 #[.val (.int p1), .val (.int p2), .val (.int p3), .val (.int p4), .val (.int p5), .val (.int (3 : Int32)), .val (.int (4 : Int32)), .val (.ref b258), .unset, .unset, .unset, .unset] [(.int (20 : Int32))])) rfl (hb hby at_114) rfl (by decide) (cap := 20) (by decide) (by decide) (by decide) (by decide)
    obtain ⟨b278, g278⟩ : ∃ z, z = h273.size := ⟨_, rfl⟩
    rw [← g278] at A278 st278
    have g_b278 : n0 ≤ b278 := Nat.le_trans Z273 (Nat.le_of_eq g278.symm)
    have ne_b258_b278 : b258 ≠ b278 := Nat.ne_of_lt (Nat.lt_of_lt_of_le Ef274.lt (Nat.le_of_eq g278.symm))
    have Ef279 := Ef274.ext E278
    have Vf280 := V276.ext E278
    have Z278 : n0 ≤ h278.size := Nat.le_trans Z273 E278.1
    have V278 : own_Ar Z h278 b278 .byte 20 (fun _ => (.int (0 : Int32))) := own_Ar.new A278 rfl
    have ac281 : ∀ t, Steps p.tables e below (T278.setTop (mkF m 116 #[.val (.int p1), .val (.int p2), .val (.int p3), .val (.int p4), .val (.int p5), .val (.int (3 : Int32)), .val (.int (4 : Int32)), .val (.ref b258), .unset, .unset, .unset, .unset] [(.ref b278)])) t → Steps p.tables e below (s₁.setTop (entryFrame m #[(.int p1), (.int p2), (.int p3), (.int p4), (.int p5)] maxLocals)) t := fun t k => ac277 t (st278 t k)
    have ac282 : ∀ t, Steps p.tables e below (T278.setTop (mkF m 124 #[.val (.int p1), .val (.int p2), .val (.int p3), .val (.int p4), .val (.int p5), .val (.int (3 : Int32)), .val (.int (4 : Int32)), .val (.ref b258), .val (.ref b278), .unset, .unset, .unset] [(.int (p5.toInt8.toInt32)), (.int (0 : Int32)), (.ref b278)])) t → Steps p.tables e below (s₁.setTop (entryFrame m #[(.int p1), (.int p2), (.int p3), (.int p4), (.int p5)] maxLocals)) t := fun t k => ac281 t (by
        show Steps p.tables e below (T278.setTop (mkF m 116 #[.val (.int p1), .val (.int p2), .val (.int p3), .val (.int p4), .val (.int p5), .val (.int (3 : Int32)), .val (.int (4 : Int32)), .val (.ref b258), .unset, .unset, .unset, .unset] [(.ref b278)])) _
        refine XS.astore X278.here hx rfl (hb hby at_116) rfl rfl (l' := #[.val (.int p1), .val (.int p2), .val (.int p3), .val (.int p4), .val (.int p5), .val (.int (3 : Int32)), .val (.int (4 : Int32)), .val (.ref b258), .val (.ref b278), .unset, .unset, .unset]) rfl ?_
        show Steps p.tables e below (T278.setTop (mkF m 118 #[.val (.int p1), .val (.int p2), .val (.int p3), .val (.int p4), .val (.int p5), .val (.int (3 : Int32)), .val (.int (4 : Int32)), .val (.ref b258), .val (.ref b278), .unset, .unset, .unset] [])) _
        refine XS.aload X278.here hx rfl (hb hby at_118) rfl rfl ?_
        show Steps p.tables e below (T278.setTop (mkF m 120 #[.val (.int p1), .val (.int p2), .val (.int p3), .val (.int p4), .val (.int p5), .val (.int (3 : Int32)), .val (.int (4 : Int32)), .val (.ref b258), .val (.ref b278), .unset, .unset, .unset] [(.ref b278)])) _
        refine XS.iconst X278.here hx rfl (hb hby at_120) ?_
        show Steps p.tables e below (T278.setTop (mkF m 121 #[.val (.int p1), .val (.int p2), .val (.int p3), .val (.int p4), .val (.int p5), .val (.int (3 : Int32)), .val (.int (4 : Int32)), .val (.ref b258), .val (.ref b278), .unset, .unset, .unset] [(.int (0 : Int32)), (.ref b278)])) _
        refine XS.iload X278.here hx rfl (hb hby at_121) rfl ?_
        show Steps p.tables e below (T278.setTop (mkF m 123 #[.val (.int p1), .val (.int p2), .val (.int p3), .val (.int p4), .val (.int p5), .val (.int (3 : Int32)), .val (.int (4 : Int32)), .val (.ref b258), .val (.ref b278), .unset, .unset, .unset] [(.int p5), (.int (0 : Int32)), (.ref b278)])) _
        refine XS.i2b X278.here hx rfl (hb hby at_123) rfl ?_
        exact k)
    obtain ⟨cl283, Ac283, hin283, -⟩ := V278.at (j := (0 : Int32)) (i := 0) rfl (by decide)
    obtain ⟨T283, h283, X283, e283, W283, st283⟩ := stB X278 hx hZ e278 Ac283 (j := (0 : Int32)) hin283 (g := (mkF m 124 #[.val (.int p1), .val (.int p2), .val (.int p3), .val (.int p4), .val (.int p5), .val (.int (3 : Int32)), .val (.int (4 : Int32)), .val (.ref b258), .val (.ref b278), .unset, .unset, .unset] [(.int (p5.toInt8.toInt32)), (.int (0 : Int32)), (.ref b278)])) rfl rfl (hb hby at_124)
    have V283 := V278.set (i := 0) rfl W283 (fits_nar_byte _)
    have Ef284 := Ef279.wr W283
    have Vf285 := Vf280.other W283 ne_b258_b278
    have N283 := Fr.snoc X283 N273 g_b278
    have Z283 : n0 ≤ h283.size := Nat.le_trans Z278 (Keep.of_wr W283).1
    have ac286 : ∀ t, Steps p.tables e below (T283.setTop (mkF m 125 #[.val (.int p1), .val (.int p2), .val (.int p3), .val (.int p4), .val (.int p5), .val (.int (3 : Int32)), .val (.int (4 : Int32)), .val (.ref b258), .val (.ref b278), .unset, .unset, .unset] [])) t → Steps p.tables e below (s₁.setTop (entryFrame m #[(.int p1), (.int p2), (.int p3), (.int p4), (.int p5)] maxLocals)) t := fun t k => ac282 t (st283 t k)
    obtain ⟨T287, h287, X287, e287, E287, A287, D287, -, st287⟩ := newO X283 hx hZ hown (hw _ (List.mem_of_getElem? (i := 1) rfl)) (hw _ (List.mem_of_getElem? (i := 2) rfl)) (hw _ (List.mem_of_getElem? (i := 3) rfl)) e283 (g := (mkF m 125 #[.val (.int p1), .val (.int p2), .val (.int p3), .val (.int p4), .val (.int p5), .val (.int (3 : Int32)), .val (.int (4 : Int32)), .val (.ref b258), .val (.ref b278), .unset, .unset, .unset] [])) rfl (hb hby at_125) (by decide) (by decide)
    obtain ⟨b287, g287⟩ : ∃ z, z = h283.size := ⟨_, rfl⟩
    rw [← g287] at A287 D287 st287
    have g_b287 : n0 ≤ b287 := Nat.le_trans Z283 (Nat.le_of_eq g287.symm)
    have ne_b258_b287 : b258 ≠ b287 := Nat.ne_of_lt (Nat.lt_of_lt_of_le Ef284.lt (Nat.le_of_eq g287.symm))
    have ne_b278_b287 : b278 ≠ b287 := Nat.ne_of_lt (Nat.lt_of_lt_of_le V283.lt (Nat.le_of_eq g287.symm))
    have Ef288 := Ef284.ext E287
    have Vf289 := Vf285.ext E287
    have Vf290 := V283.ext E287
    have Z287 : n0 ≤ h287.size := Nat.le_trans Z283 E287.1
    have F_mPcr_b287 : Fld Z h287 b287 "com/example/votal/votal/log/LogRecord" "mPcr" "I" (.int (0 : Int32)) := D287 (Or.inr (hw _ (List.mem_of_getElem? (i := 19) rfl))) (ty := .int) (by decide)
    have F_mTemplateDigest_b287 : Fld Z h287 b287 "com/example/votal/votal/log/LogRecord" "mTemplateDigest" "[B" .null := D287 (Or.inr (hw _ (List.mem_of_getElem? (i := 21) rfl))) (ty := (.array .byte)) (by decide)
    have F_mTemplateName_b287 : Fld Z h287 b287 "com/example/votal/votal/log/LogRecord" "mTemplateName" "Ljava/lang/String;" .null := D287 (Or.inr (hw _ (List.mem_of_getElem? (i := 23) rfl))) (ty := (.object "java/lang/String")) (by decide)
    have F_mTemplate_b287 : Fld Z h287 b287 "com/example/votal/votal/log/LogRecord" "mTemplate" "Lcom/example/votal/votal/log/Template;" .null := D287 (Or.inr (hw _ (List.mem_of_getElem? (i := 25) rfl))) (ty := (.object "com/example/votal/votal/log/Template")) (by decide)
    have F_mName_b287 : Fld Z h287 b287 "com/example/votal/votal/log/LogRecord" "mName" "Ljava/lang/String;" .null := D287 (Or.inr (hw _ (List.mem_of_getElem? (i := 27) rfl))) (ty := (.object "java/lang/String")) (by decide)
    have F_mDigestAlgorithm_b287 : Fld Z h287 b287 "com/example/votal/votal/log/LogRecord" "mDigestAlgorithm" "Lcom/example/votal/votal/log/DigestAlgorithm;" .null := D287 (Or.inr (hw _ (List.mem_of_getElem? (i := 29) rfl))) (ty := (.object "com/example/votal/votal/log/DigestAlgorithm")) (by decide)
    have F_mDigest_b287 : Fld Z h287 b287 "com/example/votal/votal/log/LogRecord" "mDigest" "[B" .null := D287 (Or.inr (hw _ (List.mem_of_getElem? (i := 31) rfl))) (ty := (.array .byte)) (by decide)
    have F_mEventDataOffset_b287 : Fld Z h287 b287 "com/example/votal/votal/log/LogRecord" "mEventDataOffset" "I" (.int (0 : Int32)) := D287 (Or.inr (hw _ (List.mem_of_getElem? (i := 33) rfl))) (ty := .int) (by decide)
    have F_mTemplateData_b287 : Fld Z h287 b287 "com/example/votal/votal/log/LogRecord" "mTemplateData" "[B" .null := D287 (Or.inr (hw _ (List.mem_of_getElem? (i := 35) rfl))) (ty := (.array .byte)) (by decide)
    have F_mViolation_b287 : Fld Z h287 b287 "com/example/votal/votal/log/LogRecord" "mViolation" "Z" (.int (0 : Int32)) := D287 (Or.inr (hw _ (List.mem_of_getElem? (i := 40) rfl))) (ty := .boolean) (by decide)
    have ac291 : ∀ t, Steps p.tables e below (T287.setTop (mkF m 128 #[.val (.int p1), .val (.int p2), .val (.int p3), .val (.int p4), .val (.int p5), .val (.int (3 : Int32)), .val (.int (4 : Int32)), .val (.ref b258), .val (.ref b278), .unset, .unset, .unset] [(.ref b287)])) t → Steps p.tables e below (s₁.setTop (entryFrame m #[(.int p1), (.int p2), (.int p3), (.int p4), (.int p5)] maxLocals)) t := fun t k => ac286 t (st287 t k)
    have ac292 : ∀ t, Steps p.tables e below (T287.setTop (mkF m 132 #[.val (.int p1), .val (.int p2), .val (.int p3), .val (.int p4), .val (.int p5), .val (.int (3 : Int32)), .val (.int (4 : Int32)), .val (.ref b258), .val (.ref b278), .unset, .unset, .unset] [(.ref b278), (.int p1), (.ref b287), (.ref b287)])) t → Steps p.tables e below (s₁.setTop (entryFrame m #[(.int p1), (.int p2), (.int p3), (.int p4), (.int p5)] maxLocals)) t := fun t k => ac291 t (by
        show Steps p.tables e below (T287.setTop (mkF m 128 #[.val (.int p1), .val (.int p2), .val (.int p3), .val (.int p4), .val (.int p5), .val (.int (3 : Int32)), .val (.int (4 : Int32)), .val (.ref b258), .val (.ref b278), .unset, .unset, .unset] [(.ref b287)])) _
        refine XS.dup X287.here hx rfl (hb hby at_128) rfl rfl ?_
        show Steps p.tables e below (T287.setTop (mkF m 129 #[.val (.int p1), .val (.int p2), .val (.int p3), .val (.int p4), .val (.int p5), .val (.int (3 : Int32)), .val (.int (4 : Int32)), .val (.ref b258), .val (.ref b278), .unset, .unset, .unset] [(.ref b287), (.ref b287)])) _
        refine XS.iloadN X287.here hx rfl (hb hby at_129) rfl ?_
        show Steps p.tables e below (T287.setTop (mkF m 130 #[.val (.int p1), .val (.int p2), .val (.int p3), .val (.int p4), .val (.int p5), .val (.int (3 : Int32)), .val (.int (4 : Int32)), .val (.ref b258), .val (.ref b278), .unset, .unset, .unset] [(.int p1), (.ref b287), (.ref b287)])) _
        refine XS.aload X287.here hx rfl (hb hby at_130) rfl rfl ?_
        exact k)
    have hS0 : s.Since s.vm 0 := State.WarmedH.since (State.WarmedH.refl s) 0
    obtain ⟨a293_, T293, h293, k293, X293, e293, E293, hS293, hk293, hZ, hown, st293⟩ := ldcS (s := s) (vm0 := s.vm) X287 hx hZ hown (hw _ (List.mem_of_getElem? (i := 4) rfl)) (own_sA hw) e287 hS0 (Nat.zero_le _) (g := (mkF m 132 #[.val (.int p1), .val (.int p2), .val (.int p3), .val (.int p4), .val (.int p5), .val (.int (3 : Int32)), .val (.int (4 : Int32)), .val (.ref b258), .val (.ref b278), .unset, .unset, .unset] [(.ref b278), (.int p1), (.ref b287), (.ref b287)])) rfl (hb hby at_132) (n := 12) (by decide) (by decide) (by decide) (by decide)
    have Ef294 := Ef288.ext E293
    have Vf295 := Vf289.ext E293
    have Vf296 := Vf290.ext E293
    have Ef297 := A287.ext E293
    have Ff298 := F_mPcr_b287.ext E293
    have Ff299 := F_mTemplateDigest_b287.ext E293
    have Ff300 := F_mTemplateName_b287.ext E293
    have Ff301 := F_mTemplate_b287.ext E293
    have Ff302 := F_mName_b287.ext E293
    have Ff303 := F_mDigestAlgorithm_b287.ext E293
    have Ff304 := F_mDigest_b287.ext E293
    have Ff305 := F_mEventDataOffset_b287.ext E293
    have Ff306 := F_mTemplateData_b287.ext E293
    have Ff307 := F_mViolation_b287.ext E293
    have Z293 : n0 ≤ h293.size := Nat.le_trans Z287 E293.1
    have ac308 : ∀ t, Steps p.tables e below (T293.setTop (mkF m 134 #[.val (.int p1), .val (.int p2), .val (.int p3), .val (.int p4), .val (.int p5), .val (.int (3 : Int32)), .val (.int (4 : Int32)), .val (.ref b258), .val (.ref b278), .unset, .unset, .unset] [(.ref a293_), (.ref b278), (.int p1), (.ref b287), (.ref b287)])) t → Steps p.tables e below (s₁.setTop (entryFrame m #[(.int p1), (.int p2), (.int p3), (.int p4), (.int p5)] maxLocals)) t := fun t k => ac292 t (st293 t k)
    obtain ⟨a309_, T309, h309, k309, X309, e309, E309, hS309, hk309, hZ, hown, st309⟩ := ldcS (s := s) (vm0 := T293.vm) X293 hx hZ hown (hw _ (List.mem_of_getElem? (i := 11) rfl)) (own_sA hw) e293 hS293 hk293 (g := (mkF m 134 #[.val (.int p1), .val (.int p2), .val (.int p3), .val (.int p4), .val (.int p5), .val (.int (3 : Int32)), .val (.int (4 : Int32)), .val (.ref b258), .val (.ref b278), .unset, .unset, .unset] [(.ref a293_), (.ref b278), (.int p1), (.ref b287), (.ref b287)])) rfl (hb hby at_134) (n := 16) (by decide) (by decide) (by decide) (by decide)
    have Ef310 := Ef294.ext E309
    have Vf311 := Vf295.ext E309
    have Vf312 := Vf296.ext E309
    have Ef313 := Ef297.ext E309
    have Ff314 := Ff298.ext E309
    have Ff315 := Ff299.ext E309
    have Ff316 := Ff300.ext E309
    have Ff317 := Ff301.ext E309
    have Ff318 := Ff302.ext E309
    have Ff319 := Ff303.ext E309
    have Ff320 := Ff304.ext E309
    have Ff321 := Ff305.ext E309
    have Ff322 := Ff306.ext E309
    have Ff323 := Ff307.ext E309
    have Z309 : n0 ≤ h309.size := Nat.le_trans Z293 E309.1
    have ac324 : ∀ t, Steps p.tables e below (T309.setTop (mkF m 136 #[.val (.int p1), .val (.int p2), .val (.int p3), .val (.int p4), .val (.int p5), .val (.int (3 : Int32)), .val (.int (4 : Int32)), .val (.ref b258), .val (.ref b278), .unset, .unset, .unset] [(.ref a309_), (.ref a293_), (.ref b278), (.int p1), (.ref b287), (.ref b287)])) t → Steps p.tables e below (s₁.setTop (entryFrame m #[(.int p1), (.int p2), (.int p3), (.int p4), (.int p5)] maxLocals)) t := fun t k => ac308 t (st309 t k)
    have ac325 : ∀ t, Steps p.tables e below (T309.setTop (mkF m 138 #[.val (.int p1), .val (.int p2), .val (.int p3), .val (.int p4), .val (.int p5), .val (.int (3 : Int32)), .val (.int (4 : Int32)), .val (.ref b258), .val (.ref b278), .unset, .unset, .unset] [(.ref b258), (.ref a309_), (.ref a293_), (.ref b278), (.int p1), (.ref b287), (.ref b287)])) t → Steps p.tables e below (s₁.setTop (entryFrame m #[(.int p1), (.int p2), (.int p3), (.int p4), (.int p5)] maxLocals)) t := fun t k => ac324 t (by
        show Steps p.tables e below (T309.setTop (mkF m 136 #[.val (.int p1), .val (.int p2), .val (.int p3), .val (.int p4), .val (.int p5), .val (.int (3 : Int32)), .val (.int (4 : Int32)), .val (.ref b258), .val (.ref b278), .unset, .unset, .unset] [(.ref a309_), (.ref a293_), (.ref b278), (.int p1), (.ref b287), (.ref b287)])) _
        refine XS.aload X309.here hx rfl (hb hby at_136) rfl rfl ?_
        exact k)
    obtain ⟨_, _, ⟨T326, L326, k326, n326⟩, -, X326, ⟨Lc326, hQ326, l326, y326, z326⟩, st326⟩ := X309.specialBack hx (y := (⟨"com/example/votal/votal/log/LogRecord", "<init>", "(I[BLjava/lang/String;Ljava/lang/String;[B)V"⟩ : MethodName)) rfl hown (mvT hZ (hw _ (List.mem_of_getElem? (i := 12) rfl))) (mvT hZ (hw _ (List.mem_of_getElem? (i := 13) rfl))) (mvT hZ (hw _ (List.mem_of_getElem? (i := 14) rfl))) (by decide) (backOf (W := 1) (rm1 l Z a0 hw [] b287 p1 b278 a293_ a309_ b258 20 _ h309 n0 Z309 Ef313 g_b287 Vf312 (own_td _) (by decide) ne_b278_b287 Ff314 Ff315 Ff316 Ff317 Ff318 Ff319 Ff320 Ff321 Ff322 Ff323) hZ (hw _ (List.mem_of_getElem? (i := 14) rfl)) (hw _ (List.mem_of_getElem? (i := 3) rfl)) (by decide) (by decide)) (g := (mkF m 138 #[.val (.int p1), .val (.int p2), .val (.int p3), .val (.int p4), .val (.int p5), .val (.int (3 : Int32)), .val (.int (4 : Int32)), .val (.ref b258), .val (.ref b278), .unset, .unset, .unset] [(.ref b258), (.ref a309_), (.ref a293_), (.ref b278), (.int p1), (.ref b287), (.ref b287)])) rfl (by rw [hml]; rfl) (Steps.refl _) (a := b287) (argsL := [(.int p1), (.ref b278), (.ref a293_), (.ref a309_), (.ref b258)]) (rest := [(.ref b287)]) (lenOf pd_0 rfl) rfl (by show 2 * 0 + _ ≤ _; exact Nat.le_of_eq rfl) (hb hby at_138) (fun _ _ => ⟨rfl, e309, (by decide : 7 + 0 ≤ _), (by decide : 70 + 0 ≤ _)⟩)
    dsimp only [Pt.U, Pt.locs, Pt.cells, Pt.slots] at X326 l326 y326 z326 st326 hQ326
    subst l326 y326 z326
    obtain ⟨rfl, N326q, K326q, Ex326, Fl326⟩ := hQ326
    have N326 := Fr.app N283 N326q
    have Ef327 := Ef310.keep K326q
    have Vf328 := Vf311.keep K326q (ninS ne_b258_b287 nin0)
    have Vf329 := Vf312.keep K326q (ninS ne_b278_b287 nin0)
    have Ef330 := Ef313.keep K326q
    have Z326 : n0 ≤ T326.heap.size := Nat.le_trans Z309 K326q.1
    have kb331 : k309 ≤ T326.heap.size := Nat.le_trans hk309 K326q.1
    have ac332 : ∀ t, Steps p.tables e below (T326.setTop (mkF m 141 #[.val (.int p1), .val (.int p2), .val (.int p3), .val (.int p4), .val (.int p5), .val (.int (3 : Int32)), .val (.int (4 : Int32)), .val (.ref b258), .val (.ref b278), .unset, .unset, .unset] [(.ref b287)])) t → Steps p.tables e below (s₁.setTop (entryFrame m #[(.int p1), (.int p2), (.int p3), (.int p4), (.int p5)] maxLocals)) t := fun t k => ac325 t (st326.trans k)
    have ac333 : ∀ t, Steps p.tables e below (T326.setTop (mkF m 145 #[.val (.int p1), .val (.int p2), .val (.int p3), .val (.int p4), .val (.int p5), .val (.int (3 : Int32)), .val (.int (4 : Int32)), .val (.ref b258), .val (.ref b278), .val (.ref b287), .unset, .unset] [(.ref b287)])) t → Steps p.tables e below (s₁.setTop (entryFrame m #[(.int p1), (.int p2), (.int p3), (.int p4), (.int p5)] maxLocals)) t := fun t k => ac332 t (by
        show Steps p.tables e below (T326.setTop (mkF m 141 #[.val (.int p1), .val (.int p2), .val (.int p3), .val (.int p4), .val (.int p5), .val (.int (3 : Int32)), .val (.int (4 : Int32)), .val (.ref b258), .val (.ref b278), .unset, .unset, .unset] [(.ref b287)])) _
        refine XS.astore X326.here hx rfl (hb hby at_141) rfl rfl (l' := #[.val (.int p1), .val (.int p2), .val (.int p3), .val (.int p4), .val (.int p5), .val (.int (3 : Int32)), .val (.int (4 : Int32)), .val (.ref b258), .val (.ref b278), .val (.ref b287), .unset, .unset]) rfl ?_
        show Steps p.tables e below (T326.setTop (mkF m 143 #[.val (.int p1), .val (.int p2), .val (.int p3), .val (.int p4), .val (.int p5), .val (.int (3 : Int32)), .val (.int (4 : Int32)), .val (.ref b258), .val (.ref b278), .val (.ref b287), .unset, .unset] [])) _
        refine XS.aload X326.here hx rfl (hb hby at_143) rfl rfl ?_
        exact k)
    obtain ⟨cq334, kq334, q334a, q334b, q334c⟩ := isOf hZ rfl Ef330
    obtain ⟨_, _, ⟨T334, L334, k334, n334⟩, -, X334, ⟨Lc334, hQ334, l334, y334, z334⟩, st334⟩ := X326.virtualBack hx (y := (⟨"com/example/votal/votal/log/LogRecord", "getTemplateData", "()[B"⟩ : MethodName)) (z := (⟨"com/example/votal/votal/log/LogRecord", "getTemplateData", "()[B"⟩ : MethodName)) hown (mvT hZ (hw _ (List.mem_of_getElem? (i := 41) rfl))) (mvT hZ (hw _ (List.mem_of_getElem? (i := 42) rfl))) (notFace_of_selects (args := #[]) (mvT hZ (hw _ (List.mem_of_getElem? (i := 44) rfl)))) (mvT hZ (hw _ (List.mem_of_getElem? (i := 44) rfl))) (mvT hZ (hw _ (List.mem_of_getElem? (i := 43) rfl))) (by decide) (backOf (W := 0) (rm4c l Z a0 hw [] b287 b258 4 _ T326.heap n0 Z326 Fl326 Vf328 Ef327 (by decide)) hZ (hw _ (List.mem_of_getElem? (i := 45) rfl)) (hw _ (List.mem_of_getElem? (i := 3) rfl)) (by decide) (by decide)) q334a q334c (g := (mkF m 145 #[.val (.int p1), .val (.int p2), .val (.int p3), .val (.int p4), .val (.int p5), .val (.int (3 : Int32)), .val (.int (4 : Int32)), .val (.ref b258), .val (.ref b278), .val (.ref b287), .unset, .unset] [(.ref b287)])) rfl (by rw [hml]; rfl) (Steps.refl _) (argsL := []) (rest := []) (lenOf pd_3 rfl) rfl (by show 2 * 0 + _ ≤ _; exact Nat.le_of_eq rfl) (hb hby at_145) (fun _ _ => ⟨rfl, rfl, (by decide : 7 + 1 ≤ _), (by decide : 70 + 4 ≤ _)⟩)
    dsimp only [Pt.U, Pt.locs, Pt.cells, Pt.slots] at X334 l334 y334 z334 st334 hQ334
    subst l334 y334 z334
    obtain ⟨r334, rfl, N334q, K334q, sz334, Vr334⟩ := hQ334
    have N334 := Fr.app N326 N334q
    have Ef335 := Ef327.keep K334q
    have Vf336 := Vf328.keep K334q nin0
    have Vf337 := Vf329.keep K334q nin0
    have Ef338 := Ef330.keep K334q
    have Ff339 := Fl326.keep K334q nin0
    have Z334 : n0 ≤ T334.heap.size := Nat.le_trans Z326 K334q.1
    have kb340 : k309 ≤ T334.heap.size := Nat.le_trans kb331 K334q.1
    have g_r334 : n0 ≤ r334 := Nat.le_trans Z326 sz334
    have ne_b258_r334 : b258 ≠ r334 := Nat.ne_of_lt (Nat.lt_of_lt_of_le Ef327.lt sz334)
    have ne_b278_r334 : b278 ≠ r334 := Nat.ne_of_lt (Nat.lt_of_lt_of_le Vf329.lt sz334)
    have ne_b287_r334 : b287 ≠ r334 := Nat.ne_of_lt (Nat.lt_of_lt_of_le Ef330.lt sz334)
    have ac341 : ∀ t, Steps p.tables e below (T334.setTop (mkF m 148 #[.val (.int p1), .val (.int p2), .val (.int p3), .val (.int p4), .val (.int p5), .val (.int (3 : Int32)), .val (.int (4 : Int32)), .val (.ref b258), .val (.ref b278), .val (.ref b287), .unset, .unset] [(.ref r334)])) t → Steps p.tables e below (s₁.setTop (entryFrame m #[(.int p1), (.int p2), (.int p3), (.int p4), (.int p5)] maxLocals)) t := fun t k => ac333 t (st334.trans k)
    have ac342 : ∀ t, Steps p.tables e below (T334.setTop (mkF m 187 #[.val (.int p1), .val (.int p2), .val (.int p3), .val (.int p4), .val (.int p5), .val (.int (3 : Int32)), .val (.int (4 : Int32)), .val (.ref b258), .val (.ref b278), .val (.ref b287), .val (.ref r334), .unset] [(.int p4), (.int p3), (.int (4 : Int32)), (.ref r334)])) t → Steps p.tables e below (s₁.setTop (entryFrame m #[(.int p1), (.int p2), (.int p3), (.int p4), (.int p5)] maxLocals)) t := fun t k => ac341 t (by
        show Steps p.tables e below (T334.setTop (mkF m 148 #[.val (.int p1), .val (.int p2), .val (.int p3), .val (.int p4), .val (.int p5), .val (.int (3 : Int32)), .val (.int (4 : Int32)), .val (.ref b258), .val (.ref b278), .val (.ref b287), .unset, .unset] [(.ref r334)])) _
        refine XS.astore X334.here hx rfl (hb hby at_148) rfl rfl (l' := #[.val (.int p1), .val (.int p2), .val (.int p3), .val (.int p4), .val (.int p5), .val (.int (3 : Int32)), .val (.int (4 : Int32)), .val (.ref b258), .val (.ref b278), .val (.ref b287), .val (.ref r334), .unset]) rfl ?_
        show Steps p.tables e below (T334.setTop (mkF m 150 #[.val (.int p1), .val (.int p2), .val (.int p3), .val (.int p4), .val (.int p5), .val (.int (3 : Int32)), .val (.int (4 : Int32)), .val (.ref b258), .val (.ref b278), .val (.ref b287), .val (.ref r334), .unset] [])) _
        refine XS.aload X334.here hx rfl (hb hby at_150) rfl rfl ?_
        show Steps p.tables e below (T334.setTop (mkF m 152 #[.val (.int p1), .val (.int p2), .val (.int p3), .val (.int p4), .val (.int p5), .val (.int (3 : Int32)), .val (.int (4 : Int32)), .val (.ref b258), .val (.ref b278), .val (.ref b287), .val (.ref r334), .unset] [(.ref b258)])) _
        refine XS.ifnonnullYes X334.here hx rfl (pc0 := 152) (pc' := 174) rfl (hb hby at_152) rfl (by decide) (by decide) ?_
        show Steps p.tables e below (T334.setTop (mkF m 174 #[.val (.int p1), .val (.int p2), .val (.int p3), .val (.int p4), .val (.int p5), .val (.int (3 : Int32)), .val (.int (4 : Int32)), .val (.ref b258), .val (.ref b278), .val (.ref b287), .val (.ref r334), .unset] [])) _
        refine XS.aload X334.here hx rfl (hb hby at_174) rfl rfl ?_
        show Steps p.tables e below (T334.setTop (mkF m 176 #[.val (.int p1), .val (.int p2), .val (.int p3), .val (.int p4), .val (.int p5), .val (.int (3 : Int32)), .val (.int (4 : Int32)), .val (.ref b258), .val (.ref b278), .val (.ref b287), .val (.ref r334), .unset] [(.ref r334)])) _
        refine XS.aload X334.here hx rfl (hb hby at_176) rfl rfl ?_
        show Steps p.tables e below (T334.setTop (mkF m 178 #[.val (.int p1), .val (.int p2), .val (.int p3), .val (.int p4), .val (.int p5), .val (.int (3 : Int32)), .val (.int (4 : Int32)), .val (.ref b258), .val (.ref b278), .val (.ref b287), .val (.ref r334), .unset] [(.ref b258), (.ref r334)])) _
        refine Jvm.RoadKit.acmp (g := (mkF m 178 #[.val (.int p1), .val (.int p2), .val (.int p3), .val (.int p4), .val (.int p5), .val (.int (3 : Int32)), .val (.int (4 : Int32)), .val (.ref b258), .val (.ref b278), .val (.ref b287), .val (.ref r334), .unset] [(.ref b258), (.ref r334)])) X334 hx rfl rfl rfl (pc0 := 178) (pc' := 181) (same := false) rfl (hb hby at_178) rfl (decide_eq_false fun q => (Ne.symm ne_b258_r334) (Value.ref.inj q)) (by decide) (by decide) ?_
        show Steps p.tables e below (T334.setTop (mkF m 181 #[.val (.int p1), .val (.int p2), .val (.int p3), .val (.int p4), .val (.int p5), .val (.int (3 : Int32)), .val (.int (4 : Int32)), .val (.ref b258), .val (.ref b278), .val (.ref b287), .val (.ref r334), .unset] [])) _
        refine XS.aload X334.here hx rfl (hb hby at_181) rfl rfl ?_
        show Steps p.tables e below (T334.setTop (mkF m 183 #[.val (.int p1), .val (.int p2), .val (.int p3), .val (.int p4), .val (.int p5), .val (.int (3 : Int32)), .val (.int (4 : Int32)), .val (.ref b258), .val (.ref b278), .val (.ref b287), .val (.ref r334), .unset] [(.ref r334)])) _
        refine XS.iload X334.here hx rfl (hb hby at_183) rfl ?_
        show Steps p.tables e below (T334.setTop (mkF m 185 #[.val (.int p1), .val (.int p2), .val (.int p3), .val (.int p4), .val (.int p5), .val (.int (3 : Int32)), .val (.int (4 : Int32)), .val (.ref b258), .val (.ref b278), .val (.ref b287), .val (.ref r334), .unset] [(.int (4 : Int32)), (.ref r334)])) _
        refine XS.iloadN X334.here hx rfl (hb hby at_185) rfl ?_
        show Steps p.tables e below (T334.setTop (mkF m 186 #[.val (.int p1), .val (.int p2), .val (.int p3), .val (.int p4), .val (.int p5), .val (.int (3 : Int32)), .val (.int (4 : Int32)), .val (.ref b258), .val (.ref b278), .val (.ref b287), .val (.ref r334), .unset] [(.int p3), (.int (4 : Int32)), (.ref r334)])) _
        refine XS.iloadN X334.here hx rfl (hb hby at_186) rfl ?_
        exact k)
    obtain ⟨_, _, ⟨T343, L343, k343, n343⟩, -, X343, ⟨Lc343, hQ343, l343, y343, z343⟩, st343⟩ := Jvm.LawKit.callS X334 hx (y := (⟨"com/example/votal/votal/log/LogRecordGetTemplateDataPinLaw", "holds", "([BIII)Z"⟩ : MethodName)) hown (mvT hZ (hw _ (List.mem_of_getElem? (i := 55) rfl))) (mvT hZ (hw _ (List.mem_of_getElem? (i := 56) rfl))) (mvT hZ (hw _ (List.mem_of_getElem? (i := 57) rfl))) (mvT hZ (hw _ (List.mem_of_getElem? (i := 58) rfl))) (by decide) (backOf (W := 0) (rm5_4 l Z a0 hw [] r334 (4 : Int32) p3 p4 _ T334.heap n0 Z334 Vr334 rfl rfl rfl rfl rfl) hZ (hw _ (List.mem_of_getElem? (i := 58) rfl)) (hw _ (List.mem_of_getElem? (i := 57) rfl)) (by decide) (by decide)) (g := (mkF m 187 #[.val (.int p1), .val (.int p2), .val (.int p3), .val (.int p4), .val (.int p5), .val (.int (3 : Int32)), .val (.int (4 : Int32)), .val (.ref b258), .val (.ref b278), .val (.ref b287), .val (.ref r334), .unset] [(.int p4), (.int p3), (.int (4 : Int32)), (.ref r334)])) rfl (by rw [hml]; rfl) (argsL := [(.ref r334), (.int (4 : Int32)), (.int p3), (.int p4)]) (rest := []) (lenOf pd_5 rfl) rfl (by show 2 * 0 + _ ≤ _; exact Nat.le_of_eq rfl) (hb hby at_187) (fun _ _ => ⟨rfl, rfl, (by decide : 8 + 0 ≤ _), (by decide : 74 + 0 ≤ _)⟩)
    dsimp only [Pt.U, Pt.locs, Pt.cells, Pt.slots] at X343 l343 y343 z343 st343 hQ343
    subst l343 y343 z343
    obtain ⟨rfl, N343q, Qe343⟩ := hQ343
    have N343 := Fr.app N334 N343q
    have ac344 : ∀ t, Steps p.tables e below (T343.setTop (mkF m 190 #[.val (.int p1), .val (.int p2), .val (.int p3), .val (.int p4), .val (.int p5), .val (.int (3 : Int32)), .val (.int (4 : Int32)), .val (.ref b258), .val (.ref b278), .val (.ref b287), .val (.ref r334), .unset] [(.int (1 : Int32))])) t → Steps p.tables e below (s₁.setTop (entryFrame m #[(.int p1), (.int p2), (.int p3), (.int p4), (.int p5)] maxLocals)) t := fun t k => ac342 t (st343 t k)
    have ac345 : ∀ t, Steps p.tables e below (T343.setTop (mkF m 197 #[.val (.int p1), .val (.int p2), .val (.int p3), .val (.int p4), .val (.int p5), .val (.int (3 : Int32)), .val (.int (4 : Int32)), .val (.ref b258), .val (.ref b278), .val (.ref b287), .val (.ref r334), .unset] [(.ref r334)])) t → Steps p.tables e below (s₁.setTop (entryFrame m #[(.int p1), (.int p2), (.int p3), (.int p4), (.int p5)] maxLocals)) t := fun t k => ac344 t (by
        show Steps p.tables e below (T343.setTop (mkF m 190 #[.val (.int p1), .val (.int p2), .val (.int p3), .val (.int p4), .val (.int p5), .val (.int (3 : Int32)), .val (.int (4 : Int32)), .val (.ref b258), .val (.ref b278), .val (.ref b287), .val (.ref r334), .unset] [(.int (1 : Int32))])) _
        refine XS.ifYes X343.here hx rfl (pc0 := 190) (pc' := 195) rfl (hb hby at_190) rfl ((if0 _ _).trans (feq (by decide)).2) (by decide) (by decide) ?_
        show Steps p.tables e below (T343.setTop (mkF m 195 #[.val (.int p1), .val (.int p2), .val (.int p3), .val (.int p4), .val (.int p5), .val (.int (3 : Int32)), .val (.int (4 : Int32)), .val (.ref b258), .val (.ref b278), .val (.ref b287), .val (.ref r334), .unset] [])) _
        refine XS.aload X343.here hx rfl (hb hby at_195) rfl rfl ?_
        exact k)
    obtain ⟨_, _, ⟨T346, L346, k346, n346⟩, -, X346, ⟨Lc346, hQ346, l346, y346, z346⟩, st346⟩ := Jvm.LawKit.callS X343 hx (y := (⟨"com/example/votal/votal/log/LogRecordGetTemplateDataPinLaw", "spoil", "([B)V"⟩ : MethodName)) hown (mvT hZ (hw _ (List.mem_of_getElem? (i := 59) rfl))) (mvT hZ (hw _ (List.mem_of_getElem? (i := 60) rfl))) (mvT hZ (hw _ (List.mem_of_getElem? (i := 57) rfl))) (mvT hZ (hw _ (List.mem_of_getElem? (i := 61) rfl))) (by decide) (backOf (W := 0) (rm6_4 l Z a0 hw [] r334 _ _ _ _ _  T334.heap n0 Z334 Vr334 g_r334 rfl rfl rfl rfl) hZ (hw _ (List.mem_of_getElem? (i := 61) rfl)) (hw _ (List.mem_of_getElem? (i := 57) rfl)) (by decide) (by decide)) (g := (mkF m 197 #[.val (.int p1), .val (.int p2), .val (.int p3), .val (.int p4), .val (.int p5), .val (.int (3 : Int32)), .val (.int (4 : Int32)), .val (.ref b258), .val (.ref b278), .val (.ref b287), .val (.ref r334), .unset] [(.ref r334)])) rfl (by rw [hml]; rfl) (argsL := [(.ref r334)]) (rest := []) (lenOf pd_6 rfl) rfl (by show 2 * 0 + _ ≤ _; exact Nat.le_of_eq rfl) (hb hby at_197) (fun _ _ => ⟨rfl, Qe343, (by decide : 8 + 0 ≤ _), (by decide : 74 + 0 ≤ _)⟩)
    dsimp only [Pt.U, Pt.locs, Pt.cells, Pt.slots] at X346 l346 y346 z346 st346 hQ346
    subst l346 y346 z346
    obtain ⟨rfl, N346q, K346q, f346, Vs346⟩ := hQ346
    have N346 := Fr.app N343 N346q
    have Ef347 := Ef335.keep K346q
    have Vf348 := Vf336.keep K346q (ninS ne_b258_r334 nin0)
    have Vf349 := Vf337.keep K346q (ninS ne_b278_r334 nin0)
    have Ef350 := Ef338.keep K346q
    have Ff351 := Ff339.keep K346q (ninS ne_b287_r334 nin0)
    have Z346 : n0 ≤ T346.heap.size := Nat.le_trans Z334 K346q.1
    have kb352 : k309 ≤ T346.heap.size := Nat.le_trans kb340 K346q.1
    have ac353 : ∀ t, Steps p.tables e below (T346.setTop (mkF m 200 #[.val (.int p1), .val (.int p2), .val (.int p3), .val (.int p4), .val (.int p5), .val (.int (3 : Int32)), .val (.int (4 : Int32)), .val (.ref b258), .val (.ref b278), .val (.ref b287), .val (.ref r334), .unset] [])) t → Steps p.tables e below (s₁.setTop (entryFrame m #[(.int p1), (.int p2), (.int p3), (.int p4), (.int p5)] maxLocals)) t := fun t k => ac345 t (st346 t k)
    have ac354 : ∀ t, Steps p.tables e below (T346.setTop (mkF m 202 #[.val (.int p1), .val (.int p2), .val (.int p3), .val (.int p4), .val (.int p5), .val (.int (3 : Int32)), .val (.int (4 : Int32)), .val (.ref b258), .val (.ref b278), .val (.ref b287), .val (.ref r334), .unset] [(.ref b287)])) t → Steps p.tables e below (s₁.setTop (entryFrame m #[(.int p1), (.int p2), (.int p3), (.int p4), (.int p5)] maxLocals)) t := fun t k => ac353 t (by
        show Steps p.tables e below (T346.setTop (mkF m 200 #[.val (.int p1), .val (.int p2), .val (.int p3), .val (.int p4), .val (.int p5), .val (.int (3 : Int32)), .val (.int (4 : Int32)), .val (.ref b258), .val (.ref b278), .val (.ref b287), .val (.ref r334), .unset] [])) _
        refine XS.aload X346.here hx rfl (hb hby at_200) rfl rfl ?_
        exact k)
    obtain ⟨cq355, kq355, q355a, q355b, q355c⟩ := isOf hZ rfl Ef350
    obtain ⟨_, _, ⟨T355, L355, k355, n355⟩, -, X355, ⟨Lc355, hQ355, l355, y355, z355⟩, st355⟩ := X346.virtualBack hx (y := (⟨"com/example/votal/votal/log/LogRecord", "getTemplateData", "()[B"⟩ : MethodName)) (z := (⟨"com/example/votal/votal/log/LogRecord", "getTemplateData", "()[B"⟩ : MethodName)) hown (mvT hZ (hw _ (List.mem_of_getElem? (i := 41) rfl))) (mvT hZ (hw _ (List.mem_of_getElem? (i := 42) rfl))) (notFace_of_selects (args := #[]) (mvT hZ (hw _ (List.mem_of_getElem? (i := 44) rfl)))) (mvT hZ (hw _ (List.mem_of_getElem? (i := 44) rfl))) (mvT hZ (hw _ (List.mem_of_getElem? (i := 43) rfl))) (by decide) (backOf (W := 0) (rm4c l Z a0 hw [] b287 b258 4 _ T346.heap n0 Z346 Ff351 Vf348 Ef347 (by decide)) hZ (hw _ (List.mem_of_getElem? (i := 45) rfl)) (hw _ (List.mem_of_getElem? (i := 3) rfl)) (by decide) (by decide)) q355a q355c (g := (mkF m 202 #[.val (.int p1), .val (.int p2), .val (.int p3), .val (.int p4), .val (.int p5), .val (.int (3 : Int32)), .val (.int (4 : Int32)), .val (.ref b258), .val (.ref b278), .val (.ref b287), .val (.ref r334), .unset] [(.ref b287)])) rfl (by rw [hml]; rfl) (Steps.refl _) (argsL := []) (rest := []) (lenOf pd_3 rfl) rfl (by show 2 * 0 + _ ≤ _; exact Nat.le_of_eq rfl) (hb hby at_202) (fun _ _ => ⟨rfl, rfl, (by decide : 8 + 1 ≤ _), (by decide : 74 + 4 ≤ _)⟩)
    dsimp only [Pt.U, Pt.locs, Pt.cells, Pt.slots] at X355 l355 y355 z355 st355 hQ355
    subst l355 y355 z355
    obtain ⟨r355, rfl, N355q, K355q, sz355, Vr355⟩ := hQ355
    have N355 := Fr.app N346 N355q
    have Ef356 := Ef347.keep K355q
    have Vf357 := Vf348.keep K355q nin0
    have Vf358 := Vf349.keep K355q nin0
    have Ef359 := Ef350.keep K355q
    have Ff360 := Ff351.keep K355q nin0
    have Vf361 := Vs346.keep K355q nin0
    have Z355 : n0 ≤ T355.heap.size := Nat.le_trans Z346 K355q.1
    have kb362 : k309 ≤ T355.heap.size := Nat.le_trans kb352 K355q.1
    have g_r355 : n0 ≤ r355 := Nat.le_trans Z346 sz355
    have ne_b258_r355 : b258 ≠ r355 := Nat.ne_of_lt (Nat.lt_of_lt_of_le Ef347.lt sz355)
    have ne_b278_r355 : b278 ≠ r355 := Nat.ne_of_lt (Nat.lt_of_lt_of_le Vf349.lt sz355)
    have ne_b287_r355 : b287 ≠ r355 := Nat.ne_of_lt (Nat.lt_of_lt_of_le Ef350.lt sz355)
    have ne_r334_r355 : r334 ≠ r355 := Nat.ne_of_lt (Nat.lt_of_lt_of_le Vs346.lt sz355)
    have ac363 : ∀ t, Steps p.tables e below (T355.setTop (mkF m 205 #[.val (.int p1), .val (.int p2), .val (.int p3), .val (.int p4), .val (.int p5), .val (.int (3 : Int32)), .val (.int (4 : Int32)), .val (.ref b258), .val (.ref b278), .val (.ref b287), .val (.ref r334), .unset] [(.ref r355)])) t → Steps p.tables e below (s₁.setTop (entryFrame m #[(.int p1), (.int p2), (.int p3), (.int p4), (.int p5)] maxLocals)) t := fun t k => ac354 t (st355.trans k)
    have ac364 : ∀ t, Steps p.tables e below (T355.setTop (mkF m 227 #[.val (.int p1), .val (.int p2), .val (.int p3), .val (.int p4), .val (.int p5), .val (.int (3 : Int32)), .val (.int (4 : Int32)), .val (.ref b258), .val (.ref b278), .val (.ref b287), .val (.ref r334), .val (.ref r355)] [(.int p4), (.int p3), (.int (4 : Int32)), (.ref r355)])) t → Steps p.tables e below (s₁.setTop (entryFrame m #[(.int p1), (.int p2), (.int p3), (.int p4), (.int p5)] maxLocals)) t := fun t k => ac363 t (by
        show Steps p.tables e below (T355.setTop (mkF m 205 #[.val (.int p1), .val (.int p2), .val (.int p3), .val (.int p4), .val (.int p5), .val (.int (3 : Int32)), .val (.int (4 : Int32)), .val (.ref b258), .val (.ref b278), .val (.ref b287), .val (.ref r334), .unset] [(.ref r355)])) _
        refine XS.astore X355.here hx rfl (hb hby at_205) rfl rfl (l' := #[.val (.int p1), .val (.int p2), .val (.int p3), .val (.int p4), .val (.int p5), .val (.int (3 : Int32)), .val (.int (4 : Int32)), .val (.ref b258), .val (.ref b278), .val (.ref b287), .val (.ref r334), .val (.ref r355)]) rfl ?_
        show Steps p.tables e below (T355.setTop (mkF m 207 #[.val (.int p1), .val (.int p2), .val (.int p3), .val (.int p4), .val (.int p5), .val (.int (3 : Int32)), .val (.int (4 : Int32)), .val (.ref b258), .val (.ref b278), .val (.ref b287), .val (.ref r334), .val (.ref r355)] [])) _
        refine XS.aload X355.here hx rfl (hb hby at_207) rfl rfl ?_
        show Steps p.tables e below (T355.setTop (mkF m 209 #[.val (.int p1), .val (.int p2), .val (.int p3), .val (.int p4), .val (.int p5), .val (.int (3 : Int32)), .val (.int (4 : Int32)), .val (.ref b258), .val (.ref b278), .val (.ref b287), .val (.ref r334), .val (.ref r355)] [(.ref r355)])) _
        refine XS.aload X355.here hx rfl (hb hby at_209) rfl rfl ?_
        show Steps p.tables e below (T355.setTop (mkF m 211 #[.val (.int p1), .val (.int p2), .val (.int p3), .val (.int p4), .val (.int p5), .val (.int (3 : Int32)), .val (.int (4 : Int32)), .val (.ref b258), .val (.ref b278), .val (.ref b287), .val (.ref r334), .val (.ref r355)] [(.ref r334), (.ref r355)])) _
        refine Jvm.RoadKit.acmp (g := (mkF m 211 #[.val (.int p1), .val (.int p2), .val (.int p3), .val (.int p4), .val (.int p5), .val (.int (3 : Int32)), .val (.int (4 : Int32)), .val (.ref b258), .val (.ref b278), .val (.ref b287), .val (.ref r334), .val (.ref r355)] [(.ref r334), (.ref r355)])) X355 hx rfl rfl rfl (pc0 := 211) (pc' := 214) (same := false) rfl (hb hby at_211) rfl (decide_eq_false fun q => (Ne.symm ne_r334_r355) (Value.ref.inj q)) (by decide) (by decide) ?_
        show Steps p.tables e below (T355.setTop (mkF m 214 #[.val (.int p1), .val (.int p2), .val (.int p3), .val (.int p4), .val (.int p5), .val (.int (3 : Int32)), .val (.int (4 : Int32)), .val (.ref b258), .val (.ref b278), .val (.ref b287), .val (.ref r334), .val (.ref r355)] [])) _
        refine XS.aload X355.here hx rfl (hb hby at_214) rfl rfl ?_
        show Steps p.tables e below (T355.setTop (mkF m 216 #[.val (.int p1), .val (.int p2), .val (.int p3), .val (.int p4), .val (.int p5), .val (.int (3 : Int32)), .val (.int (4 : Int32)), .val (.ref b258), .val (.ref b278), .val (.ref b287), .val (.ref r334), .val (.ref r355)] [(.ref r355)])) _
        refine XS.aload X355.here hx rfl (hb hby at_216) rfl rfl ?_
        show Steps p.tables e below (T355.setTop (mkF m 218 #[.val (.int p1), .val (.int p2), .val (.int p3), .val (.int p4), .val (.int p5), .val (.int (3 : Int32)), .val (.int (4 : Int32)), .val (.ref b258), .val (.ref b278), .val (.ref b287), .val (.ref r334), .val (.ref r355)] [(.ref b258), (.ref r355)])) _
        refine Jvm.RoadKit.acmp (g := (mkF m 218 #[.val (.int p1), .val (.int p2), .val (.int p3), .val (.int p4), .val (.int p5), .val (.int (3 : Int32)), .val (.int (4 : Int32)), .val (.ref b258), .val (.ref b278), .val (.ref b287), .val (.ref r334), .val (.ref r355)] [(.ref b258), (.ref r355)])) X355 hx rfl rfl rfl (pc0 := 218) (pc' := 221) (same := false) rfl (hb hby at_218) rfl (decide_eq_false fun q => (Ne.symm ne_b258_r355) (Value.ref.inj q)) (by decide) (by decide) ?_
        show Steps p.tables e below (T355.setTop (mkF m 221 #[.val (.int p1), .val (.int p2), .val (.int p3), .val (.int p4), .val (.int p5), .val (.int (3 : Int32)), .val (.int (4 : Int32)), .val (.ref b258), .val (.ref b278), .val (.ref b287), .val (.ref r334), .val (.ref r355)] [])) _
        refine XS.aload X355.here hx rfl (hb hby at_221) rfl rfl ?_
        show Steps p.tables e below (T355.setTop (mkF m 223 #[.val (.int p1), .val (.int p2), .val (.int p3), .val (.int p4), .val (.int p5), .val (.int (3 : Int32)), .val (.int (4 : Int32)), .val (.ref b258), .val (.ref b278), .val (.ref b287), .val (.ref r334), .val (.ref r355)] [(.ref r355)])) _
        refine XS.iload X355.here hx rfl (hb hby at_223) rfl ?_
        show Steps p.tables e below (T355.setTop (mkF m 225 #[.val (.int p1), .val (.int p2), .val (.int p3), .val (.int p4), .val (.int p5), .val (.int (3 : Int32)), .val (.int (4 : Int32)), .val (.ref b258), .val (.ref b278), .val (.ref b287), .val (.ref r334), .val (.ref r355)] [(.int (4 : Int32)), (.ref r355)])) _
        refine XS.iloadN X355.here hx rfl (hb hby at_225) rfl ?_
        show Steps p.tables e below (T355.setTop (mkF m 226 #[.val (.int p1), .val (.int p2), .val (.int p3), .val (.int p4), .val (.int p5), .val (.int (3 : Int32)), .val (.int (4 : Int32)), .val (.ref b258), .val (.ref b278), .val (.ref b287), .val (.ref r334), .val (.ref r355)] [(.int p3), (.int (4 : Int32)), (.ref r355)])) _
        refine XS.iloadN X355.here hx rfl (hb hby at_226) rfl ?_
        exact k)
    obtain ⟨_, _, ⟨T365, L365, k365, n365⟩, -, X365, ⟨Lc365, hQ365, l365, y365, z365⟩, st365⟩ := Jvm.LawKit.callS X355 hx (y := (⟨"com/example/votal/votal/log/LogRecordGetTemplateDataPinLaw", "holds", "([BIII)Z"⟩ : MethodName)) hown (mvT hZ (hw _ (List.mem_of_getElem? (i := 55) rfl))) (mvT hZ (hw _ (List.mem_of_getElem? (i := 56) rfl))) (mvT hZ (hw _ (List.mem_of_getElem? (i := 57) rfl))) (mvT hZ (hw _ (List.mem_of_getElem? (i := 58) rfl))) (by decide) (backOf (W := 0) (rm5_4 l Z a0 hw [] r355 (4 : Int32) p3 p4 _ T355.heap n0 Z355 Vr355 rfl rfl rfl rfl rfl) hZ (hw _ (List.mem_of_getElem? (i := 58) rfl)) (hw _ (List.mem_of_getElem? (i := 57) rfl)) (by decide) (by decide)) (g := (mkF m 227 #[.val (.int p1), .val (.int p2), .val (.int p3), .val (.int p4), .val (.int p5), .val (.int (3 : Int32)), .val (.int (4 : Int32)), .val (.ref b258), .val (.ref b278), .val (.ref b287), .val (.ref r334), .val (.ref r355)] [(.int p4), (.int p3), (.int (4 : Int32)), (.ref r355)])) rfl (by rw [hml]; rfl) (argsL := [(.ref r355), (.int (4 : Int32)), (.int p3), (.int p4)]) (rest := []) (lenOf pd_5 rfl) rfl (by show 2 * 0 + _ ≤ _; exact Nat.le_of_eq rfl) (hb hby at_227) (fun _ _ => ⟨rfl, rfl, (by decide : 9 + 0 ≤ _), (by decide : 78 + 0 ≤ _)⟩)
    dsimp only [Pt.U, Pt.locs, Pt.cells, Pt.slots] at X365 l365 y365 z365 st365 hQ365
    subst l365 y365 z365
    obtain ⟨rfl, N365q, Qe365⟩ := hQ365
    have N365 := Fr.app N355 N365q
    have ac366 : ∀ t, Steps p.tables e below (T365.setTop (mkF m 230 #[.val (.int p1), .val (.int p2), .val (.int p3), .val (.int p4), .val (.int p5), .val (.int (3 : Int32)), .val (.int (4 : Int32)), .val (.ref b258), .val (.ref b278), .val (.ref b287), .val (.ref r334), .val (.ref r355)] [(.int (1 : Int32))])) t → Steps p.tables e below (s₁.setTop (entryFrame m #[(.int p1), (.int p2), (.int p3), (.int p4), (.int p5)] maxLocals)) t := fun t k => ac364 t (st365 t k)
    have ac367 : ∀ t, Steps p.tables e below (T365.setTop (mkF m 239 #[.val (.int p1), .val (.int p2), .val (.int p3), .val (.int p4), .val (.int p5), .val (.int (3 : Int32)), .val (.int (4 : Int32)), .val (.ref b258), .val (.ref b278), .val (.ref b287), .val (.ref r334), .val (.ref r355)] [(.int p4), (.int p3), (.int (4 : Int32)), (.ref b258)])) t → Steps p.tables e below (s₁.setTop (entryFrame m #[(.int p1), (.int p2), (.int p3), (.int p4), (.int p5)] maxLocals)) t := fun t k => ac366 t (by
        show Steps p.tables e below (T365.setTop (mkF m 230 #[.val (.int p1), .val (.int p2), .val (.int p3), .val (.int p4), .val (.int p5), .val (.int (3 : Int32)), .val (.int (4 : Int32)), .val (.ref b258), .val (.ref b278), .val (.ref b287), .val (.ref r334), .val (.ref r355)] [(.int (1 : Int32))])) _
        refine XS.ifNo X365.here hx rfl (hb hby at_230) rfl ((if0 _ _).trans (feq (by decide)).1) ?_
        show Steps p.tables e below (T365.setTop (mkF m 233 #[.val (.int p1), .val (.int p2), .val (.int p3), .val (.int p4), .val (.int p5), .val (.int (3 : Int32)), .val (.int (4 : Int32)), .val (.ref b258), .val (.ref b278), .val (.ref b287), .val (.ref r334), .val (.ref r355)] [])) _
        refine XS.aload X365.here hx rfl (hb hby at_233) rfl rfl ?_
        show Steps p.tables e below (T365.setTop (mkF m 235 #[.val (.int p1), .val (.int p2), .val (.int p3), .val (.int p4), .val (.int p5), .val (.int (3 : Int32)), .val (.int (4 : Int32)), .val (.ref b258), .val (.ref b278), .val (.ref b287), .val (.ref r334), .val (.ref r355)] [(.ref b258)])) _
        refine XS.iload X365.here hx rfl (hb hby at_235) rfl ?_
        show Steps p.tables e below (T365.setTop (mkF m 237 #[.val (.int p1), .val (.int p2), .val (.int p3), .val (.int p4), .val (.int p5), .val (.int (3 : Int32)), .val (.int (4 : Int32)), .val (.ref b258), .val (.ref b278), .val (.ref b287), .val (.ref r334), .val (.ref r355)] [(.int (4 : Int32)), (.ref b258)])) _
        refine XS.iloadN X365.here hx rfl (hb hby at_237) rfl ?_
        show Steps p.tables e below (T365.setTop (mkF m 238 #[.val (.int p1), .val (.int p2), .val (.int p3), .val (.int p4), .val (.int p5), .val (.int (3 : Int32)), .val (.int (4 : Int32)), .val (.ref b258), .val (.ref b278), .val (.ref b287), .val (.ref r334), .val (.ref r355)] [(.int p3), (.int (4 : Int32)), (.ref b258)])) _
        refine XS.iloadN X365.here hx rfl (hb hby at_238) rfl ?_
        exact k)
    obtain ⟨_, _, ⟨T368, L368, k368, n368⟩, -, X368, ⟨Lc368, hQ368, l368, y368, z368⟩, st368⟩ := Jvm.LawKit.callS X365 hx (y := (⟨"com/example/votal/votal/log/LogRecordGetTemplateDataPinLaw", "holds", "([BIII)Z"⟩ : MethodName)) hown (mvT hZ (hw _ (List.mem_of_getElem? (i := 55) rfl))) (mvT hZ (hw _ (List.mem_of_getElem? (i := 56) rfl))) (mvT hZ (hw _ (List.mem_of_getElem? (i := 57) rfl))) (mvT hZ (hw _ (List.mem_of_getElem? (i := 58) rfl))) (by decide) (backOf (W := 0) (rm5_4 l Z a0 hw [] b258 (4 : Int32) p3 p4 _ T355.heap n0 Z355 Vf357 rfl rfl rfl rfl rfl) hZ (hw _ (List.mem_of_getElem? (i := 58) rfl)) (hw _ (List.mem_of_getElem? (i := 57) rfl)) (by decide) (by decide)) (g := (mkF m 239 #[.val (.int p1), .val (.int p2), .val (.int p3), .val (.int p4), .val (.int p5), .val (.int (3 : Int32)), .val (.int (4 : Int32)), .val (.ref b258), .val (.ref b278), .val (.ref b287), .val (.ref r334), .val (.ref r355)] [(.int p4), (.int p3), (.int (4 : Int32)), (.ref b258)])) rfl (by rw [hml]; rfl) (argsL := [(.ref b258), (.int (4 : Int32)), (.int p3), (.int p4)]) (rest := []) (lenOf pd_5 rfl) rfl (by show 2 * 0 + _ ≤ _; exact Nat.le_of_eq rfl) (hb hby at_239) (fun _ _ => ⟨rfl, Qe365, (by decide : 9 + 0 ≤ _), (by decide : 78 + 0 ≤ _)⟩)
    dsimp only [Pt.U, Pt.locs, Pt.cells, Pt.slots] at X368 l368 y368 z368 st368 hQ368
    subst l368 y368 z368
    obtain ⟨rfl, N368q, Qe368⟩ := hQ368
    have N368 := Fr.app N365 N368q
    have ac369 : ∀ t, Steps p.tables e below (T368.setTop (mkF m 242 #[.val (.int p1), .val (.int p2), .val (.int p3), .val (.int p4), .val (.int p5), .val (.int (3 : Int32)), .val (.int (4 : Int32)), .val (.ref b258), .val (.ref b278), .val (.ref b287), .val (.ref r334), .val (.ref r355)] [(.int (1 : Int32))])) t → Steps p.tables e below (s₁.setTop (entryFrame m #[(.int p1), (.int p2), (.int p3), (.int p4), (.int p5)] maxLocals)) t := fun t k => ac367 t (st368 t k)
    have ac370 : ∀ t, Steps p.tables e below (T368.setTop (mkF m 250 #[.val (.int p1), .val (.int p2), .val (.int p3), .val (.int p4), .val (.int p5), .val (.int (3 : Int32)), .val (.int (4 : Int32)), .val (.ref b258), .val (.ref b278), .val (.ref b287), .val (.ref r334), .val (.ref r355)] [(.int (1 : Int32))])) t → Steps p.tables e below (s₁.setTop (entryFrame m #[(.int p1), (.int p2), (.int p3), (.int p4), (.int p5)] maxLocals)) t := fun t k => ac369 t (by
        show Steps p.tables e below (T368.setTop (mkF m 242 #[.val (.int p1), .val (.int p2), .val (.int p3), .val (.int p4), .val (.int p5), .val (.int (3 : Int32)), .val (.int (4 : Int32)), .val (.ref b258), .val (.ref b278), .val (.ref b287), .val (.ref r334), .val (.ref r355)] [(.int (1 : Int32))])) _
        refine XS.ifNo X368.here hx rfl (hb hby at_242) rfl ((if0 _ _).trans (feq (by decide)).1) ?_
        show Steps p.tables e below (T368.setTop (mkF m 245 #[.val (.int p1), .val (.int p2), .val (.int p3), .val (.int p4), .val (.int p5), .val (.int (3 : Int32)), .val (.int (4 : Int32)), .val (.ref b258), .val (.ref b278), .val (.ref b287), .val (.ref r334), .val (.ref r355)] [])) _
        refine XS.iconst X368.here hx rfl (hb hby at_245) ?_
        show Steps p.tables e below (T368.setTop (mkF m 246 #[.val (.int p1), .val (.int p2), .val (.int p3), .val (.int p4), .val (.int p5), .val (.int (3 : Int32)), .val (.int (4 : Int32)), .val (.ref b258), .val (.ref b278), .val (.ref b287), .val (.ref r334), .val (.ref r355)] [(.int (1 : Int32))])) _
        refine XS.goto X368.here hx rfl (pc0 := 246) (pc' := 250) rfl (hb hby at_246) (by decide) (by decide) ?_
        exact k)
    obtain ⟨fs, hr, hrun, hended, hEW⟩ := X368.leaveW hS309 (by rw [Qe368]; exact kb362) (v := some (.int (1 : Int32))) (fun h => by rw [Bd.returns] at h; cases h) (BodyLoose.notSynchronized Bd)
    refine ⟨_, _, ac370 _ ?_, hrun, hended, _, _, rfl, ?_, hEW.1, hEW.2.1, hEW.2.2.1, hEW.2.2.2.mono (by decide) (by decide)⟩
    · show Steps p.tables e below (T368.setTop (mkF m 250 #[.val (.int p1), .val (.int p2), .val (.int p3), .val (.int p4), .val (.int p5), .val (.int (3 : Int32)), .val (.int (4 : Int32)), .val (.ref b258), .val (.ref b278), .val (.ref b287), .val (.ref r334), .val (.ref r355)] [(.int (1 : Int32))])) _
      exact retN X368 hx (t := .boolean) Bd.returns (by simp) (hb hby at_250) hr
    · show Q0 Z p1 p2 p3 p4 p5 h0 n0 _ T368.heap _
      rw [Qe368]
      exact ⟨rfl, N368⟩
set_option maxRecDepth 65536 in
set_option maxHeartbeats 40000000 in
theorem comes_1 {Post : Tables → Env → Array Value → State → Outcome → State → Prop} (hpost : ∀ tb e args s v u, (limb_1_1.after args s (.returned v) u = true ∧ limb_1_2.after args s (.returned v) u = true ∧ True) → ReturnedEndW s (.returned v) u (Jvm.fieldLocs frame_1_writes args s ++ Jvm.arrayLocs frame_1_arrays args s ++ Jvm.staticLocs frame_1_statics s) 24 2240 → Post tb e args s (.returned v) u) :
    ArmFor flags0 classFile x code maxLocals ret World_1 tables_1 room_1 Calls_1 rest_1 Pre_1 Post := by
  intro l hfl _ _ p e ha hc hk s m args below hf hA hF happ hP
  obtain ⟨hcalls, hrest, hpre⟩ := hP
  obtain ⟨-, -, -, hnamed, -, -, -, hat⟩ := (Spec.applies_iff hf).mp happ
  obtain ⟨hg, hn⟩ := and_e (Cond.before_iff.mp (show (Jvm.Cond.and given_1 narrow_1).before args s = true from hpre))
  obtain ⟨hcnt, hk0⟩ := and_e hg
  obtain ⟨g0, hk1⟩ := and_e hk0
  obtain ⟨g1, hk2⟩ := and_e hk1
  obtain ⟨g2, hk3⟩ := and_e hk2
  obtain ⟨g3, hk4⟩ := and_e hk3
  have g4 := hk4
  obtain ⟨w0, w1, w2, w3, w4, rfl⟩ : ∃ w0 w1 w2 w3 w4 : Value, args = #[w0, w1, w2, w3, w4] := by
    have hs : args.size = 5 := by simpa [Cond.value, given_1] using hcnt
    obtain ⟨L⟩ := args
    match L, hs with
    | [w0, w1, w2, w3, w4], _ => exact ⟨w0, w1, w2, w3, w4, rfl⟩
  have hw := fun d (hd : d ∈ tables_1) => atoms_spec (ws := Jvm.Cond.code x code maxLocals ret :: tables_1) hat d (List.mem_cons_of_mem _ hd)
  have hfit : Fit s := fun {y c} hc i hi => by
    obtain ⟨ha, rfl⟩ := Array.getElem?_eq_some_iff.mp hc
    have q := List.all_eq_true.mp ((Array.all_eq_true_iff_forall_mem.mp hF) _ (Array.getElem_mem ha)) i (List.mem_range.mpr hi)
    simpa [Array.getElem?_eq_getElem hi] using q
  obtain ⟨i0, ei0⟩ := is_v g0
  obtain rfl : w0 = (.int i0) := Option.some.inj ei0
  obtain ⟨i1, ei1⟩ := is_v g1
  obtain rfl : w1 = (.int i1) := Option.some.inj ei1
  obtain ⟨i2, ei2⟩ := is_v g2
  obtain rfl : w2 = (.int i2) := Option.some.inj ei2
  obtain ⟨i3, ei3⟩ := is_v g3
  obtain rfl : w3 = (.int i3) := Option.some.inj ei3
  obtain ⟨i4, ei4⟩ := is_v g4
  obtain rfl : w4 = (.int i4) := Option.some.inj ei4
  obtain ⟨n, o, h1, h2, h3, _, L, rfl, ⟨rfl, N⟩, hq⟩ := rm0 l s _ hw tables_1 i0 i1 i2 i3 i4  s.heap s.heap.size (Nat.le_refl _)  p e ha hc hk s m _ below hf ((Spec.applies_iff_loose hf).mp happ).1 ⟨rfl, State.Warmed39.refl s, rfl⟩ trivial
  refine ⟨n, _, h1, h2, h3, hpost _ _ _ _ _ _ ⟨Cond.after_iff.mpr rfl, Cond.after_iff.mpr (eq_i res_at (Term.int_eval (1)) rfl), trivial⟩ ⟨hq.1, hq.2.1, hq.2.2.1, (hq.2.2.2.sift fun y hy => Or.inr (N y hy)).mono (by decide) (by decide)⟩⟩
theorem main_1_1 : Claimed_1_1 := comes_1 fun _ _ _ _ _ _ h hF => ⟨h.1, hF⟩
theorem main_1_2 : Claimed_1_2 := comes_1 fun _ _ _ _ _ _ h hF => ⟨h.2.1, hF⟩
end Jvm.Pilot.@@N@@
namespace Jvm.Pilot.@@N@@
open Jvm Jvm.ClassFile Sem Op Lib Jvm.Free Jvm.Stand Jvm.Pilot.@@N@@.Jvm.D
/-! MADE BY PROGRAM (witnessworld.py) out of the Statement's table words and the real class files: 14 classes; the members and pool entries that the words name. The judged class is class 1, her method 3. -/
namespace start1
open Jvm.ClassFile
def u (s : String) : CpInfo := .utf8 (stringToUtf16 s)
/-- a pool by its gaps: so many unusable entries, then the entry; so many at the end -/
def gap : Nat → List CpInfo → List CpInfo
  | 0, r => r
  | n + 1, r => .unusable :: gap n r
def poolList (es : List (Nat × CpInfo)) (last : Nat) : List CpInfo := es.foldr (fun e r => gap e.1 (e.2 :: r)) (gap last [])
def pool (es : List (Nat × CpInfo)) (last : Nat) : Array CpInfo := ⟨poolList es last⟩
def fileOf (pool : Array CpInfo) (this : Nat) (attrs : Array Attribute := #[]) (ms : Array MethodInfo := #[]) (fl : Nat := 33) (sup : Nat := 0) (ifs : Array Nat := #[]) (fds : Array FieldInfo := #[]) : ClassFile where
  minorVersion := 0
  majorVersion := 65
  constantPool := pool
  accessFlags := fl
  thisClass := this
  superClass := sup
  interfaces := ifs
  fields := fds
  methods := ms
  attributes := attrs
def plain (name : String) (sup : Option ClassId) : Class where
  name := name
  kind := .ordinary
  loader := none
  accessFlags := 33
  super := sup
  interfaces := #[]
  cf := none
  fields := #[]
  methods := #[]
  instanceTypes := #[]
  staticTypes := #[]
  resolved := #[]
  callSites := []
  init := .initialized
  statics := none
  mirror := none

def pool0 : Array CpInfo := pool [(5, u "<init>"), (0, u "()V"), (1, .class_ 10), (1, u "java/lang/Object"), (85, u "clone"), (0, u "()Ljava/lang/Object;")] 26

def k0c0 : Code := { maxStack := 0, maxLocals := 1, code := object_method_1_code, exceptionTable := #[], attributes := #[] }
def k0m0 : Method := { name := "<init>", desc := "()V", sig := { parameters := [], returnType := none }, accessFlags := 1, code := some k0c0 }
def k0m1 : Method := { name := "clone", desc := "()Ljava/lang/Object;", sig := { parameters := [], returnType := some (.object "java/lang/Object") }, accessFlags := 260, code := none }
/-- java/lang/Object -/
def k0 : Class := { plain "java/lang/Object" none with
  accessFlags := 33
  interfaces := #[]
  cf := some (fileOf pool0 8 #[] #[{ accessFlags := 1, nameIndex := 5, descriptorIndex := 6, attributes := #[] }, { accessFlags := 260, nameIndex := 96, descriptorIndex := 97, attributes := #[] }] 33 0 #[] #[])
  fields := #[]
  methods := #[k0m0, k0m1]
  instanceTypes := #[]
  staticTypes := #[]
  resolved := Array.replicate 124 none
  statics := none }

def pool1 : Array CpInfo := pool [(2, .class_ 4), (1, u "java/lang/Object"), (0, u "<init>"), (0, u "()V"), (0, .class_ 8), (0, u "com/example/votal/votal/log/LogRecord"), (0, .string 10), (0, u "tpl"), (0, .string 12), (0, u "name"), (0, .methodref 7 14), (0, .nameAndType 5 15), (0, u "(I[BLjava/lang/String;Ljava/lang/String;[B)V"), (0, .methodref 7 17), (0, .nameAndType 18 19), (0, u "getTemplateData"), (0, u "()[B"), (0, .methodref 21 22), (0, .class_ 23), (0, .nameAndType 24 25), (0, u "com/example/votal/votal/log/LogRecordGetTemplateDataPinLaw"), (0, u "holds"), (0, u "([BIII)Z"), (0, .methodref 21 27), (0, .nameAndType 28 29), (0, u "spoil"), (0, u "([B)V"), (3, u "law"), (0, u "(IIIII)Z")] 4

def k1m0 : Method := { name := "<init>", desc := "()V", sig := { parameters := [], returnType := none }, accessFlags := 1, code := none }
def k1c1 : Code := { maxStack := 3, maxLocals := 4, code := method_2_code, exceptionTable := #[], attributes := #[] }
def k1m1 : Method := { name := "holds", desc := "([BIII)Z", sig := { parameters := [(.array .byte), .int, .int, .int], returnType := some .boolean }, accessFlags := 10, code := some k1c1 }
def k1c2 : Code := { maxStack := 4, maxLocals := 1, code := method_3_code, exceptionTable := #[], attributes := #[] }
def k1m2 : Method := { name := "spoil", desc := "([B)V", sig := { parameters := [(.array .byte)], returnType := none }, accessFlags := 10, code := some k1c2 }
def k1c3 : Code := { maxStack := 7, maxLocals := 12, code := code, exceptionTable := #[], attributes := #[] }
def k1m3 : Method := { name := "law", desc := "(IIIII)Z", sig := { parameters := [.int, .int, .int, .int, .int], returnType := some .boolean }, accessFlags := 9, code := some k1c3 }
/-- com/example/votal/votal/log/LogRecordGetTemplateDataPinLaw -/
def k1 : Class := { plain "com/example/votal/votal/log/LogRecordGetTemplateDataPinLaw" (some 0) with
  accessFlags := 49
  interfaces := #[]
  cf := some (fileOf pool1 21 #[] #[{ accessFlags := 1, nameIndex := 5, descriptorIndex := 6, attributes := #[] }, { accessFlags := 10, nameIndex := 24, descriptorIndex := 25, attributes := #[] }, { accessFlags := 10, nameIndex := 28, descriptorIndex := 29, attributes := #[] }, { accessFlags := 9, nameIndex := 33, descriptorIndex := 34, attributes := #[] }] 49 2 #[] #[])
  fields := #[]
  methods := #[k1m0, k1m1, k1m2, k1m3]
  instanceTypes := #[]
  staticTypes := #[]
  resolved := Array.replicate 39 none
  statics := none }

def pool2 : Array CpInfo := pool [(1, .methodref 2 3), (0, .class_ 4), (0, .nameAndType 5 6), (0, u "java/lang/Object"), (0, u "<init>"), (0, u "()V"), (0, .fieldref 8 9), (0, .class_ 10), (0, .nameAndType 11 12), (0, u "com/example/votal/votal/log/LogRecord"), (0, u "mPcr"), (0, u "I"), (0, .fieldref 8 14), (0, .nameAndType 15 16), (0, u "mTemplateDigest"), (0, u "[B"), (6, .fieldref 8 24), (0, .nameAndType 25 26), (0, u "mTemplateName"), (0, u "Ljava/lang/String;"), (0, .fieldref 8 28), (0, .nameAndType 29 30), (0, u "mTemplate"), (0, u "Lcom/example/votal/votal/log/Template;"), (0, .fieldref 8 32), (0, .nameAndType 33 26), (0, u "mName"), (0, .fieldref 8 35), (0, .nameAndType 36 37), (0, u "mDigestAlgorithm"), (0, u "Lcom/example/votal/votal/log/DigestAlgorithm;"), (0, .fieldref 8 39), (0, .nameAndType 40 16), (0, u "mDigest"), (0, .fieldref 8 42), (0, .nameAndType 43 12), (0, u "mEventDataOffset"), (0, .fieldref 8 45), (0, .nameAndType 46 16), (0, u "mTemplateData"), (0, .methodref 8 48), (0, .nameAndType 49 50), (0, u "isZero"), (0, u "([B)Z"), (0, .fieldref 8 52), (0, .nameAndType 53 54), (0, u "mViolation"), (0, u "Z"), (18, .class_ 16), (2, u "DIGEST_SEPARATOR"), (2, u "NUL"), (10, u "()[B"), (0, .methodref 73 92), (0, .nameAndType 93 94), (0, u "clone"), (0, u "()Ljava/lang/Object;"), (27, u "TEMPLATE_DIGEST_ALGORITHM"), (45, u "NO_EVENT_DATA"), (2, u "VIOLATION_BYTE"), (0, u "B"), (3, u "(I[BLjava/lang/String;Ljava/lang/String;[B)V"), (14, u "getTemplateData")] 9

def k2c0 : Code := { maxStack := 2, maxLocals := 6, code := prog_49_method_2_code, exceptionTable := #[], attributes := #[] }
def k2m0 : Method := { name := "<init>", desc := "(I[BLjava/lang/String;Ljava/lang/String;[B)V", sig := { parameters := [.int, (.array .byte), (.object "java/lang/String"), (.object "java/lang/String"), (.array .byte)], returnType := none }, accessFlags := 0, code := some k2c0 }
def k2c1 : Code := { maxStack := 1, maxLocals := 1, code := prog_49_method_13_code, exceptionTable := #[], attributes := #[] }
def k2m1 : Method := { name := "getTemplateData", desc := "()[B", sig := { parameters := [], returnType := some (.array .byte) }, accessFlags := 1, code := some k2c1 }
def k2c2 : Code := { maxStack := 2, maxLocals := 6, code := prog_49_method_16_code, exceptionTable := #[], attributes := #[] }
def k2m2 : Method := { name := "isZero", desc := "([B)Z", sig := { parameters := [(.array .byte)], returnType := some .boolean }, accessFlags := 10, code := some k2c2 }
/-- com/example/votal/votal/log/LogRecord -/
def k2 : Class := { plain "com/example/votal/votal/log/LogRecord" (some 0) with
  accessFlags := 33
  interfaces := #[]
  cf := some (fileOf pool2 8 #[] #[{ accessFlags := 0, nameIndex := 5, descriptorIndex := 176, attributes := #[] }, { accessFlags := 1, nameIndex := 191, descriptorIndex := 90, attributes := #[] }, { accessFlags := 10, nameIndex := 49, descriptorIndex := 50, attributes := #[] }] 33 2 #[] #[{ accessFlags := 24, nameIndex := 122, descriptorIndex := 37, attributes := #[] }, { accessFlags := 24, nameIndex := 168, descriptorIndex := 12, attributes := #[] }, { accessFlags := 26, nameIndex := 171, descriptorIndex := 172, attributes := #[] }, { accessFlags := 26, nameIndex := 79, descriptorIndex := 16, attributes := #[] }, { accessFlags := 26, nameIndex := 76, descriptorIndex := 16, attributes := #[] }, { accessFlags := 18, nameIndex := 11, descriptorIndex := 12, attributes := #[] }, { accessFlags := 18, nameIndex := 15, descriptorIndex := 16, attributes := #[] }, { accessFlags := 18, nameIndex := 25, descriptorIndex := 26, attributes := #[] }, { accessFlags := 18, nameIndex := 29, descriptorIndex := 30, attributes := #[] }, { accessFlags := 18, nameIndex := 33, descriptorIndex := 26, attributes := #[] }, { accessFlags := 18, nameIndex := 36, descriptorIndex := 37, attributes := #[] }, { accessFlags := 18, nameIndex := 40, descriptorIndex := 16, attributes := #[] }, { accessFlags := 18, nameIndex := 43, descriptorIndex := 12, attributes := #[] }, { accessFlags := 18, nameIndex := 46, descriptorIndex := 16, attributes := #[] }, { accessFlags := 18, nameIndex := 53, descriptorIndex := 54, attributes := #[] }])
  fields := #[{ name := "TEMPLATE_DIGEST_ALGORITHM", type := (.object "com/example/votal/votal/log/DigestAlgorithm"), accessFlags := 24, slot := 0, constantValue := 0 }, { name := "NO_EVENT_DATA", type := .int, accessFlags := 24, slot := 1, constantValue := 0 }, { name := "VIOLATION_BYTE", type := .byte, accessFlags := 26, slot := 2, constantValue := 0 }, { name := "NUL", type := (.array .byte), accessFlags := 26, slot := 3, constantValue := 0 }, { name := "DIGEST_SEPARATOR", type := (.array .byte), accessFlags := 26, slot := 4, constantValue := 0 }, { name := "mPcr", type := .int, accessFlags := 18, slot := 0, constantValue := 0 }, { name := "mTemplateDigest", type := (.array .byte), accessFlags := 18, slot := 1, constantValue := 0 }, { name := "mTemplateName", type := (.object "java/lang/String"), accessFlags := 18, slot := 2, constantValue := 0 }, { name := "mTemplate", type := (.object "com/example/votal/votal/log/Template"), accessFlags := 18, slot := 3, constantValue := 0 }, { name := "mName", type := (.object "java/lang/String"), accessFlags := 18, slot := 4, constantValue := 0 }, { name := "mDigestAlgorithm", type := (.object "com/example/votal/votal/log/DigestAlgorithm"), accessFlags := 18, slot := 5, constantValue := 0 }, { name := "mDigest", type := (.array .byte), accessFlags := 18, slot := 6, constantValue := 0 }, { name := "mEventDataOffset", type := .int, accessFlags := 18, slot := 7, constantValue := 0 }, { name := "mTemplateData", type := (.array .byte), accessFlags := 18, slot := 8, constantValue := 0 }, { name := "mViolation", type := .boolean, accessFlags := 18, slot := 9, constantValue := 0 }]
  methods := #[k2m0, k2m1, k2m2]
  instanceTypes := #[.int, (.array .byte), (.object "java/lang/String"), (.object "com/example/votal/votal/log/Template"), (.object "java/lang/String"), (.object "com/example/votal/votal/log/DigestAlgorithm"), (.array .byte), .int, (.array .byte), .boolean]
  staticTypes := #[(.object "com/example/votal/votal/log/DigestAlgorithm"), .int, .byte, (.array .byte), (.array .byte)]
  resolved := Array.replicate 201 none
  statics := none }

def pool3 : Array CpInfo := pool [(1, .class_ 2), (0, u "java/io/Serializable"), (0, .class_ 4), (0, u "java/lang/Object")] 2

/-- java/io/Serializable -/
def k3 : Class := { plain "java/io/Serializable" (some 0) with
  accessFlags := 1537
  interfaces := #[]
  cf := some (fileOf pool3 1 #[] #[] 1537 3 #[] #[])
  fields := #[]
  methods := #[]
  instanceTypes := #[]
  staticTypes := #[]
  resolved := Array.replicate 7 none
  statics := none }

def pool4 : Array CpInfo := pool [(1, .class_ 2), (0, u "java/lang/Comparable"), (0, .class_ 4), (0, u "java/lang/Object")] 7

/-- java/lang/Comparable -/
def k4 : Class := { plain "java/lang/Comparable" (some 0) with
  accessFlags := 1537
  interfaces := #[]
  cf := some (fileOf pool4 1 #[] #[] 1537 3 #[] #[])
  fields := #[]
  methods := #[]
  instanceTypes := #[]
  staticTypes := #[]
  resolved := Array.replicate 12 none
  statics := none }

def pool5 : Array CpInfo := pool [(2, .class_ 4), (1, u "java/lang/CharSequence"), (42, .class_ 48), (0, u "java/lang/CharSequence$1CodePointIterator"), (10, .class_ 60), (0, u "java/lang/CharSequence$1CharIterator"), (5, .class_ 67), (0, u "java/lang/Object")] 63

/-- java/lang/CharSequence -/
def k5 : Class := { plain "java/lang/CharSequence" (some 0) with
  accessFlags := 1537
  interfaces := #[]
  cf := some (fileOf pool5 2 #[.nestMembers #[47, 59]] #[] 1537 66 #[] #[])
  fields := #[]
  methods := #[]
  instanceTypes := #[]
  staticTypes := #[]
  resolved := Array.replicate 131 none
  statics := none }

def pool6 : Array CpInfo := pool [(1, .class_ 2), (0, u "java/lang/constant/Constable"), (0, .class_ 4), (0, u "java/lang/Object")] 6

/-- java/lang/constant/Constable -/
def k6 : Class := { plain "java/lang/constant/Constable" (some 0) with
  accessFlags := 1537
  interfaces := #[]
  cf := some (fileOf pool6 1 #[] #[] 1537 3 #[] #[])
  fields := #[]
  methods := #[]
  instanceTypes := #[]
  staticTypes := #[]
  resolved := Array.replicate 11 none
  statics := none }

def pool7 : Array CpInfo := pool [(1, .class_ 2), (0, u "java/lang/constant/ConstantDesc"), (0, .class_ 4), (0, u "java/lang/Object")] 32

/-- java/lang/constant/ConstantDesc -/
def k7 : Class := { plain "java/lang/constant/ConstantDesc" (some 0) with
  accessFlags := 1537
  interfaces := #[]
  cf := some (fileOf pool7 1 #[] #[] 1537 3 #[] #[])
  fields := #[]
  methods := #[]
  instanceTypes := #[]
  staticTypes := #[]
  resolved := Array.replicate 37 none
  statics := none }

def pool8 : Array CpInfo := pool [(2, .class_ 4), (1, u "java/lang/Object"), (0, u "<init>"), (0, u "()V"), (3, .class_ 12), (1, u "java/lang/String"), (0, u "value"), (0, u "[B"), (2, u "coder"), (0, u "B"), (2, u "hash"), (0, u "I"), (2, u "hashIsZero"), (0, u "Z"), (13, u "COMPACT_STRINGS"), (534, .class_ 576), (0, u "java/lang/CharSequence"), (22, u "CASE_INSENSITIVE_ORDER"), (0, u "Ljava/util/Comparator;"), (500, u "serialPersistentFields"), (0, u "[Ljava/io/ObjectStreamField;"), (0, .class_ 1104), (0, u "java/lang/String$CaseInsensitiveComparator"), (1, .class_ 1107), (0, u "java/io/Serializable"), (0, .class_ 1109), (0, u "java/lang/Comparable"), (0, .class_ 1111), (0, u "java/lang/constant/Constable"), (0, .class_ 1113), (0, u "java/lang/constant/ConstantDesc"), (2, u "serialVersionUID"), (0, u "J"), (3, u "REPL"), (0, u "C"), (2, u "LATIN1"), (1, u "UTF16")] 323

def k8m0 : Method := { name := "<init>", desc := "()V", sig := { parameters := [], returnType := none }, accessFlags := 1, code := none }
/-- java/lang/String -/
def k8 : Class := { plain "java/lang/String" (some 0) with
  accessFlags := 49
  interfaces := #[3, 4, 5, 6, 7]
  cf := some (fileOf pool8 10 #[.nestMembers #[1103]] #[{ accessFlags := 1, nameIndex := 5, descriptorIndex := 6, attributes := #[] }] 49 2 #[1106, 1108, 575, 1110, 1112] #[{ accessFlags := 18, nameIndex := 13, descriptorIndex := 14, attributes := #[] }, { accessFlags := 18, nameIndex := 17, descriptorIndex := 18, attributes := #[] }, { accessFlags := 2, nameIndex := 21, descriptorIndex := 22, attributes := #[] }, { accessFlags := 2, nameIndex := 25, descriptorIndex := 26, attributes := #[] }, { accessFlags := 26, nameIndex := 1116, descriptorIndex := 1117, attributes := #[] }, { accessFlags := 24, nameIndex := 40, descriptorIndex := 26, attributes := #[] }, { accessFlags := 26, nameIndex := 1101, descriptorIndex := 1102, attributes := #[] }, { accessFlags := 26, nameIndex := 1121, descriptorIndex := 1122, attributes := #[] }, { accessFlags := 25, nameIndex := 599, descriptorIndex := 600, attributes := #[] }, { accessFlags := 24, nameIndex := 1125, descriptorIndex := 18, attributes := #[] }, { accessFlags := 24, nameIndex := 1127, descriptorIndex := 18, attributes := #[] }])
  fields := #[{ name := "value", type := (.array .byte), accessFlags := 18, slot := 0, constantValue := 0 }, { name := "coder", type := .byte, accessFlags := 18, slot := 1, constantValue := 0 }, { name := "hash", type := .int, accessFlags := 2, slot := 2, constantValue := 0 }, { name := "hashIsZero", type := .boolean, accessFlags := 2, slot := 3, constantValue := 0 }, { name := "serialVersionUID", type := .long, accessFlags := 26, slot := 0, constantValue := 0 }, { name := "COMPACT_STRINGS", type := .boolean, accessFlags := 24, slot := 1, constantValue := 0 }, { name := "serialPersistentFields", type := (.array (.object "java/io/ObjectStreamField")), accessFlags := 26, slot := 2, constantValue := 0 }, { name := "REPL", type := .char, accessFlags := 26, slot := 3, constantValue := 0 }, { name := "CASE_INSENSITIVE_ORDER", type := (.object "java/util/Comparator"), accessFlags := 25, slot := 4, constantValue := 0 }, { name := "LATIN1", type := .byte, accessFlags := 24, slot := 5, constantValue := 0 }, { name := "UTF16", type := .byte, accessFlags := 24, slot := 6, constantValue := 0 }]
  methods := #[k8m0]
  instanceTypes := #[(.array .byte), .byte, .int, .boolean]
  staticTypes := #[.long, .boolean, (.array (.object "java/io/ObjectStreamField")), .char, (.object "java/util/Comparator"), .byte, .byte]
  resolved := Array.replicate 1451 none
  statics := none }

def pool9 : Array CpInfo := pool [(1, .class_ 2), (0, u "java/lang/Cloneable"), (0, .class_ 4), (0, u "java/lang/Object")] 2

/-- java/lang/Cloneable -/
def k9 : Class := { plain "java/lang/Cloneable" (some 0) with
  accessFlags := 1537
  interfaces := #[]
  cf := some (fileOf pool9 1 #[] #[] 1537 3 #[] #[])
  fields := #[]
  methods := #[]
  instanceTypes := #[]
  staticTypes := #[]
  resolved := Array.replicate 7 none
  statics := none }

/-- the primitive byte -/
def k10 : Class := { plain "byte" none with kind := .primitive 'B', accessFlags := 0x411 }
/-- [B -/
def k11 : Class := { plain "[B" (some 0) with kind := .array 10 .byte, interfaces := #[9, 3], accessFlags := 1041 }

/-- the primitive int -/
def k12 : Class := { plain "int" none with kind := .primitive 'I', accessFlags := 0x411 }
/-- [I -/
def k13 : Class := { plain "[I" (some 0) with kind := .array 12 .int, interfaces := #[9, 3], accessFlags := 1041 }

def heap : Heap := #[]
def classes : Array Class := #[k0, k1, k2, k3, k4, k5, k6, k7, k8, k9, k10, k11, k12, k13]
def interned : List (Array UInt16 × Addr) := []
def slotsUsed : Nat := 0
def theMethod : MethodId := ⟨1, 3⟩
def args0 : Array Value := #[.int 3, .int 2, .int 5, .int 6, .int 7]
def aboutOver (below : List Frame) : State where
  vm := { classes := classes, interned := interned.toArray }
  heap := heap
  slotsUsed := slotsUsed
  threads := #[{ frames := .invoking theMethod args0 :: below }]
def below0 : List Frame := [.native { method := ⟨0, 0⟩, args := #[] }]
def about1 : State := aboutOver below0
def p0 : Program := .bare "" "" ""
def e0 : Env := launch0.env 0 0 0
theorem w_frames : about1.frames = Frame.invoking theMethod args0 :: below0 := rfl
set_option maxRecDepth 65536 in
theorem w_args : argsFit about1.vm theMethod args0 = true := by decide +kernel
set_option maxRecDepth 65536 in
theorem w_heap : heapFits about1 = true := by decide +kernel
set_option maxRecDepth 65536 in
theorem w_runnable : about1.curStatus? = some .runnable := by decide +kernel
set_option maxRecDepth 65536 in
theorem w_alone : about1.alone = true := by decide +kernel
set_option maxRecDepth 65536 in
theorem w_named : about1.methodNamed? x = some theMethod := by decide +kernel
set_option maxRecDepth 65536 in
theorem w_hears : about1.hears theMethod below0 = true := by decide +kernel
set_option maxRecDepth 65536 in
theorem w_ripe : about1.ripe theMethod args0 below0 = true := by decide +kernel
theorem w_running : about1.status = .running := rfl
set_option maxRecDepth 65536 in
theorem w_room : about1.hasRoom e0.platform room_1 = true :=
  launch0.hasRoom_least _ room_1 (by decide +kernel) (by decide +kernel) (by decide +kernel) (by decide +kernel) (by decide +kernel) (by decide +kernel)
theorem allAtoms_all (ts : List Jvm.Cond) (a : Array Jvm.Value) (st : Jvm.State) : (allAtoms ts).before a st = ts.all (fun c => c.before a st) := by
  induction ts with
  | nil => rfl
  | cons c t ih =>
    show (Jvm.Cond.and c (allAtoms t)).before a st = _
    rw [Jvm.Cond.before_and, ih, List.all_cons]
def words1 : List Jvm.Cond := Jvm.Cond.code x code maxLocals ret :: tables_1
/-- a 'code' word, met by the world's own term for the bytes: nothing is compared byte by byte -/
theorem code_word {y : MethodName} {bytes : ByteArray} {mx : Nat} {rt : Option FieldType} {a : Array Value} {s : State} {m : MethodId} {meth : Method} {c : Code} (h1 : s.methodNamed? y = some m) (h2 : s.vm.method? m = some meth) (h3 : meth.code = some c) (h4 : c.code = bytes)
    (h5 : (c.maxLocals == mx && c.exceptionTable.isEmpty && decide (c.maxStack ≤ mostOperands) && decide (meth.sig.returnType = rt) && !meth.locks && decide (parseMethodDescriptor y.desc = some meth.sig)) = true) : (Jvm.Cond.code y bytes mx rt).before a s = true := by
  simp only [Bool.and_eq_true, beq_iff_eq, Bool.not_eq_true', decide_eq_true_eq] at h5
  obtain ⟨⟨⟨⟨⟨g1, g2⟩, g3⟩, g4⟩, g5⟩, g6⟩ := h5
  simp [Cond.before, Cond.holds, Cond.value, h1, h2, h3, h4, g1, g2, g3, g4, g5, g6]
def isCode : Jvm.Cond → Bool
  | .code _ _ _ _ => true
  | _ => false
theorem all_split {L : List Jvm.Cond} {P : Jvm.Cond → Bool} (h1 : L.all (fun c => isCode c || P c) = true) (h2 : ∀ c ∈ L.filter isCode, P c = true) : L.all P = true := by
  refine List.all_eq_true.mpr fun c hc => ?_
  have h := List.all_eq_true.mp h1 c hc
  rcases Bool.eq_false_or_eq_true (isCode c) with hi | hi
  · exact h2 c (List.mem_filter.mpr ⟨hc, hi⟩)
  · simpa [hi] using h
set_option maxRecDepth 65536 in
theorem w_c0 : (Jvm.Cond.code x code maxLocals ret).before args0 about1 = true := code_word (m := ⟨1, 3⟩) (meth := k1m3) (c := k1c3) (by decide +kernel) rfl rfl rfl (by decide +kernel)
set_option maxRecDepth 65536 in
theorem w_c1 : (Jvm.Cond.code ({ cls := "com/example/votal/votal/log/LogRecord", name := "<init>", desc := "(I[BLjava/lang/String;Ljava/lang/String;[B)V" } : Jvm.MethodName) prog_49_method_2_code (6 : Nat) (Option.none : Option Jvm.ClassFile.FieldType)).before args0 about1 = true := code_word (m := ⟨2, 0⟩) (meth := k2m0) (c := k2c0) (by decide +kernel) rfl rfl rfl (by decide +kernel)
set_option maxRecDepth 65536 in
theorem w_c2 : (Jvm.Cond.code ({ cls := "java/lang/Object", name := "<init>", desc := "()V" } : Jvm.MethodName) object_method_1_code (1 : Nat) (Option.none : Option Jvm.ClassFile.FieldType)).before args0 about1 = true := code_word (m := ⟨0, 0⟩) (meth := k0m0) (c := k0c0) (by decide +kernel) rfl rfl rfl (by decide +kernel)
set_option maxRecDepth 65536 in
theorem w_c3 : (Jvm.Cond.code ({ cls := "com/example/votal/votal/log/LogRecord", name := "isZero", desc := "([B)Z" } : Jvm.MethodName) prog_49_method_16_code (6 : Nat) (Option.some Jvm.ClassFile.FieldType.boolean)).before args0 about1 = true := code_word (m := ⟨2, 2⟩) (meth := k2m2) (c := k2c2) (by decide +kernel) rfl rfl rfl (by decide +kernel)
set_option maxRecDepth 65536 in
theorem w_c4 : (Jvm.Cond.code ({ cls := "com/example/votal/votal/log/LogRecord", name := "getTemplateData", desc := "()[B" } : Jvm.MethodName) prog_49_method_13_code (1 : Nat) (Option.some (Jvm.ClassFile.FieldType.array Jvm.ClassFile.FieldType.byte))).before args0 about1 = true := code_word (m := ⟨2, 1⟩) (meth := k2m1) (c := k2c1) (by decide +kernel) rfl rfl rfl (by decide +kernel)
set_option maxRecDepth 65536 in
theorem w_c5 : (Jvm.Cond.code ({ cls := "com/example/votal/votal/log/LogRecordGetTemplateDataPinLaw", name := "holds", desc := "([BIII)Z" } : Jvm.MethodName) method_2_code (4 : Nat) (Option.some Jvm.ClassFile.FieldType.boolean)).before args0 about1 = true := code_word (m := ⟨1, 1⟩) (meth := k1m1) (c := k1c1) (by decide +kernel) rfl rfl rfl (by decide +kernel)
set_option maxRecDepth 65536 in
theorem w_c6 : (Jvm.Cond.code ({ cls := "com/example/votal/votal/log/LogRecordGetTemplateDataPinLaw", name := "spoil", desc := "([B)V" } : Jvm.MethodName) method_3_code (1 : Nat) (Option.none : Option Jvm.ClassFile.FieldType)).before args0 about1 = true := code_word (m := ⟨1, 2⟩) (meth := k1m2) (c := k1c2) (by decide +kernel) rfl rfl rfl (by decide +kernel)
def codes1 : List Jvm.Cond := [Jvm.Cond.code x code maxLocals ret, Jvm.Cond.code ({ cls := "com/example/votal/votal/log/LogRecord", name := "<init>", desc := "(I[BLjava/lang/String;Ljava/lang/String;[B)V" } : Jvm.MethodName) prog_49_method_2_code (6 : Nat) (Option.none : Option Jvm.ClassFile.FieldType), Jvm.Cond.code ({ cls := "java/lang/Object", name := "<init>", desc := "()V" } : Jvm.MethodName) object_method_1_code (1 : Nat) (Option.none : Option Jvm.ClassFile.FieldType), Jvm.Cond.code ({ cls := "com/example/votal/votal/log/LogRecord", name := "isZero", desc := "([B)Z" } : Jvm.MethodName) prog_49_method_16_code (6 : Nat) (Option.some Jvm.ClassFile.FieldType.boolean), Jvm.Cond.code ({ cls := "com/example/votal/votal/log/LogRecord", name := "getTemplateData", desc := "()[B" } : Jvm.MethodName) prog_49_method_13_code (1 : Nat) (Option.some (Jvm.ClassFile.FieldType.array Jvm.ClassFile.FieldType.byte)), Jvm.Cond.code ({ cls := "com/example/votal/votal/log/LogRecordGetTemplateDataPinLaw", name := "holds", desc := "([BIII)Z" } : Jvm.MethodName) method_2_code (4 : Nat) (Option.some Jvm.ClassFile.FieldType.boolean), Jvm.Cond.code ({ cls := "com/example/votal/votal/log/LogRecordGetTemplateDataPinLaw", name := "spoil", desc := "([B)V" } : Jvm.MethodName) method_3_code (1 : Nat) (Option.none : Option Jvm.ClassFile.FieldType)]
set_option maxRecDepth 65536 in
theorem codes_eq : words1.filter isCode = codes1 := rfl
theorem w_codes : ∀ c ∈ words1.filter isCode, c.before args0 about1 = true := by
  rw [codes_eq]
  intro c hc
  simp only [codes1, List.mem_cons, List.not_mem_nil, or_false] at hc
  rcases hc with rfl | rfl | rfl | rfl | rfl | rfl | rfl
  · exact w_c0
  · exact w_c1
  · exact w_c2
  · exact w_c3
  · exact w_c4
  · exact w_c5
  · exact w_c6
set_option maxRecDepth 65536 in
theorem w_t1 : (words1.take 24).all (fun c => isCode c || c.before args0 about1) = true := by decide +kernel
set_option maxRecDepth 65536 in
theorem w_t2 : ((words1.drop 24).take 24).all (fun c => isCode c || c.before args0 about1) = true := by decide +kernel
set_option maxRecDepth 65536 in
theorem w_t3 : ((words1.drop 24).drop 24).all (fun c => isCode c || c.before args0 about1) = true := by decide +kernel
theorem w_tables : (allAtoms (Jvm.Cond.code x code maxLocals ret :: tables_1)).before args0 about1 = true := by
  rw [allAtoms_all]
  show words1.all (fun c => c.before args0 about1) = true
  refine all_split ?_ w_codes
  rw [← List.take_append_drop 24 words1, List.all_append, w_t1, ← List.take_append_drop 24 (words1.drop 24), List.all_append, w_t2, w_t3]
  rfl
set_option maxRecDepth 65536 in
theorem w_case : (Jvm.Cond.and given_1 narrow_1).before args0 about1 = true := by decide +kernel
theorem w_applies : (headSpec (Jvm.Cond.code x code maxLocals ret :: tables_1) room_1).applies x e0.platform about1 = true :=
  (Spec.applies_iff w_frames).mpr ⟨w_running, w_runnable, w_alone, w_named, w_hears, w_ripe, w_room, w_tables⟩
theorem atStart : AtStart classFile x code maxLocals ret World_1 tables_1 room_1 Calls_1 rest_1 Pre_1 launch0 p0 e0 about1 theMethod args0 below0 :=
  ⟨lists_1, trivial, launch0.admits_env _ _ _, launch0.least_env, fairChoices_fair.cas, fairChoices_fair.clock, w_frames, w_args, w_heap, w_applies, trivial, trivial, w_case⟩
end start1
theorem witness_1 : WitnessClaimed_1 := ⟨start1.p0, start1.e0, start1.about1, start1.theMethod, start1.args0, start1.below0, start1.atStart⟩
end Jvm.Pilot.@@N@@
